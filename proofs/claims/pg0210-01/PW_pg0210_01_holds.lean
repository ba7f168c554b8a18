import PyProof.Rows.All
import Wide.All
import OpenK.AllK
import Wide.FinOn
import Lean
import PySem.Challenge.RW_pg0210_01
set_option Elab.async false
set_option maxRecDepth 100000
set_option linter.unusedVariables false
set_option linter.unusedSimpArgs false

section
namespace Mine

/-- a drawn piece: a dot, a lasting sign with its three forms, a sign of a table -/
inductive Pc where
  | dot
  | last (f0 f1 f2 : List Nat)
  | sign (c t : Nat)

def Pc.form (p : Pc) (k : Nat) : List Nat := match p with
  | .dot => [46]
  | .last f0 f1 f2 => match k with | 0 => f0 | 1 => f1 | _ => f2
  | .sign c _ => [c]

def taker (ts : List Nat) : Pc → Nat
  | .sign _ t => ts.idxOf t
  | _ => ts.length + 1

/-- every piece behind is taken by `m` at the latest -/
def allBy (ts : List Nat) (m : Int) (row : List Pc) : Bool := row.all fun p => decide ((taker ts p : Int) ≤ m)

def fgo (ts : List Nat) : List Pc → List Nat → Int → Int → Bool → Option (List Nat)
  | [], left, _, _, _ => some left
  | .sign c t :: r, left, ahead, lst, front => fgo ts r (left ++ if ts.idxOf t = ts.length then [c] else []) ahead (max lst (ts.idxOf t : Int)) front
  | .last f0 f1 f2 :: r, left, ahead, lst, _ => fgo ts r (left ++ (Pc.last f0 f1 f2).form ts.length) ahead lst false
  | .dot :: r, left, ahead, lst, front =>
    if front = true ∧ ahead < lst ∧ lst < (ts.length : Int) then
      if allBy ts lst r then none else fgo ts r left lst (-1) front
    else fgo ts r (left ++ [46]) ahead lst false

def fate (ts : List Nat) (row : List Pc) : Option (List Nat) := fgo ts row [] (-1) (-1) true

def body (ts : List Nat) : List Pc → List Nat
  | [] => []
  | .sign c t :: r => (if ts.idxOf t = ts.length then [c] else []) ++ body ts r
  | .last f0 f1 f2 :: r => (Pc.last f0 f1 f2).form ts.length ++ body ts r
  | .dot :: r => 46 :: body ts r

theorem fgo_lin (ts : List Nat) : ∀ (row : List Pc) (left : List Nat) (ahead lst : Int) (front : Bool),
    (front = false ∨ (ts.length : Int) ≤ lst ∨ (ts.length : Int) ≤ ahead + 1) → fgo ts row left ahead lst front = some (left ++ body ts row)
  | [], left, _, _, _, _ => by simp [fgo, body]
  | .sign c t :: r, left, ahead, lst, front, h => by
    rw [fgo, fgo_lin ts r _ _ _ _ (h.imp id (Or.imp (fun q => by omega) id)), body, List.append_assoc]
  | .last f0 f1 f2 :: r, left, ahead, lst, front, h => by
    rw [fgo, fgo_lin ts r _ _ _ _ (Or.inl rfl), body, List.append_assoc]
  | .dot :: r, left, ahead, lst, front, h => by
    rw [fgo, if_neg (by rintro ⟨rfl, h1, h2⟩; rcases h with h | h | h <;> first | cases h | omega), fgo_lin ts r _ _ _ _ (Or.inl rfl), body]
    simp

section
variable (fold : Nat → List Nat) (inT : Nat → Nat → Bool)

/-- what a relay with the table T makes of a text: folded, the table's signs left out -/
def ff (T : Nat) (l : List Nat) : List Nat := (l.flatMap fold).filter fun c => !inT T c

def stuffRow (l : List Nat) : List Nat := if l.head? = some 46 then 46 :: l else l
def hear (w : List Nat) : Option (List Nat) := if w = [46] then none else some (if w.head? = some 46 then w.tail else w)
def stepT (T : Nat) (l : List Nat) : Option (List Nat) := hear (ff fold inT T (stuffRow l))

/-- a piece as the law draws it -/
def Good : Pc → Prop
  | .dot => True
  | .last f0 f1 f2 => f0.flatMap fold = f1 ∧ f1.flatMap fold = f2 ∧ f2.flatMap fold = f2 ∧
      (∀ c ∈ f0 ++ f1 ++ f2, c ≠ 10 ∧ c ≠ 13 ∧ ∀ T, T < 7 → inT T c = false) ∧
      f0 ≠ [] ∧ f1 ≠ [] ∧ f2 ≠ [] ∧ f0.head? ≠ some 46 ∧ f1.head? ≠ some 46 ∧ f2.head? ≠ some 46
  | .sign c t => t < 7 ∧ fold c = [c] ∧ c ≠ 46 ∧ c ≠ 10 ∧ c ≠ 13 ∧ ∀ T, T < 7 → inT T c = decide (T = t)

/-- the dot and the row ends pass every relay -/
def Plain : Prop := ∀ c, (c = 46 ∨ c = 10 ∨ c = 13) → fold c = [c] ∧ ∀ T, T < 7 → inT T c = false

variable {fold inT}

theorem ff_append (T : Nat) (a b : List Nat) : ff fold inT T (a ++ b) = ff fold inT T a ++ ff fold inT T b := by
  simp [ff]
theorem ff_nil (T : Nat) : ff fold inT T [] = [] := rfl

theorem ff_plain (P : Plain fold inT) {T : Nat} (hT : T < 7) {c : Nat} (hc : c = 46 ∨ c = 10 ∨ c = 13) : ff fold inT T [c] = [c] := by
  obtain ⟨h1, h2⟩ := P c hc
  simp [ff, h1, h2 T hT]

theorem ff_sign {c t T : Nat} (g : Good fold inT (.sign c t)) (hT : T < 7) : ff fold inT T [c] = if T = t then [] else [c] := by
  obtain ⟨_, h1, _, _, _, h2⟩ := g
  simp only [ff, List.flatMap_cons, h1, List.flatMap_nil, List.append_nil, List.filter_cons, h2 T hT, List.filter_nil]
  by_cases h : T = t <;> simp [h]

theorem filter_id {p : Nat → Bool} : ∀ {l : List Nat}, (∀ c ∈ l, p c = true) → l.filter p = l
  | l, h => List.filter_eq_self.mpr h

theorem ff_last {f0 f1 f2 : List Nat} (g : Good fold inT (.last f0 f1 f2)) {T : Nat} (hT : T < 7) (k : Nat) :
    ff fold inT T ((Pc.last f0 f1 f2).form k) = (Pc.last f0 f1 f2).form (k + 1) := by
  obtain ⟨a, b, c, d, _⟩ := g
  have d' : ∀ x ∈ f0 ++ f1 ++ f2, (!inT T x) = true := fun x hx => by rw [(d x hx).2.2 T hT]; rfl
  unfold ff
  match k with
  | 0 => simp only [Pc.form, a]; exact filter_id fun x hx => d' x (by simp [hx])
  | 1 => simp only [Pc.form, b]; exact filter_id fun x hx => d' x (by simp [hx])
  | k + 2 => simp only [Pc.form, c]; exact filter_id fun x hx => d' x (by simp [hx])

theorem form_head {f0 f1 f2 : List Nat} (g : Good fold inT (.last f0 f1 f2)) (k : Nat) (r : List Nat) :
    ((Pc.last f0 f1 f2).form k ++ r).head? ≠ some 46 ∧ (Pc.last f0 f1 f2).form k ≠ [] := by
  obtain ⟨_, _, _, _, n0, n1, n2, h0, h1, h2⟩ := g
  have aux : ∀ l : List Nat, l ≠ [] → l.head? ≠ some 46 → (l ++ r).head? ≠ some 46 ∧ l ≠ [] := fun l hn hh => by
    cases l with
    | nil => exact absurd rfl hn
    | cons x l => exact ⟨hh, hn⟩
  match k with
  | 0 => exact aux _ n0 h0
  | 1 => exact aux _ n1 h1
  | k + 2 => exact aux _ n2 h2

theorem idx_app {ts : List Nat} {t T : Nat} : (ts ++ [T]).idxOf t = if t ∈ ts then ts.idxOf t else if t = T then ts.length else ts.length + 1 := by
  rw [List.idxOf_append]
  split
  · rfl
  · simp only [List.idxOf_cons, List.idxOf_nil]
    by_cases h : t = T
    · subst h; simp
    · have : (T == t) = false := by simpa using fun e => h e.symm
      simp [this, h]; omega
theorem idx_len {ts : List Nat} {t : Nat} : ts.idxOf t = ts.length ↔ t ∉ ts := by
  constructor
  · intro h m
    have := List.idxOf_lt_length_iff.mpr m
    omega
  · exact List.idxOf_eq_length
theorem idx_lt {ts : List Nat} {t : Nat} : ts.idxOf t < ts.length ↔ t ∈ ts := List.idxOf_lt_length_iff

theorem idx_in {ts : List Nat} {t T : Nat} (m : t ∈ ts) : (ts ++ [T]).idxOf t = ts.idxOf t := by rw [idx_app, if_pos m]
theorem idx_T {ts : List Nat} {T : Nat} (m : T ∉ ts) : (ts ++ [T]).idxOf T = ts.length := by rw [idx_app, if_neg m, if_pos rfl]
theorem idx_out {ts : List Nat} {t T : Nat} (m : t ∉ ts) (e : ¬ T = t) : (ts ++ [T]).idxOf t = ts.length + 1 := by rw [idx_app, if_neg m, if_neg fun q => e q.symm]
theorem len_app {ts : List Nat} {T : Nat} : (ts ++ [T]).length = ts.length + 1 := by simp

theorem body_ff (P : Plain fold inT) {ts : List Nat} {T : Nat} (hT : T < 7) : ∀ row : List Pc, (∀ p ∈ row, Good fold inT p) → ff fold inT T (body ts row) = body (ts ++ [T]) row
  | [], _ => rfl
  | .sign c t :: r, h => by
    rw [body, body, ff_append, body_ff P hT r (fun p hp => h p (List.mem_cons_of_mem _ hp))]
    congr 1
    have g := h _ (List.mem_cons_self ..)
    rw [idx_app]
    by_cases m : t ∈ ts
    · have := idx_lt.mpr m
      have h1 : ts.idxOf t ≠ ts.length := by omega
      have h2 : ts.idxOf t ≠ (ts ++ [T]).length := by simp; omega
      rw [if_neg h1, if_pos m, if_neg h2]; rfl
    · rw [if_pos (idx_len.mpr m), if_neg m, ff_sign g hT]
      by_cases e : T = t
      · subst e; simp
      · rw [if_neg e, if_pos (by rw [if_neg (fun q => e q.symm)]; simp)]
  | .last f0 f1 f2 :: r, h => by
    rw [body, body, ff_append, body_ff P hT r (fun p hp => h p (List.mem_cons_of_mem _ hp)), ff_last (h _ (List.mem_cons_self ..)) hT]
    simp
  | .dot :: r, h => by
    rw [body, body, show 46 :: body ts r = [46] ++ body ts r from rfl, ff_append, body_ff P hT r (fun p hp => h p (List.mem_cons_of_mem _ hp)), ff_plain P hT (Or.inl rfl)]
    rfl

theorem allBy_iff {ts : List Nat} {m : Int} {row : List Pc} : allBy ts m row = true ↔ ∀ p ∈ row, (taker ts p : Int) ≤ m := by
  unfold allBy
  rw [List.all_eq_true]
  exact ⟨fun h p hp => of_decide_eq_true (h p hp), fun h p hp => decide_eq_true (h p hp)⟩

theorem allBy_nil {ts : List Nat} {m : Int} (hm : m < ts.length) : ∀ {row : List Pc}, allBy ts m row = true → body ts row = []
  | [], _ => rfl
  | p :: r, h => by
    have h' := allBy_iff.mp h
    have h0 := h' p (List.mem_cons_self ..)
    have hr := allBy_nil hm (row := r) (allBy_iff.mpr fun q hq => h' q (List.mem_cons_of_mem _ hq))
    cases p with
    | sign c t =>
      have h0 : (ts.idxOf t : Int) ≤ m := h0
      rw [body, if_neg (by omega), hr]; rfl
    | last => have h0 : ((ts.length + 1 : Nat) : Int) ≤ m := h0; omega
    | dot => have h0 : ((ts.length + 1 : Nat) : Int) ≤ m := h0; omega

theorem allBy_some {ts : List Nat} {m : Int} (hm : (ts.length : Int) ≤ m + 1) : ∀ {row : List Pc}, (∀ p ∈ row, Good fold inT p) → allBy ts m row = false → body ts row ≠ []
  | [], _, h => by simp [allBy] at h
  | .sign c t :: r, g, h => by
    rw [body]
    by_cases q : ts.idxOf t = ts.length
    · rw [if_pos q]; simp
    · rw [if_neg q]
      have hlt : ts.idxOf t < ts.length := by
        have := List.idxOf_le_length (a := t) (l := ts)
        omega
      have h' : allBy ts m r = false := by
        cases e : allBy ts m r with
        | false => rfl
        | true =>
          have e' := allBy_iff.mp e
          have : allBy ts m (.sign c t :: r) = true := allBy_iff.mpr fun p hp => by
            rcases List.mem_cons.mp hp with rfl | hp
            · show (ts.idxOf t : Int) ≤ m; omega
            · exact e' p hp
          rw [h] at this; cases this
      exact allBy_some hm (fun p hp => g p (List.mem_cons_of_mem _ hp)) h'
  | .last f0 f1 f2 :: r, g, _ => by
    rw [body]
    have := (form_head (g _ (List.mem_cons_self ..)) ts.length []).2
    simp [this]
  | .dot :: r, _, _ => by rw [body]; simp

theorem allBy_app {ts : List Nat} {T : Nat} {m : Int} (hm : m < ts.length) (row : List Pc) : allBy (ts ++ [T]) m row = allBy ts m row := by
  rw [Bool.eq_iff_iff, allBy_iff, allBy_iff]
  have key : ∀ p, (taker (ts ++ [T]) p : Int) ≤ m ↔ (taker ts p : Int) ≤ m := fun p => by
    cases p with
    | dot => show (((ts ++ [T]).length + 1 : Nat) : Int) ≤ m ↔ ((ts.length + 1 : Nat) : Int) ≤ m; simp only [List.length_append, List.length_singleton]; omega
    | last => show (((ts ++ [T]).length + 1 : Nat) : Int) ≤ m ↔ ((ts.length + 1 : Nat) : Int) ≤ m; simp only [List.length_append, List.length_singleton]; omega
    | sign c t =>
      show (((ts ++ [T]).idxOf t : Nat) : Int) ≤ m ↔ ((ts.idxOf t : Nat) : Int) ≤ m
      rw [idx_app]
      by_cases h : t ∈ ts
      · rw [if_pos h]
      · rw [if_neg h, idx_len.mpr h]
        split <;> omega
  exact ⟨fun h p hp => (key p).mp (h p hp), fun h p hp => (key p).mpr (h p hp)⟩

theorem hear_other {w : List Nat} (h : w.head? ≠ some 46) : hear w = some w := by
  unfold hear
  rw [if_neg (by rintro rfl; exact h rfl), if_neg h]

/-- the first sign was left for the relay T: what is ahead of the first dot goes now -/
theorem stage_b (P : Plain fold inT) {ts : List Nat} {T : Nat} (hT : T < 7) (hTn : T ∉ ts) {ahead : Int} (ha : ahead < ts.length) : ∀ (row : List Pc), (∀ p ∈ row, Good fold inT p) →
    hear (ff fold inT T (body ts row)) = fgo (ts ++ [T]) row [] ahead (ts.length : Int) true
  | [], _ => by simp [body, fgo, ff_nil, hear]
  | .sign c t :: r, g => by
    have g0 := g _ (List.mem_cons_self ..)
    have gr : ∀ p ∈ r, Good fold inT p := fun p hp => g p (List.mem_cons_of_mem _ hp)
    rw [body, fgo, ff_append]
    by_cases m : t ∈ ts
    · have := idx_lt.mpr m
      rw [idx_in m, if_neg (by omega), if_neg (by rw [len_app]; omega), ff_nil, List.nil_append, List.nil_append,
        show max (ts.length : Int) (ts.idxOf t : Int) = ts.length by omega]
      exact stage_b P hT hTn ha r gr
    · rw [if_pos (idx_len.mpr m), ff_sign g0 hT]
      by_cases e : T = t
      · subst e
        rw [if_pos rfl, idx_T m, if_neg (by rw [len_app]; omega), List.nil_append, List.nil_append, show max (ts.length : Int) (ts.length : Int) = ts.length by omega]
        exact stage_b P hT hTn ha r gr
      · rw [if_neg e, idx_out m e, if_pos len_app.symm, fgo_lin _ _ _ _ _ _ (Or.inr (Or.inl (by rw [len_app]; omega))), body_ff P hT r gr, hear_other]
        · rfl
        · simp; exact g0.2.2.1
  | .last f0 f1 f2 :: r, g => by
    have g0 := g _ (List.mem_cons_self ..)
    have gr : ∀ p ∈ r, Good fold inT p := fun p hp => g p (List.mem_cons_of_mem _ hp)
    rw [body, fgo, ff_append, ff_last g0 hT, body_ff P hT r gr, fgo_lin _ _ _ _ _ _ (Or.inl rfl), List.length_append, List.length_singleton, hear_other (form_head g0 _ _).1]
    simp
  | .dot :: r, g => by
    have gr : ∀ p ∈ r, Good fold inT p := fun p hp => g p (List.mem_cons_of_mem _ hp)
    rw [body, fgo, if_pos ⟨rfl, ha, by rw [len_app]; omega⟩, show 46 :: body ts r = [46] ++ body ts r from rfl, ff_append, body_ff P hT r gr, ff_plain P hT (Or.inl rfl)]
    cases e : allBy (ts ++ [T]) ts.length r with
    | true =>
      rw [if_pos rfl, allBy_nil (by simp; omega) e]; rfl
    | false =>
      rw [if_neg (by simp), fgo_lin _ _ _ _ _ _ (Or.inr (Or.inr (by simp)))]
      have := allBy_some (ts := ts ++ [T]) (m := ts.length) (by simp) gr e
      unfold hear
      rw [if_neg (by intro q; exact this (by simpa using q))]
      rfl

theorem stuff_other {l : List Nat} (h : l.head? ≠ some 46) : stuffRow l = l := if_neg h

theorem stage_a (P : Plain fold inT) {ts : List Nat} {T : Nat} (hT : T < 7) : ∀ (row : List Pc) (ahead lst : Int), ahead < ts.length → lst < ts.length → (∀ p ∈ row, Good fold inT p) →
    (fgo ts row [] ahead lst true).bind (stepT fold inT T) = fgo (ts ++ [T]) row [] ahead lst true
  | [], _, _, _, _, _ => by simp [fgo, stepT, stuffRow, ff_nil, hear]
  | .sign c t :: r, ahead, lst, ha, hl, g => by
    have g0 := g _ (List.mem_cons_self ..)
    have gr : ∀ p ∈ r, Good fold inT p := fun p hp => g p (List.mem_cons_of_mem _ hp)
    rw [fgo, fgo]
    by_cases m : t ∈ ts
    · have := idx_lt.mpr m
      rw [idx_in m, if_neg (by omega), if_neg (by rw [len_app]; omega)]
      exact stage_a P hT r _ _ ha (by omega) gr
    · have hc : ∀ X, ([] ++ [c] ++ X).head? ≠ some 46 := fun X => by simp; exact g0.2.2.1
      rw [if_pos (idx_len.mpr m), idx_len.mpr m, fgo_lin ts _ _ _ _ _ (Or.inr (Or.inl (by omega)))]
      rw [Option.bind_some]
      by_cases e : T = t
      · subst e
        rw [idx_T m, if_neg (by rw [len_app]; omega), show max lst (ts.length : Int) = ts.length by omega, List.append_nil]
        rw [← stage_b P hT m ha r gr]
        unfold stepT
        rw [stuff_other (hc _), ff_append, List.nil_append, ff_sign g0 hT, if_pos rfl, List.nil_append]
      · rw [idx_out m e, if_pos len_app.symm, fgo_lin _ _ _ _ _ _ (Or.inr (Or.inl (by rw [len_app]; omega)))]
        unfold stepT
        rw [stuff_other (hc _), ff_append, List.nil_append, ff_sign g0 hT, if_neg e, body_ff P hT r gr, hear_other]
        simp; exact g0.2.2.1
  | .last f0 f1 f2 :: r, ahead, lst, ha, hl, g => by
    have g0 := g _ (List.mem_cons_self ..)
    have gr : ∀ p ∈ r, Good fold inT p := fun p hp => g p (List.mem_cons_of_mem _ hp)
    rw [fgo, fgo, fgo_lin ts _ _ _ _ _ (Or.inl rfl), fgo_lin _ _ _ _ _ _ (Or.inl rfl), Option.bind_some]
    unfold stepT
    rw [stuff_other (by rw [List.nil_append]; exact (form_head g0 _ _).1), ff_append, List.nil_append, ff_last g0 hT, body_ff P hT r gr, hear_other (form_head g0 _ _).1]
    simp
  | .dot :: r, ahead, lst, ha, hl, g => by
    have gr : ∀ p ∈ r, Good fold inT p := fun p hp => g p (List.mem_cons_of_mem _ hp)
    rw [fgo, fgo]
    by_cases h : ahead < lst
    · have c1 : true = true ∧ ahead < lst ∧ lst < (ts.length : Int) := ⟨rfl, h, hl⟩
      have c2 : true = true ∧ ahead < lst ∧ lst < ((ts ++ [T]).length : Int) := ⟨rfl, h, by rw [len_app]; omega⟩
      rw [if_pos c1, if_pos c2, allBy_app hl]
      cases e : allBy ts lst r with
      | true => rfl
      | false => rw [if_neg Bool.false_ne_true, if_neg Bool.false_ne_true]; exact stage_a P hT r _ _ hl (by omega) gr
    · rw [if_neg (fun q => h q.2.1), if_neg (fun q => h q.2.1), fgo_lin ts _ _ _ _ _ (Or.inl rfl), fgo_lin _ _ _ _ _ _ (Or.inl rfl), Option.bind_some]
      unfold stepT
      rw [show stuffRow ([] ++ [46] ++ body ts r) = [46] ++ ([46] ++ body ts r) from rfl, ff_append, ff_append, ff_plain P hT (Or.inl rfl), body_ff P hT r gr]
      rfl

/-- one relay more -/
theorem fate_step (P : Plain fold inT) {ts : List Nat} {T : Nat} (hT : T < 7) (row : List Pc) (g : ∀ p ∈ row, Good fold inT p) :
    (fate ts row).bind (stepT fold inT T) = fate (ts ++ [T]) row := stage_a P hT row (-1) (-1) (by omega) (by omega) g

end
end Mine
end

section
namespace Mine

/-- all row ends become both signs -/
def norm : List Nat → List Nat
  | [] => []
  | [c] => if c = 10 ∨ c = 13 then [13, 10] else [c]
  | c :: d :: r => if c = 13 ∧ d = 10 then 13 :: 10 :: norm r else if c = 10 ∨ c = 13 then 13 :: 10 :: norm (d :: r) else c :: norm (d :: r)

/-- a dot at a row's head is doubled -/
def stuff : Bool → List Nat → List Nat
  | _, [] => []
  | b, c :: r => if b = true ∧ c = 46 then 46 :: 46 :: stuff false r else c :: stuff (c == 10) r

def quote (l : List Nat) : List Nat := stuff true (norm l)

def Free (l : List Nat) : Prop := ∀ c ∈ l, c ≠ 10 ∧ c ≠ 13

theorem norm_cons {c : Nat} (h : c ≠ 10 ∧ c ≠ 13) (r : List Nat) : norm (c :: r) = c :: norm r := by
  cases r with
  | nil => simp [norm, h.1, h.2]
  | cons d r => simp [norm, h.1, h.2]
theorem norm_row : ∀ {row : List Nat}, Free row → ∀ r, norm (row ++ r) = row ++ norm r
  | [], _, _ => rfl
  | c :: row, h, r => by
    rw [List.cons_append, norm_cons (h c (List.mem_cons_self ..)), norm_row (fun x hx => h x (List.mem_cons_of_mem _ hx)), List.cons_append]
theorem norm_crlf (r : List Nat) : norm (13 :: 10 :: r) = 13 :: 10 :: norm r := by simp [norm]
theorem norm_lf (r : List Nat) : norm (10 :: r) = 13 :: 10 :: norm r := by
  cases r <;> simp [norm]
theorem norm_cr {r : List Nat} (h : r.head? ≠ some 10) : norm (13 :: r) = 13 :: 10 :: norm r := by
  cases r with
  | nil => simp [norm]
  | cons d r => simp at h; simp [norm, h]

theorem stuff_false : ∀ {row : List Nat}, Free row → ∀ r, stuff false (row ++ 13 :: 10 :: r) = row ++ 13 :: 10 :: stuff true r
  | [], _, r => by simp [stuff]
  | c :: row, h, r => by
    have hc := h c (List.mem_cons_self ..)
    have e : (c == 10) = false := by simpa using hc.1
    rw [List.cons_append, stuff, if_neg (by simp), e, stuff_false (fun x hx => h x (List.mem_cons_of_mem _ hx)), List.cons_append]
theorem stuff_true {row : List Nat} (h : Free row) (r : List Nat) : stuff true (row ++ 13 :: 10 :: r) = stuffRow row ++ 13 :: 10 :: stuff true r := by
  cases row with
  | nil => simp [stuff, stuffRow]
  | cons c row =>
    have hr : Free row := fun x hx => h x (List.mem_cons_of_mem _ hx)
    have hc := h c (List.mem_cons_self ..)
    have e : (c == 10) = false := by simpa using hc.1
    by_cases q : c = 46
    · subst q
      rw [List.cons_append, stuff, if_pos ⟨rfl, rfl⟩, stuff_false hr]; rfl
    · rw [List.cons_append, stuff, if_neg (fun x => q x.2), e, stuff_false hr, stuff_other (by simpa using q)]; rfl

/-- the rows from the k-th on, each with its end -/
def endAt (ends : List (List Nat)) (k : Nat) : List Nat := ends.getD (k % ends.length) []
def joined (ends : List (List Nat)) : Nat → List (List Nat) → List Nat
  | _, [] => []
  | k, r :: rs => r ++ endAt ends k ++ joined ends (k + 1) rs
def rowsOut (rows : List (List Nat)) : List Nat := rows.flatMap fun r => stuffRow r ++ [13, 10]
def ends0 : List (List Nat) := [[13, 10], [10], [13]]
def ends1 : List (List Nat) := [[13, 10]]

theorem norm_joined0 : ∀ (rows : List (List Nat)) (k : Nat), (∀ r ∈ rows, Free r) → norm (joined ends0 k rows) = rows.flatMap fun r => r ++ [13, 10]
  | [], _, _ => rfl
  | r :: rs, k, h => by
    have ih := norm_joined0 rs (k + 1) (fun x hx => h x (List.mem_cons_of_mem _ hx))
    rw [joined, List.append_assoc, norm_row (h r (List.mem_cons_self ..)), List.flatMap_cons, List.append_assoc]
    congr 1
    rw [← ih]
    have h3 : k % 3 = 0 ∨ k % 3 = 1 ∨ k % 3 = 2 := by omega
    rcases h3 with h3 | h3 | h3
    · simp only [endAt, ends0, List.length_cons, List.length_nil, h3, List.getD_cons_zero, List.cons_append, List.nil_append, Nat.zero_add, Nat.reduceAdd]
      exact norm_crlf _
    · simp only [endAt, ends0, List.length_cons, List.length_nil, h3, List.getD_cons_zero, List.getD_cons_succ, List.cons_append, List.nil_append, Nat.zero_add, Nat.reduceAdd]
      exact norm_lf _
    · simp only [endAt, ends0, List.length_cons, List.length_nil, h3, List.getD_cons_zero, List.getD_cons_succ, List.cons_append, List.nil_append, Nat.zero_add, Nat.reduceAdd]
      refine norm_cr ?_
      cases rs with
      | nil => simp [joined]
      | cons r' rs' =>
        have h4 : (k + 1) % 3 = 0 := by omega
        have fr := h r' (by simp)
        simp only [joined, endAt, List.length_cons, List.length_nil, Nat.zero_add, Nat.reduceAdd, h4, List.getD_cons_zero]
        cases r' with
        | nil => simp
        | cons c r' => simpa using (fr c (List.mem_cons_self ..)).1
theorem norm_joined1 : ∀ (rows : List (List Nat)) (k : Nat), (∀ r ∈ rows, Free r) → norm (joined ends1 k rows) = rows.flatMap fun r => r ++ [13, 10]
  | [], _, _ => rfl
  | r :: rs, k, h => by
    have ih := norm_joined1 rs (k + 1) (fun x hx => h x (List.mem_cons_of_mem _ hx))
    rw [joined, List.append_assoc, norm_row (h r (List.mem_cons_self ..)), List.flatMap_cons, List.append_assoc]
    congr 1
    rw [← ih]
    simp only [endAt, ends1, List.length_cons, List.length_nil, Nat.zero_add, Nat.mod_one, List.getD_cons_zero, List.cons_append, List.nil_append]
    exact norm_crlf _
theorem stuff_rows : ∀ (rows : List (List Nat)), (∀ r ∈ rows, Free r) → stuff true (rows.flatMap fun r => r ++ [13, 10]) = rowsOut rows
  | [], _ => rfl
  | r :: rs, h => by
    have ih := stuff_rows rs (fun x hx => h x (List.mem_cons_of_mem _ hx))
    unfold rowsOut at ih ⊢
    rw [List.flatMap_cons, List.flatMap_cons, List.append_assoc, List.cons_append, List.cons_append, List.nil_append, stuff_true (h r (List.mem_cons_self ..)), ih, List.append_assoc]
    rfl
theorem quote0 (rows : List (List Nat)) (h : ∀ r ∈ rows, Free r) : quote (joined ends0 0 rows) = rowsOut rows := by
  rw [quote, norm_joined0 rows 0 h, stuff_rows rows h]
theorem quote1 (rows : List (List Nat)) (h : ∀ r ∈ rows, Free r) : quote (joined ends1 0 rows) = rowsOut rows := by
  rw [quote, norm_joined1 rows 0 h, stuff_rows rows h]

/-- the mails down one stream -/
def sent (ends : List (List Nat)) (mails : List (List (List Nat))) : List Nat := mails.flatMap fun rows => quote (joined ends 0 rows) ++ [46, 13, 10]

/-- the text cut at both signs -/
def cut : List Nat → List (List Nat)
  | [] => [[]]
  | [c] => [[c]]
  | c :: d :: r => if c = 13 ∧ d = 10 then [] :: cut r else match cut (d :: r) with
    | [] => [[c]]
    | h :: t => (c :: h) :: t

theorem cut_row : ∀ {row : List Nat}, Free row → ∀ r, cut (row ++ 13 :: 10 :: r) = row :: cut r
  | [], _, r => by simp [cut]
  | c :: row, h, r => by
    have hc := h c (List.mem_cons_self ..)
    have hr : Free row := fun x hx => h x (List.mem_cons_of_mem _ hx)
    have ih := cut_row hr r
    cases row with
    | nil =>
      rw [List.nil_append] at ih
      show cut (c :: 13 :: 10 :: r) = _
      rw [cut, if_neg (fun q => hc.2 q.1), ih]
    | cons d row =>
      rw [List.cons_append] at ih
      show cut (c :: d :: (row ++ 13 :: 10 :: r)) = _
      rw [cut, if_neg (fun q => hc.2 q.1), ih]
theorem cut_rows : ∀ (ws : List (List Nat)), (∀ w ∈ ws, Free w) → cut (ws.flatMap fun w => w ++ [13, 10]) = ws ++ [[]]
  | [], _ => rfl
  | w :: ws, h => by
    rw [List.flatMap_cons, List.append_assoc, List.cons_append, List.cons_append, List.nil_append, cut_row (h w (List.mem_cons_self ..)), cut_rows ws (fun x hx => h x (List.mem_cons_of_mem _ hx))]
    rfl

/-- what is heard so far, and one row more: a row, or a mail's end -/
def pushE (acc : List (List (List Nat))) : Option (List Nat) → List (List (List Nat))
  | none => acc ++ [[]]
  | some l => acc.dropLast ++ [acc.getLast?.getD [] ++ [l]]
def enc : Option (List Nat) → List Nat
  | none => [46, 13, 10]
  | some l => stuffRow l ++ [13, 10]
def segs (evs : List (Option (List Nat))) : List (List (List Nat)) := evs.foldl pushE [[]]

theorem pushE_ne {acc : List (List (List Nat))} (e : Option (List Nat)) : pushE acc e ≠ [] := by cases e <;> simp [pushE]
/-- the written form of what is heard: all mails but the last are closed -/
def encSegs (acc : List (List (List Nat))) : List Nat := (acc.dropLast.flatMap fun rows => rowsOut rows ++ [46, 13, 10]) ++ rowsOut (acc.getLast?.getD [])
theorem rowsOut_snoc (rows : List (List Nat)) (l : List Nat) : rowsOut (rows ++ [l]) = rowsOut rows ++ (stuffRow l ++ [13, 10]) := by simp [rowsOut]
theorem encSegs_push {acc : List (List (List Nat))} (h : acc ≠ []) (e : Option (List Nat)) : encSegs (pushE acc e) = encSegs acc ++ enc e := by
  obtain ⟨init, l, rfl⟩ : ∃ init l, acc = init ++ [l] := ⟨acc.dropLast, acc.getLast h, (List.dropLast_concat_getLast h).symm⟩
  cases e with
  | none =>
    simp only [pushE, encSegs, enc, List.dropLast_concat, List.getLast?_concat, Option.getD_some]
    simp [rowsOut]
  | some r =>
    simp only [pushE, encSegs, enc, List.dropLast_concat, List.getLast?_concat, Option.getD_some, rowsOut_snoc]
    simp
theorem encSegs_foldl : ∀ (evs : List (Option (List Nat))) (acc : List (List (List Nat))), acc ≠ [] → encSegs (evs.foldl pushE acc) = encSegs acc ++ evs.flatMap enc
  | [], acc, _ => by simp
  | e :: evs, acc, h => by rw [List.foldl_cons, encSegs_foldl evs _ (pushE_ne e), encSegs_push h, List.flatMap_cons, List.append_assoc]
theorem foldl_ne : ∀ (evs : List (Option (List Nat))) (acc : List (List (List Nat))), acc ≠ [] → evs.foldl pushE acc ≠ []
  | [], _, h => h
  | e :: evs, acc, _ => by rw [List.foldl_cons]; exact foldl_ne evs _ (pushE_ne e)

/-- the mails of the heard list, all but the last -/
theorem sent_segs (evs : List (Option (List Nat))) : ((segs (evs ++ [none])).dropLast.flatMap fun rows => rowsOut rows ++ [46, 13, 10]) = (evs ++ [none]).flatMap enc := by
  have h := encSegs_foldl (evs ++ [none]) [[]] (by simp)
  have e : segs (evs ++ [none]) = segs evs ++ [[]] := by simp [segs, List.foldl_append, pushE]
  unfold segs at e ⊢
  rw [e] at h ⊢
  simp only [encSegs, List.dropLast_concat, List.getLast?_concat, Option.getD_some, List.dropLast_singleton, List.getLast?_singleton, List.flatMap_nil, List.nil_append] at h
  simpa [rowsOut] using h

theorem segs_snoc (evs : List (Option (List Nat))) : (segs (evs ++ [none])).dropLast = segs evs := by
  simp [segs, List.foldl_append, pushE]

theorem mem_segs : ∀ (evs : List (Option (List Nat))) (acc : List (List (List Nat))) (rows : List (List Nat)) (r : List Nat), rows ∈ evs.foldl pushE acc → r ∈ rows → (∃ rows ∈ acc, r ∈ rows) ∨ some r ∈ evs
  | [], acc, rows, r, h, hr => Or.inl ⟨rows, h, hr⟩
  | e :: evs, acc, rows, r, h, hr => by
    rw [List.foldl_cons] at h
    rcases mem_segs evs _ rows r h hr with ⟨rows', h1, h2⟩ | h1
    · cases e with
      | none =>
        rcases List.mem_append.mp h1 with h1 | h1
        · exact Or.inl ⟨rows', h1, h2⟩
        · simp at h1; subst h1; cases h2
      | some l =>
        rcases List.mem_append.mp h1 with h1 | h1
        · exact Or.inl ⟨rows', List.dropLast_subset _ h1, h2⟩
        · simp at h1
          subst h1
          rcases List.mem_append.mp h2 with h2 | h2
          · cases ha : acc.getLast? with
            | none => rw [ha] at h2; cases h2
            | some x => rw [ha] at h2; exact Or.inl ⟨x, List.mem_of_getLast? ha, h2⟩
          · simp at h2; subst h2; exact Or.inr (List.mem_cons_self ..)
    · exact Or.inr (List.mem_cons_of_mem _ h1)

section
variable {fold : Nat → List Nat} {inT : Nat → Nat → Bool}

def heard (fold : Nat → List Nat) (inT : Nat → Nat → Bool) (T : Nat) (stream : List Nat) : List (List (List Nat)) :=
  (cut (ff fold inT T stream)).dropLast.foldl (fun acc w => pushE acc (hear w)) [[]]

def events (ts : List Nat) (mails : List (List (List Pc))) : List (Option (List Nat)) := mails.flatMap fun rows => rows.map (fate ts) ++ [none]
def due (ts : List Nat) (mails : List (List (List Pc))) : List (List (List Nat)) := segs (events ts mails)

def wireOf (fold : Nat → List Nat) (inT : Nat → Nat → Bool) (T : Nat) : Option (List Nat) → List Nat
  | none => [46]
  | some l => ff fold inT T (stuffRow l)

theorem ff_enc (P : Plain fold inT) {T : Nat} (hT : T < 7) (e : Option (List Nat)) : ff fold inT T (enc e) = wireOf fold inT T e ++ [13, 10] := by
  have h13 := ff_plain P hT (c := 13) (by simp)
  have h10 := ff_plain P hT (c := 10) (by simp)
  have h46 := ff_plain P hT (c := 46) (by simp)
  have hh : ff fold inT T [13, 10] = [13, 10] := by rw [show [13, 10] = [13] ++ [10] from rfl, ff_append, h13, h10]
  cases e with
  | none => rw [enc, wireOf, show [46, 13, 10] = [46] ++ [13, 10] from rfl, ff_append, h46, hh]
  | some l => rw [enc, wireOf, ff_append, hh]
theorem ff_encs (P : Plain fold inT) {T : Nat} (hT : T < 7) : ∀ evs : List (Option (List Nat)), ff fold inT T (evs.flatMap enc) = (evs.map (wireOf fold inT T)).flatMap fun w => w ++ [13, 10]
  | [] => rfl
  | e :: evs => by rw [List.flatMap_cons, ff_append, ff_enc P hT, ff_encs P hT evs, List.map_cons, List.flatMap_cons]

theorem hear_wire (T : Nat) (e : Option (List Nat)) : hear (wireOf fold inT T e) = e.bind (stepT fold inT T) := by
  cases e <;> rfl

/-- one relay: from the events that are sent to those that are heard -/
theorem heard_events (P : Plain fold inT) {T : Nat} (hT : T < 7) (evs : List (Option (List Nat))) (hf : ∀ e ∈ evs, Free (wireOf fold inT T e)) :
    heard fold inT T (evs.flatMap enc) = segs (evs.map fun e => e.bind (stepT fold inT T)) := by
  unfold heard segs
  rw [ff_encs P hT, cut_rows _ (fun w hw => by obtain ⟨e, he, rfl⟩ := List.mem_map.mp hw; exact hf e he), List.dropLast_concat, List.foldl_map, List.foldl_map]
  simp only [hear_wire]

theorem free_append {a b : List Nat} (ha : Free a) (hb : Free b) : Free (a ++ b) := fun c hc => (List.mem_append.mp hc).elim (ha c) (hb c)
theorem form_free {p : Pc} (g : Good fold inT p) (k : Nat) : Free (p.form k) := by
  cases p with
  | dot => intro c hc; simp [Pc.form] at hc; subst hc; decide
  | sign c t => intro x hx; simp [Pc.form] at hx; subst hx; exact ⟨g.2.2.2.1, g.2.2.2.2.1⟩
  | last f0 f1 f2 =>
    intro x hx
    have d := g.2.2.2.1
    have : x ∈ f0 ++ f1 ++ f2 := by
      match k with
      | 0 => have hx : x ∈ f0 := hx; simp [hx]
      | 1 => have hx : x ∈ f1 := hx; simp [hx]
      | k + 2 => have hx : x ∈ f2 := hx; simp [hx]
    exact ⟨(d x this).1, (d x this).2.1⟩
theorem fgo_free {ts : List Nat} : ∀ (row : List Pc) (left : List Nat) (ahead lst : Int) (front : Bool) (l : List Nat), (∀ p ∈ row, Good fold inT p) → Free left → fgo ts row left ahead lst front = some l → Free l
  | [], left, _, _, _, l, _, hl, h => by rw [fgo] at h; cases h; exact hl
  | .sign c t :: r, left, ahead, lst, front, l, g, hl, h => by
    rw [fgo] at h
    refine fgo_free r _ _ _ _ l (fun p hp => g p (List.mem_cons_of_mem _ hp)) (free_append hl ?_) h
    split
    · exact form_free (g _ (List.mem_cons_self ..)) 0
    · intro c hc; cases hc
  | .last f0 f1 f2 :: r, left, ahead, lst, front, l, g, hl, h => by
    rw [fgo] at h
    exact fgo_free r _ _ _ _ l (fun p hp => g p (List.mem_cons_of_mem _ hp)) (free_append hl (form_free (g _ (List.mem_cons_self ..)) _)) h
  | .dot :: r, left, ahead, lst, front, l, g, hl, h => by
    rw [fgo] at h
    have gr : ∀ p ∈ r, Good fold inT p := fun p hp => g p (List.mem_cons_of_mem _ hp)
    split at h
    · split at h
      · cases h
      · exact fgo_free r _ _ _ _ l gr hl h
    · exact fgo_free r _ _ _ _ l gr (free_append hl (form_free (g _ (List.mem_cons_self ..)) 0)) h
theorem fate_free {ts : List Nat} {row : List Pc} (g : ∀ p ∈ row, Good fold inT p) {l : List Nat} (h : fate ts row = some l) : Free l :=
  fgo_free row [] _ _ _ l g (fun _ hc => nomatch hc) h

def GoodM (fold : Nat → List Nat) (inT : Nat → Nat → Bool) (mails : List (List (List Pc))) : Prop := ∀ rows ∈ mails, ∀ row ∈ rows, ∀ p ∈ row, Good fold inT p

theorem events_mem {ts : List Nat} {mails : List (List (List Pc))} {e : Option (List Nat)} (h : e ∈ events ts mails) : e = none ∨ ∃ rows ∈ mails, ∃ row ∈ rows, e = fate ts row := by
  obtain ⟨rows, h1, h2⟩ := List.mem_flatMap.mp h
  rcases List.mem_append.mp h2 with h2 | h2
  · obtain ⟨row, h3, rfl⟩ := List.mem_map.mp h2; exact Or.inr ⟨rows, h1, row, h3, rfl⟩
  · simp at h2; exact Or.inl h2

theorem events_step (P : Plain fold inT) {ts : List Nat} {T : Nat} (hT : T < 7) : ∀ (mails : List (List (List Pc))), GoodM fold inT mails →
    (events ts mails).map (fun e => e.bind (stepT fold inT T)) = events (ts ++ [T]) mails
  | [], _ => rfl
  | rows :: mails, g => by
    have ih := events_step P hT mails (ts := ts) fun r hr => g r (List.mem_cons_of_mem _ hr)
    unfold events at ih ⊢
    rw [List.flatMap_cons, List.map_append, ih, List.flatMap_cons, List.map_append, List.map_map]
    congr 2
    refine List.map_congr_left fun row hrow => ?_
    exact fate_step P hT row (g rows (List.mem_cons_self ..) row hrow)

theorem wire_free (P : Plain fold inT) {ts : List Nat} {T : Nat} (hT : T < 7) {mails : List (List (List Pc))} (g : GoodM fold inT mails) : ∀ e ∈ events ts mails, Free (wireOf fold inT T e) := by
  intro e he
  rcases events_mem he with rfl | ⟨rows, h1, row, h2, rfl⟩
  · intro c hc; simp [wireOf] at hc; subst hc; decide
  · have gr := g rows h1 row h2
    have hs := fate_step P hT (ts := ts) row gr
    cases hf : fate ts row with
    | none => intro c hc; simp [wireOf] at hc; subst hc; decide
    | some l =>
      rw [hf, Option.bind_some] at hs
      show Free (ff fold inT T (stuffRow l))
      unfold stepT hear at hs
      split at hs
      · rename_i h; rw [h]; intro c hc; simp at hc; subst hc; decide
      · have fr := fate_free gr hs.symm
        split at fr
        · rename_i h
          generalize ff fold inT T (stuffRow l) = w at h fr
          cases w with
          | nil => intro c hc; cases hc
          | cons x w =>
            simp at h; subst h
            intro c hc
            rcases List.mem_cons.mp hc with rfl | hc
            · decide
            · exact fr c hc
        · exact fr

theorem events_snoc {ts : List Nat} : ∀ {mails : List (List (List Pc))}, mails ≠ [] → ∃ evs, events ts mails = evs ++ [none]
  | mails, h => by
    obtain ⟨init, l, rfl⟩ : ∃ init l, mails = init ++ [l] := ⟨mails.dropLast, mails.getLast h, (List.dropLast_concat_getLast h).symm⟩
    refine ⟨events ts init ++ l.map (fate ts), ?_⟩
    simp [events]

/-- THE RELAY: what the relay T hears of the mails that the relays ts have left, is due -/
theorem relay (P : Plain fold inT) {ts : List Nat} {T : Nat} (hT : T < 7) {mails : List (List (List Pc))} (hm : mails ≠ []) (g : GoodM fold inT mails) (ends : List (List Nat)) (he : ends = ends0 ∨ ends = ends1) :
    heard fold inT T (sent ends (due ts mails).dropLast) = due (ts ++ [T]) mails := by
  obtain ⟨evs, hev⟩ := events_snoc (ts := ts) hm
  have fr : ∀ rows ∈ (due ts mails).dropLast, ∀ r ∈ rows, Free r := by
    intro rows hrows r hr
    rcases mem_segs _ _ rows r (List.dropLast_subset _ hrows) hr with ⟨x, hx, hx'⟩ | h
    · simp at hx; subst hx; cases hx'
    · rcases events_mem h with h | ⟨rows', h1, row, h2, h3⟩
      · cases h
      · exact fate_free (g rows' h1 row h2) h3.symm
  have hs : sent ends (due ts mails).dropLast = (events ts mails).flatMap enc := by
    unfold sent
    rw [hev, ← sent_segs evs, ← hev]
    show List.flatMap _ (due ts mails).dropLast = List.flatMap _ (due ts mails).dropLast
    generalize (due ts mails).dropLast = L at fr
    induction L with
    | nil => rfl
    | cons rows L ih =>
      rw [List.flatMap_cons, List.flatMap_cons, ih fun x hx => fr x (List.mem_cons_of_mem _ hx)]
      congr 2
      rcases he with rfl | rfl
      · exact quote0 rows (fr rows (List.mem_cons_self ..))
      · exact quote1 rows (fr rows (List.mem_cons_self ..))
  rw [hs, heard_events P hT _ (wire_free P hT g), events_step P hT mails g]
  rfl

theorem fgo_zero : ∀ (row : List Pc) (left : List Nat) (ahead lst : Int) (front : Bool), fgo [] row left ahead lst front = some (left ++ body [] row) ∨ lst < 0
  | row, left, ahead, lst, front => by
    by_cases h : lst < 0
    · exact Or.inr h
    · exact Or.inl (fgo_lin [] row left ahead lst front (Or.inr (Or.inl (by simp; omega))))

theorem body_zero : ∀ row : List Pc, body [] row = row.flatMap fun p => p.form 0
  | [] => rfl
  | .sign c t :: r => by rw [body, List.flatMap_cons, body_zero r]; simp [Pc.form]
  | .last f0 f1 f2 :: r => by rw [body, List.flatMap_cons, body_zero r]; rfl
  | .dot :: r => by rw [body, List.flatMap_cons, body_zero r]; rfl
theorem fate_zero (row : List Pc) : fate [] row = some (row.flatMap fun p => p.form 0) := by
  unfold fate
  rw [fgo_lin [] row _ _ _ _ (Or.inr (Or.inr (by simp))), body_zero]; rfl

theorem segs_rows : ∀ (rows : List (List Nat)) (acc : List (List (List Nat))) (l : List (List Nat)), (rows.map some).foldl pushE (acc ++ [l]) = acc ++ [l ++ rows]
  | [], acc, l => by simp
  | r :: rows, acc, l => by
    rw [List.map_cons, List.foldl_cons]
    have : pushE (acc ++ [l]) (some r) = acc ++ [l ++ [r]] := by simp [pushE]
    rw [this, segs_rows rows acc (l ++ [r])]; simp
theorem due_zero_go : ∀ (mails : List (List (List Pc))) (acc : List (List (List Nat))),
    (events [] mails).foldl pushE (acc ++ [[]]) = acc ++ mails.map (fun rows => rows.map fun row => row.flatMap fun p => p.form 0) ++ [[]]
  | [], acc => by simp [events]
  | rows :: mails, acc => by
    have ih := due_zero_go mails
    unfold events at ih ⊢
    rw [List.flatMap_cons, List.foldl_append, List.foldl_append, show rows.map (fate []) = (rows.map fun row => row.flatMap fun p => p.form 0).map some by rw [List.map_map]; exact List.map_congr_left fun r _ => fate_zero r,
      segs_rows, List.foldl_cons, List.foldl_nil]
    show List.foldl pushE (acc ++ [[] ++ _] ++ [[]]) _ = _
    rw [ih]
    simp
/-- ahead of the first relay: the rows as they were drawn -/
theorem due_zero (mails : List (List (List Pc))) : (due [] mails).dropLast = mails.map fun rows => rows.map fun row => row.flatMap fun p => p.form 0 := by
  have h := due_zero_go mails []
  rw [List.nil_append, List.nil_append] at h
  unfold due segs
  rw [h, List.dropLast_concat]

end
end Mine
end

section
namespace Mine
open PySem PySem.Sre PySem.Sre.M

/-- a machine at work -/
structure Live (m : M) (op : Op) : Prop where
  out : m.outcome = none
  ans : m.answer = none
  pc : m.pc < m.code.size
  op : ops[m.code.getD m.pc 0]? = some op
theorem step_exec {m : M} {op : Op} (h : Live m op) : m.step = m.exec := by
  unfold M.step
  rw [h.out, h.ans]
  simp [h.pc]
theorem word0 (m : M) : m.word 0 = m.code.getD m.pc 0 := rfl

theorem lit_ok {m : M} (h : Live m .LITERAL) (hl : m.pos < m.lim) (hc : m.text.getD m.pos 0 = m.code.getD (m.pc + 1) 0) : ∃ sn, m.step = { m with seen := sn, pc := m.pc + 2, pos := m.pos + 1 } := by
  rw [step_exec h]
  unfold M.exec
  rw [word0, h.op]
  have h1 : ¬ m.pos ≥ m.lim := by omega
  have h2 : (m.text.getD m.pos 0 == m.code.getD (m.pc + 1) 0) = true := by rw [hc]; simp
  simp only [if_neg h1, accepts, itemWidth, h.op, h2]
  exact ⟨_, rfl⟩
theorem lit_no {m : M} (h : Live m .LITERAL) (hc : m.pos ≥ m.lim ∨ m.text.getD m.pos 0 ≠ m.code.getD (m.pc + 1) 0) : ∃ sn, m.step = { m with seen := sn, answer := some false } := by
  rw [step_exec h]
  unfold M.exec
  rw [word0, h.op]
  by_cases h1 : m.pos ≥ m.lim
  · simp only [if_pos h1]
    exact ⟨_, rfl⟩
  · have h2 : (m.text.getD m.pos 0 == m.code.getD (m.pc + 1) 0) = false := by
      have := hc.resolve_left h1
      simpa using this
    simp only [if_neg h1, accepts, h.op, h2]
    exact ⟨_, rfl⟩
theorem at_yes {m : M} (h : Live m .AT) (hw : m.code.getD (m.pc + 1) 0 = 1) (c : m.pos = 0 ∨ m.text.getD (m.pos - 1) 0 = 10) : ∃ sn, m.step = { m with seen := sn, pc := m.pc + 2 } := by
  rw [step_exec h]
  unfold M.exec
  rw [word0, h.op]
  have hw : ∀ sn, (({ m with seen := sn } : M)).word 1 = 1 := fun sn => hw
  have : (m.pos == 0 || m.text.getD (m.pos - 1) 0 == 10) = true := by simpa using c
  simp only [hw, M.isAt, this, if_true]
  exact ⟨_, rfl⟩
theorem at_no {m : M} (h : Live m .AT) (hw : m.code.getD (m.pc + 1) 0 = 1) (c : ¬ (m.pos = 0 ∨ m.text.getD (m.pos - 1) 0 = 10)) : ∃ sn, m.step = { m with seen := sn, answer := some false } := by
  rw [step_exec h]
  unfold M.exec
  rw [word0, h.op]
  have hw : ∀ sn, (({ m with seen := sn } : M)).word 1 = 1 := fun sn => hw
  have : (m.pos == 0 || m.text.getD (m.pos - 1) 0 == 10) = false := by simpa using c
  simp only [hw, M.isAt, this, Bool.false_eq_true, if_false]
  exact ⟨_, rfl⟩
theorem success_ok {m : M} (h : Live m .SUCCESS) (hw : m.wholeText = false) (hm : m.mustAdvance = false ∨ m.pos ≠ m.start ∨ m.outermost = false) : ∃ sn, m.step = { m with seen := sn, handed := m.pos, answer := some true } := by
  rw [step_exec h]
  unfold M.exec
  rw [word0, h.op]
  have c : (m.outermost && ((m.wholeText && m.pos != m.lim) || (m.mustAdvance && m.pos == m.start))) = false := by
    rw [hw]
    rcases hm with hm | hm | hm
    · simp [hm]
    · simp [hm]
    · simp [hm]
  simp only [c, Bool.false_eq_true, if_false]
  exact ⟨_, rfl⟩
theorem jump_ok {m : M} (h : Live m .JUMP) : ∃ sn, m.step = { m with seen := sn, pc := m.pc + 1 + m.code.getD (m.pc + 1) 0 } := by
  rw [step_exec h]
  unfold M.exec
  rw [word0, h.op]
  exact ⟨_, rfl⟩
/-- a machine without groups and loops, light -/
structure Plainish (m : M) : Prop where
  marks : m.marks = #[]
  inner : m.inner = none
  light : m.weight ≤ 100
theorem alt_go {m : M} {alt : Nat} {k : PySem.Sre.Kept} (P : Plainish m) (hk : k.marks = #[]) (hne : m.code.getD alt 0 ≠ 0) : m.alternative alt k = { m with frames := { m.frame .nextBranch with pc := alt, kept := k } :: m.frames, weight := m.weight + 1, pc := alt + 1, handed := m.pos } := by
  unfold M.alternative
  have c : (m.code.getD alt 0 == 0) = false := by simpa using hne
  rw [if_neg (by rw [c]; simp)]
  unfold M.attempt
  have l := P.light
  simp only [hk, List.size_toArray, List.length_nil, Nat.add_zero]
  rw [if_neg (by omega)]
theorem branch_ok {m : M} (h : Live m .BRANCH) (P : Plainish m) (hne : m.code.getD (m.pc + 1) 0 ≠ 0) : ∃ sn, m.step = { m with seen := sn, frames := { m.frame .nextBranch with pc := m.pc + 1, kept := { lastmark := m.lastmark, lastindex := m.lastindex } } :: m.frames, weight := m.weight + 1, pc := m.pc + 2, handed := m.pos } := by
  rw [step_exec h]
  unfold M.exec
  rw [word0, h.op]
  refine ⟨m.seen.add (m.code.getD m.pc 0), ?_⟩
  have hk : (({ m with seen := m.seen.add (m.code.getD m.pc 0) } : M)).keep m.inner.isSome = { lastmark := m.lastmark, lastindex := m.lastindex } := by
    rw [P.inner]; rfl
  show (({ m with seen := m.seen.add (m.code.getD m.pc 0) } : M)).alternative (m.pc + 1) ((({ m with seen := m.seen.add (m.code.getD m.pc 0) } : M)).keep m.inner.isSome) = _
  rw [hk]
  exact (alt_go (m := { m with seen := m.seen.add (m.code.getD m.pc 0) }) ⟨P.marks, P.inner, P.light⟩ rfl hne).trans rfl
theorem assertNot_ok {m : M} (h : Live m .ASSERT_NOT) (P : Plainish m) (hb : m.code.getD (m.pc + 2) 0 = 0) : ∃ sn, m.step = { m with seen := sn, frames := { m.frame .lookNot with kept := { lastmark := m.lastmark, lastindex := m.lastindex } } :: m.frames, weight := m.weight + 1, pc := m.pc + 3, pos := m.pos, handed := m.pos, outermost := false } := by
  rw [step_exec h]
  unfold M.exec
  rw [word0, h.op]
  have hb : ∀ sn, (({ m with seen := sn } : M)).word 2 = 0 := fun sn => hb
  simp only [hb, Nat.not_lt_zero, if_false, Nat.sub_zero]
  unfold M.attempt
  have l := P.light
  have hk : ∀ sn, (({ m with seen := sn } : M)).keep (true && m.inner.isSome) = { lastmark := m.lastmark, lastindex := m.lastindex } := fun sn => by rw [P.inner]; rfl
  simp only [hk, List.size_toArray, List.length_nil, Nat.add_zero, if_true]
  rw [if_neg (by show ¬ m.weight + 1 > 16777216; omega)]
  exact ⟨_, rfl⟩

/-- an answer comes back to a frame -/
theorem back_end {m : M} {b : Bool} (ho : m.outcome = none) (ha : m.answer = some b) (hf : m.frames = []) : m.step = { m with outcome := some (if b then .matched else .failed) } := by
  unfold M.step
  rw [ho, ha, hf]; rfl
theorem back_frame {m : M} {b : Bool} {f : PySem.Sre.Frame} {r : List PySem.Sre.Frame} (ho : m.outcome = none) (ha : m.answer = some b) (hf : m.frames = f :: r) : m.step = resume { m with answer := none, frames := r, weight := m.weight - (1 + f.kept.marks.size), pc := f.pc, pos := f.pos, outermost := f.outermost } f b := by
  unfold M.step
  rw [ho, ha, hf]; rfl
end Mine
end

section
namespace Mine
open PySem PySem.Sre PySem.Sre.M

def To (k : Nat) (m m' : M) : Prop := ∀ n, runFor (k + n) m = runFor n m'
theorem To.one {m m' : M} (h : m.outcome = none) (e : m.step = m') : To 1 m m' := fun n => by
  rw [Nat.add_comm, runFor, h, e]; rfl
theorem To.trans {a b : Nat} {m m' m'' : M} (x : To a m m') (y : To b m' m'') : To (a + b) m m'' := fun n => by
  rw [Nat.add_assoc, x, y]
theorem To.zero (m : M) : To 0 m m := fun n => by rw [Nat.zero_add]
theorem To.end {k : Nat} {m m' : M} (x : To k m m') (h : m'.outcome.isSome = true) (n : Nat) : runFor (k + n) m = m' := by
  rw [x]
  cases n with
  | zero => rfl
  | succ n => rw [runFor, if_pos h]

def code1 : Array Nat := #[14, 4, 0, 1, 1, 6, 1, 16, 46, 1]
/-- the try at one place -/
def A1 (t : Array Nat) (s : Nat) (first : Bool) (sn : Seen) : M :=
  { code := code1, text := t, lim := t.size, start := s, lastStart := t.size, pc := 5, pos := s, handed := s, outermost := first, marks := #[], frames := [{ wait := .nextStart, pc := 5, pos := s, outermost := first }], weight := 1, seen := sn }
def Dot (t : Array Nat) (s : Nat) : Prop := s < t.size ∧ t.getD s 0 = 46 ∧ (s = 0 ∨ t.getD (s - 1) 0 = 10)
theorem a1_yes {t : Array Nat} {s : Nat} {first : Bool} {sn : Seen} (h : Dot t s) : ∃ f : M, To 5 (A1 t s first sn) f ∧ f.outcome = some .matched ∧ f.start = s ∧ f.handed = s + 1 := by
  obtain ⟨h1, h2, h3⟩ := h
  obtain ⟨n1, e1⟩ := at_yes (m := A1 t s first sn) ⟨rfl, rfl, (by decide : 5 < code1.size), rfl⟩ rfl h3
  have t1 := To.one rfl e1
  obtain ⟨n2, e2⟩ := lit_ok (m := { A1 t s first sn with seen := n1, pc := 5 + 2 }) ⟨rfl, rfl, (by decide : 7 < code1.size), rfl⟩ h1 h2
  have t2 := To.one rfl e2
  obtain ⟨n3, e3⟩ := success_ok (m := { A1 t s first sn with seen := n2, pc := 7 + 2, pos := s + 1 }) ⟨rfl, rfl, (by decide : 9 < code1.size), rfl⟩ rfl (.inl rfl)
  have t3 := To.one rfl e3
  have e4 := back_frame (m := { A1 t s first sn with seen := n3, pc := 7 + 2, pos := s + 1, handed := s + 1, answer := some true }) (b := true) rfl rfl rfl
  have t4 := To.one rfl e4
  have t5 := To.one rfl (back_end (m := { A1 t s first sn with seen := n3, pc := 5, pos := s, outermost := first, handed := s + 1, frames := [], weight := 0, answer := some true }) (b := true) rfl rfl rfl)
  exact ⟨_, (((t1.trans t2).trans t3).trans t4).trans t5, rfl, rfl, rfl⟩
theorem a1_no {t : Array Nat} {s : Nat} {first : Bool} {sn : Seen} (h : ¬ Dot t s) : ∃ k n1, k ≤ 3 ∧ To k (A1 t s first sn) (if s < t.size then A1 t (s + 1) false n1 else { A1 t s first n1 with frames := [], weight := 0, answer := some false }) := by
  have fin : ∀ (m : M) n1, m = { A1 t s first n1 with pc := m.pc, answer := some false } → To 1 m (if s < t.size then A1 t (s + 1) false n1 else { A1 t s first n1 with frames := [], weight := 0, answer := some false }) := by
    rintro m n1 e
    rw [e]
    refine To.one rfl ?_
    rw [back_frame (b := false) rfl rfl rfl]
    by_cases h : s < t.size
    · rw [if_pos h]
      show (if s < t.size then _ else _) = _
      rw [if_pos h]
      rfl
    · rw [if_neg h]
      show (if s < t.size then _ else _) = _
      rw [if_neg h]
      rfl
  by_cases h3 : s = 0 ∨ t.getD (s - 1) 0 = 10
  · obtain ⟨n1, e1⟩ := at_yes (m := A1 t s first sn) ⟨rfl, rfl, (by decide : 5 < code1.size), rfl⟩ rfl h3
    obtain ⟨n2, e2⟩ := lit_no (m := { A1 t s first sn with seen := n1, pc := 5 + 2 }) ⟨rfl, rfl, (by decide : 7 < code1.size), rfl⟩ (by
      by_cases q : s < t.size
      · exact .inr fun c => h ⟨q, c, h3⟩
      · exact .inl (Nat.le_of_not_lt q))
    exact ⟨3, n2, Nat.le_refl _, ((To.one rfl e1).trans (To.one rfl e2)).trans (fin _ n2 rfl)⟩
  · obtain ⟨n1, e1⟩ := at_no (m := A1 t s first sn) ⟨rfl, rfl, (by decide : 5 < code1.size), rfl⟩ rfl h3
    exact ⟨2, n1, by omega, (To.one rfl e1).trans (fin _ n1 rfl)⟩
/-- the first dot at a row's head from s on -/
theorem a1_run (t : Array Nat) : ∀ (d s : Nat) (first : Bool) (sn : Seen), t.size - s = d → s ≤ t.size → ∃ k f, k ≤ 5 * d + 10 ∧ To k (A1 t s first sn) f ∧
    ((f.outcome = some .failed ∧ ∀ e, s ≤ e → ¬ Dot t e) ∨ ∃ e, f.outcome = some .matched ∧ f.start = e ∧ f.handed = e + 1 ∧ s ≤ e ∧ Dot t e ∧ ∀ j, s ≤ j → j < e → ¬ Dot t j)
  | d, s, first, sn, hd, hs => by
    by_cases h : Dot t s
    · obtain ⟨f, h1, h2, h3, h4⟩ := a1_yes (first := first) (sn := sn) h
      exact ⟨5, f, by omega, h1, .inr ⟨s, h2, h3, h4, Nat.le_refl _, h, fun j a b => absurd b (by omega)⟩⟩
    · obtain ⟨k, n1, hk, hto⟩ := a1_no (first := first) (sn := sn) h
      by_cases q : s < t.size
      · rw [if_pos q] at hto
        match d, hd with
        | 0, hd => omega
        | d + 1, hd =>
          obtain ⟨k2, f, g1, g2, g3⟩ := a1_run t d (s + 1) false n1 (by omega) (by omega)
          refine ⟨k + k2, f, by omega, hto.trans g2, g3.imp (fun z => ⟨z.1, fun e he => ?_⟩) fun ⟨e, z1, z2, z3, z4, z5, z6⟩ => ⟨e, z1, z2, z3, by omega, z5, fun j a b => ?_⟩⟩
          · by_cases x : e = s
            · subst x; exact h
            · exact z.2 e (by omega)
          · by_cases x : j = s
            · subst x; exact h
            · exact z6 j (by omega) b
      · rw [if_neg q] at hto
        have t2 := To.one (m := { A1 t s first n1 with frames := [], weight := 0, answer := some false }) rfl (back_end (b := false) rfl rfl rfl)
        exact ⟨k + 1, _, by omega, hto.trans t2, .inl ⟨rfl, fun e he q2 => q (by have := q2.1; omega)⟩⟩
end Mine
end

section
namespace Mine
open PySem PySem.Sre PySem.Sre.M

def code2 : Array Nat := #[14, 9, 4, 1, 2, 16, 10, 16, 13, 0, 7, 7, 16, 13, 16, 10, 15, 18, 5, 16, 10, 15, 13, 11, 16, 13, 5, 5, 0, 16, 10, 1, 15, 2, 0, 1]
def A2 (t : Array Nat) (s : Nat) (sn : Seen) : M :=
  { code := code2, text := t, lim := t.size, start := s, lastStart := t.size, pc := 10, pos := s, handed := s, outermost := true, marks := #[], frames := [{ wait := .nextStart, pc := 10, pos := s, outermost := true }], weight := 1, seen := sn }
def K0 : PySem.Sre.Kept := { lastmark := -1, lastindex := -1 }
def fr0 (s : Nat) : PySem.Sre.Frame := { wait := .nextStart, pc := 10, pos := s, outermost := true }
def frB (s k : Nat) : PySem.Sre.Frame := { wait := .nextBranch, pc := k, pos := s, outermost := true, kept := K0 }
/-- how much a row's end takes -/
def endLen (t : Array Nat) (s : Nat) : Nat := if t.getD s 0 = 13 ∧ s + 1 < t.size ∧ t.getD (s + 1) 0 = 10 then 2 else 1
def EndAt (t : Array Nat) (s : Nat) : Prop := s < t.size ∧ (t.getD s 0 = 10 ∨ t.getD s 0 = 13)

/-- behind an alternative that is done -/
theorem a2_done (t : Array Nat) (s e : Nat) (sn : Seen) (k h : Nat) : ∃ f : M, To 4 { A2 t s sn with pc := 35, pos := e, handed := h, frames := [frB s k, fr0 s], weight := 2 } f ∧ f.outcome = some .matched ∧ f.start = s ∧ f.handed = e := by
  obtain ⟨n1, e1⟩ := success_ok (m := { A2 t s sn with pc := 35, pos := e, handed := h, frames := [frB s k, fr0 s], weight := 2 }) ⟨rfl, rfl, (by decide : 35 < code2.size), rfl⟩ rfl (.inl rfl)
  have t1 := To.one rfl e1
  have t2 := To.one rfl (back_frame (m := { A2 t s n1 with pc := 35, pos := e, handed := e, frames := [frB s k, fr0 s], weight := 2, answer := some true }) (b := true) rfl rfl rfl)
  have t3 := To.one rfl (back_frame (m := { A2 t s n1 with pc := k, pos := s, handed := e, frames := [fr0 s], weight := 1, answer := some true }) (b := true) rfl rfl rfl)
  have t4 := To.one rfl (back_end (m := { A2 t s n1 with pc := 10, pos := s, handed := e, frames := [], weight := 0, answer := some true }) (b := true) rfl rfl rfl)
  exact ⟨_, ((t1.trans t2).trans t3).trans t4, rfl, rfl, rfl⟩
theorem a2_branch (t : Array Nat) (s : Nat) (sn : Seen) : ∃ n1, To 1 (A2 t s sn) { A2 t s n1 with pc := 12, handed := s, frames := [frB s 11, fr0 s], weight := 2 } := by
  obtain ⟨n1, e1⟩ := branch_ok (m := A2 t s sn) ⟨rfl, rfl, (by decide : 10 < code2.size), rfl⟩ ⟨rfl, rfl, (by decide : 1 ≤ 100)⟩ (by show code2.getD 11 0 ≠ 0; decide)
  exact ⟨n1, To.one rfl e1⟩
/-- from an alternative that fails to the next one -/
theorem a2_next (t : Array Nat) (s p k : Nat) (sn : Seen) (pc h : Nat) (hk : code2.getD (k + code2.getD k 0) 0 ≠ 0) : To 1 { A2 t s sn with pc := pc, pos := p, handed := h, frames := [frB s k, fr0 s], weight := 2, answer := some false } { A2 t s sn with pc := k + code2.getD k 0 + 1, pos := s, handed := s, frames := [frB s (k + code2.getD k 0), fr0 s], weight := 2 } := by
  refine To.one rfl ?_
  rw [back_frame (b := false) rfl rfl rfl]
  show M.alternative _ _ _ = _
  exact (alt_go (m := { A2 t s sn with pc := k, pos := s, handed := h, frames := [fr0 s], weight := 1 }) (alt := k + code2.getD k 0) (k := K0) ⟨rfl, rfl, (by decide : 1 ≤ 100)⟩ rfl hk).trans rfl
theorem a2_run {t : Array Nat} {s : Nat} {sn : Seen} (h : EndAt t s) : ∃ k f, k ≤ 20 ∧ To k (A2 t s sn) f ∧ f.outcome = some .matched ∧ f.start = s ∧ f.handed = s + endLen t s := by
  obtain ⟨hs, hc⟩ := h
  obtain ⟨n1, b1⟩ := a2_branch t s sn
  by_cases h13 : t.getD s 0 = 13
  · obtain ⟨n2, e2⟩ := lit_ok (m := { A2 t s n1 with pc := 12, handed := s, frames := [frB s 11, fr0 s], weight := 2 }) ⟨rfl, rfl, (by decide : 12 < code2.size), rfl⟩ hs h13
    have t2 := b1.trans (To.one rfl e2)
    by_cases h10 : s + 1 < t.size ∧ t.getD (s + 1) 0 = 10
    · obtain ⟨n3, e3⟩ := lit_ok (m := { A2 t s n2 with pc := 12 + 2, pos := s + 1, handed := s, frames := [frB s 11, fr0 s], weight := 2 }) ⟨rfl, rfl, (by decide : 14 < code2.size), rfl⟩ h10.1 h10.2
      have t3 := t2.trans (To.one rfl e3)
      obtain ⟨n4, e4⟩ := jump_ok (m := { A2 t s n3 with pc := 14 + 2, pos := s + 1 + 1, handed := s, frames := [frB s 11, fr0 s], weight := 2 }) ⟨rfl, rfl, (by decide : 16 < code2.size), rfl⟩
      have t4 := t3.trans (To.one rfl e4)
      obtain ⟨f, g1, g2, g3, g4⟩ := a2_done t s (s + 2) n4 11 s
      refine ⟨_, f, ?_, t4.trans g1, g2, g3, ?_⟩
      · omega
      · rw [g4, endLen, if_pos ⟨h13, h10⟩]
    · obtain ⟨n3, e3⟩ := lit_no (m := { A2 t s n2 with pc := 12 + 2, pos := s + 1, handed := s, frames := [frB s 11, fr0 s], weight := 2 }) ⟨rfl, rfl, (by decide : 14 < code2.size), rfl⟩ (by
        by_cases q : s + 1 < t.size
        · exact .inr fun c => h10 ⟨q, c⟩
        · exact .inl (Nat.le_of_not_lt q))
      have t3 := (t2.trans (To.one rfl e3)).trans (a2_next t s (s + 1) 11 n3 14 s (by decide))
      obtain ⟨n4, e4⟩ := lit_no (m := { A2 t s n3 with pc := 19, pos := s, handed := s, frames := [frB s 18, fr0 s], weight := 2 }) ⟨rfl, rfl, (by decide : 19 < code2.size), rfl⟩ (.inr (by show t.getD s 0 ≠ 10; rw [h13]; decide))
      have t4 := (t3.trans (To.one rfl e4)).trans (a2_next t s s 18 n4 19 s (by decide))
      obtain ⟨n5, e5⟩ := lit_ok (m := { A2 t s n4 with pc := 24, pos := s, handed := s, frames := [frB s 23, fr0 s], weight := 2 }) ⟨rfl, rfl, (by decide : 24 < code2.size), rfl⟩ hs h13
      have t5 := t4.trans (To.one rfl e5)
      obtain ⟨n6, e6⟩ := assertNot_ok (m := { A2 t s n5 with pc := 24 + 2, pos := s + 1, handed := s, frames := [frB s 23, fr0 s], weight := 2 }) ⟨rfl, rfl, (by decide : 26 < code2.size), rfl⟩ ⟨rfl, rfl, (by decide : 2 ≤ 100)⟩ rfl
      have t6 := t5.trans (To.one rfl e6)
      obtain ⟨n7, e7⟩ := lit_no (m := { A2 t s n6 with pc := 29, pos := s + 1, handed := s + 1, outermost := false, frames := [{ wait := .lookNot, pc := 26, pos := s + 1, outermost := true, kept := K0 }, frB s 23, fr0 s], weight := 3 }) ⟨rfl, rfl, (by decide : 29 < code2.size), rfl⟩ (by
        by_cases q : s + 1 < t.size
        · exact .inr fun c => h10 ⟨q, c⟩
        · exact .inl (Nat.le_of_not_lt q))
      have t7 := t6.trans (To.one rfl e7)
      have t8 := t7.trans (To.one rfl (back_frame (m := { A2 t s n7 with pc := 29, pos := s + 1, handed := s + 1, outermost := false, frames := [({ wait := .lookNot, pc := 26, pos := s + 1, outermost := true, kept := K0 } : PySem.Sre.Frame), frB s 23, fr0 s], weight := 3, answer := some false }) (b := false) (f := ({ wait := .lookNot, pc := 26, pos := s + 1, outermost := true, kept := K0 } : PySem.Sre.Frame)) (r := [frB s 23, fr0 s]) rfl rfl rfl))
      obtain ⟨n9, e9⟩ := jump_ok (m := { A2 t s n7 with pc := 32, pos := s + 1, handed := s + 1, frames := [frB s 23, fr0 s], weight := 2 }) ⟨rfl, rfl, (by decide : 32 < code2.size), rfl⟩
      have t9 := t8.trans (To.one (m := { A2 t s n7 with pc := 32, pos := s + 1, handed := s + 1, frames := [frB s 23, fr0 s], weight := 2 }) rfl e9)
      obtain ⟨f, g1, g2, g3, g4⟩ := a2_done t s (s + 1) n9 23 (s + 1)
      refine ⟨_, f, ?_, t9.trans g1, g2, g3, ?_⟩
      · omega
      · rw [g4, endLen, if_neg (fun q => h10 ⟨q.2.1, q.2.2⟩)]
  · have h10 : t.getD s 0 = 10 := hc.resolve_right h13
    obtain ⟨n2, e2⟩ := lit_no (m := { A2 t s n1 with pc := 12, handed := s, frames := [frB s 11, fr0 s], weight := 2 }) ⟨rfl, rfl, (by decide : 12 < code2.size), rfl⟩ (.inr h13)
    have t2 := (b1.trans (To.one rfl e2)).trans (a2_next t s s 11 n2 12 s (by decide))
    obtain ⟨n3, e3⟩ := lit_ok (m := { A2 t s n2 with pc := 19, pos := s, handed := s, frames := [frB s 18, fr0 s], weight := 2 }) ⟨rfl, rfl, (by decide : 19 < code2.size), rfl⟩ hs h10
    have t3 := t2.trans (To.one rfl e3)
    obtain ⟨n4, e4⟩ := jump_ok (m := { A2 t s n3 with pc := 19 + 2, pos := s + 1, handed := s, frames := [frB s 18, fr0 s], weight := 2 }) ⟨rfl, rfl, (by decide : 21 < code2.size), rfl⟩
    have t4 := t3.trans (To.one rfl e4)
    obtain ⟨f, g1, g2, g3, g4⟩ := a2_done t s (s + 1) n4 18 s
    refine ⟨_, f, ?_, t4.trans g1, g2, g3, ?_⟩
    · omega
    · rw [g4, endLen, if_neg (fun q => h13 q.1)]

theorem inSet2 (c : Nat) (sn : Seen) : ∃ n1, inSet code2 c code2.size 5 true sn = .ok (decide (c = 10 ∨ c = 13), n1) := by
  show ∃ n1, inSet code2 c 36 5 true sn = _
  by_cases h10 : c = 10
  · subst h10; exact ⟨_, rfl⟩
  · by_cases h13 : c = 13
    · subst h13; exact ⟨_, rfl⟩
    · have e1 : (c == 10) = false := by simpa using h10
      have e2 : (c == 13) = false := by simpa using h13
      have e3 : decide (c = 10 ∨ c = 13) = false := by simp [h10, h13]
      rw [e3]
      have s1 : inSet code2 c 36 5 true sn = if (c == 10) = true then .ok (true, sn.add 16) else inSet code2 c 35 7 true (sn.add 16) := rfl
      have s2 : ∀ sn, inSet code2 c 35 7 true sn = if (c == 13) = true then .ok (true, sn.add 16) else inSet code2 c 34 9 true (sn.add 16) := fun sn => rfl
      rw [s1, e1, if_neg (by simp), s2, e2, if_neg (by simp)]
      exact ⟨_, rfl⟩
/-- the first row end from s on -/
theorem admit2 (m : M) (hc : m.code = code2) : ∀ (fuel s : Nat) (sn : Seen), m.lim ≤ s + fuel → ∃ r n1, admitted m fuel s sn = .ok (r, n1) ∧
    ((r = none ∧ ∀ j, s ≤ j → j < m.lim → ¬ (m.text.getD j 0 = 10 ∨ m.text.getD j 0 = 13)) ∨ ∃ e, r = some e ∧ s ≤ e ∧ e < m.lim ∧ (m.text.getD e 0 = 10 ∨ m.text.getD e 0 = 13) ∧ ∀ j, s ≤ j → j < e → ¬ (m.text.getD j 0 = 10 ∨ m.text.getD j 0 = 13))
  | 0, s, sn, h => ⟨none, sn, rfl, .inl ⟨rfl, fun j a b => by omega⟩⟩
  | fuel + 1, s, sn, h => by
    rw [admitted]
    by_cases q : s ≥ m.lim
    · rw [if_pos q]
      exact ⟨none, sn, rfl, .inl ⟨rfl, fun j a b => by omega⟩⟩
    · rw [if_neg q, hc]
      obtain ⟨n1, e⟩ := inSet2 (m.text.getD s 0) sn
      rw [e]
      by_cases c : m.text.getD s 0 = 10 ∨ m.text.getD s 0 = 13
      · rw [decide_eq_true c]
        exact ⟨some s, n1, rfl, .inr ⟨s, rfl, Nat.le_refl _, by omega, c, fun j a b => absurd b (by omega)⟩⟩
      · rw [decide_eq_false c]
        obtain ⟨r, n2, e2, z⟩ := admit2 m hc fuel (s + 1) n1 (by omega)
        refine ⟨r, n2, e2, z.imp (fun z => ⟨z.1, fun j a b => ?_⟩) fun ⟨e, z1, z2, z3, z4, z5⟩ => ⟨e, z1, by omega, z3, z4, fun j a b => ?_⟩⟩
        · by_cases x : j = s
          · subst x; exact c
          · exact z.2 j (by omega) b
        · by_cases x : j = s
          · subst x; exact c
          · exact z5 j (by omega) b
end Mine
end

section
open PySem PySem.W PyProof.Rows PySem.Calls
namespace Mine

/-- data as the law's text knows it -/
inductive D where
  | none
  | bool (b : Bool)
  | int (i : Int)
  | str (l : List Nat)
  | tup (l : List D)
  | lst (l : List D)
  | raw (v : Value)

mutual
/-- the value bears the datum in this heap, and stands on no place of N -/
def Rep (N : Addr → Prop) (h : Heap) : D → Value → Prop
  | .none, v => v = .none
  | .bool b, v => v = .bool b
  | .int i, v => ∃ t, v = .int i t
  | .str l, v => ∃ t, v = .str ⟨l.toArray⟩ t
  | .tup ds, v => ∃ a vs, v = .ref a ∧ ¬ N a ∧ h.IsTuple a vs.toArray ∧ Reps N h ds vs
  | .lst ds, v => ∃ a vs, v = .ref a ∧ ¬ N a ∧ h.IsList a vs.toArray ∧ Reps N h ds vs
  | .raw u, v => v = u
def Reps (N : Addr → Prop) (h : Heap) : List D → List Value → Prop
  | [], vs => vs = []
  | d :: ds, vs => ∃ v r, vs = v :: r ∧ Rep N h d v ∧ Reps N h ds r
end

/-- lists and tuples stand as they stood, those of N apart -/
def Grow (N : Addr → Prop) (h h' : Heap) : Prop := ∀ b o xs k, ¬ N b → h.get? b = some o → o.data = .seq xs k → h'.get? b = some o
def Nil (_ : Addr) : Prop := False
section
variable {N N' : Addr → Prop} {h h' h'' : Heap}
theorem Grow.of (k : ∀ b o, h.get? b = some o → h'.get? b = some o) : Grow N h h' := fun b o _ _ _ e _ => k b o e
theorem Grow.trans (a : Grow N h h') (b : Grow N h' h'') : Grow N h h'' := fun x o xs k q e c => b x o xs k q (a x o xs k q e c) c
theorem Grow.refl (h : Heap) : Grow N h h := fun _ _ _ _ _ e _ => e
theorem Grow.push (o : Obj) : Grow N h (h.push o) := .of fun _ _ e => Heap.get?_push_of_some o e
theorem Grow.weak (a : Grow N h h') (k : ∀ b, N b → N' b) : Grow N' h h' := fun x o xs k' q e c => a x o xs k' (fun z => q (k x z)) e c
mutual
theorem Rep.grow (g : Grow N h h') : ∀ (d : D) (v : Value), Rep N h d v → Rep N h' d v
  | .none, _, r => by simpa only [Rep] using r
  | .bool _, _, r => by simpa only [Rep] using r
  | .int _, _, r => by simpa only [Rep] using r
  | .str _, _, r => by simpa only [Rep] using r
  | .tup ds, v, r => by
    rw [Rep] at r ⊢
    obtain ⟨a, vs, e, q, ⟨o, ho, hc, n, hd⟩, k⟩ := r
    exact ⟨a, vs, e, q, ⟨o, g _ _ _ _ q ho hd, hc, n, hd⟩, Reps.grow g ds vs k⟩
  | .lst ds, v, r => by
    rw [Rep] at r ⊢
    obtain ⟨a, vs, e, q, ⟨o, ho, hc, n, hd⟩, k⟩ := r
    exact ⟨a, vs, e, q, ⟨o, g _ _ _ _ q ho hd, hc, n, hd⟩, Reps.grow g ds vs k⟩
  | .raw _, _, r => by simpa only [Rep] using r
theorem Reps.grow (g : Grow N h h') : ∀ (ds : List D) (vs : List Value), Reps N h ds vs → Reps N h' ds vs
  | [], _, r => by simpa only [Reps] using r
  | d :: ds, vs, r => by
    rw [Reps] at r ⊢
    obtain ⟨v, q, e, a, b⟩ := r
    exact ⟨v, q, e, Rep.grow g d v a, Reps.grow g ds q b⟩
end
mutual
/-- more places avoided: those that are not taken yet -/
theorem Rep.more (m : ∀ b, N' b → N b ∨ h.get? b = none) : ∀ (d : D) (v : Value), Rep N h d v → Rep N' h d v
  | .none, _, r => by simpa only [Rep] using r
  | .bool _, _, r => by simpa only [Rep] using r
  | .int _, _, r => by simpa only [Rep] using r
  | .str _, _, r => by simpa only [Rep] using r
  | .tup ds, v, r => by
    rw [Rep] at r ⊢
    obtain ⟨a, vs, e, q, ⟨o, ho, hc, n, hd⟩, k⟩ := r
    exact ⟨a, vs, e, (fun z => (m a z).elim q fun y => by rw [ho] at y; cases y), ⟨o, ho, hc, n, hd⟩, Reps.more m ds vs k⟩
  | .lst ds, v, r => by
    rw [Rep] at r ⊢
    obtain ⟨a, vs, e, q, ⟨o, ho, hc, n, hd⟩, k⟩ := r
    exact ⟨a, vs, e, (fun z => (m a z).elim q fun y => by rw [ho] at y; cases y), ⟨o, ho, hc, n, hd⟩, Reps.more m ds vs k⟩
  | .raw _, _, r => by simpa only [Rep] using r
theorem Reps.more (m : ∀ b, N' b → N b ∨ h.get? b = none) : ∀ (ds : List D) (vs : List Value), Reps N h ds vs → Reps N' h ds vs
  | [], _, r => by simpa only [Reps] using r
  | d :: ds, vs, r => by
    rw [Reps] at r ⊢
    obtain ⟨v, q, e, a, b⟩ := r
    exact ⟨v, q, e, Rep.more m d v a, Reps.more m ds q b⟩
end
theorem Reps.length : ∀ {ds : List D} {vs : List Value}, Reps N h ds vs → vs.length = ds.length
  | [], _, r => by rw [Reps] at r; subst r; rfl
  | d :: ds, vs, r => by
    rw [Reps] at r
    obtain ⟨v, q, rfl, _, b⟩ := r
    rw [List.length_cons, List.length_cons, Reps.length b]
theorem Reps.get : ∀ {ds : List D} {vs : List Value} (i : Nat) (d : D), Reps N h ds vs → ds[i]? = some d → ∃ v, vs[i]? = some v ∧ Rep N h d v
  | [], _, i, d, _, e => by cases e
  | x :: ds, vs, i, d, r, e => by
    rw [Reps] at r
    obtain ⟨v, q, rfl, a, b⟩ := r
    cases i with
    | zero => cases e; exact ⟨v, rfl, a⟩
    | succ i => exact Reps.get i d b e
theorem Reps.nil : Reps N h [] [] := by rw [Reps]
theorem Reps.cons {d : D} {ds : List D} {v : Value} {vs : List Value} (a : Rep N h d v) (b : Reps N h ds vs) : Reps N h (d :: ds) (v :: vs) := by
  rw [Reps]; exact ⟨v, vs, rfl, a, b⟩
theorem Reps.append : ∀ {ds ds' : List D} {vs vs' : List Value}, Reps N h ds vs → Reps N h ds' vs' → Reps N h (ds ++ ds') (vs ++ vs')
  | [], _, vs, _, r, r' => by rw [Reps] at r; subst r; exact r'
  | d :: ds, ds', vs, vs', r, r' => by
    rw [Reps] at r
    obtain ⟨v, q, rfl, a, b⟩ := r
    exact Reps.cons a (Reps.append b r')
theorem Reps.mk : ∀ {ds : List D} {vs : List Value}, vs.length = ds.length → (∀ (i : Nat) (d : D) (v : Value), ds[i]? = some d → vs[i]? = some v → Rep N h d v) → Reps N h ds vs
  | [], vs, e, _ => by rw [Reps]; exact List.eq_nil_of_length_eq_zero e
  | d :: ds, [], e, _ => by cases e
  | d :: ds, v :: vs, e, k => Reps.cons (k 0 d v rfl rfl) (Reps.mk (by simpa using e) fun i d v a b => k (i + 1) d v a b)
theorem Reps.drop {ds : List D} {vs : List Value} (r : Reps N h ds vs) (n : Nat) : Reps N h (ds.drop n) (vs.drop n) := by
  refine Reps.mk (by simp [r.length]) fun i d v a b => ?_
  rw [List.getElem?_drop] at a b
  obtain ⟨v', h1, h2⟩ := r.get _ _ a
  rw [b] at h1; cases h1; exact h2
theorem Reps.take {ds : List D} {vs : List Value} (r : Reps N h ds vs) (n : Nat) : Reps N h (ds.take n) (vs.take n) := by
  refine Reps.mk (by simp [r.length]) fun i d v a b => ?_
  rw [List.getElem?_take] at a b
  split at a
  · rename_i q
    rw [if_pos q] at b
    obtain ⟨v', h1, h2⟩ := r.get _ _ a
    rw [b] at h1; cases h1; exact h2
  · cases a

theorem rep_int {i : Int} {t : Tok} : Rep N h (.int i) (.int i t) := by rw [Rep]; exact ⟨t, rfl⟩
theorem rep_str {l : List Nat} {t : Tok} : Rep N h (.str l) (.str ⟨l.toArray⟩ t) := by rw [Rep]; exact ⟨t, rfl⟩
theorem rep_strS {l : List Nat} {x : Str} {t : Tok} (e : x.cps.toList = l) : Rep N h (.str l) (.str x t) := by rw [Rep, ← e]; exact ⟨t, rfl⟩
theorem rep_none : Rep N h .none .none := by rw [Rep]
theorem rep_bool {b : Bool} : Rep N h (.bool b) (.bool b) := by rw [Rep]
theorem rep_raw {v : Value} : Rep N h (.raw v) v := by rw [Rep]
theorem inv_raw {v u : Value} (r : Rep N h (.raw v) u) : u = v := by rwa [Rep] at r
theorem inv_int {i : Int} {v : Value} (r : Rep N h (.int i) v) : ∃ t, v = .int i t := by rwa [Rep] at r
theorem inv_str {l : List Nat} {v : Value} (r : Rep N h (.str l) v) : ∃ t, v = .str ⟨l.toArray⟩ t := by rwa [Rep] at r
theorem inv_none {v : Value} (r : Rep N h .none v) : v = .none := by rwa [Rep] at r
theorem inv_bool {b : Bool} {v : Value} (r : Rep N h (.bool b) v) : v = .bool b := by rwa [Rep] at r
theorem inv_tup {ds : List D} {v : Value} (r : Rep N h (.tup ds) v) : ∃ a vs, v = .ref a ∧ ¬ N a ∧ h.IsTuple a vs.toArray ∧ Reps N h ds vs := by rwa [Rep] at r
theorem inv_lst {ds : List D} {v : Value} (r : Rep N h (.lst ds) v) : ∃ a vs, v = .ref a ∧ ¬ N a ∧ h.IsList a vs.toArray ∧ Reps N h ds vs := by rwa [Rep] at r
theorem rep_tup {ds : List D} {a : Addr} {vs : List Value} (q : ¬ N a) (t : h.IsTuple a vs.toArray) (r : Reps N h ds vs) : Rep N h (.tup ds) (.ref a) := by rw [Rep]; exact ⟨a, vs, rfl, q, t, r⟩
theorem rep_lst {ds : List D} {a : Addr} {vs : List Value} (q : ¬ N a) (t : h.IsList a vs.toArray) (r : Reps N h ds vs) : Rep N h (.lst ds) (.ref a) := by rw [Rep]; exact ⟨a, vs, rfl, q, t, r⟩
end

/-- how names stand in a frame: a local of its table, or a cell -/
inductive Bound (env : Env) (h : Heap) (x : Str) (v : Value) : Prop where
  | loc (m : Str → Option Value) (k : env.kindOf x = some .local) (n : h.Ns env.locals m) (e : m x = some v)
  | cell (c : Addr) (k : env.kindOf x = some .cell ∨ env.kindOf x = some .free) (l : env.cells.lookup x = some c) (e : h.IsCell c (some v))
theorem Bound.keeps {env : Env} {h h' : Heap} {x : Str} {v : Value} (b : Bound env h x v) (k : ∀ b o, h.get? b = some o → h'.get? b = some o) : Bound env h' x v := by
  cases b with
  | loc m k' n e => exact .loc m k' (n.keeps k) e
  | cell c k' l e => obtain ⟨o, ho, hd⟩ := e; exact .cell c k' l ⟨o, k _ _ ho, hd⟩

abbrev Sto := List (Str × D)
def Holds (N : Addr → Prop) (env : Env) (h : Heap) (σ : Sto) : Prop := ∀ x d, σ.lookup x = some d → ∃ v, Bound env h x v ∧ Rep N h d v
theorem Holds.keeps {N : Addr → Prop} {env : Env} {h h' : Heap} {σ : Sto} (b : Holds N env h σ) (k : ∀ b o, h.get? b = some o → h'.get? b = some o) : Holds N env h' σ := fun x d e => by
  obtain ⟨v, a, r⟩ := b x d e
  exact ⟨v, a.keeps k, r.grow (.of k)⟩
theorem Holds.more {N N' : Addr → Prop} {env : Env} {h : Heap} {σ : Sto} (b : Holds N env h σ) (m : ∀ b, N' b → N b ∨ h.get? b = none) : Holds N' env h σ := fun x d e => by
  obtain ⟨v, a, r⟩ := b x d e
  exact ⟨v, a, r.more m⟩

abbrev pw := PySem.Challenge.pw_pg0210_01
/-- the i-th statement of the text, and what a def's statement holds -/
def stm (i : Nat) : Stmt := (pw.main.body[i]?).getD (.Pass default)
def dN : Stmt → Str | .FunctionDef n .. => n | _ => ""
def dP : Stmt → Arguments | .FunctionDef _ a .. => a | _ => ⟨[], [], none, [], [], none, []⟩
def dB : Stmt → List Stmt | .FunctionDef _ _ b .. => b | _ => []
def dS : Stmt → Scope | .FunctionDef _ _ _ _ _ _ s .. => s | _ => default

def FnAt (h : Heap) (a : Addr) (i : Nat) : Prop := ∃ o pm doc c, h.get? a = some o ∧ o.data = .func (docDef (dN (stm i)) (dP (stm i)) (dB (stm i)) (dS (stm i)) pm (.ref c) doc) ∧ h.CodeRec (.ref c) (dN (stm i))

/-- a world, and where the top's things stand -/
structure Wo where
  w : World
  ad : Str → Addr
def fTab : List (Str × Nat) := [("quotedata", 5), ("in_table_b1", 8), ("map_table_b3", 10), ("in_table_c11", 11), ("in_table_c4", 12), ("in_table_c6", 14), ("in_table_c7", 16), ("in_table_c8", 18), ("in_table_c9", 20), ("_law_held", 22), ("_law_piece", 23), ("_law_sent", 24), ("_law_heard", 25), ("_law_fate", 26), ("_law_due", 27), ("law", 28)]
def gTab : List Str := ["_twin_re_1", "_twin_re_2", "quotedata", "b1_set", "in_table_b1", "b3_exceptions", "map_table_b3", "in_table_c11", "in_table_c4",
  "c6_set", "in_table_c6", "c7_set", "in_table_c7", "c8_set", "in_table_c8", "c9_set", "in_table_c9", "_law_held", "_law_piece", "_law_sent", "_law_heard", "_law_fate", "_law_due"]
abbrev MM (w : Wo) : Model := model pw w.w
def bTab : List (Str × Value) := [("ord", .builtin "ord"), ("chr", .builtin "chr"), ("len", .builtin "len"), ("sum", .builtin "sum"), ("max", .builtin "max"), ("min", .builtin "min"), ("range", .type "range")]

def runOf (a n : Nat) : List Int := (List.range n).map fun i => ((a + i : Nat) : Int)
def sTab : List (Str × List Int) := [("b1_set", [173, 847, 6150, 6155, 6156, 6157, 8203, 8204, 8205, 8288, 65279] ++ runOf 65024 16), ("c6_set", runOf 65529 5), ("c7_set", runOf 12272 12), ("c8_set", [832, 833, 8206, 8207] ++ runOf 8234 5 ++ runOf 8298 6), ("c9_set", 917505 :: runOf 917536 96)]

/-- the pairs of the dict that the text writes -/
def b3Of : Stmt → List (Int × List Nat)
  | .Assign _ (.Dict ks vs _) _ => (ks.zip vs).filterMap fun
    | (some (.Constant (.int k) _ _), .Constant (.str x) _ _) => some (k, x.cps.toList)
    | _ => none
  | _ => []
def b3Tab : List (Int × List Nat) := b3Of (stm 9)
/-- a compiled pattern -/
def PatAt (h : Heap) (a : Addr) (text : Str) (flags : Int) (codes : List Int) : Prop :=
  ∃ c t1 t2 t3 x y ts, h.get? a = some { cls := .type "re.Pattern", data := .fields #[.str text t1, .int flags t2, .int 0 t3, x, y, .ref c, .int 0 ts] } ∧ h.IsTuple c (codes.map fun i => Value.int i 0).toArray

/-- what stands behind the top, as far as the walk asks it -/
structure Lib (w : Wo) (h : Heap) : Prop where
  nolimit : h.NoLimit
  names : ∃ mg mb, h.Ns mainGlobals mg ∧ h.Ns builtinsNs mb ∧ (∀ x ∈ gTab, mg x = some (.ref (w.ad x))) ∧ (∃ t, mg "CRLF" = some (.str ⟨#[13, 10]⟩ t)) ∧ ∀ x ∈ bTab, mg x.1 = none ∧ mb x.1 = some x.2
  fns : ∀ x ∈ fTab, FnAt h (w.ad x.1) x.2
  sets : ∀ x ∈ sTab, ∃ S n, h.SetOf (intKind pw w.w) (w.ad x.1) S n ∧ ∀ c, S c = decide (c ∈ x.2)
  dict : (w.ad "b3_exceptions" == sysModules) = false ∧ ∃ f, h.MapOf (intKind pw w.w) (w.ad "b3_exceptions") f ∧ ∀ k, match b3Tab.lookup k with
    | some l => ∃ t, f k = some (.str ⟨l.toArray⟩ t)
    | none => f k = none
  pat1 : PatAt h (w.ad "_twin_re_1") "(?m)^\\." 40 [14, 4, 0, 1, 1, 6, 1, 16, 46, 1]
  pat2 : PatAt h (w.ad "_twin_re_2") "(?:\\r\\n|\\n|\\r(?!\\n))" 32 [14, 9, 4, 1, 2, 16, 10, 16, 13, 0, 7, 7, 16, 13, 16, 10, 15, 18, 5, 16, 10, 15, 13, 11, 16, 13, 5, 5, 0, 16, 10, 1, 15, 2, 0, 1]
theorem FnAt.keeps {h h' : Heap} {a : Addr} {i : Nat} (x : FnAt h a i) (k : ∀ b o, h.get? b = some o → h'.get? b = some o) : FnAt h' a i := by
  obtain ⟨o, pm, doc, c, h1, h2, h3⟩ := x
  exact ⟨o, pm, doc, c, k _ _ h1, h2, h3.keeps k⟩
theorem PatAt.keeps {h h' : Heap} {a : Addr} {x : Str} {f : Int} {cs : List Int} (p : PatAt h a x f cs) (k : ∀ b o, h.get? b = some o → h'.get? b = some o) : PatAt h' a x f cs := by
  obtain ⟨c, t1, t2, t3, x, y, ts, h1, o, h2, h3, n, h4⟩ := p
  exact ⟨c, t1, t2, t3, x, y, ts, k _ _ h1, o, k _ _ h2, h3, n, h4⟩
theorem Lib.keeps {w : Wo} {h h' : Heap} (x : Lib w h) (k : ∀ b o, h.get? b = some o → h'.get? b = some o) : Lib w h' := by
  obtain ⟨⟨mc, a, b⟩, ⟨mg, mb, c, d, e⟩, f, g, ⟨i1, fm, ⟨o, es, ep, i2, i3⟩, i4⟩, p1, p2⟩ := x
  exact ⟨⟨mc, a.keeps k, b⟩, ⟨mg, mb, c.keeps k, d.keeps k, e⟩, fun y hy => (f y hy).keeps k, fun y hy => by
    obtain ⟨S, n, ⟨o, es, ep, t, h1, h2⟩, h3⟩ := g y hy
    exact ⟨S, n, ⟨o, es, ep, t, k _ _ h1, h2⟩, h3⟩, ⟨i1, fm, ⟨o, es, ep, k _ _ i2, i3⟩, i4⟩, p1.keeps k, p2.keeps k⟩

def Ok (n : Nat) (A : Around) : Prop := A.handled = none ∧ A.depth + n < recursionLimit ∧ A.units + 8 * n + 80 < cLine
theorem Ok.le {n m : Nat} {A : Around} (x : Ok n A) (h : m ≤ n) : Ok m A := ⟨x.1, by have := x.2.1; omega, by have := x.2.2; omega⟩
/-- old objects stand; only heap and count of tokens are other -/
def Kp (s s' : Shared) : Prop := ∃ h' tk, s' = { s with heap := h', toks := tk } ∧ ∀ b o, s.heap.get? b = some o → h'.get? b = some o
theorem Kp.refl (s : Shared) : Kp s s := ⟨s.heap, s.toks, rfl, fun _ _ e => e⟩
theorem Kp.trans {s s' s'' : Shared} (a : Kp s s') (b : Kp s' s'') : Kp s s'' := by
  obtain ⟨h, t, rfl, k⟩ := a
  obtain ⟨h', t', rfl, k'⟩ := b
  exact ⟨h', t', rfl, fun x o e => k' x o (k x o e)⟩
theorem Kp.keep {s s' : Shared} (a : Kp s s') : ∀ b o, s.heap.get? b = some o → s'.heap.get? b = some o := by
  obtain ⟨h, t, rfl, k⟩ := a; exact k
theorem Kp.tok (s : Shared) (t : Nat) : Kp s { s with toks := t } := ⟨s.heap, t, rfl, fun _ _ e => e⟩
theorem Kp.push (s : Shared) (o : Obj) : Kp s { s with heap := s.heap.push o } := ⟨_, s.toks, rfl, fun _ _ e => Heap.get?_push_of_some o e⟩
theorem Kp.rep {N : Addr → Prop} {s s' : Shared} (a : Kp s s') {d : D} {v : Value} (r : Rep N s.heap d v) : Rep N s'.heap d v := r.grow (.of a.keep)
theorem Kp.reps {N : Addr → Prop} {s s' : Shared} (a : Kp s s') {d : List D} {v : List Value} (r : Reps N s.heap d v) : Reps N s'.heap d v := r.grow (.of a.keep)

/-- where a step stands: room, the top's things, the places to avoid are old ones -/
structure Cx w (n : Nat) (N : Addr → Prop) (A : Around) (s : Shared) : Prop where
  ok : Ok n A
  lib : Lib w s.heap
  old : ∀ b, N b → (s.heap.get? b).isSome = true
structure At w (n : Nat) (N : Addr → Prop) (env : Env) (σ : Sto) (A : Around) (s : Shared) : Prop extends Cx w n N A s where
  holds : Holds N env s.heap σ
section
variable {w : Wo} {n m : Nat} {N : Addr → Prop} {env : Env} {σ : Sto} {A : Around} {s s' : Shared}
theorem Cx.kp (x : Cx w n N A s) (k : Kp s s') : Cx w n N A s' := ⟨x.ok, x.lib.keeps k.keep, fun b hb => by
  obtain ⟨o, ho⟩ := Option.isSome_iff_exists.mp (x.old b hb)
  rw [k.keep b o ho]; rfl⟩
theorem Cx.le (x : Cx w n N A s) (h : m ≤ n) : Cx w m N A s := ⟨x.ok.le h, x.lib, x.old⟩
theorem Cx.free (x : Cx w n N A s) : ¬ N s.heap.objs.size := fun h => by
  have := x.old _ h
  rw [Heap.get?_none_of_le (Nat.le_refl _)] at this
  cases this
theorem At.kp (x : At w n N env σ A s) (k : Kp s s') : At w n N env σ A s' := ⟨x.toCx.kp k, x.holds.keeps k.keep⟩
end

abbrev noE : Value → Shared → Prop := fun _ _ => False
/-- the expression comes to a value that bears the datum -/
structure Ev (w : Wo) (n : Nat) (env : Env) (σ : Sto) (e : Expr) (d : D) : Prop where
  go : ∀ N A s, At w n N env σ A s → wpAny (MM w) A (eval e env) (fun v s' => Rep N s'.heap d v ∧ Kp s s') noE s

theorem wp_use {α : Type} {w : Wo} {A : Around} {t : Sem α} {Q Q' : α → Shared → Prop} {E : Value → Shared → Prop} {s : Shared} (h : wpAny (MM w) A t Q noE s) (k : ∀ a s', Q a s' → Q' a s') : wpAny (MM w) A t Q' E s :=
  wpAny_mono h k fun _ _ f => f.elim

section
variable {w : Wo} {n : Nat} {env : Env} {σ : Sto}

theorem Ev.use {N : Addr → Prop} {e : Expr} {d : D} (x : Ev w n env σ e d) {A : Around} {s : Shared} {Q : Value → Shared → Prop} {E : Value → Shared → Prop} (P : At w n N env σ A s)
    (k : ∀ v s', Rep N s'.heap d v → Kp s s' → Q v s') : wpAny (MM w) A (eval e env) Q E s := wp_use (x.go N A s P) fun v s' q => k v s' q.1 q.2

theorem ev_int {i : Int} {k : Nat} {p : Pos} : Ev w n env σ (.Constant (.int i) k p) (.int i) := .mk fun N A s _ => wpAny_Constant_int ⟨rep_int, .tok _ _⟩
theorem ev_str {x : Str} {l : List Nat} {k : Nat} {p : Pos} (e : x.cps.toList = l) : Ev w n env σ (.Constant (.str x) k p) (.str l) := .mk fun N A s _ => Constant_str ⟨rep_strS e, .tok _ _⟩
theorem ev_bool {b : Bool} {k : Nat} {p : Pos} : Ev w n env σ (.Constant (.bool b) k p) (.bool b) := .mk fun N A s _ => wpAny_Constant_bool ⟨rep_bool, .refl _⟩
theorem ev_none {k : Nat} {p : Pos} : Ev w n env σ (.Constant .none k p) .none := .mk fun N A s _ => wpAny_Constant_none ⟨rep_none, .refl _⟩

theorem load_bound {A : Around} {s : Shared} {x : Str} {v : Value} {Q : Value → Shared → Prop} {E : Value → Shared → Prop} (hk : env.scope.kind = .function) (b : Bound env s.heap x v) (h : Q v s)
    (hn : (x == ("__classdict__" : Str)) = false := by decide) : wpAny (MM w) A (loadName env x) Q E s := by
  cases b with
  | loc m k n e => exact wpAny_loadName_local hk k n e h
  | cell c k l e =>
    rcases k with k | k
    · exact wpAny_loadName_cell hk k l e h
    · exact wpAny_loadName_free hk k l e h hn
theorem ev_name {x : Str} {p : Pos} {d : D} (hk : env.scope.kind = .function) (hx : σ.lookup x = some d) (hd : (x == ("__debug__" : Str)) = false := by decide) (hn : (x == ("__classdict__" : Str)) = false := by decide) :
    Ev w n env σ (.Name x p) d := .mk fun N A s P => by
  obtain ⟨v, b, r⟩ := P.holds x d hx
  exact wpAny_Name (load_bound hk b ⟨r, .refl _⟩ hn) hd
theorem ev_glob {x : Str} {p : Pos} (hk : env.scope.kind = .function) (hx : env.kindOf x = some .globalImplicit) (hg : env.globals = mainGlobals) (m : x ∈ gTab := by decide)
    (hd : (x == ("__debug__" : Str)) = false := by decide) : Ev w n env σ (.Name x p) (.raw (.ref (w.ad x))) := .mk fun N A s P => by
  obtain ⟨mg, mb, g1, g2, g3, _, g4⟩ := P.lib.names
  exact Name_function_global hk hx (loadGlobal_global (by rw [hg]; exact g1) (g3 _ m) ⟨rep_raw, .refl _⟩) hd
theorem ev_blt {x : Str} {p : Pos} {v : Value} (hk : env.scope.kind = .function) (hx : env.kindOf x = some .globalImplicit) (hg : env.globals = mainGlobals) (hb : env.builtins = builtinsNs) (m : (x, v) ∈ bTab := by decide)
    (hd : (x == ("__debug__" : Str)) = false := by decide) : Ev w n env σ (.Name x p) (.raw v) := .mk fun N A s P => by
  obtain ⟨mg, mb, g1, g2, g3, _, g4⟩ := P.lib.names
  exact Name_function_global hk hx (loadGlobal_builtin (by rw [hg]; exact g1) (g4 _ m).1 (by rw [hb]; exact g2) (g4 _ m).2 ⟨rep_raw, .refl _⟩) hd
theorem ev_crlf {p : Pos} (hk : env.scope.kind = .function) (hx : env.kindOf "CRLF" = some .globalImplicit) (hg : env.globals = mainGlobals) : Ev w n env σ (.Name "CRLF" p) (.str [13, 10]) := .mk fun N A s P => by
  obtain ⟨mg, mb, g1, g2, g3, ⟨t, g5⟩, g4⟩ := P.lib.names
  exact Name_function_global hk hx (loadGlobal_global (by rw [hg]; exact g1) g5 ⟨rep_str, .refl _⟩)

/-- an operation on two values -/
def Bi (w : Wo) (n : Nat) (op : Operator) (a b d : D) : Prop :=
  ∀ N A s u v, Cx w n N A s → Rep N s.heap a u → Rep N s.heap b v → wpAny (MM w) A (binaryOp op u v) (fun r s' => Rep N s'.heap d r ∧ Kp s s') noE s
theorem ev_bin {l r : Expr} {op : Operator} {p : Pos} {a b d : D} (x : Ev w n env σ l a) (y : Ev w n env σ r b) (o : Bi w n op a b d) : Ev w n env σ (.BinOp l op r p) d := .mk fun N A s P =>
  wpAny_BinOp (x.use P fun u s₁ r₁ k₁ => y.use (P.kp k₁) fun v s₂ r₂ k₂ =>
    wp_use (o N A s₂ u v (P.kp (k₁.trans k₂)).toCx (k₂.rep r₁) r₂) fun z s₃ q => ⟨q.1, (k₁.trans k₂).trans q.2⟩)
theorem bi_add {a b : Int} : Bi w n .Add (.int a) (.int b) (.int (a + b)) := fun N A s u v _ ru rv => by
  obtain ⟨t, rfl⟩ := inv_int ru
  obtain ⟨t', rfl⟩ := inv_int rv
  exact add_int ⟨rep_int, .tok _ _⟩
theorem bi_mul {a b : Int} (hm : IntMulOk a b) : Bi w n .Mult (.int a) (.int b) (.int (a * b)) := fun N A s u v _ ru rv => by
  obtain ⟨t, rfl⟩ := inv_int ru
  obtain ⟨t', rfl⟩ := inv_int rv
  exact mul_int ⟨rep_int, .tok _ _⟩ hm
theorem bi_mod {a b : Int} (hb : b ≠ 0) : Bi w n .Mod (.int a) (.int b) (.int (a.fmod b)) := fun N A s u v _ ru rv => by
  obtain ⟨t, rfl⟩ := inv_int ru
  obtain ⟨t', rfl⟩ := inv_int rv
  exact mod_int' hb ⟨rep_int, .tok _ _⟩
theorem bi_floordiv {a b : Int} (hb : b ≠ 0) (hp : Builtin.divisionGoesByPylong a b = false) : Bi w n .FloorDiv (.int a) (.int b) (.int (a.fdiv b)) := fun N A s u v _ ru rv => by
  obtain ⟨t, rfl⟩ := inv_int ru
  obtain ⟨t', rfl⟩ := inv_int rv
  exact floordiv_int hb ⟨rep_int, .tok _ _⟩ (.inl hp)
theorem bi_pow {a b : Int} (h0 : 0 ≤ b) (hz : (Builtin.Int.intBits a : Int) * b ≤ 2 ^ 27) : Bi w n .Pow (.int a) (.int b) (.int (a ^ b.toNat)) := fun N A s u v _ ru rv => by
  obtain ⟨t, rfl⟩ := inv_int ru
  obtain ⟨t', rfl⟩ := inv_int rv
  exact pow_int h0 hz ⟨rep_int, .tok _ _⟩
theorem bi_and {a b : Int} : Bi w n .BitAnd (.int a) (.int b) (.int (Builtin.bitAnd a b)) := fun N A s u v _ ru rv => by
  obtain ⟨t, rfl⟩ := inv_int ru
  obtain ⟨t', rfl⟩ := inv_int rv
  exact and_int ⟨rep_int, .tok _ _⟩
theorem str_app (a b : List Nat) : (⟨a.toArray⟩ : Str) ++ ⟨b.toArray⟩ = ⟨(a ++ b).toArray⟩ := by
  refine PySem.Str.ext' ?_
  rw [PySem.Str.cps_append]; simp
theorem bi_cat {a b : List Nat} (hz : a.length + b.length ≤ sizeLine) : Bi w n .Add (.str a) (.str b) (.str (a ++ b)) := fun N A s u v _ ru rv => by
  obtain ⟨t, rfl⟩ := inv_str ru
  obtain ⟨t', rfl⟩ := inv_str rv
  refine PyProof.Rows.add_str (fun t' tk => ⟨by rw [str_app]; exact rep_str, .tok _ _⟩) ?_
  simpa [PySem.Str.length] using hz
end
end Mine
end

section
open PySem PySem.W PyProof.Rows PySem.Calls
namespace Mine

theorem ns_fn {h : Heap} {a : Addr} {m m' : Str → Option Value} (x : h.Ns a m) (y : h.Ns a m') : m = m' := by
  obtain ⟨o, es, ep, ho, hd, _, e⟩ := x
  obtain ⟨o', es', ep', ho', hd', _, e'⟩ := y
  rw [ho] at ho'; cases ho'
  rw [hd] at hd'; cases hd'
  funext n; rw [← e n, ← e' n]
theorem ns_noSeq {h : Heap} {a : Addr} {m : Str → Option Value} (x : h.Ns a m) {o : Obj} {xs : Array Value} {k : Nat} (e : h.get? a = some o) (d : o.data = .seq xs k) : False := by
  obtain ⟨o', es, ep, ho, hd, _⟩ := x
  rw [e] at ho; cases ho; rw [d] at hd; cases hd
theorem cell_noSeq {h : Heap} {a : Addr} {v : Option Value} (x : h.IsCell a v) {o : Obj} {xs : Array Value} {k : Nat} (e : h.get? a = some o) (d : o.data = .seq xs k) : False := by
  obtain ⟨o', ho, hd⟩ := x
  rw [e] at ho; cases ho; rw [d] at hd; cases hd
theorem ns_noCell {h : Heap} {a : Addr} {m : Str → Option Value} {v : Option Value} (x : h.Ns a m) (y : h.IsCell a v) : False := by
  obtain ⟨o, es, ep, ho, hd, _⟩ := x
  obtain ⟨o', ho', hd'⟩ := y
  rw [ho] at ho'; cases ho'; rw [hd] at hd'; cases hd'

/-- a frame at work: what it found stands, its table is fresh -/
structure Fs (base : Heap) (env : Env) (s₀ s : Shared) : Prop where
  same : ∃ h t, s = { s₀ with heap := h, toks := t }
  keep : ∀ b o, base.get? b = some o → s.heap.get? b = some o
  ns : ∃ m, s.heap.Ns env.locals m
  fresh : base.get? env.locals = none
  cel : ∀ x c, env.cells.lookup x = some c → ∃ v, s.heap.IsCell c v
/-- the frame's own places -/
def Own (env : Env) (b : Addr) : Prop := b = env.locals ∨ ∃ x, env.cells.lookup x = some b
/-- where a name may be put -/
inductive Put (base : Heap) (env : Env) (h : Heap) (x : Str) : Prop where
  | loc (k : env.kindOf x = some .local)
  | cell (c : Addr) (v : Option Value) (k : env.kindOf x = some .cell) (l : env.cells.lookup x = some c) (f : base.get? c = none) (i : h.IsCell c v) (inj : ∀ y, env.cells.lookup y = some c → y = x)

/-- from s to s', the frame alone written -/
structure Nx (N : Addr → Prop) (base : Heap) (env : Env) (s₀ : Shared) (σ : Sto) (s s' : Shared) : Prop where
  fs : Fs base env s₀ s'
  holds : Holds N env s'.heap σ
  grow : Grow Nil s.heap s'.heap
  kx : ∀ b o, ¬ Own env b → s.heap.get? b = some o → s'.heap.get? b = some o
  some : ∀ b, (s.heap.get? b).isSome = true → (s'.heap.get? b).isSome = true

section
variable {w : Wo} {n : Nat} {N : Addr → Prop} {base : Heap} {env : Env} {s₀ s s' : Shared} {σ : Sto} {A : Around} {E : Value → Shared → Prop} {x : Str} {d : D} {v : Value}

theorem Fs.kp (F : Fs base env s₀ s) (k : Kp s s') : Fs base env s₀ s' := by
  obtain ⟨h, t, rfl, kk⟩ := k
  obtain ⟨⟨h', t', rfl⟩, k1, ⟨m, k2⟩, k3, k4⟩ := F
  exact ⟨⟨h, t, rfl⟩, fun b o e => kk b o (k1 b o e), ⟨m, k2.keeps kk⟩, k3, fun x c l => by
    obtain ⟨v, o, ho, hd⟩ := k4 x c l
    exact ⟨v, o, kk c o ho, hd⟩⟩
theorem Fs.lib (F : Fs base env s₀ s) (L : Lib w base) : Lib w s.heap := L.keeps F.keep
theorem keep_some {h h' : Heap} (k : ∀ b o, h.get? b = some o → h'.get? b = some o) (b : Addr) (q : (h.get? b).isSome = true) : (h'.get? b).isSome = true := by
  obtain ⟨o, ho⟩ := Option.isSome_iff_exists.mp q
  rw [k b o ho]; rfl
theorem Nx.of (F : Fs base env s₀ s) (H : Holds N env s.heap σ) (k : Kp s s') : Nx N base env s₀ σ s s' := ⟨F.kp k, H.keeps k.keep, .of k.keep, fun b o _ e => k.keep b o e, keep_some k.keep⟩
theorem Nx.trans {s'' : Shared} {σ' : Sto} (a : Nx N base env s₀ σ' s s') (b : Nx N base env s₀ σ s' s'') : Nx N base env s₀ σ s s'' :=
  ⟨b.fs, b.holds, a.grow.trans b.grow, fun x o h e => b.kx x o h (a.kx x o h e), fun x q => b.some x (a.some x q)⟩
theorem Nx.at (a : Nx N base env s₀ σ s s') (L : Lib w base) (P : Cx w n N A s) : At w n N env σ A s' := ⟨⟨P.ok, a.fs.lib L, fun b hb => a.some b (P.old b hb)⟩, a.holds⟩

theorem grow_sameBut {h h' : Heap} {a : Addr} (hs : Heap.SameBut a h h') (hn : ∀ o xs k, h.get? a = some o → o.data = .seq xs k → False) : Grow N h h' := fun b o xs k _ e dd => by
  refine hs.extBut b o (fun q => ?_) e
  subst q
  exact hn o xs k e dd
theorem sameBut_some {h h' : Heap} {a : Addr} (hs : Heap.SameBut a h h') (ha : (h'.get? a).isSome = true) (b : Addr) (q : (h.get? b).isSome = true) : (h'.get? b).isSome = true := by
  by_cases e : b = a
  · subst e; exact ha
  · obtain ⟨o, ho⟩ := Option.isSome_iff_exists.mp q
    rw [hs.extBut b o e ho]; rfl
theorem ns_some {h : Heap} {a : Addr} {m : Str → Option Value} (x : h.Ns a m) : (h.get? a).isSome = true := by obtain ⟨o, _, _, ho, _⟩ := x; rw [ho]; rfl
theorem cell_some {h : Heap} {a : Addr} {v : Option Value} (x : h.IsCell a v) : (h.get? a).isSome = true := by obtain ⟨o, ho, _⟩ := x; rw [ho]; rfl

theorem store (F : Fs base env s₀ s) (H : Holds N env s.heap σ) (hk : env.scope.kind = .function) (p : Put base env s.heap x) (r : Rep N s.heap d v) {Q : Unit → Shared → Prop}
    (h : ∀ s', Nx N base env s₀ ((x, d) :: σ) s s' → Q () s') : wpAny (MM w) A (storeName env x v) Q E s := by
  obtain ⟨m, hm⟩ := F.ns
  cases p with
  | loc k =>
    refine wpAny_storeName_local k hm (fun h' hn hs => ?_) (by rw [hk]; rfl)
    have g : ∀ N, Grow N s.heap h' := fun N => grow_sameBut hs fun o xs k e dd => ns_noSeq hm e dd
    obtain ⟨⟨h0, t0, rfl⟩, k1, _, k3, k4⟩ := F
    refine h _ ⟨⟨⟨h', _, rfl⟩, fun b o e => hs.extBut b o (by rintro rfl; rw [k3] at e; cases e) (k1 b o e), ⟨_, hn⟩, k3, fun x c l => by
      obtain ⟨v, o, ho, hd⟩ := k4 x c l
      exact ⟨v, o, hs.extBut c o (by rintro rfl; exact ns_noCell hm ⟨o, ho, hd⟩) ho, hd⟩⟩, fun y e hy => ?_, g _, fun b o ho e => hs.extBut b o (fun q => ho (.inl q)) e, sameBut_some hs (ns_some hn)⟩
    rw [List.lookup_cons] at hy
    by_cases q : y = x
    · subst q
      simp only [beq_self_eq_true] at hy
      cases hy
      exact ⟨v, .loc _ k hn (by simp), r.grow (g _)⟩
    · have q' : (y == x) = false := by simpa using q
      rw [q'] at hy
      obtain ⟨u, b, ru⟩ := H y e hy
      refine ⟨u, ?_, ru.grow (g _)⟩
      cases b with
      | loc m' k' n' e' =>
        have := ns_fn n' hm
        subst this
        exact .loc _ k' hn (by simp [q, e'])
      | cell c k' l' e' =>
        obtain ⟨o, ho, hd⟩ := e'
        exact .cell c k' l' ⟨o, hs.extBut c o (by rintro rfl; exact ns_noCell hm ⟨o, ho, hd⟩) ho, hd⟩
  | cell c u k l f i inj =>
    refine wpAny_storeName_cell hk k l i fun h' hn hs => ?_
    have g : ∀ N, Grow N s.heap h' := fun N => grow_sameBut hs fun o xs k e dd => cell_noSeq i e dd
    have hLc : env.locals ≠ c := by rintro q; rw [q] at hm; exact ns_noCell hm i
    obtain ⟨⟨h0, t0, rfl⟩, k1, _, k3, k4⟩ := F
    refine h _ ⟨⟨⟨h', _, rfl⟩, fun b o e => hs.extBut b o (by rintro rfl; rw [f] at e; cases e) (k1 b o e), ⟨m, hm.sameBut hs hLc⟩, k3, fun x' c' l => by
      obtain ⟨v, o, ho, hd⟩ := k4 x' c' l
      by_cases q : c' = c
      · subst q; exact ⟨_, hn⟩
      · exact ⟨v, o, hs.extBut c' o q ho, hd⟩⟩, fun y e hy => ?_, g _, fun b o ho e => hs.extBut b o (fun q => ho (.inr ⟨x, q ▸ l⟩)) e, sameBut_some hs (cell_some hn)⟩
    rw [List.lookup_cons] at hy
    by_cases q : y = x
    · subst q
      simp only [beq_self_eq_true] at hy
      cases hy
      exact ⟨v, .cell c (.inl k) l hn, r.grow (g _)⟩
    · have q' : (y == x) = false := by simpa using q
      rw [q'] at hy
      obtain ⟨u', b, ru⟩ := H y e hy
      refine ⟨u', ?_, ru.grow (g _)⟩
      cases b with
      | loc m' k' n' e' => exact .loc m' k' (n'.sameBut hs hLc) e'
      | cell c' k' l' e' =>
        obtain ⟨o, ho, hd⟩ := e'
        exact .cell c' k' l' ⟨o, hs.extBut c' o (by rintro rfl; exact q (inj y l')) ho, hd⟩

/-- several expressions, as a call or a display takes them -/
structure Evs (w : Wo) (n : Nat) (env : Env) (σ : Sto) (es : List Expr) (ds : List D) : Prop where
  go : ∀ (pos : Pos) N A s, At w n N env σ A s → wpAny (MM w) A (spliced (backTo pos (starEach es env))) (fun vs s' => Reps N s'.heap ds vs ∧ Kp s s') noE s
theorem evs_nil : Evs w n env σ [] [] := .mk fun _ _ _ s _ => args_nil ⟨.nil, .refl _⟩
theorem evs_cons {e : Expr} {es : List Expr} {d : D} {ds : List D} (a : Ev w n env σ e d) (b : Evs w n env σ es ds) (he : starEach (e :: es) env = (false, eval e env) :: starEach es env := by rfl) : Evs w n env σ (e :: es) (d :: ds) := .mk fun pos N A s P =>
  args_cons (a.use P fun v s₁ r k => wp_use (b.go pos N A s₁ (P.kp k)) fun vs s₂ q => ⟨.cons (q.2.rep r) q.1, k.trans q.2⟩) he
theorem Evs.use {es : List Expr} {ds : List D} (x : Evs w n env σ es ds) {pos : Pos} {Q : List Value → Shared → Prop} (P : At w n N env σ A s)
    (k : ∀ vs s', Reps N s'.heap ds vs → Kp s s' → Q vs s') : wpAny (MM w) A (spliced (backTo pos (starEach es env))) Q E s := wp_use (x.go pos N A s P) fun v s' q => k v s' q.1 q.2

theorem ev_list {es : List Expr} {ds : List D} {p : Pos} (x : Evs w n env σ es ds) (hz : ds.length ≤ sizeLine := by decide) : Ev w n env σ (.List es p) (.lst ds) := .mk fun N A s P =>
  wpAny_List (x.use P fun vs s₁ r k => ⟨by rw [r.length]; exact hz, rep_lst (P.kp k).free ⟨_, Heap.get?_push_size _ rfl, rfl, 0, rfl⟩ (r.grow (.push _)), k.trans (.push _ _)⟩)
theorem ev_tuple {es : List Expr} {ds : List D} {k : Nat} {p : Pos} (x : Evs w n env σ es ds) (hz : ds.length ≤ sizeLine := by decide) : Ev w n env σ (.Tuple es k p) (.tup ds) := .mk fun N A s P =>
  wpAny_Tuple (x.use P fun vs s₁ r k => ⟨by rw [r.length]; exact hz, rep_tup (P.kp k).free ⟨_, Heap.get?_push_size _ rfl, rfl, 0, rfl⟩ (r.grow (.push _)), k.trans (.push _ _)⟩)

/-- an assignment to one name -/
theorem x_assign {e : Expr} {p p' : Pos} {rest : List Stmt} {Q : Flow → Shared → Prop} (a : Ev w n env σ e d) (L : Lib w base) (F : Fs base env s₀ s) (P : At w n N env σ A s) (hk : env.scope.kind = .function)
    (pt : ∀ s', Kp s s' → Put base env s'.heap x) (h : ∀ s', Nx N base env s₀ ((x, d) :: σ) s s' → At w n N env ((x, d) :: σ) A s' → wpAny (MM w) A (execs rest env) Q E s')
    (hs : swapsWith e (some (.Name x p)) p'.line env = pure false := by rfl) : wpAny (MM w) A (execs (.Assign [.Name x p] e p' :: rest) env) Q E s :=
  wpAny_execs_cons (wpAny_Assign_Name (a.use P fun v s₁ r k => store (F.kp k) (P.kp k).holds hk (pt _ k) r fun s₂ N' => by
    have q := (Nx.of F P.holds k).trans N'
    exact h s₂ q (q.at L P.toCx)) hs)
theorem x_return {e : Expr} {p : Pos} {rest : List Stmt} {Q : Flow → Shared → Prop} (a : Ev w n env σ e d) (P : At w n N env σ A s) (h : ∀ v s', Rep N s'.heap d v → Kp s s' → Q (.ret v) s') :
    wpAny (MM w) A (execs (.Return (some e) p :: rest) env) Q E s :=
  wpAny_execs_cons (wpAny_Return_some (a.use P h))

/-- the worth of a test -/
structure EvB (w : Wo) (n : Nat) (env : Env) (σ : Sto) (e : Expr) (b : Bool) : Prop where
  go : ∀ N A s, At w n N env σ A s → wpAny (MM w) A (isTrue e env (eval e env)) (fun c s' => c = b ∧ Kp s s') noE s
theorem x_if {t : Expr} {b : Bool} {y z rest : List Stmt} {p : Pos} {Q : Flow → Shared → Prop} (a : EvB w n env σ t b) (P : At w n N env σ A s)
    (h : ∀ s', Kp s s' → wpAny (MM w) A (execs (if b then y else z) env) (fun f s₂ => match f with | .next => wpAny (MM w) A (execs rest env) Q E s₂ | f => Q f s₂) E s') :
    wpAny (MM w) A (execs (.If t y z p :: rest) env) Q E s :=
  wpAny_execs_cons (wpAny_If (wp_use (a.go N A s P) fun c s' q => by
    obtain ⟨rfl, k⟩ := q
    have := wpAny_mono (Q' := fun f s₂ => match f with | .next => wpAny (MM w) A (execs rest env) Q E s₂ | f => Q f s₂) (h s' k) (fun f s₂ hf => by cases f <;> exact hf) (fun _ _ e => e)
    cases c
    · exact wpAny_mono this (fun f s₂ hf => by cases f <;> exact hf) (fun _ _ e => e)
    · exact wpAny_mono this (fun f s₂ hf => by cases f <;> exact hf) (fun _ _ e => e)))

/-- a comparison -/
def Cm (w : Wo) (n : Nat) (op : CmpOp) (a b : D) (c : Bool) : Prop :=
  ∀ N A s u v, Cx w n N A s → Rep N s.heap a u → Rep N s.heap b v → wpAny (MM w) A (compareOp op u v) (fun r s' => r = .bool c ∧ Kp s s') noE s
theorem evb_cmp {l r : Expr} {op : CmpOp} {p : Pos} {a b : D} {c : Bool} (x : Ev w n env σ l a) (y : Ev w n env σ r b) (o : Cm w n op a b c) (hm : behindInMarks op r = false := by rfl) : EvB w n env σ (.Compare l [op] [r] p) c := .mk fun N A s P =>
  wpAny_isTrue_Compare1 (x.use P fun u s₁ r₁ k₁ => y.use (P.kp k₁) fun v s₂ r₂ k₂ =>
    wp_use (o N A s₂ u v (P.kp (k₁.trans k₂)).toCx (k₂.rep r₁) r₂) fun z s₃ q => by
      obtain ⟨rfl, k⟩ := q
      exact wpAny_truthy_bool ⟨rfl, (k₁.trans k₂).trans k⟩) hm
theorem ev_cmp {l r : Expr} {op : CmpOp} {p : Pos} {a b : D} {c : Bool} (x : Ev w n env σ l a) (y : Ev w n env σ r b) (o : Cm w n op a b c) (hm : behindInMarks op r = false := by rfl) : Ev w n env σ (.Compare l [op] [r] p) (.bool c) := .mk fun N A s P =>
  wpAny_Compare1 (x.use P fun u s₁ r₁ k₁ => y.use (P.kp k₁) fun v s₂ r₂ k₂ =>
    wp_use (o N A s₂ u v (P.kp (k₁.trans k₂)).toCx (k₂.rep r₁) r₂) fun z s₃ q => by
      obtain ⟨rfl, k⟩ := q
      exact ⟨rep_bool, (k₁.trans k₂).trans k⟩) hm
theorem ev_ifexp {t y z : Expr} {p : Pos} {b : Bool} {d : D} (a : EvB w n env σ t b) (h : Ev w n env σ (if b then y else z) d) : Ev w n env σ (.IfExp t y z p) d := .mk fun N A s P =>
  wpAny_IfExp (wp_use (a.go N A s P) fun c s' q => by
    obtain ⟨rfl, k⟩ := q
    have := wp_use (Q' := fun v s₂ => Rep N s₂.heap d v ∧ Kp s s₂) (E := noE) (h.go N A s' (P.kp k)) fun v s₂ q => ⟨q.1, k.trans q.2⟩
    cases c <;> simpa using this)
theorem cm_eq_int {a b : Int} : Cm w n .Eq (.int a) (.int b) (a == b) := fun N A s u v _ ru rv => by
  obtain ⟨t, rfl⟩ := inv_int ru
  obtain ⟨t', rfl⟩ := inv_int rv
  exact PyProof.Rows.eq_int ⟨rfl, .refl _⟩
theorem cm_lt_int {a b : Int} : Cm w n .Lt (.int a) (.int b) (decide (a < b)) := fun N A s u v _ ru rv => by
  obtain ⟨t, rfl⟩ := inv_int ru
  obtain ⟨t', rfl⟩ := inv_int rv
  exact wpAny_lt_int ⟨rfl, .refl _⟩
theorem cm_eq_str {a b : List Nat} : Cm w n .Eq (.str a) (.str b) (a == b) := fun N A s u v _ ru rv => by
  obtain ⟨t, rfl⟩ := inv_str ru
  obtain ⟨t', rfl⟩ := inv_str rv
  exact PySem.P.eq_str ⟨by simp, .refl _⟩
end
end Mine
end

section
open PySem PySem.W PyProof.Rows PySem.Calls
namespace Mine

section
variable {w : Wo} {n : Nat} {N : Addr → Prop} {base : Heap} {env : Env} {s₀ s s' : Shared} {σ : Sto} {A : Around} {E : Value → Shared → Prop} {x : Str} {d : D} {v : Value}

theorem seqIdx {k len : Nat} (h : k < len) : seqIndex? (k : Int) len = some k := by
  unfold seqIndex?
  have h0 : ¬ (k : Int) < 0 := by omega
  simp only [if_neg h0]
  have h1 : (decide (0 ≤ (k : Int)) && decide ((k : Int) < (len : Int))) = true := by simp [h]
  rw [if_pos h1]; rfl
/-- an item taken -/
def Sb (w : Wo) (n : Nat) (value slice : Expr) (a b d : D) : Prop :=
  ∀ N A s u v, Cx w n N A s → Rep N s.heap a u → Rep N s.heap b v → wpAny (MM w) A (subscriptTail value slice u v) (fun r s' => Rep N s'.heap d r ∧ Kp s s') noE s
theorem ev_sub {e i : Expr} {p : Pos} {a b d : D} (x : Ev w n env σ e a) (y : Ev w n env σ i b) (o : Sb w n e i a b d) : Ev w n env σ (.Subscript e i p) d := .mk fun N A s P =>
  Subscript_ (x.use P fun u s₁ r₁ k₁ => y.use (P.kp k₁) fun v s₂ r₂ k₂ =>
    wp_use (o N A s₂ u v (P.kp (k₁.trans k₂)).toCx (k₂.rep r₁) r₂) fun z s₃ q => ⟨q.1, (k₁.trans k₂).trans q.2⟩)
/-- the place that an index means -/
def at_ (k : Int) (len : Nat) : Nat := if 0 ≤ k then k.toNat else (k + len).toNat
theorem sb_list {value slice : Expr} {ds : List D} {k : Int} {d : D} (h1 : -(ds.length : Int) ≤ k) (h2 : k < 2 ^ 62) (h3 : ds.length ≤ sizeLine) (hd : ds[at_ k ds.length]? = some d)
    (hs : ∀ o i, subscripted slice false o i = operate [o, i] (getItem o i) := by intro _ _; rfl) : Sb w n value slice (.lst ds) (.int k) d := fun N A s u v C ru rv => by
  obtain ⟨a, vs, rfl, hN, hl, r⟩ := inv_lst ru
  obtain ⟨t, rfl⟩ := inv_int rv
  have hz := sizeLine_eq
  obtain ⟨y, hy, ry⟩ := r.get _ _ hd
  have hlen : vs.toArray.size = ds.length := by simp [r.length]
  refine tail_any hl.typeIs slot_list_getitem.lookup ?_ (hs _ _)
  unfold at_ at hy
  by_cases h0 : 0 ≤ k
  · rw [if_pos h0] at hy
    exact wpAny_getItem_list hl h0 (by omega) (by simpa using hy) ⟨ry, .refl _⟩
  · rw [if_neg h0] at hy
    exact wpAny_getItem_list_neg hl (by omega) (by rw [hlen]; exact h1) (by omega) (by rw [hlen]; simpa using hy) ⟨ry, .refl _⟩
theorem sb_tup {value slice : Expr} {ds : List D} {k : Nat} {d : D} (h2 : (k : Int) < 2 ^ 62) (hd : ds[k]? = some d)
    (hs : ∀ o i, subscripted slice false o i = operate [o, i] (getItem o i) := by intro _ _; rfl) : Sb w n value slice (.tup ds) (.int k) d := fun N A s u v C ru rv => by
  obtain ⟨a, vs, rfl, hN, hl, r⟩ := inv_tup ru
  obtain ⟨t, rfl⟩ := inv_int rv
  obtain ⟨y, hy, ry⟩ := r.get _ _ hd
  have hk : k < ds.length := (List.getElem?_eq_some_iff.mp hd).1
  refine item_tupleT hl (by omega) (by omega) (j := k) ?_ hy ⟨ry, .refl _⟩ (hs _ _)
  rw [r.length]; exact seqIdx hk
theorem sb_str {value slice : Expr} {l : List Nat} {k : Nat} {c : Nat} (h2 : (k : Int) < 2 ^ 62) (hd : l[k]? = some c)
    (hs : ∀ o i, subscripted slice false o i = operate [o, i] (getItem o i) := by intro _ _; rfl) : Sb w n value slice (.str l) (.int k) (.str [c]) := fun N A s u v C ru rv => by
  obtain ⟨t', rfl⟩ := inv_str ru
  obtain ⟨t, rfl⟩ := inv_int rv
  have hk : k < l.length := (List.getElem?_eq_some_iff.mp hd).1
  have q : Rep N s.heap (.str [c]) (.str (Txt.item ⟨l.toArray⟩ k) s.toks) := ?_
  · obtain ⟨T, id, h1, h2, h3⟩ := SB.item (prog := pw) (w := w.w) (A := A) (E := noE) (s := s) (x := ⟨l.toArray⟩) (t := t') (u := t) (Q := fun r s' => Rep N s'.heap (.str [c]) r ∧ Kp s s') (fitsSsize_of (N := 2 ^ 62) (by omega) h2 (by decide)) (charAt_isSome (by simp [PySem.Str.length]) (by simpa [PySem.Str.length] using hk)) ⟨q, .tok _ _⟩
    exact tail_any h2 h1 h3 (hs _ _)
  refine rep_strS ?_
  unfold Txt.item Txt.charAt
  rw [show PySem.Str.length (⟨l.toArray⟩ : Str) = l.length from by simp [PySem.Str.length], seqIdx hk]
  simp [hd]

/-- cuts of lists -/
theorem ev_upto {e u : Expr} {p q : Pos} {ds : List D} {k : Nat} (x : Ev w n env σ e (.lst ds)) (y : Ev w n env σ u (.int k)) (hz : ds.length ≤ sizeLine) (ht : ∀ o r, letTemporaryGo e o r = pure () := by intro _ _; rfl) :
    Ev w n env σ (.Subscript e (.Slice none (some u) none q) p) (.lst (ds.take k)) := .mk fun N A s P => by
  refine wpAny_Subscript_list_slice (x.use P fun o s₁ r₁ k₁ => wpAny_pure (y.use (P.kp k₁) fun vu s₂ r₂ k₂ => ?_)) ht
  obtain ⟨a, vs, rfl, hN, hl, r⟩ := inv_lst (k₂.rep r₁)
  obtain ⟨t, rfl⟩ := inv_int r₂
  refine ⟨a, _, none, some (k : Int), rfl, hl, by simp [r.length, hz], .none, .int _ _, ?_⟩
  rw [slicePick_upto']
  refine ⟨rep_lst (fun z => by have := (P.kp (k₁.trans k₂)).old _ z; rw [Heap.get?_none_of_le (Nat.le_succ _)] at this; cases this) ⟨_, by rw [← Heap.size_push]; exact Heap.get?_push_size _ rfl, rfl, 0, rfl⟩ ((r.take k).grow (.of fun b o e => Heap.get?_push_of_some _ (Heap.get?_push_of_some _ e))), (k₁.trans k₂).trans ?_⟩
  exact ⟨_, _, rfl, fun b o e => Heap.get?_push_of_some _ (Heap.get?_push_of_some _ e)⟩
theorem ev_from {e u : Expr} {p q : Pos} {ds : List D} {k : Nat} (x : Ev w n env σ e (.lst ds)) (y : Ev w n env σ u (.int k)) (hz : ds.length ≤ sizeLine) (ht : ∀ o r, letTemporaryGo e o r = pure () := by intro _ _; rfl) :
    Ev w n env σ (.Subscript e (.Slice (some u) none none q) p) (.lst (ds.drop k)) := .mk fun N A s P => by
  refine wpAny_Subscript_list_slice (x.use P fun o s₁ r₁ k₁ => (y.use (P.kp k₁) fun vu s₂ r₂ k₂ => wpAny_pure ?_)) ht
  obtain ⟨a, vs, rfl, hN, hl, r⟩ := inv_lst (k₂.rep r₁)
  obtain ⟨t, rfl⟩ := inv_int r₂
  refine ⟨a, _, some (k : Int), none, rfl, hl, by simp [r.length, hz], .int _ _, .none, ?_⟩
  rw [slicePick_from']
  refine ⟨rep_lst (fun z => by have := (P.kp (k₁.trans k₂)).old _ z; rw [Heap.get?_none_of_le (Nat.le_succ _)] at this; cases this) ⟨_, by rw [← Heap.size_push]; exact Heap.get?_push_size _ rfl, rfl, 0, rfl⟩ ((r.drop k).grow (.of fun b o e => Heap.get?_push_of_some _ (Heap.get?_push_of_some _ e))), (k₁.trans k₂).trans ?_⟩
  exact ⟨_, _, rfl, fun b o e => Heap.get?_push_of_some _ (Heap.get?_push_of_some _ e)⟩
theorem ev_butLast {e u : Expr} {p q : Pos} {ds : List D} (x : Ev w n env σ e (.lst ds)) (y : Ev w n env σ u (.int (-1))) (hz : ds.length ≤ sizeLine) (ht : ∀ o r, letTemporaryGo e o r = pure () := by intro _ _; rfl) :
    Ev w n env σ (.Subscript e (.Slice none (some u) none q) p) (.lst ds.dropLast) := .mk fun N A s P => by
  refine wpAny_Subscript_list_slice (x.use P fun o s₁ r₁ k₁ => wpAny_pure (y.use (P.kp k₁) fun vu s₂ r₂ k₂ => ?_)) ht
  obtain ⟨a, vs, rfl, hN, hl, r⟩ := inv_lst (k₂.rep r₁)
  obtain ⟨t, rfl⟩ := inv_int r₂
  refine ⟨a, _, none, some (-(1 : Nat)), rfl, hl, by simp [r.length, hz], .none, .int _ _, ?_⟩
  rw [slicePick_butLast _ 1 (Nat.le_refl 1), List.dropLast_eq_take]
  refine ⟨rep_lst (fun z => by have := (P.kp (k₁.trans k₂)).old _ z; rw [Heap.get?_none_of_le (Nat.le_succ _)] at this; cases this) ⟨_, by rw [← Heap.size_push]; exact Heap.get?_push_size _ rfl, rfl, 0, rfl⟩ ?_, (k₁.trans k₂).trans ?_⟩
  · have := (r.take (ds.length - 1)).grow (h' := (s₂.heap.push { cls := .type "slice", data := .fields #[.none, .int (-1) t, .none] }).push { cls := .type "list", data := .seq (List.take (vs.length - 1) vs).toArray }) (.of fun b o e => Heap.get?_push_of_some _ (Heap.get?_push_of_some _ e))
    simpa [r.length] using this
  exact ⟨_, _, rfl, fun b o e => Heap.get?_push_of_some _ (Heap.get?_push_of_some _ e)⟩

theorem idx_first {len i : Nat} (hi : i ∈ PySem.Builtin.Str.strSliceIndices none (some 1) 1 len) : i < len := by
  have e : PySem.Builtin.Str.strSliceIndices none (some 1) 1 len = PySem.Builtin.Str.strSliceIndices (some ((0 : Nat) : Int)) (some ((min 1 len : Nat) : Int)) 1 len := by
    unfold PySem.Builtin.Str.strSliceIndices
    simp only []
    congr 1 <;> simp <;> omega
  rw [e, PySem.StrLaws.strSliceIndices_plain (by omega) (by omega)] at hi
  simp at hi
  omega
theorem idx_tail {len i : Nat} (hi : i ∈ PySem.Builtin.Str.strSliceIndices (some 1) none 1 len) : i < len := by
  have e : PySem.Builtin.Str.strSliceIndices (some 1) none 1 len = PySem.Builtin.Str.strSliceIndices (some ((min 1 len : Nat) : Int)) (some ((len : Nat) : Int)) 1 len := by
    unfold PySem.Builtin.Str.strSliceIndices
    simp only []
    congr 1 <;> simp <;> omega
  rw [e, PySem.StrLaws.strSliceIndices_plain (by omega) (by omega)] at hi
  simp at hi
  omega
/-- cuts of a text: its first sign, all behind it -/
theorem pick_first (l : List Nat) : (PySem.Builtin.Str.strSliceIndices none (some 1) 1 l.length).filterMap (l.toArray[·]?) = l.take 1 := by
  have h := PySem.StrLaws.sliced_plain ⟨l.toArray⟩ (a := 0) (b := min 1 l.length) (by omega) (by simp [PySem.Str.length]; omega)
  have e : PySem.Builtin.Str.strSliceIndices none (some 1) 1 l.length = PySem.Builtin.Str.strSliceIndices (some ((0 : Nat) : Int)) (some ((min 1 l.length : Nat) : Int)) 1 (PySem.Str.length ⟨l.toArray⟩) := by
    unfold PySem.Builtin.Str.strSliceIndices
    simp only [PySem.Str.length, List.size_toArray]
    congr 1 <;> simp <;> omega
  rw [e, h]
  cases l <;> simp
theorem pick_tail (l : List Nat) : (PySem.Builtin.Str.strSliceIndices (some 1) none 1 l.length).filterMap (l.toArray[·]?) = l.drop 1 := by
  have h := PySem.StrLaws.sliced_plain ⟨l.toArray⟩ (a := min 1 l.length) (b := l.length) (by omega) (by simp [PySem.Str.length])
  have e : PySem.Builtin.Str.strSliceIndices (some 1) none 1 l.length = PySem.Builtin.Str.strSliceIndices (some ((min 1 l.length : Nat) : Int)) (some ((l.length : Nat) : Int)) 1 (PySem.Str.length ⟨l.toArray⟩) := by
    unfold PySem.Builtin.Str.strSliceIndices
    simp only [PySem.Str.length, List.size_toArray]
    congr 1 <;> simp <;> omega
  rw [e, h]
  cases l <;> simp

theorem slice_post {l : List Nat} {t : Tok} {lo hi : Option (Int × Tok)} {r : List Nat} {Q : Value → Shared → Prop} (hz : l.length ≤ sizeLine) (hp : (PySem.Builtin.Str.strSliceIndices (lo.map (·.1)) (hi.map (·.1)) 1 l.length).filterMap (l.toArray[·]?) = r)
    (hf : ∀ i ∈ PySem.Builtin.Str.strSliceIndices (lo.map (·.1)) (hi.map (·.1)) 1 l.length, i < l.length) (hr : r.length ≤ l.length) (hall : r.length = l.length → r = l) (h : ∀ u s', Rep N s'.heap (.str r) u → Kp s s' → Q u s') : (sliceMade ⟨l.toArray⟩ t lo hi none).post Q s := by
  have hlen : (PySem.Builtin.Str.strSliceIndices (lo.map (·.1)) (hi.map (·.1)) 1 l.length).length = r.length := by
    rw [← hp]
    generalize PySem.Builtin.Str.strSliceIndices (lo.map (·.1)) (hi.map (·.1)) 1 l.length = is at hf
    clear hp
    induction is with
    | nil => rfl
    | cons i is ih =>
      have := hf i (List.mem_cons_self ..)
      rw [List.filterMap_cons, show l.toArray[i]? = some l[i] from by simp [this]]
      simp [ih fun j hj => hf j (List.mem_cons_of_mem _ hj)]
  unfold sliceMade slicePicked
  simp only [Option.map_none, Option.getD_none, PySem.Str.length, List.size_toArray, beq_self_eq_true, Bool.true_and, hlen, hp, beq_iff_eq]
  by_cases q : r.length = l.length
  · rw [if_pos q]
    exact h _ _ (by rw [hall q]; exact rep_str) (.refl _)
  · rw [if_neg q]
    exact ⟨by simp [PySem.Str.length]; omega, h _ _ rep_str (.tok _ _)⟩

theorem ev_first {e u : Expr} {p q : Pos} {l : List Nat} (x : Ev w n env σ e (.str l)) (y : Ev w n env σ u (.int 1)) (hz : l.length ≤ sizeLine) (ht : ∀ o r, letTemporaryGo e o r = pure () := by intro _ _; rfl) :
    Ev w n env σ (.Subscript e (.Slice none (some u) none q) p) (.str (l.take 1)) := .mk fun N A s P => by
  refine wpAny_Subscript_str_slice (x.use P fun o s₁ r₁ k₁ => wpAny_pure (y.use (P.kp k₁) fun vu s₂ r₂ k₂ => ?_)) ht
  obtain ⟨t, rfl⟩ := inv_str r₁
  obtain ⟨t', rfl⟩ := inv_int r₂
  refine ⟨_, t, none, some (1, t'), rfl, rfl, rfl, slice_post hz (pick_first l) ?_ (by simp; omega) (fun q => ?_) fun u s' ru k => ⟨ru, ((k₁.trans k₂).trans (.push _ _)).trans k⟩⟩
  · exact fun i hi => idx_first hi
  · have : l.length ≤ 1 := by simp at q; omega
    exact List.take_of_length_le this
theorem ev_behind {e u : Expr} {p q : Pos} {l : List Nat} (x : Ev w n env σ e (.str l)) (y : Ev w n env σ u (.int 1)) (hz : l.length ≤ sizeLine) (ht : ∀ o r, letTemporaryGo e o r = pure () := by intro _ _; rfl) :
    Ev w n env σ (.Subscript e (.Slice (some u) none none q) p) (.str (l.drop 1)) := .mk fun N A s P => by
  refine wpAny_Subscript_str_slice (x.use P fun o s₁ r₁ k₁ => (y.use (P.kp k₁) fun vu s₂ r₂ k₂ => wpAny_pure ?_)) ht
  obtain ⟨t, rfl⟩ := inv_str r₁
  obtain ⟨t', rfl⟩ := inv_int r₂
  refine ⟨_, t, some (1, t'), none, rfl, rfl, rfl, slice_post hz (pick_tail l) ?_ (by simp) (fun q => ?_) fun u s' ru k => ⟨ru, ((k₁.trans k₂).trans (.push _ _)).trans k⟩⟩
  · exact fun i hi => idx_tail hi
  · have : l.length = 0 := by simp at q; omega
    rw [List.eq_nil_of_length_eq_zero this]; rfl

/-- a call of what needs no more than its arguments -/
def CallB (w : Wo) (n : Nat) (f : Value) (ds : List D) (d : D) : Prop :=
  ∀ N A s vs, Cx w n N A s → Reps N s.heap ds vs → wpAny (MM w) A (call f vs) (fun r s' => Rep N s'.heap d r ∧ Kp s s') noE s
theorem ev_callb {x : Str} {np p : Pos} {e : Expr} {es : List Expr} {id : String} {ds : List D} {d : D} (f : Ev w n env σ (.Name x np) (.raw (.builtin id))) (a : Evs w n env σ (e :: es) ds) (c : CallB w n (.builtin id) ds d)
    (he : starEach (e :: es) env = (false, eval e env) :: starEach es env := by rfl) (hplain : (backTo p (starEach es env)).any (·.1) = false := by rfl) : Ev w n env σ (.Call (.Name x np) (e :: es) [] p) d := .mk fun N A s P =>
  wpAny_Call_NameR (f.use P fun v s₁ r₁ k₁ => by
    have := inv_raw r₁
    subst this
    exact PyProof.Rows.callWith_builtin1 (a.use (P.kp k₁) fun vs s₂ r₂ k₂ => wp_use (c N A s₂ vs (P.kp (k₁.trans k₂)).toCx r₂) fun u s₃ q => ⟨q.1, (k₁.trans k₂).trans q.2⟩) he hplain)
theorem ev_callf {x : Str} {np p : Pos} {e : Expr} {es : List Expr} {f : Str} {i : Nat} {ds : List D} {d : D} (g : Ev w n env σ (.Name x np) (.raw (.ref (w.ad f)))) (m : (f, i) ∈ fTab) (a : Evs w n env σ (e :: es) ds) (c : CallB w n (.ref (w.ad f)) ds d)
    (he : starEach (e :: es) env = (false, eval e env) :: starEach es env := by rfl) : Ev w n env σ (.Call (.Name x np) (e :: es) [] p) d := .mk fun N A s P =>
  wpAny_Call_NameR (g.use P fun v s₁ r₁ k₁ => by
    have := inv_raw r₁
    subst this
    obtain ⟨o, pm, doc, cc, h1, h2, h3⟩ := (P.kp k₁).lib.fns _ m
    exact PyProof.Rows.callWith_def h2 (a.use (P.kp k₁) fun vs s₂ r₂ k₂ => ⟨k₂.keep _ _ h1, wp_use (c N A s₂ vs (P.kp (k₁.trans k₂)).toCx r₂) fun u s₃ q => ⟨q.1, (k₁.trans k₂).trans q.2⟩⟩) he)

/-- a method of a built-in kind -/
theorem ev_meth {o : Expr} {nm : Str} {ap p : Pos} {e : Expr} {es : List Expr} {T id : String} {a d : D} {ds : List D} (x : Ev w n env σ o a) (y : Evs w n env σ (e :: es) ds)
    (hT : ∀ (N : Addr → Prop) (s : Shared) v, Rep N s.heap a v → s.TypeIs v T ∧ (∀ b, v = .ref b → ∃ ob, s.heap.get? b = some ob ∧ ob.dict = none)) (pa : PlainAttrs T) (slot : Slot T nm id) (hty : typeOf (.builtin id) = pure (.type "method_descriptor"))
    (c : CallB w n (.builtin id) (a :: ds) d)
    (hbase : attributeBase o nm env (eval o env) = eval o env := by rfl)
    (hfew : ((backTo p (starEach (e :: es) env)).all (fun x => !x.1) && (backToKw p (keywordEach [] env)).all (fun x => x.1.isSome)
      && decide ((e :: es).length + ([] : List Keyword).length + (if ([] : List Keyword).isEmpty then 0 else 1) < 30)) = true := by rfl)
    (hline : (ap.endLine == p.line) = true := by rfl)
    (he : starEach (e :: es) env = (false, eval e env) :: starEach es env := by rfl) (hplain : (backTo p (starEach es env)).any (·.1) = false := by rfl) :
    Ev w n env σ (.Call (.Attribute o nm ap) (e :: es) [] p) d := .mk fun N A s P =>
  wpAny_Call_method hbase hfew hline pa slot hty (x.use P fun v s₁ r₁ k₁ => ⟨(hT N s₁ v r₁).1, (hT N s₁ v r₁).2,
    callWith_method1 (y.use (P.kp k₁) fun vs s₂ r₂ k₂ => wp_use (c N A s₂ (v :: vs) (P.kp (k₁.trans k₂)).toCx (.cons (k₂.rep r₁) r₂)) fun u s₃ q => ⟨q.1, (k₁.trans k₂).trans q.2⟩) he hplain⟩)
theorem ev_meth0 {o : Expr} {nm : Str} {ap p : Pos} {T id : String} {a d : D} (x : Ev w n env σ o a)
    (hT : ∀ (N : Addr → Prop) (s : Shared) v, Rep N s.heap a v → s.TypeIs v T ∧ (∀ b, v = .ref b → ∃ ob, s.heap.get? b = some ob ∧ ob.dict = none)) (pa : PlainAttrs T) (slot : Slot T nm id) (hty : typeOf (.builtin id) = pure (.type "method_descriptor"))
    (c : CallB w n (.builtin id) [a] d)
    (hbase : attributeBase o nm env (eval o env) = eval o env := by rfl)
    (hfew : ((backTo p (starEach [] env)).all (fun x => !x.1) && (backToKw p (keywordEach [] env)).all (fun x => x.1.isSome)
      && decide (([] : List Expr).length + ([] : List Keyword).length + (if ([] : List Keyword).isEmpty then 0 else 1) < 30)) = true := by rfl)
    (hline : (ap.endLine == p.line) = true := by rfl) :
    Ev w n env σ (.Call (.Attribute o nm ap) [] [] p) d := .mk fun N A s P =>
  wpAny_Call_method hbase hfew hline pa slot hty (x.use P fun v s₁ r₁ k₁ => ⟨(hT N s₁ v r₁).1, (hT N s₁ v r₁).2,
    callWith_method0 (wp_use (c N A s₁ [v] (P.kp k₁).toCx (.cons r₁ .nil)) fun u s₃ q => ⟨q.1, k₁.trans q.2⟩)⟩)
theorem str_kind {l : List Nat} : ∀ (N : Addr → Prop) (s : Shared) v, Rep N s.heap (.str l) v → s.TypeIs v "str" ∧ (∀ b, v = .ref b → ∃ ob, s.heap.get? b = some ob ∧ ob.dict = none) := fun N s v r => by
  obtain ⟨t, rfl⟩ := inv_str r
  exact ⟨typeIs_str _ _ _, fun b q => by cases q⟩

theorem reps1 {N : Addr → Prop} {h : Heap} {a : D} {vs : List Value} (r : Reps N h [a] vs) : ∃ v, vs = [v] ∧ Rep N h a v := by
  rw [Reps] at r
  obtain ⟨v, q, rfl, r1, r2⟩ := r
  rw [Reps] at r2
  subst r2
  exact ⟨v, rfl, r1⟩
theorem reps2 {N : Addr → Prop} {h : Heap} {a b : D} {vs : List Value} (r : Reps N h [a, b] vs) : ∃ v u, vs = [v, u] ∧ Rep N h a v ∧ Rep N h b u := by
  rw [Reps] at r
  obtain ⟨v, q, rfl, r1, r2⟩ := r
  obtain ⟨u, rfl, r3⟩ := reps1 r2
  exact ⟨v, u, rfl, r1, r3⟩
theorem reps3 {N : Addr → Prop} {h : Heap} {a b c : D} {vs : List Value} (r : Reps N h [a, b, c] vs) : ∃ v u z, vs = [v, u, z] ∧ Rep N h a v ∧ Rep N h b u ∧ Rep N h c z := by
  rw [Reps] at r
  obtain ⟨v, q, rfl, r1, r2⟩ := r
  obtain ⟨u, z, rfl, r3, r4⟩ := reps2 r2
  exact ⟨v, u, z, rfl, r1, r3, r4⟩

theorem cb_len_list {ds : List D} (hz : ds.length ≤ sizeLine) : CallB w n (.builtin "len") [.lst ds] (.int ds.length) := fun N A s vs C r => by
  obtain ⟨v, rfl, q⟩ := reps1 r
  obtain ⟨a, us, rfl, hN, hl, ru⟩ := inv_lst q
  have e := sizeLine_eq
  have hlen : us.toArray.size = ds.length := by simp [ru.length]
  refine PyProof.Rows.len_list hl (by rw [hlen]; omega) ?_
  rw [hlen]
  exact ⟨rep_int, .tok _ _⟩
theorem cb_ord {c : Nat} : CallB w n (.builtin "ord") [.str [c]] (.int c) := fun N A s vs C r => by
  obtain ⟨v, rfl, q⟩ := reps1 r
  obtain ⟨t, rfl⟩ := inv_str q
  exact PySem.P.ord_of_char ⟨rep_int, .tok _ _⟩
theorem cb_chr {c : Nat} (h : c ≤ 1114111) : CallB w n (.builtin "chr") [.int c] (.str [c]) := fun N A s vs C r => by
  obtain ⟨v, rfl, q⟩ := reps1 r
  obtain ⟨t, rfl⟩ := inv_int q
  exact chr_of_range (by omega) (by omega) ⟨rep_strS (by simp), .tok _ _⟩
end
end Mine
end

section
open PySem PySem.W PyProof.Rows PySem.Calls
namespace Mine

def retOf : Flow → Value
  | .ret v => v
  | _ => .none
section
variable {w : Wo} {n : Nat} {N : Addr → Prop} {A : Around} {s : Shared}
theorem Ok.deeper {env : Env} (x : Ok (n + 1) A) : Ok n (A.deeper env) := ⟨x.1, by have := x.2.1; show A.depth + 1 + n < _; omega, by have := x.2.2; show A.units + 3 + 8 * n + 80 < _; omega⟩
theorem lookup_app {β : Type} {x : Str} : ∀ {l l' : List (Str × β)}, l.lookup x = none → (l ++ l').lookup x = l'.lookup x
  | [], _, _ => rfl
  | (y, b) :: l, l', h => by
    rw [List.cons_append, List.lookup_cons] at *
    cases q : x == y with
    | true => rw [q] at h; cases h
    | false => rw [q] at h; exact lookup_app h
theorem lookup_none {β : Type} {x : Str} : ∀ {l : List (Str × β)}, x ∉ l.map (·.1) → l.lookup x = none
  | [], _ => rfl
  | (y, b) :: l, h => by
    rw [List.map_cons, List.mem_cons, not_or] at h
    rw [List.lookup_cons, show (x == y) = false by simpa using h.1]
    exact lookup_none h.2
theorem lookup_rev {β : Type} {x : Str} : ∀ {l : List (Str × β)}, (l.map (·.1)).Nodup → l.reverse.lookup x = l.lookup x
  | [], _ => rfl
  | (y, b) :: l, h => by
    rw [List.map_cons, List.nodup_cons] at h
    rw [List.reverse_cons, List.lookup_cons]
    by_cases q : x = y
    · subst q
      rw [lookup_app (lookup_none (by rw [List.map_reverse, List.mem_reverse]; exact h.1))]
      simp
    · have q' : (x == y) = false := by simpa using q
      rw [q']
      cases e : l.reverse.lookup x with
      | none =>
        rw [lookup_app e]
        have : l.lookup x = none := by rw [← lookup_rev h.2]; exact e
        rw [this]; simp [List.lookup_cons, q']
      | some v =>
        have e2 : l.lookup x = some v := by rw [← lookup_rev h.2]; exact e
        rw [e2]
        have aux : ∀ {a c : List (Str × β)} {v : β}, a.lookup x = some v → (a ++ c).lookup x = some v := fun {a c v} => by
          induction a with
          | nil => intro h; cases h
          | cons p a ih =>
            intro h
            rw [List.cons_append]
            rw [List.lookup_cons] at *
            cases z : x == p.1 with
            | true => rw [z] at h; exact h
            | false => rw [z] at h; exact ih h
        exact aux e
theorem binds_hold {h : Heap} {x : Str} {d : D} : ∀ {ps : List Str} {ds : List D} {vs : List Value}, Reps N h ds vs → (ps.zip ds).lookup x = some d → ∃ v, (ps.zip vs).lookup x = some v ∧ Rep N h d v
  | [], _, _, _, e => by simp at e
  | p :: ps, [], _, _, e => by simp at e
  | p :: ps, d' :: ds, vs, r, e => by
    rw [Reps] at r
    obtain ⟨v, q, rfl, r1, r2⟩ := r
    rw [List.zip_cons_cons, List.lookup_cons] at e ⊢
    cases z : x == p with
    | true => rw [z] at e; cases e; exact ⟨v, rfl, r1⟩
    | false => rw [z] at e; exact binds_hold r2 e
theorem zip_names {β : Type} : ∀ {ps : List Str} {vs : List β}, (∀ x ∈ (ps.zip vs).map (·.1), x ∈ ps) ∧ (ps.Nodup → ((ps.zip vs).map (·.1)).Nodup)
  | [], _ => by simp
  | p :: ps, [] => by simp
  | p :: ps, v :: vs => by
    have ih := zip_names (ps := ps) (vs := vs)
    refine ⟨fun x hx => ?_, fun h => ?_⟩
    · rw [List.zip_cons_cons, List.map_cons, List.mem_cons] at hx
      rcases hx with rfl | hx
      · exact List.mem_cons_self ..
      · exact List.mem_cons_of_mem _ (ih.1 x hx)
    · rw [List.nodup_cons] at h
      rw [List.zip_cons_cons, List.map_cons, List.nodup_cons]
      exact ⟨fun hx => h.1 (ih.1 _ hx), ih.2 h.2⟩

/-- a def of plain locals is called -/
theorem call_plain_def {f : Str} {i : Nat} {vs : List Value} {ds : List D} {d : D} (ps : List Str) (m : (f, i) ∈ fTab) (C : Cx w (n + 1) N A s) (r : Reps N s.heap ds vs)
    (hbind : ∀ pm cd doc, bindArgs (docDef (dN (stm i)) (dP (stm i)) (dB (stm i)) (dS (stm i)) pm cd doc) ⟨vs, []⟩ = pure (ps.zip vs))
    (body : ∀ A' L cd s₁, Fs s.heap (envOf (dN (stm i)) (dS (stm i)) L (w.ad f) cd) s s₁ → At w n N (envOf (dN (stm i)) (dS (stm i)) L (w.ad f) cd) (ps.zip ds) A' s₁ →
      wpAny (MM w) A' (execs (dB (stm i)) (envOf (dN (stm i)) (dS (stm i)) L (w.ad f) cd)) (fun fl s' => Rep N s'.heap d (retOf fl) ∧ Fs s.heap (envOf (dN (stm i)) (dS (stm i)) L (w.ad f) cd) s s') noE s₁)
    (hloc : ∀ x ∈ ps, (dS (stm i)).names.lookup x = some .local := by decide +kernel) (hnd : ps.Nodup := by decide +kernel)
    (hcell : ∀ x ∈ (dS (stm i)).names, x.2 ≠ .cell := by decide +kernel) (hk : (dS (stm i)).kind = .function := by decide +kernel) (hco : (dS (stm i)).isCoroutine = false := by decide +kernel) (hgen : (dS (stm i)).isGenerator = false := by decide +kernel) :
    wpAny (MM w) A (call (.ref (w.ad f)) vs) (fun r s' => Rep N s'.heap d r ∧ Kp s s') noE s := by
  obtain ⟨o, pm, doc, c, h1, h2, h3⟩ := C.lib.fns _ m
  refine wpAny_call (call_plain_ret (by have := C.ok.2.1; omega) h1 h2 C.lib.nolimit h3 (hbind _ _ _) (fun x hx => hloc _ (zip_names.1 _ (List.mem_map_of_mem hx))) (fun h₁ F => ?_) hco hgen hk hcell)
  have hL : s.heap.get? s.heap.objs.size = none := Heap.get?_none_of_le (Nat.le_refl _)
  refine wpAny_mono (body _ s.heap.objs.size _ _ ⟨⟨_, _, rfl⟩, F.keep, ⟨_, F.ns⟩, hL, fun x c l => by cases l⟩ ⟨⟨C.ok.deeper, C.lib.keeps F.keep, fun b hb => keep_some F.keep b (C.old b hb)⟩, fun x d e => ?_⟩) (fun fl s' q => ?_) fun _ _ f => f
  · obtain ⟨v, e1, r⟩ := binds_hold r e
    refine ⟨v, .loc _ (hloc x ?_) F.ns ?_, r.grow (.of F.keep)⟩
    · exact zip_names.1 _ (List.mem_map_of_mem (f := (·.1)) (mem_lookup e1))
    · show (ps.zip vs).reverse.lookup x = some v
      rw [lookup_rev (zip_names.2 hnd)]; exact e1
  · obtain ⟨h, t, e⟩ := q.2.same
    have hkk := q.2.keep
    have hr := q.1
    subst e
    cases fl <;> exact ⟨hr, ⟨h, t, rfl, hkk⟩⟩

theorem table_c11 (c : List Nat) : CallB w (n + 1) (.ref (w.ad "in_table_c11")) [.str c] (.bool (c == [32])) := fun N A s vs C r => by
  obtain ⟨v, rfl, rv⟩ := reps1 r
  refine call_plain_def (i := 11) (n := n) ["code"] (by decide) C r (fun _ _ _ => by rfl) fun A' l cd s₁ F P => ?_
  refine x_return (ev_cmp (ev_name rfl rfl) (ev_str rfl) cm_eq_str) P ?_
  exact fun v s' rr k => ⟨rr, F.kp k⟩
end
end Mine
end

section
open PySem PySem.W PyProof.Rows PySem.Calls
namespace Mine

theorem lt_of_some {h : Heap} {b : Addr} (q : (h.get? b).isSome = true) : b < h.objs.size := by
  obtain ⟨o, ho⟩ := Option.isSome_iff_exists.mp q
  exact Heap.lt_size ho
/-- an iterator that walks the items; `s` is where it was asked for -/
structure Walk (w : Wo) (A : Around) (fresh : Bool) (N : Addr → Prop) (s s₂ : Shared) (items : List D) (I : Addr) (fp wr : List Addr) (P : Nat → Value → Prop) (St : Nat → Heap → Prop) : Prop where
  walks : Walks pw w.w A I fp wr items.length P St
  size : items.length ≤ sizeLine
  start : St 0 s₂.heap
  has : ∀ i h, St i h → ∀ b ∈ fp, (h.get? b).isSome = true
  new : ∀ b ∈ wr, s.heap.get? b = none
  item : ∀ (N' : Addr → Prop) i v h, (∀ b, N' b → N b ∨ s₂.heap.get? b = none) → i < items.length → P i v → Grow N' s₂.heap h → ∃ d, items[i]? = some d ∧ Rep N' h d v
  kp : Kp s s₂
  old : ∀ b ∈ fp, s.heap.get? b = none ∨ (fresh = false ∧ ¬ N b ∧ ∃ o xs k, s.heap.get? b = some o ∧ o.data = .seq xs k)
  noSeq : ∀ i h, St i h → ∀ b ∈ wr, ∀ o xs k, h.get? b = some o → o.data = .seq xs k → False
  tup : ∀ i j h, St j h → ∀ elts k p v (Q : Unit → Shared → Prop) (E : Value → Shared → Prop) s', s'.heap = h → Q () s' → P i v → wpAny (MM w) A (letOwnedTupleGo (.Tuple elts k p) (.ref I) v) Q E s'

structure EvIt (w : Wo) (n : Nat) (env : Env) (σ : Sto) (fresh : Bool) (e : Expr) (items : List D) : Prop where
  go : ∀ N A s, At w n N env σ A s → wpAny (MM w) A (eval e env) (fun x s₁ => wpAny (MM w) A (pyIter x) (fun it s₂ => ∃ I fp wr P St, it = .ref I ∧ Walk w A fresh N s s₂ items I fp wr P St) noE s₁) noE s

section
variable {w : Wo} {n : Nat} {N : Addr → Prop} {base : Heap} {env : Env} {s₀ s s' : Shared} {σ : Sto} {A : Around} {E : Value → Shared → Prop} {x : Str} {d : D} {v : Value}

theorem it_list {e : Expr} {ds : List D} (x : Ev w n env σ e (.lst ds)) (hz : ds.length ≤ sizeLine) : EvIt w n env σ false e ds := .mk fun N A s P =>
  x.use P fun v s₁ r k => by
    obtain ⟨a, vs, rfl, hN, hl, ru⟩ := inv_lst r
    refine wpAny_pyIter_list hl ?_
    have hax : a < s₁.heap.objs.size := by obtain ⟨o, ho, _⟩ := hl; exact Heap.lt_size ho
    have hsz : vs.toArray.size = ds.length := by simp [ru.length]
    have hnew : s.heap.get? s₁.heap.objs.size = none := by
      cases e : s.heap.get? s₁.heap.objs.size with
      | none => rfl
      | some o => exact absurd (Heap.lt_size (k.keep _ _ e)) (Nat.lt_irrefl _)
    have W := Walks.list (prog := pw) (w := w.w) (A := A) P.ok.1 s₁.heap.objs.size a (Nat.ne_of_lt hax) vs.toArray
    rw [hsz] at W
    refine ⟨_, _, _, _, _, rfl, W, hz, ⟨⟨_, Heap.get?_push_size _ rfl, rfl, rfl⟩, hl.push _⟩, fun i h st b hb => ?_, fun b hb => ?_, fun N' i v h hN' hi hP g => ?_, k.trans (.push _ _), fun b hb => ?_, fun i h st b hb o xs kk e dd => ?_, fun i j h st elts kk p v Q E s' eh hQ hv => ?_⟩
    · simp at hb
      rcases hb with rfl | rfl
      · obtain ⟨o, ho, _⟩ := st.1
        rw [ho]; rfl
      · obtain ⟨o, ho, _⟩ := st.2
        rw [ho]; rfl
    · simp at hb; subst hb; exact hnew
    · have hv : vs[i]? = some v := by simpa using hP
      obtain ⟨v', h1, h2⟩ := ru.get i ds[i] (by simp [hi])
      rw [hv] at h1; cases h1
      exact ⟨_, by simp [hi], ((h2.grow (Grow.push _)).more hN').grow g⟩
    · simp at hb
      rcases hb with rfl | rfl
      · exact .inl hnew
      · cases e : s.heap.get? b with
        | none => exact .inl rfl
        | some o =>
          refine .inr ⟨rfl, hN, o, ?_⟩
          obtain ⟨o', ho', hc', kk, hd'⟩ := hl
          have := k.keep _ _ e
          rw [ho'] at this; cases this
          exact ⟨_, _, rfl, hd'⟩
    · simp at hb; subst hb
      obtain ⟨⟨o', ho', _, hd'⟩, _⟩ := st
      rw [ho'] at e; cases e; rw [hd'] at dd; cases dd
    · subst eh
      cases v with
      | ref T => exact wpAny_letOwnedTupleGo_listiter st.1 hQ
      | _ => exact wpAny_pure hQ
theorem it_str {e : Expr} {l : List Nat} (x : Ev w n env σ e (.str l)) (hz : l.length ≤ sizeLine) : EvIt w n env σ true e (l.map fun c => .str [c]) := .mk fun N A s P =>
  x.use P fun v s₁ r k => by
    obtain ⟨t, rfl⟩ := inv_str r
    have hnew : s.heap.get? s₁.heap.objs.size = none := by
      cases e : s.heap.get? s₁.heap.objs.size with
      | none => rfl
      | some o => exact absurd (Heap.lt_size (k.keep _ _ e)) (Nat.lt_irrefl _)
    have hsz : (⟨l.toArray⟩ : Str).cps.size = (l.map fun c => D.str [c]).length := by simp
    have item : ∀ (N' : Addr → Prop) i v h, SignAt ⟨l.toArray⟩ i v → ∃ d, (l.map fun c => D.str [c])[i]? = some d ∧ Rep N' h d v := fun N' i v h hP => by
      obtain ⟨c, u, h1, rfl⟩ := hP
      have h1 : l[i]? = some c := by simpa using h1
      exact ⟨.str [c], by simp [h1], rep_strS (by simp)⟩
    have rest : ∀ (ty : String) (o : Obj), o.cls = .type ty → o.data = .fields #[.str ⟨l.toArray⟩ t, .int 0 0] →
        Walks pw w.w A s₁.heap.objs.size [s₁.heap.objs.size] [s₁.heap.objs.size] (l.map fun c => D.str [c]).length (SignAt ⟨l.toArray⟩) (fun i h => h.IsStrIter s₁.heap.objs.size ty ⟨l.toArray⟩ t i) →
        (Heap.IsStrIter (s₁.heap.push o) s₁.heap.objs.size ty ⟨l.toArray⟩ t 0) →
        ∃ I fp wr P St, Value.ref s₁.heap.objs.size = .ref I ∧ Walk w A true N s { s₁ with heap := s₁.heap.push o } (l.map fun c => .str [c]) I fp wr P St := fun ty o hc hd W h0 => by
      refine ⟨_, _, _, _, _, rfl, W, by simpa using hz, h0, fun i h st b hb => ?_, fun b hb => ?_, fun N' i v h hN' hi hP g => item N' i v h hP, k.trans (.push _ _), fun b hb => ?_, fun i h st b hb o xs kk e dd => ?_, fun i j h st elts kk p v Q E s' eh hQ hv => ?_⟩
      · simp at hb; subst hb
        obtain ⟨o, ho, _⟩ := st
        rw [ho]; rfl
      · simp at hb; subst hb; exact hnew
      · simp at hb; subst hb; exact .inl hnew
      · simp at hb; subst hb
        obtain ⟨o', ho', _, hd'⟩ := st
        rw [ho'] at e; cases e; rw [hd'] at dd; cases dd
      · obtain ⟨c, u, _, rfl⟩ := hv
        exact wpAny_pure hQ
    cases ha : (⟨l.toArray⟩ : Str).cps.all (· < 128)
    · refine wpAny_pyIter_wide ha ?_
      have W := Walks.strWide (prog := pw) (w := w.w) (A := A) P.ok.1 s₁.heap.objs.size ⟨l.toArray⟩ t
      rw [hsz] at W
      exact rest _ _ rfl rfl W ⟨_, Heap.get?_push_size _ rfl, rfl, rfl⟩
    · refine wpAny_pyIter_ascii ha ?_
      have W := Walks.strAscii (prog := pw) (w := w.w) (A := A) P.ok.1 s₁.heap.objs.size ⟨l.toArray⟩ t
      rw [hsz] at W
      exact rest _ _ rfl rfl W ⟨_, Heap.get?_push_size _ rfl, rfl, rfl⟩

def upN (k : Nat) : List D := (List.range k).map fun i => D.int ((i : Nat) : Int)
theorem upN_len (k : Nat) : (upN k).length = k := by simp [upN]
theorem it_range {f : Str} {np p : Pos} {e : Expr} {k : Nat} (g : Ev w n env σ (.Name f np) (.raw (.type "range"))) (x : Ev w n env σ e (.int k)) (hz : k ≤ sizeLine)
    (he : starEach [e] env = (false, eval e env) :: starEach [] env := by rfl) : EvIt w n env σ true (.Call (.Name f np) [e] [] p) (upN k) := .mk fun N A s P =>
  wpAny_Call_NameR (g.use P fun v s₁ r₁ k₁ => by
    have := inv_raw r₁
    subst this
    have hh := sizeLine_eq
    refine PyProof.Rows.callWith_type1 (T := "range") (e := e) (rest := []) ?_ he
    refine args_cons (x.use (P.kp k₁) fun v s₂ r₂ k₂ => args_nil ?_) he
    obtain ⟨t, rfl⟩ := inv_int r₂
    refine call_range_1 ?_
    refine wpAny_pyIter_range (IsRange.new _ _ _ _ _ _ _) (by
      have hrs : Builtin.Range.rangeSize 0 (k : Int) 1 = k := by rw [rangeSize_one]; split <;> omega
      unfold Builtin.Range.small Builtin.Range.rangeFitsLong; rw [hrs]; simp; omega) ?_
    have K := (k₁.trans k₂)
    have hrs : Builtin.Range.rangeSize 0 (k : Int) 1 = k := by rw [rangeSize_one]; split <;> omega
    rw [hrs]
    obtain ⟨s₃, e3⟩ : ∃ s₃ : Shared, s₃ = { s₂ with heap := s₂.heap.push { cls := .type "range", data := .fields #[.int 0 s₂.toks, .int (k : Int) t, .int 1 (s₂.toks + 1)] }, toks := s₂.toks + 1 + 1 } := ⟨_, rfl⟩
    rw [← e3]
    have K3 : Kp s s₃ := by subst e3; exact K.trans ⟨_, _, rfl, fun _ _ e => Heap.get?_push_of_some _ e⟩
    clear e3 k₂ r₂ k₁ K
    have hnew : s.heap.get? s₃.heap.objs.size = none := by
      cases e : s.heap.get? s₃.heap.objs.size with
      | none => rfl
      | some o => exact absurd (Heap.lt_size (K3.keep _ _ e)) (Nat.lt_irrefl _)
    have W := Walks.range (prog := pw) (w := w.w) (A := A) P.ok.1 s₃.heap.objs.size 0 1 k
    rw [← upN_len k] at W
    refine ⟨_, _, _, _, _, rfl, W, by rw [upN_len]; exact hz, ?_, fun i h st b hb => ?_, fun b hb => ?_, fun N' i v h hN' hi hP g => ?_, K3.trans (.push _ _), fun b hb => ?_, fun i h st b hb o xs kk e dd => ?_, fun i j h st elts kk p v Q E s' eh hQ hv => ?_⟩
    · show Heap.get? _ _ = _
      rw [Heap.get?_push_size _ rfl]
      simp [rawInt, upN_len]
    · simp at hb; subst hb
      have st : Heap.get? _ _ = _ := st
      rw [st]; rfl
    · simp at hb; subst hb; exact hnew
    · obtain ⟨u, rfl⟩ := hP
      rw [upN_len] at hi
      refine ⟨.int (i : Nat), by simp [upN, hi], ?_⟩
      simp only [Int.zero_add, Int.mul_one]
      exact rep_int
    · simp at hb; subst hb; exact .inl hnew
    · simp at hb; subst hb
      have st : Heap.get? _ _ = _ := st
      rw [st] at e; cases e; cases dd
    · obtain ⟨u, rfl⟩ := hv
      exact wpAny_pure hQ)
end
end Mine
end

section
open PySem PySem.W PyProof.Rows PySem.Calls
namespace Mine

/-- what a target binds -/
inductive Tgt : Expr → D → Sto → Prop
  | name {x : Str} {p : Pos} {d : D} : Tgt (.Name x p) d [(x, d)]
  | pair {x y : Str} {p q r : Pos} {k : Nat} {a b : D} : Tgt (.Tuple [.Name x p, .Name y q] k r) (.tup [a, b]) [(y, b), (x, a)]

section
variable {w : Wo} {n : Nat} {N : Addr → Prop} {base : Heap} {env : Env} {s₀ s s' : Shared} {σ τ : Sto} {A : Around} {E : Value → Shared → Prop} {x : Str} {d : D} {v : Value}

theorem Put.kp (p : Put base env s.heap x) (k : Kp s s') : Put base env s'.heap x := by
  cases p with
  | loc k => exact .loc k
  | cell c u k' l f i inj => obtain ⟨o, ho, hd⟩ := i; exact .cell c u k' l f ⟨o, k.keep _ _ ho, hd⟩ inj

/-- a name of the frame's own table is put -/
theorem store_loc {m : Str → Option Value} (hm : s.heap.Ns env.locals m) (H : Holds N env s.heap σ) (hk : env.scope.kind = .function) (k : env.kindOf x = some .local) (r : Rep N s.heap d v) {Q : Unit → Shared → Prop}
    (h : ∀ h' m' t, h'.Ns env.locals m' → Heap.SameBut env.locals s.heap h' → Holds N env h' ((x, d) :: σ) → Q () { s with heap := h', toks := t }) : wpAny (MM w) A (storeName env x v) Q E s := by
  refine wpAny_storeName_local k hm (fun h' hn hs => ?_) (by rw [hk]; rfl)
  have g : ∀ N, Grow N s.heap h' := fun N => grow_sameBut hs fun o xs k e dd => ns_noSeq hm e dd
  refine h h' _ _ hn hs fun y e hy => ?_
  rw [List.lookup_cons] at hy
  by_cases q : y = x
  · subst q
    simp only [beq_self_eq_true] at hy
    cases hy
    exact ⟨v, .loc _ k hn (by simp), r.grow (g _)⟩
  · have q' : (y == x) = false := by simpa using q
    rw [q'] at hy
    obtain ⟨u, b, ru⟩ := H y e hy
    refine ⟨u, ?_, ru.grow (g _)⟩
    cases b with
    | loc m' k' n' e' =>
      have := ns_fn n' hm
      subst this
      exact .loc _ k' hn (by simp [q, e'])
    | cell c k' l' e' =>
      obtain ⟨o, ho, hd⟩ := e'
      exact .cell c k' l' ⟨o, hs.extBut c o (by rintro rfl; exact ns_noCell hm ⟨o, ho, hd⟩) ho, hd⟩

/-- targets of the frame's own table -/
theorem tgt_loc {tgt : Expr} {m : Str → Option Value} (hh : A.handled = none) (T : Tgt tgt d τ) (hm : s.heap.Ns env.locals m) (H : Holds N env s.heap σ) (hk : env.scope.kind = .function) (pt : ∀ y ∈ τ.map (·.1), env.kindOf y = some .local) (r : Rep N s.heap d v) {Q : Unit → Shared → Prop}
    (h : ∀ h' m' t, h'.Ns env.locals m' → (∀ b o, b ≠ env.locals → s.heap.get? b = some o → h'.get? b = some o) → (∀ N, Grow N s.heap h') → Holds N env h' (τ ++ σ) → Q () { s with heap := h', toks := t }) : wpAny (MM w) A (assign tgt env v) Q E s := by
  cases T with
  | name => exact wpAny_assign_Name (store_loc hm H hk (pt _ (by simp)) r fun h' m' t hn hs hh => h h' m' t hn (fun b o e => hs.extBut b o e) (fun N => grow_sameBut hs fun o xs k e dd => ns_noSeq hm e dd) hh)
  | @pair x y p q r' k a b =>
    obtain ⟨t, vs, rfl, hN, ht, rr⟩ := inv_tup r
    obtain ⟨u, z, rfl, ra, rb⟩ := reps2 rr
    refine wpAny_assign_Tuple hh ht (by rfl) (by rfl) fun h' he => ?_
    have K : Kp s { s with heap := h' } := ⟨h', s.toks, rfl, fun b o e => he b o (Nat.ne_of_lt (Heap.lt_size e)) e⟩
    show wpAny (MM w) A (assignInOrder [assign (.Name x p) env, assign (.Name y q) env] [u, z]) Q E _
    refine wpAny_assignInOrder_more (wpAny_assign_Name (store_loc (hm.keeps K.keep) (H.keeps K.keep) hk (pt x (by simp)) (K.rep ra) fun h₁ m₁ t₁ hn₁ hs₁ H₁ => ?_))
    have g₁ : ∀ N, Grow N h' h₁ := fun N => grow_sameBut hs₁ fun o xs k e dd => ns_noSeq (hm.keeps K.keep) e dd
    refine wpAny_assignInOrder_more (wpAny_assign_Name (store_loc hn₁ H₁ hk (pt y (by simp)) ((K.rep rb).grow (g₁ _)) fun h₂ m₂ t₂ hn₂ hs₂ H₂ => ?_))
    have g₂ : ∀ N, Grow N h₁ h₂ := fun N => grow_sameBut hs₂ fun o xs k e dd => ns_noSeq hn₁ e dd
    exact wpAny_pure (h h₂ m₂ t₂ hn₂ (fun b o hb e => hs₂.extBut b o hb (hs₁.extBut b o hb (K.keep b o e))) (fun N => ((Grow.of K.keep).trans (g₁ N)).trans (g₂ N)) H₂)
end

/-- the names that a comprehension takes from the frame around -/
structure Caps (env : Env) (scope : Scope) (cl : List (Str × Addr)) (σ σc : Sto) : Prop where
  clos : closureFor scope env = pure cl
  caps : ∀ x d, σc.lookup x = some d → σ.lookup x = some d ∧ (env.kindOf x ≠ some .local) ∧ cl.lookup x = env.cells.lookup x ∧ ((relabel scope env).names.lookup x = some .cell ∨ (relabel scope env).names.lookup x = some .free)
  hcell : ∀ y ∈ scope.names, y.2 ≠ .cell
  hkind : scope.kind = .function
  hnames : ∀ y ∈ scope.names, y.2 = .local → scope.names.lookup y.1 = some .local

section
variable {w : Wo} {n : Nat} {N : Addr → Prop} {base : Heap} {env : Env} {s₀ s s₂ s' : Shared} {σ τ σc : Sto} {A : Around} {E : Value → Shared → Prop} {x : Str} {d : D} {v : Value}
  {elt tgt iter : Expr} {scope : Scope} {cl : List (Str × Addr)} {pos : Pos}

theorem comp_loop {it acc : Value} {cenv : Env} {R : Result → Shared → Prop} (I : Nat → Shared → Prop) {d : D} {τ : Sto} (T : Tgt tgt d τ)
    (turn : ∀ n s, I n s → wpAny (MM w) A (pyNext it) (fun r s₁ => match r with
      | none => R (.ok .next) s₁
      | some v => (∀ (elts : List Expr) k p (Q : Unit → Shared → Prop), Q () s₁ → wpAny (MM w) A (letOwnedTupleGo (.Tuple elts k p) it v) Q (notedBy (MM w) A cenv fun e s' => R (.error e) s') s₁) ∧
          wpAny (MM w) A (assign tgt cenv v) (fun _ s₂ => wpAny (MM w) A (eval elt cenv) (fun x s₃ =>
          wpAny (MM w) A (call (.builtin "list.append") [acc, x]) (fun _ s₄ => ∃ m, m < n ∧ I m s₄) (notedBy (MM w) A cenv fun e s' => R (.error e) s') s₃)
          (notedBy (MM w) A cenv fun e s' => R (.error e) s') s₂) (notedBy (MM w) A cenv fun e s' => R (.error e) s') s₁) (notedBy (MM w) A cenv fun e s' => R (.error e) s') s)
    (n : Nat) (h : I n s) : codeAny (MM w) A (.compLoop (.ListComp elt [⟨tgt, iter, [], 0⟩] scope pos) 0 it acc cenv) R s := by
  cases T with
  | name =>
    refine codeAny_compLoop_list I (fun n s hI => wpAny_mono (turn n s hI) (fun r s₁ h => ?_) fun _ _ e => e) n h
    cases r with
    | none => exact h
    | some v => exact h.2
  | pair =>
    refine LCp.codeAny_compLoop_pair I (fun n s hI => wpAny_mono (turn n s hI) (fun r s₁ h => ?_) fun _ _ e => e) n h
    cases r with
    | none => exact h
    | some v => exact h.1 _ _ _ _ h.2

/-- the comprehension's own list is one more place to avoid -/
def And1 (N : Addr → Prop) (D : Addr) (b : Addr) : Prop := N b ∨ b = D

theorem comp_block {fresh : Bool} {items out : List D} {I : Addr} {fp wr : List Addr} {P : Nat → Value → Prop} {St : Nat → Heap → Prop} {RR : Value → Addr → Result → Shared → Prop}
    (X : At w n N env σ A s) (W : Walk w A fresh N s s₂ items I fp wr P St) (cp : Caps env scope cl σ σc) (hlen : out.length = items.length)
    (helt : ∀ (i : Nat) (d e : D), items[i]? = some d → out[i]? = some e → ∃ τ, Tgt tgt d τ ∧ (∀ y ∈ τ.map (·.1), scope.names.lookup y = some .local) ∧ ∀ C, Ev w n (compEnvC scope cl C env) (τ ++ σc) elt e)
    (hT : ∃ d τ, Tgt tgt d τ)
    (hRR : ∀ D C h' tk m' ys, s₂.heap.get? D = none → s₂.heap.get? C = none → D ≠ C → h'.Ns C m' → h'.PlainList D ys → Reps (And1 N D) h' out ys.toList → (∀ b o, b ∉ wr → s₂.heap.get? b = some o → h'.get? b = some o) → RR (.ref D) C (.ok .next) { s₂ with heap := h', toks := tk }) :
    wpAny (MM w) A (newList []) (fun acc s₃ => wpAny (MM w) A (newFunctionEnv scope env.globals cl [] env.qual none .none (some env)) (fun cenv s₄ =>
      codeAny (MM w) A (.compStart (.ListComp elt [⟨tgt, iter, [], 0⟩] scope pos) 0 (.ref I) acc { cenv with scope := relabel scope env }) (RR acc cenv.locals) s₄) E s₃) E s₂ := by
  have X₂ : At w n N env σ A s₂ := X.kp W.kp
  refine wpAny_newObj_type (wpAny_newFunctionEnv cp.hcell (by intro y hy; simp at hy) (fun h₁ hns₁ hsb₁ => ?_) cp.hkind)
  dsimp only at hns₁ hsb₁ ⊢
  generalize hH2 : s₂.heap.push { cls := .type "list", dict := none, data := .seq ([] : List Value).toArray } = H2 at hns₁ hsb₁ ⊢
  have hC : H2.objs.size = s₂.heap.objs.size + 1 := by rw [← hH2, Heap.size_push]
  have hDC : s₂.heap.objs.size ≠ H2.objs.size := by rw [hC]; exact Nat.ne_of_lt (Nat.lt_succ_self _)
  have below : ∀ b, b < s₂.heap.objs.size → b ≠ H2.objs.size ∧ b ≠ s₂.heap.objs.size := fun b hb => ⟨by rw [hC]; exact Nat.ne_of_lt (Nat.lt_succ_of_lt hb), Nat.ne_of_lt hb⟩
  have hDf : s₂.heap.objs.size ∉ fp := fun hm => Nat.lt_irrefl _ (lt_of_some (W.has _ _ W.start _ hm))
  have hCf : H2.objs.size ∉ fp := fun hm => by have := lt_of_some (W.has _ _ W.start _ hm); rw [hC] at this; exact Nat.lt_irrefl _ (Nat.lt_of_succ_lt this)
  have hDw : s₂.heap.objs.size ∉ wr := fun hm => hDf (W.walks.sub _ hm)
  have hCw : H2.objs.size ∉ wr := fun hm => hCf (W.walks.sub _ hm)
  have old : ∀ b o, s₂.heap.get? b = some o → h₁.get? b = some o := fun b o e => hsb₁.extBut b o (below b (Heap.lt_size e)).1 (Heap.get?_push_of_some _ (hH2 ▸ Heap.get?_push_of_some _ e))
  have hacc : h₁.PlainList s₂.heap.objs.size #[] := ⟨_, hsb₁.extBut _ _ hDC (Heap.get?_push_of_some _ (hH2 ▸ Heap.get?_push_size _ rfl))⟩
  have hst₁ : St 0 h₁ := W.walks.frame _ _ _ W.start fun b _ o e => old b o e
  have fresh : ∀ a, s₂.heap.objs.size ≤ a → s₂.heap.get? a = none := fun a ha => by
    cases e : s₂.heap.get? a with
    | none => rfl
    | some o' => exact absurd (Heap.lt_size e) (Nat.not_lt.mpr ha)
  have hDn : s₂.heap.get? s₂.heap.objs.size = none := fresh _ (Nat.le_refl _)
  have hCn : s₂.heap.get? H2.objs.size = none := fresh _ (by rw [hC]; exact Nat.le_succ _)
  obtain ⟨d0, τ0, T0⟩ := hT
  have loop : ∀ s₃ : Shared, s₃ = { s₂ with heap := h₁, toks := s₂.toks + ([] : List (Str × Value)).length } →
      codeAny (MM w) A (.compLoop (.ListComp elt [⟨tgt, iter, [], 0⟩] scope pos) 0 (.ref I) (.ref s₂.heap.objs.size) (compEnvC scope cl H2.objs.size env)) (RR (.ref s₂.heap.objs.size) H2.objs.size) s₃ := by
    rintro s₃ rfl
    refine comp_loop (fun k s' => ∃ h' tk i ys m', s' = { s₂ with heap := h', toks := tk } ∧ i ≤ items.length ∧ k = items.length + 1 - i ∧ St i h' ∧ h'.Ns H2.objs.size m' ∧ h'.PlainList s₂.heap.objs.size ys ∧
        Reps (And1 N s₂.heap.objs.size) h' (out.take i) ys.toList ∧ (∀ b o, b ∉ wr → s₂.heap.get? b = some o → h'.get? b = some o)) T0 ?_ (items.length + 1)
      ⟨h₁, _, 0, #[], _, rfl, Nat.zero_le _, rfl, hst₁, hns₁, hacc, by rw [List.take_zero]; exact .nil, fun b o _ e => old b o e⟩
    rintro k s' ⟨h', tk, i, ys, m', rfl, hi, rfl, hst', hn', hpl, hys, hk'⟩
    by_cases hlt : i < items.length
    · refine W.walks.item i _ _ _ hlt hst' fun v h₂ tk₂ hPv hst₂ hk₂ => ?_
      have keep₂ : ∀ b o, b ∉ wr → s₂.heap.get? b = some o → h₂.get? b = some o := fun b o hb e => hk₂ b o hb (hk' b o hb e)
      have gw : ∀ {ha hb : Heap} {j : Nat}, St j ha → (∀ b o, b ∉ wr → ha.get? b = some o → hb.get? b = some o) → ∀ N, Grow N ha hb := fun {ha hb j} st kk N b o xs kq _ e dd => by
        by_cases q : b ∈ wr
        · exact (W.noSeq _ _ st b q o xs kq e dd).elim
        · exact kk b o q e
      have G₂ : ∀ N, Grow N s₂.heap h₂ := gw W.start keep₂
      obtain ⟨d, hd, rd⟩ := W.item (And1 N s₂.heap.objs.size) i v h₂ (fun b hb => hb.imp id fun e => by rw [e]; exact hDn) hlt hPv (G₂ _)
      have hi' : i < out.length := by omega
      obtain ⟨τ, T, hτ, hev⟩ := helt i d out[i] hd (by simp [hi'])
      have hn₂ : h₂.Ns H2.objs.size m' := hn'.at' fun o e => hk₂ _ o hCw e
      have hpl₂ : h₂.PlainList s₂.heap.objs.size ys := hpl.at fun o e => hk₂ _ o hDw e
      have H₂ : Holds (And1 N s₂.heap.objs.size) (compEnvC scope cl H2.objs.size env) h₂ σc := fun y dy ey => by
        obtain ⟨e1, e2, e3, e4⟩ := cp.caps y dy ey
        obtain ⟨u, b, ru⟩ := X₂.holds y dy e1
        refine ⟨u, ?_, (ru.more fun b hb => hb.imp id fun e => by rw [e]; exact hDn).grow (G₂ _)⟩
        cases b with
        | loc m k' n' e' => exact (e2 k').elim
        | cell c k' l' e' =>
          obtain ⟨o, ho, hod⟩ := e'
          refine .cell c e4 (by show cl.lookup y = some c; rw [e3]; exact l') ⟨o, keep₂ c o (fun hw => ?_) ho, hod⟩
          have hnw := W.new c hw
          obtain ⟨u₀, b₀, _⟩ := X.holds y dy e1
          cases b₀ with
          | loc m k' n' e' => exact e2 k'
          | cell c₀ k₀ l₀ e₀ =>
            rw [l'] at l₀; cases l₀
            obtain ⟨o₀, ho₀, _⟩ := e₀
            rw [hnw] at ho₀; cases ho₀
      refine ⟨fun elts kk p Q hQ => W.tup i (i + 1) _ hst₂ elts kk p v Q _ _ rfl hQ hPv, ?_⟩
      refine tgt_loc (s := { s₂ with heap := h₂, toks := tk₂ }) (env := compEnvC scope cl H2.objs.size env) X.ok.1 T hn₂ H₂ cp.hkind (fun y hy => lookup_relabel_local (hτ y hy)) rd fun h₃ m₃ t₃ hn₃ hk₃ g₃ H₃ => ?_
      have hDC' : s₂.heap.objs.size ≠ (compEnvC scope cl H2.objs.size env).locals := hDC
      have keep₃ : ∀ b o, b ∉ wr → s₂.heap.get? b = some o → h₃.get? b = some o := fun b o hb e => hk₃ b o (below b (Heap.lt_size e)).1 (keep₂ b o hb e)
      have cx : Cx w n (And1 N s₂.heap.objs.size) A { s₂ with heap := h₃, toks := t₃ } := ⟨X.ok, ?_, fun b hb => ?_⟩
      · have P3 : At w n (And1 N s₂.heap.objs.size) (compEnvC scope cl H2.objs.size env) (τ ++ σc) A { s₂ with heap := h₃, toks := t₃ } := ⟨cx, H₃⟩
        refine (hev _).use P3 fun y s₄ ry k₄ => ?_
        obtain ⟨h₄, t₄, rfl, kk₄⟩ := k₄
        have hpl₄ : h₄.PlainList s₂.heap.objs.size ys := (hpl₂.at fun o e => hk₃ _ o hDC' e).at fun o e => kk₄ _ o e
        refine wpAny_list_append_plain hpl₄ (fun h₅ hpl₅ hs₅ => ?_) (by
          have := hys.length
          rw [List.length_take, Array.length_toList] at this
          have := W.size; omega)
        have g5 : Grow (And1 N s₂.heap.objs.size) h₄ h₅ := fun b o xs kq hb e dd => hs₅.extBut b o (fun q => hb (.inr q)) e
        refine ⟨items.length + 1 - (i + 1), by omega, h₅, t₄, i + 1, ys.push y, m₃, rfl, hlt, rfl, ?_, (hn₃.keeps kk₄).sameBut hs₅ (Ne.symm hDC), hpl₅, ?_, fun b o hb e => hs₅.extBut b o (below b (Heap.lt_size e)).2 (kk₄ b o (keep₃ b o hb e))⟩
        · exact W.walks.frame _ _ _ hst₂ fun b hb o e => hs₅.extBut b o (fun q => hDf (q ▸ hb)) (kk₄ b o (hk₃ b o (fun q => hCf (by rw [← show (compEnvC scope cl H2.objs.size env).locals = H2.objs.size from rfl, ← q]; exact hb)) e))
        · rw [Array.toList_push, List.take_add_one, show out[i]? = some out[i] by simp [hi']]
          refine Reps.append ?_ (.cons (ry.grow g5) .nil)
          exact (((hys.grow (gw hst' hk₂ _)).grow (g₃ _)).grow (.of kk₄)).grow g5
      · have kk : ∀ b o, s.heap.get? b = some o → h₃.get? b = some o := fun b o e => keep₃ b o (fun hw => by rw [W.new b hw] at e; cases e) (W.kp.keep b o e)
        exact X.lib.keeps kk
      · have kk : ∀ b o, s.heap.get? b = some o → h₃.get? b = some o := fun b o e => keep₃ b o (fun hw => by rw [W.new b hw] at e; cases e) (W.kp.keep b o e)
        rcases hb with hb | rfl
        · exact keep_some kk b (X.old b hb)
        · obtain ⟨nn, hp⟩ := hpl₂
          rw [hk₃ _ _ hDC' hp]; rfl
    · obtain rfl : i = items.length := Nat.le_antisymm hi (Nat.not_lt.mp hlt)
      refine W.walks.done _ _ _ hst' fun h₂ tk₂ hk₂ => ?_
      refine hRR _ _ h₂ tk₂ m' ys hDn hCn hDC (hn'.at' fun o e => hk₂ _ o hCw e) (hpl.at fun o e => hk₂ _ o hDw e) ?_ fun b o hb e => hk₂ b o hb (hk' b o hb e)
      rw [← hlen, List.take_length] at hys
      refine hys.grow fun b o xs kq _ e dd => ?_
      by_cases q : b ∈ wr
      · exact (W.noSeq _ _ hst' b q o xs kq e dd).elim
      · exact hk₂ b o q e
  exact codeAny_compStart_list (loop _ rfl) (W.walks.self 0 _ _ _ hst₁ (loop _ rfl))
end
end Mine
end

section
open PySem PySem.W PyProof.Rows PySem.Calls
namespace Mine

section
variable {w : Wo} {n : Nat} {N : Addr → Prop} {base : Heap} {env : Env} {s₀ s s₂ s' : Shared} {σ τ σc : Sto} {A : Around} {E : Value → Shared → Prop} {x : Str} {d : D} {v : Value}
  {elt tgt iter : Expr} {scope : Scope} {cl : List (Str × Addr)} {pos : Pos}

/-- what the comprehension's list is, and what stands -/
theorem comp_end {fresh : Bool} {items out : List D} {I : Addr} {fp wr : List Addr} {P : Nat → Value → Prop} {St : Nat → Heap → Prop} {D C : Addr} {h' h'' : Heap} {ys : Array Value}
    (X : At w n N env σ A s) (W : Walk w A fresh N s s₂ items I fp wr P St) (hD : s₂.heap.get? D = none) (hC : s₂.heap.get? C = none) (hDC : D ≠ C) (hn : ∃ m', h'.Ns C m') (hpl : h'.PlainList D ys) (hys : Reps (And1 N D) h' out ys.toList)
    (hk : ∀ b o, b ∉ wr → s₂.heap.get? b = some o → h'.get? b = some o) (hs : ∀ b o, b ≠ C → h'.get? b = some o → h''.get? b = some o) (tk : Nat) :
    Rep N h'' (.lst out) (.ref D) ∧ Kp s { s₂ with heap := h'', toks := tk } := by
  obtain ⟨m', hn⟩ := hn
  have hold : ∀ b o, s.heap.get? b = some o → h''.get? b = some o := fun b o e => by
    have e2 := W.kp.keep b o e
    exact hs b o (by rintro rfl; rw [hC] at e2; cases e2) (hk b o (fun q => by rw [W.new b q] at e; cases e) e2)
  refine ⟨rep_lst (a := D) (vs := ys.toList) (fun q => ?_) (by rw [Array.toArray_toList]; exact (hpl.at fun o e => hs D o hDC e).isList) ?_, ?_⟩
  · have := X.old D q
    obtain ⟨o, ho⟩ := Option.isSome_iff_exists.mp this
    rw [W.kp.keep D o ho] at hD; cases hD
  · have : Reps N h' out ys.toList := hys.more fun b hb => .inl (.inl hb)
    refine this.grow fun b o xs k _ e dd => hs b o (fun q => ?_) e
    subst q
    exact ns_noSeq hn e dd
  · obtain ⟨h, t, e, _⟩ := W.kp
    refine ⟨h'', tk, by rw [e], hold⟩

theorem ev_comp {fresh : Bool} {items out : List D} (it : EvIt w n env σ fresh iter items) (cp : Caps env scope cl σ σc) (hlen : out.length = items.length)
    (helt : ∀ (i : Nat) (d e : D), items[i]? = some d → out[i]? = some e → ∃ τ, Tgt tgt d τ ∧ (∀ y ∈ τ.map (·.1), scope.names.lookup y = some .local) ∧ ∀ C, Ev w n (compEnvC scope cl C env) (τ ++ σc) elt e)
    (hT : ∃ d τ, Tgt tgt d τ) (hs : ∀ x, foldedSetIterable iter env x = pure x := by intro _; rfl) :
    Ev w n env σ (.ListComp elt [⟨tgt, iter, [], 0⟩] scope pos) (.lst out) := .mk fun N A s X => by
  rw [eval_ListComp]
  refine wpAny_comprehension_free (use := none) rfl hs cp.clos cp.hkind cp.hnames (wpAny_mono (it.go N A s X) (fun xv s₁ h₁ => wpAny_mono h₁ (fun it s₂ h₂ => ?_) fun _ _ f => f.elim) fun _ _ f => f.elim)
  obtain ⟨I, fp, wr, P, St, rfl, W⟩ := h₂
  refine comp_block (RR := fun acc C => compPost (MM w) A noE none _ acc C) X W cp hlen helt hT ?_
  intro D C h' tk m' ys hD hC hDC hn hpl hys hk
  exact ⟨m', hn, fun h'' hs'' => comp_end X W hD hC hDC ⟨m', hn⟩ hpl hys hk (fun b o hb e => hs''.extBut b o hb e) tk⟩

/-- `x = [..]`, the list stored before the comprehension's names go -/
theorem x_assign_comp {fresh : Bool} {items out : List D} {p' sp : Pos} {rest : List Stmt} {Q : Flow → Shared → Prop} (it : EvIt w n env σ fresh iter items) (cp : Caps env scope cl σ σc) (hlen : out.length = items.length)
    (helt : ∀ (i : Nat) (d e : D), items[i]? = some d → out[i]? = some e → ∃ τ, Tgt tgt d τ ∧ (∀ y ∈ τ.map (·.1), scope.names.lookup y = some .local) ∧ ∀ C, Ev w n (compEnvC scope cl C env) (τ ++ σc) elt e)
    (hT : ∃ d τ, Tgt tgt d τ) (L : Lib w base) (F : Fs base env s₀ s) (X : At w n N env σ A s) (hk : env.scope.kind = .function) (hx : env.kindOf x = some .local)
    (h : ∀ s', Nx N base env s₀ ((x, .lst out) :: σ) s s' → At w n N env ((x, .lst out) :: σ) A s' → wpAny (MM w) A (execs rest env) Q E s')
    (hsw : swapsWith (.ListComp elt [⟨tgt, iter, [], 0⟩] scope pos) (some (.Name x p')) sp.line env = pure true := by rfl)
    (hs : ∀ x, foldedSetIterable iter env x = pure x := by intro _; rfl) :
    wpAny (MM w) A (execs (.Assign [.Name x p'] (.ListComp elt [⟨tgt, iter, [], 0⟩] scope pos) sp :: rest) env) Q E s := by
  refine wpAny_execs_cons ?_
  rw [exec_Assign_Name_used _ _ _ _ hsw]
  refine wpAny_bind (wpAny_standAt (wpAny_bind ?_))
  show wpAny _ A (do let _ ← comprehension (.ListComp elt [⟨tgt, iter, [], 0⟩] scope pos) scope env _ (newList []) false (eval iter env) (some (assign (.Name x p') env))) _ _ s
  refine wpAny_bind (wpAny_mono (wpAny_comprehension_free (use := some (assign (.Name x p') env)) (Q := fun _ s' => wpAny (MM w) A (execs rest env) Q E s') rfl hs cp.clos cp.hkind cp.hnames
    (wpAny_mono (it.go N A s X) (fun xv s₁ h₁ => wpAny_mono h₁ (fun it s₂ h₂ => ?_) fun _ _ f => f.elim) fun _ _ f => f.elim)) (fun _ s' hq => wpAny_pure (wpAny_pure hq)) fun _ _ e => e)
  obtain ⟨I, fp, wr, P, St, rfl, W⟩ := h₂
  refine comp_block (RR := fun acc C => compPost (MM w) A E (some (assign (.Name x p') env)) (fun _ s' => wpAny (MM w) A (execs rest env) Q E s') acc C) X W cp hlen helt hT ?_
  intro D C h' tk m' ys hD hC hDC hnC hpl hys hkk
  have ce := comp_end (h'' := h') X W hD hC hDC ⟨m', hnC⟩ hpl hys hkk (fun b o _ e => e) tk
  have F' := F.kp ce.2
  have hLC : C ≠ env.locals := by
    rintro rfl
    obtain ⟨m, hm⟩ := F.ns
    obtain ⟨o, ho⟩ := Option.isSome_iff_exists.mp (ns_some hm)
    rw [W.kp.keep _ o ho] at hC; cases hC
  obtain ⟨mL, hmL⟩ := F'.ns
  refine wpAny_assign_Name (store_loc hmL (X.holds.keeps ce.2.keep) hk hx ce.1 fun h₃ m₃ t₃ hn₃ hs₃ H₃ => ⟨_, hnC.sameBut hs₃ hLC, fun h₄ hs₄ => ?_⟩)
  have hnC₃ := hnC.sameBut hs₃ hLC
  have Cs : ∀ b o, s.heap.get? b = some o → b ≠ C := fun b o e => by rintro rfl; rw [W.kp.keep _ o e] at hC; cases hC
  have g₃ : ∀ N, Grow N h' h₃ := fun N => grow_sameBut hs₃ fun o xs k e dd => ns_noSeq hmL e dd
  have g₄ : ∀ N, Grow N h₃ h₄ := fun N => grow_sameBut hs₄ fun o xs k e dd => ns_noSeq hnC₃ e dd
  have N₄ : Nx N base env s₀ ((x, .lst out) :: σ) s { s₂ with heap := h₄, toks := t₃ } := by
    refine ⟨⟨?_, fun b o e => ?_, ⟨m₃, hn₃.sameBut hs₄ (Ne.symm hLC)⟩, F.fresh, fun y c l => ?_⟩, ?_, ((Grow.of ce.2.keep).trans (g₃ _)).trans (g₄ _), fun b o ho e => ?_, fun b q => ?_⟩
    · obtain ⟨h, t, e⟩ := F'.same
      refine ⟨h₄, t₃, ?_⟩
      have e := congrArg (fun z : Shared => ({ z with heap := h₄, toks := t₃ } : Shared)) e
      exact e
    · have e1 := F.keep b o e
      exact hs₄.extBut b o (Cs b o e1) (hs₃.extBut b o (by rintro rfl; rw [F.fresh] at e; cases e) (ce.2.keep b o e1))
    · obtain ⟨v, o, ho, hd⟩ := F.cel y c l
      have e2 := ce.2.keep c o ho
      exact ⟨v, o, hs₄.extBut c o (Cs c o ho) (hs₃.extBut c o (by rintro rfl; exact ns_noCell hmL ⟨o, e2, hd⟩) e2), hd⟩
    · intro y dy ey
      obtain ⟨u, bd, ru⟩ := H₃ y dy ey
      refine ⟨u, ?_, ru.grow (g₄ _)⟩
      cases bd with
      | loc m k n e => exact .loc m k (n.sameBut hs₄ (Ne.symm hLC)) e
      | cell c k l e =>
        obtain ⟨o, ho, hod⟩ := e
        exact .cell c k l ⟨o, hs₄.extBut c o (by rintro rfl; exact ns_noCell hnC₃ ⟨o, ho, hod⟩) ho, hod⟩
    · exact hs₄.extBut b o (Cs b o e) (hs₃.extBut b o (fun q => ho (.inl q)) (ce.2.keep b o e))
    · have q' := sameBut_some hs₃ (ns_some hn₃) b (keep_some ce.2.keep b q)
      obtain ⟨o, ho⟩ := Option.isSome_iff_exists.mp q
      obtain ⟨o', ho'⟩ := Option.isSome_iff_exists.mp q'
      rw [hs₄.extBut b o' (Cs b o ho) ho']; rfl
  exact h _ N₄ (N₄.at L X.toCx)
end
end Mine
end

section
open PySem PySem.W PyProof.Rows PySem.Calls
namespace Mine

/-- from s to s': what is neither the frame's own nor of N stands; new places to avoid are fresh -/
structure Mv (env : Env) (N N' : Addr → Prop) (s s' : Shared) : Prop where
  new : ∀ b, N' b → N b ∨ s.heap.get? b = none
  grow : Grow N s.heap s'.heap
  kx : ∀ b o, ¬ Own env b → ¬ N b → s.heap.get? b = some o → s'.heap.get? b = some o
  some : ∀ b, (s.heap.get? b).isSome = true → (s'.heap.get? b).isSome = true

section
variable {w : Wo} {n : Nat} {N N' N'' : Addr → Prop} {base : Heap} {env : Env} {s₀ s s₁ s₂ s' s'' : Shared} {σ τ : Sto} {A : Around} {E : Value → Shared → Prop} {x : Str} {d : D} {v : Value}

theorem none_of {h h' : Heap} (k : ∀ b, (h.get? b).isSome = true → (h'.get? b).isSome = true) {b : Addr} (e : h'.get? b = none) : h.get? b = none := by
  cases q : h.get? b with
  | none => rfl
  | some o => have := k b (by rw [q]; rfl); rw [e] at this; cases this
theorem Mv.trans (a : Mv env N N' s s') (b : Mv env N' N'' s' s'') : Mv env N N'' s s'' := by
  have nn : ∀ z, N' z → (s.heap.get? z).isSome = true → N z := fun z h1 h2 => (a.new z h1).elim id fun e => by rw [e] at h2; cases h2
  refine ⟨fun z h => ?_, fun z o xs k hz e dd => ?_, fun z o ho hz e => ?_, fun z q => b.some z (a.some z q)⟩
  · rcases b.new z h with h | h
    · exact a.new z h
    · exact .inr (none_of a.some h)
  · exact b.grow z o xs k (fun h => hz (nn z h (by rw [e]; rfl))) (a.grow z o xs k hz e dd) dd
  · exact b.kx z o ho (fun h => hz (nn z h (by rw [e]; rfl))) (a.kx z o ho hz e)
theorem Mv.of (a : Nx N base env s₀ σ s s') : Mv env N N s s' := ⟨fun _ h => .inl h, a.grow.weak fun _ f => f.elim, fun b o h _ e => a.kx b o h e, a.some⟩
theorem Mv.kp (k : Kp s s') : Mv env N N s s' := ⟨fun _ h => .inl h, .of k.keep, fun b o _ _ e => k.keep b o e, keep_some k.keep⟩

theorem Holds.sub {h : Heap} (H : Holds N env h σ) (q : ∀ y d, τ.lookup y = some d → σ.lookup y = some d) : Holds N env h τ := fun y d e => H y d (q y d e)

theorem x_for {fresh : Bool} {items : List D} {iter : Expr} {px pos : Pos} {body rest : List Stmt} {Q : Flow → Shared → Prop} (σ : Nat → Sto) (Ex : Nat → (Addr → Prop) → Heap → Prop) (it : EvIt w n env τ fresh iter items)
    (L : Lib w base) (F : Fs base env s₀ s) (P : At w n N env τ A s) (hk : env.scope.kind = .function) (hx : ∀ s', Fs base env s₀ s' → Put base env s'.heap x)
    (hEx : ∀ i N h h', Grow Nil h h' → Ex i N h → Ex i N h') (h0 : ∀ y d, (σ 0).lookup y = some d → τ.lookup y = some d) (e0 : Ex 0 N s.heap)
    (turn : ∀ i d N' s', items[i]? = some d → Mv env N N' s s' → Fs base env s₀ s' → At w n N' env ((x, d) :: σ i) A s' → Ex i N' s'.heap →
      wpAny (MM w) A (execs body env) (fun fl s'' => match fl with
        | .next | .cont => ∃ N'', Mv env N' N'' s' s'' ∧ Fs base env s₀ s'' ∧ At w n N'' env (σ (i + 1)) A s'' ∧ Ex (i + 1) N'' s''.heap
        | .brk => False
        | .ret v => Q (.ret v) s'') noE s')
    (done : ∀ N' s', Mv env N N' s s' → Fs base env s₀ s' → At w n N' env (σ items.length) A s' → Ex items.length N' s'.heap → wpAny (MM w) A (execs rest env) Q E s')
    (hs : ∀ x, foldedSetIterable iter env x = pure x := by intro _; rfl) :
    wpAny (MM w) A (execs (.For (.Name x px) iter body [] pos :: rest) env) Q E s := by
  refine wpAny_execs_cons (wpAny_For (wpAny_mono (it.go N A s P) (fun xv s₁ h₁ => wpAny_mono h₁ (fun itv s₂ h₂ => ?_) fun _ _ f => f.elim) fun _ _ f => f.elim) hs)
  obtain ⟨I, fp, wr, Pi, St, rfl, W⟩ := h₂
  have K := W.kp
  have oldS : ∀ b ∈ wr, s.heap.get? b = none := W.new
  -- what a step of the iterator keeps
  have gw : ∀ {ha hb : Heap} {j : Nat}, St j ha → (∀ b o, b ∉ wr → ha.get? b = some o → hb.get? b = some o) → ∀ N, Grow N ha hb := fun {ha hb j} st kk N b o xs kq _ e dd => by
    by_cases q : b ∈ wr
    · exact (W.noSeq _ _ st b q o xs kq e dd).elim
    · exact kk b o q e
  have inS : ∀ b, (s.heap.get? b).isSome = true → b ∉ wr := fun b q hw => by rw [oldS b hw] at q; cases q
  obtain ⟨mL, hmL⟩ := F.ns
  refine codeAny_forLoop (I := fun k s' => ∃ i N', k = items.length + 1 - i ∧ i ≤ items.length ∧ St i s'.heap ∧ (Mv env N N' s s' ∧ (∀ b, N' b → N b ∨ s₂.heap.get? b = none) ∧ Grow N s₂.heap s'.heap ∧ ∀ b, (s₂.heap.get? b).isSome = true → (s'.heap.get? b).isSome = true) ∧ Fs base env s₀ s' ∧ At w n N' env (σ i) A s' ∧ Ex i N' s'.heap) ?_ (items.length + 1)
    ⟨0, N, rfl, Nat.zero_le _, W.start, ⟨Mv.kp K, fun _ => .inl, .refl _, fun _ e => e⟩, F.kp K, ⟨P.toCx.kp K, (P.holds.sub h0).keeps K.keep⟩, hEx _ _ _ _ (.of K.keep) e0⟩
  rintro k s' ⟨i, N', rfl, hi, hst, ⟨M, new₂, grow₂, some₂⟩, F', P', ex⟩
  have sS : ∀ b, (s.heap.get? b).isSome = true → (s'.heap.get? b).isSome = true := fun b q => M.some b q
  have after : ∀ h₂ tk₂, (∀ b o, b ∉ wr → s'.heap.get? b = some o → h₂.get? b = some o) →
      Fs base env s₀ { s' with heap := h₂, toks := tk₂ } ∧ At w n N' env (σ i) A { s' with heap := h₂, toks := tk₂ } ∧ Ex i N' h₂ ∧ (∀ b, b ∉ wr → (s'.heap.get? b).isSome = true → (h₂.get? b).isSome = true) := fun h₂ tk₂ hk₂ => by
    obtain ⟨m', hm'⟩ := F'.ns
    have hLw : env.locals ∉ wr := inS _ (ns_some hmL)
    have hcw : ∀ x c, env.cells.lookup x = some c → c ∉ wr := fun x c l => by obtain ⟨v, hv⟩ := F.cel x c l; exact inS c (cell_some hv)
    have hold : ∀ b o, b ∉ wr → s'.heap.get? b = some o → h₂.get? b = some o := hk₂
    have sm : ∀ b, b ∉ wr → (s'.heap.get? b).isSome = true → (h₂.get? b).isSome = true := fun b q e => by
      obtain ⟨o, ho⟩ := Option.isSome_iff_exists.mp e
      rw [hk₂ b o q ho]; rfl
    have bw : ∀ b o, base.get? b = some o → b ∉ wr := fun b o e => inS b (by rw [F.keep b o e]; rfl)
    have F₂ : Fs base env s₀ { s' with heap := h₂, toks := tk₂ } := by
      obtain ⟨h', t', e⟩ := F'.same
      refine ⟨⟨h₂, tk₂, by rw [e]⟩, fun b o e => hk₂ b o (bw b o e) (F'.keep b o e), ⟨m', hm'.at' fun o e => hk₂ _ o hLw e⟩, F'.fresh, fun x c l => ?_⟩
      obtain ⟨v, o, ho, hd⟩ := F'.cel x c l
      exact ⟨v, o, hk₂ c o (hcw x c l) ho, hd⟩
    refine ⟨F₂, ⟨⟨P'.ok, F₂.lib L, fun b hb => ?_⟩, fun y dy ey => ?_⟩, hEx _ _ _ _ (gw hst hk₂ _) ex, sm⟩
    · refine sm b (fun hw => ?_) (P'.old b hb)
      rcases new₂ b hb with h | h
      · exact inS b (P.old b h) hw
      · have := W.has _ _ W.start b (W.walks.sub b hw); rw [h] at this; cases this
    · obtain ⟨u, bd, ru⟩ := P'.holds y dy ey
      refine ⟨u, ?_, ru.grow (gw hst hk₂ _)⟩
      cases bd with
      | loc m k n e => exact .loc m k (n.at' fun o e => hk₂ _ o hLw e) e
      | cell c k l e =>
        obtain ⟨o, ho, hd⟩ := e
        exact .cell c k l ⟨o, hk₂ c o (hcw y c l) ho, hd⟩
  have wrMv : ∀ h₂ tk₂, (∀ b o, b ∉ wr → s'.heap.get? b = some o → h₂.get? b = some o) → Mv env N N' s { s' with heap := h₂, toks := tk₂ } := fun h₂ tk₂ hk₂ => by
    refine ⟨M.new, fun b o xs kq hb e dd => ?_, fun b o ho hb e => ?_, fun b q => ?_⟩
    · exact hk₂ b o (inS b (by rw [e]; rfl)) (M.grow b o xs kq hb e dd)
    · exact hk₂ b o (inS b (by rw [e]; rfl)) (M.kx b o ho hb e)
    · obtain ⟨o, ho⟩ := Option.isSome_iff_exists.mp (sS b q)
      show (h₂.get? b).isSome = true
      rw [hk₂ b o (inS b q) ho]; rfl
  by_cases hlt : i < items.length
  · refine W.walks.item i _ _ _ hlt hst fun v h₂ tk₂ hPv hst₂ hk₂ => ?_
    obtain ⟨F₂, P₂, ex₂, sm₂⟩ := after h₂ tk₂ hk₂
    have M₂ := wrMv h₂ tk₂ hk₂
    -- the item
    have G₂ : Grow N s₂.heap h₂ := fun b o xs kq hb e dd => by
      by_cases q : b ∈ wr
      · exact (W.noSeq _ _ W.start b q o xs kq e dd).elim
      · exact hk₂ b o q (grow₂ b o xs kq hb e dd)
    obtain ⟨d, hd, rd⟩ := W.item (fun b => N b ∨ N' b) i v h₂ (fun b hb => hb.elim .inl (new₂ b)) hlt hPv (G₂.weak fun b => .inl)
    have rd' : Rep N' h₂ d v := rd.more fun b hb => .inl (.inr hb)
    refine wpAny_assign_Name (store F₂ P₂.holds hk (hx _ F₂) rd' fun s₃ N₃ => ?_)
    have M₃ := M₂.trans (Mv.of N₃)
    have e := turn i d N' s₃ hd M₃ N₃.fs (N₃.at L P₂.toCx) (hEx _ _ _ _ N₃.grow ex₂)
    refine wpAny_mono e (fun fl s₄ h₄ => ?_) fun _ _ f => f.elim
    have next : (∃ N'', Mv env N' N'' s₃ s₄ ∧ Fs base env s₀ s₄ ∧ At w n N'' env (σ (i + 1)) A s₄ ∧ Ex (i + 1) N'' s₄.heap) → ∃ m, m < items.length + 1 - i ∧ ∃ i' N', m = items.length + 1 - i' ∧ i' ≤ items.length ∧ St i' s₄.heap ∧ (Mv env N N' s s₄ ∧ (∀ b, N' b → N b ∨ s₂.heap.get? b = none) ∧ Grow N s₂.heap s₄.heap ∧ ∀ b, (s₂.heap.get? b).isSome = true → (s₄.heap.get? b).isSome = true) ∧ Fs base env s₀ s₄ ∧ At w n N' env (σ i') A s₄ ∧ Ex i' N' s₄.heap := by
      rintro ⟨N'', M₄, F₄, P₄, ex₄⟩
      have fpN : ∀ b ∈ fp, ¬ N' b := fun b hb hN => by
        have hN0 : N b := (new₂ b hN).elim id fun e => by have := W.has _ _ W.start b hb; rw [e] at this; cases this
        rcases W.old b hb with h | h
        · have := P.old b hN0; rw [h] at this; cases this
        · exact h.2.1 hN0
      have fpO : ∀ b ∈ fp, ¬ Own env b := fun b hb ho => by
        have q : (s.heap.get? b).isSome = true := by
          rcases ho with rfl | ⟨x, l⟩
          · exact ns_some hmL
          · obtain ⟨v, hv⟩ := F.cel x b l; exact cell_some hv
        rcases W.old b hb with h | ⟨_, _, o, xs, kq, h1, h2⟩
        · rw [h] at q; cases q
        · rcases ho with rfl | ⟨x, l⟩
          · exact ns_noSeq hmL h1 h2
          · obtain ⟨v, hv⟩ := F.cel x b l; exact cell_noSeq hv h1 h2
      have s23 : ∀ b, (s₂.heap.get? b).isSome = true → (s₃.heap.get? b).isSome = true := fun b q => N₃.some b (by
        by_cases hw : b ∈ wr
        · exact W.has _ _ hst₂ b (W.walks.sub b hw)
        · exact sm₂ b hw (some₂ b q))
      refine ⟨items.length + 1 - (i + 1), by omega, i + 1, N'', rfl, hlt, ?_, ⟨M₃.trans M₄, fun b hb => ?_, fun b o xs kq hb e dd => ?_, fun b q => M₄.some b (s23 b q)⟩, F₄, P₄, ex₄⟩
      · exact W.walks.frame _ _ _ hst₂ fun b hb o e => M₄.kx b o (fpO b hb) (fpN b hb) (N₃.kx b o (fpO b hb) e)
      · rcases M₄.new b hb with h | h
        · exact new₂ b h
        · exact .inr (none_of s23 h)
      · have e1 := G₂ b o xs kq hb e dd
        have e2 := N₃.grow b o xs kq (fun f => f.elim) e1 dd
        exact M₄.grow b o xs kq (fun h => (new₂ b h).elim hb fun q => by rw [e] at q; cases q) e2 dd
    cases fl with
    | next => exact next h₄
    | cont => exact next h₄
    | brk => exact h₄.elim
    | ret v => exact h₄
  · obtain rfl : i = items.length := Nat.le_antisymm hi (Nat.not_lt.mp hlt)
    refine W.walks.done _ _ _ hst fun h₂ tk₂ hk₂ => ?_
    obtain ⟨F₂, P₂, ex₂, sm₂⟩ := after h₂ tk₂ hk₂
    exact wpAny_execs_nil (done N' _ (wrMv h₂ tk₂ hk₂) F₂ P₂ ex₂)
end
end Mine
end

section
open PySem PySem.W PyProof.Rows PySem.Calls
namespace Mine

section
variable {w : Wo} {n : Nat} {N N' N'' : Addr → Prop} {base : Heap} {env : Env} {s₀ s s₁ s₂ s' s'' : Shared} {σ τ : Sto} {A : Around} {E : Value → Shared → Prop} {x : Str} {d : D} {v : Value}

theorem ev_neg {e : Expr} {p : Pos} {a : Int} (x : Ev w n env σ e (.int a)) : Ev w n env σ (.UnaryOp .USub e p) (.int (-a)) := .mk fun N A s P =>
  wpAny_UnaryOp (x.use P fun v s₁ r k => by
    obtain ⟨t, rfl⟩ := inv_int r
    exact PyProof.Rows.neg_int ⟨rep_int, k.trans (.tok _ _)⟩)

/-- several names are put, in order -/
theorem store_all (hk : env.scope.kind = .function) : ∀ (fs : List (Str × (Value → Sem Unit))) (ds : List D) (vs : List Value) (s : Shared) (σ : Sto) {Q : Unit → Shared → Prop},
    (∀ q ∈ fs, (∀ v (Q : Unit → Shared → Prop) s, wpAny (MM w) A (storeName env q.1 v) Q E s → wpAny (MM w) A (q.2 v) Q E s) ∧ env.kindOf q.1 = some .local) → fs.length = ds.length → Fs base env s₀ s → Holds N env s.heap σ → Reps N s.heap ds vs →
    (∀ s', Nx N base env s₀ (((fs.map (·.1)).zip ds).reverse ++ σ) s s' → Q () s') → wpAny (MM w) A (assignInOrder (fs.map (·.2)) vs) Q E s
  | [], ds, vs, s, σ, Q, _, e, F, H, r, h => by
    cases ds with
    | nil => exact wpAny_pure (h s (Nx.of F H (.refl _)))
    | cons _ _ => cases e
  | (x, f) :: fs, ds, vs, s, σ, Q, hf, e, F, H, r, h => by
    cases ds with
    | nil => cases e
    | cons d ds =>
      rw [Reps] at r
      obtain ⟨v, vs, rfl, r1, r2⟩ := r
      have hq := hf (x, f) (List.mem_cons_self ..)
      refine wpAny_assignInOrder_more (hq.1 _ _ _ (store F H hk (.loc hq.2) r1 fun s₁ N₁ => ?_))
      refine store_all hk fs ds vs s₁ ((x, d) :: σ) (fun q hm => hf q (List.mem_cons_of_mem _ hm)) (by simpa using e) N₁.fs N₁.holds (r2.grow (N₁.grow.weak fun _ f => f.elim)) fun s' N' => h s' ?_
      rw [List.map_cons, List.zip_cons_cons, List.reverse_cons, List.append_assoc]
      exact N₁.trans N'

theorem via_assign {x : Str} {p : Pos} : ∀ v (Q : Unit → Shared → Prop) s, wpAny (MM w) A (storeName env x v) Q E s → wpAny (MM w) A (assign (.Name x p) env v) Q E s := fun v Q s h => wpAny_assign_Name h
theorem via_bind {x : Str} : ∀ v (Q : Unit → Shared → Prop) s, wpAny (MM w) A (storeName env x v) Q E s → wpAny (MM w) A (bindName env x v) Q E s := fun v Q s h => wpAny_bindName h

theorem zip_rev {α β : Type} : ∀ {a : List α} {b : List β}, a.length = b.length → a.reverse.zip b.reverse = (a.zip b).reverse
  | [], [], _ => rfl
  | x :: a, [], e => by cases e
  | [], y :: b, e => by cases e
  | x :: a, y :: b, e => by
    have e : a.length = b.length := by simpa using e
    rw [List.reverse_cons, List.reverse_cons, List.zip_append (by simp [e]), zip_rev e]
    simp
theorem nx_kp (k : Kp s s') (a : Nx N base env s₀ σ s' s'') : Nx N base env s₀ σ s s'' :=
  ⟨a.fs, a.holds, (Grow.of k.keep).trans a.grow, fun b o h e => a.kx b o h (k.keep b o e), fun b q => a.some b (keep_some k.keep b q)⟩

/-- `x, y, .. = e`, in order -/
theorem x_unpack {e : Expr} {elts : List Expr} {k : Nat} {tp p : Pos} {rest : List Stmt} {Q : Flow → Shared → Prop} (nps : List (Str × Pos)) {ds : List D} (a : Ev w n env σ e (.tup ds)) (L : Lib w base) (F : Fs base env s₀ s) (P : At w n N env σ A s) (hk : env.scope.kind = .function)
    (hn : nps.length = ds.length) (hl : ∀ q ∈ nps, env.kindOf q.1 = some .local)
    (h : ∀ s', Nx N base env s₀ (((nps.map (·.1)).zip ds).reverse ++ σ) s s' → At w n N env (((nps.map (·.1)).zip ds).reverse ++ σ) A s' → wpAny (MM w) A (execs rest env) Q E s')
    (he : (assignEach elts env) = nps.map fun q => (false, assign (.Name q.1 q.2) env) := by rfl)
    (hs : swapsWithSole [.Tuple elts k tp] e p.line env = pure false := by rfl) (hw : swappedStores [.Tuple elts k tp] e env = pure none := by rfl) :
    wpAny (MM w) A (execs (.Assign [.Tuple elts k tp] e p :: rest) env) Q E s :=
  wpAny_execs_cons (Assign_Tuple (a.use P fun v s₁ r k₁ => by
    obtain ⟨t, vs, rfl, hN, ht, rr⟩ := inv_tup r
    refine wpAny_assign_Tuple P.ok.1 ht (by rw [he]; simp [hn, rr.length]) (by rw [he]; rw [List.findIdx?_eq_none_iff]; intro q hq; obtain ⟨z, _, rfl⟩ := List.mem_map.mp hq; rfl) fun h' hx => ?_
    have K : Kp s₁ { s₁ with heap := h' } := ⟨h', s₁.toks, rfl, fun b o e => hx b o (Nat.ne_of_lt (Heap.lt_size e)) e⟩
    have K2 := k₁.trans K
    rw [he]
    have e2 : (nps.map fun q => (false, assign (.Name q.1 q.2) env)).map (·.2) = (nps.map fun q => (q.1, assign (.Name q.1 q.2) env)).map (·.2) := by simp
    have e3 : (nps.map fun q => (q.1, assign (.Name q.1 q.2) env)).map (·.1) = nps.map (·.1) := by simp
    rw [e2]
    refine store_all hk _ ds vs _ σ (fun q hq => ?_) (by simp [hn]) (F.kp K2) (P.holds.keeps K2.keep) (K.reps rr) fun s' N' => ?_
    · obtain ⟨z, hz, rfl⟩ := List.mem_map.mp hq
      exact ⟨via_assign, hl z hz⟩
    · rw [e3] at N'
      have q := nx_kp K2 N'
      exact h s' q (q.at L P.toCx)) hs hw)

/-- `x, y = e, e'`, stored from the last -/
theorem x_unpack_swapped {e : Expr} {elts : List Expr} {k : Nat} {tp p : Pos} {rest : List Stmt} {Q : Flow → Shared → Prop} (ns : List Str) {ds : List D} (a : Ev w n env σ e (.tup ds)) (L : Lib w base) (F : Fs base env s₀ s) (P : At w n N env σ A s) (hk : env.scope.kind = .function)
    (hn : ns.length = ds.length) (hl : ∀ q ∈ ns, env.kindOf q = some .local)
    (h : ∀ s', Nx N base env s₀ (ns.zip ds ++ σ) s s' → At w n N env (ns.zip ds ++ σ) A s' → wpAny (MM w) A (execs rest env) Q E s')
    (hs : swapsWithSole [.Tuple elts k tp] e p.line env = pure false := by rfl) (hw : swappedStores [.Tuple elts k tp] e env = pure (some ns) := by rfl) :
    wpAny (MM w) A (execs (.Assign [.Tuple elts k tp] e p :: rest) env) Q E s :=
  wpAny_execs_cons (Assign_Tuple_swapped (a.use P fun v s₁ r k₁ => by
    obtain ⟨t, vs, rfl, hN, ht, rr⟩ := inv_tup r
    have hsz : ns.length = vs.toArray.size := by simp [hn, rr.length]
    rw [hsz]
    refine wpAny_unpackItems_tuple P.ok.1 ht fun h' hx => ?_
    have K : Kp s₁ { s₁ with heap := h' } := ⟨h', s₁.toks, rfl, fun b o e => hx b o (Nat.ne_of_lt (Heap.lt_size e)) e⟩
    have K2 := k₁.trans K
    have e2 : (ns.reverse.map fun n => bindName env n) = (ns.reverse.map fun n => (n, bindName env n)).map (·.2) := by simp
    have e3 : (ns.reverse.map fun n => (n, bindName env n)).map (·.1) = ns.reverse := by rw [List.map_map]; exact List.map_id' _
    rw [e2]
    have rv : ∀ {ds : List D} {vs : List Value} {h : Heap}, Reps N h ds vs → Reps N h ds.reverse vs.reverse := by
      intro ds vs h r
      refine Reps.mk (by simp [r.length]) fun i d v a b => ?_
      have hi : i < ds.length := by have := (List.getElem?_eq_some_iff.mp a).1; simpa using this
      rw [List.getElem?_reverse hi] at a
      rw [List.getElem?_reverse (by rw [r.length]; exact hi), r.length] at b
      obtain ⟨v', h1, h2⟩ := r.get _ _ a
      rw [b] at h1; cases h1; exact h2
    refine store_all hk _ ds.reverse vs.reverse _ σ (fun q hq => ?_) (by simp [hn]) (F.kp K2) (P.holds.keeps K2.keep) (rv (K.reps rr)) fun s' N' => ?_
    · obtain ⟨z, hz, rfl⟩ := List.mem_map.mp hq
      exact ⟨via_bind, hl z (List.mem_reverse.mp hz)⟩
    · have e4 : ((((ns.reverse.map fun n => (n, bindName env n)).map (·.1)).zip ds.reverse).reverse) = ns.zip ds := by
        rw [e3]
        have hz : ns.reverse.zip ds.reverse = (ns.zip ds).reverse := zip_rev hn
        rw [hz, List.reverse_reverse]
      rw [e4] at N'
      have q := nx_kp K2 N'
      exact h s' q (q.at L P.toCx)) hs hw)

/-- `x += text` -/
theorem x_aug_str {e : Expr} {p np : Pos} {rest : List Stmt} {Q : Flow → Shared → Prop} {l l' : List Nat} (hx : σ.lookup x = some (.str l)) (a : Ev w n env σ e (.str l')) (hz : l.length + l'.length ≤ sizeLine) (L : Lib w base) (F : Fs base env s₀ s) (P : At w n N env σ A s) (hk : env.scope.kind = .function)
    (hl : env.kindOf x = some .local) (h : ∀ s', Nx N base env s₀ ((x, .str (l ++ l')) :: σ) s s' → At w n N env ((x, .str (l ++ l')) :: σ) A s' → wpAny (MM w) A (execs rest env) Q E s')
    (hn : (x == ("__classdict__" : Str)) = false := by decide) : wpAny (MM w) A (execs (.AugAssign (.Name x np) .Add e p :: rest) env) Q E s := by
  obtain ⟨u, b, ru⟩ := P.holds x _ hx
  refine wpAny_execs_cons (wpAny_AugAssign_Name (load_bound hk b ?_ hn))
  refine a.use P fun v s₁ r k => ?_
  obtain ⟨t, rfl⟩ := inv_str ru
  obtain ⟨t', rfl⟩ := inv_str r
  have fin : ∀ u s₂, Kp s₁ s₂ → Rep N s₂.heap (.str (l ++ l')) u → wpAny (MM w) A (storeName env x u) (fun _ s₃ => wpAny (MM w) A (execs rest env) Q E s₃) E s₂ := fun u s₂ k₂ r₂ => by
    have K := k.trans k₂
    refine store (F.kp K) (P.holds.keeps K.keep) hk (.loc hl) r₂ fun s₃ N₃ => ?_
    have q := nx_kp K N₃
    exact h s₃ q (q.at L P.toCx)
  refine PySem.P.iadd_str ?_
  by_cases h1 : (⟨l.toArray⟩ : Str).length == 0
  · rw [if_pos h1]
    have : l = [] := by simpa [PySem.Str.length] using h1
    subst this
    exact fin _ _ (.refl _) (by rw [List.nil_append]; exact rep_str)
  · rw [if_neg h1]
    by_cases h2 : (⟨l'.toArray⟩ : Str).length == 0
    · rw [if_pos h2]
      have : l' = [] := by simpa [PySem.Str.length] using h2
      subst this
      exact fin _ _ (.refl _) (by rw [List.append_nil]; exact rep_str)
    · rw [if_neg h2]
      exact ⟨by rw [str_app]; simpa [PySem.Str.length] using hz, fin _ _ (.tok _ _) (by rw [str_app]; exact rep_str)⟩
end
end Mine
end

section
open PySem PySem.W PyProof.Rows PySem.Calls
namespace Mine

section
variable {w : Wo} {n : Nat} {N N' N'' : Addr → Prop} {base : Heap} {env : Env} {s₀ s s₁ s₂ s' s'' : Shared} {σ τ : Sto} {A : Around} {E : Value → Shared → Prop} {x : Str} {d : D} {v : Value}

theorem plain_obj {h : Heap} {a : Addr} {items : Array Value} (x : h.PlainList a items) : ∃ o k, h.get? a = some o ∧ o.data = .seq items k := by
  obtain ⟨k, e⟩ := x
  exact ⟨_, k, e, rfl⟩
/-- all but one list stands -/
def But (a : Addr) (h h' : Heap) : Prop := ∀ b o, b ≠ a → h.get? b = some o → h'.get? b = some o
theorem Grow.but {a : Addr} {h h' : Heap} (k : But a h h') (hN : N a) : Grow N h h' := fun b o _ _ q e _ => k b o (fun z => q (z ▸ hN)) e
theorem Holds.but {a : Addr} {h h' : Heap} {items : Array Value} (H : Holds N env h σ) (hp : h.PlainList a items) (k : But a h h') (hN : N a) : Holds N env h' σ := fun y dy ey => by
  obtain ⟨u, b, ru⟩ := H y dy ey
  obtain ⟨oa, ka, ha, hda⟩ := plain_obj hp
  refine ⟨u, ?_, ru.grow (Grow.but k hN)⟩
  cases b with
  | loc m kk n e => exact .loc m kk (n.at' fun o e => k _ o (by rintro rfl; exact ns_noSeq n ha hda) e) e
  | cell c kk l e =>
    obtain ⟨o, ho, hd⟩ := e
    exact .cell c kk l ⟨o, k c o (by rintro rfl; exact cell_noSeq ⟨o, ho, hd⟩ ha hda) ho, hd⟩
theorem Fs.but {a : Addr} {h' : Heap} {t : Nat} {items : Array Value} (F : Fs base env s₀ s) (hp : s.heap.PlainList a items) (k : But a s.heap h') (hb : base.get? a = none) : Fs base env s₀ { s with heap := h', toks := t } := by
  obtain ⟨oa, ka, ha, hda⟩ := plain_obj hp
  obtain ⟨⟨h, t', e⟩, k1, ⟨m, k2⟩, k3, k4⟩ := F
  refine ⟨⟨h', t, by rw [e]⟩, fun b o e => k b o (by rintro rfl; rw [hb] at e; cases e) (k1 b o e), ⟨m, k2.at' fun o e => k _ o (by rintro rfl; exact ns_noSeq k2 ha hda) e⟩, k3, fun y c l => ?_⟩
  obtain ⟨v, o, ho, hd⟩ := k4 y c l
  exact ⟨v, o, k c o (by rintro rfl; exact cell_noSeq ⟨o, ho, hd⟩ ha hda) ho, hd⟩

theorem x_append {o e : Expr} {ap cp p : Pos} {a : Addr} {items : Array Value} {rest : List Stmt} {Q : Flow → Shared → Prop} (G : (Addr → Prop) → Value → Heap → Prop)
    (ho : wpAny (MM w) A (eval o env) (fun v s₁ => v = .ref a ∧ Kp s s₁) noE s) (hpl : s.heap.PlainList a items) (hz : items.size ≤ sizeLine) (hN : N a) (hb : base.get? a = none)
    (he : ∀ s₁, Kp s s₁ → wpAny (MM w) A (eval e env) (fun y s₂ => ∃ N', (∀ b, N' b → N b ∨ s₁.heap.get? b = none) ∧ N' a ∧ (∀ b, N' b → (s₂.heap.get? b).isSome = true) ∧ G N' y s₂.heap ∧ Kp s₁ s₂) noE s₁)
    (hG : ∀ N' y h h', But a h h' → (h.get? a).isSome = true → G N' y h → N' a → G N' y h') (L : Lib w base) (F : Fs base env s₀ s) (P : At w n N env σ A s)
    (h : ∀ N' y s', Mv env N N' s s' → Fs base env s₀ s' → At w n N' env σ A s' → G N' y s'.heap → s'.heap.PlainList a (items.push y) → But a s.heap s'.heap → wpAny (MM w) A (execs rest env) Q E s')
    (hbase : attributeBase o "append" env (eval o env) = eval o env := by rfl)
    (hfew : ((backTo cp (starEach [e] env)).all (fun x => !x.1) && (backToKw cp (keywordEach [] env)).all (fun x => x.1.isSome)
      && decide (([e] : List Expr).length + ([] : List Keyword).length + (if ([] : List Keyword).isEmpty then 0 else 1) < 30)) = true := by rfl)
    (hline : (ap.endLine == cp.line) = true := by rfl) (htrees : backTo cp (starEach [e] env) = [(false, eval e env)] := by rfl)
    (hi : interactive env = false := by rfl) (hs : swapsWith (.Call (.Attribute o "append" ap) [e] [] cp) none p.line env = pure false := by rfl) :
    wpAny (MM w) A (execs (.Expr (.Call (.Attribute o "append" ap) [e] [] cp) p :: rest) env) Q E s := by
  refine wpAny_execs_cons (wpAny_Expr (wpAny_Call_append hbase hfew hline htrees (wpAny_mono ho (fun v s₁ h₁ => ?_) fun _ _ f => f.elim)) hi hs)
  obtain ⟨rfl, k₁⟩ := h₁
  have hpl₁ : s₁.heap.PlainList a items := hpl.at fun o e => k₁.keep _ o e
  obtain ⟨kk, hoa⟩ := id hpl₁
  refine ⟨a, items, rfl, ⟨_, kk, hoa, rfl, rfl, rfl⟩, wpAny_mono (he s₁ k₁) (fun y s₂ h₂ => ?_) fun _ _ f => f.elim⟩
  obtain ⟨N', hnew, hNa, hold, g, k₂⟩ := h₂
  have K := k₁.trans k₂
  have hpl₂ : s₂.heap.PlainList a items := hpl₁.at fun o e => k₂.keep _ o e
  refine wpAny_list_append_plain hpl₂ (fun h₃ hpl₃ hs₃ => ?_) hz
  have but₂ : But a s₂.heap h₃ := fun b o hb e => hs₃.extBut b o hb e
  have but : But a s.heap h₃ := fun b o hb e => but₂ b o hb (K.keep b o e)
  have F₃ : Fs base env s₀ { s₂ with heap := h₃ } := (F.kp K).but hpl₂ but₂ hb
  have sm : ∀ b, (s₂.heap.get? b).isSome = true → (h₃.get? b).isSome = true := sameBut_some hs₃ (by obtain ⟨q, e⟩ := hpl₃; rw [e]; rfl)
  have new : ∀ b, N' b → N b ∨ s.heap.get? b = none := fun b hb => (hnew b hb).imp id fun e => none_of (keep_some k₁.keep) e
  refine h N' y _ ⟨new, Grow.but but hN, fun b o _ hb e => but b o (fun q => hb (q ▸ hN)) e, fun b q => sm b (keep_some K.keep b q)⟩ F₃ ⟨⟨P.ok, F₃.lib L, fun b hb => sm b (hold b hb)⟩, ((P.holds.more new).keeps K.keep).but hpl₂ but₂ hNa⟩
    (hG _ _ _ _ but₂ (by obtain ⟨q, e⟩ := hpl₂; rw [e]; rfl) g hNa) hpl₃ but

/-- fresh lists -/
def New1 (h₀ h : Heap) (a : Addr) (v : Value) : Prop := v = .ref a ∧ h₀.get? a = none ∧ h.PlainList a #[]
theorem fresh_size {h h' : Heap} (k : ∀ b o, h.get? b = some o → h'.get? b = some o) : h.get? h'.objs.size = none := by
  cases e : h.get? h'.objs.size with
  | none => rfl
  | some o => exact absurd (Heap.lt_size (k _ _ e)) (Nat.lt_irrefl _)
theorem new1 {p : Pos} : wpAny (MM w) A (eval (.List [] p) env) (fun v s' => ∃ a, v = .ref a ∧ s.heap.get? a = none ∧ s'.heap.PlainList a #[] ∧ Kp s s') noE s :=
  wpAny_List (args_nil ⟨Nat.zero_le _, s.heap.objs.size, rfl, Heap.get?_none_of_le (Nat.le_refl _), ⟨0, Heap.get?_push_size _ rfl⟩, .push _ _⟩)
/-- a list about one value -/
theorem newL {e : Expr} {p : Pos} {R : Value → Shared → Prop} (he : wpAny (MM w) A (eval e env) R noE s) (hs : starEach [e] env = (false, eval e env) :: starEach [] env := by rfl) :
    wpAny (MM w) A (eval (.List [e] p) env) (fun v s' => ∃ u s₁, R u s₁ ∧ v = .ref s₁.heap.objs.size ∧ s' = { s₁ with heap := s₁.heap.push { cls := .type "list", data := .seq #[u] } }) noE s :=
  wpAny_List (args_cons (wp_use he fun u s₁ r => args_nil ⟨by simp [sizeLine_eq], u, s₁, r, rfl, rfl⟩) hs)
theorem new2 {p q : Pos} : wpAny (MM w) A (eval (.List [.List [] p] q) env) (fun v s' => ∃ a b, v = .ref a ∧ a ≠ b ∧ s.heap.get? a = none ∧ s.heap.get? b = none ∧ s'.heap.PlainList a #[.ref b] ∧ s'.heap.PlainList b #[] ∧ Kp s s') noE s :=
  wp_use (newL new1) fun v s' h => by
    obtain ⟨u, s₁, ⟨b, rfl, h1, h2, h3⟩, rfl, rfl⟩ := h
    have hb : b < s₁.heap.objs.size := by obtain ⟨k, e⟩ := h2; exact Heap.lt_size e
    exact ⟨_, b, rfl, Ne.symm (Nat.ne_of_lt hb), fresh_size h3.keep, h1, ⟨0, Heap.get?_push_size _ rfl⟩, h2.at fun o e => Heap.get?_push_of_some _ e, h3.trans (.push _ _)⟩
theorem new3 {p q r : Pos} : wpAny (MM w) A (eval (.List [.List [.List [] p] q] r) env) (fun v s' => ∃ a b c, v = .ref a ∧ a ≠ b ∧ a ≠ c ∧ b ≠ c ∧ s.heap.get? a = none ∧ s.heap.get? b = none ∧ s.heap.get? c = none ∧
    s'.heap.PlainList a #[.ref b] ∧ s'.heap.PlainList b #[.ref c] ∧ s'.heap.PlainList c #[] ∧ Kp s s') noE s :=
  wp_use (newL new2) fun v s' h => by
    obtain ⟨u, s₁, ⟨b, c, rfl, h0, h1, h2, h3, h4, h5⟩, rfl, rfl⟩ := h
    have hb : b < s₁.heap.objs.size := by obtain ⟨k, e⟩ := h3; exact Heap.lt_size e
    have hc : c < s₁.heap.objs.size := by obtain ⟨k, e⟩ := h4; exact Heap.lt_size e
    exact ⟨_, b, c, rfl, Ne.symm (Nat.ne_of_lt hb), Ne.symm (Nat.ne_of_lt hc), h0, fresh_size h5.keep, h1, h2, ⟨0, Heap.get?_push_size _ rfl⟩, h3.at fun o e => Heap.get?_push_of_some _ e, h4.at fun o e => Heap.get?_push_of_some _ e, h5.trans (.push _ _)⟩

/-- an assignment of a value that is known otherwise -/
theorem x_assign_new {e : Expr} {p p' : Pos} {rest : List Stmt} {Q : Flow → Shared → Prop} (G : (Addr → Prop) → Value → Heap → Prop)
    (he : wpAny (MM w) A (eval e env) (fun v s₁ => ∃ N', (∀ b, N' b → N b ∨ s.heap.get? b = none) ∧ (∀ b, N' b → (s₁.heap.get? b).isSome = true) ∧ G N' v s₁.heap ∧ Kp s s₁) noE s)
    (hG : ∀ N' v h h', Grow Nil h h' → G N' v h → G N' v h') (L : Lib w base) (F : Fs base env s₀ s) (P : At w n N env σ A s) (hk : env.scope.kind = .function) (hx : env.kindOf x = some .local)
    (h : ∀ N' v s', Mv env N N' s s' → Fs base env s₀ s' → At w n N' env ((x, .raw v) :: σ) A s' → G N' v s'.heap → wpAny (MM w) A (execs rest env) Q E s')
    (hs : swapsWith e (some (.Name x p)) p'.line env = pure false := by rfl) : wpAny (MM w) A (execs (.Assign [.Name x p] e p' :: rest) env) Q E s :=
  wpAny_execs_cons (wpAny_Assign_Name (wpAny_mono he (fun v s₁ h₁ => by
    obtain ⟨N', hnew, hold, g, k⟩ := h₁
    refine store (F.kp k) ((P.holds.more hnew).keeps k.keep) hk (.loc hx) (rep_raw (v := v)) fun s₂ N₂ => ?_
    have M : Mv env N N' s s₁ := ⟨hnew, .of k.keep, fun b o _ _ e => k.keep b o e, keep_some k.keep⟩
    exact h N' v s₂ (M.trans (Mv.of N₂)) N₂.fs (N₂.at L ⟨P.ok, P.lib.keeps k.keep, hold⟩) (hG _ _ _ _ N₂.grow g)) fun _ _ f => f.elim) hs)

/-- the last of a list -/
theorem ev_last {o i : Expr} {p : Pos} {a : Addr} {vs : List Value} {u : Value} (ho : wpAny (MM w) A (eval o env) (fun v s₁ => v = .ref a ∧ Kp s s₁) noE s) (hi : Ev w n env σ i (.int (-1))) (P : At w n N env σ A s) (hpl : s.heap.PlainList a (vs ++ [u]).toArray) (hz : vs.length + 1 ≤ sizeLine)
    (hs : ∀ o k, subscripted i false o k = operate [o, k] (getItem o k) := by intro _ _; rfl) : wpAny (MM w) A (eval (.Subscript o i p) env) (fun v s₁ => v = u ∧ Kp s s₁) noE s :=
  Subscript_ (wp_use ho fun v s₁ h₁ => by
    obtain ⟨rfl, k₁⟩ := h₁
    refine hi.use (P.kp k₁) fun v s₂ r₂ k₂ => ?_
    obtain ⟨t, rfl⟩ := inv_int r₂
    have hz' := sizeLine_eq
    have hl : s₂.heap.IsList a (vs ++ [u]).toArray := (hpl.at fun o e => (k₁.trans k₂).keep _ o e).isList
    refine tail_any hl.typeIs slot_list_getitem.lookup ?_ (hs _ _)
    exact wpAny_getItem_list_neg hl (by omega) (by simp; omega) (by omega) (by simp [show (-1 + ((vs.length : Int) + 1)).toNat = vs.length by omega]) ⟨rfl, k₁.trans k₂⟩)
end
end Mine
end

section
open PySem PySem.W PyProof.Rows PySem.Calls
namespace Mine

section
variable {w : Wo} {n : Nat} {N N' N'' : Addr → Prop} {base : Heap} {env : Env} {s₀ s s₁ s₂ s' s'' : Shared} {σ τ : Sto} {A : Around} {E : Value → Shared → Prop} {x : Str} {d : D} {v : Value}

/-! tests -/
theorem evb_and_nil {p : Pos} : EvB w n env σ (.BoolOp .And [] p) true := .mk fun N A s P => isTrue_and_nil ⟨rfl, .refl _⟩
theorem evb_and {e : Expr} {es : List Expr} {p : Pos} {a b : Bool} (x : EvB w n env σ e a) (y : a = true → EvB w n env σ (.BoolOp .And es p) b) : EvB w n env σ (.BoolOp .And (e :: es) p) (a && b) := .mk fun N A s P =>
  isTrue_and (wp_use (x.go N A s P) fun c s' q => by
    obtain ⟨rfl, k⟩ := q
    cases c with
    | false => exact ⟨rfl, k⟩
    | true =>
      show wpAny (MM w) A (isTrue (.BoolOp .And es p) env (eval (.BoolOp .And es p) env)) _ noE s'
      exact wp_use ((y rfl).go N A s' (P.kp k)) fun c s₂ q => ⟨by rw [q.1]; rfl, k.trans q.2⟩)
theorem evb_val {e : Expr} {b : Bool} (x : Ev w n env σ e (.bool b)) (he : isTrue e env (eval e env) = (do let v ← eval e env; standAt e.pos; holding [v] (truthy v)) := by rfl) : EvB w n env σ e b := .mk fun N A s P =>
  wpAny_isTrue_value (x.use P fun v s₁ r k => by
    have := inv_bool r
    subst this
    exact wpAny_truthy_bool ⟨rfl, k⟩) he
theorem evb_chain2 {l r₁ r₂ : Expr} {o₁ o₂ : CmpOp} {p : Pos} {a b c : D} {x y : Bool} (el : Ev w n env σ l a) (e₁ : Ev w n env σ r₁ b) (c₁ : Cm w n o₁ a b x) (e₂ : Ev w n env σ r₂ c) (c₂ : Cm w n o₂ b c y)
    (hm : lastMarks [o₁, o₂] [r₁, r₂] = false := by with_unfolding_all rfl) : EvB w n env σ (.Compare l [o₁, o₂] [r₁, r₂] p) (x && y) := .mk fun N A s P =>
  isTrue_chain (el.use P fun u s₁ ru k₁ => test_link (e₁.use (P.kp k₁) fun v s₂ rv k₂ =>
    wp_use (c₁ N A s₂ u v (P.kp (k₁.trans k₂)).toCx (k₂.rep ru) rv) fun z s₃ q => by
      obtain ⟨rfl, k₃⟩ := q
      refine wpAny_truthy_bool ?_
      cases x with
      | false => exact ⟨rfl, (k₁.trans k₂).trans k₃⟩
      | true =>
        have K := (k₁.trans k₂).trans k₃
        exact test_last (e₂.use (P.kp K) fun t s₄ rt k₄ => wp_use (c₂ N A s₄ v t (P.kp (K.trans k₄)).toCx ((k₃.trans k₄).rep rv) rt) fun z s₅ q => by
          obtain ⟨rfl, k₅⟩ := q
          exact wpAny_truthy_bool ⟨rfl, (K.trans k₄).trans k₅⟩))) hm
theorem cm_is_bool {a b : Bool} : Cm w n .Is (.bool a) (.bool b) (a == b) := fun N A s u v _ ru rv => by
  have := inv_bool ru; subst this
  have := inv_bool rv; subst this
  exact is_bool ⟨rfl, .refl _⟩
theorem cm_is_none_none : Cm w n .Is .none .none true := fun N A s u v _ ru rv => by
  have := inv_none ru; subst this
  have := inv_none rv; subst this
  exact is_none_none ⟨rfl, .refl _⟩
theorem cm_is_str_none {l : List Nat} : Cm w n .Is (.str l) .none false := fun N A s u v _ ru rv => by
  obtain ⟨t, rfl⟩ := inv_str ru
  have := inv_none rv; subst this
  exact is_str_none ⟨rfl, .refl _⟩
theorem cm_isnot_none_none : Cm w n .IsNot .none .none false := fun N A s u v _ ru rv => by
  have := inv_none ru; subst this
  have := inv_none rv; subst this
  exact isnot_none_none ⟨rfl, .refl _⟩
theorem cm_isnot_str_none {l : List Nat} : Cm w n .IsNot (.str l) .none true := fun N A s u v _ ru rv => by
  obtain ⟨t, rfl⟩ := inv_str ru
  have := inv_none rv; subst this
  exact isnot_str_none ⟨rfl, .refl _⟩
theorem cm_ge_int {a b : Int} : Cm w n .GtE (.int a) (.int b) (decide (a ≥ b)) := fun N A s u v _ ru rv => by
  obtain ⟨t, rfl⟩ := inv_int ru
  obtain ⟨t', rfl⟩ := inv_int rv
  exact PyProof.Rows.ge_int ⟨rfl, .refl _⟩
theorem cm_le_int {a b : Int} : Cm w n .LtE (.int a) (.int b) (decide (a ≤ b)) := fun N A s u v _ ru rv => by
  obtain ⟨t, rfl⟩ := inv_int ru
  obtain ⟨t', rfl⟩ := inv_int rv
  exact PyProof.Rows.le_int ⟨rfl, .refl _⟩

/-! sets, the dict -/
theorem cm_in_set {f : Str} {cs : List Int} {c : Int} (m : (f, cs) ∈ sTab) : Cm w n .In (.int c) (.raw (.ref (w.ad f))) (decide (c ∈ cs)) := fun N A s u v C ru rv => by
  obtain ⟨t, rfl⟩ := inv_int ru
  have := inv_raw rv; subst this
  obtain ⟨S, k, hS, hm⟩ := C.lib.sets _ m
  exact wpAny_inSet_of (intKind_is _ _ _ _) rfl hS ⟨by rw [hm], .tok _ _⟩
theorem ints_are {h : Heap} : ∀ {is : List Int} {vs : List Value}, Reps N h (is.map .int) vs → IntsAre vs is
  | [], vs, r => by rw [List.map_nil, Reps] at r; subst r; exact .nil
  | i :: is, vs, r => by
    rw [List.map_cons, Reps] at r
    obtain ⟨v, q, rfl, a, b⟩ := r
    obtain ⟨t, rfl⟩ := inv_int a
    exact .cons i t (ints_are b)
theorem cm_in_tup {is : List Int} {c : Int} : Cm w n .In (.int c) (.tup (is.map .int)) (is.any (· == c)) := fun N A s u v C ru rv => by
  obtain ⟨t, rfl⟩ := inv_int ru
  obtain ⟨a, vs, rfl, hN, ⟨o, ho, hc, k, hd⟩, rr⟩ := inv_tup rv
  exact in_tuple_ints (items := vs.toArray) ⟨o, ho, hc, k, hd⟩ (ints_are rr) ⟨rfl, .refl _⟩
/-- `b3_exceptions.get(e)` -/
def optStr : Option (List Nat) → D
  | some l => .str l
  | none => .none
theorem ev_b3get {ap p np : Pos} {e : Expr} {k : Int} (g : Ev w n env σ (.Name "b3_exceptions" np) (.raw (.ref (w.ad "b3_exceptions")))) (x : Ev w n env σ e (.int k))
    (hbase : attributeBase (.Name "b3_exceptions" np) "get" env (eval (.Name "b3_exceptions" np) env) = eval (.Name "b3_exceptions" np) env := by rfl)
    (hfew : ((backTo p (starEach [e] env)).all (fun x => !x.1) && (backToKw p (keywordEach [] env)).all (fun x => x.1.isSome)
      && decide (([e] : List Expr).length + ([] : List Keyword).length + (if ([] : List Keyword).isEmpty then 0 else 1) < 30)) = true := by rfl)
    (hline : (ap.endLine == p.line) = true := by rfl) (htrees : backTo p (starEach [e] env) = [(false, eval e env)] := by rfl) :
    Ev w n env σ (.Call (.Attribute (.Name "b3_exceptions" np) "get" ap) [e] [] p) (optStr (b3Tab.lookup k)) := .mk fun N A s P =>
  wpAny_Call_method hbase hfew hline F.plainAttrs_dict F.slot_dict_get F.type_dict_get (g.use P fun v s₁ r₁ k₁ => by
    have := inv_raw r₁; subst this
    have P₁ := P.kp k₁
    obtain ⟨hd, f, hm, _⟩ := P₁.lib.dict
    refine ⟨hm.typeIs, hm.noDict, ?_⟩
    rw [htrees]
    refine wpAny_dict_get1 (knd := intKind pw w.w) hd (x.use P₁ fun u s₂ r₂ k₂ => ?_)
    obtain ⟨t, rfl⟩ := inv_int r₂
    obtain ⟨_, f, hm, hf⟩ := (P₁.kp k₂).lib.dict
    refine ⟨k, f, intKind_is _ _ _ _, hm, ?_, (k₁.trans k₂).trans (.tok _ _)⟩
    have hf := hf k
    revert hf
    cases b3Tab.lookup k with
    | none => intro hf; rw [hf]; exact rep_none
    | some l => intro hf; obtain ⟨t, hf⟩ := hf; rw [hf]; exact rep_str)

/-! built-in calls -/
theorem cb_lower {l : List Nat} (hz : l.length ≤ 5592405) : CallB w n (.builtin "str.lower") [.str l] (.str (Txt.lower ⟨l.toArray⟩).cps.toList) := fun N A s vs C r => by
  obtain ⟨v, rfl, q⟩ := reps1 r
  obtain ⟨t, rfl⟩ := inv_str q
  exact SCL.lower (by simpa [PySem.Str.length] using hz) fun _ => ⟨rep_strS rfl, .tok _ _⟩
theorem strs_are {h : Heap} : ∀ {ls : List (List Nat)} {vs : List Value}, Reps N h (ls.map .str) vs → StrsAre vs (ls.map fun l => ⟨l.toArray⟩)
  | [], vs, r => by rw [List.map_nil, Reps] at r; subst r; exact .nil
  | i :: is, vs, r => by
    rw [List.map_cons, Reps] at r
    obtain ⟨v, q, rfl, a, b⟩ := r
    obtain ⟨t, rfl⟩ := inv_str a
    exact .cons _ t (strs_are b)
theorem glued_nil : ∀ (ls : List (List Nat)) (acc : Array Nat), ((ls.map fun l => (⟨l.toArray⟩ : Str)).foldl (fun acc p => acc ++ (⟨[].toArray⟩ : Str).cps ++ p.cps) acc).toList = acc.toList ++ ls.flatten
  | [], acc => by simp
  | l :: ls, acc => by rw [List.map_cons, List.foldl_cons, glued_nil ls]; simp
theorem join_flat (ls : List (List Nat)) : (Txt.join ⟨[].toArray⟩ (ls.map fun l => ⟨l.toArray⟩)).cps.toList = ls.flatten := by
  cases ls with
  | nil => rfl
  | cons l ls =>
    show (((ls.map fun l => (⟨l.toArray⟩ : Str)).foldl _ _) : Array Nat).toList = _
    rw [glued_nil]
    simp
theorem cb_join {ls : List (List Nat)} (hz : (ls.map (·.length)).sum ≤ 16777216) : CallB w n (.builtin "str.join") [.str [], .lst (ls.map .str)] (.str ls.flatten) := fun N A s vs C r => by
  obtain ⟨v, u, rfl, q1, q2⟩ := reps2 r
  obtain ⟨t, rfl⟩ := inv_str q1
  obtain ⟨a, us, rfl, hN, hl, rr⟩ := inv_lst q2
  refine join_list hl (by simpa using strs_are rr) ?_ fun t' k => ⟨rep_strS ?_, .tok _ _⟩
  · rw [show (ls.map fun l => (⟨l.toArray⟩ : Str)).map (·.length) = ls.map (·.length) by simp [PySem.Str.length]]
    simpa [PySem.Str.length] using hz
  · exact join_flat ls
theorem cb_sum {is : List Int} : CallB w n (.builtin "sum") [.lst (is.map .int)] (.int is.sum) := fun N A s vs C r => by
  obtain ⟨v, rfl, q⟩ := reps1 r
  obtain ⟨a, us, rfl, hN, hl, rr⟩ := inv_lst q
  have hi := ints_are rr
  obtain ⟨xs, e⟩ := hi.allInts.items
  rw [e] at hl
  refine sum_intListG C.ok.1 hl fun h' tk t' hk => ⟨?_, ⟨h', tk, rfl, hk⟩⟩
  have := hi.numsOf
  rw [show us = us.toArray.toList from rfl, e, nums_intItems] at this
  rw [preSum_eq, List.take_of_length_le (by simp), this]
  exact rep_int
theorem bi_catl {a b : List D} (hz : a.length + b.length ≤ sizeLine) : Bi w n .Add (.lst a) (.lst b) (.lst (a ++ b)) := fun N A s u v C ru rv => by
  obtain ⟨l, vs, rfl, hN, hl, r1⟩ := inv_lst ru
  obtain ⟨m, ws, rfl, hM, hm, r2⟩ := inv_lst rv
  have fr := C.free
  obtain ⟨⟨cls, dd, data, sl⟩, ho, hc, n, hd⟩ := id hl
  obtain ⟨⟨cls2, dd2, data2, sl2⟩, ho2, hc2, n2, hd2⟩ := id hm
  simp only at hc hd hc2 hd2
  subst hc hd hc2 hd2
  have e : vs.toArray ++ ws.toArray = (vs ++ ws).toArray := by simp
  refine concat_meets ⟨_, ho, rfl⟩ ⟨_, ho2, rfl⟩ noFill_list_add seq_list_add PySem.F.slot_list_add PySem.F.entry_list_add (PySem.F.args_list_add_2 _ _) (list_addW l m vs.toArray ws.toArray n n2 dd dd2 sl sl2 (by simp [r1.length, r2.length, hz])) ⟨ho, ho2, ?_⟩
  rw [e]
  exact ⟨rep_lst fr ⟨_, Heap.get?_push_size _ rfl, rfl, 0, rfl⟩ ((r1.append r2).grow (.push _)), .push _ _⟩
theorem cb_index {is : List Int} {k : Int} (hk : k ∈ is) (hlay : PyData.layable0 (.list (is.map .int)) = true) : CallB w n (.builtin "list.index") [.lst (is.map .int), .int k] (.int (is.idxOf k : Nat)) := fun N A s vs C r => by
  obtain ⟨v, u, rfl, q1, q2⟩ := reps2 r
  obtain ⟨l, us, rfl, hN, hl, rr⟩ := inv_lst q1
  obtain ⟨t, rfl⟩ := inv_int q2
  exact index_list_ints hl (ints_are rr) hlay hk ⟨rep_int, .tok _ _⟩
end
end Mine
end

section
open PySem PySem.W PyProof.Rows PySem.Calls
namespace Mine

/-! cutting at both signs -/
theorem cut_none : ∀ t : List Nat, (∀ k, ¬ (t[k]? = some 13 ∧ t[k+1]? = some 10)) → cut t = [t]
  | [], _ => rfl
  | [c], _ => rfl
  | c :: d :: r, h => by
    have h0 : ¬ (c = 13 ∧ d = 10) := fun q => h 0 (by simp [q.1, q.2])
    rw [cut, if_neg h0, cut_none (d :: r) fun k q => h (k + 1) (by simpa using q)]
theorem cut_at : ∀ (p r : List Nat), (∀ k, k < p.length → ¬ ((p ++ 13 :: 10 :: r)[k]? = some 13 ∧ (p ++ 13 :: 10 :: r)[k+1]? = some 10)) → cut (p ++ 13 :: 10 :: r) = p :: cut r
  | [], r, _ => by simp [cut]
  | d :: p, r, h => by
    have ih := cut_at p r fun k hk q => h (k + 1) (by simpa using hk) (by simpa using q)
    cases hp : p ++ 13 :: 10 :: r with
    | nil => simp at hp
    | cons e rest =>
      have h0 : ¬ (d = 13 ∧ e = 10) := fun q => h 0 (by simp) (by rw [List.cons_append, hp]; simp [q.1, q.2])
      rw [List.cons_append, hp, cut, if_neg h0, ← hp, ih]

def crlf : Str := ⟨#[13, 10]⟩
theorem at_iff (l : List Nat) (k : Nat) : StrLaws.At ⟨l.toArray⟩ crlf l.length k ↔ l[k]? = some 13 ∧ l[k+1]? = some 10 := by
  unfold StrLaws.At PySem.Builtin.Str.subAt
  rw [show crlf.length = 2 from rfl, beq_iff_eq]
  show _ ∧ (l.toArray).extract k (k + 2) = #[13, 10] ↔ _
  rw [show (l.toArray).extract k (k + 2) = (List.take 2 (l.drop k)).toArray by simp [List.extract], List.toArray_eq_iff] 
  constructor
  · rintro ⟨h1, h2⟩
    rw [List.drop_eq_getElem_cons (by omega : k < l.length), List.drop_eq_getElem_cons (by omega : k + 1 < l.length)] at h2
    have h2 : l[k] = 13 ∧ l[k + 1] = 10 := by simpa only [List.take_succ_cons, List.take_zero, List.cons.injEq, and_true] using h2
    rw [List.getElem?_eq_getElem (by omega), List.getElem?_eq_getElem (by omega), h2.1, h2.2]
    exact ⟨rfl, rfl⟩
  · rintro ⟨h1, h2⟩
    obtain ⟨q1, e1⟩ := List.getElem?_eq_some_iff.mp h1
    obtain ⟨q2, e2⟩ := List.getElem?_eq_some_iff.mp h2
    refine ⟨by omega, ?_⟩
    rw [List.drop_eq_getElem_cons q1, List.drop_eq_getElem_cons q2]
    simp [e1, e2]
theorem parts_cut (l : List Nat) : ∀ (L : List Nat) (a f : Nat), StrLaws.ChainG ⟨l.toArray⟩ crlf l.length a L f → (∀ k, f ≤ k → ¬ StrLaws.At ⟨l.toArray⟩ crlf l.length k) → a ≤ l.length →
    ((a :: L.map (· + 2)).zip (L ++ [l.length])).map (fun p => (l.drop p.1).take (p.2 - p.1)) = cut (l.drop a)
  | [], a, f, h, hn, ha => by
    have : f = a := h
    subst this
    rw [cut_none _ fun k q => ?_]
    · simp [List.take_of_length_le]
    · exact hn (f + k) (Nat.le_add_right _ _) ((at_iff l _).mpr (by simpa [Nat.add_assoc] using q))
  | c :: L, a, f, h, hn, ha => by
    obtain ⟨h1, h2, h3, h4⟩ := h
    have h2' := (at_iff l c).mp h2
    have hc : c + 1 < l.length := (List.getElem?_eq_some_iff.mp h2'.2).1
    have ih := parts_cut l L (c + 2) f h4 hn (by omega)
    have e : l.drop a = (l.drop a).take (c - a) ++ 13 :: 10 :: l.drop (c + 2) := by
      have e1 : (l.drop a).drop (c - a) = 13 :: 10 :: l.drop (c + 2) := by
        rw [List.drop_drop, show a + (c - a) = c by omega, List.drop_eq_getElem_cons (by omega : c < l.length), List.drop_eq_getElem_cons hc]
        rw [List.getElem?_eq_getElem (by omega), List.getElem?_eq_getElem hc] at h2'
        rw [Option.some.inj h2'.1, Option.some.inj h2'.2]
      rw [← e1, List.take_append_drop]
    rw [List.map_cons, List.cons_append, List.zip_cons_cons, List.map_cons, ih]
    show (l.drop a).take (c - a) :: _ = _
    have hcut := cut_at ((l.drop a).take (c - a)) (l.drop (c + 2)) fun k hk q => ?_
    · rw [← e] at hcut; exact hcut.symm
    · rw [← e] at q
      have hk' : k < c - a := by simp at hk; omega
      exact h3 (a + k) (by omega) (by omega) ((at_iff l _).mpr (by simpa [Nat.add_assoc] using q))
theorem split_cut (l : List Nat) : (Txt.split ⟨l.toArray⟩ crlf).map (·.cps.toList) = cut l := by
  obtain ⟨f, hch, hn⟩ := StrLaws.occ_tight ⟨l.toArray⟩ crlf (by decide)
  have hlen : PySem.Str.length ⟨l.toArray⟩ = l.length := by simp [PySem.Str.length]
  rw [hlen] at hch hn
  have key := parts_cut l _ 0 f hch hn (Nat.zero_le _)
  rw [List.drop_zero] at key
  rw [← key]
  unfold Txt.split
  rw [hlen]
  split
  · rename_i h
    have hk : PySem.Builtin.Str.strKind crlf = 1 := by simp [PySem.Builtin.Str.strKind, crlf]
    have hx : ¬ PySem.Builtin.Str.strKind ⟨l.toArray⟩ < 1 := by unfold PySem.Builtin.Str.strKind; split <;> (try split) <;> omega
    rw [hk] at h
    have h2 : l.length < 2 := by simpa [hx, show crlf.length = 2 from rfl] using h
    rw [key]
    match l, h2 with
    | [], _ => rfl
    | [c], _ => rfl
  · split
    · rename_i h
      have : PySem.Builtin.Str.occurrences ⟨l.toArray⟩ crlf 0 l.length (l.length + 1) = [] := List.isEmpty_iff.mp h
      rw [this]
      simp
    · unfold PySem.Builtin.Str.partsBetween
      simp only [List.map_map, hlen, show crlf.length = 2 from rfl]
      refine List.map_congr_left fun p _ => ?_
      show ((l.toArray).extract p.1 p.2).toList = _
      simp [List.extract]

section
variable {w : Wo} {n : Nat} {N : Addr → Prop} {h : Heap}
theorem strvals_rep : ∀ (l : List (Str × Tok)), Reps N h ((l.map (·.1.cps.toList)).map .str) (strValues l)
  | [] => .nil
  | p :: l => .cons (rep_strS rfl) (strvals_rep l)
theorem cb_split {l : List Nat} (hz : l.length + 2 ≤ sizeLine) : CallB w n (.builtin "str.split") [.str l, .str [13, 10]] (.lst ((cut l).map .str)) := fun N A s vs C r => by
  obtain ⟨v, z, rfl, q1, q2⟩ := reps2 r
  obtain ⟨t, rfl⟩ := inv_str q1
  obtain ⟨u, rfl⟩ := inv_str q2
  have hlen : PySem.Str.length ⟨l.toArray⟩ = l.length := by simp [PySem.Str.length]
  have fr := C.free
  have fin : ∀ (q : List (Str × Tok)) (k : Nat), q.map (·.1) = Txt.split ⟨l.toArray⟩ crlf → Rep N (s.heap.push { cls := .type "list", data := .seq (strValues q).toArray }) (.lst ((cut l).map .str)) (.ref s.heap.objs.size) ∧
      Kp s { s with heap := s.heap.push { cls := .type "list", data := .seq (strValues q).toArray }, toks := k } := fun q k e => by
    refine ⟨rep_lst fr ⟨_, Heap.get?_push_size _ rfl, rfl, 0, rfl⟩ ?_, ⟨_, _, rfl, fun b o e => Heap.get?_push_of_some _ e⟩⟩
    have e2 : cut l = q.map (·.1.cps.toList) := by rw [← split_cut, ← e, List.map_map]; rfl
    rw [e2]
    exact strvals_rep (N := N) q
  show wpAny (MM w) A (call (.builtin "str.split") [.str ⟨l.toArray⟩ t, .str crlf u]) _ _ s
  generalize hx : (⟨l.toArray⟩ : Str) = x at fin hlen
  have hn : (PySem.Builtin.Str.partsBetween x (PySem.Builtin.Str.occurrences x crlf 0 x.length (x.length + 1)) crlf.length).length ≤ sizeLine := by
    have e1 := StrLaws.occ_length_le x crlf 0 x.length (x.length + 1)
    rw [length_partsBetween]; omega
  have hy : (crlf.length == 0) = false := by decide
  cases h1 : (decide (x.length < crlf.length) || decide (PySem.Builtin.Str.strKind x < PySem.Builtin.Str.strKind crlf))
  · cases hf : (PySem.Builtin.Str.occurrences x crlf 0 x.length (x.length + 1)).isEmpty
    · refine call_meets PySem.F.slot_str_split (typeIs_str _ _ _) PySem.F.entry_str_split (PySem.F.args_str_split_2 _ _) (meets_str_split_sep x crlf t u h1 hy hf (by omega) hn) ?_
      show wants _ _ _ { s with toks := _, heap := s.heap.push { cls := .type "list", data := .seq (strsFrom s.toks (PySem.Builtin.Str.partsBetween x (PySem.Builtin.Str.occurrences x crlf 0 x.length (x.length + 1)) crlf.length)).toArray } }
      rw [strsFrom_eq]
      exact fin (numbered s.toks _) _ ((numbered_texts _ _).trans ((if_neg (ne_true_of_eq_false h1)).trans (if_neg (ne_true_of_eq_false hf))).symm)
    · exact call_meets PySem.F.slot_str_split (typeIs_str _ _ _) PySem.F.entry_str_split (PySem.F.args_str_split_2 _ _) (meets_str_split_not_found x crlf t u h1 hy hf)
        (fin [(x, t)] s.toks ((if_neg (ne_true_of_eq_false h1)).trans (if_pos hf)).symm)
  · exact call_meets PySem.F.slot_str_split (typeIs_str _ _ _) PySem.F.entry_str_split (PySem.F.args_str_split_2 _ _) (meets_str_split_cannot_occur x crlf t u h1)
      (fin [(x, t)] s.toks (if_pos h1).symm)
end
end Mine
end

section
open PySem PySem.W PyProof.Rows PySem.Calls
namespace Mine
section
variable {w : Wo} {n : Nat} {N : Addr → Prop} {A : Around} {s : Shared}

/-- what each table holds -/
def inB1 (c : Nat) : Bool := decide ((c : Int) ∈ [173, 847, 6150, 6155, 6156, 6157, 8203, 8204, 8205, 8288, 65279] ++ runOf 65024 16)
def inC6 (c : Nat) : Bool := decide ((c : Int) ∈ runOf 65529 5)
def inC7 (c : Nat) : Bool := decide ((c : Int) ∈ runOf 12272 12)
def inC8 (c : Nat) : Bool := decide ((c : Int) ∈ [832, 833, 8206, 8207] ++ runOf 8234 5 ++ runOf 8298 6)
def inC9 (c : Nat) : Bool := decide ((c : Int) ∈ 917505 :: runOf 917536 96)
def inC4 (c : Nat) : Bool := if (c : Int) < 64976 then false else if (c : Int) < 65008 then true else [65534, 65535].any (· == Builtin.bitAnd (c : Int) 65535)

theorem tab_b1 (c : Nat) : CallB w (n + 1) (.ref (w.ad "in_table_b1")) [.str [c]] (.bool (inB1 c)) := fun N A s vs C r => by
  refine call_plain_def (i := 8) (n := n) ["code"] (by decide) C r (fun _ _ _ => by obtain ⟨v, rfl, rv⟩ := reps1 r; rfl) fun A' l cd s₁ F P => ?_
  refine x_return (ev_cmp (ev_callb (ev_blt rfl rfl rfl rfl) (evs_cons (ev_name rfl rfl) evs_nil) cb_ord) (ev_glob rfl rfl rfl) (cm_in_set (.head _))) P ?_
  exact fun v s' rr k => ⟨rr, F.kp k⟩
theorem tab_c6 (c : Nat) : CallB w (n + 1) (.ref (w.ad "in_table_c6")) [.str [c]] (.bool (inC6 c)) := fun N A s vs C r => by
  refine call_plain_def (i := 14) (n := n) ["code"] (by decide) C r (fun _ _ _ => by obtain ⟨v, rfl, rv⟩ := reps1 r; rfl) fun A' l cd s₁ F P => ?_
  refine x_return (ev_cmp (ev_callb (ev_blt rfl rfl rfl rfl) (evs_cons (ev_name rfl rfl) evs_nil) cb_ord) (ev_glob rfl rfl rfl) (cm_in_set (.tail _ (.head _)))) P ?_
  exact fun v s' rr k => ⟨rr, F.kp k⟩
theorem tab_c7 (c : Nat) : CallB w (n + 1) (.ref (w.ad "in_table_c7")) [.str [c]] (.bool (inC7 c)) := fun N A s vs C r => by
  refine call_plain_def (i := 16) (n := n) ["code"] (by decide) C r (fun _ _ _ => by obtain ⟨v, rfl, rv⟩ := reps1 r; rfl) fun A' l cd s₁ F P => ?_
  refine x_return (ev_cmp (ev_callb (ev_blt rfl rfl rfl rfl) (evs_cons (ev_name rfl rfl) evs_nil) cb_ord) (ev_glob rfl rfl rfl) (cm_in_set (.tail _ (.tail _ (.head _))))) P ?_
  exact fun v s' rr k => ⟨rr, F.kp k⟩
theorem tab_c8 (c : Nat) : CallB w (n + 1) (.ref (w.ad "in_table_c8")) [.str [c]] (.bool (inC8 c)) := fun N A s vs C r => by
  refine call_plain_def (i := 18) (n := n) ["code"] (by decide) C r (fun _ _ _ => by obtain ⟨v, rfl, rv⟩ := reps1 r; rfl) fun A' l cd s₁ F P => ?_
  refine x_return (ev_cmp (ev_callb (ev_blt rfl rfl rfl rfl) (evs_cons (ev_name rfl rfl) evs_nil) cb_ord) (ev_glob rfl rfl rfl) (cm_in_set (.tail _ (.tail _ (.tail _ (.head _)))))) P ?_
  exact fun v s' rr k => ⟨rr, F.kp k⟩
theorem tab_c9 (c : Nat) : CallB w (n + 1) (.ref (w.ad "in_table_c9")) [.str [c]] (.bool (inC9 c)) := fun N A s vs C r => by
  refine call_plain_def (i := 20) (n := n) ["code"] (by decide) C r (fun _ _ _ => by obtain ⟨v, rfl, rv⟩ := reps1 r; rfl) fun A' l cd s₁ F P => ?_
  refine x_return (ev_cmp (ev_callb (ev_blt rfl rfl rfl rfl) (evs_cons (ev_name rfl rfl) evs_nil) cb_ord) (ev_glob rfl rfl rfl) (cm_in_set (.tail _ (.tail _ (.tail _ (.tail _ (.head _))))))) P ?_
  exact fun v s' rr k => ⟨rr, F.kp k⟩
theorem tab_c4 (c : Nat) : CallB w (n + 1) (.ref (w.ad "in_table_c4")) [.str [c]] (.bool (inC4 c)) := fun N A s vs C r => by
  refine call_plain_def (i := 12) (n := n) ["code"] (by decide) C r (fun _ _ _ => by obtain ⟨v, rfl, rv⟩ := reps1 r; rfl) fun A' l cd s₁ F P => ?_
  have L := C.lib
  refine x_assign (d := .int c) (ev_callb (ev_blt rfl rfl rfl rfl) (evs_cons (ev_name rfl rfl) evs_nil) cb_ord) L F P rfl (fun _ _ => .loc rfl) fun s₂ N₂ P₂ => ?_
  refine x_if (evb_cmp (ev_name rfl rfl) ev_int cm_lt_int) P₂ fun s₃ k₃ => ?_
  unfold inC4
  cases h : decide ((c : Int) < 64976) with
  | true =>
    rw [if_pos (of_decide_eq_true h)]
    refine x_return ev_bool (P₂.kp k₃) fun v s' rr k => ?_
    exact ⟨rr, (N₂.fs.kp k₃).kp k⟩
  | false =>
    rw [if_neg (of_decide_eq_false h)]
    refine wpAny_execs_nil ?_
    refine x_if (evb_cmp (ev_name rfl rfl) ev_int cm_lt_int) (P₂.kp k₃) fun s₄ k₄ => ?_
    cases h' : decide ((c : Int) < 65008) with
    | true =>
      rw [if_pos (of_decide_eq_true h')]
      refine x_return ev_bool ((P₂.kp k₃).kp k₄) fun v s' rr k => ?_
      exact ⟨rr, ((N₂.fs.kp k₃).kp k₄).kp k⟩
    | false =>
      rw [if_neg (of_decide_eq_false h')]
      refine wpAny_execs_nil ?_
      refine x_return (ev_cmp (ev_bin (ev_callb (ev_blt rfl rfl rfl rfl) (evs_cons (ev_name rfl rfl) evs_nil) cb_ord) ev_int bi_and) (ev_tuple (ds := [65534, 65535].map .int) (evs_cons ev_int (evs_cons ev_int evs_nil))) cm_in_tup) ((P₂.kp k₃).kp k₄) fun v s' rr k => ?_
      exact ⟨rr, ((N₂.fs.kp k₃).kp k₄).kp k⟩

/-- the folding of one sign -/
def fold (c : Nat) : List Nat := match b3Tab.lookup (c : Int) with
  | some l => l
  | none => (Txt.lower ⟨#[c]⟩).cps.toList
theorem map_b3 (c : Nat) : CallB w (n + 1) (.ref (w.ad "map_table_b3")) [.str [c]] (.str (fold c)) := fun N A s vs C r => by
  refine call_plain_def (i := 10) (n := n) ["code"] (by decide) C r (fun _ _ _ => by obtain ⟨v, rfl, rv⟩ := reps1 r; rfl) fun A' l cd s₁ F P => ?_
  have L := C.lib
  refine x_assign (ev_b3get (ev_glob rfl rfl rfl) (ev_callb (ev_blt rfl rfl rfl rfl) (evs_cons (ev_name rfl rfl) evs_nil) cb_ord)) L F P rfl (fun _ _ => .loc rfl) fun s₂ N₂ P₂ => ?_
  unfold fold
  cases e : b3Tab.lookup (c : Int) with
  | none =>
    rw [e] at N₂ P₂
    refine x_if (evb_cmp (b := .none) (ev_name rfl rfl) ev_none cm_isnot_none_none) P₂ fun s₃ k₃ => ?_
    refine wpAny_execs_nil ?_
    refine x_return (ev_meth0 (ev_name rfl rfl) str_kind PySem.F.plainAttrs_str PySem.F.slot_str_lower PySem.F.type_str_lower (cb_lower (by simp))) (P₂.kp k₃) fun v s' rr k => ?_
    exact ⟨rr, (N₂.fs.kp k₃).kp k⟩
  | some l' =>
    rw [e] at N₂ P₂
    refine x_if (evb_cmp (b := .none) (ev_name rfl rfl) ev_none cm_isnot_str_none) P₂ fun s₃ k₃ => ?_
    refine x_return (ev_name rfl rfl) (P₂.kp k₃) fun v s' rr k => ?_
    exact ⟨rr, (N₂.fs.kp k₃).kp k⟩
end
end Mine
end

section
open PySem PySem.W PyProof.Rows PySem.Calls
namespace Mine
section
variable {w : Wo} {n : Nat} {N : Addr → Prop} {A : Around} {s s' : Shared} {base : Heap} {env : Env} {s₀ : Shared}

theorem bindL_not {k : Str → Option NameKind} {x : Str} : ∀ (bs : List (Str × Value)) (m : Str → Option Value), x ∉ bs.map (·.1) → bindL k bs m x = m x
  | [], _, _ => rfl
  | (y, v) :: bs, m, h => by
    rw [List.map_cons, List.mem_cons, not_or] at h
    rw [bindL, bindL_not bs _ h.2]
    split
    · simp [h.1]
    · rfl
theorem bindL_at {k : Str → Option NameKind} {x : Str} {v : Value} (hk : k x = some .local) : ∀ (bs : List (Str × Value)) (m : Str → Option Value), (bs.map (·.1)).Nodup → bs.lookup x = some v → bindL k bs m x = some v
  | [], _, _, h => by cases h
  | (y, u) :: bs, m, hn, h => by
    rw [List.map_cons, List.nodup_cons] at hn
    rw [List.lookup_cons] at h
    by_cases q : x = y
    · subst q
      simp only [beq_self_eq_true] at h
      cases h
      rw [bindL, bindL_not bs _ hn.1, if_pos hk]; simp
    · rw [show (x == y) = false by simpa using q] at h
      rw [bindL]
      exact bindL_at hk bs _ hn.2 h
theorem bindC_not {k : Str → Option NameKind} {x : Str} : ∀ (bs : List (Str × Value)) (m : Str → Option Value), x ∉ bs.map (·.1) → bindC k bs m x = m x
  | [], _, _ => rfl
  | (y, v) :: bs, m, h => by
    rw [List.map_cons, List.mem_cons, not_or] at h
    rw [bindC, bindC_not bs _ h.2]
    split
    · rfl
    · simp [h.1]
theorem bindC_at {k : Str → Option NameKind} {x : Str} {v : Value} (hk : k x ≠ some .local) : ∀ (bs : List (Str × Value)) (m : Str → Option Value), (bs.map (·.1)).Nodup → bs.lookup x = some v → bindC k bs m x = some v
  | [], _, _, h => by cases h
  | (y, u) :: bs, m, hn, h => by
    rw [List.map_cons, List.nodup_cons] at hn
    rw [List.lookup_cons] at h
    by_cases q : x = y
    · subst q
      simp only [beq_self_eq_true] at h
      cases h
      rw [bindC, bindC_not bs _ hn.1, if_neg hk]; simp
    · rw [show (x == y) = false by simpa using q] at h
      rw [bindC]
      exact bindC_at hk bs _ hn.2 h

/-- a cell of the frame may be put -/
theorem Fs.put (F : Fs base env s₀ s) {x : Str} {c : Addr} (k : env.kindOf x = some .cell) (l : env.cells.lookup x = some c) (ap : env.cells.Pairwise fun x y => x.2 ≠ y.2) (hc : base.objs.size < c) : Put base env s.heap x := by
  obtain ⟨v, hv⟩ := F.cel x c l
  exact .cell c v k l (Heap.get?_none_of_le (Nat.le_of_lt hc)) hv fun y ly => name_of_addr ap (mem_of_lookup ly) (mem_of_lookup l)

/-- a def with cells is called -/
theorem call_cell_def {f : Str} {i : Nat} {vs : List Value} {ds : List D} {d : D} (ps : List Str) (m : (f, i) ∈ fTab) (C : Cx w (n + 1) N A s) (r : Reps N s.heap ds vs)
    (hbind : ∀ pm cd doc, bindArgs (docDef (dN (stm i)) (dP (stm i)) (dB (stm i)) (dS (stm i)) pm cd doc) ⟨vs, []⟩ = pure (ps.zip vs))
    (body : ∀ A' cd s₁, Fs s.heap (envOfC (dN (stm i)) (dS (stm i)) s.heap.objs.size (w.ad f) cd) s s₁ → At w n N (envOfC (dN (stm i)) (dS (stm i)) s.heap.objs.size (w.ad f) cd) (ps.zip ds) A' s₁ →
      (cellsFrom (s.heap.objs.size + 1) (dS (stm i)).names []).Pairwise (fun x y => x.2 ≠ y.2) →
      wpAny (MM w) A' (execs (dB (stm i)) (envOfC (dN (stm i)) (dS (stm i)) s.heap.objs.size (w.ad f) cd)) (fun fl s' => Rep N s'.heap d (retOf fl) ∧ Fs s.heap (envOfC (dN (stm i)) (dS (stm i)) s.heap.objs.size (w.ad f) cd) s s') noE s₁)
    (hloc : ∀ x ∈ ps, (dS (stm i)).names.lookup x = some .local ∨ ((dS (stm i)).names.lookup x = some .cell ∧ ∀ L, ((cellsFrom L (dS (stm i)).names []).lookup x).isSome = true)) (hnd : ps.Nodup := by decide +kernel)
    (hk : (dS (stm i)).kind = .function := by decide +kernel) (hco : (dS (stm i)).isCoroutine = false := by decide +kernel) (hgen : (dS (stm i)).isGenerator = false := by decide +kernel) :
    wpAny (MM w) A (call (.ref (w.ad f)) vs) (fun r s' => Rep N s'.heap d r ∧ Kp s s') noE s := by
  obtain ⟨o, pm, doc, c, h1, h2, h3⟩ := C.lib.fns _ m
  refine wpAny_call (call_cells_ret (by have := C.ok.2.1; omega) h1 h2 C.lib.nolimit h3 (hbind _ _ _) (fun x hx => (hloc _ (zip_names.1 _ (List.mem_map_of_mem hx))).imp id fun q => ⟨q.1, q.2 _⟩) (fun h₁ tk F X => ?_) hco hgen hk)
  have hL : s.heap.get? s.heap.objs.size = none := Heap.get?_none_of_le (Nat.le_refl _)
  refine wpAny_mono (body _ _ _ ⟨⟨_, _, rfl⟩, F.keep, ⟨_, F.ns⟩, hL, fun x c l => ⟨_, X.cell x c l⟩⟩ ⟨⟨C.ok.deeper, C.lib.keeps F.keep, fun b hb => keep_some F.keep b (C.old b hb)⟩, fun x d e => ?_⟩ X.apart) (fun fl s' q => ?_) fun _ _ f => f
  · obtain ⟨v, e1, r⟩ := binds_hold r e
    have hx : x ∈ ps := zip_names.1 _ (List.mem_map_of_mem (f := (·.1)) (mem_lookup e1))
    rcases hloc x hx with hl | ⟨hl, hs⟩
    · exact ⟨v, .loc _ hl F.ns (bindL_at hl _ _ (zip_names.2 hnd) e1), r.grow (.of F.keep)⟩
    · obtain ⟨c, hc⟩ := Option.isSome_iff_exists.mp (hs (s.heap.objs.size + 1))
      refine ⟨v, .cell c (.inl hl) hc ?_, r.grow (.of F.keep)⟩
      have hb := bindC_at (k := fun y => (dS (stm i)).names.lookup y) (x := x) (v := v) (by show (dS (stm i)).names.lookup x ≠ _; rw [hl]; intro q; cases q) (ps.zip vs) (fun _ => none) (zip_names.2 hnd) e1
      have hx := X.cell x c hc
      have hx : h₁.IsCell c (bindC (fun y => (dS (stm i)).names.lookup y) (ps.zip vs) (fun _ => none) x) := hx
      rw [hb] at hx
      exact hx
  · obtain ⟨h, t, e⟩ := q.2.same
    have hkk := q.2.keep
    have hr := q.1
    subst e
    cases fl <;> exact ⟨hr, ⟨h, t, rfl, hkk⟩⟩
end
end Mine
end

section
open PySem PySem.W PyProof.Rows PySem.Calls
namespace Mine
section
variable {w : Wo} {n : Nat} {N : Addr → Prop} {A : Around} {s s' : Shared} {base : Heap} {env : Env} {s₀ : Shared} {σ : Sto}

/-- what a display of constants is -/
def lit : Nat → Expr → Option D
  | 0, _ => none
  | _ + 1, .Constant (.int i) _ _ => some (.int i)
  | _ + 1, .Constant (.str x) _ _ => some (.str x.cps.toList)
  | _ + 1, .Constant (.bool b) _ _ => some (.bool b)
  | _ + 1, .Constant .none _ _ => some .none
  | k + 1, .Tuple es _ _ => match es.mapM (lit k) with
    | some ds => if ds.length ≤ 1000 then some (.tup ds) else none
    | none => none
  | k + 1, .List es _ => match es.mapM (lit k) with
    | some ds => if ds.length ≤ 1000 then some (.lst ds) else none
    | none => none
  | k + 1, .UnaryOp .USub e _ => match lit k e with
    | some (.int i) => some (.int (-i))
    | _ => none
  | _ + 1, _ => none
theorem le_line {k : Nat} (h : k ≤ 1000) : k ≤ sizeLine := by rw [sizeLine_eq]; omega
theorem star_lit {k : Nat} {e : Expr} {d : D} (h : lit k e = some d) (es : List Expr) : starEach (e :: es) env = (false, eval e env) :: starEach es env := by
  cases k with
  | zero => cases h
  | succ k => cases e <;> first | rfl | cases h
theorem ev_lit : ∀ (k : Nat) (e : Expr) (d : D), lit k e = some d → Ev w n env σ e d
  | 0, _, _, h => by cases h
  | k + 1, e, d, h => by
    have evs : ∀ (es : List Expr) (ds : List D), es.mapM (lit k) = some ds → Evs w n env σ es ds := fun es => by
      induction es with
      | nil => intro ds q; simp at q; subst q; exact evs_nil
      | cons e es ih =>
        intro ds q
        rw [List.mapM_cons] at q
        cases h1 : lit k e with
        | none => rw [h1] at q; cases q
        | some d =>
          rw [h1] at q
          cases h2 : es.mapM (lit k) with
          | none => rw [h2] at q; cases q
          | some r =>
            rw [h2] at q
            cases q
            exact evs_cons (ev_lit k e d h1) (ih r h2) (star_lit h1 es)
    unfold lit at h
    split at h
    · cases h
    · cases h; exact ev_int
    · cases h; exact ev_str rfl
    · cases h; exact ev_bool
    · cases h; exact ev_none
    · rename_i e1
      cases e1
      split at h
      · rename_i ds hd
        split at h
        · rename_i hl
          cases h; exact ev_tuple (evs _ _ hd) (le_line hl)
        · cases h
      · cases h
    · rename_i e1
      cases e1
      split at h
      · rename_i ds hd
        split at h
        · rename_i hl
          cases h; exact ev_list (evs _ _ hd) (le_line hl)
        · cases h
      · cases h
    · rename_i e1
      cases e1
      split at h
      · rename_i i hi
        cases h; exact ev_neg (ev_lit k _ _ hi)
      · cases h
    · cases h
end
end Mine
end

section
open PySem PySem.W PyProof.Rows PySem.Calls
namespace Mine
/-- the statements run to what Q says (a shell: nothing unfolds it) -/
structure Run (w : Wo) (A : Around) (env : Env) (ss : List Stmt) (Q : Flow → Shared → Prop) (s : Shared) : Prop where
  go : wpAny (MM w) A (execs ss env) Q noE s
section
variable {w : Wo} {n : Nat} {N N' N'' : Addr → Prop} {base : Heap} {env : Env} {s₀ s s₁ s₂ s' s'' : Shared} {σ τ σc : Sto} {A : Around} {x : Str} {d : D} {v : Value} {rest : List Stmt} {Q : Flow → Shared → Prop}

theorem r_nil (h : Q .next s) : Run w A env [] Q s := ⟨wpAny_execs_nil h⟩
theorem Run.mono {Q' : Flow → Shared → Prop} {ss : List Stmt} (r : Run w A env ss Q s) (h : ∀ f s, Q f s → Q' f s) : Run w A env ss Q' s := ⟨wpAny_mono r.go h fun _ _ f => f⟩
theorem r_assign {e : Expr} {p p' : Pos} (a : Ev w n env σ e d) (L : Lib w base) (F : Fs base env s₀ s) (P : At w n N env σ A s) (hk : env.scope.kind = .function)
    (pt : ∀ s', Kp s s' → Put base env s'.heap x) (h : ∀ s', Nx N base env s₀ ((x, d) :: σ) s s' → At w n N env ((x, d) :: σ) A s' → Run w A env rest Q s')
    (hs : swapsWith e (some (.Name x p)) p'.line env = pure false := by rfl) : Run w A env (.Assign [.Name x p] e p' :: rest) Q s :=
  ⟨x_assign a L F P hk pt (fun s' a b => (h s' a b).go) hs⟩
theorem r_return {e : Expr} {p : Pos} (a : Ev w n env σ e d) (P : At w n N env σ A s) (h : ∀ v s', Rep N s'.heap d v → Kp s s' → Q (.ret v) s') : Run w A env (.Return (some e) p :: rest) Q s := ⟨x_return a P h⟩
theorem r_if {t : Expr} {b : Bool} {y z : List Stmt} {p : Pos} (a : EvB w n env σ t b) (P : At w n N env σ A s)
    (h : ∀ s', Kp s s' → Run w A env (if b then y else z) (fun f s₂ => match f with | .next => Run w A env rest Q s₂ | f => Q f s₂) s') : Run w A env (.If t y z p :: rest) Q s :=
  ⟨x_if a P fun s' k => ((h s' k).mono fun f s₂ q => by cases f <;> first | exact q.go | exact q).go⟩
theorem r_assign_comp {elt tgt iter : Expr} {scope : Scope} {cl : List (Str × Addr)} {pos : Pos} {fresh : Bool} {items out : List D} {p' sp : Pos} (it : EvIt w n env σ fresh iter items) (cp : Caps env scope cl σ σc) (hlen : out.length = items.length)
    (helt : ∀ (i : Nat) (d e : D), items[i]? = some d → out[i]? = some e → ∃ τ, Tgt tgt d τ ∧ (∀ y ∈ τ.map (·.1), scope.names.lookup y = some .local) ∧ ∀ C, Ev w n (compEnvC scope cl C env) (τ ++ σc) elt e)
    (hT : ∃ d τ, Tgt tgt d τ) (L : Lib w base) (F : Fs base env s₀ s) (X : At w n N env σ A s) (hk : env.scope.kind = .function) (hx : env.kindOf x = some .local)
    (h : ∀ s', Nx N base env s₀ ((x, .lst out) :: σ) s s' → At w n N env ((x, .lst out) :: σ) A s' → Run w A env rest Q s')
    (hsw : swapsWith (.ListComp elt [⟨tgt, iter, [], 0⟩] scope pos) (some (.Name x p')) sp.line env = pure true := by rfl)
    (hs : ∀ x, foldedSetIterable iter env x = pure x := by intro _; rfl) : Run w A env (.Assign [.Name x p'] (.ListComp elt [⟨tgt, iter, [], 0⟩] scope pos) sp :: rest) Q s :=
  ⟨x_assign_comp it cp hlen helt hT L F X hk hx (fun s' a b => (h s' a b).go) hsw hs⟩
theorem r_for {fresh : Bool} {items : List D} {iter : Expr} {px pos : Pos} {body : List Stmt} (σ : Nat → Sto) (Ex : Nat → (Addr → Prop) → Heap → Prop) (it : EvIt w n env τ fresh iter items)
    (L : Lib w base) (F : Fs base env s₀ s) (P : At w n N env τ A s) (hk : env.scope.kind = .function) (hx : ∀ s', Fs base env s₀ s' → Put base env s'.heap x)
    (hEx : ∀ i N h h', Grow Nil h h' → Ex i N h → Ex i N h') (h0 : ∀ y d, (σ 0).lookup y = some d → τ.lookup y = some d) (e0 : Ex 0 N s.heap)
    (turn : ∀ i d N' s', items[i]? = some d → Mv env N N' s s' → Fs base env s₀ s' → At w n N' env ((x, d) :: σ i) A s' → Ex i N' s'.heap →
      Run w A env body (fun fl s'' => match fl with
        | .next | .cont => ∃ N'', Mv env N' N'' s' s'' ∧ Fs base env s₀ s'' ∧ At w n N'' env (σ (i + 1)) A s'' ∧ Ex (i + 1) N'' s''.heap
        | .brk => False
        | .ret v => Q (.ret v) s'') s')
    (done : ∀ N' s', Mv env N N' s s' → Fs base env s₀ s' → At w n N' env (σ items.length) A s' → Ex items.length N' s'.heap → Run w A env rest Q s')
    (hs : ∀ x, foldedSetIterable iter env x = pure x := by intro _; rfl) : Run w A env (.For (.Name x px) iter body [] pos :: rest) Q s :=
  ⟨x_for σ Ex it L F P hk hx hEx h0 e0 (fun i d N' s' a b c d e => (turn i _ N' s' a b c d e).go) (fun N' s' a b c d => (done N' s' a b c d).go) hs⟩
theorem r_unpack {e : Expr} {elts : List Expr} {k : Nat} {tp p : Pos} (nps : List (Str × Pos)) {ds : List D} (a : Ev w n env σ e (.tup ds)) (L : Lib w base) (F : Fs base env s₀ s) (P : At w n N env σ A s) (hk : env.scope.kind = .function)
    (hn : nps.length = ds.length) (hl : ∀ q ∈ nps, env.kindOf q.1 = some .local)
    (h : ∀ s', Nx N base env s₀ (((nps.map (·.1)).zip ds).reverse ++ σ) s s' → At w n N env (((nps.map (·.1)).zip ds).reverse ++ σ) A s' → Run w A env rest Q s')
    (he : (assignEach elts env) = nps.map fun q => (false, assign (.Name q.1 q.2) env) := by rfl)
    (hs : swapsWithSole [.Tuple elts k tp] e p.line env = pure false := by rfl) (hw : swappedStores [.Tuple elts k tp] e env = pure none := by rfl) :
    Run w A env (.Assign [.Tuple elts k tp] e p :: rest) Q s := ⟨x_unpack nps a L F P hk hn hl (fun s' a b => (h s' a b).go) he hs hw⟩
theorem r_unpack_swapped {e : Expr} {elts : List Expr} {k : Nat} {tp p : Pos} (ns : List Str) {ds : List D} (a : Ev w n env σ e (.tup ds)) (L : Lib w base) (F : Fs base env s₀ s) (P : At w n N env σ A s) (hk : env.scope.kind = .function)
    (hn : ns.length = ds.length) (hl : ∀ q ∈ ns, env.kindOf q = some .local)
    (h : ∀ s', Nx N base env s₀ (ns.zip ds ++ σ) s s' → At w n N env (ns.zip ds ++ σ) A s' → Run w A env rest Q s')
    (hs : swapsWithSole [.Tuple elts k tp] e p.line env = pure false := by rfl) (hw : swappedStores [.Tuple elts k tp] e env = pure (some ns) := by rfl) :
    Run w A env (.Assign [.Tuple elts k tp] e p :: rest) Q s := ⟨x_unpack_swapped ns a L F P hk hn hl (fun s' a b => (h s' a b).go) hs hw⟩
theorem r_aug_str {e : Expr} {p np : Pos} {l l' : List Nat} (hx : σ.lookup x = some (.str l)) (a : Ev w n env σ e (.str l')) (hz : l.length + l'.length ≤ sizeLine) (L : Lib w base) (F : Fs base env s₀ s) (P : At w n N env σ A s) (hk : env.scope.kind = .function)
    (hl : env.kindOf x = some .local) (h : ∀ s', Nx N base env s₀ ((x, .str (l ++ l')) :: σ) s s' → At w n N env ((x, .str (l ++ l')) :: σ) A s' → Run w A env rest Q s')
    (hn : (x == ("__classdict__" : Str)) = false := by decide) : Run w A env (.AugAssign (.Name x np) .Add e p :: rest) Q s := ⟨x_aug_str hx a hz L F P hk hl (fun s' a b => (h s' a b).go) hn⟩
theorem r_append {o e : Expr} {ap cp p : Pos} {a : Addr} {items : Array Value} (G : (Addr → Prop) → Value → Heap → Prop)
    (ho : wpAny (MM w) A (eval o env) (fun v s₁ => v = .ref a ∧ Kp s s₁) noE s) (hpl : s.heap.PlainList a items) (hz : items.size ≤ sizeLine) (hN : N a) (hb : base.get? a = none)
    (he : ∀ s₁, Kp s s₁ → wpAny (MM w) A (eval e env) (fun y s₂ => ∃ N', (∀ b, N' b → N b ∨ s₁.heap.get? b = none) ∧ N' a ∧ (∀ b, N' b → (s₂.heap.get? b).isSome = true) ∧ G N' y s₂.heap ∧ Kp s₁ s₂) noE s₁)
    (hG : ∀ N' y h h', But a h h' → (h.get? a).isSome = true → G N' y h → N' a → G N' y h') (L : Lib w base) (F : Fs base env s₀ s) (P : At w n N env σ A s)
    (h : ∀ N' y s', Mv env N N' s s' → Fs base env s₀ s' → At w n N' env σ A s' → G N' y s'.heap → s'.heap.PlainList a (items.push y) → But a s.heap s'.heap → Run w A env rest Q s')
    (hbase : attributeBase o "append" env (eval o env) = eval o env := by rfl)
    (hfew : ((backTo cp (starEach [e] env)).all (fun x => !x.1) && (backToKw cp (keywordEach [] env)).all (fun x => x.1.isSome)
      && decide (([e] : List Expr).length + ([] : List Keyword).length + (if ([] : List Keyword).isEmpty then 0 else 1) < 30)) = true := by rfl)
    (hline : (ap.endLine == cp.line) = true := by rfl) (htrees : backTo cp (starEach [e] env) = [(false, eval e env)] := by rfl)
    (hi : interactive env = false := by rfl) (hs : swapsWith (.Call (.Attribute o "append" ap) [e] [] cp) none p.line env = pure false := by rfl) :
    Run w A env (.Expr (.Call (.Attribute o "append" ap) [e] [] cp) p :: rest) Q s := ⟨x_append G ho hpl hz hN hb he hG L F P (fun N' y s' a b c d e f => (h N' y s' a b c d e f).go) hbase hfew hline htrees hi hs⟩
theorem r_assign_new {e : Expr} {p p' : Pos} (G : (Addr → Prop) → Value → Heap → Prop)
    (he : wpAny (MM w) A (eval e env) (fun v s₁ => ∃ N', (∀ b, N' b → N b ∨ s.heap.get? b = none) ∧ (∀ b, N' b → (s₁.heap.get? b).isSome = true) ∧ G N' v s₁.heap ∧ Kp s s₁) noE s)
    (hG : ∀ N' v h h', Grow Nil h h' → G N' v h → G N' v h') (L : Lib w base) (F : Fs base env s₀ s) (P : At w n N env σ A s) (hk : env.scope.kind = .function) (hx : env.kindOf x = some .local)
    (h : ∀ N' v s', Mv env N N' s s' → Fs base env s₀ s' → At w n N' env ((x, .raw v) :: σ) A s' → G N' v s'.heap → Run w A env rest Q s')
    (hs : swapsWith e (some (.Name x p)) p'.line env = pure false := by rfl) : Run w A env (.Assign [.Name x p] e p' :: rest) Q s :=
  ⟨x_assign_new G he hG L F P hk hx (fun N' v s' a b c d => (h N' v s' a b c d).go) hs⟩

theorem def_plain {f : Str} {i : Nat} {vs : List Value} {ds : List D} {d : D} (ps : List Str) (m : (f, i) ∈ fTab) (C : Cx w (n + 1) N A s) (r : Reps N s.heap ds vs)
    (hbind : ∀ pm cd doc, bindArgs (docDef (dN (stm i)) (dP (stm i)) (dB (stm i)) (dS (stm i)) pm cd doc) ⟨vs, []⟩ = pure (ps.zip vs))
    (body : ∀ A' L cd s₁, Fs s.heap (envOf (dN (stm i)) (dS (stm i)) L (w.ad f) cd) s s₁ → At w n N (envOf (dN (stm i)) (dS (stm i)) L (w.ad f) cd) (ps.zip ds) A' s₁ →
      Run w A' (envOf (dN (stm i)) (dS (stm i)) L (w.ad f) cd) (dB (stm i)) (fun fl s' => Rep N s'.heap d (retOf fl) ∧ Fs s.heap (envOf (dN (stm i)) (dS (stm i)) L (w.ad f) cd) s s') s₁)
    (hloc : ∀ x ∈ ps, (dS (stm i)).names.lookup x = some .local := by decide +kernel) (hnd : ps.Nodup := by decide +kernel)
    (hcell : ∀ x ∈ (dS (stm i)).names, x.2 ≠ .cell := by decide +kernel) (hk : (dS (stm i)).kind = .function := by decide +kernel) (hco : (dS (stm i)).isCoroutine = false := by decide +kernel) (hgen : (dS (stm i)).isGenerator = false := by decide +kernel) :
    wpAny (MM w) A (call (.ref (w.ad f)) vs) (fun r s' => Rep N s'.heap d r ∧ Kp s s') noE s := call_plain_def ps m C r hbind (fun A' L cd s₁ a b => (body A' L cd s₁ a b).go) hloc hnd hcell hk hco hgen
theorem def_cell {f : Str} {i : Nat} {vs : List Value} {ds : List D} {d : D} (ps : List Str) (m : (f, i) ∈ fTab) (C : Cx w (n + 1) N A s) (r : Reps N s.heap ds vs)
    (hbind : ∀ pm cd doc, bindArgs (docDef (dN (stm i)) (dP (stm i)) (dB (stm i)) (dS (stm i)) pm cd doc) ⟨vs, []⟩ = pure (ps.zip vs))
    (body : ∀ A' cd s₁, Fs s.heap (envOfC (dN (stm i)) (dS (stm i)) s.heap.objs.size (w.ad f) cd) s s₁ → At w n N (envOfC (dN (stm i)) (dS (stm i)) s.heap.objs.size (w.ad f) cd) (ps.zip ds) A' s₁ →
      (cellsFrom (s.heap.objs.size + 1) (dS (stm i)).names []).Pairwise (fun x y => x.2 ≠ y.2) →
      Run w A' (envOfC (dN (stm i)) (dS (stm i)) s.heap.objs.size (w.ad f) cd) (dB (stm i)) (fun fl s' => Rep N s'.heap d (retOf fl) ∧ Fs s.heap (envOfC (dN (stm i)) (dS (stm i)) s.heap.objs.size (w.ad f) cd) s s') s₁)
    (hloc : ∀ x ∈ ps, (dS (stm i)).names.lookup x = some .local ∨ ((dS (stm i)).names.lookup x = some .cell ∧ ∀ L, ((cellsFrom L (dS (stm i)).names []).lookup x).isSome = true)) (hnd : ps.Nodup := by decide +kernel)
    (hk : (dS (stm i)).kind = .function := by decide +kernel) (hco : (dS (stm i)).isCoroutine = false := by decide +kernel) (hgen : (dS (stm i)).isGenerator = false := by decide +kernel) :
    wpAny (MM w) A (call (.ref (w.ad f)) vs) (fun r s' => Rep N s'.heap d r ∧ Kp s s') noE s := call_cell_def ps m C r hbind (fun A' cd s₁ a b c => (body A' cd s₁ a b c).go) hloc hnd hk hco hgen
end
end Mine
end

section
open PySem PySem.W PyProof.Rows PySem.Calls
namespace Mine
section
variable {w : Wo} {n : Nat} {N : Addr → Prop} {A : Around} {s s' : Shared} {base : Heap} {env : Env} {s₀ : Shared} {σ : Sto}

theorem not_pylong {x y : Int} (h : y.natAbs < 2 ^ 64) : Builtin.divisionGoesByPylong x y = false := by
  unfold Builtin.divisionGoesByPylong
  have : (if y == 0 then 0 else y.natAbs.log2 / 30 + 1) ≤ 300 := by
    split
    · omega
    · rename_i q
      have h0 : y.natAbs ≠ 0 := by simpa using q
      have := (Nat.log2_lt h0).mpr h
      omega
  have h2 : ¬ (if y == 0 then 0 else y.natAbs.log2 / 30 + 1) > 300 := by omega
  simp only [h2, decide_false, Bool.false_and]
theorem bi_modn {a b : Nat} (hb : b ≠ 0) : Bi w n .Mod (.int a) (.int b) (.int ((a % b : Nat) : Int)) := by
  have := bi_mod (w := w) (n := n) (a := (a : Int)) (b := (b : Int)) (by omega)
  rwa [show ((a : Int)).fmod (b : Int) = ((a % b : Nat) : Int) by rw [Int.fmod_eq_emod_of_nonneg _ (by omega)]; rfl] at this
theorem bi_divn {a b : Nat} (hb : b ≠ 0) (h : b < 2 ^ 64) : Bi w n .FloorDiv (.int a) (.int b) (.int ((a / b : Nat) : Int)) := by
  have := bi_floordiv (w := w) (n := n) (a := (a : Int)) (b := (b : Int)) (by omega) (not_pylong (by simpa using h))
  rwa [show ((a : Int)).fdiv (b : Int) = ((a / b : Nat) : Int) by rw [Int.fdiv_eq_ediv_of_nonneg _ (by omega)]; rfl] at this
theorem bi_addn {a b : Nat} : Bi w n .Add (.int a) (.int b) (.int ((a + b : Nat) : Int)) := by
  have := bi_add (w := w) (n := n) (a := (a : Int)) (b := (b : Int))
  rwa [← Int.natCast_add] at this

def pairD (p : Nat × Nat) : D := .tup [.int (p.1 : Nat), .int (p.2 : Nat)]
def rowD (r : List (Nat × Nat)) : D := .lst (r.map pairD)
/-- the runs of each table's signs -/
def RUNS : List (List (Nat × Nat)) := [[(173, 1), (847, 1), (6150, 1), (6155, 3), (8203, 3), (8288, 1), (65024, 16), (65279, 1)], [(32, 1)], [(64976, 32)] ++ (List.range 17).map (fun plane => (65536 * plane + 65534, 2)), [(65529, 5)], [(12272, 12)], [(832, 2), (8206, 2), (8234, 5), (8298, 6)], [(917505, 1), (917536, 96)]]
def runsAt (t : Nat) : List (Nat × Nat) := RUNS.getD t []
def heldN (t v : Nat) : Nat := ((runsAt t).getD (v % (runsAt t).length) (0, 1)).1 + v / (runsAt t).length % ((runsAt t).getD (v % (runsAt t).length) (0, 1)).2
theorem runs_len {t : Nat} (h : t < 7) : 0 < (runsAt t).length ∧ (runsAt t).length ≤ 18 := by
  have : ∀ t < 7, 0 < (runsAt t).length ∧ (runsAt t).length ≤ 18 := by decide
  exact this t h
theorem runs_ok {t : Nat} (h : t < 7) : ∀ p ∈ runsAt t, 0 < p.2 ∧ p.2 ≤ 96 ∧ p.1 + p.2 ≤ 1114112 := by
  have : ∀ t < 7, ∀ p ∈ runsAt t, 0 < p.2 ∧ p.2 ≤ 96 ∧ p.1 + p.2 ≤ 1114112 := by decide
  exact this t h

theorem bind22 (v u pm cd doc : Value) : bindArgs (docDef (dN (stm 22)) (dP (stm 22)) (dB (stm 22)) (dS (stm 22)) pm cd doc) ⟨[v, u], []⟩ = pure ((["table", "v"] : List Str).zip [v, u]) := by kernel_rfl
theorem law_held {t v : Nat} (ht : t < 7) (hv : v < 2 ^ 60) : CallB w (n + 1) (.ref (w.ad "_law_held")) [.int t, .int v] (.str [heldN t v]) := fun N A s vs C r => by
  obtain ⟨v0, u0, rfl, _⟩ := reps2 r
  refine def_plain (i := 22) (n := n) ["table", "v"] (by decide) C r (fun _ _ _ => bind22 ..) fun A' l cd s₁ F P => ?_
  have L := C.lib
  have hz := sizeLine_eq
  obtain ⟨hl0, hl1⟩ := runs_len ht
  have h7 : (RUNS.map rowD).length = 7 := by decide
  have hd : (RUNS.map rowD)[t]? = some (rowD (runsAt t)) := by
    have : ∀ t < 7, (RUNS.map rowD)[t]? = some (rowD (runsAt t)) := by
      intro t ht
      have : t < RUNS.length := ht
      rw [List.getElem?_map, List.getElem?_eq_getElem this]
      simp [runsAt, List.getD, List.getElem?_eq_getElem this]
    exact this t ht
  refine r_assign (d := rowD (runsAt t)) ?ev L F P rfl (fun _ _ => .loc rfl) fun s₂ N₂ P₂ => ?_
  case ev =>
    refine ev_sub (a := .lst (RUNS.map rowD)) (b := .int t) ?_ (ev_name rfl rfl) (sb_list (by omega) (by omega) (by rw [h7, hz]; omega) (by rw [h7]; exact hd))
    refine ev_list ?_ (by rw [hz]; decide)
    refine evs_cons (ev_lit 9 _ _ (by kernel_rfl)) (evs_cons (ev_lit 9 _ _ (by kernel_rfl)) (evs_cons ?_ (evs_cons (ev_lit 9 _ _ (by kernel_rfl)) (evs_cons (ev_lit 9 _ _ (by kernel_rfl)) (evs_cons (ev_lit 9 _ _ (by kernel_rfl)) (evs_cons (ev_lit 9 _ _ (by kernel_rfl)) evs_nil))))))
    show Ev _ _ _ _ _ (.lst ([pairD (64976, 32)] ++ (List.range 17).map fun i => pairD (65536 * i + 65534, 2)))
    refine ev_bin (ev_lit 9 _ _ (by kernel_rfl)) ?_ (bi_catl (by simp; rw [hz]; omega))
    refine ev_comp (fresh := true) (items := upN 17) (σc := []) (cl := []) (it_range (k := 17) (ev_blt rfl rfl rfl rfl) ev_int (by rw [hz]; omega))
      ⟨rfl, (fun x d e => by cases e), by decide +kernel, by decide +kernel, by decide +kernel⟩ (by simp [upN]) (fun i d e h1 h2 => ?_) ⟨.int 0, _, .name⟩
    have hi : i < 17 := by have := (List.getElem?_eq_some_iff.mp h1).1; simpa [upN] using this
    have e1 : d = .int (i : Nat) := by simp [upN, hi] at h1; exact h1.symm
    have e2 : e = pairD (65536 * i + 65534, 2) := by simp [hi] at h2; exact h2.symm
    subst e1 e2
    refine ⟨_, .name, by intro y hy; simp at hy; subst hy; rfl, fun C => ?_⟩
    refine ev_tuple (evs_cons ?_ (evs_cons ev_int evs_nil)) (le_line (by simp))
    have e3 : (((65536 * i + 65534 : Nat) : Int)) = 65536 * (i : Int) + 65534 := by omega
    show Ev _ _ _ _ _ (.int ((65536 * i + 65534 : Nat) : Int))
    rw [e3]
    exact ev_bin (ev_bin ev_int (ev_name rfl rfl) (bi_mul (by mul_fits))) ev_int bi_add
  have hk0 : v % (runsAt t).length < (runsAt t).length := Nat.mod_lt _ hl0
  obtain ⟨p, hp⟩ : ∃ p, (runsAt t)[v % (runsAt t).length]? = some p := ⟨_, List.getElem?_eq_getElem hk0⟩
  have hpm : p ∈ runsAt t := List.mem_of_getElem? hp
  obtain ⟨q1, q2, q3⟩ := runs_ok ht p hpm
  have hgd : (runsAt t).getD (v % (runsAt t).length) (0, 1) = p := by rw [List.getD, hp]; rfl
  refine r_unpack [("start", _), ("count", _)] (ds := [.int (p.1 : Nat), .int (p.2 : Nat)]) ?ev2 L N₂.fs P₂ rfl rfl (by intro q hq; simp at hq; rcases hq with rfl | rfl <;> rfl) fun s₃ N₃ P₃ => ?_
  case ev2 =>
    refine ev_sub (a := rowD (runsAt t)) (b := .int ((v % (runsAt t).length : Nat) : Int)) (ev_name rfl rfl)
      (ev_bin (ev_name rfl rfl) (ev_callb (ev_blt rfl rfl rfl rfl) (evs_cons (ev_name (d := rowD (runsAt t)) rfl rfl) evs_nil) (cb_len_list (by simp; omega))) ?_) (sb_list (by omega) (by omega) (by simp; omega) ?_)
    · rw [List.length_map]; exact bi_modn (by omega)
    · rw [List.length_map]
      have : at_ ((v % (runsAt t).length : Nat) : Int) (runsAt t).length = v % (runsAt t).length := by unfold at_; rw [if_pos (by omega)]; omega
      rw [this, List.getElem?_map, hp]; rfl
  refine r_return (ev_callb (ev_blt rfl rfl rfl rfl) (evs_cons (d := .int ((heldN t v : Nat) : Int)) ?ev3 evs_nil) (cb_chr ?_)) P₃ fun v s' rr k => ⟨rr, (N₃.fs).kp k⟩
  case ev3 =>
    unfold heldN
    rw [hgd]
    refine ev_bin (ev_name rfl rfl) (ev_bin (b := .int (p.2 : Nat)) (ev_bin (ev_name rfl rfl) (ev_callb (ev_blt rfl rfl rfl rfl) (evs_cons (ev_name (d := rowD (runsAt t)) rfl rfl) evs_nil) (cb_len_list (by simp; omega))) (d := .int ((v / (runsAt t).length : Nat) : Int)) ?_) (ev_name rfl rfl) (bi_modn (by omega))) bi_addn
    rw [List.length_map]; exact bi_divn (by omega) (by omega)
  · unfold heldN
    rw [hgd]
    have := Nat.mod_lt (v / (runsAt t).length) q1
    omega
end
end Mine
end

section
open PySem PySem.W PyProof.Rows PySem.Calls
namespace Mine
section
variable {w : Wo} {n : Nat} {N : Addr → Prop} {A : Around} {s s' : Shared} {base : Heap} {env : Env} {s₀ : Shared} {σ : Sto}

theorem bi_subn {a b : Nat} (h : b ≤ a) : Bi w n .Sub (.int a) (.int b) (.int ((a - b : Nat) : Int)) := fun N A s u v _ ru rv => by
  obtain ⟨t, rfl⟩ := inv_int ru
  obtain ⟨t', rfl⟩ := inv_int rv
  have e : ((a - b : Nat) : Int) = (a : Int) - (b : Int) := by omega
  rw [e]
  exact sub_int ⟨rep_int, .tok _ _⟩

theorem cm_eq_nat {a b : Nat} : Cm w n .Eq (.int a) (.int b) (decide (a = b)) := by
  have := cm_eq_int (w := w) (n := n) (a := (a : Int)) (b := (b : Int))
  have e : ((a : Int) == (b : Int)) = decide (a = b) := by
    by_cases h : a = b
    · simp [h]
    · have : (a : Int) ≠ b := by omega
      simp [h, this]
  rwa [e] at this

def endsS : List Nat := [8232, 8233, 133, 11, 12, 28]
def besideS : List Nat := [172, 846, 6149, 6151, 6154, 6158, 8202, 8208, 8287, 8289, 64975, 65008, 65023, 65040, 65278, 65280, 65528, 12271, 12284, 831, 834, 8233, 8239, 8297, 8304, 917504, 917506, 917535, 917632, 33]
def lastN (v : Nat) : Pc := match v % 5 with
  | 0 => .last [81] [113] [113]
  | 1 => .last [7838] [223] [115, 115]
  | 2 => .last [13255] [99, 111, 46] [99, 111, 46]
  | 3 => .last [endsS.getD (v / 5 % 6) 0] [endsS.getD (v / 5 % 6) 0] [endsS.getD (v / 5 % 6) 0]
  | _ => .last [besideS.getD (v / 5 % 30) 0] [besideS.getD (v / 5 % 30) 0] [besideS.getD (v / 5 % 30) 0]
/-- the piece that the law draws -/
def pieceN (kind v : Nat) (ts : List Nat) : Pc :=
  if kind = 0 then .dot else if kind = 2 then lastN v
  else if kind = 6 then .sign (heldN (v % 7) (v / 7)) (v % 7) else .sign (heldN (ts.getD (kind - 3) 0) v) (ts.getD (kind - 3) 0)
def pcD : Pc → D
  | .dot => .tup [.tup [.str [46], .str [46], .str [46]], .int (-1)]
  | .last f0 f1 f2 => .tup [.tup [.str f0, .str f1, .str f2], .int (-1)]
  | .sign c t => .tup [.tup [.str [c], .str [c], .str [c]], .int (t : Nat)]
def tabsD (ts : List Nat) : D := .lst (ts.map fun t => .int (t : Nat))
theorem bind23 (a b c pm cd doc : Value) : bindArgs (docDef (dN (stm 23)) (dP (stm 23)) (dB (stm 23)) (dS (stm 23)) pm cd doc) ⟨[a, b, c], []⟩ = pure ((["kind", "v", "tables"] : List Str).zip [a, b, c]) := by kernel_rfl

theorem law_piece {kind v : Nat} {ts : List Nat} (hk : kind = 0 ∨ (2 ≤ kind ∧ kind ≤ 6)) (hv : v < 2 ^ 60) (hl : ts.length = 3) (hts : ∀ t ∈ ts, t < 7) :
    CallB w (n + 2) (.ref (w.ad "_law_piece")) [.int kind, .int v, tabsD ts] (pcD (pieceN kind v ts)) := fun N A s vs C r => by
  obtain ⟨v0, v1, v2, rfl, _⟩ := reps3 r
  refine def_plain (i := 23) (n := n + 1) ["kind", "v", "tables"] (by decide) C r (fun _ _ _ => bind23 ..) fun A' l cd s₁ F P => ?_
  have L := C.lib
  have hz := sizeLine_eq
  refine r_if (b := decide (kind = 0)) (evb_cmp (ev_name rfl rfl) ev_int (cm_eq_nat (b := 0))) P fun s₂ k₂ => ?_
  unfold pieceN
  by_cases h0 : kind = 0
  · rw [if_pos h0]
    simp only [h0, decide_true, if_true]
    exact r_return (ev_lit 9 _ _ (by kernel_rfl)) (P.kp k₂) fun v s' rr k => ⟨rr, (F.kp k₂).kp k⟩
  rw [if_neg h0]
  simp only [h0, decide_false, Bool.false_eq_true, if_false]
  refine r_nil ?_
  have P₂ := P.kp k₂
  have F₂ := F.kp k₂
  refine r_if (b := decide (kind = 2)) (evb_cmp (ev_name rfl rfl) ev_int (cm_eq_nat (b := 2))) P₂ fun s₃ k₃ => ?_
  by_cases h2 : kind = 2
  · rw [if_pos h2]
    simp only [h2, decide_true, if_true]
    have e6 : v / 5 % 6 < endsS.length := Nat.mod_lt _ (by decide)
    have e30 : v / 5 % 30 < besideS.length := Nat.mod_lt _ (by decide)
    have g6 : endsS[v / 5 % 6]? = some (endsS.getD (v / 5 % 6) 0) := by rw [List.getD, List.getElem?_eq_getElem e6]; rfl
    have g30 : besideS[v / 5 % 30]? = some (besideS.getD (v / 5 % 30) 0) := by rw [List.getD, List.getElem?_eq_getElem e30]; rfl
    have m6 : v / 5 % 6 < 6 := e6
    have m30 : v / 5 % 30 < 30 := e30
    refine r_assign (d := .str [endsS.getD (v / 5 % 6) 0]) (ev_sub (a := .str endsS) (ev_str (by kernel_rfl)) (ev_bin (ev_bin (ev_name rfl rfl) (ev_int (i := ((5 : Nat) : Int))) (bi_divn (by omega) (by omega))) (ev_int (i := ((6 : Nat) : Int))) (bi_modn (by omega))) (sb_str (by omega) g6)) L (F₂.kp k₃) (P₂.kp k₃) rfl (fun _ _ => .loc rfl) fun s₄ N₄ P₄ => ?_
    refine r_assign (d := .str [besideS.getD (v / 5 % 30) 0]) (ev_sub (a := .str besideS) (ev_str (by kernel_rfl)) (ev_bin (ev_bin (ev_name rfl rfl) (ev_int (i := ((5 : Nat) : Int))) (bi_divn (by omega) (by omega))) (ev_int (i := ((30 : Nat) : Int))) (bi_modn (by omega))) (sb_str (by omega) g30)) L N₄.fs P₄ rfl (fun _ _ => .loc rfl) fun s₅ N₅ P₅ => ?_
    have hk5 : v % 5 < 5 := Nat.mod_lt _ (by decide)
    refine r_return (d := pcD (lastN v)) ?ev P₅ fun v s' rr k => ⟨rr, N₅.fs.kp k⟩
    case ev =>
      have forms : ∀ q, q < 5 → v % 5 = q → ([.tup [.str [81], .str [113], .str [113]], .tup [.str [7838], .str [223], .str [115, 115]], .tup [.str [13255], .str [99, 111, 46], .str [99, 111, 46]], .tup [.str [endsS.getD (v / 5 % 6) 0], .str [endsS.getD (v / 5 % 6) 0], .str [endsS.getD (v / 5 % 6) 0]], .tup [.str [besideS.getD (v / 5 % 30) 0], .str [besideS.getD (v / 5 % 30) 0], .str [besideS.getD (v / 5 % 30) 0]]] : List D)[at_ ((v % 5 : Nat) : Int) 5]? = some (match pcD (lastN v) with | .tup (a :: _) => a | _ => .none) := by
        intro q hq e
        unfold at_ lastN
        rw [if_pos (by omega), e]
        match q, hq with
        | 0, _ => rfl
        | 1, _ => rfl
        | 2, _ => rfl
        | 3, _ => rfl
        | 4, _ => rfl
      have hf : pcD (lastN v) = .tup [(match pcD (lastN v) with | .tup (a :: _) => a | _ => .none), .int (-1)] := by
        unfold lastN
        split <;> rfl
      rw [hf]
      refine ev_tuple (evs_cons (ev_sub (b := .int ((v % 5 : Nat) : Int)) (ev_list (evs_cons (ev_lit 9 _ _ (by kernel_rfl)) (evs_cons (ev_lit 9 _ _ (by kernel_rfl)) (evs_cons (ev_lit 9 _ _ (by kernel_rfl)) (evs_cons (ev_tuple (evs_cons (ev_name rfl rfl) (evs_cons (ev_name rfl rfl) (evs_cons (ev_name rfl rfl) evs_nil))) (le_line (by simp))) (evs_cons (ev_tuple (evs_cons (ev_name rfl rfl) (evs_cons (ev_name rfl rfl) (evs_cons (ev_name rfl rfl) evs_nil))) (le_line (by simp))) evs_nil))))) (le_line (by simp)))
        (ev_bin (ev_name rfl rfl) (ev_int (i := ((5 : Nat) : Int))) (bi_modn (by omega))) (sb_list (by omega) (by omega) (le_line (by simp)) (forms _ hk5 rfl))) (evs_cons (ev_lit 9 _ _ (by kernel_rfl)) evs_nil)) (le_line (by simp))
  rw [if_neg h2]
  simp only [h2, decide_false, Bool.false_eq_true, if_false]
  refine r_nil ?_
  have P₃ := P₂.kp k₃
  have F₃ := F₂.kp k₃
  have hlen : (ts.map fun t => D.int (t : Nat)).length = 3 := by simp [hl]
  have fin : ∀ (t v' : Nat), t < 7 → v' < 2 ^ 60 → (kind = 6 → t = v % 7 ∧ v' = v / 7) → (kind ≠ 6 → ts[kind - 3]? = some t ∧ v' = v) →
      Run w A' (envOf (dN (stm 23)) (dS (stm 23)) l (w.ad "_law_piece") cd) ((dB (stm 23)).drop 2) (fun fl s' => Rep N s'.heap (pcD (.sign (heldN t v') t)) (retOf fl) ∧ Fs s.heap (envOf (dN (stm 23)) (dS (stm 23)) l (w.ad "_law_piece") cd) s s') s₃ := by
    intro t v' ht hv' c6 c3
    refine r_assign (d := .int (t : Nat)) (ev_ifexp (b := decide (kind = 6)) (evb_cmp (ev_name rfl rfl) ev_int (cm_eq_nat (b := 6))) ?e1) L F₃ P₃ rfl (fun _ _ => .loc rfl) fun s₄ N₄ P₄ => ?_
    case e1 =>
      by_cases h6 : kind = 6
      · simp only [h6, decide_true, if_true]
        rw [(c6 h6).1]
        exact ev_bin (ev_name rfl rfl) (ev_int (i := ((7 : Nat) : Int))) (bi_modn (by omega))
      · simp only [h6, decide_false, Bool.false_eq_true, if_false]
        have hj : kind - 3 < 3 := by omega
        refine ev_sub (a := tabsD ts) (b := .int ((kind - 3 : Nat) : Int)) (ev_name rfl rfl) (ev_bin (ev_name rfl rfl) (ev_int (i := ((3 : Nat) : Int))) (bi_subn (by omega))) (sb_list (by omega) (by omega) (by rw [hlen]; exact le_line (by omega)) ?_)
        unfold at_
        rw [if_pos (by omega), List.getElem?_map, Int.toNat_natCast, (c3 h6).1]; rfl
    refine r_assign (d := .str [heldN t v']) (ev_callf (f := "_law_held") (i := 22) (ev_glob rfl rfl rfl) (by decide) (evs_cons (ev_name rfl rfl) (evs_cons (ev_ifexp (d := .int (v' : Nat)) (b := decide (kind = 6)) (evb_cmp (ev_name rfl rfl) ev_int (cm_eq_nat (b := 6))) ?e2) evs_nil)) (law_held ht hv')) L N₄.fs P₄ rfl (fun _ _ => .loc rfl) fun s₅ N₅ P₅ => ?_
    case e2 =>
      by_cases h6 : kind = 6
      · simp only [h6, decide_true, if_true]
        rw [(c6 h6).2]
        exact ev_bin (ev_name rfl rfl) (ev_int (i := ((7 : Nat) : Int))) (bi_divn (by omega) (by omega))
      · simp only [h6, decide_false, Bool.false_eq_true, if_false]
        rw [(c3 h6).2]
        exact ev_name rfl rfl
    exact r_return (ev_tuple (evs_cons (ev_tuple (evs_cons (ev_name rfl rfl) (evs_cons (ev_name rfl rfl) (evs_cons (ev_name rfl rfl) evs_nil))) (le_line (by simp))) (evs_cons (ev_name rfl rfl) evs_nil)) (le_line (by simp))) P₅ fun v s' rr k => ⟨rr, N₅.fs.kp k⟩
  by_cases h6 : kind = 6
  · rw [if_pos h6]
    exact fin _ _ (Nat.mod_lt _ (by decide)) (by omega) (fun _ => ⟨rfl, rfl⟩) (fun q => absurd h6 q)
  · rw [if_neg h6]
    have hj : kind - 3 < ts.length := by omega
    have hg : ts[kind - 3]? = some (ts.getD (kind - 3) 0) := by rw [List.getD, List.getElem?_eq_getElem hj]; rfl
    exact fin _ _ (hts _ (List.mem_of_getElem? hg)) hv (fun q => absurd q h6) (fun _ => ⟨hg, rfl⟩)
end
end Mine
end

section
open PySem PySem.W PyProof.Rows PySem.Calls
namespace Mine
section
variable {w : Wo} {n : Nat} {N : Addr → Prop} {A : Around} {s s' : Shared} {base : Heap} {env : Env} {s₀ : Shared} {σ : Sto}

def rowsD (rows : List (List Nat)) : D := .lst (rows.map .str)
def mailsD (mails : List (List (List Nat))) : D := .lst (mails.map rowsD)
/-- what quotedata is held to answer -/
def Quotes (w : Wo) (n : Nat) : Prop := ∀ l : List Nat, l.length ≤ 1000000 → CallB w n (.ref (w.ad "quotedata")) [.str l] (.str (quote l))

theorem joined_flat (ends : List (List Nat)) : ∀ (rows : List (List Nat)) (k : Nat), joined ends k rows = ((List.range rows.length).map fun i => rows.getD i [] ++ endAt ends (k + i)).flatten
  | [], k => rfl
  | r :: rows, k => by
    rw [joined, joined_flat ends rows (k + 1), List.length_cons, List.range_succ_eq_map, List.map_cons, List.flatten_cons, List.map_map]
    simp only [List.getD_cons_zero, Nat.add_zero]
    congr 1
    refine congrArg List.flatten (List.map_congr_left fun i _ => ?_)
    show rows.getD i [] ++ _ = (r :: rows).getD (i + 1) [] ++ _
    rw [List.getD_cons_succ, show k + 1 + i = k + (i + 1) by omega]
theorem len_flatten {l : List Nat} : ∀ {L : List (List Nat)}, l ∈ L → l.length ≤ L.flatten.length
  | a :: L, h => by
    rw [List.flatten_cons, List.length_append]
    rcases List.mem_cons.mp h with rfl | h
    · omega
    · have := len_flatten h; omega
theorem caps_of {env : Env} {scope : Scope} {cl : List (Str × Addr)} {σ σc : Sto} (h : ∀ p ∈ σc, σ.lookup p.1 = some p.2 ∧ (env.kindOf p.1 ≠ some .local) ∧ cl.lookup p.1 = env.cells.lookup p.1 ∧ ((relabel scope env).names.lookup p.1 = some .cell ∨ (relabel scope env).names.lookup p.1 = some .free)) :
    ∀ x d, σc.lookup x = some d → σ.lookup x = some d ∧ (env.kindOf x ≠ some .local) ∧ cl.lookup x = env.cells.lookup x ∧ ((relabel scope env).names.lookup x = some .cell ∨ (relabel scope env).names.lookup x = some .free) := fun x d e => h (x, d) (mem_lookup e)
theorem cb_len_map {α : Type} (f : α → D) (l : List α) (hz : l.length ≤ sizeLine) : CallB w n (.builtin "len") [.lst (l.map f)] (.int (l.length : Nat)) := by
  have := cb_len_list (w := w) (n := n) (ds := l.map f) (by simpa using hz)
  rwa [List.length_map] at this
theorem sto_sub {σ τ : Sto} (h : ∀ p ∈ τ, σ.lookup p.1 = some p.2) : ∀ y d, τ.lookup y = some d → σ.lookup y = some d := fun y d e => h (y, d) (mem_lookup e)
theorem bind24 (a b pm cd doc : Value) : bindArgs (docDef (dN (stm 24)) (dP (stm 24)) (dB (stm 24)) (dS (stm 24)) pm cd doc) ⟨[a, b], []⟩ = pure ((["mails", "ends"] : List Str).zip [a, b]) := by kernel_rfl

theorem law_sent (hq : Quotes w n) {mails : List (List (List Nat))} {ends : List (List Nat)} (he : 0 < ends.length ∧ ends.length ≤ 3) (hm : mails.length ≤ 1000000)
    (hr : ∀ rows ∈ mails, rows.length ≤ 1000000 ∧ (joined ends 0 rows).length ≤ 1000000) (hs : (sent ends mails).length ≤ 1000000) :
    CallB w (n + 1) (.ref (w.ad "_law_sent")) [mailsD mails, rowsD ends] (.str (sent ends mails)) := fun N A s vs C r => by
  obtain ⟨v0, v1, rfl, _⟩ := reps2 r
  refine def_cell (i := 24) (n := n) ["mails", "ends"] (by decide) C r (fun _ _ _ => bind24 ..) (fun A' cd s₁ F P ap => ?_) ?_
  · have L := C.lib
    have hz := sizeLine_eq
    refine r_assign (d := .str []) (ev_str rfl) L F P rfl (fun _ _ => .loc rfl) fun s₂ N₂ P₂ => ?_
    refine r_for (items := mails.map rowsD) (fun i => [("stream", .str (sent ends (mails.take i))), ("ends", rowsD ends)]) (fun _ _ _ => True) (it_list (ev_name (d := mailsD mails) rfl rfl) (by simp; omega)) L N₂.fs P₂ rfl
      (fun s' F' => F'.put (x := "rows") rfl rfl ap (by omega)) (fun _ _ _ _ _ h => h) ?_ trivial ?_ ?_
    · exact sto_sub (by intro p hp; simp at hp; rcases hp with rfl | rfl <;> rfl)
    · intro i d N' s' hi M F' P' _
      obtain ⟨rows, hrow, rfl⟩ : ∃ rows, mails[i]? = some rows ∧ rowsD rows = d := by simpa using hi
      have him : i < mails.length := (List.getElem?_eq_some_iff.mp hrow).1
      have hmem : rows ∈ mails := List.mem_of_getElem? hrow
      obtain ⟨b1, b2⟩ := hr rows hmem
      have htake : mails.take (i + 1) = mails.take i ++ [rows] := by rw [List.take_add_one, hrow]; rfl
      have hsent : sent ends (mails.take (i + 1)) = sent ends (mails.take i) ++ (quote (joined ends 0 rows) ++ [46, 13, 10]) := by rw [htake]; simp [sent]
      have hle : (sent ends (mails.take (i + 1))).length ≤ (sent ends mails).length := by
        conv => rhs; rw [← List.take_append_drop (i + 1) mails]
        rw [show sent ends (mails.take (i + 1) ++ mails.drop (i + 1)) = sent ends (mails.take (i + 1)) ++ sent ends (mails.drop (i + 1)) by unfold sent; rw [List.flatMap_append]]
        simp
      have hlen2 : (sent ends (mails.take i)).length + (quote (joined ends 0 rows) ++ [46, 13, 10]).length ≤ 1000000 := by
        rw [← List.length_append, ← hsent]; omega
      have hql : (quote (joined ends 0 rows)).length ≤ 1000000 := by simp at hlen2; omega
      refine r_aug_str (l := sent ends (mails.take i)) (l' := quote (joined ends 0 rows) ++ [46, 13, 10]) rfl ?ev (by rw [hz]; omega) L F' P' rfl rfl fun s'' N'' P'' => ?_
      case ev =>
        refine ev_bin (ev_callf (f := "quotedata") (i := 5) (ev_glob rfl rfl rfl) (by decide) (evs_cons (d := .str (joined ends 0 rows)) ?ej evs_nil) (hq _ b2)) (ev_str (by kernel_rfl)) (bi_cat (by rw [hz]; simp at hlen2 ⊢; omega))
        have hfl := joined_flat ends rows 0
        simp only [Nat.zero_add] at hfl
        rw [hfl]
        refine ev_meth (ds := [.lst (((List.range rows.length).map fun i => rows.getD i [] ++ endAt ends i).map .str)]) (ev_str (l := []) rfl) (evs_cons ?ec evs_nil) str_kind PySem.F.plainAttrs_str PySem.F.slot_str_join PySem.F.type_str_join (cb_join ?hsum)
        case hsum =>
          have : (((List.range rows.length).map fun i => rows.getD i [] ++ endAt ends i).map (·.length)).sum = (joined ends 0 rows).length := by rw [hfl, List.length_flatten]
          rw [this]; omega
        refine ev_comp (fresh := true) (items := upN rows.length) (σc := [("rows", rowsD rows), ("ends", rowsD ends)]) (cl := [("rows", s.heap.objs.size + 1 + 1), ("ends", s.heap.objs.size + 1)]) (it_range (k := rows.length) (ev_blt rfl rfl rfl rfl) ?el (by rw [hz]; omega))
          ⟨?c1, ?c2, by decide +kernel, by decide +kernel, by decide +kernel⟩ (by simp [upN]) (fun i d e h1 h2 => ?_) ⟨.int 0, _, .name⟩
        case el =>
          exact ev_callb (ev_blt rfl rfl rfl rfl) (evs_cons (ev_name (d := rowsD rows) rfl rfl) evs_nil) (cb_len_map D.str rows (by omega))
        case c1 => rfl
        case c2 => exact caps_of (by intro p hp; simp at hp; rcases hp with rfl | rfl <;> exact ⟨rfl, (by intro q; cases q), rfl, .inl rfl⟩)
        have hj : i < rows.length := by have := (List.getElem?_eq_some_iff.mp h1).1; simpa [upN] using this
        have e1 : d = .int (i : Nat) := by simp [upN, hj] at h1; exact h1.symm
        have e2 : e = .str (rows.getD i [] ++ endAt ends i) := by simp [hj] at h2; rw [← h2]; simp [List.getD, hj]
        subst e1 e2
        have hle : (rows.getD i [] ++ endAt ends i).length ≤ (joined ends 0 rows).length := by
          rw [hfl]
          exact len_flatten (List.mem_map.mpr ⟨i, List.mem_range.mpr hj, rfl⟩)
        have hgr : (rows.map D.str)[at_ (i : Int) rows.length]? = some (.str (rows.getD i [])) := by
          unfold at_
          rw [if_pos (by omega), List.getElem?_map, Int.toNat_natCast, List.getD, List.getElem?_eq_getElem hj]; rfl
        have hke : i % ends.length < ends.length := Nat.mod_lt _ he.1
        have hge : (ends.map D.str)[at_ ((i % ends.length : Nat) : Int) ends.length]? = some (.str (endAt ends i)) := by
          unfold at_ endAt
          rw [if_pos (by omega), List.getElem?_map, Int.toNat_natCast, List.getD, List.getElem?_eq_getElem hke]; rfl
        refine ⟨_, .name, by intro y hy; simp at hy; subst hy; rfl, fun C => ?_⟩
        refine ev_bin (ev_sub (a := rowsD rows) (b := .int (i : Nat)) (ev_name rfl rfl) (ev_name rfl rfl) (sb_list (by omega) (by omega) (by simp; omega) (by rw [List.length_map]; exact hgr)))
          (ev_sub (a := rowsD ends) (b := .int ((i % ends.length : Nat) : Int)) (ev_name rfl rfl) (ev_bin (b := .int (ends.length : Nat)) (ev_name rfl rfl) ?el2 (bi_modn (by omega))) (sb_list (by omega) (by omega) (by simp; omega) (by rw [List.length_map]; exact hge))) (bi_cat (by rw [hz]; rw [List.length_append] at hle; omega))
        exact ev_callb (ev_blt rfl rfl rfl rfl) (evs_cons (ev_name (d := rowsD ends) rfl rfl) evs_nil) (cb_len_map D.str ends (by omega))
      refine r_nil ?_
      rw [← hsent] at N'' P''
      exact ⟨N', Mv.of N'', N''.fs, ⟨P''.toCx, P''.holds.sub (sto_sub (by intro p hp; simp at hp; rcases hp with rfl | rfl <;> rfl))⟩, trivial⟩
    · intro N' s' M F' P' _
      simp only [List.length_map, List.take_length] at P'
      refine r_return (ev_name rfl rfl) P' fun v s'' rr k => ⟨?_, F'.kp k⟩
      refine rr
  · intro x hx
    simp at hx
    rcases hx with rfl | rfl
    · exact .inl rfl
    · exact .inr ⟨rfl, fun _ => rfl⟩
end
end Mine
end

section
open PySem PySem.W PyProof.Rows PySem.Calls
namespace Mine

/-- a list of lists of texts that is being written: its last list is written too -/
def Sp2 (N0 : Addr → Prop) (base : Heap) (a : Addr) (acc : List (List (List Nat))) (N : Addr → Prop) (h : Heap) : Prop :=
  ¬ N0 a ∧ base.get? a = none ∧ ((acc = [] ∧ (∀ z, N z ↔ N0 z ∨ z = a) ∧ h.PlainList a #[]) ∨
  ∃ b init last vs us, acc = init ++ [last] ∧ (∀ z, N z ↔ N0 z ∨ z = a ∨ z = b) ∧ a ≠ b ∧ ¬ N0 b ∧ base.get? b = none ∧ h.PlainList a (vs ++ [Value.ref b]).toArray ∧ Reps N h (init.map rowsD) vs ∧ h.PlainList b us.toArray ∧ Reps N h (last.map .str) us)

section
variable {w : Wo} {n : Nat} {N N0 : Addr → Prop} {A : Around} {s s' : Shared} {base h h' : Heap} {env : Env} {s₀ : Shared} {σ : Sto} {a : Addr} {acc : List (List (List Nat))} {x : Str} {rest : List Stmt} {Q : Flow → Shared → Prop}

theorem plain_grow {b : Addr} {items : Array Value} (g : Grow Nil h h') (x : h.PlainList b items) : h'.PlainList b items := by
  obtain ⟨k, e⟩ := x
  exact ⟨k, g b _ _ _ (fun f => f.elim) e rfl⟩
theorem Sp2.grow (g : Grow Nil h h') (S : Sp2 N0 base a acc N h) : Sp2 N0 base a acc N h' := by
  obtain ⟨h1, h2, h3⟩ := S
  refine ⟨h1, h2, h3.imp (fun q => ⟨q.1, q.2.1, plain_grow g q.2.2⟩) fun q => ?_⟩
  obtain ⟨b, init, last, vs, us, e, hN, hab, hb0, hbb, pa, ra, pb, rb⟩ := q
  exact ⟨b, init, last, vs, us, e, hN, hab, hb0, hbb, plain_grow g pa, ra.grow (g.weak fun _ f => f.elim), plain_grow g pb, rb.grow (g.weak fun _ f => f.elim)⟩
theorem Sp2.root (S : Sp2 N0 base a acc N h) : N a := by
  obtain ⟨_, _, q | ⟨b, _, _, _, _, _, hN, _⟩⟩ := S
  · exact (q.2.1 a).mpr (.inr rfl)
  · exact (hN a).mpr (.inr (.inl rfl))
theorem Sp2.low (S : Sp2 N0 base a acc N h) {z : Addr} (q : N0 z) : N z := by
  obtain ⟨_, _, r | ⟨b, _, _, _, _, _, hN, _⟩⟩ := S
  · exact (r.2.1 z).mpr (.inl q)
  · exact (hN z).mpr (.inl q)
theorem Sp2.list (S : Sp2 N0 base a acc N h) : ∃ vs : List Value, h.PlainList a vs.toArray ∧ Reps (fun z => N0 z) h (acc.dropLast.map rowsD) vs.dropLast ∧ vs.length = acc.length := by
  obtain ⟨_, _, q | ⟨b, init, last, vs, us, rfl, hN, hab, hb0, hbb, pa, ra, pb, rb⟩⟩ := S
  · exact ⟨[], q.2.2, by rw [q.1]; exact .nil, by rw [q.1]; rfl⟩
  · exact ⟨vs ++ [.ref b], pa, by simpa using ra.more fun z hz => .inl ((hN z).mpr (.inl hz)), by simp [ra.length]⟩

/-- `x.append([])` -/
theorem sp2_new {op ap cp p lp : Pos} (S : Sp2 N0 base a acc N s.heap) (hx : σ.lookup x = some (.raw (.ref a))) (hz : acc.length ≤ 1000000) (hk : env.scope.kind = .function) (L : Lib w base) (F : Fs base env s₀ s) (P : At w n N env σ A s)
    (h : ∀ N' s', Mv env N N' s s' → Fs base env s₀ s' → At w n N' env σ A s' → Sp2 N0 base a (acc ++ [[]]) N' s'.heap → Run w A env rest Q s')
    (hbase : attributeBase (.Name x op) "append" env (eval (.Name x op) env) = eval (.Name x op) env := by rfl)
    (hfew : ((backTo cp (starEach [.List [] lp] env)).all (fun x => !x.1) && (backToKw cp (keywordEach [] env)).all (fun x => x.1.isSome)
      && decide (([.List [] lp] : List Expr).length + ([] : List Keyword).length + (if ([] : List Keyword).isEmpty then 0 else 1) < 30)) = true := by rfl)
    (hline : (ap.endLine == cp.line) = true := by rfl) (htrees : backTo cp (starEach [.List [] lp] env) = [(false, eval (.List [] lp) env)] := by rfl)
    (hi : interactive env = false := by rfl) (hs : swapsWith (.Call (.Attribute (.Name x op) "append" ap) [.List [] lp] [] cp) none p.line env = pure false := by rfl)
    (hd : (x == ("__debug__" : Str)) = false := by decide) (hn : (x == ("__classdict__" : Str)) = false := by decide) :
    Run w A env (.Expr (.Call (.Attribute (.Name x op) "append" ap) [.List [] lp] [] cp) p :: rest) Q s := by
  obtain ⟨ws, pw, _, hlen⟩ := S.list
  have hsz := sizeLine_eq
  refine r_append (fun N' y h => ∃ b', y = .ref b' ∧ b' ≠ a ∧ s.heap.get? b' = none ∧ (∀ z, N' z ↔ N0 z ∨ z = a ∨ z = b') ∧ h.PlainList b' #[]) ((ev_name (d := .raw (.ref a)) hk hx hd hn).use P fun v s₁ r k => ⟨inv_raw r, k⟩) pw (by simp; omega) S.root S.2.1 (fun s₁ k₁ => ?_) ?_ L F P (fun N' y s' M F' P' g pa but => ?_) hbase hfew hline htrees hi hs
  · refine wp_use new1 fun y s₂ q => ?_
    obtain ⟨b', rfl, h1, h2, k₂⟩ := q
    have hba : b' ≠ a := by
      rintro rfl
      have := keep_some k₁.keep b' (P.old _ S.root)
      rw [h1] at this; cases this
    refine ⟨fun z => N0 z ∨ z = a ∨ z = b', fun z q => ?_, .inr (.inl rfl), fun z q => ?_, ⟨b', rfl, hba, none_of (keep_some k₁.keep) h1, fun z => Iff.rfl, h2⟩, k₂⟩
    · rcases q with q | rfl | rfl
      · exact .inl (S.low q)
      · exact .inl S.root
      · exact .inr h1
    · have kk := (k₁.trans k₂).keep
      rcases q with q | rfl | rfl
      · exact keep_some kk z (P.old z (S.low q))
      · exact keep_some kk z (P.old z S.root)
      · obtain ⟨k, e⟩ := h2; rw [e]; rfl
  · rintro N' y h h' but _ ⟨b', e1, e2, e3, e4, k, e5⟩ _
    exact ⟨b', e1, e2, e3, e4, k, but b' _ e2 e5⟩
  · obtain ⟨b', rfl, hba, hb', hN', pb'⟩ := g
    refine h N' s' M F' P' ⟨S.1, S.2.1, .inr ⟨b', acc, [], ws, [], rfl, hN', Ne.symm hba, fun q => ?_, ?_, by simpa using pa, ?_, pb', .nil⟩⟩
    · have := P.old b' (S.low q); rw [hb'] at this; cases this
    · cases e : base.get? b' with
      | none => rfl
      | some o => rw [F.keep b' o e] at hb'; cases hb'
    · obtain ⟨_, _, q | ⟨b, init, last, vs, us, rfl, hN, hab, hb0, hbb, pa0, ra, pb, rb⟩⟩ := S
      · rw [q.1] at hlen ⊢
        rw [List.eq_nil_of_length_eq_zero hlen]; exact .nil
      · have hw : ws = vs ++ [.ref b] := by
          obtain ⟨k1, e1⟩ := pw
          obtain ⟨k2, e2⟩ := pa0
          rw [e1] at e2
          have := congrArg (fun o : Option Obj => o.map fun o => match o.data with | .seq xs _ => xs | _ => #[]) e2
          simpa using this
        subst hw
        have hnew : ∀ z, N' z → N z ∨ s.heap.get? z = none := fun z q => by
          rcases (hN' z).mp q with q | rfl | rfl
          · exact .inl ((hN z).mpr (.inl q))
          · exact .inl ((hN z).mpr (.inr (.inl rfl)))
          · exact .inr hb'
        have hg : Grow N' s.heap s'.heap := Grow.but but ((hN' a).mpr (.inr (.inl rfl)))
        rw [List.map_append]
        refine Reps.append ((ra.more hnew).grow hg) (.cons ?_ .nil)
        refine rep_lst (fun q => ?_) ((pb.at fun o e => but b o (Ne.symm hab) e).isList) ((rb.more hnew).grow hg)
        rcases (hN' b).mp q with q | q | q
        · exact hb0 q
        · exact hab q.symm
        · subst q
          obtain ⟨k, e⟩ := pb
          rw [hb'] at e; cases e
end
end Mine
end

section
open PySem PySem.W PyProof.Rows PySem.Calls
namespace Mine
section
variable {w : Wo} {n : Nat} {N N0 : Addr → Prop} {A : Around} {s s' : Shared} {base h h' : Heap} {env : Env} {s₀ : Shared} {σ : Sto} {a : Addr} {acc : List (List (List Nat))} {x : Str} {rest : List Stmt} {Q : Flow → Shared → Prop}

/-- `x[-1].append(e)` -/
theorem sp2_row {op ap cp p up qp xp : Pos} {k : Nat} {e : Expr} {l : List Nat} (S : Sp2 N0 base a acc N s.heap) (hne : acc ≠ []) (hx : σ.lookup x = some (.raw (.ref a))) (he : Ev w n env σ e (.str l)) (hz : acc.length ≤ 1000000) (hz2 : (acc.getLast?.getD []).length ≤ 1000000) (hk : env.scope.kind = .function) (L : Lib w base) (F : Fs base env s₀ s) (P : At w n N env σ A s)
    (h : ∀ s', Mv env N N s s' → Fs base env s₀ s' → At w n N env σ A s' → Sp2 N0 base a (pushE acc (some l)) N s'.heap → Run w A env rest Q s')
    (hbase : attributeBase (.Subscript (.Name x op) (.UnaryOp .USub (.Constant (.int 1) k up) qp) xp) "append" env (eval (.Subscript (.Name x op) (.UnaryOp .USub (.Constant (.int 1) k up) qp) xp) env) = eval (.Subscript (.Name x op) (.UnaryOp .USub (.Constant (.int 1) k up) qp) xp) env := by rfl)
    (hfew : ((backTo cp (starEach [e] env)).all (fun x => !x.1) && (backToKw cp (keywordEach [] env)).all (fun x => x.1.isSome)
      && decide (([e] : List Expr).length + ([] : List Keyword).length + (if ([] : List Keyword).isEmpty then 0 else 1) < 30)) = true := by rfl)
    (hline : (ap.endLine == cp.line) = true := by rfl) (htrees : backTo cp (starEach [e] env) = [(false, eval e env)] := by rfl)
    (hi : interactive env = false := by rfl) (hs : swapsWith (.Call (.Attribute (.Subscript (.Name x op) (.UnaryOp .USub (.Constant (.int 1) k up) qp) xp) "append" ap) [e] [] cp) none p.line env = pure false := by rfl)
    (hd : (x == ("__debug__" : Str)) = false := by decide) (hn : (x == ("__classdict__" : Str)) = false := by decide) :
    Run w A env (.Expr (.Call (.Attribute (.Subscript (.Name x op) (.UnaryOp .USub (.Constant (.int 1) k up) qp) xp) "append" ap) [e] [] cp) p :: rest) Q s := by
  have hsz := sizeLine_eq
  obtain ⟨h1, h2, q | ⟨b, init, last, vs, us, rfl, hN, hab, hb0, hbb, pa, ra, pb, rb⟩⟩ := S
  · exact absurd q.1 hne
  have hl1 : vs.length = init.length := by simpa using ra.length
  have hl2 : us.length = last.length := by simpa using rb.length
  have hz : init.length + 1 ≤ 1000000 := by simpa using hz
  have hz2 : last.length ≤ 1000000 := by simpa using hz2
  have hb : N b := (hN b).mpr (.inr (.inr rfl))
  have ho : wpAny (MM w) A (eval (.Subscript (.Name x op) (.UnaryOp .USub (.Constant (.int 1) k up) qp) xp) env) (fun v s₁ => v = .ref b ∧ Kp s s₁) noE s :=
    ev_last ((ev_name (d := .raw (.ref a)) hk hx hd hn).use P fun v s₁ r k => ⟨inv_raw r, k⟩) (ev_neg ev_int) P pa (by omega)
  refine r_append (fun N' y h => N' = N ∧ ∃ t, y = .str ⟨l.toArray⟩ t) ho pb (by simp; omega) hb hbb (fun s₁ k₁ => he.use (P.kp k₁) fun y s₂ r k₂ => ⟨N, fun z q => .inl q, hb, fun z q => keep_some (k₁.trans k₂).keep z (P.old z q), ⟨rfl, inv_str r⟩, k₂⟩) (fun _ _ _ _ _ _ g _ => g) L F P
    (fun N' y s' M F' P' g pb' but => ?_) hbase hfew hline htrees hi hs
  obtain ⟨rfl, t, rfl⟩ := g
  have hg : Grow N' s.heap s'.heap := Grow.but but hb
  refine h s' M F' P' ⟨h1, h2, .inr ⟨b, init, last ++ [l], vs, us ++ [.str ⟨l.toArray⟩ t], by simp [pushE], hN, hab, hb0, hbb, pa.at fun o e => but a o hab e, ra.grow hg, by simpa using pb', ?_⟩⟩
  rw [List.map_append]
  exact (rb.grow hg).append (.cons rep_str .nil)

/-- frozen -/
theorem Sp2.rep (S : Sp2 N0 base a acc N h) : Rep N0 h (mailsD acc) (.ref a) := by
  obtain ⟨h1, h2, q | ⟨b, init, last, vs, us, rfl, hN, hab, hb0, hbb, pa, ra, pb, rb⟩⟩ := S
  · rw [q.1]
    exact rep_lst (vs := []) h1 q.2.2.isList .nil
  · have low : ∀ z, N0 z → N z := fun z q => (hN z).mpr (.inl q)
    refine rep_lst h1 pa.isList ?_
    show Reps N0 h ((init ++ [last]).map rowsD) _
    rw [List.map_append]
    exact (ra.more fun z q => .inl (low z q)).append (.cons (rep_lst hb0 pb.isList (rb.more fun z q => .inl (low z q))) .nil)
/-- the frame without the places that were avoided meanwhile -/
theorem At.freeze (P : At w n N env σ A s) (q : ∀ z, N0 z → N z) : At w n N0 env σ A s := ⟨⟨P.ok, P.lib, fun z h => P.old z (q z h)⟩, P.holds.more fun z h => .inl (q z h)⟩

/-- `x = [[]]` -/
theorem sp2_start2 {p p' q r : Pos} (L : Lib w base) (F : Fs base env s₀ s) (P : At w n N0 env σ A s) (hk : env.scope.kind = .function) (hx : env.kindOf x = some .local)
    (h : ∀ N' a s', Mv env N0 N' s s' → Fs base env s₀ s' → At w n N' env ((x, .raw (.ref a)) :: σ) A s' → Sp2 N0 base a [[]] N' s'.heap → Run w A env rest Q s')
    (hs : swapsWith (.List [.List [] q] r) (some (.Name x p)) p'.line env = pure false := by rfl) : Run w A env (.Assign [.Name x p] (.List [.List [] q] r) p' :: rest) Q s := by
  have fr : ∀ {z}, s.heap.get? z = none → base.get? z = none := fun {z} e => by
    cases q : base.get? z with
    | none => rfl
    | some o => rw [F.keep z o q] at e; cases e
  have nn : ∀ {z}, s.heap.get? z = none → ¬ N0 z := fun {z} e q => by have := P.old z q; rw [e] at this; cases this
  refine r_assign_new (fun N' v h => ∃ a, v = .ref a ∧ Sp2 N0 base a [[]] N' h) ?_ (fun N' v h h' g ⟨a, e, S⟩ => ⟨a, e, S.grow g⟩) L F P hk hx (fun N' v s' M F' P' ⟨a, e, S⟩ => by subst e; exact h N' a s' M F' P' S) hs
  refine wp_use new2 fun v s₁ q => ?_
  obtain ⟨a, b, rfl, hab, h1, h2, pa, pb, k⟩ := q
  refine ⟨fun z => N0 z ∨ z = a ∨ z = b, ?_, ?_, ⟨a, rfl, nn h1, fr h1, .inr ⟨b, [], [], [], [], rfl, fun _ => Iff.rfl, hab, nn h2, fr h2, pa, .nil, pb, .nil⟩⟩, k⟩
  · rintro z (q | rfl | rfl)
    · exact .inl q
    · exact .inr h1
    · exact .inr h2
  · rintro z (q | rfl | rfl)
    · exact keep_some k.keep z (P.old z q)
    · obtain ⟨i, e⟩ := pa; rw [e]; rfl
    · obtain ⟨i, e⟩ := pb; rw [e]; rfl
/-- `x = []` -/
theorem sp2_start1 {p p' q : Pos} (L : Lib w base) (F : Fs base env s₀ s) (P : At w n N0 env σ A s) (hk : env.scope.kind = .function) (hx : env.kindOf x = some .local)
    (h : ∀ N' a s', Mv env N0 N' s s' → Fs base env s₀ s' → At w n N' env ((x, .raw (.ref a)) :: σ) A s' → Sp2 N0 base a [] N' s'.heap → Run w A env rest Q s')
    (hs : swapsWith (.List [] q) (some (.Name x p)) p'.line env = pure false := by rfl) : Run w A env (.Assign [.Name x p] (.List [] q) p' :: rest) Q s := by
  have fr : ∀ {z}, s.heap.get? z = none → base.get? z = none := fun {z} e => by
    cases q : base.get? z with
    | none => rfl
    | some o => rw [F.keep z o q] at e; cases e
  have nn : ∀ {z}, s.heap.get? z = none → ¬ N0 z := fun {z} e q => by have := P.old z q; rw [e] at this; cases this
  refine r_assign_new (fun N' v h => ∃ a, v = .ref a ∧ Sp2 N0 base a [] N' h) ?_ (fun N' v h h' g ⟨a, e, S⟩ => ⟨a, e, S.grow g⟩) L F P hk hx (fun N' v s' M F' P' ⟨a, e, S⟩ => by subst e; exact h N' a s' M F' P' S) hs
  refine wp_use new1 fun v s₁ q => ?_
  obtain ⟨a, rfl, h1, pa, k⟩ := q
  refine ⟨fun z => N0 z ∨ z = a, ?_, ?_, ⟨a, rfl, nn h1, fr h1, .inl ⟨rfl, fun _ => Iff.rfl, pa⟩⟩, k⟩
  · rintro z (q | rfl)
    · exact .inl q
    · exact .inr h1
  · rintro z (q | rfl)
    · exact keep_some k.keep z (P.old z q)
    · obtain ⟨i, e⟩ := pa; rw [e]; rfl
end
end Mine
end

section
open PySem PySem.W PyProof.Rows PySem.Calls
namespace Mine
section
variable {w : Wo} {n : Nat} {N N0 : Addr → Prop} {A : Around} {s s' : Shared} {base h h' : Heap} {env : Env} {s₀ : Shared} {σ : Sto} {a : Addr} {acc : List (List (List Nat))} {x : Str} {rest : List Stmt} {Q : Flow → Shared → Prop}

/-- all but the last of a list that no name holds -/
theorem ev_butLast' {e u : Expr} {p q : Pos} {ds : List D} (x : Ev w n env σ e (.lst ds)) (y : Ev w n env σ u (.int (-1))) (hz : ds.length ≤ sizeLine)
    (hs : ∀ o i, subscripted (.Slice none (some u) none q) false o i = operate [i, o] (getItem o i) := by intro _ _; rfl) :
    Ev w n env σ (.Subscript e (.Slice none (some u) none q) p) (.lst ds.dropLast) := .mk fun N A s P =>
  Subscript_ (x.use P fun o s₁ r₁ k₁ => wpAny_Slice (wpAny_pure (y.use (P.kp k₁) fun vu s₂ r₂ k₂ => by
    rw [evalPart_none]
    refine wpAny_pure ?_
    obtain ⟨a, vs, rfl, hN, hl, r⟩ := inv_lst (k₂.rep r₁)
    obtain ⟨t, rfl⟩ := inv_int r₂
    refine tail_any (T := "list") (hl.push _).typeIs list_getitem_lookup ?_ (hs _ _)
    refine wpAny_getItem_list_slice (lo := none) (hi := some (-(1 : Nat))) (hl.push _) (Heap.IsSliceOf.new ..) .none (.int _ _) .none (by simp) ?_ (by simp [r.length, hz])
    rw [Heap.size_push, slicePick_butLast _ 1 (Nat.le_refl 1), List.dropLast_eq_take]
    refine ⟨rep_lst (fun z => by have := (P.kp (k₁.trans k₂)).old _ z; rw [Heap.get?_none_of_le (Nat.le_succ _)] at this; cases this) ⟨_, by rw [← Heap.size_push]; exact Heap.get?_push_size _ rfl, rfl, 0, rfl⟩ ?_, (k₁.trans k₂).trans ?_⟩
    · have := (r.take (ds.length - 1)).grow (h' := (s₂.heap.push { cls := .type "slice", data := .fields #[.none, .int (-1) t, .none] }).push { cls := .type "list", data := .seq (List.take (vs.length - 1) vs).toArray }) (.of fun b o e => Heap.get?_push_of_some _ (Heap.get?_push_of_some _ e))
      simpa [r.length] using this
    · exact ⟨_, _, rfl, fun b o e => Heap.get?_push_of_some _ (Heap.get?_push_of_some _ e)⟩)))

def tabName (t : Nat) : Str := (["in_table_b1", "in_table_c11", "in_table_c4", "in_table_c6", "in_table_c7", "in_table_c8", "in_table_c9"] : List Str).getD t ""
/-- what the tables hold -/
def inT (t c : Nat) : Bool := match t with
  | 0 => inB1 c
  | 1 => c == 32
  | 2 => inC4 c
  | 3 => inC6 c
  | 4 => inC7 c
  | 5 => inC8 c
  | _ => inC9 c
theorem tab_any {t c : Nat} (ht : t < 7) : CallB w (n + 1) (.ref (w.ad (tabName t))) [.str [c]] (.bool (inT t c)) ∧ ∃ i, (tabName t, i) ∈ fTab := by
  match t, ht with
  | 0, _ => exact ⟨tab_b1 c, 8, by decide⟩
  | 1, _ =>
    have := table_c11 (w := w) (n := n) [c]
    refine ⟨?_, 11, by decide⟩
    rwa [show ([c] == [32]) = (c == 32) by simp] at this
  | 2, _ => exact ⟨tab_c4 c, 12, by decide⟩
  | 3, _ => exact ⟨tab_c6 c, 14, by decide⟩
  | 4, _ => exact ⟨tab_c7 c, 16, by decide⟩
  | 5, _ => exact ⟨tab_c8 c, 18, by decide⟩
  | 6, _ => exact ⟨tab_c9 c, 20, by decide⟩
theorem holds_at {t : Nat} (ht : t < 7) : ([.raw (.ref (w.ad "in_table_b1")), .raw (.ref (w.ad "in_table_c11")), .raw (.ref (w.ad "in_table_c4")), .raw (.ref (w.ad "in_table_c6")), .raw (.ref (w.ad "in_table_c7")), .raw (.ref (w.ad "in_table_c8")), .raw (.ref (w.ad "in_table_c9"))] : List D)[t]? = some (.raw (.ref (w.ad (tabName t)))) := by
  match t, ht with
  | 0, _ => rfl
  | 1, _ => rfl
  | 2, _ => rfl
  | 3, _ => rfl
  | 4, _ => rfl
  | 5, _ => rfl
  | 6, _ => rfl
theorem map_dropLast {α β : Type} (f : α → β) (l : List α) : (l.map f).dropLast = l.dropLast.map f := by
  rw [List.dropLast_eq_take, List.dropLast_eq_take, List.map_take, List.length_map]
theorem cut_len : ∀ l : List Nat, (cut l).length ≤ l.length + 1
  | [] => by simp [cut]
  | [c] => by simp [cut]
  | c :: d :: r => by
    rw [cut]
    split
    · have := cut_len r; simp; omega
    · have ih := cut_len (d :: r)
      split
      · simp
      · rename_i h t e
        rw [e] at ih
        simp at ih ⊢; omega
theorem cut_mem : ∀ (l x : List Nat), x ∈ cut l → x.length ≤ l.length
  | [], x, h => by simp [cut] at h; simp [h]
  | [c], x, h => by simp [cut] at h; simp [h]
  | c :: d :: r, x, h => by
    rw [cut] at h
    split at h
    · rcases List.mem_cons.mp h with rfl | h
      · simp
      · have := cut_mem r x h; simp; omega
    · have ih := cut_mem (d :: r)
      split at h
      · simp at h; simp [h]
      · rename_i y t e
        rw [e] at ih
        rcases List.mem_cons.mp h with rfl | h
        · have := ih y (List.mem_cons_self ..); simp at this ⊢; omega
        · have := ih x (List.mem_cons_of_mem _ h); simp at this ⊢; omega
theorem bind25 (a b pm cd doc : Value) : bindArgs (docDef (dN (stm 25)) (dP (stm 25)) (dB (stm 25)) (dS (stm 25)) pm cd doc) ⟨[a, b], []⟩ = pure ((["stream", "table"] : List Str).zip [a, b]) := by kernel_rfl

theorem filter_flat (T : Nat) (l : List Nat) : (l.map fun c => if inT T c then [] else [c]).flatten = l.filter fun c => !inT T c := by
  induction l with
  | nil => rfl
  | cons c l ih =>
    rw [List.map_cons, List.flatten_cons, ih, List.filter_cons]
    cases inT T c <;> simp

theorem heard_sizes (ws : List (List Nat)) : ∀ (acc : List (List (List Nat))), (ws.foldl (fun acc w => pushE acc (hear w)) acc).length ≤ acc.length + ws.length + 1 ∧ ((ws.foldl (fun acc w => pushE acc (hear w)) acc).getLast?.getD []).length ≤ (acc.getLast?.getD []).length + ws.length := by
  induction ws with
  | nil => intro acc; simp
  | cons x ws ih =>
    intro acc
    rw [List.foldl_cons]
    have h := ih (pushE acc (hear x))
    have h1 : (pushE acc (hear x)).length ≤ acc.length + 1 ∧ ((pushE acc (hear x)).getLast?.getD []).length ≤ (acc.getLast?.getD []).length + 1 := by
      cases hear x with
      | none => simp [pushE]
      | some l => simp [pushE]
    simp only [List.length_cons]
    omega

theorem law_heard {stream : List Nat} {t : Nat} (ht : t < 7) (hs : stream.length ≤ 1000000) (hf : (stream.flatMap fold).length ≤ 100000) :
    CallB w (n + 2) (.ref (w.ad "_law_heard")) [.str stream, .int t] (mailsD (heard fold inT t stream)) := fun N A s vs C r => by
  obtain ⟨v0, v1, rfl, _⟩ := reps2 r
  refine def_cell (i := 25) (n := n + 1) ["stream", "table"] (by decide) C r (fun _ _ _ => bind25 ..) (fun A' cd s₁ F P ap => ?_) (fun x hx => by simp at hx; rcases hx with rfl | rfl <;> exact .inl rfl)
  have L := C.lib
  have hz := sizeLine_eq
  -- holds
  refine r_assign (d := .raw (.ref (w.ad (tabName t)))) ?e0 L F P rfl (fun _ k => (F.kp k).put rfl rfl ap (by omega)) fun s₂ N₂ P₂ => ?_
  case e0 =>
    refine ev_sub (b := .int t) (ev_list (evs_cons (ev_glob rfl rfl rfl) (evs_cons (ev_glob rfl rfl rfl) (evs_cons (ev_glob rfl rfl rfl) (evs_cons (ev_glob rfl rfl rfl) (evs_cons (ev_glob rfl rfl rfl) (evs_cons (ev_glob rfl rfl rfl) (evs_cons (ev_glob rfl rfl rfl) evs_nil))))))) (le_line (by simp))) (ev_name rfl rfl) (sb_list (by omega) (by omega) (le_line (by simp)) ?_)
    unfold at_
    rw [if_pos (by omega), Int.toNat_natCast]
    exact holds_at ht
  -- folded
  refine r_assign (d := .str (stream.flatMap fold)) ?e1 L N₂.fs P₂ rfl (fun _ k => .loc rfl) fun s₃ N₃ P₃ => ?_
  case e1 =>
    rw [List.flatMap_def]
    refine ev_meth (ds := [.lst ((stream.map fold).map .str)]) (ev_str (l := []) rfl) (evs_cons ?_ evs_nil) str_kind PySem.F.plainAttrs_str PySem.F.slot_str_join PySem.F.type_str_join (cb_join (by rw [← List.length_flatten, ← List.flatMap_def]; omega))
    refine ev_comp (fresh := true) (items := stream.map fun c => .str [c]) (σc := []) (cl := []) (it_str (ev_name rfl rfl) (by omega)) ⟨rfl, (fun x d e => by cases e), by decide +kernel, by decide +kernel, by decide +kernel⟩ (by simp) (fun i d e h1 h2 => ?_) ⟨.int 0, _, .name⟩
    obtain ⟨c, hc, rfl⟩ : ∃ c, stream[i]? = some c ∧ D.str [c] = d := by simpa using h1
    have : e = .str (fold c) := by rw [List.getElem?_map, List.getElem?_map, hc] at h2; cases h2; rfl
    subst this
    exact ⟨_, .name, by intro y hy; simp at hy; subst hy; rfl, fun C => ev_callf (f := "map_table_b3") (i := 10) (ev_glob rfl rfl rfl) (by decide) (evs_cons (ev_name rfl rfl) evs_nil) (map_b3 c)⟩
  -- wire
  obtain ⟨folded, hfo⟩ : ∃ folded, stream.flatMap fold = folded := ⟨_, rfl⟩
  rw [hfo] at N₃ P₃ hf
  have hff : ff fold inT t stream = folded.filter fun c => !inT t c := by rw [ff, hfo]
  have hwl : (ff fold inT t stream).length ≤ 100000 := by rw [hff]; have := List.length_filter_le (fun c => !inT t c) folded; omega
  refine r_assign (d := .str (ff fold inT t stream)) ?e2 L N₃.fs P₃ rfl (fun _ k => .loc rfl) fun s₄ N₄ P₄ => ?_
  case e2 =>
    rw [hff, ← filter_flat]
    refine ev_meth (ds := [.lst ((folded.map fun c => if inT t c then [] else [c]).map .str)]) (ev_str (l := []) rfl) (evs_cons ?_ evs_nil) str_kind PySem.F.plainAttrs_str PySem.F.slot_str_join PySem.F.type_str_join (cb_join (by rw [← List.length_flatten, filter_flat, ← hff]; omega))
    refine ev_comp (fresh := true) (items := folded.map fun c => .str [c]) (σc := [("holds", .raw (.ref (w.ad (tabName t))))]) (cl := [("holds", s.heap.objs.size + 1)]) (it_str (ev_name rfl rfl) (by omega))
      ⟨rfl, caps_of (by intro p hp; simp at hp; subst hp; exact ⟨rfl, (by intro q; cases q), rfl, .inl rfl⟩), by decide +kernel, by decide +kernel, by decide +kernel⟩ (by simp) (fun i d e h1 h2 => ?_) ⟨.int 0, _, .name⟩
    obtain ⟨c, hc, rfl⟩ : ∃ c, folded[i]? = some c ∧ D.str [c] = d := by simpa using h1
    have : e = .str (if inT t c then [] else [c]) := by rw [List.getElem?_map, List.getElem?_map, hc] at h2; cases h2; rfl
    subst this
    refine ⟨_, .name, by intro y hy; simp at hy; subst hy; rfl, fun C => ?_⟩
    obtain ⟨hcall, i, hi⟩ := tab_any (w := w) (n := n) (c := c) ht
    cases hb : inT t c with
    | true =>
      rw [hb] at hcall
      exact ev_ifexp (b := true) (evb_cmp (ev_callf (f := tabName t) (ev_name rfl rfl) hi (evs_cons (ev_name rfl rfl) evs_nil) hcall) ev_bool cm_is_bool) (ev_str rfl)
    | false =>
      rw [hb] at hcall
      exact ev_ifexp (b := false) (evb_cmp (ev_callf (f := tabName t) (ev_name rfl rfl) hi (evs_cons (ev_name rfl rfl) evs_nil) hcall) ev_bool cm_is_bool)
        (ev_ifexp (b := true) (evb_cmp (ev_callf (f := tabName t) (ev_name rfl rfl) hi (evs_cons (ev_name rfl rfl) evs_nil) hcall) ev_bool cm_is_bool) (ev_name rfl rfl))
  -- heard
  refine sp2_start2 L N₄.fs P₄ rfl rfl fun N₅ a s₅ M₅ F₅ P₅ S₅ => ?_
  obtain ⟨W, hW⟩ : ∃ W, ff fold inT t stream = W := ⟨_, rfl⟩
  rw [hW] at P₅ hwl
  have hheard : heard fold inT t stream = (cut W).dropLast.foldl (fun acc w => pushE acc (hear w)) [[]] := by rw [heard, hW]
  obtain ⟨ws, hws⟩ : ∃ ws, (cut W).dropLast = ws := ⟨_, rfl⟩
  rw [hws] at hheard
  have hcl := cut_len W
  have hwsl : ws.length ≤ 100000 := by rw [← hws, List.length_dropLast]; omega
  refine r_for (items := ws.map .str) (fun i => [("heard", .raw (.ref a))]) (fun i N' h => Sp2 N s.heap a ((ws.take i).foldl (fun acc w => pushE acc (hear w)) [[]]) N' h)
    (it_list (by
      rw [← hws, ← map_dropLast]
      exact ev_butLast' (ev_meth (ds := [.str [13, 10]]) (ev_name (d := .str W) rfl rfl) (evs_cons (ev_str (l := [13, 10]) rfl) evs_nil) str_kind PySem.F.plainAttrs_str PySem.F.slot_str_split PySem.F.type_str_split (cb_split (by omega))) (ev_neg ev_int) (by simp; omega)) (by simp; omega))
    L F₅ P₅ rfl (fun s' F' => .loc rfl) (fun i N h h' g S => S.grow g) (sto_sub (by intro p hp; simp at hp; subst hp; rfl)) S₅ (fun i d N' s' hi M F' P' S => ?_) (fun N' s' M F' P' S => ?_)
  · obtain ⟨row, hrow, rfl⟩ : ∃ row, ws[i]? = some row ∧ D.str row = d := by simpa using hi
    have htake : ws.take (i + 1) = ws.take i ++ [row] := by rw [List.take_add_one, hrow]; rfl
    have hstep : (ws.take (i + 1)).foldl (fun acc w => pushE acc (hear w)) [[]] = pushE ((ws.take i).foldl (fun acc w => pushE acc (hear w)) [[]]) (hear row) := by rw [htake, List.foldl_append]; rfl
    have hrl : row.length ≤ 1000000 := by
      have := cut_mem W row (List.dropLast_subset _ (hws ▸ List.mem_of_getElem? hrow)); omega
    obtain ⟨q1, q2⟩ := heard_sizes (ws.take i) [[]]
    rw [hstep]
    obtain ⟨acc, hacc⟩ : ∃ acc, (ws.take i).foldl (fun acc w => pushE acc (hear w)) [[]] = acc := ⟨_, rfl⟩
    rw [hacc] at S q1 q2 ⊢
    have hil : i < ws.length := (List.getElem?_eq_some_iff.mp hrow).1
    have htl : (ws.take i).length = i := by simp; omega
    have hr1 : acc.length ≤ 1000000 := by simp at q1; omega
    have hr2 : (acc.getLast?.getD []).length ≤ 1000000 := by simp at q2; omega
    have hne : acc ≠ [] := by rw [← hacc, ← List.foldl_map (g := pushE) (f := hear)]; exact foldl_ne _ _ (by simp)
    refine r_if (b := row == [46]) (evb_cmp (ev_name rfl rfl) (ev_str rfl) cm_eq_str) P' fun s₂ k₂ => ?_
    have S₂ := S.grow (.of k₂.keep)
    cases hb : row == [46] with
    | true =>
      have : hear row = none := by rw [hear, if_pos (by simpa using hb)]
      rw [this]
      refine sp2_new S₂ rfl hr1 rfl L (F'.kp k₂) (P'.kp k₂) fun N₃ s₃ M₃ F₃ P₃ S₃ => r_nil (r_nil ?_)
      exact ⟨N₃, (Mv.kp k₂).trans M₃, F₃, ⟨P₃.toCx, P₃.holds.sub (sto_sub (by intro p hp; simp at hp; subst hp; rfl))⟩, S₃⟩
    | false =>
      have : hear row = some (if row.head? = some 46 then row.tail else row) := by rw [hear, if_neg (by simpa using hb)]
      rw [this]
      refine sp2_row (l := if row.head? = some 46 then row.tail else row) S₂ hne rfl (ev_ifexp (b := row.take 1 == [46]) (evb_cmp (ev_first (ev_name rfl rfl) ev_int (by omega)) (ev_str rfl) cm_eq_str) ?_) hr1 hr2 rfl L (F'.kp k₂) (P'.kp k₂) fun s₃ M₃ F₃ P₃ S₃ => r_nil (r_nil ?_)
      · cases row with
        | nil => exact ev_name rfl rfl
        | cons c row =>
          by_cases hc : c = 46
          · subst hc
            have e1 : (List.take 1 (46 :: row) == [46]) = true := by simp
            rw [e1, if_pos rfl]
            exact ev_behind (l := 46 :: row) (ev_name rfl rfl) ev_int (by omega)
          · have e1 : (List.take 1 (c :: row) == [46]) = false := by simpa using hc
            have e2 : ¬ (c :: row).head? = some 46 := by simpa using hc
            rw [e1, if_neg e2]
            exact ev_name rfl rfl
      · exact ⟨N', (Mv.kp k₂).trans M₃, F₃, ⟨P₃.toCx, P₃.holds.sub (sto_sub (by intro p hp; simp at hp; subst hp; rfl))⟩, S₃⟩
  · rw [List.length_map, List.take_length] at S
    rw [hheard]
    refine r_return (ev_name rfl rfl) P' fun v s₂ rr k => ⟨?_, F'.kp k⟩
    have := inv_raw rr
    subst this
    exact (S.grow (.of k.keep)).rep
end
end Mine
end

section
open PySem PySem.W PyProof.Rows PySem.Calls
namespace Mine
section
variable {w : Wo} {n : Nat} {N N0 : Addr → Prop} {A : Around} {s s' : Shared}

theorem cb_max2 {a b : Int} : CallB w n (.builtin "max") [.int a, .int b] (.int (max a b)) := fun N A s vs C r => by
  obtain ⟨v, u, rfl, q1, q2⟩ := reps2 r
  obtain ⟨t, rfl⟩ := inv_int q1
  obtain ⟨t', rfl⟩ := inv_int q2
  refine max_two_ints C.ok.1 fun h' tk k => ⟨?_, ⟨h', tk, rfl, k⟩⟩
  by_cases h : b > a
  · rw [if_pos h, show max a b = b by omega]; exact rep_int
  · rw [if_neg h, show max a b = a by omega]; exact rep_int
theorem cb_min2 {a b : Int} : CallB w n (.builtin "min") [.int a, .int b] (.int (min a b)) := fun N A s vs C r => by
  obtain ⟨v, u, rfl, q1, q2⟩ := reps2 r
  obtain ⟨t, rfl⟩ := inv_int q1
  obtain ⟨t', rfl⟩ := inv_int q2
  refine min_two_ints C.ok.1 fun h' tk k => ⟨?_, ⟨h', tk, rfl, k⟩⟩
  by_cases h : b < a
  · rw [if_pos h, show min a b = b by omega]; exact rep_int
  · rw [if_neg h, show min a b = a by omega]; exact rep_int
def mx : List Int → Int
  | [] => 0
  | [a] => a
  | a :: r => max a (mx r)
theorem mx_spec : ∀ {is : List Int}, is ≠ [] → mx is ∈ is ∧ ∀ i ∈ is, i ≤ mx is
  | [], h => (h rfl).elim
  | [a], _ => by simp [mx]
  | a :: b :: r, _ => by
    obtain ⟨h1, h2⟩ := mx_spec (is := b :: r) (by simp)
    have e : mx (a :: b :: r) = max a (mx (b :: r)) := rfl
    rw [e]
    refine ⟨?_, fun i hi => ?_⟩
    · by_cases h : a ≤ mx (b :: r)
      · rw [show max a (mx (b :: r)) = mx (b :: r) by omega]; exact List.mem_cons_of_mem _ h1
      · rw [show max a (mx (b :: r)) = a by omega]; exact List.mem_cons_self ..
    · rcases List.mem_cons.mp hi with rfl | hi
      · omega
      · have := h2 i hi; omega
theorem cb_maxl {is : List Int} (hne : is ≠ []) : CallB w n (.builtin "max") [.lst (is.map .int)] (.int (mx is)) := fun N A s vs C r => by
  obtain ⟨v, rfl, q⟩ := reps1 r
  obtain ⟨a, us, rfl, hN, hl, rr⟩ := inv_lst q
  have hi := ints_are rr
  obtain ⟨xs, e⟩ := hi.allInts.items
  rw [e] at hl
  have hnum := hi.numsOf
  rw [show us = us.toArray.toList from rfl, e, nums_intItems] at hnum
  have hsz : xs.size = is.length := by
    have := congrArg Array.size e
    simp [intItems, hi.length] at this
    omega
  have hpos : 0 < xs.size := by rw [hsz]; exact List.length_pos_iff.mpr hne
  have hat : ∀ j, j < xs.size → is[j]? = some (numAt xs j) := fun j hj => by
    rw [← hnum]; simp [hj, numAt]
  refine max_intList C.ok.1 hl hpos fun v h' tk hv hk => ⟨?_, ⟨h', tk, rfl, hk⟩⟩
  obtain ⟨t, rfl⟩ := intItems_at hv
  obtain ⟨g1, g2⟩ := argBest_gt (numAt xs) (xs.size - 1)
  obtain ⟨m1, m2⟩ := mx_spec hne
  have e1 : numAt xs (argBest (fun i j => decide (numAt xs i > numAt xs j)) (xs.size - 1)) = mx is := by
    have h1 := m2 _ (List.mem_of_getElem? (hat (argBest (fun i j => decide (numAt xs i > numAt xs j)) (xs.size - 1)) (by omega)))
    obtain ⟨j, hj⟩ := List.getElem?_of_mem m1
    have hjl : j < is.length := (List.getElem?_eq_some_iff.mp hj).1
    have h2 := g2 j (by omega)
    rw [hat j (by omega)] at hj
    have := Option.some.inj hj
    omega
  rw [e1]; exact rep_int
theorem cb_indexn {is : List Int} {k : Int} (hk : k ∈ is) (hlen : is.length ≤ 1000) : CallB w n (.builtin "list.index") [.lst (is.map .int), .int k] (.int (is.idxOf k : Nat)) := fun N A s vs C r => by
  obtain ⟨v, u, rfl, q1, q2⟩ := reps2 r
  obtain ⟨l, us, rfl, hN, hl, rr⟩ := inv_lst q1
  obtain ⟨t, rfl⟩ := inv_int q2
  have hi := ints_are rr
  obtain ⟨⟨cls, dd, data, sl⟩, ho, hc, n, hd⟩ := id hl
  simp only at hc hd
  subst hc hd
  have hlen2 := hi.length
  have hj : is.idxOf k < is.length := List.idxOf_lt_length_iff.mpr hk
  refine call_meets PySem.F.slot_list_index ⟨_, ho, rfl⟩ PySem.F.entry_list_index (PySem.F.args_list_index_2 _ _)
    (PySem.SeqAt.list_indexAt l us.toArray n dd sl (.int k t) (isInt k) (is.idxOf k) (by simpa [hlen2] using hj) (by omega) ?_ ?_) ⟨ho, fun y hy => (eq_isInt k t hi y (by simpa using hy)).at _ _, ⟨rep_int, .tok _ _⟩⟩
  · show isInt k us[is.idxOf k] = true
    rw [isInt_at k hi _ (by omega) hj]
    simpa using List.getElem_idxOf hj
  · intro j hjs hlt
    show isInt k us[j] = false
    rw [isInt_at k hi j (by simpa using hjs) (by omega)]
    exact ne_of_lt_idxOf hlt _
end
end Mine
end

section
open PySem PySem.W PyProof.Rows PySem.Calls
namespace Mine
section
variable {w : Wo} {n : Nat} {N N0 : Addr → Prop} {A : Around} {s s' : Shared} {env : Env} {σ : Sto}

def pcForms : Pc → List (List Nat)
  | .dot => [[46], [46], [46]]
  | .last f0 f1 f2 => [f0, f1, f2]
  | .sign c _ => [[c], [c], [c]]
def pcTab : Pc → Int
  | .sign _ t => (t : Nat)
  | _ => -1
theorem pcD_eq (p : Pc) : pcD p = .tup [.tup ((pcForms p).map .str), .int (pcTab p)] := by cases p <;> rfl
abbrev Fst := List Nat × Int × Int × Bool
def stp (ts : List Nat) (q : Fst) : Pc → Fst
  | .sign c t => (q.1 ++ (if ts.idxOf t = ts.length then [c] else []), q.2.1, max q.2.2.1 (ts.idxOf t : Nat), q.2.2.2)
  | .last f0 f1 f2 => (q.1 ++ (Pc.last f0 f1 f2).form ts.length, q.2.1, q.2.2.1, false)
  | .dot => if q.2.2.2 = true ∧ q.2.1 < q.2.2.1 ∧ q.2.2.1 < (ts.length : Int) then (q.1, q.2.2.1, -1, q.2.2.2) else (q.1 ++ [46], q.2.1, q.2.2.1, false)
def fgoQ (ts : List Nat) (r : List Pc) (q : Fst) : Option (List Nat) := fgo ts r q.1 q.2.1 q.2.2.1 q.2.2.2
theorem fgoQ_sign (ts : List Nat) (c t : Nat) (r : List Pc) (q : Fst) : fgoQ ts (.sign c t :: r) q = fgoQ ts r (stp ts q (.sign c t)) := by simp [fgoQ, fgo, stp]
theorem fgoQ_last (ts : List Nat) (f0 f1 f2 : List Nat) (r : List Pc) (q : Fst) : fgoQ ts (.last f0 f1 f2 :: r) q = fgoQ ts r (stp ts q (.last f0 f1 f2)) := by simp [fgoQ, fgo, stp]
def dotGoes (ts : List Nat) (q : Fst) : Bool := q.2.2.2 && (decide (q.2.1 < q.2.2.1) && decide (q.2.2.1 < (ts.length : Int)))
theorem dotGoes_iff (ts : List Nat) (q : Fst) : dotGoes ts q = true ↔ (q.2.2.2 = true ∧ q.2.1 < q.2.2.1 ∧ q.2.2.1 < (ts.length : Int)) := by simp [dotGoes]
theorem fgoQ_dot (ts : List Nat) (r : List Pc) (q : Fst) : fgoQ ts (.dot :: r) q = if dotGoes ts q = true then (if allBy ts q.2.2.1 r = true then none else fgoQ ts r (q.1, q.2.2.1, -1, q.2.2.2)) else fgoQ ts r (q.1 ++ [46], q.2.1, q.2.2.1, false) := by
  simp only [fgoQ, fgo, dotGoes_iff]
theorem stp_dot (ts : List Nat) (q : Fst) : stp ts q .dot = if dotGoes ts q = true then (q.1, q.2.2.1, -1, q.2.2.2) else (q.1 ++ [46], q.2.1, q.2.2.1, false) := by
  simp only [stp, dotGoes_iff]
def stF (ts : List Nat) (row : List Pc) (k : Nat) : Fst := (row.take k).foldl (stp ts) ([], -1, -1, true)
theorem stF_succ {ts : List Nat} {row : List Pc} {k : Nat} {p : Pc} (h : row[k]? = some p) : stF ts row (k + 1) = stp ts (stF ts row k) p := by
  unfold stF
  rw [List.take_add_one, h, List.foldl_append]; rfl
theorem stF_low (ts : List Nat) : ∀ (row : List Pc) (q : Fst), -1 ≤ q.2.1 → -1 ≤ q.2.2.1 → -1 ≤ (row.foldl (stp ts) q).2.1 ∧ -1 ≤ (row.foldl (stp ts) q).2.2.1
  | [], q, h1, h2 => ⟨h1, h2⟩
  | p :: row, q, h1, h2 => by
    rw [List.foldl_cons]
    refine stF_low ts row _ ?_ ?_
    · cases p with
      | sign c t => exact h1
      | last f0 f1 f2 => exact h1
      | dot => rw [stp_dot]; split <;> assumption
    · cases p with
      | sign c t => show -1 ≤ max _ _; omega
      | last f0 f1 f2 => exact h2
      | dot => rw [stp_dot]; split <;> first | assumption | (show (-1 : Int) ≤ -1; omega)
theorem mx_all (ts : List Nat) (m : Int) (hm : -1 ≤ m) (r : List Pc) : decide (mx (-1 :: r.map fun p => ((taker ts p : Nat) : Int)) ≤ m) = allBy ts m r := by
  obtain ⟨h1, h2⟩ := mx_spec (is := -1 :: r.map fun p => ((taker ts p : Nat) : Int)) (by simp)
  unfold allBy
  rw [Bool.eq_iff_iff, decide_eq_true_iff, List.all_eq_true]
  constructor
  · intro h p hp
    have := h2 _ (List.mem_cons_of_mem _ (List.mem_map_of_mem (f := fun p => ((taker ts p : Nat) : Int)) hp))
    exact decide_eq_true (by omega)
  · intro h
    rcases List.mem_cons.mp h1 with e | e
    · rw [e]; exact hm
    · obtain ⟨p, hp, e⟩ := List.mem_map.mp e
      rw [← e]
      exact of_decide_eq_true (h p hp)
theorem stF_len (ts : List Nat) : ∀ (row : List Pc) (q : Fst), (∀ p ∈ row, ∀ k, (p.form k).length ≤ 3) → (row.foldl (stp ts) q).1.length ≤ q.1.length + 3 * row.length
  | [], q, _ => by simp
  | p :: row, q, h => by
    rw [List.foldl_cons]
    have ih := stF_len ts row (stp ts q p) fun x hx => h x (List.mem_cons_of_mem _ hx)
    have : (stp ts q p).1.length ≤ q.1.length + 3 := by
      cases p with
      | sign c t => simp only [stp]; split <;> simp
      | last f0 f1 f2 => have := h _ (List.mem_cons_self ..) ts.length; simp only [stp, List.length_append]; omega
      | dot => rw [stp_dot]; split <;> simp
    simp only [List.length_cons]; omega

/-- `(l + r).index(e)` -/
theorem ev_index_cat {l r e : Expr} {bp ap p : Pos} {a b : List D} {is : List Int} {k : Int} (x : Ev w n env σ l (.lst a)) (y : Ev w n env σ r (.lst b)) (z : Ev w n env σ e (.int k)) (hab : a ++ b = is.map .int) (hk : k ∈ is) (hlen : is.length ≤ 1000)
    (hbase : attributeBase (.BinOp l .Add r bp) "index" env (eval (.BinOp l .Add r bp) env) = eval (.BinOp l .Add r bp) env := by rfl)
    (hfew : ((backTo p (starEach [e] env)).all (fun x => !x.1) && (backToKw p (keywordEach [] env)).all (fun x => x.1.isSome)
      && decide (([e] : List Expr).length + ([] : List Keyword).length + (if ([] : List Keyword).isEmpty then 0 else 1) < 30)) = true := by rfl)
    (hline : (ap.endLine == p.line) = true := by rfl)
    (he : starEach [e] env = (false, eval e env) :: starEach [] env := by rfl) (hplain : (backTo p (starEach [] env)).any (·.1) = false := by rfl) :
    Ev w n env σ (.Call (.Attribute (.BinOp l .Add r bp) "index" ap) [e] [] p) (.int (is.idxOf k : Nat)) := .mk fun N A s P => by
  have hz := sizeLine_eq
  refine wpAny_Call_method hbase hfew hline F.plainAttrs_list F.slot_list_index F.type_list_index (wpAny_BinOp (x.use P fun u s₁ r₁ k₁ => y.use (P.kp k₁) fun v s₂ r₂ k₂ => ?_))
  obtain ⟨l, vs, rfl, hN, hl, q1⟩ := inv_lst (k₂.rep r₁)
  obtain ⟨m, ws, rfl, hM, hm, q2⟩ := inv_lst r₂
  have P₂ := P.kp (k₁.trans k₂)
  have fr := P₂.toCx.free
  obtain ⟨⟨cls, dd, data, sl⟩, ho, hc, n0, hd⟩ := id hl
  obtain ⟨⟨cls2, dd2, data2, sl2⟩, ho2, hc2, n2, hd2⟩ := id hm
  simp only at hc hd hc2 hd2
  subst hc hd hc2 hd2
  have e0 : vs.toArray ++ ws.toArray = (vs ++ ws).toArray := by simp
  have hsum : a.length + b.length ≤ 1000 := by rw [← List.length_append, hab, List.length_map]; exact hlen
  refine concat_meets ⟨_, ho, rfl⟩ ⟨_, ho2, rfl⟩ noFill_list_add seq_list_add PySem.F.slot_list_add PySem.F.entry_list_add (PySem.F.args_list_add_2 _ _) (list_addW l m vs.toArray ws.toArray n0 n2 dd dd2 sl sl2 (by simp [q1.length, q2.length]; omega)) ⟨ho, ho2, ?_⟩
  rw [e0]
  have K : Kp s₂ { s₂ with heap := s₂.heap.push { cls := .type "list", data := .seq (vs ++ ws).toArray } } := .push _ _
  have hrep : Rep N (s₂.heap.push { cls := .type "list", data := .seq (vs ++ ws).toArray }) (.lst (is.map .int)) (.ref s₂.heap.objs.size) := by
    rw [← hab]
    exact rep_lst fr ⟨_, Heap.get?_push_size _ rfl, rfl, 0, rfl⟩ ((q1.append q2).grow (.push _))
  refine ⟨⟨_, Heap.get?_push_size _ rfl, rfl⟩, fun b hb => ?_, ?_⟩
  · cases hb
    exact ⟨_, Heap.get?_push_size _ rfl, rfl⟩
  · refine callWith_method1 (args_cons (z.use (P₂.kp K) fun v s₃ r₃ k₃ => args_nil ?_) he) he hplain
    refine wp_use (cb_indexn hk hlen N A s₃ _ (P₂.kp (K.trans k₃)).toCx (.cons (k₃.rep hrep) (.cons r₃ .nil))) fun u s₄ q => ⟨q.1, (((k₁.trans k₂).trans K).trans k₃).trans q.2⟩
end
end Mine
end

section
open PySem PySem.W PyProof.Rows PySem.Calls
namespace Mine
section
variable {w : Wo} {n : Nat} {N N0 : Addr → Prop} {A : Around} {s s' : Shared} {env : Env} {σ : Sto}

theorem idx_cast (t : Nat) : ∀ ts : List Nat, ((ts ++ [t]).map fun x => ((x : Nat) : Int)).idxOf ((t : Nat) : Int) = ts.idxOf t
  | [] => by simp
  | a :: ts => by
    rw [List.cons_append, List.map_cons, List.idxOf_cons, List.idxOf_cons, idx_cast t ts]
    by_cases h : a = t
    · subst h; simp
    · have h2 : (((a : Nat) : Int) == ((t : Nat) : Int)) = false := beq_eq_false_iff_ne.mpr (by omega)
      have h3 : (a == t) = false := by simpa using h
      rw [h2, h3]
theorem cb_min2n {a b : Nat} : CallB w n (.builtin "min") [.int a, .int b] (.int ((min a b : Nat) : Int)) := by
  have h2 := cb_min2 (w := w) (n := n) (a := (a : Int)) (b := (b : Int))
  rwa [show min (a : Int) (b : Int) = ((min a b : Nat) : Int) by omega] at h2
theorem bind26 (a b pm cd doc : Value) : bindArgs (docDef (dN (stm 26)) (dP (stm 26)) (dB (stm 26)) (dS (stm 26)) pm cd doc) ⟨[a, b], []⟩ = pure ((["row", "tables"] : List Str).zip [a, b]) := by kernel_rfl
/-- a piece that the walk of a row takes -/
def FateOk (p : Pc) : Prop := (∀ k, (p.form k).length ≤ 3) ∧ ∀ f0 f1 f2, p = .last f0 f1 f2 → f0 ≠ [46]
def takD (ts : List Nat) (row : List Pc) : D := .lst (row.map fun p => .int ((taker ts p : Nat) : Int))
def stD (ts : List Nat) (row : List Pc) (q : Fst) : Sto := [("left", .str q.1), ("ahead", .int q.2.1), ("last", .int q.2.2.1), ("front", .bool q.2.2.2), ("takers", takD ts row), ("row", .lst (row.map pcD)), ("late", .int (ts.length : Nat))]

theorem law_fate {row : List Pc} {ts : List Nat} (hl : ts.length ≤ 3) (hr : row.length ≤ 1000) (hp : ∀ p ∈ row, FateOk p) :
    CallB w (n + 1) (.ref (w.ad "_law_fate")) [.lst (row.map pcD), tabsD ts] (optStr (fate ts row)) := fun N A s vs C r => by
  obtain ⟨v0, v1, rfl, _⟩ := reps2 r
  refine def_cell (i := 26) (n := n) ["row", "tables"] (by decide) C r (fun _ _ _ => bind26 ..) (fun A' cd s₁ F P ap => ?_) (fun x hx => by
    simp at hx
    rcases hx with rfl | rfl
    · exact .inl rfl
    · exact .inr ⟨rfl, fun _ => rfl⟩)
  have L := C.lib
  have hz := sizeLine_eq
  -- late
  refine r_assign (d := .int (ts.length : Nat)) (ev_callb (ev_blt rfl rfl rfl rfl) (evs_cons (ev_name (d := tabsD ts) rfl rfl) evs_nil) (cb_len_map _ ts (by omega))) L F P rfl (fun _ k => (F.kp k).put rfl rfl ap (by omega)) fun s₂ N₂ P₂ => ?_
  -- takers
  refine r_assign_comp (fresh := false) (items := row.map pcD) (out := row.map fun p => .int ((taker ts p : Nat) : Int)) (σc := [("tables", tabsD ts), ("late", .int (ts.length : Nat))]) (cl := [("tables", s.heap.objs.size + 1), ("late", s.heap.objs.size + 1 + 1)]) (it_list (ev_name rfl rfl) (by simp; omega))
    ⟨rfl, caps_of (by intro p hp; simp at hp; rcases hp with rfl | rfl <;> exact ⟨rfl, (by intro q; cases q), rfl, .inl rfl⟩), by decide +kernel, by decide +kernel, by decide +kernel⟩ (by simp) (fun i d e h1 h2 => ?ec) ⟨.tup [.int 0, .int 0], _, .pair⟩ L N₂.fs P₂ rfl rfl (fun s₃ N₃ P₃ => ?_)
  case ec =>
    obtain ⟨p, hpi, rfl⟩ : ∃ p, row[i]? = some p ∧ pcD p = d := by simpa using h1
    have : e = .int ((taker ts p : Nat) : Int) := by rw [List.getElem?_map, hpi] at h2; cases h2; rfl
    subst this
    rw [pcD_eq]
    refine ⟨_, .pair, by intro y hy; simp at hy; rcases hy with rfl | rfl <;> rfl, fun C => ?_⟩
    refine ev_ifexp (b := decide (pcTab p ≥ 0)) (evb_cmp (ev_name rfl rfl) ev_int cm_ge_int) ?_
    cases p with
    | sign c t =>
      have hb : decide (pcTab (.sign c t) ≥ 0) = true := by simp [pcTab]
      rw [hb]
      have hidx : taker ts (.sign c t) = ((ts ++ [t]).map fun x => ((x : Nat) : Int)).idxOf ((t : Nat) : Int) := (idx_cast t ts).symm
      rw [hidx]
      refine ev_index_cat (a := ts.map fun t => .int (t : Nat)) (b := [.int (t : Nat)]) (ev_name rfl rfl) (ev_list (evs_cons (ev_name rfl rfl) evs_nil) (le_line (by simp))) (ev_name rfl rfl) (by simp) (by simp) (by simp; omega)
    | dot => exact ev_bin (ev_name rfl rfl) (ev_int (i := ((1 : Nat) : Int))) bi_addn
    | last f0 f1 f2 => exact ev_bin (ev_name rfl rfl) (ev_int (i := ((1 : Nat) : Int))) bi_addn
  -- left, ahead, last, front
  refine r_unpack [("left", _), ("ahead", _), ("last", _), ("front", _)] (ds := [.str [], .int (-1), .int (-1), .bool true]) (ev_lit 9 _ _ (by kernel_rfl)) L N₃.fs P₃ rfl rfl (by intro q hq; simp at hq; rcases hq with rfl | rfl | rfl | rfl <;> rfl) fun s₄ N₄ P₄ => ?_
  obtain ⟨k₀, hk₀⟩ : ∃ k, k = row.length := ⟨_, rfl⟩
  refine r_for (items := upN row.length) (fun k => stD ts row (stF ts row k)) (fun k _ _ => fgoQ ts (row.drop k) (stF ts row k) = fate ts row)
    (it_range (k := row.length) (ev_blt rfl rfl rfl rfl) (ev_callb (ev_blt rfl rfl rfl rfl) (evs_cons (ev_name (d := .lst (row.map pcD)) rfl rfl) evs_nil) (cb_len_map pcD row (by omega))) (by omega))
    L N₄.fs P₄ rfl (fun _ _ => .loc rfl) (fun _ _ _ _ _ h => h) (sto_sub (by intro p hp; simp [stD] at hp; rcases hp with rfl | rfl | rfl | rfl | rfl | rfl | rfl <;> rfl)) rfl (fun k d N' s' hi M F' P' e => ?_) (fun N' s' M F' P' e => ?_)
  · have hk : k < row.length := by have := (List.getElem?_eq_some_iff.mp hi).1; simpa [upN] using this
    have e1 : d = .int (k : Nat) := by simp [upN, hk] at hi; exact hi.symm
    subst e1
    obtain ⟨p, hpk⟩ : ∃ p, row[k]? = some p := ⟨_, List.getElem?_eq_getElem hk⟩
    have hpm : p ∈ row := List.mem_of_getElem? hpk
    obtain ⟨hp1, hp2⟩ := hp p hpm
    have hdrop : row.drop k = p :: row.drop (k + 1) := by
      rw [List.drop_eq_getElem_cons hk]
      rw [List.getElem?_eq_getElem hk] at hpk
      rw [Option.some.inj hpk]
    rw [hdrop] at e
    have hsucc := stF_succ (ts := ts) hpk
    have hlow := stF_low ts (row.take k) ([], -1, -1, true) (by decide) (by decide)
    have hleft : (stF ts row k).1.length ≤ 3 * row.length := by
      have := stF_len ts (row.take k) ([], -1, -1, true) (fun x hx => (hp x (List.mem_of_mem_take hx)).1)
      have h2 : (row.take k).length ≤ row.length := by simp; omega
      simp only [List.length_nil, Nat.zero_add] at this
      show (List.foldl (stp ts) ([], -1, -1, true) (row.take k)).1.length ≤ _
      omega
    have hlow : -1 ≤ (stF ts row k).2.1 ∧ -1 ≤ (stF ts row k).2.2.1 := hlow
    obtain ⟨q, hq⟩ : ∃ q, stF ts row k = q := ⟨_, rfl⟩
    rw [hq] at e hlow hleft P' hsucc
    have hrowk : (row.map pcD)[at_ (k : Int) (row.map pcD).length]? = some (.tup [.tup ((pcForms p).map .str), .int (pcTab p)]) := by
      unfold at_
      rw [if_pos (by omega), List.getElem?_map, Int.toNat_natCast, hpk, ← pcD_eq]; rfl
    have htakk : (row.map fun p => D.int ((taker ts p : Nat) : Int))[at_ (k : Int) (row.map fun p => D.int ((taker ts p : Nat) : Int)).length]? = some (.int ((taker ts p : Nat) : Int)) := by
      unfold at_
      rw [if_pos (by omega), List.getElem?_map, Int.toNat_natCast, hpk]; rfl
    refine r_unpack [("forms", _), ("table", _)] (ds := [.tup ((pcForms p).map .str), .int (pcTab p)]) (ev_sub (a := .lst (row.map pcD)) (b := .int (k : Nat)) (ev_name rfl rfl) (ev_name rfl rfl) (sb_list (by omega) (by omega) (by simp; omega) hrowk)) L F' P' rfl rfl (by intro q hq; simp at hq; rcases hq with rfl | rfl <;> rfl) fun s₅ N₅ P₅ => ?_
    have fin : ∀ (q' : Fst) N₆ s₆ σ₆, stF ts row (k + 1) = q' → Mv (envOfC (dN (stm 26)) (dS (stm 26)) s.heap.objs.size (w.ad "_law_fate") cd) N' N₆ s' s₆ → Fs s.heap (envOfC (dN (stm 26)) (dS (stm 26)) s.heap.objs.size (w.ad "_law_fate") cd) s s₆ → At w n N₆ (envOfC (dN (stm 26)) (dS (stm 26)) s.heap.objs.size (w.ad "_law_fate") cd) σ₆ A' s₆ →
        (∀ z ∈ stD ts row q', σ₆.lookup z.1 = some z.2) → fgoQ ts (row.drop (k + 1)) q' = fate ts row →
        ∃ N'', Mv (envOfC (dN (stm 26)) (dS (stm 26)) s.heap.objs.size (w.ad "_law_fate") cd) N' N'' s' s₆ ∧ Fs s.heap (envOfC (dN (stm 26)) (dS (stm 26)) s.heap.objs.size (w.ad "_law_fate") cd) s s₆ ∧ At w n N'' (envOfC (dN (stm 26)) (dS (stm 26)) s.heap.objs.size (w.ad "_law_fate") cd) (stD ts row (stF ts row (k + 1))) A' s₆ ∧ fgoQ ts (row.drop (k + 1)) (stF ts row (k + 1)) = fate ts row := by
      rintro q' N₆ s₆ σ₆ hq' M₆ F₆ P₆ hsub hf
      rw [hq']
      exact ⟨N₆, M₆, F₆, ⟨P₆.toCx, P₆.holds.sub (sto_sub hsub)⟩, hf⟩
    refine r_if (b := decide (pcTab p ≥ 0)) (evb_cmp (ev_name rfl rfl) ev_int cm_ge_int) P₅ fun s₆ k₆ => ?_
    have M₆ := (Mv.of N₅).trans (Mv.kp k₆)
    have F₆ := N₅.fs.kp k₆
    have P₆ := P₅.kp k₆
    have form0 : ∀ {σ' : Sto} {x : Expr} {np pp : Pos} {kk : Nat} {l : List Nat}, (pcForms p)[0]? = some l → Ev w n (envOfC (dN (stm 26)) (dS (stm 26)) s.heap.objs.size (w.ad "_law_fate") cd) σ' x (.tup ((pcForms p).map .str)) →
        Ev w n (envOfC (dN (stm 26)) (dS (stm 26)) s.heap.objs.size (w.ad "_law_fate") cd) σ' (.Subscript x (.Constant (.int 0) kk np) pp) (.str l) := fun {σ'} {x} {np} {pp} {kk} {l} h e => by
      refine ev_sub (b := .int ((0 : Nat) : Int)) e ev_int (sb_tup (by decide) ?_)
      rw [List.getElem?_map, h]; rfl
    have hz3 : ∀ j, q.1.length + (p.form j).length ≤ sizeLine := fun j => by have := hp1 j; rw [hz]; omega
    cases p with
    | sign c t =>
      have hb : decide (pcTab (.sign c t) ≥ 0) = true := by simp [pcTab]
      rw [hb]
      refine r_aug_str (l := q.1) (l' := if ts.idxOf t = ts.length then [c] else []) rfl (ev_ifexp (b := decide (ts.idxOf t = ts.length)) (evb_cmp (ev_sub (a := takD ts row) (b := .int (k : Nat)) (ev_name rfl rfl) (ev_name rfl rfl) (sb_list (by omega) (by omega) (by simp; omega) htakk)) (ev_name rfl rfl) cm_eq_nat) ?_) (by have := hz3 0; split <;> simp [Pc.form] at this ⊢ <;> omega) L F₆ P₆ rfl rfl fun s₇ N₇ P₇ => ?_
      · by_cases h : ts.idxOf t = ts.length
        · simp only [h, decide_true, if_true]
          exact form0 rfl (ev_name rfl rfl)
        · simp only [h, decide_false, if_false, Bool.false_eq_true]
          exact ev_str rfl
      refine r_assign (d := .int (max q.2.2.1 (ts.idxOf t : Nat))) (ev_callb (ev_blt rfl rfl rfl rfl) (evs_cons (ev_name rfl rfl) (evs_cons (ev_sub (a := takD ts row) (b := .int (k : Nat)) (ev_name rfl rfl) (ev_name rfl rfl) (sb_list (by omega) (by omega) (by simp; omega) htakk)) evs_nil)) cb_max2) L N₇.fs P₇ rfl (fun _ _ => .loc rfl) fun s₈ N₈ P₈ => r_nil (r_nil ?_)
      rw [fgoQ_sign] at e
      exact fin _ _ _ _ hsucc ((M₆.trans (Mv.of N₇)).trans (Mv.of N₈)) N₈.fs P₈ (by intro z hz; simp [stD, stp] at hz; rcases hz with rfl | rfl | rfl | rfl | rfl | rfl | rfl <;> rfl) e
    | last f0 f1 f2 =>
      have hne : (f0 == [46]) = false := by simpa using hp2 _ _ _ rfl
      refine r_if (b := q.2.2.2 && ((f0 == [46]) && ((decide (q.2.1 < q.2.2.1) && decide (q.2.2.1 < (ts.length : Int))) && true))) (evb_and (evb_val (ev_name rfl rfl)) fun _ => evb_and (evb_cmp (form0 rfl (ev_name rfl rfl)) (ev_str rfl) cm_eq_str) fun _ => evb_and (evb_chain2 (ev_name rfl rfl) (ev_name rfl rfl) cm_lt_int (ev_name rfl rfl) cm_lt_int) fun _ => evb_and_nil) P₆ fun s₇ k₇ => ?_
      have hb : (q.2.2.2 && ((f0 == [46]) && ((decide (q.2.1 < q.2.2.1) && decide (q.2.2.1 < (ts.length : Int))) && true))) = false := by rw [hne]; simp
      rw [hb]
      have hmin : ((pcForms (.last f0 f1 f2)).map D.str)[min ts.length 2]? = some (.str ((Pc.last f0 f1 f2).form ts.length)) := by
        match ts.length with
        | 0 => rfl
        | 1 => rfl
        | k + 2 => rw [show min (k + 2) 2 = 2 by omega]; rfl
      refine r_aug_str (l := q.1) (l' := (Pc.last f0 f1 f2).form ts.length) rfl (ev_sub (a := .tup ((pcForms (.last f0 f1 f2)).map .str)) (b := .int ((min ts.length 2 : Nat) : Int)) (ev_name rfl rfl) ?_ (sb_tup (by omega) hmin)) (hz3 _) L (F₆.kp k₇) (P₆.kp k₇) rfl rfl fun s₈ N₈ P₈ => ?_
      · exact ev_callb (ev_blt rfl rfl rfl rfl) (evs_cons (ev_name rfl rfl) (evs_cons (ev_int (i := ((2 : Nat) : Int))) evs_nil)) cb_min2n
      refine r_assign (d := .bool false) ev_bool L N₈.fs P₈ rfl (fun _ _ => .loc rfl) fun s₉ N₉ P₉ => r_nil (r_nil (r_nil ?_))
      rw [fgoQ_last] at e
      exact fin _ _ _ _ hsucc (((M₆.trans (Mv.kp k₇)).trans (Mv.of N₈)).trans (Mv.of N₉)) N₉.fs P₉ (by intro z hz; simp [stD, stp] at hz; rcases hz with rfl | rfl | rfl | rfl | rfl | rfl | rfl <;> rfl) e
    | dot =>
      refine r_if (b := dotGoes ts q) ?hb P₆ fun s₇ k₇ => ?_
      case hb =>
        rw [show dotGoes ts q = (q.2.2.2 && (([46] == [46]) && ((decide (q.2.1 < q.2.2.1) && decide (q.2.2.1 < (ts.length : Int))) && true))) by simp [dotGoes]]
        exact evb_and (evb_val (ev_name rfl rfl)) fun _ => evb_and (evb_cmp (form0 rfl (ev_name rfl rfl)) (ev_str rfl) cm_eq_str) fun _ => evb_and (evb_chain2 (ev_name rfl rfl) (ev_name rfl rfl) cm_lt_int (ev_name rfl rfl) cm_lt_int) fun _ => evb_and_nil
      rw [fgoQ_dot] at e
      rw [stp_dot] at hsucc
      have F₇ := F₆.kp k₇
      have P₇ := P₆.kp k₇
      have M₇ := M₆.trans (Mv.kp k₇)
      cases hg : dotGoes ts q with
      | true =>
        rw [hg, if_pos rfl] at e hsucc
        refine r_if (b := allBy ts q.2.2.1 (row.drop (k + 1))) ?hb2 P₇ fun s₈ k₈ => ?_
        case hb2 =>
          rw [← mx_all ts q.2.2.1 hlow.2]
          refine evb_cmp (ev_callb (ev_blt rfl rfl rfl rfl) (evs_cons ?_ evs_nil) (cb_maxl (by simp))) (ev_name rfl rfl) cm_le_int
          have hl2 : (-1 :: (row.drop (k + 1)).map fun p => ((taker ts p : Nat) : Int)).map D.int = [D.int (-1)] ++ (row.map fun p => D.int ((taker ts p : Nat) : Int)).drop (k + 1) := by
            rw [List.map_cons, List.map_map, ← List.map_drop]; rfl
          rw [hl2]
          exact ev_bin (ev_lit 9 _ _ (by kernel_rfl)) (ev_from (ev_name rfl rfl) (ev_bin (ev_name rfl rfl) (ev_int (i := ((1 : Nat) : Int))) bi_addn) (by simp; omega)) (bi_catl (by simp; omega))
        cases ha : allBy ts q.2.2.1 (row.drop (k + 1)) with
        | true =>
          rw [ha, if_pos rfl] at e
          refine r_return ev_none (P₇.kp k₈) fun v s₉ rr k₉ => ?_
          rw [← e]
          have := inv_none rr
          subst this
          exact ⟨rep_none, (F₇.kp k₈).kp k₉⟩
        | false =>
          rw [ha, if_neg (by simp)] at e
          refine r_nil ?_
          refine r_unpack_swapped ["ahead", "last"] (ds := [.int q.2.2.1, .int (-1)]) (ev_tuple (evs_cons (ev_name rfl rfl) (evs_cons (ev_neg ev_int) evs_nil)) (le_line (by simp))) L (F₇.kp k₈) (P₇.kp k₈) rfl rfl (by intro q hq; simp at hq; rcases hq with rfl | rfl <;> rfl) fun s₉ N₉ P₉ => r_nil (r_nil (r_nil ?_))
          exact fin _ _ _ _ hsucc ((M₇.trans (Mv.kp k₈)).trans (Mv.of N₉)) N₉.fs P₉ (by intro z hz; simp [stD] at hz; rcases hz with rfl | rfl | rfl | rfl | rfl | rfl | rfl <;> rfl) e
      | false =>
        rw [hg, if_neg (by simp)] at e hsucc
        have hmin : ((pcForms .dot).map D.str)[min ts.length 2]? = some (.str [46]) := by
          match ts.length with
          | 0 => rfl
          | 1 => rfl
          | k + 2 => rw [show min (k + 2) 2 = 2 by omega]; rfl
        refine r_aug_str (l := q.1) (l' := [46]) rfl (ev_sub (a := .tup ((pcForms .dot).map .str)) (b := .int ((min ts.length 2 : Nat) : Int)) (ev_name rfl rfl) (ev_callb (ev_blt rfl rfl rfl rfl) (evs_cons (ev_name rfl rfl) (evs_cons (ev_int (i := ((2 : Nat) : Int))) evs_nil)) cb_min2n) (sb_tup (by omega) hmin)) (hz3 0) L F₇ P₇ rfl rfl fun s₈ N₈ P₈ => ?_
        refine r_assign (d := .bool false) ev_bool L N₈.fs P₈ rfl (fun _ _ => .loc rfl) fun s₉ N₉ P₉ => r_nil (r_nil (r_nil ?_))
        exact fin _ _ _ _ hsucc ((M₇.trans (Mv.of N₈)).trans (Mv.of N₉)) N₉.fs P₉ (by intro z hz; simp [stD] at hz; rcases hz with rfl | rfl | rfl | rfl | rfl | rfl | rfl <;> rfl) e
  · rw [upN_len] at P' e
    have hd : row.drop row.length = [] := List.drop_length
    rw [hd] at e
    have e : some (stF ts row row.length).1 = fate ts row := e
    rw [← e]
    exact r_return (ev_name (d := .str (stF ts row row.length).1) rfl rfl) P' fun v s₅ rr k => ⟨rr, F'.kp k⟩
end
end Mine
end

section
open PySem PySem.W PyProof.Rows PySem.Calls
namespace Mine
section
variable {w : Wo} {n : Nat} {N N0 : Addr → Prop} {A : Around} {s s' : Shared} {env : Env} {σ : Sto}

def rowP (row : List Pc) : D := .lst (row.map pcD)
def rowsP (rows : List (List Pc)) : D := .lst (rows.map rowP)
def mailsP (mails : List (List (List Pc))) : D := .lst (mails.map rowsP)
/-- what is due, as it is written: ahead of the last list -/
def dueA (ts : List Nat) (mails : List (List (List Pc))) : List (List (List Nat)) := mails.foldl (fun acc rows => (rows.map (fate ts)).foldl pushE (acc ++ [[]])) []
theorem dueA_snoc (ts : List Nat) (mails : List (List (List Pc))) (rows : List (List Pc)) : dueA ts (mails ++ [rows]) = (rows.map (fate ts)).foldl pushE (dueA ts mails ++ [[]]) := by
  unfold dueA; rw [List.foldl_append]; rfl
theorem due_go (ts : List Nat) : ∀ (mails : List (List (List Pc))) (acc : List (List (List Nat))), (events ts mails).foldl pushE (acc ++ [[]]) = mails.foldl (fun acc rows => (rows.map (fate ts)).foldl pushE (acc ++ [[]])) acc ++ [[]]
  | [], acc => by simp [events]
  | rows :: mails, acc => by
    have ih := due_go ts mails ((rows.map (fate ts)).foldl pushE (acc ++ [[]]))
    unfold events at ih ⊢
    rw [List.flatMap_cons, List.foldl_append, List.foldl_append, List.foldl_cons, List.foldl_nil, List.foldl_cons, ← ih]
    rfl
theorem due_eq (ts : List Nat) (mails : List (List (List Pc))) : due ts mails = dueA ts mails ++ [[]] := by
  have := due_go ts mails []
  rw [List.nil_append] at this
  exact this
theorem push_sizes (evs : List (Option (List Nat))) : ∀ (acc : List (List (List Nat))), (evs.foldl pushE acc).length ≤ acc.length + evs.length + 1 ∧ ((evs.foldl pushE acc).getLast?.getD []).length ≤ (acc.getLast?.getD []).length + evs.length := by
  induction evs with
  | nil => intro acc; simp
  | cons x evs ih =>
    intro acc
    rw [List.foldl_cons]
    have h := ih (pushE acc x)
    have h1 : (pushE acc x).length ≤ acc.length + 1 ∧ ((pushE acc x).getLast?.getD []).length ≤ (acc.getLast?.getD []).length + 1 := by
      cases x with
      | none => simp [pushE]
      | some l => simp [pushE]
    simp only [List.length_cons]
    omega
theorem mem_sum {k : Nat} : ∀ {l : List Nat}, k ∈ l → k ≤ l.sum
  | a :: l, h => by
    rw [List.sum_cons]
    rcases List.mem_cons.mp h with rfl | h
    · omega
    · have := mem_sum h; omega
def rowsIn (mails : List (List (List Pc))) : Nat := (mails.map fun rows => rows.length + 2).sum
theorem rowsIn_len : ∀ mails : List (List (List Pc)), mails.length ≤ rowsIn mails
  | [] => by simp
  | a :: l => by
    have ih := rowsIn_len l
    simp only [rowsIn, List.map_cons, List.sum_cons, List.length_cons] at ih ⊢
    omega
theorem dueA_size (ts : List Nat) : ∀ (mails : List (List (List Pc))) (acc : List (List (List Nat))), (mails.foldl (fun acc rows => (rows.map (fate ts)).foldl pushE (acc ++ [[]])) acc).length ≤ acc.length + rowsIn mails
  | [], acc => by simp
  | rows :: mails, acc => by
    rw [List.foldl_cons]
    have ih := dueA_size ts mails ((rows.map (fate ts)).foldl pushE (acc ++ [[]]))
    have h := (push_sizes (rows.map (fate ts)) (acc ++ [[]])).1
    simp only [List.length_append, List.length_cons, List.length_nil, List.length_map, rowsIn, List.map_cons, List.sum_cons] at ih h ⊢
    omega

theorem At.known (P : At w n N env σ A s) {x : Str} {v : Value} {d : D} (hx : σ.lookup x = some (.raw v)) (r : Rep N s.heap d v) : At w n N env ((x, d) :: σ) A s := ⟨P.toCx, fun y dy e => by
  rw [List.lookup_cons] at e
  by_cases q : y = x
  · subst q
    simp only [beq_self_eq_true] at e
    cases e
    obtain ⟨u, b, ru⟩ := P.holds y _ hx
    have := inv_raw ru
    subst this
    exact ⟨_, b, r⟩
  · rw [show (y == x) = false by simpa using q] at e
    exact P.holds y dy e⟩
theorem bind27 (a b pm cd doc : Value) : bindArgs (docDef (dN (stm 27)) (dP (stm 27)) (dB (stm 27)) (dS (stm 27)) pm cd doc) ⟨[a, b], []⟩ = pure ((["mails", "tables"] : List Str).zip [a, b]) := by kernel_rfl

theorem law_due {mails : List (List (List Pc))} {ts : List Nat} (hl : ts.length ≤ 3) (hm : rowsIn mails ≤ 1000) (hp : ∀ rows ∈ mails, ∀ row ∈ rows, row.length ≤ 1000 ∧ ∀ p ∈ row, FateOk p) :
    CallB w (n + 2) (.ref (w.ad "_law_due")) [mailsP mails, tabsD ts] (mailsD (due ts mails)) := fun N A s vs C r => by
  obtain ⟨v0, v1, rfl, _⟩ := reps2 r
  refine def_cell (i := 27) (n := n + 1) ["mails", "tables"] (by decide) C r (fun _ _ _ => bind27 ..) (fun A' cd s₁ F P ap => ?_) (fun x hx => by
    simp at hx
    rcases hx with rfl | rfl
    · exact .inl rfl
    · exact .inr ⟨rfl, fun _ => rfl⟩)
  have L := C.lib
  have hz := sizeLine_eq
  have hml : mails.length ≤ 1000 := by
    have := rowsIn_len mails
    omega
  refine sp2_start1 L F P rfl rfl fun N₂ a s₂ M₂ F₂ P₂ S₂ => ?_
  refine r_for (items := mails.map rowsP) (fun i => [("due", .raw (.ref a)), ("tables", tabsD ts)]) (fun i N' h => Sp2 N s.heap a (dueA ts (mails.take i)) N' h) (it_list (ev_name (d := mailsP mails) rfl rfl) (by simp; omega))
    L F₂ P₂ rfl (fun _ _ => .loc rfl) (fun i N h h' g S => S.grow g) (sto_sub (by intro p hp; simp at hp; rcases hp with rfl | rfl <;> rfl)) S₂ (fun i d N' s' hi M F' P' S => ?_) (fun N' s' M F' P' S => ?_)
  · obtain ⟨rows, hrow, rfl⟩ : ∃ rows, mails[i]? = some rows ∧ rowsP rows = d := by simpa using hi
    have hmem : rows ∈ mails := List.mem_of_getElem? hrow
    have htake : mails.take (i + 1) = mails.take i ++ [rows] := by rw [List.take_add_one, hrow]; rfl
    have hrl : rows.length ≤ 1000 := by
      have : rows.length + 2 ≤ rowsIn mails := by
        unfold rowsIn
        exact mem_sum (List.mem_map_of_mem (f := fun rows : List (List Pc) => rows.length + 2) hmem)
      omega
    have hacc : (dueA ts (mails.take i)).length ≤ 1000 := by
      have h1 := dueA_size ts (mails.take i) []
      have h2 : rowsIn (mails.take i) ≤ rowsIn mails := by
        conv => rhs; rw [← List.take_append_drop i mails]
        rw [rowsIn, rowsIn, List.map_append, List.sum_append]; omega
      simp only [List.length_nil, Nat.zero_add] at h1
      show (List.foldl _ [] _).length ≤ _
      omega
    rw [htake, dueA_snoc]
    refine sp2_new S rfl (by omega) rfl L F' P' fun N₃ s₃ M₃ F₃ P₃ S₃ => ?_
    obtain ⟨acc, hac⟩ : ∃ acc, dueA ts (mails.take i) ++ [[]] = acc := ⟨_, rfl⟩
    have hal : acc.length ≤ 1001 := by rw [← hac]; simp; omega
    have hal2 : (acc.getLast?.getD []).length = 0 := by rw [← hac]; simp
    have hne : acc ≠ [] := by rw [← hac]; simp
    rw [hac] at S₃ ⊢
    refine r_for (items := (rows.map (fate ts)).map optStr) (fun j => [("due", .raw (.ref a)), ("tables", tabsD ts)]) (fun j N' h => Sp2 N s.heap a (((rows.map (fate ts)).take j).foldl pushE acc) N' h)
      (it_list (ds := (rows.map (fate ts)).map optStr) ?ec (by simp; omega)) L F₃ P₃ rfl (fun _ _ => .loc rfl) (fun i N h h' g S => S.grow g) (sto_sub (by intro p hp; simp at hp; rcases hp with rfl | rfl <;> rfl)) S₃ (fun j d N₄ s₄ hj M₄ F₄ P₄ S₄ => ?_) (fun N₄ s₄ M₄ F₄ P₄ S₄ => ?_)
    case ec =>
      refine ev_comp (fresh := false) (items := rows.map rowP) (σc := [("tables", tabsD ts)]) (cl := [("tables", s.heap.objs.size + 1)]) (it_list (ev_name (d := rowsP rows) rfl rfl) (by simp; omega))
        ⟨rfl, caps_of (by intro p hp; simp at hp; subst hp; exact ⟨rfl, (by intro q; cases q), rfl, .inl rfl⟩), by decide +kernel, by decide +kernel, by decide +kernel⟩ (by simp) (fun j d e h1 h2 => ?_) ⟨.int 0, _, .name⟩
      obtain ⟨row, hr, rfl⟩ : ∃ row, rows[j]? = some row ∧ rowP row = d := by simpa using h1
      have : e = optStr (fate ts row) := by rw [List.getElem?_map, List.getElem?_map, hr] at h2; cases h2; rfl
      subst this
      obtain ⟨hp1, hp2⟩ := hp rows hmem row (List.mem_of_getElem? hr)
      exact ⟨_, .name, by intro y hy; simp at hy; subst hy; rfl, fun C => ev_callf (f := "_law_fate") (i := 26) (ev_glob rfl rfl rfl) (by decide) (evs_cons (ev_name rfl rfl) (evs_cons (ev_name rfl rfl) evs_nil)) (law_fate hl hp1 hp2)⟩
    · obtain ⟨ev, hev, rfl⟩ : ∃ ev, (rows.map (fate ts))[j]? = some ev ∧ optStr ev = d := by
        rw [List.getElem?_map] at hj
        cases h : (rows.map (fate ts))[j]? with
        | none => rw [h] at hj; cases hj
        | some ev => rw [h] at hj; cases hj; exact ⟨ev, rfl, rfl⟩
      have htk : (rows.map (fate ts)).take (j + 1) = (rows.map (fate ts)).take j ++ [ev] := by rw [List.take_add_one, hev]; rfl
      have hjl : ((rows.map (fate ts)).take j).length ≤ 1000 := by simp; omega
      obtain ⟨q1, q2⟩ := push_sizes ((rows.map (fate ts)).take j) acc
      rw [htk, List.foldl_append, List.foldl_cons, List.foldl_nil]
      have hne2 := foldl_ne ((rows.map (fate ts)).take j) acc hne
      obtain ⟨acc2, hac2⟩ : ∃ acc2, ((rows.map (fate ts)).take j).foldl pushE acc = acc2 := ⟨_, rfl⟩
      rw [hac2] at S₄ q1 q2 hne2 ⊢
      cases ev with
      | none =>
        refine r_if (b := true) (evb_cmp (a := .none) (b := .none) (ev_name rfl rfl) ev_none cm_is_none_none) P₄ fun s₅ k₅ => ?_
        refine sp2_new (S₄.grow (.of k₅.keep)) rfl (by omega) rfl L (F₄.kp k₅) (P₄.kp k₅) fun N₆ s₆ M₆ F₆ P₆ S₆ => r_nil (r_nil ?_)
        exact ⟨N₆, (Mv.kp k₅).trans M₆, F₆, ⟨P₆.toCx, P₆.holds.sub (sto_sub (by intro p hp; simp at hp; rcases hp with rfl | rfl <;> rfl))⟩, S₆⟩
      | some l =>
        refine r_if (b := false) (evb_cmp (a := .str l) (b := .none) (ev_name rfl rfl) ev_none cm_is_str_none) P₄ fun s₅ k₅ => ?_
        refine sp2_row (l := l) (S₄.grow (.of k₅.keep)) hne2 rfl (ev_name rfl rfl) (by omega) (by omega) rfl L (F₄.kp k₅) (P₄.kp k₅) fun s₆ M₆ F₆ P₆ S₆ => r_nil (r_nil ?_)
        exact ⟨N₄, (Mv.kp k₅).trans M₆, F₆, ⟨P₆.toCx, P₆.holds.sub (sto_sub (by intro p hp; simp at hp; rcases hp with rfl | rfl <;> rfl))⟩, S₆⟩
    · rw [List.length_map, List.take_length] at S₄
      refine r_nil ?_
      exact ⟨N₄, M₃.trans M₄, F₄, P₄, S₄⟩
  · rw [List.length_map, List.take_length] at S
    have low : ∀ z, N z → N' z := fun z q => S.low q
    have P₃ := (P'.freeze low).known (x := "due") rfl S.rep
    have hdl : (dueA ts mails).length ≤ 1000 := by
      have h1 := dueA_size ts mails []
      simp only [List.length_nil, Nat.zero_add] at h1
      show (List.foldl _ [] _).length ≤ _
      omega
    refine r_return (d := mailsD (due ts mails)) ?er P₃ fun v s₅ rr k => ⟨rr, F'.kp k⟩
    case er =>
      rw [due_eq]
      show Ev _ _ _ _ _ (.lst ((dueA ts mails ++ [[]]).map rowsD))
      rw [List.map_append]
      exact ev_bin (ev_name (d := mailsD (dueA ts mails)) rfl rfl) (ev_lit 9 _ _ (by kernel_rfl)) (bi_catl (by simp; omega))
end
end Mine
end

section
open PySem PySem.W PyProof.Rows PySem.Calls
namespace Mine
abbrev Mails := List (List (List Pc))
/-- mails of rows of pieces, being written -/
def Sp3 (N0 : Addr → Prop) (base : Heap) (a : Addr) (acc : Mails) (N : Addr → Prop) (h : Heap) : Prop :=
  ∃ b c init ri last vs us ws, acc = init ++ [ri ++ [last]] ∧ (∀ z, N z ↔ N0 z ∨ z = a ∨ z = b ∨ z = c) ∧ (a ≠ b ∧ a ≠ c ∧ b ≠ c) ∧ (¬ N0 a ∧ ¬ N0 b ∧ ¬ N0 c) ∧ (base.get? a = none ∧ base.get? b = none ∧ base.get? c = none) ∧
    h.PlainList a (vs ++ [Value.ref b]).toArray ∧ Reps N h (init.map rowsP) vs ∧ h.PlainList b (us ++ [Value.ref c]).toArray ∧ Reps N h (ri.map rowP) us ∧ h.PlainList c ws.toArray ∧ Reps N h (last.map pcD) ws
/-- a piece more, a row more, a mail more -/
def addPc (acc : Mails) (p : Pc) : Mails := acc.dropLast ++ [(acc.getLast?.getD []).dropLast ++ [((acc.getLast?.getD []).getLast?.getD []) ++ [p]]]
def addRow (acc : Mails) : Mails := acc.dropLast ++ [(acc.getLast?.getD []) ++ [[]]]
theorem addPc_eq (init : Mails) (ri : List (List Pc)) (last : List Pc) (p : Pc) : addPc (init ++ [ri ++ [last]]) p = init ++ [ri ++ [last ++ [p]]] := by simp [addPc]
theorem addRow_eq (init : Mails) (r : List (List Pc)) : addRow (init ++ [r]) = init ++ [r ++ [[]]] := by simp [addRow]

section
variable {w : Wo} {n : Nat} {N N0 : Addr → Prop} {A : Around} {s s' : Shared} {base h h' : Heap} {env : Env} {s₀ : Shared} {σ : Sto} {a : Addr} {acc : Mails} {x : Str} {rest : List Stmt} {Q : Flow → Shared → Prop}

theorem Sp3.grow (g : Grow Nil h h') (S : Sp3 N0 base a acc N h) : Sp3 N0 base a acc N h' := by
  obtain ⟨b, c, init, ri, last, vs, us, ws, e, hN, hd, hn, hb, pa, ra, pb, rb, pc, rc⟩ := S
  have gg : Grow N h h' := g.weak fun _ f => f.elim
  exact ⟨b, c, init, ri, last, vs, us, ws, e, hN, hd, hn, hb, plain_grow g pa, ra.grow gg, plain_grow g pb, rb.grow gg, plain_grow g pc, rc.grow gg⟩
theorem Sp3.low (S : Sp3 N0 base a acc N h) {z : Addr} (q : N0 z) : N z := by
  obtain ⟨b, c, init, ri, last, vs, us, ws, e, hN, _⟩ := S
  exact (hN z).mpr (.inl q)
/-- frozen -/
theorem Sp3.rep (S : Sp3 N0 base a acc N h) : Rep N0 h (mailsP acc) (.ref a) := by
  obtain ⟨b, c, init, ri, last, vs, us, ws, rfl, hN, hd, hn, hb, pa, ra, pb, rb, pc, rc⟩ := S
  have low : ∀ z, N0 z → N z ∨ h.get? z = none := fun z q => .inl ((hN z).mpr (.inl q))
  refine rep_lst hn.1 pa.isList ?_
  show Reps N0 h ((init ++ [ri ++ [last]]).map rowsP) _
  rw [List.map_append]
  refine (ra.more low).append (.cons (rep_lst hn.2.1 pb.isList ?_) .nil)
  show Reps N0 h ((ri ++ [last]).map rowP) _
  rw [List.map_append]
  exact (rb.more low).append (.cons (rep_lst hn.2.2 pc.isList (rc.more low)) .nil)

/-- `x = [[[]]]` -/
theorem sp3_start {p p' q q2 r : Pos} (L : Lib w base) (F : Fs base env s₀ s) (P : At w n N0 env σ A s) (hk : env.scope.kind = .function) (hx : env.kindOf x = some .local)
    (h : ∀ N' a s', Mv env N0 N' s s' → Fs base env s₀ s' → At w n N' env ((x, .raw (.ref a)) :: σ) A s' → Sp3 N0 base a [[[]]] N' s'.heap → Run w A env rest Q s')
    (hs : swapsWith (.List [.List [.List [] q] q2] r) (some (.Name x p)) p'.line env = pure false := by rfl) : Run w A env (.Assign [.Name x p] (.List [.List [.List [] q] q2] r) p' :: rest) Q s := by
  have fr : ∀ {z}, s.heap.get? z = none → base.get? z = none := fun {z} e => by
    cases q : base.get? z with
    | none => rfl
    | some o => rw [F.keep z o q] at e; cases e
  have nn : ∀ {z}, s.heap.get? z = none → ¬ N0 z := fun {z} e q => by have := P.old z q; rw [e] at this; cases this
  refine r_assign_new (fun N' v h => ∃ a, v = .ref a ∧ Sp3 N0 base a [[[]]] N' h) ?_ (fun N' v h h' g ⟨a, e, S⟩ => ⟨a, e, S.grow g⟩) L F P hk hx (fun N' v s' M F' P' ⟨a, e, S⟩ => by subst e; exact h N' a s' M F' P' S) hs
  refine wp_use new3 fun v s₁ q => ?_
  obtain ⟨a, b, c, rfl, hab, hac, hbc, h1, h2, h3, pa, pb, pc, k⟩ := q
  refine ⟨fun z => N0 z ∨ z = a ∨ z = b ∨ z = c, ?_, ?_, ⟨a, rfl, b, c, [], [], [], [], [], [], rfl, fun _ => Iff.rfl, ⟨hab, hac, hbc⟩, ⟨nn h1, nn h2, nn h3⟩, ⟨fr h1, fr h2, fr h3⟩, pa, .nil, pb, .nil, pc, .nil⟩, k⟩
  · rintro z (q | rfl | rfl | rfl)
    · exact .inl q
    · exact .inr h1
    · exact .inr h2
    · exact .inr h3
  · rintro z (q | rfl | rfl | rfl)
    · exact keep_some k.keep z (P.old z q)
    · obtain ⟨i, e⟩ := pa; rw [e]; rfl
    · obtain ⟨i, e⟩ := pb; rw [e]; rfl
    · obtain ⟨i, e⟩ := pc; rw [e]; rfl

/-- `x[-1][-1].append(e)` -/
theorem sp3_piece {op ap cp p up qp xp up2 qp2 xp2 : Pos} {k k2 : Nat} {e : Expr} {pc : Pc} (S : Sp3 N0 base a acc N s.heap) (hx : σ.lookup x = some (.raw (.ref a))) (he : Ev w n env σ e (pcD pc))
    (hz : acc.length ≤ 1000 ∧ ∀ r ∈ acc, r.length ≤ 1000 ∧ ∀ q ∈ r, q.length ≤ 1000) (hk : env.scope.kind = .function) (L : Lib w base) (F : Fs base env s₀ s) (P : At w n N env σ A s)
    (h : ∀ s', Mv env N N s s' → Fs base env s₀ s' → At w n N env σ A s' → Sp3 N0 base a (addPc acc pc) N s'.heap → Run w A env rest Q s')
    (hbase : attributeBase (.Subscript (.Subscript (.Name x op) (.UnaryOp .USub (.Constant (.int 1) k up) qp) xp) (.UnaryOp .USub (.Constant (.int 1) k2 up2) qp2) xp2) "append" env (eval (.Subscript (.Subscript (.Name x op) (.UnaryOp .USub (.Constant (.int 1) k up) qp) xp) (.UnaryOp .USub (.Constant (.int 1) k2 up2) qp2) xp2) env) = eval (.Subscript (.Subscript (.Name x op) (.UnaryOp .USub (.Constant (.int 1) k up) qp) xp) (.UnaryOp .USub (.Constant (.int 1) k2 up2) qp2) xp2) env := by rfl)
    (hfew : ((backTo cp (starEach [e] env)).all (fun x => !x.1) && (backToKw cp (keywordEach [] env)).all (fun x => x.1.isSome)
      && decide (([e] : List Expr).length + ([] : List Keyword).length + (if ([] : List Keyword).isEmpty then 0 else 1) < 30)) = true := by rfl)
    (hline : (ap.endLine == cp.line) = true := by rfl) (htrees : backTo cp (starEach [e] env) = [(false, eval e env)] := by rfl)
    (hi : interactive env = false := by rfl) (hs : swapsWith (.Call (.Attribute (.Subscript (.Subscript (.Name x op) (.UnaryOp .USub (.Constant (.int 1) k up) qp) xp) (.UnaryOp .USub (.Constant (.int 1) k2 up2) qp2) xp2) "append" ap) [e] [] cp) none p.line env = pure false := by rfl)
    (hd : (x == ("__debug__" : Str)) = false := by decide) (hn : (x == ("__classdict__" : Str)) = false := by decide) :
    Run w A env (.Expr (.Call (.Attribute (.Subscript (.Subscript (.Name x op) (.UnaryOp .USub (.Constant (.int 1) k up) qp) xp) (.UnaryOp .USub (.Constant (.int 1) k2 up2) qp2) xp2) "append" ap) [e] [] cp) p :: rest) Q s := by
  have hsz := sizeLine_eq
  obtain ⟨b, c, init, ri, last, vs, us, ws, rfl, hN, ⟨hab, hac, hbc⟩, hnn, hbs, pa, ra, pb, rb, pcc, rc⟩ := S
  have hl1 : vs.length = init.length := by simpa using ra.length
  have hl2 : us.length = ri.length := by simpa using rb.length
  have hl3 : ws.length = last.length := by simpa using rc.length
  obtain ⟨z1, z2⟩ := hz
  obtain ⟨z3, z4⟩ := z2 (ri ++ [last]) (by simp)
  have z5 := z4 last (by simp)
  simp only [List.length_append, List.length_cons, List.length_nil] at z1 z3
  have hc : N c := (hN c).mpr (.inr (.inr (.inr rfl)))
  have ho := ev_last (p := xp2) (ev_last (p := xp) ((ev_name (p := op) (d := .raw (.ref a)) hk hx hd hn).use P fun v s₁ r k => ⟨inv_raw r, k⟩) (ev_neg (p := qp) (ev_int (k := k) (p := up))) P pa (by omega)) (ev_neg (p := qp2) (ev_int (k := k2) (p := up2))) P pb (by omega)
  refine r_append (fun N' y h => N' = N ∧ Rep N h (pcD pc) y) ho pcc (by simp; omega) hc hbs.2.2 (fun s₁ k₁ => he.use (P.kp k₁) fun y s₂ r k₂ => ⟨N, fun z q => .inl q, hc, fun z q => keep_some (k₁.trans k₂).keep z (P.old z q), ⟨rfl, r⟩, k₂⟩) (fun N' y h h' but _ g _ => ⟨g.1, g.2.grow (Grow.but but hc)⟩) L F P
    (fun N' y s' M F' P' g pc' but => ?_) hbase hfew hline htrees hi hs
  obtain ⟨rfl, ry⟩ := g
  have hg : Grow N' s.heap s'.heap := Grow.but but hc
  rw [addPc_eq] at h
  refine h s' M F' P' ⟨b, c, init, ri, last ++ [pc], vs, us, ws ++ [y], rfl, hN, ⟨hab, hac, hbc⟩, hnn, hbs, pa.at fun o e => but a o hac e, ra.grow hg, pb.at fun o e => but b o hbc e, rb.grow hg, by simpa using pc', ?_⟩
  rw [List.map_append]
  exact (rc.grow hg).append (.cons ry .nil)

/-- `x[-1].append([])` -/
theorem sp3_row {op ap cp p up qp xp lp : Pos} {k : Nat} (S : Sp3 N0 base a acc N s.heap) (hx : σ.lookup x = some (.raw (.ref a)))
    (hz : acc.length ≤ 1000 ∧ ∀ r ∈ acc, r.length ≤ 1000 ∧ ∀ q ∈ r, q.length ≤ 1000) (hk : env.scope.kind = .function) (L : Lib w base) (F : Fs base env s₀ s) (P : At w n N env σ A s)
    (h : ∀ N' s', Mv env N N' s s' → Fs base env s₀ s' → At w n N' env σ A s' → Sp3 N0 base a (addRow acc) N' s'.heap → Run w A env rest Q s')
    (hbase : attributeBase (.Subscript (.Name x op) (.UnaryOp .USub (.Constant (.int 1) k up) qp) xp) "append" env (eval (.Subscript (.Name x op) (.UnaryOp .USub (.Constant (.int 1) k up) qp) xp) env) = eval (.Subscript (.Name x op) (.UnaryOp .USub (.Constant (.int 1) k up) qp) xp) env := by rfl)
    (hfew : ((backTo cp (starEach [.List [] lp] env)).all (fun x => !x.1) && (backToKw cp (keywordEach [] env)).all (fun x => x.1.isSome)
      && decide (([.List [] lp] : List Expr).length + ([] : List Keyword).length + (if ([] : List Keyword).isEmpty then 0 else 1) < 30)) = true := by rfl)
    (hline : (ap.endLine == cp.line) = true := by rfl) (htrees : backTo cp (starEach [.List [] lp] env) = [(false, eval (.List [] lp) env)] := by rfl)
    (hi : interactive env = false := by rfl) (hs : swapsWith (.Call (.Attribute (.Subscript (.Name x op) (.UnaryOp .USub (.Constant (.int 1) k up) qp) xp) "append" ap) [.List [] lp] [] cp) none p.line env = pure false := by rfl)
    (hd : (x == ("__debug__" : Str)) = false := by decide) (hn : (x == ("__classdict__" : Str)) = false := by decide) :
    Run w A env (.Expr (.Call (.Attribute (.Subscript (.Name x op) (.UnaryOp .USub (.Constant (.int 1) k up) qp) xp) "append" ap) [.List [] lp] [] cp) p :: rest) Q s := by
  have hsz := sizeLine_eq
  obtain ⟨b, c, init, ri, last, vs, us, ws, rfl, hN, ⟨hab, hac, hbc⟩, hnn, hbs, pa, ra, pb, rb, pcc, rc⟩ := S
  have hl1 : vs.length = init.length := by simpa using ra.length
  have hl2 : us.length = ri.length := by simpa using rb.length
  obtain ⟨z1, z2⟩ := hz
  obtain ⟨z3, z4⟩ := z2 (ri ++ [last]) (by simp)
  simp only [List.length_append, List.length_cons, List.length_nil] at z1 z3
  have hb : N b := (hN b).mpr (.inr (.inr (.inl rfl)))
  have hA : N a := (hN a).mpr (.inr (.inl rfl))
  have ho := ev_last (p := xp) ((ev_name (p := op) (d := .raw (.ref a)) hk hx hd hn).use P fun v s₁ r k => ⟨inv_raw r, k⟩) (ev_neg (p := qp) (ev_int (k := k) (p := up))) P pa (by omega)
  refine r_append (fun N' y h => ∃ c', y = .ref c' ∧ c' ≠ b ∧ s.heap.get? c' = none ∧ (∀ z, N' z ↔ N0 z ∨ z = a ∨ z = b ∨ z = c') ∧ h.PlainList c' #[]) ho pb (by simp; omega) hb hbs.2.1 (fun s₁ k₁ => ?_) ?_ L F P (fun N' y s' M F' P' g pb' but => ?_) hbase hfew hline htrees hi hs
  · refine wp_use new1 fun y s₂ q => ?_
    obtain ⟨c', rfl, h1, h2, k₂⟩ := q
    have hne : ∀ {z}, N z → c' ≠ z := fun {z} hz e => by
      subst e
      have := keep_some k₁.keep c' (P.old _ hz)
      rw [h1] at this; cases this
    refine ⟨fun z => N0 z ∨ z = a ∨ z = b ∨ z = c', fun z q => ?_, .inr (.inr (.inl rfl)), fun z q => ?_, ⟨c', rfl, hne hb, none_of (keep_some k₁.keep) h1, fun z => Iff.rfl, h2⟩, k₂⟩
    · rcases q with q | rfl | rfl | rfl
      · exact .inl ((hN z).mpr (.inl q))
      · exact .inl hA
      · exact .inl hb
      · exact .inr h1
    · have kk := (k₁.trans k₂).keep
      rcases q with q | rfl | rfl | rfl
      · exact keep_some kk z (P.old z ((hN z).mpr (.inl q)))
      · exact keep_some kk z (P.old z hA)
      · exact keep_some kk z (P.old z hb)
      · obtain ⟨k, e⟩ := h2; rw [e]; rfl
  · rintro N' y h h' but _ ⟨b', e1, e2, e3, e4, k, e5⟩ _
    exact ⟨b', e1, e2, e3, e4, k, but b' _ e2 e5⟩
  · obtain ⟨c', rfl, hcb, hc', hN', pc'⟩ := g
    have hnew : ∀ z, N' z → N z ∨ s.heap.get? z = none := fun z q => by
      rcases (hN' z).mp q with q | rfl | rfl | rfl
      · exact .inl ((hN z).mpr (.inl q))
      · exact .inl hA
      · exact .inl hb
      · exact .inr hc'
    have hg : Grow N' s.heap s'.heap := Grow.but but ((hN' b).mpr (.inr (.inr (.inl rfl))))
    have hca : a ≠ c' := by rintro rfl; have := P.old _ hA; rw [hc'] at this; cases this
    have hcc : c ≠ c' := by rintro rfl; obtain ⟨k, e⟩ := pcc; rw [hc'] at e; cases e
    rw [addRow_eq] at h
    refine h N' s' M F' P' ⟨b, c', init, ri ++ [last], [], vs, us ++ [.ref c], [], by simp, hN', ⟨hab, hca, Ne.symm hcb⟩, ⟨hnn.1, hnn.2.1, fun q => ?_⟩, ⟨hbs.1, hbs.2.1, ?_⟩, pa.at fun o e => but a o hab e, (ra.more hnew).grow hg, by simpa using pb', ?_, pc', .nil⟩
    · have := P.old c' ((hN c').mpr (.inl q)); rw [hc'] at this; cases this
    · cases e : base.get? c' with
      | none => rfl
      | some o => rw [F.keep c' o e] at hc'; cases hc'
    · rw [List.map_append]
      refine ((rb.more hnew).grow hg).append (.cons (rep_lst (fun q => ?_) ((pcc.at fun o e => but c o (Ne.symm hbc) e).isList) ((rc.more hnew).grow hg)) .nil)
      rcases (hN' c).mp q with q | q | q | q
      · exact hnn.2.2 q
      · exact hac q.symm
      · exact hbc q.symm
      · exact hcc q

/-- `x.append([[]])` -/
theorem sp3_mail {op ap cp p lp lp2 : Pos} (S : Sp3 N0 base a acc N s.heap) (hx : σ.lookup x = some (.raw (.ref a)))
    (hz : acc.length ≤ 1000 ∧ ∀ r ∈ acc, r.length ≤ 1000 ∧ ∀ q ∈ r, q.length ≤ 1000) (hk : env.scope.kind = .function) (L : Lib w base) (F : Fs base env s₀ s) (P : At w n N env σ A s)
    (h : ∀ N' s', Mv env N N' s s' → Fs base env s₀ s' → At w n N' env σ A s' → Sp3 N0 base a (acc ++ [[[]]]) N' s'.heap → Run w A env rest Q s')
    (hbase : attributeBase (.Name x op) "append" env (eval (.Name x op) env) = eval (.Name x op) env := by rfl)
    (hfew : ((backTo cp (starEach [.List [.List [] lp] lp2] env)).all (fun x => !x.1) && (backToKw cp (keywordEach [] env)).all (fun x => x.1.isSome)
      && decide (([.List [.List [] lp] lp2] : List Expr).length + ([] : List Keyword).length + (if ([] : List Keyword).isEmpty then 0 else 1) < 30)) = true := by rfl)
    (hline : (ap.endLine == cp.line) = true := by rfl) (htrees : backTo cp (starEach [.List [.List [] lp] lp2] env) = [(false, eval (.List [.List [] lp] lp2) env)] := by rfl)
    (hi : interactive env = false := by rfl) (hs : swapsWith (.Call (.Attribute (.Name x op) "append" ap) [.List [.List [] lp] lp2] [] cp) none p.line env = pure false := by rfl)
    (hd : (x == ("__debug__" : Str)) = false := by decide) (hn : (x == ("__classdict__" : Str)) = false := by decide) :
    Run w A env (.Expr (.Call (.Attribute (.Name x op) "append" ap) [.List [.List [] lp] lp2] [] cp) p :: rest) Q s := by
  have hsz := sizeLine_eq
  obtain ⟨b, c, init, ri, last, vs, us, ws, rfl, hN, ⟨hab, hac, hbc⟩, hnn, hbs, pa, ra, pb, rb, pcc, rc⟩ := S
  have hl1 : vs.length = init.length := by simpa using ra.length
  obtain ⟨z1, z2⟩ := hz
  simp only [List.length_append, List.length_cons, List.length_nil] at z1
  have hA : N a := (hN a).mpr (.inr (.inl rfl))
  refine r_append (fun N' y h => ∃ b' c', y = .ref b' ∧ (b' ≠ a ∧ c' ≠ a ∧ b' ≠ c') ∧ (s.heap.get? b' = none ∧ s.heap.get? c' = none) ∧ (∀ z, N' z ↔ N0 z ∨ z = a ∨ z = b' ∨ z = c') ∧ h.PlainList b' #[.ref c'] ∧ h.PlainList c' #[]) ((ev_name (d := .raw (.ref a)) hk hx hd hn).use P fun v s₁ r k => ⟨inv_raw r, k⟩) pa (by simp; omega) hA hbs.1 (fun s₁ k₁ => ?_) ?_ L F P (fun N' y s' M F' P' g pa' but => ?_) hbase hfew hline htrees hi hs
  · refine wp_use new2 fun y s₂ q => ?_
    obtain ⟨b', c', rfl, hbc', h1, h2, p1, p2, k₂⟩ := q
    have hne : ∀ {z y}, N z → s₁.heap.get? y = none → y ≠ z := fun {z y} hz h e => by
      subst e
      have := keep_some k₁.keep y (P.old _ hz)
      rw [h] at this; cases this
    refine ⟨fun z => N0 z ∨ z = a ∨ z = b' ∨ z = c', fun z q => ?_, .inr (.inl rfl), fun z q => ?_, ⟨b', c', rfl, ⟨hne hA h1, hne hA h2, hbc'⟩, ⟨none_of (keep_some k₁.keep) h1, none_of (keep_some k₁.keep) h2⟩, fun z => Iff.rfl, p1, p2⟩, k₂⟩
    · rcases q with q | rfl | rfl | rfl
      · exact .inl ((hN z).mpr (.inl q))
      · exact .inl hA
      · exact .inr h1
      · exact .inr h2
    · have kk := (k₁.trans k₂).keep
      rcases q with q | rfl | rfl | rfl
      · exact keep_some kk z (P.old z ((hN z).mpr (.inl q)))
      · exact keep_some kk z (P.old z hA)
      · obtain ⟨k, e⟩ := p1; rw [e]; rfl
      · obtain ⟨k, e⟩ := p2; rw [e]; rfl
  · rintro N' y h h' but _ ⟨b', c', e1, e2, e3, e4, ⟨k, e5⟩, k2, e6⟩ _
    exact ⟨b', c', e1, e2, e3, e4, ⟨k, but b' _ e2.1 e5⟩, k2, but c' _ e2.2.1 e6⟩
  · obtain ⟨b', c', rfl, ⟨hba, hca, hbc'⟩, ⟨hb', hc'⟩, hN', pb', pc'⟩ := g
    have hnew : ∀ z, N' z → N z ∨ s.heap.get? z = none := fun z q => by
      rcases (hN' z).mp q with q | rfl | rfl | rfl
      · exact .inl ((hN z).mpr (.inl q))
      · exact .inl hA
      · exact .inr hb'
      · exact .inr hc'
    have hg : Grow N' s.heap s'.heap := Grow.but but ((hN' a).mpr (.inr (.inl rfl)))
    have nn : ∀ {z}, s.heap.get? z = none → ¬ N0 z := fun {z} e q => by have := P.old z ((hN z).mpr (.inl q)); rw [e] at this; cases this
    have fr : ∀ {z}, s.heap.get? z = none → base.get? z = none := fun {z} e => by
      cases q : base.get? z with
      | none => rfl
      | some o => rw [F.keep z o q] at e; cases e
    have old : ∀ {z y items}, s.heap.PlainList z items → s.heap.get? y = none → z ≠ y := fun {z y items} p e q => by subst q; obtain ⟨k, e2⟩ := p; rw [e] at e2; cases e2
    refine h N' s' M F' P' ⟨b', c', init ++ [ri ++ [last]], [], [], vs ++ [.ref b], [], [], rfl, hN', ⟨Ne.symm hba, Ne.symm hca, hbc'⟩, ⟨hnn.1, nn hb', nn hc'⟩, ⟨hbs.1, fr hb', fr hc'⟩, by simpa using pa', ?_, pb', .nil, pc', .nil⟩
    have notN : ∀ {z items}, s.heap.PlainList z items → z ≠ a → ¬ N0 z → ¬ N' z := fun {z items} p h1 h2 q => by
      rcases (hN' z).mp q with q | q | q | q
      · exact h2 q
      · exact h1 q
      · exact old p hb' q
      · exact old p hc' q
    rw [List.map_append]
    refine ((ra.more hnew).grow hg).append (.cons (rep_lst (notN pb (Ne.symm hab) hnn.2.1) ((pb.at fun o e => but b o (Ne.symm hab) e).isList) ?_) .nil)
    show Reps N' s'.heap ((ri ++ [last]).map rowP) _
    rw [List.map_append]
    exact ((rb.more hnew).grow hg).append (.cons (rep_lst (notN pcc (Ne.symm hac) hnn.2.2) ((pcc.at fun o e => but c o (Ne.symm hac) e).isList) ((rc.more hnew).grow hg)) .nil)
end
end Mine
end

section
open PySem PySem.W PyProof.Rows PySem.Calls
namespace Mine
section
variable {w : Wo} {n : Nat} {N N0 : Addr → Prop} {A : Around} {s s' : Shared} {h : Heap}

def strP (l : List Nat) : PyData := .str ⟨l.toArray⟩
def rowY (rows : List (List Nat)) : PyData := .list (rows.map strP)
theorem reads_strs : ∀ {row : List (List Nat)} {vs : List Value}, Reps N h (row.map .str) vs → ∃ as, ReadsAll h vs (row.map strP) as
  | [], vs, r => by rw [List.map_nil, Reps] at r; subst r; exact ⟨_, .nil⟩
  | l :: row, vs, r => by
    rw [List.map_cons, Reps] at r
    obtain ⟨v, q, rfl, a, b⟩ := r
    obtain ⟨t, rfl⟩ := inv_str a
    obtain ⟨as, ra⟩ := reads_strs b
    exact ⟨_, .cons (.str _ t) ra⟩
theorem reads_rows : ∀ {m : List (List (List Nat))} {vs : List Value}, Reps N h (m.map rowsD) vs → ∃ as, ReadsAll h vs (m.map rowY) as
  | [], vs, r => by rw [List.map_nil, Reps] at r; subst r; exact ⟨_, .nil⟩
  | l :: row, vs, r => by
    rw [List.map_cons, Reps] at r
    obtain ⟨v, q, rfl, a, b⟩ := r
    obtain ⟨z, us, rfl, _, ⟨o, ho, hc, k, hd⟩, ru⟩ := inv_lst a
    obtain ⟨as, ra⟩ := reads_rows b
    obtain ⟨bs, rb⟩ := reads_strs ru
    exact ⟨_, .cons (.list ho hc hd rb) ra⟩
theorem reads_mails {m : List (List (List Nat))} {v : Value} (r : Rep N h (mailsD m) v) : ∃ as, Reads h v (.list (m.map rowY)) as := by
  obtain ⟨z, us, rfl, _, ⟨o, ho, hc, k, hd⟩, ru⟩ := inv_lst r
  obtain ⟨bs, rb⟩ := reads_rows ru
  exact ⟨_, .list ho hc hd rb⟩
theorem lay_row : ∀ (row : List (List Nat)), (∀ l ∈ row, ∀ c ∈ l, c < 1114112) → PyData.canLayAll0 (row.map strP) = true
  | [], _ => by simp [PyData.canLayAll0]
  | l :: row, h => by
    have h1 : PyData.canLay0 (strP l) = true := by
      have := h l (List.mem_cons_self ..)
      simp only [strP, PyData.canLay0, PyData.strOk, List.all_toArray, List.all_eq_true, decide_eq_true_eq]
      exact this
    simp only [List.map_cons, PyData.canLayAll0, h1, lay_row row fun x hx => h x (List.mem_cons_of_mem _ hx), Bool.and_self]
theorem lay_rows : ∀ (m : List (List (List Nat))), (∀ row ∈ m, ∀ l ∈ row, ∀ c ∈ l, c < 1114112) → PyData.canLayAll0 (m.map rowY) = true
  | [], _ => by simp [PyData.canLayAll0]
  | l :: m, h => by
    have h1 : PyData.canLay0 (rowY l) = true := by
      simp only [rowY, PyData.canLay0]
      exact lay_row l (h l (List.mem_cons_self ..))
    simp only [List.map_cons, PyData.canLayAll0, h1, lay_rows m fun x hx => h x (List.mem_cons_of_mem _ hx), Bool.and_self]
theorem depth_strs : ∀ (row : List (List Nat)), PyData.depthAll (row.map strP) = 0
  | [] => by simp [PyData.depthAll]
  | l :: row => by simp only [List.map_cons, PyData.depthAll, strP, PyData.depth]; rw [depth_strs row]; rfl
theorem depth_rows : ∀ (m : List (List (List Nat))), PyData.depthAll (m.map rowY) ≤ 1
  | [] => by simp [PyData.depthAll]
  | l :: row => by
    have := depth_rows row
    simp only [List.map_cons, PyData.depthAll, rowY, PyData.depth, depth_strs]
    omega
/-- what is equal is not told apart -/
theorem cm_ne_mails {m : List (List (List Nat))} (hc : ∀ row ∈ m, ∀ l ∈ row, ∀ c ∈ l, c < 1114112) : Cm w n .NotEq (mailsD m) (mailsD m) false := fun N A s u v C ru rv => by
  obtain ⟨as, ra⟩ := reads_mails ru
  obtain ⟨bs, rb⟩ := reads_mails rv
  have hl : PyData.canLay0 (.list (m.map rowY)) = true := by simp only [PyData.canLay0]; exact lay_rows m hc
  have hd : PyData.depth (.list (m.map rowY)) ≤ 2 := by have := depth_rows m; simp only [PyData.depth]; omega
  refine SeqAt.compareNe_reads ra rb hl hl ?_ ?_
  · have := C.ok.2.2; omega
  · rw [SeqAt.eqv_refl _ hl]
    exact ⟨rfl, .refl _⟩
end
end Mine
end

section
open PySem PySem.W PyProof.Rows PySem.Calls
namespace Mine

def natsD (l : List Nat) : D := .lst (l.map fun t => .int (t : Nat))
def numsN (script : List Int) : List Nat := (script.take 9).map fun x => (x.fmod 16777216).toNat
def tsN (nums : List Nat) : List Nat := (List.range 3).map fun k => (nums.sum + 133) / 7 ^ k % 7
def tailN : List Nat := [3, 0, 1, 4, 0, 3, 0, 1, 3, 0, 4, 0, 1, 10]
def stepM (ts : List Nat) (acc : Mails) (x : Nat) : Mails := if x % 8 = 7 then acc ++ [[[]]] else if x % 8 = 1 then addRow acc else addPc acc (pieceN (x % 8) (x / 8) ts)
def mailsN (ts xs : List Nat) : Mails := xs.foldl (stepM ts) [[[]]]
def endsK (k : Nat) : List (List Nat) := if k = 0 then ends0 else ends1
def SmallM (m : Mails) : Prop := m.length ≤ 1000 ∧ ∀ r ∈ m, r.length ≤ 1000 ∧ ∀ q ∈ r, q.length ≤ 1000
/-- what the plain law gives the walk -/
structure LawOk (ts : List Nat) (xs : List Nat) : Prop where
  small : ∀ i, SmallM (mailsN ts (xs.take i))
  rows : rowsIn (mailsN ts xs) ≤ 1000
  row : ∀ rows ∈ mailsN ts xs, ∀ row ∈ rows, row.length ≤ 1000 ∧ ∀ p ∈ row, FateOk p
  relay : ∀ k, k < 3 → heard fold inT (ts.getD k 0) (sent (endsK k) (due (ts.take k) (mailsN ts xs)).dropLast) = due (ts.take (k + 1)) (mailsN ts xs)
  len : ∀ k, k < 3 → (due (ts.take k) (mailsN ts xs)).dropLast.length ≤ 1000000 ∧ ∀ rows ∈ (due (ts.take k) (mailsN ts xs)).dropLast, rows.length ≤ 1000000 ∧ (joined (endsK k) 0 rows).length ≤ 1000000
  sentl : ∀ k, k < 3 → (sent (endsK k) (due (ts.take k) (mailsN ts xs)).dropLast).length ≤ 1000000 ∧ ((sent (endsK k) (due (ts.take k) (mailsN ts xs)).dropLast).flatMap fold).length ≤ 100000
  chars : ∀ k, k < 3 → (due (ts.take (k + 1)) (mailsN ts xs)).length ≤ 1000000 ∧ ∀ row ∈ due (ts.take (k + 1)) (mailsN ts xs), ∀ l ∈ row, ∀ c ∈ l, c < 1114112

section
variable {w : Wo} {n : Nat} {N N0 : Addr → Prop} {A : Around} {s s' : Shared} {h : Heap}
theorem cb_sumn {l : List Nat} : CallB w n (.builtin "sum") [natsD l] (.int ((l.sum : Nat) : Int)) := by
  have := cb_sum (w := w) (n := n) (is := l.map fun t => ((t : Nat) : Int))
  have e : (l.map fun t => ((t : Nat) : Int)).sum = ((l.sum : Nat) : Int) := by
    induction l with
    | nil => rfl
    | cons a l ih => rw [List.map_cons, List.sum_cons, List.sum_cons, ih (by
        exact cb_sum)]; omega
  rw [List.map_map, e] at this
  exact this
theorem bind28 (a pm cd doc : Value) : bindArgs (docDef (dN (stm 28)) (dP (stm 28)) (dB (stm 28)) (dS (stm 28)) pm cd doc) ⟨[a], []⟩ = pure ((["script"] : List Str).zip [a]) := by kernel_rfl

theorem law_walk (hq : Quotes w (n + 1)) {script : List Int} (hs : script.length ≤ 63) (ok : LawOk (tsN (numsN script)) (numsN script ++ tailN)) :
    CallB w (n + 3) (.ref (w.ad "law")) [.lst (script.map .int)] (.bool true) := fun N A s vs C r => by
  obtain ⟨v0, rfl, _⟩ := reps1 r
  refine def_cell (i := 28) (n := n + 2) ["script"] (by decide) C r (fun _ _ _ => bind28 ..) (fun A' cd s₁ F P ap => ?_) (fun x hx => by
    simp at hx
    subst hx
    exact .inl rfl)
  have L := C.lib
  have hz := sizeLine_eq
  obtain ⟨nums, hnums⟩ : ∃ nums, numsN script = nums := ⟨_, rfl⟩
  obtain ⟨ts, hts⟩ : ∃ ts, tsN nums = ts := ⟨_, rfl⟩
  rw [hnums, hts] at ok
  have hnl : nums.length ≤ 9 := by rw [← hnums]; simp [numsN]; omega
  have htl : ts.length = 3 := by rw [← hts]; simp [tsN]
  have ht7 : ∀ t ∈ ts, t < 7 := by
    intro t ht
    rw [← hts] at ht
    obtain ⟨k, _, rfl⟩ := List.mem_map.mp ht
    exact Nat.mod_lt _ (by decide)
  have hnb : ∀ x ∈ nums, x < 16777216 := by
    intro x hx
    rw [← hnums] at hx
    obtain ⟨y, _, rfl⟩ := List.mem_map.mp hx
    have h1 := Int.fmod_lt_of_pos y (b := 16777216) (by decide)
    have h2 := Int.fmod_nonneg_of_pos y (b := 16777216) (by decide)
    omega
  -- numbers
  refine r_assign (d := natsD nums) ?e0 L F P rfl (fun _ k => (F.kp k).put rfl rfl ap (by omega)) fun s₂ N₂ P₂ => ?_
  case e0 =>
    refine ev_comp (fresh := false) (items := (script.map D.int).take 9) (σc := []) (cl := []) (it_list (ev_upto (ev_name rfl rfl) (ev_int (i := ((9 : Nat) : Int))) (by simp; omega)) (by simp; omega)) ⟨rfl, (fun x d e => by cases e), by decide +kernel, by decide +kernel, by decide +kernel⟩ (by rw [← hnums]; simp [numsN]) (fun i d e h1 h2 => ?_) ⟨.int 0, _, .name⟩
    rw [← List.map_take, List.getElem?_map] at h1
    obtain ⟨x, hx, rfl⟩ : ∃ x, (script.take 9)[i]? = some x ∧ D.int x = d := by simpa using h1
    have : e = .int (x.fmod 16777216) := by
      rw [← hnums, numsN, List.getElem?_map, List.getElem?_map, hx] at h2
      have h2 := Option.some.inj h2
      have e : (((x.fmod 16777216).toNat : Nat) : Int) = x.fmod 16777216 := Int.toNat_of_nonneg (Int.fmod_nonneg_of_pos x (by decide))
      rw [← h2]
      show D.int (((x.fmod 16777216).toNat : Nat) : Int) = _
      rw [e]
    subst this
    refine ⟨_, .name, by intro y hy; simp at hy; subst hy; rfl, fun C => ?_⟩
    exact ev_bin (b := .int 16777216) (ev_name rfl rfl) (ev_bin ev_int ev_int (bi_pow (a := 16) (b := 6) (by decide) (by decide))) (bi_mod (by decide))
  -- tables
  have hts2 : natsD ts = .lst ((List.range 3).map fun k => .int (((nums.sum + 133) / 7 ^ k % 7 : Nat) : Int)) := by rw [← hts]; simp [natsD, tsN]
  refine r_assign_comp (fresh := true) (items := upN 3) (out := (List.range 3).map fun k => .int (((nums.sum + 133) / 7 ^ k % 7 : Nat) : Int)) (σc := [("numbers", natsD nums)]) (cl := [("numbers", s.heap.objs.size + 1)]) (it_range (k := 3) (ev_blt rfl rfl rfl rfl) ev_int (by omega))
    ⟨rfl, caps_of (by intro p hp; simp at hp; subst hp; exact ⟨rfl, (by intro q; cases q), rfl, .inl rfl⟩), by decide +kernel, by decide +kernel, by decide +kernel⟩ (by simp [upN]) (fun i d e h1 h2 => ?et) ⟨.int 0, _, .name⟩ L N₂.fs P₂ rfl rfl (fun s₃ N₃ P₃ => ?_)
  case et =>
    have hi : i < 3 := by have := (List.getElem?_eq_some_iff.mp h1).1; simpa [upN] using this
    have e1 : d = .int (i : Nat) := by simp [upN, hi] at h1; exact h1.symm
    have e2 : e = .int (((nums.sum + 133) / 7 ^ i % 7 : Nat) : Int) := by simp [hi] at h2; rw [← h2]; rfl
    subst e1 e2
    refine ⟨_, .name, by intro y hy; simp at hy; subst hy; rfl, fun C => ?_⟩
    have hp7 : 0 < 7 ^ i ∧ 7 ^ i < 2 ^ 64 := by
      match i, hi with
      | 0, _ => decide
      | 1, _ => decide
      | 2, _ => decide
    have hpw : Bi w (n + 2) .Pow (.int ((7 : Nat) : Int)) (.int (i : Nat)) (.int ((7 ^ i : Nat) : Int)) := by
      have := bi_pow (w := w) (n := n + 2) (a := 7) (b := (i : Int)) (by omega) (by
        match i, hi with
        | 0, _ => decide
        | 1, _ => decide
        | 2, _ => decide)
      rwa [show ((7 : Int) ^ ((i : Int)).toNat) = ((7 ^ i : Nat) : Int) by rw [Int.toNat_natCast, Int.natCast_pow]; rfl] at this
    exact ev_bin (ev_bin (ev_bin (ev_callb (ev_blt rfl rfl rfl rfl) (evs_cons (ev_name (d := natsD nums) rfl rfl) evs_nil) cb_sumn) (ev_int (i := ((133 : Nat) : Int))) bi_addn) (ev_bin (ev_int (i := ((7 : Nat) : Int))) (ev_name rfl rfl) hpw) (bi_divn (by omega) hp7.2)) (ev_int (i := ((7 : Nat) : Int))) (bi_modn (by decide))
  rw [← hts2] at N₃ P₃
  -- mails
  refine sp3_start L N₃.fs P₃ rfl rfl fun N₄ a s₄ M₄ F₄ P₄ S₄ => ?_
  refine r_for (items := (nums ++ tailN).map fun t => .int (t : Nat)) (fun i => [("mails", .raw (.ref a)), ("tables", natsD ts)]) (fun i N' h => Sp3 N s.heap a (mailsN ts ((nums ++ tailN).take i)) N' h)
    (it_list ?ei (by simp [tailN]; omega)) L F₄ P₄ rfl (fun _ _ => .loc rfl) (fun i N h h' g S => S.grow g) (sto_sub (by intro p hp; simp at hp; rcases hp with rfl | rfl <;> rfl)) S₄ (fun i d N' s' hi M F' P' S => ?_) (fun N' s' M F' P' S => ?_)
  case ei =>
    rw [List.map_append]
    exact ev_bin (ev_name (d := natsD nums) rfl rfl) (ev_lit 9 _ _ (by kernel_rfl)) (bi_catl (by simp [tailN]; omega))
  · obtain ⟨x, hx, rfl⟩ : ∃ x, (nums ++ tailN)[i]? = some x ∧ D.int ((x : Nat) : Int) = d := by rw [List.getElem?_map] at hi; exact Option.map_eq_some_iff.mp hi
    have hxb : x < 16777216 := by
      rcases List.mem_append.mp (List.mem_of_getElem? hx) with h | h
      · exact hnb x h
      · have : ∀ x ∈ tailN, x < 16777216 := by decide
        exact this x h
    have htake : mailsN ts ((nums ++ tailN).take (i + 1)) = stepM ts (mailsN ts ((nums ++ tailN).take i)) x := by rw [List.take_add_one, hx]; simp [mailsN, List.foldl_append]
    have hsm := ok.small i
    rw [htake]
    obtain ⟨acc, hac⟩ : ∃ acc, mailsN ts ((nums ++ tailN).take i) = acc := ⟨_, rfl⟩
    rw [hac] at S hsm ⊢
    have fin : ∀ N₆ s₆ acc', stepM ts acc x = acc' → Mv (envOfC (dN (stm 28)) (dS (stm 28)) s.heap.objs.size (w.ad "law") cd) N' N₆ s' s₆ → Fs s.heap (envOfC (dN (stm 28)) (dS (stm 28)) s.heap.objs.size (w.ad "law") cd) s s₆ →
        At w (n + 2) N₆ (envOfC (dN (stm 28)) (dS (stm 28)) s.heap.objs.size (w.ad "law") cd) (("x", .int (x : Nat)) :: [("mails", .raw (.ref a)), ("tables", natsD ts)]) A' s₆ → Sp3 N s.heap a acc' N₆ s₆.heap →
        ∃ N'', Mv (envOfC (dN (stm 28)) (dS (stm 28)) s.heap.objs.size (w.ad "law") cd) N' N'' s' s₆ ∧ Fs s.heap (envOfC (dN (stm 28)) (dS (stm 28)) s.heap.objs.size (w.ad "law") cd) s s₆ ∧
          At w (n + 2) N'' (envOfC (dN (stm 28)) (dS (stm 28)) s.heap.objs.size (w.ad "law") cd) [("mails", .raw (.ref a)), ("tables", natsD ts)] A' s₆ ∧ Sp3 N s.heap a (stepM ts acc x) N'' s₆.heap := by
      rintro N₆ s₆ acc' e M₆ F₆ P₆ S₆
      rw [e]
      exact ⟨N₆, M₆, F₆, ⟨P₆.toCx, P₆.holds.sub (sto_sub (by intro p hp; simp at hp; rcases hp with rfl | rfl <;> rfl))⟩, S₆⟩
    refine r_if (b := decide (x % 8 = 7)) (evb_cmp (ev_bin (ev_name rfl rfl) (ev_int (i := ((8 : Nat) : Int))) (bi_modn (by decide))) (ev_int (i := ((7 : Nat) : Int))) cm_eq_nat) P' fun s₅ k₅ => ?_
    have S₅ := S.grow (.of k₅.keep)
    by_cases h7 : x % 8 = 7
    · simp only [h7, decide_true]
      exact sp3_mail S₅ rfl hsm rfl L (F'.kp k₅) (P'.kp k₅) fun N₆ s₆ M₆ F₆ P₆ S₆ => r_nil (r_nil (fin N₆ s₆ _ (by rw [stepM, if_pos h7]) ((Mv.kp k₅).trans M₆) F₆ P₆ S₆))
    · simp only [h7, decide_false]
      refine r_if (b := decide (x % 8 = 1)) (evb_cmp (ev_bin (ev_name rfl rfl) (ev_int (i := ((8 : Nat) : Int))) (bi_modn (by decide))) (ev_int (i := ((1 : Nat) : Int))) cm_eq_nat) (P'.kp k₅) fun s₆ k₆ => ?_
      have S₆ := S₅.grow (.of k₆.keep)
      by_cases h1 : x % 8 = 1
      · simp only [h1, decide_true]
        exact sp3_row S₆ rfl hsm rfl L ((F'.kp k₅).kp k₆) ((P'.kp k₅).kp k₆) fun N₇ s₇ M₇ F₇ P₇ S₇ => r_nil (r_nil (r_nil (fin N₇ s₇ _ (by rw [stepM, if_neg h7, if_pos h1]) (((Mv.kp k₅).trans (Mv.kp k₆)).trans M₇) F₇ P₇ S₇)))
      · simp only [h1, decide_false]
        have hkind : x % 8 = 0 ∨ (2 ≤ x % 8 ∧ x % 8 ≤ 6) := by omega
        refine sp3_piece (pc := pieceN (x % 8) (x / 8) ts) S₆ rfl (ev_callf (f := "_law_piece") (i := 23) (ev_glob rfl rfl rfl) (by decide) (evs_cons (ev_bin (ev_name rfl rfl) (ev_int (i := ((8 : Nat) : Int))) (bi_modn (by decide))) (evs_cons (ev_bin (ev_name rfl rfl) (ev_int (i := ((8 : Nat) : Int))) (bi_divn (by decide) (by decide))) (evs_cons (ev_name rfl rfl) evs_nil))) (law_piece hkind (by omega) htl ht7)) hsm rfl L ((F'.kp k₅).kp k₆) ((P'.kp k₅).kp k₆)
          fun s₇ M₇ F₇ P₇ S₇ => r_nil (r_nil (r_nil (fin N' s₇ _ (by rw [stepM, if_neg h7, if_neg h1]) (((Mv.kp k₅).trans (Mv.kp k₆)).trans M₇) F₇ P₇ S₇)))
  · rw [List.length_map, List.take_length] at S
    obtain ⟨mails, hml⟩ : ∃ mails, mailsN ts (nums ++ tailN) = mails := ⟨_, rfl⟩
    have P₅ := (P'.freeze (fun z q => S.low q)).known (x := "mails") rfl S.rep
    rw [hml] at P₅
    obtain ⟨rw1, rw2, rw3, rw4, rw5, rw6⟩ : rowsIn mails ≤ 1000 ∧ (∀ rows ∈ mails, ∀ row ∈ rows, row.length ≤ 1000 ∧ ∀ p ∈ row, FateOk p) ∧ True ∧ True ∧ True ∧ SmallM mails := by
      refine ⟨hml ▸ ok.rows, hml ▸ ok.row, trivial, trivial, trivial, ?_⟩
      have := ok.small (nums ++ tailN).length
      rwa [List.take_length, hml] at this
    have hrelay := hml ▸ ok.relay
    have hlen := hml ▸ ok.len
    have hsentl := hml ▸ ok.sentl
    have hchars := hml ▸ ok.chars
    have hzero := due_zero mails
    refine r_unpack_swapped ["texts", "ends"] (ds := [mailsD (due [] mails).dropLast, rowsD ends0]) (ev_tuple (evs_cons ?etx (evs_cons (ev_lit 9 _ _ (by kernel_rfl)) evs_nil)) (le_line (by simp))) L F' P₅ rfl rfl (by intro q hq; simp at hq; rcases hq with rfl | rfl <;> rfl) fun s₆ N₆ P₆ => ?_
    case etx =>
      rw [hzero, mailsD, List.map_map]
      refine ev_comp (fresh := false) (items := mails.map rowsP) (σc := []) (cl := []) (it_list (ev_name (d := mailsP mails) rfl rfl) (by have := rw6.1; simp; omega)) ⟨rfl, (fun x d e => by cases e), by decide +kernel, by decide +kernel, by decide +kernel⟩ (by simp) (fun i d e h1 h2 => ?_) ⟨.int 0, _, .name⟩
      obtain ⟨rows, hr, rfl⟩ : ∃ rows, mails[i]? = some rows ∧ rowsP rows = d := by simpa using h1
      have : e = rowsD (rows.map fun row => row.flatMap fun p => p.form 0) := by rw [List.getElem?_map, hr] at h2; cases h2; rfl
      subst this
      have hrm : rows ∈ mails := List.mem_of_getElem? hr
      refine ⟨_, .name, by intro y hy; simp at hy; subst hy; rfl, fun C => ?_⟩
      rw [rowsD, List.map_map]
      refine ev_comp (fresh := false) (items := rows.map rowP) (σc := []) (cl := []) (it_list (ev_name (d := rowsP rows) rfl rfl) (by have := (rw6.2 rows hrm).1; simp; omega)) ⟨rfl, (fun x d e => by cases e), by decide +kernel, by decide +kernel, by decide +kernel⟩ (by simp) (fun i d e h1 h2 => ?_) ⟨.int 0, _, .name⟩
      obtain ⟨row, hro, rfl⟩ : ∃ row, rows[i]? = some row ∧ rowP row = d := by simpa using h1
      have : e = .str (row.flatMap fun p => p.form 0) := by rw [List.getElem?_map, hro] at h2; cases h2; rfl
      subst this
      have hrom : row ∈ rows := List.mem_of_getElem? hro
      obtain ⟨hl1, hl2⟩ := rw2 rows hrm row hrom
      refine ⟨_, .name, by intro y hy; simp at hy; subst hy; rfl, fun C => ?_⟩
      rw [List.flatMap_def]
      refine ev_meth (ds := [.lst ((row.map fun p => p.form 0).map .str)]) (ev_str (l := []) rfl) (evs_cons ?_ evs_nil) str_kind PySem.F.plainAttrs_str PySem.F.slot_str_join PySem.F.type_str_join (cb_join ?hsum)
      case hsum =>
        have : ∀ r : List Pc, (∀ p ∈ r, FateOk p) → ((r.map fun p => p.form 0).map (·.length)).sum ≤ 3 * r.length := by
          intro r
          induction r with
          | nil => intro _; simp
          | cons p r ih =>
            intro h
            have h1 := ih fun x hx => h x (List.mem_cons_of_mem _ hx)
            have h2 := (h p (List.mem_cons_self ..)).1 0
            simp only [List.map_cons, List.sum_cons, List.length_cons]; omega
        have := this row hl2
        omega
      refine ev_comp (fresh := false) (items := row.map pcD) (σc := []) (cl := []) (it_list (ev_name (d := rowP row) rfl rfl) (by simp; omega)) ⟨rfl, (fun x d e => by cases e), by decide +kernel, by decide +kernel, by decide +kernel⟩ (by simp) (fun i d e h1 h2 => ?_) ⟨.tup [.int 0, .int 0], _, .pair⟩
      obtain ⟨p, hp, rfl⟩ : ∃ p, row[i]? = some p ∧ pcD p = d := by simpa using h1
      have : e = .str (p.form 0) := by rw [List.getElem?_map, List.getElem?_map, hp] at h2; cases h2; rfl
      subst this
      rw [pcD_eq]
      refine ⟨_, .pair, by intro y hy; simp at hy; rcases hy with rfl | rfl <;> rfl, fun C => ?_⟩
      refine ev_sub (a := .tup ((pcForms p).map .str)) (b := .int ((0 : Nat) : Int)) (ev_name rfl rfl) ev_int (sb_tup (by decide) ?_)
      cases p <;> rfl
    -- the relays
    refine r_for (items := upN 3) (fun k => [("texts", mailsD (due (ts.take k) mails).dropLast), ("ends", rowsD (endsK k)), ("mails", mailsP mails), ("tables", tabsD ts)]) (fun _ _ _ => True) (it_range (k := 3) (ev_blt rfl rfl rfl rfl) ev_int (by omega)) L N₆.fs P₆ rfl (fun _ _ => .loc rfl) (fun _ _ _ _ _ h => h)
      (sto_sub (by intro p hp; simp at hp; rcases hp with rfl | rfl | rfl | rfl <;> rfl)) trivial (fun k d N' s' hk M₇ F₇ P₇ _ => ?_) (fun N' s' M₇ F₇ P₇ _ => ?_)
    · have hk3 : k < 3 := by have := (List.getElem?_eq_some_iff.mp hk).1; simpa [upN] using this
      have e1 : d = .int (k : Nat) := by simp [upN, hk3] at hk; exact hk.symm
      subst e1
      have hkl : k < ts.length := by omega
      have hgk : ts[k]? = some (ts.getD k 0) := by rw [List.getD, List.getElem?_eq_getElem hkl]; rfl
      have htk := ht7 _ (List.mem_of_getElem? hgk)
      obtain ⟨l1, l2⟩ := hlen k hk3
      obtain ⟨l3, l4⟩ := hsentl k hk3
      obtain ⟨l5, l6⟩ := hchars k hk3
      have hends : 0 < (endsK k).length ∧ (endsK k).length ≤ 3 := by unfold endsK; split <;> decide
      have htab : (ts.map fun t => D.int ((t : Nat) : Int))[at_ (k : Int) (ts.map fun t => D.int ((t : Nat) : Int)).length]? = some (.int ((ts.getD k 0 : Nat) : Int)) := by
        unfold at_
        rw [if_pos (by omega), List.getElem?_map, Int.toNat_natCast, hgk]; rfl
      refine r_assign (d := mailsD (due (ts.take (k + 1)) mails)) ?eh L F₇ P₇ rfl (fun _ _ => .loc rfl) fun s₈ N₈ P₈ => ?_
      case eh =>
        rw [← hrelay k hk3]
        exact ev_callf (f := "_law_heard") (i := 25) (ev_glob rfl rfl rfl) (by decide) (evs_cons (ev_callf (f := "_law_sent") (i := 24) (ev_glob rfl rfl rfl) (by decide) (evs_cons (ev_name rfl rfl) (evs_cons (ev_name rfl rfl) evs_nil)) (law_sent hq hends l1 l2 l3))
          (evs_cons (ev_sub (a := tabsD ts) (b := .int (k : Nat)) (ev_name rfl rfl) (ev_name rfl rfl) (sb_list (by omega) (by omega) (by simp; omega) htab)) evs_nil)) (law_heard htk l3 l4)
      refine r_if (b := false) (evb_cmp (ev_name rfl rfl) (ev_callf (f := "_law_due") (i := 27) (d := mailsD (due (ts.take (k + 1)) mails)) (ds := [mailsP mails, tabsD (ts.take (k + 1))]) (ev_glob rfl rfl rfl) (by decide) (evs_cons (ev_name rfl rfl) (evs_cons ?eup evs_nil)) (law_due (by rw [List.length_take]; omega) rw1 rw2)) (cm_ne_mails l6)) P₈ fun s₉ k₉ => ?_
      case eup =>
        have : tabsD (ts.take (k + 1)) = .lst ((ts.map fun t => D.int ((t : Nat) : Int)).take (k + 1)) := by rw [tabsD, List.map_take]
        rw [this]
        exact ev_upto (ev_name (d := tabsD ts) rfl rfl) (ev_bin (ev_name rfl rfl) (ev_int (i := ((1 : Nat) : Int))) bi_addn) (by simp; omega)
      refine r_nil ?_
      refine r_unpack_swapped ["texts", "ends"] (ds := [mailsD (due (ts.take (k + 1)) mails).dropLast, rowsD ends1]) (ev_tuple (evs_cons ?ebl (evs_cons (ev_lit 9 _ _ (by kernel_rfl)) evs_nil)) (le_line (by simp))) L (N₈.fs.kp k₉) (P₈.kp k₉) rfl rfl (by intro q hq; simp at hq; rcases hq with rfl | rfl <;> rfl) fun s₁₀ N₁₀ P₁₀ => r_nil ?_
      case ebl =>
        show Ev _ _ _ _ _ (.lst ((due (ts.take (k + 1)) mails).dropLast.map rowsD))
        rw [← map_dropLast]
        exact ev_butLast (ev_name (d := mailsD (due (ts.take (k + 1)) mails)) rfl rfl) (ev_neg ev_int) (by simp; omega)
      have he1 : endsK (k + 1) = ends1 := rfl
      rw [he1]
      exact ⟨N', ((Mv.of N₈).trans (Mv.kp k₉)).trans (Mv.of N₁₀), N₁₀.fs, ⟨P₁₀.toCx, P₁₀.holds.sub (sto_sub (by intro p hp; simp at hp; rcases hp with rfl | rfl | rfl | rfl <;> rfl))⟩, trivial⟩
    · exact r_return ev_bool P₇ fun v s₈ rr k₈ => ⟨(by have := inv_bool rr; subst this; exact rep_bool), F₇.kp k₈⟩
end
end Mine
end

section
open PySem PySem.W PyProof.Rows PySem.Calls
namespace Mine
theorem b3_short : (b3Tab.all fun p => decide (p.2.length ≤ 4)) = true := by decide +kernel

/-! signs that no folding turns: by runs, each table read once a run -/
def b3Keys : List Nat := b3Tab.map fun p => p.1.toNat
def apart (a n : Nat) (k : Nat) : Bool := Nat.blt k a || Nat.ble (a + n) k
def apart2 (a n : Nat) (r : Nat × Nat × Nat) : Bool := Nat.blt r.2.1 a || Nat.ble (a + n) r.1
def still (a n : Nat) : Bool := b3Keys.all (apart a n) && (UnicodeData.oneLower.all (apart2 a n)) && ((UnicodeData.severalLower.all fun p => apart a n p.1) && apart a n 0x3A3)
theorem apart_ne {a n k c : Nat} (h : apart a n k = true) (h1 : a ≤ c) (h2 : c < a + n) : k ≠ c := by
  simp only [apart, Bool.or_eq_true, Nat.blt_eq, Nat.ble_eq] at h
  omega
theorem look_absent {β : Type} {c : Int} : ∀ {l : List (Int × β)}, (∀ p ∈ l, p.1 ≠ c) → l.lookup c = none
  | [], _ => rfl
  | p :: l, h => by
    have q : (c == p.1) = false := by
      have := h p (List.mem_cons_self ..)
      simpa using fun e : c = p.1 => this e.symm
    rw [List.lookup_cons, q]
    exact look_absent fun r hr => h r (List.mem_cons_of_mem _ hr)
theorem look_absentN {β : Type} {c : Nat} : ∀ {l : List (Nat × β)}, (∀ p ∈ l, p.1 ≠ c) → l.lookup c = none
  | [], _ => rfl
  | p :: l, h => by
    have q : (c == p.1) = false := by
      have := h p (List.mem_cons_self ..)
      simpa using fun e : c = p.1 => this e.symm
    rw [List.lookup_cons, q]
    exact look_absentN fun r hr => h r (List.mem_cons_of_mem _ hr)
theorem shifted_none {a n c : Nat} (h1 : a ≤ c) (h2 : c < a + n) : ∀ {l : List (Nat × Nat × Nat)}, (∀ r ∈ l, apart2 a n r = true) → Unicode.shifted l c = none
  | [], _ => rfl
  | (x, y, t) :: l, h => by
    have q := h _ (List.mem_cons_self ..)
    simp only [apart2, Bool.or_eq_true, Nat.blt_eq, Nat.ble_eq] at q
    unfold Unicode.shifted
    by_cases c1 : c < x
    · rw [if_pos c1]
    · rw [if_neg c1, if_neg (by omega)]
      exact shifted_none h1 h2 fun r hr => h r (List.mem_cons_of_mem _ hr)
theorem fold_still {a n c : Nat} (h : still a n = true) (h1 : a ≤ c) (h2 : c < a + n) : fold c = [c] := by
  simp only [still, Bool.and_eq_true] at h
  obtain ⟨⟨k1, k2⟩, k3, k4⟩ := h
  have e1 : b3Tab.lookup (c : Int) = none := look_absent fun p hp e => by
    have q := List.all_eq_true.mp k1 p.1.toNat (List.mem_map.mpr ⟨p, hp, rfl⟩)
    exact apart_ne q h1 h2 (by rw [e]; rfl)
  have e2 : UnicodeData.severalLower.lookup c = none := look_absentN fun p hp => apart_ne (List.all_eq_true.mp k3 p hp) h1 h2
  have e3 : Unicode.shifted UnicodeData.oneLower c = none := shifted_none h1 h2 fun r hr => List.all_eq_true.mp k2 r hr
  have e4 : (c == 0x3A3) = false := by
    have := apart_ne k4 h1 h2
    simpa using fun e : c = 0x3A3 => this e.symm
  unfold fold
  rw [e1]
  show (placed ⟨#[c]⟩ fun i _ => Unicode.lowerAt #[c] i).toList = [c]
  have e5 : Unicode.lowerAt #[c] 0 = [c] := by
    show (if (c == 0x3A3 && Unicode.endsWord #[c] 0) = true then [0x3C2] else Unicode.lowerOf c) = [c]
    rw [e4, Bool.false_and, if_neg Bool.false_ne_true]
    unfold Unicode.lowerOf Unicode.image
    rw [e2, e3]
    rfl
  simp [placed, e5]
theorem sign_still : ((List.range 7).all fun t => (runsAt t).all fun p => still p.1 p.2) = true := by decide +kernel
theorem sign_fold : ((List.range 7).all fun t => (runsAt t).all fun p => (List.range p.2).all fun i => fold (p.1 + i) == [p.1 + i]) = true := by
  simp only [List.all_eq_true]
  intro t ht p hp i hi
  have q := List.all_eq_true.mp (List.all_eq_true.mp sign_still t ht) p hp
  rw [fold_still q (Nat.le_add_right ..) (Nat.add_lt_add_left (List.mem_range.mp hi) _)]
  exact beq_self_eq_true _
theorem sign_in : ((List.range 7).all fun t => (runsAt t).all fun p => (List.range p.2).all fun i => (List.range 7).all fun T => inT T (p.1 + i) == decide (T = t)) = true := by decide +kernel
theorem plain_ok : ([46, 10, 13].all fun c => fold c == [c] && (List.range 7).all fun T => inT T c == false) = true := by decide +kernel
def goodB : Pc → Bool
  | .last f0 f1 f2 => (f0.flatMap fold == f1) && ((f1.flatMap fold == f2) && ((f2.flatMap fold == f2) && (((f0 ++ f1 ++ f2).all fun c => (c != 10) && ((c != 13) && ((decide (c < 1114112)) && (List.range 7).all fun T => inT T c == false))) &&
      ((f0 != []) && ((f1 != []) && ((f2 != []) && ((f0.head? != some 46) && ((f1.head? != some 46) && ((f2.head? != some 46) && (decide (f0.length ≤ 3) && (decide (f1.length ≤ 3) && decide (f2.length ≤ 3))))))))))))
  | _ => true
/-- a sign that stays as it is and is no row's end -/
def goodC (c : Nat) : Bool := still c 1 && ((c != 46) && ((c != 10) && ((c != 13) && ((decide (c < 1114112)) && (List.range 7).all fun T => inT T c == false))))
theorem goodB_of {c : Nat} (h : goodC c = true) : goodB (.last [c] [c] [c]) = true := by
  simp only [goodC, Bool.and_eq_true] at h
  obtain ⟨h1, h2, h3, h4, h5, h6⟩ := h
  have e := fold_still h1 (Nat.le_refl c) (Nat.lt_succ_self c)
  have e46 : (some c != some 46) = true := by simpa using h2
  simp only [goodB, List.flatMap_cons, List.flatMap_nil, List.append_nil, e, List.all_append, List.all_cons, List.all_nil, Bool.and_true, List.head?_cons, h3, h4, h5, h6, e46, Bool.true_and, Bool.and_self, beq_self_eq_true]
  rfl
def lasts3 : List Pc := [.last [81] [113] [113], .last [7838] [223] [115, 115], .last [13255] [99, 111, 46] [99, 111, 46]]
def lasts : List Pc := [.last [81] [113] [113], .last [7838] [223] [115, 115], .last [13255] [99, 111, 46] [99, 111, 46]] ++ endsS.map (fun c => .last [c] [c] [c]) ++ besideS.map fun c => .last [c] [c] [c]
theorem lasts3_ok : lasts3.all goodB = true := by decide +kernel
theorem ends_ok : (endsS ++ besideS).all goodC = true := by decide +kernel
theorem lasts_ok : lasts.all goodB = true := by
  show (lasts3 ++ endsS.map (fun c => Pc.last [c] [c] [c]) ++ besideS.map fun c => Pc.last [c] [c] [c]).all goodB = true
  have q := ends_ok
  rw [List.all_append, Bool.and_eq_true] at q
  rw [List.all_append, List.all_append, lasts3_ok, List.all_map, List.all_map, Bool.true_and, Bool.and_eq_true]
  exact ⟨List.all_eq_true.mpr fun c hc => goodB_of (List.all_eq_true.mp q.1 c hc), List.all_eq_true.mpr fun c hc => goodB_of (List.all_eq_true.mp q.2 c hc)⟩
end Mine
end

section
open PySem PySem.W PyProof.Rows PySem.Calls
namespace Mine

theorem look_mem {α β : Type} [BEq α] [LawfulBEq α] {k : α} {v : β} : ∀ {l : List (α × β)}, l.lookup k = some v → (k, v) ∈ l
  | (a, b) :: l, h => by
    rw [List.lookup_cons] at h
    by_cases q : k = a
    · subst q
      simp only [beq_self_eq_true] at h
      cases h; exact List.mem_cons_self ..
    · rw [show (k == a) = false by simpa using q] at h
      exact List.mem_cons_of_mem _ (look_mem h)
theorem fold_len (c : Nat) : (fold c).length ≤ 4 := by
  unfold fold
  cases h : b3Tab.lookup (c : Int) with
  | some l =>
    have hm : ((c : Int), l) ∈ b3Tab := look_mem h
    have := List.all_eq_true.mp b3_short _ hm
    exact of_decide_eq_true this
  | none =>
    have := PyProof.Rows.len_lower ⟨#[c]⟩
    have h1 : (⟨#[c]⟩ : Str).length = 1 := rfl
    rw [h1] at this
    have e : (Txt.lower ⟨#[c]⟩).cps.toList.length = (Txt.lower ⟨#[c]⟩).length := by simp [PySem.Str.length]
    show (Txt.lower ⟨#[c]⟩).cps.toList.length ≤ 4
    omega
theorem plain : Plain fold inT := by
  intro c hc
  have h := List.all_eq_true.mp plain_ok c (by simp; omega)
  simp only [Bool.and_eq_true, beq_iff_eq, List.all_eq_true, List.mem_range] at h
  exact ⟨h.1, h.2⟩
theorem good_sign {t v : Nat} (ht : t < 7) : Good fold inT (.sign (heldN t v) t) ∧ heldN t v < 1114112 := by
  obtain ⟨hl0, _⟩ := runs_len ht
  have hk0 : v % (runsAt t).length < (runsAt t).length := Nat.mod_lt _ hl0
  obtain ⟨p, hp⟩ : ∃ p, (runsAt t)[v % (runsAt t).length]? = some p := ⟨_, List.getElem?_eq_getElem hk0⟩
  have hpm : p ∈ runsAt t := List.mem_of_getElem? hp
  obtain ⟨q1, q2, q3⟩ := runs_ok ht p hpm
  have hgd : (runsAt t).getD (v % (runsAt t).length) (0, 1) = p := by rw [List.getD, hp]; rfl
  have hi : v / (runsAt t).length % p.2 < p.2 := Nat.mod_lt _ q1
  have e : heldN t v = p.1 + v / (runsAt t).length % p.2 := by rw [heldN, hgd]
  have h1 := List.all_eq_true.mp (List.all_eq_true.mp (List.all_eq_true.mp sign_fold t (List.mem_range.mpr ht)) p hpm) _ (List.mem_range.mpr hi)
  have h2 := List.all_eq_true.mp (List.all_eq_true.mp (List.all_eq_true.mp sign_in t (List.mem_range.mpr ht)) p hpm) _ (List.mem_range.mpr hi)
  rw [← e] at h1 h2
  have h2 : ∀ T, T < 7 → inT T (heldN t v) = decide (T = t) := fun T hT => by
    have := List.all_eq_true.mp h2 T (List.mem_range.mpr hT)
    exact beq_iff_eq.mp this
  have hne : ∀ c, (c = 46 ∨ c = 10 ∨ c = 13) → heldN t v ≠ c := fun c hc q => by
    have h3 := (plain c hc).2 t ht
    rw [← q, h2 t ht] at h3
    simp at h3
  exact ⟨⟨ht, beq_iff_eq.mp h1, hne 46 (by simp), hne 10 (by simp), hne 13 (by simp), h2⟩, by omega⟩
/-- all that is asked of a piece -/
def PcOk (p : Pc) : Prop := Good fold inT p ∧ FateOk p ∧ ∀ k, ∀ c ∈ p.form k, c < 1114112
theorem pc_sign {t v : Nat} (ht : t < 7) : PcOk (.sign (heldN t v) t) := by
  obtain ⟨h1, h2⟩ := good_sign (v := v) ht
  refine ⟨h1, ⟨fun k => by simp [Pc.form], fun _ _ _ e => by cases e⟩, fun k c hc => ?_⟩
  simp only [Pc.form, List.mem_cons, List.not_mem_nil, or_false] at hc
  rw [hc]; exact h2
theorem pc_dot : PcOk .dot := ⟨trivial, ⟨fun k => by simp [Pc.form], fun _ _ _ e => by cases e⟩, fun k c hc => by simp only [Pc.form, List.mem_cons, List.not_mem_nil, or_false] at hc; omega⟩
theorem pc_last {p : Pc} (hp : p ∈ lasts) : PcOk p := by
  have h := List.all_eq_true.mp lasts_ok p hp
  have hs : ∃ f0 f1 f2, p = .last f0 f1 f2 := by
    simp only [lasts, List.mem_append, List.mem_cons, List.not_mem_nil, or_false, List.mem_map] at hp
    rcases hp with ((rfl | rfl | rfl) | ⟨c, _, rfl⟩) | ⟨c, _, rfl⟩ <;> exact ⟨_, _, _, rfl⟩
  obtain ⟨f0, f1, f2, rfl⟩ := hs
  simp only [goodB, Bool.and_eq_true, beq_iff_eq, bne_iff_ne, decide_eq_true_eq, List.all_eq_true, List.mem_range] at h
  obtain ⟨a1, a2, a3, a4, a5, a6, a7, a8, a9, a10, a11, a12, a13⟩ := h
  refine ⟨⟨a1, a2, a3, fun c hc => ⟨(a4 c hc).1, (a4 c hc).2.1, (a4 c hc).2.2.2⟩, a5, a6, a7, a8, a9, a10⟩, ⟨fun k => ?_, fun g0 g1 g2 e => ?_⟩, fun k c hc => ?_⟩
  · match k with
    | 0 => exact a11
    | 1 => exact a12
    | k + 2 => exact a13
  · cases e
    rintro rfl
    exact a8 rfl
  · have : c ∈ f0 ++ f1 ++ f2 := by
      match k with
      | 0 => have hc : c ∈ f0 := hc; simp [hc]
      | 1 => have hc : c ∈ f1 := hc; simp [hc]
      | k + 2 => have hc : c ∈ f2 := hc; simp [hc]
    exact (a4 c this).2.2.1
theorem lastN_mem (v : Nat) : lastN v ∈ lasts := by
  have e6 : v / 5 % 6 < endsS.length := Nat.mod_lt _ (by decide)
  have e30 : v / 5 % 30 < besideS.length := Nat.mod_lt _ (by decide)
  have g6 : endsS.getD (v / 5 % 6) 0 ∈ endsS := by rw [List.getD, List.getElem?_eq_getElem e6]; exact List.getElem_mem e6
  have g30 : besideS.getD (v / 5 % 30) 0 ∈ besideS := by rw [List.getD, List.getElem?_eq_getElem e30]; exact List.getElem_mem e30
  have h5 : v % 5 < 5 := Nat.mod_lt _ (by decide)
  unfold lastN lasts
  generalize v % 5 = k at h5
  match k, h5 with
  | 0, _ => simp
  | 1, _ => simp
  | 2, _ => simp
  | 3, _ => exact List.mem_append_left _ (List.mem_append_right _ (List.mem_map.mpr ⟨_, g6, rfl⟩))
  | 4, _ => exact List.mem_append_right _ (List.mem_map.mpr ⟨_, g30, rfl⟩)
theorem pc_piece {kind v : Nat} {ts : List Nat} (hk : kind = 0 ∨ (2 ≤ kind ∧ kind ≤ 6)) (hl : ts.length = 3) (hts : ∀ t ∈ ts, t < 7) : PcOk (pieceN kind v ts) := by
  unfold pieceN
  split
  · exact pc_dot
  · split
    · exact pc_last (lastN_mem v)
    · split
      · exact pc_sign (Nat.mod_lt _ (by decide))
      · rename_i h0 h2 h6
        have hj : kind - 3 < ts.length := by omega
        refine pc_sign (hts _ ?_)
        rw [List.getD, List.getElem?_eq_getElem hj]; exact List.getElem_mem hj

/-- all pieces of the mails are good, and there are few -/
def AllPc (m : Mails) : Prop := ∀ rows ∈ m, ∀ row ∈ rows, ∀ p ∈ row, PcOk p
def big (m : Mails) : Nat := (m.map fun rows => 1 + (rows.map fun row => 1 + row.length).sum).sum
theorem last_split {α : Type} {l : List α} (h : l ≠ []) : ∃ i x, l = i ++ [x] := ⟨l.dropLast, l.getLast h, (List.dropLast_concat_getLast h).symm⟩
def Shape (m : Mails) : Prop := ∃ init ri last, m = init ++ [ri ++ [last]]
theorem big_app (a b : Mails) : big (a ++ b) = big a + big b := by simp [big]
theorem step_ok {ts : List Nat} (hl : ts.length = 3) (hts : ∀ t ∈ ts, t < 7) {m : Mails} (hs : Shape m) (hp : AllPc m) (x : Nat) : Shape (stepM ts m x) ∧ AllPc (stepM ts m x) ∧ big (stepM ts m x) ≤ big m + 2 := by
  obtain ⟨init, ri, last, rfl⟩ := hs
  unfold stepM
  split
  · refine ⟨⟨init ++ [ri ++ [last]], [], [], rfl⟩, fun rows hr row hro p hpp => ?_, by rw [big_app]; simp [big]⟩
    rcases List.mem_append.mp hr with h | h
    · exact hp rows h row hro p hpp
    · simp at h; subst h; simp at hro; subst hro; cases hpp
  · split
    · rw [addRow_eq]
      refine ⟨⟨init, ri ++ [last], [], rfl⟩, fun rows hr row hro p hpp => ?_, by rw [big_app, big_app]; simp [big]; omega⟩
      rcases List.mem_append.mp hr with h | h
      · exact hp rows (List.mem_append_left _ h) row hro p hpp
      · simp only [List.mem_cons, List.not_mem_nil, or_false] at h
        subst h
        rcases List.mem_append.mp hro with h | h
        · exact hp _ (List.mem_append_right _ (List.mem_cons_self ..)) row h p hpp
        · simp at h; subst h; cases hpp
    · rename_i h7 h1
      rw [addPc_eq]
      refine ⟨⟨init, ri, _, rfl⟩, fun rows hr row hro p hpp => ?_, by rw [big_app, big_app]; simp [big]; omega⟩
      rcases List.mem_append.mp hr with h | h
      · exact hp rows (List.mem_append_left _ h) row hro p hpp
      · simp only [List.mem_cons, List.not_mem_nil, or_false] at h
        subst h
        have hmem : (ri ++ [last]) ∈ init ++ [ri ++ [last]] := List.mem_append_right _ (List.mem_cons_self ..)
        rcases List.mem_append.mp hro with h | h
        · exact hp _ hmem row (List.mem_append_left _ h) p hpp
        · simp only [List.mem_cons, List.not_mem_nil, or_false] at h
          subst h
          rcases List.mem_append.mp hpp with h | h
          · exact hp _ hmem last (List.mem_append_right _ (List.mem_cons_self ..)) p h
          · simp only [List.mem_cons, List.not_mem_nil, or_false] at h
            subst h
            exact pc_piece (by omega) hl hts
theorem mails_ok {ts : List Nat} (hl : ts.length = 3) (hts : ∀ t ∈ ts, t < 7) (xs : List Nat) : ∀ (m : Mails), Shape m → AllPc m → Shape (xs.foldl (stepM ts) m) ∧ AllPc (xs.foldl (stepM ts) m) ∧ big (xs.foldl (stepM ts) m) ≤ big m + 2 * xs.length := by
  induction xs with
  | nil => intro m h1 h2; exact ⟨h1, h2, by simp⟩
  | cons x xs ih =>
    intro m h1 h2
    obtain ⟨s1, s2, s3⟩ := step_ok hl hts h1 h2 x
    obtain ⟨t1, t2, t3⟩ := ih _ s1 s2
    exact ⟨t1, t2, by simp only [List.foldl_cons, List.length_cons]; omega⟩
end Mine
end

section
open PySem PySem.W PyProof.Rows PySem.Calls
namespace Mine

theorem norm_len : ∀ l : List Nat, (norm l).length ≤ 2 * l.length
  | [] => by simp [norm]
  | [c] => by rw [norm]; split <;> simp
  | c :: d :: r => by
    rw [norm]
    split
    · have := norm_len r; simp only [List.length_cons]; omega
    · split
      · have := norm_len (d :: r); simp only [List.length_cons] at this ⊢; omega
      · have := norm_len (d :: r); simp only [List.length_cons] at this ⊢; omega
theorem stuff_len : ∀ (b : Bool) (l : List Nat), (stuff b l).length ≤ 2 * l.length
  | _, [] => by simp [stuff]
  | b, c :: r => by
    rw [stuff]
    split
    · have := stuff_len false r; simp only [List.length_cons]; omega
    · have := stuff_len (c == 10) r; simp only [List.length_cons]; omega
theorem quote_len (l : List Nat) : (quote l).length ≤ 4 * l.length := by
  have h1 := norm_len l
  have h2 := stuff_len true (norm l)
  unfold quote; omega
def wtR (rows : List (List Nat)) : Nat := (rows.map fun r => 4 * (r.length + 2)).sum
def wt (m : List (List (List Nat))) : Nat := (m.map fun rows => 3 + wtR rows).sum
theorem wt_app (a b : List (List (List Nat))) : wt (a ++ b) = wt a + wt b := by simp [wt]
theorem wtR_app (a b : List (List Nat)) : wtR (a ++ b) = wtR a + wtR b := by simp [wtR]
theorem joined_len {ends : List (List Nat)} (he : ∀ e ∈ ends, e.length ≤ 2) : ∀ (rows : List (List Nat)) (k : Nat), 4 * (joined ends k rows).length ≤ wtR rows
  | [], k => by simp [joined]
  | r :: rows, k => by
    have ih := joined_len he rows (k + 1)
    have h1 : (endAt ends k).length ≤ 2 := by
      unfold endAt
      rw [List.getD]
      cases h : ends[k % ends.length]? with
      | none => simp
      | some e => exact he e (List.mem_of_getElem? h)
    simp only [joined, wtR, List.map_cons, List.sum_cons, List.length_append] at ih ⊢
    omega
theorem sent_len {ends : List (List Nat)} (he : ∀ e ∈ ends, e.length ≤ 2) : ∀ m : List (List (List Nat)), (sent ends m).length ≤ wt m
  | [] => by simp [sent]
  | rows :: m => by
    have ih := sent_len he m
    have h1 := quote_len (joined ends 0 rows)
    have h2 := joined_len he rows 0
    simp only [sent, wt, List.flatMap_cons, List.map_cons, List.sum_cons, List.length_append, List.length_cons, List.length_nil] at ih ⊢
    omega
theorem rows_le (rows : List (List Nat)) : rows.length ≤ wtR rows := by
  induction rows with
  | nil => simp
  | cons r rows ih => simp only [wtR, List.map_cons, List.sum_cons, List.length_cons] at ih ⊢; omega
theorem mails_le (m : List (List (List Nat))) : m.length ≤ wt m := by
  induction m with
  | nil => simp
  | cons r m ih => simp only [wt, List.map_cons, List.sum_cons, List.length_cons] at ih ⊢; omega
theorem wt_mem {rows : List (List Nat)} : ∀ {m : List (List (List Nat))}, rows ∈ m → wtR rows ≤ wt m
  | a :: m, h => by
    simp only [wt, List.map_cons, List.sum_cons]
    rcases List.mem_cons.mp h with rfl | h
    · omega
    · have := wt_mem h; simp only [wt] at this; omega
def evw : Option (List Nat) → Nat
  | none => 3
  | some l => 4 * (l.length + 2)
theorem wt_push {acc : List (List (List Nat))} (h : acc ≠ []) (e : Option (List Nat)) : wt (pushE acc e) = wt acc + evw e := by
  obtain ⟨init, l, rfl⟩ := last_split h
  cases e with
  | none => simp [pushE, evw, wt, wtR]; omega
  | some x => simp [pushE, evw, wt, wtR]; omega
theorem wt_foldl : ∀ (evs : List (Option (List Nat))) (acc : List (List (List Nat))), acc ≠ [] → wt (evs.foldl pushE acc) = wt acc + (evs.map evw).sum
  | [], acc, _ => by simp
  | e :: evs, acc, h => by rw [List.foldl_cons, wt_foldl evs _ (pushE_ne e), wt_push h, List.map_cons, List.sum_cons]; omega

theorem fgo_all {ts : List Nat} (P : Nat → Prop) (h46 : P 46) : ∀ (row : List Pc) (left : List Nat) (ahead lst : Int) (front : Bool) (l : List Nat), (∀ p ∈ row, (∀ k, (p.form k).length ≤ 3) ∧ ∀ k, ∀ c ∈ p.form k, P c) → (∀ c ∈ left, P c) → fgo ts row left ahead lst front = some l → l.length ≤ left.length + 3 * row.length ∧ ∀ c ∈ l, P c
  | [], left, _, _, _, l, _, hl, h => by rw [fgo] at h; cases h; exact ⟨by simp, hl⟩
  | .sign c t :: r, left, ahead, lst, front, l, g, hl, h => by
    rw [fgo] at h
    have h0 := g _ (List.mem_cons_self ..)
    obtain ⟨a, b⟩ := fgo_all P h46 r _ _ _ _ l (fun p hp => g p (List.mem_cons_of_mem _ hp)) (by
      intro x hx
      rcases List.mem_append.mp hx with hx | hx
      · exact hl x hx
      · split at hx
        · exact h0.2 0 x hx
        · cases hx) h
    refine ⟨?_, b⟩
    have : (if List.idxOf t ts = ts.length then [c] else ([] : List Nat)).length ≤ 1 := by split <;> simp
    simp only [List.length_append, List.length_cons] at a ⊢; omega
  | .last f0 f1 f2 :: r, left, ahead, lst, front, l, g, hl, h => by
    rw [fgo] at h
    have h0 := g _ (List.mem_cons_self ..)
    obtain ⟨a, b⟩ := fgo_all P h46 r _ _ _ _ l (fun p hp => g p (List.mem_cons_of_mem _ hp)) (by
      intro x hx
      rcases List.mem_append.mp hx with hx | hx
      · exact hl x hx
      · exact h0.2 _ x hx) h
    have := h0.1 ts.length
    refine ⟨?_, b⟩
    simp only [List.length_append, List.length_cons] at a ⊢; omega
  | .dot :: r, left, ahead, lst, front, l, g, hl, h => by
    rw [fgo] at h
    split at h
    · split at h
      · cases h
      · obtain ⟨a, b⟩ := fgo_all P h46 r _ _ _ _ l (fun p hp => g p (List.mem_cons_of_mem _ hp)) hl h
        exact ⟨by simp only [List.length_cons]; omega, b⟩
    · obtain ⟨a, b⟩ := fgo_all P h46 r _ _ _ _ l (fun p hp => g p (List.mem_cons_of_mem _ hp)) (by
        intro x hx
        rcases List.mem_append.mp hx with hx | hx
        · exact hl x hx
        · simp at hx; subst hx; exact h46) h
      exact ⟨by simp only [List.length_append, List.length_cons, List.length_nil] at a ⊢; omega, b⟩
theorem fate_all {ts : List Nat} {row : List Pc} (g : ∀ p ∈ row, PcOk p) {l : List Nat} (h : fate ts row = some l) : l.length ≤ 3 * row.length ∧ ∀ c ∈ l, c < 1114112 := by
  have := fgo_all (fun c => c < 1114112) (by decide) row [] _ _ _ l (fun p hp => ⟨(g p hp).2.1.1, (g p hp).2.2⟩) (fun _ h => nomatch h) h
  simpa using this
theorem evw_rows (ts : List Nat) : ∀ (rows : List (List Pc)), (∀ row ∈ rows, ∀ p ∈ row, PcOk p) → ((rows.map (fate ts)).map evw).sum ≤ 12 * (rows.map fun row => 1 + row.length).sum
  | [], _ => by simp
  | row :: rows, g => by
    have ih := evw_rows ts rows fun r hr => g r (List.mem_cons_of_mem _ hr)
    have h1 : evw (fate ts row) ≤ 12 * (1 + row.length) := by
      cases h : fate ts row with
      | none => simp [evw]; omega
      | some l => have := (fate_all (g row (List.mem_cons_self ..)) h).1; simp only [evw]; omega
    simp only [List.map_cons, List.sum_cons] at ih ⊢; omega
theorem evw_events (ts : List Nat) : ∀ (m : Mails), AllPc m → ((events ts m).map evw).sum ≤ 12 * big m
  | [], _ => by simp [events]
  | rows :: m, g => by
    have ih := evw_events ts m fun r hr => g r (List.mem_cons_of_mem _ hr)
    have h1 := evw_rows ts rows (g rows (List.mem_cons_self ..))
    unfold events at ih ⊢
    rw [List.flatMap_cons, List.map_append, List.sum_append, List.map_append, List.sum_append]
    simp only [big, List.map_cons, List.sum_cons, List.map_nil, List.sum_nil, evw] at ih ⊢
    omega
theorem due_wt {ts : List Nat} {m : Mails} (g : AllPc m) : wt (due ts m) ≤ 3 + 12 * big m := by
  unfold due segs
  rw [wt_foldl _ _ (by simp)]
  have := evw_events ts m g
  have e : wt [[]] = 3 := rfl
  omega
theorem wt_dropLast (m : List (List (List Nat))) : wt m.dropLast ≤ wt m := by
  by_cases h : m = []
  · subst h; simp
  · obtain ⟨i, x, rfl⟩ := last_split h
    rw [List.dropLast_concat, wt_app]; omega
theorem fold_all (l : List Nat) : (l.flatMap fold).length ≤ 4 * l.length := by
  induction l with
  | nil => simp
  | cons c l ih => have := fold_len c; rw [List.flatMap_cons, List.length_append, List.length_cons]; omega
theorem big_mem {rows : List (List Pc)} : ∀ {m : Mails}, rows ∈ m → 1 + (rows.map fun row => 1 + row.length).sum ≤ big m
  | a :: m, h => by
    simp only [big, List.map_cons, List.sum_cons]
    rcases List.mem_cons.mp h with rfl | h
    · omega
    · have := big_mem h; simp only [big] at this; omega
theorem row_mem {row : List Pc} : ∀ {rows : List (List Pc)}, row ∈ rows → 1 + row.length ≤ (rows.map fun row => 1 + row.length).sum
  | a :: m, h => by
    simp only [List.map_cons, List.sum_cons]
    rcases List.mem_cons.mp h with rfl | h
    · omega
    · have := row_mem h; omega
theorem big_len (m : Mails) : m.length ≤ big m := by
  induction m with
  | nil => simp
  | cons r m ih => simp only [big, List.map_cons, List.sum_cons, List.length_cons] at ih ⊢; omega
theorem rows_big (rows : List (List Pc)) : rows.length ≤ (rows.map fun row => 1 + row.length).sum := by
  induction rows with
  | nil => simp
  | cons r m ih => simp only [List.map_cons, List.sum_cons, List.length_cons] at ih ⊢; omega
theorem rowsIn_big (m : Mails) : rowsIn m ≤ 3 * big m := by
  induction m with
  | nil => simp [rowsIn]
  | cons r m ih => have := rows_big r; simp only [big, rowsIn, List.map_cons, List.sum_cons] at ih ⊢; omega
theorem small_big {m : Mails} (h : big m ≤ 1000) : SmallM m := by
  refine ⟨by have := big_len m; omega, fun r hr => ⟨?_, fun q hq => ?_⟩⟩
  · have h1 := big_mem hr; have h2 := rows_big r; omega
  · have h1 := big_mem hr; have h2 := row_mem hq; omega

theorem law_ok (script : List Int) : LawOk (tsN (numsN script)) (numsN script ++ tailN) := by
  obtain ⟨nums, hnums⟩ : ∃ nums, numsN script = nums := ⟨_, rfl⟩
  obtain ⟨ts, hts⟩ : ∃ ts, tsN nums = ts := ⟨_, rfl⟩
  rw [hnums, hts]
  have hnl : nums.length ≤ 9 := by rw [← hnums]; simp [numsN]; omega
  have htl : ts.length = 3 := by rw [← hts]; simp [tsN]
  have ht7 : ∀ t ∈ ts, t < 7 := by
    intro t ht
    rw [← hts] at ht
    obtain ⟨k, _, rfl⟩ := List.mem_map.mp ht
    exact Nat.mod_lt _ (by decide)
  have init : ∀ xs : List Nat, Shape (mailsN ts xs) ∧ AllPc (mailsN ts xs) ∧ big (mailsN ts xs) ≤ 2 + 2 * xs.length := fun xs =>
    mails_ok htl ht7 xs [[[]]] ⟨[], [], [], rfl⟩ (fun rows hr row hro p hp => by simp at hr; subst hr; simp at hro; subst hro; cases hp)
  have hxl : (nums ++ tailN).length ≤ 23 := by simp [tailN]; omega
  obtain ⟨sh, al, bg⟩ := init (nums ++ tailN)
  have hb : big (mailsN ts (nums ++ tailN)) ≤ 48 := by omega
  obtain ⟨m, hm⟩ : ∃ m, mailsN ts (nums ++ tailN) = m := ⟨_, rfl⟩
  have hd : ∀ t : List Nat, wt (due t m) ≤ 579 := fun t => by have := due_wt (ts := t) (hm ▸ al); have := hm ▸ hb; omega
  have hends : ∀ k, ∀ e ∈ endsK k, e.length ≤ 2 := by intro k; unfold endsK; split <;> decide
  have hne : m ≠ [] := by obtain ⟨i, r, l, e⟩ := hm ▸ sh; rw [e]; simp
  refine ⟨fun i => small_big ?_, ?_, ?_, ?_, ?_, ?_, ?_⟩
  · have := (init ((nums ++ tailN).take i)).2.2
    have h2 : ((nums ++ tailN).take i).length ≤ (nums ++ tailN).length := by rw [List.length_take]; omega
    omega
  · have := rowsIn_big (mailsN ts (nums ++ tailN)); omega
  · intro rows hr row hro
    have h1 := big_mem hr; have h2 := row_mem hro
    exact ⟨by omega, fun p hp => (al rows hr row hro p hp).2.1⟩
  · intro k hk
    have hkl : k < ts.length := by omega
    have htk : ts.take (k + 1) = ts.take k ++ [ts.getD k 0] := by rw [List.take_add_one, List.getElem?_eq_getElem hkl, List.getD, List.getElem?_eq_getElem hkl]; rfl
    have hgm : ts.getD k 0 < 7 := ht7 _ (by rw [List.getD, List.getElem?_eq_getElem hkl]; exact List.getElem_mem hkl)
    rw [htk, hm]
    exact relay plain hgm hne (fun rows hr row hro p hp => ((hm ▸ al) rows hr row hro p hp).1) _ (by unfold endsK; split <;> simp)
  · intro k hk
    rw [hm]
    have h1 := hd (ts.take k)
    have h2 := wt_dropLast (due (ts.take k) m)
    refine ⟨by have := mails_le (due (ts.take k) m).dropLast; omega, fun rows hr => ?_⟩
    have h3 := wt_mem hr
    have h4 := rows_le rows
    have h5 := joined_len (hends k) rows 0
    exact ⟨by omega, by omega⟩
  · intro k hk
    rw [hm]
    have h1 := hd (ts.take k)
    have h2 := wt_dropLast (due (ts.take k) m)
    have h3 := sent_len (hends k) (due (ts.take k) m).dropLast
    have h4 := fold_all (sent (endsK k) (due (ts.take k) m).dropLast)
    exact ⟨by omega, by omega⟩
  · intro k hk
    rw [hm]
    have h1 := hd (ts.take (k + 1))
    refine ⟨by have := mails_le (due (ts.take (k + 1)) m); omega, fun row hrow l hl => ?_⟩
    rcases mem_segs _ _ row l hrow hl with ⟨x, hx, hx'⟩ | h
    · simp at hx; subst hx; cases hx'
    · rcases events_mem h with h | ⟨rows', q1, row', q2, q3⟩
      · cases h
      · exact (fate_all ((hm ▸ al) rows' q1 row' q2) q3.symm).2

/-- the law holds of a heap as the top leaves it, if quotedata quotes -/
theorem law_true {w : Wo} {n : Nat} (hq : Quotes w (n + 1)) {script : List Int} (hs : script.length ≤ 63) : CallB w (n + 3) (.ref (w.ad "law")) [.lst (script.map .int)] (.bool true) := law_walk hq hs (law_ok script)
end Mine
end

section
open PySem PySem.W PyProof.Rows PySem.Calls
namespace Mine
open PySem.Sre

theorem run_add (m : M) : ∀ (a b : Nat) (m : M), M.runFor (a + b) m = M.runFor b (M.runFor a m)
  | 0, b, m => by rw [Nat.zero_add]; rfl
  | a + 1, b, m => by
    rw [Nat.add_right_comm, M.runFor, M.runFor]
    split
    · rename_i h
      cases b with
      | zero => rfl
      | succ b => rw [M.runFor, if_pos h]
    · exact run_add m a b _
theorem run_stuck {m : M} (h : m.outcome.isSome = true) (n : Nat) : M.runFor n m = m := by
  cases n with
  | zero => rfl
  | succ n => rw [M.runFor, if_pos h]

section
variable {MM' : Model} {A : Around} {E : Value → Shared → Prop} {s : Shared}
theorem wp_drive {f : M} {Q : M → Shared → Prop} (ho : f.outcome.isSome = true) (h : Q f s) : ∀ (T k : Nat) (m : M), k ≤ 4 * T → (∀ n, M.runFor (k + n) m = f) → wpAny MM' A (Builtin.Re.reDrive (T + 1) m) Q E s
  | T, k, m, hk, hr => by
    unfold Builtin.Re.reDrive
    have e4 : Builtin.Re.reTurnSteps = 4 := rfl
    simp only [e4]
    by_cases q : (M.runFor 4 m).outcome.isSome = true
    · have : M.runFor 4 m = f := by
        have h1 := hr 4
        rw [Nat.add_comm, run_add m, run_stuck q] at h1
        exact h1
      rw [this, if_pos ho]
      exact wpAny_pure h
    · rw [if_neg q]
      refine wpAny_bind (wpAny_rule ?_)
      match T, hk with
      | 0, hk =>
        have : k = 0 := by omega
        subst this
        have h1 := hr 4
        rw [Nat.zero_add] at h1
        rw [h1] at q
        exact absurd ho q
      | T + 1, hk =>
        by_cases h4 : k ≤ 4
        · have h1 := hr (4 - k)
          rw [show k + (4 - k) = 4 by omega] at h1
          rw [h1] at q
          exact absurd ho q
        · refine wp_drive ho h T (k - 4) _ (by omega) fun n => ?_
          rw [← run_add m, show 4 + (k - 4 + n) = k + n by omega]
          exact hr n
theorem wp_run {f : M} {m : M} {k : Nat} {Q : Option M → Shared → Prop} (hk : k ≤ 2 ^ 60) (hr : ∀ n, M.runFor (k + n) m = f)
    (ho : (f.outcome = some .matched ∧ Q (some f) s) ∨ (f.outcome = some .failed ∧ Q none s)) : wpAny MM' A (Builtin.Re.reRunToEnd m) Q E s := by
  unfold Builtin.Re.reRunToEnd
  have h64 : (2 : Nat) ^ 64 = (2 ^ 64 - 1) + 1 := by decide
  rw [h64]
  have hsome : f.outcome.isSome = true := by rcases ho with ho | ho <;> rw [ho.1] <;> rfl
  refine wpAny_bind (wpAny_mono (wp_drive (Q := fun m' s' => m' = f ∧ s' = s) hsome ⟨rfl, rfl⟩ _ k m (by omega) hr) (fun m' s' e => ?_) fun _ _ e => e)
  · obtain ⟨rfl, rfl⟩ := e
    refine wpAny_bind (wpAny_forIn_list _ (fun _ _ s'' => s'' = s') _ ?_ ?_ _ _ rfl)
    · rintro i rest b s'' rfl
      by_cases c : m'.seen.has i = true
      · rw [if_pos c]; exact wpAny_bind (wpAny_rule (wpAny_pure rfl))
      · rw [if_neg c]; exact wpAny_pure rfl
    · rintro b s'' rfl
      rcases ho with ⟨ho, h⟩ | ⟨ho, h⟩
      · rw [ho]; exact wpAny_pure h
      · rw [ho]; exact wpAny_pure h
end

theorem search1 (t : Array Nat) {s : Nat} (hs : s ≤ t.size) : ∃ k f, k ≤ 5 * t.size + 20 ∧ (∀ n, M.runFor (k + n) (forSearch code1 t 0 s t.size false) = f) ∧
    ((f.outcome = some .failed ∧ ∀ e, s ≤ e → ¬ Dot t e) ∨ ∃ e, f.outcome = some .matched ∧ f.start = e ∧ f.handed = e + 1 ∧ s ≤ e ∧ Dot t e ∧ ∀ j, s ≤ j → j < e → ¬ Dot t j) := by
  by_cases h : s = t.size
  · have e : ∃ m, forSearch code1 t 0 s t.size false = m ∧ m.outcome = none ∧ m.answer = some false ∧ m.frames = [] := by
      subst h
      refine ⟨_, rfl, ?_⟩
      unfold forSearch
      have c : (decide (t.size > t.size) || decide (t.size - t.size < (header code1).1)) = true := by
        have : (header code1).1 = 1 := rfl
        rw [Nat.sub_self, this]; simp
      simp only [Bool.or_eq_true, decide_eq_true_eq] at c ⊢
      rw [if_pos c]
      exact ⟨rfl, rfl, rfl⟩
    obtain ⟨m, e, h1, h2, h3⟩ := e
    rw [e]
    have t1 := To.one h1 (back_end h1 h2 h3)
    exact ⟨1, _, by omega, fun n => t1.end rfl n, .inl ⟨rfl, fun e he q => by have := q.1; omega⟩⟩
  · have hlt : s < t.size := by omega
    have e : forSearch code1 t 0 s t.size false = A1 t s true (({} : Sre.Seen).add 14) := by
      unfold forSearch
      have c : ¬ (s > t.size ∨ t.size - s < (header code1).1) := by
        have : (header code1).1 = 1 := rfl
        rw [this]; omega
      simp only [Bool.or_eq_true, decide_eq_true_eq]
      rw [if_neg c]
      rfl
    rw [e]
    obtain ⟨k, f, h1, h2, h3⟩ := a1_run t (t.size - s) s true (({} : Sre.Seen).add 14) rfl hs
    have hsome : f.outcome.isSome = true := by
      rcases h3 with h3 | ⟨e, h3, _⟩
      · rw [h3.1]; rfl
      · rw [h3]; rfl
    exact ⟨k, f, by omega, fun n => h2.end hsome n, h3⟩
theorem search2 (t : Array Nat) {s : Nat} (hs : s ≤ t.size) : ∃ k f, k ≤ 20 ∧ (∀ n, M.runFor (k + n) (forSearch code2 t 0 s t.size false) = f) ∧
    ((f.outcome = some .failed ∧ ∀ e, s ≤ e → ¬ EndAt t e) ∨ ∃ e, f.outcome = some .matched ∧ f.start = e ∧ f.handed = e + endLen t e ∧ s ≤ e ∧ EndAt t e ∧ ∀ j, s ≤ j → j < e → ¬ EndAt t j) := by
  have stop : ∀ m : M, m.outcome = none → m.answer = some false → m.frames = [] → (∀ e, s ≤ e → ¬ EndAt t e) → ∃ k f, k ≤ 20 ∧ (∀ n, M.runFor (k + n) m = f) ∧
      ((f.outcome = some .failed ∧ ∀ e, s ≤ e → ¬ EndAt t e) ∨ ∃ e, f.outcome = some .matched ∧ f.start = e ∧ f.handed = e + endLen t e ∧ s ≤ e ∧ EndAt t e ∧ ∀ j, s ≤ j → j < e → ¬ EndAt t j) := fun m h1 h2 h3 h4 => by
    have t1 := To.one h1 (back_end h1 h2 h3)
    exact ⟨1, _, by omega, fun n => t1.end rfl n, .inl ⟨rfl, h4⟩⟩
  by_cases h : s = t.size
  · have e : ∃ m, forSearch code2 t 0 s t.size false = m ∧ m.outcome = none ∧ m.answer = some false ∧ m.frames = [] := by
      subst h
      refine ⟨_, rfl, ?_⟩
      unfold forSearch
      have c : (t.size > t.size ∨ t.size - t.size < (header code2).1) := by
        rw [Nat.sub_self]; right; decide
      simp only [Bool.or_eq_true, decide_eq_true_eq]
      rw [if_pos c]
      exact ⟨rfl, rfl, rfl⟩
    obtain ⟨m, e, h1, h2, h3⟩ := e
    rw [e]
    exact stop m h1 h2 h3 fun e he q => by have := q.1; omega
  · have hlt : s < t.size := by omega
    have e : ∃ m : M, forSearch code2 t 0 s t.size false = m.attemptFrom s true ∧ m.code = code2 ∧ m.lim = t.size ∧ m.text = t ∧ m.outcome = none ∧ m.frames = [] ∧ m.answer = none ∧
        ∀ sn e, ({ m with mustAdvance := false, seen := sn } : M).attemptAt e true = A2 t e sn := by
      unfold forSearch
      have c : ¬ (s > t.size ∨ t.size - s < (header code2).1) := by
        have : (header code2).1 = 1 := rfl
        rw [this]; omega
      simp only [Bool.or_eq_true, decide_eq_true_eq]
      rw [if_neg c]
      exact ⟨_, rfl, rfl, rfl, rfl, rfl, rfl, rfl, fun sn e => rfl⟩
    obtain ⟨m, e, hc, hl, ht, ho, hf, ha, hat⟩ := e
    rw [e]
    unfold M.attemptFrom
    have hfs : m.hasFirstSet = true := by unfold M.hasFirstSet; rw [hc]; decide
    rw [hfs]
    obtain ⟨r, n1, e1, z⟩ := admit2 m hc (m.lim + 1 - s) s m.seen (by omega)
    rw [e1]
    rw [hl, ht] at z
    rcases z with ⟨rfl, z⟩ | ⟨e2, rfl, z1, z2, z3, z4⟩
    · exact stop _ ho rfl hf fun e he q => z e he q.1 q.2
    · obtain ⟨k, f, g1, g2, g3, g4, g5⟩ := a2_run (t := t) (s := e2) (sn := n1) ⟨z2, z3⟩
      refine ⟨k, f, g1, fun n => ?_, .inr ⟨e2, g3, g4, g5, z1, ⟨z2, z3⟩, fun j a b q => z4 j a b q.2⟩⟩
      show M.runFor (k + n) (({ m with mustAdvance := false, seen := n1 } : M).attemptAt e2 true) = f
      rw [hat]
      exact g2.end (by rw [g3]; rfl) n
end Mine
end

section
open PySem PySem.W PyProof.Rows PySem.Calls
namespace Mine
theorem plainAttrs_pat : PlainAttrs "re.Pattern" :=
  ⟨⟨"object.__getattribute__", by rw [typeLookup_type, builtinLookup_eq_fast]; kernel_rfl, by decide +kernel⟩, by rw [typeLookup_type, builtinLookup_eq_fast]; kernel_rfl⟩
theorem slot_pat_sub : Slot "re.Pattern" "sub" "re.Pattern.sub" :=
  .of (owner := "re.Pattern") (n := "sub") (by rw [typeLookup_type, builtinLookup_eq_fast]; kernel_rfl) (by decide +kernel) (by decide +kernel) (by decide +kernel)
    (by first | exact .inl (by decide +kernel) | exact .inr (by decide +kernel)) (by rw [isSubtype_type]; kernel_rfl)
theorem type_pat_sub : typeOf (.builtin "re.Pattern.sub") = pure (.type "method_descriptor") := by show builtinType _ = _; rw [builtinType_eq_fast]; kernel_rfl
theorem entry_pat_sub : entryFor table "re.Pattern.sub" = some Builtin.«re.Pattern.sub» := entryFor_of_tree (by kernel_rfl)
theorem entry_pat_loop : entryFor table "re.Pattern.sub.loop" = some Builtin.«re.Pattern.sub.loop» := entryFor_of_tree (by kernel_rfl)
theorem plain_pat_loop : plainId "re.Pattern.sub.loop" = true := by decide +kernel
end Mine
end

section
open PySem PySem.W PyProof.Rows PySem.Calls
namespace Mine
open PySem.Sre
section
variable {w : Wo} {A : Around} {E : Value → Shared → Prop} {s : Shared}

def targetOf (a : Addr) (codes : List Int) (x : Str) (t : Tok) : Builtin.Re.ReTarget := { pattern := .ref a, string := .str x t, code := (codes.map (·.toNat)).toArray, text := x.cps, kind := 0, groups := 0, pos := 0, lim := x.cps.size }
theorem wp_target {a : Addr} {text : Str} {fl : Int} {codes : List Int} (p : PatAt s.heap a text fl codes) {x : Str} {t : Tok} {Q : Builtin.Re.ReTarget → Shared → Prop} (h : Q (targetOf a codes x t) s) : wpAny (MM w) A (Builtin.Re.reWholeTarget (.ref a) (.str x t)) Q E s := by
  obtain ⟨c, t1, t2, t3, y1, y2, ts, h1, o, h2, h3, n, h4⟩ := p
  unfold Builtin.Re.reWholeTarget
  refine wpAny_bind (wpAny_fieldsOf h1 rfl ?_)
  refine wpAny_bind ?_
  unfold Builtin.Re.reTextOf asStr?
  refine wpAny_bind (wpAny_pure ?_)
  refine wpAny_pure ?_
  refine wpAny_bind (wpAny_pure ?_)
  unfold Builtin.Re.reRawItems
  refine wpAny_bind (wpAny_bind (wpAny_seqItems h2 h4 (wpAny_pure ?_)))
  refine wpAny_pure ?_
  have e : ((((some (codes.map fun i => Value.int i 0).toArray).getD #[]).map Builtin.Re.reRawOf).map (·.toNat)) = (codes.map (·.toNat)).toArray := by
    simp [Builtin.Re.reRawOf]
  have h' : Q { pattern := .ref a, string := .str x t, code := ((((some (codes.map fun i => Value.int i 0).toArray).getD #[]).map Builtin.Re.reRawOf).map (·.toNat)), text := x.cps, kind := 0, groups := 0, pos := 0, lim := x.cps.size } s := by rw [e]; exact h
  exact h'
end
end Mine
end

section
open PySem PySem.W PyProof.Rows PySem.Calls
namespace Mine
open PySem.Sre
section
variable {w : Wo} {A : Around} {E : Value → Shared → Prop} {s : Shared}

theorem wp_push {D : Addr} {items : Array Value} {v : Value} {Q : Unit → Shared → Prop} (hl : s.heap.PlainList D items) (hz : items.size ≤ sizeLine) (h : ∀ h', h'.PlainList D (items.push v) → But D s.heap h' → Q () { s with heap := h' }) :
    wpAny (MM w) A (updateSeq D (·.push v)) Q E s := by
  obtain ⟨n, ho⟩ := hl
  refine wpAny_updateSeq ho rfl (h _ ⟨n + 1, ?_⟩ (Heap.SameBut.update ..).extBut) hz (by simp; omega)
  rw [Heap.get?_update_self _ ho (by rw [Obj.mapSeq_push_plain]; rfl), Obj.mapSeq_push_plain]
theorem PatAt.but {h h' : Heap} {a D : Addr} {x : Str} {f : Int} {cs : List Int} {items : Array Value} (p : PatAt h a x f cs) (hl : h.PlainList D items) (k : But D h h') : PatAt h' a x f cs := by
  obtain ⟨c, t1, t2, t3, x, y, ts, h1, o, h2, h3, n, h4⟩ := p
  obtain ⟨m, e⟩ := hl
  refine ⟨c, t1, t2, t3, x, y, ts, k _ _ ?_ h1, o, k _ _ ?_ h2, h3, n, h4⟩
  · rintro rfl
    rw [e] at h1
    injection h1 with h1
    injection h1 with q1 q2 q3 q4
    cases q3
  · rintro rfl
    rw [e] at h2
    injection h2 with h2
    rw [← h2] at h3
    injection h3 with h3
    exact absurd h3 (by decide)
theorem wp_slice {t : Array Nat} {b e : Nat} {Q : Value → Shared → Prop} (hz : t.size ≤ sizeLine) (h : Q (.str ⟨t.extract b e⟩ s.toks) { s with toks := s.toks + 1 }) : wpAny (MM w) A (Builtin.Re.reSlice t 0 b e) Q E s := by
  unfold Builtin.Re.reSlice
  rw [if_pos (by decide)]
  exact wpAny_mkStr h (by simp [PySem.Str.length]; omega)
theorem strsAre_push {items : Array Value} {ys : List Str} {x : Str} {t : Tok} (h : StrsAre items.toList ys) : StrsAre (items.push (.str x t)).toList (ys ++ [x]) := by
  rw [Array.toList_push]
  have : ∀ {vs : List Value} {ys : List Str}, StrsAre vs ys → StrsAre (vs ++ [.str x t]) (ys ++ [x]) := by
    intro vs ys h
    induction h with
    | nil => exact .cons x t .nil
    | cons y u r ih => exact .cons y u ih
  exact this h

/-- what the search at a place finds, and what the text becomes from there -/
def Finds (codes : Array Nat) (t : Array Nat) (rp : List Nat) (rest : Nat → List Nat) : Prop := ∀ p, p ≤ t.size → ∃ k f, k ≤ 2 ^ 60 ∧ (∀ n, M.runFor (k + n) (forSearch codes t 0 p t.size false) = f) ∧
  ((f.outcome = some .failed ∧ rest p = t.toList.drop p) ∨ ∃ e h, f.outcome = some .matched ∧ f.start = e ∧ f.handed = h ∧ p ≤ e ∧ e < h ∧ h ≤ t.size ∧ rest p = (t.toList.drop p).take (e - p) ++ rp ++ rest h)

def loopArgs (a D : Addr) (x rp : Str) (t u : Tok) (n done : Int) : Args := ⟨[.ref a, .str x t, .str rp u, .int 0 0, .int 0 0, .int n 0, .int done 0, .int done 0, .bool false, .ref D, .bool false], []⟩
def mkS (l : List Nat) : Str := ⟨l.toArray⟩
theorem loop_ok {a D : Addr} {text : Str} {fl : Int} {codes : List Int} {x rp : Str} {t u : Tok} {rest : Nat → List Nat} (hf : Finds (codes.map (·.toNat)).toArray x.cps rp.cps.toList rest) (hx : x.cps.size ≤ 2000000) {R : Result → Shared → Prop} :
    ∀ (d done n : Nat) (items : Array Value) (ys : List (List Nat)) (s : Shared), x.cps.size - done = d → done ≤ x.cps.size → s.heap.PlainList D items → StrsAre items.toList (ys.map mkS) → PatAt s.heap a text fl codes →
      items.size ≤ 2 * done → (ys.flatten ++ rest done).length ≤ 16000000 → (items.size = 0 → ys = []) →
      (∀ h' tk t', But D s.heap h' → R (.ok (.ret (.str (mkS (ys.flatten ++ rest done)) t'))) { s with heap := h', toks := tk }) →
      codeAny (MM w) A (.builtin "re.Pattern.sub.loop" (loopArgs a D x rp t u n done)) R s
  | d, done, n, items, ys, s, hd, hdl, hl, hi, hp, hsz, hlen, h0, hR => by
    have hz := sizeLine_eq
    refine codeAny_builtin entry_pat_loop ?_
    rw [Around.under_plainId plain_pat_loop _]
    show wpAny (MM w) A.in1 (Builtin.«re.Pattern.sub.loop» (loopArgs a D x rp t u n done)) _ _ s
    unfold Builtin.«re.Pattern.sub.loop» loopArgs
    refine wpAny_bind (wp_target hp ?_)
    obtain ⟨k, f, hk, hrun, hcase⟩ := hf done hdl
    refine wpAny_bind (wpAny_pure ?_)
    dsimp only
    rw [Int.toNat_natCast]
    refine wpAny_bind ?_
    rw [if_neg (by simp)]
    unfold Builtin.Re.reNextFound
    have cut : ∀ p q, (⟨x.cps.extract p q⟩ : Str) = mkS ((x.cps.toList.drop p).take (q - p)) := fun p q => by
      unfold mkS
      congr 1
      apply Array.toList_inj.mp
      simp [List.extract]
    refine wp_run hk hrun ?_
    rcases hcase with ⟨ho, hrest⟩ | ⟨e, h, ho, hst, hha, he1, he2, he3, hrest⟩
    · refine .inr ⟨ho, ?_⟩
      dsimp only
      have last : ∀ (items1 : Array Value) (ys1 : List (List Nat)) (s1 : Shared), s1.heap.PlainList D items1 → StrsAre items1.toList (ys1.map mkS) → But D s.heap s1.heap → (∃ h' tk, s1 = { s with heap := h', toks := tk }) → (items1.size = 0 → ys1 = []) → items1.size ≤ 2 * x.cps.size + 1 → ys1.flatten = ys.flatten ++ rest done →
          wpAny (MM w) A.in1 (do
            let joiner ← Builtin.Re.reSlice (targetOf a codes x t).text (targetOf a codes x t).kind 0 0
            let __do_lift ← seqItems? (Value.ref D)
            have __do_jp : Value → Sem PySem.Fin := fun text =>
              if false = true then do
                let __do_lift ← holding [text] do
                  let __do_lift ← mkInt (n : Int)
                  newTuple [text, __do_lift]
                ret __do_lift
              else ret text
            if (__do_lift.getD #[]).isEmpty = true then do
                let text ← pure joiner
                __do_jp text
              else do
                let text ← call (Value.builtin (if (targetOf a codes x t).kind == 0 then "str.join" else "bytes.join")) [joiner, Value.ref D]
                __do_jp text)
            (fun fin s' => match fin with | .done f => R (.ok f) s' | .again c' => c'.quiet = true ∧ codeAny (MM w) A c' R s') (fun e s' => R (.error e) s') s1 := by
        rintro items1 ys1 s1 hl1 hi1 but1 ⟨h1, tk1, rfl⟩ hne hz1 hfl
        refine wpAny_bind (wp_slice (by show x.cps.size ≤ _; omega) ?_)
        obtain ⟨kk, hoo⟩ := id hl1
        refine wpAny_bind (wpAny_seqItems hoo rfl ?_)
        dsimp only [Option.getD_some]
        by_cases hem : items1.isEmpty = true
        · rw [if_pos hem]
          refine wpAny_bind (wpAny_pure ?_)
          rw [if_neg (by simp)]
          have hy : ys1 = [] := hne (by simpa using hem)
          refine wpAny_pure ?_
          have := hR h1 (tk1 + 1) tk1 but1
          rw [← hfl, hy] at this
          have e0 : (⟨(targetOf a codes x t).text.extract 0 0⟩ : Str) = mkS [] := by rw [show (targetOf a codes x t).text = x.cps from rfl, cut 0 0]; rfl
          rw [e0]
          exact this
        · rw [if_neg hem]
          have e0 : (⟨(targetOf a codes x t).text.extract 0 0⟩ : Str) = ⟨[].toArray⟩ := by rw [show (targetOf a codes x t).text = x.cps from rfl, cut 0 0]; rfl
          rw [e0]
          refine wpAny_bind (join_list hl1.isList hi1 ?_ fun t' k' => ?_)
          · have : ((ys1.map mkS).map (·.length)).sum = ys1.flatten.length := by
              rw [List.length_flatten, List.map_map]; congr 1
            rw [this, hfl]
            simp [PySem.Str.length] at hlen ⊢
            omega
          · rw [if_neg (by simp)]
            refine wpAny_pure ?_
            have := hR h1 k' t' but1
            have ej : Txt.join ⟨[].toArray⟩ (ys1.map mkS) = mkS (ys.flatten ++ rest done) := by
              apply PySem.Str.ext'
              have := join_flat ys1
              unfold mkS
              rw [← hfl]
              exact Array.toList_inj.mp (by simpa [mkS] using this)
            rw [ej]
            exact this
      by_cases hlt : done < x.cps.size
      · rw [if_pos (show done < (targetOf a codes x t).lim from hlt)]
        refine wpAny_bind (wp_slice (by show x.cps.size ≤ _; omega) ?_)
        refine wpAny_bind (wp_push (s := { s with toks := s.toks + 1 }) hl (by omega) fun h2 hl2 but2 => ?_)
        rw [show (⟨(targetOf a codes x t).text.extract done (targetOf a codes x t).lim⟩ : Str) = mkS ((x.cps.toList.drop done).take (x.cps.size - done)) from cut done x.cps.size] at hl2
        refine last _ (ys ++ [(x.cps.toList.drop done).take (x.cps.size - done)]) _ hl2 ?_ but2 ⟨_, _, rfl⟩ (by simp) (by simp; omega) ?_
        · rw [List.map_append]
          exact strsAre_push hi
        · rw [hrest]; simp [List.take_of_length_le]
      · rw [if_neg (show ¬ done < (targetOf a codes x t).lim from hlt)]
        refine last items ys s hl hi (fun b o _ e => e) ⟨_, _, rfl⟩ h0 (by omega) ?_
        rw [hrest, List.drop_of_length_le (by simp; omega)]; simp
    · refine .inl ⟨ho, ?_⟩
      dsimp only
      rw [hst, hha]
      have hmust : (h == e) = false := by simp; omega
      rw [hmust]
      have more : ∀ (items1 : Array Value) (ys1 : List (List Nat)) (s1 : Shared), s1.heap.PlainList D items1 → StrsAre items1.toList (ys1.map mkS) → But D s.heap s1.heap → (∃ h' tk, s1 = { s with heap := h', toks := tk }) → items1.size ≤ 2 * done + 1 → ys1.flatten ++ rp.cps.toList ++ rest h = ys.flatten ++ rest done →
          wpAny (MM w) A.in1 (do
            let __r ← updateSeq D fun xs => xs.push (Value.str rp u)
            again (Code.builtin "re.Pattern.sub.loop" ⟨[Value.ref a, Value.str x t, Value.str rp u, rawInt 0, rawInt 0, rawInt ((n : Int) + 1), rawInt (h : Nat), rawInt (h : Nat), Value.bool false, Value.ref D, Value.bool false], []⟩))
            (fun fin s' => match fin with | .done f => R (.ok f) s' | .again c' => c'.quiet = true ∧ codeAny (MM w) A c' R s') (fun e s' => R (.error e) s') s1 := by
        rintro items1 ys1 s1 hl1 hi1 but1 ⟨h1, tk1, rfl⟩ hz1 hfl
        refine wpAny_bind (wp_push hl1 (by omega) fun h2 hl2 but2 => ?_)
        refine wpAny_pure ⟨plainId_quiet plain_pat_loop _, ?_⟩
        have hst2 : StrsAre (items1.push (.str rp u)).toList ((ys1 ++ [rp.cps.toList]).map mkS) := by
          rw [List.map_append]
          exact strsAre_push hi1
        have hfl2 : (ys1 ++ [rp.cps.toList]).flatten ++ rest h = ys.flatten ++ rest done := by rw [← hfl]; simp
        have but12 : But D s.heap h2 := fun b o hb e => but2 b o hb (but1 b o hb e)
        have key := loop_ok (t := t) (u := u) hf hx (R := R) (x.cps.size - h) h (n + 1) (items1.push (.str rp u)) (ys1 ++ [rp.cps.toList]) { s with heap := h2, toks := tk1 } rfl he3 hl2 hst2 (hp.but hl but12) (by simp; omega) (by rw [hfl2]; exact hlen) (by simp) (fun h' tk t' but => by
          rw [hfl2]
          exact hR h' tk t' fun b o hb e => but b o hb (but12 b o hb e))
        exact key
      by_cases hlt : done < e
      · rw [if_pos hlt]
        refine wpAny_bind (wp_slice (by show x.cps.size ≤ _; omega) ?_)
        refine wpAny_bind (wp_push (s := { s with toks := s.toks + 1 }) hl (by omega) fun h2 hl2 but2 => ?_)
        rw [show (⟨(targetOf a codes x t).text.extract done e⟩ : Str) = mkS ((x.cps.toList.drop done).take (e - done)) from cut done e] at hl2
        refine more _ (ys ++ [(x.cps.toList.drop done).take (e - done)]) _ hl2 ?_ but2 ⟨_, _, rfl⟩ (by simp; omega) (by rw [hrest]; simp)
        rw [List.map_append]
        exact strsAre_push hi
      · rw [if_neg hlt]
        have : e = done := by omega
        subst this
        exact more items ys s hl hi (fun b o _ e => e) ⟨_, _, rfl⟩ (by omega) (by rw [hrest]; simp)
termination_by d => d
decreasing_by omega
end
end Mine
end

section
open PySem PySem.W PyProof.Rows PySem.Calls
namespace Mine
open PySem.Sre
section
variable {w : Wo} {A : Around} {E : Value → Shared → Prop} {s : Shared}

theorem args_sub (a b c : Value) : argsOk "re.Pattern.sub" ⟨[a, b, c], []⟩ := by
  unfold argsOk; kernel_rfl
theorem named_sub (b c : Value) : Builtin.Re.reNamed "re.Pattern.sub" "sub" ["repl", "string", "count"] 2 [b, c] [] = pure [some b, some c, none] := by kernel_rfl
theorem nocall_str : typeLookup (.type "str") "__call__" = pure none := by rw [typeLookup_type, builtinLookup_eq_fast]; kernel_rfl
theorem sub_ok {a : Addr} {text : Str} {fl : Int} {codes : List Int} {x rp : Str} {t u : Tok} {rest : Nat → List Nat} (hp : PatAt s.heap a text fl codes) (hf : Finds (codes.map (·.toNat)).toArray x.cps rp.cps.toList rest) (hx : x.cps.size ≤ 2000000) (hlen : (rest 0).length ≤ 16000000)
    (h92 : rp.cps.contains 92 = false) {Q : Value → Shared → Prop} (hQ : ∀ s' t', Kp s s' → Q (.str (mkS (rest 0)) t') s') : wpAny (MM w) A (call (.builtin "re.Pattern.sub") [.ref a, .str rp u, .str x t]) Q E s := by
  have hT : s.TypeIs (.ref a) "re.Pattern" := by obtain ⟨c, t1, t2, t3, y1, y2, ts, h1, _⟩ := hp; exact ⟨_, h1, rfl⟩
  have hargs : argsOk "re.Pattern.sub" ⟨[.ref a, .str rp u, .str x t], []⟩ := args_sub _ _ _
  refine wpAny_call (codeAny_call_builtin slot_pat_sub.plain entry_pat_sub (slot_pat_sub.check _ _ _ _ _ _ _ _ hT hargs ?_))
  show wpAny (MM w) A.in1 (Builtin.Re.reSubstitute "re.Pattern.sub" "sub" false ⟨[.ref a, .str rp u, .str x t], []⟩) _ _ s
  unfold Builtin.Re.reSubstitute
  dsimp only
  rw [named_sub]
  refine wpAny_bind (wpAny_pure ?_)
  dsimp only
  refine wpAny_bind (wpAny_pure ?_)
  refine wpAny_bind (wpAny_specialOf (typeIs_str _ _ _) nocall_str ?_)
  dsimp only [Option.isSome_none]
  rw [if_neg (by simp)]
  unfold asStr?
  refine wpAny_bind (wpAny_pure ?_)
  dsimp only
  refine wpAny_bind (wpAny_pure ?_)
  rw [if_neg (by simp), if_pos (by rw [h92]; rfl)]
  refine wpAny_bind (wpAny_pure ?_)
  dsimp only
  refine wpAny_bind (wpAny_holding (wp_target hp ?_))
  rw [if_neg (by simp)]
  refine wpAny_bind (wpAny_newObj_type ?_)
  refine wpAny_pure ⟨plainId_quiet plain_pat_loop _, ?_⟩
  have hD : s.heap.get? s.heap.objs.size = none := Heap.get?_none_of_le (Nat.le_refl _)
  have keep : ∀ b o, s.heap.get? b = some o → (s.heap.push { cls := .type "list", data := .seq #[] }).get? b = some o := fun b o e => Heap.get?_push_of_some _ e
  have hlen0 : ((([] : List (List Nat)).flatten ++ rest 0)).length ≤ 16000000 := by simpa using hlen
  refine loop_ok (t := t) (u := u) (rest := rest) hf hx _ 0 0 #[] [] { s with heap := s.heap.push { cls := .type "list", data := .seq #[] } } rfl (Nat.zero_le _) ⟨0, Heap.get?_push_size _ rfl⟩ .nil (hp.keeps keep) (Nat.le_refl _) hlen0 (fun _ => rfl) fun h' tk t' but => ?_
  refine hQ _ _ ⟨h', tk, rfl, fun b o e => but b o ?_ (keep b o e)⟩
  rintro rfl
  rw [hD] at e; cases e
end
end Mine
end

section
open PySem PySem.W PyProof.Rows PySem.Calls
namespace Mine
open PySem.Sre

theorem getD_at (t : Array Nat) (i : Nat) (h : i < t.size) : t.toList[i]? = some (t.getD i 0) := by
  simp [Array.getD, h]
theorem drop_at (t : Array Nat) (i : Nat) (h : i < t.size) : t.toList.drop i = t.getD i 0 :: t.toList.drop (i + 1) := by
  rw [List.drop_eq_getElem_cons (by simpa using h)]
  have := getD_at t i h
  rw [List.getElem?_eq_getElem (by simpa using h)] at this
  rw [Option.some.inj this]
theorem split_at (t : Array Nat) {p e : Nat} (h1 : p ≤ e) : t.toList.drop p = (t.toList.drop p).take (e - p) ++ t.toList.drop e := by
  conv => lhs; rw [← List.take_append_drop (e - p) (t.toList.drop p)]
  rw [List.drop_drop, show p + (e - p) = e by omega]
theorem free_part (t : Array Nat) {p e : Nat} (he : e ≤ t.size) (h : ∀ j, p ≤ j → j < e → ¬ EndAt t j) : Free ((t.toList.drop p).take (e - p)) := by
  intro c hc
  obtain ⟨i, hi⟩ := List.getElem?_of_mem hc
  have hil : i < e - p := by have := (List.getElem?_eq_some_iff.mp hi).1; simp at this; omega
  rw [List.getElem?_take_of_lt hil, List.getElem?_drop, getD_at t (p + i) (by omega)] at hi
  have hi := Option.some.inj hi
  have := h (p + i) (by omega) (by omega)
  rw [← hi]
  constructor
  · exact fun q => this ⟨by omega, .inl q⟩
  · exact fun q => this ⟨by omega, .inr q⟩
theorem endLen_le (t : Array Nat) {e : Nat} (h : e < t.size) : 1 ≤ endLen t e ∧ e + endLen t e ≤ t.size := by
  unfold endLen
  by_cases c : t.getD e 0 = 13 ∧ e + 1 < t.size ∧ t.getD (e + 1) 0 = 10
  · rw [if_pos c]; omega
  · rw [if_neg c]; omega
theorem finds2 (t : Array Nat) : Finds code2 t [13, 10] (fun p => norm (t.toList.drop p)) := by
  intro p hp
  obtain ⟨k, f, hk, hr, z⟩ := search2 t hp
  refine ⟨k, f, by omega, hr, z.imp (fun z => ⟨z.1, ?_⟩) fun ⟨e, z1, z2, z3, z4, z5, z6⟩ => ⟨e, e + endLen t e, z1, z2, z3, z4, ?_, ?_, ?_⟩⟩
  · have hfr := free_part t (p := p) (Nat.le_refl _) fun j a _ => z.2 j a
    rw [List.take_of_length_le (by simp)] at hfr
    have := norm_row hfr []
    simpa [norm] using this
  · have := (endLen_le t z5.1).1; omega
  · exact (endLen_le t z5.1).2
  · have hs := split_at t z4
    have hfr := free_part t (Nat.le_of_lt z5.1) z6
    show norm (t.toList.drop p) = _
    conv => lhs; rw [hs]
    rw [norm_row hfr, List.append_assoc]
    congr 1
    rw [drop_at t e z5.1]
    rcases z5.2 with h10 | h13
    · rw [h10, norm_lf, endLen, if_neg (by rw [h10]; omega)]; rfl
    · rw [h13]
      by_cases q : e + 1 < t.size ∧ t.getD (e + 1) 0 = 10
      · rw [endLen, if_pos ⟨h13, q⟩, drop_at t (e + 1) q.1, q.2, norm_crlf]; rfl
      · rw [endLen, if_neg (fun z => q z.2), norm_cr]
        · rfl
        · intro hh
          by_cases q1 : e + 1 < t.size
          · rw [drop_at t (e + 1) q1] at hh
            rw [List.head?_cons] at hh
            exact q ⟨q1, Option.some.inj hh⟩
          · rw [List.drop_of_length_le (by simp; omega)] at hh
            cases hh
def headB (t : Array Nat) (p : Nat) : Bool := decide (p = 0 ∨ t.getD (p - 1) 0 = 10)
theorem stuff_part (t : Array Nat) : ∀ (d p e : Nat), e - p = d → p ≤ e → e ≤ t.size → (∀ j, p ≤ j → j < e → ¬ Dot t j) → stuff (headB t p) (t.toList.drop p) = (t.toList.drop p).take (e - p) ++ stuff (headB t e) (t.toList.drop e)
  | 0, p, e, hd, h1, h2, h3 => by
    have : p = e := by omega
    subst this; simp
  | d + 1, p, e, hd, h1, h2, h3 => by
    have hp : p < t.size := by omega
    have ih := stuff_part t d (p + 1) e (by omega) (by omega) h2 fun j a b => h3 j (by omega) b
    rw [drop_at t p hp, stuff, if_neg]
    · have hb : headB t (p + 1) = (t.getD p 0 == 10) := by
        unfold headB
        rw [Bool.eq_iff_iff]; simp
      rw [← hb, ih, show e - p = (e - (p + 1)) + 1 by omega, List.take_succ_cons]; rfl
    · rintro ⟨q1, q2⟩
      exact h3 p (Nat.le_refl _) (by omega) ⟨hp, q2, of_decide_eq_true q1⟩
theorem finds1 (t : Array Nat) (ht : t.size ≤ 2000000) : Finds code1 t [46, 46] (fun p => stuff (headB t p) (t.toList.drop p)) := by
  intro p hp
  obtain ⟨k, f, hk, hr, z⟩ := search1 t hp
  refine ⟨k, f, by omega, hr, z.imp (fun z => ⟨z.1, ?_⟩) fun ⟨e, z1, z2, z3, z4, z5, z6⟩ => ⟨e, e + 1, z1, z2, z3, z4, by omega, z5.1, ?_⟩⟩
  · have := stuff_part t _ p t.size rfl hp (Nat.le_refl _) fun j a _ => z.2 j a
    show stuff (headB t p) (t.toList.drop p) = _
    rw [this, List.drop_of_length_le (by simp : t.toList.length ≤ t.size), stuff, List.append_nil, List.take_of_length_le (by simp)]
  · have h1 := stuff_part t _ p e rfl z4 (Nat.le_of_lt z5.1) z6
    show stuff (headB t p) (t.toList.drop p) = _
    rw [h1, drop_at t e z5.1, z5.2.1]
    have hb : headB t e = true := decide_eq_true z5.2.2
    have hb2 : headB t (e + 1) = false := decide_eq_false (by simp [z5.2.1])
    show _ = _ ++ stuff (headB t (e + 1)) (t.toList.drop (e + 1))
    rw [hb, stuff, if_pos ⟨rfl, rfl⟩, hb2]
    simp

section
variable {w : Wo} {n : Nat} {env : Env} {σ : Sto}
/-- `pattern.sub(e1, e2)` -/
theorem ev_patsub {x : Str} {np ap p : Pos} {e1 e2 : Expr} {a : Addr} {text : Str} {fl : Int} {codes : List Int} {rp l : List Nat} {rest : Nat → List Nat} (g : Ev w n env σ (.Name x np) (.raw (.ref a))) (hpat : ∀ h, Lib w h → PatAt h a text fl codes)
    (y : Evs w n env σ [e1, e2] [.str rp, .str l]) (hf : Finds (codes.map (·.toNat)).toArray l.toArray rp rest) (hx : l.length ≤ 2000000) (hlen : (rest 0).length ≤ 16000000) (h92 : rp.toArray.contains 92 = false)
    (hbase : attributeBase (.Name x np) "sub" env (eval (.Name x np) env) = eval (.Name x np) env := by rfl)
    (hfew : ((backTo p (starEach [e1, e2] env)).all (fun x => !x.1) && (backToKw p (keywordEach [] env)).all (fun x => x.1.isSome)
      && decide (([e1, e2] : List Expr).length + ([] : List Keyword).length + (if ([] : List Keyword).isEmpty then 0 else 1) < 30)) = true := by rfl)
    (hline : (ap.endLine == p.line) = true := by rfl)
    (he : starEach [e1, e2] env = (false, eval e1 env) :: starEach [e2] env := by rfl) (hplain : (backTo p (starEach [e2] env)).any (·.1) = false := by rfl) :
    Ev w n env σ (.Call (.Attribute (.Name x np) "sub" ap) [e1, e2] [] p) (.str (rest 0)) := .mk fun N A s P =>
  wpAny_Call_method hbase hfew hline plainAttrs_pat slot_pat_sub type_pat_sub (g.use P fun v s₁ r₁ k₁ => by
    have := inv_raw r₁; subst this
    have P₁ := P.kp k₁
    obtain ⟨c, t1, t2, t3, y1, y2, ts, h1, _⟩ := hpat _ P₁.lib
    refine ⟨⟨_, h1, rfl⟩, fun b hb => by cases hb; exact ⟨_, h1, rfl⟩, callWith_method1 (y.use P₁ fun vs s₂ r₂ k₂ => ?_) he hplain⟩
    obtain ⟨v1, v2, rfl, q1, q2⟩ := reps2 r₂
    obtain ⟨u, rfl⟩ := inv_str q1
    obtain ⟨t, rfl⟩ := inv_str q2
    exact sub_ok (rest := rest) (hpat _ (P₁.kp k₂).lib) hf (by simpa using hx) hlen h92 fun s' t' k => ⟨rep_strS (by simp [mkS]), (k₁.trans k₂).trans k⟩)
theorem bind5 (a pm cd doc : Value) : bindArgs (docDef (dN (stm 5)) (dP (stm 5)) (dB (stm 5)) (dS (stm 5)) pm cd doc) ⟨[a], []⟩ = pure ((["data"] : List Str).zip [a]) := by kernel_rfl
theorem quotes : Quotes w (n + 1) := fun l hl N A s vs C r => by
  obtain ⟨v0, rfl, _⟩ := reps1 r
  refine def_plain (i := 5) (n := n) ["data"] (by decide) C r (fun _ _ _ => bind5 ..) fun A' L cd s₁ F P => ?_
  have hn := norm_len l
  have hq := quote_len l
  have e2 : norm (l.toArray.toList.drop 0) = norm l := by simp
  have e1 : stuff (headB (norm l).toArray 0) ((norm l).toArray.toList.drop 0) = quote l := by simp [quote, headB]
  refine r_return (d := .str (quote l)) ?ev P fun v s' rr k => ⟨rr, F.kp k⟩
  case ev =>
    rw [← e1]
    refine ev_patsub (rest := fun p => stuff (headB (norm l).toArray p) ((norm l).toArray.toList.drop p)) (ev_glob rfl rfl rfl) (fun h L => L.pat1) (evs_cons (ev_str (l := [46, 46]) rfl) (evs_cons (d := .str (norm l)) ?e2 evs_nil)) (finds1 _ (by simp; omega)) (by omega) (by show (stuff _ _).length ≤ _; rw [e1]; omega) (by simp)
    rw [← e2]
    exact ev_patsub (rest := fun p => norm (l.toArray.toList.drop p)) (ev_glob rfl rfl rfl) (fun h L => L.pat2) (evs_cons (ev_crlf rfl rfl rfl) (evs_cons (ev_name rfl rfl) evs_nil)) (finds2 _) (by omega) (by show (norm _).length ≤ _; rw [e2]; omega) (by simp)
/-- the law is true of all that stands as the top leaves it -/
theorem law_holds {script : List Int} (hs : script.length ≤ 63) : CallB w (n + 3) (.ref (w.ad "law")) [.lst (script.map .int)] (.bool true) := law_true quotes hs
end
end Mine
end

section
open PySem PySem.W PyProof.Rows PySem.Calls
namespace Mine

/-- a claim's list of ints, as the caller lays it -/
theorem ints_list {R : WRecords} {cl : Str → Option Addr} {h : Heap} : ∀ {xs : List WData} {vs : List Value} {as : List Addr}, ReadsAllW R cl h vs xs as → WShape.hasItems R xs .int = true →
    ∃ is : List Int, is.length = xs.length ∧ Reps Nil h (is.map .int) vs
  | [], vs, as, r, _ => by cases r; exact ⟨[], rfl, .nil⟩
  | x :: xs, vs, as, r, k => by
    cases r with
    | cons r1 r2 =>
      simp only [WShape.hasItems, Bool.and_eq_true] at k
      obtain ⟨is, e, q⟩ := ints_list r2 k.2
      cases r1 <;> first
        | (rename_i i t; exact ⟨i :: is, by simp [e], .cons rep_int q⟩)
        | (exfalso; have := k.1; simp [WShape.has, WShape.arms] at this)

abbrev rw0 : OpenLaw := PySem.Challenge.rw_pg0210_01
abbrev cl0 : ClaimW := rw0.row.claim

theorem pre_args {cl : Str → Option Addr} {h : Heap} {args : List WData} {vs : List Value} {as : List Addr} (hp : cl0.pre args = true) (r : ReadsAllW cl0.records cl h vs args as) :
    ∃ is : List Int, is.length ≤ 63 ∧ Reps Nil h [.lst (is.map .int)] vs := by
  obtain ⟨h1, h2⟩ := Bool.and_eq_true_iff.mp hp
  cases args with
  | nil => cases h1
  | cons d ds =>
    cases ds with
    | cons d' ds' =>
      exfalso
      have : (WShape.has rw0.row.records d (.list .int) && WShape.hasAll rw0.row.records (d' :: ds') []) = true := h1
      simp [WShape.hasAll] at this
    | nil =>
      have k : (WShape.has rw0.row.records d (.list .int) && WShape.hasAll rw0.row.records [] []) = true := h1
      simp only [Bool.and_eq_true] at k
      cases r with
      | cons r1 r2 =>
        cases r2
        cases r1 with
        | @list _ _ _ _ xs _ ho hc hd hr =>
          have k1 := k.1
          simp only [WShape.has, WShape.arms, List.any_cons, List.any_nil, Bool.or_false] at k1
          obtain ⟨is, e, q⟩ := ints_list hr k1
          refine ⟨is, ?_, .cons (rep_lst (fun z => z) ⟨_, ho, hc, _, hd⟩ q) .nil⟩
          simp only [OpenLaw.row, OpenLaw.pre, PySem.Challenge.rw_pg0210_01, WTm.holds, WTm.value, List.getElem?_cons_zero] at h2
          rw [e]
          revert h2
          simp only [less?]
          rw [show ∀ m n : Int, Num.less? (.int m) (.int n) = some (decide (m < n)) from fun _ _ => rfl]
          by_cases q : ((63 : Nat) : Int) < (xs.length : Int)
          · rw [decide_eq_true q]; intro z; cases z
          · intro _; omega
        | _ => exact absurd k.1 (by simp [WShape.has, WShape.arms])

structure Left (w : World) (s₀ s₁ : Shared) : Prop where
  ran : TopRan pw w s₀ s₁
  sleep : s₁.asleep
  gens : s₁.gens = #[]
  lib : ∃ ad, Lib ⟨w, ad⟩ s₁.heap ∧ ∃ mg, s₁.heap.Ns mainGlobals mg ∧ mg "law" = some (.ref (ad "law"))

theorem law_stands {w : Wo} {h : Heap} {mg : Str → Option Value} (f : FnAt h (w.ad "law") 28) (g : h.Ns mainGlobals mg) (e : mg "law" = some (.ref (w.ad "law"))) : isTheDefsW pw h "law" := by
  obtain ⟨o, pm, doc, c, h1, h2, h3⟩ := f
  exact ⟨_, o, _, _, _, _, (PySem.Claim2Try.globalOf_of_ns g _).trans e, h1, h2, rfl, rfl, rfl, rfl, rfl, rfl, rfl, rfl, rfl, .inl ⟨rfl, rfl⟩, [], rfl, .inl ⟨rfl, rfl⟩⟩

theorem post_true (args : List WData) : cl0.post args (.bool true) args = true := by
  show (WShape.has rw0.row.records (.bool true) .bool && WTm.holds rw0.row.records (.eq .res (.lit (.bool true))) { args := args, res := some (.bool true), after := args }) = true
  simp [WShape.has, WShape.arms, WTm.holds, WTm.value, same_self]
theorem caller_ok : Ok 10 callerA := ⟨rfl, by decide +kernel, by decide +kernel⟩

theorem join (hb : pw.bare) (ho : opensWell pw = true) (hw : rw0.row.promised)
    (top : ∀ w, ∃ s s₀ s₁, AfterRun (opening pw) w s ∧ fenceModules? pw s = some s₀ ∧ s₀.gens = #[] ∧ Left w s₀ s₁) :
    cl0.HoldsOpenBy (callStub rw0.row.name) (if rw0.row.pinned then [rw0.row.name] else []) rw0.row.keeps rw0.row.writes := by
  refine ⟨⟨hb, ho, rfl⟩, hw.witness, fun w => ?_⟩
  obtain ⟨s, s₀, s₁, h1, h2, h3, L⟩ := top w
  refine ⟨⟨s, h1⟩, fun s' h1' => ?_⟩
  obtain rfl : s' = s := AfterImport.unique h1' h1
  obtain ⟨ran, sleep, gens, ad, lib, mg, g, e⟩ := L
  refine ⟨s₀, h2, h3, s₁, ran, fun n hn => ?_, fun x hx => (nomatch hx), fun x hx => (nomatch hx), ?_⟩
  · obtain rfl : n = "law" := List.mem_singleton.mp hn
    exact law_stands (w := ⟨w, ad⟩) (lib.fns ("law", 28) (by decide)) g e
  · refine ClaimW.callFrom_of_specN (c := cl0) (tree := fun vs => do match ← nsGet mainNs rw0.row.name with
      | some f => do ret (← PySem.call f vs)
      | none => unsupported "claim.caller:no-such-global") sleep (by rw [gens]; simp [leftWithCleanup]) fun args hpre hlay ord hord => ?_
    obtain ⟨⟨vs, s₂⟩, hlaid⟩ := Option.isSome_iff_exists.mp (layAllW_isSome (P := w.params) (ord := ord) (R := cl0.records) (cl := classAt s₁.heap) (fun c hc => nomatch hc) args rw0.row.args s₁ (pre_splitW hpre).1)
    have keeps := layAllW_keeps _ _ _ hlaid
    have hal := layAllW_rest _ _ _ hlaid
    obtain ⟨as, hrd, hin, hold⟩ := reads_layAllW hord _ _ _ hlaid hlay s₂.heap (fun _ _ e => e)
    refine ⟨vs, s₂, hlaid, ?_⟩
    have lib₂ : Lib ⟨w, ad⟩ s₂.heap := lib.keeps keeps
    have g₂ : s₂.heap.Ns mainGlobals mg := g.keeps keeps
    obtain ⟨is, hn, hr⟩ := pre_args hpre hrd
    refine wpAny_bind (wpAny_nsGet (s := { s₂ with gens := #[] }) g₂ ?_)
    rw [show mg rw0.row.name = some (.ref (ad "law")) from e]
    have walk := law_holds (w := ⟨w, ad⟩) (n := 0) hn Nil callerA { s₂ with gens := #[] } vs ⟨⟨caller_ok.1, by have := caller_ok.2.1; omega, by have := caller_ok.2.2; omega⟩, lib₂, fun b hb => hb.elim⟩ hr
    refine wpAny_bind (wp_use walk fun v s' q => wpAny_pure ?_)
    obtain ⟨rv, h', tk, rfl, kk⟩ := q
    have := inv_bool rv
    subst this
    refine ⟨_, rfl, ?_⟩
    have G : GoodW cl0 (classAt s₁.heap) (ExcName.means s₁.heap) args { s₂ with gens := #[] } (.ok (.ret (.bool true))) { s₂ with gens := #[], heap := h', toks := tk } :=
      ⟨.inl ⟨_, .bool true, [], rfl, fun cls => rfl, .bool true, post_true args, fun _ => ⟨.nil, fun a ha => nomatch ha⟩⟩, kk, rfl, rfl⟩
    have E := G.endsN (c := cl0) (s₀ := s₁) (s₁ := s₂) (vs := vs) (as := as) rfl rfl (ident_freeW (r := rw0.row.toRowW) rfl rfl rfl) hrd (fun a ha => hold a ha) hal.2.2.1
    exact ⟨E.1, E.2.1, E.2.2, fun q => nomatch q⟩
end Mine
end

section
open PySem PySem.W PyProof.Rows PySem.Calls
namespace Mine
section
variable {den : Code → Sem Fin} {p : Program} {w : World}
theorem sched_of_calm : ∀ {n : Nat} {s s' : Shared} {t t' : Thread}, runN den p w n s t = .running s' t' → s.asleep → (∀ k, k < n → ∀ s₁ t₁, runN den p w k s t = .running s₁ t₁ → t₁.calm = true) →
    schedN den p w n (.single s t) = .running (.single s' t')
  | 0, s, s', t, t', h, _, _ => by cases h; rfl
  | n + 1, s, s', t, t', h, hz, hc => by
    have e := sstep_single den p w s t (hc 0 (Nat.succ_pos n) s t rfl) hz
    simp only [runN] at h
    cases hs : step den p w s t with
    | go s₂ t₂ =>
      rw [hs] at h e
      rcases e with e | e
      · simp only [schedN, e, Step.lift]
        exact sched_of_calm h (Shared.asleep_of_life (step_life den p w s s₂ t t₂ hs) hz) fun k hk s₁ t₁ q => hc (k + 1) (Nat.succ_lt_succ hk) s₁ t₁ (by simp only [runN, hs]; exact q)
      · cases e
    | halt o s₂ => rw [hs] at h; cases h
theorem calm_of_go {s s' : Shared} {t t' : Thread} (h : stepI den p w s t = .go s' t') : t.calm = true := by
  have hl : t.loud = false := by
    cases hl : t.loud with
    | false => rfl
    | true => rw [stepI_loud den p w hl] at h; cases h
  rw [stepI_quiet den p w hl] at h
  rw [Thread.calm_eq, hl]
  cases hr : t.refused with
  | false => rfl
  | true =>
    obtain ⟨what, e⟩ := stepK_refused den p w (s := s) hr
    rw [e] at h; cases h
theorem calm_before : ∀ {n k : Nat} {s s' s₁ : Shared} {t t' t₁ : Thread}, k < n → runNI den p w n s t = .running s' t' → runNI den p w k s t = .running s₁ t₁ → t₁.calm = true
  | 0, k, _, _, _, _, _, _, hk, _, _ => absurd hk (Nat.not_lt_zero k)
  | n + 1, k, s, s', s₁, t, t', t₁, hk, h, q => by
    simp only [runNI] at h
    cases hs : stepI den p w s t with
    | halt o s₂ => rw [hs] at h; cases h
    | go s₂ t₂ =>
      rw [hs] at h
      cases k with
      | zero =>
        have e : Run.running s t = .running s₁ t₁ := q
        injection e with _ e; subst e
        exact calm_of_go hs
      | succ k =>
        simp only [runNI, hs] at q
        exact calm_before (Nat.lt_of_succ_lt_succ hk) h q
theorem top_run {t : Sem Fin} {s : Shared} {f : Flow} {P : Shared → Prop} (hz : s.asleep)
    (h : wpAny (model p w) callerA t (fun fin s' => fin = .done f ∧ P s' ∧ s'.gens = #[]) (fun _ _ => False) s) :
    ∃ n s' τ, schedN (denote table) p w n (.single s ⟨t, .builtin "claim.caller" {}, default, []⟩) = .running (.single s' τ) ∧ through τ = true ∧ P s' ∧ s'.gens = #[] ∧ s'.heap.life = s.heap.life := by
  obtain ⟨s', p', leaf, ⟨n, hn⟩, hl⟩ := wp_comes (M := model p w) (Ctx.fits_of (.builtin "claim.caller" {}) []) t _ _ default s (h _ default caller_in)
  rcases hl with ⟨a, rfl, rfl, hP, hg⟩ | ⟨e, _, hF⟩
  · have hn' : runNI (denote table) p w n s ⟨t, .builtin "claim.caller" {}, default, []⟩ = .running s' ⟨.pure (.done f), .builtin "claim.caller" {}, p', []⟩ := hn
    obtain ⟨σ, τ, hr, hσ, hτ⟩ := runNI_running_real hn'
    obtain rfl : σ = s' := Shared.eq_of_forget_eq hσ hg
    refine ⟨n, σ, τ, sched_of_calm hr hz fun k hk s₁ t₁ q => ?_, ?_, hP, hg, runN_life_running hr⟩
    · obtain ⟨s₂, t₂, h₂⟩ := runNI_prefix (Nat.le_of_lt hk) hn'
      obtain ⟨σ₂, τ₂, hr₂, _, hτ₂⟩ := runNI_running_real h₂
      rw [hr₂] at q
      injection q with _ e
      subst e
      rw [← Thread.calm_forget, hτ₂, Thread.calm_forget]
      exact calm_before hk hn' h₂
    · obtain ⟨cur, code, pos, stack⟩ := τ
      simp only [Thread.forget, Thread.mk.injEq, forgetAll] at hτ
      obtain ⟨e1, e2, e3, e4⟩ := hτ
      have hst : stack = [] := by
        cases stack with
        | nil => rfl
        | cons x xs => simp at e4
      subst hst e1
      rfl
  · exact hF.elim
end
end Mine
end

section
open PySem PySem.W PyProof.Rows PySem.Calls
namespace Mine

/-- what the walk of the top asks of the state behind the opening -/
def sreOk (h : Heap) : Bool := match h.nsMap mainGlobals "_sre" with
  | some (.ref Mo) => (match h.get? Mo with
    | some ob => (match ob.dict with
      | some D => Mo != mainGlobals && D != mainGlobals && ob.plainModuleOk D && h.isNs D && (match h.nsMap D "compile" with | some (.builtin i) => i == "_sre.compile" | _ => false)
      | none => false)
    | none => false)
  | _ => false
def opened (s : Shared) : Bool :=
  s.heap.isNs mainGlobals && s.heap.isNs builtinsNs && s.heap.isNs cStatics && s.gens.size == 0 && (s.heap.nsMap cStatics "sys.recursionlimit").isNone && s.heap.accountedOkI (importedModules pw.main.body)
  && s.heap.bmainOk && (match s.heap.nsMap mainGlobals "__builtins__" with | some (.ref bm) => bm != mainGlobals | _ => false)
  && ((s.heap.nsKeys mainGlobals).all fun k => startupNames.contains k || k == "_sre") && sreOk s.heap
theorem open1 (w : World) : (fencedOpening treeTable pw w 1000).map opened = some true := by kernel_rfl
theorem open2 (w : World) : (fencedOpening treeTable pw w 1000).map (fun s => s.heap.bltView) = some bltViewBooted := by kernel_rfl

structure Op (s : Shared) (mg mb : Str → Option Value) : Prop where
  gens : s.gens = #[]
  g : s.heap.Ns mainGlobals mg
  b : s.heap.Ns builtinsNs mb
  c : ∃ mc, s.heap.Ns cStatics mc ∧ mc "sys.recursionlimit" = none
  acc : staticsAccountedI s.heap (importedModules pw.main.body)
  bmod : ∃ bm o, mg "__builtins__" = some (.ref bm) ∧ bm ≠ builtinsNs ∧ bm ≠ mainGlobals ∧ s.heap.get? bm = some o ∧ o.cls = .type "module" ∧ o.dict = some builtinsNs ∧ o.data = .plain
  blt : ∀ x : Str, x ≠ "__name__" → mb x = bootBuiltins x
  keys : ∀ x v, mg x = some v → x ∈ startupNames ∨ x = "_sre"
  sre : ∃ Mo D md, Mo ≠ mainGlobals ∧ D ≠ mainGlobals ∧ mg "_sre" = some (.ref Mo) ∧ Flt.IsCMod s.heap Mo D md ∧ md "compile" = some (.builtin "_sre.compile")

theorem sre_of {h : Heap} (x : sreOk h = true) : ∃ Mo D md, Mo ≠ mainGlobals ∧ D ≠ mainGlobals ∧ h.nsMap mainGlobals "_sre" = some (.ref Mo) ∧ Flt.IsCMod h Mo D md ∧ md "compile" = some (.builtin "_sre.compile") := by
  unfold sreOk at x
  split at x
  · rename_i Mo e
    split at x
    · rename_i ob ho
      split at x
      · rename_i D hD
        simp only [Bool.and_eq_true, bne_iff_ne] at x
        refine ⟨Mo, D, _, x.1.1.1.1, x.1.1.1.2, e, ⟨ho.trans (congrArg some (Obj.plainModule_of_ok x.1.1.2)), Heap.Ns.of_isNs x.1.2⟩, ?_⟩
        have y := x.2
        split at y
        · rename_i i e'
          rw [e', beq_iff_eq.mp y]
        · cases y
      · cases x
    · cases x
  · cases x
theorem op_of {s : Shared} (x : opened s = true) (e : s.heap.bltView = bltViewBooted) : Op s (s.heap.nsMap mainGlobals) (s.heap.nsMap builtinsNs) := by
  unfold opened at x
  simp only [Bool.and_eq_true] at x
  obtain ⟨⟨⟨⟨⟨⟨⟨⟨⟨x1, x2⟩, x3⟩, x4⟩, x5⟩, x6⟩, x7⟩, x8⟩, x9⟩, x10⟩ := x
  refine ⟨Array.eq_empty_of_size_eq_zero (beq_iff_eq.mp x4), .of_isNs x1, .of_isNs x2, ⟨_, .of_isNs x3, by simpa using x5⟩, Heap.accountedI_of_ok x6, ?_, fun x hx => Heap.of_bltView x2 e x hx, fun y v hv => ?_, sre_of x10⟩
  · obtain ⟨bm, ob, a, b, c, d, f, g⟩ := Heap.bmainOk_spec x7
    rw [a] at x8
    exact ⟨bm, ob, a, b, by simpa using x8, c, d, f, g⟩
  · by_cases hk : y ∈ s.heap.nsKeys mainGlobals
    · have := List.all_eq_true.mp x9 y hk
      simpa only [Bool.or_eq_true, List.contains_iff_mem, beq_iff_eq] using this
    · rw [Heap.nsMap_none hk] at hv; cases hv
theorem opening_ok (w : World) : ∃ s s₀ mg mb, AfterRun (opening pw) w s ∧ fenceModules? pw s = some s₀ ∧ s₀.asleep ∧ Op s₀ mg mb := by
  obtain ⟨s₀, h2, e⟩ := Option.map_eq_some_iff.mp (open1 w)
  obtain ⟨s₀', h2', e'⟩ := Option.map_eq_some_iff.mp (open2 w)
  rw [h2] at h2'
  cases h2'
  rw [← table_eq_tree] at h2
  obtain ⟨s, h4, h5⟩ := Option.bind_eq_some_iff.mp h2
  have A := AfterImport.of_importEnds h4
  exact ⟨s, s₀, _, _, A, h5, Shared.asleep_of_life (fence_lifeW h5) A.life, op_of e e'⟩
end Mine
end

section
open PySem PySem.W PyProof.Rows PySem.Calls
namespace Mine

abbrev Fact := Heap → Value → Prop
/-- what stands above N stays -/
def Up (N : Nat) (h h' : Heap) : Prop := ∀ b o, N ≤ b → h.get? b = some o → h'.get? b = some o
def Stab (N : Nat) (P : Fact) : Prop := ∀ h h' v, Up N h h' → P h v → P h' v

/-- the top at work: the globals' table and the module's code; what stood before the module's code stands; what the names made so far bear -/
structure Tp (h₀ : Heap) (mg₀ : Str → Option Value) (c Pl : Addr) (N : Nat) (names : List Str) (L : List (Str × Fact)) (h : Heap) (mg : Str → Option Value) (ps : Array Value) : Prop where
  main : h.Main mg c Pl ps
  keep : ∀ b o, b ≠ Pl → b ≠ mainGlobals → h₀.get? b = some o → h.get? b = some o
  lowP : Pl < N
  lowG : mainGlobals < N
  top : ∃ T o, N = T + 1 ∧ Pl < T ∧ mainGlobals < T ∧ h.get? T = some o
  facts : ∀ p ∈ L, ∃ v, mg p.1 = some v ∧ p.2 h v
  stab : ∀ p ∈ L, Stab N p.2
  fnames : ∀ p ∈ L, p.1 ∈ names
  same : ∀ x, x ∉ names → x ≠ "__name__" → mg x = mg₀ x

section
variable {w : World} {A : Around} {E : Value → Shared → Prop} {s : Shared} {c Pl F : Addr} {h₀ : Heap} {mg₀ mg : Str → Option Value} {N : Nat} {names : List Str} {L : List (Str × Fact)} {ps : Array Value} {Q : Flow → Shared → Prop}

theorem Tp.up {h h' : Heap} (X : Tp h₀ mg₀ c Pl N names L h mg ps) (k : ∀ b o, b ≠ Pl → b ≠ mainGlobals → h.get? b = some o → h'.get? b = some o) : Up N h h' :=
  fun b o hb e => k b o (Nat.ne_of_gt (Nat.lt_of_lt_of_le X.lowP hb)) (Nat.ne_of_gt (Nat.lt_of_lt_of_le X.lowG hb)) e

theorem Tp.step {h h' : Heap} {ps' : Array Value} {x : Str} {v : Value} {P : Fact} (X : Tp h₀ mg₀ c Pl N names L h mg ps) (hx : x ∉ names)
    (hm : h'.Main (fun y => if y = x then some v else mg y) c Pl ps') (k : ∀ b o, b ≠ Pl → b ≠ mainGlobals → h.get? b = some o → h'.get? b = some o) (st : Stab N P) (hP : P h' v) :
    Tp h₀ mg₀ c Pl N (x :: names) ((x, P) :: L) h' (fun y => if y = x then some v else mg y) ps' := by
  refine ⟨hm, fun b o a b' e => k b o a b' (X.keep b o a b' e), X.lowP, X.lowG, (let ⟨T, o, a, b, d, e⟩ := X.top; ⟨T, o, a, b, d, k _ _ (Nat.ne_of_gt b) (Nat.ne_of_gt d) e⟩), fun p hp => ?_, fun p hp => ?_, fun p hp => ?_, fun y hy hn => ?_⟩
  · rcases List.mem_cons.mp hp with rfl | hp
    · exact ⟨v, if_pos rfl, hP⟩
    · obtain ⟨u, e, q⟩ := X.facts p hp
      exact ⟨u, (if_neg (show ¬ p.1 = x from fun z => hx (z ▸ X.fnames p hp))).trans e, X.stab p hp _ _ _ (X.up k) q⟩
  · rcases List.mem_cons.mp hp with rfl | hp
    · exact st
    · exact X.stab p hp
  · rcases List.mem_cons.mp hp with rfl | hp
    · exact List.mem_cons_self
    · exact List.mem_cons_of_mem _ (X.fnames p hp)
  · rw [List.mem_cons, not_or] at hy
    exact (if_neg hy.1).trans (X.same y hy.2 hn)
theorem Tp.step0 {h h' : Heap} {v : Value} (X : Tp h₀ mg₀ c Pl N names L h mg ps) (hx : ("__name__" : Str) ∉ names)
    (hm : h'.Main (fun y => if y = "__name__" then some v else mg y) c Pl ps) (k : ∀ b o, b ≠ Pl → b ≠ mainGlobals → h.get? b = some o → h'.get? b = some o) :
    Tp h₀ mg₀ c Pl N names L h' (fun y => if y = "__name__" then some v else mg y) ps := by
  refine ⟨hm, fun b o a b' e => k b o a b' (X.keep b o a b' e), X.lowP, X.lowG, (let ⟨T, o, a, b, d, e⟩ := X.top; ⟨T, o, a, b, d, k _ _ (Nat.ne_of_gt b) (Nat.ne_of_gt d) e⟩), fun p hp => ?_, X.stab, X.fnames, fun y hy hn => (if_neg hn).trans (X.same y hy hn)⟩
  obtain ⟨u, e, q⟩ := X.facts p hp
  exact ⟨u, (if_neg (show ¬ p.1 = ("__name__" : Str) from fun z => hx (z ▸ X.fnames p hp))).trans e, X.stab p hp _ _ _ (X.up k) q⟩

theorem Tp.size {h : Heap} (X : Tp h₀ mg₀ c Pl N names L h mg ps) : N ≤ h.objs.size := by
  obtain ⟨T, o, a, _, _, e⟩ := X.top
  rw [a]
  exact Heap.lt_size e

/-- an assignment of the top -/
theorem tp_assign {x : Str} {p' pos : Pos} {e : Expr} {P : Fact} {rest : List Stmt} (X : Tp h₀ mg₀ c Pl N names L s.heap mg ps) (hx : x ∉ names) (st : Stab N P)
    (hval : wpAny (model pw w) A (eval e (mainEnv pw c F)) (fun v s' => P s'.heap v ∧ Kp s s') noE s)
    (k : ∀ h' tk mg', Tp h₀ mg₀ c Pl N (x :: names) ((x, P) :: L) h' mg' ps → wpAny (model pw w) A (execs rest (mainEnv pw c F)) Q E { s with heap := h', toks := tk })
    (hloc : pw.main.scope.names.lookup x = some .local := by decide +kernel) (hnb : x ≠ "__builtins__" := by decide)
    (hs : swapsWith e (some (.Name x p')) pos.line (mainEnv pw c F) = pure false := by rfl) :
    wpAny (model pw w) A (execs (.Assign [.Name x p'] e pos :: rest) (mainEnv pw c F)) Q E s := by
  refine wpAny_execs_cons (wpAny_Assign_Name (wpAny_mono hval (fun v s₁ q => ?_) fun _ _ z => z.elim) hs)
  obtain ⟨hP, h₁, tk, rfl, kk⟩ := q
  have M₁ : h₁.Main mg c Pl ps := Heap.Main.keeps X.main kk
  refine wpAny_storeName_local (s := { s with heap := h₁, toks := tk }) (env := mainEnv pw c F) hloc M₁.g (fun h' hg' hs' => ?_) rfl
  obtain ⟨bm, o, hbm, hne0, hneG, hneP, hbo, hrest⟩ := M₁.bmod
  have hm : h'.Main (fun y => if y = x then some v else mg y) c Pl ps :=
    ⟨hg', M₁.code.sameBut hs' (Nat.ne_of_gt M₁.low.1) (Nat.ne_of_gt M₁.low.2), M₁.low,
      ⟨bm, o, by simp only [Ne.symm hnb, if_false]; exact hbm, hne0, hneG, hneP, (hs'.2 _ hneG).trans hbo, hrest⟩⟩
  refine k h' _ _ (X.step hx hm (fun b o a g e => (hs'.2 _ g).trans (kk b o e)) st ?_)
  exact st _ _ _ (fun b o hb e => (hs'.2 _ (Nat.ne_of_gt (Nat.lt_of_lt_of_le X.lowG hb))).trans e) hP

/-- `__name__ = ..` -/
theorem tp_name {p' pos q : Pos} {kk : Nat} {t : Str} {rest : List Stmt} (X : Tp h₀ mg₀ c Pl N names L s.heap mg ps) (hx : ("__name__" : Str) ∉ names)
    (k : ∀ h' tk mg', Tp h₀ mg₀ c Pl N names L h' mg' ps → wpAny (model pw w) A (execs rest (mainEnv pw c F)) Q E { s with heap := h', toks := tk }) :
    wpAny (model pw w) A (execs (.Assign [.Name "__name__" p'] (.Constant (.str t) kk q) pos :: rest) (mainEnv pw c F)) Q E s := by
  refine wpAny_execs_cons (wpAny_Assign_Name (Constant_str ?_) rfl)
  refine wpAny_storeName_local (s := { s with toks := s.toks + 1 }) (env := mainEnv pw c F) (show pw.main.scope.names.lookup ("__name__" : Str) = some NameKind.local by decide +kernel) X.main.g (fun h' hg' hs' => ?_) rfl
  obtain ⟨bm, o, hbm, hne0, hneG, hneP, hbo, hrest⟩ := X.main.bmod
  have hm : h'.Main (fun y => if y = "__name__" then some (.str t s.toks) else mg y) c Pl ps :=
    ⟨hg', X.main.code.sameBut hs' (Nat.ne_of_gt X.main.low.1) (Nat.ne_of_gt X.main.low.2), X.main.low,
      ⟨bm, o, (if_neg (by decide)).trans hbm, hne0, hneG, hneP, (hs'.2 _ hneG).trans hbo, hrest⟩⟩
  exact k h' _ _ (X.step0 hx hm fun b o a g e => (hs'.2 _ g).trans e)

/-- a def of the top stands -/
def FnF (N i : Nat) : Fact := fun h v => ∃ a o pm doc c, v = .ref a ∧ N ≤ a ∧ N ≤ c ∧ h.get? a = some o ∧ o.data = .func (docDef (dN (stm i)) (dP (stm i)) (dB (stm i)) (dS (stm i)) pm (.ref c) doc) ∧ h.CodeRec (.ref c) (dN (stm i))
theorem FnF.stab {N i : Nat} : Stab N (FnF N i) := fun h h' v k ⟨a, o, pm, doc, c, e, q1, q2, h1, h2, h3⟩ => ⟨a, o, pm, doc, c, e, q1, q2, k _ _ q1 h1, h2, h3.at fun o => k _ o q2⟩
theorem FnF.fn {N i : Nat} {h : Heap} {v : Value} (x : FnF N i h v) : ∃ a, v = .ref a ∧ FnAt h a i := let ⟨a, o, pm, doc, c, e, _, _, h1, h2, h3⟩ := x; ⟨a, e, o, pm, doc, c, h1, h2, h3⟩
def dQ : Stmt → Pos | .FunctionDef _ _ _ _ _ _ _ _ _ p => p | _ => default
theorem tp_def {i : Nat} {rest : List Stmt} (X : Tp h₀ mg₀ c Pl N names L s.heap mg ps) (hx : dN (stm i) ∉ names)
    (k : ∀ h' tk mg' c', Tp h₀ mg₀ c Pl N (dN (stm i) :: names) ((dN (stm i), FnF N i) :: L) h' mg' (ps ++ #[rawInt (dQ (stm i)).line, rawInt (dQ (stm i)).col, .ref c']) → wpAny (model pw w) A (execs rest (mainEnv pw c F)) Q E { s with heap := h', toks := tk })
    (hst : stm i = .FunctionDef (dN (stm i)) (dP (stm i)) (dB (stm i)) [] none [] (dS (stm i)) none (dN (stm i)) (dQ (stm i)) := by rfl)
    (hfree : ((dS (stm i)).names.all fun x => x.2 != .free) = true := by decide +kernel) (hdoc : docOf (dB (stm i)) = none := by rfl)
    (hloc : pw.main.scope.names.lookup (dN (stm i)) = some .local := by decide +kernel)
    (hq : qualnameIn { scope := pw.main.scope, locals := mainGlobals, globals := mainGlobals, cells := [] } (dN (stm i)) (dN (stm i)) = (dN (stm i)) := by rfl)
    (hexec : PlainDefTree (dN (stm i)) (dP (stm i)) (dB (stm i)) (dS (stm i)) (dQ (stm i)) := by intro env; rfl)
    (hnb : dN (stm i) ≠ "__builtins__" := by decide +kernel) (hnf : codeAmong (dQ (stm i)) ps.toList = none := by rfl) :
    wpAny (model pw w) A (execs (stm i :: rest) (mainEnv pw c F)) Q E s := by
  rw [hst]
  refine wpAny_execs_cons (wpAny_plainDefN (c := c) (Pl := Pl) hexec (fun x hx => by have := List.all_eq_true.mp hfree x hx; simpa using this) hdoc hloc hq X.main (fun a c' h' tk ha hm hf hcd htb keep => ?_) hnb rfl hnf)
  have hz := X.size
  exact k h' tk _ c' (X.step hx hm keep FnF.stab ⟨a, _, _, _, c', rfl, Nat.le_trans hz ha, Nat.le_trans hz hcd.1, hf, rfl, hcd.2⟩)
end
end Mine
end

section
open PySem PySem.W PyProof.Rows PySem.Calls
namespace Mine

theorem kind_compile : builtinKind "_sre.compile" = none := by decide +kernel
theorem plain_compile : plainId "_sre.compile" = true := by decide +kernel
theorem entry_compile : entryFor table "_sre.compile" = some Builtin.«_sre.compile» := entryFor_of_tree (by kernel_rfl)
theorem args_compile (a b c d e f : Value) : argsOk "_sre.compile" ⟨[a, b, c, d, e, f], []⟩ := by unfold argsOk; kernel_rfl
theorem named_compile (a b c d e f : Value) : Builtin.Re.reNamed "_sre.compile" "compile" ["pattern", "flags", "code", "groups", "groupindex", "indexgroup"] 6 [a, b, c, d, e, f] [] = pure [some a, some b, some c, some d, some e, some f] := by kernel_rfl
theorem sub_list_list : isSubtype (.type "list") (.type "list") = pure true := by rw [isSubtype_type]; kernel_rfl
theorem sub_tuple_tuple : isSubtype (.type "tuple") (.type "tuple") = pure true := by rw [isSubtype_type]; kernel_rfl
theorem lk_compile : typeLookup (.type "module") "compile" = pure none := by rw [typeLookup_type, builtinLookup_eq_fast]; kernel_rfl
theorem handed_compile : handedOut (.builtin "_sre.compile") = pure (.builtin "_sre.compile") := by kernel_rfl

section
variable {w : World} {A : Around} {E : Value → Shared → Prop} {s : Shared}
def wordsOf (codes : List Int) : Array Nat := (codes.map (·.toNat)).toArray
theorem words_loop (f : Value → Array Nat → Sem (ForInStep (Array Nat))) (hf : ∀ i t acc, 0 ≤ i → i < 2 ^ 32 → f (.int i t) acc = pure (ForInStep.yield (acc.push i.toNat))) :
    ∀ {vs : List Value} {codes : List Int} (acc : Array Nat), IntsAre vs codes → (∀ i ∈ codes, 0 ≤ i ∧ i < 2 ^ 32) → forIn vs acc f = pure (acc ++ wordsOf codes)
  | _, _, acc, .nil, _ => by simp [wordsOf]
  | _, _, acc, .cons n t r, hc => by
    rw [List.forIn_cons, hf n t acc (hc n (List.mem_cons_self ..)).1 (hc n (List.mem_cons_self ..)).2, pure_bind]
    show forIn _ (acc.push n.toNat) f = _
    rw [words_loop f hf _ r fun i hi => hc i (List.mem_cons_of_mem _ hi)]
    simp [wordsOf]
/-- a compiled pattern, above N -/
def PatF (N : Nat) (text : Str) (flags : Int) (codes : List Int) : Fact := fun h v =>
  ∃ a c t1 t2 t3 x y ts, v = .ref a ∧ N ≤ a ∧ N ≤ c ∧ h.get? a = some { cls := .type "re.Pattern", data := .fields #[.str text t1, .int flags t2, .int 0 t3, x, y, .ref c, .int 0 ts] } ∧ h.IsTuple c (codes.map fun i => Value.int i 0).toArray
theorem PatF.stab {N : Nat} {text : Str} {flags : Int} {codes : List Int} : Stab N (PatF N text flags codes) := fun h h' v k ⟨a, c, t1, t2, t3, x, y, ts, e, q1, q2, h1, o, h2, h3⟩ =>
  ⟨a, c, t1, t2, t3, x, y, ts, e, q1, q2, k _ _ q1 h1, o, k _ _ q2 h2, h3⟩
theorem PatF.at {N : Nat} {text : Str} {flags : Int} {codes : List Int} {h : Heap} {v : Value} (x : PatF N text flags codes h v) : ∃ a, v = .ref a ∧ PatAt h a text flags codes :=
  let ⟨a, c, t1, t2, t3, x, y, ts, e, _, _, h1, h2⟩ := x; ⟨a, e, c, t1, t2, t3, x, y, ts, h1, h2⟩
theorem PatF.low {N N' : Nat} {text : Str} {flags : Int} {codes : List Int} {h : Heap} {v : Value} (x : PatF N text flags codes h v) (k : N' ≤ N) : PatF N' text flags codes h v :=
  let ⟨a, c, t1, t2, t3, x, y, ts, e, q1, q2, h1, h2⟩ := x; ⟨a, c, t1, t2, t3, x, y, ts, e, Nat.le_trans k q1, Nat.le_trans k q2, h1, h2⟩
theorem words_back (codes : List Int) (hc : ∀ i ∈ codes, 0 ≤ i ∧ i < 2 ^ 32) : ((wordsOf codes).toList.map fun (w : Nat) => rawInt w) = codes.map fun i => Value.int i 0 := by
  unfold wordsOf
  rw [List.map_map]
  refine List.map_congr_left fun i hi => ?_
  show rawInt (i.toNat : Nat) = _
  have := (hc i hi).1
  unfold rawInt
  rw [Int.toNat_of_nonneg this]
theorem compile_ok {pat : Str} {t t1 t2 : Tok} {fl : Int} {C Dd T : Addr} {codes : List Int} {vs : List Value} {Q : Value → Shared → Prop}
    (h1 : ¬ (fl < -(2 ^ 31) ∨ fl ≥ 2 ^ 31)) (hC : s.heap.IsList C vs.toArray) (hv : IntsAre vs codes)
    (hD : s.heap.get? Dd = some { cls := .type "dict", data := .dict #[] }) (hDs : (Dd == sysModules) = false) (hT : s.TypeIs (.ref T) "tuple")
    (hc : ∀ i ∈ codes, 0 ≤ i ∧ i < 2 ^ 32) (hwf : Sre.wellFormed (wordsOf codes) 0 = true) (hlen : codes.length ≤ 1000)
    (h : ∀ s' a, Kp s s' → PatF s.heap.objs.size pat fl codes s'.heap (.ref a) → Q (.ref a) s') :
    wpAny (model pw w) A (call (.builtin "_sre.compile") [.str pat t, .int fl t1, .ref C, .int 0 t2, .ref Dd, .ref T]) Q E s := by
  refine call_function_entry kind_compile plain_compile entry_compile (args_compile _ _ _ _ _ _) ?_
  unfold Builtin.«_sre.compile»
  refine wpAny_bind ?_
  show wpAny _ _ (Builtin.Re.reNamed "_sre.compile" "compile" ["pattern", "flags", "code", "groups", "groupindex", "indexgroup"] 6 [.str pat t, .int fl t1, .ref C, .int 0 t2, .ref Dd, .ref T] []) _ _ _
  rw [named_compile]
  refine wpAny_pure ?_
  obtain ⟨hp, g, d, tk, os⟩ := s
  have e1 : ((decide (fl < -2 ^ 31) || decide (fl ≥ 2 ^ 31)) = true) = False := by simp; omega
  have f1 := sub_list_list
  have f2 := sub_tuple_tuple
  have f3 := isSubtype_dict_dict
  obtain ⟨oC, hoC, hcC, nC, hdC⟩ := hC
  have tC : (⟨hp, g, d, tk, os⟩ : Shared).TypeIs (.ref C) "list" := ⟨_, hoC, hcC⟩
  have tD : (⟨hp, g, d, tk, os⟩ : Shared).TypeIs (.ref Dd) "dict" := ⟨_, hD, rfl⟩
  dsimp only
  refine wpAny_bind (m := asIndex _) (wpAny_bind (wpAny_pure (wpAny_pure ?_)))
  rw [if_neg (by rw [e1]; exact id)]
  refine wpAny_bind (wpAny_isInstance tC f1 ?_)
  rw [if_neg (by decide)]
  refine wpAny_bind (m := Builtin.Re.reSsize _) (wpAny_bind (m := asIndex _) (wpAny_bind (wpAny_pure (wpAny_pure ?_))))
  rw [if_neg (by decide)]
  refine wpAny_pure ?_
  rw [if_neg (by rw [sizeLine_eq]; decide)]
  refine wpAny_bind (wpAny_isInstance tD f3 ?_)
  rw [if_neg (by decide)]
  refine wpAny_bind (wpAny_isInstance hT f2 ?_)
  rw [if_neg (by decide)]
  refine wpAny_bind (wpAny_seqItems hoC hdC ?_)
  rw [show (some vs.toArray).getD #[] = vs.toArray from rfl, List.forIn_toArray]
  refine wpAny_bind (wpAny_of_eq (words_loop _ (fun i t' acc h0 h9 => ?_) _ hv hc) ?_)
  · have n0 : ¬ i < 0 := by omega
    have n1 : ¬ i ≥ 2 ^ 64 := by omega
    have n2 : ¬ i ≥ 2 ^ 32 := by omega
    show (asInt? (.int i t') >>= _) = _
    unfold asInt?
    rw [pure_bind]
    simp only [n0, n1, n2, if_false]
  · rw [show #[] ++ wordsOf codes = wordsOf codes from by simp]
    rw [if_neg (show ¬ (Value.str pat t == Value.none) = true from Bool.false_ne_true)]
    unfold Builtin.Re.reTextOf
    refine wpAny_bind (wpAny_bind (wpAny_pure (wpAny_pure ?_)))
    refine wpAny_bind (wpAny_pure ?_)
    rw [if_neg (by simpa using hwf)]
    refine wpAny_bind ?_
    unfold notTheModulesDict
    rw [hDs, if_neg (by decide)]
    refine wpAny_pure ?_
    refine wpAny_bind (wpAny_dictEntries hD rfl ?_)
    refine wpAny_bind (wpAny_pure ?_)
    refine wpAny_bind (wpAny_mkInt ?_)
    refine wpAny_bind (wpAny_newObj_type ?_ ?_)
    · refine wpAny_bind (wpAny_newObj_type ?_)
      refine wpAny_pure ⟨_, rfl, ?_⟩
      rw [words_back codes hc]
      refine h _ _ ⟨_, _, rfl, fun b o e => Heap.get?_push_of_some _ (Heap.get?_push_of_some _ e)⟩ ?_
      refine ⟨_, hp.objs.size, t, tk, 0, _, _, 0, rfl, by rw [Heap.size_push]; exact Nat.le_succ _, Nat.le_refl _, Heap.get?_push_size _ rfl, _, Heap.get?_push_of_some _ (Heap.get?_push_size _ rfl), rfl, 0, rfl⟩
    · show _ ≤ sizeLine
      rw [sizeLine_eq]
      simp [wordsOf]
      omega
end
end Mine
end

section
open PySem PySem.W PyProof.Rows PySem.Calls
namespace Mine

def intOf : Expr → Option Int
  | .Constant (.int i) _ _ => some i
  | _ => none
section
variable {w : World} {A : Around} {E : Value → Shared → Prop} {s : Shared} {c F : Addr} {mg mb : Str → Option Value} {env : Env}

theorem spliced_ints {M : Model} {pos : Pos} : ∀ (es : List Expr) (codes : List Int) (s : Shared) (Q : List Value → Shared → Prop), es.mapM intOf = some codes →
    (∀ vs tk, IntsAre vs codes → Q vs { s with toks := tk }) → wpAny M A (spliced (backTo pos (starEach es env))) Q E s
  | [], codes, s, Q, h, k => by
    simp at h
    subst h
    exact args_nil (k [] s.toks .nil)
  | e :: es, codes, s, Q, h, k => by
    rw [List.mapM_cons] at h
    cases h1 : intOf e with
    | none => rw [h1] at h; cases h
    | some i =>
      rw [h1] at h
      cases h2 : es.mapM intOf with
      | none => rw [h2] at h; cases h
      | some r =>
        rw [h2] at h
        cases h
        cases e with
        | Constant cc kk p =>
          cases cc with
          | int j =>
            cases h1
            exact args_cons (wpAny_Constant_int (spliced_ints es r _ _ h2 fun vs tk q => k _ tk (.cons _ _ q)))
          | _ => cases h1
        | _ => cases h1

theorem ev_emptyDict {p : Pos} {Q : Value → Shared → Prop} (h : Q (.ref s.heap.objs.size) { s with heap := s.heap.push { cls := .type "dict", data := .dict #[] } }) : wpAny (model pw w) A (eval (.Dict [] [] p) env) Q E s := by
  rw [arm_eval_Dict]
  refine wpAny_bind (wpAny_standAt ?_)
  show wpAny _ _ newDict _ _ _
  exact wpAny_newObj_type h

theorem name_main {M : Model} {x : Str} {p : Pos} {v : Value} {Q : Value → Shared → Prop} (g : s.heap.Ns mainGlobals mg) (e : mg x = some v) (h : Q v s) (hd : (x == ("__debug__" : Str)) = false := by decide) : wpAny M A (eval (.Name x p) (mainEnv pw c F)) Q E s :=
  Name_module rfl rfl (loadGlobal_global g e h) hd
theorem name_blt {M : Model} {x : Str} {p : Pos} {v : Value} {Q : Value → Shared → Prop} (g : s.heap.Ns mainGlobals mg) (b : s.heap.Ns builtinsNs mb) (e0 : mg x = none) (e : mb x = some v) (h : Q v s) (hd : (x == ("__debug__" : Str)) = false := by decide) :
    wpAny M A (eval (.Name x p) (mainEnv pw c F)) Q E s :=
  Name_module rfl rfl (loadGlobal_builtin g e0 b e h) hd

theorem ev_compile {N : Nat} {Mo Dm : Addr} {md : Str → Option Value} {p1 p2 p3 p4 p5 p6 p7 p8 p9 p10 : Pos} {k3 k4 k6 k8 k9 : Nat} {pat : Str} {fl : Int} {es : List Expr} {codes : List Int}
    (g : s.heap.Ns mainGlobals mg) (e : mg "_sre" = some (.ref Mo)) (hM : Flt.IsCMod s.heap Mo Dm md) (hm : md "compile" = some (.builtin "_sre.compile")) (hN : N ≤ s.heap.objs.size) (hN1 : sysModules < N)
    (h1 : ¬ (fl < -(2 ^ 31) ∨ fl ≥ 2 ^ 31)) (he : es.mapM intOf = some codes) (hc : ∀ i ∈ codes, 0 ≤ i ∧ i < 2 ^ 32) (hwf : Sre.wellFormed (wordsOf codes) 0 = true) (hlen : codes.length ≤ 1000) (hline : (p2.endLine == p10.line) = true) :
    wpAny (model pw w) A (eval (.Call (.Attribute (.Name "_sre" p1) "compile" p2) [.Constant (.str pat) k3 p3, .Constant (.int fl) k4 p4, .List es p5, .Constant (.int 0) k6 p6, .Dict [] [] p7, .Tuple [.Constant .none k8 p8] k9 p9] [] p10) (mainEnv pw c F))
      (fun v s' => PatF N pat fl codes s'.heap v ∧ Kp s s') noE s := by
  rw [arm_eval_Call]
  refine wpAny_bind (m := attributeBase _ _ _ _) ?_
  show wpAny _ _ (eval (.Name "_sre" p1) (mainEnv pw c F)) _ _ _
  refine name_main g e (wpAny_bind (wpAny_standAt ?_))
  unfold methodCall
  refine wpAny_bind (wpAny_holding ?_)
  show wpAny _ _ (getMethod (.ref Mo) "compile" _) _ _ _
  obtain ⟨hp, gs, d, tk, os⟩ := s
  refine Flt.getMethod_module hM lk_compile hm handed_compile ?_
  dsimp only
  refine wpAny_bind ?_
  unfold methodCallPos
  rw [hline]
  show wpAny _ _ (pure p10) _ _ _
  refine wpAny_pure ?_
  refine PyProof.Rows.callWith_builtin1 ?_
  refine args_cons (Constant_str ?_)
  refine args_cons (wpAny_Constant_int ?_)
  refine args_cons (wpAny_List (spliced_ints es codes _ _ he fun vs tk1 q => ⟨?_, ?_⟩))
  · have := q.length; rw [sizeLine_eq]; omega
  refine args_cons (wpAny_Constant_int ?_)
  refine args_cons (ev_emptyDict ?_)
  refine args_cons (wpAny_Tuple (args_cons (wpAny_Constant_none (args_nil ⟨by rw [sizeLine_eq]; decide, ?_⟩))))
  refine args_nil ?_
  refine compile_ok (vs := vs) h1 ⟨_, Heap.get?_push_of_some _ (Heap.get?_push_of_some _ (Heap.get?_push_size _ rfl)), rfl, 0, rfl⟩ q (Heap.get?_push_of_some _ (Heap.get?_push_size _ rfl)) ?_ ⟨_, Heap.get?_push_size _ rfl, rfl⟩ hc hwf hlen fun s' a k P => ⟨P.low ?_, ?_⟩
  · refine beq_eq_false_iff_ne.mpr (Nat.ne_of_gt ?_)
    rw [Heap.size_push]
    have : N ≤ hp.objs.size := hN
    exact Nat.lt_of_lt_of_le hN1 (Nat.le_trans this (Nat.le_succ _))
  · simp only [Heap.size_push]
    have : N ≤ hp.objs.size := hN
    omega
  · exact Kp.trans ⟨_, _, rfl, fun b o e => Heap.get?_push_of_some _ (Heap.get?_push_of_some _ (Heap.get?_push_of_some _ e))⟩ k

/-! sets -/
/-- a set of ints, above N -/
def SetF (w : World) (N : Nat) (cs : List Int) : Fact := fun h v => ∃ a S n, v = .ref a ∧ N ≤ a ∧ h.SetOf (intKind pw w) a S n ∧ ∀ c, S c = decide (c ∈ cs)
theorem SetF.stab {N : Nat} {cs : List Int} : Stab N (SetF w N cs) := fun h h' v k ⟨a, S, n, e, q, ⟨o, es, ep, t, h1, h2⟩, h3⟩ => ⟨a, S, n, e, q, ⟨o, es, ep, t, k _ _ q h1, h2⟩, h3⟩

/-- a list of ints, new since s₀ -/
def ListF (cs : List Int) : Fact := fun h v => ∃ a vs, v = .ref a ∧ h.get? a = some { cls := .type "list", data := .seq vs 0 } ∧ IntsAre vs.toList cs
/-- the names that the top's displays read -/
structure Sees (h : Heap) (mg mb : Str → Option Value) : Prop where
  g : h.Ns mainGlobals mg
  b : h.Ns builtinsNs mb
  set : mg "set" = none ∧ mb "set" = some (.type "set")
  list : mg "list" = none ∧ mb "list" = some (.type "list")
  range : mg "range" = none ∧ mb "range" = some (.type "range")
theorem Sees.kp {s s' : Shared} (x : Sees s.heap mg mb) (k : Kp s s') : Sees s'.heap mg mb := ⟨x.g.keeps k.keep, x.b.keeps k.keep, x.set, x.list, x.range⟩
/-- an expression of the top that comes to a list of ints -/
def LstE (w : World) (e : Expr) (cs : List Int) : Prop := ∀ (A : Around) (s : Shared) (c F : Addr) (mg mb : Str → Option Value), A.handled = none → Sees s.heap mg mb →
  wpAny (model pw w) A (eval e (mainEnv pw c F)) (fun v s' => (∃ a vs, v = .ref a ∧ s'.heap.IsList a vs ∧ IntsAre vs.toList cs) ∧ Kp s s') noE s

theorem lst_display {es : List Expr} {cs : List Int} {p : Pos} (h : es.mapM intOf = some cs) (hn : cs.length ≤ 1000) : LstE w (.List es p) cs := fun A s c F mg mb hh S =>
  wpAny_List (spliced_ints es cs _ _ h fun vs tk q => ⟨by have := q.length; rw [sizeLine_eq]; omega, ⟨_, vs.toArray, rfl, ⟨_, Heap.get?_push_size _ rfl, rfl, 0, rfl⟩, by simpa using q⟩, ⟨_, _, rfl, fun b o e => Heap.get?_push_of_some _ e⟩⟩)

theorem ints_mk : ∀ {vs : List Value} {ns : List Int}, vs.length = ns.length → (∀ (j : Nat) (v : Value), vs[j]? = some v → ∃ t, v = .int (ns.getD j 0) t) → IntsAre vs ns
  | [], [], _, _ => .nil
  | [], _ :: _, e, _ => by cases e
  | _ :: _, [], e, _ => by cases e
  | v :: vs, n :: ns, e, h => by
    obtain ⟨t, rfl⟩ := h 0 v rfl
    exact .cons _ t (ints_mk (by simpa using e) fun j v q => by
      obtain ⟨t, ht⟩ := h (j + 1) v q
      exact ⟨t, by simpa using ht⟩)
def runZ (a : Int) (n : Nat) : List Int := (List.range n).map fun i => a + ((i : Nat) : Int)
theorem ints_of_items {a : Int} {n : Nat} {acc : Array Value} (h : ItemsOf (fun i v => ∃ t, v = .int (a + i * 1) t) acc n) : IntsAre acc.toList (runZ a n) := by
  refine ints_mk (by simp [runZ, h.1]) fun j v hv => ?_
  obtain ⟨t, rfl⟩ := h.2 j v (by simpa using hv)
  have hj : j < n := by
    have := (List.getElem?_eq_some_iff.mp hv).1
    simpa [h.1] using this
  exact ⟨t, by simp [runZ, hj]⟩
theorem range_size {a b : Int} {n : Nat} (hb : b = a + n) : Builtin.Range.rangeSize a b 1 = n := by
  rw [rangeSize_one]; split <;> omega
theorem range_small {a b : Int} {n : Nat} (hb : b = a + n) (h0 : 0 ≤ a) (hs : a + n < 2 ^ 40) : Builtin.Range.small a b 1 = true := by
  have hrs := range_size hb
  unfold Builtin.Range.small Builtin.Range.rangeFitsLong
  rw [hrs]
  simp
  omega
theorem lst_range {a b : Int} {n : Nat} {p1 p2 p3 p4 p5 p6 : Pos} {k1 k2 : Nat} (hb : b = a + n) (h0 : 0 ≤ a) (hs : a + n < 2 ^ 40) (hn : n ≤ 1000) :
    LstE w (.Call (.Name "list" p1) [.Call (.Name "range" p2) [.Constant (.int a) k1 p3, .Constant (.int b) k2 p4] [] p5] [] p6) (runZ a n) := fun A s c F mg mb hh S => by
  refine wpAny_Call_NameR (name_blt (M := model pw w) S.g S.b S.list.1 S.list.2 (PyProof.Rows.callWith_type1 (args_cons ?_)))
  refine wpAny_Call_NameR (name_blt (M := model pw w) S.g S.b S.range.1 S.range.2 (PyProof.Rows.callWith_type1 (args_cons (wpAny_Constant_int (args_cons (wpAny_Constant_int (args_nil (call_range_2 (args_nil ?_)))))))))
  refine call_list_range (n := n) hh (IsRange.new _ _ _ _ _ _ _) (range_small hb h0 hs) (range_size hb) (by omega) fun h' tk acc' c' kk hS hacc => ⟨⟨_, acc', rfl, ⟨_, hS, rfl, c', rfl⟩, ints_of_items hacc⟩, ⟨h', tk, rfl, fun b o e => kk b o (Heap.get?_push_of_some _ e)⟩⟩
theorem ints_app {vs ws : List Value} {as bs : List Int} (x : IntsAre vs as) (y : IntsAre ws bs) : IntsAre (vs ++ ws) (as ++ bs) := by
  induction x with
  | nil => exact y
  | cons n t _ ih => exact .cons n t ih
theorem lst_add {l r : Expr} {as bs : List Int} {p : Pos} (x : LstE w l as) (y : LstE w r bs) (hn : as.length + bs.length ≤ 1000) : LstE w (.BinOp l .Add r p) (as ++ bs) := fun A s c F mg mb hh S => by
  refine wpAny_BinOp (wpAny_mono (x A s c F mg mb hh S) (fun u s₁ q₁ => ?_) fun _ _ z => z.elim)
  obtain ⟨⟨l, vs, rfl, hl, i1⟩, k₁⟩ := q₁
  refine wpAny_mono (y A s₁ c F mg mb hh (S.kp k₁)) (fun v s₂ q₂ => ?_) fun _ _ z => z.elim
  obtain ⟨⟨m, ws, rfl, hm, i2⟩, k₂⟩ := q₂
  obtain ⟨o, ho, hc, n, hd⟩ := hl
  replace ho := k₂.keep _ _ ho
  obtain ⟨cls, dd, data, sl⟩ := o
  obtain ⟨⟨cls2, dd2, data2, sl2⟩, ho2, hc2, n2, hd2⟩ := hm
  simp only at hc hd hc2 hd2
  subst hc hd hc2 hd2
  refine concat_meets ⟨_, ho, rfl⟩ ⟨_, ho2, rfl⟩ noFill_list_add seq_list_add PySem.F.slot_list_add PySem.F.entry_list_add (PySem.F.args_list_add_2 _ _) (list_addW l m vs ws n n2 dd dd2 sl sl2 ?_) ⟨ho, ho2, ?_⟩
  · have e1 := i1.length
    have e2 := i2.length
    rw [Array.length_toList] at e1 e2
    rw [sizeLine_eq]
    omega
  · exact ⟨⟨_, vs ++ ws, rfl, ⟨_, Heap.get?_push_size _ rfl, rfl, 0, rfl⟩, by simpa using ints_app i1 i2⟩, (k₁.trans k₂).trans (.push _ _)⟩
end
end Mine
end

section
open PySem PySem.W PyProof.Rows PySem.Calls
namespace Mine
section
variable {w : World} {A : Around} {E : Value → Shared → Prop} {s : Shared}
set_option maxHeartbeats 3200000 in
/-- set(range) -/
theorem call_set_range {r : Addr} {a b : Int} {t u v : Tok} {n : Nat} {Q : Value → Shared → Prop} (hh : A.handled = none) (hr : IsRange s.heap r a b 1 t u v) (hsmall : Builtin.Range.small a b 1 = true)
    (hsize : Builtin.Range.rangeSize a b 1 = n) (hn : n + 1 < scanBound)
    (h : ∀ (h' : Heap) (tk : Nat), h'.SetOf (intKind pw w) s.heap.objs.size (fun k => (firstMet (fun i => a + (i : Nat) * 1) n).any (· == k)) (firstMet (fun i => a + (i : Nat) * 1) n).length →
      (∀ x o, x < s.heap.objs.size → s.heap.get? x = some o → h'.get? x = some o) → Q (.ref s.heap.objs.size) { s with heap := h', toks := tk }) :
    wpAny (model pw w) A (call (.type "set") [.ref r]) Q E s := by
  obtain ⟨c, tl, hmro⟩ := F.called_set.mro
  have hmade := F.called_set.made
  have hsub := F.called_set.sub
  have h1 := F.called_set.notType
  have h2 := F.called_set.canCreate
  have hct := F.typeCall_set_1 (.ref r)
  refine wpAny_call (codeAny_of_tree ?_)
  show wpAny _ _ (callAny (.type "set") _) _ _ _
  refine wpAny_pure ⟨Code.quiet_builtin _ (by decide +kernel), codeAny_builtin F.entry_type_call ?_⟩
  rw [Around.under_plain (weight_type_call_type "set" [.ref r] []) rfl]
  repeat (any_goals (first | assumption | wp_step))
  refine codeAny_mono (code_set_new_1 (.ref r) (E := E) (Q₁ := fun obj s₁ => ∃ led : Bool, obj = .ref s.heap.objs.size ∧ s₁ = { s with heap := s.heap.push { cls := .type "set", dict := none, data := .set #[] 0 (.fresh 0 0 led) } }) fun led => ⟨led, rfl, rfl⟩) fun res s₁ hres => ?_
  rcases res with e | fl
  · exact hres
  cases fl with
  | ret obj =>
    obtain ⟨led, rfl, rfl⟩ := hres
    generalize hO : ({ cls := .type "set", dict := none, data := .set #[] 0 (.fresh 0 0 led) } : Obj) = O
    have hS : (s.heap.push O).get? s.heap.objs.size = some O := Heap.get?_push_size _ (by rw [← hO]; rfl)
    have hT : Shared.TypeIs { s with heap := s.heap.push O } (.ref s.heap.objs.size) "set" := ⟨_, hS, by rw [← hO]⟩
    have hli := F.called_set.init.lookup
    have hbi := F.called_set.init.bind (.ref s.heap.objs.size)
    repeat (any_goals (first | assumption | wp_step))
    refine codeAny_mono (codeAny_call_builtin (R := wants (fun r' s₂ => r' = .none ∧ ∃ h' tk, s₂ = { s with heap := h', toks := tk } ∧
        h'.SetOf (intKind pw w) s.heap.objs.size (fun k => (firstMet (fun i => a + (i : Nat) * 1) n).any (· == k)) (firstMet (fun i => a + (i : Nat) * 1) n).length ∧
        (∀ x o, x < s.heap.objs.size → s.heap.get? x = some o → h'.get? x = some o)) E) F.called_set.init.plain F.entry_set_init (check_set_init_1 hT ?_)) fun r₂ s₂ hr₂ => ?_
    · subst hO
      have hr' : IsRange (s.heap.push { cls := .type "set", dict := none, data := .set #[] 0 (.fresh 0 0 led) }) r a b 1 t u v := Heap.get?_push_of_some _ hr
      have hTr : Shared.TypeIs { s with heap := s.heap.push { cls := .type "set", dict := none, data := .set #[] 0 (.fresh 0 0 led) } } (.ref r) "range" := ⟨_, hr', rfl⟩
      have f1 := F.sub_range_set
      have f2 := F.sub_range_frozenset
      have hne : (Value.type "range" == Value.type "dict") = false := by decide
      unfold Builtin.«set.__init__» noKeywords Builtin.Frozenset.updateFrom
      generalize hPI : pyIter = PI
      wp_walk
      subst hPI
      refine wpAny_pyIter_range hr' hsmall ?_
      refine wpAny_bind (wpAny_runValue ?_)
      rw [hsize]
      have hh3 : A.in1.in1.in1.handled = none := by simp [hh]
      have hSf : s.heap.objs.size ∉ [(s.heap.push { cls := .type "set", dict := none, data := .set #[] 0 (.fresh 0 0 led) }).objs.size] := by
        rw [Heap.size_push, List.mem_singleton]
        exact Nat.ne_of_lt (Nat.lt_succ_self _)
      refine codeAny_set_update_loopS ((Walks.range (prog := pw) (w := w) hh3 _ a 1 n).toS) s.heap.objs.size hSf (fun i => a + (i : Nat) * 1) (fun i v hv => hv) hn (n - 0) 0 _ (by omega) (Nat.zero_le _) ?hst ?hS0 ?hR
      case hst =>
        show Heap.get? _ _ = _
        rw [Heap.get?_push_size _ rfl]
        simp [rawInt]
      case hS0 =>
        exact SetOf_congr ((setObjOf_fresh (knd := intKind pw w) led).setOf (Heap.get?_push_of_some _ hS) (by unfold scanBound; omega)) (fun _ => rfl) rfl
      case hR =>
        intro s' hm hS'
        obtain ⟨h', g', d', tk', os'⟩ := s'
        have eg : g' = s.gens := hm.gens
        have ed : d' = s.drawn := hm.drawn
        have eo : os' = s.os := hm.os
        subst eg; subst ed; subst eo
        show wpAny _ _ _ _ _ _
        refine wpAny_pure ?_
        show wpAny _ _ (ret Value.none) _ _ _
        refine wpAny_pure ⟨rfl, h', tk', rfl, hS', fun x o hx e => ?_⟩
        refine hm.heap x o ?_ (Heap.get?_push_of_some _ (Heap.get?_push_of_some _ e))
        rw [Heap.size_push]
        simp only [List.mem_cons, List.not_mem_nil, or_false, not_or]
        exact ⟨Nat.ne_of_lt hx, Nat.ne_of_lt (Nat.lt_succ_of_lt hx)⟩
    · rcases r₂ with e | fl₂
      · exact hr₂
      cases fl₂ with
      | ret r' =>
        obtain ⟨rfl, h', tk, rfl, hS', hk'⟩ := hr₂
        repeat (any_goals (first | assumption | wp_step))
        exact h _ _ hS' hk'
      | _ => exact hr₂.elim
  | _ => exact hres.elim

theorem met_list (cs : List Int) (k : Int) : ((firstMet (fun i => cs.getD i 0) cs.length).any (· == k)) = decide (k ∈ cs) := by
  rw [firstMet_any]
  have e : (List.range cs.length).map (fun i => cs.getD i 0) = cs := by
    refine List.ext_getElem (by simp) fun i h1 h2 => ?_
    simp at h1
    simp [h1]
  rw [e, Bool.eq_iff_iff, List.any_eq_true, decide_eq_true_iff]
  exact ⟨fun ⟨x, hx, q⟩ => by rw [← beq_iff_eq.mp q]; exact hx, fun h => ⟨k, h, beq_self_eq_true k⟩⟩
theorem met_range (a : Int) (n : Nat) (k : Int) : ((firstMet (fun i => a + (i : Nat) * 1) n).any (· == k)) = decide (k ∈ runZ a n) := by
  have e : (List.range n).map (fun i : Nat => a + (i : Int) * 1) = runZ a n := by unfold runZ; simp
  rw [firstMet_any, e, Bool.eq_iff_iff, List.any_eq_true, decide_eq_true_iff]
  exact ⟨fun ⟨x, hx, q⟩ => by rw [← beq_iff_eq.mp q]; exact hx, fun h => ⟨k, h, beq_self_eq_true k⟩⟩

/-- an old object stands just below N -/
def Roof (N : Nat) (h : Heap) : Prop := ∃ (T : Addr) (o : Obj), N = T + 1 ∧ h.get? T = some o
theorem Roof.size {N : Nat} {h : Heap} (x : Roof N h) : N ≤ h.objs.size := by
  obtain ⟨T, o, a, e⟩ := x
  rw [a]
  exact Heap.lt_size e
theorem Roof.kp {N : Nat} {s s' : Shared} (x : Roof N s.heap) (k : Kp s s') : Roof N s'.heap := let ⟨T, o, a, e⟩ := x; ⟨T, o, a, k.keep _ _ e⟩
/-- an expression of the top that comes to a set of ints -/
def SetE (w : World) (e : Expr) (cs : List Int) : Prop := ∀ (N : Nat) (A : Around) (s : Shared) (c F : Addr) (mg mb : Str → Option Value), A.handled = none → Roof N s.heap → Sees s.heap mg mb →
  wpAny (model pw w) A (eval e (mainEnv pw c F)) (fun v s' => SetF w N cs s'.heap v ∧ Kp s s') noE s
theorem set_of_list {e : Expr} {cs : List Int} {p1 p2 : Pos} (x : LstE w e cs) (hn : cs.length ≤ 1000) (he : ∀ env, starEach [e] env = (false, eval e env) :: starEach [] env := by intro env; rfl) :
    SetE w (.Call (.Name "set" p1) [e] [] p2) cs := fun N A s c F mg mb hh hN S => by
  refine wpAny_Call_NameR (name_blt (M := model pw w) S.g S.b S.set.1 S.set.2 (PyProof.Rows.callWith_type1 (args_cons (wpAny_mono (x A s c F mg mb hh S) (fun v s₁ q => args_nil ?_) fun _ _ z => z.elim) (he _)) (he _)))
  obtain ⟨⟨l, vs, rfl, hl, hi⟩, k⟩ := q
  have hlen : vs.size = cs.length := by rw [← Array.length_toList]; exact hi.length
  refine call_set_list hh hl hi (by rw [hlen]; unfold scanBound; omega) fun h' tk hS hk => ⟨⟨_, _, _, rfl, ?_, hS, fun k => ?_⟩, k.trans ⟨h', tk, rfl, fun b o e => hk b o (Heap.lt_size e) e⟩⟩
  · exact (hN.kp k).size
  · rw [hlen]; exact met_list cs k
theorem set_of_range {a b : Int} {n : Nat} {p1 p2 p3 p4 p5 p6 : Pos} {k1 k2 : Nat} (hb : b = a + n) (h0 : 0 ≤ a) (hs : a + n < 2 ^ 40) (hn : n ≤ 1000) :
    SetE w (.Call (.Name "set" p1) [.Call (.Name "range" p2) [.Constant (.int a) k1 p3, .Constant (.int b) k2 p4] [] p5] [] p6) (runZ a n) := fun N A s c F mg mb hh hN S => by
  refine wpAny_Call_NameR (name_blt (M := model pw w) S.g S.b S.set.1 S.set.2 (PyProof.Rows.callWith_type1 (args_cons ?_)))
  refine wpAny_Call_NameR (name_blt (M := model pw w) S.g S.b S.range.1 S.range.2 (PyProof.Rows.callWith_type1 (args_cons (wpAny_Constant_int (args_cons (wpAny_Constant_int (args_nil (call_range_2 (args_nil ?_)))))))))
  refine call_set_range hh (IsRange.new _ _ _ _ _ _ _) (range_small hb h0 hs) (range_size hb) (by unfold scanBound; omega) fun h' tk hS hk => ⟨⟨_, _, _, rfl, ?_, hS, fun k => met_range a n k⟩, ⟨h', tk, rfl, fun x o e => hk x o (Nat.lt_of_lt_of_le (Heap.lt_size e) ?_) (Heap.get?_push_of_some _ e)⟩⟩
  · show N ≤ Array.size _
    rw [Heap.size_push]
    exact Nat.le_succ_of_le hN.size
  · rw [Heap.size_push]; exact Nat.le_succ _
end
end Mine
end

section
open PySem PySem.W PyProof.Rows PySem.Calls
namespace Mine

abbrev Tab := List (Int × List Nat)
inductive ValsOk : List (Int × Value) → Tab → Prop
  | nil : ValsOk [] []
  | cons {k : Int} {l : List Nat} {t : Tok} {kvs : List (Int × Value)} {D : Tab} : ValsOk kvs D → ValsOk ((k, .str ⟨l.toArray⟩ t) :: kvs) ((k, l) :: D)
theorem ValsOk.keys {kvs : List (Int × Value)} {D : Tab} (x : ValsOk kvs D) : kvs.map (·.1) = D.map (·.1) := by
  induction x with
  | nil => rfl
  | cons _ ih => simp [ih]
theorem ValsOk.length {kvs : List (Int × Value)} {D : Tab} (x : ValsOk kvs D) : kvs.length = D.length := by
  have := congrArg List.length x.keys
  simpa using this
theorem ValsOk.append {kvs kvs' : List (Int × Value)} {D D' : Tab} (x : ValsOk kvs D) (y : ValsOk kvs' D') : ValsOk (kvs ++ kvs') (D ++ D') := by
  induction x with
  | nil => exact y
  | cons _ ih => exact .cons ih
theorem ValsOk.at {kvs : List (Int × Value)} {D : Tab} (x : ValsOk kvs D) (k : Int) : match D.lookup k with
    | some l => ∃ t, valueAt kvs k = some (.str ⟨l.toArray⟩ t)
    | none => valueAt kvs k = none := by
  induction x with
  | nil => rfl
  | @cons k' l t kvs D _ ih =>
    rw [List.lookup_cons]
    unfold valueAt
    rw [List.find?_cons]
    by_cases q : k = k'
    · subst q
      simp
    · have q1 : (k == k') = false := by simpa using q
      have q2 : decide (k' = k) = false := decide_eq_false fun e => q e.symm
      rw [q1]
      simp only [q2]
      exact ih

/-- keys and values of a display, as they come -/
inductive PairsOk : List (Sem Value × Sem Value) → Tab → Prop
  | nil : PairsOk [] []
  | cons {p : Sem Value × Sem Value} {k : Int} {l : List Nat} {ps : List (Sem Value × Sem Value)} {D : Tab} :
      (∀ (M : Model) (A : Around) (E : Value → Shared → Prop) (s : Shared) (Q : Value → Shared → Prop), (∀ t tk, Q (.int k t) { s with toks := tk }) → wpAny M A p.1 Q E s) →
      (∀ (M : Model) (A : Around) (E : Value → Shared → Prop) (s : Shared) (Q : Value → Shared → Prop), (∀ t tk, Q (.str ⟨l.toArray⟩ t) { s with toks := tk }) → wpAny M A p.2 Q E s) →
      PairsOk ps D → PairsOk (p :: ps) ((k, l) :: D)
theorem PairsOk.length {ps : List (Sem Value × Sem Value)} {D : Tab} (x : PairsOk ps D) : ps.length = D.length := by
  induction x with
  | nil => rfl
  | cons _ _ _ ih => simp [ih]
theorem PairsOk.append {ps qs : List (Sem Value × Sem Value)} {D D' : Tab} (x : PairsOk ps D) (y : PairsOk qs D') : PairsOk (ps ++ qs) (D ++ D') := by
  induction x with
  | nil => exact y
  | cons a b _ ih => exact .cons a b ih

theorem stored_new {acc : List (Int × Value)} {k : Int} {v : Value} (h : k ∉ acc.map (·.1)) : stored acc k v = acc ++ [(k, v)] := by
  unfold stored
  rw [if_neg]
  intro q
  obtain ⟨kv, hkv, e⟩ := List.any_eq_true.mp q
  exact h (List.mem_map.mpr ⟨kv, hkv, of_decide_eq_true e⟩)

section
variable {w : World} {A : Around} {E : Value → Shared → Prop} {s : Shared}
abbrev IK (w : World) := intKind pw w

theorem evalPairs_ok : ∀ {P : List (Sem Value × Sem Value)} {D : Tab} (s : Shared) (Q : List (Value × Value) → Shared → Prop), PairsOk P D →
    (∀ vs kvs tk, Carries (IK w) vs kvs → ValsOk kvs D → Q vs { s with toks := tk }) → wpAny (model pw w) A (evalPairs P) Q E s
  | _, _, s, Q, .nil, h => evalPairs_nil (h [] [] s.toks trivial .nil)
  | _, _, s, Q, .cons a b r, h => evalPairs_cons (a _ _ _ _ _ fun t tk => b _ _ _ _ _ fun t' tk' => evalPairs_ok _ _ r fun vs kvs tk'' c v => h _ ((_, _) :: kvs) tk'' ⟨intKind_is _ _ _ _, rfl, c⟩ (.cons v))

theorem loop_long {d : Addr} : ∀ {P : List (Sem Value × Sem Value)} {D : Tab} (acc : List (Int × Value)) (s : Shared) (Q : PUnit → Shared → Prop), PairsOk P D → s.heap.DictOf (IK w) d acc →
    (acc.map (·.1) ++ D.map (·.1)).Nodup → acc.length + D.length ≤ 1000 →
    (∀ h' tk kvs, ValsOk kvs D → h'.DictOf (IK w) d (acc ++ kvs) → Heap.SameBut d s.heap h' → Q PUnit.unit { s with heap := h', toks := tk }) →
    wpAny (model pw w) A (forIn P PUnit.unit fun (x : Sem Value × Sem Value) (_ : PUnit) => (do
      let kv ← x.1
      let vv ← holding [kv] x.2
      holding [kv, vv] (dictSet d kv vv)
      pure (ForInStep.yield PUnit.unit) : Sem (ForInStep PUnit))) Q E s
  | _, _, acc, s, Q, .nil, hm, hn, hz, h => by
    rw [List.forIn_nil]
    exact wpAny_pure (h s.heap s.toks [] .nil (by simpa using hm) (Heap.SameBut.refl _ _))
  | _, _, acc, s, Q, .cons (k := k) (l := l) (D := D) a b r, hm, hn, hz, h => by
    rw [List.forIn_cons]
    refine wpAny_bind (wpAny_bind (a _ _ _ _ _ fun t tk => wpAny_bind (wpAny_holding (b _ _ _ _ _ fun t' tk' => wpAny_bind (wpAny_holding ?_)))))
    have hnew : k ∉ acc.map (·.1) := by
      intro q
      have := (List.nodup_append.mp hn).2.2 k q k (by simp)
      exact this rfl
    rw [List.length_cons] at hz
    refine wpAny_dictSet_pairs (knd := IK w) (k := k) (hsz := by rw [sizeLine_eq]; omega) (intKind_is _ _ _ _) hm fun h₁ hm₁ hs₁ => wpAny_pure ?_
    rw [stored_new hnew] at hm₁
    refine loop_long _ _ _ r hm₁ ?_ (by simp; omega) fun h' tk2 kvs v hm' hs' => ?_
    · simpa [List.append_assoc] using hn
    · exact h h' tk2 ((k, _) :: kvs) (.cons v) (by simpa [List.append_assoc] using hm') (hs₁.trans hs')

theorem subd_ok {P : List (Sem Value × Sem Value)} {D : Tab} {Q : Addr → Shared → Prop} (hP : PairsOk P D) (hn : (D.map (·.1)).Nodup) (hz : D.length ≤ 1000)
    (h : ∀ h' tk kvs, ValsOk kvs D → h'.DictOf (IK w) s.heap.objs.size kvs → (∀ b o, s.heap.get? b = some o → h'.get? b = some o) → Q s.heap.objs.size { s with heap := h', toks := tk }) :
    wpAny (model pw w) A (subDict P) Q E s := by
  have keep : ∀ h', Heap.SameBut s.heap.objs.size (s.heap.push { cls := .type "dict", data := .dict #[] }) h' → ∀ b o, s.heap.get? b = some o → h'.get? b = some o :=
    fun h' hs b o e => (hs.2 b (Nat.ne_of_lt (Heap.lt_size e))).trans (Heap.get?_push_of_some _ e)
  by_cases hlen : P.length ≤ 15
  · refine wpAny_subDict (knd := IK w) hlen (evalPairs_ok _ _ hP fun vs kvs tk c v => ⟨kvs, c, Heap.DictOf.new _, fun h' hm hs => ?_⟩)
    rw [merged_nil_of_nodup kvs (by rw [v.keys]; exact hn)] at hm
    exact h h' _ kvs v hm (keep h' hs)
  · unfold subDict
    refine wpAny_bind (wpAny_alloc ?_)
    refine wpAny_bind (wpAny_holding ?_)
    rw [if_neg hlen]
    refine wpAny_bind (wpAny_rule ?_)
    refine wpAny_bind (loop_long [] _ _ hP (Heap.DictOf.new _) (by simpa using hn) (by simpa using hz) fun h' tk kvs v hm hs => ?_)
    exact wpAny_pure (wpAny_pure (h h' tk kvs v (by simpa using hm) (keep h' hs)))

/-- a fresh key put, as the merging of a display does it -/
theorem put_new {d : Addr} {acc : List (Int × Value)} {k : Int} {key v : Value} {Q : Unit → Shared → Prop} (hkey : (IK w).is k key = true) (hm : s.heap.DictOf (IK w) d acc) (hnew : k ∉ acc.map (·.1)) (hz : acc.length ≤ 1000)
    (h : ∀ h', h'.DictOf (IK w) d (acc ++ [(k, v)]) → Heap.SameBut d s.heap h' → Q () { s with heap := h' }) :
    wpAny (model pw w) A (dictPut d ((IK w).hash k) key v) Q E s := by
  obtain ⟨o, es, ep, ho, hc, hd, hk, hp, hn⟩ := hm
  have hes : es.size ≤ sizeLine := by
    have e1 := hp.length
    rw [Array.length_toList] at e1
    rw [sizeLine_eq]; omega
  unfold dictPut
  refine wpAny_bind (wpAny_dictFind_of hkey ho hd hk ?_)
  have hidx : (es.findIdx? fun e => (IK w).is k e.key) = acc.findIdx? fun kv => decide (kv.1 = k) := by
    rw [← hp.findIdx k]; obtain ⟨l⟩ := es; simp
  have hnone : (acc.findIdx? fun kv => decide (kv.1 = k)) = none := by
    rw [List.findIdx?_eq_none_iff]
    intro x hx
    exact decide_eq_false fun e => hnew (List.mem_map.mpr ⟨x, hx, e⟩)
  rw [hidx, hnone]
  refine wpAny_updateDictKeys (hz := hes) ho hd (h _ ⟨_, _, ep + 1, Heap.get?_update_self _ ho (Obj.isFreed_of_dict (Obj.data_mapDictKeys hd _)), hc.mapDictKeys _, Obj.data_mapDictKeys hd _, hk.push hkey _, ?_, ?_⟩ (Heap.SameBut.update ..))
  · have := hp.append hkey ((IK w).hash k) v
    obtain ⟨l⟩ := es
    simpa using this
  · rw [List.map_append, List.nodup_append]
    refine ⟨hn, by simp, ?_⟩
    intro a ha b hb
    simp only [List.map_cons, List.map_nil, List.mem_singleton] at hb
    subst hb
    exact fun e => hnew (e ▸ ha)

theorem merge_ok {d o : Addr} {kvs more : List (Int × Value)} {Q : Unit → Shared → Prop} (hdo : d ≠ o) (hoS : (o == sysModules) = false) (hd : s.heap.DictOf (IK w) d kvs) (ho : s.heap.DictOf (IK w) o more) (hne : kvs ≠ [])
    (hn : (kvs.map (·.1) ++ more.map (·.1)).Nodup) (hz : kvs.length + more.length ≤ 1000) (hQ : ∀ h', h'.DictOf (IK w) d (kvs ++ more) → Heap.SameBut d s.heap h' → Q () { s with heap := h' }) :
    wpAny (model pw w) A (mergeMapping d (.ref o) false) Q E s := by
  obtain ⟨od, esd, epd, hod, hcd, hdd, hkd, hpd, hnd⟩ := id hd
  obtain ⟨oo, eso, epo, hoo, hco, hdo', hko, hpo, hno⟩ := id ho
  have hlen : more.length = eso.size := by rw [← hpo.length]; simp
  unfold mergeMapping
  refine wpAny_bind (wpAny_isInstance ho.typeIs isSubtype_dict_dict ?_)
  rw [if_pos rfl]
  refine wpAny_bind (wpAny_specialOf ho.typeIs F.slot_dict_iter.lookup (wpAny_bind (wpAny_pure ?_)))
  rw [show (some (Value.builtin "dict.__iter__") == some (Value.builtin "dict.__iter__")) = true from by decide]
  show wpAny _ _ (if (o == sysModules) = true then _ else _) _ _ _
  rw [hoS, if_neg Bool.false_ne_true]
  refine wpAny_bind (wpAny_dictEntries hod hdd ?_)
  have hne2 : ¬ esd.isEmpty = true := by
    intro q
    have h0 : esd = #[] := Array.isEmpty_iff.mp q
    have := hpd.length
    rw [h0] at this
    exact hne (List.length_eq_zero_iff.mp this.symm)
  rw [if_neg hne2]
  refine wpAny_bind (wpAny_dictEntries hoo hdo' ?_)
  refine wpAny_bind (wpAny_dictEpoch hoo hdo' ?_)
  refine wpAny_bind ?_
  rw [List.range_eq_range']
  refine wpAny_forIn_list _
    (fun rest _ s' => ∃ h' i, s' = { s with heap := h' } ∧ rest = List.range' i (eso.size - i) ∧ i ≤ eso.size ∧ h'.DictOf (IK w) d (kvs ++ more.take i) ∧ h'.get? o = some oo ∧ Heap.SameBut d s.heap h')
    _ ?_ ?_ _ _ ⟨s.heap, 0, rfl, by simp, Nat.zero_le _, by simpa using hd, hoo, Heap.SameBut.refl _ _⟩
  · rintro x rest b s' ⟨h', i, rfl, hr, hi, hd', hoo', hs'⟩
    have hlt : i < eso.size := by
      rcases Nat.lt_or_ge i eso.size with h | h
      · exact h
      · rw [Nat.sub_eq_zero_of_le h] at hr; simp at hr
    obtain ⟨rfl, hrest⟩ : x = i ∧ rest = List.range' (i + 1) (eso.size - (i + 1)) := by
      have e : eso.size - i = (eso.size - (i + 1)) + 1 := by omega
      rw [e, List.range'_succ] at hr
      injection hr with h1 h2
      exact ⟨h1, h2⟩
    refine wpAny_bind (wpAny_dictEntries hoo' hdo' ?_)
    rw [Array.getElem?_eq_getElem hlt]
    have hx : x < more.length := by rw [hlen]; exact hlt
    obtain ⟨⟨k, v⟩, hkv⟩ : ∃ kv, more[x]? = some kv := ⟨more[x], List.getElem?_eq_getElem _⟩
    obtain ⟨hkey, hval⟩ := hpo.get? (e := eso[x]) (by simp [hlt]) hkv
    obtain ⟨k', hkey', hhash⟩ := hko eso[x] (Array.getElem_mem hlt)
    obtain rfl : k' = k := (IK w).inj _ _ _ hkey' hkey
    show wpAny _ _ (holding [eso[x].key, eso[x].val] (dictPut d eso[x].hash eso[x].key eso[x].val) >>= _) _ _ _
    rw [hhash, hval]
    have htake : more.take (x + 1) = more.take x ++ [(k', v)] := by rw [List.take_add_one, hkv]; rfl
    have hfresh : k' ∉ (kvs ++ more.take x).map (·.1) := by
      have e : more = more.take x ++ (k', v) :: more.drop (x + 1) := by
        have h1 := List.take_append_drop (x + 1) more
        rw [htake, List.append_assoc] at h1
        exact h1.symm
      rw [e] at hn
      rw [List.map_append, List.map_cons, ← List.append_assoc] at hn
      intro q
      rw [List.map_append] at q
      exact (List.nodup_append.mp hn).2.2 k' q k' (by simp) rfl
    refine wpAny_bind (wpAny_holding (put_new hkey hd' hfresh ?_ fun h'' hd'' hs'' => ?_))
    · have : (more.take x).length ≤ more.length := by rw [List.length_take]; omega
      simp only [List.length_append]; omega
    have hoo'' : h''.get? o = some oo := (hs''.2 o (Ne.symm hdo)).trans hoo'
    refine wpAny_bind (wpAny_dictEpoch hoo'' hdo' ?_)
    rw [if_neg (by simp)]
    exact wpAny_pure ⟨h'', x + 1, rfl, hrest, hlt, by rw [htake, ← List.append_assoc]; exact hd'', hoo'', hs'.trans hs''⟩
  · rintro b s' ⟨h', i, rfl, hr, hi, hd', hoo', hs'⟩
    have hin : i = eso.size := by
      rcases Nat.lt_or_ge i eso.size with h | h
      · have e : eso.size - i = (eso.size - (i + 1)) + 1 := by omega
        rw [e, List.range'_succ] at hr; exact nomatch hr
      · exact Nat.le_antisymm hi h
    rw [hin, ← hlen, List.take_length] at hd'
    exact wpAny_pure (hQ h' hd' hs')
end
end Mine
end

section
open PySem PySem.W PyProof.Rows PySem.Calls
namespace Mine
abbrev PT := Sem Value × Sem Value
def flushT (run : List PT) (main : Option Addr) : Sem (Option Addr) :=
  if run.isEmpty = true then pure main else match main with
    | none => do return some (← subDict run)
    | some d => do
      let sub ← holding [.ref d] (subDict run)
      (holding [.ref d, .ref sub] (mergeMapping d (.ref sub) false)).onRaise fun x => do let _ ← holding [.ref d, x] (runValue (.builtin "proto.let_go" {}))
      return some d
def turnT (p : PT) (st : Option Addr × List PT) : Sem (ForInStep (Option Addr × List PT)) :=
  if ((st.2 ++ [(p.1, p.2)]).length == 17) = true then do
    let m ← flushT (st.2 ++ [(p.1, p.2)]) st.1
    pure (.yield (m, []))
  else pure (.yield (st.1, st.2 ++ [(p.1, p.2)]))
theorem display_eq (P : List PT) : dictDisplay (P.map fun p => (some p.1, p.2)) = (do
    let r ← forIn P ((none : Option Addr), ([] : List PT)) turnT
    match ← flushT r.2 r.1 with
    | some d => pure (.ref d)
    | none => newDict) := by
  unfold dictDisplay
  dsimp only
  rw [List.forIn_map]
  rfl

abbrev keysOf (D : Tab) : List Int := D.map (·.1)
/-- what the display has laid so far: nothing yet, or a dict of its own -/
def MainOk (w : World) (N : Nat) (h₀ h : Heap) (D : Tab) : Option Addr → Prop
  | none => D = []
  | some d => ∃ kvs, ValsOk kvs D ∧ h.DictOf (IK w) d kvs ∧ N ≤ d ∧ h₀.get? d = none ∧ D ≠ []
section
variable {w : World} {A : Around} {E : Value → Shared → Prop} {s : Shared} {N : Nat} {h₀ : Heap}
theorem MainOk.keeps {h h' : Heap} {D : Tab} {m : Option Addr} (x : MainOk w N h₀ h D m) (k : ∀ b o, h.get? b = some o → h'.get? b = some o) : MainOk w N h₀ h' D m := by
  cases m with
  | none => exact x
  | some d => obtain ⟨kvs, a, b, c, d', e⟩ := x; exact ⟨kvs, a, b.keep k, c, d', e⟩

theorem flush_ok {run : List PT} {main : Option Addr} {Dm Dr : Tab} {Q : Option Addr → Shared → Prop} (hN : sysModules < N) (roof : Roof N s.heap) (K0 : ∀ b o, h₀.get? b = some o → s.heap.get? b = some o)
    (hP : PairsOk run Dr) (hM : MainOk w N h₀ s.heap Dm main) (hn : (keysOf Dm ++ keysOf Dr).Nodup) (hz : Dm.length + Dr.length ≤ 1000)
    (k : ∀ m' h' tk, MainOk w N h₀ h' (Dm ++ Dr) m' → (∀ b o, h₀.get? b = some o → h'.get? b = some o) → Roof N h' → Q m' { s with heap := h', toks := tk }) :
    wpAny (model pw w) A (flushT run main) Q E s := by
  have nd := (List.nodup_append.mp hn).2.1
  have hnew : h₀.get? s.heap.objs.size = none := by
    cases e : h₀.get? s.heap.objs.size with
    | none => rfl
    | some o => exact absurd (Heap.lt_size (K0 _ _ e)) (Nat.lt_irrefl _)
  unfold flushT
  by_cases he : run.isEmpty = true
  · rw [if_pos he]
    obtain rfl : run = [] := List.isEmpty_iff.mp he
    cases hP
    refine wpAny_pure (k main s.heap s.toks (by simpa using hM) K0 roof)
  · rw [if_neg he]
    have hDr : Dr ≠ [] := by
      rintro rfl
      cases hP
      exact he rfl
    cases main with
    | none =>
      obtain rfl : Dm = [] := hM
      refine wpAny_bind (subd_ok hP nd (by simpa using hz) fun h' tk kvs v hd kk => wpAny_pure (k _ h' tk ⟨kvs, v, hd, roof.size, hnew, by simpa using hDr⟩ (fun b o e => kk b o (K0 b o e)) ?_))
      obtain ⟨T, o, a, e⟩ := roof
      exact ⟨T, o, a, kk _ _ e⟩
    | some d =>
      obtain ⟨kvs, v, hd, h1, h2, h3⟩ := hM
      have hlt : d < s.heap.objs.size := by obtain ⟨o, es, ep, ho, _⟩ := hd; exact Heap.lt_size ho
      refine wpAny_bind (wpAny_holding (subd_ok hP nd (by omega) fun h' tk kvs' v' hd' kk => wpAny_bind (wpAny_onRaise (wpAny_holding ?_))))
      have hS : (s.heap.objs.size == sysModules) = false := beq_eq_false_iff_ne.mpr (Nat.ne_of_gt (Nat.lt_of_lt_of_le hN roof.size))
      refine merge_ok (kvs := kvs) (more := kvs') (Nat.ne_of_lt hlt) hS (hd.keep kk) hd' ?_ ?_ ?_ fun h'' hm hs => wpAny_pure (k _ h'' tk ⟨_, v.append v', hm, h1, h2, by simp [h3]⟩ (fun b o e => ?_) ?_)
      · rintro rfl
        cases v
        exact h3 rfl
      · rw [v.keys, v'.keys]; exact hn
      · rw [v.length, v'.length]; exact hz
      · refine (hs.2 b ?_).trans (kk b o (K0 b o e))
        rintro rfl
        rw [h2] at e; cases e
      · obtain ⟨T, o, a, e⟩ := roof
        refine ⟨T, o, a, (hs.2 T (Nat.ne_of_lt ?_)).trans (kk _ _ e)⟩
        rw [a] at h1
        exact h1

theorem gather_ok (hN : sysModules < N) : ∀ (P run : List PT) (main : Option Addr) (Dm Dr Dp : Tab) (s : Shared) (Q : Option Addr × List PT → Shared → Prop), Roof N s.heap → (∀ b o, h₀.get? b = some o → s.heap.get? b = some o) →
    PairsOk P Dp → PairsOk run Dr → MainOk w N h₀ s.heap Dm main → (keysOf (Dm ++ Dr ++ Dp)).Nodup → Dm.length + Dr.length + Dp.length ≤ 1000 →
    (∀ m' run' Dm' Dr' h' tk, MainOk w N h₀ h' Dm' m' → PairsOk run' Dr' → Dm' ++ Dr' = Dm ++ Dr ++ Dp → (∀ b o, h₀.get? b = some o → h'.get? b = some o) → Roof N h' → Q (m', run') { s with heap := h', toks := tk }) →
    wpAny (model pw w) A (forIn P (main, run) turnT) Q E s
  | _, run, main, Dm, Dr, _, s, Q, roof, K0, .nil, hR, hM, hn, hz, k => by
    rw [List.forIn_nil]
    exact wpAny_pure (k main run Dm Dr s.heap s.toks hM hR (by simp) K0 roof)
  | _, run, main, Dm, Dr, _, s, Q, roof, K0, .cons (p := p) (k := i) (l := l) (ps := ps) (D := Dp) a b r, hR, hM, hn, hz, k => by
    rw [List.forIn_cons]
    have hR' : PairsOk (run ++ [(p.1, p.2)]) (Dr ++ [(i, l)]) := hR.append (.cons a b .nil)
    have e : Dm ++ Dr ++ (i, l) :: Dp = Dm ++ (Dr ++ [(i, l)]) ++ Dp := by simp
    rw [e] at hn k
    have hz' : Dm.length + (Dr ++ [(i, l)]).length + Dp.length ≤ 1000 := by simp at hz ⊢; omega
    unfold turnT
    by_cases q : ((run ++ [(p.1, p.2)]).length == 17) = true
    · rw [if_pos q]
      refine wpAny_bind (wpAny_bind (flush_ok hN roof K0 hR' hM ?_ (by omega) fun m' h' tk hM' K' roof' => wpAny_pure ?_))
      · have := (List.nodup_append.mp (show (keysOf (Dm ++ (Dr ++ [(i, l)])) ++ keysOf Dp).Nodup by simpa [keysOf] using hn)).1
        simpa [keysOf] using this
      · refine gather_ok hN ps [] m' (Dm ++ (Dr ++ [(i, l)])) [] Dp _ Q roof' K' r .nil hM' (by simpa using hn) (by simp at hz' ⊢; omega) fun m2 run2 Dm2 Dr2 h2 tk2 x1 x2 x3 x4 x5 => k m2 run2 Dm2 Dr2 h2 tk2 x1 x2 (by simpa using x3) x4 x5
    · rw [if_neg q]
      refine wpAny_bind (wpAny_pure ?_)
      exact gather_ok hN ps _ main Dm _ Dp s Q roof K0 r hR' hM hn hz' k

theorem display_ok {P : List PT} {D : Tab} {Q : Value → Shared → Prop} (hN : sysModules < N) (roof : Roof N s.heap) (hP : PairsOk P D) (hn : (keysOf D).Nodup) (hz : D.length ≤ 1000) (hne : D ≠ [])
    (k : ∀ d kvs s', Kp s s' → N ≤ d → ValsOk kvs D → s'.heap.DictOf (IK w) d kvs → Q (.ref d) s') : wpAny (model pw w) A (dictDisplay (P.map fun p => (some p.1, p.2))) Q E s := by
  rw [display_eq]
  refine wpAny_bind (gather_ok (h₀ := s.heap) hN P [] none [] [] D s _ roof (fun _ _ e => e) hP .nil rfl (by simpa using hn) (by simpa using hz) fun m' run' Dm' Dr' h' tk hM hR e K' roof' => ?_)
  have e' : Dm' ++ Dr' = D := by simpa using e
  have hk : (keysOf Dm' ++ keysOf Dr').Nodup := by rw [← List.map_append, e']; exact hn
  refine wpAny_bind (flush_ok (h₀ := s.heap) hN roof' K' hR hM hk (by rw [← List.length_append, e']; exact hz) fun m2 h2 tk2 hM2 K2 _ => ?_)
  rw [e'] at hM2
  cases m2 with
  | none => exact absurd hM2 hne
  | some d =>
    obtain ⟨kvs, v, hd, h1, _, _⟩ := hM2
    exact wpAny_pure (k d kvs _ ⟨h2, tk2, rfl, K2⟩ h1 v hd)
end
end Mine
end

section
open PySem PySem.W PyProof.Rows PySem.Calls
namespace Mine
def litK : Option Expr → Option Int
  | some (.Constant (.int k) _ _) => some k
  | _ => none
def litV : Expr → Option (List Nat)
  | .Constant (.str x) _ _ => some x.cps.toList
  | _ => none
def litsD : List (Option Expr) → List Expr → Option Tab
  | [], [] => some []
  | k :: ks, v :: vs => match litK k, litV v, litsD ks vs with
    | some i, some l, some r => some ((i, l) :: r)
    | _, _, _ => none
  | _, _ => none
def asc : List Int → Bool
  | [] => true
  | [_] => true
  | a :: b :: r => decide (a < b) && asc (b :: r)
theorem asc_lt : ∀ {a : Int} {l : List Int}, asc (a :: l) = true → ∀ x ∈ l, a < x
  | a, [], _, x, hx => nomatch hx
  | a, b :: r, h, x, hx => by
    simp only [asc, Bool.and_eq_true, decide_eq_true_eq] at h
    rcases List.mem_cons.mp hx with rfl | hx
    · exact h.1
    · exact Int.lt_trans h.1 (asc_lt h.2 x hx)
theorem asc_tail {a : Int} {l : List Int} (h : asc (a :: l) = true) : asc l = true := by
  cases l with
  | nil => rfl
  | cons b r => simp only [asc, Bool.and_eq_true] at h; exact h.2
theorem asc_nodup : ∀ {l : List Int}, asc l = true → l.Nodup
  | [], _ => .nil
  | a :: l, h => List.nodup_cons.mpr ⟨fun hx => Int.lt_irrefl _ (asc_lt h a hx), asc_nodup (asc_tail h)⟩
theorem litsD_ok {env : Env} {pos : Pos} : ∀ {ks : List (Option Expr)} {vs : List Expr} {D : Tab}, litsD ks vs = some D → PairsOk (pairTrees ks vs env pos) D ∧ ks.all (·.isSome) = true ∧ ks.length = vs.length
  | [], [], D, h => by cases h; exact ⟨.nil, rfl, rfl⟩
  | [], _ :: _, D, h => by cases h
  | _ :: _, [], D, h => by cases h
  | k :: ks, v :: vs, D, h => by
    unfold litsD at h
    split at h
    · rename_i i l r h1 h2 h3
      cases h
      obtain ⟨a, b, c⟩ := litsD_ok (env := env) (pos := pos) h3
      unfold litK at h1
      split at h1
      · rename_i k1 p1
        cases h1
        unfold litV at h2
        split at h2
        · rename_i x k2 p2
          cases h2
          refine ⟨PairsOk.cons (k := i) (l := x.cps.toList) (ps := pairTrees ks vs env pos) ?_ ?_ a, by simpa using b, by simp [c]⟩
          · exact fun M A E s Q q => wpAny_Constant_int (env := env) (k := k1) (pos := p1) (q _ _)
          · exact fun M A E s Q q => wpAny_bind (Constant_str (env := env) (k := k2) (pos := p2) (wpAny_bind (wpAny_standAt (wpAny_pure (q s.toks (s.toks + 1))))))
        · cases h2
      · cases h1
    · cases h

/-- the dict of the top, above N -/
def DictF (w : World) (N : Nat) (D : Tab) : Fact := fun h v => ∃ a f, v = .ref a ∧ N ≤ a ∧ h.MapOf (IK w) a f ∧ ∀ k, match D.lookup k with
  | some l => ∃ t, f k = some (.str ⟨l.toArray⟩ t)
  | none => f k = none
theorem DictF.stab {w : World} {N : Nat} {D : Tab} : Stab N (DictF w N D) := fun h h' v k ⟨a, f, e, q, ⟨o, es, ep, h1, h2⟩, h3⟩ => ⟨a, f, e, q, ⟨o, es, ep, k _ _ q h1, h2⟩, h3⟩
theorem ev_dict {w : World} {A : Around} {s : Shared} {env : Env} {N : Nat} {ks : List (Option Expr)} {vs : List Expr} {D : Tab} {p : Pos} (hN : sysModules < N) (roof : Roof N s.heap) (h : litsD ks vs = some D) (ha : asc (keysOf D) = true) (hz : D.length ≤ 1000) (hne : D ≠ []) :
    wpAny (model pw w) A (eval (.Dict ks vs p) env) (fun v s' => DictF w N D s'.heap v ∧ Kp s s') noE s := by
  obtain ⟨h1, h2, h3⟩ := litsD_ok (env := env) (pos := p) h
  rw [arm_eval_Dict, zip_pairTrees _ _ _ _ h2 h3]
  refine wpAny_bind (wpAny_standAt (display_ok hN roof h1 (asc_nodup ha) hz hne fun d kvs s' k hd v hm => ⟨⟨d, _, rfl, hd, hm.mapOf, fun i => v.at i⟩, k⟩))

def dKs : Stmt → List (Option Expr) | .Assign _ (.Dict ks _ _) _ => ks | _ => []
def dVs : Stmt → List Expr | .Assign _ (.Dict _ vs _) _ => vs | _ => []
theorem b3_lits : litsD (dKs (stm 9)) (dVs (stm 9)) = some b3Tab := by kernel_rfl
theorem b3_asc : asc (keysOf b3Tab) = true := by decide +kernel
theorem b3_len : b3Tab.length ≤ 1000 := by decide +kernel
theorem b3_ne : b3Tab ≠ [] := by
  intro e
  have : b3Tab.length = 0 := by rw [e]; rfl
  revert this
  decide +kernel
end Mine
end

section
open PySem PySem.W PyProof.Rows PySem.Calls
namespace Mine

/-- what the walk of the top reads of the state before it -/
structure Base (h₀ : Heap) (mg₀ mb : Str → Option Value) (Pl : Addr) : Prop where
  newP : h₀.get? Pl = none
  b : h₀.Ns builtinsNs mb
  set : mg₀ "set" = none ∧ mb "set" = some (.type "set")
  list : mg₀ "list" = none ∧ mb "list" = some (.type "list")
  range : mg₀ "range" = none ∧ mb "range" = some (.type "range")
  sre : ∃ Mo D md, Mo ≠ mainGlobals ∧ D ≠ mainGlobals ∧ mg₀ "_sre" = some (.ref Mo) ∧ Flt.IsCMod h₀ Mo D md ∧ md "compile" = some (.builtin "_sre.compile")

structure Tq (s₀ : Shared) (h₀ : Heap) (mg₀ : Str → Option Value) (c Pl : Addr) (N : Nat) (names : List Str) (L : List (Str × Fact)) (s : Shared) (mg : Str → Option Value) (ps : Array Value) : Prop where
  tp : Tp h₀ mg₀ c Pl N names L s.heap mg ps
  of : ∃ h tk, s = { s₀ with heap := h, toks := tk }

section
variable {w : World} {A : Around} {E : Value → Shared → Prop} {s₀ s : Shared} {c Pl F : Addr} {h₀ : Heap} {mg₀ mb mg : Str → Option Value} {N : Nat} {names : List Str} {L : List (Str × Fact)} {ps : Array Value} {Q : Flow → Shared → Prop}

theorem Tq.next {h' : Heap} {tk : Nat} {names' : List Str} {L' : List (Str × Fact)} {mg' : Str → Option Value} {ps' : Array Value} (X : Tq s₀ h₀ mg₀ c Pl N names L s mg ps) (Y : Tp h₀ mg₀ c Pl N names' L' h' mg' ps') :
    Tq s₀ h₀ mg₀ c Pl N names' L' { s with heap := h', toks := tk } mg' ps' := by
  refine ⟨Y, ?_⟩
  obtain ⟨h, t, rfl⟩ := X.of
  exact ⟨h', tk, rfl⟩
theorem Tp.roof {h : Heap} (X : Tp h₀ mg₀ c Pl N names L h mg ps) : Roof N h := let ⟨T, o, a, _, _, e⟩ := X.top; ⟨T, o, a, e⟩
theorem Tp.old {h : Heap} (X : Tp h₀ mg₀ c Pl N names L h mg ps) (B : Base h₀ mg₀ mb Pl) {b : Addr} {o : Obj} (hb : b ≠ mainGlobals) (e : h₀.get? b = some o) : h.get? b = some o :=
  X.keep b o (by rintro rfl; rw [B.newP] at e; cases e) hb e
theorem Tp.sees {h : Heap} (X : Tp h₀ mg₀ c Pl N names L h mg ps) (B : Base h₀ mg₀ mb Pl) (hn : (["set", "list", "range"] : List Str).all (fun x => !names.contains x) = true) : Sees h mg mb := by
  simp only [List.all_cons, List.all_nil, Bool.and_true, Bool.and_eq_true, Bool.not_eq_true', List.contains_eq_mem, decide_eq_false_iff_not] at hn
  obtain ⟨n1, n2, n3⟩ := hn
  obtain ⟨o, es, ep, ho, r⟩ := B.b
  exact ⟨X.main.g, ⟨o, es, ep, X.old B (by decide) ho, r⟩, ⟨(X.same _ n1 (by decide)).trans B.set.1, B.set.2⟩, ⟨(X.same _ n2 (by decide)).trans B.list.1, B.list.2⟩, ⟨(X.same _ n3 (by decide)).trans B.range.1, B.range.2⟩⟩
theorem Tp.module {h : Heap} (X : Tp h₀ mg₀ c Pl N names L h mg ps) (B : Base h₀ mg₀ mb Pl) (hn : ("_sre" : Str) ∉ names) : ∃ Mo D md, mg "_sre" = some (.ref Mo) ∧ Flt.IsCMod h Mo D md ∧ md "compile" = some (.builtin "_sre.compile") := by
  obtain ⟨Mo, D, md, q1, q2, e, ⟨h1, h2⟩, hm⟩ := B.sre
  obtain ⟨o, es, ep, ho, r⟩ := h2
  exact ⟨Mo, D, md, (X.same _ hn (by decide)).trans e, ⟨X.old B q1 h1, o, es, ep, X.old B q2 ho, r⟩, hm⟩

theorem q_def (i : Nat) {rest : List Stmt} (X : Tq s₀ h₀ mg₀ c Pl N names L s mg ps) (hx : dN (stm i) ∉ names)
    (k : ∀ s' mg' c', Tq s₀ h₀ mg₀ c Pl N (dN (stm i) :: names) ((dN (stm i), FnF N i) :: L) s' mg' (ps ++ #[rawInt (dQ (stm i)).line, rawInt (dQ (stm i)).col, .ref c']) → wpAny (model pw w) A (execs rest (mainEnv pw c F)) Q E s')
    (hst : stm i = .FunctionDef (dN (stm i)) (dP (stm i)) (dB (stm i)) [] none [] (dS (stm i)) none (dN (stm i)) (dQ (stm i)) := by rfl)
    (hfree : ((dS (stm i)).names.all fun x => x.2 != .free) = true := by decide +kernel) (hdoc : docOf (dB (stm i)) = none := by rfl)
    (hloc : pw.main.scope.names.lookup (dN (stm i)) = some .local := by decide +kernel)
    (hq : qualnameIn { scope := pw.main.scope, locals := mainGlobals, globals := mainGlobals, cells := [] } (dN (stm i)) (dN (stm i)) = (dN (stm i)) := by rfl)
    (hexec : PlainDefTree (dN (stm i)) (dP (stm i)) (dB (stm i)) (dS (stm i)) (dQ (stm i)) := by intro env; rfl)
    (hnb : dN (stm i) ≠ "__builtins__" := by decide +kernel) (hnf : codeAmong (dQ (stm i)) ps.toList = none := by rfl) :
    wpAny (model pw w) A (execs (stm i :: rest) (mainEnv pw c F)) Q E s :=
  tp_def X.tp hx (fun h' tk mg' c' Y => k _ mg' c' (X.next Y)) hst hfree hdoc hloc hq hexec hnb hnf

def aN : Stmt → Str | .Assign [.Name x _] _ _ => x | _ => ""
def aE : Stmt → Expr | .Assign _ e _ => e | _ => default
theorem q_assign (i : Nat) {P : Fact} {rest : List Stmt} (X : Tq s₀ h₀ mg₀ c Pl N names L s mg ps) (hx : aN (stm i) ∉ names) (st : Stab N P)
    (hval : wpAny (model pw w) A (eval (aE (stm i)) (mainEnv pw c F)) (fun v s' => P s'.heap v ∧ Kp s s') noE s)
    (k : ∀ s' mg', Tq s₀ h₀ mg₀ c Pl N (aN (stm i) :: names) ((aN (stm i), P) :: L) s' mg' ps → wpAny (model pw w) A (execs rest (mainEnv pw c F)) Q E s')
    (hst : ∃ p' pos, stm i = .Assign [.Name (aN (stm i)) p'] (aE (stm i)) pos := by exact ⟨_, _, rfl⟩)
    (hloc : pw.main.scope.names.lookup (aN (stm i)) = some .local := by decide +kernel) (hnb : aN (stm i) ≠ "__builtins__" := by decide +kernel)
    (hs : ∀ env t line, swapsWith (aE (stm i)) t line env = pure false := by intro _ _ _; rfl) :
    wpAny (model pw w) A (execs (stm i :: rest) (mainEnv pw c F)) Q E s := by
  obtain ⟨p', pos, e⟩ := hst
  rw [e]
  exact tp_assign X.tp hx st hval (fun h' tk mg' Y => k _ mg' (X.next Y)) hloc hnb (hs _ _ _)
theorem q_name (i : Nat) {rest : List Stmt} (X : Tq s₀ h₀ mg₀ c Pl N names L s mg ps) (hx : ("__name__" : Str) ∉ names)
    (k : ∀ s' mg', Tq s₀ h₀ mg₀ c Pl N names L s' mg' ps → wpAny (model pw w) A (execs rest (mainEnv pw c F)) Q E s')
    (hst : ∃ p' pos q kk t, stm i = .Assign [.Name "__name__" p'] (.Constant (.str t) kk q) pos := by exact ⟨_, _, _, _, _, rfl⟩) :
    wpAny (model pw w) A (execs (stm i :: rest) (mainEnv pw c F)) Q E s := by
  obtain ⟨p', pos, q, kk, t, e⟩ := hst
  rw [e]
  exact tp_name X.tp hx fun h' tk mg' Y => k _ mg' (X.next Y)

/-! the values of the top's assignments -/
def codesA : List Int := [14, 4, 0, 1, 1, 6, 1, 16, 46, 1]
def codesB : List Int := [14, 9, 4, 1, 2, 16, 10, 16, 13, 0, 7, 7, 16, 13, 16, 10, 15, 18, 5, 16, 10, 15, 13, 11, 16, 13, 5, 5, 0, 16, 10, 1, 15, 2, 0, 1]
/-- a compile's shape -/
def IsComp (e : Expr) (pat : Str) (fl : Int) (codes : List Int) : Prop := ∃ p1 p2 k3 p3 k4 p4 es p5 k6 p6 p7 k8 p8 k9 p9 p10,
  e = .Call (.Attribute (.Name "_sre" p1) "compile" p2) [.Constant (.str pat) k3 p3, .Constant (.int fl) k4 p4, .List es p5, .Constant (.int 0) k6 p6, .Dict [] [] p7, .Tuple [.Constant .none k8 p8] k9 p9] [] p10 ∧
  es.mapM intOf = some codes ∧ (p2.endLine == p10.line) = true
theorem comp2 : IsComp (aE (stm 2)) "(?m)^\\." 40 codesA := ⟨_, _, _, _, _, _, _, _, _, _, _, _, _, _, _, _, rfl, rfl, rfl⟩
theorem comp3 : IsComp (aE (stm 3)) "(?:\\r\\n|\\n|\\r(?!\\n))" 32 codesB := ⟨_, _, _, _, _, _, _, _, _, _, _, _, _, _, _, _, rfl, rfl, rfl⟩
theorem comp_val {e : Expr} {pat : Str} {fl : Int} {codes : List Int} (B : Base h₀ mg₀ mb Pl) (X : Tq s₀ h₀ mg₀ c Pl N names L s mg ps) (hn : ("_sre" : Str) ∉ names) (x : IsComp e pat fl codes)
    (h1 : ¬ (fl < -(2 ^ 31) ∨ fl ≥ 2 ^ 31)) (hc : ∀ i ∈ codes, 0 ≤ i ∧ i < 2 ^ 32) (hwf : Sre.wellFormed (wordsOf codes) 0 = true) (hlen : codes.length ≤ 1000) :
    wpAny (model pw w) A (eval e (mainEnv pw c F)) (fun v s' => PatF N pat fl codes s'.heap v ∧ Kp s s') noE s := by
  obtain ⟨p1, p2, k3, p3, k4, p4, es, p5, k6, p6, p7, k8, p8, k9, p9, p10, rfl, he, hl⟩ := x
  obtain ⟨Mo, D, md, e, hM, hm⟩ := X.tp.module B hn
  exact ev_compile X.tp.main.g e hM hm X.tp.size (Nat.lt_trans (by decide) X.tp.lowG) h1 he hc hwf hlen hl

theorem run_nat (a n : Nat) : runZ (a : Int) n = runOf a n := by unfold runZ runOf; simp
def IsRun (e : Expr) (a n : Nat) : Prop := ∃ p1 p2 k1 p3 k2 p4 p5 p6, e = .Call (.Name "list" p1) [.Call (.Name "range" p2) [.Constant (.int (a : Int)) k1 p3, .Constant (.int ((a + n : Nat) : Int)) k2 p4] [] p5] [] p6
theorem IsRun.lst {e : Expr} {a n : Nat} (x : IsRun e a n) (hs : a + n < 2 ^ 40) (hn : n ≤ 1000) : LstE w e (runOf a n) := by
  obtain ⟨p1, p2, k1, p3, k2, p4, p5, p6, rfl⟩ := x
  rw [← run_nat]
  exact lst_range (by simp) (Int.natCast_nonneg a) (by omega) hn
def IsSetRange (e : Expr) (a n : Nat) : Prop := ∃ p1 p2 p3 p4 p5 p6 k1 k2, e = .Call (.Name "set" p1) [.Call (.Name "range" p2) [.Constant (.int (a : Int)) k1 p3, .Constant (.int ((a + n : Nat) : Int)) k2 p4] [] p5] [] p6
theorem IsSetRange.set {e : Expr} {a n : Nat} (x : IsSetRange e a n) (hs : a + n < 2 ^ 40) (hn : n ≤ 1000) : SetE w e (runOf a n) := by
  obtain ⟨p1, p2, p3, p4, p5, p6, k1, k2, rfl⟩ := x
  rw [← run_nat]
  exact set_of_range (by simp) (Int.natCast_nonneg a) (by omega) hn
theorem set13 : SetE w (aE (stm 13)) (runOf 65529 5) := IsSetRange.set ⟨_, _, _, _, _, _, _, _, rfl⟩ (by decide) (by decide)
theorem set15 : SetE w (aE (stm 15)) (runOf 12272 12) := IsSetRange.set ⟨_, _, _, _, _, _, _, _, rfl⟩ (by decide) (by decide)
def IsSum1 (e : Expr) (cs : List Int) (a n : Nat) : Prop := ∃ p1 es p2 r p3 p4, e = .Call (.Name "set" p1) [.BinOp (.List es p2) .Add r p3] [] p4 ∧ es.mapM intOf = some cs ∧ IsRun r a n
theorem IsSum1.set {e : Expr} {cs : List Int} {a n : Nat} (x : IsSum1 e cs a n) (hs : a + n < 2 ^ 40) (hn : n ≤ 500) (hc : cs.length ≤ 100) : SetE w e (cs ++ runOf a n) := by
  obtain ⟨p1, es, p2, r, p3, p4, rfl, he, hr⟩ := x
  have hl : (runOf a n).length = n := by simp [runOf]
  exact set_of_list (lst_add (lst_display he (by omega)) (hr.lst hs (by omega)) (by omega)) (by simp; omega)
theorem set7 : SetE w (aE (stm 7)) ([173, 847, 6150, 6155, 6156, 6157, 8203, 8204, 8205, 8288, 65279] ++ runOf 65024 16) := IsSum1.set ⟨_, _, _, _, _, _, rfl, rfl, _, _, _, _, _, _, _, _, rfl⟩ (by decide) (by decide) (by decide)
theorem set19 : SetE w (aE (stm 19)) ([917505] ++ runOf 917536 96) := IsSum1.set ⟨_, _, _, _, _, _, rfl, rfl, _, _, _, _, _, _, _, _, rfl⟩ (by decide) (by decide) (by decide)
theorem set17 : SetE w (aE (stm 17)) ([832, 833, 8206, 8207] ++ runOf 8234 5 ++ runOf 8298 6) := by
  obtain ⟨p1, es, p2, r, p3, r2, p4, p5, e, he, h1, h2⟩ : ∃ p1 es p2 r p3 r2 p4 p5, aE (stm 17) = .Call (.Name "set" p1) [.BinOp (.BinOp (.List es p2) .Add r p3) .Add r2 p4] [] p5 ∧ es.mapM intOf = some [832, 833, 8206, 8207] ∧ IsRun r 8234 5 ∧ IsRun r2 8298 6 :=
    ⟨_, _, _, _, _, _, _, _, rfl, rfl, ⟨_, _, _, _, _, _, _, _, rfl⟩, _, _, _, _, _, _, _, _, rfl⟩
  rw [e]
  exact set_of_list (lst_add (lst_add (lst_display he (by decide)) (h1.lst (by decide) (by decide)) (by decide)) (h2.lst (by decide) (by decide)) (by decide)) (by decide)
theorem set_val {e : Expr} {cs : List Int} (hh : A.handled = none) (B : Base h₀ mg₀ mb Pl) (X : Tq s₀ h₀ mg₀ c Pl N names L s mg ps) (x : SetE w e cs) (hn : (["set", "list", "range"] : List Str).all (fun x => !names.contains x) = true) :
    wpAny (model pw w) A (eval e (mainEnv pw c F)) (fun v s' => SetF w N cs s'.heap v ∧ Kp s s') noE s := x N A s c F mg mb hh X.tp.roof (X.tp.sees B hn)
def IsDictE (e : Expr) (D : Tab) : Prop := ∃ ks vs p, e = .Dict ks vs p ∧ litsD ks vs = some D
theorem isDict9 : IsDictE (aE (stm 9)) b3Tab := ⟨dKs (stm 9), dVs (stm 9), _, rfl, b3_lits⟩
theorem dict_val' {e : Expr} {D : Tab} (X : Tq s₀ h₀ mg₀ c Pl N names L s mg ps) (x : IsDictE e D) (ha : asc (keysOf D) = true) (hz : D.length ≤ 1000) (hne : D ≠ []) :
    wpAny (model pw w) A (eval e (mainEnv pw c F)) (fun v s' => DictF w N D s'.heap v ∧ Kp s s') noE s := by
  obtain ⟨ks, vs, p, rfl, h⟩ := x
  exact ev_dict (Nat.lt_trans (by decide) X.tp.lowG) X.tp.roof h ha hz hne
/-- the statement that makes the dict -/
structure IsB3 (i : Nat) (D : Tab) : Prop where
  st : ∃ p' pos e, stm i = .Assign [.Name (aN (stm i)) p'] e pos ∧ IsDictE e D
  asc : asc (keysOf D) = true
  len : D.length ≤ 1000
  ne : D ≠ []
theorem isB3 : IsB3 9 b3Tab := ⟨⟨_, _, aE (stm 9), rfl, isDict9⟩, b3_asc, b3_len, b3_ne⟩
theorem q_dict (i : Nat) {D : Tab} {rest : List Stmt} (x : IsB3 i D) (X : Tq s₀ h₀ mg₀ c Pl N names L s mg ps) (hx : aN (stm i) ∉ names)
    (k : ∀ s' mg', Tq s₀ h₀ mg₀ c Pl N (aN (stm i) :: names) ((aN (stm i), DictF w N D) :: L) s' mg' ps → wpAny (model pw w) A (execs rest (mainEnv pw c F)) Q E s')
    (hloc : pw.main.scope.names.lookup (aN (stm i)) = some .local := by decide +kernel) (hnb : aN (stm i) ≠ "__builtins__" := by decide +kernel) :
    wpAny (model pw w) A (execs (stm i :: rest) (mainEnv pw c F)) Q E s := by
  obtain ⟨⟨p', pos, e, es, hd⟩, ha, hl, hne⟩ := x
  have hs : ∀ env t line, swapsWith e t line env = pure false := by
    obtain ⟨ks, vs, p, rfl, _⟩ := hd
    intro _ _ _
    rfl
  generalize aN (stm i) = y at es hx k hloc hnb
  rw [es]
  exact tp_assign X.tp hx DictF.stab (dict_val' X hd ha hl hne) (fun h' tk mg' Y => k _ mg' (X.next Y)) hloc hnb (hs _ _ _)
def CrlfF : Fact := fun _ v => ∃ t, v = .str ⟨#[13, 10]⟩ t
theorem crlf_val : wpAny (model pw w) A (eval (aE (stm 4)) (mainEnv pw c F)) (fun v s' => CrlfF s'.heap v ∧ Kp s s') noE s := by
  obtain ⟨k, p, e⟩ : ∃ k p, aE (stm 4) = .Constant (.str ⟨#[13, 10]⟩) k p := ⟨_, _, rfl⟩
  rw [e]
  exact Constant_str ⟨⟨_, rfl⟩, .tok _ _⟩

/-! the same in a shell -/
structure TR (w : World) (A : Around) (c F : Addr) (sts : List Stmt) (Q : Flow → Shared → Prop) (s : Shared) : Prop where
  go : wpAny (model pw w) A (execs sts (mainEnv pw c F)) Q noE s
/-- what a statement's own form must be -/
structure IsDef (i : Nat) : Prop where
  hst : stm i = .FunctionDef (dN (stm i)) (dP (stm i)) (dB (stm i)) [] none [] (dS (stm i)) none (dN (stm i)) (dQ (stm i))
  hfree : ((dS (stm i)).names.all fun x => x.2 != .free) = true
  hdoc : docOf (dB (stm i)) = none
  hloc : pw.main.scope.names.lookup (dN (stm i)) = some .local
  hq : qualnameIn { scope := pw.main.scope, locals := mainGlobals, globals := mainGlobals, cells := [] } (dN (stm i)) (dN (stm i)) = (dN (stm i))
  hexec : PlainDefTree (dN (stm i)) (dP (stm i)) (dB (stm i)) (dS (stm i)) (dQ (stm i))
  hnb : dN (stm i) ≠ "__builtins__"
structure IsAssign (i : Nat) (e : Expr) : Prop where
  hst : ∃ p' pos, stm i = .Assign [.Name (aN (stm i)) p'] e pos
  hloc : pw.main.scope.names.lookup (aN (stm i)) = some .local
  hnb : aN (stm i) ≠ "__builtins__"
  hs : ∀ env t line, swapsWith e t line env = pure false
structure IsName (i : Nat) : Prop where
  hst : ∃ p' pos q kk t, stm i = .Assign [.Name "__name__" p'] (.Constant (.str t) kk q) pos
structure Val (w : World) (A : Around) (c F : Addr) (e : Expr) (P : Fact) (s : Shared) : Prop where
  go : wpAny (model pw w) A (eval e (mainEnv pw c F)) (fun v s' => P s'.heap v ∧ Kp s s') noE s
theorem t_def {i : Nat} (f : IsDef i) {rest : List Stmt} (X : Tq s₀ h₀ mg₀ c Pl N names L s mg ps) (hx : dN (stm i) ∉ names) (hnf : codeAmong (dQ (stm i)) ps.toList = none)
    (k : ∀ s' mg' c', Tq s₀ h₀ mg₀ c Pl N (dN (stm i) :: names) ((dN (stm i), FnF N i) :: L) s' mg' (ps ++ #[rawInt (dQ (stm i)).line, rawInt (dQ (stm i)).col, .ref c']) → TR w A c F rest Q s') : TR w A c F (stm i :: rest) Q s :=
  ⟨q_def i X hx (fun s' mg' c' Y => (k s' mg' c' Y).go) f.hst f.hfree f.hdoc f.hloc f.hq f.hexec f.hnb hnf⟩
theorem t_assign {i : Nat} {e : Expr} {P : Fact} (f : IsAssign i e) {rest : List Stmt} (X : Tq s₀ h₀ mg₀ c Pl N names L s mg ps) (hx : aN (stm i) ∉ names) (st : Stab N P) (v : Val w A c F e P s)
    (k : ∀ s' mg', Tq s₀ h₀ mg₀ c Pl N (aN (stm i) :: names) ((aN (stm i), P) :: L) s' mg' ps → TR w A c F rest Q s') : TR w A c F (stm i :: rest) Q s := by
  obtain ⟨⟨p', pos, es⟩, hloc, hnb, hs⟩ := f
  refine ⟨?_⟩
  generalize aN (stm i) = y at es hx k hloc hnb
  rw [es]
  exact tp_assign X.tp hx st v.go (fun h' tk mg' Y => (k _ mg' (X.next Y)).go) hloc hnb (hs _ _ _)
theorem t_name {i : Nat} (f : IsName i) {rest : List Stmt} (X : Tq s₀ h₀ mg₀ c Pl N names L s mg ps) (hx : ("__name__" : Str) ∉ names)
    (k : ∀ s' mg', Tq s₀ h₀ mg₀ c Pl N names L s' mg' ps → TR w A c F rest Q s') : TR w A c F (stm i :: rest) Q s :=
  ⟨q_name i X hx (fun s' mg' Y => (k s' mg' Y).go) f.hst⟩
theorem t_dict {i : Nat} {D : Tab} {rest : List Stmt} (x : IsB3 i D) (X : Tq s₀ h₀ mg₀ c Pl N names L s mg ps) (hx : aN (stm i) ∉ names) (hloc : pw.main.scope.names.lookup (aN (stm i)) = some .local) (hnb : aN (stm i) ≠ "__builtins__")
    (k : ∀ s' mg', Tq s₀ h₀ mg₀ c Pl N (aN (stm i) :: names) ((aN (stm i), DictF w N D) :: L) s' mg' ps → TR w A c F rest Q s') : TR w A c F (stm i :: rest) Q s :=
  ⟨q_dict i x X hx (fun s' mg' Y => (k s' mg' Y).go) hloc hnb⟩
theorem t_end (h : Q .next s) : TR w A c F [] Q s := ⟨wpAny_execs_nil h⟩
theorem v_comp {e : Expr} {pat : Str} {fl : Int} {codes : List Int} (B : Base h₀ mg₀ mb Pl) (X : Tq s₀ h₀ mg₀ c Pl N names L s mg ps) (hn : ("_sre" : Str) ∉ names) (x : IsComp e pat fl codes)
    (h1 : ¬ (fl < -(2 ^ 31) ∨ fl ≥ 2 ^ 31)) (hc : ∀ i ∈ codes, 0 ≤ i ∧ i < 2 ^ 32) (hwf : Sre.wellFormed (wordsOf codes) 0 = true) (hlen : codes.length ≤ 1000) : Val w A c F e (PatF N pat fl codes) s := ⟨comp_val B X hn x h1 hc hwf hlen⟩
theorem v_set {e : Expr} {cs : List Int} (hh : A.handled = none) (B : Base h₀ mg₀ mb Pl) (X : Tq s₀ h₀ mg₀ c Pl N names L s mg ps) (x : SetE w e cs) (hn : (["set", "list", "range"] : List Str).all (fun x => !names.contains x) = true) : Val w A c F e (SetF w N cs) s := ⟨set_val hh B X x hn⟩
theorem v_crlf : Val w A c F (aE (stm 4)) CrlfF s := ⟨crlf_val⟩
end
end Mine
end

section
open PySem PySem.W PyProof.Rows PySem.Calls
namespace Mine
section
variable {w : World} {A : Around} {s₀ s : Shared} {c Pl F : Addr} {h₀ : Heap} {mg₀ mb mg : Str → Option Value} {N : Nat}
theorem wfA : Sre.wellFormed (wordsOf codesA) 0 = true := by decide +kernel
theorem wfB : Sre.wellFormed (wordsOf codesB) 0 = true := by decide +kernel
theorem rangeA : ∀ i ∈ codesA, (0 : Int) ≤ i ∧ i < 2 ^ 32 := by decide +kernel
theorem rangeB : ∀ i ∈ codesB, (0 : Int) ≤ i ∧ i < 2 ^ 32 := by decide +kernel
theorem f1 : IsName 1 := ⟨_, _, _, _, _, rfl⟩
theorem f2 : IsAssign 2 (aE (stm 2)) := ⟨⟨_, _, rfl⟩, by decide +kernel, by decide +kernel, by intro _ _ _; rfl⟩
theorem f3 : IsAssign 3 (aE (stm 3)) := ⟨⟨_, _, rfl⟩, by decide +kernel, by decide +kernel, by intro _ _ _; rfl⟩
theorem f4 : IsAssign 4 (aE (stm 4)) := ⟨⟨_, _, rfl⟩, by decide +kernel, by decide +kernel, by intro _ _ _; rfl⟩
theorem f5 : IsDef 5 := ⟨rfl, by decide +kernel, rfl, by decide +kernel, rfl, by intro env; rfl, by decide +kernel⟩
theorem f6 : IsName 6 := ⟨_, _, _, _, _, rfl⟩
theorem f7 : IsAssign 7 (aE (stm 7)) := ⟨⟨_, _, rfl⟩, by decide +kernel, by decide +kernel, by intro _ _ _; rfl⟩
theorem f8 : IsDef 8 := ⟨rfl, by decide +kernel, rfl, by decide +kernel, rfl, by intro env; rfl, by decide +kernel⟩
theorem l9 : pw.main.scope.names.lookup (aN (stm 9)) = some .local := by decide +kernel
theorem n9 : aN (stm 9) ≠ "__builtins__" := by decide +kernel
theorem f10 : IsDef 10 := ⟨rfl, by decide +kernel, rfl, by decide +kernel, rfl, by intro env; rfl, by decide +kernel⟩
theorem f11 : IsDef 11 := ⟨rfl, by decide +kernel, rfl, by decide +kernel, rfl, by intro env; rfl, by decide +kernel⟩
theorem f12 : IsDef 12 := ⟨rfl, by decide +kernel, rfl, by decide +kernel, rfl, by intro env; rfl, by decide +kernel⟩
theorem f13 : IsAssign 13 (aE (stm 13)) := ⟨⟨_, _, rfl⟩, by decide +kernel, by decide +kernel, by intro _ _ _; rfl⟩
theorem f14 : IsDef 14 := ⟨rfl, by decide +kernel, rfl, by decide +kernel, rfl, by intro env; rfl, by decide +kernel⟩
theorem f15 : IsAssign 15 (aE (stm 15)) := ⟨⟨_, _, rfl⟩, by decide +kernel, by decide +kernel, by intro _ _ _; rfl⟩
theorem f16 : IsDef 16 := ⟨rfl, by decide +kernel, rfl, by decide +kernel, rfl, by intro env; rfl, by decide +kernel⟩
theorem f17 : IsAssign 17 (aE (stm 17)) := ⟨⟨_, _, rfl⟩, by decide +kernel, by decide +kernel, by intro _ _ _; rfl⟩
theorem f18 : IsDef 18 := ⟨rfl, by decide +kernel, rfl, by decide +kernel, rfl, by intro env; rfl, by decide +kernel⟩
theorem f19 : IsAssign 19 (aE (stm 19)) := ⟨⟨_, _, rfl⟩, by decide +kernel, by decide +kernel, by intro _ _ _; rfl⟩
theorem f20 : IsDef 20 := ⟨rfl, by decide +kernel, rfl, by decide +kernel, rfl, by intro env; rfl, by decide +kernel⟩
theorem f21 : IsName 21 := ⟨_, _, _, _, _, rfl⟩
theorem f22 : IsDef 22 := ⟨rfl, by decide +kernel, rfl, by decide +kernel, rfl, by intro env; rfl, by decide +kernel⟩
theorem f23 : IsDef 23 := ⟨rfl, by decide +kernel, rfl, by decide +kernel, rfl, by intro env; rfl, by decide +kernel⟩
theorem f24 : IsDef 24 := ⟨rfl, by decide +kernel, rfl, by decide +kernel, rfl, by intro env; rfl, by decide +kernel⟩
theorem f25 : IsDef 25 := ⟨rfl, by decide +kernel, rfl, by decide +kernel, rfl, by intro env; rfl, by decide +kernel⟩
theorem f26 : IsDef 26 := ⟨rfl, by decide +kernel, rfl, by decide +kernel, rfl, by intro env; rfl, by decide +kernel⟩
theorem f27 : IsDef 27 := ⟨rfl, by decide +kernel, rfl, by decide +kernel, rfl, by intro env; rfl, by decide +kernel⟩
theorem f28 : IsDef 28 := ⟨rfl, by decide +kernel, rfl, by decide +kernel, rfl, by intro env; rfl, by decide +kernel⟩

def topNames : List Str := [dN (stm 28), dN (stm 27), dN (stm 26), dN (stm 25), dN (stm 24), dN (stm 23), dN (stm 22), dN (stm 20), aN (stm 19), dN (stm 18), aN (stm 17), dN (stm 16), aN (stm 15), dN (stm 14), aN (stm 13), dN (stm 12), dN (stm 11), dN (stm 10), aN (stm 9), dN (stm 8), aN (stm 7), dN (stm 5), aN (stm 4), aN (stm 3), aN (stm 2)]
def topFacts (w : World) (N : Nat) (D : Tab) : List (Str × Fact) := [(dN (stm 28), FnF N 28), (dN (stm 27), FnF N 27), (dN (stm 26), FnF N 26), (dN (stm 25), FnF N 25), (dN (stm 24), FnF N 24), (dN (stm 23), FnF N 23), (dN (stm 22), FnF N 22), (dN (stm 20), FnF N 20), (aN (stm 19), SetF w N ([917505] ++ runOf 917536 96)), (dN (stm 18), FnF N 18), (aN (stm 17), SetF w N ([832, 833, 8206, 8207] ++ runOf 8234 5 ++ runOf 8298 6)), (dN (stm 16), FnF N 16), (aN (stm 15), SetF w N (runOf 12272 12)), (dN (stm 14), FnF N 14), (aN (stm 13), SetF w N (runOf 65529 5)), (dN (stm 12), FnF N 12), (dN (stm 11), FnF N 11), (dN (stm 10), FnF N 10), (aN (stm 9), DictF w N D), (dN (stm 8), FnF N 8), (aN (stm 7), SetF w N ([173, 847, 6150, 6155, 6156, 6157, 8203, 8204, 8205, 8288, 65279] ++ runOf 65024 16)), (dN (stm 5), FnF N 5), (aN (stm 4), CrlfF), (aN (stm 3), PatF N "(?:\\r\\n|\\n|\\r(?!\\n))" 32 codesB), (aN (stm 2), PatF N "(?m)^\\." 40 codesA)]
theorem top_walk {D : Tab} (hD : IsB3 9 D) (hh : A.handled = none) (B : Base h₀ mg₀ mb Pl) (X : Tq s₀ h₀ mg₀ c Pl N [] [] s mg #[]) :
    TR w A c F [stm 1, stm 2, stm 3, stm 4, stm 5, stm 6, stm 7, stm 8, stm 9, stm 10, stm 11, stm 12, stm 13, stm 14, stm 15, stm 16, stm 17, stm 18, stm 19, stm 20, stm 21, stm 22, stm 23, stm 24, stm 25, stm 26, stm 27, stm 28] (fun f s' => f = .next ∧ ∃ mg' ps', Tq s₀ h₀ mg₀ c Pl N topNames (topFacts w N D) s' mg' ps') s := by
  refine t_name f1 X (by decide +kernel) fun s mg X => ?_
  refine t_assign f2 X (by decide +kernel) PatF.stab (v_comp B X (by decide +kernel) comp2 (by decide) rangeA wfA (by decide)) fun s mg X => ?_
  refine t_assign f3 X (by decide +kernel) PatF.stab (v_comp B X (by decide +kernel) comp3 (by decide) rangeB wfB (by decide)) fun s mg X => ?_
  refine t_assign f4 X (by decide +kernel) (fun _ _ _ _ h => h) v_crlf fun s mg X => ?_
  refine t_def f5 X (by decide +kernel) (by kernel_rfl) fun s mg c5 X => ?_
  refine t_name f6 X (by decide +kernel) fun s mg X => ?_
  refine t_assign f7 X (by decide +kernel) SetF.stab (v_set hh B X set7 (by decide +kernel)) fun s mg X => ?_
  refine t_def f8 X (by decide +kernel) (by kernel_rfl) fun s mg c8 X => ?_
  refine t_dict hD X (by decide +kernel) l9 n9 fun s mg X => ?_
  refine t_def f10 X (by decide +kernel) (by kernel_rfl) fun s mg c10 X => ?_
  refine t_def f11 X (by decide +kernel) (by kernel_rfl) fun s mg c11 X => ?_
  refine t_def f12 X (by decide +kernel) (by kernel_rfl) fun s mg c12 X => ?_
  refine t_assign f13 X (by decide +kernel) SetF.stab (v_set hh B X set13 (by decide +kernel)) fun s mg X => ?_
  refine t_def f14 X (by decide +kernel) (by kernel_rfl) fun s mg c14 X => ?_
  refine t_assign f15 X (by decide +kernel) SetF.stab (v_set hh B X set15 (by decide +kernel)) fun s mg X => ?_
  refine t_def f16 X (by decide +kernel) (by kernel_rfl) fun s mg c16 X => ?_
  refine t_assign f17 X (by decide +kernel) SetF.stab (v_set hh B X set17 (by decide +kernel)) fun s mg X => ?_
  refine t_def f18 X (by decide +kernel) (by kernel_rfl) fun s mg c18 X => ?_
  refine t_assign f19 X (by decide +kernel) SetF.stab (v_set hh B X set19 (by decide +kernel)) fun s mg X => ?_
  refine t_def f20 X (by decide +kernel) (by kernel_rfl) fun s mg c20 X => ?_
  refine t_name f21 X (by decide +kernel) fun s mg X => ?_
  refine t_def f22 X (by decide +kernel) (by kernel_rfl) fun s mg c22 X => ?_
  refine t_def f23 X (by decide +kernel) (by kernel_rfl) fun s mg c23 X => ?_
  refine t_def f24 X (by decide +kernel) (by kernel_rfl) fun s mg c24 X => ?_
  refine t_def f25 X (by decide +kernel) (by kernel_rfl) fun s mg c25 X => ?_
  refine t_def f26 X (by decide +kernel) (by kernel_rfl) fun s mg c26 X => ?_
  refine t_def f27 X (by decide +kernel) (by kernel_rfl) fun s mg c27 X => ?_
  refine t_def f28 X (by decide +kernel) (by kernel_rfl) fun s mg c28 X => ?_
  exact t_end ⟨rfl, _, _, X⟩
end
end Mine
end

section
open PySem PySem.W PyProof.Rows PySem.Calls
namespace Mine

theorem behind_eq : behindTheImports pw = [stm 1, stm 2, stm 3, stm 4, stm 5, stm 6, stm 7, stm 8, stm 9, stm 10, stm 11, stm 12, stm 13, stm 14, stm 15, stm 16, stm 17, stm 18, stm 19, stm 20, stm 21, stm 22, stm 23, stm 24, stm 25, stm 26, stm 27, stm 28] := by kernel_rfl
theorem behind_ann : hasAnns (behindTheImports pw) = false := by kernel_rfl
theorem behind_doc : docOf (behindTheImports pw) = none := by kernel_rfl

/-- what the top's run leaves, as its walk tells it -/
structure After (w : World) (s₀ : Shared) (mg₀ mb : Str → Option Value) (D : Tab) (s' : Shared) : Prop where
  ex : ∃ c Pl N mg ps, Base s₀.heap mg₀ mb Pl ∧ Tq s₀ s₀.heap mg₀ c Pl N topNames (topFacts w N D) s' mg ps

theorem op_none {s : Shared} {mg mb : Str → Option Value} (o : Op s mg mb) {x : Str} (h : (startupNames.contains x || x == "_sre") = false) : mg x = none := by
  cases e : mg x with
  | none => rfl
  | some v =>
    exfalso
    rw [Bool.or_eq_false_iff] at h
    rcases o.keys x v e with q | q
    · have := h.1
      rw [List.contains_iff_mem.mpr q] at this
      cases this
    · have := h.2
      rw [q] at this
      simp at this
section
variable {w : World} {s₀ : Shared} {mg₀ mb : Str → Option Value} {D : Tab}
theorem base_of (o : Op s₀ mg₀ mb) {Pl : Addr} (h : s₀.heap.get? Pl = none) : Base s₀.heap mg₀ mb Pl :=
  ⟨h, o.b, ⟨op_none o (by decide +kernel), (o.blt _ (by decide)).trans (by decide +kernel)⟩, ⟨op_none o (by decide +kernel), (o.blt _ (by decide)).trans (by decide +kernel)⟩, ⟨op_none o (by decide +kernel), (o.blt _ (by decide)).trans (by decide +kernel)⟩, o.sre⟩

theorem stub_walk (hD : IsB3 9 D) (o : Op s₀ mg₀ mb) :
    wpAny (model pw w) callerA (topStub pw).cur (fun fin s' => fin = .done (.ret .none) ∧ After w s₀ mg₀ mb D s' ∧ s'.gens = #[]) (fun _ _ => False) s₀ := by
  show wpAny _ _ (moduleCode pw.main >>= fun code => newBodyFrame code mainNs mainNs >>= fun frame => _) _ _ _
  refine wpAny_bind (wpAny_moduleCode fun c Pl h₁ tk₁ hk hc hPl hcode => ?_)
  have g₁ : h₁.Ns mainGlobals mg₀ := o.g.keeps hk
  unfold newBodyFrame
  refine wpAny_bind (wpAny_bind (wpAny_nsGet (s := { s₀ with heap := h₁, toks := tk₁ }) g₁ (wpAny_alloc ?_)))
  generalize hO : ({ cls := .type "frame", slots := #[some (Value.ref c), some (.ref mainNs), some (.ref mainNs), none, some ((mg₀ "__name__").getD .none), none, some (.ref builtinsNs)] } : Obj) = O
  have hfree : O.isFreed = false := by rw [← hO]; rfl
  dsimp only
  have hglt : mainGlobals < s₀.heap.objs.size := o.g.lt
  have newP : s₀.heap.get? Pl = none := Heap.get?_none_of_le hPl
  have B := base_of o newP
  obtain ⟨bm, ob, b1, b2, b3, b4, b5, b6, b7⟩ := o.bmod
  have hbl := Heap.lt_size b4
  have hk2 : ∀ b o, s₀.heap.get? b = some o → (h₁.push O).get? b = some o := fun b o e => Heap.get?_push_of_some _ (hk b o e)
  have hPl1 : Pl < h₁.objs.size := hcode.lt.2
  have T : Tp s₀.heap mg₀ c Pl (h₁.objs.size + 1) [] [] (h₁.push O) mg₀ #[] :=
    ⟨⟨g₁.push _, hcode.push _, ⟨Nat.lt_of_lt_of_le hglt hc, Nat.lt_of_lt_of_le hglt hPl⟩, ⟨bm, ob, b1, b2, b3, Nat.ne_of_lt (Nat.lt_of_lt_of_le hbl hPl), hk2 _ _ b4, b5, b6, b7⟩⟩,
      fun b o _ _ e => hk2 b o e, Nat.lt_succ_of_lt hPl1, Nat.lt_succ_of_lt (Nat.lt_trans (Nat.lt_of_lt_of_le hglt hPl) hPl1),
      ⟨h₁.objs.size, O, rfl, hPl1, Nat.lt_trans (Nat.lt_of_lt_of_le hglt hPl) hPl1, Heap.get?_push_size _ hfree⟩, (fun p hp => nomatch hp), (fun p hp => nomatch hp), (fun p hp => nomatch hp), fun _ _ _ => rfl⟩
  refine wpAny_bind (wpAny_run (codeAny_body behind_ann behind_doc ?_))
  rw [behind_eq]
  have W := top_walk (w := w) (A := (callerA.mark none).deeper (mainEnv pw c h₁.objs.size)) (s₀ := s₀) (s := { s₀ with heap := h₁.push O, toks := tk₁ }) (F := h₁.objs.size) hD rfl B ⟨T, _, _, rfl⟩
  refine wpAny_mono (Q := fun (f : Flow) s' => f = Flow.next ∧ ∃ mg' ps', Tq s₀ s₀.heap mg₀ c Pl (h₁.objs.size + 1) topNames (topFacts w (h₁.objs.size + 1) D) s' mg' ps') (E := noE) W.go (fun f s' q => ?_) fun _ _ z => z.elim
  obtain ⟨rfl, mg', ps', X⟩ := q
  refine wpAny_pure ⟨rfl, ⟨c, Pl, _, mg', ps', B, X⟩, ?_⟩
  obtain ⟨h, t, rfl⟩ := X.of
  exact o.gens
end
end Mine
end

section
open PySem PySem.W PyProof.Rows PySem.Calls
namespace Mine
theorem e5 : dN (stm 5) = ("quotedata" : Str) := by kernel_rfl
theorem e8 : dN (stm 8) = ("in_table_b1" : Str) := by kernel_rfl
theorem e10 : dN (stm 10) = ("map_table_b3" : Str) := by kernel_rfl
theorem e11 : dN (stm 11) = ("in_table_c11" : Str) := by kernel_rfl
theorem e12 : dN (stm 12) = ("in_table_c4" : Str) := by kernel_rfl
theorem e14 : dN (stm 14) = ("in_table_c6" : Str) := by kernel_rfl
theorem e16 : dN (stm 16) = ("in_table_c7" : Str) := by kernel_rfl
theorem e18 : dN (stm 18) = ("in_table_c8" : Str) := by kernel_rfl
theorem e20 : dN (stm 20) = ("in_table_c9" : Str) := by kernel_rfl
theorem e22 : dN (stm 22) = ("_law_held" : Str) := by kernel_rfl
theorem e23 : dN (stm 23) = ("_law_piece" : Str) := by kernel_rfl
theorem e24 : dN (stm 24) = ("_law_sent" : Str) := by kernel_rfl
theorem e25 : dN (stm 25) = ("_law_heard" : Str) := by kernel_rfl
theorem e26 : dN (stm 26) = ("_law_fate" : Str) := by kernel_rfl
theorem e27 : dN (stm 27) = ("_law_due" : Str) := by kernel_rfl
theorem e28 : dN (stm 28) = ("law" : Str) := by kernel_rfl
theorem e2 : aN (stm 2) = ("_twin_re_1" : Str) := by kernel_rfl
theorem e3 : aN (stm 3) = ("_twin_re_2" : Str) := by kernel_rfl
theorem e4 : aN (stm 4) = ("CRLF" : Str) := by kernel_rfl
theorem e7 : aN (stm 7) = ("b1_set" : Str) := by kernel_rfl
theorem e9 : aN (stm 9) = ("b3_exceptions" : Str) := by kernel_rfl
theorem e13 : aN (stm 13) = ("c6_set" : Str) := by kernel_rfl
theorem e15 : aN (stm 15) = ("c7_set" : Str) := by kernel_rfl
theorem e17 : aN (stm 17) = ("c8_set" : Str) := by kernel_rfl
theorem e19 : aN (stm 19) = ("c9_set" : Str) := by kernel_rfl

def adOf (mg : Str → Option Value) (x : Str) : Addr := match mg x with
  | some (.ref a) => a
  | _ => 0
theorem ad_eq {mg : Str → Option Value} {x : Str} {a : Addr} (e : mg x = some (.ref a)) : adOf mg x = a := by unfold adOf; rw [e]
/-- what a name bears -/
def Has (mg : Str → Option Value) (h : Heap) (x : Str) (P : Fact) : Prop := ∃ v, mg x = some v ∧ P h v
section
variable {w : World} {N : Nat} {mg : Str → Option Value} {h : Heap} {x : Str}
theorem Has.fn {i : Nat} (f : Has mg h x (FnF N i)) : mg x = some (.ref (adOf mg x)) ∧ FnAt h (adOf mg x) i := by
  obtain ⟨v, e, P⟩ := f
  obtain ⟨a, rfl, q⟩ := P.fn
  rw [ad_eq e]
  exact ⟨e, q⟩
theorem Has.pat {t : Str} {fl : Int} {cs : List Int} (f : Has mg h x (PatF N t fl cs)) : mg x = some (.ref (adOf mg x)) ∧ PatAt h (adOf mg x) t fl cs := by
  obtain ⟨v, e, P⟩ := f
  obtain ⟨a, rfl, q⟩ := P.at
  rw [ad_eq e]
  exact ⟨e, q⟩
theorem Has.set {cs : List Int} (f : Has mg h x (SetF w N cs)) : mg x = some (.ref (adOf mg x)) ∧ ∃ S n, h.SetOf (intKind pw w) (adOf mg x) S n ∧ ∀ c, S c = decide (c ∈ cs) := by
  obtain ⟨v, e, a, S, n, rfl, _, q⟩ := f
  rw [ad_eq e]
  exact ⟨e, S, n, q⟩
theorem Has.dict {D : Tab} (hN : sysModules < N) (f : Has mg h x (DictF w N D)) : mg x = some (.ref (adOf mg x)) ∧ (adOf mg x == sysModules) = false ∧ ∃ f, h.MapOf (intKind pw w) (adOf mg x) f ∧ ∀ k, match D.lookup k with
    | some l => ∃ t, f k = some (.str ⟨l.toArray⟩ t)
    | none => f k = none := by
  obtain ⟨v, e, a, f, rfl, ha, q⟩ := f
  rw [ad_eq e]
  exact ⟨e, beq_eq_false_iff_ne.mpr (Nat.ne_of_gt (Nat.lt_of_lt_of_le hN ha)), f, q⟩
end

structure All (w : World) (N : Nat) (D : Tab) (mg : Str → Option Value) (h : Heap) : Prop where
  h28 : Has mg h "law" (FnF N 28)
  h27 : Has mg h "_law_due" (FnF N 27)
  h26 : Has mg h "_law_fate" (FnF N 26)
  h25 : Has mg h "_law_heard" (FnF N 25)
  h24 : Has mg h "_law_sent" (FnF N 24)
  h23 : Has mg h "_law_piece" (FnF N 23)
  h22 : Has mg h "_law_held" (FnF N 22)
  h20 : Has mg h "in_table_c9" (FnF N 20)
  h19 : Has mg h "c9_set" (SetF w N ([917505] ++ runOf 917536 96))
  h18 : Has mg h "in_table_c8" (FnF N 18)
  h17 : Has mg h "c8_set" (SetF w N ([832, 833, 8206, 8207] ++ runOf 8234 5 ++ runOf 8298 6))
  h16 : Has mg h "in_table_c7" (FnF N 16)
  h15 : Has mg h "c7_set" (SetF w N (runOf 12272 12))
  h14 : Has mg h "in_table_c6" (FnF N 14)
  h13 : Has mg h "c6_set" (SetF w N (runOf 65529 5))
  h12 : Has mg h "in_table_c4" (FnF N 12)
  h11 : Has mg h "in_table_c11" (FnF N 11)
  h10 : Has mg h "map_table_b3" (FnF N 10)
  h9 : Has mg h "b3_exceptions" (DictF w N D)
  h8 : Has mg h "in_table_b1" (FnF N 8)
  h7 : Has mg h "b1_set" (SetF w N ([173, 847, 6150, 6155, 6156, 6157, 8203, 8204, 8205, 8288, 65279] ++ runOf 65024 16))
  h5 : Has mg h "quotedata" (FnF N 5)
  h4 : Has mg h "CRLF" CrlfF
  h3 : Has mg h "_twin_re_2" (PatF N "(?:\\r\\n|\\n|\\r(?!\\n))" 32 codesB)
  h2 : Has mg h "_twin_re_1" (PatF N "(?m)^\\." 40 codesA)

theorem all_of {w : World} {N : Nat} {D : Tab} {mg : Str → Option Value} {h : Heap} (f : ∀ p ∈ topFacts w N D, ∃ v, mg p.1 = some v ∧ p.2 h v) : All w N D mg h := by
  unfold topFacts at f
  simp only [List.forall_mem_cons] at f
  obtain ⟨f28, f27, f26, f25, f24, f23, f22, f20, f19, f18, f17, f16, f15, f14, f13, f12, f11, f10, f9, f8, f7, f5, f4, f3, f2, _⟩ := f
  exact ⟨e28 ▸ f28, e27 ▸ f27, e26 ▸ f26, e25 ▸ f25, e24 ▸ f24, e23 ▸ f23, e22 ▸ f22, e20 ▸ f20, e19 ▸ f19, e18 ▸ f18, e17 ▸ f17, e16 ▸ f16, e15 ▸ f15, e14 ▸ f14, e13 ▸ f13, e12 ▸ f12, e11 ▸ f11, e10 ▸ f10, e9 ▸ f9, e8 ▸ f8, e7 ▸ f7, e5 ▸ f5, e4 ▸ f4, e3 ▸ f3, e2 ▸ f2⟩
end Mine
end

section
open PySem PySem.W PyProof.Rows PySem.Calls
namespace Mine
theorem all_nil {α : Type} {P : α → Prop} : ∀ x ∈ ([] : List α), P x := fun x h => nomatch h
theorem all_cons {α : Type} {P : α → Prop} {a : α} {l : List α} (h : P a) (t : ∀ x ∈ l, P x) : ∀ x ∈ a :: l, P x := fun x hx => by
  rcases List.mem_cons.mp hx with rfl | hx
  · exact h
  · exact t x hx
section
variable {w : World} {N : Nat} {mg mb : Str → Option Value} {h : Heap}
theorem lib_of (hN : sysModules < N) (a : All w N b3Tab mg h) (g : h.Ns mainGlobals mg) (b : h.Ns builtinsNs mb) (lim : h.NoLimit) (hb : ∀ x ∈ bTab, mg x.1 = none ∧ mb x.1 = some x.2) : Lib ⟨w, adOf mg⟩ h where
  nolimit := lim
  names := ⟨mg, mb, g, b, (all_cons a.h2.pat.1 (all_cons a.h3.pat.1 (all_cons a.h5.fn.1 (all_cons a.h7.set.1 (all_cons a.h8.fn.1 (all_cons (a.h9.dict hN).1 (all_cons a.h10.fn.1 (all_cons a.h11.fn.1 (all_cons a.h12.fn.1 (all_cons a.h13.set.1 (all_cons a.h14.fn.1 (all_cons a.h15.set.1 (all_cons a.h16.fn.1 (all_cons a.h17.set.1 (all_cons a.h18.fn.1 (all_cons a.h19.set.1 (all_cons a.h20.fn.1 (all_cons a.h22.fn.1 (all_cons a.h23.fn.1 (all_cons a.h24.fn.1 (all_cons a.h25.fn.1 (all_cons a.h26.fn.1 (all_cons a.h27.fn.1 all_nil))))))))))))))))))))))), (let ⟨v, e, t, q⟩ := a.h4; ⟨t, e.trans (congrArg some q)⟩), hb⟩
  fns := (all_cons a.h5.fn.2 (all_cons a.h8.fn.2 (all_cons a.h10.fn.2 (all_cons a.h11.fn.2 (all_cons a.h12.fn.2 (all_cons a.h14.fn.2 (all_cons a.h16.fn.2 (all_cons a.h18.fn.2 (all_cons a.h20.fn.2 (all_cons a.h22.fn.2 (all_cons a.h23.fn.2 (all_cons a.h24.fn.2 (all_cons a.h25.fn.2 (all_cons a.h26.fn.2 (all_cons a.h27.fn.2 (all_cons a.h28.fn.2 all_nil))))))))))))))))
  sets := (all_cons a.h7.set.2 (all_cons a.h13.set.2 (all_cons a.h15.set.2 (all_cons a.h17.set.2 (all_cons a.h19.set.2 all_nil)))))
  dict := (a.h9.dict hN).2
  pat1 := a.h2.pat.2
  pat2 := a.h3.pat.2
end

theorem names_bound : (topNames.all fun x => pw.boundNames.contains x) = true := by decide +kernel
theorem sre_bound : pw.boundNames.contains ("_sre" : Str) = true := by decide +kernel
theorem laid_free : (laidNames.all fun x => !topNames.contains x && x != "__name__") = true := by decide +kernel
theorem blt_free : (bTab.all fun x => !topNames.contains x.1 && x.1 != "__name__" && !(startupNames.contains x.1 || x.1 == "_sre")) = true := by decide +kernel
theorem blt_boot : ∀ x ∈ bTab, bootBuiltins x.1 = some x.2 := by
  simp only [bTab, List.forall_mem_cons]
  refine ⟨?_, ?_, ?_, ?_, ?_, ?_, ?_, fun x hx => nomatch hx⟩ <;> decide +kernel

theorem left_of {w : World} {s₀ s₁ : Shared} {mg₀ mb : Str → Option Value} (o : Op s₀ mg₀ mb) (hz : s₀.asleep) (A : After w s₀ mg₀ mb b3Tab s₁) (life : s₁.heap.life = s₀.heap.life)
    (run : ∃ n t, schedN (denote table) pw w n (.single s₀ (topStub pw)) = .running (.single s₁ t) ∧ through t = true) : Left w s₀ s₁ := by
  obtain ⟨c, Pl, N, mg, ps, B, X⟩ := A
  obtain ⟨h, tk, e⟩ := X.of
  have T := X.tp
  have old : ∀ b ob, b ≠ mainGlobals → s₀.heap.get? b = some ob → s₁.heap.get? b = some ob := fun b ob hb q => T.old B hb q
  have gens : s₁.gens = #[] := by rw [e]; exact o.gens
  have hb : s₁.heap.Ns builtinsNs mb := by
    obtain ⟨ob, es, ep, ho, r⟩ := o.b
    exact ⟨ob, es, ep, old _ _ (by decide) ho, r⟩
  have same : staticOf s₁.heap = staticOf s₀.heap := by
    obtain ⟨mc, ⟨ob, es, ep, ho, _⟩, _⟩ := o.c
    funext k
    unfold staticOf
    rw [old _ _ (by decide) ho, ho]
  have gl : ∀ x, globalOf s₁.heap x = mg x := PySem.Claim2Try.globalOf_of_ns T.main.g
  have gl₀ : ∀ x, globalOf s₀.heap x = mg₀ x := PySem.Claim2Try.globalOf_of_ns o.g
  have hN : sysModules < N := Nat.lt_trans (by decide) T.lowG
  have a := all_of T.facts
  have bt : ∀ x ∈ bTab, mg x.1 = none ∧ mb x.1 = some x.2 := fun x hx => by
    have q := List.all_eq_true.mp blt_free x hx
    simp only [Bool.and_eq_true, Bool.not_eq_true', bne_iff_ne, List.contains_eq_mem, decide_eq_false_iff_not] at q
    obtain ⟨⟨q1, q2⟩, q3⟩ := q
    exact ⟨(T.same _ q1 q2).trans (op_none o (by simpa [List.contains_eq_mem] using q3)), (o.blt _ q2).trans (blt_boot x hx)⟩
  refine ⟨⟨run, life, Shared.rest_eq (by rw [e]), fun b ob q hn => old b ob (fun z => hn (.inl z)) q, ?_, fun key => .inl (by rw [same]), Pin.keysAreStrs_of_ns T.main.g, ?_, ?_, ?_, ?_, ?_⟩, Shared.asleep_of_life life hz, gens,
    adOf mg, lib_of hN a T.main.g hb ?_ bt, mg, T.main.g, a.h28.fn.1⟩
  · have := o.acc
    unfold staticsAccountedI at this ⊢
    rw [same]
    exact this
  · intro x hx
    obtain ⟨ob, es, ep, ho, hd, _, hf⟩ := hb
    simp only [builtinOf, ho, hd]
    exact (hf x).trans (o.blt x hx)
  · obtain ⟨bm, ob, b1, b2, b3, b4, b5, b6, b7, b8⟩ := T.main.bmod
    exact ⟨bm, ob, (gl _).trans b1, b5, b6, b7⟩
  · rw [gens]
    intro g hg
    simp at hg
  · intro x v q
    rw [gl] at q
    by_cases h1 : x ∈ topNames
    · exact .inr (by simpa [List.contains_eq_mem] using List.all_eq_true.mp names_bound x h1)
    · by_cases h2 : x = "__name__"
      · subst h2
        exact .inl (by decide)
      · rw [T.same x h1 h2] at q
        rcases o.keys x v q with r | r
        · exact .inl r
        · exact .inr (by rw [r]; simpa [List.contains_eq_mem] using sre_bound)
  · intro x hx
    have q := List.all_eq_true.mp laid_free x hx
    simp only [Bool.and_eq_true, Bool.not_eq_true', bne_iff_ne, List.contains_eq_mem, decide_eq_false_iff_not] at q
    rw [gl, gl₀]
    exact T.same x q.1 q.2
  · obtain ⟨mc, ⟨ob, es, ep, ho, r⟩, q⟩ := o.c
    exact ⟨mc, ⟨ob, es, ep, old _ _ (by decide) ho, r⟩, q⟩

theorem top0 : ∀ w, ∃ s s₀ s₁, AfterRun (opening pw) w s ∧ fenceModules? pw s = some s₀ ∧ s₀.gens = #[] ∧ Left w s₀ s₁ := fun w => by
  obtain ⟨s, s₀, mg₀, mb, h1, h2, hz, o⟩ := opening_ok w
  obtain ⟨n, s₁, t, h3, h4, h5, _, h6⟩ := top_run hz (stub_walk isB3 o)
  exact ⟨s, s₀, s₁, h1, h2, o.gens, left_of o hz h5 h6 ⟨n, t, h3, h4⟩⟩
end Mine
end

section
open PySem PySem.W PyProof.Rows PySem.Calls
namespace Mine
theorem said_bare : (["vars", "dir", "locals"] : List Str).filter (readsOut pw pw.main.body) = [] := by decide +kernel
theorem said_strict : (!(importedModules pw.main.body).all cThrough.contains) = false := by decide +kernel
theorem said_roads : noRoadLSs { strict := false, foot := none, bare := [] } pw.main.body = true := by decide +kernel
theorem said_open : looksOpen pw = true := by
  unfold looksOpen
  rw [said_bare, said_strict, said_roads]
  refine look_both (look_both (look_both (look_both (look_both ?_ ?_) ?_) ?_) rfl) ?_ <;> decide +kernel
theorem said_part : rw0.row.partSaid = true := by
  unfold OpenRow.partSaid
  rw [show looksOpen rw0.row.prog = true from said_open]
  decide +kernel
theorem law_said : rw0.wellSaid = true := by
  unfold OpenLaw.wellSaid OpenRow.wellSaid
  rw [said_part]
  iterate 20 refine look_both ?_ ?_
  · exact Eq.refl true
  all_goals decide +kernel
theorem law_promised : rw0.row.promised := ⟨[.list []], by decide +kernel, by decide +kernel⟩
theorem law_opens : opensWell pw = true := by decide +kernel
theorem law_bare : pw.bare := ⟨rfl, rfl, rfl, rfl, rfl, by decide +kernel⟩
end Mine
open Mine
theorem PySem.Challenge.cw_pg0210_01_holds : PySem.Challenge.rw_pg0210_01.Holds :=
  ⟨law_said, row_said law_said, law_promised, join law_bare law_opens law_promised top0⟩
end
