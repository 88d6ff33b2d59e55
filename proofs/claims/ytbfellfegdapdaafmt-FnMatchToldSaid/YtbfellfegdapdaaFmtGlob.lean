/- Plain lists: what it is that a text matches a pattern; that the components of a pattern match as its pieces do; that the leftmost search finds a match if there is one. -/
namespace Go.Proofs.YtbfellfegdapdaaFmt
namespace Glob

abbrev Bytes := List UInt8

/-- What is behind a chunk, if the text begins with it. -/
def chunk : Bytes → Bytes → Option Bytes
  | [], s => some s
  | _ :: _, [] => none
  | a :: c, b :: s => if a = b then chunk c s else none

theorem chunk_some {c : Bytes} : ∀ {s t : Bytes}, chunk c s = some t ↔ s = c ++ t := by
  induction c with
  | nil => intro s t; simp [chunk]
  | cons a c ih =>
    intro s t
    cases s with
    | nil => simp [chunk]
    | cons b s =>
      simp only [chunk]
      by_cases h : a = b
      · subst h; rw [if_pos rfl, ih]; simp
      · rw [if_neg h]
        constructor
        · intro e; cases e
        · intro e; exact absurd (List.cons.inj e).1.symm h

theorem chunk_none {c s : Bytes} (h : chunk c s = none) (t : Bytes) : s ≠ c ++ t := by
  intro e
  rw [chunk_some.2 e] at h
  cases h

/-- A text is the pieces, one behind the other, with anything for wildcards. -/
def M : List (Bool × Bytes) → Bytes → Prop
  | [], s => s = []
  | (true, _) :: r, s => ∃ a b, s = a ++ b ∧ M r b
  | (false, t) :: r, s => ∃ b, s = t ++ b ∧ M r b

theorem M_append (p q : List (Bool × Bytes)) : ∀ s, M (p ++ q) s ↔ ∃ a b, s = a ++ b ∧ M p a ∧ M q b := by
  induction p with
  | nil =>
    intro s
    constructor
    · intro h; exact ⟨[], s, rfl, rfl, h⟩
    · rintro ⟨a, b, rfl, h, hb⟩
      have : a = [] := h
      subst this
      exact hb
  | cons x p ih =>
    obtain ⟨w, t⟩ := x
    intro s
    cases w with
    | true =>
      show (∃ a b, s = a ++ b ∧ M (p ++ q) b) ↔ _
      constructor
      · rintro ⟨a, b, rfl, h⟩
        obtain ⟨c, d, rfl, hc, hd⟩ := (ih b).1 h
        exact ⟨a ++ c, d, by simp, ⟨a, c, rfl, hc⟩, hd⟩
      · rintro ⟨a, b, rfl, ⟨c, d, rfl, hd⟩, hb⟩
        exact ⟨c, d ++ b, by simp, (ih _).2 ⟨d, b, rfl, hd, hb⟩⟩
    | false =>
      show (∃ b, s = t ++ b ∧ M (p ++ q) b) ↔ _
      constructor
      · rintro ⟨b, rfl, h⟩
        obtain ⟨c, d, rfl, hc, hd⟩ := (ih b).1 h
        exact ⟨t ++ c, d, by simp, ⟨c, rfl, hc⟩, hd⟩
      · rintro ⟨a, b, rfl, ⟨d, rfl, hd⟩, hb⟩
        exact ⟨d ++ b, by simp, (ih _).2 ⟨d, b, rfl, hd, hb⟩⟩

theorem M_any (t s : Bytes) : M [(true, t)] s := ⟨s, [], by simp, rfl⟩
theorem M_lit {t s : Bytes} : M [(false, t)] s ↔ s = t := by
  constructor
  · rintro ⟨b, rfl, h⟩
    have : b = [] := h
    simp [this]
  · rintro rfl; exact ⟨[], by simp, rfl⟩

/-- The components: a text each, perhaps a wildcard ahead of it. -/
def MC : List (Bool × Bytes) → Bytes → Prop
  | [], s => s = []
  | (w, l) :: r, s => ∃ a b, s = a ++ (l ++ b) ∧ (w = false → a = []) ∧ MC r b

theorem MC_append (p q : List (Bool × Bytes)) : ∀ s, MC (p ++ q) s ↔ ∃ a b, s = a ++ b ∧ MC p a ∧ MC q b := by
  induction p with
  | nil =>
    intro s
    constructor
    · intro h; exact ⟨[], s, rfl, rfl, h⟩
    · rintro ⟨a, b, rfl, h, hb⟩
      have : a = [] := h
      subst this
      exact hb
  | cons x p ih =>
    obtain ⟨w, l⟩ := x
    intro s
    constructor
    · rintro ⟨a, b, rfl, hw, h⟩
      obtain ⟨c, d, rfl, hc, hd⟩ := (ih b).1 h
      exact ⟨a ++ (l ++ c), d, by simp, ⟨a, c, rfl, hw, hc⟩, hd⟩
    · rintro ⟨a, b, rfl, ⟨c, d, rfl, hw, hd⟩, hb⟩
      exact ⟨c, d ++ b, by simp, hw, (ih _).2 ⟨d, b, rfl, hd, hb⟩⟩

theorem MC_one {w : Bool} {l s : Bytes} : MC [(w, l)] s ↔ ∃ a, s = a ++ l ∧ (w = false → a = []) := by
  constructor
  · rintro ⟨a, b, rfl, hw, h⟩
    have : b = [] := h
    subst this
    exact ⟨a, by simp, hw⟩
  · rintro ⟨a, rfl, hw⟩
    exact ⟨a, [], by simp, hw, rfl⟩

theorem nil_or_snoc {α : Type} (l : List α) : l = [] ∨ ∃ d c, l = d ++ [c] := by
  rcases List.eq_nil_or_concat l with h | ⟨d, c, h⟩
  · exact Or.inl h
  · exact Or.inr ⟨d, c, by rw [h, List.concat_eq_append]⟩

/-- How NewPattern takes the next piece. -/
def step (cs : List (Bool × Bytes)) (x : Bool × Bytes) : List (Bool × Bytes) :=
  match cs.getLast? with
  | none => if x.1 then [(true, [])] else [(false, x.2)]
  | some c =>
    if x.1 then (if c.2 = [] then cs else cs ++ [(true, [])])
    else cs.dropLast ++ [(c.1, c.2 ++ x.2)]

def comps (l : List (Bool × Bytes)) : List (Bool × Bytes) := l.foldl step []

/-- What holds of components: those behind the first have a wildcard ahead; all but the last have a text; where there is no text there is a wildcard. -/
structure Fine (cs : List (Bool × Bytes)) : Prop where
  behind : ∀ c ∈ cs.tail, c.1 = true
  front : ∀ c ∈ cs.dropLast, c.2 ≠ []
  wild : ∀ c ∈ cs, c.2 = [] → c.1 = true

theorem Fine.nil : Fine [] := ⟨by simp, by simp, by simp⟩

theorem fine_step {cs : List (Bool × Bytes)} {x : Bool × Bytes} (h : Fine cs) (hx : x.1 = false → x.2 ≠ []) : Fine (step cs x) := by
  rcases nil_or_snoc cs with rfl | ⟨d, c, rfl⟩
  · obtain ⟨w, t⟩ := x
    cases w with
    | true => exact ⟨by simp [step], by simp [step], by simp [step]⟩
    | false => exact ⟨by simp [step], by simp [step], by
        intro c hc he
        simp [step] at hc
        subst hc
        exact absurd he (hx rfl)⟩
  · obtain ⟨w, t⟩ := x
    have hl : (d ++ [c]).getLast? = some c := by simp
    cases w with
    | true =>
      by_cases he : c.2 = []
      · have : step (d ++ [c]) (true, t) = d ++ [c] := by simp [step, he]
        rw [this]; exact h
      · have e : step (d ++ [c]) (true, t) = (d ++ [c]) ++ [(true, [])] := by simp [step, he]
        rw [e]
        refine ⟨?_, ?_, ?_⟩
        · intro y hy
          have hne : (d ++ [c]) ≠ [] := by simp
          rw [List.tail_append_of_ne_nil hne] at hy
          rcases List.mem_append.1 hy with hy | hy
          · exact h.behind y hy
          · simp at hy; subst hy; rfl
        · intro y hy
          rw [List.dropLast_concat] at hy
          rcases List.mem_append.1 hy with hy | hy
          · exact h.front y (by rw [List.dropLast_concat]; exact hy)
          · simp at hy; subst hy; exact he
        · intro y hy hye
          rcases List.mem_append.1 hy with hy | hy
          · exact h.wild y hy hye
          · simp at hy; subst hy; rfl
    | false =>
      have ht : t ≠ [] := hx rfl
      have e : step (d ++ [c]) (false, t) = d ++ [(c.1, c.2 ++ t)] := by simp [step]
      rw [e]
      refine ⟨?_, ?_, ?_⟩
      · intro y hy
        cases d with
        | nil => simp at hy
        | cons z d =>
          simp at hy
          rcases hy with hy | hy
          · exact h.behind y (by simp [hy])
          · subst hy; exact h.behind c (by simp)
      · intro y hy
        rw [List.dropLast_concat] at hy
        exact h.front y (by rw [List.dropLast_concat]; exact hy)
      · intro y hy hye
        rcases List.mem_append.1 hy with hy | hy
        · exact h.wild y (by simp [hy]) hye
        · simp at hy; subst hy
          simp at hye
          exact absurd hye.2 ht

theorem MC_step {cs : List (Bool × Bytes)} {x : Bool × Bytes} (h : Fine cs) (s : Bytes) : MC (step cs x) s ↔ ∃ a b, s = a ++ b ∧ MC cs a ∧ M [x] b := by
  obtain ⟨w, t⟩ := x
  rcases nil_or_snoc cs with rfl | ⟨d, c, rfl⟩
  · cases w with
    | true =>
      have e : step [] (true, t) = [(true, [])] := rfl
      rw [e, MC_one]
      constructor
      · rintro ⟨a, rfl, _⟩; exact ⟨[], a ++ [], rfl, rfl, M_any _ _⟩
      · rintro ⟨a, b, rfl, ha, _⟩; exact ⟨a ++ b, by simp, fun h => by cases h⟩
    | false =>
      have e : step [] (false, t) = [(false, t)] := rfl
      rw [e, MC_one]
      constructor
      · rintro ⟨a, rfl, ha⟩
        have := ha rfl
        subst this
        exact ⟨[], t, rfl, rfl, M_lit.2 rfl⟩
      · rintro ⟨a, b, rfl, ha, hb⟩
        have ha' : a = [] := ha
        have := M_lit.1 hb
        subst ha'; subst this
        exact ⟨[], rfl, fun _ => rfl⟩
  · cases w with
    | true =>
      by_cases he : c.2 = []
      · have e : step (d ++ [c]) (true, t) = d ++ [c] := by simp [step, he]
        rw [e]
        have hc : c = (true, []) := by
          have := h.wild c (by simp) he
          obtain ⟨cw, cl⟩ := c
          simp at this he
          subst this; subst he; rfl
        subst hc
        constructor
        · intro hm; exact ⟨s, [], by simp, hm, M_any _ _⟩
        · rintro ⟨a, b, rfl, ha, _⟩
          obtain ⟨a1, a2, rfl, h1, h2⟩ := (MC_append _ _ _).1 ha
          exact (MC_append _ _ _).2 ⟨a1, a2 ++ b, by simp, h1, MC_one.2 ⟨a2 ++ b, by simp, fun h => by cases h⟩⟩
      · have e : step (d ++ [c]) (true, t) = (d ++ [c]) ++ [(true, [])] := by simp [step, he]
        rw [e, MC_append]
        constructor
        · rintro ⟨a, b, rfl, ha, _⟩; exact ⟨a, b, rfl, ha, M_any _ _⟩
        · rintro ⟨a, b, rfl, ha, _⟩; exact ⟨a, b, rfl, ha, MC_one.2 ⟨b, by simp, fun h => by cases h⟩⟩
    | false =>
      have e : step (d ++ [c]) (false, t) = d ++ [(c.1, c.2 ++ t)] := by simp [step]
      rw [e, MC_append]
      constructor
      · rintro ⟨a, b, rfl, ha, hb⟩
        obtain ⟨x, rfl, hx⟩ := MC_one.1 hb
        exact ⟨a ++ (x ++ c.2), t, by simp, (MC_append _ _ _).2 ⟨a, x ++ c.2, rfl, ha, MC_one.2 ⟨x, rfl, hx⟩⟩, M_lit.2 rfl⟩
      · rintro ⟨a, b, rfl, ha, hb⟩
        have := M_lit.1 hb
        subst this
        obtain ⟨a1, a2, rfl, h1, h2⟩ := (MC_append _ _ _).1 ha
        obtain ⟨x, rfl, hx⟩ := MC_one.1 h2
        exact ⟨a1, x ++ (c.2 ++ b), by simp, h1, MC_one.2 ⟨x, rfl, hx⟩⟩

theorem comps_snoc (l : List (Bool × Bytes)) (x : Bool × Bytes) : comps (l ++ [x]) = step (comps l) x := by simp [comps]

/-- Texts that are pieces are not empty. -/
def Full (l : List (Bool × Bytes)) : Prop := ∀ x ∈ l, x.1 = false → x.2 ≠ []

theorem comps_rev : ∀ (l : List (Bool × Bytes)), Full l.reverse → Fine (comps l.reverse) ∧ ∀ s, MC (comps l.reverse) s ↔ M l.reverse s := by
  intro l
  induction l with
  | nil => intro _; exact ⟨Fine.nil, fun s => Iff.rfl⟩
  | cons x l ih =>
    intro hf
    rw [List.reverse_cons] at hf ⊢
    obtain ⟨h1, h2⟩ := ih (fun y hy => hf y (by simp at hy ⊢; exact Or.inl hy))
    rw [comps_snoc]
    refine ⟨fine_step h1 (hf x (by simp)), fun s => ?_⟩
    rw [MC_step h1, M_append]
    constructor
    · rintro ⟨a, b, rfl, ha, hb⟩; exact ⟨a, b, rfl, (h2 a).1 ha, hb⟩
    · rintro ⟨a, b, rfl, ha, hb⟩; exact ⟨a, b, rfl, (h2 a).2 ha, hb⟩

theorem comps_fine {l : List (Bool × Bytes)} (h : Full l) : Fine (comps l) := by
  have := (comps_rev l.reverse (by simpa using h)).1
  simpa using this
theorem comps_M {l : List (Bool × Bytes)} (h : Full l) (s : Bytes) : MC (comps l) s ↔ M l s := by
  have := (comps_rev l.reverse (by simpa using h)).2 s
  simpa using this

/-! ### The search -/
/-- The first place behind the begin at which the chunk stands (at the text's end, if it is the last). -/
def scan (l : Bytes) (last : Bool) : Bytes → Option Bytes
  | [] => none
  | _ :: s =>
    match chunk l s with
    | some t => if (last && !t.isEmpty) = true then scan l last s else some t
    | none => scan l last s

/-- At the begin. -/
def here (l : Bytes) (last : Bool) (s : Bytes) : Option Bytes :=
  match chunk l s with
  | some t => if (t.isEmpty || !last) = true then some t else none
  | none => none

/-- What Pattern.Match answers. -/
def go : List (Bool × Bytes) → Bytes → Bool
  | [], s => s.isEmpty
  | (w, l) :: r, s =>
    if (w && l.isEmpty) = true then true
    else match here l r.isEmpty s with
      | some t => go r t
      | none =>
        if w then (match scan l r.isEmpty s with
          | some t => go r t
          | none => false)
        else false

theorem here_some {l s t : Bytes} {last : Bool} : here l last s = some t ↔ s = l ++ t ∧ (last = true → t = []) := by
  unfold here
  cases hc : chunk l s with
  | none =>
    simp only [reduceCtorEq, false_iff]
    rintro ⟨e, _⟩
    exact chunk_none hc t e
  | some u =>
    have := chunk_some.1 hc
    subst this
    simp only
    by_cases hu : (u.isEmpty || !last) = true
    · rw [if_pos hu]
      simp only [Option.some.injEq, List.append_cancel_left_eq]
      constructor
      · rintro rfl
        refine ⟨rfl, fun h => ?_⟩
        subst h
        simpa using hu
      · rintro ⟨h, _⟩; exact h
    · rw [if_neg hu]
      simp only [reduceCtorEq, List.append_cancel_left_eq, false_iff]
      rintro ⟨rfl, h⟩
      apply hu
      cases last with
      | true => simp [h rfl]
      | false => simp

/-- A text that a last chunk ends: the search finds it; where the chunk is not the last it finds the first one. -/
theorem scan_last {l : Bytes} : ∀ {s : Bytes}, (∃ t, scan l true s = some t) ↔ ∃ a, a ≠ [] ∧ s = a ++ l := by
  intro s
  induction s with
  | nil =>
    simp only [scan, reduceCtorEq, exists_false, false_iff]
    rintro ⟨a, ha, h⟩
    cases a with
    | nil => exact ha rfl
    | cons => simp at h
  | cons b s ih =>
    simp only [scan]
    cases hc : chunk l s with
    | none =>
      simp only
      rw [ih]
      constructor
      · rintro ⟨a, ha, rfl⟩; exact ⟨b :: a, by simp, rfl⟩
      · rintro ⟨a, ha, h⟩
        cases a with
        | nil => exact absurd rfl ha
        | cons c a =>
          simp at h
          obtain ⟨_, rfl⟩ := h
          refine ⟨a, ?_, rfl⟩
          rintro rfl
          exact chunk_none hc [] (by simp)
    | some t =>
      have hs := chunk_some.1 hc
      subst hs
      simp only [Bool.true_and]
      cases t with
      | nil =>
        simp only [List.isEmpty_nil, Bool.not_true, Bool.false_eq_true, if_false, Option.some.injEq, exists_eq', true_iff]
        exact ⟨[b], by simp, by simp⟩
      | cons c t =>
        simp only [List.isEmpty_cons, Bool.not_false, if_true]
        rw [ih]
        constructor
        · rintro ⟨a, ha, h⟩; exact ⟨b :: a, by simp, by simp [h]⟩
        · rintro ⟨a, ha, h⟩
          cases a with
          | nil => exact absurd rfl ha
          | cons d a =>
            simp only [List.cons_append, List.cons.injEq] at h
            refine ⟨a, ?_, h.2⟩
            rintro rfl
            have := congrArg List.length h.2
            simp at this

theorem scan_last_nil {l s t : Bytes} (h : scan l true s = some t) : t = [] := by
  induction s with
  | nil => simp [scan] at h
  | cons b s ih =>
    simp only [scan] at h
    cases hc : chunk l s with
    | none => rw [hc] at h; exact ih h
    | some u =>
      rw [hc] at h
      simp only [Bool.true_and] at h
      cases u with
      | nil => simpa using h.symm
      | cons c u => simp at h; exact ih h

/-- The first place: whatever is behind another one is an end of what is behind this one. -/
theorem scan_first {l : Bytes} : ∀ {s a b : Bytes}, a ≠ [] → s = a ++ (l ++ b) → ∃ t c, scan l false s = some t ∧ t = c ++ b := by
  intro s
  induction s with
  | nil =>
    intro a b ha h
    cases a with
    | nil => exact absurd rfl ha
    | cons => simp at h
  | cons x s ih =>
    intro a b ha h
    cases a with
    | nil => exact absurd rfl ha
    | cons y a =>
      simp only [List.cons_append, List.cons.injEq] at h
      obtain ⟨_, rfl⟩ := h
      simp only [scan]
      cases hc : chunk l (a ++ (l ++ b)) with
      | none =>
        simp only
        have ha' : a ≠ [] := by
          rintro rfl
          exact chunk_none hc b (by simp)
        exact ih ha' rfl
      | some t =>
        simp only [Bool.false_and, Bool.false_eq_true, if_false]
        have hs := chunk_some.1 hc
        refine ⟨t, (a ++ l ++ b).drop l.length |>.take (t.length - b.length), rfl, ?_⟩
        have hlen := congrArg List.length hs
        simp at hlen
        have hd : t = (a ++ (l ++ b)).drop l.length := by rw [hs]; simp
        have hd2 : t = ((a ++ l).drop l.length) ++ b := by
          rw [hd, ← List.append_assoc, List.drop_append_of_le_length (by simp)]
        have htl : t.length - b.length = ((a ++ l).drop l.length).length := by rw [hd2]; simp
        rw [htl]
        have : (a ++ l ++ b).drop l.length = ((a ++ l).drop l.length) ++ b := by rw [List.drop_append_of_le_length (by simp)]
        rw [this, List.take_left']
        · exact hd2
        · rfl

theorem scan_sound {l s t : Bytes} {last : Bool} (h : scan l last s = some t) : ∃ a, s = a ++ (l ++ t) := by
  induction s with
  | nil => simp [scan] at h
  | cons b s ih =>
    simp only [scan] at h
    cases hc : chunk l s with
    | none =>
      rw [hc] at h
      obtain ⟨a, rfl⟩ := ih h
      exact ⟨b :: a, rfl⟩
    | some u =>
      rw [hc] at h
      simp only at h
      split at h
      · obtain ⟨a, rfl⟩ := ih h
        exact ⟨b :: a, rfl⟩
      · injection h with h
        subst h
        exact ⟨[b], by rw [chunk_some.1 hc]; rfl⟩

theorem MC_more {w : Bool} {l : Bytes} {r : List (Bool × Bytes)} (hw : w = true) {s : Bytes} (h : MC ((w, l) :: r) s) (p : Bytes) : MC ((w, l) :: r) (p ++ s) := by
  obtain ⟨a, b, rfl, _, hb⟩ := h
  exact ⟨p ++ a, b, by simp, fun h => absurd (hw.symm.trans h) (by decide), hb⟩

theorem go_MC : ∀ {cs : List (Bool × Bytes)}, Fine cs → ∀ s, go cs s = true ↔ MC cs s := by
  intro cs
  induction cs with
  | nil => intro _ s; simp [go, MC]
  | cons c r ih =>
    intro hf s
    obtain ⟨w, l⟩ := c
    have hr : Fine r := by
      refine ⟨fun c hc => hf.behind c ?_, fun c hc => hf.front c ?_, fun c hc => hf.wild c (by simp [hc])⟩
      · exact List.mem_of_mem_tail hc
      · cases r with
        | nil => simp at hc
        | cons d r => simp only [List.dropLast_cons_cons]; simp [hc]
    have hwild : ∀ c ∈ r, c.1 = true := fun c hc => hf.behind c hc
    have ihr := ih hr
    simp only [go]
    by_cases h0 : (w && l.isEmpty) = true
    · rw [if_pos h0]
      simp only [Bool.and_eq_true, List.isEmpty_iff] at h0
      obtain ⟨rfl, rfl⟩ := h0
      have : r = [] := by
        cases r with
        | nil => rfl
        | cons d r => exact absurd rfl (hf.front (true, []) (by simp))
      subst this
      simp only [true_iff]
      exact ⟨s, [], by simp, fun h => (by cases h), rfl⟩
    · rw [if_neg h0]
      have hl : l ≠ [] := by
        rintro rfl
        have := hf.wild (w, []) (by simp) rfl
        simp at this
        subst this
        exact h0 rfl
      -- what is known of the chunk's own places
      have more : ∀ {b c : Bytes}, r ≠ [] → MC r b → MC r (c ++ b) := by
        intro b c hne hb
        cases r with
        | nil => exact absurd rfl hne
        | cons d r =>
          obtain ⟨dw, dl⟩ := d
          exact MC_more (hwild (dw, dl) (by simp)) hb c
      cases hh : here l r.isEmpty s with
      | some t =>
        simp only
        obtain ⟨hs, ht⟩ := here_some.1 hh
        subst hs
        rw [ihr]
        constructor
        · intro h; exact ⟨[], t, rfl, fun _ => rfl, h⟩
        · rintro ⟨a, b, hs, hw, hb⟩
          by_cases hne : r = []
          · subst hne
            have := ht rfl
            subst this
            rfl
          · have hb' : ∃ c, t = c ++ b := by
              have e1 : t = (l ++ t).drop l.length := by simp
              have e2 : (l ++ t).drop l.length = ((a ++ l).drop l.length) ++ b := by
                rw [hs, ← List.append_assoc, List.drop_append_of_le_length (by simp)]
              exact ⟨_, e1.trans e2⟩
            obtain ⟨c, rfl⟩ := hb'
            exact more hne hb
      | none =>
        simp only
        have hno : ∀ t, s = l ++ t → (r = [] ∧ t ≠ []) := by
          intro t ht
          by_cases hne : r = []
          · refine ⟨hne, fun e => ?_⟩
            have : here l r.isEmpty s = some t := here_some.2 ⟨ht, fun _ => e⟩
            rw [hh] at this; cases this
          · have : here l r.isEmpty s = some t := here_some.2 ⟨ht, fun h => by
              simp at h; exact absurd h hne⟩
            rw [hh] at this; cases this
        cases w with
        | false =>
          simp only [Bool.false_eq_true, if_false, false_iff]
          rintro ⟨a, b, rfl, ha, hb⟩
          have := ha rfl
          subst this
          obtain ⟨h1, h2⟩ := hno b rfl
          subst h1
          exact h2 hb
        | true =>
          simp only [if_true]
          by_cases hne : r = []
          · subst hne
            simp only [List.isEmpty_nil]
            cases hsc : scan l true s with
            | none =>
              simp only [Bool.false_eq_true, false_iff]
              rintro ⟨a, b, rfl, _, hb⟩
              have hb' : b = [] := hb
              subst hb'
              have ha : a ≠ [] := by
                rintro rfl
                exact (hno [] rfl).2 rfl
              have := (scan_last (l := l)).2 ⟨a, ha, rfl⟩
              simp only [List.append_nil] at hsc
              rw [hsc] at this
              obtain ⟨t, ht⟩ := this
              cases ht
            | some t =>
              simp only
              have := scan_last_nil hsc
              subst this
              obtain ⟨a, rfl⟩ := scan_sound hsc
              simp only [go, List.isEmpty_nil, true_iff]
              exact ⟨a, [], rfl, fun h => (by cases h), rfl⟩
          · have hle : r.isEmpty = false := by cases r with
              | nil => exact absurd rfl hne
              | cons => rfl
            rw [hle]
            cases hsc : scan l false s with
            | none =>
              simp only [Bool.false_eq_true, false_iff]
              rintro ⟨a, b, hs, _, hb⟩
              have ha : a ≠ [] := by
                rintro rfl
                exact hne (hno b hs).1
              obtain ⟨t, c, h1, _⟩ := scan_first ha hs
              rw [hsc] at h1; cases h1
            | some t =>
              simp only
              rw [ihr]
              constructor
              · intro h
                obtain ⟨a, rfl⟩ := scan_sound hsc
                exact ⟨a, t, rfl, fun h => (by cases h), h⟩
              · rintro ⟨a, b, hs, _, hb⟩
                have ha : a ≠ [] := by
                  rintro rfl
                  exact hne (hno b hs).1
                obtain ⟨t', c, h1, h2⟩ := scan_first ha hs
                rw [hsc] at h1
                injection h1 with h1
                subst h1
                subst h2
                exact more hne hb

/-- What Pattern.Match answers of the components is what the pieces say. -/
theorem go_comps {l : List (Bool × Bytes)} (h : Full l) (s : Bytes) : go (comps l) s = true ↔ M l s := (go_MC (comps_fine h) s).trans (comps_M h s)

end Glob
end Go.Proofs.YtbfellfegdapdaaFmt
