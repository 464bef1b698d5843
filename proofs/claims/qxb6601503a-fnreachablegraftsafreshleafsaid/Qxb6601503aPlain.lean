/-
  The plain mathematics of this seat: a map of lists of children as a function on strings, the levels below the top, the two searches. No Go in sight.
-/
namespace Go.Proofs.Qxb6601503a

abbrev Str := List UInt8

theorem length_le_of_sub {α : Type} : ∀ {l m : List α}, l.Nodup → (∀ x ∈ l, x ∈ m) → l.length ≤ m.length
  | [], _, _, _ => by simp
  | a :: l, m, hn, hs => by
    obtain ⟨h1, h2⟩ := List.nodup_cons.1 hn
    have ha : a ∈ m := hs a (by simp)
    obtain ⟨m1, m2, rfl⟩ := List.append_of_mem ha
    have hl : l.length ≤ (m1 ++ m2).length := length_le_of_sub h2 (fun x hx => by
      have hx' := hs x (by simp [hx])
      simp only [List.mem_append, List.mem_cons] at hx' ⊢
      rcases hx' with h | h | h
      · exact Or.inl h
      · subst h; exact absurd hx h1
      · exact Or.inr h)
    simp only [List.length_append, List.length_cons] at hl ⊢
    omega

theorem sub_of_len {α : Type} {l m : List α} (hn : l.Nodup) (hs : ∀ x ∈ l, x ∈ m) (hl : m.length ≤ l.length) : ∀ x ∈ m, x ∈ l := by
  intro x hx
  refine Classical.byContradiction fun hno => ?_
  have := length_le_of_sub (l := x :: l) (m := m) (List.nodup_cons.2 ⟨hno, hn⟩) (fun y hy => by
    rcases List.mem_cons.1 hy with rfl | hy
    · exact hx
    · exact hs y hy)
  simp at this
  omega

/-- The strings n steps below the top. -/
def lev (C : Str → List Str) : Nat → List Str
  | 0 => [[]]
  | n + 1 => (lev C n).flatMap C

/-- x lies below the top. -/
def Climbs (C : Str → List Str) (x : Str) : Prop := ∃ n, x ∈ lev C (n + 1)

structure Forest (C : Str → List Str) (ids : List Str) : Prop where
  nodup : (ids.flatMap C).Nodup
  top : [] ∉ ids.flatMap C
  keys : ∀ s, s ∉ ids → C s = []

variable {C : Str → List Str} {ids : List Str}

theorem Forest.key (F : Forest C ids) {c p : Str} (h : c ∈ C p) : p ∈ ids :=
  Classical.byContradiction fun hn => by rw [F.keys p hn] at h; cases h

theorem Forest.mem (F : Forest C ids) {c p : Str} (h : c ∈ C p) : c ∈ ids.flatMap C := List.mem_flatMap.2 ⟨p, F.key h, h⟩

theorem Forest.ne (F : Forest C ids) {c p : Str} (h : c ∈ C p) : c ≠ [] := fun e => F.top (e ▸ F.mem h)

theorem flat_one : ∀ {ids : List Str}, (ids.flatMap C).Nodup → ∀ {c p q : Str}, p ∈ ids → q ∈ ids → c ∈ C p → c ∈ C q → p = q
  | [], _, _, _, _, hp, _, _, _ => by cases hp
  | a :: r, hn, c, p, q, hp, hq, hcp, hcq => by
    rw [List.flatMap_cons] at hn
    obtain ⟨_, h2, h3⟩ := List.nodup_append.1 hn
    rcases List.mem_cons.1 hp with rfl | hp'
    · rcases List.mem_cons.1 hq with rfl | hq'
      · rfl
      · exact absurd rfl (h3 c hcp c (List.mem_flatMap.2 ⟨q, hq', hcq⟩))
    · rcases List.mem_cons.1 hq with rfl | hq'
      · exact absurd rfl (h3 c hcq c (List.mem_flatMap.2 ⟨p, hp', hcp⟩))
      · exact flat_one h2 hp' hq' hcp hcq

theorem Forest.one (F : Forest C ids) {c p q : Str} (hp : c ∈ C p) (hq : c ∈ C q) : p = q := flat_one F.nodup (F.key hp) (F.key hq) hp hq

theorem flat_each : ∀ {ids : List Str}, (ids.flatMap C).Nodup → ∀ {p : Str}, p ∈ ids → (C p).Nodup
  | [], _, _, hp => by cases hp
  | a :: r, hn, p, hp => by
    rw [List.flatMap_cons] at hn
    obtain ⟨h1, h2, _⟩ := List.nodup_append.1 hn
    rcases List.mem_cons.1 hp with rfl | hp'
    · exact h1
    · exact flat_each h2 hp'

theorem Forest.each (F : Forest C ids) (p : Str) : (C p).Nodup := by
  by_cases h : p ∈ ids
  · exact flat_each F.nodup h
  · rw [F.keys p h]; exact List.nodup_nil

theorem mem_lev_succ {n : Nat} {x : Str} : x ∈ lev C (n + 1) ↔ ∃ p ∈ lev C n, x ∈ C p := by
  show x ∈ (lev C n).flatMap C ↔ _
  exact List.mem_flatMap

theorem climbs_iff (F : Forest C ids) {c p : Str} (h : c ∈ C p) : Climbs C c ↔ p = [] ∨ Climbs C p := by
  constructor
  · rintro ⟨n, hn⟩
    obtain ⟨q, hq, hcq⟩ := mem_lev_succ.1 hn
    obtain rfl := F.one h hcq
    cases n with
    | zero => left; simpa [lev] using hq
    | succ n => right; exact ⟨n, hq⟩
  · rintro (rfl | ⟨n, hn⟩)
    · exact ⟨0, mem_lev_succ.2 ⟨[], by simp [lev], h⟩⟩
    · exact ⟨n + 1, mem_lev_succ.2 ⟨p, hn, h⟩⟩

theorem climbs_mem (F : Forest C ids) {c : Str} (h : Climbs C c) : c ∈ ids.flatMap C := by
  obtain ⟨n, hn⟩ := h
  obtain ⟨p, _, hp⟩ := mem_lev_succ.1 hn
  exact F.mem hp

/-- One step up: a child at level n has its parent at a lower level. -/
theorem lev_up (F : Forest C ids) {c p : Str} (h : c ∈ C p) {n : Nat} (hn : c ∈ lev C n) : ∃ m, m < n ∧ p ∈ lev C m := by
  cases n with
  | zero => exact absurd (by simpa [lev] using hn) (F.ne h)
  | succ n =>
    obtain ⟨q, hq, hcq⟩ := mem_lev_succ.1 hn
    obtain rfl := F.one h hcq
    exact ⟨n, Nat.lt_succ_self n, hq⟩

theorem no_lev {x : Str} (h : ∀ n, x ∈ lev C n → ∃ m, m < n ∧ x ∈ lev C m) : ∀ n, x ∉ lev C n := by
  intro n
  induction n using Nat.strongRecOn with
  | _ n ih =>
    intro hx
    obtain ⟨m, hm, hxm⟩ := h n hx
    exact ih m hm hxm

/-! ### the search downward -/

/-- Between two rounds: 'done' have been taken off the stack, D are those that were ever pushed. -/
structure DOut (C : Str → List Str) (done stack D : List Str) : Prop where
  perm : (done ++ stack).Perm ([] :: D)
  nodup : ([] :: D).Nodup
  up : ∀ x ∈ D, ∃ p ∈ done, x ∈ C p
  climb : ∀ x ∈ D, Climbs C x
  down : ∀ p ∈ done, ∀ x ∈ C p, x ∈ D

/-- Inside a round: id has been taken off, its first j children pushed. -/
structure DIn (C : Str → List Str) (done : List Str) (id : Str) (j : Nat) (stack D : List Str) : Prop where
  perm : (id :: (done ++ stack)).Perm ([] :: D)
  nodup : ([] :: D).Nodup
  up : ∀ x ∈ D, (∃ p ∈ done, x ∈ C p) ∨ x ∈ (C id).take j
  climb : ∀ x ∈ D, Climbs C x
  down : ∀ p ∈ done, ∀ x ∈ C p, x ∈ D
  cur : ∀ x ∈ (C id).take j, x ∈ D

theorem DOut.start : DOut C [] [[]] [] :=
  ⟨List.Perm.refl _, by simp, by simp, by simp, by simp⟩

theorem DOut.pop {done S D : List Str} {id : Str} (h : DOut C done (S ++ [id]) D) : DIn C done id 0 S D :=
  ⟨List.Perm.trans (by
      refine List.Perm.symm ?_
      rw [← List.append_assoc]
      exact List.perm_append_singleton _ _) h.perm, h.nodup, fun x hx => Or.inl (h.up x hx), h.climb, h.down, by simp⟩

theorem DIn.close {done S D : List Str} {id : Str} (h : DIn C done id (C id).length S D) : DOut C (id :: done) S D := by
  have ht : (C id).take (C id).length = C id := List.take_length
  refine ⟨by simpa using h.perm, h.nodup, fun x hx => ?_, h.climb, fun p hp x hx => ?_⟩
  · rcases h.up x hx with ⟨p, hp, hx'⟩ | hx'
    · exact ⟨p, by simp [hp], hx'⟩
    · rw [ht] at hx'
      exact ⟨id, by simp, hx'⟩
  · rcases List.mem_cons.1 hp with rfl | hp'
    · exact h.cur x (by rw [ht]; exact hx)
    · exact h.down p hp' x hx

theorem take_snoc {l : List Str} {j : Nat} (hj : j < l.length) : l.take (j + 1) = l.take j ++ [l[j]] := List.take_succ_eq_append_getElem hj

theorem notin_take_of_nodup {l : List Str} (h : l.Nodup) {j : Nat} (hj : j < l.length) : l[j] ∉ l.take j := by
  intro hm
  obtain ⟨i, hi, e⟩ := List.getElem_of_mem hm
  rw [List.getElem_take] at e
  rw [List.length_take] at hi
  have : i = j := (List.getElem_inj h).1 e
  omega

theorem DIn.fresh {done S D : List Str} {id : Str} {j : Nat} (F : Forest C ids) (h : DIn C done id j S D) (hj : j < (C id).length) : (C id)[j] ∉ D := by
  intro hm
  have hid : id ∉ done := by
    have := (List.Perm.nodup_iff h.perm).2 h.nodup
    have := (List.nodup_cons.1 this).1
    intro hd
    exact this (by simp [hd])
  rcases h.up _ hm with ⟨p, hp, hx⟩ | hx
  · have := F.one (List.getElem_mem hj) hx
    subst this
    exact hid hp
  · exact notin_take_of_nodup (F.each id) hj hx

theorem DIn.push {done S D : List Str} {id : Str} {j : Nat} (F : Forest C ids) (h : DIn C done id j S D) (hj : j < (C id).length) :
    DIn C done id (j + 1) (S ++ [(C id)[j]]) (D ++ [(C id)[j]]) := by
  have hfr := h.fresh F hj
  have hne : (C id)[j] ≠ [] := F.ne (List.getElem_mem hj)
  refine ⟨?_, ?_, ?_, ?_, ?_, ?_⟩
  · have e1 : id :: (done ++ (S ++ [(C id)[j]])) = (id :: (done ++ S)) ++ [(C id)[j]] := by simp
    have e2 : [] :: (D ++ [(C id)[j]]) = ([] :: D) ++ [(C id)[j]] := by simp
    rw [e1, e2]
    exact List.Perm.append_right _ h.perm
  · have hn := List.nodup_cons.1 h.nodup
    refine List.nodup_cons.2 ⟨?_, ?_⟩
    · simp only [List.mem_append, List.mem_singleton, not_or]
      exact ⟨hn.1, fun e => hne e.symm⟩
    · rw [List.nodup_append]
      exact ⟨hn.2, by simp, fun a ha b hb => by simp only [List.mem_singleton] at hb; subst hb; exact fun e => hfr (e ▸ ha)⟩
  · intro x hx
    rw [take_snoc hj]
    simp only [List.mem_append, List.mem_singleton] at hx ⊢
    rcases hx with hx | hx
    · rcases h.up x hx with h1 | h1
      · exact Or.inl h1
      · exact Or.inr (Or.inl h1)
    · exact Or.inr (Or.inr hx)
  · intro x hx
    simp only [List.mem_append, List.mem_singleton] at hx
    rcases hx with hx | rfl
    · exact h.climb x hx
    · refine (climbs_iff F (List.getElem_mem hj)).2 ?_
      have : id ∈ [] :: D := h.perm.mem_iff.1 (by simp)
      rcases List.mem_cons.1 this with e | e
      · exact Or.inl e
      · exact Or.inr (h.climb _ e)
  · intro p hp x hx
    simp [h.down p hp x hx]
  · intro x hx
    rw [take_snoc hj] at hx
    simp only [List.mem_append, List.mem_singleton] at hx ⊢
    rcases hx with hx | hx
    · exact Or.inl (h.cur x hx)
    · exact Or.inr hx

theorem DIn.len {done S D : List Str} {id : Str} {j : Nat} (F : Forest C ids) (h : DIn C done id j S D) : D.length ≤ (ids.flatMap C).length ∧ done.length + S.length = D.length :=
  ⟨length_le_of_sub (List.nodup_cons.1 h.nodup).2 (fun x hx => climbs_mem F (h.climb x hx)), by have := h.perm.length_eq; simp at this; omega⟩

theorem DOut.len {done S D : List Str} (F : Forest C ids) (h : DOut C done S D) : D.length ≤ (ids.flatMap C).length ∧ done.length + S.length = D.length + 1 :=
  ⟨length_le_of_sub (List.nodup_cons.1 h.nodup).2 (fun x hx => climbs_mem F (h.climb x hx)), by have := h.perm.length_eq; simp at this; omega⟩

theorem DOut.ends {done D : List Str} (h : DOut C done [] D) : D.Nodup ∧ ∀ x, x ∈ D ↔ Climbs C x := by
  refine ⟨(List.nodup_cons.1 h.nodup).2, fun x => ⟨h.climb x, ?_⟩⟩
  have hdone : ∀ y, y ∈ [] :: D → y ∈ done := fun y hy => by simpa using h.perm.mem_iff.2 hy
  rintro ⟨n, hn⟩
  revert x
  induction n with
  | zero =>
    intro x hn
    obtain ⟨p, hp, hx⟩ := mem_lev_succ.1 hn
    have : p = [] := by simpa [lev] using hp
    subst this
    exact h.down [] (hdone [] (by simp)) x hx
  | succ n ih =>
    intro x hn
    obtain ⟨p, hp, hx⟩ := mem_lev_succ.1 hn
    exact h.down p (hdone p (by simp [ih p hp])) x hx

/-! ### the climb upward -/

/-- What is known between two climbs: 1: it climbs to the top; 2: it does not. -/
def SInv (C : Str → List Str) (all : List Str) (st : Str → Option Int) : Prop :=
  ∀ x v, st x = some v → x ∈ all ∧ ((v = 1 ∧ Climbs C x) ∨ (v = 2 ∧ ¬ Climbs C x))

/-- Inside a climb that began at o: 'pa' have been passed, the climb stands at x. -/
structure PInv (C : Str → List Str) (all : List Str) (st : Str → Option Int) (pa : List Str) (x o : Str) : Prop where
  nodup : pa.Nodup
  sub : ∀ c ∈ pa, c ∈ all
  fresh : ∀ c ∈ pa, st c = none
  same : ∀ c ∈ pa, (Climbs C c ↔ Climbs C x)
  low : ∀ c ∈ pa, ∀ n, c ∈ lev C n → ∃ m, m < n ∧ x ∈ lev C m
  xne : x ≠ []
  first : o ∈ pa ++ [x]

def Verd (C : Str → List Str) (pa : List Str) (v : Int) : Prop := (v = 1 ∧ ∀ c ∈ pa, Climbs C c) ∨ (v = 2 ∧ ∀ c ∈ pa, ¬ Climbs C c)

variable {all : List Str} {st : Str → Option Int} {pa : List Str} {x o : Str}

theorem PInv.start (ho : o ≠ []) : PInv C all st [] o o :=
  ⟨List.nodup_nil, by simp, by simp, by simp, by simp, ho, by simp⟩

theorem PInv.step (F : Forest C ids) (h : PInv C (ids.flatMap C) st pa x o) (hx : x ∉ pa) (hst : st x = none) {p : Str} (hp : x ∈ C p) (hne : p ≠ []) : PInv C (ids.flatMap C) st (pa ++ [x]) p o := by
  have hcl : Climbs C x ↔ Climbs C p := by
    rw [climbs_iff F hp]
    exact ⟨fun h => h.resolve_left hne, Or.inr⟩
  refine ⟨?_, ?_, ?_, ?_, ?_, hne, ?_⟩
  · rw [List.nodup_append]
    exact ⟨h.nodup, by simp, fun a ha b hb => by simp only [List.mem_singleton] at hb; subst hb; exact fun e => hx (e ▸ ha)⟩
  · intro c hc
    simp only [List.mem_append, List.mem_singleton] at hc
    rcases hc with hc | rfl
    · exact h.sub c hc
    · exact F.mem hp
  · intro c hc
    simp only [List.mem_append, List.mem_singleton] at hc
    rcases hc with hc | rfl
    · exact h.fresh c hc
    · exact hst
  · intro c hc
    simp only [List.mem_append, List.mem_singleton] at hc
    rcases hc with hc | rfl
    · exact (h.same c hc).trans hcl
    · exact hcl
  · intro c hc n hn
    simp only [List.mem_append, List.mem_singleton] at hc
    rcases hc with hc | rfl
    · obtain ⟨m, hm, hxm⟩ := h.low c hc n hn
      obtain ⟨m', hm', hpm⟩ := lev_up F hp hxm
      exact ⟨m', by omega, hpm⟩
    · exact lev_up F hp hn
  · have := h.first
    simp only [List.mem_append, List.mem_singleton] at this ⊢
    exact Or.inl this

theorem PInv.len (h : PInv C all st pa x o) : pa.length ≤ all.length := length_le_of_sub h.nodup h.sub

theorem PInv.cycle (h : PInv C all st pa x o) (hx : x ∈ pa) : Verd C pa 2 ∧ o ∈ pa := by
  have hno : ¬ Climbs C x := by
    rintro ⟨n, hn⟩
    exact no_lev (h.low x hx) _ hn
  refine ⟨Or.inr ⟨rfl, fun c hc hcl => hno ((h.same c hc).1 hcl)⟩, ?_⟩
  have := h.first
  simp only [List.mem_append, List.mem_singleton] at this
  rcases this with h1 | rfl
  · exact h1
  · exact hx

theorem PInv.known (hS : SInv C all st) (h : PInv C all st pa x o) {v : Int} (hv : st x = some v) : Verd C pa v ∧ (o ∈ pa ∨ st o ≠ none) := by
  refine ⟨?_, ?_⟩
  · rcases (hS x v hv).2 with ⟨rfl, hc⟩ | ⟨rfl, hc⟩
    · exact Or.inl ⟨rfl, fun c hc' => (h.same c hc').2 hc⟩
    · exact Or.inr ⟨rfl, fun c hc' hcl => hc ((h.same c hc').1 hcl)⟩
  · have := h.first
    simp only [List.mem_append, List.mem_singleton] at this
    rcases this with h1 | rfl
    · exact Or.inl h1
    · exact Or.inr (by rw [hv]; simp)

theorem PInv.lost (F : Forest C ids) (h : PInv C (ids.flatMap C) st pa x o) (ho : o ∈ ids.flatMap C) (hx : x ∉ ids.flatMap C) : Verd C pa 2 ∧ o ∈ pa := by
  refine ⟨Or.inr ⟨rfl, fun c hc hcl => hx (climbs_mem F ((h.same c hc).1 hcl))⟩, ?_⟩
  have := h.first
  simp only [List.mem_append, List.mem_singleton] at this
  rcases this with h1 | rfl
  · exact h1
  · exact absurd ho hx

theorem PInv.top (F : Forest C ids) (h : PInv C (ids.flatMap C) st pa x o) (hp : x ∈ C []) : Verd C (pa ++ [x]) 1 ∧ o ∈ pa ++ [x] := by
  have hcl : Climbs C x := (climbs_iff F hp).2 (Or.inl rfl)
  refine ⟨Or.inl ⟨rfl, fun c hc => ?_⟩, h.first⟩
  simp only [List.mem_append, List.mem_singleton] at hc
  rcases hc with hc | rfl
  · exact (h.same c hc).2 hcl
  · exact hcl

theorem SInv.settle (hS : SInv C all st) (hsub : ∀ c ∈ pa, c ∈ all) {v : Int} (hv : Verd C pa v) : SInv C all (fun y => if y ∈ pa then some v else st y) := by
  intro y u hu
  by_cases hy : y ∈ pa
  · simp only [hy, if_true, Option.some.injEq] at hu
    subst hu
    refine ⟨hsub y hy, ?_⟩
    rcases hv with ⟨rfl, h⟩ | ⟨rfl, h⟩
    · exact Or.inl ⟨rfl, h y hy⟩
    · exact Or.inr ⟨rfl, h y hy⟩
  · simp only [hy, if_false] at hu
    exact hS y u hu

theorem SInv.ends (hS : SInv C all st) (h : ∀ c ∈ all, st c ≠ none) : ∀ c ∈ all, (Climbs C c ∧ st c = some 1) ∨ (¬ Climbs C c ∧ st c = some 2) := by
  intro c hc
  cases hs : st c with
  | none => exact absurd hs (h c hc)
  | some v =>
    rcases (hS c v hs).2 with ⟨rfl, h1⟩ | ⟨rfl, h1⟩
    · exact Or.inl ⟨h1, rfl⟩
    · exact Or.inr ⟨h1, rfl⟩

/-! ### counting -/

theorem count_eq {l D : List Str} (hl : l.Nodup) (hD : D.Nodup) (hsub : ∀ x ∈ D, x ∈ l) : (l.filter (fun x => decide (x ∈ D))).length = D.length := by
  refine Nat.le_antisymm ?_ ?_
  · exact length_le_of_sub (hl.filter _) (fun x hx => by simpa using (List.mem_filter.1 hx).2)
  · exact length_le_of_sub hD (fun x hx => List.mem_filter.2 ⟨hsub x hx, by simpa using hx⟩)

theorem flat_nodup : ∀ {ids : List Str}, ids.Nodup → (∀ p ∈ ids, (C p).Nodup) → (∀ p ∈ ids, ∀ q ∈ ids, ∀ c, c ∈ C p → c ∈ C q → p = q) → (ids.flatMap C).Nodup
  | [], _, _, _ => by simp
  | a :: r, hn, h1, h2 => by
    obtain ⟨ha, hr⟩ := List.nodup_cons.1 hn
    rw [List.flatMap_cons, List.nodup_append]
    refine ⟨h1 a (by simp), flat_nodup hr (fun p hp => h1 p (by simp [hp])) (fun p hp q hq c hcp hcq => h2 p (by simp [hp]) q (by simp [hq]) c hcp hcq), ?_⟩
    intro x hx y hy e
    subst e
    obtain ⟨p, hp, hxp⟩ := List.mem_flatMap.1 hy
    have := h2 a (by simp) p (by simp [hp]) x hx hxp
    subst this
    exact ha hp

/-! ### a fresh leaf -/

def graft (C : Str → List Str) (under leaf : Str) : Str → List Str := fun s => if s = under then C under ++ [leaf] else C s
def graftIds (ids : List Str) (under : Str) : List Str := if under ∈ ids then ids else ids ++ [under]

theorem mem_graft {under leaf s c : Str} : c ∈ graft C under leaf s ↔ c ∈ C s ∨ (s = under ∧ c = leaf) := by
  unfold graft
  by_cases h : s = under
  · subst h; simp
  · simp [h]

theorem mem_graftIds {under s : Str} : s ∈ graftIds ids under ↔ s ∈ ids ∨ s = under := by
  unfold graftIds
  by_cases h : under ∈ ids
  · simp only [h, if_true]
    exact ⟨Or.inl, fun h' => h'.elim id (fun e => e ▸ h)⟩
  · simp [h]

theorem graftIds_nodup (hn : ids.Nodup) (under : Str) : (graftIds ids under).Nodup := by
  unfold graftIds
  split
  · exact hn
  · rename_i h
    rw [List.nodup_append]
    exact ⟨hn, by simp, fun a ha b hb => by simp only [List.mem_singleton] at hb; subst hb; exact fun e => h (e ▸ ha)⟩

theorem Forest.graft (F : Forest C ids) (hn : ids.Nodup) {under leaf : Str} (h1 : leaf ≠ []) (h2 : leaf ∉ ids.flatMap C) : Forest (graft C under leaf) (graftIds ids under) := by
  refine ⟨flat_nodup (graftIds_nodup hn under) ?_ ?_, ?_, ?_⟩
  · intro p _
    unfold Qxb6601503a.graft
    split
    · rw [List.nodup_append]
      exact ⟨F.each under, by simp, fun a ha b hb => by simp only [List.mem_singleton] at hb; subst hb; exact fun e => h2 (e ▸ F.mem ha)⟩
    · exact F.each p
  · intro p _ q _ c hp hq
    rw [mem_graft] at hp hq
    rcases hp with hp | ⟨rfl, rfl⟩
    · rcases hq with hq | ⟨rfl, rfl⟩
      · exact F.one hp hq
      · exact absurd (F.mem hp) h2
    · rcases hq with hq | ⟨rfl, _⟩
      · exact absurd (F.mem hq) h2
      · rfl
  · intro hm
    obtain ⟨p, _, hp⟩ := List.mem_flatMap.1 hm
    rw [mem_graft] at hp
    rcases hp with hp | ⟨_, e⟩
    · exact F.top (F.mem hp)
    · exact h1 e.symm
  · intro s hs
    rw [mem_graftIds, not_or] at hs
    unfold Qxb6601503a.graft
    rw [if_neg hs.2]
    exact F.keys s hs.1

theorem graft_flat_len (F : Forest C ids) (hn : ids.Nodup) {under leaf : Str} (h1 : leaf ≠ []) (h2 : leaf ∉ ids.flatMap C) : ((graftIds ids under).flatMap (graft C under leaf)).length ≤ (ids.flatMap C).length + 1 := by
  refine length_le_of_sub (m := leaf :: ids.flatMap C) (F.graft hn h1 h2 (under := under)).nodup ?_
  intro x hx
  obtain ⟨p, _, hp⟩ := List.mem_flatMap.1 hx
  rw [mem_graft] at hp
  rcases hp with hp | ⟨_, rfl⟩
  · simp [F.mem hp]
  · simp

theorem graft_old (F : Forest C ids) {under leaf : Str} (h3 : leaf ∉ ids) {x : Str} (hx : x ≠ leaf) : Climbs (graft C under leaf) x ↔ Climbs C x := by
  constructor
  · rintro ⟨n, hn⟩
    revert x
    induction n with
    | zero =>
      intro x hx hn
      obtain ⟨p, hp, hxp⟩ := mem_lev_succ.1 hn
      rw [mem_graft] at hxp
      exact ⟨0, mem_lev_succ.2 ⟨p, hp, hxp.resolve_right fun h => hx h.2⟩⟩
    | succ n ih =>
      intro x hx hn
      obtain ⟨p, hp, hxp⟩ := mem_lev_succ.1 hn
      rw [mem_graft] at hxp
      have hxc := hxp.resolve_right fun h => hx h.2
      have hpl : p ≠ leaf := fun e => h3 (e ▸ F.key hxc)
      exact (climbs_iff F hxc).2 (Or.inr (ih hpl hp))
  · rintro ⟨n, hn⟩
    have sub : ∀ n, ∀ y, y ∈ lev C n → y ∈ lev (graft C under leaf) n := by
      intro n
      induction n with
      | zero => intro y hy; exact hy
      | succ n ih =>
        intro y hy
        obtain ⟨p, hp, hyp⟩ := mem_lev_succ.1 hy
        exact mem_lev_succ.2 ⟨p, ih p hp, mem_graft.2 (Or.inl hyp)⟩
    exact ⟨n, sub _ _ hn⟩

theorem graft_leaf (F : Forest C ids) (hn : ids.Nodup) {under leaf : Str} (h1 : leaf ≠ []) (h2 : leaf ∉ ids.flatMap C) (h3 : leaf ∉ ids) : Climbs (graft C under leaf) leaf ↔ under = [] ∨ Climbs C under := by
  have F' := F.graft hn h1 h2 (under := under)
  have hm : leaf ∈ graft C under leaf under := mem_graft.2 (Or.inr ⟨rfl, rfl⟩)
  by_cases hu : under = leaf
  · subst hu
    constructor
    · rintro ⟨n, hn'⟩
      exact absurd hn' (no_lev (fun n hx => lev_up F' hm hx) _)
    · rintro (h | h)
      · exact absurd h h1
      · exact absurd (climbs_mem F h) h2
  · rw [climbs_iff F' hm, graft_old F h3 hu]

theorem graft_count (F : Forest C ids) (hn : ids.Nodup) {under leaf : Str} (h1 : leaf ≠ []) (h2 : leaf ∉ ids.flatMap C) (h3 : leaf ∉ ids) {D D' : List Str} (hD : D.Nodup) (hD' : D'.Nodup)
    (e : ∀ x, x ∈ D ↔ Climbs C x) (e' : ∀ x, x ∈ D' ↔ Climbs (graft C under leaf) x) : ((under = [] ∨ under ∈ D) → D'.length = D.length + 1) ∧ (¬ (under = [] ∨ under ∈ D) → D'.length = D.length) := by
  have hl : leaf ∉ D := fun h => h2 (climbs_mem F ((e leaf).1 h))
  have old : ∀ x, x ≠ leaf → (x ∈ D' ↔ x ∈ D) := fun x hx => by rw [e, e', graft_old F h3 hx]
  have new : leaf ∈ D' ↔ (under = [] ∨ under ∈ D) := by rw [e', e, graft_leaf F hn h1 h2 h3]
  constructor
  · intro hw
    refine Nat.le_antisymm (length_le_of_sub (m := leaf :: D) hD' fun x hx => ?_) (length_le_of_sub (l := leaf :: D) (List.nodup_cons.2 ⟨hl, hD⟩) fun x hx => ?_)
    · by_cases h : x = leaf
      · simp [h]
      · simp [(old x h).1 hx]
    · rcases List.mem_cons.1 hx with rfl | hx
      · exact new.2 hw
      · exact (old x (fun h => hl (h ▸ hx))).2 hx
  · intro hw
    refine Nat.le_antisymm (length_le_of_sub hD' fun x hx => ?_) (length_le_of_sub hD fun x hx => ?_)
    · exact (old x (fun h => hw (new.1 (h ▸ hx)))).1 hx
    · exact (old x (fun h => hl (h ▸ hx))).2 hx

end Go.Proofs.Qxb6601503a
