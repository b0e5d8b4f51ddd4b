/- Plain facts about the names of hosts, the order in which constraints are sorted, and what is left of them; no program in sight, no condition beyond those that each theorem states. -/

namespace Go.Proofs.YtbnelehiieglbaaGreatDoor.Plain

/-- A byte in lower case. -/
def lowB (b : UInt8) : UInt8 := if 65 ≤ b ∧ b ≤ 90 then b + 32 else b
/-- A text in lower case. -/
def low (l : List UInt8) : List UInt8 := l.map lowB
/-- A byte's place in the order: the dot comes first. -/
def tab (b : UInt8) : UInt8 := if b = 46 then 0 else lowB b

/-- The comparison, over keys. -/
def cmpK : List UInt8 → List UInt8 → Int
  | [], [] => 0
  | [], _ :: _ => -1
  | _ :: _, [] => 1
  | x :: xs, y :: ys => if x = y then cmpK xs ys else if x < y then -1 else 1

/-- A text's key: from behind, each byte by its place. -/
def key (l : List UInt8) : List UInt8 := l.reverse.map tab
def dnsCmp (a b : List UInt8) : Int := cmpK (key a) (key b)

theorem cmpK_self : ∀ a, cmpK a a = 0
  | [] => rfl
  | x :: xs => by simp [cmpK, cmpK_self xs]

theorem cmpK_zero : ∀ a b, cmpK a b = 0 → a = b
  | [], [], _ => rfl
  | [], _ :: _, h => by simp [cmpK] at h
  | _ :: _, [], h => by simp [cmpK] at h
  | x :: xs, y :: ys, h => by
    unfold cmpK at h
    split at h
    · next e => rw [e, cmpK_zero xs ys h]
    · split at h <;> omega

/-- a comes no later than b. -/
def leK : List UInt8 → List UInt8 → Prop
  | [], _ => True
  | _ :: _, [] => False
  | x :: xs, y :: ys => x < y ∨ x = y ∧ leK xs ys

theorem leK_refl : ∀ a, leK a a
  | [] => trivial
  | _ :: xs => Or.inr ⟨rfl, leK_refl xs⟩

theorem leK_trans : ∀ a b c, leK a b → leK b c → leK a c
  | [], _, _, _, _ => trivial
  | _ :: _, [], _, h, _ => h.elim
  | _ :: _, _ :: _, [], _, h => h.elim
  | x :: xs, y :: ys, z :: zs, h1, h2 => by
    rcases h1 with h1 | ⟨rfl, h1⟩
    · rcases h2 with h2 | ⟨rfl, h2⟩
      · exact Or.inl (UInt8.lt_trans h1 h2)
      · exact Or.inl h1
    · rcases h2 with h2 | ⟨rfl, h2⟩
      · exact Or.inl h2
      · exact Or.inr ⟨rfl, leK_trans xs ys zs h1 h2⟩

theorem leK_antisymm : ∀ a b, leK a b → leK b a → a = b
  | [], [], _, _ => rfl
  | [], _ :: _, _, h => h.elim
  | _ :: _, [], h, _ => h.elim
  | x :: xs, y :: ys, h1, h2 => by
    rcases h1 with h1 | ⟨rfl, h1⟩
    · rcases h2 with h2 | ⟨rfl, h2⟩
      · exact absurd (UInt8.lt_trans h1 h2) (UInt8.lt_irrefl _)
      · exact absurd h1 (UInt8.lt_irrefl _)
    · rcases h2 with h2 | ⟨_, h2⟩
      · exact absurd h2 (UInt8.lt_irrefl _)
      · rw [leK_antisymm xs ys h1 h2]

theorem cmpK_neg : ∀ a b, cmpK a b < 0 ↔ ¬ leK b a
  | [], [] => by simp [cmpK, leK]
  | [], _ :: _ => by simp [cmpK, leK]
  | _ :: _, [] => by simp [cmpK, leK]
  | x :: xs, y :: ys => by
    unfold cmpK leK
    by_cases e : x = y
    · subst e
      simp [cmpK_neg xs ys, UInt8.lt_irrefl]
    · rw [if_neg e]
      by_cases h : x < y
      · rw [if_pos h]
        have h' : ¬ y < x := fun h' => UInt8.lt_irrefl _ (UInt8.lt_trans h h')
        simp [h', Ne.symm e]
      · rw [if_neg h]
        have h' : y < x := by
          rw [UInt8.lt_iff_toNat_lt] at h ⊢
          have : x.toNat ≠ y.toNat := fun hh => e (UInt8.toNat_inj.1 hh)
          omega
        simp [h']

theorem leK_total (a b : List UInt8) : leK a b ∨ leK b a := by
  induction a generalizing b with
  | nil => exact Or.inl trivial
  | cons x xs ih =>
    cases b with
    | nil => exact Or.inr trivial
    | cons y ys =>
      by_cases e : x = y
      · subst e
        rcases ih ys with h | h
        · exact Or.inl (Or.inr ⟨rfl, h⟩)
        · exact Or.inr (Or.inr ⟨rfl, h⟩)
      · rcases UInt8.lt_or_lt_of_ne e with h | h
        · exact Or.inl (Or.inl h)
        · exact Or.inr (Or.inl h)

/-- a covers b, over keys: a is where b begins, and b goes on behind a whole label. -/
def covK (a b : List UInt8) : Prop := a <+: b ∧ (a.getLast? = some 0 ∨ a = b ∨ b[a.length]? = some 0)

theorem covK_refl (a : List UInt8) : covK a a := ⟨List.prefix_refl a, Or.inr (Or.inl rfl)⟩

theorem leK_of_prefix : ∀ a b : List UInt8, a <+: b → leK a b
  | [], _, _ => trivial
  | x :: xs, [], h => by simp at h
  | x :: xs, y :: ys, h => by
    rw [List.cons_prefix_cons] at h
    exact Or.inr ⟨h.1, leK_of_prefix xs ys h.2⟩

theorem covK_le {a b : List UInt8} (h : covK a b) : leK a b := leK_of_prefix a b h.1

theorem prefix_between : ∀ a b c : List UInt8, a <+: c → leK a b → leK b c → a <+: b
  | [], _, _, _, _, _ => List.nil_prefix
  | x :: xs, [], _, _, h, _ => h.elim
  | x :: xs, y :: ys, [], h, _, _ => by simp at h
  | x :: xs, y :: ys, z :: zs, h, h1, h2 => by
    rw [List.cons_prefix_cons] at h ⊢
    obtain ⟨rfl, h⟩ := h
    rcases h1 with h1 | ⟨rfl, h1⟩
    · rcases h2 with h2 | ⟨rfl, h2⟩
      · exact absurd (UInt8.lt_trans h1 h2) (UInt8.lt_irrefl _)
      · exact absurd h1 (UInt8.lt_irrefl _)
    · rcases h2 with h2 | ⟨_, h2⟩
      · exact absurd h2 (UInt8.lt_irrefl _)
      · exact ⟨rfl, prefix_between xs ys zs h h1 h2⟩

theorem leK_append : ∀ a b c : List UInt8, leK (a ++ b) (a ++ c) → leK b c
  | [], _, _, h => h
  | x :: xs, b, c, h => by
    rcases h with h | ⟨_, h⟩
    · exact absurd h (UInt8.lt_irrefl _)
    · exact leK_append xs b c h

/-- What lies between a and what a covers is covered. -/
theorem covK_between {a b c : List UInt8} (h : covK a c) (h1 : leK a b) (h2 : leK b c) : covK a b := by
  have hp := prefix_between a b c h.1 h1 h2
  refine ⟨hp, ?_⟩
  rcases h.2 with h0 | rfl | h0
  · exact Or.inl h0
  · exact Or.inr (Or.inl (leK_antisymm a b h1 h2))
  · obtain ⟨b', rfl⟩ := hp
    obtain ⟨c', rfl⟩ := h.1
    have hle := leK_append _ _ _ h2
    cases b' with
    | nil => exact Or.inr (Or.inl (by simp))
    | cons y ys =>
      refine Or.inr (Or.inr ?_)
      cases c' with
      | nil => exact hle.elim
      | cons z zs =>
        simp at h0
        subst h0
        rcases hle with hle | ⟨rfl, _⟩
        · rw [UInt8.lt_iff_toNat_lt] at hle
          simp at hle
        · simp

theorem covK_trans {a b c : List UInt8} (h1 : covK a b) (h2 : covK b c) : covK a c := by
  refine ⟨h1.1.trans h2.1, ?_⟩
  rcases h1.2 with h0 | rfl | h0
  · exact Or.inl h0
  · exact h2.2
  · obtain ⟨c', rfl⟩ := h2.1
    refine Or.inr (Or.inr ?_)
    rw [List.getElem?_append_left]
    · exact h0
    · rcases Nat.lt_or_ge a.length b.length with hl | hl
      · exact hl
      · rw [List.getElem?_eq_none hl] at h0
        cases h0

end Go.Proofs.YtbnelehiieglbaaGreatDoor.Plain

namespace Go.Proofs.YtbnelehiieglbaaGreatDoor.Plain
section
variable {α : Type}

/-- One step of what leaves out the covered ones. -/
def pruneStep (cov : α → α → Bool) (T : List α) (x : α) : List α :=
  match T.getLast? with
  | none => [x]
  | some w => if cov w x then T else T ++ [x]
def prune (cov : α → α → Bool) (l : List α) : List α := l.foldl (pruneStep cov) []

theorem prune_snoc (cov : α → α → Bool) (l : List α) (x : α) : prune cov (l ++ [x]) = pruneStep cov (prune cov l) x := by
  simp [prune, List.foldl_append]

/-- What the rest T of a list l has: it is a part of it, covers all of it, and no one of it covers the next one. -/
structure Pruned (cov : α → α → Bool) (l T : List α) : Prop where
  sub : T.Sublist l
  all : ∀ x ∈ l, ∃ t ∈ T, cov t x = true
  chain : ∀ i a b, T[i]? = some a → T[i + 1]? = some b → cov a b = false

theorem pruned_step {cov : α → α → Bool} (hr : ∀ x, cov x x = true) {l T : List α} (h : Pruned cov l T) (x : α) : Pruned cov (l ++ [x]) (pruneStep cov T x) := by
  unfold pruneStep
  cases hw : T.getLast? with
  | none =>
    have hT : T = [] := by simpa using hw
    subst hT
    have hl : l = [] := by
      cases l with
      | nil => rfl
      | cons y ys => obtain ⟨t, ht, _⟩ := h.all y (by simp); simp at ht
    subst hl
    exact ⟨by simp, by simp [hr], by intro i a b _ hb; simp at hb⟩
  | some w =>
    have hwT : w ∈ T := List.mem_of_getLast? hw
    dsimp only
    by_cases hc : cov w x = true
    · rw [if_pos hc]
      refine ⟨h.sub.trans (List.sublist_append_left _ _), fun y hy => ?_, h.chain⟩
      rw [List.mem_append, List.mem_singleton] at hy
      rcases hy with hy | rfl
      · exact h.all y hy
      · exact ⟨w, hwT, hc⟩
    · rw [if_neg hc]
      refine ⟨h.sub.append (List.Sublist.refl _), fun y hy => ?_, fun i a b ha hb => ?_⟩
      · rw [List.mem_append, List.mem_singleton] at hy
        rcases hy with hy | rfl
        · obtain ⟨t, ht, hc'⟩ := h.all y hy
          exact ⟨t, by simp [ht], hc'⟩
        · exact ⟨y, by simp, hr y⟩
      · rcases Nat.lt_or_ge (i + 1) T.length with hl | hl
        · rw [List.getElem?_append_left (by omega)] at ha
          rw [List.getElem?_append_left hl] at hb
          exact h.chain i a b ha hb
        · rw [List.getElem?_append_right hl] at hb
          have hi : i + 1 - T.length = 0 := by
            rcases Nat.eq_zero_or_pos (i + 1 - T.length) with h0 | h0
            · exact h0
            · rw [List.getElem?_eq_none (by simp; omega)] at hb
              cases hb
          rw [hi] at hb
          simp at hb
          subst hb
          have hT0 : T.length ≠ 0 := by
            intro h0
            rw [List.length_eq_zero_iff] at h0
            subst h0
            simp at hwT
          rw [List.getElem?_append_left (by omega)] at ha
          rw [List.getLast?_eq_getElem?, show T.length - 1 = i by omega, ha] at hw
          injection hw with hw
          subst hw
          simpa using hc

theorem pruned (cov : α → α → Bool) (hr : ∀ x, cov x x = true) (l : List α) : Pruned cov l (prune cov l) := by
  have key : ∀ n, n ≤ l.length → Pruned cov (l.take n) (prune cov (l.take n)) := by
    intro n
    induction n with
    | zero => intro _; exact ⟨by simp [prune], by simp, by intro i a b ha; simp [prune] at ha⟩
    | succ n ih =>
      intro hn
      have he : l.take (n + 1) = l.take n ++ [l[n]] := by rw [List.take_succ_eq_append_getElem (by omega)]
      rw [he, prune_snoc]
      exact pruned_step hr (ih (by omega)) _
  have := key l.length (Nat.le_refl _)
  rwa [List.take_length] at this

/-- What the binary search and the look behind it answer. -/
def found [Inhabited α] (cov : α → α → Bool) (cf : α → α → Int) (T : List α) (s : α) : Bool :=
  if T.countP (fun x => decide (cf x s < 0)) < T.length ∧ cf T[T.countP (fun x => decide (cf x s < 0))]! s = 0 then true
  else cov (if T.countP (fun x => decide (cf x s < 0)) = 0 then T[0]! else T[T.countP (fun x => decide (cf x s < 0)) - 1]!) s

variable (k : α → List UInt8) (cov : α → α → Bool)

theorem countP_sorted {p : α → Bool} : ∀ {T : List α}, T.Pairwise (fun a b => p b = true → p a = true) → ∀ i x, T[i]? = some x → (p x = true ↔ i < T.countP p)
  | [], _, i, x, h => by simp at h
  | a :: r, hp, i, x, h => by
    rw [List.pairwise_cons] at hp
    cases i with
    | zero =>
      simp at h
      subst h
      by_cases ha : p a = true
      · simp [List.countP_cons_of_pos ha, ha]
      · have h0 : r.countP p = 0 := by
          rw [List.countP_eq_zero]
          intro y hy hpy
          exact ha (hp.1 y hy hpy)
        simp [List.countP_cons_of_neg ha, ha, h0]
    | succ i =>
      simp at h
      have ih := countP_sorted hp.2 i x h
      by_cases ha : p a = true
      · rw [List.countP_cons_of_pos ha, ih]; omega
      · have h0 : r.countP p = 0 := by
          rw [List.countP_eq_zero]
          intro y hy hpy
          exact ha (hp.1 y hy hpy)
        rw [List.countP_cons_of_neg ha, ih, h0]
        omega

/-- The search says just whether one of the list covers. -/
theorem found_iff [Inhabited α] (hcov : ∀ a b, cov a b = true ↔ covK (k a) (k b)) {l T : List α} (hs : l.Pairwise (fun a b => leK (k a) (k b))) (hT : Pruned cov l T) (s : α) (hne : l ≠ []) :
    found cov (fun a b => cmpK (k a) (k b)) T s = true ↔ ∃ x ∈ l, covK (k x) (k s) := by
  have hTs : T.Pairwise (fun a b => leK (k a) (k b)) := hs.sublist hT.sub
  have hTne : T ≠ [] := by
    intro h0
    subst h0
    cases l with
    | nil => exact hne rfl
    | cons y ys => obtain ⟨t, ht, _⟩ := hT.all y (by simp); simp at ht
  have hlen : 0 < T.length := List.length_pos_iff.2 hTne
  have hp : T.Pairwise (fun a b => decide (cmpK (k b) (k s) < 0) = true → decide (cmpK (k a) (k s) < 0) = true) := by
    refine hTs.imp ?_
    intro a b hab hb
    rw [decide_eq_true_eq, cmpK_neg] at hb ⊢
    exact fun h => hb (leK_trans _ _ _ h hab)
  have hcount := countP_sorted hp
  generalize hi : T.countP (fun x => decide (cmpK (k x) (k s) < 0)) = i at hcount
  have hle : i ≤ T.length := by rw [← hi]; exact List.countP_le_length
  have hin : ∀ j, (hj : j < T.length) → T[j]! = T[j] := fun j hj => getElem!_pos T j hj
  constructor
  · intro hf
    unfold found at hf
    rw [hi] at hf
    split at hf
    · next h =>
      rw [hin i h.1] at h
      refine ⟨T[i], hT.sub.subset (List.getElem_mem _), ?_⟩
      rw [cmpK_zero _ _ h.2]
      exact covK_refl _
    · split at hf
      · rw [hin 0 hlen] at hf
        exact ⟨T[0], hT.sub.subset (List.getElem_mem _), (hcov _ _).1 hf⟩
      · rw [hin (i - 1) (by omega)] at hf
        exact ⟨T[i - 1], hT.sub.subset (List.getElem_mem _), (hcov _ _).1 hf⟩
  · rintro ⟨x, hx, hxs⟩
    obtain ⟨t, ht, htx⟩ := hT.all x hx
    have hts := covK_trans ((hcov _ _).1 htx) hxs
    obtain ⟨j, hj, rfl⟩ := List.getElem_of_mem ht
    have hjs := covK_le hts
    unfold found
    rw [hi]
    have hcj := hcount j T[j] (List.getElem?_eq_getElem hj)
    rw [decide_eq_true_eq, cmpK_neg] at hcj
    by_cases hlt : leK (k s) (k T[j])
    · -- the very one
      have hge : i ≤ j := Nat.not_lt.1 fun h => (hcj.2 h) hlt
      have hil : i < T.length := by omega
      have hci := hcount i T[i] (List.getElem?_eq_getElem hil)
      rw [decide_eq_true_eq, cmpK_neg] at hci
      have h1 : leK (k s) (k T[i]) := Classical.byContradiction fun h => Nat.lt_irrefl _ (hci.1 h)
      have h2 : leK (k T[i]) (k T[j]) := by
        rcases Nat.lt_or_eq_of_le hge with h | h
        · exact (List.pairwise_iff_getElem.1 hTs) i j hil hj h
        · subst h; exact leK_refl _
      have he : k T[i] = k s := leK_antisymm _ _ (leK_trans _ _ _ h2 hjs) h1
      rw [if_pos]
      exact ⟨hil, by rw [hin i hil]; show cmpK (k T[i]) (k s) = 0; rw [he, cmpK_self]⟩
    · have hji : j < i := hcj.1 hlt
      have hi1 : i - 1 < T.length := by omega
      have hp1 := hcount (i - 1) T[i - 1] (List.getElem?_eq_getElem hi1)
      rw [decide_eq_true_eq, cmpK_neg] at hp1
      have hps : leK (k T[i - 1]) (k s) := by
        rcases leK_total (k T[i - 1]) (k s) with h | h
        · exact h
        · exact absurd h (hp1.2 (by omega))
      have hcovp : covK (k T[i - 1]) (k s) := by
        rcases Nat.lt_or_eq_of_le (show j ≤ i - 1 by omega) with h | h
        · exfalso
          have hj1 : j + 1 < T.length := by omega
          have hab : leK (k T[j]) (k T[j + 1]) := (List.pairwise_iff_getElem.1 hTs) j (j + 1) hj hj1 (by omega)
          have hbc : leK (k T[j + 1]) (k T[i - 1]) := by
            rcases Nat.lt_or_eq_of_le (show j + 1 ≤ i - 1 by omega) with h' | h'
            · exact (List.pairwise_iff_getElem.1 hTs) (j + 1) (i - 1) hj1 hi1 h'
            · have : T[j + 1] = T[i - 1] := by congr 1
              rw [this]; exact leK_refl _
          have hcj1 : covK (k T[j]) (k T[j + 1]) := covK_between hts hab (leK_trans _ _ _ hbc hps)
          have := hT.chain j T[j] T[j + 1] (List.getElem?_eq_getElem hj) (List.getElem?_eq_getElem hj1)
          rw [(hcov _ _).2 hcj1] at this
          cases this
        · have : T[j] = T[i - 1] := by congr 1
          rw [← this]; exact hts
      split
      · rfl
      · rw [if_neg (by omega), hin (i - 1) hi1]
        exact (hcov _ _).2 hcovp
end
end Go.Proofs.YtbnelehiieglbaaGreatDoor.Plain

namespace Go.Proofs.YtbnelehiieglbaaGreatDoor.Plain

/-! Labels, names -/
def labStep (st : List (List UInt8) × List UInt8) (b : UInt8) : List (List UInt8) × List UInt8 :=
  if b = 46 then (st.1 ++ [st.2], []) else (st.1, st.2 ++ [b])
def labSt (l : List UInt8) : List (List UInt8) × List UInt8 := l.foldl labStep ([], [])
/-- The labels of a name, which dots part. -/
def labels (l : List UInt8) : List (List UInt8) := (labSt l).1 ++ [(labSt l).2]

theorem labSt_snoc (l : List UInt8) (b : UInt8) : labSt (l ++ [b]) = labStep (labSt l) b := by simp [labSt, List.foldl_append]

def okB (b : UInt8) : Bool := (97 ≤ lowB b && lowB b ≤ 122) || (48 ≤ lowB b && lowB b ≤ 57) || lowB b == 45
def labelOk (x : List UInt8) : Bool := decide (1 ≤ x.length) && decide (x.length ≤ 63) && !(x.head? == some 45) && !(x.getLast? == some 45) && x.all okB
def letter (b : UInt8) : Bool := 97 ≤ lowB b && lowB b ≤ 122
def firstLetter (x : List UInt8) : Bool := match x.head? with | some b => letter b | none => false
def nameOk (s : List UInt8) : Bool := (labels s).all labelOk && decide (s.length ≤ 200) && firstLetter (labSt s).2
def subOk (s : List UInt8) : Bool := decide (1 < s.length) && (s.head? == some 46) && nameOk (s.drop 1)
def same (a b : List UInt8) : Bool := low a == low b
def under (name dom : List UInt8) : Bool :=
  decide (dom.length + 1 < name.length) && (name[name.length - dom.length - 1]? == some 46) && same (name.drop (name.length - dom.length)) dom
def uri (c host : List UInt8) : Int :=
  if subOk c then (if under host (c.drop 1) then 1 else 0)
  else if !nameOk c || under host c then 2
  else if same host c then 1 else 0
def foundI (l : List Int) : Int := if 1 ∈ l then 1 else if 2 ∈ l then 2 else 0
def ruleI (a b : List Int) : Int :=
  if foundI b = 1 ∨ (if 0 < a.length then foundI a else 1) = 0 then 1
  else if foundI b = 2 ∨ (if 0 < a.length then foundI a else 1) = 2 then 2 else 0

/-- dnsHasSuffix. -/
def suf (a b : List UInt8) : Bool :=
  decide (a.length ≤ b.length) && (low (b.drop (b.length - a.length)) == low a) &&
    ((a.head? == some 46) || decide (b.length ≤ a.length) || (b[b.length - a.length - 1]? == some 46))

/-! Bytes -/
theorem forall_u8 (p : UInt8 → Prop) (h : ∀ n, n < 256 → p (UInt8.ofNat n)) : ∀ b, p b := fun b => by
  have := h b.toNat b.toNat_lt
  simpa using this
theorem lowB_dot (b : UInt8) : lowB b = 46 ↔ b = 46 := by
  revert b; exact forall_u8 _ (by decide +kernel)
theorem lowB_zero (b : UInt8) : lowB b = 0 ↔ b = 0 := by
  revert b; exact forall_u8 _ (by decide +kernel)
theorem tab_low (b : UInt8) : tab (lowB b) = tab b := by
  revert b; exact forall_u8 _ (by decide +kernel)
theorem tab_zero (b : UInt8) (h : b ≠ 0) : tab b = 0 ↔ b = 46 := by
  revert b; exact forall_u8 _ (by decide +kernel)
theorem okB_facts (b : UInt8) (h : okB b = true) : 33 ≤ b ∧ b ≤ 126 ∧ b ≠ 0 ∧ b ≠ 46 ∧ b ≠ 58 ∧ b ≠ 37 ∧ b ≠ 91 ∧ b ≠ 42 ∧ b < 128 := by
  revert b; exact forall_u8 _ (by decide +kernel)
theorem lowB_lowB (b : UInt8) : lowB (lowB b) = lowB b := by
  revert b; exact forall_u8 _ (by decide +kernel)
theorem lowB_range (b : UInt8) (h : 33 ≤ b ∧ b ≤ 126) : 33 ≤ lowB b ∧ lowB b ≤ 126 := by
  revert b; exact forall_u8 _ (by decide +kernel)
theorem letter_facts (b : UInt8) (h : letter b = true) : ¬ (48 ≤ lowB b ∧ lowB b ≤ 57) ∧ lowB b ≠ 46 := by
  revert b; exact forall_u8 _ (by decide +kernel)

theorem tab_inj (x y : UInt8) (hx : x ≠ 0) (hy : y ≠ 0) : tab x = tab y ↔ lowB x = lowB y := by
  by_cases h1 : x = 46
  · subst h1
    constructor
    · intro h
      have : tab y = 0 := by rw [← h]; rfl
      rw [(tab_zero y hy).1 this]
    · intro h
      have : lowB y = 46 := by rw [← h]; rfl
      rw [(lowB_dot y).1 this]
  · by_cases h2 : y = 46
    · subst h2
      constructor
      · intro h
        have : tab x = 0 := by rw [h]; rfl
        exact absurd ((tab_zero x hx).1 this) h1
      · intro h
        have : lowB x = 46 := by rw [h]; rfl
        exact absurd ((lowB_dot x).1 this) h1
    · simp [tab, h1, h2]

def nz (l : List UInt8) : Prop := ∀ b ∈ l, b ≠ 0

theorem map_tab_eq : ∀ (a b : List UInt8), nz a → nz b → (a.map tab = b.map tab ↔ low a = low b)
  | [], [], _, _ => by simp [low]
  | [], _ :: _, _, _ => by simp [low]
  | _ :: _, [], _, _ => by simp [low]
  | x :: xs, y :: ys, ha, hb => by
    have ih := map_tab_eq xs ys (fun b h => ha b (by simp [h])) (fun b h => hb b (by simp [h]))
    simp only [low] at ih ⊢
    simp only [List.map_cons, List.cons.injEq]
    rw [ih, tab_inj x y (ha x (by simp)) (hb y (by simp))]

theorem key_low (a : List UInt8) : key (low a) = key a := by
  simp [key, low, ← List.map_reverse, Function.comp_def, tab_low]
theorem length_key (a : List UInt8) : (key a).length = a.length := by simp [key]
theorem low_length (a : List UInt8) : (low a).length = a.length := by simp [low]
theorem low_low (a : List UInt8) : low (low a) = low a := by simp [low, Function.comp_def, lowB_lowB]
theorem nz_low {a : List UInt8} (h : nz a) : nz (low a) := by
  intro b hb
  simp only [low, List.mem_map] at hb
  obtain ⟨x, hx, rfl⟩ := hb
  exact fun e => h x hx ((lowB_zero x).1 e)

theorem prefix_rev {a b : List UInt8} : a.reverse.map tab <+: b.reverse.map tab ↔ a.length ≤ b.length ∧ (b.drop (b.length - a.length)).map tab = a.map tab := by
  rw [List.map_reverse, List.map_reverse, List.reverse_prefix]
  constructor
  · intro h
    have hl := h.length_le
    simp at hl
    refine ⟨hl, ?_⟩
    rw [List.suffix_iff_eq_drop] at h
    rw [h]
    simp [List.map_drop]
  · rintro ⟨hl, h⟩
    rw [List.suffix_iff_eq_drop]
    rw [← h]
    simp [List.map_drop]
    congr 1
    omega

theorem cov_iff {a b : List UInt8} (ha : nz a) (hb : nz b) : covK (key a) (key b) ↔ suf a b = true := by
  unfold covK suf
  have hd : nz (b.drop (b.length - a.length)) := fun x hx => hb x (List.mem_of_mem_drop hx)
  simp only [Bool.and_eq_true, Bool.or_eq_true, decide_eq_true_eq, beq_iff_eq]
  unfold key
  rw [prefix_rev, map_tab_eq _ _ hd ha, and_assoc, and_assoc]
  refine and_congr_right fun hl => and_congr_right fun he => ?_
  have h1 : (List.map tab a.reverse).getLast? = some 0 ↔ a.head? = some 46 := by
    rw [List.map_reverse, List.getLast?_reverse]
    cases a with
    | nil => simp
    | cons x xs => simp [tab_zero x (ha x (by simp))]
  have h2 : List.map tab a.reverse = List.map tab b.reverse ↔ b.length ≤ a.length := by
    constructor
    · intro h
      have := congrArg List.length h
      simp at this
      omega
    · intro h
      have e : b.length = a.length := by omega
      rw [List.map_reverse, List.map_reverse, (map_tab_eq a b ha hb).2]
      rw [e] at he
      simpa using he.symm
  have h3 : (List.map tab b.reverse)[(List.map tab a.reverse).length]? = some 0 ↔ (b.length ≤ a.length ∧ False) ∨ b[b.length - a.length - 1]? = some 46 ∧ a.length < b.length := by
    rw [List.length_map, List.length_reverse, List.getElem?_map]
    by_cases hlt : a.length < b.length
    · rw [List.getElem?_reverse hlt]
      have hin : b.length - 1 - a.length < b.length := by omega
      rw [show b.length - a.length - 1 = b.length - 1 - a.length by omega, List.getElem?_eq_getElem hin]
      simp [tab_zero _ (hb _ (List.getElem_mem hin)), hlt]
    · rw [List.getElem?_eq_none (by simp; omega)]
      simp [hlt]
  rw [h1, h2, h3]
  constructor
  · rintro (h | h | h | h)
    · exact Or.inl (Or.inl h)
    · exact Or.inl (Or.inr h)
    · exact h.2.elim
    · exact Or.inr h.1
  · rintro ((h | h) | h)
    · exact Or.inl h
    · exact Or.inr (Or.inl h)
    · rcases Nat.lt_or_ge a.length b.length with hlt | hge
      · exact Or.inr (Or.inr (Or.inr ⟨h, hlt⟩))
      · exact Or.inr (Or.inl hge)

/-! What a name has -/
theorem mem_labels (l : List UInt8) : ∀ b ∈ l, b = 46 ∨ ∃ x ∈ labels l, b ∈ x := by
  have key : ∀ n, n ≤ l.length → ∀ b ∈ l.take n, b = 46 ∨ ∃ x ∈ labels (l.take n), b ∈ x := by
    intro n
    induction n with
    | zero => intro _ b hb; simp at hb
    | succ n ih =>
      intro hn b hb
      rw [List.take_succ_eq_append_getElem (by omega)] at hb ⊢
      unfold labels
      rw [labSt_snoc]
      unfold labStep
      by_cases h46 : l[n] = 46
      · rw [if_pos h46]
        rw [List.mem_append, List.mem_singleton] at hb
        rcases hb with hb | rfl
        · rcases ih (by omega) b hb with h | ⟨x, hx, hbx⟩
          · exact Or.inl h
          · unfold labels at hx
            rw [List.mem_append, List.mem_singleton] at hx
            refine Or.inr ⟨x, ?_, hbx⟩
            dsimp only
            rw [List.mem_append, List.mem_append, List.mem_singleton]
            rcases hx with hx | hx
            · exact Or.inl (Or.inl hx)
            · exact Or.inl (Or.inr hx)
        · exact Or.inl h46
      · rw [if_neg h46]
        rw [List.mem_append, List.mem_singleton] at hb
        rcases hb with hb | rfl
        · rcases ih (by omega) b hb with h | ⟨x, hx, hbx⟩
          · exact Or.inl h
          · unfold labels at hx
            rw [List.mem_append, List.mem_singleton] at hx
            rcases hx with hx | rfl
            · exact Or.inr ⟨x, by simp [hx], hbx⟩
            · exact Or.inr ⟨_, by simp; exact Or.inr rfl, by simp [hbx]⟩
        · exact Or.inr ⟨_, by simp; exact Or.inr rfl, by simp⟩
  have := key l.length (Nat.le_refl _)
  rwa [List.take_length] at this

theorem name_bytes {s : List UInt8} (h : nameOk s = true) : ∀ b ∈ s, b = 46 ∨ okB b = true := by
  intro b hb
  rcases mem_labels s b hb with h0 | ⟨x, hx, hbx⟩
  · exact Or.inl h0
  · unfold nameOk at h
    simp only [Bool.and_eq_true, List.all_eq_true] at h
    have := h.1.1 x hx
    unfold labelOk at this
    simp only [Bool.and_eq_true, List.all_eq_true] at this
    exact Or.inr (this.2 b hbx)

theorem name_labels {s : List UInt8} (h : nameOk s = true) : ∀ x ∈ labels s, x ≠ [] := by
  intro x hx
  unfold nameOk at h
  simp only [Bool.and_eq_true, List.all_eq_true] at h
  have := h.1.1 x hx
  unfold labelOk at this
  simp at this
  intro h0
  subst h0
  simp at this

theorem labSt_cons_dot : ∀ (r : List UInt8) (o : List (List UInt8)) (c : List UInt8), ∃ o' c', r.foldl labStep (o ++ [c], []) = (o ++ c :: o', c')
  | [], o, c => ⟨[], [], by simp⟩
  | b :: r, o, c => by
    have gen : ∀ (r : List UInt8) (p : List (List UInt8)) (q : List UInt8), ∃ o' c', r.foldl labStep (p, q) = (p ++ o', c') := by
      intro r
      induction r with
      | nil => intro p q; exact ⟨[], q, by simp⟩
      | cons x xs ih =>
        intro p q
        simp only [List.foldl_cons, labStep]
        split
        · obtain ⟨o', c', h⟩ := ih (p ++ [q]) []
          exact ⟨q :: o', c', by rw [h]; simp⟩
        · exact ih p (q ++ [x])
    obtain ⟨o', c', h⟩ := gen (b :: r) (o ++ [c]) []
    exact ⟨o', c', by rw [h]; simp⟩

theorem name_head {s : List UInt8} (h : nameOk s = true) : s.head? ≠ some 46 := by
  intro h0
  cases s with
  | nil => simp at h0
  | cons b r =>
    simp at h0
    subst h0
    obtain ⟨o', c', he⟩ := labSt_cons_dot r [] []
    have hm : [] ∈ labels (46 :: r) := by
      unfold labels labSt
      simp only [List.foldl_cons, labStep, if_true]
      simp only [List.nil_append] at he ⊢
      rw [he]
      simp
    exact name_labels h _ hm rfl

theorem name_ne {s : List UInt8} (h : nameOk s = true) : s ≠ [] := by
  intro h0
  subst h0
  exact name_labels h [] (by simp [labels, labSt]) rfl

theorem name_nz {s : List UInt8} (h : nameOk s = true) : nz s := by
  intro b hb
  rcases name_bytes h b hb with rfl | hk
  · decide
  · exact (okB_facts b hk).2.2.1

theorem low_drop (l : List UInt8) (n : Nat) : low (l.drop n) = (low l).drop n := by simp [low, List.map_drop]

/-- What a constraint says of a host, and that it covers it, are one: where it is spoken of. -/
theorem uri_cov {c host : List UInt8} (hh : nameOk host = true) (ho : uri c host ≠ 2) : (uri c host = 1 ↔ covK (key c) (key host)) ∧ nz c ∧ c ≠ [] := by
  have hhd := name_head hh
  by_cases hs : subOk c = true
  · have hs' := hs
    unfold subOk at hs'
    simp only [Bool.and_eq_true, decide_eq_true_eq, beq_iff_eq] at hs'
    obtain ⟨⟨hlen, hhead⟩, hname⟩ := hs'
    cases c with
    | nil => simp at hhead
    | cons x d =>
      simp at hhead
      subst hhead
      simp only [List.drop_succ_cons, List.drop_zero] at hname
      have hnz : nz (46 :: d) := by
        intro b hb
        rw [List.mem_cons] at hb
        rcases hb with rfl | hb
        · decide
        · exact name_nz hname b hb
      refine ⟨?_, hnz, by simp⟩
      rw [cov_iff hnz (name_nz hh)]
      unfold uri
      rw [if_pos hs]
      have : (under host d = true) ↔ suf (46 :: d) host = true := by
        unfold under suf same
        simp only [Bool.and_eq_true, Bool.or_eq_true, decide_eq_true_eq, beq_iff_eq, List.length_cons, List.head?_cons, true_or, and_true]
        constructor
        · rintro ⟨⟨h1, h2⟩, h3⟩
          refine ⟨by omega, ?_⟩
          have hin : host.length - (d.length + 1) < host.length := by omega
          rw [List.drop_eq_getElem_cons hin]
          rw [show host.length - d.length - 1 = host.length - (d.length + 1) by omega, List.getElem?_eq_getElem hin] at h2
          injection h2 with h2
          rw [show host.length - (d.length + 1) + 1 = host.length - d.length by omega, h2]
          simp only [low, List.map_cons] at h3 ⊢
          rw [h3]
        · rintro ⟨h1, h2⟩
          have hin : host.length - (d.length + 1) < host.length := by omega
          rw [List.drop_eq_getElem_cons hin] at h2
          simp only [low, List.map_cons, List.cons.injEq] at h2
          have h46 : host[host.length - (d.length + 1)] = 46 := (lowB_dot _).1 h2.1
          have hne : host.length - (d.length + 1) ≠ 0 := by
            intro h0
            apply hhd
            rw [List.head?_eq_getElem?]
            have : host[0]? = host[host.length - (d.length + 1)]? := by rw [h0]
            rw [this, List.getElem?_eq_getElem hin, h46]
          refine ⟨⟨by omega, ?_⟩, ?_⟩
          · rw [show host.length - d.length - 1 = host.length - (d.length + 1) by omega, List.getElem?_eq_getElem hin, h46]
          · simp only [low]
            rw [show host.length - d.length = host.length - (d.length + 1) + 1 by omega]
            exact h2.2
      simp only [List.drop_succ_cons, List.drop_zero]
      rw [← this]
      by_cases hu : under host d = true <;> simp [hu]
  · unfold uri at ho ⊢
    rw [if_neg hs] at ho ⊢
    by_cases hn : nameOk c = true
    · have hnz := name_nz hn
      refine ⟨?_, hnz, name_ne hn⟩
      rw [cov_iff hnz (name_nz hh)]
      by_cases hu : under host c = true
      · simp [hn, hu] at ho
      · simp only [hn, hu, Bool.not_true, Bool.or_self, Bool.false_eq_true, if_false]
        have hchd := name_head hn
        have : same host c = true ↔ suf c host = true := by
          unfold same suf
          simp only [Bool.and_eq_true, Bool.or_eq_true, decide_eq_true_eq, beq_iff_eq]
          constructor
          · intro h
            have hl : host.length = c.length := by
              have := congrArg List.length h
              simpa [low] using this
            refine ⟨⟨by omega, ?_⟩, Or.inl (Or.inr (by omega))⟩
            rw [hl, Nat.sub_self, List.drop_zero, h]
          · rintro ⟨⟨h1, h2⟩, h3⟩
            rcases h3 with (h3 | h3) | h3
            · exact absurd h3 hchd
            · have hl : host.length = c.length := by omega
              rw [hl, Nat.sub_self, List.drop_zero] at h2
              exact h2
            · exfalso
              rcases Nat.lt_or_ge c.length host.length with hlt | hge
              · have hne : host.length - c.length - 1 ≠ 0 := by
                  intro h0
                  rw [h0] at h3
                  apply hhd
                  rw [List.head?_eq_getElem?, h3]
                apply hu
                unfold under same
                simp only [Bool.and_eq_true, decide_eq_true_eq, beq_iff_eq]
                exact ⟨⟨by omega, h3⟩, h2⟩
              · have hne := name_ne hh
                have hpos : 0 < host.length := List.length_pos_iff.2 hne
                rw [show host.length - c.length - 1 = 0 by omega] at h3
                apply hhd
                rw [List.head?_eq_getElem?, h3]
        rw [← this]
        by_cases hu2 : same host c = true <;> simp [hu2]
    · simp [hn] at ho

end Go.Proofs.YtbnelehiieglbaaGreatDoor.Plain

