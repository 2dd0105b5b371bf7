/-
  The plain layer, second part: what strips white space strips it once; on ASCII the package's and the reference's are one; finding the next marker line by line. No program in sight; each theorem says its own conditions.
-/
import Derived.Test.YtmogecodjiofeaaDoorPure
namespace Go.Proofs.YtmogecodjiofeaaDoor.Tx
open Go

/-! ### strings.TrimSpace, by bytes -/
theorem seq_pos : ∀ q ∈ Lib.spaceSeqs, 0 < q.length := by decide
theorem headSpace_zero {l : Bs} : Lib.headSpace l = 0 ↔ ∀ q ∈ Lib.spaceSeqs, ¬ q <+: l := by
  unfold Lib.headSpace
  cases hf : Lib.spaceSeqs.find? (·.isPrefixOf l) with
  | none =>
    simp only [Option.map_none, Option.getD_none, true_iff]
    intro q hq hp
    have := List.find?_eq_none.1 hf q hq
    simp [List.isPrefixOf_iff_prefix, hp] at this
  | some q =>
    have hq : q ∈ Lib.spaceSeqs := List.mem_of_find?_eq_some hf
    have hp : q.isPrefixOf l = true := by simpa using List.find?_some hf
    have h0 := seq_pos q hq
    simp only [Option.map_some, Option.getD_some]
    constructor
    · intro h; omega
    · intro h; exact absurd (List.isPrefixOf_iff_prefix.1 hp) (h q hq)
theorem tailSpace_zero {l : Bs} : Lib.tailSpace l = 0 ↔ ∀ q ∈ Lib.spaceSeqs, ¬ q <:+ l := by
  unfold Lib.tailSpace
  cases hf : Lib.spaceSeqs.find? (·.isSuffixOf l) with
  | none =>
    simp only [Option.map_none, Option.getD_none, true_iff]
    intro q hq hp
    have := List.find?_eq_none.1 hf q hq
    simp [List.isSuffixOf_iff_suffix, hp] at this
  | some q =>
    have hq : q ∈ Lib.spaceSeqs := List.mem_of_find?_eq_some hf
    have hp : q.isSuffixOf l = true := by simpa using List.find?_some hf
    have h0 := seq_pos q hq
    simp only [Option.map_some, Option.getD_some]
    constructor
    · intro h; omega
    · intro h; exact absurd (List.isSuffixOf_iff_suffix.1 hp) (h q hq)
theorem headSpace_prefix {a b : Bs} (h : a <+: b) (hb : Lib.headSpace b = 0) : Lib.headSpace a = 0 :=
  headSpace_zero.2 fun q hq hp => headSpace_zero.1 hb q hq (hp.trans h)
theorem headSpace_empty : Lib.headSpace [] = 0 := by decide
theorem tailSpace_empty : Lib.tailSpace [] = 0 := by decide

theorem stripL_done : ∀ (f : Nat) (l : Bs), l.length ≤ f → Lib.headSpace (Lib.stripL f l) = 0
  | 0, l, h => by
    have : l = [] := List.eq_nil_of_length_eq_zero (by omega)
    subst this
    exact headSpace_empty
  | f + 1, l, h => by
    unfold Lib.stripL
    split
    · assumption
    · exact stripL_done f _ (by rw [List.length_drop]; omega)
theorem stripR_done : ∀ (f : Nat) (l : Bs), l.length ≤ f → Lib.tailSpace (Lib.stripR f l) = 0
  | 0, l, h => by
    have : l = [] := List.eq_nil_of_length_eq_zero (by omega)
    subst this
    exact tailSpace_empty
  | f + 1, l, h => by
    unfold Lib.stripR
    split
    · assumption
    · exact stripR_done f _ (by rw [List.length_take]; omega)
theorem stripL_suffix : ∀ (f : Nat) (l : Bs), Lib.stripL f l <:+ l
  | 0, l => List.suffix_refl l
  | f + 1, l => by
    unfold Lib.stripL
    split
    · exact List.suffix_refl l
    · exact (stripL_suffix f _).trans (List.drop_suffix _ _)
theorem stripR_prefix : ∀ (f : Nat) (l : Bs), Lib.stripR f l <+: l
  | 0, l => List.prefix_refl l
  | f + 1, l => by
    unfold Lib.stripR
    split
    · exact List.prefix_refl l
    · exact (stripR_prefix f _).trans (List.take_prefix _ _)
theorem stripL_stop {f : Nat} {l : Bs} (h : Lib.headSpace l = 0) : Lib.stripL f l = l := by
  cases f with
  | zero => rfl
  | succ f => unfold Lib.stripL; rw [if_pos h]
theorem stripR_stop {f : Nat} {l : Bs} (h : Lib.tailSpace l = 0) : Lib.stripR f l = l := by
  cases f with
  | zero => rfl
  | succ f => unfold Lib.stripR; rw [if_pos h]

theorem trim_eq (l : Bs) : trim l = Lib.stripR l.length (Lib.stripL l.length l) := by
  unfold trim
  rw [← Lib.trimSpaceU_eq]
  rfl
theorem trim_ends (l : Bs) : Lib.headSpace (trim l) = 0 ∧ Lib.tailSpace (trim l) = 0 := by
  rw [trim_eq]
  have h1 := stripL_done l.length l (Nat.le_refl _)
  have hl : (Lib.stripL l.length l).length ≤ l.length := (stripL_suffix l.length l).sublist.length_le
  exact ⟨headSpace_prefix (stripR_prefix _ _) h1, stripR_done _ _ hl⟩
theorem trim_of_ends {l : Bs} (h1 : Lib.headSpace l = 0) (h2 : Lib.tailSpace l = 0) : trim l = l := by
  rw [trim_eq, stripL_stop h1, stripR_stop h2]
theorem trim_trim (l : Bs) : trim (trim l) = trim l := trim_of_ends (trim_ends l).1 (trim_ends l).2
theorem trim_sub (l : Bs) : (trim l).Sublist l := by
  rw [trim_eq]
  exact (stripR_prefix _ _).sublist.trans (stripL_suffix _ _).sublist
theorem trim_length (l : Bs) : (trim l).length ≤ l.length := (trim_sub l).length_le

/-! ### strip: the six blanks of ASCII -/
theorem isSp_seq {b : UInt8} (h : Lib.isSp b = true) : [b] ∈ Lib.spaceSeqs := by
  simp only [Lib.isSp, Bool.or_eq_true, beq_iff_eq] at h
  rcases h with ((((h | h) | h) | h) | h) | h <;> subst h <;> decide
theorem seq_ascii : ∀ q ∈ Lib.spaceSeqs, (∃ b, q = [b] ∧ Lib.isSp b = true) ∨ (∀ b ∈ q, 128 ≤ b.toNat) := by
  intro q hq
  simp only [Lib.spaceSeqs, List.mem_cons, List.not_mem_nil, or_false] at hq
  rcases hq with rfl | rfl | rfl | rfl | rfl | rfl | rfl | rfl | rfl | rfl | rfl | rfl | rfl | rfl | rfl | rfl | rfl | rfl | rfl | rfl | rfl | rfl | rfl | rfl | rfl
  iterate 6 (exact .inl ⟨_, rfl, by decide⟩)
  all_goals (right; decide)

/-- no blank at the ends -/
def Tight (l : Bs) : Prop := (∀ b, l.head? = some b → Lib.isSp b = false) ∧ ∀ b, l.getLast? = some b → Lib.isSp b = false
theorem strip_eq (l : Bs) : strip l = ((l.dropWhile Lib.isSp).reverse.dropWhile Lib.isSp).reverse := rfl
theorem dropWhile_stop {p : UInt8 → Bool} {l : Bs} (h : ∀ b, l.head? = some b → p b = false) : l.dropWhile p = l := by
  cases l with
  | nil => rfl
  | cons b r => rw [List.dropWhile_cons, if_neg (by rw [h b rfl]; decide)]
theorem dropWhile_head {p : UInt8 → Bool} (l : Bs) : ∀ b, (l.dropWhile p).head? = some b → p b = false := by
  intro b hb
  cases h : l.dropWhile p with
  | nil => rw [h] at hb; cases hb
  | cons x r =>
    rw [h] at hb
    simp at hb
    subst hb
    have := List.head_dropWhile_not p (by rw [h]; simp : l.dropWhile p ≠ [])
    simpa [h] using this
theorem strip_of_tight {l : Bs} (h : Tight l) : strip l = l := by
  rw [strip_eq, dropWhile_stop h.1, dropWhile_stop (l := l.reverse) (by intro b hb; rw [List.head?_reverse] at hb; exact h.2 b hb), List.reverse_reverse]
theorem reverse_dropWhile_prefix (p : UInt8 → Bool) (l : Bs) : (l.reverse.dropWhile p).reverse <+: l := by
  have := List.dropWhile_suffix p (l := l.reverse)
  have h2 := List.reverse_prefix.2 this
  simpa using h2
theorem tight_strip (l : Bs) : Tight (strip l) := by
  rw [strip_eq]
  constructor
  · intro b hb
    have hp := reverse_dropWhile_prefix Lib.isSp (l.dropWhile Lib.isSp)
    obtain ⟨t, ht⟩ := hp
    refine dropWhile_head l b ?_
    rw [← ht]
    cases h : ((l.dropWhile Lib.isSp).reverse.dropWhile Lib.isSp).reverse with
    | nil => rw [h] at hb; cases hb
    | cons x r => rw [h] at hb; simpa using hb
  · intro b hb
    rw [List.getLast?_reverse] at hb
    exact dropWhile_head _ b hb
theorem tight_trim (l : Bs) : Tight (trim l) := by
  obtain ⟨h1, h2⟩ := trim_ends l
  constructor
  · intro b hb
    cases hs : Lib.isSp b with
    | false => rfl
    | true =>
      exfalso
      refine headSpace_zero.1 h1 [b] (isSp_seq hs) ?_
      cases hl : trim l with
      | nil => rw [hl] at hb; cases hb
      | cons x r =>
        rw [hl] at hb
        simp at hb
        subst hb
        exact ⟨r, rfl⟩
  · intro b hb
    cases hs : Lib.isSp b with
    | false => rfl
    | true =>
      exfalso
      refine tailSpace_zero.1 h2 [b] (isSp_seq hs) ?_
      have hne : trim l ≠ [] := by intro h0; rw [h0] at hb; cases hb
      obtain ⟨f, g, hg⟩ := snoc_of hne
      rw [hg] at hb ⊢
      simp at hb
      exact ⟨f, by rw [hb]⟩

theorem strip_trim (l : Bs) : strip (trim l) = trim l := strip_of_tight (tight_trim l)
/-- a tight text of ASCII signs stays as it is -/
theorem trim_of_tight {l : Bs} (h : Tight l) (ha : ∀ b ∈ l, b.toNat < 128) : trim l = l := by
  refine trim_of_ends (headSpace_zero.2 fun q hq hp => ?_) (tailSpace_zero.2 fun q hq hp => ?_)
  · have h0 := seq_pos q hq
    rcases seq_ascii q hq with ⟨b, rfl, hb⟩ | hb
    · obtain ⟨t, rfl⟩ := hp
      have := h.1 b (by simp)
      rw [hb] at this
      cases this
    · obtain ⟨b, r, rfl⟩ : ∃ b r, q = b :: r := by cases q with
        | nil => simp at h0
        | cons b r => exact ⟨b, r, rfl⟩
      have h1 := hb b (by simp)
      have h2 := ha b (hp.sublist.mem (by simp))
      omega
  · have h0 := seq_pos q hq
    rcases seq_ascii q hq with ⟨b, rfl, hb⟩ | hb
    · obtain ⟨t, rfl⟩ := hp
      have := h.2 b (by simp)
      rw [hb] at this
      cases this
    · obtain ⟨b, r, rfl⟩ : ∃ b r, q = b :: r := by cases q with
        | nil => simp at h0
        | cons b r => exact ⟨b, r, rfl⟩
      have h1 := hb b (by simp)
      have h2 := ha b (hp.sublist.mem (by simp))
      omega

/-- blanks ahead and behind a tight text of ASCII signs -/
theorem stripL_blank : ∀ (a : Bs) (f : Nat) (l : Bs), (∀ b ∈ a, Lib.isSp b = true) → a.length ≤ f → Lib.stripL f (a ++ l) = Lib.stripL (f - a.length) l
  | [], f, l, _, _ => by simp
  | b :: a, 0, l, _, h => by simp at h
  | b :: a, f + 1, l, ha, h => by
    have hb := ha b (by simp)
    have hh : Lib.headSpace (b :: a ++ l) = 1 := by
      have hne : Lib.headSpace (b :: a ++ l) ≠ 0 := fun h0 => headSpace_zero.1 h0 [b] (isSp_seq hb) ⟨a ++ l, by simp⟩
      unfold Lib.headSpace at hne ⊢
      cases hf : Lib.spaceSeqs.find? (·.isPrefixOf (b :: a ++ l)) with
      | none => rw [hf] at hne; simp at hne
      | some q =>
        have hq : q ∈ Lib.spaceSeqs := List.mem_of_find?_eq_some hf
        have hp : q.isPrefixOf (b :: a ++ l) = true := by simpa using List.find?_some hf
        rcases seq_ascii q hq with ⟨c, rfl, _⟩ | hc
        · rfl
        · exfalso
          have h0 := seq_pos q hq
          obtain ⟨c, r, rfl⟩ : ∃ c r, q = c :: r := by cases q with
            | nil => simp at h0
            | cons c r => exact ⟨c, r, rfl⟩
          obtain ⟨t, ht⟩ := List.isPrefixOf_iff_prefix.1 hp
          simp at ht
          have h1 := hc c (by simp)
          rw [ht.1] at h1
          have := (Lib.isSp_true hb).1
          omega
    rw [Lib.stripL, hh, if_neg (by decide)]
    have e : (b :: a ++ l).drop 1 = a ++ l := by simp
    rw [e, stripL_blank a f l (fun c hc => ha c (by simp [hc])) (by simpa using h)]
    congr 1
    simp
theorem stripR_blank : ∀ (a : Bs) (f : Nat) (l : Bs), (∀ b ∈ a, Lib.isSp b = true) → a.length ≤ f → Lib.stripR f (l ++ a.reverse) = Lib.stripR (f - a.length) l
  | [], f, l, _, _ => by simp
  | b :: a, 0, l, _, h => by simp at h
  | b :: a, f + 1, l, ha, h => by
    have hb := ha b (by simp)
    have hh : Lib.tailSpace (l ++ (b :: a).reverse) = 1 := by
      have hne : Lib.tailSpace (l ++ (b :: a).reverse) ≠ 0 := fun h0 => tailSpace_zero.1 h0 [b] (isSp_seq hb) ⟨l ++ a.reverse, by simp⟩
      unfold Lib.tailSpace at hne ⊢
      cases hf : Lib.spaceSeqs.find? (·.isSuffixOf (l ++ (b :: a).reverse)) with
      | none => rw [hf] at hne; simp at hne
      | some q =>
        have hq : q ∈ Lib.spaceSeqs := List.mem_of_find?_eq_some hf
        have hp : q.isSuffixOf (l ++ (b :: a).reverse) = true := by simpa using List.find?_some hf
        rcases seq_ascii q hq with ⟨c, rfl, _⟩ | hc
        · rfl
        · exfalso
          have h0 := seq_pos q hq
          have hqne : q ≠ [] := by intro e; subst e; simp at h0
          obtain ⟨f, g, rfl⟩ := snoc_of hqne
          obtain ⟨t, ht⟩ := List.isSuffixOf_iff_suffix.1 hp
          have h1 := hc g (by simp)
          have h2 := congrArg List.getLast? ht
          simp at h2
          rw [h2] at h1
          have := (Lib.isSp_true hb).1
          omega
    rw [Lib.stripR, hh, if_neg (by decide)]
    have e : (l ++ (b :: a).reverse).take ((l ++ (b :: a).reverse).length - 1) = l ++ a.reverse := by
      rw [← List.dropLast_eq_take]
      simp only [List.reverse_cons, ← List.append_assoc, List.dropLast_concat]
    rw [e, stripR_blank a f l (fun c hc => ha c (by simp [hc])) (by simpa using h)]
    congr 1
    simp
theorem trim_blank (a n b : Bs) (ha : ∀ c ∈ a, Lib.isSp c = true) (hb : ∀ c ∈ b, Lib.isSp c = true) (hn : Tight n) (hna : ∀ c ∈ n, c.toNat < 128) (hne : n ≠ []) : trim (a ++ n ++ b) = n := by
  have hn' := trim_of_tight hn hna
  rw [trim_eq] at hn'
  have e1 : Lib.headSpace (n ++ b) = 0 := by
    obtain ⟨c, r, rfl⟩ : ∃ c r, n = c :: r := by cases n with
      | nil => exact absurd rfl hne
      | cons c r => exact ⟨c, r, rfl⟩
    refine headSpace_zero.2 fun q hq hp => ?_
    have h0 := seq_pos q hq
    rcases seq_ascii q hq with ⟨x, rfl, hx⟩ | hx
    · obtain ⟨t, ht⟩ := hp
      simp at ht
      have := hn.1 c (by simp)
      rw [← ht.1, hx] at this
      cases this
    · obtain ⟨x, s, rfl⟩ : ∃ x s, q = x :: s := by cases q with
        | nil => simp at h0
        | cons x s => exact ⟨x, s, rfl⟩
      obtain ⟨t, ht⟩ := hp
      simp at ht
      have h1 := hx x (by simp)
      have h2 := hna c (by simp)
      rw [ht.1] at h1
      omega
  have e2 : Lib.tailSpace n = 0 := by
    have := (trim_ends n).2
    rwa [trim_of_tight hn hna] at this
  rw [trim_eq, List.append_assoc, stripL_blank a _ _ ha (by simp), stripL_stop e1]
  have := stripR_blank b.reverse (a ++ (n ++ b)).length n (fun c hc => hb c (by simpa using hc)) (by simp; omega)
  rw [List.reverse_reverse] at this
  rw [this, stripR_stop e2]

/-- on ASCII the two are one -/
theorem dropWhile_split (p : UInt8 → Bool) : ∀ l : Bs, ∃ a, l = a ++ l.dropWhile p ∧ ∀ c ∈ a, p c = true
  | [] => ⟨[], rfl, by simp⟩
  | b :: r => by
    rw [List.dropWhile_cons]
    split
    · rename_i h
      obtain ⟨a, h1, h2⟩ := dropWhile_split p r
      refine ⟨b :: a, by rw [List.cons_append, ← h1], ?_⟩
      intro c hc
      rcases List.mem_cons.1 hc with rfl | hc
      · exact h
      · exact h2 c hc
    · exact ⟨[], rfl, by simp⟩
theorem strip_split (l : Bs) : ∃ a b, l = a ++ strip l ++ b ∧ (∀ c ∈ a, Lib.isSp c = true) ∧ ∀ c ∈ b, Lib.isSp c = true := by
  obtain ⟨a, h1, h2⟩ := dropWhile_split Lib.isSp l
  obtain ⟨b, h3, h4⟩ := dropWhile_split Lib.isSp (l.dropWhile Lib.isSp).reverse
  refine ⟨a, b.reverse, ?_, h2, fun c hc => h4 c (by simpa using hc)⟩
  rw [strip_eq]
  conv => lhs; rw [h1]
  have h5 := congrArg List.reverse h3
  simp only [List.reverse_reverse, List.reverse_append] at h5
  rw [List.append_assoc, ← h5]
theorem trim_ascii {l : Bs} (ha : ∀ b ∈ l, b.toNat < 128) : trim l = strip l := by
  obtain ⟨a, b, h, h1, h2⟩ := strip_split l
  by_cases hne : strip l = []
  · rw [hne]
    have hall : ∀ c ∈ l, Lib.isSp c = true := by
      intro c hc
      rw [h, hne] at hc
      simp at hc
      rcases hc with hc | hc
      · exact h1 c hc
      · exact h2 c hc
    have := stripL_blank l l.length [] hall (Nat.le_refl _)
    rw [List.append_nil] at this
    rw [trim_eq, this, Nat.sub_self]
    simp [Lib.stripL]
    exact stripR_stop tailSpace_empty
  · have hs : ∀ c ∈ strip l, c.toNat < 128 := fun c hc => ha c (by rw [h]; simp [hc])
    conv => lhs; rw [h]
    exact trim_blank a (strip l) b h1 h2 (tight_strip l) hs hne

/-! ### the first line, and the next marker -/
def cutNL : Bs → Bs × Bs
  | [] => ([], [])
  | c :: r => if c = 10 then ([], r) else (c :: (cutNL r).1, (cutNL r).2)
theorem cutNL_free : ∀ d : Bs, (10 : UInt8) ∉ (cutNL d).1
  | [] => by simp [cutNL]
  | c :: r => by
    unfold cutNL
    split
    · simp
    · rename_i h
      simp only [List.mem_cons, not_or]
      exact ⟨fun e => h e.symm, cutNL_free r⟩
theorem cutNL_form : ∀ d : Bs, (d = (cutNL d).1 ∧ (cutNL d).2 = []) ∨ d = (cutNL d).1 ++ 10 :: (cutNL d).2
  | [] => .inl ⟨rfl, rfl⟩
  | c :: r => by
    unfold cutNL
    split
    · rename_i h
      subst h
      exact .inr rfl
    · rcases cutNL_form r with ⟨h1, h2⟩ | h1
      · exact .inl ⟨by simp only; rw [← h1], h2⟩
      · exact .inr (by simp only; rw [List.cons_append, ← h1])
theorem cutNL_drop (d : Bs) : (cutNL d).2 = d.drop ((cutNL d).1.length + 1) := by
  have hf := cutNL_form d
  generalize cutNL d = p at hf ⊢
  rcases hf with ⟨h1, h2⟩ | h1
  · rw [h2, h1, List.drop_eq_nil_of_le (by omega)]
  · have e : p.1 ++ 10 :: p.2 = (p.1 ++ [10]) ++ p.2 := by simp
    rw [h1, e, List.drop_left' (by simp)]
theorem cutNL_line {y : Bs} (h : (10 : UInt8) ∉ y) (r : Bs) : cutNL (y ++ 10 :: r) = (y, r) := by
  induction y with
  | nil => simp [cutNL]
  | cons c y ih =>
    have hc : c ≠ 10 := by rintro rfl; simp at h
    rw [List.cons_append, cutNL, if_neg hc, ih (fun hm => h (List.mem_cons_of_mem _ hm))]
theorem lines_cut {d : Bs} (h : d ≠ []) : lines d = ((cutNL d).1 ++ [10]) :: lines (cutNL d).2 := by
  have hf := cutNL_free d
  have hm := cutNL_form d
  generalize cutNL d = p at hf hm ⊢
  rcases hm with ⟨h1, h2⟩ | h1
  · subst h1
    rw [h2, lines_nil]
    exact lines_single hf h
  · subst h1
    rw [← lines_cons (isLine_mk hf) p.2]
    simp
/-- the name in a text's first line -/
def headName (d : Bs) : Bs := nameWith trim (cutNL d).1
theorem headName_lines {d : Bs} (h : d ≠ []) : ∃ x r, lines d = x :: r ∧ nm x = headName d ∧ r = lines (cutNL d).2 ∧ x = (cutNL d).1 ++ [10] :=
  ⟨_, _, lines_cut h, nmWith_line _ _, rfl, rfl⟩
theorem headName_nil : headName [] = [] := by simp [headName, cutNL, nameWith, isMk]
theorem headName_ne {d : Bs} (h : headName d ≠ []) : d ≠ [] := by
  rintro rfl
  exact h headName_nil

theorem lines_drop : ∀ (a : List Bs) (d : Bs) (r : List Bs), lines d = a ++ r → lines (d.drop a.flatten.length) = r
  | [], d, r, h => by simpa using h
  | x :: a, d, r, h => by
    have hd : d ≠ [] := by
      rintro rfl
      rw [lines_nil] at h
      cases h
    rw [lines_cut hd, List.cons_append] at h
    injection h with h1 h2
    have ih := lines_drop a _ r h2
    rw [cutNL_drop, List.drop_drop] at ih
    have e : (x :: a).flatten.length = (cutNL d).1.length + 1 + a.flatten.length := by
      rw [List.flatten_cons, List.length_append, ← h1, List.length_append, List.length_singleton]
    rw [e]
    exact ih
theorem lines_take : ∀ (a : List Bs) (d : Bs) (r : List Bs), lines d = a ++ r → r ≠ [] → d.take a.flatten.length = a.flatten
  | [], d, r, h, _ => by simp
  | x :: a, d, r, h, hr => by
    have hd : d ≠ [] := by
      rintro rfl
      rw [lines_nil] at h
      cases h
    rw [lines_cut hd, List.cons_append] at h
    injection h with h1 h2
    have ih := lines_take a _ r h2 hr
    have hne : (cutNL d).2 ≠ [] := by
      intro h0
      rw [h0, lines_nil] at h2
      exact hr (List.append_eq_nil_iff.1 h2.symm).2
    rcases cutNL_form d with ⟨_, h4⟩ | h4
    · exact absurd h4 hne
    · have e : d = x ++ (cutNL d).2 := by rw [← h1]; simpa using h4
      conv => lhs; rw [e]
      rw [List.flatten_cons, List.length_append, List.take_length_add_append, ih]

/-- finding, from a place on -/
def findFrom (d : Bs) (i : Nat) : Bs × Bs × Bs :=
  match scan nm (lines (d.drop i)) with
  | none => (ended d, [], [])
  | some (a, x, _) => (d.take (i + a.flatten.length), nm x, d.drop (i + a.flatten.length + x.length))
theorem findFrom_zero (d : Bs) : findFrom d 0 = find nm d := by
  unfold findFrom find
  rw [List.drop_zero]
  cases h : scan nm (lines d) with
  | none => rfl
  | some s =>
    obtain ⟨a, x, r⟩ := s
    obtain ⟨h1, _, _⟩ := scan_some h
    have := lines_take a d (x :: r) h1 (by simp)
    show (d.take (0 + a.flatten.length), nm x, d.drop (0 + a.flatten.length + x.length)) = (a.flatten, nm x, d.drop (a.flatten.length + x.length))
    rw [Nat.zero_add, this]
theorem findFrom_hit (d : Bs) (i : Nat) (h : headName (d.drop i) ≠ []) : findFrom d i = (d.take i, headName (d.drop i), (cutNL (d.drop i)).2) := by
  obtain ⟨x, r, h1, h2, h3, h4⟩ := headName_lines (headName_ne h)
  unfold findFrom
  rw [h1, scan, if_neg (by rw [h2]; exact h)]
  simp only [List.flatten_nil, List.length_nil, Nat.add_zero, h2]
  rw [cutNL_drop, List.drop_drop, h4]
  simp
theorem find_name (d : Bs) : (find nm d).2.1 = [] ↔ scan nm (lines d) = none := by
  unfold find
  cases h : scan nm (lines d) with
  | none => simp
  | some s =>
    obtain ⟨a, x, r⟩ := s
    obtain ⟨_, _, h3⟩ := scan_some h
    simp [h3]

/-- "\n-- " -/
def sep : Bs := [10, 45, 45, 32]
/-- the first place of sub in d -/
def index (sub : Bs) : Bs → Option Nat
  | [] => none
  | c :: r => if sub.isPrefixOf (c :: r) then some 0 else (index sub r).map (· + 1)
theorem index_lt {sub : Bs} : ∀ {d : Bs} {j : Nat}, index sub d = some j → j + sub.length ≤ d.length ∧ sub <+: d.drop j
  | [], j, h => by cases h
  | c :: r, j, h => by
    unfold index at h
    split at h
    · rename_i hp
      simp at h
      subst h
      have hp' := List.isPrefixOf_iff_prefix.1 hp
      exact ⟨by simpa using hp'.length_le, by simpa using hp'⟩
    · cases hi : index sub r with
      | none => simp [hi] at h
      | some k =>
        simp [hi] at h
        subst h
        obtain ⟨h1, h2⟩ := index_lt hi
        exact ⟨by simp; omega, by simpa using h2⟩

theorem pre_line {y : Bs} : pre <+: y ++ [10] → pre <+: y := by
  rintro ⟨t, ht⟩
  rcases List.eq_nil_or_concat t with h | ⟨s, b, h⟩
  · subst h
    exfalso
    have := congrArg List.getLast? ht
    simp [pre] at this
  · subst h
    have h1 : (pre ++ s) ++ [b] = y ++ [10] := by simpa using ht
    have := List.append_inj_left' h1 rfl
    exact ⟨s, this⟩
theorem cutNL_prefix (d : Bs) : (cutNL d).1 <+: d := by
  rcases cutNL_form d with ⟨h1, _⟩ | h1
  · exact ⟨[], by rw [List.append_nil]; exact h1.symm⟩
  · exact ⟨_, h1.symm⟩
theorem not_pre_nm {x : Bs} (hx : IsLine x) (h : ¬ pre <+: x) : nm x = [] := by
  obtain ⟨y, rfl, _⟩ := hx
  show nmWith trim (y ++ [10]) = []
  rw [nmWith_line]
  unfold nameWith
  rw [if_neg]
  intro hm
  simp only [isMk, Bool.and_eq_true] at hm
  exact h ((List.isPrefixOf_iff_prefix.1 hm.1.1).trans ⟨[10], rfl⟩)
theorem linesAcc_head_pre {r x : Bs} {t : List Bs} (h : linesAcc [] r = x :: t) (hp : pre <+: x) : pre <+: r := by
  have hr : r ≠ [] := by
    rintro rfl
    cases h
  have := lines_cut hr
  unfold lines at this
  rw [this] at h
  injection h with h1 _
  subst h1
  exact (pre_line hp).trans (cutNL_prefix r)

theorem sep_cons (c : UInt8) (r : Bs) : sep.isPrefixOf (c :: r) = (c == 10 && pre.isPrefixOf r) := by
  simp only [sep, pre, List.isPrefixOf]
  rw [Bool.beq_comm]
theorem skipAcc : ∀ (r line : Bs), (10 : UInt8) ∉ line →
    (index sep r = none → ∀ x ∈ (linesAcc line r).tail, ¬ pre <+: x) ∧
    ∀ j, index sep r = some j → ∃ A, linesAcc line r = A ++ linesAcc [] (r.drop (j + 1)) ∧ A ≠ [] ∧ A.flatten = line ++ r.take (j + 1) ∧ ∀ x ∈ A.tail, ¬ pre <+: x
  | [], line, _ => by
    constructor
    · intro _ x hx
      unfold linesAcc at hx
      split at hx <;> simp at hx
    · intro j hj
      cases hj
  | c :: r, line, hl => by
    by_cases hc : c = 10
    · subst hc
      obtain ⟨ih1, ih2⟩ := skipAcc r [] (by simp)
      rw [linesAcc, if_pos rfl, index, sep_cons]
      by_cases hp : pre <+: r
      · have hp' : pre.isPrefixOf r = true := List.isPrefixOf_iff_prefix.2 hp
        simp only [hp', beq_self_eq_true, Bool.and_self, if_true]
        constructor
        · intro h; cases h
        · intro j hj
          simp at hj
          subst hj
          exact ⟨[line ++ [10]], by simp, by simp, by simp, by simp⟩
      · have hp' : pre.isPrefixOf r = false := by
          cases h : pre.isPrefixOf r with
          | false => rfl
          | true => exact absurd (List.isPrefixOf_iff_prefix.1 h) hp
        simp only [hp', Bool.and_false, Bool.false_eq_true, if_false]
        have hhead : ∀ x t, linesAcc [] r = x :: t → ¬ pre <+: x := fun x t h hx => hp (linesAcc_head_pre h hx)
        constructor
        · intro h x hx
          have hn : index sep r = none := by simpa using h
          simp only [List.tail_cons] at hx
          cases hlr : linesAcc [] r with
          | nil => rw [hlr] at hx; cases hx
          | cons y t =>
            rw [hlr] at hx
            rcases List.mem_cons.1 hx with rfl | hx
            · exact hhead _ _ hlr
            · exact ih1 hn x (by rw [hlr]; exact hx)
        · intro j hj
          cases hi : index sep r with
          | none => simp [hi] at hj
          | some k =>
            simp [hi] at hj
            subst hj
            obtain ⟨A, h1, h2, h3, h4⟩ := ih2 k hi
            refine ⟨(line ++ [10]) :: A, by rw [h1]; simp, by simp, by simp [h3], ?_⟩
            intro x hx
            simp only [List.tail_cons] at hx
            cases A with
            | nil => cases hx
            | cons y t =>
              rcases List.mem_cons.1 hx with rfl | hx
              · exact hhead _ _ h1
              · exact h4 x hx
    · have hl' : (10 : UInt8) ∉ line ++ [c] := by simp [hl]; exact fun e => hc e.symm
      obtain ⟨ih1, ih2⟩ := skipAcc r (line ++ [c]) hl'
      have hf : (c == 10) = false := by simpa using hc
      rw [linesAcc, if_neg hc, index, sep_cons]
      simp only [hf, Bool.false_and, Bool.false_eq_true, if_false]
      constructor
      · intro h
        exact ih1 (by simpa using h)
      · intro j hj
        cases hi : index sep r with
        | none => simp [hi] at hj
        | some k =>
          simp [hi] at hj
          subst hj
          obtain ⟨A, h1, h2, h3, h4⟩ := ih2 k hi
          exact ⟨A, by rw [h1]; simp, h2, by rw [h3]; simp, h4⟩

/-- no marker in front, and no "\n-- " ahead: none at all -/
theorem find_end (d : Bs) (i : Nat) (h : headName (d.drop i) = []) (hn : index sep (d.drop i) = none) : findFrom d i = (ended d, [], []) := by
  unfold findFrom
  generalize d.drop i = e at h hn
  have : scan nm (lines e) = none := by
    by_cases he : e = []
    · subst he; rfl
    · obtain ⟨x, r, h1, h2, _, _⟩ := headName_lines he
      have hall : ∀ y ∈ lines e, nm y = [] := by
        intro y hy
        have htail := (skipAcc e [] (by simp)).1 hn
        have il := lines_isLine e y hy
        rw [h1] at hy
        rcases List.mem_cons.1 hy with rfl | hy
        · rw [h2, h]
        · refine not_pre_nm il (htail y ?_)
          show y ∈ (lines e).tail
          rw [h1]
          exact hy
      have := scan_bare (lines e) [] hall
      rw [List.append_nil] at this
      rw [this]
      rfl
  rw [this]
/-- no marker in front: the next place to look at -/
theorem find_step (d : Bs) (i j : Nat) (h : headName (d.drop i) = []) (hj : index sep (d.drop i) = some j) : findFrom d i = findFrom d (i + j + 1) := by
  have hlt := (index_lt hj).1
  unfold findFrom
  have e1 : d.drop (i + j + 1) = (d.drop i).drop (j + 1) := by rw [List.drop_drop]; congr 1
  rw [e1]
  have hlen : (d.drop i).length = d.length - i := List.length_drop
  generalize he' : d.drop i = e at h hj hlt hlen e1 ⊢
  have he : e ≠ [] := by
    rintro rfl
    simp [sep] at hlt
  obtain ⟨A, h1, h2, h3, h4⟩ := (skipAcc e [] (by simp)).2 j hj
  change lines e = A ++ lines (e.drop (j + 1)) at h1
  rw [List.nil_append] at h3
  have hall : ∀ y ∈ A, nm y = [] := by
    intro y hy
    have il : IsLine y := lines_isLine e y (by rw [h1]; simp [hy])
    obtain ⟨x, r, g1, g2, _, _⟩ := headName_lines he
    cases A with
    | nil => cases hy
    | cons z t =>
      rw [h1] at g1
      injection g1 with g1 _
      rcases List.mem_cons.1 hy with rfl | hy
      · rw [g1, g2, h]
      · exact not_pre_nm il (h4 y hy)
  rw [h1, scan_bare A _ hall]
  have hA : A.flatten.length = j + 1 := by
    rw [h3, List.length_take]
    simp [sep] at hlt
    omega
  cases scan nm (lines (e.drop (j + 1))) with
  | none => rfl
  | some s =>
    obtain ⟨a, x, r⟩ := s
    simp only [Option.map_some, List.flatten_append, List.length_append, hA]
    have e2 : i + (j + 1 + a.flatten.length) = i + j + 1 + a.flatten.length := by omega
    rw [e2]

/-- reading is finding, one marker behind the other -/
theorem parse_find (d : Bs) : parse d = if (find nm d).2.1 = [] then ((find nm d).1, []) else ((find nm d).1, ((find nm d).2.1, (parse (find nm d).2.2).1) :: (parse (find nm d).2.2).2) := by
  unfold find
  cases h : scan nm (lines d) with
  | none =>
    simp only [if_true]
    exact parse_bare (scan_none h)
  | some s =>
    obtain ⟨a, x, r⟩ := s
    obtain ⟨h1, h2, h3⟩ := scan_some h
    simp only [h3, if_false]
    have h4 : lines d = (a ++ [x]) ++ r := by rw [h1]; simp
    have h5 := lines_drop (a ++ [x]) d r h4
    have h6 : (a ++ [x]).flatten.length = a.flatten.length + x.length := by simp
    rw [h6] at h5
    unfold parse parseWith
    rw [h5, h1, body_bare a _ h2]
    simp only [body, h3, if_false]
    simp
theorem find_shorter {d : Bs} (h : (find nm d).2.1 ≠ []) : (find nm d).2.2.length < d.length := by
  unfold find at h ⊢
  cases hs : scan nm (lines d) with
  | none => rw [hs] at h; exact absurd rfl h
  | some s =>
    obtain ⟨a, x, r⟩ := s
    obtain ⟨h1, _, _⟩ := scan_some hs
    have hd : d ≠ [] := by
      rintro rfl
      rw [lines_nil] at h1
      simp at h1
    have hx : x ≠ [] := (lines_isLine d x (by rw [h1]; simp)).ne
    have h2 := List.length_pos_iff.2 hd
    have h3 := List.length_pos_iff.2 hx
    simp only [List.length_drop]
    omega
end Go.Proofs.YtmogecodjiofeaaDoor.Tx
