/-
  The plain laws: what each statement comes to, over lists of bytes; no program in sight. Each theorem says its own conditions.
-/
import Derived.Test.YtmogecodjiofeaaDoorTrim
namespace Go.Proofs.YtmogecodjiofeaaDoor.Tx
open Go

/-! ### the reference's tests, as Bools -/
def plainLine (x : Bs) : Bool := !(pre.isPrefixOf x) || (x.all (fun c => decide (9 ≤ c.toNat) && decide (c.toNat ≤ 126)) && !(x.getD (x.length - 2) 0 == 13))
def plainL (l : Bs) : Bool := (lines l).all plainLine
def unmarkedL (l : Bs) : Bool := (lines l).all (fun x => (mk x).isEmpty) && plainL l
def namedL (s : Bs) : Bool := s.all (fun c => decide (32 ≤ c.toNat) && decide (c.toNat ≤ 126)) && !s.isEmpty && (strip s == s)
def goodL (a : Bs × List (Bs × Bs)) : Bool := a.2.all (fun f => namedL f.1 && unmarkedL f.2) && unmarkedL a.1
def straightLine (x : Bs) : Bool := (mk x).isEmpty || (x == mkLine (mk x))
def straightL (l : Bs) : Bool := (lines l).all straightLine && (ended l == l) && plainL l

theorem mem_inner {y : Bs} {b : UInt8} (h : b ∈ inner y) : b ∈ y := List.mem_of_mem_drop (List.mem_of_mem_take h)
theorem nmWith_not_pre (f : Bs → Bs) {x : Bs} (h : ¬ pre <+: x) : nmWith f x = [] := by
  unfold nmWith nameWith
  rw [if_neg]
  intro hm
  simp only [isMk, Bool.and_eq_true] at hm
  exact h ((List.isPrefixOf_iff_prefix.1 hm.1.1).trans (List.dropLast_prefix x))
theorem nm_mkLine (n : Bs) : nm (mkLine n) = trim n := nmWith_mkLine trim n
theorem nm_eq_mk {x : Bs} (h : plainLine x = true) : nm x = mk x := by
  unfold plainLine at h
  by_cases hp : pre <+: x
  · have hp' : pre.isPrefixOf x = true := List.isPrefixOf_iff_prefix.2 hp
    rw [hp'] at h
    simp only [Bool.not_true, Bool.false_or, Bool.and_eq_true, List.all_eq_true, decide_eq_true_eq] at h
    show nameWith trim x.dropLast = nameWith strip x.dropLast
    unfold nameWith
    split
    · refine trim_ascii fun b hb => ?_
      have := h.1 b (List.dropLast_subset x (mem_inner hb))
      omega
    · rfl
  · exact (nmWith_not_pre trim hp).trans (nmWith_not_pre strip hp).symm
theorem plain_nm {l : Bs} (h : plainL l = true) : ∀ x ∈ lines l, nm x = mk x := fun x hx => nm_eq_mk (List.all_eq_true.1 h x hx)

theorem law_exactParse {l : Bs} (h : plainL l = true) : parse l = parseWith mk l := body_congr _ (plain_nm h)

theorem bare_of_unmarked {l : Bs} (h : unmarkedL l = true) : Bare nm l := by
  intro x hx
  simp only [unmarkedL, Bool.and_eq_true, List.all_eq_true] at h
  rw [plain_nm h.2 x hx]
  simpa using h.1 x hx
theorem law_parseComment {l : Bs} (h : unmarkedL l = true) : parse l = (ended l, []) := parse_bare (bare_of_unmarked h)

theorem named_parts {s : Bs} (h : namedL s = true) : s ≠ [] ∧ (10 : UInt8) ∉ s ∧ Tight s ∧ ∀ b ∈ s, b.toNat < 128 := by
  simp only [namedL, Bool.and_eq_true, List.all_eq_true, decide_eq_true_eq, beq_iff_eq] at h
  obtain ⟨⟨h1, h2⟩, h3⟩ := h
  refine ⟨by rintro rfl; simp at h2, ?_, by rw [← h3]; exact tight_strip s, fun b hb => by have := h1 b hb; omega⟩
  intro hm
  have := h1 10 hm
  simp at this
theorem trim_named {s : Bs} (h : namedL s = true) : trim s = s := trim_of_tight (named_parts h).2.2.1 (named_parts h).2.2.2
theorem fit_of_good {f : Bs × Bs} (h1 : namedL f.1 = true) (h2 : unmarkedL f.2 = true) : Fit nm f :=
  ⟨(named_parts h1).1, (named_parts h1).2.1, by rw [nm_mkLine, trim_named h1], bare_of_unmarked h2⟩
theorem law_parseFormat {a : Bs × List (Bs × Bs)} (h : goodL a = true) : parse (format a) = closed a := by
  simp only [goodL, Bool.and_eq_true, List.all_eq_true] at h
  exact parse_format (bare_of_unmarked h.2) fun f hf => fit_of_good (h.1 f hf).1 (h.1 f hf).2

theorem nm_free {x : Bs} (hx : IsLine x) : (10 : UInt8) ∉ nm x := by
  intro hm
  obtain ⟨y, rfl, hy⟩ := hx
  change 10 ∈ nmWith trim (y ++ [10]) at hm
  rw [nmWith_line] at hm
  unfold nameWith at hm
  split at hm
  · exact hy (mem_inner ((trim_sub _).mem hm))
  · cases hm
theorem trim_nm (x : Bs) : trim (nm x) = nm x := by
  show trim (nameWith trim x.dropLast) = nameWith trim x.dropLast
  unfold nameWith
  split
  · exact trim_trim _
  · exact trim_of_ends headSpace_empty tailSpace_empty
theorem fit_of_parsed {l : Bs} : ∀ f ∈ (parse l).2, Fit nm f := by
  intro f hf
  obtain ⟨h1, ⟨x, h2, h3⟩, _, h5⟩ := (parse_ok nm l).2.2 f hf
  refine ⟨h1, ?_, ?_, h5⟩
  · rw [h3]; exact nm_free (lines_isLine l x h2)
  · rw [nm_mkLine, h3]; exact trim_nm x
theorem law_formatParse (l : Bs) : parse (format (parse l)) = parse l := by
  obtain ⟨h1, h2, h3⟩ := parse_ok nm l
  have := parse_format h2 (fit_of_parsed (l := l))
  rw [closed_of_ended h1 fun f hf => (h3 f hf).2.2.1] at this
  exact this

theorem law_formatStraight {l : Bs} (h : straightL l = true) : format (parse l) = l := by
  simp only [straightL, Bool.and_eq_true, List.all_eq_true, beq_iff_eq] at h
  obtain ⟨⟨h1, h2⟩, h3⟩ := h
  have := format_body (nm := nm) (lines l) (lines_isLine l) (fun x hx hn => by
    rw [plain_nm h3 x hx] at hn ⊢
    have := h1 x hx
    simp only [straightLine, Bool.or_eq_true, List.isEmpty_iff, beq_iff_eq] at this
    exact this.resolve_left hn)
  rw [lines_flatten, h2] at this
  exact this

theorem body_marker {nm : Bs → Bs} (A : List Bs) (m : Bs) (B : List Bs) (hm : nm m ≠ []) :
    body nm (A ++ m :: B) = ((body nm A).1, (body nm A).2 ++ (nm m, (body nm B).1) :: (body nm B).2) := by
  have e : body nm (m :: B) = ([], (nm m, (body nm B).1) :: (body nm B).2) := by
    simp only [body]
    rw [if_neg hm]
  rw [body_append, e]
  by_cases h : (body nm A).2 = []
  · simp [h]
  · obtain ⟨f, g, hg⟩ := snoc_of h
    simp [hg]
theorem law_parseJoin {a n b : Bs} (ha : ended a = a) (hn : namedL n = true) :
    parse (a ++ mkLine n ++ b) = ((parse a).1, (parse a).2 ++ (n, (parse b).1) :: (parse b).2) := by
  have h1 := trim_named hn
  have hm : nm (mkLine n) = n := by rw [nm_mkLine, h1]
  unfold parse parseWith
  rw [List.append_assoc, lines_append ha, lines_cons (isMk_mkLine_line (named_parts hn).2.1), body_marker _ _ _ (by rw [hm]; exact (named_parts hn).1), hm]

theorem law_parseNewline {l : Bs} (h : l ≠ []) (hn : l.getLast? ≠ some 10) : parse (l ++ [10]) = parse l := by
  unfold parse parseWith
  rw [lines_snoc l h hn]

theorem trim_between {a n b : Bs} (ha : ∀ c ∈ a, Lib.isSp c = true) (hb : ∀ c ∈ b, Lib.isSp c = true) (hn : namedL n = true) : trim (a ++ n ++ b) = n :=
  trim_blank a n b ha hb (named_parts hn).2.2.1 (named_parts hn).2.2.2 (named_parts hn).1
theorem law_parseMarker {a n b t : Bs} (ha : ∀ c ∈ a, Lib.isSp c = true) (hb : ∀ c ∈ b, Lib.isSp c = true) (ha' : (10 : UInt8) ∉ a) (hb' : (10 : UInt8) ∉ b) (hn : namedL n = true) (ht : unmarkedL t = true) :
    parse (mkLine (a ++ n ++ b) ++ t) = ([], [(n, ended t)]) := by
  have hm : nm (mkLine (a ++ n ++ b)) = n := by rw [nm_mkLine, trim_between ha hb hn]
  have hl : IsLine (mkLine (a ++ n ++ b)) := isMk_mkLine_line (by simp [ha', hb', (named_parts hn).2.1])
  have hp := law_parseComment ht
  unfold parse parseWith at hp ⊢
  rw [lines_cons hl]
  simp only [body]
  rw [hm, if_neg (named_parts hn).1, hp]
theorem law_isMarker {a n b t : Bs} (ha : ∀ c ∈ a, Lib.isSp c = true) (hb : ∀ c ∈ b, Lib.isSp c = true) (ha' : (10 : UInt8) ∉ a) (hb' : (10 : UInt8) ∉ b) (hn : namedL n = true) :
    headName (mkLine (a ++ n ++ b) ++ t) = n ∧ (cutNL (mkLine (a ++ n ++ b) ++ t)).2 = t := by
  have hf : (10 : UInt8) ∉ pre ++ (a ++ n ++ b) ++ suf := by simp [pre, suf, ha', hb', (named_parts hn).2.1]
  have e : mkLine (a ++ n ++ b) ++ t = (pre ++ (a ++ n ++ b) ++ suf) ++ 10 :: t := by simp [mkLine]
  unfold headName
  rw [e, cutNL_line hf, nameWith_mk]
  exact ⟨trim_between ha hb hn, rfl⟩
theorem law_isMarkerNot {l : Bs} (h : ¬ pre <+: l) : headName l = [] := by
  unfold headName nameWith
  rw [if_neg]
  intro hm
  simp only [isMk, Bool.and_eq_true] at hm
  exact h ((List.isPrefixOf_iff_prefix.1 hm.1.1).trans (cutNL_prefix l))

theorem law_parseNoMarker {l : Bs} (h0 : l ≠ []) (h1 : (10 : UInt8) ∉ l) (h2 : ¬ (pre <+: l ∧ suf <:+ l)) : parse l = (l ++ [10], []) := by
  have hb : Bare nm l := by
    intro x hx
    rw [lines_single h1 h0] at hx
    simp at hx
    subst hx
    show nmWith trim (l ++ [10]) = []
    rw [nmWith_line]
    unfold nameWith
    rw [if_neg]
    intro hm
    simp only [isMk, Bool.and_eq_true] at hm
    exact h2 ⟨List.isPrefixOf_iff_prefix.1 hm.1.1, List.isSuffixOf_iff_suffix.1 hm.1.2⟩
  have := parse_bare hb
  unfold parse
  rw [this]
  have e : ended l = l ++ [10] := by
    unfold ended
    rw [if_neg h0, if_neg]
    intro hl
    exact h1 (List.mem_of_getLast? hl)
  rw [e]

theorem law_parseNames (l : Bs) : ∀ f ∈ (parse l).2, f.1 ≠ [] ∧ strip f.1 = f.1 ∧ (10 : UInt8) ∉ f.1 := by
  intro f hf
  obtain ⟨h1, ⟨x, h2, h3⟩, _, _⟩ := (parse_ok nm l).2.2 f hf
  refine ⟨h1, ?_, by rw [h3]; exact nm_free (lines_isLine l x h2)⟩
  rw [h3, ← trim_nm x, strip_trim]
theorem law_parseEnds (l : Bs) : ended (parse l).1 = (parse l).1 ∧ ∀ f ∈ (parse l).2, ended f.2 = f.2 :=
  ⟨(parse_ok nm l).1, fun f hf => ((parse_ok nm l).2.2 f hf).2.2.1⟩
theorem nm_length {x : Bs} : (nm x).length + 6 ≤ x.length ∨ nm x = [] := by
  show (nameWith trim x.dropLast).length + 6 ≤ x.length ∨ nameWith trim x.dropLast = []
  unfold nameWith
  split
  · rename_i h
    left
    simp only [isMk, Bool.and_eq_true, decide_eq_true_eq] at h
    have h1 := trim_length (inner x.dropLast)
    have h2 : (inner x.dropLast).length ≤ x.dropLast.length - 6 := by
      unfold inner
      exact List.length_take_le _ _
    have h3 : x.dropLast.length = x.length - 1 := List.length_dropLast
    omega
  · exact .inr rfl
theorem law_parseSize (l : Bs) : (parse l).1.length + ((parse l).2.map fun f => f.2.length + f.1.length + 6).sum ≤ l.length + 1 := by
  have := body_size nm (lines l) (fun x _ => nm_length)
  rw [lines_flatten] at this
  exact Nat.le_trans this (ended_length l)
theorem law_parseCount {l : Bs} (h : plainL l = true) : (parse l).2.length = ((lines l).filter fun x => !(mk x).isEmpty).length := by
  unfold parse parseWith
  rw [body_count]
  congr 1
  exact List.filter_congr fun x hx => by rw [plain_nm h x hx]
theorem law_parseLines {l : Bs} (h : plainL l = true) : (parse l).1 ++ ((parse l).2.map (·.2)).flatten = ((lines l).filter fun x => (mk x).isEmpty).flatten := by
  unfold parse parseWith
  rw [body_others]
  congr 1
  exact List.filter_congr fun x hx => by rw [plain_nm h x hx]
theorem law_parsePart (l : Bs) (n : Nat) : Part (parse ((lines l).take n).flatten) (parse l) := by
  have := body_part nm (lines l) n
  unfold parse parseWith
  rw [lines_of_flatten fun x hx => lines_isLine l x (List.mem_of_mem_take hx)]
  exact this
theorem scan_congr {n m : Bs → Bs} : ∀ (ls : List Bs), (∀ x ∈ ls, n x = m x) → scan n ls = scan m ls
  | [], _ => rfl
  | l :: r, h => by
    unfold scan
    rw [h l (by simp), scan_congr r (fun x hx => h x (by simp [hx]))]
theorem law_exactFind {l : Bs} (h : plainL l = true) : find nm l = find mk l := by
  unfold find
  rw [scan_congr _ (plain_nm h)]
  cases hs : scan mk (lines l) with
  | none => rfl
  | some s =>
    obtain ⟨a, x, r⟩ := s
    obtain ⟨h1, _, _⟩ := scan_some hs
    simp only [plain_nm h x (by rw [h1]; simp)]

/-! ### the two constants -/
theorem named_a : namedL [97] = true := by decide
theorem law_reads : parse [45, 45, 32, 97, 32, 45, 45, 10, 98, 10] = ([], [([97], [98, 10])]) := by
  have := law_parseMarker (a := []) (n := [97]) (b := []) (t := [98, 10]) (by simp) (by simp) (by simp) (by simp) named_a (by decide)
  simpa [mkLine, pre, suf, ended] using this
theorem law_writes : format ([99, 10], []) = [99, 10] := by decide

/-! ### sizes of what is written -/
theorem format_length_le (a : Bs × List (Bs × Bs)) : (format a).length ≤ a.1.length + 1 + (a.2.map fun f => f.1.length + f.2.length + 8).sum := by
  obtain ⟨c, fs⟩ := a
  unfold format
  simp only [List.length_append]
  have h1 := ended_length c
  have h2 : ∀ fs : List (Bs × Bs), (fs.map fmtFile).flatten.length ≤ (fs.map fun f => f.1.length + f.2.length + 8).sum := by
    intro fs
    induction fs with
    | nil => simp
    | cons f r ih =>
      simp only [List.map_cons, List.flatten_cons, List.length_append, List.sum_cons]
      have h3 := ended_length f.2
      have h4 := mkLine_length f.1
      have h5 : (fmtFile f).length = (mkLine f.1).length + (ended f.2).length := by rw [fmtFile, List.length_append]
      omega
  have := h2 fs
  omega
theorem body_files_le (nm : Bs → Bs) : ∀ ls : List Bs, (body nm ls).2.length ≤ ls.length
  | [] => Nat.le_refl _
  | l :: r => by
    have := body_files_le nm r
    simp only [body]
    split <;> simp <;> omega
theorem lines_count (l : Bs) : (lines l).length ≤ l.length := by
  have : ∀ (l line : Bs), (linesAcc line l).length ≤ l.length + (if line = [] then 0 else 1) := by
    intro l
    induction l with
    | nil => intro line; unfold linesAcc; split <;> simp
    | cons c r ih =>
      intro line
      unfold linesAcc
      split
      · have := ih []
        simp at this ⊢
        split <;> omega
      · have := ih (line ++ [c])
        simp at this ⊢
        split <;> omega
  have h := this l []
  simp only [if_true, Nat.add_zero] at h
  exact h
theorem files_count (l : Bs) : (parse l).2.length ≤ l.length := Nat.le_trans (body_files_le nm (lines l)) (lines_count l)
theorem format_take {c : Bs} {fs : List (Bs × Bs)} {k : Nat} (hk : k < fs.length) : format (c, fs.take (k + 1)) = format (c, fs.take k) ++ (mkLine fs[k].1 ++ ended fs[k].2) := by
  rw [List.take_succ_eq_append_getElem hk]
  unfold format
  rw [List.map_append, List.flatten_append, List.append_assoc]
  simp [fmtFile]
theorem format_take_le (c : Bs) (fs : List (Bs × Bs)) (k : Nat) : (format (c, fs.take k)).length ≤ (format (c, fs)).length := by
  have : format (c, fs) = format (c, fs.take k) ++ format ([], fs.drop k) := by
    rw [← format_join, List.take_append_drop]
  rw [this, List.length_append]
  omega
end Go.Proofs.YtmogecodjiofeaaDoor.Tx
