/-
  The plain layer: text archives as lists of bytes; no program in sight. Lines, markers, reading and writing, and the laws that the statements lean on. No condition: each theorem says its own.
-/
import Derived.Lib.SpaceUEq
import Derived.Lib.Space
namespace Go.Proofs.YtmogecodjiofeaaDoor.Tx
open Go

abbrev Bs := List UInt8

/-! ### ends and lines -/
def ended (l : Bs) : Bs := if l = [] then [] else if l.getLast? = some 10 then l else l ++ [10]

def linesAcc : Bs → Bs → List Bs
  | line, [] => if line = [] then [] else [line ++ [10]]
  | line, c :: r => if c = 10 then (line ++ [10]) :: linesAcc [] r else linesAcc (line ++ [c]) r
def lines (l : Bs) : List Bs := linesAcc [] l

def IsLine (x : Bs) : Prop := ∃ y, x = y ++ [10] ∧ (10 : UInt8) ∉ y

theorem IsLine.ne {x : Bs} (h : IsLine x) : x ≠ [] := by
  obtain ⟨y, rfl, _⟩ := h
  simp
theorem IsLine.last {x : Bs} (h : IsLine x) : x.getLast? = some 10 := by
  obtain ⟨y, rfl, _⟩ := h
  simp
theorem IsLine.dropLast {x : Bs} (h : IsLine x) : x = x.dropLast ++ [10] ∧ (10 : UInt8) ∉ x.dropLast := by
  obtain ⟨y, rfl, hy⟩ := h
  simpa using hy
theorem isLine_mk {y : Bs} (h : (10 : UInt8) ∉ y) : IsLine (y ++ [10]) := ⟨y, rfl, h⟩

theorem linesAcc_isLine : ∀ (l line : Bs), (10 : UInt8) ∉ line → ∀ x ∈ linesAcc line l, IsLine x
  | [], line, h, x, hx => by
    unfold linesAcc at hx
    split at hx
    · cases hx
    · simp at hx
      subst hx
      exact ⟨line, rfl, h⟩
  | c :: r, line, h, x, hx => by
    unfold linesAcc at hx
    split at hx
    · rcases List.mem_cons.1 hx with rfl | hx
      · exact ⟨line, rfl, h⟩
      · exact linesAcc_isLine r [] (by simp) x hx
    · rename_i hc
      exact linesAcc_isLine r (line ++ [c]) (by simp [h]; exact fun e => hc e.symm) x hx
theorem lines_isLine (l : Bs) : ∀ x ∈ lines l, IsLine x := linesAcc_isLine l [] (by simp)

theorem ended_nil : ended [] = [] := rfl
theorem ended_snoc (l : Bs) : ended (l ++ [10]) = l ++ [10] := by simp [ended]
theorem ended_of_last {l : Bs} (h : l.getLast? = some 10) : ended l = l := by
  unfold ended
  split
  · rename_i e; exact e.symm
  · simp
theorem getLast_app (a : Bs) {b : Bs} (hb : b ≠ []) : (a ++ b).getLast? = b.getLast? := by
  rw [List.getLast?_append]
  cases h : b.getLast? with
  | none => exact absurd (List.getLast?_eq_none_iff.1 h) hb
  | some x => rfl
theorem snoc_of {α : Type} {l : List α} (h : l ≠ []) : ∃ f g, l = f ++ [g] := ⟨l.dropLast, l.getLast h, (List.dropLast_concat_getLast h).symm⟩
theorem ended_append_last (a : Bs) {b : Bs} (hb : b ≠ []) : ended (a ++ b) = a ++ ended b := by
  unfold ended
  rw [if_neg (by simp [hb]), if_neg hb, getLast_app a hb]
  split <;> simp
theorem ended_ended (l : Bs) : ended (ended l) = ended l := by
  unfold ended
  split
  · simp
  · split
    · simp_all
    · simp
theorem ended_ne {l : Bs} (h : l ≠ []) : ended l ≠ [] := by
  unfold ended
  rw [if_neg h]
  split
  · exact h
  · simp
theorem ended_eq_nil {l : Bs} : ended l = [] ↔ l = [] := ⟨fun h => Classical.byContradiction fun hn => ended_ne hn h, fun h => by subst h; rfl⟩
theorem ended_length (l : Bs) : (ended l).length ≤ l.length + 1 := by
  unfold ended
  split
  · simp
  · split <;> simp

theorem linesAcc_flatten : ∀ (l line : Bs), (linesAcc line l).flatten = if l = [] then (if line = [] then [] else line ++ [10]) else ended (line ++ l)
  | [], line => by
    unfold linesAcc
    by_cases h : line = [] <;> simp [h]
  | c :: r, line => by
    unfold linesAcc
    rw [if_neg (List.cons_ne_nil c r)]
    split
    · rename_i hc
      subst hc
      rw [List.flatten_cons, linesAcc_flatten r []]
      by_cases hr : r = []
      · subst hr
        simp [ended]
      · have : line ++ 10 :: r = (line ++ [10]) ++ r := by simp
        rw [if_neg hr, this, ended_append_last (line ++ [10]) hr]
        simp
    · rename_i hc
      rw [linesAcc_flatten r (line ++ [c])]
      by_cases hr : r = []
      · subst hr
        rw [if_pos rfl, if_neg (by simp)]
        unfold ended
        rw [if_neg (by simp), if_neg (by simp [hc])]
      · rw [if_neg hr]
        simp
theorem lines_flatten (l : Bs) : (lines l).flatten = ended l := by
  unfold lines
  rw [linesAcc_flatten]
  split
  · rename_i h; subst h; rfl
  · simp

theorem linesAcc_line : ∀ (y line r : Bs), (10 : UInt8) ∉ y → linesAcc line (y ++ 10 :: r) = (line ++ y ++ [10]) :: linesAcc [] r
  | [], line, r, _ => by simp [linesAcc]
  | c :: y, line, r, h => by
    have hc : c ≠ 10 := by rintro rfl; simp at h
    have hy : (10 : UInt8) ∉ y := fun hm => h (List.mem_cons_of_mem _ hm)
    rw [List.cons_append, linesAcc, if_neg hc, linesAcc_line y _ r hy]
    simp
theorem linesAcc_end : ∀ (y line : Bs), (10 : UInt8) ∉ y → linesAcc line y = if line ++ y = [] then [] else [line ++ y ++ [10]]
  | [], line, _ => by simp [linesAcc]
  | c :: y, line, h => by
    have hc : c ≠ 10 := by rintro rfl; simp at h
    have hy : (10 : UInt8) ∉ y := fun hm => h (List.mem_cons_of_mem _ hm)
    rw [linesAcc, if_neg hc, linesAcc_end y _ hy]
    simp
theorem lines_nil : lines [] = [] := rfl
theorem lines_single {y : Bs} (h : (10 : UInt8) ∉ y) (hn : y ≠ []) : lines y = [y ++ [10]] := by
  unfold lines
  rw [linesAcc_end y [] h]
  simp [hn]
theorem lines_cons {x : Bs} (h : IsLine x) (t : Bs) : lines (x ++ t) = x :: lines t := by
  obtain ⟨y, rfl, hy⟩ := h
  unfold lines
  have : y ++ [10] ++ t = y ++ 10 :: t := by simp
  rw [this, linesAcc_line y [] t hy]
  simp
theorem lines_flatten_append : ∀ (ls : List Bs) (t : Bs), (∀ x ∈ ls, IsLine x) → lines (ls.flatten ++ t) = ls ++ lines t
  | [], t, _ => by simp
  | x :: r, t, h => by
    rw [List.flatten_cons, List.append_assoc, lines_cons (h x (by simp)), lines_flatten_append r t (fun y hy => h y (by simp [hy]))]
    rfl
theorem lines_of_flatten {ls : List Bs} (h : ∀ x ∈ ls, IsLine x) : lines ls.flatten = ls := by
  have := lines_flatten_append ls [] h
  simpa [lines_nil] using this
theorem lines_ended (l : Bs) : lines (ended l) = lines l := by
  rw [← lines_flatten, lines_of_flatten (lines_isLine l)]
theorem lines_append {a : Bs} (h : ended a = a) (b : Bs) : lines (a ++ b) = lines a ++ lines b := by
  have e : a = (lines a).flatten := by rw [lines_flatten, h]
  conv => lhs; rw [e]
  rw [lines_flatten_append _ _ (lines_isLine a)]
theorem ended_flatten {ls : List Bs} (h : ∀ x ∈ ls, IsLine x) : ended ls.flatten = ls.flatten := by
  have := lines_flatten ls.flatten
  rw [lines_of_flatten h] at this
  exact this.symm
theorem lines_eq_nil {l : Bs} : lines l = [] ↔ l = [] := by
  constructor
  · intro h
    have := lines_flatten l
    rw [h] at this
    exact ended_eq_nil.1 this.symm
  · intro h; subst h; rfl
/-- a missing newline at the end -/
theorem lines_snoc (l : Bs) (h : l ≠ []) (hn : l.getLast? ≠ some 10) : lines (l ++ [10]) = lines l := by
  have : ended l = l ++ [10] := by simp [ended, h, hn]
  rw [← this, lines_ended]

/-! ### markers -/
def pre : Bs := [45, 45, 32]
def suf : Bs := [32, 45, 45]
def isMk (x : Bs) : Bool := pre.isPrefixOf x && suf.isSuffixOf x && decide (6 ≤ x.length)
def inner (x : Bs) : Bs := (x.drop 3).take (x.length - 6)
/-- the name in a line without its newline; f strips the white space -/
def nameWith (f : Bs → Bs) (x : Bs) : Bs := if isMk x then f (inner x) else []
/-- .. in a line with its newline -/
def nmWith (f : Bs → Bs) (l : Bs) : Bs := nameWith f l.dropLast
def trim (l : Bs) : Bs := Lib.trimSpaceD l
def strip (l : Bs) : Bs := Lib.trimSpace l
/-- what the package reads -/
abbrev nm : Bs → Bs := nmWith trim
/-- what the reference reads -/
abbrev mk : Bs → Bs := nmWith strip
/-- the line of a name -/
def mkLine (n : Bs) : Bs := pre ++ n ++ suf ++ [10]

theorem nmWith_line (f : Bs → Bs) (y : Bs) : nmWith f (y ++ [10]) = nameWith f y := by simp [nmWith]
theorem inner_mk (n : Bs) : inner (pre ++ n ++ suf) = n := by
  simp [inner, pre, suf]
theorem isMk_mk (n : Bs) : isMk (pre ++ n ++ suf) = true := by
  simp [isMk, pre, suf]
  exact ⟨[45, 45, 32] ++ n, by simp⟩
theorem nameWith_mk (f : Bs → Bs) (n : Bs) : nameWith f (pre ++ n ++ suf) = f n := by rw [nameWith, isMk_mk, inner_mk]; rfl
theorem nmWith_mkLine (f : Bs → Bs) (n : Bs) : nmWith f (mkLine n) = f n := by rw [mkLine, nmWith_line, nameWith_mk]
theorem isMk_form {x : Bs} (h : isMk x = true) : x = pre ++ inner x ++ suf := by
  simp only [isMk, Bool.and_eq_true, decide_eq_true_eq] at h
  obtain ⟨⟨h1, h2⟩, h3⟩ := h
  obtain ⟨t, rfl⟩ := List.isPrefixOf_iff_prefix.1 h1
  obtain ⟨s, hs⟩ := List.isSuffixOf_iff_suffix.1 h2
  have hl := congrArg List.length hs
  simp [pre, suf] at hl h3
  have h4 : s = (pre ++ t).take (t.length) := by
    rw [← hs, List.take_append_of_le_length (by omega), List.take_of_length_le (by omega)]
  have h5 : pre ++ t = pre ++ t.take (t.length - 3) ++ suf := by
    rw [← hs, h4]
    simp [pre]
    obtain ⟨k, hk⟩ : ∃ k, t.length = k + 3 := ⟨t.length - 3, by omega⟩
    rw [hk]
    simp
  rw [h5, inner_mk]
theorem isMk_mkLine_line {n : Bs} (h : (10 : UInt8) ∉ n) : IsLine (mkLine n) := ⟨pre ++ n ++ suf, rfl, by simp [pre, suf, h]⟩
theorem mkLine_length (n : Bs) : (mkLine n).length = n.length + 7 := by simp [mkLine, pre, suf]

/-! ### reading -/
def body (nm : Bs → Bs) : List Bs → Bs × List (Bs × Bs)
  | [] => ([], [])
  | l :: r => if nm l = [] then (l ++ (body nm r).1, (body nm r).2) else ([], (nm l, (body nm r).1) :: (body nm r).2)
def parseWith (nm : Bs → Bs) (l : Bs) : Bs × List (Bs × Bs) := body nm (lines l)
def parse (l : Bs) : Bs × List (Bs × Bs) := parseWith nm l

/-- what stands ahead of the first marker goes on; else the last file does -/
theorem body_append (nm : Bs → Bs) : ∀ (a b : List Bs), body nm (a ++ b) =
    if (body nm a).2 = [] then ((body nm a).1 ++ (body nm b).1, (body nm b).2)
    else ((body nm a).1, (body nm a).2.dropLast ++ ((body nm a).2.getLast?.map fun f => (f.1, f.2 ++ (body nm b).1)).toList ++ (body nm b).2)
  | [], b => by simp [body]
  | l :: a, b => by
    rw [List.cons_append]
    simp only [body]
    rw [body_append nm a b]
    by_cases hl : nm l = []
    · simp only [hl, if_true]
      by_cases h : (body nm a).2 = []
      · simp [h]
      · simp [h]
    · simp only [hl, if_false]
      by_cases h : (body nm a).2 = []
      · simp [h]
      · simp only [h, if_false]
        obtain ⟨f, g, hg⟩ : ∃ f g, (body nm a).2 = f ++ [g] := snoc_of h
        rw [hg]
        have e : ∀ p : Bs × Bs, (p :: (f ++ [g])).dropLast = p :: f := fun p => by
          rw [← List.cons_append, List.dropLast_concat]
        have e2 : ∀ p : Bs × Bs, (p :: (f ++ [g])).getLast? = some g := fun p => by
          rw [← List.cons_append, List.getLast?_append]; rfl
        simp [e, e2]

/-- the files that a state of reading has, with one line more -/
def push (nm : Bs → Bs) (s : Bs × List (Bs × Bs)) (l : Bs) : Bs × List (Bs × Bs) :=
  if nm l = [] then (if s.2 = [] then (s.1 ++ l, []) else (s.1, s.2.dropLast ++ (s.2.getLast?.map fun f => (f.1, f.2 ++ l)).toList))
  else (s.1, s.2 ++ [(nm l, [])])
theorem body_snoc (nm : Bs → Bs) (a : List Bs) (l : Bs) : body nm (a ++ [l]) = push nm (body nm a) l := by
  rw [body_append]
  unfold push
  by_cases hl : nm l = []
  · simp only [body, hl, if_true]
    simp
  · simp only [body, hl, if_false]
    by_cases h : (body nm a).2 = []
    · simp [h]
    · obtain ⟨f, g, hg⟩ : ∃ f g, (body nm a).2 = f ++ [g] := snoc_of h
      simp [hg]

theorem body_congr {n m : Bs → Bs} : ∀ (ls : List Bs), (∀ x ∈ ls, n x = m x) → body n ls = body m ls
  | [], _ => rfl
  | l :: r, h => by
    simp only [body]
    rw [h l (by simp), body_congr r (fun x hx => h x (by simp [hx]))]

/-- reading, part by part -/
theorem body_ok (nm : Bs → Bs) : ∀ (ls : List Bs), (∃ X : List Bs, (body nm ls).1 = X.flatten ∧ ∀ x ∈ X, x ∈ ls ∧ nm x = []) ∧
    ∀ f ∈ (body nm ls).2, f.1 ≠ [] ∧ (∃ x ∈ ls, f.1 = nm x) ∧ ∃ Y : List Bs, f.2 = Y.flatten ∧ ∀ y ∈ Y, y ∈ ls ∧ nm y = []
  | [] => ⟨⟨[], rfl, by simp⟩, by simp [body]⟩
  | l :: r => by
    obtain ⟨⟨X, hX, hx⟩, hf⟩ := body_ok nm r
    simp only [body]
    by_cases hl : nm l = []
    · simp only [hl, if_true]
      refine ⟨⟨l :: X, by simp [hX], ?_⟩, ?_⟩
      · intro x hm
        rcases List.mem_cons.1 hm with rfl | hm
        · exact ⟨by simp, hl⟩
        · exact ⟨List.mem_cons_of_mem _ (hx x hm).1, (hx x hm).2⟩
      · intro f hm
        obtain ⟨h1, ⟨x, h2, h3⟩, Y, h4, h5⟩ := hf f hm
        exact ⟨h1, ⟨x, List.mem_cons_of_mem _ h2, h3⟩, Y, h4, fun y hy => ⟨List.mem_cons_of_mem _ (h5 y hy).1, (h5 y hy).2⟩⟩
    · simp only [hl, if_false]
      refine ⟨⟨[], rfl, by simp⟩, ?_⟩
      intro f hm
      rcases List.mem_cons.1 hm with rfl | hm
      · exact ⟨hl, ⟨l, by simp, rfl⟩, X, hX, fun y hy => ⟨List.mem_cons_of_mem _ (hx y hy).1, (hx y hy).2⟩⟩
      · obtain ⟨h1, ⟨x, h2, h3⟩, Y, h4, h5⟩ := hf f hm
        exact ⟨h1, ⟨x, List.mem_cons_of_mem _ h2, h3⟩, Y, h4, fun y hy => ⟨List.mem_cons_of_mem _ (h5 y hy).1, (h5 y hy).2⟩⟩

/-- no line of l is a marker -/
def Bare (nm : Bs → Bs) (l : Bs) : Prop := ∀ x ∈ lines l, nm x = []
theorem parse_ok (nm : Bs → Bs) (l : Bs) : ended (parseWith nm l).1 = (parseWith nm l).1 ∧ Bare nm (parseWith nm l).1 ∧
    ∀ f ∈ (parseWith nm l).2, f.1 ≠ [] ∧ (∃ x ∈ lines l, f.1 = nm x) ∧ ended f.2 = f.2 ∧ Bare nm f.2 := by
  obtain ⟨⟨X, hX, hx⟩, hf⟩ := body_ok nm (lines l)
  have il := lines_isLine l
  refine ⟨?_, ?_, ?_⟩
  · show ended (body nm (lines l)).1 = (body nm (lines l)).1
    rw [hX]
    exact ended_flatten fun x hm => il x (hx x hm).1
  · intro y hy
    change y ∈ lines (body nm (lines l)).1 at hy
    rw [hX, lines_of_flatten fun x hm => il x (hx x hm).1] at hy
    exact (hx y hy).2
  · intro f hm
    obtain ⟨h1, h2, Y, h4, h5⟩ := hf f hm
    refine ⟨h1, h2, ?_, ?_⟩
    · rw [h4]
      exact ended_flatten fun x hm => il x (h5 x hm).1
    · intro y hy
      rw [h4, lines_of_flatten fun x hm => il x (h5 x hm).1] at hy
      exact (h5 y hy).2

theorem body_bare {nm : Bs → Bs} : ∀ (ls r : List Bs), (∀ x ∈ ls, nm x = []) → body nm (ls ++ r) = (ls.flatten ++ (body nm r).1, (body nm r).2)
  | [], r, _ => by simp
  | l :: ls, r, h => by
    rw [List.cons_append]
    simp only [body]
    rw [if_pos (h l (by simp)), body_bare ls r (fun x hx => h x (by simp [hx]))]
    simp
theorem parse_bare {nm : Bs → Bs} {l : Bs} (h : Bare nm l) : parseWith nm l = (ended l, []) := by
  have := body_bare (lines l) [] h
  rw [List.append_nil] at this
  unfold parseWith
  rw [this, lines_flatten]
  simp [body]

/-! ### writing -/
def fmtFile (f : Bs × Bs) : Bs := mkLine f.1 ++ ended f.2
def format (a : Bs × List (Bs × Bs)) : Bs := ended a.1 ++ (a.2.map fmtFile).flatten
def closed (a : Bs × List (Bs × Bs)) : Bs × List (Bs × Bs) := (ended a.1, a.2.map fun f => (f.1, ended f.2))

theorem ended_append {a b : Bs} (ha : ended a = a) (hb : ended b = b) : ended (a ++ b) = a ++ b := by
  by_cases h : b = []
  · subst h; simpa using ha
  · rw [ended_append_last _ h, hb]
theorem ended_fmtFile (f : Bs × Bs) : ended (fmtFile f) = fmtFile f := by
  unfold fmtFile
  refine ended_append ?_ (ended_ended _)
  unfold mkLine
  rw [ended_snoc]
theorem ended_files : ∀ fs : List (Bs × Bs), ended (fs.map fmtFile).flatten = (fs.map fmtFile).flatten
  | [] => rfl
  | f :: r => by
    rw [List.map_cons, List.flatten_cons]
    exact ended_append (ended_fmtFile f) (ended_files r)
theorem ended_format (a : Bs × List (Bs × Bs)) : ended (format a) = format a := ended_append (ended_ended _) (ended_files _)

/-- a file that is read as it was written -/
def Fit (nm : Bs → Bs) (f : Bs × Bs) : Prop := f.1 ≠ [] ∧ (10 : UInt8) ∉ f.1 ∧ nm (mkLine f.1) = f.1 ∧ Bare nm f.2
theorem body_files {nm : Bs → Bs} : ∀ (fs : List (Bs × Bs)), (∀ f ∈ fs, Fit nm f) → body nm (lines (fs.map fmtFile).flatten) = ([], fs.map fun f => (f.1, ended f.2))
  | [], _ => rfl
  | f :: r, h => by
    obtain ⟨h1, h2, h3, h4⟩ := h f (by simp)
    have e : ((f :: r).map fmtFile).flatten = mkLine f.1 ++ (ended f.2 ++ (r.map fmtFile).flatten) := by simp [fmtFile]
    rw [e, lines_cons (isMk_mkLine_line h2), lines_append (ended_ended _), lines_ended]
    simp only [body]
    rw [h3, if_neg h1, body_bare _ _ h4, body_files r (fun g hg => h g (by simp [hg])), lines_flatten]
    simp
theorem parse_format {nm : Bs → Bs} {a : Bs × List (Bs × Bs)} (hc : Bare nm a.1) (hf : ∀ f ∈ a.2, Fit nm f) : parseWith nm (format a) = closed a := by
  unfold parseWith format closed
  rw [lines_append (ended_ended _), lines_ended, body_bare _ _ hc, body_files _ hf, lines_flatten]
  simp
theorem closed_of_ended {a : Bs × List (Bs × Bs)} (hc : ended a.1 = a.1) (hf : ∀ f ∈ a.2, ended f.2 = f.2) : closed a = a := by
  unfold closed
  rw [hc]
  have : a.2.map (fun f => (f.1, ended f.2)) = a.2 := by
    conv => rhs; rw [← List.map_id a.2]
    exact List.map_congr_left fun f hm => by rw [hf f hm]; rfl
  rw [this]

/-- a text whose markers are written plainly -/
theorem format_body {nm : Bs → Bs} : ∀ (ls : List Bs), (∀ x ∈ ls, IsLine x) → (∀ x ∈ ls, nm x ≠ [] → x = mkLine (nm x)) → format (body nm ls) = ls.flatten
  | [], _, _ => rfl
  | l :: r, hl, h => by
    have ih := format_body r (fun x hx => hl x (by simp [hx])) (fun x hx => h x (by simp [hx]))
    obtain ⟨⟨X, hX, hx⟩, _⟩ := body_ok nm r
    have hc : ended (body nm r).1 = (body nm r).1 := by
      rw [hX]
      exact ended_flatten fun x hm => hl x (List.mem_cons_of_mem _ (hx x hm).1)
    simp only [body]
    by_cases e : nm l = []
    · rw [if_pos e, List.flatten_cons, ← ih]
      unfold format
      simp only
      have hll : ended l = l := ended_of_last (hl l (by simp)).last
      rw [ended_append hll hc, hc]
      simp
    · rw [if_neg e, List.flatten_cons, ← ih]
      unfold format
      simp only [ended_nil, List.nil_append, List.map_cons, List.flatten_cons]
      rw [fmtFile]
      simp only
      rw [← h l (by simp) e]
      simp

theorem format_join (c : Bs) (f g : List (Bs × Bs)) : format (c, f ++ g) = format (c, f) ++ format ([], g) := by
  simp [format, ended_nil]

/-! ### sizes -/
theorem body_size (nm : Bs → Bs) : ∀ (ls : List Bs), (∀ x ∈ ls, (nm x).length + 6 ≤ x.length ∨ nm x = []) → (body nm ls).1.length + ((body nm ls).2.map fun f => f.2.length + f.1.length + 6).sum ≤ ls.flatten.length
  | [], _ => by simp [body]
  | l :: r, h => by
    have ih := body_size nm r (fun x hx => h x (by simp [hx]))
    have hl := h l (by simp)
    simp only [body]
    by_cases e : nm l = []
    · simp only [e, if_true, List.length_append, List.flatten_cons]
      omega
    · simp only [e, if_false, List.map_cons, List.sum_cons, List.length_nil, List.flatten_cons, List.length_append]
      have := hl.resolve_right e
      omega

/-! ### counting, the other lines, a part -/
theorem body_count (nm : Bs → Bs) : ∀ (ls : List Bs), (body nm ls).2.length = (ls.filter fun x => !(nm x).isEmpty).length
  | [] => rfl
  | l :: r => by
    simp only [body]
    by_cases e : nm l = []
    · simp [e, body_count nm r]
    · have : (nm l).isEmpty = false := by simpa using e
      simp [e, this, body_count nm r]
theorem body_others (nm : Bs → Bs) : ∀ (ls : List Bs), (body nm ls).1 ++ ((body nm ls).2.map (·.2)).flatten = (ls.filter fun x => (nm x).isEmpty).flatten
  | [] => rfl
  | l :: r => by
    simp only [body]
    have ih := body_others nm r
    by_cases e : nm l = []
    · simp [e, ← ih]
    · have : (nm l).isEmpty = false := by simpa using e
      simp [e, this, ← ih]

/-- a is the beginning of what b is -/
structure Part (a b : Bs × List (Bs × Bs)) : Prop where
  len : a.2.length ≤ b.2.length
  file : ∀ (k : Nat) f, a.2[k]? = some f → ∃ x, b.2[k]? = some x ∧ f.1 = x.1 ∧ f.2 <+: x.2 ∧ (k + 1 < a.2.length → f = x)
  com : a.1 <+: b.1
  whole : a.2 = [] ∨ a.1 = b.1
theorem body_part (nm : Bs → Bs) : ∀ (ls : List Bs) (n : Nat), Part (body nm (ls.take n)) (body nm ls)
  | [], n => by
    rw [List.take_nil]
    exact ⟨Nat.le_refl _, fun k f h => by simp [body] at h, List.prefix_refl _, .inl rfl⟩
  | l :: r, 0 => by
    rw [List.take_zero]
    exact ⟨by simp [body], fun k f h => by simp [body] at h, by simp [body], .inl rfl⟩
  | l :: r, n + 1 => by
    have ih := body_part nm r n
    rw [List.take_succ_cons]
    simp only [body]
    by_cases e : nm l = []
    · simp only [e, if_true]
      refine ⟨ih.len, ih.file, ?_, ?_⟩
      · obtain ⟨t, ht⟩ := ih.com
        exact ⟨t, by simp only [← ht, List.append_assoc]⟩
      · rcases ih.whole with h | h
        · exact .inl h
        · exact .inr (by simp only [h])
    · simp only [e, if_false]
      refine ⟨by simpa using ih.len, ?_, List.prefix_refl _, .inr rfl⟩
      intro k f hk
      cases k with
      | zero =>
        simp at hk
        subst hk
        refine ⟨(nm l, (body nm r).1), rfl, rfl, ih.com, fun hlt => ?_⟩
        have hne : (body nm (List.take n r)).2 ≠ [] := by
          intro h0
          simp [h0] at hlt
        rw [ih.whole.resolve_left hne]
      | succ k =>
        simp only [List.getElem?_cons_succ] at hk ⊢
        obtain ⟨x, h1, h2, h3, h4⟩ := ih.file k f hk
        refine ⟨x, h1, h2, h3, fun hlt => h4 ?_⟩
        simp only [List.length_cons] at hlt
        omega

/-! ### one marker behind the other -/
def scan (nm : Bs → Bs) : List Bs → Option (List Bs × Bs × List Bs)
  | [] => none
  | l :: r => if nm l = [] then (scan nm r).map fun s => (l :: s.1, s.2) else some ([], l, r)
theorem scan_none {nm : Bs → Bs} : ∀ {ls : List Bs}, scan nm ls = none → ∀ x ∈ ls, nm x = []
  | [], _, x, hx => by cases hx
  | l :: r, h, x, hx => by
    unfold scan at h
    split at h
    · rename_i e
      rcases List.mem_cons.1 hx with rfl | hx
      · exact e
      · exact scan_none (by simpa using h) x hx
    · cases h
theorem scan_some {nm : Bs → Bs} : ∀ {ls a r : List Bs} {l : Bs}, scan nm ls = some (a, l, r) → ls = a ++ l :: r ∧ (∀ x ∈ a, nm x = []) ∧ nm l ≠ []
  | [], a, r, l, h => by cases h
  | x :: xs, a, r, l, h => by
    unfold scan at h
    split at h
    · rename_i e
      cases hs : scan nm xs with
      | none => simp [hs] at h
      | some s =>
        obtain ⟨a', l', r'⟩ := s
        simp [hs] at h
        obtain ⟨rfl, rfl, rfl⟩ := h
        obtain ⟨h1, h2, h3⟩ := scan_some hs
        refine ⟨by rw [h1]; rfl, ?_, h3⟩
        intro y hy
        rcases List.mem_cons.1 hy with rfl | hy
        · exact e
        · exact h2 y hy
    · rename_i e
      simp at h
      obtain ⟨rfl, rfl, rfl⟩ := h
      exact ⟨rfl, by simp, e⟩
theorem scan_bare {nm : Bs → Bs} : ∀ (a b : List Bs), (∀ x ∈ a, nm x = []) → scan nm (a ++ b) = (scan nm b).map fun s => (a ++ s.1, s.2)
  | [], b, _ => by simp
  | x :: a, b, h => by
    rw [List.cons_append, scan, if_pos (h x (by simp)), scan_bare a b (fun y hy => h y (by simp [hy]))]
    rw [Option.map_map]
    rfl

/-- the next marker: what is ahead of it, its name, what is behind it -/
def find (nm : Bs → Bs) (l : Bs) : Bs × Bs × Bs :=
  match scan nm (lines l) with
  | none => (ended l, [], [])
  | some (a, x, _) => (a.flatten, nm x, l.drop (a.flatten.length + x.length))

end Go.Proofs.YtmogecodjiofeaaDoor.Tx
