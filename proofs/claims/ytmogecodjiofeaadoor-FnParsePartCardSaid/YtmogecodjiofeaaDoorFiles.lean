/-
  Memory, in plain words: rows of files (name and text, both strings). No program in sight; no condition beyond what each theorem says.
-/
import Derived.Test.YtmogecodjiofeaaDoorMem
namespace Go.Proofs.YtmogecodjiofeaaDoor.Tx
open Go Go.RowKit

/-- the cells of a row of files -/
def fileCells (fs : List (Bs × Bs)) : List Value := fs.flatMap fun f => [.string (S f.1), .string (S f.2)]
theorem fileCells_length (fs : List (Bs × Bs)) : (fileCells fs).length = fs.length * 2 := by
  induction fs with
  | nil => rfl
  | cons f r ih =>
    have : fileCells (f :: r) = .string (S f.1) :: .string (S f.2) :: fileCells r := rfl
    rw [this]
    simp [ih]
    omega
theorem fileCells_snoc (fs : List (Bs × Bs)) (f : Bs × Bs) : fileCells (fs ++ [f]) = fileCells fs ++ [.string (S f.1), .string (S f.2)] := by simp [fileCells]
theorem fileCells_at : ∀ (fs : List (Bs × Bs)) (k : Nat) (h : k < fs.length), (fileCells fs)[k * 2]? = some (.string (S fs[k].1)) ∧ (fileCells fs)[k * 2 + 1]? = some (.string (S fs[k].2))
  | f :: r, 0, _ => ⟨rfl, rfl⟩
  | f :: r, k + 1, h => by
    have ih := fileCells_at r k (by simpa using h)
    have e : fileCells (f :: r) = .string (S f.1) :: .string (S f.2) :: fileCells r := rfl
    have e1 : (k + 1) * 2 = k * 2 + 1 + 1 := by omega
    rw [e, e1]
    simpa using ih
/-- file k, its two strings under names of their own -/
theorem row_file {w : World} {A : Option Addr} {fs : List (Bs × Bs)} (h : Row w A (fileCells fs)) {k : Nat} (hk : k < fs.length) :
    ∃ (b o : Nat) (s t : ByteArray), A = some ⟨b, o, none⟩ ∧ b < w.heap.size ∧ w.cell? ⟨b, o + k * 2, none⟩ = some (.string s) ∧ w.cell? ⟨b, o + k * 2 + 1, none⟩ = some (.string t) ∧ s.data.toList = fs[k].1 ∧ t.data.toList = fs[k].2 := by
  obtain ⟨h1, h2⟩ := fileCells_at fs k hk
  have hne : fileCells fs ≠ [] := by intro h0; rw [h0] at h1; cases h1
  obtain ⟨b, o, e, hb, hc⟩ := h hne
  exact ⟨b, o, S fs[k].1, S fs[k].2, e, hb, hc _ _ h1, by rw [Nat.add_assoc]; exact hc _ _ h2, S_data _, S_data _⟩

/-! ### files of the package: name a string, text a slice of bytes -/
/-- vs: the cells of a row of the package's files, each text readable -/
def TCells (q : Prop) (e : TypeId) (w : World) (vs : List Value) (fs : List (Bs × Bs)) : Prop :=
  vs.length = fs.length * 2 ∧ ∀ (k : Nat) (h : k < fs.length), vs[k * 2]? = some (.string (S fs[k].1)) ∧
    ∃ A n cap, vs[k * 2 + 1]? = some (.slice A n cap) ∧ BS q e w A n cap fs[k].2
theorem TCells.nil (q : Prop) (e : TypeId) (w : World) : TCells q e w [] [] := ⟨rfl, fun k h => absurd h (Nat.not_lt_zero k)⟩
theorem TCells.keeps {q : Prop} {e : TypeId} {w w' : World} {vs : List Value} {fs : List (Bs × Bs)} (h : TCells q e w vs fs) (hk : Keeps e w w') : TCells q e w' vs fs := by
  refine ⟨h.1, fun k hk' => ?_⟩
  obtain ⟨h1, A, n, cap, h2, h3⟩ := h.2 k hk'
  exact ⟨h1, A, n, cap, h2, h3.keeps hk⟩
theorem TCells.below {q : Prop} {e : TypeId} {w w' : World} {vs : List Value} {fs : List (Bs × Bs)} (h : TCells q e w vs fs) (hb : Below w.heap.size w w') : TCells q e w' vs fs := h.keeps (Keeps.of_below hb)
theorem TCells.snoc {q : Prop} {e : TypeId} {w : World} {vs : List Value} {fs : List (Bs × Bs)} (h : TCells q e w vs fs) {f : Bs × Bs} {A : Option Addr} {n cap : Nat} (hb : BS q e w A n cap f.2) :
    TCells q e w (vs ++ [.string (S f.1), .slice A n cap]) (fs ++ [f]) := by
  refine ⟨by simp [h.1]; omega, fun k hk => ?_⟩
  rcases Nat.lt_or_ge k fs.length with hlt | hge
  · obtain ⟨h1, A', n', cap', h2, h3⟩ := h.2 k hlt
    have hl := h.1
    rw [List.getElem_append_left hlt, List.getElem?_append_left (by omega), List.getElem?_append_left (by omega)]
    exact ⟨h1, A', n', cap', h2, h3⟩
  · have hk' : k = fs.length := by simp at hk; omega
    subst hk'
    have hl := h.1
    rw [List.getElem?_append_right (by omega), List.getElem?_append_right (by omega), List.getElem_append_right (Nat.le_refl _)]
    have e1 : fs.length * 2 - vs.length = 0 := by omega
    have e2 : fs.length * 2 + 1 - vs.length = 1 := by omega
    rw [e1, e2]
    simp only [Nat.sub_self, List.getElem_cons_zero]
    exact ⟨rfl, A, n, cap, rfl, hb⟩
/-- file k of the package's -/
theorem row_tfile {q : Prop} {e : TypeId} {w : World} {A : Option Addr} {vs : List Value} {fs : List (Bs × Bs)} (h : Row w A vs) (ht : TCells q e w vs fs) {k : Nat} (hk : k < fs.length) :
    ∃ (b o : Nat) (s : ByteArray) (A' : Option Addr) (n cap : Nat), A = some ⟨b, o, none⟩ ∧ b < w.heap.size ∧ w.cell? ⟨b, o + k * 2, none⟩ = some (.string s) ∧ w.cell? ⟨b, o + k * 2 + 1, none⟩ = some (.slice A' n cap) ∧ s.data.toList = fs[k].1 ∧ BS q e w A' n cap fs[k].2 := by
  obtain ⟨h1, A', n, cap, h2, h3⟩ := ht.2 k hk
  have hne : vs ≠ [] := by intro h0; rw [h0] at h1; cases h1
  obtain ⟨b, o, e, hb, hc⟩ := h hne
  exact ⟨b, o, S fs[k].1, A', n, cap, e, hb, hc _ _ h1, by rw [Nat.add_assoc]; exact hc _ _ h2, S_data _, h3⟩
/-- block b holds an archive of the package: comment and files -/
def TArch (q : Prop) (e : TypeId) (w : World) (b : Nat) (a : Bs × List (Bs × Bs)) : Prop :=
  b < w.heap.size ∧ ∃ (A : Option Addr) (n cap : Nat) (F : Option Addr) (m fcap : Nat) (vs : List Value), w.cell? ⟨b, 0, none⟩ = some (.slice A n cap) ∧ BS q e w A n cap a.1 ∧
    w.cell? ⟨b, 1, none⟩ = some (.slice F m fcap) ∧ Hid (m = a.2.length) ∧ m ≤ fcap ∧ Row w F vs ∧ TCells q e w vs a.2
theorem TArch.below {q : Prop} {e : TypeId} {w w' : World} {b : Nat} {a : Bs × List (Bs × Bs)} (h : TArch q e w b a) (hb : Below w.heap.size w w') : TArch q e w' b a := by
  obtain ⟨hlt, A, n, cap, F, m, fcap, vs, h1, h2, h6, h7, h8, h9, h10⟩ := h
  exact ⟨Nat.lt_of_lt_of_le hlt hb.size, A, n, cap, F, m, fcap, vs, (hb.cell hlt).trans h1, h2.below hb, (hb.cell hlt).trans h6, h7, h8, h9.below hb, h10.below hb⟩
end Go.Proofs.YtmogecodjiofeaaDoor.Tx
