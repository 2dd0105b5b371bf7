/-
  Blanks around a name: what the two statements over marker lines share. No program in sight but for the rows.
-/
import Derived.Test.YtmogecodjiofeaaDoorFld
namespace Go.Proofs.YtmogecodjiofeaaDoor.Tx
open Go Go.RowKit

def blankOk (c : UInt8) : Bool := c == 32 || c == 9
theorem blank_sp {l : Bs} (h : l.all blankOk = true) : ∀ c ∈ l, Lib.isSp c = true := fun c hc => by
  have := List.all_eq_true.1 h c hc
  unfold blankOk at this
  simp only [Bool.or_eq_true, beq_iff_eq] at this
  rcases this with rfl | rfl <;> rfl
theorem blank_free {l : Bs} (h : l.all blankOk = true) : (10 : UInt8) ∉ l := fun hm => by
  have := List.all_eq_true.1 h 10 hm
  cases this
theorem blank_32 {c : UInt8} (h : ((c.toNat : Int) == 32) = true) : blankOk c = true := by
  have : c = 32 := by rw [← UInt8.toNat_inj]; simp at h; exact_mod_cast h
  rw [this]; rfl
theorem blank_9 {c : UInt8} (h : ((c.toNat : Int) == 9) = true) : blankOk c = true := by
  have : c = 9 := by rw [← UInt8.toNat_inj]; simp at h; exact_mod_cast h
  rw [this]; rfl
/-- the text with its marker line -/
def markText (b n a t : ByteArray) : ByteArray := (⟨#[45, 45, 32]⟩ : ByteArray) ++ b ++ n ++ a ++ (⟨#[32, 45, 45, 10]⟩ : ByteArray) ++ t
theorem markText_list (b n a t : ByteArray) : (markText b n a t).data.toList = mkLine (b.data.toList ++ n.data.toList ++ a.data.toList) ++ t.data.toList := by
  simp [markText, mkLine, pre, suf]
theorem markText_size (b n a t : ByteArray) : (markText b n a t).size = 7 + b.size + n.size + a.size + t.size := by
  have q1 : (⟨#[45, 45, 32]⟩ : ByteArray).size = 3 := rfl
  have q2 : (⟨#[32, 45, 45, 10]⟩ : ByteArray).size = 4 := rfl
  unfold markText
  simp only [ByteArray.size_append, q1, q2]
  omega
theorem fargs_one {w : World} {g : Nat} {x y : ByteArray} {T : TypeId} {fr : Nat × Nat} {fs : List (Bs × Bs)} (hg : w.heap[g]? = some (.cells #[.string x, .string y] T fr)) (hf : fs = [(x.data.toList, y.data.toList)]) : FArgs w (some ⟨g, 0, none⟩) 1 1 fs := by
  subst hf
  refine ⟨rfl, Nat.le_refl _, fun _ => ⟨g, 0, rfl, Lib.lt_of_heap hg, fun i v hi => ?_⟩⟩
  rw [Lib.cell_of_heap hg]
  match i, hi with
  | 0, hi => simp [fileCells] at hi; subst hi; simp [S_of]
  | 1, hi => simp [fileCells] at hi; subst hi; simp [S_of]
end Go.Proofs.YtmogecodjiofeaaDoor.Tx
