/-
  Memory, in plain words: a slice of bytes that reads as a list; what of it stays when the call goes on. No program in sight; no condition beyond what each theorem says.
-/
import Derived.Test.YtmogecodjiofeaaDoorTrim
import Derived.WalkKit
import Derived.WalkSpells
import Derived.Lib.Hide
import Derived.Lib.SlBytesConst
import Derived.Laws.IdiomStrings
import Derived.Shelf.Bytes.SlSmallAll
import Derived.Lib.Buffer
import Derived.Deep.Draws
namespace Go.Proofs.YtmogecodjiofeaaDoor.Tx
open Go Go.RowKit

/-- a list of bytes as Go's string -/
def S (l : Bs) : ByteArray := ⟨l.toArray⟩
@[simp] theorem S_data (l : Bs) : (S l).data.toList = l := by simp [S]
@[simp] theorem S_size (l : Bs) : (S l).size = l.length := by simp [S, ByteArray.size]
theorem S_of (s : ByteArray) : S s.data.toList = s := by cases s; simp [S]
theorem ba_eq {a b : ByteArray} (h : a.data.toList = b.data.toList) : a = b := by
  cases a; cases b
  simp at h
  subst h
  rfl
theorem size_list (s : ByteArray) : s.data.toList.length = s.size := by simp

theorem add_plain (b o i : Nat) : (⟨b, o, none⟩ : Addr).add i = ⟨b, o + i, none⟩ := by
  unfold Addr.add
  by_cases h : i = 0
  · subst h; rfl
  · rw [if_neg h]

/-- the cells from A on hold the bytes l (of no byte nothing is said) -/
def RB (w : World) (A : Option Addr) (l : Bs) : Prop :=
  l ≠ [] → ∃ b o, A = some ⟨b, o, none⟩ ∧ b < w.heap.size ∧ ∀ (i : Nat) x, l[i]? = some x → w.cell? ⟨b, o + i, none⟩ = some (.int .u8 (x.toNat : Int))

theorem RB.nil (w : World) (A : Option Addr) : RB w A [] := fun h => absurd rfl h
theorem RB.keep {w w' : World} {A : Option Addr} {l : Bs} (h : RB w A l) (hs : w.heap.size ≤ w'.heap.size) (hc : ∀ a : Addr, a.block < w.heap.size → w'.cell? a = w.cell? a) : RB w' A l := fun hl => by
  obtain ⟨b, o, e, hb, hx⟩ := h hl
  exact ⟨b, o, e, Nat.lt_of_lt_of_le hb hs, fun i x hi => (hc _ hb).trans (hx i x hi)⟩
theorem RB.below {w w' : World} {A : Option Addr} {l : Bs} (h : RB w A l) (hb : Below w.heap.size w w') : RB w' A l := h.keep hb.size fun _ ha => hb.cell ha
theorem RB.alloc {w : World} {A : Option Addr} {l : Bs} (h : RB w A l) (o : Obj) : RB (w.alloc o) A l := h.below ((Below.refl _ _).alloc (Nat.le_refl _) _)
theorem RB.take {w : World} {A : Option Addr} {l : Bs} (h : RB w A l) (k : Nat) : RB w A (l.take k) := fun hl => by
  have hne : l ≠ [] := by rintro rfl; simp at hl
  obtain ⟨b, o, e, hb, hx⟩ := h hne
  refine ⟨b, o, e, hb, fun i x hi => hx i x ?_⟩
  rw [List.getElem?_take] at hi
  split at hi
  · exact hi
  · cases hi
theorem RB.drop {w : World} {A : Option Addr} {l : Bs} (h : RB w A l) {k cap : Nat} (hcap : l.length ≤ cap) : RB w (if cap = k then A else A.map (·.add k)) (l.drop k) := fun hl => by
  have hk : k < l.length := by
    rcases Nat.lt_or_ge k l.length with h' | h'
    · exact h'
    · exact absurd (List.drop_eq_nil_of_le h') hl
  have hne : l ≠ [] := by rintro rfl; simp at hl
  obtain ⟨b, o, e, hb, hx⟩ := h hne
  rw [if_neg (by omega), e]
  refine ⟨b, o + k, by simp only [Option.map_some, add_plain], hb, fun i x hi => ?_⟩
  rw [List.getElem?_drop] at hi
  rw [Nat.add_assoc]
  exact hx _ _ hi
theorem RB.at_ {w : World} {A : Option Addr} {l : Bs} (h : RB w A l) {i : Nat} {x : UInt8} (hi : l[i]? = some x) : ∃ b o, A = some ⟨b, o, none⟩ ∧ b < w.heap.size ∧ w.cell? ⟨b, o + i, none⟩ = some (.int .u8 (x.toNat : Int)) := by
  have hne : l ≠ [] := by rintro rfl; simp at hi
  obtain ⟨b, o, e, hb, hx⟩ := h hne
  exact ⟨b, o, e, hb, hx i x hi⟩

/-- the numbers of a list of bytes -/
def nums (l : Bs) : List Int := l.map fun x => (x.toNat : Int)
theorem nums_length (l : Bs) : (nums l).length = l.length := by simp [nums]
theorem nums_getD (l : Bs) (i : Nat) (h : i < l.length) : (nums l).getD i 0 = (l[i].toNat : Int) := by simp [nums, List.getD, h]
theorem bytesOf_nums (l : Bs) : Lib.bytesOf (nums l) = l := by
  simp [Lib.bytesOf, nums, Function.comp_def]
theorem RB.bytesIn {w : World} {A : Option Addr} {l : Bs} (h : RB w A l) : Lib.BytesIn w A l.length (nums l) := fun hn => by
  obtain ⟨b, o, e, _, hx⟩ := h (List.length_pos_iff.1 hn)
  refine ⟨b, o, e, fun i hi => ?_⟩
  rw [nums_getD l i hi]
  exact hx i _ (List.getElem?_eq_getElem hi)
theorem RB.str {P : Program} {w : World} {A : Option Addr} {l : Bs} (h : RB w A l) (src e dst : TypeId) (hs : P.underlying src = some (.slice e)) (he : P.underlying e = some (.int .u8)) (hd : P.underlying dst = some .string) (cap : Nat) :
    (convert src dst (.slice A l.length cap)).run P w = .ok (.string (S l)) w := by
  by_cases hl : l = []
  · subst hl
    exact run_convert_bytes_zero w src e hs he A cap dst hd
  · obtain ⟨b, o, rfl, _, hx⟩ := h hl
    refine run_convert_bytes_back w src dst e ⟨b, o, none⟩ cap l hs he hd fun j hj => ?_
    rw [add_plain]
    exact hx j _ (List.getElem?_eq_getElem hj)

theorem RB.strN {P : Program} {w : World} {A : Option Addr} {l : Bs} (h : RB w A l) {n : Nat} (hn : Hid (n = l.length)) (src e dst : TypeId) (hs : P.underlying src = some (.slice e)) (he : P.underlying e = some (.int .u8)) (hd : P.underlying dst = some .string) (cap : Nat) :
    (convert src dst (.slice A n cap)).run P w = .ok (.string (S l)) w := by
  rw [hn.out]
  exact h.str src e dst hs he hd cap

/-- a new block of bytes -/
theorem RB.of_new {w' : World} {l : Bs} {C : Array Value} {t : TypeId} {fr : Nat × Nat} {g : Nat} (hg : w'.heap[g]? = some (.cells C t fr)) (hC : ∀ (i : Nat) x, l[i]? = some x → C[i]? = some (.int .u8 (x.toNat : Int))) : RB w' (some ⟨g, 0, none⟩) l := fun _ => by
  refine ⟨g, 0, rfl, ?_, fun i x hi => ?_⟩
  · rcases Nat.lt_or_ge g w'.heap.size with h | h
    · exact h
    · rw [Array.getElem?_eq_none h] at hg; cases hg
  · rw [Nat.zero_add, Lib.cell_of_heap hg]
    exact hC i x hi
/-- what '[]byte(s)' lays -/
theorem RB.of_string (w : World) (e : TypeId) (s : ByteArray) (cap : Nat) (fr : Nat × Nat) : RB (w.drew.alloc (.cells (bytesRow s cap) e fr)) (some ⟨w.heap.size, 0, none⟩) s.data.toList := fun _ => by
  refine ⟨w.heap.size, 0, rfl, by simp, fun i x hi => ?_⟩
  have hlt : i < s.data.size := by
    have := (List.getElem?_eq_some_iff.1 hi).1
    simpa using this
  rw [Nat.zero_add]
  have := World.cell?_alloc_mark w.drew (bytesRow s cap) e fr i
  have hz : w.drew.heap.size = w.heap.size := rfl
  rw [hz] at this
  rw [this, bytesRow_at s cap i hlt]
  have : s.data[i] = x := by
    have h2 := (List.getElem?_eq_some_iff.1 hi).2
    simpa using h2
  rw [this]

/-! ### blocks by their element type -/
/-- the address, if there is one, lies in a block of elements of type e -/
def HeldO (e : TypeId) (w : World) (A : Option Addr) : Prop := ∀ a, A = some a → ∃ cs fz, w.heap[a.block]? = some (.cells cs e fz)
/-- every block of elements of type e is as it was -/
structure Keeps (e : TypeId) (w w' : World) : Prop where
  size : w.heap.size ≤ w'.heap.size
  block : ∀ (j : Nat) cs fz, w.heap[j]? = some (.cells cs e fz) → w'.heap[j]? = w.heap[j]?
theorem Keeps.refl (e : TypeId) (w : World) : Keeps e w w := ⟨Nat.le_refl _, fun _ _ _ _ => rfl⟩
theorem Keeps.trans {e : TypeId} {a b c : World} (h : Keeps e a b) (k : Keeps e b c) : Keeps e a c :=
  ⟨Nat.le_trans h.size k.size, fun j cs fz hj => by
    have h1 := h.block j cs fz hj
    rw [← h1] at hj
    rw [k.block j cs fz hj, h1]⟩
theorem Keeps.of_below {e : TypeId} {w w' : World} (h : Below w.heap.size w w') : Keeps e w w' := ⟨h.size, fun j _ _ hj => h.block j (Lib.lt_of_heap hj)⟩
theorem Keeps.of_grown {e : TypeId} {w w' : World} {row : Option Nat} (h : w.grownBy w' row) (hr : ∀ j cs fz, w.heap[j]? = some (.cells cs e fz) → some j ≠ row) : Keeps e w w' := ⟨h.size, fun j cs fz hj => h.block j (Lib.lt_of_heap hj) (hr j cs fz hj)⟩
theorem Keeps.of_setCell {e : TypeId} {w : World} {r o : Nat} {cs : Array Value} {T : TypeId} {fz : Nat × Nat} (hr : w.heap[r]? = some (.cells cs T fz)) (hT : T ≠ e) (v : Value) : Keeps e w (w.setCell ⟨r, o, none⟩ v) :=
  ⟨by simp [World.setCell], fun j cs' fz' hj => Below.heap_setCell w ⟨r, o, none⟩ v j (fun he => by
    simp at he
    subst he
    rw [hj] at hr
    simp at hr
    exact hT hr.2.1.symm)⟩
theorem HeldO.none_ (e : TypeId) (w : World) : HeldO e w none := fun a h => by cases h
theorem HeldO.keeps {e : TypeId} {w w' : World} {A : Option Addr} (h : HeldO e w A) (hk : Keeps e w w') : HeldO e w' A := fun a ha => by
  obtain ⟨cs, fz, hc⟩ := h a ha
  exact ⟨cs, fz, (hk.block _ cs fz hc).trans hc⟩
theorem HeldO.below {e : TypeId} {w w' : World} {A : Option Addr} (h : HeldO e w A) (hb : Below w.heap.size w w') : HeldO e w' A := h.keeps (Keeps.of_below hb)
theorem HeldO.of_block {e : TypeId} {w : World} {g o : Nat} {cs : Array Value} {fz : Nat × Nat} (h : w.heap[g]? = some (.cells cs e fz)) : HeldO e w (some ⟨g, o, none⟩) := fun a ha => by
  cases ha
  exact ⟨cs, fz, h⟩
theorem add_block (a : Addr) (k : Nat) : (a.add k).block = a.block := by
  unfold Addr.add
  split <;> rfl
theorem HeldO.drop {e : TypeId} {w : World} {A : Option Addr} (h : HeldO e w A) (k cap : Nat) : HeldO e w (if cap = k then A else A.map (·.add k)) := fun a ha => by
  split at ha
  · exact h a ha
  · cases A with
    | none => cases ha
    | some x =>
      simp at ha
      subst ha
      rw [add_block]
      exact h x rfl
theorem RB.keeps {e : TypeId} {w w' : World} {A : Option Addr} {l : Bs} (h : RB w A l) (hh : HeldO e w A) (hk : Keeps e w w') : RB w' A l := fun hl => by
  obtain ⟨b, o, ea, hb, hx⟩ := h hl
  obtain ⟨cs, fz, hc⟩ := hh _ ea
  have hbl := hk.block b cs fz hc
  exact ⟨b, o, ea, Nat.lt_of_lt_of_le hb hk.size, fun i x hi => (World.cell?_of_block (a := ⟨b, o + i, none⟩) hbl).trans (hx i x hi)⟩

/-- '.slice A n cap' is a slice of the bytes l (its block of type e; q: it is not nil) -/
def BS (q : Prop) (e : TypeId) (w : World) (A : Option Addr) (n cap : Nat) (l : Bs) : Prop := Hid (n = l.length) ∧ n ≤ cap ∧ (q → A ≠ none) ∧ HeldO e w A ∧ RB w A l
section
variable {q : Prop} {e : TypeId} {w w' : World} {A : Option Addr} {n cap : Nat} {l : Bs}
theorem BS.len (h : BS q e w A n cap l) : Hid (n = l.length) := h.1
theorem BS.le (h : BS q e w A n cap l) : n ≤ cap := h.2.1
theorem BS.some_ (h : BS q e w A n cap l) : q → A ≠ none := h.2.2.1
theorem BS.held (h : BS q e w A n cap l) : HeldO e w A := h.2.2.2.1
theorem BS.rb (h : BS q e w A n cap l) : RB w A l := h.2.2.2.2
theorem BS.keeps (h : BS q e w A n cap l) (hk : Keeps e w w') : BS q e w' A n cap l := ⟨h.1, h.2.1, h.2.2.1, h.held.keeps hk, h.rb.keeps h.held hk⟩
theorem BS.below (h : BS q e w A n cap l) (hb : Below w.heap.size w w') : BS q e w' A n cap l := h.keeps (Keeps.of_below hb)
theorem BS.free (h : BS q e w A n cap l) : BS False e w A n cap l := ⟨h.1, h.2.1, fun hf => hf.elim, h.held, h.rb⟩
theorem BS.nil_ : BS False e w none 0 0 [] := ⟨rfl, Nat.le_refl _, fun hf => hf.elim, HeldO.none_ _ _, RB.nil _ _⟩
theorem BS.take (h : BS q e w A n cap l) {k : Nat} (hk : k ≤ n) : BS q e w A k cap (l.take k) :=
  ⟨by rw [List.length_take, ← h.len.out]; exact (Nat.min_eq_left hk).symm, Nat.le_trans hk h.le, h.some_, h.held, h.rb.take k⟩
theorem BS.drop (h : BS q e w A n cap l) {k : Nat} (_hk : k ≤ n) : BS q e w (if cap = k then A else A.map (·.add k)) (n - k) (cap - k) (l.drop k) :=
  ⟨by rw [List.length_drop, ← h.len.out]; exact rfl, by have := h.le; omega, fun hq => by
      have := h.some_ hq
      split
      · exact this
      · cases A with
        | none => exact absurd rfl this
        | some x => simp, h.held.drop k cap, h.rb.drop (by rw [← h.len.out]; exact h.le)⟩
end
/-- what '[]byte(s)' hands over, in the world behind it -/
theorem BS.of_string (w : World) (e : TypeId) (s : ByteArray) (cap : Nat) (hc : s.size ≤ cap) (fr : Nat × Nat) : BS True e (w.drew.alloc (.cells (bytesRow s cap) e fr)) (some ⟨w.heap.size, 0, none⟩) s.size cap s.data.toList :=
  ⟨(size_list s).symm, hc, fun _ => Option.some_ne_none _, HeldO.of_block (heap_alloc_new w.drew _), RB.of_string w e s cap fr⟩
/-- v is a slice value of the bytes l -/
def BV (q : Prop) (e : TypeId) (w : World) (v : Value) (l : Bs) : Prop := ∃ A n cap, v = .slice A n cap ∧ BS q e w A n cap l
theorem BV.keeps {q : Prop} {e : TypeId} {w w' : World} {v : Value} {l : Bs} (h : BV q e w v l) (hk : Keeps e w w') : BV q e w' v l := by
  obtain ⟨A, n, cap, e1, h1⟩ := h
  exact ⟨A, n, cap, e1, h1.keeps hk⟩
theorem BV.below {q : Prop} {e : TypeId} {w w' : World} {v : Value} {l : Bs} (h : BV q e w v l) (hb : Below w.heap.size w w') : BV q e w' v l := h.keeps (Keeps.of_below hb)

/-- the cells of a list of bytes -/
def cellsOf (l : Bs) : List Value := l.map fun x => .int .u8 (x.toNat : Int)
theorem cellsOf_length (l : Bs) : (cellsOf l).length = l.length := by simp [cellsOf]
theorem cellsOf_one (l : Bs) : ∀ v ∈ cellsOf l, v.oneCell' = true := by
  intro v hv
  obtain ⟨_, _, rfl⟩ := List.mem_map.1 hv
  rfl
theorem RB.cells {w : World} {a : Addr} {l : Bs} (h : RB w (some a) l) : ∀ (j : Nat) v, (cellsOf l)[j]? = some v → w.cell? (a.add j) = some v := by
  intro j v hj
  have hne : l ≠ [] := by rintro rfl; simp [cellsOf] at hj
  obtain ⟨b, o, e, _, hx⟩ := h hne
  obtain rfl := Option.some.inj e
  simp only [cellsOf, List.getElem?_map, Option.map_eq_some_iff] at hj
  obtain ⟨x, h1, rfl⟩ := hj
  rw [add_plain]
  exact hx j x h1

/-! ### rows of values -/
/-- the cells from A on hold the values vs (of none nothing is said) -/
def Row (w : World) (A : Option Addr) (vs : List Value) : Prop :=
  vs ≠ [] → ∃ b o, A = some ⟨b, o, none⟩ ∧ b < w.heap.size ∧ ∀ (i : Nat) v, vs[i]? = some v → w.cell? ⟨b, o + i, none⟩ = some v
theorem Row.keep {w w' : World} {A : Option Addr} {vs : List Value} (h : Row w A vs) (hs : w.heap.size ≤ w'.heap.size) (hc : ∀ a : Addr, a.block < w.heap.size → w'.cell? a = w.cell? a) : Row w' A vs := fun hl => by
  obtain ⟨b, o, e, hb, hx⟩ := h hl
  exact ⟨b, o, e, Nat.lt_of_lt_of_le hb hs, fun i x hi => (hc _ hb).trans (hx i x hi)⟩
theorem Row.below {w w' : World} {A : Option Addr} {vs : List Value} (h : Row w A vs) (hb : Below w.heap.size w w') : Row w' A vs := h.keep hb.size fun _ ha => hb.cell ha
theorem Row.at_ {w : World} {A : Option Addr} {vs : List Value} (h : Row w A vs) {i : Nat} {v : Value} (hi : vs[i]? = some v) : ∃ b o, A = some ⟨b, o, none⟩ ∧ b < w.heap.size ∧ w.cell? ⟨b, o + i, none⟩ = some v := by
  have hne : vs ≠ [] := by rintro rfl; simp at hi
  obtain ⟨b, o, e, hb, hx⟩ := h hne
  exact ⟨b, o, e, hb, hx i v hi⟩
theorem Row.of_own {w : World} {base : Nat} {e : TypeId} {size : Nat} {v : Value} {n : Nat} {xs : List Value} (h : w.ownsRow base e size v n xs) : ∃ A cap, v = .slice A n cap ∧ n ≤ cap ∧ Row w A xs := by
  obtain ⟨hl, h⟩ := h
  rcases h with ⟨rfl, rfl⟩ | ⟨g, cap, cur, rfl, _, hg, hn, _, hs, ht⟩
  · refine ⟨none, 0, rfl, Nat.le_refl _, fun hne => absurd (List.eq_nil_of_length_eq_zero (by simpa using hl)) hne⟩
  · refine ⟨some ⟨g, 0, none⟩, cap, rfl, hn, fun _ => ⟨g, 0, rfl, Lib.lt_of_heap hg, fun i v hi => ?_⟩⟩
    rw [← ht] at hi
    have := Lib.cells_of_row hg _ i v hi
    rwa [add_plain] at this
/-- a slice value of the strings ls -/
def Strs (w : World) (v : Value) (ls : List Bs) : Prop := ∃ A cap, v = .slice A ls.length cap ∧ ls.length ≤ cap ∧ Row w A (ls.map fun x => .string (S x))
theorem Strs.below {w w' : World} {v : Value} {ls : List Bs} (h : Strs w v ls) (hb : Below w.heap.size w w') : Strs w' v ls := by
  obtain ⟨A, cap, e, hc, hr⟩ := h
  exact ⟨A, cap, e, hc, hr.below hb⟩
theorem Strs.of_own {w : World} {base : Nat} {e : TypeId} {v : Value} {ls : List Bs} (h : w.ownsRow base e 1 v ls.length (ls.map fun x => .string (S x))) : Strs w v ls := by
  obtain ⟨A, cap, e1, hc, hr⟩ := Row.of_own h
  exact ⟨A, cap, e1, hc, hr⟩

theorem below_append {B : Nat} {w wr w1 : World} {e : TypeId} {size : Nat} {v : Value} {n : Nat} {xs : List Value} {o : Obj} (hb : Below B w wr) (hB : B ≤ wr.heap.size) (hown : wr.ownsRow B e size v n xs) (hg : (wr.alloc o).grownBy w1 v.ownBlock) : Below B w w1 :=
  (hb.alloc hB o).grown hg (by simp; omega) (fun k hk => (hown.lt k hk).1)
theorem below_drewN {B : Nat} {a w : World} (h : Below B a w) (n : Nat) : Below B a (w.drewN n) := ⟨h.os, h.tape, h.output, h.size, h.block⟩
theorem ret_eq {v v' : Value} (h : v = v') : Ending.returned v = .returned v' := by rw [h]
end Go.Proofs.YtmogecodjiofeaaDoor.Tx
