/-
  FnFormatJoin, whole: where what it reads is of bulk at most 1048576: the call returns true and the arguments read as they did; its card. The row lists package-level variables, which the card ties to the program's text. No other condition.
-/
import Derived.Test.YtoojofakgjmagaaDoorCards
import Derived.Test.YtoojofakgjmagaaDoorTie
import Derived.Test.YtoojofakgjmagaaDoorFjoW
import Derived.Test.YtoojofakgjmagaaDoorPost
import Derived.OpenShut
import Derived.Test.YtoojofakgjmagaaDoorDoor
namespace Go.Proofs.YtoojofakgjmagaaDoor.fnFormatJoin
open Go.ChangeShapes Go.WideShapes Go.ChangeAt Go.RowKit
open Go.ChangeMaps (open_string shut_string)

set_option maxRecDepth 100000 in
theorem contract (H : Type) (enc : TypeId × Value → H) (W : World) (base : Nat) (args : Array Value) (ds gs : List (DataW H)) (before : List MemPlace)
    (hval : ∀ (j : Nat) t v, Tryd.f7.params[j]? = some t → args[j]? = some v → Value.okWide Tryd.prog W .any base t v)
    (hW : DataW.Whole enc Tryd.prog Tryd.f7.params.toList Rows.fnFormatJoinSpec.vars false W args.toList ds gs before) (_hL : laidMet Tryd.prog Rows.fnFormatJoinUptoRow.laid W) (hk : Rows.uptoSmall H (ds ++ gs) = true) :
    Calls Tryd.prog 7 args W fun e W' => ∃ v, e = .returned v ∧ Rows.fnFormatJoinSpec.post enc Tryd.prog Tryd.f7 false true false false W args v W' := by
  have hW' := hW
  obtain ⟨p, q, hA0, hV, rfl, hfz, hnd⟩ := hW
  have hA : DataW.TrodAll enc Tryd.prog W 0 (fun _ => true) true Tryd.f7.params.toList args.toList ds p := hA0
  rw [Tryd.params7] at hA hval
  obtain ⟨v0, vs0, d0, ds0, p0, q0, hargs, rfl, rfl, h0, r0⟩ := trodAll_cons hA
  obtain ⟨v1, vs1, d1, ds1, p1, q1, rfl, rfl, rfl, h1, r1⟩ := trodAll_cons r0
  obtain ⟨rfl, rfl, rfl⟩ := trodAll_nil r1
  obtain rfl : args = #[v0, v1] := by cases args; simp_all
  obtain ⟨rfl, rfl⟩ := trodVars_none hV
  obtain ⟨c0, A0, n0, cap0, fs0, rfl, F0, B0⟩ := Tx.open_arch (hval 0 24 v0 rfl rfl) h0
  obtain ⟨A1, n1, cap1, fs1, rfl, F1, B1⟩ := Tx.open_filesArg (hval 1 22 v1 rfl rfl) h1
  clear hA0
  simp only [List.append_nil] at hW'
  have hsm : Rows.uptoBulkAll ([d0, d1]) ≤ 1048576 := by
    have := of_decide_eq_true hk
    simpa using this
  simp only [Rows.uptoBulkAll] at hsm
  refine (Tx.fjo_walk c0 A0 n0 cap0 fs0 A1 n1 cap1 fs1 W F0 F1 (by omega)).mono fun e W' ⟨he, hg⟩ => ?_
  subst he
  exact ⟨_, rfl, Tx.post_of_below (pa := p0 ++ (p1 ++ [])) (pv := []) hW' (fun _ _ _ => trodAll_cons_mk (shut_bool Tryd.underlying4 _) trodAll_mk0) (fun sp hsp => trodAll_cons_mk (WideElems.Trod_stays (by kernel_rfl) (by kernel_rfl) (of_decide_eq_true (by kernel_rfl)) h0 (fun x hx => hg.same (hW'.lt x (by simp [hx]))) (fun x hx => hsp x (by simp [hx]))) (trodAll_cons_mk (WideElems.Trod_stays (by kernel_rfl) (by kernel_rfl) (of_decide_eq_true (by kernel_rfl)) h1 (fun x hx => hg.same (hW'.lt x (by simp [hx]))) (fun x hx => hsp x (by simp [hx]))) trodAll_mk0)) (fun _ _ => rfl) (by simp)
    hg (ok_one (by kernel_rfl) rfl (okWide_bool_mk Tryd.underlying4 _))⟩

theorem reads (os : Os) {H : Type} (enc : TypeId × Value → H) : ∃ places, DataW.whole enc Tryd.prog ((Tx.doorW os).forCall (fun _ _ => 0) ⟨#[], #[.agg #[.string .empty, .slice none 0 0], .slice none 0 0], []⟩).memory Tryd.f7.params.toList Rows.fnFormatJoinSpec.vars false #[Value.agg #[.string .empty, .slice none 0 0], Value.slice none 0 0].toList 8 = some ([.agg [.lit (.string []), .nil], .nil], [], places) :=
  ⟨[], by kernel_rfl⟩

set_option maxRecDepth 100000 in
theorem lifted (os : Os) (started : os.Started) (H : Type) (enc : TypeId × Value → H) (F : Stop.Interp) :
    ReturnsInHanded {} Tryd.checked os 7 .any ((Rows.OpenSpec.upto Rows.fnFormatJoinSpec).preRow enc Tryd.prog Tryd.f7 Rows.fnFormatJoinUptoRow.domain false Rows.fnFormatJoinUptoRow.laid) (((Rows.OpenSpec.upto Rows.fnFormatJoinSpec).at F).post enc Tryd.prog Tryd.f7 false true false false) := by
  obtain ⟨places, hx⟩ := reads os enc
  refine returnsInHanded_of_row (C := Tryd.checked) (s := Rows.OpenSpec.upto Rows.fnFormatJoinSpec) Tx.own started (by kernel_rfl) Tryd.func7
    (witness_row_atRef (enc := enc) (C := Tryd.checked) false (Tx.doorW os) #[.agg #[.string .empty, .slice none 0 0], .slice none 0 0] rfl (Tx.door_vars os _) (Tx.door_rest os _) (by kernel_rfl)
      (OpenSpec.preRow_of_cond 8 hx (by kernel_rfl) (fun k hk => by cases hk; kernel_rfl) (by kernel_rfl) (Tx.door_met1 os _))) ?_
  intro W base args ds gs before hval hW _ hcond _ hL _ _
  exact contract H enc W base args ds gs before hval hW hL (hcond _ rfl)

theorem said : Rows.FnFormatJoinUptoSaid :=
  OpenClaim.holds_of_cond 7 Tryd.f7 rfl rfl rfl rfl rfl rfl rfl ⟨rfl, rfl, rfl, rfl, rfl⟩ rfl rfl rfl rfl rfl (by kernel_rfl) Tryd.func7 (by kernel_rfl)
    (of_decide_eq_true (by kernel_rfl)) (by unfold Func.isWrapper; first | (rw [if_pos (by decide +kernel)]; kernel_rfl) | (rw [if_neg (by decide +kernel)]; exact ⟨rfl, rfl⟩))
    (fun os started H enc _ F => by rw [OpenClaim.pre_eq_preRow]; exact lifted os started H enc F)

theorem plain (f : FuncId) (fn : Func) (hf : Tryd.pinned.checked.prog.funcNamed "loop.example/pub-textarchives/laws.FnFormatJoin" = some f) (hfn : Tryd.pinned.checked.prog.funcs[f]? = some fn) :
    false = Tryd.pinned.checked.prog.looks [] ∧ ∀ (j : Nat) t, fn.params[j]? = some t → Tryd.pinned.checked.prog.wantsStandIn t = false := by
  obtain rfl : f = 7 := Option.some.inj ((show Tryd.prog.funcNamed "loop.example/pub-textarchives/laws.FnFormatJoin" = some 7 by kernel_rfl).symm.trans hf) |>.symm
  obtain rfl : fn = Tryd.f7 := (Option.some.inj (Tryd.func7.symm.trans hfn)).symm
  refine ⟨by kernel_rfl, fun j t ht => ?_⟩
  rw [Tryd.params7] at ht
  have hm := Array.mem_of_getElem? ht
  simp at hm
  rcases hm with rfl | rfl
  · exact (show Tryd.prog.wantsStandIn 24 = false by kernel_rfl)
  · exact (show Tryd.prog.wantsStandIn 22 = false by kernel_rfl)

theorem card : Rows.FnFormatJoinUptoCardSaid :=
  Claim7.holds_tied_plain_at .later [] _ _ _ _ said (fun _ h => by cases h) (by kernel_rfl) (fun _ h => by cases h) fnFormatJoinUpto_row_tie rfl ⟨rfl, rfl⟩ (by kernel_rfl) rfl plain (by kernel_rfl)
end Go.Proofs.YtoojofakgjmagaaDoor.fnFormatJoin
