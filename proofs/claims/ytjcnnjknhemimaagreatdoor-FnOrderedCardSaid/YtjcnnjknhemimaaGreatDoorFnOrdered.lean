/- The law FnOrdered: the row and its tied card. -/
import Derived.Test.YtjcnnjknhemimaaGreatDoorCards
import Derived.Test.YtjcnnjknhemimaaGreatDoorTie
import Derived.Test.YtjcnnjknhemimaaGreatDoorWit
import Derived.Test.YtjcnnjknhemimaaGreatDoorH7
import Derived.ProofKit
import Derived.OpenShut
import Derived.Deep.Slices
import Derived.WideKeyArgs
namespace Go.Proofs.YtjcnnjknhemimaaGreatDoor.fnOrdered
open Go Go.ChangeShapes Go.WideShapes Go.ChangeAt Go.RowKit
open Go.ChangeMaps (setBlock shut_map_nil open_string shut_string keptBut_setBlock frozen?_setBlock heap_setBlock_same)
theorem own : ownKnob Tryz.prog.godebug = none := by kernel_rfl
theorem laidOut : laidOutB Tryz.prog = true := by kernel_rfl
/-- The slice as it came in: its cells. -/
theorem fnOrdered_row {H : Type} {enc : TypeId × Value → H} {W : World} {fuel : Nat} {a0 : Option Addr} {len cap : Nat} {x : DataW H × List MemPlace} (hf : DataW.trod enc Tryz.prog W 0 (fun _ => true) true fuel 22 [.slice a0 len cap] = some x) :
    ∃ f : Nat → Int, Row1 W a0 len (fun j => .int .i64 (f j)) ∧ len ≤ 9223372036854775807 := by
  rcases Deep.open_slice1 Tryz.underlying22 (by kernel_rfl) hf with ⟨h, _⟩ | ⟨a, len', cap', m, n, V, D, Pl, hcs, _, hl, hm, hmm, hx, hi⟩
  · simp at h
    obtain ⟨rfl, rfl, rfl⟩ := h
    exact ⟨fun _ => 0, fun h => absurd h (by omega), by omega⟩
  · simp at hcs
    obtain ⟨rfl, rfl, rfl⟩ := hcs
    simp only [if_true] at hmm
    subst hmm
    have hV : ∀ i, i < m → ∃ b : Int, V i = .int .i64 b := fun i h => by
      obtain ⟨b, hb, _⟩ := DataW.trod_int Tryz.underlying3 (hi i h).2
      simp at hb
      exact ⟨b, hb⟩
    obtain ⟨f, hff⟩ := Deep.choose_lt hV
    unfold maxLen at hm
    refine ⟨f, fun h => ?_, by omega⟩
    obtain ⟨b, off, spot⟩ := a
    have hspot : spot = none := by simpa [Addr.add] using World.cell?_spot (hi 0 (by omega)).1
    subst hspot
    have hb : b < W.heap.size := by
      have := (hi 0 (by omega)).1
      rw [Go.WideShapes.add_plain] at this
      unfold World.cell? at this
      split at this
      · rename_i h; exact (Array.getElem?_eq_some_iff.1 h).1
      · cases this
    exact ⟨b, off, rfl, hb, fun j hj => by rw [← Go.WideShapes.add_plain, (hi j (by omega)).1, hff j (by omega)]⟩

set_option maxRecDepth 100000 in
theorem contract (H : Type) (enc : TypeId × Value → H) (W : World) (base : Nat) (args : Array Value) (ds gs : List (DataW H)) (before : List MemPlace)
    (hval : ∀ (j : Nat) t v, Tryz.f3.params[j]? = some t → args[j]? = some v → Value.okWide Tryz.prog W .any base t v)
    (hW : DataW.Whole enc Tryz.prog Tryz.f3.params.toList Rows.fnOrderedSpec.vars false W args.toList ds gs before) :
    Calls Tryz.prog 3 args W fun e W' => ∃ v, e = .returned v ∧ Rows.fnOrderedSpec.post enc Tryz.prog Tryz.f3 false true false false W args v W' := by
  have hW' := hW
  obtain ⟨p, q, hA0, hV, rfl, hfz, hnd⟩ := hW
  have hA : DataW.TrodAll enc Tryz.prog W 0 (fun _ => true) true Tryz.f3.params.toList args.toList ds p := hA0
  rw [Tryz.params3] at hA hval
  obtain ⟨v0, vs0, d0, ds0, p0, q0, hargs, rfl, rfl, h0, r0⟩ := trodAll_cons hA
  obtain ⟨rfl, rfl, rfl⟩ := trodAll_nil r0
  obtain rfl : args = #[v0] := by cases args; simp_all
  obtain ⟨rfl, rfl⟩ := trodVars_none hV
  obtain ⟨a0, len, cap, rfl⟩ := okWide_slice Tryz.underlying22 (hval 0 22 v0 rfl rfl)
  have h0k := h0
  obtain ⟨fuel, hf⟩ := h0
  clear hA0 hA
  simp only [List.append_nil] at hW'
  have hlt : ∀ x ∈ p0, x.block < W.heap.size := fun x hx => hW'.lt x hx
  obtain ⟨f, hrow, hmax⟩ := fnOrdered_row (by simpa [Value.cells] using hf)
  refine (fnOrdered_any f a0 len cap hmax W hrow).mono fun e W' ⟨he, hg⟩ => ?_
  subst he
  exact ⟨_, rfl, post_of_below (pa := p0) (pv := []) hW' (fun _ _ _ => trodAll_cons_mk (shut_bool Tryz.underlying4 _) trodAll_mk0)
    (fun sp hsp => by
      have := trodAll_cons_mk (WideElems.Trod_stays laidOut (by kernel_rfl) (of_decide_eq_true (by kernel_rfl)) h0k (fun x hx => hg.same (hlt x hx)) (fun x hx => hsp x hx)) trodAll_mk0
      rw [List.append_nil] at this
      exact this) (fun _ _ => rfl) (by simp)
    hg (ok_one (by kernel_rfl) rfl (okWide_bool_mk Tryz.underlying4 _))⟩

theorem shaped (os : Os) : ((World.laidAll Tryz.prog os Rows.fnOrderedRow.laid).forCall (fun _ _ => 0) ⟨#[], #[.slice none 0 0], []⟩).Shaped Tryz.prog := World.shaped_of_ZipB (by kernel_rfl) (by kernel_rfl)
theorem reads (os : Os) {H : Type} (enc : TypeId × Value → H) : ∃ places, DataW.whole enc Tryz.prog ((World.laidAll Tryz.prog os Rows.fnOrderedRow.laid).forCall (fun _ _ => 0) ⟨#[], #[.slice none 0 0], []⟩).memory Tryz.f3.params.toList Rows.fnOrderedSpec.vars false #[Value.slice none 0 0].toList 8 = some ([.nil], [], places) :=
  ⟨[], by kernel_rfl⟩
set_option maxRecDepth 100000 in
theorem lifted (os : Os) (started : os.Started) (H : Type) (enc : TypeId × Value → H) (F : Stop.Interp) :
    ReturnsInHanded {} Tryz.checked os 3 .any ((OpenSpec.ofChange Rows.fnOrderedSpec).preRow enc Tryz.prog Tryz.f3 Rows.fnOrderedRow.domain false Rows.fnOrderedRow.laid) (((OpenSpec.ofChange Rows.fnOrderedSpec).at F).post enc Tryz.prog Tryz.f3 false true false false) := by
  obtain ⟨places, hx⟩ := reads os enc
  refine returnsInHanded_of_row (C := Tryz.checked) (s := OpenSpec.ofChange Rows.fnOrderedSpec) own started (by kernel_rfl) Tryz.func3
    (witness_laid (enc := enc) (C := Tryz.checked) false (World.laidAll Tryz.prog os Rows.fnOrderedRow.laid) #[.slice none 0 0] (World.laidAll_os _ _ _) (shaped os) (by kernel_rfl)
      (OpenSpec.preRow_of_cond 8 hx (by kernel_rfl) (fun k hk => by cases hk) (by kernel_rfl) (laid_met os _))) ?_
  intro W base args ds gs before hval hW _ _ _ _ _ _
  exact contract H enc W base args ds gs before hval hW
theorem said : Rows.FnOrderedSaid :=
  OpenClaim.holds_of_cond 3 Tryz.f3 rfl rfl rfl rfl rfl rfl rfl ⟨rfl, rfl, rfl, rfl, rfl⟩ rfl rfl rfl rfl rfl (by kernel_rfl) Tryz.func3 (by kernel_rfl)
    (of_decide_eq_true (by kernel_rfl)) (by unfold Func.isWrapper; first | (rw [if_pos (by decide +kernel)]; kernel_rfl) | (rw [if_neg (by decide +kernel)]; exact ⟨rfl, rfl⟩))
    (fun os started H enc _ F => by rw [OpenClaim.pre_eq_preRow]; exact lifted os started H enc F)
theorem plain (f : FuncId) (fn : Func) (hf : Tryz.pinned.checked.prog.funcNamed "pub-tallysheet/laws.FnOrdered" = some f) (hfn : Tryz.pinned.checked.prog.funcs[f]? = some fn) :
    true = Tryz.pinned.checked.prog.looks [] ∧ ∀ (j : Nat) t, fn.params[j]? = some t → Tryz.pinned.checked.prog.wantsStandIn t = false := by
  obtain rfl : f = 3 := Option.some.inj ((show Tryz.prog.funcNamed "pub-tallysheet/laws.FnOrdered" = some 3 by kernel_rfl).symm.trans hf) |>.symm
  obtain rfl : fn = Tryz.f3 := (Option.some.inj (Tryz.func3.symm.trans hfn)).symm
  refine ⟨by kernel_rfl, fun j t ht => ?_⟩
  rw [Tryz.params3] at ht
  obtain rfl : t = 22 := by simpa using Array.mem_of_getElem? ht
  exact (show Tryz.prog.wantsStandIn 22 = false by kernel_rfl)
theorem card : Rows.FnOrderedCardSaid :=
  Claim7.holds_tied_plain_at .later [] _ _ _ _ said (fun _ h => by cases h) (by kernel_rfl) (fun _ h => by cases h) fnOrdered_row_tie rfl ⟨rfl, rfl⟩ (by kernel_rfl) rfl plain (by kernel_rfl)
end Go.Proofs.YtjcnnjknhemimaaGreatDoor.fnOrdered
