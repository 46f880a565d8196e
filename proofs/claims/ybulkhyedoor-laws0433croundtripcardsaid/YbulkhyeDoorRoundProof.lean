/- THE TIED CARD OF LawS0433CRoundTrip. -/
import Derived.Test.YbulkhyeDoorRound
import Derived.Test.YbulkhyeDoorCards
import Derived.Test.YbulkhyeDoorTie
import Derived.ProofKit
import Derived.LaidMore
import Derived.OpenShut
import Derived.ChangeOld
import Derived.Stop.Joined
import Derived.SevenTiedAt
namespace Go.Proofs.YbulkhyeDoor
open Go.ChangeShapes Go.WideShapes Go.ChangeAt Go.RowKit

theorem own : ownKnob Ybad.prog.godebug = none := by kernel_rfl
theorem laidOut : laidOutB Ybad.prog = true := by kernel_rfl

/-- The door's own heap meets the condition. -/
theorem door_met (os : Os) (args : Array Value) : laidMetH Ybad.prog Rows.lawS0433CRoundTripRow.laid ((World.doorLaid Ybad.prog 400 os).forCall (fun _ _ => 0) ⟨#[], args, []⟩).memory :=
  laidMetH_of_parts3 (fuel := 8) (laidMet_of_run' 8 (by kernel_rfl) (by kernel_rfl)) (by kernel_rfl) (by kernel_rfl)

/-- WHAT THE CONDITION GIVES THE WALK: the variable has a cell. -/
theorem of_laid {W : World} (h : laidMetH Ybad.prog Rows.lawS0433CRoundTripRow.laid W) : ∃ ev, W.cell? ⟨0, 0, none⟩ = some ev := by
  rw [MakeChecks.laidMetH_plain _ _ _ (by kernel_rfl)] at h
  obtain ⟨ps, ⟨g0, t0, cs0, f0, p0, q0, hg0, ht0, hv0, hd0, _⟩, _, _⟩ := h
  obtain rfl : 0 = g0 := Option.some.inj ((show Ybad.prog.globalNamed _ = some 0 by kernel_rfl).symm.trans hg0)
  obtain rfl : 33 = t0 := Option.some.inj ((show (Ybad.prog.globals[0]?).map (·.type) = some 33 by kernel_rfl).symm.trans ht0)
  have hc := World.var?_cell hg0 hv0 0
  obtain ⟨l0⟩ := cs0
  cases l0 with
  | nil =>
    exfalso
    cases f0 with
    | zero => simp [DataW.trod] at hd0
    | succ f =>
      unfold DataW.trod at hd0
      rw [Ybad.underlying33] at hd0
      simp at hd0
  | cons x r => exact ⟨x, by simpa using hc⟩

/-- A byte's cell. -/
theorem trod_u8 {H : Type} {enc : TypeId × Value → H} {W : World} {m : Nat} {cs : List Value} {x : DataW H × List MemPlace} (h : DataW.trod enc Ybad.prog W 0 (fun _ => true) true m 5 cs = some x) :
    ∃ a : Int, cs = [.int .u8 a] ∧ (Lit.int .u8 a).wf = true := by
  cases m with
  | zero => simp [DataW.trod] at h
  | succ m =>
    unfold DataW.trod at h
    rw [Ybad.underlying5] at h
    split at h <;> simp_all

/-- Cells that are bytes are a list of bytes. -/
theorem bytes_of_cells (cs : Array Value) (hl : cs.toList.length = 32) (h : ∀ i, i < 32 → ∃ a : Int, cs.toList[i]? = some (.int .u8 a) ∧ (Lit.int .u8 a).wf = true) :
    ∃ bs : List UInt8, bs.length = 32 ∧ cs = (Lib.byteCells bs).toArray := by
  obtain ⟨l⟩ := cs
  have key : ∀ (n : Nat) (l : List Value), l.length = n → (∀ i, i < n → ∃ a : Int, l[i]? = some (.int .u8 a) ∧ (Lit.int .u8 a).wf = true) → ∃ bs : List UInt8, bs.length = n ∧ l = Lib.byteCells bs := by
    intro n
    induction n with
    | zero => intro l hl _; exact ⟨[], rfl, by cases l with | nil => rfl | cons _ _ => simp at hl⟩
    | succ n ih =>
      intro l hl h
      cases l with
      | nil => simp at hl
      | cons v r =>
        obtain ⟨a, hv, hw⟩ := h 0 (by omega)
        obtain ⟨bs, hb, hr⟩ := ih r (by simpa using hl) fun i hi => by
          obtain ⟨a, hv, hw⟩ := h (i + 1) (by omega)
          exact ⟨a, by simpa using hv, hw⟩
        refine ⟨UInt8.ofNat a.toNat :: bs, by simp [hb], ?_⟩
        have hv' : v = .int .u8 a := by simpa using hv
        have hb2 := bounds_u8 hw
        subst hv' hr
        have : ((UInt8.ofNat a.toNat).toNat : Int) = a := by
          rw [UInt8.toNat_ofNat', Nat.mod_eq_of_lt (by omega)]
          omega
        show Value.int .u8 a :: Lib.byteCells bs = Value.int .u8 ((UInt8.ofNat a.toNat).toNat : Int) :: Lib.byteCells bs
        rw [this]
  obtain ⟨bs, hb, hr⟩ := key 32 l hl h
  exact ⟨bs, hb, by rw [hr]⟩

set_option maxRecDepth 100000 in
theorem round_lifted (os : Os) (started : os.Started) (H : Type) (enc : TypeId × Value → H) :
    ReturnsInHanded {} Ybad.checked os 3 .any (fun w args => (Rows.lawS0433CRoundTripSpec.pre enc Ybad.prog Ybad.f3 [] false w args ∧ laidMetH Ybad.prog Rows.lawS0433CRoundTripRow.laid w) ∧ sizedMet enc Ybad.prog Ybad.f3 (OpenSpec.ofChange Rows.lawS0433CRoundTripSpec) false w args)
      (Rows.lawS0433CRoundTripSpec.post enc Ybad.prog Ybad.f3 false true false false) := by
  refine returnsInHanded_of_change_and (C := Ybad.checked) (X := fun w _ => laidMetH Ybad.prog Rows.lawS0433CRoundTripRow.laid w) (fun _ _ _ hh h => h.of_heap hh) own started (by kernel_rfl) Ybad.func3
    (ChangeSpec.witness_shaped (enc := enc) (C := Ybad.checked) (os := os) (X := fun w _ => laidMetH Ybad.prog Rows.lawS0433CRoundTripRow.laid w) false (World.doorLaid Ybad.prog 400 os) #[.agg zcells] 8 rfl (World.shaped_of_RefB (by kernel_rfl) (by kernel_rfl)) (by kernel_rfl) (by kernel_rfl) (by kernel_rfl) (door_met os _)) ?_
  intro W base args ds gs before hval0 hW _ _ hL _
  have hval : ∀ (j : Nat) t v, Ybad.f3.params[j]? = some t → args[j]? = some v → Value.okWide Ybad.prog W .any base t v := hval0
  have hW' := hW
  obtain ⟨p, q, hA0, hV, rfl, hfz, hnd⟩ := hW
  have hA : DataW.TrodAll enc Ybad.prog W 0 (fun _ => true) true Ybad.f3.params.toList args.toList ds p := hA0
  rw [Ybad.params3] at hA hval
  obtain ⟨v0, d0, rfl, rfl, h0⟩ := trodAll_one hA
  obtain ⟨rfl, rfl⟩ := trodVars_none hV
  obtain ⟨ev, hE⟩ := of_laid hL
  have k0 := h0
  have lt0 : ∀ x ∈ p, x.block < W.heap.size := by obtain ⟨m, hm⟩ := k0; exact DataW.trod_lt m _ _ _ hm
  obtain ⟨cs, rfl, hsz, _⟩ : ∃ cs, v0 = .agg cs ∧ cs.size = Ybad.prog.cellsOf 22 ∧ Row.okWide Ybad.prog W .any base 22 cs := by
    have := hval 0 22 v0 rfl rfl
    simpa [Value.okWide, Ybad.underlying22] using this
  obtain ⟨bs, hbl, rfl⟩ : ∃ bs : List UInt8, bs.length = 32 ∧ cs = (Lib.byteCells bs).toArray := by
    obtain ⟨fuel, hf⟩ := h0
    obtain ⟨xs, m, rfl, _, hlen, hxl, hel⟩ := DataW.trod_array Ybad.underlying22 hf
    have hl32 : cs.toList.length = 32 := hlen.trans (by kernel_rfl)
    refine bytes_of_cells cs hl32 fun i hi => ?_
    have h := hel i hi
    rw [cells5, Nat.mul_one] at h
    have hx : xs[i]? = some (xs[i]'(by omega)) := List.getElem?_eq_getElem (by omega)
    rw [hx] at h
    obtain ⟨a, he, hw⟩ := trod_u8 h
    refine ⟨a, ?_, hw⟩
    have he : List.take 1 (List.drop i cs.toList) = [.int .u8 a] := he
    have := congrArg (·[0]?) he
    simpa [List.getElem?_take, List.getElem?_drop] using this
  clear hA0 hval0
  refine (round_any bs hbl ev W hE).mono fun e W' ⟨he, bel⟩ => ?_
  subst he
  exact ⟨_, rfl, _, _, _, [], _, [], hW', trodAll_mk1 (shut_bool Ybad.underlying4 _), trodAll_mk1 (Below.trod laidOut (by kernel_rfl) (of_decide_eq_true (by kernel_rfl)) k0 bel lt0), rfl, bel.frame _, fun h => by cases h⟩

theorem round_over : Rows.LawS0433CRoundTripSaid :=
  OpenClaim.holds_of_wide 3 Ybad.f3 rfl rfl rfl rfl rfl rfl rfl ⟨rfl, rfl, rfl, rfl, rfl⟩ rfl rfl rfl rfl rfl (by kernel_rfl) Ybad.func3 (by kernel_rfl)
    (of_decide_eq_true (by kernel_rfl)) (by unfold Func.isWrapper; rw [if_neg (of_decide_eq_false (by kernel_rfl))]; exact ⟨rfl, rfl⟩)
    (fun os started H enc _ => round_lifted os started H enc)

/-- THE STATEMENT. -/
theorem round_proved : Rows.LawS0433CRoundTripCardSaid :=
  Claim7.holds_tied_plain_at .later [] [.sentinel] true _ false
    round_over (fun _ h => by cases h) (by kernel_rfl) (fun _ h => by cases h) lawS0433CRoundTrip_row_tie rfl ⟨rfl, rfl⟩ (by kernel_rfl) rfl
    (fun f fn hf hfn => by
      obtain rfl : f = 3 := Option.some.inj ((show Ybad.prog.funcNamed Rows.lawS0433CRoundTripRow.func = some 3 by kernel_rfl).symm.trans hf) |>.symm
      obtain rfl : fn = Ybad.f3 := (Option.some.inj (Ybad.func3.symm.trans hfn)).symm
      exact ⟨by kernel_rfl, fun j t ht => by
        rw [Ybad.params3] at ht
        have h3 : t = 22 := by
          rcases j with _ | j
          · simpa using ht.symm
          · simp at ht
        subst h3
        exact (show Ybad.prog.wantsStandIn 22 = false by kernel_rfl)⟩)
    (by kernel_rfl)
end Go.Proofs.YbulkhyeDoor
