/- THE TOLD AND TIED CARD OF LawS0433BExact. fmt's text is told by the authors' own function (FmtText); the rest is walked. -/
import Derived.Test.YbulkhyeFmtLaw
import Derived.Test.YbulkhyeFmtCards
import Derived.Test.YbulkhyeFmtTie
import Derived.ProofKit
import Derived.OpenShut
import Derived.LaidMore
import Derived.ChangeOld
import Derived.Carry
import Derived.Stop.JoinedAt
import Derived.Stop.JoinedTold
import Derived.Stop.LaidErr
import Derived.Deep.DeepWitnessRef
import Derived.SizedLaws
import Derived.SevenTiedAt
namespace Go.Proofs.YbulkhyeFmt
open Go.ChangeShapes Go.WideShapes Go.ChangeAt Go.RowKit Go.Kit
open Go.Extern.Stop Go.Stop Go.Extern

theorem own : ownKnob Ybaf.prog.godebug = none := by kernel_rfl
theorem laidOut : laidOutB Ybaf.pinned.checked.prog = true := by kernel_rfl

/-! ### what the listed variables give -/
set_option maxRecDepth 100000 in
theorem err_of_laid {nm : String} {d : DataW Unit} {r : List (String × DataW Unit)} {W : World} (h : laidMet Ybaf.prog (("strconv.ErrSyntax", .iface nm d) :: r) W) : ∃ tp p, W.var? Ybaf.prog "strconv.ErrSyntax" = some #[.iface tp p] := by
  obtain ⟨ps, ⟨g0, t0, cs0, f0, p0, q0, hg0, ht0, hv0, hd0, _⟩, _, _⟩ := h
  obtain rfl : 1 = g0 := Option.some.inj ((show Ybaf.prog.globalNamed "strconv.ErrSyntax" = some 1 by kernel_rfl).symm.trans hg0)
  obtain rfl : 57 = t0 := Option.some.inj ((show (Ybaf.prog.globals[1]?).map (·.type) = some 57 by kernel_rfl).symm.trans ht0)
  obtain ⟨l0⟩ := cs0
  cases f0 with
  | zero => simp [DataW.trod] at hd0
  | succ f =>
    unfold DataW.trod at hd0
    rw [Ybaf.underlying57] at hd0
    cases l0 with
    | nil => simp at hd0
    | cons x r =>
      cases r with
      | nil =>
        cases x with
        | iface tp p => exact ⟨tp, p, hv0⟩
        | _ => simp at hd0
      | cons y r => cases x <;> simp at hd0

theorem vars_of_laid {F : Interp} {W : World} (hF : F.told.answers W.tape) (h : laidMetH Ybaf.prog Rows.lawS0433BExactRow.laid W) : Vars F W := by
  rw [MakeChecks.laidMetH_plain _ _ _ (by kernel_rfl)] at h
  have h1 : laidMet Ybaf.prog Rows.lawS0433BExactRow.laid W := h
  refine ⟨?_, err_of_laid h1.tail.tail.tail.tail, hF⟩
  exact Lib.tabIs_of_head (name := tabName) (k := .u64) (zs := Lib.pow10Tab) (g := 0) (by kernel_rfl) (by kernel_rfl) Ybaf.underlying76 Ybaf.underlying33 (by kernel_rfl) (by kernel_rfl) h1.tail.tail

/-- The door's own heap meets the condition. -/
theorem door_met (os : Os) (args : Array Value) : laidMetH Ybaf.prog Rows.lawS0433BExactRow.laid ((World.doorLaid Ybaf.prog 400 os).forCall (fun _ _ => 0) ⟨#[], args, []⟩).memory :=
  laidMetH_of_parts3 (fuel := 8) (laidMet_of_run' 8 (by kernel_rfl) (by kernel_rfl)) (by kernel_rfl) (by kernel_rfl)

theorem witness_row (os : Os) {H : Type} (enc : TypeId × Value → H) :
    (OpenSpec.ofChange Rows.lawS0433BExactSpec).preRow enc Ybaf.prog Ybaf.f3 [] false Rows.lawS0433BExactRow.laid ((World.doorLaid Ybaf.prog 400 os).forCall (fun _ _ => 0) ⟨#[], #[.slice none 0 0, .slice none 0 0], []⟩).memory #[.slice none 0 0, .slice none 0 0] := by
  have hw : (DataW.whole enc Ybaf.prog ((World.doorLaid Ybaf.prog 400 os).forCall (fun _ _ => 0) ⟨#[], #[.slice none 0 0, .slice none 0 0], []⟩).memory Ybaf.f3.params.toList (OpenSpec.ofChange Rows.lawS0433BExactSpec).vars false #[Value.slice none 0 0, Value.slice none 0 0].toList 8).map (fun x => (x.1, x.2.1)) =
      some ([.nil, .nil], []) := by kernel_rfl
  obtain ⟨⟨x1, x2, x3⟩, hx, hx1⟩ := Option.map_eq_some_iff.1 hw
  simp only [Prod.mk.injEq] at hx1
  obtain ⟨rfl, rfl⟩ := hx1
  exact OpenSpec.preRow_of_cond 8 hx (by kernel_rfl) (fun k hk => by cases hk) (by kernel_rfl) (door_met os _)

/-! ### the walk at every input -/
theorem exact_out (a0 a1 : Option Addr) (n0 n1 cap0 cap1 : Nat) (w : World) (h : ¬ (n0 ≤ 1024 ∧ n1 ≤ 1024)) :
    Calls Ybaf.prog 3 #[.slice a0 n0 cap0, .slice a1 n1 cap1] w fun e w' => e = .returned (.bool true) ∧ Below w.heap.size w w' := by
  by_cases h0 : n0 ≤ 1024
  · have h1 : ¬ n1 ≤ 1024 := fun h1 => h ⟨h0, h1⟩
    clear h
    go_enter Ybaf.func3, Ybaf.ntmps3
    go_wp2
    go_ret
    exact ⟨rfl, Below.refl _ _⟩
  · clear h
    go_enter Ybaf.func3, Ybaf.ntmps3
    go_wp2
    go_ret
    exact ⟨rfl, Below.refl _ _⟩

theorem exact_walk (F : Interp) (a0 a1 : Option Addr) (cap0 cap1 : Nat) (ps : List Int) (js : List Nat) (w : World) (hV : Vars F w)
    (hp : ∀ p ∈ ps, -9223372036854775808 ≤ p ∧ p ≤ 9223372036854775807) (hj : ∀ j ∈ js, j < 65536) (hS0 : SrcI .i64 a0 ps w) (hS1 : SrcI .u16 a1 (js.map fun (j : Nat) => (j : Int)) w) :
    Calls Ybaf.prog 3 #[.slice a0 ps.length cap0, .slice a1 js.length cap1] w fun e w' => e = .returned (.bool true) ∧ Below w.heap.size w w' := by
  by_cases h : ps.length ≤ 1024 ∧ js.length ≤ 1024
  · by_cases hord : js.length ≤ ps.length
    · exact exact_le F a0 a1 cap0 cap1 ps js w hV h.1 h.2 hord hp hj hS0 hS1
    · exact exact_gt F a0 a1 cap0 cap1 ps js w hV h.1 h.2 (by omega) hp hj hS0 hS1
  · exact exact_out a0 a1 _ _ cap0 cap1 w h

theorem src_of {k : IntKind} {w : World} {a : Addr} {zs : List Int} {len : Nat} (hlen : len ≤ zs.length) (h : ∀ i, i < zs.length → w.cell? (a.add i) = some (.int k (zs.getD i 0))) : SrcI k (some a) (zs.take len) w := by
  right
  refine ⟨a, rfl, fun j hj => ?_⟩
  rw [List.length_take] at hj
  rw [h j (by omega), List.getElem_take]
  simp [List.getD, List.getElem?_eq_getElem (show j < zs.length by omega)]

set_option maxRecDepth 100000 in
set_option maxHeartbeats 1000000 in
theorem exact_lifted (os : Os) (started : os.Started) (H : Type) (enc : TypeId × Value → H) :
    ReturnsInTold none {} Ybaf.checked os 3 .any Input.okWide ((OpenSpec.ofChange Rows.lawS0433BExactSpec).preRow enc Ybaf.prog Ybaf.f3 [] false Rows.lawS0433BExactRow.laid) (fun F => ((OpenSpec.ofChange Rows.lawS0433BExactSpec).at F).post enc Ybaf.prog Ybaf.f3 false true false false) (aloneAtReturn Ybaf.prog) nothingAlways := by
  refine returnsInTold_of_row (C := Ybaf.checked) (s := OpenSpec.ofChange Rows.lawS0433BExactSpec) (by kernel_rfl) own started (by kernel_rfl) Ybaf.func3
    (OpenSpec.witness_stopped_atRef (enc := enc) (C := Ybaf.checked) false (World.doorLaid Ybaf.prog 400 os) #[.slice none 0 0, .slice none 0 0] rfl (by kernel_rfl) (by kernel_rfl) (by kernel_rfl) (witness_row os enc)) ?_
  intro F W base args ds gs before _ hF hval0 hW _ _ _ hL _
  have hval : ∀ (j : Nat) t v, Ybaf.f3.params[j]? = some t → args[j]? = some v → Value.okWide Ybaf.prog W .any base t v := hval0
  have hW' := hW
  obtain ⟨p, q, hA0, hV, rfl, _, _⟩ := hW
  have hA : DataW.TrodAll enc Ybaf.prog W 0 (fun _ => true) true Ybaf.f3.params.toList args.toList ds p := hA0
  rw [Ybaf.params3] at hA hval
  obtain ⟨v0, vs0, d0, ds0, p0, q0, hargs, rfl, rfl, h0, r0⟩ := trodAll_cons hA
  obtain ⟨v1, vs1, d1, ds1, p1, q1, rfl, rfl, rfl, h1, r1⟩ := trodAll_cons r0
  obtain ⟨rfl, rfl, rfl⟩ := trodAll_nil r1
  obtain rfl : args = #[v0, v1] := by cases args; simp_all
  obtain ⟨rfl, rfl⟩ := trodVars_none hV
  obtain ⟨a0, len0, cap0, rfl⟩ := okWide_slice Ybaf.underlying22 (hval 0 22 v0 rfl rfl)
  obtain ⟨a1, len1, cap1, rfl⟩ := okWide_slice Ybaf.underlying23 (hval 1 23 v1 rfl rfl)
  have k0 := h0
  have k1 := h1
  have lt0 : ∀ x ∈ p0, x.block < W.heap.size := by obtain ⟨m, hm⟩ := k0; exact DataW.trod_lt m _ _ _ hm
  have lt1 : ∀ x ∈ p1, x.block < W.heap.size := by obtain ⟨m, hm⟩ := k1; exact DataW.trod_lt m _ _ _ hm
  obtain ⟨ps, hlen0, hp, hS0⟩ : ∃ ps : List Int, ps.length = len0 ∧ (∀ p ∈ ps, -9223372036854775808 ≤ p ∧ p ≤ 9223372036854775807) ∧ SrcI .i64 a0 ps W := by
    obtain ⟨fuel, hf⟩ := h0
    rcases open_ints Ybaf.underlying22 Ybaf.underlying2 (by kernel_rfl) hf with ⟨hcs, _⟩ | ⟨x, l, c, zs, hcs, _, hl, hm, hz, _, hcell, hwz⟩
    · simp [Value.cells] at hcs
      obtain ⟨rfl, rfl, rfl⟩ := hcs
      exact ⟨[], rfl, fun p hp => by simp at hp, .inl rfl⟩
    · simp [Value.cells] at hcs
      obtain ⟨rfl, rfl, rfl⟩ := hcs
      have hz' : zs.length = cap0 := by simpa using hz
      exact ⟨zs.take len0, by rw [List.length_take]; omega, fun p hp => bounds_i64 (hwz p (List.mem_of_mem_take hp)), src_of (by omega) hcell⟩
  obtain ⟨js, hlen1, hj, hS1⟩ : ∃ js : List Nat, js.length = len1 ∧ (∀ j ∈ js, j < 65536) ∧ SrcI .u16 a1 (js.map fun (j : Nat) => (j : Int)) W := by
    obtain ⟨fuel, hf⟩ := h1
    rcases open_ints Ybaf.underlying23 Ybaf.underlying27 (by kernel_rfl) hf with ⟨hcs, _⟩ | ⟨x, l, c, zs, hcs, _, hl, hm, hz, _, hcell, hwz⟩
    · simp [Value.cells] at hcs
      obtain ⟨rfl, rfl, rfl⟩ := hcs
      exact ⟨[], rfl, fun p hp => by simp at hp, .inl rfl⟩
    · simp [Value.cells] at hcs
      obtain ⟨rfl, rfl, rfl⟩ := hcs
      have hz' : zs.length = cap1 := by simpa using hz
      have hb : ∀ p ∈ zs.take len1, 0 ≤ p ∧ p ≤ 65535 := fun p hp => bounds_u16 (hwz p (List.mem_of_mem_take hp))
      refine ⟨(zs.take len1).map Int.toNat, by rw [List.length_map, List.length_take]; omega, fun j hj => ?_, ?_⟩
      · simp only [List.mem_map] at hj
        obtain ⟨p, hp, rfl⟩ := hj
        have := hb p hp
        omega
      · have e : ((zs.take len1).map Int.toNat).map (fun (j : Nat) => (j : Int)) = zs.take len1 := by
          rw [List.map_map]
          refine (List.map_congr_left fun p hp => ?_).trans (List.map_id _)
          have := hb p hp
          simp only [Function.comp, id]
          omega
        rw [e]
        exact src_of (by omega) hcell
  subst hlen0 hlen1
  clear hA0 hval0
  refine (exact_walk F a0 a1 cap0 cap1 ps js W (vars_of_laid hF hL) hp hj hS0 hS1).mono fun e W' ⟨he, bel⟩ => ?_
  subst he
  exact ⟨_, rfl, _, _, _, [], _, [], hW', trodAll_mk1 (shut_bool Ybaf.underlying4 _), (trodAll_cons_mk (Below.trod laidOut (by kernel_rfl) (of_decide_eq_true (by kernel_rfl)) k0 bel lt0) (trodAll_cons_mk (Below.trod laidOut (by kernel_rfl) (of_decide_eq_true (by kernel_rfl)) k1 bel lt1) trodAll_mk0)), rfl, bel.frame _, fun h => by cases h⟩

theorem stops : Ybaf.pinned.checked.prog.stops = ["fmt.Sprintf"] := by kernel_rfl
theorem stopKnobs : Ybaf.pinned.checked.prog.stopKnobs = [] := by kernel_rfl
theorem quiet (os : Os) : Stop.quiet Ybaf.pinned.checked.prog os := by
  intro k hk
  rw [stopKnobs] at hk
  cases hk

/-- THE STATEMENT. -/
theorem exact_proved : Rows.LawS0433BExactToldSaid :=
  Claim7.holds_of_told_tied_any_at .later 3 Ybaf.f3 "fmt.Sprintf" [] [] _ _ _ _ _ (by kernel_rfl) rfl rfl rfl laidOut (by kernel_rfl) rfl ⟨rfl, rfl, rfl, rfl, rfl, rfl, rfl⟩ rfl rfl (by kernel_rfl) (by kernel_rfl) Ybaf.func3 (by kernel_rfl)
    (of_decide_eq_true (by kernel_rfl)) (by unfold Func.isWrapper; rw [if_neg (of_decide_eq_false (by kernel_rfl))]; exact ⟨rfl, rfl⟩) stops.symm rfl stopKnobs.symm (by kernel_rfl)
    (by kernel_rfl) (by kernel_rfl) (by kernel_rfl) (by kernel_rfl) (by kernel_rfl) (by kernel_rfl) (by kernel_rfl) (by kernel_rfl) (by kernel_rfl) rfl (by kernel_rfl) rfl rfl
    rfl rfl
    rfl (by kernel_rfl) (by kernel_rfl) (by kernel_rfl) (by decide) (by kernel_rfl) lawS0433BExact_row_tie
    (OpenClaim.moreEntering_of (by kernel_rfl) (by kernel_rfl) (by kernel_rfl) (by kernel_rfl) (by kernel_rfl) (by kernel_rfl) (by kernel_rfl) (by kernel_rfl) (by kernel_rfl) (by kernel_rfl))
    ⟨_, WideRow.started_initial, quiet _⟩
    (fun os started _ H enc _ => exact_lifted os started H enc)
end Go.Proofs.YbulkhyeFmt
