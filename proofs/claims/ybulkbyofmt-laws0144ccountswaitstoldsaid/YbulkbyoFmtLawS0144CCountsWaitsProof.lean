/-
  The card of 'transact.LawS0144CCountsWaits': told and tied. Typed by the prover of this seat (an AI agent).
-/
import Derived.Test.YbulkbyoFmtCards
import Derived.Test.YbulkbyoFmtTie
import Derived.Test.YbulkbyoFmtMain
import Derived.Test.YbulkbyoFmtOpen
import Derived.ProofKit
import Derived.OpenShut
import Derived.OpenVars
import Derived.ShutString
import Derived.WalkSmall
import Derived.Stop.JoinedAt
import Derived.Stop.JoinedTold
import Derived.Stop.LaidErr
import Derived.SevenTiedAt
namespace Go.Proofs.YbulkbyoFmt
open Go.ChangeShapes Go.WideShapes Go.ChangeAt Go.RowKit Go.Kit
open Go.ChangeMaps (open_string shut_string)
open Go.Extern.Stop Go.Stop Go.Extern
set_option maxRecDepth 100000

theorem own : ownKnob Ybaf.prog.godebug = none := by kernel_rfl
theorem laidOutP : laidOutB Ybaf.pinned.checked.prog = true := by kernel_rfl
theorem laidOut : laidOutB Ybaf.prog = true := by kernel_rfl
theorem stops : Ybaf.pinned.checked.prog.stops = ["fmt.errorf, its operands' methods called"] := by kernel_rfl
theorem stopKnobs : Ybaf.pinned.checked.prog.stopKnobs = [] := by kernel_rfl
theorem quiet (os : Os) : Stop.quiet Ybaf.pinned.checked.prog os := by
  intro k hk
  rw [stopKnobs] at hk
  cases hk
abbrev nC : String := "example.com/transact/transact.ErrClosed"
abbrev nT : String := "example.com/transact/transact.ErrLockTimeout"
abbrev nD : String := "example.com/transact/transact.ErrDeadlock"
abbrev toS : ByteArray := { data := #[116, 114, 97, 110, 115, 97, 99, 116, 58, 32, 108, 111, 99, 107, 32, 119, 97, 105, 116, 32, 116, 105, 109, 101, 111, 117, 116] }
abbrev deS : ByteArray := { data := #[116, 114, 97, 110, 115, 97, 99, 116, 58, 32, 100, 101, 97, 100, 108, 111, 99, 107] }
abbrev clS : ByteArray := { data := #[116, 114, 97, 110, 115, 97, 99, 116, 58, 32, 115, 116, 111, 114, 101, 32, 99, 108, 111, 115, 101, 100] }
noncomputable def low : Nat := (World.holding Ybaf.prog default ⟨#[], #[], []⟩).heap.size
noncomputable def laidWorld (os : Os) : World :=
  let w0 := World.holding Ybaf.prog os ⟨#[.cells #[.string toS] 85, .cells #[.string deS] 85, .cells #[.string clS] 85], #[], []⟩
  { w0 with heap := ((w0.heap.modify 1 fun
      | .cells _ t frozen => .cells #[.iface 83 (.pointer (some ⟨low, 0, none⟩))] t frozen
      | o => o).modify 2 fun
      | .cells _ t frozen => .cells #[.iface 83 (.pointer (some ⟨low + 1, 0, none⟩))] t frozen
      | o => o).modify 0 fun
      | .cells _ t frozen => .cells #[.iface 83 (.pointer (some ⟨low + 2, 0, none⟩))] t frozen
      | o => o }
abbrev laid3 : List (String × DataW Unit) := [(nT, Rows.laid_example_com_transact_transact_ErrLockTimeout), (nD, Rows.laid_example_com_transact_transact_ErrDeadlock), (nC, Rows.laid_example_com_transact_transact_ErrClosed)]
theorem laid_met (os : Os) (args : Array Value) : laidMet Ybaf.prog laid3 ((laidWorld os).forCall (fun _ _ => 0) ⟨#[], args, []⟩).memory :=
  laidMet_of_run (ps := [.cell 1 0, .cell low 0, .cell 2 0, .cell (low + 1) 0, .cell 0 0, .cell (low + 2) 0]) 8 (by kernel_rfl) (by kernel_rfl) (by kernel_rfl)

theorem vars_three {H : Type} {enc : TypeId × Value → H} {w : World} {sp : Nat → Bool} {a b c : String} : ∀ {gs : List (DataW H)} {ps : List MemPlace}, DataW.TrodVars enc Ybaf.prog w sp [a, b, c] gs ps → ∃ g1 g2 g3, gs = [g1, g2, g3]
  | [], _, h => h.elim
  | [_], _, h => by obtain ⟨_, _, _, _, _, _, _, _, _, _, hs, _⟩ := h; exact hs.elim
  | [_, _], _, h => by obtain ⟨_, _, _, _, _, _, _, _, _, _, hs, _⟩ := h; obtain ⟨_, _, _, _, _, _, _, _, _, _, hs, _⟩ := hs; exact hs.elim
  | [g1, g2, g3], _, _ => ⟨g1, g2, g3, rfl⟩
  | _ :: _ :: _ :: _ :: _, _, h => by obtain ⟨_, _, _, _, _, _, _, _, _, _, hs, _⟩ := h; obtain ⟨_, _, _, _, _, _, _, _, _, _, hs, _⟩ := hs; obtain ⟨_, _, _, _, _, _, _, _, _, _, hs, _⟩ := hs; exact hs.elim

theorem lifted (os : Os) (started : os.Started) (H : Type) (enc : TypeId × Value → H) :
    ReturnsInTold none {} Ybaf.checked os 3 .any Input.okWide ((OpenSpec.ofChange Rows.lawS0144CCountsWaitsSpec).preRow enc Ybaf.prog Ybaf.f3 [] false laid3) (fun F => ((OpenSpec.ofChange Rows.lawS0144CCountsWaitsSpec).at F).post enc Ybaf.prog Ybaf.f3 false true false false) (aloneAtReturn Ybaf.prog) nothingAlways := by
  refine returnsInTold_of_row (C := Ybaf.checked) (s := OpenSpec.ofChange Rows.lawS0144CCountsWaitsSpec) (by kernel_rfl) own started (by kernel_rfl) Ybaf.func3
    (OpenSpec.witness_stopped_at (enc := enc) (C := Ybaf.checked) false (laidWorld os) #[.int .u8 0, .int .u8 0, .string ⟨#[]⟩, .int .i64 0] rfl (by kernel_rfl) (by kernel_rfl) (by kernel_rfl)
      (OpenSpec.preRow_of_B rfl 8 (by kernel_rfl) (by kernel_rfl) (laid_met os _))) ?_
  intro F W base args ds gs before _ hF hval0 hW _ _ _ hL _
  have hval : ∀ (j : Nat) t v, Ybaf.f3.params[j]? = some t → args[j]? = some v → Value.okWide Ybaf.prog W .any base t v := hval0
  have hW' := hW
  obtain ⟨p, q, hA0, hV0, rfl, hfz, hnd⟩ := hW
  have hA : DataW.TrodAll enc Ybaf.prog W 0 (fun _ => true) true Ybaf.f3.params.toList args.toList ds p := hA0
  have hV : DataW.TrodVars enc Ybaf.prog W (fun _ => true) [nC, nT, nD] gs q := hV0
  have hAll := hA
  rw [Ybaf.params3] at hA hval
  obtain ⟨v0, vs0, d0, ds0, p0, q0, hargs, rfl, rfl, h0, r0⟩ := trodAll_cons hA
  obtain ⟨v1, vs1, d1, ds1, p1, q1, rfl, rfl, rfl, h1, r1⟩ := trodAll_cons r0
  obtain ⟨v2, vs2, d2, ds2, p2, q2, rfl, rfl, rfl, h2, r2⟩ := trodAll_cons r1
  obtain ⟨v3, vs3, d3, ds3, p3, q3, rfl, rfl, rfl, h3, r3⟩ := trodAll_cons r2
  obtain ⟨rfl, rfl, rfl⟩ := trodAll_nil r3
  obtain rfl : args = #[v0, v1, v2, v3] := by cases args; simp_all
  obtain ⟨g1, g2, g3, rfl⟩ := vars_three hV
  obtain ⟨n, rfl, rfl, rfl, w0⟩ := open_int Ybaf.underlying5 (hval 0 5 v0 rfl rfl) h0
  obtain ⟨m, rfl, rfl, rfl, w1⟩ := open_int Ybaf.underlying5 (hval 1 5 v1 rfl rfl) h1
  obtain ⟨key, rfl, rfl, rfl, hk⟩ := open_string Ybaf.underlying9 (hval 2 9 v2 rfl rfl) h2
  obtain ⟨dl, rfl, rfl, rfl, w3⟩ := open_int Ybaf.underlying2 (hval 3 2 v3 rfl rfl) h3
  clear hA0 hV0 hval0
  refine (waits_any n m dl key W (bounds_u8 w0).1 (bounds_u8 w0).2 (bounds_u8 w1).1 (bounds_u8 w1).2 hk).mono fun e W' ⟨he, bel⟩ => ?_
  subst he
  exact ⟨_, rfl, _, _, _, [], _, _, hW', trodAll_mk1 (shut_bool Ybaf.underlying4 _), LawOpen.all_below laidOut bel _ _ _ _ (by kernel_rfl) hAll, Below.trodVars laidOut bel (by kernel_rfl) hV, bel.frame _, fun h => by cases h⟩

theorem lawS0144CCountsWaits_proved : Rows.LawS0144CCountsWaitsToldSaid :=
  Claim7.holds_of_told_tied_any_at .later 3 Ybaf.f3 "fmt.errorf, its operands' methods called" [] [] _ _ _ [.sentinel, .sentinel, .sentinel] true (by kernel_rfl) rfl rfl rfl laidOutP (by kernel_rfl) rfl ⟨rfl, rfl, rfl, rfl, rfl, rfl, rfl⟩ rfl rfl (by kernel_rfl) (by kernel_rfl) Ybaf.func3 (by kernel_rfl)
    (of_decide_eq_true (by kernel_rfl)) (by unfold Func.isWrapper; rw [if_neg (of_decide_eq_false (by kernel_rfl))]; exact ⟨rfl, rfl⟩) stops.symm rfl stopKnobs.symm (by kernel_rfl)
    (by kernel_rfl) (by kernel_rfl) (by kernel_rfl) (by kernel_rfl) (by kernel_rfl) (by kernel_rfl) (by kernel_rfl) (by kernel_rfl) (by kernel_rfl) rfl (by kernel_rfl) rfl rfl
    rfl rfl
    rfl (by kernel_rfl) (by kernel_rfl) (by kernel_rfl) (by decide) (by kernel_rfl) lawS0144CCountsWaits_row_tie
    (OpenClaim.moreEntering_of (by kernel_rfl) (by kernel_rfl) (by kernel_rfl) (by kernel_rfl) (by kernel_rfl) (by kernel_rfl) (by kernel_rfl) (by kernel_rfl) (by kernel_rfl) (by kernel_rfl))
    ⟨_, WideRow.started_initial, quiet _⟩
    (fun os started _ H enc _ => lifted os started H enc)

#print axioms lawS0144CCountsWaits_proved
end Go.Proofs.YbulkbyoFmt
