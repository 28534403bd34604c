/-
  THE TOLD ROW, as far as 'ReturnsInTold': fmt's text to the byte, then the law's walk.
-/
import Derived.Test.Qxb6612361aFmtLaw
import Derived.ProofKit
import Derived.ShutString
import Derived.OpenShut
import Derived.ChangeOld
import Derived.Stop.JoinedAt
import Derived.Stop.Texts
import Derived.Stop.JoinedTold
import Derived.Stop.FmtTextKit
import Derived.Stop.FmtTextVerbs
import Derived.SizedLaws
namespace Go.Proofs.Qxb6612361aFmt
open Go.ChangeShapes Go.WideShapes Go.ChangeAt Go.RowKit Go.Kit
open Go.ChangeMaps (open_string shut_string)
open Go.Extern.Stop Go.Stop Go.Extern
set_option linter.unusedVariables false

theorem Tryf.own : ownKnob Tryf.prog.godebug = none := by kernel_rfl

theorem t_parse : (FmtText.parse [118, 105, 101, 119, 32, 97, 116, 32, 37, 100, 58, 32, 37, 118]).map FmtText.glue = some [.lit [118, 105, 101, 119, 32, 97, 116, 32], .verb {} 100, .lit [58, 32], .verb {} 118] := by rfl

/-- THE VERY BYTES. -/
def tText (t : Int) (msg : List UInt8) : List UInt8 := [118, 105, 101, 119, 32, 97, 116, 32] ++ (Lib.itoa t ++ (58 :: 32 :: msg))

theorem t_text (t : Int) (msg : List UInt8) (hw : (Lit.int .i64 t).wf = true) : FmtText.text "fmt.Sprintf" (reading t msg) = some (tText t msg) := by
  rw [reading, FmtText.text_sprintf_glued t_parse (FmtText.operands_cons (FmtText.operand_int_at (sh := Tryf.shape2) (k := .i64) rfl rfl t hw) (FmtText.operands_cons (FmtText.operand_plain_at (sh := Tryf.plain32) rfl (FmtText.unpack_pack _ (by decide)) msg) FmtText.operands_nil))]
  simp [FmtText.render, FmtText.printArg_d _ _ hw, FmtText.printArg_v_said, tText]

set_option maxRecDepth 100000 in
theorem t_lifted (os : Os) (started : os.Started) (H : Type) (enc : TypeId × Value → H) :
    ReturnsInTold none {} Tryf.checked os 3 .any Input.okWide ((OpenSpec.ofChange Rows.fnViewErrorTextRoundTripSpec).preRow enc Tryf.prog Tryf.f3 [] false []) (fun F => ((OpenSpec.ofChange Rows.fnViewErrorTextRoundTripSpec).at F).post enc Tryf.prog Tryf.f3 false true false false) (aloneAtReturn Tryf.prog) nothingAlways := by
  refine returnsInTold_of_row (C := Tryf.checked) (s := OpenSpec.ofChange Rows.fnViewErrorTextRoundTripSpec) (by kernel_rfl) Tryf.own started (by kernel_rfl) Tryf.func3
    (OpenSpec.witness_stopped (enc := enc) (C := Tryf.checked) false ⟨#[], #[.int .i64 1, .string ByteArray.empty], []⟩ 8 (by kernel_rfl) (by kernel_rfl) (by kernel_rfl) (by kernel_rfl)) ?_
  intro F W base args ds gs before _ hF hval0 hW _ _ hsz _ _
  have hval : ∀ (j : Nat) t v, Tryf.f3.params[j]? = some t → args[j]? = some v → Value.okWide Tryf.prog W .any base t v := hval0
  have hW' := hW
  obtain ⟨p, q, hA0, hV, rfl, hfz, hnd⟩ := hW
  have hA : DataW.TrodAll enc Tryf.prog W 0 (fun _ => true) true Tryf.f3.params.toList args.toList ds p := hA0
  rw [Tryf.params3] at hA hval
  obtain ⟨v0, vs0, d0, ds0, p0, q0, hargs, rfl, rfl, h0, r0⟩ := trodAll_cons hA
  obtain ⟨v1, vs1, d1, ds1, p1, q1, rfl, rfl, rfl, h1, r1⟩ := trodAll_cons r0
  obtain ⟨rfl, rfl, rfl⟩ := trodAll_nil r1
  obtain rfl : args = #[v0, v1] := by cases args; simp_all
  obtain ⟨rfl, rfl⟩ := trodVars_none hV
  obtain ⟨t, rfl, rfl, rfl, wt⟩ := open_int Tryf.underlying2 (hval 0 2 v0 rfl rfl) h0
  obtain ⟨msg, rfl, rfl, rfl, wm⟩ := open_string Tryf.underlying9 (hval 1 9 v1 rfl rfl) h1
  clear hA0 hval0
  obtain ⟨t0, t1⟩ : -9223372036854775808 ≤ t ∧ t ≤ 9223372036854775807 := by
    have := FmtText.int_bounds wt
    simpa [IntKind.min, IntKind.max, IntKind.signed, IntKind.bits] using this
  have hlaw : Calls Tryf.prog 3 #[.int .i64 t, .string msg] W fun e w' => e = .returned (.bool true) ∧ Below W.heap.size W w' := by
    by_cases hm : 1048576 < msg.size
    · exact law_big t msg W wm hm
    · have hml : msg.data.toList.length = msg.size := (size_list msg).symm
      have hil := FmtText.itoa_length_le wt
      have ht := told_string F (t_text t msg.data.toList wt) (by simp [tText]; omega)
      have hv := view5 F.told t msg W hF
      refine law_any t msg _ W (by omega) t0 t1 ?_ hv
      rw [textOf_list, ht]
      rfl
  refine hlaw.mono fun e W' ⟨he, bel⟩ => ?_
  subst he
  exact ⟨_, rfl, _, _, _, [], _, [], hW', trodAll_mk1 (shut_bool Tryf.underlying4 _), trodAll_cons_mk (shut_int Tryf.underlying2 wt) (trodAll_cons_mk (shut_string Tryf.underlying9 wm) trodAll_mk0), rfl, bel.frame _, fun h => by cases h⟩

#print axioms t_lifted
end Go.Proofs.Qxb6612361aFmt
