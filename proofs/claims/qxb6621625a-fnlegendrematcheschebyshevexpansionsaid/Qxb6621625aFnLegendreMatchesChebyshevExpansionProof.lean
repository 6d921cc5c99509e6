/- THE PROOF OF 'Rows.FnLegendreMatchesChebyshevExpansionSaid': the frame is the guide's (its shells' law over a slice), turned to a float and a slice of floats; the walk is in Qxb6621625aLawM. -/
import Derived.Test.Qxb6621625aRows
import Derived.Test.Qxb6621625aLawM
import Derived.Test.Qxb6621625aFrame
import Derived.WalkKit
import Derived.ProofKit
import Derived.OpenShut
import Derived.ShutString
import Derived.ChangeOld
import Derived.Below
import Derived.Laws.Cover2
namespace Go.Proofs.Qxb6621625a.fnLegendreMatchesChebyshevExpansion
open Go.ChangeShapes Go.WideShapes Go.ChangeAt Go.RowKit
set_option linter.unusedVariables false

theorem walk (t : Nat) (a0 : Option Addr) (len0 cap0 : Nat) (w : World) (wt : (Lit.float .f64 t).wf = true) (w0 : IsRow w a0 len0 cap0) :
    Calls Try.prog 3 #[.float .f64 t, .slice a0 len0 cap0] w fun e w' => e = .returned (.bool true) ∧ Below w.heap.size w w' := by
  rcases w0 with ⟨rfl, rfl, rfl⟩ | ⟨x, zs, rfl, hm, rfl, hc⟩
  · exact lawM_nil t w
  · by_cases hb : zs.length ≤ 4096
    · refine lawM_row t (some x) cap0 zs w hb (clone_row x zs.length cap0 zs w rfl (by omega) hc fun h0 => ?_)
      have h1 := hc 0 (.float .f64 (zs.getD 0 0)) (by simp [FL, List.getD, List.getElem?_eq_getElem h0])
      have := World.block_lt_of_cell? w _ h1
      rwa [add_block] at this
    · exact lawM_long t (some x) zs.length cap0 w hm hb

set_option maxRecDepth 100000 in
theorem lifted (os : Os) (started : os.Started) (H : Type) (enc : TypeId × Value → H) :
    ReturnsInHanded {} Try.checked os 3 .any (Rows.fnLegendreMatchesChebyshevExpansionSpec.pre6 enc Try.prog Try.f3 Rows.fnLegendreMatchesChebyshevExpansionRow.domain false) (Rows.fnLegendreMatchesChebyshevExpansionSpec.post enc Try.prog Try.f3 false true false false) := by
  refine returnsInHanded_of_change (C := Try.checked) own started (by kernel_rfl) Try.func3
    (ChangeSpec.witness6 (enc := enc) (C := Try.checked) false ⟨#[], #[.float .f64 0, .slice none 0 0], []⟩ 8 (by kernel_rfl) (by kernel_rfl) (by kernel_rfl) (by kernel_rfl)) ?_
  intro W base args ds gs before hval0 hW hcnd _
  have hval : ∀ (j : Nat) t v, Try.f3.params[j]? = some t → args[j]? = some v → Value.okWide Try.prog W .any base t v := hval0
  have hW' := hW
  obtain ⟨p, q, hA0, hV, rfl, hfz, hnd⟩ := hW
  have hA : DataW.TrodAll enc Try.prog W 0 (fun _ => true) true Try.f3.params.toList args.toList ds p := hA0
  rw [Try.params3] at hA hval
  obtain ⟨v0, vs0, d0, ds0, p0, q0, hargs, rfl, rfl, h0, r0⟩ := trodAll_cons hA
  obtain ⟨v1, vs1, d1, ds1, p1, q1, rfl, rfl, rfl, h1, r1⟩ := trodAll_cons r0
  obtain ⟨rfl, rfl, rfl⟩ := trodAll_nil r1
  obtain rfl : args = #[v0, v1] := by cases args; simp_all
  obtain ⟨rfl, rfl⟩ := trodVars_none hV
  obtain ⟨t, rfl, rfl, rfl, wt⟩ := open_float Try.underlying22 (hval 0 22 v0 rfl rfl) h0
  obtain ⟨a1, len1, cap1, rfl⟩ := okWide_slice Try.underlying23 (hval 1 23 v1 rfl rfl)
  have k1 := h1
  have lt1 : ∀ x ∈ p1, x.block < W.heap.size := by obtain ⟨m, hm⟩ := k1; exact DataW.trod_lt m _ _ _ hm
  have w1 : IsRow W a1 len1 cap1 := by
    obtain ⟨fuel, hf⟩ := h1
    exact row_of hf
  clear hA0 hval0
  refine (walk t a1 len1 cap1 W wt w1).mono fun e W' ⟨he, bel⟩ => ?_
  subst he
  exact ⟨_, rfl, _, _, _, [], _, [], hW', trodAll_mk1 (shut_bool Try.underlying4 _), (trodAll_cons_mk (shut_float Try.underlying22 wt) (trodAll_cons_mk (Below.trod laidOut (by kernel_rfl) (of_decide_eq_true (by kernel_rfl)) k1 bel lt1) trodAll_mk0)), rfl, bel.frame _, fun h => by cases h⟩

theorem over : Rows.fnLegendreMatchesChebyshevExpansionRow.holds Try.pinned (OpenSpec.ofChange Rows.fnLegendreMatchesChebyshevExpansionSpec) :=
  OpenClaim.holds_of_wide 3 Try.f3 rfl rfl rfl rfl rfl rfl rfl ⟨rfl, rfl, rfl, rfl, rfl⟩ rfl rfl rfl rfl rfl (by kernel_rfl) Try.func3 (by kernel_rfl)
    (of_decide_eq_true (by kernel_rfl)) (by unfold Func.isWrapper; first | (rw [if_pos (by decide +kernel)]; kernel_rfl) | (rw [if_neg (by decide +kernel)]; exact ⟨rfl, rfl⟩))
    (fun os started H enc _ => lifted os started H enc)

/-- THE STATEMENT -/
theorem proved : Rows.FnLegendreMatchesChebyshevExpansionSaid := over
#print axioms proved
end Go.Proofs.Qxb6621625a.fnLegendreMatchesChebyshevExpansion
