/- THE TOLD CARD OF FnCheckNameCutAnywhere. -/
import Derived.Test.Qxb6621631aFmtFrame
import Derived.Test.Qxb6621631aFmtLawB
namespace Go.Proofs.Qxb6621631aFmt.nameCut
open Go.ChangeShapes Go.WideShapes Go.ChangeAt Go.RowKit Go.Kit
open Go.Extern.Stop Go.Stop Go.Extern
open Go.ChangeMaps (open_string shut_string)

theorem walk (F : Interp) (s : ByteArray) (i : Int) (w : World) (hF : F.answers w.tape) (hs : s.size ≤ maxLen) :
    Calls Tryf.prog 6 #[.string s, .int .i64 i] w fun e w' => e = .returned (.bool true) ∧ Below w.heap.size w w' := by
  by_cases hb : s.size ≤ 1048576
  · by_cases hi : 1 ≤ i ∧ i < (s.size : Int)
    · obtain ⟨j, rfl⟩ := Int.eq_ofNat_of_zero_le (show 0 ≤ i by omega)
      have j1 : 1 ≤ j := by omega
      have j2 : j < s.size := by omega
      have z1 : (s.extract 0 j).size ≤ 1048576 := by rw [cut_left s j (by omega)]; omega
      have z2 : (s.extract j s.size).size ≤ 1048576 := by rw [cut_right]; omega
      have key := name_cut s j j1 j2
      cases h2 : nameB (s.extract 0 j) with
      | true =>
        cases h3 : nameB (s.extract j s.size) with
        | true =>
          rw [h2, h3] at key
          by_cases h64 : s.size ≤ 64
          · refine law6_ttt F s j w hF hb j1 j2 z1 z2 ?_ h2 h3 (decide_eq_true (by omega))
            rw [key, decide_eq_true h64]; rfl
          · refine law6_ftt F s j w hF hb j1 j2 z1 z2 ?_ h2 h3 (decide_eq_false (by omega))
            rw [key, decide_eq_false h64]; rfl
        | false => exact law6_ftf F s j w hF hb j1 j2 z1 z2 (by rw [key, h2, h3]; rfl) h2 h3
      | false =>
        cases h3 : nameB (s.extract j s.size) with
        | true => exact law6_fft F s j w hF hb j1 j2 z1 z2 (by rw [key, h2, h3]; rfl) h2 h3
        | false => exact law6_fff F s j w hF hb j1 j2 z1 z2 (by rw [key, h2, h3]; rfl) h2 h3
    · exact law6_out s i w hb hi
  · exact law6_long s i w hs hb

set_option maxRecDepth 100000 in
theorem lifted (os : Os) (started : os.Started) (H : Type) (enc : TypeId × Value → H) :
    ReturnsInTold none {} Tryf.checked os 6 .any Input.okWide ((OpenSpec.ofChange Rows.fnCheckNameCutAnywhereSpec).preRow enc Tryf.prog Tryf.f6 [] false []) (fun F => ((OpenSpec.ofChange Rows.fnCheckNameCutAnywhereSpec).at F).post enc Tryf.prog Tryf.f6 false true false false) (aloneAtReturn Tryf.prog) nothingAlways := by
  refine returnsInTold_of_row (C := Tryf.checked) (s := OpenSpec.ofChange Rows.fnCheckNameCutAnywhereSpec) (by kernel_rfl) Tryf.own started (by kernel_rfl) Tryf.func6
    (OpenSpec.witness_stopped (enc := enc) (C := Tryf.checked) false ⟨#[], #[.string ByteArray.empty, .int .i64 0], []⟩ 8 (by kernel_rfl) (by kernel_rfl) (by kernel_rfl) (by kernel_rfl)) ?_
  intro F W base args ds gs before _ hF hval0 hW _ _ _ _ _
  have hval : ∀ (j : Nat) t v, Tryf.f6.params[j]? = some t → args[j]? = some v → Value.okWide Tryf.prog W .any base t v := hval0
  have hW' := hW
  obtain ⟨p, q, hA0, hV, rfl, hfz, hnd⟩ := hW
  have hA : DataW.TrodAll enc Tryf.prog W 0 (fun _ => true) true Tryf.f6.params.toList args.toList ds p := hA0
  rw [Tryf.params6] at hA hval
  obtain ⟨v0, v1, d0, d1, p0, p1, rfl, rfl, rfl, h0, h1⟩ := trodAll_two hA
  obtain ⟨rfl, rfl⟩ := trodVars_none hV
  obtain ⟨s, rfl, rfl, rfl, hs⟩ := open_string Tryf.underlying9 (hval 0 9 v0 rfl rfl) h0
  obtain ⟨i, rfl, rfl, rfl, wi⟩ := open_int Tryf.underlying3 (hval 1 3 v1 rfl rfl) h1
  clear hA0 hval0
  refine (walk F.told s i W hF hs).mono fun e W' ⟨he, bel⟩ => ?_
  subst he
  exact ⟨_, rfl, _, _, _, [], [], [], hW', trodAll_mk1 (shut_bool Tryf.underlying4 _), trodAll_mk2 (shut_string Tryf.underlying9 hs) (shut_int Tryf.underlying3 wi), rfl, bel.frame _, fun h => by cases h⟩

theorem proved : Rows.FnCheckNameCutAnywhereToldSaid :=
  Claim7.holds_of_told_any 6 Tryf.f6 "fmt.errorf" [] [] _ _ _ (by kernel_rfl) rfl rfl rfl Tryf.laidOut (by kernel_rfl) rfl ⟨rfl, rfl, rfl, rfl, rfl, rfl, rfl⟩ rfl rfl (by kernel_rfl) (by kernel_rfl) Tryf.func6 (by kernel_rfl)
    (of_decide_eq_true (by kernel_rfl)) (of_decide_eq_true (by kernel_rfl)) Tryf.stops.symm rfl Tryf.stopKnobs.symm (by kernel_rfl)
    (by kernel_rfl) (by kernel_rfl) (by kernel_rfl) (by kernel_rfl) (by kernel_rfl) (by kernel_rfl) (by kernel_rfl) (by kernel_rfl) (by kernel_rfl) rfl (by kernel_rfl) rfl rfl
    rfl rfl
    rfl (by kernel_rfl) (by kernel_rfl) (by kernel_rfl) (by decide) (by kernel_rfl)
    (OpenClaim.moreEntering_of (by kernel_rfl) (by kernel_rfl) (by kernel_rfl) (by kernel_rfl) (by kernel_rfl) (by kernel_rfl) (by kernel_rfl) (by kernel_rfl) (by kernel_rfl) (by kernel_rfl))
    ⟨_, WideRow.started_initial, Tryf.quiet _⟩
    (fun os started _ H enc _ => lifted os started H enc)
#print axioms proved
end Go.Proofs.Qxb6621631aFmt.nameCut
