/- THE TOLD CARD OF FnCheckLockNameIsTwoNames. -/
import Derived.Test.Qxb6621631aFmtFrame
import Derived.Test.Qxb6621631aFmtLawC
namespace Go.Proofs.Qxb6621631aFmt.lockName
open Go.ChangeShapes Go.WideShapes Go.ChangeAt Go.RowKit Go.Kit
open Go.Extern.Stop Go.Stop Go.Extern
open Go.ChangeMaps (open_string shut_string)

theorem walk (F : Interp) (s t : ByteArray) (w : World) (hF : F.answers w.tape) (hs : s.size ≤ maxLen) (ht : t.size ≤ maxLen) :
    Calls Tryf.prog 7 #[.string s, .string t] w fun e w' => e = .returned (.bool true) ∧ Below w.heap.size w w' := by
  by_cases hb : s.size ≤ 524288 ∧ t.size ≤ 524288
  · obtain ⟨b1, b2⟩ := hb
    have hj : wordB (s ++ t) ((s.size : Int) + (t.size : Int)) = (decide (1 ≤ s.size + t.size) && (okAll s && okAll t)) := by
      have e : (s.size : Int) + (t.size : Int) = ((s ++ t).size : Int) := by rw [ByteArray.size_append]; omega
      rw [e, word_own, okAll_append, ByteArray.size_append]
    have p1 : nameB s = (decide (1 ≤ s.size) && decide ((s.size : Int) ≤ 64) && okAll s) := word_parts s 64
    have p2 : nameB t = (decide (1 ≤ t.size) && decide ((t.size : Int) ≤ 64) && okAll t) := word_parts t 64
    cases h1 : nameB s with
    | true =>
      rw [h1] at p1
      have q1 := p1.symm
      simp only [Bool.and_eq_true, decide_eq_true_eq] at q1
      cases h2 : nameB t with
      | true =>
        rw [h2] at p2
        have q2 := p2.symm
        simp only [Bool.and_eq_true, decide_eq_true_eq] at q2
        refine law7_ttt F s t w hF b1 b2 h1 h2 ?_ q1.1.1 (by omega) q2.1.1 (by omega)
        rw [hj, q1.2, q2.2, decide_eq_true (by omega)]; rfl
      | false =>
        cases h3 : wordB (s ++ t) ((s.size : Int) + (t.size : Int)) with
        | false => exact law7_tff F s t w hF b1 b2 h1 h2 h3
        | true =>
          rw [h3] at hj
          have q3 := hj.symm
          simp only [Bool.and_eq_true, decide_eq_true_eq] at q3
          rw [h2, q3.2.2, Bool.and_true] at p2
          have q2 := p2.symm
          simp only [Bool.and_eq_false_iff, decide_eq_false_iff_not] at q2
          rcases q2 with q | q
          · exact law7_tft2 F s t w hF b1 b2 h1 h2 h3 (by omega)
          · exact law7_tft3 F s t w hF b1 b2 h1 h2 h3 (by omega)
    | false =>
      cases h3 : wordB (s ++ t) ((s.size : Int) + (t.size : Int)) with
      | false =>
        cases h2 : nameB t with
        | true => exact law7_ftf F s t w hF b1 b2 h1 h2 h3
        | false => exact law7_fff F s t w hF b1 b2 h1 h2 h3
      | true =>
        rw [h3] at hj
        have q3 := hj.symm
        simp only [Bool.and_eq_true, decide_eq_true_eq] at q3
        rw [h1, q3.2.1, Bool.and_true] at p1
        have q1 := p1.symm
        simp only [Bool.and_eq_false_iff, decide_eq_false_iff_not] at q1
        cases h2 : nameB t with
        | true =>
          rcases q1 with q | q
          · exact law7_ftt0 F s t w hF b1 b2 h1 h2 h3 (by omega)
          · exact law7_ftt1 F s t w hF b1 b2 h1 h2 h3 (by omega)
        | false =>
          rcases q1 with q | q
          · exact law7_fft0 F s t w hF b1 b2 h1 h2 h3 (by omega)
          · exact law7_fft1 F s t w hF b1 b2 h1 h2 h3 (by omega)
  · exact law7_long s t w hs ht hb

set_option maxRecDepth 100000 in
theorem lifted (os : Os) (started : os.Started) (H : Type) (enc : TypeId × Value → H) :
    ReturnsInTold none {} Tryf.checked os 7 .any Input.okWide ((OpenSpec.ofChange Rows.fnCheckLockNameIsTwoNamesSpec).preRow enc Tryf.prog Tryf.f7 [] false []) (fun F => ((OpenSpec.ofChange Rows.fnCheckLockNameIsTwoNamesSpec).at F).post enc Tryf.prog Tryf.f7 false true false false) (aloneAtReturn Tryf.prog) nothingAlways := by
  refine returnsInTold_of_row (C := Tryf.checked) (s := OpenSpec.ofChange Rows.fnCheckLockNameIsTwoNamesSpec) (by kernel_rfl) Tryf.own started (by kernel_rfl) Tryf.func7
    (OpenSpec.witness_stopped (enc := enc) (C := Tryf.checked) false ⟨#[], #[.string ByteArray.empty, .string ByteArray.empty], []⟩ 8 (by kernel_rfl) (by kernel_rfl) (by kernel_rfl) (by kernel_rfl)) ?_
  intro F W base args ds gs before _ hF hval0 hW _ _ _ _ _
  have hval : ∀ (j : Nat) t v, Tryf.f7.params[j]? = some t → args[j]? = some v → Value.okWide Tryf.prog W .any base t v := hval0
  have hW' := hW
  obtain ⟨p, q, hA0, hV, rfl, hfz, hnd⟩ := hW
  have hA : DataW.TrodAll enc Tryf.prog W 0 (fun _ => true) true Tryf.f7.params.toList args.toList ds p := hA0
  rw [Tryf.params7] at hA hval
  obtain ⟨v0, v1, d0, d1, p0, p1, rfl, rfl, rfl, h0, h1⟩ := trodAll_two hA
  obtain ⟨rfl, rfl⟩ := trodVars_none hV
  obtain ⟨s, rfl, rfl, rfl, hs⟩ := open_string Tryf.underlying9 (hval 0 9 v0 rfl rfl) h0
  obtain ⟨t, rfl, rfl, rfl, ht⟩ := open_string Tryf.underlying9 (hval 1 9 v1 rfl rfl) h1
  clear hA0 hval0
  refine (walk F.told s t W hF hs ht).mono fun e W' ⟨he, bel⟩ => ?_
  subst he
  exact ⟨_, rfl, _, _, _, [], [], [], hW', trodAll_mk1 (shut_bool Tryf.underlying4 _), trodAll_mk2 (shut_string Tryf.underlying9 hs) (shut_string Tryf.underlying9 ht), rfl, bel.frame _, fun h => by cases h⟩

theorem proved : Rows.FnCheckLockNameIsTwoNamesToldSaid :=
  Claim7.holds_of_told_any 7 Tryf.f7 "fmt.errorf" [] [] _ _ _ (by kernel_rfl) rfl rfl rfl Tryf.laidOut (by kernel_rfl) rfl ⟨rfl, rfl, rfl, rfl, rfl, rfl, rfl⟩ rfl rfl (by kernel_rfl) (by kernel_rfl) Tryf.func7 (by kernel_rfl)
    (of_decide_eq_true (by kernel_rfl)) (of_decide_eq_true (by kernel_rfl)) Tryf.stops.symm rfl Tryf.stopKnobs.symm (by kernel_rfl)
    (by kernel_rfl) (by kernel_rfl) (by kernel_rfl) (by kernel_rfl) (by kernel_rfl) (by kernel_rfl) (by kernel_rfl) (by kernel_rfl) (by kernel_rfl) rfl (by kernel_rfl) rfl rfl
    rfl rfl
    rfl (by kernel_rfl) (by kernel_rfl) (by kernel_rfl) (by decide) (by kernel_rfl)
    (OpenClaim.moreEntering_of (by kernel_rfl) (by kernel_rfl) (by kernel_rfl) (by kernel_rfl) (by kernel_rfl) (by kernel_rfl) (by kernel_rfl) (by kernel_rfl) (by kernel_rfl) (by kernel_rfl))
    ⟨_, WideRow.started_initial, Tryf.quiet _⟩
    (fun os started _ H enc _ => lifted os started H enc)
#print axioms proved
end Go.Proofs.Qxb6621631aFmt.lockName
