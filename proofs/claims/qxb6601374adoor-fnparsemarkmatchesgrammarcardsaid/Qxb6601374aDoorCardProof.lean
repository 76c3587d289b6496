import Derived.Test.Qxb6601374aDoorProof
import Derived.Test.Qxb6601374aDoorTie
import Derived.Test.Qxb6601374aDoorCards
import Derived.SevenTiedAt
namespace Go.Proofs.Qxb6601374aDoor
open Go

theorem parseMarkGrammar_card : Rows.FnParseMarkMatchesGrammarCardSaid :=
  Claim7.holds_tied_plain_at .later [] [.data, .data, .data, .sentinel, .sentinel] true (true, "28e0e3c3dcbfc65b5bf45dc735022be774cdeceed6629814c8c9d8f596ead259") true
    markLaw.over (fun _ h => by cases h) (by kernel_rfl) (fun _ h => by cases h) fnParseMarkMatchesGrammar_row_tie rfl ⟨rfl, rfl⟩ (by kernel_rfl) rfl
    (fun f fn hf hfn => by
      obtain rfl : f = 6 := Option.some.inj ((show Tryd.prog.funcNamed Rows.fnParseMarkMatchesGrammarRow.func = some 6 by kernel_rfl).symm.trans hf) |>.symm
      obtain rfl : fn = Tryd.f6 := (Option.some.inj (Tryd.func6.symm.trans hfn)).symm
      exact ⟨by kernel_rfl, fun j t ht => by
        rw [Tryd.params6] at ht
        have hm : t ∈ [9] := by simpa using Array.mem_of_getElem? ht
        have hall : ([9].all fun u => !Tryd.prog.wantsStandIn u) = true := by kernel_rfl
        exact (show Tryd.prog.wantsStandIn t = false by simpa using List.all_eq_true.1 hall t hm)⟩)
    (by kernel_rfl)

end Go.Proofs.Qxb6601374aDoor
