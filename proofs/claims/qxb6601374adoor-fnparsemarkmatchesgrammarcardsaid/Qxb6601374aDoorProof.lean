import Derived.Test.Qxb6601374aDoorRows
import Derived.Test.Qxb6601374aDoorTop
import Derived.WalkKit
import Derived.ProofKit
import Derived.OpenShut
import Derived.ShutString
import Derived.LaidMore
import Derived.LaidLaws
import Derived.Stop.LaidErr
import Derived.Stop.Joined
namespace Go.Proofs.Qxb6601374aDoor.markLaw
open Go.ChangeShapes Go.WideShapes Go.ChangeAt Go.RowKit
open Go.ChangeMaps (open_string shut_string)

theorem own : ownKnob Tryd.prog.godebug = none := by kernel_rfl
theorem tES : (Tryd.prog.globals[3]?).map (·.type) = some 68 := by kernel_rfl
theorem tER : (Tryd.prog.globals[4]?).map (·.type) = some 68 := by kernel_rfl
theorem cells131 : Tryd.prog.cellsOf 131 = 1 := by kernel_rfl
theorem cells9 : Tryd.prog.cellsOf 9 = 1 := by kernel_rfl
/-- the name under which a datum of an interface's type is listed -/
def nmOf (d : DataW Unit) : String :=
  match d with
  | .iface n _ => n
  | _ => "none"

theorem row129 (u : TypeId) (h : Tryd.prog.typeName? 3 u = some (nmOf Rows.laid_strconv_ErrRange)) : u = 129 :=
  typeName_ptr_named (nm := "errors.errorString") (by kernel_rfl) (by kernel_rfl) (by decide) u (h.trans (by decide))

/-- what the listed variables give the walk -/
theorem sent_of {W : World} (h : laidMetH Tryd.prog Rows.fnParseMarkMatchesGrammarRow.laid W) : Sent W := by
  rw [MakeChecks.laidMetH_plain _ _ _ (by kernel_rfl)] at h
  have h4 : laidMet Tryd.prog (("strconv.ErrRange", Rows.laid_strconv_ErrRange) :: ("strconv.ErrSyntax", Rows.laid_strconv_ErrSyntax) :: []) W := h.tail.tail.tail
  obtain ⟨a0, s0, hv0, -, -, -⟩ := laid_sentinel h4 gER tER Tryd.underlying68 row129 Tryd.underlying129 Tryd.underlying131 rfl rfl Tryd.underlying9 cells131 cells9
  obtain ⟨a1, s1, hv1, -, -, -⟩ := laid_sentinel h4.tail gES tES Tryd.underlying68 row129 Tryd.underlying129 Tryd.underlying131 rfl rfl Tryd.underlying9 cells131 cells9
  have hlt : 4 < W.heap.size := by
    have h0 := World.var?_cell gER hv0 0
    have h1 : W.cell? ⟨4, 0, none⟩ = some (.iface 129 (.pointer (some a0))) := by simpa using h0
    exact Lib.lt_of_cell h1
  exact ⟨hlt, _, _, _, _, hv1, hv0⟩

/-- the door's own heap meets the condition -/
theorem door_met (os : Os) (args : Array Value) : laidMetH Tryd.prog Rows.fnParseMarkMatchesGrammarRow.laid ((World.doorLaid Tryd.prog 96 os).forCall (fun _ _ => 0) ⟨#[], args, []⟩).memory :=
  laidMetH_of_parts3 (fuel := 8) (laidMet_of_run' 8 (by kernel_rfl) (by kernel_rfl)) (by kernel_rfl) (by kernel_rfl)

set_option maxRecDepth 100000 in
theorem lifted (os : Os) (started : os.Started) (H : Type) (enc : TypeId × Value → H) :
    ReturnsInHanded {} Tryd.checked os 6 .any (fun w args => (Rows.fnParseMarkMatchesGrammarSpec.pre enc Tryd.prog Tryd.f6 [] false w args ∧ laidMetH Tryd.prog Rows.fnParseMarkMatchesGrammarRow.laid w) ∧ sizedMet enc Tryd.prog Tryd.f6 (OpenSpec.ofChange Rows.fnParseMarkMatchesGrammarSpec) false w args)
      (Rows.fnParseMarkMatchesGrammarSpec.post enc Tryd.prog Tryd.f6 false true false false) := by
  refine returnsInHanded_of_change_and (C := Tryd.checked) (X := fun w _ => laidMetH Tryd.prog Rows.fnParseMarkMatchesGrammarRow.laid w) (fun _ _ _ hh h => h.of_heap hh) own started (by kernel_rfl) Tryd.func6
    (ChangeSpec.witness_shaped (enc := enc) (C := Tryd.checked) (os := os) (X := fun w _ => laidMetH Tryd.prog Rows.fnParseMarkMatchesGrammarRow.laid w) false (World.doorLaid Tryd.prog 96 os) #[.string ByteArray.empty] 8 rfl (World.shaped_of_RefB (by kernel_rfl) (by kernel_rfl)) (by kernel_rfl) (by kernel_rfl) (by kernel_rfl) (door_met os _)) ?_
  intro W base args ds gs before hval0 hW _ _ hL _
  have hval : ∀ (j : Nat) t v, Tryd.f6.params[j]? = some t → args[j]? = some v → Value.okWide Tryd.prog W .any base t v := hval0
  have hW' := hW
  obtain ⟨p, q, hA0, hV, rfl, hfz, hnd⟩ := hW
  have hA : DataW.TrodAll enc Tryd.prog W 0 (fun _ => true) true Tryd.f6.params.toList args.toList ds p := hA0
  rw [Tryd.params6] at hA hval
  obtain ⟨v0, d0, rfl, rfl, h0⟩ := trodAll_one hA
  obtain ⟨rfl, rfl⟩ := trodVars_none hV
  obtain ⟨s, rfl, rfl, rfl, ws⟩ := open_string Tryd.underlying9 (hval 0 9 v0 rfl rfl) h0
  clear hA0 hval0
  simp only [List.append_nil] at hW'
  refine (top_all s W (sent_of hL)).mono fun e W' ⟨he, hb⟩ => ?_
  subst he
  exact ⟨_, rfl, _, _, _, [], [], [], hW', trodAll_mk1 (shut_bool Tryd.underlying4 _), trodAll_mk1 (shut_string Tryd.underlying9 ws), rfl, hb.frame _, fun h => by cases h⟩

theorem over : Rows.FnParseMarkMatchesGrammarSaid :=
  OpenClaim.holds_of_wide 6 Tryd.f6 rfl rfl rfl rfl rfl rfl rfl ⟨rfl, rfl, rfl, rfl, rfl⟩ rfl rfl rfl rfl rfl (by kernel_rfl) Tryd.func6 (by kernel_rfl)
    (of_decide_eq_true (by kernel_rfl)) (by unfold Func.isWrapper; first | (rw [if_pos (by decide +kernel)]; kernel_rfl) | (rw [if_neg (by decide +kernel)]; exact ⟨rfl, rfl⟩))
    (fun os started H enc _ => lifted os started H enc)

end Go.Proofs.Qxb6601374aDoor.markLaw
