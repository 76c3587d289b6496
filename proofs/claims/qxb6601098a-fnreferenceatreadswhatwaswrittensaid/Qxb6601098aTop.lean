import Derived.Test.Qxb6601098aPlain
namespace Go.Proofs.Qxb6601098a
open Go.RowKit

def TopPost (w : World) (e : Ending) (w' : World) : Prop := e = .returned (.bool true) ∧ Grown w w'

set_option maxHeartbeats 1000000 in
theorem top_large (a0 a1 a2 : ByteArray) (d : Bool) (w : World) (h : 1048576 < a0.size + a1.size + a2.size) :
    Calls Try.prog 6 #[.string a0, .string a1, .string a2, .bool d] w (TopPost w) := by
  go_enter Try.func6, Try.ntmps6
  go_wp2_with (first | (go_at_call 19; refine (zzBytes_no _ _ _ _ _ h).mono ?_; rintro e w' ⟨rfl, rfl⟩))
  go_ret
  exact ⟨rfl, Grown.refl _⟩

set_option maxHeartbeats 1000000 in
theorem top_one (a0 a1 a2 : ByteArray) (d : Bool) (w : World) (h : a0.size + a1.size + a2.size ≤ 1048576) (h0 : 262144 < a0.size ∨ 262144 < a1.size ∨ 262144 < a2.size) :
    Calls Try.prog 6 #[.string a0, .string a1, .string a2, .bool d] w (TopPost w) := by
  go_enter Try.func6, Try.ntmps6
  go_wp2_with (first | (go_at_call 19; refine (zzBytes_yes _ _ _ _ _ h).mono ?_; rintro e w' ⟨rfl, rfl⟩))
  all_goals first | omega | (go_ret; exact ⟨rfl, Grown.refl _⟩)

set_option maxHeartbeats 1000000 in
theorem top_plain (a0 a1 a2 : ByteArray) (w : World) (h : a0.size + a1.size + a2.size ≤ 1048576) (h0 : a0.size ≤ 262144) (h1 : a1.size ≤ 262144) (h2 : a2.size ≤ 262144) :
    Calls Try.prog 6 #[.string a0, .string a1, .string a2, .bool false] w (TopPost w) := by
  go_enter Try.func6, Try.ntmps6
  go_wp2_with (first | (go_at_call 19; refine (zzBytes_yes _ _ _ _ _ h).mono ?_; rintro e w' ⟨rfl, rfl⟩))
  refine (zzValidName_any _ _ (by omega)).mono ?_
  rintro e w' ⟨b, rfl, hv, rfl⟩
  cases b
  · clear hv
    go_wp2
    go_ret
    exact ⟨rfl, Grown.refl _⟩
  · obtain ⟨hz, hN⟩ := hv rfl
    clear hv
    have HZ : Hid (NameTo a0 a0.size) := hN
    clear hN
    go_wp2_with fail
    refine (ref_plain a0 a2 h0 h2 hz HZ.out _).mono ?_
    rintro e w1 ⟨rfl, hg⟩
    go_wp2
    go_ret
    refine ⟨?_, hg⟩
    show Ending.returned (.bool _) = _
    simp

set_option maxHeartbeats 1000000 in
theorem top_dflt (a0 a1 a2 : ByteArray) (w : World) (h : a0.size + a1.size + a2.size ≤ 1048576) (h0 : a0.size ≤ 262144) (h1 : a1.size ≤ 262144) (h2 : a2.size ≤ 262144) :
    Calls Try.prog 6 #[.string a0, .string a1, .string a2, .bool true] w (TopPost w) := by
  go_enter Try.func6, Try.ntmps6
  go_wp2_with (first | (go_at_call 19; refine (zzBytes_yes _ _ _ _ _ h).mono ?_; rintro e w' ⟨rfl, rfl⟩))
  refine (zzValidName_any _ _ (by omega)).mono ?_
  rintro e w' ⟨b, rfl, hv, rfl⟩
  cases b
  · clear hv
    go_wp2
    go_ret
    exact ⟨rfl, Grown.refl _⟩
  · obtain ⟨hz, hN⟩ := hv rfl
    clear hv
    have HZ : Hid (NameTo a0 a0.size) := hN
    clear hN
    go_wp2_with fail
    refine (zzIndexByte_any _ _ _ (by omega)).mono ?_
    rintro e w' ⟨r, rfl, hr1, hr, rfl⟩
    by_cases hneg : r < 0
    · have HL : Hid (Lacks a1 125 a1.size) := hr hneg
      clear hr
      go_wp2_with fail
      refine (ref_dflt a0 a1 a2 h0 h1 h2 hz HZ.out HL.out _).mono ?_
      rintro e w1 ⟨rfl, hg⟩
      go_wp2
      go_ret
      refine ⟨?_, hg⟩
      show Ending.returned (.bool _) = _
      simp
    · have hge : 0 ≤ r := by omega
      clear hr
      go_wp2_with fail
      go_ret
      exact ⟨rfl, Grown.refl _⟩

theorem top_all (a0 a1 a2 : ByteArray) (d : Bool) (w : World) :
    Calls Try.prog 6 #[.string a0, .string a1, .string a2, .bool d] w (TopPost w) := by
  by_cases h : a0.size + a1.size + a2.size ≤ 1048576
  · by_cases h0 : a0.size ≤ 262144
    · by_cases h1 : a1.size ≤ 262144
      · by_cases h2 : a2.size ≤ 262144
        · cases d
          · exact top_plain a0 a1 a2 w h h0 h1 h2
          · exact top_dflt a0 a1 a2 w h h0 h1 h2
        · exact top_one a0 a1 a2 d w h (by omega)
      · exact top_one a0 a1 a2 d w h (by omega)
    · exact top_one a0 a1 a2 d w h (by omega)
  · exact top_large a0 a1 a2 d w (by omega)

end Go.Proofs.Qxb6601098a
