import Derived.Test.Qxb6608811aFmtCheck
import Derived.Test.Qxb6608811aFmtModel
namespace Go.Proofs.Qxb6608811aFmt.Main
open Go.ChangeShapes Go.WideShapes Go.ChangeAt Go.RowKit Qx11 Leaf Leaf2 CheckV Model
open Go.Extern.Stop Go.Stop Go.Extern

theorem idx_neg {n : Nat} {s : ByteArray} (h : (frm n (Ls s)).isEmpty = true) : idx n (Ls s) = -1 := by unfold idx; rw [if_pos h]
theorem idx_pos {n : Nat} {s : ByteArray} (h : (frm n (Ls s)).isEmpty = false) : 0 ≤ idx n (Ls s) := by unfold idx; rw [if_neg (by simp [h])]; omega

/-- CheckVersion, by the model -/
theorem check_yes (F : Interp) (s : ByteArray) (nw : Bool) (w : World) (hF : F.answers w.tape) (hs : s.size < 2097100) (hm : model (Ls s) = (true, nw)) :
    Calls Tryf.prog 6 #[.string s] w fun e w' => e = .returned (.tuple #[.bool nw, .nilIface]) ∧ Below w.heap.size w w' := by
  refine (check_any F s w hF hs).mono ?_
  rintro e w' ⟨hc, hb⟩
  refine ⟨?_, hb⟩
  unfold COk at hc
  rw [cv_model, hm] at hc
  rcases hc with ⟨_, h⟩ | ⟨h, _⟩
  · exact h
  · simp at h
theorem check_no (F : Interp) (s : ByteArray) (w : World) (hF : F.answers w.tape) (hs : s.size < 2097100) (hm : (model (Ls s)).1 = false) :
    Calls Tryf.prog 6 #[.string s] w fun e w' => (∃ a, e = .returned (.tuple #[.bool false, .iface 45 (.pointer (some a))])) ∧ Below w.heap.size w w' := by
  refine (check_any F s w hF hs).mono ?_
  rintro e w' ⟨hc, hb⟩
  refine ⟨?_, hb⟩
  unfold COk at hc
  rw [cv_model] at hc
  rcases hc with ⟨h, _⟩ | ⟨_, h⟩
  · rw [hm] at h; simp at h
  · exact h

set_option maxRecDepth 100000 in
set_option maxHeartbeats 4000000 in
theorem long (s b : ByteArray) (w : World) (h1 : s.size ≤ maxLen) (h2 : b.size ≤ maxLen) (hn : 1048576 < s.size + b.size) :
    Calls Tryf.prog 3 #[.string s, .string b] w fun e w' => e = .returned (.bool true) ∧ Below w.heap.size w w' := by
  unfold maxLen at h1 h2
  by_cases g1 : 1048576 < s.size
  · have h : (1048576 : Int) < (s.size : Int) := by omega
    go_enter Tryf.func3, Tryf.ntmps3
    go_wp2
    go_ret
    exact ⟨rfl, Below.refl _ _⟩
  · have h : ¬ (1048576 : Int) < (s.size : Int) := by omega
    by_cases g2 : 1048576 < b.size
    · have h' : (1048576 : Int) < (b.size : Int) := by omega
      go_enter Tryf.func3, Tryf.ntmps3
      go_wp2
      go_ret
      exact ⟨rfl, Below.refl _ _⟩
    · have h' : ¬ (1048576 : Int) < (b.size : Int) := by omega
      have h'' : (1048576 : Int) < (s.size : Int) + (b.size : Int) := by omega
      go_enter Tryf.func3, Tryf.ntmps3
      go_wp2
      go_ret
      exact ⟨rfl, Below.refl _ _⟩

set_option maxRecDepth 100000 in
set_option maxHeartbeats 4000000 in
theorem main (F : Interp) (s b : ByteArray) (w : World) (hF : F.answers w.tape) (hn : s.size + b.size ≤ 1048576) :
    Calls Tryf.prog 3 #[.string s, .string b] w fun e w' => e = .returned (.bool true) ∧ Below w.heap.size w w' := by
  have hs20 : decide ((1048576 : Int) < (s.size : Int)) = false := by simp; omega
  have hb20 : decide ((1048576 : Int) < (b.size : Int)) = false := by simp; omega
  have hsb20 : decide ((1048576 : Int) < (s.size : Int) + (b.size : Int)) = false := by simp; omega
  have HF : Hid (F.answers w.tape) := hF
  clear hF
  have CM := fun w => model_any s w (by omega)
  have hsum1 : ¬ 9223372036854775807 < s.size + 1 := by omega
  have hsum2 : ¬ 9223372036854775807 < s.size + 1 + b.size := by omega
  have HLX : Hid (Ls (s ++ (⟨#[43]⟩ : ByteArray) ++ b) = Ls s ++ 43 :: Ls b) := by
    show _ = _; rw [Ls_append, Ls_append, List.append_assoc]; rfl
  have HSX : Hid ((s ++ (⟨#[43]⟩ : ByteArray) ++ b).size < 2097100) := by
    show _ < _
    rw [← Ls_len, HLX.out, List.length_append, List.length_cons, Ls_len, Ls_len]; omega
  have hmb := model_build (Ls s) (Ls b)
  obtain ⟨⟨ok, nw⟩, hm⟩ : ∃ m, m = model (Ls s) := ⟨_, rfl⟩
  rw [← hm] at CM hmb
  simp only at CM hmb
  have HCM : Hid (∀ w, Calls Tryf.prog 5 #[.string s] w fun e w' => e = .returned (.tuple #[.bool ok, .bool nw]) ∧ w' = w) := CM
  clear CM
  cases ok with
  | false =>
    have hnw : nw = false := by
      have := model_no (l := Ls s) (by rw [← hm])
      rw [← hm] at this
      simpa using this
    subst hnw
    have HM1 : Hid ((model (Ls s)).1 = false) := by show _ = _; rw [← hm]
    have HM2 : Hid ((model (Ls (s ++ (⟨#[43]⟩ : ByteArray) ++ b))).1 = false) := by show _ = _; rw [HLX.out, hmb]; rfl
    clear hmb hm
    go_enter Tryf.func3, Tryf.ntmps3
    go_wp2_with (first | (go_at_call 4; go_in) | fail)
    refine (HCM.out _).mono ?_
    rintro e w1 ⟨rfl, rfl⟩
    go_wp2_with fail
    refine (check_no F s _ HF.out (by omega) HM1.out).mono ?_
    rintro e w2 ⟨⟨a, rfl⟩, hb2⟩
    have HB2 : Hid (Below w1.heap.size w1 w2) := hb2
    clear hb2
    go_wp2_with fail
    refine (check_no F (s ++ (⟨#[43]⟩ : ByteArray) ++ b) _ (by rw [HB2.out.tape]; exact HF.out) HSX.out HM2.out).mono ?_
    rintro e w3 ⟨⟨a2, rfl⟩, hb3⟩
    have HB3 : Hid (Below w1.heap.size w1 w3) := HB2.out.trans (hb3.mono HB2.out.size)
    clear hb3
    go_wp2_with fail
    go_ret
    exact ⟨rfl, HB3.out⟩
  | true =>
    have HM1 : Hid (model (Ls s) = (true, nw)) := hm.symm
    have CI := fun w => index_any s 43 w (by omega)
    cases hfe : (frm 43 (Ls s)).isEmpty with
    | false =>
      have HM2 : Hid ((model (Ls (s ++ (⟨#[43]⟩ : ByteArray) ++ b))).1 = false) := by show _ = _; rw [HLX.out, hmb, hfe]; rfl
      have hip := idx_pos hfe
      generalize idx 43 (Ls s) = ix at *
      have HCI : Hid (∀ w, Calls Tryf.prog 7 #[.string s, .int .u8 43] w fun e w' => e = .returned (.int .i64 ix) ∧ w' = w) := CI
      clear CI hfe hmb hm
      go_enter Tryf.func3, Tryf.ntmps3
      go_wp2_with (first | (go_at_call 4; go_in) | fail)
      refine (HCM.out _).mono ?_
      rintro e w1 ⟨rfl, rfl⟩
      go_wp2_with fail
      refine (check_yes F s nw _ HF.out (by omega) HM1.out).mono ?_
      rintro e w2 ⟨rfl, hb2⟩
      have HB2 : Hid (Below w1.heap.size w1 w2) := hb2
      clear hb2
      go_wp2_with fail
      refine (check_no F (s ++ (⟨#[43]⟩ : ByteArray) ++ b) _ (by rw [HB2.out.tape]; exact HF.out) HSX.out HM2.out).mono ?_
      rintro e w3 ⟨⟨a2, rfl⟩, hb3⟩
      have HB3 : Hid (Below w1.heap.size w1 w3) := HB2.out.trans (hb3.mono HB2.out.size)
      clear hb3
      go_wp2_with fail
      refine (HCI.out _).mono ?_
      rintro e w4 ⟨rfl, rfl⟩
      go_wp2_with fail
      go_ret
      exact ⟨rfl, HB3.out⟩
    | true =>
      rw [idx_neg hfe] at CI
      have HCI : Hid (∀ w, Calls Tryf.prog 7 #[.string s, .int .u8 43] w fun e w' => e = .returned (.int .i64 (-1)) ∧ w' = w) := CI
      have CB := fun w => idents_any b false w (by omega)
      cases hib : idents false (Ls b) with
      | false =>
        rw [hib] at CB
        have HCB : Hid (∀ w, Calls Tryf.prog 8 #[.string b, .bool false] w fun e w' => e = .returned (.bool false) ∧ w' = w) := CB
        have HM2 : Hid ((model (Ls (s ++ (⟨#[43]⟩ : ByteArray) ++ b))).1 = false) := by show _ = _; rw [HLX.out, hmb, hfe, hib]; rfl
        clear CI CB hfe hmb hm hib
        go_enter Tryf.func3, Tryf.ntmps3
        go_wp2_with (first | (go_at_call 4; go_in) | fail)
        refine (HCM.out _).mono ?_
        rintro e w1 ⟨rfl, rfl⟩
        go_wp2_with fail
        refine (check_yes F s nw _ HF.out (by omega) HM1.out).mono ?_
        rintro e w2 ⟨rfl, hb2⟩
        have HB2 : Hid (Below w1.heap.size w1 w2) := hb2
        clear hb2
        go_wp2_with fail
        refine (check_no F (s ++ (⟨#[43]⟩ : ByteArray) ++ b) _ (by rw [HB2.out.tape]; exact HF.out) HSX.out HM2.out).mono ?_
        rintro e w3 ⟨⟨a2, rfl⟩, hb3⟩
        have HB3 : Hid (Below w1.heap.size w1 w3) := HB2.out.trans (hb3.mono HB2.out.size)
        clear hb3
        go_wp2_with fail
        refine (HCI.out _).mono ?_
        rintro e w4 ⟨rfl, rfl⟩
        go_wp2_with fail
        refine (HCB.out _).mono ?_
        rintro e w5 ⟨rfl, rfl⟩
        go_wp2_with fail
        go_ret
        exact ⟨rfl, HB3.out⟩
      | true =>
        rw [hib] at CB
        have HCB : Hid (∀ w, Calls Tryf.prog 8 #[.string b, .bool false] w fun e w' => e = .returned (.bool true) ∧ w' = w) := CB
        have HM2 : Hid (model (Ls (s ++ (⟨#[43]⟩ : ByteArray) ++ b)) = (true, nw)) := by show _ = _; rw [HLX.out, hmb, hfe, hib]; rfl
        clear CI CB hfe hmb hm hib
        go_enter Tryf.func3, Tryf.ntmps3
        go_wp2_with (first | (go_at_call 4; go_in) | fail)
        refine (HCM.out _).mono ?_
        rintro e w1 ⟨rfl, rfl⟩
        go_wp2_with fail
        refine (check_yes F s nw _ HF.out (by omega) HM1.out).mono ?_
        rintro e w2 ⟨rfl, hb2⟩
        have HB2 : Hid (Below w1.heap.size w1 w2) := hb2
        clear hb2
        go_wp2_with fail
        refine (check_yes F (s ++ (⟨#[43]⟩ : ByteArray) ++ b) nw _ (by rw [HB2.out.tape]; exact HF.out) HSX.out HM2.out).mono ?_
        rintro e w3 ⟨rfl, hb3⟩
        have HB3 : Hid (Below w1.heap.size w1 w3) := HB2.out.trans (hb3.mono HB2.out.size)
        clear hb3
        go_wp2_with fail
        refine (HCI.out _).mono ?_
        rintro e w4 ⟨rfl, rfl⟩
        go_wp2_with fail
        refine (HCB.out _).mono ?_
        rintro e w5 ⟨rfl, rfl⟩
        go_wp2_with fail
        go_ret
        exact ⟨by simp, HB3.out⟩
end Go.Proofs.Qxb6608811aFmt.Main
