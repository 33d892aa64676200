import Derived.Test.Qxb6608811aFmtParse
import Derived.Test.Qxb6608811aFmtPlain3
namespace Go.Proofs.Qxb6608811aFmt.Callers
open Go.ChangeShapes Go.WideShapes Go.ChangeAt Go.RowKit Qx11 Leaf PInt PPre Parse

theorem ne_empty {d : ByteArray} (h : 0 < d.size) : (!d.toList.isEmpty) = true := by rw [empty_not h]; rfl
theorem is_empty {d : ByteArray} (h : d.size = 0) : (!d.toList.isEmpty) = false := by rw [empty_yes h]; rfl
theorem isEmpty_Ls (d : ByteArray) : (Ls d).isEmpty = d.toList.isEmpty := by rw [tl]
theorem len_cons {s : ByteArray} (hp : 0 < s.size) : (tl1 (Ls s)).length + 1 = s.size := by
  unfold tl1; rw [List.length_drop, Ls_len]; omega
theorem full {s : ByteArray} (hp : 0 < s.size) (hx : s[0].toNat = 118) : Ls s = 118 :: tl1 (Ls s) := by
  have := Ls_cons hp; rw [u8_eq (by decide) hx] at this; exact this

set_option maxRecDepth 100000 in
set_option maxHeartbeats 2000000 in
theorem canon_any (s : ByteArray) (w : World) (hs : s.size < 2097152) (hp : 0 < s.size) (hx0 : s[0].toNat = 118) :
    Calls Tryf.prog 10 #[.string s] w fun e w' => (∃ r, e = .returned (.string r) ∧ Ls r = canonL (tl1 (Ls s)) ∧ r.size ≤ s.size + 4) ∧ Below w.heap.size w w' := by
  have HX0 : Hid (s[0].toNat = 118) := hx0
  clear hx0
  go_enter Tryf.func10, Tryf.ntmps10
  go_wp2_with fail
  refine (parse_any s _ hs hp HX0.out).mono ?_
  rintro e w1 ⟨hpo, hb⟩
  have HB : Hid (Below w.heap.size w w1) := hb
  have hsz := hb.size
  clear hb
  rcases hpo with ⟨hn, s0, s1, s2, s3, s4, s5, rfl⟩ | ⟨a, b, c, h, p, d, hpp, rfl⟩
  · have HF : Hid (canonL (tl1 (Ls s)) = []) := by show canonL _ = _; unfold canonL; rw [hn]
    clear hn
    go_wp2_with fail
    go_ret
    exact ⟨⟨⟨#[]⟩, rfl, by rw [HF.out]; rfl, Nat.zero_le _⟩, HB.out.alloc hsz _⟩
  · have HP : Hid (parse (tl1 (Ls s)) = some ⟨Ls a, Ls b, Ls c, Ls h, Ls p, Ls d⟩) := hpp
    have hdl : d.size ≤ s.size := by
      have h1 := bld_le hpp
      have h2 := len_cons hp
      simp only [Ls_len] at h1
      omega
    have hhl : h.size ≤ 4 := by have h1 := short_le hpp; simpa [Ls_len] using h1
    clear hpp
    by_cases hd : 0 < d.size
    · have hed := ne_empty hd
      have HC : Hid (canonL (tl1 (Ls s)) = (Ls s).take (s.size - d.size)) := by
        show canonL _ = _
        unfold canonL; rw [HP.out]
        simp only [isEmpty_Ls, empty_not hd, Bool.false_eq_true, if_false]
        rw [← full hp HX0.out, len_cons hp, Ls_len]
      have hw : ((s.size : Int) - (d.size : Int)).toNat = s.size - d.size := by omega
      go_wp2_with fail
      go_ret
      refine ⟨⟨_, rfl, ?_, ?_⟩, HB.out.alloc hsz _⟩
      · rw [HC.out, ← Ls_take]
      · rw [size_extract _ _ _ (by omega)]; omega
    · have hd0 : d.size = 0 := by omega
      have hed := is_empty hd0
      have HC : Hid (canonL (tl1 (Ls s)) = Ls s ++ Ls h) := by
        show canonL _ = _
        unfold canonL; rw [HP.out]
        simp only [isEmpty_Ls, empty_yes hd0, if_true]
        rw [← full hp HX0.out]
      clear hd
      by_cases hh : 0 < h.size
      · have heh := ne_empty hh
        have hsum : ¬ 9223372036854775807 < s.size + h.size := by omega
        go_wp2_with fail
        go_ret
        exact ⟨⟨_, rfl, by rw [HC.out, Ls_append], by rw [ByteArray.size_append]; omega⟩, HB.out.alloc hsz _⟩
      · have heh := is_empty (show h.size = 0 by omega)
        go_wp2_with fail
        go_ret
        exact ⟨⟨_, rfl, by rw [HC.out, Ls_nil (show h.size = 0 by omega), List.append_nil], by omega⟩, HB.out.alloc hsz _⟩

set_option maxRecDepth 100000 in
set_option maxHeartbeats 2000000 in
theorem build_any (s : ByteArray) (w : World) (hs : s.size < 2097152) (hp : 0 < s.size) (hx0 : s[0].toNat = 118) :
    Calls Tryf.prog 11 #[.string s] w fun e w' => (∃ r, e = .returned (.string r) ∧ Ls r = bldL (tl1 (Ls s)) ∧ r.size ≤ s.size) ∧ Below w.heap.size w w' := by
  have HX0 : Hid (s[0].toNat = 118) := hx0
  clear hx0
  go_enter Tryf.func11, Tryf.ntmps11
  go_wp2_with fail
  refine (parse_any s _ hs hp HX0.out).mono ?_
  rintro e w1 ⟨hpo, hb⟩
  have HB : Hid (Below w.heap.size w w1) := hb
  have hsz := hb.size
  clear hb
  rcases hpo with ⟨hn, s0, s1, s2, s3, s4, s5, rfl⟩ | ⟨a, b, c, h, p, d, hpp, rfl⟩
  · have HF : Hid (bldL (tl1 (Ls s)) = []) := by show bldL _ = _; unfold bldL; rw [hn]
    clear hn
    go_wp2_with fail
    go_ret
    exact ⟨⟨⟨#[]⟩, rfl, by rw [HF.out]; rfl, Nat.zero_le _⟩, HB.out.alloc hsz _⟩
  · have HF : Hid (bldL (tl1 (Ls s)) = Ls d) := by show bldL _ = _; unfold bldL; rw [hpp]
    have hdl : d.size ≤ s.size := by
      have h1 := bld_le hpp
      have h2 := len_cons hp
      simp only [Ls_len] at h1
      omega
    clear hpp
    go_wp2_with fail
    go_ret
    exact ⟨⟨_, rfl, by rw [HF.out], hdl⟩, HB.out.alloc hsz _⟩

set_option maxRecDepth 100000 in
set_option maxHeartbeats 2000000 in
theorem major_any (s : ByteArray) (v : Ver) (w : World) (hs : s.size < 2097152) (hp : 0 < s.size) (hx0 : s[0].toNat = 118) (hv : parse (tl1 (Ls s)) = some v) :
    Calls Tryf.prog 13 #[.string s] w fun e w' => (∃ r, e = .returned (.string r) ∧ Ls r = 118 :: v.maj) ∧ Below w.heap.size w w' := by
  have HX0 : Hid (s[0].toNat = 118) := hx0
  have HV : Hid (parse (tl1 (Ls s)) = some v) := hv
  clear hx0 hv
  go_enter Tryf.func13, Tryf.ntmps13
  go_wp2_with fail
  refine (parse_any s _ hs hp HX0.out).mono ?_
  rintro e w1 ⟨hpo, hb⟩
  have HB : Hid (Below w.heap.size w w1) := hb
  have hsz := hb.size
  clear hb
  rcases hpo with ⟨hn, s0, s1, s2, s3, s4, s5, rfl⟩ | ⟨a, b, c, h, p, d, hpp, rfl⟩
  · rw [HV.out] at hn; cases hn
  · have hev : v = ⟨Ls a, Ls b, Ls c, Ls h, Ls p, Ls d⟩ := by have := HV.out.symm.trans hpp; simpa using this
    obtain ⟨q, hq⟩ := maj_prefix hpp
    simp only at hq
    have hal : a.size + 1 ≤ s.size := by
      have h1 := congrArg List.length hq
      have h2 := len_cons hp
      rw [List.length_append, Ls_len] at h1
      omega
    have HM : Hid ((Ls s).take (1 + a.size) = 118 :: v.maj) := by
      show (Ls s).take (1 + a.size) = 118 :: v.maj
      rw [full hp HX0.out, hq, hev, Nat.add_comm, List.take_succ_cons, ← Ls_len a, List.take_left']
      rfl
    clear hpp hev hq
    have hw : ((1 : Int) + (a.size : Int)).toNat = 1 + a.size := by omega
    go_wp2_with fail
    go_ret
    exact ⟨⟨_, rfl, by rw [← HM.out, ← Ls_take]⟩, HB.out.alloc hsz _⟩

set_option maxHeartbeats 1000000 in
theorem cint_any (x y : ByteArray) (w : World) :
    Calls Tryf.prog 20 #[.string x, .string y] w fun e w' => e = .returned (.int .i64 (cI (Ls x) (Ls y))) ∧ w' = w := by
  have hc : cI (Ls x) (Ls y) = if Ls x = Ls y then 0 else if (Ls x).length < (Ls y).length then -1 else if (Ls y).length < (Ls x).length then 1 else if Op.bytesLess (Ls x) (Ls y) = true then -1 else 1 := rfl
  rw [Ls_len, Ls_len] at hc
  by_cases he : Ls x = Ls y
  · have hb : (x.toList == y.toList) = true := by rw [tl, tl, he]; simp
    rw [if_pos he] at hc
    have HC : Hid (cI (Ls x) (Ls y) = 0) := hc
    clear hc he
    go_enter Tryf.func20, Tryf.ntmps20
    go_wp2_with fail
    go_ret
    exact ⟨ret_int HC.out.symm, rfl⟩
  · have hb : (x.toList == y.toList) = false := by rw [tl, tl]; simpa using he
    rw [if_neg he] at hc
    by_cases h1 : x.size < y.size
    · rw [if_pos h1] at hc
      have HC : Hid (cI (Ls x) (Ls y) = -1) := hc
      clear hc he
      go_enter Tryf.func20, Tryf.ntmps20
      go_wp2_with fail
      go_ret
      exact ⟨ret_int HC.out.symm, rfl⟩
    · rw [if_neg h1] at hc
      by_cases h2 : y.size < x.size
      · rw [if_pos h2] at hc
        have HC : Hid (cI (Ls x) (Ls y) = 1) := hc
        clear hc he
        go_enter Tryf.func20, Tryf.ntmps20
        go_wp2_with fail
        go_ret
        exact ⟨ret_int HC.out.symm, rfl⟩
      · rw [if_neg h2] at hc
        cases hl : Op.bytesLess (Ls x) (Ls y) with
        | true =>
          rw [if_pos hl] at hc
          have hb2 : Op.bytesLess x.toList y.toList = true := by rw [tl, tl]; exact hl
          have HC : Hid (cI (Ls x) (Ls y) = -1) := hc
          clear hc he hl
          go_enter Tryf.func20, Tryf.ntmps20
          go_wp2_with fail
          go_ret
          exact ⟨ret_int HC.out.symm, rfl⟩
        | false =>
          rw [if_neg (by rw [hl]; simp)] at hc
          have hb2 : Op.bytesLess x.toList y.toList = false := by rw [tl, tl]; exact hl
          have HC : Hid (cI (Ls x) (Ls y) = 1) := hc
          clear hc he hl
          go_enter Tryf.func20, Tryf.ntmps20
          go_wp2_with fail
          go_ret
          exact ⟨ret_int HC.out.symm, rfl⟩

set_option maxHeartbeats 1000000 in
theorem cpre_any (x y : ByteArray) (w : World) (hy : y.size = 0) :
    Calls Tryf.prog 21 #[.string x, .string y] w fun e w' => e = .returned (.int .i64 (if (Ls x).isEmpty = true then 0 else -1)) ∧ w' = w := by
  have hye : y = ⟨#[]⟩ := Ls_inj (by rw [Ls_nil hy]; rfl)
  subst hye
  cases he : x.toList.isEmpty with
  | true =>
    have HC : (if (Ls x).isEmpty = true then (0 : Int) else -1) = 0 := by rw [isEmpty_Ls, he]; rfl
    rw [HC]
    clear HC
    go_enter Tryf.func21, Tryf.ntmps21
    go_wp2_with fail
    go_ret
    exact ⟨ret_int rfl, rfl⟩
  | false =>
    have HC : (if (Ls x).isEmpty = true then (0 : Int) else -1) = -1 := by rw [isEmpty_Ls, he]; rfl
    rw [HC]
    clear HC
    go_enter Tryf.func21, Tryf.ntmps21
    go_wp2_with fail
    go_ret
    exact ⟨ret_int rfl, rfl⟩
end Go.Proofs.Qxb6608811aFmt.Callers
