/- A part of the proof that FnJTellLimits returns true for every input, on the conditions that its given row lists. -/
import Derived.Test.YtlkikblohnnlcaaGreatDoorFd
set_option linter.unusedVariables false
set_option linter.unusedSimpArgs false
section
namespace Go.Proofs.YtlkikblohnnlcaaGreatDoor.Y
open Go Go.RowKit X
set_option linter.unusedVariables false
set_option maxRecDepth 4000
attribute [local irreducible] wpList dL Code.wp bodyPost Ct Calls Exit.then Exit.inBlock Code.rounds
set_option maxHeartbeats 0
theorem lb0 {s : ByteArray} (h : s.size = 0) : lb s.data.toList (⟨#[]⟩ : ByteArray).data.toList = true := lb_iff.2 (by
 cases s with
 | mk d =>
  have : d = #[] := Array.eq_empty_of_size_eq_zero h
  rw [this])
theorem lb1 {s : ByteArray} (h : ¬ s.size = 0) : lb s.data.toList (⟨#[]⟩ : ByteArray).data.toList = false := by
 cases hb : lb s.data.toList (⟨#[]⟩ : ByteArray).data.toList with
 | false => rfl
 | true =>
  rw [lb_iff] at hb
  rw [hb] at h
  exact absurd rfl h
theorem wrapP {m : Nat} (h0 : ¬ m = 0) (h : m < 4611686018427387904) : IntKind.i64.wrap ((m : Int) - 1) = ((m - 1 : Nat) : Int) := by
 rw [IntKind.wrap_i64]
 omega
theorem jLean_ok (m : Bool) (s : ByteArray) (e : Int) (hs : s.size < 4611686018427387904) (w0 : World) : Ct 86 [.agg #[.bool m, .string s, .int .i64 e]] w0 (fun p : Bool × ByteArray × Int => .agg #[.bool p.1, .string p.2.1, .int .i64 p.2.2]) (fun _ => []) (fun _ => True) := by
 unfold Ct
 refine c_enter (n := 37) (L := [(0, .agg #[.bool m, .string s, .int .i64 e])]) Tryz.func86 J J J J ?_
 intro a hF
 have hH := Hp.start w0
 refine c_open (fun Q hpan hret hnorm => ?_)
 repeat (first | (refine is_list ?_; first | (refine s_pe hF J J J J ?_; clear hF; intro a hF) | (refine is_load ?_; refine s_ld 1 hF hH J J J J J J J ?_; clear hF; intro a hF) | (refine is_store ?_; refine s_st 1 hF hH J J J J J J J J J ?_; clear hH; intro w hH) | (refine is_call ?_; refine s_call hF hH J J J J J (c126 s _) ?_; clear hF hH; intro a w s1 hs1 hF hH) | (refine s_bx hF hH J J J J ?_; clear hF hH; intro a vb w hF hH) | (refine s_al hF hH J J J J ?_; clear hF hH; intro a b w hF hH)) | refine c_seq (fun K hK => ?_) | refine wp_region_lit ?_ | (refine c_nilK hK ?_; clear hK) | refine wp_block ?_)
 have hs1 : s1.size < 4611686018427387904 := by omega
 refine c_loop (fun k a w' => ∃ (s : ByteArray) (e : Int), k = s.size ∧ s.size < 4611686018427387904 ∧ Fr a 37 [(1, .pointer (some ⟨vb, 0, none⟩)), (2, .pointer (some ⟨b, 0, none⟩))] ∧ Hp w0 w' [(b, .cells #[.bool false, .string ⟨#[]⟩, .int .i64 0] 96), (vb, .cells #[.bool m, .string s, .int .i64 e] 96)]) s1.size ⟨s1, e, rfl, hs1, hF.pick [1, 2] rfl, hH⟩ ?_
 clear hF hH
 rintro k a w ⟨s, e, hk, hs, hF, hH⟩ K hK
 repeat (first | (refine is_list ?_; first | (refine s_pe hF J J J J ?_; clear hF; intro a hF) | (refine is_load ?_; refine s_ld 1 hF hH J J J J J J J ?_; clear hF; intro a hF)) | refine c_seq (fun K hK => ?_) | refine wp_region_lit ?_)
 by_cases h0 : s.size = 0
 ·rw [lb0 h0] at hF
  repeat (first | (refine is_list ?_; first | ((first | refine s_pe hF J J J J ?_ | refine x_off hF J J J ?_); clear hF; intro a hF) | (refine is_load ?_; refine s_ld 1 hF hH J J J J J J J ?_; clear hF; intro a hF)) | refine c_seq (fun K hK => ?_) | refine wp_region_lit ?_ | (refine c_nilK hK ?_; clear hK) | refine c_false hF rfl ?_ | refine wp_exit ?_ | (refine e_exit ?_; clear hK) | refine e_bexit rfl ?_ | (refine e_thenK hK ?_; clear hK))
  rw [lb0 h0] at hF
  repeat (first | (refine is_list ?_; first | (refine s_pe hF J J J J ?_; clear hF; intro a hF) | (refine s_sta 0 hF hH J J J J J J J J J J ?_; clear hH; intro w hH)) | refine c_seq (fun K hK => ?_) | refine wp_region_lit ?_ | (refine c_nilK hK ?_; clear hK) | refine c_true hF rfl ?_ | refine wp_ret ?_ | (refine e_ret ?_; clear hK))
  exact hret _ _ (c_retC 0 hF hH J J J J J ⟨(_, _, _), trivial, rfl, hH.mid 0 2⟩)
 ·rw [lb1 h0] at hF
  repeat (refine is_list ?_; first | (refine s_pe hF J J J J ?_; clear hF; intro a hF) | (refine is_load ?_; refine s_ld 1 hF hH J J J J J J J ?_; clear hF; intro a hF))
  rw [wrapP h0 hs] at hF
  refine s_six hF J J J J J J (show s.size - 1 < s.size by omega) ?_
  clear hF; intro a hF
  repeat (first | (refine is_list ?_; refine s_pe hF J J J J ?_; clear hF; intro a hF) | (refine c_nilK hK ?_; clear hK))
  by_cases h1 : ((U.B s (s.size - 1) : Nat) : Int) = 48
  ·refine c_true hF (cb (decide_eq_true h1)) ?_
   repeat (first | (refine is_list ?_; first | (refine s_pe hF J J J J ?_; clear hF; intro a hF) | (refine is_load ?_; refine s_ld 1 hF hH J J J J J J J ?_; clear hF; intro a hF)) | refine c_seq (fun K hK => ?_) | refine wp_region_lit ?_ | refine wp_block ?_ | refine wp_skip ?_ | (refine e_thenK hK ?_; clear hK))
   rw [wrapP h0 hs] at hF
   refine s_ssl hF J J J J J J J (Nat.zero_le (s.size - 1)) (Nat.sub_le _ _) ?_
   clear hF; intro a hF
   repeat (first | (refine is_list ?_; first | (refine s_pe hF J J J J ?_; clear hF; intro a hF) | (refine is_load ?_; refine s_ld 1 hF hH J J J J J J J ?_; clear hF; intro a hF) | (refine is_store ?_; refine s_st 1 hF hH J J J J J J J J J ?_; clear hH; intro w hH)) | refine wp_region_lit ?_ | (refine c_nilK hK ?_; clear hK) | refine c_nilB ?_)
   have hz : (s.extract 0 (s.size - 1)).size = s.size - 1 := by rw [ByteArray.size_extract]; omega
   exact e_then (hK (s.size - 1) _ _ (by omega) ⟨s.extract 0 (s.size - 1), _, hz.symm, by omega, hF.pick [1, 2] rfl, hH⟩)
  ·refine c_false hF (cb (decide_eq_false h1)) ?_
   repeat (first | (refine is_list ?_; first | (refine s_pe hF J J J J ?_; clear hF; intro a hF) | (refine is_load ?_; refine s_ld 1 hF hH J J J J J J J ?_; clear hF; intro a hF)) | refine c_seq (fun K hK => ?_) | refine wp_region_lit ?_ | (refine c_nilK hK ?_; clear hK) | refine wp_exit ?_ | (refine e_exit ?_; clear hK) | refine e_bexit rfl ?_ | (refine e_thenK hK ?_; clear hK))
   rw [lb1 h0] at hF
   repeat (first | (refine is_list ?_; first | (refine is_load ?_; refine s_lda 1 hF hH J J J J J J J ?_; clear hF; intro a hF) | (refine s_sta 0 hF hH J J J J J J J J J J ?_; clear hH; intro w hH)) | refine c_seq (fun K hK => ?_) | refine wp_region_lit ?_ | (refine c_nilK hK ?_; clear hK) | refine c_false hF rfl ?_ | refine wp_ret ?_ | refine wp_skip ?_ | (refine e_thenK hK ?_; clear hK))
   exact hret _ _ (c_retC 0 hF hH J J J J J ⟨(_, _, _), trivial, rfl, hH.mid 0 2⟩)
theorem size1 {s : ByteArray} : (s.extract 1 s.size).size = s.size - 1 := by rw [ByteArray.size_extract]; omega
theorem generic_is {s : ByteArray} : (s.size = 0 ∧ lb s.data.toList (⟨#[]⟩ : ByteArray).data.toList = true) ∨ (¬ s.size = 0 ∧ lb s.data.toList (⟨#[]⟩ : ByteArray).data.toList = false) := by
 by_cases h : s.size = 0
 ·exact .inl ⟨h, lb0 h⟩
 ·exact .inr ⟨h, lb1 h⟩
theorem jExponent_ok (s : ByteArray) (hs : s.size < 4611686018427387904) (w0 : World) : Ct 85 [.string s] w0 (fun p : Int × Bool => .tuple #[.int .i64 p.1, .bool p.2]) (fun _ => []) (fun _ => True) := by
 unfold Ct
 refine c_enter (n := 50) (L := [(0, .string s)]) Tryz.func85 J J J J ?_
 intro a hF
 have hH := Hp.start w0
 refine c_open (fun Q hpan hret hnorm => ?_)
 repeat (first | (refine is_list ?_; refine s_pe hF J J J J ?_; clear hF; intro a hF) | refine c_seq (fun K hK => ?_) | refine wp_region_lit ?_ | (refine c_nilK hK ?_; clear hK))
 rcases generic_is (s := s) with ⟨h0, hb⟩ | ⟨h0, hb⟩
 ·rw [hb] at hF
  repeat (first | (refine is_list ?_; refine s_pe hF J J J J ?_; clear hF; intro a hF) | refine c_seq (fun K hK => ?_) | refine wp_region_lit ?_ | (refine c_nilK hK ?_; clear hK) | refine c_true hF rfl ?_ | refine wp_ret ?_ | (refine e_ret ?_; clear hK))
  exact hret _ _ (c_ret2 hF J J J ⟨(_, _), trivial, rfl, hH⟩)
 ·rw [hb] at hF
  repeat (first | (refine is_list ?_; refine s_pe hF J J J J ?_; clear hF; intro a hF) | refine c_seq (fun K hK => ?_) | refine wp_region_lit ?_ | refine c_false hF rfl ?_ | refine wp_skip ?_ | (refine e_thenK hK ?_; clear hK))
  refine s_six (q := 0) hF J J J J J J (by omega : 0 < s.size) ?_
  clear hF; intro a hF
  repeat (refine is_list ?_; refine s_pe hF J J J J ?_; clear hF; intro a hF)
  generalize (((U.B s 0 : Nat) : Int) != 101) = t at hF
  cases t
  ·repeat (first | (refine is_list ?_; (first | refine s_pe hF J J J J ?_ | refine x_off hF J J J ?_); clear hF; intro a hF) | refine c_seq (fun K hK => ?_) | refine wp_region_lit ?_ | (refine c_nilK hK ?_; clear hK) | refine c_false hF rfl ?_ | refine wp_skip ?_ | (refine e_thenK hK ?_; clear hK))
   refine s_ssl (s := s) (l := 1) (h := s.size) hF J J J J J J J (by omega) (by omega) ?_
   clear hF; intro a hF
   have hs2 : (s.extract 1 s.size).size < 4611686018427387904 := by rw [size1]; omega
   clear h0 hb hs
   generalize s.extract 1 s.size = s at hF hs2
   have hs := hs2
   clear hs2
   repeat (first | (refine is_list ?_; refine s_pe hF J J J J ?_; clear hF; intro a hF) | refine c_seq (fun K hK => ?_) | refine wp_region_lit ?_ | (refine c_nilK hK ?_; clear hK))
   rcases generic_is (s := s) with ⟨h0, hb⟩ | ⟨h0, hb⟩
   ·rw [hb] at hF
    repeat (first | (refine is_list ?_; (first | refine s_pe hF J J J J ?_ | refine x_off hF J J J ?_); clear hF; intro a hF) | refine c_seq (fun K hK => ?_) | refine wp_region_lit ?_ | (refine c_nilK hK ?_; clear hK))
    rw [hb] at hF
    repeat (first | (refine is_list ?_; (first | refine s_pe hF J J J J ?_ | refine x_off hF J J J ?_); clear hF; intro a hF) | refine c_seq (fun K hK => ?_) | refine wp_region_lit ?_ | (refine c_nilK hK ?_; clear hK) | refine c_false hF rfl ?_ | refine wp_skip ?_ | (refine e_thenK hK ?_; clear hK))
    repeat (refine is_list ?_; first | (refine s_pe hF J J J J ?_; clear hF; intro a hF) | (refine is_call ?_; refine s_call hF hH J J J J J (c83 s hs _) ?_; clear hF hH; intro a w r hr hF hH))
    cases r with
    | false =>
     repeat (first | (refine is_list ?_; (first | refine s_pe hF J J J J ?_ | refine x_off hF J J J ?_); clear hF; intro a hF) | refine c_seq (fun K hK => ?_) | refine wp_region_lit ?_ | (refine c_nilK hK ?_; clear hK) | refine c_true hF rfl ?_ | refine wp_ret ?_ | (refine e_ret ?_; clear hK))
     exact hret _ _ (c_ret2 hF J J J ⟨(_, _), trivial, rfl, hH⟩)
    | true =>
     repeat (first | (refine is_list ?_; refine s_pe hF J J J J ?_; clear hF; intro a hF) | (refine c_nilK hK ?_; clear hK))
     generalize (decide ((s.size : Int) > 2)) = t at hF
     cases t
     ·repeat (first | (refine is_list ?_; first | (refine s_pe hF J J J J ?_; clear hF; intro a hF) | (refine is_call ?_; refine s_call hF hH J J J J J (c44 s hs _) ?_; clear hF hH; intro a w r hr hF hH)) | refine c_seq (fun K hK => ?_) | refine wp_region_lit ?_ | (refine c_nilK hK ?_; clear hK) | refine c_false hF rfl ?_ | refine wp_ret ?_ | refine wp_skip ?_ | (refine e_thenK hK ?_; clear hK))
      exact hret _ _ (c_ret2 hF J J J ⟨(_, _), trivial, rfl, hH⟩)
     ·repeat (first | (refine is_list ?_; refine s_pe hF J J J J ?_; clear hF; intro a hF) | refine c_seq (fun K hK => ?_) | refine wp_region_lit ?_ | (refine c_nilK hK ?_; clear hK) | refine c_true hF rfl ?_ | refine wp_ret ?_ | (refine e_ret ?_; clear hK))
      exact hret _ _ (c_ret2 hF J J J ⟨(_, _), trivial, rfl, hH⟩)
   ·rw [hb] at hF
    repeat (refine is_list ?_; refine s_pe hF J J J J ?_; clear hF; intro a hF)
    refine s_six (q := 0) hF J J J J J J (by omega : 0 < s.size) ?_
    clear hF; intro a hF
    repeat (first | (refine is_list ?_; refine s_pe hF J J J J ?_; clear hF; intro a hF) | refine c_seq (fun K hK => ?_) | refine wp_region_lit ?_ | (refine c_nilK hK ?_; clear hK))
    generalize (((U.B s 0 : Nat) : Int) == 45) = t at hF
    cases t
    ·repeat (refine is_list ?_; refine s_pe hF J J J J ?_; clear hF; intro a hF)
     rw [hb] at hF
     repeat (refine is_list ?_; refine s_pe hF J J J J ?_; clear hF; intro a hF)
     refine s_six (q := 0) hF J J J J J J (by omega : 0 < s.size) ?_
     clear hF; intro a hF
     repeat (first | (refine is_list ?_; refine s_pe hF J J J J ?_; clear hF; intro a hF) | (refine c_nilK hK ?_; clear hK))
     generalize (((U.B s 0 : Nat) : Int) == 43) = t at hF
     cases t
     ·repeat (first | (refine is_list ?_; refine s_pe hF J J J J ?_; clear hF; intro a hF) | refine c_seq (fun K hK => ?_) | refine wp_region_lit ?_ | refine c_false hF rfl ?_ | refine wp_skip ?_ | (refine e_thenK hK ?_; clear hK))
      repeat (refine is_list ?_; first | (refine s_pe hF J J J J ?_; clear hF; intro a hF) | (refine is_call ?_; refine s_call hF hH J J J J J (c83 s hs _) ?_; clear hF hH; intro a w r hr hF hH))
      cases r with
      | false =>
       repeat (first | (refine is_list ?_; (first | refine s_pe hF J J J J ?_ | refine x_off hF J J J ?_); clear hF; intro a hF) | refine c_seq (fun K hK => ?_) | refine wp_region_lit ?_ | (refine c_nilK hK ?_; clear hK) | refine c_true hF rfl ?_ | refine wp_ret ?_ | (refine e_ret ?_; clear hK))
       exact hret _ _ (c_ret2 hF J J J ⟨(_, _), trivial, rfl, hH⟩)
      | true =>
       repeat (first | (refine is_list ?_; refine s_pe hF J J J J ?_; clear hF; intro a hF) | (refine c_nilK hK ?_; clear hK))
       generalize (decide ((s.size : Int) > 2)) = t at hF
       cases t
       ·repeat (first | (refine is_list ?_; first | (refine s_pe hF J J J J ?_; clear hF; intro a hF) | (refine is_call ?_; refine s_call hF hH J J J J J (c44 s hs _) ?_; clear hF hH; intro a w r hr hF hH)) | refine c_seq (fun K hK => ?_) | refine wp_region_lit ?_ | (refine c_nilK hK ?_; clear hK) | refine c_false hF rfl ?_ | refine wp_ret ?_ | refine wp_skip ?_ | (refine e_thenK hK ?_; clear hK))
        exact hret _ _ (c_ret2 hF J J J ⟨(_, _), trivial, rfl, hH⟩)
       ·repeat (first | (refine is_list ?_; refine s_pe hF J J J J ?_; clear hF; intro a hF) | refine c_seq (fun K hK => ?_) | refine wp_region_lit ?_ | (refine c_nilK hK ?_; clear hK) | refine c_true hF rfl ?_ | refine wp_ret ?_ | (refine e_ret ?_; clear hK))
        exact hret _ _ (c_ret2 hF J J J ⟨(_, _), trivial, rfl, hH⟩)
     ·repeat (first | (refine is_list ?_; refine s_pe hF J J J J ?_; clear hF; intro a hF) | refine wp_region_lit ?_ | refine c_true hF rfl ?_)
      refine s_ssl (s := s) (l := 1) (h := s.size) hF J J J J J J J (by omega) (by omega) ?_
      clear hF; intro a hF
      have hs2 : (s.extract 1 s.size).size < 4611686018427387904 := by rw [size1]; omega
      clear h0 hb hs
      generalize s.extract 1 s.size = s at hF hs2
      have hs := hs2
      clear hs2
      repeat (first | (refine is_list ?_; refine s_pe hF J J J J ?_; clear hF; intro a hF) | refine c_seq (fun K hK => ?_) | refine wp_region_lit ?_ | (refine c_nilK hK ?_; clear hK))
      repeat (refine is_list ?_; first | (refine s_pe hF J J J J ?_; clear hF; intro a hF) | (refine is_call ?_; refine s_call hF hH J J J J J (c83 s hs _) ?_; clear hF hH; intro a w r hr hF hH))
      cases r with
      | false =>
       repeat (first | (refine is_list ?_; (first | refine s_pe hF J J J J ?_ | refine x_off hF J J J ?_); clear hF; intro a hF) | refine c_seq (fun K hK => ?_) | refine wp_region_lit ?_ | (refine c_nilK hK ?_; clear hK) | refine c_true hF rfl ?_ | refine wp_ret ?_ | (refine e_ret ?_; clear hK))
       exact hret _ _ (c_ret2 hF J J J ⟨(_, _), trivial, rfl, hH⟩)
      | true =>
       repeat (first | (refine is_list ?_; refine s_pe hF J J J J ?_; clear hF; intro a hF) | (refine c_nilK hK ?_; clear hK))
       generalize (decide ((s.size : Int) > 2)) = t at hF
       cases t
       ·repeat (first | (refine is_list ?_; first | (refine s_pe hF J J J J ?_; clear hF; intro a hF) | (refine is_call ?_; refine s_call hF hH J J J J J (c44 s hs _) ?_; clear hF hH; intro a w r hr hF hH)) | refine c_seq (fun K hK => ?_) | refine wp_region_lit ?_ | (refine c_nilK hK ?_; clear hK) | refine c_false hF rfl ?_ | refine wp_ret ?_ | refine wp_skip ?_ | (refine e_thenK hK ?_; clear hK))
        exact hret _ _ (c_ret2 hF J J J ⟨(_, _), trivial, rfl, hH⟩)
       ·repeat (first | (refine is_list ?_; refine s_pe hF J J J J ?_; clear hF; intro a hF) | refine c_seq (fun K hK => ?_) | refine wp_region_lit ?_ | (refine c_nilK hK ?_; clear hK) | refine c_true hF rfl ?_ | refine wp_ret ?_ | (refine e_ret ?_; clear hK))
        exact hret _ _ (c_ret2 hF J J J ⟨(_, _), trivial, rfl, hH⟩)
    ·repeat (first | (refine is_list ?_; (first | refine s_pe hF J J J J ?_ | refine x_off hF J J J ?_); clear hF; intro a hF) | refine wp_region_lit ?_ | (refine c_nilK hK ?_; clear hK) | refine c_true hF rfl ?_)
     refine s_ssl (s := s) (l := 1) (h := s.size) hF J J J J J J J (by omega) (by omega) ?_
     clear hF; intro a hF
     have hs2 : (s.extract 1 s.size).size < 4611686018427387904 := by rw [size1]; omega
     clear h0 hb hs
     generalize s.extract 1 s.size = s at hF hs2
     have hs := hs2
     clear hs2
     repeat (first | (refine is_list ?_; refine s_pe hF J J J J ?_; clear hF; intro a hF) | refine c_seq (fun K hK => ?_) | refine wp_region_lit ?_ | (refine c_nilK hK ?_; clear hK))
     repeat (refine is_list ?_; first | (refine s_pe hF J J J J ?_; clear hF; intro a hF) | (refine is_call ?_; refine s_call hF hH J J J J J (c83 s hs _) ?_; clear hF hH; intro a w r hr hF hH))
     cases r with
     | false =>
      repeat (first | (refine is_list ?_; (first | refine s_pe hF J J J J ?_ | refine x_off hF J J J ?_); clear hF; intro a hF) | refine c_seq (fun K hK => ?_) | refine wp_region_lit ?_ | (refine c_nilK hK ?_; clear hK) | refine c_true hF rfl ?_ | refine wp_ret ?_ | (refine e_ret ?_; clear hK))
      exact hret _ _ (c_ret2 hF J J J ⟨(_, _), trivial, rfl, hH⟩)
     | true =>
      repeat (first | (refine is_list ?_; refine s_pe hF J J J J ?_; clear hF; intro a hF) | (refine c_nilK hK ?_; clear hK))
      generalize (decide ((s.size : Int) > 2)) = t at hF
      cases t
      ·repeat (first | (refine is_list ?_; first | (refine s_pe hF J J J J ?_; clear hF; intro a hF) | (refine is_call ?_; refine s_call hF hH J J J J J (c44 s hs _) ?_; clear hF hH; intro a w r hr hF hH) | (refine s_neg hF J J J J ?_; clear hF; intro a r2 hF)) | refine c_seq (fun K hK => ?_) | refine wp_region_lit ?_ | (refine c_nilK hK ?_; clear hK) | refine c_true hF rfl ?_ | refine c_false hF rfl ?_ | refine wp_ret ?_ | refine wp_skip ?_ | ((first | refine e_ret ?_ | refine e_thenK hK ?_); clear hK))
       exact hret _ _ (c_ret2 hF J J J ⟨(_, _), trivial, rfl, hH⟩)
      ·repeat (first | (refine is_list ?_; refine s_pe hF J J J J ?_; clear hF; intro a hF) | refine c_seq (fun K hK => ?_) | refine wp_region_lit ?_ | (refine c_nilK hK ?_; clear hK) | refine c_true hF rfl ?_ | refine wp_ret ?_ | (refine e_ret ?_; clear hK))
       exact hret _ _ (c_ret2 hF J J J ⟨(_, _), trivial, rfl, hH⟩)
  ·repeat (refine is_list ?_; refine s_pe hF J J J J ?_; clear hF; intro a hF)
   refine s_six (q := 0) hF J J J J J J (by omega : 0 < s.size) ?_
   clear hF; intro a hF
   repeat (first | (refine is_list ?_; refine s_pe hF J J J J ?_; clear hF; intro a hF) | (refine c_nilK hK ?_; clear hK))
   generalize (((U.B s 0 : Nat) : Int) != 69) = t at hF
   cases t
   ·repeat (first | (refine is_list ?_; refine s_pe hF J J J J ?_; clear hF; intro a hF) | refine c_seq (fun K hK => ?_) | refine wp_region_lit ?_ | refine c_false hF rfl ?_ | refine wp_skip ?_ | (refine e_thenK hK ?_; clear hK))
    refine s_ssl (s := s) (l := 1) (h := s.size) hF J J J J J J J (by omega) (by omega) ?_
    clear hF; intro a hF
    have hs2 : (s.extract 1 s.size).size < 4611686018427387904 := by rw [size1]; omega
    clear h0 hb hs
    generalize s.extract 1 s.size = s at hF hs2
    have hs := hs2
    clear hs2
    repeat (first | (refine is_list ?_; refine s_pe hF J J J J ?_; clear hF; intro a hF) | refine c_seq (fun K hK => ?_) | refine wp_region_lit ?_ | (refine c_nilK hK ?_; clear hK))
    rcases generic_is (s := s) with ⟨h0, hb⟩ | ⟨h0, hb⟩
    ·rw [hb] at hF
     repeat (first | (refine is_list ?_; (first | refine s_pe hF J J J J ?_ | refine x_off hF J J J ?_); clear hF; intro a hF) | refine c_seq (fun K hK => ?_) | refine wp_region_lit ?_ | (refine c_nilK hK ?_; clear hK))
     rw [hb] at hF
     repeat (first | (refine is_list ?_; (first | refine s_pe hF J J J J ?_ | refine x_off hF J J J ?_); clear hF; intro a hF) | refine c_seq (fun K hK => ?_) | refine wp_region_lit ?_ | (refine c_nilK hK ?_; clear hK) | refine c_false hF rfl ?_ | refine wp_skip ?_ | (refine e_thenK hK ?_; clear hK))
     repeat (refine is_list ?_; first | (refine s_pe hF J J J J ?_; clear hF; intro a hF) | (refine is_call ?_; refine s_call hF hH J J J J J (c83 s hs _) ?_; clear hF hH; intro a w r hr hF hH))
     cases r with
     | false =>
      repeat (first | (refine is_list ?_; (first | refine s_pe hF J J J J ?_ | refine x_off hF J J J ?_); clear hF; intro a hF) | refine c_seq (fun K hK => ?_) | refine wp_region_lit ?_ | (refine c_nilK hK ?_; clear hK) | refine c_true hF rfl ?_ | refine wp_ret ?_ | (refine e_ret ?_; clear hK))
      exact hret _ _ (c_ret2 hF J J J ⟨(_, _), trivial, rfl, hH⟩)
     | true =>
      repeat (first | (refine is_list ?_; refine s_pe hF J J J J ?_; clear hF; intro a hF) | (refine c_nilK hK ?_; clear hK))
      generalize (decide ((s.size : Int) > 2)) = t at hF
      cases t
      ·repeat (first | (refine is_list ?_; first | (refine s_pe hF J J J J ?_; clear hF; intro a hF) | (refine is_call ?_; refine s_call hF hH J J J J J (c44 s hs _) ?_; clear hF hH; intro a w r hr hF hH)) | refine c_seq (fun K hK => ?_) | refine wp_region_lit ?_ | (refine c_nilK hK ?_; clear hK) | refine c_false hF rfl ?_ | refine wp_ret ?_ | refine wp_skip ?_ | (refine e_thenK hK ?_; clear hK))
       exact hret _ _ (c_ret2 hF J J J ⟨(_, _), trivial, rfl, hH⟩)
      ·repeat (first | (refine is_list ?_; refine s_pe hF J J J J ?_; clear hF; intro a hF) | refine c_seq (fun K hK => ?_) | refine wp_region_lit ?_ | (refine c_nilK hK ?_; clear hK) | refine c_true hF rfl ?_ | refine wp_ret ?_ | (refine e_ret ?_; clear hK))
       exact hret _ _ (c_ret2 hF J J J ⟨(_, _), trivial, rfl, hH⟩)
    ·rw [hb] at hF
     repeat (refine is_list ?_; refine s_pe hF J J J J ?_; clear hF; intro a hF)
     refine s_six (q := 0) hF J J J J J J (by omega : 0 < s.size) ?_
     clear hF; intro a hF
     repeat (first | (refine is_list ?_; refine s_pe hF J J J J ?_; clear hF; intro a hF) | refine c_seq (fun K hK => ?_) | refine wp_region_lit ?_ | (refine c_nilK hK ?_; clear hK))
     generalize (((U.B s 0 : Nat) : Int) == 45) = t at hF
     cases t
     ·repeat (refine is_list ?_; refine s_pe hF J J J J ?_; clear hF; intro a hF)
      rw [hb] at hF
      repeat (refine is_list ?_; refine s_pe hF J J J J ?_; clear hF; intro a hF)
      refine s_six (q := 0) hF J J J J J J (by omega : 0 < s.size) ?_
      clear hF; intro a hF
      repeat (first | (refine is_list ?_; refine s_pe hF J J J J ?_; clear hF; intro a hF) | (refine c_nilK hK ?_; clear hK))
      generalize (((U.B s 0 : Nat) : Int) == 43) = t at hF
      cases t
      ·repeat (first | (refine is_list ?_; refine s_pe hF J J J J ?_; clear hF; intro a hF) | refine c_seq (fun K hK => ?_) | refine wp_region_lit ?_ | refine c_false hF rfl ?_ | refine wp_skip ?_ | (refine e_thenK hK ?_; clear hK))
       repeat (refine is_list ?_; first | (refine s_pe hF J J J J ?_; clear hF; intro a hF) | (refine is_call ?_; refine s_call hF hH J J J J J (c83 s hs _) ?_; clear hF hH; intro a w r hr hF hH))
       cases r with
       | false =>
        repeat (first | (refine is_list ?_; (first | refine s_pe hF J J J J ?_ | refine x_off hF J J J ?_); clear hF; intro a hF) | refine c_seq (fun K hK => ?_) | refine wp_region_lit ?_ | (refine c_nilK hK ?_; clear hK) | refine c_true hF rfl ?_ | refine wp_ret ?_ | (refine e_ret ?_; clear hK))
        exact hret _ _ (c_ret2 hF J J J ⟨(_, _), trivial, rfl, hH⟩)
       | true =>
        repeat (first | (refine is_list ?_; refine s_pe hF J J J J ?_; clear hF; intro a hF) | (refine c_nilK hK ?_; clear hK))
        generalize (decide ((s.size : Int) > 2)) = t at hF
        cases t
        ·repeat (first | (refine is_list ?_; first | (refine s_pe hF J J J J ?_; clear hF; intro a hF) | (refine is_call ?_; refine s_call hF hH J J J J J (c44 s hs _) ?_; clear hF hH; intro a w r hr hF hH)) | refine c_seq (fun K hK => ?_) | refine wp_region_lit ?_ | (refine c_nilK hK ?_; clear hK) | refine c_false hF rfl ?_ | refine wp_ret ?_ | refine wp_skip ?_ | (refine e_thenK hK ?_; clear hK))
         exact hret _ _ (c_ret2 hF J J J ⟨(_, _), trivial, rfl, hH⟩)
        ·repeat (first | (refine is_list ?_; refine s_pe hF J J J J ?_; clear hF; intro a hF) | refine c_seq (fun K hK => ?_) | refine wp_region_lit ?_ | (refine c_nilK hK ?_; clear hK) | refine c_true hF rfl ?_ | refine wp_ret ?_ | (refine e_ret ?_; clear hK))
         exact hret _ _ (c_ret2 hF J J J ⟨(_, _), trivial, rfl, hH⟩)
      ·repeat (first | (refine is_list ?_; refine s_pe hF J J J J ?_; clear hF; intro a hF) | refine wp_region_lit ?_ | refine c_true hF rfl ?_)
       refine s_ssl (s := s) (l := 1) (h := s.size) hF J J J J J J J (by omega) (by omega) ?_
       clear hF; intro a hF
       have hs2 : (s.extract 1 s.size).size < 4611686018427387904 := by rw [size1]; omega
       clear h0 hb hs
       generalize s.extract 1 s.size = s at hF hs2
       have hs := hs2
       clear hs2
       repeat (first | (refine is_list ?_; refine s_pe hF J J J J ?_; clear hF; intro a hF) | refine c_seq (fun K hK => ?_) | refine wp_region_lit ?_ | (refine c_nilK hK ?_; clear hK))
       repeat (refine is_list ?_; first | (refine s_pe hF J J J J ?_; clear hF; intro a hF) | (refine is_call ?_; refine s_call hF hH J J J J J (c83 s hs _) ?_; clear hF hH; intro a w r hr hF hH))
       cases r with
       | false =>
        repeat (first | (refine is_list ?_; (first | refine s_pe hF J J J J ?_ | refine x_off hF J J J ?_); clear hF; intro a hF) | refine c_seq (fun K hK => ?_) | refine wp_region_lit ?_ | (refine c_nilK hK ?_; clear hK) | refine c_true hF rfl ?_ | refine wp_ret ?_ | (refine e_ret ?_; clear hK))
        exact hret _ _ (c_ret2 hF J J J ⟨(_, _), trivial, rfl, hH⟩)
       | true =>
        repeat (first | (refine is_list ?_; refine s_pe hF J J J J ?_; clear hF; intro a hF) | (refine c_nilK hK ?_; clear hK))
        generalize (decide ((s.size : Int) > 2)) = t at hF
        cases t
        ·repeat (first | (refine is_list ?_; first | (refine s_pe hF J J J J ?_; clear hF; intro a hF) | (refine is_call ?_; refine s_call hF hH J J J J J (c44 s hs _) ?_; clear hF hH; intro a w r hr hF hH)) | refine c_seq (fun K hK => ?_) | refine wp_region_lit ?_ | (refine c_nilK hK ?_; clear hK) | refine c_false hF rfl ?_ | refine wp_ret ?_ | refine wp_skip ?_ | (refine e_thenK hK ?_; clear hK))
         exact hret _ _ (c_ret2 hF J J J ⟨(_, _), trivial, rfl, hH⟩)
        ·repeat (first | (refine is_list ?_; refine s_pe hF J J J J ?_; clear hF; intro a hF) | refine c_seq (fun K hK => ?_) | refine wp_region_lit ?_ | (refine c_nilK hK ?_; clear hK) | refine c_true hF rfl ?_ | refine wp_ret ?_ | (refine e_ret ?_; clear hK))
         exact hret _ _ (c_ret2 hF J J J ⟨(_, _), trivial, rfl, hH⟩)
     ·repeat (first | (refine is_list ?_; (first | refine s_pe hF J J J J ?_ | refine x_off hF J J J ?_); clear hF; intro a hF) | refine wp_region_lit ?_ | (refine c_nilK hK ?_; clear hK) | refine c_true hF rfl ?_)
      refine s_ssl (s := s) (l := 1) (h := s.size) hF J J J J J J J (by omega) (by omega) ?_
      clear hF; intro a hF
      have hs2 : (s.extract 1 s.size).size < 4611686018427387904 := by rw [size1]; omega
      clear h0 hb hs
      generalize s.extract 1 s.size = s at hF hs2
      have hs := hs2
      clear hs2
      repeat (first | (refine is_list ?_; refine s_pe hF J J J J ?_; clear hF; intro a hF) | refine c_seq (fun K hK => ?_) | refine wp_region_lit ?_ | (refine c_nilK hK ?_; clear hK))
      repeat (refine is_list ?_; first | (refine s_pe hF J J J J ?_; clear hF; intro a hF) | (refine is_call ?_; refine s_call hF hH J J J J J (c83 s hs _) ?_; clear hF hH; intro a w r hr hF hH))
      cases r with
      | false =>
       repeat (first | (refine is_list ?_; (first | refine s_pe hF J J J J ?_ | refine x_off hF J J J ?_); clear hF; intro a hF) | refine c_seq (fun K hK => ?_) | refine wp_region_lit ?_ | (refine c_nilK hK ?_; clear hK) | refine c_true hF rfl ?_ | refine wp_ret ?_ | (refine e_ret ?_; clear hK))
       exact hret _ _ (c_ret2 hF J J J ⟨(_, _), trivial, rfl, hH⟩)
      | true =>
       repeat (first | (refine is_list ?_; refine s_pe hF J J J J ?_; clear hF; intro a hF) | (refine c_nilK hK ?_; clear hK))
       generalize (decide ((s.size : Int) > 2)) = t at hF
       cases t
       ·repeat (first | (refine is_list ?_; first | (refine s_pe hF J J J J ?_; clear hF; intro a hF) | (refine is_call ?_; refine s_call hF hH J J J J J (c44 s hs _) ?_; clear hF hH; intro a w r hr hF hH) | (refine s_neg hF J J J J ?_; clear hF; intro a r2 hF)) | refine c_seq (fun K hK => ?_) | refine wp_region_lit ?_ | (refine c_nilK hK ?_; clear hK) | refine c_true hF rfl ?_ | refine c_false hF rfl ?_ | refine wp_ret ?_ | refine wp_skip ?_ | ((first | refine e_ret ?_ | refine e_thenK hK ?_); clear hK))
        exact hret _ _ (c_ret2 hF J J J ⟨(_, _), trivial, rfl, hH⟩)
       ·repeat (first | (refine is_list ?_; refine s_pe hF J J J J ?_; clear hF; intro a hF) | refine c_seq (fun K hK => ?_) | refine wp_region_lit ?_ | (refine c_nilK hK ?_; clear hK) | refine c_true hF rfl ?_ | refine wp_ret ?_ | (refine e_ret ?_; clear hK))
        exact hret _ _ (c_ret2 hF J J J ⟨(_, _), trivial, rfl, hH⟩)
   ·repeat (first | (refine is_list ?_; refine s_pe hF J J J J ?_; clear hF; intro a hF) | refine c_seq (fun K hK => ?_) | refine wp_region_lit ?_ | (refine c_nilK hK ?_; clear hK) | refine c_true hF rfl ?_ | refine wp_ret ?_ | (refine e_ret ?_; clear hK))
    exact hret _ _ (c_ret2 hF J J J ⟨(_, _), trivial, rfl, hH⟩)
theorem sizeX {s : ByteArray} {i j : Nat} (h : i ≤ j) (hj : j ≤ s.size) : (s.extract i j).size = j - i := by rw [ByteArray.size_extract]; omega
theorem jDecimalOf_ok (s : ByteArray) (hs : s.size < 4611686018427387904) (w0 : World) : Ct 46 [.string s] w0 (fun p : (Bool × ByteArray × Int) × Bool => .tuple #[.agg #[.bool p.1.1, .string p.1.2.1, .int .i64 p.1.2.2], .bool p.2]) (fun _ => []) (fun _ => True) := by
 unfold Ct
 refine c_enter (n := 87) (L := [(0, .string s)]) Tryz.func46 J J J J ?_
 intro a hF
 have hH := Hp.start w0
 refine c_open (fun Q hpan hret hnorm => ?_)
 repeat (first | (refine is_list ?_; first | (refine s_pe hF J J J J ?_; clear hF; intro a hF) | (refine s_al hF hH J J J J ?_; clear hF hH; intro a b w hF hH)) | refine c_seq (fun K hK => ?_) | refine wp_region_lit ?_ | (refine c_nilK hK ?_; clear hK))
 by_cases h40 : ((s.size : Nat) : Int) > 40
 ·rw [show decide (((s.size : Nat) : Int) > 40) = true from decide_eq_true h40] at hF
  repeat (first | (refine is_list ?_; first | (refine s_pe hF J J J J ?_; clear hF; intro a hF) | (refine s_sta 0 hF hH J J J J J J J J J J ?_; clear hH; intro w hH)) | refine c_seq (fun K hK => ?_) | refine wp_region_lit ?_ | (refine c_nilK hK ?_; clear hK) | refine c_true hF rfl ?_ | refine wp_ret ?_ | (refine e_ret ?_; clear hK))
  exact hret _ _ (c_retCT 0 hF hH J J J J J J ⟨((_, _, _), _), trivial, rfl, hH.rm 0 rfl⟩)
 rw [show decide (((s.size : Nat) : Int) > 40) = false from decide_eq_false h40] at hF
 repeat (first | (refine is_list ?_; refine s_pe hF J J J J ?_; clear hF; intro a hF) | refine c_seq (fun K hK => ?_) | refine wp_region_lit ?_ | (refine c_nilK hK ?_; clear hK) | refine c_false hF rfl ?_ | refine wp_skip ?_ | (refine e_thenK hK ?_; clear hK))
 rcases generic_is (s := s) with ⟨h0, hb⟩ | ⟨h0, hb⟩
 ·rw [hb] at hF
  repeat (first | (refine is_list ?_; (first | refine s_pe hF J J J J ?_ | refine x_off hF J J J ?_); clear hF; intro a hF) | refine c_seq (fun K hK => ?_) | refine wp_region_lit ?_ | (refine c_nilK hK ?_; clear hK) | refine c_false hF rfl ?_ | refine wp_skip ?_ | (refine e_thenK hK ?_; clear hK))
  repeat (first | (refine is_list ?_; first | (refine s_pe hF J J J J ?_; clear hF; intro a hF) | (refine is_call ?_; refine s_call hF hH J J J J J (c84 s hs 0 _) ?_; clear hF hH; intro a w j hj hF hH)) | refine c_seq (fun K hK => ?_) | refine wp_region_lit ?_ | (refine c_nilK hK ?_; clear hK))
  obtain ⟨hj1, hj2⟩ := hj
  replace hj2 := hj2 (by omega)
  refine s_ssl (s := s) (l := 0) (h := j) hF J J J J J J J (by omega) (by omega) ?_
  clear hF; intro a hF
  have hq : (s.extract 0 j).size < 4611686018427387904 := by rw [sizeX (by omega) (by omega)]; omega
  repeat (first | (refine is_list ?_; first | (refine s_pe hF J J J J ?_; clear hF; intro a hF) | (refine is_call ?_; refine s_call hF hH J J J J J (c43 _ hq _) ?_; clear hF hH; intro a w r hr hF hH)) | (refine c_nilK hK ?_; clear hK))
  cases r with
  | false =>
   repeat (first | (refine is_list ?_; first | (refine s_pe hF J J J J ?_; clear hF; intro a hF) | (refine s_sta 0 hF hH J J J J J J J J J J ?_; clear hH; intro w hH)) | refine c_seq (fun K hK => ?_) | refine wp_region_lit ?_ | (refine c_nilK hK ?_; clear hK) | refine c_true hF rfl ?_ | refine wp_ret ?_ | (refine e_ret ?_; clear hK))
   exact hret _ _ (c_retCT 0 hF hH J J J J J J ⟨((_, _, _), _), trivial, rfl, hH.rm 0 rfl⟩)
  | true =>
   repeat (first | (refine is_list ?_; refine s_pe hF J J J J ?_; clear hF; intro a hF) | refine c_seq (fun K hK => ?_) | refine wp_region_lit ?_ | (refine c_nilK hK ?_; clear hK) | refine c_false hF rfl ?_ | refine wp_skip ?_ | (refine e_thenK hK ?_; clear hK))
   by_cases hj3 : ((j : Nat) : Int) < ((s.size : Nat) : Int)
   ·rw [show decide (((j : Nat) : Int) < ((s.size : Nat) : Int)) = true from decide_eq_true hj3] at hF
    repeat (refine is_list ?_; refine s_pe hF J J J J ?_; clear hF; intro a hF)
    refine s_six (q := j) hF J J J J J J (by omega) ?_
    clear hF; intro a hF
    repeat (first | (refine is_list ?_; refine s_pe hF J J J J ?_; clear hF; intro a hF) | (refine c_nilK hK ?_; clear hK))
    generalize (((U.B s j : Nat) : Int) == 46) = t at hF
    cases t
    ·repeat (first | (refine is_list ?_; refine s_pe hF J J J J ?_; clear hF; intro a hF) | refine c_seq (fun K hK => ?_) | refine wp_region_lit ?_ | refine c_false hF rfl ?_ | refine wp_skip ?_ | (refine e_thenK hK ?_; clear hK))
     refine s_ssl (s := s) (l := j) (h := s.size) hF J J J J J J J (by omega) (by omega) ?_
     clear hF; intro a hF
     have hq2 : (s.extract j s.size).size < 4611686018427387904 := by rw [sizeX (by omega) (by omega)]; omega
     repeat (first | (refine is_list ?_; first | (refine s_pe hF J J J J ?_; clear hF; intro a hF) | (refine is_call ?_; refine s_call hF hH J J J J J (jExponent_ok _ hq2 _) ?_; clear hF hH; intro a w r hr hF hH)) | refine c_seq (fun K hK => ?_) | refine wp_region_lit ?_ | (refine c_nilK hK ?_; clear hK))
     obtain ⟨e, is⟩ := r
     skip
     cases is with
     | false =>
      repeat (first | (refine is_list ?_; first | (refine s_pe hF J J J J ?_; clear hF; intro a hF) | (refine s_sta 0 hF hH J J J J J J J J J J ?_; clear hH; intro w hH)) | refine c_seq (fun K hK => ?_) | refine wp_region_lit ?_ | (refine c_nilK hK ?_; clear hK) | refine c_true hF rfl ?_ | refine wp_ret ?_ | (refine e_ret ?_; clear hK))
      exact hret _ _ (c_retCT 0 hF hH J J J J J J ⟨((_, _, _), _), trivial, rfl, hH.rm 0 rfl⟩)
     | true =>
      repeat (first | (refine is_list ?_; refine s_pe hF J J J J ?_; clear hF; intro a hF) | refine c_seq (fun K hK => ?_) | refine wp_region_lit ?_ | refine c_false hF rfl ?_ | refine wp_skip ?_ | (refine e_thenK hK ?_; clear hK))
      refine s_ssl (s := s) (l := 0) (h := j) hF J J J J J J J (by omega) (by omega) ?_
      clear hF; intro a hF
      repeat (first | (refine is_list ?_; refine s_pe hF J J J J ?_; clear hF; intro a hF) | refine c_seq (fun K hK => ?_) | refine wp_region_lit ?_ | (refine c_nilK hK ?_; clear hK))
      rw [show decide (((j : Nat) : Int) > ((j : Nat) : Int)) = false from decide_eq_false (by omega)] at hF
      repeat (first | (refine is_list ?_; first | (refine s_pe hF J J J J ?_; clear hF; intro a hF) | (refine is_call ?_; refine s_call hF hH J J J J J (jLean_ok _ _ _ hq _) ?_; clear hF hH; intro a w q hq hF hH) | (refine s_sta 0 hF hH J J J J J J J J J J ?_; clear hH; intro w hH)) | refine c_seq (fun K hK => ?_) | refine wp_region_lit ?_ | (refine c_nilK hK ?_; clear hK) | refine c_false hF rfl ?_ | refine wp_ret ?_ | refine wp_skip ?_ | (refine e_thenK hK ?_; clear hK))
      exact hret _ _ (c_retCT 0 hF hH J J J J J J ⟨((_, _, _), _), trivial, rfl, hH.rm 0 rfl⟩)
    ·repeat (first | (refine is_list ?_; refine s_pe hF J J J J ?_; clear hF; intro a hF) | refine c_seq (fun K hK => ?_) | refine wp_region_lit ?_ | refine c_true hF rfl ?_)
     have hc : IntKind.i64.wrap ((j : Int) + 1) = ((j + 1 : Nat) : Int) := wrapN (by omega)
     rw [hc] at hF
     repeat (first | (refine is_list ?_; first | (refine s_pe hF J J J J ?_; clear hF; intro a hF) | (refine is_call ?_; refine s_call hF hH J J J J J (c84 s hs (j + 1) _) ?_; clear hF hH; intro a w p hp hF hH)) | refine c_seq (fun K hK => ?_) | refine wp_region_lit ?_ | (refine c_nilK hK ?_; clear hK))
     obtain ⟨hp1, hp2⟩ := hp
     replace hp2 := hp2 (by omega)
     rw [hc] at hF
     skip
     generalize (((p : Nat) : Int) == ((j + 1 : Nat) : Int)) = t at hF
     cases t
     ·repeat (first | (refine is_list ?_; refine s_pe hF J J J J ?_; clear hF; intro a hF) | refine c_seq (fun K hK => ?_) | refine wp_region_lit ?_ | refine c_false hF rfl ?_ | refine wp_skip ?_ | (refine e_thenK hK ?_; clear hK))
      refine s_ssl (s := s) (l := p) (h := s.size) hF J J J J J J J (by omega) (by omega) ?_
      clear hF; intro a hF
      have hq2 : (s.extract p s.size).size < 4611686018427387904 := by rw [sizeX (by omega) (by omega)]; omega
      repeat (first | (refine is_list ?_; first | (refine s_pe hF J J J J ?_; clear hF; intro a hF) | (refine is_call ?_; refine s_call hF hH J J J J J (jExponent_ok _ hq2 _) ?_; clear hF hH; intro a w r hr hF hH)) | refine c_seq (fun K hK => ?_) | refine wp_region_lit ?_ | (refine c_nilK hK ?_; clear hK))
      obtain ⟨e, is⟩ := r
      skip
      cases is with
      | false =>
       repeat (first | (refine is_list ?_; first | (refine s_pe hF J J J J ?_; clear hF; intro a hF) | (refine s_sta 0 hF hH J J J J J J J J J J ?_; clear hH; intro w hH)) | refine c_seq (fun K hK => ?_) | refine wp_region_lit ?_ | (refine c_nilK hK ?_; clear hK) | refine c_true hF rfl ?_ | refine wp_ret ?_ | (refine e_ret ?_; clear hK))
       exact hret _ _ (c_retCT 0 hF hH J J J J J J ⟨((_, _, _), _), trivial, rfl, hH.rm 0 rfl⟩)
      | true =>
       repeat (first | (refine is_list ?_; refine s_pe hF J J J J ?_; clear hF; intro a hF) | refine c_seq (fun K hK => ?_) | refine wp_region_lit ?_ | refine c_false hF rfl ?_ | refine wp_skip ?_ | (refine e_thenK hK ?_; clear hK))
       refine s_ssl (s := s) (l := 0) (h := j) hF J J J J J J J (by omega) (by omega) ?_
       clear hF; intro a hF
       repeat (first | (refine is_list ?_; refine s_pe hF J J J J ?_; clear hF; intro a hF) | refine c_seq (fun K hK => ?_) | refine wp_region_lit ?_ | (refine c_nilK hK ?_; clear hK))
       rw [show decide (((p : Nat) : Int) > ((j : Nat) : Int)) = true from decide_eq_true (by omega)] at hF
       repeat (first | (refine is_list ?_; refine s_pe hF J J J J ?_; clear hF; intro a hF) | refine c_seq (fun K hK => ?_) | refine wp_region_lit ?_ | refine c_true hF rfl ?_)
       rw [hc] at hF
       refine s_ssl (s := s) (l := (j + 1)) (h := p) hF J J J J J J J (by omega) (by omega) ?_
       clear hF; intro a hF
       skip
       refine s_sad hF J J J J J (by rw [sizeX (by omega) (by omega), sizeX (by omega) (by omega)]; omega) ?_
       clear hF; intro a dg hdg hF
       have hq3 : dg.size < 4611686018427387904 := by rw [hdg, sizeX (by omega) (by omega), sizeX (by omega) (by omega)]; omega
       repeat (first | (refine is_list ?_; first | (refine s_pe hF J J J J ?_; clear hF; intro a hF) | (refine is_call ?_; refine s_call hF hH J J J J J (jLean_ok _ _ _ hq3 _) ?_; clear hF hH; intro a w q hq hF hH) | (refine s_sta 0 hF hH J J J J J J J J J J ?_; clear hH; intro w hH)) | refine c_seq (fun K hK => ?_) | refine wp_region_lit ?_ | (refine c_nilK hK ?_; clear hK) | refine wp_ret ?_)
       exact hret _ _ (c_retCT 0 hF hH J J J J J J ⟨((_, _, _), _), trivial, rfl, hH.rm 0 rfl⟩)
     ·repeat (first | (refine is_list ?_; first | (refine s_pe hF J J J J ?_; clear hF; intro a hF) | (refine s_sta 0 hF hH J J J J J J J J J J ?_; clear hH; intro w hH)) | refine c_seq (fun K hK => ?_) | refine wp_region_lit ?_ | (refine c_nilK hK ?_; clear hK) | refine c_true hF rfl ?_ | refine wp_ret ?_ | (refine e_ret ?_; clear hK))
      exact hret _ _ (c_retCT 0 hF hH J J J J J J ⟨((_, _, _), _), trivial, rfl, hH.rm 0 rfl⟩)
   ·rw [show decide (((j : Nat) : Int) < ((s.size : Nat) : Int)) = false from decide_eq_false hj3] at hF
    repeat (first | (refine is_list ?_; (first | refine s_pe hF J J J J ?_ | refine x_off hF J J J ?_); clear hF; intro a hF) | refine c_seq (fun K hK => ?_) | refine wp_region_lit ?_ | (refine c_nilK hK ?_; clear hK) | refine c_false hF rfl ?_ | refine wp_skip ?_ | (refine e_thenK hK ?_; clear hK))
    refine s_ssl (s := s) (l := j) (h := s.size) hF J J J J J J J (by omega) (by omega) ?_
    clear hF; intro a hF
    have hq2 : (s.extract j s.size).size < 4611686018427387904 := by rw [sizeX (by omega) (by omega)]; omega
    repeat (first | (refine is_list ?_; first | (refine s_pe hF J J J J ?_; clear hF; intro a hF) | (refine is_call ?_; refine s_call hF hH J J J J J (jExponent_ok _ hq2 _) ?_; clear hF hH; intro a w r hr hF hH)) | refine c_seq (fun K hK => ?_) | refine wp_region_lit ?_ | (refine c_nilK hK ?_; clear hK))
    obtain ⟨e, is⟩ := r
    skip
    cases is with
    | false =>
     repeat (first | (refine is_list ?_; first | (refine s_pe hF J J J J ?_; clear hF; intro a hF) | (refine s_sta 0 hF hH J J J J J J J J J J ?_; clear hH; intro w hH)) | refine c_seq (fun K hK => ?_) | refine wp_region_lit ?_ | (refine c_nilK hK ?_; clear hK) | refine c_true hF rfl ?_ | refine wp_ret ?_ | (refine e_ret ?_; clear hK))
     exact hret _ _ (c_retCT 0 hF hH J J J J J J ⟨((_, _, _), _), trivial, rfl, hH.rm 0 rfl⟩)
    | true =>
     repeat (first | (refine is_list ?_; refine s_pe hF J J J J ?_; clear hF; intro a hF) | refine c_seq (fun K hK => ?_) | refine wp_region_lit ?_ | refine c_false hF rfl ?_ | refine wp_skip ?_ | (refine e_thenK hK ?_; clear hK))
     refine s_ssl (s := s) (l := 0) (h := j) hF J J J J J J J (by omega) (by omega) ?_
     clear hF; intro a hF
     repeat (first | (refine is_list ?_; refine s_pe hF J J J J ?_; clear hF; intro a hF) | refine c_seq (fun K hK => ?_) | refine wp_region_lit ?_ | (refine c_nilK hK ?_; clear hK))
     rw [show decide (((j : Nat) : Int) > ((j : Nat) : Int)) = false from decide_eq_false (by omega)] at hF
     repeat (first | (refine is_list ?_; first | (refine s_pe hF J J J J ?_; clear hF; intro a hF) | (refine is_call ?_; refine s_call hF hH J J J J J (jLean_ok _ _ _ hq _) ?_; clear hF hH; intro a w q hq hF hH) | (refine s_sta 0 hF hH J J J J J J J J J J ?_; clear hH; intro w hH)) | refine c_seq (fun K hK => ?_) | refine wp_region_lit ?_ | (refine c_nilK hK ?_; clear hK) | refine c_false hF rfl ?_ | refine wp_ret ?_ | refine wp_skip ?_ | (refine e_thenK hK ?_; clear hK))
     exact hret _ _ (c_retCT 0 hF hH J J J J J J ⟨((_, _, _), _), trivial, rfl, hH.rm 0 rfl⟩)
 ·rw [hb] at hF
  repeat (refine is_list ?_; refine s_pe hF J J J J ?_; clear hF; intro a hF)
  refine s_six (s := s) (q := 0) hF J J J J J J (by omega) ?_
  clear hF; intro a hF
  repeat (first | (refine is_list ?_; refine s_pe hF J J J J ?_; clear hF; intro a hF) | (refine c_nilK hK ?_; clear hK))
  generalize (((U.B s 0 : Nat) : Int) == 45) = t at hF
  cases t
  ·repeat (first | (refine is_list ?_; refine s_pe hF J J J J ?_; clear hF; intro a hF) | refine c_seq (fun K hK => ?_) | refine wp_region_lit ?_ | refine c_false hF rfl ?_ | refine wp_skip ?_ | (refine e_thenK hK ?_; clear hK))
   repeat (first | (refine is_list ?_; first | (refine s_pe hF J J J J ?_; clear hF; intro a hF) | (refine is_call ?_; refine s_call hF hH J J J J J (c84 s hs 0 _) ?_; clear hF hH; intro a w j hj hF hH)) | refine c_seq (fun K hK => ?_) | refine wp_region_lit ?_ | (refine c_nilK hK ?_; clear hK))
   obtain ⟨hj1, hj2⟩ := hj
   replace hj2 := hj2 (by omega)
   refine s_ssl (s := s) (l := 0) (h := j) hF J J J J J J J (by omega) (by omega) ?_
   clear hF; intro a hF
   have hq : (s.extract 0 j).size < 4611686018427387904 := by rw [sizeX (by omega) (by omega)]; omega
   repeat (first | (refine is_list ?_; first | (refine s_pe hF J J J J ?_; clear hF; intro a hF) | (refine is_call ?_; refine s_call hF hH J J J J J (c43 _ hq _) ?_; clear hF hH; intro a w r hr hF hH)) | (refine c_nilK hK ?_; clear hK))
   cases r with
   | false =>
    repeat (first | (refine is_list ?_; first | (refine s_pe hF J J J J ?_; clear hF; intro a hF) | (refine s_sta 0 hF hH J J J J J J J J J J ?_; clear hH; intro w hH)) | refine c_seq (fun K hK => ?_) | refine wp_region_lit ?_ | (refine c_nilK hK ?_; clear hK) | refine c_true hF rfl ?_ | refine wp_ret ?_ | (refine e_ret ?_; clear hK))
    exact hret _ _ (c_retCT 0 hF hH J J J J J J ⟨((_, _, _), _), trivial, rfl, hH.rm 0 rfl⟩)
   | true =>
    repeat (first | (refine is_list ?_; refine s_pe hF J J J J ?_; clear hF; intro a hF) | refine c_seq (fun K hK => ?_) | refine wp_region_lit ?_ | (refine c_nilK hK ?_; clear hK) | refine c_false hF rfl ?_ | refine wp_skip ?_ | (refine e_thenK hK ?_; clear hK))
    by_cases hj3 : ((j : Nat) : Int) < ((s.size : Nat) : Int)
    ·rw [show decide (((j : Nat) : Int) < ((s.size : Nat) : Int)) = true from decide_eq_true hj3] at hF
     repeat (refine is_list ?_; refine s_pe hF J J J J ?_; clear hF; intro a hF)
     refine s_six (q := j) hF J J J J J J (by omega) ?_
     clear hF; intro a hF
     repeat (first | (refine is_list ?_; refine s_pe hF J J J J ?_; clear hF; intro a hF) | (refine c_nilK hK ?_; clear hK))
     generalize (((U.B s j : Nat) : Int) == 46) = t at hF
     cases t
     ·repeat (first | (refine is_list ?_; refine s_pe hF J J J J ?_; clear hF; intro a hF) | refine c_seq (fun K hK => ?_) | refine wp_region_lit ?_ | refine c_false hF rfl ?_ | refine wp_skip ?_ | (refine e_thenK hK ?_; clear hK))
      refine s_ssl (s := s) (l := j) (h := s.size) hF J J J J J J J (by omega) (by omega) ?_
      clear hF; intro a hF
      have hq2 : (s.extract j s.size).size < 4611686018427387904 := by rw [sizeX (by omega) (by omega)]; omega
      repeat (first | (refine is_list ?_; first | (refine s_pe hF J J J J ?_; clear hF; intro a hF) | (refine is_call ?_; refine s_call hF hH J J J J J (jExponent_ok _ hq2 _) ?_; clear hF hH; intro a w r hr hF hH)) | refine c_seq (fun K hK => ?_) | refine wp_region_lit ?_ | (refine c_nilK hK ?_; clear hK))
      obtain ⟨e, is⟩ := r
      skip
      cases is with
      | false =>
       repeat (first | (refine is_list ?_; first | (refine s_pe hF J J J J ?_; clear hF; intro a hF) | (refine s_sta 0 hF hH J J J J J J J J J J ?_; clear hH; intro w hH)) | refine c_seq (fun K hK => ?_) | refine wp_region_lit ?_ | (refine c_nilK hK ?_; clear hK) | refine c_true hF rfl ?_ | refine wp_ret ?_ | (refine e_ret ?_; clear hK))
       exact hret _ _ (c_retCT 0 hF hH J J J J J J ⟨((_, _, _), _), trivial, rfl, hH.rm 0 rfl⟩)
      | true =>
       repeat (first | (refine is_list ?_; refine s_pe hF J J J J ?_; clear hF; intro a hF) | refine c_seq (fun K hK => ?_) | refine wp_region_lit ?_ | refine c_false hF rfl ?_ | refine wp_skip ?_ | (refine e_thenK hK ?_; clear hK))
       refine s_ssl (s := s) (l := 0) (h := j) hF J J J J J J J (by omega) (by omega) ?_
       clear hF; intro a hF
       repeat (first | (refine is_list ?_; refine s_pe hF J J J J ?_; clear hF; intro a hF) | refine c_seq (fun K hK => ?_) | refine wp_region_lit ?_ | (refine c_nilK hK ?_; clear hK))
       rw [show decide (((j : Nat) : Int) > ((j : Nat) : Int)) = false from decide_eq_false (by omega)] at hF
       repeat (first | (refine is_list ?_; first | (refine s_pe hF J J J J ?_; clear hF; intro a hF) | (refine is_call ?_; refine s_call hF hH J J J J J (jLean_ok _ _ _ hq _) ?_; clear hF hH; intro a w q hq hF hH) | (refine s_sta 0 hF hH J J J J J J J J J J ?_; clear hH; intro w hH)) | refine c_seq (fun K hK => ?_) | refine wp_region_lit ?_ | (refine c_nilK hK ?_; clear hK) | refine c_false hF rfl ?_ | refine wp_ret ?_ | refine wp_skip ?_ | (refine e_thenK hK ?_; clear hK))
       exact hret _ _ (c_retCT 0 hF hH J J J J J J ⟨((_, _, _), _), trivial, rfl, hH.rm 0 rfl⟩)
     ·repeat (first | (refine is_list ?_; refine s_pe hF J J J J ?_; clear hF; intro a hF) | refine c_seq (fun K hK => ?_) | refine wp_region_lit ?_ | refine c_true hF rfl ?_)
      have hc : IntKind.i64.wrap ((j : Int) + 1) = ((j + 1 : Nat) : Int) := wrapN (by omega)
      rw [hc] at hF
      repeat (first | (refine is_list ?_; first | (refine s_pe hF J J J J ?_; clear hF; intro a hF) | (refine is_call ?_; refine s_call hF hH J J J J J (c84 s hs (j + 1) _) ?_; clear hF hH; intro a w p hp hF hH)) | refine c_seq (fun K hK => ?_) | refine wp_region_lit ?_ | (refine c_nilK hK ?_; clear hK))
      obtain ⟨hp1, hp2⟩ := hp
      replace hp2 := hp2 (by omega)
      rw [hc] at hF
      skip
      generalize (((p : Nat) : Int) == ((j + 1 : Nat) : Int)) = t at hF
      cases t
      ·repeat (first | (refine is_list ?_; refine s_pe hF J J J J ?_; clear hF; intro a hF) | refine c_seq (fun K hK => ?_) | refine wp_region_lit ?_ | refine c_false hF rfl ?_ | refine wp_skip ?_ | (refine e_thenK hK ?_; clear hK))
       refine s_ssl (s := s) (l := p) (h := s.size) hF J J J J J J J (by omega) (by omega) ?_
       clear hF; intro a hF
       have hq2 : (s.extract p s.size).size < 4611686018427387904 := by rw [sizeX (by omega) (by omega)]; omega
       repeat (first | (refine is_list ?_; first | (refine s_pe hF J J J J ?_; clear hF; intro a hF) | (refine is_call ?_; refine s_call hF hH J J J J J (jExponent_ok _ hq2 _) ?_; clear hF hH; intro a w r hr hF hH)) | refine c_seq (fun K hK => ?_) | refine wp_region_lit ?_ | (refine c_nilK hK ?_; clear hK))
       obtain ⟨e, is⟩ := r
       skip
       cases is with
       | false =>
        repeat (first | (refine is_list ?_; first | (refine s_pe hF J J J J ?_; clear hF; intro a hF) | (refine s_sta 0 hF hH J J J J J J J J J J ?_; clear hH; intro w hH)) | refine c_seq (fun K hK => ?_) | refine wp_region_lit ?_ | (refine c_nilK hK ?_; clear hK) | refine c_true hF rfl ?_ | refine wp_ret ?_ | (refine e_ret ?_; clear hK))
        exact hret _ _ (c_retCT 0 hF hH J J J J J J ⟨((_, _, _), _), trivial, rfl, hH.rm 0 rfl⟩)
       | true =>
        repeat (first | (refine is_list ?_; refine s_pe hF J J J J ?_; clear hF; intro a hF) | refine c_seq (fun K hK => ?_) | refine wp_region_lit ?_ | refine c_false hF rfl ?_ | refine wp_skip ?_ | (refine e_thenK hK ?_; clear hK))
        refine s_ssl (s := s) (l := 0) (h := j) hF J J J J J J J (by omega) (by omega) ?_
        clear hF; intro a hF
        repeat (first | (refine is_list ?_; refine s_pe hF J J J J ?_; clear hF; intro a hF) | refine c_seq (fun K hK => ?_) | refine wp_region_lit ?_ | (refine c_nilK hK ?_; clear hK))
        rw [show decide (((p : Nat) : Int) > ((j : Nat) : Int)) = true from decide_eq_true (by omega)] at hF
        repeat (first | (refine is_list ?_; refine s_pe hF J J J J ?_; clear hF; intro a hF) | refine c_seq (fun K hK => ?_) | refine wp_region_lit ?_ | refine c_true hF rfl ?_)
        rw [hc] at hF
        refine s_ssl (s := s) (l := (j + 1)) (h := p) hF J J J J J J J (by omega) (by omega) ?_
        clear hF; intro a hF
        skip
        refine s_sad hF J J J J J (by rw [sizeX (by omega) (by omega), sizeX (by omega) (by omega)]; omega) ?_
        clear hF; intro a dg hdg hF
        have hq3 : dg.size < 4611686018427387904 := by rw [hdg, sizeX (by omega) (by omega), sizeX (by omega) (by omega)]; omega
        repeat (first | (refine is_list ?_; first | (refine s_pe hF J J J J ?_; clear hF; intro a hF) | (refine is_call ?_; refine s_call hF hH J J J J J (jLean_ok _ _ _ hq3 _) ?_; clear hF hH; intro a w q hq hF hH) | (refine s_sta 0 hF hH J J J J J J J J J J ?_; clear hH; intro w hH)) | refine c_seq (fun K hK => ?_) | refine wp_region_lit ?_ | (refine c_nilK hK ?_; clear hK) | refine wp_ret ?_)
        exact hret _ _ (c_retCT 0 hF hH J J J J J J ⟨((_, _, _), _), trivial, rfl, hH.rm 0 rfl⟩)
      ·repeat (first | (refine is_list ?_; first | (refine s_pe hF J J J J ?_; clear hF; intro a hF) | (refine s_sta 0 hF hH J J J J J J J J J J ?_; clear hH; intro w hH)) | refine c_seq (fun K hK => ?_) | refine wp_region_lit ?_ | (refine c_nilK hK ?_; clear hK) | refine c_true hF rfl ?_ | refine wp_ret ?_ | (refine e_ret ?_; clear hK))
       exact hret _ _ (c_retCT 0 hF hH J J J J J J ⟨((_, _, _), _), trivial, rfl, hH.rm 0 rfl⟩)
    ·rw [show decide (((j : Nat) : Int) < ((s.size : Nat) : Int)) = false from decide_eq_false hj3] at hF
     repeat (first | (refine is_list ?_; (first | refine s_pe hF J J J J ?_ | refine x_off hF J J J ?_); clear hF; intro a hF) | refine c_seq (fun K hK => ?_) | refine wp_region_lit ?_ | (refine c_nilK hK ?_; clear hK) | refine c_false hF rfl ?_ | refine wp_skip ?_ | (refine e_thenK hK ?_; clear hK))
     refine s_ssl (s := s) (l := j) (h := s.size) hF J J J J J J J (by omega) (by omega) ?_
     clear hF; intro a hF
     have hq2 : (s.extract j s.size).size < 4611686018427387904 := by rw [sizeX (by omega) (by omega)]; omega
     repeat (first | (refine is_list ?_; first | (refine s_pe hF J J J J ?_; clear hF; intro a hF) | (refine is_call ?_; refine s_call hF hH J J J J J (jExponent_ok _ hq2 _) ?_; clear hF hH; intro a w r hr hF hH)) | refine c_seq (fun K hK => ?_) | refine wp_region_lit ?_ | (refine c_nilK hK ?_; clear hK))
     obtain ⟨e, is⟩ := r
     skip
     cases is with
     | false =>
      repeat (first | (refine is_list ?_; first | (refine s_pe hF J J J J ?_; clear hF; intro a hF) | (refine s_sta 0 hF hH J J J J J J J J J J ?_; clear hH; intro w hH)) | refine c_seq (fun K hK => ?_) | refine wp_region_lit ?_ | (refine c_nilK hK ?_; clear hK) | refine c_true hF rfl ?_ | refine wp_ret ?_ | (refine e_ret ?_; clear hK))
      exact hret _ _ (c_retCT 0 hF hH J J J J J J ⟨((_, _, _), _), trivial, rfl, hH.rm 0 rfl⟩)
     | true =>
      repeat (first | (refine is_list ?_; refine s_pe hF J J J J ?_; clear hF; intro a hF) | refine c_seq (fun K hK => ?_) | refine wp_region_lit ?_ | refine c_false hF rfl ?_ | refine wp_skip ?_ | (refine e_thenK hK ?_; clear hK))
      refine s_ssl (s := s) (l := 0) (h := j) hF J J J J J J J (by omega) (by omega) ?_
      clear hF; intro a hF
      repeat (first | (refine is_list ?_; refine s_pe hF J J J J ?_; clear hF; intro a hF) | refine c_seq (fun K hK => ?_) | refine wp_region_lit ?_ | (refine c_nilK hK ?_; clear hK))
      rw [show decide (((j : Nat) : Int) > ((j : Nat) : Int)) = false from decide_eq_false (by omega)] at hF
      repeat (first | (refine is_list ?_; first | (refine s_pe hF J J J J ?_; clear hF; intro a hF) | (refine is_call ?_; refine s_call hF hH J J J J J (jLean_ok _ _ _ hq _) ?_; clear hF hH; intro a w q hq hF hH) | (refine s_sta 0 hF hH J J J J J J J J J J ?_; clear hH; intro w hH)) | refine c_seq (fun K hK => ?_) | refine wp_region_lit ?_ | (refine c_nilK hK ?_; clear hK) | refine c_false hF rfl ?_ | refine wp_ret ?_ | refine wp_skip ?_ | (refine e_thenK hK ?_; clear hK))
      exact hret _ _ (c_retCT 0 hF hH J J J J J J ⟨((_, _, _), _), trivial, rfl, hH.rm 0 rfl⟩)
  ·repeat (first | (refine is_list ?_; refine s_pe hF J J J J ?_; clear hF; intro a hF) | refine c_seq (fun K hK => ?_) | refine wp_region_lit ?_ | (refine c_nilK hK ?_; clear hK) | refine c_true hF rfl ?_)
   repeat (first | (refine is_list ?_; first | (refine s_pe hF J J J J ?_; clear hF; intro a hF) | (refine is_call ?_; refine s_call hF hH J J J J J (c84 s hs 1 _) ?_; clear hF hH; intro a w j hj hF hH)) | refine c_seq (fun K hK => ?_) | refine wp_region_lit ?_ | (refine c_nilK hK ?_; clear hK))
   obtain ⟨hj1, hj2⟩ := hj
   replace hj2 := hj2 (by omega)
   refine s_ssl (s := s) (l := 1) (h := j) hF J J J J J J J (by omega) (by omega) ?_
   clear hF; intro a hF
   have hq : (s.extract 1 j).size < 4611686018427387904 := by rw [sizeX (by omega) (by omega)]; omega
   repeat (first | (refine is_list ?_; first | (refine s_pe hF J J J J ?_; clear hF; intro a hF) | (refine is_call ?_; refine s_call hF hH J J J J J (c43 _ hq _) ?_; clear hF hH; intro a w r hr hF hH)) | (refine c_nilK hK ?_; clear hK))
   cases r with
   | false =>
    repeat (first | (refine is_list ?_; first | (refine s_pe hF J J J J ?_; clear hF; intro a hF) | (refine s_sta 0 hF hH J J J J J J J J J J ?_; clear hH; intro w hH)) | refine c_seq (fun K hK => ?_) | refine wp_region_lit ?_ | (refine c_nilK hK ?_; clear hK) | refine c_true hF rfl ?_ | refine wp_ret ?_ | (refine e_ret ?_; clear hK))
    exact hret _ _ (c_retCT 0 hF hH J J J J J J ⟨((_, _, _), _), trivial, rfl, hH.rm 0 rfl⟩)
   | true =>
    repeat (first | (refine is_list ?_; refine s_pe hF J J J J ?_; clear hF; intro a hF) | refine c_seq (fun K hK => ?_) | refine wp_region_lit ?_ | (refine c_nilK hK ?_; clear hK) | refine c_false hF rfl ?_ | refine wp_skip ?_ | (refine e_thenK hK ?_; clear hK))
    by_cases hj3 : ((j : Nat) : Int) < ((s.size : Nat) : Int)
    ·rw [show decide (((j : Nat) : Int) < ((s.size : Nat) : Int)) = true from decide_eq_true hj3] at hF
     repeat (refine is_list ?_; refine s_pe hF J J J J ?_; clear hF; intro a hF)
     refine s_six (q := j) hF J J J J J J (by omega) ?_
     clear hF; intro a hF
     repeat (first | (refine is_list ?_; refine s_pe hF J J J J ?_; clear hF; intro a hF) | (refine c_nilK hK ?_; clear hK))
     generalize (((U.B s j : Nat) : Int) == 46) = t at hF
     cases t
     ·repeat (first | (refine is_list ?_; refine s_pe hF J J J J ?_; clear hF; intro a hF) | refine c_seq (fun K hK => ?_) | refine wp_region_lit ?_ | refine c_false hF rfl ?_ | refine wp_skip ?_ | (refine e_thenK hK ?_; clear hK))
      refine s_ssl (s := s) (l := j) (h := s.size) hF J J J J J J J (by omega) (by omega) ?_
      clear hF; intro a hF
      have hq2 : (s.extract j s.size).size < 4611686018427387904 := by rw [sizeX (by omega) (by omega)]; omega
      repeat (first | (refine is_list ?_; first | (refine s_pe hF J J J J ?_; clear hF; intro a hF) | (refine is_call ?_; refine s_call hF hH J J J J J (jExponent_ok _ hq2 _) ?_; clear hF hH; intro a w r hr hF hH)) | refine c_seq (fun K hK => ?_) | refine wp_region_lit ?_ | (refine c_nilK hK ?_; clear hK))
      obtain ⟨e, is⟩ := r
      skip
      cases is with
      | false =>
       repeat (first | (refine is_list ?_; first | (refine s_pe hF J J J J ?_; clear hF; intro a hF) | (refine s_sta 0 hF hH J J J J J J J J J J ?_; clear hH; intro w hH)) | refine c_seq (fun K hK => ?_) | refine wp_region_lit ?_ | (refine c_nilK hK ?_; clear hK) | refine c_true hF rfl ?_ | refine wp_ret ?_ | (refine e_ret ?_; clear hK))
       exact hret _ _ (c_retCT 0 hF hH J J J J J J ⟨((_, _, _), _), trivial, rfl, hH.rm 0 rfl⟩)
      | true =>
       repeat (first | (refine is_list ?_; refine s_pe hF J J J J ?_; clear hF; intro a hF) | refine c_seq (fun K hK => ?_) | refine wp_region_lit ?_ | refine c_false hF rfl ?_ | refine wp_skip ?_ | (refine e_thenK hK ?_; clear hK))
       refine s_ssl (s := s) (l := 1) (h := j) hF J J J J J J J (by omega) (by omega) ?_
       clear hF; intro a hF
       repeat (first | (refine is_list ?_; refine s_pe hF J J J J ?_; clear hF; intro a hF) | refine c_seq (fun K hK => ?_) | refine wp_region_lit ?_ | (refine c_nilK hK ?_; clear hK))
       rw [show decide (((j : Nat) : Int) > ((j : Nat) : Int)) = false from decide_eq_false (by omega)] at hF
       repeat (first | (refine is_list ?_; first | (refine s_pe hF J J J J ?_; clear hF; intro a hF) | (refine is_call ?_; refine s_call hF hH J J J J J (jLean_ok _ _ _ hq _) ?_; clear hF hH; intro a w q hq hF hH) | (refine s_sta 0 hF hH J J J J J J J J J J ?_; clear hH; intro w hH)) | refine c_seq (fun K hK => ?_) | refine wp_region_lit ?_ | (refine c_nilK hK ?_; clear hK) | refine c_false hF rfl ?_ | refine wp_ret ?_ | refine wp_skip ?_ | (refine e_thenK hK ?_; clear hK))
       exact hret _ _ (c_retCT 0 hF hH J J J J J J ⟨((_, _, _), _), trivial, rfl, hH.rm 0 rfl⟩)
     ·repeat (first | (refine is_list ?_; refine s_pe hF J J J J ?_; clear hF; intro a hF) | refine c_seq (fun K hK => ?_) | refine wp_region_lit ?_ | refine c_true hF rfl ?_)
      have hc : IntKind.i64.wrap ((j : Int) + 1) = ((j + 1 : Nat) : Int) := wrapN (by omega)
      rw [hc] at hF
      repeat (first | (refine is_list ?_; first | (refine s_pe hF J J J J ?_; clear hF; intro a hF) | (refine is_call ?_; refine s_call hF hH J J J J J (c84 s hs (j + 1) _) ?_; clear hF hH; intro a w p hp hF hH)) | refine c_seq (fun K hK => ?_) | refine wp_region_lit ?_ | (refine c_nilK hK ?_; clear hK))
      obtain ⟨hp1, hp2⟩ := hp
      replace hp2 := hp2 (by omega)
      rw [hc] at hF
      skip
      generalize (((p : Nat) : Int) == ((j + 1 : Nat) : Int)) = t at hF
      cases t
      ·repeat (first | (refine is_list ?_; refine s_pe hF J J J J ?_; clear hF; intro a hF) | refine c_seq (fun K hK => ?_) | refine wp_region_lit ?_ | refine c_false hF rfl ?_ | refine wp_skip ?_ | (refine e_thenK hK ?_; clear hK))
       refine s_ssl (s := s) (l := p) (h := s.size) hF J J J J J J J (by omega) (by omega) ?_
       clear hF; intro a hF
       have hq2 : (s.extract p s.size).size < 4611686018427387904 := by rw [sizeX (by omega) (by omega)]; omega
       repeat (first | (refine is_list ?_; first | (refine s_pe hF J J J J ?_; clear hF; intro a hF) | (refine is_call ?_; refine s_call hF hH J J J J J (jExponent_ok _ hq2 _) ?_; clear hF hH; intro a w r hr hF hH)) | refine c_seq (fun K hK => ?_) | refine wp_region_lit ?_ | (refine c_nilK hK ?_; clear hK))
       obtain ⟨e, is⟩ := r
       skip
       cases is with
       | false =>
        repeat (first | (refine is_list ?_; first | (refine s_pe hF J J J J ?_; clear hF; intro a hF) | (refine s_sta 0 hF hH J J J J J J J J J J ?_; clear hH; intro w hH)) | refine c_seq (fun K hK => ?_) | refine wp_region_lit ?_ | (refine c_nilK hK ?_; clear hK) | refine c_true hF rfl ?_ | refine wp_ret ?_ | (refine e_ret ?_; clear hK))
        exact hret _ _ (c_retCT 0 hF hH J J J J J J ⟨((_, _, _), _), trivial, rfl, hH.rm 0 rfl⟩)
       | true =>
        repeat (first | (refine is_list ?_; refine s_pe hF J J J J ?_; clear hF; intro a hF) | refine c_seq (fun K hK => ?_) | refine wp_region_lit ?_ | refine c_false hF rfl ?_ | refine wp_skip ?_ | (refine e_thenK hK ?_; clear hK))
        refine s_ssl (s := s) (l := 1) (h := j) hF J J J J J J J (by omega) (by omega) ?_
        clear hF; intro a hF
        repeat (first | (refine is_list ?_; refine s_pe hF J J J J ?_; clear hF; intro a hF) | refine c_seq (fun K hK => ?_) | refine wp_region_lit ?_ | (refine c_nilK hK ?_; clear hK))
        rw [show decide (((p : Nat) : Int) > ((j : Nat) : Int)) = true from decide_eq_true (by omega)] at hF
        repeat (first | (refine is_list ?_; refine s_pe hF J J J J ?_; clear hF; intro a hF) | refine c_seq (fun K hK => ?_) | refine wp_region_lit ?_ | refine c_true hF rfl ?_)
        rw [hc] at hF
        refine s_ssl (s := s) (l := (j + 1)) (h := p) hF J J J J J J J (by omega) (by omega) ?_
        clear hF; intro a hF
        skip
        refine s_sad hF J J J J J (by rw [sizeX (by omega) (by omega), sizeX (by omega) (by omega)]; omega) ?_
        clear hF; intro a dg hdg hF
        have hq3 : dg.size < 4611686018427387904 := by rw [hdg, sizeX (by omega) (by omega), sizeX (by omega) (by omega)]; omega
        repeat (first | (refine is_list ?_; first | (refine s_pe hF J J J J ?_; clear hF; intro a hF) | (refine is_call ?_; refine s_call hF hH J J J J J (jLean_ok _ _ _ hq3 _) ?_; clear hF hH; intro a w q hq hF hH) | (refine s_sta 0 hF hH J J J J J J J J J J ?_; clear hH; intro w hH)) | refine c_seq (fun K hK => ?_) | refine wp_region_lit ?_ | (refine c_nilK hK ?_; clear hK) | refine wp_ret ?_)
        exact hret _ _ (c_retCT 0 hF hH J J J J J J ⟨((_, _, _), _), trivial, rfl, hH.rm 0 rfl⟩)
      ·repeat (first | (refine is_list ?_; first | (refine s_pe hF J J J J ?_; clear hF; intro a hF) | (refine s_sta 0 hF hH J J J J J J J J J J ?_; clear hH; intro w hH)) | refine c_seq (fun K hK => ?_) | refine wp_region_lit ?_ | (refine c_nilK hK ?_; clear hK) | refine c_true hF rfl ?_ | refine wp_ret ?_ | (refine e_ret ?_; clear hK))
       exact hret _ _ (c_retCT 0 hF hH J J J J J J ⟨((_, _, _), _), trivial, rfl, hH.rm 0 rfl⟩)
    ·rw [show decide (((j : Nat) : Int) < ((s.size : Nat) : Int)) = false from decide_eq_false hj3] at hF
     repeat (first | (refine is_list ?_; (first | refine s_pe hF J J J J ?_ | refine x_off hF J J J ?_); clear hF; intro a hF) | refine c_seq (fun K hK => ?_) | refine wp_region_lit ?_ | (refine c_nilK hK ?_; clear hK) | refine c_false hF rfl ?_ | refine wp_skip ?_ | (refine e_thenK hK ?_; clear hK))
     refine s_ssl (s := s) (l := j) (h := s.size) hF J J J J J J J (by omega) (by omega) ?_
     clear hF; intro a hF
     have hq2 : (s.extract j s.size).size < 4611686018427387904 := by rw [sizeX (by omega) (by omega)]; omega
     repeat (first | (refine is_list ?_; first | (refine s_pe hF J J J J ?_; clear hF; intro a hF) | (refine is_call ?_; refine s_call hF hH J J J J J (jExponent_ok _ hq2 _) ?_; clear hF hH; intro a w r hr hF hH)) | refine c_seq (fun K hK => ?_) | refine wp_region_lit ?_ | (refine c_nilK hK ?_; clear hK))
     obtain ⟨e, is⟩ := r
     skip
     cases is with
     | false =>
      repeat (first | (refine is_list ?_; first | (refine s_pe hF J J J J ?_; clear hF; intro a hF) | (refine s_sta 0 hF hH J J J J J J J J J J ?_; clear hH; intro w hH)) | refine c_seq (fun K hK => ?_) | refine wp_region_lit ?_ | (refine c_nilK hK ?_; clear hK) | refine c_true hF rfl ?_ | refine wp_ret ?_ | (refine e_ret ?_; clear hK))
      exact hret _ _ (c_retCT 0 hF hH J J J J J J ⟨((_, _, _), _), trivial, rfl, hH.rm 0 rfl⟩)
     | true =>
      repeat (first | (refine is_list ?_; refine s_pe hF J J J J ?_; clear hF; intro a hF) | refine c_seq (fun K hK => ?_) | refine wp_region_lit ?_ | refine c_false hF rfl ?_ | refine wp_skip ?_ | (refine e_thenK hK ?_; clear hK))
      refine s_ssl (s := s) (l := 1) (h := j) hF J J J J J J J (by omega) (by omega) ?_
      clear hF; intro a hF
      repeat (first | (refine is_list ?_; refine s_pe hF J J J J ?_; clear hF; intro a hF) | refine c_seq (fun K hK => ?_) | refine wp_region_lit ?_ | (refine c_nilK hK ?_; clear hK))
      rw [show decide (((j : Nat) : Int) > ((j : Nat) : Int)) = false from decide_eq_false (by omega)] at hF
      repeat (first | (refine is_list ?_; first | (refine s_pe hF J J J J ?_; clear hF; intro a hF) | (refine is_call ?_; refine s_call hF hH J J J J J (jLean_ok _ _ _ hq _) ?_; clear hF hH; intro a w q hq hF hH) | (refine s_sta 0 hF hH J J J J J J J J J J ?_; clear hH; intro w hH)) | refine c_seq (fun K hK => ?_) | refine wp_region_lit ?_ | (refine c_nilK hK ?_; clear hK) | refine c_false hF rfl ?_ | refine wp_ret ?_ | refine wp_skip ?_ | (refine e_thenK hK ?_; clear hK))
      exact hret _ _ (c_retCT 0 hF hH J J J J J J ⟨((_, _, _), _), trivial, rfl, hH.rm 0 rfl⟩)
theorem jIsDecimal_ok (s : ByteArray) (hs : s.size < 4611686018427387904) (w0 : World) : Ct 24 [.string s] w0 (fun r : Bool => .bool r) (fun _ => []) (fun _ => True) := by
 unfold Ct
 refine c_enter (n := 11) (L := [(0, .string s)]) Tryz.func24 J J J J ?_
 intro a hF
 have hH := Hp.start w0
 refine c_open (fun Q hpan hret hnorm => ?_)
 repeat (first | (refine is_list ?_; first | (refine s_pe hF J J J J ?_; clear hF; intro a hF) | (refine is_call ?_; refine s_call hF hH J J J J J (jDecimalOf_ok s hs _) ?_; clear hF hH; intro a w q hq hF hH) | (refine s_al hF hH J J J J ?_; clear hF hH; intro a b w hF hH) | (refine s_sta 0 hF hH J J J J J J J J J J ?_; clear hH; intro w hH)) | refine c_seq (fun K hK => ?_) | refine wp_region_lit ?_ | (refine c_nilK hK ?_; clear hK) | refine wp_ret ?_)
 exact hret _ _ (c_ret1 hF J J ⟨_, trivial, rfl, hH.mid 0 1⟩)
end Go.Proofs.YtlkikblohnnlcaaGreatDoor.Y
end
section
namespace Go.Proofs.YtlkikblohnnlcaaGreatDoor.Y
open Go Go.RowKit X R Go.Proofs.YtlkikblohnnlcaaGreatDoorW.PrintWords
set_option linter.unusedVariables false
set_option maxRecDepth 4000
attribute [local irreducible] wpList dL Code.wp bodyPost Ct Calls Exit.then Exit.inBlock Code.rounds
set_option maxHeartbeats 0
theorem ine_t {a b : Int} (h : ¬ a = b) : (a != b) = true := by simp [h]
theorem ine_f {a b : Int} (h : a = b) : (a != b) = false := by simp [h]
inductive Pp : S27 → Prop
 | mk (x : S27) (hk : 0 ≤ x.f0 ∧ x.f0 ≤ 5) (hu : U.okF x.f3 x.f3.size 0) (hn : x.f0 = 5 → x.f4.length = x.f5.length) (hs : ∀ y ∈ x.f5, Pp y) : Pp x
inductive Cn : S27 → Prop
 | mk (x : S27) (hk : x.f0 ≠ 2) (hs : ∀ y ∈ x.f5, Cn y) : Cn x
theorem all_lt {α : Type} {l : List α} {P : α → Prop} (z : α) (h : ∀ j, j < l.length → P (l.getD j z)) : ∀ y ∈ l, P y := by
 intro y hy
 obtain ⟨j, hj, rfl⟩ := List.getElem_of_mem hy
 have := h j hj
 rwa [List.getD_eq_getElem?_getD, List.getElem?_eq_getElem hj] at this
theorem getD_mem {α : Type} {l : List α} (z : α) {i : Nat} (hi : i < l.length) : l.getD i z ∈ l := by
 rw [List.getD_eq_getElem?_getD, List.getElem?_eq_getElem hi]
 exact List.getElem_mem hi
theorem jProperIn_step (x : S27) (hz : Sz x) (IH : ∀ y ∈ x.f5, ∀ (deep : Int) (w : World) (cs : List Value), k27.K w y cs → Ct 16 [.agg cs.toArray, .int .i64 deep] w (fun r : Bool => .bool r) (fun _ => []) (fun r => r = true → Pp y)) (deep : Int) (w0 : World) (cs : List Value) (hX : k27.K w0 x cs) : Ct 16 [.agg cs.toArray, .int .i64 deep] w0 (fun r : Bool => .bool r) (fun _ => []) (fun r => r = true → Pp x) := by
 have z3 := hz.t3
 have z4 := hz.l4
 have z4' := hz.t4
 have z5 := hz.l5
 obtain ⟨A4, c4, A5, c5, rfl, l4, g4, l5, g5⟩ := k27_open hX
 clear hX hz
 unfold Ct
 refine c_enter (n := 83) (L := [(1, .int .i64 deep), (0, .agg #[.int .i64 x.f0, .bool x.f1, .int .i64 x.f2, .string x.f3, .slice A4 x.f4.length c4, .slice A5 x.f5.length c5])]) Tryz.func16 J J J J ?_
 intro a hF
 have hH := Hp.start w0
 refine c_open (fun Q hpan hret hnorm => ?_)
 repeat (first | (refine is_list ?_; first | (refine s_pe hF J J J J ?_; clear hF; intro a hF) | (refine s_bx hF hH J J J J ?_; clear hF hH; intro a b w hF hH)) | refine c_seq (fun K hK => ?_) | refine wp_region_lit ?_ | (refine c_nilK hK ?_; clear hK))
 generalize (deep == 0) = t at hF
 cases t with
 | true =>
  repeat (first | (refine is_list ?_; refine s_pe hF J J J J ?_; clear hF; intro a hF) | refine c_seq (fun K hK => ?_) | refine wp_region_lit ?_ | (refine c_nilK hK ?_; clear hK) | refine c_true hF rfl ?_ | refine wp_ret ?_ | (refine e_ret ?_; clear hK))
  exact hret _ _ (c_ret1 hF J J ⟨false, (fun h => by cases h), rfl, hH.rm 0 rfl⟩)
 | false =>
  repeat (first | (refine is_list ?_; first | (refine s_pe hF J J J J ?_; clear hF; intro a hF) | (refine is_load ?_; refine s_ld 0 hF hH J J J J J J J ?_; clear hF; intro a hF)) | refine c_seq (fun K hK => ?_) | refine wp_region_lit ?_ | refine c_false hF rfl ?_ | refine wp_skip ?_ | (refine e_thenK hK ?_; clear hK))
  by_cases hk0 : x.f0 < 0
  ·rw [show decide (x.f0 < 0) = true from decide_eq_true hk0] at hF
   repeat (first | (refine is_list ?_; (first | refine s_pe hF J J J J ?_ | refine x_off hF J J J ?_); clear hF; intro a hF) | refine c_seq (fun K hK => ?_) | refine wp_region_lit ?_ | (refine c_nilK hK ?_; clear hK) | refine c_true hF rfl ?_ | refine wp_ret ?_ | (refine e_ret ?_; clear hK))
   exact hret _ _ (c_ret1 hF J J ⟨false, (fun h => by cases h), rfl, hH.rm 0 rfl⟩)
  rw [show decide (x.f0 < 0) = false from decide_eq_false hk0] at hF
  repeat (refine is_list ?_; first | (refine s_pe hF J J J J ?_; clear hF; intro a hF) | (refine is_load ?_; refine s_ld 0 hF hH J J J J J J J ?_; clear hF; intro a hF))
  by_cases hk5 : x.f0 > 5
  ·rw [show decide (x.f0 > 5) = true from decide_eq_true hk5] at hF
   repeat (first | (refine is_list ?_; (first | refine s_pe hF J J J J ?_ | refine x_off hF J J J ?_); clear hF; intro a hF) | refine c_seq (fun K hK => ?_) | refine wp_region_lit ?_ | (refine c_nilK hK ?_; clear hK) | refine c_true hF rfl ?_ | refine wp_ret ?_ | (refine e_ret ?_; clear hK))
   exact hret _ _ (c_ret1 hF J J ⟨false, (fun h => by cases h), rfl, hH.rm 0 rfl⟩)
  rw [show decide (x.f0 > 5) = false from decide_eq_false hk5] at hF
  repeat (refine is_list ?_; first | (refine s_pe hF J J J J ?_; clear hF; intro a hF) | (refine is_load ?_; refine s_ld 0 hF hH J J J J J J J ?_; clear hF; intro a hF) | (refine is_call ?_; refine s_call hF hH J J J J J (c23 x.f3 z3 _) ?_; clear hF hH; intro a w u hu hF hH))
  cases u with
  | false =>
   repeat (first | (refine is_list ?_; (first | refine s_pe hF J J J J ?_ | refine x_off hF J J J ?_); clear hF; intro a hF) | refine c_seq (fun K hK => ?_) | refine wp_region_lit ?_ | (refine c_nilK hK ?_; clear hK) | refine c_true hF rfl ?_ | refine wp_ret ?_ | (refine e_ret ?_; clear hK))
   exact hret _ _ (c_ret1 hF J J ⟨false, (fun h => by cases h), rfl, hH.rm 0 rfl⟩)
  | true =>
   replace hu := hu rfl
   repeat (refine is_list ?_; first | (refine s_pe hF J J J J ?_; clear hF; intro a hF) | (refine is_load ?_; refine s_ld 0 hF hH J J J J J J J ?_; clear hF; intro a hF))
   by_cases h2 : x.f0 = 2
   ·rw [ieq_t h2] at hF
    repeat (refine is_list ?_; first | (refine s_pe hF J J J J ?_; clear hF; intro a hF) | (refine is_load ?_; refine s_ld 0 hF hH J J J J J J J ?_; clear hF; intro a hF))
    have hn : x.f0 = 5 → x.f4.length = x.f5.length := fun h => by omega
    rcases generic_is (s := x.f3) with ⟨h0, hb⟩ | ⟨h0, hb⟩
    ·rw [hb] at hF
     repeat (refine is_list ?_; first | ((first | refine s_pe hF J J J J ?_ | refine x_off hF J J J ?_); clear hF; intro a hF) | (refine is_load ?_; refine s_ld 0 hF hH J J J J J J J ?_; clear hF; intro a hF))
     rw [ieq_f (show ¬ x.f0 = 5 by omega)] at hF
     repeat (first | (refine is_list ?_; (first | refine s_pe hF J J J J ?_ | refine x_off hF J J J ?_); clear hF; intro a hF) | refine c_seq (fun K hK => ?_) | refine wp_region_lit ?_ | (refine c_nilK hK ?_; clear hK) | refine c_false hF rfl ?_ | refine wp_block ?_ | refine wp_skip ?_ | (refine e_thenK hK ?_; clear hK))
     refine c_loop (fun k a w' => ∃ i : Nat, k = x.f4.length - i ∧ i ≤ x.f4.length ∧ Fr a 83 [(1, .int .i64 deep), (2, .pointer (some ⟨b, 0, none⟩)), (5, .int .i64 (i : Nat))] ∧ Hp w0 w' [(b, .cells #[.int .i64 x.f0, .bool x.f1, .int .i64 x.f2, .string x.f3, .slice A4 x.f4.length c4, .slice A5 x.f5.length c5] 27)]) x.f4.length ⟨0, by simp, by omega, hF.pick [1, 2, 5] rfl, hH⟩ ?_
     clear hF hH
     rintro k a w ⟨i, q1, q2, hF, hH⟩ K hK
     repeat (first | (refine is_list ?_; first | (refine s_pe hF J J J J ?_; clear hF; intro a hF) | (refine is_load ?_; refine s_ld 0 hF hH J J J J J J J ?_; clear hF; intro a hF)) | refine c_seq (fun K hK => ?_) | refine wp_region_lit ?_ | (refine c_nilK hK ?_; clear hK))
     by_cases hi : i < x.f4.length
     ·refine c_true hF (cb (lt_t (by omega))) ?_
      obtain ⟨bb, jj, hA, hall⟩ := C_plain (⟨#[]⟩ : ByteArray) g4 rfl (by decide) (by omega)
      obtain ⟨cs4, hK4, _, hO4⟩ := hall i hi
      have hcs4 : cs4 = [.string (x.f4.getD i ⟨#[]⟩)] := hK4
      rw [hcs4] at hO4
      have hcell := hO4 0 _ rfl
      rw [Nat.add_zero] at hcell
      have hsz := z4' _ (getD_mem ⟨#[]⟩ hi)
      generalize x.f4.getD i ⟨#[]⟩ = t at hcell hsz
      rw [hA] at hF hH
      repeat (first | (refine is_list ?_; first | (refine s_pe hF J J J J ?_; clear hF; intro a hF) | (refine is_load ?_; refine s_ld 0 hF hH J J J J J J J ?_; clear hF; intro a hF)) | refine c_seq (fun K hK => ?_) | refine wp_region_lit ?_ | refine wp_block ?_ | refine wp_skip ?_ | (refine e_thenK hK ?_; clear hK))
      refine s_ix hF J J J J J (Nat.ble_eq_true_of_le hi) rfl ?_
      intro a hF
      refine s_ldAt hcell hF hH J J J J J ?_
      intro a hF
      repeat (first | (refine is_list ?_; first | (refine s_pe hF J J J J ?_; clear hF; intro a hF) | (refine is_call ?_; refine s_call hF hH J J J J J (c23 t hsz _) ?_; clear hF hH; intro a w r hr hF hH)) | (refine c_nilK hK ?_; clear hK))
      cases r with
      | false =>
       repeat (first | (refine is_list ?_; refine s_pe hF J J J J ?_; clear hF; intro a hF) | refine c_seq (fun K hK => ?_) | refine wp_region_lit ?_ | (refine c_nilK hK ?_; clear hK) | refine c_true hF rfl ?_ | refine wp_ret ?_ | (refine e_ret ?_; clear hK) | refine e_bret ?_)
       exact hret _ _ (c_ret1 hF J J ⟨false, (fun h => by cases h), rfl, hH.rm 0 rfl⟩)
      | true =>
       repeat (first | (refine is_list ?_; refine s_pe hF J J J J ?_; clear hF; intro a hF) | refine wp_region_lit ?_ | refine c_false hF rfl ?_ | refine wp_skip ?_ | refine e_bnormal ?_ | (refine e_thenK hK ?_; clear hK))
       have hc : IntKind.i64.wrap ((i : Int) + 1) = ((i + 1 : Nat) : Int) := wrapN (by omega)
       rw [hc] at hF
       rw [← hA] at hH
       first
        | exact e_then (hK (x.f4.length - (i + 1)) _ _ (by omega) ⟨i + 1, rfl, by omega, hF.pick [1, 2, 5] rfl, hH⟩)
        | exact c_nil (hK (x.f4.length - (i + 1)) _ _ (by omega) ⟨i + 1, rfl, by omega, hF.pick [1, 2, 5] rfl, hH⟩)
     ·refine c_false hF (cb (lt_f (by omega))) ?_
      repeat (first | (refine is_list ?_; refine s_pe hF J J J J ?_; clear hF; intro a hF) | refine c_seq (fun K hK => ?_) | refine wp_region_lit ?_ | (refine c_nilK hK ?_; clear hK) | refine wp_block ?_ | refine wp_exit ?_ | (refine e_exit ?_; clear hK) | refine e_bexit rfl ?_ | (refine e_thenK hK ?_; clear hK))
      refine c_loop (fun k a w' => ∃ i : Nat, k = x.f5.length - i ∧ i ≤ x.f5.length ∧ (∀ j, j < i → Pp (x.f5.getD j z27)) ∧ Fr a 83 [(1, .int .i64 deep), (2, .pointer (some ⟨b, 0, none⟩)), (6, .int .i64 (i : Nat))] ∧ Hp w0 w' [(b, .cells #[.int .i64 x.f0, .bool x.f1, .int .i64 x.f2, .string x.f3, .slice A4 x.f4.length c4, .slice A5 x.f5.length c5] 27)]) x.f5.length ⟨0, by simp, by omega, (fun j hj => absurd hj (by omega)), hF.pick [1, 2, 6] rfl, hH⟩ ?_
      clear hF hH
      rintro k a w ⟨i, q1, q2, q3, hF, hH⟩ K hK
      repeat (first | (refine is_list ?_; first | (refine s_pe hF J J J J ?_; clear hF; intro a hF) | (refine is_load ?_; refine s_ld 0 hF hH J J J J J J J ?_; clear hF; intro a hF)) | refine c_seq (fun K hK => ?_) | refine wp_region_lit ?_ | (refine c_nilK hK ?_; clear hK))
      by_cases hi : i < x.f5.length
      ·refine c_true hF (cb (lt_t (by omega))) ?_
       obtain ⟨bb, jj, hA, hall⟩ := C_plain z27 g5 rfl (by decide) (by omega)
       rw [hA] at hF hH
       obtain ⟨cs, hK6, hl6, hO⟩ := hall i hi
       have hmem := getD_mem z27 hi
       have hPi := fun (h : Pp (x.f5.getD i z27)) (j : Nat) (hj : j < i + 1) => (show Pp (x.f5.getD j z27) by
        by_cases hji : j = i
        ·rw [hji]; exact h
        ·exact q3 j (by omega))
       generalize x.f5.getD i z27 = y at hK6 hmem hPi
       obtain ⟨B4, d4, B5, d5, hcs, _⟩ := k27_open hK6
       rw [hcs] at hK6 hO
       repeat (first | (refine is_list ?_; first | (refine s_pe hF J J J J ?_; clear hF; intro a hF) | (refine is_load ?_; refine s_ld 0 hF hH J J J J J J J ?_; clear hF; intro a hF)) | refine c_seq (fun K hK => ?_) | refine wp_region_lit ?_ | refine wp_block ?_ | refine wp_skip ?_ | (refine e_thenK hK ?_; clear hK))
       refine s_ix hF J J J J J (Nat.ble_eq_true_of_le hi) rfl ?_
       intro a hF
       refine s_ldaAt hO hF hH J J J J J J ?_
       intro a hF
       repeat (first | (refine is_list ?_; first | (refine s_pe hF J J J J ?_; clear hF; intro a hF) | (refine is_call ?_; refine s_call hF hH J J J J J (IH y hmem _ w _ (k27.K_below hH.below hK6)) ?_; clear hF hH; intro a w r hr hF hH)) | (refine c_nilK hK ?_; clear hK))
       cases r with
       | false =>
        repeat (first | (refine is_list ?_; refine s_pe hF J J J J ?_; clear hF; intro a hF) | refine c_seq (fun K hK => ?_) | refine wp_region_lit ?_ | (refine c_nilK hK ?_; clear hK) | refine c_true hF rfl ?_ | refine wp_ret ?_ | (refine e_ret ?_; clear hK) | refine e_bret ?_)
        exact hret _ _ (c_ret1 hF J J ⟨false, (fun h => by cases h), rfl, hH.rm 0 rfl⟩)
       | true =>
        repeat (first | (refine is_list ?_; refine s_pe hF J J J J ?_; clear hF; intro a hF) | refine wp_region_lit ?_ | refine c_false hF rfl ?_ | refine wp_skip ?_ | refine e_bnormal ?_ | (refine e_thenK hK ?_; clear hK))
        have hc : IntKind.i64.wrap ((i : Int) + 1) = ((i + 1 : Nat) : Int) := wrapN (by omega)
        rw [hc] at hF
        rw [← hA] at hH
        first
         | exact e_then (hK (x.f5.length - (i + 1)) _ _ (by omega) ⟨i + 1, rfl, by omega, hPi (hr rfl), hF.pick [1, 2, 6] rfl, hH⟩)
         | exact c_nil (hK (x.f5.length - (i + 1)) _ _ (by omega) ⟨i + 1, rfl, by omega, hPi (hr rfl), hF.pick [1, 2, 6] rfl, hH⟩)
      ·refine c_false hF (cb (lt_f (by omega))) ?_
       obtain rfl : i = x.f5.length := by omega
       repeat (first | (refine is_list ?_; refine s_pe hF J J J J ?_; clear hF; intro a hF) | refine c_seq (fun K hK => ?_) | refine wp_region_lit ?_ | (refine c_nilK hK ?_; clear hK) | refine wp_exit ?_ | refine wp_ret ?_ | (refine e_exit ?_; clear hK) | refine e_bexit rfl ?_ | (refine e_thenK hK ?_; clear hK))
       exact hret _ _ (c_ret1 hF J J ⟨true, (fun _ => .mk x ⟨by omega, by omega⟩ hu hn (all_lt z27 q3)), rfl, hH.rm 0 rfl⟩)
    ·rw [hb] at hF
     repeat (refine is_list ?_; first | (refine s_pe hF J J J J ?_; clear hF; intro a hF) | (refine is_load ?_; refine s_ld 0 hF hH J J J J J J J ?_; clear hF; intro a hF) | (refine is_call ?_; refine s_call hF hH J J J J J (jIsDecimal_ok x.f3 z3 _) ?_; clear hF hH; intro a w r hr hF hH))
     cases r with
     | false =>
      repeat (first | (refine is_list ?_; (first | refine s_pe hF J J J J ?_ | refine x_off hF J J J ?_); clear hF; intro a hF) | refine c_seq (fun K hK => ?_) | refine wp_region_lit ?_ | (refine c_nilK hK ?_; clear hK) | refine c_true hF rfl ?_ | refine wp_ret ?_ | (refine e_ret ?_; clear hK))
      exact hret _ _ (c_ret1 hF J J ⟨false, (fun h => by cases h), rfl, hH.rm 0 rfl⟩)
     | true =>
      repeat (refine is_list ?_; first | (refine s_pe hF J J J J ?_; clear hF; intro a hF) | (refine is_load ?_; refine s_ld 0 hF hH J J J J J J J ?_; clear hF; intro a hF))
      rw [ieq_f (show ¬ x.f0 = 5 by omega)] at hF
      repeat (first | (refine is_list ?_; (first | refine s_pe hF J J J J ?_ | refine x_off hF J J J ?_); clear hF; intro a hF) | refine c_seq (fun K hK => ?_) | refine wp_region_lit ?_ | (refine c_nilK hK ?_; clear hK) | refine c_false hF rfl ?_ | refine wp_block ?_ | refine wp_skip ?_ | (refine e_thenK hK ?_; clear hK))
      refine c_loop (fun k a w' => ∃ i : Nat, k = x.f4.length - i ∧ i ≤ x.f4.length ∧ Fr a 83 [(1, .int .i64 deep), (2, .pointer (some ⟨b, 0, none⟩)), (5, .int .i64 (i : Nat))] ∧ Hp w0 w' [(b, .cells #[.int .i64 x.f0, .bool x.f1, .int .i64 x.f2, .string x.f3, .slice A4 x.f4.length c4, .slice A5 x.f5.length c5] 27)]) x.f4.length ⟨0, by simp, by omega, hF.pick [1, 2, 5] rfl, hH⟩ ?_
      clear hF hH
      rintro k a w ⟨i, q1, q2, hF, hH⟩ K hK
      repeat (first | (refine is_list ?_; first | (refine s_pe hF J J J J ?_; clear hF; intro a hF) | (refine is_load ?_; refine s_ld 0 hF hH J J J J J J J ?_; clear hF; intro a hF)) | refine c_seq (fun K hK => ?_) | refine wp_region_lit ?_ | (refine c_nilK hK ?_; clear hK))
      by_cases hi : i < x.f4.length
      ·refine c_true hF (cb (lt_t (by omega))) ?_
       obtain ⟨bb, jj, hA, hall⟩ := C_plain (⟨#[]⟩ : ByteArray) g4 rfl (by decide) (by omega)
       obtain ⟨cs4, hK4, _, hO4⟩ := hall i hi
       have hcs4 : cs4 = [.string (x.f4.getD i ⟨#[]⟩)] := hK4
       rw [hcs4] at hO4
       have hcell := hO4 0 _ rfl
       rw [Nat.add_zero] at hcell
       have hsz := z4' _ (getD_mem ⟨#[]⟩ hi)
       generalize x.f4.getD i ⟨#[]⟩ = t at hcell hsz
       rw [hA] at hF hH
       repeat (first | (refine is_list ?_; first | (refine s_pe hF J J J J ?_; clear hF; intro a hF) | (refine is_load ?_; refine s_ld 0 hF hH J J J J J J J ?_; clear hF; intro a hF)) | refine c_seq (fun K hK => ?_) | refine wp_region_lit ?_ | refine wp_block ?_ | refine wp_skip ?_ | (refine e_thenK hK ?_; clear hK))
       refine s_ix hF J J J J J (Nat.ble_eq_true_of_le hi) rfl ?_
       intro a hF
       refine s_ldAt hcell hF hH J J J J J ?_
       intro a hF
       repeat (first | (refine is_list ?_; first | (refine s_pe hF J J J J ?_; clear hF; intro a hF) | (refine is_call ?_; refine s_call hF hH J J J J J (c23 t hsz _) ?_; clear hF hH; intro a w r hr hF hH)) | (refine c_nilK hK ?_; clear hK))
       cases r with
       | false =>
        repeat (first | (refine is_list ?_; refine s_pe hF J J J J ?_; clear hF; intro a hF) | refine c_seq (fun K hK => ?_) | refine wp_region_lit ?_ | (refine c_nilK hK ?_; clear hK) | refine c_true hF rfl ?_ | refine wp_ret ?_ | (refine e_ret ?_; clear hK) | refine e_bret ?_)
        exact hret _ _ (c_ret1 hF J J ⟨false, (fun h => by cases h), rfl, hH.rm 0 rfl⟩)
       | true =>
        repeat (first | (refine is_list ?_; refine s_pe hF J J J J ?_; clear hF; intro a hF) | refine wp_region_lit ?_ | refine c_false hF rfl ?_ | refine wp_skip ?_ | refine e_bnormal ?_ | (refine e_thenK hK ?_; clear hK))
        have hc : IntKind.i64.wrap ((i : Int) + 1) = ((i + 1 : Nat) : Int) := wrapN (by omega)
        rw [hc] at hF
        rw [← hA] at hH
        first
         | exact e_then (hK (x.f4.length - (i + 1)) _ _ (by omega) ⟨i + 1, rfl, by omega, hF.pick [1, 2, 5] rfl, hH⟩)
         | exact c_nil (hK (x.f4.length - (i + 1)) _ _ (by omega) ⟨i + 1, rfl, by omega, hF.pick [1, 2, 5] rfl, hH⟩)
      ·refine c_false hF (cb (lt_f (by omega))) ?_
       repeat (first | (refine is_list ?_; refine s_pe hF J J J J ?_; clear hF; intro a hF) | refine c_seq (fun K hK => ?_) | refine wp_region_lit ?_ | (refine c_nilK hK ?_; clear hK) | refine wp_block ?_ | refine wp_exit ?_ | (refine e_exit ?_; clear hK) | refine e_bexit rfl ?_ | (refine e_thenK hK ?_; clear hK))
       refine c_loop (fun k a w' => ∃ i : Nat, k = x.f5.length - i ∧ i ≤ x.f5.length ∧ (∀ j, j < i → Pp (x.f5.getD j z27)) ∧ Fr a 83 [(1, .int .i64 deep), (2, .pointer (some ⟨b, 0, none⟩)), (6, .int .i64 (i : Nat))] ∧ Hp w0 w' [(b, .cells #[.int .i64 x.f0, .bool x.f1, .int .i64 x.f2, .string x.f3, .slice A4 x.f4.length c4, .slice A5 x.f5.length c5] 27)]) x.f5.length ⟨0, by simp, by omega, (fun j hj => absurd hj (by omega)), hF.pick [1, 2, 6] rfl, hH⟩ ?_
       clear hF hH
       rintro k a w ⟨i, q1, q2, q3, hF, hH⟩ K hK
       repeat (first | (refine is_list ?_; first | (refine s_pe hF J J J J ?_; clear hF; intro a hF) | (refine is_load ?_; refine s_ld 0 hF hH J J J J J J J ?_; clear hF; intro a hF)) | refine c_seq (fun K hK => ?_) | refine wp_region_lit ?_ | (refine c_nilK hK ?_; clear hK))
       by_cases hi : i < x.f5.length
       ·refine c_true hF (cb (lt_t (by omega))) ?_
        obtain ⟨bb, jj, hA, hall⟩ := C_plain z27 g5 rfl (by decide) (by omega)
        rw [hA] at hF hH
        obtain ⟨cs, hK6, hl6, hO⟩ := hall i hi
        have hmem := getD_mem z27 hi
        have hPi := fun (h : Pp (x.f5.getD i z27)) (j : Nat) (hj : j < i + 1) => (show Pp (x.f5.getD j z27) by
         by_cases hji : j = i
         ·rw [hji]; exact h
         ·exact q3 j (by omega))
        generalize x.f5.getD i z27 = y at hK6 hmem hPi
        obtain ⟨B4, d4, B5, d5, hcs, _⟩ := k27_open hK6
        rw [hcs] at hK6 hO
        repeat (first | (refine is_list ?_; first | (refine s_pe hF J J J J ?_; clear hF; intro a hF) | (refine is_load ?_; refine s_ld 0 hF hH J J J J J J J ?_; clear hF; intro a hF)) | refine c_seq (fun K hK => ?_) | refine wp_region_lit ?_ | refine wp_block ?_ | refine wp_skip ?_ | (refine e_thenK hK ?_; clear hK))
        refine s_ix hF J J J J J (Nat.ble_eq_true_of_le hi) rfl ?_
        intro a hF
        refine s_ldaAt hO hF hH J J J J J J ?_
        intro a hF
        repeat (first | (refine is_list ?_; first | (refine s_pe hF J J J J ?_; clear hF; intro a hF) | (refine is_call ?_; refine s_call hF hH J J J J J (IH y hmem _ w _ (k27.K_below hH.below hK6)) ?_; clear hF hH; intro a w r hr hF hH)) | (refine c_nilK hK ?_; clear hK))
        cases r with
        | false =>
         repeat (first | (refine is_list ?_; refine s_pe hF J J J J ?_; clear hF; intro a hF) | refine c_seq (fun K hK => ?_) | refine wp_region_lit ?_ | (refine c_nilK hK ?_; clear hK) | refine c_true hF rfl ?_ | refine wp_ret ?_ | (refine e_ret ?_; clear hK) | refine e_bret ?_)
         exact hret _ _ (c_ret1 hF J J ⟨false, (fun h => by cases h), rfl, hH.rm 0 rfl⟩)
        | true =>
         repeat (first | (refine is_list ?_; refine s_pe hF J J J J ?_; clear hF; intro a hF) | refine wp_region_lit ?_ | refine c_false hF rfl ?_ | refine wp_skip ?_ | refine e_bnormal ?_ | (refine e_thenK hK ?_; clear hK))
         have hc : IntKind.i64.wrap ((i : Int) + 1) = ((i + 1 : Nat) : Int) := wrapN (by omega)
         rw [hc] at hF
         rw [← hA] at hH
         first
          | exact e_then (hK (x.f5.length - (i + 1)) _ _ (by omega) ⟨i + 1, rfl, by omega, hPi (hr rfl), hF.pick [1, 2, 6] rfl, hH⟩)
          | exact c_nil (hK (x.f5.length - (i + 1)) _ _ (by omega) ⟨i + 1, rfl, by omega, hPi (hr rfl), hF.pick [1, 2, 6] rfl, hH⟩)
       ·refine c_false hF (cb (lt_f (by omega))) ?_
        obtain rfl : i = x.f5.length := by omega
        repeat (first | (refine is_list ?_; refine s_pe hF J J J J ?_; clear hF; intro a hF) | refine c_seq (fun K hK => ?_) | refine wp_region_lit ?_ | (refine c_nilK hK ?_; clear hK) | refine wp_exit ?_ | refine wp_ret ?_ | (refine e_exit ?_; clear hK) | refine e_bexit rfl ?_ | (refine e_thenK hK ?_; clear hK))
        exact hret _ _ (c_ret1 hF J J ⟨true, (fun _ => .mk x ⟨by omega, by omega⟩ hu hn (all_lt z27 q3)), rfl, hH.rm 0 rfl⟩)
   ·rw [ieq_f h2] at hF
    repeat (refine is_list ?_; first | ((first | refine s_pe hF J J J J ?_ | refine x_off hF J J J ?_); clear hF; intro a hF) | (refine is_load ?_; refine s_ld 0 hF hH J J J J J J J ?_; clear hF; intro a hF))
    by_cases h5 : x.f0 = 5
    ·rw [ieq_t h5] at hF
     repeat (first | (refine is_list ?_; first | (refine s_pe hF J J J J ?_; clear hF; intro a hF) | (refine is_load ?_; refine s_ld 0 hF hH J J J J J J J ?_; clear hF; intro a hF)) | (refine c_nilK hK ?_; clear hK))
     by_cases hn : x.f4.length = x.f5.length
     ·rw [ine_f (show ((x.f4.length : Nat) : Int) = ((x.f5.length : Nat) : Int) by omega)] at hF
      replace hn : x.f0 = 5 → x.f4.length = x.f5.length := fun _ => hn
      repeat (first | (refine is_list ?_; refine s_pe hF J J J J ?_; clear hF; intro a hF) | refine c_seq (fun K hK => ?_) | refine wp_region_lit ?_ | (refine c_nilK hK ?_; clear hK) | refine c_false hF rfl ?_ | refine wp_block ?_ | refine wp_skip ?_ | (refine e_thenK hK ?_; clear hK))
      refine c_loop (fun k a w' => ∃ i : Nat, k = x.f4.length - i ∧ i ≤ x.f4.length ∧ Fr a 83 [(1, .int .i64 deep), (2, .pointer (some ⟨b, 0, none⟩)), (5, .int .i64 (i : Nat))] ∧ Hp w0 w' [(b, .cells #[.int .i64 x.f0, .bool x.f1, .int .i64 x.f2, .string x.f3, .slice A4 x.f4.length c4, .slice A5 x.f5.length c5] 27)]) x.f4.length ⟨0, by simp, by omega, hF.pick [1, 2, 5] rfl, hH⟩ ?_
      clear hF hH
      rintro k a w ⟨i, q1, q2, hF, hH⟩ K hK
      repeat (first | (refine is_list ?_; first | (refine s_pe hF J J J J ?_; clear hF; intro a hF) | (refine is_load ?_; refine s_ld 0 hF hH J J J J J J J ?_; clear hF; intro a hF)) | refine c_seq (fun K hK => ?_) | refine wp_region_lit ?_ | (refine c_nilK hK ?_; clear hK))
      by_cases hi : i < x.f4.length
      ·refine c_true hF (cb (lt_t (by omega))) ?_
       obtain ⟨bb, jj, hA, hall⟩ := C_plain (⟨#[]⟩ : ByteArray) g4 rfl (by decide) (by omega)
       obtain ⟨cs4, hK4, _, hO4⟩ := hall i hi
       have hcs4 : cs4 = [.string (x.f4.getD i ⟨#[]⟩)] := hK4
       rw [hcs4] at hO4
       have hcell := hO4 0 _ rfl
       rw [Nat.add_zero] at hcell
       have hsz := z4' _ (getD_mem ⟨#[]⟩ hi)
       generalize x.f4.getD i ⟨#[]⟩ = t at hcell hsz
       rw [hA] at hF hH
       repeat (first | (refine is_list ?_; first | (refine s_pe hF J J J J ?_; clear hF; intro a hF) | (refine is_load ?_; refine s_ld 0 hF hH J J J J J J J ?_; clear hF; intro a hF)) | refine c_seq (fun K hK => ?_) | refine wp_region_lit ?_ | refine wp_block ?_ | refine wp_skip ?_ | (refine e_thenK hK ?_; clear hK))
       refine s_ix hF J J J J J (Nat.ble_eq_true_of_le hi) rfl ?_
       intro a hF
       refine s_ldAt hcell hF hH J J J J J ?_
       intro a hF
       repeat (first | (refine is_list ?_; first | (refine s_pe hF J J J J ?_; clear hF; intro a hF) | (refine is_call ?_; refine s_call hF hH J J J J J (c23 t hsz _) ?_; clear hF hH; intro a w r hr hF hH)) | (refine c_nilK hK ?_; clear hK))
       cases r with
       | false =>
        repeat (first | (refine is_list ?_; refine s_pe hF J J J J ?_; clear hF; intro a hF) | refine c_seq (fun K hK => ?_) | refine wp_region_lit ?_ | (refine c_nilK hK ?_; clear hK) | refine c_true hF rfl ?_ | refine wp_ret ?_ | (refine e_ret ?_; clear hK) | refine e_bret ?_)
        exact hret _ _ (c_ret1 hF J J ⟨false, (fun h => by cases h), rfl, hH.rm 0 rfl⟩)
       | true =>
        repeat (first | (refine is_list ?_; refine s_pe hF J J J J ?_; clear hF; intro a hF) | refine wp_region_lit ?_ | refine c_false hF rfl ?_ | refine wp_skip ?_ | refine e_bnormal ?_ | (refine e_thenK hK ?_; clear hK))
        have hc : IntKind.i64.wrap ((i : Int) + 1) = ((i + 1 : Nat) : Int) := wrapN (by omega)
        rw [hc] at hF
        rw [← hA] at hH
        first
         | exact e_then (hK (x.f4.length - (i + 1)) _ _ (by omega) ⟨i + 1, rfl, by omega, hF.pick [1, 2, 5] rfl, hH⟩)
         | exact c_nil (hK (x.f4.length - (i + 1)) _ _ (by omega) ⟨i + 1, rfl, by omega, hF.pick [1, 2, 5] rfl, hH⟩)
      ·refine c_false hF (cb (lt_f (by omega))) ?_
       repeat (first | (refine is_list ?_; refine s_pe hF J J J J ?_; clear hF; intro a hF) | refine c_seq (fun K hK => ?_) | refine wp_region_lit ?_ | (refine c_nilK hK ?_; clear hK) | refine wp_block ?_ | refine wp_exit ?_ | (refine e_exit ?_; clear hK) | refine e_bexit rfl ?_ | (refine e_thenK hK ?_; clear hK))
       refine c_loop (fun k a w' => ∃ i : Nat, k = x.f5.length - i ∧ i ≤ x.f5.length ∧ (∀ j, j < i → Pp (x.f5.getD j z27)) ∧ Fr a 83 [(1, .int .i64 deep), (2, .pointer (some ⟨b, 0, none⟩)), (6, .int .i64 (i : Nat))] ∧ Hp w0 w' [(b, .cells #[.int .i64 x.f0, .bool x.f1, .int .i64 x.f2, .string x.f3, .slice A4 x.f4.length c4, .slice A5 x.f5.length c5] 27)]) x.f5.length ⟨0, by simp, by omega, (fun j hj => absurd hj (by omega)), hF.pick [1, 2, 6] rfl, hH⟩ ?_
       clear hF hH
       rintro k a w ⟨i, q1, q2, q3, hF, hH⟩ K hK
       repeat (first | (refine is_list ?_; first | (refine s_pe hF J J J J ?_; clear hF; intro a hF) | (refine is_load ?_; refine s_ld 0 hF hH J J J J J J J ?_; clear hF; intro a hF)) | refine c_seq (fun K hK => ?_) | refine wp_region_lit ?_ | (refine c_nilK hK ?_; clear hK))
       by_cases hi : i < x.f5.length
       ·refine c_true hF (cb (lt_t (by omega))) ?_
        obtain ⟨bb, jj, hA, hall⟩ := C_plain z27 g5 rfl (by decide) (by omega)
        rw [hA] at hF hH
        obtain ⟨cs, hK6, hl6, hO⟩ := hall i hi
        have hmem := getD_mem z27 hi
        have hPi := fun (h : Pp (x.f5.getD i z27)) (j : Nat) (hj : j < i + 1) => (show Pp (x.f5.getD j z27) by
         by_cases hji : j = i
         ·rw [hji]; exact h
         ·exact q3 j (by omega))
        generalize x.f5.getD i z27 = y at hK6 hmem hPi
        obtain ⟨B4, d4, B5, d5, hcs, _⟩ := k27_open hK6
        rw [hcs] at hK6 hO
        repeat (first | (refine is_list ?_; first | (refine s_pe hF J J J J ?_; clear hF; intro a hF) | (refine is_load ?_; refine s_ld 0 hF hH J J J J J J J ?_; clear hF; intro a hF)) | refine c_seq (fun K hK => ?_) | refine wp_region_lit ?_ | refine wp_block ?_ | refine wp_skip ?_ | (refine e_thenK hK ?_; clear hK))
        refine s_ix hF J J J J J (Nat.ble_eq_true_of_le hi) rfl ?_
        intro a hF
        refine s_ldaAt hO hF hH J J J J J J ?_
        intro a hF
        repeat (first | (refine is_list ?_; first | (refine s_pe hF J J J J ?_; clear hF; intro a hF) | (refine is_call ?_; refine s_call hF hH J J J J J (IH y hmem _ w _ (k27.K_below hH.below hK6)) ?_; clear hF hH; intro a w r hr hF hH)) | (refine c_nilK hK ?_; clear hK))
        cases r with
        | false =>
         repeat (first | (refine is_list ?_; refine s_pe hF J J J J ?_; clear hF; intro a hF) | refine c_seq (fun K hK => ?_) | refine wp_region_lit ?_ | (refine c_nilK hK ?_; clear hK) | refine c_true hF rfl ?_ | refine wp_ret ?_ | (refine e_ret ?_; clear hK) | refine e_bret ?_)
         exact hret _ _ (c_ret1 hF J J ⟨false, (fun h => by cases h), rfl, hH.rm 0 rfl⟩)
        | true =>
         repeat (first | (refine is_list ?_; refine s_pe hF J J J J ?_; clear hF; intro a hF) | refine wp_region_lit ?_ | refine c_false hF rfl ?_ | refine wp_skip ?_ | refine e_bnormal ?_ | (refine e_thenK hK ?_; clear hK))
         have hc : IntKind.i64.wrap ((i : Int) + 1) = ((i + 1 : Nat) : Int) := wrapN (by omega)
         rw [hc] at hF
         rw [← hA] at hH
         first
          | exact e_then (hK (x.f5.length - (i + 1)) _ _ (by omega) ⟨i + 1, rfl, by omega, hPi (hr rfl), hF.pick [1, 2, 6] rfl, hH⟩)
          | exact c_nil (hK (x.f5.length - (i + 1)) _ _ (by omega) ⟨i + 1, rfl, by omega, hPi (hr rfl), hF.pick [1, 2, 6] rfl, hH⟩)
       ·refine c_false hF (cb (lt_f (by omega))) ?_
        obtain rfl : i = x.f5.length := by omega
        repeat (first | (refine is_list ?_; refine s_pe hF J J J J ?_; clear hF; intro a hF) | refine c_seq (fun K hK => ?_) | refine wp_region_lit ?_ | (refine c_nilK hK ?_; clear hK) | refine wp_exit ?_ | refine wp_ret ?_ | (refine e_exit ?_; clear hK) | refine e_bexit rfl ?_ | (refine e_thenK hK ?_; clear hK))
        exact hret _ _ (c_ret1 hF J J ⟨true, (fun _ => .mk x ⟨by omega, by omega⟩ hu hn (all_lt z27 q3)), rfl, hH.rm 0 rfl⟩)
     ·rw [ine_t (show ¬ ((x.f4.length : Nat) : Int) = ((x.f5.length : Nat) : Int) by omega)] at hF
      repeat (first | (refine is_list ?_; refine s_pe hF J J J J ?_; clear hF; intro a hF) | refine c_seq (fun K hK => ?_) | refine wp_region_lit ?_ | (refine c_nilK hK ?_; clear hK) | refine c_true hF rfl ?_ | refine wp_ret ?_ | (refine e_ret ?_; clear hK))
      exact hret _ _ (c_ret1 hF J J ⟨false, (fun h => by cases h), rfl, hH.rm 0 rfl⟩)
    ·rw [ieq_f h5] at hF
     have hn : x.f0 = 5 → x.f4.length = x.f5.length := fun h => absurd h h5
     repeat (first | (refine is_list ?_; (first | refine s_pe hF J J J J ?_ | refine x_off hF J J J ?_); clear hF; intro a hF) | refine c_seq (fun K hK => ?_) | refine wp_region_lit ?_ | (refine c_nilK hK ?_; clear hK) | refine c_false hF rfl ?_ | refine wp_block ?_ | refine wp_skip ?_ | (refine e_thenK hK ?_; clear hK))
     refine c_loop (fun k a w' => ∃ i : Nat, k = x.f4.length - i ∧ i ≤ x.f4.length ∧ Fr a 83 [(1, .int .i64 deep), (2, .pointer (some ⟨b, 0, none⟩)), (5, .int .i64 (i : Nat))] ∧ Hp w0 w' [(b, .cells #[.int .i64 x.f0, .bool x.f1, .int .i64 x.f2, .string x.f3, .slice A4 x.f4.length c4, .slice A5 x.f5.length c5] 27)]) x.f4.length ⟨0, by simp, by omega, hF.pick [1, 2, 5] rfl, hH⟩ ?_
     clear hF hH
     rintro k a w ⟨i, q1, q2, hF, hH⟩ K hK
     repeat (first | (refine is_list ?_; first | (refine s_pe hF J J J J ?_; clear hF; intro a hF) | (refine is_load ?_; refine s_ld 0 hF hH J J J J J J J ?_; clear hF; intro a hF)) | refine c_seq (fun K hK => ?_) | refine wp_region_lit ?_ | (refine c_nilK hK ?_; clear hK))
     by_cases hi : i < x.f4.length
     ·refine c_true hF (cb (lt_t (by omega))) ?_
      obtain ⟨bb, jj, hA, hall⟩ := C_plain (⟨#[]⟩ : ByteArray) g4 rfl (by decide) (by omega)
      obtain ⟨cs4, hK4, _, hO4⟩ := hall i hi
      have hcs4 : cs4 = [.string (x.f4.getD i ⟨#[]⟩)] := hK4
      rw [hcs4] at hO4
      have hcell := hO4 0 _ rfl
      rw [Nat.add_zero] at hcell
      have hsz := z4' _ (getD_mem ⟨#[]⟩ hi)
      generalize x.f4.getD i ⟨#[]⟩ = t at hcell hsz
      rw [hA] at hF hH
      repeat (first | (refine is_list ?_; first | (refine s_pe hF J J J J ?_; clear hF; intro a hF) | (refine is_load ?_; refine s_ld 0 hF hH J J J J J J J ?_; clear hF; intro a hF)) | refine c_seq (fun K hK => ?_) | refine wp_region_lit ?_ | refine wp_block ?_ | refine wp_skip ?_ | (refine e_thenK hK ?_; clear hK))
      refine s_ix hF J J J J J (Nat.ble_eq_true_of_le hi) rfl ?_
      intro a hF
      refine s_ldAt hcell hF hH J J J J J ?_
      intro a hF
      repeat (first | (refine is_list ?_; first | (refine s_pe hF J J J J ?_; clear hF; intro a hF) | (refine is_call ?_; refine s_call hF hH J J J J J (c23 t hsz _) ?_; clear hF hH; intro a w r hr hF hH)) | (refine c_nilK hK ?_; clear hK))
      cases r with
      | false =>
       repeat (first | (refine is_list ?_; refine s_pe hF J J J J ?_; clear hF; intro a hF) | refine c_seq (fun K hK => ?_) | refine wp_region_lit ?_ | (refine c_nilK hK ?_; clear hK) | refine c_true hF rfl ?_ | refine wp_ret ?_ | (refine e_ret ?_; clear hK) | refine e_bret ?_)
       exact hret _ _ (c_ret1 hF J J ⟨false, (fun h => by cases h), rfl, hH.rm 0 rfl⟩)
      | true =>
       repeat (first | (refine is_list ?_; refine s_pe hF J J J J ?_; clear hF; intro a hF) | refine wp_region_lit ?_ | refine c_false hF rfl ?_ | refine wp_skip ?_ | refine e_bnormal ?_ | (refine e_thenK hK ?_; clear hK))
       have hc : IntKind.i64.wrap ((i : Int) + 1) = ((i + 1 : Nat) : Int) := wrapN (by omega)
       rw [hc] at hF
       rw [← hA] at hH
       first
        | exact e_then (hK (x.f4.length - (i + 1)) _ _ (by omega) ⟨i + 1, rfl, by omega, hF.pick [1, 2, 5] rfl, hH⟩)
        | exact c_nil (hK (x.f4.length - (i + 1)) _ _ (by omega) ⟨i + 1, rfl, by omega, hF.pick [1, 2, 5] rfl, hH⟩)
     ·refine c_false hF (cb (lt_f (by omega))) ?_
      repeat (first | (refine is_list ?_; refine s_pe hF J J J J ?_; clear hF; intro a hF) | refine c_seq (fun K hK => ?_) | refine wp_region_lit ?_ | (refine c_nilK hK ?_; clear hK) | refine wp_block ?_ | refine wp_exit ?_ | (refine e_exit ?_; clear hK) | refine e_bexit rfl ?_ | (refine e_thenK hK ?_; clear hK))
      refine c_loop (fun k a w' => ∃ i : Nat, k = x.f5.length - i ∧ i ≤ x.f5.length ∧ (∀ j, j < i → Pp (x.f5.getD j z27)) ∧ Fr a 83 [(1, .int .i64 deep), (2, .pointer (some ⟨b, 0, none⟩)), (6, .int .i64 (i : Nat))] ∧ Hp w0 w' [(b, .cells #[.int .i64 x.f0, .bool x.f1, .int .i64 x.f2, .string x.f3, .slice A4 x.f4.length c4, .slice A5 x.f5.length c5] 27)]) x.f5.length ⟨0, by simp, by omega, (fun j hj => absurd hj (by omega)), hF.pick [1, 2, 6] rfl, hH⟩ ?_
      clear hF hH
      rintro k a w ⟨i, q1, q2, q3, hF, hH⟩ K hK
      repeat (first | (refine is_list ?_; first | (refine s_pe hF J J J J ?_; clear hF; intro a hF) | (refine is_load ?_; refine s_ld 0 hF hH J J J J J J J ?_; clear hF; intro a hF)) | refine c_seq (fun K hK => ?_) | refine wp_region_lit ?_ | (refine c_nilK hK ?_; clear hK))
      by_cases hi : i < x.f5.length
      ·refine c_true hF (cb (lt_t (by omega))) ?_
       obtain ⟨bb, jj, hA, hall⟩ := C_plain z27 g5 rfl (by decide) (by omega)
       rw [hA] at hF hH
       obtain ⟨cs, hK6, hl6, hO⟩ := hall i hi
       have hmem := getD_mem z27 hi
       have hPi := fun (h : Pp (x.f5.getD i z27)) (j : Nat) (hj : j < i + 1) => (show Pp (x.f5.getD j z27) by
        by_cases hji : j = i
        ·rw [hji]; exact h
        ·exact q3 j (by omega))
       generalize x.f5.getD i z27 = y at hK6 hmem hPi
       obtain ⟨B4, d4, B5, d5, hcs, _⟩ := k27_open hK6
       rw [hcs] at hK6 hO
       repeat (first | (refine is_list ?_; first | (refine s_pe hF J J J J ?_; clear hF; intro a hF) | (refine is_load ?_; refine s_ld 0 hF hH J J J J J J J ?_; clear hF; intro a hF)) | refine c_seq (fun K hK => ?_) | refine wp_region_lit ?_ | refine wp_block ?_ | refine wp_skip ?_ | (refine e_thenK hK ?_; clear hK))
       refine s_ix hF J J J J J (Nat.ble_eq_true_of_le hi) rfl ?_
       intro a hF
       refine s_ldaAt hO hF hH J J J J J J ?_
       intro a hF
       repeat (first | (refine is_list ?_; first | (refine s_pe hF J J J J ?_; clear hF; intro a hF) | (refine is_call ?_; refine s_call hF hH J J J J J (IH y hmem _ w _ (k27.K_below hH.below hK6)) ?_; clear hF hH; intro a w r hr hF hH)) | (refine c_nilK hK ?_; clear hK))
       cases r with
       | false =>
        repeat (first | (refine is_list ?_; refine s_pe hF J J J J ?_; clear hF; intro a hF) | refine c_seq (fun K hK => ?_) | refine wp_region_lit ?_ | (refine c_nilK hK ?_; clear hK) | refine c_true hF rfl ?_ | refine wp_ret ?_ | (refine e_ret ?_; clear hK) | refine e_bret ?_)
        exact hret _ _ (c_ret1 hF J J ⟨false, (fun h => by cases h), rfl, hH.rm 0 rfl⟩)
       | true =>
        repeat (first | (refine is_list ?_; refine s_pe hF J J J J ?_; clear hF; intro a hF) | refine wp_region_lit ?_ | refine c_false hF rfl ?_ | refine wp_skip ?_ | refine e_bnormal ?_ | (refine e_thenK hK ?_; clear hK))
        have hc : IntKind.i64.wrap ((i : Int) + 1) = ((i + 1 : Nat) : Int) := wrapN (by omega)
        rw [hc] at hF
        rw [← hA] at hH
        first
         | exact e_then (hK (x.f5.length - (i + 1)) _ _ (by omega) ⟨i + 1, rfl, by omega, hPi (hr rfl), hF.pick [1, 2, 6] rfl, hH⟩)
         | exact c_nil (hK (x.f5.length - (i + 1)) _ _ (by omega) ⟨i + 1, rfl, by omega, hPi (hr rfl), hF.pick [1, 2, 6] rfl, hH⟩)
      ·refine c_false hF (cb (lt_f (by omega))) ?_
       obtain rfl : i = x.f5.length := by omega
       repeat (first | (refine is_list ?_; refine s_pe hF J J J J ?_; clear hF; intro a hF) | refine c_seq (fun K hK => ?_) | refine wp_region_lit ?_ | (refine c_nilK hK ?_; clear hK) | refine wp_exit ?_ | refine wp_ret ?_ | (refine e_exit ?_; clear hK) | refine e_bexit rfl ?_ | (refine e_thenK hK ?_; clear hK))
       exact hret _ _ (c_ret1 hF J J ⟨true, (fun _ => .mk x ⟨by omega, by omega⟩ hu hn (all_lt z27 q3)), rfl, hH.rm 0 rfl⟩)
theorem jProperIn_ok {x : S27} (h : Sz x) : ∀ (deep : Int) (w : World) (cs : List Value), k27.K w x cs → Ct 16 [.agg cs.toArray, .int .i64 deep] w (fun r : Bool => .bool r) (fun _ => []) (fun r => r = true → Pp x) := by
 induction h with
 | mk x h3 h4 h4' h5 hs ih => exact jProperIn_step x (.mk x h3 h4 h4' h5 hs) ih
theorem jProper_ok {x : S27} (h : Sz x) (w0 : World) (cs : List Value) (hX : k27.K w0 x cs) : Ct 10 [.agg cs.toArray] w0 (fun r : Bool => .bool r) (fun _ => []) (fun r => r = true → Pp x) := by
 obtain ⟨A4, c4, A5, c5, rfl, l4, g4, l5, g5⟩ := k27_open hX
 unfold Ct
 refine c_enter (n := 5) (L := [(0, .agg #[.int .i64 x.f0, .bool x.f1, .int .i64 x.f2, .string x.f3, .slice A4 x.f4.length c4, .slice A5 x.f5.length c5])]) Tryz.func10 J J J J ?_
 intro a hF
 have hH := Hp.start w0
 refine c_open (fun Q hpan hret hnorm => ?_)
 repeat (first | (refine is_list ?_; first | (refine s_pe hF J J J J ?_; clear hF; intro a hF) | (refine is_load ?_; refine s_lda 0 hF hH J J J J J J J ?_; clear hF; intro a hF) | (refine is_call ?_; refine s_call hF hH J J J J J (jProperIn_ok h _ w _ (k27.K_below hH.below hX)) ?_; clear hF hH; intro a w r hr hF hH) | (refine s_bx hF hH J J J J ?_; clear hF hH; intro a b w hF hH)) | refine c_seq (fun K hK => ?_) | refine wp_region_lit ?_ | (refine c_nilK hK ?_; clear hK) | refine wp_ret ?_)
 exact hret _ _ (c_ret1 hF J J ⟨_, hr, rfl, hH.rm 0 rfl⟩)
theorem jCounts_step (x : S27) (z5 : x.f5.length ≤ 2000000000000) (IH : ∀ y ∈ x.f5, ∀ (w : World) (cs : List Value), k27.K w y cs → Ct 11 [.agg cs.toArray] w (fun r : Bool => .bool r) (fun _ => []) (fun r => r = true → Cn y)) (w0 : World) (cs : List Value) (hX : k27.K w0 x cs) : Ct 11 [.agg cs.toArray] w0 (fun r : Bool => .bool r) (fun _ => []) (fun r => r = true → Cn x) := by
 obtain ⟨A4, c4, A5, c5, rfl, l4, g4, l5, g5⟩ := k27_open hX
 clear hX
 unfold Ct
 refine c_enter (n := 21) (L := [(0, .agg #[.int .i64 x.f0, .bool x.f1, .int .i64 x.f2, .string x.f3, .slice A4 x.f4.length c4, .slice A5 x.f5.length c5])]) Tryz.func11 J J J J ?_
 intro a hF
 have hH := Hp.start w0
 refine c_open (fun Q hpan hret hnorm => ?_)
 repeat (first | (refine is_list ?_; first | (refine s_pe hF J J J J ?_; clear hF; intro a hF) | (refine is_load ?_; refine s_ld 0 hF hH J J J J J J J ?_; clear hF; intro a hF) | (refine s_bx hF hH J J J J ?_; clear hF hH; intro a b w hF hH)) | refine c_seq (fun K hK => ?_) | refine wp_region_lit ?_ | (refine c_nilK hK ?_; clear hK))
 by_cases h2 : x.f0 = 2
 ·refine c_true hF (cb (ieq_t h2)) ?_
  repeat (first | (refine is_list ?_; refine s_pe hF J J J J ?_; clear hF; intro a hF) | refine c_seq (fun K hK => ?_) | refine wp_region_lit ?_ | (refine c_nilK hK ?_; clear hK) | refine wp_ret ?_ | (refine e_ret ?_; clear hK))
  exact hret _ _ (c_ret1 hF J J ⟨false, (fun h => by cases h), rfl, hH.rm 0 rfl⟩)
 refine c_false hF (cb (ieq_f h2)) ?_
 repeat (first | (refine is_list ?_; refine s_pe hF J J J J ?_; clear hF; intro a hF) | refine c_seq (fun K hK => ?_) | refine wp_region_lit ?_ | (refine c_nilK hK ?_; clear hK) | refine wp_block ?_ | refine wp_skip ?_ | (refine e_thenK hK ?_; clear hK))
 refine c_loop (fun k a w' => ∃ i : Nat, k = x.f5.length - i ∧ i ≤ x.f5.length ∧ (∀ j, j < i → Cn (x.f5.getD j z27)) ∧ Fr a 21 [(1, .pointer (some ⟨b, 0, none⟩)), (3, .int .i64 (i : Nat))] ∧ Hp w0 w' [(b, .cells #[.int .i64 x.f0, .bool x.f1, .int .i64 x.f2, .string x.f3, .slice A4 x.f4.length c4, .slice A5 x.f5.length c5] 27)]) x.f5.length ⟨0, by simp, by omega, (fun j hj => absurd hj (by omega)), hF.pick [1, 3] rfl, hH⟩ ?_
 clear hF hH
 rintro k a w ⟨i, q1, q2, q3, hF, hH⟩ K hK
 repeat (first | (refine is_list ?_; first | (refine s_pe hF J J J J ?_; clear hF; intro a hF) | (refine is_load ?_; refine s_ld 0 hF hH J J J J J J J ?_; clear hF; intro a hF)) | refine c_seq (fun K hK => ?_) | refine wp_region_lit ?_ | (refine c_nilK hK ?_; clear hK))
 by_cases hi : i < x.f5.length
 ·refine c_true hF (cb (lt_t (by omega))) ?_
  obtain ⟨bb, jj, hA, hall⟩ := C_plain z27 g5 rfl (by decide) (by omega)
  rw [hA] at hF hH
  obtain ⟨cs, hK6, hl6, hO⟩ := hall i hi
  have hmem := getD_mem z27 hi
  have hPi := fun (h : Cn (x.f5.getD i z27)) (j : Nat) (hj : j < i + 1) => (show Cn (x.f5.getD j z27) by
   by_cases hji : j = i
   ·rw [hji]; exact h
   ·exact q3 j (by omega))
  generalize x.f5.getD i z27 = y at hK6 hmem hPi
  obtain ⟨B4, d4, B5, d5, hcs, _⟩ := k27_open hK6
  rw [hcs] at hK6 hO
  repeat (first | (refine is_list ?_; first | (refine s_pe hF J J J J ?_; clear hF; intro a hF) | (refine is_load ?_; refine s_ld 0 hF hH J J J J J J J ?_; clear hF; intro a hF)) | refine c_seq (fun K hK => ?_) | refine wp_region_lit ?_ | refine wp_block ?_ | refine wp_skip ?_ | (refine e_thenK hK ?_; clear hK))
  refine s_ix hF J J J J J (Nat.ble_eq_true_of_le hi) rfl ?_
  intro a hF
  refine s_ldaAt hO hF hH J J J J J J ?_
  intro a hF
  repeat (first | (refine is_list ?_; first | (refine s_pe hF J J J J ?_; clear hF; intro a hF) | (refine is_call ?_; refine s_call hF hH J J J J J (IH y hmem w _ (k27.K_below hH.below hK6)) ?_; clear hF hH; intro a w r hr hF hH)) | (refine c_nilK hK ?_; clear hK))
  cases r with
  | false =>
   repeat (first | (refine is_list ?_; refine s_pe hF J J J J ?_; clear hF; intro a hF) | refine c_seq (fun K hK => ?_) | refine wp_region_lit ?_ | (refine c_nilK hK ?_; clear hK) | refine c_true hF rfl ?_ | refine wp_ret ?_ | (refine e_ret ?_; clear hK) | refine e_bret ?_)
   exact hret _ _ (c_ret1 hF J J ⟨false, (fun h => by cases h), rfl, hH.rm 0 rfl⟩)
  | true =>
   repeat (first | (refine is_list ?_; refine s_pe hF J J J J ?_; clear hF; intro a hF) | refine wp_region_lit ?_ | refine c_false hF rfl ?_ | refine wp_skip ?_ | refine e_bnormal ?_ | (refine e_thenK hK ?_; clear hK))
   have hc : IntKind.i64.wrap ((i : Int) + 1) = ((i + 1 : Nat) : Int) := wrapN (by omega)
   rw [hc] at hF
   rw [← hA] at hH
   first
    | exact e_then (hK (x.f5.length - (i + 1)) _ _ (by omega) ⟨i + 1, rfl, by omega, hPi (hr rfl), hF.pick [1, 3] rfl, hH⟩)
    | exact c_nil (hK (x.f5.length - (i + 1)) _ _ (by omega) ⟨i + 1, rfl, by omega, hPi (hr rfl), hF.pick [1, 3] rfl, hH⟩)
 ·refine c_false hF (cb (lt_f (by omega))) ?_
  obtain rfl : i = x.f5.length := by omega
  repeat (first | (refine is_list ?_; refine s_pe hF J J J J ?_; clear hF; intro a hF) | refine c_seq (fun K hK => ?_) | refine wp_region_lit ?_ | (refine c_nilK hK ?_; clear hK) | refine wp_exit ?_ | refine wp_ret ?_ | (refine e_exit ?_; clear hK) | refine e_bexit rfl ?_ | (refine e_thenK hK ?_; clear hK))
  exact hret _ _ (c_ret1 hF J J ⟨true, (fun _ => .mk x h2 (all_lt z27 q3)), rfl, hH.rm 0 rfl⟩)
theorem jCounts_ok {x : S27} (h : Sz x) : ∀ (w : World) (cs : List Value), k27.K w x cs → Ct 11 [.agg cs.toArray] w (fun r : Bool => .bool r) (fun _ => []) (fun r => r = true → Cn x) := by
 induction h with
 | mk x h3 h4 h4' h5 hs ih => exact jCounts_step x h5 ih
theorem jCountless_ok {x : S27} (h : Sz x) (vb : Nat) (A4 A5 : Option Addr) (c4 c5 : Nat) (w0 : World) (hO : Old w0 vb [.int .i64 x.f0, .bool x.f1, .int .i64 x.f2, .string x.f3, .slice A4 x.f4.length c4, .slice A5 x.f5.length c5]) (hX : k27.K w0 x [.int .i64 x.f0, .bool x.f1, .int .i64 x.f2, .string x.f3, .slice A4 x.f4.length c4, .slice A5 x.f5.length c5]) : Ct 5 [.slice (some ⟨vb, 0, none⟩) 1 1] w0 (fun r : Bool => .bool r) (fun _ => []) (fun r => r = true → Pp x ∧ Cn x) := by
 unfold Ct
 refine c_enter (n := 24) (L := [(0, .slice (some ⟨vb, 0, none⟩) 1 1)]) Tryz.func5 J J J J ?_
 intro a hF
 have hH := Hp.start w0
 refine c_open (fun Q hpan hret hnorm => ?_)
 repeat (first | (refine is_list ?_; first | (refine s_pe hF J J J J ?_; clear hF; intro a hF) | (refine is_load ?_; refine s_ldao hO hF hH J J J J J J ?_; clear hF; intro a hF) | (refine is_call ?_; refine s_call hF hH J J J J J (jProper_ok h _ _ (k27.K_below hH.below hX)) ?_; clear hF hH; intro a w r hr hF hH) | (refine s_ix hF J J J J J J J ?_; clear hF; intro a hF)) | refine c_seq (fun K hK => ?_) | refine wp_region_lit ?_ | (refine c_nilK hK ?_; clear hK) | refine c_true hF rfl ?_ | refine wp_block ?_ | refine wp_loop_rounds 2 (c_roundK 1 (fun K hK => ?_)) | refine wp_skip ?_ | (refine e_thenK hK ?_; clear hK))
 cases r with
 | false =>
  repeat (first | (refine is_list ?_; (first | refine s_pe hF J J J J ?_ | refine x_off hF J J J ?_); clear hF; intro a hF) | refine c_seq (fun K hK => ?_) | refine wp_region_lit ?_ | (refine c_nilK hK ?_; clear hK) | refine c_true hF rfl ?_ | refine wp_ret ?_ | (refine e_ret ?_; clear hK) | refine e_bret ?_)
  exact hret _ _ (c_ret1 hF J J ⟨_, (fun h => by cases h), rfl, hH⟩)
 | true =>
  replace hr := hr rfl
  repeat (first | (refine is_list ?_; first | (refine s_pe hF J J J J ?_; clear hF; intro a hF) | (refine is_load ?_; refine s_ldao hO hF hH J J J J J J ?_; clear hF; intro a hF) | (refine is_call ?_; refine s_call hF hH J J J J J (jCounts_ok h _ _ (k27.K_below hH.below hX)) ?_; clear hF hH; intro a w s hs hF hH) | (refine s_ix hF J J J J J J J ?_; clear hF; intro a hF)) | (refine c_nilK hK ?_; clear hK))
  cases s with
  | false =>
   repeat (first | (refine is_list ?_; refine s_pe hF J J J J ?_; clear hF; intro a hF) | refine c_seq (fun K hK => ?_) | refine wp_region_lit ?_ | (refine c_nilK hK ?_; clear hK) | refine c_true hF rfl ?_ | refine wp_ret ?_ | (refine e_ret ?_; clear hK) | refine e_bret ?_)
   exact hret _ _ (c_ret1 hF J J ⟨_, (fun h => by cases h), rfl, hH⟩)
  | true =>
   replace hs := hs rfl
   repeat (first | (refine is_list ?_; refine s_pe hF J J J J ?_; clear hF; intro a hF) | refine c_seq (fun K hK => ?_) | refine wp_region_lit ?_ | (refine c_nilK hK ?_; clear hK) | refine c_false hF rfl ?_ | refine c_roundK 0 (fun K hK => ?_) | refine wp_exit ?_ | refine wp_ret ?_ | refine wp_skip ?_ | (refine e_exit ?_; clear hK) | refine e_bexit rfl ?_ | refine e_bnormal ?_ | (refine e_thenK hK ?_; clear hK))
   exact hret _ _ (c_ret1 hF J J ⟨_, (fun _ => ⟨hr, hs⟩), rfl, hH⟩)
end Go.Proofs.YtlkikblohnnlcaaGreatDoor.Y
end
section
namespace Go.Proofs.YtlkikblohnnlcaaGreatDoor.Y
open Go Go.RowKit X R Go.Proofs.YtlkikblohnnlcaaGreatDoorW.PrintWords
set_option linter.unusedVariables false
set_option maxRecDepth 4000
attribute [local irreducible] wpList dL Code.wp bodyPost Ct Calls Exit.then Exit.inBlock Code.rounds
set_option maxHeartbeats 0
structure Gd (x : S27) : Prop where
 sz : Sz x
 pp : Pp x
 cn : Cn x
theorem Gd.kid {x y : S27} (h : Gd x) (hy : y ∈ x.f5) : Gd y := by
 refine ⟨h.sz.s5 y hy, ?_, ?_⟩
 ·obtain ⟨_, _, _, _, hs⟩ := h.pp
  exact hs y hy
 ·obtain ⟨_, _, hs⟩ := h.cn
  exact hs y hy
theorem Gd.names {x : S27} (h : Gd x) (h5 : x.f0 = 5) : x.f4.length = x.f5.length := by
 obtain ⟨_, _, _, hn, _⟩ := h.pp
 exact hn h5
theorem Gd.two {x : S27} (h : Gd x) : x.f0 ≠ 2 := by
 obtain ⟨_, hk, _⟩ := h.cn
 exact hk
theorem Gd.utf {x : S27} (h : Gd x) : U.okF x.f3 x.f3.size 0 := by
 obtain ⟨_, _, hu, _, _⟩ := h.pp
 exact hu
theorem Gd.rng {x : S27} (h : Gd x) : 0 ≤ x.f0 ∧ x.f0 ≤ 5 := by
 obtain ⟨_, hk, _, _, _⟩ := h.pp
 exact hk
def EqC (x : S27) : Prop := ∀ y, Gd y → ∀ (w : World) (cs cs' : List Value), k27.K w x cs → k27.K w y cs' → Ct 59 [.agg cs.toArray, .agg cs'.toArray] w (fun r : Bool => .bool r) (fun _ => []) (fun _ => True)
theorem jWithin_step (x y : S27) (hx : Gd x) (hy : Gd y) (hx5 : x.f0 = 5) (hy5 : y.f0 = 5) (IH : ∀ z ∈ x.f5, EqC z) (w0 : World) (cs cs' : List Value) (hX : k27.K w0 x cs) (hY : k27.K w0 y cs') : Ct 113 [.agg cs.toArray, .agg cs'.toArray] w0 (fun r : Bool => .bool r) (fun _ => []) (fun _ => True) := by
 obtain ⟨A4, c4, A5, c5, rfl, l4, g4, l5, g5⟩ := k27_open hX
 obtain ⟨B4, d4, B5, d5, rfl, m4, e4, m5, e5⟩ := k27_open hY
 have hxl := hx.names hx5
 have hyl := hy.names hy5
 have hz5 := hx.sz.l5
 unfold Ct
 refine c_enter (n := 45) (L := [(1, .agg #[.int .i64 y.f0, .bool y.f1, .int .i64 y.f2, .string y.f3, .slice B4 y.f4.length d4, .slice B5 y.f5.length d5]), (0, .agg #[.int .i64 x.f0, .bool x.f1, .int .i64 x.f2, .string x.f3, .slice A4 x.f4.length c4, .slice A5 x.f5.length c5])]) Tryz.func113 J J J J ?_
 intro a hF
 have hH := Hp.start w0
 refine c_open (fun Q hpan hret hnorm => ?_)
 refine c_seq (fun K hK => ?_)
 refine wp_region_lit ?_
 refine s_bx hF hH J J J J ?_; clear hF hH; intro a xb w hF hH
 refine s_bx hF hH J J J J ?_; clear hF hH; intro a yb w hF hH
 repeat (first | (refine is_list ?_; first | (refine s_pe hF J J J J ?_; clear hF; intro a hF) | (refine is_load ?_; refine s_lda 1 hF hH J J J J J J J ?_; clear hF; intro a hF) | (refine is_call ?_; refine s_call hF hH J J J J J (c72 x hx.sz A4 A5 c4 c5 _ (k27.K_below hH.below hX)) ?_; clear hF hH; intro a w p hp hF hH)) | refine c_seq (fun K hK => ?_) | refine wp_region_lit ?_ | (refine c_nilK hK ?_; clear hK) | refine wp_block ?_)
 obtain ⟨l, o⟩ := p
 cases o with
 | none =>
  dsimp only [mlV, mlH] at hF hH
  obtain rfl : l = [] := hp.nil rfl
  repeat (first | (refine is_list ?_; refine s_pe hF J J J J ?_; clear hF; intro a hF) | refine c_seq (fun K hK => ?_) | refine wp_region_lit ?_ | (refine c_nilK hK ?_; clear hK) | refine c_false hF rfl ?_ | refine wp_loop_rounds 2 (c_roundK 1 (fun K hK => ?_)) | refine wp_exit ?_ | refine wp_ret ?_ | (refine e_exit ?_; clear hK) | refine e_bexit rfl ?_ | (refine e_thenK hK ?_; clear hK))
  exact hret _ _ (c_ret1 hF J J ⟨_, trivial, rfl, hH.mid 0 2⟩)
 | some g =>
  obtain ⟨g, cap, cur⟩ := g
  dsimp only [mlV, mlH] at hF hH
  have hle : l.length ≤ x.f4.length := hp.le
  refine c_loop (fun k a w' => ∃ i : Nat, k = l.length - i ∧ i ≤ l.length ∧ Fr a 45 [(2, .pointer (some ⟨xb, 0, none⟩)), (3, .pointer (some ⟨yb, 0, none⟩)), (5, .slice (some ⟨g, 0, none⟩) l.length cap), (6, .int .i64 (i : Nat))] ∧ Hp w0 w' [(g, .cells cur.toArray 3), (yb, .cells #[.int .i64 y.f0, .bool y.f1, .int .i64 y.f2, .string y.f3, .slice B4 y.f4.length d4, .slice B5 y.f5.length d5] 27), (xb, .cells #[.int .i64 x.f0, .bool x.f1, .int .i64 x.f2, .string x.f3, .slice A4 x.f4.length c4, .slice A5 x.f5.length c5] 27)]) l.length ⟨0, by simp, by omega, hF.pick [2, 3, 5, 6] rfl, hH⟩ ?_
  clear hF hH
  rintro k a w ⟨i, q1, q2, hF, hH⟩ K hK
  repeat (first | (refine is_list ?_; refine s_pe hF J J J J ?_; clear hF; intro a hF) | refine c_seq (fun K hK => ?_) | refine wp_region_lit ?_ | (refine c_nilK hK ?_; clear hK))
  by_cases hi : i < l.length
  ·refine c_true hF (cb (lt_t (by omega))) ?_
   have hl : l[i]? = some (l[i]) := List.getElem?_eq_getElem hi
   have hr := hp.rng _ (List.getElem_mem hi)
   generalize l[i] = q at hl hr
   obtain ⟨q, rfl⟩ : ∃ m : Nat, q = (m : Int) := ⟨q.toNat, by omega⟩
   have hget := hp.get g cap cur rfl i _ hl
   have hq4 : q < x.f4.length := by omega
   have hq5 : q < x.f5.length := by omega
   obtain ⟨nb, nj, hA4, halln⟩ := C_plain (⟨#[]⟩ : ByteArray) g4 rfl (by decide) (by omega)
   obtain ⟨csn, hKn, _, hOn⟩ := halln q hq4
   have hcsn : csn = [.string (x.f4.getD q ⟨#[]⟩)] := hKn
   rw [hcsn] at hOn
   have hcell := hOn 0 _ rfl
   rw [Nat.add_zero] at hcell
   generalize x.f4.getD q ⟨#[]⟩ = t at hcell
   obtain ⟨bbx, jjx, hA5, hallx⟩ := C_plain z27 g5 rfl (by decide) (by omega)
   obtain ⟨csx, hKx, _, hOx⟩ := hallx q hq5
   have hmx := getD_mem z27 hq5
   generalize x.f5.getD q z27 = z at hKx hmx
   obtain ⟨E4, f4, E5, f5, hcsx, _⟩ := k27_open hKx
   rw [hcsx] at hKx hOx
   rw [hA4, hA5] at hH
   repeat (first | (refine is_draw ?_; first | (refine d_pe hF J J J J J J ?_; clear hF; intro a hF) | (refine is_dload rfl ?_; (first | refine d_ld 2 hF hS J J J J J J J J ?_ | refine d_lda 1 hF hS J J J J J J J J ?_); clear hF; intro a hF) | (refine is_dcall rfl ?_; refine d_call hF hH hS J J J J J J (c63 y hy.sz B4 B5 d4 d5 t _ (k27.K_below hH.below hY)) ?_; clear hF hH hS; intro a w r hr hF hH hS) | ((first | refine d_ix hF J J J J J J (Nat.ble_eq_true_of_le hi) rfl ?_ | refine d_ix hF J J J J J J (Nat.ble_eq_true_of_le hq4) rfl ?_ | refine d_ld 0 hF hS J J J J J (by rw [Nat.zero_add, Nat.mul_one]; exact hget) J J ?_ | refine d_ldAt hcell hF hS J J J J J J ?_); clear hF; intro a hF)) | (refine c_dnilK hK ?_; clear hS hK) | refine c_seq (fun K hK => ?_) | (refine is_region ?_; first | (refine is_region (id := 5) ?_; refine c_drawn [] [0, 1, 2, 3, 4, 5, 6, 7, 8, 9, 10] hH (by kernel_rfl) (by repeat (first | refine pan_then ?_ | refine pan_block ?_ | exact hpan)) ?_; clear hH; intro w hH; have hS := hH) | (refine is_region (id := 6) ?_; refine c_drawn [] [0, 1, 2, 3, 4, 5, 6, 7, 8, 9, 10, 11, 12, 13, 14, 15, 16, 17, 18] hH (by kernel_rfl) (by repeat (first | refine pan_then ?_ | refine pan_block ?_ | exact hpan)) ?_; clear hH; intro w hH; have hS := hH)) | refine wp_block ?_ | refine wp_skip ?_ | (refine e_thenK hK ?_; clear hK))
   rcases hr with ⟨rfl, _⟩ | ⟨k1, rfl, hk4, _⟩
   ·repeat (first | (refine is_list ?_; refine s_pe hF J J J J ?_; clear hF; intro a hF) | (refine is_draw ?_; (first | refine d_pe hF J J J J J J ?_ | refine d_off hF rfl hS J J J ?_); clear hF; intro a hF) | (refine c_dnilK hK ?_; clear hS hK) | refine c_seq (fun K hK => ?_) | refine wp_region_lit ?_ | (refine c_nilK hK ?_; clear hK) | refine c_true hF rfl ?_ | refine wp_ret ?_ | (refine e_ret ?_; clear hK) | refine e_bret ?_)
    exact hret _ _ (c_ret1 hF J J ⟨_, trivial, rfl, hH.mid 0 3⟩)
   ·rw [show decide (((k1 : Nat) : Int) < 0) = false from decide_eq_false (by omega)] at hF
    have hk5 : k1 < y.f5.length := by omega
    obtain ⟨bby, jjy, hB5, hally⟩ := C_plain z27 e5 rfl (by decide) (by omega)
    obtain ⟨csy, hKy, _, hOy⟩ := hally k1 hk5
    have hmy := getD_mem z27 hk5
    generalize y.f5.getD k1 z27 = z2 at hKy hmy
    obtain ⟨G4, h4, G5, h5, hcsy, _⟩ := k27_open hKy
    rw [hcsy] at hKy hOy
    rw [hB5] at hF hH hS ⊢
    repeat (first | (refine is_draw ?_; first | (refine d_pe hF J J J J J J ?_; clear hF; intro a hF) | (refine is_dload rfl ?_; (first | refine d_ld 1 hF hS J J J J J J J J ?_ | refine d_ld 2 hF hS J J J J J J J J ?_); clear hF; intro a hF) | (refine is_dcall rfl ?_; refine d_call hF hH hS J J J J J J (IH z hmx z2 (hy.kid hmy) _ _ _ (k27.K_below hH.below hKx) (k27.K_below hH.below hKy)) ?_; clear hF hH hS; intro a w r2 hr2 hF hH hS) | ((first | refine d_ix hF J J J J J J (Nat.ble_eq_true_of_le hi) rfl ?_ | refine d_ix hF J J J J J J (Nat.ble_eq_true_of_le hq5) rfl ?_ | refine d_ix hF J J J J J J (Nat.ble_eq_true_of_le hk5) rfl ?_ | refine d_ld 0 hF hS J J J J J (by rw [Nat.zero_add, Nat.mul_one]; exact hget) J J ?_ | refine d_ldaAt hOx hF hS J J J J J J J ?_ | refine d_ldaAt hOy hF hS J J J J J J J ?_); clear hF; intro a hF)) | (refine c_dnilK hK ?_; clear hS hK))
    cases r2 with
    | false =>
     repeat (first | (refine is_list ?_; refine s_pe hF J J J J ?_; clear hF; intro a hF) | refine c_seq (fun K hK => ?_) | refine wp_region_lit ?_ | (refine c_nilK hK ?_; clear hK) | refine c_true hF rfl ?_ | refine wp_ret ?_ | (refine e_ret ?_; clear hK) | refine e_bret ?_)
     exact hret _ _ (c_ret1 hF J J ⟨_, trivial, rfl, hH.mid 0 3⟩)
    | true =>
     repeat (first | (refine is_list ?_; refine s_pe hF J J J J ?_; clear hF; intro a hF) | refine wp_region_lit ?_ | refine c_false hF rfl ?_ | refine wp_skip ?_ | refine e_bnormal ?_ | (refine e_thenK hK ?_; clear hK))
     have hc : IntKind.i64.wrap ((i : Int) + 1) = ((i + 1 : Nat) : Int) := wrapN (by omega)
     rw [hc] at hF
     rw [← hA4, ← hA5, ← hB5] at hH
     first
      | exact e_then (hK (l.length - (i + 1)) _ _ (by omega) ⟨i + 1, rfl, by omega, hF.pick [2, 3, 5, 6] rfl, hH⟩)
      | exact c_nil (hK (l.length - (i + 1)) _ _ (by omega) ⟨i + 1, rfl, by omega, hF.pick [2, 3, 5, 6] rfl, hH⟩)
  ·refine c_false hF (cb (lt_f (by omega))) ?_
   repeat (first | (refine is_list ?_; refine s_pe hF J J J J ?_; clear hF; intro a hF) | refine c_seq (fun K hK => ?_) | refine wp_region_lit ?_ | (refine c_nilK hK ?_; clear hK) | refine wp_exit ?_ | refine wp_ret ?_ | (refine e_exit ?_; clear hK) | refine e_bexit rfl ?_ | (refine e_thenK hK ?_; clear hK))
   exact hret _ _ (c_ret1 hF J J ⟨_, trivial, rfl, hH.mid 0 3⟩)
theorem jEquals_step (x : S27) (hx : Gd x) (IH : ∀ z ∈ x.f5, EqC z) : EqC x := by
 intro y hy w0 cs cs' hX hY
 have hz5 := hx.sz.l5
 obtain ⟨A4, c4, A5, c5, rfl, l4, g4, l5, g5⟩ := k27_open hX
 obtain ⟨B4, d4, B5, d5, rfl, m4, e4, m5, e5⟩ := k27_open hY
 unfold Ct
 refine c_enter (n := 78) (L := [(1, .agg #[.int .i64 y.f0, .bool y.f1, .int .i64 y.f2, .string y.f3, .slice B4 y.f4.length d4, .slice B5 y.f5.length d5]), (0, .agg #[.int .i64 x.f0, .bool x.f1, .int .i64 x.f2, .string x.f3, .slice A4 x.f4.length c4, .slice A5 x.f5.length c5])]) Tryz.func59 J J J J ?_
 intro a hF
 have hH := Hp.start w0
 refine c_open (fun Q hpan hret hnorm => ?_)
 refine c_seq (fun K hK => ?_)
 refine wp_region_lit ?_
 refine s_bx hF hH J J J J ?_; clear hF hH; intro a xb w hF hH
 refine s_bx hF hH J J J J ?_; clear hF hH; intro a yb w hF hH
 repeat (first | (refine is_list ?_; first | (refine s_pe hF J J J J ?_; clear hF; intro a hF) | (refine is_load ?_; (first | refine s_ld 0 hF hH J J J J J J J ?_ | refine s_ld 1 hF hH J J J J J J J ?_); clear hF; intro a hF)) | refine c_seq (fun K hK => ?_) | refine wp_region_lit ?_ | (refine c_nilK hK ?_; clear hK))
 by_cases h0 : x.f0 = y.f0
 ·refine c_false hF (cb (ine_f h0)) ?_
  repeat (first | (refine is_list ?_; first | (refine s_pe hF J J J J ?_; clear hF; intro a hF) | (refine is_load ?_; refine s_ld 1 hF hH J J J J J J J ?_; clear hF; intro a hF)) | refine c_seq (fun K hK => ?_) | refine wp_region_lit ?_ | (refine c_nilK hK ?_; clear hK) | refine wp_block ?_ | refine wp_skip ?_ | (refine e_thenK hK ?_; clear hK))
  by_cases h1 : x.f0 = 1
  ·refine c_true hF (cb (ieq_t h1)) ?_
   repeat (first | (refine is_list ?_; first | (refine s_pe hF J J J J ?_; clear hF; intro a hF) | (refine is_load ?_; (first | refine s_ld 0 hF hH J J J J J J J ?_ | refine s_ld 1 hF hH J J J J J J J ?_); clear hF; intro a hF) | (refine s_beq hF J J J J (by kernel_rfl) rfl ?_; clear hF; intro a rb hF)) | refine c_seq (fun K hK => ?_) | refine wp_region_lit ?_ | (refine c_nilK hK ?_; clear hK) | refine wp_ret ?_ | (refine e_ret ?_; clear hK) | refine e_bret ?_)
   exact hret _ _ (c_ret1 hF J J ⟨_, trivial, rfl, hH.mid 0 2⟩)
  refine c_false hF (cb (ieq_f h1)) ?_
  repeat (first | (refine is_list ?_; refine s_pe hF J J J J ?_; clear hF; intro a hF) | refine c_seq (fun K hK => ?_) | refine wp_region_lit ?_ | (refine c_nilK hK ?_; clear hK))
  refine c_false hF (cb (ieq_f hx.two)) ?_
  repeat (first | (refine is_list ?_; refine s_pe hF J J J J ?_; clear hF; intro a hF) | refine c_seq (fun K hK => ?_) | refine wp_region_lit ?_ | (refine c_nilK hK ?_; clear hK))
  by_cases h3 : x.f0 = 3
  ·refine c_true hF (cb (ieq_t h3)) ?_
   repeat (first | (refine is_list ?_; first | (refine s_pe hF J J J J ?_; clear hF; intro a hF) | (refine is_load ?_; (first | refine s_ld 0 hF hH J J J J J J J ?_ | refine s_ld 1 hF hH J J J J J J J ?_); clear hF; intro a hF)) | refine c_seq (fun K hK => ?_) | refine wp_region_lit ?_ | (refine c_nilK hK ?_; clear hK) | refine wp_ret ?_ | (refine e_ret ?_; clear hK) | refine e_bret ?_)
   exact hret _ _ (c_ret1 hF J J ⟨_, trivial, rfl, hH.mid 0 2⟩)
  refine c_false hF (cb (ieq_f h3)) ?_
  repeat (first | (refine is_list ?_; refine s_pe hF J J J J ?_; clear hF; intro a hF) | refine c_seq (fun K hK => ?_) | refine wp_region_lit ?_ | (refine c_nilK hK ?_; clear hK))
  by_cases h4 : x.f0 = 4
  ·refine c_true hF (cb (ieq_t h4)) ?_
   repeat (first | (refine is_list ?_; first | (refine s_pe hF J J J J ?_; clear hF; intro a hF) | (refine is_load ?_; (first | refine s_ld 0 hF hH J J J J J J J ?_ | refine s_ld 1 hF hH J J J J J J J ?_); clear hF; intro a hF)) | refine c_seq (fun K hK => ?_) | refine wp_region_lit ?_ | (refine c_nilK hK ?_; clear hK))
   by_cases hln : ((x.f5.length : Nat) : Int) = ((y.f5.length : Nat) : Int)
   ·refine c_false hF (cb (ine_f hln)) ?_
    repeat (first | (refine is_list ?_; refine s_pe hF J J J J ?_; clear hF; intro a hF) | refine c_seq (fun K hK => ?_) | refine wp_region_lit ?_ | (refine c_nilK hK ?_; clear hK) | refine wp_block ?_ | refine wp_skip ?_ | (refine e_thenK hK ?_; clear hK))
    refine c_loop (fun k a w' => ∃ i : Nat, k = x.f5.length - i ∧ i ≤ x.f5.length ∧ Fr a 78 [(2, .pointer (some ⟨xb, 0, none⟩)), (3, .pointer (some ⟨yb, 0, none⟩)), (5, .int .i64 (i : Nat)), (12, .int .i64 x.f0)] ∧ Hp w0 w' [(yb, .cells #[.int .i64 y.f0, .bool y.f1, .int .i64 y.f2, .string y.f3, .slice B4 y.f4.length d4, .slice B5 y.f5.length d5] 27), (xb, .cells #[.int .i64 x.f0, .bool x.f1, .int .i64 x.f2, .string x.f3, .slice A4 x.f4.length c4, .slice A5 x.f5.length c5] 27)]) x.f5.length ⟨0, by simp, by omega, hF.pick [2, 3, 5, 12] rfl, hH⟩ ?_
    clear hF hH
    rintro k a w ⟨i, q1, q2, hF, hH⟩ K hK
    repeat (first | (refine is_list ?_; first | (refine s_pe hF J J J J ?_; clear hF; intro a hF) | (refine is_load ?_; refine s_ld 1 hF hH J J J J J J J ?_; clear hF; intro a hF)) | refine c_seq (fun K hK => ?_) | refine wp_region_lit ?_ | (refine c_nilK hK ?_; clear hK))
    by_cases hi : i < x.f5.length
    ·refine c_true hF (cb (lt_t (by omega))) ?_
     have hi2 : i < y.f5.length := by omega
     obtain ⟨bbx, jjx, hA5, hallx⟩ := C_plain z27 g5 rfl (by decide) (by omega)
     obtain ⟨csx, hKx, _, hOx⟩ := hallx i hi
     have hmx := getD_mem z27 hi
     generalize x.f5.getD i z27 = z at hKx hmx
     obtain ⟨E4, f4, E5, f5, hcsx, _⟩ := k27_open hKx
     rw [hcsx] at hKx hOx
     obtain ⟨bby, jjy, hB5, hally⟩ := C_plain z27 e5 rfl (by decide) (by omega)
     obtain ⟨csy, hKy, _, hOy⟩ := hally i hi2
     have hmy := getD_mem z27 hi2
     generalize y.f5.getD i z27 = z2 at hKy hmy
     obtain ⟨G4, h4, G5, h5, hcsy, _⟩ := k27_open hKy
     rw [hcsy] at hKy hOy
     rw [hA5, hB5] at hH
     repeat (first | (refine is_draw ?_; first | (refine d_pe hF J J J J J J ?_; clear hF; intro a hF) | (refine is_dload rfl ?_; (first | refine d_ld 0 hF hS J J J J J J J J ?_ | refine d_ld 1 hF hS J J J J J J J J ?_); clear hF; intro a hF) | (refine is_dcall rfl ?_; refine d_call hF hH hS J J J J J J (IH z hmx z2 (hy.kid hmy) _ _ _ (k27.K_below hH.below hKx) (k27.K_below hH.below hKy)) ?_; clear hF hH hS; intro a w r2 hr2 hF hH hS) | ((first | refine d_ix hF J J J J J J (Nat.ble_eq_true_of_le hi) rfl ?_ | refine d_ix hF J J J J J J (Nat.ble_eq_true_of_le hi2) rfl ?_ | refine d_ldaAt hOx hF hS J J J J J J J ?_ | refine d_ldaAt hOy hF hS J J J J J J J ?_); clear hF; intro a hF)) | (refine c_dnilK hK ?_; clear hS hK) | refine c_seq (fun K hK => ?_) | (refine is_region ?_; refine is_region (id := 16) ?_; refine c_drawn [] [0, 1, 2, 3, 4, 5, 6, 7, 8, 9, 10, 11] hH (by kernel_rfl) (by repeat (first | refine pan_then ?_ | refine pan_block ?_ | exact hpan)) ?_; clear hH; intro w hH; have hS := hH) | refine wp_block ?_ | refine wp_skip ?_ | (refine e_thenK hK ?_; clear hK))
     cases r2 with
     | false =>
      repeat (first | (refine is_list ?_; refine s_pe hF J J J J ?_; clear hF; intro a hF) | refine c_seq (fun K hK => ?_) | refine wp_region_lit ?_ | (refine c_nilK hK ?_; clear hK) | refine c_true hF rfl ?_ | refine wp_ret ?_ | (refine e_ret ?_; clear hK) | refine e_bret ?_)
      exact hret _ _ (c_ret1 hF J J ⟨_, trivial, rfl, hH.mid 0 2⟩)
     | true =>
      repeat (first | (refine is_list ?_; refine s_pe hF J J J J ?_; clear hF; intro a hF) | refine wp_region_lit ?_ | refine c_false hF rfl ?_ | refine wp_skip ?_ | refine e_bnormal ?_ | (refine e_thenK hK ?_; clear hK))
      have hc : IntKind.i64.wrap ((i : Int) + 1) = ((i + 1 : Nat) : Int) := wrapN (by omega)
      rw [hc] at hF
      rw [← hA5, ← hB5] at hH
      first
       | exact e_then (hK (x.f5.length - (i + 1)) _ _ (by omega) ⟨i + 1, rfl, by omega, hF.pick [2, 3, 5, 12] rfl, hH⟩)
       | exact c_nil (hK (x.f5.length - (i + 1)) _ _ (by omega) ⟨i + 1, rfl, by omega, hF.pick [2, 3, 5, 12] rfl, hH⟩)
    ·refine c_false hF (cb (lt_f (by omega))) ?_
     repeat (first | (refine is_list ?_; refine s_pe hF J J J J ?_; clear hF; intro a hF) | refine c_seq (fun K hK => ?_) | refine wp_region_lit ?_ | (refine c_nilK hK ?_; clear hK) | refine wp_exit ?_ | refine wp_ret ?_ | (refine e_exit ?_; clear hK) | refine e_bexit rfl ?_ | refine e_bnormal ?_ | (refine e_thenK hK ?_; clear hK))
     first
     | exact hret _ _ (c_ret1 hF J J ⟨_, trivial, rfl, hH.mid 0 2⟩)
     | (refine c_false hF (cb (ieq_f (show ¬ x.f0 = 5 by omega))) ?_; skip; exact hret _ _ (c_ret1 hF J J ⟨_, trivial, rfl, hH.mid 0 2⟩))
   ·refine c_true hF (cb (ine_t hln)) ?_
    repeat (first | (refine is_list ?_; refine s_pe hF J J J J ?_; clear hF; intro a hF) | refine c_seq (fun K hK => ?_) | refine wp_region_lit ?_ | (refine c_nilK hK ?_; clear hK) | refine wp_ret ?_ | (refine e_ret ?_; clear hK) | refine e_bret ?_)
    exact hret _ _ (c_ret1 hF J J ⟨_, trivial, rfl, hH.mid 0 2⟩)
  refine c_false hF (cb (ieq_f h4)) ?_
  repeat (first | (refine is_list ?_; refine s_pe hF J J J J ?_; clear hF; intro a hF) | refine c_seq (fun K hK => ?_) | refine wp_region_lit ?_ | (refine c_nilK hK ?_; clear hK))
  by_cases h5 : x.f0 = 5
  ·refine c_true hF (cb (ieq_t h5)) ?_
   repeat (first | (refine is_list ?_; first | (refine s_pe hF J J J J ?_; clear hF; intro a hF) | (refine is_load ?_; (first | refine s_lda 0 hF hH J J J J J J J ?_ | refine s_lda 1 hF hH J J J J J J J ?_); clear hF; intro a hF) | (refine is_call ?_; refine s_call hF hH J J J J J (c112 x y hx.sz hy.sz A4 A5 c4 c5 B4 B5 d4 d5 _ (k27.K_below hH.below hX) (k27.K_below hH.below hY)) ?_; clear hF hH; intro a w r hr hF hH)) | refine c_seq (fun K hK => ?_) | refine wp_region_lit ?_)
   cases r with
   | false =>
    repeat (first | (refine is_list ?_; (first | refine s_pe hF J J J J ?_ | refine x_off hF J J J ?_); clear hF; intro a hF) | (refine c_nilK hK ?_; clear hK) | refine wp_ret ?_ | (refine e_ret ?_; clear hK) | refine e_bret ?_)
    exact hret _ _ (c_ret1 hF J J ⟨_, trivial, rfl, hH.mid 0 2⟩)
   | true =>
    repeat (refine is_list ?_; first | (refine s_pe hF J J J J ?_; clear hF; intro a hF) | (refine is_load ?_; (first | refine s_lda 0 hF hH J J J J J J J ?_ | refine s_lda 1 hF hH J J J J J J J ?_); clear hF; intro a hF) | (refine is_call ?_; refine s_call hF hH J J J J J (c112 y x hy.sz hx.sz B4 B5 d4 d5 A4 A5 c4 c5 _ (k27.K_below hH.below hY) (k27.K_below hH.below hX)) ?_; clear hF hH; intro a w r hr hF hH))
    cases r with
    | false =>
     repeat (first | (refine is_list ?_; (first | refine s_pe hF J J J J ?_ | refine x_off hF J J J ?_); clear hF; intro a hF) | (refine c_nilK hK ?_; clear hK) | refine wp_ret ?_ | (refine e_ret ?_; clear hK) | refine e_bret ?_)
     exact hret _ _ (c_ret1 hF J J ⟨_, trivial, rfl, hH.mid 0 2⟩)
    | true =>
     repeat (first | (refine is_list ?_; first | (refine s_pe hF J J J J ?_; clear hF; intro a hF) | (refine is_load ?_; (first | refine s_lda 0 hF hH J J J J J J J ?_ | refine s_lda 1 hF hH J J J J J J J ?_); clear hF; intro a hF) | (refine is_call ?_; refine s_call hF hH J J J J J (jWithin_step x y hx hy h5 (by omega) IH _ _ _ (k27.K_below hH.below hX) (k27.K_below hH.below hY)) ?_; clear hF hH; intro a w r hr hF hH)) | (refine c_nilK hK ?_; clear hK) | refine wp_ret ?_ | (refine e_ret ?_; clear hK) | refine e_bret ?_)
     exact hret _ _ (c_ret1 hF J J ⟨_, trivial, rfl, hH.mid 0 2⟩)
  refine c_false hF (cb (ieq_f h5)) ?_
  repeat (first | (refine is_list ?_; refine s_pe hF J J J J ?_; clear hF; intro a hF) | refine c_seq (fun K hK => ?_) | refine wp_region_lit ?_ | (refine c_nilK hK ?_; clear hK) | refine wp_ret ?_ | refine wp_skip ?_ | refine e_bnormal ?_ | (refine e_thenK hK ?_; clear hK))
  exact hret _ _ (c_ret1 hF J J ⟨_, trivial, rfl, hH.mid 0 2⟩)
 ·refine c_true hF (cb (ine_t h0)) ?_
  repeat (first | (refine is_list ?_; refine s_pe hF J J J J ?_; clear hF; intro a hF) | refine c_seq (fun K hK => ?_) | refine wp_region_lit ?_ | (refine c_nilK hK ?_; clear hK) | refine wp_ret ?_ | (refine e_ret ?_; clear hK))
  exact hret _ _ (c_ret1 hF J J ⟨_, trivial, rfl, hH.mid 0 2⟩)
theorem jEquals_ok {x : S27} (h : Gd x) : EqC x := by
 obtain ⟨hz, hp, hc⟩ := h
 induction hz with
 | mk x h3 h4 h4' h5 hs ih =>
  have hg : Gd x := ⟨.mk x h3 h4 h4' h5 hs, hp, hc⟩
  exact jEquals_step x hg (fun y hy => ih y hy (hg.kid hy).pp (hg.kid hy).cn)
theorem jTwins_ok (xs : List S27) (hg : ∀ x ∈ xs, Gd x) (hlen : xs.length ≤ 2000000000000) (A : Option Addr) (c : Nat) (w0 : World) (hC : k27.C w0 A xs.length xs) : Ct 69 [.slice A xs.length c] w0 (fun p : Int × Int => .tuple #[.int .i64 p.1, .int .i64 p.2]) (fun _ => []) (fun _ => True) := by
 unfold Ct
 refine c_enter (n := 28) (L := [(0, .slice A xs.length c)]) Tryz.func69 J J J J ?_
 intro a hF
 have hH := Hp.start w0
 refine c_open (fun Q hpan hret hnorm => ?_)
 repeat (first | (refine is_list ?_; refine s_pe hF J J J J ?_; clear hF; intro a hF) | refine c_seq (fun K hK => ?_) | refine wp_region_lit ?_ | (refine c_nilK hK ?_; clear hK) | refine wp_block ?_)
 refine c_loop (fun k a w' => ∃ i : Nat, k = xs.length + 1 - i ∧ 1 ≤ i ∧ i ≤ xs.length + 1 ∧ Fr a 28 [(0, .slice A xs.length c), (4, .int .i64 (i : Nat))] ∧ Hp w0 w' []) (xs.length + 1 - 1) ⟨1, by omega, by omega, by omega, hF.pick [0, 4] rfl, hH⟩ ?_
 clear hF hH
 rintro k a w ⟨i, q1, q2, q3, hF, hH⟩ K hK
 repeat (first | (refine is_list ?_; refine s_pe hF J J J J ?_; clear hF; intro a hF) | refine c_seq (fun K hK => ?_) | refine wp_region_lit ?_ | (refine c_nilK hK ?_; clear hK))
 by_cases hi : i < xs.length
 ·refine c_true hF (cb (lt_t (by omega))) ?_
  repeat (first | (refine is_list ?_; refine s_pe hF J J J J ?_; clear hF; intro a hF) | refine c_seq (fun K hK => ?_) | refine wp_region_lit ?_ | (refine c_nilK hK ?_; clear hK) | refine wp_block ?_ | refine wp_skip ?_ | (refine e_thenK hK ?_; clear hK))
  refine c_loop (fun k a w' => ∃ j : Nat, k = i - j ∧ j ≤ i ∧ Fr a 28 [(0, .slice A xs.length c), (4, .int .i64 (i : Nat)), (5, .int .i64 (j : Nat))] ∧ Hp w0 w' []) (i - 0) ⟨0, by omega, by omega, hF.pick [0, 4, 5] rfl, hH⟩ ?_
  clear hF hH
  rintro k2 a w ⟨j, q4, q5, hF, hH⟩ K2 hK
  repeat (first | (refine is_list ?_; refine s_pe hF J J J J ?_; clear hF; intro a hF) | refine c_seq (fun K hK => ?_) | refine wp_region_lit ?_ | (refine c_nilK hK ?_; clear hK))
  by_cases hj : j < i
  ·refine c_true hF (cb (lt_t (by omega))) ?_
   have hj2 : j < xs.length := by omega
   obtain ⟨bbx, jjx, hA, hallx⟩ := C_plain z27 hC rfl (by decide) (by omega)
   obtain ⟨csx, hKx, _, hOx⟩ := hallx j hj2
   have hmx := getD_mem z27 hj2
   generalize xs.getD j z27 = z at hKx hmx
   obtain ⟨E4, f4, E5, f5, hcsx, _⟩ := k27_open hKx
   rw [hcsx] at hKx hOx
   rw [hA] at hF
   obtain ⟨bby, jjy, hA2, hally⟩ := C_plain z27 hC rfl (by decide) (by omega)
   obtain ⟨csy, hKy, _, hOy⟩ := hally i hi
   have hmy := getD_mem z27 hi
   generalize xs.getD i z27 = z2 at hKy hmy
   obtain ⟨G4, h4, G5, h5, hcsy, _⟩ := k27_open hKy
   rw [hcsy] at hKy hOy
   obtain ⟨rfl, rfl⟩ : bbx = bby ∧ jjx = jjy := by
    rw [hA] at hA2
    simpa using hA2
   repeat (first | (refine is_draw ?_; first | (refine d_pe hF J J J J J J ?_; clear hF; intro a hF) | (refine is_dcall rfl ?_; refine d_call hF hH hS J J J J J J (jEquals_ok (hg z hmx) z2 (hg z2 hmy) _ _ _ (k27.K_below hH.below hKx) (k27.K_below hH.below hKy)) ?_; clear hF hH hS; intro a w r2 hr2 hF hH hS) | ((first | refine d_ix hF J J J J J J (Nat.ble_eq_true_of_le hi) rfl ?_ | refine d_ix hF J J J J J J (Nat.ble_eq_true_of_le hj2) rfl ?_ | refine d_ldaAt hOx hF hS J J J J J J J ?_ | refine d_ldaAt hOy hF hS J J J J J J J ?_); clear hF; intro a hF)) | (refine c_dnilK hK ?_; clear hS hK) | refine c_seq (fun K hK => ?_) | (refine is_region ?_; refine is_region (id := 7) ?_; refine c_drawn [] [0, 1, 2, 3, 4, 5, 6, 7, 8] hH (by kernel_rfl) (by repeat (first | refine pan_then ?_ | refine pan_block ?_ | exact hpan)) ?_; clear hH; intro w hH; have hS := hH) | refine wp_block ?_ | refine wp_skip ?_ | (refine e_thenK hK ?_; clear hK))
   cases r2 with
   | true =>
    repeat (first | (refine is_list ?_; refine s_pe hF J J J J ?_; clear hF; intro a hF) | refine c_seq (fun K hK => ?_) | refine wp_region_lit ?_ | (refine c_nilK hK ?_; clear hK) | refine c_true hF rfl ?_ | refine wp_ret ?_ | (refine e_ret ?_; clear hK) | refine e_bret ?_)
    exact hret _ _ (c_ret2 hF J J J ⟨(_, _), trivial, rfl, hH⟩)
   | false =>
    repeat (first | (refine is_list ?_; refine s_pe hF J J J J ?_; clear hF; intro a hF) | refine wp_region_lit ?_ | refine c_false hF rfl ?_ | refine wp_skip ?_ | refine e_bnormal ?_ | (refine e_thenK hK ?_; clear hK))
    have hc : IntKind.i64.wrap ((j : Int) + 1) = ((j + 1 : Nat) : Int) := wrapN (by omega)
    rw [hc, ← hA] at hF
    first
     | exact e_then (hK (i - (j + 1)) _ _ (by omega) ⟨j + 1, rfl, by omega, hF.pick [0, 4, 5] rfl, hH⟩)
     | exact c_nil (hK (i - (j + 1)) _ _ (by omega) ⟨j + 1, rfl, by omega, hF.pick [0, 4, 5] rfl, hH⟩)
  ·refine c_false hF (cb (lt_f (by omega))) ?_
   repeat (first | (refine is_list ?_; refine s_pe hF J J J J ?_; clear hF; intro a hF) | refine wp_region_lit ?_ | refine wp_exit ?_ | (refine e_exit ?_; clear hK) | refine e_bexit rfl ?_ | refine e_bnormal ?_ | (refine e_thenK hK ?_; clear hK))
   have hc : IntKind.i64.wrap ((i : Int) + 1) = ((i + 1 : Nat) : Int) := wrapN (by omega)
   rw [hc] at hF
   first
    | exact e_then (hK (xs.length + 1 - (i + 1)) _ _ (by omega) ⟨i + 1, rfl, by omega, by omega, hF.pick [0, 4] rfl, hH⟩)
    | exact c_nil (hK (xs.length + 1 - (i + 1)) _ _ (by omega) ⟨i + 1, rfl, by omega, by omega, hF.pick [0, 4] rfl, hH⟩)
 ·refine c_false hF (cb (lt_f (by omega))) ?_
  repeat (first | (refine is_list ?_; refine s_pe hF J J J J ?_; clear hF; intro a hF) | refine c_seq (fun K hK => ?_) | refine wp_region_lit ?_ | (refine c_nilK hK ?_; clear hK) | refine wp_exit ?_ | refine wp_ret ?_ | (refine e_exit ?_; clear hK) | refine e_bexit rfl ?_ | (refine e_thenK hK ?_; clear hK))
  exact hret _ _ (c_ret2 hF J J J ⟨(_, _), trivial, rfl, hH⟩)
end Go.Proofs.YtlkikblohnnlcaaGreatDoor.Y
end
section
namespace Go.Proofs.YtlkikblohnnlcaaGreatDoor.Y
open Go Go.RowKit X R Go.Proofs.YtlkikblohnnlcaaGreatDoorW.PrintWords
set_option linter.unusedVariables false
set_option maxRecDepth 4000
attribute [local irreducible] wpList dL Code.wp bodyPost Ct Calls Exit.then Exit.inBlock Code.rounds
set_option maxHeartbeats 0
theorem jValues_ok (lm : Lm) (x : S27) (A4 A5 : Option Addr) (c4 c5 : Nat) (w0 : World) : Ct 29 [.agg (nodeL lm).toArray, .agg #[.int .i64 x.f0, .bool x.f1, .int .i64 x.f2, .string x.f3, .slice A4 x.f4.length c4, .slice A5 x.f5.length c5]] w0 (fun _ : Unit => .bool true) (fun _ => []) (fun _ => True) := by
 unfold Ct
 refine c_enter (n := 40) (L := [(1, .agg #[.int .i64 x.f0, .bool x.f1, .int .i64 x.f2, .string x.f3, .slice A4 x.f4.length c4, .slice A5 x.f5.length c5]), (0, .agg (nodeL lm).toArray)]) Tryz.func29 J J J J ?_
 intro a hF
 have hH := Hp.start w0
 refine c_open (fun Q hpan hret hnorm => ?_)
 repeat (first | (refine is_list ?_; first | (refine s_pe hF J J J J ?_; clear hF; intro a hF) | (refine s_bx hF hH J J J J ?_; clear hF hH; intro a b w hF hH)) | (refine is_draw ?_; first | (refine d_pe hF J J J J J J ?_; clear hF; intro a hF) | (refine is_dload rfl ?_; refine d_ld 1 hF hS J J J J J J J J ?_; clear hF; intro a hF) | (refine d_off hF rfl hS J J J ?_; clear hF; intro a hF) | (refine is_dcall rfl ?_; refine d_len hF hS J J J J J ?_; clear hF; intro a hF)) | (refine c_dnilK hK ?_; clear hS hK) | refine c_seq (fun K hK => ?_) | refine wp_region_lit ?_ | (refine c_nilK hK ?_; clear hK) | (refine is_region ?_; refine is_region (id := 1) ?_; refine c_drawn [] [0, 1, 2, 3, 4, 5, 6, 7, 8, 9, 10, 11, 12, 13, 14, 15, 16, 17, 18, 19, 20, 21, 22, 23, 24, 25, 26, 27, 28, 29, 30, 31, 32, 33, 34, 35] hH (by kernel_rfl) (by repeat (first | refine pan_then ?_ | refine pan_block ?_ | exact hpan)) ?_; clear hH; intro w hH; have hS := hH) | refine wp_ret ?_)
 exact hret _ _ (c_ret1 hF J J ⟨(), trivial, rfl, hH.mid 0 2⟩)
theorem jSeveral_ok (bn : Nat) (x : S27) (A4 A5 : Option Addr) (c4 c5 : Nat) (mb mn mc : Nat) (w0 : World) : Ct 61 [.int .i64 2020, .agg #[.slice (some ⟨bn, 0, none⟩) 1 1, .slice none 0 0], .slice none 0 0, .agg #[.int .i64 x.f0, .bool x.f1, .int .i64 x.f2, .string x.f3, .slice A4 x.f4.length c4, .slice A5 x.f5.length c5], .slice (some ⟨mb, 0, none⟩) mn mc] w0 (fun _ : Unit => .int .i64 0) (fun _ => []) (fun _ => True) := by
 unfold Ct
 refine c_enter (n := 39) (L := [(4, .slice (some ⟨mb, 0, none⟩) mn mc), (3, .agg #[.int .i64 x.f0, .bool x.f1, .int .i64 x.f2, .string x.f3, .slice A4 x.f4.length c4, .slice A5 x.f5.length c5]), (2, .slice none 0 0), (1, .agg #[.slice (some ⟨bn, 0, none⟩) 1 1, .slice none 0 0]), (0, .int .i64 2020)]) Tryz.func61 J J J J ?_
 intro a hF
 have hH := Hp.start w0
 refine c_open (fun Q hpan hret hnorm => ?_)
 repeat (first | (refine is_list ?_; first | (refine s_pe hF J J J J ?_; clear hF; intro a hF) | (refine s_bx hF hH J J J J ?_; clear hF hH; intro a b w hF hH)) | refine c_seq (fun K hK => ?_) | refine wp_region_lit ?_ | (refine c_nilK hK ?_; clear hK) | refine c_false hF rfl ?_ | refine wp_block ?_ | refine wp_loop_rounds 2 (c_roundK 1 (fun K hK => ?_)) | refine wp_exit ?_ | refine wp_ret ?_ | (refine e_exit ?_; clear hK) | refine e_bexit rfl ?_ | (refine e_thenK hK ?_; clear hK))
 exact hret _ _ (c_ret1 hF J J ⟨(), trivial, rfl, hH.mid 0 2⟩)
theorem jDepends_ok (bn : Nat) (lm : Lm) (x : S27) (A4 A5 : Option Addr) (c4 c5 : Nat) (mb mn mc : Nat) (w0 : World) : Ct 65 [.int .i64 2020, .agg #[.slice (some ⟨bn, 0, none⟩) 1 1, .slice none 0 0], .agg (nodeL lm).toArray, .agg #[.int .i64 x.f0, .bool x.f1, .int .i64 x.f2, .string x.f3, .slice A4 x.f4.length c4, .slice A5 x.f5.length c5], .slice (some ⟨mb, 0, none⟩) mn mc] w0 (fun _ : Unit => .bool true) (fun _ => []) (fun _ => True) := by
 unfold Ct
 refine c_enter (n := 104) (L := [(4, .slice (some ⟨mb, 0, none⟩) mn mc), (3, .agg #[.int .i64 x.f0, .bool x.f1, .int .i64 x.f2, .string x.f3, .slice A4 x.f4.length c4, .slice A5 x.f5.length c5]), (2, .agg (nodeL lm).toArray), (1, .agg #[.slice (some ⟨bn, 0, none⟩) 1 1, .slice none 0 0]), (0, .int .i64 2020)]) Tryz.func65 J J J J ?_
 intro a hF
 have hH := Hp.start w0
 refine c_open (fun Q hpan hret hnorm => ?_)
 repeat (first | (refine is_list ?_; first | ((first | refine s_pe hF J J J J ?_ | refine x_off hF J J J ?_); clear hF; intro a hF) | (refine is_load ?_; refine s_ld 1 hF hH J J J J J J J ?_; clear hF; intro a hF) | (refine s_bx hF hH J J J J ?_; clear hF hH; intro a b w hF hH)) | refine c_seq (fun K hK => ?_) | refine wp_region_lit ?_ | (refine c_nilK hK ?_; clear hK) | refine c_false hF rfl ?_ | refine wp_block ?_ | refine wp_loop_rounds 2 (c_roundK 1 (fun K hK => ?_)) | refine wp_exit ?_ | refine wp_ret ?_ | (refine e_exit ?_; clear hK) | refine e_bexit rfl ?_ | (refine e_thenK hK ?_; clear hK))
 exact hret _ _ (c_ret1 hF J J ⟨(), trivial, rfl, hH.mid 0 3⟩)
theorem jElement_ok (bn : Nat) (lm : Lm) (i : Nat) (x : S27) (A4 A5 : Option Addr) (c4 c5 : Nat) (w0 : World) : Ct 70 [.int .i64 2020, .agg #[.slice (some ⟨bn, 0, none⟩) 1 1, .slice none 0 0], .agg (nodeL lm).toArray, .int .i64 (i : Nat), .agg #[.int .i64 x.f0, .bool x.f1, .int .i64 x.f2, .string x.f3, .slice A4 x.f4.length c4, .slice A5 x.f5.length c5]] w0 (fun _ : Unit => .tuple #[.bool true, .bool false]) (fun _ => []) (fun _ => True) := by
 unfold Ct
 refine c_enter (n := 66) (L := [(4, .agg #[.int .i64 x.f0, .bool x.f1, .int .i64 x.f2, .string x.f3, .slice A4 x.f4.length c4, .slice A5 x.f5.length c5]), (3, .int .i64 (i : Nat)), (2, .agg (nodeL lm).toArray), (1, .agg #[.slice (some ⟨bn, 0, none⟩) 1 1, .slice none 0 0]), (0, .int .i64 2020)]) Tryz.func70 J J J J ?_
 intro a hF
 have hH := Hp.start w0
 refine c_open (fun Q hpan hret hnorm => ?_)
 repeat (first | (refine is_list ?_; first | (refine s_pe hF J J J J ?_; clear hF; intro a hF) | (refine is_load ?_; refine s_ld 1 hF hH J J J J J J J ?_; clear hF; intro a hF) | (refine s_bx hF hH J J J J ?_; clear hF hH; intro a b w hF hH)) | refine c_seq (fun K hK => ?_) | refine wp_region_lit ?_ | (refine c_nilK hK ?_; clear hK) | refine c_true hF rfl ?_ | refine c_false hF rfl ?_ | refine wp_ret ?_ | refine wp_skip ?_ | ((first | refine e_ret ?_ | refine e_thenK hK ?_); clear hK))
 exact hret _ _ (c_ret2 hF J J J ⟨(), trivial, rfl, hH.mid 0 3⟩)
theorem jThere_ok (x : S27) (A4 A5 : Option Addr) (c4 c5 : Nat) (w0 : World) : Ct 114 [.agg #[.int .i64 x.f0, .bool x.f1, .int .i64 x.f2, .string x.f3, .slice A4 x.f4.length c4, .slice A5 x.f5.length c5], .slice none 0 0] w0 (fun _ : Unit => .bool true) (fun _ => []) (fun _ => True) := by
 unfold Ct
 refine c_enter (n := 19) (L := [(1, .slice none 0 0), (0, .agg #[.int .i64 x.f0, .bool x.f1, .int .i64 x.f2, .string x.f3, .slice A4 x.f4.length c4, .slice A5 x.f5.length c5])]) Tryz.func114 J J J J ?_
 intro a hF
 have hH := Hp.start w0
 refine c_open (fun Q hpan hret hnorm => ?_)
 repeat (first | (refine is_list ?_; first | (refine s_pe hF J J J J ?_; clear hF; intro a hF) | (refine s_bx hF hH J J J J ?_; clear hF hH; intro a b w hF hH)) | refine c_seq (fun K hK => ?_) | refine wp_region_lit ?_ | (refine c_nilK hK ?_; clear hK) | refine c_false hF rfl ?_ | refine wp_block ?_ | refine wp_loop_rounds 2 (c_roundK 1 (fun K hK => ?_)) | refine wp_exit ?_ | refine wp_ret ?_ | (refine e_exit ?_; clear hK) | refine e_bexit rfl ?_ | (refine e_thenK hK ?_; clear hK))
 exact hret _ _ (c_ret1 hF J J ⟨(), trivial, rfl, hH.mid 0 1⟩)
theorem jInPlace_ok (bn : Nat) (lm : Lm) (x : S27) (A4 A5 : Option Addr) (c4 c5 : Nat) (mb mn mc : Nat) (w0 : World) : Ct 30 [.int .i64 2020, .agg #[.slice (some ⟨bn, 0, none⟩) 1 1, .slice none 0 0], .agg (nodeL lm).toArray, .agg #[.int .i64 x.f0, .bool x.f1, .int .i64 x.f2, .string x.f3, .slice A4 x.f4.length c4, .slice A5 x.f5.length c5], .slice (some ⟨mb, 0, none⟩) mn mc] w0 (fun _ : Unit => .bool true) (fun _ => []) (fun _ => True) := by
 unfold Ct
 refine c_enter (n := 165) (L := [(4, .slice (some ⟨mb, 0, none⟩) mn mc), (3, .agg #[.int .i64 x.f0, .bool x.f1, .int .i64 x.f2, .string x.f3, .slice A4 x.f4.length c4, .slice A5 x.f5.length c5]), (2, .agg (nodeL lm).toArray), (1, .agg #[.slice (some ⟨bn, 0, none⟩) 1 1, .slice none 0 0]), (0, .int .i64 2020)]) Tryz.func30 J J J J ?_
 intro a hF
 have hH := Hp.start w0
 refine c_open (fun Q hpan hret hnorm => ?_)
 repeat (first | (refine is_list ?_; first | ((first | refine s_pe hF J J J J ?_ | refine x_off hF J J J ?_); clear hF; intro a hF) | (refine is_load ?_; (first | refine s_ld 1 hF hH J J J J J J J ?_ | refine s_lda 0 hF hH J J J J J J J ?_ | refine s_lda 1 hF hH J J J J J J J ?_ | refine s_lda 2 hF hH J J J J J J J ?_); clear hF; intro a hF) | (refine is_call ?_; (first | refine s_call hF hH J J J J J (jSeveral_ok bn x A4 A5 c4 c5 mb mn mc _) ?_ | refine s_call hF hH J J J J J (jDepends_ok bn lm x A4 A5 c4 c5 mb mn mc _) ?_); clear hF hH; intro a w r hr hF hH) | (refine s_bx hF hH J J J J ?_; clear hF hH; intro a b w hF hH)) | refine c_seq (fun K hK => ?_) | refine wp_region_lit ?_ | (refine c_nilK hK ?_; clear hK) | refine c_false hF rfl ?_ | refine wp_block ?_ | refine wp_loop_rounds 2 (c_roundK 1 (fun K hK => ?_)) | refine wp_exit ?_ | refine wp_ret ?_ | refine wp_skip ?_ | (refine e_exit ?_; clear hK) | refine e_bexit rfl ?_ | (refine e_thenK hK ?_; clear hK))
 exact hret _ _ (c_ret1 hF J J ⟨(), trivial, rfl, hH.mid 0 3⟩)
theorem jNeeds_ok (lm : Lm) (x : S27) (A4 A5 : Option Addr) (c4 c5 : Nat) (w0 : World) : Ct 73 [.agg (nodeL lm).toArray, .agg #[.int .i64 x.f0, .bool x.f1, .int .i64 x.f2, .string x.f3, .slice A4 x.f4.length c4, .slice A5 x.f5.length c5]] w0 (fun _ : Unit => .bool true) (fun _ => []) (fun _ => True) := by
 unfold Ct
 refine c_enter (n := 68) (L := [(1, .agg #[.int .i64 x.f0, .bool x.f1, .int .i64 x.f2, .string x.f3, .slice A4 x.f4.length c4, .slice A5 x.f5.length c5]), (0, .agg (nodeL lm).toArray)]) Tryz.func73 J J J J ?_
 intro a hF
 have hH := Hp.start w0
 refine c_open (fun Q hpan hret hnorm => ?_)
 repeat (first | (refine is_list ?_; first | (refine s_pe hF J J J J ?_; clear hF; intro a hF) | (refine is_load ?_; (first | refine s_ld 1 hF hH J J J J J J J ?_ | refine s_lda 0 hF hH J J J J J J J ?_); clear hF; intro a hF) | (refine is_call ?_; refine s_call hF hH J J J J J (jThere_ok x A4 A5 c4 c5 _) ?_; clear hF hH; intro a w r hr hF hH) | (refine s_bx hF hH J J J J ?_; clear hF hH; intro a b w hF hH)) | refine c_seq (fun K hK => ?_) | refine wp_region_lit ?_ | (refine c_nilK hK ?_; clear hK) | refine c_false hF rfl ?_ | refine wp_block ?_ | refine wp_loop_rounds 2 (c_roundK 1 (fun K hK => ?_)) | refine wp_exit ?_ | refine wp_ret ?_ | refine wp_skip ?_ | (refine e_exit ?_; clear hK) | refine e_bexit rfl ?_ | (refine e_thenK hK ?_; clear hK))
 exact hret _ _ (c_ret1 hF J J ⟨(), trivial, rfl, hH.mid 0 2⟩)
theorem jMore_ok (bn : Nat) (x : S27) (A4 A5 : Option Addr) (c4 c5 : Nat) (w0 : World) : Ct 116 [.int .i64 2020, .agg #[.slice (some ⟨bn, 0, none⟩) 1 1, .slice none 0 0], .agg #[.int .i64 0, .int .i64 0], .agg #[.int .i64 x.f0, .bool x.f1, .int .i64 x.f2, .string x.f3, .slice A4 x.f4.length c4, .slice A5 x.f5.length c5]] w0 (fun _ : Unit => .tuple #[.bool true, .bool false]) (fun _ => []) (fun _ => True) := by
 unfold Ct
 refine c_enter (n := 30) (L := [(3, .agg #[.int .i64 x.f0, .bool x.f1, .int .i64 x.f2, .string x.f3, .slice A4 x.f4.length c4, .slice A5 x.f5.length c5]), (2, .agg #[.int .i64 0, .int .i64 0]), (1, .agg #[.slice (some ⟨bn, 0, none⟩) 1 1, .slice none 0 0]), (0, .int .i64 2020)]) Tryz.func116 J J J J ?_
 intro a hF
 have hH := Hp.start w0
 refine c_open (fun Q hpan hret hnorm => ?_)
 repeat (first | (refine is_list ?_; first | (refine s_pe hF J J J J ?_; clear hF; intro a hF) | (refine is_load ?_; refine s_ld 1 hF hH J J J J J J J ?_; clear hF; intro a hF) | (refine s_bx hF hH J J J J ?_; clear hF hH; intro a b w hF hH)) | refine c_seq (fun K hK => ?_) | refine wp_region_lit ?_ | (refine c_nilK hK ?_; clear hK) | refine c_false hF rfl ?_ | refine wp_block ?_ | refine wp_ret ?_ | refine wp_skip ?_ | refine e_bnormal ?_ | (refine e_thenK hK ?_; clear hK))
 exact hret _ _ (c_ret2 hF J J J ⟨(), trivial, rfl, hH.mid 0 3⟩)
theorem jMember_ok (bn : Nat) (lm : Lm) (t : ByteArray) (x : S27) (A4 A5 : Option Addr) (c4 c5 : Nat) (w0 : World) : Ct 74 [.int .i64 2020, .agg #[.slice (some ⟨bn, 0, none⟩) 1 1, .slice none 0 0], .agg (nodeL lm).toArray, .string t, .agg #[.int .i64 x.f0, .bool x.f1, .int .i64 x.f2, .string x.f3, .slice A4 x.f4.length c4, .slice A5 x.f5.length c5]] w0 (fun _ : Unit => .tuple #[.bool true, .bool false]) (fun _ => []) (fun _ => True) := by
 unfold Ct
 refine c_enter (n := 93) (L := [(4, .agg #[.int .i64 x.f0, .bool x.f1, .int .i64 x.f2, .string x.f3, .slice A4 x.f4.length c4, .slice A5 x.f5.length c5]), (3, .string t), (2, .agg (nodeL lm).toArray), (1, .agg #[.slice (some ⟨bn, 0, none⟩) 1 1, .slice none 0 0]), (0, .int .i64 2020)]) Tryz.func74 J J J J ?_
 intro a hF
 have hH := Hp.start w0
 refine c_open (fun Q hpan hret hnorm => ?_)
 repeat (first | (refine is_list ?_; first | ((first | refine s_pe hF J J J J ?_ | refine x_off hF J J J ?_); clear hF; intro a hF) | (refine is_load ?_; (first | refine s_ld 1 hF hH J J J J J J J ?_ | refine s_lda 0 hF hH J J J J J J J ?_ | refine s_lda 1 hF hH J J J J J J J ?_ | refine s_lda 2 hF hH J J J J J J J ?_); clear hF; intro a hF) | (refine is_call ?_; refine s_call hF hH J J J J J (jMore_ok bn x A4 A5 c4 c5 _) ?_; clear hF hH; intro a w r hr hF hH) | (refine s_bx hF hH J J J J ?_; clear hF hH; intro a b w hF hH)) | refine c_seq (fun K hK => ?_) | refine wp_region_lit ?_ | (refine c_nilK hK ?_; clear hK) | refine c_false hF rfl ?_ | refine wp_block ?_ | refine wp_loop_rounds 2 (c_roundK 1 (fun K hK => ?_)) | refine wp_exit ?_ | refine wp_ret ?_ | refine wp_skip ?_ | (refine e_exit ?_; clear hK) | refine e_bexit rfl ?_ | (refine e_thenK hK ?_; clear hK))
 exact hret _ _ (c_ret2 hF J J J ⟨(), trivial, rfl, hH.mid 0 3⟩)
end Go.Proofs.YtlkikblohnnlcaaGreatDoor.Y
end
section
namespace Go.Proofs.YtlkikblohnnlcaaGreatDoor.Y
open Go Go.RowKit X R Go.Proofs.YtlkikblohnnlcaaGreatDoorW.PrintWords
set_option linter.unusedVariables false
set_option maxRecDepth 4000
attribute [local irreducible] wpList dL Code.wp bodyPost Ct Calls Exit.then Exit.inBlock Code.rounds
set_option maxHeartbeats 0
theorem jArray_ok (bn : Nat) (lm : Lm) (x : S27) (A4 A5 : Option Addr) (c4 c5 : Nat) (mb : Nat) (hx : Gd x) (w0 w : World) (R : Hm) (hX : k27.K w0 x [.int .i64 x.f0, .bool x.f1, .int .i64 x.f2, .string x.f3, .slice A4 x.f4.length c4, .slice A5 x.f5.length c5]) (hH : Hp w0 w ((mb, .cells (List.replicate x.f5.length (Value.bool false)).toArray 4) :: R)) :
  Calls Tryz.prog 36 #[.int .i64 2020, .agg #[.slice (some ⟨bn, 0, none⟩) 1 1, .slice none 0 0], .agg (nodeL lm).toArray, .agg #[.int .i64 x.f0, .bool x.f1, .int .i64 x.f2, .string x.f3, .slice A4 x.f4.length c4, .slice A5 x.f5.length c5], .slice (some ⟨mb, 0, none⟩) x.f5.length x.f5.length] w fun e w' => e = .returned (.bool (bd ((x.f5.length : Nat)) lm.t3 lm.n3 lm.t4 lm.n4)) ∧ Hp w0 w' ((mb, .cells (List.replicate x.f5.length (Value.bool false)).toArray 4) :: R) := by
 obtain ⟨A4', c4', A5', c5', he, l4, g4, l5, g5⟩ := k27_open hX
 simp only [List.cons.injEq, Value.slice.injEq, and_true, true_and] at he
 obtain ⟨⟨rfl, rfl⟩, rfl, rfl⟩ := he
 have hz5 := hx.sz.l5
 refine c_enter (n := 133) (L := [(4, .slice (some ⟨mb, 0, none⟩) x.f5.length x.f5.length), (3, .agg #[.int .i64 x.f0, .bool x.f1, .int .i64 x.f2, .string x.f3, .slice A4 x.f4.length c4, .slice A5 x.f5.length c5]), (2, .agg (nodeL lm).toArray), (1, .agg #[.slice (some ⟨bn, 0, none⟩) 1 1, .slice none 0 0]), (0, .int .i64 2020)]) Tryz.func36 J J J J ?_
 intro a hF
 refine c_open (fun Q hpan hret hnorm => ?_)
 refine c_seq (fun K hK => ?_)
 refine wp_region_lit ?_
 refine s_bx hF hH J J J J ?_; clear hF hH; intro a jb w hF hH
 refine s_bx hF hH J J J J ?_; clear hF hH; intro a nb w hF hH
 refine s_bx hF hH J J J J ?_; clear hF hH; intro a xb w hF hH
 repeat (first | (refine is_list ?_; first | ((first | refine s_pe hF J J J J ?_ | refine x_off hF J J J ?_); clear hF; intro a hF) | (refine is_load ?_; (first | refine s_ld 0 hF hH J J J J J J J ?_ | refine s_ld 1 hF hH J J J J J J J ?_ | refine s_lda 1 hF hH J J J J J J J ?_); clear hF; intro a hF) | (refine is_call ?_; first | (refine s_call hF hH J J J J J (c33 _ _ _ _ _ _) ?_; clear hF hH; intro a w r hr hF hH) | (refine s_call hF hH J J J J J (jTwins_ok x.f5 (fun y hy => hx.kid hy) hz5 A5 c5 _ (Kd.C_below g5 hH.below)) ?_; clear hF hH; intro a w p hp hF hH))) | refine c_seq (fun K hK => ?_) | refine wp_region_lit ?_ | (refine c_nilK hK ?_; clear hK) | refine c_false hF rfl ?_ | refine wp_block ?_ | refine wp_skip ?_ | (refine e_thenK hK ?_; clear hK))
 generalize bd ((x.f5.length : Nat)) lm.t3 lm.n3 lm.t4 lm.n4 = B at hF hret hnorm ⊢
 refine c_loop (fun k a w' => ∃ i : Nat, k = x.f5.length - i ∧ i ≤ x.f5.length ∧ Fr a 133 [(0, .int .i64 2020), (4, .slice (some ⟨mb, 0, none⟩) x.f5.length x.f5.length), (6, .pointer (some ⟨jb, 0, none⟩)), (7, .pointer (some ⟨nb, 0, none⟩)), (8, .pointer (some ⟨xb, 0, none⟩)), (11, .int .i64 (x.f5.length : Nat)), (12, .bool B), (15, .int .i64 (i : Nat))] ∧ Hp w0 w' ((xb, .cells (vc (.agg #[.int .i64 x.f0, .bool x.f1, .int .i64 x.f2, .string x.f3, .slice A4 x.f4.length c4, .slice A5 x.f5.length c5])).toArray 27) :: (nb, .cells (vc (.agg (nodeL lm).toArray)).toArray 44) :: (jb, .cells (vc (.agg #[.slice (some ⟨bn, 0, none⟩) 1 1, .slice none 0 0])).toArray 64) :: (mb, .cells (List.replicate x.f5.length (Value.bool false)).toArray 4) :: R)) x.f5.length ⟨0, by simp, by omega, hF.pick [0, 4, 6, 7, 8, 11, 12, 15] rfl, hH⟩ ?_
 clear hF hH
 rintro k a w ⟨i, q1, q2, hF, hH⟩ K hK
 repeat (first | (refine is_list ?_; refine s_pe hF J J J J ?_; clear hF; intro a hF) | refine c_seq (fun K hK => ?_) | refine wp_region_lit ?_ | (refine c_nilK hK ?_; clear hK))
 by_cases hi : i < x.f5.length
 ·refine c_true hF (cb (lt_t (by omega))) ?_
  obtain ⟨bbx, jjx, hA5, hallx⟩ := C_plain z27 g5 rfl (by decide) (by omega)
  obtain ⟨csx, hKx, _, hOx⟩ := hallx i hi
  have hmx := getD_mem z27 hi
  generalize x.f5.getD i z27 = z at hKx hmx
  obtain ⟨E4, f4, E5, f5, hcsx, _⟩ := k27_open hKx
  rw [hcsx] at hKx hOx
  rw [hA5] at hH
  have hrep : (List.replicate x.f5.length (Value.bool false))[0 + i * 1]? = some (.bool false) := by rw [Nat.zero_add, Nat.mul_one, List.getElem?_replicate, if_pos hi]
  repeat (first | (refine is_list ?_; refine s_pe hF J J J J ?_; clear hF; intro a hF) | (refine is_draw ?_; first | (refine d_pe hF J J J J J J ?_; clear hF; intro a hF) | (refine is_dload rfl ?_; (first | refine d_ld 0 hF hS J J J J J J J J ?_ | refine d_lda 1 hF hS J J J J J J J J ?_ | refine d_lda 2 hF hS J J J J J J J J ?_); clear hF; intro a hF) | (refine is_dcall rfl ?_; refine d_call hF hH hS J J J J J J (jElement_ok bn lm i z _ _ _ _ _) ?_; clear hF hH hS; intro a w r hr hF hH hS) | ((first | refine d_ix hF J J J J J J (Nat.ble_eq_true_of_le hi) rfl ?_ | refine d_ldaAt hOx hF hS J J J J J J J ?_); clear hF; intro a hF)) | (refine c_dnilK hK ?_; clear hS hK) | refine c_seq (fun K hK => ?_) | refine wp_region_lit ?_ | (refine is_region ?_; refine is_region (id := 9) ?_; refine c_drawn [] [0, 1, 2, 3, 4, 5, 6, 7, 8, 9, 10, 11, 12, 13, 14] hH (by kernel_rfl) (by repeat (first | refine pan_then ?_ | refine pan_block ?_ | exact hpan)) ?_; clear hH; intro w hH; have hS := hH) | refine wp_block ?_ | refine wp_skip ?_ | (refine e_thenK hK ?_; clear hK))
  obtain ⟨B2, hB2⟩ : ∃ b : Bool, B = b := ⟨B, rfl⟩
  rw [hB2] at hF
  cases B2
  ·repeat (first | (refine is_list ?_; first | ((first | refine s_pe hF J J J J ?_ | refine x_off hF J J J ?_ | refine s_ix hF J J J J J (Nat.ble_eq_true_of_le hi) rfl ?_ | refine s_ld 3 hF hH J J J J hrep J J ?_); clear hF; intro a hF) | (refine s_stS 3 hF hH J J J J hrep J J ?_; clear hH; intro w hH)) | refine wp_region_lit ?_ | (refine c_nilK hK ?_; clear hK) | refine c_nilB ?_ | (refine e_thenK hK ?_; clear hK))
   have hc : IntKind.i64.wrap ((i : Int) + 1) = ((i + 1 : Nat) : Int) := wrapN (by omega)
   rw [hc] at hF
   rw [← hA5] at hH
   first
    | exact e_then (hK (x.f5.length - (i + 1)) _ _ (by omega) ⟨i + 1, rfl, by omega, (by rw [hB2]; exact hF.pick [0, 4, 6, 7, 8, 11, 12, 15] rfl), hH⟩)
    | exact c_nil (hK (x.f5.length - (i + 1)) _ _ (by omega) ⟨i + 1, rfl, by omega, (by rw [hB2]; exact hF.pick [0, 4, 6, 7, 8, 11, 12, 15] rfl), hH⟩)
  ·repeat (first | (refine is_list ?_; first | ((first | refine s_pe hF J J J J ?_ | refine s_ix hF J J J J J (Nat.ble_eq_true_of_le hi) rfl ?_ | refine s_ld 3 hF hH J J J J hrep J J ?_); clear hF; intro a hF) | (refine s_stS 3 hF hH J J J J hrep J J ?_; clear hH; intro w hH)) | refine wp_region_lit ?_ | (refine c_nilK hK ?_; clear hK) | refine c_nilB ?_ | (refine e_thenK hK ?_; clear hK))
   have hc : IntKind.i64.wrap ((i : Int) + 1) = ((i + 1 : Nat) : Int) := wrapN (by omega)
   rw [hc] at hF
   rw [← hA5] at hH
   first
    | exact e_then (hK (x.f5.length - (i + 1)) _ _ (by omega) ⟨i + 1, rfl, by omega, (by rw [hB2]; exact hF.pick [0, 4, 6, 7, 8, 11, 12, 15] rfl), hH⟩)
    | exact c_nil (hK (x.f5.length - (i + 1)) _ _ (by omega) ⟨i + 1, rfl, by omega, (by rw [hB2]; exact hF.pick [0, 4, 6, 7, 8, 11, 12, 15] rfl), hH⟩)
 ·refine c_false hF (cb (lt_f (by omega))) ?_
  clear q1 q2 hi
  repeat (first | (refine is_list ?_; first | (refine s_pe hF J J J J ?_; clear hF; intro a hF) | (refine is_load ?_; refine s_ld 1 hF hH J J J J J J J ?_; clear hF; intro a hF)) | refine c_seq (fun K hK => ?_) | refine wp_region_lit ?_ | (refine c_nilK hK ?_; clear hK) | refine c_false hF rfl ?_ | refine wp_block ?_ | refine wp_loop_rounds 2 (c_roundK 1 (fun K hK => ?_)) | refine wp_exit ?_ | refine wp_skip ?_ | (refine e_exit ?_; clear hK) | refine e_bexit rfl ?_ | (refine e_thenK hK ?_; clear hK))
  by_cases hn : 0 < x.f5.length
  ·rw [show decide ((0 : Int) < ((x.f5.length : Nat) : Int)) = true from decide_eq_true (by omega)] at hF
   repeat (first | (refine is_list ?_; first | (refine s_pe hF J J J J ?_; clear hF; intro a hF) | (refine is_load ?_; refine s_ld 1 hF hH J J J J J J J ?_; clear hF; intro a hF)) | refine c_seq (fun K hK => ?_) | refine wp_region_lit ?_ | (refine c_nilK hK ?_; clear hK) | refine c_false hF rfl ?_ | refine wp_block ?_ | refine wp_loop_rounds 2 (c_roundK 1 (fun K hK => ?_)) | refine wp_exit ?_ | (refine e_exit ?_; clear hK) | refine e_bexit rfl ?_ | (refine e_thenK hK ?_; clear hK))
   rw [show decide ((0 : Int) < ((x.f5.length : Nat) : Int)) = true from decide_eq_true (by omega)] at hF
   repeat (first | (refine is_list ?_; first | (refine s_pe hF J J J J ?_; clear hF; intro a hF) | (refine is_load ?_; refine s_ld 1 hF hH J J J J J J J ?_; clear hF; intro a hF)) | refine c_seq (fun K hK => ?_) | refine wp_region_lit ?_ | (refine c_nilK hK ?_; clear hK) | refine c_false hF rfl ?_ | refine wp_exit ?_ | refine wp_ret ?_ | (refine e_exit ?_; clear hK) | refine e_bexit rfl ?_ | (refine e_thenK hK ?_; clear hK))
   exact hret _ _ (c_ret1 hF J J ⟨rfl, hH.mid 0 3⟩)
  ·rw [show decide ((0 : Int) < ((x.f5.length : Nat) : Int)) = false from decide_eq_false (by omega)] at hF
   repeat (first | (refine is_list ?_; (first | refine s_pe hF J J J J ?_ | refine x_off hF J J J ?_); clear hF; intro a hF) | refine c_seq (fun K hK => ?_) | refine wp_region_lit ?_ | (refine c_nilK hK ?_; clear hK) | refine c_false hF rfl ?_ | refine wp_block ?_ | refine wp_loop_rounds 2 (c_roundK 1 (fun K hK => ?_)) | refine wp_exit ?_ | (refine e_exit ?_; clear hK) | refine e_bexit rfl ?_ | (refine e_thenK hK ?_; clear hK))
   rw [show decide ((0 : Int) < ((x.f5.length : Nat) : Int)) = false from decide_eq_false (by omega)] at hF
   repeat (first | (refine is_list ?_; (first | refine s_pe hF J J J J ?_ | refine x_off hF J J J ?_); clear hF; intro a hF) | refine c_seq (fun K hK => ?_) | refine wp_region_lit ?_ | (refine c_nilK hK ?_; clear hK) | refine c_false hF rfl ?_ | refine wp_exit ?_ | refine wp_ret ?_ | (refine e_exit ?_; clear hK) | refine e_bexit rfl ?_ | (refine e_thenK hK ?_; clear hK))
   exact hret _ _ (c_ret1 hF J J ⟨rfl, hH.mid 0 3⟩)
theorem jObject_ok (bn : Nat) (lm : Lm) (x : S27) (A4 A5 : Option Addr) (c4 c5 : Nat) (mb mn mc : Nat) (hx : Gd x) (h5 : x.f0 = 5) (w0 : World) (hX : k27.K w0 x [.int .i64 x.f0, .bool x.f1, .int .i64 x.f2, .string x.f3, .slice A4 x.f4.length c4, .slice A5 x.f5.length c5]) :
  Ct 37 [.int .i64 2020, .agg #[.slice (some ⟨bn, 0, none⟩) 1 1, .slice none 0 0], .agg (nodeL lm).toArray, .agg #[.int .i64 x.f0, .bool x.f1, .int .i64 x.f2, .string x.f3, .slice A4 x.f4.length c4, .slice A5 x.f5.length c5], .slice (some ⟨mb, 0, none⟩) mn mc] w0 (fun _ : Unit => .bool (bd (((U.dd x.f4).length : Nat)) lm.t5 lm.n5 lm.t6 lm.n6)) (fun _ => []) (fun _ => True) := by
 obtain ⟨A4', c4', A5', c5', he, l4, g4, l5, g5⟩ := k27_open hX
 simp only [List.cons.injEq, Value.slice.injEq, and_true, true_and] at he
 obtain ⟨⟨rfl, rfl⟩, rfl, rfl⟩ := he
 have hz5 := hx.sz.l5
 have hxl := hx.names h5
 unfold Ct
 refine c_enter (n := 143) (L := [(4, .slice (some ⟨mb, 0, none⟩) mn mc), (3, .agg #[.int .i64 x.f0, .bool x.f1, .int .i64 x.f2, .string x.f3, .slice A4 x.f4.length c4, .slice A5 x.f5.length c5]), (2, .agg (nodeL lm).toArray), (1, .agg #[.slice (some ⟨bn, 0, none⟩) 1 1, .slice none 0 0]), (0, .int .i64 2020)]) Tryz.func37 J J J J ?_
 intro a hF
 have hH := Hp.start w0
 refine c_open (fun Q hpan hret hnorm => ?_)
 refine c_seq (fun K hK => ?_)
 refine wp_region_lit ?_
 refine s_bx hF hH J J J J ?_; clear hF hH; intro a jb w hF hH
 refine s_bx hF hH J J J J ?_; clear hF hH; intro a nb w hF hH
 refine s_bx hF hH J J J J ?_; clear hF hH; intro a xb w hF hH
 repeat (first | (refine is_list ?_; first | (refine s_pe hF J J J J ?_; clear hF; intro a hF) | (refine is_load ?_; refine s_lda 0 hF hH J J J J J J J ?_; clear hF; intro a hF) | (refine is_call ?_; refine s_call hF hH J J J J J (c72 x hx.sz A4 A5 c4 c5 _ (k27.K_below hH.below hX)) ?_; clear hF hH; intro a w p hp hF hH)) | refine c_seq (fun K hK => ?_) | refine wp_region_lit ?_ | (refine c_nilK hK ?_; clear hK))
 obtain ⟨l, o⟩ := p
 have hlen : l.length = (U.dd x.f4).length := hp.len
 have hle : l.length ≤ x.f4.length := hp.le
 rw [← hlen] at hret hnorm
 cases o with
 | none =>
  dsimp only [mlV, mlH] at hF hH
  obtain rfl : l = [] := hp.nil rfl
  repeat (refine is_list ?_; first | (refine s_pe hF J J J J ?_; clear hF; intro a hF) | (refine is_load ?_; refine s_lda 1 hF hH J J J J J J J ?_; clear hF; intro a hF) | (refine is_call ?_; refine s_call hF hH J J J J J (c33 _ _ _ _ _ _) ?_; clear hF hH; intro a w r hr hF hH))
  obtain ⟨B2, hB2⟩ : ∃ b : Bool, bd ((0 : Nat)) lm.t5 lm.n5 lm.t6 lm.n6 = b := ⟨_, rfl⟩
  rw [hB2] at hF
  cases B2
  ·repeat (first | (refine is_list ?_; (first | refine s_pe hF J J J J ?_ | refine x_off hF J J J ?_); clear hF; intro a hF) | refine c_seq (fun K hK => ?_) | refine wp_region_lit ?_ | (refine c_nilK hK ?_; clear hK) | refine c_false hF rfl ?_ | refine wp_block ?_ | refine wp_loop_rounds 2 (c_roundK 1 (fun K hK => ?_)) | refine wp_exit ?_ | refine wp_ret ?_ | (refine e_exit ?_; clear hK) | refine e_bexit rfl ?_ | (refine e_thenK hK ?_; clear hK))
   exact hret _ _ (c_ret1 hF J J ⟨(), trivial, congrArg (fun b => Ending.returned (Value.bool b)) hB2.symm, hH.mid 0 3⟩)
  ·repeat (first | (refine is_list ?_; first | ((first | refine s_pe hF J J J J ?_ | refine x_off hF J J J ?_); clear hF; intro a hF) | (refine is_load ?_; (first | refine s_lda 0 hF hH J J J J J J J ?_ | refine s_lda 1 hF hH J J J J J J J ?_); clear hF; intro a hF) | (refine is_call ?_; refine s_call hF hH J J J J J (jNeeds_ok lm x A4 A5 c4 c5 _) ?_; clear hF hH; intro a w r hr hF hH)) | refine c_seq (fun K hK => ?_) | refine wp_region_lit ?_ | (refine c_nilK hK ?_; clear hK) | refine c_false hF rfl ?_ | refine wp_block ?_ | refine wp_loop_rounds 2 (c_roundK 1 (fun K hK => ?_)) | refine wp_exit ?_ | refine wp_ret ?_ | (refine e_exit ?_; clear hK) | refine e_bexit rfl ?_ | (refine e_thenK hK ?_; clear hK))
   exact hret _ _ (c_ret1 hF J J ⟨(), trivial, congrArg (fun b => Ending.returned (Value.bool b)) hB2.symm, hH.mid 0 3⟩)
 | some g =>
  obtain ⟨g, cap, cur⟩ := g
  dsimp only [mlV, mlH] at hF hH
  repeat (refine is_list ?_; first | (refine s_pe hF J J J J ?_; clear hF; intro a hF) | (refine is_load ?_; refine s_lda 2 hF hH J J J J J J J ?_; clear hF; intro a hF) | (refine is_call ?_; refine s_call hF hH J J J J J (c33 _ _ _ _ _ _) ?_; clear hF hH; intro a w r hr hF hH))
  obtain ⟨B2, hB2⟩ : ∃ b : Bool, bd ((l.length : Nat)) lm.t5 lm.n5 lm.t6 lm.n6 = b := ⟨_, rfl⟩
  rw [hB2] at hF hret
  cases B2
  ·repeat (first | (refine is_list ?_; (first | refine s_pe hF J J J J ?_ | refine x_off hF J J J ?_); clear hF; intro a hF) | refine c_seq (fun K hK => ?_) | refine wp_region_lit ?_ | (refine c_nilK hK ?_; clear hK) | refine wp_block ?_)
   refine c_loop (fun k a w' => ∃ i : Nat, k = l.length - i ∧ i ≤ l.length ∧ Fr a 143 [(0, .int .i64 2020), (6, .pointer (some ⟨jb, 0, none⟩)), (7, .pointer (some ⟨nb, 0, none⟩)), (8, .pointer (some ⟨xb, 0, none⟩)), (11, .slice (some ⟨g, 0, none⟩) l.length cap), (12, .bool false), (13, .int .i64 (i : Nat))] ∧ Hp w0 w' ([(g, .cells cur.toArray 3), (xb, .cells (vc (.agg #[.int .i64 x.f0, .bool x.f1, .int .i64 x.f2, .string x.f3, .slice A4 x.f4.length c4, .slice A5 x.f5.length c5])).toArray 27), (nb, .cells (vc (.agg (nodeL lm).toArray)).toArray 44), (jb, .cells (vc (.agg #[.slice (some ⟨bn, 0, none⟩) 1 1, .slice none 0 0])).toArray 64)])) l.length ⟨0, by simp, by omega, hF.pick [0, 6, 7, 8, 11, 12, 13] rfl, hH⟩ ?_
   clear hF hH
   rintro k a w ⟨i, q1, q2, hF, hH⟩ K hK
   repeat (first | (refine is_list ?_; refine s_pe hF J J J J ?_; clear hF; intro a hF) | refine c_seq (fun K hK => ?_) | refine wp_region_lit ?_ | (refine c_nilK hK ?_; clear hK))
   by_cases hi : i < l.length
   ·refine c_true hF (cb (lt_t (by omega))) ?_
    have hl : l[i]? = some (l[i]) := List.getElem?_eq_getElem hi
    have hr := hp.rng _ (List.getElem_mem hi)
    generalize l[i] = q at hl hr
    obtain ⟨q, rfl⟩ : ∃ m : Nat, q = (m : Int) := ⟨q.toNat, by omega⟩
    have hget := hp.get g cap cur rfl i _ hl
    have hq4 : q < x.f4.length := by omega
    have hq5 : q < x.f5.length := by omega
    obtain ⟨nb2, nj, hA4, halln⟩ := C_plain (⟨#[]⟩ : ByteArray) g4 rfl (by decide) (by omega)
    obtain ⟨csn, hKn, _, hOn⟩ := halln q hq4
    have hcsn : csn = [.string (x.f4.getD q ⟨#[]⟩)] := hKn
    rw [hcsn] at hOn
    have hcell := hOn 0 _ rfl
    rw [Nat.add_zero] at hcell
    generalize x.f4.getD q ⟨#[]⟩ = t at hcell
    obtain ⟨bbx, jjx, hA5, hallx⟩ := C_plain z27 g5 rfl (by decide) (by omega)
    obtain ⟨csx, hKx, _, hOx⟩ := hallx q hq5
    have hmx := getD_mem z27 hq5
    generalize x.f5.getD q z27 = z at hKx hmx
    obtain ⟨E4, f4, E5, f5, hcsx, _⟩ := k27_open hKx
    rw [hcsx] at hKx hOx
    rw [hA4, hA5] at hH
    repeat (first | (refine is_list ?_; first | ((first | refine s_pe hF J J J J ?_ | refine x_off hF J J J ?_); clear hF; intro a hF) | (refine is_load ?_; refine s_ld 2 hF hH J J J J J J J ?_; clear hF; intro a hF)) | (refine is_draw ?_; first | (refine d_pe hF J J J J J J ?_; clear hF; intro a hF) | (refine is_dload rfl ?_; (first | refine d_ld 1 hF hS J J J J J J J J ?_ | refine d_lda 2 hF hS J J J J J J J J ?_ | refine d_lda 3 hF hS J J J J J J J J ?_); clear hF; intro a hF) | (refine is_dcall rfl ?_; refine d_call hF hH hS J J J J J J (jMember_ok bn lm t z _ _ _ _ _) ?_; clear hF hH hS; intro a w r hr hF hH hS) | ((first | refine d_ix hF J J J J J J (Nat.ble_eq_true_of_le hi) rfl ?_ | refine d_ix hF J J J J J J (Nat.ble_eq_true_of_le hq4) rfl ?_ | refine d_ix hF J J J J J J (Nat.ble_eq_true_of_le hq5) rfl ?_ | refine d_ld 0 hF hS J J J J J (by rw [Nat.zero_add, Nat.mul_one]; exact hget) J J ?_ | refine d_ldAt hcell hF hS J J J J J J ?_ | refine d_ldaAt hOx hF hS J J J J J J J ?_); clear hF; intro a hF)) | (refine c_dnilK hK ?_; clear hS hK) | refine c_seq (fun K hK => ?_) | refine wp_region_lit ?_ | (refine c_nilK hK ?_; clear hK) | refine c_false hF rfl ?_ | (refine is_region ?_; first | (refine is_region (id := 6) ?_; refine c_drawn [] [0, 1, 2, 3, 4, 5, 6, 7, 8] hH (by kernel_rfl) (by repeat (first | refine pan_then ?_ | refine pan_block ?_ | exact hpan)) ?_; clear hH; intro w hH; have hS := hH) | (refine is_region (id := 10) ?_; refine c_drawn [] [0, 1, 2, 3, 4, 5, 6, 7, 8, 9, 10, 11, 12, 13, 14, 15, 16, 17] hH (by kernel_rfl) (by repeat (first | refine pan_then ?_ | refine pan_block ?_ | exact hpan)) ?_; clear hH; intro w hH; have hS := hH)) | refine wp_block ?_ | refine wp_skip ?_ | refine e_bnormal ?_ | (refine e_thenK hK ?_; clear hK))
    have hc : IntKind.i64.wrap ((i : Int) + 1) = ((i + 1 : Nat) : Int) := wrapN (by omega)
    rw [hc] at hF
    rw [← hA4, ← hA5] at hH
    first
     | exact e_then (hK (l.length - (i + 1)) _ _ (by omega) ⟨i + 1, rfl, by omega, hF.pick [0, 6, 7, 8, 11, 12, 13] rfl, hH⟩)
     | exact c_nil (hK (l.length - (i + 1)) _ _ (by omega) ⟨i + 1, rfl, by omega, hF.pick [0, 6, 7, 8, 11, 12, 13] rfl, hH⟩)
   ·refine c_false hF (cb (lt_f (by omega))) ?_
    clear q1 q2 hi
    repeat (first | (refine is_list ?_; refine s_pe hF J J J J ?_; clear hF; intro a hF) | refine c_seq (fun K hK => ?_) | refine wp_region_lit ?_ | (refine c_nilK hK ?_; clear hK) | refine wp_block ?_ | refine wp_loop_rounds 2 (c_roundK 1 (fun K hK => ?_)) | refine wp_exit ?_ | (refine e_exit ?_; clear hK) | refine e_bexit rfl ?_ | (refine e_thenK hK ?_; clear hK))
    by_cases hn : 0 < l.length
    ·rw [show decide ((0 : Int) < ((l.length : Nat) : Int)) = true from decide_eq_true (by omega)] at hF
     repeat (first | (refine is_list ?_; first | (refine s_pe hF J J J J ?_; clear hF; intro a hF) | (refine is_load ?_; refine s_ld 2 hF hH J J J J J J J ?_; clear hF; intro a hF)) | refine c_seq (fun K hK => ?_) | refine wp_region_lit ?_ | (refine c_nilK hK ?_; clear hK) | refine c_false hF rfl ?_ | refine wp_exit ?_ | refine wp_ret ?_ | (refine e_exit ?_; clear hK) | refine e_bexit rfl ?_ | (refine e_thenK hK ?_; clear hK))
     exact hret _ _ (c_ret1 hF J J ⟨(), trivial, rfl, hH.mid 0 4⟩)
    ·rw [show decide ((0 : Int) < ((l.length : Nat) : Int)) = false from decide_eq_false (by omega)] at hF
     repeat (first | (refine is_list ?_; (first | refine s_pe hF J J J J ?_ | refine x_off hF J J J ?_); clear hF; intro a hF) | refine c_seq (fun K hK => ?_) | refine wp_region_lit ?_ | (refine c_nilK hK ?_; clear hK) | refine c_false hF rfl ?_ | refine wp_exit ?_ | refine wp_ret ?_ | (refine e_exit ?_; clear hK) | refine e_bexit rfl ?_ | (refine e_thenK hK ?_; clear hK))
     exact hret _ _ (c_ret1 hF J J ⟨(), trivial, rfl, hH.mid 0 4⟩)
  ·repeat (first | (refine is_list ?_; first | (refine s_pe hF J J J J ?_; clear hF; intro a hF) | (refine is_load ?_; (first | refine s_lda 1 hF hH J J J J J J J ?_ | refine s_lda 2 hF hH J J J J J J J ?_); clear hF; intro a hF) | (refine is_call ?_; refine s_call hF hH J J J J J (jNeeds_ok lm x A4 A5 c4 c5 _) ?_; clear hF hH; intro a w r hr hF hH)) | refine c_seq (fun K hK => ?_) | refine wp_region_lit ?_ | (refine c_nilK hK ?_; clear hK) | refine wp_block ?_)
   refine c_loop (fun k a w' => ∃ i : Nat, k = l.length - i ∧ i ≤ l.length ∧ Fr a 143 [(0, .int .i64 2020), (6, .pointer (some ⟨jb, 0, none⟩)), (7, .pointer (some ⟨nb, 0, none⟩)), (8, .pointer (some ⟨xb, 0, none⟩)), (11, .slice (some ⟨g, 0, none⟩) l.length cap), (12, .bool true), (13, .int .i64 (i : Nat))] ∧ Hp w0 w' ([(g, .cells cur.toArray 3), (xb, .cells (vc (.agg #[.int .i64 x.f0, .bool x.f1, .int .i64 x.f2, .string x.f3, .slice A4 x.f4.length c4, .slice A5 x.f5.length c5])).toArray 27), (nb, .cells (vc (.agg (nodeL lm).toArray)).toArray 44), (jb, .cells (vc (.agg #[.slice (some ⟨bn, 0, none⟩) 1 1, .slice none 0 0])).toArray 64)])) l.length ⟨0, by simp, by omega, hF.pick [0, 6, 7, 8, 11, 12, 13] rfl, hH⟩ ?_
   clear hF hH
   rintro k a w ⟨i, q1, q2, hF, hH⟩ K hK
   repeat (first | (refine is_list ?_; refine s_pe hF J J J J ?_; clear hF; intro a hF) | refine c_seq (fun K hK => ?_) | refine wp_region_lit ?_ | (refine c_nilK hK ?_; clear hK))
   by_cases hi : i < l.length
   ·refine c_true hF (cb (lt_t (by omega))) ?_
    have hl : l[i]? = some (l[i]) := List.getElem?_eq_getElem hi
    have hr := hp.rng _ (List.getElem_mem hi)
    generalize l[i] = q at hl hr
    obtain ⟨q, rfl⟩ : ∃ m : Nat, q = (m : Int) := ⟨q.toNat, by omega⟩
    have hget := hp.get g cap cur rfl i _ hl
    have hq4 : q < x.f4.length := by omega
    have hq5 : q < x.f5.length := by omega
    obtain ⟨nb2, nj, hA4, halln⟩ := C_plain (⟨#[]⟩ : ByteArray) g4 rfl (by decide) (by omega)
    obtain ⟨csn, hKn, _, hOn⟩ := halln q hq4
    have hcsn : csn = [.string (x.f4.getD q ⟨#[]⟩)] := hKn
    rw [hcsn] at hOn
    have hcell := hOn 0 _ rfl
    rw [Nat.add_zero] at hcell
    generalize x.f4.getD q ⟨#[]⟩ = t at hcell
    obtain ⟨bbx, jjx, hA5, hallx⟩ := C_plain z27 g5 rfl (by decide) (by omega)
    obtain ⟨csx, hKx, _, hOx⟩ := hallx q hq5
    have hmx := getD_mem z27 hq5
    generalize x.f5.getD q z27 = z at hKx hmx
    obtain ⟨E4, f4, E5, f5, hcsx, _⟩ := k27_open hKx
    rw [hcsx] at hKx hOx
    rw [hA4, hA5] at hH
    repeat (first | (refine is_list ?_; first | (refine s_pe hF J J J J ?_; clear hF; intro a hF) | (refine is_load ?_; refine s_ld 2 hF hH J J J J J J J ?_; clear hF; intro a hF)) | (refine is_draw ?_; first | (refine d_pe hF J J J J J J ?_; clear hF; intro a hF) | (refine is_dload rfl ?_; (first | refine d_ld 1 hF hS J J J J J J J J ?_ | refine d_lda 2 hF hS J J J J J J J J ?_ | refine d_lda 3 hF hS J J J J J J J J ?_); clear hF; intro a hF) | (refine is_dcall rfl ?_; refine d_call hF hH hS J J J J J J (jMember_ok bn lm t z _ _ _ _ _) ?_; clear hF hH hS; intro a w r hr hF hH hS) | ((first | refine d_ix hF J J J J J J (Nat.ble_eq_true_of_le hi) rfl ?_ | refine d_ix hF J J J J J J (Nat.ble_eq_true_of_le hq4) rfl ?_ | refine d_ix hF J J J J J J (Nat.ble_eq_true_of_le hq5) rfl ?_ | refine d_ld 0 hF hS J J J J J (by rw [Nat.zero_add, Nat.mul_one]; exact hget) J J ?_ | refine d_ldAt hcell hF hS J J J J J J ?_ | refine d_ldaAt hOx hF hS J J J J J J J ?_); clear hF; intro a hF)) | (refine c_dnilK hK ?_; clear hS hK) | refine c_seq (fun K hK => ?_) | refine wp_region_lit ?_ | (refine c_nilK hK ?_; clear hK) | refine c_false hF rfl ?_ | (refine is_region ?_; first | (refine is_region (id := 6) ?_; refine c_drawn [] [0, 1, 2, 3, 4, 5, 6, 7, 8] hH (by kernel_rfl) (by repeat (first | refine pan_then ?_ | refine pan_block ?_ | exact hpan)) ?_; clear hH; intro w hH; have hS := hH) | (refine is_region (id := 10) ?_; refine c_drawn [] [0, 1, 2, 3, 4, 5, 6, 7, 8, 9, 10, 11, 12, 13, 14, 15, 16, 17] hH (by kernel_rfl) (by repeat (first | refine pan_then ?_ | refine pan_block ?_ | exact hpan)) ?_; clear hH; intro w hH; have hS := hH)) | refine wp_block ?_ | refine wp_skip ?_ | refine e_bnormal ?_ | (refine e_thenK hK ?_; clear hK))
    have hc : IntKind.i64.wrap ((i : Int) + 1) = ((i + 1 : Nat) : Int) := wrapN (by omega)
    rw [hc] at hF
    rw [← hA4, ← hA5] at hH
    first
     | exact e_then (hK (l.length - (i + 1)) _ _ (by omega) ⟨i + 1, rfl, by omega, hF.pick [0, 6, 7, 8, 11, 12, 13] rfl, hH⟩)
     | exact c_nil (hK (l.length - (i + 1)) _ _ (by omega) ⟨i + 1, rfl, by omega, hF.pick [0, 6, 7, 8, 11, 12, 13] rfl, hH⟩)
   ·refine c_false hF (cb (lt_f (by omega))) ?_
    clear q1 q2 hi
    repeat (first | (refine is_list ?_; refine s_pe hF J J J J ?_; clear hF; intro a hF) | refine c_seq (fun K hK => ?_) | refine wp_region_lit ?_ | (refine c_nilK hK ?_; clear hK) | refine wp_block ?_ | refine wp_loop_rounds 2 (c_roundK 1 (fun K hK => ?_)) | refine wp_exit ?_ | (refine e_exit ?_; clear hK) | refine e_bexit rfl ?_ | (refine e_thenK hK ?_; clear hK))
    by_cases hn : 0 < l.length
    ·rw [show decide ((0 : Int) < ((l.length : Nat) : Int)) = true from decide_eq_true (by omega)] at hF
     repeat (first | (refine is_list ?_; first | (refine s_pe hF J J J J ?_; clear hF; intro a hF) | (refine is_load ?_; refine s_ld 2 hF hH J J J J J J J ?_; clear hF; intro a hF)) | refine c_seq (fun K hK => ?_) | refine wp_region_lit ?_ | (refine c_nilK hK ?_; clear hK) | refine c_false hF rfl ?_ | refine wp_exit ?_ | refine wp_ret ?_ | (refine e_exit ?_; clear hK) | refine e_bexit rfl ?_ | (refine e_thenK hK ?_; clear hK))
     exact hret _ _ (c_ret1 hF J J ⟨(), trivial, rfl, hH.mid 0 4⟩)
    ·rw [show decide ((0 : Int) < ((l.length : Nat) : Int)) = false from decide_eq_false (by omega)] at hF
     repeat (first | (refine is_list ?_; (first | refine s_pe hF J J J J ?_ | refine x_off hF J J J ?_); clear hF; intro a hF) | refine c_seq (fun K hK => ?_) | refine wp_region_lit ?_ | (refine c_nilK hK ?_; clear hK) | refine c_false hF rfl ?_ | refine wp_exit ?_ | refine wp_ret ?_ | (refine e_exit ?_; clear hK) | refine e_bexit rfl ?_ | (refine e_thenK hK ?_; clear hK))
     exact hret _ _ (c_ret1 hF J J ⟨(), trivial, rfl, hH.mid 0 4⟩)
end Go.Proofs.YtlkikblohnnlcaaGreatDoor.Y
end
section
namespace Go.Proofs.YtlkikblohnnlcaaGreatDoor.Y
open Go Go.RowKit X R Go.Proofs.YtlkikblohnnlcaaGreatDoorW.PrintWords
set_option linter.unusedVariables false
set_option maxRecDepth 4000
attribute [local irreducible] wpList dL Code.wp bodyPost Ct Calls Exit.then Exit.inBlock Code.rounds
set_option maxHeartbeats 0
def judge (lm : Lm) (x : S27) : Bool := if x.f0 = 3 then bd ((U.nc x.f3 x.f3.size 0 : Nat)) lm.t1 lm.n1 lm.t2 lm.n2 else if x.f0 = 4 then bd ((x.f5.length : Nat)) lm.t3 lm.n3 lm.t4 lm.n4 else if x.f0 = 5 then bd (((U.dd x.f4).length : Nat)) lm.t5 lm.n5 lm.t6 lm.n6 else true
theorem judge3 {lm : Lm} {x : S27} (h : x.f0 = 3) : judge lm x = bd ((U.nc x.f3 x.f3.size 0 : Nat)) lm.t1 lm.n1 lm.t2 lm.n2 := if_pos h
theorem judge4 {lm : Lm} {x : S27} (h : x.f0 = 4) : judge lm x = bd ((x.f5.length : Nat)) lm.t3 lm.n3 lm.t4 lm.n4 := by
 unfold judge
 rw [if_neg (by omega), if_pos h]
theorem judge5 {lm : Lm} {x : S27} (h : x.f0 = 5) : judge lm x = bd (((U.dd x.f4).length : Nat)) lm.t5 lm.n5 lm.t6 lm.n6 := by
 unfold judge
 rw [if_neg (by omega), if_neg (by omega), if_pos h]
theorem judge0 {lm : Lm} {x : S27} (h3 : ¬ x.f0 = 3) (h4 : ¬ x.f0 = 4) (h5 : ¬ x.f0 = 5) : judge lm x = true := by
 unfold judge
 rw [if_neg h3, if_neg h4, if_neg h5]
theorem jJudge_ok (bn : Nat) (lm : Lm) (x : S27) (A4 A5 : Option Addr) (c4 c5 : Nat) (hx : Gd x) (w0 : World) (hN : Old w0 bn (nodeL lm)) (hX : k27.K w0 x [.int .i64 x.f0, .bool x.f1, .int .i64 x.f2, .string x.f3, .slice A4 x.f4.length c4, .slice A5 x.f5.length c5]) :
  Ct 18 [.int .i64 2020, .agg #[.slice (some ⟨bn, 0, none⟩) 1 1, .slice none 0 0], .int .i64 1, .agg #[.int .i64 x.f0, .bool x.f1, .int .i64 x.f2, .string x.f3, .slice A4 x.f4.length c4, .slice A5 x.f5.length c5]] w0 (fun p : Nat => .tuple #[.bool (judge lm x), .slice (some ⟨p, 0, none⟩) x.f5.length x.f5.length]) (fun _ => []) (fun _ => True) := by
 obtain ⟨A4', c4', A5', c5', he, l4, g4, l5, g5⟩ := k27_open hX
 simp only [List.cons.injEq, Value.slice.injEq, and_true, true_and] at he
 obtain ⟨⟨rfl, rfl⟩, rfl, rfl⟩ := he
 have hz5 := hx.sz.l5
 have hz3 := hx.sz.t3
 unfold Ct
 refine c_enter (n := 108) (L := [(3, .agg #[.int .i64 x.f0, .bool x.f1, .int .i64 x.f2, .string x.f3, .slice A4 x.f4.length c4, .slice A5 x.f5.length c5]), (2, .int .i64 1), (1, .agg #[.slice (some ⟨bn, 0, none⟩) 1 1, .slice none 0 0]), (0, .int .i64 2020)]) Tryz.func18 J J J J ?_
 intro a hF
 have hH := Hp.start w0
 refine c_open (fun Q hpan hret hnorm => ?_)
 refine c_seq (fun K hK => ?_)
 refine wp_region_lit ?_
 refine s_bx hF hH J J J J ?_; clear hF hH; intro a jb w hF hH
 refine s_bx hF hH J J J J ?_; clear hF hH; intro a xb w hF hH
 repeat (first | (refine is_list ?_; first | (refine s_pe hF J J J J ?_; clear hF; intro a hF) | (refine is_load ?_; (first | refine s_ld 1 hF hH J J J J J J J ?_ | refine s_ldao hN hF hH J J J J J J ?_); clear hF; intro a hF) | (refine s_ix hF J J J J J J J ?_; clear hF; intro a hF) | (refine s_al hF hH J J J J ?_; clear hF hH; intro a nb w hF hH) | (refine s_sta 0 hF hH J J J J J J J J J J ?_; clear hH; intro w hH)) | refine c_seq (fun K hK => ?_) | refine wp_region_lit ?_ | (refine c_nilK hK ?_; clear hK))
 refine s_mk (t := 4) hF hH J J J J J J J J (Nat.le_refl _) (by omega) (by omega) ?_
 clear hF hH; intro a mb w hF hH
 rw [made_bool] at hH
 repeat (first | (refine is_list ?_; first | (refine s_pe hF J J J J ?_; clear hF; intro a hF) | (refine is_load ?_; (first | refine s_ld 1 hF hH J J J J J J J ?_ | refine s_ld 2 hF hH J J J J J J J ?_ | refine s_lda 1 hF hH J J J J J J J ?_ | refine s_lda 2 hF hH J J J J J J J ?_ | refine s_lda 3 hF hH J J J J J J J ?_); clear hF; intro a hF) | (refine is_call ?_; (first | refine s_call hF hH J J J J J (jValues_ok lm x A4 A5 c4 c5 _) ?_ | refine s_call hF hH J J J J J (jInPlace_ok bn lm x A4 A5 c4 c5 mb _ _ _) ?_); clear hF hH; intro a w r hr hF hH)) | refine c_seq (fun K hK => ?_) | refine wp_region_lit ?_ | (refine c_nilK hK ?_; clear hK) | refine c_false hF rfl ?_ | refine wp_block ?_ | refine wp_skip ?_ | (refine e_thenK hK ?_; clear hK))
 refine c_false hF (cb (ieq_f hx.two)) ?_
 repeat (first | (refine is_list ?_; refine s_pe hF J J J J ?_; clear hF; intro a hF) | refine c_seq (fun K hK => ?_) | refine wp_region_lit ?_ | (refine c_nilK hK ?_; clear hK))
 by_cases h3 : x.f0 = 3
 ·refine c_true hF (cb (ieq_t h3)) ?_
  rw [judge3 h3] at hret hnorm
  repeat (first | (refine is_draw ?_; first | (refine d_pe hF J J J J J J ?_; clear hF; intro a hF) | (refine is_dload rfl ?_; (first | refine d_ld 2 hF hS J J J J J J J J ?_ | refine d_lda 1 hF hS J J J J J J J J ?_); clear hF; intro a hF) | (refine is_dcall rfl ?_; (first | refine d_call hF hH hS J J J J J J (c34 x.f3 hz3 _) ?_ | refine d_call hF hH hS J J J J J J (c33 _ _ _ _ _ _) ?_); clear hF hH hS; intro a w r hr hF hH hS)) | (refine is_region ?_; refine is_region (id := 12) ?_; refine c_drawn [] [0, 1, 2, 3, 5, 6, 7, 8, 4, 9, 10, 11, 12, 13, 14, 15, 16, 17, 18, 19, 20, 21, 22, 23, 24, 25] hH (by kernel_rfl) (by repeat (first | refine pan_then ?_ | refine pan_block ?_ | exact hpan)) ?_; clear hH; intro w hH; have hS := hH))
  generalize bd ((U.nc x.f3 x.f3.size 0 : Nat)) lm.t1 lm.n1 lm.t2 lm.n2 = B at hF hret hnorm
  cases B
  ·repeat (first | (refine is_list ?_; refine s_pe hF J J J J ?_; clear hF; intro a hF) | (refine is_draw ?_; first | (refine d_pe hF J J J J J J ?_; clear hF; intro a hF) | (refine is_dload rfl ?_; refine d_ld 2 hF hS J J J J J J J J ?_; clear hF; intro a hF) | (refine d_off hF rfl hS J J J ?_; clear hF; intro a hF) | (refine is_dcall rfl ?_; refine d_len hF hS J J J J J ?_; clear hF; intro a hF) | (refine d_mk hF hH hS J J J J J J J J J (Nat.le_refl _) (by omega) (by omega) ?_; clear hF hH hS; intro a b w hF hH hS)) | (refine c_dnilK hK ?_; clear hS hK) | (refine c_dnilB ?_; clear hS) | refine c_seq (fun K hK => ?_) | refine wp_region_lit ?_ | (refine c_nilK hK ?_; clear hK) | refine c_true hF rfl ?_ | (refine is_region ?_; refine is_region (id := 18) ?_; refine c_drawn [] [0, 1, 2, 4, 3, 5] hH (by kernel_rfl) (by repeat (first | refine pan_then ?_ | refine pan_block ?_ | exact hpan)) ?_; clear hH; intro w hH; have hS := hH) | refine wp_ret ?_ | ((first | refine e_ret ?_ | refine e_thenK hK ?_); clear hK))
   exact hret _ _ (c_ret2 hF J J J ⟨_, trivial, rfl, hH.mid 0 5⟩)
  ·repeat (first | (refine is_list ?_; refine s_pe hF J J J J ?_; clear hF; intro a hF) | (refine is_draw ?_; first | (refine d_pe hF J J J J J J ?_; clear hF; intro a hF) | (refine is_dload rfl ?_; (first | refine d_ld 2 hF hS J J J J J J J J ?_ | refine d_lda 1 hF hS J J J J J J J J ?_); clear hF; intro a hF) | (refine is_dcall rfl ?_; refine d_call hF hH hS J J J J J J (c35 x.f3 _) ?_; clear hF hH hS; intro a w r hr hF hH hS)) | (refine c_dnilB ?_; clear hS) | refine c_seq (fun K hK => ?_) | refine wp_region_lit ?_ | (refine c_nilK hK ?_; clear hK) | refine c_false hF rfl ?_ | refine wp_ret ?_ | refine wp_skip ?_ | (refine e_thenK hK ?_; clear hK))
   exact hret _ _ (c_ret2 hF J J J ⟨_, trivial, rfl, hH.mid 0 4⟩)
 refine c_false hF (cb (ieq_f h3)) ?_
 repeat (first | (refine is_list ?_; refine s_pe hF J J J J ?_; clear hF; intro a hF) | refine c_seq (fun K hK => ?_) | refine wp_region_lit ?_ | (refine c_nilK hK ?_; clear hK))
 by_cases h4 : x.f0 = 4
 ·refine c_true hF (cb (ieq_t h4)) ?_
  rw [judge4 h4] at hret hnorm
  repeat (first | (refine is_list ?_; first | (refine s_pe hF J J J J ?_; clear hF; intro a hF) | (refine is_load ?_; (first | refine s_lda 1 hF hH J J J J J J J ?_ | refine s_lda 2 hF hH J J J J J J J ?_ | refine s_lda 3 hF hH J J J J J J J ?_); clear hF; intro a hF) | (refine is_call ?_; refine s_callM hF J J J J J (jArray_ok bn lm x A4 A5 c4 c5 mb hx w0 w _ hX hH) ?_; rintro e w ⟨rfl, hH1⟩; refine ⟨_, rfl, ?_⟩; clear hF hH; intro a hF; have hH := hH1; clear hH1)) | refine wp_region_lit ?_)
  generalize bd ((x.f5.length : Nat)) lm.t3 lm.n3 lm.t4 lm.n4 = B at hF hret hnorm
  cases B
  ·repeat (first | (refine is_list ?_; (first | refine s_pe hF J J J J ?_ | refine x_off hF J J J ?_); clear hF; intro a hF) | (refine is_draw ?_; first | (refine d_pe hF J J J J J J ?_; clear hF; intro a hF) | (refine is_dload rfl ?_; refine d_ld 2 hF hS J J J J J J J J ?_; clear hF; intro a hF) | (refine is_dcall rfl ?_; refine d_len hF hS J J J J J ?_; clear hF; intro a hF) | (refine d_mk hF hH hS J J J J J J J J J (Nat.le_refl _) (by omega) (by omega) ?_; clear hF hH hS; intro a b w hF hH hS)) | (refine c_dnilK hK ?_; clear hS hK) | refine c_seq (fun K hK => ?_) | refine wp_region_lit ?_ | (refine c_nilK hK ?_; clear hK) | refine c_nilB ?_ | refine c_true hF rfl ?_ | (refine is_region ?_; refine is_region (id := 18) ?_; refine c_drawn [] [0, 1, 2, 4, 3, 5] hH (by kernel_rfl) (by repeat (first | refine pan_then ?_ | refine pan_block ?_ | exact hpan)) ?_; clear hH; intro w hH; have hS := hH) | refine wp_ret ?_ | ((first | refine e_ret ?_ | refine e_thenK hK ?_); clear hK))
   exact hret _ _ (c_ret2 hF J J J ⟨_, trivial, rfl, hH.mid 0 5⟩)
  ·repeat (first | (refine is_list ?_; refine s_pe hF J J J J ?_; clear hF; intro a hF) | refine c_seq (fun K hK => ?_) | refine wp_region_lit ?_ | (refine c_nilK hK ?_; clear hK) | refine c_nilB ?_ | refine c_false hF rfl ?_ | refine wp_ret ?_ | refine wp_skip ?_ | (refine e_thenK hK ?_; clear hK))
   exact hret _ _ (c_ret2 hF J J J ⟨_, trivial, rfl, hH.mid 0 4⟩)
 refine c_false hF (cb (ieq_f h4)) ?_
 repeat (first | (refine is_list ?_; refine s_pe hF J J J J ?_; clear hF; intro a hF) | refine c_seq (fun K hK => ?_) | refine wp_region_lit ?_ | (refine c_nilK hK ?_; clear hK))
 by_cases h5 : x.f0 = 5
 ·refine c_true hF (cb (ieq_t h5)) ?_
  rw [judge5 h5] at hret hnorm
  repeat (first | (refine is_list ?_; first | (refine s_pe hF J J J J ?_; clear hF; intro a hF) | (refine is_load ?_; (first | refine s_lda 1 hF hH J J J J J J J ?_ | refine s_lda 2 hF hH J J J J J J J ?_ | refine s_lda 3 hF hH J J J J J J J ?_); clear hF; intro a hF) | (refine is_call ?_; refine s_call hF hH J J J J J (jObject_ok bn lm x A4 A5 c4 c5 mb _ _ hx h5 _ (k27.K_below hH.below hX)) ?_; clear hF hH; intro a w r hr hF hH)) | refine wp_region_lit ?_)
  generalize bd (((U.dd x.f4).length : Nat)) lm.t5 lm.n5 lm.t6 lm.n6 = B at hF hret hnorm
  cases B
  ·repeat (first | (refine is_list ?_; (first | refine s_pe hF J J J J ?_ | refine x_off hF J J J ?_); clear hF; intro a hF) | (refine is_draw ?_; first | (refine d_pe hF J J J J J J ?_; clear hF; intro a hF) | (refine is_dload rfl ?_; refine d_ld 2 hF hS J J J J J J J J ?_; clear hF; intro a hF) | (refine is_dcall rfl ?_; refine d_len hF hS J J J J J ?_; clear hF; intro a hF) | (refine d_mk hF hH hS J J J J J J J J J (Nat.le_refl _) (by omega) (by omega) ?_; clear hF hH hS; intro a b w hF hH hS)) | (refine c_dnilK hK ?_; clear hS hK) | refine c_seq (fun K hK => ?_) | refine wp_region_lit ?_ | (refine c_nilK hK ?_; clear hK) | refine c_nilB ?_ | refine c_true hF rfl ?_ | (refine is_region ?_; refine is_region (id := 18) ?_; refine c_drawn [] [0, 1, 2, 4, 3, 5] hH (by kernel_rfl) (by repeat (first | refine pan_then ?_ | refine pan_block ?_ | exact hpan)) ?_; clear hH; intro w hH; have hS := hH) | refine wp_ret ?_ | ((first | refine e_ret ?_ | refine e_thenK hK ?_); clear hK))
   exact hret _ _ (c_ret2 hF J J J ⟨_, trivial, rfl, hH.mid 0 5⟩)
  ·repeat (first | (refine is_list ?_; refine s_pe hF J J J J ?_; clear hF; intro a hF) | refine c_seq (fun K hK => ?_) | refine wp_region_lit ?_ | (refine c_nilK hK ?_; clear hK) | refine c_nilB ?_ | refine c_false hF rfl ?_ | refine wp_ret ?_ | refine wp_skip ?_ | (refine e_thenK hK ?_; clear hK))
   exact hret _ _ (c_ret2 hF J J J ⟨_, trivial, rfl, hH.mid 0 4⟩)
 refine c_false hF (cb (ieq_f h5)) ?_
 rw [judge0 h3 h4 h5] at hret hnorm
 repeat (first | (refine is_list ?_; refine s_pe hF J J J J ?_; clear hF; intro a hF) | refine c_seq (fun K hK => ?_) | refine wp_region_lit ?_ | (refine c_nilK hK ?_; clear hK) | refine c_false hF rfl ?_ | refine wp_ret ?_ | refine wp_skip ?_ | refine e_bnormal ?_ | (refine e_thenK hK ?_; clear hK))
 exact hret _ _ (c_ret2 hF J J J ⟨_, trivial, rfl, hH.mid 0 4⟩)
end Go.Proofs.YtlkikblohnnlcaaGreatDoor.Y
end
section
namespace Go.Proofs.YtlkikblohnnlcaaGreatDoor.Y
open Go Go.RowKit X R Go.Proofs.YtlkikblohnnlcaaGreatDoorW.PrintWords
set_option linter.unusedVariables false
set_option maxRecDepth 4000
attribute [local irreducible] wpList dL Code.wp bodyPost Ct Calls Exit.then Exit.inBlock Code.rounds
set_option maxHeartbeats 0
theorem jKeyword_MinItems  (w0 : World) : Ct 77 [.string ⟨#[77, 105, 110, 73, 116, 101, 109, 115]⟩] w0 (fun _ : Unit => .string ⟨#[109, 105, 110, 73, 116, 101, 109, 115]⟩) (fun _ => []) (fun _ => True) := by
 unfold Ct
 refine c_enter (n := 19) (L := [(0, .string ⟨#[77, 105, 110, 73, 116, 101, 109, 115]⟩)]) Tryz.func77 J J J J ?_
 intro a hF
 have hH := Hp.start w0
 refine c_open (fun Q hpan hret hnorm => ?_)
 repeat (first | (refine is_list ?_; refine s_pe hF J J J J ?_; clear hF; intro a hF) | (refine is_draw ?_; (first | refine d_pe hF J J J J J J ?_ | refine d_pe2 hF J J J J J J ?_ | refine d_cv (T := 5) (T2 := 21) (.int .i32 109) hF hS J J J J (by kernel_rfl) rfl ?_ | refine d_cv (T := 21) (T2 := 9) (.string ⟨#[109]⟩) hF hS J J J J (by kernel_rfl) rfl ?_); clear hF; intro a hF) | (refine c_dnilK hK ?_; clear hS hK) | refine c_seq (fun K hK => ?_) | refine wp_region_lit ?_ | (refine c_nilK hK ?_; clear hK) | refine c_false hF rfl ?_ | (refine is_region ?_; refine is_region (id := 9) ?_; refine c_drawn [] [0, 1, 2, 5, 6, 3, 4, 7, 8] hH (by kernel_rfl) (by repeat (first | refine pan_then ?_ | refine pan_block ?_ | exact hpan)) ?_; clear hH; intro w hH; have hS := hH) | refine wp_block ?_ | refine wp_ret ?_ | refine wp_skip ?_ | refine e_bnormal ?_ | (refine e_thenK hK ?_; clear hK))
 exact hret _ _ (c_ret1 hF J J ⟨(), trivial, rfl, hH.mid 0 0⟩)
theorem jKeyword_MaxItems  (w0 : World) : Ct 77 [.string ⟨#[77, 97, 120, 73, 116, 101, 109, 115]⟩] w0 (fun _ : Unit => .string ⟨#[109, 97, 120, 73, 116, 101, 109, 115]⟩) (fun _ => []) (fun _ => True) := by
 unfold Ct
 refine c_enter (n := 19) (L := [(0, .string ⟨#[77, 97, 120, 73, 116, 101, 109, 115]⟩)]) Tryz.func77 J J J J ?_
 intro a hF
 have hH := Hp.start w0
 refine c_open (fun Q hpan hret hnorm => ?_)
 repeat (first | (refine is_list ?_; refine s_pe hF J J J J ?_; clear hF; intro a hF) | (refine is_draw ?_; (first | refine d_pe hF J J J J J J ?_ | refine d_pe2 hF J J J J J J ?_ | refine d_cv (T := 5) (T2 := 21) (.int .i32 109) hF hS J J J J (by kernel_rfl) rfl ?_ | refine d_cv (T := 21) (T2 := 9) (.string ⟨#[109]⟩) hF hS J J J J (by kernel_rfl) rfl ?_); clear hF; intro a hF) | (refine c_dnilK hK ?_; clear hS hK) | refine c_seq (fun K hK => ?_) | refine wp_region_lit ?_ | (refine c_nilK hK ?_; clear hK) | refine c_false hF rfl ?_ | (refine is_region ?_; refine is_region (id := 9) ?_; refine c_drawn [] [0, 1, 2, 5, 6, 3, 4, 7, 8] hH (by kernel_rfl) (by repeat (first | refine pan_then ?_ | refine pan_block ?_ | exact hpan)) ?_; clear hH; intro w hH; have hS := hH) | refine wp_block ?_ | refine wp_ret ?_ | refine wp_skip ?_ | refine e_bnormal ?_ | (refine e_thenK hK ?_; clear hK))
 exact hret _ _ (c_ret1 hF J J ⟨(), trivial, rfl, hH.mid 0 0⟩)
theorem jKeyword_MinLength  (w0 : World) : Ct 77 [.string ⟨#[77, 105, 110, 76, 101, 110, 103, 116, 104]⟩] w0 (fun _ : Unit => .string ⟨#[109, 105, 110, 76, 101, 110, 103, 116, 104]⟩) (fun _ => []) (fun _ => True) := by
 unfold Ct
 refine c_enter (n := 19) (L := [(0, .string ⟨#[77, 105, 110, 76, 101, 110, 103, 116, 104]⟩)]) Tryz.func77 J J J J ?_
 intro a hF
 have hH := Hp.start w0
 refine c_open (fun Q hpan hret hnorm => ?_)
 repeat (first | (refine is_list ?_; refine s_pe hF J J J J ?_; clear hF; intro a hF) | (refine is_draw ?_; (first | refine d_pe hF J J J J J J ?_ | refine d_pe2 hF J J J J J J ?_ | refine d_cv (T := 5) (T2 := 21) (.int .i32 109) hF hS J J J J (by kernel_rfl) rfl ?_ | refine d_cv (T := 21) (T2 := 9) (.string ⟨#[109]⟩) hF hS J J J J (by kernel_rfl) rfl ?_); clear hF; intro a hF) | (refine c_dnilK hK ?_; clear hS hK) | refine c_seq (fun K hK => ?_) | refine wp_region_lit ?_ | (refine c_nilK hK ?_; clear hK) | refine c_false hF rfl ?_ | (refine is_region ?_; refine is_region (id := 9) ?_; refine c_drawn [] [0, 1, 2, 5, 6, 3, 4, 7, 8] hH (by kernel_rfl) (by repeat (first | refine pan_then ?_ | refine pan_block ?_ | exact hpan)) ?_; clear hH; intro w hH; have hS := hH) | refine wp_block ?_ | refine wp_ret ?_ | refine wp_skip ?_ | refine e_bnormal ?_ | (refine e_thenK hK ?_; clear hK))
 exact hret _ _ (c_ret1 hF J J ⟨(), trivial, rfl, hH.mid 0 0⟩)
theorem jKeyword_MaxLength  (w0 : World) : Ct 77 [.string ⟨#[77, 97, 120, 76, 101, 110, 103, 116, 104]⟩] w0 (fun _ : Unit => .string ⟨#[109, 97, 120, 76, 101, 110, 103, 116, 104]⟩) (fun _ => []) (fun _ => True) := by
 unfold Ct
 refine c_enter (n := 19) (L := [(0, .string ⟨#[77, 97, 120, 76, 101, 110, 103, 116, 104]⟩)]) Tryz.func77 J J J J ?_
 intro a hF
 have hH := Hp.start w0
 refine c_open (fun Q hpan hret hnorm => ?_)
 repeat (first | (refine is_list ?_; refine s_pe hF J J J J ?_; clear hF; intro a hF) | (refine is_draw ?_; (first | refine d_pe hF J J J J J J ?_ | refine d_pe2 hF J J J J J J ?_ | refine d_cv (T := 5) (T2 := 21) (.int .i32 109) hF hS J J J J (by kernel_rfl) rfl ?_ | refine d_cv (T := 21) (T2 := 9) (.string ⟨#[109]⟩) hF hS J J J J (by kernel_rfl) rfl ?_); clear hF; intro a hF) | (refine c_dnilK hK ?_; clear hS hK) | refine c_seq (fun K hK => ?_) | refine wp_region_lit ?_ | (refine c_nilK hK ?_; clear hK) | refine c_false hF rfl ?_ | (refine is_region ?_; refine is_region (id := 9) ?_; refine c_drawn [] [0, 1, 2, 5, 6, 3, 4, 7, 8] hH (by kernel_rfl) (by repeat (first | refine pan_then ?_ | refine pan_block ?_ | exact hpan)) ?_; clear hH; intro w hH; have hS := hH) | refine wp_block ?_ | refine wp_ret ?_ | refine wp_skip ?_ | refine e_bnormal ?_ | (refine e_thenK hK ?_; clear hK))
 exact hret _ _ (c_ret1 hF J J ⟨(), trivial, rfl, hH.mid 0 0⟩)
theorem jKeyword_MinProperties  (w0 : World) : Ct 77 [.string ⟨#[77, 105, 110, 80, 114, 111, 112, 101, 114, 116, 105, 101, 115]⟩] w0 (fun _ : Unit => .string ⟨#[109, 105, 110, 80, 114, 111, 112, 101, 114, 116, 105, 101, 115]⟩) (fun _ => []) (fun _ => True) := by
 unfold Ct
 refine c_enter (n := 19) (L := [(0, .string ⟨#[77, 105, 110, 80, 114, 111, 112, 101, 114, 116, 105, 101, 115]⟩)]) Tryz.func77 J J J J ?_
 intro a hF
 have hH := Hp.start w0
 refine c_open (fun Q hpan hret hnorm => ?_)
 repeat (first | (refine is_list ?_; refine s_pe hF J J J J ?_; clear hF; intro a hF) | (refine is_draw ?_; (first | refine d_pe hF J J J J J J ?_ | refine d_pe2 hF J J J J J J ?_ | refine d_cv (T := 5) (T2 := 21) (.int .i32 109) hF hS J J J J (by kernel_rfl) rfl ?_ | refine d_cv (T := 21) (T2 := 9) (.string ⟨#[109]⟩) hF hS J J J J (by kernel_rfl) rfl ?_); clear hF; intro a hF) | (refine c_dnilK hK ?_; clear hS hK) | refine c_seq (fun K hK => ?_) | refine wp_region_lit ?_ | (refine c_nilK hK ?_; clear hK) | refine c_false hF rfl ?_ | (refine is_region ?_; refine is_region (id := 9) ?_; refine c_drawn [] [0, 1, 2, 5, 6, 3, 4, 7, 8] hH (by kernel_rfl) (by repeat (first | refine pan_then ?_ | refine pan_block ?_ | exact hpan)) ?_; clear hH; intro w hH; have hS := hH) | refine wp_block ?_ | refine wp_ret ?_ | refine wp_skip ?_ | refine e_bnormal ?_ | (refine e_thenK hK ?_; clear hK))
 exact hret _ _ (c_ret1 hF J J ⟨(), trivial, rfl, hH.mid 0 0⟩)
theorem jKeyword_MaxProperties  (w0 : World) : Ct 77 [.string ⟨#[77, 97, 120, 80, 114, 111, 112, 101, 114, 116, 105, 101, 115]⟩] w0 (fun _ : Unit => .string ⟨#[109, 97, 120, 80, 114, 111, 112, 101, 114, 116, 105, 101, 115]⟩) (fun _ => []) (fun _ => True) := by
 unfold Ct
 refine c_enter (n := 19) (L := [(0, .string ⟨#[77, 97, 120, 80, 114, 111, 112, 101, 114, 116, 105, 101, 115]⟩)]) Tryz.func77 J J J J ?_
 intro a hF
 have hH := Hp.start w0
 refine c_open (fun Q hpan hret hnorm => ?_)
 repeat (first | (refine is_list ?_; refine s_pe hF J J J J ?_; clear hF; intro a hF) | (refine is_draw ?_; (first | refine d_pe hF J J J J J J ?_ | refine d_pe2 hF J J J J J J ?_ | refine d_cv (T := 5) (T2 := 21) (.int .i32 109) hF hS J J J J (by kernel_rfl) rfl ?_ | refine d_cv (T := 21) (T2 := 9) (.string ⟨#[109]⟩) hF hS J J J J (by kernel_rfl) rfl ?_); clear hF; intro a hF) | (refine c_dnilK hK ?_; clear hS hK) | refine c_seq (fun K hK => ?_) | refine wp_region_lit ?_ | (refine c_nilK hK ?_; clear hK) | refine c_false hF rfl ?_ | (refine is_region ?_; refine is_region (id := 9) ?_; refine c_drawn [] [0, 1, 2, 5, 6, 3, 4, 7, 8] hH (by kernel_rfl) (by repeat (first | refine pan_then ?_ | refine pan_block ?_ | exact hpan)) ?_; clear hH; intro w hH; have hS := hH) | refine wp_block ?_ | refine wp_ret ?_ | refine wp_skip ?_ | refine e_bnormal ?_ | (refine e_thenK hK ?_; clear hK))
 exact hret _ _ (c_ret1 hF J J ⟨(), trivial, rfl, hH.mid 0 0⟩)
theorem jKeyword_Schema  (w0 : World) : Ct 77 [.string ⟨#[83, 99, 104, 101, 109, 97]⟩] w0 (fun _ : Unit => .string ⟨#[]⟩) (fun _ => []) (fun _ => True) := by
 unfold Ct
 refine c_enter (n := 19) (L := [(0, .string ⟨#[83, 99, 104, 101, 109, 97]⟩)]) Tryz.func77 J J J J ?_
 intro a hF
 have hH := Hp.start w0
 refine c_open (fun Q hpan hret hnorm => ?_)
 repeat (first | (refine is_list ?_; refine s_pe hF J J J J ?_; clear hF; intro a hF) | refine c_seq (fun K hK => ?_) | refine wp_region_lit ?_ | (refine c_nilK hK ?_; clear hK) | refine c_true hF rfl ?_ | refine c_false hF rfl ?_ | refine wp_block ?_ | refine wp_ret ?_ | refine wp_skip ?_ | (refine e_ret ?_; clear hK) | refine e_bret ?_ | (refine e_thenK hK ?_; clear hK))
 exact hret _ _ (c_ret1 hF J J ⟨(), trivial, rfl, hH.mid 0 0⟩)
theorem jKeyword_FalseSchema  (w0 : World) : Ct 77 [.string ⟨#[70, 97, 108, 115, 101, 83, 99, 104, 101, 109, 97]⟩] w0 (fun _ : Unit => .string ⟨#[]⟩) (fun _ => []) (fun _ => True) := by
 unfold Ct
 refine c_enter (n := 19) (L := [(0, .string ⟨#[70, 97, 108, 115, 101, 83, 99, 104, 101, 109, 97]⟩)]) Tryz.func77 J J J J ?_
 intro a hF
 have hH := Hp.start w0
 refine c_open (fun Q hpan hret hnorm => ?_)
 repeat (first | (refine is_list ?_; refine s_pe hF J J J J ?_; clear hF; intro a hF) | refine c_seq (fun K hK => ?_) | refine wp_region_lit ?_ | (refine c_nilK hK ?_; clear hK) | refine c_true hF rfl ?_ | refine c_false hF rfl ?_ | refine wp_block ?_ | refine wp_ret ?_ | refine wp_skip ?_ | (refine e_ret ?_; clear hK) | refine e_bret ?_ | (refine e_thenK hK ?_; clear hK))
 exact hret _ _ (c_ret1 hF J J ⟨(), trivial, rfl, hH.mid 0 0⟩)
theorem jPathRight_MinItems (pb pc ab eb : Nat) (Z : List Value) (w0 : World) (hP : Old w0 pb (.string ⟨#[109, 105, 110, 73, 116, 101, 109, 115]⟩ :: Z)) : Ct 39 [.agg #[.string ⟨#[49]⟩, .string ⟨#[77, 105, 110, 73, 116, 101, 109, 115]⟩, .slice (some ⟨pb, 0, none⟩) 1 pc, .slice (some ⟨ab, 0, none⟩) 0 0, .string ⟨#[]⟩, .slice none 0 0, .slice (some ⟨eb, 0, none⟩) 2 2, .slice none 0 0]] w0 (fun _ : Unit => .bool true) (fun _ => []) (fun _ => True) := by
 unfold Ct
 refine c_enter (n := 68) (L := [(0, .agg #[.string ⟨#[49]⟩, .string ⟨#[77, 105, 110, 73, 116, 101, 109, 115]⟩, .slice (some ⟨pb, 0, none⟩) 1 pc, .slice (some ⟨ab, 0, none⟩) 0 0, .string ⟨#[]⟩, .slice none 0 0, .slice (some ⟨eb, 0, none⟩) 2 2, .slice none 0 0])]) Tryz.func39 J J J J ?_
 intro a hF
 have hH := Hp.start w0
 refine c_open (fun Q hpan hret hnorm => ?_)
 repeat (first | (refine is_list ?_; first | (refine s_pe hF J J J J ?_; clear hF; intro a hF) | (refine is_load ?_; (first | refine s_ld 0 hF hH J J J J J J J ?_ | refine s_ldo hP hF hH J J J J J J ?_); clear hF; intro a hF) | (refine is_call ?_; refine s_call hF hH J J J J J (jKeyword_MinItems _) ?_; clear hF hH; intro a w r hr hF hH) | (refine s_ix hF J J J J J J J ?_; clear hF; intro a hF) | (refine s_bx hF hH J J J J ?_; clear hF hH; intro a b w hF hH)) | refine c_seq (fun K hK => ?_) | refine wp_region_lit ?_ | (refine c_nilK hK ?_; clear hK) | refine c_false hF rfl ?_ | refine wp_block ?_ | refine wp_ret ?_ | refine wp_skip ?_ | refine e_bnormal ?_ | (refine e_thenK hK ?_; clear hK))
 exact hret _ _ (c_ret1 hF J J ⟨(), trivial, rfl, hH.mid 0 1⟩)
theorem jPathRight_MaxItems (pb pc ab eb : Nat) (Z : List Value) (w0 : World) (hP : Old w0 pb (.string ⟨#[109, 97, 120, 73, 116, 101, 109, 115]⟩ :: Z)) : Ct 39 [.agg #[.string ⟨#[49]⟩, .string ⟨#[77, 97, 120, 73, 116, 101, 109, 115]⟩, .slice (some ⟨pb, 0, none⟩) 1 pc, .slice (some ⟨ab, 0, none⟩) 0 0, .string ⟨#[]⟩, .slice none 0 0, .slice (some ⟨eb, 0, none⟩) 2 2, .slice none 0 0]] w0 (fun _ : Unit => .bool true) (fun _ => []) (fun _ => True) := by
 unfold Ct
 refine c_enter (n := 68) (L := [(0, .agg #[.string ⟨#[49]⟩, .string ⟨#[77, 97, 120, 73, 116, 101, 109, 115]⟩, .slice (some ⟨pb, 0, none⟩) 1 pc, .slice (some ⟨ab, 0, none⟩) 0 0, .string ⟨#[]⟩, .slice none 0 0, .slice (some ⟨eb, 0, none⟩) 2 2, .slice none 0 0])]) Tryz.func39 J J J J ?_
 intro a hF
 have hH := Hp.start w0
 refine c_open (fun Q hpan hret hnorm => ?_)
 repeat (first | (refine is_list ?_; first | (refine s_pe hF J J J J ?_; clear hF; intro a hF) | (refine is_load ?_; (first | refine s_ld 0 hF hH J J J J J J J ?_ | refine s_ldo hP hF hH J J J J J J ?_); clear hF; intro a hF) | (refine is_call ?_; refine s_call hF hH J J J J J (jKeyword_MaxItems _) ?_; clear hF hH; intro a w r hr hF hH) | (refine s_ix hF J J J J J J J ?_; clear hF; intro a hF) | (refine s_bx hF hH J J J J ?_; clear hF hH; intro a b w hF hH)) | refine c_seq (fun K hK => ?_) | refine wp_region_lit ?_ | (refine c_nilK hK ?_; clear hK) | refine c_false hF rfl ?_ | refine wp_block ?_ | refine wp_ret ?_ | refine wp_skip ?_ | refine e_bnormal ?_ | (refine e_thenK hK ?_; clear hK))
 exact hret _ _ (c_ret1 hF J J ⟨(), trivial, rfl, hH.mid 0 1⟩)
theorem jPathRight_MinLength (pb pc ab eb : Nat) (Z : List Value) (w0 : World) (hP : Old w0 pb (.string ⟨#[109, 105, 110, 76, 101, 110, 103, 116, 104]⟩ :: Z)) : Ct 39 [.agg #[.string ⟨#[49]⟩, .string ⟨#[77, 105, 110, 76, 101, 110, 103, 116, 104]⟩, .slice (some ⟨pb, 0, none⟩) 1 pc, .slice (some ⟨ab, 0, none⟩) 0 0, .string ⟨#[]⟩, .slice none 0 0, .slice (some ⟨eb, 0, none⟩) 2 2, .slice none 0 0]] w0 (fun _ : Unit => .bool true) (fun _ => []) (fun _ => True) := by
 unfold Ct
 refine c_enter (n := 68) (L := [(0, .agg #[.string ⟨#[49]⟩, .string ⟨#[77, 105, 110, 76, 101, 110, 103, 116, 104]⟩, .slice (some ⟨pb, 0, none⟩) 1 pc, .slice (some ⟨ab, 0, none⟩) 0 0, .string ⟨#[]⟩, .slice none 0 0, .slice (some ⟨eb, 0, none⟩) 2 2, .slice none 0 0])]) Tryz.func39 J J J J ?_
 intro a hF
 have hH := Hp.start w0
 refine c_open (fun Q hpan hret hnorm => ?_)
 repeat (first | (refine is_list ?_; first | (refine s_pe hF J J J J ?_; clear hF; intro a hF) | (refine is_load ?_; (first | refine s_ld 0 hF hH J J J J J J J ?_ | refine s_ldo hP hF hH J J J J J J ?_); clear hF; intro a hF) | (refine is_call ?_; refine s_call hF hH J J J J J (jKeyword_MinLength _) ?_; clear hF hH; intro a w r hr hF hH) | (refine s_ix hF J J J J J J J ?_; clear hF; intro a hF) | (refine s_bx hF hH J J J J ?_; clear hF hH; intro a b w hF hH)) | refine c_seq (fun K hK => ?_) | refine wp_region_lit ?_ | (refine c_nilK hK ?_; clear hK) | refine c_false hF rfl ?_ | refine wp_block ?_ | refine wp_ret ?_ | refine wp_skip ?_ | refine e_bnormal ?_ | (refine e_thenK hK ?_; clear hK))
 exact hret _ _ (c_ret1 hF J J ⟨(), trivial, rfl, hH.mid 0 1⟩)
theorem jPathRight_MaxLength (pb pc ab eb : Nat) (Z : List Value) (w0 : World) (hP : Old w0 pb (.string ⟨#[109, 97, 120, 76, 101, 110, 103, 116, 104]⟩ :: Z)) : Ct 39 [.agg #[.string ⟨#[49]⟩, .string ⟨#[77, 97, 120, 76, 101, 110, 103, 116, 104]⟩, .slice (some ⟨pb, 0, none⟩) 1 pc, .slice (some ⟨ab, 0, none⟩) 0 0, .string ⟨#[]⟩, .slice none 0 0, .slice (some ⟨eb, 0, none⟩) 2 2, .slice none 0 0]] w0 (fun _ : Unit => .bool true) (fun _ => []) (fun _ => True) := by
 unfold Ct
 refine c_enter (n := 68) (L := [(0, .agg #[.string ⟨#[49]⟩, .string ⟨#[77, 97, 120, 76, 101, 110, 103, 116, 104]⟩, .slice (some ⟨pb, 0, none⟩) 1 pc, .slice (some ⟨ab, 0, none⟩) 0 0, .string ⟨#[]⟩, .slice none 0 0, .slice (some ⟨eb, 0, none⟩) 2 2, .slice none 0 0])]) Tryz.func39 J J J J ?_
 intro a hF
 have hH := Hp.start w0
 refine c_open (fun Q hpan hret hnorm => ?_)
 repeat (first | (refine is_list ?_; first | (refine s_pe hF J J J J ?_; clear hF; intro a hF) | (refine is_load ?_; (first | refine s_ld 0 hF hH J J J J J J J ?_ | refine s_ldo hP hF hH J J J J J J ?_); clear hF; intro a hF) | (refine is_call ?_; refine s_call hF hH J J J J J (jKeyword_MaxLength _) ?_; clear hF hH; intro a w r hr hF hH) | (refine s_ix hF J J J J J J J ?_; clear hF; intro a hF) | (refine s_bx hF hH J J J J ?_; clear hF hH; intro a b w hF hH)) | refine c_seq (fun K hK => ?_) | refine wp_region_lit ?_ | (refine c_nilK hK ?_; clear hK) | refine c_false hF rfl ?_ | refine wp_block ?_ | refine wp_ret ?_ | refine wp_skip ?_ | refine e_bnormal ?_ | (refine e_thenK hK ?_; clear hK))
 exact hret _ _ (c_ret1 hF J J ⟨(), trivial, rfl, hH.mid 0 1⟩)
theorem jPathRight_MinProperties (pb pc ab eb : Nat) (Z : List Value) (w0 : World) (hP : Old w0 pb (.string ⟨#[109, 105, 110, 80, 114, 111, 112, 101, 114, 116, 105, 101, 115]⟩ :: Z)) : Ct 39 [.agg #[.string ⟨#[49]⟩, .string ⟨#[77, 105, 110, 80, 114, 111, 112, 101, 114, 116, 105, 101, 115]⟩, .slice (some ⟨pb, 0, none⟩) 1 pc, .slice (some ⟨ab, 0, none⟩) 0 0, .string ⟨#[]⟩, .slice none 0 0, .slice (some ⟨eb, 0, none⟩) 2 2, .slice none 0 0]] w0 (fun _ : Unit => .bool true) (fun _ => []) (fun _ => True) := by
 unfold Ct
 refine c_enter (n := 68) (L := [(0, .agg #[.string ⟨#[49]⟩, .string ⟨#[77, 105, 110, 80, 114, 111, 112, 101, 114, 116, 105, 101, 115]⟩, .slice (some ⟨pb, 0, none⟩) 1 pc, .slice (some ⟨ab, 0, none⟩) 0 0, .string ⟨#[]⟩, .slice none 0 0, .slice (some ⟨eb, 0, none⟩) 2 2, .slice none 0 0])]) Tryz.func39 J J J J ?_
 intro a hF
 have hH := Hp.start w0
 refine c_open (fun Q hpan hret hnorm => ?_)
 repeat (first | (refine is_list ?_; first | (refine s_pe hF J J J J ?_; clear hF; intro a hF) | (refine is_load ?_; (first | refine s_ld 0 hF hH J J J J J J J ?_ | refine s_ldo hP hF hH J J J J J J ?_); clear hF; intro a hF) | (refine is_call ?_; refine s_call hF hH J J J J J (jKeyword_MinProperties _) ?_; clear hF hH; intro a w r hr hF hH) | (refine s_ix hF J J J J J J J ?_; clear hF; intro a hF) | (refine s_bx hF hH J J J J ?_; clear hF hH; intro a b w hF hH)) | refine c_seq (fun K hK => ?_) | refine wp_region_lit ?_ | (refine c_nilK hK ?_; clear hK) | refine c_false hF rfl ?_ | refine wp_block ?_ | refine wp_ret ?_ | refine wp_skip ?_ | refine e_bnormal ?_ | (refine e_thenK hK ?_; clear hK))
 exact hret _ _ (c_ret1 hF J J ⟨(), trivial, rfl, hH.mid 0 1⟩)
theorem jPathRight_MaxProperties (pb pc ab eb : Nat) (Z : List Value) (w0 : World) (hP : Old w0 pb (.string ⟨#[109, 97, 120, 80, 114, 111, 112, 101, 114, 116, 105, 101, 115]⟩ :: Z)) : Ct 39 [.agg #[.string ⟨#[49]⟩, .string ⟨#[77, 97, 120, 80, 114, 111, 112, 101, 114, 116, 105, 101, 115]⟩, .slice (some ⟨pb, 0, none⟩) 1 pc, .slice (some ⟨ab, 0, none⟩) 0 0, .string ⟨#[]⟩, .slice none 0 0, .slice (some ⟨eb, 0, none⟩) 2 2, .slice none 0 0]] w0 (fun _ : Unit => .bool true) (fun _ => []) (fun _ => True) := by
 unfold Ct
 refine c_enter (n := 68) (L := [(0, .agg #[.string ⟨#[49]⟩, .string ⟨#[77, 97, 120, 80, 114, 111, 112, 101, 114, 116, 105, 101, 115]⟩, .slice (some ⟨pb, 0, none⟩) 1 pc, .slice (some ⟨ab, 0, none⟩) 0 0, .string ⟨#[]⟩, .slice none 0 0, .slice (some ⟨eb, 0, none⟩) 2 2, .slice none 0 0])]) Tryz.func39 J J J J ?_
 intro a hF
 have hH := Hp.start w0
 refine c_open (fun Q hpan hret hnorm => ?_)
 repeat (first | (refine is_list ?_; first | (refine s_pe hF J J J J ?_; clear hF; intro a hF) | (refine is_load ?_; (first | refine s_ld 0 hF hH J J J J J J J ?_ | refine s_ldo hP hF hH J J J J J J ?_); clear hF; intro a hF) | (refine is_call ?_; refine s_call hF hH J J J J J (jKeyword_MaxProperties _) ?_; clear hF hH; intro a w r hr hF hH) | (refine s_ix hF J J J J J J J ?_; clear hF; intro a hF) | (refine s_bx hF hH J J J J ?_; clear hF hH; intro a b w hF hH)) | refine c_seq (fun K hK => ?_) | refine wp_region_lit ?_ | (refine c_nilK hK ?_; clear hK) | refine c_false hF rfl ?_ | refine wp_block ?_ | refine wp_ret ?_ | refine wp_skip ?_ | refine e_bnormal ?_ | (refine e_thenK hK ?_; clear hK))
 exact hret _ _ (c_ret1 hF J J ⟨(), trivial, rfl, hH.mid 0 1⟩)
theorem jPathRight_Schema (pb ab kb kc : Nat) (w0 : World) : Ct 39 [.agg #[.string ⟨#[49]⟩, .string ⟨#[83, 99, 104, 101, 109, 97]⟩, .slice (some ⟨pb, 0, none⟩) 0 0, .slice (some ⟨ab, 0, none⟩) 0 0, .string ⟨#[]⟩, .slice none 0 0, .slice none 0 0, .slice (some ⟨kb, 0, none⟩) 1 kc]] w0 (fun _ : Unit => .bool true) (fun _ => []) (fun _ => True) := by
 unfold Ct
 refine c_enter (n := 68) (L := [(0, .agg #[.string ⟨#[49]⟩, .string ⟨#[83, 99, 104, 101, 109, 97]⟩, .slice (some ⟨pb, 0, none⟩) 0 0, .slice (some ⟨ab, 0, none⟩) 0 0, .string ⟨#[]⟩, .slice none 0 0, .slice none 0 0, .slice (some ⟨kb, 0, none⟩) 1 kc])]) Tryz.func39 J J J J ?_
 intro a hF
 have hH := Hp.start w0
 refine c_open (fun Q hpan hret hnorm => ?_)
 repeat (first | (refine is_list ?_; first | (refine s_pe hF J J J J ?_; clear hF; intro a hF) | (refine is_load ?_; refine s_ld 0 hF hH J J J J J J J ?_; clear hF; intro a hF) | (refine is_call ?_; refine s_call hF hH J J J J J (jKeyword_Schema _) ?_; clear hF hH; intro a w r hr hF hH) | (refine s_bx hF hH J J J J ?_; clear hF hH; intro a b w hF hH)) | refine c_seq (fun K hK => ?_) | refine wp_region_lit ?_ | (refine c_nilK hK ?_; clear hK) | refine c_true hF rfl ?_ | refine c_false hF rfl ?_ | refine wp_block ?_ | refine wp_ret ?_ | refine wp_skip ?_ | (refine e_ret ?_; clear hK) | refine e_bnormal ?_ | (refine e_thenK hK ?_; clear hK))
 exact hret _ _ (c_ret1 hF J J ⟨(), trivial, rfl, hH.mid 0 1⟩)
theorem jPathRight_FalseSchema (pb ab : Nat) (w0 : World) : Ct 39 [.agg #[.string ⟨#[49]⟩, .string ⟨#[70, 97, 108, 115, 101, 83, 99, 104, 101, 109, 97]⟩, .slice (some ⟨pb, 0, none⟩) 0 0, .slice (some ⟨ab, 0, none⟩) 0 0, .string ⟨#[]⟩, .slice none 0 0, .slice none 0 0, .slice none 0 0]] w0 (fun _ : Unit => .bool true) (fun _ => []) (fun _ => True) := by
 unfold Ct
 refine c_enter (n := 68) (L := [(0, .agg #[.string ⟨#[49]⟩, .string ⟨#[70, 97, 108, 115, 101, 83, 99, 104, 101, 109, 97]⟩, .slice (some ⟨pb, 0, none⟩) 0 0, .slice (some ⟨ab, 0, none⟩) 0 0, .string ⟨#[]⟩, .slice none 0 0, .slice none 0 0, .slice none 0 0])]) Tryz.func39 J J J J ?_
 intro a hF
 have hH := Hp.start w0
 refine c_open (fun Q hpan hret hnorm => ?_)
 repeat (first | (refine is_list ?_; first | (refine s_pe hF J J J J ?_; clear hF; intro a hF) | (refine is_load ?_; refine s_ld 0 hF hH J J J J J J J ?_; clear hF; intro a hF) | (refine is_call ?_; refine s_call hF hH J J J J J (jKeyword_FalseSchema _) ?_; clear hF hH; intro a w r hr hF hH) | (refine s_bx hF hH J J J J ?_; clear hF hH; intro a b w hF hH)) | refine c_seq (fun K hK => ?_) | refine wp_region_lit ?_ | (refine c_nilK hK ?_; clear hK) | refine c_true hF rfl ?_ | refine c_false hF rfl ?_ | refine wp_block ?_ | refine wp_ret ?_ | refine wp_skip ?_ | (refine e_ret ?_; clear hK) | refine e_bnormal ?_ | (refine e_thenK hK ?_; clear hK))
 exact hret _ _ (c_ret1 hF J J ⟨(), trivial, rfl, hH.mid 0 1⟩)
theorem jInside_ok (x : S27) (A4 A5 : Option Addr) (c4 c5 : Nat) (ab : Nat) (w0 : World) : Ct 76 [.agg #[.int .i64 x.f0, .bool x.f1, .int .i64 x.f2, .string x.f3, .slice A4 x.f4.length c4, .slice A5 x.f5.length c5], .slice (some ⟨ab, 0, none⟩) 0 0] w0 (fun _ : Unit => .bool true) (fun _ => []) (fun _ => True) := by
 unfold Ct
 refine c_enter (n := 57) (L := [(1, .slice (some ⟨ab, 0, none⟩) 0 0), (0, .agg #[.int .i64 x.f0, .bool x.f1, .int .i64 x.f2, .string x.f3, .slice A4 x.f4.length c4, .slice A5 x.f5.length c5])]) Tryz.func76 J J J J ?_
 intro a hF
 have hH := Hp.start w0
 refine c_open (fun Q hpan hret hnorm => ?_)
 repeat (first | (refine is_list ?_; first | (refine s_pe hF J J J J ?_; clear hF; intro a hF) | (refine s_bx hF hH J J J J ?_; clear hF hH; intro a b w hF hH)) | refine c_seq (fun K hK => ?_) | refine wp_region_lit ?_ | (refine c_nilK hK ?_; clear hK) | refine c_false hF rfl ?_ | refine wp_block ?_ | refine wp_loop_rounds 2 (c_roundK 1 (fun K hK => ?_)) | refine wp_exit ?_ | refine wp_ret ?_ | (refine e_exit ?_; clear hK) | refine e_bexit rfl ?_ | (refine e_thenK hK ?_; clear hK))
 exact hret _ _ (c_ret1 hF J J ⟨(), trivial, rfl, hH.mid 0 1⟩)
theorem jPart_ok (x : S27) (A4 A5 : Option Addr) (c4 c5 : Nat) (ab : Nat) (w0 : World) : Ct 38 [.agg #[.int .i64 x.f0, .bool x.f1, .int .i64 x.f2, .string x.f3, .slice A4 x.f4.length c4, .slice A5 x.f5.length c5], .slice (some ⟨ab, 0, none⟩) 0 0] w0 (fun _ : Unit => .tuple #[.agg #[.int .i64 x.f0, .bool x.f1, .int .i64 x.f2, .string x.f3, .slice A4 x.f4.length c4, .slice A5 x.f5.length c5], .bool true]) (fun _ => []) (fun _ => True) := by
 unfold Ct
 refine c_enter (n := 41) (L := [(1, .slice (some ⟨ab, 0, none⟩) 0 0), (0, .agg #[.int .i64 x.f0, .bool x.f1, .int .i64 x.f2, .string x.f3, .slice A4 x.f4.length c4, .slice A5 x.f5.length c5])]) Tryz.func38 J J J J ?_
 intro a hF
 have hH := Hp.start w0
 refine c_open (fun Q hpan hret hnorm => ?_)
 repeat (first | (refine is_list ?_; first | (refine s_pe hF J J J J ?_; clear hF; intro a hF) | (refine is_load ?_; refine s_lda 1 hF hH J J J J J J J ?_; clear hF; intro a hF) | (refine is_call ?_; refine s_call hF hH J J J J J (jInside_ok x A4 A5 c4 c5 ab _) ?_; clear hF hH; intro a w r hr hF hH) | (refine s_al hF hH J J J J ?_; clear hF hH; intro a b w hF hH) | (refine s_sta 0 hF hH J J J J J J J J J J ?_; clear hH; intro w hH) | (refine s_bx hF hH J J J J ?_; clear hF hH; intro a b w hF hH)) | refine c_seq (fun K hK => ?_) | refine wp_region_lit ?_ | (refine c_nilK hK ?_; clear hK) | refine c_false hF rfl ?_ | refine wp_block ?_ | refine wp_loop_rounds 2 (c_roundK 1 (fun K hK => ?_)) | refine wp_exit ?_ | refine wp_ret ?_ | refine wp_skip ?_ | (refine e_exit ?_; clear hK) | refine e_bexit rfl ?_ | (refine e_thenK hK ?_; clear hK))
 exact hret _ _ (c_retCT 0 hF hH J J J J J J ⟨(), trivial, rfl, hH.mid 0 2⟩)
theorem jNamed_ok (bn : Nat) (w0 : World) : Ct 22 [.slice (some ⟨bn, 0, none⟩) 1 1, .string ⟨#[49]⟩] w0 (fun _ : Unit => .int .i64 1) (fun _ => []) (fun _ => True) := by
 unfold Ct
 refine c_enter (n := 22) (L := [(1, .string ⟨#[49]⟩), (0, .slice (some ⟨bn, 0, none⟩) 1 1)]) Tryz.func22 J J J J ?_
 intro a hF
 have hH := Hp.start w0
 refine c_open (fun Q hpan hret hnorm => ?_)
 repeat (first | (refine is_list ?_; first | (refine s_pe hF J J J J ?_; clear hF; intro a hF) | (refine is_call ?_; (first | refine s_call hF hH J J J J J (c43_1 _) ?_ | refine s_call hF hH J J J J J (c44_1 _) ?_); clear hF hH; intro a w r hr hF hH)) | refine c_seq (fun K hK => ?_) | refine wp_region_lit ?_ | (refine c_nilK hK ?_; clear hK) | refine c_false hF rfl ?_ | refine wp_ret ?_ | refine wp_skip ?_ | (refine e_thenK hK ?_; clear hK))
 exact hret _ _ (c_ret1 hF J J ⟨(), trivial, rfl, hH.mid 0 0⟩)
theorem jTakes_ok (bn : Nat) (lm : Lm) (x : S27) (A4 A5 : Option Addr) (c4 c5 : Nat) (hx : Gd x) (w0 : World) (hN : Old w0 bn (nodeL lm)) (hX : k27.K w0 x [.int .i64 x.f0, .bool x.f1, .int .i64 x.f2, .string x.f3, .slice A4 x.f4.length c4, .slice A5 x.f5.length c5]) : Ct 40 [.int .i64 2020, .agg #[.slice (some ⟨bn, 0, none⟩) 1 1, .slice none 0 0], .int .i64 1, .agg #[.int .i64 x.f0, .bool x.f1, .int .i64 x.f2, .string x.f3, .slice A4 x.f4.length c4, .slice A5 x.f5.length c5]] w0 (fun _ : Unit => .bool (judge lm x)) (fun _ => []) (fun _ => True) := by
 unfold Ct
 refine c_enter (n := 20) (L := [(3, .agg #[.int .i64 x.f0, .bool x.f1, .int .i64 x.f2, .string x.f3, .slice A4 x.f4.length c4, .slice A5 x.f5.length c5]), (2, .int .i64 1), (1, .agg #[.slice (some ⟨bn, 0, none⟩) 1 1, .slice none 0 0]), (0, .int .i64 2020)]) Tryz.func40 J J J J ?_
 intro a hF
 have hH := Hp.start w0
 refine c_open (fun Q hpan hret hnorm => ?_)
 repeat (first | (refine is_list ?_; first | (refine s_pe hF J J J J ?_; clear hF; intro a hF) | (refine is_load ?_; (first | refine s_lda 0 hF hH J J J J J J J ?_ | refine s_lda 1 hF hH J J J J J J J ?_); clear hF; intro a hF) | (refine is_call ?_; refine s_call hF hH J J J J J (jJudge_ok bn lm x A4 A5 c4 c5 hx _ (hN.later hH) (k27.K_below hH.below hX)) ?_; clear hF hH; intro a w q hq hF hH) | (refine s_bx hF hH J J J J ?_; clear hF hH; intro a b w hF hH)) | refine c_seq (fun K hK => ?_) | refine wp_region_lit ?_ | (refine c_nilK hK ?_; clear hK) | refine wp_ret ?_)
 exact hret _ _ (c_ret1 hF J J ⟨(), trivial, rfl, hH.mid 0 2⟩)
theorem keep_ok (bn : Nat) (w0 : World) : Ct 32 [.agg #[.slice (some ⟨bn, 0, none⟩) 1 1, .slice none 0 0], .int .i64 1] w0 (fun _ : Unit => .agg #[.slice none 0 0, .slice none 0 0, .slice none 0 0, .slice none 0 0, .slice none 0 0]) (fun _ => []) (fun _ => True) := by
 unfold Ct
 refine c_enter (n := 17) (L := [(1, .int .i64 1), (0, .agg #[.slice (some ⟨bn, 0, none⟩) 1 1, .slice none 0 0])]) Tryz.func32 J J J J ?_
 intro a hF
 have hH := Hp.start w0
 refine c_open (fun Q hpan hret hnorm => ?_)
 repeat (first | (refine is_list ?_; first | (refine s_pe hF J J J J ?_; clear hF; intro a hF) | (refine is_load ?_; refine s_ld 1 hF hH J J J J J J J ?_; clear hF; intro a hF) | (refine s_al hF hH J J J J ?_; clear hF hH; intro a b w hF hH) | (refine s_sta 0 hF hH J J J J J J J J J J ?_; clear hH; intro w hH) | (refine s_bx hF hH J J J J ?_; clear hF hH; intro a b w hF hH)) | refine c_seq (fun K hK => ?_) | refine wp_region_lit ?_ | (refine c_nilK hK ?_; clear hK) | refine c_true hF rfl ?_ | refine wp_ret ?_ | (refine e_ret ?_; clear hK))
 exact hret _ _ (c_retC 0 hF hH J J J J J ⟨(), trivial, rfl, hH.mid 0 2⟩)
theorem jBegins_ok (ab a0 : Nat) (w0 : World) : Ct 42 [.slice (some ⟨ab, 0, none⟩) 0 0, .slice (some ⟨a0, 0, none⟩) 0 0] w0 (fun _ : Unit => .bool true) (fun _ => []) (fun _ => True) := by
 unfold Ct
 refine c_enter (n := 27) (L := [(1, .slice (some ⟨a0, 0, none⟩) 0 0), (0, .slice (some ⟨ab, 0, none⟩) 0 0)]) Tryz.func42 J J J J ?_
 intro a hF
 have hH := Hp.start w0
 refine c_open (fun Q hpan hret hnorm => ?_)
 repeat (first | (refine is_list ?_; refine s_pe hF J J J J ?_; clear hF; intro a hF) | refine c_seq (fun K hK => ?_) | refine wp_region_lit ?_ | (refine c_nilK hK ?_; clear hK) | refine c_false hF rfl ?_ | refine wp_block ?_ | refine wp_loop_rounds 2 (c_roundK 1 (fun K hK => ?_)) | refine wp_exit ?_ | refine wp_ret ?_ | (refine e_exit ?_; clear hK) | refine e_bexit rfl ?_ | (refine e_thenK hK ?_; clear hK))
 exact hret _ _ (c_ret1 hF J J ⟨(), trivial, rfl, hH.mid 0 0⟩)
theorem jSameNums_ok (eb nb : Nat) (gt wt : Int) (w0 : World) (hE : Old w0 eb [.int .i64 gt, .int .i64 wt]) (hN : Old w0 nb [.int .i64 gt, .int .i64 wt]) : Ct 120 [.slice (some ⟨eb, 0, none⟩) 2 2, .slice (some ⟨nb, 0, none⟩) 2 2] w0 (fun _ : Unit => .bool true) (fun _ => []) (fun _ => True) := by
 unfold Ct
 refine c_enter (n := 26) (L := [(1, .slice (some ⟨nb, 0, none⟩) 2 2), (0, .slice (some ⟨eb, 0, none⟩) 2 2)]) Tryz.func120 J J J J ?_
 intro a hF
 have hH := Hp.start w0
 refine c_open (fun Q hpan hret hnorm => ?_)
 repeat (first | (refine is_list ?_; refine s_pe hF J J J J ?_; clear hF; intro a hF) | (refine is_draw ?_; first | (refine d_pe hF J J J J J J ?_; clear hF; intro a hF) | (refine is_dload rfl ?_; (first | refine d_ldo hE hF hS J J J J J J J ?_ | refine d_ldo hN hF hS J J J J J J J ?_); clear hF; intro a hF) | (refine d_ix hF J J J J J J J J ?_; clear hF; intro a hF)) | (refine c_dnilK hK ?_; clear hS hK) | refine c_seq (fun K hK => ?_) | refine wp_region_lit ?_ | (refine c_nilK hK ?_; clear hK) | refine c_true hF rfl ?_ | refine c_false hF rfl ?_ | (refine is_region ?_; refine is_region (id := 6) ?_; refine c_drawn [] [0, 1, 2, 3, 4, 5, 6, 7, 8] hH (by kernel_rfl) (by repeat (first | refine pan_then ?_ | refine pan_block ?_ | exact hpan)) ?_; clear hH; intro w hH; have hS := hH) | refine wp_block ?_ | refine wp_loop_rounds 3 (c_roundK 2 (fun K hK => ?_)) | refine wp_skip ?_ | (refine e_thenK hK ?_; clear hK))
 refine c_false hF (cb (ine_f rfl)) ?_
 repeat (first | (refine is_list ?_; refine s_pe hF J J J J ?_; clear hF; intro a hF) | (refine is_draw ?_; first | (refine d_pe hF J J J J J J ?_; clear hF; intro a hF) | (refine is_dload rfl ?_; (first | refine d_ldo hE hF hS J J J J J J J ?_ | refine d_ldo hN hF hS J J J J J J J ?_); clear hF; intro a hF) | (refine d_ix hF J J J J J J J J ?_; clear hF; intro a hF)) | (refine c_dnilK hK ?_; clear hS hK) | refine c_seq (fun K hK => ?_) | refine wp_region_lit ?_ | (refine c_nilK hK ?_; clear hK) | refine c_true hF rfl ?_ | (refine is_region ?_; refine is_region (id := 6) ?_; refine c_drawn [] [0, 1, 2, 3, 4, 5, 6, 7, 8] hH (by kernel_rfl) (by repeat (first | refine pan_then ?_ | refine pan_block ?_ | exact hpan)) ?_; clear hH; intro w hH; have hS := hH) | refine wp_block ?_ | refine c_roundK 1 (fun K hK => ?_) | refine wp_skip ?_ | refine e_bnormal ?_ | (refine e_thenK hK ?_; clear hK))
 refine c_false hF (cb (ine_f rfl)) ?_
 repeat (first | (refine is_list ?_; refine s_pe hF J J J J ?_; clear hF; intro a hF) | refine c_seq (fun K hK => ?_) | refine wp_region_lit ?_ | (refine c_nilK hK ?_; clear hK) | refine c_false hF rfl ?_ | refine c_roundK 0 (fun K hK => ?_) | refine wp_exit ?_ | refine wp_ret ?_ | refine wp_skip ?_ | (refine e_exit ?_; clear hK) | refine e_bexit rfl ?_ | refine e_bnormal ?_ | (refine e_thenK hK ?_; clear hK))
 exact hret _ _ (c_ret1 hF J J ⟨(), trivial, rfl, hH.mid 0 0⟩)
end Go.Proofs.YtlkikblohnnlcaaGreatDoor.Y
end
