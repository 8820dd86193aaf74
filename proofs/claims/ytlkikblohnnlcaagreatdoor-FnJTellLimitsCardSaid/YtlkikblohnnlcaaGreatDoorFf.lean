/- A part of the proof that FnJTellLimits returns true for every input, on the conditions that its given row lists. -/
import Derived.Test.YtlkikblohnnlcaaGreatDoorFe
set_option linter.unusedVariables false
set_option linter.unusedSimpArgs false
section
namespace Go.Proofs.YtlkikblohnnlcaaGreatDoor.Y
open Go Go.RowKit X R Go.Proofs.YtlkikblohnnlcaaGreatDoorW.PrintWords
set_option linter.unusedVariables false
set_option maxRecDepth 4000
attribute [local irreducible] wpList dL Code.wp bodyPost Ct Calls Exit.then Exit.inBlock Code.rounds
set_option maxHeartbeats 0
theorem jNumberRight_MinItems (x : S27) (A4 A5 : Option Addr) (c4 c5 : Nat) (h2 : x.f0 ≠ 2) (pb pc ab eb : Nat) (w0 : World) : Ct 80 [.agg #[.slice none 0 0, .slice none 0 0, .slice none 0 0, .slice none 0 0, .slice none 0 0], .agg #[.int .i64 x.f0, .bool x.f1, .int .i64 x.f2, .string x.f3, .slice A4 x.f4.length c4, .slice A5 x.f5.length c5], .agg #[.string ⟨#[49]⟩, .string ⟨#[77, 105, 110, 73, 116, 101, 109, 115]⟩, .slice (some ⟨pb, 0, none⟩) 1 pc, .slice (some ⟨ab, 0, none⟩) 0 0, .string ⟨#[]⟩, .slice none 0 0, .slice (some ⟨eb, 0, none⟩) 2 2, .slice none 0 0]] w0 (fun _ : Unit => .bool false) (fun _ => []) (fun _ => True) := by
 unfold Ct
 refine c_enter (n := 50) (L := [(2, .agg #[.string ⟨#[49]⟩, .string ⟨#[77, 105, 110, 73, 116, 101, 109, 115]⟩, .slice (some ⟨pb, 0, none⟩) 1 pc, .slice (some ⟨ab, 0, none⟩) 0 0, .string ⟨#[]⟩, .slice none 0 0, .slice (some ⟨eb, 0, none⟩) 2 2, .slice none 0 0]), (1, .agg #[.int .i64 x.f0, .bool x.f1, .int .i64 x.f2, .string x.f3, .slice A4 x.f4.length c4, .slice A5 x.f5.length c5]), (0, .agg #[.slice none 0 0, .slice none 0 0, .slice none 0 0, .slice none 0 0, .slice none 0 0])]) Tryz.func80 J J J J ?_
 intro a hF
 have hH := Hp.start w0
 refine c_open (fun Q hpan hret hnorm => ?_)
 repeat (first | (refine is_list ?_; first | (refine s_pe hF J J J J ?_; clear hF; intro a hF) | (refine is_load ?_; refine s_ld 1 hF hH J J J J J J J ?_; clear hF; intro a hF) | (refine s_bx hF hH J J J J ?_; clear hF hH; intro a b w hF hH)) | refine c_seq (fun K hK => ?_) | refine wp_region_lit ?_ | (refine c_nilK hK ?_; clear hK))
 rw [ine_t h2] at hF
 repeat (first | (refine is_list ?_; (first | refine s_pe hF J J J J ?_ | refine x_off hF J J J ?_); clear hF; intro a hF) | refine c_seq (fun K hK => ?_) | refine wp_region_lit ?_ | (refine c_nilK hK ?_; clear hK) | refine c_true hF rfl ?_ | refine wp_ret ?_ | (refine e_ret ?_; clear hK))
 exact hret _ _ (c_ret1 hF J J ⟨(), trivial, rfl, hH.mid 0 3⟩)
theorem jInPlaceRight_MinItems (bn : Nat) (lm : Lm) (x : S27) (A4 A5 : Option Addr) (c4 c5 : Nat) (pb pc ab eb : Nat) (w0 : World) : Ct 78 [.int .i64 2020, .agg #[.slice (some ⟨bn, 0, none⟩) 1 1, .slice none 0 0], .agg (nodeL lm).toArray, .agg #[.int .i64 x.f0, .bool x.f1, .int .i64 x.f2, .string x.f3, .slice A4 x.f4.length c4, .slice A5 x.f5.length c5], .agg #[.string ⟨#[49]⟩, .string ⟨#[77, 105, 110, 73, 116, 101, 109, 115]⟩, .slice (some ⟨pb, 0, none⟩) 1 pc, .slice (some ⟨ab, 0, none⟩) 0 0, .string ⟨#[]⟩, .slice none 0 0, .slice (some ⟨eb, 0, none⟩) 2 2, .slice none 0 0]] w0 (fun _ : Unit => .bool false) (fun _ => []) (fun _ => True) := by
 unfold Ct
 refine c_enter (n := 136) (L := [(4, .agg #[.string ⟨#[49]⟩, .string ⟨#[77, 105, 110, 73, 116, 101, 109, 115]⟩, .slice (some ⟨pb, 0, none⟩) 1 pc, .slice (some ⟨ab, 0, none⟩) 0 0, .string ⟨#[]⟩, .slice none 0 0, .slice (some ⟨eb, 0, none⟩) 2 2, .slice none 0 0]), (3, .agg #[.int .i64 x.f0, .bool x.f1, .int .i64 x.f2, .string x.f3, .slice A4 x.f4.length c4, .slice A5 x.f5.length c5]), (2, .agg (nodeL lm).toArray), (1, .agg #[.slice (some ⟨bn, 0, none⟩) 1 1, .slice none 0 0]), (0, .int .i64 2020)]) Tryz.func78 J J J J ?_
 intro a hF
 have hH := Hp.start w0
 refine c_open (fun Q hpan hret hnorm => ?_)
 repeat (first | (refine is_list ?_; first | (refine s_pe hF J J J J ?_; clear hF; intro a hF) | (refine is_load ?_; refine s_ld 0 hF hH J J J J J J J ?_; clear hF; intro a hF) | (refine s_bx hF hH J J J J ?_; clear hF hH; intro a b w hF hH)) | refine c_seq (fun K hK => ?_) | refine wp_region_lit ?_ | (refine c_nilK hK ?_; clear hK) | refine c_false hF rfl ?_ | refine wp_block ?_ | refine wp_ret ?_ | refine wp_skip ?_ | refine e_bnormal ?_ | (refine e_thenK hK ?_; clear hK))
 exact hret _ _ (c_ret1 hF J J ⟨(), trivial, rfl, hH.mid 0 4⟩)
theorem jValueRight_MinItems (lm : Lm) (x : S27) (A4 A5 : Option Addr) (c4 c5 : Nat) (h3 : x.f3.size < 4611686018427387904) (pb pc ab eb : Nat) (w0 : World) : Ct 79 [.agg (nodeL lm).toArray, .agg #[.int .i64 x.f0, .bool x.f1, .int .i64 x.f2, .string x.f3, .slice A4 x.f4.length c4, .slice A5 x.f5.length c5], .agg #[.string ⟨#[49]⟩, .string ⟨#[77, 105, 110, 73, 116, 101, 109, 115]⟩, .slice (some ⟨pb, 0, none⟩) 1 pc, .slice (some ⟨ab, 0, none⟩) 0 0, .string ⟨#[]⟩, .slice none 0 0, .slice (some ⟨eb, 0, none⟩) 2 2, .slice none 0 0]] w0 (fun _ : Unit => .bool false) (fun _ => []) (fun _ => True) := by
 unfold Ct
 refine c_enter (n := 150) (L := [(2, .agg #[.string ⟨#[49]⟩, .string ⟨#[77, 105, 110, 73, 116, 101, 109, 115]⟩, .slice (some ⟨pb, 0, none⟩) 1 pc, .slice (some ⟨ab, 0, none⟩) 0 0, .string ⟨#[]⟩, .slice none 0 0, .slice (some ⟨eb, 0, none⟩) 2 2, .slice none 0 0]), (1, .agg #[.int .i64 x.f0, .bool x.f1, .int .i64 x.f2, .string x.f3, .slice A4 x.f4.length c4, .slice A5 x.f5.length c5]), (0, .agg (nodeL lm).toArray)]) Tryz.func79 J J J J ?_
 intro a hF
 have hH := Hp.start w0
 refine c_open (fun Q hpan hret hnorm => ?_)
 repeat (first | (refine is_list ?_; first | (refine s_pe hF J J J J ?_; clear hF; intro a hF) | (refine is_load ?_; (first | refine s_ld 0 hF hH J J J J J J J ?_ | refine s_ld 1 hF hH J J J J J J J ?_); clear hF; intro a hF) | (refine is_call ?_; refine s_call hF hH J J J J J (c34 x.f3 h3 _) ?_; clear hF hH; intro a w r hr hF hH) | (refine s_bx hF hH J J J J ?_; clear hF hH; intro a b w hF hH)) | refine c_seq (fun K hK => ?_) | refine wp_region_lit ?_ | (refine c_nilK hK ?_; clear hK) | refine c_false hF rfl ?_ | refine wp_block ?_ | refine wp_ret ?_ | refine wp_skip ?_ | refine e_bnormal ?_ | (refine e_thenK hK ?_; clear hK))
 exact hret _ _ (c_ret1 hF J J ⟨(), trivial, rfl, hH.mid 0 3⟩)
theorem jArrayRight_MinItems (bn : Nat) (lm : Lm) (x : S27) (A4 A5 : Option Addr) (c4 c5 : Nat) (pb pc ab eb : Nat) (w0 : World) (h0 : x.f0 = 4) (ht : lm.t3 = true) (hlt : ((x.f5.length : Nat) : Int) < lm.n3) (hE : Old w0 eb [.int .i64 ((x.f5.length : Nat) : Int), .int .i64 lm.n3]) : Ct 81 [.int .i64 2020, .agg #[.slice (some ⟨bn, 0, none⟩) 1 1, .slice none 0 0], .agg (nodeL lm).toArray, .agg #[.int .i64 x.f0, .bool x.f1, .int .i64 x.f2, .string x.f3, .slice A4 x.f4.length c4, .slice A5 x.f5.length c5], .agg #[.string ⟨#[49]⟩, .string ⟨#[77, 105, 110, 73, 116, 101, 109, 115]⟩, .slice (some ⟨pb, 0, none⟩) 1 pc, .slice (some ⟨ab, 0, none⟩) 0 0, .string ⟨#[]⟩, .slice none 0 0, .slice (some ⟨eb, 0, none⟩) 2 2, .slice none 0 0]] w0 (fun _ : Unit => .bool true) (fun _ => []) (fun _ => True) := by
 unfold Ct
 refine c_enter (n := 113) (L := [(4, .agg #[.string ⟨#[49]⟩, .string ⟨#[77, 105, 110, 73, 116, 101, 109, 115]⟩, .slice (some ⟨pb, 0, none⟩) 1 pc, .slice (some ⟨ab, 0, none⟩) 0 0, .string ⟨#[]⟩, .slice none 0 0, .slice (some ⟨eb, 0, none⟩) 2 2, .slice none 0 0]), (3, .agg #[.int .i64 x.f0, .bool x.f1, .int .i64 x.f2, .string x.f3, .slice A4 x.f4.length c4, .slice A5 x.f5.length c5]), (2, .agg (nodeL lm).toArray), (1, .agg #[.slice (some ⟨bn, 0, none⟩) 1 1, .slice none 0 0]), (0, .int .i64 2020)]) Tryz.func81 J J J J ?_
 intro a hF
 have hH := Hp.start w0
 refine c_open (fun Q hpan hret hnorm => ?_)
 repeat (first | (refine is_list ?_; first | (refine s_pe hF J J J J ?_; clear hF; intro a hF) | (refine is_load ?_; refine s_ld 1 hF hH J J J J J J J ?_; clear hF; intro a hF) | (refine s_bx hF hH J J J J ?_; clear hF hH; intro a b w hF hH)) | refine c_seq (fun K hK => ?_) | refine wp_region_lit ?_ | (refine c_nilK hK ?_; clear hK))
 refine c_false hF (cb (ine_f h0)) ?_
 repeat (first | (refine is_list ?_; first | (refine s_pe hF J J J J ?_; clear hF; intro a hF) | (refine is_load ?_; (first | refine s_ld 0 hF hH J J J J J J J ?_ | refine s_ld 2 hF hH J J J J J J J ?_); clear hF; intro a hF)) | refine c_seq (fun K hK => ?_) | refine wp_region_lit ?_ | (refine c_nilK hK ?_; clear hK) | refine c_true hF rfl ?_ | refine wp_block ?_ | refine wp_skip ?_ | (refine e_thenK hK ?_; clear hK))
 rw [ht] at hF
 repeat (refine is_list ?_; first | (refine s_pe hF J J J J ?_; clear hF; intro a hF) | (refine is_load ?_; refine s_ld 2 hF hH J J J J J J J ?_; clear hF; intro a hF))
 rw [show decide (((x.f5.length : Nat) : Int) < lm.n3) = true from decide_eq_true hlt] at hF
 repeat (first | (refine is_list ?_; first | (refine s_pe hF J J J J ?_; clear hF; intro a hF) | (refine is_load ?_; (first | refine s_ld 0 hF hH J J J J J J J ?_ | refine s_ld 2 hF hH J J J J J J J ?_); clear hF; intro a hF) | (refine is_call ?_; refine s_call hF hH J J J J J (jSameNums_ok eb _ _ _ _ (hE.later hH) (hH.toOld (i := 0) rfl)) ?_; clear hF hH; intro a w r hr hF hH) | (refine s_bs hF hH J J J J J J J J J J ?_; clear hF hH; intro a b w hF hH)) | (refine c_nilK hK ?_; clear hK) | refine wp_ret ?_ | (refine e_ret ?_; clear hK) | refine e_bret ?_)
 exact hret _ _ (c_ret1 hF J J ⟨(), trivial, rfl, hH.mid 0 5⟩)
theorem jNumberRight_MaxItems (x : S27) (A4 A5 : Option Addr) (c4 c5 : Nat) (h2 : x.f0 ≠ 2) (pb pc ab eb : Nat) (w0 : World) : Ct 80 [.agg #[.slice none 0 0, .slice none 0 0, .slice none 0 0, .slice none 0 0, .slice none 0 0], .agg #[.int .i64 x.f0, .bool x.f1, .int .i64 x.f2, .string x.f3, .slice A4 x.f4.length c4, .slice A5 x.f5.length c5], .agg #[.string ⟨#[49]⟩, .string ⟨#[77, 97, 120, 73, 116, 101, 109, 115]⟩, .slice (some ⟨pb, 0, none⟩) 1 pc, .slice (some ⟨ab, 0, none⟩) 0 0, .string ⟨#[]⟩, .slice none 0 0, .slice (some ⟨eb, 0, none⟩) 2 2, .slice none 0 0]] w0 (fun _ : Unit => .bool false) (fun _ => []) (fun _ => True) := by
 unfold Ct
 refine c_enter (n := 50) (L := [(2, .agg #[.string ⟨#[49]⟩, .string ⟨#[77, 97, 120, 73, 116, 101, 109, 115]⟩, .slice (some ⟨pb, 0, none⟩) 1 pc, .slice (some ⟨ab, 0, none⟩) 0 0, .string ⟨#[]⟩, .slice none 0 0, .slice (some ⟨eb, 0, none⟩) 2 2, .slice none 0 0]), (1, .agg #[.int .i64 x.f0, .bool x.f1, .int .i64 x.f2, .string x.f3, .slice A4 x.f4.length c4, .slice A5 x.f5.length c5]), (0, .agg #[.slice none 0 0, .slice none 0 0, .slice none 0 0, .slice none 0 0, .slice none 0 0])]) Tryz.func80 J J J J ?_
 intro a hF
 have hH := Hp.start w0
 refine c_open (fun Q hpan hret hnorm => ?_)
 repeat (first | (refine is_list ?_; first | (refine s_pe hF J J J J ?_; clear hF; intro a hF) | (refine is_load ?_; refine s_ld 1 hF hH J J J J J J J ?_; clear hF; intro a hF) | (refine s_bx hF hH J J J J ?_; clear hF hH; intro a b w hF hH)) | refine c_seq (fun K hK => ?_) | refine wp_region_lit ?_ | (refine c_nilK hK ?_; clear hK))
 rw [ine_t h2] at hF
 repeat (first | (refine is_list ?_; (first | refine s_pe hF J J J J ?_ | refine x_off hF J J J ?_); clear hF; intro a hF) | refine c_seq (fun K hK => ?_) | refine wp_region_lit ?_ | (refine c_nilK hK ?_; clear hK) | refine c_true hF rfl ?_ | refine wp_ret ?_ | (refine e_ret ?_; clear hK))
 exact hret _ _ (c_ret1 hF J J ⟨(), trivial, rfl, hH.mid 0 3⟩)
theorem jInPlaceRight_MaxItems (bn : Nat) (lm : Lm) (x : S27) (A4 A5 : Option Addr) (c4 c5 : Nat) (pb pc ab eb : Nat) (w0 : World) : Ct 78 [.int .i64 2020, .agg #[.slice (some ⟨bn, 0, none⟩) 1 1, .slice none 0 0], .agg (nodeL lm).toArray, .agg #[.int .i64 x.f0, .bool x.f1, .int .i64 x.f2, .string x.f3, .slice A4 x.f4.length c4, .slice A5 x.f5.length c5], .agg #[.string ⟨#[49]⟩, .string ⟨#[77, 97, 120, 73, 116, 101, 109, 115]⟩, .slice (some ⟨pb, 0, none⟩) 1 pc, .slice (some ⟨ab, 0, none⟩) 0 0, .string ⟨#[]⟩, .slice none 0 0, .slice (some ⟨eb, 0, none⟩) 2 2, .slice none 0 0]] w0 (fun _ : Unit => .bool false) (fun _ => []) (fun _ => True) := by
 unfold Ct
 refine c_enter (n := 136) (L := [(4, .agg #[.string ⟨#[49]⟩, .string ⟨#[77, 97, 120, 73, 116, 101, 109, 115]⟩, .slice (some ⟨pb, 0, none⟩) 1 pc, .slice (some ⟨ab, 0, none⟩) 0 0, .string ⟨#[]⟩, .slice none 0 0, .slice (some ⟨eb, 0, none⟩) 2 2, .slice none 0 0]), (3, .agg #[.int .i64 x.f0, .bool x.f1, .int .i64 x.f2, .string x.f3, .slice A4 x.f4.length c4, .slice A5 x.f5.length c5]), (2, .agg (nodeL lm).toArray), (1, .agg #[.slice (some ⟨bn, 0, none⟩) 1 1, .slice none 0 0]), (0, .int .i64 2020)]) Tryz.func78 J J J J ?_
 intro a hF
 have hH := Hp.start w0
 refine c_open (fun Q hpan hret hnorm => ?_)
 repeat (first | (refine is_list ?_; first | (refine s_pe hF J J J J ?_; clear hF; intro a hF) | (refine is_load ?_; refine s_ld 0 hF hH J J J J J J J ?_; clear hF; intro a hF) | (refine s_bx hF hH J J J J ?_; clear hF hH; intro a b w hF hH)) | refine c_seq (fun K hK => ?_) | refine wp_region_lit ?_ | (refine c_nilK hK ?_; clear hK) | refine c_false hF rfl ?_ | refine wp_block ?_ | refine wp_ret ?_ | refine wp_skip ?_ | refine e_bnormal ?_ | (refine e_thenK hK ?_; clear hK))
 exact hret _ _ (c_ret1 hF J J ⟨(), trivial, rfl, hH.mid 0 4⟩)
theorem jValueRight_MaxItems (lm : Lm) (x : S27) (A4 A5 : Option Addr) (c4 c5 : Nat) (h3 : x.f3.size < 4611686018427387904) (pb pc ab eb : Nat) (w0 : World) : Ct 79 [.agg (nodeL lm).toArray, .agg #[.int .i64 x.f0, .bool x.f1, .int .i64 x.f2, .string x.f3, .slice A4 x.f4.length c4, .slice A5 x.f5.length c5], .agg #[.string ⟨#[49]⟩, .string ⟨#[77, 97, 120, 73, 116, 101, 109, 115]⟩, .slice (some ⟨pb, 0, none⟩) 1 pc, .slice (some ⟨ab, 0, none⟩) 0 0, .string ⟨#[]⟩, .slice none 0 0, .slice (some ⟨eb, 0, none⟩) 2 2, .slice none 0 0]] w0 (fun _ : Unit => .bool false) (fun _ => []) (fun _ => True) := by
 unfold Ct
 refine c_enter (n := 150) (L := [(2, .agg #[.string ⟨#[49]⟩, .string ⟨#[77, 97, 120, 73, 116, 101, 109, 115]⟩, .slice (some ⟨pb, 0, none⟩) 1 pc, .slice (some ⟨ab, 0, none⟩) 0 0, .string ⟨#[]⟩, .slice none 0 0, .slice (some ⟨eb, 0, none⟩) 2 2, .slice none 0 0]), (1, .agg #[.int .i64 x.f0, .bool x.f1, .int .i64 x.f2, .string x.f3, .slice A4 x.f4.length c4, .slice A5 x.f5.length c5]), (0, .agg (nodeL lm).toArray)]) Tryz.func79 J J J J ?_
 intro a hF
 have hH := Hp.start w0
 refine c_open (fun Q hpan hret hnorm => ?_)
 repeat (first | (refine is_list ?_; first | (refine s_pe hF J J J J ?_; clear hF; intro a hF) | (refine is_load ?_; (first | refine s_ld 0 hF hH J J J J J J J ?_ | refine s_ld 1 hF hH J J J J J J J ?_); clear hF; intro a hF) | (refine is_call ?_; refine s_call hF hH J J J J J (c34 x.f3 h3 _) ?_; clear hF hH; intro a w r hr hF hH) | (refine s_bx hF hH J J J J ?_; clear hF hH; intro a b w hF hH)) | refine c_seq (fun K hK => ?_) | refine wp_region_lit ?_ | (refine c_nilK hK ?_; clear hK) | refine c_false hF rfl ?_ | refine wp_block ?_ | refine wp_ret ?_ | refine wp_skip ?_ | refine e_bnormal ?_ | (refine e_thenK hK ?_; clear hK))
 exact hret _ _ (c_ret1 hF J J ⟨(), trivial, rfl, hH.mid 0 3⟩)
theorem jArrayRight_MaxItems (bn : Nat) (lm : Lm) (x : S27) (A4 A5 : Option Addr) (c4 c5 : Nat) (pb pc ab eb : Nat) (w0 : World) (h0 : x.f0 = 4) (ht : lm.t4 = true) (hlt : ((x.f5.length : Nat) : Int) > lm.n4) (hE : Old w0 eb [.int .i64 ((x.f5.length : Nat) : Int), .int .i64 lm.n4]) : Ct 81 [.int .i64 2020, .agg #[.slice (some ⟨bn, 0, none⟩) 1 1, .slice none 0 0], .agg (nodeL lm).toArray, .agg #[.int .i64 x.f0, .bool x.f1, .int .i64 x.f2, .string x.f3, .slice A4 x.f4.length c4, .slice A5 x.f5.length c5], .agg #[.string ⟨#[49]⟩, .string ⟨#[77, 97, 120, 73, 116, 101, 109, 115]⟩, .slice (some ⟨pb, 0, none⟩) 1 pc, .slice (some ⟨ab, 0, none⟩) 0 0, .string ⟨#[]⟩, .slice none 0 0, .slice (some ⟨eb, 0, none⟩) 2 2, .slice none 0 0]] w0 (fun _ : Unit => .bool true) (fun _ => []) (fun _ => True) := by
 unfold Ct
 refine c_enter (n := 113) (L := [(4, .agg #[.string ⟨#[49]⟩, .string ⟨#[77, 97, 120, 73, 116, 101, 109, 115]⟩, .slice (some ⟨pb, 0, none⟩) 1 pc, .slice (some ⟨ab, 0, none⟩) 0 0, .string ⟨#[]⟩, .slice none 0 0, .slice (some ⟨eb, 0, none⟩) 2 2, .slice none 0 0]), (3, .agg #[.int .i64 x.f0, .bool x.f1, .int .i64 x.f2, .string x.f3, .slice A4 x.f4.length c4, .slice A5 x.f5.length c5]), (2, .agg (nodeL lm).toArray), (1, .agg #[.slice (some ⟨bn, 0, none⟩) 1 1, .slice none 0 0]), (0, .int .i64 2020)]) Tryz.func81 J J J J ?_
 intro a hF
 have hH := Hp.start w0
 refine c_open (fun Q hpan hret hnorm => ?_)
 repeat (first | (refine is_list ?_; first | (refine s_pe hF J J J J ?_; clear hF; intro a hF) | (refine is_load ?_; refine s_ld 1 hF hH J J J J J J J ?_; clear hF; intro a hF) | (refine s_bx hF hH J J J J ?_; clear hF hH; intro a b w hF hH)) | refine c_seq (fun K hK => ?_) | refine wp_region_lit ?_ | (refine c_nilK hK ?_; clear hK))
 refine c_false hF (cb (ine_f h0)) ?_
 repeat (first | (refine is_list ?_; first | (refine s_pe hF J J J J ?_; clear hF; intro a hF) | (refine is_load ?_; (first | refine s_ld 0 hF hH J J J J J J J ?_ | refine s_ld 2 hF hH J J J J J J J ?_); clear hF; intro a hF)) | refine c_seq (fun K hK => ?_) | refine wp_region_lit ?_ | (refine c_nilK hK ?_; clear hK) | refine c_true hF rfl ?_ | refine c_false hF rfl ?_ | refine wp_block ?_ | refine wp_skip ?_ | (refine e_thenK hK ?_; clear hK))
 rw [ht] at hF
 repeat (refine is_list ?_; first | (refine s_pe hF J J J J ?_; clear hF; intro a hF) | (refine is_load ?_; refine s_ld 2 hF hH J J J J J J J ?_; clear hF; intro a hF))
 rw [show decide (((x.f5.length : Nat) : Int) > lm.n4) = true from decide_eq_true hlt] at hF
 repeat (first | (refine is_list ?_; first | (refine s_pe hF J J J J ?_; clear hF; intro a hF) | (refine is_load ?_; (first | refine s_ld 0 hF hH J J J J J J J ?_ | refine s_ld 2 hF hH J J J J J J J ?_); clear hF; intro a hF) | (refine is_call ?_; refine s_call hF hH J J J J J (jSameNums_ok eb _ _ _ _ (hE.later hH) (hH.toOld (i := 0) rfl)) ?_; clear hF hH; intro a w r hr hF hH) | (refine s_bs hF hH J J J J J J J J J J ?_; clear hF hH; intro a b w hF hH)) | (refine c_nilK hK ?_; clear hK) | refine wp_ret ?_ | (refine e_ret ?_; clear hK) | refine e_bret ?_)
 exact hret _ _ (c_ret1 hF J J ⟨(), trivial, rfl, hH.mid 0 5⟩)
theorem jInPlaceRight_MinLength (bn : Nat) (lm : Lm) (x : S27) (A4 A5 : Option Addr) (c4 c5 : Nat) (pb pc ab eb : Nat) (w0 : World) : Ct 78 [.int .i64 2020, .agg #[.slice (some ⟨bn, 0, none⟩) 1 1, .slice none 0 0], .agg (nodeL lm).toArray, .agg #[.int .i64 x.f0, .bool x.f1, .int .i64 x.f2, .string x.f3, .slice A4 x.f4.length c4, .slice A5 x.f5.length c5], .agg #[.string ⟨#[49]⟩, .string ⟨#[77, 105, 110, 76, 101, 110, 103, 116, 104]⟩, .slice (some ⟨pb, 0, none⟩) 1 pc, .slice (some ⟨ab, 0, none⟩) 0 0, .string ⟨#[]⟩, .slice none 0 0, .slice (some ⟨eb, 0, none⟩) 2 2, .slice none 0 0]] w0 (fun _ : Unit => .bool false) (fun _ => []) (fun _ => True) := by
 unfold Ct
 refine c_enter (n := 136) (L := [(4, .agg #[.string ⟨#[49]⟩, .string ⟨#[77, 105, 110, 76, 101, 110, 103, 116, 104]⟩, .slice (some ⟨pb, 0, none⟩) 1 pc, .slice (some ⟨ab, 0, none⟩) 0 0, .string ⟨#[]⟩, .slice none 0 0, .slice (some ⟨eb, 0, none⟩) 2 2, .slice none 0 0]), (3, .agg #[.int .i64 x.f0, .bool x.f1, .int .i64 x.f2, .string x.f3, .slice A4 x.f4.length c4, .slice A5 x.f5.length c5]), (2, .agg (nodeL lm).toArray), (1, .agg #[.slice (some ⟨bn, 0, none⟩) 1 1, .slice none 0 0]), (0, .int .i64 2020)]) Tryz.func78 J J J J ?_
 intro a hF
 have hH := Hp.start w0
 refine c_open (fun Q hpan hret hnorm => ?_)
 repeat (first | (refine is_list ?_; first | (refine s_pe hF J J J J ?_; clear hF; intro a hF) | (refine is_load ?_; refine s_ld 0 hF hH J J J J J J J ?_; clear hF; intro a hF) | (refine s_bx hF hH J J J J ?_; clear hF hH; intro a b w hF hH)) | refine c_seq (fun K hK => ?_) | refine wp_region_lit ?_ | (refine c_nilK hK ?_; clear hK) | refine c_false hF rfl ?_ | refine wp_block ?_ | refine wp_ret ?_ | refine wp_skip ?_ | refine e_bnormal ?_ | (refine e_thenK hK ?_; clear hK))
 exact hret _ _ (c_ret1 hF J J ⟨(), trivial, rfl, hH.mid 0 4⟩)
theorem jValueRight_MinLength (lm : Lm) (x : S27) (A4 A5 : Option Addr) (c4 c5 : Nat) (h3 : x.f3.size < 4611686018427387904) (pb pc ab eb : Nat) (w0 : World) (h0 : x.f0 = 3) (ht : lm.t1 = true) (hlt : ((U.nc x.f3 x.f3.size 0 : Nat) : Int) < lm.n1) (hE : Old w0 eb [.int .i64 ((U.nc x.f3 x.f3.size 0 : Nat) : Int), .int .i64 lm.n1]) : Ct 79 [.agg (nodeL lm).toArray, .agg #[.int .i64 x.f0, .bool x.f1, .int .i64 x.f2, .string x.f3, .slice A4 x.f4.length c4, .slice A5 x.f5.length c5], .agg #[.string ⟨#[49]⟩, .string ⟨#[77, 105, 110, 76, 101, 110, 103, 116, 104]⟩, .slice (some ⟨pb, 0, none⟩) 1 pc, .slice (some ⟨ab, 0, none⟩) 0 0, .string ⟨#[]⟩, .slice none 0 0, .slice (some ⟨eb, 0, none⟩) 2 2, .slice none 0 0]] w0 (fun _ : Unit => .bool true) (fun _ => []) (fun _ => True) := by
 unfold Ct
 refine c_enter (n := 150) (L := [(2, .agg #[.string ⟨#[49]⟩, .string ⟨#[77, 105, 110, 76, 101, 110, 103, 116, 104]⟩, .slice (some ⟨pb, 0, none⟩) 1 pc, .slice (some ⟨ab, 0, none⟩) 0 0, .string ⟨#[]⟩, .slice none 0 0, .slice (some ⟨eb, 0, none⟩) 2 2, .slice none 0 0]), (1, .agg #[.int .i64 x.f0, .bool x.f1, .int .i64 x.f2, .string x.f3, .slice A4 x.f4.length c4, .slice A5 x.f5.length c5]), (0, .agg (nodeL lm).toArray)]) Tryz.func79 J J J J ?_
 intro a hF
 have hH := Hp.start w0
 refine c_open (fun Q hpan hret hnorm => ?_)
 repeat (first | (refine is_list ?_; first | (refine s_pe hF J J J J ?_; clear hF; intro a hF) | (refine is_load ?_; (first | refine s_ld 0 hF hH J J J J J J J ?_ | refine s_ld 1 hF hH J J J J J J J ?_); clear hF; intro a hF) | (refine is_call ?_; refine s_call hF hH J J J J J (c34 x.f3 h3 _) ?_; clear hF hH; intro a w r hr hF hH) | (refine s_bx hF hH J J J J ?_; clear hF hH; intro a b w hF hH)) | refine c_seq (fun K hK => ?_) | refine wp_region_lit ?_ | (refine c_nilK hK ?_; clear hK) | refine c_true hF rfl ?_ | refine c_false hF rfl ?_ | refine wp_block ?_ | refine wp_skip ?_ | (refine e_thenK hK ?_; clear hK))
 rw [ieq_t h0] at hF
 repeat (refine is_list ?_; first | (refine s_pe hF J J J J ?_; clear hF; intro a hF) | (refine is_load ?_; refine s_ld 2 hF hH J J J J J J J ?_; clear hF; intro a hF))
 rw [ht] at hF
 repeat (refine is_list ?_; first | (refine s_pe hF J J J J ?_; clear hF; intro a hF) | (refine is_load ?_; refine s_ld 2 hF hH J J J J J J J ?_; clear hF; intro a hF))
 rw [show decide (((U.nc x.f3 x.f3.size 0 : Nat) : Int) < lm.n1) = true from decide_eq_true hlt] at hF
 repeat (first | (refine is_list ?_; first | (refine s_pe hF J J J J ?_; clear hF; intro a hF) | (refine is_load ?_; (first | refine s_ld 0 hF hH J J J J J J J ?_ | refine s_ld 2 hF hH J J J J J J J ?_); clear hF; intro a hF) | (refine is_call ?_; refine s_call hF hH J J J J J (jSameNums_ok eb _ _ _ _ (hE.later hH) (hH.toOld (i := 0) rfl)) ?_; clear hF hH; intro a w r hr hF hH) | (refine s_bs hF hH J J J J J J J J J J ?_; clear hF hH; intro a b w hF hH)) | (refine c_nilK hK ?_; clear hK) | refine wp_ret ?_ | (refine e_ret ?_; clear hK) | refine e_bret ?_)
 exact hret _ _ (c_ret1 hF J J ⟨(), trivial, rfl, hH.mid 0 4⟩)
theorem jInPlaceRight_MaxLength (bn : Nat) (lm : Lm) (x : S27) (A4 A5 : Option Addr) (c4 c5 : Nat) (pb pc ab eb : Nat) (w0 : World) : Ct 78 [.int .i64 2020, .agg #[.slice (some ⟨bn, 0, none⟩) 1 1, .slice none 0 0], .agg (nodeL lm).toArray, .agg #[.int .i64 x.f0, .bool x.f1, .int .i64 x.f2, .string x.f3, .slice A4 x.f4.length c4, .slice A5 x.f5.length c5], .agg #[.string ⟨#[49]⟩, .string ⟨#[77, 97, 120, 76, 101, 110, 103, 116, 104]⟩, .slice (some ⟨pb, 0, none⟩) 1 pc, .slice (some ⟨ab, 0, none⟩) 0 0, .string ⟨#[]⟩, .slice none 0 0, .slice (some ⟨eb, 0, none⟩) 2 2, .slice none 0 0]] w0 (fun _ : Unit => .bool false) (fun _ => []) (fun _ => True) := by
 unfold Ct
 refine c_enter (n := 136) (L := [(4, .agg #[.string ⟨#[49]⟩, .string ⟨#[77, 97, 120, 76, 101, 110, 103, 116, 104]⟩, .slice (some ⟨pb, 0, none⟩) 1 pc, .slice (some ⟨ab, 0, none⟩) 0 0, .string ⟨#[]⟩, .slice none 0 0, .slice (some ⟨eb, 0, none⟩) 2 2, .slice none 0 0]), (3, .agg #[.int .i64 x.f0, .bool x.f1, .int .i64 x.f2, .string x.f3, .slice A4 x.f4.length c4, .slice A5 x.f5.length c5]), (2, .agg (nodeL lm).toArray), (1, .agg #[.slice (some ⟨bn, 0, none⟩) 1 1, .slice none 0 0]), (0, .int .i64 2020)]) Tryz.func78 J J J J ?_
 intro a hF
 have hH := Hp.start w0
 refine c_open (fun Q hpan hret hnorm => ?_)
 repeat (first | (refine is_list ?_; first | (refine s_pe hF J J J J ?_; clear hF; intro a hF) | (refine is_load ?_; refine s_ld 0 hF hH J J J J J J J ?_; clear hF; intro a hF) | (refine s_bx hF hH J J J J ?_; clear hF hH; intro a b w hF hH)) | refine c_seq (fun K hK => ?_) | refine wp_region_lit ?_ | (refine c_nilK hK ?_; clear hK) | refine c_false hF rfl ?_ | refine wp_block ?_ | refine wp_ret ?_ | refine wp_skip ?_ | refine e_bnormal ?_ | (refine e_thenK hK ?_; clear hK))
 exact hret _ _ (c_ret1 hF J J ⟨(), trivial, rfl, hH.mid 0 4⟩)
theorem jValueRight_MaxLength (lm : Lm) (x : S27) (A4 A5 : Option Addr) (c4 c5 : Nat) (h3 : x.f3.size < 4611686018427387904) (pb pc ab eb : Nat) (w0 : World) (h0 : x.f0 = 3) (ht : lm.t2 = true) (hlt : ((U.nc x.f3 x.f3.size 0 : Nat) : Int) > lm.n2) (hE : Old w0 eb [.int .i64 ((U.nc x.f3 x.f3.size 0 : Nat) : Int), .int .i64 lm.n2]) : Ct 79 [.agg (nodeL lm).toArray, .agg #[.int .i64 x.f0, .bool x.f1, .int .i64 x.f2, .string x.f3, .slice A4 x.f4.length c4, .slice A5 x.f5.length c5], .agg #[.string ⟨#[49]⟩, .string ⟨#[77, 97, 120, 76, 101, 110, 103, 116, 104]⟩, .slice (some ⟨pb, 0, none⟩) 1 pc, .slice (some ⟨ab, 0, none⟩) 0 0, .string ⟨#[]⟩, .slice none 0 0, .slice (some ⟨eb, 0, none⟩) 2 2, .slice none 0 0]] w0 (fun _ : Unit => .bool true) (fun _ => []) (fun _ => True) := by
 unfold Ct
 refine c_enter (n := 150) (L := [(2, .agg #[.string ⟨#[49]⟩, .string ⟨#[77, 97, 120, 76, 101, 110, 103, 116, 104]⟩, .slice (some ⟨pb, 0, none⟩) 1 pc, .slice (some ⟨ab, 0, none⟩) 0 0, .string ⟨#[]⟩, .slice none 0 0, .slice (some ⟨eb, 0, none⟩) 2 2, .slice none 0 0]), (1, .agg #[.int .i64 x.f0, .bool x.f1, .int .i64 x.f2, .string x.f3, .slice A4 x.f4.length c4, .slice A5 x.f5.length c5]), (0, .agg (nodeL lm).toArray)]) Tryz.func79 J J J J ?_
 intro a hF
 have hH := Hp.start w0
 refine c_open (fun Q hpan hret hnorm => ?_)
 repeat (first | (refine is_list ?_; first | (refine s_pe hF J J J J ?_; clear hF; intro a hF) | (refine is_load ?_; (first | refine s_ld 0 hF hH J J J J J J J ?_ | refine s_ld 1 hF hH J J J J J J J ?_); clear hF; intro a hF) | (refine is_call ?_; refine s_call hF hH J J J J J (c34 x.f3 h3 _) ?_; clear hF hH; intro a w r hr hF hH) | (refine s_bx hF hH J J J J ?_; clear hF hH; intro a b w hF hH)) | refine c_seq (fun K hK => ?_) | refine wp_region_lit ?_ | (refine c_nilK hK ?_; clear hK) | refine c_true hF rfl ?_ | refine c_false hF rfl ?_ | refine wp_block ?_ | refine wp_skip ?_ | (refine e_thenK hK ?_; clear hK))
 rw [ieq_t h0] at hF
 repeat (refine is_list ?_; first | (refine s_pe hF J J J J ?_; clear hF; intro a hF) | (refine is_load ?_; refine s_ld 2 hF hH J J J J J J J ?_; clear hF; intro a hF))
 rw [ht] at hF
 repeat (refine is_list ?_; first | (refine s_pe hF J J J J ?_; clear hF; intro a hF) | (refine is_load ?_; refine s_ld 2 hF hH J J J J J J J ?_; clear hF; intro a hF))
 rw [show decide (((U.nc x.f3 x.f3.size 0 : Nat) : Int) > lm.n2) = true from decide_eq_true hlt] at hF
 repeat (first | (refine is_list ?_; first | (refine s_pe hF J J J J ?_; clear hF; intro a hF) | (refine is_load ?_; (first | refine s_ld 0 hF hH J J J J J J J ?_ | refine s_ld 2 hF hH J J J J J J J ?_); clear hF; intro a hF) | (refine is_call ?_; refine s_call hF hH J J J J J (jSameNums_ok eb _ _ _ _ (hE.later hH) (hH.toOld (i := 0) rfl)) ?_; clear hF hH; intro a w r hr hF hH) | (refine s_bs hF hH J J J J J J J J J J ?_; clear hF hH; intro a b w hF hH)) | (refine c_nilK hK ?_; clear hK) | refine wp_ret ?_ | (refine e_ret ?_; clear hK) | refine e_bret ?_)
 exact hret _ _ (c_ret1 hF J J ⟨(), trivial, rfl, hH.mid 0 4⟩)
theorem jNumberRight_MinProperties (x : S27) (A4 A5 : Option Addr) (c4 c5 : Nat) (h2 : x.f0 ≠ 2) (pb pc ab eb : Nat) (w0 : World) : Ct 80 [.agg #[.slice none 0 0, .slice none 0 0, .slice none 0 0, .slice none 0 0, .slice none 0 0], .agg #[.int .i64 x.f0, .bool x.f1, .int .i64 x.f2, .string x.f3, .slice A4 x.f4.length c4, .slice A5 x.f5.length c5], .agg #[.string ⟨#[49]⟩, .string ⟨#[77, 105, 110, 80, 114, 111, 112, 101, 114, 116, 105, 101, 115]⟩, .slice (some ⟨pb, 0, none⟩) 1 pc, .slice (some ⟨ab, 0, none⟩) 0 0, .string ⟨#[]⟩, .slice none 0 0, .slice (some ⟨eb, 0, none⟩) 2 2, .slice none 0 0]] w0 (fun _ : Unit => .bool false) (fun _ => []) (fun _ => True) := by
 unfold Ct
 refine c_enter (n := 50) (L := [(2, .agg #[.string ⟨#[49]⟩, .string ⟨#[77, 105, 110, 80, 114, 111, 112, 101, 114, 116, 105, 101, 115]⟩, .slice (some ⟨pb, 0, none⟩) 1 pc, .slice (some ⟨ab, 0, none⟩) 0 0, .string ⟨#[]⟩, .slice none 0 0, .slice (some ⟨eb, 0, none⟩) 2 2, .slice none 0 0]), (1, .agg #[.int .i64 x.f0, .bool x.f1, .int .i64 x.f2, .string x.f3, .slice A4 x.f4.length c4, .slice A5 x.f5.length c5]), (0, .agg #[.slice none 0 0, .slice none 0 0, .slice none 0 0, .slice none 0 0, .slice none 0 0])]) Tryz.func80 J J J J ?_
 intro a hF
 have hH := Hp.start w0
 refine c_open (fun Q hpan hret hnorm => ?_)
 repeat (first | (refine is_list ?_; first | (refine s_pe hF J J J J ?_; clear hF; intro a hF) | (refine is_load ?_; refine s_ld 1 hF hH J J J J J J J ?_; clear hF; intro a hF) | (refine s_bx hF hH J J J J ?_; clear hF hH; intro a b w hF hH)) | refine c_seq (fun K hK => ?_) | refine wp_region_lit ?_ | (refine c_nilK hK ?_; clear hK))
 rw [ine_t h2] at hF
 repeat (first | (refine is_list ?_; (first | refine s_pe hF J J J J ?_ | refine x_off hF J J J ?_); clear hF; intro a hF) | refine c_seq (fun K hK => ?_) | refine wp_region_lit ?_ | (refine c_nilK hK ?_; clear hK) | refine c_true hF rfl ?_ | refine wp_ret ?_ | (refine e_ret ?_; clear hK))
 exact hret _ _ (c_ret1 hF J J ⟨(), trivial, rfl, hH.mid 0 3⟩)
theorem jInPlaceRight_MinProperties (bn : Nat) (lm : Lm) (x : S27) (A4 A5 : Option Addr) (c4 c5 : Nat) (pb pc ab eb : Nat) (w0 : World) : Ct 78 [.int .i64 2020, .agg #[.slice (some ⟨bn, 0, none⟩) 1 1, .slice none 0 0], .agg (nodeL lm).toArray, .agg #[.int .i64 x.f0, .bool x.f1, .int .i64 x.f2, .string x.f3, .slice A4 x.f4.length c4, .slice A5 x.f5.length c5], .agg #[.string ⟨#[49]⟩, .string ⟨#[77, 105, 110, 80, 114, 111, 112, 101, 114, 116, 105, 101, 115]⟩, .slice (some ⟨pb, 0, none⟩) 1 pc, .slice (some ⟨ab, 0, none⟩) 0 0, .string ⟨#[]⟩, .slice none 0 0, .slice (some ⟨eb, 0, none⟩) 2 2, .slice none 0 0]] w0 (fun _ : Unit => .bool false) (fun _ => []) (fun _ => True) := by
 unfold Ct
 refine c_enter (n := 136) (L := [(4, .agg #[.string ⟨#[49]⟩, .string ⟨#[77, 105, 110, 80, 114, 111, 112, 101, 114, 116, 105, 101, 115]⟩, .slice (some ⟨pb, 0, none⟩) 1 pc, .slice (some ⟨ab, 0, none⟩) 0 0, .string ⟨#[]⟩, .slice none 0 0, .slice (some ⟨eb, 0, none⟩) 2 2, .slice none 0 0]), (3, .agg #[.int .i64 x.f0, .bool x.f1, .int .i64 x.f2, .string x.f3, .slice A4 x.f4.length c4, .slice A5 x.f5.length c5]), (2, .agg (nodeL lm).toArray), (1, .agg #[.slice (some ⟨bn, 0, none⟩) 1 1, .slice none 0 0]), (0, .int .i64 2020)]) Tryz.func78 J J J J ?_
 intro a hF
 have hH := Hp.start w0
 refine c_open (fun Q hpan hret hnorm => ?_)
 repeat (first | (refine is_list ?_; first | (refine s_pe hF J J J J ?_; clear hF; intro a hF) | (refine is_load ?_; refine s_ld 0 hF hH J J J J J J J ?_; clear hF; intro a hF) | (refine s_bx hF hH J J J J ?_; clear hF hH; intro a b w hF hH)) | refine c_seq (fun K hK => ?_) | refine wp_region_lit ?_ | (refine c_nilK hK ?_; clear hK) | refine c_false hF rfl ?_ | refine wp_block ?_ | refine wp_ret ?_ | refine wp_skip ?_ | refine e_bnormal ?_ | (refine e_thenK hK ?_; clear hK))
 exact hret _ _ (c_ret1 hF J J ⟨(), trivial, rfl, hH.mid 0 4⟩)
theorem jValueRight_MinProperties (lm : Lm) (x : S27) (A4 A5 : Option Addr) (c4 c5 : Nat) (h3 : x.f3.size < 4611686018427387904) (pb pc ab eb : Nat) (w0 : World) : Ct 79 [.agg (nodeL lm).toArray, .agg #[.int .i64 x.f0, .bool x.f1, .int .i64 x.f2, .string x.f3, .slice A4 x.f4.length c4, .slice A5 x.f5.length c5], .agg #[.string ⟨#[49]⟩, .string ⟨#[77, 105, 110, 80, 114, 111, 112, 101, 114, 116, 105, 101, 115]⟩, .slice (some ⟨pb, 0, none⟩) 1 pc, .slice (some ⟨ab, 0, none⟩) 0 0, .string ⟨#[]⟩, .slice none 0 0, .slice (some ⟨eb, 0, none⟩) 2 2, .slice none 0 0]] w0 (fun _ : Unit => .bool false) (fun _ => []) (fun _ => True) := by
 unfold Ct
 refine c_enter (n := 150) (L := [(2, .agg #[.string ⟨#[49]⟩, .string ⟨#[77, 105, 110, 80, 114, 111, 112, 101, 114, 116, 105, 101, 115]⟩, .slice (some ⟨pb, 0, none⟩) 1 pc, .slice (some ⟨ab, 0, none⟩) 0 0, .string ⟨#[]⟩, .slice none 0 0, .slice (some ⟨eb, 0, none⟩) 2 2, .slice none 0 0]), (1, .agg #[.int .i64 x.f0, .bool x.f1, .int .i64 x.f2, .string x.f3, .slice A4 x.f4.length c4, .slice A5 x.f5.length c5]), (0, .agg (nodeL lm).toArray)]) Tryz.func79 J J J J ?_
 intro a hF
 have hH := Hp.start w0
 refine c_open (fun Q hpan hret hnorm => ?_)
 repeat (first | (refine is_list ?_; first | (refine s_pe hF J J J J ?_; clear hF; intro a hF) | (refine is_load ?_; (first | refine s_ld 0 hF hH J J J J J J J ?_ | refine s_ld 1 hF hH J J J J J J J ?_); clear hF; intro a hF) | (refine is_call ?_; refine s_call hF hH J J J J J (c34 x.f3 h3 _) ?_; clear hF hH; intro a w r hr hF hH) | (refine s_bx hF hH J J J J ?_; clear hF hH; intro a b w hF hH)) | refine c_seq (fun K hK => ?_) | refine wp_region_lit ?_ | (refine c_nilK hK ?_; clear hK) | refine c_false hF rfl ?_ | refine wp_block ?_ | refine wp_ret ?_ | refine wp_skip ?_ | refine e_bnormal ?_ | (refine e_thenK hK ?_; clear hK))
 exact hret _ _ (c_ret1 hF J J ⟨(), trivial, rfl, hH.mid 0 3⟩)
theorem jArrayRight_MinProperties (bn : Nat) (lm : Lm) (x : S27) (A4 A5 : Option Addr) (c4 c5 : Nat) (pb pc ab eb : Nat) (w0 : World) (h0 : x.f0 = 5) : Ct 81 [.int .i64 2020, .agg #[.slice (some ⟨bn, 0, none⟩) 1 1, .slice none 0 0], .agg (nodeL lm).toArray, .agg #[.int .i64 x.f0, .bool x.f1, .int .i64 x.f2, .string x.f3, .slice A4 x.f4.length c4, .slice A5 x.f5.length c5], .agg #[.string ⟨#[49]⟩, .string ⟨#[77, 105, 110, 80, 114, 111, 112, 101, 114, 116, 105, 101, 115]⟩, .slice (some ⟨pb, 0, none⟩) 1 pc, .slice (some ⟨ab, 0, none⟩) 0 0, .string ⟨#[]⟩, .slice none 0 0, .slice (some ⟨eb, 0, none⟩) 2 2, .slice none 0 0]] w0 (fun _ : Unit => .bool false) (fun _ => []) (fun _ => True) := by
 unfold Ct
 refine c_enter (n := 113) (L := [(4, .agg #[.string ⟨#[49]⟩, .string ⟨#[77, 105, 110, 80, 114, 111, 112, 101, 114, 116, 105, 101, 115]⟩, .slice (some ⟨pb, 0, none⟩) 1 pc, .slice (some ⟨ab, 0, none⟩) 0 0, .string ⟨#[]⟩, .slice none 0 0, .slice (some ⟨eb, 0, none⟩) 2 2, .slice none 0 0]), (3, .agg #[.int .i64 x.f0, .bool x.f1, .int .i64 x.f2, .string x.f3, .slice A4 x.f4.length c4, .slice A5 x.f5.length c5]), (2, .agg (nodeL lm).toArray), (1, .agg #[.slice (some ⟨bn, 0, none⟩) 1 1, .slice none 0 0]), (0, .int .i64 2020)]) Tryz.func81 J J J J ?_
 intro a hF
 have hH := Hp.start w0
 refine c_open (fun Q hpan hret hnorm => ?_)
 repeat (first | (refine is_list ?_; first | (refine s_pe hF J J J J ?_; clear hF; intro a hF) | (refine is_load ?_; refine s_ld 1 hF hH J J J J J J J ?_; clear hF; intro a hF) | (refine s_bx hF hH J J J J ?_; clear hF hH; intro a b w hF hH)) | refine c_seq (fun K hK => ?_) | refine wp_region_lit ?_ | (refine c_nilK hK ?_; clear hK))
 refine c_true hF (cb (ine_t (show ¬ x.f0 = 4 by omega))) ?_
 repeat (first | (refine is_list ?_; refine s_pe hF J J J J ?_; clear hF; intro a hF) | refine c_seq (fun K hK => ?_) | refine wp_region_lit ?_ | (refine c_nilK hK ?_; clear hK) | refine wp_ret ?_ | (refine e_ret ?_; clear hK))
 exact hret _ _ (c_ret1 hF J J ⟨(), trivial, rfl, hH.mid 0 4⟩)
theorem jNumberRight_MaxProperties (x : S27) (A4 A5 : Option Addr) (c4 c5 : Nat) (h2 : x.f0 ≠ 2) (pb pc ab eb : Nat) (w0 : World) : Ct 80 [.agg #[.slice none 0 0, .slice none 0 0, .slice none 0 0, .slice none 0 0, .slice none 0 0], .agg #[.int .i64 x.f0, .bool x.f1, .int .i64 x.f2, .string x.f3, .slice A4 x.f4.length c4, .slice A5 x.f5.length c5], .agg #[.string ⟨#[49]⟩, .string ⟨#[77, 97, 120, 80, 114, 111, 112, 101, 114, 116, 105, 101, 115]⟩, .slice (some ⟨pb, 0, none⟩) 1 pc, .slice (some ⟨ab, 0, none⟩) 0 0, .string ⟨#[]⟩, .slice none 0 0, .slice (some ⟨eb, 0, none⟩) 2 2, .slice none 0 0]] w0 (fun _ : Unit => .bool false) (fun _ => []) (fun _ => True) := by
 unfold Ct
 refine c_enter (n := 50) (L := [(2, .agg #[.string ⟨#[49]⟩, .string ⟨#[77, 97, 120, 80, 114, 111, 112, 101, 114, 116, 105, 101, 115]⟩, .slice (some ⟨pb, 0, none⟩) 1 pc, .slice (some ⟨ab, 0, none⟩) 0 0, .string ⟨#[]⟩, .slice none 0 0, .slice (some ⟨eb, 0, none⟩) 2 2, .slice none 0 0]), (1, .agg #[.int .i64 x.f0, .bool x.f1, .int .i64 x.f2, .string x.f3, .slice A4 x.f4.length c4, .slice A5 x.f5.length c5]), (0, .agg #[.slice none 0 0, .slice none 0 0, .slice none 0 0, .slice none 0 0, .slice none 0 0])]) Tryz.func80 J J J J ?_
 intro a hF
 have hH := Hp.start w0
 refine c_open (fun Q hpan hret hnorm => ?_)
 repeat (first | (refine is_list ?_; first | (refine s_pe hF J J J J ?_; clear hF; intro a hF) | (refine is_load ?_; refine s_ld 1 hF hH J J J J J J J ?_; clear hF; intro a hF) | (refine s_bx hF hH J J J J ?_; clear hF hH; intro a b w hF hH)) | refine c_seq (fun K hK => ?_) | refine wp_region_lit ?_ | (refine c_nilK hK ?_; clear hK))
 rw [ine_t h2] at hF
 repeat (first | (refine is_list ?_; (first | refine s_pe hF J J J J ?_ | refine x_off hF J J J ?_); clear hF; intro a hF) | refine c_seq (fun K hK => ?_) | refine wp_region_lit ?_ | (refine c_nilK hK ?_; clear hK) | refine c_true hF rfl ?_ | refine wp_ret ?_ | (refine e_ret ?_; clear hK))
 exact hret _ _ (c_ret1 hF J J ⟨(), trivial, rfl, hH.mid 0 3⟩)
theorem jInPlaceRight_MaxProperties (bn : Nat) (lm : Lm) (x : S27) (A4 A5 : Option Addr) (c4 c5 : Nat) (pb pc ab eb : Nat) (w0 : World) : Ct 78 [.int .i64 2020, .agg #[.slice (some ⟨bn, 0, none⟩) 1 1, .slice none 0 0], .agg (nodeL lm).toArray, .agg #[.int .i64 x.f0, .bool x.f1, .int .i64 x.f2, .string x.f3, .slice A4 x.f4.length c4, .slice A5 x.f5.length c5], .agg #[.string ⟨#[49]⟩, .string ⟨#[77, 97, 120, 80, 114, 111, 112, 101, 114, 116, 105, 101, 115]⟩, .slice (some ⟨pb, 0, none⟩) 1 pc, .slice (some ⟨ab, 0, none⟩) 0 0, .string ⟨#[]⟩, .slice none 0 0, .slice (some ⟨eb, 0, none⟩) 2 2, .slice none 0 0]] w0 (fun _ : Unit => .bool false) (fun _ => []) (fun _ => True) := by
 unfold Ct
 refine c_enter (n := 136) (L := [(4, .agg #[.string ⟨#[49]⟩, .string ⟨#[77, 97, 120, 80, 114, 111, 112, 101, 114, 116, 105, 101, 115]⟩, .slice (some ⟨pb, 0, none⟩) 1 pc, .slice (some ⟨ab, 0, none⟩) 0 0, .string ⟨#[]⟩, .slice none 0 0, .slice (some ⟨eb, 0, none⟩) 2 2, .slice none 0 0]), (3, .agg #[.int .i64 x.f0, .bool x.f1, .int .i64 x.f2, .string x.f3, .slice A4 x.f4.length c4, .slice A5 x.f5.length c5]), (2, .agg (nodeL lm).toArray), (1, .agg #[.slice (some ⟨bn, 0, none⟩) 1 1, .slice none 0 0]), (0, .int .i64 2020)]) Tryz.func78 J J J J ?_
 intro a hF
 have hH := Hp.start w0
 refine c_open (fun Q hpan hret hnorm => ?_)
 repeat (first | (refine is_list ?_; first | (refine s_pe hF J J J J ?_; clear hF; intro a hF) | (refine is_load ?_; refine s_ld 0 hF hH J J J J J J J ?_; clear hF; intro a hF) | (refine s_bx hF hH J J J J ?_; clear hF hH; intro a b w hF hH)) | refine c_seq (fun K hK => ?_) | refine wp_region_lit ?_ | (refine c_nilK hK ?_; clear hK) | refine c_false hF rfl ?_ | refine wp_block ?_ | refine wp_ret ?_ | refine wp_skip ?_ | refine e_bnormal ?_ | (refine e_thenK hK ?_; clear hK))
 exact hret _ _ (c_ret1 hF J J ⟨(), trivial, rfl, hH.mid 0 4⟩)
theorem jValueRight_MaxProperties (lm : Lm) (x : S27) (A4 A5 : Option Addr) (c4 c5 : Nat) (h3 : x.f3.size < 4611686018427387904) (pb pc ab eb : Nat) (w0 : World) : Ct 79 [.agg (nodeL lm).toArray, .agg #[.int .i64 x.f0, .bool x.f1, .int .i64 x.f2, .string x.f3, .slice A4 x.f4.length c4, .slice A5 x.f5.length c5], .agg #[.string ⟨#[49]⟩, .string ⟨#[77, 97, 120, 80, 114, 111, 112, 101, 114, 116, 105, 101, 115]⟩, .slice (some ⟨pb, 0, none⟩) 1 pc, .slice (some ⟨ab, 0, none⟩) 0 0, .string ⟨#[]⟩, .slice none 0 0, .slice (some ⟨eb, 0, none⟩) 2 2, .slice none 0 0]] w0 (fun _ : Unit => .bool false) (fun _ => []) (fun _ => True) := by
 unfold Ct
 refine c_enter (n := 150) (L := [(2, .agg #[.string ⟨#[49]⟩, .string ⟨#[77, 97, 120, 80, 114, 111, 112, 101, 114, 116, 105, 101, 115]⟩, .slice (some ⟨pb, 0, none⟩) 1 pc, .slice (some ⟨ab, 0, none⟩) 0 0, .string ⟨#[]⟩, .slice none 0 0, .slice (some ⟨eb, 0, none⟩) 2 2, .slice none 0 0]), (1, .agg #[.int .i64 x.f0, .bool x.f1, .int .i64 x.f2, .string x.f3, .slice A4 x.f4.length c4, .slice A5 x.f5.length c5]), (0, .agg (nodeL lm).toArray)]) Tryz.func79 J J J J ?_
 intro a hF
 have hH := Hp.start w0
 refine c_open (fun Q hpan hret hnorm => ?_)
 repeat (first | (refine is_list ?_; first | (refine s_pe hF J J J J ?_; clear hF; intro a hF) | (refine is_load ?_; (first | refine s_ld 0 hF hH J J J J J J J ?_ | refine s_ld 1 hF hH J J J J J J J ?_); clear hF; intro a hF) | (refine is_call ?_; refine s_call hF hH J J J J J (c34 x.f3 h3 _) ?_; clear hF hH; intro a w r hr hF hH) | (refine s_bx hF hH J J J J ?_; clear hF hH; intro a b w hF hH)) | refine c_seq (fun K hK => ?_) | refine wp_region_lit ?_ | (refine c_nilK hK ?_; clear hK) | refine c_false hF rfl ?_ | refine wp_block ?_ | refine wp_ret ?_ | refine wp_skip ?_ | refine e_bnormal ?_ | (refine e_thenK hK ?_; clear hK))
 exact hret _ _ (c_ret1 hF J J ⟨(), trivial, rfl, hH.mid 0 3⟩)
theorem jArrayRight_MaxProperties (bn : Nat) (lm : Lm) (x : S27) (A4 A5 : Option Addr) (c4 c5 : Nat) (pb pc ab eb : Nat) (w0 : World) (h0 : x.f0 = 5) : Ct 81 [.int .i64 2020, .agg #[.slice (some ⟨bn, 0, none⟩) 1 1, .slice none 0 0], .agg (nodeL lm).toArray, .agg #[.int .i64 x.f0, .bool x.f1, .int .i64 x.f2, .string x.f3, .slice A4 x.f4.length c4, .slice A5 x.f5.length c5], .agg #[.string ⟨#[49]⟩, .string ⟨#[77, 97, 120, 80, 114, 111, 112, 101, 114, 116, 105, 101, 115]⟩, .slice (some ⟨pb, 0, none⟩) 1 pc, .slice (some ⟨ab, 0, none⟩) 0 0, .string ⟨#[]⟩, .slice none 0 0, .slice (some ⟨eb, 0, none⟩) 2 2, .slice none 0 0]] w0 (fun _ : Unit => .bool false) (fun _ => []) (fun _ => True) := by
 unfold Ct
 refine c_enter (n := 113) (L := [(4, .agg #[.string ⟨#[49]⟩, .string ⟨#[77, 97, 120, 80, 114, 111, 112, 101, 114, 116, 105, 101, 115]⟩, .slice (some ⟨pb, 0, none⟩) 1 pc, .slice (some ⟨ab, 0, none⟩) 0 0, .string ⟨#[]⟩, .slice none 0 0, .slice (some ⟨eb, 0, none⟩) 2 2, .slice none 0 0]), (3, .agg #[.int .i64 x.f0, .bool x.f1, .int .i64 x.f2, .string x.f3, .slice A4 x.f4.length c4, .slice A5 x.f5.length c5]), (2, .agg (nodeL lm).toArray), (1, .agg #[.slice (some ⟨bn, 0, none⟩) 1 1, .slice none 0 0]), (0, .int .i64 2020)]) Tryz.func81 J J J J ?_
 intro a hF
 have hH := Hp.start w0
 refine c_open (fun Q hpan hret hnorm => ?_)
 repeat (first | (refine is_list ?_; first | (refine s_pe hF J J J J ?_; clear hF; intro a hF) | (refine is_load ?_; refine s_ld 1 hF hH J J J J J J J ?_; clear hF; intro a hF) | (refine s_bx hF hH J J J J ?_; clear hF hH; intro a b w hF hH)) | refine c_seq (fun K hK => ?_) | refine wp_region_lit ?_ | (refine c_nilK hK ?_; clear hK))
 refine c_true hF (cb (ine_t (show ¬ x.f0 = 4 by omega))) ?_
 repeat (first | (refine is_list ?_; refine s_pe hF J J J J ?_; clear hF; intro a hF) | refine c_seq (fun K hK => ?_) | refine wp_region_lit ?_ | (refine c_nilK hK ?_; clear hK) | refine wp_ret ?_ | (refine e_ret ?_; clear hK))
 exact hret _ _ (c_ret1 hF J J ⟨(), trivial, rfl, hH.mid 0 4⟩)
end Go.Proofs.YtlkikblohnnlcaaGreatDoor.Y
end
section
namespace Go.Proofs.YtlkikblohnnlcaaGreatDoor.Y
open Go Go.RowKit X R Go.Proofs.YtlkikblohnnlcaaGreatDoorW.PrintWords
set_option linter.unusedVariables false
set_option maxRecDepth 4000
attribute [local irreducible] wpList dL Code.wp bodyPost Ct Calls Exit.then Exit.inBlock Code.rounds
set_option maxHeartbeats 0
theorem jObjectRight_MinProperties (lm : Lm) (x : S27) (A4 A5 : Option Addr) (c4 c5 : Nat) (hx : Gd x) (pb pc ab eb : Nat) (w0 : World) (h0 : x.f0 = 5) (ht : lm.t5 = true) (hlt : (((U.dd x.f4).length : Nat) : Int) < lm.n5) (hE : Old w0 eb [.int .i64 (((U.dd x.f4).length : Nat) : Int), .int .i64 lm.n5]) (hX : k27.K w0 x [.int .i64 x.f0, .bool x.f1, .int .i64 x.f2, .string x.f3, .slice A4 x.f4.length c4, .slice A5 x.f5.length c5]) : Ct 82 [.agg (nodeL lm).toArray, .agg #[.int .i64 x.f0, .bool x.f1, .int .i64 x.f2, .string x.f3, .slice A4 x.f4.length c4, .slice A5 x.f5.length c5], .agg #[.string ⟨#[49]⟩, .string ⟨#[77, 105, 110, 80, 114, 111, 112, 101, 114, 116, 105, 101, 115]⟩, .slice (some ⟨pb, 0, none⟩) 1 pc, .slice (some ⟨ab, 0, none⟩) 0 0, .string ⟨#[]⟩, .slice none 0 0, .slice (some ⟨eb, 0, none⟩) 2 2, .slice none 0 0]] w0 (fun _ : Unit => .bool true) (fun _ => []) (fun _ => True) := by
 unfold Ct
 refine c_enter (n := 198) (L := [(2, .agg #[.string ⟨#[49]⟩, .string ⟨#[77, 105, 110, 80, 114, 111, 112, 101, 114, 116, 105, 101, 115]⟩, .slice (some ⟨pb, 0, none⟩) 1 pc, .slice (some ⟨ab, 0, none⟩) 0 0, .string ⟨#[]⟩, .slice none 0 0, .slice (some ⟨eb, 0, none⟩) 2 2, .slice none 0 0]), (1, .agg #[.int .i64 x.f0, .bool x.f1, .int .i64 x.f2, .string x.f3, .slice A4 x.f4.length c4, .slice A5 x.f5.length c5]), (0, .agg (nodeL lm).toArray)]) Tryz.func82 J J J J ?_
 intro a hF
 have hH := Hp.start w0
 refine c_open (fun Q hpan hret hnorm => ?_)
 repeat (first | (refine is_list ?_; first | (refine s_pe hF J J J J ?_; clear hF; intro a hF) | (refine is_load ?_; refine s_lda 1 hF hH J J J J J J J ?_; clear hF; intro a hF) | (refine is_call ?_; refine s_call hF hH J J J J J (c72 x hx.sz A4 A5 c4 c5 _ (k27.K_below hH.below hX)) ?_; clear hF hH; intro a w p hp hF hH) | (refine s_bx hF hH J J J J ?_; clear hF hH; intro a b w hF hH)) | refine c_seq (fun K hK => ?_) | refine wp_region_lit ?_ | (refine c_nilK hK ?_; clear hK))
 obtain ⟨l, o⟩ := p
 have hlen : l.length = (U.dd x.f4).length := hp.len
 rw [← hlen] at hlt hE
 cases o with
 | none =>
  dsimp only [mlV, mlH] at hF hH
  obtain rfl : l = [] := hp.nil rfl
  simp only [List.length_nil] at hlt hE
  repeat (first | (refine is_list ?_; first | (refine s_pe hF J J J J ?_; clear hF; intro a hF) | (refine is_load ?_; refine s_ld 1 hF hH J J J J J J J ?_; clear hF; intro a hF)) | refine c_seq (fun K hK => ?_) | refine wp_region_lit ?_ | (refine c_nilK hK ?_; clear hK))
  rw [ine_f h0] at hF
  repeat (first | (refine is_list ?_; first | (refine s_pe hF J J J J ?_; clear hF; intro a hF) | (refine is_load ?_; (first | refine s_ld 0 hF hH J J J J J J J ?_ | refine s_ld 2 hF hH J J J J J J J ?_); clear hF; intro a hF)) | refine c_seq (fun K hK => ?_) | refine wp_region_lit ?_ | (refine c_nilK hK ?_; clear hK) | refine c_true hF rfl ?_ | refine c_false hF rfl ?_ | refine wp_block ?_ | refine wp_skip ?_ | (refine e_thenK hK ?_; clear hK))
  rw [ht] at hF
  repeat (refine is_list ?_; first | (refine s_pe hF J J J J ?_; clear hF; intro a hF) | (refine is_load ?_; refine s_ld 2 hF hH J J J J J J J ?_; clear hF; intro a hF))
  rw [show decide (((0 : Nat) : Int) < lm.n5) = true from decide_eq_true hlt] at hF
  repeat (first | (refine is_list ?_; first | (refine s_pe hF J J J J ?_; clear hF; intro a hF) | (refine is_load ?_; (first | refine s_ld 0 hF hH J J J J J J J ?_ | refine s_ld 2 hF hH J J J J J J J ?_); clear hF; intro a hF) | (refine is_call ?_; refine s_call hF hH J J J J J (jSameNums_ok eb _ _ _ _ (hE.later hH) (hH.toOld (i := 0) rfl)) ?_; clear hF hH; intro a w r hr hF hH) | (refine s_bs hF hH J J J J J J J J J J ?_; clear hF hH; intro a b w hF hH)) | (refine c_nilK hK ?_; clear hK) | refine wp_ret ?_ | (refine e_ret ?_; clear hK) | refine e_bret ?_)
  exact hret _ _ (c_ret1 hF J J ⟨(), trivial, rfl, hH.mid 0 4⟩)
 | some g =>
  obtain ⟨g, cap, cur⟩ := g
  dsimp only [mlV, mlH] at hF hH
  repeat (first | (refine is_list ?_; first | (refine s_pe hF J J J J ?_; clear hF; intro a hF) | (refine is_load ?_; refine s_ld 2 hF hH J J J J J J J ?_; clear hF; intro a hF)) | refine c_seq (fun K hK => ?_) | refine wp_region_lit ?_ | (refine c_nilK hK ?_; clear hK))
  rw [ine_f h0] at hF
  repeat (first | (refine is_list ?_; first | (refine s_pe hF J J J J ?_; clear hF; intro a hF) | (refine is_load ?_; (first | refine s_ld 1 hF hH J J J J J J J ?_ | refine s_ld 3 hF hH J J J J J J J ?_); clear hF; intro a hF)) | refine c_seq (fun K hK => ?_) | refine wp_region_lit ?_ | (refine c_nilK hK ?_; clear hK) | refine c_true hF rfl ?_ | refine c_false hF rfl ?_ | refine wp_block ?_ | refine wp_skip ?_ | (refine e_thenK hK ?_; clear hK))
  rw [ht] at hF
  repeat (refine is_list ?_; first | (refine s_pe hF J J J J ?_; clear hF; intro a hF) | (refine is_load ?_; refine s_ld 3 hF hH J J J J J J J ?_; clear hF; intro a hF))
  rw [show decide (((l.length : Nat) : Int) < lm.n5) = true from decide_eq_true hlt] at hF
  repeat (first | (refine is_list ?_; first | (refine s_pe hF J J J J ?_; clear hF; intro a hF) | (refine is_load ?_; (first | refine s_ld 1 hF hH J J J J J J J ?_ | refine s_ld 3 hF hH J J J J J J J ?_); clear hF; intro a hF) | (refine is_call ?_; refine s_call hF hH J J J J J (jSameNums_ok eb _ _ _ _ (hE.later hH) (hH.toOld (i := 0) rfl)) ?_; clear hF hH; intro a w r hr hF hH) | (refine s_bs hF hH J J J J J J J J J J ?_; clear hF hH; intro a b w hF hH)) | (refine c_nilK hK ?_; clear hK) | refine wp_ret ?_ | (refine e_ret ?_; clear hK) | refine e_bret ?_)
  exact hret _ _ (c_ret1 hF J J ⟨(), trivial, rfl, hH.mid 0 5⟩)
theorem jObjectRight_MaxProperties (lm : Lm) (x : S27) (A4 A5 : Option Addr) (c4 c5 : Nat) (hx : Gd x) (pb pc ab eb : Nat) (w0 : World) (h0 : x.f0 = 5) (ht : lm.t6 = true) (hlt : (((U.dd x.f4).length : Nat) : Int) > lm.n6) (hE : Old w0 eb [.int .i64 (((U.dd x.f4).length : Nat) : Int), .int .i64 lm.n6]) (hX : k27.K w0 x [.int .i64 x.f0, .bool x.f1, .int .i64 x.f2, .string x.f3, .slice A4 x.f4.length c4, .slice A5 x.f5.length c5]) : Ct 82 [.agg (nodeL lm).toArray, .agg #[.int .i64 x.f0, .bool x.f1, .int .i64 x.f2, .string x.f3, .slice A4 x.f4.length c4, .slice A5 x.f5.length c5], .agg #[.string ⟨#[49]⟩, .string ⟨#[77, 97, 120, 80, 114, 111, 112, 101, 114, 116, 105, 101, 115]⟩, .slice (some ⟨pb, 0, none⟩) 1 pc, .slice (some ⟨ab, 0, none⟩) 0 0, .string ⟨#[]⟩, .slice none 0 0, .slice (some ⟨eb, 0, none⟩) 2 2, .slice none 0 0]] w0 (fun _ : Unit => .bool true) (fun _ => []) (fun _ => True) := by
 unfold Ct
 refine c_enter (n := 198) (L := [(2, .agg #[.string ⟨#[49]⟩, .string ⟨#[77, 97, 120, 80, 114, 111, 112, 101, 114, 116, 105, 101, 115]⟩, .slice (some ⟨pb, 0, none⟩) 1 pc, .slice (some ⟨ab, 0, none⟩) 0 0, .string ⟨#[]⟩, .slice none 0 0, .slice (some ⟨eb, 0, none⟩) 2 2, .slice none 0 0]), (1, .agg #[.int .i64 x.f0, .bool x.f1, .int .i64 x.f2, .string x.f3, .slice A4 x.f4.length c4, .slice A5 x.f5.length c5]), (0, .agg (nodeL lm).toArray)]) Tryz.func82 J J J J ?_
 intro a hF
 have hH := Hp.start w0
 refine c_open (fun Q hpan hret hnorm => ?_)
 repeat (first | (refine is_list ?_; first | (refine s_pe hF J J J J ?_; clear hF; intro a hF) | (refine is_load ?_; refine s_lda 1 hF hH J J J J J J J ?_; clear hF; intro a hF) | (refine is_call ?_; refine s_call hF hH J J J J J (c72 x hx.sz A4 A5 c4 c5 _ (k27.K_below hH.below hX)) ?_; clear hF hH; intro a w p hp hF hH) | (refine s_bx hF hH J J J J ?_; clear hF hH; intro a b w hF hH)) | refine c_seq (fun K hK => ?_) | refine wp_region_lit ?_ | (refine c_nilK hK ?_; clear hK))
 obtain ⟨l, o⟩ := p
 have hlen : l.length = (U.dd x.f4).length := hp.len
 rw [← hlen] at hlt hE
 cases o with
 | none =>
  dsimp only [mlV, mlH] at hF hH
  obtain rfl : l = [] := hp.nil rfl
  simp only [List.length_nil] at hlt hE
  repeat (first | (refine is_list ?_; first | (refine s_pe hF J J J J ?_; clear hF; intro a hF) | (refine is_load ?_; refine s_ld 1 hF hH J J J J J J J ?_; clear hF; intro a hF)) | refine c_seq (fun K hK => ?_) | refine wp_region_lit ?_ | (refine c_nilK hK ?_; clear hK))
  rw [ine_f h0] at hF
  repeat (first | (refine is_list ?_; first | (refine s_pe hF J J J J ?_; clear hF; intro a hF) | (refine is_load ?_; (first | refine s_ld 0 hF hH J J J J J J J ?_ | refine s_ld 2 hF hH J J J J J J J ?_); clear hF; intro a hF)) | refine c_seq (fun K hK => ?_) | refine wp_region_lit ?_ | (refine c_nilK hK ?_; clear hK) | refine c_true hF rfl ?_ | refine c_false hF rfl ?_ | refine wp_block ?_ | refine wp_skip ?_ | (refine e_thenK hK ?_; clear hK))
  rw [ht] at hF
  repeat (refine is_list ?_; first | (refine s_pe hF J J J J ?_; clear hF; intro a hF) | (refine is_load ?_; refine s_ld 2 hF hH J J J J J J J ?_; clear hF; intro a hF))
  rw [show decide (((0 : Nat) : Int) > lm.n6) = true from decide_eq_true hlt] at hF
  repeat (first | (refine is_list ?_; first | (refine s_pe hF J J J J ?_; clear hF; intro a hF) | (refine is_load ?_; (first | refine s_ld 0 hF hH J J J J J J J ?_ | refine s_ld 2 hF hH J J J J J J J ?_); clear hF; intro a hF) | (refine is_call ?_; refine s_call hF hH J J J J J (jSameNums_ok eb _ _ _ _ (hE.later hH) (hH.toOld (i := 0) rfl)) ?_; clear hF hH; intro a w r hr hF hH) | (refine s_bs hF hH J J J J J J J J J J ?_; clear hF hH; intro a b w hF hH)) | (refine c_nilK hK ?_; clear hK) | refine wp_ret ?_ | (refine e_ret ?_; clear hK) | refine e_bret ?_)
  exact hret _ _ (c_ret1 hF J J ⟨(), trivial, rfl, hH.mid 0 4⟩)
 | some g =>
  obtain ⟨g, cap, cur⟩ := g
  dsimp only [mlV, mlH] at hF hH
  repeat (first | (refine is_list ?_; first | (refine s_pe hF J J J J ?_; clear hF; intro a hF) | (refine is_load ?_; refine s_ld 2 hF hH J J J J J J J ?_; clear hF; intro a hF)) | refine c_seq (fun K hK => ?_) | refine wp_region_lit ?_ | (refine c_nilK hK ?_; clear hK))
  rw [ine_f h0] at hF
  repeat (first | (refine is_list ?_; first | (refine s_pe hF J J J J ?_; clear hF; intro a hF) | (refine is_load ?_; (first | refine s_ld 1 hF hH J J J J J J J ?_ | refine s_ld 3 hF hH J J J J J J J ?_); clear hF; intro a hF)) | refine c_seq (fun K hK => ?_) | refine wp_region_lit ?_ | (refine c_nilK hK ?_; clear hK) | refine c_true hF rfl ?_ | refine c_false hF rfl ?_ | refine wp_block ?_ | refine wp_skip ?_ | (refine e_thenK hK ?_; clear hK))
  rw [ht] at hF
  repeat (refine is_list ?_; first | (refine s_pe hF J J J J ?_; clear hF; intro a hF) | (refine is_load ?_; refine s_ld 3 hF hH J J J J J J J ?_; clear hF; intro a hF))
  rw [show decide (((l.length : Nat) : Int) > lm.n6) = true from decide_eq_true hlt] at hF
  repeat (first | (refine is_list ?_; first | (refine s_pe hF J J J J ?_; clear hF; intro a hF) | (refine is_load ?_; (first | refine s_ld 1 hF hH J J J J J J J ?_ | refine s_ld 3 hF hH J J J J J J J ?_); clear hF; intro a hF) | (refine is_call ?_; refine s_call hF hH J J J J J (jSameNums_ok eb _ _ _ _ (hE.later hH) (hH.toOld (i := 0) rfl)) ?_; clear hF hH; intro a w r hr hF hH) | (refine s_bs hF hH J J J J J J J J J J ?_; clear hF hH; intro a b w hF hH)) | (refine c_nilK hK ?_; clear hK) | refine wp_ret ?_ | (refine e_ret ?_; clear hK) | refine e_bret ?_)
  exact hret _ _ (c_ret1 hF J J ⟨(), trivial, rfl, hH.mid 0 5⟩)
theorem jKindRight_MinItems (bn : Nat) (lm : Lm) (x : S27) (A4 A5 : Option Addr) (c4 c5 : Nat) (hx : Gd x) (pb pc ab eb : Nat) (w0 : World) (hN : Old w0 bn (nodeL lm)) (h0 : x.f0 = 4) (ht : lm.t3 = true) (hlt : ((x.f5.length : Nat) : Int) < lm.n3) (hE : Old w0 eb [.int .i64 ((x.f5.length : Nat) : Int), .int .i64 lm.n3]) (hX : k27.K w0 x [.int .i64 x.f0, .bool x.f1, .int .i64 x.f2, .string x.f3, .slice A4 x.f4.length c4, .slice A5 x.f5.length c5]) : Ct 41 [.int .i64 2020, .agg #[.slice (some ⟨bn, 0, none⟩) 1 1, .slice none 0 0], .int .i64 1, .agg #[.int .i64 x.f0, .bool x.f1, .int .i64 x.f2, .string x.f3, .slice A4 x.f4.length c4, .slice A5 x.f5.length c5], .agg #[.string ⟨#[49]⟩, .string ⟨#[77, 105, 110, 73, 116, 101, 109, 115]⟩, .slice (some ⟨pb, 0, none⟩) 1 pc, .slice (some ⟨ab, 0, none⟩) 0 0, .string ⟨#[]⟩, .slice none 0 0, .slice (some ⟨eb, 0, none⟩) 2 2, .slice none 0 0]] w0 (fun _ : Unit => .bool true) (fun _ => []) (fun _ => True) := by
 unfold Ct
 refine c_enter (n := 76) (L := [(4, .agg #[.string ⟨#[49]⟩, .string ⟨#[77, 105, 110, 73, 116, 101, 109, 115]⟩, .slice (some ⟨pb, 0, none⟩) 1 pc, .slice (some ⟨ab, 0, none⟩) 0 0, .string ⟨#[]⟩, .slice none 0 0, .slice (some ⟨eb, 0, none⟩) 2 2, .slice none 0 0]), (3, .agg #[.int .i64 x.f0, .bool x.f1, .int .i64 x.f2, .string x.f3, .slice A4 x.f4.length c4, .slice A5 x.f5.length c5]), (2, .int .i64 1), (1, .agg #[.slice (some ⟨bn, 0, none⟩) 1 1, .slice none 0 0]), (0, .int .i64 2020)]) Tryz.func41 J J J J ?_
 intro a hF
 have hH := Hp.start w0
 refine c_open (fun Q hpan hret hnorm => ?_)
 repeat (first | (refine is_list ?_; first | (refine s_pe hF J J J J ?_; clear hF; intro a hF) | (refine is_load ?_; (first | refine s_ld 0 hF hH J J J J J J J ?_ | refine s_ld 1 hF hH J J J J J J J ?_ | refine s_ld 2 hF hH J J J J J J J ?_ | refine s_ldao hN hF hH J J J J J J ?_); clear hF; intro a hF) | (refine s_ix hF J J J J J J J ?_; clear hF; intro a hF) | (refine s_al hF hH J J J J ?_; clear hF hH; intro a b w hF hH) | (refine s_sta 0 hF hH J J J J J J J J J J ?_; clear hH; intro w hH) | (refine s_bx hF hH J J J J ?_; clear hF hH; intro a b w hF hH)) | (refine is_draw ?_; first | (refine d_pe hF J J J J J J ?_; clear hF; intro a hF) | (refine is_dload rfl ?_; (first | refine d_lda 0 hF hS J J J J J J J J ?_ | refine d_lda 1 hF hS J J J J J J J J ?_ | refine d_lda 2 hF hS J J J J J J J J ?_ | refine d_lda 3 hF hS J J J J J J J J ?_); clear hF; intro a hF) | (refine d_off hF rfl hS J J J ?_; clear hF; intro a hF) | (refine is_dcall rfl ?_; (first | refine d_call hF hH hS J J J J J J (jInPlaceRight_MinItems bn lm x A4 A5 c4 c5 pb pc ab eb _) ?_ | refine d_call hF hH hS J J J J J J (jValueRight_MinItems lm x A4 A5 c4 c5 hx.sz.t3 pb pc ab eb _) ?_ | refine d_call hF hH hS J J J J J J (keep_ok bn _) ?_ | refine d_call hF hH hS J J J J J J (jNumberRight_MinItems x A4 A5 c4 c5 hx.two pb pc ab eb _) ?_ | refine d_call hF hH hS J J J J J J (jArrayRight_MinItems bn lm x A4 A5 c4 c5 pb pc ab eb _ h0 ht hlt (hE.later hH)) ?_); clear hF hH hS; intro a w r hr hF hH hS)) | (refine c_dnilK hK ?_; clear hS hK) | refine c_seq (fun K hK => ?_) | refine wp_region_lit ?_ | (refine c_nilK hK ?_; clear hK) | refine c_false hF rfl ?_ | (refine is_region ?_; refine is_region (id := 6) ?_; refine c_drawn [] [0, 1, 2, 3, 4, 5, 6, 7, 8, 9, 10, 11, 12, 13, 14, 16, 17, 15, 18, 19, 20, 21, 22, 23, 24, 25, 26, 27, 28, 29, 30, 31, 32, 33, 34] hH (by kernel_rfl) (by repeat (first | refine pan_then ?_ | refine pan_block ?_ | exact hpan)) ?_; clear hH; intro w hH; have hS := hH) | refine wp_ret ?_ | refine wp_skip ?_ | (refine e_thenK hK ?_; clear hK))
 exact hret _ _ (c_ret1 hF J J ⟨(), trivial, rfl, hH.mid 0 4⟩)
theorem jKindRight_MaxItems (bn : Nat) (lm : Lm) (x : S27) (A4 A5 : Option Addr) (c4 c5 : Nat) (hx : Gd x) (pb pc ab eb : Nat) (w0 : World) (hN : Old w0 bn (nodeL lm)) (h0 : x.f0 = 4) (ht : lm.t4 = true) (hlt : ((x.f5.length : Nat) : Int) > lm.n4) (hE : Old w0 eb [.int .i64 ((x.f5.length : Nat) : Int), .int .i64 lm.n4]) (hX : k27.K w0 x [.int .i64 x.f0, .bool x.f1, .int .i64 x.f2, .string x.f3, .slice A4 x.f4.length c4, .slice A5 x.f5.length c5]) : Ct 41 [.int .i64 2020, .agg #[.slice (some ⟨bn, 0, none⟩) 1 1, .slice none 0 0], .int .i64 1, .agg #[.int .i64 x.f0, .bool x.f1, .int .i64 x.f2, .string x.f3, .slice A4 x.f4.length c4, .slice A5 x.f5.length c5], .agg #[.string ⟨#[49]⟩, .string ⟨#[77, 97, 120, 73, 116, 101, 109, 115]⟩, .slice (some ⟨pb, 0, none⟩) 1 pc, .slice (some ⟨ab, 0, none⟩) 0 0, .string ⟨#[]⟩, .slice none 0 0, .slice (some ⟨eb, 0, none⟩) 2 2, .slice none 0 0]] w0 (fun _ : Unit => .bool true) (fun _ => []) (fun _ => True) := by
 unfold Ct
 refine c_enter (n := 76) (L := [(4, .agg #[.string ⟨#[49]⟩, .string ⟨#[77, 97, 120, 73, 116, 101, 109, 115]⟩, .slice (some ⟨pb, 0, none⟩) 1 pc, .slice (some ⟨ab, 0, none⟩) 0 0, .string ⟨#[]⟩, .slice none 0 0, .slice (some ⟨eb, 0, none⟩) 2 2, .slice none 0 0]), (3, .agg #[.int .i64 x.f0, .bool x.f1, .int .i64 x.f2, .string x.f3, .slice A4 x.f4.length c4, .slice A5 x.f5.length c5]), (2, .int .i64 1), (1, .agg #[.slice (some ⟨bn, 0, none⟩) 1 1, .slice none 0 0]), (0, .int .i64 2020)]) Tryz.func41 J J J J ?_
 intro a hF
 have hH := Hp.start w0
 refine c_open (fun Q hpan hret hnorm => ?_)
 repeat (first | (refine is_list ?_; first | (refine s_pe hF J J J J ?_; clear hF; intro a hF) | (refine is_load ?_; (first | refine s_ld 0 hF hH J J J J J J J ?_ | refine s_ld 1 hF hH J J J J J J J ?_ | refine s_ld 2 hF hH J J J J J J J ?_ | refine s_ldao hN hF hH J J J J J J ?_); clear hF; intro a hF) | (refine s_ix hF J J J J J J J ?_; clear hF; intro a hF) | (refine s_al hF hH J J J J ?_; clear hF hH; intro a b w hF hH) | (refine s_sta 0 hF hH J J J J J J J J J J ?_; clear hH; intro w hH) | (refine s_bx hF hH J J J J ?_; clear hF hH; intro a b w hF hH)) | (refine is_draw ?_; first | (refine d_pe hF J J J J J J ?_; clear hF; intro a hF) | (refine is_dload rfl ?_; (first | refine d_lda 0 hF hS J J J J J J J J ?_ | refine d_lda 1 hF hS J J J J J J J J ?_ | refine d_lda 2 hF hS J J J J J J J J ?_ | refine d_lda 3 hF hS J J J J J J J J ?_); clear hF; intro a hF) | (refine d_off hF rfl hS J J J ?_; clear hF; intro a hF) | (refine is_dcall rfl ?_; (first | refine d_call hF hH hS J J J J J J (jInPlaceRight_MaxItems bn lm x A4 A5 c4 c5 pb pc ab eb _) ?_ | refine d_call hF hH hS J J J J J J (jValueRight_MaxItems lm x A4 A5 c4 c5 hx.sz.t3 pb pc ab eb _) ?_ | refine d_call hF hH hS J J J J J J (keep_ok bn _) ?_ | refine d_call hF hH hS J J J J J J (jNumberRight_MaxItems x A4 A5 c4 c5 hx.two pb pc ab eb _) ?_ | refine d_call hF hH hS J J J J J J (jArrayRight_MaxItems bn lm x A4 A5 c4 c5 pb pc ab eb _ h0 ht hlt (hE.later hH)) ?_); clear hF hH hS; intro a w r hr hF hH hS)) | (refine c_dnilK hK ?_; clear hS hK) | refine c_seq (fun K hK => ?_) | refine wp_region_lit ?_ | (refine c_nilK hK ?_; clear hK) | refine c_false hF rfl ?_ | (refine is_region ?_; refine is_region (id := 6) ?_; refine c_drawn [] [0, 1, 2, 3, 4, 5, 6, 7, 8, 9, 10, 11, 12, 13, 14, 16, 17, 15, 18, 19, 20, 21, 22, 23, 24, 25, 26, 27, 28, 29, 30, 31, 32, 33, 34] hH (by kernel_rfl) (by repeat (first | refine pan_then ?_ | refine pan_block ?_ | exact hpan)) ?_; clear hH; intro w hH; have hS := hH) | refine wp_ret ?_ | refine wp_skip ?_ | (refine e_thenK hK ?_; clear hK))
 exact hret _ _ (c_ret1 hF J J ⟨(), trivial, rfl, hH.mid 0 4⟩)
theorem jKindRight_MinLength (bn : Nat) (lm : Lm) (x : S27) (A4 A5 : Option Addr) (c4 c5 : Nat) (hx : Gd x) (pb pc ab eb : Nat) (w0 : World) (hN : Old w0 bn (nodeL lm)) (h0 : x.f0 = 3) (ht : lm.t1 = true) (hlt : ((U.nc x.f3 x.f3.size 0 : Nat) : Int) < lm.n1) (hE : Old w0 eb [.int .i64 ((U.nc x.f3 x.f3.size 0 : Nat) : Int), .int .i64 lm.n1]) (hX : k27.K w0 x [.int .i64 x.f0, .bool x.f1, .int .i64 x.f2, .string x.f3, .slice A4 x.f4.length c4, .slice A5 x.f5.length c5]) : Ct 41 [.int .i64 2020, .agg #[.slice (some ⟨bn, 0, none⟩) 1 1, .slice none 0 0], .int .i64 1, .agg #[.int .i64 x.f0, .bool x.f1, .int .i64 x.f2, .string x.f3, .slice A4 x.f4.length c4, .slice A5 x.f5.length c5], .agg #[.string ⟨#[49]⟩, .string ⟨#[77, 105, 110, 76, 101, 110, 103, 116, 104]⟩, .slice (some ⟨pb, 0, none⟩) 1 pc, .slice (some ⟨ab, 0, none⟩) 0 0, .string ⟨#[]⟩, .slice none 0 0, .slice (some ⟨eb, 0, none⟩) 2 2, .slice none 0 0]] w0 (fun _ : Unit => .bool true) (fun _ => []) (fun _ => True) := by
 unfold Ct
 refine c_enter (n := 76) (L := [(4, .agg #[.string ⟨#[49]⟩, .string ⟨#[77, 105, 110, 76, 101, 110, 103, 116, 104]⟩, .slice (some ⟨pb, 0, none⟩) 1 pc, .slice (some ⟨ab, 0, none⟩) 0 0, .string ⟨#[]⟩, .slice none 0 0, .slice (some ⟨eb, 0, none⟩) 2 2, .slice none 0 0]), (3, .agg #[.int .i64 x.f0, .bool x.f1, .int .i64 x.f2, .string x.f3, .slice A4 x.f4.length c4, .slice A5 x.f5.length c5]), (2, .int .i64 1), (1, .agg #[.slice (some ⟨bn, 0, none⟩) 1 1, .slice none 0 0]), (0, .int .i64 2020)]) Tryz.func41 J J J J ?_
 intro a hF
 have hH := Hp.start w0
 refine c_open (fun Q hpan hret hnorm => ?_)
 repeat (first | (refine is_list ?_; first | (refine s_pe hF J J J J ?_; clear hF; intro a hF) | (refine is_load ?_; (first | refine s_ld 0 hF hH J J J J J J J ?_ | refine s_ld 1 hF hH J J J J J J J ?_ | refine s_ld 2 hF hH J J J J J J J ?_ | refine s_ldao hN hF hH J J J J J J ?_); clear hF; intro a hF) | (refine s_ix hF J J J J J J J ?_; clear hF; intro a hF) | (refine s_al hF hH J J J J ?_; clear hF hH; intro a b w hF hH) | (refine s_sta 0 hF hH J J J J J J J J J J ?_; clear hH; intro w hH) | (refine s_bx hF hH J J J J ?_; clear hF hH; intro a b w hF hH)) | (refine is_draw ?_; first | (refine d_pe hF J J J J J J ?_; clear hF; intro a hF) | (refine is_dload rfl ?_; (first | refine d_lda 0 hF hS J J J J J J J J ?_ | refine d_lda 1 hF hS J J J J J J J J ?_ | refine d_lda 2 hF hS J J J J J J J J ?_ | refine d_lda 3 hF hS J J J J J J J J ?_); clear hF; intro a hF) | (refine d_off hF rfl hS J J J ?_; clear hF; intro a hF) | (refine is_dcall rfl ?_; (first | refine d_call hF hH hS J J J J J J (jInPlaceRight_MinLength bn lm x A4 A5 c4 c5 pb pc ab eb _) ?_ | refine d_call hF hH hS J J J J J J (jValueRight_MinLength lm x A4 A5 c4 c5 hx.sz.t3 pb pc ab eb _ h0 ht hlt (hE.later hH)) ?_); clear hF hH hS; intro a w r hr hF hH hS)) | (refine c_dnilK hK ?_; clear hS hK) | refine c_seq (fun K hK => ?_) | refine wp_region_lit ?_ | (refine c_nilK hK ?_; clear hK) | refine c_false hF rfl ?_ | (refine is_region ?_; refine is_region (id := 6) ?_; refine c_drawn [] [0, 1, 2, 3, 4, 5, 6, 7, 8, 9, 10, 11, 12, 13, 14, 16, 17, 15, 18, 19, 20, 21, 22, 23, 24, 25, 26, 27, 28, 29, 30, 31, 32, 33, 34] hH (by kernel_rfl) (by repeat (first | refine pan_then ?_ | refine pan_block ?_ | exact hpan)) ?_; clear hH; intro w hH; have hS := hH) | refine wp_ret ?_ | refine wp_skip ?_ | (refine e_thenK hK ?_; clear hK))
 exact hret _ _ (c_ret1 hF J J ⟨(), trivial, rfl, hH.mid 0 4⟩)
theorem jKindRight_MaxLength (bn : Nat) (lm : Lm) (x : S27) (A4 A5 : Option Addr) (c4 c5 : Nat) (hx : Gd x) (pb pc ab eb : Nat) (w0 : World) (hN : Old w0 bn (nodeL lm)) (h0 : x.f0 = 3) (ht : lm.t2 = true) (hlt : ((U.nc x.f3 x.f3.size 0 : Nat) : Int) > lm.n2) (hE : Old w0 eb [.int .i64 ((U.nc x.f3 x.f3.size 0 : Nat) : Int), .int .i64 lm.n2]) (hX : k27.K w0 x [.int .i64 x.f0, .bool x.f1, .int .i64 x.f2, .string x.f3, .slice A4 x.f4.length c4, .slice A5 x.f5.length c5]) : Ct 41 [.int .i64 2020, .agg #[.slice (some ⟨bn, 0, none⟩) 1 1, .slice none 0 0], .int .i64 1, .agg #[.int .i64 x.f0, .bool x.f1, .int .i64 x.f2, .string x.f3, .slice A4 x.f4.length c4, .slice A5 x.f5.length c5], .agg #[.string ⟨#[49]⟩, .string ⟨#[77, 97, 120, 76, 101, 110, 103, 116, 104]⟩, .slice (some ⟨pb, 0, none⟩) 1 pc, .slice (some ⟨ab, 0, none⟩) 0 0, .string ⟨#[]⟩, .slice none 0 0, .slice (some ⟨eb, 0, none⟩) 2 2, .slice none 0 0]] w0 (fun _ : Unit => .bool true) (fun _ => []) (fun _ => True) := by
 unfold Ct
 refine c_enter (n := 76) (L := [(4, .agg #[.string ⟨#[49]⟩, .string ⟨#[77, 97, 120, 76, 101, 110, 103, 116, 104]⟩, .slice (some ⟨pb, 0, none⟩) 1 pc, .slice (some ⟨ab, 0, none⟩) 0 0, .string ⟨#[]⟩, .slice none 0 0, .slice (some ⟨eb, 0, none⟩) 2 2, .slice none 0 0]), (3, .agg #[.int .i64 x.f0, .bool x.f1, .int .i64 x.f2, .string x.f3, .slice A4 x.f4.length c4, .slice A5 x.f5.length c5]), (2, .int .i64 1), (1, .agg #[.slice (some ⟨bn, 0, none⟩) 1 1, .slice none 0 0]), (0, .int .i64 2020)]) Tryz.func41 J J J J ?_
 intro a hF
 have hH := Hp.start w0
 refine c_open (fun Q hpan hret hnorm => ?_)
 repeat (first | (refine is_list ?_; first | (refine s_pe hF J J J J ?_; clear hF; intro a hF) | (refine is_load ?_; (first | refine s_ld 0 hF hH J J J J J J J ?_ | refine s_ld 1 hF hH J J J J J J J ?_ | refine s_ld 2 hF hH J J J J J J J ?_ | refine s_ldao hN hF hH J J J J J J ?_); clear hF; intro a hF) | (refine s_ix hF J J J J J J J ?_; clear hF; intro a hF) | (refine s_al hF hH J J J J ?_; clear hF hH; intro a b w hF hH) | (refine s_sta 0 hF hH J J J J J J J J J J ?_; clear hH; intro w hH) | (refine s_bx hF hH J J J J ?_; clear hF hH; intro a b w hF hH)) | (refine is_draw ?_; first | (refine d_pe hF J J J J J J ?_; clear hF; intro a hF) | (refine is_dload rfl ?_; (first | refine d_lda 0 hF hS J J J J J J J J ?_ | refine d_lda 1 hF hS J J J J J J J J ?_ | refine d_lda 2 hF hS J J J J J J J J ?_ | refine d_lda 3 hF hS J J J J J J J J ?_); clear hF; intro a hF) | (refine d_off hF rfl hS J J J ?_; clear hF; intro a hF) | (refine is_dcall rfl ?_; (first | refine d_call hF hH hS J J J J J J (jInPlaceRight_MaxLength bn lm x A4 A5 c4 c5 pb pc ab eb _) ?_ | refine d_call hF hH hS J J J J J J (jValueRight_MaxLength lm x A4 A5 c4 c5 hx.sz.t3 pb pc ab eb _ h0 ht hlt (hE.later hH)) ?_); clear hF hH hS; intro a w r hr hF hH hS)) | (refine c_dnilK hK ?_; clear hS hK) | refine c_seq (fun K hK => ?_) | refine wp_region_lit ?_ | (refine c_nilK hK ?_; clear hK) | refine c_false hF rfl ?_ | (refine is_region ?_; refine is_region (id := 6) ?_; refine c_drawn [] [0, 1, 2, 3, 4, 5, 6, 7, 8, 9, 10, 11, 12, 13, 14, 16, 17, 15, 18, 19, 20, 21, 22, 23, 24, 25, 26, 27, 28, 29, 30, 31, 32, 33, 34] hH (by kernel_rfl) (by repeat (first | refine pan_then ?_ | refine pan_block ?_ | exact hpan)) ?_; clear hH; intro w hH; have hS := hH) | refine wp_ret ?_ | refine wp_skip ?_ | (refine e_thenK hK ?_; clear hK))
 exact hret _ _ (c_ret1 hF J J ⟨(), trivial, rfl, hH.mid 0 4⟩)
theorem jKindRight_MinProperties (bn : Nat) (lm : Lm) (x : S27) (A4 A5 : Option Addr) (c4 c5 : Nat) (hx : Gd x) (pb pc ab eb : Nat) (w0 : World) (hN : Old w0 bn (nodeL lm)) (h0 : x.f0 = 5) (ht : lm.t5 = true) (hlt : (((U.dd x.f4).length : Nat) : Int) < lm.n5) (hE : Old w0 eb [.int .i64 (((U.dd x.f4).length : Nat) : Int), .int .i64 lm.n5]) (hX : k27.K w0 x [.int .i64 x.f0, .bool x.f1, .int .i64 x.f2, .string x.f3, .slice A4 x.f4.length c4, .slice A5 x.f5.length c5]) : Ct 41 [.int .i64 2020, .agg #[.slice (some ⟨bn, 0, none⟩) 1 1, .slice none 0 0], .int .i64 1, .agg #[.int .i64 x.f0, .bool x.f1, .int .i64 x.f2, .string x.f3, .slice A4 x.f4.length c4, .slice A5 x.f5.length c5], .agg #[.string ⟨#[49]⟩, .string ⟨#[77, 105, 110, 80, 114, 111, 112, 101, 114, 116, 105, 101, 115]⟩, .slice (some ⟨pb, 0, none⟩) 1 pc, .slice (some ⟨ab, 0, none⟩) 0 0, .string ⟨#[]⟩, .slice none 0 0, .slice (some ⟨eb, 0, none⟩) 2 2, .slice none 0 0]] w0 (fun _ : Unit => .bool true) (fun _ => []) (fun _ => True) := by
 unfold Ct
 refine c_enter (n := 76) (L := [(4, .agg #[.string ⟨#[49]⟩, .string ⟨#[77, 105, 110, 80, 114, 111, 112, 101, 114, 116, 105, 101, 115]⟩, .slice (some ⟨pb, 0, none⟩) 1 pc, .slice (some ⟨ab, 0, none⟩) 0 0, .string ⟨#[]⟩, .slice none 0 0, .slice (some ⟨eb, 0, none⟩) 2 2, .slice none 0 0]), (3, .agg #[.int .i64 x.f0, .bool x.f1, .int .i64 x.f2, .string x.f3, .slice A4 x.f4.length c4, .slice A5 x.f5.length c5]), (2, .int .i64 1), (1, .agg #[.slice (some ⟨bn, 0, none⟩) 1 1, .slice none 0 0]), (0, .int .i64 2020)]) Tryz.func41 J J J J ?_
 intro a hF
 have hH := Hp.start w0
 refine c_open (fun Q hpan hret hnorm => ?_)
 repeat (first | (refine is_list ?_; first | (refine s_pe hF J J J J ?_; clear hF; intro a hF) | (refine is_load ?_; (first | refine s_ld 0 hF hH J J J J J J J ?_ | refine s_ld 1 hF hH J J J J J J J ?_ | refine s_ld 2 hF hH J J J J J J J ?_ | refine s_ldao hN hF hH J J J J J J ?_); clear hF; intro a hF) | (refine s_ix hF J J J J J J J ?_; clear hF; intro a hF) | (refine s_al hF hH J J J J ?_; clear hF hH; intro a b w hF hH) | (refine s_sta 0 hF hH J J J J J J J J J J ?_; clear hH; intro w hH) | (refine s_bx hF hH J J J J ?_; clear hF hH; intro a b w hF hH)) | (refine is_draw ?_; first | (refine d_pe hF J J J J J J ?_; clear hF; intro a hF) | (refine is_dload rfl ?_; (first | refine d_lda 0 hF hS J J J J J J J J ?_ | refine d_lda 1 hF hS J J J J J J J J ?_ | refine d_lda 2 hF hS J J J J J J J J ?_ | refine d_lda 3 hF hS J J J J J J J J ?_); clear hF; intro a hF) | (refine is_dcall rfl ?_; (first | refine d_call hF hH hS J J J J J J (jInPlaceRight_MinProperties bn lm x A4 A5 c4 c5 pb pc ab eb _) ?_ | refine d_call hF hH hS J J J J J J (jValueRight_MinProperties lm x A4 A5 c4 c5 hx.sz.t3 pb pc ab eb _) ?_ | refine d_call hF hH hS J J J J J J (keep_ok bn _) ?_ | refine d_call hF hH hS J J J J J J (jNumberRight_MinProperties x A4 A5 c4 c5 hx.two pb pc ab eb _) ?_ | refine d_call hF hH hS J J J J J J (jArrayRight_MinProperties bn lm x A4 A5 c4 c5 pb pc ab eb _ h0) ?_ | refine d_call hF hH hS J J J J J J (jObjectRight_MinProperties lm x A4 A5 c4 c5 hx pb pc ab eb _ h0 ht hlt (hE.later hH) (k27.K_below hH.below hX)) ?_); clear hF hH hS; intro a w r hr hF hH hS)) | (refine c_dnilK hK ?_; clear hS hK) | refine c_seq (fun K hK => ?_) | refine wp_region_lit ?_ | (refine c_nilK hK ?_; clear hK) | refine c_false hF rfl ?_ | (refine is_region ?_; refine is_region (id := 6) ?_; refine c_drawn [] [0, 1, 2, 3, 4, 5, 6, 7, 8, 9, 10, 11, 12, 13, 14, 16, 17, 15, 18, 19, 20, 21, 22, 23, 24, 25, 26, 27, 28, 29, 30, 31, 32, 33, 34] hH (by kernel_rfl) (by repeat (first | refine pan_then ?_ | refine pan_block ?_ | exact hpan)) ?_; clear hH; intro w hH; have hS := hH) | refine wp_ret ?_ | refine wp_skip ?_ | (refine e_thenK hK ?_; clear hK))
 exact hret _ _ (c_ret1 hF J J ⟨(), trivial, rfl, hH.mid 0 4⟩)
theorem jKindRight_MaxProperties (bn : Nat) (lm : Lm) (x : S27) (A4 A5 : Option Addr) (c4 c5 : Nat) (hx : Gd x) (pb pc ab eb : Nat) (w0 : World) (hN : Old w0 bn (nodeL lm)) (h0 : x.f0 = 5) (ht : lm.t6 = true) (hlt : (((U.dd x.f4).length : Nat) : Int) > lm.n6) (hE : Old w0 eb [.int .i64 (((U.dd x.f4).length : Nat) : Int), .int .i64 lm.n6]) (hX : k27.K w0 x [.int .i64 x.f0, .bool x.f1, .int .i64 x.f2, .string x.f3, .slice A4 x.f4.length c4, .slice A5 x.f5.length c5]) : Ct 41 [.int .i64 2020, .agg #[.slice (some ⟨bn, 0, none⟩) 1 1, .slice none 0 0], .int .i64 1, .agg #[.int .i64 x.f0, .bool x.f1, .int .i64 x.f2, .string x.f3, .slice A4 x.f4.length c4, .slice A5 x.f5.length c5], .agg #[.string ⟨#[49]⟩, .string ⟨#[77, 97, 120, 80, 114, 111, 112, 101, 114, 116, 105, 101, 115]⟩, .slice (some ⟨pb, 0, none⟩) 1 pc, .slice (some ⟨ab, 0, none⟩) 0 0, .string ⟨#[]⟩, .slice none 0 0, .slice (some ⟨eb, 0, none⟩) 2 2, .slice none 0 0]] w0 (fun _ : Unit => .bool true) (fun _ => []) (fun _ => True) := by
 unfold Ct
 refine c_enter (n := 76) (L := [(4, .agg #[.string ⟨#[49]⟩, .string ⟨#[77, 97, 120, 80, 114, 111, 112, 101, 114, 116, 105, 101, 115]⟩, .slice (some ⟨pb, 0, none⟩) 1 pc, .slice (some ⟨ab, 0, none⟩) 0 0, .string ⟨#[]⟩, .slice none 0 0, .slice (some ⟨eb, 0, none⟩) 2 2, .slice none 0 0]), (3, .agg #[.int .i64 x.f0, .bool x.f1, .int .i64 x.f2, .string x.f3, .slice A4 x.f4.length c4, .slice A5 x.f5.length c5]), (2, .int .i64 1), (1, .agg #[.slice (some ⟨bn, 0, none⟩) 1 1, .slice none 0 0]), (0, .int .i64 2020)]) Tryz.func41 J J J J ?_
 intro a hF
 have hH := Hp.start w0
 refine c_open (fun Q hpan hret hnorm => ?_)
 repeat (first | (refine is_list ?_; first | (refine s_pe hF J J J J ?_; clear hF; intro a hF) | (refine is_load ?_; (first | refine s_ld 0 hF hH J J J J J J J ?_ | refine s_ld 1 hF hH J J J J J J J ?_ | refine s_ld 2 hF hH J J J J J J J ?_ | refine s_ldao hN hF hH J J J J J J ?_); clear hF; intro a hF) | (refine s_ix hF J J J J J J J ?_; clear hF; intro a hF) | (refine s_al hF hH J J J J ?_; clear hF hH; intro a b w hF hH) | (refine s_sta 0 hF hH J J J J J J J J J J ?_; clear hH; intro w hH) | (refine s_bx hF hH J J J J ?_; clear hF hH; intro a b w hF hH)) | (refine is_draw ?_; first | (refine d_pe hF J J J J J J ?_; clear hF; intro a hF) | (refine is_dload rfl ?_; (first | refine d_lda 0 hF hS J J J J J J J J ?_ | refine d_lda 1 hF hS J J J J J J J J ?_ | refine d_lda 2 hF hS J J J J J J J J ?_ | refine d_lda 3 hF hS J J J J J J J J ?_); clear hF; intro a hF) | (refine is_dcall rfl ?_; (first | refine d_call hF hH hS J J J J J J (jInPlaceRight_MaxProperties bn lm x A4 A5 c4 c5 pb pc ab eb _) ?_ | refine d_call hF hH hS J J J J J J (jValueRight_MaxProperties lm x A4 A5 c4 c5 hx.sz.t3 pb pc ab eb _) ?_ | refine d_call hF hH hS J J J J J J (keep_ok bn _) ?_ | refine d_call hF hH hS J J J J J J (jNumberRight_MaxProperties x A4 A5 c4 c5 hx.two pb pc ab eb _) ?_ | refine d_call hF hH hS J J J J J J (jArrayRight_MaxProperties bn lm x A4 A5 c4 c5 pb pc ab eb _ h0) ?_ | refine d_call hF hH hS J J J J J J (jObjectRight_MaxProperties lm x A4 A5 c4 c5 hx pb pc ab eb _ h0 ht hlt (hE.later hH) (k27.K_below hH.below hX)) ?_); clear hF hH hS; intro a w r hr hF hH hS)) | (refine c_dnilK hK ?_; clear hS hK) | refine c_seq (fun K hK => ?_) | refine wp_region_lit ?_ | (refine c_nilK hK ?_; clear hK) | refine c_false hF rfl ?_ | (refine is_region ?_; refine is_region (id := 6) ?_; refine c_drawn [] [0, 1, 2, 3, 4, 5, 6, 7, 8, 9, 10, 11, 12, 13, 14, 16, 17, 15, 18, 19, 20, 21, 22, 23, 24, 25, 26, 27, 28, 29, 30, 31, 32, 33, 34] hH (by kernel_rfl) (by repeat (first | refine pan_then ?_ | refine pan_block ?_ | exact hpan)) ?_; clear hH; intro w hH; have hS := hH) | refine wp_ret ?_ | refine wp_skip ?_ | (refine e_thenK hK ?_; clear hK))
 exact hret _ _ (c_ret1 hF J J ⟨(), trivial, rfl, hH.mid 0 4⟩)
theorem jInPlaceRight_Schema (bn : Nat) (lm : Lm) (x : S27) (A4 A5 : Option Addr) (c4 c5 : Nat) (pb ab kb kc : Nat) (w0 : World) : Ct 78 [.int .i64 2020, .agg #[.slice (some ⟨bn, 0, none⟩) 1 1, .slice none 0 0], .agg (nodeL lm).toArray, .agg #[.int .i64 x.f0, .bool x.f1, .int .i64 x.f2, .string x.f3, .slice A4 x.f4.length c4, .slice A5 x.f5.length c5], .agg #[.string ⟨#[49]⟩, .string ⟨#[83, 99, 104, 101, 109, 97]⟩, .slice (some ⟨pb, 0, none⟩) 0 0, .slice (some ⟨ab, 0, none⟩) 0 0, .string ⟨#[]⟩, .slice none 0 0, .slice none 0 0, .slice (some ⟨kb, 0, none⟩) 1 kc]] w0 (fun _ : Unit => .bool true) (fun _ => []) (fun _ => True) := by
 unfold Ct
 refine c_enter (n := 136) (L := [(4, .agg #[.string ⟨#[49]⟩, .string ⟨#[83, 99, 104, 101, 109, 97]⟩, .slice (some ⟨pb, 0, none⟩) 0 0, .slice (some ⟨ab, 0, none⟩) 0 0, .string ⟨#[]⟩, .slice none 0 0, .slice none 0 0, .slice (some ⟨kb, 0, none⟩) 1 kc]), (3, .agg #[.int .i64 x.f0, .bool x.f1, .int .i64 x.f2, .string x.f3, .slice A4 x.f4.length c4, .slice A5 x.f5.length c5]), (2, .agg (nodeL lm).toArray), (1, .agg #[.slice (some ⟨bn, 0, none⟩) 1 1, .slice none 0 0]), (0, .int .i64 2020)]) Tryz.func78 J J J J ?_
 intro a hF
 have hH := Hp.start w0
 refine c_open (fun Q hpan hret hnorm => ?_)
 repeat (first | (refine is_list ?_; first | (refine s_pe hF J J J J ?_; clear hF; intro a hF) | (refine is_load ?_; refine s_ld 0 hF hH J J J J J J J ?_; clear hF; intro a hF) | (refine s_bx hF hH J J J J ?_; clear hF hH; intro a b w hF hH)) | refine c_seq (fun K hK => ?_) | refine wp_region_lit ?_ | (refine c_nilK hK ?_; clear hK) | refine c_true hF rfl ?_ | refine wp_block ?_ | refine wp_ret ?_ | refine wp_skip ?_ | (refine e_ret ?_; clear hK) | refine e_bret ?_ | (refine e_thenK hK ?_; clear hK))
 exact hret _ _ (c_ret1 hF J J ⟨(), trivial, rfl, hH.mid 0 4⟩)
theorem jKindRight_Schema (bn : Nat) (lm : Lm) (x : S27) (A4 A5 : Option Addr) (c4 c5 : Nat) (pb ab kb kc : Nat) (w0 : World) (hN : Old w0 bn (nodeL lm)) : Ct 41 [.int .i64 2020, .agg #[.slice (some ⟨bn, 0, none⟩) 1 1, .slice none 0 0], .int .i64 1, .agg #[.int .i64 x.f0, .bool x.f1, .int .i64 x.f2, .string x.f3, .slice A4 x.f4.length c4, .slice A5 x.f5.length c5], .agg #[.string ⟨#[49]⟩, .string ⟨#[83, 99, 104, 101, 109, 97]⟩, .slice (some ⟨pb, 0, none⟩) 0 0, .slice (some ⟨ab, 0, none⟩) 0 0, .string ⟨#[]⟩, .slice none 0 0, .slice none 0 0, .slice (some ⟨kb, 0, none⟩) 1 kc]] w0 (fun _ : Unit => .bool true) (fun _ => []) (fun _ => True) := by
 unfold Ct
 refine c_enter (n := 76) (L := [(4, .agg #[.string ⟨#[49]⟩, .string ⟨#[83, 99, 104, 101, 109, 97]⟩, .slice (some ⟨pb, 0, none⟩) 0 0, .slice (some ⟨ab, 0, none⟩) 0 0, .string ⟨#[]⟩, .slice none 0 0, .slice none 0 0, .slice (some ⟨kb, 0, none⟩) 1 kc]), (3, .agg #[.int .i64 x.f0, .bool x.f1, .int .i64 x.f2, .string x.f3, .slice A4 x.f4.length c4, .slice A5 x.f5.length c5]), (2, .int .i64 1), (1, .agg #[.slice (some ⟨bn, 0, none⟩) 1 1, .slice none 0 0]), (0, .int .i64 2020)]) Tryz.func41 J J J J ?_
 intro a hF
 have hH := Hp.start w0
 refine c_open (fun Q hpan hret hnorm => ?_)
 repeat (first | (refine is_list ?_; first | (refine s_pe hF J J J J ?_; clear hF; intro a hF) | (refine is_load ?_; (first | refine s_ld 0 hF hH J J J J J J J ?_ | refine s_ld 1 hF hH J J J J J J J ?_ | refine s_ld 2 hF hH J J J J J J J ?_ | refine s_ldao hN hF hH J J J J J J ?_); clear hF; intro a hF) | (refine s_ix hF J J J J J J J ?_; clear hF; intro a hF) | (refine s_al hF hH J J J J ?_; clear hF hH; intro a b w hF hH) | (refine s_sta 0 hF hH J J J J J J J J J J ?_; clear hH; intro w hH) | (refine s_bx hF hH J J J J ?_; clear hF hH; intro a b w hF hH)) | (refine is_draw ?_; first | (refine d_pe hF J J J J J J ?_; clear hF; intro a hF) | (refine is_dload rfl ?_; (first | refine d_lda 0 hF hS J J J J J J J J ?_ | refine d_lda 1 hF hS J J J J J J J J ?_ | refine d_lda 2 hF hS J J J J J J J J ?_ | refine d_lda 3 hF hS J J J J J J J J ?_); clear hF; intro a hF) | (refine d_off hF rfl hS J J J ?_; clear hF; intro a hF) | (refine is_dcall rfl ?_; refine d_call hF hH hS J J J J J J (jInPlaceRight_Schema bn lm x A4 A5 c4 c5 pb ab kb kc _) ?_; clear hF hH hS; intro a w r hr hF hH hS)) | (refine c_dnilK hK ?_; clear hS hK) | refine c_seq (fun K hK => ?_) | refine wp_region_lit ?_ | (refine c_nilK hK ?_; clear hK) | refine c_false hF rfl ?_ | (refine is_region ?_; refine is_region (id := 6) ?_; refine c_drawn [] [0, 1, 2, 3, 4, 5, 6, 7, 8, 9, 10, 11, 12, 13, 14, 16, 17, 15, 18, 19, 20, 21, 22, 23, 24, 25, 26, 27, 28, 29, 30, 31, 32, 33, 34] hH (by kernel_rfl) (by repeat (first | refine pan_then ?_ | refine pan_block ?_ | exact hpan)) ?_; clear hH; intro w hH; have hS := hH) | refine wp_ret ?_ | refine wp_skip ?_ | (refine e_thenK hK ?_; clear hK))
 exact hret _ _ (c_ret1 hF J J ⟨(), trivial, rfl, hH.mid 0 4⟩)
end Go.Proofs.YtlkikblohnnlcaaGreatDoor.Y
end
section
namespace Go.Proofs.YtlkikblohnnlcaaGreatDoor.Y
open Go Go.RowKit X R Go.Proofs.YtlkikblohnnlcaaGreatDoorW.PrintWords
set_option linter.unusedVariables false
set_option maxRecDepth 4000
attribute [local irreducible] wpList dL Code.wp bodyPost Ct Calls Exit.then Exit.inBlock Code.rounds
set_option maxHeartbeats 0
theorem c21 (bn sb : Nat) (w0 : World) (hO : Old w0 sb [.slice (some ⟨bn, 0, none⟩) 1 1]) : Ct 21 [.string ⟨#[49]⟩, .pointer (some ⟨sb, 0, none⟩)] w0 (fun b : Nat => .slice (some ⟨b, 0, none⟩) 1 1) (fun b => [(b, .cells #[.int .i64 1] 3)]) (fun _ => True) := by
 unfold Ct
 refine c_enter (n := 8) (L := [(1, .pointer (some ⟨sb, 0, none⟩)), (0, .string ⟨#[49]⟩)]) Tryz.func21 J J J J ?_
 intro a hF
 have hH := Hp.start w0
 refine c_open (fun Q hpan hret hnorm => ?_)
 repeat (first | (refine is_list ?_; first | (refine s_pe hF J J J J ?_; clear hF; intro a hF) | (refine is_load ?_; refine s_ldo hO hF hH J J J J J J ?_; clear hF; intro a hF) | (refine is_call ?_; refine s_call hF hH J J J J J (jNamed_ok bn _) ?_; clear hF hH; intro a w r hr hF hH) | (refine s_bs hF hH J J J J J J J J J J ?_; clear hF hH; intro a b w hF hH)) | refine c_seq (fun K hK => ?_) | refine wp_region_lit ?_ | (refine c_nilK hK ?_; clear hK) | refine wp_ret ?_)
 exact hret _ _ (c_ret1 hF J J ⟨_, trivial, rfl, hH⟩)
theorem c21' (bn sb : Nat) (w0 : World) (hO : Old w0 sb [.slice (some ⟨bn, 0, none⟩) 1 1]) : Calls Tryz.prog 21 ([Value.string ⟨#[49]⟩] ++ [Value.pointer (some ⟨sb, 0, none⟩)]).toArray w0 (fun e w' => ∃ b : Nat, True ∧ e = .returned (.slice (some ⟨b, 0, none⟩) 1 1) ∧ Hp w0 w' [(b, .cells #[.int .i64 1] 3)]) := by
 have h := c21 bn sb w0 hO
 unfold Ct at h
 exact h
theorem Old.pre {w : World} {b : Nat} {l Z : List Value} (h : Old w b (l ++ Z)) : Old w b l := fun q v hv => h q v (by rw [List.getElem?_append_left (List.getElem?_eq_some_iff.1 hv).1]; exact hv)
theorem jTakes_no (bn : Nat) (lm : Lm) (x : S27) (A4 A5 : Option Addr) (c4 c5 : Nat) (hx : Gd x) (w0 : World) (hN : Old w0 bn (nodeL lm)) (hX : k27.K w0 x [.int .i64 x.f0, .bool x.f1, .int .i64 x.f2, .string x.f3, .slice A4 x.f4.length c4, .slice A5 x.f5.length c5]) (hj : judge lm x = false) : Ct 40 [.int .i64 2020, .agg #[.slice (some ⟨bn, 0, none⟩) 1 1, .slice none 0 0], .int .i64 1, .agg #[.int .i64 x.f0, .bool x.f1, .int .i64 x.f2, .string x.f3, .slice A4 x.f4.length c4, .slice A5 x.f5.length c5]] w0 (fun _ : Unit => .bool false) (fun _ => []) (fun _ => True) := by
 have h := jTakes_ok bn lm x A4 A5 c4 c5 hx w0 hN hX
 rw [hj] at h
 exact h
theorem jErrorRight_MinItems (bn : Nat) (sb : Nat) (lm : Lm) (x : S27) (A4 A5 : Option Addr) (c4 c5 : Nat) (hx : Gd x) (pb pc ab eb : Nat) (Z : List Value) (w0 : World) (hN : Old w0 bn (nodeL lm)) (hO : Old w0 sb [.slice (some ⟨bn, 0, none⟩) 1 1]) (hP : Old w0 pb (.string ⟨#[109, 105, 110, 73, 116, 101, 109, 115]⟩ :: Z)) (h0 : x.f0 = 4) (ht : lm.t3 = true) (hlt : ((x.f5.length : Nat) : Int) < lm.n3) (hE : Old w0 eb [.int .i64 ((x.f5.length : Nat) : Int), .int .i64 lm.n3]) (hX : k27.K w0 x [.int .i64 x.f0, .bool x.f1, .int .i64 x.f2, .string x.f3, .slice A4 x.f4.length c4, .slice A5 x.f5.length c5]) (hj : judge lm x = false) : Ct 20 [.int .i64 2020, .agg #[.slice (some ⟨bn, 0, none⟩) 1 1, .slice none 0 0], .func (.func 21) #[] #[.pointer (some ⟨sb, 0, none⟩)], .agg #[.int .i64 x.f0, .bool x.f1, .int .i64 x.f2, .string x.f3, .slice A4 x.f4.length c4, .slice A5 x.f5.length c5], .agg #[.string ⟨#[49]⟩, .string ⟨#[77, 105, 110, 73, 116, 101, 109, 115]⟩, .slice (some ⟨pb, 0, none⟩) 1 pc, .slice (some ⟨ab, 0, none⟩) 0 0, .string ⟨#[]⟩, .slice none 0 0, .slice (some ⟨eb, 0, none⟩) 2 2, .slice none 0 0]] w0 (fun _ : Unit => .bool true) (fun _ => []) (fun _ => True) := by
 unfold Ct
 refine c_enter (n := 103) (L := [(4, .agg #[.string ⟨#[49]⟩, .string ⟨#[77, 105, 110, 73, 116, 101, 109, 115]⟩, .slice (some ⟨pb, 0, none⟩) 1 pc, .slice (some ⟨ab, 0, none⟩) 0 0, .string ⟨#[]⟩, .slice none 0 0, .slice (some ⟨eb, 0, none⟩) 2 2, .slice none 0 0]), (3, .agg #[.int .i64 x.f0, .bool x.f1, .int .i64 x.f2, .string x.f3, .slice A4 x.f4.length c4, .slice A5 x.f5.length c5]), (2, .func (.func 21) #[] #[.pointer (some ⟨sb, 0, none⟩)]), (1, .agg #[.slice (some ⟨bn, 0, none⟩) 1 1, .slice none 0 0]), (0, .int .i64 2020)]) Tryz.func20 J J J J ?_
 intro a hF
 have hH := Hp.start w0
 refine c_open (fun Q hpan hret hnorm => ?_)
 repeat (first | (refine is_list ?_; first | (refine s_pe hF J J J J ?_; clear hF; intro a hF) | (refine is_load ?_; (first | refine s_ld 0 hF hH J J J J J J J ?_ | refine s_ld 1 hF hH J J J J J J J ?_ | refine s_lda 1 hF hH J J J J J J J ?_); clear hF; intro a hF) | (refine is_call ?_; (first | refine s_call hF hH J J J J J (jPart_ok x A4 A5 c4 c5 ab _) ?_ | refine s_call hF hH J J J J J (jPathRight_MinItems pb pc ab eb Z _ (hP.later hH)) ?_); clear hF hH; intro a w r hr hF hH) | (refine s_al hF hH J J J J ?_; clear hF hH; intro a b w hF hH) | (refine s_sta 0 hF hH J J J J J J J J J J ?_; clear hH; intro w hH) | (refine s_bx hF hH J J J J ?_; clear hF hH; intro a b w hF hH)) | refine c_seq (fun K hK => ?_) | refine wp_region_lit ?_ | (refine c_nilK hK ?_; clear hK) | refine c_false hF rfl ?_ | refine wp_skip ?_ | (refine e_thenK hK ?_; clear hK))
 refine s_callF hF J J J J J J (c21' bn sb _ (hO.later hH)) ?_
 rintro e w ⟨lb, _, rfl, hw⟩
 refine ⟨_, rfl, ?_⟩
 replace hH := hH.app hw
 clear hF hw; intro a hF
 repeat (first | (refine is_list ?_; first | (refine s_pe hF J J J J ?_; clear hF; intro a hF) | (refine is_load ?_; refine s_ld 2 hF hH J J J J J J J ?_; clear hF; intro a hF)) | (refine is_draw ?_; first | (refine d_pe hF J J J J J J ?_; clear hF; intro a hF) | (refine is_dload rfl ?_; (first | refine d_ld 0 hF hS J J J J J J J J ?_ | refine d_lda 1 hF hS J J J J J J J J ?_ | refine d_lda 2 hF hS J J J J J J J J ?_ | refine d_lda 4 hF hS J J J J J J J J ?_); clear hF; intro a hF) | (refine is_dcall rfl ?_; (first | refine d_call hF hH hS J J J J J J (jTakes_no bn lm x A4 A5 c4 c5 hx _ (hN.later hH) (k27.K_below hH.below hX) hj) ?_ | refine d_call hF hH hS J J J J J J (jKindRight_MinItems bn lm x A4 A5 c4 c5 hx pb pc ab eb _ (hN.later hH) h0 ht hlt (hE.later hH) (k27.K_below hH.below hX)) ?_); clear hF hH hS; intro a w r hr hF hH hS) | (refine d_ix hF J J J J J J J J ?_; clear hF; intro a hF)) | (refine c_dnilB ?_; clear hS) | refine c_seq (fun K hK => ?_) | refine wp_region_lit ?_ | (refine c_nilK hK ?_; clear hK) | refine c_true hF rfl ?_ | refine c_false hF rfl ?_ | (refine is_region ?_; refine is_region (id := 8) ?_; refine c_drawn [] [0, 1, 2, 3, 4, 5, 6, 7, 8, 9, 10, 11, 12, 13, 14, 15, 16, 17, 18, 19, 20, 21, 22, 23, 24, 25, 26, 27, 28, 29, 30] hH (by kernel_rfl) (by repeat (first | refine pan_then ?_ | refine pan_block ?_ | exact hpan)) ?_; clear hH; intro w hH; have hS := hH) | refine wp_block ?_ | refine wp_loop_rounds 2 (c_roundK 1 (fun K hK => ?_)) | refine c_roundK 0 (fun K hK => ?_) | refine wp_exit ?_ | refine wp_ret ?_ | refine wp_skip ?_ | (refine e_exit ?_; clear hK) | refine e_bexit rfl ?_ | (refine e_thenK hK ?_; clear hK))
 exact hret _ _ (c_ret1 hF J J ⟨(), trivial, rfl, hH.mid 0 5⟩)
theorem jErrorRight_MaxItems (bn : Nat) (sb : Nat) (lm : Lm) (x : S27) (A4 A5 : Option Addr) (c4 c5 : Nat) (hx : Gd x) (pb pc ab eb : Nat) (Z : List Value) (w0 : World) (hN : Old w0 bn (nodeL lm)) (hO : Old w0 sb [.slice (some ⟨bn, 0, none⟩) 1 1]) (hP : Old w0 pb (.string ⟨#[109, 97, 120, 73, 116, 101, 109, 115]⟩ :: Z)) (h0 : x.f0 = 4) (ht : lm.t4 = true) (hlt : ((x.f5.length : Nat) : Int) > lm.n4) (hE : Old w0 eb [.int .i64 ((x.f5.length : Nat) : Int), .int .i64 lm.n4]) (hX : k27.K w0 x [.int .i64 x.f0, .bool x.f1, .int .i64 x.f2, .string x.f3, .slice A4 x.f4.length c4, .slice A5 x.f5.length c5]) (hj : judge lm x = false) : Ct 20 [.int .i64 2020, .agg #[.slice (some ⟨bn, 0, none⟩) 1 1, .slice none 0 0], .func (.func 21) #[] #[.pointer (some ⟨sb, 0, none⟩)], .agg #[.int .i64 x.f0, .bool x.f1, .int .i64 x.f2, .string x.f3, .slice A4 x.f4.length c4, .slice A5 x.f5.length c5], .agg #[.string ⟨#[49]⟩, .string ⟨#[77, 97, 120, 73, 116, 101, 109, 115]⟩, .slice (some ⟨pb, 0, none⟩) 1 pc, .slice (some ⟨ab, 0, none⟩) 0 0, .string ⟨#[]⟩, .slice none 0 0, .slice (some ⟨eb, 0, none⟩) 2 2, .slice none 0 0]] w0 (fun _ : Unit => .bool true) (fun _ => []) (fun _ => True) := by
 unfold Ct
 refine c_enter (n := 103) (L := [(4, .agg #[.string ⟨#[49]⟩, .string ⟨#[77, 97, 120, 73, 116, 101, 109, 115]⟩, .slice (some ⟨pb, 0, none⟩) 1 pc, .slice (some ⟨ab, 0, none⟩) 0 0, .string ⟨#[]⟩, .slice none 0 0, .slice (some ⟨eb, 0, none⟩) 2 2, .slice none 0 0]), (3, .agg #[.int .i64 x.f0, .bool x.f1, .int .i64 x.f2, .string x.f3, .slice A4 x.f4.length c4, .slice A5 x.f5.length c5]), (2, .func (.func 21) #[] #[.pointer (some ⟨sb, 0, none⟩)]), (1, .agg #[.slice (some ⟨bn, 0, none⟩) 1 1, .slice none 0 0]), (0, .int .i64 2020)]) Tryz.func20 J J J J ?_
 intro a hF
 have hH := Hp.start w0
 refine c_open (fun Q hpan hret hnorm => ?_)
 repeat (first | (refine is_list ?_; first | (refine s_pe hF J J J J ?_; clear hF; intro a hF) | (refine is_load ?_; (first | refine s_ld 0 hF hH J J J J J J J ?_ | refine s_ld 1 hF hH J J J J J J J ?_ | refine s_lda 1 hF hH J J J J J J J ?_); clear hF; intro a hF) | (refine is_call ?_; (first | refine s_call hF hH J J J J J (jPart_ok x A4 A5 c4 c5 ab _) ?_ | refine s_call hF hH J J J J J (jPathRight_MaxItems pb pc ab eb Z _ (hP.later hH)) ?_); clear hF hH; intro a w r hr hF hH) | (refine s_al hF hH J J J J ?_; clear hF hH; intro a b w hF hH) | (refine s_sta 0 hF hH J J J J J J J J J J ?_; clear hH; intro w hH) | (refine s_bx hF hH J J J J ?_; clear hF hH; intro a b w hF hH)) | refine c_seq (fun K hK => ?_) | refine wp_region_lit ?_ | (refine c_nilK hK ?_; clear hK) | refine c_false hF rfl ?_ | refine wp_skip ?_ | (refine e_thenK hK ?_; clear hK))
 refine s_callF hF J J J J J J (c21' bn sb _ (hO.later hH)) ?_
 rintro e w ⟨lb, _, rfl, hw⟩
 refine ⟨_, rfl, ?_⟩
 replace hH := hH.app hw
 clear hF hw; intro a hF
 repeat (first | (refine is_list ?_; first | (refine s_pe hF J J J J ?_; clear hF; intro a hF) | (refine is_load ?_; refine s_ld 2 hF hH J J J J J J J ?_; clear hF; intro a hF)) | (refine is_draw ?_; first | (refine d_pe hF J J J J J J ?_; clear hF; intro a hF) | (refine is_dload rfl ?_; (first | refine d_ld 0 hF hS J J J J J J J J ?_ | refine d_lda 1 hF hS J J J J J J J J ?_ | refine d_lda 2 hF hS J J J J J J J J ?_ | refine d_lda 4 hF hS J J J J J J J J ?_); clear hF; intro a hF) | (refine is_dcall rfl ?_; (first | refine d_call hF hH hS J J J J J J (jTakes_no bn lm x A4 A5 c4 c5 hx _ (hN.later hH) (k27.K_below hH.below hX) hj) ?_ | refine d_call hF hH hS J J J J J J (jKindRight_MaxItems bn lm x A4 A5 c4 c5 hx pb pc ab eb _ (hN.later hH) h0 ht hlt (hE.later hH) (k27.K_below hH.below hX)) ?_); clear hF hH hS; intro a w r hr hF hH hS) | (refine d_ix hF J J J J J J J J ?_; clear hF; intro a hF)) | (refine c_dnilB ?_; clear hS) | refine c_seq (fun K hK => ?_) | refine wp_region_lit ?_ | (refine c_nilK hK ?_; clear hK) | refine c_true hF rfl ?_ | refine c_false hF rfl ?_ | (refine is_region ?_; refine is_region (id := 8) ?_; refine c_drawn [] [0, 1, 2, 3, 4, 5, 6, 7, 8, 9, 10, 11, 12, 13, 14, 15, 16, 17, 18, 19, 20, 21, 22, 23, 24, 25, 26, 27, 28, 29, 30] hH (by kernel_rfl) (by repeat (first | refine pan_then ?_ | refine pan_block ?_ | exact hpan)) ?_; clear hH; intro w hH; have hS := hH) | refine wp_block ?_ | refine wp_loop_rounds 2 (c_roundK 1 (fun K hK => ?_)) | refine c_roundK 0 (fun K hK => ?_) | refine wp_exit ?_ | refine wp_ret ?_ | refine wp_skip ?_ | (refine e_exit ?_; clear hK) | refine e_bexit rfl ?_ | (refine e_thenK hK ?_; clear hK))
 exact hret _ _ (c_ret1 hF J J ⟨(), trivial, rfl, hH.mid 0 5⟩)
theorem jErrorRight_MinLength (bn : Nat) (sb : Nat) (lm : Lm) (x : S27) (A4 A5 : Option Addr) (c4 c5 : Nat) (hx : Gd x) (pb pc ab eb : Nat) (Z : List Value) (w0 : World) (hN : Old w0 bn (nodeL lm)) (hO : Old w0 sb [.slice (some ⟨bn, 0, none⟩) 1 1]) (hP : Old w0 pb (.string ⟨#[109, 105, 110, 76, 101, 110, 103, 116, 104]⟩ :: Z)) (h0 : x.f0 = 3) (ht : lm.t1 = true) (hlt : ((U.nc x.f3 x.f3.size 0 : Nat) : Int) < lm.n1) (hE : Old w0 eb [.int .i64 ((U.nc x.f3 x.f3.size 0 : Nat) : Int), .int .i64 lm.n1]) (hX : k27.K w0 x [.int .i64 x.f0, .bool x.f1, .int .i64 x.f2, .string x.f3, .slice A4 x.f4.length c4, .slice A5 x.f5.length c5]) (hj : judge lm x = false) : Ct 20 [.int .i64 2020, .agg #[.slice (some ⟨bn, 0, none⟩) 1 1, .slice none 0 0], .func (.func 21) #[] #[.pointer (some ⟨sb, 0, none⟩)], .agg #[.int .i64 x.f0, .bool x.f1, .int .i64 x.f2, .string x.f3, .slice A4 x.f4.length c4, .slice A5 x.f5.length c5], .agg #[.string ⟨#[49]⟩, .string ⟨#[77, 105, 110, 76, 101, 110, 103, 116, 104]⟩, .slice (some ⟨pb, 0, none⟩) 1 pc, .slice (some ⟨ab, 0, none⟩) 0 0, .string ⟨#[]⟩, .slice none 0 0, .slice (some ⟨eb, 0, none⟩) 2 2, .slice none 0 0]] w0 (fun _ : Unit => .bool true) (fun _ => []) (fun _ => True) := by
 unfold Ct
 refine c_enter (n := 103) (L := [(4, .agg #[.string ⟨#[49]⟩, .string ⟨#[77, 105, 110, 76, 101, 110, 103, 116, 104]⟩, .slice (some ⟨pb, 0, none⟩) 1 pc, .slice (some ⟨ab, 0, none⟩) 0 0, .string ⟨#[]⟩, .slice none 0 0, .slice (some ⟨eb, 0, none⟩) 2 2, .slice none 0 0]), (3, .agg #[.int .i64 x.f0, .bool x.f1, .int .i64 x.f2, .string x.f3, .slice A4 x.f4.length c4, .slice A5 x.f5.length c5]), (2, .func (.func 21) #[] #[.pointer (some ⟨sb, 0, none⟩)]), (1, .agg #[.slice (some ⟨bn, 0, none⟩) 1 1, .slice none 0 0]), (0, .int .i64 2020)]) Tryz.func20 J J J J ?_
 intro a hF
 have hH := Hp.start w0
 refine c_open (fun Q hpan hret hnorm => ?_)
 repeat (first | (refine is_list ?_; first | (refine s_pe hF J J J J ?_; clear hF; intro a hF) | (refine is_load ?_; (first | refine s_ld 0 hF hH J J J J J J J ?_ | refine s_ld 1 hF hH J J J J J J J ?_ | refine s_lda 1 hF hH J J J J J J J ?_); clear hF; intro a hF) | (refine is_call ?_; (first | refine s_call hF hH J J J J J (jPart_ok x A4 A5 c4 c5 ab _) ?_ | refine s_call hF hH J J J J J (jPathRight_MinLength pb pc ab eb Z _ (hP.later hH)) ?_); clear hF hH; intro a w r hr hF hH) | (refine s_al hF hH J J J J ?_; clear hF hH; intro a b w hF hH) | (refine s_sta 0 hF hH J J J J J J J J J J ?_; clear hH; intro w hH) | (refine s_bx hF hH J J J J ?_; clear hF hH; intro a b w hF hH)) | refine c_seq (fun K hK => ?_) | refine wp_region_lit ?_ | (refine c_nilK hK ?_; clear hK) | refine c_false hF rfl ?_ | refine wp_skip ?_ | (refine e_thenK hK ?_; clear hK))
 refine s_callF hF J J J J J J (c21' bn sb _ (hO.later hH)) ?_
 rintro e w ⟨lb, _, rfl, hw⟩
 refine ⟨_, rfl, ?_⟩
 replace hH := hH.app hw
 clear hF hw; intro a hF
 repeat (first | (refine is_list ?_; first | (refine s_pe hF J J J J ?_; clear hF; intro a hF) | (refine is_load ?_; refine s_ld 2 hF hH J J J J J J J ?_; clear hF; intro a hF)) | (refine is_draw ?_; first | (refine d_pe hF J J J J J J ?_; clear hF; intro a hF) | (refine is_dload rfl ?_; (first | refine d_ld 0 hF hS J J J J J J J J ?_ | refine d_lda 1 hF hS J J J J J J J J ?_ | refine d_lda 2 hF hS J J J J J J J J ?_ | refine d_lda 4 hF hS J J J J J J J J ?_); clear hF; intro a hF) | (refine is_dcall rfl ?_; (first | refine d_call hF hH hS J J J J J J (jTakes_no bn lm x A4 A5 c4 c5 hx _ (hN.later hH) (k27.K_below hH.below hX) hj) ?_ | refine d_call hF hH hS J J J J J J (jKindRight_MinLength bn lm x A4 A5 c4 c5 hx pb pc ab eb _ (hN.later hH) h0 ht hlt (hE.later hH) (k27.K_below hH.below hX)) ?_); clear hF hH hS; intro a w r hr hF hH hS) | (refine d_ix hF J J J J J J J J ?_; clear hF; intro a hF)) | (refine c_dnilB ?_; clear hS) | refine c_seq (fun K hK => ?_) | refine wp_region_lit ?_ | (refine c_nilK hK ?_; clear hK) | refine c_true hF rfl ?_ | refine c_false hF rfl ?_ | (refine is_region ?_; refine is_region (id := 8) ?_; refine c_drawn [] [0, 1, 2, 3, 4, 5, 6, 7, 8, 9, 10, 11, 12, 13, 14, 15, 16, 17, 18, 19, 20, 21, 22, 23, 24, 25, 26, 27, 28, 29, 30] hH (by kernel_rfl) (by repeat (first | refine pan_then ?_ | refine pan_block ?_ | exact hpan)) ?_; clear hH; intro w hH; have hS := hH) | refine wp_block ?_ | refine wp_loop_rounds 2 (c_roundK 1 (fun K hK => ?_)) | refine c_roundK 0 (fun K hK => ?_) | refine wp_exit ?_ | refine wp_ret ?_ | refine wp_skip ?_ | (refine e_exit ?_; clear hK) | refine e_bexit rfl ?_ | (refine e_thenK hK ?_; clear hK))
 exact hret _ _ (c_ret1 hF J J ⟨(), trivial, rfl, hH.mid 0 5⟩)
theorem jErrorRight_MaxLength (bn : Nat) (sb : Nat) (lm : Lm) (x : S27) (A4 A5 : Option Addr) (c4 c5 : Nat) (hx : Gd x) (pb pc ab eb : Nat) (Z : List Value) (w0 : World) (hN : Old w0 bn (nodeL lm)) (hO : Old w0 sb [.slice (some ⟨bn, 0, none⟩) 1 1]) (hP : Old w0 pb (.string ⟨#[109, 97, 120, 76, 101, 110, 103, 116, 104]⟩ :: Z)) (h0 : x.f0 = 3) (ht : lm.t2 = true) (hlt : ((U.nc x.f3 x.f3.size 0 : Nat) : Int) > lm.n2) (hE : Old w0 eb [.int .i64 ((U.nc x.f3 x.f3.size 0 : Nat) : Int), .int .i64 lm.n2]) (hX : k27.K w0 x [.int .i64 x.f0, .bool x.f1, .int .i64 x.f2, .string x.f3, .slice A4 x.f4.length c4, .slice A5 x.f5.length c5]) (hj : judge lm x = false) : Ct 20 [.int .i64 2020, .agg #[.slice (some ⟨bn, 0, none⟩) 1 1, .slice none 0 0], .func (.func 21) #[] #[.pointer (some ⟨sb, 0, none⟩)], .agg #[.int .i64 x.f0, .bool x.f1, .int .i64 x.f2, .string x.f3, .slice A4 x.f4.length c4, .slice A5 x.f5.length c5], .agg #[.string ⟨#[49]⟩, .string ⟨#[77, 97, 120, 76, 101, 110, 103, 116, 104]⟩, .slice (some ⟨pb, 0, none⟩) 1 pc, .slice (some ⟨ab, 0, none⟩) 0 0, .string ⟨#[]⟩, .slice none 0 0, .slice (some ⟨eb, 0, none⟩) 2 2, .slice none 0 0]] w0 (fun _ : Unit => .bool true) (fun _ => []) (fun _ => True) := by
 unfold Ct
 refine c_enter (n := 103) (L := [(4, .agg #[.string ⟨#[49]⟩, .string ⟨#[77, 97, 120, 76, 101, 110, 103, 116, 104]⟩, .slice (some ⟨pb, 0, none⟩) 1 pc, .slice (some ⟨ab, 0, none⟩) 0 0, .string ⟨#[]⟩, .slice none 0 0, .slice (some ⟨eb, 0, none⟩) 2 2, .slice none 0 0]), (3, .agg #[.int .i64 x.f0, .bool x.f1, .int .i64 x.f2, .string x.f3, .slice A4 x.f4.length c4, .slice A5 x.f5.length c5]), (2, .func (.func 21) #[] #[.pointer (some ⟨sb, 0, none⟩)]), (1, .agg #[.slice (some ⟨bn, 0, none⟩) 1 1, .slice none 0 0]), (0, .int .i64 2020)]) Tryz.func20 J J J J ?_
 intro a hF
 have hH := Hp.start w0
 refine c_open (fun Q hpan hret hnorm => ?_)
 repeat (first | (refine is_list ?_; first | (refine s_pe hF J J J J ?_; clear hF; intro a hF) | (refine is_load ?_; (first | refine s_ld 0 hF hH J J J J J J J ?_ | refine s_ld 1 hF hH J J J J J J J ?_ | refine s_lda 1 hF hH J J J J J J J ?_); clear hF; intro a hF) | (refine is_call ?_; (first | refine s_call hF hH J J J J J (jPart_ok x A4 A5 c4 c5 ab _) ?_ | refine s_call hF hH J J J J J (jPathRight_MaxLength pb pc ab eb Z _ (hP.later hH)) ?_); clear hF hH; intro a w r hr hF hH) | (refine s_al hF hH J J J J ?_; clear hF hH; intro a b w hF hH) | (refine s_sta 0 hF hH J J J J J J J J J J ?_; clear hH; intro w hH) | (refine s_bx hF hH J J J J ?_; clear hF hH; intro a b w hF hH)) | refine c_seq (fun K hK => ?_) | refine wp_region_lit ?_ | (refine c_nilK hK ?_; clear hK) | refine c_false hF rfl ?_ | refine wp_skip ?_ | (refine e_thenK hK ?_; clear hK))
 refine s_callF hF J J J J J J (c21' bn sb _ (hO.later hH)) ?_
 rintro e w ⟨lb, _, rfl, hw⟩
 refine ⟨_, rfl, ?_⟩
 replace hH := hH.app hw
 clear hF hw; intro a hF
 repeat (first | (refine is_list ?_; first | (refine s_pe hF J J J J ?_; clear hF; intro a hF) | (refine is_load ?_; refine s_ld 2 hF hH J J J J J J J ?_; clear hF; intro a hF)) | (refine is_draw ?_; first | (refine d_pe hF J J J J J J ?_; clear hF; intro a hF) | (refine is_dload rfl ?_; (first | refine d_ld 0 hF hS J J J J J J J J ?_ | refine d_lda 1 hF hS J J J J J J J J ?_ | refine d_lda 2 hF hS J J J J J J J J ?_ | refine d_lda 4 hF hS J J J J J J J J ?_); clear hF; intro a hF) | (refine is_dcall rfl ?_; (first | refine d_call hF hH hS J J J J J J (jTakes_no bn lm x A4 A5 c4 c5 hx _ (hN.later hH) (k27.K_below hH.below hX) hj) ?_ | refine d_call hF hH hS J J J J J J (jKindRight_MaxLength bn lm x A4 A5 c4 c5 hx pb pc ab eb _ (hN.later hH) h0 ht hlt (hE.later hH) (k27.K_below hH.below hX)) ?_); clear hF hH hS; intro a w r hr hF hH hS) | (refine d_ix hF J J J J J J J J ?_; clear hF; intro a hF)) | (refine c_dnilB ?_; clear hS) | refine c_seq (fun K hK => ?_) | refine wp_region_lit ?_ | (refine c_nilK hK ?_; clear hK) | refine c_true hF rfl ?_ | refine c_false hF rfl ?_ | (refine is_region ?_; refine is_region (id := 8) ?_; refine c_drawn [] [0, 1, 2, 3, 4, 5, 6, 7, 8, 9, 10, 11, 12, 13, 14, 15, 16, 17, 18, 19, 20, 21, 22, 23, 24, 25, 26, 27, 28, 29, 30] hH (by kernel_rfl) (by repeat (first | refine pan_then ?_ | refine pan_block ?_ | exact hpan)) ?_; clear hH; intro w hH; have hS := hH) | refine wp_block ?_ | refine wp_loop_rounds 2 (c_roundK 1 (fun K hK => ?_)) | refine c_roundK 0 (fun K hK => ?_) | refine wp_exit ?_ | refine wp_ret ?_ | refine wp_skip ?_ | (refine e_exit ?_; clear hK) | refine e_bexit rfl ?_ | (refine e_thenK hK ?_; clear hK))
 exact hret _ _ (c_ret1 hF J J ⟨(), trivial, rfl, hH.mid 0 5⟩)
theorem jErrorRight_MinProperties (bn : Nat) (sb : Nat) (lm : Lm) (x : S27) (A4 A5 : Option Addr) (c4 c5 : Nat) (hx : Gd x) (pb pc ab eb : Nat) (Z : List Value) (w0 : World) (hN : Old w0 bn (nodeL lm)) (hO : Old w0 sb [.slice (some ⟨bn, 0, none⟩) 1 1]) (hP : Old w0 pb (.string ⟨#[109, 105, 110, 80, 114, 111, 112, 101, 114, 116, 105, 101, 115]⟩ :: Z)) (h0 : x.f0 = 5) (ht : lm.t5 = true) (hlt : (((U.dd x.f4).length : Nat) : Int) < lm.n5) (hE : Old w0 eb [.int .i64 (((U.dd x.f4).length : Nat) : Int), .int .i64 lm.n5]) (hX : k27.K w0 x [.int .i64 x.f0, .bool x.f1, .int .i64 x.f2, .string x.f3, .slice A4 x.f4.length c4, .slice A5 x.f5.length c5]) (hj : judge lm x = false) : Ct 20 [.int .i64 2020, .agg #[.slice (some ⟨bn, 0, none⟩) 1 1, .slice none 0 0], .func (.func 21) #[] #[.pointer (some ⟨sb, 0, none⟩)], .agg #[.int .i64 x.f0, .bool x.f1, .int .i64 x.f2, .string x.f3, .slice A4 x.f4.length c4, .slice A5 x.f5.length c5], .agg #[.string ⟨#[49]⟩, .string ⟨#[77, 105, 110, 80, 114, 111, 112, 101, 114, 116, 105, 101, 115]⟩, .slice (some ⟨pb, 0, none⟩) 1 pc, .slice (some ⟨ab, 0, none⟩) 0 0, .string ⟨#[]⟩, .slice none 0 0, .slice (some ⟨eb, 0, none⟩) 2 2, .slice none 0 0]] w0 (fun _ : Unit => .bool true) (fun _ => []) (fun _ => True) := by
 unfold Ct
 refine c_enter (n := 103) (L := [(4, .agg #[.string ⟨#[49]⟩, .string ⟨#[77, 105, 110, 80, 114, 111, 112, 101, 114, 116, 105, 101, 115]⟩, .slice (some ⟨pb, 0, none⟩) 1 pc, .slice (some ⟨ab, 0, none⟩) 0 0, .string ⟨#[]⟩, .slice none 0 0, .slice (some ⟨eb, 0, none⟩) 2 2, .slice none 0 0]), (3, .agg #[.int .i64 x.f0, .bool x.f1, .int .i64 x.f2, .string x.f3, .slice A4 x.f4.length c4, .slice A5 x.f5.length c5]), (2, .func (.func 21) #[] #[.pointer (some ⟨sb, 0, none⟩)]), (1, .agg #[.slice (some ⟨bn, 0, none⟩) 1 1, .slice none 0 0]), (0, .int .i64 2020)]) Tryz.func20 J J J J ?_
 intro a hF
 have hH := Hp.start w0
 refine c_open (fun Q hpan hret hnorm => ?_)
 repeat (first | (refine is_list ?_; first | (refine s_pe hF J J J J ?_; clear hF; intro a hF) | (refine is_load ?_; (first | refine s_ld 0 hF hH J J J J J J J ?_ | refine s_ld 1 hF hH J J J J J J J ?_ | refine s_lda 1 hF hH J J J J J J J ?_); clear hF; intro a hF) | (refine is_call ?_; (first | refine s_call hF hH J J J J J (jPart_ok x A4 A5 c4 c5 ab _) ?_ | refine s_call hF hH J J J J J (jPathRight_MinProperties pb pc ab eb Z _ (hP.later hH)) ?_); clear hF hH; intro a w r hr hF hH) | (refine s_al hF hH J J J J ?_; clear hF hH; intro a b w hF hH) | (refine s_sta 0 hF hH J J J J J J J J J J ?_; clear hH; intro w hH) | (refine s_bx hF hH J J J J ?_; clear hF hH; intro a b w hF hH)) | refine c_seq (fun K hK => ?_) | refine wp_region_lit ?_ | (refine c_nilK hK ?_; clear hK) | refine c_false hF rfl ?_ | refine wp_skip ?_ | (refine e_thenK hK ?_; clear hK))
 refine s_callF hF J J J J J J (c21' bn sb _ (hO.later hH)) ?_
 rintro e w ⟨lb, _, rfl, hw⟩
 refine ⟨_, rfl, ?_⟩
 replace hH := hH.app hw
 clear hF hw; intro a hF
 repeat (first | (refine is_list ?_; first | (refine s_pe hF J J J J ?_; clear hF; intro a hF) | (refine is_load ?_; refine s_ld 2 hF hH J J J J J J J ?_; clear hF; intro a hF)) | (refine is_draw ?_; first | (refine d_pe hF J J J J J J ?_; clear hF; intro a hF) | (refine is_dload rfl ?_; (first | refine d_ld 0 hF hS J J J J J J J J ?_ | refine d_lda 1 hF hS J J J J J J J J ?_ | refine d_lda 2 hF hS J J J J J J J J ?_ | refine d_lda 4 hF hS J J J J J J J J ?_); clear hF; intro a hF) | (refine is_dcall rfl ?_; (first | refine d_call hF hH hS J J J J J J (jTakes_no bn lm x A4 A5 c4 c5 hx _ (hN.later hH) (k27.K_below hH.below hX) hj) ?_ | refine d_call hF hH hS J J J J J J (jKindRight_MinProperties bn lm x A4 A5 c4 c5 hx pb pc ab eb _ (hN.later hH) h0 ht hlt (hE.later hH) (k27.K_below hH.below hX)) ?_); clear hF hH hS; intro a w r hr hF hH hS) | (refine d_ix hF J J J J J J J J ?_; clear hF; intro a hF)) | (refine c_dnilB ?_; clear hS) | refine c_seq (fun K hK => ?_) | refine wp_region_lit ?_ | (refine c_nilK hK ?_; clear hK) | refine c_true hF rfl ?_ | refine c_false hF rfl ?_ | (refine is_region ?_; refine is_region (id := 8) ?_; refine c_drawn [] [0, 1, 2, 3, 4, 5, 6, 7, 8, 9, 10, 11, 12, 13, 14, 15, 16, 17, 18, 19, 20, 21, 22, 23, 24, 25, 26, 27, 28, 29, 30] hH (by kernel_rfl) (by repeat (first | refine pan_then ?_ | refine pan_block ?_ | exact hpan)) ?_; clear hH; intro w hH; have hS := hH) | refine wp_block ?_ | refine wp_loop_rounds 2 (c_roundK 1 (fun K hK => ?_)) | refine c_roundK 0 (fun K hK => ?_) | refine wp_exit ?_ | refine wp_ret ?_ | refine wp_skip ?_ | (refine e_exit ?_; clear hK) | refine e_bexit rfl ?_ | (refine e_thenK hK ?_; clear hK))
 exact hret _ _ (c_ret1 hF J J ⟨(), trivial, rfl, hH.mid 0 5⟩)
theorem jErrorRight_MaxProperties (bn : Nat) (sb : Nat) (lm : Lm) (x : S27) (A4 A5 : Option Addr) (c4 c5 : Nat) (hx : Gd x) (pb pc ab eb : Nat) (Z : List Value) (w0 : World) (hN : Old w0 bn (nodeL lm)) (hO : Old w0 sb [.slice (some ⟨bn, 0, none⟩) 1 1]) (hP : Old w0 pb (.string ⟨#[109, 97, 120, 80, 114, 111, 112, 101, 114, 116, 105, 101, 115]⟩ :: Z)) (h0 : x.f0 = 5) (ht : lm.t6 = true) (hlt : (((U.dd x.f4).length : Nat) : Int) > lm.n6) (hE : Old w0 eb [.int .i64 (((U.dd x.f4).length : Nat) : Int), .int .i64 lm.n6]) (hX : k27.K w0 x [.int .i64 x.f0, .bool x.f1, .int .i64 x.f2, .string x.f3, .slice A4 x.f4.length c4, .slice A5 x.f5.length c5]) (hj : judge lm x = false) : Ct 20 [.int .i64 2020, .agg #[.slice (some ⟨bn, 0, none⟩) 1 1, .slice none 0 0], .func (.func 21) #[] #[.pointer (some ⟨sb, 0, none⟩)], .agg #[.int .i64 x.f0, .bool x.f1, .int .i64 x.f2, .string x.f3, .slice A4 x.f4.length c4, .slice A5 x.f5.length c5], .agg #[.string ⟨#[49]⟩, .string ⟨#[77, 97, 120, 80, 114, 111, 112, 101, 114, 116, 105, 101, 115]⟩, .slice (some ⟨pb, 0, none⟩) 1 pc, .slice (some ⟨ab, 0, none⟩) 0 0, .string ⟨#[]⟩, .slice none 0 0, .slice (some ⟨eb, 0, none⟩) 2 2, .slice none 0 0]] w0 (fun _ : Unit => .bool true) (fun _ => []) (fun _ => True) := by
 unfold Ct
 refine c_enter (n := 103) (L := [(4, .agg #[.string ⟨#[49]⟩, .string ⟨#[77, 97, 120, 80, 114, 111, 112, 101, 114, 116, 105, 101, 115]⟩, .slice (some ⟨pb, 0, none⟩) 1 pc, .slice (some ⟨ab, 0, none⟩) 0 0, .string ⟨#[]⟩, .slice none 0 0, .slice (some ⟨eb, 0, none⟩) 2 2, .slice none 0 0]), (3, .agg #[.int .i64 x.f0, .bool x.f1, .int .i64 x.f2, .string x.f3, .slice A4 x.f4.length c4, .slice A5 x.f5.length c5]), (2, .func (.func 21) #[] #[.pointer (some ⟨sb, 0, none⟩)]), (1, .agg #[.slice (some ⟨bn, 0, none⟩) 1 1, .slice none 0 0]), (0, .int .i64 2020)]) Tryz.func20 J J J J ?_
 intro a hF
 have hH := Hp.start w0
 refine c_open (fun Q hpan hret hnorm => ?_)
 repeat (first | (refine is_list ?_; first | (refine s_pe hF J J J J ?_; clear hF; intro a hF) | (refine is_load ?_; (first | refine s_ld 0 hF hH J J J J J J J ?_ | refine s_ld 1 hF hH J J J J J J J ?_ | refine s_lda 1 hF hH J J J J J J J ?_); clear hF; intro a hF) | (refine is_call ?_; (first | refine s_call hF hH J J J J J (jPart_ok x A4 A5 c4 c5 ab _) ?_ | refine s_call hF hH J J J J J (jPathRight_MaxProperties pb pc ab eb Z _ (hP.later hH)) ?_); clear hF hH; intro a w r hr hF hH) | (refine s_al hF hH J J J J ?_; clear hF hH; intro a b w hF hH) | (refine s_sta 0 hF hH J J J J J J J J J J ?_; clear hH; intro w hH) | (refine s_bx hF hH J J J J ?_; clear hF hH; intro a b w hF hH)) | refine c_seq (fun K hK => ?_) | refine wp_region_lit ?_ | (refine c_nilK hK ?_; clear hK) | refine c_false hF rfl ?_ | refine wp_skip ?_ | (refine e_thenK hK ?_; clear hK))
 refine s_callF hF J J J J J J (c21' bn sb _ (hO.later hH)) ?_
 rintro e w ⟨lb, _, rfl, hw⟩
 refine ⟨_, rfl, ?_⟩
 replace hH := hH.app hw
 clear hF hw; intro a hF
 repeat (first | (refine is_list ?_; first | (refine s_pe hF J J J J ?_; clear hF; intro a hF) | (refine is_load ?_; refine s_ld 2 hF hH J J J J J J J ?_; clear hF; intro a hF)) | (refine is_draw ?_; first | (refine d_pe hF J J J J J J ?_; clear hF; intro a hF) | (refine is_dload rfl ?_; (first | refine d_ld 0 hF hS J J J J J J J J ?_ | refine d_lda 1 hF hS J J J J J J J J ?_ | refine d_lda 2 hF hS J J J J J J J J ?_ | refine d_lda 4 hF hS J J J J J J J J ?_); clear hF; intro a hF) | (refine is_dcall rfl ?_; (first | refine d_call hF hH hS J J J J J J (jTakes_no bn lm x A4 A5 c4 c5 hx _ (hN.later hH) (k27.K_below hH.below hX) hj) ?_ | refine d_call hF hH hS J J J J J J (jKindRight_MaxProperties bn lm x A4 A5 c4 c5 hx pb pc ab eb _ (hN.later hH) h0 ht hlt (hE.later hH) (k27.K_below hH.below hX)) ?_); clear hF hH hS; intro a w r hr hF hH hS) | (refine d_ix hF J J J J J J J J ?_; clear hF; intro a hF)) | (refine c_dnilB ?_; clear hS) | refine c_seq (fun K hK => ?_) | refine wp_region_lit ?_ | (refine c_nilK hK ?_; clear hK) | refine c_true hF rfl ?_ | refine c_false hF rfl ?_ | (refine is_region ?_; refine is_region (id := 8) ?_; refine c_drawn [] [0, 1, 2, 3, 4, 5, 6, 7, 8, 9, 10, 11, 12, 13, 14, 15, 16, 17, 18, 19, 20, 21, 22, 23, 24, 25, 26, 27, 28, 29, 30] hH (by kernel_rfl) (by repeat (first | refine pan_then ?_ | refine pan_block ?_ | exact hpan)) ?_; clear hH; intro w hH; have hS := hH) | refine wp_block ?_ | refine wp_loop_rounds 2 (c_roundK 1 (fun K hK => ?_)) | refine c_roundK 0 (fun K hK => ?_) | refine wp_exit ?_ | refine wp_ret ?_ | refine wp_skip ?_ | (refine e_exit ?_; clear hK) | refine e_bexit rfl ?_ | (refine e_thenK hK ?_; clear hK))
 exact hret _ _ (c_ret1 hF J J ⟨(), trivial, rfl, hH.mid 0 5⟩)
theorem jErrorRight_Schema (bn : Nat) (sb : Nat) (lm : Lm) (x : S27) (A4 A5 : Option Addr) (c4 c5 : Nat) (hx : Gd x) (nm : ByteArray) (pb0 a0 kb kc : Nat) (pb pc ab eb : Nat) (w0 : World) (hN : Old w0 bn (nodeL lm)) (hO : Old w0 sb [.slice (some ⟨bn, 0, none⟩) 1 1]) (hK2 : Old w0 kb [.string ⟨#[49]⟩, .string nm, .slice (some ⟨pb, 0, none⟩) 1 pc, .slice (some ⟨ab, 0, none⟩) 0 0, .string ⟨#[]⟩, .slice none 0 0, .slice (some ⟨eb, 0, none⟩) 2 2, .slice none 0 0]) (hX : k27.K w0 x [.int .i64 x.f0, .bool x.f1, .int .i64 x.f2, .string x.f3, .slice A4 x.f4.length c4, .slice A5 x.f5.length c5]) (hj : judge lm x = false) (hkid : ∀ w, Hp w0 w [] → Ct 20 [.int .i64 2020, .agg #[.slice (some ⟨bn, 0, none⟩) 1 1, .slice none 0 0], .func (.func 21) #[] #[.pointer (some ⟨sb, 0, none⟩)], .agg #[.int .i64 x.f0, .bool x.f1, .int .i64 x.f2, .string x.f3, .slice A4 x.f4.length c4, .slice A5 x.f5.length c5], .agg #[.string ⟨#[49]⟩, .string nm, .slice (some ⟨pb, 0, none⟩) 1 pc, .slice (some ⟨ab, 0, none⟩) 0 0, .string ⟨#[]⟩, .slice none 0 0, .slice (some ⟨eb, 0, none⟩) 2 2, .slice none 0 0]] w (fun _ : Unit => .bool true) (fun _ => []) (fun _ => True)) : Ct 20 [.int .i64 2020, .agg #[.slice (some ⟨bn, 0, none⟩) 1 1, .slice none 0 0], .func (.func 21) #[] #[.pointer (some ⟨sb, 0, none⟩)], .agg #[.int .i64 x.f0, .bool x.f1, .int .i64 x.f2, .string x.f3, .slice A4 x.f4.length c4, .slice A5 x.f5.length c5], .agg #[.string ⟨#[49]⟩, .string ⟨#[83, 99, 104, 101, 109, 97]⟩, .slice (some ⟨pb0, 0, none⟩) 0 0, .slice (some ⟨a0, 0, none⟩) 0 0, .string ⟨#[]⟩, .slice none 0 0, .slice none 0 0, .slice (some ⟨kb, 0, none⟩) 1 kc]] w0 (fun _ : Unit => .bool true) (fun _ => []) (fun _ => True) := by
 unfold Ct
 refine c_enter (n := 103) (L := [(4, .agg #[.string ⟨#[49]⟩, .string ⟨#[83, 99, 104, 101, 109, 97]⟩, .slice (some ⟨pb0, 0, none⟩) 0 0, .slice (some ⟨a0, 0, none⟩) 0 0, .string ⟨#[]⟩, .slice none 0 0, .slice none 0 0, .slice (some ⟨kb, 0, none⟩) 1 kc]), (3, .agg #[.int .i64 x.f0, .bool x.f1, .int .i64 x.f2, .string x.f3, .slice A4 x.f4.length c4, .slice A5 x.f5.length c5]), (2, .func (.func 21) #[] #[.pointer (some ⟨sb, 0, none⟩)]), (1, .agg #[.slice (some ⟨bn, 0, none⟩) 1 1, .slice none 0 0]), (0, .int .i64 2020)]) Tryz.func20 J J J J ?_
 intro a hF
 have hH := Hp.start w0
 refine c_open (fun Q hpan hret hnorm => ?_)
 repeat (first | (refine is_list ?_; first | (refine s_pe hF J J J J ?_; clear hF; intro a hF) | (refine is_load ?_; (first | refine s_ld 0 hF hH J J J J J J J ?_ | refine s_ld 1 hF hH J J J J J J J ?_ | refine s_lda 1 hF hH J J J J J J J ?_); clear hF; intro a hF) | (refine is_call ?_; (first | refine s_call hF hH J J J J J (jPart_ok x A4 A5 c4 c5 a0 _) ?_ | refine s_call hF hH J J J J J (jPathRight_Schema pb0 a0 kb kc _) ?_); clear hF hH; intro a w r hr hF hH) | (refine s_al hF hH J J J J ?_; clear hF hH; intro a b w hF hH) | (refine s_sta 0 hF hH J J J J J J J J J J ?_; clear hH; intro w hH) | (refine s_bx hF hH J J J J ?_; clear hF hH; intro a b w hF hH)) | refine c_seq (fun K hK => ?_) | refine wp_region_lit ?_ | (refine c_nilK hK ?_; clear hK) | refine c_false hF rfl ?_ | refine wp_skip ?_ | (refine e_thenK hK ?_; clear hK))
 refine s_callF hF J J J J J J (c21' bn sb _ (hO.later hH)) ?_
 rintro e w ⟨lb, _, rfl, hw⟩
 refine ⟨_, rfl, ?_⟩
 replace hH := hH.app hw
 clear hF hw; intro a hF
 repeat (first | (refine is_list ?_; first | (refine s_pe hF J J J J ?_; clear hF; intro a hF) | (refine is_load ?_; refine s_ld 2 hF hH J J J J J J J ?_; clear hF; intro a hF)) | (refine is_draw ?_; first | (refine d_pe hF J J J J J J ?_; clear hF; intro a hF) | (refine is_dload rfl ?_; (first | refine d_ld 0 hF hS J J J J J J J J ?_ | refine d_ld 2 hF hS J J J J J J J J ?_ | refine d_lda 1 hF hS J J J J J J J J ?_ | refine d_lda 2 hF hS J J J J J J J J ?_ | refine d_lda 3 hF hS J J J J J J J J ?_ | refine d_lda 4 hF hS J J J J J J J J ?_ | refine d_ldo hK2 hF hS J J J J J J J ?_ | refine d_ldao hK2 hF hS J J J J J J J ?_); clear hF; intro a hF) | (refine is_dcall rfl ?_; (first | refine d_call hF hH hS J J J J J J (jTakes_no bn lm x A4 A5 c4 c5 hx _ (hN.later hH) (k27.K_below hH.below hX) hj) ?_ | refine d_call hF hH hS J J J J J J (jKindRight_Schema bn lm x A4 A5 c4 c5 pb0 a0 kb kc _ (hN.later hH)) ?_ | refine d_call hF hH hS J J J J J J (jBegins_ok ab a0 _) ?_ | refine d_call hF hH hS J J J J J J (hkid _ (hH.sub (List.nil_sublist _))) ?_); clear hF hH hS; intro a w r hr hF hH hS) | (refine d_ix hF J J J J J J J J ?_; clear hF; intro a hF)) | (refine c_dnilB ?_; clear hS) | refine c_seq (fun K hK => ?_) | refine wp_region_lit ?_ | (refine c_nilK hK ?_; clear hK) | refine c_true hF rfl ?_ | refine c_false hF rfl ?_ | (refine is_region ?_; first | (refine is_region (id := 8) ?_; refine c_drawn [] [0, 1, 2, 3, 4, 5, 6, 7, 8, 9, 10, 11, 12, 13, 14, 15, 16, 17, 18, 19, 20, 21, 22, 23, 24, 25, 26, 27, 28, 29, 30] hH (by kernel_rfl) (by repeat (first | refine pan_then ?_ | refine pan_block ?_ | exact hpan)) ?_; clear hH; intro w hH; have hS := hH) | (refine is_region (id := 12) ?_; refine c_drawn [] [0, 1, 2, 3, 4, 5, 6, 7, 8, 9, 10, 11, 12, 13, 14, 15, 16, 17, 18, 19, 20, 21, 22, 23, 24] hH (by kernel_rfl) (by repeat (first | refine pan_then ?_ | refine pan_block ?_ | exact hpan)) ?_; clear hH; intro w hH; have hS := hH)) | refine wp_block ?_ | refine wp_loop_rounds 2 (c_roundK 1 (fun K hK => ?_)) | refine c_roundK 0 (fun K hK => ?_) | refine wp_exit ?_ | refine wp_ret ?_ | refine wp_skip ?_ | (refine e_exit ?_; clear hK) | refine e_bexit rfl ?_ | (refine e_thenK hK ?_; clear hK))
 exact hret _ _ (c_ret1 hF J J ⟨(), trivial, rfl, hH.mid 0 5⟩)
theorem c15 (bn : Nat) (x : S27) (A4 A5 : Option Addr) (c4 c5 : Nat) (pb ab kb kc : Nat) (w0 : World) (hT : ∀ (w : World) (sb : Nat), Hp w0 w [] → Old w sb [.slice (some ⟨bn, 0, none⟩) 1 1] → Ct 20 [.int .i64 2020, .agg #[.slice (some ⟨bn, 0, none⟩) 1 1, .slice none 0 0], .func (.func 21) #[] #[.pointer (some ⟨sb, 0, none⟩)], .agg #[.int .i64 x.f0, .bool x.f1, .int .i64 x.f2, .string x.f3, .slice A4 x.f4.length c4, .slice A5 x.f5.length c5], .agg #[.string ⟨#[49]⟩, .string ⟨#[83, 99, 104, 101, 109, 97]⟩, .slice (some ⟨pb, 0, none⟩) 0 0, .slice (some ⟨ab, 0, none⟩) 0 0, .string ⟨#[]⟩, .slice none 0 0, .slice none 0 0, .slice (some ⟨kb, 0, none⟩) 1 kc]] w (fun _ : Unit => .bool true) (fun _ => []) (fun _ => True)) : Ct 15 [.int .i64 2020, .slice (some ⟨bn, 0, none⟩) 1 1, .agg #[.int .i64 x.f0, .bool x.f1, .int .i64 x.f2, .string x.f3, .slice A4 x.f4.length c4, .slice A5 x.f5.length c5], .agg #[.string ⟨#[49]⟩, .string ⟨#[83, 99, 104, 101, 109, 97]⟩, .slice (some ⟨pb, 0, none⟩) 0 0, .slice (some ⟨ab, 0, none⟩) 0 0, .string ⟨#[]⟩, .slice none 0 0, .slice none 0 0, .slice (some ⟨kb, 0, none⟩) 1 kc]] w0 (fun _ : Unit => .bool true) (fun _ => []) (fun _ => True) := by
 unfold Ct
 refine c_enter (n := 16) (L := [(3, .agg #[.string ⟨#[49]⟩, .string ⟨#[83, 99, 104, 101, 109, 97]⟩, .slice (some ⟨pb, 0, none⟩) 0 0, .slice (some ⟨ab, 0, none⟩) 0 0, .string ⟨#[]⟩, .slice none 0 0, .slice none 0 0, .slice (some ⟨kb, 0, none⟩) 1 kc]), (2, .agg #[.int .i64 x.f0, .bool x.f1, .int .i64 x.f2, .string x.f3, .slice A4 x.f4.length c4, .slice A5 x.f5.length c5]), (1, .slice (some ⟨bn, 0, none⟩) 1 1), (0, .int .i64 2020)]) Tryz.func15 J J J J ?_
 intro a hF
 have hH := Hp.start w0
 refine c_open (fun Q hpan hret hnorm => ?_)
 repeat (first | (refine is_list ?_; first | (refine s_pe hF J J J J ?_; clear hF; intro a hF) | (refine is_load ?_; (first | refine s_ld 2 hF hH J J J J J J J ?_ | refine s_lda 0 hF hH J J J J J J J ?_ | refine s_lda 1 hF hH J J J J J J J ?_); clear hF; intro a hF) | (refine is_call ?_; refine s_call hF hH J J J J J (hT _ _ (hH.sub (List.nil_sublist _)) (hH.toOld (i := 2) rfl)) ?_; clear hF hH; intro a w r hr hF hH) | (refine s_mf hF J J J J ?_; clear hF; intro a hF) | (refine s_bx hF hH J J J J ?_; clear hF hH; intro a b w hF hH)) | refine c_seq (fun K hK => ?_) | refine wp_region_lit ?_ | (refine c_nilK hK ?_; clear hK) | refine wp_ret ?_)
 exact hret _ _ (c_ret1 hF J J ⟨(), trivial, rfl, hH.mid 0 3⟩)
end Go.Proofs.YtlkikblohnnlcaaGreatDoor.Y
end
section
namespace Go.Proofs.YtlkikblohnnlcaaGreatDoor.Y
open Go Go.RowKit X R Go.Proofs.YtlkikblohnnlcaaGreatDoorW.PrintWords
set_option linter.unusedVariables false
set_option maxRecDepth 4000
attribute [local irreducible] wpList dL Code.wp bodyPost Ct Calls Exit.then Exit.inBlock Code.rounds
set_option maxHeartbeats 0
theorem jValid_ok (bn : Nat) (lm : Lm) (x : S27) (A4 A5 : Option Addr) (c4 c5 : Nat) (hx : Gd x) (w0 : World) (hN : Old w0 bn (nodeL lm)) (hX : k27.K w0 x [.int .i64 x.f0, .bool x.f1, .int .i64 x.f2, .string x.f3, .slice A4 x.f4.length c4, .slice A5 x.f5.length c5]) : Ct 13 [.slice (some ⟨bn, 0, none⟩) 1 1, .agg #[.int .i64 x.f0, .bool x.f1, .int .i64 x.f2, .string x.f3, .slice A4 x.f4.length c4, .slice A5 x.f5.length c5]] w0 (fun _ : Unit => .bool (judge lm x)) (fun _ => []) (fun _ => True) := by
 unfold Ct
 refine c_enter (n := 15) (L := [(1, .agg #[.int .i64 x.f0, .bool x.f1, .int .i64 x.f2, .string x.f3, .slice A4 x.f4.length c4, .slice A5 x.f5.length c5]), (0, .slice (some ⟨bn, 0, none⟩) 1 1)]) Tryz.func13 J J J J ?_
 intro a hF
 have hH := Hp.start w0
 refine c_open (fun Q hpan hret hnorm => ?_)
 repeat (first | (refine is_list ?_; first | (refine s_pe hF J J J J ?_; clear hF; intro a hF) | (refine is_load ?_; refine s_lda 0 hF hH J J J J J J J ?_; clear hF; intro a hF) | (refine is_call ?_; refine s_call hF hH J J J J J (jJudge_ok bn lm x A4 A5 c4 c5 hx _ (hN.later hH) (k27.K_below hH.below hX)) ?_; clear hF hH; intro a w q hq hF hH) | (refine s_bx hF hH J J J J ?_; clear hF hH; intro a b w hF hH)) | refine c_seq (fun K hK => ?_) | refine wp_region_lit ?_ | (refine c_nilK hK ?_; clear hK) | refine wp_ret ?_)
 exact hret _ _ (c_ret1 hF J J ⟨(), trivial, rfl, hH.mid 0 1⟩)
theorem jAmong_MinLength_MinLength (ks : Nat) (w0 : World) (hQ : Old w0 ks [.string ⟨#[77, 105, 110, 76, 101, 110, 103, 116, 104]⟩, .string ⟨#[77, 97, 120, 76, 101, 110, 103, 116, 104]⟩]) : Ct 19 [.string ⟨#[77, 105, 110, 76, 101, 110, 103, 116, 104]⟩, .slice (some ⟨ks, 0, none⟩) 2 2] w0 (fun _ : Unit => .bool true) (fun _ => []) (fun _ => True) := by
 unfold Ct
 refine c_enter (n := 18) (L := [(1, .slice (some ⟨ks, 0, none⟩) 2 2), (0, .string ⟨#[77, 105, 110, 76, 101, 110, 103, 116, 104]⟩)]) Tryz.func19 J J J J ?_
 intro a hF
 have hH := Hp.start w0
 refine c_open (fun Q hpan hret hnorm => ?_)
 repeat (first | (refine is_list ?_; first | (refine s_pe hF J J J J ?_; clear hF; intro a hF) | (refine is_load ?_; refine s_ldo hQ hF hH J J J J J J ?_; clear hF; intro a hF) | (refine s_ix hF J J J J J J J ?_; clear hF; intro a hF)) | refine c_seq (fun K hK => ?_) | refine wp_region_lit ?_ | (refine c_nilK hK ?_; clear hK) | refine c_true hF rfl ?_ | refine wp_block ?_ | refine wp_loop_rounds 3 (c_roundK 2 (fun K hK => ?_)) | refine wp_ret ?_ | refine wp_skip ?_ | (refine e_ret ?_; clear hK) | refine e_bret ?_ | (refine e_thenK hK ?_; clear hK))
 exact hret _ _ (c_ret1 hF J J ⟨(), trivial, rfl, hH.mid 0 0⟩)
theorem jKinds_MinLength (pb pc ab eb : Nat) (ks : Nat) (w0 : World) (hQ : Old w0 ks [.string ⟨#[77, 105, 110, 76, 101, 110, 103, 116, 104]⟩, .string ⟨#[77, 97, 120, 76, 101, 110, 103, 116, 104]⟩]) : Ct 14 [.agg #[.string ⟨#[49]⟩, .string ⟨#[77, 105, 110, 76, 101, 110, 103, 116, 104]⟩, .slice (some ⟨pb, 0, none⟩) 1 pc, .slice (some ⟨ab, 0, none⟩) 0 0, .string ⟨#[]⟩, .slice none 0 0, .slice (some ⟨eb, 0, none⟩) 2 2, .slice none 0 0], .string ⟨#[49]⟩, .slice (some ⟨ks, 0, none⟩) 2 2] w0 (fun _ : Unit => .int .i64 1) (fun _ => []) (fun _ => True) := by
 unfold Ct
 refine c_enter (n := 37) (L := [(2, .slice (some ⟨ks, 0, none⟩) 2 2), (1, .string ⟨#[49]⟩), (0, .agg #[.string ⟨#[49]⟩, .string ⟨#[77, 105, 110, 76, 101, 110, 103, 116, 104]⟩, .slice (some ⟨pb, 0, none⟩) 1 pc, .slice (some ⟨ab, 0, none⟩) 0 0, .string ⟨#[]⟩, .slice none 0 0, .slice (some ⟨eb, 0, none⟩) 2 2, .slice none 0 0])]) Tryz.func14 J J J J ?_
 intro a hF
 have hH := Hp.start w0
 refine c_open (fun Q hpan hret hnorm => ?_)
 repeat (first | (refine is_list ?_; first | (refine s_pe hF J J J J ?_; clear hF; intro a hF) | (refine is_load ?_; refine s_ld 0 hF hH J J J J J J J ?_; clear hF; intro a hF) | (refine is_call ?_; refine s_call hF hH J J J J J (jAmong_MinLength_MinLength ks _ (hQ.later hH)) ?_; clear hF hH; intro a w r hr hF hH) | (refine s_bx hF hH J J J J ?_; clear hF hH; intro a b w hF hH)) | refine c_seq (fun K hK => ?_) | refine wp_region_lit ?_ | (refine c_nilK hK ?_; clear hK) | refine c_true hF rfl ?_ | refine c_false hF rfl ?_ | refine wp_block ?_ | refine wp_loop_rounds 2 (c_roundK 1 (fun K hK => ?_)) | refine wp_exit ?_ | refine wp_ret ?_ | (refine e_exit ?_; clear hK) | refine e_bexit rfl ?_ | (refine e_thenK hK ?_; clear hK))
 exact hret _ _ (c_ret1 hF J J ⟨(), trivial, rfl, hH.mid 0 1⟩)
theorem jAmong_MinLength_MaxLength (ks : Nat) (w0 : World) (hQ : Old w0 ks [.string ⟨#[77, 105, 110, 76, 101, 110, 103, 116, 104]⟩, .string ⟨#[77, 97, 120, 76, 101, 110, 103, 116, 104]⟩]) : Ct 19 [.string ⟨#[77, 97, 120, 76, 101, 110, 103, 116, 104]⟩, .slice (some ⟨ks, 0, none⟩) 2 2] w0 (fun _ : Unit => .bool true) (fun _ => []) (fun _ => True) := by
 unfold Ct
 refine c_enter (n := 18) (L := [(1, .slice (some ⟨ks, 0, none⟩) 2 2), (0, .string ⟨#[77, 97, 120, 76, 101, 110, 103, 116, 104]⟩)]) Tryz.func19 J J J J ?_
 intro a hF
 have hH := Hp.start w0
 refine c_open (fun Q hpan hret hnorm => ?_)
 repeat (first | (refine is_list ?_; first | (refine s_pe hF J J J J ?_; clear hF; intro a hF) | (refine is_load ?_; refine s_ldo hQ hF hH J J J J J J ?_; clear hF; intro a hF) | (refine s_ix hF J J J J J J J ?_; clear hF; intro a hF)) | refine c_seq (fun K hK => ?_) | refine wp_region_lit ?_ | (refine c_nilK hK ?_; clear hK) | refine c_true hF rfl ?_ | refine c_false hF rfl ?_ | refine wp_block ?_ | refine wp_loop_rounds 3 (c_roundK 2 (fun K hK => ?_)) | refine c_roundK 1 (fun K hK => ?_) | refine wp_ret ?_ | refine wp_skip ?_ | (refine e_ret ?_; clear hK) | refine e_bret ?_ | refine e_bnormal ?_ | (refine e_thenK hK ?_; clear hK))
 exact hret _ _ (c_ret1 hF J J ⟨(), trivial, rfl, hH.mid 0 0⟩)
theorem jKinds_MaxLength (pb pc ab eb : Nat) (ks : Nat) (w0 : World) (hQ : Old w0 ks [.string ⟨#[77, 105, 110, 76, 101, 110, 103, 116, 104]⟩, .string ⟨#[77, 97, 120, 76, 101, 110, 103, 116, 104]⟩]) : Ct 14 [.agg #[.string ⟨#[49]⟩, .string ⟨#[77, 97, 120, 76, 101, 110, 103, 116, 104]⟩, .slice (some ⟨pb, 0, none⟩) 1 pc, .slice (some ⟨ab, 0, none⟩) 0 0, .string ⟨#[]⟩, .slice none 0 0, .slice (some ⟨eb, 0, none⟩) 2 2, .slice none 0 0], .string ⟨#[49]⟩, .slice (some ⟨ks, 0, none⟩) 2 2] w0 (fun _ : Unit => .int .i64 1) (fun _ => []) (fun _ => True) := by
 unfold Ct
 refine c_enter (n := 37) (L := [(2, .slice (some ⟨ks, 0, none⟩) 2 2), (1, .string ⟨#[49]⟩), (0, .agg #[.string ⟨#[49]⟩, .string ⟨#[77, 97, 120, 76, 101, 110, 103, 116, 104]⟩, .slice (some ⟨pb, 0, none⟩) 1 pc, .slice (some ⟨ab, 0, none⟩) 0 0, .string ⟨#[]⟩, .slice none 0 0, .slice (some ⟨eb, 0, none⟩) 2 2, .slice none 0 0])]) Tryz.func14 J J J J ?_
 intro a hF
 have hH := Hp.start w0
 refine c_open (fun Q hpan hret hnorm => ?_)
 repeat (first | (refine is_list ?_; first | (refine s_pe hF J J J J ?_; clear hF; intro a hF) | (refine is_load ?_; refine s_ld 0 hF hH J J J J J J J ?_; clear hF; intro a hF) | (refine is_call ?_; refine s_call hF hH J J J J J (jAmong_MinLength_MaxLength ks _ (hQ.later hH)) ?_; clear hF hH; intro a w r hr hF hH) | (refine s_bx hF hH J J J J ?_; clear hF hH; intro a b w hF hH)) | refine c_seq (fun K hK => ?_) | refine wp_region_lit ?_ | (refine c_nilK hK ?_; clear hK) | refine c_true hF rfl ?_ | refine c_false hF rfl ?_ | refine wp_block ?_ | refine wp_loop_rounds 2 (c_roundK 1 (fun K hK => ?_)) | refine wp_exit ?_ | refine wp_ret ?_ | (refine e_exit ?_; clear hK) | refine e_bexit rfl ?_ | (refine e_thenK hK ?_; clear hK))
 exact hret _ _ (c_ret1 hF J J ⟨(), trivial, rfl, hH.mid 0 1⟩)
theorem jAmong_MinLength_Schema (ks : Nat) (w0 : World) (hQ : Old w0 ks [.string ⟨#[77, 105, 110, 76, 101, 110, 103, 116, 104]⟩, .string ⟨#[77, 97, 120, 76, 101, 110, 103, 116, 104]⟩]) : Ct 19 [.string ⟨#[83, 99, 104, 101, 109, 97]⟩, .slice (some ⟨ks, 0, none⟩) 2 2] w0 (fun _ : Unit => .bool false) (fun _ => []) (fun _ => True) := by
 unfold Ct
 refine c_enter (n := 18) (L := [(1, .slice (some ⟨ks, 0, none⟩) 2 2), (0, .string ⟨#[83, 99, 104, 101, 109, 97]⟩)]) Tryz.func19 J J J J ?_
 intro a hF
 have hH := Hp.start w0
 refine c_open (fun Q hpan hret hnorm => ?_)
 repeat (first | (refine is_list ?_; first | (refine s_pe hF J J J J ?_; clear hF; intro a hF) | (refine is_load ?_; refine s_ldo hQ hF hH J J J J J J ?_; clear hF; intro a hF) | (refine s_ix hF J J J J J J J ?_; clear hF; intro a hF)) | refine c_seq (fun K hK => ?_) | refine wp_region_lit ?_ | (refine c_nilK hK ?_; clear hK) | refine c_true hF rfl ?_ | refine c_false hF rfl ?_ | refine wp_block ?_ | refine wp_loop_rounds 3 (c_roundK 2 (fun K hK => ?_)) | refine c_roundK 1 (fun K hK => ?_) | refine c_roundK 0 (fun K hK => ?_) | refine wp_exit ?_ | refine wp_ret ?_ | refine wp_skip ?_ | (refine e_exit ?_; clear hK) | refine e_bexit rfl ?_ | refine e_bnormal ?_ | (refine e_thenK hK ?_; clear hK))
 exact hret _ _ (c_ret1 hF J J ⟨(), trivial, rfl, hH.mid 0 0⟩)
theorem jKindsTop_MinLength (ks kb kc pb0 a0 : Nat) (nm : ByteArray) (pb pc ab eb : Nat) (w0 : World) (hQ : Old w0 ks [.string ⟨#[77, 105, 110, 76, 101, 110, 103, 116, 104]⟩, .string ⟨#[77, 97, 120, 76, 101, 110, 103, 116, 104]⟩]) (hK2 : Old w0 kb [.string ⟨#[49]⟩, .string nm, .slice (some ⟨pb, 0, none⟩) 1 pc, .slice (some ⟨ab, 0, none⟩) 0 0, .string ⟨#[]⟩, .slice none 0 0, .slice (some ⟨eb, 0, none⟩) 2 2, .slice none 0 0]) (hkid : ∀ w, Hp w0 w [] → Ct 14 [.agg #[.string ⟨#[49]⟩, .string nm, .slice (some ⟨pb, 0, none⟩) 1 pc, .slice (some ⟨ab, 0, none⟩) 0 0, .string ⟨#[]⟩, .slice none 0 0, .slice (some ⟨eb, 0, none⟩) 2 2, .slice none 0 0], .string ⟨#[49]⟩, .slice (some ⟨ks, 0, none⟩) 2 2] w (fun _ : Unit => .int .i64 1) (fun _ => []) (fun _ => True)) : Ct 14 [.agg #[.string ⟨#[49]⟩, .string ⟨#[83, 99, 104, 101, 109, 97]⟩, .slice (some ⟨pb0, 0, none⟩) 0 0, .slice (some ⟨a0, 0, none⟩) 0 0, .string ⟨#[]⟩, .slice none 0 0, .slice none 0 0, .slice (some ⟨kb, 0, none⟩) 1 kc], .string ⟨#[49]⟩, .slice (some ⟨ks, 0, none⟩) 2 2] w0 (fun _ : Unit => .int .i64 1) (fun _ => []) (fun _ => True) := by
 unfold Ct
 refine c_enter (n := 37) (L := [(2, .slice (some ⟨ks, 0, none⟩) 2 2), (1, .string ⟨#[49]⟩), (0, .agg #[.string ⟨#[49]⟩, .string ⟨#[83, 99, 104, 101, 109, 97]⟩, .slice (some ⟨pb0, 0, none⟩) 0 0, .slice (some ⟨a0, 0, none⟩) 0 0, .string ⟨#[]⟩, .slice none 0 0, .slice none 0 0, .slice (some ⟨kb, 0, none⟩) 1 kc])]) Tryz.func14 J J J J ?_
 intro a hF
 have hH := Hp.start w0
 refine c_open (fun Q hpan hret hnorm => ?_)
 repeat (first | (refine is_list ?_; first | (refine s_pe hF J J J J ?_; clear hF; intro a hF) | (refine is_load ?_; (first | refine s_ld 0 hF hH J J J J J J J ?_ | refine s_ldao hK2 hF hH J J J J J J ?_); clear hF; intro a hF) | (refine is_call ?_; (first | refine s_call hF hH J J J J J (jAmong_MinLength_Schema ks _ (hQ.later hH)) ?_ | refine s_call hF hH J J J J J (hkid _ (hH.sub (List.nil_sublist _))) ?_); clear hF hH; intro a w r hr hF hH) | (refine s_ix hF J J J J J J J ?_; clear hF; intro a hF) | (refine s_bx hF hH J J J J ?_; clear hF hH; intro a b w hF hH)) | refine c_seq (fun K hK => ?_) | refine wp_region_lit ?_ | (refine c_nilK hK ?_; clear hK) | refine c_nilB ?_ | refine c_true hF rfl ?_ | refine c_false hF rfl ?_ | refine wp_block ?_ | refine wp_loop_rounds 2 (c_roundK 1 (fun K hK => ?_)) | refine c_roundK 0 (fun K hK => ?_) | refine wp_exit ?_ | refine wp_ret ?_ | refine wp_skip ?_ | (refine e_exit ?_; clear hK) | refine e_bexit rfl ?_ | (refine e_thenK hK ?_; clear hK))
 exact hret _ _ (c_ret1 hF J J ⟨(), trivial, rfl, hH.mid 0 1⟩)
theorem jAmong_MinItems_MinItems (ks : Nat) (w0 : World) (hQ : Old w0 ks [.string ⟨#[77, 105, 110, 73, 116, 101, 109, 115]⟩, .string ⟨#[77, 97, 120, 73, 116, 101, 109, 115]⟩]) : Ct 19 [.string ⟨#[77, 105, 110, 73, 116, 101, 109, 115]⟩, .slice (some ⟨ks, 0, none⟩) 2 2] w0 (fun _ : Unit => .bool true) (fun _ => []) (fun _ => True) := by
 unfold Ct
 refine c_enter (n := 18) (L := [(1, .slice (some ⟨ks, 0, none⟩) 2 2), (0, .string ⟨#[77, 105, 110, 73, 116, 101, 109, 115]⟩)]) Tryz.func19 J J J J ?_
 intro a hF
 have hH := Hp.start w0
 refine c_open (fun Q hpan hret hnorm => ?_)
 repeat (first | (refine is_list ?_; first | (refine s_pe hF J J J J ?_; clear hF; intro a hF) | (refine is_load ?_; refine s_ldo hQ hF hH J J J J J J ?_; clear hF; intro a hF) | (refine s_ix hF J J J J J J J ?_; clear hF; intro a hF)) | refine c_seq (fun K hK => ?_) | refine wp_region_lit ?_ | (refine c_nilK hK ?_; clear hK) | refine c_true hF rfl ?_ | refine wp_block ?_ | refine wp_loop_rounds 3 (c_roundK 2 (fun K hK => ?_)) | refine wp_ret ?_ | refine wp_skip ?_ | (refine e_ret ?_; clear hK) | refine e_bret ?_ | (refine e_thenK hK ?_; clear hK))
 exact hret _ _ (c_ret1 hF J J ⟨(), trivial, rfl, hH.mid 0 0⟩)
theorem jKinds_MinItems (pb pc ab eb : Nat) (ks : Nat) (w0 : World) (hQ : Old w0 ks [.string ⟨#[77, 105, 110, 73, 116, 101, 109, 115]⟩, .string ⟨#[77, 97, 120, 73, 116, 101, 109, 115]⟩]) : Ct 14 [.agg #[.string ⟨#[49]⟩, .string ⟨#[77, 105, 110, 73, 116, 101, 109, 115]⟩, .slice (some ⟨pb, 0, none⟩) 1 pc, .slice (some ⟨ab, 0, none⟩) 0 0, .string ⟨#[]⟩, .slice none 0 0, .slice (some ⟨eb, 0, none⟩) 2 2, .slice none 0 0], .string ⟨#[49]⟩, .slice (some ⟨ks, 0, none⟩) 2 2] w0 (fun _ : Unit => .int .i64 1) (fun _ => []) (fun _ => True) := by
 unfold Ct
 refine c_enter (n := 37) (L := [(2, .slice (some ⟨ks, 0, none⟩) 2 2), (1, .string ⟨#[49]⟩), (0, .agg #[.string ⟨#[49]⟩, .string ⟨#[77, 105, 110, 73, 116, 101, 109, 115]⟩, .slice (some ⟨pb, 0, none⟩) 1 pc, .slice (some ⟨ab, 0, none⟩) 0 0, .string ⟨#[]⟩, .slice none 0 0, .slice (some ⟨eb, 0, none⟩) 2 2, .slice none 0 0])]) Tryz.func14 J J J J ?_
 intro a hF
 have hH := Hp.start w0
 refine c_open (fun Q hpan hret hnorm => ?_)
 repeat (first | (refine is_list ?_; first | (refine s_pe hF J J J J ?_; clear hF; intro a hF) | (refine is_load ?_; refine s_ld 0 hF hH J J J J J J J ?_; clear hF; intro a hF) | (refine is_call ?_; refine s_call hF hH J J J J J (jAmong_MinItems_MinItems ks _ (hQ.later hH)) ?_; clear hF hH; intro a w r hr hF hH) | (refine s_bx hF hH J J J J ?_; clear hF hH; intro a b w hF hH)) | refine c_seq (fun K hK => ?_) | refine wp_region_lit ?_ | (refine c_nilK hK ?_; clear hK) | refine c_true hF rfl ?_ | refine c_false hF rfl ?_ | refine wp_block ?_ | refine wp_loop_rounds 2 (c_roundK 1 (fun K hK => ?_)) | refine wp_exit ?_ | refine wp_ret ?_ | (refine e_exit ?_; clear hK) | refine e_bexit rfl ?_ | (refine e_thenK hK ?_; clear hK))
 exact hret _ _ (c_ret1 hF J J ⟨(), trivial, rfl, hH.mid 0 1⟩)
theorem jAmong_MinItems_MaxItems (ks : Nat) (w0 : World) (hQ : Old w0 ks [.string ⟨#[77, 105, 110, 73, 116, 101, 109, 115]⟩, .string ⟨#[77, 97, 120, 73, 116, 101, 109, 115]⟩]) : Ct 19 [.string ⟨#[77, 97, 120, 73, 116, 101, 109, 115]⟩, .slice (some ⟨ks, 0, none⟩) 2 2] w0 (fun _ : Unit => .bool true) (fun _ => []) (fun _ => True) := by
 unfold Ct
 refine c_enter (n := 18) (L := [(1, .slice (some ⟨ks, 0, none⟩) 2 2), (0, .string ⟨#[77, 97, 120, 73, 116, 101, 109, 115]⟩)]) Tryz.func19 J J J J ?_
 intro a hF
 have hH := Hp.start w0
 refine c_open (fun Q hpan hret hnorm => ?_)
 repeat (first | (refine is_list ?_; first | (refine s_pe hF J J J J ?_; clear hF; intro a hF) | (refine is_load ?_; refine s_ldo hQ hF hH J J J J J J ?_; clear hF; intro a hF) | (refine s_ix hF J J J J J J J ?_; clear hF; intro a hF)) | refine c_seq (fun K hK => ?_) | refine wp_region_lit ?_ | (refine c_nilK hK ?_; clear hK) | refine c_true hF rfl ?_ | refine c_false hF rfl ?_ | refine wp_block ?_ | refine wp_loop_rounds 3 (c_roundK 2 (fun K hK => ?_)) | refine c_roundK 1 (fun K hK => ?_) | refine wp_ret ?_ | refine wp_skip ?_ | (refine e_ret ?_; clear hK) | refine e_bret ?_ | refine e_bnormal ?_ | (refine e_thenK hK ?_; clear hK))
 exact hret _ _ (c_ret1 hF J J ⟨(), trivial, rfl, hH.mid 0 0⟩)
theorem jKinds_MaxItems (pb pc ab eb : Nat) (ks : Nat) (w0 : World) (hQ : Old w0 ks [.string ⟨#[77, 105, 110, 73, 116, 101, 109, 115]⟩, .string ⟨#[77, 97, 120, 73, 116, 101, 109, 115]⟩]) : Ct 14 [.agg #[.string ⟨#[49]⟩, .string ⟨#[77, 97, 120, 73, 116, 101, 109, 115]⟩, .slice (some ⟨pb, 0, none⟩) 1 pc, .slice (some ⟨ab, 0, none⟩) 0 0, .string ⟨#[]⟩, .slice none 0 0, .slice (some ⟨eb, 0, none⟩) 2 2, .slice none 0 0], .string ⟨#[49]⟩, .slice (some ⟨ks, 0, none⟩) 2 2] w0 (fun _ : Unit => .int .i64 1) (fun _ => []) (fun _ => True) := by
 unfold Ct
 refine c_enter (n := 37) (L := [(2, .slice (some ⟨ks, 0, none⟩) 2 2), (1, .string ⟨#[49]⟩), (0, .agg #[.string ⟨#[49]⟩, .string ⟨#[77, 97, 120, 73, 116, 101, 109, 115]⟩, .slice (some ⟨pb, 0, none⟩) 1 pc, .slice (some ⟨ab, 0, none⟩) 0 0, .string ⟨#[]⟩, .slice none 0 0, .slice (some ⟨eb, 0, none⟩) 2 2, .slice none 0 0])]) Tryz.func14 J J J J ?_
 intro a hF
 have hH := Hp.start w0
 refine c_open (fun Q hpan hret hnorm => ?_)
 repeat (first | (refine is_list ?_; first | (refine s_pe hF J J J J ?_; clear hF; intro a hF) | (refine is_load ?_; refine s_ld 0 hF hH J J J J J J J ?_; clear hF; intro a hF) | (refine is_call ?_; refine s_call hF hH J J J J J (jAmong_MinItems_MaxItems ks _ (hQ.later hH)) ?_; clear hF hH; intro a w r hr hF hH) | (refine s_bx hF hH J J J J ?_; clear hF hH; intro a b w hF hH)) | refine c_seq (fun K hK => ?_) | refine wp_region_lit ?_ | (refine c_nilK hK ?_; clear hK) | refine c_true hF rfl ?_ | refine c_false hF rfl ?_ | refine wp_block ?_ | refine wp_loop_rounds 2 (c_roundK 1 (fun K hK => ?_)) | refine wp_exit ?_ | refine wp_ret ?_ | (refine e_exit ?_; clear hK) | refine e_bexit rfl ?_ | (refine e_thenK hK ?_; clear hK))
 exact hret _ _ (c_ret1 hF J J ⟨(), trivial, rfl, hH.mid 0 1⟩)
theorem jAmong_MinItems_Schema (ks : Nat) (w0 : World) (hQ : Old w0 ks [.string ⟨#[77, 105, 110, 73, 116, 101, 109, 115]⟩, .string ⟨#[77, 97, 120, 73, 116, 101, 109, 115]⟩]) : Ct 19 [.string ⟨#[83, 99, 104, 101, 109, 97]⟩, .slice (some ⟨ks, 0, none⟩) 2 2] w0 (fun _ : Unit => .bool false) (fun _ => []) (fun _ => True) := by
 unfold Ct
 refine c_enter (n := 18) (L := [(1, .slice (some ⟨ks, 0, none⟩) 2 2), (0, .string ⟨#[83, 99, 104, 101, 109, 97]⟩)]) Tryz.func19 J J J J ?_
 intro a hF
 have hH := Hp.start w0
 refine c_open (fun Q hpan hret hnorm => ?_)
 repeat (first | (refine is_list ?_; first | (refine s_pe hF J J J J ?_; clear hF; intro a hF) | (refine is_load ?_; refine s_ldo hQ hF hH J J J J J J ?_; clear hF; intro a hF) | (refine s_ix hF J J J J J J J ?_; clear hF; intro a hF)) | refine c_seq (fun K hK => ?_) | refine wp_region_lit ?_ | (refine c_nilK hK ?_; clear hK) | refine c_true hF rfl ?_ | refine c_false hF rfl ?_ | refine wp_block ?_ | refine wp_loop_rounds 3 (c_roundK 2 (fun K hK => ?_)) | refine c_roundK 1 (fun K hK => ?_) | refine c_roundK 0 (fun K hK => ?_) | refine wp_exit ?_ | refine wp_ret ?_ | refine wp_skip ?_ | (refine e_exit ?_; clear hK) | refine e_bexit rfl ?_ | refine e_bnormal ?_ | (refine e_thenK hK ?_; clear hK))
 exact hret _ _ (c_ret1 hF J J ⟨(), trivial, rfl, hH.mid 0 0⟩)
theorem jKindsTop_MinItems (ks kb kc pb0 a0 : Nat) (nm : ByteArray) (pb pc ab eb : Nat) (w0 : World) (hQ : Old w0 ks [.string ⟨#[77, 105, 110, 73, 116, 101, 109, 115]⟩, .string ⟨#[77, 97, 120, 73, 116, 101, 109, 115]⟩]) (hK2 : Old w0 kb [.string ⟨#[49]⟩, .string nm, .slice (some ⟨pb, 0, none⟩) 1 pc, .slice (some ⟨ab, 0, none⟩) 0 0, .string ⟨#[]⟩, .slice none 0 0, .slice (some ⟨eb, 0, none⟩) 2 2, .slice none 0 0]) (hkid : ∀ w, Hp w0 w [] → Ct 14 [.agg #[.string ⟨#[49]⟩, .string nm, .slice (some ⟨pb, 0, none⟩) 1 pc, .slice (some ⟨ab, 0, none⟩) 0 0, .string ⟨#[]⟩, .slice none 0 0, .slice (some ⟨eb, 0, none⟩) 2 2, .slice none 0 0], .string ⟨#[49]⟩, .slice (some ⟨ks, 0, none⟩) 2 2] w (fun _ : Unit => .int .i64 1) (fun _ => []) (fun _ => True)) : Ct 14 [.agg #[.string ⟨#[49]⟩, .string ⟨#[83, 99, 104, 101, 109, 97]⟩, .slice (some ⟨pb0, 0, none⟩) 0 0, .slice (some ⟨a0, 0, none⟩) 0 0, .string ⟨#[]⟩, .slice none 0 0, .slice none 0 0, .slice (some ⟨kb, 0, none⟩) 1 kc], .string ⟨#[49]⟩, .slice (some ⟨ks, 0, none⟩) 2 2] w0 (fun _ : Unit => .int .i64 1) (fun _ => []) (fun _ => True) := by
 unfold Ct
 refine c_enter (n := 37) (L := [(2, .slice (some ⟨ks, 0, none⟩) 2 2), (1, .string ⟨#[49]⟩), (0, .agg #[.string ⟨#[49]⟩, .string ⟨#[83, 99, 104, 101, 109, 97]⟩, .slice (some ⟨pb0, 0, none⟩) 0 0, .slice (some ⟨a0, 0, none⟩) 0 0, .string ⟨#[]⟩, .slice none 0 0, .slice none 0 0, .slice (some ⟨kb, 0, none⟩) 1 kc])]) Tryz.func14 J J J J ?_
 intro a hF
 have hH := Hp.start w0
 refine c_open (fun Q hpan hret hnorm => ?_)
 repeat (first | (refine is_list ?_; first | (refine s_pe hF J J J J ?_; clear hF; intro a hF) | (refine is_load ?_; (first | refine s_ld 0 hF hH J J J J J J J ?_ | refine s_ldao hK2 hF hH J J J J J J ?_); clear hF; intro a hF) | (refine is_call ?_; (first | refine s_call hF hH J J J J J (jAmong_MinItems_Schema ks _ (hQ.later hH)) ?_ | refine s_call hF hH J J J J J (hkid _ (hH.sub (List.nil_sublist _))) ?_); clear hF hH; intro a w r hr hF hH) | (refine s_ix hF J J J J J J J ?_; clear hF; intro a hF) | (refine s_bx hF hH J J J J ?_; clear hF hH; intro a b w hF hH)) | refine c_seq (fun K hK => ?_) | refine wp_region_lit ?_ | (refine c_nilK hK ?_; clear hK) | refine c_nilB ?_ | refine c_true hF rfl ?_ | refine c_false hF rfl ?_ | refine wp_block ?_ | refine wp_loop_rounds 2 (c_roundK 1 (fun K hK => ?_)) | refine c_roundK 0 (fun K hK => ?_) | refine wp_exit ?_ | refine wp_ret ?_ | refine wp_skip ?_ | (refine e_exit ?_; clear hK) | refine e_bexit rfl ?_ | (refine e_thenK hK ?_; clear hK))
 exact hret _ _ (c_ret1 hF J J ⟨(), trivial, rfl, hH.mid 0 1⟩)
theorem jAmong_MinProperties_MinProperties (ks : Nat) (w0 : World) (hQ : Old w0 ks [.string ⟨#[77, 105, 110, 80, 114, 111, 112, 101, 114, 116, 105, 101, 115]⟩, .string ⟨#[77, 97, 120, 80, 114, 111, 112, 101, 114, 116, 105, 101, 115]⟩]) : Ct 19 [.string ⟨#[77, 105, 110, 80, 114, 111, 112, 101, 114, 116, 105, 101, 115]⟩, .slice (some ⟨ks, 0, none⟩) 2 2] w0 (fun _ : Unit => .bool true) (fun _ => []) (fun _ => True) := by
 unfold Ct
 refine c_enter (n := 18) (L := [(1, .slice (some ⟨ks, 0, none⟩) 2 2), (0, .string ⟨#[77, 105, 110, 80, 114, 111, 112, 101, 114, 116, 105, 101, 115]⟩)]) Tryz.func19 J J J J ?_
 intro a hF
 have hH := Hp.start w0
 refine c_open (fun Q hpan hret hnorm => ?_)
 repeat (first | (refine is_list ?_; first | (refine s_pe hF J J J J ?_; clear hF; intro a hF) | (refine is_load ?_; refine s_ldo hQ hF hH J J J J J J ?_; clear hF; intro a hF) | (refine s_ix hF J J J J J J J ?_; clear hF; intro a hF)) | refine c_seq (fun K hK => ?_) | refine wp_region_lit ?_ | (refine c_nilK hK ?_; clear hK) | refine c_true hF rfl ?_ | refine wp_block ?_ | refine wp_loop_rounds 3 (c_roundK 2 (fun K hK => ?_)) | refine wp_ret ?_ | refine wp_skip ?_ | (refine e_ret ?_; clear hK) | refine e_bret ?_ | (refine e_thenK hK ?_; clear hK))
 exact hret _ _ (c_ret1 hF J J ⟨(), trivial, rfl, hH.mid 0 0⟩)
theorem jKinds_MinProperties (pb pc ab eb : Nat) (ks : Nat) (w0 : World) (hQ : Old w0 ks [.string ⟨#[77, 105, 110, 80, 114, 111, 112, 101, 114, 116, 105, 101, 115]⟩, .string ⟨#[77, 97, 120, 80, 114, 111, 112, 101, 114, 116, 105, 101, 115]⟩]) : Ct 14 [.agg #[.string ⟨#[49]⟩, .string ⟨#[77, 105, 110, 80, 114, 111, 112, 101, 114, 116, 105, 101, 115]⟩, .slice (some ⟨pb, 0, none⟩) 1 pc, .slice (some ⟨ab, 0, none⟩) 0 0, .string ⟨#[]⟩, .slice none 0 0, .slice (some ⟨eb, 0, none⟩) 2 2, .slice none 0 0], .string ⟨#[49]⟩, .slice (some ⟨ks, 0, none⟩) 2 2] w0 (fun _ : Unit => .int .i64 1) (fun _ => []) (fun _ => True) := by
 unfold Ct
 refine c_enter (n := 37) (L := [(2, .slice (some ⟨ks, 0, none⟩) 2 2), (1, .string ⟨#[49]⟩), (0, .agg #[.string ⟨#[49]⟩, .string ⟨#[77, 105, 110, 80, 114, 111, 112, 101, 114, 116, 105, 101, 115]⟩, .slice (some ⟨pb, 0, none⟩) 1 pc, .slice (some ⟨ab, 0, none⟩) 0 0, .string ⟨#[]⟩, .slice none 0 0, .slice (some ⟨eb, 0, none⟩) 2 2, .slice none 0 0])]) Tryz.func14 J J J J ?_
 intro a hF
 have hH := Hp.start w0
 refine c_open (fun Q hpan hret hnorm => ?_)
 repeat (first | (refine is_list ?_; first | (refine s_pe hF J J J J ?_; clear hF; intro a hF) | (refine is_load ?_; refine s_ld 0 hF hH J J J J J J J ?_; clear hF; intro a hF) | (refine is_call ?_; refine s_call hF hH J J J J J (jAmong_MinProperties_MinProperties ks _ (hQ.later hH)) ?_; clear hF hH; intro a w r hr hF hH) | (refine s_bx hF hH J J J J ?_; clear hF hH; intro a b w hF hH)) | refine c_seq (fun K hK => ?_) | refine wp_region_lit ?_ | (refine c_nilK hK ?_; clear hK) | refine c_true hF rfl ?_ | refine c_false hF rfl ?_ | refine wp_block ?_ | refine wp_loop_rounds 2 (c_roundK 1 (fun K hK => ?_)) | refine wp_exit ?_ | refine wp_ret ?_ | (refine e_exit ?_; clear hK) | refine e_bexit rfl ?_ | (refine e_thenK hK ?_; clear hK))
 exact hret _ _ (c_ret1 hF J J ⟨(), trivial, rfl, hH.mid 0 1⟩)
theorem jAmong_MinProperties_MaxProperties (ks : Nat) (w0 : World) (hQ : Old w0 ks [.string ⟨#[77, 105, 110, 80, 114, 111, 112, 101, 114, 116, 105, 101, 115]⟩, .string ⟨#[77, 97, 120, 80, 114, 111, 112, 101, 114, 116, 105, 101, 115]⟩]) : Ct 19 [.string ⟨#[77, 97, 120, 80, 114, 111, 112, 101, 114, 116, 105, 101, 115]⟩, .slice (some ⟨ks, 0, none⟩) 2 2] w0 (fun _ : Unit => .bool true) (fun _ => []) (fun _ => True) := by
 unfold Ct
 refine c_enter (n := 18) (L := [(1, .slice (some ⟨ks, 0, none⟩) 2 2), (0, .string ⟨#[77, 97, 120, 80, 114, 111, 112, 101, 114, 116, 105, 101, 115]⟩)]) Tryz.func19 J J J J ?_
 intro a hF
 have hH := Hp.start w0
 refine c_open (fun Q hpan hret hnorm => ?_)
 repeat (first | (refine is_list ?_; first | (refine s_pe hF J J J J ?_; clear hF; intro a hF) | (refine is_load ?_; refine s_ldo hQ hF hH J J J J J J ?_; clear hF; intro a hF) | (refine s_ix hF J J J J J J J ?_; clear hF; intro a hF)) | refine c_seq (fun K hK => ?_) | refine wp_region_lit ?_ | (refine c_nilK hK ?_; clear hK) | refine c_true hF rfl ?_ | refine c_false hF rfl ?_ | refine wp_block ?_ | refine wp_loop_rounds 3 (c_roundK 2 (fun K hK => ?_)) | refine c_roundK 1 (fun K hK => ?_) | refine wp_ret ?_ | refine wp_skip ?_ | (refine e_ret ?_; clear hK) | refine e_bret ?_ | refine e_bnormal ?_ | (refine e_thenK hK ?_; clear hK))
 exact hret _ _ (c_ret1 hF J J ⟨(), trivial, rfl, hH.mid 0 0⟩)
theorem jKinds_MaxProperties (pb pc ab eb : Nat) (ks : Nat) (w0 : World) (hQ : Old w0 ks [.string ⟨#[77, 105, 110, 80, 114, 111, 112, 101, 114, 116, 105, 101, 115]⟩, .string ⟨#[77, 97, 120, 80, 114, 111, 112, 101, 114, 116, 105, 101, 115]⟩]) : Ct 14 [.agg #[.string ⟨#[49]⟩, .string ⟨#[77, 97, 120, 80, 114, 111, 112, 101, 114, 116, 105, 101, 115]⟩, .slice (some ⟨pb, 0, none⟩) 1 pc, .slice (some ⟨ab, 0, none⟩) 0 0, .string ⟨#[]⟩, .slice none 0 0, .slice (some ⟨eb, 0, none⟩) 2 2, .slice none 0 0], .string ⟨#[49]⟩, .slice (some ⟨ks, 0, none⟩) 2 2] w0 (fun _ : Unit => .int .i64 1) (fun _ => []) (fun _ => True) := by
 unfold Ct
 refine c_enter (n := 37) (L := [(2, .slice (some ⟨ks, 0, none⟩) 2 2), (1, .string ⟨#[49]⟩), (0, .agg #[.string ⟨#[49]⟩, .string ⟨#[77, 97, 120, 80, 114, 111, 112, 101, 114, 116, 105, 101, 115]⟩, .slice (some ⟨pb, 0, none⟩) 1 pc, .slice (some ⟨ab, 0, none⟩) 0 0, .string ⟨#[]⟩, .slice none 0 0, .slice (some ⟨eb, 0, none⟩) 2 2, .slice none 0 0])]) Tryz.func14 J J J J ?_
 intro a hF
 have hH := Hp.start w0
 refine c_open (fun Q hpan hret hnorm => ?_)
 repeat (first | (refine is_list ?_; first | (refine s_pe hF J J J J ?_; clear hF; intro a hF) | (refine is_load ?_; refine s_ld 0 hF hH J J J J J J J ?_; clear hF; intro a hF) | (refine is_call ?_; refine s_call hF hH J J J J J (jAmong_MinProperties_MaxProperties ks _ (hQ.later hH)) ?_; clear hF hH; intro a w r hr hF hH) | (refine s_bx hF hH J J J J ?_; clear hF hH; intro a b w hF hH)) | refine c_seq (fun K hK => ?_) | refine wp_region_lit ?_ | (refine c_nilK hK ?_; clear hK) | refine c_true hF rfl ?_ | refine c_false hF rfl ?_ | refine wp_block ?_ | refine wp_loop_rounds 2 (c_roundK 1 (fun K hK => ?_)) | refine wp_exit ?_ | refine wp_ret ?_ | (refine e_exit ?_; clear hK) | refine e_bexit rfl ?_ | (refine e_thenK hK ?_; clear hK))
 exact hret _ _ (c_ret1 hF J J ⟨(), trivial, rfl, hH.mid 0 1⟩)
theorem jAmong_MinProperties_Schema (ks : Nat) (w0 : World) (hQ : Old w0 ks [.string ⟨#[77, 105, 110, 80, 114, 111, 112, 101, 114, 116, 105, 101, 115]⟩, .string ⟨#[77, 97, 120, 80, 114, 111, 112, 101, 114, 116, 105, 101, 115]⟩]) : Ct 19 [.string ⟨#[83, 99, 104, 101, 109, 97]⟩, .slice (some ⟨ks, 0, none⟩) 2 2] w0 (fun _ : Unit => .bool false) (fun _ => []) (fun _ => True) := by
 unfold Ct
 refine c_enter (n := 18) (L := [(1, .slice (some ⟨ks, 0, none⟩) 2 2), (0, .string ⟨#[83, 99, 104, 101, 109, 97]⟩)]) Tryz.func19 J J J J ?_
 intro a hF
 have hH := Hp.start w0
 refine c_open (fun Q hpan hret hnorm => ?_)
 repeat (first | (refine is_list ?_; first | (refine s_pe hF J J J J ?_; clear hF; intro a hF) | (refine is_load ?_; refine s_ldo hQ hF hH J J J J J J ?_; clear hF; intro a hF) | (refine s_ix hF J J J J J J J ?_; clear hF; intro a hF)) | refine c_seq (fun K hK => ?_) | refine wp_region_lit ?_ | (refine c_nilK hK ?_; clear hK) | refine c_true hF rfl ?_ | refine c_false hF rfl ?_ | refine wp_block ?_ | refine wp_loop_rounds 3 (c_roundK 2 (fun K hK => ?_)) | refine c_roundK 1 (fun K hK => ?_) | refine c_roundK 0 (fun K hK => ?_) | refine wp_exit ?_ | refine wp_ret ?_ | refine wp_skip ?_ | (refine e_exit ?_; clear hK) | refine e_bexit rfl ?_ | refine e_bnormal ?_ | (refine e_thenK hK ?_; clear hK))
 exact hret _ _ (c_ret1 hF J J ⟨(), trivial, rfl, hH.mid 0 0⟩)
theorem jKindsTop_MinProperties (ks kb kc pb0 a0 : Nat) (nm : ByteArray) (pb pc ab eb : Nat) (w0 : World) (hQ : Old w0 ks [.string ⟨#[77, 105, 110, 80, 114, 111, 112, 101, 114, 116, 105, 101, 115]⟩, .string ⟨#[77, 97, 120, 80, 114, 111, 112, 101, 114, 116, 105, 101, 115]⟩]) (hK2 : Old w0 kb [.string ⟨#[49]⟩, .string nm, .slice (some ⟨pb, 0, none⟩) 1 pc, .slice (some ⟨ab, 0, none⟩) 0 0, .string ⟨#[]⟩, .slice none 0 0, .slice (some ⟨eb, 0, none⟩) 2 2, .slice none 0 0]) (hkid : ∀ w, Hp w0 w [] → Ct 14 [.agg #[.string ⟨#[49]⟩, .string nm, .slice (some ⟨pb, 0, none⟩) 1 pc, .slice (some ⟨ab, 0, none⟩) 0 0, .string ⟨#[]⟩, .slice none 0 0, .slice (some ⟨eb, 0, none⟩) 2 2, .slice none 0 0], .string ⟨#[49]⟩, .slice (some ⟨ks, 0, none⟩) 2 2] w (fun _ : Unit => .int .i64 1) (fun _ => []) (fun _ => True)) : Ct 14 [.agg #[.string ⟨#[49]⟩, .string ⟨#[83, 99, 104, 101, 109, 97]⟩, .slice (some ⟨pb0, 0, none⟩) 0 0, .slice (some ⟨a0, 0, none⟩) 0 0, .string ⟨#[]⟩, .slice none 0 0, .slice none 0 0, .slice (some ⟨kb, 0, none⟩) 1 kc], .string ⟨#[49]⟩, .slice (some ⟨ks, 0, none⟩) 2 2] w0 (fun _ : Unit => .int .i64 1) (fun _ => []) (fun _ => True) := by
 unfold Ct
 refine c_enter (n := 37) (L := [(2, .slice (some ⟨ks, 0, none⟩) 2 2), (1, .string ⟨#[49]⟩), (0, .agg #[.string ⟨#[49]⟩, .string ⟨#[83, 99, 104, 101, 109, 97]⟩, .slice (some ⟨pb0, 0, none⟩) 0 0, .slice (some ⟨a0, 0, none⟩) 0 0, .string ⟨#[]⟩, .slice none 0 0, .slice none 0 0, .slice (some ⟨kb, 0, none⟩) 1 kc])]) Tryz.func14 J J J J ?_
 intro a hF
 have hH := Hp.start w0
 refine c_open (fun Q hpan hret hnorm => ?_)
 repeat (first | (refine is_list ?_; first | (refine s_pe hF J J J J ?_; clear hF; intro a hF) | (refine is_load ?_; (first | refine s_ld 0 hF hH J J J J J J J ?_ | refine s_ldao hK2 hF hH J J J J J J ?_); clear hF; intro a hF) | (refine is_call ?_; (first | refine s_call hF hH J J J J J (jAmong_MinProperties_Schema ks _ (hQ.later hH)) ?_ | refine s_call hF hH J J J J J (hkid _ (hH.sub (List.nil_sublist _))) ?_); clear hF hH; intro a w r hr hF hH) | (refine s_ix hF J J J J J J J ?_; clear hF; intro a hF) | (refine s_bx hF hH J J J J ?_; clear hF hH; intro a b w hF hH)) | refine c_seq (fun K hK => ?_) | refine wp_region_lit ?_ | (refine c_nilK hK ?_; clear hK) | refine c_nilB ?_ | refine c_true hF rfl ?_ | refine c_false hF rfl ?_ | refine wp_block ?_ | refine wp_loop_rounds 2 (c_roundK 1 (fun K hK => ?_)) | refine c_roundK 0 (fun K hK => ?_) | refine wp_exit ?_ | refine wp_ret ?_ | refine wp_skip ?_ | (refine e_exit ?_; clear hK) | refine e_bexit rfl ?_ | (refine e_thenK hK ?_; clear hK))
 exact hret _ _ (c_ret1 hF J J ⟨(), trivial, rfl, hH.mid 0 1⟩)
theorem outX_kind {lm : Lm} {x : S27} (hx : Gd x) {o : Nat × Int × Int} (h : OutX lm x (some o)) : (o.1 = 296 ∧ x.f0 = 4 ∧ lm.t3 = true ∧ o.2.1 = ((x.f5.length : Nat) : Int) ∧ ((x.f5.length : Nat) : Int) < lm.n3 ∧ o.2.2 = lm.n3) ∨ (o.1 = 299 ∧ x.f0 = 4 ∧ lm.t4 = true ∧ o.2.1 = ((x.f5.length : Nat) : Int) ∧ ((x.f5.length : Nat) : Int) > lm.n4 ∧ o.2.2 = lm.n4) ∨ (o.1 = 301 ∧ x.f0 = 3 ∧ lm.t1 = true ∧ o.2.1 = ((U.nc x.f3 x.f3.size 0 : Nat) : Int) ∧ ((U.nc x.f3 x.f3.size 0 : Nat) : Int) < lm.n1 ∧ o.2.2 = lm.n1) ∨ (o.1 = 303 ∧ x.f0 = 3 ∧ lm.t2 = true ∧ o.2.1 = ((U.nc x.f3 x.f3.size 0 : Nat) : Int) ∧ ((U.nc x.f3 x.f3.size 0 : Nat) : Int) > lm.n2 ∧ o.2.2 = lm.n2) ∨ (o.1 = 305 ∧ x.f0 = 5 ∧ lm.t5 = true ∧ o.2.1 = (((U.dd x.f4).length : Nat) : Int) ∧ (((U.dd x.f4).length : Nat) : Int) < lm.n5 ∧ o.2.2 = lm.n5) ∨ (o.1 = 307 ∧ x.f0 = 5 ∧ lm.t6 = true ∧ o.2.1 = (((U.dd x.f4).length : Nat) : Int) ∧ (((U.dd x.f4).length : Nat) : Int) > lm.n6 ∧ o.2.2 = lm.n6) := by
 by_cases h3 : x.f0 = 3
 ·obtain ⟨m, hm, hg, hc⟩ := h.1 h3
  rw [hm hx.utf] at hg hc
  rcases hc with ⟨c1, c2, c3, c4⟩ | ⟨c1, c2, c3, c4⟩
  ·exact .inr (.inr (.inl ⟨c1, h3, c2, hg, c3, c4⟩))
  ·exact .inr (.inr (.inr (.inl ⟨c1, h3, c2, hg, c3, c4⟩)))
 by_cases h4 : x.f0 = 4
 ·obtain ⟨hg, hc⟩ := h.2.1 h4
  rcases hc with ⟨c1, c2, c3, c4⟩ | ⟨c1, c2, c3, c4⟩
  ·exact .inl ⟨c1, h4, c2, hg, c3, c4⟩
  ·exact .inr (.inl ⟨c1, h4, c2, hg, c3, c4⟩)
 by_cases h5 : x.f0 = 5
 ·have hl := hx.names h5
  obtain ⟨hg, hc⟩ := h.2.2.1 h5
  rw [List.take_of_length_le (by omega)] at hg hc
  rcases hc with ⟨c1, c2, c3, c4⟩ | ⟨c1, c2, c3, c4⟩
  ·exact .inr (.inr (.inr (.inr (.inl ⟨c1, h5, c2, hg, c3, c4⟩))))
  ·exact .inr (.inr (.inr (.inr (.inr ⟨c1, h5, c2, hg, c3, c4⟩))))
 cases h.2.2.2 (by have := hx.rng; omega)
theorem bd_true {m : Int} {t t' : Bool} {n n' : Int} (h : (t = true → n ≤ m) ∧ (t' = true → m ≤ n')) : bd m t n t' n' = true := by
 unfold bd
 cases t <;> cases t' <;> simp_all
theorem bd_lo {m : Int} {t t' : Bool} {n n' : Int} (h : t = true) (hl : m < n) : bd m t n t' n' = false := by
 unfold bd
 subst h
 have : ¬ n ≤ m := by omega
 simp [this]
theorem bd_hi {m : Int} {t t' : Bool} {n n' : Int} (h : t' = true) (hl : m > n') : bd m t n t' n' = false := by
 unfold bd
 subst h
 have : ¬ m ≤ n' := by omega
 simp [this]
theorem outX_judge {lm : Lm} {x : S27} (hx : Gd x) (h : OutX lm x none) : judge lm x = true := by
 by_cases h3 : x.f0 = 3
 ·obtain ⟨m, hm, hc⟩ := h.1 h3
  rw [hm hx.utf] at hc
  rw [judge3 h3]
  exact bd_true hc
 by_cases h4 : x.f0 = 4
 ·rw [judge4 h4]
  exact bd_true (h.2.1 h4)
 by_cases h5 : x.f0 = 5
 ·have hl := hx.names h5
  have hc := h.2.2.1 h5
  rw [List.take_of_length_le (by omega)] at hc
  rw [judge5 h5]
  exact bd_true hc
 exact judge0 h3 h4 h5
end Go.Proofs.YtlkikblohnnlcaaGreatDoor.Y
end
section
namespace Go.Proofs.YtlkikblohnnlcaaGreatDoor.Y
open Go Go.RowKit X R Go.Proofs.YtlkikblohnnlcaaGreatDoorW.PrintWords
set_option linter.unusedVariables false
set_option maxRecDepth 4000
attribute [local irreducible] wpList dL Code.wp bodyPost Ct Calls Exit.then Exit.inBlock Code.rounds
set_option maxHeartbeats 0
theorem jTells_MinLength (bn ks : Nat) (lm : Lm) (hlm : lm.ok) (x : S27) (A4 A5 : Option Addr) (c4 c5 : Nat) (hx : Gd x) (f3 : lm.t3 = false) (f4 : lm.t4 = false) (f5 : lm.t5 = false) (f6 : lm.t6 = false) (w0 w : World) (R : Hm) (hX : k27.K w0 x [.int .i64 x.f0, .bool x.f1, .int .i64 x.f2, .string x.f3, .slice A4 x.f4.length c4, .slice A5 x.f5.length c5]) (hH : Hp w0 w ((bn, .cells (nodeL lm).toArray 44) :: (ks, .cells #[.string ⟨#[77, 105, 110, 76, 101, 110, 103, 116, 104]⟩, .string ⟨#[77, 97, 120, 76, 101, 110, 103, 116, 104]⟩] 9) :: R)) :
  Calls Tryz.prog 6 #[.slice (some ⟨bn, 0, none⟩) 1 1, .agg #[.int .i64 x.f0, .bool x.f1, .int .i64 x.f2, .string x.f3, .slice A4 x.f4.length c4, .slice A5 x.f5.length c5], .slice (some ⟨ks, 0, none⟩) 2 2] w fun e w' => ∃ _ : Unit, True ∧ e = .returned (.bool true) ∧ Hp w0 w' ((bn, .cells (nodeL lm).toArray 44) :: (ks, .cells #[.string ⟨#[77, 105, 110, 76, 101, 110, 103, 116, 104]⟩, .string ⟨#[77, 97, 120, 76, 101, 110, 103, 116, 104]⟩] 9) :: R) := by
 refine c_enter (n := 30) (L := [(2, .slice (some ⟨ks, 0, none⟩) 2 2), (1, .agg #[.int .i64 x.f0, .bool x.f1, .int .i64 x.f2, .string x.f3, .slice A4 x.f4.length c4, .slice A5 x.f5.length c5]), (0, .slice (some ⟨bn, 0, none⟩) 1 1)]) Tryz.func6 J J J J ?_
 intro a hF
 refine c_open (fun Q hpan hret hnorm => ?_)
 repeat (first | (refine is_list ?_; first | (refine s_pe hF J J J J ?_; clear hF; intro a hF) | (refine is_load ?_; refine s_lda 0 hF hH J J J J J J J ?_; clear hF; intro a hF) | (refine s_bx hF hH J J J J ?_; clear hF hH; intro a b w hF hH)) | refine c_seq (fun K hK => ?_) | refine wp_region_lit ?_ | (refine c_nilK hK ?_; clear hK))
 refine s_callM hF J J J J J (jerrors_ok lm hlm x hx.sz.sm hx.two hx.sz.t3 bn A4 A5 c4 c5 w0 w _ hX (hH.front 1 rfl)) ?_
 rintro e w ⟨o, hO, hV⟩
 cases o with
 | none =>
  obtain ⟨rfl, hH⟩ := hV
  refine ⟨_, rfl, ?_⟩; clear hF; intro a hF
  have hj := outX_judge hx hO
  repeat (first | (refine is_list ?_; first | (refine s_pe hF J J J J ?_; clear hF; intro a hF) | (refine is_load ?_; refine s_lda 2 hF hH J J J J J J J ?_; clear hF; intro a hF) | (refine is_call ?_; refine s_call hF hH J J J J J (jValid_ok bn lm x A4 A5 c4 c5 hx _ (hH.toOld (i := 1) rfl) (k27.K_below hH.below hX)) ?_; clear hF hH; intro a w r hr hF hH) | (refine s_al hF hH J J J J ?_; clear hF hH; intro a b w hF hH) | (refine s_sta 0 hF hH J J J J J J J J J J ?_; clear hH; intro w hH)) | refine c_seq (fun K hK => ?_) | refine wp_region_lit ?_ | (refine c_nilK hK ?_; clear hK) | refine c_true hF rfl ?_ | refine wp_ret ?_ | (refine e_ret ?_; clear hK))
  rw [hj] at hF
  skip
  exact hret _ _ (c_ret1 hF J J ⟨(), trivial, rfl, (hH.mid 0 1).mid 1 1⟩)
 | some o =>
  obtain ⟨kT, gt, wt⟩ := o
  obtain ⟨p, nm, kw, hk, rfl, hH⟩ := hV
  refine ⟨_, rfl, ?_⟩; clear hF; intro a hF
  rcases outX_kind hx hO with ⟨c1, h0, ht, c2, hlt, c3⟩ | ⟨c1, h0, ht, c2, hlt, c3⟩ | ⟨c1, h0, ht, c2, hlt, c3⟩ | ⟨c1, h0, ht, c2, hlt, c3⟩ | ⟨c1, h0, ht, c2, hlt, c3⟩ | ⟨c1, h0, ht, c2, hlt, c3⟩
  ·rw [f3] at ht; cases ht
  ·rw [f4] at ht; cases ht
  ·simp only at c1 c2 c3
   subst c1 c2 c3
   cases hk
   have hj : judge lm x = false := by rw [judge3 h0]; exact bd_lo ht hlt
   repeat (first | (refine is_list ?_; first | (refine s_pe hF J J J J ?_; clear hF; intro a hF) | (refine is_load ?_; refine s_lda 0 hF hH J J J J J J J ?_; clear hF; intro a hF) | (refine s_al hF hH J J J J ?_; clear hF hH; intro a b w hF hH) | (refine s_sta 0 hF hH J J J J J J J J J J ?_; clear hH; intro w hH)) | refine c_seq (fun K hK => ?_) | refine wp_region_lit ?_ | (refine c_nilK hK ?_; clear hK) | refine c_false hF rfl ?_ | refine wp_skip ?_ | (refine e_thenK hK ?_; clear hK))
   have hQ : Old w ks [.string ⟨#[77, 105, 110, 76, 101, 110, 103, 116, 104]⟩, .string ⟨#[77, 97, 120, 76, 101, 110, 103, 116, 104]⟩] := hH.toOld (i := 6) rfl
   have hK2 : Old w p.kd [.string ⟨#[49]⟩, .string ⟨#[77, 105, 110, 76, 101, 110, 103, 116, 104]⟩, .slice (some ⟨p.pb, 0, none⟩) 1 p.pc, .slice (some ⟨p.ab, 0, none⟩) 0 0, .string ⟨#[]⟩, .slice none 0 0, .slice (some ⟨p.nb, 0, none⟩) 2 2, .slice none 0 0] := Old.pre (hH.toOld (i := 1) rfl)
   have hN : Old w bn (nodeL lm) := hH.toOld (i := 4) rfl
   have hP : Old w p.pb (.string ⟨#[109, 105, 110, 76, 101, 110, 103, 116, 104]⟩ :: p.Z) := hH.toOld (i := 2) rfl
   have hE : Old w p.nb [.int .i64 ((U.nc x.f3 x.f3.size 0 : Nat) : Int), .int .i64 lm.n1] := hH.toOld (i := 3) rfl
   have hXw := k27.K_below hH.below hX
   refine s_call hF hH J J J J J (jKindsTop_MinLength ks p.kd p.kc p.p0 p.a0 ⟨#[77, 105, 110, 76, 101, 110, 103, 116, 104]⟩ p.pb p.pc p.ab p.nb _ hQ hK2 (fun w hw => jKinds_MinLength p.pb p.pc p.ab p.nb ks _ (hQ.later hw))) ?_
   clear hF hH hQ hK2 hN hP hE hXw; intro a w r hr hF hH
   repeat (first | (refine is_list ?_; first | (refine s_pe hF J J J J ?_; clear hF; intro a hF) | (refine is_load ?_; (first | refine s_lda 0 hF hH J J J J J J J ?_ | refine s_lda 5 hF hH J J J J J J J ?_); clear hF; intro a hF) | (refine is_call ?_; refine s_call hF hH J J J J J (c15 bn x A4 A5 c4 c5 p.p0 p.a0 p.kd p.kc _ (fun w2 sb hw hO2 => jErrorRight_Schema bn sb lm x A4 A5 c4 c5 hx ⟨#[77, 105, 110, 76, 101, 110, 103, 116, 104]⟩ p.p0 p.a0 p.kd p.kc p.pb p.pc p.ab p.nb w2 (Old.later (hH.toOld (i := 4) rfl) hw) hO2 (Old.later (Old.pre (hH.toOld (i := 1) rfl)) hw) (k27.K_below hw.below (k27.K_below hH.below hX)) hj (fun w3 hw3 => jErrorRight_MinLength bn sb lm x A4 A5 c4 c5 hx p.pb p.pc p.ab p.nb p.Z w3 (Old.later (Old.later (hH.toOld (i := 4) rfl) hw) hw3) (hO2.later hw3) (Old.later (Old.later (hH.toOld (i := 2) rfl) hw) hw3) h0 ht hlt (Old.later (Old.later (hH.toOld (i := 3) rfl) hw) hw3) (k27.K_below hw3.below (k27.K_below hw.below (k27.K_below hH.below hX))) hj))) ?_; clear hF hH; intro a w r hr hF hH)) | (refine c_nilK hK ?_; clear hK) | refine wp_ret ?_)
   exact hret _ _ (c_ret1 hF J J ⟨(), trivial, rfl, (hH.mid 0 4).mid 1 1⟩)
  ·simp only at c1 c2 c3
   subst c1 c2 c3
   cases hk
   have hj : judge lm x = false := by rw [judge3 h0]; exact bd_hi ht hlt
   repeat (first | (refine is_list ?_; first | (refine s_pe hF J J J J ?_; clear hF; intro a hF) | (refine is_load ?_; refine s_lda 0 hF hH J J J J J J J ?_; clear hF; intro a hF) | (refine s_al hF hH J J J J ?_; clear hF hH; intro a b w hF hH) | (refine s_sta 0 hF hH J J J J J J J J J J ?_; clear hH; intro w hH)) | refine c_seq (fun K hK => ?_) | refine wp_region_lit ?_ | (refine c_nilK hK ?_; clear hK) | refine c_false hF rfl ?_ | refine wp_skip ?_ | (refine e_thenK hK ?_; clear hK))
   have hQ : Old w ks [.string ⟨#[77, 105, 110, 76, 101, 110, 103, 116, 104]⟩, .string ⟨#[77, 97, 120, 76, 101, 110, 103, 116, 104]⟩] := hH.toOld (i := 6) rfl
   have hK2 : Old w p.kd [.string ⟨#[49]⟩, .string ⟨#[77, 97, 120, 76, 101, 110, 103, 116, 104]⟩, .slice (some ⟨p.pb, 0, none⟩) 1 p.pc, .slice (some ⟨p.ab, 0, none⟩) 0 0, .string ⟨#[]⟩, .slice none 0 0, .slice (some ⟨p.nb, 0, none⟩) 2 2, .slice none 0 0] := Old.pre (hH.toOld (i := 1) rfl)
   have hN : Old w bn (nodeL lm) := hH.toOld (i := 4) rfl
   have hP : Old w p.pb (.string ⟨#[109, 97, 120, 76, 101, 110, 103, 116, 104]⟩ :: p.Z) := hH.toOld (i := 2) rfl
   have hE : Old w p.nb [.int .i64 ((U.nc x.f3 x.f3.size 0 : Nat) : Int), .int .i64 lm.n2] := hH.toOld (i := 3) rfl
   have hXw := k27.K_below hH.below hX
   refine s_call hF hH J J J J J (jKindsTop_MinLength ks p.kd p.kc p.p0 p.a0 ⟨#[77, 97, 120, 76, 101, 110, 103, 116, 104]⟩ p.pb p.pc p.ab p.nb _ hQ hK2 (fun w hw => jKinds_MaxLength p.pb p.pc p.ab p.nb ks _ (hQ.later hw))) ?_
   clear hF hH hQ hK2 hN hP hE hXw; intro a w r hr hF hH
   repeat (first | (refine is_list ?_; first | (refine s_pe hF J J J J ?_; clear hF; intro a hF) | (refine is_load ?_; (first | refine s_lda 0 hF hH J J J J J J J ?_ | refine s_lda 5 hF hH J J J J J J J ?_); clear hF; intro a hF) | (refine is_call ?_; refine s_call hF hH J J J J J (c15 bn x A4 A5 c4 c5 p.p0 p.a0 p.kd p.kc _ (fun w2 sb hw hO2 => jErrorRight_Schema bn sb lm x A4 A5 c4 c5 hx ⟨#[77, 97, 120, 76, 101, 110, 103, 116, 104]⟩ p.p0 p.a0 p.kd p.kc p.pb p.pc p.ab p.nb w2 (Old.later (hH.toOld (i := 4) rfl) hw) hO2 (Old.later (Old.pre (hH.toOld (i := 1) rfl)) hw) (k27.K_below hw.below (k27.K_below hH.below hX)) hj (fun w3 hw3 => jErrorRight_MaxLength bn sb lm x A4 A5 c4 c5 hx p.pb p.pc p.ab p.nb p.Z w3 (Old.later (Old.later (hH.toOld (i := 4) rfl) hw) hw3) (hO2.later hw3) (Old.later (Old.later (hH.toOld (i := 2) rfl) hw) hw3) h0 ht hlt (Old.later (Old.later (hH.toOld (i := 3) rfl) hw) hw3) (k27.K_below hw3.below (k27.K_below hw.below (k27.K_below hH.below hX))) hj))) ?_; clear hF hH; intro a w r hr hF hH)) | (refine c_nilK hK ?_; clear hK) | refine wp_ret ?_)
   exact hret _ _ (c_ret1 hF J J ⟨(), trivial, rfl, (hH.mid 0 4).mid 1 1⟩)
  ·rw [f5] at ht; cases ht
  ·rw [f6] at ht; cases ht
theorem jTells_MinItems (bn ks : Nat) (lm : Lm) (hlm : lm.ok) (x : S27) (A4 A5 : Option Addr) (c4 c5 : Nat) (hx : Gd x) (f1 : lm.t1 = false) (f2 : lm.t2 = false) (f5 : lm.t5 = false) (f6 : lm.t6 = false) (w0 w : World) (R : Hm) (hX : k27.K w0 x [.int .i64 x.f0, .bool x.f1, .int .i64 x.f2, .string x.f3, .slice A4 x.f4.length c4, .slice A5 x.f5.length c5]) (hH : Hp w0 w ((bn, .cells (nodeL lm).toArray 44) :: (ks, .cells #[.string ⟨#[77, 105, 110, 73, 116, 101, 109, 115]⟩, .string ⟨#[77, 97, 120, 73, 116, 101, 109, 115]⟩] 9) :: R)) :
  Calls Tryz.prog 6 #[.slice (some ⟨bn, 0, none⟩) 1 1, .agg #[.int .i64 x.f0, .bool x.f1, .int .i64 x.f2, .string x.f3, .slice A4 x.f4.length c4, .slice A5 x.f5.length c5], .slice (some ⟨ks, 0, none⟩) 2 2] w fun e w' => ∃ _ : Unit, True ∧ e = .returned (.bool true) ∧ Hp w0 w' ((bn, .cells (nodeL lm).toArray 44) :: (ks, .cells #[.string ⟨#[77, 105, 110, 73, 116, 101, 109, 115]⟩, .string ⟨#[77, 97, 120, 73, 116, 101, 109, 115]⟩] 9) :: R) := by
 refine c_enter (n := 30) (L := [(2, .slice (some ⟨ks, 0, none⟩) 2 2), (1, .agg #[.int .i64 x.f0, .bool x.f1, .int .i64 x.f2, .string x.f3, .slice A4 x.f4.length c4, .slice A5 x.f5.length c5]), (0, .slice (some ⟨bn, 0, none⟩) 1 1)]) Tryz.func6 J J J J ?_
 intro a hF
 refine c_open (fun Q hpan hret hnorm => ?_)
 repeat (first | (refine is_list ?_; first | (refine s_pe hF J J J J ?_; clear hF; intro a hF) | (refine is_load ?_; refine s_lda 0 hF hH J J J J J J J ?_; clear hF; intro a hF) | (refine s_bx hF hH J J J J ?_; clear hF hH; intro a b w hF hH)) | refine c_seq (fun K hK => ?_) | refine wp_region_lit ?_ | (refine c_nilK hK ?_; clear hK))
 refine s_callM hF J J J J J (jerrors_ok lm hlm x hx.sz.sm hx.two hx.sz.t3 bn A4 A5 c4 c5 w0 w _ hX (hH.front 1 rfl)) ?_
 rintro e w ⟨o, hO, hV⟩
 cases o with
 | none =>
  obtain ⟨rfl, hH⟩ := hV
  refine ⟨_, rfl, ?_⟩; clear hF; intro a hF
  have hj := outX_judge hx hO
  repeat (first | (refine is_list ?_; first | (refine s_pe hF J J J J ?_; clear hF; intro a hF) | (refine is_load ?_; refine s_lda 2 hF hH J J J J J J J ?_; clear hF; intro a hF) | (refine is_call ?_; refine s_call hF hH J J J J J (jValid_ok bn lm x A4 A5 c4 c5 hx _ (hH.toOld (i := 1) rfl) (k27.K_below hH.below hX)) ?_; clear hF hH; intro a w r hr hF hH) | (refine s_al hF hH J J J J ?_; clear hF hH; intro a b w hF hH) | (refine s_sta 0 hF hH J J J J J J J J J J ?_; clear hH; intro w hH)) | refine c_seq (fun K hK => ?_) | refine wp_region_lit ?_ | (refine c_nilK hK ?_; clear hK) | refine c_true hF rfl ?_ | refine wp_ret ?_ | (refine e_ret ?_; clear hK))
  rw [hj] at hF
  skip
  exact hret _ _ (c_ret1 hF J J ⟨(), trivial, rfl, (hH.mid 0 1).mid 1 1⟩)
 | some o =>
  obtain ⟨kT, gt, wt⟩ := o
  obtain ⟨p, nm, kw, hk, rfl, hH⟩ := hV
  refine ⟨_, rfl, ?_⟩; clear hF; intro a hF
  rcases outX_kind hx hO with ⟨c1, h0, ht, c2, hlt, c3⟩ | ⟨c1, h0, ht, c2, hlt, c3⟩ | ⟨c1, h0, ht, c2, hlt, c3⟩ | ⟨c1, h0, ht, c2, hlt, c3⟩ | ⟨c1, h0, ht, c2, hlt, c3⟩ | ⟨c1, h0, ht, c2, hlt, c3⟩
  ·simp only at c1 c2 c3
   subst c1 c2 c3
   cases hk
   have hj : judge lm x = false := by rw [judge4 h0]; exact bd_lo ht hlt
   repeat (first | (refine is_list ?_; first | (refine s_pe hF J J J J ?_; clear hF; intro a hF) | (refine is_load ?_; refine s_lda 0 hF hH J J J J J J J ?_; clear hF; intro a hF) | (refine s_al hF hH J J J J ?_; clear hF hH; intro a b w hF hH) | (refine s_sta 0 hF hH J J J J J J J J J J ?_; clear hH; intro w hH)) | refine c_seq (fun K hK => ?_) | refine wp_region_lit ?_ | (refine c_nilK hK ?_; clear hK) | refine c_false hF rfl ?_ | refine wp_skip ?_ | (refine e_thenK hK ?_; clear hK))
   have hQ : Old w ks [.string ⟨#[77, 105, 110, 73, 116, 101, 109, 115]⟩, .string ⟨#[77, 97, 120, 73, 116, 101, 109, 115]⟩] := hH.toOld (i := 6) rfl
   have hK2 : Old w p.kd [.string ⟨#[49]⟩, .string ⟨#[77, 105, 110, 73, 116, 101, 109, 115]⟩, .slice (some ⟨p.pb, 0, none⟩) 1 p.pc, .slice (some ⟨p.ab, 0, none⟩) 0 0, .string ⟨#[]⟩, .slice none 0 0, .slice (some ⟨p.nb, 0, none⟩) 2 2, .slice none 0 0] := Old.pre (hH.toOld (i := 1) rfl)
   have hN : Old w bn (nodeL lm) := hH.toOld (i := 4) rfl
   have hP : Old w p.pb (.string ⟨#[109, 105, 110, 73, 116, 101, 109, 115]⟩ :: p.Z) := hH.toOld (i := 2) rfl
   have hE : Old w p.nb [.int .i64 ((x.f5.length : Nat) : Int), .int .i64 lm.n3] := hH.toOld (i := 3) rfl
   have hXw := k27.K_below hH.below hX
   refine s_call hF hH J J J J J (jKindsTop_MinItems ks p.kd p.kc p.p0 p.a0 ⟨#[77, 105, 110, 73, 116, 101, 109, 115]⟩ p.pb p.pc p.ab p.nb _ hQ hK2 (fun w hw => jKinds_MinItems p.pb p.pc p.ab p.nb ks _ (hQ.later hw))) ?_
   clear hF hH hQ hK2 hN hP hE hXw; intro a w r hr hF hH
   repeat (first | (refine is_list ?_; first | (refine s_pe hF J J J J ?_; clear hF; intro a hF) | (refine is_load ?_; (first | refine s_lda 0 hF hH J J J J J J J ?_ | refine s_lda 5 hF hH J J J J J J J ?_); clear hF; intro a hF) | (refine is_call ?_; refine s_call hF hH J J J J J (c15 bn x A4 A5 c4 c5 p.p0 p.a0 p.kd p.kc _ (fun w2 sb hw hO2 => jErrorRight_Schema bn sb lm x A4 A5 c4 c5 hx ⟨#[77, 105, 110, 73, 116, 101, 109, 115]⟩ p.p0 p.a0 p.kd p.kc p.pb p.pc p.ab p.nb w2 (Old.later (hH.toOld (i := 4) rfl) hw) hO2 (Old.later (Old.pre (hH.toOld (i := 1) rfl)) hw) (k27.K_below hw.below (k27.K_below hH.below hX)) hj (fun w3 hw3 => jErrorRight_MinItems bn sb lm x A4 A5 c4 c5 hx p.pb p.pc p.ab p.nb p.Z w3 (Old.later (Old.later (hH.toOld (i := 4) rfl) hw) hw3) (hO2.later hw3) (Old.later (Old.later (hH.toOld (i := 2) rfl) hw) hw3) h0 ht hlt (Old.later (Old.later (hH.toOld (i := 3) rfl) hw) hw3) (k27.K_below hw3.below (k27.K_below hw.below (k27.K_below hH.below hX))) hj))) ?_; clear hF hH; intro a w r hr hF hH)) | (refine c_nilK hK ?_; clear hK) | refine wp_ret ?_)
   exact hret _ _ (c_ret1 hF J J ⟨(), trivial, rfl, (hH.mid 0 4).mid 1 1⟩)
  ·simp only at c1 c2 c3
   subst c1 c2 c3
   cases hk
   have hj : judge lm x = false := by rw [judge4 h0]; exact bd_hi ht hlt
   repeat (first | (refine is_list ?_; first | (refine s_pe hF J J J J ?_; clear hF; intro a hF) | (refine is_load ?_; refine s_lda 0 hF hH J J J J J J J ?_; clear hF; intro a hF) | (refine s_al hF hH J J J J ?_; clear hF hH; intro a b w hF hH) | (refine s_sta 0 hF hH J J J J J J J J J J ?_; clear hH; intro w hH)) | refine c_seq (fun K hK => ?_) | refine wp_region_lit ?_ | (refine c_nilK hK ?_; clear hK) | refine c_false hF rfl ?_ | refine wp_skip ?_ | (refine e_thenK hK ?_; clear hK))
   have hQ : Old w ks [.string ⟨#[77, 105, 110, 73, 116, 101, 109, 115]⟩, .string ⟨#[77, 97, 120, 73, 116, 101, 109, 115]⟩] := hH.toOld (i := 6) rfl
   have hK2 : Old w p.kd [.string ⟨#[49]⟩, .string ⟨#[77, 97, 120, 73, 116, 101, 109, 115]⟩, .slice (some ⟨p.pb, 0, none⟩) 1 p.pc, .slice (some ⟨p.ab, 0, none⟩) 0 0, .string ⟨#[]⟩, .slice none 0 0, .slice (some ⟨p.nb, 0, none⟩) 2 2, .slice none 0 0] := Old.pre (hH.toOld (i := 1) rfl)
   have hN : Old w bn (nodeL lm) := hH.toOld (i := 4) rfl
   have hP : Old w p.pb (.string ⟨#[109, 97, 120, 73, 116, 101, 109, 115]⟩ :: p.Z) := hH.toOld (i := 2) rfl
   have hE : Old w p.nb [.int .i64 ((x.f5.length : Nat) : Int), .int .i64 lm.n4] := hH.toOld (i := 3) rfl
   have hXw := k27.K_below hH.below hX
   refine s_call hF hH J J J J J (jKindsTop_MinItems ks p.kd p.kc p.p0 p.a0 ⟨#[77, 97, 120, 73, 116, 101, 109, 115]⟩ p.pb p.pc p.ab p.nb _ hQ hK2 (fun w hw => jKinds_MaxItems p.pb p.pc p.ab p.nb ks _ (hQ.later hw))) ?_
   clear hF hH hQ hK2 hN hP hE hXw; intro a w r hr hF hH
   repeat (first | (refine is_list ?_; first | (refine s_pe hF J J J J ?_; clear hF; intro a hF) | (refine is_load ?_; (first | refine s_lda 0 hF hH J J J J J J J ?_ | refine s_lda 5 hF hH J J J J J J J ?_); clear hF; intro a hF) | (refine is_call ?_; refine s_call hF hH J J J J J (c15 bn x A4 A5 c4 c5 p.p0 p.a0 p.kd p.kc _ (fun w2 sb hw hO2 => jErrorRight_Schema bn sb lm x A4 A5 c4 c5 hx ⟨#[77, 97, 120, 73, 116, 101, 109, 115]⟩ p.p0 p.a0 p.kd p.kc p.pb p.pc p.ab p.nb w2 (Old.later (hH.toOld (i := 4) rfl) hw) hO2 (Old.later (Old.pre (hH.toOld (i := 1) rfl)) hw) (k27.K_below hw.below (k27.K_below hH.below hX)) hj (fun w3 hw3 => jErrorRight_MaxItems bn sb lm x A4 A5 c4 c5 hx p.pb p.pc p.ab p.nb p.Z w3 (Old.later (Old.later (hH.toOld (i := 4) rfl) hw) hw3) (hO2.later hw3) (Old.later (Old.later (hH.toOld (i := 2) rfl) hw) hw3) h0 ht hlt (Old.later (Old.later (hH.toOld (i := 3) rfl) hw) hw3) (k27.K_below hw3.below (k27.K_below hw.below (k27.K_below hH.below hX))) hj))) ?_; clear hF hH; intro a w r hr hF hH)) | (refine c_nilK hK ?_; clear hK) | refine wp_ret ?_)
   exact hret _ _ (c_ret1 hF J J ⟨(), trivial, rfl, (hH.mid 0 4).mid 1 1⟩)
  ·rw [f1] at ht; cases ht
  ·rw [f2] at ht; cases ht
  ·rw [f5] at ht; cases ht
  ·rw [f6] at ht; cases ht
theorem jTells_MinProperties (bn ks : Nat) (lm : Lm) (hlm : lm.ok) (x : S27) (A4 A5 : Option Addr) (c4 c5 : Nat) (hx : Gd x) (f1 : lm.t1 = false) (f2 : lm.t2 = false) (f3 : lm.t3 = false) (f4 : lm.t4 = false) (w0 w : World) (R : Hm) (hX : k27.K w0 x [.int .i64 x.f0, .bool x.f1, .int .i64 x.f2, .string x.f3, .slice A4 x.f4.length c4, .slice A5 x.f5.length c5]) (hH : Hp w0 w ((bn, .cells (nodeL lm).toArray 44) :: (ks, .cells #[.string ⟨#[77, 105, 110, 80, 114, 111, 112, 101, 114, 116, 105, 101, 115]⟩, .string ⟨#[77, 97, 120, 80, 114, 111, 112, 101, 114, 116, 105, 101, 115]⟩] 9) :: R)) :
  Calls Tryz.prog 6 #[.slice (some ⟨bn, 0, none⟩) 1 1, .agg #[.int .i64 x.f0, .bool x.f1, .int .i64 x.f2, .string x.f3, .slice A4 x.f4.length c4, .slice A5 x.f5.length c5], .slice (some ⟨ks, 0, none⟩) 2 2] w fun e w' => ∃ _ : Unit, True ∧ e = .returned (.bool true) ∧ Hp w0 w' ((bn, .cells (nodeL lm).toArray 44) :: (ks, .cells #[.string ⟨#[77, 105, 110, 80, 114, 111, 112, 101, 114, 116, 105, 101, 115]⟩, .string ⟨#[77, 97, 120, 80, 114, 111, 112, 101, 114, 116, 105, 101, 115]⟩] 9) :: R) := by
 refine c_enter (n := 30) (L := [(2, .slice (some ⟨ks, 0, none⟩) 2 2), (1, .agg #[.int .i64 x.f0, .bool x.f1, .int .i64 x.f2, .string x.f3, .slice A4 x.f4.length c4, .slice A5 x.f5.length c5]), (0, .slice (some ⟨bn, 0, none⟩) 1 1)]) Tryz.func6 J J J J ?_
 intro a hF
 refine c_open (fun Q hpan hret hnorm => ?_)
 repeat (first | (refine is_list ?_; first | (refine s_pe hF J J J J ?_; clear hF; intro a hF) | (refine is_load ?_; refine s_lda 0 hF hH J J J J J J J ?_; clear hF; intro a hF) | (refine s_bx hF hH J J J J ?_; clear hF hH; intro a b w hF hH)) | refine c_seq (fun K hK => ?_) | refine wp_region_lit ?_ | (refine c_nilK hK ?_; clear hK))
 refine s_callM hF J J J J J (jerrors_ok lm hlm x hx.sz.sm hx.two hx.sz.t3 bn A4 A5 c4 c5 w0 w _ hX (hH.front 1 rfl)) ?_
 rintro e w ⟨o, hO, hV⟩
 cases o with
 | none =>
  obtain ⟨rfl, hH⟩ := hV
  refine ⟨_, rfl, ?_⟩; clear hF; intro a hF
  have hj := outX_judge hx hO
  repeat (first | (refine is_list ?_; first | (refine s_pe hF J J J J ?_; clear hF; intro a hF) | (refine is_load ?_; refine s_lda 2 hF hH J J J J J J J ?_; clear hF; intro a hF) | (refine is_call ?_; refine s_call hF hH J J J J J (jValid_ok bn lm x A4 A5 c4 c5 hx _ (hH.toOld (i := 1) rfl) (k27.K_below hH.below hX)) ?_; clear hF hH; intro a w r hr hF hH) | (refine s_al hF hH J J J J ?_; clear hF hH; intro a b w hF hH) | (refine s_sta 0 hF hH J J J J J J J J J J ?_; clear hH; intro w hH)) | refine c_seq (fun K hK => ?_) | refine wp_region_lit ?_ | (refine c_nilK hK ?_; clear hK) | refine c_true hF rfl ?_ | refine wp_ret ?_ | (refine e_ret ?_; clear hK))
  rw [hj] at hF
  skip
  exact hret _ _ (c_ret1 hF J J ⟨(), trivial, rfl, (hH.mid 0 1).mid 1 1⟩)
 | some o =>
  obtain ⟨kT, gt, wt⟩ := o
  obtain ⟨p, nm, kw, hk, rfl, hH⟩ := hV
  refine ⟨_, rfl, ?_⟩; clear hF; intro a hF
  rcases outX_kind hx hO with ⟨c1, h0, ht, c2, hlt, c3⟩ | ⟨c1, h0, ht, c2, hlt, c3⟩ | ⟨c1, h0, ht, c2, hlt, c3⟩ | ⟨c1, h0, ht, c2, hlt, c3⟩ | ⟨c1, h0, ht, c2, hlt, c3⟩ | ⟨c1, h0, ht, c2, hlt, c3⟩
  ·rw [f3] at ht; cases ht
  ·rw [f4] at ht; cases ht
  ·rw [f1] at ht; cases ht
  ·rw [f2] at ht; cases ht
  ·simp only at c1 c2 c3
   subst c1 c2 c3
   cases hk
   have hj : judge lm x = false := by rw [judge5 h0]; exact bd_lo ht hlt
   repeat (first | (refine is_list ?_; first | (refine s_pe hF J J J J ?_; clear hF; intro a hF) | (refine is_load ?_; refine s_lda 0 hF hH J J J J J J J ?_; clear hF; intro a hF) | (refine s_al hF hH J J J J ?_; clear hF hH; intro a b w hF hH) | (refine s_sta 0 hF hH J J J J J J J J J J ?_; clear hH; intro w hH)) | refine c_seq (fun K hK => ?_) | refine wp_region_lit ?_ | (refine c_nilK hK ?_; clear hK) | refine c_false hF rfl ?_ | refine wp_skip ?_ | (refine e_thenK hK ?_; clear hK))
   have hQ : Old w ks [.string ⟨#[77, 105, 110, 80, 114, 111, 112, 101, 114, 116, 105, 101, 115]⟩, .string ⟨#[77, 97, 120, 80, 114, 111, 112, 101, 114, 116, 105, 101, 115]⟩] := hH.toOld (i := 6) rfl
   have hK2 : Old w p.kd [.string ⟨#[49]⟩, .string ⟨#[77, 105, 110, 80, 114, 111, 112, 101, 114, 116, 105, 101, 115]⟩, .slice (some ⟨p.pb, 0, none⟩) 1 p.pc, .slice (some ⟨p.ab, 0, none⟩) 0 0, .string ⟨#[]⟩, .slice none 0 0, .slice (some ⟨p.nb, 0, none⟩) 2 2, .slice none 0 0] := Old.pre (hH.toOld (i := 1) rfl)
   have hN : Old w bn (nodeL lm) := hH.toOld (i := 4) rfl
   have hP : Old w p.pb (.string ⟨#[109, 105, 110, 80, 114, 111, 112, 101, 114, 116, 105, 101, 115]⟩ :: p.Z) := hH.toOld (i := 2) rfl
   have hE : Old w p.nb [.int .i64 (((U.dd x.f4).length : Nat) : Int), .int .i64 lm.n5] := hH.toOld (i := 3) rfl
   have hXw := k27.K_below hH.below hX
   refine s_call hF hH J J J J J (jKindsTop_MinProperties ks p.kd p.kc p.p0 p.a0 ⟨#[77, 105, 110, 80, 114, 111, 112, 101, 114, 116, 105, 101, 115]⟩ p.pb p.pc p.ab p.nb _ hQ hK2 (fun w hw => jKinds_MinProperties p.pb p.pc p.ab p.nb ks _ (hQ.later hw))) ?_
   clear hF hH hQ hK2 hN hP hE hXw; intro a w r hr hF hH
   repeat (first | (refine is_list ?_; first | (refine s_pe hF J J J J ?_; clear hF; intro a hF) | (refine is_load ?_; (first | refine s_lda 0 hF hH J J J J J J J ?_ | refine s_lda 5 hF hH J J J J J J J ?_); clear hF; intro a hF) | (refine is_call ?_; refine s_call hF hH J J J J J (c15 bn x A4 A5 c4 c5 p.p0 p.a0 p.kd p.kc _ (fun w2 sb hw hO2 => jErrorRight_Schema bn sb lm x A4 A5 c4 c5 hx ⟨#[77, 105, 110, 80, 114, 111, 112, 101, 114, 116, 105, 101, 115]⟩ p.p0 p.a0 p.kd p.kc p.pb p.pc p.ab p.nb w2 (Old.later (hH.toOld (i := 4) rfl) hw) hO2 (Old.later (Old.pre (hH.toOld (i := 1) rfl)) hw) (k27.K_below hw.below (k27.K_below hH.below hX)) hj (fun w3 hw3 => jErrorRight_MinProperties bn sb lm x A4 A5 c4 c5 hx p.pb p.pc p.ab p.nb p.Z w3 (Old.later (Old.later (hH.toOld (i := 4) rfl) hw) hw3) (hO2.later hw3) (Old.later (Old.later (hH.toOld (i := 2) rfl) hw) hw3) h0 ht hlt (Old.later (Old.later (hH.toOld (i := 3) rfl) hw) hw3) (k27.K_below hw3.below (k27.K_below hw.below (k27.K_below hH.below hX))) hj))) ?_; clear hF hH; intro a w r hr hF hH)) | (refine c_nilK hK ?_; clear hK) | refine wp_ret ?_)
   exact hret _ _ (c_ret1 hF J J ⟨(), trivial, rfl, (hH.mid 0 4).mid 1 1⟩)
  ·simp only at c1 c2 c3
   subst c1 c2 c3
   cases hk
   have hj : judge lm x = false := by rw [judge5 h0]; exact bd_hi ht hlt
   repeat (first | (refine is_list ?_; first | (refine s_pe hF J J J J ?_; clear hF; intro a hF) | (refine is_load ?_; refine s_lda 0 hF hH J J J J J J J ?_; clear hF; intro a hF) | (refine s_al hF hH J J J J ?_; clear hF hH; intro a b w hF hH) | (refine s_sta 0 hF hH J J J J J J J J J J ?_; clear hH; intro w hH)) | refine c_seq (fun K hK => ?_) | refine wp_region_lit ?_ | (refine c_nilK hK ?_; clear hK) | refine c_false hF rfl ?_ | refine wp_skip ?_ | (refine e_thenK hK ?_; clear hK))
   have hQ : Old w ks [.string ⟨#[77, 105, 110, 80, 114, 111, 112, 101, 114, 116, 105, 101, 115]⟩, .string ⟨#[77, 97, 120, 80, 114, 111, 112, 101, 114, 116, 105, 101, 115]⟩] := hH.toOld (i := 6) rfl
   have hK2 : Old w p.kd [.string ⟨#[49]⟩, .string ⟨#[77, 97, 120, 80, 114, 111, 112, 101, 114, 116, 105, 101, 115]⟩, .slice (some ⟨p.pb, 0, none⟩) 1 p.pc, .slice (some ⟨p.ab, 0, none⟩) 0 0, .string ⟨#[]⟩, .slice none 0 0, .slice (some ⟨p.nb, 0, none⟩) 2 2, .slice none 0 0] := Old.pre (hH.toOld (i := 1) rfl)
   have hN : Old w bn (nodeL lm) := hH.toOld (i := 4) rfl
   have hP : Old w p.pb (.string ⟨#[109, 97, 120, 80, 114, 111, 112, 101, 114, 116, 105, 101, 115]⟩ :: p.Z) := hH.toOld (i := 2) rfl
   have hE : Old w p.nb [.int .i64 (((U.dd x.f4).length : Nat) : Int), .int .i64 lm.n6] := hH.toOld (i := 3) rfl
   have hXw := k27.K_below hH.below hX
   refine s_call hF hH J J J J J (jKindsTop_MinProperties ks p.kd p.kc p.p0 p.a0 ⟨#[77, 97, 120, 80, 114, 111, 112, 101, 114, 116, 105, 101, 115]⟩ p.pb p.pc p.ab p.nb _ hQ hK2 (fun w hw => jKinds_MaxProperties p.pb p.pc p.ab p.nb ks _ (hQ.later hw))) ?_
   clear hF hH hQ hK2 hN hP hE hXw; intro a w r hr hF hH
   repeat (first | (refine is_list ?_; first | (refine s_pe hF J J J J ?_; clear hF; intro a hF) | (refine is_load ?_; (first | refine s_lda 0 hF hH J J J J J J J ?_ | refine s_lda 5 hF hH J J J J J J J ?_); clear hF; intro a hF) | (refine is_call ?_; refine s_call hF hH J J J J J (c15 bn x A4 A5 c4 c5 p.p0 p.a0 p.kd p.kc _ (fun w2 sb hw hO2 => jErrorRight_Schema bn sb lm x A4 A5 c4 c5 hx ⟨#[77, 97, 120, 80, 114, 111, 112, 101, 114, 116, 105, 101, 115]⟩ p.p0 p.a0 p.kd p.kc p.pb p.pc p.ab p.nb w2 (Old.later (hH.toOld (i := 4) rfl) hw) hO2 (Old.later (Old.pre (hH.toOld (i := 1) rfl)) hw) (k27.K_below hw.below (k27.K_below hH.below hX)) hj (fun w3 hw3 => jErrorRight_MaxProperties bn sb lm x A4 A5 c4 c5 hx p.pb p.pc p.ab p.nb p.Z w3 (Old.later (Old.later (hH.toOld (i := 4) rfl) hw) hw3) (hO2.later hw3) (Old.later (Old.later (hH.toOld (i := 2) rfl) hw) hw3) h0 ht hlt (Old.later (Old.later (hH.toOld (i := 3) rfl) hw) hw3) (k27.K_below hw3.below (k27.K_below hw.below (k27.K_below hH.below hX))) hj))) ?_; clear hF hH; intro a w r hr hF hH)) | (refine c_nilK hK ?_; clear hK) | refine wp_ret ?_)
   exact hret _ _ (c_ret1 hF J J ⟨(), trivial, rfl, (hH.mid 0 4).mid 1 1⟩)
end Go.Proofs.YtlkikblohnnlcaaGreatDoor.Y
end
section
namespace Go.Proofs.YtlkikblohnnlcaaGreatDoor.Y
open Go Go.RowKit X R Go.Proofs.YtlkikblohnnlcaaGreatDoorW.PrintWords
set_option linter.unusedVariables false
set_option maxRecDepth 4000
attribute [local irreducible] wpList dL Code.wp bodyPost Ct Calls Exit.then Exit.inBlock Code.rounds
set_option maxHeartbeats 0
theorem jJudgeF (bn : Nat) (w0 : World) (hN : Old w0 bn nodeF) : Ct 18 [.int .i64 2020, .agg #[.slice (some ⟨bn, 0, none⟩) 1 1, .slice none 0 0], .int .i64 1, .agg #[.int .i64 0, .bool false, .int .i64 0, .string ⟨#[]⟩, .slice none 0 0, .slice none 0 0]] w0 (fun p : Nat => .tuple #[.bool false, .slice (some ⟨p, 0, none⟩) 0 0]) (fun _ => []) (fun _ => True) := by
 unfold Ct
 refine c_enter (n := 108) (L := [(3, .agg #[.int .i64 0, .bool false, .int .i64 0, .string ⟨#[]⟩, .slice none 0 0, .slice none 0 0]), (2, .int .i64 1), (1, .agg #[.slice (some ⟨bn, 0, none⟩) 1 1, .slice none 0 0]), (0, .int .i64 2020)]) Tryz.func18 J J J J ?_
 intro a hF
 have hH := Hp.start w0
 refine c_open (fun Q hpan hret hnorm => ?_)
 repeat (first | (refine is_list ?_; first | (refine s_pe hF J J J J ?_; clear hF; intro a hF) | (refine is_load ?_; (first | refine s_ld 1 hF hH J J J J J J J ?_ | refine s_ldao hN hF hH J J J J J J ?_); clear hF; intro a hF) | (refine s_ix hF J J J J J J J ?_; clear hF; intro a hF) | (refine s_mk (t := 4) (l := 0) (c := 0) hF hH J J J J J J J J (Nat.le_refl _) (by decide) (by decide) ?_; clear hF hH; intro a mb w hF hH) | ((first | refine s_bx hF hH J J J J ?_ | refine s_al hF hH J J J J ?_); clear hF hH; intro a b w hF hH) | (refine s_sta 0 hF hH J J J J J J J J J J ?_; clear hH; intro w hH)) | refine c_seq (fun K hK => ?_) | refine wp_region_lit ?_ | (refine c_nilK hK ?_; clear hK) | refine c_true hF rfl ?_ | refine wp_ret ?_ | (refine e_ret ?_; clear hK))
 exact hret _ _ (c_ret2 hF J J J ⟨_, trivial, rfl, hH.mid 0 4⟩)
theorem jTakesF (bn : Nat) (w0 : World) (hN : Old w0 bn nodeF) : Ct 40 [.int .i64 2020, .agg #[.slice (some ⟨bn, 0, none⟩) 1 1, .slice none 0 0], .int .i64 1, .agg #[.int .i64 0, .bool false, .int .i64 0, .string ⟨#[]⟩, .slice none 0 0, .slice none 0 0]] w0 (fun _ : Unit => .bool false) (fun _ => []) (fun _ => True) := by
 unfold Ct
 refine c_enter (n := 20) (L := [(3, .agg #[.int .i64 0, .bool false, .int .i64 0, .string ⟨#[]⟩, .slice none 0 0, .slice none 0 0]), (2, .int .i64 1), (1, .agg #[.slice (some ⟨bn, 0, none⟩) 1 1, .slice none 0 0]), (0, .int .i64 2020)]) Tryz.func40 J J J J ?_
 intro a hF
 have hH := Hp.start w0
 refine c_open (fun Q hpan hret hnorm => ?_)
 repeat (first | (refine is_list ?_; first | (refine s_pe hF J J J J ?_; clear hF; intro a hF) | (refine is_load ?_; (first | refine s_lda 0 hF hH J J J J J J J ?_ | refine s_lda 1 hF hH J J J J J J J ?_); clear hF; intro a hF) | (refine is_call ?_; refine s_call hF hH J J J J J (jJudgeF bn _ (hN.later hH)) ?_; clear hF hH; intro a w q hq hF hH) | (refine s_bx hF hH J J J J ?_; clear hF hH; intro a b w hF hH)) | refine c_seq (fun K hK => ?_) | refine wp_region_lit ?_ | (refine c_nilK hK ?_; clear hK) | refine wp_ret ?_)
 exact hret _ _ (c_ret1 hF J J ⟨(), trivial, rfl, hH.mid 0 2⟩)
theorem jKindRightF (bn pb ab : Nat) (w0 : World) (hN : Old w0 bn nodeF) : Ct 41 [.int .i64 2020, .agg #[.slice (some ⟨bn, 0, none⟩) 1 1, .slice none 0 0], .int .i64 1, .agg #[.int .i64 0, .bool false, .int .i64 0, .string ⟨#[]⟩, .slice none 0 0, .slice none 0 0], .agg #[.string ⟨#[49]⟩, .string ⟨#[70, 97, 108, 115, 101, 83, 99, 104, 101, 109, 97]⟩, .slice (some ⟨pb, 0, none⟩) 0 0, .slice (some ⟨ab, 0, none⟩) 0 0, .string ⟨#[]⟩, .slice none 0 0, .slice none 0 0, .slice none 0 0]] w0 (fun _ : Unit => .bool true) (fun _ => []) (fun _ => True) := by
 unfold Ct
 refine c_enter (n := 76) (L := [(4, .agg #[.string ⟨#[49]⟩, .string ⟨#[70, 97, 108, 115, 101, 83, 99, 104, 101, 109, 97]⟩, .slice (some ⟨pb, 0, none⟩) 0 0, .slice (some ⟨ab, 0, none⟩) 0 0, .string ⟨#[]⟩, .slice none 0 0, .slice none 0 0, .slice none 0 0]), (3, .agg #[.int .i64 0, .bool false, .int .i64 0, .string ⟨#[]⟩, .slice none 0 0, .slice none 0 0]), (2, .int .i64 1), (1, .agg #[.slice (some ⟨bn, 0, none⟩) 1 1, .slice none 0 0]), (0, .int .i64 2020)]) Tryz.func41 J J J J ?_
 intro a hF
 have hH := Hp.start w0
 refine c_open (fun Q hpan hret hnorm => ?_)
 repeat (first | (refine is_list ?_; first | (refine s_pe hF J J J J ?_; clear hF; intro a hF) | (refine is_load ?_; (first | refine s_ld 0 hF hH J J J J J J J ?_ | refine s_ld 1 hF hH J J J J J J J ?_ | refine s_ld 2 hF hH J J J J J J J ?_ | refine s_ldao hN hF hH J J J J J J ?_); clear hF; intro a hF) | (refine s_ix hF J J J J J J J ?_; clear hF; intro a hF) | ((first | refine s_bx hF hH J J J J ?_ | refine s_al hF hH J J J J ?_); clear hF hH; intro a b w hF hH) | (refine s_sta 0 hF hH J J J J J J J J J J ?_; clear hH; intro w hH)) | refine c_seq (fun K hK => ?_) | refine wp_region_lit ?_ | (refine c_nilK hK ?_; clear hK) | refine c_true hF rfl ?_ | refine wp_ret ?_ | (refine e_ret ?_; clear hK))
 exact hret _ _ (c_ret1 hF J J ⟨(), trivial, rfl, hH.mid 0 4⟩)
theorem jKindRightFS (bn pb ab kb kc : Nat) (w0 : World) (hN : Old w0 bn nodeF) : Ct 41 [.int .i64 2020, .agg #[.slice (some ⟨bn, 0, none⟩) 1 1, .slice none 0 0], .int .i64 1, .agg #[.int .i64 0, .bool false, .int .i64 0, .string ⟨#[]⟩, .slice none 0 0, .slice none 0 0], .agg #[.string ⟨#[49]⟩, .string ⟨#[83, 99, 104, 101, 109, 97]⟩, .slice (some ⟨pb, 0, none⟩) 0 0, .slice (some ⟨ab, 0, none⟩) 0 0, .string ⟨#[]⟩, .slice none 0 0, .slice none 0 0, .slice (some ⟨kb, 0, none⟩) 1 kc]] w0 (fun _ : Unit => .bool true) (fun _ => []) (fun _ => True) := by
 unfold Ct
 refine c_enter (n := 76) (L := [(4, .agg #[.string ⟨#[49]⟩, .string ⟨#[83, 99, 104, 101, 109, 97]⟩, .slice (some ⟨pb, 0, none⟩) 0 0, .slice (some ⟨ab, 0, none⟩) 0 0, .string ⟨#[]⟩, .slice none 0 0, .slice none 0 0, .slice (some ⟨kb, 0, none⟩) 1 kc]), (3, .agg #[.int .i64 0, .bool false, .int .i64 0, .string ⟨#[]⟩, .slice none 0 0, .slice none 0 0]), (2, .int .i64 1), (1, .agg #[.slice (some ⟨bn, 0, none⟩) 1 1, .slice none 0 0]), (0, .int .i64 2020)]) Tryz.func41 J J J J ?_
 intro a hF
 have hH := Hp.start w0
 refine c_open (fun Q hpan hret hnorm => ?_)
 repeat (first | (refine is_list ?_; first | (refine s_pe hF J J J J ?_; clear hF; intro a hF) | (refine is_load ?_; (first | refine s_ld 0 hF hH J J J J J J J ?_ | refine s_ld 1 hF hH J J J J J J J ?_ | refine s_ld 2 hF hH J J J J J J J ?_ | refine s_ldao hN hF hH J J J J J J ?_); clear hF; intro a hF) | (refine s_ix hF J J J J J J J ?_; clear hF; intro a hF) | ((first | refine s_bx hF hH J J J J ?_ | refine s_al hF hH J J J J ?_); clear hF hH; intro a b w hF hH) | (refine s_sta 0 hF hH J J J J J J J J J J ?_; clear hH; intro w hH)) | refine c_seq (fun K hK => ?_) | refine wp_region_lit ?_ | (refine c_nilK hK ?_; clear hK) | refine c_true hF rfl ?_ | refine c_false hF rfl ?_ | refine wp_ret ?_ | refine wp_skip ?_ | ((first | refine e_ret ?_ | refine e_thenK hK ?_); clear hK))
 exact hret _ _ (c_ret1 hF J J ⟨(), trivial, rfl, hH.mid 0 4⟩)
theorem jErrorRightF (bn sb pb ab : Nat) (w0 : World) (hN : Old w0 bn nodeF) (hO : Old w0 sb [.slice (some ⟨bn, 0, none⟩) 1 1]) : Ct 20 [.int .i64 2020, .agg #[.slice (some ⟨bn, 0, none⟩) 1 1, .slice none 0 0], .func (.func 21) #[] #[.pointer (some ⟨sb, 0, none⟩)], .agg #[.int .i64 0, .bool false, .int .i64 0, .string ⟨#[]⟩, .slice none 0 0, .slice none 0 0], .agg #[.string ⟨#[49]⟩, .string ⟨#[70, 97, 108, 115, 101, 83, 99, 104, 101, 109, 97]⟩, .slice (some ⟨pb, 0, none⟩) 0 0, .slice (some ⟨ab, 0, none⟩) 0 0, .string ⟨#[]⟩, .slice none 0 0, .slice none 0 0, .slice none 0 0]] w0 (fun _ : Unit => .bool true) (fun _ => []) (fun _ => True) := by
 unfold Ct
 refine c_enter (n := 103) (L := [(4, .agg #[.string ⟨#[49]⟩, .string ⟨#[70, 97, 108, 115, 101, 83, 99, 104, 101, 109, 97]⟩, .slice (some ⟨pb, 0, none⟩) 0 0, .slice (some ⟨ab, 0, none⟩) 0 0, .string ⟨#[]⟩, .slice none 0 0, .slice none 0 0, .slice none 0 0]), (3, .agg #[.int .i64 0, .bool false, .int .i64 0, .string ⟨#[]⟩, .slice none 0 0, .slice none 0 0]), (2, .func (.func 21) #[] #[.pointer (some ⟨sb, 0, none⟩)]), (1, .agg #[.slice (some ⟨bn, 0, none⟩) 1 1, .slice none 0 0]), (0, .int .i64 2020)]) Tryz.func20 J J J J ?_
 intro a hF
 have hH := Hp.start w0
 refine c_open (fun Q hpan hret hnorm => ?_)
 repeat (first | (refine is_list ?_; first | (refine s_pe hF J J J J ?_; clear hF; intro a hF) | (refine is_load ?_; (first | refine s_ld 0 hF hH J J J J J J J ?_ | refine s_ld 1 hF hH J J J J J J J ?_ | refine s_lda 1 hF hH J J J J J J J ?_); clear hF; intro a hF) | (refine is_call ?_; (first | refine s_call hF hH J J J J J (jPart_ok z27 none none 0 0 ab _) ?_ | refine s_call hF hH J J J J J (jPathRight_FalseSchema pb ab _) ?_); clear hF hH; intro a w r hr hF hH) | ((first | refine s_bx hF hH J J J J ?_ | refine s_al hF hH J J J J ?_); clear hF hH; intro a b w hF hH) | (refine s_sta 0 hF hH J J J J J J J J J J ?_; clear hH; intro w hH)) | refine c_seq (fun K hK => ?_) | refine wp_region_lit ?_ | (refine c_nilK hK ?_; clear hK) | refine c_false hF rfl ?_ | refine wp_skip ?_ | (refine e_thenK hK ?_; clear hK))
 refine s_callF hF J J J J J J (c21' bn sb _ (hO.later hH)) ?_
 rintro e w ⟨lb, _, rfl, hw⟩
 refine ⟨_, rfl, ?_⟩
 replace hH := hH.app hw
 clear hF hw; intro a hF
 repeat (first | (refine is_list ?_; first | (refine s_pe hF J J J J ?_; clear hF; intro a hF) | (refine is_load ?_; refine s_ld 2 hF hH J J J J J J J ?_; clear hF; intro a hF)) | (refine is_draw ?_; first | (refine d_pe hF J J J J J J ?_; clear hF; intro a hF) | (refine is_dload rfl ?_; (first | refine d_ld 0 hF hS J J J J J J J J ?_ | refine d_lda 1 hF hS J J J J J J J J ?_ | refine d_lda 2 hF hS J J J J J J J J ?_ | refine d_lda 4 hF hS J J J J J J J J ?_); clear hF; intro a hF) | (refine is_dcall rfl ?_; (first | refine d_call hF hH hS J J J J J J (jTakesF bn _ (hN.later hH)) ?_ | refine d_call hF hH hS J J J J J J (jKindRightF bn pb ab _ (hN.later hH)) ?_); clear hF hH hS; intro a w r hr hF hH hS) | (refine d_ix hF J J J J J J J J ?_; clear hF; intro a hF)) | (refine c_dnilB ?_; clear hS) | refine c_seq (fun K hK => ?_) | refine wp_region_lit ?_ | (refine c_nilK hK ?_; clear hK) | refine c_true hF rfl ?_ | refine c_false hF rfl ?_ | (refine is_region ?_; refine is_region (id := 8) ?_; refine c_drawn [] [0, 1, 2, 3, 4, 5, 6, 7, 8, 9, 10, 11, 12, 13, 14, 15, 16, 17, 18, 19, 20, 21, 22, 23, 24, 25, 26, 27, 28, 29, 30] hH (by kernel_rfl) (by repeat (first | refine pan_then ?_ | refine pan_block ?_ | exact hpan)) ?_; clear hH; intro w hH; have hS := hH) | refine wp_block ?_ | refine wp_loop_rounds 2 (c_roundK 1 (fun K hK => ?_)) | refine c_roundK 0 (fun K hK => ?_) | refine wp_exit ?_ | refine wp_ret ?_ | refine wp_skip ?_ | (refine e_exit ?_; clear hK) | refine e_bexit rfl ?_ | (refine e_thenK hK ?_; clear hK))
 exact hret _ _ (c_ret1 hF J J ⟨(), trivial, rfl, hH.mid 0 5⟩)
theorem jErrorRightFS (bn sb pb ab pb0 a0 kb kc : Nat) (w0 : World) (hN : Old w0 bn nodeF) (hO : Old w0 sb [.slice (some ⟨bn, 0, none⟩) 1 1]) (hK2 : Old w0 kb [.string ⟨#[49]⟩, .string ⟨#[70, 97, 108, 115, 101, 83, 99, 104, 101, 109, 97]⟩, .slice (some ⟨pb, 0, none⟩) 0 0, .slice (some ⟨ab, 0, none⟩) 0 0, .string ⟨#[]⟩, .slice none 0 0, .slice none 0 0, .slice none 0 0]) : Ct 20 [.int .i64 2020, .agg #[.slice (some ⟨bn, 0, none⟩) 1 1, .slice none 0 0], .func (.func 21) #[] #[.pointer (some ⟨sb, 0, none⟩)], .agg #[.int .i64 0, .bool false, .int .i64 0, .string ⟨#[]⟩, .slice none 0 0, .slice none 0 0], .agg #[.string ⟨#[49]⟩, .string ⟨#[83, 99, 104, 101, 109, 97]⟩, .slice (some ⟨pb0, 0, none⟩) 0 0, .slice (some ⟨a0, 0, none⟩) 0 0, .string ⟨#[]⟩, .slice none 0 0, .slice none 0 0, .slice (some ⟨kb, 0, none⟩) 1 kc]] w0 (fun _ : Unit => .bool true) (fun _ => []) (fun _ => True) := by
 unfold Ct
 refine c_enter (n := 103) (L := [(4, .agg #[.string ⟨#[49]⟩, .string ⟨#[83, 99, 104, 101, 109, 97]⟩, .slice (some ⟨pb0, 0, none⟩) 0 0, .slice (some ⟨a0, 0, none⟩) 0 0, .string ⟨#[]⟩, .slice none 0 0, .slice none 0 0, .slice (some ⟨kb, 0, none⟩) 1 kc]), (3, .agg #[.int .i64 0, .bool false, .int .i64 0, .string ⟨#[]⟩, .slice none 0 0, .slice none 0 0]), (2, .func (.func 21) #[] #[.pointer (some ⟨sb, 0, none⟩)]), (1, .agg #[.slice (some ⟨bn, 0, none⟩) 1 1, .slice none 0 0]), (0, .int .i64 2020)]) Tryz.func20 J J J J ?_
 intro a hF
 have hH := Hp.start w0
 refine c_open (fun Q hpan hret hnorm => ?_)
 repeat (first | (refine is_list ?_; first | (refine s_pe hF J J J J ?_; clear hF; intro a hF) | (refine is_load ?_; (first | refine s_ld 0 hF hH J J J J J J J ?_ | refine s_ld 1 hF hH J J J J J J J ?_ | refine s_lda 1 hF hH J J J J J J J ?_); clear hF; intro a hF) | (refine is_call ?_; (first | refine s_call hF hH J J J J J (jPart_ok z27 none none 0 0 a0 _) ?_ | refine s_call hF hH J J J J J (jPathRight_Schema pb0 a0 kb kc _) ?_); clear hF hH; intro a w r hr hF hH) | ((first | refine s_bx hF hH J J J J ?_ | refine s_al hF hH J J J J ?_); clear hF hH; intro a b w hF hH) | (refine s_sta 0 hF hH J J J J J J J J J J ?_; clear hH; intro w hH)) | refine c_seq (fun K hK => ?_) | refine wp_region_lit ?_ | (refine c_nilK hK ?_; clear hK) | refine c_false hF rfl ?_ | refine wp_skip ?_ | (refine e_thenK hK ?_; clear hK))
 refine s_callF hF J J J J J J (c21' bn sb _ (hO.later hH)) ?_
 rintro e w ⟨lb, _, rfl, hw⟩
 refine ⟨_, rfl, ?_⟩
 replace hH := hH.app hw
 clear hF hw; intro a hF
 repeat (first | (refine is_list ?_; first | (refine s_pe hF J J J J ?_; clear hF; intro a hF) | (refine is_load ?_; refine s_ld 2 hF hH J J J J J J J ?_; clear hF; intro a hF)) | (refine is_draw ?_; first | (refine d_pe hF J J J J J J ?_; clear hF; intro a hF) | (refine is_dload rfl ?_; (first | refine d_ld 0 hF hS J J J J J J J J ?_ | refine d_ld 2 hF hS J J J J J J J J ?_ | refine d_lda 1 hF hS J J J J J J J J ?_ | refine d_lda 2 hF hS J J J J J J J J ?_ | refine d_lda 3 hF hS J J J J J J J J ?_ | refine d_lda 4 hF hS J J J J J J J J ?_ | refine d_ldo hK2 hF hS J J J J J J J ?_ | refine d_ldao hK2 hF hS J J J J J J J ?_); clear hF; intro a hF) | (refine is_dcall rfl ?_; (first | refine d_call hF hH hS J J J J J J (jTakesF bn _ (hN.later hH)) ?_ | refine d_call hF hH hS J J J J J J (jKindRightFS bn pb0 a0 kb kc _ (hN.later hH)) ?_ | refine d_call hF hH hS J J J J J J (jBegins_ok ab a0 _) ?_ | refine d_call hF hH hS J J J J J J (jErrorRightF bn sb pb ab _ (hN.later hH) (hO.later hH)) ?_); clear hF hH hS; intro a w r hr hF hH hS) | (refine d_ix hF J J J J J J J J ?_; clear hF; intro a hF)) | (refine c_dnilB ?_; clear hS) | refine c_seq (fun K hK => ?_) | refine wp_region_lit ?_ | (refine c_nilK hK ?_; clear hK) | refine c_true hF rfl ?_ | refine c_false hF rfl ?_ | (refine is_region ?_; first | (refine is_region (id := 8) ?_; refine c_drawn [] [0, 1, 2, 3, 4, 5, 6, 7, 8, 9, 10, 11, 12, 13, 14, 15, 16, 17, 18, 19, 20, 21, 22, 23, 24, 25, 26, 27, 28, 29, 30] hH (by kernel_rfl) (by repeat (first | refine pan_then ?_ | refine pan_block ?_ | exact hpan)) ?_; clear hH; intro w hH; have hS := hH) | (refine is_region (id := 12) ?_; refine c_drawn [] [0, 1, 2, 3, 4, 5, 6, 7, 8, 9, 10, 11, 12, 13, 14, 15, 16, 17, 18, 19, 20, 21, 22, 23, 24] hH (by kernel_rfl) (by repeat (first | refine pan_then ?_ | refine pan_block ?_ | exact hpan)) ?_; clear hH; intro w hH; have hS := hH)) | refine wp_block ?_ | refine wp_loop_rounds 2 (c_roundK 1 (fun K hK => ?_)) | refine c_roundK 0 (fun K hK => ?_) | refine wp_exit ?_ | refine wp_ret ?_ | refine wp_skip ?_ | (refine e_exit ?_; clear hK) | refine e_bexit rfl ?_ | (refine e_thenK hK ?_; clear hK))
 exact hret _ _ (c_ret1 hF J J ⟨(), trivial, rfl, hH.mid 0 5⟩)
theorem c15F (bn pb ab pb0 a0 kb kc : Nat) (w0 : World) (hN : Old w0 bn nodeF) (hK2 : Old w0 kb [.string ⟨#[49]⟩, .string ⟨#[70, 97, 108, 115, 101, 83, 99, 104, 101, 109, 97]⟩, .slice (some ⟨pb, 0, none⟩) 0 0, .slice (some ⟨ab, 0, none⟩) 0 0, .string ⟨#[]⟩, .slice none 0 0, .slice none 0 0, .slice none 0 0]) : Ct 15 [.int .i64 2020, .slice (some ⟨bn, 0, none⟩) 1 1, .agg #[.int .i64 0, .bool false, .int .i64 0, .string ⟨#[]⟩, .slice none 0 0, .slice none 0 0], .agg #[.string ⟨#[49]⟩, .string ⟨#[83, 99, 104, 101, 109, 97]⟩, .slice (some ⟨pb0, 0, none⟩) 0 0, .slice (some ⟨a0, 0, none⟩) 0 0, .string ⟨#[]⟩, .slice none 0 0, .slice none 0 0, .slice (some ⟨kb, 0, none⟩) 1 kc]] w0 (fun _ : Unit => .bool true) (fun _ => []) (fun _ => True) := by
 unfold Ct
 refine c_enter (n := 16) (L := [(3, .agg #[.string ⟨#[49]⟩, .string ⟨#[83, 99, 104, 101, 109, 97]⟩, .slice (some ⟨pb0, 0, none⟩) 0 0, .slice (some ⟨a0, 0, none⟩) 0 0, .string ⟨#[]⟩, .slice none 0 0, .slice none 0 0, .slice (some ⟨kb, 0, none⟩) 1 kc]), (2, .agg #[.int .i64 0, .bool false, .int .i64 0, .string ⟨#[]⟩, .slice none 0 0, .slice none 0 0]), (1, .slice (some ⟨bn, 0, none⟩) 1 1), (0, .int .i64 2020)]) Tryz.func15 J J J J ?_
 intro a hF
 have hH := Hp.start w0
 refine c_open (fun Q hpan hret hnorm => ?_)
 repeat (first | (refine is_list ?_; first | (refine s_pe hF J J J J ?_; clear hF; intro a hF) | (refine is_load ?_; (first | refine s_ld 2 hF hH J J J J J J J ?_ | refine s_lda 0 hF hH J J J J J J J ?_ | refine s_lda 1 hF hH J J J J J J J ?_); clear hF; intro a hF) | (refine is_call ?_; refine s_call hF hH J J J J J (jErrorRightFS bn _ pb ab pb0 a0 kb kc _ (hN.later hH) (hH.toOld (i := 2) rfl) (hK2.later hH)) ?_; clear hF hH; intro a w r hr hF hH) | (refine s_mf hF J J J J ?_; clear hF; intro a hF) | (refine s_bx hF hH J J J J ?_; clear hF hH; intro a b w hF hH)) | refine c_seq (fun K hK => ?_) | refine wp_region_lit ?_ | (refine c_nilK hK ?_; clear hK) | refine wp_ret ?_)
 exact hret _ _ (c_ret1 hF J J ⟨(), trivial, rfl, hH.mid 0 3⟩)
theorem jAmongF_FalseSchema (ks : Nat) (w0 : World) (hQ : Old w0 ks [.string ⟨#[70, 97, 108, 115, 101, 83, 99, 104, 101, 109, 97]⟩]) : Ct 19 [.string ⟨#[70, 97, 108, 115, 101, 83, 99, 104, 101, 109, 97]⟩, .slice (some ⟨ks, 0, none⟩) 1 1] w0 (fun _ : Unit => .bool true) (fun _ => []) (fun _ => True) := by
 unfold Ct
 refine c_enter (n := 18) (L := [(1, .slice (some ⟨ks, 0, none⟩) 1 1), (0, .string ⟨#[70, 97, 108, 115, 101, 83, 99, 104, 101, 109, 97]⟩)]) Tryz.func19 J J J J ?_
 intro a hF
 have hH := Hp.start w0
 refine c_open (fun Q hpan hret hnorm => ?_)
 repeat (first | (refine is_list ?_; first | (refine s_pe hF J J J J ?_; clear hF; intro a hF) | (refine is_load ?_; refine s_ldo hQ hF hH J J J J J J ?_; clear hF; intro a hF) | (refine s_ix hF J J J J J J J ?_; clear hF; intro a hF)) | refine c_seq (fun K hK => ?_) | refine wp_region_lit ?_ | (refine c_nilK hK ?_; clear hK) | refine c_true hF rfl ?_ | refine wp_block ?_ | refine wp_loop_rounds 2 (c_roundK 1 (fun K hK => ?_)) | refine wp_ret ?_ | refine wp_skip ?_ | (refine e_ret ?_; clear hK) | refine e_bret ?_ | (refine e_thenK hK ?_; clear hK))
 exact hret _ _ (c_ret1 hF J J ⟨(), trivial, rfl, hH.mid 0 0⟩)
theorem jAmongF_Schema (ks : Nat) (w0 : World) (hQ : Old w0 ks [.string ⟨#[70, 97, 108, 115, 101, 83, 99, 104, 101, 109, 97]⟩]) : Ct 19 [.string ⟨#[83, 99, 104, 101, 109, 97]⟩, .slice (some ⟨ks, 0, none⟩) 1 1] w0 (fun _ : Unit => .bool false) (fun _ => []) (fun _ => True) := by
 unfold Ct
 refine c_enter (n := 18) (L := [(1, .slice (some ⟨ks, 0, none⟩) 1 1), (0, .string ⟨#[83, 99, 104, 101, 109, 97]⟩)]) Tryz.func19 J J J J ?_
 intro a hF
 have hH := Hp.start w0
 refine c_open (fun Q hpan hret hnorm => ?_)
 repeat (first | (refine is_list ?_; first | (refine s_pe hF J J J J ?_; clear hF; intro a hF) | (refine is_load ?_; refine s_ldo hQ hF hH J J J J J J ?_; clear hF; intro a hF) | (refine s_ix hF J J J J J J J ?_; clear hF; intro a hF)) | refine c_seq (fun K hK => ?_) | refine wp_region_lit ?_ | (refine c_nilK hK ?_; clear hK) | refine c_true hF rfl ?_ | refine c_false hF rfl ?_ | refine wp_block ?_ | refine wp_loop_rounds 2 (c_roundK 1 (fun K hK => ?_)) | refine c_roundK 0 (fun K hK => ?_) | refine wp_exit ?_ | refine wp_ret ?_ | refine wp_skip ?_ | (refine e_exit ?_; clear hK) | refine e_bexit rfl ?_ | refine e_bnormal ?_ | (refine e_thenK hK ?_; clear hK))
 exact hret _ _ (c_ret1 hF J J ⟨(), trivial, rfl, hH.mid 0 0⟩)
theorem jKindsF (pb ab ks : Nat) (w0 : World) (hQ : Old w0 ks [.string ⟨#[70, 97, 108, 115, 101, 83, 99, 104, 101, 109, 97]⟩]) : Ct 14 [.agg #[.string ⟨#[49]⟩, .string ⟨#[70, 97, 108, 115, 101, 83, 99, 104, 101, 109, 97]⟩, .slice (some ⟨pb, 0, none⟩) 0 0, .slice (some ⟨ab, 0, none⟩) 0 0, .string ⟨#[]⟩, .slice none 0 0, .slice none 0 0, .slice none 0 0], .string ⟨#[49]⟩, .slice (some ⟨ks, 0, none⟩) 1 1] w0 (fun _ : Unit => .int .i64 1) (fun _ => []) (fun _ => True) := by
 unfold Ct
 refine c_enter (n := 37) (L := [(2, .slice (some ⟨ks, 0, none⟩) 1 1), (1, .string ⟨#[49]⟩), (0, .agg #[.string ⟨#[49]⟩, .string ⟨#[70, 97, 108, 115, 101, 83, 99, 104, 101, 109, 97]⟩, .slice (some ⟨pb, 0, none⟩) 0 0, .slice (some ⟨ab, 0, none⟩) 0 0, .string ⟨#[]⟩, .slice none 0 0, .slice none 0 0, .slice none 0 0])]) Tryz.func14 J J J J ?_
 intro a hF
 have hH := Hp.start w0
 refine c_open (fun Q hpan hret hnorm => ?_)
 repeat (first | (refine is_list ?_; first | (refine s_pe hF J J J J ?_; clear hF; intro a hF) | (refine is_load ?_; refine s_ld 0 hF hH J J J J J J J ?_; clear hF; intro a hF) | (refine is_call ?_; refine s_call hF hH J J J J J (jAmongF_FalseSchema ks _ (hQ.later hH)) ?_; clear hF hH; intro a w r hr hF hH) | (refine s_bx hF hH J J J J ?_; clear hF hH; intro a b w hF hH)) | refine c_seq (fun K hK => ?_) | refine wp_region_lit ?_ | (refine c_nilK hK ?_; clear hK) | refine c_true hF rfl ?_ | refine c_false hF rfl ?_ | refine wp_block ?_ | refine wp_loop_rounds 2 (c_roundK 1 (fun K hK => ?_)) | refine wp_exit ?_ | refine wp_ret ?_ | (refine e_exit ?_; clear hK) | refine e_bexit rfl ?_ | (refine e_thenK hK ?_; clear hK))
 exact hret _ _ (c_ret1 hF J J ⟨(), trivial, rfl, hH.mid 0 1⟩)
theorem jKindsFS (pb ab ks kb kc pb0 a0 : Nat) (w0 : World) (hQ : Old w0 ks [.string ⟨#[70, 97, 108, 115, 101, 83, 99, 104, 101, 109, 97]⟩]) (hK2 : Old w0 kb [.string ⟨#[49]⟩, .string ⟨#[70, 97, 108, 115, 101, 83, 99, 104, 101, 109, 97]⟩, .slice (some ⟨pb, 0, none⟩) 0 0, .slice (some ⟨ab, 0, none⟩) 0 0, .string ⟨#[]⟩, .slice none 0 0, .slice none 0 0, .slice none 0 0]) : Ct 14 [.agg #[.string ⟨#[49]⟩, .string ⟨#[83, 99, 104, 101, 109, 97]⟩, .slice (some ⟨pb0, 0, none⟩) 0 0, .slice (some ⟨a0, 0, none⟩) 0 0, .string ⟨#[]⟩, .slice none 0 0, .slice none 0 0, .slice (some ⟨kb, 0, none⟩) 1 kc], .string ⟨#[49]⟩, .slice (some ⟨ks, 0, none⟩) 1 1] w0 (fun _ : Unit => .int .i64 1) (fun _ => []) (fun _ => True) := by
 unfold Ct
 refine c_enter (n := 37) (L := [(2, .slice (some ⟨ks, 0, none⟩) 1 1), (1, .string ⟨#[49]⟩), (0, .agg #[.string ⟨#[49]⟩, .string ⟨#[83, 99, 104, 101, 109, 97]⟩, .slice (some ⟨pb0, 0, none⟩) 0 0, .slice (some ⟨a0, 0, none⟩) 0 0, .string ⟨#[]⟩, .slice none 0 0, .slice none 0 0, .slice (some ⟨kb, 0, none⟩) 1 kc])]) Tryz.func14 J J J J ?_
 intro a hF
 have hH := Hp.start w0
 refine c_open (fun Q hpan hret hnorm => ?_)
 repeat (first | (refine is_list ?_; first | (refine s_pe hF J J J J ?_; clear hF; intro a hF) | (refine is_load ?_; (first | refine s_ld 0 hF hH J J J J J J J ?_ | refine s_ldao hK2 hF hH J J J J J J ?_); clear hF; intro a hF) | (refine is_call ?_; (first | refine s_call hF hH J J J J J (jAmongF_Schema ks _ (hQ.later hH)) ?_ | refine s_call hF hH J J J J J (jKindsF pb ab ks _ (hQ.later hH)) ?_); clear hF hH; intro a w r hr hF hH) | (refine s_ix hF J J J J J J J ?_; clear hF; intro a hF) | (refine s_bx hF hH J J J J ?_; clear hF hH; intro a b w hF hH)) | refine c_seq (fun K hK => ?_) | refine wp_region_lit ?_ | (refine c_nilK hK ?_; clear hK) | refine c_nilB ?_ | refine c_true hF rfl ?_ | refine c_false hF rfl ?_ | refine wp_block ?_ | refine wp_loop_rounds 2 (c_roundK 1 (fun K hK => ?_)) | refine c_roundK 0 (fun K hK => ?_) | refine wp_exit ?_ | refine wp_ret ?_ | refine wp_skip ?_ | (refine e_exit ?_; clear hK) | refine e_bexit rfl ?_ | (refine e_thenK hK ?_; clear hK))
 exact hret _ _ (c_ret1 hF J J ⟨(), trivial, rfl, hH.mid 0 1⟩)
end Go.Proofs.YtlkikblohnnlcaaGreatDoor.Y
end
section
namespace Go.Proofs.YtlkikblohnnlcaaGreatDoor.Y
open Go Go.RowKit X R Go.Proofs.YtlkikblohnnlcaaGreatDoorW.PrintWords
set_option linter.unusedVariables false
set_option maxRecDepth 4000
attribute [local irreducible] wpList dL Code.wp bodyPost Ct Calls Exit.then Exit.inBlock Code.rounds
set_option maxHeartbeats 0
theorem zK (w : World) : k27.K w z27 [.int .i64 0, .bool false, .int .i64 0, .string ⟨#[]⟩, .slice none 0 0, .slice none 0 0] := k27_mk w z27 (A4 := none) (c4 := 0) (Nat.le_refl _) (Kd.C_nil _ _) (A5 := none) (c5 := 0) (Nat.le_refl _) (Kd.C_nil _ _)
theorem zSm : Sm z27 := .mk _ (Nat.zero_le _) (fun y hy => by cases hy)
theorem v51F (bs bb : Nat) (w0 w : World) (R : Hm) (hH : Hp w0 w ((bs, .cells (schF bb).toArray 115) :: (bb, .cells #[.bool false] 4) :: R)) :
  Calls Tryz.prog 51 #[.pointer (some ⟨bs, 0, none⟩), .nilIface] w fun e w' => ∃ u, e = .returned u ∧ ∃ ob k2 cb b q kb : Nat, u = .iface 72 (.pointer (some ⟨ob, 0, none⟩)) ∧ Hp w0 w' ((ob, .cells #[.string ⟨#[49]⟩, .slice none 0 0, .iface 185 (.pointer (some ⟨k2, 0, none⟩)), .slice (some ⟨cb, 0, none⟩) 1 1] 125) :: (k2, .cells #[.string ⟨#[49]⟩] 187) :: (cb, .cells #[.pointer (some ⟨b, 0, none⟩)] 72) :: (b, .cells #[.string ⟨#[49]⟩, .slice (some ⟨q, 0, none⟩) 0 0, .iface 265 (.pointer (some ⟨kb, 0, none⟩)), .slice none 0 0] 125) :: (kb, .cells #[] 266) :: R) :=
 (outer_false bs bb w0 w R hH).mono (fun e w' ⟨ob, k2, cb, b, q, kb, he, h⟩ => ⟨_, he, ob, k2, cb, b, q, kb, rfl, h⟩)
theorem jdF (bn : Nat) (w0 w : World) (R : Hm) (hH : Hp w0 w ((bn, .cells nodeF.toArray 44) :: R)) :
  Calls Tryz.prog 17 #[.int .i64 2020, .slice (some ⟨bn, 0, none⟩) 1 1, .agg #[.int .i64 0, .bool false, .int .i64 0, .string ⟨#[]⟩, .slice none 0 0, .slice none 0 0]] w fun e w' => ∃ p : Er, e = .returned (.tuple #[.agg #[.string ⟨#[49]⟩, .string ⟨#[83, 99, 104, 101, 109, 97]⟩, .slice (some ⟨p.p0, 0, none⟩) 0 0, .slice (some ⟨p.a0, 0, none⟩) 0 0, .string ⟨#[]⟩, .slice none 0 0, .slice none 0 0, .slice (some ⟨p.kd, 0, none⟩) 1 p.kc], .bool true]) ∧ Hp w0 w' ((p.kd, .cells ([.string ⟨#[49]⟩, .string ⟨#[70, 97, 108, 115, 101, 83, 99, 104, 101, 109, 97]⟩, .slice (some ⟨p.pb, 0, none⟩) 0 0, .slice (some ⟨p.ab, 0, none⟩) 0 0, .string ⟨#[]⟩, .slice none 0 0, .slice none 0 0, .slice none 0 0] ++ p.Z2 : List Value).toArray 50) :: (bn, .cells nodeF.toArray 44) :: R) := by
 refine c_enter (n := 30) (L := [(2, .agg #[.int .i64 0, .bool false, .int .i64 0, .string ⟨#[]⟩, .slice none 0 0, .slice none 0 0]), (1, .slice (some ⟨bn, 0, none⟩) 1 1), (0, .int .i64 2020)]) Tryz.func17 J J J J ?_
 intro a hF
 refine c_open (fun Q hpan hret hnorm => ?_)
 repeat (first | (refine is_list ?_; first | (refine s_pe hF J J J J ?_; clear hF; intro a hF) | (refine is_load ?_; refine s_lda 4 hF hH J J J J J J J ?_; clear hF; intro a hF) | (refine is_call ?_; refine s_callM hF J J J J J (compiled_false bn w0 w _ (hH.front 2 rfl)) ?_; rintro e w ⟨bs, bb, rfl, hH1⟩; refine ⟨_, rfl, ?_⟩; clear hF hH; intro a hF; have hH := hH1; clear hH1) | ((first | refine s_bx hF hH J J J J ?_ | refine s_al hF hH J J J J ?_); clear hF hH; intro a b w hF hH)) | refine c_seq (fun K hK => ?_) | refine wp_region_lit ?_ | (refine c_nilK hK ?_; clear hK) | refine c_false hF rfl ?_ | refine wp_skip ?_ | (refine e_thenK hK ?_; clear hK))
 refine s_call hF hH J J J J J (ofJ_ok zSm w _ (zK w)) ?_
 clear hF hH; intro a w q hq hF hH
 obtain ⟨v, HH⟩ := q
 obtain ⟨_, _, _, _, _, j6, _⟩ := hq
 obtain ⟨h1, h2⟩ := j6 (.inl (by decide))
 dsimp only at h1 h2
 subst h1 h2
 dsimp only at hF hH
 refine s_callM hF J J J J J (wrap26 bs .nilIface w _ (v51F bs bb w0 w _ hH)) ?_
 rintro e w ⟨u, rfl, ob, k2, cb, b2, q, kb, rfl, hH1⟩
 refine ⟨_, rfl, ?_⟩; clear hF hH; intro a hF
 have hH := hH1; clear hH1
 repeat (first | (refine is_list ?_; refine s_pe hF J J J J ?_; clear hF; intro a hF) | refine c_seq (fun K hK => ?_) | refine wp_region_lit ?_ | (refine c_nilK hK ?_; clear hK) | refine c_false hF rfl ?_ | refine wp_skip ?_ | (refine e_thenK hK ?_; clear hK))
 refine s_call hF hH J J J J J (errorTop_FalseSchema ob k2 cb b2 q kb w (hH.toOld (i := 0) rfl) (hH.toOld (i := 2) rfl) (hH.toOld (i := 3) rfl)) ?_
 clear hF hH; intro a w p _ hF hH
 repeat (first | (refine is_list ?_; first | (refine s_pe hF J J J J ?_; clear hF; intro a hF) | (refine s_sta 7 hF hH J J J J J J J J J J ?_; clear hH; intro w hH)) | (refine c_nilK hK ?_; clear hK) | refine wp_ret ?_)
 exact hret _ _ (c_retCT 7 hF hH J J J J J J ⟨p, rfl, (hH.mid 1 5).mid 2 2⟩)
theorem jerrorsF (bn : Nat) (w0 w : World) (R : Hm) (hH : Hp w0 w ((bn, .cells nodeF.toArray 44) :: R)) :
  Calls Tryz.prog 12 #[.slice (some ⟨bn, 0, none⟩) 1 1, .agg #[.int .i64 0, .bool false, .int .i64 0, .string ⟨#[]⟩, .slice none 0 0, .slice none 0 0]] w fun e w' => ∃ p : Er, e = .returned (.tuple #[.agg #[.string ⟨#[49]⟩, .string ⟨#[83, 99, 104, 101, 109, 97]⟩, .slice (some ⟨p.p0, 0, none⟩) 0 0, .slice (some ⟨p.a0, 0, none⟩) 0 0, .string ⟨#[]⟩, .slice none 0 0, .slice none 0 0, .slice (some ⟨p.kd, 0, none⟩) 1 p.kc], .bool true]) ∧ Hp w0 w' ((p.kd, .cells ([.string ⟨#[49]⟩, .string ⟨#[70, 97, 108, 115, 101, 83, 99, 104, 101, 109, 97]⟩, .slice (some ⟨p.pb, 0, none⟩) 0 0, .slice (some ⟨p.ab, 0, none⟩) 0 0, .string ⟨#[]⟩, .slice none 0 0, .slice none 0 0, .slice none 0 0] ++ p.Z2 : List Value).toArray 50) :: (bn, .cells nodeF.toArray 44) :: R) := by
 refine c_enter (n := 11) (L := [(1, .agg #[.int .i64 0, .bool false, .int .i64 0, .string ⟨#[]⟩, .slice none 0 0, .slice none 0 0]), (0, .slice (some ⟨bn, 0, none⟩) 1 1)]) Tryz.func12 J J J J ?_
 intro a hF
 refine c_open (fun Q hpan hret hnorm => ?_)
 repeat (first | (refine is_list ?_; first | (refine s_pe hF J J J J ?_; clear hF; intro a hF) | (refine is_load ?_; refine s_lda 1 hF hH J J J J J J J ?_; clear hF; intro a hF) | ((first | refine s_bx hF hH J J J J ?_ | refine s_al hF hH J J J J ?_); clear hF hH; intro a b w hF hH)) | refine c_seq (fun K hK => ?_) | refine wp_region_lit ?_ | (refine c_nilK hK ?_; clear hK))
 refine s_callM hF J J J J J (jdF bn w0 w _ (hH.front 2 rfl)) ?_
 rintro e w ⟨p, rfl, hH1⟩
 refine ⟨_, rfl, ?_⟩; clear hF hH; intro a hF
 have hH := hH1; clear hH1
 repeat (first | (refine is_list ?_; first | (refine s_pe hF J J J J ?_; clear hF; intro a hF) | (refine s_sta 2 hF hH J J J J J J J J J J ?_; clear hH; intro w hH)) | (refine c_nilK hK ?_; clear hK) | refine wp_ret ?_)
 exact hret _ _ (c_retCT 2 hF hH J J J J J J ⟨p, rfl, hH.mid 2 2⟩)
theorem jTellsFalse_ok (w0 : World) : Ct 8 [] w0 (fun _ : Unit => .bool true) (fun _ => []) (fun _ => True) := by
 unfold Ct
 refine c_enter (n := 24) (L := []) Tryz.func8 J J J J ?_
 intro a hF
 have hH := Hp.start w0
 refine c_open (fun Q hpan hret hnorm => ?_)
 repeat (first | (refine is_list ?_; first | (refine s_pe hF J J J J ?_; clear hF; intro a hF) | (refine s_bsA hF hH J J J J J J J J J ?_; clear hF hH; intro a bn w hF hH)) | refine c_seq (fun K hK => ?_) | refine wp_region_lit ?_ | (refine c_nilK hK ?_; clear hK))
 refine s_callM hF J J J J J (jerrorsF bn w0 w _ hH) ?_
 rintro e w ⟨p, rfl, hH1⟩
 refine ⟨_, rfl, ?_⟩; clear hF hH; intro a hF
 have hH := hH1; clear hH1
 repeat (first | (refine is_list ?_; first | (refine s_pe hF J J J J ?_; clear hF; intro a hF) | (refine is_load ?_; refine s_lda 1 hF hH J J J J J J J ?_; clear hF; intro a hF) | (refine is_call ?_; (first | refine s_call hF hH J J J J J (c15F _ p.pb p.ab p.p0 p.a0 p.kd p.kc _ (hH.toOld (i := 0) rfl) (Old.pre (hH.toOld (i := 2) rfl))) ?_ | refine s_call hF hH J J J J J (jKindsFS p.pb p.ab _ p.kd p.kc p.p0 p.a0 _ (hH.toOld (i := 0) rfl) (Old.pre (hH.toOld (i := 3) rfl))) ?_); clear hF hH; intro a w r hr hF hH) | ((first | refine s_bsA hF hH J J J J J J J J J ?_ | refine s_bs hF hH J J J J J J J J J J ?_ | refine s_al hF hH J J J J ?_); clear hF hH; intro a b w hF hH) | (refine s_sta 0 hF hH J J J J J J J J J J ?_; clear hH; intro w hH)) | refine c_seq (fun K hK => ?_) | refine wp_region_lit ?_ | (refine c_nilK hK ?_; clear hK) | refine wp_ret ?_)
 exact hret _ _ (c_ret1 hF J J ⟨(), trivial, rfl, hH.mid 0 5⟩)
end Go.Proofs.YtlkikblohnnlcaaGreatDoor.Y
end
section
namespace Go.Proofs.YtlkikblohnnlcaaGreatDoor.Y
open Go Go.RowKit X R Go.Proofs.YtlkikblohnnlcaaGreatDoorW.PrintWords
set_option linter.unusedVariables false
set_option maxRecDepth 4000
attribute [local irreducible] wpList dL Code.wp bodyPost Ct Calls Exit.then Exit.inBlock Code.rounds
set_option maxHeartbeats 0
theorem jAlone_ok (lm : Lm) (w0 : World) : Ct 7 [.agg (nodeL lm).toArray] w0 (fun b : Nat => .slice (some ⟨b, 0, none⟩) 1 1) (fun b => [(b, .cells (nodeL lm).toArray 44)]) (fun _ => True) := by
 unfold Ct
 refine c_enter (n := 5) (L := [(0, .agg (nodeL lm).toArray)]) Tryz.func7 J J J J ?_
 intro a hF
 have hH := Hp.start w0
 refine c_open (fun Q hpan hret hnorm => ?_)
 repeat (first | (refine is_list ?_; first | (refine s_pe hF J J J J ?_; clear hF; intro a hF) | (refine is_load ?_; refine s_lda 0 hF hH J J J J J J J ?_; clear hF; intro a hF) | ((first | refine s_bx hF hH J J J J ?_ | refine s_bsA hF hH J J J J J J J J J ?_); clear hF hH; intro a b w hF hH)) | refine c_seq (fun K hK => ?_) | refine wp_region_lit ?_ | (refine c_nilK hK ?_; clear hK) | refine wp_ret ?_)
 exact hret _ _ (c_ret1 hF J J ⟨_, trivial, rfl, hH.mid 1 1⟩)
theorem law_ok (t t2 : Bool) (n n2 : Int) (x : S27) (A4 A5 : Option Addr) (c4 c5 : Nat) (hz : Sz x) (w0 : World) (hX : k27.K w0 x [.int .i64 x.f0, .bool x.f1, .int .i64 x.f2, .string x.f3, .slice A4 x.f4.length c4, .slice A5 x.f5.length c5]) : Ct 3 [.agg #[.bool t, .int .i64 n], .agg #[.bool t2, .int .i64 n2], .agg #[.int .i64 x.f0, .bool x.f1, .int .i64 x.f2, .string x.f3, .slice A4 x.f4.length c4, .slice A5 x.f5.length c5]] w0 (fun _ : Unit => .bool true) (fun _ => []) (fun _ => True) := by
 unfold Ct
 refine c_enter (n := 67) (L := [(2, .agg #[.int .i64 x.f0, .bool x.f1, .int .i64 x.f2, .string x.f3, .slice A4 x.f4.length c4, .slice A5 x.f5.length c5]), (1, .agg #[.bool t2, .int .i64 n2]), (0, .agg #[.bool t, .int .i64 n])]) Tryz.func3 J J J J ?_
 intro a hF
 have hH := Hp.start w0
 refine c_open (fun Q hpan hret hnorm => ?_)
 refine c_seq (fun K hK => ?_)
 refine wp_region_lit ?_
 refine s_bx hF hH J J J J ?_; clear hF hH; intro a lb w hF hH
 refine s_bx hF hH J J J J ?_; clear hF hH; intro a mb w hF hH
 refine s_bx hF hH J J J J ?_; clear hF hH; intro a xb w hF hH
 repeat (first | (refine is_list ?_; first | (refine s_pe hF J J J J ?_; clear hF; intro a hF) | (refine is_load ?_; refine s_lda 0 hF hH J J J J J J J ?_; clear hF; intro a hF) | (refine is_call ?_; refine s_call hF hH J J J J J (_root_.Go.Proofs.YtlkikblohnnlcaaGreatDoor.Y.c4 x A4 A5 c4 c5 _ (k27.K_below hH.below hX)) ?_; clear hF hH; intro a w r hr hF hH)) | refine c_seq (fun K hK => ?_) | refine wp_region_lit ?_ | (refine c_nilK hK ?_; clear hK))
 cases r with
 | false =>
  repeat (first | (refine is_list ?_; refine s_pe hF J J J J ?_; clear hF; intro a hF) | refine c_seq (fun K hK => ?_) | refine wp_region_lit ?_ | (refine c_nilK hK ?_; clear hK) | refine c_true hF rfl ?_ | refine wp_ret ?_ | (refine e_ret ?_; clear hK))
  exact hret _ _ (c_ret1 hF J J ⟨(), trivial, rfl, hH.mid 0 3⟩)
 | true =>
  repeat (first | (refine is_list ?_; first | (refine s_pe hF J J J J ?_; clear hF; intro a hF) | (refine is_load ?_; refine s_ld 2 hF hH J J J J J J J ?_; clear hF; intro a hF)) | refine c_seq (fun K hK => ?_) | refine wp_region_lit ?_ | refine c_false hF rfl ?_ | refine wp_skip ?_ | (refine e_thenK hK ?_; clear hK))
  by_cases hn : n < 0
  ·rw [show decide (n < 0) = true from decide_eq_true hn] at hF
   repeat (first | (refine is_list ?_; (first | refine s_pe hF J J J J ?_ | refine x_off hF J J J ?_); clear hF; intro a hF) | refine c_seq (fun K hK => ?_) | refine wp_region_lit ?_ | (refine c_nilK hK ?_; clear hK) | refine c_true hF rfl ?_ | refine wp_ret ?_ | (refine e_ret ?_; clear hK))
   exact hret _ _ (c_ret1 hF J J ⟨(), trivial, rfl, hH.mid 0 3⟩)
  rw [show decide (n < 0) = false from decide_eq_false hn] at hF
  repeat (refine is_list ?_; first | (refine s_pe hF J J J J ?_; clear hF; intro a hF) | (refine is_load ?_; refine s_ld 1 hF hH J J J J J J J ?_; clear hF; intro a hF))
  by_cases hn2 : n2 < 0
  ·rw [show decide (n2 < 0) = true from decide_eq_true hn2] at hF
   repeat (first | (refine is_list ?_; (first | refine s_pe hF J J J J ?_ | refine x_off hF J J J ?_); clear hF; intro a hF) | refine c_seq (fun K hK => ?_) | refine wp_region_lit ?_ | (refine c_nilK hK ?_; clear hK) | refine c_true hF rfl ?_ | refine wp_ret ?_ | (refine e_ret ?_; clear hK))
   exact hret _ _ (c_ret1 hF J J ⟨(), trivial, rfl, hH.mid 0 3⟩)
  rw [show decide (n2 < 0) = false from decide_eq_false hn2] at hF
  repeat (refine is_list ?_; first | (refine s_pe hF J J J J ?_; clear hF; intro a hF) | (refine is_load ?_; refine s_ld 2 hF hH J J J J J J J ?_; clear hF; intro a hF))
  obtain ⟨s1, hs1⟩ : ∃ b, t = b := ⟨t, rfl⟩
  rw [hs1] at hF
  cases s1
  ·have hb : t = true → t2 = true → n ≤ n2 := fun h => by rw [hs1] at h; cases h
   repeat (first | (refine is_list ?_; first | ((first | refine s_pe hF J J J J ?_ | refine x_off hF J J J ?_); clear hF; intro a hF) | (refine is_load ?_; refine s_lda 0 hF hH J J J J J J J ?_; clear hF; intro a hF) | (refine is_call ?_; refine s_call hF hH J J J J J (jCountless_ok hz vb A4 A5 c4 c5 _ (hH.toOld (i := 0) rfl) (k27.K_below hH.below hX)) ?_; clear hF hH; intro a w r hr hF hH) | (refine s_bsA hF hH J J J J J J J J J ?_; clear hF hH; intro a vb w hF hH)) | (refine c_nilK hK ?_; clear hK))
   cases r with
   | false =>
    repeat (first | (refine is_list ?_; refine s_pe hF J J J J ?_; clear hF; intro a hF) | refine c_seq (fun K hK => ?_) | refine wp_region_lit ?_ | (refine c_nilK hK ?_; clear hK) | refine c_true hF rfl ?_ | refine wp_ret ?_ | (refine e_ret ?_; clear hK))
    exact hret _ _ (c_ret1 hF J J ⟨(), trivial, rfl, hH.mid 0 4⟩)
   | true =>
    obtain ⟨hpp, hcn⟩ := hr rfl
    have hx : Gd x := ⟨hz, hpp, hcn⟩
    repeat (first | refine c_seq (fun K hK => ?_) | refine c_false hF rfl ?_ | refine wp_skip ?_ | (refine e_thenK hK ?_; clear hK))
    replace hF := hF.pick [3, 4, 5] rfl
    replace hH := hH.mid 0 1
    refine is_region (id := 5) ?_
    refine c_planN [] [([0, 1, 2, 4], [3, 5]), ([6, 7, 8, 9, 10, 12], [11, 13]), ([14, 15, 16, 17, 18, 19, 21], [20, 22])] [23, 24, 25, 26, 27, 28] hH (by kernel_rfl) (by repeat (first | refine pan_then ?_ | refine pan_block ?_ | exact hpan)) ?_
    clear hH; intro w hH; have hS := hH
    refine dN_cons ?_
    repeat (refine is_draw ?_; first | (refine d_pe hF J J J J J J ?_; clear hF; intro a hF) | (refine is_dload rfl ?_; (first | refine d_lda 0 hF hS J J J J J J J J ?_ | refine d_lda 1 hF hS J J J J J J J J ?_ | refine d_lda 2 hF hS J J J J J J J J ?_); clear hF; intro a hF))
    refine d_seg ?_
    refine gn2 hF hH hS rfl (mk_ct J J J J J J (fun w hS => jAlone_ok ⟨t, t2, false, false, false, false, n, n2, 0, 0, 0, 0⟩ w)) (mk_bs J J J J J J J J J J J) ?_
    clear hF hH hS
    rintro a w _ _ _ _ ⟨b0, _, rfl, rfl⟩ ⟨ks0, rfl, rfl⟩ hF hH hS
    refine dN_cons ?_
    repeat (refine is_draw ?_; first | (refine d_pe hF J J J J J J ?_; clear hF; intro a hF) | (refine is_dload rfl ?_; (first | refine d_lda 0 hF hS J J J J J J J J ?_ | refine d_lda 1 hF hS J J J J J J J J ?_ | refine d_lda 2 hF hS J J J J J J J J ?_); clear hF; intro a hF) | (refine is_dcall rfl ?_; refine d_call hF hH hS J J J J J J (ct_shift (we := w0) (H := [(b0, .cells (nodeL ⟨t, t2, false, false, false, false, n, n2, 0, 0, 0, 0⟩).toArray 44), (ks0, .cells #[.string ⟨#[77, 105, 110, 76, 101, 110, 103, 116, 104]⟩, .string ⟨#[77, 97, 120, 76, 101, 110, 103, 116, 104]⟩] 9)]) (V := fun _ : Unit => .bool true) (φ := fun _ => True) (hH.mid 2 100) (fun R hR => jTells_MinLength b0 ks0 ⟨t, t2, false, false, false, false, n, n2, 0, 0, 0, 0⟩ ⟨hb, (fun h => by cases h), (fun h => by cases h)⟩ x A4 A5 c4 c5 hx J J J J w0 _ R hX hR)) ?_; clear hF hH hS; intro a w r hr hF hH hS))
    refine d_seg ?_
    refine gn2 hF hH hS rfl (mk_ct J J J J J J (fun w hS => jAlone_ok ⟨false, false, t, t2, false, false, 0, 0, n, n2, 0, 0⟩ w)) (mk_bs J J J J J J J J J J J) ?_
    clear hF hH hS
    rintro a w _ _ _ _ ⟨b1, _, rfl, rfl⟩ ⟨ks1, rfl, rfl⟩ hF hH hS
    refine dN_cons ?_
    repeat (refine is_draw ?_; first | (refine d_pe hF J J J J J J ?_; clear hF; intro a hF) | (refine is_dload rfl ?_; (first | refine d_lda 0 hF hS J J J J J J J J ?_ | refine d_lda 1 hF hS J J J J J J J J ?_ | refine d_lda 2 hF hS J J J J J J J J ?_); clear hF; intro a hF) | (refine is_dcall rfl ?_; refine d_call hF hH hS J J J J J J (ct_shift (we := w0) (H := [(b1, .cells (nodeL ⟨false, false, t, t2, false, false, 0, 0, n, n2, 0, 0⟩).toArray 44), (ks1, .cells #[.string ⟨#[77, 105, 110, 73, 116, 101, 109, 115]⟩, .string ⟨#[77, 97, 120, 73, 116, 101, 109, 115]⟩] 9)]) (V := fun _ : Unit => .bool true) (φ := fun _ => True) (hH.mid 2 100) (fun R hR => jTells_MinItems b1 ks1 ⟨false, false, t, t2, false, false, 0, 0, n, n2, 0, 0⟩ ⟨(fun h => by cases h), hb, (fun h => by cases h)⟩ x A4 A5 c4 c5 hx J J J J w0 _ R hX hR)) ?_; clear hF hH hS; intro a w r hr hF hH hS))
    refine d_seg ?_
    refine gn2 hF hH hS rfl (mk_ct J J J J J J (fun w hS => jAlone_ok ⟨false, false, false, false, t, t2, 0, 0, 0, 0, n, n2⟩ w)) (mk_bs J J J J J J J J J J J) ?_
    clear hF hH hS
    rintro a w _ _ _ _ ⟨b2, _, rfl, rfl⟩ ⟨ks2, rfl, rfl⟩ hF hH hS
    refine dN_nil ?_
    repeat (first | (refine is_draw ?_; first | (refine d_pe hF J J J J J J ?_; clear hF; intro a hF) | (refine is_dcall rfl ?_; (first | refine d_call hF hH hS J J J J J J (ct_shift (we := w0) (H := [(b2, .cells (nodeL ⟨false, false, false, false, t, t2, 0, 0, 0, 0, n, n2⟩).toArray 44), (ks2, .cells #[.string ⟨#[77, 105, 110, 80, 114, 111, 112, 101, 114, 116, 105, 101, 115]⟩, .string ⟨#[77, 97, 120, 80, 114, 111, 112, 101, 114, 116, 105, 101, 115]⟩] 9)]) (V := fun _ : Unit => .bool true) (φ := fun _ => True) (hH.mid 2 100) (fun R hR => jTells_MinProperties b2 ks2 ⟨false, false, false, false, t, t2, 0, 0, 0, 0, n, n2⟩ ⟨(fun h => by cases h), (fun h => by cases h), hb⟩ x A4 A5 c4 c5 hx J J J J w0 _ R hX hR)) ?_ | refine d_call hF hH hS J J J J J J (jTellsFalse_ok _) ?_); clear hF hH hS; intro a w r hr hF hH hS)) | (refine c_dnilK hK ?_; clear hS hK) | refine wp_ret ?_)
    exact hret _ _ (c_ret1 hF J J ⟨(), trivial, rfl, hH.mid 0 100⟩)
  ·repeat (refine is_list ?_; first | (refine s_pe hF J J J J ?_; clear hF; intro a hF) | (refine is_load ?_; refine s_ld 1 hF hH J J J J J J J ?_; clear hF; intro a hF))
   obtain ⟨s2, hs2⟩ : ∃ b, t2 = b := ⟨t2, rfl⟩
   rw [hs2] at hF
   cases s2
   ·have hb : t = true → t2 = true → n ≤ n2 := fun _ h => by rw [hs2] at h; cases h
    repeat (first | (refine is_list ?_; first | ((first | refine s_pe hF J J J J ?_ | refine x_off hF J J J ?_); clear hF; intro a hF) | (refine is_load ?_; refine s_lda 0 hF hH J J J J J J J ?_; clear hF; intro a hF) | (refine is_call ?_; refine s_call hF hH J J J J J (jCountless_ok hz vb A4 A5 c4 c5 _ (hH.toOld (i := 0) rfl) (k27.K_below hH.below hX)) ?_; clear hF hH; intro a w r hr hF hH) | (refine s_bsA hF hH J J J J J J J J J ?_; clear hF hH; intro a vb w hF hH)) | (refine c_nilK hK ?_; clear hK))
    cases r with
    | false =>
     repeat (first | (refine is_list ?_; refine s_pe hF J J J J ?_; clear hF; intro a hF) | refine c_seq (fun K hK => ?_) | refine wp_region_lit ?_ | (refine c_nilK hK ?_; clear hK) | refine c_true hF rfl ?_ | refine wp_ret ?_ | (refine e_ret ?_; clear hK))
     exact hret _ _ (c_ret1 hF J J ⟨(), trivial, rfl, hH.mid 0 4⟩)
    | true =>
     obtain ⟨hpp, hcn⟩ := hr rfl
     have hx : Gd x := ⟨hz, hpp, hcn⟩
     repeat (first | refine c_seq (fun K hK => ?_) | refine c_false hF rfl ?_ | refine wp_skip ?_ | (refine e_thenK hK ?_; clear hK))
     replace hF := hF.pick [3, 4, 5] rfl
     replace hH := hH.mid 0 1
     refine is_region (id := 5) ?_
     refine c_planN [] [([0, 1, 2, 4], [3, 5]), ([6, 7, 8, 9, 10, 12], [11, 13]), ([14, 15, 16, 17, 18, 19, 21], [20, 22])] [23, 24, 25, 26, 27, 28] hH (by kernel_rfl) (by repeat (first | refine pan_then ?_ | refine pan_block ?_ | exact hpan)) ?_
     clear hH; intro w hH; have hS := hH
     refine dN_cons ?_
     repeat (refine is_draw ?_; first | (refine d_pe hF J J J J J J ?_; clear hF; intro a hF) | (refine is_dload rfl ?_; (first | refine d_lda 0 hF hS J J J J J J J J ?_ | refine d_lda 1 hF hS J J J J J J J J ?_ | refine d_lda 2 hF hS J J J J J J J J ?_); clear hF; intro a hF))
     refine d_seg ?_
     refine gn2 hF hH hS rfl (mk_ct J J J J J J (fun w hS => jAlone_ok ⟨t, t2, false, false, false, false, n, n2, 0, 0, 0, 0⟩ w)) (mk_bs J J J J J J J J J J J) ?_
     clear hF hH hS
     rintro a w _ _ _ _ ⟨b0, _, rfl, rfl⟩ ⟨ks0, rfl, rfl⟩ hF hH hS
     refine dN_cons ?_
     repeat (refine is_draw ?_; first | (refine d_pe hF J J J J J J ?_; clear hF; intro a hF) | (refine is_dload rfl ?_; (first | refine d_lda 0 hF hS J J J J J J J J ?_ | refine d_lda 1 hF hS J J J J J J J J ?_ | refine d_lda 2 hF hS J J J J J J J J ?_); clear hF; intro a hF) | (refine is_dcall rfl ?_; refine d_call hF hH hS J J J J J J (ct_shift (we := w0) (H := [(b0, .cells (nodeL ⟨t, t2, false, false, false, false, n, n2, 0, 0, 0, 0⟩).toArray 44), (ks0, .cells #[.string ⟨#[77, 105, 110, 76, 101, 110, 103, 116, 104]⟩, .string ⟨#[77, 97, 120, 76, 101, 110, 103, 116, 104]⟩] 9)]) (V := fun _ : Unit => .bool true) (φ := fun _ => True) (hH.mid 2 100) (fun R hR => jTells_MinLength b0 ks0 ⟨t, t2, false, false, false, false, n, n2, 0, 0, 0, 0⟩ ⟨hb, (fun h => by cases h), (fun h => by cases h)⟩ x A4 A5 c4 c5 hx J J J J w0 _ R hX hR)) ?_; clear hF hH hS; intro a w r hr hF hH hS))
     refine d_seg ?_
     refine gn2 hF hH hS rfl (mk_ct J J J J J J (fun w hS => jAlone_ok ⟨false, false, t, t2, false, false, 0, 0, n, n2, 0, 0⟩ w)) (mk_bs J J J J J J J J J J J) ?_
     clear hF hH hS
     rintro a w _ _ _ _ ⟨b1, _, rfl, rfl⟩ ⟨ks1, rfl, rfl⟩ hF hH hS
     refine dN_cons ?_
     repeat (refine is_draw ?_; first | (refine d_pe hF J J J J J J ?_; clear hF; intro a hF) | (refine is_dload rfl ?_; (first | refine d_lda 0 hF hS J J J J J J J J ?_ | refine d_lda 1 hF hS J J J J J J J J ?_ | refine d_lda 2 hF hS J J J J J J J J ?_); clear hF; intro a hF) | (refine is_dcall rfl ?_; refine d_call hF hH hS J J J J J J (ct_shift (we := w0) (H := [(b1, .cells (nodeL ⟨false, false, t, t2, false, false, 0, 0, n, n2, 0, 0⟩).toArray 44), (ks1, .cells #[.string ⟨#[77, 105, 110, 73, 116, 101, 109, 115]⟩, .string ⟨#[77, 97, 120, 73, 116, 101, 109, 115]⟩] 9)]) (V := fun _ : Unit => .bool true) (φ := fun _ => True) (hH.mid 2 100) (fun R hR => jTells_MinItems b1 ks1 ⟨false, false, t, t2, false, false, 0, 0, n, n2, 0, 0⟩ ⟨(fun h => by cases h), hb, (fun h => by cases h)⟩ x A4 A5 c4 c5 hx J J J J w0 _ R hX hR)) ?_; clear hF hH hS; intro a w r hr hF hH hS))
     refine d_seg ?_
     refine gn2 hF hH hS rfl (mk_ct J J J J J J (fun w hS => jAlone_ok ⟨false, false, false, false, t, t2, 0, 0, 0, 0, n, n2⟩ w)) (mk_bs J J J J J J J J J J J) ?_
     clear hF hH hS
     rintro a w _ _ _ _ ⟨b2, _, rfl, rfl⟩ ⟨ks2, rfl, rfl⟩ hF hH hS
     refine dN_nil ?_
     repeat (first | (refine is_draw ?_; first | (refine d_pe hF J J J J J J ?_; clear hF; intro a hF) | (refine is_dcall rfl ?_; (first | refine d_call hF hH hS J J J J J J (ct_shift (we := w0) (H := [(b2, .cells (nodeL ⟨false, false, false, false, t, t2, 0, 0, 0, 0, n, n2⟩).toArray 44), (ks2, .cells #[.string ⟨#[77, 105, 110, 80, 114, 111, 112, 101, 114, 116, 105, 101, 115]⟩, .string ⟨#[77, 97, 120, 80, 114, 111, 112, 101, 114, 116, 105, 101, 115]⟩] 9)]) (V := fun _ : Unit => .bool true) (φ := fun _ => True) (hH.mid 2 100) (fun R hR => jTells_MinProperties b2 ks2 ⟨false, false, false, false, t, t2, 0, 0, 0, 0, n, n2⟩ ⟨(fun h => by cases h), (fun h => by cases h), hb⟩ x A4 A5 c4 c5 hx J J J J w0 _ R hX hR)) ?_ | refine d_call hF hH hS J J J J J J (jTellsFalse_ok _) ?_); clear hF hH hS; intro a w r hr hF hH hS)) | (refine c_dnilK hK ?_; clear hS hK) | refine wp_ret ?_)
     exact hret _ _ (c_ret1 hF J J ⟨(), trivial, rfl, hH.mid 0 100⟩)
   ·repeat (refine is_list ?_; first | (refine s_pe hF J J J J ?_; clear hF; intro a hF) | (refine is_load ?_; (first | refine s_ld 1 hF hH J J J J J J J ?_ | refine s_ld 2 hF hH J J J J J J J ?_); clear hF; intro a hF))
    by_cases hnn : n > n2
    ·rw [show decide (n > n2) = true from decide_eq_true hnn] at hF
     repeat (first | (refine is_list ?_; (first | refine s_pe hF J J J J ?_ | refine x_off hF J J J ?_); clear hF; intro a hF) | refine c_seq (fun K hK => ?_) | refine wp_region_lit ?_ | (refine c_nilK hK ?_; clear hK) | refine c_true hF rfl ?_ | refine wp_ret ?_ | (refine e_ret ?_; clear hK))
     exact hret _ _ (c_ret1 hF J J ⟨(), trivial, rfl, hH.mid 0 3⟩)
    ·rw [show decide (n > n2) = false from decide_eq_false hnn] at hF
     have hb : t = true → t2 = true → n ≤ n2 := fun _ _ => by omega
     repeat (first | (refine is_list ?_; first | (refine s_pe hF J J J J ?_; clear hF; intro a hF) | (refine is_load ?_; refine s_lda 0 hF hH J J J J J J J ?_; clear hF; intro a hF) | (refine is_call ?_; refine s_call hF hH J J J J J (jCountless_ok hz vb A4 A5 c4 c5 _ (hH.toOld (i := 0) rfl) (k27.K_below hH.below hX)) ?_; clear hF hH; intro a w r hr hF hH) | (refine s_bsA hF hH J J J J J J J J J ?_; clear hF hH; intro a vb w hF hH)) | (refine c_nilK hK ?_; clear hK))
     cases r with
     | false =>
      repeat (first | (refine is_list ?_; refine s_pe hF J J J J ?_; clear hF; intro a hF) | refine c_seq (fun K hK => ?_) | refine wp_region_lit ?_ | (refine c_nilK hK ?_; clear hK) | refine c_true hF rfl ?_ | refine wp_ret ?_ | (refine e_ret ?_; clear hK))
      exact hret _ _ (c_ret1 hF J J ⟨(), trivial, rfl, hH.mid 0 4⟩)
     | true =>
      obtain ⟨hpp, hcn⟩ := hr rfl
      have hx : Gd x := ⟨hz, hpp, hcn⟩
      repeat (first | refine c_seq (fun K hK => ?_) | refine c_false hF rfl ?_ | refine wp_skip ?_ | (refine e_thenK hK ?_; clear hK))
      replace hF := hF.pick [3, 4, 5] rfl
      replace hH := hH.mid 0 1
      refine is_region (id := 5) ?_
      refine c_planN [] [([0, 1, 2, 4], [3, 5]), ([6, 7, 8, 9, 10, 12], [11, 13]), ([14, 15, 16, 17, 18, 19, 21], [20, 22])] [23, 24, 25, 26, 27, 28] hH (by kernel_rfl) (by repeat (first | refine pan_then ?_ | refine pan_block ?_ | exact hpan)) ?_
      clear hH; intro w hH; have hS := hH
      refine dN_cons ?_
      repeat (refine is_draw ?_; first | (refine d_pe hF J J J J J J ?_; clear hF; intro a hF) | (refine is_dload rfl ?_; (first | refine d_lda 0 hF hS J J J J J J J J ?_ | refine d_lda 1 hF hS J J J J J J J J ?_ | refine d_lda 2 hF hS J J J J J J J J ?_); clear hF; intro a hF))
      refine d_seg ?_
      refine gn2 hF hH hS rfl (mk_ct J J J J J J (fun w hS => jAlone_ok ⟨t, t2, false, false, false, false, n, n2, 0, 0, 0, 0⟩ w)) (mk_bs J J J J J J J J J J J) ?_
      clear hF hH hS
      rintro a w _ _ _ _ ⟨b0, _, rfl, rfl⟩ ⟨ks0, rfl, rfl⟩ hF hH hS
      refine dN_cons ?_
      repeat (refine is_draw ?_; first | (refine d_pe hF J J J J J J ?_; clear hF; intro a hF) | (refine is_dload rfl ?_; (first | refine d_lda 0 hF hS J J J J J J J J ?_ | refine d_lda 1 hF hS J J J J J J J J ?_ | refine d_lda 2 hF hS J J J J J J J J ?_); clear hF; intro a hF) | (refine is_dcall rfl ?_; refine d_call hF hH hS J J J J J J (ct_shift (we := w0) (H := [(b0, .cells (nodeL ⟨t, t2, false, false, false, false, n, n2, 0, 0, 0, 0⟩).toArray 44), (ks0, .cells #[.string ⟨#[77, 105, 110, 76, 101, 110, 103, 116, 104]⟩, .string ⟨#[77, 97, 120, 76, 101, 110, 103, 116, 104]⟩] 9)]) (V := fun _ : Unit => .bool true) (φ := fun _ => True) (hH.mid 2 100) (fun R hR => jTells_MinLength b0 ks0 ⟨t, t2, false, false, false, false, n, n2, 0, 0, 0, 0⟩ ⟨hb, (fun h => by cases h), (fun h => by cases h)⟩ x A4 A5 c4 c5 hx J J J J w0 _ R hX hR)) ?_; clear hF hH hS; intro a w r hr hF hH hS))
      refine d_seg ?_
      refine gn2 hF hH hS rfl (mk_ct J J J J J J (fun w hS => jAlone_ok ⟨false, false, t, t2, false, false, 0, 0, n, n2, 0, 0⟩ w)) (mk_bs J J J J J J J J J J J) ?_
      clear hF hH hS
      rintro a w _ _ _ _ ⟨b1, _, rfl, rfl⟩ ⟨ks1, rfl, rfl⟩ hF hH hS
      refine dN_cons ?_
      repeat (refine is_draw ?_; first | (refine d_pe hF J J J J J J ?_; clear hF; intro a hF) | (refine is_dload rfl ?_; (first | refine d_lda 0 hF hS J J J J J J J J ?_ | refine d_lda 1 hF hS J J J J J J J J ?_ | refine d_lda 2 hF hS J J J J J J J J ?_); clear hF; intro a hF) | (refine is_dcall rfl ?_; refine d_call hF hH hS J J J J J J (ct_shift (we := w0) (H := [(b1, .cells (nodeL ⟨false, false, t, t2, false, false, 0, 0, n, n2, 0, 0⟩).toArray 44), (ks1, .cells #[.string ⟨#[77, 105, 110, 73, 116, 101, 109, 115]⟩, .string ⟨#[77, 97, 120, 73, 116, 101, 109, 115]⟩] 9)]) (V := fun _ : Unit => .bool true) (φ := fun _ => True) (hH.mid 2 100) (fun R hR => jTells_MinItems b1 ks1 ⟨false, false, t, t2, false, false, 0, 0, n, n2, 0, 0⟩ ⟨(fun h => by cases h), hb, (fun h => by cases h)⟩ x A4 A5 c4 c5 hx J J J J w0 _ R hX hR)) ?_; clear hF hH hS; intro a w r hr hF hH hS))
      refine d_seg ?_
      refine gn2 hF hH hS rfl (mk_ct J J J J J J (fun w hS => jAlone_ok ⟨false, false, false, false, t, t2, 0, 0, 0, 0, n, n2⟩ w)) (mk_bs J J J J J J J J J J J) ?_
      clear hF hH hS
      rintro a w _ _ _ _ ⟨b2, _, rfl, rfl⟩ ⟨ks2, rfl, rfl⟩ hF hH hS
      refine dN_nil ?_
      repeat (first | (refine is_draw ?_; first | (refine d_pe hF J J J J J J ?_; clear hF; intro a hF) | (refine is_dcall rfl ?_; (first | refine d_call hF hH hS J J J J J J (ct_shift (we := w0) (H := [(b2, .cells (nodeL ⟨false, false, false, false, t, t2, 0, 0, 0, 0, n, n2⟩).toArray 44), (ks2, .cells #[.string ⟨#[77, 105, 110, 80, 114, 111, 112, 101, 114, 116, 105, 101, 115]⟩, .string ⟨#[77, 97, 120, 80, 114, 111, 112, 101, 114, 116, 105, 101, 115]⟩] 9)]) (V := fun _ : Unit => .bool true) (φ := fun _ => True) (hH.mid 2 100) (fun R hR => jTells_MinProperties b2 ks2 ⟨false, false, false, false, t, t2, 0, 0, 0, 0, n, n2⟩ ⟨(fun h => by cases h), (fun h => by cases h), hb⟩ x A4 A5 c4 c5 hx J J J J w0 _ R hX hR)) ?_ | refine d_call hF hH hS J J J J J J (jTellsFalse_ok _) ?_); clear hF hH hS; intro a w r hr hF hH hS)) | (refine c_dnilK hK ?_; clear hS hK) | refine wp_ret ?_)
      exact hret _ _ (c_ret1 hF J J ⟨(), trivial, rfl, hH.mid 0 100⟩)
end Go.Proofs.YtlkikblohnnlcaaGreatDoor.Y
end
