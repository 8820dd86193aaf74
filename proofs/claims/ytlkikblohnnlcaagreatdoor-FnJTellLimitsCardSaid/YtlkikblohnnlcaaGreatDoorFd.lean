/- A part of the proof that FnJTellLimits returns true for every input, on the conditions that its given row lists. -/
import Derived.Test.YtlkikblohnnlcaaGreatDoorFc
set_option linter.unusedVariables false
set_option linter.unusedSimpArgs false
section
namespace Go.Proofs.YtlkikblohnnlcaaGreatDoor.Y
open Go Go.RowKit X
set_option linter.unusedVariables false
set_option maxRecDepth 4000
attribute [local irreducible] wpList dL Code.wp bodyPost Ct Calls Exit.then Exit.inBlock Code.rounds
set_option maxHeartbeats 0
theorem validate_nil (vd bs vl sc un : Nat) (t1 t2 t3 t4 t5 t6 : Bool) (m24 m25 m27 m28 m29 rq l1 l2 l3 l4 l5 l6 : Nat) (n1 n2 n3 n4 n5 n6 : Int) (w0 w : World) (R : Hm) (hH : Hp w0 w ((vd, .cells (List.toArray ((.nilIface) :: .slice (some ⟨vl, 0, none⟩) 0 8 :: .pointer (some ⟨bs, 0, none⟩) :: .pointer (some ⟨sc, 0, none⟩) :: .pointer (some ⟨un, 0, none⟩) :: .slice none 0 0 :: .bool false :: [])) 180) :: (bs, .cells (schD t1 t2 t3 t4 t5 t6 m24 m25 m27 m28 m29 rq l1 l2 l3 l4 l5 l6).toArray 115) :: cmpH t1 t2 t3 t4 t5 t6 n1 n2 n3 n4 n5 n6 m24 m25 m27 m28 m29 l1 l2 l3 l4 l5 l6 ((sc, .cells #[.pointer (some ⟨bs, 0, none⟩), .string ⟨#[]⟩, .int .i64 0, .pointer none] 176) :: R))) :
  Calls Tryz.prog 97 #[.pointer (some ⟨vd, 0, none⟩)] w fun e w' => e = .returned (.tuple #[.pointer (some ⟨un, 0, none⟩), .nilIface]) ∧ Hp w0 w' ((vd, .cells (List.toArray ((.nilIface) :: .slice (some ⟨vl, 0, none⟩) 0 8 :: .pointer (some ⟨bs, 0, none⟩) :: .pointer (some ⟨sc, 0, none⟩) :: .pointer (some ⟨un, 0, none⟩) :: .slice none 0 0 :: .bool false :: [])) 180) :: (bs, .cells (schD t1 t2 t3 t4 t5 t6 m24 m25 m27 m28 m29 rq l1 l2 l3 l4 l5 l6).toArray 115) :: cmpH t1 t2 t3 t4 t5 t6 n1 n2 n3 n4 n5 n6 m24 m25 m27 m28 m29 l1 l2 l3 l4 l5 l6 ((sc, .cells #[.pointer (some ⟨bs, 0, none⟩), .string ⟨#[]⟩, .int .i64 0, .pointer none] 176) :: R)) := by
 refine c_enter (n := 353) (L := [(0, .pointer (some ⟨vd, 0, none⟩))]) Tryz.func97 J J J J ?_
 intro a hF
 refine c_open (fun Q hpan hret hnorm => ?_)
 repeat (first | (refine is_list ?_; first | ((first | refine s_pe hF J J J J ?_ | refine x_off hF J J J ?_); clear hF; intro a hF) | (refine is_load ?_; (first | refine s_ld 0 hF hH J J J J J J J ?_ | refine s_ld 1 hF hH J J J J J J J ?_); clear hF; intro a hF) | (refine is_call ?_; (first | refine s_call hF hH J J J J J (checkCycle_ok _ _ _ _ _ (hH.toOld (i := 13) rfl)) ?_ | refine s_call hF hH J J J J J (typeOf_nil _) ?_ | refine s_call hF hH J J J J J (condValidate_ok _ _ _ _ _ _ _ _ _ _ _ _ _ _ _ _ _ _ _ _ _ _ _ _ _ _ (hH.toOld (i := 0) rfl) (hH.toOld (i := 1) rfl)) ?_ | refine s_call hF hH J J J J J (unevalValidate_nil _ _ _ _ _ _ _ _ _ _ _ _ _ _ _ _ _ _ _ _ _ _ _ _ _ (hH.toOld (i := 0) rfl) (hH.toOld (i := 1) rfl)) ?_); clear hF hH; intro a w x hx hF hH)) | refine c_seq (fun K hK => ?_) | refine wp_region_lit ?_ | (refine c_nilK hK ?_; clear hK) | refine c_true hF rfl ?_ | refine c_false hF rfl ?_ | refine wp_block ?_ | refine wp_ret ?_ | refine wp_skip ?_ | refine e_bret ?_ | refine e_bnormal ?_ | (refine e_thenK hK ?_; clear hK))
 exact hret _ _ (c_ret2 hF J J J ⟨rfl, hH⟩)
theorem validate_bool (vb : Bool) (vd bs vl sc un : Nat) (t1 t2 t3 t4 t5 t6 : Bool) (m24 m25 m27 m28 m29 rq l1 l2 l3 l4 l5 l6 : Nat) (n1 n2 n3 n4 n5 n6 : Int) (w0 w : World) (R : Hm) (hH : Hp w0 w ((vd, .cells (List.toArray ((.iface 4 (.bool vb)) :: .slice (some ⟨vl, 0, none⟩) 0 8 :: .pointer (some ⟨bs, 0, none⟩) :: .pointer (some ⟨sc, 0, none⟩) :: .pointer (some ⟨un, 0, none⟩) :: .slice none 0 0 :: .bool false :: [])) 180) :: (bs, .cells (schD t1 t2 t3 t4 t5 t6 m24 m25 m27 m28 m29 rq l1 l2 l3 l4 l5 l6).toArray 115) :: cmpH t1 t2 t3 t4 t5 t6 n1 n2 n3 n4 n5 n6 m24 m25 m27 m28 m29 l1 l2 l3 l4 l5 l6 ((sc, .cells #[.pointer (some ⟨bs, 0, none⟩), .string ⟨#[]⟩, .int .i64 0, .pointer none] 176) :: R))) :
  Calls Tryz.prog 97 #[.pointer (some ⟨vd, 0, none⟩)] w fun e w' => e = .returned (.tuple #[.pointer (some ⟨un, 0, none⟩), .nilIface]) ∧ Hp w0 w' ((vd, .cells (List.toArray ((.iface 4 (.bool vb)) :: .slice (some ⟨vl, 0, none⟩) 0 8 :: .pointer (some ⟨bs, 0, none⟩) :: .pointer (some ⟨sc, 0, none⟩) :: .pointer (some ⟨un, 0, none⟩) :: .slice none 0 0 :: .bool false :: [])) 180) :: (bs, .cells (schD t1 t2 t3 t4 t5 t6 m24 m25 m27 m28 m29 rq l1 l2 l3 l4 l5 l6).toArray 115) :: cmpH t1 t2 t3 t4 t5 t6 n1 n2 n3 n4 n5 n6 m24 m25 m27 m28 m29 l1 l2 l3 l4 l5 l6 ((sc, .cells #[.pointer (some ⟨bs, 0, none⟩), .string ⟨#[]⟩, .int .i64 0, .pointer none] 176) :: R)) := by
 refine c_enter (n := 353) (L := [(0, .pointer (some ⟨vd, 0, none⟩))]) Tryz.func97 J J J J ?_
 intro a hF
 refine c_open (fun Q hpan hret hnorm => ?_)
 repeat (first | (refine is_list ?_; first | ((first | refine s_pe hF J J J J ?_ | refine x_off hF J J J ?_); clear hF; intro a hF) | (refine is_load ?_; (first | refine s_ld 0 hF hH J J J J J J J ?_ | refine s_ld 1 hF hH J J J J J J J ?_); clear hF; intro a hF) | (refine is_call ?_; (first | refine s_call hF hH J J J J J (checkCycle_ok _ _ _ _ _ (hH.toOld (i := 13) rfl)) ?_ | refine s_call hF hH J J J J J (typeOf_bool _ _) ?_ | refine s_call hF hH J J J J J (condValidate_ok _ _ _ _ _ _ _ _ _ _ _ _ _ _ _ _ _ _ _ _ _ _ _ _ _ _ (hH.toOld (i := 0) rfl) (hH.toOld (i := 1) rfl)) ?_ | refine s_call hF hH J J J J J (unevalValidate_bool _ _ _ _ _ _ _ _ _ _ _ _ _ _ _ _ _ _ _ _ _ _ _ _ _ _ (hH.toOld (i := 0) rfl) (hH.toOld (i := 1) rfl)) ?_); clear hF hH; intro a w x hx hF hH)) | refine c_seq (fun K hK => ?_) | refine wp_region_lit ?_ | (refine c_nilK hK ?_; clear hK) | refine c_true hF rfl ?_ | refine c_false hF rfl ?_ | refine wp_block ?_ | refine wp_ret ?_ | refine wp_skip ?_ | refine e_bret ?_ | refine e_bnormal ?_ | (refine e_thenK hK ?_; clear hK))
 exact hret _ _ (c_ret2 hF J J J ⟨rfl, hH⟩)
theorem validate_str (vs : ByteArray) (hs : vs.size < 4611686018427387904) (vd bs vl sc un : Nat) (t1 t2 t3 t4 t5 t6 : Bool) (m24 m25 m27 m28 m29 rq l1 l2 l3 l4 l5 l6 : Nat) (n1 n2 n3 n4 n5 n6 : Int) (hb : t1 = true → t2 = true → n1 ≤ n2) (w0 w : World) (R : Hm) (hH : Hp w0 w ((vd, .cells (List.toArray ((.iface 9 (.string vs)) :: .slice (some ⟨vl, 0, none⟩) 0 8 :: .pointer (some ⟨bs, 0, none⟩) :: .pointer (some ⟨sc, 0, none⟩) :: .pointer (some ⟨un, 0, none⟩) :: .slice none 0 0 :: .bool false :: [])) 180) :: (bs, .cells (schD t1 t2 t3 t4 t5 t6 m24 m25 m27 m28 m29 rq l1 l2 l3 l4 l5 l6).toArray 115) :: cmpH t1 t2 t3 t4 t5 t6 n1 n2 n3 n4 n5 n6 m24 m25 m27 m28 m29 l1 l2 l3 l4 l5 l6 ((sc, .cells #[.pointer (some ⟨bs, 0, none⟩), .string ⟨#[]⟩, .int .i64 0, .pointer none] 176) :: R))) :
  Calls Tryz.prog 97 #[.pointer (some ⟨vd, 0, none⟩)] w fun e w' => ∃ m : Nat, (U.okF vs vs.size 0 → m = U.nc vs vs.size 0) ∧ (((t1 = true → n1 ≤ (m : Int)) ∧ (t2 = true → (m : Int) ≤ n2) ∧ e = .returned (.tuple #[.pointer (some ⟨un, 0, none⟩), .nilIface]) ∧ Hp w0 w' ((vd, .cells (List.toArray ((.iface 9 (.string vs)) :: .slice (some ⟨vl, 0, none⟩) 0 8 :: .pointer (some ⟨bs, 0, none⟩) :: .pointer (some ⟨sc, 0, none⟩) :: .pointer (some ⟨un, 0, none⟩) :: .slice none 0 0 :: .bool false :: [])) 180) :: (bs, .cells (schD t1 t2 t3 t4 t5 t6 m24 m25 m27 m28 m29 rq l1 l2 l3 l4 l5 l6).toArray 115) :: cmpH t1 t2 t3 t4 t5 t6 n1 n2 n3 n4 n5 n6 m24 m25 m27 m28 m29 l1 l2 l3 l4 l5 l6 ((sc, .cells #[.pointer (some ⟨bs, 0, none⟩), .string ⟨#[]⟩, .int .i64 0, .pointer none] 176) :: R))) ∨
   (∃ (lb c b q kb : Nat) (Z : List Value), t1 = true ∧ (m : Int) < n1 ∧ e = .returned (.tuple #[.pointer none, .iface 72 (.pointer (some ⟨b, 0, none⟩))]) ∧ Hp w0 w' ((vd, .cells (List.toArray ((.iface 9 (.string vs)) :: .slice (some ⟨vl, 0, none⟩) 0 8 :: .pointer (some ⟨bs, 0, none⟩) :: .pointer (some ⟨sc, 0, none⟩) :: .pointer (some ⟨un, 0, none⟩) :: .slice (some ⟨lb, 0, none⟩) 1 c :: .bool false :: [])) 180) :: (bs, .cells (schD t1 t2 t3 t4 t5 t6 m24 m25 m27 m28 m29 rq l1 l2 l3 l4 l5 l6).toArray 115) :: (lb, .cells (.pointer (some ⟨b, 0, none⟩) :: Z).toArray 72) :: (b, .cells #[.string ⟨#[49]⟩, .slice (some ⟨q, 0, none⟩) 0 0, .iface 301 (.pointer (some ⟨kb, 0, none⟩)), .slice none 0 0] 125) :: (kb, .cells #[.int .i64 m, .int .i64 n1] 302) :: cmpH t1 t2 t3 t4 t5 t6 n1 n2 n3 n4 n5 n6 m24 m25 m27 m28 m29 l1 l2 l3 l4 l5 l6 ((sc, .cells #[.pointer (some ⟨bs, 0, none⟩), .string ⟨#[]⟩, .int .i64 0, .pointer none] 176) :: R))) ∨
   (∃ (lb c b q kb : Nat) (Z : List Value), t2 = true ∧ n2 < (m : Int) ∧ e = .returned (.tuple #[.pointer none, .iface 72 (.pointer (some ⟨b, 0, none⟩))]) ∧ Hp w0 w' ((vd, .cells (List.toArray ((.iface 9 (.string vs)) :: .slice (some ⟨vl, 0, none⟩) 0 8 :: .pointer (some ⟨bs, 0, none⟩) :: .pointer (some ⟨sc, 0, none⟩) :: .pointer (some ⟨un, 0, none⟩) :: .slice (some ⟨lb, 0, none⟩) 1 c :: .bool false :: [])) 180) :: (bs, .cells (schD t1 t2 t3 t4 t5 t6 m24 m25 m27 m28 m29 rq l1 l2 l3 l4 l5 l6).toArray 115) :: (lb, .cells (.pointer (some ⟨b, 0, none⟩) :: Z).toArray 72) :: (b, .cells #[.string ⟨#[49]⟩, .slice (some ⟨q, 0, none⟩) 0 0, .iface 303 (.pointer (some ⟨kb, 0, none⟩)), .slice none 0 0] 125) :: (kb, .cells #[.int .i64 m, .int .i64 n2] 304) :: cmpH t1 t2 t3 t4 t5 t6 n1 n2 n3 n4 n5 n6 m24 m25 m27 m28 m29 l1 l2 l3 l4 l5 l6 ((sc, .cells #[.pointer (some ⟨bs, 0, none⟩), .string ⟨#[]⟩, .int .i64 0, .pointer none] 176) :: R)))) := by
 refine c_enter (n := 353) (L := [(0, .pointer (some ⟨vd, 0, none⟩))]) Tryz.func97 J J J J ?_
 intro a hF
 refine c_open (fun Q hpan hret hnorm => ?_)
 repeat (first | (refine is_list ?_; first | ((first | refine s_pe hF J J J J ?_ | refine x_off hF J J J ?_); clear hF; intro a hF) | (refine is_load ?_; (first | refine s_ld 0 hF hH J J J J J J J ?_ | refine s_ld 1 hF hH J J J J J J J ?_); clear hF; intro a hF) | (refine is_call ?_; (first | refine s_call hF hH J J J J J (checkCycle_ok _ _ _ _ _ (hH.toOld (i := 13) rfl)) ?_ | refine s_call hF hH J J J J J (typeOf_str _ _) ?_); clear hF hH; intro a w x hx hF hH)) | refine c_seq (fun K hK => ?_) | refine wp_region_lit ?_ | (refine c_nilK hK ?_; clear hK) | refine c_true hF rfl ?_ | refine c_false hF rfl ?_ | refine wp_block ?_ | refine wp_skip ?_ | (refine e_thenK hK ?_; clear hK))
 refine s_callM hF J J J J J (strValidate_ok vs hs vd bs vl sc un _ _ _ _ _ _ _ _ _ _ _ _ _ _ _ _ _ _ _ _ _ _ _ _ hb w0 w _ hH) ?_
 rintro e w ⟨m, hm, rfl, ⟨h1, h2, hH1⟩ | ⟨lb, c, b, q, kb, Z, h1, h2, hH1⟩ | ⟨lb, c, b, q, kb, Z, h1, h2, hH1⟩⟩
 ·refine ⟨_, rfl, ?_⟩; clear hF hH; intro a hF; have hH := hH1; clear hH1
  repeat (first | (refine is_list ?_; first | ((first | refine s_pe hF J J J J ?_ | refine x_off hF J J J ?_); clear hF; intro a hF) | (refine is_load ?_; (first | refine s_ld 0 hF hH J J J J J J J ?_ | refine s_ld 1 hF hH J J J J J J J ?_); clear hF; intro a hF) | (refine is_call ?_; (first | refine s_call hF hH J J J J J (condValidate_ok _ _ _ _ _ _ _ _ _ _ _ _ _ _ _ _ _ _ _ _ _ _ _ _ _ _ (hH.toOld (i := 0) rfl) (hH.toOld (i := 1) rfl)) ?_ | refine s_call hF hH J J J J J (unevalValidate_str _ _ _ _ _ _ _ _ _ _ _ _ _ _ _ _ _ _ _ _ _ _ _ _ _ _ (hH.toOld (i := 0) rfl) (hH.toOld (i := 1) rfl)) ?_); clear hF hH; intro a w x hx hF hH)) | refine c_seq (fun K hK => ?_) | refine wp_region_lit ?_ | (refine c_nilK hK ?_; clear hK) | refine c_nilB ?_ | refine c_true hF rfl ?_ | refine wp_block ?_ | refine wp_ret ?_ | refine e_bret ?_ | (refine e_thenK hK ?_; clear hK))
  exact hret _ _ (c_ret2 hF J J J (⟨_, hm, .inl ⟨h1, h2, rfl, hH⟩⟩))
 ·refine ⟨_, rfl, ?_⟩; clear hF hH; intro a hF; have hH := hH1; clear hH1
  repeat (first | (refine is_list ?_; first | (refine s_pe hF J J J J ?_; clear hF; intro a hF) | (refine is_load ?_; (first | refine s_ld 0 hF hH J J J J J J J ?_ | refine s_ld 1 hF hH J J J J J J J ?_); clear hF; intro a hF) | (refine is_call ?_; (first | refine s_call hF hH J J J J J (condValidate_ok _ _ _ _ _ _ _ _ _ _ _ _ _ _ _ _ _ _ _ _ _ _ _ _ _ _ (hH.toOld (i := 0) rfl) (hH.toOld (i := 1) rfl)) ?_ | refine s_call hF hH J J J J J (unevalValidate_str _ _ _ _ _ _ _ _ _ _ _ _ _ _ _ _ _ _ _ _ _ _ _ _ _ _ (hH.toOld (i := 0) rfl) (hH.toOld (i := 1) rfl)) ?_); clear hF hH; intro a w x hx hF hH)) | (refine is_draw ?_; first | (refine d_pe hF J J J J J J ?_; clear hF; intro a hF) | (refine is_dload rfl ?_; (first | refine d_ld 0 hF hS J J J J J J J J ?_ | refine d_ld 2 hF hS J J J J J J J J ?_); clear hF; intro a hF) | (refine d_ix hF J J J J J J J J ?_; clear hF; intro a hF)) | (refine c_dnilK hK ?_; clear hS hK) | refine c_seq (fun K hK => ?_) | refine wp_region_lit ?_ | (refine c_nilK hK ?_; clear hK) | refine c_nilB ?_ | refine c_true hF rfl ?_ | refine c_false hF rfl ?_ | (refine is_region ?_; refine is_region (id := 69) ?_; refine c_drawn [] [0, 1, 2, 3, 4, 5, 6, 7, 8] hH (by kernel_rfl) (by repeat (first | refine pan_then ?_ | refine pan_block ?_ | exact hpan)) ?_; clear hH; intro w hH; have hS := hH) | refine wp_block ?_ | refine wp_ret ?_ | refine e_bret ?_ | (refine e_thenK hK ?_; clear hK))
  exact hret _ _ (c_ret2 hF J J J (⟨_, hm, .inr (.inl ⟨_, _, _, _, _, _, h1, h2, rfl, hH⟩)⟩))
 ·refine ⟨_, rfl, ?_⟩; clear hF hH; intro a hF; have hH := hH1; clear hH1
  repeat (first | (refine is_list ?_; first | (refine s_pe hF J J J J ?_; clear hF; intro a hF) | (refine is_load ?_; (first | refine s_ld 0 hF hH J J J J J J J ?_ | refine s_ld 1 hF hH J J J J J J J ?_); clear hF; intro a hF) | (refine is_call ?_; (first | refine s_call hF hH J J J J J (condValidate_ok _ _ _ _ _ _ _ _ _ _ _ _ _ _ _ _ _ _ _ _ _ _ _ _ _ _ (hH.toOld (i := 0) rfl) (hH.toOld (i := 1) rfl)) ?_ | refine s_call hF hH J J J J J (unevalValidate_str _ _ _ _ _ _ _ _ _ _ _ _ _ _ _ _ _ _ _ _ _ _ _ _ _ _ (hH.toOld (i := 0) rfl) (hH.toOld (i := 1) rfl)) ?_); clear hF hH; intro a w x hx hF hH)) | (refine is_draw ?_; first | (refine d_pe hF J J J J J J ?_; clear hF; intro a hF) | (refine is_dload rfl ?_; (first | refine d_ld 0 hF hS J J J J J J J J ?_ | refine d_ld 2 hF hS J J J J J J J J ?_); clear hF; intro a hF) | (refine d_ix hF J J J J J J J J ?_; clear hF; intro a hF)) | (refine c_dnilK hK ?_; clear hS hK) | refine c_seq (fun K hK => ?_) | refine wp_region_lit ?_ | (refine c_nilK hK ?_; clear hK) | refine c_nilB ?_ | refine c_true hF rfl ?_ | refine c_false hF rfl ?_ | (refine is_region ?_; refine is_region (id := 69) ?_; refine c_drawn [] [0, 1, 2, 3, 4, 5, 6, 7, 8] hH (by kernel_rfl) (by repeat (first | refine pan_then ?_ | refine pan_block ?_ | exact hpan)) ?_; clear hH; intro w hH; have hS := hH) | refine wp_block ?_ | refine wp_ret ?_ | refine e_bret ?_ | (refine e_thenK hK ?_; clear hK))
  exact hret _ _ (c_ret2 hF J J J (⟨_, hm, .inr (.inr ⟨_, _, _, _, _, _, h1, h2, rfl, hH⟩)⟩))
theorem validate_arr (vb vj vn vc : Nat) (vd bs vl sc un : Nat) (t1 t2 t3 t4 t5 t6 : Bool) (m24 m25 m27 m28 m29 rq l1 l2 l3 l4 l5 l6 : Nat) (n1 n2 n3 n4 n5 n6 : Int) (hb : t3 = true → t4 = true → n3 ≤ n4) (w0 w : World) (R : Hm) (hH : Hp w0 w ((vd, .cells (List.toArray ((.iface 113 (.slice (some ⟨vb, vj, none⟩) vn vc)) :: .slice (some ⟨vl, 0, none⟩) 0 8 :: .pointer (some ⟨bs, 0, none⟩) :: .pointer (some ⟨sc, 0, none⟩) :: .pointer (some ⟨un, 0, none⟩) :: .slice none 0 0 :: .bool false :: [])) 180) :: (bs, .cells (schD t1 t2 t3 t4 t5 t6 m24 m25 m27 m28 m29 rq l1 l2 l3 l4 l5 l6).toArray 115) :: cmpH t1 t2 t3 t4 t5 t6 n1 n2 n3 n4 n5 n6 m24 m25 m27 m28 m29 l1 l2 l3 l4 l5 l6 ((sc, .cells #[.pointer (some ⟨bs, 0, none⟩), .string ⟨#[]⟩, .int .i64 0, .pointer none] 176) :: R))) :
  Calls Tryz.prog 97 #[.pointer (some ⟨vd, 0, none⟩)] w fun e w' => ((t3 = true → n3 ≤ ((vn : Nat) : Int)) ∧ (t4 = true → ((vn : Nat) : Int) ≤ n4) ∧ e = .returned (.tuple #[.pointer (some ⟨un, 0, none⟩), .nilIface]) ∧ Hp w0 w' ((vd, .cells (List.toArray ((.iface 113 (.slice (some ⟨vb, vj, none⟩) vn vc)) :: .slice (some ⟨vl, 0, none⟩) 0 8 :: .pointer (some ⟨bs, 0, none⟩) :: .pointer (some ⟨sc, 0, none⟩) :: .pointer (some ⟨un, 0, none⟩) :: .slice none 0 0 :: .bool false :: [])) 180) :: (bs, .cells (schD t1 t2 t3 t4 t5 t6 m24 m25 m27 m28 m29 rq l1 l2 l3 l4 l5 l6).toArray 115) :: cmpH t1 t2 t3 t4 t5 t6 n1 n2 n3 n4 n5 n6 m24 m25 m27 m28 m29 l1 l2 l3 l4 l5 l6 ((sc, .cells #[.pointer (some ⟨bs, 0, none⟩), .string ⟨#[]⟩, .int .i64 0, .pointer none] 176) :: R))) ∨
   (∃ (lb c b q kb : Nat) (Z : List Value), t3 = true ∧ ((vn : Nat) : Int) < n3 ∧ e = .returned (.tuple #[.pointer none, .iface 72 (.pointer (some ⟨b, 0, none⟩))]) ∧ Hp w0 w' ((vd, .cells (List.toArray ((.iface 113 (.slice (some ⟨vb, vj, none⟩) vn vc)) :: .slice (some ⟨vl, 0, none⟩) 0 8 :: .pointer (some ⟨bs, 0, none⟩) :: .pointer (some ⟨sc, 0, none⟩) :: .pointer (some ⟨un, 0, none⟩) :: .slice (some ⟨lb, 0, none⟩) 1 c :: .bool false :: [])) 180) :: (bs, .cells (schD t1 t2 t3 t4 t5 t6 m24 m25 m27 m28 m29 rq l1 l2 l3 l4 l5 l6).toArray 115) :: (lb, .cells (.pointer (some ⟨b, 0, none⟩) :: Z).toArray 72) :: (b, .cells #[.string ⟨#[49]⟩, .slice (some ⟨q, 0, none⟩) 0 0, .iface 296 (.pointer (some ⟨kb, 0, none⟩)), .slice none 0 0] 125) :: (kb, .cells #[.int .i64 (vn : Nat), .int .i64 n3] 298) :: cmpH t1 t2 t3 t4 t5 t6 n1 n2 n3 n4 n5 n6 m24 m25 m27 m28 m29 l1 l2 l3 l4 l5 l6 ((sc, .cells #[.pointer (some ⟨bs, 0, none⟩), .string ⟨#[]⟩, .int .i64 0, .pointer none] 176) :: R))) ∨
   (∃ (lb c b q kb : Nat) (Z : List Value), t4 = true ∧ n4 < ((vn : Nat) : Int) ∧ e = .returned (.tuple #[.pointer none, .iface 72 (.pointer (some ⟨b, 0, none⟩))]) ∧ Hp w0 w' ((vd, .cells (List.toArray ((.iface 113 (.slice (some ⟨vb, vj, none⟩) vn vc)) :: .slice (some ⟨vl, 0, none⟩) 0 8 :: .pointer (some ⟨bs, 0, none⟩) :: .pointer (some ⟨sc, 0, none⟩) :: .pointer (some ⟨un, 0, none⟩) :: .slice (some ⟨lb, 0, none⟩) 1 c :: .bool false :: [])) 180) :: (bs, .cells (schD t1 t2 t3 t4 t5 t6 m24 m25 m27 m28 m29 rq l1 l2 l3 l4 l5 l6).toArray 115) :: (lb, .cells (.pointer (some ⟨b, 0, none⟩) :: Z).toArray 72) :: (b, .cells #[.string ⟨#[49]⟩, .slice (some ⟨q, 0, none⟩) 0 0, .iface 299 (.pointer (some ⟨kb, 0, none⟩)), .slice none 0 0] 125) :: (kb, .cells #[.int .i64 (vn : Nat), .int .i64 n4] 300) :: cmpH t1 t2 t3 t4 t5 t6 n1 n2 n3 n4 n5 n6 m24 m25 m27 m28 m29 l1 l2 l3 l4 l5 l6 ((sc, .cells #[.pointer (some ⟨bs, 0, none⟩), .string ⟨#[]⟩, .int .i64 0, .pointer none] 176) :: R))) := by
 refine c_enter (n := 353) (L := [(0, .pointer (some ⟨vd, 0, none⟩))]) Tryz.func97 J J J J ?_
 intro a hF
 refine c_open (fun Q hpan hret hnorm => ?_)
 repeat (first | (refine is_list ?_; first | ((first | refine s_pe hF J J J J ?_ | refine x_off hF J J J ?_); clear hF; intro a hF) | (refine is_load ?_; (first | refine s_ld 0 hF hH J J J J J J J ?_ | refine s_ld 1 hF hH J J J J J J J ?_); clear hF; intro a hF) | (refine is_call ?_; (first | refine s_call hF hH J J J J J (checkCycle_ok _ _ _ _ _ (hH.toOld (i := 13) rfl)) ?_ | refine s_call hF hH J J J J J (typeOf_arr _ _ _ _) ?_); clear hF hH; intro a w x hx hF hH)) | refine c_seq (fun K hK => ?_) | refine wp_region_lit ?_ | (refine c_nilK hK ?_; clear hK) | refine c_true hF rfl ?_ | refine c_false hF rfl ?_ | refine wp_block ?_ | refine wp_skip ?_ | (refine e_thenK hK ?_; clear hK))
 refine s_callM hF J J J J J (arrValidate_ok vb vj vn vc vd bs vl sc un _ _ _ _ _ _ _ _ _ _ _ _ _ _ _ _ _ _ _ _ _ _ _ _ hb w0 w _ hH) ?_
 rintro e w ⟨rfl, ⟨h1, h2, hH1⟩ | ⟨lb, c, b, q, kb, Z, h1, h2, hH1⟩ | ⟨lb, c, b, q, kb, Z, h1, h2, hH1⟩⟩
 ·refine ⟨_, rfl, ?_⟩; clear hF hH; intro a hF; have hH := hH1; clear hH1
  repeat (first | (refine is_list ?_; first | ((first | refine s_pe hF J J J J ?_ | refine x_off hF J J J ?_); clear hF; intro a hF) | (refine is_load ?_; (first | refine s_ld 0 hF hH J J J J J J J ?_ | refine s_ld 1 hF hH J J J J J J J ?_); clear hF; intro a hF) | (refine is_call ?_; (first | refine s_call hF hH J J J J J (condValidate_ok _ _ _ _ _ _ _ _ _ _ _ _ _ _ _ _ _ _ _ _ _ _ _ _ _ _ (hH.toOld (i := 0) rfl) (hH.toOld (i := 1) rfl)) ?_ | refine s_call hF hH J J J J J (unevalValidate_arr _ _ _ _ _ _ _ _ _ _ _ _ _ _ _ _ _ _ _ _ _ _ _ _ _ _ _ _ (hH.toOld (i := 0) rfl) (hH.toOld (i := 1) rfl)) ?_); clear hF hH; intro a w x hx hF hH)) | refine c_seq (fun K hK => ?_) | refine wp_region_lit ?_ | (refine c_nilK hK ?_; clear hK) | refine c_nilB ?_ | refine c_true hF rfl ?_ | refine wp_block ?_ | refine wp_ret ?_ | refine e_bret ?_ | (refine e_thenK hK ?_; clear hK))
  exact hret _ _ (c_ret2 hF J J J (.inl ⟨h1, h2, rfl, hH⟩))
 ·refine ⟨_, rfl, ?_⟩; clear hF hH; intro a hF; have hH := hH1; clear hH1
  repeat (first | (refine is_list ?_; first | (refine s_pe hF J J J J ?_; clear hF; intro a hF) | (refine is_load ?_; (first | refine s_ld 0 hF hH J J J J J J J ?_ | refine s_ld 1 hF hH J J J J J J J ?_); clear hF; intro a hF) | (refine is_call ?_; (first | refine s_call hF hH J J J J J (condValidate_ok _ _ _ _ _ _ _ _ _ _ _ _ _ _ _ _ _ _ _ _ _ _ _ _ _ _ (hH.toOld (i := 0) rfl) (hH.toOld (i := 1) rfl)) ?_ | refine s_call hF hH J J J J J (unevalValidate_arr _ _ _ _ _ _ _ _ _ _ _ _ _ _ _ _ _ _ _ _ _ _ _ _ _ _ _ _ (hH.toOld (i := 0) rfl) (hH.toOld (i := 1) rfl)) ?_); clear hF hH; intro a w x hx hF hH)) | (refine is_draw ?_; first | (refine d_pe hF J J J J J J ?_; clear hF; intro a hF) | (refine is_dload rfl ?_; (first | refine d_ld 0 hF hS J J J J J J J J ?_ | refine d_ld 2 hF hS J J J J J J J J ?_); clear hF; intro a hF) | (refine d_ix hF J J J J J J J J ?_; clear hF; intro a hF)) | (refine c_dnilK hK ?_; clear hS hK) | refine c_seq (fun K hK => ?_) | refine wp_region_lit ?_ | (refine c_nilK hK ?_; clear hK) | refine c_nilB ?_ | refine c_true hF rfl ?_ | refine c_false hF rfl ?_ | (refine is_region ?_; refine is_region (id := 69) ?_; refine c_drawn [] [0, 1, 2, 3, 4, 5, 6, 7, 8] hH (by kernel_rfl) (by repeat (first | refine pan_then ?_ | refine pan_block ?_ | exact hpan)) ?_; clear hH; intro w hH; have hS := hH) | refine wp_block ?_ | refine wp_ret ?_ | refine e_bret ?_ | (refine e_thenK hK ?_; clear hK))
  exact hret _ _ (c_ret2 hF J J J (.inr (.inl ⟨_, _, _, _, _, _, h1, h2, rfl, hH⟩)))
 ·refine ⟨_, rfl, ?_⟩; clear hF hH; intro a hF; have hH := hH1; clear hH1
  repeat (first | (refine is_list ?_; first | (refine s_pe hF J J J J ?_; clear hF; intro a hF) | (refine is_load ?_; (first | refine s_ld 0 hF hH J J J J J J J ?_ | refine s_ld 1 hF hH J J J J J J J ?_); clear hF; intro a hF) | (refine is_call ?_; (first | refine s_call hF hH J J J J J (condValidate_ok _ _ _ _ _ _ _ _ _ _ _ _ _ _ _ _ _ _ _ _ _ _ _ _ _ _ (hH.toOld (i := 0) rfl) (hH.toOld (i := 1) rfl)) ?_ | refine s_call hF hH J J J J J (unevalValidate_arr _ _ _ _ _ _ _ _ _ _ _ _ _ _ _ _ _ _ _ _ _ _ _ _ _ _ _ _ (hH.toOld (i := 0) rfl) (hH.toOld (i := 1) rfl)) ?_); clear hF hH; intro a w x hx hF hH)) | (refine is_draw ?_; first | (refine d_pe hF J J J J J J ?_; clear hF; intro a hF) | (refine is_dload rfl ?_; (first | refine d_ld 0 hF hS J J J J J J J J ?_ | refine d_ld 2 hF hS J J J J J J J J ?_); clear hF; intro a hF) | (refine d_ix hF J J J J J J J J ?_; clear hF; intro a hF)) | (refine c_dnilK hK ?_; clear hS hK) | refine c_seq (fun K hK => ?_) | refine wp_region_lit ?_ | (refine c_nilK hK ?_; clear hK) | refine c_nilB ?_ | refine c_true hF rfl ?_ | refine c_false hF rfl ?_ | (refine is_region ?_; refine is_region (id := 69) ?_; refine c_drawn [] [0, 1, 2, 3, 4, 5, 6, 7, 8] hH (by kernel_rfl) (by repeat (first | refine pan_then ?_ | refine pan_block ?_ | exact hpan)) ?_; clear hH; intro w hH; have hS := hH) | refine wp_block ?_ | refine wp_ret ?_ | refine e_bret ?_ | (refine e_thenK hK ?_; clear hK))
  exact hret _ _ (c_ret2 hF J J J (.inr (.inr ⟨_, _, _, _, _, _, h1, h2, rfl, hH⟩)))
theorem validate_obj (vm : Nat) (clock : Nat) (es : Array MapEntry) (hes : ∀ x ∈ es.toList, x.born < clock) (vd bs vl sc un : Nat) (t1 t2 t3 t4 t5 t6 : Bool) (m24 m25 m27 m28 m29 rq l1 l2 l3 l4 l5 l6 : Nat) (n1 n2 n3 n4 n5 n6 : Int) (hb : t5 = true → t6 = true → n5 ≤ n6) (w0 w : World) (R : Hm) (hH : Hp w0 w ((vd, .cells (List.toArray ((.iface 109 (.map (some vm))) :: .slice (some ⟨vl, 0, none⟩) 0 8 :: .pointer (some ⟨bs, 0, none⟩) :: .pointer (some ⟨sc, 0, none⟩) :: .pointer (some ⟨un, 0, none⟩) :: .slice none 0 0 :: .bool false :: [])) 180) :: (bs, .cells (schD t1 t2 t3 t4 t5 t6 m24 m25 m27 m28 m29 rq l1 l2 l3 l4 l5 l6).toArray 115) :: cmpH t1 t2 t3 t4 t5 t6 n1 n2 n3 n4 n5 n6 m24 m25 m27 m28 m29 l1 l2 l3 l4 l5 l6 ((vm, .map es clock) :: (sc, .cells #[.pointer (some ⟨bs, 0, none⟩), .string ⟨#[]⟩, .int .i64 0, .pointer none] 176) :: R))) :
  Calls Tryz.prog 97 #[.pointer (some ⟨vd, 0, none⟩)] w fun e w' => ((t5 = true → n5 ≤ ((es.size : Nat) : Int)) ∧ (t6 = true → ((es.size : Nat) : Int) ≤ n6) ∧ e = .returned (.tuple #[.pointer (some ⟨un, 0, none⟩), .nilIface]) ∧ Hp w0 w' ((vd, .cells (List.toArray ((.iface 109 (.map (some vm))) :: .slice (some ⟨vl, 0, none⟩) 0 8 :: .pointer (some ⟨bs, 0, none⟩) :: .pointer (some ⟨sc, 0, none⟩) :: .pointer (some ⟨un, 0, none⟩) :: .slice none 0 0 :: .bool false :: [])) 180) :: (bs, .cells (schD t1 t2 t3 t4 t5 t6 m24 m25 m27 m28 m29 rq l1 l2 l3 l4 l5 l6).toArray 115) :: cmpH t1 t2 t3 t4 t5 t6 n1 n2 n3 n4 n5 n6 m24 m25 m27 m28 m29 l1 l2 l3 l4 l5 l6 ((vm, .map es clock) :: (sc, .cells #[.pointer (some ⟨bs, 0, none⟩), .string ⟨#[]⟩, .int .i64 0, .pointer none] 176) :: R))) ∨
   (∃ (lb c b q kb : Nat) (Z : List Value), t5 = true ∧ ((es.size : Nat) : Int) < n5 ∧ e = .returned (.tuple #[.pointer none, .iface 72 (.pointer (some ⟨b, 0, none⟩))]) ∧ Hp w0 w' ((vd, .cells (List.toArray ((.iface 109 (.map (some vm))) :: .slice (some ⟨vl, 0, none⟩) 0 8 :: .pointer (some ⟨bs, 0, none⟩) :: .pointer (some ⟨sc, 0, none⟩) :: .pointer (some ⟨un, 0, none⟩) :: .slice (some ⟨lb, 0, none⟩) 1 c :: .bool false :: [])) 180) :: (bs, .cells (schD t1 t2 t3 t4 t5 t6 m24 m25 m27 m28 m29 rq l1 l2 l3 l4 l5 l6).toArray 115) :: (lb, .cells (.pointer (some ⟨b, 0, none⟩) :: Z).toArray 72) :: (b, .cells #[.string ⟨#[49]⟩, .slice (some ⟨q, 0, none⟩) 0 0, .iface 305 (.pointer (some ⟨kb, 0, none⟩)), .slice none 0 0] 125) :: (kb, .cells #[.int .i64 (es.size : Nat), .int .i64 n5] 306) :: cmpH t1 t2 t3 t4 t5 t6 n1 n2 n3 n4 n5 n6 m24 m25 m27 m28 m29 l1 l2 l3 l4 l5 l6 ((vm, .map es clock) :: (sc, .cells #[.pointer (some ⟨bs, 0, none⟩), .string ⟨#[]⟩, .int .i64 0, .pointer none] 176) :: R))) ∨
   (∃ (lb c b q kb : Nat) (Z : List Value), t6 = true ∧ n6 < ((es.size : Nat) : Int) ∧ e = .returned (.tuple #[.pointer none, .iface 72 (.pointer (some ⟨b, 0, none⟩))]) ∧ Hp w0 w' ((vd, .cells (List.toArray ((.iface 109 (.map (some vm))) :: .slice (some ⟨vl, 0, none⟩) 0 8 :: .pointer (some ⟨bs, 0, none⟩) :: .pointer (some ⟨sc, 0, none⟩) :: .pointer (some ⟨un, 0, none⟩) :: .slice (some ⟨lb, 0, none⟩) 1 c :: .bool false :: [])) 180) :: (bs, .cells (schD t1 t2 t3 t4 t5 t6 m24 m25 m27 m28 m29 rq l1 l2 l3 l4 l5 l6).toArray 115) :: (lb, .cells (.pointer (some ⟨b, 0, none⟩) :: Z).toArray 72) :: (b, .cells #[.string ⟨#[49]⟩, .slice (some ⟨q, 0, none⟩) 0 0, .iface 307 (.pointer (some ⟨kb, 0, none⟩)), .slice none 0 0] 125) :: (kb, .cells #[.int .i64 (es.size : Nat), .int .i64 n6] 308) :: cmpH t1 t2 t3 t4 t5 t6 n1 n2 n3 n4 n5 n6 m24 m25 m27 m28 m29 l1 l2 l3 l4 l5 l6 ((vm, .map es clock) :: (sc, .cells #[.pointer (some ⟨bs, 0, none⟩), .string ⟨#[]⟩, .int .i64 0, .pointer none] 176) :: R))) := by
 refine c_enter (n := 353) (L := [(0, .pointer (some ⟨vd, 0, none⟩))]) Tryz.func97 J J J J ?_
 intro a hF
 refine c_open (fun Q hpan hret hnorm => ?_)
 repeat (first | (refine is_list ?_; first | ((first | refine s_pe hF J J J J ?_ | refine x_off hF J J J ?_); clear hF; intro a hF) | (refine is_load ?_; (first | refine s_ld 0 hF hH J J J J J J J ?_ | refine s_ld 1 hF hH J J J J J J J ?_); clear hF; intro a hF) | (refine is_call ?_; (first | refine s_call hF hH J J J J J (checkCycle_ok _ _ _ _ _ (hH.toOld (i := 14) rfl)) ?_ | refine s_call hF hH J J J J J (typeOf_obj _ _) ?_); clear hF hH; intro a w x hx hF hH)) | refine c_seq (fun K hK => ?_) | refine wp_region_lit ?_ | (refine c_nilK hK ?_; clear hK) | refine c_true hF rfl ?_ | refine c_false hF rfl ?_ | refine wp_block ?_ | refine wp_skip ?_ | (refine e_thenK hK ?_; clear hK))
 refine s_callM hF J J J J J (objValidate_ok vd bs vl sc un _ _ _ _ _ _ _ _ _ _ _ _ _ _ _ _ _ _ _ _ _ _ _ _ vm clock es hes hb w0 w _ hH) ?_
 rintro e w ⟨rfl, ⟨h1, h2, hH1⟩ | ⟨lb, c, b, q, kb, Z, h1, h2, hH1⟩ | ⟨lb, c, b, q, kb, Z, h1, h2, hH1⟩⟩
 ·refine ⟨_, rfl, ?_⟩; clear hF hH; intro a hF; have hH := hH1; clear hH1
  repeat (first | (refine is_list ?_; first | ((first | refine s_pe hF J J J J ?_ | refine x_off hF J J J ?_); clear hF; intro a hF) | (refine is_load ?_; (first | refine s_ld 0 hF hH J J J J J J J ?_ | refine s_ld 1 hF hH J J J J J J J ?_); clear hF; intro a hF) | (refine is_call ?_; (first | refine s_call hF hH J J J J J (condValidate_ok _ _ _ _ _ _ _ _ _ _ _ _ _ _ _ _ _ _ _ _ _ _ _ _ _ _ (hH.toOld (i := 0) rfl) (hH.toOld (i := 1) rfl)) ?_ | refine s_call hF hH J J J J J (unevalValidate_obj _ _ _ _ _ _ _ _ _ _ _ _ _ _ _ _ _ _ _ _ _ _ _ _ _ _ (hH.toOld (i := 0) rfl) (hH.toOld (i := 1) rfl)) ?_); clear hF hH; intro a w x hx hF hH)) | refine c_seq (fun K hK => ?_) | refine wp_region_lit ?_ | (refine c_nilK hK ?_; clear hK) | refine c_nilB ?_ | refine c_true hF rfl ?_ | refine wp_block ?_ | refine wp_ret ?_ | refine e_bret ?_ | (refine e_thenK hK ?_; clear hK))
  exact hret _ _ (c_ret2 hF J J J (.inl ⟨h1, h2, rfl, hH⟩))
 ·refine ⟨_, rfl, ?_⟩; clear hF hH; intro a hF; have hH := hH1; clear hH1
  repeat (first | (refine is_list ?_; first | (refine s_pe hF J J J J ?_; clear hF; intro a hF) | (refine is_load ?_; (first | refine s_ld 0 hF hH J J J J J J J ?_ | refine s_ld 1 hF hH J J J J J J J ?_); clear hF; intro a hF) | (refine is_call ?_; (first | refine s_call hF hH J J J J J (condValidate_ok _ _ _ _ _ _ _ _ _ _ _ _ _ _ _ _ _ _ _ _ _ _ _ _ _ _ (hH.toOld (i := 0) rfl) (hH.toOld (i := 1) rfl)) ?_ | refine s_call hF hH J J J J J (unevalValidate_obj _ _ _ _ _ _ _ _ _ _ _ _ _ _ _ _ _ _ _ _ _ _ _ _ _ _ (hH.toOld (i := 0) rfl) (hH.toOld (i := 1) rfl)) ?_); clear hF hH; intro a w x hx hF hH)) | (refine is_draw ?_; first | (refine d_pe hF J J J J J J ?_; clear hF; intro a hF) | (refine is_dload rfl ?_; (first | refine d_ld 0 hF hS J J J J J J J J ?_ | refine d_ld 2 hF hS J J J J J J J J ?_); clear hF; intro a hF) | (refine d_ix hF J J J J J J J J ?_; clear hF; intro a hF)) | (refine c_dnilK hK ?_; clear hS hK) | refine c_seq (fun K hK => ?_) | refine wp_region_lit ?_ | (refine c_nilK hK ?_; clear hK) | refine c_nilB ?_ | refine c_true hF rfl ?_ | refine c_false hF rfl ?_ | (refine is_region ?_; refine is_region (id := 69) ?_; refine c_drawn [] [0, 1, 2, 3, 4, 5, 6, 7, 8] hH (by kernel_rfl) (by repeat (first | refine pan_then ?_ | refine pan_block ?_ | exact hpan)) ?_; clear hH; intro w hH; have hS := hH) | refine wp_block ?_ | refine wp_ret ?_ | refine e_bret ?_ | (refine e_thenK hK ?_; clear hK))
  exact hret _ _ (c_ret2 hF J J J (.inr (.inl ⟨_, _, _, _, _, _, h1, h2, rfl, hH⟩)))
 ·refine ⟨_, rfl, ?_⟩; clear hF hH; intro a hF; have hH := hH1; clear hH1
  repeat (first | (refine is_list ?_; first | (refine s_pe hF J J J J ?_; clear hF; intro a hF) | (refine is_load ?_; (first | refine s_ld 0 hF hH J J J J J J J ?_ | refine s_ld 1 hF hH J J J J J J J ?_); clear hF; intro a hF) | (refine is_call ?_; (first | refine s_call hF hH J J J J J (condValidate_ok _ _ _ _ _ _ _ _ _ _ _ _ _ _ _ _ _ _ _ _ _ _ _ _ _ _ (hH.toOld (i := 0) rfl) (hH.toOld (i := 1) rfl)) ?_ | refine s_call hF hH J J J J J (unevalValidate_obj _ _ _ _ _ _ _ _ _ _ _ _ _ _ _ _ _ _ _ _ _ _ _ _ _ _ (hH.toOld (i := 0) rfl) (hH.toOld (i := 1) rfl)) ?_); clear hF hH; intro a w x hx hF hH)) | (refine is_draw ?_; first | (refine d_pe hF J J J J J J ?_; clear hF; intro a hF) | (refine is_dload rfl ?_; (first | refine d_ld 0 hF hS J J J J J J J J ?_ | refine d_ld 2 hF hS J J J J J J J J ?_); clear hF; intro a hF) | (refine d_ix hF J J J J J J J J ?_; clear hF; intro a hF)) | (refine c_dnilK hK ?_; clear hS hK) | refine c_seq (fun K hK => ?_) | refine wp_region_lit ?_ | (refine c_nilK hK ?_; clear hK) | refine c_nilB ?_ | refine c_true hF rfl ?_ | refine c_false hF rfl ?_ | (refine is_region ?_; refine is_region (id := 69) ?_; refine c_drawn [] [0, 1, 2, 3, 4, 5, 6, 7, 8] hH (by kernel_rfl) (by repeat (first | refine pan_then ?_ | refine pan_block ?_ | exact hpan)) ?_; clear hH; intro w hH; have hS := hH) | refine wp_block ?_ | refine wp_ret ?_ | refine e_bret ?_ | (refine e_thenK hK ?_; clear hK))
  exact hret _ _ (c_ret2 hF J J J (.inr (.inr ⟨_, _, _, _, _, _, h1, h2, rfl, hH⟩)))
end Go.Proofs.YtlkikblohnnlcaaGreatDoor.Y
end
section
namespace Go.Proofs.YtlkikblohnnlcaaGreatDoor.Y
open Go Go.RowKit X
set_option linter.unusedVariables false
set_option maxRecDepth 4000
attribute [local irreducible] wpList dL Code.wp bodyPost Ct Calls Exit.then Exit.inBlock Code.rounds
set_option maxHeartbeats 0
theorem outer_nil (bs : Nat) (t1 t2 t3 t4 t5 t6 : Bool) (m24 m25 m27 m28 m29 rq l1 l2 l3 l4 l5 l6 : Nat) (n1 n2 n3 n4 n5 n6 : Int) (w0 w : World) (R : Hm) (hH : Hp w0 w ((bs, .cells (schD t1 t2 t3 t4 t5 t6 m24 m25 m27 m28 m29 rq l1 l2 l3 l4 l5 l6).toArray 115) :: cmpH t1 t2 t3 t4 t5 t6 n1 n2 n3 n4 n5 n6 m24 m25 m27 m28 m29 l1 l2 l3 l4 l5 l6 R)) :
  Calls Tryz.prog 51 #[.pointer (some ⟨bs, 0, none⟩), (.nilIface)] w fun e w' => e = .returned .nilIface ∧ Hp w0 w' R := by
 refine c_enter (n := 60) (L := [(1, (.nilIface)), (0, .pointer (some ⟨bs, 0, none⟩))]) Tryz.func51 J J J J ?_
 intro a hF
 refine c_open (fun Q hpan hret hnorm => ?_)
 repeat (first | (refine is_list ?_; refine s_pe hF J J J J ?_; clear hF; intro a hF) | refine c_seq (fun K hK => ?_) | refine wp_region_lit ?_ | (refine c_nilK hK ?_; clear hK))
 refine is_region (id := 1) ?_
 refine c_planQ [11] [0, 2, 3, 4, 6, 7] [1, 5, 8, 10] [1, 5, 8] 9 [11] hH (by kernel_rfl) (by repeat (first | refine pan_then ?_ | refine pan_block ?_ | exact hpan)) ?_
 clear hH; intro w hH; have hS := hH
 repeat (refine is_draw ?_; refine d_pe hF J J J J J J ?_; clear hF; intro a hF)
 refine d_seg ?_
 refine gq4 hF hH hS J J J J (mk_mk J J J J J J J J J J J J) (mk_bx J J J J J) (mk_ct J J J J J J (fun w hS => uneval_nil _ _ _ _ _ _ _ _ _ _ _ _ _ _ _ _ _ _ _ _ _ _ _ _ _ _ _ _ _ _ _ _ _ _ _ _ _ _ _ _ _ _ _ _ _ _ _ _ _ _ _ (hS.toOld (i := 0) rfl))) (mk_al J J J J J) ?_ ?_
 ·rintro _ _ _ _ _ _ ⟨vl, rfl, rfl⟩ ⟨sc, rfl, rfl⟩ ⟨un, _, rfl, rfl⟩
  exact ⟨_, rfl, rfl⟩
 clear hF hH hS
 rintro a w _ _ _ _ _ _ _ _ v0 ⟨vl, rfl, rfl⟩ ⟨sc, rfl, rfl⟩ ⟨un, _, rfl, rfl⟩ ⟨vd, rfl, rfl⟩ hF hv hH hS
 obtain rfl := pe_val hF rfl hv w
 clear hv
 repeat (first | (refine is_draw ?_; refine d_sta 3 hF hH J J J J J J J J J J J J ?_; clear hH; intro w hH) | (refine c_dnilK hK ?_; clear hS hK) | refine c_seq (fun K hK => ?_) | refine wp_region_lit ?_)
 refine s_callM hF J J J J J (validate_nil vd bs vl sc un _ _ _ _ _ _ _ _ _ _ _ _ _ _ _ _ _ _ _ _ _ _ _ _ w0 w _ (((((((((((((((hH).front 1 rfl).front 15 rfl).front 15 rfl).front 15 rfl).front 15 rfl).front 15 rfl).front 15 rfl).front 15 rfl).front 15 rfl).front 15 rfl).front 15 rfl).front 15 rfl).front 15 rfl).front 15 rfl)) ?_
 rintro e w ⟨rfl, hH1⟩
 refine ⟨_, rfl, ?_⟩; clear hF hH; intro a hF; have hH := hH1; clear hH1
 repeat (first | (refine is_list ?_; refine s_pe hF J J J J ?_; clear hF; intro a hF) | refine c_seq (fun K hK => ?_) | refine wp_region_lit ?_ | (refine c_nilK hK ?_; clear hK) | refine c_false hF rfl ?_ | refine wp_ret ?_ | refine wp_skip ?_ | (refine e_thenK hK ?_; clear hK))
 exact hret _ _ (c_ret1 hF J J ⟨rfl, Hp.mid hH 0 16⟩)
theorem outer_bool (vb : Bool) (bs : Nat) (t1 t2 t3 t4 t5 t6 : Bool) (m24 m25 m27 m28 m29 rq l1 l2 l3 l4 l5 l6 : Nat) (n1 n2 n3 n4 n5 n6 : Int) (w0 w : World) (R : Hm) (hH : Hp w0 w ((bs, .cells (schD t1 t2 t3 t4 t5 t6 m24 m25 m27 m28 m29 rq l1 l2 l3 l4 l5 l6).toArray 115) :: cmpH t1 t2 t3 t4 t5 t6 n1 n2 n3 n4 n5 n6 m24 m25 m27 m28 m29 l1 l2 l3 l4 l5 l6 R)) :
  Calls Tryz.prog 51 #[.pointer (some ⟨bs, 0, none⟩), (.iface 4 (.bool vb))] w fun e w' => e = .returned .nilIface ∧ Hp w0 w' R := by
 refine c_enter (n := 60) (L := [(1, (.iface 4 (.bool vb))), (0, .pointer (some ⟨bs, 0, none⟩))]) Tryz.func51 J J J J ?_
 intro a hF
 refine c_open (fun Q hpan hret hnorm => ?_)
 repeat (first | (refine is_list ?_; refine s_pe hF J J J J ?_; clear hF; intro a hF) | refine c_seq (fun K hK => ?_) | refine wp_region_lit ?_ | (refine c_nilK hK ?_; clear hK))
 refine is_region (id := 1) ?_
 refine c_planQ [11] [0, 2, 3, 4, 6, 7] [1, 5, 8, 10] [1, 5, 8] 9 [11] hH (by kernel_rfl) (by repeat (first | refine pan_then ?_ | refine pan_block ?_ | exact hpan)) ?_
 clear hH; intro w hH; have hS := hH
 repeat (refine is_draw ?_; refine d_pe hF J J J J J J ?_; clear hF; intro a hF)
 refine d_seg ?_
 refine gq4 hF hH hS J J J J (mk_mk J J J J J J J J J J J J) (mk_bx J J J J J) (mk_ct J J J J J J (fun w hS => uneval_bool _ _ _ _ _ _ _ _ _ _ _ _ _ _ _ _ _ _ _ _ _ _ _ _ _ _ _ _ _ _ _ _ _ _ _ _ _ _ _ _ _ _ _ _ _ _ _ _ _ _ _ _ (hS.toOld (i := 0) rfl))) (mk_al J J J J J) ?_ ?_
 ·rintro _ _ _ _ _ _ ⟨vl, rfl, rfl⟩ ⟨sc, rfl, rfl⟩ ⟨un, _, rfl, rfl⟩
  exact ⟨_, rfl, rfl⟩
 clear hF hH hS
 rintro a w _ _ _ _ _ _ _ _ v0 ⟨vl, rfl, rfl⟩ ⟨sc, rfl, rfl⟩ ⟨un, _, rfl, rfl⟩ ⟨vd, rfl, rfl⟩ hF hv hH hS
 obtain rfl := pe_val hF rfl hv w
 clear hv
 repeat (first | (refine is_draw ?_; refine d_sta 3 hF hH J J J J J J J J J J J J ?_; clear hH; intro w hH) | (refine c_dnilK hK ?_; clear hS hK) | refine c_seq (fun K hK => ?_) | refine wp_region_lit ?_)
 refine s_callM hF J J J J J (validate_bool vb vd bs vl sc un _ _ _ _ _ _ _ _ _ _ _ _ _ _ _ _ _ _ _ _ _ _ _ _ w0 w _ (((((((((((((((hH).front 1 rfl).front 15 rfl).front 15 rfl).front 15 rfl).front 15 rfl).front 15 rfl).front 15 rfl).front 15 rfl).front 15 rfl).front 15 rfl).front 15 rfl).front 15 rfl).front 15 rfl).front 15 rfl)) ?_
 rintro e w ⟨rfl, hH1⟩
 refine ⟨_, rfl, ?_⟩; clear hF hH; intro a hF; have hH := hH1; clear hH1
 repeat (first | (refine is_list ?_; refine s_pe hF J J J J ?_; clear hF; intro a hF) | refine c_seq (fun K hK => ?_) | refine wp_region_lit ?_ | (refine c_nilK hK ?_; clear hK) | refine c_false hF rfl ?_ | refine wp_ret ?_ | refine wp_skip ?_ | (refine e_thenK hK ?_; clear hK))
 exact hret _ _ (c_ret1 hF J J ⟨rfl, Hp.mid hH 0 16⟩)
theorem outer_str (vs : ByteArray) (hs : vs.size < 4611686018427387904) (bs : Nat) (t1 t2 t3 t4 t5 t6 : Bool) (m24 m25 m27 m28 m29 rq l1 l2 l3 l4 l5 l6 : Nat) (n1 n2 n3 n4 n5 n6 : Int) (hb : t1 = true → t2 = true → n1 ≤ n2) (w0 w : World) (R : Hm) (hH : Hp w0 w ((bs, .cells (schD t1 t2 t3 t4 t5 t6 m24 m25 m27 m28 m29 rq l1 l2 l3 l4 l5 l6).toArray 115) :: cmpH t1 t2 t3 t4 t5 t6 n1 n2 n3 n4 n5 n6 m24 m25 m27 m28 m29 l1 l2 l3 l4 l5 l6 R)) :
  Calls Tryz.prog 51 #[.pointer (some ⟨bs, 0, none⟩), (.iface 9 (.string vs))] w fun e w' => ∃ m : Nat, (U.okF vs vs.size 0 → m = U.nc vs vs.size 0) ∧ (((t1 = true → n1 ≤ (m : Int)) ∧ (t2 = true → (m : Int) ≤ n2) ∧ e = .returned .nilIface ∧ Hp w0 w' R) ∨
   (∃ (ob k2 cb b q kb : Nat), t1 = true ∧ (m : Int) < n1 ∧ e = .returned (.iface 72 (.pointer (some ⟨ob, 0, none⟩))) ∧ Hp w0 w' ((ob, .cells #[.string ⟨#[49]⟩, .slice none 0 0, .iface 185 (.pointer (some ⟨k2, 0, none⟩)), .slice (some ⟨cb, 0, none⟩) 1 1] 125) :: (k2, .cells #[.string ⟨#[49]⟩] 187) :: (cb, .cells #[.pointer (some ⟨b, 0, none⟩)] 72) :: (b, .cells #[.string ⟨#[49]⟩, .slice (some ⟨q, 0, none⟩) 0 0, .iface 301 (.pointer (some ⟨kb, 0, none⟩)), .slice none 0 0] 125) :: (kb, .cells #[.int .i64 m, .int .i64 n1] 302) :: R)) ∨
   (∃ (ob k2 cb b q kb : Nat), t2 = true ∧ n2 < (m : Int) ∧ e = .returned (.iface 72 (.pointer (some ⟨ob, 0, none⟩))) ∧ Hp w0 w' ((ob, .cells #[.string ⟨#[49]⟩, .slice none 0 0, .iface 185 (.pointer (some ⟨k2, 0, none⟩)), .slice (some ⟨cb, 0, none⟩) 1 1] 125) :: (k2, .cells #[.string ⟨#[49]⟩] 187) :: (cb, .cells #[.pointer (some ⟨b, 0, none⟩)] 72) :: (b, .cells #[.string ⟨#[49]⟩, .slice (some ⟨q, 0, none⟩) 0 0, .iface 303 (.pointer (some ⟨kb, 0, none⟩)), .slice none 0 0] 125) :: (kb, .cells #[.int .i64 m, .int .i64 n2] 304) :: R))) := by
 refine c_enter (n := 60) (L := [(1, (.iface 9 (.string vs))), (0, .pointer (some ⟨bs, 0, none⟩))]) Tryz.func51 J J J J ?_
 intro a hF
 refine c_open (fun Q hpan hret hnorm => ?_)
 repeat (first | (refine is_list ?_; refine s_pe hF J J J J ?_; clear hF; intro a hF) | refine c_seq (fun K hK => ?_) | refine wp_region_lit ?_ | (refine c_nilK hK ?_; clear hK))
 refine is_region (id := 1) ?_
 refine c_planQ [11] [0, 2, 3, 4, 6, 7] [1, 5, 8, 10] [1, 5, 8] 9 [11] hH (by kernel_rfl) (by repeat (first | refine pan_then ?_ | refine pan_block ?_ | exact hpan)) ?_
 clear hH; intro w hH; have hS := hH
 repeat (refine is_draw ?_; refine d_pe hF J J J J J J ?_; clear hF; intro a hF)
 refine d_seg ?_
 refine gq4 hF hH hS J J J J (mk_mk J J J J J J J J J J J J) (mk_bx J J J J J) (mk_ct J J J J J J (fun w hS => uneval_str _ _ _ _ _ _ _ _ _ _ _ _ _ _ _ _ _ _ _ _ _ _ _ _ _ _ _ _ _ _ _ _ _ _ _ _ _ _ _ _ _ _ _ _ _ _ _ _ _ _ _ _ (hS.toOld (i := 0) rfl))) (mk_al J J J J J) ?_ ?_
 ·rintro _ _ _ _ _ _ ⟨vl, rfl, rfl⟩ ⟨sc, rfl, rfl⟩ ⟨un, _, rfl, rfl⟩
  exact ⟨_, rfl, rfl⟩
 clear hF hH hS
 rintro a w _ _ _ _ _ _ _ _ v0 ⟨vl, rfl, rfl⟩ ⟨sc, rfl, rfl⟩ ⟨un, _, rfl, rfl⟩ ⟨vd, rfl, rfl⟩ hF hv hH hS
 obtain rfl := pe_val hF rfl hv w
 clear hv
 repeat (first | (refine is_draw ?_; refine d_sta 3 hF hH J J J J J J J J J J J J ?_; clear hH; intro w hH) | (refine c_dnilK hK ?_; clear hS hK) | refine c_seq (fun K hK => ?_) | refine wp_region_lit ?_)
 refine s_callM hF J J J J J (validate_str vs hs vd bs vl sc un _ _ _ _ _ _ _ _ _ _ _ _ _ _ _ _ _ _ _ _ _ _ _ _ hb w0 w _ (((((((((((((((hH).front 1 rfl).front 15 rfl).front 15 rfl).front 15 rfl).front 15 rfl).front 15 rfl).front 15 rfl).front 15 rfl).front 15 rfl).front 15 rfl).front 15 rfl).front 15 rfl).front 15 rfl).front 15 rfl)) ?_
 rintro e w ⟨m, hm, ⟨h1, h2, rfl, hH1⟩ | ⟨lb, c, b, q, kb, Z, h1, h2, rfl, hH1⟩ | ⟨lb, c, b, q, kb, Z, h1, h2, rfl, hH1⟩⟩
 ·refine ⟨_, rfl, ?_⟩; clear hF hH; intro a hF; have hH := hH1; clear hH1
  repeat (first | (refine is_list ?_; refine s_pe hF J J J J ?_; clear hF; intro a hF) | refine c_seq (fun K hK => ?_) | refine wp_region_lit ?_ | (refine c_nilK hK ?_; clear hK) | refine c_false hF rfl ?_ | refine wp_ret ?_ | refine wp_skip ?_ | (refine e_thenK hK ?_; clear hK))
  exact hret _ _ (c_ret1 hF J J (⟨_, hm, .inl ⟨h1, h2, rfl, (Hp.mid hH 0 16)⟩⟩))
 ·refine ⟨_, rfl, ?_⟩; clear hF hH; intro a hF; have hH := hH1; clear hH1
  repeat (first | (refine is_list ?_; first | (refine s_pe hF J J J J ?_; clear hF; intro a hF) | (refine is_load ?_; refine s_ld 3 hF hH J J J J J J J ?_; clear hF; intro a hF) | (refine s_bs hF hH J J J J J J J J J J ?_; clear hF hH; intro a b w hF hH)) | (refine is_draw ?_; first | (refine d_pe hF J J J J J J ?_; clear hF; intro a hF) | (refine is_dload rfl ?_; refine d_ld 2 hF hS J J J J J J J J ?_; clear hF; intro a hF) | (refine d_bx hF hH hS J J J J J ?_; clear hF hH hS; intro a b w hF hH hS)) | (refine c_dnilK hK ?_; clear hS hK) | refine c_seq (fun K hK => ?_) | refine wp_region_lit ?_ | (refine c_nilK hK ?_; clear hK) | refine c_true hF rfl ?_ | refine c_false hF rfl ?_ | (refine is_region ?_; refine is_region (id := 10) ?_; refine c_drawn [] [0, 1, 2, 3, 4, 5, 6, 7, 8, 11, 9, 10, 12, 13, 14, 15] hH (by kernel_rfl) (by repeat (first | refine pan_then ?_ | refine pan_block ?_ | exact hpan)) ?_; clear hH; intro w hH; have hS := hH) | refine wp_ret ?_ | (refine e_ret ?_; clear hK))
  exact hret _ _ (c_ret1 hF J J (⟨_, hm, .inr (.inl ⟨_, _, _, _, _, _, h1, h2, rfl, (Hp.mid ((((((hH).front 7 rfl).front 7 rfl).front 4 rfl).front 4 rfl).front 4 rfl) 5 17)⟩)⟩))
 ·refine ⟨_, rfl, ?_⟩; clear hF hH; intro a hF; have hH := hH1; clear hH1
  repeat (first | (refine is_list ?_; first | (refine s_pe hF J J J J ?_; clear hF; intro a hF) | (refine is_load ?_; refine s_ld 3 hF hH J J J J J J J ?_; clear hF; intro a hF) | (refine s_bs hF hH J J J J J J J J J J ?_; clear hF hH; intro a b w hF hH)) | (refine is_draw ?_; first | (refine d_pe hF J J J J J J ?_; clear hF; intro a hF) | (refine is_dload rfl ?_; refine d_ld 2 hF hS J J J J J J J J ?_; clear hF; intro a hF) | (refine d_bx hF hH hS J J J J J ?_; clear hF hH hS; intro a b w hF hH hS)) | (refine c_dnilK hK ?_; clear hS hK) | refine c_seq (fun K hK => ?_) | refine wp_region_lit ?_ | (refine c_nilK hK ?_; clear hK) | refine c_true hF rfl ?_ | refine c_false hF rfl ?_ | (refine is_region ?_; refine is_region (id := 10) ?_; refine c_drawn [] [0, 1, 2, 3, 4, 5, 6, 7, 8, 11, 9, 10, 12, 13, 14, 15] hH (by kernel_rfl) (by repeat (first | refine pan_then ?_ | refine pan_block ?_ | exact hpan)) ?_; clear hH; intro w hH; have hS := hH) | refine wp_ret ?_ | (refine e_ret ?_; clear hK))
  exact hret _ _ (c_ret1 hF J J (⟨_, hm, .inr (.inr ⟨_, _, _, _, _, _, h1, h2, rfl, (Hp.mid ((((((hH).front 7 rfl).front 7 rfl).front 4 rfl).front 4 rfl).front 4 rfl) 5 17)⟩)⟩))
theorem outer_arr (vb vj vn vc : Nat) (bs : Nat) (t1 t2 t3 t4 t5 t6 : Bool) (m24 m25 m27 m28 m29 rq l1 l2 l3 l4 l5 l6 : Nat) (n1 n2 n3 n4 n5 n6 : Int) (hb : t3 = true → t4 = true → n3 ≤ n4) (w0 w : World) (R : Hm) (hH : Hp w0 w ((bs, .cells (schD t1 t2 t3 t4 t5 t6 m24 m25 m27 m28 m29 rq l1 l2 l3 l4 l5 l6).toArray 115) :: cmpH t1 t2 t3 t4 t5 t6 n1 n2 n3 n4 n5 n6 m24 m25 m27 m28 m29 l1 l2 l3 l4 l5 l6 R)) :
  Calls Tryz.prog 51 #[.pointer (some ⟨bs, 0, none⟩), (.iface 113 (.slice (some ⟨vb, vj, none⟩) vn vc))] w fun e w' => ((t3 = true → n3 ≤ ((vn : Nat) : Int)) ∧ (t4 = true → ((vn : Nat) : Int) ≤ n4) ∧ e = .returned .nilIface ∧ Hp w0 w' R) ∨
   (∃ (ob k2 cb b q kb : Nat), t3 = true ∧ ((vn : Nat) : Int) < n3 ∧ e = .returned (.iface 72 (.pointer (some ⟨ob, 0, none⟩))) ∧ Hp w0 w' ((ob, .cells #[.string ⟨#[49]⟩, .slice none 0 0, .iface 185 (.pointer (some ⟨k2, 0, none⟩)), .slice (some ⟨cb, 0, none⟩) 1 1] 125) :: (k2, .cells #[.string ⟨#[49]⟩] 187) :: (cb, .cells #[.pointer (some ⟨b, 0, none⟩)] 72) :: (b, .cells #[.string ⟨#[49]⟩, .slice (some ⟨q, 0, none⟩) 0 0, .iface 296 (.pointer (some ⟨kb, 0, none⟩)), .slice none 0 0] 125) :: (kb, .cells #[.int .i64 (vn : Nat), .int .i64 n3] 298) :: R)) ∨
   (∃ (ob k2 cb b q kb : Nat), t4 = true ∧ n4 < ((vn : Nat) : Int) ∧ e = .returned (.iface 72 (.pointer (some ⟨ob, 0, none⟩))) ∧ Hp w0 w' ((ob, .cells #[.string ⟨#[49]⟩, .slice none 0 0, .iface 185 (.pointer (some ⟨k2, 0, none⟩)), .slice (some ⟨cb, 0, none⟩) 1 1] 125) :: (k2, .cells #[.string ⟨#[49]⟩] 187) :: (cb, .cells #[.pointer (some ⟨b, 0, none⟩)] 72) :: (b, .cells #[.string ⟨#[49]⟩, .slice (some ⟨q, 0, none⟩) 0 0, .iface 299 (.pointer (some ⟨kb, 0, none⟩)), .slice none 0 0] 125) :: (kb, .cells #[.int .i64 (vn : Nat), .int .i64 n4] 300) :: R)) := by
 refine c_enter (n := 60) (L := [(1, (.iface 113 (.slice (some ⟨vb, vj, none⟩) vn vc))), (0, .pointer (some ⟨bs, 0, none⟩))]) Tryz.func51 J J J J ?_
 intro a hF
 refine c_open (fun Q hpan hret hnorm => ?_)
 repeat (first | (refine is_list ?_; refine s_pe hF J J J J ?_; clear hF; intro a hF) | refine c_seq (fun K hK => ?_) | refine wp_region_lit ?_ | (refine c_nilK hK ?_; clear hK))
 refine is_region (id := 1) ?_
 refine c_planQ [11] [0, 2, 3, 4, 6, 7] [1, 5, 8, 10] [1, 5, 8] 9 [11] hH (by kernel_rfl) (by repeat (first | refine pan_then ?_ | refine pan_block ?_ | exact hpan)) ?_
 clear hH; intro w hH; have hS := hH
 repeat (refine is_draw ?_; refine d_pe hF J J J J J J ?_; clear hF; intro a hF)
 refine d_seg ?_
 refine gq4 hF hH hS J J J J (mk_mk J J J J J J J J J J J J) (mk_bx J J J J J) (mk_ct J J J J J J (fun w hS => uneval_arr _ _ _ _ _ _ _ _ _ _ _ _ _ _ _ _ _ _ _ _ _ _ _ _ _ _ _ _ _ _ _ _ _ _ _ _ _ _ _ _ _ _ _ _ _ _ _ _ _ _ _ _ _ _ (hS.toOld (i := 0) rfl))) (mk_al J J J J J) ?_ ?_
 ·rintro _ _ _ _ _ _ ⟨vl, rfl, rfl⟩ ⟨sc, rfl, rfl⟩ ⟨un, _, rfl, rfl⟩
  exact ⟨_, rfl, rfl⟩
 clear hF hH hS
 rintro a w _ _ _ _ _ _ _ _ v0 ⟨vl, rfl, rfl⟩ ⟨sc, rfl, rfl⟩ ⟨un, _, rfl, rfl⟩ ⟨vd, rfl, rfl⟩ hF hv hH hS
 obtain rfl := pe_val hF rfl hv w
 clear hv
 repeat (first | (refine is_draw ?_; refine d_sta 3 hF hH J J J J J J J J J J J J ?_; clear hH; intro w hH) | (refine c_dnilK hK ?_; clear hS hK) | refine c_seq (fun K hK => ?_) | refine wp_region_lit ?_)
 refine s_callM hF J J J J J (validate_arr vb vj vn vc vd bs vl sc un _ _ _ _ _ _ _ _ _ _ _ _ _ _ _ _ _ _ _ _ _ _ _ _ hb w0 w _ (((((((((((((((hH).front 1 rfl).front 15 rfl).front 15 rfl).front 15 rfl).front 15 rfl).front 15 rfl).front 15 rfl).front 15 rfl).front 15 rfl).front 15 rfl).front 15 rfl).front 15 rfl).front 15 rfl).front 15 rfl)) ?_
 rintro e w (⟨h1, h2, rfl, hH1⟩ | ⟨lb, c, b, q, kb, Z, h1, h2, rfl, hH1⟩ | ⟨lb, c, b, q, kb, Z, h1, h2, rfl, hH1⟩)
 ·refine ⟨_, rfl, ?_⟩; clear hF hH; intro a hF; have hH := hH1; clear hH1
  repeat (first | (refine is_list ?_; refine s_pe hF J J J J ?_; clear hF; intro a hF) | refine c_seq (fun K hK => ?_) | refine wp_region_lit ?_ | (refine c_nilK hK ?_; clear hK) | refine c_false hF rfl ?_ | refine wp_ret ?_ | refine wp_skip ?_ | (refine e_thenK hK ?_; clear hK))
  exact hret _ _ (c_ret1 hF J J (.inl ⟨h1, h2, rfl, (Hp.mid hH 0 16)⟩))
 ·refine ⟨_, rfl, ?_⟩; clear hF hH; intro a hF; have hH := hH1; clear hH1
  repeat (first | (refine is_list ?_; first | (refine s_pe hF J J J J ?_; clear hF; intro a hF) | (refine is_load ?_; refine s_ld 3 hF hH J J J J J J J ?_; clear hF; intro a hF) | (refine s_bs hF hH J J J J J J J J J J ?_; clear hF hH; intro a b w hF hH)) | (refine is_draw ?_; first | (refine d_pe hF J J J J J J ?_; clear hF; intro a hF) | (refine is_dload rfl ?_; refine d_ld 2 hF hS J J J J J J J J ?_; clear hF; intro a hF) | (refine d_bx hF hH hS J J J J J ?_; clear hF hH hS; intro a b w hF hH hS)) | (refine c_dnilK hK ?_; clear hS hK) | refine c_seq (fun K hK => ?_) | refine wp_region_lit ?_ | (refine c_nilK hK ?_; clear hK) | refine c_true hF rfl ?_ | refine c_false hF rfl ?_ | (refine is_region ?_; refine is_region (id := 10) ?_; refine c_drawn [] [0, 1, 2, 3, 4, 5, 6, 7, 8, 11, 9, 10, 12, 13, 14, 15] hH (by kernel_rfl) (by repeat (first | refine pan_then ?_ | refine pan_block ?_ | exact hpan)) ?_; clear hH; intro w hH; have hS := hH) | refine wp_ret ?_ | (refine e_ret ?_; clear hK))
  exact hret _ _ (c_ret1 hF J J (.inr (.inl ⟨_, _, _, _, _, _, h1, h2, rfl, (Hp.mid ((((((hH).front 7 rfl).front 7 rfl).front 4 rfl).front 4 rfl).front 4 rfl) 5 17)⟩)))
 ·refine ⟨_, rfl, ?_⟩; clear hF hH; intro a hF; have hH := hH1; clear hH1
  repeat (first | (refine is_list ?_; first | (refine s_pe hF J J J J ?_; clear hF; intro a hF) | (refine is_load ?_; refine s_ld 3 hF hH J J J J J J J ?_; clear hF; intro a hF) | (refine s_bs hF hH J J J J J J J J J J ?_; clear hF hH; intro a b w hF hH)) | (refine is_draw ?_; first | (refine d_pe hF J J J J J J ?_; clear hF; intro a hF) | (refine is_dload rfl ?_; refine d_ld 2 hF hS J J J J J J J J ?_; clear hF; intro a hF) | (refine d_bx hF hH hS J J J J J ?_; clear hF hH hS; intro a b w hF hH hS)) | (refine c_dnilK hK ?_; clear hS hK) | refine c_seq (fun K hK => ?_) | refine wp_region_lit ?_ | (refine c_nilK hK ?_; clear hK) | refine c_true hF rfl ?_ | refine c_false hF rfl ?_ | (refine is_region ?_; refine is_region (id := 10) ?_; refine c_drawn [] [0, 1, 2, 3, 4, 5, 6, 7, 8, 11, 9, 10, 12, 13, 14, 15] hH (by kernel_rfl) (by repeat (first | refine pan_then ?_ | refine pan_block ?_ | exact hpan)) ?_; clear hH; intro w hH; have hS := hH) | refine wp_ret ?_ | (refine e_ret ?_; clear hK))
  exact hret _ _ (c_ret1 hF J J (.inr (.inr ⟨_, _, _, _, _, _, h1, h2, rfl, (Hp.mid ((((((hH).front 7 rfl).front 7 rfl).front 4 rfl).front 4 rfl).front 4 rfl) 5 17)⟩)))
theorem outer_obj (vm : Nat) (clock : Nat) (es : Array MapEntry) (hes : ∀ x ∈ es.toList, x.born < clock) (bs : Nat) (t1 t2 t3 t4 t5 t6 : Bool) (m24 m25 m27 m28 m29 rq l1 l2 l3 l4 l5 l6 : Nat) (n1 n2 n3 n4 n5 n6 : Int) (hb : t5 = true → t6 = true → n5 ≤ n6) (w0 w : World) (R : Hm) (hH : Hp w0 w ((bs, .cells (schD t1 t2 t3 t4 t5 t6 m24 m25 m27 m28 m29 rq l1 l2 l3 l4 l5 l6).toArray 115) :: cmpH t1 t2 t3 t4 t5 t6 n1 n2 n3 n4 n5 n6 m24 m25 m27 m28 m29 l1 l2 l3 l4 l5 l6 ((vm, .map es clock) :: R))) :
  Calls Tryz.prog 51 #[.pointer (some ⟨bs, 0, none⟩), (.iface 109 (.map (some vm)))] w fun e w' => ((t5 = true → n5 ≤ ((es.size : Nat) : Int)) ∧ (t6 = true → ((es.size : Nat) : Int) ≤ n6) ∧ e = .returned .nilIface ∧ Hp w0 w' R) ∨
   (∃ (ob k2 cb b q kb : Nat), t5 = true ∧ ((es.size : Nat) : Int) < n5 ∧ e = .returned (.iface 72 (.pointer (some ⟨ob, 0, none⟩))) ∧ Hp w0 w' ((ob, .cells #[.string ⟨#[49]⟩, .slice none 0 0, .iface 185 (.pointer (some ⟨k2, 0, none⟩)), .slice (some ⟨cb, 0, none⟩) 1 1] 125) :: (k2, .cells #[.string ⟨#[49]⟩] 187) :: (cb, .cells #[.pointer (some ⟨b, 0, none⟩)] 72) :: (b, .cells #[.string ⟨#[49]⟩, .slice (some ⟨q, 0, none⟩) 0 0, .iface 305 (.pointer (some ⟨kb, 0, none⟩)), .slice none 0 0] 125) :: (kb, .cells #[.int .i64 (es.size : Nat), .int .i64 n5] 306) :: R)) ∨
   (∃ (ob k2 cb b q kb : Nat), t6 = true ∧ n6 < ((es.size : Nat) : Int) ∧ e = .returned (.iface 72 (.pointer (some ⟨ob, 0, none⟩))) ∧ Hp w0 w' ((ob, .cells #[.string ⟨#[49]⟩, .slice none 0 0, .iface 185 (.pointer (some ⟨k2, 0, none⟩)), .slice (some ⟨cb, 0, none⟩) 1 1] 125) :: (k2, .cells #[.string ⟨#[49]⟩] 187) :: (cb, .cells #[.pointer (some ⟨b, 0, none⟩)] 72) :: (b, .cells #[.string ⟨#[49]⟩, .slice (some ⟨q, 0, none⟩) 0 0, .iface 307 (.pointer (some ⟨kb, 0, none⟩)), .slice none 0 0] 125) :: (kb, .cells #[.int .i64 (es.size : Nat), .int .i64 n6] 308) :: R)) := by
 refine c_enter (n := 60) (L := [(1, (.iface 109 (.map (some vm)))), (0, .pointer (some ⟨bs, 0, none⟩))]) Tryz.func51 J J J J ?_
 intro a hF
 refine c_open (fun Q hpan hret hnorm => ?_)
 repeat (first | (refine is_list ?_; refine s_pe hF J J J J ?_; clear hF; intro a hF) | refine c_seq (fun K hK => ?_) | refine wp_region_lit ?_ | (refine c_nilK hK ?_; clear hK))
 refine is_region (id := 1) ?_
 refine c_planQ [11] [0, 2, 3, 4, 6, 7] [1, 5, 8, 10] [1, 5, 8] 9 [11] hH (by kernel_rfl) (by repeat (first | refine pan_then ?_ | refine pan_block ?_ | exact hpan)) ?_
 clear hH; intro w hH; have hS := hH
 repeat (refine is_draw ?_; refine d_pe hF J J J J J J ?_; clear hF; intro a hF)
 refine d_seg ?_
 refine gq4 hF hH hS J J J J (mk_mk J J J J J J J J J J J J) (mk_bx J J J J J) (mk_ct J J J J J J (fun w hS => uneval_obj _ _ _ _ _ _ _ _ _ _ _ _ _ _ _ _ _ _ _ _ _ _ _ _ _ _ _ _ _ _ _ _ _ _ _ _ _ _ _ _ _ _ _ _ _ _ _ _ _ _ _ _ (hS.toOld (i := 0) rfl))) (mk_al J J J J J) ?_ ?_
 ·rintro _ _ _ _ _ _ ⟨vl, rfl, rfl⟩ ⟨sc, rfl, rfl⟩ ⟨un, _, rfl, rfl⟩
  exact ⟨_, rfl, rfl⟩
 clear hF hH hS
 rintro a w _ _ _ _ _ _ _ _ v0 ⟨vl, rfl, rfl⟩ ⟨sc, rfl, rfl⟩ ⟨un, _, rfl, rfl⟩ ⟨vd, rfl, rfl⟩ hF hv hH hS
 obtain rfl := pe_val hF rfl hv w
 clear hv
 repeat (first | (refine is_draw ?_; refine d_sta 3 hF hH J J J J J J J J J J J J ?_; clear hH; intro w hH) | (refine c_dnilK hK ?_; clear hS hK) | refine c_seq (fun K hK => ?_) | refine wp_region_lit ?_)
 refine s_callM hF J J J J J (validate_obj vm clock es hes vd bs vl sc un _ _ _ _ _ _ _ _ _ _ _ _ _ _ _ _ _ _ _ _ _ _ _ _ hb w0 w _ ((((((((((((((((hH).front 1 rfl).front 16 rfl).front 16 rfl).front 16 rfl).front 16 rfl).front 16 rfl).front 16 rfl).front 16 rfl).front 16 rfl).front 16 rfl).front 16 rfl).front 16 rfl).front 16 rfl).front 16 rfl).front 16 rfl)) ?_
 rintro e w (⟨h1, h2, rfl, hH1⟩ | ⟨lb, c, b, q, kb, Z, h1, h2, rfl, hH1⟩ | ⟨lb, c, b, q, kb, Z, h1, h2, rfl, hH1⟩)
 ·refine ⟨_, rfl, ?_⟩; clear hF hH; intro a hF; have hH := hH1; clear hH1
  repeat (first | (refine is_list ?_; refine s_pe hF J J J J ?_; clear hF; intro a hF) | refine c_seq (fun K hK => ?_) | refine wp_region_lit ?_ | (refine c_nilK hK ?_; clear hK) | refine c_false hF rfl ?_ | refine wp_ret ?_ | refine wp_skip ?_ | (refine e_thenK hK ?_; clear hK))
  exact hret _ _ (c_ret1 hF J J (.inl ⟨h1, h2, rfl, (Hp.mid hH 0 17)⟩))
 ·refine ⟨_, rfl, ?_⟩; clear hF hH; intro a hF; have hH := hH1; clear hH1
  repeat (first | (refine is_list ?_; first | (refine s_pe hF J J J J ?_; clear hF; intro a hF) | (refine is_load ?_; refine s_ld 3 hF hH J J J J J J J ?_; clear hF; intro a hF) | (refine s_bs hF hH J J J J J J J J J J ?_; clear hF hH; intro a b w hF hH)) | (refine is_draw ?_; first | (refine d_pe hF J J J J J J ?_; clear hF; intro a hF) | (refine is_dload rfl ?_; refine d_ld 2 hF hS J J J J J J J J ?_; clear hF; intro a hF) | (refine d_bx hF hH hS J J J J J ?_; clear hF hH hS; intro a b w hF hH hS)) | (refine c_dnilK hK ?_; clear hS hK) | refine c_seq (fun K hK => ?_) | refine wp_region_lit ?_ | (refine c_nilK hK ?_; clear hK) | refine c_true hF rfl ?_ | refine c_false hF rfl ?_ | (refine is_region ?_; refine is_region (id := 10) ?_; refine c_drawn [] [0, 1, 2, 3, 4, 5, 6, 7, 8, 11, 9, 10, 12, 13, 14, 15] hH (by kernel_rfl) (by repeat (first | refine pan_then ?_ | refine pan_block ?_ | exact hpan)) ?_; clear hH; intro w hH; have hS := hH) | refine wp_ret ?_ | (refine e_ret ?_; clear hK))
  exact hret _ _ (c_ret1 hF J J (.inr (.inl ⟨_, _, _, _, _, _, h1, h2, rfl, (Hp.mid ((((((hH).front 7 rfl).front 7 rfl).front 4 rfl).front 4 rfl).front 4 rfl) 5 18)⟩)))
 ·refine ⟨_, rfl, ?_⟩; clear hF hH; intro a hF; have hH := hH1; clear hH1
  repeat (first | (refine is_list ?_; first | (refine s_pe hF J J J J ?_; clear hF; intro a hF) | (refine is_load ?_; refine s_ld 3 hF hH J J J J J J J ?_; clear hF; intro a hF) | (refine s_bs hF hH J J J J J J J J J J ?_; clear hF hH; intro a b w hF hH)) | (refine is_draw ?_; first | (refine d_pe hF J J J J J J ?_; clear hF; intro a hF) | (refine is_dload rfl ?_; refine d_ld 2 hF hS J J J J J J J J ?_; clear hF; intro a hF) | (refine d_bx hF hH hS J J J J J ?_; clear hF hH hS; intro a b w hF hH hS)) | (refine c_dnilK hK ?_; clear hS hK) | refine c_seq (fun K hK => ?_) | refine wp_region_lit ?_ | (refine c_nilK hK ?_; clear hK) | refine c_true hF rfl ?_ | refine c_false hF rfl ?_ | (refine is_region ?_; refine is_region (id := 10) ?_; refine c_drawn [] [0, 1, 2, 3, 4, 5, 6, 7, 8, 11, 9, 10, 12, 13, 14, 15] hH (by kernel_rfl) (by repeat (first | refine pan_then ?_ | refine pan_block ?_ | exact hpan)) ?_; clear hH; intro w hH; have hS := hH) | refine wp_ret ?_ | (refine e_ret ?_; clear hK))
  exact hret _ _ (c_ret1 hF J J (.inr (.inr ⟨_, _, _, _, _, _, h1, h2, rfl, (Hp.mid ((((((hH).front 7 rfl).front 7 rfl).front 4 rfl).front 4 rfl).front 4 rfl) 5 18)⟩)))
end Go.Proofs.YtlkikblohnnlcaaGreatDoor.Y
end
section
namespace Go.Proofs.YtlkikblohnnlcaaGreatDoor.Y
open Go Go.RowKit X
set_option linter.unusedVariables false
set_option maxRecDepth 4000
attribute [local irreducible] wpList dL Code.wp bodyPost Ct Calls Exit.then Exit.inBlock Code.rounds
set_option maxHeartbeats 0
theorem validate_false (vd bs bb vl sc un : Nat) (w0 w : World) (R : Hm) (hH : Hp w0 w ((vd, .cells (List.toArray (.nilIface :: .slice (some ⟨vl, 0, none⟩) 0 8 :: .pointer (some ⟨bs, 0, none⟩) :: .pointer (some ⟨sc, 0, none⟩) :: .pointer (some ⟨un, 0, none⟩) :: .slice none 0 0 :: .bool false :: [])) 180) :: (bs, .cells (schF bb).toArray 115) :: (bb, .cells #[.bool false] 4) :: R)) :
  Calls Tryz.prog 97 #[.pointer (some ⟨vd, 0, none⟩)] w fun e w' => ∃ b q kb : Nat, e = .returned (.tuple #[.pointer none, .iface 72 (.pointer (some ⟨b, 0, none⟩))]) ∧ Hp w0 w' ((b, .cells #[.string ⟨#[49]⟩, .slice (some ⟨q, 0, none⟩) 0 0, .iface 265 (.pointer (some ⟨kb, 0, none⟩)), .slice none 0 0] 125) :: (kb, .cells #[] 266) :: (vd, .cells (List.toArray (.nilIface :: .slice (some ⟨vl, 0, none⟩) 0 8 :: .pointer (some ⟨bs, 0, none⟩) :: .pointer (some ⟨sc, 0, none⟩) :: .pointer (some ⟨un, 0, none⟩) :: .slice none 0 0 :: .bool false :: [])) 180) :: (bs, .cells (schF bb).toArray 115) :: (bb, .cells #[.bool false] 4) :: R) := by
 refine c_enter (n := 353) (L := [(0, .pointer (some ⟨vd, 0, none⟩))]) Tryz.func97 J J J J ?_
 intro a hF
 refine c_open (fun Q hpan hret hnorm => ?_)
 repeat (first | (refine is_list ?_; first | (refine s_pe hF J J J J ?_; clear hF; intro a hF) | (refine is_load ?_; (first | refine s_ld 0 hF hH J J J J J J J ?_ | refine s_ld 1 hF hH J J J J J J J ?_ | refine s_ld 2 hF hH J J J J J J J ?_); clear hF; intro a hF) | (refine is_call ?_; refine s_call hF hH J J J J J (error_ok _ _ _ _ _ _ _ _ _ _ _ _ _ _ _ _ _ _ _ _ _ _ _ _ _ _ _ _ _ _ _ _ _ _ _ _ _ _ _ _ _ _ _ _ _ _ _ _ _ _ _ _ _ _ _ _ _ _ _ _ _ _ _ (hH.toOld (i := 1) rfl) (hH.toOld (i := 2) rfl)) ?_; clear hF hH; intro a w x hx hF hH) | (refine s_bx hF hH J J J J ?_; clear hF hH; intro a b w hF hH)) | refine c_seq (fun K hK => ?_) | refine wp_region_lit ?_ | (refine c_nilK hK ?_; clear hK) | refine c_true hF rfl ?_ | refine c_false hF rfl ?_ | refine wp_ret ?_ | (refine e_ret ?_; clear hK))
 exact hret _ _ (c_ret2 hF J J J ⟨_, _, _, rfl, hH⟩)
theorem outer_false (bs bb : Nat) (w0 w : World) (R : Hm) (hH : Hp w0 w ((bs, .cells (schF bb).toArray 115) :: (bb, .cells #[.bool false] 4) :: R)) :
  Calls Tryz.prog 51 #[.pointer (some ⟨bs, 0, none⟩), .nilIface] w fun e w' => ∃ ob k2 cb b q kb : Nat, e = .returned (.iface 72 (.pointer (some ⟨ob, 0, none⟩))) ∧ Hp w0 w' ((ob, .cells #[.string ⟨#[49]⟩, .slice none 0 0, .iface 185 (.pointer (some ⟨k2, 0, none⟩)), .slice (some ⟨cb, 0, none⟩) 1 1] 125) :: (k2, .cells #[.string ⟨#[49]⟩] 187) :: (cb, .cells #[.pointer (some ⟨b, 0, none⟩)] 72) :: (b, .cells #[.string ⟨#[49]⟩, .slice (some ⟨q, 0, none⟩) 0 0, .iface 265 (.pointer (some ⟨kb, 0, none⟩)), .slice none 0 0] 125) :: (kb, .cells #[] 266) :: R) := by
 refine c_enter (n := 60) (L := [(1, .nilIface), (0, .pointer (some ⟨bs, 0, none⟩))]) Tryz.func51 J J J J ?_
 intro a hF
 refine c_open (fun Q hpan hret hnorm => ?_)
 repeat (first | (refine is_list ?_; refine s_pe hF J J J J ?_; clear hF; intro a hF) | refine c_seq (fun K hK => ?_) | refine wp_region_lit ?_ | (refine c_nilK hK ?_; clear hK))
 refine is_region (id := 1) ?_
 refine c_planQ [11] [0, 2, 3, 4, 6, 7] [1, 5, 8, 10] [1, 5, 8] 9 [11] hH (by kernel_rfl) (by repeat (first | refine pan_then ?_ | refine pan_block ?_ | exact hpan)) ?_
 clear hH; intro w hH; have hS := hH
 repeat (refine is_draw ?_; refine d_pe hF J J J J J J ?_; clear hF; intro a hF)
 refine d_seg ?_
 refine gq4 hF hH hS J J J J (mk_mk J J J J J J J J J J J J) (mk_bx J J J J J) (mk_ct J J J J J J (fun w hS => uneval_nil _ _ _ _ _ _ _ _ _ _ _ _ _ _ _ _ _ _ _ _ _ _ _ _ _ _ _ _ _ _ _ _ _ _ _ _ _ _ _ _ _ _ _ _ _ _ _ _ _ _ _ (hS.toOld (i := 0) rfl))) (mk_al J J J J J) ?_ ?_
 ·rintro _ _ _ _ _ _ ⟨vl, rfl, rfl⟩ ⟨sc, rfl, rfl⟩ ⟨un, _, rfl, rfl⟩
  exact ⟨_, rfl, rfl⟩
 clear hF hH hS
 rintro a w _ _ _ _ _ _ _ _ v0 ⟨vl, rfl, rfl⟩ ⟨sc, rfl, rfl⟩ ⟨un, _, rfl, rfl⟩ ⟨vd, rfl, rfl⟩ hF hv hH hS
 obtain rfl := pe_val hF rfl hv w
 clear hv
 repeat (first | (refine is_draw ?_; refine d_sta 3 hF hH J J J J J J J J J J J J ?_; clear hH; intro w hH) | (refine c_dnilK hK ?_; clear hS hK) | refine c_seq (fun K hK => ?_) | refine wp_region_lit ?_)
 refine s_callM hF J J J J J (validate_false vd bs bb vl sc un w0 w _ ((((hH).front 5 rfl).front 5 rfl).front 5 rfl)) ?_
 rintro e w ⟨b, q, kb, rfl, hH1⟩
 refine ⟨_, rfl, ?_⟩; clear hF hH; intro a hF; have hH := hH1; clear hH1
 repeat (first | (refine is_list ?_; first | (refine s_pe hF J J J J ?_; clear hF; intro a hF) | (refine is_load ?_; refine s_ld 0 hF hH J J J J J J J ?_; clear hF; intro a hF) | (refine s_bs hF hH J J J J J J J J J J ?_; clear hF hH; intro a b w hF hH)) | (refine is_draw ?_; first | (refine d_pe hF J J J J J J ?_; clear hF; intro a hF) | (refine is_dload rfl ?_; refine d_ld 4 hF hS J J J J J J J J ?_; clear hF; intro a hF) | (refine d_bx hF hH hS J J J J J ?_; clear hF hH hS; intro a b w hF hH hS)) | (refine c_dnilK hK ?_; clear hS hK) | refine c_seq (fun K hK => ?_) | refine wp_region_lit ?_ | (refine c_nilK hK ?_; clear hK) | refine c_true hF rfl ?_ | refine c_false hF rfl ?_ | (refine is_region ?_; refine is_region (id := 10) ?_; refine c_drawn [] [0, 1, 2, 3, 4, 5, 6, 7, 8, 11, 9, 10, 12, 13, 14, 15] hH (by kernel_rfl) (by repeat (first | refine pan_then ?_ | refine pan_block ?_ | exact hpan)) ?_; clear hH; intro w hH; have hS := hH) | refine wp_ret ?_ | (refine e_ret ?_; clear hK))
 exact hret _ _ (c_ret1 hF J J ⟨_, _, _, _, _, _, rfl, Hp.mid hH 5 6⟩)
end Go.Proofs.YtlkikblohnnlcaaGreatDoor.Y
end
section
namespace Go.Proofs.YtlkikblohnnlcaaGreatDoor.Y
open Go Go.RowKit X
set_option linter.unusedVariables false
set_option maxRecDepth 4000
attribute [local irreducible] wpList dL Code.wp bodyPost Ct Calls Exit.then Exit.inBlock Code.rounds
set_option maxHeartbeats 0
theorem copied_0 (A : Option Addr) (cc : Nat) (w : World) : Ct 53 [.slice A 0 cc] w (fun q : Nat => .slice (some ⟨q, 0, none⟩) 0 0) (fun _ => []) (fun _ => True) := by
 unfold Ct
 refine c_enter (n := 6) (L := [(0, .slice A 0 cc)]) Tryz.func53 J J J J ?_
 intro a hF
 have hH := Hp.start w
 refine c_open (fun Q hpan hret hnorm => ?_)
 repeat (first | (refine is_list ?_; first | (refine s_pe hF J J J J ?_; clear hF; intro a hF) | (refine s_bs0 hF hH J J J J ?_; clear hF hH; intro a b w hF hH) | (refine s_appZ hF J J J J J J J ?_; clear hF; intro a hF)) | refine c_seq (fun K hK => ?_) | refine wp_region_lit ?_ | (refine c_nilK hK ?_; clear hK) | refine wp_ret ?_)
 exact hret _ _ (c_ret1 hF J J ⟨_, trivial, rfl, hH.rm 0 rfl⟩)
theorem copied_1 (pb : Nat) (s : ByteArray) (w0 w : World) (R : Hm) (hH : Hp w0 w ((pb, .cells #[.string s] 9) :: R)) :
  Calls Tryz.prog 53 #[.slice (some ⟨pb, 0, none⟩) 1 1] w fun e w' => ∃ (b c : Nat) (Z : List Value), e = .returned (.slice (some ⟨b, 0, none⟩) 1 c) ∧ Hp w0 w' ((b, .cells (.string s :: Z).toArray 9) :: R) := by
 refine c_enter (n := 6) (L := [(0, .slice (some ⟨pb, 0, none⟩) 1 1)]) Tryz.func53 J J J J ?_
 intro a hF
 refine c_open (fun Q hpan hret hnorm => ?_)
 repeat (first | (refine is_list ?_; first | (refine s_pe hF J J J J ?_; clear hF; intro a hF) | (refine s_bs0 hF hH J J J J ?_; clear hF hH; intro a b w hF hH) | (refine s_app 1 hF hH J J J J J J J J J J J J J J ?_; clear hF hH; intro a b cc Z w hcc hF hH)) | refine c_seq (fun K hK => ?_) | refine wp_region_lit ?_ | (refine c_nilK hK ?_; clear hK) | refine wp_ret ?_)
 exact hret _ _ (c_ret1 hF J J ⟨_, _, _, rfl, (hH.rm 1 rfl).rm 1 rfl⟩)
theorem path_239 (p : Value) (w : World) : Ct 239 [p] w (fun _ : Unit => .slice none 0 0) (fun _ => []) (fun _ => True) := by
 unfold Ct
 refine c_enter (n := 3) (L := [(0, p)]) Tryz.func239 J J J J ?_
 intro a hF
 have hH := Hp.start w
 refine c_open (fun Q hpan hret hnorm => ?_)
 repeat (first | (refine is_list ?_; refine s_pe hF J J J J ?_; clear hF; intro a hF) | refine c_seq (fun K hK => ?_) | refine wp_region_lit ?_ | (refine c_nilK hK ?_; clear hK) | refine wp_ret ?_)
 exact hret _ _ (c_ret1 hF J J ⟨(), trivial, rfl, hH⟩)
theorem path_252 (p : Value) (w : World) : Ct 252 [p] w (fun _ : Unit => .slice none 0 0) (fun _ => []) (fun _ => True) := by
 unfold Ct
 refine c_enter (n := 3) (L := [(0, p)]) Tryz.func252 J J J J ?_
 intro a hF
 have hH := Hp.start w
 refine c_open (fun Q hpan hret hnorm => ?_)
 repeat (first | (refine is_list ?_; refine s_pe hF J J J J ?_; clear hF; intro a hF) | refine c_seq (fun K hK => ?_) | refine wp_region_lit ?_ | (refine c_nilK hK ?_; clear hK) | refine wp_ret ?_)
 exact hret _ _ (c_ret1 hF J J ⟨(), trivial, rfl, hH⟩)
theorem path_258 (p : Value) (w : World) : Ct 258 [p] w (fun b : Nat => .slice (some ⟨b, 0, none⟩) 1 1) (fun b => [(b, .cells #[.string ⟨#[109, 105, 110, 73, 116, 101, 109, 115]⟩] 9)]) (fun _ => True) := by
 unfold Ct
 refine c_enter (n := 4) (L := [(0, p)]) Tryz.func258 J J J J ?_
 intro a hF
 have hH := Hp.start w
 refine c_open (fun Q hpan hret hnorm => ?_)
 repeat (first | (refine is_list ?_; first | (refine s_pe hF J J J J ?_; clear hF; intro a hF) | (refine s_bs hF hH J J J J J J J J J J ?_; clear hF hH; intro a b w hF hH)) | refine c_seq (fun K hK => ?_) | refine wp_region_lit ?_ | (refine c_nilK hK ?_; clear hK) | refine wp_ret ?_)
 exact hret _ _ (c_ret1 hF J J ⟨_, trivial, rfl, hH⟩)
theorem path_259 (p : Value) (w : World) : Ct 259 [p] w (fun b : Nat => .slice (some ⟨b, 0, none⟩) 1 1) (fun b => [(b, .cells #[.string ⟨#[109, 97, 120, 73, 116, 101, 109, 115]⟩] 9)]) (fun _ => True) := by
 unfold Ct
 refine c_enter (n := 4) (L := [(0, p)]) Tryz.func259 J J J J ?_
 intro a hF
 have hH := Hp.start w
 refine c_open (fun Q hpan hret hnorm => ?_)
 repeat (first | (refine is_list ?_; first | (refine s_pe hF J J J J ?_; clear hF; intro a hF) | (refine s_bs hF hH J J J J J J J J J J ?_; clear hF hH; intro a b w hF hH)) | refine c_seq (fun K hK => ?_) | refine wp_region_lit ?_ | (refine c_nilK hK ?_; clear hK) | refine wp_ret ?_)
 exact hret _ _ (c_ret1 hF J J ⟨_, trivial, rfl, hH⟩)
theorem path_260 (p : Value) (w : World) : Ct 260 [p] w (fun b : Nat => .slice (some ⟨b, 0, none⟩) 1 1) (fun b => [(b, .cells #[.string ⟨#[109, 105, 110, 76, 101, 110, 103, 116, 104]⟩] 9)]) (fun _ => True) := by
 unfold Ct
 refine c_enter (n := 4) (L := [(0, p)]) Tryz.func260 J J J J ?_
 intro a hF
 have hH := Hp.start w
 refine c_open (fun Q hpan hret hnorm => ?_)
 repeat (first | (refine is_list ?_; first | (refine s_pe hF J J J J ?_; clear hF; intro a hF) | (refine s_bs hF hH J J J J J J J J J J ?_; clear hF hH; intro a b w hF hH)) | refine c_seq (fun K hK => ?_) | refine wp_region_lit ?_ | (refine c_nilK hK ?_; clear hK) | refine wp_ret ?_)
 exact hret _ _ (c_ret1 hF J J ⟨_, trivial, rfl, hH⟩)
theorem path_261 (p : Value) (w : World) : Ct 261 [p] w (fun b : Nat => .slice (some ⟨b, 0, none⟩) 1 1) (fun b => [(b, .cells #[.string ⟨#[109, 97, 120, 76, 101, 110, 103, 116, 104]⟩] 9)]) (fun _ => True) := by
 unfold Ct
 refine c_enter (n := 4) (L := [(0, p)]) Tryz.func261 J J J J ?_
 intro a hF
 have hH := Hp.start w
 refine c_open (fun Q hpan hret hnorm => ?_)
 repeat (first | (refine is_list ?_; first | (refine s_pe hF J J J J ?_; clear hF; intro a hF) | (refine s_bs hF hH J J J J J J J J J J ?_; clear hF hH; intro a b w hF hH)) | refine c_seq (fun K hK => ?_) | refine wp_region_lit ?_ | (refine c_nilK hK ?_; clear hK) | refine wp_ret ?_)
 exact hret _ _ (c_ret1 hF J J ⟨_, trivial, rfl, hH⟩)
theorem path_262 (p : Value) (w : World) : Ct 262 [p] w (fun b : Nat => .slice (some ⟨b, 0, none⟩) 1 1) (fun b => [(b, .cells #[.string ⟨#[109, 105, 110, 80, 114, 111, 112, 101, 114, 116, 105, 101, 115]⟩] 9)]) (fun _ => True) := by
 unfold Ct
 refine c_enter (n := 4) (L := [(0, p)]) Tryz.func262 J J J J ?_
 intro a hF
 have hH := Hp.start w
 refine c_open (fun Q hpan hret hnorm => ?_)
 repeat (first | (refine is_list ?_; first | (refine s_pe hF J J J J ?_; clear hF; intro a hF) | (refine s_bs hF hH J J J J J J J J J J ?_; clear hF hH; intro a b w hF hH)) | refine c_seq (fun K hK => ?_) | refine wp_region_lit ?_ | (refine c_nilK hK ?_; clear hK) | refine wp_ret ?_)
 exact hret _ _ (c_ret1 hF J J ⟨_, trivial, rfl, hH⟩)
theorem path_263 (p : Value) (w : World) : Ct 263 [p] w (fun b : Nat => .slice (some ⟨b, 0, none⟩) 1 1) (fun b => [(b, .cells #[.string ⟨#[109, 97, 120, 80, 114, 111, 112, 101, 114, 116, 105, 101, 115]⟩] 9)]) (fun _ => True) := by
 unfold Ct
 refine c_enter (n := 4) (L := [(0, p)]) Tryz.func263 J J J J ?_
 intro a hF
 have hH := Hp.start w
 refine c_open (fun Q hpan hret hnorm => ?_)
 repeat (first | (refine is_list ?_; first | (refine s_pe hF J J J J ?_; clear hF; intro a hF) | (refine s_bs hF hH J J J J J J J J J J ?_; clear hF hH; intro a b w hF hH)) | refine c_seq (fun K hK => ?_) | refine wp_region_lit ?_ | (refine c_nilK hK ?_; clear hK) | refine wp_ret ?_)
 exact hret _ _ (c_ret1 hF J J ⟨_, trivial, rfl, hH⟩)
theorem plainOf_Schema (kb : Nat) (w : World) : Ct 101 [.iface 185 (.pointer (some ⟨kb, 0, none⟩))] w (fun _ : Unit => .string ⟨#[83, 99, 104, 101, 109, 97]⟩) (fun _ => []) (fun _ => True) := by
 unfold Ct
 refine c_enter (n := 43) (L := [(0, .iface 185 (.pointer (some ⟨kb, 0, none⟩)))]) Tryz.func101 J J J J ?_
 intro a hF
 have hH := Hp.start w
 refine c_open (fun Q hpan hret hnorm => ?_)
 repeat (first | (refine is_list ?_; refine s_pe hF J J J J ?_; clear hF; intro a hF) | refine c_seq (fun K hK => ?_) | refine wp_region_lit ?_ | (refine c_nilK hK ?_; clear hK) | refine c_true hF rfl ?_ | refine c_false hF rfl ?_ | refine wp_block ?_ | refine wp_ret ?_ | (refine e_ret ?_; clear hK) | refine e_bret ?_)
 exact hret _ _ (c_ret1 hF J J ⟨(), trivial, rfl, hH⟩)
theorem countOf_Schema (kb : Nat) (w : World) : Ct 100 [.iface 185 (.pointer (some ⟨kb, 0, none⟩))] w (fun _ : Unit => .tuple #[.string ⟨#[]⟩, .int .i64 0, .int .i64 0, .bool false]) (fun _ => []) (fun _ => True) := by
 unfold Ct
 refine c_enter (n := 79) (L := [(0, .iface 185 (.pointer (some ⟨kb, 0, none⟩)))]) Tryz.func100 J J J J ?_
 intro a hF
 have hH := Hp.start w
 refine c_open (fun Q hpan hret hnorm => ?_)
 repeat (first | (refine is_list ?_; refine s_pe hF J J J J ?_; clear hF; intro a hF) | refine c_seq (fun K hK => ?_) | refine wp_region_lit ?_ | (refine c_nilK hK ?_; clear hK) | refine c_false hF rfl ?_ | refine wp_block ?_ | refine wp_ret ?_ | refine wp_skip ?_ | refine e_bnormal ?_ | (refine e_thenK hK ?_; clear hK))
 exact hret _ _ (c_ret4 hF J J J J J ⟨(), trivial, rfl, hH⟩)
theorem kindOf_Schema (kb : Nat) (w : World) : Ct 54 [.iface 185 (.pointer (some ⟨kb, 0, none⟩))] w (fun _ : Unit => .tuple #[.string ⟨#[83, 99, 104, 101, 109, 97]⟩, .string ⟨#[]⟩, .slice none 0 0, .slice none 0 0]) (fun _ => []) (fun _ => True) := by
 unfold Ct
 refine c_enter (n := 163) (L := [(0, .iface 185 (.pointer (some ⟨kb, 0, none⟩)))]) Tryz.func54 J J J J ?_
 intro a hF
 have hH := Hp.start w
 refine c_open (fun Q hpan hret hnorm => ?_)
 repeat (first | (refine is_list ?_; first | (refine s_pe hF J J J J ?_; clear hF; intro a hF) | (refine is_call ?_; (first | refine s_call hF hH J J J J J (countOf_Schema _ _) ?_ | refine s_call hF hH J J J J J (plainOf_Schema _ _) ?_); clear hF hH; intro a w x hx hF hH)) | refine c_seq (fun K hK => ?_) | refine wp_region_lit ?_ | (refine c_nilK hK ?_; clear hK) | refine c_false hF rfl ?_ | refine wp_block ?_ | refine wp_ret ?_ | refine wp_skip ?_ | refine e_bnormal ?_ | (refine e_thenK hK ?_; clear hK))
 exact hret _ _ (c_ret4 hF J J J J J ⟨(), trivial, rfl, hH⟩)
theorem plainOf_FalseSchema (kb : Nat) (w : World) : Ct 101 [.iface 265 (.pointer (some ⟨kb, 0, none⟩))] w (fun _ : Unit => .string ⟨#[70, 97, 108, 115, 101, 83, 99, 104, 101, 109, 97]⟩) (fun _ => []) (fun _ => True) := by
 unfold Ct
 refine c_enter (n := 43) (L := [(0, .iface 265 (.pointer (some ⟨kb, 0, none⟩)))]) Tryz.func101 J J J J ?_
 intro a hF
 have hH := Hp.start w
 refine c_open (fun Q hpan hret hnorm => ?_)
 repeat (first | (refine is_list ?_; refine s_pe hF J J J J ?_; clear hF; intro a hF) | refine c_seq (fun K hK => ?_) | refine wp_region_lit ?_ | (refine c_nilK hK ?_; clear hK) | refine c_true hF rfl ?_ | refine c_false hF rfl ?_ | refine wp_block ?_ | refine wp_ret ?_ | (refine e_ret ?_; clear hK) | refine e_bret ?_)
 exact hret _ _ (c_ret1 hF J J ⟨(), trivial, rfl, hH⟩)
theorem countOf_FalseSchema (kb : Nat) (w : World) : Ct 100 [.iface 265 (.pointer (some ⟨kb, 0, none⟩))] w (fun _ : Unit => .tuple #[.string ⟨#[]⟩, .int .i64 0, .int .i64 0, .bool false]) (fun _ => []) (fun _ => True) := by
 unfold Ct
 refine c_enter (n := 79) (L := [(0, .iface 265 (.pointer (some ⟨kb, 0, none⟩)))]) Tryz.func100 J J J J ?_
 intro a hF
 have hH := Hp.start w
 refine c_open (fun Q hpan hret hnorm => ?_)
 repeat (first | (refine is_list ?_; refine s_pe hF J J J J ?_; clear hF; intro a hF) | refine c_seq (fun K hK => ?_) | refine wp_region_lit ?_ | (refine c_nilK hK ?_; clear hK) | refine c_false hF rfl ?_ | refine wp_block ?_ | refine wp_ret ?_ | refine wp_skip ?_ | refine e_bnormal ?_ | (refine e_thenK hK ?_; clear hK))
 exact hret _ _ (c_ret4 hF J J J J J ⟨(), trivial, rfl, hH⟩)
theorem kindOf_FalseSchema (kb : Nat) (w : World) : Ct 54 [.iface 265 (.pointer (some ⟨kb, 0, none⟩))] w (fun _ : Unit => .tuple #[.string ⟨#[70, 97, 108, 115, 101, 83, 99, 104, 101, 109, 97]⟩, .string ⟨#[]⟩, .slice none 0 0, .slice none 0 0]) (fun _ => []) (fun _ => True) := by
 unfold Ct
 refine c_enter (n := 163) (L := [(0, .iface 265 (.pointer (some ⟨kb, 0, none⟩)))]) Tryz.func54 J J J J ?_
 intro a hF
 have hH := Hp.start w
 refine c_open (fun Q hpan hret hnorm => ?_)
 repeat (first | (refine is_list ?_; first | (refine s_pe hF J J J J ?_; clear hF; intro a hF) | (refine is_call ?_; (first | refine s_call hF hH J J J J J (countOf_FalseSchema _ _) ?_ | refine s_call hF hH J J J J J (plainOf_FalseSchema _ _) ?_); clear hF hH; intro a w x hx hF hH)) | refine c_seq (fun K hK => ?_) | refine wp_region_lit ?_ | (refine c_nilK hK ?_; clear hK) | refine c_false hF rfl ?_ | refine wp_block ?_ | refine wp_ret ?_ | refine wp_skip ?_ | refine e_bnormal ?_ | (refine e_thenK hK ?_; clear hK))
 exact hret _ _ (c_ret4 hF J J J J J ⟨(), trivial, rfl, hH⟩)
theorem countOf_MinItems (kb : Nat) (gt wt : Int) (w : World) (hO : Old w kb [.int .i64 gt, .int .i64 wt]) : Ct 100 [.iface 296 (.pointer (some ⟨kb, 0, none⟩))] w (fun _ : Unit => .tuple #[.string ⟨#[77, 105, 110, 73, 116, 101, 109, 115]⟩, .int .i64 gt, .int .i64 wt, .bool true]) (fun _ => []) (fun _ => True) := by
 unfold Ct
 refine c_enter (n := 79) (L := [(0, .iface 296 (.pointer (some ⟨kb, 0, none⟩)))]) Tryz.func100 J J J J ?_
 intro a hF
 have hH := Hp.start w
 refine c_open (fun Q hpan hret hnorm => ?_)
 repeat (first | (refine is_list ?_; refine s_pe hF J J J J ?_; clear hF; intro a hF) | (refine is_draw ?_; first | (refine d_pe hF J J J J J J ?_; clear hF; intro a hF) | (refine is_dload rfl ?_; refine d_ldo hO hF hS J J J J J J J ?_; clear hF; intro a hF)) | (refine c_dnilK hK ?_; clear hS hK) | refine c_seq (fun K hK => ?_) | refine wp_region_lit ?_ | (refine c_nilK hK ?_; clear hK) | refine c_true hF rfl ?_ | (refine is_region ?_; refine is_region (id := 4) ?_; refine c_drawn [] [0, 1, 2, 3, 4, 5, 6, 7, 8, 9, 10, 11] hH (by kernel_rfl) (by repeat (first | refine pan_then ?_ | refine pan_block ?_ | exact hpan)) ?_; clear hH; intro w hH; have hS := hH) | refine wp_block ?_ | refine wp_ret ?_ | (refine e_ret ?_; clear hK) | refine e_bret ?_)
 exact hret _ _ (c_ret4 hF J J J J J ⟨(), trivial, rfl, hH⟩)
theorem kindOf_MinItems (kb : Nat) (gt wt : Int) (w : World) (hO : Old w kb [.int .i64 gt, .int .i64 wt]) : Ct 54 [.iface 296 (.pointer (some ⟨kb, 0, none⟩))] w (fun b : Nat => .tuple #[.string ⟨#[77, 105, 110, 73, 116, 101, 109, 115]⟩, .string ⟨#[]⟩, .slice none 0 0, .slice (some ⟨b, 0, none⟩) 2 2]) (fun b => [(b, .cells #[.int .i64 gt, .int .i64 wt] 3)]) (fun _ => True) := by
 unfold Ct
 refine c_enter (n := 163) (L := [(0, .iface 296 (.pointer (some ⟨kb, 0, none⟩)))]) Tryz.func54 J J J J ?_
 intro a hF
 have hH := Hp.start w
 refine c_open (fun Q hpan hret hnorm => ?_)
 repeat (first | (refine is_list ?_; first | (refine s_pe hF J J J J ?_; clear hF; intro a hF) | (refine is_call ?_; refine s_call hF hH J J J J J (countOf_MinItems _ _ _ _ (hO.later hH)) ?_; clear hF hH; intro a w x hx hF hH) | (refine s_bs hF hH J J J J J J J J J J ?_; clear hF hH; intro a b w hF hH)) | refine c_seq (fun K hK => ?_) | refine wp_region_lit ?_ | (refine c_nilK hK ?_; clear hK) | refine c_true hF rfl ?_ | refine c_false hF rfl ?_ | refine wp_block ?_ | refine wp_ret ?_ | refine wp_skip ?_ | (refine e_ret ?_; clear hK) | refine e_bnormal ?_ | (refine e_thenK hK ?_; clear hK))
 exact hret _ _ (c_ret4 hF J J J J J ⟨_, trivial, rfl, hH⟩)
theorem countOf_MaxItems (kb : Nat) (gt wt : Int) (w : World) (hO : Old w kb [.int .i64 gt, .int .i64 wt]) : Ct 100 [.iface 299 (.pointer (some ⟨kb, 0, none⟩))] w (fun _ : Unit => .tuple #[.string ⟨#[77, 97, 120, 73, 116, 101, 109, 115]⟩, .int .i64 gt, .int .i64 wt, .bool true]) (fun _ => []) (fun _ => True) := by
 unfold Ct
 refine c_enter (n := 79) (L := [(0, .iface 299 (.pointer (some ⟨kb, 0, none⟩)))]) Tryz.func100 J J J J ?_
 intro a hF
 have hH := Hp.start w
 refine c_open (fun Q hpan hret hnorm => ?_)
 repeat (first | (refine is_list ?_; refine s_pe hF J J J J ?_; clear hF; intro a hF) | (refine is_draw ?_; first | (refine d_pe hF J J J J J J ?_; clear hF; intro a hF) | (refine is_dload rfl ?_; refine d_ldo hO hF hS J J J J J J J ?_; clear hF; intro a hF)) | (refine c_dnilK hK ?_; clear hS hK) | refine c_seq (fun K hK => ?_) | refine wp_region_lit ?_ | (refine c_nilK hK ?_; clear hK) | refine c_true hF rfl ?_ | refine c_false hF rfl ?_ | (refine is_region ?_; refine is_region (id := 7) ?_; refine c_drawn [] [0, 1, 2, 3, 4, 5, 6, 7, 8, 9, 10, 11] hH (by kernel_rfl) (by repeat (first | refine pan_then ?_ | refine pan_block ?_ | exact hpan)) ?_; clear hH; intro w hH; have hS := hH) | refine wp_block ?_ | refine wp_ret ?_ | (refine e_ret ?_; clear hK) | refine e_bret ?_)
 exact hret _ _ (c_ret4 hF J J J J J ⟨(), trivial, rfl, hH⟩)
theorem kindOf_MaxItems (kb : Nat) (gt wt : Int) (w : World) (hO : Old w kb [.int .i64 gt, .int .i64 wt]) : Ct 54 [.iface 299 (.pointer (some ⟨kb, 0, none⟩))] w (fun b : Nat => .tuple #[.string ⟨#[77, 97, 120, 73, 116, 101, 109, 115]⟩, .string ⟨#[]⟩, .slice none 0 0, .slice (some ⟨b, 0, none⟩) 2 2]) (fun b => [(b, .cells #[.int .i64 gt, .int .i64 wt] 3)]) (fun _ => True) := by
 unfold Ct
 refine c_enter (n := 163) (L := [(0, .iface 299 (.pointer (some ⟨kb, 0, none⟩)))]) Tryz.func54 J J J J ?_
 intro a hF
 have hH := Hp.start w
 refine c_open (fun Q hpan hret hnorm => ?_)
 repeat (first | (refine is_list ?_; first | (refine s_pe hF J J J J ?_; clear hF; intro a hF) | (refine is_call ?_; refine s_call hF hH J J J J J (countOf_MaxItems _ _ _ _ (hO.later hH)) ?_; clear hF hH; intro a w x hx hF hH) | (refine s_bs hF hH J J J J J J J J J J ?_; clear hF hH; intro a b w hF hH)) | refine c_seq (fun K hK => ?_) | refine wp_region_lit ?_ | (refine c_nilK hK ?_; clear hK) | refine c_true hF rfl ?_ | refine c_false hF rfl ?_ | refine wp_block ?_ | refine wp_ret ?_ | refine wp_skip ?_ | (refine e_ret ?_; clear hK) | refine e_bnormal ?_ | (refine e_thenK hK ?_; clear hK))
 exact hret _ _ (c_ret4 hF J J J J J ⟨_, trivial, rfl, hH⟩)
theorem countOf_MinLength (kb : Nat) (gt wt : Int) (w : World) (hO : Old w kb [.int .i64 gt, .int .i64 wt]) : Ct 100 [.iface 301 (.pointer (some ⟨kb, 0, none⟩))] w (fun _ : Unit => .tuple #[.string ⟨#[77, 105, 110, 76, 101, 110, 103, 116, 104]⟩, .int .i64 gt, .int .i64 wt, .bool true]) (fun _ => []) (fun _ => True) := by
 unfold Ct
 refine c_enter (n := 79) (L := [(0, .iface 301 (.pointer (some ⟨kb, 0, none⟩)))]) Tryz.func100 J J J J ?_
 intro a hF
 have hH := Hp.start w
 refine c_open (fun Q hpan hret hnorm => ?_)
 repeat (first | (refine is_list ?_; refine s_pe hF J J J J ?_; clear hF; intro a hF) | (refine is_draw ?_; first | (refine d_pe hF J J J J J J ?_; clear hF; intro a hF) | (refine is_dload rfl ?_; refine d_ldo hO hF hS J J J J J J J ?_; clear hF; intro a hF)) | (refine c_dnilK hK ?_; clear hS hK) | refine c_seq (fun K hK => ?_) | refine wp_region_lit ?_ | (refine c_nilK hK ?_; clear hK) | refine c_true hF rfl ?_ | refine c_false hF rfl ?_ | (refine is_region ?_; refine is_region (id := 10) ?_; refine c_drawn [] [0, 1, 2, 3, 4, 5, 6, 7, 8, 9, 10, 11] hH (by kernel_rfl) (by repeat (first | refine pan_then ?_ | refine pan_block ?_ | exact hpan)) ?_; clear hH; intro w hH; have hS := hH) | refine wp_block ?_ | refine wp_ret ?_ | (refine e_ret ?_; clear hK) | refine e_bret ?_)
 exact hret _ _ (c_ret4 hF J J J J J ⟨(), trivial, rfl, hH⟩)
theorem kindOf_MinLength (kb : Nat) (gt wt : Int) (w : World) (hO : Old w kb [.int .i64 gt, .int .i64 wt]) : Ct 54 [.iface 301 (.pointer (some ⟨kb, 0, none⟩))] w (fun b : Nat => .tuple #[.string ⟨#[77, 105, 110, 76, 101, 110, 103, 116, 104]⟩, .string ⟨#[]⟩, .slice none 0 0, .slice (some ⟨b, 0, none⟩) 2 2]) (fun b => [(b, .cells #[.int .i64 gt, .int .i64 wt] 3)]) (fun _ => True) := by
 unfold Ct
 refine c_enter (n := 163) (L := [(0, .iface 301 (.pointer (some ⟨kb, 0, none⟩)))]) Tryz.func54 J J J J ?_
 intro a hF
 have hH := Hp.start w
 refine c_open (fun Q hpan hret hnorm => ?_)
 repeat (first | (refine is_list ?_; first | (refine s_pe hF J J J J ?_; clear hF; intro a hF) | (refine is_call ?_; refine s_call hF hH J J J J J (countOf_MinLength _ _ _ _ (hO.later hH)) ?_; clear hF hH; intro a w x hx hF hH) | (refine s_bs hF hH J J J J J J J J J J ?_; clear hF hH; intro a b w hF hH)) | refine c_seq (fun K hK => ?_) | refine wp_region_lit ?_ | (refine c_nilK hK ?_; clear hK) | refine c_true hF rfl ?_ | refine c_false hF rfl ?_ | refine wp_block ?_ | refine wp_ret ?_ | refine wp_skip ?_ | (refine e_ret ?_; clear hK) | refine e_bnormal ?_ | (refine e_thenK hK ?_; clear hK))
 exact hret _ _ (c_ret4 hF J J J J J ⟨_, trivial, rfl, hH⟩)
theorem countOf_MaxLength (kb : Nat) (gt wt : Int) (w : World) (hO : Old w kb [.int .i64 gt, .int .i64 wt]) : Ct 100 [.iface 303 (.pointer (some ⟨kb, 0, none⟩))] w (fun _ : Unit => .tuple #[.string ⟨#[77, 97, 120, 76, 101, 110, 103, 116, 104]⟩, .int .i64 gt, .int .i64 wt, .bool true]) (fun _ => []) (fun _ => True) := by
 unfold Ct
 refine c_enter (n := 79) (L := [(0, .iface 303 (.pointer (some ⟨kb, 0, none⟩)))]) Tryz.func100 J J J J ?_
 intro a hF
 have hH := Hp.start w
 refine c_open (fun Q hpan hret hnorm => ?_)
 repeat (first | (refine is_list ?_; refine s_pe hF J J J J ?_; clear hF; intro a hF) | (refine is_draw ?_; first | (refine d_pe hF J J J J J J ?_; clear hF; intro a hF) | (refine is_dload rfl ?_; refine d_ldo hO hF hS J J J J J J J ?_; clear hF; intro a hF)) | (refine c_dnilK hK ?_; clear hS hK) | refine c_seq (fun K hK => ?_) | refine wp_region_lit ?_ | (refine c_nilK hK ?_; clear hK) | refine c_true hF rfl ?_ | refine c_false hF rfl ?_ | (refine is_region ?_; refine is_region (id := 13) ?_; refine c_drawn [] [0, 1, 2, 3, 4, 5, 6, 7, 8, 9, 10, 11] hH (by kernel_rfl) (by repeat (first | refine pan_then ?_ | refine pan_block ?_ | exact hpan)) ?_; clear hH; intro w hH; have hS := hH) | refine wp_block ?_ | refine wp_ret ?_ | (refine e_ret ?_; clear hK) | refine e_bret ?_)
 exact hret _ _ (c_ret4 hF J J J J J ⟨(), trivial, rfl, hH⟩)
theorem kindOf_MaxLength (kb : Nat) (gt wt : Int) (w : World) (hO : Old w kb [.int .i64 gt, .int .i64 wt]) : Ct 54 [.iface 303 (.pointer (some ⟨kb, 0, none⟩))] w (fun b : Nat => .tuple #[.string ⟨#[77, 97, 120, 76, 101, 110, 103, 116, 104]⟩, .string ⟨#[]⟩, .slice none 0 0, .slice (some ⟨b, 0, none⟩) 2 2]) (fun b => [(b, .cells #[.int .i64 gt, .int .i64 wt] 3)]) (fun _ => True) := by
 unfold Ct
 refine c_enter (n := 163) (L := [(0, .iface 303 (.pointer (some ⟨kb, 0, none⟩)))]) Tryz.func54 J J J J ?_
 intro a hF
 have hH := Hp.start w
 refine c_open (fun Q hpan hret hnorm => ?_)
 repeat (first | (refine is_list ?_; first | (refine s_pe hF J J J J ?_; clear hF; intro a hF) | (refine is_call ?_; refine s_call hF hH J J J J J (countOf_MaxLength _ _ _ _ (hO.later hH)) ?_; clear hF hH; intro a w x hx hF hH) | (refine s_bs hF hH J J J J J J J J J J ?_; clear hF hH; intro a b w hF hH)) | refine c_seq (fun K hK => ?_) | refine wp_region_lit ?_ | (refine c_nilK hK ?_; clear hK) | refine c_true hF rfl ?_ | refine c_false hF rfl ?_ | refine wp_block ?_ | refine wp_ret ?_ | refine wp_skip ?_ | (refine e_ret ?_; clear hK) | refine e_bnormal ?_ | (refine e_thenK hK ?_; clear hK))
 exact hret _ _ (c_ret4 hF J J J J J ⟨_, trivial, rfl, hH⟩)
theorem countOf_MinProperties (kb : Nat) (gt wt : Int) (w : World) (hO : Old w kb [.int .i64 gt, .int .i64 wt]) : Ct 100 [.iface 305 (.pointer (some ⟨kb, 0, none⟩))] w (fun _ : Unit => .tuple #[.string ⟨#[77, 105, 110, 80, 114, 111, 112, 101, 114, 116, 105, 101, 115]⟩, .int .i64 gt, .int .i64 wt, .bool true]) (fun _ => []) (fun _ => True) := by
 unfold Ct
 refine c_enter (n := 79) (L := [(0, .iface 305 (.pointer (some ⟨kb, 0, none⟩)))]) Tryz.func100 J J J J ?_
 intro a hF
 have hH := Hp.start w
 refine c_open (fun Q hpan hret hnorm => ?_)
 repeat (first | (refine is_list ?_; refine s_pe hF J J J J ?_; clear hF; intro a hF) | (refine is_draw ?_; first | (refine d_pe hF J J J J J J ?_; clear hF; intro a hF) | (refine is_dload rfl ?_; refine d_ldo hO hF hS J J J J J J J ?_; clear hF; intro a hF)) | (refine c_dnilK hK ?_; clear hS hK) | refine c_seq (fun K hK => ?_) | refine wp_region_lit ?_ | (refine c_nilK hK ?_; clear hK) | refine c_true hF rfl ?_ | refine c_false hF rfl ?_ | (refine is_region ?_; refine is_region (id := 16) ?_; refine c_drawn [] [0, 1, 2, 3, 4, 5, 6, 7, 8, 9, 10, 11] hH (by kernel_rfl) (by repeat (first | refine pan_then ?_ | refine pan_block ?_ | exact hpan)) ?_; clear hH; intro w hH; have hS := hH) | refine wp_block ?_ | refine wp_ret ?_ | (refine e_ret ?_; clear hK) | refine e_bret ?_)
 exact hret _ _ (c_ret4 hF J J J J J ⟨(), trivial, rfl, hH⟩)
theorem kindOf_MinProperties (kb : Nat) (gt wt : Int) (w : World) (hO : Old w kb [.int .i64 gt, .int .i64 wt]) : Ct 54 [.iface 305 (.pointer (some ⟨kb, 0, none⟩))] w (fun b : Nat => .tuple #[.string ⟨#[77, 105, 110, 80, 114, 111, 112, 101, 114, 116, 105, 101, 115]⟩, .string ⟨#[]⟩, .slice none 0 0, .slice (some ⟨b, 0, none⟩) 2 2]) (fun b => [(b, .cells #[.int .i64 gt, .int .i64 wt] 3)]) (fun _ => True) := by
 unfold Ct
 refine c_enter (n := 163) (L := [(0, .iface 305 (.pointer (some ⟨kb, 0, none⟩)))]) Tryz.func54 J J J J ?_
 intro a hF
 have hH := Hp.start w
 refine c_open (fun Q hpan hret hnorm => ?_)
 repeat (first | (refine is_list ?_; first | (refine s_pe hF J J J J ?_; clear hF; intro a hF) | (refine is_call ?_; refine s_call hF hH J J J J J (countOf_MinProperties _ _ _ _ (hO.later hH)) ?_; clear hF hH; intro a w x hx hF hH) | (refine s_bs hF hH J J J J J J J J J J ?_; clear hF hH; intro a b w hF hH)) | refine c_seq (fun K hK => ?_) | refine wp_region_lit ?_ | (refine c_nilK hK ?_; clear hK) | refine c_true hF rfl ?_ | refine c_false hF rfl ?_ | refine wp_block ?_ | refine wp_ret ?_ | refine wp_skip ?_ | (refine e_ret ?_; clear hK) | refine e_bnormal ?_ | (refine e_thenK hK ?_; clear hK))
 exact hret _ _ (c_ret4 hF J J J J J ⟨_, trivial, rfl, hH⟩)
theorem countOf_MaxProperties (kb : Nat) (gt wt : Int) (w : World) (hO : Old w kb [.int .i64 gt, .int .i64 wt]) : Ct 100 [.iface 307 (.pointer (some ⟨kb, 0, none⟩))] w (fun _ : Unit => .tuple #[.string ⟨#[77, 97, 120, 80, 114, 111, 112, 101, 114, 116, 105, 101, 115]⟩, .int .i64 gt, .int .i64 wt, .bool true]) (fun _ => []) (fun _ => True) := by
 unfold Ct
 refine c_enter (n := 79) (L := [(0, .iface 307 (.pointer (some ⟨kb, 0, none⟩)))]) Tryz.func100 J J J J ?_
 intro a hF
 have hH := Hp.start w
 refine c_open (fun Q hpan hret hnorm => ?_)
 repeat (first | (refine is_list ?_; refine s_pe hF J J J J ?_; clear hF; intro a hF) | (refine is_draw ?_; first | (refine d_pe hF J J J J J J ?_; clear hF; intro a hF) | (refine is_dload rfl ?_; refine d_ldo hO hF hS J J J J J J J ?_; clear hF; intro a hF)) | (refine c_dnilK hK ?_; clear hS hK) | refine c_seq (fun K hK => ?_) | refine wp_region_lit ?_ | (refine c_nilK hK ?_; clear hK) | refine c_true hF rfl ?_ | refine c_false hF rfl ?_ | (refine is_region ?_; refine is_region (id := 19) ?_; refine c_drawn [] [0, 1, 2, 3, 4, 5, 6, 7, 8, 9, 10, 11] hH (by kernel_rfl) (by repeat (first | refine pan_then ?_ | refine pan_block ?_ | exact hpan)) ?_; clear hH; intro w hH; have hS := hH) | refine wp_block ?_ | refine wp_ret ?_ | (refine e_ret ?_; clear hK) | refine e_bret ?_)
 exact hret _ _ (c_ret4 hF J J J J J ⟨(), trivial, rfl, hH⟩)
theorem kindOf_MaxProperties (kb : Nat) (gt wt : Int) (w : World) (hO : Old w kb [.int .i64 gt, .int .i64 wt]) : Ct 54 [.iface 307 (.pointer (some ⟨kb, 0, none⟩))] w (fun b : Nat => .tuple #[.string ⟨#[77, 97, 120, 80, 114, 111, 112, 101, 114, 116, 105, 101, 115]⟩, .string ⟨#[]⟩, .slice none 0 0, .slice (some ⟨b, 0, none⟩) 2 2]) (fun b => [(b, .cells #[.int .i64 gt, .int .i64 wt] 3)]) (fun _ => True) := by
 unfold Ct
 refine c_enter (n := 163) (L := [(0, .iface 307 (.pointer (some ⟨kb, 0, none⟩)))]) Tryz.func54 J J J J ?_
 intro a hF
 have hH := Hp.start w
 refine c_open (fun Q hpan hret hnorm => ?_)
 repeat (first | (refine is_list ?_; first | (refine s_pe hF J J J J ?_; clear hF; intro a hF) | (refine is_call ?_; refine s_call hF hH J J J J J (countOf_MaxProperties _ _ _ _ (hO.later hH)) ?_; clear hF hH; intro a w x hx hF hH) | (refine s_bs hF hH J J J J J J J J J J ?_; clear hF hH; intro a b w hF hH)) | refine c_seq (fun K hK => ?_) | refine wp_region_lit ?_ | (refine c_nilK hK ?_; clear hK) | refine c_true hF rfl ?_ | refine c_false hF rfl ?_ | refine wp_block ?_ | refine wp_ret ?_ | refine wp_skip ?_ | (refine e_ret ?_; clear hK) | refine e_bnormal ?_ | (refine e_thenK hK ?_; clear hK))
 exact hret _ _ (c_ret4 hF J J J J J ⟨_, trivial, rfl, hH⟩)
theorem len64_0 (w : World) : Ct 160 [.int .u64 0] w (fun _ : Unit => .int .i64 0) (fun _ => []) (fun _ => True) := by
 unfold Ct
 refine c_enter (n := 25) (L := [(0, .int .u64 0)]) Tryz.func160 J J J J ?_
 intro a hF
 have hH := Hp.start w
 refine c_open (fun Q hpan hret hnorm => ?_)
 repeat (first | (refine is_list ?_; (first | refine s_pe hF J J J J ?_ | refine s_pe2 hF J J J J ?_); clear hF; intro a hF) | refine c_seq (fun K hK => ?_) | refine wp_region_lit ?_ | (refine c_nilK hK ?_; clear hK) | refine c_false hF rfl ?_ | refine wp_ret ?_ | refine wp_skip ?_ | (refine e_thenK hK ?_; clear hK))
 exact hret _ _ (c_ret1 hF J J ⟨(), trivial, rfl, hH⟩)
theorem len_0 (w : World) : Ct 103 [.int .u64 0] w (fun _ : Unit => .int .i64 0) (fun _ => []) (fun _ => True) := by
 unfold Ct
 refine c_enter (n := 8) (L := [(0, .int .u64 0)]) Tryz.func103 J J J J ?_
 intro a hF
 have hH := Hp.start w
 refine c_open (fun Q hpan hret hnorm => ?_)
 repeat (first | (refine is_list ?_; first | (refine s_pe hF J J J J ?_; clear hF; intro a hF) | (refine is_call ?_; refine s_call hF hH J J J J J (len64_0 _) ?_; clear hF hH; intro a w x hx hF hH)) | refine c_seq (fun K hK => ?_) | refine wp_region_lit ?_ | (refine c_nilK hK ?_; clear hK) | refine c_false hF rfl ?_ | refine wp_ret ?_ | refine wp_skip ?_ | (refine e_thenK hK ?_; clear hK))
 exact hret _ _ (c_ret1 hF J J ⟨(), trivial, rfl, hH⟩)
theorem insertion_0 (x y : Value) (w : World) : Ct 151 [x, .int .i64 0, .int .i64 0, y] w (fun _ : Unit => .tuple #[]) (fun _ => []) (fun _ => True) := by
 unfold Ct
 refine c_enter (n := 53) (L := [(3, y), (2, .int .i64 0), (1, .int .i64 0), (0, x)]) Tryz.func151 J J J J ?_
 intro a hF
 have hH := Hp.start w
 refine c_open (fun Q hpan hret hnorm => ?_)
 repeat (first | (refine is_list ?_; refine s_pe hF J J J J ?_; clear hF; intro a hF) | refine c_seq (fun K hK => ?_) | refine wp_region_lit ?_ | (refine c_nilK hK ?_; clear hK) | refine c_false hF rfl ?_ | refine wp_block ?_ | refine wp_loop_rounds 1 (c_roundK 0 (fun K hK => ?_)) | refine wp_exit ?_ | (refine e_exit ?_; clear hK) | refine e_bexit rfl ?_)
 first | exact hnorm _ _ (c_end0 hF rfl ⟨(), trivial, rfl, hH⟩) | exact c_nil' (hnorm _ _ (c_end0 hF rfl ⟨(), trivial, rfl, hH⟩))
theorem pdq_0 (x y : Value) (w : World) : Ct 102 [x, .int .i64 0, .int .i64 0, .int .i64 0, y] w (fun _ : Unit => .tuple #[]) (fun _ => []) (fun _ => True) := by
 unfold Ct
 refine c_enter (n := 148) (L := [(4, y), (3, .int .i64 0), (2, .int .i64 0), (1, .int .i64 0), (0, x)]) Tryz.func102 J J J J ?_
 intro a hF
 have hH := Hp.start w
 refine c_open (fun Q hpan hret hnorm => ?_)
 repeat (first | (refine is_list ?_; first | (refine s_pe hF J J J J ?_; clear hF; intro a hF) | (refine is_call ?_; refine s_call hF hH J J J J J (insertion_0 _ _ _) ?_; clear hF hH; intro a w x hx hF hH)) | refine c_seq (fun K hK => ?_) | refine wp_region_lit ?_ | (refine c_nilK hK ?_; clear hK) | refine c_true hF rfl ?_ | refine wp_block ?_ | refine wp_loop_rounds 1 (c_roundK 0 (fun K hK => ?_)) | refine wp_ret ?_ | (refine e_ret ?_; clear hK) | refine e_bret ?_)
 first | exact hret _ _ (c_ret0 hF rfl ⟨(), trivial, rfl, hH⟩)
theorem sortFunc_0 (A : Option Addr) (cc : Nat) (y : Value) (w : World) : Ct 55 [.slice A 0 cc, y] w (fun _ : Unit => .tuple #[]) (fun _ => []) (fun _ => True) := by
 unfold Ct
 refine c_enter (n := 14) (L := [(1, y), (0, .slice A 0 cc)]) Tryz.func55 J J J J ?_
 intro a hF
 have hH := Hp.start w
 refine c_open (fun Q hpan hret hnorm => ?_)
 repeat (first | (refine is_list ?_; first | (refine s_pe hF J J J J ?_; clear hF; intro a hF) | (refine is_call ?_; (first | refine s_call hF hH J J J J J (len_0 _) ?_ | refine s_call hF hH J J J J J (pdq_0 _ _ _) ?_); clear hF hH; intro a w x hx hF hH) | (refine s_pe2 hF J J J J ?_; clear hF; intro a hF)) | refine c_seq (fun K hK => ?_) | refine wp_region_lit ?_ | (refine c_nilK hK ?_; clear hK))
 first | exact hnorm _ _ (c_end0 hF rfl ⟨(), trivial, rfl, hH⟩) | exact c_nil' (hnorm _ _ (c_end0 hF rfl ⟨(), trivial, rfl, hH⟩))
theorem len64_1 (w : World) : Ct 160 [.int .u64 1] w (fun _ : Unit => .int .i64 1) (fun _ => []) (fun _ => True) := by
 unfold Ct
 refine c_enter (n := 25) (L := [(0, .int .u64 1)]) Tryz.func160 J J J J ?_
 intro a hF
 have hH := Hp.start w
 refine c_open (fun Q hpan hret hnorm => ?_)
 repeat (first | (refine is_list ?_; (first | refine s_pe hF J J J J ?_ | refine s_pe2 hF J J J J ?_); clear hF; intro a hF) | refine c_seq (fun K hK => ?_) | refine wp_region_lit ?_ | (refine c_nilK hK ?_; clear hK) | refine c_false hF rfl ?_ | refine wp_ret ?_ | refine wp_skip ?_ | (refine e_thenK hK ?_; clear hK))
 exact hret _ _ (c_ret1 hF J J ⟨(), trivial, rfl, hH⟩)
theorem len_1 (w : World) : Ct 103 [.int .u64 1] w (fun _ : Unit => .int .i64 1) (fun _ => []) (fun _ => True) := by
 unfold Ct
 refine c_enter (n := 8) (L := [(0, .int .u64 1)]) Tryz.func103 J J J J ?_
 intro a hF
 have hH := Hp.start w
 refine c_open (fun Q hpan hret hnorm => ?_)
 repeat (first | (refine is_list ?_; first | (refine s_pe hF J J J J ?_; clear hF; intro a hF) | (refine is_call ?_; refine s_call hF hH J J J J J (len64_1 _) ?_; clear hF hH; intro a w x hx hF hH)) | refine c_seq (fun K hK => ?_) | refine wp_region_lit ?_ | (refine c_nilK hK ?_; clear hK) | refine c_false hF rfl ?_ | refine wp_ret ?_ | refine wp_skip ?_ | (refine e_thenK hK ?_; clear hK))
 exact hret _ _ (c_ret1 hF J J ⟨(), trivial, rfl, hH⟩)
theorem insertion_1 (x y : Value) (w : World) : Ct 151 [x, .int .i64 0, .int .i64 1, y] w (fun _ : Unit => .tuple #[]) (fun _ => []) (fun _ => True) := by
 unfold Ct
 refine c_enter (n := 53) (L := [(3, y), (2, .int .i64 1), (1, .int .i64 0), (0, x)]) Tryz.func151 J J J J ?_
 intro a hF
 have hH := Hp.start w
 refine c_open (fun Q hpan hret hnorm => ?_)
 repeat (first | (refine is_list ?_; refine s_pe hF J J J J ?_; clear hF; intro a hF) | refine c_seq (fun K hK => ?_) | refine wp_region_lit ?_ | (refine c_nilK hK ?_; clear hK) | refine c_false hF rfl ?_ | refine wp_block ?_ | refine wp_loop_rounds 1 (c_roundK 0 (fun K hK => ?_)) | refine wp_exit ?_ | (refine e_exit ?_; clear hK) | refine e_bexit rfl ?_)
 first | exact hnorm _ _ (c_end0 hF rfl ⟨(), trivial, rfl, hH⟩) | exact c_nil' (hnorm _ _ (c_end0 hF rfl ⟨(), trivial, rfl, hH⟩))
theorem pdq_1 (x y : Value) (w : World) : Ct 102 [x, .int .i64 0, .int .i64 1, .int .i64 1, y] w (fun _ : Unit => .tuple #[]) (fun _ => []) (fun _ => True) := by
 unfold Ct
 refine c_enter (n := 148) (L := [(4, y), (3, .int .i64 1), (2, .int .i64 1), (1, .int .i64 0), (0, x)]) Tryz.func102 J J J J ?_
 intro a hF
 have hH := Hp.start w
 refine c_open (fun Q hpan hret hnorm => ?_)
 repeat (first | (refine is_list ?_; first | (refine s_pe hF J J J J ?_; clear hF; intro a hF) | (refine is_call ?_; refine s_call hF hH J J J J J (insertion_1 _ _ _) ?_; clear hF hH; intro a w x hx hF hH)) | refine c_seq (fun K hK => ?_) | refine wp_region_lit ?_ | (refine c_nilK hK ?_; clear hK) | refine c_true hF rfl ?_ | refine wp_block ?_ | refine wp_loop_rounds 1 (c_roundK 0 (fun K hK => ?_)) | refine wp_ret ?_ | (refine e_ret ?_; clear hK) | refine e_bret ?_)
 first | exact hret _ _ (c_ret0 hF rfl ⟨(), trivial, rfl, hH⟩)
theorem sortFunc_1 (A : Option Addr) (cc : Nat) (y : Value) (w : World) : Ct 55 [.slice A 1 cc, y] w (fun _ : Unit => .tuple #[]) (fun _ => []) (fun _ => True) := by
 unfold Ct
 refine c_enter (n := 14) (L := [(1, y), (0, .slice A 1 cc)]) Tryz.func55 J J J J ?_
 intro a hF
 have hH := Hp.start w
 refine c_open (fun Q hpan hret hnorm => ?_)
 repeat (first | (refine is_list ?_; first | (refine s_pe hF J J J J ?_; clear hF; intro a hF) | (refine is_call ?_; (first | refine s_call hF hH J J J J J (len_1 _) ?_ | refine s_call hF hH J J J J J (pdq_1 _ _ _) ?_); clear hF hH; intro a w x hx hF hH) | (refine s_pe2 hF J J J J ?_; clear hF; intro a hF)) | refine c_seq (fun K hK => ?_) | refine wp_region_lit ?_ | (refine c_nilK hK ?_; clear hK))
 first | exact hnorm _ _ (c_end0 hF rfl ⟨(), trivial, rfl, hH⟩) | exact c_nil' (hnorm _ _ (c_end0 hF rfl ⟨(), trivial, rfl, hH⟩))
end Go.Proofs.YtlkikblohnnlcaaGreatDoor.Y
end
section
namespace Go.Proofs.YtlkikblohnnlcaaGreatDoor.Y
open Go Go.RowKit X
set_option linter.unusedVariables false
set_option maxRecDepth 4000
attribute [local irreducible] wpList dL Code.wp bodyPost Ct Calls Exit.then Exit.inBlock Code.rounds
set_option maxHeartbeats 0
theorem errorOf_MinItems (b q kb : Nat) (gt wt : Int) (w : World) (hO : Old w b [.string ⟨#[49]⟩, .slice (some ⟨q, 0, none⟩) 0 0, .iface 296 (.pointer (some ⟨kb, 0, none⟩)), .slice none 0 0]) (hP : Old w kb [.int .i64 gt, .int .i64 wt]) : Ct 28 [.pointer (some ⟨b, 0, none⟩)] w (fun p : Nat × Nat × Nat × Nat × List Value => .agg #[.string ⟨#[49]⟩, .string ⟨#[77, 105, 110, 73, 116, 101, 109, 115]⟩, .slice (some ⟨p.1, 0, none⟩) 1 p.2.1, .slice (some ⟨p.2.2.1, 0, none⟩) 0 0, .string ⟨#[]⟩, .slice none 0 0, .slice (some ⟨p.2.2.2.1, 0, none⟩) 2 2, .slice none 0 0]) (fun p => [(p.1, .cells (.string ⟨#[109, 105, 110, 73, 116, 101, 109, 115]⟩ :: p.2.2.2.2).toArray 9), (p.2.2.2.1, .cells #[.int .i64 gt, .int .i64 wt] 3)]) (fun _ => True) := by
 unfold Ct
 refine c_enter (n := 63) (L := [(0, .pointer (some ⟨b, 0, none⟩))]) Tryz.func28 J J J J ?_
 intro a hF
 have hH := Hp.start w
 refine c_open (fun Q hpan hret hnorm => ?_)
 repeat (first | (refine is_list ?_; refine s_al hF hH J J J J ?_; clear hF hH; intro a b w hF hH) | refine c_seq (fun K hK => ?_) | refine wp_region_lit ?_ | (refine c_nilK hK ?_; clear hK))
 refine is_region (id := 1) ?_
 refine c_planQ [11] [0, 1, 2, 3, 4, 5, 6, 7] [8, 10] [8] 9 [11] hH (by kernel_rfl) (by repeat (first | refine pan_then ?_ | refine pan_block ?_ | exact hpan)) ?_
 clear hH; intro w hH; have hS := hH
 repeat (refine is_draw ?_; first | (refine d_pe hF J J J J J J ?_; clear hF; intro a hF) | (refine is_dload rfl ?_; refine d_ldo hO hF hS J J J J J J J ?_; clear hF; intro a hF))
 refine d_seg ?_
 refine gq2 hF hH hS J J J J (mk_ct J J J J J J (fun w hS => copied_0 _ _ _)) (mk_al J J J J J) ?_ ?_
 ·rintro _ _ ⟨ab, _, rfl, rfl⟩
  exact ⟨_, rfl, rfl⟩
 clear hF hH hS
 rintro a w _ _ _ _ v0 ⟨ab, _, rfl, rfl⟩ ⟨xb, rfl, rfl⟩ hF hv hH hS
 obtain rfl := pe_val hF rfl hv w
 clear hv
 repeat (first | (refine is_list ?_; first | (refine s_pe hF J J J J ?_; clear hF; intro a hF) | (refine is_load ?_; (first | refine s_ld 2 hF hH J J J J J J J ?_ | refine s_lda 2 hF hH J J J J J J J ?_ | refine s_ldo hO hF hH J J J J J J ?_); clear hF; intro a hF) | (refine is_store ?_; (first | refine s_st 1 hF hH J J J J J J J J J ?_ | refine s_st 2 hF hH J J J J J J J J J ?_); clear hH; intro w hH) | (refine is_call ?_; first | (refine s_invC hF hH J J J J (by kernel_rfl) J J (path_258 _ _) ?_; clear hF hH; intro a w x hx hF hH) | (refine s_callM hF J J J J J (copied_1 _ _ _ _ _ hH) ?_; rintro e w ⟨pb, c, Z, rfl, hH1⟩; refine ⟨_, rfl, ?_⟩; clear hF hH; intro a hF; have hH := hH1; clear hH1) | ((first | refine s_call hF hH J J J J J (kindOf_MinItems _ _ _ _ (hP.later hH)) ?_ | refine s_call hF hH J J J J J (sortFunc_0 _ _ _ _) ?_); clear hF hH; intro a w x hx hF hH)) | (refine s_sta 3 hF hH J J J J J J J J J J ?_; clear hH; intro w hH)) | (refine is_draw ?_; refine d_sta 0 hF hH J J J J J J J J J J J J ?_; clear hH; intro w hH) | (refine c_dnilK hK ?_; clear hS hK) | refine c_seq (fun K hK => ?_) | refine wp_region_lit ?_ | (refine c_nilK hK ?_; clear hK) | refine c_true hF rfl ?_ | refine c_false hF rfl ?_ | refine wp_block ?_ | refine wp_loop_rounds 1 (c_roundK 0 (fun K hK => ?_)) | refine wp_exit ?_ | refine wp_ret ?_ | (refine e_exit ?_; clear hK) | refine e_bexit rfl ?_ | (refine e_thenK hK ?_; clear hK))
 exact hret _ _ (c_retC 3 hF hH J J J J J ⟨(_, _, _, _, _), trivial, rfl, (hH.front 1 rfl).mid 2 2⟩)
theorem errorOf_MaxItems (b q kb : Nat) (gt wt : Int) (w : World) (hO : Old w b [.string ⟨#[49]⟩, .slice (some ⟨q, 0, none⟩) 0 0, .iface 299 (.pointer (some ⟨kb, 0, none⟩)), .slice none 0 0]) (hP : Old w kb [.int .i64 gt, .int .i64 wt]) : Ct 28 [.pointer (some ⟨b, 0, none⟩)] w (fun p : Nat × Nat × Nat × Nat × List Value => .agg #[.string ⟨#[49]⟩, .string ⟨#[77, 97, 120, 73, 116, 101, 109, 115]⟩, .slice (some ⟨p.1, 0, none⟩) 1 p.2.1, .slice (some ⟨p.2.2.1, 0, none⟩) 0 0, .string ⟨#[]⟩, .slice none 0 0, .slice (some ⟨p.2.2.2.1, 0, none⟩) 2 2, .slice none 0 0]) (fun p => [(p.1, .cells (.string ⟨#[109, 97, 120, 73, 116, 101, 109, 115]⟩ :: p.2.2.2.2).toArray 9), (p.2.2.2.1, .cells #[.int .i64 gt, .int .i64 wt] 3)]) (fun _ => True) := by
 unfold Ct
 refine c_enter (n := 63) (L := [(0, .pointer (some ⟨b, 0, none⟩))]) Tryz.func28 J J J J ?_
 intro a hF
 have hH := Hp.start w
 refine c_open (fun Q hpan hret hnorm => ?_)
 repeat (first | (refine is_list ?_; refine s_al hF hH J J J J ?_; clear hF hH; intro a b w hF hH) | refine c_seq (fun K hK => ?_) | refine wp_region_lit ?_ | (refine c_nilK hK ?_; clear hK))
 refine is_region (id := 1) ?_
 refine c_planQ [11] [0, 1, 2, 3, 4, 5, 6, 7] [8, 10] [8] 9 [11] hH (by kernel_rfl) (by repeat (first | refine pan_then ?_ | refine pan_block ?_ | exact hpan)) ?_
 clear hH; intro w hH; have hS := hH
 repeat (refine is_draw ?_; first | (refine d_pe hF J J J J J J ?_; clear hF; intro a hF) | (refine is_dload rfl ?_; refine d_ldo hO hF hS J J J J J J J ?_; clear hF; intro a hF))
 refine d_seg ?_
 refine gq2 hF hH hS J J J J (mk_ct J J J J J J (fun w hS => copied_0 _ _ _)) (mk_al J J J J J) ?_ ?_
 ·rintro _ _ ⟨ab, _, rfl, rfl⟩
  exact ⟨_, rfl, rfl⟩
 clear hF hH hS
 rintro a w _ _ _ _ v0 ⟨ab, _, rfl, rfl⟩ ⟨xb, rfl, rfl⟩ hF hv hH hS
 obtain rfl := pe_val hF rfl hv w
 clear hv
 repeat (first | (refine is_list ?_; first | (refine s_pe hF J J J J ?_; clear hF; intro a hF) | (refine is_load ?_; (first | refine s_ld 2 hF hH J J J J J J J ?_ | refine s_lda 2 hF hH J J J J J J J ?_ | refine s_ldo hO hF hH J J J J J J ?_); clear hF; intro a hF) | (refine is_store ?_; (first | refine s_st 1 hF hH J J J J J J J J J ?_ | refine s_st 2 hF hH J J J J J J J J J ?_); clear hH; intro w hH) | (refine is_call ?_; first | (refine s_invC hF hH J J J J (by kernel_rfl) J J (path_259 _ _) ?_; clear hF hH; intro a w x hx hF hH) | (refine s_callM hF J J J J J (copied_1 _ _ _ _ _ hH) ?_; rintro e w ⟨pb, c, Z, rfl, hH1⟩; refine ⟨_, rfl, ?_⟩; clear hF hH; intro a hF; have hH := hH1; clear hH1) | ((first | refine s_call hF hH J J J J J (kindOf_MaxItems _ _ _ _ (hP.later hH)) ?_ | refine s_call hF hH J J J J J (sortFunc_0 _ _ _ _) ?_); clear hF hH; intro a w x hx hF hH)) | (refine s_sta 3 hF hH J J J J J J J J J J ?_; clear hH; intro w hH)) | (refine is_draw ?_; refine d_sta 0 hF hH J J J J J J J J J J J J ?_; clear hH; intro w hH) | (refine c_dnilK hK ?_; clear hS hK) | refine c_seq (fun K hK => ?_) | refine wp_region_lit ?_ | (refine c_nilK hK ?_; clear hK) | refine c_true hF rfl ?_ | refine c_false hF rfl ?_ | refine wp_block ?_ | refine wp_loop_rounds 1 (c_roundK 0 (fun K hK => ?_)) | refine wp_exit ?_ | refine wp_ret ?_ | (refine e_exit ?_; clear hK) | refine e_bexit rfl ?_ | (refine e_thenK hK ?_; clear hK))
 exact hret _ _ (c_retC 3 hF hH J J J J J ⟨(_, _, _, _, _), trivial, rfl, (hH.front 1 rfl).mid 2 2⟩)
theorem errorOf_MinLength (b q kb : Nat) (gt wt : Int) (w : World) (hO : Old w b [.string ⟨#[49]⟩, .slice (some ⟨q, 0, none⟩) 0 0, .iface 301 (.pointer (some ⟨kb, 0, none⟩)), .slice none 0 0]) (hP : Old w kb [.int .i64 gt, .int .i64 wt]) : Ct 28 [.pointer (some ⟨b, 0, none⟩)] w (fun p : Nat × Nat × Nat × Nat × List Value => .agg #[.string ⟨#[49]⟩, .string ⟨#[77, 105, 110, 76, 101, 110, 103, 116, 104]⟩, .slice (some ⟨p.1, 0, none⟩) 1 p.2.1, .slice (some ⟨p.2.2.1, 0, none⟩) 0 0, .string ⟨#[]⟩, .slice none 0 0, .slice (some ⟨p.2.2.2.1, 0, none⟩) 2 2, .slice none 0 0]) (fun p => [(p.1, .cells (.string ⟨#[109, 105, 110, 76, 101, 110, 103, 116, 104]⟩ :: p.2.2.2.2).toArray 9), (p.2.2.2.1, .cells #[.int .i64 gt, .int .i64 wt] 3)]) (fun _ => True) := by
 unfold Ct
 refine c_enter (n := 63) (L := [(0, .pointer (some ⟨b, 0, none⟩))]) Tryz.func28 J J J J ?_
 intro a hF
 have hH := Hp.start w
 refine c_open (fun Q hpan hret hnorm => ?_)
 repeat (first | (refine is_list ?_; refine s_al hF hH J J J J ?_; clear hF hH; intro a b w hF hH) | refine c_seq (fun K hK => ?_) | refine wp_region_lit ?_ | (refine c_nilK hK ?_; clear hK))
 refine is_region (id := 1) ?_
 refine c_planQ [11] [0, 1, 2, 3, 4, 5, 6, 7] [8, 10] [8] 9 [11] hH (by kernel_rfl) (by repeat (first | refine pan_then ?_ | refine pan_block ?_ | exact hpan)) ?_
 clear hH; intro w hH; have hS := hH
 repeat (refine is_draw ?_; first | (refine d_pe hF J J J J J J ?_; clear hF; intro a hF) | (refine is_dload rfl ?_; refine d_ldo hO hF hS J J J J J J J ?_; clear hF; intro a hF))
 refine d_seg ?_
 refine gq2 hF hH hS J J J J (mk_ct J J J J J J (fun w hS => copied_0 _ _ _)) (mk_al J J J J J) ?_ ?_
 ·rintro _ _ ⟨ab, _, rfl, rfl⟩
  exact ⟨_, rfl, rfl⟩
 clear hF hH hS
 rintro a w _ _ _ _ v0 ⟨ab, _, rfl, rfl⟩ ⟨xb, rfl, rfl⟩ hF hv hH hS
 obtain rfl := pe_val hF rfl hv w
 clear hv
 repeat (first | (refine is_list ?_; first | (refine s_pe hF J J J J ?_; clear hF; intro a hF) | (refine is_load ?_; (first | refine s_ld 2 hF hH J J J J J J J ?_ | refine s_lda 2 hF hH J J J J J J J ?_ | refine s_ldo hO hF hH J J J J J J ?_); clear hF; intro a hF) | (refine is_store ?_; (first | refine s_st 1 hF hH J J J J J J J J J ?_ | refine s_st 2 hF hH J J J J J J J J J ?_); clear hH; intro w hH) | (refine is_call ?_; first | (refine s_invC hF hH J J J J (by kernel_rfl) J J (path_260 _ _) ?_; clear hF hH; intro a w x hx hF hH) | (refine s_callM hF J J J J J (copied_1 _ _ _ _ _ hH) ?_; rintro e w ⟨pb, c, Z, rfl, hH1⟩; refine ⟨_, rfl, ?_⟩; clear hF hH; intro a hF; have hH := hH1; clear hH1) | ((first | refine s_call hF hH J J J J J (kindOf_MinLength _ _ _ _ (hP.later hH)) ?_ | refine s_call hF hH J J J J J (sortFunc_0 _ _ _ _) ?_); clear hF hH; intro a w x hx hF hH)) | (refine s_sta 3 hF hH J J J J J J J J J J ?_; clear hH; intro w hH)) | (refine is_draw ?_; refine d_sta 0 hF hH J J J J J J J J J J J J ?_; clear hH; intro w hH) | (refine c_dnilK hK ?_; clear hS hK) | refine c_seq (fun K hK => ?_) | refine wp_region_lit ?_ | (refine c_nilK hK ?_; clear hK) | refine c_true hF rfl ?_ | refine c_false hF rfl ?_ | refine wp_block ?_ | refine wp_loop_rounds 1 (c_roundK 0 (fun K hK => ?_)) | refine wp_exit ?_ | refine wp_ret ?_ | (refine e_exit ?_; clear hK) | refine e_bexit rfl ?_ | (refine e_thenK hK ?_; clear hK))
 exact hret _ _ (c_retC 3 hF hH J J J J J ⟨(_, _, _, _, _), trivial, rfl, (hH.front 1 rfl).mid 2 2⟩)
theorem errorOf_MaxLength (b q kb : Nat) (gt wt : Int) (w : World) (hO : Old w b [.string ⟨#[49]⟩, .slice (some ⟨q, 0, none⟩) 0 0, .iface 303 (.pointer (some ⟨kb, 0, none⟩)), .slice none 0 0]) (hP : Old w kb [.int .i64 gt, .int .i64 wt]) : Ct 28 [.pointer (some ⟨b, 0, none⟩)] w (fun p : Nat × Nat × Nat × Nat × List Value => .agg #[.string ⟨#[49]⟩, .string ⟨#[77, 97, 120, 76, 101, 110, 103, 116, 104]⟩, .slice (some ⟨p.1, 0, none⟩) 1 p.2.1, .slice (some ⟨p.2.2.1, 0, none⟩) 0 0, .string ⟨#[]⟩, .slice none 0 0, .slice (some ⟨p.2.2.2.1, 0, none⟩) 2 2, .slice none 0 0]) (fun p => [(p.1, .cells (.string ⟨#[109, 97, 120, 76, 101, 110, 103, 116, 104]⟩ :: p.2.2.2.2).toArray 9), (p.2.2.2.1, .cells #[.int .i64 gt, .int .i64 wt] 3)]) (fun _ => True) := by
 unfold Ct
 refine c_enter (n := 63) (L := [(0, .pointer (some ⟨b, 0, none⟩))]) Tryz.func28 J J J J ?_
 intro a hF
 have hH := Hp.start w
 refine c_open (fun Q hpan hret hnorm => ?_)
 repeat (first | (refine is_list ?_; refine s_al hF hH J J J J ?_; clear hF hH; intro a b w hF hH) | refine c_seq (fun K hK => ?_) | refine wp_region_lit ?_ | (refine c_nilK hK ?_; clear hK))
 refine is_region (id := 1) ?_
 refine c_planQ [11] [0, 1, 2, 3, 4, 5, 6, 7] [8, 10] [8] 9 [11] hH (by kernel_rfl) (by repeat (first | refine pan_then ?_ | refine pan_block ?_ | exact hpan)) ?_
 clear hH; intro w hH; have hS := hH
 repeat (refine is_draw ?_; first | (refine d_pe hF J J J J J J ?_; clear hF; intro a hF) | (refine is_dload rfl ?_; refine d_ldo hO hF hS J J J J J J J ?_; clear hF; intro a hF))
 refine d_seg ?_
 refine gq2 hF hH hS J J J J (mk_ct J J J J J J (fun w hS => copied_0 _ _ _)) (mk_al J J J J J) ?_ ?_
 ·rintro _ _ ⟨ab, _, rfl, rfl⟩
  exact ⟨_, rfl, rfl⟩
 clear hF hH hS
 rintro a w _ _ _ _ v0 ⟨ab, _, rfl, rfl⟩ ⟨xb, rfl, rfl⟩ hF hv hH hS
 obtain rfl := pe_val hF rfl hv w
 clear hv
 repeat (first | (refine is_list ?_; first | (refine s_pe hF J J J J ?_; clear hF; intro a hF) | (refine is_load ?_; (first | refine s_ld 2 hF hH J J J J J J J ?_ | refine s_lda 2 hF hH J J J J J J J ?_ | refine s_ldo hO hF hH J J J J J J ?_); clear hF; intro a hF) | (refine is_store ?_; (first | refine s_st 1 hF hH J J J J J J J J J ?_ | refine s_st 2 hF hH J J J J J J J J J ?_); clear hH; intro w hH) | (refine is_call ?_; first | (refine s_invC hF hH J J J J (by kernel_rfl) J J (path_261 _ _) ?_; clear hF hH; intro a w x hx hF hH) | (refine s_callM hF J J J J J (copied_1 _ _ _ _ _ hH) ?_; rintro e w ⟨pb, c, Z, rfl, hH1⟩; refine ⟨_, rfl, ?_⟩; clear hF hH; intro a hF; have hH := hH1; clear hH1) | ((first | refine s_call hF hH J J J J J (kindOf_MaxLength _ _ _ _ (hP.later hH)) ?_ | refine s_call hF hH J J J J J (sortFunc_0 _ _ _ _) ?_); clear hF hH; intro a w x hx hF hH)) | (refine s_sta 3 hF hH J J J J J J J J J J ?_; clear hH; intro w hH)) | (refine is_draw ?_; refine d_sta 0 hF hH J J J J J J J J J J J J ?_; clear hH; intro w hH) | (refine c_dnilK hK ?_; clear hS hK) | refine c_seq (fun K hK => ?_) | refine wp_region_lit ?_ | (refine c_nilK hK ?_; clear hK) | refine c_true hF rfl ?_ | refine c_false hF rfl ?_ | refine wp_block ?_ | refine wp_loop_rounds 1 (c_roundK 0 (fun K hK => ?_)) | refine wp_exit ?_ | refine wp_ret ?_ | (refine e_exit ?_; clear hK) | refine e_bexit rfl ?_ | (refine e_thenK hK ?_; clear hK))
 exact hret _ _ (c_retC 3 hF hH J J J J J ⟨(_, _, _, _, _), trivial, rfl, (hH.front 1 rfl).mid 2 2⟩)
theorem errorOf_MinProperties (b q kb : Nat) (gt wt : Int) (w : World) (hO : Old w b [.string ⟨#[49]⟩, .slice (some ⟨q, 0, none⟩) 0 0, .iface 305 (.pointer (some ⟨kb, 0, none⟩)), .slice none 0 0]) (hP : Old w kb [.int .i64 gt, .int .i64 wt]) : Ct 28 [.pointer (some ⟨b, 0, none⟩)] w (fun p : Nat × Nat × Nat × Nat × List Value => .agg #[.string ⟨#[49]⟩, .string ⟨#[77, 105, 110, 80, 114, 111, 112, 101, 114, 116, 105, 101, 115]⟩, .slice (some ⟨p.1, 0, none⟩) 1 p.2.1, .slice (some ⟨p.2.2.1, 0, none⟩) 0 0, .string ⟨#[]⟩, .slice none 0 0, .slice (some ⟨p.2.2.2.1, 0, none⟩) 2 2, .slice none 0 0]) (fun p => [(p.1, .cells (.string ⟨#[109, 105, 110, 80, 114, 111, 112, 101, 114, 116, 105, 101, 115]⟩ :: p.2.2.2.2).toArray 9), (p.2.2.2.1, .cells #[.int .i64 gt, .int .i64 wt] 3)]) (fun _ => True) := by
 unfold Ct
 refine c_enter (n := 63) (L := [(0, .pointer (some ⟨b, 0, none⟩))]) Tryz.func28 J J J J ?_
 intro a hF
 have hH := Hp.start w
 refine c_open (fun Q hpan hret hnorm => ?_)
 repeat (first | (refine is_list ?_; refine s_al hF hH J J J J ?_; clear hF hH; intro a b w hF hH) | refine c_seq (fun K hK => ?_) | refine wp_region_lit ?_ | (refine c_nilK hK ?_; clear hK))
 refine is_region (id := 1) ?_
 refine c_planQ [11] [0, 1, 2, 3, 4, 5, 6, 7] [8, 10] [8] 9 [11] hH (by kernel_rfl) (by repeat (first | refine pan_then ?_ | refine pan_block ?_ | exact hpan)) ?_
 clear hH; intro w hH; have hS := hH
 repeat (refine is_draw ?_; first | (refine d_pe hF J J J J J J ?_; clear hF; intro a hF) | (refine is_dload rfl ?_; refine d_ldo hO hF hS J J J J J J J ?_; clear hF; intro a hF))
 refine d_seg ?_
 refine gq2 hF hH hS J J J J (mk_ct J J J J J J (fun w hS => copied_0 _ _ _)) (mk_al J J J J J) ?_ ?_
 ·rintro _ _ ⟨ab, _, rfl, rfl⟩
  exact ⟨_, rfl, rfl⟩
 clear hF hH hS
 rintro a w _ _ _ _ v0 ⟨ab, _, rfl, rfl⟩ ⟨xb, rfl, rfl⟩ hF hv hH hS
 obtain rfl := pe_val hF rfl hv w
 clear hv
 repeat (first | (refine is_list ?_; first | (refine s_pe hF J J J J ?_; clear hF; intro a hF) | (refine is_load ?_; (first | refine s_ld 2 hF hH J J J J J J J ?_ | refine s_lda 2 hF hH J J J J J J J ?_ | refine s_ldo hO hF hH J J J J J J ?_); clear hF; intro a hF) | (refine is_store ?_; (first | refine s_st 1 hF hH J J J J J J J J J ?_ | refine s_st 2 hF hH J J J J J J J J J ?_); clear hH; intro w hH) | (refine is_call ?_; first | (refine s_invC hF hH J J J J (by kernel_rfl) J J (path_262 _ _) ?_; clear hF hH; intro a w x hx hF hH) | (refine s_callM hF J J J J J (copied_1 _ _ _ _ _ hH) ?_; rintro e w ⟨pb, c, Z, rfl, hH1⟩; refine ⟨_, rfl, ?_⟩; clear hF hH; intro a hF; have hH := hH1; clear hH1) | ((first | refine s_call hF hH J J J J J (kindOf_MinProperties _ _ _ _ (hP.later hH)) ?_ | refine s_call hF hH J J J J J (sortFunc_0 _ _ _ _) ?_); clear hF hH; intro a w x hx hF hH)) | (refine s_sta 3 hF hH J J J J J J J J J J ?_; clear hH; intro w hH)) | (refine is_draw ?_; refine d_sta 0 hF hH J J J J J J J J J J J J ?_; clear hH; intro w hH) | (refine c_dnilK hK ?_; clear hS hK) | refine c_seq (fun K hK => ?_) | refine wp_region_lit ?_ | (refine c_nilK hK ?_; clear hK) | refine c_true hF rfl ?_ | refine c_false hF rfl ?_ | refine wp_block ?_ | refine wp_loop_rounds 1 (c_roundK 0 (fun K hK => ?_)) | refine wp_exit ?_ | refine wp_ret ?_ | (refine e_exit ?_; clear hK) | refine e_bexit rfl ?_ | (refine e_thenK hK ?_; clear hK))
 exact hret _ _ (c_retC 3 hF hH J J J J J ⟨(_, _, _, _, _), trivial, rfl, (hH.front 1 rfl).mid 2 2⟩)
theorem errorOf_MaxProperties (b q kb : Nat) (gt wt : Int) (w : World) (hO : Old w b [.string ⟨#[49]⟩, .slice (some ⟨q, 0, none⟩) 0 0, .iface 307 (.pointer (some ⟨kb, 0, none⟩)), .slice none 0 0]) (hP : Old w kb [.int .i64 gt, .int .i64 wt]) : Ct 28 [.pointer (some ⟨b, 0, none⟩)] w (fun p : Nat × Nat × Nat × Nat × List Value => .agg #[.string ⟨#[49]⟩, .string ⟨#[77, 97, 120, 80, 114, 111, 112, 101, 114, 116, 105, 101, 115]⟩, .slice (some ⟨p.1, 0, none⟩) 1 p.2.1, .slice (some ⟨p.2.2.1, 0, none⟩) 0 0, .string ⟨#[]⟩, .slice none 0 0, .slice (some ⟨p.2.2.2.1, 0, none⟩) 2 2, .slice none 0 0]) (fun p => [(p.1, .cells (.string ⟨#[109, 97, 120, 80, 114, 111, 112, 101, 114, 116, 105, 101, 115]⟩ :: p.2.2.2.2).toArray 9), (p.2.2.2.1, .cells #[.int .i64 gt, .int .i64 wt] 3)]) (fun _ => True) := by
 unfold Ct
 refine c_enter (n := 63) (L := [(0, .pointer (some ⟨b, 0, none⟩))]) Tryz.func28 J J J J ?_
 intro a hF
 have hH := Hp.start w
 refine c_open (fun Q hpan hret hnorm => ?_)
 repeat (first | (refine is_list ?_; refine s_al hF hH J J J J ?_; clear hF hH; intro a b w hF hH) | refine c_seq (fun K hK => ?_) | refine wp_region_lit ?_ | (refine c_nilK hK ?_; clear hK))
 refine is_region (id := 1) ?_
 refine c_planQ [11] [0, 1, 2, 3, 4, 5, 6, 7] [8, 10] [8] 9 [11] hH (by kernel_rfl) (by repeat (first | refine pan_then ?_ | refine pan_block ?_ | exact hpan)) ?_
 clear hH; intro w hH; have hS := hH
 repeat (refine is_draw ?_; first | (refine d_pe hF J J J J J J ?_; clear hF; intro a hF) | (refine is_dload rfl ?_; refine d_ldo hO hF hS J J J J J J J ?_; clear hF; intro a hF))
 refine d_seg ?_
 refine gq2 hF hH hS J J J J (mk_ct J J J J J J (fun w hS => copied_0 _ _ _)) (mk_al J J J J J) ?_ ?_
 ·rintro _ _ ⟨ab, _, rfl, rfl⟩
  exact ⟨_, rfl, rfl⟩
 clear hF hH hS
 rintro a w _ _ _ _ v0 ⟨ab, _, rfl, rfl⟩ ⟨xb, rfl, rfl⟩ hF hv hH hS
 obtain rfl := pe_val hF rfl hv w
 clear hv
 repeat (first | (refine is_list ?_; first | (refine s_pe hF J J J J ?_; clear hF; intro a hF) | (refine is_load ?_; (first | refine s_ld 2 hF hH J J J J J J J ?_ | refine s_lda 2 hF hH J J J J J J J ?_ | refine s_ldo hO hF hH J J J J J J ?_); clear hF; intro a hF) | (refine is_store ?_; (first | refine s_st 1 hF hH J J J J J J J J J ?_ | refine s_st 2 hF hH J J J J J J J J J ?_); clear hH; intro w hH) | (refine is_call ?_; first | (refine s_invC hF hH J J J J (by kernel_rfl) J J (path_263 _ _) ?_; clear hF hH; intro a w x hx hF hH) | (refine s_callM hF J J J J J (copied_1 _ _ _ _ _ hH) ?_; rintro e w ⟨pb, c, Z, rfl, hH1⟩; refine ⟨_, rfl, ?_⟩; clear hF hH; intro a hF; have hH := hH1; clear hH1) | ((first | refine s_call hF hH J J J J J (kindOf_MaxProperties _ _ _ _ (hP.later hH)) ?_ | refine s_call hF hH J J J J J (sortFunc_0 _ _ _ _) ?_); clear hF hH; intro a w x hx hF hH)) | (refine s_sta 3 hF hH J J J J J J J J J J ?_; clear hH; intro w hH)) | (refine is_draw ?_; refine d_sta 0 hF hH J J J J J J J J J J J J ?_; clear hH; intro w hH) | (refine c_dnilK hK ?_; clear hS hK) | refine c_seq (fun K hK => ?_) | refine wp_region_lit ?_ | (refine c_nilK hK ?_; clear hK) | refine c_true hF rfl ?_ | refine c_false hF rfl ?_ | refine wp_block ?_ | refine wp_loop_rounds 1 (c_roundK 0 (fun K hK => ?_)) | refine wp_exit ?_ | refine wp_ret ?_ | (refine e_exit ?_; clear hK) | refine e_bexit rfl ?_ | (refine e_thenK hK ?_; clear hK))
 exact hret _ _ (c_retC 3 hF hH J J J J J ⟨(_, _, _, _, _), trivial, rfl, (hH.front 1 rfl).mid 2 2⟩)
theorem errorOf_FalseSchema (b q kb : Nat) (w : World) (hO : Old w b [.string ⟨#[49]⟩, .slice (some ⟨q, 0, none⟩) 0 0, .iface 265 (.pointer (some ⟨kb, 0, none⟩)), .slice none 0 0]) : Ct 28 [.pointer (some ⟨b, 0, none⟩)] w (fun p : Nat × Nat => .agg #[.string ⟨#[49]⟩, .string ⟨#[70, 97, 108, 115, 101, 83, 99, 104, 101, 109, 97]⟩, .slice (some ⟨p.1, 0, none⟩) 0 0, .slice (some ⟨p.2, 0, none⟩) 0 0, .string ⟨#[]⟩, .slice none 0 0, .slice none 0 0, .slice none 0 0]) (fun _ => []) (fun _ => True) := by
 unfold Ct
 refine c_enter (n := 63) (L := [(0, .pointer (some ⟨b, 0, none⟩))]) Tryz.func28 J J J J ?_
 intro a hF
 have hH := Hp.start w
 refine c_open (fun Q hpan hret hnorm => ?_)
 repeat (first | (refine is_list ?_; refine s_al hF hH J J J J ?_; clear hF hH; intro a b w hF hH) | refine c_seq (fun K hK => ?_) | refine wp_region_lit ?_ | (refine c_nilK hK ?_; clear hK))
 refine is_region (id := 1) ?_
 refine c_planQ [11] [0, 1, 2, 3, 4, 5, 6, 7] [8, 10] [8] 9 [11] hH (by kernel_rfl) (by repeat (first | refine pan_then ?_ | refine pan_block ?_ | exact hpan)) ?_
 clear hH; intro w hH; have hS := hH
 repeat (refine is_draw ?_; first | (refine d_pe hF J J J J J J ?_; clear hF; intro a hF) | (refine is_dload rfl ?_; refine d_ldo hO hF hS J J J J J J J ?_; clear hF; intro a hF))
 refine d_seg ?_
 refine gq2 hF hH hS J J J J (mk_ct J J J J J J (fun w hS => copied_0 _ _ _)) (mk_al J J J J J) ?_ ?_
 ·rintro _ _ ⟨ab, _, rfl, rfl⟩
  exact ⟨_, rfl, rfl⟩
 clear hF hH hS
 rintro a w _ _ _ _ v0 ⟨ab, _, rfl, rfl⟩ ⟨xb, rfl, rfl⟩ hF hv hH hS
 obtain rfl := pe_val hF rfl hv w
 clear hv
 repeat (first | (refine is_list ?_; first | (refine s_pe hF J J J J ?_; clear hF; intro a hF) | (refine is_load ?_; (first | refine s_ld 0 hF hH J J J J J J J ?_ | refine s_lda 0 hF hH J J J J J J J ?_ | refine s_ldo hO hF hH J J J J J J ?_); clear hF; intro a hF) | (refine is_store ?_; refine s_st 0 hF hH J J J J J J J J J ?_; clear hH; intro w hH) | (refine is_call ?_; (first | refine s_invC hF hH J J J J (by kernel_rfl) J J (path_252 _ _) ?_ | refine s_call hF hH J J J J J (copied_0 _ _ _) ?_ | refine s_call hF hH J J J J J (kindOf_FalseSchema _ _) ?_ | refine s_call hF hH J J J J J (sortFunc_0 _ _ _ _) ?_); clear hF hH; intro a w x hx hF hH) | (refine s_sta 1 hF hH J J J J J J J J J J ?_; clear hH; intro w hH)) | (refine is_draw ?_; refine d_sta 0 hF hH J J J J J J J J J J J J ?_; clear hH; intro w hH) | (refine c_dnilK hK ?_; clear hS hK) | refine c_seq (fun K hK => ?_) | refine wp_region_lit ?_ | (refine c_nilK hK ?_; clear hK) | refine c_true hF rfl ?_ | refine c_false hF rfl ?_ | refine wp_block ?_ | refine wp_loop_rounds 1 (c_roundK 0 (fun K hK => ?_)) | refine wp_exit ?_ | refine wp_ret ?_ | (refine e_exit ?_; clear hK) | refine e_bexit rfl ?_ | (refine e_thenK hK ?_; clear hK))
 exact hret _ _ (c_retC 1 hF hH J J J J J ⟨(_, _), trivial, rfl, hH.mid 0 2⟩)
structure Er where
 p0 : Nat
 a0 : Nat
 kd : Nat
 kc : Nat
 pb : Nat
 pc : Nat
 ab : Nat
 nb : Nat
 Z2 : List Value
 Z : List Value
theorem errorTop_MinItems (ob k2 cb b q kb : Nat) (gt wt : Int) (w : World) (hE : Old w ob [.string ⟨#[49]⟩, .slice none 0 0, .iface 185 (.pointer (some ⟨k2, 0, none⟩)), .slice (some ⟨cb, 0, none⟩) 1 1]) (hC : Old w cb [.pointer (some ⟨b, 0, none⟩)]) (hO : Old w b [.string ⟨#[49]⟩, .slice (some ⟨q, 0, none⟩) 0 0, .iface 296 (.pointer (some ⟨kb, 0, none⟩)), .slice none 0 0]) (hP : Old w kb [.int .i64 gt, .int .i64 wt]) : Ct 28 [.pointer (some ⟨ob, 0, none⟩)] w (fun p : Er => .agg #[.string ⟨#[49]⟩, .string ⟨#[83, 99, 104, 101, 109, 97]⟩, .slice (some ⟨p.p0, 0, none⟩) 0 0, .slice (some ⟨p.a0, 0, none⟩) 0 0, .string ⟨#[]⟩, .slice none 0 0, .slice none 0 0, .slice (some ⟨p.kd, 0, none⟩) 1 p.kc]) (fun p => [(p.kd, .cells ([.string ⟨#[49]⟩, .string ⟨#[77, 105, 110, 73, 116, 101, 109, 115]⟩, .slice (some ⟨p.pb, 0, none⟩) 1 p.pc, .slice (some ⟨p.ab, 0, none⟩) 0 0, .string ⟨#[]⟩, .slice none 0 0, .slice (some ⟨p.nb, 0, none⟩) 2 2, .slice none 0 0] ++ p.Z2 : List Value).toArray 50), (p.pb, .cells (.string ⟨#[109, 105, 110, 73, 116, 101, 109, 115]⟩ :: p.Z).toArray 9), (p.nb, .cells #[.int .i64 gt, .int .i64 wt] 3)]) (fun _ => True) := by
 unfold Ct
 refine c_enter (n := 63) (L := [(0, .pointer (some ⟨ob, 0, none⟩))]) Tryz.func28 J J J J ?_
 intro a hF
 have hH := Hp.start w
 refine c_open (fun Q hpan hret hnorm => ?_)
 repeat (first | (refine is_list ?_; refine s_al hF hH J J J J ?_; clear hF hH; intro a b w hF hH) | refine c_seq (fun K hK => ?_) | refine wp_region_lit ?_ | (refine c_nilK hK ?_; clear hK))
 refine is_region (id := 1) ?_
 refine c_planQ [11] [0, 1, 2, 3, 4, 5, 6, 7] [8, 10] [8] 9 [11] hH (by kernel_rfl) (by repeat (first | refine pan_then ?_ | refine pan_block ?_ | exact hpan)) ?_
 clear hH; intro w hH; have hS := hH
 repeat (refine is_draw ?_; first | (refine d_pe hF J J J J J J ?_; clear hF; intro a hF) | (refine is_dload rfl ?_; refine d_ldo hE hF hS J J J J J J J ?_; clear hF; intro a hF))
 refine d_seg ?_
 refine gq2 hF hH hS J J J J (mk_ct J J J J J J (fun w hS => copied_0 _ _ _)) (mk_al J J J J J) ?_ ?_
 ·rintro _ _ ⟨ab, _, rfl, rfl⟩
  exact ⟨_, rfl, rfl⟩
 clear hF hH hS
 rintro a w _ _ _ _ v0 ⟨ab, _, rfl, rfl⟩ ⟨xb, rfl, rfl⟩ hF hv hH hS
 obtain rfl := pe_val hF rfl hv w
 clear hv
 repeat (first | (refine is_list ?_; first | (refine s_pe hF J J J J ?_; clear hF; intro a hF) | (refine is_load ?_; (first | refine s_ld 4 hF hH J J J J J J J ?_ | refine s_lda 4 hF hH J J J J J J J ?_ | refine s_ldo hE hF hH J J J J J J ?_ | refine s_ldo hC hF hH J J J J J J ?_); clear hF; intro a hF) | (refine is_store ?_; refine s_st 0 hF hH J J J J J J J J J ?_; clear hH; intro w hH) | (refine is_call ?_; (first | refine s_invC hF hH J J J J (by kernel_rfl) J J (path_239 _ _) ?_ | refine s_call hF hH J J J J J (copied_0 _ _ _) ?_ | refine s_call hF hH J J J J J (kindOf_Schema _ _) ?_ | refine s_call hF hH J J J J J (sortFunc_1 _ _ _ _) ?_); clear hF hH; intro a w x hx hF hH) | (refine s_ix hF J J J J J J J ?_; clear hF; intro a hF) | (refine s_sta 5 hF hH J J J J J J J J J J ?_; clear hH; intro w hH)) | (refine is_draw ?_; first | (refine d_pe hF J J J J J J ?_; clear hF; intro a hF) | (refine is_dload rfl ?_; refine d_ld 0 hF hS J J J J J J J J ?_; clear hF; intro a hF) | (refine is_dstore rfl ?_; refine d_st 4 hF hH J J J J J J J J J J J ?_; clear hH; intro w hH) | (refine is_dcall rfl ?_; refine d_call hF hH hS J J J J J J (errorOf_MinItems _ _ _ _ _ _ (hO.later hH) (hP.later hH)) ?_; clear hF hH hS; intro a w x hx hF hH hS) | (refine d_sta 0 hF hH J J J J J J J J J J J J ?_; clear hH; intro w hH) | (refine d_bsA hF hH hS J J J J J J J J J J ?_; clear hF hH hS; intro a b w hF hH hS) | (refine d_app 0 hF hH hS J J J J J J J J J J J J J J J ?_; clear hF hH hS; intro a b cc Z w hcc hF hH hS)) | (refine c_dnilK hK ?_; clear hS hK) | (refine c_dnilB ?_; clear hS) | refine c_seq (fun K hK => ?_) | refine wp_region_lit ?_ | (refine c_nilK hK ?_; clear hK) | refine c_true hF rfl ?_ | refine c_false hF rfl ?_ | (refine is_region ?_; refine is_region (id := 8) ?_; refine c_drawn [7] [0, 1, 2, 3, 4, 5, 6, 7] hH (by kernel_rfl) (by repeat (first | refine pan_then ?_ | refine pan_block ?_ | exact hpan)) ?_; clear hH; intro w hH; have hS := hH) | refine wp_block ?_ | refine wp_loop_rounds 2 (c_roundK 1 (fun K hK => ?_)) | refine c_roundK 0 (fun K hK => ?_) | refine wp_exit ?_ | refine wp_ret ?_ | refine wp_skip ?_ | (refine e_exit ?_; clear hK) | refine e_bexit rfl ?_ | (refine e_thenK hK ?_; clear hK))
 exact hret _ _ (c_retC 5 hF hH J J J J J ⟨⟨_, _, _, _, _, _, _, _, _, _⟩, trivial, rfl, (hH.rm 1 rfl).mid 3 2⟩)
theorem errorTop_MaxItems (ob k2 cb b q kb : Nat) (gt wt : Int) (w : World) (hE : Old w ob [.string ⟨#[49]⟩, .slice none 0 0, .iface 185 (.pointer (some ⟨k2, 0, none⟩)), .slice (some ⟨cb, 0, none⟩) 1 1]) (hC : Old w cb [.pointer (some ⟨b, 0, none⟩)]) (hO : Old w b [.string ⟨#[49]⟩, .slice (some ⟨q, 0, none⟩) 0 0, .iface 299 (.pointer (some ⟨kb, 0, none⟩)), .slice none 0 0]) (hP : Old w kb [.int .i64 gt, .int .i64 wt]) : Ct 28 [.pointer (some ⟨ob, 0, none⟩)] w (fun p : Er => .agg #[.string ⟨#[49]⟩, .string ⟨#[83, 99, 104, 101, 109, 97]⟩, .slice (some ⟨p.p0, 0, none⟩) 0 0, .slice (some ⟨p.a0, 0, none⟩) 0 0, .string ⟨#[]⟩, .slice none 0 0, .slice none 0 0, .slice (some ⟨p.kd, 0, none⟩) 1 p.kc]) (fun p => [(p.kd, .cells ([.string ⟨#[49]⟩, .string ⟨#[77, 97, 120, 73, 116, 101, 109, 115]⟩, .slice (some ⟨p.pb, 0, none⟩) 1 p.pc, .slice (some ⟨p.ab, 0, none⟩) 0 0, .string ⟨#[]⟩, .slice none 0 0, .slice (some ⟨p.nb, 0, none⟩) 2 2, .slice none 0 0] ++ p.Z2 : List Value).toArray 50), (p.pb, .cells (.string ⟨#[109, 97, 120, 73, 116, 101, 109, 115]⟩ :: p.Z).toArray 9), (p.nb, .cells #[.int .i64 gt, .int .i64 wt] 3)]) (fun _ => True) := by
 unfold Ct
 refine c_enter (n := 63) (L := [(0, .pointer (some ⟨ob, 0, none⟩))]) Tryz.func28 J J J J ?_
 intro a hF
 have hH := Hp.start w
 refine c_open (fun Q hpan hret hnorm => ?_)
 repeat (first | (refine is_list ?_; refine s_al hF hH J J J J ?_; clear hF hH; intro a b w hF hH) | refine c_seq (fun K hK => ?_) | refine wp_region_lit ?_ | (refine c_nilK hK ?_; clear hK))
 refine is_region (id := 1) ?_
 refine c_planQ [11] [0, 1, 2, 3, 4, 5, 6, 7] [8, 10] [8] 9 [11] hH (by kernel_rfl) (by repeat (first | refine pan_then ?_ | refine pan_block ?_ | exact hpan)) ?_
 clear hH; intro w hH; have hS := hH
 repeat (refine is_draw ?_; first | (refine d_pe hF J J J J J J ?_; clear hF; intro a hF) | (refine is_dload rfl ?_; refine d_ldo hE hF hS J J J J J J J ?_; clear hF; intro a hF))
 refine d_seg ?_
 refine gq2 hF hH hS J J J J (mk_ct J J J J J J (fun w hS => copied_0 _ _ _)) (mk_al J J J J J) ?_ ?_
 ·rintro _ _ ⟨ab, _, rfl, rfl⟩
  exact ⟨_, rfl, rfl⟩
 clear hF hH hS
 rintro a w _ _ _ _ v0 ⟨ab, _, rfl, rfl⟩ ⟨xb, rfl, rfl⟩ hF hv hH hS
 obtain rfl := pe_val hF rfl hv w
 clear hv
 repeat (first | (refine is_list ?_; first | (refine s_pe hF J J J J ?_; clear hF; intro a hF) | (refine is_load ?_; (first | refine s_ld 4 hF hH J J J J J J J ?_ | refine s_lda 4 hF hH J J J J J J J ?_ | refine s_ldo hE hF hH J J J J J J ?_ | refine s_ldo hC hF hH J J J J J J ?_); clear hF; intro a hF) | (refine is_store ?_; refine s_st 0 hF hH J J J J J J J J J ?_; clear hH; intro w hH) | (refine is_call ?_; (first | refine s_invC hF hH J J J J (by kernel_rfl) J J (path_239 _ _) ?_ | refine s_call hF hH J J J J J (copied_0 _ _ _) ?_ | refine s_call hF hH J J J J J (kindOf_Schema _ _) ?_ | refine s_call hF hH J J J J J (sortFunc_1 _ _ _ _) ?_); clear hF hH; intro a w x hx hF hH) | (refine s_ix hF J J J J J J J ?_; clear hF; intro a hF) | (refine s_sta 5 hF hH J J J J J J J J J J ?_; clear hH; intro w hH)) | (refine is_draw ?_; first | (refine d_pe hF J J J J J J ?_; clear hF; intro a hF) | (refine is_dload rfl ?_; refine d_ld 0 hF hS J J J J J J J J ?_; clear hF; intro a hF) | (refine is_dstore rfl ?_; refine d_st 4 hF hH J J J J J J J J J J J ?_; clear hH; intro w hH) | (refine is_dcall rfl ?_; refine d_call hF hH hS J J J J J J (errorOf_MaxItems _ _ _ _ _ _ (hO.later hH) (hP.later hH)) ?_; clear hF hH hS; intro a w x hx hF hH hS) | (refine d_sta 0 hF hH J J J J J J J J J J J J ?_; clear hH; intro w hH) | (refine d_bsA hF hH hS J J J J J J J J J J ?_; clear hF hH hS; intro a b w hF hH hS) | (refine d_app 0 hF hH hS J J J J J J J J J J J J J J J ?_; clear hF hH hS; intro a b cc Z w hcc hF hH hS)) | (refine c_dnilK hK ?_; clear hS hK) | (refine c_dnilB ?_; clear hS) | refine c_seq (fun K hK => ?_) | refine wp_region_lit ?_ | (refine c_nilK hK ?_; clear hK) | refine c_true hF rfl ?_ | refine c_false hF rfl ?_ | (refine is_region ?_; refine is_region (id := 8) ?_; refine c_drawn [7] [0, 1, 2, 3, 4, 5, 6, 7] hH (by kernel_rfl) (by repeat (first | refine pan_then ?_ | refine pan_block ?_ | exact hpan)) ?_; clear hH; intro w hH; have hS := hH) | refine wp_block ?_ | refine wp_loop_rounds 2 (c_roundK 1 (fun K hK => ?_)) | refine c_roundK 0 (fun K hK => ?_) | refine wp_exit ?_ | refine wp_ret ?_ | refine wp_skip ?_ | (refine e_exit ?_; clear hK) | refine e_bexit rfl ?_ | (refine e_thenK hK ?_; clear hK))
 exact hret _ _ (c_retC 5 hF hH J J J J J ⟨⟨_, _, _, _, _, _, _, _, _, _⟩, trivial, rfl, (hH.rm 1 rfl).mid 3 2⟩)
theorem errorTop_MinLength (ob k2 cb b q kb : Nat) (gt wt : Int) (w : World) (hE : Old w ob [.string ⟨#[49]⟩, .slice none 0 0, .iface 185 (.pointer (some ⟨k2, 0, none⟩)), .slice (some ⟨cb, 0, none⟩) 1 1]) (hC : Old w cb [.pointer (some ⟨b, 0, none⟩)]) (hO : Old w b [.string ⟨#[49]⟩, .slice (some ⟨q, 0, none⟩) 0 0, .iface 301 (.pointer (some ⟨kb, 0, none⟩)), .slice none 0 0]) (hP : Old w kb [.int .i64 gt, .int .i64 wt]) : Ct 28 [.pointer (some ⟨ob, 0, none⟩)] w (fun p : Er => .agg #[.string ⟨#[49]⟩, .string ⟨#[83, 99, 104, 101, 109, 97]⟩, .slice (some ⟨p.p0, 0, none⟩) 0 0, .slice (some ⟨p.a0, 0, none⟩) 0 0, .string ⟨#[]⟩, .slice none 0 0, .slice none 0 0, .slice (some ⟨p.kd, 0, none⟩) 1 p.kc]) (fun p => [(p.kd, .cells ([.string ⟨#[49]⟩, .string ⟨#[77, 105, 110, 76, 101, 110, 103, 116, 104]⟩, .slice (some ⟨p.pb, 0, none⟩) 1 p.pc, .slice (some ⟨p.ab, 0, none⟩) 0 0, .string ⟨#[]⟩, .slice none 0 0, .slice (some ⟨p.nb, 0, none⟩) 2 2, .slice none 0 0] ++ p.Z2 : List Value).toArray 50), (p.pb, .cells (.string ⟨#[109, 105, 110, 76, 101, 110, 103, 116, 104]⟩ :: p.Z).toArray 9), (p.nb, .cells #[.int .i64 gt, .int .i64 wt] 3)]) (fun _ => True) := by
 unfold Ct
 refine c_enter (n := 63) (L := [(0, .pointer (some ⟨ob, 0, none⟩))]) Tryz.func28 J J J J ?_
 intro a hF
 have hH := Hp.start w
 refine c_open (fun Q hpan hret hnorm => ?_)
 repeat (first | (refine is_list ?_; refine s_al hF hH J J J J ?_; clear hF hH; intro a b w hF hH) | refine c_seq (fun K hK => ?_) | refine wp_region_lit ?_ | (refine c_nilK hK ?_; clear hK))
 refine is_region (id := 1) ?_
 refine c_planQ [11] [0, 1, 2, 3, 4, 5, 6, 7] [8, 10] [8] 9 [11] hH (by kernel_rfl) (by repeat (first | refine pan_then ?_ | refine pan_block ?_ | exact hpan)) ?_
 clear hH; intro w hH; have hS := hH
 repeat (refine is_draw ?_; first | (refine d_pe hF J J J J J J ?_; clear hF; intro a hF) | (refine is_dload rfl ?_; refine d_ldo hE hF hS J J J J J J J ?_; clear hF; intro a hF))
 refine d_seg ?_
 refine gq2 hF hH hS J J J J (mk_ct J J J J J J (fun w hS => copied_0 _ _ _)) (mk_al J J J J J) ?_ ?_
 ·rintro _ _ ⟨ab, _, rfl, rfl⟩
  exact ⟨_, rfl, rfl⟩
 clear hF hH hS
 rintro a w _ _ _ _ v0 ⟨ab, _, rfl, rfl⟩ ⟨xb, rfl, rfl⟩ hF hv hH hS
 obtain rfl := pe_val hF rfl hv w
 clear hv
 repeat (first | (refine is_list ?_; first | (refine s_pe hF J J J J ?_; clear hF; intro a hF) | (refine is_load ?_; (first | refine s_ld 4 hF hH J J J J J J J ?_ | refine s_lda 4 hF hH J J J J J J J ?_ | refine s_ldo hE hF hH J J J J J J ?_ | refine s_ldo hC hF hH J J J J J J ?_); clear hF; intro a hF) | (refine is_store ?_; refine s_st 0 hF hH J J J J J J J J J ?_; clear hH; intro w hH) | (refine is_call ?_; (first | refine s_invC hF hH J J J J (by kernel_rfl) J J (path_239 _ _) ?_ | refine s_call hF hH J J J J J (copied_0 _ _ _) ?_ | refine s_call hF hH J J J J J (kindOf_Schema _ _) ?_ | refine s_call hF hH J J J J J (sortFunc_1 _ _ _ _) ?_); clear hF hH; intro a w x hx hF hH) | (refine s_ix hF J J J J J J J ?_; clear hF; intro a hF) | (refine s_sta 5 hF hH J J J J J J J J J J ?_; clear hH; intro w hH)) | (refine is_draw ?_; first | (refine d_pe hF J J J J J J ?_; clear hF; intro a hF) | (refine is_dload rfl ?_; refine d_ld 0 hF hS J J J J J J J J ?_; clear hF; intro a hF) | (refine is_dstore rfl ?_; refine d_st 4 hF hH J J J J J J J J J J J ?_; clear hH; intro w hH) | (refine is_dcall rfl ?_; refine d_call hF hH hS J J J J J J (errorOf_MinLength _ _ _ _ _ _ (hO.later hH) (hP.later hH)) ?_; clear hF hH hS; intro a w x hx hF hH hS) | (refine d_sta 0 hF hH J J J J J J J J J J J J ?_; clear hH; intro w hH) | (refine d_bsA hF hH hS J J J J J J J J J J ?_; clear hF hH hS; intro a b w hF hH hS) | (refine d_app 0 hF hH hS J J J J J J J J J J J J J J J ?_; clear hF hH hS; intro a b cc Z w hcc hF hH hS)) | (refine c_dnilK hK ?_; clear hS hK) | (refine c_dnilB ?_; clear hS) | refine c_seq (fun K hK => ?_) | refine wp_region_lit ?_ | (refine c_nilK hK ?_; clear hK) | refine c_true hF rfl ?_ | refine c_false hF rfl ?_ | (refine is_region ?_; refine is_region (id := 8) ?_; refine c_drawn [7] [0, 1, 2, 3, 4, 5, 6, 7] hH (by kernel_rfl) (by repeat (first | refine pan_then ?_ | refine pan_block ?_ | exact hpan)) ?_; clear hH; intro w hH; have hS := hH) | refine wp_block ?_ | refine wp_loop_rounds 2 (c_roundK 1 (fun K hK => ?_)) | refine c_roundK 0 (fun K hK => ?_) | refine wp_exit ?_ | refine wp_ret ?_ | refine wp_skip ?_ | (refine e_exit ?_; clear hK) | refine e_bexit rfl ?_ | (refine e_thenK hK ?_; clear hK))
 exact hret _ _ (c_retC 5 hF hH J J J J J ⟨⟨_, _, _, _, _, _, _, _, _, _⟩, trivial, rfl, (hH.rm 1 rfl).mid 3 2⟩)
theorem errorTop_MaxLength (ob k2 cb b q kb : Nat) (gt wt : Int) (w : World) (hE : Old w ob [.string ⟨#[49]⟩, .slice none 0 0, .iface 185 (.pointer (some ⟨k2, 0, none⟩)), .slice (some ⟨cb, 0, none⟩) 1 1]) (hC : Old w cb [.pointer (some ⟨b, 0, none⟩)]) (hO : Old w b [.string ⟨#[49]⟩, .slice (some ⟨q, 0, none⟩) 0 0, .iface 303 (.pointer (some ⟨kb, 0, none⟩)), .slice none 0 0]) (hP : Old w kb [.int .i64 gt, .int .i64 wt]) : Ct 28 [.pointer (some ⟨ob, 0, none⟩)] w (fun p : Er => .agg #[.string ⟨#[49]⟩, .string ⟨#[83, 99, 104, 101, 109, 97]⟩, .slice (some ⟨p.p0, 0, none⟩) 0 0, .slice (some ⟨p.a0, 0, none⟩) 0 0, .string ⟨#[]⟩, .slice none 0 0, .slice none 0 0, .slice (some ⟨p.kd, 0, none⟩) 1 p.kc]) (fun p => [(p.kd, .cells ([.string ⟨#[49]⟩, .string ⟨#[77, 97, 120, 76, 101, 110, 103, 116, 104]⟩, .slice (some ⟨p.pb, 0, none⟩) 1 p.pc, .slice (some ⟨p.ab, 0, none⟩) 0 0, .string ⟨#[]⟩, .slice none 0 0, .slice (some ⟨p.nb, 0, none⟩) 2 2, .slice none 0 0] ++ p.Z2 : List Value).toArray 50), (p.pb, .cells (.string ⟨#[109, 97, 120, 76, 101, 110, 103, 116, 104]⟩ :: p.Z).toArray 9), (p.nb, .cells #[.int .i64 gt, .int .i64 wt] 3)]) (fun _ => True) := by
 unfold Ct
 refine c_enter (n := 63) (L := [(0, .pointer (some ⟨ob, 0, none⟩))]) Tryz.func28 J J J J ?_
 intro a hF
 have hH := Hp.start w
 refine c_open (fun Q hpan hret hnorm => ?_)
 repeat (first | (refine is_list ?_; refine s_al hF hH J J J J ?_; clear hF hH; intro a b w hF hH) | refine c_seq (fun K hK => ?_) | refine wp_region_lit ?_ | (refine c_nilK hK ?_; clear hK))
 refine is_region (id := 1) ?_
 refine c_planQ [11] [0, 1, 2, 3, 4, 5, 6, 7] [8, 10] [8] 9 [11] hH (by kernel_rfl) (by repeat (first | refine pan_then ?_ | refine pan_block ?_ | exact hpan)) ?_
 clear hH; intro w hH; have hS := hH
 repeat (refine is_draw ?_; first | (refine d_pe hF J J J J J J ?_; clear hF; intro a hF) | (refine is_dload rfl ?_; refine d_ldo hE hF hS J J J J J J J ?_; clear hF; intro a hF))
 refine d_seg ?_
 refine gq2 hF hH hS J J J J (mk_ct J J J J J J (fun w hS => copied_0 _ _ _)) (mk_al J J J J J) ?_ ?_
 ·rintro _ _ ⟨ab, _, rfl, rfl⟩
  exact ⟨_, rfl, rfl⟩
 clear hF hH hS
 rintro a w _ _ _ _ v0 ⟨ab, _, rfl, rfl⟩ ⟨xb, rfl, rfl⟩ hF hv hH hS
 obtain rfl := pe_val hF rfl hv w
 clear hv
 repeat (first | (refine is_list ?_; first | (refine s_pe hF J J J J ?_; clear hF; intro a hF) | (refine is_load ?_; (first | refine s_ld 4 hF hH J J J J J J J ?_ | refine s_lda 4 hF hH J J J J J J J ?_ | refine s_ldo hE hF hH J J J J J J ?_ | refine s_ldo hC hF hH J J J J J J ?_); clear hF; intro a hF) | (refine is_store ?_; refine s_st 0 hF hH J J J J J J J J J ?_; clear hH; intro w hH) | (refine is_call ?_; (first | refine s_invC hF hH J J J J (by kernel_rfl) J J (path_239 _ _) ?_ | refine s_call hF hH J J J J J (copied_0 _ _ _) ?_ | refine s_call hF hH J J J J J (kindOf_Schema _ _) ?_ | refine s_call hF hH J J J J J (sortFunc_1 _ _ _ _) ?_); clear hF hH; intro a w x hx hF hH) | (refine s_ix hF J J J J J J J ?_; clear hF; intro a hF) | (refine s_sta 5 hF hH J J J J J J J J J J ?_; clear hH; intro w hH)) | (refine is_draw ?_; first | (refine d_pe hF J J J J J J ?_; clear hF; intro a hF) | (refine is_dload rfl ?_; refine d_ld 0 hF hS J J J J J J J J ?_; clear hF; intro a hF) | (refine is_dstore rfl ?_; refine d_st 4 hF hH J J J J J J J J J J J ?_; clear hH; intro w hH) | (refine is_dcall rfl ?_; refine d_call hF hH hS J J J J J J (errorOf_MaxLength _ _ _ _ _ _ (hO.later hH) (hP.later hH)) ?_; clear hF hH hS; intro a w x hx hF hH hS) | (refine d_sta 0 hF hH J J J J J J J J J J J J ?_; clear hH; intro w hH) | (refine d_bsA hF hH hS J J J J J J J J J J ?_; clear hF hH hS; intro a b w hF hH hS) | (refine d_app 0 hF hH hS J J J J J J J J J J J J J J J ?_; clear hF hH hS; intro a b cc Z w hcc hF hH hS)) | (refine c_dnilK hK ?_; clear hS hK) | (refine c_dnilB ?_; clear hS) | refine c_seq (fun K hK => ?_) | refine wp_region_lit ?_ | (refine c_nilK hK ?_; clear hK) | refine c_true hF rfl ?_ | refine c_false hF rfl ?_ | (refine is_region ?_; refine is_region (id := 8) ?_; refine c_drawn [7] [0, 1, 2, 3, 4, 5, 6, 7] hH (by kernel_rfl) (by repeat (first | refine pan_then ?_ | refine pan_block ?_ | exact hpan)) ?_; clear hH; intro w hH; have hS := hH) | refine wp_block ?_ | refine wp_loop_rounds 2 (c_roundK 1 (fun K hK => ?_)) | refine c_roundK 0 (fun K hK => ?_) | refine wp_exit ?_ | refine wp_ret ?_ | refine wp_skip ?_ | (refine e_exit ?_; clear hK) | refine e_bexit rfl ?_ | (refine e_thenK hK ?_; clear hK))
 exact hret _ _ (c_retC 5 hF hH J J J J J ⟨⟨_, _, _, _, _, _, _, _, _, _⟩, trivial, rfl, (hH.rm 1 rfl).mid 3 2⟩)
theorem errorTop_MinProperties (ob k2 cb b q kb : Nat) (gt wt : Int) (w : World) (hE : Old w ob [.string ⟨#[49]⟩, .slice none 0 0, .iface 185 (.pointer (some ⟨k2, 0, none⟩)), .slice (some ⟨cb, 0, none⟩) 1 1]) (hC : Old w cb [.pointer (some ⟨b, 0, none⟩)]) (hO : Old w b [.string ⟨#[49]⟩, .slice (some ⟨q, 0, none⟩) 0 0, .iface 305 (.pointer (some ⟨kb, 0, none⟩)), .slice none 0 0]) (hP : Old w kb [.int .i64 gt, .int .i64 wt]) : Ct 28 [.pointer (some ⟨ob, 0, none⟩)] w (fun p : Er => .agg #[.string ⟨#[49]⟩, .string ⟨#[83, 99, 104, 101, 109, 97]⟩, .slice (some ⟨p.p0, 0, none⟩) 0 0, .slice (some ⟨p.a0, 0, none⟩) 0 0, .string ⟨#[]⟩, .slice none 0 0, .slice none 0 0, .slice (some ⟨p.kd, 0, none⟩) 1 p.kc]) (fun p => [(p.kd, .cells ([.string ⟨#[49]⟩, .string ⟨#[77, 105, 110, 80, 114, 111, 112, 101, 114, 116, 105, 101, 115]⟩, .slice (some ⟨p.pb, 0, none⟩) 1 p.pc, .slice (some ⟨p.ab, 0, none⟩) 0 0, .string ⟨#[]⟩, .slice none 0 0, .slice (some ⟨p.nb, 0, none⟩) 2 2, .slice none 0 0] ++ p.Z2 : List Value).toArray 50), (p.pb, .cells (.string ⟨#[109, 105, 110, 80, 114, 111, 112, 101, 114, 116, 105, 101, 115]⟩ :: p.Z).toArray 9), (p.nb, .cells #[.int .i64 gt, .int .i64 wt] 3)]) (fun _ => True) := by
 unfold Ct
 refine c_enter (n := 63) (L := [(0, .pointer (some ⟨ob, 0, none⟩))]) Tryz.func28 J J J J ?_
 intro a hF
 have hH := Hp.start w
 refine c_open (fun Q hpan hret hnorm => ?_)
 repeat (first | (refine is_list ?_; refine s_al hF hH J J J J ?_; clear hF hH; intro a b w hF hH) | refine c_seq (fun K hK => ?_) | refine wp_region_lit ?_ | (refine c_nilK hK ?_; clear hK))
 refine is_region (id := 1) ?_
 refine c_planQ [11] [0, 1, 2, 3, 4, 5, 6, 7] [8, 10] [8] 9 [11] hH (by kernel_rfl) (by repeat (first | refine pan_then ?_ | refine pan_block ?_ | exact hpan)) ?_
 clear hH; intro w hH; have hS := hH
 repeat (refine is_draw ?_; first | (refine d_pe hF J J J J J J ?_; clear hF; intro a hF) | (refine is_dload rfl ?_; refine d_ldo hE hF hS J J J J J J J ?_; clear hF; intro a hF))
 refine d_seg ?_
 refine gq2 hF hH hS J J J J (mk_ct J J J J J J (fun w hS => copied_0 _ _ _)) (mk_al J J J J J) ?_ ?_
 ·rintro _ _ ⟨ab, _, rfl, rfl⟩
  exact ⟨_, rfl, rfl⟩
 clear hF hH hS
 rintro a w _ _ _ _ v0 ⟨ab, _, rfl, rfl⟩ ⟨xb, rfl, rfl⟩ hF hv hH hS
 obtain rfl := pe_val hF rfl hv w
 clear hv
 repeat (first | (refine is_list ?_; first | (refine s_pe hF J J J J ?_; clear hF; intro a hF) | (refine is_load ?_; (first | refine s_ld 4 hF hH J J J J J J J ?_ | refine s_lda 4 hF hH J J J J J J J ?_ | refine s_ldo hE hF hH J J J J J J ?_ | refine s_ldo hC hF hH J J J J J J ?_); clear hF; intro a hF) | (refine is_store ?_; refine s_st 0 hF hH J J J J J J J J J ?_; clear hH; intro w hH) | (refine is_call ?_; (first | refine s_invC hF hH J J J J (by kernel_rfl) J J (path_239 _ _) ?_ | refine s_call hF hH J J J J J (copied_0 _ _ _) ?_ | refine s_call hF hH J J J J J (kindOf_Schema _ _) ?_ | refine s_call hF hH J J J J J (sortFunc_1 _ _ _ _) ?_); clear hF hH; intro a w x hx hF hH) | (refine s_ix hF J J J J J J J ?_; clear hF; intro a hF) | (refine s_sta 5 hF hH J J J J J J J J J J ?_; clear hH; intro w hH)) | (refine is_draw ?_; first | (refine d_pe hF J J J J J J ?_; clear hF; intro a hF) | (refine is_dload rfl ?_; refine d_ld 0 hF hS J J J J J J J J ?_; clear hF; intro a hF) | (refine is_dstore rfl ?_; refine d_st 4 hF hH J J J J J J J J J J J ?_; clear hH; intro w hH) | (refine is_dcall rfl ?_; refine d_call hF hH hS J J J J J J (errorOf_MinProperties _ _ _ _ _ _ (hO.later hH) (hP.later hH)) ?_; clear hF hH hS; intro a w x hx hF hH hS) | (refine d_sta 0 hF hH J J J J J J J J J J J J ?_; clear hH; intro w hH) | (refine d_bsA hF hH hS J J J J J J J J J J ?_; clear hF hH hS; intro a b w hF hH hS) | (refine d_app 0 hF hH hS J J J J J J J J J J J J J J J ?_; clear hF hH hS; intro a b cc Z w hcc hF hH hS)) | (refine c_dnilK hK ?_; clear hS hK) | (refine c_dnilB ?_; clear hS) | refine c_seq (fun K hK => ?_) | refine wp_region_lit ?_ | (refine c_nilK hK ?_; clear hK) | refine c_true hF rfl ?_ | refine c_false hF rfl ?_ | (refine is_region ?_; refine is_region (id := 8) ?_; refine c_drawn [7] [0, 1, 2, 3, 4, 5, 6, 7] hH (by kernel_rfl) (by repeat (first | refine pan_then ?_ | refine pan_block ?_ | exact hpan)) ?_; clear hH; intro w hH; have hS := hH) | refine wp_block ?_ | refine wp_loop_rounds 2 (c_roundK 1 (fun K hK => ?_)) | refine c_roundK 0 (fun K hK => ?_) | refine wp_exit ?_ | refine wp_ret ?_ | refine wp_skip ?_ | (refine e_exit ?_; clear hK) | refine e_bexit rfl ?_ | (refine e_thenK hK ?_; clear hK))
 exact hret _ _ (c_retC 5 hF hH J J J J J ⟨⟨_, _, _, _, _, _, _, _, _, _⟩, trivial, rfl, (hH.rm 1 rfl).mid 3 2⟩)
theorem errorTop_MaxProperties (ob k2 cb b q kb : Nat) (gt wt : Int) (w : World) (hE : Old w ob [.string ⟨#[49]⟩, .slice none 0 0, .iface 185 (.pointer (some ⟨k2, 0, none⟩)), .slice (some ⟨cb, 0, none⟩) 1 1]) (hC : Old w cb [.pointer (some ⟨b, 0, none⟩)]) (hO : Old w b [.string ⟨#[49]⟩, .slice (some ⟨q, 0, none⟩) 0 0, .iface 307 (.pointer (some ⟨kb, 0, none⟩)), .slice none 0 0]) (hP : Old w kb [.int .i64 gt, .int .i64 wt]) : Ct 28 [.pointer (some ⟨ob, 0, none⟩)] w (fun p : Er => .agg #[.string ⟨#[49]⟩, .string ⟨#[83, 99, 104, 101, 109, 97]⟩, .slice (some ⟨p.p0, 0, none⟩) 0 0, .slice (some ⟨p.a0, 0, none⟩) 0 0, .string ⟨#[]⟩, .slice none 0 0, .slice none 0 0, .slice (some ⟨p.kd, 0, none⟩) 1 p.kc]) (fun p => [(p.kd, .cells ([.string ⟨#[49]⟩, .string ⟨#[77, 97, 120, 80, 114, 111, 112, 101, 114, 116, 105, 101, 115]⟩, .slice (some ⟨p.pb, 0, none⟩) 1 p.pc, .slice (some ⟨p.ab, 0, none⟩) 0 0, .string ⟨#[]⟩, .slice none 0 0, .slice (some ⟨p.nb, 0, none⟩) 2 2, .slice none 0 0] ++ p.Z2 : List Value).toArray 50), (p.pb, .cells (.string ⟨#[109, 97, 120, 80, 114, 111, 112, 101, 114, 116, 105, 101, 115]⟩ :: p.Z).toArray 9), (p.nb, .cells #[.int .i64 gt, .int .i64 wt] 3)]) (fun _ => True) := by
 unfold Ct
 refine c_enter (n := 63) (L := [(0, .pointer (some ⟨ob, 0, none⟩))]) Tryz.func28 J J J J ?_
 intro a hF
 have hH := Hp.start w
 refine c_open (fun Q hpan hret hnorm => ?_)
 repeat (first | (refine is_list ?_; refine s_al hF hH J J J J ?_; clear hF hH; intro a b w hF hH) | refine c_seq (fun K hK => ?_) | refine wp_region_lit ?_ | (refine c_nilK hK ?_; clear hK))
 refine is_region (id := 1) ?_
 refine c_planQ [11] [0, 1, 2, 3, 4, 5, 6, 7] [8, 10] [8] 9 [11] hH (by kernel_rfl) (by repeat (first | refine pan_then ?_ | refine pan_block ?_ | exact hpan)) ?_
 clear hH; intro w hH; have hS := hH
 repeat (refine is_draw ?_; first | (refine d_pe hF J J J J J J ?_; clear hF; intro a hF) | (refine is_dload rfl ?_; refine d_ldo hE hF hS J J J J J J J ?_; clear hF; intro a hF))
 refine d_seg ?_
 refine gq2 hF hH hS J J J J (mk_ct J J J J J J (fun w hS => copied_0 _ _ _)) (mk_al J J J J J) ?_ ?_
 ·rintro _ _ ⟨ab, _, rfl, rfl⟩
  exact ⟨_, rfl, rfl⟩
 clear hF hH hS
 rintro a w _ _ _ _ v0 ⟨ab, _, rfl, rfl⟩ ⟨xb, rfl, rfl⟩ hF hv hH hS
 obtain rfl := pe_val hF rfl hv w
 clear hv
 repeat (first | (refine is_list ?_; first | (refine s_pe hF J J J J ?_; clear hF; intro a hF) | (refine is_load ?_; (first | refine s_ld 4 hF hH J J J J J J J ?_ | refine s_lda 4 hF hH J J J J J J J ?_ | refine s_ldo hE hF hH J J J J J J ?_ | refine s_ldo hC hF hH J J J J J J ?_); clear hF; intro a hF) | (refine is_store ?_; refine s_st 0 hF hH J J J J J J J J J ?_; clear hH; intro w hH) | (refine is_call ?_; (first | refine s_invC hF hH J J J J (by kernel_rfl) J J (path_239 _ _) ?_ | refine s_call hF hH J J J J J (copied_0 _ _ _) ?_ | refine s_call hF hH J J J J J (kindOf_Schema _ _) ?_ | refine s_call hF hH J J J J J (sortFunc_1 _ _ _ _) ?_); clear hF hH; intro a w x hx hF hH) | (refine s_ix hF J J J J J J J ?_; clear hF; intro a hF) | (refine s_sta 5 hF hH J J J J J J J J J J ?_; clear hH; intro w hH)) | (refine is_draw ?_; first | (refine d_pe hF J J J J J J ?_; clear hF; intro a hF) | (refine is_dload rfl ?_; refine d_ld 0 hF hS J J J J J J J J ?_; clear hF; intro a hF) | (refine is_dstore rfl ?_; refine d_st 4 hF hH J J J J J J J J J J J ?_; clear hH; intro w hH) | (refine is_dcall rfl ?_; refine d_call hF hH hS J J J J J J (errorOf_MaxProperties _ _ _ _ _ _ (hO.later hH) (hP.later hH)) ?_; clear hF hH hS; intro a w x hx hF hH hS) | (refine d_sta 0 hF hH J J J J J J J J J J J J ?_; clear hH; intro w hH) | (refine d_bsA hF hH hS J J J J J J J J J J ?_; clear hF hH hS; intro a b w hF hH hS) | (refine d_app 0 hF hH hS J J J J J J J J J J J J J J J ?_; clear hF hH hS; intro a b cc Z w hcc hF hH hS)) | (refine c_dnilK hK ?_; clear hS hK) | (refine c_dnilB ?_; clear hS) | refine c_seq (fun K hK => ?_) | refine wp_region_lit ?_ | (refine c_nilK hK ?_; clear hK) | refine c_true hF rfl ?_ | refine c_false hF rfl ?_ | (refine is_region ?_; refine is_region (id := 8) ?_; refine c_drawn [7] [0, 1, 2, 3, 4, 5, 6, 7] hH (by kernel_rfl) (by repeat (first | refine pan_then ?_ | refine pan_block ?_ | exact hpan)) ?_; clear hH; intro w hH; have hS := hH) | refine wp_block ?_ | refine wp_loop_rounds 2 (c_roundK 1 (fun K hK => ?_)) | refine c_roundK 0 (fun K hK => ?_) | refine wp_exit ?_ | refine wp_ret ?_ | refine wp_skip ?_ | (refine e_exit ?_; clear hK) | refine e_bexit rfl ?_ | (refine e_thenK hK ?_; clear hK))
 exact hret _ _ (c_retC 5 hF hH J J J J J ⟨⟨_, _, _, _, _, _, _, _, _, _⟩, trivial, rfl, (hH.rm 1 rfl).mid 3 2⟩)
theorem errorTop_FalseSchema (ob k2 cb b q kb : Nat) (w : World) (hE : Old w ob [.string ⟨#[49]⟩, .slice none 0 0, .iface 185 (.pointer (some ⟨k2, 0, none⟩)), .slice (some ⟨cb, 0, none⟩) 1 1]) (hC : Old w cb [.pointer (some ⟨b, 0, none⟩)]) (hO : Old w b [.string ⟨#[49]⟩, .slice (some ⟨q, 0, none⟩) 0 0, .iface 265 (.pointer (some ⟨kb, 0, none⟩)), .slice none 0 0]) : Ct 28 [.pointer (some ⟨ob, 0, none⟩)] w (fun p : Er => .agg #[.string ⟨#[49]⟩, .string ⟨#[83, 99, 104, 101, 109, 97]⟩, .slice (some ⟨p.p0, 0, none⟩) 0 0, .slice (some ⟨p.a0, 0, none⟩) 0 0, .string ⟨#[]⟩, .slice none 0 0, .slice none 0 0, .slice (some ⟨p.kd, 0, none⟩) 1 p.kc]) (fun p => [(p.kd, .cells ([.string ⟨#[49]⟩, .string ⟨#[70, 97, 108, 115, 101, 83, 99, 104, 101, 109, 97]⟩, .slice (some ⟨p.pb, 0, none⟩) 0 0, .slice (some ⟨p.ab, 0, none⟩) 0 0, .string ⟨#[]⟩, .slice none 0 0, .slice none 0 0, .slice none 0 0] ++ p.Z2 : List Value).toArray 50)]) (fun _ => True) := by
 unfold Ct
 refine c_enter (n := 63) (L := [(0, .pointer (some ⟨ob, 0, none⟩))]) Tryz.func28 J J J J ?_
 intro a hF
 have hH := Hp.start w
 refine c_open (fun Q hpan hret hnorm => ?_)
 repeat (first | (refine is_list ?_; refine s_al hF hH J J J J ?_; clear hF hH; intro a b w hF hH) | refine c_seq (fun K hK => ?_) | refine wp_region_lit ?_ | (refine c_nilK hK ?_; clear hK))
 refine is_region (id := 1) ?_
 refine c_planQ [11] [0, 1, 2, 3, 4, 5, 6, 7] [8, 10] [8] 9 [11] hH (by kernel_rfl) (by repeat (first | refine pan_then ?_ | refine pan_block ?_ | exact hpan)) ?_
 clear hH; intro w hH; have hS := hH
 repeat (refine is_draw ?_; first | (refine d_pe hF J J J J J J ?_; clear hF; intro a hF) | (refine is_dload rfl ?_; refine d_ldo hE hF hS J J J J J J J ?_; clear hF; intro a hF))
 refine d_seg ?_
 refine gq2 hF hH hS J J J J (mk_ct J J J J J J (fun w hS => copied_0 _ _ _)) (mk_al J J J J J) ?_ ?_
 ·rintro _ _ ⟨ab, _, rfl, rfl⟩
  exact ⟨_, rfl, rfl⟩
 clear hF hH hS
 rintro a w _ _ _ _ v0 ⟨ab, _, rfl, rfl⟩ ⟨xb, rfl, rfl⟩ hF hv hH hS
 obtain rfl := pe_val hF rfl hv w
 clear hv
 repeat (first | (refine is_list ?_; first | (refine s_pe hF J J J J ?_; clear hF; intro a hF) | (refine is_load ?_; (first | refine s_ld 2 hF hH J J J J J J J ?_ | refine s_lda 2 hF hH J J J J J J J ?_ | refine s_ldo hE hF hH J J J J J J ?_ | refine s_ldo hC hF hH J J J J J J ?_); clear hF; intro a hF) | (refine is_store ?_; refine s_st 0 hF hH J J J J J J J J J ?_; clear hH; intro w hH) | (refine is_call ?_; (first | refine s_invC hF hH J J J J (by kernel_rfl) J J (path_239 _ _) ?_ | refine s_call hF hH J J J J J (copied_0 _ _ _) ?_ | refine s_call hF hH J J J J J (kindOf_Schema _ _) ?_ | refine s_call hF hH J J J J J (sortFunc_1 _ _ _ _) ?_); clear hF hH; intro a w x hx hF hH) | (refine s_ix hF J J J J J J J ?_; clear hF; intro a hF) | (refine s_sta 3 hF hH J J J J J J J J J J ?_; clear hH; intro w hH)) | (refine is_draw ?_; first | (refine d_pe hF J J J J J J ?_; clear hF; intro a hF) | (refine is_dload rfl ?_; refine d_ld 0 hF hS J J J J J J J J ?_; clear hF; intro a hF) | (refine is_dstore rfl ?_; refine d_st 2 hF hH J J J J J J J J J J J ?_; clear hH; intro w hH) | (refine is_dcall rfl ?_; refine d_call hF hH hS J J J J J J (errorOf_FalseSchema _ _ _ _ (hO.later hH)) ?_; clear hF hH hS; intro a w x hx hF hH hS) | (refine d_sta 0 hF hH J J J J J J J J J J J J ?_; clear hH; intro w hH) | (refine d_bsA hF hH hS J J J J J J J J J J ?_; clear hF hH hS; intro a b w hF hH hS) | (refine d_app 0 hF hH hS J J J J J J J J J J J J J J J ?_; clear hF hH hS; intro a b cc Z w hcc hF hH hS)) | (refine c_dnilK hK ?_; clear hS hK) | (refine c_dnilB ?_; clear hS) | refine c_seq (fun K hK => ?_) | refine wp_region_lit ?_ | (refine c_nilK hK ?_; clear hK) | refine c_true hF rfl ?_ | refine c_false hF rfl ?_ | (refine is_region ?_; refine is_region (id := 8) ?_; refine c_drawn [7] [0, 1, 2, 3, 4, 5, 6, 7] hH (by kernel_rfl) (by repeat (first | refine pan_then ?_ | refine pan_block ?_ | exact hpan)) ?_; clear hH; intro w hH; have hS := hH) | refine wp_block ?_ | refine wp_loop_rounds 2 (c_roundK 1 (fun K hK => ?_)) | refine c_roundK 0 (fun K hK => ?_) | refine wp_exit ?_ | refine wp_ret ?_ | refine wp_skip ?_ | (refine e_exit ?_; clear hK) | refine e_bexit rfl ?_ | (refine e_thenK hK ?_; clear hK))
 exact hret _ _ (c_retC 3 hF hH J J J J J ⟨⟨_, _, _, _, _, 0, _, 0, _, []⟩, trivial, rfl, (hH.rm 1 rfl).mid 1 2⟩)
end Go.Proofs.YtlkikblohnnlcaaGreatDoor.Y
end
section
namespace Go.Proofs.YtlkikblohnnlcaaGreatDoor.Y
open Go Go.RowKit X R Go.Proofs.YtlkikblohnnlcaaGreatDoorW.PrintWords
set_option linter.unusedVariables false
set_option maxRecDepth 4000
attribute [local irreducible] wpList dL Code.wp bodyPost Ct Calls Exit.then Exit.inBlock Code.rounds
set_option maxHeartbeats 0
theorem C_plain {α : Type} {d : Kd α} {w : World} {A : Option Addr} {n sz : Nat} {xs : List α} (z : α) (h : d.C w A n xs) (hsz : d.sz = sz) (hp : 0 < sz) (hn : 0 < n) : ∃ b j, A = some ⟨b, j, none⟩ ∧ ∀ i, i < n → ∃ cs, d.K w (xs.getD i z) cs ∧ cs.length = sz ∧ OldAt w b (j + i * sz) cs := by
 subst hsz
 have hl : xs.length = n := h.1
 obtain ⟨ad, e, hall⟩ := h.2.2 hn
 have hx0 : xs[0]? = some (xs[0]'(by omega)) := List.getElem?_eq_getElem (by omega)
 obtain ⟨c0, hc0, _, hcell⟩ := hall 0 _ hx0
 have hspot : ad.spot = none := by
  have hu : c0[0]? = some (c0[0]'(by omega)) := List.getElem?_eq_getElem (by omega)
  have h1 := hcell 0 _ hu
  have e0 : ad.add (0 * d.sz + 0) = ad := by simp [Addr.add]
  rw [e0] at h1
  unfold World.cell? at h1
  cases hs : ad.spot with
  | none => rfl
  | some s =>
   rw [hs] at h1
   cases hh : w.heap[ad.block]? with
   | none => rw [hh] at h1; cases h1
   | some ob => rw [hh] at h1; cases ob <;> simp at h1
 obtain ⟨b, j, sp⟩ := ad
 simp only at hspot
 subst hspot
 refine ⟨b, j, e, fun i hi => ?_⟩
 have hxi : xs[i]? = some (xs[i]'(by omega)) := List.getElem?_eq_getElem (by omega)
 obtain ⟨cs, h1, h2, h3⟩ := hall i _ hxi
 refine ⟨cs, ?_, h1, fun q v hv => ?_⟩
 ·rw [List.getD_eq_getElem?_getD, hxi]
  exact h2
 ·have := h3 q v hv
  rw [addr_add] at this
  rwa [← Nat.add_assoc] at this
inductive Sm : S27 → Prop
 | mk (x : S27) (h1 : x.f5.length ≤ 2000000000000) (h2 : ∀ y ∈ x.f5, Sm y) : Sm x
def OfJ (x : S27) (v : Value) (H : Hm) : Prop :=
 (x.f0 = 1 → v = .iface 4 (.bool x.f1) ∧ H = []) ∧ (x.f0 = 2 → v = .iface 3 (.int .i64 x.f2) ∧ H = []) ∧ (x.f0 = 3 → v = .iface 9 (.string x.f3) ∧ H = []) ∧
 (x.f0 = 4 → ∃ b c, v = .iface 113 (.slice (some ⟨b, 0, none⟩) x.f5.length c) ∧ H = []) ∧
 (x.f0 = 5 → ∃ m es clock ks, v = .iface 109 (.map (some m)) ∧ H = [(m, .map es clock)] ∧ Keys es clock ks ∧ ks.Nodup ∧ ∀ t, t ∈ ks ↔ t ∈ x.f4.take x.f5.length) ∧
 (x.f0 < 1 ∨ 5 < x.f0 → v = .nilIface ∧ H = []) ∧ one v = true
abbrev OfC (x : S27) : Prop := ∀ w cs, k27.K w x cs → Ct 27 [.agg cs.toArray] w (fun p : Value × Hm => p.1) (fun p => p.2) (fun p => OfJ x p.1 p.2)
theorem ieq_t {a b : Int} (h : a = b) : (a == b) = true := by simp [h]
theorem ieq_f {a b : Int} (h : ¬ a = b) : (a == b) = false := by simp [h]
theorem lt_t {a b : Int} (h : a < b) : decide (a < b) = true := by simp [h]
theorem lt_f {a b : Int} (h : ¬ a < b) : decide (a < b) = false := by simp [h]
theorem ofJs_ok (xs : List S27) (IH : ∀ x ∈ xs, OfC x) (hlen : xs.length ≤ 2000000000000) (A : Option Addr) (c : Nat) (w0 : World) (hC : k27.C w0 A xs.length xs) :
  Ct 52 [.slice A xs.length c] w0 (fun p : Nat × Nat => .slice (some ⟨p.1, 0, none⟩) xs.length p.2) (fun _ => []) (fun _ => True) := by
 unfold Ct
 refine c_enter (n := 20) (L := [(0, .slice A xs.length c)]) Tryz.func52 J J J J ?_
 intro a hF
 have hH := Hp.start w0
 refine c_open (fun Q hpan hret hnorm => ?_)
 repeat (first | (refine is_list ?_; first | (refine s_pe hF J J J J ?_; clear hF; intro a hF) | (refine s_bs0 hF hH J J J J ?_; clear hF hH; intro a b w hF hH)) | refine c_seq (fun K hK => ?_) | refine wp_region_lit ?_ | (refine c_nilK hK ?_; clear hK) | refine wp_block ?_)
 refine c_loop (fun k a w' => ∃ (i b cap : Nat) (cur : List Value), k = xs.length - i ∧ i ≤ xs.length ∧ i ≤ cap ∧ cap ≤ maxLen ∧ cur.length = cap * 1 ∧ Fr a 20 [(3, .slice (some ⟨b, 0, none⟩) i cap), (7, .slice A xs.length c), (8, .int .i64 (xs.length : Nat)), (9, .int .i64 (i : Nat))] ∧ Hp w0 w' [(b, .cells cur.toArray 20)]) xs.length ⟨0, _, 0, [], by simp, by omega, by omega, by simp [maxLen], rfl, hF.pick [3, 7, 8, 9] rfl, hH⟩ ?_
 clear hF hH
 rintro k a w ⟨i, b, cap, cur, h1, h2, h3, h4, h5, hF, hH⟩ K hK
 repeat (first | (refine is_list ?_; refine s_pe hF J J J J ?_; clear hF; intro a hF) | refine c_seq (fun K hK => ?_) | refine wp_region_lit ?_ | (refine c_nilK hK ?_; clear hK))
 by_cases hi : i < xs.length
 ·refine c_true hF (cb (lt_t (by omega))) ?_
  obtain ⟨bb, jj, hA, hall⟩ := C_plain z27 hC rfl (by decide) (by omega)
  rw [hA] at hF
  obtain ⟨cs, hK6, hl6, hO⟩ := hall i hi
  have hmem : xs.getD i z27 ∈ xs := by
   rw [List.getD_eq_getElem?_getD, List.getElem?_eq_getElem hi]
   exact List.getElem_mem hi
  generalize xs.getD i z27 = x at hK6 hmem
  obtain ⟨A4, c4, A5, c5, rfl, _⟩ := k27_open hK6
  repeat (first | refine c_seq (fun K hK => ?_) | refine wp_region_lit ?_ | refine wp_block ?_ | refine wp_skip ?_ | (refine e_thenK hK ?_; clear hK))
  refine s_ix hF J J J J J (Nat.ble_eq_true_of_le hi) rfl ?_
  intro a hF
  refine s_ldaAt hO hF hH J J J J J J ?_
  intro a hF
  repeat (first | (refine is_list ?_; first | (refine s_pe hF J J J J ?_; clear hF; intro a hF) | (refine is_load ?_; refine s_lda 0 hF hH J J J J J J J ?_; clear hF; intro a hF) | (refine s_al hF hH J J J J ?_; clear hF hH; intro a b w hF hH) | (refine s_sta 0 hF hH J J J J J J J J J J ?_; clear hH; intro w hH)) | refine wp_region_lit ?_ | (refine c_nilK hK ?_; clear hK))
  refine s_call hF hH J J J J J (IH x hmem w _ (k27.K_below hH.below hK6)) ?_
  clear hF hH; intro a w p hp hF hH
  have hone : one p.1 = true := hp.2.2.2.2.2.2
  replace hH := hH.sub (List.sublist_append_right _ _)
  refine s_bs (l := [p.1]) hF hH J J J J J (by simp [lit1, hone]) J J J J ?_
  clear hF hH; intro a b2 w hF hH
  refine s_appO 2 0 (vs := [p.1]) hF hH J J J J J J J J J J (by simp [ones, hone]) J J h3 h4 h5 (by simp only [maxLen]; omega) (by omega) rfl ?_
  clear hF hH; intro a b3 cap3 cur3 w H' h31 h32 h33 h34 hH' hF hH
  obtain rfl := Option.some.inj hH'
  repeat (first | (refine is_list ?_; refine s_pe hF J J J J ?_; clear hF; intro a hF) | refine wp_region_lit ?_ | refine c_nilB ?_ | (refine e_thenK hK ?_; clear hK))
  have hc : IntKind.i64.wrap ((i : Int) + 1) = ((i + 1 : Nat) : Int) := wrapN (by omega)
  rw [hc] at hF
  first
   | exact e_then (hK (xs.length - (i + 1)) _ _ (by omega) ⟨i + 1, b3, cap3, cur3, rfl, by omega, h31, h32, h33, by rw [hA]; exact hF.pick [3, 7, 8, 9] rfl, (hH.rm 0 rfl).mid 0 1⟩)
   | exact c_nil (hK (xs.length - (i + 1)) _ _ (by omega) ⟨i + 1, b3, cap3, cur3, rfl, by omega, h31, h32, h33, by rw [hA]; exact hF.pick [3, 7, 8, 9] rfl, (hH.rm 0 rfl).mid 0 1⟩)
 ·refine c_false hF (cb (lt_f (by omega))) ?_
  obtain rfl : i = xs.length := by omega
  repeat (first | (refine is_list ?_; refine s_pe hF J J J J ?_; clear hF; intro a hF) | refine c_seq (fun K hK => ?_) | refine wp_region_lit ?_ | (refine c_nilK hK ?_; clear hK) | refine wp_exit ?_ | refine wp_ret ?_ | (refine e_exit ?_; clear hK) | refine e_bexit rfl ?_ | (refine e_thenK hK ?_; clear hK))
  exact hret _ _ (c_ret1 hF J J ⟨(_, _), trivial, rfl, hH.mid 0 1⟩)
theorem ofJ_1 {x : S27} (h : x.f0 = 1) : OfJ x (.iface 4 (.bool x.f1)) [] := ⟨fun _ => ⟨rfl, rfl⟩, fun h' => by omega, fun h' => by omega, fun h' => by omega, fun h' => by omega, fun h' => by omega, rfl⟩
theorem ofJ_2 {x : S27} (h : x.f0 = 2) : OfJ x (.iface 3 (.int .i64 x.f2)) [] := ⟨fun h' => by omega, fun _ => ⟨rfl, rfl⟩, fun h' => by omega, fun h' => by omega, fun h' => by omega, fun h' => by omega, rfl⟩
theorem ofJ_3 {x : S27} (h : x.f0 = 3) : OfJ x (.iface 9 (.string x.f3)) [] := ⟨fun h' => by omega, fun h' => by omega, fun _ => ⟨rfl, rfl⟩, fun h' => by omega, fun h' => by omega, fun h' => by omega, rfl⟩
theorem ofJ_4 {x : S27} (h : x.f0 = 4) (b c : Nat) : OfJ x (.iface 113 (.slice (some ⟨b, 0, none⟩) x.f5.length c)) [] := ⟨fun h' => by omega, fun h' => by omega, fun h' => by omega, fun _ => ⟨b, c, rfl, rfl⟩, fun h' => by omega, fun h' => by omega, rfl⟩
theorem ofJ_5 {x : S27} (h : x.f0 = 5) {m : Nat} {es : Array MapEntry} {clock : Nat} {ks : List ByteArray} (h1 : Keys es clock ks) (h2 : ks.Nodup) (h3 : ∀ t, t ∈ ks ↔ t ∈ x.f4.take x.f5.length) : OfJ x (.iface 109 (.map (some m))) [(m, .map es clock)] := ⟨fun h' => by omega, fun h' => by omega, fun h' => by omega, fun h' => by omega, fun _ => ⟨m, es, clock, ks, rfl, rfl, h1, h2, h3⟩, fun h' => by omega, rfl⟩
theorem ofJ_0 {x : S27} (h : x.f0 < 1 ∨ 5 < x.f0) : OfJ x .nilIface [] := ⟨fun h' => by omega, fun h' => by omega, fun h' => by omega, fun h' => by omega, fun h' => by omega, fun _ => ⟨rfl, rfl⟩, rfl⟩
theorem keys_start : Keys #[] 0 [] := ⟨rfl, fun e he => by simp at he⟩
theorem take_out {l : List ByteArray} {i : Nat} (h : l.length ≤ i) (t : ByteArray) : t ∈ l.take i ↔ t ∈ l.take (i + 1) := by rw [List.take_of_length_le h, List.take_of_length_le (by omega)]
theorem take_in {l : List ByteArray} {i : Nat} (h : i < l.length) {ks : List ByteArray} (hn : ks.Nodup) (hk : ∀ t, t ∈ ks ↔ t ∈ l.take i) : (if l.getD i ⟨#[]⟩ ∈ ks then ks else ks ++ [l.getD i ⟨#[]⟩]).Nodup ∧ ∀ t, t ∈ (if l.getD i ⟨#[]⟩ ∈ ks then ks else ks ++ [l.getD i ⟨#[]⟩]) ↔ t ∈ l.take (i + 1) := by
 have e : l.take (i + 1) = l.take i ++ [l.getD i ⟨#[]⟩] := by
  rw [List.take_add_one, List.getD_eq_getElem?_getD, List.getElem?_eq_getElem h]
  rfl
 rw [e]
 generalize l.getD i ⟨#[]⟩ = s
 by_cases hs : s ∈ ks
 ·rw [if_pos hs]
  refine ⟨hn, fun t => ?_⟩
  rw [List.mem_append, List.mem_singleton, hk t]
  constructor
  ·exact .inl
  ·rintro (h | rfl)
   ·exact h
   ·exact (hk t).1 hs
 ·rw [if_neg hs]
  refine ⟨?_, fun t => by rw [List.mem_append, List.mem_append, hk t]⟩
  refine List.nodup_append.2 ⟨hn, by simp, ?_⟩
  intro a ha b hb e1
  obtain rfl := List.mem_singleton.1 hb
  exact hs (e1 ▸ ha)
theorem ofJ_step (x : S27) (IH : ∀ y ∈ x.f5, OfC y) (hlen : x.f5.length ≤ 2000000000000) : OfC x := by
 intro w0 cs hK6
 obtain ⟨A4, c4, A5, c5, rfl, l4, g4, l5, g5⟩ := k27_open hK6
 clear hK6
 unfold Ct
 refine c_enter (n := 56) (L := [(0, .agg #[.int .i64 x.f0, .bool x.f1, .int .i64 x.f2, .string x.f3, .slice A4 x.f4.length c4, .slice A5 x.f5.length c5])]) Tryz.func27 J J J J ?_
 intro a hF
 have hH := Hp.start w0
 refine c_open (fun Q hpan hret hnorm => ?_)
 repeat (first | (refine is_list ?_; first | (refine s_pe hF J J J J ?_; clear hF; intro a hF) | (refine is_load ?_; refine s_ld 0 hF hH J J J J J J J ?_; clear hF; intro a hF) | (refine s_bx hF hH J J J J ?_; clear hF hH; intro a vb w hF hH)) | refine c_seq (fun K hK => ?_) | refine wp_region_lit ?_ | (refine c_nilK hK ?_; clear hK) | refine wp_block ?_)
 by_cases h1 : x.f0 = 1
 ·refine c_true hF (cb (ieq_t h1)) ?_
  repeat (first | (refine is_list ?_; first | (refine s_pe hF J J J J ?_; clear hF; intro a hF) | (refine is_load ?_; refine s_ld 0 hF hH J J J J J J J ?_; clear hF; intro a hF)) | refine c_seq (fun K hK => ?_) | refine wp_region_lit ?_ | (refine c_nilK hK ?_; clear hK) | refine wp_ret ?_ | (refine e_ret ?_; clear hK) | refine e_bret ?_)
  exact hret _ _ (c_ret1 hF J J ⟨(_, _), ofJ_1 h1, rfl, hH.mid 0 1⟩)
 ·refine c_false hF (cb (ieq_f h1)) ?_
  repeat (first | (refine is_list ?_; refine s_pe hF J J J J ?_; clear hF; intro a hF) | refine c_seq (fun K hK => ?_) | refine wp_region_lit ?_ | (refine c_nilK hK ?_; clear hK))
  by_cases h2 : x.f0 = 2
  ·refine c_true hF (cb (ieq_t h2)) ?_
   repeat (first | (refine is_list ?_; first | (refine s_pe hF J J J J ?_; clear hF; intro a hF) | (refine is_load ?_; refine s_ld 0 hF hH J J J J J J J ?_; clear hF; intro a hF)) | refine c_seq (fun K hK => ?_) | refine wp_region_lit ?_ | (refine c_nilK hK ?_; clear hK) | refine wp_ret ?_ | (refine e_ret ?_; clear hK) | refine e_bret ?_)
   exact hret _ _ (c_ret1 hF J J ⟨(_, _), ofJ_2 h2, rfl, hH.mid 0 1⟩)
  ·refine c_false hF (cb (ieq_f h2)) ?_
   repeat (first | (refine is_list ?_; refine s_pe hF J J J J ?_; clear hF; intro a hF) | refine c_seq (fun K hK => ?_) | refine wp_region_lit ?_ | (refine c_nilK hK ?_; clear hK))
   by_cases h3 : x.f0 = 3
   ·refine c_true hF (cb (ieq_t h3)) ?_
    repeat (first | (refine is_list ?_; first | (refine s_pe hF J J J J ?_; clear hF; intro a hF) | (refine is_load ?_; refine s_ld 0 hF hH J J J J J J J ?_; clear hF; intro a hF)) | refine c_seq (fun K hK => ?_) | refine wp_region_lit ?_ | (refine c_nilK hK ?_; clear hK) | refine wp_ret ?_ | (refine e_ret ?_; clear hK) | refine e_bret ?_)
    exact hret _ _ (c_ret1 hF J J ⟨(_, _), ofJ_3 h3, rfl, hH.mid 0 1⟩)
   ·refine c_false hF (cb (ieq_f h3)) ?_
    repeat (first | (refine is_list ?_; refine s_pe hF J J J J ?_; clear hF; intro a hF) | refine c_seq (fun K hK => ?_) | refine wp_region_lit ?_ | (refine c_nilK hK ?_; clear hK))
    by_cases h4 : x.f0 = 4
    ·refine c_true hF (cb (ieq_t h4)) ?_
     repeat (first | (refine is_list ?_; first | (refine s_pe hF J J J J ?_; clear hF; intro a hF) | (refine is_load ?_; refine s_ld 0 hF hH J J J J J J J ?_; clear hF; intro a hF)) | refine c_seq (fun K hK => ?_) | refine wp_region_lit ?_)
     refine s_call hF hH J J J J J (ofJs_ok x.f5 IH hlen A5 c5 w (Kd.C_below g5 hH.below)) ?_
     clear hF hH; intro a w p _ hF hH
     repeat (first | (refine is_list ?_; refine s_pe hF J J J J ?_; clear hF; intro a hF) | (refine c_nilK hK ?_; clear hK) | refine wp_ret ?_ | (refine e_ret ?_; clear hK) | refine e_bret ?_)
     exact hret _ _ (c_ret1 hF J J ⟨(_, _), ofJ_4 h4 p.1 p.2, rfl, hH.mid 0 1⟩)
    ·refine c_false hF (cb (ieq_f h4)) ?_
     repeat (first | (refine is_list ?_; refine s_pe hF J J J J ?_; clear hF; intro a hF) | refine c_seq (fun K hK => ?_) | refine wp_region_lit ?_ | (refine c_nilK hK ?_; clear hK))
     by_cases h5 : x.f0 = 5
     ·refine c_true hF (cb (ieq_t h5)) ?_
      repeat (first | (refine is_list ?_; first | (refine s_pe hF J J J J ?_; clear hF; intro a hF) | (refine is_load ?_; refine s_ld 1 hF hH J J J J J J J ?_; clear hF; intro a hF) | (refine s_map hF hH J J J ?_; clear hF hH; intro a b w hF hH)) | refine c_seq (fun K hK => ?_) | refine wp_region_lit ?_ | (refine c_nilK hK ?_; clear hK) | refine wp_block ?_)
      refine c_loop (fun k a w' => ∃ (i : Nat) (es : Array MapEntry) (clock : Nat) (ks : List ByteArray), k = x.f5.length - i ∧ i ≤ x.f5.length ∧ Keys es clock ks ∧ ks.Nodup ∧ (∀ t, t ∈ ks ↔ t ∈ x.f4.take i) ∧ Fr a 56 [(1, .pointer (some ⟨vb, 0, none⟩)), (3, .map (some b)), (33, .slice A5 x.f5.length c5), (34, .int .i64 (x.f5.length : Nat)), (35, .int .i64 (i : Nat))] ∧ Hp w0 w' [(b, .map es clock), (vb, .cells #[.int .i64 x.f0, .bool x.f1, .int .i64 x.f2, .string x.f3, .slice A4 x.f4.length c4, .slice A5 x.f5.length c5] 27)]) x.f5.length ⟨0, #[], 0, [], by simp, by omega, keys_start, List.nodup_nil, by simp, hF.pick [1, 3, 33, 34, 35] rfl, hH⟩ ?_
      clear hF hH
      rintro k a w ⟨i, es, clock, ks, q1, q2, q3, q4, q5, hF, hH⟩ K hK
      repeat (first | (refine is_list ?_; refine s_pe hF J J J J ?_; clear hF; intro a hF) | refine c_seq (fun K hK => ?_) | refine wp_region_lit ?_ | (refine c_nilK hK ?_; clear hK))
      by_cases hi : i < x.f5.length
      ·refine c_true hF (cb (lt_t (by omega))) ?_
       obtain ⟨bb, jj, hA, hall⟩ := C_plain z27 g5 rfl (by decide) (by omega)
       rw [hA] at hF
       obtain ⟨cs, hK6, hl6, hO⟩ := hall i hi
       have hmem : x.f5.getD i z27 ∈ x.f5 := by
        rw [List.getD_eq_getElem?_getD, List.getElem?_eq_getElem hi]
        exact List.getElem_mem hi
       generalize x.f5.getD i z27 = y at hK6 hmem
       obtain ⟨B4, d4, B5, d5, hcs, _⟩ := k27_open hK6
       rw [hcs] at hK6 hO
       repeat (first | (refine is_list ?_; refine s_pe hF J J J J ?_; clear hF; intro a hF) | refine c_seq (fun K hK => ?_) | refine wp_region_lit ?_ | refine wp_block ?_ | refine wp_skip ?_ | (refine e_thenK hK ?_; clear hK))
       refine s_ix hF J J J J J (Nat.ble_eq_true_of_le hi) rfl ?_
       intro a hF
       refine s_ldaAt hO hF hH J J J J J J ?_
       intro a hF
       repeat (first | (refine is_list ?_; first | (refine s_pe hF J J J J ?_; clear hF; intro a hF) | (refine is_load ?_; refine s_ld 2 hF hH J J J J J J J ?_; clear hF; intro a hF) | (refine s_al hF hH J J J J ?_; clear hF hH; intro a b w hF hH) | (refine s_sta 0 hF hH J J J J J J J J J J ?_; clear hH; intro w hH)) | refine c_seq (fun K hK => ?_) | refine wp_region_lit ?_ | (refine c_nilK hK ?_; clear hK))
       have hc : IntKind.i64.wrap ((i : Int) + 1) = ((i + 1 : Nat) : Int) := wrapN (by omega)
       by_cases hj : i < x.f4.length
       ·refine c_true hF (cb (lt_t (by omega))) ?_
        obtain ⟨nb, nj, hA4, hall4⟩ := C_plain (⟨#[]⟩ : ByteArray) g4 rfl (by decide) (by omega)
        obtain ⟨cs4, hK4, _, hO4⟩ := hall4 i hj
        have hcs4 : cs4 = [.string (x.f4.getD i ⟨#[]⟩)] := hK4
        rw [hcs4] at hO4
        have hcell := hO4 0 _ rfl
        rw [Nat.add_zero] at hcell
        rw [hA4] at hF hH
        repeat (first | (refine is_draw ?_; first | (refine d_pe hF J J J J J J ?_; clear hF; intro a hF) | (refine is_dload rfl ?_; (first | refine d_ld 2 hF hS J J J J J J J J ?_ | refine d_lda 0 hF hS J J J J J J J J ?_); clear hF; intro a hF) | (refine is_dcall rfl ?_; refine d_call hF hH hS J J J J J J (IH y hmem w _ (k27.K_below hH.below hK6)) ?_; clear hF hH hS; intro a w p hp hF hH hS) | ((first | refine d_ix hF J J J J J J (Nat.ble_eq_true_of_le hj) rfl ?_ | refine d_ldAt hcell hF hS J J J J J J ?_); clear hF; intro a hF)) | (refine is_region ?_; refine is_region (id := 16) ?_; refine c_drawn [8] [0, 1, 2, 3, 4, 5, 6, 7, 8] hH (by kernel_rfl) (by repeat (first | refine pan_then ?_ | refine pan_block ?_ | exact hpan)) ?_; clear hH; intro w hH; have hS := hH))
        replace hH := hH.sub (List.sublist_append_right _ _)
        refine d_mu 1 hF hH J J J J J J J J q3 ?_
        clear hH; intro w es2 clock2 H2 hK2 hH2 hH
        obtain rfl := Option.some.inj hH2
        have hT := take_in hj q4 q5
        repeat (first | (refine is_list ?_; refine s_pe hF J J J J ?_; clear hF; intro a hF) | (refine c_dnilB ?_; clear hS) | refine wp_region_lit ?_ | (refine e_thenK hK ?_; clear hK))
        rw [hc] at hF
        first
         | exact e_then (hK (x.f5.length - (i + 1)) _ _ (by omega) ⟨i + 1, es2, clock2, _, rfl, by omega, hK2, hT.1, hT.2, (by first | exact hF.pick [1, 3, 33, 34, 35] rfl | (rw [hA]; exact hF.pick [1, 3, 33, 34, 35] rfl)), (by first | exact hH.mid 0 1 | (rw [hA4]; exact hH.mid 0 1))⟩)
         | exact c_nil (hK (x.f5.length - (i + 1)) _ _ (by omega) ⟨i + 1, es2, clock2, _, rfl, by omega, hK2, hT.1, hT.2, (by first | exact hF.pick [1, 3, 33, 34, 35] rfl | (rw [hA]; exact hF.pick [1, 3, 33, 34, 35] rfl)), (by first | exact hH.mid 0 1 | (rw [hA4]; exact hH.mid 0 1))⟩)
       ·refine c_false hF (cb (lt_f (by omega))) ?_
        repeat (first | (refine is_list ?_; refine s_pe hF J J J J ?_; clear hF; intro a hF) | refine wp_region_lit ?_ | refine wp_skip ?_ | refine e_bnormal ?_ | (refine e_thenK hK ?_; clear hK))
        rw [hc] at hF
        first
         | exact e_then (hK (x.f5.length - (i + 1)) _ _ (by omega) ⟨i + 1, es, clock, ks, rfl, by omega, q3, q4, (fun t => (q5 t).trans (take_out (by omega) t)), (by first | exact hF.pick [1, 3, 33, 34, 35] rfl | (rw [hA]; exact hF.pick [1, 3, 33, 34, 35] rfl)), (by first | exact hH.mid 0 1 | (rw [hA4]; exact hH.mid 0 1))⟩)
         | exact c_nil (hK (x.f5.length - (i + 1)) _ _ (by omega) ⟨i + 1, es, clock, ks, rfl, by omega, q3, q4, (fun t => (q5 t).trans (take_out (by omega) t)), (by first | exact hF.pick [1, 3, 33, 34, 35] rfl | (rw [hA]; exact hF.pick [1, 3, 33, 34, 35] rfl)), (by first | exact hH.mid 0 1 | (rw [hA4]; exact hH.mid 0 1))⟩)
      ·refine c_false hF (cb (lt_f (by omega))) ?_
       obtain rfl : i = x.f5.length := by omega
       repeat (first | (refine is_list ?_; refine s_pe hF J J J J ?_; clear hF; intro a hF) | refine c_seq (fun K hK => ?_) | refine wp_region_lit ?_ | (refine c_nilK hK ?_; clear hK) | refine wp_exit ?_ | refine wp_ret ?_ | ((first | refine e_ret ?_ | refine e_exit ?_); clear hK) | refine e_bexit rfl ?_ | refine e_bret ?_ | (refine e_thenK hK ?_; clear hK))
       exact hret _ _ (c_ret1 hF J J ⟨(_, _), ofJ_5 h5 q3 q4 q5, rfl, hH.mid 1 1⟩)
     ·refine c_false hF (cb (ieq_f h5)) ?_
      repeat (first | (refine is_list ?_; refine s_pe hF J J J J ?_; clear hF; intro a hF) | refine c_seq (fun K hK => ?_) | refine wp_region_lit ?_ | (refine c_nilK hK ?_; clear hK) | refine wp_ret ?_ | refine wp_skip ?_ | refine e_bnormal ?_ | (refine e_thenK hK ?_; clear hK))
      exact hret _ _ (c_ret1 hF J J ⟨(_, _), ofJ_0 (by omega), rfl, hH.mid 0 1⟩)
theorem ofJ_ok {x : S27} (h : Sm x) : OfC x := by
 induction h with
 | mk x h1 h2 ih => exact ofJ_step x ih h1
end Go.Proofs.YtlkikblohnnlcaaGreatDoor.Y
end
section
namespace Go.Proofs.YtlkikblohnnlcaaGreatDoor.Y
open Go Go.RowKit X R Go.Proofs.YtlkikblohnnlcaaGreatDoorW.PrintWords
set_option linter.unusedVariables false
set_option maxRecDepth 4000
attribute [local irreducible] wpList dL Code.wp bodyPost Ct Calls Exit.then Exit.inBlock Code.rounds
set_option maxHeartbeats 0
inductive EK : Nat → ByteArray → ByteArray → Prop
 | k296 : EK 296 ⟨#[77, 105, 110, 73, 116, 101, 109, 115]⟩ ⟨#[109, 105, 110, 73, 116, 101, 109, 115]⟩
 | k299 : EK 299 ⟨#[77, 97, 120, 73, 116, 101, 109, 115]⟩ ⟨#[109, 97, 120, 73, 116, 101, 109, 115]⟩
 | k301 : EK 301 ⟨#[77, 105, 110, 76, 101, 110, 103, 116, 104]⟩ ⟨#[109, 105, 110, 76, 101, 110, 103, 116, 104]⟩
 | k303 : EK 303 ⟨#[77, 97, 120, 76, 101, 110, 103, 116, 104]⟩ ⟨#[109, 97, 120, 76, 101, 110, 103, 116, 104]⟩
 | k305 : EK 305 ⟨#[77, 105, 110, 80, 114, 111, 112, 101, 114, 116, 105, 101, 115]⟩ ⟨#[109, 105, 110, 80, 114, 111, 112, 101, 114, 116, 105, 101, 115]⟩
 | k307 : EK 307 ⟨#[77, 97, 120, 80, 114, 111, 112, 101, 114, 116, 105, 101, 115]⟩ ⟨#[109, 97, 120, 80, 114, 111, 112, 101, 114, 116, 105, 101, 115]⟩
structure Lm where
 t1 : Bool
 t2 : Bool
 t3 : Bool
 t4 : Bool
 t5 : Bool
 t6 : Bool
 n1 : Int
 n2 : Int
 n3 : Int
 n4 : Int
 n5 : Int
 n6 : Int
def Lm.ok (lm : Lm) : Prop := (lm.t1 = true → lm.t2 = true → lm.n1 ≤ lm.n2) ∧ (lm.t3 = true → lm.t4 = true → lm.n3 ≤ lm.n4) ∧ (lm.t5 = true → lm.t6 = true → lm.n5 ≤ lm.n6)
def Lim (kA kB : Nat) (tA : Bool) (nA : Int) (tB : Bool) (nB : Int) (m : Nat) : Option (Nat × Int × Int) → Prop
 | none => (tA = true → nA ≤ (m : Int)) ∧ (tB = true → (m : Int) ≤ nB)
 | some o => o.2.1 = (m : Int) ∧ ((o.1 = kA ∧ tA = true ∧ (m : Int) < nA ∧ o.2.2 = nA) ∨ (o.1 = kB ∧ tB = true ∧ nB < (m : Int) ∧ o.2.2 = nB))
def V51 (w0 : World) (R : Hm) (u : Value) (w' : World) : Option (Nat × Int × Int) → Prop
 | none => u = .nilIface ∧ Hp w0 w' R
 | some o => ∃ ob k2 cb b q kb kS : Nat, u = .iface 72 (.pointer (some ⟨ob, 0, none⟩)) ∧ Hp w0 w' ((ob, .cells #[.string ⟨#[49]⟩, .slice none 0 0, .iface 185 (.pointer (some ⟨k2, 0, none⟩)), .slice (some ⟨cb, 0, none⟩) 1 1] 125) :: (k2, .cells #[.string ⟨#[49]⟩] 187) :: (cb, .cells #[.pointer (some ⟨b, 0, none⟩)] 72) :: (b, .cells #[.string ⟨#[49]⟩, .slice (some ⟨q, 0, none⟩) 0 0, .iface o.1 (.pointer (some ⟨kb, 0, none⟩)), .slice none 0 0] 125) :: (kb, .cells #[.int .i64 o.2.1, .int .i64 o.2.2] kS) :: R)
def OutX (lm : Lm) (x : S27) (o : Option (Nat × Int × Int)) : Prop :=
 (x.f0 = 3 → ∃ m : Nat, (U.okF x.f3 x.f3.size 0 → m = U.nc x.f3 x.f3.size 0) ∧ Lim 301 303 lm.t1 lm.n1 lm.t2 lm.n2 m o) ∧
 (x.f0 = 4 → Lim 296 299 lm.t3 lm.n3 lm.t4 lm.n4 x.f5.length o) ∧
 (x.f0 = 5 → Lim 305 307 lm.t5 lm.n5 lm.t6 lm.n6 (U.dd (x.f4.take x.f5.length)).length o) ∧
 (x.f0 < 3 ∨ 5 < x.f0 → o = none)
theorem lim_ek {kA kB : Nat} {tA tB : Bool} {nA nB : Int} {m : Nat} {o : Nat × Int × Int} (h : Lim kA kB tA nA tB nB m (some o)) : o.1 = kA ∨ o.1 = kB := by
 rcases h.2 with h | h
 ·exact .inl h.1
 ·exact .inr h.1
theorem outX_ek {lm : Lm} {x : S27} {o : Nat × Int × Int} (h : OutX lm x (some o)) : ∃ nm kw, EK o.1 nm kw := by
 by_cases h3 : x.f0 = 3
 ·obtain ⟨m, _, hm⟩ := h.1 h3
  rcases lim_ek hm with h | h <;> rw [h]
  ·exact ⟨_, _, .k301⟩
  ·exact ⟨_, _, .k303⟩
 by_cases h4 : x.f0 = 4
 ·rcases lim_ek (h.2.1 h4) with h | h <;> rw [h]
  ·exact ⟨_, _, .k296⟩
  ·exact ⟨_, _, .k299⟩
 by_cases h5 : x.f0 = 5
 ·rcases lim_ek (h.2.2.1 h5) with h | h <;> rw [h]
  ·exact ⟨_, _, .k305⟩
  ·exact ⟨_, _, .k307⟩
 cases h.2.2.2 (by omega)
theorem errorTop_any {kT : Nat} {nm kw : ByteArray} (h : EK kT nm kw) (ob k2 cb b q kb : Nat) (gt wt : Int) (w : World) (hE : Old w ob [.string ⟨#[49]⟩, .slice none 0 0, .iface 185 (.pointer (some ⟨k2, 0, none⟩)), .slice (some ⟨cb, 0, none⟩) 1 1]) (hC : Old w cb [.pointer (some ⟨b, 0, none⟩)]) (hO : Old w b [.string ⟨#[49]⟩, .slice (some ⟨q, 0, none⟩) 0 0, .iface kT (.pointer (some ⟨kb, 0, none⟩)), .slice none 0 0]) (hP : Old w kb [.int .i64 gt, .int .i64 wt]) :
  Ct 28 [.pointer (some ⟨ob, 0, none⟩)] w (fun p : Er => .agg #[.string ⟨#[49]⟩, .string ⟨#[83, 99, 104, 101, 109, 97]⟩, .slice (some ⟨p.p0, 0, none⟩) 0 0, .slice (some ⟨p.a0, 0, none⟩) 0 0, .string ⟨#[]⟩, .slice none 0 0, .slice none 0 0, .slice (some ⟨p.kd, 0, none⟩) 1 p.kc]) (fun p => (p.kd, .cells ([.string ⟨#[49]⟩, .string nm, .slice (some ⟨p.pb, 0, none⟩) 1 p.pc, .slice (some ⟨p.ab, 0, none⟩) 0 0, .string ⟨#[]⟩, .slice none 0 0, .slice (some ⟨p.nb, 0, none⟩) 2 2, .slice none 0 0] ++ p.Z2 : List Value).toArray 50) :: (p.pb, .cells (.string kw :: p.Z).toArray 9) :: (p.nb, .cells #[.int .i64 gt, .int .i64 wt] 3) :: []) (fun _ => True) := by
 cases h
 ·exact errorTop_MinItems ob k2 cb b q kb gt wt w hE hC hO hP
 ·exact errorTop_MaxItems ob k2 cb b q kb gt wt w hE hC hO hP
 ·exact errorTop_MinLength ob k2 cb b q kb gt wt w hE hC hO hP
 ·exact errorTop_MaxLength ob k2 cb b q kb gt wt w hE hC hO hP
 ·exact errorTop_MinProperties ob k2 cb b q kb gt wt w hE hC hO hP
 ·exact errorTop_MaxProperties ob k2 cb b q kb gt wt w hE hC hO hP
theorem v51_ok (lm : Lm) (hlm : lm.ok) (x : S27) (v : Value) (H : Hm) (hJ : OfJ x v H) (hn : x.f0 ≠ 2) (hs : x.f3.size < 4611686018427387904) (bs : Nat) (m24 m25 m27 m28 m29 rq l1 l2 l3 l4 l5 l6 : Nat) (w0 w : World) (R : Hm) (hH : Hp w0 w (H ++ (bs, .cells (schD lm.t1 lm.t2 lm.t3 lm.t4 lm.t5 lm.t6 m24 m25 m27 m28 m29 rq l1 l2 l3 l4 l5 l6).toArray 115) :: cmpH lm.t1 lm.t2 lm.t3 lm.t4 lm.t5 lm.t6 lm.n1 lm.n2 lm.n3 lm.n4 lm.n5 lm.n6 m24 m25 m27 m28 m29 l1 l2 l3 l4 l5 l6 R)) :
  Calls Tryz.prog 51 #[.pointer (some ⟨bs, 0, none⟩), v] w fun e w' => ∃ u, e = .returned u ∧ ∃ o, OutX lm x o ∧ V51 w0 R u w' o := by
 obtain ⟨j1, j2, j3, j4, j5, j6, _⟩ := hJ
 by_cases h3 : x.f0 = 3
 ·obtain ⟨rfl, rfl⟩ := j3 h3
  refine (outer_str x.f3 hs bs lm.t1 lm.t2 lm.t3 lm.t4 lm.t5 lm.t6 m24 m25 m27 m28 m29 rq l1 l2 l3 l4 l5 l6 lm.n1 lm.n2 lm.n3 lm.n4 lm.n5 lm.n6 hlm.1 w0 w R hH).mono fun e w' ⟨m, hm, hP⟩ => ?_
  rcases hP with ⟨h1, h2, rfl, hH1⟩ | ⟨ob, k2, cb, b, q, kb, h1, h2, rfl, hH1⟩ | ⟨ob, k2, cb, b, q, kb, h1, h2, rfl, hH1⟩
  ·exact ⟨_, rfl, none, ⟨fun _ => ⟨m, hm, ⟨h1, h2⟩⟩, (fun h => by omega), (fun h => by omega), (fun h => by omega)⟩, rfl, hH1⟩
  ·exact ⟨_, rfl, some (301, _, _), ⟨fun _ => ⟨m, hm, ⟨rfl, .inl ⟨rfl, h1, h2, rfl⟩⟩⟩, (fun h => by omega), (fun h => by omega), (fun h => by omega)⟩, ob, k2, cb, b, q, kb, _, rfl, hH1⟩
  ·exact ⟨_, rfl, some (303, _, _), ⟨fun _ => ⟨m, hm, ⟨rfl, .inr ⟨rfl, h1, h2, rfl⟩⟩⟩, (fun h => by omega), (fun h => by omega), (fun h => by omega)⟩, ob, k2, cb, b, q, kb, _, rfl, hH1⟩
 by_cases h4 : x.f0 = 4
 ·obtain ⟨b, c, rfl, rfl⟩ := j4 h4
  refine (outer_arr b 0 x.f5.length c bs lm.t1 lm.t2 lm.t3 lm.t4 lm.t5 lm.t6 m24 m25 m27 m28 m29 rq l1 l2 l3 l4 l5 l6 lm.n1 lm.n2 lm.n3 lm.n4 lm.n5 lm.n6 hlm.2.1 w0 w R hH).mono fun e w' hP => ?_
  rcases hP with ⟨h1, h2, rfl, hH1⟩ | ⟨ob, k2, cb, b, q, kb, h1, h2, rfl, hH1⟩ | ⟨ob, k2, cb, b, q, kb, h1, h2, rfl, hH1⟩
  ·exact ⟨_, rfl, none, ⟨(fun h => by omega), fun _ => ⟨h1, h2⟩, (fun h => by omega), (fun h => by omega)⟩, rfl, hH1⟩
  ·exact ⟨_, rfl, some (296, _, _), ⟨(fun h => by omega), fun _ => ⟨rfl, .inl ⟨rfl, h1, h2, rfl⟩⟩, (fun h => by omega), (fun h => by omega)⟩, ob, k2, cb, b, q, kb, _, rfl, hH1⟩
  ·exact ⟨_, rfl, some (299, _, _), ⟨(fun h => by omega), fun _ => ⟨rfl, .inr ⟨rfl, h1, h2, rfl⟩⟩, (fun h => by omega), (fun h => by omega)⟩, ob, k2, cb, b, q, kb, _, rfl, hH1⟩
 by_cases h5 : x.f0 = 5
 ·obtain ⟨m, es, clock, ks, rfl, rfl, hk, hnd, hiff⟩ := j5 h5
  have hsz : es.size = (U.dd (x.f4.take x.f5.length)).length := by
   have e1 := congrArg List.length hk.1
   rw [List.length_map, List.length_map, Array.length_toList] at e1
   rw [e1]
   exact U.len_dd ks _ hnd hiff
  refine (outer_obj m clock es hk.2 bs lm.t1 lm.t2 lm.t3 lm.t4 lm.t5 lm.t6 m24 m25 m27 m28 m29 rq l1 l2 l3 l4 l5 l6 lm.n1 lm.n2 lm.n3 lm.n4 lm.n5 lm.n6 hlm.2.2 w0 w R (((((((((((((hH).front 12 rfl).front 12 rfl).front 12 rfl).front 12 rfl).front 12 rfl).front 12 rfl).front 12 rfl).front 12 rfl).front 12 rfl).front 12 rfl).front 12 rfl).front 12 rfl)).mono fun e w' hP => ?_
  rw [hsz] at hP
  rcases hP with ⟨h1, h2, rfl, hH1⟩ | ⟨ob, k2, cb, b, q, kb, h1, h2, rfl, hH1⟩ | ⟨ob, k2, cb, b, q, kb, h1, h2, rfl, hH1⟩
  ·exact ⟨_, rfl, none, ⟨(fun h => by omega), (fun h => by omega), fun _ => ⟨h1, h2⟩, (fun h => by omega)⟩, rfl, hH1⟩
  ·exact ⟨_, rfl, some (305, _, _), ⟨(fun h => by omega), (fun h => by omega), fun _ => ⟨rfl, .inl ⟨rfl, h1, h2, rfl⟩⟩, (fun h => by omega)⟩, ob, k2, cb, b, q, kb, _, rfl, hH1⟩
  ·exact ⟨_, rfl, some (307, _, _), ⟨(fun h => by omega), (fun h => by omega), fun _ => ⟨rfl, .inr ⟨rfl, h1, h2, rfl⟩⟩, (fun h => by omega)⟩, ob, k2, cb, b, q, kb, _, rfl, hH1⟩
 by_cases h1 : x.f0 = 1
 ·obtain ⟨rfl, rfl⟩ := j1 h1
  exact (outer_bool x.f1 bs lm.t1 lm.t2 lm.t3 lm.t4 lm.t5 lm.t6 m24 m25 m27 m28 m29 rq l1 l2 l3 l4 l5 l6 lm.n1 lm.n2 lm.n3 lm.n4 lm.n5 lm.n6 w0 w R hH).mono fun e w' ⟨he, hH1⟩ => ⟨_, he, none, ⟨(fun h => by omega), (fun h => by omega), (fun h => by omega), fun _ => rfl⟩, rfl, hH1⟩
 ·obtain ⟨rfl, rfl⟩ := j6 (by omega)
  exact (outer_nil bs lm.t1 lm.t2 lm.t3 lm.t4 lm.t5 lm.t6 m24 m25 m27 m28 m29 rq l1 l2 l3 l4 l5 l6 lm.n1 lm.n2 lm.n3 lm.n4 lm.n5 lm.n6 w0 w R hH).mono fun e w' ⟨he, hH1⟩ => ⟨_, he, none, ⟨(fun h => by omega), (fun h => by omega), (fun h => by omega), fun _ => rfl⟩, rfl, hH1⟩
theorem wrap26 (bs : Nat) (v : Value) (w : World) (P : Value → World → Prop) (h : Calls Tryz.prog 51 #[.pointer (some ⟨bs, 0, none⟩), v] w fun e w' => ∃ u, e = .returned u ∧ P u w') :
  Calls Tryz.prog 26 #[.pointer (some ⟨bs, 0, none⟩), v] w fun e w' => ∃ u, e = .returned u ∧ P u w' := by
 refine c_enter (n := 8) (L := [(1, v), (0, .pointer (some ⟨bs, 0, none⟩))]) Tryz.func26 J J J J ?_
 intro a hF
 refine c_open (fun Q hpan hret hnorm => ?_)
 repeat (first | (refine is_list ?_; refine s_pe hF J J J J ?_; clear hF; intro a hF) | refine c_seq (fun K hK => ?_) | refine wp_region_lit ?_ | (refine c_nilK hK ?_; clear hK))
 refine s_callM hF J J J J J h ?_
 rintro e w' ⟨u, rfl, hP⟩
 refine ⟨_, rfl, ?_⟩; clear hF; intro a hF
 repeat (first | (refine is_list ?_; refine s_pe hF J J J J ?_; clear hF; intro a hF) | (refine c_nilK hK ?_; clear hK) | refine wp_ret ?_)
 exact hret _ _ (c_ret1 hF J J ⟨u, rfl, hP⟩)
def JE (w0 : World) (R : Hm) (e : Ending) (w' : World) : Option (Nat × Int × Int) → Prop
 | none => e = .returned (.tuple #[.agg #[.string ⟨#[]⟩, .string ⟨#[]⟩, .slice none 0 0, .slice none 0 0, .string ⟨#[]⟩, .slice none 0 0, .slice none 0 0, .slice none 0 0], .bool false]) ∧ Hp w0 w' R
 | some (kT, gt, wt) => ∃ (p : Er) (nm kw : ByteArray), EK kT nm kw ∧ e = .returned (.tuple #[.agg #[.string ⟨#[49]⟩, .string ⟨#[83, 99, 104, 101, 109, 97]⟩, .slice (some ⟨p.p0, 0, none⟩) 0 0, .slice (some ⟨p.a0, 0, none⟩) 0 0, .string ⟨#[]⟩, .slice none 0 0, .slice none 0 0, .slice (some ⟨p.kd, 0, none⟩) 1 p.kc], .bool true]) ∧ Hp w0 w' ((p.kd, .cells ([.string ⟨#[49]⟩, .string nm, .slice (some ⟨p.pb, 0, none⟩) 1 p.pc, .slice (some ⟨p.ab, 0, none⟩) 0 0, .string ⟨#[]⟩, .slice none 0 0, .slice (some ⟨p.nb, 0, none⟩) 2 2, .slice none 0 0] ++ p.Z2 : List Value).toArray 50) :: (p.pb, .cells (.string kw :: p.Z).toArray 9) :: (p.nb, .cells #[.int .i64 gt, .int .i64 wt] 3) :: R)
def nodeL (lm : Lm) : List Value := (.int .i64 0 :: .int .i64 0 :: .slice none 0 0 :: .slice none 0 0 :: .slice none 0 0 :: .int .i64 0 :: .int .i64 0 :: .int .i64 0 :: .int .i64 0 :: .slice none 0 0 :: .bool false :: .slice none 0 0 :: .slice none 0 0 :: .bool lm.t1 :: .int .i64 lm.n1 :: .bool lm.t2 :: .int .i64 lm.n2 :: .bool false :: .slice none 0 0 :: .bool false :: .slice none 0 0 :: .bool lm.t3 :: .int .i64 lm.n3 :: .bool lm.t4 :: .int .i64 lm.n4 :: .bool false :: .int .i64 0 :: .bool false :: .int .i64 0 :: .bool false :: .slice none 0 0 :: .int .i64 0 :: .int .i64 0 :: .int .i64 0 :: .bool lm.t5 :: .int .i64 lm.n5 :: .bool lm.t6 :: .int .i64 lm.n6 :: .slice none 0 0 :: .slice none 0 0 :: .slice none 0 0 :: .slice none 0 0 :: .slice none 0 0 :: .int .i64 0 :: .int .i64 0 :: .int .i64 0 :: .int .i64 0 :: .int .i64 0 :: .bool false :: .slice none 0 0 :: .int .i64 0 :: .int .i64 0 :: .slice none 0 0 :: [])
theorem jd_ok (lm : Lm) (hlm : lm.ok) (x : S27) (hx : Sm x) (hn : x.f0 ≠ 2) (hs : x.f3.size < 4611686018427387904) (bn : Nat) (A4 A5 : Option Addr) (c4 c5 : Nat) (w0 w : World) (R : Hm) (hX : k27.K w0 x [.int .i64 x.f0, .bool x.f1, .int .i64 x.f2, .string x.f3, .slice A4 x.f4.length c4, .slice A5 x.f5.length c5]) (hH : Hp w0 w ((bn, .cells (List.toArray (.int .i64 0 :: .int .i64 0 :: .slice none 0 0 :: .slice none 0 0 :: .slice none 0 0 :: .int .i64 0 :: .int .i64 0 :: .int .i64 0 :: .int .i64 0 :: .slice none 0 0 :: .bool false :: .slice none 0 0 :: .slice none 0 0 :: .bool lm.t1 :: .int .i64 lm.n1 :: .bool lm.t2 :: .int .i64 lm.n2 :: .bool false :: .slice none 0 0 :: .bool false :: .slice none 0 0 :: .bool lm.t3 :: .int .i64 lm.n3 :: .bool lm.t4 :: .int .i64 lm.n4 :: .bool false :: .int .i64 0 :: .bool false :: .int .i64 0 :: .bool false :: .slice none 0 0 :: .int .i64 0 :: .int .i64 0 :: .int .i64 0 :: .bool lm.t5 :: .int .i64 lm.n5 :: .bool lm.t6 :: .int .i64 lm.n6 :: .slice none 0 0 :: .slice none 0 0 :: .slice none 0 0 :: .slice none 0 0 :: .slice none 0 0 :: .int .i64 0 :: .int .i64 0 :: .int .i64 0 :: .int .i64 0 :: .int .i64 0 :: .bool false :: .slice none 0 0 :: .int .i64 0 :: .int .i64 0 :: .slice none 0 0 :: [])) 44) :: R)) :
  Calls Tryz.prog 17 #[.int .i64 2020, .slice (some ⟨bn, 0, none⟩) 1 1, .agg #[.int .i64 x.f0, .bool x.f1, .int .i64 x.f2, .string x.f3, .slice A4 x.f4.length c4, .slice A5 x.f5.length c5]] w fun e w' => ∃ o, OutX lm x o ∧ JE w0 ((bn, .cells (List.toArray (.int .i64 0 :: .int .i64 0 :: .slice none 0 0 :: .slice none 0 0 :: .slice none 0 0 :: .int .i64 0 :: .int .i64 0 :: .int .i64 0 :: .int .i64 0 :: .slice none 0 0 :: .bool false :: .slice none 0 0 :: .slice none 0 0 :: .bool lm.t1 :: .int .i64 lm.n1 :: .bool lm.t2 :: .int .i64 lm.n2 :: .bool false :: .slice none 0 0 :: .bool false :: .slice none 0 0 :: .bool lm.t3 :: .int .i64 lm.n3 :: .bool lm.t4 :: .int .i64 lm.n4 :: .bool false :: .int .i64 0 :: .bool false :: .int .i64 0 :: .bool false :: .slice none 0 0 :: .int .i64 0 :: .int .i64 0 :: .int .i64 0 :: .bool lm.t5 :: .int .i64 lm.n5 :: .bool lm.t6 :: .int .i64 lm.n6 :: .slice none 0 0 :: .slice none 0 0 :: .slice none 0 0 :: .slice none 0 0 :: .slice none 0 0 :: .int .i64 0 :: .int .i64 0 :: .int .i64 0 :: .int .i64 0 :: .int .i64 0 :: .bool false :: .slice none 0 0 :: .int .i64 0 :: .int .i64 0 :: .slice none 0 0 :: [])) 44) :: R) e w' o := by
 refine c_enter (n := 30) (L := [(2, .agg #[.int .i64 x.f0, .bool x.f1, .int .i64 x.f2, .string x.f3, .slice A4 x.f4.length c4, .slice A5 x.f5.length c5]), (1, .slice (some ⟨bn, 0, none⟩) 1 1), (0, .int .i64 2020)]) Tryz.func17 J J J J ?_
 intro a hF
 refine c_open (fun Q hpan hret hnorm => ?_)
 repeat (first | (refine is_list ?_; first | (refine s_pe hF J J J J ?_; clear hF; intro a hF) | (refine is_load ?_; refine s_lda 14 hF hH J J J J J J J ?_; clear hF; intro a hF) | (refine is_call ?_; refine s_callM hF J J J J J (compiled_ok lm.t1 lm.t2 lm.t3 lm.t4 lm.t5 lm.t6 lm.n1 lm.n2 lm.n3 lm.n4 lm.n5 lm.n6 bn w0 w _ (hH.front 2 rfl)) ?_; rintro e w ⟨bs, m24, m25, m27, m28, m29, rq, l1, l2, l3, l4, l5, l6, rfl, hH1⟩; refine ⟨_, rfl, ?_⟩; clear hF hH; intro a hF; have hH := hH1; clear hH1) | ((first | refine s_bx hF hH J J J J ?_ | refine s_al hF hH J J J J ?_); clear hF hH; intro a b w hF hH)) | refine c_seq (fun K hK => ?_) | refine wp_region_lit ?_ | (refine c_nilK hK ?_; clear hK) | refine c_false hF rfl ?_ | refine wp_skip ?_ | (refine e_thenK hK ?_; clear hK))
 refine s_call hF hH J J J J J (ofJ_ok hx w _ (k27.K_below hH.below hX)) ?_
 clear hF hH; intro a w p hp hF hH
 refine s_callM hF J J J J J (wrap26 bs p.1 w _ (v51_ok lm hlm x p.1 p.2 hp hn hs bs m24 m25 m27 m28 m29 rq l1 l2 l3 l4 l5 l6 w0 w _ hH)) ?_
 rintro e w ⟨u, rfl, o, hO, hV⟩
 refine ⟨_, rfl, ?_⟩; clear hF hH; intro a hF
 cases o with
 | none =>
  obtain ⟨rfl, hH⟩ := hV
  repeat (first | (refine is_list ?_; first | (refine s_pe hF J J J J ?_; clear hF; intro a hF) | (refine s_sta 1 hF hH J J J J J J J J J J ?_; clear hH; intro w hH)) | refine c_seq (fun K hK => ?_) | refine wp_region_lit ?_ | (refine c_nilK hK ?_; clear hK) | refine c_true hF rfl ?_ | refine wp_ret ?_ | (refine e_ret ?_; clear hK))
  exact hret _ _ (c_retCT 1 hF hH J J J J J J ⟨none, hO, rfl, hH.mid 1 2⟩)
 | some o =>
  obtain ⟨ob, k2, cb, b2, q, kb, kS, rfl, hH⟩ := hV
  obtain ⟨nm, kw, hk⟩ := outX_ek hO
  repeat (first | (refine is_list ?_; refine s_pe hF J J J J ?_; clear hF; intro a hF) | refine c_seq (fun K hK => ?_) | refine wp_region_lit ?_ | (refine c_nilK hK ?_; clear hK) | refine c_false hF rfl ?_ | refine wp_skip ?_ | (refine e_thenK hK ?_; clear hK))
  refine s_call hF hH J J J J J (errorTop_any hk ob k2 cb b2 q kb _ _ w (hH.toOld (i := 0) rfl) (hH.toOld (i := 2) rfl) (hH.toOld (i := 3) rfl) (hH.toOld (i := 4) rfl)) ?_
  clear hF hH; intro a w p _ hF hH
  repeat (first | (refine is_list ?_; first | (refine s_pe hF J J J J ?_; clear hF; intro a hF) | (refine s_sta 9 hF hH J J J J J J J J J J ?_; clear hH; intro w hH)) | (refine c_nilK hK ?_; clear hK) | refine wp_ret ?_)
  exact hret _ _ (c_retCT 9 hF hH J J J J J J ⟨some o, hO, p, nm, kw, hk, rfl, ((hH.mid 3 5).mid 4 2)⟩)
theorem jerrors_ok (lm : Lm) (hlm : lm.ok) (x : S27) (hx : Sm x) (hn : x.f0 ≠ 2) (hs : x.f3.size < 4611686018427387904) (bn : Nat) (A4 A5 : Option Addr) (c4 c5 : Nat) (w0 w : World) (R : Hm) (hX : k27.K w0 x [.int .i64 x.f0, .bool x.f1, .int .i64 x.f2, .string x.f3, .slice A4 x.f4.length c4, .slice A5 x.f5.length c5]) (hH : Hp w0 w ((bn, .cells (List.toArray (.int .i64 0 :: .int .i64 0 :: .slice none 0 0 :: .slice none 0 0 :: .slice none 0 0 :: .int .i64 0 :: .int .i64 0 :: .int .i64 0 :: .int .i64 0 :: .slice none 0 0 :: .bool false :: .slice none 0 0 :: .slice none 0 0 :: .bool lm.t1 :: .int .i64 lm.n1 :: .bool lm.t2 :: .int .i64 lm.n2 :: .bool false :: .slice none 0 0 :: .bool false :: .slice none 0 0 :: .bool lm.t3 :: .int .i64 lm.n3 :: .bool lm.t4 :: .int .i64 lm.n4 :: .bool false :: .int .i64 0 :: .bool false :: .int .i64 0 :: .bool false :: .slice none 0 0 :: .int .i64 0 :: .int .i64 0 :: .int .i64 0 :: .bool lm.t5 :: .int .i64 lm.n5 :: .bool lm.t6 :: .int .i64 lm.n6 :: .slice none 0 0 :: .slice none 0 0 :: .slice none 0 0 :: .slice none 0 0 :: .slice none 0 0 :: .int .i64 0 :: .int .i64 0 :: .int .i64 0 :: .int .i64 0 :: .int .i64 0 :: .bool false :: .slice none 0 0 :: .int .i64 0 :: .int .i64 0 :: .slice none 0 0 :: [])) 44) :: R)) :
  Calls Tryz.prog 12 #[.slice (some ⟨bn, 0, none⟩) 1 1, .agg #[.int .i64 x.f0, .bool x.f1, .int .i64 x.f2, .string x.f3, .slice A4 x.f4.length c4, .slice A5 x.f5.length c5]] w fun e w' => ∃ o, OutX lm x o ∧ JE w0 ((bn, .cells (List.toArray (.int .i64 0 :: .int .i64 0 :: .slice none 0 0 :: .slice none 0 0 :: .slice none 0 0 :: .int .i64 0 :: .int .i64 0 :: .int .i64 0 :: .int .i64 0 :: .slice none 0 0 :: .bool false :: .slice none 0 0 :: .slice none 0 0 :: .bool lm.t1 :: .int .i64 lm.n1 :: .bool lm.t2 :: .int .i64 lm.n2 :: .bool false :: .slice none 0 0 :: .bool false :: .slice none 0 0 :: .bool lm.t3 :: .int .i64 lm.n3 :: .bool lm.t4 :: .int .i64 lm.n4 :: .bool false :: .int .i64 0 :: .bool false :: .int .i64 0 :: .bool false :: .slice none 0 0 :: .int .i64 0 :: .int .i64 0 :: .int .i64 0 :: .bool lm.t5 :: .int .i64 lm.n5 :: .bool lm.t6 :: .int .i64 lm.n6 :: .slice none 0 0 :: .slice none 0 0 :: .slice none 0 0 :: .slice none 0 0 :: .slice none 0 0 :: .int .i64 0 :: .int .i64 0 :: .int .i64 0 :: .int .i64 0 :: .int .i64 0 :: .bool false :: .slice none 0 0 :: .int .i64 0 :: .int .i64 0 :: .slice none 0 0 :: [])) 44) :: R) e w' o := by
 refine c_enter (n := 11) (L := [(1, .agg #[.int .i64 x.f0, .bool x.f1, .int .i64 x.f2, .string x.f3, .slice A4 x.f4.length c4, .slice A5 x.f5.length c5]), (0, .slice (some ⟨bn, 0, none⟩) 1 1)]) Tryz.func12 J J J J ?_
 intro a hF
 refine c_open (fun Q hpan hret hnorm => ?_)
 repeat (first | (refine is_list ?_; first | (refine s_pe hF J J J J ?_; clear hF; intro a hF) | (refine is_load ?_; refine s_lda 1 hF hH J J J J J J J ?_; clear hF; intro a hF) | ((first | refine s_bx hF hH J J J J ?_ | refine s_al hF hH J J J J ?_); clear hF hH; intro a b w hF hH)) | refine c_seq (fun K hK => ?_) | refine wp_region_lit ?_ | (refine c_nilK hK ?_; clear hK))
 refine s_callM hF J J J J J (jd_ok lm hlm x hx hn hs bn A4 A5 c4 c5 w0 w _ hX (hH.front 2 rfl)) ?_
 rintro e w ⟨o, hO, hV⟩
 cases o with
 | none =>
  obtain ⟨rfl, hH⟩ := hV
  refine ⟨_, rfl, ?_⟩; clear hF; intro a hF
  repeat (first | (refine is_list ?_; first | (refine s_pe hF J J J J ?_; clear hF; intro a hF) | (refine s_sta 1 hF hH J J J J J J J J J J ?_; clear hH; intro w hH)) | (refine c_nilK hK ?_; clear hK) | refine wp_ret ?_)
  exact hret _ _ (c_retCT 1 hF hH J J J J J J ⟨none, hO, rfl, hH.mid 1 2⟩)
 | some o =>
  obtain ⟨p, nm, kw, hk, rfl, hH⟩ := hV
  refine ⟨_, rfl, ?_⟩; clear hF; intro a hF
  repeat (first | (refine is_list ?_; first | (refine s_pe hF J J J J ?_; clear hF; intro a hF) | (refine s_sta 4 hF hH J J J J J J J J J J ?_; clear hH; intro w hH)) | (refine c_nilK hK ?_; clear hK) | refine wp_ret ?_)
  exact hret _ _ (c_retCT 4 hF hH J J J J J J ⟨some o, hO, p, nm, kw, hk, rfl, (hH.mid 4 2)⟩)
end Go.Proofs.YtlkikblohnnlcaaGreatDoor.Y
end
section
namespace Go.Proofs.YtlkikblohnnlcaaGreatDoor.Y
open Go Go.RowKit X R Go.Proofs.YtlkikblohnnlcaaGreatDoorW.PrintWords
set_option linter.unusedVariables false
set_option maxRecDepth 4000
theorem hp_below {w w' : World} (h : Below w.heap.size w w') : Hp w w' [] := (Hp.start w).of_below h
theorem ctB {β : Type} {f : FuncId} {args : List Value} {w : World} {V : β → Value} {φ : β → Prop} (x : β) (hφ : φ x) (h : Calls Tryz.prog f args.toArray w fun e w' => e = .returned (V x) ∧ Below w.heap.size w w') : Ct f args w V (fun _ => []) φ :=
 h.mono fun e w' ⟨he, hb⟩ => ⟨x, hφ, he, hp_below hb⟩
theorem ctD {β : Type} {f : FuncId} {args : List Value} {w : World} {V : β → Value} {φ : β → Prop} (x : β) (hφ : φ x) (h : Calls Tryz.prog f args.toArray w fun e w' => e = .returned (V x) ∧ Drawn0 w w') : Ct f args w V (fun _ => []) φ :=
 h.mono fun e w' ⟨he, hb⟩ => ⟨x, hφ, he, hp_below hb.below⟩
inductive Sz : S27 → Prop
 | mk (x : S27) (h3 : x.f3.size < 4611686018427387904) (h4 : x.f4.length ≤ 8796093022208) (h4' : ∀ t ∈ x.f4, t.size < 4611686018427387904) (h5 : x.f5.length ≤ 2000000000000) (hs : ∀ y ∈ x.f5, Sz y) : Sz x
theorem Sz.sm {x : S27} (h : Sz x) : Sm x := by
 induction h with
 | mk x h3 h4 h4' h5 hs ih => exact .mk x h5 ih
theorem Sz.t3 {x : S27} (h : Sz x) : x.f3.size < 4611686018427387904 := by cases h; assumption
theorem Sz.l4 {x : S27} (h : Sz x) : x.f4.length ≤ 8796093022208 := by cases h; assumption
theorem Sz.t4 {x : S27} (h : Sz x) : ∀ t ∈ x.f4, t.size < 4611686018427387904 := by cases h; assumption
theorem Sz.l5 {x : S27} (h : Sz x) : x.f5.length ≤ 2000000000000 := by cases h; assumption
theorem Sz.s5 {x : S27} (h : Sz x) : ∀ y ∈ x.f5, Sz y := by cases h; assumption
theorem c23 (s : ByteArray) (hs : s.size < 4611686018427387904) (w : World) : Ct 23 [.string s] w (fun r : Bool => .bool r) (fun _ => []) (fun r => r = true → U.okF s s.size 0) := by
 obtain ⟨k, r, h1, h2⟩ := U.utf8_ends s hs
 exact ctD r h2 (spec_JUtf8.calls k s r w h1)
theorem c34 (s : ByteArray) (hs : s.size < 4611686018427387904) (w : World) : Ct 34 [.string s] w (fun _ : Unit => .int .i64 ((U.nc s s.size 0 : Nat) : Int)) (fun _ => []) (fun _ => True) := by
 obtain ⟨k, h1⟩ := U.runes_ends s hs
 exact ctD () trivial (spec_JRunes.calls k s _ w h1)
theorem c83 (s : ByteArray) (hs : s.size < 4611686018427387904) (w : World) : Ct 83 [.string s] w (fun r : Bool => .bool r) (fun _ => []) (fun r => r = true → 0 < s.size) := by
 obtain ⟨r, h1, h2⟩ := U.digits_ends s hs (s.size + 1) (by omega)
 exact ctD r h2 (spec_jDigits.calls _ s r w h1)
theorem c84 (s : ByteArray) (hs : s.size < 4611686018427387904) (i : Nat) (w : World) : Ct 84 [.string s, .int .i64 (i : Nat)] w (fun j : Nat => .int .i64 (j : Nat)) (fun _ => []) (fun j => i ≤ j ∧ (i ≤ s.size → j ≤ s.size)) := by
 obtain ⟨k, j, h1, h2⟩ := U.run_ends s hs i
 exact ctD j h2 (spec_jRun.calls k s _ _ w h1)
theorem c43 (s : ByteArray) (hs : s.size < 4611686018427387904) (w : World) : Ct 43 [.string s] w (fun r : Bool => .bool r) (fun _ => []) (fun r => True) := by
 obtain ⟨k, r, h1⟩ := U.plain_ends s hs
 exact ctD r trivial (spec_jPlain.calls k s r w h1)
theorem c43_1 (w : World) : Ct 43 [.string ⟨#[49]⟩] w (fun _ : Unit => .bool true) (fun _ => []) (fun r => True) :=
 ctD () trivial (spec_jPlain.calls 5 ⟨#[49]⟩ true w (by kernel_rfl))
theorem c44 (s : ByteArray) (hs : s.size < 4611686018427387904) (w : World) : Ct 44 [.string s] w (fun r : Int => .int .i64 r) (fun _ => []) (fun r => True) := by
 obtain ⟨k, r, h1⟩ := U.number_ends s hs
 exact ctD r trivial (spec_jNumber.calls k s r w h1)
theorem c44_1 (w : World) : Ct 44 [.string ⟨#[49]⟩] w (fun _ : Unit => .int .i64 1) (fun _ => []) (fun r => True) :=
 ctD () trivial (spec_jNumber.calls 5 ⟨#[49]⟩ 1 w (by kernel_rfl))
theorem c126 (s : ByteArray) (w : World) : Ct 126 [.string s] w (fun r : ByteArray => .string r) (fun _ => []) (fun r => r.size ≤ s.size) := by
 obtain ⟨k, r, h1, h2⟩ := U.bare_ends s
 exact ctD r h2 (spec_jBare.calls k s r w h1)
def bd (m : Int) (t : Bool) (n : Int) (t' : Bool) (n' : Int) : Bool := (!t || decide (n ≤ m)) && (!t' || decide (m ≤ n'))
theorem c33 (m : Int) (t : Bool) (n : Int) (t' : Bool) (n' : Int) (w : World) : Ct 33 [.int .i64 m, .agg #[.bool t, .int .i64 n], .agg #[.bool t', .int .i64 n']] w (fun _ : Unit => .bool (bd m t n t' n')) (fun _ => []) (fun r => True) := by
 refine ctB () trivial (spec_jBounded.calls m t n t' n' _ w ?_)
 unfold spec_jBounded.f bd
 cases t <;> cases t' <;> by_cases h : n ≤ m <;> simp [h]
theorem c35 (s : ByteArray) (w : World) : Ct 35 [.string s, .agg #[.bool false, .slice none 0 0]] w (fun _ : Unit => .bool true) (fun _ => []) (fun r => True) :=
 ctB () trivial (spec_jTaken.calls 0 s false none 0 [] true w (Kd.C_nil _ _) (Nat.le_refl _) (by simp [spec_jTaken.f]))
theorem c63 (x : S27) (hx : Sz x) (A4 A5 : Option Addr) (c4 c5 : Nat) (t : ByteArray) (w : World) (hX : k27.K w x [.int .i64 x.f0, .bool x.f1, .int .i64 x.f2, .string x.f3, .slice A4 x.f4.length c4, .slice A5 x.f5.length c5]) : Ct 63 [.agg #[.int .i64 x.f0, .bool x.f1, .int .i64 x.f2, .string x.f3, .slice A4 x.f4.length c4, .slice A5 x.f5.length c5], .string t] w (fun r : Int => .int .i64 r) (fun _ => []) (fun r => U.IsLast x.f4 t r) := by
 have h4 := hx.l4
 obtain ⟨A4', c4', A5', c5', he, l4, g4, l5, g5⟩ := k27_open hX
 simp only [List.cons.injEq, Value.slice.injEq, and_true, true_and] at he
 obtain ⟨⟨rfl, rfl⟩, rfl, rfl⟩ := he
 obtain ⟨r, h1, h2⟩ := U.member_ends x.f0 x.f1 x.f2 x.f3 x.f4 x.f5 t (by omega) (x.f4.length + 1) (by omega)
 exact ctB r h2 (spec_JMember.calls _ x.f0 x.f1 x.f2 x.f3 A4 c4 x.f4 A5 c5 x.f5 t r w g4 l4 g5 l5 h1)
theorem c112 (x y : S27) (hx : Sz x) (hy : Sz y) (A4 A5 : Option Addr) (c4 c5 : Nat) (B4 B5 : Option Addr) (d4 d5 : Nat) (w : World) (hX : k27.K w x [.int .i64 x.f0, .bool x.f1, .int .i64 x.f2, .string x.f3, .slice A4 x.f4.length c4, .slice A5 x.f5.length c5]) (hY : k27.K w y [.int .i64 y.f0, .bool y.f1, .int .i64 y.f2, .string y.f3, .slice B4 y.f4.length d4, .slice B5 y.f5.length d5]) : Ct 112 [.agg #[.int .i64 x.f0, .bool x.f1, .int .i64 x.f2, .string x.f3, .slice A4 x.f4.length c4, .slice A5 x.f5.length c5], .agg #[.int .i64 y.f0, .bool y.f1, .int .i64 y.f2, .string y.f3, .slice B4 y.f4.length d4, .slice B5 y.f5.length d5]] w (fun r : Bool => .bool r) (fun _ => []) (fun r => True) := by
 have h4 := hx.l4
 have h4' := hy.l4
 obtain ⟨A4', c4', A5', c5', he, l4, g4, l5, g5⟩ := k27_open hX
 simp only [List.cons.injEq, Value.slice.injEq, and_true, true_and] at he
 obtain ⟨⟨rfl, rfl⟩, rfl, rfl⟩ := he
 obtain ⟨B4', d4', B5', d5', he, l4', g4', l5', g5'⟩ := k27_open hY
 simp only [List.cons.injEq, Value.slice.injEq, and_true, true_and] at he
 obtain ⟨⟨rfl, rfl⟩, rfl, rfl⟩ := he
 obtain ⟨k, r, h1⟩ := U.has_ends x.f0 x.f1 x.f2 x.f3 x.f4 x.f5 y.f0 y.f1 y.f2 y.f3 y.f4 y.f5 (by omega) (by omega)
 exact ctB r trivial (spec_jHas.calls k x.f0 x.f1 x.f2 x.f3 A4 c4 x.f4 A5 c5 x.f5 y.f0 y.f1 y.f2 y.f3 B4 d4 y.f4 B5 d5 y.f5 r w g4 l4 g5 l5 g4' l4' g5' l5' h1)
theorem c4 (x : S27) (A4 A5 : Option Addr) (c4 c5 : Nat) (w : World) (hX : k27.K w x [.int .i64 x.f0, .bool x.f1, .int .i64 x.f2, .string x.f3, .slice A4 x.f4.length c4, .slice A5 x.f5.length c5]) : Ct 4 [.agg #[.int .i64 x.f0, .bool x.f1, .int .i64 x.f2, .string x.f3, .slice A4 x.f4.length c4, .slice A5 x.f5.length c5]] w (fun r : Bool => .bool r) (fun _ => []) (fun r => r = true → x.f3.size ≤ 2147483647 ∧ x.f4.length ≤ 2147483647 ∧ x.f5.length ≤ 2147483647) := by
 obtain ⟨A4', c4', A5', c5', he, l4, g4, l5, g5⟩ := k27_open hX
 simp only [List.cons.injEq, Value.slice.injEq, and_true, true_and] at he
 obtain ⟨⟨rfl, rfl⟩, rfl, rfl⟩ := he
 obtain ⟨k, r, h1, h2⟩ := U.fits5_ends x.f0 x.f1 x.f2 x.f3 x.f4 x.f5
 exact ctB r h2 (laws_zzFits5.calls k x.f0 x.f1 x.f2 x.f3 A4 c4 x.f4 A5 c5 x.f5 r w g4 l4 g5 l5 h1)
abbrev Ml := List Int × Option (Nat × Nat × List Value)
def mlV (p : Ml) : Value := match p.2 with
 | none => .slice none 0 0
 | some (g, cap, _) => .slice (some ⟨g, 0, none⟩) p.1.length cap
def mlH (p : Ml) : Hm := match p.2 with
 | none => []
 | some (g, _, cur) => [(g, .cells cur.toArray 3)]
structure MlOk (x : S27) (p : Ml) : Prop where
 len : p.1.length = (U.dd x.f4).length
 le : p.1.length ≤ x.f4.length
 rng : ∀ q ∈ p.1, 0 ≤ q ∧ q < (x.f4.length : Int)
 nil : p.2 = none → p.1 = []
 get : ∀ g cap cur, p.2 = some (g, cap, cur) → ∀ (i : Nat) (q : Int), p.1[i]? = some q → cur[i]? = some (.int .i64 q)
theorem c72 (x : S27) (hx : Sz x) (A4 A5 : Option Addr) (c4 c5 : Nat) (w : World) (hX : k27.K w x [.int .i64 x.f0, .bool x.f1, .int .i64 x.f2, .string x.f3, .slice A4 x.f4.length c4, .slice A5 x.f5.length c5]) : Ct 72 [.agg #[.int .i64 x.f0, .bool x.f1, .int .i64 x.f2, .string x.f3, .slice A4 x.f4.length c4, .slice A5 x.f5.length c5]] w mlV mlH (MlOk x) := by
 have h4 := hx.l4
 obtain ⟨A4', c4', A5', c5', he, l4, g4, l5, g5⟩ := k27_open hX
 simp only [List.cons.injEq, Value.slice.injEq, and_true, true_and] at he
 obtain ⟨⟨rfl, rfl⟩, rfl, rfl⟩ := he
 obtain ⟨k, r, h1, h2, h3, h5⟩ := U.members_ends x.f0 x.f1 x.f2 x.f3 x.f4 x.f5 (by omega)
 refine (spec_JMembers.calls k x.f0 x.f1 x.f2 x.f3 A4 c4 x.f4 A5 c5 x.f5 r w g4 l4 g5 l5 h1).mono ?_
 rintro e w' ⟨v, rfl, ⟨_, inner, ⟨hil, how⟩, hrl, hre⟩, hb⟩
 rcases how with ⟨rfl, h0⟩ | ⟨g, cap, cur, rfl, hg, hh, hn, hc, hcs, hct⟩
 ·have hr : r = [] := List.eq_nil_of_length_eq_zero h0
  subst hr
  exact ⟨([], none), ⟨h2, h3, h5, fun _ => rfl, fun g cap cur h => by cases h⟩, rfl, hp_below hb⟩
 ·refine ⟨(r, some (g, cap, cur.toList)), ⟨h2, h3, h5, (fun h => by cases h), ?_⟩, rfl, ?_⟩
  ·rintro g' cap' cur' h i q hq
   obtain ⟨rfl, rfl, rfl⟩ : g = g' ∧ cap = cap' ∧ cur.toList = cur' := by
    have := Option.some.inj h
    simp only [Prod.mk.injEq] at this
    exact this
   have := hre i q hq
   change (inner.drop (i * 1)).take 1 = [.int .i64 q] at this
   rw [Nat.mul_one] at this
   have hi : inner[i]? = some (.int .i64 q) := by
    have h6 : ((inner.drop i).take 1)[0]? = some (.int .i64 q) := by rw [this]; rfl
    rw [List.getElem?_take_of_lt (by omega), List.getElem?_drop] at h6
    exact h6
   rw [← hct] at hi
   have hlt : i < r.length := (List.getElem?_eq_some_iff.1 hq).1
   change (cur.toList.take (r.length * 1))[i]? = _ at hi
   rw [Nat.mul_one, List.getElem?_take_of_lt hlt] at hi
   exact hi
  ·refine ⟨hb, fun e he => ?_, List.pairwise_singleton _ _⟩
   rw [List.mem_singleton.1 he]
   exact ⟨hg, by rw [hh]⟩
end Go.Proofs.YtlkikblohnnlcaaGreatDoor.Y
end
