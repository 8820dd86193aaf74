/- A part of the proof that FnJTellLimits returns true for every input, on the conditions that its given row lists. -/
import Derived.Test.YtlkikblohnnlcaaGreatDoorFf
import Derived.Test.YtlkikblohnnlcaaGreatDoorCards
import Derived.Test.YtlkikblohnnlcaaGreatDoorTie
import Derived.WalkKit
import Derived.ProofKit
import Derived.OpenShut
import Derived.WideKeyArgs
import Derived.Deep.DeepHandedRow
import Derived.Lib.LaidTab
set_option linter.unusedVariables false
set_option linter.unusedSimpArgs false
section
namespace Go.Proofs.YtlkikblohnnlcaaGreatDoor.Y
open Go Go.ChangeShapes Go.WideShapes Go.ChangeAt Go.RowKit X R Go.Proofs.YtlkikblohnnlcaaGreatDoorW.PrintWords
set_option linter.unusedVariables false
set_option maxRecDepth 100000
theorem Sq.sz {x : S27} (h : Sq x) : Sz x := by
 induction h with
 | mk x h3 h4 h4' h5 hs ih => exact .mk x h3 h4 h4' h5 ih
theorem own : ownKnob Tryz.prog.godebug = none := by kernel_rfl
theorem agg_of {v : Value} {l : List Value} (h : v.cells.toList = l) (hl : l.length ≠ 1) : v = .agg l.toArray := by
 subst h
 cases v <;> simp [Value.cells] at hl ⊢
theorem laidOut : laidOutB Tryz.prog = true := by kernel_rfl
theorem rr23 : Tryz.prog.readableRec 23 = true := by kernel_rfl
theorem rr27 : Tryz.prog.readableRec 27 = true := by kernel_rfl
theorem ts23 : 23 < Tryz.prog.types.size := of_decide_eq_true (by kernel_rfl)
theorem ts27 : 27 < Tryz.prog.types.size := of_decide_eq_true (by kernel_rfl)
section
variable {H : Type} {enc : TypeId × Value → H} {W : World} {sp : Nat → Bool} {held : Bool}
theorem read23 {v : Value} {d : DataW H} {ps : List MemPlace} (h : DataW.Trod enc Tryz.prog W 0 sp held 23 v d ps) : ∃ (t : Bool) (n : Int), v = .agg #[.bool t, .int .i64 n] := by
 obtain ⟨fuel, hf⟩ := h
 obtain ⟨xs, n, rfl, hx, hcl, hxl, hf⟩ := DataW.trod_struct Tryz.underlying23 hf
 have c23 : Tryz.prog.cellsOf 23 = 2 := by kernel_rfl
 rw [c23] at hcl
 obtain ⟨y0, y1, rfl⟩ : ∃ y0 y1, xs = [y0, y1] := by
  match xs, hxl with
  | [y0, y1], _ => exact ⟨_, _, rfl⟩
 generalize hcs : v.cells.toList = cs at hf hcl
 obtain ⟨c0, c1, rfl⟩ : ∃ c0 c1, cs = [c0, c1] := by
  match cs, hcl with
  | [c0, c1], _ => exact ⟨_, _, rfl⟩
 have f0 : DataW.trod enc Tryz.prog W 0 sp held n 4 (([c0, c1].drop 0).take (Tryz.prog.cellsOf 4)) = some y0 := hf 0 _ rfl
 rw [cells4] at f0
 change DataW.trod enc Tryz.prog W 0 sp held n 4 [c0] = some y0 at f0
 have f1 : DataW.trod enc Tryz.prog W 0 sp held n 3 (([c0, c1].drop 1).take (Tryz.prog.cellsOf 3)) = some y1 := hf 1 _ rfl
 rw [cells3] at f1
 change DataW.trod enc Tryz.prog W 0 sp held n 3 [c1] = some y1 at f1
 obtain ⟨b, e0, _⟩ := DataW.trod_bool Tryz.underlying4 f0
 obtain ⟨m, e1, _⟩ := DataW.trod_int Tryz.underlying3 f1
 simp only [List.cons.injEq, and_true] at e0 e1
 subst e0 e1
 exact ⟨b, m, agg_of hcs (by simp)⟩
end
theorem same_of {W W' : World} (h : Below W.heap.size W W') {p : MemPlace} (hp : p.block < W.heap.size) : W.sameAt W' p := by
 cases p with
 | cell b off =>
  show W'.cell? ⟨b, off, none⟩ = W.cell? ⟨b, off, none⟩
  have := h.block b hp
  simp only [World.cell?, this]
 | map b => exact h.block b hp
theorem post_below {H : Type} {enc : TypeId × Value → H} {W W' : World} {args : Array Value} {ds gs : List (DataW H)} {before : List MemPlace} {s : ChangeSpec} (hs : s = Rows.fnJTellLimitsSpec)
  (hW : DataW.Whole enc Tryz.prog Tryz.f3.params.toList s.vars false W args.toList ds gs before) (hB : Below W.heap.size W W') : s.post enc Tryz.prog Tryz.f3 false true false false W args (.bool true) W' := by
 subst hs
 have hlt := hW.lt
 have hW' := hW
 obtain ⟨p, q, hA0, hV, rfl, hfz, hnd⟩ := hW
 obtain ⟨rfl, rfl⟩ := trodVars_none hV
 have hA : DataW.TrodAll enc Tryz.prog W 0 (fun _ => true) true Tryz.f3.params.toList args.toList ds p := hA0
 rw [Tryz.params3] at hA
 obtain ⟨v0, vs0, d0, ds0, p0, q0, hargs, rfl, rfl, h0, r0⟩ := trodAll_cons hA
 obtain ⟨v1, vs1, d1, ds1, p1, q1, rfl, rfl, rfl, h1, r1⟩ := trodAll_cons r0
 obtain ⟨v2, vs2, d2, ds2, p2, q2, rfl, rfl, rfl, h2, r2⟩ := trodAll_cons r1
 obtain ⟨rfl, rfl, rfl⟩ := trodAll_nil r2
 simp only [List.append_nil] at hlt hW'
 have hall : ∀ sp : Nat → Bool, (∀ x ∈ p0 ++ (p1 ++ p2), sp x.block = true) → DataW.TrodAll enc Tryz.prog W' 0 sp true Tryz.f3.params.toList args.toList [d0, d1, d2] (p0 ++ (p1 ++ p2)) := by
  intro sp hsp
  rw [Tryz.params3, hargs]
  have g0 := Go.WideElems.Trod_stays laidOut rr23 ts23 h0 (W' := W') (sp' := sp) (fun x hx => same_of hB (hlt x (by simp [hx]))) (fun x hx => hsp x (by simp [hx]))
  have g1 := Go.WideElems.Trod_stays laidOut rr23 ts23 h1 (W' := W') (sp' := sp) (fun x hx => same_of hB (hlt x (by simp [hx]))) (fun x hx => hsp x (by simp [hx]))
  have g2 := Go.WideElems.Trod_stays laidOut rr27 ts27 h2 (W' := W') (sp' := sp) (fun x hx => same_of hB (hlt x (by simp [hx]))) (fun x hx => hsp x (by simp [hx]))
  exact ⟨p0, p1 ++ p2, g0, ⟨p1, p2, g1, ⟨p2, [], g2, rfl, by simp⟩, rfl⟩, rfl⟩
 have hres : ∀ (b : Nat) (sp : Nat → Bool) (hd : Bool), DataW.TrodAll enc Tryz.prog W' b sp hd Tryz.f3.resultTypes.toList ((Value.bool true).resultList Tryz.f3.resultTypes.size) [.lit (.bool true)] [] :=
  fun b sp hd => trodAll_cons_mk (shut_bool Tryz.underlying4 true) trodAll_mk0
 have hok : ∀ (j : Nat) (t : TypeId) (r : Value), Tryz.f3.resultTypes[j]? = some t → ((Value.bool true).resultList Tryz.f3.resultTypes.size)[j]? = some r → Value.okWide Tryz.prog W' .any 0 t r := ok_one (by kernel_rfl) rfl (okWide_bool_mk Tryz.underlying4 _)
 have hold : ∀ x ∈ p0 ++ (p1 ++ p2), (fun b => decide (b < W.heap.size)) x.block = true := fun x hx => by simpa using hlt x hx
 refine ⟨[d0, d1, d2], [], p0 ++ (p1 ++ p2), [], p0 ++ (p1 ++ p2), [], hW', hres _ _ _, hall _ hold, rfl, World.keptBut_mono (fun x hx => ⟨hx, ?_⟩) (hB.frame (· ∈ p0 ++ (p1 ++ p2))), fun _ => ?_⟩
 ·exact Or.inr (Or.inl hx)
 ·obtain ⟨_, _, _, _, _, hz, hn⟩ := hW'
  refine ⟨hok, _, [], ([] ++ (p0 ++ (p1 ++ p2))) ++ [], ⟨[] ++ (p0 ++ (p1 ++ p2)), [], trodAll_append (hall _ (fun _ _ => rfl)) (hres _ _ _), rfl, rfl, ?_, ?_⟩, ?_⟩
  ·intro b off hp
   have hp' : MemPlace.cell b off ∈ p0 ++ (p1 ++ p2) := by simpa using hp
   have hb : b < W.heap.size := hlt _ hp'
   have := hz b off (by simpa using hp')
   unfold World.frozen? at this ⊢
   simp only [hB.block b hb]
   exact this
  ·intro ha
   cases ha
  ·intro x hx _
   simpa using hx
theorem contract (H : Type) (enc : TypeId × Value → H) (W : World) (args : Array Value) (ds gs : List (DataW H)) (before : List MemPlace)
  (hW : DataW.Whole enc Tryz.prog Tryz.f3.params.toList Rows.fnJTellLimitsSpec.vars false W args.toList ds gs before) (hw : (DataW.weightsEach Tryz.prog [23, 23, 27] ds).all (· ≤ reachBytes) = true) :
  Calls Tryz.prog 3 args W fun e W' => ∃ v, e = .returned v ∧ Rows.fnJTellLimitsSpec.post enc Tryz.prog Tryz.f3 false true false false W args v W' := by
 have hW0 := hW
 obtain ⟨p, q, hA0, hV, rfl, hfz, hnd⟩ := hW
 have hA : DataW.TrodAll enc Tryz.prog W 0 (fun _ => true) true Tryz.f3.params.toList args.toList ds p := hA0
 rw [Tryz.params3] at hA
 obtain ⟨v0, vs0, d0, ds0, p0, q0, hargs, rfl, rfl, h0, r0⟩ := trodAll_cons hA
 obtain ⟨v1, vs1, d1, ds1, p1, q1, rfl, rfl, rfl, h1, r1⟩ := trodAll_cons r0
 obtain ⟨v2, vs2, d2, ds2, p2, q2, rfl, rfl, rfl, h2, r2⟩ := trodAll_cons r1
 obtain ⟨rfl, rfl, rfl⟩ := trodAll_nil r2
 obtain ⟨t, n, rfl⟩ := read23 h0
 obtain ⟨t2, n2, rfl⟩ := read23 h1
 obtain ⟨fuel, h2⟩ := h2
 have hw2 : ∀ m ∈ d2.weights Tryz.prog 27, m ≤ reachBytes := by
  intro m hm
  have := List.all_eq_true.1 hw m (by simp only [DataW.weightsEach, List.mem_append]; exact .inr (.inr (.inl hm)))
  simpa using this
 obtain ⟨x, hK, hS⟩ := read27 fuel _ _ _ h2 hw2
 generalize hcs : v2.cells.toList = cs at hK
 obtain ⟨A4, c4, A5, c5, rfl, _⟩ := k27_open hK
 obtain rfl := agg_of hcs (by simp)
 obtain rfl : args = List.toArray [.agg #[.bool t, .int .i64 n], .agg #[.bool t2, .int .i64 n2], .agg #[.int .i64 x.f0, .bool x.f1, .int .i64 x.f2, .string x.f3, .slice A4 x.f4.length c4, .slice A5 x.f5.length c5]] := by
  cases args
  simp_all
 have h := law_ok t t2 n n2 x A4 A5 c4 c5 hS.sz W hK
 unfold Ct at h
 refine h.mono fun e W' ⟨_, _, he, hp⟩ => ⟨_, he, ?_⟩
 exact post_below rfl hW0 hp.below
def lay (cs : Array Value) : Obj → Obj
 | .cells _ t frozen => .cells cs t frozen
 | o => o
noncomputable def laidWorld (os : Os) : World :=
 { World.holding Tryz.prog os ⟨#[], #[], []⟩ with heap := (((World.holding Tryz.prog os ⟨#[], #[], []⟩).heap.modify 0 (lay #[.int .u64 1, .int .u64 10, .int .u64 100, .int .u64 1000, .int .u64 10000, .int .u64 100000, .int .u64 1000000, .int .u64 10000000, .int .u64 100000000, .int .u64 1000000000, .int .u64 10000000000, .int .u64 100000000000, .int .u64 1000000000000, .int .u64 10000000000000, .int .u64 100000000000000, .int .u64 1000000000000000, .int .u64 10000000000000000, .int .u64 100000000000000000, .int .u64 1000000000000000000, .int .u64 10000000000000000000])).modify 2 (lay #[.int .u8 0, .int .u8 1, .int .u8 28, .int .u8 2, .int .u8 29, .int .u8 14, .int .u8 24, .int .u8 3, .int .u8 30, .int .u8 22, .int .u8 20, .int .u8 15, .int .u8 25, .int .u8 17, .int .u8 4, .int .u8 8, .int .u8 31, .int .u8 27, .int .u8 13, .int .u8 23, .int .u8 21, .int .u8 19, .int .u8 16, .int .u8 7, .int .u8 26, .int .u8 12, .int .u8 18, .int .u8 6, .int .u8 11, .int .u8 5, .int .u8 10, .int .u8 9])).modify 3 (lay #[.int .u8 0, .int .u8 1, .int .u8 56, .int .u8 2, .int .u8 57, .int .u8 49, .int .u8 28, .int .u8 3, .int .u8 61, .int .u8 58, .int .u8 42, .int .u8 50, .int .u8 38, .int .u8 29, .int .u8 17, .int .u8 4, .int .u8 62, .int .u8 47, .int .u8 59, .int .u8 36, .int .u8 45, .int .u8 43, .int .u8 51, .int .u8 22, .int .u8 53, .int .u8 39, .int .u8 33, .int .u8 30, .int .u8 24, .int .u8 18, .int .u8 12, .int .u8 5, .int .u8 63, .int .u8 55, .int .u8 48, .int .u8 27, .int .u8 60, .int .u8 41, .int .u8 37, .int .u8 16, .int .u8 46, .int .u8 35, .int .u8 44, .int .u8 21, .int .u8 52, .int .u8 32, .int .u8 23, .int .u8 11, .int .u8 54, .int .u8 26, .int .u8 40, .int .u8 15, .int .u8 34, .int .u8 20, .int .u8 31, .int .u8 10, .int .u8 25, .int .u8 14, .int .u8 19, .int .u8 9, .int .u8 13, .int .u8 8, .int .u8 7, .int .u8 6]) }
theorem laid_met (os : Os) : laidMet Tryz.prog Rows.fnJTellLimitsRow.laid ((laidWorld os).forCall (fun _ _ => 0) ⟨#[], #[.agg #[.bool false, .int .i64 0], .agg #[.bool false, .int .i64 0], .agg #[.int .i64 0, .bool false, .int .i64 0, .string ⟨#[]⟩, .slice none 0 0, .slice none 0 0]], []⟩).memory :=
 laidMet_of_run' 8 (by kernel_rfl) (by kernel_rfl)
theorem reads (os : Os) {H : Type} (enc : TypeId × Value → H) : ∃ places, DataW.whole enc Tryz.prog ((laidWorld os).forCall (fun _ _ => 0) ⟨#[], #[.agg #[.bool false, .int .i64 0], .agg #[.bool false, .int .i64 0], .agg #[.int .i64 0, .bool false, .int .i64 0, .string ⟨#[]⟩, .slice none 0 0, .slice none 0 0]], []⟩).memory Tryz.f3.params.toList Rows.fnJTellLimitsSpec.vars false (#[.agg #[.bool false, .int .i64 0], .agg #[.bool false, .int .i64 0], .agg #[.int .i64 0, .bool false, .int .i64 0, .string ⟨#[]⟩, .slice none 0 0, .slice none 0 0]] : Array Value).toList 8 = some ([.agg [.lit (.bool false), .lit (.int .i64 0)], .agg [.lit (.bool false), .lit (.int .i64 0)], .agg [.lit (.int .i64 0), .lit (.bool false), .lit (.int .i64 0), .lit (.string []), .nil, .nil]], [], places) :=
 ⟨[], by kernel_rfl⟩
set_option maxRecDepth 100000 in
theorem lifted (os : Os) (started : os.Started) (H : Type) (enc : TypeId × Value → H) (F : Stop.Interp) :
  ReturnsInHanded {} Tryz.checked os 3 .any ((OpenSpec.ofChange Rows.fnJTellLimitsSpec).preRow enc Tryz.prog Tryz.f3 Rows.fnJTellLimitsRow.domain false Rows.fnJTellLimitsRow.laid) (((OpenSpec.ofChange Rows.fnJTellLimitsSpec).at F).post enc Tryz.prog Tryz.f3 false true false false) := by
 obtain ⟨places, hx⟩ := reads os enc
 refine returnsInHanded_of_row (C := Tryz.checked) (s := OpenSpec.ofChange Rows.fnJTellLimitsSpec) own started (by kernel_rfl) Tryz.func3
  (witness_row_at (enc := enc) (C := Tryz.checked) false (laidWorld os) #[.agg #[.bool false, .int .i64 0], .agg #[.bool false, .int .i64 0], .agg #[.int .i64 0, .bool false, .int .i64 0, .string ⟨#[]⟩, .slice none 0 0, .slice none 0 0]] rfl (by kernel_rfl) (by kernel_rfl) (by kernel_rfl)
   (OpenSpec.preRow_of_cond 8 hx (by kernel_rfl) (fun k hk => by cases hk) (by kernel_rfl) (laid_met os))) ?_
 intro W base args ds gs before hval hW _ _ hwt hL _ _
 refine contract H enc W args ds gs before hW ?_
 obtain ⟨p, q, hA0, hV, _⟩ := hW
 obtain ⟨rfl, rfl⟩ := trodVars_none hV
 have hwt' : (DataW.weightsEach Tryz.prog (Tryz.f3.params.toList ++ []) (ds ++ [])).all (· ≤ reachBytes) = true := hwt
 rw [List.append_nil, List.append_nil, Tryz.params3] at hwt'
 exact hwt'
theorem said : Rows.FnJTellLimitsSaid :=
 OpenClaim.holds_of_cond 3 Tryz.f3 J J J J J J J ⟨rfl, rfl, rfl, rfl, rfl⟩ J J J J J (by kernel_rfl) Tryz.func3 (by kernel_rfl)
  (of_decide_eq_true (by kernel_rfl)) (by unfold Func.isWrapper; first | (rw [if_pos (by decide +kernel)]; kernel_rfl) | (rw [if_neg (by decide +kernel)]; exact ⟨rfl, rfl⟩))
  (fun os started H enc _ F => by rw [OpenClaim.pre_eq_preRow]; exact lifted os started H enc F)
theorem plain (f : FuncId) (fn : Func) (hf : Tryz.pinned.checked.prog.funcNamed "given.example/pub-querent/laws.FnJTellLimits" = some f) (hfn : Tryz.pinned.checked.prog.funcs[f]? = some fn) :
  true = Tryz.pinned.checked.prog.looks [] ∧ ∀ (j : Nat) t, fn.params[j]? = some t → Tryz.pinned.checked.prog.wantsStandIn t = false := by
 obtain rfl : f = 3 := Option.some.inj ((show Tryz.prog.funcNamed "given.example/pub-querent/laws.FnJTellLimits" = some 3 by kernel_rfl).symm.trans hf) |>.symm
 obtain rfl : fn = Tryz.f3 := (Option.some.inj (Tryz.func3.symm.trans hfn)).symm
 refine ⟨by kernel_rfl, fun j t ht => ?_⟩
 rw [Tryz.params3] at ht
 have : t ∈ (#[23, 23, 27] : Array TypeId) := Array.mem_of_getElem? ht
 have : t = 23 ∨ t = 27 := by simpa using this
 rcases this with rfl | rfl
 ·exact (show Tryz.prog.wantsStandIn 23 = false by kernel_rfl)
 ·exact (show Tryz.prog.wantsStandIn 27 = false by kernel_rfl)
theorem x_holds : Rows.FnJTellLimitsCardSaid :=
 Claim7.holds_tied_plain_at .later [] _ _ _ _ said (fun _ h => by cases h) (by kernel_rfl) (fun _ h => by cases h) fnJTellLimits_row_tie rfl ⟨rfl, rfl⟩ (by kernel_rfl) rfl plain (by kernel_rfl)
end Go.Proofs.YtlkikblohnnlcaaGreatDoor.Y
end
