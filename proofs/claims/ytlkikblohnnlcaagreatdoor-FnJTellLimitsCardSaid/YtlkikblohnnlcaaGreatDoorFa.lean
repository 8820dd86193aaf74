/- A part of the proof that FnJTellLimits returns true for every input, on the conditions that its given row lists. -/
import Derived.OrdersHeld
import Derived.Deep.RegionHeld3
import Derived.Laws.BitsLemmas
import Derived.RowKit
import Derived.Below
import Derived.Deep.Draws
import Derived.Deep.AppendLies
import Derived.Maps.AppendAt
import Derived.OwnWalk
import Derived.Laws.BytesArg
import Derived.Laws.MakeOwn
import Derived.Laws.OwnMore
import Derived.Deep.OwnRows
import Derived.Tactics
import Derived.Lib.ConvBytes
import Derived.Laws.Slices
import Derived.WalkKit
import Derived.KernelRfl
import Derived.RowKit3
import Derived.Deep.LoopGhost
import Derived.Deep.QuietTactic
import Derived.BigQuiet
import Derived.WideLaws
import Derived.Deep.DeepCutAuto
import Derived.Deep.CutBlock
import Derived.Laws.Rows
import Derived.Lib.AppendStr
import Derived.ArgAppend
import Derived.Laws.IdiomCopy
import Derived.Laws.Runes
import Derived.Laws.RangeAny
import Derived.Test.YtlkikblohnnlcaaGreatDoorProg
import Derived.Laws.Tables
import Derived.Laws.Strings
import Derived.LoopN
import Derived.Great.BuildSlice
import Derived.Laws.Append
import Derived.Maps.RangeRun
import Derived.Laws.AppendOwn
import Derived.Laws.IdiomStrings
set_option linter.unusedVariables false
set_option linter.unusedSimpArgs false
namespace Go.Proofs
theorem J.{u} {α : Sort u} {a : α} : a = a := rfl
end Go.Proofs
section
namespace Go.Proofs.YtlkikblohnnlcaaGreatDoorW.PrintLast
section
variable {P : Program} {ops : Array Oper} {Q : Exit → Act → World → Prop} {md : Region.Mode} {S : World → Prop} {ds : List Nat}
def Region.reachB (md : Region.Mode) (ops : Array Oper) (i : Nat) : Nat → Nat → Bool
 | 0, _ => false
 | fuel + 1, d => match ops[d]? with
  | some o => o.after.any fun e => Region.binds md e && (e.on == i || Region.reachB md ops i fuel e.on)
  | none => false
def Region.closedB (md : Region.Mode) (ops : Array Oper) (listed : Array Bool) : Bool :=
 (List.range ops.size).all fun j => !listed.getD j false || match ops[j]? with
  | some o => o.after.all fun e => !Region.binds md e || listed.getD e.on false
  | none => true
def Region.lastB (md : Region.Mode) (ops : Array Oper) (listed : Array Bool) (ds : List Nat) (i : Nat) : Bool :=
 ds.all fun d => listed.getD d true || Region.reachB md ops i ops.size d
def ListedClosed (md : Region.Mode) (ops : Array Oper) (listed : Array Bool) : Prop :=
 ∀ j oj, ops[j]? = some oj → listed.getD j false = true → ∀ e ∈ oj.after, Region.binds md e = true → listed.getD e.on false = true
theorem Region.closedB_spec {listed : Array Bool} (h : Region.closedB md ops listed = true) : ListedClosed md ops listed := by
 intro j oj hj hl e he hb
 have hlt : j < ops.size := (Array.getElem?_eq_some_iff.1 hj).1
 have h1 := List.all_eq_true.1 h j (List.mem_range.2 hlt)
 simp only [hl, hj, Bool.not_true, Bool.false_or] at h1
 have h2 := Array.all_eq_true_iff_forall_mem.1 h1 e he
 simpa [hb] using h2
theorem ListedClosed.set {listed : Array Bool} {i : Nat} (h : ListedClosed md ops listed) (hi : i ∈ Region.ready md ops listed) : ListedClosed md ops (listed.setIfInBounds i true) := by
 obtain ⟨_, oi, hoi, hall⟩ := mem_ready.1 hi
 intro j oj hj hl e he hb
 by_cases hij : i = j
 ·subst hij
  have : oj = oi := Option.some.inj (hj.symm.trans hoi)
  subst this
  exact getD_set_true (hall e he hb)
 ·rw [getD_set_ne false hij] at hl
  exact getD_set_true (h j oj hj hl e he hb)
theorem Region.reach_listed {listed : Array Bool} {i : Nat} (hc : ListedClosed md ops listed) : ∀ (fuel d : Nat), Region.reachB md ops i fuel d = true → listed.getD d false = true → listed.getD i false = true
 | 0, _, h, _ => by simp [Region.reachB] at h
 | fuel + 1, d, h, hl => by
  unfold Region.reachB at h
  cases ho : ops[d]? with
  | none => rw [ho] at h; simp at h
  | some o =>
   rw [ho] at h
   obtain ⟨e, he, h1⟩ := Array.any_eq_true'.1 h
   simp only [Bool.and_eq_true, Bool.or_eq_true, beq_iff_eq] at h1
   have hle := hc d o ho hl e he h1.1
   rcases h1.2 with h2 | h2
   ·rw [← h2]; exact hle
   ·exact Region.reach_listed hc fuel e.on h2 hle
theorem Region.reach_not_ready {listed : Array Bool} {i d fuel : Nat} (hc : ListedClosed md ops listed) (hr : Region.reachB md ops i fuel d = true) (hun : listed.getD i true = false) : d ∉ Region.ready md ops listed := by
 intro hd
 obtain ⟨_, o, ho, hall⟩ := mem_ready.1 hd
 have hi : listed.getD i false = true := by
  cases fuel with
  | zero => simp [Region.reachB] at hr
  | succ n =>
   unfold Region.reachB at hr
   rw [ho] at hr
   obtain ⟨e, he, h1⟩ := Array.any_eq_true'.1 hr
   simp only [Bool.and_eq_true, Bool.or_eq_true, beq_iff_eq] at h1
   have hle := hall e he h1.1
   rcases h1.2 with h2 | h2
   ·rw [← h2]; exact hle
   ·exact Region.reach_listed hc n e.on h2 hle
 rcases Nat.lt_or_ge i listed.size with h' | h'
 ·simp [h'] at hun hi
  rw [hun] at hi
  cases hi
 ·simp [Array.getElem?_eq_none h'] at hun
def wpAnyLast (P : Program) (md : Region.Mode) (ops : Array Oper) (Q : Exit → Act → World → Prop) (S : World → Prop) (ds : List Nat) : Nat → Array Bool → Act → World → Prop
 | 0, listed, a, w => Region.ready md ops listed = [] ∧ Q .normal a w
 | fuel + 1, listed, a, w =>
  (Region.ready md ops listed = [] → Q .normal a w) ∧
  ∀ i ∈ Region.ready md ops listed, wpOp P ops Q i (fun a' w' => (i ∉ ds → S w → S w') ∧ wpAnyLast P md ops Q S ds fuel (listed.setIfInBounds i true) a' w') a w
theorem wpAny_of_last : ∀ (fuel : Nat) (listed : Array Bool) (a : Act) (w : World), wpAnyLast P md ops Q S ds fuel listed a w → wpAny P md ops Q fuel listed a w
 | 0, _, _, _, h => h
 | fuel + 1, _, _, _, h => ⟨h.1, fun i hi => wpOp_mono (fun a' w' h' => wpAny_of_last fuel _ a' w' h'.2) (h.2 i hi)⟩
theorem wpAnyLast_first {i : Nat} {oi : Oper} {v : Value} (hi : ops[i]? = some oi) (hsel : ∀ (j : Nat) (o : Oper) cs b, ops[j]? = some o → o.op ≠ .select cs b)
  (hQ : ∀ c a w, Q (.panic c) (a.put oi.dst v) w → Q (.panic c) a w) (n : Nat) :
  ∀ (fuel : Nat) (listed : Array Bool) (a : Act) (w : World),
   (∀ j oj, ops[j]? = some oj → j ≠ i → listed.getD j true = false → (∀ e ∈ oj.after, Region.binds md e = true → e.on ≠ i) → oi.apart ops oj = true) →
   ListedClosed md ops listed → (∀ d ∈ ds, listed.getD d true = false → Region.reachB md ops i n d = true) →
   i ∈ Region.ready md ops listed → YieldsIf P ops S oi v a → S w →
   wpAnyLast P md ops Q S ds fuel (listed.setIfInBounds i true) (a.put oi.dst v) w → wpAnyLast P md ops Q S ds (fuel + 1) listed a w := by
 intro fuel
 induction fuel with
 | zero =>
  intro listed a w _ _ _ hr hy hS H
  refine ⟨fun h => (by rw [h] at hr; cases hr), fun j hj => ?_⟩
  by_cases hji : j = i
  ·subst hji; exact hy.wpOp hi hS ⟨fun _ h => h, H⟩
  ·have := ready_mono hj hji
   rw [H.1] at this
   cases this
 | succ fuel ih =>
  intro listed a w hfree hc hd hr hy hS H
  refine ⟨fun h => (by rw [h] at hr; cases hr), fun j hj => ?_⟩
  by_cases hji : j = i
  ·subst hji; exact hy.wpOp hi hS ⟨fun _ h => h, H⟩
  ·have h1 := H.2 j (ready_mono hj hji)
   obtain ⟨hjun, oj, hoj, hall⟩ := mem_ready.1 hj
   have hiun := (mem_ready.1 hr).1
   have hnot : ∀ e ∈ oj.after, Region.binds md e = true → e.on ≠ i := fun e he hb heq => by
    have h1 := hall e he hb
    rw [heq] at h1
    rcases Nat.lt_or_ge i listed.size with h' | h'
    ·simp [h'] at hiun h1; rw [hiun] at h1; cases h1
    ·simp [Array.getElem?_eq_none h'] at h1
   have hjd : j ∉ ds := fun hm => Region.reach_not_ready hc (hd j hm hjun) hiun hj
   have h2 := wpOp_putIf hoj (hfree j oj hoj hji hjun hnot) (fun cs b => hsel i oi cs b hi) (fun cs b => hsel j oj cs b hoj) hQ hy h1
   have hfree' : ∀ k ok, ops[k]? = some ok → k ≠ i → (listed.setIfInBounds j true).getD k true = false →
     (∀ e ∈ ok.after, Region.binds md e = true → e.on ≠ i) → oi.apart ops ok = true := fun k ok hk hki hun hno => by
    refine hfree k ok hk hki ?_ hno
    by_cases hjk : j = k
    ·subst hjk; exact hjun
    ·rw [getD_set_ne true hjk] at hun; exact hun
   have hd' : ∀ d ∈ ds, (listed.setIfInBounds j true).getD d true = false → Region.reachB md ops i n d = true := fun d hm hun => by
    refine hd d hm ?_
    by_cases hjk : j = d
    ·subst hjk; exact hjun
    ·rw [getD_set_ne true hjk] at hun; exact hun
   refine wpOp_mono (fun a' w' h3 => ⟨h3.2.1, ih (listed.setIfInBounds j true) a' w' hfree' (hc.set hj) hd' (ready_mono hr (Ne.symm hji)) h3.1 (h3.2.1 hjd hS) ?_⟩) h2
   rw [Array.setIfInBounds_comm _ _ hji]
   exact h3.2.2
theorem wpAnyLast_any {i : Nat} {oi : Oper} {v : Value} (hi : ops[i]? = some oi) (hsel : ∀ (j : Nat) (o : Oper) cs b, ops[j]? = some o → o.op ≠ .select cs b)
  (hQ : ∀ c a w, Q (.panic c) (a.put oi.dst v) w → Q (.panic c) a w) :
  ∀ (fuel : Nat) (listed : Array Bool) (a : Act) (w : World),
   (∀ j oj, ops[j]? = some oj → j ≠ i → listed.getD j true = false → (∀ e ∈ oj.after, Region.binds md e = true → e.on ≠ i) → oi.apart ops oj = true) →
   i ∈ Region.ready md ops listed → Yields P ops oi v a →
   wpAnyLast P md ops Q S ds fuel (listed.setIfInBounds i true) (a.put oi.dst v) w → wpAnyLast P md ops Q S ds (fuel + 1) listed a w := by
 intro fuel
 induction fuel with
 | zero =>
  intro listed a w _ hr hy H
  refine ⟨fun h => (by rw [h] at hr; cases hr), fun j hj => ?_⟩
  by_cases hji : j = i
  ·subst hji; exact (hy.yieldsIf (S := fun _ => True)).wpOp hi trivial ⟨fun _ h => h, H⟩
  ·have := ready_mono hj hji
   rw [H.1] at this
   cases this
 | succ fuel ih =>
  intro listed a w hfree hr hy H
  refine ⟨fun h => (by rw [h] at hr; cases hr), fun j hj => ?_⟩
  by_cases hji : j = i
  ·subst hji; exact (hy.yieldsIf (S := fun _ => True)).wpOp hi trivial ⟨fun _ h => h, H⟩
  ·have h1 := H.2 j (ready_mono hj hji)
   obtain ⟨hjun, oj, hoj, hall⟩ := mem_ready.1 hj
   have hiun := (mem_ready.1 hr).1
   have hnot : ∀ e ∈ oj.after, Region.binds md e = true → e.on ≠ i := fun e he hb heq => by
    have h1 := hall e he hb
    rw [heq] at h1
    rcases Nat.lt_or_ge i listed.size with h' | h'
    ·simp [h'] at hiun h1; rw [hiun] at h1; cases h1
    ·simp [Array.getElem?_eq_none h'] at h1
   have h2 := wpOp_put hoj (hfree j oj hoj hji hjun hnot) (fun cs b => hsel i oi cs b hi) (fun cs b => hsel j oj cs b hoj) hQ hy h1
   have hfree' : ∀ k ok, ops[k]? = some ok → k ≠ i → (listed.setIfInBounds j true).getD k true = false →
     (∀ e ∈ ok.after, Region.binds md e = true → e.on ≠ i) → oi.apart ops ok = true := fun k ok hk hki hun hno => by
    refine hfree k ok hk hki ?_ hno
    by_cases hjk : j = k
    ·subst hjk; exact hjun
    ·rw [getD_set_ne true hjk] at hun; exact hun
   refine wpOp_mono (fun a' w' h3 => ⟨h3.2.1, ih (listed.setIfInBounds j true) a' w' hfree' (ready_mono hr (Ne.symm hji)) h3.1 ?_⟩) h2
   rw [Array.setIfInBounds_comm _ _ hji]
   exact h3.2.2
theorem wpAnyLast_take {i : Nat} {oi : Oper} {v : Value} {fuel : Nat} {listed : Array Bool} {a : Act} {w : World} (hi : ops[i]? = some oi)
  (hs : Region.noSelect ops = true) (hf : Region.free md ops listed i = true) (hr : (Region.ready md ops listed).contains i = true)
  (hc : Region.closedB md ops listed = true) (hl : Region.lastB md ops listed ds i = true)
  (hQ : ∀ c a w, Q (.panic c) (a.put oi.dst v) w → Q (.panic c) a w) (hy : YieldsIf P ops S oi v a) (hS : S w)
  (h : wpAnyLast P md ops Q S ds fuel (listed.setIfInBounds i true) (a.put oi.dst v) w) : wpAnyLast P md ops Q S ds (fuel + 1) listed a w :=
 wpAnyLast_first hi (Region.noSelect_spec hs) hQ ops.size fuel listed a w (Region.free_spec hi hf) (Region.closedB_spec hc)
  (fun d hm hun => by have := List.all_eq_true.1 hl d hm; rw [hun] at this; simpa using this) (by simpa using hr) hy hS h
theorem wpAnyLast_all {rs : List Nat} {fuel : Nat} {listed : Array Bool} {a : Act} {w : World} (hr : Region.ready md ops listed = rs) (hne : rs ≠ [])
  (h : ∀ i ∈ rs, wpOp P ops Q i (fun a' w' => (i ∉ ds → S w → S w') ∧ wpAnyLast P md ops Q S ds fuel (listed.setIfInBounds i true) a' w') a w) : wpAnyLast P md ops Q S ds (fuel + 1) listed a w :=
 ⟨fun h0 => absurd (hr ▸ h0) hne, hr ▸ h⟩
theorem wpAnyLast_done {listed : Array Bool} {a : Act} {w : World} (hr : Region.ready md ops listed = []) (h : Q .normal a w) :
  ∀ fuel, wpAnyLast P md ops Q S ds fuel listed a w
 | 0 => ⟨hr, h⟩
 | _ + 1 => ⟨fun _ => h, by rw [hr]; simp⟩
theorem wp_region_last {id : Nat} {a : Act} {w : World} (hm : P.follows .mixedOrders = true)
  (h : wpAnyLast P .any ops Q S ds ops.size (Array.replicate ops.size false) a { w with drawn := w.drawn + 1 }) : (Code.region id ops true).wp P Q a w :=
 wp_region_any hm (wpAny_of_last _ _ _ _ h)
end
section
variable {P : Program} {ops : Array Oper} {Q : Exit → Act → World → Prop} {md : Region.Mode} {S : World → Prop} {ds : List Nat}
def AllReadyL (P : Program) (md : Region.Mode) (ops : Array Oper) (Q : Exit → Act → World → Prop) (S : World → Prop) (ds : List Nat) (fuel : Nat) (listed : Array Bool) (a : Act) (w : World) (rs : List Nat) : Prop :=
 ∀ i ∈ rs, wpOp P ops Q i (fun a' w' => (i ∉ ds → S w → S w') ∧ wpAnyLast P md ops Q S ds fuel (listed.setIfInBounds i true) a' w') a w
theorem AllReadyL.nil {fuel : Nat} {listed : Array Bool} {a : Act} {w : World} : AllReadyL P md ops Q S ds fuel listed a w [] := fun _ h => by cases h
theorem AllReadyL.cons {fuel : Nat} {listed : Array Bool} {a : Act} {w : World} {i : Nat} {o : Oper} {rs : List Nat} (ho : ops[i]? = some o) (hd : i ∉ ds)
  (h : ∀ K' : Act → World → Prop, Shut (∀ a w, S w → (S w → wpAnyLast P md ops Q S ds fuel (listed.setIfInBounds i true) a w) → K' a w) → if Region.wanted o (yielded ops a.tmps) = true then Oper.wp P o a w K' Q else K' (a.put o.dst undef) w)
  (hs : AllReadyL P md ops Q S ds fuel listed a w rs) : AllReadyL P md ops Q S ds fuel listed a w (i :: rs) := fun j hj => by
 rcases List.mem_cons.1 hj with rfl | hj
 ·exact wpOp_step ho (fun K' hK => h K' (fun a w hS hW => hK a w ⟨fun _ _ => hS, hW hS⟩))
 ·exact hs j hj
theorem AllReadyL.cons_last {fuel : Nat} {listed : Array Bool} {a : Act} {w : World} {i : Nat} {o : Oper} {rs : List Nat} (ho : ops[i]? = some o) (hd : i ∈ ds)
  (h : ∀ K' : Act → World → Prop, Shut (∀ a w, wpAnyLast P md ops Q S ds fuel (listed.setIfInBounds i true) a w → K' a w) → if Region.wanted o (yielded ops a.tmps) = true then Oper.wp P o a w K' Q else K' (a.put o.dst undef) w)
  (hs : AllReadyL P md ops Q S ds fuel listed a w rs) : AllReadyL P md ops Q S ds fuel listed a w (i :: rs) := fun j hj => by
 rcases List.mem_cons.1 hj with rfl | hj
 ·exact wpOp_step ho (fun K' hK => h K' (fun a w hW => hK a w ⟨fun hn => absurd hd hn, hW⟩))
 ·exact hs j hj
theorem wpAnyLast_ready {rs : List Nat} {fuel : Nat} {listed : Array Bool} {a : Act} {w : World} (hr : Region.ready md ops listed = rs) (hne : rs ≠ [])
  (h : AllReadyL P md ops Q S ds fuel listed a w rs) : wpAnyLast P md ops Q S ds (fuel + 1) listed a w := wpAnyLast_all hr hne h
theorem start_ {id n : Nat} {a : Act} {w : World} (l : Array Bool) (hm : P.follows .mixedOrders = true) (hn : ops.size = n) (hl : Array.replicate n false = l) (hS : S w.drew)
  (h : S w.drew → wpAnyLast P .any ops Q S ds n l a w.drew) : (Code.region id ops true).wp P Q a w := by
 subst hn
 subst hl
 exact wp_region_last hm (h hS)
def takeB (md : Region.Mode) (ops : Array Oper) (ds : List Nat) (l l' : Array Bool) (i : Nat) : Bool :=
 Region.noSelect ops && Region.free md ops l i && (Region.ready md ops l).contains i && Region.closedB md ops l && Region.lastB md ops l ds i && (l.setIfInBounds i true == l')
theorem take_ {i : Nat} {N : Option Tmp} {oi : Oper} {v : Value} {fuel : Nat} {l : Array Bool} {a : Act} {w : World} (l' : Array Bool) (hi : ops[i]? = some oi) (hN : oi.dst = N) (hc : takeB md ops ds l l' i = true)
  (hQ : ∀ c a w, Q (.panic c) (a.put oi.dst v) w → Q (.panic c) a w) (hy : YieldsIf P ops S oi v a) (hS : S w) {a' : Act} (ha : a.put N v = a')
  (h : wpAnyLast P md ops Q S ds fuel l' a' w) : wpAnyLast P md ops Q S ds (fuel + 1) l a w := by
 subst ha
 subst hN
 simp only [takeB, Bool.and_eq_true, beq_iff_eq] at hc
 obtain ⟨⟨⟨⟨⟨h1, h2⟩, h3⟩, h4⟩, h5⟩, h6⟩ := hc
 subst h6
 exact wpAnyLast_take hi h1 h2 h3 h4 h5 hQ hy hS h
def anyB (md : Region.Mode) (ops : Array Oper) (l l' : Array Bool) (i : Nat) : Bool :=
 Region.noSelect ops && Region.free md ops l i && (Region.ready md ops l).contains i && (l.setIfInBounds i true == l')
theorem pure_ {i : Nat} {N : Option Tmp} {oi : Oper} {v : Value} {fuel : Nat} {l : Array Bool} {a : Act} {w : World} (l' : Array Bool) (hi : ops[i]? = some oi) (hN : oi.dst = N) (hc : anyB md ops l l' i = true)
  (hQ : ∀ c a w, Q (.panic c) (a.put oi.dst v) w → Q (.panic c) a w) (hy : Yields P ops oi v a) {a' : Act} (ha : a.put N v = a')
  (h : wpAnyLast P md ops Q S ds fuel l' a' w) : wpAnyLast P md ops Q S ds (fuel + 1) l a w := by
 subst ha
 subst hN
 simp only [anyB, Bool.and_eq_true, beq_iff_eq] at hc
 obtain ⟨⟨⟨h1, h2⟩, h3⟩, h6⟩ := hc
 subst h6
 exact wpAnyLast_any hi (Region.noSelect_spec h1) hQ fuel l a w (Region.free_spec hi h2) (by simpa using h3) hy h
def readyB (md : Region.Mode) (ops : Array Oper) (l l' : Array Bool) (i : Nat) : Bool := (Region.ready md ops l == [i]) && (l.setIfInBounds i true == l')
theorem one_ {i : Nat} {N : Option Tmp} {oi : Oper} {fuel : Nat} {l : Array Bool} {a : Act} {w : World} (l' : Array Bool) (hi : ops[i]? = some oi) (hN : oi.dst = N) (hc : readyB md ops l l' i = true) (hd : i ∉ ds)
  (h : ∀ K : Act → World → Prop, Shut (∀ a' w', S w' → (S w' → wpAnyLast P md ops Q S ds fuel l' a' w') → K a' w') → if Region.wanted oi (yielded ops a.tmps) = true then Oper.wp P oi a w K Q else K (a.put N undef) w) :
  wpAnyLast P md ops Q S ds (fuel + 1) l a w := by
 subst hN
 simp only [readyB, Bool.and_eq_true, beq_iff_eq] at hc
 obtain ⟨h1, h2⟩ := hc
 subst h2
 exact wpAnyLast_ready h1 (by simp) (AllReadyL.cons hi hd (fun K hK => h K hK) AllReadyL.nil)
theorem last_ {i : Nat} {N : Option Tmp} {oi : Oper} {fuel : Nat} {l : Array Bool} {a : Act} {w : World} (l' : Array Bool) (hi : ops[i]? = some oi) (hN : oi.dst = N) (hc : readyB md ops l l' i = true) (hd : i ∈ ds)
  (h : ∀ K : Act → World → Prop, Shut (∀ a' w', wpAnyLast P md ops Q S ds fuel l' a' w' → K a' w') → if Region.wanted oi (yielded ops a.tmps) = true then Oper.wp P oi a w K Q else K (a.put N undef) w) :
  wpAnyLast P md ops Q S ds (fuel + 1) l a w := by
 subst hN
 simp only [readyB, Bool.and_eq_true, beq_iff_eq] at hc
 obtain ⟨h1, h2⟩ := hc
 subst h2
 exact wpAnyLast_ready h1 (by simp) (AllReadyL.cons_last hi hd (fun K hK => h K hK) AllReadyL.nil)
theorem done_ {l : Array Bool} {a : Act} {w : World} {n : Nat} (hr : (Region.ready md ops l == []) = true) (h : Q .normal a w) : wpAnyLast P md ops Q S ds n l a w := wpAnyLast_done (by simpa using hr) h n
theorem norm_ {fuel : Nat} {l : Array Bool} {a a' : Act} {w : World} (ha : a = a') (h : wpAnyLast P md ops Q S ds fuel l a' w) : wpAnyLast P md ops Q S ds fuel l a w := by
 subst ha
 exact h
theorem call_ {oi : Oper} {N : Option Tmp} {a : Act} {w : World} {K : Act → World → Prop} (f : FuncId) (args : Array Value) (hw : Region.wanted oi (yielded ops a.tmps) = true) (hN : oi.dst = N) (hrun : (execOp a.eval oi).run P w = .ok (.enter f args) w)
  (h : Calls P f args w fun e w' => ∃ v, e = .returned v ∧ K (a.put N v) w') : if Region.wanted oi (yielded ops a.tmps) = true then Oper.wp P oi a w K Q else K (a.put N undef) w := by
 rw [if_pos hw]
 subst hN
 unfold Oper.wp
 rw [hrun, Oper.upon_enter]
 refine h.mono fun e w'' hh => ?_
 obtain ⟨v, rfl, hk⟩ := hh
 exact hk
theorem enters_ {f : FuncId} {fn : Func} (hf : P.funcs[f]? = some fn) (hname : (fn.name == "runtime.NumGoroutine") = false) (hb : fn.body.isSome = true) (args : Array Value) (w : World) : (callFunc f args).run P w = .ok (.enter f args) w := by
 have h1 : fn.name ≠ "runtime.NumGoroutine" := by simpa using hname
 obtain ⟨c, hc⟩ := Option.isSome_iff_exists.1 hb
 simp [callFunc, hf, h1, hc]
theorem goes_ {oi : Oper} {N : Option Tmp} {a : Act} {w : World} {K : Act → World → Prop} {f : FuncId} {fn : Func} {as1 : Array Operand} {ts : Array TypeId} (hf : P.funcs[f]? = some fn) (hname : (fn.name == "runtime.NumGoroutine") = false) (hb : fn.body.isSome = true) (args : Array Value)
  (hw : Region.wanted oi (yielded ops a.tmps) = true) (hN : oi.dst = N) (hop : oi.op = .call { callee := .value (.func f), args := as1, argTypes := ts }) (hargs : as1.map a.eval = args)
  (h : Calls P f args w fun e w' => ∃ v, e = .returned v ∧ K (a.put N v) w') : if Region.wanted oi (yielded ops a.tmps) = true then Oper.wp P oi a w K Q else K (a.put N undef) w := by
 refine call_ f args hw hN ?_ h
 have he := enters_ hf hname hb args w
 unfold execOp
 simp [hop, resolve, Deferred.ofValue, invoke, Act.eval, hargs, he]
theorem goesL_ {rest : List Oper} {oi : Oper} {a : Act} {w : World} (N : Option Tmp) (hd : oi.dst = N) (hg : oi.guard = none) {f : FuncId} {fn : Func} {as1 : Array Operand} {ts : Array TypeId} (hf : P.funcs[f]? = some fn) (hname : (fn.name == "runtime.NumGoroutine") = false) (hb : fn.body.isSome = true) (args : Array Value)
  (hop : oi.op = .call { callee := .value (.func f), args := as1, argTypes := ts }) (hargs : as1.map a.eval = args)
  (h : Calls P f args w fun e w' => ∃ v, e = .returned v ∧ wpList P ops Q rest (a.put N v) w') : wpList P ops Q (oi :: rest) a w := by
 refine wpList_plain hg fun K hK => ?_
 have he := enters_ hf hname hb args w
 have hrun : (execOp a.eval oi).run P w = .ok (.enter f args) w := by
  unfold execOp
  simp [hop, resolve, Deferred.ofValue, invoke, Act.eval, hargs, he]
 unfold Oper.wp
 rw [hrun, Oper.upon_enter]
 refine h.mono fun e w'' hh => ?_
 obtain ⟨v, rfl, hk⟩ := hh
 subst hd
 exact hK _ _ hk
theorem i64_w (n : Int) : IntKind.i64.wrap n = Go.RowKit.wrap64 n := by unfold Go.RowKit.wrap64; exact IntKind.wrap_i64 n
theorem i32_w (n : Int) : IntKind.i32.wrap n = Go.RowKit.wrap32 n := by unfold Go.RowKit.wrap32; exact IntKind.wrap_i32 n
end
end Go.Proofs.YtlkikblohnnlcaaGreatDoorW.PrintLast
end
section
set_option linter.unusedVariables false
set_option linter.unusedSimpArgs false
namespace Go.Proofs.YtlkikblohnnlcaaGreatDoorW.PrintWords
open Go.RowKit
structure Aside0 (p : Prop) : Prop where mk :: (out : p)
structure Drawn0 (w w' : World) : Prop where mk :: (out : ∃ n, w' = w.drewN n)
theorem Drawn0.refl (w : World) : Drawn0 w w := ⟨⟨0, rfl⟩⟩
theorem Drawn0.step {w w' : World} (h : Drawn0 w w') (n : Nat) : Drawn0 w (w'.drewN n) := by
 obtain ⟨m, rfl⟩ := h
 exact ⟨⟨m + n, World.drewN_drewN ..⟩⟩
theorem Drawn0.grown {w w' : World} (h : Drawn0 w w') : Grown w w' := by
 obtain ⟨n, rfl⟩ := h
 induction n with
 | zero => exact Grown.refl _
 | succ n ih => rw [← World.drew_drewN]; exact Grown.drew ih
theorem Drawn0.below {w w' : World} (h : Drawn0 w w') : Below w.heap.size w w' := by
 obtain ⟨n, rfl⟩ := h
 induction n with
 | zero => exact Below.refl _ _
 | succ n ih => rw [← World.drew_drewN]; exact ih.drew
def bt (s : ByteArray) (i : Int) : Int := if h : i.toNat < s.size then ((s[i.toNat]'h).toNat : Int) else 0
theorem bt_at (s : ByteArray) (i : Int) : ∀ h : i.toNat < s.size, ((s[i.toNat]'h).toNat : Int) = bt s i := fun h => by simp [bt, h]
def nums (k : IntKind) (xs : List Int) : List Value := xs.map fun x => .int k x
theorem below_alloc {w W : World} (h : Below w.heap.size w W) (o : Obj) : Below w.heap.size w (W.alloc o) := h.alloc h.size o
theorem below_drew {B : Nat} {w W : World} (h : Below B w W) : Below B w W.drew := ⟨h.os, h.tape, h.output, h.size, h.block⟩
theorem pw_below_drewN {B : Nat} {w W : World} (h : Below B w W) (n : Nat) : Below B w (W.drewN n) := ⟨h.os, h.tape, h.output, h.size, h.block⟩
theorem below_then {B : Nat} {w w1 w2 : World} (h : Below B w w1) (hB : B ≤ w1.heap.size) (k : Below w1.heap.size w1 w2) : Below B w w2 :=
 h.trans ⟨k.os, k.tape, k.output, k.size, fun i hi => k.block i (Nat.lt_of_lt_of_le hi hB)⟩
theorem grown_of_below {w w1 : World} (h : Below w.heap.size w w1) (row : Option Nat) : w.grownBy w1 row := ⟨h.os, h.tape, h.output, h.size, fun i hi _ => h.block i hi⟩
theorem pw_cell_below {w w1 : World} (h : Below w.heap.size w w1) {a : Addr} {v : Value} (hc : w.cell? a = some v) : w1.cell? a = some v := (h.cell (World.block_lt_of_cell? w a hc)).trans hc
def ReadsInt (w : World) (k : IntKind) (A : Option Addr) (n : Nat) (xs : List Int) : Prop :=
 xs.length = n ∧ n ≤ 9223372036854775807 ∧ (0 < n → ∃ ad, A = some ad ∧ ∀ j, j < n → w.cell? (ad.add j) = some (.int k (xs.getD j 0)))
theorem ReadsInt.below {w w1 : World} {k : IntKind} {A : Option Addr} {n : Nat} {xs : List Int} (h : ReadsInt w k A n xs) (hb : Below w.heap.size w w1) : ReadsInt w1 k A n xs :=
 ⟨h.1, h.2.1, fun hn => by
  obtain ⟨ad, e, hc⟩ := h.2.2 hn
  exact ⟨ad, e, fun j hj => pw_cell_below hb (hc j hj)⟩⟩
theorem own_nil (W : World) (base : Nat) (e : TypeId) (size : Nat) : W.ownsRow base e size (.slice none 0 0) 0 [] := ⟨by simp, .inl ⟨rfl, rfl⟩⟩
theorem own_base {w : World} {base : Nat} {e : TypeId} {size n : Nat} {v : Value} {xs : List Value} (h : w.ownsRow base e size v n xs) (k : Nat) (hk : v.ownBlock = some k) : base ≤ k := by
 rcases h.2 with ⟨rfl, _⟩ | ⟨g, cap, cur, rfl, hb, _⟩
 ·simp [Value.ownBlock] at hk
 ·have : g = k := by simpa [Value.ownBlock] using hk
  omega
theorem own_lt {w : World} {base : Nat} {e : TypeId} {size n : Nat} {v : Value} {xs : List Value} (h : w.ownsRow base e size v n xs) (k : Nat) (hk : v.ownBlock = some k) : k < w.heap.size := by
 rcases h.2 with ⟨rfl, _⟩ | ⟨g, cap, cur, rfl, hb, hh, _⟩
 ·simp [Value.ownBlock] at hk
 ·have : g = k := by simpa [Value.ownBlock] using hk
  subst this
  exact (Array.getElem?_eq_some_iff.1 hh).1
theorem pw_own_below {w w1 : World} {base : Nat} {e : TypeId} {size n : Nat} {v : Value} {xs : List Value} (h : w.ownsRow base e size v n xs) (hb : Below w.heap.size w w1) : w1.ownsRow base e size v n xs :=
 h.kept (grown_of_below hb none) (by cases v.ownBlock <;> simp)
theorem ReadsInt.take_ {w : World} {k : IntKind} {A : Option Addr} {n : Nat} {xs : List Int} (h : ReadsInt w k A n xs) (i : Nat) (hi : i ≤ n) : ReadsInt w k A i (xs.take i) := by
 refine ⟨by rw [List.length_take, h.1]; omega, by have := h.2.1; omega, fun hp => ?_⟩
 obtain ⟨ad, e, hc⟩ := h.2.2 (by omega)
 refine ⟨ad, e, fun j hj => ?_⟩
 rw [hc j (by omega)]
 simp [List.getD_eq_getElem?_getD, hj]
def LeO {α : Type} (a b : Option α) : Prop := ∀ r, a = some r → b = some r
theorem LeO.refl {α : Type} (a : Option α) : LeO a a := fun _ h => h
theorem LeO.none {α : Type} (b : Option α) : LeO Option.none b := fun _ h => by cases h
theorem LeO.trans {α : Type} {a b c : Option α} (h : LeO a b) (k : LeO b c) : LeO a c := fun r hr => k r (h r hr)
theorem LeO.bind {α β : Type} {a a' : Option α} {f f' : α → Option β} (h : LeO a a') (k : ∀ x, LeO (f x) (f' x)) : LeO (a.bind f) (a'.bind f') := by
 intro r hr
 obtain ⟨x, hx, hf⟩ := Option.bind_eq_some_iff.1 hr
 exact Option.bind_eq_some_iff.2 ⟨x, h x hx, k x r hf⟩
theorem LeO.map {α β : Type} {a a' : Option α} (f : α → β) (h : LeO a a') : LeO (a.map f) (a'.map f) := by
 intro r hr
 obtain ⟨x, hx, hf⟩ := Option.map_eq_some_iff.1 hr
 exact Option.map_eq_some_iff.2 ⟨x, h x hx, hf⟩
def Reps {α : Type} (R : α → List Value → Prop) (size : Nat) (ps : List α) (cs : List Value) : Prop :=
 cs.length = ps.length * size ∧ ∀ j p, ps[j]? = some p → R p ((cs.drop (j * size)).take size)
theorem Reps.none {α : Type} (R : α → List Value → Prop) (size : Nat) : Reps R size [] [] := ⟨by simp, fun j p h => by simp at h⟩
theorem Reps.snoc {α : Type} {R : α → List Value → Prop} {size : Nat} {ps : List α} {cs c : List Value} {p : α} (h : Reps R size ps cs) (hp : R p c) (hc : c.length = size) : Reps R size (ps ++ [p]) (cs ++ c) := by
 refine ⟨by rw [List.length_append, h.1, hc, List.length_append, List.length_singleton, Nat.add_mul, Nat.one_mul], fun j q hq => ?_⟩
 rcases Nat.lt_or_ge j ps.length with hj | hj
 ·rw [List.getElem?_append_left hj] at hq
  have h1 : j * size + size ≤ cs.length := by rw [h.1, ← Nat.succ_mul]; exact Nat.mul_le_mul_right _ hj
  have h2 := h.2 j q hq
  rw [List.drop_append_of_le_length (by omega), List.take_append_of_le_length (by rw [List.length_drop]; omega)]
  exact h2
 ·have hj' : j = ps.length := by
   have := (List.getElem?_eq_some_iff.1 hq).1
   rw [List.length_append, List.length_singleton] at this
   omega
  subst hj'
  have hq' : p = q := by simpa using hq
  subst hq'
  rw [← h.1, List.drop_left, ← hc, List.take_length]
  exact hp
theorem Reps.imp_ {α : Type} {R R' : α → List Value → Prop} {size : Nat} {ps : List α} {cs : List Value} (h : Reps R size ps cs) (hR : ∀ p c, R p c → R' p c) : Reps R' size ps cs := ⟨h.1, fun j p hj => hR _ _ (h.2 j p hj)⟩
def ReadsRow {α : Type} (R : α → List Value → Prop) (size : Nat) (w : World) (A : Option Addr) (n : Nat) (ps : List α) : Prop :=
 ps.length = n ∧ n ≤ 9223372036854775807 ∧ (0 < n → ∃ ad, A = some ad ∧ ∀ j p, ps[j]? = some p → ∃ c, c.length = size ∧ R p c ∧ ∀ i u, c[i]? = some u → w.cell? (ad.add (j * size + i)) = some u)
theorem ReadsRow.imp_ {α : Type} {R R' : α → List Value → Prop} {size : Nat} {w w1 : World} {A : Option Addr} {n : Nat} {ps : List α} (h : ReadsRow R size w A n ps) (hb : Below w.heap.size w w1) (hR : ∀ p c, R p c → R' p c) : ReadsRow R' size w1 A n ps :=
 ⟨h.1, h.2.1, fun hn => by
  obtain ⟨ad, e, hc⟩ := h.2.2 hn
  refine ⟨ad, e, fun j p hj => ?_⟩
  obtain ⟨c, hs, hr, hcell⟩ := hc j p hj
  exact ⟨c, hs, hR _ _ hr, fun i u hu => pw_cell_below hb (hcell i u hu)⟩⟩
theorem own_reads_row {α : Type} {R : α → List Value → Prop} {w : World} {base n size : Nat} {e : TypeId} {v : Value} {ps : List α} {cs : List Value} (h : w.ownsRow base e size v n cs) (hR : Reps R size ps cs) (hn : ps.length = n) :
  ∃ A c, v = .slice A n c ∧ ReadsRow R size w A n ps := by
 rcases Nat.eq_zero_or_pos n with h0 | h0
 ·rcases h.2 with ⟨rfl, rfl⟩ | ⟨g, cap, cur, rfl, _⟩
  ·exact ⟨none, 0, rfl, hn, by omega, fun hp => absurd hp (by omega)⟩
  ·exact ⟨_, cap, rfl, hn, by omega, fun hp => absurd hp (by omega)⟩
 ·obtain ⟨g, cap, rfl, _, _⟩ := h.form h0
  have hm : n ≤ 9223372036854775807 := by
   rcases h.2 with ⟨_, h1⟩ | ⟨g', cap', cur, he, _, _, h1, h2, _⟩
   ·omega
   ·simp only [maxLen] at h2
    omega
  refine ⟨_, cap, rfl, hn, hm, fun _ => ⟨_, rfl, fun j p hj => ⟨(cs.drop (j * size)).take size, ?_, hR.2 j p hj, fun i u hu => ?_⟩⟩⟩
  ·have hjl := (List.getElem?_eq_some_iff.1 hj).1
   have h1 : j * size + size ≤ cs.length := by rw [hR.1, ← Nat.succ_mul]; exact Nat.mul_le_mul_right _ hjl
   rw [List.length_take, List.length_drop]
   omega
  ·refine h.cells (g := g) rfl _ u ?_
   rw [List.getElem?_take] at hu
   split at hu
   ·rw [List.getElem?_drop] at hu
    exact hu
   ·cases hu
section
variable {P : Program} {ops : Array Oper} {rest : List Oper} {o : Oper} {a : Act} {Q : Exit → Act → World → Prop}
theorem print_append_cells {w0 W : World} (base : Nat) (hgd : o.guard = none) (s x : Operand) (t e : TypeId) (z : Value) (size bytes : Nat)
  (ho : o.op = .call { callee := .builtin .append, args := #[s, x], argTypes := #[t, t] })
  (ht : P.underlying t = some (.slice e)) (hinfo : (P.info? e).map (fun i => (i.zero, i.size, i.bytes)) = some (some z, size, bytes)) (hz : z.cells.size = size) (hs0 : 0 < size) (hb0 : 0 < bytes)
  (v : Value) (n : Nat) (xs ys : List Value) (hs : a.eval s = v) (hx : a.eval x = .slice (some ⟨W.heap.size, 0, none⟩) 1 1) (hys : ys.length = size) (h1 : ∀ u ∈ ys, u.oneCell' = true)
  (HO : W.ownsRow base e size v n xs) (HB : Below base w0 W) (hbase : base ≤ W.heap.size) (hl : (n + 1) * bytes ≤ 140737488355328)
  (h : ∀ v1 w1, w1.ownsRow base e size v1 (n + 1) (xs ++ ys) → Below base w0 w1 → W.grownBy w1 v.ownBlock → (v1.ownBlock = v.ownBlock ∨ ∃ b, v1.ownBlock = some b ∧ W.heap.size ≤ b) → wpList P ops Q rest (a.put o.dst v1) w1) :
  wpList P ops Q (o :: rest) a (W.alloc (.cells ys.toArray e)) := by
 obtain ⟨i0, hi, hzz⟩ := Option.map_eq_some_iff.1 hinfo
 simp only [Prod.mk.injEq] at hzz
 obtain ⟨hz0, hz1, hz2⟩ := hzz
 have hlen : n + 1 ≤ 140737488355328 := Nat.le_trans (Nat.le_mul_of_pos_right _ hb0) hl
 refine wpList_append_own_at (W.alloc (.cells ys.toArray e)) hgd s x t ho base e i0 z size bytes ht hi hz0 hz1 hz2 hz hs0 v n xs hs (HO.alloc _) ⟨W.heap.size, 0, none⟩ 1 1 ys hx (by rw [hys]; simp)
  (by simpa using World.news_of_block (cs := ys.toArray) (t := e) (fr := (0, 0)) (heap_alloc_new W (.cells ys.toArray e))) h1 (by simp only [maxLen]; omega) hl (by simp; omega) ?_
 intro v1 w1 hown hg _ hat
 refine h v1 w1 hown ((HB.alloc hbase _).grown hg (by simp; omega) (own_base HO)) (World.grownBy.trans (World.grownBy_alloc W _ _) hg) ?_
 rcases hat with hat | hat
 ·exact .inl hat
 ·exact .inr ⟨_, hat, by simp⟩
end
theorem own_ne {w : World} {base : Nat} {e t : TypeId} {size n g : Nat} {v : Value} {xs : List Value} {cs : Array Value} (h : w.ownsRow base e size v n xs) (hg : w.heap[g]? = some (.cells cs t (0, 0))) (hne : e ≠ t) : some g ≠ v.ownBlock := by
 rcases h.2 with ⟨rfl, _⟩ | ⟨g', cap, cur, rfl, _, hh, _⟩
 ·simp [Value.ownBlock]
 ·intro he
  have : g = g' := by simpa [Value.ownBlock] using he
  subst this
  rw [hg] at hh
  injection hh with hh
  injection hh with _ ht
  exact hne ht.symm
theorem blk_lt {w : World} {g : Nat} {o : Obj} (h : w.heap[g]? = some o) : g < w.heap.size := (Array.getElem?_eq_some_iff.1 h).1
theorem blk_cell {w : World} {g : Nat} {t : TypeId} {cs : Array Value} (h : w.heap[g]? = some (.cells cs t (0, 0))) (i : Nat) : w.cell? ⟨g, i, none⟩ = cs[i]? := cell_of_row w g i cs t (0, 0) h
theorem blk_frozen {w : World} {g : Nat} {t : TypeId} {cs : Array Value} (h : w.heap[g]? = some (.cells cs t (0, 0))) (i : Nat) : w.frozen? ⟨g, i, none⟩ = false := by simp [World.frozen?, h]
theorem blk_grown {w w1 : World} {g : Nat} {o : Obj} {row : Option Nat} (h : w.heap[g]? = some o) (hg : w.grownBy w1 row) (hne : some g ≠ row) : w1.heap[g]? = some o := (hg.block g (blk_lt h) hne).trans h
def KeepBut (w w' : World) (g : Nat) (row : Option Nat) : Prop := w.heap.size ≤ w'.heap.size ∧ ∀ i, i < w.heap.size → i ≠ g → some i ≠ row → w'.heap[i]? = w.heap[i]?
theorem KeepBut.refl (w : World) (g : Nat) (row : Option Nat) : KeepBut w w g row := ⟨Nat.le_refl _, fun _ _ _ _ => rfl⟩
theorem KeepBut.of_below {w w1 : World} (h : Below w.heap.size w w1) (g : Nat) (row : Option Nat) : KeepBut w w1 g row := ⟨h.size, fun i hi _ _ => h.block i hi⟩
theorem KeepBut.trans {w w1 w2 : World} {g : Nat} {row row1 : Option Nat} (h : KeepBut w w1 g row) (k : KeepBut w1 w2 g row1) (hr : row1 = row ∨ ∃ b, row1 = some b ∧ w.heap.size ≤ b) : KeepBut w w2 g row :=
 ⟨Nat.le_trans h.1 k.1, fun i hi hg hn => by
  refine (k.2 i (Nat.lt_of_lt_of_le hi h.1) hg ?_).trans (h.2 i hi hg hn)
  rcases hr with rfl | ⟨b, rfl, hb⟩
  ·exact hn
  ·intro e
   injection e with e
   omega⟩
theorem KeepBut.blk {w w1 : World} {g g' : Nat} {row : Option Nat} {o : Obj} (h : KeepBut w w1 g row) (hb : w.heap[g']? = some o) (hg : g' ≠ g) (hr : some g' ≠ row) : w1.heap[g']? = some o := (h.2 g' (blk_lt hb) hg hr).trans hb
theorem KeepBut.own {w w1 : World} {g : Nat} {row : Option Nat} {base : Nat} {e : TypeId} {size n : Nat} {v : Value} {xs : List Value} (h : KeepBut w w1 g row) (ho : w.ownsRow base e size v n xs) (hg : v.ownBlock ≠ some g) (hr : v.ownBlock = none ∨ v.ownBlock ≠ row) : w1.ownsRow base e size v n xs := by
 obtain ⟨h1, h2⟩ := ho
 refine ⟨h1, ?_⟩
 rcases h2 with h2 | ⟨b, cap, cur, rfl, hb, hh, r⟩
 ·exact .inl h2
 ·refine .inr ⟨b, cap, cur, rfl, hb, h.blk hh ?_ ?_, r⟩
  ·intro e
   exact hg (by rw [← e]; rfl)
  ·rcases hr with hr | hr
   ·simp [Value.ownBlock] at hr
   ·exact hr
def Ev {α : Type} (g : Nat → Option α) (r : α) : Prop := ∃ K, ∀ k, K ≤ k → g k = some r
theorem Ev.now {α : Type} (r : α) : Ev (fun _ => some r) r := ⟨0, fun _ _ => rfl⟩
theorem Ev.rounds {α : Type} {g : Nat → Option α} {r : α} (h : Ev g r) : ∃ k, g k = some r := by
 obtain ⟨K, h⟩ := h
 exact ⟨K, h K (Nat.le_refl _)⟩
theorem Ev.bind {α β : Type} {g : Nat → Option α} {f : Nat → α → Option β} {a : α} {r : β} (h : Ev g a) (k : Ev (fun n => f n a) r) : Ev (fun n => (g n).bind (f n)) r := by
 obtain ⟨K, h⟩ := h
 obtain ⟨K', k⟩ := k
 refine ⟨max K K', fun n hn => ?_⟩
 have h1 := h n (by omega)
 have h2 := k n (by omega)
 simp only [h1, Option.bind_some]
 exact h2
theorem Ev.step {α : Type} {g f : Nat → Option α} {r : α} (h : ∀ k, g (k + 1) = f k) (k : Ev f r) : Ev g r := by
 obtain ⟨K, k⟩ := k
 refine ⟨K + 1, fun n hn => ?_⟩
 obtain ⟨m, rfl⟩ : ∃ m, n = m + 1 := ⟨n - 1, by omega⟩
 rw [h]
 exact k m (by omega)
theorem Ev.congr {α : Type} {g f : Nat → Option α} {r : α} (h : ∀ k, g k = f k) (k : Ev f r) : Ev g r := by
 obtain ⟨K, k⟩ := k
 exact ⟨K, fun n hn => (h n).trans (k n hn)⟩
theorem own_weaken {w : World} {base base' : Nat} {e : TypeId} {size n : Nat} {v : Value} {xs : List Value} (h : w.ownsRow base e size v n xs) (hb : base' ≤ base) : w.ownsRow base' e size v n xs := by
 obtain ⟨h1, h2⟩ := h
 refine ⟨h1, ?_⟩
 rcases h2 with h2 | ⟨g, cap, cur, rfl, hg, r⟩
 ·exact .inl h2
 ·exact .inr ⟨g, cap, cur, rfl, Nat.le_trans hb hg, r⟩
section
variable {α : Type} {enc : α → Value} {d : α}
def rdOf (d : α) (xs : List α) (i : Int) : α := xs.getD i.toNat d
def ReadsOf (enc : α → Value) (d : α) (w : World) (A : Option Addr) (n : Nat) (xs : List α) : Prop :=
 xs.length = n ∧ n ≤ 9223372036854775807 ∧ (0 < n → ∃ ad, A = some ad ∧ ∀ j, j < n → w.cell? (ad.add j) = some (enc (xs.getD j d)))
theorem ReadsOf.at_ {w : World} {A : Option Addr} {n : Nat} {xs : List α} (h : ReadsOf enc d w A n xs) (i : Int) (h0 : 0 ≤ i) (h1 : i < n) : ∃ ad, A = some ad ∧ w.cell? (ad.add i.toNat) = some (enc (rdOf d xs i)) := by
 obtain ⟨ad, e, hc⟩ := h.2.2 (by omega)
 exact ⟨ad, e, hc _ (by omega)⟩
theorem ReadsOf.below {w w1 : World} {A : Option Addr} {n : Nat} {xs : List α} (h : ReadsOf enc d w A n xs) (hb : Below w.heap.size w w1) : ReadsOf enc d w1 A n xs :=
 ⟨h.1, h.2.1, fun hn => by
  obtain ⟨ad, e, hc⟩ := h.2.2 hn
  exact ⟨ad, e, fun j hj => pw_cell_below hb (hc j hj)⟩⟩
theorem ReadsOf.take_ {w : World} {A : Option Addr} {n : Nat} {xs : List α} (h : ReadsOf enc d w A n xs) (i : Nat) (hi : i ≤ n) : ReadsOf enc d w A i (xs.take i) := by
 refine ⟨by rw [List.length_take, h.1]; omega, by have := h.2.1; omega, fun hp => ?_⟩
 obtain ⟨ad, e, hc⟩ := h.2.2 (by omega)
 refine ⟨ad, e, fun j hj => ?_⟩
 rw [hc j (by omega)]
 simp [List.getD_eq_getElem?_getD, hj]
end
theorem blk_alloc {w : World} {g : Nat} {o : Obj} (h : w.heap[g]? = some o) (o' : Obj) : (w.alloc o').heap[g]? = some o := (Below.heap_alloc w o' g (blk_lt h)).trans h
theorem blk_drew {w : World} {g : Nat} {o : Obj} (h : w.heap[g]? = some o) : w.drew.heap[g]? = some o := h
theorem blk_drewN {w : World} {g : Nat} {o : Obj} (h : w.heap[g]? = some o) (n : Nat) : (w.drewN n).heap[g]? = some o := h
theorem blk_below {w w1 : World} {g : Nat} {o : Obj} (h : w.heap[g]? = some o) (hb : Below w.heap.size w w1) : w1.heap[g]? = some o := (hb.block g (blk_lt h)).trans h
theorem blk_new (w : World) (o : Obj) : (w.alloc o).heap[w.heap.size]? = some o := heap_alloc_new w o
theorem own_le {w : World} {base n m c size : Nat} {e : TypeId} {A : Option Addr} {xs : List Value} (h : w.ownsRow base e size (.slice A m c) n xs) : m ≤ c := by
 rcases h.2 with ⟨he, _⟩ | ⟨g, cap, cur, he, _, _, hnc, _⟩
 ·injection he with _ h2 h3
  omega
 ·injection he with _ h2 h3
  omega
def OwnRow {α : Type} (R : α → List Value → Prop) (e : TypeId) (size : Nat) (w : World) (base : Nat) (v : Value) (ps : List α) : Prop :=
 ∃ inner, w.ownsRow base e size v ps.length inner ∧ Reps R size ps inner
section
variable {α : Type} {R R' : α → List Value → Prop} {e : TypeId} {size : Nat} {w w1 : World} {base : Nat} {v : Value} {ps : List α}
theorem OwnRow.none_ (R : α → List Value → Prop) (e : TypeId) (size : Nat) (w : World) (base : Nat) : OwnRow R e size w base (.slice none 0 0) [] := ⟨[], own_nil _ _ _ _, Reps.none _ _⟩
theorem OwnRow.imp_ (h : OwnRow R e size w base v ps) (hR : ∀ p c, R p c → R' p c) : OwnRow R' e size w base v ps := by
 obtain ⟨inner, ho, hr⟩ := h
 exact ⟨inner, ho, hr.imp_ hR⟩
theorem OwnRow.below (h : OwnRow R e size w base v ps) (hb : Below w.heap.size w w1) : OwnRow R e size w1 base v ps := by
 obtain ⟨inner, ho, hr⟩ := h
 exact ⟨inner, pw_own_below ho hb, hr⟩
theorem OwnRow.keep (h : OwnRow R e size w base v ps) {g : Nat} {t : TypeId} {cells : Array Value} (hb : w.heap[g]? = some (.cells cells t (0, 0))) (ht : e ≠ t) (hk : KeepBut w w1 g none) : OwnRow R e size w1 base v ps := by
 obtain ⟨inner, ho, hr⟩ := h
 exact ⟨inner, hk.own ho (Ne.symm (own_ne ho hb ht)) (by cases v.ownBlock <;> simp), hr⟩
theorem OwnRow.reads (h : OwnRow R e size w base v ps) : ∃ A c, v = .slice A ps.length c ∧ ps.length ≤ c ∧ ReadsRow R size w A ps.length ps := by
 obtain ⟨inner, ho, hr⟩ := h
 obtain ⟨A, c, rfl, hrow⟩ := own_reads_row ho hr rfl
 exact ⟨A, c, rfl, own_le ho, hrow⟩
theorem OwnRow.ne_block (h : OwnRow R e size w base v ps) {g : Nat} {t : TypeId} {cells : Array Value} (hb : w.heap[g]? = some (.cells cells t (0, 0))) (ht : e ≠ t) : some g ≠ v.ownBlock := by
 obtain ⟨inner, ho, hr⟩ := h
 exact own_ne ho hb ht
theorem OwnRow.lit (W : World) (base : Nat) {inner : List Value} (hr : Reps R size ps inner) (hb : base ≤ W.heap.size) (hm : ps.length ≤ 9223372036854775807) :
  OwnRow R e size (W.alloc (.cells inner.toArray e)) base (.slice (some ⟨W.heap.size, 0, none⟩) ps.length ps.length) ps := by
 have h := World.ownsRow_lit (base := base) (e := e) (size := size) W inner.toArray ps.length hb (by simpa [maxLen] using hm) (by simpa using hr.1)
 exact ⟨inner, by simpa using h, hr⟩
end
section
variable {P : Program} {ops : Array Oper} {rest : List Oper} {o : Oper} {a : Act} {Q : Exit → Act → World → Prop} {α : Type} {R : α → List Value → Prop}
theorem OwnRow.append {w0 W : World} (base : Nat) (hgd : o.guard = none) (s x : Operand) (t e : TypeId) (z : Value) (size bytes : Nat)
  (ho : o.op = .call { callee := .builtin .append, args := #[s, x], argTypes := #[t, t] })
  (ht : P.underlying t = some (.slice e)) (hinfo : (P.info? e).map (fun i => (i.zero, i.size, i.bytes)) = some (some z, size, bytes)) (hz : z.cells.size = size) (hs0 : 0 < size) (hb0 : 0 < bytes)
  (v : Value) (ps : List α) (p : α) (cs : List Value) (hs : a.eval s = v) (hx : a.eval x = .slice (some ⟨W.heap.size, 0, none⟩) 1 1) (hp : R p cs) (hcs : cs.length = size) (h1 : ∀ u ∈ cs, u.oneCell' = true)
  (HO : OwnRow R e size W base v ps) (HB : Below base w0 W) (hbase : base ≤ W.heap.size) (hl : (ps.length + 1) * bytes ≤ 140737488355328)
  (h : ∀ v1 w1, OwnRow R e size w1 base v1 (ps ++ [p]) → Below base w0 w1 → W.grownBy w1 v.ownBlock → (v1.ownBlock = v.ownBlock ∨ ∃ b, v1.ownBlock = some b ∧ W.heap.size ≤ b) → wpList P ops Q rest (a.put o.dst v1) w1) :
  wpList P ops Q (o :: rest) a (W.alloc (.cells cs.toArray e)) := by
 obtain ⟨inner, hown, hr⟩ := HO
 refine print_append_cells base hgd s x t e z size bytes ho ht hinfo hz hs0 hb0 v ps.length inner cs hs hx hcs h1 hown HB hbase hl ?_
 intro v1 w1 hown1 hb1 hg1 hat1
 exact h v1 w1 ⟨inner ++ cs, by rw [List.length_append, List.length_singleton]; exact hown1, hr.snoc hp hcs⟩ hb1 hg1 hat1
end
section
variable {α : Type} {P : Program}
theorem ReadsOf.len_ {enc : α → Value} {d : α} {w : World} {A : Option Addr} {n : Nat} {xs : List α} (h : ReadsOf enc d w A n xs) : ReadsOf enc d w A xs.length xs := by rw [h.1]; exact h
end
structure Kd (α : Type) where
 sz : Nat
 E : List Nat
 K : World → α → List Value → Prop
 M : World → Nat → (Nat → Prop) → α → List Value → Prop
 K_len : ∀ {w x cs}, K w x cs → cs.length = sz
 K_one : ∀ {w x cs}, K w x cs → ∀ u ∈ cs, u.oneCell' = true
 K_below : ∀ {w w1 : World} {x cs}, Below w.heap.size w w1 → K w x cs → K w1 x cs
 K_of_M : ∀ {w base ok x cs}, M w base ok x cs → K w x cs
 M_mono : ∀ {w base ok ok' x cs}, (∀ k, ok k → ok' k) → M w base ok x cs → M w base ok' x cs
 M_bound : ∀ {w : World} {base ok x cs}, M w base ok x cs → M w base (fun k => ok k ∧ base ≤ k ∧ k < w.heap.size ∧ ∃ q, q ∈ E ∧ ∃ cells, w.heap[k]? = some (.cells cells q (0, 0))) x cs
 M_move : ∀ {w w1 : World} {base ok x cs}, (∀ k, ok k → w1.heap[k]? = w.heap[k]?) → M w base ok x cs → M w1 base ok x cs
 M_lower : ∀ {w base base' ok x cs}, base' ≤ base → M w base ok x cs → M w base' ok x cs
theorem own_move {w w1 : World} {base : Nat} {e : TypeId} {size n : Nat} {v : Value} {xs : List Value} (h : w.ownsRow base e size v n xs) (hm : ∀ k, v.ownBlock = some k → w1.heap[k]? = w.heap[k]?) : w1.ownsRow base e size v n xs := by
 obtain ⟨h1, h2⟩ := h
 refine ⟨h1, ?_⟩
 rcases h2 with h2 | ⟨g, cap, cur, rfl, hg, hh, r⟩
 ·exact .inl h2
 ·exact .inr ⟨g, cap, cur, rfl, hg, (hm g (by simp [Value.ownBlock])).trans hh, r⟩
theorem own_typed {w : World} {base : Nat} {e : TypeId} {size n : Nat} {v : Value} {xs : List Value} (h : w.ownsRow base e size v n xs) (k : Nat) (hk : v.ownBlock = some k) : ∃ cells, w.heap[k]? = some (.cells cells e (0, 0)) := by
 rcases h.2 with ⟨rfl, _⟩ | ⟨g, cap, cur, rfl, hg, hh, r⟩
 ·simp [Value.ownBlock] at hk
 ·have : g = k := by simpa [Value.ownBlock] using hk
  subst this
  exact ⟨cur, hh⟩
namespace Kd
def C {α : Type} (d : Kd α) (w : World) (A : Option Addr) (n : Nat) (xs : List α) : Prop := ReadsRow (d.K w) d.sz w A n xs
def R {α : Type} (d : Kd α) (e : Nat) (w : World) (base : Nat) (ok : Nat → Prop) (v : Value) (xs : List α) : Prop :=
 (∀ k, v.ownBlock = some k → ok k) ∧ OwnRow (d.M w base (fun k => ok k ∧ some k ≠ v.ownBlock)) e d.sz w base v xs
section
variable {α : Type} {d : Kd α} {e : Nat} {w w1 : World} {base : Nat} {ok ok' : Nat → Prop} {v : Value} {xs : List α}
theorem C_below {A : Option Addr} {n : Nat} (h : d.C w A n xs) (hb : Below w.heap.size w w1) : d.C w1 A n xs := ReadsRow.imp_ h hb (fun _ _ hp => d.K_below hb hp)
theorem R_nil (d : Kd α) (e : Nat) (w : World) (base : Nat) (ok : Nat → Prop) : d.R e w base ok (.slice none 0 0) [] := ⟨fun k hk => by simp [Value.ownBlock] at hk, OwnRow.none_ _ _ _ _ _⟩
theorem R_mono (h : d.R e w base ok v xs) (hok : ∀ k, ok k → ok' k) : d.R e w base ok' v xs := ⟨fun k hk => hok k (h.1 k hk), h.2.imp_ (fun _ _ hp => d.M_mono (fun k hk => ⟨hok k hk.1, hk.2⟩) hp)⟩
theorem R_bound (h : d.R e w base ok v xs) : d.R e w base (fun k => ok k ∧ base ≤ k ∧ k < w.heap.size ∧ ∃ q, q ∈ e :: d.E ∧ ∃ cells, w.heap[k]? = some (.cells cells q (0, 0))) v xs := by
 obtain ⟨h0, inner, ho, hr⟩ := h
 refine ⟨fun k hk => ?_, inner, ho, hr.imp_ (fun _ _ hp => d.M_mono (fun k hk => ?_) (d.M_bound hp))⟩
 ·obtain ⟨cells, hc⟩ := own_typed ho k hk
  exact ⟨h0 k hk, own_base ho k hk, own_lt ho k hk, e, List.mem_cons_self, cells, hc⟩
 ·obtain ⟨⟨h1, h2⟩, h3, h4, q, hq, hc⟩ := hk
  exact ⟨⟨h1, h3, h4, q, List.mem_cons_of_mem _ hq, hc⟩, h2⟩
theorem R_move (h : d.R e w base ok v xs) (hm : ∀ k, ok k → w1.heap[k]? = w.heap[k]?) : d.R e w1 base ok v xs := by
 obtain ⟨h0, inner, ho, hr⟩ := h
 exact ⟨h0, inner, own_move ho (fun k hk => hm k (h0 k hk)), hr.imp_ (fun _ _ hp => d.M_move (fun k hk => hm k hk.1) hp)⟩
theorem R_lower {base' : Nat} (h : d.R e w base ok v xs) (hb : base' ≤ base) : d.R e w base' ok v xs := by
 obtain ⟨h0, inner, ho, hr⟩ := h
 exact ⟨h0, inner, own_weaken ho hb, hr.imp_ (fun _ _ hp => d.M_lower hb hp)⟩
theorem R_step (h : d.R e w base ok v xs) (hm : ∀ k, ok k → k < w.heap.size → w1.heap[k]? = w.heap[k]?) : d.R e w1 base ok v xs :=
 R_mono (R_move (R_bound h) (fun k hk => hm k hk.1 hk.2.2.1)) (fun _ hk => hk.1)
theorem R_below (h : d.R e w base ok v xs) (hb : Below w.heap.size w w1) : d.R e w1 base ok v xs := R_step h (fun k _ hk => hb.block k hk)
theorem R_reads (h : d.R e w base ok v xs) : ∃ A c, v = .slice A xs.length c ∧ xs.length ≤ c ∧ d.C w A xs.length xs := by
 obtain ⟨A, c, he, hl, hr⟩ := OwnRow.reads h.2
 exact ⟨A, c, he, hl, hr.imp_ (Below.refl _ _) (fun _ _ hp => d.K_of_M hp)⟩
theorem R_ne (h : d.R e w base ok v xs) {g t : Nat} {cells : Array Value} (hb : w.heap[g]? = some (.cells cells t (0, 0))) (ht : e ≠ t) : some g ≠ v.ownBlock := OwnRow.ne_block h.2 hb ht
end
def scalar {α : Type} (enc : α → Value) (h1 : ∀ x, (enc x).oneCell' = true) : Kd α where
 sz := 1
 E := []
 K := fun _ x cs => cs = [enc x]
 M := fun _ _ _ x cs => cs = [enc x]
 K_len := fun h => by rw [h]; rfl
 K_one := fun h u hu => by
  rw [h] at hu
  rw [List.mem_singleton.1 hu]
  exact h1 _
 K_below := fun _ h => h
 K_of_M := fun h => h
 M_mono := fun _ h => h
 M_bound := fun h => h
 M_move := fun _ h => h
 M_lower := fun _ h => h
def int (k : IntKind) : Kd Int := scalar (Value.int k) (fun _ => rfl)
def bool : Kd Bool := scalar Value.bool (fun _ => rfl)
def string : Kd ByteArray := scalar Value.string (fun _ => rfl)
def slice {α : Type} (e : Nat) (d : Kd α) : Kd (List α) where
 sz := 1
 E := e :: d.E
 K := fun w xs cs => ∃ A c, cs = [.slice A xs.length c] ∧ xs.length ≤ c ∧ d.C w A xs.length xs
 M := fun w base ok xs cs => ∃ v, cs = [v] ∧ d.R e w base ok v xs
 K_len := by
  rintro w x cs ⟨A, c, rfl, _⟩
  rfl
 K_one := by
  rintro w x cs ⟨A, c, rfl, _⟩ u hu
  rw [List.mem_singleton.1 hu]
  rfl
 K_below := by
  rintro w w1 x cs hb ⟨A, c, rfl, hl, hr⟩
  exact ⟨A, c, rfl, hl, C_below hr hb⟩
 K_of_M := by
  rintro w base ok x cs ⟨v, rfl, h⟩
  obtain ⟨A, c, rfl, hl, hr⟩ := R_reads h
  exact ⟨A, c, rfl, hl, hr⟩
 M_mono := by
  rintro w base ok ok' x cs hok ⟨v, rfl, h⟩
  exact ⟨v, rfl, R_mono h hok⟩
 M_bound := by
  rintro w base ok x cs ⟨v, rfl, h⟩
  exact ⟨v, rfl, R_bound h⟩
 M_move := by
  rintro w w1 base ok x cs hm ⟨v, rfl, h⟩
  exact ⟨v, rfl, R_move h hm⟩
 M_lower := by
  rintro w base base' ok x cs hb ⟨v, rfl, h⟩
  exact ⟨v, rfl, R_lower h hb⟩
def pair {α β : Type} (a : Kd α) (b : Kd β) : Kd (α × β) where
 sz := a.sz + b.sz
 E := a.E ++ b.E
 K := fun w x cs => ∃ c0 c1, cs = c0 ++ c1 ∧ a.K w x.1 c0 ∧ b.K w x.2 c1
 M := fun w base ok x cs => ∃ c0 c1, cs = c0 ++ c1 ∧ a.M w base ok x.1 c0 ∧ b.M w base ok x.2 c1
 K_len := by
  rintro w x cs ⟨c0, c1, rfl, h0, h1⟩
  rw [List.length_append, a.K_len h0, b.K_len h1]
 K_one := by
  rintro w x cs ⟨c0, c1, rfl, h0, h1⟩ u hu
  rcases List.mem_append.1 hu with hu | hu
  ·exact a.K_one h0 u hu
  ·exact b.K_one h1 u hu
 K_below := by
  rintro w w1 x cs hb ⟨c0, c1, rfl, h0, h1⟩
  exact ⟨c0, c1, rfl, a.K_below hb h0, b.K_below hb h1⟩
 K_of_M := by
  rintro w base ok x cs ⟨c0, c1, rfl, h0, h1⟩
  exact ⟨c0, c1, rfl, a.K_of_M h0, b.K_of_M h1⟩
 M_mono := by
  rintro w base ok ok' x cs hok ⟨c0, c1, rfl, h0, h1⟩
  exact ⟨c0, c1, rfl, a.M_mono hok h0, b.M_mono hok h1⟩
 M_bound := by
  rintro w base ok x cs ⟨c0, c1, rfl, h0, h1⟩
  refine ⟨c0, c1, rfl, a.M_mono ?_ (a.M_bound h0), b.M_mono ?_ (b.M_bound h1)⟩
  ·rintro k ⟨h2, h3, h4, q, hq, hc⟩
   exact ⟨h2, h3, h4, q, List.mem_append_left _ hq, hc⟩
  ·rintro k ⟨h2, h3, h4, q, hq, hc⟩
   exact ⟨h2, h3, h4, q, List.mem_append_right _ hq, hc⟩
 M_move := by
  rintro w w1 base ok x cs hm ⟨c0, c1, rfl, h0, h1⟩
  exact ⟨c0, c1, rfl, a.M_move hm h0, b.M_move hm h1⟩
 M_lower := by
  rintro w base base' ok x cs hb ⟨c0, c1, rfl, h0, h1⟩
  exact ⟨c0, c1, rfl, a.M_lower hb h0, b.M_lower hb h1⟩
def iso {α β : Type} (d : Kd α) (f : β → α) : Kd β where
 sz := d.sz
 E := d.E
 K := fun w x cs => d.K w (f x) cs
 M := fun w base ok x cs => d.M w base ok (f x) cs
 K_len := d.K_len
 K_one := d.K_one
 K_below := d.K_below
 K_of_M := d.K_of_M
 M_mono := d.M_mono
 M_bound := d.M_bound
 M_move := d.M_move
 M_lower := d.M_lower
def bot {α : Type} (sz : Nat) (E : List Nat) : Kd α where
 sz := sz
 E := E
 K := fun _ _ _ => False
 M := fun _ _ _ _ _ => False
 K_len := fun h => h.elim
 K_one := fun h => h.elim
 K_below := fun _ h => h
 K_of_M := fun h => h
 M_mono := fun _ h => h
 M_bound := fun h => h
 M_move := fun _ h => h
 M_lower := fun _ h => h
def upto {α : Type} (F : Kd α → Kd α) (sz : Nat) (E : List Nat) : Nat → Kd α
 | 0 => bot sz E
 | n + 1 => F (upto F sz E n)
def fix {α : Type} (F : Kd α → Kd α) (sz : Nat) (E : List Nat) (hs : ∀ n, (upto F sz E n).sz = sz) (hE : ∀ n q, q ∈ (upto F sz E n).E → q ∈ E) : Kd α where
 sz := sz
 E := E
 K := fun w x cs => ∃ n, (upto F sz E n).K w x cs
 M := fun w base ok x cs => ∃ n, (upto F sz E n).M w base ok x cs
 K_len := by
  rintro w x cs ⟨n, h⟩
  rw [(upto F sz E n).K_len h, hs n]
 K_one := by
  rintro w x cs ⟨n, h⟩
  exact (upto F sz E n).K_one h
 K_below := by
  rintro w w1 x cs hb ⟨n, h⟩
  exact ⟨n, (upto F sz E n).K_below hb h⟩
 K_of_M := by
  rintro w base ok x cs ⟨n, h⟩
  exact ⟨n, (upto F sz E n).K_of_M h⟩
 M_mono := by
  rintro w base ok ok' x cs hok ⟨n, h⟩
  exact ⟨n, (upto F sz E n).M_mono hok h⟩
 M_bound := by
  rintro w base ok x cs ⟨n, h⟩
  refine ⟨n, (upto F sz E n).M_mono ?_ ((upto F sz E n).M_bound h)⟩
  rintro k ⟨h2, h3, h4, q, hq, hc⟩
  exact ⟨h2, h3, h4, q, hE n q hq, hc⟩
 M_move := by
  rintro w w1 base ok x cs hm ⟨n, h⟩
  exact ⟨n, (upto F sz E n).M_move hm h⟩
 M_lower := by
  rintro w base base' ok x cs hb ⟨n, h⟩
  exact ⟨n, (upto F sz E n).M_lower hb h⟩
theorem R_appended {α : Type} {d : Kd α} {e base : Nat} {ok okp : Nat → Prop} {W w1 : World} {v v1 : Value} {xs : List α} {p : α} {inner cs : List Value} (h0 : ∀ k, v.ownBlock = some k → ok k) (hr : Reps (d.M W base (fun k => ok k ∧ some k ≠ v.ownBlock)) d.sz xs inner) (hp : d.M W base okp p cs) (hokp : ∀ k, okp k → ok k ∧ some k ≠ v.ownBlock) (hfresh : ∀ k, W.heap.size ≤ k → ok k)
  (hown : w1.ownsRow base e d.sz v1 (xs.length + 1) (inner ++ cs)) (hg : W.grownBy w1 v.ownBlock) (hat : v1.ownBlock = v.ownBlock ∨ ∃ b, v1.ownBlock = some b ∧ W.heap.size ≤ b) : d.R e w1 base ok v1 (xs ++ [p]) := by
 have hne : ∀ k, some k ≠ v.ownBlock → k < W.heap.size → some k ≠ v1.ownBlock := by
  intro k hk hlt
  rcases hat with hat | ⟨b, hb, hle⟩
  ·rw [hat]; exact hk
  ·rw [hb]
   intro he
   injection he with he
   omega
 have step : ∀ {q : α} {c : List Value} {o : Nat → Prop}, d.M W base o q c → (∀ k, o k → ok k ∧ some k ≠ v.ownBlock) → d.M w1 base (fun k => ok k ∧ some k ≠ v1.ownBlock) q c := by
  intro q c o hq ho
  have h1 := d.M_move (w1 := w1) (fun k hk => hg.block k hk.2.2.1 (ho k hk.1).2) (d.M_bound hq)
  exact d.M_mono (fun k hk => ⟨(ho k hk.1).1, hne k (ho k hk.1).2 hk.2.2.1⟩) h1
 refine ⟨fun k hk => ?_, inner ++ cs, by rw [List.length_append, List.length_singleton]; exact hown, ?_⟩
 ·rcases hat with hat | ⟨b, hb, hle⟩
  ·exact h0 k (hat ▸ hk)
  ·rw [hb] at hk
   injection hk with hk
   exact hfresh k (by omega)
 ·exact (hr.imp_ (fun _ _ hq => step hq (fun _ hk => hk))).snoc (step hp hokp) (d.K_len (d.K_of_M hp))
section
variable {P : Program} {ops : Array Oper} {rest : List Oper} {o : Oper} {a : Act} {Q : Exit → Act → World → Prop} {α : Type}
theorem R_append (d : Kd α) {w0 W : World} (base : Nat) (hgd : o.guard = none) (s x : Operand) (t e : TypeId) (z : Value) (bytes : Nat)
  (ho : o.op = .call { callee := .builtin .append, args := #[s, x], argTypes := #[t, t] })
  (ht : P.underlying t = some (.slice e)) (hinfo : (P.info? e).map (fun i => (i.zero, i.size, i.bytes)) = some (some z, d.sz, bytes)) (hz : z.cells.size = d.sz) (hs0 : 0 < d.sz) (hb0 : 0 < bytes)
  (v : Value) (xs : List α) (p : α) (cs : List Value) (ok okp : Nat → Prop) (hs : a.eval s = v) (hx : a.eval x = .slice (some ⟨W.heap.size, 0, none⟩) 1 1) (hp : d.M W base okp p cs) (hokp : ∀ k, okp k → ok k ∧ some k ≠ v.ownBlock) (hfresh : ∀ k, W.heap.size ≤ k → ok k)
  (HO : d.R e W base ok v xs) (HB : Below base w0 W) (hbase : base ≤ W.heap.size) (hl : (xs.length + 1) * bytes ≤ 140737488355328)
  (h : ∀ v1 w1, d.R e w1 base ok v1 (xs ++ [p]) → Below base w0 w1 → W.grownBy w1 v.ownBlock → (v1.ownBlock = v.ownBlock ∨ ∃ b, v1.ownBlock = some b ∧ W.heap.size ≤ b) → wpList P ops Q rest (a.put o.dst v1) w1) :
  wpList P ops Q (o :: rest) a (W.alloc (.cells cs.toArray e)) := by
 obtain ⟨h0, inner, hown, hr⟩ := HO
 refine print_append_cells base hgd s x t e z d.sz bytes ho ht hinfo hz hs0 hb0 v xs.length inner cs hs hx (d.K_len (d.K_of_M hp)) (d.K_one (d.K_of_M hp)) hown HB hbase hl ?_
 intro v1 w1 hown1 hb1 hg1 hat1
 exact h v1 w1 (R_appended h0 hr hp hokp hfresh hown1 hg1 hat1) hb1 hg1 hat1
end
theorem reads_of_C {α : Type} {enc : α → Value} {d : α} {h1 : ∀ x, (enc x).oneCell' = true} {w : World} {A : Option Addr} {n : Nat} {xs : List α} (h : (scalar enc h1).C w A n xs) : ReadsOf enc d w A n xs := by
 refine ⟨h.1, h.2.1, fun hn => ?_⟩
 obtain ⟨ad, e, hc⟩ := h.2.2 hn
 refine ⟨ad, e, fun j hj => ?_⟩
 have hl : j < xs.length := by have := h.1; omega
 obtain ⟨c, _, hK, hcell⟩ := hc j _ (List.getElem?_eq_getElem hl)
 have hK' : c = [enc xs[j]] := hK
 subst hK'
 have := hcell 0 _ rfl
 simpa [scalar, List.getD_eq_getElem?_getD, List.getElem?_eq_getElem hl] using this
end Kd
namespace Kd
structure Mono {α β : Type} (F : Kd α → Kd β) : Prop where
 sz : ∀ d d' : Kd α, d.sz = d'.sz → (F d).sz = (F d').sz
 K : ∀ d d' : Kd α, d.sz = d'.sz → (∀ w x cs, d.K w x cs → d'.K w x cs) → ∀ w x cs, (F d).K w x cs → (F d').K w x cs
 M : ∀ d d' : Kd α, d.sz = d'.sz → (∀ w base ok x cs, d.M w base ok x cs → d'.M w base ok x cs) → ∀ w base ok x cs, (F d).M w base ok x cs → (F d').M w base ok x cs
theorem mono_const {α β : Type} (k : Kd β) : Mono (fun _ : Kd α => k) := ⟨fun _ _ _ => rfl, fun _ _ _ _ _ _ _ h => h, fun _ _ _ _ _ _ _ _ _ h => h⟩
theorem mono_id {α : Type} : Mono (fun d : Kd α => d) := ⟨fun _ _ h => h, fun _ _ _ h => h, fun _ _ _ h => h⟩
theorem C_imp {α : Type} {d d' : Kd α} (hs : d.sz = d'.sz) (h : ∀ w x cs, d.K w x cs → d'.K w x cs) {w : World} {A : Option Addr} {n : Nat} {xs : List α} (hc : d.C w A n xs) : d'.C w A n xs := by
 unfold C at hc ⊢
 rw [← hs]
 exact hc.imp_ (Below.refl _ _) (fun _ _ hp => h _ _ _ hp)
theorem R_imp {α : Type} {d d' : Kd α} (hs : d.sz = d'.sz) (h : ∀ w base ok x cs, d.M w base ok x cs → d'.M w base ok x cs) {e : Nat} {w : World} {base : Nat} {ok : Nat → Prop} {v : Value} {xs : List α} (hr : d.R e w base ok v xs) : d'.R e w base ok v xs := by
 unfold R at hr ⊢
 rw [← hs]
 exact ⟨hr.1, hr.2.imp_ (fun _ _ hp => h _ _ _ _ _ hp)⟩
theorem mono_slice {α β : Type} (e : Nat) {G : Kd α → Kd β} (hG : Mono G) : Mono (fun d => slice e (G d)) := by
 refine ⟨fun _ _ _ => rfl, ?_, ?_⟩
 ·rintro d d' hs h w x cs ⟨A, c, rfl, hl, hr⟩
  exact ⟨A, c, rfl, hl, C_imp (hG.sz d d' hs) (hG.K d d' hs h) hr⟩
 ·rintro d d' hs h w base ok x cs ⟨v, rfl, hr⟩
  exact ⟨v, rfl, R_imp (hG.sz d d' hs) (hG.M d d' hs h) hr⟩
theorem mono_pair {α β γ : Type} {G : Kd α → Kd β} {H : Kd α → Kd γ} (hG : Mono G) (hH : Mono H) : Mono (fun d => pair (G d) (H d)) := by
 refine ⟨fun d d' hs => ?_, ?_, ?_⟩
 ·show (G d).sz + (H d).sz = (G d').sz + (H d').sz
  rw [hG.sz d d' hs, hH.sz d d' hs]
 ·rintro d d' hs h w x cs ⟨c0, c1, rfl, h0, h1⟩
  exact ⟨c0, c1, rfl, hG.K d d' hs h _ _ _ h0, hH.K d d' hs h _ _ _ h1⟩
 ·rintro d d' hs h w base ok x cs ⟨c0, c1, rfl, h0, h1⟩
  exact ⟨c0, c1, rfl, hG.M d d' hs h _ _ _ _ _ h0, hH.M d d' hs h _ _ _ _ _ h1⟩
theorem mono_iso {α β γ : Type} {G : Kd α → Kd β} (f : γ → β) (hG : Mono G) : Mono (fun d => iso (G d) f) :=
 ⟨hG.sz, fun d d' hs h w x cs => hG.K d d' hs h w (f x) cs, fun d d' hs h w base ok x cs => hG.M d d' hs h w base ok (f x) cs⟩
def Sub {α β : Type} (F : Kd α → Kd β) (E : List Nat) : Prop := ∀ d : Kd α, (∀ q, q ∈ d.E → q ∈ E) → ∀ q, q ∈ (F d).E → q ∈ E
theorem sub_const {α β : Type} {E : List Nat} (k : Kd β) (h : ∀ q, q ∈ k.E → q ∈ E) : Sub (fun _ : Kd α => k) E := fun _ _ => h
theorem sub_id {α : Type} {E : List Nat} : Sub (fun d : Kd α => d) E := fun _ h => h
theorem sub_slice {α β : Type} {E : List Nat} (e : Nat) {G : Kd α → Kd β} (he : e ∈ E) (hG : Sub G E) : Sub (fun d => slice e (G d)) E := fun d h q hq => by
 rcases List.mem_cons.1 hq with rfl | hq
 ·exact he
 ·exact hG d h q hq
theorem sub_pair {α β γ : Type} {E : List Nat} {G : Kd α → Kd β} {H : Kd α → Kd γ} (hG : Sub G E) (hH : Sub H E) : Sub (fun d => pair (G d) (H d)) E := fun d h q hq => by
 rcases List.mem_append.1 hq with hq | hq
 ·exact hG d h q hq
 ·exact hH d h q hq
theorem sub_iso {α β γ : Type} {E : List Nat} {G : Kd α → Kd β} (f : γ → β) (hG : Sub G E) : Sub (fun d => iso (G d) f) E := hG
theorem upto_E {α : Type} {F : Kd α → Kd α} {sz : Nat} {E : List Nat} (h : Sub F E) : ∀ n q, q ∈ (upto F sz E n).E → q ∈ E
 | 0, _, hq => hq
 | n + 1, q, hq => h _ (upto_E h n) q hq
theorem upto_sz {α : Type} {F : Kd α → Kd α} {sz : Nat} {E : List Nat} (h : ∀ d : Kd α, (F d).sz = sz) : ∀ n, (upto F sz E n).sz = sz
 | 0 => rfl
 | _ + 1 => h _
section
variable {α : Type} {F : Kd α → Kd α} {sz : Nat} {E : List Nat} {hs : ∀ n, (upto F sz E n).sz = sz} {hE : ∀ n q, q ∈ (upto F sz E n).E → q ∈ E}
theorem upto_K (hm : Mono F) (hs : ∀ n, (upto F sz E n).sz = sz) : ∀ n {w x cs}, (upto F sz E n).K w x cs → (upto F sz E (n + 1)).K w x cs
 | 0, _, _, _, h => h.elim
 | n + 1, _, _, _, h => hm.K _ _ (by rw [hs n, hs (n + 1)]) (fun _ _ _ hk => upto_K hm hs n hk) _ _ _ h
theorem upto_K_le (hm : Mono F) (hs : ∀ n, (upto F sz E n).sz = sz) {n m : Nat} (hnm : n ≤ m) {w x cs} (h : (upto F sz E n).K w x cs) : (upto F sz E m).K w x cs := by
 obtain ⟨j, rfl⟩ := Nat.exists_eq_add_of_le hnm
 induction j with
 | zero => exact h
 | succ j ih => exact upto_K hm hs _ (ih (by omega))
theorem fix_C {n : Nat} {w : World} {A : Option Addr} {m : Nat} {xs : List α} (h : (upto F sz E n).C w A m xs) : (fix F sz E hs hE).C w A m xs := C_imp (d' := fix F sz E hs hE) (hs n) (fun w x cs hp => (⟨n, hp⟩ : ∃ n, (upto F sz E n).K w x cs)) h
theorem bounded {P : Nat → Nat → Prop} (hP : ∀ n m j, n ≤ m → P n j → P m j) : ∀ m, (∀ j, j < m → ∃ n, P n j) → ∃ N, ∀ j, j < m → P N j
 | 0, _ => ⟨0, fun j hj => absurd hj (Nat.not_lt_zero j)⟩
 | m + 1, h => by
  obtain ⟨N, hN⟩ := bounded hP m (fun j hj => h j (by omega))
  obtain ⟨n, hn⟩ := h m (by omega)
  refine ⟨max N n, fun j hj => ?_⟩
  rcases Nat.lt_or_ge j m with hj' | hj'
  ·exact hP N _ j (Nat.le_max_left _ _) (hN j hj')
  ·have : j = m := by omega
   subst this
   exact hP n _ j (Nat.le_max_right _ _) hn
theorem fix_C_back (hm : Mono F) {w : World} {A : Option Addr} {m : Nat} {xs : List α} (h : (fix F sz E hs hE).C w A m xs) : ∃ n, (upto F sz E n).C w A m xs := by
 rcases Nat.eq_zero_or_pos m with hz | hpos
 ·subst hz
  exact ⟨0, h.1, h.2.1, fun hp => absurd hp (Nat.lt_irrefl 0)⟩
 ·obtain ⟨ad, e, hc⟩ := h.2.2 hpos
  obtain ⟨N, hN⟩ := bounded (P := fun n j => ∀ p, xs[j]? = some p → ∃ c, c.length = sz ∧ (upto F sz E n).K w p c ∧ ∀ i u, c[i]? = some u → w.cell? (ad.add (j * sz + i)) = some u)
   (fun n n' j hnm hp p hj => by
    obtain ⟨c, h1, h2, h3⟩ := hp p hj
    exact ⟨c, h1, upto_K_le hm hs hnm h2, h3⟩) xs.length
   (fun j hj => by
    obtain ⟨c, h1, ⟨n, h2⟩, h3⟩ := hc j _ (List.getElem?_eq_getElem hj)
    refine ⟨n, fun p hp => ?_⟩
    rw [List.getElem?_eq_getElem hj] at hp
    injection hp with hp
    rw [← hp]
    exact ⟨c, h1, h2, h3⟩)
  refine ⟨N, h.1, h.2.1, fun _ => ⟨ad, e, fun j p hj => ?_⟩⟩
  rw [hs N]
  exact hN j (List.getElem?_eq_some_iff.1 hj).1 p hj
theorem upto_C_le (hm : Mono F) (hs : ∀ n, (upto F sz E n).sz = sz) {n m : Nat} (hnm : n ≤ m) {w : World} {A : Option Addr} {l : Nat} {xs : List α} (h : (upto F sz E n).C w A l xs) : (upto F sz E m).C w A l xs := C_imp (by rw [hs n, hs m]) (fun _ _ _ hp => upto_K_le hm hs hnm hp) h
end
end Kd
namespace Kd
end Kd
namespace Kd
section
variable {α β : Type} {d : Kd α} {d' : Kd β} {e e' : Nat} {w w1 W : World} {base b b' : Nat} {ok ok' okv oku : Nat → Prop} {v u : Value} {xs : List α} {ys : List β}
theorem R_drew (h : d.R e w base ok v xs) : d.R e w.drew base ok v xs := R_below h (below_drew (Below.refl _ _))
theorem C_nil (d : Kd α) (w : World) : d.C w none ([] : List α).length [] := ⟨rfl, by simp, fun h => absurd h (Nat.lt_irrefl 0)⟩
end
section
variable {w W : World} {A : Option Addr} {n : Nat}
theorem at_string {xs : List ByteArray} (h : Kd.string.C w A n xs) (i : Int) (h0 : 0 ≤ i) (h1 : i < n) : ∃ ad, A = some ad ∧ w.cell? (ad.add i.toNat) = some (.string (rdOf ByteArray.empty xs i)) :=
 ReadsOf.at_ (reads_of_C (enc := Value.string) (d := ByteArray.empty) (h1 := fun _ => rfl) h) i h0 h1
variable {α : Type} {enc : α → Value} {h1 : ∀ x, (enc x).oneCell' = true} {e base g cap : Nat} {ok : Nat → Prop} {xs : List α}
end
section
variable {P : Program} {ops : Array Oper} {rest : List Oper} {o : Oper} {a : Act} {Q : Exit → Act → World → Prop}
theorem event_run {W w1 : World} {v : Value} (hgd : o.guard = none) (hrun : (execOp a.eval o).run P W = .ok (.value v) w1) (h : wpList P ops Q rest (a.put o.dst v) w1) : wpList P ops Q (o :: rest) a W := by
 refine wpList_plain hgd fun K hK => ?_
 unfold Oper.wp
 rw [hrun]
 exact hK _ _ h
variable {α : Type}
end
end Kd
def QRow (w : World) (base : Nat) (e : TypeId) (size : Nat) (v : Value) (n : Nat) (xs : List Value) : Prop :=
 xs.length = n * size ∧
 ((n = 0 ∧ ∃ A, v = .slice A 0 0 ∧ ∀ a, A = some a → base ≤ a.block ∧ ∃ cur, w.heap[a.block]? = some (.cells cur e (0, 0))) ∨
 ∃ g off cap cur, v = .slice (some ⟨g, off * size, none⟩) n cap ∧ base ≤ g ∧ w.heap[g]? = some (.cells cur e (0, 0)) ∧ n ≤ cap ∧ off + cap ≤ maxLen ∧ cur.size = (off + cap) * size ∧ (cur.toList.drop (off * size)).take (n * size) = xs)
namespace Kd
def Q {α : Type} (d : Kd α) (e : Nat) (w : World) (base : Nat) (ok : Nat → Prop) (v : Value) (xs : List α) : Prop :=
 (∀ k, v.ownBlock = some k → ok k) ∧ ∃ inner, QRow w base e d.sz v xs.length inner ∧ Reps (d.M w base (fun k => ok k ∧ some k ≠ v.ownBlock)) d.sz xs inner
end Kd
namespace Kd
end Kd
namespace Kd
end Kd
namespace Kd
end Kd
namespace Kd
end Kd
namespace Kd
end Kd
namespace Kd
end Kd
theorem below_size {w W : World} (h : Below w.heap.size w W) : w.heap.size ≤ W.heap.size := h.size
theorem below_step {w W w2 : World} (h : Below w.heap.size w W) (k : Below W.heap.size W w2) : Below w.heap.size w w2 := below_then h h.size k
theorem ReadsInt.nil (W : World) (k : IntKind) : ReadsInt W k none ([] : List Int).length [] := ⟨rfl, by simp, fun h => absurd h (Nat.lt_irrefl 0)⟩
theorem ReadsInt.drewN {W : World} {k : IntKind} {A : Option Addr} {n : Nat} {xs : List Int} (h : ReadsInt W k A n xs) (m : Nat) : ReadsInt (W.drewN m) k A n xs := h
theorem below_set {w W : World} {g j : Nat} {v : Value} (h : Below w.heap.size w W) (hg : w.heap.size ≤ g) : Below w.heap.size w (W.setCell ⟨g, j, none⟩ v) := h.setCell hg _
theorem keep_cell {w W : World} {g : Nat} (h : KeepBut w W g none) {a : Addr} {v : Value} (hc : w.cell? a = some v) (hne : a.block ≠ g) : W.cell? a = some v := by
 have := h.2 a.block (World.block_lt_of_cell? w a hc) hne (by simp)
 simpa [World.cell?, this] using hc
theorem add_block (a : Addr) (i : Nat) : (a.add i).block = a.block := by unfold Addr.add; split <;> rfl
theorem ReadsOf.nil {α : Type} (enc : α → Value) (d : α) (W : World) : ReadsOf enc d W none ([] : List α).length [] := ⟨rfl, by simp, fun h => absurd h (Nat.lt_irrefl 0)⟩
theorem ReadsOf.drewN {α : Type} {enc : α → Value} {d : α} {W : World} {A : Option Addr} {n : Nat} {xs : List α} (h : ReadsOf enc d W A n xs) (m : Nat) : ReadsOf enc d (W.drewN m) A n xs := h
theorem ReadsInt.keep {w W : World} {k : IntKind} {A : Option Addr} {n g : Nat} {xs : List Int} (h : ReadsInt w k A n xs) (hk : KeepBut w W g none) (hf : ∀ ad, A = some ad → 0 < n → ad.block ≠ g) : ReadsInt W k A n xs :=
 ⟨h.1, h.2.1, fun hn => by
  obtain ⟨ad, e, hc⟩ := h.2.2 hn
  exact ⟨ad, e, fun j hj => keep_cell hk (hc j hj) (by rw [add_block]; exact hf ad e hn)⟩⟩
theorem ReadsOf.keep {α : Type} {enc : α → Value} {d : α} {w W : World} {A : Option Addr} {n g : Nat} {xs : List α} (h : ReadsOf enc d w A n xs) (hk : KeepBut w W g none) (hf : ∀ ad, A = some ad → 0 < n → ad.block ≠ g) : ReadsOf enc d W A n xs :=
 ⟨h.1, h.2.1, fun hn => by
  obtain ⟨ad, e, hc⟩ := h.2.2 hn
  exact ⟨ad, e, fun j hj => keep_cell hk (hc j hj) (by rw [add_block]; exact hf ad e hn)⟩⟩
theorem below_drew1 {base : Nat} {w W : World} (h : Below base w W) : Below base w W.drew := h.drew
namespace Kd
end Kd
namespace Kd
end Kd
section
variable {P : Program} {ops : Array Oper} {rest : List Oper} {o : Oper} {a : Act} {Q : Exit → Act → World → Prop}
theorem box_event {W : World} (hgd : o.guard = none) {N : Tmp} (_hd : o.dst = some N) {cs : Array Value} {t : TypeId}
  (hrun : (execOp a.eval o).run P W = .ok (.value (.pointer (some ⟨W.heap.size, 0, none⟩))) (W.alloc (.cells cs t (0, 0))))
  (h : ∀ g, g = W.heap.size → ∀ w1, w1.heap[g]? = some (.cells cs t (0, 0)) → Below W.heap.size W w1 → wpList P ops Q rest (a.put o.dst (.pointer (some ⟨g, 0, none⟩))) w1) : wpList P ops Q (o :: rest) a W :=
 Kd.event_run hgd hrun (h _ rfl _ (blk_new W _) (below_alloc (Below.refl _ _) _))
end
namespace Kd
end Kd
namespace Kd
end Kd
section
variable {P : Program} {ops : Array Oper} {rest : List Oper} {o : Oper} {a : Act} {Q : Exit → Act → World → Prop} {W : World}
theorem gate_dst {N : Tmp} (_hN : o.dst = some N) (h : wpList P ops Q (o :: rest) a W) : wpList P ops Q (o :: rest) a W := h
end
section
variable {P : Program} {ops : Array Oper} {o : Oper} {a : Act} {Q : Exit → Act → World → Prop} {Kc : Act → World → Prop}
namespace Kd
variable {α : Type}
end Kd
end
namespace Kd
end Kd
end Go.Proofs.YtlkikblohnnlcaaGreatDoorW.PrintWords
end
section
namespace Go.Proofs.YtlkikblohnnlcaaGreatDoorW.PrintLast
open Go.Proofs.YtlkikblohnnlcaaGreatDoorW.PrintWords (Aside0)
def needsOf (md : Region.Mode) (o : Oper) : List Nat := (o.after.toList.filter (fun e => Region.binds md e)).map (fun e => e.on)
def clashOf (md : Region.Mode) (ops : Array Oper) (i : Nat) (oi : Oper) : List Nat := (List.range ops.size).filter fun j => !(j == i) && match ops[j]? with
 | some oj => !(oj.after.any (fun e => Region.binds md e && e.on == i) || oi.apart ops oj)
 | none => false
def rtab (md : Region.Mode) (ops : Array Oper) : Bool × List (List Nat × List Nat) := (Region.noSelect ops, (List.range ops.size).map fun i => match ops[i]? with
 | some o => (needsOf md o, clashOf md ops i o)
 | none => ([], []))
def readyAt (T : List (List Nat × List Nat)) (l : List Bool) (i : Nat) : Bool := !l.getD i true && match T[i]? with
 | some r => r.1.all (fun j => l.getD j false)
 | none => false
def readyT (T : List (List Nat × List Nat)) (l : List Bool) : List Nat := (List.range T.length).filter (readyAt T l)
def freeT (T : List (List Nat × List Nat)) (l : List Bool) (i : Nat) : Bool := match T[i]? with
 | some r => r.2.all (fun j => l.getD j true)
 | none => false
def closedT (T : List (List Nat × List Nat)) (l : List Bool) : Bool := (List.range T.length).all fun j => !l.getD j false || match T[j]? with
 | some r => r.1.all (fun k => l.getD k false)
 | none => true
def reachT (T : List (List Nat × List Nat)) (i : Nat) : Nat → Nat → Bool
 | 0, _ => false
 | fuel + 1, d => match T[d]? with
  | some r => r.1.any fun j => j == i || reachT T i fuel j
  | none => false
def lastT (T : List (List Nat × List Nat)) (l : List Bool) (ds : List Nat) (i : Nat) : Bool := ds.all fun d => l.getD d true || reachT T i T.length d
section
variable {md : Region.Mode} {ops : Array Oper} {T : Bool × List (List Nat × List Nat)} {l l' li lj lk : Array Bool} {ds : List Nat} {i j k : Nat}
theorem gd (l : Array Bool) (j : Nat) (b : Bool) : l.getD j b = l.toList.getD j b := by simp [Array.getD_eq_getD_getElem?, List.getD_eq_getElem?_getD]
theorem needs_all (o : Oper) (p : Nat → Bool) : o.after.all (fun e => !Region.binds md e || p e.on) = (needsOf md o).all p := by
 unfold needsOf
 rw [← Array.all_toList]
 induction o.after.toList with
 | nil => rfl
 | cons e r ih =>
  rw [List.all_cons, ih, List.filter_cons]
  cases h : Region.binds md e <;> simp
theorem needs_any (o : Oper) (p : Nat → Bool) : o.after.any (fun e => Region.binds md e && p e.on) = (needsOf md o).any p := by
 unfold needsOf
 rw [← Array.any_toList]
 induction o.after.toList with
 | nil => rfl
 | cons e r ih =>
  rw [List.any_cons, ih, List.filter_cons]
  cases h : Region.binds md e <;> simp
theorem rtab_length : (rtab md ops).2.length = ops.size := by simp [rtab]
theorem rtab_some {o : Oper} (h : ops[i]? = some o) : (rtab md ops).2[i]? = some (needsOf md o, clashOf md ops i o) := by
 have hi := (Array.getElem?_eq_some_iff.1 h).1
 unfold rtab
 rw [List.getElem?_map, List.getElem?_range hi, Option.map_some, h]
theorem rtab_none (h : ops[i]? = none) : (rtab md ops).2[i]? = none := by
 have hi : ops.size ≤ i := Array.getElem?_eq_none_iff.1 h
 exact List.getElem?_eq_none (by rw [rtab_length]; exact hi)
theorem readyAt_eq : readyAt (rtab md ops).2 l.toList i = (!l.getD i true && ((ops[i]?).map (·.after.all fun e => !Region.binds md e || l.getD e.on false)).getD false) := by
 unfold readyAt
 rw [gd]
 cases h : ops[i]? with
 | none => rw [rtab_none h]; rfl
 | some o =>
  rw [rtab_some h]
  simp only [Option.map_some, Option.getD_some]
  rw [← needs_all]
  simp only [gd]
theorem ready_eq : Region.ready md ops l = readyT (rtab md ops).2 l.toList := by
 unfold Region.ready readyT
 rw [rtab_length]
 refine List.filter_congr (fun i _ => ?_)
 rw [readyAt_eq]
theorem free_eq : Region.free md ops l i = freeT (rtab md ops).2 l.toList i := by
 unfold Region.free freeT
 cases h : ops[i]? with
 | none => rw [rtab_none h]
 | some oi =>
  rw [rtab_some h]
  simp only [clashOf]
  rw [List.all_filter]
  congr 1
  funext j
  rw [gd]
  cases hj : ops[j]? with
  | none => cases (j == i) <;> cases (l.toList.getD j true) <;> simp
  | some oj =>
   cases (j == i) <;> cases (l.toList.getD j true) <;> cases (oj.after.any (fun e => Region.binds md e && e.on == i) || oi.apart ops oj) <;> simp_all
theorem closed_eq : Region.closedB md ops l = closedT (rtab md ops).2 l.toList := by
 unfold Region.closedB closedT
 rw [rtab_length]
 congr 1
 funext j
 rw [gd]
 cases h : ops[j]? with
 | none => rw [rtab_none h]
 | some o =>
  rw [rtab_some h]
  simp only
  rw [← needs_all]
  simp only [gd]
theorem reach_eq : ∀ (fuel d : Nat), Region.reachB md ops i fuel d = reachT (rtab md ops).2 i fuel d
 | 0, _ => rfl
 | fuel + 1, d => by
  unfold Region.reachB reachT
  cases h : ops[d]? with
  | none => rw [rtab_none h]
  | some o =>
   rw [rtab_some h]
   simp only
   rw [← needs_any]
   congr 1
   funext e
   rw [reach_eq fuel]
theorem last_eq : Region.lastB md ops l ds i = lastT (rtab md ops).2 l.toList ds i := by
 unfold Region.lastB lastT
 rw [rtab_length]
 congr 1
 funext d
 rw [gd, reach_eq]
theorem readyAt_mem (h : readyAt T.2 l.toList i = true) (hT : rtab md ops = T) : (Region.ready md ops l).contains i = true := by
 subst hT
 rw [ready_eq]
 unfold readyT
 rw [List.contains_iff_mem, List.mem_filter, List.mem_range]
 refine ⟨?_, h⟩
 unfold readyAt at h
 rw [Bool.and_eq_true] at h
 cases hq : (rtab md ops).2[i]? with
 | none => rw [hq] at h; simp at h
 | some r => exact (List.getElem?_eq_some_iff.1 hq).1
theorem set_of (h : (l.toList.set i true == l'.toList) = true) : (l.setIfInBounds i true == l') = true := by
 rw [beq_iff_eq] at h ⊢
 apply Array.ext'
 rw [Array.toList_setIfInBounds]
 exact h
def anyT (T : Bool × List (List Nat × List Nat)) (l l' : List Bool) (i : Nat) : Bool := T.1 && freeT T.2 l i && readyAt T.2 l i && (l.set i true == l')
theorem any_of (hT : rtab md ops = T) (h : anyT T l.toList l'.toList i = true) : anyB md ops l l' i = true := by
 simp only [anyT, Bool.and_eq_true] at h
 obtain ⟨⟨⟨h1, h2⟩, h3⟩, h4⟩ := h
 have h5 := readyAt_mem h3 hT
 have h6 := set_of h4
 subst hT
 simp only [anyB, Bool.and_eq_true]
 exact ⟨⟨⟨h1, by rw [free_eq]; exact h2⟩, h5⟩, h6⟩
def takeT (T : Bool × List (List Nat × List Nat)) (ds : List Nat) (l l' : List Bool) (i : Nat) : Bool := T.1 && freeT T.2 l i && readyAt T.2 l i && closedT T.2 l && lastT T.2 l ds i && (l.set i true == l')
theorem take_of (hT : rtab md ops = T) (h : takeT T ds l.toList l'.toList i = true) : takeB md ops ds l l' i = true := by
 simp only [takeT, Bool.and_eq_true] at h
 obtain ⟨⟨⟨⟨⟨h1, h2⟩, h3⟩, h4⟩, h5⟩, h6⟩ := h
 have h7 := readyAt_mem h3 hT
 have h8 := set_of h6
 subst hT
 simp only [takeB, Bool.and_eq_true]
 exact ⟨⟨⟨⟨⟨h1, by rw [free_eq]; exact h2⟩, h7⟩, by rw [closed_eq]; exact h4⟩, by rw [last_eq]; exact h5⟩, h8⟩
theorem one_of (hT : rtab md ops = T) (h : (readyT T.2 l.toList == [i] && l.toList.set i true == l'.toList) = true) : readyB md ops l l' i = true := by
 simp only [Bool.and_eq_true] at h
 obtain ⟨h1, h2⟩ := h
 subst hT
 simp only [readyB, Bool.and_eq_true]
 exact ⟨by rw [ready_eq]; exact h1, set_of h2⟩
theorem done_of (hT : rtab md ops = T) (h : (readyT T.2 l.toList == []) = true) : (Region.ready md ops l == []) = true := by
 subst hT
 rw [ready_eq]
 exact h
def upM (B : List Nat) (d : Nat) : List Nat → Nat
 | [] => 0
 | n :: r => (2 ^ n ||| (if n < d then B.getD n 0 else 0)) ||| upM B d r
def waitsOk (T : List (List Nat × List Nat)) (B : List Nat) : Bool := (List.range T.length).all fun d => match T[d]? with
 | some r => (B.getD d 0 ||| upM B d r.1) == upM B d r.1
 | none => false
theorem upM_bit {B : List Nat} {d i : Nat} : ∀ {ns : List Nat}, (upM B d ns).testBit i = true → ∃ n ∈ ns, n = i ∨ (n < d ∧ (B.getD n 0).testBit i = true)
 | [], h => by simp [upM] at h
 | n :: r, h => by
  unfold upM at h
  rw [Nat.testBit_or, Nat.testBit_or, Bool.or_eq_true, Bool.or_eq_true] at h
  rcases h with (h | h) | h
  ·rw [Nat.testBit_two_pow] at h
   exact ⟨n, List.mem_cons_self, .inl (by simpa using h)⟩
  ·by_cases hn : n < d
   ·rw [if_pos hn] at h
    exact ⟨n, List.mem_cons_self, .inr ⟨hn, h⟩⟩
   ·rw [if_neg hn] at h
    simp at h
  ·obtain ⟨m, hm, h2⟩ := upM_bit h
   exact ⟨m, List.mem_cons_of_mem _ hm, h2⟩
theorem reach_bit {T : List (List Nat × List Nat)} {B : List Nat} (hB : waitsOk T B = true) : ∀ (fuel d : Nat), d < fuel → d < T.length → (B.getD d 0).testBit i = true → reachT T i fuel d = true
 | 0, d, h, _, _ => by omega
 | fuel + 1, d, h, hd, hb => by
  have h1 := List.all_eq_true.1 hB d (List.mem_range.2 hd)
  cases hr : T[d]? with
  | none => rw [hr] at h1; simp at h1
  | some r =>
   rw [hr] at h1
   simp only [beq_iff_eq] at h1
   have h2 : (upM B d r.1).testBit i = true := by rw [← h1, Nat.testBit_or, hb, Bool.true_or]
   obtain ⟨n, hn, h3⟩ := upM_bit h2
   unfold reachT
   rw [hr]
   simp only
   rw [List.any_eq_true]
   refine ⟨n, hn, ?_⟩
   rcases h3 with rfl | ⟨h4, h5⟩
   ·simp
   ·rw [reach_bit hB fuel n (by omega) (by omega) h5, Bool.or_true]
def lastW (T : List (List Nat × List Nat)) (B : List Nat) (l : List Bool) (ds : List Nat) (i : Nat) : Bool := ds.all fun d => l.getD d true || (decide (d < T.length) && (B.getD d 0).testBit i)
def takeW (T : Bool × List (List Nat × List Nat)) (B : List Nat) (ds : List Nat) (l l' : List Bool) (i : Nat) : Bool := T.1 && freeT T.2 l i && readyAt T.2 l i && closedT T.2 l && lastW T.2 B l ds i && (l.set i true == l')
theorem take_ofW {B : List Nat} (hT : rtab md ops = T) (hB : waitsOk T.2 B = true) (h : takeW T B ds l.toList l'.toList i = true) : takeB md ops ds l l' i = true := by
 refine take_of hT ?_
 simp only [takeW, takeT, Bool.and_eq_true] at h ⊢
 obtain ⟨⟨⟨⟨⟨h1, h2⟩, h3⟩, h4⟩, h5⟩, h6⟩ := h
 refine ⟨⟨⟨⟨⟨h1, h2⟩, h3⟩, h4⟩, ?_⟩, h6⟩
 unfold lastW at h5
 unfold lastT
 rw [List.all_eq_true] at h5 ⊢
 intro d hd
 have h7 := h5 d hd
 rw [Bool.or_eq_true, Bool.and_eq_true, decide_eq_true_eq] at h7
 rcases h7 with h7 | ⟨h8, h9⟩
 ·rw [h7, Bool.true_or]
 ·rw [reach_bit hB _ d h8 h8 h9, Bool.or_true]
theorem with_tabW {P : Program} {Q : Exit → Act → World → Prop} {S : World → Prop} {n : Nat} {a : Act} {w : World} {B : List Nat} (hT : rtab md ops = T) (hB : waitsOk T.2 B = true) (h : Aside0 (rtab md ops = T) → Aside0 (waitsOk T.2 B = true) → wpAnyLast P md ops Q S ds n l a w) : wpAnyLast P md ops Q S ds n l a w := h ⟨hT⟩ ⟨hB⟩
end
def opsIn : Code → Nat → Option (Array Oper)
 | .region id ops _, k => if id == k then some ops else none
 | .seq a b, k => match opsIn a k with
  | some o => some o
  | none => opsIn b k
 | .cond _ a b, k => match opsIn a k with
  | some o => some o
  | none => opsIn b k
 | .block _ c, k => opsIn c k
 | .loop c, k => opsIn c k
 | .scope c, k => opsIn c k
 | .rangeFunc _ _ a b, k => match opsIn a k with
  | some o => some o
  | none => opsIn b k
 | _, _ => none
def opsOf (f : Func) (k : Nat) : Array Oper := ((f.body.bind fun c => opsIn c k)).getD #[]
end Go.Proofs.YtlkikblohnnlcaaGreatDoorW.PrintLast
end
section
namespace Go.Proofs.YtlkikblohnnlcaaGreatDoorW.PrintMore
open Go.RowKit Go.Proofs.YtlkikblohnnlcaaGreatDoorW.PrintWords
namespace Kd
open Go.Proofs.YtlkikblohnnlcaaGreatDoorW.PrintWords.Kd
end Kd
namespace Kd
open Go.Proofs.YtlkikblohnnlcaaGreatDoorW.PrintWords.Kd
end Kd
theorem max2_int (k k' : IntKind) (x y : Int) : Builtin.max2 (.int k x) (.int k' y) = pure (.int k (if x < y then y else x)) := by simp only [Builtin.max2, gt_iff_lt]
theorem min2_int (k k' : IntKind) (x y : Int) : Builtin.min2 (.int k x) (.int k' y) = pure (.int k (if y < x then y else x)) := by simp only [Builtin.min2]
theorem max_two (ats : Array TypeId) (ty : TypeId) (a b : Value) : Builtin.max_ ats ty #[a, b] = (Builtin.max2 a b >>= fun s => pure s) := by simp only [Builtin.max_, List.foldlM_cons, List.foldlM_nil]
theorem min_two (ats : Array TypeId) (ty : TypeId) (a b : Value) : Builtin.min_ ats ty #[a, b] = (Builtin.min2 a b >>= fun s => pure s) := by simp only [Builtin.min_, List.foldlM_cons, List.foldlM_nil]
theorem max_three (ats : Array TypeId) (ty : TypeId) (a b c : Value) : Builtin.max_ ats ty #[a, b, c] = (Builtin.max2 a b >>= fun s => Builtin.max2 s c >>= fun s => pure s) := by simp only [Builtin.max_, List.foldlM_cons, List.foldlM_nil]
theorem min_three (ats : Array TypeId) (ty : TypeId) (a b c : Value) : Builtin.min_ ats ty #[a, b, c] = (Builtin.min2 a b >>= fun s => Builtin.min2 s c >>= fun s => pure s) := by simp only [Builtin.min_, List.foldlM_cons, List.foldlM_nil]
theorem max_four (ats : Array TypeId) (ty : TypeId) (a b c d : Value) : Builtin.max_ ats ty #[a, b, c, d] = (Builtin.max2 a b >>= fun s => Builtin.max2 s c >>= fun s => Builtin.max2 s d >>= fun s => pure s) := by simp only [Builtin.max_, List.foldlM_cons, List.foldlM_nil]
theorem min_four (ats : Array TypeId) (ty : TypeId) (a b c d : Value) : Builtin.min_ ats ty #[a, b, c, d] = (Builtin.min2 a b >>= fun s => Builtin.min2 s c >>= fun s => Builtin.min2 s d >>= fun s => pure s) := by simp only [Builtin.min_, List.foldlM_cons, List.foldlM_nil]
end Go.Proofs.YtlkikblohnnlcaaGreatDoorW.PrintMore
namespace Go.Proofs.YtlkikblohnnlcaaGreatDoorW.PrintWords
open Go.RowKit
section
variable {P : Program} {ops : Array Oper} {rest : List Oper} {o : Oper} {a : Act} {Q : Exit → Act → World → Prop} {W : World}
theorem gate_callee {f : FuncId} {as1 : Array Operand} {ts : Array TypeId} (_ho : o.op = .call { callee := .value (.func f), args := as1, argTypes := ts }) (h : wpList P ops Q (o :: rest) a W) : wpList P ops Q (o :: rest) a W := h
theorem gate_builtin {b : Builtin} {xs : Array Operand} {ts : Array TypeId} (_ho : o.op = .call { callee := .builtin b, args := xs, argTypes := ts }) (h : wpList P ops Q (o :: rest) a W) : wpList P ops Q (o :: rest) a W := h
end
namespace Kd
end Kd
end Go.Proofs.YtlkikblohnnlcaaGreatDoorW.PrintWords
namespace Go.Proofs.YtlkikblohnnlcaaGreatDoorW.PrintWords
open Go.RowKit
namespace Kd
end Kd
end Go.Proofs.YtlkikblohnnlcaaGreatDoorW.PrintWords
end
section
namespace Go.Proofs.YtlkikblohnnlcaaGreatDoor.U
open Go
set_option maxRecDepth 100000
def B (s : ByteArray) (i : Nat) : Nat := (s.get! i).toNat
def wdN (sz i a b c d : Nat) : Nat :=
 let k (n x lo hi : Nat) : Bool := decide (i + n < sz) && decide (lo ≤ x) && decide (x ≤ hi)
 if a < 128 then 1
 else if 194 ≤ a ∧ a ≤ 223 then (if k 1 b 128 191 then 2 else 0)
 else if 224 ≤ a ∧ a ≤ 239 then (if k 1 b (if a = 224 then 160 else 128) (if a = 237 then 159 else 191) && k 2 c 128 191 then 3 else 0)
 else if 240 ≤ a ∧ a ≤ 244 then (if k 1 b (if a = 240 then 144 else 128) (if a = 244 then 143 else 191) && k 2 c 128 191 && k 3 d 128 191 then 4 else 0)
 else 0
def decN (sz i a b c d : Nat) : Nat × Nat :=
 let cont (k x : Nat) : Bool := i + k < sz && x / 64 == 2
 if a < 0x80 then (a, 1)
 else if a / 32 == 6 && cont 1 b then
  let c := (a % 32) * 64 + b % 64
  if c ≥ 0x80 then (c, 2) else (Utf8.runeError, 1)
 else if a / 16 == 14 && cont 1 b && cont 2 c then
  let c := (a % 16) * 4096 + (b % 64) * 64 + c % 64
  if c ≥ 0x800 && Utf8.valid c then (c, 3) else (Utf8.runeError, 1)
 else if a / 8 == 30 && cont 1 b && cont 2 c && cont 3 d then
  let c := (a % 8) * 262144 + (b % 64) * 4096 + (c % 64) * 64 + d % 64
  if c ≥ 0x10000 && Utf8.valid c then (c, 4) else (Utf8.runeError, 1)
 else (Utf8.runeError, 1)
theorem dec_eq (s : ByteArray) (i : Nat) : Utf8.decode s i = decN s.size i (B s i) (B s (i + 1)) (B s (i + 2)) (B s (i + 3)) := rfl
def wd (s : ByteArray) (i : Nat) : Nat := wdN s.size i (B s i) (B s (i + 1)) (B s (i + 2)) (B s (i + 3))
theorem of_ite {p : Prop} [Decidable p] {n : Nat} (h : (if p then n else 0) ≠ 0) : p := by
 by_cases hp : p
 ·exact hp
 ·rw [if_neg hp] at h
  exact absurd rfl h
theorem decN_wd (sz i a b c d : Nat) (h : wdN sz i a b c d ≠ 0) : (decN sz i a b c d).2 = wdN sz i a b c d := by
 unfold wdN at h ⊢
 unfold decN
 simp only at h ⊢
 by_cases h1 : a < 128
 ·simp [h1]
 ·simp only [h1, if_false] at h ⊢
  by_cases h2 : 194 ≤ a ∧ a ≤ 223
  ·simp only [h2, and_self, if_true] at h ⊢
   split at h
   ·rename_i hc
    simp only [Bool.and_eq_true, decide_eq_true_eq] at hc
    have e1 : (a / 32 == 6) = true := by simp; omega
    have e2 : (decide (i + 1 < sz) && b / 64 == 2) = true := by simp; omega
    rw [e1, e2]
    have e3 : a % 32 * 64 + b % 64 ≥ 128 := by omega
    simp [e3, hc]
   ·exact absurd rfl h
  ·simp only [h2, if_false] at h ⊢
   by_cases h3 : 224 ≤ a ∧ a ≤ 239
   ·simp only [h3, and_self, if_true] at h ⊢
    have hc := of_ite h
    rw [if_pos hc]
    simp only [Bool.and_eq_true, decide_eq_true_eq] at hc
    have e0 : ¬ a / 32 = 6 := by omega
    have e1 : a / 16 = 14 := by omega
    have hb := hc.1
    have e2 : b / 64 = 2 := by split at hb <;> split at hb <;> omega
    have e3 : c / 64 = 2 := by omega
    have e4 : 2048 ≤ a % 16 * 4096 + b % 64 * 64 + c % 64 := by split at hb <;> split at hb <;> omega
    have e5 : Utf8.valid ((a % 16 * 4096 + b % 64 * 64 + c % 64 : Nat) : Int) = true := by
     simp only [Utf8.valid, Bool.or_eq_true, Bool.and_eq_true, decide_eq_true_eq]
     split at hb <;> split at hb <;> omega
    obtain ⟨x, hx⟩ : ∃ x : Nat, x = a % 16 * 4096 + b % 64 * 64 + c % 64 := ⟨_, rfl⟩
    simp only [← hx] at e4 e5 ⊢
    simp [e0, e1, e2, e3, hb.1.1, hc.2.1.1, e4, e5]
   ·simp only [h3, if_false] at h ⊢
    by_cases h4 : 240 ≤ a ∧ a ≤ 244
    ·simp only [h4, and_self, if_true] at h ⊢
     have hc := of_ite h
     rw [if_pos hc]
     simp only [Bool.and_eq_true, decide_eq_true_eq] at hc
     have hb := hc.1.1
     have e0 : ¬ a / 32 = 6 := by omega
     have e0' : ¬ a / 16 = 14 := by omega
     have e1 : a / 8 = 30 := by omega
     have e2 : b / 64 = 2 := by split at hb <;> split at hb <;> omega
     have e3 : c / 64 = 2 := by omega
     have e3' : d / 64 = 2 := by omega
     have e4 : 65536 ≤ a % 8 * 262144 + b % 64 * 4096 + c % 64 * 64 + d % 64 := by split at hb <;> split at hb <;> omega
     have e5 : Utf8.valid ((a % 8 * 262144 + b % 64 * 4096 + c % 64 * 64 + d % 64 : Nat) : Int) = true := by
      simp only [Utf8.valid, Bool.or_eq_true, Bool.and_eq_true, decide_eq_true_eq]
      split at hb <;> split at hb <;> omega
     obtain ⟨x, hx⟩ : ∃ x : Nat, x = a % 8 * 262144 + b % 64 * 4096 + c % 64 * 64 + d % 64 := ⟨_, rfl⟩
     simp only [← hx] at e4 e5 ⊢
     simp [e0, e0', e1, e2, e3, e3', hb.1.1, hc.1.2.1.1, hc.2.1.1, e4, e5]
    ·simp only [h4, if_false] at h
     exact absurd rfl h
theorem decode_wd (s : ByteArray) (i : Nat) (h : wd s i ≠ 0) : (Utf8.decode s i).2 = wd s i := by
 rw [dec_eq]
 exact decN_wd _ _ _ _ _ _ h
theorem wdN_shape (sz i a b c d : Nat) (h : wdN sz i a b c d ≠ 0) : (a < 128 ∨ 191 < a) ∧ (wdN sz i a b c d = 1 ∨ (wdN sz i a b c d = 2 ∧ i + 1 < sz ∧ 128 ≤ b ∧ b ≤ 191) ∨ (wdN sz i a b c d = 3 ∧ i + 2 < sz ∧ 128 ≤ b ∧ b ≤ 191 ∧ 128 ≤ c ∧ c ≤ 191) ∨ (wdN sz i a b c d = 4 ∧ i + 3 < sz ∧ 128 ≤ b ∧ b ≤ 191 ∧ 128 ≤ c ∧ c ≤ 191 ∧ 128 ≤ d ∧ d ≤ 191)) := by
 unfold wdN at h ⊢
 simp only at h ⊢
 by_cases h1 : a < 128
 ·simp [h1]
 ·simp only [h1, if_false] at h ⊢
  by_cases h2 : 194 ≤ a ∧ a ≤ 223
  ·simp only [h2, and_self, if_true] at h ⊢
   have hc := of_ite h
   rw [if_pos hc]
   simp only [Bool.and_eq_true, decide_eq_true_eq] at hc
   omega
  ·simp only [h2, if_false] at h ⊢
   by_cases h3 : 224 ≤ a ∧ a ≤ 239
   ·simp only [h3, and_self, if_true] at h ⊢
    have hc := of_ite h
    rw [if_pos hc]
    simp only [Bool.and_eq_true, decide_eq_true_eq] at hc
    have hb := hc.1
    have hb2 : 128 ≤ b ∧ b ≤ 191 := by split at hb <;> split at hb <;> omega
    omega
   ·simp only [h3, if_false] at h ⊢
    by_cases h4 : 240 ≤ a ∧ a ≤ 244
    ·simp only [h4, and_self, if_true] at h ⊢
     have hc := of_ite h
     rw [if_pos hc]
     simp only [Bool.and_eq_true, decide_eq_true_eq] at hc
     have hb := hc.1.1
     have hb2 : 128 ≤ b ∧ b ≤ 191 := by split at hb <;> split at hb <;> omega
     omega
    ·simp only [h4, if_false] at h
     exact absurd rfl h
def nc (s : ByteArray) : Nat → Nat → Nat
 | 0, _ => 0
 | k + 1, i => (if B s i < 128 ∨ 191 < B s i then 1 else 0) + nc s k (i + 1)
def okF (s : ByteArray) : Nat → Nat → Prop
 | 0, i => s.size ≤ i
 | f + 1, i => i < s.size → wd s i ≠ 0 ∧ okF s f (i + wd s i)
def rcF (s : ByteArray) : Nat → Nat → Nat
 | 0, _ => 0
 | f + 1, i => if i < s.size then 1 + rcF s f (i + (Utf8.decode s i).2) else 0
theorem rcF_nc (s : ByteArray) : ∀ (f i : Nat), okF s f i → rcF s f i = nc s (s.size - i) i
 | 0, i, h => by
  have : s.size - i = 0 := by have : s.size ≤ i := h; omega
  rw [this]; rfl
 | f + 1, i, h => by
  unfold rcF
  by_cases hi : i < s.size
  ·rw [if_pos hi]
   obtain ⟨h1, h2⟩ := h hi
   rw [decode_wd s i h1, rcF_nc s f _ h2]
   have hs := wdN_shape s.size i (B s i) (B s (i + 1)) (B s (i + 2)) (B s (i + 3)) h1
   have hw : wdN s.size i (B s i) (B s (i + 1)) (B s (i + 2)) (B s (i + 3)) = wd s i := rfl
   rw [hw] at hs
   obtain ⟨ha, hs⟩ := hs
   rcases hs with h | ⟨h, hi1, hb1, hb2⟩ | ⟨h, hi1, hb1, hb2, hc1, hc2⟩ | ⟨h, hi1, hb1, hb2, hc1, hc2, hd1, hd2⟩
   ·rw [h, show s.size - i = (s.size - (i + 1)) + 1 by omega]
    simp [nc, ha]
   ·rw [h, show s.size - i = (s.size - (i + 2)) + 1 + 1 by omega]
    have n1 : ¬ (B s (i + 1) < 128 ∨ 191 < B s (i + 1)) := by omega
    simp [nc, ha, n1]
   ·rw [h, show s.size - i = (s.size - (i + 3)) + 1 + 1 + 1 by omega]
    have n1 : ¬ (B s (i + 1) < 128 ∨ 191 < B s (i + 1)) := by omega
    have n2 : ¬ (B s (i + 1 + 1) < 128 ∨ 191 < B s (i + 1 + 1)) := by show ¬ (B s (i + 2) < 128 ∨ 191 < B s (i + 2)); omega
    simp [nc, ha, n1, n2]
   ·rw [h, show s.size - i = (s.size - (i + 4)) + 1 + 1 + 1 + 1 by omega]
    have n1 : ¬ (B s (i + 1) < 128 ∨ 191 < B s (i + 1)) := by omega
    have n2 : ¬ (B s (i + 1 + 1) < 128 ∨ 191 < B s (i + 1 + 1)) := by show ¬ (B s (i + 2) < 128 ∨ 191 < B s (i + 2)); omega
    have n3 : ¬ (B s (i + 1 + 1 + 1) < 128 ∨ 191 < B s (i + 1 + 1 + 1)) := by show ¬ (B s (i + 3) < 128 ∨ 191 < B s (i + 3)); omega
    simp [nc, ha, n1, n2, n3]
  ·rw [if_neg hi, show s.size - i = 0 by omega]
   rfl
theorem ba_beq (s k : ByteArray) : (s == k) = true ↔ s = k := by
 cases s; cases k
 rw [ByteArray.mk.injEq]
 show ((_ : Array UInt8) == _) = true ↔ _
 exact beq_iff_eq
instance lawfulBA : LawfulBEq ByteArray where
 eq_of_beq h := (ba_beq _ _).1 h
 rfl := (ba_beq _ _).2 rfl
section
variable {α : Type} [BEq α] [LawfulBEq α]
def dd : List α → List α
 | [] => []
 | x :: r => if r.elem x then dd r else x :: dd r
theorem mem_dd (x : α) : ∀ l : List α, x ∈ dd l ↔ x ∈ l
 | [] => by simp [dd]
 | y :: r => by
  unfold dd
  split
  ·rename_i h
   rw [mem_dd x r, List.mem_cons]
   have hy : y ∈ r := by simpa using h
   constructor
   ·exact .inr
   ·rintro (rfl | h)
    ·exact hy
    ·exact h
  ·rw [List.mem_cons, List.mem_cons, mem_dd x r]
theorem nodup_dd : ∀ l : List α, (dd l).Nodup
 | [] => by simp [dd]
 | y :: r => by
  unfold dd
  split
  ·exact nodup_dd r
  ·rename_i h
   have hy : y ∉ r := by simpa using h
   exact List.nodup_cons.2 ⟨by rw [mem_dd]; exact hy, nodup_dd r⟩
theorem len_le : ∀ (k l : List α), k.Nodup → (∀ x ∈ k, x ∈ l) → k.length ≤ l.length
 | [], l, _, _ => by simp
 | x :: k, l, hn, hs => by
  obtain ⟨h1, h2⟩ := List.nodup_cons.1 hn
  have hx : x ∈ l := hs x (by simp)
  have := len_le k (l.erase x) h2 (fun y hy => by
   have hne : y ≠ x := by intro e; subst e; exact h1 hy
   exact (List.mem_erase_of_ne hne).2 (hs y (by simp [hy])))
  rw [List.length_erase_of_mem hx] at this
  have hp : 0 < l.length := List.length_pos_of_mem hx
  simp only [List.length_cons]
  omega
theorem len_dd (k l : List α) (hn : k.Nodup) (hs : ∀ x, x ∈ k ↔ x ∈ l) : k.length = (dd l).length := by
 apply Nat.le_antisymm
 ·exact len_le k (dd l) hn (fun x hx => (mem_dd x l).2 ((hs x).1 hx))
 ·exact len_le (dd l) k (nodup_dd l) (fun x hx => (hs x).2 ((mem_dd x l).1 hx))
end
end Go.Proofs.YtlkikblohnnlcaaGreatDoor.U
end
section
namespace Go.Proofs.YtlkikblohnnlcaaGreatDoor.U
open Go
def from' (s : ByteArray) (n : Nat) : ByteArray := ⟨(s.data.toList.drop n).toArray⟩
theorem size_from (s : ByteArray) (n : Nat) : (from' s n).size = s.size - n := by
 show (s.data.toList.drop n).toArray.size = s.data.size - n
 simp
theorem B_from (s : ByteArray) (n i : Nat) : B (from' s n) i = B s (n + i) := by
 have h : ∀ (t : ByteArray) (j : Nat), B t j = (t.data.toList.getD j 0).toNat := by
  intro t j
  show (t.data[j]!).toNat = _
  simp only [List.getD_eq_getElem?_getD, Array.getElem?_toList]
  rw [getElem!_def]
  cases t.data[j]? <;> rfl
 rw [h, h]
 have : (from' s n).data.toList = s.data.toList.drop n := by simp [from']
 rw [this]
 simp [List.getD_eq_getElem?_getD]
theorem wd_from (s : ByteArray) (n i : Nat) (hn : n ≤ s.size) : wd (from' s n) i = wd s (n + i) := by
 unfold wd
 rw [B_from, B_from, B_from, B_from, size_from]
 unfold wdN
 have e : ∀ k, decide (i + k < s.size - n) = decide (n + i + k < s.size) := fun k => by
  congr 1
  apply propext
  omega
 simp only [e, Nat.add_assoc]
theorem okF_from (s : ByteArray) (n : Nat) (hn : n ≤ s.size) : ∀ (f i : Nat), okF s f (n + i) → okF (from' s n) f i
 | 0, i, h => by
  show (from' s n).size ≤ i
  have : s.size ≤ n + i := h
  rw [size_from]
  omega
 | f + 1, i, h => by
  intro hi
  rw [size_from] at hi
  obtain ⟨h1, h2⟩ := h (by omega)
  rw [wd_from s n i hn]
  refine ⟨h1, okF_from s n hn f _ ?_⟩
  rw [← Nat.add_assoc]
  exact h2
theorem nc_from (s : ByteArray) (n : Nat) : ∀ (k i : Nat), nc (from' s n) k i = nc s k (n + i)
 | 0, i => rfl
 | k + 1, i => by
  unfold nc
  rw [B_from, nc_from s n k (i + 1)]
  rfl
def asc (s : ByteArray) (n : Nat) : Prop := ∀ j, j < n → B s j < 128
theorem asc_succ {s : ByteArray} {m : Nat} (h : asc s m) (hb : B s m < 128) : asc s (m + 1) := by
 intro j hj
 by_cases e : j = m
 ·rw [e]
  exact hb
 ·exact h j (by omega)
theorem okF_asc (s : ByteArray) : ∀ (n : Nat), asc s n → n ≤ s.size → ∀ f, okF s (n + f) 0 → okF s f n
 | 0, _, _, f, h => by simpa using h
 | n + 1, ha, hn, f, h => by
  have h1 := okF_asc s n (fun j hj => ha j (by omega)) (by omega) (f + 1) (by rw [show n + (f + 1) = n + 1 + f by omega]; exact h)
  obtain ⟨_, h2⟩ := h1 (by omega)
  have hw : wd s n = 1 := by
   have := ha n (by omega)
   unfold wd wdN
   simp [this]
  rw [hw] at h2
  exact h2
theorem nc_asc (s : ByteArray) : ∀ (n k : Nat), asc s n → nc s (n + k) 0 = n + nc s k n
 | 0, k, _ => by simp
 | n + 1, k, ha => by
  have h1 := nc_asc s n (k + 1) (fun j hj => ha j (by omega))
  rw [show n + 1 + k = n + (k + 1) by omega, h1]
  have := ha n (by omega)
  simp only [nc, this, true_or, if_true]
  omega
theorem rcF_le (s : ByteArray) : ∀ (f i : Nat), rcF s f i ≤ f
 | 0, _ => Nat.le_refl _
 | f + 1, i => by
  unfold rcF
  split
  ·have := rcF_le s f (i + (Utf8.decode s i).2)
   omega
  ·omega
theorem width_pos (s : ByteArray) (p : Nat) (h : p < s.size) : 1 ≤ (Utf8.decode s p).2 := by
 by_cases ha : (s[p]'h).toNat < 128
 ·rw [decode_ascii s p h ha]
  exact Nat.le_refl _
 ·exact (decode_high s p h (by omega)).2
theorem count (s : ByteArray) (n : Nat) (ha : asc s n) (hn : n ≤ s.size) (h : okF s s.size 0) : n + rcF (from' s n) (from' s n).size 0 = nc s s.size 0 := by
 have h1 := okF_asc s n ha hn (s.size - n) (by rw [Nat.add_sub_cancel' hn]; exact h)
 have h2 := okF_from s n hn (s.size - n) 0 h1
 rw [rcF_nc (from' s n) _ 0 (by rw [size_from]; exact h2), Nat.sub_zero, nc_from, size_from]
 have := nc_asc s n (s.size - n) ha
 rw [Nat.add_sub_cancel' hn] at this
 rw [this, Nat.add_zero]
theorem count_all (s : ByteArray) (ha : asc s s.size) (h : okF s s.size 0) : s.size = nc s s.size 0 := by
 have h1 := count s s.size ha (Nat.le_refl _) h
 have h2 : (from' s s.size).size = 0 := by rw [size_from]; omega
 rw [h2] at h1
 simpa [rcF] using h1
end Go.Proofs.YtlkikblohnnlcaaGreatDoor.U
end
section
namespace Go.Proofs.YtlkikblohnnlcaaGreatDoor.X
open Go
set_option linter.unusedVariables false
abbrev Fm := List (Nat × Value)
def lk : Fm → Nat → Option Value
 | [], _ => none
 | (t, v) :: r, s => cond (Nat.beq t s) (some v) (lk r s)
def dl : Fm → Nat → Fm → Option Fm
 | [], _, acc => some acc
 | (t, v) :: r, s, acc => cond (Nat.beq t s) (dl r s acc) (dl r s ((t, v) :: acc))
def has : List Nat → Nat → Bool
 | [], _ => false
 | x :: r, s => cond (Nat.beq x s) true (has r s)
def kp : Fm → List Nat → Fm → Option Fm
 | [], _, acc => some acc
 | (t, v) :: r, ks, acc => cond (has ks t) (kp r ks ((t, v) :: acc)) (kp r ks acc)
theorem lk_mem {L : Fm} {t : Nat} {v : Value} (h : lk L t = some v) : (t, v) ∈ L := by
 induction L with
 | nil => cases h
 | cons e r ih =>
  obtain ⟨s, u⟩ := e
  unfold lk at h
  cases hb : Nat.beq s t with
  | true =>
   rw [hb] at h
   obtain rfl : u = v := by simpa using h
   obtain rfl : s = t := Nat.eq_of_beq_eq_true hb
   exact List.mem_cons_self
  | false =>
   rw [hb] at h
   exact List.mem_cons_of_mem _ (ih h)
theorem dl_spec : ∀ (L : Fm) (s : Nat) (acc L1 : Fm), dl L s acc = some L1 → ∀ e ∈ L1, e ∈ acc ∨ (e ∈ L ∧ e.1 ≠ s)
 | [], s, acc, L1, h, e, he => by
  obtain rfl : acc = L1 := by simpa [dl] using h
  exact .inl he
 | (t, v) :: r, s, acc, L1, h, e, he => by
  unfold dl at h
  cases hb : Nat.beq t s with
  | true =>
   rw [hb] at h
   rcases dl_spec r s acc L1 h e he with h1 | h1
   ·exact .inl h1
   ·exact .inr ⟨List.mem_cons_of_mem _ h1.1, h1.2⟩
  | false =>
   rw [hb] at h
   rcases dl_spec r s _ L1 h e he with h1 | h1
   ·rcases List.mem_cons.1 h1 with rfl | h1
    ·exact .inr ⟨List.mem_cons_self, Nat.ne_of_beq_eq_false hb⟩
    ·exact .inl h1
   ·exact .inr ⟨List.mem_cons_of_mem _ h1.1, h1.2⟩
theorem kp_spec : ∀ (L : Fm) (ks : List Nat) (acc L1 : Fm), kp L ks acc = some L1 → ∀ e ∈ L1, e ∈ acc ∨ e ∈ L
 | [], ks, acc, L1, h, e, he => by
  obtain rfl : acc = L1 := by simpa [kp] using h
  exact .inl he
 | (t, v) :: r, ks, acc, L1, h, e, he => by
  unfold kp at h
  cases hb : has ks t with
  | true =>
   rw [hb] at h
   rcases kp_spec r ks _ L1 h e he with h1 | h1
   ·rcases List.mem_cons.1 h1 with rfl | h1
    ·exact .inr List.mem_cons_self
    ·exact .inl h1
   ·exact .inr (List.mem_cons_of_mem _ h1)
  | false =>
   rw [hb] at h
   rcases kp_spec r ks acc L1 h e he with h1 | h1
   ·exact .inl h1
   ·exact .inr (List.mem_cons_of_mem _ h1)
structure Fr (a : Act) (n : Nat) (L : Fm) : Prop where
 size : a.tmps.size = n
 defers : a.defers = []
 get : ∀ e ∈ L, a.tmps[e.1]? = some e.2
def ev (L : Fm) : Operand → Option Value
 | .tmp t => lk L t
 | .const v => some v
 | .func f => some (.func (.func f) #[] #[])
 | .global g => some (.pointer (some ⟨g, 0, none⟩))
def evs (L : Fm) : List Operand → Option (List Value)
 | [] => some []
 | x :: r => match ev L x, evs L r with
  | some v, some vs => some (v :: vs)
  | _, _ => none
theorem Fr.lk {a : Act} {n : Nat} {L : Fm} (h : Fr a n L) {t : Nat} {v : Value} (hv : lk L t = some v) : a.tmps[t]? = some v := h.get (t, v) (lk_mem hv)
theorem Fr.ev {a : Act} {n : Nat} {L : Fm} (h : Fr a n L) {x : Operand} {v : Value} (hv : ev L x = some v) : a.eval x = v := by
 cases x with
 | tmp t => simp [Act.eval, h.lk (show X.lk L t = some v from hv)]
 | const u => simpa [X.ev, Act.eval] using hv
 | func f => simpa [X.ev, Act.eval] using hv
 | global g => simpa [X.ev, Act.eval] using hv
theorem Fr.evs {a : Act} {n : Nat} {L : Fm} (h : Fr a n L) : ∀ {xs : List Operand} {vs : List Value}, evs L xs = some vs → xs.map a.eval = vs
 | [], vs, hv => by simpa [X.evs] using hv
 | x :: r, vs, hv => by
  unfold X.evs at hv
  cases h1 : X.ev L x with
  | none => rw [h1] at hv; cases hv
  | some v =>
   cases h2 : X.evs L r with
   | none => rw [h1, h2] at hv; cases hv
   | some us =>
    rw [h1, h2] at hv
    simp only [Option.some.injEq] at hv
    rw [List.map_cons, h.ev h1, h.evs h2, hv]
theorem Fr.put {a : Act} {n : Nat} {L L1 : Fm} (h : Fr a n L) {d : Nat} {v : Value} (hn : Nat.ble (d + 1) n = true) (hL : dl L d [] = some L1) : Fr (a.put (some d) v) n ((d, v) :: L1) := by
 have hd : d < n := Nat.le_of_ble_eq_true hn
 refine ⟨by simp [Act.put, h.size], by simpa [Act.put] using h.defers, fun e he => ?_⟩
 rcases List.mem_cons.1 he with rfl | he
 ·simp [Act.put, h.size, hd]
 ·rcases dl_spec L d [] L1 hL e he with h1 | h1
  ·cases h1
  ·simp only [Act.put]
   rw [Array.getElem?_setIfInBounds_ne (Ne.symm h1.2)]
   exact h.get e h1.1
theorem Fr.keep {a : Act} {n : Nat} {L L1 : Fm} (h : Fr a n L) (ks : List Nat) (hL : kp L ks [] = some L1) : Fr a n L1 :=
 ⟨h.size, h.defers, fun e he => by
  rcases kp_spec L ks [] L1 hL e he with h1 | h1
  ·cases h1
  ·exact h.get e h1⟩
def wt (ops : Array Oper) (L : Fm) : Option (Nat × Bool) → Option Bool
 | none => some true
 | some (j, want) => match ((ops[j]?).bind (·.dst)).bind (lk L) with
  | some (.bool b) => some (b == want)
  | some _ => some false
  | none => none
theorem Fr.wt {a : Act} {n : Nat} {L : Fm} (h : Fr a n L) {ops : Array Oper} {o : Oper} {r : Bool} (hw : wt ops L o.guard = some r) : Region.wanted o (yielded ops a.tmps) = r := by
 unfold X.wt at hw
 unfold Region.wanted
 split at hw
 ·rename_i hg
  rw [hg]
  simpa using hw
 ·rename_i j want hg
  rw [hg]
  simp only [yielded]
  cases h1 : (ops[j]?).bind (·.dst) with
  | none => rw [h1] at hw; simp at hw
  | some t =>
   rw [h1] at hw
   simp only [Option.bind_some] at hw ⊢
   cases h2 : X.lk L t with
   | none => rw [h2] at hw; simp at hw
   | some v =>
    rw [h2] at hw
    rw [h.lk h2]
    cases v <;> simp at hw ⊢ <;> exact hw
section
variable {P : Program} {ops : Array Oper} {Q : Exit → Act → World → Prop} {rest : List Oper} {a : Act} {w w' : World} {n : Nat} {L L1 : Fm} {d : Nat} {v : Value} {o : Oper}
theorem x_core (hF : Fr a n L) (hd : o.dst = some d) (hg : wt ops L o.guard = some true) (hn : Nat.ble (d + 1) n = true) (hL : dl L d [] = some L1)
  (hr : (execOp a.eval o).run P w = .ok (.value v) w') (k : ∀ a', Fr a' n ((d, v) :: L1) → wpList P ops Q rest a' w') : wpList P ops Q (o :: rest) a w := by
 unfold wpList
 rw [if_pos (hF.wt hg)]
 refine .inl ?_
 unfold Oper.wp
 rw [hr, Oper.upon_value, hd]
 exact k _ (hF.put hn hL)
theorem x_core0 (hF : Fr a n L) (hd : o.dst = none) (hg : wt ops L o.guard = some true)
  (hr : (execOp a.eval o).run P w = .ok .skip w') (k : wpList P ops Q rest a w') : wpList P ops Q (o :: rest) a w := by
 unfold wpList
 rw [if_pos (hF.wt hg)]
 refine .inl ?_
 unfold Oper.wp
 rw [hr, Oper.upon_skip, hd]
 exact k
theorem x_off {op : Op} {ty : TypeId} {pos : String} {af : Array Edge} {g : Option (Nat × Bool)} (hF : Fr a n L) (hg : wt ops L g = some false) (hn : Nat.ble (d + 1) n = true) (hL : dl L d [] = some L1)
  (k : ∀ a', Fr a' n ((d, undef) :: L1) → wpList P ops Q rest a' w) : wpList P ops Q (⟨some d, op, ty, pos, af, g⟩ :: rest) a w := by
 unfold wpList
 rw [if_neg (by rw [hF.wt hg]; decide)]
 exact k _ (hF.put hn hL)
variable {ty : TypeId} {pos : String} {af : Array Edge} {g : Option (Nat × Bool)} {x y : Operand} {u : Value}
end
end Go.Proofs.YtlkikblohnnlcaaGreatDoor.X
end
section
namespace Go.Proofs.YtlkikblohnnlcaaGreatDoor.X
open Go Go.RowKit
set_option linter.unusedVariables false
abbrev Hm := List (Nat × Obj)
structure Hp (w0 w : World) (H : Hm) : Prop where
 below : Below w0.heap.size w0 w
 get : ∀ e ∈ H, w0.heap.size ≤ e.1 ∧ w.heap[e.1]? = some e.2
 nd : H.Pairwise (fun x y => x.1 ≠ y.1)
theorem Hp.start (w : World) : Hp w w [] := ⟨Below.refl _ _, (fun _ h => by cases h), List.Pairwise.nil⟩
theorem Hp.lt {w0 w : World} {H : Hm} (h : Hp w0 w H) {e : Nat × Obj} (he : e ∈ H) : e.1 < w.heap.size := (Array.getElem?_eq_some_iff.1 (h.get e he).2).1
theorem Hp.alloc {w0 w : World} {H : Hm} (h : Hp w0 w H) (o : Obj) : Hp w0 (w.alloc o) ((w.heap.size, o) :: H) := by
 refine ⟨h.below.alloc h.below.size o, fun e he => ?_, List.pairwise_cons.2 ⟨fun e he => ?_, h.nd⟩⟩
 ·rcases List.mem_cons.1 he with rfl | he
  ·exact ⟨h.below.size, Array.getElem?_push_size⟩
  ·have h1 := h.get e he
   have h2 := h.lt he
   refine ⟨h1.1, ?_⟩
   show (w.heap.push o)[e.1]? = some e.2
   rw [Array.getElem?_push_lt h2, ← h1.2, Array.getElem?_eq_getElem h2]
 ·have := h.lt he
  exact Nat.ne_of_gt this
theorem Hp.of_below {w0 w w' : World} {H : Hm} (h : Hp w0 w H) (hb : Below w.heap.size w w') : Hp w0 w' H := by
 refine ⟨⟨hb.os.trans h.below.os, hb.tape.trans h.below.tape, hb.output.trans h.below.output, Nat.le_trans h.below.size hb.size, fun i hi => ?_⟩, fun e he => ?_, h.nd⟩
 ·rw [hb.block i (Nat.lt_of_lt_of_le hi h.below.size), h.below.block i hi]
 ·have h1 := h.get e he
  exact ⟨h1.1, by rw [hb.block e.1 (h.lt he), h1.2]⟩
theorem Hp.drewN {w0 w : World} {H : Hm} (h : Hp w0 w H) (k : Nat) : Hp w0 (w.drewN k) H := h.of_below ⟨rfl, rfl, rfl, Nat.le_refl _, fun _ _ => rfl⟩
theorem Hp.app {w0 w w' : World} {H H' : Hm} (h : Hp w0 w H) (h' : Hp w w' H') : Hp w0 w' (H' ++ H) := by
 have h1 := h.of_below h'.below
 refine ⟨h1.below, fun e he => ?_, List.pairwise_append.2 ⟨h'.nd, h.nd, fun x hx y hy => ?_⟩⟩
 ·rcases List.mem_append.1 he with he | he
  ·exact ⟨Nat.le_trans h.below.size (h'.get e he).1, (h'.get e he).2⟩
  ·exact h1.get e he
 ·have a1 := (h'.get x hx).1
  have a2 := h.lt hy
  omega
def rv {α : Type} : List α → List α → Option (List α)
 | [], acc => some acc
 | x :: r, acc => rv r (x :: acc)
def sa {α : Type} : List α → Nat → α → List α → Option (List α)
 | [], _, _, acc => rv acc []
 | x :: r, 0, y, acc => rv acc (y :: r)
 | x :: r, i + 1, y, acc => sa r i y (x :: acc)
theorem rv_eq {α : Type} : ∀ (l acc l' : List α), rv l acc = some l' → l' = l.reverse ++ acc
 | [], acc, l', h => by simpa [rv] using h.symm
 | x :: r, acc, l', h => by
  have := rv_eq r (x :: acc) l' h
  simpa using this
theorem sa_eq {α : Type} : ∀ (l : List α) (i : Nat) (y : α) (acc l' : List α), sa l i y acc = some l' → l' = acc.reverse ++ l.set i y
 | [], i, y, acc, l', h => by simpa using rv_eq _ _ _ h
 | x :: r, 0, y, acc, l', h => by
  simpa using rv_eq _ _ _ h
 | x :: r, i + 1, y, acc, l', h => by
  have := sa_eq r i y (x :: acc) l' h
  simpa using this
theorem heap_setCell (w : World) (b j : Nat) (v : Value) (cs : List Value) (t : TypeId) (fr : Nat × Nat) (h : w.heap[b]? = some (.cells cs.toArray t fr)) :
  (w.setCell ⟨b, j, none⟩ v).heap[b]? = some (.cells (cs.set j v).toArray t fr) := by
 simp [World.setCell, Array.getElem?_modify, h]
theorem heap_setCell_ne (w : World) (b c j : Nat) (v : Value) (h : b ≠ c) : (w.setCell ⟨b, j, none⟩ v).heap[c]? = w.heap[c]? := by
 simp [World.setCell, Array.getElem?_modify, h]
theorem size_setCell (w : World) (x : Addr) (v : Value) : (w.setCell x v).heap.size = w.heap.size := by simp [World.setCell]
theorem Hp.setCell {w0 w : World} {H H' : Hm} (h : Hp w0 w H) {i b j : Nat} {v : Value} {cs cs' : List Value} {t : TypeId} {fr : Nat × Nat} (hi : H[i]? = some (b, .cells cs.toArray t fr))
  (hc : sa cs j v [] = some cs') (hH : sa H i (b, .cells cs'.toArray t fr) [] = some H') : Hp w0 (w.setCell ⟨b, j, none⟩ v) H' := by
 obtain rfl : cs' = cs.set j v := by simpa using sa_eq _ _ _ _ _ hc
 obtain rfl : H' = H.set i (b, .cells (cs.set j v).toArray t fr) := by simpa using sa_eq _ _ _ _ _ hH
 have hm : (b, Obj.cells cs.toArray t fr) ∈ H := List.mem_of_getElem? hi
 obtain ⟨hl, hie⟩ := List.getElem?_eq_some_iff.1 hi
 have hb := h.get _ hm
 refine ⟨⟨h.below.os, h.below.tape, h.below.output, by rw [size_setCell]; exact h.below.size, fun k hk => ?_⟩, fun e he => ?_, ?_⟩
 ·have : b ≠ k := by have := hb.1; simp only at this; omega
  rw [heap_setCell_ne w b k j v this]
  exact h.below.block k hk
 ·rcases List.mem_or_eq_of_mem_set he with he1 | rfl
  ·have h1 := h.get e he1
   refine ⟨h1.1, ?_⟩
   by_cases hbe : b = e.1
   ·obtain ⟨k, hk, hke⟩ := List.getElem_of_mem he
    rw [List.length_set] at hk
    by_cases hik : i = k
    ·subst hik
     rw [List.getElem_set_self] at hke
     subst hke
     exact heap_setCell w b j v cs t fr hb.2
    ·rw [List.getElem_set_ne hik] at hke
     exfalso
     have hp := List.pairwise_iff_getElem.1 h.nd
     rcases Nat.lt_or_ge i k with hlt | hge
     ·have := hp i k hl hk hlt
      rw [hie, hke] at this
      exact this hbe
     ·have := hp k i hk hl (by omega)
      rw [hie, hke] at this
      exact this hbe.symm
   ·rw [heap_setCell_ne w b e.1 j v hbe]
    exact h1.2
  ·exact ⟨hb.1, heap_setCell w b j v cs t fr hb.2⟩
 ·have hmap : (H.set i (b, Obj.cells (cs.set j v).toArray t fr)).map (·.1) = H.map (·.1) := by
   rw [List.map_set]
   apply List.ext_getElem?
   intro k
   by_cases hik : i = k
   ·subst hik
    rw [List.getElem?_set_self (by simpa using hl), List.getElem?_map, hi]
    rfl
   ·rw [List.getElem?_set_ne hik]
  have h1 : (H.map (·.1)).Pairwise (· ≠ ·) := List.pairwise_map.2 h.nd
  rw [← hmap] at h1
  exact List.pairwise_map.1 h1
theorem Hp.cell {w0 w : World} {H : Hm} (h : Hp w0 w H) {i b j : Nat} {v : Value} {cs : List Value} {t : TypeId} {fr : Nat × Nat} (hi : H[i]? = some (b, .cells cs.toArray t fr)) (hc : cs[j]? = some v) :
  w.cell? ⟨b, j, none⟩ = some v := by
 have := (h.get _ (List.mem_of_getElem? hi)).2
 simp only at this
 simp [World.cell?, this, hc]
theorem Hp.frozen {w0 w : World} {H : Hm} (h : Hp w0 w H) {i b j : Nat} {cs : List Value} {t : TypeId} (hi : H[i]? = some (b, .cells cs.toArray t (0, 0))) :
  w.frozen? ⟨b, j, none⟩ = false := by
 have := (h.get _ (List.mem_of_getElem? hi)).2
 simp only at this
 simp [World.frozen?, this]
theorem Hp.old {w0 w : World} {H : Hm} (h : Hp w0 w H) {ad : Addr} {v : Value} (hc : w0.cell? ad = some v) : w.cell? ad = some v :=
 (h.below.cell (World.block_lt_of_cell? w0 ad hc)).trans hc
theorem Hp.sub {w0 w : World} {H H' : Hm} (h : Hp w0 w H) (hs : H'.Sublist H) : Hp w0 w H' :=
 ⟨h.below, fun e he => h.get e (hs.subset he), h.nd.sublist hs⟩
section
variable {P : Program} {ops : Array Oper} {Q : Exit → Act → World → Prop} {rest : List Oper} {a : Act} {w0 w w' : World} {n : Nat} {L L1 : Fm} {d : Nat} {v : Value} {o : Oper} {H H' : Hm}
variable {ty : TypeId} {pos : String} {af : Array Edge} {g : Option (Nat × Bool)} {x y z : Operand} {u : Value}
def icmp : BinOp → Int → Int → Option Bool
 | .eql, a, b => some (a == b)
 | .neq, a, b => some (a != b)
 | .lss, a, b => some (decide (a < b))
 | .leq, a, b => some (decide (a ≤ b))
 | .gtr, a, b => some (decide (a > b))
 | .geq, a, b => some (decide (a ≥ b))
 | _, _, _ => none
def iarith : BinOp → IntKind → Int → Int → Option Int
 | .add, q, a, b => some (q.wrap (a + b))
 | .sub, q, a, b => some (q.wrap (a - b))
 | .mul, q, a, b => some (q.wrap (a * b))
 | _, _, _, _ => none
def scmp : BinOp → ByteArray → ByteArray → Option Bool
 | .eql, a, b => some (a.toList == b.toList)
 | .neq, a, b => some (!(a.toList == b.toList))
 | _, _, _ => none
def isNil : Value → Option Bool
 | .pointer none => some true
 | .pointer (some _) => some false
 | .slice none _ _ => some true
 | .slice (some _) _ _ => some false
 | .map none => some true
 | .map (some _) => some false
 | .nilIface => some true
 | .iface _ _ => some false
 | _ => none
def nilOf : TypeDesc → Value → Bool
 | .pointer _, .pointer none => true
 | .slice _, .slice none _ _ => true
 | .map _ _, .map none => true
 | .interface _, .nilIface => true
 | _, _ => false
def fitsNil : TypeDesc → Value → Bool
 | .pointer _, .pointer _ => true
 | .slice _, .slice _ _ _ => true
 | .map _ _, .map _ => true
 | .interface _, .nilIface => true
 | .interface _, .iface _ _ => true
 | _, _ => false
def ncmp : BinOp → Bool → Option Bool
 | .eql, t => some t
 | .neq, t => some (!t)
 | _, _ => none
theorem run_nil {T : TypeId} {D : TypeDesc} (hD : P.underlying T = some D) (u v : Value) (t : Bool) (hv : nilOf D v = true) (hu : fitsNil D u = true) (ht : isNil u = some t) (w : World) : (Op.equal T u v).run P w = .ok t w ∧ (Op.equal T v u).run P w = .ok t w := by
 have h : ∀ k : Nat, (Op.equalIn (k + 1) T u v).run P w = .ok t w ∧ (Op.equalIn (k + 1) T v u).run P w = .ok t w := by
  intro k
  unfold nilOf at hv
  split at hv
  ·unfold fitsNil at hu
   split at hu <;> simp_all
   rename_i o _
   cases o <;> simp [isNil] at ht <;> subst ht <;> simp [Op.equalIn, run_underlying hD]
  ·unfold fitsNil at hu
   split at hu <;> simp_all
   rename_i o _ _ _
   cases o <;> simp [isNil] at ht <;> subst ht <;> simp [Op.equalIn, run_underlying hD]
  ·unfold fitsNil at hu
   split at hu <;> simp_all
   rename_i o _
   cases o <;> simp [isNil] at ht <;> subst ht <;> simp [Op.equalIn, run_underlying hD]
  ·unfold fitsNil at hu
   split at hu <;> simp_all
   all_goals (simp [isNil] at ht; subst ht; simp [Op.equalIn, run_underlying hD])
  ·cases hv
 exact h 9999
end
end Go.Proofs.YtlkikblohnnlcaaGreatDoor.X
end
section
namespace Go.Proofs.YtlkikblohnnlcaaGreatDoor.X
open Go Go.RowKit
set_option linter.unusedVariables false
def scalB (P : Program) (T : TypeId) : Bool := match P.underlying T with
 | some (.struct _) => false
 | some (.array _ _) => false
 | some _ => true
 | none => false
def sizeB (P : Program) (T n : Nat) : Bool := match P.info? T with
 | some i => i.size == n
 | none => false
def fieldB (P : Program) (T f off : Nat) : Bool := match P.underlying T with
 | some (.struct fs) => match fs[f]? with
  | some fl => fl.offset == off && (match P.info? fl.type with | some i => !(i.size == 0) | none => false)
  | none => false
 | _ => false
def aggB (P : Program) (T n : Nat) : Bool := (match P.underlying T with
 | some (.struct _) => true
 | some (.array _ _) => true
 | _ => false) && sizeB P T n
theorem run_isAgg_scal {P : Program} {T : TypeId} (h : scalB P T = true) (w : World) : (isAgg T).run P w = .ok false w := by
 unfold scalB at h
 cases hu : P.underlying T with
 | none => rw [hu] at h; cases h
 | some D =>
  rw [hu] at h
  unfold isAgg
  simp only [Sem.run_bind, run_underlying hu, Result.andThen_ok]
  cases D <;> simp_all
theorem run_sizeOf {P : Program} {T n : Nat} (h : sizeB P T n = true) (w : World) : (sizeOf T).run P w = .ok n w := by
 unfold sizeB at h
 cases hi : P.info? T with
 | none => rw [hi] at h; cases h
 | some i =>
  rw [hi] at h
  have : i.size = n := by simpa using h
  simp [sizeOf, typeInfo, hi, this]
theorem run_isAgg_agg {P : Program} {T n : Nat} (h : aggB P T n = true) (w : World) : (isAgg T).run P w = .ok true w := by
 unfold aggB at h
 rw [Bool.and_eq_true] at h
 obtain ⟨h, _⟩ := h
 cases hu : P.underlying T with
 | none => rw [hu] at h; cases h
 | some D =>
  rw [hu] at h
  unfold isAgg
  simp only [Sem.run_bind, run_underlying hu, Result.andThen_ok]
  cases D <;> simp_all
theorem run_fieldAt {P : Program} {T f off b j : Nat} (h : fieldB P T f off = true) (w : World) : (Instr.fieldAt T (.pointer (some ⟨b, j, none⟩)) f).run P w = .ok (.pointer (some ⟨b, j + off, none⟩)) w := by
 unfold fieldB at h
 cases hu : P.underlying T with
 | none => rw [hu] at h; cases h
 | some D =>
  rw [hu] at h
  cases D <;> simp at h
  rename_i fs
  cases hf : fs[f]? with
  | none => rw [hf] at h; simp at h
  | some fl =>
   rw [hf] at h
   dsimp only at h
   cases hi : P.info? fl.type with
   | none => rw [hi] at h; simp at h
   | some i =>
    rw [hi] at h
    simp only [Bool.and_eq_true, beq_iff_eq, Bool.not_eq_true', beq_eq_false_iff_ne] at h
    obtain ⟨rfl, hz⟩ := h
    have hadd : (⟨b, j, none⟩ : Addr).add fl.offset = ⟨b, j + fl.offset, none⟩ := by
     unfold Addr.add
     split
     ·rename_i h0; rw [h0]; rfl
     ·rfl
    simp [Instr.fieldAt, run_underlying hu, hf, Instr.sureAddr, fieldPlace, sizeOf, typeInfo, hi, hz, hadd]
theorem addr_add (b j k : Nat) : (⟨b, j, none⟩ : Addr).add k = ⟨b, j + k, none⟩ := by
 unfold Addr.add
 split
 ·rename_i h0; rw [h0]; rfl
 ·rfl
theorem run_loadCells {P : Program} (w : World) (b j : Nat) (vs : List Value) (h : ∀ i v, vs[i]? = some v → w.cell? ⟨b, j + i, none⟩ = some v) :
  ∀ (k i : Nat) (acc : Array Value), i + k = vs.length → (loadCellsFrom ⟨b, j, none⟩ i k acc).run P w = .ok (acc ++ (vs.drop i).toArray) w
 | 0, i, acc, hk => by
  have : vs.drop i = [] := List.drop_eq_nil_of_le (by omega)
  simp [loadCellsFrom, this]
 | k + 1, i, acc, hk => by
  have hi : i < vs.length := by omega
  have hc := h i vs[i] (List.getElem?_eq_getElem hi)
  have ih := run_loadCells (P := P) w b j vs h k (i + 1) (acc.push vs[i]) (by omega)
  unfold loadCellsFrom
  rw [addr_add]
  simp only [load, Sem.run_bind, Sem.run, hc, Result.andThen_ok]
  rw [ih]
  congr 1
  rw [List.drop_eq_getElem_cons hi]
  simp
def cut {α : Type} : List α → Nat → Nat → List α → Option (List α)
 | _, 0, 0, acc => rv acc []
 | [], _, _, _ => none
 | _ :: r, i + 1, k, acc => cut r i k acc
 | x :: r, 0, k + 1, acc => cut r 0 k (x :: acc)
theorem cut_eq {α : Type} : ∀ (l : List α) (i k : Nat) (acc l' : List α), cut l i k acc = some l' → ∃ m, l' = acc.reverse ++ m ∧ m.length = k ∧ ∀ q v, m[q]? = some v → l[i + q]? = some v := by
 intro l
 induction l with
 | nil =>
  intro i k acc l' h
  cases i with
  | succ i => simp [cut] at h
  | zero =>
   cases k with
   | succ k => simp [cut] at h
   | zero =>
    have := rv_eq _ _ _ (show rv acc [] = some l' by simpa [cut] using h)
    exact ⟨[], by simpa using this, rfl, fun q v hq => by simp at hq⟩
 | cons x r ih =>
  intro i k acc l' h
  cases i with
  | succ i =>
   obtain ⟨m, h1, h2, h3⟩ := ih i k acc l' (by simpa [cut] using h)
   exact ⟨m, h1, h2, fun q v hq => by rw [show i + 1 + q = (i + q) + 1 by omega]; simpa using h3 q v hq⟩
  | zero =>
   cases k with
   | zero =>
    have := rv_eq _ _ _ (show rv acc [] = some l' by simpa [cut] using h)
    exact ⟨[], by simpa using this, rfl, fun q v hq => by simp at hq⟩
   | succ k =>
    obtain ⟨m, h1, h2, h3⟩ := ih 0 k (x :: acc) l' (by simpa [cut] using h)
    refine ⟨x :: m, by simpa using h1, by simpa using h2, fun q v hq => ?_⟩
    cases q with
    | zero => simpa using hq
    | succ q => simpa using h3 q v (by simpa using hq)
section
variable {P : Program} {ops : Array Oper} {Q : Exit → Act → World → Prop} {rest : List Oper} {a : Act} {w0 w w' : World} {n : Nat} {L L1 : Fm} {d : Nat} {v : Value} {o : Oper} {H H' : Hm}
variable {ty : TypeId} {pos : String} {af : Array Edge} {g : Option (Nat × Bool)} {x y z : Operand} {u : Value}
theorem run_loadVar_scal {T : TypeId} {ad : Addr} (hT : scalB P T = true) (hc : w.cell? ad = some v) : (loadVar T ad).run P w = .ok v w := by
 simp [loadVar, run_isAgg_scal hT, load, Sem.run, hc]
def one : Value → Bool
 | .agg _ => false
 | .tuple _ => false
 | _ => true
theorem run_storeVar_one {T b j : Nat} (hs : sizeB P T 1 = true) (hv : one v = true) (hc : w.cell? ⟨b, j, none⟩ = some u) (hf : w.frozen? ⟨b, j, none⟩ = false) :
  (storeVar T ⟨b, j, none⟩ v).run P w = .ok () (w.setCell ⟨b, j, none⟩ v) := by
 have hcells : v.cells = #[v] := by cases v <;> simp [one] at hv <;> rfl
 simp only [storeVar, Sem.run_bind, run_sizeOf hs, Result.andThen_ok, hcells]
 simp only [List.size_toArray, List.length_cons, List.length_nil, ne_eq, not_true_eq_false, if_false, storeCells, addr_add, Nat.add_zero, Sem.run_bind]
 cases v <;> simp [one] at hv <;> simp [store, Sem.run, hc, hf]
theorem run_newVar (T : TypeId) (v : Value) (w : World) : (newVar T v).run P w = .ok ⟨w.heap.size, 0, none⟩ (w.alloc (.cells v.cells T)) := by
 simp [newVar, newRow, newObj, Sem.run, World.alloc_eq]
theorem x_box {T : TypeId} (hF : Fr a n L) (hH : Hp w0 w H) (hg : wt ops L g = some true) (hn : Nat.ble (d + 1) n = true) (hL : dl L d [] = some L1)
  (hx : ev L x = some v)
  (k : ∀ a' b w', Fr a' n ((d, .pointer (some ⟨b, 0, none⟩)) :: L1) → Hp w0 w' ((b, .cells v.cells T) :: H) → wpList P ops Q rest a' w') : wpList P ops Q (⟨some d, .box T x, ty, pos, af, g⟩ :: rest) a w :=
 x_core (v := .pointer (some ⟨w.heap.size, 0, none⟩)) (w' := w.alloc (.cells v.cells T)) hF rfl hg hn hL (by simp [execOp, hF.ev hx, Instr.box, run_newVar]) (fun a' hF' => k a' _ _ hF' (hH.alloc _))
def evp (L : Fm) : List (Nat × Operand) → Option (List (Nat × Value))
 | [] => some []
 | (i, x) :: r => match ev L x, evp L r with
  | some v, some vs => some ((i, v) :: vs)
  | _, _ => none
theorem Fr.evp (h : Fr a n L) : ∀ {xs : List (Nat × Operand)} {vs : List (Nat × Value)}, evp L xs = some vs → xs.map (fun p => (p.1, a.eval p.2)) = vs
 | [], vs, hv => by simpa [X.evp] using hv
 | (i, x) :: r, vs, hv => by
  unfold X.evp at hv
  cases h1 : X.ev L x with
  | none => rw [h1] at hv; cases hv
  | some v =>
   cases h2 : X.evp L r with
   | none => rw [h1, h2] at hv; cases hv
   | some us =>
    rw [h1, h2] at hv
    simp only [Option.some.injEq] at hv
    rw [List.map_cons, h.ev h1, h.evp h2, hv]
theorem nil_forms {D : TypeDesc} (hv : nilOf D v = true) : v = .pointer none ∨ (∃ l c, v = .slice none l c) ∨ v = .map none ∨ v = .nilIface := by
 unfold nilOf at hv
 split at hv
 ·exact .inl rfl
 ·exact .inr (.inl ⟨_, _, rfl⟩)
 ·exact .inr (.inr (.inl rfl))
 ·exact .inr (.inr (.inr rfl))
 ·cases hv
def callB (P : Program) (f : FuncId) : Bool := match P.funcs[f]? with
 | some fn => !(fn.name == "runtime.NumGoroutine") && !fn.body.isNone
 | none => false
theorem x_call {f : FuncId} {args : List Operand} {vs : List Value} {ts : Array TypeId} {R : Ending → World → Prop} (hF : Fr a n L) (hg : wt ops L g = some true) (hn : Nat.ble (d + 1) n = true) (hL : dl L d [] = some L1)
  (hx : evs L args = some vs) (hf : callB P f = true) (hc : Calls P f vs.toArray w R)
  (k : ∀ e w', R e w' → ∃ v, e = .returned v ∧ ∀ a', Fr a' n ((d, v) :: L1) → wpList P ops Q rest a' w') : wpList P ops Q (⟨some d, .call { callee := .value (.func f), args := args.toArray, argTypes := ts }, ty, pos, af, g⟩ :: rest) a w := by
 unfold wpList
 rw [if_pos (hF.wt (o := ⟨some d, .call { callee := .value (.func f), args := args.toArray, argTypes := ts }, ty, pos, af, g⟩) hg)]
 refine .inl ?_
 unfold callB at hf
 cases hfn : P.funcs[f]? with
 | none => rw [hfn] at hf; cases hf
 | some fn =>
  rw [hfn] at hf
  simp only [Bool.and_eq_true, Bool.not_eq_true'] at hf
  have hargs : args.toArray.map a.eval = vs.toArray := by rw [List.map_toArray]; exact congrArg _ (hF.evs hx)
  have hr : (execOp a.eval ⟨some d, .call { callee := .value (.func f), args := args.toArray, argTypes := ts }, ty, pos, af, g⟩).run P w = .ok (.enter f vs.toArray) w := by
   simp only [execOp, resolve, Sem.run_bind, hargs]
   have h1 : ¬ fn.name = "runtime.NumGoroutine" := by have := hf.1; simpa using this
   have h2 : ¬ fn.body = none := by have := hf.2; intro e; rw [e] at this; cases this
   simp [Act.eval, Deferred.ofValue, invoke, callFunc, program, Sem.run, hfn, h1, h2]
  unfold Oper.wp
  rw [hr, Oper.upon_enter]
  refine hc.mono ?_
  intro e w' hR
  obtain ⟨v, rfl, hk⟩ := k e w' hR
  exact hk _ (hF.put hn hL)
theorem c_seq {A B : Code} (h : ∀ K : Act → World → Prop, (∀ a w, B.wp P Q a w → K a w) → A.wp P (Exit.then K Q) a w) : (Code.seq A B).wp P Q a w := wp_seq_k h
theorem c_true {A B : Code} (hF : Fr a n L) (hx : ev L x = some (.bool true)) (h : A.wp P Q a w) : (Code.cond x A B).wp P Q a w := wp_cond_true (hF.ev hx) h
theorem c_false {A B : Code} (hF : Fr a n L) (hx : ev L x = some (.bool false)) (h : B.wp P Q a w) : (Code.cond x A B).wp P Q a w := wp_cond_false (hF.ev hx) h
theorem c_ret1 {fn : Func} {R : Ending → World → Prop} {t : Tmp} (hF : Fr a n L) (hres : fn.results = #[.tmp t]) (hx : lk L t = some v) (hR : R (.returned v) w) : bodyPost P fn R .ret a w :=
 ⟨hF.defers, v, by rw [results_tmp hres]; simp [hF.lk hx], hR⟩
theorem c_ret2 {fn : Func} {R : Ending → World → Prop} {t s : Tmp} (hF : Fr a n L) (hres : fn.results = #[.tmp t, .tmp s]) (hx : lk L t = some u) (hy : lk L s = some v) (hR : R (.returned (.tuple #[u, v])) w) : bodyPost P fn R .ret a w :=
 ⟨hF.defers, _, by rw [results_tmp2 hres]; simp [hF.lk hx, hF.lk hy], hR⟩
theorem c_end0 {fn : Func} {R : Ending → World → Prop} (hF : Fr a n L) (hres : fn.results = #[]) (hR : R (.returned (.tuple #[])) w) : bodyPost P fn R .normal a w :=
 ⟨hF.defers, _, results_none hres _ _ _, hR⟩
theorem c_ret0 {fn : Func} {R : Ending → World → Prop} (hF : Fr a n L) (hres : fn.results = #[]) (hR : R (.returned (.tuple #[])) w) : bodyPost P fn R .ret a w :=
 ⟨hF.defers, _, results_none hres _ _ _, hR⟩
def nums : List Value → Nat → Fm → Option Fm
 | [], _, acc => some acc
 | v :: r, i, acc => nums r (i + 1) ((i, v) :: acc)
theorem nums_spec : ∀ (vs : List Value) (i : Nat) (acc L : Fm), nums vs i acc = some L → ∀ e ∈ L, e ∈ acc ∨ (i ≤ e.1 ∧ vs[e.1 - i]? = some e.2)
 | [], i, acc, L, h, e, he => by
  obtain rfl : acc = L := by simpa [nums] using h
  exact .inl he
 | v :: r, i, acc, L, h, e, he => by
  unfold nums at h
  rcases nums_spec r (i + 1) _ L h e he with h1 | ⟨h1, h2⟩
  ·rcases List.mem_cons.1 h1 with rfl | h1
   ·exact .inr ⟨Nat.le_refl _, by simp⟩
   ·exact .inl h1
  ·refine .inr ⟨by omega, ?_⟩
   rw [show e.1 - i = (e.1 - (i + 1)) + 1 by omega]
   simpa using h2
theorem c_enter {f : FuncId} {fn : Func} {c : Code} {vs : List Value} {R : Ending → World → Prop} (hf : P.funcs[f]? = some fn) (hb : fn.body = some c) (hn : fn.ntmps = n) (hle : Nat.ble vs.length n = true) (hL : nums vs 0 [] = some L)
  (h : ∀ a, Fr a n L → c.wp P (bodyPost P fn R) a w) : Calls P f vs.toArray w R := by
 refine calls_of_wp hf hb (h _ ⟨?_, rfl, fun e he => ?_⟩)
 ·have := Nat.le_of_ble_eq_true hle
  simp [hn]
  omega
 ·rcases nums_spec vs 0 [] L hL e he with h1 | ⟨_, h2⟩
  ·cases h1
  ·simp only [Nat.sub_zero] at h2
   have hl := (List.getElem?_eq_some_iff.1 h2).1
   rw [Array.getElem?_append_left (by simpa using hl)]
   simpa using h2
end
end Go.Proofs.YtlkikblohnnlcaaGreatDoor.X
end
section
namespace Go.Proofs.YtlkikblohnnlcaaGreatDoor.X
open Go Go.RowKit
set_option linter.unusedVariables false
def tb {α : Type} : List (Nat × α) → Nat → Option α
 | [], _ => none
 | (t, v) :: r, s => cond (Nat.beq t s) (some v) (tb r s)
theorem tb_mem {α : Type} : ∀ {l : List (Nat × α)} {t : Nat} {v : α}, tb l t = some v → (t, v) ∈ l
 | [], _, _, h => by cases h
 | (s, u) :: r, t, v, h => by
  unfold tb at h
  cases hb : Nat.beq s t with
  | true =>
   rw [hb] at h
   obtain rfl : u = v := by simpa using h
   obtain rfl : s = t := Nat.eq_of_beq_eq_true hb
   exact List.mem_cons_self
  | false =>
   rw [hb] at h
   exact List.mem_cons_of_mem _ (tb_mem h)
theorem tb_all {α : Type} {l : List (Nat × α)} {p : Nat × α → Bool} (ha : l.all p = true) {t : Nat} {v : α} (h : tb l t = some v) : p (t, v) = true := List.all_eq_true.1 ha _ (tb_mem h)
def tabSt : List (Nat × List (Nat × Nat)) := [(7, [(0, 1), (1, 1), (2, 1), (3, 1)]), (8, [(0, 1), (1, 1), (2, 1), (3, 1)]), (13, [(0, 1), (1, 1)]), (14, [(0, 1), (1, 1)]), (18, [(0, 1)]), (19, [(0, 1)]), (22, [(0, 1), (1, 1)]), (23, [(0, 1), (1, 1)]), (26, [(0, 1), (1, 1), (2, 1), (3, 1), (4, 1), (5, 1)]), (27, [(0, 1), (1, 1), (2, 1), (3, 1), (4, 1), (5, 1)]), (35, [(0, 1), (1, 1)]), (36, [(0, 1), (1, 1)]), (40, [(0, 1), (1, 1)]), (41, [(0, 1), (1, 1)]), (43, [(0, 1), (1, 1), (2, 1), (3, 1), (4, 1), (5, 1), (6, 1), (7, 1), (8, 1), (9, 1), (10, 1), (11, 1), (12, 1), (13, 2), (15, 2), (17, 2), (19, 2), (21, 2), (23, 2), (25, 2), (27, 2), (29, 1), (30, 1), (31, 1), (32, 1), (33, 1), (34, 2), (36, 2), (38, 1), (39, 1), (40, 1), (41, 1), (42, 1), (43, 2), (45, 1), (46, 1), (47, 1), (48, 1), (49, 1), (50, 2), (52, 1)]), (44, [(0, 1), (1, 1), (2, 1), (3, 1), (4, 1), (5, 1), (6, 1), (7, 1), (8, 1), (9, 1), (10, 1), (11, 1), (12, 1), (13, 2), (15, 2), (17, 2), (19, 2), (21, 2), (23, 2), (25, 2), (27, 2), (29, 1), (30, 1), (31, 1), (32, 1), (33, 1), (34, 2), (36, 2), (38, 1), (39, 1), (40, 1), (41, 1), (42, 1), (43, 2), (45, 1), (46, 1), (47, 1), (48, 1), (49, 1), (50, 2), (52, 1)]), (49, [(0, 1), (1, 1), (2, 1), (3, 1), (4, 1), (5, 1), (6, 1), (7, 1)]), (50, [(0, 1), (1, 1), (2, 1), (3, 1), (4, 1), (5, 1), (6, 1), (7, 1)]), (63, [(0, 1), (1, 1)]), (64, [(0, 1), (1, 1)]), (82, [(0, 1), (1, 1), (2, 1), (3, 1), (4, 1)]), (83, [(0, 1), (1, 1), (2, 1), (3, 1), (4, 1)]), (95, [(0, 1), (1, 1), (2, 1)]), (96, [(0, 1), (1, 1), (2, 1)]), (114, [(0, 1), (1, 1), (2, 1), (3, 1), (4, 1), (5, 1), (6, 1), (7, 1), (8, 1), (9, 1), (10, 1), (11, 1), (12, 1), (13, 1), (14, 1), (15, 1), (16, 1), (17, 1), (18, 1), (19, 1), (20, 1), (21, 1), (22, 1), (23, 1), (24, 1), (25, 1), (26, 1), (27, 1), (28, 1), (29, 1), (30, 1), (31, 1), (32, 1), (33, 1), (34, 1), (35, 1), (36, 1), (37, 1), (38, 1), (39, 1), (40, 1), (41, 1), (42, 1), (43, 1), (44, 1), (45, 1), (46, 1), (47, 1), (48, 1), (49, 1), (50, 1), (51, 1), (52, 1)]), (115, [(0, 1), (1, 1), (2, 1), (3, 1), (4, 1), (5, 1), (6, 1), (7, 1), (8, 1), (9, 1), (10, 1), (11, 1), (12, 1), (13, 1), (14, 1), (15, 1), (16, 1), (17, 1), (18, 1), (19, 1), (20, 1), (21, 1), (22, 1), (23, 1), (24, 1), (25, 1), (26, 1), (27, 1), (28, 1), (29, 1), (30, 1), (31, 1), (32, 1), (33, 1), (34, 1), (35, 1), (36, 1), (37, 1), (38, 1), (39, 1), (40, 1), (41, 1), (42, 1), (43, 1), (44, 1), (45, 1), (46, 1), (47, 1), (48, 1), (49, 1), (50, 1), (51, 1), (52, 1)]), (124, [(0, 1), (1, 1), (2, 1), (3, 1)]), (125, [(0, 1), (1, 1), (2, 1), (3, 1)]), (138, [(0, 1), (1, 1)]), (139, [(0, 1), (1, 1)]), (164, [(0, 1)]), (165, [(0, 1)]), (167, [(0, 1), (1, 1)]), (168, [(0, 1), (1, 1)]), (170, [(0, 1), (1, 1)]), (171, [(0, 1), (1, 1)]), (175, [(0, 1), (1, 1), (2, 1), (3, 1)]), (176, [(0, 1), (1, 1), (2, 1), (3, 1)]), (179, [(0, 1), (1, 1), (2, 1), (3, 1), (4, 1), (5, 1), (6, 1)]), (180, [(0, 1), (1, 1), (2, 1), (3, 1), (4, 1), (5, 1), (6, 1)]), (186, [(0, 1)]), (187, [(0, 1)]), (189, [(0, 1), (1, 1)]), (190, [(0, 1), (1, 1)]), (192, [(0, 1)]), (193, [(0, 1)]), (195, [(0, 1), (1, 1)]), (196, [(0, 1), (1, 1)]), (198, [(0, 1), (1, 1)]), (200, [(0, 1)]), (201, [(0, 1)]), (204, [(0, 1)]), (205, [(0, 1)]), (207, [(0, 1), (1, 1)]), (208, [(0, 1), (1, 1)]), (211, [(0, 1)]), (212, [(0, 1)]), (215, [(0, 2)]), (216, [(0, 2)]), (218, [(0, 1)]), (219, [(0, 1)]), (221, [(0, 1), (1, 1)]), (222, [(0, 1), (1, 1)]), (224, [(0, 1), (1, 1)]), (239, [(0, 1), (1, 1), (2, 1)]), (240, [(0, 1), (1, 1), (2, 1)]), (255, [(0, 1), (1, 1)]), (256, [(0, 1), (1, 1)]), (260, [(0, 1), (1, 1)]), (261, [(0, 1), (1, 1)]), (262, []), (266, []), (270, [(0, 1), (1, 1), (2, 1)]), (271, [(0, 1), (1, 1), (2, 1)]), (274, [(0, 1)]), (275, [(0, 1)]), (280, [(0, 1), (1, 1)]), (281, [(0, 1), (1, 1)]), (282, [(0, 1), (1, 1)]), (283, [(0, 1), (1, 1)]), (285, [(0, 1), (1, 1)]), (286, [(0, 1), (1, 1)]), (288, [(0, 1), (1, 1), (2, 1)]), (289, [(0, 1), (1, 1), (2, 1)]), (294, []), (297, [(0, 1), (1, 1)]), (298, [(0, 1), (1, 1)]), (300, [(0, 1), (1, 1)]), (302, [(0, 1), (1, 1)]), (304, [(0, 1), (1, 1)]), (306, [(0, 1), (1, 1)]), (308, [(0, 1), (1, 1)]), (331, [(0, 1)]), (332, [(0, 1)]), (357, []), (359, [(0, 1), (1, 1)]), (360, [(0, 1), (1, 1)]), (361, []), (362, []), (363, []), (396, [(0, 1), (1, 1), (2, 1), (3, 1)]), (397, [(0, 1), (1, 1), (2, 1), (3, 1)]), (408, [(0, 1), (1, 1), (2, 1), (3, 1), (4, 1), (5, 1), (6, 1), (7, 1), (8, 1), (9, 1), (10, 1)]), (409, [(0, 1), (1, 1), (2, 1), (3, 1), (4, 1), (5, 1), (6, 1), (7, 1), (8, 1), (9, 1), (10, 1)])]
def tabK : List (Nat × Nat) := [(2, 5), (3, 5), (4, 6), (5, 5), (6, 5), (9, 4), (10, 4), (11, 4), (12, 5), (15, 0), (16, 0), (17, 0), (20, 3), (21, 5), (24, 1), (25, 1), (31, 1), (32, 1), (34, 1), (37, 1), (38, 1), (39, 1), (42, 1), (48, 1), (58, 1), (59, 1), (62, 1), (70, 0), (72, 0), (74, 3), (75, 3), (99, 1), (100, 1), (101, 0), (102, 0), (103, 0), (104, 0), (105, 0), (106, 0), (107, 2), (108, 2), (109, 2), (110, 2), (111, 3), (112, 3), (113, 1), (121, 3), (122, 3), (123, 1), (159, 5), (163, 0), (174, 0), (177, 0), (183, 0), (185, 0), (188, 0), (191, 0), (194, 0), (197, 0), (199, 0), (203, 0), (206, 0), (209, 0), (213, 0), (217, 0), (220, 0), (223, 0), (230, 5), (251, 5), (258, 2), (259, 2), (263, 0), (265, 0), (268, 0), (273, 0), (279, 0), (284, 0), (287, 0), (296, 0), (299, 0), (301, 0), (303, 0), (305, 0), (307, 0), (309, 0), (310, 0), (311, 0), (312, 0), (313, 0), (315, 5), (322, 5), (324, 5), (330, 0), (335, 1), (338, 7), (341, 7), (342, 5), (343, 5), (344, 5), (345, 1), (370, 5), (388, 0), (402, 5), (403, 5), (405, 0), (406, 5), (407, 5)]
def tabEl : List (Nat × (Nat × Nat)) := [(24, (9, 1)), (25, (27, 6)), (31, (44, 53)), (32, (44, 53)), (34, (3, 1)), (37, (168, 2)), (38, (139, 2)), (39, (171, 2)), (42, (240, 3)), (48, (50, 8)), (58, (4, 1)), (59, (4, 1)), (62, (83, 5)), (99, (70, 1)), (100, (70, 1)), (113, (20, 1)), (123, (72, 1)), (335, (5, 1)), (345, (251, 1))]
def tabZ : List (Nat × List Value) := [(2, [.int .i64 0]), (3, [.int .i64 0]), (4, [.bool false]), (5, [.int .u8 0]), (6, [.int .u8 0]), (7, [.int .i64 0, .int .i64 0, .bool false, .int .u8 0]), (8, [.int .i64 0, .int .i64 0, .bool false, .int .u8 0]), (9, [.string ⟨#[]⟩]), (10, [.string ⟨#[]⟩]), (11, [.string ⟨#[]⟩]), (12, [.int .u64 0]), (13, [.string ⟨#[]⟩, .int .u64 0]), (14, [.string ⟨#[]⟩, .int .u64 0]), (15, [.pointer none]), (16, [.pointer none]), (17, [.pointer none]), (18, [.pointer none]), (19, [.pointer none]), (20, [.nilIface]), (21, [.int .i32 0]), (22, [.bool false, .int .i64 0]), (23, [.bool false, .int .i64 0]), (24, [.slice none 0 0]), (25, [.slice none 0 0]), (26, [.int .i64 0, .bool false, .int .i64 0, .string ⟨#[]⟩, .slice none 0 0, .slice none 0 0]), (27, [.int .i64 0, .bool false, .int .i64 0, .string ⟨#[]⟩, .slice none 0 0, .slice none 0 0]), (31, [.slice none 0 0]), (32, [.slice none 0 0]), (34, [.slice none 0 0]), (35, [.bool false, .slice none 0 0]), (36, [.bool false, .slice none 0 0]), (37, [.slice none 0 0]), (38, [.slice none 0 0]), (39, [.slice none 0 0]), (40, [.int .i64 0, .int .i64 0]), (41, [.int .i64 0, .int .i64 0]), (42, [.slice none 0 0]), (43, .int .i64 0 :: .int .i64 0 :: .slice none 0 0 :: .slice none 0 0 :: .slice none 0 0 :: .int .i64 0 :: .int .i64 0 :: .int .i64 0 :: .int .i64 0 :: .slice none 0 0 :: .bool false :: .slice none 0 0 :: .slice none 0 0 :: .bool false :: .int .i64 0 :: .bool false :: .int .i64 0 :: .bool false :: .slice none 0 0 :: .bool false :: .slice none 0 0 :: .bool false :: .int .i64 0 :: .bool false :: .int .i64 0 :: .bool false :: .int .i64 0 :: .bool false :: .int .i64 0 :: .bool false :: .slice none 0 0 :: .int .i64 0 :: .int .i64 0 :: .int .i64 0 :: .bool false :: .int .i64 0 :: .bool false :: .int .i64 0 :: .slice none 0 0 :: .slice none 0 0 :: .slice none 0 0 :: .slice none 0 0 :: .slice none 0 0 :: .int .i64 0 :: .int .i64 0 :: .int .i64 0 :: .int .i64 0 :: .int .i64 0 :: .bool false :: .slice none 0 0 :: .int .i64 0 :: .int .i64 0 :: .slice none 0 0 :: []), (44, .int .i64 0 :: .int .i64 0 :: .slice none 0 0 :: .slice none 0 0 :: .slice none 0 0 :: .int .i64 0 :: .int .i64 0 :: .int .i64 0 :: .int .i64 0 :: .slice none 0 0 :: .bool false :: .slice none 0 0 :: .slice none 0 0 :: .bool false :: .int .i64 0 :: .bool false :: .int .i64 0 :: .bool false :: .slice none 0 0 :: .bool false :: .slice none 0 0 :: .bool false :: .int .i64 0 :: .bool false :: .int .i64 0 :: .bool false :: .int .i64 0 :: .bool false :: .int .i64 0 :: .bool false :: .slice none 0 0 :: .int .i64 0 :: .int .i64 0 :: .int .i64 0 :: .bool false :: .int .i64 0 :: .bool false :: .int .i64 0 :: .slice none 0 0 :: .slice none 0 0 :: .slice none 0 0 :: .slice none 0 0 :: .slice none 0 0 :: .int .i64 0 :: .int .i64 0 :: .int .i64 0 :: .int .i64 0 :: .int .i64 0 :: .bool false :: .slice none 0 0 :: .int .i64 0 :: .int .i64 0 :: .slice none 0 0 :: []), (48, [.slice none 0 0]), (49, [.string ⟨#[]⟩, .string ⟨#[]⟩, .slice none 0 0, .slice none 0 0, .string ⟨#[]⟩, .slice none 0 0, .slice none 0 0, .slice none 0 0]), (50, [.string ⟨#[]⟩, .string ⟨#[]⟩, .slice none 0 0, .slice none 0 0, .string ⟨#[]⟩, .slice none 0 0, .slice none 0 0, .slice none 0 0]), (58, [.slice none 0 0]), (59, [.slice none 0 0]), (62, [.slice none 0 0]), (63, [.slice none 0 0, .slice none 0 0]), (64, [.slice none 0 0, .slice none 0 0]), (70, [.pointer none]), (72, [.pointer none]), (74, [.nilIface]), (75, [.nilIface]), (82, [.slice none 0 0, .slice none 0 0, .slice none 0 0, .slice none 0 0, .slice none 0 0]), (83, [.slice none 0 0, .slice none 0 0, .slice none 0 0, .slice none 0 0, .slice none 0 0]), (95, [.bool false, .string ⟨#[]⟩, .int .i64 0]), (96, [.bool false, .string ⟨#[]⟩, .int .i64 0]), (99, [.slice none 0 0]), (100, [.slice none 0 0]), (101, [.pointer none]), (102, [.pointer none]), (103, [.pointer none]), (104, [.pointer none]), (105, [.pointer none]), (106, [.pointer none]), (107, [.map none]), (108, [.map none]), (109, [.map none]), (110, [.map none]), (111, [.nilIface]), (112, [.nilIface]), (113, [.slice none 0 0]), (114, .bool false :: .bool false :: .int .i64 0 :: .int .i64 0 :: .string ⟨#[]⟩ :: .pointer none :: .string ⟨#[]⟩ :: .pointer none :: .string ⟨#[]⟩ :: .pointer none :: .pointer none :: .pointer none :: .pointer none :: .slice none 0 0 :: .slice none 0 0 :: .slice none 0 0 :: .pointer none :: .pointer none :: .pointer none :: .pointer none :: .pointer none :: .pointer none :: .slice none 0 0 :: .pointer none :: .map none :: .map none :: .nilIface :: .map none :: .map none :: .map none :: .pointer none :: .pointer none :: .pointer none :: .bool false :: .pointer none :: .pointer none :: .pointer none :: .nilIface :: .nilIface :: .slice none 0 0 :: .pointer none :: .pointer none :: .pointer none :: .pointer none :: .nilIface :: .string ⟨#[]⟩ :: .string ⟨#[]⟩ :: .pointer none :: .string ⟨#[]⟩ :: .bool false :: .bool false :: .slice none 0 0 :: .bool false :: []), (115, .bool false :: .bool false :: .int .i64 0 :: .int .i64 0 :: .string ⟨#[]⟩ :: .pointer none :: .string ⟨#[]⟩ :: .pointer none :: .string ⟨#[]⟩ :: .pointer none :: .pointer none :: .pointer none :: .pointer none :: .slice none 0 0 :: .slice none 0 0 :: .slice none 0 0 :: .pointer none :: .pointer none :: .pointer none :: .pointer none :: .pointer none :: .pointer none :: .slice none 0 0 :: .pointer none :: .map none :: .map none :: .nilIface :: .map none :: .map none :: .map none :: .pointer none :: .pointer none :: .pointer none :: .bool false :: .pointer none :: .pointer none :: .pointer none :: .nilIface :: .nilIface :: .slice none 0 0 :: .pointer none :: .pointer none :: .pointer none :: .pointer none :: .nilIface :: .string ⟨#[]⟩ :: .string ⟨#[]⟩ :: .pointer none :: .string ⟨#[]⟩ :: .bool false :: .bool false :: .slice none 0 0 :: .bool false :: []), (121, [.nilIface]), (122, [.nilIface]), (123, [.slice none 0 0]), (124, [.string ⟨#[]⟩, .slice none 0 0, .nilIface, .slice none 0 0]), (125, [.string ⟨#[]⟩, .slice none 0 0, .nilIface, .slice none 0 0]), (138, [.string ⟨#[]⟩, .int .i64 0]), (139, [.string ⟨#[]⟩, .int .i64 0]), (159, [.int .i64 0]), (163, [.pointer none]), (164, [.slice none 0 0]), (165, [.slice none 0 0]), (167, [.string ⟨#[]⟩, .slice none 0 0]), (168, [.string ⟨#[]⟩, .slice none 0 0]), (170, [.slice none 0 0, .int .i64 0]), (171, [.slice none 0 0, .int .i64 0]), (174, [.pointer none]), (175, [.pointer none, .string ⟨#[]⟩, .int .i64 0, .pointer none]), (176, [.pointer none, .string ⟨#[]⟩, .int .i64 0, .pointer none]), (177, [.pointer none]), (179, [.nilIface, .slice none 0 0, .pointer none, .pointer none, .pointer none, .slice none 0 0, .bool false]), (180, [.nilIface, .slice none 0 0, .pointer none, .pointer none, .pointer none, .slice none 0 0, .bool false]), (183, [.pointer none]), (185, [.pointer none]), (186, [.string ⟨#[]⟩]), (187, [.string ⟨#[]⟩]), (188, [.pointer none]), (189, [.string ⟨#[]⟩, .slice none 0 0]), (190, [.string ⟨#[]⟩, .slice none 0 0]), (191, [.pointer none]), (192, [.slice none 0 0]), (193, [.slice none 0 0]), (194, [.pointer none]), (195, [.string ⟨#[]⟩, .slice none 0 0]), (196, [.string ⟨#[]⟩, .slice none 0 0]), (197, [.pointer none]), (198, [.string ⟨#[]⟩, .slice none 0 0]), (199, [.pointer none]), (200, [.slice none 0 0]), (201, [.slice none 0 0]), (203, [.pointer none]), (204, [.string ⟨#[]⟩]), (205, [.string ⟨#[]⟩]), (206, [.pointer none]), (207, [.string ⟨#[]⟩, .string ⟨#[]⟩]), (208, [.string ⟨#[]⟩, .string ⟨#[]⟩]), (209, [.pointer none]), (211, [.slice none 0 0]), (212, [.slice none 0 0]), (213, [.pointer none]), (215, [.int .i64 0, .int .i64 0]), (216, [.int .i64 0, .int .i64 0]), (217, [.pointer none]), (218, [.int .i64 0]), (219, [.int .i64 0]), (220, [.pointer none]), (221, [.slice none 0 0, .int .i64 0]), (222, [.slice none 0 0, .int .i64 0]), (223, [.pointer none]), (224, [.slice none 0 0, .int .i64 0]), (230, [.int .u64 0]), (239, [.string ⟨#[]⟩, .slice none 0 0, .int .i64 0]), (240, [.string ⟨#[]⟩, .slice none 0 0, .int .i64 0]), (251, [.int .i64 0]), (255, [.string ⟨#[]⟩, .nilFunc]), (256, [.string ⟨#[]⟩, .nilFunc]), (258, [.map none]), (259, [.map none]), (260, [.map none, .map none]), (261, [.map none, .map none]), (262, []), (263, [.pointer none]), (265, [.pointer none]), (266, []), (268, [.pointer none]), (270, [.string ⟨#[]⟩, .string ⟨#[]⟩, .string ⟨#[]⟩]), (271, [.string ⟨#[]⟩, .string ⟨#[]⟩, .string ⟨#[]⟩]), (273, [.pointer none]), (274, [.nilIface]), (275, [.nilIface]), (279, [.pointer none]), (280, [.nilIface, .nilIface]), (281, [.nilIface, .nilIface]), (282, [.slice none 0 0, .int .i64 0]), (283, [.slice none 0 0, .int .i64 0]), (284, [.pointer none]), (285, [.nilIface, .slice none 0 0]), (286, [.nilIface, .slice none 0 0]), (287, [.pointer none]), (288, [.nilIface, .string ⟨#[]⟩, .nilIface]), (289, [.nilIface, .string ⟨#[]⟩, .nilIface]), (294, []), (296, [.pointer none]), (297, [.int .i64 0, .int .i64 0]), (298, [.int .i64 0, .int .i64 0]), (299, [.pointer none]), (300, [.int .i64 0, .int .i64 0]), (301, [.pointer none]), (302, [.int .i64 0, .int .i64 0]), (303, [.pointer none]), (304, [.int .i64 0, .int .i64 0]), (305, [.pointer none]), (306, [.int .i64 0, .int .i64 0]), (307, [.pointer none]), (308, [.int .i64 0, .int .i64 0]), (309, [.pointer none]), (310, [.pointer none]), (311, [.pointer none]), (312, [.pointer none]), (313, [.pointer none]), (315, [.int .i64 0]), (322, [.int .u32 0]), (324, [.int .u64 0]), (330, [.pointer none]), (331, [.string ⟨#[]⟩]), (332, [.string ⟨#[]⟩]), (335, [.slice none 0 0]), (338, [.float .f64 0]), (341, [.float .f32 0]), (342, [.int .i8 0]), (343, [.int .i16 0]), (344, [.int .u16 0]), (345, [.slice none 0 0]), (357, []), (359, [.string ⟨#[]⟩, .string ⟨#[]⟩]), (360, [.string ⟨#[]⟩, .string ⟨#[]⟩]), (361, []), (362, []), (363, []), (370, [.int .u64 0]), (388, [.pointer none]), (396, [.pointer none, .pointer none, .pointer none, .string ⟨#[]⟩]), (397, [.pointer none, .pointer none, .pointer none, .string ⟨#[]⟩]), (399, []), (400, []), (402, [.int .u8 0]), (403, [.int .u8 0]), (405, [.pointer none]), (406, [.int .i32 0]), (407, [.int .i32 0]), (408, [.int .u64 0, .int .u64 0, .int .u32 0, .int .u8 0, .int .u8 0, .int .u8 0, .int .u8 0, .nilFunc, .pointer none, .int .i32 0, .int .i32 0]), (409, [.int .u64 0, .int .u64 0, .int .u32 0, .int .u8 0, .int .u8 0, .int .u8 0, .int .u8 0, .nilFunc, .pointer none, .int .i32 0, .int .i32 0])]
def kOf : TypeDesc → Nat
 | .pointer _ => 0
 | .slice _ => 1
 | .map _ _ => 2
 | .interface _ => 3
 | .string => 4
 | .int _ => 5
 | .bool => 6
 | .float _ => 7
 | _ => 8
noncomputable def kOk (e : Nat × Nat) : Bool := match Tryz.prog.underlying e.1 with
 | some D => Nat.beq (kOf D) e.2 && Nat.blt e.2 8 && sizeB Tryz.prog e.1 1
 | none => false
noncomputable def stOk (e : Nat × List (Nat × Nat)) : Bool := match Tryz.prog.underlying e.1 with
 | some (.struct fs) => match fs.toList.mapM (fun f => (Tryz.prog.info? f.type).map fun i => (f.offset, i.size)) with
  | some pl => (pl == e.2) && e.2.all (fun x => !(x.2 == 0))
  | none => false
 | _ => false
noncomputable def elOk (e : Nat × (Nat × Nat)) : Bool := match Tryz.prog.underlying e.1 with
 | some (.slice t) => Nat.beq t e.2.1 && sizeB Tryz.prog t e.2.2
 | _ => false
def isZ : Value → List Value → Bool
 | .agg a, l => reprEq a.toList l
 | v, [u] => eqv v u
 | _, _ => false
where
 eqv : Value → Value → Bool
  | .int k m, .int k' m' => decide (k = k') && decide (m = m')
  | .bool b, .bool b' => b == b'
  | .string ⟨⟨[]⟩⟩, .string ⟨⟨[]⟩⟩ => true
  | .pointer none, .pointer none => true
  | .slice none 0 0, .slice none 0 0 => true
  | .map none, .map none => true
  | .nilIface, .nilIface => true
  | .nilFunc, .nilFunc => true
  | .float k m, .float k' m' => decide (k = k') && decide (m = m')
  | _, _ => false
 reprEq : List Value → List Value → Bool
  | [], [] => true
  | v :: r, u :: r' => eqv v u && reprEq r r'
  | _, _ => false
noncomputable def zOk (e : Nat × List Value) : Bool := match Tryz.prog.info? e.1 with
 | some i => match i.zero with
  | some z => isZ z e.2
  | none => false
 | none => false
theorem allK : tabK.all kOk = true := by kernel_rfl
theorem allSt : tabSt.all stOk = true := by kernel_rfl
theorem allEl : tabEl.all elOk = true := by kernel_rfl
theorem allZ : tabZ.all zOk = true := by kernel_rfl
end Go.Proofs.YtlkikblohnnlcaaGreatDoor.X
end
section
namespace Go.Proofs.YtlkikblohnnlcaaGreatDoor.X
open Go Go.RowKit
set_option linter.unusedVariables false
def lb : List UInt8 → List UInt8 → Bool
 | [], [] => true
 | x :: r, y :: s => cond (Nat.beq x.toNat y.toNat) (lb r s) false
 | _, _ => false
theorem lb_eq : ∀ (l m : List UInt8), (l == m) = lb l m
 | [], [] => rfl
 | [], y :: s => rfl
 | x :: r, [] => rfl
 | x :: r, y :: s => by
  unfold lb
  rw [List.cons_beq_cons, lb_eq r s]
  cases hb : Nat.beq x.toNat y.toNat with
  | true =>
   have : x = y := UInt8.toNat_inj.1 (Nat.eq_of_beq_eq_true hb)
   simp [this]
  | false =>
   have : x ≠ y := fun h => Nat.ne_of_beq_eq_false hb (by rw [h])
   simp [this]
theorem lb_iff {a b : ByteArray} : lb a.data.toList b.data.toList = true ↔ a = b := by
 rw [← lb_eq, beq_iff_eq]
 constructor
 ·intro h
  cases a; cases b
  simp only at h
  congr
  exact Array.toList_inj.1 h
 ·intro h; rw [h]
def scmp' : BinOp → ByteArray → ByteArray → Option Bool
 | .eql, a, b => some (lb a.data.toList b.data.toList)
 | .neq, a, b => some (!(lb a.data.toList b.data.toList))
 | _, _, _ => none
theorem scmp'_eq {op : BinOp} {a b : ByteArray} : scmp' op a b = scmp op a b := by
 cases op <;> simp only [scmp', scmp] <;> rw [ByteArray.toList_eq, ByteArray.toList_eq, lb_eq]
def nilK : Nat → Value → Bool
 | 0, .pointer none => true
 | 1, .slice none _ _ => true
 | 2, .map none => true
 | 3, .nilIface => true
 | _, _ => false
def fitsK : Nat → Value → Bool
 | 0, .pointer _ => true
 | 1, .slice _ _ _ => true
 | 2, .map _ => true
 | 3, .nilIface => true
 | 3, .iface _ _ => true
 | _, _ => false
theorem nilK_of {D : TypeDesc} {v : Value} (h : nilK (kOf D) v = true) : nilOf D v = true := by
 cases D <;> simp only [kOf] at h <;> unfold nilK at h <;> split at h <;> simp_all [nilOf]
theorem fitsK_of {D : TypeDesc} {v : Value} (h : fitsK (kOf D) v = true) : fitsNil D v = true := by
 cases D <;> simp only [kOf] at h <;> unfold fitsK at h <;> split at h <;> simp_all [fitsNil]
def peB (op : BinOp) (T : Nat) : Value → Bool → Value → Option Value
 | .int k m, _, .int k' m' => cond (decide (k = k')) (match icmp op m m' with
   | some t => some (.bool t)
   | none => match iarith op k m m' with
    | some r => some (.int k r)
    | none => none) none
 | .string s, _, .string s' => match scmp' op s s' with
   | some t => some (.bool t)
   | none => none
 | u, true, v => match tb tabK T with
  | some k => cond (nilK k v && fitsK k u) (match isNil u with
   | some t => match ncmp op t with
    | some r => some (.bool r)
    | none => none
   | none => none) none
  | none => none
 | _, _, _ => none
def isC : Operand → Bool
 | .const _ => true
 | _ => false
def vc : Value → List Value
 | .agg a => a.toList
 | v => [v]
def ins : List Value → Nat → List Value → Option (List Value)
 | cs, _, [] => some cs
 | cs, off, v :: r => match sa cs off v [] with
  | some cs' => ins cs' (off + 1) r
  | none => none
def fl (pl : List (Nat × Nat)) : List Value → List (Nat × Value) → Option (List Value)
 | cs, [] => some cs
 | cs, (i, v) :: r => match pl[i]? with
  | some (off, sz) => cond (Nat.beq (vc v).length sz && Nat.ble (off + sz) cs.length) (match ins cs off (vc v) with
   | some cs' => fl pl cs' r
   | none => none) none
  | none => none
def peAssert (T : Nat) (ok : Bool) : Value → Option Value
 | .iface t v => cond (Nat.beq t T) (some (cond ok (.tuple #[v, .bool true]) v)) (cond ok (match tb tabZ T with
   | some [z] => some (.tuple #[z, .bool false])
   | _ => none) none)
 | .nilIface => cond ok (match tb tabZ T with
   | some [z] => some (.tuple #[z, .bool false])
   | _ => none) none
 | _ => none
def peLen (T : Nat) : Value → Option Value
 | .slice _ m _ => match tb tabK T with
  | some 1 => some (.int .i64 m)
  | _ => none
 | .string s => match tb tabK T with
  | some 4 => some (.int .i64 s.size)
  | _ => none
 | _ => none
def pe (L : Fm) : Op → Option Value
 | .move x => ev L x
 | .assign x => ev L x
 | .pick c x y => match ev L c with
  | some (.bool true) => ev L x
  | some (.bool false) => ev L y
  | _ => none
 | .nilCheck x => match ev L x with
  | some (.pointer (some ad)) => some (.pointer (some ad))
  | some (.iface t v) => some (.iface t v)
  | _ => none
 | .extract x i => match ev L x with
  | some (.tuple vs) => vs.toList[i]?
  | _ => none
 | .unOp .not _ x => match ev L x with
  | some (.bool t) => some (.bool (!t))
  | _ => none
 | .binOp op T x y _ => match ev L x, ev L y with
  | some u, some v => peB op T u (isC y) v
  | _, _ => none
 | .fieldAddr T x f => match ev L x with
  | some (.pointer (some ⟨b, j, none⟩)) => match tb tabSt T with
   | some fs => match fs[f]? with
    | some (off, _) => some (.pointer (some ⟨b, j + off, none⟩))
    | none => none
   | none => none
  | _ => none
 | .makeInterface T x => match ev L x with
  | some v => match tb tabK T with
   | some k => cond (Nat.beq k 3) none (some (.iface T v))
   | none => none
  | none => none
 | .typeAssert x _ T ok => match ev L x with
  | some v => match tb tabK T with
   | some k => cond (Nat.beq k 3) none (peAssert T ok v)
   | none => none
  | none => none
 | .build T parts => match tb tabSt T with
  | some pl => match tb tabZ T with
   | some z => match evp L parts.toList with
    | some ps => match fl pl z ps with
     | some cs => some (.agg cs.toArray)
     | none => none
    | none => none
   | none => none
  | none => none
 | .call ⟨.builtin .len, ⟨[x]⟩, ⟨[T]⟩⟩ => match ev L x with
  | some v => peLen T v
  | none => none
 | _ => none
variable {a : Act} {n : Nat} {L : Fm} {v : Value} {dst : Option Tmp} {ty : TypeId} {pos : String} {af : Array Edge} {g : Option (Nat × Bool)}
theorem und_of_k {T k : Nat} (h : tb tabK T = some k) : ∃ D, Tryz.prog.underlying T = some D ∧ kOf D = k ∧ k < 8 ∧ sizeB Tryz.prog T 1 = true := by
 have h1 := tb_all allK h
 unfold kOk at h1
 dsimp only at h1
 cases hu : Tryz.prog.underlying T with
 | none => rw [hu] at h1; cases h1
 | some D =>
  rw [hu] at h1
  simp only [Bool.and_eq_true] at h1
  exact ⟨D, rfl, Nat.eq_of_beq_eq_true h1.1.1, Nat.le_of_ble_eq_true h1.1.2, h1.2⟩
theorem scal_of_k {T k : Nat} (h : tb tabK T = some k) : scalB Tryz.prog T = true := by
 obtain ⟨D, hu, hk, hlt, _⟩ := und_of_k h
 unfold scalB
 rw [hu]
 cases D <;> simp_all [kOf]
 all_goals omega
theorem field_of {T f off sz : Nat} {fs : List (Nat × Nat)} (h : tb tabSt T = some fs) (hf : fs[f]? = some (off, sz)) : fieldB Tryz.prog T f off = true := by
 have h1 := tb_all allSt h
 unfold stOk at h1
 dsimp only at h1
 unfold fieldB
 cases hu : Tryz.prog.underlying T with
 | none => rw [hu] at h1; cases h1
 | some D =>
  rw [hu] at h1
  cases D <;> simp only [Bool.false_eq_true] at h1
  rename_i fields
  cases hm : fields.toList.mapM (fun f => (Tryz.prog.info? f.type).map fun i => (f.offset, i.size)) with
  | none => rw [hm] at h1; cases h1
  | some pl =>
   rw [hm] at h1
   simp only [Bool.and_eq_true, beq_iff_eq] at h1
   obtain ⟨rfl, hz⟩ := h1
   have hz1 := List.all_eq_true.1 hz _ (List.mem_of_getElem? hf)
   have hg : ∀ (l : List Field) (pl : List (Nat × Nat)), l.mapM (fun f => (Tryz.prog.info? f.type).map fun i => (f.offset, i.size)) = some pl → ∀ (f : Nat), pl[f]? = some (off, sz) → ∃ (fl : Field) (i : TypeInfo), l[f]? = some fl ∧ fl.offset = off ∧ Tryz.prog.info? fl.type = some i ∧ i.size = sz := by
    intro l
    induction l with
    | nil => intro pl hpl f hf; simp at hpl; subst hpl; simp at hf
    | cons x r ih =>
     intro pl hpl f hf
     simp only [List.mapM_cons, Option.bind_eq_bind, Option.pure_def] at hpl
     cases hi : Tryz.prog.info? x.type with
     | none => simp [hi] at hpl
     | some i =>
      cases hr : r.mapM (fun f => (Tryz.prog.info? f.type).map fun i => (f.offset, i.size)) with
      | none => simp [hi, hr] at hpl
      | some rest =>
       simp [hi, hr] at hpl
       subst hpl
       cases f with
       | zero =>
        simp at hf
        exact ⟨x, i, by simp, hf.1, hi, hf.2⟩
       | succ f => simpa using ih rest hr f (by simpa using hf)
   obtain ⟨fl, i, h1, h2, h3, h4⟩ := hg _ _ hm f hf
   have : fields[f]? = some fl := by simpa using h1
   simp only [this, h3]
   simp at hz1
   simp [h2, h4, hz1]
theorem zero_of {T : Nat} {l : List Value} (h : tb tabZ T = some l) : ∃ i z, Tryz.prog.info? T = some i ∧ i.zero = some z ∧ ((∃ l', l = l' ∧ z = .agg l'.toArray) ∨ (l = [z] ∧ one z = true)) := by
 have h1 := tb_all allZ h
 unfold zOk at h1
 dsimp only at h1
 cases hi : Tryz.prog.info? T with
 | none => rw [hi] at h1; cases h1
 | some i =>
  rw [hi] at h1
  dsimp only at h1
  cases hz : i.zero with
  | none => rw [hz] at h1; cases h1
  | some z =>
   rw [hz] at h1
   dsimp only at h1
   refine ⟨i, z, rfl, hz, ?_⟩
   have he : ∀ u v, isZ.eqv u v = true → u = v ∧ one v = true := by
    intro u v h
    unfold isZ.eqv at h
    split at h <;> simp_all [one]
   have hr : ∀ l l', isZ.reprEq l l' = true → l = l' := by
    intro l
    induction l with
    | nil => intro l' h; cases l' <;> simp [isZ.reprEq] at h ⊢
    | cons x r ih =>
     intro l' h
     cases l' with
     | nil => simp [isZ.reprEq] at h
     | cons y s =>
      simp only [isZ.reprEq, Bool.and_eq_true] at h
      rw [(he _ _ h.1).1, ih s h.2]
   unfold isZ at h1
   split at h1
   ·rename_i a l
    refine .inl ⟨_, rfl, ?_⟩
    rw [← hr _ _ h1]
   ·rename_i u _
    have := he _ _ h1
    exact .inr ⟨by rw [this.1], by rw [this.1]; exact this.2⟩
   ·cases h1
noncomputable def kz (e : Nat × Nat) : Bool := match Tryz.prog.info? e.1 with
 | some i => match i.zero with
  | some (.agg _) => false
  | _ => true
 | none => true
theorem allKz : tabK.all kz = true := by kernel_rfl
theorem cells_vc (v : Value) : v.cells = (vc v).toArray := by cases v <;> simp [Value.cells, vc]
theorem ins_eq : ∀ (vs cs : List Value) (off k : Nat) (cs' : List Value), ins cs (off + k) vs = some cs' → (vs.zipIdx k).foldl (fun (c : Array Value) (p : Value × Nat) => c.setIfInBounds (off + p.2) p.1) cs.toArray = cs'.toArray
 | [], cs, off, k, cs', h => by
  obtain rfl : cs = cs' := by simpa [ins] using h
  rfl
 | v :: r, cs, off, k, cs', h => by
  unfold ins at h
  cases h1 : sa cs (off + k) v [] with
  | none => rw [h1] at h; cases h
  | some c1 =>
   rw [h1] at h
   have := sa_eq _ _ _ _ _ h1
   simp only [List.reverse_nil, List.nil_append] at this
   rw [List.zipIdx_cons, List.foldl_cons]
   have e : cs.toArray.setIfInBounds (off + k) v = c1.toArray := by rw [this]; simp
   simp only [e]
   exact ins_eq r c1 off (k + 1) cs' h
theorem fl_eq (pl : List (Nat × Nat)) : ∀ (ps : List (Nat × Value)) (cs cs' : List Value), fl pl cs ps = some cs' → Instr.fill (pl.toArray[·]?) cs.toArray ps = some cs'.toArray
 | [], cs, cs', h => by
  obtain rfl : cs = cs' := by simpa [fl] using h
  rfl
 | (i, v) :: r, cs, cs', h => by
  unfold fl at h
  cases hp : pl[i]? with
  | none => rw [hp] at h; cases h
  | some p =>
   obtain ⟨off, sz⟩ := p
   rw [hp] at h
   dsimp only at h
   cases hc : (Nat.beq (vc v).length sz && Nat.ble (off + sz) cs.length) with
   | false => rw [hc] at h; cases h
   | true =>
    rw [hc] at h
    dsimp only [cond] at h
    rw [Bool.and_eq_true] at hc
    have h1 := Nat.eq_of_beq_eq_true hc.1
    have h2 := Nat.le_of_ble_eq_true hc.2
    cases hi : ins cs off (vc v) with
    | none => rw [hi] at h; cases h
    | some c1 =>
     rw [hi] at h
     have he := ins_eq (vc v) cs off 0 c1 (by simpa using hi)
     unfold Instr.fill
     have hp' : pl.toArray[i]? = some (off, sz) := by simpa using hp
     simp only [hp']
     rw [cells_vc]
     simp only [List.size_toArray, ne_eq, Bool.or_eq_true, decide_eq_true_eq]
     rw [if_neg (by omega)]
     have : (vc v).toArray.zipIdx = ((vc v).zipIdx 0).toArray := by simp
     rw [this, List.foldl_toArray, he]
     exact fl_eq pl r c1 cs' h
theorem eqGuard_c {op : BinOp} {T : Nat} {x y : Operand} {u v : Value} (hu : ∀ c, u ≠ .agg c) (hy : isC y = true) (w : World) : (eqGuard op T x y u v).run Tryz.prog w = .ok () w := by
 cases y <;> simp [isC] at hy
 unfold eqGuard
 cases op <;> cases u <;> cases v <;> simp_all
theorem peB_eq {op : BinOp} {T T' : Nat} {x y : Operand} {u w1 : Value} (hx : ev L x = some u) (hy : ev L y = some w1) (h : peB op T u (isC y) w1 = some v) (hF : Fr a n L) (w : World) :
  (execOp a.eval ⟨dst, .binOp op T x y T', ty, pos, af, g⟩).run Tryz.prog w = .ok (.value v) w := by
 unfold peB at h
 split at h
 ·rename_i k m k' m'
  cases hk : decide (k = k') with
  | false => rw [hk] at h; cases h
  | true =>
   obtain rfl : k = k' := of_decide_eq_true hk
   rw [hk] at h
   dsimp only [cond] at h
   cases hi : icmp op m m' with
   | some t =>
    rw [hi] at h
    obtain rfl := Option.some.inj h
    cases op <;> simp [icmp] at hi <;> subst hi <;> simp [execOp, hF.ev hx, hF.ev hy, eqGuard, binOp, Op.intCmp]
   | none =>
    rw [hi] at h
    dsimp only at h
    cases hr : iarith op k m m' with
    | none => rw [hr] at h; cases h
    | some r =>
     rw [hr] at h
     obtain rfl := Option.some.inj h
     cases op <;> simp [iarith] at hr <;> subst hr <;> simp [execOp, hF.ev hx, hF.ev hy, eqGuard, binOp, Op.intArith]
 ·rename_i s s'
  rw [scmp'_eq] at h
  cases hs : scmp op s s' with
  | none => rw [hs] at h; cases h
  | some t =>
   rw [hs] at h
   obtain rfl := Option.some.inj h
   cases op <;> simp only [scmp, Option.some.injEq, reduceCtorEq] at hs <;> rw [← hs] <;> simp [execOp, hF.ev hx, hF.ev hy, eqGuard, binOp, Op.stringOp]
 ·rename_i u w1 _ _ _ hc _ _
  cases ht : tb tabK T with
  | none => rw [ht] at h; cases h
  | some k =>
   rw [ht] at h
   dsimp only at h
   obtain ⟨D, hD, rfl, _, _⟩ := und_of_k ht
   cases hb : (nilK (kOf D) w1 && fitsK (kOf D) u) with
   | false => rw [hb] at h; cases h
   | true =>
    rw [hb] at h
    dsimp only [cond] at h
    rw [Bool.and_eq_true] at hb
    have hv := nilK_of hb.1
    have hu := fitsK_of hb.2
    cases hn : isNil u with
    | none => rw [hn] at h; cases h
    | some t =>
     rw [hn] at h
     dsimp only at h
     cases hr : ncmp op t with
     | none => rw [hr] at h; cases h
     | some r =>
      rw [hr] at h
      obtain rfl := Option.some.inj h
      have hq := (run_nil (P := Tryz.prog) hD u w1 t hv hu hn w).1
      have hform := nil_forms hv
      have hna : ∀ c, u ≠ .agg c := by intro c e; subst e; simp [isNil] at hn
      have hg := eqGuard_c (op := op) (T := T) (x := x) (v := w1) hna hc w
      unfold ncmp at hr
      split at hr
      ·obtain rfl := Option.some.inj hr
       have hb : (binOp .eql T u w1).run Tryz.prog w = .ok (.bool t) w := by
        have : binOp .eql T u w1 = (do pure (.bool (← Op.equal T u w1))) := by
         rcases hform with rfl | ⟨_, _, rfl⟩ | rfl | rfl <;> cases u <;> rfl
        rw [this]
        simp [hq]
       simp only [execOp, Sem.run_bind, hF.ev hx, hF.ev hy, hg, Result.andThen_ok, hb]
       simp
      ·obtain rfl := Option.some.inj hr
       have hb : (binOp .neq T u w1).run Tryz.prog w = .ok (.bool (!t)) w := by
        have : binOp .neq T u w1 = (do pure (.bool (!(← Op.equal T u w1)))) := by
         rcases hform with rfl | ⟨_, _, rfl⟩ | rfl | rfl <;> cases u <;> rfl
        rw [this]
        simp [hq]
       simp only [execOp, Sem.run_bind, hF.ev hx, hF.ev hy, hg, Result.andThen_ok, hb]
       simp
      ·cases hr
 ·cases h
theorem run_zeroT {T : Nat} {z : Value} (h : tb tabZ T = some [z]) (hk : ∃ k, tb tabK T = some k) (w : World) : (zeroValue T).run Tryz.prog w = .ok z w := by
 obtain ⟨i, z', hi, hz, hc⟩ := zero_of h
 have : z' = z := by
  rcases hc with ⟨l', rfl, rfl⟩ | ⟨hl, _⟩
  ·exfalso
   obtain ⟨k, hk⟩ := hk
   have := tb_all allKz hk
   unfold kz at this
   simp only [hi, hz] at this
   cases this
  ·simpa using hl.symm
 subst this
 simp [zeroValue, typeInfo, hi, hz]
theorem r_pe {op : Op} (hF : Fr a n L) (h : pe L op = some v) (w : World) : (execOp a.eval ⟨dst, op, ty, pos, af, g⟩).run Tryz.prog w = .ok (.value v) w := by
 unfold pe at h
 split at h
 ·simp [execOp, hF.ev h]
 ·simp [execOp, hF.ev h]
 ·split at h <;> rename_i c x y _ hc
  ·simp [execOp, hF.ev hc, asBool, hF.ev h]
  ·simp [execOp, hF.ev hc, asBool, hF.ev h]
  ·cases h
 ·split at h <;> rename_i hx
  ·obtain rfl := Option.some.inj h
   simp [execOp, hF.ev hx]
  ·obtain rfl := Option.some.inj h
   simp [execOp, hF.ev hx]
  ·cases h
 ·split at h <;> rename_i hx
  ·rename_i i _ vs
   have : vs[i]? = some v := by simpa using h
   simp [execOp, hF.ev hx, Instr.extract, this]
  ·cases h
 ·split at h <;> rename_i hx
  ·obtain rfl := Option.some.inj h
   simp [execOp, hF.ev hx, Op.unary]
  ·cases h
 ·split at h
  ·rename_i hx hy
   exact peB_eq hx hy h hF w
  ·cases h
 ·split at h
  ·rename_i hx
   split at h
   ·rename_i ht
    split at h
    ·rename_i hf
     obtain rfl := Option.some.inj h
     simp [execOp, hF.ev hx, run_fieldAt (field_of ht hf)]
    ·cases h
   ·cases h
  ·cases h
 ·split at h
  ·rename_i T x _ u hx
   split at h
   ·rename_i k ht
    cases hk : Nat.beq k 3 with
    | true => rw [hk] at h; cases h
    | false =>
     rw [hk] at h
     obtain rfl := Option.some.inj h
     obtain ⟨D, hD, hkd, _, _⟩ := und_of_k ht
     have hne : k ≠ 3 := Nat.ne_of_beq_eq_false hk
     have : (Instr.makeInterface T u).run Tryz.prog w = .ok (.iface T u) w := by
      simp only [Instr.makeInterface, Sem.run_bind, run_underlying hD, Result.andThen_ok]
      cases D <;> simp_all [kOf]
     simp [execOp, hF.ev hx, this]
   ·cases h
  ·cases h
 ·split at h
  ·rename_i x xT T ok _ u hx
   split at h
   ·rename_i k ht
    cases hk : Nat.beq k 3 with
    | true => rw [hk] at h; cases h
    | false =>
     rw [hk] at h
     dsimp only [cond] at h
     obtain ⟨D, hD, hkd, _, _⟩ := und_of_k ht
     have hne : k ≠ 3 := Nat.ne_of_beq_eq_false hk
     have hni : ∀ m, D ≠ .interface m := by intro m e; subst e; exact hne hkd.symm
     have : (Instr.typeAssert u xT T ok).run Tryz.prog w = .ok v w := by
      simp only [Instr.typeAssert, Sem.run_bind, run_underlying hD, Result.andThen_ok]
      unfold peAssert at h
      split at h
      ·rename_i t u
       cases hb : Nat.beq t T with
       | true =>
        obtain rfl : t = T := Nat.eq_of_beq_eq_true hb
        rw [hb] at h
        dsimp only [cond] at h
        cases ok <;> simp at h <;> subst h <;> cases D <;> simp_all
       | false =>
        have hbn : ¬ t = T := Nat.ne_of_beq_eq_false hb
        rw [hb] at h
        dsimp only [cond] at h
        cases ok with
        | false => simp at h
        | true =>
         dsimp only at h
         split at h
         ·rename_i z hz
          obtain rfl := Option.some.inj h
          have hzz := run_zeroT hz ⟨k, ht⟩ w
          cases D <;> simp_all
         ·cases h
      ·cases ok with
       | false => simp at h
       | true =>
        dsimp only [cond] at h
        split at h
        ·rename_i z hz
         obtain rfl := Option.some.inj h
         have hzz := run_zeroT hz ⟨k, ht⟩ w
         cases D <;> simp_all
        ·cases h
      ·cases h
     simp [execOp, hF.ev hx, this]
   ·cases h
  ·cases h
 ·split at h
  ·rename_i T parts _ pl hpl
   split at h
   ·rename_i z hz
    split at h
    ·rename_i ps hps
     split at h
     ·rename_i cs hcs
      obtain rfl := Option.some.inj h
      have hb : Tryz.prog.built T ps = some cs.toArray := by
       have h1 := tb_all allSt hpl
       unfold stOk at h1
       dsimp only at h1
       obtain ⟨i, z', hi, hz', hc⟩ := zero_of hz
       unfold Program.built
       rw [hi]
       cases hu : Tryz.prog.underlying T with
       | none => rw [hu] at h1; cases h1
       | some D =>
        rw [hu] at h1
        cases D <;> simp only [Bool.false_eq_true] at h1
        rename_i fields
        cases hm : fields.toList.mapM (fun f => (Tryz.prog.info? f.type).map fun i => (f.offset, i.size)) with
        | none => rw [hm] at h1; cases h1
        | some pl' =>
         rw [hm] at h1
         simp only [Bool.and_eq_true, beq_iff_eq] at h1
         obtain ⟨rfl, _⟩ := h1
         dsimp only
         rw [hz', hm]
         dsimp only
         have hzc : z'.cells = z.toArray := by
          rcases hc with ⟨l', rfl, rfl⟩ | ⟨rfl, ho⟩
          ·rfl
          ·cases z' <;> simp [one] at ho <;> rfl
         rw [hzc]
         exact fl_eq _ _ _ _ hcs
      have he : (parts.map fun (i, x) => (i, a.eval x)).toList = ps := by rw [Array.toList_map]; exact hF.evp hps
      have := run_build w T (parts.map fun (i, x) => (i, a.eval x)) cs.toArray (by rw [he]; exact hb)
      simp only [execOp, Sem.run_bind, this, Result.andThen_ok]
      simp
     ·cases h
    ·cases h
   ·cases h
  ·cases h
 ·split at h
  ·rename_i x T _ u hx
   unfold peLen at h
   split at h
   ·split at h
    ·rename_i ht
     obtain rfl := Option.some.inj h
     obtain ⟨D, hD, hkd, _, _⟩ := und_of_k ht
     cases D <;> simp [kOf] at hkd
     simp [execOp, resolve, invoke, builtin, hF.ev hx, Builtin.len_, run_underlying hD, goInt]
    ·cases h
   ·split at h
    ·rename_i ht
     obtain rfl := Option.some.inj h
     obtain ⟨D, hD, hkd, _, _⟩ := und_of_k ht
     cases D <;> simp [kOf] at hkd
     simp [execOp, resolve, invoke, builtin, hF.ev hx, Builtin.len_, run_underlying hD, goInt]
    ·cases h
   ·cases h
  ·cases h
 ·cases h
end Go.Proofs.YtlkikblohnnlcaaGreatDoor.X
end
section
namespace Go.Proofs.YtlkikblohnnlcaaGreatDoor.X
open Go Go.RowKit Go.Proofs.YtlkikblohnnlcaaGreatDoorW.PrintLast
set_option linter.unusedVariables false
def bitsOf (T : List (List Nat × List Nat)) : List Nat := T.foldl (fun B r => B ++ [r.1.foldl (fun m n => m ||| (1 <<< n) ||| (B.getD n 0)) 0]) []
def kd : Op → Nat
 | .move _ => 0
 | .assign _ => 0
 | .pick _ _ _ => 0
 | .nilCheck _ => 0
 | .extract _ _ => 0
 | .unOp _ _ _ => 0
 | .binOp _ _ _ _ _ => 0
 | .fieldAddr _ _ _ => 0
 | .makeInterface _ _ => 0
 | .typeAssert _ _ _ _ => 0
 | .build _ _ => 0
 | .indexAddr _ _ _ => 0
 | .index _ _ _ => 0
 | .slice _ _ _ _ _ => 0
 | .load _ _ => 1
 | .call ⟨.builtin .len, _, _⟩ => 1
 | _ => 2
def kdAt (ops : Array Oper) (i : Nat) : Nat := match ops[i]? with
 | some o => kd o.op
 | none => 3
def chkO (T : Bool × List (List Nat × List Nat)) (B : List Nat) (ks : List Nat) (ds : List Nat) : List Bool → List Nat → Bool
 | l, [] => readyT T.2 l == []
 | l, i :: r => (match ks.getD i 3 with
  | 0 => anyT T l (l.set i true) i
  | 1 => takeW T B ds l (l.set i true) i
  | 2 => (readyT T.2 l == [i] && l.set i true == l.set i true)
  | _ => false) && chkO T B ks ds (l.set i true) r
def chkD (ops : Array Oper) (ds ord : List Nat) : Bool :=
 let T := rtab .any ops
 let B := bitsOf T.2
 waitsOk T.2 B && (ord.length == ops.size) && chkO T B ((List.range ops.size).map (kdAt ops)) ds (List.replicate ops.size false) ord
def ordGo (T : Bool × List (List Nat × List Nat)) (B ks ds : List Nat) : Nat → List Bool → List Nat
 | 0, _ => []
 | n + 1, l => match (readyT T.2 l).find? (fun i => match ks.getD i 3 with
   | 0 => anyT T l (l.set i true) i
   | 1 => takeW T B ds l (l.set i true) i
   | _ => false) with
  | some i => i :: ordGo T B ks ds n (l.set i true)
  | none => match readyT T.2 l with
   | i :: _ => i :: ordGo T B ks ds n (l.set i true)
   | [] => []
section
variable {P : Program} {ops : Array Oper} {Q : Exit → Act → World → Prop} {S : World → Prop} {ds : List Nat}
def dL (P : Program) (ops : Array Oper) (Q : Exit → Act → World → Prop) (S : World → Prop) (ds : List Nat) : List Nat → Act → World → Prop
 | [], a, w => Q .normal a w
 | i :: r, a, w => ∃ o, ops[i]? = some o ∧ match kd o.op with
  | 0 => ∃ v, Yields P ops o v a ∧ dL P ops Q S ds r (a.put o.dst v) w
  | 1 => ∃ v, YieldsIf P ops S o v a ∧ S w ∧ dL P ops Q S ds r (a.put o.dst v) w
  | _ => ∀ K : Act → World → Prop, (∀ a' w', (i ∉ ds → S w') → dL P ops Q S ds r a' w' → K a' w') → if Region.wanted o (yielded ops a.tmps) = true then Oper.wp P o a w K Q else K (a.put o.dst undef) w
theorem dL_any {T : Bool × List (List Nat × List Nat)} {B ks : List Nat} (hT : rtab .any ops = T) (hB : waitsOk T.2 B = true) (hk : ks = (List.range ops.size).map (kdAt ops))
  (hQ : ∀ c a o v w, Q (.panic c) (Act.put a o v) w → Q (.panic c) a w) :
  ∀ (ord : List Nat) (l : Array Bool) (a : Act) (w : World), chkO T B ks ds l.toList ord = true → dL P ops Q S ds ord a w → wpAnyLast P .any ops Q S ds ord.length l a w
 | [], l, a, w, hc, h => done_ (done_of hT hc) h
 | i :: r, l, a, w, hc, h => by
  unfold chkO at hc
  rw [Bool.and_eq_true] at hc
  obtain ⟨h1, h2⟩ := hc
  obtain ⟨o, ho, h⟩ := h
  have hset : (l.setIfInBounds i true).toList = l.toList.set i true := by simp
  have hki : ks.getD i 3 = kd o.op := by
   have hlt := (Array.getElem?_eq_some_iff.1 ho).1
   rw [hk, List.getD_eq_getElem?_getD, List.getElem?_map, List.getElem?_range hlt]
   simp [kdAt, ho]
  rw [hki] at h1
  have ih := fun a' w' h' => dL_any hT hB hk hQ r (l.setIfInBounds i true) a' w' (by rw [hset]; exact h2) h'
  split at h
  ·rename_i hkd
   rw [hkd] at h1
   obtain ⟨v, hy, hr⟩ := h
   exact pure_ (i := i) (l.setIfInBounds i true) ho rfl (any_of hT (by rw [hset]; exact h1)) (fun c a w => hQ c a _ _ w) hy rfl (ih _ _ hr)
  ·rename_i hkd
   rw [hkd] at h1
   obtain ⟨v, hy, hS, hr⟩ := h
   exact take_ (i := i) (l.setIfInBounds i true) ho rfl (take_ofW hT hB (by rw [hset]; exact h1)) (fun c a w => hQ c a _ _ w) hy hS rfl (ih _ _ hr)
  ·rename_i hk0 hk1
   have h1' : (readyT T.2 l.toList == [i] && l.toList.set i true == l.toList.set i true) = true := by
    split at h1
    ·rename_i e; exact absurd e hk0
    ·rename_i e; exact absurd e hk1
    ·exact h1
    ·cases h1
   by_cases hd : i ∈ ds
   ·exact last_ (i := i) (l.setIfInBounds i true) ho rfl (one_of hT (by rw [hset]; exact h1')) hd (fun K hK => h K (fun a' w' _ h' => hK.out a' w' (ih _ _ h')))
   ·exact one_ (i := i) (l.setIfInBounds i true) ho rfl (one_of hT (by rw [hset]; exact h1')) hd (fun K hK => h K (fun a' w' hS h' => hK.out a' w' (hS hd) (fun _ => ih _ _ h')))
theorem drawn_seq {id : Nat} {a : Act} {w : World} (ds ord : List Nat) (S : World → Prop) (hm : P.follows .mixedOrders = true) (hc : chkD ops ds ord = true) (hQ : ∀ c a o v w, Q (.panic c) (Act.put a o v) w → Q (.panic c) a w) (hS : S w.drew)
  (h : dL P ops Q S ds ord a w.drew) : (Code.region id ops true).wp P Q a w := by
 unfold chkD at hc
 simp only [Bool.and_eq_true, beq_iff_eq] at hc
 obtain ⟨⟨h1, h2⟩, h3⟩ := hc
 refine start_ (n := ops.size) (S := S) (ds := ds) (Array.replicate ops.size false) hm J J hS (fun _ => ?_)
 rw [← h2]
 exact dL_any rfl h1 rfl hQ ord _ a _ (by rw [h2]; simpa using h3) h
end
end Go.Proofs.YtlkikblohnnlcaaGreatDoor.X
end
section
namespace Go.Proofs.YtlkikblohnnlcaaGreatDoor.X
open Go Go.RowKit Go.Proofs.YtlkikblohnnlcaaGreatDoorW.PrintLast
set_option linter.unusedVariables false
def tabF : List Nat := [3,4,5,6,7,8,9,10,11,12,13,14,15,16,17,18,19,20,21,22,23,24,25,26,27,28,29,30,31,32,33,34,35,36,37,38,39,40,41,42,43,44,45,46,47,48,49,50,51,52,53,54,55,56,57,58,59,60,61,62,63,64,65,66,67,68,69,70,71,72,73,74,75,76,77,78,79,80,81,82,83,84,85,86,87,88,89,90,91,92,93,94,95,96,97,98,99,100,101,102,103,104,105,106,107,108,109,110,111,112,113,114,115,116,117,118,119,120,121,122,123,124,125,126,133,134,135,136,137,138,139,140,141,142,143,144,145,146,147,148,149,151,160,167,171,176,180,182,205,210,238,239,240,252,253,254,255,256,257,258,259,260,261,262,263,264,265,266,267,268]
theorem allF : tabF.all (callB Tryz.prog) = true := by kernel_rfl
theorem f_ok {f : Nat} (h : has tabF f = true) : callB Tryz.prog f = true := by
 have : ∀ l : List Nat, has l f = true → f ∈ l := by
  intro l
  induction l with
  | nil => intro h; cases h
  | cons x r ih =>
   intro h
   unfold has at h
   cases hb : Nat.beq x f with
   | true => rw [← Nat.eq_of_beq_eq_true hb]; exact List.mem_cons_self
   | false => rw [hb] at h; exact List.mem_cons_of_mem _ (ih h)
 exact List.all_eq_true.1 allF _ (this _ h)
theorem mixed : Tryz.prog.follows .mixedOrders = true := by kernel_rfl
noncomputable def szOk (e : Nat × Nat) : Bool := aggB Tryz.prog e.1 e.2
def tabSz : List (Nat × Nat) := [(7, 4), (8, 4), (13, 2), (14, 2), (18, 1), (19, 1), (22, 2), (23, 2), (26, 6), (27, 6), (35, 2), (36, 2), (40, 2), (41, 2), (43, 53), (44, 53), (49, 8), (50, 8), (63, 2), (64, 2), (82, 5), (83, 5), (95, 3), (96, 3), (114, 53), (115, 53), (124, 4), (125, 4), (138, 2), (139, 2), (164, 1), (165, 1), (167, 2), (168, 2), (170, 2), (171, 2), (175, 4), (176, 4), (179, 7), (180, 7), (186, 1), (187, 1), (189, 2), (190, 2), (192, 1), (193, 1), (195, 2), (196, 2), (198, 2), (200, 1), (201, 1), (204, 1), (205, 1), (207, 2), (208, 2), (211, 1), (212, 1), (214, 2), (215, 2), (216, 2), (218, 1), (219, 1), (221, 2), (222, 2), (224, 2), (239, 3), (240, 3), (255, 2), (256, 2), (260, 2), (261, 2), (262, 0), (266, 0), (270, 3), (271, 3), (274, 1), (275, 1), (280, 2), (281, 2), (282, 2), (283, 2), (285, 2), (286, 2), (288, 3), (289, 3), (294, 0), (297, 2), (298, 2), (300, 2), (302, 2), (304, 2), (306, 2), (308, 2), (331, 1), (332, 1), (333, 24), (357, 0), (359, 2), (360, 2), (361, 0), (362, 0), (363, 0), (380, 20), (381, 65), (394, 32), (395, 64), (396, 4), (397, 4), (398, 0), (399, 0), (400, 0), (408, 11), (409, 11)]
theorem allSz : tabSz.all szOk = true := by kernel_rfl
def pk (H : Hm) : List Nat → Hm → Option Hm
 | [], acc => rv acc []
 | i :: r, acc => match H[i]? with
  | some e => pk H r (e :: acc)
  | none => none
def nodupB : List Nat → Bool
 | [] => true
 | x :: r => cond (has r x) false (nodupB r)
theorem has_mem {l : List Nat} {x : Nat} (h : x ∈ l) : has l x = true := by
 induction l with
 | nil => cases h
 | cons y r ih =>
  unfold has
  rcases List.mem_cons.1 h with rfl | h
  ·simp
  ·rw [ih h]; cases Nat.beq y x <;> rfl
theorem pk_eq {H : Hm} : ∀ (is : List Nat) (acc H' : Hm), pk H is acc = some H' → ∃ m : Hm, H' = acc.reverse ++ m ∧ is.map (H[·]?) = m.map some
 | [], acc, H', h => ⟨[], by simpa using rv_eq _ _ _ h, rfl⟩
 | i :: r, acc, H', h => by
  unfold pk at h
  cases he : H[i]? with
  | none => rw [he] at h; cases h
  | some e =>
   rw [he] at h
   obtain ⟨m, h1, h2⟩ := pk_eq r _ H' h
   exact ⟨e :: m, by rw [h1]; simp, by simp [he, h2]⟩
theorem Hp.pick {w0 w : World} {H H' : Hm} (h : Hp w0 w H) (is : List Nat) (hn : nodupB is = true) (hp : pk H is [] = some H') : Hp w0 w H' := by
 obtain ⟨m, h1, h2⟩ := pk_eq is [] H' hp
 simp only [List.reverse_nil, List.nil_append] at h1
 subst h1
 refine ⟨h.below, fun e he => ?_, ?_⟩
 ·have : some e ∈ is.map (H[·]?) := by rw [h2]; exact List.mem_map_of_mem he
  obtain ⟨i, _, hi⟩ := List.mem_map.1 this
  exact h.get e (List.mem_of_getElem? hi)
 ·have hp : ∀ (is : List Nat) (m : Hm), nodupB is = true → is.map (H[·]?) = m.map some → m.Pairwise (fun x y => x.1 ≠ y.1) := by
   intro is
   induction is with
   | nil => (intro m _ hm; have : m = [] := by simpa using hm.symm); rw [this]; exact List.Pairwise.nil
   | cons i r ih =>
    intro m hn hm
    cases m with
    | nil => simp at hm
    | cons e s =>
     simp only [List.map_cons, List.cons.injEq] at hm
     obtain ⟨he, hs⟩ := hm
     unfold nodupB at hn
     cases hb : has r i with
     | true => rw [hb] at hn; cases hn
     | false =>
      rw [hb] at hn
      refine List.pairwise_cons.2 ⟨fun y hy => ?_, ih s hn hs⟩
      have : some y ∈ r.map (H[·]?) := by rw [hs]; exact List.mem_map_of_mem hy
      obtain ⟨j, hj, hjy⟩ := List.mem_map.1 this
      have hij : i ≠ j := by intro e; subst e; rw [has_mem hj] at hb; cases hb
      obtain ⟨hil, hie⟩ := List.getElem?_eq_some_iff.1 he
      obtain ⟨hjl, hje⟩ := List.getElem?_eq_some_iff.1 hjy
      have hpw := List.pairwise_iff_getElem.1 h.nd
      rcases Nat.lt_or_gt_of_ne hij with hlt | hgt
      ·have := hpw i j hil hjl hlt
       rw [hie, hje] at this
       exact this
      ·have := hpw j i hjl hil hgt
       rw [hie, hje] at this
       exact Ne.symm this
  exact hp is _ hn h2
section
variable {ops : Array Oper} {Q : Exit → Act → World → Prop} {S : World → Prop} {ds : List Nat} {rest : List Oper} {r : List Nat} {a : Act} {w0 w w' : World} {n i : Nat} {L L1 : Fm} {d : Nat} {v : Value} {o : Oper} {H H' HS : Hm}
variable {ty : TypeId} {pos : String} {af : Array Edge} {g : Option (Nat × Bool)} {x y z : Operand} {u : Value} {op : Op}
theorem s_pe (hF : Fr a n L) (hg : wt ops L g = some true) (hn : Nat.ble (d + 1) n = true) (h : pe L op = some v) (hL : dl L d [] = some L1)
  (k : ∀ a', Fr a' n ((d, v) :: L1) → wpList Tryz.prog ops Q rest a' w) : wpList Tryz.prog ops Q (⟨some d, op, ty, pos, af, g⟩ :: rest) a w :=
 x_core hF rfl hg hn hL (r_pe hF h w) k
theorem r_ld {T b j i : Nat} {cs : List Value} {t : TypeId} {fr : Nat × Nat} {kk : Nat} (hF : Fr a n L) (hx : ev L x = some (.pointer (some ⟨b, j, none⟩))) (hi : H[i]? = some (b, .cells cs.toArray t fr)) (hc : cs[j]? = some v) (hT : tb tabK T = some kk)
  (w : World) (hH : Hp w0 w H) : (execOp a.eval ⟨some d, .load T x, ty, pos, af, g⟩).run Tryz.prog w = .ok (.value v) w := by
 simp [execOp, hF.ev hx, Instr.loadAt, Instr.sureAddr, run_loadVar_scal (scal_of_k hT) (hH.cell hi hc)]
theorem s_ld (i : Nat) {T b j : Nat} {cs : List Value} {t : TypeId} {fr : Nat × Nat} {kk : Nat} (hF : Fr a n L) (hH : Hp w0 w H) (hg : wt ops L g = some true) (hn : Nat.ble (d + 1) n = true)
  (hx : ev L x = some (.pointer (some ⟨b, j, none⟩))) (hi : H[i]? = some (b, .cells cs.toArray t fr)) (hc : cs[j]? = some v) (hT : tb tabK T = some kk) (hL : dl L d [] = some L1)
  (k : ∀ a', Fr a' n ((d, v) :: L1) → wpList Tryz.prog ops Q rest a' w) : wpList Tryz.prog ops Q (⟨some d, .load T x, ty, pos, af, g⟩ :: rest) a w :=
 x_core hF rfl hg hn hL (r_ld hF hx hi hc hT w hH) k
theorem r_lda {T b j i m : Nat} {cs vs : List Value} {t : TypeId} {fr : Nat × Nat} (hF : Fr a n L) (hx : ev L x = some (.pointer (some ⟨b, j, none⟩))) (hT : tb tabSz T = some m) (hi : H[i]? = some (b, .cells cs.toArray t fr)) (hc : cut cs j m [] = some vs)
  (w : World) (hH : Hp w0 w H) : (execOp a.eval ⟨some d, .load T x, ty, pos, af, g⟩).run Tryz.prog w = .ok (.value (.agg vs.toArray)) w := by
 obtain ⟨q, h1, h2, h3⟩ := cut_eq _ _ _ _ _ hc
 simp only [List.reverse_nil, List.nil_append] at h1
 subst h1
 have hA : aggB Tryz.prog T m = true := tb_all allSz hT
 have hs : sizeB Tryz.prog T m = true := by unfold aggB at hA; rw [Bool.and_eq_true] at hA; exact hA.2
 have hr := run_loadCells (P := Tryz.prog) w b j vs (fun p v hv => hH.cell hi (h3 p v hv)) m 0 #[] (by omega)
 have : (loadVar T ⟨b, j, none⟩).run Tryz.prog w = .ok (.agg vs.toArray) w := by
  simp only [loadVar, Sem.run_bind, run_isAgg_agg hA, Result.andThen_ok, if_true, run_sizeOf hs, loadCells, hr]
  simp
 simp [execOp, hF.ev hx, Instr.loadAt, Instr.sureAddr, this]
theorem s_lda (i : Nat) {T b j m : Nat} {cs vs : List Value} {t : TypeId} {fr : Nat × Nat} (hF : Fr a n L) (hH : Hp w0 w H) (hg : wt ops L g = some true) (hn : Nat.ble (d + 1) n = true)
  (hx : ev L x = some (.pointer (some ⟨b, j, none⟩))) (hT : tb tabSz T = some m) (hi : H[i]? = some (b, .cells cs.toArray t fr)) (hc : cut cs j m [] = some vs) (hL : dl L d [] = some L1)
  (k : ∀ a', Fr a' n ((d, .agg vs.toArray) :: L1) → wpList Tryz.prog ops Q rest a' w) : wpList Tryz.prog ops Q (⟨some d, .load T x, ty, pos, af, g⟩ :: rest) a w :=
 x_core hF rfl hg hn hL (r_lda hF hx hT hi hc w hH) k
theorem r_st {T b j i kk : Nat} {cs cs' : List Value} {t : TypeId} (hF : Fr a n L) (hH : Hp w0 w H) (hx : ev L x = some (.pointer (some ⟨b, j, none⟩))) (hy : ev L y = some v) (hi : H[i]? = some (b, .cells cs.toArray t (0, 0))) (hu : cs[j]? = some u)
  (hT : tb tabK T = some kk) (hv : one v = true) : (execOp a.eval ⟨none, .store T x y, ty, pos, af, g⟩).run Tryz.prog w = .ok .skip (w.setCell ⟨b, j, none⟩ v) := by
 obtain ⟨_, _, _, _, hs⟩ := und_of_k hT
 simp [execOp, hF.ev hx, hF.ev hy, Instr.storeAt, Instr.sureAddr, run_storeVar_one hs hv (hH.cell hi hu) (hH.frozen hi)]
theorem s_st (i : Nat) {T b j kk : Nat} {cs cs' : List Value} {t : TypeId} (hF : Fr a n L) (hH : Hp w0 w H) (hg : wt ops L g = some true)
  (hx : ev L x = some (.pointer (some ⟨b, j, none⟩))) (hy : ev L y = some v) (hi : H[i]? = some (b, .cells cs.toArray t (0, 0))) (hu : cs[j]? = some u) (hT : tb tabK T = some kk) (hv : one v = true) (hc : sa cs j v [] = some cs') (hH' : sa H i (b, .cells cs'.toArray t (0, 0)) [] = some H')
  (k : ∀ w', Hp w0 w' H' → wpList Tryz.prog ops Q rest a w') : wpList Tryz.prog ops Q (⟨none, .store T x y, ty, pos, af, g⟩ :: rest) a w :=
 x_core0 hF rfl hg (r_st (cs' := cs') hF hH hx hy hi hu hT hv) (k _ (hH.setCell hi hc hH'))
theorem s_bx {T : TypeId} (hF : Fr a n L) (hH : Hp w0 w H) (hg : wt ops L g = some true) (hn : Nat.ble (d + 1) n = true) (hx : ev L x = some v) (hL : dl L d [] = some L1)
  (k : ∀ a' b w', Fr a' n ((d, .pointer (some ⟨b, 0, none⟩)) :: L1) → Hp w0 w' ((b, .cells (vc v).toArray T) :: H) → wpList Tryz.prog ops Q rest a' w') : wpList Tryz.prog ops Q (⟨some d, .box T x, ty, pos, af, g⟩ :: rest) a w :=
 x_box hF hH hg hn hL hx (fun a' b w' h1 h2 => k a' b w' h1 (by rw [← cells_vc]; exact h2))
theorem run_zeroL {T : Nat} {l : List Value} (h : tb tabZ T = some l) : ∃ z, z.cells = l.toArray ∧ ∀ w, (zeroValue T).run Tryz.prog w = .ok z w := by
 obtain ⟨i, z, hi, hz, hc⟩ := zero_of h
 refine ⟨z, ?_, fun w => by simp [zeroValue, typeInfo, hi, hz]⟩
 rcases hc with ⟨l', rfl, rfl⟩ | ⟨rfl, ho⟩
 ·rfl
 ·cases z <;> simp [one] at ho <;> rfl
theorem s_al {T : TypeId} {l : List Value} (hF : Fr a n L) (hH : Hp w0 w H) (hg : wt ops L g = some true) (hn : Nat.ble (d + 1) n = true) (hz : tb tabZ T = some l) (hL : dl L d [] = some L1)
  (k : ∀ a' b w', Fr a' n ((d, .pointer (some ⟨b, 0, none⟩)) :: L1) → Hp w0 w' ((b, .cells l.toArray T) :: H) → wpList Tryz.prog ops Q rest a' w') : wpList Tryz.prog ops Q (⟨some d, .alloc T, ty, pos, af, g⟩ :: rest) a w := by
 obtain ⟨z, hzc, hzr⟩ := run_zeroL hz
 refine x_core (v := .pointer (some ⟨w.heap.size, 0, none⟩)) (w' := w.alloc (.cells z.cells T)) hF rfl hg hn hL (by simp [execOp, Instr.alloc, hzr, run_newVar]) (fun a' hF' => k a' _ _ hF' (by rw [← hzc]; exact hH.alloc _))
theorem s_map {T : TypeId} (hF : Fr a n L) (hH : Hp w0 w H) (hg : wt ops L g = some true) (hn : Nat.ble (d + 1) n = true) (hL : dl L d [] = some L1)
  (k : ∀ a' b w', Fr a' n ((d, .map (some b)) :: L1) → Hp w0 w' ((b, .map #[] 0) :: H) → wpList Tryz.prog ops Q rest a' w') : wpList Tryz.prog ops Q (⟨some d, .makeMap T none, ty, pos, af, g⟩ :: rest) a w := by
 refine x_core (v := .map (some w.heap.size)) (w' := w.alloc (.map #[] 0)) hF rfl hg hn hL ?_ (fun a' hF' => k a' _ _ hF' (hH.alloc _))
 simp [execOp, Instr.makeMap, newObj, Sem.run, World.alloc_eq]
def Ct {β : Type} (f : FuncId) (args : List Value) (w : World) (V : β → Value) (Hn : β → Hm) (φ : β → Prop) : Prop := Calls Tryz.prog f args.toArray w fun e w' => ∃ x, φ x ∧ e = .returned (V x) ∧ Hp w w' (Hn x)
theorem s_call {β : Type} {f : FuncId} {args : List Operand} {vs : List Value} {ts : Array TypeId} {V : β → Value} {Hn : β → Hm} {φ : β → Prop} (hF : Fr a n L) (hH : Hp w0 w H) (hg : wt ops L g = some true) (hn : Nat.ble (d + 1) n = true)
  (hx : evs L args = some vs) (hf : has tabF f = true) (hL : dl L d [] = some L1) (hc : Ct f vs w V Hn φ)
  (k : ∀ a' w' x, φ x → Fr a' n ((d, V x) :: L1) → Hp w0 w' (Hn x ++ H) → wpList Tryz.prog ops Q rest a' w') : wpList Tryz.prog ops Q (⟨some d, .call { callee := .value (.func f), args := args.toArray, argTypes := ts }, ty, pos, af, g⟩ :: rest) a w :=
 x_call hF hg hn hL hx (f_ok hf) hc (fun e w' ⟨x, hφ, he, hw⟩ => ⟨V x, he, fun a' hF' => k a' w' x hφ hF' (hH.app hw)⟩)
theorem s_callM {f : FuncId} {args : List Operand} {vs : List Value} {ts : Array TypeId} {R : Ending → World → Prop} (hF : Fr a n L) (hg : wt ops L g = some true) (hn : Nat.ble (d + 1) n = true)
  (hx : evs L args = some vs) (hf : has tabF f = true) (hL : dl L d [] = some L1) (hc : Calls Tryz.prog f vs.toArray w R)
  (k : ∀ e w', R e w' → ∃ v, e = .returned v ∧ ∀ a', Fr a' n ((d, v) :: L1) → wpList Tryz.prog ops Q rest a' w') : wpList Tryz.prog ops Q (⟨some d, .call { callee := .value (.func f), args := args.toArray, argTypes := ts }, ty, pos, af, g⟩ :: rest) a w :=
 x_call hF hg hn hL hx (f_ok hf) hc k
theorem d_pe (hF : Fr a n L) (ho : ops[i]? = some ⟨some d, op, ty, pos, af, g⟩) (hk : kd op = 0) (hg : wt ops L g = some true) (hn : Nat.ble (d + 1) n = true) (h : pe L op = some v) (hL : dl L d [] = some L1)
  (k : ∀ a', Fr a' n ((d, v) :: L1) → dL Tryz.prog ops Q S ds r a' w) : dL Tryz.prog ops Q S ds (i :: r) a w := by
 unfold dL
 refine ⟨_, ho, ?_⟩
 simp only [hk]
 exact ⟨v, .inl ⟨hF.wt hg, fun w => r_pe hF h w⟩, k _ (hF.put hn hL)⟩
theorem d_off (hF : Fr a n L) (ho : ops[i]? = some ⟨some d, op, ty, pos, af, g⟩) (hS : S w) (hg : wt ops L g = some false) (hn : Nat.ble (d + 1) n = true) (hL : dl L d [] = some L1)
  (k : ∀ a', Fr a' n ((d, undef) :: L1) → dL Tryz.prog ops Q S ds r a' w) : dL Tryz.prog ops Q S ds (i :: r) a w := by
 unfold dL
 refine ⟨_, ho, ?_⟩
 have hw := hF.wt (o := ⟨some d, op, ty, pos, af, g⟩) hg
 split
 ·exact ⟨undef, .inr ⟨hw, rfl⟩, k _ (hF.put hn hL)⟩
 ·exact ⟨undef, .inr ⟨hw, rfl⟩, hS, k _ (hF.put hn hL)⟩
 ·intro K hK
  rw [if_neg (by rw [hw]; decide)]
  exact hK _ _ (fun _ => hS) (k _ (hF.put hn hL))
theorem d_rd (hF : Fr a n L) (ho : ops[i]? = some ⟨some d, op, ty, pos, af, g⟩) (hS : S w) (hk : kd op = 1) (hg : wt ops L g = some true) (hn : Nat.ble (d + 1) n = true)
  (hr : ∀ w, S w → (execOp a.eval ⟨some d, op, ty, pos, af, g⟩).run Tryz.prog w = .ok (.value v) w) (hL : dl L d [] = some L1)
  (k : ∀ a', Fr a' n ((d, v) :: L1) → dL Tryz.prog ops Q S ds r a' w) : dL Tryz.prog ops Q S ds (i :: r) a w := by
 unfold dL
 refine ⟨_, ho, ?_⟩
 simp only [hk]
 exact ⟨v, .inl ⟨hF.wt hg, hr⟩, hS, k _ (hF.put hn hL)⟩
theorem d_ld (q : Nat) {T b j : Nat} {cs : List Value} {t : TypeId} {fr : Nat × Nat} {kk : Nat} (hF : Fr a n L) (hS : Hp w0 w HS) (ho : ops[i]? = some ⟨some d, .load T x, ty, pos, af, g⟩) (hg : wt ops L g = some true) (hn : Nat.ble (d + 1) n = true)
  (hx : ev L x = some (.pointer (some ⟨b, j, none⟩))) (hi : HS[q]? = some (b, .cells cs.toArray t fr)) (hc : cs[j]? = some v) (hT : tb tabK T = some kk) (hL : dl L d [] = some L1)
  (k : ∀ a', Fr a' n ((d, v) :: L1) → dL Tryz.prog ops Q (fun w => Hp w0 w HS) ds r a' w) : dL Tryz.prog ops Q (fun w => Hp w0 w HS) ds (i :: r) a w :=
 d_rd hF ho hS rfl hg hn (fun w hH => r_ld hF hx hi hc hT w hH) hL k
theorem d_lda (q : Nat) {T b j m : Nat} {cs vs : List Value} {t : TypeId} {fr : Nat × Nat} (hF : Fr a n L) (hS : Hp w0 w HS) (ho : ops[i]? = some ⟨some d, .load T x, ty, pos, af, g⟩) (hg : wt ops L g = some true) (hn : Nat.ble (d + 1) n = true)
  (hx : ev L x = some (.pointer (some ⟨b, j, none⟩))) (hT : tb tabSz T = some m) (hi : HS[q]? = some (b, .cells cs.toArray t fr)) (hc : cut cs j m [] = some vs) (hL : dl L d [] = some L1)
  (k : ∀ a', Fr a' n ((d, .agg vs.toArray) :: L1) → dL Tryz.prog ops Q (fun w => Hp w0 w HS) ds r a' w) : dL Tryz.prog ops Q (fun w => Hp w0 w HS) ds (i :: r) a w :=
 d_rd hF ho hS rfl hg hn (fun w hH => r_lda hF hx hT hi hc w hH) hL k
theorem d_len {A : Array Operand} {ts : Array TypeId} (hF : Fr a n L) (hS : S w) (ho : ops[i]? = some ⟨some d, .call ⟨.builtin .len, A, ts⟩, ty, pos, af, g⟩) (hg : wt ops L g = some true) (hn : Nat.ble (d + 1) n = true)
  (h : pe L (.call ⟨.builtin .len, A, ts⟩) = some v) (hL : dl L d [] = some L1)
  (k : ∀ a', Fr a' n ((d, v) :: L1) → dL Tryz.prog ops Q S ds r a' w) : dL Tryz.prog ops Q S ds (i :: r) a w :=
 d_rd hF ho hS rfl hg hn (fun w _ => r_pe hF h w) hL k
theorem d_one (hF : Fr a n L) (ho : ops[i]? = some o) (hk : Nat.ble 2 (kd o.op) = true) (hg : wt ops L o.guard = some true)
  (h : ∀ K : Act → World → Prop, (∀ a' w', (i ∉ ds → S w') → dL Tryz.prog ops Q S ds r a' w' → K a' w') → Oper.wp Tryz.prog o a w K Q) : dL Tryz.prog ops Q S ds (i :: r) a w := by
 unfold dL
 refine ⟨_, ho, ?_⟩
 have h2 := Nat.le_of_ble_eq_true hk
 split
 ·rename_i e; omega
 ·rename_i e; omega
 ·intro K hK
  rw [if_pos (hF.wt hg)]
  exact h K hK
theorem d_st (q : Nat) {T b j kk : Nat} {cs cs' : List Value} {t : TypeId} (hF : Fr a n L) (hH : Hp w0 w H) (ho : ops[i]? = some ⟨none, .store T x y, ty, pos, af, g⟩) (hd : has ds i = true) (hg : wt ops L g = some true)
  (hx : ev L x = some (.pointer (some ⟨b, j, none⟩))) (hy : ev L y = some v) (hi : H[q]? = some (b, .cells cs.toArray t (0, 0))) (hu : cs[j]? = some u) (hT : tb tabK T = some kk) (hv : one v = true) (hc : sa cs j v [] = some cs') (hH' : sa H q (b, .cells cs'.toArray t (0, 0)) [] = some H')
  (k : ∀ w', Hp w0 w' H' → dL Tryz.prog ops Q S ds r a w') : dL Tryz.prog ops Q S ds (i :: r) a w := by
 refine d_one hF ho rfl hg (fun K hK => ?_)
 have hmem : i ∈ ds := by
  have : ∀ l : List Nat, has l i = true → i ∈ l := by
   intro l
   induction l with
   | nil => intro h; cases h
   | cons x r ih =>
    intro h
    unfold has at h
    cases hb : Nat.beq x i with
    | true => rw [← Nat.eq_of_beq_eq_true hb]; exact List.mem_cons_self
    | false => rw [hb] at h; exact List.mem_cons_of_mem _ (ih h)
  exact this _ hd
 unfold Oper.wp
 rw [r_st (cs' := cs') hF hH hx hy hi hu hT hv, Oper.upon_skip]
 exact hK _ _ (fun h => absurd hmem h) (k _ (hH.setCell hi hc hH'))
theorem d_call {β : Type} {f : FuncId} {args : List Operand} {vs : List Value} {ts : Array TypeId} {V : β → Value} {Hn : β → Hm} {φ : β → Prop} (hF : Fr a n L) (hH : Hp w0 w H) (hS : Hp w0 w HS) (ho : ops[i]? = some ⟨some d, .call { callee := .value (.func f), args := args.toArray, argTypes := ts }, ty, pos, af, g⟩) (hg : wt ops L g = some true) (hn : Nat.ble (d + 1) n = true)
  (hx : evs L args = some vs) (hf : has tabF f = true) (hL : dl L d [] = some L1) (hc : Ct f vs w V Hn φ)
  (k : ∀ a' w' x, φ x → Fr a' n ((d, V x) :: L1) → Hp w0 w' (Hn x ++ H) → Hp w0 w' HS → dL Tryz.prog ops Q (fun w => Hp w0 w HS) ds r a' w') : dL Tryz.prog ops Q (fun w => Hp w0 w HS) ds (i :: r) a w := by
 refine d_one hF ho rfl hg (fun K hK => ?_)
 have hfn := f_ok hf
 unfold callB at hfn
 cases hq : Tryz.prog.funcs[f]? with
 | none => rw [hq] at hfn; cases hfn
 | some fn =>
  rw [hq] at hfn
  simp only [Bool.and_eq_true, Bool.not_eq_true'] at hfn
  have hargs : args.toArray.map a.eval = vs.toArray := by rw [List.map_toArray]; exact congrArg _ (hF.evs hx)
  have hr : (execOp a.eval ⟨some d, .call { callee := .value (.func f), args := args.toArray, argTypes := ts }, ty, pos, af, g⟩).run Tryz.prog w = .ok (.enter f vs.toArray) w := by
   simp only [execOp, resolve, Sem.run_bind, hargs]
   have h1 : ¬ fn.name = "runtime.NumGoroutine" := by have := hfn.1; simpa using this
   have h2 : ¬ fn.body = none := by have := hfn.2; intro e; rw [e] at this; cases this
   simp [Act.eval, Deferred.ofValue, invoke, callFunc, program, Sem.run, hq, h1, h2]
  unfold Oper.wp
  rw [hr, Oper.upon_enter]
  refine hc.mono ?_
  intro e w' ⟨x, hφ, he, hw⟩
  rw [he]
  have hS' := hS.of_below hw.below
  exact hK _ _ (fun _ => hS') (k _ w' x hφ (hF.put hn hL) (hH.app hw) hS')
theorem d_bx {T : TypeId} (hF : Fr a n L) (hH : Hp w0 w H) (hS : Hp w0 w HS) (ho : ops[i]? = some ⟨some d, .box T x, ty, pos, af, g⟩) (hg : wt ops L g = some true) (hn : Nat.ble (d + 1) n = true) (hx : ev L x = some v) (hL : dl L d [] = some L1)
  (k : ∀ a' b w', Fr a' n ((d, .pointer (some ⟨b, 0, none⟩)) :: L1) → Hp w0 w' ((b, .cells (vc v).toArray T) :: H) → Hp w0 w' HS → dL Tryz.prog ops Q (fun w => Hp w0 w HS) ds r a' w') : dL Tryz.prog ops Q (fun w => Hp w0 w HS) ds (i :: r) a w := by
 refine d_one hF ho rfl hg (fun K hK => ?_)
 have hr : (execOp a.eval ⟨some d, .box T x, ty, pos, af, g⟩).run Tryz.prog w = .ok (.value (.pointer (some ⟨w.heap.size, 0, none⟩))) (w.alloc (.cells v.cells T)) := by simp [execOp, hF.ev hx, Instr.box, run_newVar]
 unfold Oper.wp
 rw [hr, Oper.upon_value]
 have hS' : Hp w0 (w.alloc (.cells v.cells T)) HS := (hS.alloc _).sub (List.sublist_cons_self _ _)
 exact hK _ _ (fun _ => hS') (k _ _ _ (hF.put hn hL) (by rw [← cells_vc]; exact hH.alloc _) hS')
theorem d_done (h : Q .normal a w) : dL Tryz.prog ops Q S ds [] a w := by unfold dL; exact h
end
end Go.Proofs.YtlkikblohnnlcaaGreatDoor.X
end
section
namespace Go.Proofs.YtlkikblohnnlcaaGreatDoor.X
open Go Go.RowKit Go.Proofs.YtlkikblohnnlcaaGreatDoorW.PrintLast
set_option linter.unusedVariables false
section
variable {P : Program} {ops : Array Oper} {Q : Exit → Act → World → Prop} {K : Act → World → Prop} {a : Act} {w : World} {id : Nat}
theorem c_nil (h : K a w) : wpList P ops (Exit.then K Q) [] a w := h
theorem c_nil' (h : Q .normal a w) : wpList P ops Q [] a w := h
theorem e_then (h : K a w) : Exit.then K Q .normal a w := h
theorem e_ret (h : Q .ret a w) : Exit.then K Q .ret a w := h
theorem e_exit (h : Q (.exit id) a w) : Exit.then K Q (.exit id) a w := h
theorem e_bret (h : Q .ret a w) : Exit.inBlock id Q .ret a w := h
theorem e_bnormal (h : Q .normal a w) : Exit.inBlock id Q .normal a w := h
theorem e_bexit {id' : Nat} (he : Nat.beq id' id = true) (h : Q .normal a w) : Exit.inBlock id Q (.exit id') a w := by
 show if id' = id then Q .normal a w else Q (.exit id') a w
 rw [if_pos (Nat.eq_of_beq_eq_true he)]
 exact h
theorem e_bother {id' : Nat} (he : Nat.beq id' id = false) (h : Q (.exit id') a w) : Exit.inBlock id Q (.exit id') a w := by
 show if id' = id then Q .normal a w else Q (.exit id') a w
 rw [if_neg (Nat.ne_of_beq_eq_false he)]
 exact h
theorem c_round {c : Code} (m : Nat) (h : c.wp P (Exit.then (Code.rounds P c Q m) Q) a w) : Code.rounds P c Q (m + 1) a w := h
theorem pan_then (h : ∀ c a o v w, Q (.panic c) (Act.put a o v) w → Q (.panic c) a w) : ∀ c a o v w, Exit.then K Q (.panic c) (Act.put a o v) w → Exit.then K Q (.panic c) a w := h
theorem pan_block (h : ∀ c a o v w, Q (.panic c) (Act.put a o v) w → Q (.panic c) a w) : ∀ c a o v w, Exit.inBlock id Q (.panic c) (Act.put a o v) w → Exit.inBlock id Q (.panic c) a w := h
theorem pan_body {fn : Func} {R : Ending → World → Prop} : ∀ c a o v w, bodyPost P fn R (.panic c) (Act.put a o v) w → bodyPost P fn R (.panic c) a w := fun c a o v w h => by
 cases o <;> exact h
end
section
variable {ops : Array Oper} {Q : Exit → Act → World → Prop} {a : Act} {w0 w : World} {H : Hm} {n : Nat} {L : Fm} {id : Nat}
theorem c_drawn (ds ord : List Nat) (hH : Hp w0 w H) (hc : chkD ops ds ord = true) (hQ : ∀ c a o v w, Q (.panic c) (Act.put a o v) w → Q (.panic c) a w)
  (h : ∀ w', Hp w0 w' H → dL Tryz.prog ops Q (fun w => Hp w0 w H) ds ord a w') : (Code.region id ops true).wp Tryz.prog Q a w := by
 have h1 : Hp w0 w.drew H := hH.of_below ⟨rfl, rfl, rfl, Nat.le_refl _, fun _ _ => rfl⟩
 exact drawn_seq ds ord (fun w => Hp w0 w H) mixed hc hQ h1 (h _ h1)
end
end Go.Proofs.YtlkikblohnnlcaaGreatDoor.X
end
section
namespace Go.Proofs.YtlkikblohnnlcaaGreatDoor.X
open Go Go.RowKit Go.Proofs.YtlkikblohnnlcaaGreatDoorW.PrintLast
set_option linter.unusedVariables false
noncomputable def byOk (e : Nat × Nat) : Bool := match Tryz.prog.info? e.1 with
 | some i => Nat.beq i.bytes e.2
 | none => false
def tabBy : List (Nat × Nat) := [(3, 8), (4, 1), (5, 1), (9, 16), (20, 16), (27, 88), (44, 680), (50, 168), (70, 8), (72, 8), (83, 120), (139, 24), (168, 40), (171, 32), (240, 48), (251, 8)]
theorem allBy : tabBy.all byOk = true := by kernel_rfl
theorem el_of {T e sz : Nat} (h : tb tabEl T = some (e, sz)) : Tryz.prog.underlying T = some (.slice e) ∧ sizeB Tryz.prog e sz = true := by
 have h1 := tb_all allEl h
 unfold elOk at h1
 dsimp only at h1
 cases hu : Tryz.prog.underlying T with
 | none => rw [hu] at h1; cases h1
 | some D =>
  rw [hu] at h1
  cases D <;> simp only [Bool.false_eq_true, Bool.and_eq_true] at h1
  obtain ⟨h2, h3⟩ := h1
  obtain rfl := Nat.eq_of_beq_eq_true h2
  exact ⟨rfl, h3⟩
theorem size_of {e sz : Nat} (h : sizeB Tryz.prog e sz = true) : ∃ i, Tryz.prog.info? e = some i ∧ i.size = sz := by
 unfold sizeB at h
 cases hi : Tryz.prog.info? e with
 | none => rw [hi] at h; cases h
 | some i => rw [hi] at h; exact ⟨i, rfl, by simpa using h⟩
theorem by_of {e b : Nat} (h : tb tabBy e = some b) {i : TypeInfo} (hi : Tryz.prog.info? e = some i) : i.bytes = b := by
 have := tb_all allBy h
 unfold byOk at this
 simp only [hi] at this
 exact Nat.eq_of_beq_eq_true this
def lit1 : List (Nat × Value) → Nat → Option (List Value)
 | [], _ => some []
 | (i, v) :: r, k => cond (Nat.beq i k && one v) (match lit1 r (k + 1) with
  | some l => some (v :: l)
  | none => none) none
theorem lit1_eq : ∀ (ps : List (Nat × Value)) (k : Nat) (l : List Value), lit1 ps k = some l → l.length = ps.length ∧
  ∀ (pre post : List Value), pre.length = k → post.length = l.length → Instr.fill (fun i => some (i * 1, 1)) (pre ++ post).toArray ps = some (pre ++ l).toArray
 | [], k, l, h => by
  obtain rfl : [] = l := by simpa [lit1] using h
  refine ⟨rfl, fun pre post h1 h2 => ?_⟩
  have : post = [] := List.eq_nil_of_length_eq_zero (by simpa using h2)
  simp [Instr.fill, this]
 | (i, v) :: r, k, l, h => by
  unfold lit1 at h
  cases hc : (Nat.beq i k && one v) with
  | false => rw [hc] at h; cases h
  | true =>
   rw [hc] at h
   dsimp only [cond] at h
   rw [Bool.and_eq_true] at hc
   obtain rfl : i = k := Nat.eq_of_beq_eq_true hc.1
   cases hr : lit1 r (i + 1) with
   | none => rw [hr] at h; cases h
   | some l1 =>
    rw [hr] at h
    obtain rfl := Option.some.inj h
    obtain ⟨h1, h2⟩ := lit1_eq r (i + 1) l1 hr
    refine ⟨by simp [h1], fun pre post hp hq => ?_⟩
    cases post with
    | nil => simp at hq
    | cons x post =>
     unfold Instr.fill
     have hv : v.cells = #[v] := by cases v <;> simp [one] at hc <;> rfl
     simp only [hv]
     have hsz : ¬ (decide ((#[v] : Array Value).size ≠ 1) || decide (i * 1 + (#[v] : Array Value).size > (pre ++ x :: post).toArray.size)) = true := by
      simp
      omega
     rw [if_neg hsz]
     have : ((#[v] : Array Value).zipIdx.foldl (fun (cs : Array Value) (p : Value × Nat) => cs.setIfInBounds (i * 1 + p.2) p.1) (pre ++ x :: post).toArray) = ((pre ++ [v]) ++ post).toArray := by
      simp
      rw [List.set_append_right _ _ (by omega)]
      simp [hp]
     rw [this]
     have := h2 (pre ++ [v]) post (by simp [hp]) (by simpa using hq)
     rw [this]
     simp
section
variable {ops : Array Oper} {Q : Exit → Act → World → Prop} {S : World → Prop} {ds : List Nat} {rest : List Oper} {r : List Nat} {a : Act} {w0 w w' : World} {n i : Nat} {L L1 : Fm} {d : Nat} {v : Value} {o : Oper} {H H' HS : Hm}
variable {ty : TypeId} {pos : String} {af : Array Edge} {g : Option (Nat × Bool)} {x y z : Operand} {u : Value} {op : Op}
theorem r_bs {T e len : Nat} {parts : Array (Nat × Operand)} {ps : List (Nat × Value)} {l zl : List Value} (hF : Fr a n L) (hT : tb tabEl T = some (e, 1)) (hz : tb tabZ e = some zl) (hps : evp L parts.toList = some ps) (hl : lit1 ps 0 = some l) (hlen : Nat.beq l.length len = true) (hpos : Nat.blt 0 len = true) (hsm : Nat.ble len 1000 = true) :
  (execOp a.eval ⟨some d, .buildSlice T len parts, ty, pos, af, g⟩).run Tryz.prog w = .ok (.value (.slice (some ⟨w.heap.size, 0, none⟩) len len)) (w.alloc (.cells l.toArray e)) := by
 obtain ⟨hu, hs⟩ := el_of hT
 obtain ⟨i, zv, hi, hzi, hzc⟩ := zero_of hz
 have hsz : i.size = 1 := by
  obtain ⟨i', hi', h1⟩ := size_of hs
  rw [hi] at hi'
  obtain rfl := Option.some.inj hi'
  exact h1
 have hlen' : l.length = len := Nat.eq_of_beq_eq_true hlen
 have hpos' : 0 < len := Nat.le_of_ble_eq_true hpos
 have hsm' : len ≤ 1000 := Nat.le_of_ble_eq_true hsm
 have he : (parts.map fun (i, x) => (i, a.eval x)).toList = ps := by rw [Array.toList_map]; exact hF.evp hps
 obtain ⟨_, hfill⟩ := lit1_eq ps 0 l hl
 have hf := hfill [] (((Array.range (len * i.size)).map (zv.cells[· % zv.cells.size]!)).toList) rfl (by rw [hlen', hsz]; simp)
 rw [List.nil_append, List.nil_append, Array.toArray_toList, hsz] at hf
 have := run_buildSlice (P := Tryz.prog) w T e len (parts.map fun (i, x) => (i, a.eval x)) l.toArray i zv hu hi hzi (by rw [hsz]; omega) (by rw [hsz]; omega) (by rw [he, hsz]; exact hf)
 simp [execOp, this]
theorem s_bs {T e len : Nat} {parts : Array (Nat × Operand)} {ps : List (Nat × Value)} {l zl : List Value} (hF : Fr a n L) (hH : Hp w0 w H) (hg : wt ops L g = some true) (hn : Nat.ble (d + 1) n = true) (hT : tb tabEl T = some (e, 1)) (hz : tb tabZ e = some zl) (hps : evp L parts.toList = some ps) (hl : lit1 ps 0 = some l) (hlen : Nat.beq l.length len = true) (hpos : Nat.blt 0 len = true) (hsm : Nat.ble len 1000 = true) (hL : dl L d [] = some L1)
  (k : ∀ a' b w', Fr a' n ((d, .slice (some ⟨b, 0, none⟩) len len) :: L1) → Hp w0 w' ((b, .cells l.toArray e) :: H) → wpList Tryz.prog ops Q rest a' w') : wpList Tryz.prog ops Q (⟨some d, .buildSlice T len parts, ty, pos, af, g⟩ :: rest) a w :=
 x_core hF rfl hg hn hL (r_bs hF hT hz hps hl hlen hpos hsm) (fun a' h => k a' _ _ h (hH.alloc _))
theorem r_bs0 {T e sz : Nat} (hT : tb tabEl T = some (e, sz)) : (execOp a.eval ⟨some d, .buildSlice T 0 #[], ty, pos, af, g⟩).run Tryz.prog w = .ok (.value (.slice (some ⟨w.heap.size, 0, none⟩) 0 0)) (w.alloc (.cells #[] e)) := by
 obtain ⟨hu, hs⟩ := el_of hT
 have h0 : (Array.map (fun _ => (default : Value)) (Array.range 0)) = #[] := by simp [Array.range]
 simp [execOp, Instr.buildSlice, run_underlying hu, run_sizeOf hs, Instr.fill, newRow, h0]
theorem s_bs0 {T e sz : Nat} (hF : Fr a n L) (hH : Hp w0 w H) (hg : wt ops L g = some true) (hn : Nat.ble (d + 1) n = true) (hT : tb tabEl T = some (e, sz)) (hL : dl L d [] = some L1)
  (k : ∀ a' b w', Fr a' n ((d, .slice (some ⟨b, 0, none⟩) 0 0) :: L1) → Hp w0 w' ((b, .cells ([] : List Value).toArray e) :: H) → wpList Tryz.prog ops Q rest a' w') : wpList Tryz.prog ops Q (⟨some d, .buildSlice T 0 #[], ty, pos, af, g⟩ :: rest) a w :=
 x_core hF rfl hg hn hL (r_bs0 hT) (fun a' h => k a' _ _ h (hH.alloc _))
theorem exec_append {s x : Operand} {T : Nat} {va vx : Value} (hF : Fr a n L) (hs : ev L s = some va) (hx : ev L x = some vx) {w1 : World} (h : (Builtin.append_ #[T, T] ty #[va, vx]).run Tryz.prog w = .ok v w1) :
  (execOp a.eval ⟨some d, .call ⟨.builtin .append, #[s, x], #[T, T]⟩, ty, pos, af, g⟩).run Tryz.prog w = .ok (.value v) w1 := by
 simp [execOp, resolve, invoke, builtin, hF.ev hs, hF.ev hx, h]
theorem s_app0 {T e sz m c : Nat} {A : Option Addr} {s x : Operand} (hF : Fr a n L) (hg : wt ops L g = some true) (hn : Nat.ble (d + 1) n = true) (hT : tb tabEl T = some (e, sz)) (hs : ev L s = some (.slice A m c)) (hx : ev L x = some (.slice none 0 0)) (hm : Nat.ble m c = true) (hL : dl L d [] = some L1)
  (k : ∀ a', Fr a' n ((d, .slice A m c) :: L1) → wpList Tryz.prog ops Q rest a' w) : wpList Tryz.prog ops Q (⟨some d, .call ⟨.builtin .append, #[s, x], #[T, T]⟩, ty, pos, af, g⟩ :: rest) a w := by
 obtain ⟨hu, hs'⟩ := el_of hT
 have hm' := Nat.le_of_ble_eq_true hm
 refine x_core hF rfl hg hn hL (exec_append hF hs hx (w1 := w) (v := .slice A m c) ?_) k
 cases A <;> simp [Builtin.append_, run_underlying hu, run_sizeOf hs', Builtin.lenOf, Builtin.firstCells, hm', storeCells]
theorem firsts {w0 w : World} {H : Hm} (hH : Hp w0 w H) {i b j m : Nat} {cs vs : List Value} {t : TypeId} {fr : Nat × Nat} (hi : H[i]? = some (b, .cells cs.toArray t fr)) (hc : cut cs j m [] = some vs) : vs.length = m ∧ ∀ q v, vs[q]? = some v → w.cell? ((⟨b, j, none⟩ : Addr).add q) = some v := by
 obtain ⟨q, h1, h2, h3⟩ := cut_eq _ _ _ _ _ hc
 simp only [List.reverse_nil, List.nil_append] at h1
 subst h1
 exact ⟨h2, fun p v hv => by rw [addr_add]; exact hH.cell hi (h3 p v hv)⟩
theorem s_app (q : Nat) {T e sz bytes m c b j m' : Nat} {A : Option Addr} {s x : Operand} {zl cs vs : List Value} {t : TypeId} {fr : Nat × Nat} (hF : Fr a n L) (hH : Hp w0 w H) (hg : wt ops L g = some true) (hn : Nat.ble (d + 1) n = true) (hT : tb tabEl T = some (e, sz)) (hz : tb tabZ e = some zl) (hb : tb tabBy e = some bytes)
  (hs : ev L s = some (.slice A 0 0)) (hx : ev L x = some (.slice (some ⟨b, j, none⟩) m c)) (hi : H[q]? = some (b, .cells cs.toArray t fr)) (hmm : m * sz = m') (hc : cut cs j m' [] = some vs) (h0 : Nat.blt 0 m = true) (h1 : Nat.ble m 1000 = true) (h2 : Nat.ble bytes 100000 = true) (hL : dl L d [] = some L1)
  (k : ∀ a' b' c' Z w', Nat.ble m c' = true → Fr a' n ((d, .slice (some ⟨b', 0, none⟩) m c') :: L1) → Hp w0 w' ((b', .cells (vs ++ Z : List Value).toArray e) :: H) → wpList Tryz.prog ops Q rest a' w') : wpList Tryz.prog ops Q (⟨some d, .call ⟨.builtin .append, #[s, x], #[T, T]⟩, ty, pos, af, g⟩ :: rest) a w := by
 obtain ⟨hu, hs'⟩ := el_of hT
 obtain ⟨i, zv, hi', hzi, hzc⟩ := zero_of hz
 have hsz : i.size = sz := by
  obtain ⟨i', hi2, h1⟩ := size_of hs'
  rw [hi'] at hi2
  obtain rfl := Option.some.inj hi2
  exact h1
 have hby := by_of hb hi'
 have h0' : 0 < m := Nat.le_of_ble_eq_true h0
 have h1' : m ≤ 1000 := Nat.le_of_ble_eq_true h1
 have h2' : bytes ≤ 100000 := Nat.le_of_ble_eq_true h2
 obtain ⟨hvl, hvs⟩ := firsts hH hi hc
 have hbb : m * i.bytes ≤ 281474976710656 := by
  rw [hby]
  exact Nat.le_trans (Nat.mul_le_mul h1' h2') (by decide)
 have hcap : m ≤ grownCap w m 0 e := by
  unfold grownCap
  simp [Question.cut]
 have hZ : ∀ (k : Nat), ∃ Z : List Value, vs.toArray ++ Builtin.zeroCells zv.cells k = (vs ++ Z).toArray := fun k => ⟨(Builtin.zeroCells zv.cells k).toList, by apply Array.ext'; simp⟩
 have hdr : Hp w0 w.drew H := hH.of_below ⟨rfl, rfl, rfl, Nat.le_refl _, fun _ _ => rfl⟩
 cases A with
 | none =>
  have hr := run_append_nil (P := Tryz.prog) (w := w) T ty e i zv hu hi' hzi ⟨b, j, none⟩ m c vs (by rw [hvl, hsz, hmm]) hvs h0' (by omega) hbb
  obtain ⟨Z, hZ⟩ := hZ (grownCap w m 0 e - m)
  rw [hZ] at hr
  exact x_core hF rfl hg hn hL (exec_append hF hs hx hr) (fun a' h => k a' _ _ Z _ (Nat.ble_eq_true_of_le hcap) h (hdr.alloc _))
 | some A =>
  have hr := run_append_grow (P := Tryz.prog) (w := w) T ty e i zv hu hi' hzi A 0 0 [] (by simp) (by simp) ⟨b, j, none⟩ m c vs (by rw [hvl, hsz, hmm]) hvs (by omega) (by omega) (by
   rw [Nat.zero_add, nextslicecap_zero h0']; exact hbb)
  rw [Nat.zero_add] at hr
  obtain ⟨Z, hZ⟩ := hZ (grownCap w m 0 e - m)
  simp only [Array.append_assoc] at hr
  rw [hZ] at hr
  have : (([] : List Value).toArray ++ (vs ++ Z).toArray) = (vs ++ Z).toArray := by simp
  rw [this] at hr
  exact x_core hF rfl hg hn hL (exec_append hF hs hx hr) (fun a' h => k a' _ _ Z _ (Nat.ble_eq_true_of_le hcap) h (hdr.alloc _))
end
end Go.Proofs.YtlkikblohnnlcaaGreatDoor.X
end
section
namespace Go.Proofs.YtlkikblohnnlcaaGreatDoor.X
open Go Go.RowKit Go.Proofs.YtlkikblohnnlcaaGreatDoorW.PrintLast
set_option linter.unusedVariables false
section
variable {ops : Array Oper} {Q : Exit → Act → World → Prop} {S : World → Prop} {ds : List Nat} {rest : List Oper} {r : List Nat} {a : Act} {w0 w w' : World} {n i : Nat} {L L1 : Fm} {d : Nat} {v : Value} {o : Oper} {H H' HS : Hm}
variable {ty : TypeId} {pos : String} {af : Array Edge} {g : Option (Nat × Bool)} {x y z : Operand} {u : Value} {op : Op}
theorem r_ix {T e sz b j m c q : Nat} {kk : IntKind} (hF : Fr a n L) (hT : tb tabEl T = some (e, sz)) (hx : ev L x = some (.slice (some ⟨b, j, none⟩) m c)) (hy : ev L y = some (.int kk (Int.ofNat q))) (hq : Nat.blt q m = true) (w : World) :
  (execOp a.eval ⟨some d, .indexAddr T x y, ty, pos, af, g⟩).run Tryz.prog w = .ok (.value (.pointer (some ⟨b, j + q * sz, none⟩))) w := by
 obtain ⟨hu, hs⟩ := el_of hT
 have hq' : q < m := Nat.le_of_ble_eq_true hq
 simp [execOp, hF.ev hx, hF.ev hy, Instr.indexAt, asIntOf, run_underlying hu, hq', run_sizeOf hs, addr_add]
theorem s_ix {T e sz b j m c q : Nat} {kk : IntKind} (hF : Fr a n L) (hg : wt ops L g = some true) (hn : Nat.ble (d + 1) n = true) (hT : tb tabEl T = some (e, sz)) (hx : ev L x = some (.slice (some ⟨b, j, none⟩) m c)) (hy : ev L y = some (.int kk (Int.ofNat q))) (hq : Nat.blt q m = true) (hL : dl L d [] = some L1)
  (k : ∀ a', Fr a' n ((d, .pointer (some ⟨b, j + q * sz, none⟩)) :: L1) → wpList Tryz.prog ops Q rest a' w) : wpList Tryz.prog ops Q (⟨some d, .indexAddr T x y, ty, pos, af, g⟩ :: rest) a w :=
 x_core hF rfl hg hn hL (r_ix hF hT hx hy hq w) k
theorem d_ix {T e sz b j m c q : Nat} {kk : IntKind} (hF : Fr a n L) (ho : ops[i]? = some ⟨some d, .indexAddr T x y, ty, pos, af, g⟩) (hg : wt ops L g = some true) (hn : Nat.ble (d + 1) n = true) (hT : tb tabEl T = some (e, sz)) (hx : ev L x = some (.slice (some ⟨b, j, none⟩) m c)) (hy : ev L y = some (.int kk (Int.ofNat q))) (hq : Nat.blt q m = true) (hL : dl L d [] = some L1)
  (k : ∀ a', Fr a' n ((d, .pointer (some ⟨b, j + q * sz, none⟩)) :: L1) → dL Tryz.prog ops Q S ds r a' w) : dL Tryz.prog ops Q S ds (i :: r) a w := by
 unfold dL
 refine ⟨_, ho, ?_⟩
 simp only [kd]
 exact ⟨_, .inl ⟨hF.wt hg, fun w => r_ix hF hT hx hy hq w⟩, k _ (hF.put hn hL)⟩
theorem rv_ex {α : Type} : ∀ (l acc : List α), ∃ r, rv l acc = some r
 | [], acc => ⟨acc, rfl⟩
 | x :: r, acc => rv_ex r (x :: acc)
theorem sa_ex {α : Type} : ∀ (l : List α) (i : Nat) (y : α) (acc : List α), ∃ r, sa l i y acc = some r
 | [], i, y, acc => rv_ex acc []
 | x :: r, 0, y, acc => rv_ex acc (y :: r)
 | x :: r, i + 1, y, acc => sa_ex r i y (x :: acc)
theorem run_storeCells_own {w0 : World} {b j : Nat} {t : TypeId} : ∀ (vs : List Value) (w : World) (H : Hm) (q p : Nat) (cs cs' : List Value) (H' : Hm), Hp w0 w H → H[q]? = some (b, .cells cs.toArray t (0, 0)) → (∀ v ∈ vs, one v = true) → j + p + vs.length ≤ cs.length → ins cs (j + p) vs = some cs' →
  sa H q (b, .cells cs'.toArray t (0, 0)) [] = some H' → ∃ w', (storeCells ⟨b, j, none⟩ vs p).run Tryz.prog w = .ok () w' ∧ Hp w0 w' H'
 | [], w, H, q, p, cs, cs', H', hH, hi, _, _, hins, hH' => by
  obtain rfl : cs = cs' := by simpa [ins] using hins
  refine ⟨w, by simp [storeCells], ?_⟩
  have := sa_eq _ _ _ _ _ hH'
  simp only [List.reverse_nil, List.nil_append] at this
  rw [this, show H.set q (b, Obj.cells cs.toArray t) = H from ?_]
  ·exact hH
  ·apply List.ext_getElem?
   intro k
   by_cases hk : q = k
   ·subst hk
    rw [List.getElem?_set_self (List.getElem?_eq_some_iff.1 hi).1, hi]
   ·rw [List.getElem?_set_ne hk]
 | v :: vs, w, H, q, p, cs, cs', H', hH, hi, hone, hlen, hins, hH' => by
  unfold ins at hins
  cases h1 : sa cs (j + p) v [] with
  | none => rw [h1] at hins; cases hins
  | some c1 =>
   rw [h1] at hins
   have e1 := sa_eq _ _ _ _ _ h1
   simp only [List.reverse_nil, List.nil_append] at e1
   simp only [List.length_cons] at hlen
   have hj : j + p < cs.length := by omega
   obtain ⟨H1, hH1⟩ := sa_ex H q (b, Obj.cells c1.toArray t (0, 0)) []
   have hcell := hH.setCell (v := v) hi h1 hH1
   have e2 := sa_eq _ _ _ _ _ hH1
   simp only [List.reverse_nil, List.nil_append] at e2
   have hq := (List.getElem?_eq_some_iff.1 hi).1
   have hi1 : H1[q]? = some (b, .cells c1.toArray t (0, 0)) := by rw [e2, List.getElem?_set_self hq]
   have hH'1 : sa H1 q (b, .cells cs'.toArray t (0, 0)) [] = some H' := by
    have hh := sa_eq _ _ _ _ _ hH'
    simp only [List.reverse_nil, List.nil_append] at hh
    obtain ⟨r, hr⟩ := sa_ex H1 q (b, Obj.cells cs'.toArray t (0, 0)) []
    have := sa_eq _ _ _ _ _ hr
    simp only [List.reverse_nil, List.nil_append] at this
    rw [hr, this, hh, e2, List.set_set]
   obtain ⟨w', hr, hw⟩ := run_storeCells_own vs _ H1 q (p + 1) c1 cs' H' hcell hi1 (fun u hu => hone u (List.mem_cons_of_mem _ hu)) (by rw [e1, List.length_set]; omega) hins hH'1
   refine ⟨w', ?_, hw⟩
   unfold storeCells
   have hv : one v = true := hone v List.mem_cons_self
   have hc0 : w.cell? ⟨b, j + p, none⟩ = some cs[j + p] := hH.cell hi (List.getElem?_eq_getElem hj)
   have hf := hH.frozen (j := j + p) hi
   have hst : (store ⟨b, j + p, none⟩ v).run Tryz.prog w = .ok () (w.setCell ⟨b, j + p, none⟩ v) := by
    cases v <;> simp [one] at hv <;> simp [store, Sem.run, hc0, hf]
   simp only [Sem.run_bind, addr_add, hst, Result.andThen_ok]
   exact hr
def rmv : Hm → Nat → Hm → Option Hm
 | [], _, _ => none
 | x :: r, 0, acc => rv acc r
 | x :: r, k + 1, acc => rmv r k (x :: acc)
theorem rmv_sub : ∀ (l : Hm) (k : Nat) (acc l' : Hm), rmv l k acc = some l' → l'.Sublist (acc.reverse ++ l)
 | [], _, _, _, h => by cases h
 | x :: r, 0, acc, l', h => by
  rw [rv_eq _ _ _ (show rv acc r = some l' from h)]
  exact List.Sublist.append_left (List.sublist_cons_self _ _) _
 | x :: r, k + 1, acc, l', h => by
  have := rmv_sub r k (x :: acc) l' h
  simpa using this
theorem Hp.rm {w0 w : World} {H H' : Hm} (h : Hp w0 w H) (k : Nat) (hr : rmv H k [] = some H') : Hp w0 w H' := h.sub (by simpa using rmv_sub H k [] H' hr)
def ones : List Value → Bool
 | [] => true
 | v :: r => cond (one v) (ones r) false
theorem ones_all : ∀ {l : List Value}, ones l = true → ∀ v ∈ l, one v = true
 | [], _, v, h => by cases h
 | x :: r, h, v, hv => by
  unfold ones at h
  cases hx : one x with
  | false => rw [hx] at h; cases h
  | true =>
   rw [hx] at h
   rcases List.mem_cons.1 hv with rfl | hv
   ·exact hx
   ·exact ones_all h v hv
theorem s_sta (q : Nat) {T b j m : Nat} {cs cs' vs : List Value} {t : TypeId} (hF : Fr a n L) (hH : Hp w0 w H) (hg : wt ops L g = some true)
  (hx : ev L x = some (.pointer (some ⟨b, j, none⟩))) (hy : ev L y = some (.agg vs.toArray)) (hi : H[q]? = some (b, .cells cs.toArray t (0, 0))) (hT : tb tabSz T = some m) (hm : Nat.beq vs.length m = true) (hle : Nat.ble (j + vs.length) cs.length = true) (hv : ones vs = true) (hc : ins cs j vs = some cs') (hH' : sa H q (b, .cells cs'.toArray t (0, 0)) [] = some H')
  (k : ∀ w', Hp w0 w' H' → wpList Tryz.prog ops Q rest a w') : wpList Tryz.prog ops Q (⟨none, .store T x y, ty, pos, af, g⟩ :: rest) a w := by
 have hA : aggB Tryz.prog T m = true := tb_all allSz hT
 have hs : sizeB Tryz.prog T m = true := by unfold aggB at hA; rw [Bool.and_eq_true] at hA; exact hA.2
 obtain ⟨w', hr, hw⟩ := run_storeCells_own (j := j) vs w H q 0 cs cs' H' hH hi (ones_all hv) (by have := Nat.le_of_ble_eq_true hle; omega) hc hH'
 refine x_core0 (w' := w') hF rfl hg ?_ (k _ hw)
 have hm' := Nat.eq_of_beq_eq_true hm
 simp only [execOp, hF.ev hx, hF.ev hy, Instr.storeAt, Instr.sureAddr, Sem.run_bind, Sem.run_pure, Result.andThen_ok, storeVar, run_sizeOf hs, Value.cells, List.size_toArray, hm']
 simp [hr]
end
end Go.Proofs.YtlkikblohnnlcaaGreatDoor.X
end
section
namespace Go.Proofs.YtlkikblohnnlcaaGreatDoor.X
open Go Go.RowKit
def frt : Hm → Nat → Hm → Option Hm
 | [], _, _ => none
 | x :: r, 0, acc => match rv acc r with
  | some l => some (x :: l)
  | none => none
 | x :: r, k + 1, acc => frt r k (x :: acc)
theorem frt_perm : ∀ (l : Hm) (k : Nat) (acc l' : Hm), frt l k acc = some l' → l'.Perm (acc.reverse ++ l)
 | [], _, _, _, h => by cases h
 | x :: r, 0, acc, l', h => by
  unfold frt at h
  cases h1 : rv acc r with
  | none => rw [h1] at h; cases h
  | some m =>
   rw [h1] at h
   obtain rfl := Option.some.inj h
   rw [rv_eq _ _ _ h1]
   exact List.perm_middle.symm
 | x :: r, k + 1, acc, l', h => by
  have := frt_perm r k (x :: acc) l' h
  simpa using this
theorem Hp.front {w0 w : World} {H H' : Hm} (h : Hp w0 w H) (k : Nat) (hr : frt H k [] = some H') : Hp w0 w H' := by
 have hp : H'.Perm H := by simpa using frt_perm H k [] H' hr
 exact ⟨h.below, fun e he => h.get e (hp.mem_iff.1 he), (hp.pairwise_iff (fun h => Ne.symm h)).2 h.nd⟩
section
variable {P : Program} {ops : Array Oper} {Q : Exit → Act → World → Prop} {K B : Act → World → Prop} {a : Act} {w : World}
theorem c_nilK (hK : ∀ a w, B a w → K a w) (h : B a w) : wpList P ops (Exit.then K Q) [] a w := hK _ _ h
theorem c_dnilK {S : World → Prop} {ds : List Nat} (hK : ∀ a w, B a w → K a w) (h : B a w) : dL P ops (Exit.then K Q) S ds [] a w := by unfold dL; exact hK _ _ h
theorem e_thenK (hK : ∀ a w, B a w → K a w) (h : B a w) : Exit.then K Q .normal a w := hK _ _ h
theorem c_roundK {c : Code} (m : Nat) (h : ∀ K : Act → World → Prop, (∀ a w, Code.rounds P c Q m a w → K a w) → c.wp P (Exit.then K Q) a w) : Code.rounds P c Q (m + 1) a w := h _ (fun _ _ h => h)
theorem c_open {fn : Func} {R : Ending → World → Prop} {c : Code} (h : ∀ Q : Exit → Act → World → Prop, (∀ c a o v w, Q (.panic c) (Act.put a o v) w → Q (.panic c) a w) → (∀ a w, bodyPost P fn R .ret a w → Q .ret a w) → (∀ a w, bodyPost P fn R .normal a w → Q .normal a w) → c.wp P Q a w) : c.wp P (bodyPost P fn R) a w := h _ pan_body (fun _ _ h => h) (fun _ _ h => h)
end
section
variable {P : Program} {ops : Array Oper} {Q : Exit → Act → World → Prop} {S : World → Prop} {ds : List Nat} {rest : List Oper} {r : List Nat} {i : Nat} {a : Act} {w : World} {o : Oper} {dst : Option Tmp} {T : TypeId} {x y : Operand} {c : Go.Call} {ty : TypeId} {pos : String} {af : Array Edge} {g : Option (Nat × Bool)}
theorem is_list (h : wpList P ops Q (o :: rest) a w) : wpList P ops Q (o :: rest) a w := h
theorem is_load (h : wpList P ops Q (⟨dst, .load T x, ty, pos, af, g⟩ :: rest) a w) : wpList P ops Q (⟨dst, .load T x, ty, pos, af, g⟩ :: rest) a w := h
theorem is_store (h : wpList P ops Q (⟨dst, .store T x y, ty, pos, af, g⟩ :: rest) a w) : wpList P ops Q (⟨dst, .store T x y, ty, pos, af, g⟩ :: rest) a w := h
theorem is_call (h : wpList P ops Q (⟨dst, .call c, ty, pos, af, g⟩ :: rest) a w) : wpList P ops Q (⟨dst, .call c, ty, pos, af, g⟩ :: rest) a w := h
theorem is_draw (h : dL P ops Q S ds (i :: r) a w) : dL P ops Q S ds (i :: r) a w := h
theorem is_dload (ho : ops[i]? = some ⟨dst, .load T x, ty, pos, af, g⟩) (h : dL P ops Q S ds (i :: r) a w) : dL P ops Q S ds (i :: r) a w := h
theorem is_dstore (ho : ops[i]? = some ⟨dst, .store T x y, ty, pos, af, g⟩) (h : dL P ops Q S ds (i :: r) a w) : dL P ops Q S ds (i :: r) a w := h
theorem is_dcall (ho : ops[i]? = some ⟨dst, .call c, ty, pos, af, g⟩) (h : dL P ops Q S ds (i :: r) a w) : dL P ops Q S ds (i :: r) a w := h
theorem is_region {id : Nat} {d : Bool} (h : (Code.region id ops d).wp P Q a w) : (Code.region id ops d).wp P Q a w := h
end
end Go.Proofs.YtlkikblohnnlcaaGreatDoor.X
end
section
namespace Go.Proofs.YtlkikblohnnlcaaGreatDoor.X
open Go Go.RowKit Go.Proofs.YtlkikblohnnlcaaGreatDoorW.PrintLast
open Go.ChangeMaps (setBlock)
set_option linter.unusedVariables false
theorem heap_setBlk {w : World} {b : Nat} {o : Obj} (hb : w.heap[b]? = some o) (o' : Obj) : (setBlock w b o').heap[b]? = some o' := by
 have := (Array.getElem?_eq_some_iff.1 hb).1
 simp [setBlock, this]
theorem heap_setBlk_ne {w : World} {b c : Nat} (o' : Obj) (h : b ≠ c) : (setBlock w b o').heap[c]? = w.heap[c]? := by
 simp [setBlock, h]
theorem Hp.setBlk {w0 w : World} {H H' : Hm} (h : Hp w0 w H) {i b : Nat} {o o' : Obj} (hi : H[i]? = some (b, o)) (hH : sa H i (b, o') [] = some H') : Hp w0 (setBlock w b o') H' := by
 obtain rfl : H' = H.set i (b, o') := by simpa using sa_eq _ _ _ _ _ hH
 have hm : (b, o) ∈ H := List.mem_of_getElem? hi
 obtain ⟨hl, hie⟩ := List.getElem?_eq_some_iff.1 hi
 have hb := h.get _ hm
 refine ⟨⟨h.below.os, h.below.tape, h.below.output, by simpa [setBlock] using h.below.size, fun k hk => ?_⟩, fun e he => ?_, ?_⟩
 ·have : b ≠ k := by have := hb.1; simp only at this; omega
  rw [heap_setBlk_ne o' this]
  exact h.below.block k hk
 ·rcases List.mem_or_eq_of_mem_set he with he1 | rfl
  ·have h1 := h.get e he1
   refine ⟨h1.1, ?_⟩
   by_cases hbe : b = e.1
   ·obtain ⟨k, hk, hke⟩ := List.getElem_of_mem he
    rw [List.length_set] at hk
    by_cases hik : i = k
    ·subst hik
     rw [List.getElem_set_self] at hke
     subst hke
     exact heap_setBlk hb.2 o'
    ·rw [List.getElem_set_ne hik] at hke
     exfalso
     have hp := List.pairwise_iff_getElem.1 h.nd
     rcases Nat.lt_or_ge i k with hlt | hge
     ·have := hp i k hl hk hlt
      rw [hie, hke] at this
      exact this hbe
     ·have := hp k i hk hl (by omega)
      rw [hie, hke] at this
      exact this hbe.symm
   ·rw [heap_setBlk_ne o' hbe]
    exact h1.2
  ·exact ⟨hb.1, heap_setBlk hb.2 o'⟩
 ·have hmap : (H.set i (b, o')).map (·.1) = H.map (·.1) := by
   rw [List.map_set]
   apply List.ext_getElem?
   intro k
   by_cases hik : i = k
   ·subst hik
    rw [List.getElem?_set_self (by simpa using hl), List.getElem?_map, hi]
    rfl
   ·rw [List.getElem?_set_ne hik]
  have h1 : (H.map (·.1)).Pairwise (· ≠ ·) := List.pairwise_map.2 h.nd
  rw [← hmap] at h1
  exact List.pairwise_map.1 h1
theorem Hp.drew {w0 w : World} {H : Hm} (h : Hp w0 w H) : Hp w0 w.drew H := h.of_below ⟨rfl, rfl, rfl, Nat.le_refl _, fun _ _ => rfl⟩
theorem Hp.heap {w0 w : World} {H : Hm} (h : Hp w0 w H) {i b : Nat} {o : Obj} (hi : H[i]? = some (b, o)) : w.heap[b]? = some o := (h.get _ (List.mem_of_getElem? hi)).2
theorem map_of_k {T : Nat} (h : tb tabK T = some 2) : ∃ k e, Tryz.prog.underlying T = some (.map k e) := by
 obtain ⟨D, hD, hk, _, _⟩ := und_of_k h
 cases D <;> simp [kOf] at hk
 exact ⟨_, _, hD⟩
section
variable {ops : Array Oper} {Q : Exit → Act → World → Prop} {S : World → Prop} {ds : List Nat} {rest : List Oper} {r : List Nat} {a : Act} {w0 w w' : World} {n i : Nat} {L L1 : Fm} {d : Nat} {v : Value} {o : Oper} {H H' HS : Hm}
variable {ty : TypeId} {pos : String} {af : Array Edge} {g : Option (Nat × Bool)} {x y z : Operand} {u : Value} {op : Op}
theorem r_lenM {T m q : Nat} {es : Array MapEntry} {clock : Nat} {ts : Array TypeId} (hF : Fr a n L) (hx : ev L x = some (.map (some m))) (hT : tb tabK T = some 2) (hi : H[q]? = some (m, .map es clock)) (w : World) (hH : Hp w0 w H) :
  (execOp a.eval ⟨some d, .call { callee := .builtin .len, args := #[x], argTypes := #[T] }, ty, pos, af, g⟩).run Tryz.prog w = .ok (.value (.int .i64 es.size)) w := by
 obtain ⟨kk, e, hu⟩ := map_of_k hT
 simp [execOp, resolve, invoke, builtin, hF.ev hx, Builtin.len_, run_underlying hu, getObj, Sem.run, hH.heap hi, goInt]
theorem d_lenM (q : Nat) {T m : Nat} {es : Array MapEntry} {clock : Nat} (hF : Fr a n L) (hS : Hp w0 w HS) (ho : ops[i]? = some ⟨some d, .call { callee := .builtin .len, args := #[x], argTypes := #[T] }, ty, pos, af, g⟩) (hg : wt ops L g = some true) (hn : Nat.ble (d + 1) n = true) (hx : ev L x = some (.map (some m))) (hT : tb tabK T = some 2) (hi : HS[q]? = some (m, .map es clock)) (hL : dl L d [] = some L1)
  (k : ∀ a', Fr a' n ((d, .int .i64 es.size) :: L1) → dL Tryz.prog ops Q (fun w => Hp w0 w HS) ds r a' w) : dL Tryz.prog ops Q (fun w => Hp w0 w HS) ds (i :: r) a w :=
 d_rd hF ho hS rfl hg hn (fun w hH => r_lenM (ts := #[]) hF hx hT hi w hH) hL k
theorem s_rng (q : Nat) {T m : Nat} {es : Array MapEntry} {clock : Nat} (hF : Fr a n L) (hH : Hp w0 w H) (hg : wt ops L g = some true) (hn : Nat.ble (d + 1) n = true) (hx : ev L x = some (.map (some m))) (hT : tb tabK T = some 2) (hi : H[q]? = some (m, .map es clock)) (hL : dl L d [] = some L1)
  (k : ∀ a' b w', Fr a' n ((d, .pointer (some ⟨b, 0, none⟩)) :: L1) → Hp w0 w' ((b, .mapIter (some m) clock #[] clock) :: H) → wpList Tryz.prog ops Q rest a' w') : wpList Tryz.prog ops Q (⟨some d, .range T x, ty, pos, af, g⟩ :: rest) a w := by
 obtain ⟨kk, e, hu⟩ := map_of_k hT
 refine x_core (v := .pointer (some ⟨w.heap.size, 0, none⟩)) (w' := w.alloc (.mapIter (some m) clock #[] clock)) hF rfl hg hn hL ?_ (fun a' h => k a' _ _ h (hH.alloc _))
 simp [execOp, hF.ev hx, Instr.range, run_underlying hu, getObj, Sem.run, hH.heap hi, World.alloc_eq]
theorem s_nxt (q q' : Nat) {b m since c0 : Nat} {seen : Array Nat} {es : Array MapEntry} {clock : Nat} (hF : Fr a n L) (hH : Hp w0 w H) (hg : wt ops L g = some true) (hn : Nat.ble (d + 1) n = true) (hx : ev L x = some (.pointer (some ⟨b, 0, none⟩))) (hi : H[q]? = some (b, .mapIter (some m) since seen c0)) (hm : H[q']? = some (m, .map es clock)) (hold : ∀ x ∈ es.toList, x.born < since) (hsc : Nat.ble since c0 = true) (hL : dl L d [] = some L1)
  (hH' : ∀ o' : Obj, ∃ H', sa H q (b, o') [] = some H')
  (k0 : (leftOf es seen).size = 0 → ∀ a', Fr a' n ((d, .tuple #[.bool false]) :: L1) → wpList Tryz.prog ops Q rest a' w)
  (k1 : ∀ e ∈ es.toList, ∀ H', (leftOf es (seen.push e.born)).size < (leftOf es seen).size → sa H q (b, .mapIter (some m) since (seen.push e.born) clock) [] = some H' → ∀ a' w', Fr a' n ((d, .tuple #[.bool true, e.key, e.val]) :: L1) → Hp w0 w' H' → wpList Tryz.prog ops Q rest a' w') : wpList Tryz.prog ops Q (⟨some d, .next x false, ty, pos, af, g⟩ :: rest) a w := by
 rcases run_next_at (P := Tryz.prog) w ty b m since c0 seen es clock (hH.heap hi) (hH.heap hm) hold (Nat.le_of_ble_eq_true hsc) with ⟨h0, hr⟩ | ⟨e, he, w1, hal, hr⟩
 ·exact x_core (v := .tuple #[.bool false]) (w' := w) hF rfl hg hn hL (by simp [execOp, hF.ev hx, hr]) (k0 h0)
 ·obtain ⟨H', hH'⟩ := hH' (.mapIter (some m) since (seen.push e.born) clock)
  refine x_core (v := .tuple #[.bool true, e.key, e.val]) hF rfl hg hn hL (by simp only [execOp, hF.ev hx, Sem.run_bind, hr, Result.andThen_ok]; rfl) (fun a' h => k1 e (mem_left he).1 H' (left_shrinks es seen e he) hH' a' _ h ?_)
  have hw1 : Hp w0 w1 H := by rcases hal with rfl | rfl; exact hH; exact hH.drew
  exact hw1.setBlk hi hH'
theorem s_nxtE (q q' : Nat) {b m since c0 : Nat} {seen : Array Nat} {clock : Nat} (hF : Fr a n L) (hH : Hp w0 w H) (hg : wt ops L g = some true) (hn : Nat.ble (d + 1) n = true) (hx : ev L x = some (.pointer (some ⟨b, 0, none⟩))) (hi : H[q]? = some (b, .mapIter (some m) since seen c0)) (hm : H[q']? = some (m, .map #[] clock)) (hsc : Nat.ble since c0 = true) (hL : dl L d [] = some L1)
  (k0 : ∀ a', Fr a' n ((d, .tuple #[.bool false]) :: L1) → wpList Tryz.prog ops Q rest a' w) : wpList Tryz.prog ops Q (⟨some d, .next x false, ty, pos, af, g⟩ :: rest) a w := by
 refine s_nxt q q' hF hH hg hn hx hi hm (by simp) hsc hL (fun o' => sa_ex _ _ _ _) (fun _ => k0) ?_
 intro e he
 simp at he
theorem run_look0 {T k e : Nat} {mv kv z : Value} {D : TypeDesc} (ok : Bool) (hu : Tryz.prog.underlying T = some (.map k e)) (hk : Tryz.prog.underlying k = some .string) (hz : ∀ w, (zeroValue e).run Tryz.prog w = .ok z w) (w : World) {s : ByteArray}
  (hm : mv = .map none ∨ ∃ b c, mv = .map (some b) ∧ w.heap[b]? = some (.map #[] c)) : (Instr.lookup T mv kv ok).run Tryz.prog w = .ok (if ok then .tuple #[z, .bool false] else z) w := by
 have hck : ∀ w, (Instr.checkKey true 10000 k kv).run Tryz.prog w = .ok () w := by
  intro w
  unfold Instr.checkKey
  simp only [Sem.run_bind, run_underlying hk, Result.andThen_ok]
  simp
 rcases hm with rfl | ⟨b, c, rfl, hb⟩
 ·cases ok <;> simp [Instr.lookup, run_underlying hu, hck, Instr.findKey, run_underlying hk, Instr.findNow, hz]
 ·cases ok <;> simp [Instr.lookup, run_underlying hu, hck, Instr.findKey, run_underlying hk, Instr.findNow, hz, getObj, Sem.run, hb]
theorem s_rngS {T : Nat} {s : ByteArray} (hF : Fr a n L) (hH : Hp w0 w H) (hg : wt ops L g = some true) (hn : Nat.ble (d + 1) n = true) (hx : ev L x = some (.string s)) (hT : tb tabK T = some 4) (hL : dl L d [] = some L1)
  (k : ∀ a' b w', Fr a' n ((d, .pointer (some ⟨b, 0, none⟩)) :: L1) → Hp w0 w' ((b, .stringIter s 0) :: H) → wpList Tryz.prog ops Q rest a' w') : wpList Tryz.prog ops Q (⟨some d, .range T x, ty, pos, af, g⟩ :: rest) a w := by
 obtain ⟨D, hD, hk, _, _⟩ := und_of_k hT
 obtain rfl : D = .string := by cases D <;> simp [kOf] at hk; rfl
 refine x_core (v := .pointer (some ⟨w.heap.size, 0, none⟩)) (w' := w.alloc (.stringIter s 0)) hF rfl hg hn hL ?_ (fun a' h => k a' _ _ h (hH.alloc _))
 simp [execOp, hF.ev hx, Instr.range, run_underlying hD, World.alloc_eq]
theorem s_nxtS (q : Nat) {b p : Nat} {s : ByteArray} (hF : Fr a n L) (hH : Hp w0 w H) (hg : wt ops L g = some true) (hn : Nat.ble (d + 1) n = true) (hx : ev L x = some (.pointer (some ⟨b, 0, none⟩))) (hi : H[q]? = some (b, .stringIter s p)) (hL : dl L d [] = some L1)
  (k0 : ¬ p < s.size → ∀ a', Fr a' n ((d, .tuple #[.bool false]) :: L1) → wpList Tryz.prog ops Q rest a' w)
  (hH' : p < s.size → sa H q (b, .stringIter s (p + (Utf8.decode s p).2)) [] = some H')
  (k1 : p < s.size → ∀ a' w', Fr a' n ((d, .tuple #[.bool true, .int .i64 p, .int .i32 (Utf8.decode s p).1]) :: L1) → Hp w0 w' H' → wpList Tryz.prog ops Q rest a' w') : wpList Tryz.prog ops Q (⟨some d, .next x true, ty, pos, af, g⟩ :: rest) a w := by
 have hh := hH.heap hi
 by_cases hp : p < s.size
 ·refine x_core (v := .tuple #[.bool true, .int .i64 p, .int .i32 (Utf8.decode s p).1]) (w' := setBlock w b (.stringIter s (p + (Utf8.decode s p).2))) hF rfl hg hn hL ?_ (fun a' h => k1 hp a' _ h (hH.setBlk hi (hH' hp)))
  simp [execOp, hF.ev hx, Instr.next, getObj, setObj, Sem.run, hh, hp, goInt, setBlock]
 ·refine x_core (v := .tuple #[.bool false]) (w' := w) hF rfl hg hn hL ?_ (k0 hp)
  simp [execOp, hF.ev hx, Instr.next, getObj, Sem.run, hh, hp]
end
theorem c_nilB {P : Program} {ops : Array Oper} {Q : Exit → Act → World → Prop} {id : Nat} {a : Act} {w : World} (h : Q .normal a w) : wpList P ops (Exit.inBlock id Q) [] a w := h
theorem c_dnilB {P : Program} {ops : Array Oper} {Q : Exit → Act → World → Prop} {S : World → Prop} {ds : List Nat} {id : Nat} {a : Act} {w : World} (h : Q .normal a w) : dL P ops (Exit.inBlock id Q) S ds [] a w := by unfold dL; exact h
theorem c_loop {P : Program} {Q : Exit → Act → World → Prop} {a : Act} {w : World} {c : Code} (I : Nat → Act → World → Prop) (n₀ : Nat) (h₀ : I n₀ a w)
  (round : ∀ n a w, I n a w → ∀ K : Act → World → Prop, (∀ n' a' w', n' < n → I n' a' w' → K a' w') → c.wp P (Exit.then K Q) a w) : (Code.loop c).wp P Q a w :=
 wp_loop_ghost I n₀ h₀ fun n a w h => round n a w h _ (fun n' _ _ hlt h' => ⟨n', hlt, h'⟩)
end Go.Proofs.YtlkikblohnnlcaaGreatDoor.X
end
section
namespace Go.Proofs.YtlkikblohnnlcaaGreatDoor.X
open Go Go.RowKit Go.Proofs.YtlkikblohnnlcaaGreatDoorW.PrintLast
set_option linter.unusedVariables false
theorem one_cell {v : Value} (h : one v = true) : v.oneCell' = true := by cases v <;> simp [one] at h <;> rfl
section
variable {ops : Array Oper} {Q : Exit → Act → World → Prop} {S : World → Prop} {ds : List Nat} {rest : List Oper} {r : List Nat} {a : Act} {w0 w w' : World} {n i : Nat} {L L1 : Fm} {d : Nat} {v : Value} {o : Oper} {H H' HS : Hm}
variable {ty : TypeId} {pos : String} {af : Array Edge} {g : Option (Nat × Bool)} {x y z : Operand} {u : Value} {op : Op}
theorem Hp.grown {w0 w w' : World} {H : Hm} (h : Hp w0 w H) {q b : Nat} {cs : List Value} {e : TypeId} (hi : H[q]? = some (b, .cells cs.toArray e (0, 0))) (hg : w.grownBy w' (some b)) {b' : Nat} {cs' : List Value} (hb0 : b' = b ∨ w.heap.size ≤ b') (hb' : w'.heap[b']? = some (.cells cs'.toArray e (0, 0))) {H' : Hm} (hH' : sa H q (b', .cells cs'.toArray e (0, 0)) [] = some H') : Hp w0 w' H' := by
 obtain rfl : H' = H.set q (b', .cells cs'.toArray e (0, 0)) := by simpa using sa_eq _ _ _ _ _ hH'
 have hm : (b, Obj.cells cs.toArray e (0, 0)) ∈ H := List.mem_of_getElem? hi
 obtain ⟨hl, hie⟩ := List.getElem?_eq_some_iff.1 hi
 have hb := h.get _ hm
 have hbl := h.lt hm
 simp only at hb hbl
 have hnd := List.pairwise_iff_getElem.1 h.nd
 have hne : ∀ (k : Nat) (hk : k < H.length), k ≠ q → H[k].1 ≠ b := by
  intro k hk hkq
  rcases Nat.lt_or_gt_of_ne hkq with hlt | hgt
  ·have := hnd k q hk hl hlt
   rw [hie] at this
   exact this
  ·have := hnd q k hl hk hgt
   rw [hie] at this
   exact Ne.symm this
 refine ⟨⟨hg.os.trans h.below.os, hg.tape.trans h.below.tape, hg.output.trans h.below.output, Nat.le_trans h.below.size hg.size, fun k hk => ?_⟩, fun x hx => ?_, ?_⟩
 ·rw [hg.block k (Nat.lt_of_lt_of_le hk h.below.size) (by intro e1; obtain rfl := Option.some.inj e1; omega), h.below.block k hk]
 ·obtain ⟨k, hk, hke⟩ := List.getElem_of_mem hx
  rw [List.length_set] at hk
  by_cases hkq : q = k
  ·subst hkq
   rw [List.getElem_set_self] at hke
   subst hke
   refine ⟨?_, hb'⟩
   rcases hb0 with rfl | hb0
   ·exact hb.1
   ·exact Nat.le_trans h.below.size hb0
  ·rw [List.getElem_set_ne hkq] at hke
   have hx' : x ∈ H := by rw [← hke]; exact List.getElem_mem hk
   have h1 := h.get x hx'
   refine ⟨h1.1, ?_⟩
   rw [hg.block x.1 (h.lt hx') (by intro e1; have := hne k hk (Ne.symm hkq); rw [hke] at this; exact this (Option.some.inj e1))]
   exact h1.2
 ·rw [List.pairwise_iff_getElem]
  intro i j hi1 hj1 hij
  rw [List.length_set] at hi1 hj1
  have hb'ne : ∀ (k : Nat) (hk : k < H.length), k ≠ q → H[k].1 ≠ b' := by
   intro k hk hkq
   rcases hb0 with rfl | hb0
   ·exact hne k hk hkq
   ·have := h.lt (List.getElem_mem hk)
    omega
  by_cases h1 : q = i
  ·subst h1
   rw [List.getElem_set_self, List.getElem_set_ne (by omega)]
   exact Ne.symm (hb'ne j hj1 (by omega))
  ·rw [List.getElem_set_ne h1]
   by_cases h2 : q = j
   ·subst h2
    rw [List.getElem_set_self]
    exact hb'ne i hi1 (Ne.symm h1)
   ·rw [List.getElem_set_ne h2]
    exact hnd i j hi1 hj1 hij
theorem s_appO (q q2 : Nat) {T e sz bytes m c b b2 j cap k0 : Nat} {s x : Operand} {zl cs cs2 vs : List Value} {t2 : TypeId} {fr2 : Nat × Nat} (hF : Fr a n L) (hH : Hp w0 w H) (hg : wt ops L g = some true) (hn : Nat.ble (d + 1) n = true) (hT : tb tabEl T = some (e, sz)) (hz : tb tabZ e = some zl) (hb : tb tabBy e = some bytes)
  (hs : ev L s = some (.slice (some ⟨b, 0, none⟩) k0 cap)) (hx : ev L x = some (.slice (some ⟨b2, j, none⟩) m c)) (hi : H[q]? = some (b, .cells cs.toArray e (0, 0))) (hi2 : H[q2]? = some (b2, .cells cs2.toArray t2 fr2)) (hc : cut cs2 j (m * sz) [] = some vs) (hv : ones vs = true) (hsz : Nat.blt 0 sz = true) (hL : dl L d [] = some L1)
  (hk : k0 ≤ cap) (hcap : cap ≤ maxLen) (hlen : cs.length = cap * sz) (hmax : k0 + m ≤ maxLen) (hby : (k0 + m) * bytes ≤ 140737488355328) (hzl : zl.length = sz)
  (k : ∀ a' b' cap' (cs' : List Value) w' (H' : Hm), k0 + m ≤ cap' → cap' ≤ maxLen → cs'.length = cap' * sz → cs'.take ((k0 + m) * sz) = cs.take (k0 * sz) ++ vs → sa H q (b', .cells cs'.toArray e (0, 0)) [] = some H' → Fr a' n ((d, .slice (some ⟨b', 0, none⟩) (k0 + m) cap') :: L1) → Hp w0 w' H' → wpList Tryz.prog ops Q rest a' w') : wpList Tryz.prog ops Q (⟨some d, .call ⟨.builtin .append, #[s, x], #[T, T]⟩, ty, pos, af, g⟩ :: rest) a w := by
 obtain ⟨hu, hs'⟩ := el_of hT
 obtain ⟨i, zv, hi', hzi, hzc⟩ := zero_of hz
 have hsz' : i.size = sz := by
  obtain ⟨i', hi3, h1⟩ := size_of hs'
  rw [hi'] at hi3
  obtain rfl := Option.some.inj hi3
  exact h1
 have hbyt := by_of hb hi'
 obtain ⟨hvl, hvs⟩ := firsts hH hi2 hc
 have hzs : zv.cells.size = sz := by
  rw [← hzl]
  rcases hzc with ⟨l', rfl, rfl⟩ | ⟨rfl, ho⟩
  ·simp [Value.cells]
  ·cases zv <;> simp [one] at ho <;> rfl
 have hbase := hH.get _ (List.mem_of_getElem? hi)
 simp only at hbase
 have hown : w.ownsRow w0.heap.size e sz (.slice (some ⟨b, 0, none⟩) k0 cap) k0 (cs.take (k0 * sz)) := by
  refine ⟨?_, .inr ⟨b, cap, cs.toArray, rfl, hbase.1, hbase.2, hk, hcap, by simpa using hlen, by simp⟩⟩
  rw [List.length_take, hlen]
  exact Nat.min_eq_left (Nat.mul_le_mul_right _ hk)
 have h1 : ∀ u ∈ vs, u.oneCell' = true := fun u hu => one_cell (ones_all hv u hu)
 have hown' : w.ownsRow w0.heap.size e sz (.slice (some ⟨b, 0, none⟩) k0 cap) k0 (cs.take (k0 * sz)) := hown
 by_cases hroom : k0 + m ≤ cap
 ·obtain ⟨v', w1, hr, ho, hgr, hiff⟩ := run_append_own (P := Tryz.prog) w w0.heap.size T ty e i zv sz bytes hu hi' hzi hsz' hbyt hzs (Nat.le_of_ble_eq_true hsz) _ k0 _ hown ⟨b2, j, none⟩ m c vs hvl hvs h1 hmax hby hH.below.size
  have hfit : k0 * i.size + vs.length ≤ cs.toArray.size := by
   rw [hvl, hsz', ← Nat.add_mul]
   simp only [List.size_toArray, hlen]
   exact Nat.mul_le_mul_right _ hroom
  have hr2 := run_append_room (P := Tryz.prog) w T ty e i hu hi' b k0 cap cs.toArray hbase.2 ⟨b2, j, none⟩ m c vs (by rw [hvl, hsz']) hvs h1 hroom hfit
  rw [hr] at hr2
  injection hr2 with hv' hw'
  subst hv'
  rcases ho.2 with ⟨hbad, _⟩ | ⟨b', cap', cur, hv, hge, hget, hle, hcm, hcs, htake⟩
  ·cases hbad
  ·injection hv with hv1 hv2 hv3
   injection hv1 with hv1
   injection hv1 with hv1
   subst hv1
   subst hv3
   obtain ⟨H', hH'⟩ := sa_ex H q (b, Obj.cells cur e (0, 0)) []
   refine x_core hF rfl hg hn hL (exec_append hF hs hx hr) (fun a' h => k a' b cap cur.toList w1 H' hle hcm (by simpa using hcs) htake (by simpa using hH') h ?_)
   exact hH.grown hi hgr (.inl rfl) (cs' := cur.toList) (by simpa using hget) (by simpa using hH')
 ·have holds : ∀ j u, (cs.take (k0 * sz))[j]? = some u → w.cell? ((⟨b, 0, none⟩ : Addr).add j) = some u := hown.cells (g := b) rfl
  have hr := run_append_grow (P := Tryz.prog) w T ty e i zv hu hi' hzi ⟨b, 0, none⟩ k0 cap (cs.take (k0 * sz)) (by rw [hsz']; exact hown.1) holds ⟨b2, j, none⟩ m c vs (by rw [hvl, hsz']) hvs (by omega) (by simp only [maxLen] at hmax; omega) (growslice_fits (by omega) (by rw [hbyt]; exact hby))
  have hge := grownCap_ge w (k0 + m) cap e
  have hcm : grownCap w (k0 + m) cap e ≤ maxLen := grownCap_le_maxLen w (k0 + m) cap e hmax
  generalize grownCap w (k0 + m) cap e = C at hr hge hcm
  have hcells : ((cs.take (k0 * sz)).toArray ++ vs.toArray ++ Builtin.zeroCells zv.cells (C - (k0 + m))) = ((cs.take (k0 * sz)) ++ vs ++ (Builtin.zeroCells zv.cells (C - (k0 + m))).toList).toArray := by
   apply Array.ext'; simp
  rw [hcells] at hr
  obtain ⟨H', hH'⟩ := sa_ex H q (w.heap.size, Obj.cells ((cs.take (k0 * sz)) ++ vs ++ (Builtin.zeroCells zv.cells (C - (k0 + m))).toList).toArray e (0, 0)) []
  have hl2 : ((cs.take (k0 * sz)) ++ vs).length = (k0 + m) * sz := by rw [List.length_append, hown.1, hvl, Nat.add_mul]
  refine x_core hF rfl hg hn hL (exec_append hF hs hx hr) (fun a' h => k a' w.heap.size C _ _ H' hge hcm ?_ ?_ hH' h ?_)
  ·rw [List.length_append, hl2]
   have : (Builtin.zeroCells zv.cells (C - (k0 + m))).toList.length = (C - (k0 + m)) * sz := by rw [Array.length_toList, size_zeroCells, hzs]
   rw [this, ← Nat.add_mul]
   have hC : k0 + m + (C - (k0 + m)) = C := Nat.add_sub_cancel' hge
   rw [hC]
  ·rw [← hl2]
   exact List.take_left
  ·have hdr := (hH.drew).alloc (.cells ((cs.take (k0 * sz)) ++ vs ++ (Builtin.zeroCells zv.cells (C - (k0 + m))).toList).toArray e (0, 0))
   have hgr : w.grownBy (w.drew.alloc (.cells ((cs.take (k0 * sz)) ++ vs ++ (Builtin.zeroCells zv.cells (C - (k0 + m))).toList).toArray e (0, 0))) (some b) := ⟨rfl, rfl, rfl, by simp, fun k hk _ => heap_alloc_old w.drew _ (by simpa using hk)⟩
   exact hH.grown hi hgr (.inr (Nat.le_refl _)) (heap_alloc_new w.drew _) hH'
theorem s_mk {T e sz bytes l c : Nat} {kl kc : IntKind} {zl : List Value} {t : TypeId} (hF : Fr a n L) (hH : Hp w0 w H) (hg : wt ops L g = some true) (hn : Nat.ble (d + 1) n = true) (hT : tb tabEl T = some (e, sz)) (hz : tb tabZ e = some zl) (hb : tb tabBy e = some bytes)
  (hx : ev L x = some (.int kl (Int.ofNat l))) (hy : ev L y = some (.int kc (Int.ofNat c))) (hL : dl L d [] = some L1) (hlc : l ≤ c) (hby : bytes * c ≤ 281474976710656) (hc : c ≤ 9223372036854775807)
  (k : ∀ a' b w', Fr a' n ((d, .slice (some ⟨b, 0, none⟩) l c) :: L1) → Hp w0 w' ((b, .cells (madeCells zl.toArray (c * sz)) e) :: H) → wpList Tryz.prog ops Q rest a' w') : wpList Tryz.prog ops Q (⟨some d, .makeSlice T x y, ty, pos, af, g⟩ :: rest) a w := by
 obtain ⟨hu, hs'⟩ := el_of hT
 obtain ⟨i, zv, hi', hzi, hzc⟩ := zero_of hz
 have hsz' : i.size = sz := by
  obtain ⟨i', hi3, h1⟩ := size_of hs'
  rw [hi'] at hi3
  obtain rfl := Option.some.inj hi3
  exact h1
 have hbyt := by_of hb hi'
 have hzv : zv.cells = zl.toArray := by
  rcases hzc with ⟨l', rfl, rfl⟩ | ⟨rfl, ho⟩
  ·rfl
  ·cases zv <;> simp [one] at ho <;> rfl
 have hbb : (i.bytes : Int) * (Int.ofNat c) ≤ 281474976710656 := by
  rw [hbyt]
  have : ((bytes * c : Nat) : Int) ≤ 281474976710656 := by omega
  simpa using this
 have hr := run_make (P := Tryz.prog) w T e i zv hu hi' hzi kl kc (Int.ofNat l) (Int.ofNat c) (by simp) (by simpa using hlc) hbb (by simp; omega)
 rw [hzv, hsz'] at hr
 refine x_core hF rfl hg hn hL ?_ (fun a' h => k a' _ _ h (hH.alloc _))
 simp only [execOp, hF.ev hx, hF.ev hy, Sem.run_bind, hr, Result.andThen_ok]
 rfl
theorem x_enter {P : Program} {K : Act → World → Prop} {f : FuncId} {vs : List Value} {R : Ending → World → Prop} (hF : Fr a n L) (hn : Nat.ble (d + 1) n = true) (hL : dl L d [] = some L1)
  (hr : (execOp a.eval ⟨some d, op, ty, pos, af, g⟩).run P w = .ok (.enter f vs.toArray) w) (hc : Calls P f vs.toArray w R)
  (k : ∀ e w', R e w' → ∃ v, e = .returned v ∧ ∀ a', Fr a' n ((d, v) :: L1) → K a' w') : Oper.wp P ⟨some d, op, ty, pos, af, g⟩ a w K Q := by
 unfold Oper.wp
 rw [hr, Oper.upon_enter]
 refine hc.mono ?_
 intro e w' hR
 obtain ⟨v, rfl, hk⟩ := k e w' hR
 exact hk _ (hF.put hn hL)
theorem fn_of {f : FuncId} (hf : has tabF f = true) : ∃ fn, Tryz.prog.funcs[f]? = some fn ∧ ¬ fn.name = "runtime.NumGoroutine" ∧ ¬ fn.body = none := by
 have hfb := f_ok hf
 unfold callB at hfb
 cases hfn : Tryz.prog.funcs[f]? with
 | none => rw [hfn] at hfb; cases hfb
 | some fn =>
  rw [hfn] at hfb
  simp only [Bool.and_eq_true, Bool.not_eq_true'] at hfb
  exact ⟨fn, rfl, by have := hfb.1; simpa using this, by have := hfb.2; intro e; rw [e] at this; cases this⟩
noncomputable def mOk (e : Nat × String × Nat) : Bool := match Tryz.prog.info? e.1 with
 | some i => match i.methods.find? (·.name == e.2.1) with
  | some m => m.path.isEmpty && (match m.func with
   | some (f, p) => Nat.beq f e.2.2 && p
   | none => false) && (match Tryz.prog.underlying e.1 with
   | some (.pointer _) => true
   | _ => false)
  | none => false
 | none => false
theorem run_method {t f : Nat} {name : String} (h : mOk (t, name, f) = true) (v : Value) (k : Nat) (w : World) : (method (k + 1) t v name).run Tryz.prog w = .ok (f, v) w := by
 unfold mOk at h
 dsimp only at h
 cases hi : Tryz.prog.info? t with
 | none => rw [hi] at h; cases h
 | some i =>
  rw [hi] at h
  dsimp only at h
  cases hm : i.methods.find? (·.name == name) with
  | none => rw [hm] at h; cases h
  | some m =>
   rw [hm] at h
   simp only [Bool.and_eq_true] at h
   obtain ⟨⟨hp, hf⟩, hu⟩ := h
   have hp' : m.path = #[] := by simpa using hp
   cases hfn : m.func with
   | none => rw [hfn] at hf; cases hf
   | some fp =>
    obtain ⟨f', p⟩ := fp
    rw [hfn] at hf
    simp only [Bool.and_eq_true] at hf
    obtain ⟨h1, rfl⟩ := hf
    obtain rfl : f' = f := Nat.eq_of_beq_eq_true h1
    cases hut : Tryz.prog.underlying t with
    | none => rw [hut] at hu; cases hu
    | some D =>
     rw [hut] at hu
     cases D <;> simp at hu
     unfold method
     simp [typeInfo, hi, hm, hp', follow, hfn, receiverAt, run_underlying hut, Place.get]
theorem s_inv {f t : Nat} {name : String} {vs : List Value} {args : List Operand} {ts : Array TypeId} {R : Ending → World → Prop} (hF : Fr a n L) (hg : wt ops L g = some true) (hn : Nat.ble (d + 1) n = true)
  (hr : ev L x = some (.iface t v)) (hx : evs L args = some vs) (hm : mOk (t, name, f) = true) (hf : has tabF f = true) (hL : dl L d [] = some L1) (hc : Calls Tryz.prog f (v :: vs).toArray w R)
  (k : ∀ e w', R e w' → ∃ v, e = .returned v ∧ ∀ a', Fr a' n ((d, v) :: L1) → wpList Tryz.prog ops Q rest a' w') : wpList Tryz.prog ops Q (⟨some d, .call { callee := .invoke x name, args := args.toArray, argTypes := ts }, ty, pos, af, g⟩ :: rest) a w := by
 unfold wpList
 rw [if_pos (hF.wt (o := ⟨some d, .call { callee := .invoke x name, args := args.toArray, argTypes := ts }, ty, pos, af, g⟩) hg)]
 refine .inl ?_
 obtain ⟨fn, hfn, h1, h2⟩ := fn_of hf
 have hargs : args.toArray.map a.eval = vs.toArray := by rw [List.map_toArray]; exact congrArg _ (hF.evs hx)
 have hmr : ∀ w, (method (Tryz.prog.types.size + Made.depth) t v name).run Tryz.prog w = .ok (f, v) w := by
  intro w
  obtain ⟨q, hq⟩ : ∃ q, Tryz.prog.types.size + Made.depth = q + 1 := by
   generalize Tryz.prog.types.size = z
   exact ⟨z + 99, rfl⟩
  rw [hq]
  exact run_method hm v q w
 have hr : (execOp a.eval ⟨some d, .call { callee := .invoke x name, args := args.toArray, argTypes := ts }, ty, pos, af, g⟩).run Tryz.prog w = .ok (.enter f (v :: vs).toArray) w := by
  have e1 : (#[(Value.iface t v)] ++ vs.toArray).extract 1 (#[(Value.iface t v)] ++ vs.toArray).size = vs.toArray := by
   apply Array.ext'
   simp
  simp only [execOp, resolve, Sem.run_bind, hargs, hF.ev hr, Sem.run_pure, Result.andThen_ok, invoke]
  have e0 : (#[(Value.iface t v)] ++ vs.toArray)[0]? = some (.iface t v) := by simp
  simp only [e0, e1, callMethod, Sem.run_bind, run_program, Result.andThen_ok, hmr]
  have e2 : (#[v] ++ vs.toArray) = (v :: vs).toArray := by apply Array.ext'; simp
  rw [e2]
  simp [callFunc, hfn, h1, h2]
 exact x_enter hF hn hL hr hc k
theorem s_mf {f : FuncId} {args : List Operand} {vs : List Value} (hF : Fr a n L) (hg : wt ops L g = some true) (hn : Nat.ble (d + 1) n = true) (hx : evs L args = some vs) (hL : dl L d [] = some L1)
  (k : ∀ a', Fr a' n ((d, .func (.func f) #[] vs.toArray) :: L1) → wpList Tryz.prog ops Q rest a' w) : wpList Tryz.prog ops Q (⟨some d, .makeFunc (.func f) #[] args.toArray, ty, pos, af, g⟩ :: rest) a w := by
 have hargs : args.toArray.map a.eval = vs.toArray := by rw [List.map_toArray]; exact congrArg _ (hF.evs hx)
 exact x_core hF rfl hg hn hL (by simp [execOp, Instr.makeFunc, hargs]) k
theorem s_callF {t f : Nat} {args : List Operand} {vs cs : List Value} {ts : Array TypeId} {R : Ending → World → Prop} (hF : Fr a n L) (hg : wt ops L g = some true) (hn : Nat.ble (d + 1) n = true)
  (ht : ev L (.tmp t) = some (.func (.func f) #[] cs.toArray)) (hx : evs L args = some vs) (hf : has tabF f = true) (hL : dl L d [] = some L1) (hc : Calls Tryz.prog f (vs ++ cs).toArray w R)
  (k : ∀ e w', R e w' → ∃ v, e = .returned v ∧ ∀ a', Fr a' n ((d, v) :: L1) → wpList Tryz.prog ops Q rest a' w') : wpList Tryz.prog ops Q (⟨some d, .call { callee := .value (.tmp t), args := args.toArray, argTypes := ts }, ty, pos, af, g⟩ :: rest) a w := by
 unfold wpList
 rw [if_pos (hF.wt (o := ⟨some d, .call { callee := .value (.tmp t), args := args.toArray, argTypes := ts }, ty, pos, af, g⟩) hg)]
 refine .inl ?_
 obtain ⟨fn, hfn, h1, h2⟩ := fn_of hf
 have hargs : args.toArray.map a.eval = vs.toArray := by rw [List.map_toArray]; exact congrArg _ (hF.evs hx)
 have hr : (execOp a.eval ⟨some d, .call { callee := .value (.tmp t), args := args.toArray, argTypes := ts }, ty, pos, af, g⟩).run Tryz.prog w = .ok (.enter f (vs ++ cs).toArray) w := by
  simp only [execOp, resolve, Sem.run_bind, hargs, hF.ev ht]
  simp [Deferred.ofValue, invoke, callFunc, program, Sem.run, hfn, h1, h2]
 exact x_enter hF hn hL hr hc k
end
end Go.Proofs.YtlkikblohnnlcaaGreatDoor.X
end
section
namespace Go.Proofs.YtlkikblohnnlcaaGreatDoor.X
open Go Go.RowKit Go.Proofs.YtlkikblohnnlcaaGreatDoorW.PrintLast
set_option linter.unusedVariables false
set_option maxRecDepth 4000
def tk : Nat → List UInt8 → List UInt8 → Option (List UInt8)
 | 0, _, acc => rv acc []
 | k + 1, x :: r, acc => tk k r (x :: acc)
 | _ + 1, [], _ => none
def dr : Nat → List UInt8 → Option (List UInt8)
 | 0, l => some l
 | k + 1, _ :: r => dr k r
 | _ + 1, [] => none
theorem tk_eq : ∀ (k : Nat) (l acc m : List UInt8), tk k l acc = some m → m = acc.reverse ++ l.take k ∧ k ≤ l.length
 | 0, l, acc, m, h => by
  have := rv_eq _ _ _ (show rv acc [] = some m by cases l <;> exact h)
  simpa using this
 | k + 1, [], acc, m, h => by cases h
 | k + 1, x :: r, acc, m, h => by
  obtain ⟨h1, h2⟩ := tk_eq k r (x :: acc) m h
  exact ⟨by simpa using h1, by simpa using h2⟩
theorem dr_eq : ∀ (k : Nat) (l m : List UInt8), dr k l = some m → m = l.drop k ∧ k ≤ l.length
 | 0, l, m, h => by
  have : some l = some m := by cases l <;> exact h
  simpa using this.symm
 | k + 1, [], m, h => by cases h
 | k + 1, x :: r, m, h => by
  obtain ⟨h1, h2⟩ := dr_eq k r m h
  exact ⟨by simpa using h1, by simpa using h2⟩
def sb (l : List UInt8) (lo hi : Nat) : Option (List UInt8) := match dr lo l with
 | some m => tk (hi - lo) m []
 | none => none
theorem sb_eq {s : ByteArray} {lo hi : Nat} {m : List UInt8} (h : sb s.data.toList lo hi = some m) (hle : lo ≤ hi) : s.extract lo hi = ⟨m.toArray⟩ ∧ hi ≤ s.size := by
 unfold sb at h
 cases hd : dr lo s.data.toList with
 | none => rw [hd] at h; cases h
 | some p =>
  rw [hd] at h
  obtain ⟨h1, h2⟩ := dr_eq _ _ _ hd
  obtain ⟨h3, h4⟩ := tk_eq _ _ _ _ h
  subst h1
  simp only [List.reverse_nil, List.nil_append] at h3
  have hsz : s.data.toList.length = s.size := Array.length_toList
  rw [List.length_drop] at h4
  refine ⟨?_, by omega⟩
  have : (s.extract lo hi).data = m.toArray := by
   rw [h3]
   apply Array.ext'
   simp [ByteArray.data_extract, Array.toList_extract, List.extract_eq_take_drop]
  cases hx : s.extract lo hi
  rw [hx] at this
  simp only at this
  rw [this]
def bo (L : Fm) (dflt : Nat) : Option Operand → Option Nat
 | none => some dflt
 | some x => match ev L x with
  | some (.int _ (Int.ofNat q)) => some q
  | _ => none
def bits : BinOp → IntKind → Int → Int → Option Int
 | .and, k, x, y => some (k.wrap (BitVec.ofInt k.bits x &&& BitVec.ofInt k.bits y).toNat)
 | .or, k, x, y => some (k.wrap (BitVec.ofInt k.bits x ||| BitVec.ofInt k.bits y).toNat)
 | .xor, k, x, y => some (k.wrap (BitVec.ofInt k.bits x ^^^ BitVec.ofInt k.bits y).toNat)
 | _, _, _, _ => none
def tabI : List (Nat × IntKind) := [(2, .i64), (3, .i64), (5, .u8), (21, .i32), (230, .u64), (322, .u32), (324, .u64)]
noncomputable def iOk (e : Nat × IntKind) : Bool := match Tryz.prog.underlying e.1 with
 | some (.int k) => decide (k = e.2)
 | _ => false
def peS (lo hi : Option Nat) : Value → Option Value
 | .string s => match lo, hi with
  | some l, some h => cond (Nat.ble l h) (match sb s.data.toList l h with
   | some m => some (.string ⟨m.toArray⟩)
   | none => none) none
  | _, _ => none
 | _ => none
def peR (lo hi : Option Nat) : Value → Option Value
 | .slice none _ cap => match lo, hi with
  | some 0, some h => cond (Nat.ble h cap) (some (.slice none h cap)) none
  | _, _ => none
 | .slice (some ⟨b, j, none⟩) _ cap => match lo, hi with
  | some 0, some h => cond (Nat.ble h cap) (some (.slice (some ⟨b, j, none⟩) h cap)) none
  | _, _ => none
 | _ => none
def lenV : Value → Nat
 | .string s => s.size
 | .slice _ m _ => m
 | _ => 0
def pe2 (L : Fm) : Op → Option Value
 | .slice T x lo hi none => match tb tabK T, tb tabEl T, ev L x with
  | some 4, _, some v => peS (bo L 0 lo) (bo L (lenV v) hi) v
  | some 1, some _, some v => peR (bo L 0 lo) (bo L (lenV v) hi) v
  | _, _, _ => none
 | .index T x y => match tb tabK T, ev L x, ev L y with
  | some 4, some (.string s), some (.int _ (Int.ofNat q)) => match s.data.toList[q]? with
   | some b => some (.int .u8 b.toNat)
   | none => none
  | _, _, _ => none
 | .binOp op T x y _ => match ev L x, ev L y with
  | some (.int k m), some (.int k' m') => cond (decide (k = k')) (match bits op k m m' with
   | some r => some (.int k r)
   | none => none) none
  | some (.string s), some (.string s') => match op with
   | .add => cond (Nat.ble (s.size + s'.size) 1000000000) (some (.string ⟨(s.data.toList ++ s'.data.toList).toArray⟩)) none
   | _ => none
  | _, _ => none
 | .convert src dst x => match tb tabK dst with
  | some 5 => match tb tabK src, tb tabI dst, ev L x with
   | some _, some k, some (.int _ m) => some (.int k (k.wrap m))
   | _, _, _ => none
  | some 4 => match tb tabK src, ev L x with
   | some _, some (.string s) => some (.string s)
   | some _, some (.int _ m) => some (.string (Utf8.encode m))
   | _, _ => none
  | _ => none
 | _ => none
theorem allI : tabI.all iOk = true := by kernel_rfl
theorem run_bound {L : Fm} {a : Act} {n : Nat} (hF : Fr a n L) {df y q : Nat} {x : Operand} {code : BoundsCode} (h : bo L df (some x) = some q) (hle : q ≤ y) (P : Program) (w : World) : (Instr.sliceBound (a.eval x) y code).run P w = .ok q w := by
 unfold bo at h
 dsimp only at h
 split at h
 ·rename_i k q' hev
  obtain rfl := Option.some.inj h
  simp [Instr.sliceBound, hF.ev hev, asIntOf, hle]
 ·cases h
theorem run_bounds {L : Fm} {a : Act} {n : Nat} (hF : Fr a n L) {len cap l h : Nat} {isS : Bool} {lo hi : Option Operand} (h1 : bo L 0 lo = some l) (h2 : bo L len hi = some h) (hlh : l ≤ h) (hhc : h ≤ cap) (P : Program) (w : World) :
  (Instr.sliceBounds isS len cap (lo.map a.eval) (hi.map a.eval) none).run P w = .ok (l, h, cap) w := by
 cases lo with
 | none =>
  obtain rfl : 0 = l := by simpa [bo] using h1
  cases hi with
  | none =>
   obtain rfl : len = h := by simpa [bo] using h2
   simp [Instr.sliceBounds]
  | some y =>
   simp [Instr.sliceBounds, run_bound hF h2 hhc]
 | some x =>
  cases hi with
  | none =>
   obtain rfl : len = h := by simpa [bo] using h2
   simp [Instr.sliceBounds, run_bound hF h1 hlh]
  | some y =>
   simp [Instr.sliceBounds, run_bound hF h2 hhc, run_bound hF h1 hlh]
theorem int_of {T : Nat} {k : IntKind} (h : tb tabI T = some k) : Tryz.prog.underlying T = some (.int k) := by
 have h1 := tb_all allI h
 unfold iOk at h1
 dsimp only at h1
 cases hu : Tryz.prog.underlying T with
 | none => rw [hu] at h1; cases h1
 | some D =>
  rw [hu] at h1
  cases D <;> simp at h1
  rw [h1]
theorem str_of {T : Nat} (h : tb tabK T = some 4) : Tryz.prog.underlying T = some .string := by
 obtain ⟨D, hD, hk, _, _⟩ := und_of_k h
 cases D <;> simp [kOf] at hk
 exact hD
section
variable {a : Act} {n : Nat} {L : Fm} {v : Value} {dst : Option Tmp} {ty : TypeId} {pos : String} {af : Array Edge} {g : Option (Nat × Bool)} {op : Op}
theorem r_sliceS {T : Nat} {x : Operand} {lo hi : Option Operand} {s : ByteArray} {l h : Nat} (hF : Fr a n L) (hT : tb tabK T = some 4) (hx : ev L x = some (.string s)) (h1 : bo L 0 lo = some l) (h2 : bo L s.size hi = some h) (hlh : l ≤ h) (hhc : h ≤ s.size) (w : World) :
  (execOp a.eval ⟨dst, .slice T x lo hi none, ty, pos, af, g⟩).run Tryz.prog w = .ok (.value (.string (s.extract l h))) w := by
 have hu := str_of hT
 simp [execOp, hF.ev hx, Instr.sliceAt, Instr.slice, run_underlying hu, run_bounds hF h1 h2 hlh hhc]
theorem r_slice0 {T e sz : Nat} {x : Operand} {lo hi : Option Operand} {A : Option Addr} {len cap h : Nat} (hF : Fr a n L) (hT : tb tabEl T = some (e, sz)) (hA : A = none ∨ ∃ b j, A = some ⟨b, j, none⟩) (hx : ev L x = some (.slice A len cap)) (h1 : bo L 0 lo = some 0) (h2 : bo L len hi = some h) (hhc : h ≤ cap) (w : World) :
  (execOp a.eval ⟨dst, .slice T x lo hi none, ty, pos, af, g⟩).run Tryz.prog w = .ok (.value (.slice A h cap)) w := by
 obtain ⟨hu, hs⟩ := el_of hT
 rcases hA with rfl | ⟨b, j, rfl⟩
 ·simp [execOp, hF.ev hx, Instr.sliceAt, Instr.slice, run_underlying hu, run_bounds hF h1 h2 (Nat.zero_le _) hhc, run_sizeOf hs]
 ·simp [execOp, hF.ev hx, Instr.sliceAt, Instr.slice, run_underlying hu, run_bounds hF h1 h2 (Nat.zero_le _) hhc, run_sizeOf hs, addr_add]
theorem r_pe2 (hF : Fr a n L) (h : pe2 L op = some v) (w : World) : (execOp a.eval ⟨dst, op, ty, pos, af, g⟩).run Tryz.prog w = .ok (.value v) w := by
 unfold pe2 at h
 split at h
 ·rename_i T x lo hi
  split at h
  ·rename_i u hk hx
   unfold peS at h
   split at h
   ·rename_i s
    split at h
    ·rename_i l hh h1 h2
     cases hb : Nat.ble l hh with
     | false => rw [hb] at h; cases h
     | true =>
      rw [hb] at h
      dsimp only [cond] at h
      split at h
      ·rename_i m hm
       obtain rfl := Option.some.inj h
       obtain ⟨he, hle⟩ := sb_eq hm (Nat.le_of_ble_eq_true hb)
       rw [r_sliceS hF hk hx h1 h2 (Nat.le_of_ble_eq_true hb) hle, he]
      ·cases h
    ·cases h
   ·cases h
  ·rename_i es u hk hel hx
   unfold peR at h
   split at h
   ·rename_i len cap
    split at h
    ·rename_i hh h1 h2
     cases hb : Nat.ble hh cap with
     | false => rw [hb] at h; cases h
     | true =>
      rw [hb] at h
      obtain rfl := Option.some.inj h
      exact r_slice0 hF hel (.inl rfl) hx h1 h2 (Nat.le_of_ble_eq_true hb) w
    ·cases h
   ·rename_i b j len cap
    split at h
    ·rename_i hh h1 h2
     cases hb : Nat.ble hh cap with
     | false => rw [hb] at h; cases h
     | true =>
      rw [hb] at h
      obtain rfl := Option.some.inj h
      exact r_slice0 hF hel (.inr ⟨_, _, rfl⟩) hx h1 h2 (Nat.le_of_ble_eq_true hb) w
    ·cases h
   ·cases h
  ·cases h
 ·split at h
  ·rename_i T x y _ _ _ s k q hk hx hy
   split at h
   ·rename_i b hb
    obtain rfl := Option.some.inj h
    have hu := str_of hk
    have hq : q < s.size := by
     have h0 : s.data.toList.length = s.size := Array.length_toList
     have := (List.getElem?_eq_some_iff.1 hb).1
     omega
    have hb' : s[q]? = some b := by
     rw [ByteArray.getElem?_lt' s q hq]
     obtain ⟨h1, h2⟩ := List.getElem?_eq_some_iff.1 hb
     rw [← h2]
     rfl
    simp [execOp, hF.ev hx, hF.ev hy, Instr.index, asIntOf, run_underlying hu, hb']
   ·cases h
  ·cases h
 ·split at h
  ·rename_i k m k' m' hx hy
   cases hk : decide (k = k') with
   | false => rw [hk] at h; cases h
   | true =>
    obtain rfl : k = k' := of_decide_eq_true hk
    rw [hk] at h
    dsimp only [cond] at h
    split at h
    ·rename_i r hr
     obtain rfl := Option.some.inj h
     unfold bits at hr
     split at hr <;> simp at hr <;> subst hr <;> simp [execOp, hF.ev hx, hF.ev hy, eqGuard, binOp, Op.intBits]
    ·cases h
  ·rename_i s s' hx hy
   split at h
   ·cases hb : Nat.ble (s.size + s'.size) 1000000000 with
    | false => rw [hb] at h; cases h
    | true =>
     rw [hb] at h
     obtain rfl := Option.some.inj h
     have hle := Nat.le_of_ble_eq_true hb
     have hn : ¬ (((s.size + s'.size : Nat) : Int) > IntKind.i64.max) := by
      have : IntKind.i64.max = 9223372036854775807 := rfl
      omega
     have he : s ++ s' = ⟨(s.data.toList ++ s'.data.toList).toArray⟩ := by
      apply ByteArray.ext
      apply Array.ext'
      simp
     have hr : (Op.stringOp .add s s').run Tryz.prog w = .ok (.string ⟨(s.data.toList ++ s'.data.toList).toArray⟩) w := by
      simp only [Op.stringOp]
      rw [if_neg hn, he]
      rfl
     simp only [execOp, hF.ev hx, hF.ev hy, Sem.run_bind]
     rw [show ∀ T x y, (eqGuard .add T x y (.string s) (.string s')).run Tryz.prog w = .ok () w from fun _ _ _ => rfl]
     rw [Result.andThen_ok, show ∀ T, binOp .add T (.string s) (.string s') = Op.stringOp .add s s' from fun _ => rfl, hr]
     rfl
   ·cases h
  ·cases h
 ·rename_i src dst' x
  split at h
  ·split at h
   ·rename_i q k q2 m hs hI hx
    obtain rfl := Option.some.inj h
    have hu := int_of hI
    obtain ⟨D, hD, _⟩ := und_of_k hs
    simp [execOp, hF.ev hx, convert, run_underlying hD, run_underlying hu, Conv.intToInt]
   ·cases h
  ·rename_i hd
   have hud := str_of hd
   split at h
   ·rename_i q s hs hx
    obtain rfl := Option.some.inj h
    obtain ⟨D, hD, _⟩ := und_of_k hs
    have : (convert src dst' (.string s)).run Tryz.prog w = .ok (.string s) w := by
     unfold convert
     simp only [Sem.run_bind, run_underlying hD, run_underlying hud, Result.andThen_ok]
     cases D <;> rfl
    simp [execOp, hF.ev hx, this]
   ·rename_i q k m hs hx
    obtain rfl := Option.some.inj h
    obtain ⟨D, hD, _⟩ := und_of_k hs
    have hi := Option.isSome_of_eq_some hD
    simp [execOp, hF.ev hx, run_convert_int_string w src dst' k m hi hud]
   ·cases h
  ·cases h
 ·cases h
end
section
variable {ops : Array Oper} {Q : Exit → Act → World → Prop} {S : World → Prop} {ds : List Nat} {rest : List Oper} {r : List Nat} {a : Act} {w0 w w' : World} {n i : Nat} {L L1 : Fm} {d : Nat} {v : Value} {o : Oper} {H H' HS : Hm}
variable {ty : TypeId} {pos : String} {af : Array Edge} {g : Option (Nat × Bool)} {op : Op}
theorem s_pe2 (hF : Fr a n L) (hg : wt ops L g = some true) (hn : Nat.ble (d + 1) n = true) (h : pe2 L op = some v) (hL : dl L d [] = some L1)
  (k : ∀ a', Fr a' n ((d, v) :: L1) → wpList Tryz.prog ops Q rest a' w) : wpList Tryz.prog ops Q (⟨some d, op, ty, pos, af, g⟩ :: rest) a w :=
 x_core hF rfl hg hn hL (r_pe2 hF h w) k
theorem d_pe2 (hF : Fr a n L) (ho : ops[i]? = some ⟨some d, op, ty, pos, af, g⟩) (hk : kd op = 0) (hg : wt ops L g = some true) (hn : Nat.ble (d + 1) n = true) (h : pe2 L op = some v) (hL : dl L d [] = some L1)
  (k : ∀ a', Fr a' n ((d, v) :: L1) → dL Tryz.prog ops Q S ds r a' w) : dL Tryz.prog ops Q S ds (i :: r) a w := by
 unfold dL
 refine ⟨_, ho, ?_⟩
 simp only [hk]
 exact ⟨v, .inl ⟨hF.wt hg, fun w => r_pe2 hF h w⟩, k _ (hF.put hn hL)⟩
theorem has_iff : ∀ {l : List Nat} {i : Nat}, has l i = true → i ∈ l
 | [], _, h => by cases h
 | x :: r, i, h => by
  unfold has at h
  cases hb : Nat.beq x i with
  | true => rw [← Nat.eq_of_beq_eq_true hb]; exact List.mem_cons_self
  | false => rw [hb] at h; exact List.mem_cons_of_mem _ (has_iff h)
theorem run_callFn {f : FuncId} (hf : has tabF f = true) (xs : Array Value) (w : World) : (callFunc f xs).run Tryz.prog w = .ok (.enter f xs) w := by
 obtain ⟨fn, hfn, h1, h2⟩ := fn_of hf
 have h1' : (fn.name == "runtime.NumGoroutine") = false := by simpa using h1
 have h2' : fn.body.isNone = false := by cases hb : fn.body <;> simp_all
 simp only [callFunc, Sem.run_bind, run_program, Result.andThen_ok, hfn, h1', h2', Bool.false_eq_true, if_false, Sem.run_pure]
theorem d_callM {f : FuncId} {args : List Operand} {vs : List Value} {ts : Array TypeId} {R : Ending → World → Prop} (hF : Fr a n L) (ho : ops[i]? = some ⟨some d, .call { callee := .value (.func f), args := args.toArray, argTypes := ts }, ty, pos, af, g⟩) (hd : has ds i = true) (hg : wt ops L g = some true) (hn : Nat.ble (d + 1) n = true)
  (hx : evs L args = some vs) (hf : has tabF f = true) (hL : dl L d [] = some L1) (hc : Calls Tryz.prog f vs.toArray w R)
  (k : ∀ e w', R e w' → ∃ v, e = .returned v ∧ ∀ a', Fr a' n ((d, v) :: L1) → dL Tryz.prog ops Q S ds r a' w') : dL Tryz.prog ops Q S ds (i :: r) a w := by
 refine d_one hF ho rfl hg (fun K hK => ?_)
 have hargs : args.toArray.map a.eval = vs.toArray := by rw [List.map_toArray]; exact congrArg _ (hF.evs hx)
 have hr : (execOp a.eval ⟨some d, .call { callee := .value (.func f), args := args.toArray, argTypes := ts }, ty, pos, af, g⟩).run Tryz.prog w = .ok (.enter f vs.toArray) w := by
  simp only [execOp, resolve, Sem.run_bind, hargs, show a.eval (.func f) = .func (.func f) #[] #[] from rfl]
  simp only [Deferred.ofValue, Sem.run_pure, Result.andThen_ok, invoke, Array.append_empty, Array.empty_append]
  exact run_callFn hf _ w
 have hk2 : ∀ e w', R e w' → ∃ v, e = .returned v ∧ ∀ a', Fr a' n ((d, v) :: L1) → K a' w' := by
  intro e w' hR
  obtain ⟨v, he, hk⟩ := k e w' hR
  exact ⟨v, he, fun a' hF' => hK _ _ (fun h => absurd (has_iff hd) h) (hk a' hF')⟩
 exact x_enter hF hn hL hr hc hk2
end
end Go.Proofs.YtlkikblohnnlcaaGreatDoor.X
end
