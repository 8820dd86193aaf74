/- A part of the proof that FnJTellLimits returns true for every input, on the conditions that its given row lists. -/
import Derived.Test.YtlkikblohnnlcaaGreatDoorFa
import Derived.Test.YtlkikblohnnlcaaGreatDoorProg
import Derived.Below
import Derived.Deep.Draws
import Derived.Deep.AppendLies
import Derived.Maps.AppendAt
import Derived.OwnWalk
import Derived.Laws.BytesArg
import Derived.Laws.MakeOwn
import Derived.Laws.OwnMore
import Derived.Deep.OwnRows
import Derived.Tactics
import Derived.Lib.ConvBytes
import Derived.Laws.Slices
import Derived.WalkKit
import Derived.KernelRfl
import Derived.RowKit3
import Derived.Deep.LoopGhost
import Derived.Deep.QuietTactic
import Derived.BigQuiet
import Derived.WideLaws
import Derived.Deep.DeepCutAuto
import Derived.Deep.CutBlock
import Derived.Deep.RegionHeld3
import Derived.Laws.Rows
import Derived.Lib.AppendStr
import Derived.ArgAppend
import Derived.Laws.IdiomCopy
import Derived.OrdersHeld
import Derived.Laws.BitsLemmas
import Derived.RowKit
import Derived.Laws.StructEq
set_option linter.unusedVariables false
set_option linter.unusedSimpArgs false
section
namespace Go.Proofs.YtlkikblohnnlcaaGreatDoor.X
open Go Go.RowKit Go.Proofs.YtlkikblohnnlcaaGreatDoorW.PrintLast
set_option linter.unusedVariables false
set_option maxRecDepth 4000
theorem Hp.perm {w0 w : World} {H H' : Hm} (h : Hp w0 w H) (hp : H'.Perm H) : Hp w0 w H' :=
 ⟨h.below, fun e he => h.get e (hp.mem_iff.1 he), (hp.pairwise_iff (fun h => Ne.symm h)).2 h.nd⟩
theorem Fr.mem {a : Act} {n : Nat} {L L' : Fm} (h : Fr a n L) (hs : ∀ e ∈ L', e ∈ L) : Fr a n L' := ⟨h.size, h.defers, fun e he => h.get e (hs e he)⟩
def fresh : Fm → Nat → Bool
 | [], _ => true
 | (t, _) :: r, d => cond (Nat.beq t d) false (fresh r d)
theorem fresh_ne {L : Fm} {d : Nat} (h : fresh L d = true) : ∀ e ∈ L, e.1 ≠ d := by
 induction L with
 | nil => intro e he; cases he
 | cons x r ih =>
  obtain ⟨t, v⟩ := x
  unfold fresh at h
  cases hb : Nat.beq t d with
  | true => rw [hb] at h; cases h
  | false =>
   rw [hb] at h
   intro e he
   rcases List.mem_cons.1 he with rfl | he
   ·exact Nat.ne_of_beq_eq_false hb
   ·exact ih h e he
theorem Fr.putNew {a : Act} {n : Nat} {L : Fm} (h : Fr a n L) {d : Nat} {v : Value} (hn : Nat.ble (d + 1) n = true) (hL : fresh L d = true) : Fr (a.put (some d) v) n ((d, v) :: L) := by
 have hd : d < n := Nat.le_of_ble_eq_true hn
 refine ⟨by simp [Act.put, h.size], by simpa [Act.put] using h.defers, fun e he => ?_⟩
 rcases List.mem_cons.1 he with rfl | he
 ·simp [Act.put, h.size, hd]
 ·simp only [Act.put]
  rw [Array.getElem?_setIfInBounds_ne (Ne.symm (fresh_ne hL e he))]
  exact h.get e he
def Mk (ops : Array Oper) (n : Nat) (L : Fm) (S : World → Prop) (i d : Nat) (D : Value → Hm → Prop) : Prop :=
 Nat.ble (d + 1) n = true ∧ fresh L d = true ∧ ∃ o, ops[i]? = some o ∧ o.dst = some d ∧ ∀ (a : Act) (w : World), Fr a n L → S w → Region.wanted o (yielded ops a.tmps) = true ∧
  ∀ (K : Act → World → Prop) (Q : Exit → Act → World → Prop), (∀ v Hn w', D v Hn → Hp w w' Hn → K (a.put (some d) v) w') → Oper.wp Tryz.prog o a w K Q
section
variable {ops : Array Oper} {Q : Exit → Act → World → Prop} {ds : List Nat} {a : Act} {w0 w : World} {n : Nat} {L : Fm} {H HS : Hm} {fuel : Nat} {l : Array Bool}
theorem Hp.then {w0 w w' : World} {HS Hn : Hm} (hS : Hp w0 w HS) (h : Hp w w' Hn) : Hp w0 w' HS := hS.of_below h.below
end
def QB (B : Act → World → Prop) (Q : Exit → Act → World → Prop) : Exit → Act → World → Prop
 | .normal, a, w => B a w
 | e, a, w => Q e a w
theorem wp_QB {P : Program} {o : Oper} {a : Act} {w : World} {K B : Act → World → Prop} {Q : Exit → Act → World → Prop} (h : Oper.wp P o a w K (QB B Q)) : Oper.wp P o a w K Q := by
 unfold Oper.wp at *
 generalize (execOp a.eval o).run P w = r at *
 cases r with
 | ok v w' =>
  cases v with
  | enter f args =>
   refine Calls.mono h ?_
   intro e w'' he
   cases e with
   | returned v => exact he
   | panicked c => exact he
   | outgrown =>
    obtain ⟨a1, w1, h1⟩ := he
    exact ⟨a1, w1, h1⟩
  | _ => exact h
 | halt hh w' => cases hh <;> exact h
def chkS (T : Bool × List (List Nat × List Nat)) (B ks ds : List Nat) : List Bool → List Nat → List Bool → Bool
 | l, [], m => l == m
 | l, i :: r, m => (match ks.getD i 3 with
  | 0 => anyT T l (l.set i true) i
  | 1 => takeW T B ds l (l.set i true) i
  | 2 => (readyT T.2 l == [i] && l.set i true == l.set i true)
  | _ => false) && chkS T B ks ds (l.set i true) r m
section
variable {P : Program} {ops : Array Oper} {Q : Exit → Act → World → Prop} {S : World → Prop} {ds : List Nat}
theorem dL_seg {T : Bool × List (List Nat × List Nat)} {B ks : List Nat} (hT : rtab .any ops = T) (hB : waitsOk T.2 B = true) (hk : ks = (List.range ops.size).map (kdAt ops))
  (hQ : ∀ c a o v w, Q (.panic c) (Act.put a o v) w → Q (.panic c) a w) {fuel : Nat} {m : List Bool} {G : Act → World → Prop} (hG : ∀ a w, G a w → wpAnyLast P .any ops Q S ds fuel m.toArray a w) :
  ∀ (ord : List Nat) (l : Array Bool) (a : Act) (w : World), chkS T B ks ds l.toList ord m = true → dL P ops (QB G Q) S ds ord a w → wpAnyLast P .any ops Q S ds (ord.length + fuel) l a w
 | [], l, a, w, hc, h => by
  have : l.toList = m := by simpa [chkS] using hc
  have : l = m.toArray := by rw [← this]
  subst this
  have hg := hG a w (show G a w from by unfold dL at h; exact h)
  simpa using hg
 | i :: r, l, a, w, hc, h => by
  unfold chkS at hc
  rw [Bool.and_eq_true] at hc
  obtain ⟨h1, h2⟩ := hc
  obtain ⟨o, ho, h⟩ := h
  have hset : (l.setIfInBounds i true).toList = l.toList.set i true := by simp
  have hki : ks.getD i 3 = kd o.op := by
   have hlt := (Array.getElem?_eq_some_iff.1 ho).1
   rw [hk, List.getD_eq_getElem?_getD, List.getElem?_map, List.getElem?_range hlt]
   simp [kdAt, ho]
  rw [hki] at h1
  have hlen : (i :: r).length + fuel = (r.length + fuel) + 1 := by simp only [List.length_cons]; omega
  rw [hlen]
  have ih := fun a' w' h' => dL_seg hT hB hk hQ hG r (l.setIfInBounds i true) a' w' (by rw [hset]; exact h2) h'
  split at h
  ·rename_i hkd
   rw [hkd] at h1
   obtain ⟨v, hy, hr⟩ := h
   exact pure_ (i := i) (l.setIfInBounds i true) ho rfl (any_of hT (by rw [hset]; exact h1)) (fun c a w => hQ c a _ _ w) hy rfl (ih _ _ hr)
  ·rename_i hkd
   rw [hkd] at h1
   obtain ⟨v, hy, hS, hr⟩ := h
   exact take_ (i := i) (l.setIfInBounds i true) ho rfl (take_ofW hT hB (by rw [hset]; exact h1)) (fun c a w => hQ c a _ _ w) hy hS rfl (ih _ _ hr)
  ·rename_i hk0 hk1
   have h1' : (readyT T.2 l.toList == [i] && l.toList.set i true == l.toList.set i true) = true := by
    split at h1
    ·rename_i e; exact absurd e hk0
    ·rename_i e; exact absurd e hk1
    ·exact h1
    ·cases h1
   have hq : ∀ K : Act → World → Prop, (if Region.wanted o (yielded ops a.tmps) = true then Oper.wp P o a w K (QB G Q) else K (a.put o.dst undef) w) → (if Region.wanted o (yielded ops a.tmps) = true then Oper.wp P o a w K Q else K (a.put o.dst undef) w) := by
    intro K hh
    split
    ·rename_i hw
     rw [if_pos hw] at hh
     exact wp_QB hh
    ·rename_i hw
     rw [if_neg hw] at hh
     exact hh
   by_cases hd : i ∈ ds
   ·exact last_ (i := i) (l.setIfInBounds i true) ho rfl (one_of hT (by rw [hset]; exact h1')) hd (fun K hK => hq K (h K (fun a' w' _ h' => hK.out a' w' (ih _ _ h'))))
   ·exact one_ (i := i) (l.setIfInBounds i true) ho rfl (one_of hT (by rw [hset]; exact h1')) hd (fun K hK => hq K (h K (fun a' w' hS h' => hK.out a' w' (hS hd) (fun _ => ih _ _ h'))))
end
section
variable {ops : Array Oper} {Q : Exit → Act → World → Prop} {ds : List Nat} {w0 : World} {HS : Hm}
def sets (l : List Bool) : List Nat → List Bool
 | [] => l
 | i :: r => sets (l.set i true) r
end
end Go.Proofs.YtlkikblohnnlcaaGreatDoor.X
end
section
namespace Go.Proofs.YtlkikblohnnlcaaGreatDoor.X
open Go Go.RowKit Go.Proofs.YtlkikblohnnlcaaGreatDoorW.PrintLast
set_option linter.unusedVariables false
set_option maxRecDepth 4000
def pf (L : Fm) : List Nat → Option Fm
 | [] => some []
 | k :: r => match lk L k, pf L r with
  | some v, some m => some ((k, v) :: m)
  | _, _ => none
theorem Fr.pick {a : Act} {n : Nat} {L L1 : Fm} (h : Fr a n L) (ks : List Nat) (hp : pf L ks = some L1) : Fr a n L1 := by
 refine h.mem ?_
 induction ks generalizing L1 with
 | nil =>
  obtain rfl : [] = L1 := by simpa [pf] using hp
  intro e he
  cases he
 | cons k r ih =>
  unfold pf at hp
  cases h1 : X.lk L k with
  | none => rw [h1] at hp; simp at hp
  | some v =>
   cases h2 : pf L r with
   | none => rw [h1, h2] at hp; simp at hp
   | some m =>
    rw [h1, h2] at hp
    obtain rfl := Option.some.inj hp
    intro e he
    rcases List.mem_cons.1 he with rfl | he
    ·exact lk_mem h1
    ·exact ih h2 e he
def Old (w : World) (b : Nat) (cs : List Value) : Prop := ∀ (j : Nat) (v : Value), cs[j]? = some v → w.cell? ⟨b, j, none⟩ = some v
theorem Hp.toOld {w0 w : World} {H : Hm} (h : Hp w0 w H) {i b : Nat} {cs : List Value} {t : TypeId} {fr : Nat × Nat} (hi : H[i]? = some (b, .cells cs.toArray t fr)) : Old w b cs := fun j v hc => h.cell hi hc
theorem Old.later {w0 w : World} {H : Hm} {b : Nat} {cs : List Value} (h : Old w0 b cs) (hH : Hp w0 w H) : Old w b cs := fun j v hc => hH.old (h j v hc)
section
variable {ops : Array Oper} {Q : Exit → Act → World → Prop} {S : World → Prop} {ds : List Nat} {rest : List Oper} {r : List Nat} {a : Act} {w0 w w' : World} {n i : Nat} {L L1 : Fm} {d : Nat} {v : Value} {o : Oper} {H H' HS : Hm}
variable {ty : TypeId} {pos : String} {af : Array Edge} {g : Option (Nat × Bool)} {x y z : Operand} {u : Value} {op : Op}
theorem r_ldo {T b j : Nat} {cs : List Value} {kk : Nat} (hO : Old w0 b cs) (hF : Fr a n L) (hx : ev L x = some (.pointer (some ⟨b, j, none⟩))) (hc : cs[j]? = some v) (hT : tb tabK T = some kk)
  (w : World) (hH : Hp w0 w H) : (execOp a.eval ⟨some d, .load T x, ty, pos, af, g⟩).run Tryz.prog w = .ok (.value v) w := by
 simp [execOp, hF.ev hx, Instr.loadAt, Instr.sureAddr, run_loadVar_scal (scal_of_k hT) (hH.old (hO j v hc))]
theorem s_ldo {T b j : Nat} {cs : List Value} {kk : Nat} (hO : Old w0 b cs) (hF : Fr a n L) (hH : Hp w0 w H) (hg : wt ops L g = some true) (hn : Nat.ble (d + 1) n = true)
  (hx : ev L x = some (.pointer (some ⟨b, j, none⟩))) (hc : cs[j]? = some v) (hT : tb tabK T = some kk) (hL : dl L d [] = some L1)
  (k : ∀ a', Fr a' n ((d, v) :: L1) → wpList Tryz.prog ops Q rest a' w) : wpList Tryz.prog ops Q (⟨some d, .load T x, ty, pos, af, g⟩ :: rest) a w :=
 x_core hF rfl hg hn hL (r_ldo hO hF hx hc hT w hH) k
theorem d_ldo {T b j : Nat} {cs : List Value} {kk : Nat} (hO : Old w0 b cs) (hF : Fr a n L) (hS : Hp w0 w HS) (ho : ops[i]? = some ⟨some d, .load T x, ty, pos, af, g⟩) (hg : wt ops L g = some true) (hn : Nat.ble (d + 1) n = true)
  (hx : ev L x = some (.pointer (some ⟨b, j, none⟩))) (hc : cs[j]? = some v) (hT : tb tabK T = some kk) (hL : dl L d [] = some L1)
  (k : ∀ a', Fr a' n ((d, v) :: L1) → dL Tryz.prog ops Q (fun w => Hp w0 w HS) ds r a' w) : dL Tryz.prog ops Q (fun w => Hp w0 w HS) ds (i :: r) a w :=
 d_rd hF ho hS rfl hg hn (fun w hH => r_ldo hO hF hx hc hT w hH) hL k
theorem r_ldao {T b j m : Nat} {cs vs : List Value} (hO : Old w0 b cs) (hF : Fr a n L) (hx : ev L x = some (.pointer (some ⟨b, j, none⟩))) (hT : tb tabSz T = some m) (hc : cut cs j m [] = some vs)
  (w : World) (hH : Hp w0 w H) : (execOp a.eval ⟨some d, .load T x, ty, pos, af, g⟩).run Tryz.prog w = .ok (.value (.agg vs.toArray)) w := by
 obtain ⟨q, h1, h2, h3⟩ := cut_eq _ _ _ _ _ hc
 simp only [List.reverse_nil, List.nil_append] at h1
 subst h1
 have hA : aggB Tryz.prog T m = true := tb_all allSz hT
 have hs : sizeB Tryz.prog T m = true := by unfold aggB at hA; rw [Bool.and_eq_true] at hA; exact hA.2
 have hr := run_loadCells (P := Tryz.prog) w b j vs (fun p v hv => hH.old (hO _ v (h3 p v hv))) m 0 #[] (by omega)
 have : (loadVar T ⟨b, j, none⟩).run Tryz.prog w = .ok (.agg vs.toArray) w := by
  simp only [loadVar, Sem.run_bind, run_isAgg_agg hA, Result.andThen_ok, if_true, run_sizeOf hs, loadCells, hr]
  simp
 simp [execOp, hF.ev hx, Instr.loadAt, Instr.sureAddr, this]
theorem s_ldao {T b j m : Nat} {cs vs : List Value} (hO : Old w0 b cs) (hF : Fr a n L) (hH : Hp w0 w H) (hg : wt ops L g = some true) (hn : Nat.ble (d + 1) n = true)
  (hx : ev L x = some (.pointer (some ⟨b, j, none⟩))) (hT : tb tabSz T = some m) (hc : cut cs j m [] = some vs) (hL : dl L d [] = some L1)
  (k : ∀ a', Fr a' n ((d, .agg vs.toArray) :: L1) → wpList Tryz.prog ops Q rest a' w) : wpList Tryz.prog ops Q (⟨some d, .load T x, ty, pos, af, g⟩ :: rest) a w :=
 x_core hF rfl hg hn hL (r_ldao hO hF hx hT hc w hH) k
theorem d_ldao {T b j m : Nat} {cs vs : List Value} (hO : Old w0 b cs) (hF : Fr a n L) (hS : Hp w0 w HS) (ho : ops[i]? = some ⟨some d, .load T x, ty, pos, af, g⟩) (hg : wt ops L g = some true) (hn : Nat.ble (d + 1) n = true)
  (hx : ev L x = some (.pointer (some ⟨b, j, none⟩))) (hT : tb tabSz T = some m) (hc : cut cs j m [] = some vs) (hL : dl L d [] = some L1)
  (k : ∀ a', Fr a' n ((d, .agg vs.toArray) :: L1) → dL Tryz.prog ops Q (fun w => Hp w0 w HS) ds r a' w) : dL Tryz.prog ops Q (fun w => Hp w0 w HS) ds (i :: r) a w :=
 d_rd hF ho hS rfl hg hn (fun w hH => r_ldao hO hF hx hT hc w hH) hL k
theorem r_appZ {T e sz m c c2 : Nat} {A A2 : Option Addr} {s x : Operand} (hF : Fr a n L) (hT : tb tabEl T = some (e, sz)) (hs : ev L s = some (.slice A m c)) (hx : ev L x = some (.slice A2 0 c2)) (hm : Nat.ble m c = true) (w : World) :
  (execOp a.eval ⟨some d, .call ⟨.builtin .append, #[s, x], #[T, T]⟩, ty, pos, af, g⟩).run Tryz.prog w = .ok (.value (.slice A m c)) w := by
 obtain ⟨hu, hs'⟩ := el_of hT
 have hm' := Nat.le_of_ble_eq_true hm
 refine exec_append hF hs hx ?_
 cases A <;> cases A2 <;> simp [Builtin.append_, run_underlying hu, run_sizeOf hs', Builtin.lenOf, Builtin.firstCells, hm', storeCells, loadCells, loadCellsFrom]
theorem s_appZ {T e sz m c c2 : Nat} {A A2 : Option Addr} {s x : Operand} (hF : Fr a n L) (hg : wt ops L g = some true) (hn : Nat.ble (d + 1) n = true) (hT : tb tabEl T = some (e, sz)) (hs : ev L s = some (.slice A m c)) (hx : ev L x = some (.slice A2 0 c2)) (hm : Nat.ble m c = true) (hL : dl L d [] = some L1)
  (k : ∀ a', Fr a' n ((d, .slice A m c) :: L1) → wpList Tryz.prog ops Q rest a' w) : wpList Tryz.prog ops Q (⟨some d, .call ⟨.builtin .append, #[s, x], #[T, T]⟩, ty, pos, af, g⟩ :: rest) a w :=
 x_core hF rfl hg hn hL (r_appZ hF hT hs hx hm w) k
theorem d_bs {T e len : Nat} {parts : Array (Nat × Operand)} {ps : List (Nat × Value)} {l zl : List Value} (hF : Fr a n L) (hH : Hp w0 w H) (hS : Hp w0 w HS) (ho : ops[i]? = some ⟨some d, .buildSlice T len parts, ty, pos, af, g⟩) (hg : wt ops L g = some true) (hn : Nat.ble (d + 1) n = true) (hT : tb tabEl T = some (e, 1)) (hz : tb tabZ e = some zl) (hps : evp L parts.toList = some ps) (hl : lit1 ps 0 = some l) (hlen : Nat.beq l.length len = true) (hpos : Nat.blt 0 len = true) (hsm : Nat.ble len 1000 = true) (hL : dl L d [] = some L1)
  (k : ∀ a' b w', Fr a' n ((d, .slice (some ⟨b, 0, none⟩) len len) :: L1) → Hp w0 w' ((b, .cells l.toArray e) :: H) → Hp w0 w' HS → dL Tryz.prog ops Q (fun w => Hp w0 w HS) ds r a' w') : dL Tryz.prog ops Q (fun w => Hp w0 w HS) ds (i :: r) a w := by
 refine d_one hF ho rfl hg (fun K hK => ?_)
 unfold Oper.wp
 rw [r_bs hF hT hz hps hl hlen hpos hsm, Oper.upon_value]
 have hS' : Hp w0 (w.alloc (.cells l.toArray e)) HS := (hS.alloc _).sub (List.sublist_cons_self _ _)
 exact hK _ _ (fun _ => hS') (k _ _ _ (hF.put hn hL) (hH.alloc _) hS')
theorem d_app (q : Nat) {T e sz bytes m c b j m' : Nat} {s x : Operand} {A : Option Addr} {zl cs vs : List Value} {t : TypeId} {fr : Nat × Nat} (hF : Fr a n L) (hH : Hp w0 w H) (hS : Hp w0 w HS) (ho : ops[i]? = some ⟨some d, .call ⟨.builtin .append, #[s, x], #[T, T]⟩, ty, pos, af, g⟩) (hg : wt ops L g = some true) (hn : Nat.ble (d + 1) n = true) (hT : tb tabEl T = some (e, sz)) (hz : tb tabZ e = some zl) (hb : tb tabBy e = some bytes)
  (hs : ev L s = some (.slice A 0 0)) (hx : ev L x = some (.slice (some ⟨b, j, none⟩) m c)) (hi : H[q]? = some (b, .cells cs.toArray t fr)) (hmm : m * sz = m') (hc : cut cs j m' [] = some vs) (h0 : Nat.blt 0 m = true) (h1 : Nat.ble m 1000 = true) (h2 : Nat.ble bytes 100000 = true) (hL : dl L d [] = some L1)
  (k : ∀ a' b' c' Z w', Nat.ble m c' = true → Fr a' n ((d, .slice (some ⟨b', 0, none⟩) m c') :: L1) → Hp w0 w' ((b', .cells (vs ++ Z : List Value).toArray e) :: H) → Hp w0 w' HS → dL Tryz.prog ops Q (fun w => Hp w0 w HS) ds r a' w') : dL Tryz.prog ops Q (fun w => Hp w0 w HS) ds (i :: r) a w := by
 refine d_one hF ho rfl hg (fun K hK => ?_)
 obtain ⟨hu, hs'⟩ := el_of hT
 obtain ⟨iv, zv, hi', hzi, hzc⟩ := zero_of hz
 have hsz : iv.size = sz := by
  obtain ⟨i', hi2, h1⟩ := size_of hs'
  rw [hi'] at hi2
  obtain rfl := Option.some.inj hi2
  exact h1
 have hby := by_of hb hi'
 have h0' : 0 < m := Nat.le_of_ble_eq_true h0
 have h1' : m ≤ 1000 := Nat.le_of_ble_eq_true h1
 have h2' : bytes ≤ 100000 := Nat.le_of_ble_eq_true h2
 obtain ⟨hvl, hvs⟩ := firsts hH hi hc
 have hbb : m * iv.bytes ≤ 281474976710656 := by
  rw [hby]
  exact Nat.le_trans (Nat.mul_le_mul h1' h2') (by decide)
 have hcap : m ≤ grownCap w m 0 e := grownCap_ge w m 0 e
 have hZ : ∀ (k : Nat), ∃ Z : List Value, vs.toArray ++ Builtin.zeroCells zv.cells k = (vs ++ Z).toArray := fun k => ⟨(Builtin.zeroCells zv.cells k).toList, by apply Array.ext'; simp⟩
 obtain ⟨Z, hZ⟩ := hZ (grownCap w m 0 e - m)
 have hrun : (Builtin.append_ #[T, T] ty #[.slice A 0 0, .slice (some ⟨b, j, none⟩) m c]).run Tryz.prog w = .ok (.slice (some ⟨w.heap.size, 0, none⟩) m (grownCap w m 0 e)) (w.drew.alloc (.cells (vs ++ Z : List Value).toArray e)) := by
  cases A with
  | none =>
   have hr := run_append_nil (P := Tryz.prog) (w := w) T ty e iv zv hu hi' hzi ⟨b, j, none⟩ m c vs (by rw [hvl, hsz, hmm]) hvs h0' (by omega) hbb
   rw [hZ] at hr
   exact hr
  | some A =>
   have hr := run_append_grow (P := Tryz.prog) w T ty e iv zv hu hi' hzi A 0 0 [] (by simp) (by simp) ⟨b, j, none⟩ m c vs (by rw [hvl, hsz, hmm]) hvs (by omega) (by omega) (by
    rw [Nat.zero_add, nextslicecap_zero h0']; exact hbb)
   rw [Nat.zero_add] at hr
   simp only [Array.append_assoc] at hr
   rw [hZ] at hr
   have : (([] : List Value).toArray ++ (vs ++ Z).toArray) = (vs ++ Z).toArray := by simp
   rw [this] at hr
   exact hr
 unfold Oper.wp
 rw [exec_append hF hs hx hrun, Oper.upon_value]
 have hS' : Hp w0 (w.drew.alloc (.cells (vs ++ Z : List Value).toArray e)) HS := (hS.drew.alloc _).sub (List.sublist_cons_self _ _)
 exact hK _ _ (fun _ => hS') (k _ _ _ Z _ (Nat.ble_eq_true_of_le hcap) (hF.put hn hL) (hH.drew.alloc _) hS')
theorem d_sta (q : Nat) {T b j m : Nat} {cs cs' vs : List Value} {t : TypeId} (hF : Fr a n L) (hH : Hp w0 w H) (ho : ops[i]? = some ⟨none, .store T x y, ty, pos, af, g⟩) (hd : has ds i = true) (hg : wt ops L g = some true)
  (hx : ev L x = some (.pointer (some ⟨b, j, none⟩))) (hy : ev L y = some (.agg vs.toArray)) (hi : H[q]? = some (b, .cells cs.toArray t (0, 0))) (hT : tb tabSz T = some m) (hm : Nat.beq vs.length m = true) (hle : Nat.ble (j + vs.length) cs.length = true) (hv : ones vs = true) (hc : ins cs j vs = some cs') (hH' : sa H q (b, .cells cs'.toArray t (0, 0)) [] = some H')
  (k : ∀ w', Hp w0 w' H' → dL Tryz.prog ops Q S ds r a w') : dL Tryz.prog ops Q S ds (i :: r) a w := by
 refine d_one hF ho rfl hg (fun K hK => ?_)
 have hA : aggB Tryz.prog T m = true := tb_all allSz hT
 have hs : sizeB Tryz.prog T m = true := by unfold aggB at hA; rw [Bool.and_eq_true] at hA; exact hA.2
 obtain ⟨w', hr, hw⟩ := run_storeCells_own (j := j) vs w H q 0 cs cs' H' hH hi (ones_all hv) (by have := Nat.le_of_ble_eq_true hle; omega) hc hH'
 have hm' := Nat.eq_of_beq_eq_true hm
 have he : (execOp a.eval ⟨none, .store T x y, ty, pos, af, g⟩).run Tryz.prog w = .ok .skip w' := by
  simp only [execOp, hF.ev hx, hF.ev hy, Instr.storeAt, Instr.sureAddr, Sem.run_bind, Sem.run_pure, Result.andThen_ok, storeVar, run_sizeOf hs, Value.cells, List.size_toArray, hm']
  simp [hr]
 unfold Oper.wp
 rw [he, Oper.upon_skip]
 exact hK _ _ (fun h => absurd (has_iff hd) h) (k _ hw)
theorem mk_call {f : FuncId} {args : List Operand} {vs : List Value} {ts : Array TypeId} {D : Value → Hm → Prop} (ho : ops[i]? = some ⟨some d, .call { callee := .value (.func f), args := args.toArray, argTypes := ts }, ty, pos, af, g⟩) (hn : Nat.ble (d + 1) n = true) (hf : fresh L d = true) (hg : wt ops L g = some true)
  (hx : evs L args = some vs) (hff : has tabF f = true) (hc : ∀ w, S w → Calls Tryz.prog f vs.toArray w fun e w' => ∃ v Hn, D v Hn ∧ e = .returned v ∧ Hp w w' Hn) : Mk ops n L S i d D := by
 refine ⟨hn, hf, _, ho, rfl, fun a w hF hS => ⟨hF.wt hg, fun K Q h => ?_⟩⟩
 have hargs : args.toArray.map a.eval = vs.toArray := by rw [List.map_toArray]; exact congrArg _ (hF.evs hx)
 have hr : (execOp a.eval ⟨some d, .call { callee := .value (.func f), args := args.toArray, argTypes := ts }, ty, pos, af, g⟩).run Tryz.prog w = .ok (.enter f vs.toArray) w := by
  simp only [execOp, resolve, Sem.run_bind, hargs, show a.eval (.func f) = .func (.func f) #[] #[] from rfl]
  simp only [Deferred.ofValue, Sem.run_pure, Result.andThen_ok, invoke, Array.append_empty, Array.empty_append]
  exact run_callFn hff _ w
 unfold Oper.wp
 rw [hr, Oper.upon_enter]
 refine (hc w hS).mono ?_
 intro e w' ⟨v, Hn, hD, he, hw⟩
 rw [he]
 exact h v Hn w' hD hw
theorem mk_ct {β : Type} {f : FuncId} {args : List Operand} {vs : List Value} {ts : Array TypeId} {V : β → Value} {Hn : β → Hm} {φ : β → Prop} (ho : ops[i]? = some ⟨some d, .call { callee := .value (.func f), args := args.toArray, argTypes := ts }, ty, pos, af, g⟩) (hn : Nat.ble (d + 1) n = true) (hf : fresh L d = true) (hg : wt ops L g = some true)
  (hx : evs L args = some vs) (hff : has tabF f = true) (hc : ∀ w, S w → Ct f vs w V Hn φ) : Mk ops n L S i d (fun v H => ∃ x, φ x ∧ v = V x ∧ H = Hn x) := by
 refine mk_call ho hn hf hg hx hff (fun w hS => ?_)
 refine (hc w hS).mono ?_
 intro e w' ⟨x, hφ, he, hw⟩
 exact ⟨_, _, ⟨x, hφ, rfl, rfl⟩, he, hw⟩
theorem mk_val {D : Value → Hm → Prop} {op : Op} (ho : ops[i]? = some ⟨some d, op, ty, pos, af, g⟩) (hn : Nat.ble (d + 1) n = true) (hf : fresh L d = true) (hg : wt ops L g = some true)
  (hr : ∀ a w, Fr a n L → ∃ v Hn w', D v Hn ∧ Hp w w' Hn ∧ (execOp a.eval ⟨some d, op, ty, pos, af, g⟩).run Tryz.prog w = .ok (.value v) w') : Mk ops n L S i d D := by
 refine ⟨hn, hf, _, ho, rfl, fun a w hF hS => ⟨hF.wt hg, fun K Q h => ?_⟩⟩
 obtain ⟨v, Hn, w', hD, hw, he⟩ := hr a w hF
 unfold Oper.wp
 rw [he, Oper.upon_value]
 exact h v Hn w' hD hw
theorem mk_bx {T : TypeId} (ho : ops[i]? = some ⟨some d, .box T x, ty, pos, af, g⟩) (hn : Nat.ble (d + 1) n = true) (hf : fresh L d = true) (hg : wt ops L g = some true) (hx : ev L x = some v) :
  Mk ops n L S i d (fun u H => ∃ b, u = .pointer (some ⟨b, 0, none⟩) ∧ H = [(b, .cells (vc v).toArray T)]) := by
 refine mk_val ho hn hf hg (fun a w hF => ⟨_, _, w.alloc (.cells v.cells T), ⟨w.heap.size, rfl, rfl⟩, ?_, by simp [execOp, hF.ev hx, Instr.box, run_newVar]⟩)
 rw [← cells_vc]
 exact (Hp.start w).alloc _
theorem mk_al {T : TypeId} {l : List Value} (ho : ops[i]? = some ⟨some d, .alloc T, ty, pos, af, g⟩) (hn : Nat.ble (d + 1) n = true) (hf : fresh L d = true) (hg : wt ops L g = some true) (hz : tb tabZ T = some l) :
  Mk ops n L S i d (fun u H => ∃ b, u = .pointer (some ⟨b, 0, none⟩) ∧ H = [(b, .cells l.toArray T)]) := by
 obtain ⟨zv, hzc, hzr⟩ := run_zeroL hz
 refine mk_val ho hn hf hg (fun a w hF => ⟨_, _, w.alloc (.cells zv.cells T), ⟨w.heap.size, rfl, rfl⟩, ?_, by simp [execOp, Instr.alloc, hzr, run_newVar]⟩)
 rw [← hzc]
 exact (Hp.start w).alloc _
theorem mk_bs {T e len : Nat} {parts : Array (Nat × Operand)} {ps : List (Nat × Value)} {l zl : List Value} (ho : ops[i]? = some ⟨some d, .buildSlice T len parts, ty, pos, af, g⟩) (hn : Nat.ble (d + 1) n = true) (hf : fresh L d = true) (hg : wt ops L g = some true) (hT : tb tabEl T = some (e, 1)) (hz : tb tabZ e = some zl) (hps : evp L parts.toList = some ps) (hl : lit1 ps 0 = some l) (hlen : Nat.beq l.length len = true) (hpos : Nat.blt 0 len = true) (hsm : Nat.ble len 1000 = true) :
  Mk ops n L S i d (fun u H => ∃ b, u = .slice (some ⟨b, 0, none⟩) len len ∧ H = [(b, .cells l.toArray e)]) :=
 mk_val ho hn hf hg (fun a w hF => ⟨_, _, w.alloc (.cells l.toArray e), ⟨w.heap.size, rfl, rfl⟩, (Hp.start w).alloc _, r_bs hF hT hz hps hl hlen hpos hsm⟩)
theorem mk_mk {T e sz bytes l c : Nat} {kl kc : IntKind} {zl : List Value} (ho : ops[i]? = some ⟨some d, .makeSlice T x y, ty, pos, af, g⟩) (hn : Nat.ble (d + 1) n = true) (hf : fresh L d = true) (hg : wt ops L g = some true) (hT : tb tabEl T = some (e, sz)) (hz : tb tabZ e = some zl) (hb : tb tabBy e = some bytes)
  (hx : ev L x = some (.int kl (Int.ofNat l))) (hy : ev L y = some (.int kc (Int.ofNat c))) (hlc : Nat.ble l c = true) (hby : Nat.ble (bytes * c) 281474976710656 = true) (hc : Nat.ble c 9223372036854775807 = true) :
  Mk ops n L S i d (fun u H => ∃ b, u = .slice (some ⟨b, 0, none⟩) l c ∧ H = [(b, .cells (madeCells zl.toArray (c * sz)) e)]) := by
 refine mk_val ho hn hf hg (fun a w hF => ?_)
 obtain ⟨hu, hs'⟩ := el_of hT
 obtain ⟨iv, zv, hi', hzi, hzc⟩ := zero_of hz
 have hsz' : iv.size = sz := by
  obtain ⟨i', hi3, h1⟩ := size_of hs'
  rw [hi'] at hi3
  obtain rfl := Option.some.inj hi3
  exact h1
 have hbyt := by_of hb hi'
 have hzv : zv.cells = zl.toArray := by
  rcases hzc with ⟨l', rfl, rfl⟩ | ⟨rfl, ho⟩
  ·rfl
  ·cases zv <;> simp [one] at ho <;> rfl
 have hbb : (iv.bytes : Int) * (Int.ofNat c) ≤ 281474976710656 := by
  rw [hbyt]
  have h1 := Nat.le_of_ble_eq_true hby
  have : ((bytes * c : Nat) : Int) ≤ 281474976710656 := by omega
  simpa using this
 have hlc' := Nat.le_of_ble_eq_true hlc
 have hc' := Nat.le_of_ble_eq_true hc
 have hr := run_make (P := Tryz.prog) w T e iv zv hu hi' hzi kl kc (Int.ofNat l) (Int.ofNat c) (by simp) (by simpa using hlc') hbb (by simp; omega)
 rw [hzv, hsz'] at hr
 refine ⟨_, _, w.alloc (.cells (madeCells zl.toArray (c * sz)) e), ⟨w.heap.size, rfl, rfl⟩, (Hp.start w).alloc _, ?_⟩
 simp only [execOp, hF.ev hx, hF.ev hy, Sem.run_bind, hr, Result.andThen_ok]
 rfl
end
end Go.Proofs.YtlkikblohnnlcaaGreatDoor.X
end
section
namespace Go.Proofs.YtlkikblohnnlcaaGreatDoor.X
open Go Go.RowKit Go.Proofs.YtlkikblohnnlcaaGreatDoorW.PrintLast
set_option linter.unusedVariables false
set_option maxRecDepth 4000
def bytesL (s : ByteArray) : List Value := s.data.toList.map (fun x => .int .u8 (x.toNat : Int))
theorem bytesL_at (s : ByteArray) (T : List Value) (m : Nat) (h : m < s.size) : (bytesL s ++ T)[m]? = some (.int .u8 (U.B s m : Int)) := by
 have h0 : s.data.toList.length = s.size := Array.length_toList
 have hl : m < (bytesL s).length := by simp only [bytesL, List.length_map]; omega
 rw [List.getElem?_append_left hl]
 have hm : s.data.toList[m]? = some (s.data.toList[m]'(by omega)) := List.getElem?_eq_getElem (by omega)
 simp only [bytesL, List.getElem?_map, hm, Option.map_some]
 have : U.B s m = (s.data.toList[m]'(by omega)).toNat := by
  show (s.data[m]!).toNat = _
  have h' : m < s.data.size := h
  rw [getElem!_pos s.data m h']
  simp
 rw [this]
section
variable {ops : Array Oper} {Q : Exit → Act → World → Prop} {S : World → Prop} {ds : List Nat} {rest : List Oper} {r : List Nat} {a : Act} {w0 w w' : World} {n i : Nat} {L L1 : Fm} {d : Nat} {v : Value} {o : Oper} {H H' HS : Hm}
variable {ty : TypeId} {pos : String} {af : Array Edge} {g : Option (Nat × Bool)} {x y z : Operand} {u : Value} {op : Op}
theorem s_slN {T e sz len cap b j l : Nat} {lo : Option Operand} (hF : Fr a n L) (hg : wt ops L g = some true) (hn : Nat.ble (d + 1) n = true) (hT : tb tabEl T = some (e, sz)) (hx : ev L x = some (.slice (some ⟨b, j, none⟩) len cap)) (h1 : bo L 0 lo = some l) (hL : dl L d [] = some L1) (hl : l ≤ len) (hc : len ≤ cap) (hlt : l < cap)
  (k : ∀ a', Fr a' n ((d, .slice (some ⟨b, j + l * sz, none⟩) (len - l) (cap - l)) :: L1) → wpList Tryz.prog ops Q rest a' w) : wpList Tryz.prog ops Q (⟨some d, .slice T x lo none none, ty, pos, af, g⟩ :: rest) a w := by
 obtain ⟨hu, hs⟩ := el_of hT
 refine x_core hF rfl hg hn hL (w' := w) ?_ k
 have h2 : bo L len none = some len := rfl
 have hne : ¬ cap = l := by omega
 have hb := run_bounds (isS := true) hF h1 h2 hl hc Tryz.prog w
 simp only [Option.map_none] at hb
 simp [execOp, hF.ev hx, Instr.sliceAt, Instr.slice, run_underlying hu, hb, run_sizeOf hs, hne, addr_add]
theorem s_cvS {src dst e b j len cap : Nat} {l : List UInt8} (hF : Fr a n L) (hg : wt ops L g = some true) (hn : Nat.ble (d + 1) n = true) (hT : tb tabEl src = some (e, 1)) (hI : tb tabI e = some .u8) (hK : tb tabK dst = some 4) (hx : ev L x = some (.slice (some ⟨b, j, none⟩) len cap)) (hL : dl L d [] = some L1) (hlen : len = l.length)
  (hc : ∀ q (hq : q < l.length), w.cell? ⟨b, j + q, none⟩ = some (.int .u8 (l[q].toNat : Int)))
  (k : ∀ a', Fr a' n ((d, .string ⟨l.toArray⟩) :: L1) → wpList Tryz.prog ops Q rest a' w) : wpList Tryz.prog ops Q (⟨some d, .convert src dst x, ty, pos, af, g⟩ :: rest) a w := by
 obtain ⟨hu, hs⟩ := el_of hT
 subst hlen
 have hr := run_convert_bytes_back (P := Tryz.prog) w src dst e ⟨b, j, none⟩ cap l hu (int_of hI) (str_of hK) (fun q hq => by rw [addr_add]; exact hc q hq)
 refine x_core hF rfl hg hn hL (w' := w) ?_ k
 simp only [execOp, hF.ev hx, Sem.run_bind, hr, Result.andThen_ok]
 rfl
theorem s_cvB {src dst e : Nat} {s : ByteArray} (hF : Fr a n L) (hH : Hp w0 w H) (hg : wt ops L g = some true) (hn : Nat.ble (d + 1) n = true) (hT : tb tabEl dst = some (e, 1)) (hI : tb tabI e = some .u8) (hK : tb tabK src = some 4) (hx : ev L x = some (.string s)) (hL : dl L d [] = some L1)
  (k : ∀ a' b c T fr w', s.size ≤ c → Fr a' n ((d, .slice (some ⟨b, 0, none⟩) s.size c) :: L1) → Hp w0 w' ((b, .cells (bytesL s ++ T : List Value).toArray e fr) :: H) → wpList Tryz.prog ops Q rest a' w') : wpList Tryz.prog ops Q (⟨some d, .convert src dst x, ty, pos, af, g⟩ :: rest) a w := by
 obtain ⟨hu, hs⟩ := el_of hT
 have hr := run_bytes_of_string (P := Tryz.prog) w src dst e s (str_of hK) hu (int_of hI)
 have hT' : bytesRow s (grownCap w s.size 0 e) = (bytesL s ++ List.replicate (grownCap w s.size 0 e - s.size) (Value.int .u8 0)).toArray := by
  apply Array.ext'
  simp [bytesRow, bytesL]
 rw [hT'] at hr
 generalize ((bytesL s ++ List.replicate (grownCap w s.size 0 e - s.size) (Value.int .u8 0)).toArray.size, (bytesL s ++ List.replicate (grownCap w s.size 0 e - s.size) (Value.int .u8 0)).toArray.size + 1) = fr at hr
 refine x_core hF rfl hg hn hL (v := .slice (some ⟨w.heap.size, 0, none⟩) s.size (grownCap w s.size 0 e)) (w' := w.drew.alloc (.cells (bytesL s ++ List.replicate (grownCap w s.size 0 e - s.size) (Value.int .u8 0)).toArray e fr)) ?_ (fun a' h => k a' w.heap.size (grownCap w s.size 0 e) (List.replicate (grownCap w s.size 0 e - s.size) (Value.int .u8 0)) fr _ (grownCap_ge w s.size 0 e) h (hH.drew.alloc _))
 simp only [execOp, hF.ev hx, Sem.run_bind, hr, Result.andThen_ok]
 rfl
end
theorem cb {b t : Bool} (h : b = t) : some (Value.bool b) = some (Value.bool t) := by rw [h]
end Go.Proofs.YtlkikblohnnlcaaGreatDoor.X
end
section
namespace Go.Proofs.YtlkikblohnnlcaaGreatDoor.X
open Go Go.RowKit Go.Proofs.YtlkikblohnnlcaaGreatDoorW.PrintLast
set_option linter.unusedVariables false
set_option maxRecDepth 4000
def dropS : Nat → Code → Code
 | k + 1, .seq _ b => dropS k b
 | _, c => c
section
variable {ops : Array Oper} {Q : Exit → Act → World → Prop} {S : World → Prop} {ds : List Nat} {rest : List Oper} {r : List Nat} {a : Act} {w0 w w' : World} {n i : Nat} {L L1 : Fm} {d : Nat} {v : Value} {o : Oper} {H H' HS : Hm}
variable {ty : TypeId} {pos : String} {af : Array Edge} {g : Option (Nat × Bool)} {x y z : Operand} {u : Value} {op : Op}
theorem is_loopR {P : Program} {id : Nat} {dd : Bool} {c : Code} (h : (Code.loop (.seq (.region id ops dd) c)).wp P Q a w) : (Code.loop (.seq (.region id ops dd) c)).wp P Q a w := h
theorem s_ent (q q' : Nat) {b m since c0 born : Nat} {seen : Array Nat} {es : Array MapEntry} (he : ∃ e ∈ es.toList, e.born = born) (hF : Fr a n L) (hH : Hp w0 w H) (hg : wt ops L g = some true) (hn : Nat.ble (d + 1) n = true) (hx : ev L x = some (.pointer (some ⟨b, 0, none⟩))) (hi : H[q]? = some (b, .mapIter (some m) since (seen.push born) c0)) (hm : H[q']? = some (m, .map es c0)) (hL : dl L d [] = some L1)
  (k : ∀ a' k' v', Fr a' n ((d, .tuple #[k', v']) :: L1) → wpList Tryz.prog ops Q rest a' w) : wpList Tryz.prog ops Q (⟨some d, .entry x, ty, pos, af, g⟩ :: rest) a w := by
 have h1 := hH.heap hi
 have h2 := hH.heap hm
 have hf : ∃ e, es.find? (·.born == born) = some e := by
  obtain ⟨e, hmem, hb⟩ := he
  cases hfi : es.find? (·.born == born) with
  | some e => exact ⟨e, rfl⟩
  | none =>
   rw [Array.find?_eq_none] at hfi
   have := hfi e (by simpa using hmem)
   simp [hb] at this
 obtain ⟨e, hf⟩ := hf
 refine x_core (v := .tuple #[e.key, e.val]) (w' := w) hF rfl hg hn hL ?_ (fun a' h => k a' _ _ h)
 simp [execOp, hF.ev hx, Instr.entry, getObj, Sem.run, h1, h2, hf]
def tabLk : List (Nat × Nat × Nat) := [(107, 9, 70)]
noncomputable def lkOk (e : Nat × Nat × Nat) : Bool := match Tryz.prog.underlying e.1 with
 | some (.map k v) => Nat.beq k e.2.1 && Nat.beq v e.2.2
 | _ => false
theorem allLk : tabLk.all lkOk = true := by kernel_rfl
theorem lk_of {T k e : Nat} (h : tb tabLk T = some (k, e)) : Tryz.prog.underlying T = some (.map k e) := by
 have h1 := tb_all allLk h
 unfold lkOk at h1
 dsimp only at h1
 cases hu : Tryz.prog.underlying T with
 | none => rw [hu] at h1; cases h1
 | some D =>
  rw [hu] at h1
  cases D <;> simp only [Bool.false_eq_true, Bool.and_eq_true] at h1
  rw [Nat.eq_of_beq_eq_true h1.1, Nat.eq_of_beq_eq_true h1.2]
theorem s_look0 (q : Nat) {T ke e m c kk : Nat} {zv : Value} (hF : Fr a n L) (hH : Hp w0 w H) (hg : wt ops L g = some true) (hn : Nat.ble (d + 1) n = true) (hx : ev L x = some (.map (some m))) (hy : ev L y = some u) (hi : H[q]? = some (m, .map #[] c)) (hT : tb tabLk T = some (ke, e)) (hk : tb tabK ke = some 4) (he : tb tabK e = some kk) (hz : tb tabZ e = some [zv]) (hL : dl L d [] = some L1)
  (k : ∀ a', Fr a' n ((d, .tuple #[zv, .bool false]) :: L1) → wpList Tryz.prog ops Q rest a' w) : wpList Tryz.prog ops Q (⟨some d, .lookup T x y true, ty, pos, af, g⟩ :: rest) a w := by
 have hr := run_look0 (mv := .map (some m)) (kv := u) (s := .empty) (D := .string) true (lk_of hT) (str_of hk) (fun w => run_zeroT hz ⟨_, he⟩ w) w (.inr ⟨m, c, rfl, hH.heap hi⟩)
 refine x_core (v := .tuple #[zv, .bool false]) (w' := w) hF rfl hg hn hL ?_ k
 simp [execOp, hF.ev hx, hF.ev hy, hr]
end
end Go.Proofs.YtlkikblohnnlcaaGreatDoor.X
end
section
namespace Go.Proofs.YtlkikblohnnlcaaGreatDoor.X
open Go Go.RowKit Go.Proofs.YtlkikblohnnlcaaGreatDoorW.PrintLast
set_option linter.unusedVariables false
set_option maxRecDepth 4000
structure Mr where
 i : Nat
 d : Nat
 D : Value → Hm → Prop
abbrev Rs := List (Mr × Value × Hm)
theorem perm_lift {α β : Type} (f : α → β) : ∀ (ms : List β) (rs : List α), (rs.map f).Perm ms → ∃ rs' : List α, rs'.Perm rs ∧ rs'.map f = ms
 | [], rs, h => by
  have : rs.map f = [] := h.eq_nil
  have : rs = [] := by simpa using this
  subst this
  exact ⟨[], List.Perm.nil, rfl⟩
 | m :: ms, rs, h => by
  have hm : m ∈ rs.map f := h.symm.mem_iff.1 List.mem_cons_self
  obtain ⟨r, hr, rfl⟩ := List.mem_map.1 hm
  obtain ⟨s, t, rfl⟩ := List.append_of_mem hr
  have hp : (s ++ r :: t).Perm (r :: (s ++ t)) := List.perm_middle
  have h2 : (f r :: (s ++ t).map f).Perm (f r :: ms) := ((hp.map f).symm.trans h)
  obtain ⟨rs', h3, h4⟩ := perm_lift f ms (s ++ t) (List.Perm.cons_inv h2)
  exact ⟨r :: rs', (h3.cons r).trans hp.symm, by rw [List.map_cons, h4]⟩
def okN (ops : Array Oper) (ds : List Nat) (m : List Bool) : Nat → List Bool → List Nat → Bool
 | _, l, [] => l == m
 | 0, _, _ => false
 | f + 1, l, is => (Region.ready .any ops l.toArray == is) && is.all (fun i => !ds.contains i && okN ops ds m f (l.set i true) (is.erase i))
section
variable {ops : Array Oper} {Q : Exit → Act → World → Prop} {ds : List Nat} {w0 : World} {n : Nat} {L : Fm} {HS : Hm} {fuel : Nat}
theorem ready_all {md : Region.Mode} {S : World → Prop} {P : Program} {l : Array Bool} {a : Act} {w : World} {rs : List Nat} (hr : Region.ready md ops l = rs) (hne : rs ≠ []) (hd : ∀ i ∈ rs, i ∉ ds)
  (h : ∀ i ∈ rs, ∃ o, ops[i]? = some o ∧ ∀ K : Act → World → Prop, Shut (∀ a' w', S w' → (S w' → wpAnyLast P md ops Q S ds fuel (l.setIfInBounds i true) a' w') → K a' w') → if Region.wanted o (yielded ops a.tmps) = true then Oper.wp P o a w K Q else K (a.put o.dst undef) w) :
  wpAnyLast P md ops Q S ds (fuel + 1) l a w := by
 refine wpAnyLast_ready hr hne ?_
 have key : ∀ qs : List Nat, (∀ i ∈ qs, i ∈ rs) → AllReadyL P md ops Q S ds fuel l a w qs := by
  intro qs
  induction qs with
  | nil => intro _; exact AllReadyL.nil
  | cons i qs ih =>
   intro hs
   obtain ⟨o, ho, hk⟩ := h i (hs i List.mem_cons_self)
   exact AllReadyL.cons ho (hd i (hs i List.mem_cons_self)) hk (ih (fun j hj => hs j (List.mem_cons_of_mem _ hj)))
 exact key rs (fun _ h => h)
theorem parN {m : List Bool} : ∀ (k : Nat) (ms : List Mr) (l : List Bool) (a : Act) (w : World) (done : Rs), ms.length = k → okN ops ds m k l (ms.map (·.i)) = true → (ms.map (·.i)).Nodup → ((done.map (·.1.d)) ++ ms.map (·.d)).Nodup →
  (∀ e ∈ done, fresh L e.1.d = true) → Fr a n (done.map (fun r => (r.1.d, r.2.1)) ++ L) → ∀ H : Hm, Hp w0 w ((done.map (·.2.2)).flatten ++ H) → Hp w0 w HS → (∀ e ∈ ms, Mk ops n L (fun w => Hp w0 w HS) e.i e.d e.D) → (∀ e ∈ done, e.1.D e.2.1 e.2.2) →
  (∀ (a' : Act) (w' : World) (rs : Rs), (∀ e ∈ done, e ∈ rs) → (rs.map (·.1)).Perm (done.map (·.1) ++ ms) → (∀ e ∈ rs, e.1.D e.2.1 e.2.2) → Fr a' n (rs.map (fun r => (r.1.d, r.2.1)) ++ L) → Hp w0 w' ((rs.map (·.2.2)).flatten ++ H) → Hp w0 w' HS → wpAnyLast Tryz.prog .any ops Q (fun w => Hp w0 w HS) ds fuel m.toArray a' w') →
  wpAnyLast Tryz.prog .any ops Q (fun w => Hp w0 w HS) ds (k + fuel) l.toArray a w
 | 0, ms, l, a, w, done, hk, hc, _, _, _, hF, H, hH, hS, _, hD, k => by
  have : ms = [] := List.eq_nil_of_length_eq_zero hk
  subst this
  have hl : l = m := by simpa [okN] using hc
  subst hl
  rw [Nat.zero_add]
  exact k a w done (fun _ h => h) (by simp) hD hF hH hS
 | q + 1, ms, l, a, w, done, hk, hc, hin, hnd, hfr, hF, H, hH, hS, hM, hD, k => by
  have hne : ms ≠ [] := by intro e; rw [e] at hk; cases hk
  have hne' : ms.map (·.i) ≠ [] := by simpa using hne
  have hc' : (Region.ready .any ops l.toArray == ms.map (·.i)) = true ∧ (ms.map (·.i)).all (fun i => !ds.contains i && okN ops ds m q (l.set i true) ((ms.map (·.i)).erase i)) = true := by
   cases hms : ms.map (·.i) with
   | nil => exact absurd hms hne'
   | cons x xs =>
    rw [hms] at hc
    simpa [okN, -List.all_cons] using hc
  obtain ⟨hr, hall⟩ := hc'
  rw [List.all_eq_true] at hall
  rw [Nat.add_right_comm q 1 fuel]
  refine ready_all (by simpa using hr) hne' (fun i hi => by have := hall i hi; simp only [Bool.and_eq_true, Bool.not_eq_true', List.contains_eq_mem, decide_eq_false_iff_not] at this; exact this.1) ?_
  intro i hi
  obtain ⟨e, he, rfl⟩ := List.mem_map.1 hi
  obtain ⟨hn, hf, o, ho, hd, hm⟩ := hM e he
  have hFL : Fr a n L := hF.mem (fun x hx => List.mem_append_right _ hx)
  obtain ⟨hw, hrun⟩ := hm a w hFL hS
  refine ⟨o, ho, fun K hK => ?_⟩
  rw [if_pos hw]
  refine hrun K Q (fun v Hn w' hDv hp => ?_)
  refine hK.out _ _ (hS.of_below hp.below) (fun hS' => ?_)
  obtain ⟨s, t, hst⟩ := List.append_of_mem he
  have hall' := hall e.i hi
  simp only [Bool.and_eq_true] at hall'
  have hmid : (s ++ e :: t).Perm (e :: (s ++ t)) := List.perm_middle
  have herase : (ms.map (·.i)).erase e.i = (s ++ t).map (·.i) := by
   rw [hst]
   rw [hst] at hin
   simp only [List.map_append, List.map_cons] at hin ⊢
   have hni : e.i ∉ s.map (·.i) := by
    intro h
    have := (List.nodup_append.1 hin).2.2 _ h e.i List.mem_cons_self
    exact this rfl
   rw [List.erase_append_right _ hni, List.erase_cons_head]
  have hlen : (s ++ t).length = q := by
   have : ms.length = (s ++ e :: t).length := by rw [hst]
   simp only [List.length_append, List.length_cons] at this ⊢
   omega
  rw [hst] at hnd hM k
  have hmap : ((s ++ e :: t).map (·.d)).Perm (e.d :: (s ++ t).map (·.d)) := hmid.map (·.d)
  have hnd' : (((e, v, Hn) :: done).map (fun r => r.1.d) ++ (s ++ t).map (·.d)).Nodup := by
   have h1 : (done.map (fun r => r.1.d) ++ (s ++ e :: t).map (·.d)).Perm (e.d :: (done.map (fun r => r.1.d) ++ (s ++ t).map (·.d))) :=
    (List.Perm.append_left _ hmap).trans List.perm_middle
   exact h1.nodup_iff.1 hnd
  have hfd : ∀ x ∈ done, x.1.d ≠ e.d := by
   intro x hx h
   have h2 := (List.nodup_cons.1 (show (e.d :: (done.map (fun r => r.1.d) ++ (s ++ t).map (·.d))).Nodup from hnd')).1
   apply h2
   rw [← h]
   exact List.mem_append_left _ (List.mem_map_of_mem (f := fun r : Mr × Value × Hm => r.1.d) hx)
  have hfresh : fresh (done.map (fun r => (r.1.d, r.2.1)) ++ L) e.d = true := by
   have key : ∀ (dn : Rs), (∀ x ∈ dn, x.1.d ≠ e.d) → fresh (dn.map (fun r => (r.1.d, r.2.1)) ++ L) e.d = true := by
    intro dn
    induction dn with
    | nil => intro _; exact hf
    | cons x xs ih =>
     intro h
     show fresh ((x.1.d, x.2.1) :: (xs.map (fun r => (r.1.d, r.2.1)) ++ L)) e.d = true
     unfold fresh
     have hx := h x List.mem_cons_self
     have : Nat.beq x.1.d e.d = false := by
      cases hb : Nat.beq x.1.d e.d with
      | false => rfl
      | true => exact absurd (Nat.eq_of_beq_eq_true hb) hx
     rw [this]
     exact ih (fun y hy => h y (List.mem_cons_of_mem _ hy))
   exact key done hfd
  have ih := parN q (s ++ t) (l.set e.i true) (a.put (some e.d) v) w' ((e, v, Hn) :: done) hlen (by rw [← herase]; exact hall'.2)
   (by rw [← herase]; exact hin.erase _) hnd'
   (fun x hx => by rcases List.mem_cons.1 hx with rfl | hx; exact hf; exact hfr x hx)
   (hF.putNew hn hfresh) H (by
    have := hH.app hp
    simpa [List.append_assoc] using this) hS' (fun x hx => hM x (by
     rcases List.mem_append.1 hx with h | h
     ·exact List.mem_append_left _ h
     ·exact List.mem_append_right _ (List.mem_cons_of_mem _ h)))
   (fun x hx => by rcases List.mem_cons.1 hx with rfl | hx; exact hDv; exact hD x hx)
   (fun a2 w2 rs hs2 hp2 hD2 hF2 hH2 hS2 => k a2 w2 rs (fun x hx => hs2 x (List.mem_cons_of_mem _ hx)) (hp2.trans (by
    show (e :: (done.map (·.1) ++ (s ++ t))).Perm (done.map (·.1) ++ (s ++ e :: t))
    exact (List.perm_middle.symm).trans (List.Perm.append_left _ hmid.symm))) hD2 hF2 hH2 hS2)
  have e1 : l.toArray.setIfInBounds e.i true = (l.set e.i true).toArray := by simp
  rw [e1]
  exact ih
def GN (ops : Array Oper) (w0 : World) (HS : Hm) (g : List Nat) (B : Act → World → Prop) (a : Act) (w : World) : Prop :=
 ∃ (n : Nat) (L : Fm) (H : Hm) (ms : List Mr), ms.map (·.i) = g ∧ (ms.map (·.d)).Nodup ∧ Fr a n L ∧ Hp w0 w H ∧ Hp w0 w HS ∧ (∀ e ∈ ms, Mk ops n L (fun w => Hp w0 w HS) e.i e.d e.D) ∧
  ∀ (a' : Act) (w' : World) (rs : Rs), rs.map (·.1) = ms → (∀ e ∈ rs, e.1.D e.2.1 e.2.2) → Fr a' n (rs.map (fun r => (r.1.d, r.2.1)) ++ L) → Hp w0 w' ((rs.map (·.2.2)).flatten ++ H) → Hp w0 w' HS → B a' w'
def chkN (ops : Array Oper) (T : Bool × List (List Nat × List Nat)) (B ks ds : List Nat) : List Bool → List (List Nat × List Nat) → List Nat → Bool
 | l, [], last => chkO T B ks ds l last
 | l, (pre, g) :: r, last => chkS T B ks ds l pre (sets l pre) && okN ops ds (sets (sets l pre) g) g.length (sets l pre) g && nodupB g && chkN ops T B ks ds (sets (sets l pre) g) r last
def dN (ops : Array Oper) (Q : Exit → Act → World → Prop) (w0 : World) (HS : Hm) (ds : List Nat) : List (List Nat × List Nat) → List Nat → Act → World → Prop
 | [], last => dL Tryz.prog ops Q (fun w => Hp w0 w HS) ds last
 | (pre, g) :: r, last => dL Tryz.prog ops (QB (GN ops w0 HS g (dN ops Q w0 HS ds r last)) Q) (fun w => Hp w0 w HS) ds pre
def lenN : List (List Nat × List Nat) → List Nat → Nat
 | [], last => last.length
 | (pre, g) :: r, last => pre.length + (g.length + lenN r last)
theorem nodup_of : ∀ {l : List Nat}, nodupB l = true → l.Nodup
 | [], _ => List.nodup_nil
 | x :: r, h => by
  unfold nodupB at h
  cases hb : has r x with
  | true => rw [hb] at h; cases h
  | false =>
   rw [hb] at h
   exact List.nodup_cons.2 ⟨(fun hx => by rw [has_mem hx] at hb; cases hb), nodup_of h⟩
theorem dN_any {T : Bool × List (List Nat × List Nat)} {B ks : List Nat} (hT : rtab .any ops = T) (hB : waitsOk T.2 B = true) (hk : ks = (List.range ops.size).map (kdAt ops))
  (hQ : ∀ c a o v w, Q (.panic c) (Act.put a o v) w → Q (.panic c) a w) :
  ∀ (plan : List (List Nat × List Nat)) (last : List Nat) (l : List Bool) (a : Act) (w : World), chkN ops T B ks ds l plan last = true → dN ops Q w0 HS ds plan last a w → wpAnyLast Tryz.prog .any ops Q (fun w => Hp w0 w HS) ds (lenN plan last) l.toArray a w
 | [], last, l, a, w, hc, h => dL_any hT hB hk hQ last l.toArray a w (by unfold chkN at hc; exact hc) h
 | (pre, g) :: r, last, l, a, w, hc, h => by
  unfold chkN at hc
  rw [Bool.and_eq_true, Bool.and_eq_true, Bool.and_eq_true] at hc
  obtain ⟨⟨⟨h1, h2⟩, hg⟩, h3⟩ := hc
  refine dL_seg (m := sets l pre) hT hB hk hQ ?_ pre l.toArray a w (by simpa using h1) h
  intro a1 w1 ⟨n, L, H, ms, hms, hnd, hF, hH, hS, hM, k⟩
  subst hms
  have hlen : (ms.map (·.i)).length = ms.length := List.length_map _
  rw [hlen] at h2 ⊢
  refine parN (m := sets (sets l pre) (ms.map (·.i))) ms.length ms (sets l pre) a1 w1 [] rfl h2 (nodup_of hg) (by simpa using hnd) (fun _ h => by cases h) (by simpa using hF) H (by simpa using hH) hS hM (fun _ h => by cases h) ?_
  intro a' w' rs _ hp hD hF' hH' hS'
  obtain ⟨rs', hp', hms'⟩ := perm_lift (·.1) ms rs (by simpa using hp)
  refine dN_any hT hB hk hQ r last _ a' w' h3 (k a' w' rs' hms' (fun e he => hD e (hp'.mem_iff.1 he)) (hF'.mem ?_) (hH'.perm ?_) hS')
  ·intro e he
   rcases List.mem_append.1 he with h | h
   ·exact List.mem_append_left _ ((hp'.map _).mem_iff.1 h)
   ·exact List.mem_append_right _ h
  ·exact List.Perm.append_right _ (List.Perm.flatten (hp'.map _))
def chkDN (ops : Array Oper) (ds : List Nat) (plan : List (List Nat × List Nat)) (last : List Nat) : Bool :=
 let T := rtab .any ops
 let B := bitsOf T.2
 waitsOk T.2 B && (lenN plan last == ops.size) && chkN ops T B ((List.range ops.size).map (kdAt ops)) ds (List.replicate ops.size false) plan last
theorem c_planN {a : Act} {w : World} {H : Hm} {id : Nat} (ds : List Nat) (plan : List (List Nat × List Nat)) (last : List Nat) (hH : Hp w0 w H) (hc : chkDN ops ds plan last = true) (hQ : ∀ c a o v w, Q (.panic c) (Act.put a o v) w → Q (.panic c) a w)
  (h : ∀ w', Hp w0 w' H → dN ops Q w0 H ds plan last a w') : (Code.region id ops true).wp Tryz.prog Q a w := by
 have h1 : Hp w0 w.drew H := hH.drew
 unfold chkDN at hc
 simp only [Bool.and_eq_true, beq_iff_eq] at hc
 obtain ⟨⟨h2, h3⟩, h4⟩ := hc
 refine start_ (n := ops.size) (S := fun w => Hp w0 w H) (ds := ds) (Array.replicate ops.size false) mixed J J h1 (fun _ => ?_)
 rw [← h3]
 have := dN_any (w0 := w0) (HS := H) rfl h2 rfl hQ plan last _ a _ h4 (h _ h1)
 rw [h3] at this ⊢
 simpa using this
variable {a : Act} {w : World} {H : Hm} {B : Act → World → Prop}
theorem gn2 {i j di dj : Nat} {Di Dj : Value → Hm → Prop} (hF : Fr a n L) (hH : Hp w0 w H) (hS : Hp w0 w HS) (hnd : nodupB [di, dj] = true) (mi : Mk ops n L (fun w => Hp w0 w HS) i di Di) (mj : Mk ops n L (fun w => Hp w0 w HS) j dj Dj)
  (k : ∀ a' w' vi Hi vj Hj, Di vi Hi → Dj vj Hj → Fr a' n ((di, vi) :: (dj, vj) :: L) → Hp w0 w' (Hi ++ (Hj ++ H)) → Hp w0 w' HS → B a' w') : GN ops w0 HS [i, j] B a w := by
 refine ⟨n, L, H, [⟨i, di, Di⟩, ⟨j, dj, Dj⟩], rfl, nodup_of hnd, hF, hH, hS, ?_, ?_⟩
 ·intro e he
  simp only [List.mem_cons, List.not_mem_nil, or_false] at he
  rcases he with rfl | rfl
  ·exact mi
  ·exact mj
 ·intro a' w' rs hrs hD hF' hH' hS'
  match rs, hrs with
  | [(_, vi, Hi), (_, vj, Hj)], rfl => exact k a' w' vi Hi vj Hj (hD _ (.head _)) (hD _ (.tail _ (.head _))) hF' (by simpa using hH') hS'
theorem dN_cons {pre g : List Nat} {r : List (List Nat × List Nat)} {last : List Nat} (h : dL Tryz.prog ops (QB (GN ops w0 HS g (dN ops Q w0 HS ds r last)) Q) (fun w => Hp w0 w HS) ds pre a w) : dN ops Q w0 HS ds ((pre, g) :: r) last a w := h
theorem dN_nil {last : List Nat} (h : dL Tryz.prog ops Q (fun w => Hp w0 w HS) ds last a w) : dN ops Q w0 HS ds [] last a w := h
theorem d_seg {P : Program} {S : World → Prop} (h : B a w) : dL P ops (QB B Q) S ds [] a w := by unfold dL; exact h
theorem Hp.mid (h : Hp w0 w H) (k m : Nat) : Hp w0 w (H.take k ++ H.drop (k + m)) := by
 refine h.sub ?_
 have h1 : (H.drop (k + m)).Sublist (H.drop k) := by
  rw [← List.drop_drop]
  exact List.drop_sublist _ _
 have h2 := List.Sublist.append (List.Sublist.refl (H.take k)) h1
 rw [List.take_append_drop] at h2
 exact h2
end
def okQ (ops : Array Oper) (ds : List Nat) (m : List Bool) (T : List Nat) (p : Nat) : Nat → List Bool → List Nat → Bool
 | _, l, [] => l.set p true == m && T.all (fun i => ![].contains i) && anyB .any ops l.toArray (l.set p true).toArray p
 | 0, _, _ => false
 | f + 1, l, is => cond (Region.ready .any ops l.toArray == is)
   (is.all (fun i => !ds.contains i && okQ ops ds m T p f (l.set i true) (is.erase i)))
   (anyB .any ops l.toArray (l.set p true).toArray p && T.all (fun i => !is.contains i) && okN ops ds m (f + 1) (l.set p true) is)
theorem pick_all : ∀ (T : List Mr) (dn : Rs), (∀ m ∈ T, m ∈ dn.map (·.1)) → ∃ rs : Rs, rs.map (·.1) = T ∧ ∀ r ∈ rs, r ∈ dn
 | [], _, _ => ⟨[], rfl, fun _ h => by cases h⟩
 | m :: T, dn, h => by
  obtain ⟨rs, h1, h2⟩ := pick_all T dn (fun x hx => h x (List.mem_cons_of_mem _ hx))
  obtain ⟨r, hr, rfl⟩ := List.mem_map.1 (h m List.mem_cons_self)
  exact ⟨r :: rs, by rw [List.map_cons, h1], fun x hx => by rcases List.mem_cons.1 hx with rfl | hx; exact hr; exact h2 x hx⟩
section
variable {ops : Array Oper} {Q : Exit → Act → World → Prop} {ds : List Nat} {w0 : World} {n : Nat} {L : Fm} {HS : Hm} {fuel : Nat}
theorem parQ {m : List Bool} {T : List Mr} {p dp : Nat} {op : Oper} (hop : ops[p]? = some op) (hdp : op.dst = some dp) (hdn : Nat.ble (dp + 1) n = true) (hfp : fresh L dp = true) (hQ : ∀ c a o v w, Q (.panic c) (Act.put a o v) w → Q (.panic c) a w)
  (hY : ∀ rs : Rs, rs.map (·.1) = T → (∀ e ∈ rs, e.1.D e.2.1 e.2.2) → ∃ v, ∀ a, Fr a n (rs.map (fun r => (r.1.d, r.2.1)) ++ L) → Region.wanted op (yielded ops a.tmps) = true ∧ ∀ w, (execOp a.eval op).run Tryz.prog w = .ok (.value v) w) :
  ∀ (k : Nat) (ms : List Mr) (l : List Bool) (a : Act) (w : World) (done : Rs), ms.length = k → okQ ops ds m (T.map (·.i)) p k l (ms.map (·.i)) = true → (ms.map (·.i)).Nodup → ((done.map (·.1.d)) ++ ms.map (·.d)).Nodup → (∀ e ∈ done, e.1.d ≠ dp) → (∀ e ∈ ms, e.d ≠ dp) → (∀ x ∈ T, x ∈ done.map (·.1) ++ ms) →
  (∀ e ∈ done, fresh L e.1.d = true) → Fr a n (done.map (fun r => (r.1.d, r.2.1)) ++ L) → ∀ H : Hm, Hp w0 w ((done.map (·.2.2)).flatten ++ H) → Hp w0 w HS → (∀ e ∈ ms, Mk ops n L (fun w => Hp w0 w HS) e.i e.d e.D) → (∀ e ∈ done, e.1.D e.2.1 e.2.2) →
  (∀ (a' : Act) (w' : World) (rs : Rs) (v : Value), (rs.map (·.1)).Perm (done.map (·.1) ++ ms) → (∀ e ∈ rs, e.1.D e.2.1 e.2.2) → Fr a' n (rs.map (fun r => (r.1.d, r.2.1)) ++ ((dp, v) :: L)) → (∀ w, (execOp a'.eval op).run Tryz.prog w = .ok (.value v) w) → Hp w0 w' ((rs.map (·.2.2)).flatten ++ H) → Hp w0 w' HS → wpAnyLast Tryz.prog .any ops Q (fun w => Hp w0 w HS) ds fuel m.toArray a' w') →
  wpAnyLast Tryz.prog .any ops Q (fun w => Hp w0 w HS) ds (k + 1 + fuel) l.toArray a w := by
 have now : ∀ (ms : List Mr) (l : List Bool) (a : Act) (w : World) (done : Rs) (H : Hm) (q : Nat), ms.length = q → anyB .any ops l.toArray (l.set p true).toArray p = true → okN ops ds m q (l.set p true) (ms.map (·.i)) = true → (ms.map (·.i)).Nodup → ((done.map (·.1.d)) ++ ms.map (·.d)).Nodup → (∀ e ∈ done, e.1.d ≠ dp) → (∀ e ∈ ms, e.d ≠ dp) → (∀ x ∈ T, x ∈ done.map (·.1)) →
   (∀ e ∈ done, fresh L e.1.d = true) → Fr a n (done.map (fun r => (r.1.d, r.2.1)) ++ L) → Hp w0 w ((done.map (·.2.2)).flatten ++ H) → Hp w0 w HS → (∀ e ∈ ms, Mk ops n L (fun w => Hp w0 w HS) e.i e.d e.D) → (∀ e ∈ done, e.1.D e.2.1 e.2.2) →
   (∀ (a' : Act) (w' : World) (rs : Rs) (v : Value), (rs.map (·.1)).Perm (done.map (·.1) ++ ms) → (∀ e ∈ rs, e.1.D e.2.1 e.2.2) → Fr a' n (rs.map (fun r => (r.1.d, r.2.1)) ++ ((dp, v) :: L)) → (∀ w, (execOp a'.eval op).run Tryz.prog w = .ok (.value v) w) → Hp w0 w' ((rs.map (·.2.2)).flatten ++ H) → Hp w0 w' HS → wpAnyLast Tryz.prog .any ops Q (fun w => Hp w0 w HS) ds fuel m.toArray a' w') →
   wpAnyLast Tryz.prog .any ops Q (fun w => Hp w0 w HS) ds (q + 1 + fuel) l.toArray a w := by
  intro ms l a w done H q hq hany hok hin hnd hd1 hd2 hT hfr hF hH hS hM hD k
  obtain ⟨rsT, hrsT, hsub⟩ := pick_all T done hT
  obtain ⟨v, hv⟩ := hY rsT hrsT (fun e he => hD e (hsub e he))
  have hFT : ∀ a', Fr a' n (done.map (fun r => (r.1.d, r.2.1)) ++ L) → Fr a' n (rsT.map (fun r => (r.1.d, r.2.1)) ++ L) := fun a' h => h.mem (fun e he => by
   rcases List.mem_append.1 he with h1 | h1
   ·obtain ⟨r, hr, rfl⟩ := List.mem_map.1 h1
    exact List.mem_append_left _ (List.mem_map_of_mem (hsub r hr))
   ·exact List.mem_append_right _ h1)
  obtain ⟨hw, hrun⟩ := hv a (hFT a hF)
  rw [show q + 1 + fuel = (q + fuel) + 1 by omega]
  refine pure_ (i := p) (N := some dp) (v := v) (l.set p true).toArray hop hdp hany (fun c a w => hQ c a _ _ w) ?_ rfl ?_
  ·exact .inl ⟨hw, fun w => hrun w⟩
  ·have hfresh : fresh (done.map (fun r => (r.1.d, r.2.1)) ++ L) dp = true := by
    have key : ∀ (dn : Rs), (∀ x ∈ dn, x.1.d ≠ dp) → fresh (dn.map (fun r => (r.1.d, r.2.1)) ++ L) dp = true := by
     intro dn
     induction dn with
     | nil => intro _; exact hfp
     | cons x xs ih =>
      intro h
      show fresh ((x.1.d, x.2.1) :: (xs.map (fun r => (r.1.d, r.2.1)) ++ L)) dp = true
      unfold fresh
      have hx := h x List.mem_cons_self
      have : Nat.beq x.1.d dp = false := by
       cases hb : Nat.beq x.1.d dp with
       | false => rfl
       | true => exact absurd (Nat.eq_of_beq_eq_true hb) hx
      rw [this]
      exact ih (fun y hy => h y (List.mem_cons_of_mem _ hy))
    exact key done hd1
   have hF1 : Fr (a.put (some dp) v) n ((dp, v) :: (done.map (fun r => (r.1.d, r.2.1)) ++ L)) := hF.putNew hdn hfresh
   have hF2 : Fr (a.put (some dp) v) n (done.map (fun r => (r.1.d, r.2.1)) ++ ((dp, v) :: L)) := hF1.mem (fun e he => by
    rcases List.mem_append.1 he with h | h
    ·exact List.mem_cons_of_mem _ (List.mem_append_left _ h)
    ·rcases List.mem_cons.1 h with rfl | h
     ·exact List.mem_cons_self
     ·exact List.mem_cons_of_mem _ (List.mem_append_right _ h))
   have fr2 : ∀ d, fresh L d = true → d ≠ dp → fresh ((dp, v) :: L) d = true := fun d h1 h2 => by
    unfold fresh
    have : Nat.beq dp d = false := by
     cases hb : Nat.beq dp d with
     | false => rfl
     | true => exact absurd (Nat.eq_of_beq_eq_true hb).symm h2
    rw [this]
    exact h1
   refine parN (L := (dp, v) :: L) (m := m) q ms (l.set p true) _ w done hq hok hin hnd (fun e he => fr2 _ (hfr e he) (hd1 e he)) hF2 H hH hS ?_ hD ?_
   ·intro e he
    obtain ⟨h1, h2, o, h3, h4, h5⟩ := hM e he
    exact ⟨h1, fr2 _ h2 (hd2 e he), o, h3, h4, fun a w hF hS => h5 a w (hF.mem (fun x hx => List.mem_cons_of_mem _ hx)) hS⟩
   ·intro a' w' rs hs hp hD' hF' hH' hS'
    refine k a' w' rs v hp hD' hF' ?_ hH' hS'
    have : Fr a' n (rsT.map (fun r => (r.1.d, r.2.1)) ++ L) := hF'.mem (fun e he => by
     rcases List.mem_append.1 he with h | h
     ·obtain ⟨r, hr, rfl⟩ := List.mem_map.1 h
      exact List.mem_append_left _ (List.mem_map_of_mem (f := fun r : Mr × Value × Hm => (r.1.d, r.2.1)) (hs r (hsub r hr)))
     ·exact List.mem_append_right _ (List.mem_cons_of_mem _ h))
    exact (hv a' this).2
 intro k
 induction k with
 | zero =>
  intro ms l a w done hk hc hin hnd hd1 hd2 hT hfr hF H hH hS hM hD kk
  have : ms = [] := List.eq_nil_of_length_eq_zero hk
  subst this
  have hc' : (l.set p true == m) = true ∧ anyB .any ops l.toArray (l.set p true).toArray p = true := by
   simp only [okQ, Bool.and_eq_true, List.map_nil] at hc
   exact ⟨hc.1.1, hc.2⟩
  exact now [] l a w done H 0 rfl hc'.2 (by simpa [okN] using hc'.1) (by simp) hnd hd1 (fun _ h => by cases h) (fun x hx => by simpa using hT x hx) hfr hF hH hS (fun _ h => by cases h) hD kk
 | succ q ih =>
  intro ms l a w done hk hc hin hnd hd1 hd2 hT hfr hF H hH hS hM hD kk
  have hne : ms ≠ [] := by intro e; rw [e] at hk; cases hk
  have hne' : ms.map (·.i) ≠ [] := by simpa using hne
  have hc' : cond (Region.ready .any ops l.toArray == ms.map (·.i)) ((ms.map (·.i)).all (fun i => !ds.contains i && okQ ops ds m (T.map (·.i)) p q (l.set i true) ((ms.map (·.i)).erase i)))
   (anyB .any ops l.toArray (l.set p true).toArray p && (T.map (·.i)).all (fun i => !(ms.map (·.i)).contains i) && okN ops ds m (q + 1) (l.set p true) (ms.map (·.i))) = true := by
   cases hms : ms.map (·.i) with
   | nil => exact absurd hms hne'
   | cons x xs =>
    rw [hms] at hc
    exact hc
  cases hr : (Region.ready .any ops l.toArray == ms.map (·.i)) with
  | false =>
   rw [hr] at hc'
   simp only [cond_false, Bool.and_eq_true] at hc'
   obtain ⟨⟨h1, h2⟩, h3⟩ := hc'
   refine now ms l a w done H (q + 1) hk h1 h3 hin hnd hd1 hd2 (fun x hx => ?_) hfr hF hH hS hM hD kk
   rcases List.mem_append.1 (hT x hx) with h | h
   ·exact h
   ·exfalso
    have h4 := List.all_eq_true.1 h2 x.i (List.mem_map_of_mem hx)
    have h5 : x.i ∈ ms.map (·.i) := List.mem_map_of_mem h
    simp [List.contains_eq_mem, h5] at h4
  | true =>
   rw [hr] at hc'
   simp only [cond_true] at hc'
   rw [List.all_eq_true] at hc'
   rw [show q + 1 + 1 + fuel = (q + 1 + fuel) + 1 by omega]
   refine ready_all (by simpa using hr) hne' (fun i hi => by have := hc' i hi; simp only [Bool.and_eq_true, Bool.not_eq_true', List.contains_eq_mem, decide_eq_false_iff_not] at this; exact this.1) ?_
   intro i hi
   obtain ⟨e, he, rfl⟩ := List.mem_map.1 hi
   obtain ⟨hn, hf, o, ho, hd, hm⟩ := hM e he
   have hFL : Fr a n L := hF.mem (fun x hx => List.mem_append_right _ hx)
   obtain ⟨hw, hrun⟩ := hm a w hFL hS
   refine ⟨o, ho, fun K hK => ?_⟩
   rw [if_pos hw]
   refine hrun K Q (fun v Hn w' hDv hp => ?_)
   refine hK.out _ _ (hS.of_below hp.below) (fun hS' => ?_)
   obtain ⟨s, t, hst⟩ := List.append_of_mem he
   have hall' := hc' e.i hi
   simp only [Bool.and_eq_true] at hall'
   have hmid : (s ++ e :: t).Perm (e :: (s ++ t)) := List.perm_middle
   have herase : (ms.map (·.i)).erase e.i = (s ++ t).map (·.i) := by
    rw [hst]
    rw [hst] at hin
    simp only [List.map_append, List.map_cons] at hin ⊢
    have hni : e.i ∉ s.map (·.i) := by
     intro h
     have := (List.nodup_append.1 hin).2.2 _ h e.i List.mem_cons_self
     exact this rfl
    rw [List.erase_append_right _ hni, List.erase_cons_head]
   have hlen : (s ++ t).length = q := by
    have : ms.length = (s ++ e :: t).length := by rw [hst]
    simp only [List.length_append, List.length_cons] at this ⊢
    omega
   rw [hst] at hnd hM kk hd2 hT
   have hmap : ((s ++ e :: t).map (·.d)).Perm (e.d :: (s ++ t).map (·.d)) := hmid.map (·.d)
   have hnd' : (((e, v, Hn) :: done).map (fun r => r.1.d) ++ (s ++ t).map (·.d)).Nodup := by
    have h1 : (done.map (fun r => r.1.d) ++ (s ++ e :: t).map (·.d)).Perm (e.d :: (done.map (fun r => r.1.d) ++ (s ++ t).map (·.d))) :=
     (List.Perm.append_left _ hmap).trans List.perm_middle
    exact h1.nodup_iff.1 hnd
   have hfd : ∀ x ∈ done, x.1.d ≠ e.d := by
    intro x hx h
    have h2 := (List.nodup_cons.1 (show (e.d :: (done.map (fun r => r.1.d) ++ (s ++ t).map (·.d))).Nodup from hnd')).1
    apply h2
    rw [← h]
    exact List.mem_append_left _ (List.mem_map_of_mem (f := fun r : Mr × Value × Hm => r.1.d) hx)
   have hfresh : fresh (done.map (fun r => (r.1.d, r.2.1)) ++ L) e.d = true := by
    have key : ∀ (dn : Rs), (∀ x ∈ dn, x.1.d ≠ e.d) → fresh (dn.map (fun r => (r.1.d, r.2.1)) ++ L) e.d = true := by
     intro dn
     induction dn with
     | nil => intro _; exact hf
     | cons x xs ih =>
      intro h
      show fresh ((x.1.d, x.2.1) :: (xs.map (fun r => (r.1.d, r.2.1)) ++ L)) e.d = true
      unfold fresh
      have hx := h x List.mem_cons_self
      have : Nat.beq x.1.d e.d = false := by
       cases hb : Nat.beq x.1.d e.d with
       | false => rfl
       | true => exact absurd (Nat.eq_of_beq_eq_true hb) hx
      rw [this]
      exact ih (fun y hy => h y (List.mem_cons_of_mem _ hy))
    exact key done hfd
   have e1 : l.toArray.setIfInBounds e.i true = (l.set e.i true).toArray := by simp
   rw [e1]
   have hperm : (e :: (done.map (·.1) ++ (s ++ t))).Perm (done.map (·.1) ++ (s ++ e :: t)) := (List.perm_middle.symm).trans (List.Perm.append_left _ hmid.symm)
   have hsub : ∀ x, x ∈ s ++ t → x ∈ s ++ e :: t := fun x hx => by
    rcases List.mem_append.1 hx with h | h
    ·exact List.mem_append_left _ h
    ·exact List.mem_append_right _ (List.mem_cons_of_mem _ h)
   refine ih (s ++ t) (l.set e.i true) (a.put (some e.d) v) w' ((e, v, Hn) :: done) hlen (by rw [← herase]; exact hall'.2)
    (by rw [← herase]; exact hin.erase _) hnd'
    (fun x hx => by
     rcases List.mem_cons.1 hx with rfl | hx
     ·exact hd2 e (by simp)
     ·exact hd1 x hx) (fun x hx => hd2 x (hsub x hx)) (fun x hx => hperm.mem_iff.2 (hT x hx))
    (fun x hx => by rcases List.mem_cons.1 hx with rfl | hx; exact hf; exact hfr x hx)
    (hF.putNew hn hfresh) H (by
     have := hH.app hp
     simpa [List.append_assoc] using this) hS' (fun x hx => hM x (hsub x hx))
    (fun x hx => by rcases List.mem_cons.1 hx with rfl | hx; exact hDv; exact hD x hx)
    (fun a2 w2 rs v2 hp2 hD2 hF2 hv2 hH2 hS2 => kk a2 w2 rs v2 (hp2.trans hperm) hD2 hF2 hv2 hH2 hS2)
def GQ (ops : Array Oper) (w0 : World) (HS : Hm) (g t : List Nat) (p : Nat) (B : Act → World → Prop) (a : Act) (w : World) : Prop :=
 ∃ (n : Nat) (L : Fm) (H : Hm) (ms T : List Mr) (op : Oper) (dp : Nat), ms.map (·.i) = g ∧ T.map (·.i) = t ∧ (ms.map (·.d)).Nodup ∧ (∀ e ∈ ms, e.d ≠ dp) ∧ (∀ x ∈ T, x ∈ ms) ∧ ops[p]? = some op ∧ op.dst = some dp ∧ Nat.ble (dp + 1) n = true ∧ fresh L dp = true ∧
  Fr a n L ∧ Hp w0 w H ∧ Hp w0 w HS ∧ (∀ e ∈ ms, Mk ops n L (fun w => Hp w0 w HS) e.i e.d e.D) ∧
  (∀ rs : Rs, rs.map (·.1) = T → (∀ e ∈ rs, e.1.D e.2.1 e.2.2) → ∃ v, ∀ a, Fr a n (rs.map (fun r => (r.1.d, r.2.1)) ++ L) → Region.wanted op (yielded ops a.tmps) = true ∧ ∀ w, (execOp a.eval op).run Tryz.prog w = .ok (.value v) w) ∧
  ∀ (a' : Act) (w' : World) (rs : Rs) (v : Value), rs.map (·.1) = ms → (∀ e ∈ rs, e.1.D e.2.1 e.2.2) → Fr a' n (rs.map (fun r => (r.1.d, r.2.1)) ++ ((dp, v) :: L)) → (∀ w, (execOp a'.eval op).run Tryz.prog w = .ok (.value v) w) → Hp w0 w' ((rs.map (·.2.2)).flatten ++ H) → Hp w0 w' HS → B a' w'
def chkQ (ops : Array Oper) (ds pre g t : List Nat) (p : Nat) (last : List Nat) : Bool :=
 let T := rtab .any ops
 let B := bitsOf T.2
 let ks := (List.range ops.size).map (kdAt ops)
 let l := List.replicate ops.size false
 let m := sets (sets l pre) (g ++ [p])
 waitsOk T.2 B && (pre.length + (g.length + 1 + last.length) == ops.size) && chkS T B ks ds l pre (sets l pre) && okQ ops ds m t p g.length (sets l pre) g && nodupB g && chkO T B ks ds m last
theorem c_planQ {a : Act} {w : World} {H : Hm} {id : Nat} (ds pre g t : List Nat) (p : Nat) (last : List Nat) (hH : Hp w0 w H) (hc : chkQ ops ds pre g t p last = true) (hQ : ∀ c a o v w, Q (.panic c) (Act.put a o v) w → Q (.panic c) a w)
  (h : ∀ w', Hp w0 w' H → dL Tryz.prog ops (QB (GQ ops w0 H g t p (dL Tryz.prog ops Q (fun w => Hp w0 w H) ds last)) Q) (fun w => Hp w0 w H) ds pre a w') : (Code.region id ops true).wp Tryz.prog Q a w := by
 have h1 : Hp w0 w.drew H := hH.drew
 unfold chkQ at hc
 simp only [Bool.and_eq_true, beq_iff_eq] at hc
 obtain ⟨⟨⟨⟨⟨h2, h3⟩, h4⟩, h5⟩, h6⟩, h7⟩ := hc
 refine start_ (n := ops.size) (S := fun w => Hp w0 w H) (ds := ds) (Array.replicate ops.size false) mixed J J h1 (fun _ => ?_)
 have hl : Array.replicate ops.size false = (List.replicate ops.size false).toArray := by simp
 rw [hl, ← h3]
 rw [h3]
 generalize List.replicate ops.size false = l at h4 h5 h7 ⊢
 rw [← h3]
 refine dL_seg (m := sets l pre) (G := GQ ops w0 H g t p (dL Tryz.prog ops Q (fun w => Hp w0 w H) ds last)) rfl h2 rfl hQ ?_ pre l.toArray a _ (by simpa using h4) (h _ h1)
 intro a1 w1 ⟨n, L, H1, ms, T, op, dp, hms, hT, hnd, hdne, hTs, hop, hdp, hdn, hfp, hF, hH1, hS, hM, hY, k⟩
 subst hms
 subst hT
 have hlen : (ms.map (·.i)).length = ms.length := List.length_map _
 rw [hlen] at h5 ⊢
 refine parQ (T := T) (m := sets (sets l pre) (ms.map (·.i) ++ [p])) hop hdp hdn hfp hQ hY ms.length ms (sets l pre) a1 w1 [] rfl h5 (nodup_of h6) (by simpa using hnd) (fun _ h => by cases h) hdne (by simpa using hTs) (fun _ h => by cases h) (by simpa using hF) H1 (by simpa using hH1) hS hM (fun _ h => by cases h) ?_
 intro a' w' rs v hp hD hF' hv hH' hS'
 obtain ⟨rs', hp', hms'⟩ := perm_lift (·.1) ms rs (by simpa using hp)
 refine dL_any rfl h2 rfl hQ last _ a' w' (by simpa using h7) (k a' w' rs' v hms' (fun e he => hD e (hp'.mem_iff.1 he)) (hF'.mem ?_) hv (hH'.perm ?_) hS')
 ·intro e he
  rcases List.mem_append.1 he with h | h
  ·exact List.mem_append_left _ ((hp'.map _).mem_iff.1 h)
  ·exact List.mem_append_right _ h
 ·exact List.Perm.append_right _ (List.Perm.flatten (hp'.map _))
theorem pe_val {a : Act} {L' : Fm} {dst : Option Tmp} {ty : TypeId} {pos : String} {af : Array Edge} {g : Option (Nat × Bool)} {op : Op} {v v' : Value} (hF : Fr a n L') (h : pe L' op = some v') (hv : ∀ w, (execOp a.eval ⟨dst, op, ty, pos, af, g⟩).run Tryz.prog w = .ok (.value v) w) (w : World) : v = v' := by
 have h1 := hv w
 rw [r_pe hF h w] at h1
 injection h1 with h1
 injection h1 with h1
 exact h1.symm
variable {a : Act} {w : World} {H : Hm} {B : Act → World → Prop}
variable {ty : TypeId} {pos : String} {af : Array Edge} {gd : Option (Nat × Bool)} {op : Op}
theorem gq2 {i j p di dj dp : Nat} {Di Dj : Value → Hm → Prop} (hF : Fr a n L) (hH : Hp w0 w H) (hS : Hp w0 w HS) (hnd : nodupB [di, dj, dp] = true) (ho : ops[p]? = some ⟨some dp, op, ty, pos, af, gd⟩) (hdn : Nat.ble (dp + 1) n = true) (hfp : fresh L dp = true)
  (mi : Mk ops n L (fun w => Hp w0 w HS) i di Di) (mj : Mk ops n L (fun w => Hp w0 w HS) j dj Dj)
  (hp : ∀ vi Hi, Di vi Hi → ∃ v, wt ops ((di, vi) :: L) gd = some true ∧ pe ((di, vi) :: L) op = some v)
  (k : ∀ a' w' vi Hi vj Hj v, Di vi Hi → Dj vj Hj → Fr a' n ((di, vi) :: (dj, vj) :: (dp, v) :: L) → (∀ w, (execOp a'.eval ⟨some dp, op, ty, pos, af, gd⟩).run Tryz.prog w = .ok (.value v) w) → Hp w0 w' (Hi ++ (Hj ++ H)) → Hp w0 w' HS → B a' w') : GQ ops w0 HS [i, j] [i] p B a w := by
 have h3 := nodup_of hnd
 simp only [List.nodup_cons, List.mem_cons, List.not_mem_nil, or_false, not_or, List.nodup_nil, and_true, not_false_eq_true] at h3
 refine ⟨n, L, H, [⟨i, di, Di⟩, ⟨j, dj, Dj⟩], [⟨i, di, Di⟩], _, dp, rfl, rfl, ?_, ?_, ?_, ho, rfl, hdn, hfp, hF, hH, hS, ?_, ?_, ?_⟩
 ·simp [h3.1.1]
 ·intro e he
  simp only [List.mem_cons, List.not_mem_nil, or_false] at he
  rcases he with rfl | rfl
  ·exact h3.1.2
  ·exact h3.2
 ·intro x hx
  simp only [List.mem_cons, List.not_mem_nil, or_false] at hx
  rw [hx]
  exact .head _
 ·intro e he
  simp only [List.mem_cons, List.not_mem_nil, or_false] at he
  rcases he with rfl | rfl
  ·exact mi
  ·exact mj
 ·intro rs hrs hD
  match rs, hrs with
  | [(_, vi, Hi)], rfl =>
   obtain ⟨v, h1, h2⟩ := hp vi Hi (hD _ (.head _))
   exact ⟨v, fun a hF => ⟨hF.wt h1, fun w => r_pe hF h2 w⟩⟩
 ·intro a' w' rs v hrs hD hF' hv hH' hS'
  match rs, hrs with
  | [(_, vi, Hi), (_, vj, Hj)], rfl => exact k a' w' vi Hi vj Hj v (hD _ (.head _)) (hD _ (.tail _ (.head _))) hF' hv (by simpa using hH') hS'
theorem gq4 {i j q r p di dj dq dr dp : Nat} {Di Dj Dq Dr : Value → Hm → Prop} (hF : Fr a n L) (hH : Hp w0 w H) (hS : Hp w0 w HS) (hnd : nodupB [di, dj, dq, dr, dp] = true) (ho : ops[p]? = some ⟨some dp, op, ty, pos, af, gd⟩) (hdn : Nat.ble (dp + 1) n = true) (hfp : fresh L dp = true)
  (mi : Mk ops n L (fun w => Hp w0 w HS) i di Di) (mj : Mk ops n L (fun w => Hp w0 w HS) j dj Dj) (mq : Mk ops n L (fun w => Hp w0 w HS) q dq Dq) (mr : Mk ops n L (fun w => Hp w0 w HS) r dr Dr)
  (hp : ∀ vi Hi vj Hj vq Hq, Di vi Hi → Dj vj Hj → Dq vq Hq → ∃ v, wt ops ((di, vi) :: (dj, vj) :: (dq, vq) :: L) gd = some true ∧ pe ((di, vi) :: (dj, vj) :: (dq, vq) :: L) op = some v)
  (k : ∀ a' w' vi Hi vj Hj vq Hq vr Hr v, Di vi Hi → Dj vj Hj → Dq vq Hq → Dr vr Hr → Fr a' n ((di, vi) :: (dj, vj) :: (dq, vq) :: (dr, vr) :: (dp, v) :: L) → (∀ w, (execOp a'.eval ⟨some dp, op, ty, pos, af, gd⟩).run Tryz.prog w = .ok (.value v) w) → Hp w0 w' (Hi ++ (Hj ++ (Hq ++ (Hr ++ H)))) → Hp w0 w' HS → B a' w') : GQ ops w0 HS [i, j, q, r] [i, j, q] p B a w := by
 have h3 := nodup_of hnd
 have h4 : [di, dj, dq, dr].Nodup := by
  have : ([di, dj, dq, dr] ++ [dp]).Nodup := h3
  exact (List.nodup_append.1 this).1
 have h5 : ∀ d ∈ [di, dj, dq, dr], d ≠ dp := by
  have : ([di, dj, dq, dr] ++ [dp]).Nodup := h3
  exact fun d hd => (List.nodup_append.1 this).2.2 d hd dp (.head _)
 refine ⟨n, L, H, [⟨i, di, Di⟩, ⟨j, dj, Dj⟩, ⟨q, dq, Dq⟩, ⟨r, dr, Dr⟩], [⟨i, di, Di⟩, ⟨j, dj, Dj⟩, ⟨q, dq, Dq⟩], _, dp, rfl, rfl, h4, ?_, ?_, ho, rfl, hdn, hfp, hF, hH, hS, ?_, ?_, ?_⟩
 ·intro e he
  exact h5 e.d (List.mem_map_of_mem (f := Mr.d) he)
 ·intro x hx
  simp only [List.mem_cons, List.not_mem_nil, or_false] at hx
  rcases hx with rfl | rfl | rfl
  ·exact .head _
  ·exact .tail _ (.head _)
  ·exact .tail _ (.tail _ (.head _))
 ·intro e he
  simp only [List.mem_cons, List.not_mem_nil, or_false] at he
  rcases he with rfl | rfl | rfl | rfl
  ·exact mi
  ·exact mj
  ·exact mq
  ·exact mr
 ·intro rs hrs hD
  match rs, hrs with
  | [(_, vi, Hi), (_, vj, Hj), (_, vq, Hq)], rfl =>
   obtain ⟨v, h1, h2⟩ := hp vi Hi vj Hj vq Hq (hD _ (.head _)) (hD _ (.tail _ (.head _))) (hD _ (.tail _ (.tail _ (.head _))))
   exact ⟨v, fun a hF => ⟨hF.wt h1, fun w => r_pe hF h2 w⟩⟩
 ·intro a' w' rs v hrs hD hF' hv hH' hS'
  match rs, hrs with
  | [(_, vi, Hi), (_, vj, Hj), (_, vq, Hq), (_, vr, Hr)], rfl => exact k a' w' vi Hi vj Hj vq Hq vr Hr v (hD _ (.head _)) (hD _ (.tail _ (.head _))) (hD _ (.tail _ (.tail _ (.head _)))) (hD _ (.tail _ (.tail _ (.tail _ (.head _))))) hF' hv (by simpa using hH') hS'
end
end Go.Proofs.YtlkikblohnnlcaaGreatDoor.X
end
section
namespace Go.Proofs.YtlkikblohnnlcaaGreatDoor.X
open Go Go.RowKit Go.Proofs.YtlkikblohnnlcaaGreatDoorW.PrintLast
set_option linter.unusedVariables false
set_option maxRecDepth 4000
section
variable {ops : Array Oper} {Q : Exit → Act → World → Prop} {S : World → Prop} {ds : List Nat} {rest : List Oper} {r : List Nat} {a : Act} {w0 w w' : World} {n i : Nat} {L L1 : Fm} {d : Nat} {v : Value} {o : Oper} {H H' HS : Hm}
variable {ty : TypeId} {pos : String} {af : Array Edge} {g : Option (Nat × Bool)} {x y z : Operand} {u : Value} {op : Op}
theorem r_bsA {T e sz : Nat} {vs zl : List Value} (hF : Fr a n L) (hT : tb tabEl T = some (e, sz)) (hz : tb tabZ e = some zl) (hx : ev L x = some (.agg vs.toArray)) (hl : Nat.beq vs.length sz = true) (hpos : Nat.blt 0 sz = true) (hsm : Nat.ble sz 1000 = true) :
  (execOp a.eval ⟨some d, .buildSlice T 1 #[(0, x)], ty, pos, af, g⟩).run Tryz.prog w = .ok (.value (.slice (some ⟨w.heap.size, 0, none⟩) 1 1)) (w.alloc (.cells vs.toArray e)) := by
 obtain ⟨hu, hs⟩ := el_of hT
 obtain ⟨iv, zv, hi, hzi, hzc⟩ := zero_of hz
 have hsz : iv.size = sz := by
  obtain ⟨i', hi', h1⟩ := size_of hs
  rw [hi] at hi'
  obtain rfl := Option.some.inj hi'
  exact h1
 have hl' : vs.length = sz := Nat.eq_of_beq_eq_true hl
 have hpos' : 0 < sz := Nat.le_of_ble_eq_true hpos
 have hsm' : sz ≤ 1000 := Nat.le_of_ble_eq_true hsm
 have hfold : ∀ (us : List Value) (k : Nat) (pre post : List Value), pre.length = k → post.length = us.length → (us.zipIdx k).foldl (fun (c : Array Value) (p : Value × Nat) => c.setIfInBounds (0 * sz + p.2) p.1) (pre ++ post).toArray = (pre ++ us).toArray := by
  intro us
  induction us with
  | nil =>
   intro k pre post h1 h2
   have : post = [] := List.eq_nil_of_length_eq_zero (by simpa using h2)
   simp [this]
  | cons u us ih =>
   intro k pre post h1 h2
   cases post with
   | nil => simp at h2
   | cons q post =>
    rw [List.zipIdx_cons, List.foldl_cons]
    have e1 : (pre ++ q :: post).toArray.setIfInBounds (0 * sz + k) u = ((pre ++ [u]) ++ post).toArray := by
     simp only [Nat.zero_mul, Nat.zero_add, List.setIfInBounds_toArray]
     rw [List.set_append_right _ _ (by omega)]
     simp [h1]
    have := ih (k + 1) (pre ++ [u]) post (by simp [h1]) (by simpa using h2)
    simp only at e1 ⊢
    rw [e1, this]
    simp
 have hfill : Instr.fill (fun i => some (i * iv.size, iv.size)) ((Array.range (1 * iv.size)).map (zv.cells[· % zv.cells.size]!)) [(0, .agg vs.toArray)] = some vs.toArray := by
  have hA0 : ((Array.range (1 * iv.size)).map (zv.cells[· % zv.cells.size]!)).size = sz := by simp [hsz]
  generalize ((Array.range (1 * iv.size)).map (zv.cells[· % zv.cells.size]!)) = A0 at hA0
  unfold Instr.fill
  simp only [Value.cells, List.size_toArray, hsz, hl']
  have hne : ¬ (decide (sz ≠ sz) || decide (0 * sz + sz > A0.size)) = true := by
   simp [hA0]
  rw [if_neg hne]
  have hz2 : vs.toArray.zipIdx = (vs.zipIdx 0).toArray := by simp
  rw [hz2, List.foldl_toArray]
  have h3 := hfold vs 0 [] A0.toList rfl (by simp [hl', hA0])
  rw [List.nil_append, List.nil_append, Array.toArray_toList] at h3
  rw [h3]
  rfl
 have := run_buildSlice (P := Tryz.prog) w T e 1 #[(0, .agg vs.toArray)] vs.toArray iv zv hu hi hzi (by rw [hsz]; omega) (by rw [hsz]; omega) hfill
 simp [execOp, hF.ev hx, this]
theorem s_bsA {T e sz : Nat} {vs zl : List Value} (hF : Fr a n L) (hH : Hp w0 w H) (hg : wt ops L g = some true) (hn : Nat.ble (d + 1) n = true) (hT : tb tabEl T = some (e, sz)) (hz : tb tabZ e = some zl) (hx : ev L x = some (.agg vs.toArray)) (hl : Nat.beq vs.length sz = true) (hpos : Nat.blt 0 sz = true) (hsm : Nat.ble sz 1000 = true) (hL : dl L d [] = some L1)
  (k : ∀ a' b w', Fr a' n ((d, .slice (some ⟨b, 0, none⟩) 1 1) :: L1) → Hp w0 w' ((b, .cells vs.toArray e) :: H) → wpList Tryz.prog ops Q rest a' w') : wpList Tryz.prog ops Q (⟨some d, .buildSlice T 1 #[(0, x)], ty, pos, af, g⟩ :: rest) a w :=
 x_core hF rfl hg hn hL (r_bsA hF hT hz hx hl hpos hsm) (fun a' h => k a' _ _ h (hH.alloc _))
theorem d_bsA {T e sz : Nat} {vs zl : List Value} (hF : Fr a n L) (hH : Hp w0 w H) (hS : Hp w0 w HS) (ho : ops[i]? = some ⟨some d, .buildSlice T 1 #[(0, x)], ty, pos, af, g⟩) (hg : wt ops L g = some true) (hn : Nat.ble (d + 1) n = true) (hT : tb tabEl T = some (e, sz)) (hz : tb tabZ e = some zl) (hx : ev L x = some (.agg vs.toArray)) (hl : Nat.beq vs.length sz = true) (hpos : Nat.blt 0 sz = true) (hsm : Nat.ble sz 1000 = true) (hL : dl L d [] = some L1)
  (k : ∀ a' b w', Fr a' n ((d, .slice (some ⟨b, 0, none⟩) 1 1) :: L1) → Hp w0 w' ((b, .cells vs.toArray e) :: H) → Hp w0 w' HS → dL Tryz.prog ops Q (fun w => Hp w0 w HS) ds r a' w') : dL Tryz.prog ops Q (fun w => Hp w0 w HS) ds (i :: r) a w := by
 refine d_one hF ho rfl hg (fun K hK => ?_)
 unfold Oper.wp
 rw [r_bsA hF hT hz hx hl hpos hsm, Oper.upon_value]
 have hS' : Hp w0 (w.alloc (.cells vs.toArray e)) HS := (hS.alloc _).sub (List.sublist_cons_self _ _)
 exact hK _ _ (fun _ => hS') (k _ _ _ (hF.put hn hL) (hH.alloc _) hS')
end
section
variable {ops : Array Oper} {Q : Exit → Act → World → Prop} {rest : List Oper} {a : Act} {w0 w : World} {n : Nat} {L L1 : Fm} {d : Nat} {v : Value} {H : Hm} {ty : TypeId} {pos : String} {af : Array Edge} {g : Option (Nat × Bool)} {x : Operand}
theorem s_invC {β : Type} {f t : Nat} {name : String} {vs : List Value} {args : List Operand} {ts : Array TypeId} {V : β → Value} {Hn : β → Hm} {φ : β → Prop} (hF : Fr a n L) (hH : Hp w0 w H) (hg : wt ops L g = some true) (hn : Nat.ble (d + 1) n = true)
  (hr : ev L x = some (.iface t v)) (hx : evs L args = some vs) (hm : mOk (t, name, f) = true) (hf : has tabF f = true) (hL : dl L d [] = some L1) (hc : Ct f (v :: vs) w V Hn φ)
  (k : ∀ a' w' x, φ x → Fr a' n ((d, V x) :: L1) → Hp w0 w' (Hn x ++ H) → wpList Tryz.prog ops Q rest a' w') : wpList Tryz.prog ops Q (⟨some d, .call { callee := .invoke x name, args := args.toArray, argTypes := ts }, ty, pos, af, g⟩ :: rest) a w :=
 s_inv hF hg hn hr hx hm hf hL hc (fun e w' ⟨x, hφ, he, hw⟩ => ⟨V x, he, fun a' hF' => k a' w' x hφ hF' (hH.app hw)⟩)
end
section
variable {a : Act} {w w0 : World} {n : Nat} {L : Fm} {H : Hm}
theorem c_ret4 {P : Program} {fn : Func} {R : Ending → World → Prop} {t s p q : Tmp} {v1 v2 v3 v4 : Value} (hF : Fr a n L) (hres : fn.results = #[.tmp t, .tmp s, .tmp p, .tmp q]) (h1 : lk L t = some v1) (h2 : lk L s = some v2) (h3 : lk L p = some v3) (h4 : lk L q = some v4) (hR : R (.returned (.tuple #[v1, v2, v3, v4])) w) : bodyPost P fn R .ret a w := by
 refine ⟨hF.defers, .tuple #[v1, v2, v3, v4], ?_, hR⟩
 simp [results, hres, hF.lk h1, hF.lk h2, hF.lk h3, hF.lk h4]
theorem c_retC (q : Nat) {fn : Func} {R : Ending → World → Prop} {t T b m j : Nat} {cs vs : List Value} {tt : TypeId} {fr : Nat × Nat} (hF : Fr a n L) (hH : Hp w0 w H) (hres : fn.results = #[.cell t T]) (h1 : lk L t = some (.pointer (some ⟨b, j, none⟩))) (hT : tb tabSz T = some m) (hi : H[q]? = some (b, .cells cs.toArray tt fr)) (hc : cut cs j m [] = some vs) (hR : R (.returned (.agg vs.toArray)) w) : bodyPost Tryz.prog fn R .ret a w := by
 refine ⟨hF.defers, .agg vs.toArray, ?_, hR⟩
 obtain ⟨q', e1, h2, h3⟩ := cut_eq _ _ _ _ _ hc
 simp only [List.reverse_nil, List.nil_append] at e1
 subst e1
 have hA : aggB Tryz.prog T m = true := tb_all allSz hT
 have hs : sizeB Tryz.prog T m = true := by unfold aggB at hA; rw [Bool.and_eq_true] at hA; exact hA.2
 have hr := run_loadCells (P := Tryz.prog) w b j vs (fun p v hv => hH.cell hi (h3 p v hv)) m 0 #[] (by omega)
 have : (loadVar T ⟨b, j, none⟩).run Tryz.prog w = .ok (.agg vs.toArray) w := by
  simp only [loadVar, Sem.run_bind, run_isAgg_agg hA, Result.andThen_ok, if_true, run_sizeOf hs, loadCells, hr]
  simp
 simp [results, hres, hF.lk h1, asAddr, this]
end
end Go.Proofs.YtlkikblohnnlcaaGreatDoor.X
end
section
namespace Go.Proofs.YtlkikblohnnlcaaGreatDoor.X
open Go Go.RowKit Go.Proofs.YtlkikblohnnlcaaGreatDoorW.PrintLast
open Go.ChangeMaps (setBlock)
set_option linter.unusedVariables false
set_option maxRecDepth 4000
def OldAt (w : World) (b j : Nat) (vs : List Value) : Prop := ∀ (q : Nat) (v : Value), vs[q]? = some v → w.cell? ⟨b, j + q, none⟩ = some v
section
variable {ops : Array Oper} {Q : Exit → Act → World → Prop} {S : World → Prop} {ds : List Nat} {rest : List Oper} {r : List Nat} {a : Act} {w0 w w' : World} {n i : Nat} {L L1 : Fm} {d : Nat} {v : Value} {o : Oper} {H H' HS : Hm}
variable {ty : TypeId} {pos : String} {af : Array Edge} {g : Option (Nat × Bool)} {x y z : Operand} {u : Value} {op : Op}
theorem r_ldaAt {T b j m : Nat} {vs : List Value} (hO : OldAt w0 b j vs) (hF : Fr a n L) (hx : ev L x = some (.pointer (some ⟨b, j, none⟩))) (hT : tb tabSz T = some m) (hl : Nat.beq vs.length m = true)
  (w : World) (hH : Hp w0 w H) : (execOp a.eval ⟨some d, .load T x, ty, pos, af, g⟩).run Tryz.prog w = .ok (.value (.agg vs.toArray)) w := by
 have hA : aggB Tryz.prog T m = true := tb_all allSz hT
 have hs : sizeB Tryz.prog T m = true := by unfold aggB at hA; rw [Bool.and_eq_true] at hA; exact hA.2
 have hlen := Nat.eq_of_beq_eq_true hl
 have hr := run_loadCells (P := Tryz.prog) w b j vs (fun p v hv => hH.old (hO p v hv)) m 0 #[] (by omega)
 have : (loadVar T ⟨b, j, none⟩).run Tryz.prog w = .ok (.agg vs.toArray) w := by
  simp only [loadVar, Sem.run_bind, run_isAgg_agg hA, Result.andThen_ok, if_true, run_sizeOf hs, loadCells, hr]
  simp
 simp [execOp, hF.ev hx, Instr.loadAt, Instr.sureAddr, this]
theorem s_ldaAt {T b j m : Nat} {vs : List Value} (hO : OldAt w0 b j vs) (hF : Fr a n L) (hH : Hp w0 w H) (hg : wt ops L g = some true) (hn : Nat.ble (d + 1) n = true) (hx : ev L x = some (.pointer (some ⟨b, j, none⟩))) (hT : tb tabSz T = some m) (hl : Nat.beq vs.length m = true) (hL : dl L d [] = some L1)
  (k : ∀ a', Fr a' n ((d, .agg vs.toArray) :: L1) → wpList Tryz.prog ops Q rest a' w) : wpList Tryz.prog ops Q (⟨some d, .load T x, ty, pos, af, g⟩ :: rest) a w :=
 x_core hF rfl hg hn hL (r_ldaAt hO hF hx hT hl w hH) k
theorem d_ldaAt {T b j m : Nat} {vs : List Value} (hO : OldAt w0 b j vs) (hF : Fr a n L) (hS : Hp w0 w HS) (ho : ops[i]? = some ⟨some d, .load T x, ty, pos, af, g⟩) (hg : wt ops L g = some true) (hn : Nat.ble (d + 1) n = true) (hx : ev L x = some (.pointer (some ⟨b, j, none⟩))) (hT : tb tabSz T = some m) (hl : Nat.beq vs.length m = true) (hL : dl L d [] = some L1)
  (k : ∀ a', Fr a' n ((d, .agg vs.toArray) :: L1) → dL Tryz.prog ops Q (fun w => Hp w0 w HS) ds r a' w) : dL Tryz.prog ops Q (fun w => Hp w0 w HS) ds (i :: r) a w :=
 d_rd hF ho hS rfl hg hn (fun w hH => r_ldaAt hO hF hx hT hl w hH) hL k
theorem r_ldAt {T b j kk : Nat} (hO : w0.cell? ⟨b, j, none⟩ = some v) (hF : Fr a n L) (hx : ev L x = some (.pointer (some ⟨b, j, none⟩))) (hT : tb tabK T = some kk)
  (w : World) (hH : Hp w0 w H) : (execOp a.eval ⟨some d, .load T x, ty, pos, af, g⟩).run Tryz.prog w = .ok (.value v) w := by
 simp [execOp, hF.ev hx, Instr.loadAt, Instr.sureAddr, run_loadVar_scal (scal_of_k hT) (hH.old hO)]
theorem s_ldAt {T b j kk : Nat} (hO : w0.cell? ⟨b, j, none⟩ = some v) (hF : Fr a n L) (hH : Hp w0 w H) (hg : wt ops L g = some true) (hn : Nat.ble (d + 1) n = true) (hx : ev L x = some (.pointer (some ⟨b, j, none⟩))) (hT : tb tabK T = some kk) (hL : dl L d [] = some L1)
  (k : ∀ a', Fr a' n ((d, v) :: L1) → wpList Tryz.prog ops Q rest a' w) : wpList Tryz.prog ops Q (⟨some d, .load T x, ty, pos, af, g⟩ :: rest) a w :=
 x_core hF rfl hg hn hL (r_ldAt hO hF hx hT w hH) k
theorem d_ldAt {T b j kk : Nat} (hO : w0.cell? ⟨b, j, none⟩ = some v) (hF : Fr a n L) (hS : Hp w0 w HS) (ho : ops[i]? = some ⟨some d, .load T x, ty, pos, af, g⟩) (hg : wt ops L g = some true) (hn : Nat.ble (d + 1) n = true) (hx : ev L x = some (.pointer (some ⟨b, j, none⟩))) (hT : tb tabK T = some kk) (hL : dl L d [] = some L1)
  (k : ∀ a', Fr a' n ((d, v) :: L1) → dL Tryz.prog ops Q (fun w => Hp w0 w HS) ds r a' w) : dL Tryz.prog ops Q (fun w => Hp w0 w HS) ds (i :: r) a w :=
 d_rd hF ho hS rfl hg hn (fun w hH => r_ldAt hO hF hx hT w hH) hL k
def Keys (es : Array MapEntry) (clock : Nat) (ks : List ByteArray) : Prop := es.toList.map (·.key) = ks.map (Value.string ·) ∧ (∀ e ∈ es.toList, e.born < clock)
theorem findNow_str (s : ByteArray) : ∀ (es : List MapEntry) (ks : List ByteArray) (i : Nat), es.map (·.key) = ks.map (Value.string ·) →
  (Instr.findNow .string (.string s) es i = some none ∧ s ∉ ks) ∨ ∃ j e, Instr.findNow .string (.string s) es i = some (some (i + j, e.val)) ∧ es[j]? = some e ∧ e.key = .string s ∧ s ∈ ks
 | [], ks, i, h => by
  have : ks = [] := by simpa using h.symm
  subst this
  exact .inl ⟨rfl, by simp⟩
 | e :: es, [], i, h => by simp at h
 | e :: es, k :: ks, i, h => by
  simp only [List.map_cons, List.cons.injEq] at h
  obtain ⟨h1, h2⟩ := h
  unfold Instr.findNow
  rw [h1]
  cases hb : (s == k) with
  | true =>
   have hsk : s = k := (U.ba_beq _ _).1 hb
   refine .inr ⟨0, e, ?_, rfl, by rw [h1, hsk], by rw [hsk]; exact List.mem_cons_self⟩
   simp [Instr.sameNow, hb]
  | false =>
   have hsk : ¬ s = k := fun h => by rw [(U.ba_beq s k).2 h] at hb; cases hb
   have hs : Instr.sameNow .string (.string s) (.string k) = some false := by simp [Instr.sameNow, hb]
   simp only [hs]
   rcases findNow_str s es ks (i + 1) h2 with ⟨h3, h4⟩ | ⟨j, e', h3, h4, h5, h6⟩
   ·exact .inl ⟨h3, by simp [hsk, h4]⟩
   ·refine .inr ⟨j + 1, e', ?_, by simpa using h4, h5, List.mem_cons_of_mem _ h6⟩
    rw [h3, show i + 1 + j = i + (j + 1) by omega]
noncomputable def mpOk : Bool := match Tryz.prog.underlying 109 with
 | some (.map k v) => Nat.beq k 9 && Nat.beq v 20
 | _ => false
theorem mpOk_t : mpOk = true := by kernel_rfl
theorem map109 : Tryz.prog.underlying 109 = some (.map 9 20) := by
 have h1 := mpOk_t
 unfold mpOk at h1
 cases hu : Tryz.prog.underlying 109 with
 | none => rw [hu] at h1; cases h1
 | some D =>
  rw [hu] at h1
  cases D <;> simp only [Bool.false_eq_true, Bool.and_eq_true] at h1
  rw [Nat.eq_of_beq_eq_true h1.1, Nat.eq_of_beq_eq_true h1.2]
theorem run_mapUpdate_str {T e u0 m clock : Nat} {es : Array MapEntry} {ks : List ByteArray} {s : ByteArray} (hu : Tryz.prog.underlying T = some (.map e u0)) (hk : Tryz.prog.underlying e = some .string) (v : Value) (w : World) (hm : w.heap[m]? = some (.map es clock)) (hK : Keys es clock ks) :
  ∃ es' clock', (Instr.mapUpdate T (.map (some m)) (.string s) v).run Tryz.prog w = .ok () (setBlock w m (.map es' clock')) ∧ Keys es' clock' (if s ∈ ks then ks else ks ++ [s]) := by
 have hck : ∀ w, (Instr.checkKey false 10000 e (.string s)).run Tryz.prog w = .ok () w := by
  intro w
  unfold Instr.checkKey
  simp only [Sem.run_bind, run_underlying hk, Result.andThen_ok]
  simp
 have hset : ∀ o', (setObj m o').run Tryz.prog w = .ok () (setBlock w m o') := by
  intro o'
  simp [setObj, Sem.run, hm, setBlock]
 rcases findNow_str s es.toList ks 0 hK.1 with ⟨h1, h2⟩ | ⟨j, e', h1, h2, h3, h4⟩
 ·refine ⟨es.push { key := .string s, val := v, born := clock }, clock + 1, ?_, ?_⟩
  ·simp only [Instr.mapUpdate, Sem.run_bind, run_underlying hu, Result.andThen_ok, getObj, Sem.run, hm, hck, Instr.findKey, run_underlying hk, h1, Sem.run_pure, hset]
  ·rw [if_neg h2]
   refine ⟨by simp [hK.1], fun x hx => ?_⟩
   simp only [Array.toList_push, List.mem_append, List.mem_singleton] at hx
   rcases hx with hx | rfl
   ·have := hK.2 x hx
    omega
   ·show clock < clock + 1
    omega
 ·have hj : j < es.size := by
   have := (List.getElem?_eq_some_iff.1 h2).1
   simpa using this
  have hej : es[j]? = some e' := by simpa using h2
  refine ⟨es.modify j (fun x => { x with key := .string s, val := v }), clock, ?_, ?_⟩
  ·have hkey : (((es[j]?).map (·.key)).getD (.string s)) = .string s := by rw [hej]; exact h3
   have hstay : ∀ w, (Instr.keyThatStays (.string s) (.string s)).run Tryz.prog w = .ok (.string s) w := by
    intro w
    have : Instr.sameBits 10000 (.string s) (.string s) = true := (U.ba_beq s s).2 rfl
    simp [Instr.keyThatStays, this]
   rw [Nat.zero_add] at h1
   simp only [Instr.mapUpdate, Sem.run_bind, run_underlying hu, Result.andThen_ok, getObj, Sem.run, hm, hck, Instr.findKey, run_underlying hk, h1, Sem.run_pure, hkey, hstay, hset]
  ·rw [if_pos h4]
   refine ⟨?_, fun x hx => ?_⟩
   ·rw [← hK.1]
    apply List.ext_getElem?
    intro q
    simp only [List.getElem?_map, Array.getElem?_toList, Array.getElem?_modify]
    by_cases hq : j = q
    ·subst hq
     simp [hej, h3]
    ·simp [hq]
   ·obtain ⟨q, hq, hqe⟩ := List.getElem_of_mem hx
    simp only [Array.getElem_toList, Array.getElem_modify] at hqe
    have hq' : q < es.size := by simpa using hq
    have hmem : es[q] ∈ es.toList := by simp
    have hb := hK.2 _ hmem
    split at hqe
    ·rw [← hqe]
     exact hb
    ·rw [← hqe]
     exact hb
theorem d_mu (q : Nat) {T m clock : Nat} {es : Array MapEntry} {ks : List ByteArray} {s : ByteArray} {xk : Operand} (hF : Fr a n L) (hH : Hp w0 w H) (ho : ops[i]? = some ⟨none, .mapUpdate T x xk y, ty, pos, af, g⟩) (hd : has ds i = true) (hg : wt ops L g = some true)
  (hT : T = 109) (hx : ev L x = some (.map (some m))) (hk : ev L xk = some (.string s)) (hy : ev L y = some v) (hi : H[q]? = some (m, .map es clock)) (hK : Keys es clock ks)
  (k : ∀ w' es' clock' H', Keys es' clock' (if s ∈ ks then ks else ks ++ [s]) → sa H q (m, .map es' clock') [] = some H' → Hp w0 w' H' → dL Tryz.prog ops Q S ds r a w') : dL Tryz.prog ops Q S ds (i :: r) a w := by
 refine d_one hF ho rfl hg (fun K hKK => ?_)
 subst hT
 have hu : Tryz.prog.underlying 109 = some (.map 9 20) := map109
 obtain ⟨es', clock', hr, hK'⟩ := run_mapUpdate_str (s := s) hu (str_of (T := 9) rfl) v w (hH.heap hi) hK
 obtain ⟨H', hH'⟩ := sa_ex H q (m, Obj.map es' clock') []
 have he : (execOp a.eval ⟨none, .mapUpdate 109 x xk y, ty, pos, af, g⟩).run Tryz.prog w = .ok .skip (setBlock w m (.map es' clock')) := by
  simp only [execOp, hF.ev hx, hF.ev hk, hF.ev hy, Sem.run_bind, hr, Result.andThen_ok]
  rfl
 unfold Oper.wp
 rw [he, Oper.upon_skip]
 exact hKK _ _ (fun h => absurd (has_iff hd) h) (k _ es' clock' H' hK' hH' (hH.setBlk hi hH'))
end
end Go.Proofs.YtlkikblohnnlcaaGreatDoor.X
end
section
namespace Go.Proofs.YtlkikblohnnlcaaGreatDoor.X
open Go Go.RowKit Go.Proofs.YtlkikblohnnlcaaGreatDoorW.PrintLast
set_option linter.unusedVariables false
set_option maxRecDepth 4000
section
variable {a : Act} {w w0 : World} {n : Nat} {L : Fm} {H : Hm}
theorem c_retCT (q : Nat) {fn : Func} {R : Ending → World → Prop} {t s T b m j : Nat} {v2 : Value} {cs vs : List Value} {tt : TypeId} {fr : Nat × Nat} (hF : Fr a n L) (hH : Hp w0 w H) (hres : fn.results = #[.cell t T, .tmp s]) (h1 : lk L t = some (.pointer (some ⟨b, j, none⟩))) (h2 : lk L s = some v2) (hT : tb tabSz T = some m) (hi : H[q]? = some (b, .cells cs.toArray tt fr)) (hc : cut cs j m [] = some vs) (hR : R (.returned (.tuple #[.agg vs.toArray, v2])) w) : bodyPost Tryz.prog fn R .ret a w := by
 refine ⟨hF.defers, .tuple #[.agg vs.toArray, v2], ?_, hR⟩
 obtain ⟨q', e1, h2', h3⟩ := cut_eq _ _ _ _ _ hc
 simp only [List.reverse_nil, List.nil_append] at e1
 subst e1
 have hA : aggB Tryz.prog T m = true := tb_all allSz hT
 have hs : sizeB Tryz.prog T m = true := by unfold aggB at hA; rw [Bool.and_eq_true] at hA; exact hA.2
 have hr := run_loadCells (P := Tryz.prog) w b j vs (fun p v hv => hH.cell hi (h3 p v hv)) m 0 #[] (by omega)
 have : (loadVar T ⟨b, j, none⟩).run Tryz.prog w = .ok (.agg vs.toArray) w := by
  simp only [loadVar, Sem.run_bind, run_isAgg_agg hA, Result.andThen_ok, if_true, run_sizeOf hs, loadCells, hr]
  simp
 simp [results, hres, hF.lk h1, hF.lk h2, asAddr, this]
end
end Go.Proofs.YtlkikblohnnlcaaGreatDoor.X
end
section
namespace Go.Proofs.YtlkikblohnnlcaaGreatDoor.X
open Go Go.RowKit Go.Proofs.YtlkikblohnnlcaaGreatDoorW.PrintLast
set_option linter.unusedVariables false
set_option maxRecDepth 4000
noncomputable def boolB (T : Nat) : Bool := match Tryz.prog.underlying T with
 | some .bool => true
 | _ => false
section
variable {ops : Array Oper} {Q : Exit → Act → World → Prop} {S : World → Prop} {ds : List Nat} {rest : List Oper} {r : List Nat} {a : Act} {w0 w w' : World} {n i : Nat} {L L1 : Fm} {d : Nat} {v : Value} {o : Oper} {H H' HS : Hm}
variable {ty : TypeId} {pos : String} {af : Array Edge} {g : Option (Nat × Bool)} {x y z : Operand} {u : Value} {op : Op}
theorem s_ssl {T l h : Nat} {s : ByteArray} {lo hi : Option Operand} (hF : Fr a n L) (hg : wt ops L g = some true) (hn : Nat.ble (d + 1) n = true) (hT : tb tabK T = some 4) (hx : ev L x = some (.string s)) (h1 : bo L 0 lo = some l) (h2 : bo L s.size hi = some h) (hL : dl L d [] = some L1) (hlh : l ≤ h) (hhc : h ≤ s.size)
  (k : ∀ a', Fr a' n ((d, .string (s.extract l h)) :: L1) → wpList Tryz.prog ops Q rest a' w) : wpList Tryz.prog ops Q (⟨some d, .slice T x lo hi none, ty, pos, af, g⟩ :: rest) a w :=
 x_core hF rfl hg hn hL (r_sliceS hF hT hx h1 h2 hlh hhc w) k
theorem s_six {T q : Nat} {s : ByteArray} {kk : IntKind} (hF : Fr a n L) (hg : wt ops L g = some true) (hn : Nat.ble (d + 1) n = true) (hT : tb tabK T = some 4) (hx : ev L x = some (.string s)) (hy : ev L y = some (.int kk (q : Nat))) (hL : dl L d [] = some L1) (hq : q < s.size)
  (k : ∀ a', Fr a' n ((d, .int .u8 (U.B s q : Nat)) :: L1) → wpList Tryz.prog ops Q rest a' w) : wpList Tryz.prog ops Q (⟨some d, .index T x y, ty, pos, af, g⟩ :: rest) a w := by
 refine x_core hF rfl hg hn hL (w' := w) ?_ k
 have hu := str_of hT
 have hb' : s[q]? = some s[q] := ByteArray.getElem?_lt' s q hq
 have hB : U.B s q = s[q].toNat := by
  show (s.data[q]!).toNat = (s.data[q]'hq).toNat
  rw [getElem!_pos s.data q hq]
 rw [hB]
 simp [execOp, hF.ev hx, hF.ev hy, Instr.index, asIntOf, run_underlying hu, hb']
theorem s_sad {T T2 : Nat} {s s' : ByteArray} (hF : Fr a n L) (hg : wt ops L g = some true) (hn : Nat.ble (d + 1) n = true) (hx : ev L x = some (.string s)) (hy : ev L y = some (.string s')) (hL : dl L d [] = some L1) (hle : s.size + s'.size ≤ 1000000000)
  (k : ∀ a' t, t.size = s.size + s'.size → Fr a' n ((d, .string t) :: L1) → wpList Tryz.prog ops Q rest a' w) : wpList Tryz.prog ops Q (⟨some d, .binOp .add T x y T2, ty, pos, af, g⟩ :: rest) a w := by
 have hp : pe2 L (.binOp .add T x y T2) = some (.string ⟨(s.data.toList ++ s'.data.toList).toArray⟩) := by
  unfold pe2
  simp only [hx, hy]
  rw [Nat.ble_eq_true_of_le hle]
  rfl
 refine x_core hF rfl hg hn hL (r_pe2 hF hp w) (fun a' h => k a' _ ?_ h)
 show ((s.data.toList ++ s'.data.toList).toArray).size = _
 simp
theorem s_beq {T T2 : Nat} {t1 t2 : Bool} (hF : Fr a n L) (hg : wt ops L g = some true) (hn : Nat.ble (d + 1) n = true) (hx : ev L x = some (.bool t1)) (hy : ev L y = some (.bool t2)) (hu : boolB T = true) (hL : dl L d [] = some L1)
  (k : ∀ a' r, Fr a' n ((d, .bool r) :: L1) → wpList Tryz.prog ops Q rest a' w) : wpList Tryz.prog ops Q (⟨some d, .binOp .eql T x y T2, ty, pos, af, g⟩ :: rest) a w := by
 have hD : Tryz.prog.underlying T = some .bool := by
  unfold boolB at hu
  split at hu
  ·assumption
  ·cases hu
 refine x_core hF rfl hg hn hL (v := .bool (t1 == t2)) (w' := w) ?_ (fun a' h => k a' _ h)
 have he : (Op.equal T (.bool t1) (.bool t2)).run Tryz.prog w = .ok (t1 == t2) w := run_equalIn_bool w 9999 T t1 t2 hD
 simp [execOp, hF.ev hx, hF.ev hy, eqGuard, binOp, he]
theorem s_neg {T : Nat} {kk : IntKind} {m : Int} (hF : Fr a n L) (hg : wt ops L g = some true) (hn : Nat.ble (d + 1) n = true) (hx : ev L x = some (.int kk m)) (hL : dl L d [] = some L1)
  (k : ∀ a' r, Fr a' n ((d, .int kk r) :: L1) → wpList Tryz.prog ops Q rest a' w) : wpList Tryz.prog ops Q (⟨some d, .unOp .neg T x, ty, pos, af, g⟩ :: rest) a w := by
 refine x_core hF rfl hg hn hL (v := .int kk (kk.wrap (0 - m))) (w' := w) ?_ (fun a' h => k a' _ h)
 simp [execOp, hF.ev hx, Op.unary, Op.intArith]
end
end Go.Proofs.YtlkikblohnnlcaaGreatDoor.X
end
section
namespace Go.Proofs.YtlkikblohnnlcaaGreatDoor.X
open Go Go.RowKit Go.Proofs.YtlkikblohnnlcaaGreatDoorW.PrintLast
set_option linter.unusedVariables false
set_option maxRecDepth 4000
theorem made_bool (n : Nat) : madeCells #[.bool false] (n * 1) = (List.replicate n (Value.bool false)).toArray := by
 apply Array.ext
 ·simp [madeCells]
 ·intro i h1 h2
  simp only [madeCells, Array.getElem_map, List.getElem_toArray, List.getElem_replicate]
  simp [Nat.mod_one]
section
variable {ops : Array Oper} {Q : Exit → Act → World → Prop} {S : World → Prop} {ds : List Nat} {rest : List Oper} {r : List Nat} {a : Act} {w0 w w' : World} {n i : Nat} {L L1 : Fm} {d : Nat} {v : Value} {o : Oper} {H H' HS : Hm}
variable {ty : TypeId} {pos : String} {af : Array Edge} {g : Option (Nat × Bool)} {x y z : Operand} {u : Value} {op : Op}
theorem set_same {α : Type} : ∀ (l : List α) (i : Nat) (x : α), l[i]? = some x → l.set i x = l
 | [], i, x, h => by simp at h
 | y :: r, 0, x, h => by simpa using h.symm
 | y :: r, i + 1, x, h => by simpa using set_same r i x (by simpa using h)
theorem s_stS (q : Nat) {T b j kk : Nat} {cs : List Value} {t : TypeId} (hF : Fr a n L) (hH : Hp w0 w H) (hg : wt ops L g = some true)
  (hx : ev L x = some (.pointer (some ⟨b, j, none⟩))) (hy : ev L y = some v) (hi : H[q]? = some (b, .cells cs.toArray t (0, 0))) (hu : cs[j]? = some v) (hT : tb tabK T = some kk) (hv : one v = true)
  (k : ∀ w', Hp w0 w' H → wpList Tryz.prog ops Q rest a w') : wpList Tryz.prog ops Q (⟨none, .store T x y, ty, pos, af, g⟩ :: rest) a w := by
 have hc : sa cs j v [] = some cs := by
  obtain ⟨l', hl'⟩ := sa_ex cs j v []
  have := sa_eq _ _ _ _ _ hl'
  rw [hl', this, List.reverse_nil, List.nil_append, set_same cs j v hu]
 have hH' : sa H q (b, .cells cs.toArray t (0, 0)) [] = some H := by
  obtain ⟨l', hl'⟩ := sa_ex H q (b, Obj.cells cs.toArray t (0, 0)) []
  have := sa_eq _ _ _ _ _ hl'
  rw [hl', this, List.reverse_nil, List.nil_append, set_same H q _ hi]
 exact s_st q hF hH hg hx hy hi hu hT hv hc hH' k
theorem d_cv (v' : Value) {T T2 : Nat} (hF : Fr a n L) (hS : Hp w0 w HS) (ho : ops[i]? = some ⟨some d, .convert T T2 x, ty, pos, af, g⟩) (hg : wt ops L g = some true) (hn : Nat.ble (d + 1) n = true) (hx : pe2 L (.convert T T2 x) = some v) (hv : v = v') (hL : dl L d [] = some L1)
  (k : ∀ a', Fr a' n ((d, v') :: L1) → dL Tryz.prog ops Q (fun w => Hp w0 w HS) ds r a' w) : dL Tryz.prog ops Q (fun w => Hp w0 w HS) ds (i :: r) a w := by
 subst hv
 refine d_one hF ho rfl hg (fun K hK => ?_)
 unfold Oper.wp
 rw [r_pe2 hF hx w, Oper.upon_value]
 exact hK _ _ (fun _ => hS) (k _ (hF.put hn hL))
theorem d_mk {T e sz bytes l c : Nat} {kl kc : IntKind} {zl : List Value} (hF : Fr a n L) (hH : Hp w0 w H) (hS : Hp w0 w HS) (ho : ops[i]? = some ⟨some d, .makeSlice T x y, ty, pos, af, g⟩) (hg : wt ops L g = some true) (hn : Nat.ble (d + 1) n = true) (hT : tb tabEl T = some (e, sz)) (hz : tb tabZ e = some zl) (hb : tb tabBy e = some bytes)
  (hx : ev L x = some (.int kl (Int.ofNat l))) (hy : ev L y = some (.int kc (Int.ofNat c))) (hL : dl L d [] = some L1) (hlc : l ≤ c) (hby : bytes * c ≤ 281474976710656) (hc : c ≤ 9223372036854775807)
  (k : ∀ a' b w', Fr a' n ((d, .slice (some ⟨b, 0, none⟩) l c) :: L1) → Hp w0 w' ((b, .cells (madeCells zl.toArray (c * sz)) e) :: H) → Hp w0 w' HS → dL Tryz.prog ops Q (fun w => Hp w0 w HS) ds r a' w') : dL Tryz.prog ops Q (fun w => Hp w0 w HS) ds (i :: r) a w := by
 obtain ⟨hu, hs'⟩ := el_of hT
 obtain ⟨iv, zv, hi', hzi, hzc⟩ := zero_of hz
 have hsz' : iv.size = sz := by
  obtain ⟨i', hi3, h1⟩ := size_of hs'
  rw [hi'] at hi3
  obtain rfl := Option.some.inj hi3
  exact h1
 have hbyt := by_of hb hi'
 have hzv : zv.cells = zl.toArray := by
  rcases hzc with ⟨l', rfl, rfl⟩ | ⟨rfl, ho⟩
  ·rfl
  ·cases zv <;> simp [one] at ho <;> rfl
 have hbb : (iv.bytes : Int) * (Int.ofNat c) ≤ 281474976710656 := by
  rw [hbyt]
  have : ((bytes * c : Nat) : Int) ≤ 281474976710656 := by omega
  simpa using this
 have hr := run_make (P := Tryz.prog) w T e iv zv hu hi' hzi kl kc (Int.ofNat l) (Int.ofNat c) (by simp) (by simpa using hlc) hbb (by simp; omega)
 rw [hzv, hsz'] at hr
 refine d_one hF ho rfl hg (fun K hK => ?_)
 have he : (execOp a.eval ⟨some d, .makeSlice T x y, ty, pos, af, g⟩).run Tryz.prog w = .ok (.value (.slice (some ⟨w.heap.size, 0, none⟩) l c)) (w.alloc (.cells (madeCells zl.toArray (c * sz)) e)) := by
  simp only [execOp, hF.ev hx, hF.ev hy, Sem.run_bind, hr, Result.andThen_ok]
  rfl
 unfold Oper.wp
 rw [he, Oper.upon_value]
 have hS' : Hp w0 (w.alloc (.cells (madeCells zl.toArray (c * sz)) e)) HS := (hS.alloc _).sub (List.sublist_cons_self _ _)
 exact hK _ _ (fun _ => hS') (k _ _ _ (hF.put hn hL) (hH.alloc _) hS')
end
end Go.Proofs.YtlkikblohnnlcaaGreatDoor.X
end
section
namespace Go.Proofs.YtlkikblohnnlcaaGreatDoor.X
open Go Go.RowKit
set_option linter.unusedVariables false
set_option maxRecDepth 4000
def blocks (w : World) : Hm := w.heap.toList.zipIdx.map (fun p => (p.2, p.1))
theorem mem_blocks {w : World} {e : Nat × Obj} : e ∈ blocks w ↔ w.heap[e.1]? = some e.2 := by
 obtain ⟨i, o⟩ := e
 unfold blocks
 rw [List.mem_map]
 constructor
 ·rintro ⟨⟨o', i'⟩, hm, he⟩
  simp only [Prod.mk.injEq] at he
  obtain ⟨rfl, rfl⟩ := he
  have := List.mk_mem_zipIdx_iff_getElem?.1 hm
  simpa using this
 ·intro h
  refine ⟨(o, i), List.mk_mem_zipIdx_iff_getElem?.2 ?_, rfl⟩
  simpa using h
theorem nd_blocks (w : World) : (blocks w).Pairwise (fun x y => x.1 ≠ y.1) := by
 unfold blocks
 rw [List.pairwise_map]
 have h : (w.heap.toList.zipIdx.map (·.2)).Nodup := by
  rw [List.zipIdx_map_snd]
  exact List.nodup_range'
 rw [List.Nodup, List.pairwise_map] at h
 exact h
theorem ct_shift {β : Type} {f : FuncId} {args : List Value} {we w : World} {H : Hm} {V : β → Value} {φ : β → Prop} (hH : Hp we w H) (hc : ∀ R, Hp we w (H ++ R) → Calls Tryz.prog f args.toArray w fun e w' => ∃ x, φ x ∧ e = .returned (V x) ∧ Hp we w' (H ++ R)) : Ct f args w V (fun _ => []) φ := by
 let R : Hm := (blocks w).filter (fun e => decide (we.heap.size ≤ e.1) && !(H.map (·.1)).contains e.1)
 have hR : Hp we w (H ++ R) := by
  refine ⟨hH.below, fun e he => ?_, List.pairwise_append.2 ⟨hH.nd, (nd_blocks w).filter _, fun x hx y hy => ?_⟩⟩
  ·rcases List.mem_append.1 he with he | he
   ·exact hH.get e he
   ·obtain ⟨h1, h2⟩ := List.mem_filter.1 he
    simp only [Bool.and_eq_true, decide_eq_true_eq] at h2
    exact ⟨h2.1, mem_blocks.1 h1⟩
  ·obtain ⟨h1, h2⟩ := List.mem_filter.1 hy
   simp only [Bool.and_eq_true, Bool.not_eq_true'] at h2
   intro hxy
   have : (H.map (·.1)).contains y.1 = true := by
    rw [List.contains_iff_mem]
    exact List.mem_map.2 ⟨x, hx, hxy⟩
   rw [this] at h2
   exact absurd h2.2 (by simp)
 refine (hc R hR).mono ?_
 rintro e w' ⟨x, hφ, he, hw⟩
 refine ⟨x, hφ, he, ?_⟩
 have hall : ∀ i, i < w.heap.size → w'.heap[i]? = w.heap[i]? := by
  intro i hi
  by_cases h1 : i < we.heap.size
  ·rw [hw.below.block i h1, hH.below.block i h1]
  ·have hi' : w.heap[i]? = some w.heap[i] := Array.getElem?_eq_getElem hi
   by_cases h2 : ∃ x ∈ H, x.1 = i
   ·obtain ⟨x, hx, rfl⟩ := h2
    rw [(hw.get x (List.mem_append_left _ hx)).2, (hH.get x hx).2]
   ·have hm : (i, w.heap[i]) ∈ R := by
     refine List.mem_filter.2 ⟨mem_blocks.2 hi', ?_⟩
     simp only [Bool.and_eq_true, decide_eq_true_eq, Bool.not_eq_true']
     refine ⟨by omega, ?_⟩
     cases hc : (H.map (·.1)).contains i with
     | false => rfl
     | true =>
      rw [List.contains_iff_mem] at hc
      obtain ⟨x, hx, hxi⟩ := List.mem_map.1 hc
      exact absurd ⟨x, hx, hxi⟩ h2
    rw [(hw.get _ (List.mem_append_right _ hm)).2, hi']
 refine (Hp.start w).of_below ⟨hw.below.os.trans hH.below.os.symm, hw.below.tape.trans hH.below.tape.symm, hw.below.output.trans hH.below.output.symm, ?_, hall⟩
 rcases Nat.lt_or_ge w'.heap.size w.heap.size with h | h
 ·have := hall w'.heap.size h
  rw [Array.getElem?_eq_none (Nat.le_refl _), Array.getElem?_eq_getElem h] at this
  cases this
 ·exact h
end Go.Proofs.YtlkikblohnnlcaaGreatDoor.X
end
section
namespace Go.Proofs.YtlkikblohnnlcaaGreatDoor.R
open Go.RowKit Go.Proofs.YtlkikblohnnlcaaGreatDoorW.PrintWords Go.Proofs.YtlkikblohnnlcaaGreatDoorW.PrintLast Go.Proofs.YtlkikblohnnlcaaGreatDoorW.PrintMore
attribute [local go_sem] max2_int min2_int max_two min_two max_three min_three max_four min_four
set_option linter.unusedVariables false
set_option linter.unusedSimpArgs false
def errW : Option Int → Value
 | none => .nilIface
 | some c => .iface 0 (.int .i64 c)
theorem errW_none : errW none = .nilIface := rfl
theorem errW_some (c : Int) : errW (some c) = .iface 0 (.int .i64 c) := rfl
theorem info3 : (Tryz.prog.info? 3).map (fun i => (i.zero, i.size, i.bytes)) = some (some (.int .i64 0), 1, 8) := by kernel_rfl
structure S27 where
 f0 : Int
 f1 : Bool
 f2 : Int
 f3 : ByteArray
 f4 : (List ByteArray)
 f5 : (List S27)
def z27 : S27 := ⟨(0 : Int), false, (0 : Int), (⟨#[]⟩ : ByteArray), ([] : List ByteArray), ([] : List S27)⟩
def F27 (d : Kd S27) : Kd S27 := Kd.iso (Kd.pair (Kd.int .i64) (Kd.pair Kd.bool (Kd.pair (Kd.int .i64) (Kd.pair Kd.string (Kd.pair (Kd.slice 9 Kd.string) (Kd.slice 27 d)))))) (fun x : S27 => (x.f0, x.f1, x.f2, x.f3, x.f4, x.f5))
theorem mono27 : Kd.Mono F27 := Kd.mono_iso _ (Kd.mono_pair (Kd.mono_const _) (Kd.mono_pair (Kd.mono_const _) (Kd.mono_pair (Kd.mono_const _) (Kd.mono_pair (Kd.mono_const _) (Kd.mono_pair (Kd.mono_const _) (Kd.mono_slice 27 Kd.mono_id))))))
theorem sub27 : Kd.Sub F27 [9, 27] := Kd.sub_iso _ (Kd.sub_pair (Kd.sub_const _ (by decide)) (Kd.sub_pair (Kd.sub_const _ (by decide)) (Kd.sub_pair (Kd.sub_const _ (by decide)) (Kd.sub_pair (Kd.sub_const _ (by decide)) (Kd.sub_pair (Kd.sub_const _ (by decide)) (Kd.sub_slice 27 (by decide) Kd.sub_id))))))
theorem sz27 : ∀ n, (Kd.upto F27 6 [9, 27] n).sz = 6 := Kd.upto_sz (fun _ => rfl)
def k27 : Kd S27 := Kd.fix F27 6 [9, 27] sz27 (Kd.upto_E sub27)
theorem k27_open {w : World} {x : S27} {cs : List Value} (h : k27.K w x cs) : ∃ A4 c4 A5 c5, cs = [.int .i64 x.f0, .bool x.f1, .int .i64 x.f2, .string x.f3, .slice A4 x.f4.length c4, .slice A5 x.f5.length c5] ∧ x.f4.length ≤ c4 ∧ Kd.string.C w A4 x.f4.length x.f4 ∧ x.f5.length ≤ c5 ∧ k27.C w A5 x.f5.length x.f5 := by
 obtain ⟨n, h⟩ := h
 cases n with
 | zero => exact h.elim
 | succ n =>
  obtain ⟨_, _, rfl, rfl, ⟨_, _, rfl, rfl, ⟨_, _, rfl, rfl, ⟨_, _, rfl, rfl, ⟨_, _, rfl, ⟨A4, c4, rfl, l4, g4⟩, ⟨A5, c5, rfl, l5, g5⟩⟩⟩⟩⟩⟩ := h
  exact ⟨A4, c4, A5, c5, rfl, l4, g4, l5, Kd.fix_C g5⟩
theorem k27_mk (w : World) (x : S27) {A4 : Option Addr} {c4 : Nat} (l4 : x.f4.length ≤ c4) (g4 : Kd.string.C w A4 x.f4.length x.f4) {A5 : Option Addr} {c5 : Nat} (l5 : x.f5.length ≤ c5) (g5 : k27.C w A5 x.f5.length x.f5) : k27.K w x [.int .i64 x.f0, .bool x.f1, .int .i64 x.f2, .string x.f3, .slice A4 x.f4.length c4, .slice A5 x.f5.length c5] := by
 obtain ⟨n5, q5⟩ := Kd.fix_C_back mono27 g5
 have r5 := Kd.upto_C_le mono27 sz27 (show n5 ≤ n5 by omega) q5
 exact ⟨n5 + 1, ⟨[.int .i64 x.f0], [.bool x.f1, .int .i64 x.f2, .string x.f3, .slice A4 x.f4.length c4, .slice A5 x.f5.length c5], rfl, rfl, ⟨[.bool x.f1], [.int .i64 x.f2, .string x.f3, .slice A4 x.f4.length c4, .slice A5 x.f5.length c5], rfl, rfl, ⟨[.int .i64 x.f2], [.string x.f3, .slice A4 x.f4.length c4, .slice A5 x.f5.length c5], rfl, rfl, ⟨[.string x.f3], [.slice A4 x.f4.length c4, .slice A5 x.f5.length c5], rfl, rfl, ⟨[.slice A4 x.f4.length c4], [.slice A5 x.f5.length c5], rfl, ⟨A4, c4, rfl, l4, g4⟩, ⟨A5, c5, rfl, l5, r5⟩⟩⟩⟩⟩⟩⟩
end Go.Proofs.YtlkikblohnnlcaaGreatDoor.R
end
section
namespace Go.Proofs.YtlkikblohnnlcaaGreatDoor.R
open Go.RowKit Go.Proofs.YtlkikblohnnlcaaGreatDoorW.PrintWords Go.Proofs.YtlkikblohnnlcaaGreatDoorW.PrintLast Go.Proofs.YtlkikblohnnlcaaGreatDoorW.PrintMore
attribute [local go_sem] max2_int min2_int max_two min_two max_three min_three max_four min_four
set_option linter.unusedVariables false
set_option linter.unusedSimpArgs false
def laws_zzFits4.l0 : Nat → List ByteArray → Int → Int → Option (Bool)
 | 0, _, _, _ => none
 | k + 1, x8, x9, x10 => if x10 < x9 then (if 0 ≤ x10 then (if x10 < (x8.length : Int) then (if ((rdOf ByteArray.empty x8 x10).size : Int) > 2147483647 then (some false) else (laws_zzFits4.l0 k x8 x9 (wrap64 (x10 + 1)))) else (none)) else (none)) else (some true)
def laws_zzFits4.f (k : Nat) (l0 : List ByteArray) : Option (Bool) := if (l0.length : Int) > 2147483647 then (some false) else (laws_zzFits4.l0 k l0 (l0.length : Int) 0)
set_option maxHeartbeats 8000000 in
set_option maxRecDepth 100000 in
theorem laws_zzFits4.calls (k : Nat) (A0 : Option Addr) (c0 : Nat) (l0 : List ByteArray) (r : Bool) (w : World) (hr0 : Kd.C Kd.string w A0 l0.length l0) (hc0 : l0.length ≤ c0) (h : laws_zzFits4.f k l0 = some r) :
  Calls Tryz.prog 9 #[.slice A0 l0.length c0] w fun e w' => e = .returned (.bool r) ∧ Drawn0 w w' := by
 have HR0 := Aside0.mk hr0
 have HC0 := Aside0.mk hc0
 clear hr0 hc0
 have H : (if (l0.length : Int) > 2147483647 then (some false) else (laws_zzFits4.l0 k l0 (l0.length : Int) 0)) = some r := h
 clear h
 by_cases c2 : (l0.length : Int) > 2147483647
 ·rw [if_pos c2] at H
  have c2b0 : decide (2147483647 < (l0.length : Int)) = true := decide_eq_true c2
  have c2b1 : decide (2147483647 < l0.length) = true := decide_eq_true (by omega)
  clear c2
  obtain rfl := Option.some.inj H
  go_enter Tryz.func9, Tryz.ntmps9
  go_wp2
  go_ret
  exact ⟨by first | rfl | (simp; done) | (simp [*]; done), by repeat (first | exact Drawn0.refl _ | apply Drawn0.step)⟩
 ·rw [if_neg c2] at H
  have c2b0 : decide (2147483647 < (l0.length : Int)) = false := decide_eq_false c2
  have c2b1 : decide (2147483647 < l0.length) = false := decide_eq_false (by omega)
  clear c2
  have H' := Aside0.mk H
  clear H
  go_enter Tryz.func9, Tryz.ntmps9
  go_wp2
  go_loopg [10] k (fun kq v10 w' => ∃ (x10_1 : Int), v10 = .int .i64 x10_1 ∧ Aside0 (laws_zzFits4.l0 kq l0 (l0.length : Int) x10_1 = some r) ∧ Aside0 (kq ≤ k) ∧ Drawn0 w w')
  case atStart => exact ⟨(0), (by first | rfl | (simp; done) | (simp [*]; done)), H', ⟨Nat.le_refl _⟩, by repeat (first | exact Drawn0.refl _ | apply Drawn0.step)⟩
  case round =>
   clear H'
   try clear c2
   try clear c2b0
   try clear c2b1
   try clear p2
   obtain ⟨x10_1, rfl, HA, HK1, ⟨m1, rfl⟩⟩ := hrel
   cases gk with
   | zero => exact absurd HA.out (by simp [laws_zzFits4.l0])
   | succ k1 =>
    have H := HA.out
    clear HA
    simp only [laws_zzFits4.l0] at H
    by_cases c3 : x10_1 < (l0.length : Int)
    ·rw [if_pos c3] at H
     have c3b0 : decide (x10_1 < (l0.length : Int)) = true := decide_eq_true c3
     clear c3
     by_cases c4 : 0 ≤ x10_1
     ·rw [if_pos c4] at H
      have c4b0 : decide (0 ≤ x10_1) = true := decide_eq_true c4
      clear c4
      by_cases c5 : x10_1 < (l0.length : Int)
      ·rw [if_pos c5] at H
       have c5b0 : decide (x10_1 < (l0.length : Int)) = true := decide_eq_true c5
       clear c5
       by_cases c6 : ((rdOf ByteArray.empty l0 x10_1).size : Int) > 2147483647
       ·rw [if_pos c6] at H
        have c6b0 : decide (2147483647 < ((rdOf ByteArray.empty l0 x10_1).size : Int)) = true := decide_eq_true c6
        have c6b1 : decide (2147483647 < (rdOf ByteArray.empty l0 x10_1).size) = true := decide_eq_true (by omega)
        clear c6
        obtain rfl := Option.some.inj H
        have p101 : 0 ≤ (x10_1 : Int) := of_decide_eq_true (by first | (with_reducible assumption) | assumption)
        have q101 : x10_1 < (l0.length : Int) := of_decide_eq_true (by first | (with_reducible assumption) | assumption)
        obtain ⟨ad101, e101, hx101_0⟩ := Kd.at_string HR0.out x10_1 p101 q101
        cases e101
        replace p101 := eq_true p101
        replace q101 := eq_true q101
        go_wp2
        go_ret
        exact ⟨by first | rfl | (simp; done) | (simp [*]; done), by repeat (first | exact Drawn0.refl _ | apply Drawn0.step)⟩
       ·rw [if_neg c6] at H
        have c6b0 : decide (2147483647 < ((rdOf ByteArray.empty l0 x10_1).size : Int)) = false := decide_eq_false c6
        have c6b1 : decide (2147483647 < (rdOf ByteArray.empty l0 x10_1).size) = false := decide_eq_false (by omega)
        clear c6
        have H' := Aside0.mk H
        clear H
        have p101 : 0 ≤ (x10_1 : Int) := of_decide_eq_true (by first | (with_reducible assumption) | assumption)
        have q101 : x10_1 < (l0.length : Int) := of_decide_eq_true (by first | (with_reducible assumption) | assumption)
        obtain ⟨ad101, e101, hx101_0⟩ := Kd.at_string HR0.out x10_1 p101 q101
        cases e101
        replace p101 := eq_true p101
        replace q101 := eq_true q101
        go_wp2
        go_roundg k1
        case measure => have := HK1.out; omega
        case rel => exact ⟨(wrap64 (x10_1 + 1)), (by first | rfl | (simp; done) | (simp [*]; done)), H', ⟨by have := HK1.out; omega⟩, by repeat (first | exact Drawn0.refl _ | apply Drawn0.step)⟩
      ·rw [if_neg c5] at H
       exact absurd H (by simp)
     ·rw [if_neg c4] at H
      exact absurd H (by simp)
    ·rw [if_neg c3] at H
     have c3b0 : decide (x10_1 < (l0.length : Int)) = false := decide_eq_false c3
     clear c3
     obtain rfl := Option.some.inj H
     go_wp2
     go_ret
     exact ⟨by first | rfl | (simp; done) | (simp [*]; done), by repeat (first | exact Drawn0.refl _ | apply Drawn0.step)⟩
def laws_zzFits5.f (k : Nat) (a0_0 : Int) (a0_1 : Bool) (a0_2 : Int) (a0_3 : ByteArray) (l0_4 : List ByteArray) (l0_5 : List (S27)) : Option (Bool) := if (a0_3.size : Int) > 2147483647 then (some false) else ((laws_zzFits4.f k l0_4).bind fun t103 => (if t103 = true then (if (l0_5.length : Int) > 2147483647 then (some false) else (some true)) else (some false)))
set_option maxHeartbeats 8000000 in
set_option maxRecDepth 100000 in
theorem laws_zzFits5.calls (k : Nat) (a0_0 : Int) (a0_1 : Bool) (a0_2 : Int) (a0_3 : ByteArray) (A0_4 : Option Addr) (c0_4 : Nat) (l0_4 : List ByteArray) (A0_5 : Option Addr) (c0_5 : Nat) (l0_5 : List (S27)) (r : Bool) (w : World) (hr0_4 : Kd.C Kd.string w A0_4 l0_4.length l0_4) (hc0_4 : l0_4.length ≤ c0_4) (hr0_5 : Kd.C k27 w A0_5 l0_5.length l0_5) (hc0_5 : l0_5.length ≤ c0_5) (h : laws_zzFits5.f k a0_0 a0_1 a0_2 a0_3 l0_4 l0_5 = some r) :
  Calls Tryz.prog 4 #[.agg #[.int .i64 a0_0, .bool a0_1, .int .i64 a0_2, .string a0_3, .slice A0_4 l0_4.length c0_4, .slice A0_5 l0_5.length c0_5]] w fun e w' => e = .returned (.bool r) ∧ Below w.heap.size w w' := by
 have hu27 := Tryz.underlying27
 have HR0_4 := Aside0.mk hr0_4
 have HC0_4 := Aside0.mk hc0_4
 clear hr0_4 hc0_4
 have HR0_5 := Aside0.mk hr0_5
 have HC0_5 := Aside0.mk hc0_5
 clear hr0_5 hc0_5
 have HB := Aside0.mk (Below.refl w.heap.size w)
 have H : (if (a0_3.size : Int) > 2147483647 then (some false) else ((laws_zzFits4.f k l0_4).bind fun t103 => (if t103 = true then (if (l0_5.length : Int) > 2147483647 then (some false) else (some true)) else (some false)))) = some r := h
 clear h
 by_cases c2 : (a0_3.size : Int) > 2147483647
 ·rw [if_pos c2] at H
  have c2b0 : decide (2147483647 < (a0_3.size : Int)) = true := decide_eq_true c2
  have c2b1 : decide (2147483647 < a0_3.size) = true := decide_eq_true (by omega)
  clear c2
  obtain rfl := Option.some.inj H
  go_enter Tryz.func4, Tryz.ntmps4
  go_wp2_with (first | ((with_reducible refine gate_dst (N := 1) rfl ?_); refine box_event ?hg (N := 1) ?hd (cs := #[.int .i64 a0_0, .bool a0_1, .int .i64 a0_2, .string a0_3, .slice A0_4 l0_4.length c0_4, .slice A0_5 l0_5.length c0_5]) (t := 27) ?hr ?_; (case hd => rfl); (case hg => rfl); (case hr => first | (go_simp; done) | (go_simp; rfl)); intro gb102 hg w3 hbox hb; have n0_ := Aside0.mk (below_step (by repeat (first | (with_reducible first | exact HB.out | apply below_alloc | apply pw_below_drewN | apply below_drew1) | exact HB.out)) hb); have n1_ := Aside0.mk (hbox); have n2_ := Aside0.mk ((by rw [hg]; exact (below_size (by repeat (first | (with_reducible first | exact HB.out | apply below_alloc | apply pw_below_drewN | apply below_drew1) | exact HB.out))) : w.heap.size ≤ gb102)); have n3_ := Aside0.mk ((by rw [hg]; exact (below_size (by repeat (first | (with_reducible first | exact HB.out | apply below_alloc | apply pw_below_drewN | apply below_drew1) | exact HB.out))) : w.heap.size ≤ gb102)); clear HB; have HB := n0_; have BK102 := n1_; have GW102 := n2_; have GE102 := n3_; clear n0_ n1_ n2_ n3_; clear hb hbox hg; have hcz4_0 : w3.cell? ⟨gb102, 0, none⟩ = some (.int .i64 a0_0) := (blk_cell BK102.out 0).trans rfl; have hcz4_1 : w3.cell? ⟨gb102, 1, none⟩ = some (.bool a0_1) := (blk_cell BK102.out 1).trans rfl; have hcz4_2 : w3.cell? ⟨gb102, 2, none⟩ = some (.int .i64 a0_2) := (blk_cell BK102.out 2).trans rfl; have hcz4_3 : w3.cell? ⟨gb102, 3, none⟩ = some (.string a0_3) := (blk_cell BK102.out 3).trans rfl; have hcz4_4 : w3.cell? ⟨gb102, 4, none⟩ = some (.slice A0_4 l0_4.length c0_4) := (blk_cell BK102.out 4).trans rfl; have hcz4_5 : w3.cell? ⟨gb102, 5, none⟩ = some (.slice A0_5 l0_5.length c0_5) := (blk_cell BK102.out 5).trans rfl; have hfz4_0 := blk_frozen BK102.out 0; have hfz4_1 := blk_frozen BK102.out 1; have hfz4_2 := blk_frozen BK102.out 2; have hfz4_3 := blk_frozen BK102.out 3; have hfz4_4 := blk_frozen BK102.out 4; have hfz4_5 := blk_frozen BK102.out 5))
  go_ret
  exact ⟨by first | rfl | (simp [errW_none, errW_some] <;> rfl) | (simp [*, errW_none, errW_some] <;> rfl), by repeat (first | (with_reducible first | exact HB.out | apply below_alloc | apply pw_below_drewN | apply below_drew1 | refine below_set ?_ GE102.out) | exact HB.out)⟩
 ·rw [if_neg c2] at H
  have c2b0 : decide (2147483647 < (a0_3.size : Int)) = false := decide_eq_false c2
  have c2b1 : decide (2147483647 < a0_3.size) = false := decide_eq_false (by omega)
  clear c2
  replace H := Option.bind_eq_some_iff.mp H
  obtain ⟨t103, A50, H⟩ := H
  replace H : (if t103 = true then (if (l0_5.length : Int) > 2147483647 then (some false) else (some true)) else (some false)) = some r := H
  have A5 := Aside0.mk A50
  clear A50
  by_cases c6 : t103 = true
  ·subst c6
   have H1 : (if (l0_5.length : Int) > 2147483647 then (some false) else (some true)) = some r := by rw [if_pos rfl] at H; exact H
   clear H
   have H := H1
   clear H1
   by_cases c7 : (l0_5.length : Int) > 2147483647
   ·rw [if_pos c7] at H
    have c7b0 : decide (2147483647 < (l0_5.length : Int)) = true := decide_eq_true c7
    have c7b1 : decide (2147483647 < l0_5.length) = true := decide_eq_true (by omega)
    clear c7
    obtain rfl := Option.some.inj H
    go_enter Tryz.func4, Tryz.ntmps4
    go_wp2_with (first | ((with_reducible refine gate_dst (N := 1) rfl ?_); refine box_event ?hg (N := 1) ?hd (cs := #[.int .i64 a0_0, .bool a0_1, .int .i64 a0_2, .string a0_3, .slice A0_4 l0_4.length c0_4, .slice A0_5 l0_5.length c0_5]) (t := 27) ?hr ?_; (case hd => rfl); (case hg => rfl); (case hr => first | (go_simp; done) | (go_simp; rfl)); intro gb102 hg w8 hbox hb; have n0_ := Aside0.mk (below_step (by repeat (first | (with_reducible first | exact HB.out | apply below_alloc | apply pw_below_drewN | apply below_drew1) | exact HB.out)) hb); have n1_ := Aside0.mk (hbox); have n2_ := Aside0.mk ((by rw [hg]; exact (below_size (by repeat (first | (with_reducible first | exact HB.out | apply below_alloc | apply pw_below_drewN | apply below_drew1) | exact HB.out))) : w.heap.size ≤ gb102)); have n3_ := Aside0.mk ((by rw [hg]; exact (below_size (by repeat (first | (with_reducible first | exact HB.out | apply below_alloc | apply pw_below_drewN | apply below_drew1) | exact HB.out))) : w.heap.size ≤ gb102)); clear HB; have HB := n0_; have BK102 := n1_; have GW102 := n2_; have GE102 := n3_; clear n0_ n1_ n2_ n3_; clear hb hbox hg; have hcz9_0 : w8.cell? ⟨gb102, 0, none⟩ = some (.int .i64 a0_0) := (blk_cell BK102.out 0).trans rfl; have hcz9_1 : w8.cell? ⟨gb102, 1, none⟩ = some (.bool a0_1) := (blk_cell BK102.out 1).trans rfl; have hcz9_2 : w8.cell? ⟨gb102, 2, none⟩ = some (.int .i64 a0_2) := (blk_cell BK102.out 2).trans rfl; have hcz9_3 : w8.cell? ⟨gb102, 3, none⟩ = some (.string a0_3) := (blk_cell BK102.out 3).trans rfl; have hcz9_4 : w8.cell? ⟨gb102, 4, none⟩ = some (.slice A0_4 l0_4.length c0_4) := (blk_cell BK102.out 4).trans rfl; have hcz9_5 : w8.cell? ⟨gb102, 5, none⟩ = some (.slice A0_5 l0_5.length c0_5) := (blk_cell BK102.out 5).trans rfl; have hfz9_0 := blk_frozen BK102.out 0; have hfz9_1 := blk_frozen BK102.out 1; have hfz9_2 := blk_frozen BK102.out 2; have hfz9_3 := blk_frozen BK102.out 3; have hfz9_4 := blk_frozen BK102.out 4; have hfz9_5 := blk_frozen BK102.out 5) | ((with_reducible refine gate_callee (f := 9) rfl ?_); refine goesL_ (some 9) J J Tryz.func9 (by kernel_rfl) rfl #[.slice A0_4 l0_4.length c0_4] rfl (by (try simp only [List.map_toArray, List.map_cons, List.map_nil]); first | done | rfl | (simp only [List.length_drop, List.length_take]; rfl)) ?_; (with_reducible refine (laws_zzFits4.calls k _ _ l0_4 true _ ?side1 ?side2 A5.out).mono ?_); (case side1 => repeat (first | exact (Kd.C_below HR0_4.out HB.out) | (with_reducible refine Kd.C_alloc ?_ _) | (with_reducible refine Kd.C_drewN ?_ _) | (with_reducible refine Kd.C_drew ?_))); (case side2 => exact HC0_4.out); rintro e w' ⟨rfl, ⟨nd, rfl⟩⟩; refine ⟨_, rfl, ?_⟩))
    go_ret
    exact ⟨by first | rfl | (simp [errW_none, errW_some] <;> rfl) | (simp [*, errW_none, errW_some] <;> rfl), by repeat (first | (with_reducible first | exact HB.out | apply below_alloc | apply pw_below_drewN | apply below_drew1 | refine below_set ?_ GE102.out) | exact HB.out)⟩
   ·rw [if_neg c7] at H
    have c7b0 : decide (2147483647 < (l0_5.length : Int)) = false := decide_eq_false c7
    have c7b1 : decide (2147483647 < l0_5.length) = false := decide_eq_false (by omega)
    clear c7
    obtain rfl := Option.some.inj H
    go_enter Tryz.func4, Tryz.ntmps4
    go_wp2_with (first | ((with_reducible refine gate_dst (N := 1) rfl ?_); refine box_event ?hg (N := 1) ?hd (cs := #[.int .i64 a0_0, .bool a0_1, .int .i64 a0_2, .string a0_3, .slice A0_4 l0_4.length c0_4, .slice A0_5 l0_5.length c0_5]) (t := 27) ?hr ?_; (case hd => rfl); (case hg => rfl); (case hr => first | (go_simp; done) | (go_simp; rfl)); intro gb102 hg w10 hbox hb; have n0_ := Aside0.mk (below_step (by repeat (first | (with_reducible first | exact HB.out | apply below_alloc | apply pw_below_drewN | apply below_drew1) | exact HB.out)) hb); have n1_ := Aside0.mk (hbox); have n2_ := Aside0.mk ((by rw [hg]; exact (below_size (by repeat (first | (with_reducible first | exact HB.out | apply below_alloc | apply pw_below_drewN | apply below_drew1) | exact HB.out))) : w.heap.size ≤ gb102)); have n3_ := Aside0.mk ((by rw [hg]; exact (below_size (by repeat (first | (with_reducible first | exact HB.out | apply below_alloc | apply pw_below_drewN | apply below_drew1) | exact HB.out))) : w.heap.size ≤ gb102)); clear HB; have HB := n0_; have BK102 := n1_; have GW102 := n2_; have GE102 := n3_; clear n0_ n1_ n2_ n3_; clear hb hbox hg; have hcz11_0 : w10.cell? ⟨gb102, 0, none⟩ = some (.int .i64 a0_0) := (blk_cell BK102.out 0).trans rfl; have hcz11_1 : w10.cell? ⟨gb102, 1, none⟩ = some (.bool a0_1) := (blk_cell BK102.out 1).trans rfl; have hcz11_2 : w10.cell? ⟨gb102, 2, none⟩ = some (.int .i64 a0_2) := (blk_cell BK102.out 2).trans rfl; have hcz11_3 : w10.cell? ⟨gb102, 3, none⟩ = some (.string a0_3) := (blk_cell BK102.out 3).trans rfl; have hcz11_4 : w10.cell? ⟨gb102, 4, none⟩ = some (.slice A0_4 l0_4.length c0_4) := (blk_cell BK102.out 4).trans rfl; have hcz11_5 : w10.cell? ⟨gb102, 5, none⟩ = some (.slice A0_5 l0_5.length c0_5) := (blk_cell BK102.out 5).trans rfl; have hfz11_0 := blk_frozen BK102.out 0; have hfz11_1 := blk_frozen BK102.out 1; have hfz11_2 := blk_frozen BK102.out 2; have hfz11_3 := blk_frozen BK102.out 3; have hfz11_4 := blk_frozen BK102.out 4; have hfz11_5 := blk_frozen BK102.out 5) | ((with_reducible refine gate_callee (f := 9) rfl ?_); refine goesL_ (some 9) J J Tryz.func9 (by kernel_rfl) rfl #[.slice A0_4 l0_4.length c0_4] rfl (by (try simp only [List.map_toArray, List.map_cons, List.map_nil]); first | done | rfl | (simp only [List.length_drop, List.length_take]; rfl)) ?_; (with_reducible refine (laws_zzFits4.calls k _ _ l0_4 true _ ?side1 ?side2 A5.out).mono ?_); (case side1 => repeat (first | exact (Kd.C_below HR0_4.out HB.out) | (with_reducible refine Kd.C_alloc ?_ _) | (with_reducible refine Kd.C_drewN ?_ _) | (with_reducible refine Kd.C_drew ?_))); (case side2 => exact HC0_4.out); rintro e w' ⟨rfl, ⟨nd, rfl⟩⟩; refine ⟨_, rfl, ?_⟩))
    go_ret
    exact ⟨by first | rfl | (simp [errW_none, errW_some] <;> rfl) | (simp [*, errW_none, errW_some] <;> rfl), by repeat (first | (with_reducible first | exact HB.out | apply below_alloc | apply pw_below_drewN | apply below_drew1 | refine below_set ?_ GE102.out) | exact HB.out)⟩
  ·replace c6 := Bool.eq_false_iff.mpr c6
   subst c6
   have H1 : (some false) = some r := by rw [if_neg (show ¬ (false = true) by decide)] at H; exact H
   clear H
   have H := H1
   clear H1
   obtain rfl := Option.some.inj H
   go_enter Tryz.func4, Tryz.ntmps4
   go_wp2_with (first | ((with_reducible refine gate_dst (N := 1) rfl ?_); refine box_event ?hg (N := 1) ?hd (cs := #[.int .i64 a0_0, .bool a0_1, .int .i64 a0_2, .string a0_3, .slice A0_4 l0_4.length c0_4, .slice A0_5 l0_5.length c0_5]) (t := 27) ?hr ?_; (case hd => rfl); (case hg => rfl); (case hr => first | (go_simp; done) | (go_simp; rfl)); intro gb102 hg w12 hbox hb; have n0_ := Aside0.mk (below_step (by repeat (first | (with_reducible first | exact HB.out | apply below_alloc | apply pw_below_drewN | apply below_drew1) | exact HB.out)) hb); have n1_ := Aside0.mk (hbox); have n2_ := Aside0.mk ((by rw [hg]; exact (below_size (by repeat (first | (with_reducible first | exact HB.out | apply below_alloc | apply pw_below_drewN | apply below_drew1) | exact HB.out))) : w.heap.size ≤ gb102)); have n3_ := Aside0.mk ((by rw [hg]; exact (below_size (by repeat (first | (with_reducible first | exact HB.out | apply below_alloc | apply pw_below_drewN | apply below_drew1) | exact HB.out))) : w.heap.size ≤ gb102)); clear HB; have HB := n0_; have BK102 := n1_; have GW102 := n2_; have GE102 := n3_; clear n0_ n1_ n2_ n3_; clear hb hbox hg; have hcz13_0 : w12.cell? ⟨gb102, 0, none⟩ = some (.int .i64 a0_0) := (blk_cell BK102.out 0).trans rfl; have hcz13_1 : w12.cell? ⟨gb102, 1, none⟩ = some (.bool a0_1) := (blk_cell BK102.out 1).trans rfl; have hcz13_2 : w12.cell? ⟨gb102, 2, none⟩ = some (.int .i64 a0_2) := (blk_cell BK102.out 2).trans rfl; have hcz13_3 : w12.cell? ⟨gb102, 3, none⟩ = some (.string a0_3) := (blk_cell BK102.out 3).trans rfl; have hcz13_4 : w12.cell? ⟨gb102, 4, none⟩ = some (.slice A0_4 l0_4.length c0_4) := (blk_cell BK102.out 4).trans rfl; have hcz13_5 : w12.cell? ⟨gb102, 5, none⟩ = some (.slice A0_5 l0_5.length c0_5) := (blk_cell BK102.out 5).trans rfl; have hfz13_0 := blk_frozen BK102.out 0; have hfz13_1 := blk_frozen BK102.out 1; have hfz13_2 := blk_frozen BK102.out 2; have hfz13_3 := blk_frozen BK102.out 3; have hfz13_4 := blk_frozen BK102.out 4; have hfz13_5 := blk_frozen BK102.out 5) | ((with_reducible refine gate_callee (f := 9) rfl ?_); refine goesL_ (some 9) J J Tryz.func9 (by kernel_rfl) rfl #[.slice A0_4 l0_4.length c0_4] rfl (by (try simp only [List.map_toArray, List.map_cons, List.map_nil]); first | done | rfl | (simp only [List.length_drop, List.length_take]; rfl)) ?_; (with_reducible refine (laws_zzFits4.calls k _ _ l0_4 false _ ?side1 ?side2 A5.out).mono ?_); (case side1 => repeat (first | exact (Kd.C_below HR0_4.out HB.out) | (with_reducible refine Kd.C_alloc ?_ _) | (with_reducible refine Kd.C_drewN ?_ _) | (with_reducible refine Kd.C_drew ?_))); (case side2 => exact HC0_4.out); rintro e w' ⟨rfl, ⟨nd, rfl⟩⟩; refine ⟨_, rfl, ?_⟩))
   go_ret
   exact ⟨by first | rfl | (simp [errW_none, errW_some] <;> rfl) | (simp [*, errW_none, errW_some] <;> rfl), by repeat (first | (with_reducible first | exact HB.out | apply below_alloc | apply pw_below_drewN | apply below_drew1 | refine below_set ?_ GE102.out) | exact HB.out)⟩
mutual
def spec_jWidth.j3 : Nat → ByteArray → Int → Int → Int → Int → Option (Int)
 | 0, _, _, _, _, _ => none
 | k + 1, x0, x1, x6, x7, x8 => if (wrap64 (x1 + x6)) > (x0.size : Int) then (spec_jWidth.j4 k x0 x1 x6 true) else (if 0 ≤ (wrap64 (x1 + 1)) then (if (wrap64 (x1 + 1)) < (x0.size : Int) then (if (bt x0 (wrap64 (x1 + 1))) < x7 then (spec_jWidth.j4 k x0 x1 x6 true) else (spec_jWidth.j4 k x0 x1 x6 (decide ((bt x0 (wrap64 (x1 + 1))) > x8)))) else (none)) else (none))
def spec_jWidth.j4 : Nat → ByteArray → Int → Int → Bool → Option (Int)
 | 0, _, _, _, _ => none
 | k + 1, x0, x1, x6, x66 => if x66 = true then (some 0) else (spec_jWidth.l0 k x0 x1 x6 2)
def spec_jWidth.l0 : Nat → ByteArray → Int → Int → Int → Option (Int)
 | 0, _, _, _, _ => none
 | k + 1, x0, x1, x6, x9 => if x9 < x6 then (if 0 ≤ (wrap64 (x1 + x9)) then (if (wrap64 (x1 + x9)) < (x0.size : Int) then (if (bt x0 (wrap64 (x1 + x9))) < 128 then (some 0) else (if (bt x0 (wrap64 (x1 + x9))) > 191 then (some 0) else (spec_jWidth.l0 k x0 x1 x6 (wrap64 (x9 + 1))))) else (none)) else (none)) else (some x6)
def spec_jWidth.j0 : Nat → ByteArray → Int → Int → Int → Int → Bool → Option (Int)
 | 0, _, _, _, _, _, _ => none
 | k + 1, x0, x1, x5, x7, x8, x16 => if x16 = true then (spec_jWidth.j3 k x0 x1 2 x7 x8) else (if x5 ≥ 224 then (spec_jWidth.j1 k x0 x1 x5 x7 x8 (decide (x5 ≤ 239))) else (spec_jWidth.j1 k x0 x1 x5 x7 x8 false))
def spec_jWidth.j1 : Nat → ByteArray → Int → Int → Int → Int → Bool → Option (Int)
 | 0, _, _, _, _, _, _ => none
 | k + 1, x0, x1, x5, x7, x8, x23 => if x23 = true then (if x5 = 224 then (if x5 = 237 then (spec_jWidth.j3 k x0 x1 3 160 159) else (spec_jWidth.j3 k x0 x1 3 160 x8)) else (if x5 = 237 then (spec_jWidth.j3 k x0 x1 3 x7 159) else (spec_jWidth.j3 k x0 x1 3 x7 x8))) else (if x5 ≥ 240 then (spec_jWidth.j2 k x0 x1 x5 x7 x8 (decide (x5 ≤ 244))) else (spec_jWidth.j2 k x0 x1 x5 x7 x8 false))
def spec_jWidth.j2 : Nat → ByteArray → Int → Int → Int → Int → Bool → Option (Int)
 | 0, _, _, _, _, _, _ => none
 | k + 1, x0, x1, x5, x7, x8, x34 => if x34 = true then (if x5 = 240 then (if x5 = 244 then (spec_jWidth.j3 k x0 x1 4 144 143) else (spec_jWidth.j3 k x0 x1 4 144 x8)) else (if x5 = 244 then (spec_jWidth.j3 k x0 x1 4 x7 143) else (spec_jWidth.j3 k x0 x1 4 x7 x8))) else (some 0)
end
def spec_jWidth.f (k : Nat) (a0 : ByteArray) (a1 : Int) : Option (Int) := if 0 ≤ a1 then (if a1 < (a0.size : Int) then (if (bt a0 a1) < 128 then (some 1) else (if (bt a0 a1) ≥ 194 then (spec_jWidth.j0 k a0 a1 (bt a0 a1) 128 191 (decide ((bt a0 a1) ≤ 223))) else (spec_jWidth.j0 k a0 a1 (bt a0 a1) 128 191 false))) else (none)) else (none)
set_option maxHeartbeats 8000000 in
set_option maxRecDepth 100000 in
theorem spec_jWidth.calls (k : Nat) (a0 : ByteArray) (a1 : Int) (r : Int) (w : World) (h : spec_jWidth.f k a0 a1 = some r) :
  Calls Tryz.prog 45 #[.string a0, .int .i64 a1] w fun e w' => e = .returned (.int .i64 r) ∧ Drawn0 w w' := by
 have H : (if 0 ≤ a1 then (if a1 < (a0.size : Int) then (if (bt a0 a1) < 128 then (some 1) else (if (bt a0 a1) ≥ 194 then (spec_jWidth.j0 k a0 a1 (bt a0 a1) 128 191 (decide ((bt a0 a1) ≤ 223))) else (spec_jWidth.j0 k a0 a1 (bt a0 a1) 128 191 false))) else (none)) else (none)) = some r := h
 clear h
 by_cases c3 : 0 ≤ a1
 ·rw [if_pos c3] at H
  have c3b0 : decide (0 ≤ a1) = true := decide_eq_true c3
  clear c3
  by_cases c4 : a1 < (a0.size : Int)
  ·rw [if_pos c4] at H
   have c4b0 : decide (a1 < (a0.size : Int)) = true := decide_eq_true c4
   clear c4
   have HC6 := Aside0.mk H
   clear H
   have p5 : 0 ≤ (a1 : Int) := of_decide_eq_true (by first | (with_reducible assumption) | assumption)
   have q5 : a1 < (a0.size : Int) := of_decide_eq_true (by first | (with_reducible assumption) | assumption)
   have hx5 := bt_at a0 a1
   replace p5 := eq_true p5
   replace q5 := eq_true q5
   go_enter Tryz.func45, Tryz.ntmps45
   go_upto_block 0 with (fail)
   go_cut [6, 7, 8] (fun v6 v7 v8 wc => ∃ (kq : Nat) (x6_5 : Int) (x7_5 : Int) (x8_5 : Int), v6 = .int .i64 x6_5 ∧ v7 = .int .u8 x7_5 ∧ v8 = .int .u8 x8_5 ∧ Aside0 (spec_jWidth.j3 kq a0 a1 x6_5 x7_5 x8_5 = some r) ∧ Aside0 (kq ≤ k) ∧ Drawn0 w wc)
   case first =>
    have H := HC6.out
    clear HC6
    by_cases c7 : (bt a0 a1) < 128
    ·rw [if_pos c7] at H
     have c7b0 : decide ((bt a0 a1) < 128) = true := decide_eq_true c7
     clear c7
     (first | rw [c7b0] | (simp only [i64_w, i32_w]; rw [c7b0]) | skip)
     obtain rfl := Option.some.inj H
     go_wp2
     go_ret
     exact ⟨by first | rfl | (simp; done) | (simp [*]; done), by repeat (first | exact Drawn0.refl _ | apply Drawn0.step)⟩
    ·rw [if_neg c7] at H
     have c7b0 : decide ((bt a0 a1) < 128) = false := decide_eq_false c7
     clear c7
     (first | rw [c7b0] | (simp only [i64_w, i32_w]; rw [c7b0]) | skip)
     have HC8 := Aside0.mk H
     clear H
     go_upto_region 7 with (fail)
     go_cut [16] (fun v16 wc => ∃ (kq : Nat) (x16_7 : Bool), v16 = .bool x16_7 ∧ Aside0 (spec_jWidth.j0 kq a0 a1 (bt a0 a1) 128 191 x16_7 = some r) ∧ Aside0 (kq ≤ k) ∧ Drawn0 w wc)
     case first =>
      have H := HC8.out
      clear HC8
      by_cases c9 : (bt a0 a1) ≥ 194
      ·rw [if_pos c9] at H
       have c9b0 : decide (194 ≤ (bt a0 a1)) = true := decide_eq_true c9
       clear c9
       (first | rw [c9b0] | (simp only [i64_w, i32_w]; rw [c9b0]) | skip)
       have H' := Aside0.mk H
       clear H
       go_wp2
       go_meet
       case rel => exact ⟨_, (decide ((bt a0 a1) ≤ 223)), (by first | rfl | (simp; done) | (simp [*]; done)), H', ⟨by first | omega | exact Nat.le_refl _⟩, by repeat (first | exact Drawn0.refl _ | apply Drawn0.step)⟩
      ·rw [if_neg c9] at H
       have c9b0 : decide (194 ≤ (bt a0 a1)) = false := decide_eq_false c9
       clear c9
       (first | rw [c9b0] | (simp only [i64_w, i32_w]; rw [c9b0]) | skip)
       have H' := Aside0.mk H
       clear H
       go_wp2
       go_meet
       case rel => exact ⟨_, (false), (by first | rfl | (simp; done) | (simp [*]; done)), H', ⟨by first | omega | exact Nat.le_refl _⟩, by repeat (first | exact Drawn0.refl _ | apply Drawn0.step)⟩
     case rest =>
      clear HC8
      try clear p2
      try clear c3
      try clear c3b0
      try clear c4
      try clear c4b0
      try clear p5
      try clear q5
      try clear hx5
      try clear c7
      try clear c7b0
      try clear c9
      try clear c9b0
      try clear p5
      try clear q5
      obtain ⟨kq, x16_7, rfl, HA, HJ7, ⟨mc7, rfl⟩⟩ := hcut
      cases kq with
      | zero => exact absurd HA.out (by simp [spec_jWidth.j0])
      | succ kj7 =>
       have H := HA.out
       clear HA
       simp only [spec_jWidth.j0] at H
       by_cases c10 : x16_7 = true
       ·subst c10
        have H1 : (spec_jWidth.j3 kj7 a0 a1 2 128 191) = some r := by rw [if_pos rfl] at H; exact H
        clear H
        have H := H1
        clear H1
        have H' := Aside0.mk H
        clear H
        go_wp2
        go_meet
        case rel => exact ⟨_, (2), (128), (191), (by first | rfl | (simp; done) | (simp [*]; done)), (by first | rfl | (simp; done) | (simp [*]; done)), (by first | rfl | (simp; done) | (simp [*]; done)), H', ⟨by have := HJ7.out; first | omega | exact Nat.le_refl _⟩, by repeat (first | exact Drawn0.refl _ | apply Drawn0.step)⟩
       ·replace c10 := Bool.eq_false_iff.mpr c10
        subst c10
        have H1 : (if (bt a0 a1) ≥ 224 then (spec_jWidth.j1 kj7 a0 a1 (bt a0 a1) 128 191 (decide ((bt a0 a1) ≤ 239))) else (spec_jWidth.j1 kj7 a0 a1 (bt a0 a1) 128 191 false)) = some r := by rw [if_neg (show ¬ (false = true) by decide)] at H; exact H
        clear H
        have H := H1
        clear H1
        have HC11 := Aside0.mk H
        clear H
        go_upto_region 9 with (fail)
        go_cut [23] (fun v23 wc => ∃ (kq : Nat) (x23_10 : Bool), v23 = .bool x23_10 ∧ Aside0 (spec_jWidth.j1 kq a0 a1 (bt a0 a1) 128 191 x23_10 = some r) ∧ Aside0 (kq ≤ kj7) ∧ Drawn0 w wc)
        case first =>
         have H := HC11.out
         clear HC11
         by_cases c12 : (bt a0 a1) ≥ 224
         ·rw [if_pos c12] at H
          have c12b0 : decide (224 ≤ (bt a0 a1)) = true := decide_eq_true c12
          clear c12
          (first | rw [c12b0] | (simp only [i64_w, i32_w]; rw [c12b0]) | skip)
          have H' := Aside0.mk H
          clear H
          go_wp2
          go_meet
          case rel => exact ⟨_, (decide ((bt a0 a1) ≤ 239)), (by first | rfl | (simp; done) | (simp [*]; done)), H', ⟨by have := HJ7.out; first | omega | exact Nat.le_refl _⟩, by repeat (first | exact Drawn0.refl _ | apply Drawn0.step)⟩
         ·rw [if_neg c12] at H
          have c12b0 : decide (224 ≤ (bt a0 a1)) = false := decide_eq_false c12
          clear c12
          (first | rw [c12b0] | (simp only [i64_w, i32_w]; rw [c12b0]) | skip)
          have H' := Aside0.mk H
          clear H
          go_wp2
          go_meet
          case rel => exact ⟨_, (false), (by first | rfl | (simp; done) | (simp [*]; done)), H', ⟨by have := HJ7.out; first | omega | exact Nat.le_refl _⟩, by repeat (first | exact Drawn0.refl _ | apply Drawn0.step)⟩
        case rest =>
         clear HC11
         try clear c1
         try clear p2
         try clear c3
         try clear c3b0
         try clear c4
         try clear c4b0
         try clear p5
         try clear q5
         try clear hx5
         try clear c7
         try clear c7b0
         try clear c9
         try clear c9b0
         try clear c10
         try clear c12
         try clear c12b0
         try clear p2
         try clear p5
         try clear q5
         obtain ⟨kq, x23_10, rfl, HA, HJ10, ⟨mc10, rfl⟩⟩ := hcut
         cases kq with
         | zero => exact absurd HA.out (by simp [spec_jWidth.j1])
         | succ kj10 =>
          have H := HA.out
          clear HA
          simp only [spec_jWidth.j1] at H
          by_cases c13 : x23_10 = true
          ·subst c13
           have H1 : (if (bt a0 a1) = 224 then (if (bt a0 a1) = 237 then (spec_jWidth.j3 kj10 a0 a1 3 160 159) else (spec_jWidth.j3 kj10 a0 a1 3 160 191)) else (if (bt a0 a1) = 237 then (spec_jWidth.j3 kj10 a0 a1 3 128 159) else (spec_jWidth.j3 kj10 a0 a1 3 128 191))) = some r := by rw [if_pos rfl] at H; exact H
           clear H
           have H := H1
           clear H1
           by_cases c14 : (bt a0 a1) = 224
           ·rw [if_pos c14] at H
            have c14b0 : ((bt a0 a1) == 224) = true := beq_iff_eq.mpr c14
            have c14b1 : ((bt a0 a1) != 224) = false := bne_eq_false_iff_eq.mpr c14
            clear c14
            by_cases c15 : (bt a0 a1) = 237
            ·rw [if_pos c15] at H
             have c15b0 : ((bt a0 a1) == 237) = true := beq_iff_eq.mpr c15
             have c15b1 : ((bt a0 a1) != 237) = false := bne_eq_false_iff_eq.mpr c15
             clear c15
             have H' := Aside0.mk H
             clear H
             go_wp2
             go_meet
             case rel => exact ⟨_, (3), (160), (159), (by first | rfl | (simp; done) | (simp [*]; done)), (by first | rfl | (simp; done) | (simp [*]; done)), (by first | rfl | (simp; done) | (simp [*]; done)), H', ⟨by have := HJ7.out; have := HJ10.out; first | omega | exact Nat.le_refl _⟩, by repeat (first | exact Drawn0.refl _ | apply Drawn0.step)⟩
            ·rw [if_neg c15] at H
             have c15b0 : ((bt a0 a1) == 237) = false := beq_eq_false_iff_ne.mpr c15
             have c15b1 : ((bt a0 a1) != 237) = true := bne_iff_ne.mpr c15
             have H' := Aside0.mk H
             clear H
             go_wp2
             go_meet
             case rel => exact ⟨_, (3), (160), (191), (by first | rfl | (simp; done) | (simp [*]; done)), (by first | rfl | (simp; done) | (simp [*]; done)), (by first | rfl | (simp; done) | (simp [*]; done)), H', ⟨by have := HJ7.out; have := HJ10.out; first | omega | exact Nat.le_refl _⟩, by repeat (first | exact Drawn0.refl _ | apply Drawn0.step)⟩
           ·rw [if_neg c14] at H
            have c14b0 : ((bt a0 a1) == 224) = false := beq_eq_false_iff_ne.mpr c14
            have c14b1 : ((bt a0 a1) != 224) = true := bne_iff_ne.mpr c14
            by_cases c16 : (bt a0 a1) = 237
            ·rw [if_pos c16] at H
             have c16b0 : ((bt a0 a1) == 237) = true := beq_iff_eq.mpr c16
             have c16b1 : ((bt a0 a1) != 237) = false := bne_eq_false_iff_eq.mpr c16
             clear c16
             have H' := Aside0.mk H
             clear H
             go_wp2
             go_meet
             case rel => exact ⟨_, (3), (128), (159), (by first | rfl | (simp; done) | (simp [*]; done)), (by first | rfl | (simp; done) | (simp [*]; done)), (by first | rfl | (simp; done) | (simp [*]; done)), H', ⟨by have := HJ7.out; have := HJ10.out; first | omega | exact Nat.le_refl _⟩, by repeat (first | exact Drawn0.refl _ | apply Drawn0.step)⟩
            ·rw [if_neg c16] at H
             have c16b0 : ((bt a0 a1) == 237) = false := beq_eq_false_iff_ne.mpr c16
             have c16b1 : ((bt a0 a1) != 237) = true := bne_iff_ne.mpr c16
             have H' := Aside0.mk H
             clear H
             go_wp2
             go_meet
             case rel => exact ⟨_, (3), (128), (191), (by first | rfl | (simp; done) | (simp [*]; done)), (by first | rfl | (simp; done) | (simp [*]; done)), (by first | rfl | (simp; done) | (simp [*]; done)), H', ⟨by have := HJ7.out; have := HJ10.out; first | omega | exact Nat.le_refl _⟩, by repeat (first | exact Drawn0.refl _ | apply Drawn0.step)⟩
          ·replace c13 := Bool.eq_false_iff.mpr c13
           subst c13
           have H1 : (if (bt a0 a1) ≥ 240 then (spec_jWidth.j2 kj10 a0 a1 (bt a0 a1) 128 191 (decide ((bt a0 a1) ≤ 244))) else (spec_jWidth.j2 kj10 a0 a1 (bt a0 a1) 128 191 false)) = some r := by rw [if_neg (show ¬ (false = true) by decide)] at H; exact H
           clear H
           have H := H1
           clear H1
           have HC17 := Aside0.mk H
           clear H
           go_upto_region 15 with (fail)
           go_cut [34] (fun v34 wc => ∃ (kq : Nat) (x34_16 : Bool), v34 = .bool x34_16 ∧ Aside0 (spec_jWidth.j2 kq a0 a1 (bt a0 a1) 128 191 x34_16 = some r) ∧ Aside0 (kq ≤ kj10) ∧ Drawn0 w wc)
           case first =>
            have H := HC17.out
            clear HC17
            by_cases c18 : (bt a0 a1) ≥ 240
            ·rw [if_pos c18] at H
             have c18b0 : decide (240 ≤ (bt a0 a1)) = true := decide_eq_true c18
             clear c18
             (first | rw [c18b0] | (simp only [i64_w, i32_w]; rw [c18b0]) | skip)
             have H' := Aside0.mk H
             clear H
             go_wp2
             go_meet
             case rel => exact ⟨_, (decide ((bt a0 a1) ≤ 244)), (by first | rfl | (simp; done) | (simp [*]; done)), H', ⟨by have := HJ7.out; have := HJ10.out; first | omega | exact Nat.le_refl _⟩, by repeat (first | exact Drawn0.refl _ | apply Drawn0.step)⟩
            ·rw [if_neg c18] at H
             have c18b0 : decide (240 ≤ (bt a0 a1)) = false := decide_eq_false c18
             clear c18
             (first | rw [c18b0] | (simp only [i64_w, i32_w]; rw [c18b0]) | skip)
             have H' := Aside0.mk H
             clear H
             go_wp2
             go_meet
             case rel => exact ⟨_, (false), (by first | rfl | (simp; done) | (simp [*]; done)), H', ⟨by have := HJ7.out; have := HJ10.out; first | omega | exact Nat.le_refl _⟩, by repeat (first | exact Drawn0.refl _ | apply Drawn0.step)⟩
           case rest =>
            clear HC17
            try clear c1
            try clear p2
            try clear c3
            try clear c3b0
            try clear c4
            try clear c4b0
            try clear p5
            try clear q5
            try clear hx5
            try clear c7
            try clear c7b0
            try clear c9
            try clear c9b0
            try clear c10
            try clear c12
            try clear c12b0
            try clear c13
            try clear c14
            try clear c14b0
            try clear c14b1
            try clear c15
            try clear c15b0
            try clear c15b1
            try clear c16
            try clear c16b0
            try clear c16b1
            try clear c18
            try clear c18b0
            try clear p2
            try clear p5
            try clear q5
            obtain ⟨kq, x34_16, rfl, HA, HJ16, ⟨mc16, rfl⟩⟩ := hcut
            cases kq with
            | zero => exact absurd HA.out (by simp [spec_jWidth.j2])
            | succ kj16 =>
             have H := HA.out
             clear HA
             simp only [spec_jWidth.j2] at H
             by_cases c19 : x34_16 = true
             ·subst c19
              have H1 : (if (bt a0 a1) = 240 then (if (bt a0 a1) = 244 then (spec_jWidth.j3 kj16 a0 a1 4 144 143) else (spec_jWidth.j3 kj16 a0 a1 4 144 191)) else (if (bt a0 a1) = 244 then (spec_jWidth.j3 kj16 a0 a1 4 128 143) else (spec_jWidth.j3 kj16 a0 a1 4 128 191))) = some r := by rw [if_pos rfl] at H; exact H
              clear H
              have H := H1
              clear H1
              by_cases c20 : (bt a0 a1) = 240
              ·rw [if_pos c20] at H
               have c20b0 : ((bt a0 a1) == 240) = true := beq_iff_eq.mpr c20
               have c20b1 : ((bt a0 a1) != 240) = false := bne_eq_false_iff_eq.mpr c20
               clear c20
               by_cases c21 : (bt a0 a1) = 244
               ·rw [if_pos c21] at H
                have c21b0 : ((bt a0 a1) == 244) = true := beq_iff_eq.mpr c21
                have c21b1 : ((bt a0 a1) != 244) = false := bne_eq_false_iff_eq.mpr c21
                clear c21
                have H' := Aside0.mk H
                clear H
                go_wp2
                go_meet
                case rel => exact ⟨_, (4), (144), (143), (by first | rfl | (simp; done) | (simp [*]; done)), (by first | rfl | (simp; done) | (simp [*]; done)), (by first | rfl | (simp; done) | (simp [*]; done)), H', ⟨by have := HJ7.out; have := HJ10.out; have := HJ16.out; first | omega | exact Nat.le_refl _⟩, by repeat (first | exact Drawn0.refl _ | apply Drawn0.step)⟩
               ·rw [if_neg c21] at H
                have c21b0 : ((bt a0 a1) == 244) = false := beq_eq_false_iff_ne.mpr c21
                have c21b1 : ((bt a0 a1) != 244) = true := bne_iff_ne.mpr c21
                have H' := Aside0.mk H
                clear H
                go_wp2
                go_meet
                case rel => exact ⟨_, (4), (144), (191), (by first | rfl | (simp; done) | (simp [*]; done)), (by first | rfl | (simp; done) | (simp [*]; done)), (by first | rfl | (simp; done) | (simp [*]; done)), H', ⟨by have := HJ7.out; have := HJ10.out; have := HJ16.out; first | omega | exact Nat.le_refl _⟩, by repeat (first | exact Drawn0.refl _ | apply Drawn0.step)⟩
              ·rw [if_neg c20] at H
               have c20b0 : ((bt a0 a1) == 240) = false := beq_eq_false_iff_ne.mpr c20
               have c20b1 : ((bt a0 a1) != 240) = true := bne_iff_ne.mpr c20
               by_cases c22 : (bt a0 a1) = 244
               ·rw [if_pos c22] at H
                have c22b0 : ((bt a0 a1) == 244) = true := beq_iff_eq.mpr c22
                have c22b1 : ((bt a0 a1) != 244) = false := bne_eq_false_iff_eq.mpr c22
                clear c22
                have H' := Aside0.mk H
                clear H
                go_wp2
                go_meet
                case rel => exact ⟨_, (4), (128), (143), (by first | rfl | (simp; done) | (simp [*]; done)), (by first | rfl | (simp; done) | (simp [*]; done)), (by first | rfl | (simp; done) | (simp [*]; done)), H', ⟨by have := HJ7.out; have := HJ10.out; have := HJ16.out; first | omega | exact Nat.le_refl _⟩, by repeat (first | exact Drawn0.refl _ | apply Drawn0.step)⟩
               ·rw [if_neg c22] at H
                have c22b0 : ((bt a0 a1) == 244) = false := beq_eq_false_iff_ne.mpr c22
                have c22b1 : ((bt a0 a1) != 244) = true := bne_iff_ne.mpr c22
                have H' := Aside0.mk H
                clear H
                go_wp2
                go_meet
                case rel => exact ⟨_, (4), (128), (191), (by first | rfl | (simp; done) | (simp [*]; done)), (by first | rfl | (simp; done) | (simp [*]; done)), (by first | rfl | (simp; done) | (simp [*]; done)), H', ⟨by have := HJ7.out; have := HJ10.out; have := HJ16.out; first | omega | exact Nat.le_refl _⟩, by repeat (first | exact Drawn0.refl _ | apply Drawn0.step)⟩
             ·replace c19 := Bool.eq_false_iff.mpr c19
              subst c19
              have H1 : (some 0) = some r := by rw [if_neg (show ¬ (false = true) by decide)] at H; exact H
              clear H
              have H := H1
              clear H1
              obtain rfl := Option.some.inj H
              go_wp2
              go_ret
              exact ⟨by first | rfl | (simp; done) | (simp [*]; done), by repeat (first | exact Drawn0.refl _ | apply Drawn0.step)⟩
   case rest =>
    clear HC6
    try clear c1
    try clear c2
    try clear p2
    try clear c3
    try clear c3b0
    try clear c4
    try clear c4b0
    try clear p5
    try clear q5
    try clear hx5
    try clear c7
    try clear c7b0
    try clear c9
    try clear c9b0
    try clear c10
    try clear c12
    try clear c12b0
    try clear c13
    try clear c14
    try clear c14b0
    try clear c14b1
    try clear c15
    try clear c15b0
    try clear c15b1
    try clear c16
    try clear c16b0
    try clear c16b1
    try clear c18
    try clear c18b0
    try clear c19
    try clear c20
    try clear c20b0
    try clear c20b1
    try clear c21
    try clear c21b0
    try clear c21b1
    try clear c22
    try clear c22b0
    try clear c22b1
    try clear p2
    try clear p5
    try clear q5
    obtain ⟨kq, x6_5, x7_5, x8_5, rfl, rfl, rfl, HA, HJ5, ⟨mc5, rfl⟩⟩ := hcut
    cases kq with
    | zero => exact absurd HA.out (by simp [spec_jWidth.j3])
    | succ kj5 =>
     have H := HA.out
     clear HA
     simp only [spec_jWidth.j3] at H
     have HC23 := Aside0.mk H
     clear H
     go_upto_region 21 with (fail)
     go_cut [66] (fun v66 wc => ∃ (kq : Nat) (x66_22 : Bool), v66 = .bool x66_22 ∧ Aside0 (spec_jWidth.j4 kq a0 a1 x6_5 x66_22 = some r) ∧ Aside0 (kq ≤ kj5) ∧ Drawn0 w wc)
     case first =>
      have H := HC23.out
      clear HC23
      by_cases c24 : (wrap64 (a1 + x6_5)) > (a0.size : Int)
      ·rw [if_pos c24] at H
       have c24b0 : decide ((a0.size : Int) < (wrap64 (a1 + x6_5))) = true := decide_eq_true c24
       clear c24
       (first | rw [c24b0] | (simp only [i64_w, i32_w]; rw [c24b0]) | skip)
       have H' := Aside0.mk H
       clear H
       go_wp2
       go_meet
       case rel => exact ⟨_, (true), (by first | rfl | (simp; done) | (simp [*]; done)), H', ⟨by have := HJ5.out; first | omega | exact Nat.le_refl _⟩, by repeat (first | exact Drawn0.refl _ | apply Drawn0.step)⟩
      ·rw [if_neg c24] at H
       have c24b0 : decide ((a0.size : Int) < (wrap64 (a1 + x6_5))) = false := decide_eq_false c24
       clear c24
       (first | rw [c24b0] | (simp only [i64_w, i32_w]; rw [c24b0]) | skip)
       obtain ⟨ji25, hji25⟩ : ∃ j_ : Int, (wrap64 (a1 + 1)) = j_ := ⟨_, rfl⟩
       replace H : (if 0 ≤ (ji25) then (if (ji25) < (a0.size : Int) then (if (bt a0 (ji25)) < x7_5 then (spec_jWidth.j4 kj5 a0 a1 x6_5 true) else (spec_jWidth.j4 kj5 a0 a1 x6_5 (decide ((bt a0 (ji25)) > x8_5)))) else (none)) else (none)) = some r := by first | (rw [hji25] at H; exact H) | (simp only [hji25] at H ⊢; exact H)
       have hji25w : (IntKind.i64.wrap (a1 + 1)) = ji25 := (i64_w _).trans hji25
       by_cases c26 : 0 ≤ (ji25)
       ·rw [if_pos c26] at H
        have c26b0 : decide (0 ≤ (ji25)) = true := decide_eq_true c26
        clear c26
        by_cases c27 : (ji25) < (a0.size : Int)
        ·rw [if_pos c27] at H
         have c27b0 : decide ((ji25) < (a0.size : Int)) = true := decide_eq_true c27
         clear c27
         by_cases c29 : (bt a0 (ji25)) < x7_5
         ·rw [if_pos c29] at H
          have c29b0 : decide ((bt a0 (ji25)) < x7_5) = true := decide_eq_true c29
          clear c29
          have H' := Aside0.mk H
          clear H
          have p28 : 0 ≤ ((ji25) : Int) := of_decide_eq_true (by first | (with_reducible assumption) | assumption)
          have q28 : (ji25) < (a0.size : Int) := of_decide_eq_true (by first | (with_reducible assumption) | assumption)
          have hx28 := bt_at a0 (ji25)
          replace p28 := eq_true p28
          replace q28 := eq_true q28
          go_wp2
          go_meet
          case rel => exact ⟨_, (true), (by first | rfl | (simp; done) | (simp [*]; done)), H', ⟨by have := HJ5.out; first | omega | exact Nat.le_refl _⟩, by repeat (first | exact Drawn0.refl _ | apply Drawn0.step)⟩
         ·rw [if_neg c29] at H
          have c29b0 : decide ((bt a0 (ji25)) < x7_5) = false := decide_eq_false c29
          clear c29
          have H' := Aside0.mk H
          clear H
          have p28 : 0 ≤ ((ji25) : Int) := of_decide_eq_true (by first | (with_reducible assumption) | assumption)
          have q28 : (ji25) < (a0.size : Int) := of_decide_eq_true (by first | (with_reducible assumption) | assumption)
          have hx28 := bt_at a0 (ji25)
          replace p28 := eq_true p28
          replace q28 := eq_true q28
          have p30 : 0 ≤ ((ji25) : Int) := of_decide_eq_true (by first | (with_reducible assumption) | assumption)
          have q30 : (ji25) < (a0.size : Int) := of_decide_eq_true (by first | (with_reducible assumption) | assumption)
          have hx30 := bt_at a0 (ji25)
          replace p30 := eq_true p30
          replace q30 := eq_true q30
          go_wp2
          go_meet
          case rel => exact ⟨_, (decide ((bt a0 (ji25)) > x8_5)), (by first | rfl | (simp; done) | (simp only [← hji25] <;> (first | rfl | simp)) | (simp [*]; done)), H', ⟨by have := HJ5.out; first | omega | exact Nat.le_refl _⟩, by repeat (first | exact Drawn0.refl _ | apply Drawn0.step)⟩
        ·rw [if_neg c27] at H
         exact absurd H (by simp)
       ·rw [if_neg c26] at H
        exact absurd H (by simp)
     case rest =>
      clear HC23
      try clear c1
      try clear c2
      try clear p2
      try clear q2
      try clear hx2
      try clear c3
      try clear c3b0
      try clear p3
      try clear q3
      try clear hx3
      try clear c4
      try clear c4b0
      try clear c5
      try clear p5
      try clear q5
      try clear hx5
      try clear p6
      try clear c7
      try clear c7b0
      try clear c9
      try clear c9b0
      try clear c10
      try clear c12
      try clear c12b0
      try clear c13
      try clear c14
      try clear c14b0
      try clear c14b1
      try clear c15
      try clear c15b0
      try clear c15b1
      try clear c16
      try clear c16b0
      try clear c16b1
      try clear c18
      try clear c18b0
      try clear c19
      try clear c20
      try clear c20b0
      try clear c20b1
      try clear c21
      try clear c21b0
      try clear c21b1
      try clear c22
      try clear c22b0
      try clear c22b1
      try clear c24
      try clear c24b0
      try clear c26
      try clear c26b0
      try clear c27
      try clear c27b0
      try clear p28
      try clear q28
      try clear hx28
      try clear c29
      try clear c29b0
      try clear p30
      try clear q30
      try clear hx30
      try clear p2
      try clear p28
      try clear p30
      try clear p5
      try clear q28
      try clear q30
      try clear q5
      obtain ⟨kq, x66_22, rfl, HA, HJ22, ⟨mc22, rfl⟩⟩ := hcut
      cases kq with
      | zero => exact absurd HA.out (by simp [spec_jWidth.j4])
      | succ kj22 =>
       have H := HA.out
       clear HA
       simp only [spec_jWidth.j4] at H
       by_cases c31 : x66_22 = true
       ·subst c31
        have H1 : (some 0) = some r := by rw [if_pos rfl] at H; exact H
        clear H
        have H := H1
        clear H1
        obtain rfl := Option.some.inj H
        go_wp2
        go_ret
        exact ⟨by first | rfl | (simp; done) | (simp [*]; done), by repeat (first | exact Drawn0.refl _ | apply Drawn0.step)⟩
       ·replace c31 := Bool.eq_false_iff.mpr c31
        subst c31
        have H1 : (spec_jWidth.l0 kj22 a0 a1 x6_5 2) = some r := by rw [if_neg (show ¬ (false = true) by decide)] at H; exact H
        clear H
        have H := H1
        clear H1
        have H' := Aside0.mk H
        clear H
        go_wp2
        go_loopg [9] kj22 (fun kq v9 w' => ∃ (x9_3 : Int), v9 = .int .i64 x9_3 ∧ Aside0 (spec_jWidth.l0 kq a0 a1 x6_5 x9_3 = some r) ∧ Aside0 (kq ≤ kj22) ∧ Drawn0 w w')
        case atStart => exact ⟨(2), (by first | rfl | (simp; done) | (simp [*]; done)), H', ⟨Nat.le_refl _⟩, by repeat (first | exact Drawn0.refl _ | apply Drawn0.step)⟩
        case round =>
         clear H'
         try clear c1
         try clear c2
         try clear p2
         try clear q2
         try clear hx2
         try clear c3
         try clear c3b0
         try clear p3
         try clear q3
         try clear hx3
         try clear c4
         try clear c4b0
         try clear c5
         try clear p5
         try clear q5
         try clear hx5
         try clear p6
         try clear c7
         try clear c7b0
         try clear c9
         try clear c9b0
         try clear c10
         try clear c12
         try clear c12b0
         try clear c13
         try clear c14
         try clear c14b0
         try clear c14b1
         try clear c15
         try clear c15b0
         try clear c15b1
         try clear c16
         try clear c16b0
         try clear c16b1
         try clear c18
         try clear c18b0
         try clear c19
         try clear c20
         try clear c20b0
         try clear c20b1
         try clear c21
         try clear c21b0
         try clear c21b1
         try clear c22
         try clear c22b0
         try clear c22b1
         try clear c24
         try clear c24b0
         try clear c26
         try clear c26b0
         try clear c27
         try clear c27b0
         try clear p28
         try clear q28
         try clear hx28
         try clear c29
         try clear c29b0
         try clear p30
         try clear q30
         try clear hx30
         try clear c31
         try clear p2
         try clear p28
         try clear p3
         try clear p30
         try clear p5
         try clear p6
         try clear q2
         try clear q28
         try clear q3
         try clear q30
         try clear q5
         obtain ⟨x9_3, rfl, HA, HK3, ⟨m3, rfl⟩⟩ := hrel
         cases gk with
         | zero => exact absurd HA.out (by simp [spec_jWidth.l0])
         | succ k3 =>
          have H := HA.out
          clear HA
          simp only [spec_jWidth.l0] at H
          by_cases c32 : x9_3 < x6_5
          ·rw [if_pos c32] at H
           have c32b0 : decide (x9_3 < x6_5) = true := decide_eq_true c32
           clear c32
           obtain ⟨ji33, hji33⟩ : ∃ j_ : Int, (wrap64 (a1 + x9_3)) = j_ := ⟨_, rfl⟩
           replace H : (if 0 ≤ (ji33) then (if (ji33) < (a0.size : Int) then (if (bt a0 (ji33)) < 128 then (some 0) else (if (bt a0 (ji33)) > 191 then (some 0) else (spec_jWidth.l0 k3 a0 a1 x6_5 (wrap64 (x9_3 + 1))))) else (none)) else (none)) = some r := by first | (rw [hji33] at H; exact H) | (simp only [hji33] at H ⊢; exact H)
           have hji33w : (IntKind.i64.wrap (a1 + x9_3)) = ji33 := (i64_w _).trans hji33
           by_cases c34 : 0 ≤ (ji33)
           ·rw [if_pos c34] at H
            have c34b0 : decide (0 ≤ (ji33)) = true := decide_eq_true c34
            clear c34
            by_cases c35 : (ji33) < (a0.size : Int)
            ·rw [if_pos c35] at H
             have c35b0 : decide ((ji33) < (a0.size : Int)) = true := decide_eq_true c35
             clear c35
             by_cases c37 : (bt a0 (ji33)) < 128
             ·rw [if_pos c37] at H
              have c37b0 : decide ((bt a0 (ji33)) < 128) = true := decide_eq_true c37
              clear c37
              obtain rfl := Option.some.inj H
              have p36 : 0 ≤ ((ji33) : Int) := of_decide_eq_true (by first | (with_reducible assumption) | assumption)
              have q36 : (ji33) < (a0.size : Int) := of_decide_eq_true (by first | (with_reducible assumption) | assumption)
              have hx36 := bt_at a0 (ji33)
              replace p36 := eq_true p36
              replace q36 := eq_true q36
              go_wp2
              go_ret
              exact ⟨by first | rfl | (simp; done) | (simp only [← hji33] <;> (first | rfl | simp)) | (simp [*]; done), by repeat (first | exact Drawn0.refl _ | apply Drawn0.step)⟩
             ·rw [if_neg c37] at H
              have c37b0 : decide ((bt a0 (ji33)) < 128) = false := decide_eq_false c37
              clear c37
              by_cases c39 : (bt a0 (ji33)) > 191
              ·rw [if_pos c39] at H
               have c39b0 : decide (191 < (bt a0 (ji33))) = true := decide_eq_true c39
               clear c39
               obtain rfl := Option.some.inj H
               have p36 : 0 ≤ ((ji33) : Int) := of_decide_eq_true (by first | (with_reducible assumption) | assumption)
               have q36 : (ji33) < (a0.size : Int) := of_decide_eq_true (by first | (with_reducible assumption) | assumption)
               have hx36 := bt_at a0 (ji33)
               replace p36 := eq_true p36
               replace q36 := eq_true q36
               have p38 : 0 ≤ ((ji33) : Int) := of_decide_eq_true (by first | (with_reducible assumption) | assumption)
               have q38 : (ji33) < (a0.size : Int) := of_decide_eq_true (by first | (with_reducible assumption) | assumption)
               have hx38 := bt_at a0 (ji33)
               replace p38 := eq_true p38
               replace q38 := eq_true q38
               go_wp2
               go_ret
               exact ⟨by first | rfl | (simp; done) | (simp only [← hji33] <;> (first | rfl | simp)) | (simp [*]; done), by repeat (first | exact Drawn0.refl _ | apply Drawn0.step)⟩
              ·rw [if_neg c39] at H
               have c39b0 : decide (191 < (bt a0 (ji33))) = false := decide_eq_false c39
               clear c39
               have H' := Aside0.mk H
               clear H
               have p36 : 0 ≤ ((ji33) : Int) := of_decide_eq_true (by first | (with_reducible assumption) | assumption)
               have q36 : (ji33) < (a0.size : Int) := of_decide_eq_true (by first | (with_reducible assumption) | assumption)
               have hx36 := bt_at a0 (ji33)
               replace p36 := eq_true p36
               replace q36 := eq_true q36
               have p38 : 0 ≤ ((ji33) : Int) := of_decide_eq_true (by first | (with_reducible assumption) | assumption)
               have q38 : (ji33) < (a0.size : Int) := of_decide_eq_true (by first | (with_reducible assumption) | assumption)
               have hx38 := bt_at a0 (ji33)
               replace p38 := eq_true p38
               replace q38 := eq_true q38
               go_wp2
               go_roundg k3
               case measure => have := HJ5.out; have := HJ22.out; have := HK3.out; omega
               case rel => exact ⟨(wrap64 (x9_3 + 1)), (by first | rfl | (simp; done) | (simp [*]; done)), H', ⟨by have := HJ5.out; have := HJ22.out; have := HK3.out; omega⟩, by repeat (first | exact Drawn0.refl _ | apply Drawn0.step)⟩
            ·rw [if_neg c35] at H
             exact absurd H (by simp)
           ·rw [if_neg c34] at H
            exact absurd H (by simp)
          ·rw [if_neg c32] at H
           have c32b0 : decide (x9_3 < x6_5) = false := decide_eq_false c32
           clear c32
           obtain rfl := Option.some.inj H
           go_wp2
           go_ret
           exact ⟨by first | rfl | (simp; done) | (simp [*]; done), by repeat (first | exact Drawn0.refl _ | apply Drawn0.step)⟩
  ·rw [if_neg c4] at H
   exact absurd H (by simp)
 ·rw [if_neg c3] at H
  exact absurd H (by simp)
end Go.Proofs.YtlkikblohnnlcaaGreatDoor.R
end
section
namespace Go.Proofs.YtlkikblohnnlcaaGreatDoor.R
open Go.RowKit Go.Proofs.YtlkikblohnnlcaaGreatDoorW.PrintWords Go.Proofs.YtlkikblohnnlcaaGreatDoorW.PrintLast Go.Proofs.YtlkikblohnnlcaaGreatDoorW.PrintMore
attribute [local go_sem] max2_int min2_int max_two min_two max_three min_three max_four min_four
set_option linter.unusedVariables false
set_option linter.unusedSimpArgs false
def spec_JUtf8.l0 : Nat → ByteArray → Int → Option (Bool)
 | 0, _, _ => none
 | k + 1, x0, x3 => if x3 < (x0.size : Int) then ((spec_jWidth.f k x0 x3).bind fun t104 => (if t104 = 0 then (some false) else (spec_JUtf8.l0 k x0 (wrap64 (x3 + t104))))) else (some true)
def spec_JUtf8.f (k : Nat) (a0 : ByteArray) : Option (Bool) := spec_JUtf8.l0 k a0 0
set_option maxHeartbeats 8000000 in
set_option maxRecDepth 100000 in
theorem spec_JUtf8.calls (k : Nat) (a0 : ByteArray) (r : Bool) (w : World) (h : spec_JUtf8.f k a0 = some r) :
  Calls Tryz.prog 23 #[.string a0] w fun e w' => e = .returned (.bool r) ∧ Drawn0 w w' := by
 have H : (spec_JUtf8.l0 k a0 0) = some r := h
 clear h
 have H' := Aside0.mk H
 clear H
 go_enter Tryz.func23, Tryz.ntmps23
 go_wp2
 go_loopg [3] k (fun kq v3 w' => ∃ (x3_1 : Int), v3 = .int .i64 x3_1 ∧ Aside0 (spec_JUtf8.l0 kq a0 x3_1 = some r) ∧ Aside0 (kq ≤ k) ∧ Drawn0 w w')
 case atStart => exact ⟨(0), (by first | rfl | (simp; done) | (simp [*]; done)), H', ⟨Nat.le_refl _⟩, by repeat (first | exact Drawn0.refl _ | apply Drawn0.step)⟩
 case round =>
  clear H'
  obtain ⟨x3_1, rfl, HA, HK1, ⟨m1, rfl⟩⟩ := hrel
  cases gk with
  | zero => exact absurd HA.out (by simp [spec_JUtf8.l0])
  | succ k1 =>
   have H := HA.out
   clear HA
   simp only [spec_JUtf8.l0] at H
   by_cases c2 : x3_1 < (a0.size : Int)
   ·rw [if_pos c2] at H
    have c2b0 : decide (x3_1 < (a0.size : Int)) = true := decide_eq_true c2
    clear c2
    replace H := Option.bind_eq_some_iff.mp H
    obtain ⟨t104, A30, H⟩ := H
    replace H : (if t104 = 0 then (some false) else (spec_JUtf8.l0 k1 a0 (wrap64 (x3_1 + t104)))) = some r := H
    have A3 := Aside0.mk A30
    clear A30
    by_cases c4 : t104 = 0
    ·rw [if_pos c4] at H
     have c4b0 : (t104 == 0) = true := beq_iff_eq.mpr c4
     have c4b1 : (t104 != 0) = false := bne_eq_false_iff_eq.mpr c4
     clear c4
     obtain rfl := Option.some.inj H
     go_wp2_with (first | ((with_reducible refine gate_callee (f := 45) rfl ?_); refine goesL_ (some 11) J J Tryz.func45 (by kernel_rfl) rfl #[.string a0, .int .i64 x3_1] rfl (by (try simp only [List.map_toArray, List.map_cons, List.map_nil]); first | done | rfl | (simp only [List.length_drop, List.length_take]; rfl)) ?_; (with_reducible refine (spec_jWidth.calls k1 a0 x3_1 t104 _ A3.out).mono ?_); rintro e w' ⟨rfl, ⟨nd, rfl⟩⟩; refine ⟨_, rfl, ?_⟩))
     go_ret
     exact ⟨by first | rfl | (simp; done) | (simp [*]; done), by repeat (first | exact Drawn0.refl _ | apply Drawn0.step)⟩
    ·rw [if_neg c4] at H
     have c4b0 : (t104 == 0) = false := beq_eq_false_iff_ne.mpr c4
     have c4b1 : (t104 != 0) = true := bne_iff_ne.mpr c4
     have H' := Aside0.mk H
     clear H
     go_wp2_with (first | ((with_reducible refine gate_callee (f := 45) rfl ?_); refine goesL_ (some 11) J J Tryz.func45 (by kernel_rfl) rfl #[.string a0, .int .i64 x3_1] rfl (by (try simp only [List.map_toArray, List.map_cons, List.map_nil]); first | done | rfl | (simp only [List.length_drop, List.length_take]; rfl)) ?_; (with_reducible refine (spec_jWidth.calls k1 a0 x3_1 t104 _ A3.out).mono ?_); rintro e w' ⟨rfl, ⟨nd, rfl⟩⟩; refine ⟨_, rfl, ?_⟩))
     go_roundg k1
     case measure => have := HK1.out; omega
     case rel => exact ⟨(wrap64 (x3_1 + t104)), (by first | rfl | (simp; done) | (simp [*]; done)), H', ⟨by have := HK1.out; omega⟩, by repeat (first | exact Drawn0.refl _ | apply Drawn0.step)⟩
   ·rw [if_neg c2] at H
    have c2b0 : decide (x3_1 < (a0.size : Int)) = false := decide_eq_false c2
    clear c2
    obtain rfl := Option.some.inj H
    go_wp2
    go_ret
    exact ⟨by first | rfl | (simp; done) | (simp [*]; done), by repeat (first | exact Drawn0.refl _ | apply Drawn0.step)⟩
def spec_jDigit.f (a0 : Int) : Option (Bool) := if a0 ≥ 48 then (some (decide (a0 ≤ 57))) else (some false)
set_option maxHeartbeats 8000000 in
set_option maxRecDepth 100000 in
theorem spec_jDigit.calls (a0 : Int) (r : Bool) (w : World) (h : spec_jDigit.f a0 = some r) :
  Calls Tryz.prog 125 #[.int .u8 a0] w fun e w' => e = .returned (.bool r) ∧ Drawn0 w w' := by
 have H : (if a0 ≥ 48 then (some (decide (a0 ≤ 57))) else (some false)) = some r := h
 clear h
 by_cases c2 : a0 ≥ 48
 ·rw [if_pos c2] at H
  have c2b0 : decide (48 ≤ a0) = true := decide_eq_true c2
  clear c2
  obtain rfl := Option.some.inj H
  go_enter Tryz.func125, Tryz.ntmps125
  go_wp2
  go_ret
  exact ⟨by first | rfl | (simp; done) | (simp [*]; done), by repeat (first | exact Drawn0.refl _ | apply Drawn0.step)⟩
 ·rw [if_neg c2] at H
  have c2b0 : decide (48 ≤ a0) = false := decide_eq_false c2
  clear c2
  obtain rfl := Option.some.inj H
  go_enter Tryz.func125, Tryz.ntmps125
  go_wp2
  go_ret
  exact ⟨by first | rfl | (simp; done) | (simp [*]; done), by repeat (first | exact Drawn0.refl _ | apply Drawn0.step)⟩
def spec_jDigits.l0 : Nat → ByteArray → Int → Option (Bool)
 | 0, _, _ => none
 | k + 1, x0, x3 => if x3 < (x0.size : Int) then (if 0 ≤ x3 then ((spec_jDigit.f (bt x0 x3)).bind fun t105 => (if t105 = true then (spec_jDigits.l0 k x0 (wrap64 (x3 + 1))) else (some false))) else (none)) else (some (decide ((x0.size : Int) > 0)))
def spec_jDigits.f (k : Nat) (a0 : ByteArray) : Option (Bool) := spec_jDigits.l0 k a0 0
set_option maxHeartbeats 8000000 in
set_option maxRecDepth 100000 in
theorem spec_jDigits.calls (k : Nat) (a0 : ByteArray) (r : Bool) (w : World) (h : spec_jDigits.f k a0 = some r) :
  Calls Tryz.prog 83 #[.string a0] w fun e w' => e = .returned (.bool r) ∧ Drawn0 w w' := by
 have H : (spec_jDigits.l0 k a0 0) = some r := h
 clear h
 have H' := Aside0.mk H
 clear H
 go_enter Tryz.func83, Tryz.ntmps83
 go_wp2
 go_loopg [3] k (fun kq v3 w' => ∃ (x3_1 : Int), v3 = .int .i64 x3_1 ∧ Aside0 (spec_jDigits.l0 kq a0 x3_1 = some r) ∧ Aside0 (kq ≤ k) ∧ Drawn0 w w')
 case atStart => exact ⟨(0), (by first | rfl | (simp; done) | (simp [*]; done)), H', ⟨Nat.le_refl _⟩, by repeat (first | exact Drawn0.refl _ | apply Drawn0.step)⟩
 case round =>
  clear H'
  obtain ⟨x3_1, rfl, HA, HK1, ⟨m1, rfl⟩⟩ := hrel
  cases gk with
  | zero => exact absurd HA.out (by simp [spec_jDigits.l0])
  | succ k1 =>
   have H := HA.out
   clear HA
   simp only [spec_jDigits.l0] at H
   by_cases c2 : x3_1 < (a0.size : Int)
   ·rw [if_pos c2] at H
    have c2b0 : decide (x3_1 < (a0.size : Int)) = true := decide_eq_true c2
    clear c2
    by_cases c3 : 0 ≤ x3_1
    ·rw [if_pos c3] at H
     have c3b0 : decide (0 ≤ x3_1) = true := decide_eq_true c3
     clear c3
     replace H := Option.bind_eq_some_iff.mp H
     obtain ⟨t105, A50, H⟩ := H
     replace H : (if t105 = true then (spec_jDigits.l0 k1 a0 (wrap64 (x3_1 + 1))) else (some false)) = some r := H
     have A5 := Aside0.mk A50
     clear A50
     by_cases c6 : t105 = true
     ·subst c6
      have H1 : (spec_jDigits.l0 k1 a0 (wrap64 (x3_1 + 1))) = some r := by rw [if_pos rfl] at H; exact H
      clear H
      have H := H1
      clear H1
      have H' := Aside0.mk H
      clear H
      have p4 : 0 ≤ (x3_1 : Int) := of_decide_eq_true (by first | (with_reducible assumption) | assumption)
      have q4 : x3_1 < (a0.size : Int) := of_decide_eq_true (by first | (with_reducible assumption) | assumption)
      have hx4 := bt_at a0 x3_1
      replace p4 := eq_true p4
      replace q4 := eq_true q4
      go_wp2_with (first | ((with_reducible refine gate_callee (f := 125) rfl ?_); refine goesL_ (some 13) J J Tryz.func125 (by kernel_rfl) rfl #[.int .u8 (bt a0 x3_1)] rfl (by (try simp only [List.map_toArray, List.map_cons, List.map_nil]); first | done | rfl | (simp only [List.length_drop, List.length_take]; rfl)) ?_; (with_reducible refine (spec_jDigit.calls (bt a0 x3_1) true _ A5.out).mono ?_); rintro e w' ⟨rfl, ⟨nd, rfl⟩⟩; refine ⟨_, rfl, ?_⟩))
      go_roundg k1
      case measure => have := HK1.out; omega
      case rel => exact ⟨(wrap64 (x3_1 + 1)), (by first | rfl | (simp; done) | (simp [*]; done)), H', ⟨by have := HK1.out; omega⟩, by repeat (first | exact Drawn0.refl _ | apply Drawn0.step)⟩
     ·replace c6 := Bool.eq_false_iff.mpr c6
      subst c6
      have H1 : (some false) = some r := by rw [if_neg (show ¬ (false = true) by decide)] at H; exact H
      clear H
      have H := H1
      clear H1
      obtain rfl := Option.some.inj H
      have p4 : 0 ≤ (x3_1 : Int) := of_decide_eq_true (by first | (with_reducible assumption) | assumption)
      have q4 : x3_1 < (a0.size : Int) := of_decide_eq_true (by first | (with_reducible assumption) | assumption)
      have hx4 := bt_at a0 x3_1
      replace p4 := eq_true p4
      replace q4 := eq_true q4
      go_wp2_with (first | ((with_reducible refine gate_callee (f := 125) rfl ?_); refine goesL_ (some 13) J J Tryz.func125 (by kernel_rfl) rfl #[.int .u8 (bt a0 x3_1)] rfl (by (try simp only [List.map_toArray, List.map_cons, List.map_nil]); first | done | rfl | (simp only [List.length_drop, List.length_take]; rfl)) ?_; (with_reducible refine (spec_jDigit.calls (bt a0 x3_1) false _ A5.out).mono ?_); rintro e w' ⟨rfl, ⟨nd, rfl⟩⟩; refine ⟨_, rfl, ?_⟩))
      go_ret
      exact ⟨by first | rfl | (simp; done) | (simp [*]; done), by repeat (first | exact Drawn0.refl _ | apply Drawn0.step)⟩
    ·rw [if_neg c3] at H
     exact absurd H (by simp)
   ·rw [if_neg c2] at H
    have c2b0 : decide (x3_1 < (a0.size : Int)) = false := decide_eq_false c2
    clear c2
    obtain rfl := Option.some.inj H
    go_wp2
    go_ret
    exact ⟨by first | rfl | (simp; done) | (simp [*]; done), by repeat (first | exact Drawn0.refl _ | apply Drawn0.step)⟩
def spec_jPlain.f (k : Nat) (a0 : ByteArray) : Option (Bool) := (spec_jDigits.f k a0).bind fun t106 => (if t106 = true then (if (a0.size : Int) = 1 then (some true) else (if 0 < (a0.size : Int) then (some ((bt a0 0) != 48)) else (none))) else (some false))
set_option maxHeartbeats 8000000 in
set_option maxRecDepth 100000 in
theorem spec_jPlain.calls (k : Nat) (a0 : ByteArray) (r : Bool) (w : World) (h : spec_jPlain.f k a0 = some r) :
  Calls Tryz.prog 43 #[.string a0] w fun e w' => e = .returned (.bool r) ∧ Drawn0 w w' := by
 have H : ((spec_jDigits.f k a0).bind fun t106 => (if t106 = true then (if (a0.size : Int) = 1 then (some true) else (if 0 < (a0.size : Int) then (some ((bt a0 0) != 48)) else (none))) else (some false))) = some r := h
 clear h
 replace H := Option.bind_eq_some_iff.mp H
 obtain ⟨t106, A20, H⟩ := H
 replace H : (if t106 = true then (if (a0.size : Int) = 1 then (some true) else (if 0 < (a0.size : Int) then (some ((bt a0 0) != 48)) else (none))) else (some false)) = some r := H
 have A2 := Aside0.mk A20
 clear A20
 by_cases c3 : t106 = true
 ·subst c3
  have H1 : (if (a0.size : Int) = 1 then (some true) else (if 0 < (a0.size : Int) then (some ((bt a0 0) != 48)) else (none))) = some r := by rw [if_pos rfl] at H; exact H
  clear H
  have H := H1
  clear H1
  by_cases c4 : (a0.size : Int) = 1
  ·rw [if_pos c4] at H
   have c4b0 : ((a0.size : Int) == 1) = true := beq_iff_eq.mpr c4
   have c4b1 : ((a0.size : Int) != 1) = false := bne_eq_false_iff_eq.mpr c4
   clear c4
   obtain rfl := Option.some.inj H
   go_enter Tryz.func43, Tryz.ntmps43
   go_wp2_with (first | ((with_reducible refine gate_callee (f := 83) rfl ?_); refine goesL_ (some 4) J J Tryz.func83 (by kernel_rfl) rfl #[.string a0] rfl (by (try simp only [List.map_toArray, List.map_cons, List.map_nil]); first | done | rfl | (simp only [List.length_drop, List.length_take]; rfl)) ?_; (with_reducible refine (spec_jDigits.calls k a0 true _ A2.out).mono ?_); rintro e w' ⟨rfl, ⟨nd, rfl⟩⟩; refine ⟨_, rfl, ?_⟩))
   go_ret
   exact ⟨by first | rfl | (simp; done) | (simp [*]; done), by repeat (first | exact Drawn0.refl _ | apply Drawn0.step)⟩
  ·rw [if_neg c4] at H
   have c4b0 : ((a0.size : Int) == 1) = false := beq_eq_false_iff_ne.mpr c4
   have c4b1 : ((a0.size : Int) != 1) = true := bne_iff_ne.mpr c4
   by_cases c5 : 0 < (a0.size : Int)
   ·rw [if_pos c5] at H
    have c5b0 : decide (0 < (a0.size : Int)) = true := decide_eq_true c5
    have c5b1 : decide (0 < a0.size) = true := decide_eq_true (by omega)
    clear c5
    obtain rfl := Option.some.inj H
    go_enter Tryz.func43, Tryz.ntmps43
    go_wp2_with (first | ((with_reducible refine gate_callee (f := 83) rfl ?_); refine goesL_ (some 4) J J Tryz.func83 (by kernel_rfl) rfl #[.string a0] rfl (by (try simp only [List.map_toArray, List.map_cons, List.map_nil]); first | done | rfl | (simp only [List.length_drop, List.length_take]; rfl)) ?_; (with_reducible refine (spec_jDigits.calls k a0 true _ A2.out).mono ?_); rintro e w' ⟨rfl, ⟨nd, rfl⟩⟩; refine ⟨_, rfl, ?_⟩; have p6 : 0 ≤ (0 : Int) := (by omega); have q6 : 0 < a0.size := (by have : (0 : Int) < (a0.size : Int) := of_decide_eq_true (by first | (with_reducible assumption) | assumption); omega); have hx6 : ∀ h : 0 < a0.size, ((a0[0]'h).toNat : Int) = bt a0 0 := bt_at a0 0; clear p6; have qi6 : (0 < (a0.size : Int)) = True := eq_true (of_decide_eq_true (by first | (with_reducible assumption) | assumption)); replace q6 := eq_true q6))
    go_ret
    exact ⟨by first | rfl | (simp; done) | (simp [*]; done), by repeat (first | exact Drawn0.refl _ | apply Drawn0.step)⟩
   ·rw [if_neg c5] at H
    exact absurd H (by simp)
 ·replace c3 := Bool.eq_false_iff.mpr c3
  subst c3
  have H1 : (some false) = some r := by rw [if_neg (show ¬ (false = true) by decide)] at H; exact H
  clear H
  have H := H1
  clear H1
  obtain rfl := Option.some.inj H
  go_enter Tryz.func43, Tryz.ntmps43
  go_wp2_with (first | ((with_reducible refine gate_callee (f := 83) rfl ?_); refine goesL_ (some 4) J J Tryz.func83 (by kernel_rfl) rfl #[.string a0] rfl (by (try simp only [List.map_toArray, List.map_cons, List.map_nil]); first | done | rfl | (simp only [List.length_drop, List.length_take]; rfl)) ?_; (with_reducible refine (spec_jDigits.calls k a0 false _ A2.out).mono ?_); rintro e w' ⟨rfl, ⟨nd, rfl⟩⟩; refine ⟨_, rfl, ?_⟩))
  go_ret
  exact ⟨by first | rfl | (simp; done) | (simp [*]; done), by repeat (first | exact Drawn0.refl _ | apply Drawn0.step)⟩
def spec_jRun.l0 : Nat → ByteArray → Int → Option (Int)
 | 0, _, _ => none
 | k + 1, x0, x1 => if x1 < (x0.size : Int) then (if 0 ≤ x1 then ((spec_jDigit.f (bt x0 x1)).bind fun t107 => (if t107 = true then (spec_jRun.l0 k x0 (wrap64 (x1 + 1))) else (some x1))) else (none)) else (some x1)
def spec_jRun.f (k : Nat) (a0 : ByteArray) (a1 : Int) : Option (Int) := spec_jRun.l0 k a0 a1
set_option maxHeartbeats 8000000 in
set_option maxRecDepth 100000 in
theorem spec_jRun.calls (k : Nat) (a0 : ByteArray) (a1 : Int) (r : Int) (w : World) (h : spec_jRun.f k a0 a1 = some r) :
  Calls Tryz.prog 84 #[.string a0, .int .i64 a1] w fun e w' => e = .returned (.int .i64 r) ∧ Drawn0 w w' := by
 have H : (spec_jRun.l0 k a0 a1) = some r := h
 clear h
 have H' := Aside0.mk H
 clear H
 go_enter Tryz.func84, Tryz.ntmps84
 go_wp2
 go_loopg [1] k (fun kq v1 w' => ∃ (x1_1 : Int), v1 = .int .i64 x1_1 ∧ Aside0 (spec_jRun.l0 kq a0 x1_1 = some r) ∧ Aside0 (kq ≤ k) ∧ Drawn0 w w')
 case atStart => exact ⟨(a1), (by first | rfl | (simp; done) | (simp [*]; done)), H', ⟨Nat.le_refl _⟩, by repeat (first | exact Drawn0.refl _ | apply Drawn0.step)⟩
 case round =>
  clear H'
  try clear p2
  obtain ⟨x1_1, rfl, HA, HK1, ⟨m1, rfl⟩⟩ := hrel
  cases gk with
  | zero => exact absurd HA.out (by simp [spec_jRun.l0])
  | succ k1 =>
   have H := HA.out
   clear HA
   simp only [spec_jRun.l0] at H
   by_cases c3 : x1_1 < (a0.size : Int)
   ·rw [if_pos c3] at H
    have c3b0 : decide (x1_1 < (a0.size : Int)) = true := decide_eq_true c3
    clear c3
    by_cases c4 : 0 ≤ x1_1
    ·rw [if_pos c4] at H
     have c4b0 : decide (0 ≤ x1_1) = true := decide_eq_true c4
     clear c4
     replace H := Option.bind_eq_some_iff.mp H
     obtain ⟨t107, A60, H⟩ := H
     replace H : (if t107 = true then (spec_jRun.l0 k1 a0 (wrap64 (x1_1 + 1))) else (some x1_1)) = some r := H
     have A6 := Aside0.mk A60
     clear A60
     by_cases c7 : t107 = true
     ·subst c7
      have H1 : (spec_jRun.l0 k1 a0 (wrap64 (x1_1 + 1))) = some r := by rw [if_pos rfl] at H; exact H
      clear H
      have H := H1
      clear H1
      have H' := Aside0.mk H
      clear H
      have p5 : 0 ≤ (x1_1 : Int) := of_decide_eq_true (by first | (with_reducible assumption) | assumption)
      have q5 : x1_1 < (a0.size : Int) := of_decide_eq_true (by first | (with_reducible assumption) | assumption)
      have hx5 := bt_at a0 x1_1
      replace p5 := eq_true p5
      replace q5 := eq_true q5
      go_wp2_with (first | (go_at_call 125; (with_reducible refine (spec_jDigit.calls (bt a0 x1_1) true _ A6.out).mono ?_); rintro e w' ⟨rfl, ⟨nd, rfl⟩⟩))
      go_roundg k1
      case measure => have := HK1.out; omega
      case rel => exact ⟨(wrap64 (x1_1 + 1)), (by first | rfl | (simp; done) | (simp [*]; done)), H', ⟨by have := HK1.out; omega⟩, by repeat (first | exact Drawn0.refl _ | apply Drawn0.step)⟩
     ·replace c7 := Bool.eq_false_iff.mpr c7
      subst c7
      have H1 : (some x1_1) = some r := by rw [if_neg (show ¬ (false = true) by decide)] at H; exact H
      clear H
      have H := H1
      clear H1
      obtain rfl := Option.some.inj H
      have p5 : 0 ≤ (x1_1 : Int) := of_decide_eq_true (by first | (with_reducible assumption) | assumption)
      have q5 : x1_1 < (a0.size : Int) := of_decide_eq_true (by first | (with_reducible assumption) | assumption)
      have hx5 := bt_at a0 x1_1
      replace p5 := eq_true p5
      replace q5 := eq_true q5
      go_wp2_with (first | (go_at_call 125; (with_reducible refine (spec_jDigit.calls (bt a0 x1_1) false _ A6.out).mono ?_); rintro e w' ⟨rfl, ⟨nd, rfl⟩⟩))
      go_ret
      exact ⟨by first | rfl | (simp; done) | (simp [*]; done), by repeat (first | exact Drawn0.refl _ | apply Drawn0.step)⟩
    ·rw [if_neg c4] at H
     exact absurd H (by simp)
   ·rw [if_neg c3] at H
    have c3b0 : decide (x1_1 < (a0.size : Int)) = false := decide_eq_false c3
    clear c3
    obtain rfl := Option.some.inj H
    go_wp2
    go_ret
    exact ⟨by first | rfl | (simp; done) | (simp [*]; done), by repeat (first | exact Drawn0.refl _ | apply Drawn0.step)⟩
def spec_jNumber.l0 : Nat → ByteArray → Int → Int → Option (Int)
 | 0, _, _, _ => none
 | k + 1, x0, x3, x4 => if x4 < (x0.size : Int) then (if 0 ≤ x4 then (spec_jNumber.l0 k x0 (wrap64 ((wrap64 (10 * x3)) + (((bt x0 x4) - 48) % 256))) (wrap64 (x4 + 1))) else (none)) else (some x3)
def spec_jNumber.f (k : Nat) (a0 : ByteArray) : Option (Int) := spec_jNumber.l0 k a0 0 0
set_option maxHeartbeats 8000000 in
set_option maxRecDepth 100000 in
theorem spec_jNumber.calls (k : Nat) (a0 : ByteArray) (r : Int) (w : World) (h : spec_jNumber.f k a0 = some r) :
  Calls Tryz.prog 44 #[.string a0] w fun e w' => e = .returned (.int .i64 r) ∧ Drawn0 w w' := by
 have H : (spec_jNumber.l0 k a0 0 0) = some r := h
 clear h
 have H' := Aside0.mk H
 clear H
 go_enter Tryz.func44, Tryz.ntmps44
 go_wp2
 go_loopg [3, 4] k (fun kq v3 v4 w' => ∃ (x3_1 : Int) (x4_1 : Int), v3 = .int .i64 x3_1 ∧ v4 = .int .i64 x4_1 ∧ Aside0 (spec_jNumber.l0 kq a0 x3_1 x4_1 = some r) ∧ Aside0 (kq ≤ k) ∧ Drawn0 w w')
 case atStart => exact ⟨(0), (0), (by first | rfl | (simp; done) | (simp [*]; done)), (by first | rfl | (simp; done) | (simp [*]; done)), H', ⟨Nat.le_refl _⟩, by repeat (first | exact Drawn0.refl _ | apply Drawn0.step)⟩
 case round =>
  clear H'
  obtain ⟨x3_1, x4_1, rfl, rfl, HA, HK1, ⟨m1, rfl⟩⟩ := hrel
  cases gk with
  | zero => exact absurd HA.out (by simp [spec_jNumber.l0])
  | succ k1 =>
   have H := HA.out
   clear HA
   simp only [spec_jNumber.l0] at H
   by_cases c2 : x4_1 < (a0.size : Int)
   ·rw [if_pos c2] at H
    have c2b0 : decide (x4_1 < (a0.size : Int)) = true := decide_eq_true c2
    clear c2
    by_cases c3 : 0 ≤ x4_1
    ·rw [if_pos c3] at H
     have c3b0 : decide (0 ≤ x4_1) = true := decide_eq_true c3
     clear c3
     have H' := Aside0.mk H
     clear H
     have p4 : 0 ≤ (x4_1 : Int) := of_decide_eq_true (by first | (with_reducible assumption) | assumption)
     have q4 : x4_1 < (a0.size : Int) := of_decide_eq_true (by first | (with_reducible assumption) | assumption)
     have hx4 := bt_at a0 x4_1
     replace p4 := eq_true p4
     replace q4 := eq_true q4
     go_wp2
     go_roundg k1
     case measure => have := HK1.out; omega
     case rel => exact ⟨(wrap64 ((wrap64 (10 * x3_1)) + (((bt a0 x4_1) - 48) % 256))), (wrap64 (x4_1 + 1)), (by first | rfl | (simp; done) | (simp [*]; done)), (by first | rfl | (simp; done) | (simp [*]; done)), H', ⟨by have := HK1.out; omega⟩, by repeat (first | exact Drawn0.refl _ | apply Drawn0.step)⟩
    ·rw [if_neg c3] at H
     exact absurd H (by simp)
   ·rw [if_neg c2] at H
    have c2b0 : decide (x4_1 < (a0.size : Int)) = false := decide_eq_false c2
    clear c2
    obtain rfl := Option.some.inj H
    go_wp2
    go_ret
    exact ⟨by first | rfl | (simp; done) | (simp [*]; done), by repeat (first | exact Drawn0.refl _ | apply Drawn0.step)⟩
def spec_jBare.l0 : Nat → ByteArray → Option (ByteArray)
 | 0, _ => none
 | k + 1, x0 => if x0.toList = ([] : List UInt8) then (some x0) else (if 0 < (x0.size : Int) then (if (bt x0 0) = 48 then (if 1 ≤ (x0.size : Int) then (spec_jBare.l0 k (x0.extract 1 x0.size)) else (none)) else (some x0)) else (none))
def spec_jBare.f (k : Nat) (a0 : ByteArray) : Option (ByteArray) := spec_jBare.l0 k a0
set_option maxHeartbeats 8000000 in
set_option maxRecDepth 100000 in
theorem spec_jBare.calls (k : Nat) (a0 : ByteArray) (r : ByteArray) (w : World) (h : spec_jBare.f k a0 = some r) :
  Calls Tryz.prog 126 #[.string a0] w fun e w' => e = .returned (.string r) ∧ Drawn0 w w' := by
 have H : (spec_jBare.l0 k a0) = some r := h
 clear h
 have H' := Aside0.mk H
 clear H
 go_enter Tryz.func126, Tryz.ntmps126
 go_wp2
 go_loopg [0] k (fun kq v0 w' => ∃ (x0_1 : ByteArray), v0 = .string x0_1 ∧ Aside0 (spec_jBare.l0 kq x0_1 = some r) ∧ Aside0 (kq ≤ k) ∧ Drawn0 w w')
 case atStart => exact ⟨(a0), (by first | rfl | (simp; done) | (simp [*]; done)), H', ⟨Nat.le_refl _⟩, by repeat (first | exact Drawn0.refl _ | apply Drawn0.step)⟩
 case round =>
  clear H'
  try clear c1
  obtain ⟨x0_1, rfl, HA, HK1, ⟨m1, rfl⟩⟩ := hrel
  cases gk with
  | zero => exact absurd HA.out (by simp [spec_jBare.l0])
  | succ k1 =>
   have H := HA.out
   clear HA
   simp only [spec_jBare.l0] at H
   by_cases c2 : x0_1.toList = ([] : List UInt8)
   ·rw [if_pos c2] at H
    have c2b0 : (x0_1.toList == ([] : List UInt8)) = true := beq_iff_eq.mpr c2
    have c2b1 : (x0_1.toList != ([] : List UInt8)) = false := bne_eq_false_iff_eq.mpr c2
    clear c2
    obtain rfl := Option.some.inj H
    go_wp2
    go_ret
    exact ⟨by first | rfl | (simp; done) | (simp [*]; done), by repeat (first | exact Drawn0.refl _ | apply Drawn0.step)⟩
   ·rw [if_neg c2] at H
    have c2b0 : (x0_1.toList == ([] : List UInt8)) = false := beq_eq_false_iff_ne.mpr c2
    have c2b1 : (x0_1.toList != ([] : List UInt8)) = true := bne_iff_ne.mpr c2
    by_cases c3 : 0 < (x0_1.size : Int)
    ·rw [if_pos c3] at H
     have c3b0 : decide (0 < (x0_1.size : Int)) = true := decide_eq_true c3
     have c3b1 : decide (0 < x0_1.size) = true := decide_eq_true (by omega)
     clear c3
     by_cases c5 : (bt x0_1 0) = 48
     ·rw [if_pos c5] at H
      have c5b0 : ((bt x0_1 0) == 48) = true := beq_iff_eq.mpr c5
      have c5b1 : ((bt x0_1 0) != 48) = false := bne_eq_false_iff_eq.mpr c5
      clear c5
      by_cases c6 : 1 ≤ (x0_1.size : Int)
      ·rw [if_pos c6] at H
       have c6b0 := eq_true c6
       have c6b1 : decide (1 ≤ (x0_1.size : Int)) = true := decide_eq_true c6
       clear c6
       have H' := Aside0.mk H
       clear H
       have p4 : 0 ≤ (0 : Int) := (by omega)
       have q4 : 0 < x0_1.size := (by have : (0 : Int) < (x0_1.size : Int) := of_decide_eq_true (by first | (with_reducible assumption) | assumption); omega)
       have hx4 : ∀ h : 0 < x0_1.size, ((x0_1[0]'h).toNat : Int) = bt x0_1 0 := bt_at x0_1 0
       clear p4
       have qi4 : (0 < (x0_1.size : Int)) = True := eq_true (of_decide_eq_true (by first | (with_reducible assumption) | assumption))
       replace q4 := eq_true q4
       go_wp2
       go_roundg k1
       case measure => have := HK1.out; omega
       case rel => exact ⟨(x0_1.extract 1 x0_1.size), (by first | rfl | (simp; done) | (simp [*]; done)), H', ⟨by have := HK1.out; omega⟩, by repeat (first | exact Drawn0.refl _ | apply Drawn0.step)⟩
      ·rw [if_neg c6] at H
       exact absurd H (by simp)
     ·rw [if_neg c5] at H
      have c5b0 : ((bt x0_1 0) == 48) = false := beq_eq_false_iff_ne.mpr c5
      have c5b1 : ((bt x0_1 0) != 48) = true := bne_iff_ne.mpr c5
      obtain rfl := Option.some.inj H
      have p4 : 0 ≤ (0 : Int) := (by omega)
      have q4 : 0 < x0_1.size := (by have : (0 : Int) < (x0_1.size : Int) := of_decide_eq_true (by first | (with_reducible assumption) | assumption); omega)
      have hx4 : ∀ h : 0 < x0_1.size, ((x0_1[0]'h).toNat : Int) = bt x0_1 0 := bt_at x0_1 0
      clear p4
      have qi4 : (0 < (x0_1.size : Int)) = True := eq_true (of_decide_eq_true (by first | (with_reducible assumption) | assumption))
      replace q4 := eq_true q4
      go_wp2
      go_ret
      exact ⟨by first | rfl | (simp; done) | (simp [*]; done), by repeat (first | exact Drawn0.refl _ | apply Drawn0.step)⟩
    ·rw [if_neg c3] at H
     exact absurd H (by simp)
end Go.Proofs.YtlkikblohnnlcaaGreatDoor.R
end
section
namespace Go.Proofs.YtlkikblohnnlcaaGreatDoor.R
open Go.RowKit Go.Proofs.YtlkikblohnnlcaaGreatDoorW.PrintWords Go.Proofs.YtlkikblohnnlcaaGreatDoorW.PrintLast Go.Proofs.YtlkikblohnnlcaaGreatDoorW.PrintMore
attribute [local go_sem] max2_int min2_int max_two min_two max_three min_three max_four min_four
set_option linter.unusedVariables false
set_option linter.unusedSimpArgs false
def spec_JMember.l0 : Nat → ByteArray → Int → Int → Bool → Int → ByteArray → List ByteArray → List (S27) → Option (Int)
 | 0, _, _, _, _, _, _, _, _ => none
 | k + 1, x1, x5, x358000, x358001, x358002, x358003, x358004, x358005 => if x5 ≥ 0 then (if 0 ≤ x5 then (if x5 < (x358004.length : Int) then (if (rdOf ByteArray.empty x358004 x5).toList = x1.toList then (some x5) else (spec_JMember.l0 k x1 (wrap64 (x5 - 1)) x358000 x358001 x358002 x358003 x358004 x358005)) else (none)) else (none)) else (some (-1))
def spec_JMember.f (k : Nat) (a0_0 : Int) (a0_1 : Bool) (a0_2 : Int) (a0_3 : ByteArray) (l0_4 : List ByteArray) (l0_5 : List (S27)) (a1 : ByteArray) : Option (Int) := spec_JMember.l0 k a1 (wrap64 ((l0_4.length : Int) - 1)) a0_0 a0_1 a0_2 a0_3 l0_4 l0_5
set_option maxHeartbeats 8000000 in
set_option maxRecDepth 100000 in
theorem spec_JMember.calls (k : Nat) (a0_0 : Int) (a0_1 : Bool) (a0_2 : Int) (a0_3 : ByteArray) (A0_4 : Option Addr) (c0_4 : Nat) (l0_4 : List ByteArray) (A0_5 : Option Addr) (c0_5 : Nat) (l0_5 : List (S27)) (a1 : ByteArray) (r : Int) (w : World) (hr0_4 : Kd.C Kd.string w A0_4 l0_4.length l0_4) (hc0_4 : l0_4.length ≤ c0_4) (hr0_5 : Kd.C k27 w A0_5 l0_5.length l0_5) (hc0_5 : l0_5.length ≤ c0_5) (h : spec_JMember.f k a0_0 a0_1 a0_2 a0_3 l0_4 l0_5 a1 = some r) :
  Calls Tryz.prog 63 #[.agg #[.int .i64 a0_0, .bool a0_1, .int .i64 a0_2, .string a0_3, .slice A0_4 l0_4.length c0_4, .slice A0_5 l0_5.length c0_5], .string a1] w fun e w' => e = .returned (.int .i64 r) ∧ Below w.heap.size w w' := by
 have hu27 := Tryz.underlying27
 have HR0_4 := Aside0.mk hr0_4
 have HC0_4 := Aside0.mk hc0_4
 clear hr0_4 hc0_4
 have HR0_5 := Aside0.mk hr0_5
 have HC0_5 := Aside0.mk hc0_5
 clear hr0_5 hc0_5
 have HB := Aside0.mk (Below.refl w.heap.size w)
 have H : (spec_JMember.l0 k a1 (wrap64 ((l0_4.length : Int) - 1)) a0_0 a0_1 a0_2 a0_3 l0_4 l0_5) = some r := h
 clear h
 have H' := Aside0.mk H
 clear H
 go_enter Tryz.func63, Tryz.ntmps63
 go_wp2_with (first | ((with_reducible refine gate_dst (N := 2) rfl ?_); refine box_event ?hg (N := 2) ?hd (cs := #[.int .i64 a0_0, .bool a0_1, .int .i64 a0_2, .string a0_3, .slice A0_4 l0_4.length c0_4, .slice A0_5 l0_5.length c0_5]) (t := 27) ?hr ?_; (case hd => rfl); (case hg => rfl); (case hr => first | (go_simp; done) | (go_simp; rfl)); intro gb357 hg w3 hbox hb; have n0_ := Aside0.mk (below_step (by repeat (first | (with_reducible first | exact HB.out | apply below_alloc | apply pw_below_drewN | apply below_drew1) | exact HB.out)) hb); have n1_ := Aside0.mk (hbox); have n2_ := Aside0.mk ((by rw [hg]; exact (below_size (by repeat (first | (with_reducible first | exact HB.out | apply below_alloc | apply pw_below_drewN | apply below_drew1) | exact HB.out))) : w.heap.size ≤ gb357)); have n3_ := Aside0.mk ((by rw [hg]; exact (below_size (by repeat (first | (with_reducible first | exact HB.out | apply below_alloc | apply pw_below_drewN | apply below_drew1) | exact HB.out))) : w.heap.size ≤ gb357)); clear HB; have HB := n0_; have BK357 := n1_; have GW357 := n2_; have GE357 := n3_; clear n0_ n1_ n2_ n3_; clear hb hbox hg; have hcz4_0 : w3.cell? ⟨gb357, 0, none⟩ = some (.int .i64 a0_0) := (blk_cell BK357.out 0).trans rfl; have hcz4_1 : w3.cell? ⟨gb357, 1, none⟩ = some (.bool a0_1) := (blk_cell BK357.out 1).trans rfl; have hcz4_2 : w3.cell? ⟨gb357, 2, none⟩ = some (.int .i64 a0_2) := (blk_cell BK357.out 2).trans rfl; have hcz4_3 : w3.cell? ⟨gb357, 3, none⟩ = some (.string a0_3) := (blk_cell BK357.out 3).trans rfl; have hcz4_4 : w3.cell? ⟨gb357, 4, none⟩ = some (.slice A0_4 l0_4.length c0_4) := (blk_cell BK357.out 4).trans rfl; have hcz4_5 : w3.cell? ⟨gb357, 5, none⟩ = some (.slice A0_5 l0_5.length c0_5) := (blk_cell BK357.out 5).trans rfl; have hfz4_0 := blk_frozen BK357.out 0; have hfz4_1 := blk_frozen BK357.out 1; have hfz4_2 := blk_frozen BK357.out 2; have hfz4_3 := blk_frozen BK357.out 3; have hfz4_4 := blk_frozen BK357.out 4; have hfz4_5 := blk_frozen BK357.out 5))
 go_loopg [5] k (fun kq v5 w' => ∃ (x5_1 : Int), v5 = .int .i64 x5_1 ∧ Aside0 (spec_JMember.l0 kq a1 x5_1 a0_0 a0_1 a0_2 a0_3 l0_4 l0_5 = some r) ∧ Aside0 (kq ≤ k) ∧ Aside0 (w'.heap[gb357]? = some (.cells #[.int .i64 a0_0, .bool a0_1, .int .i64 a0_2, .string a0_3, (.slice A0_4 l0_4.length c0_4), (.slice A0_5 l0_5.length c0_5)] 27 (0, 0))) ∧ Aside0 (Below w.heap.size w w'))
 case atStart => exact ⟨(wrap64 ((l0_4.length : Int) - 1)), (by first | rfl | (simp; done) | (simp [*]; done)), H', ⟨Nat.le_refl _⟩, ⟨by (with_reducible repeat (first | refine blk_drewN ?_ _ | refine blk_drew ?_ | refine blk_alloc ?_ _)); exact BK357.out⟩, ⟨by repeat (first | (with_reducible first | exact HB.out | apply below_alloc | apply pw_below_drewN | apply below_drew1 | refine below_set ?_ GE357.out) | exact HB.out)⟩⟩
 case round =>
  clear H'
  try clear p2
  try clear hcz4_0
  try clear hcz4_1
  try clear hcz4_2
  try clear hcz4_3
  try clear hcz4_4
  try clear hcz4_5
  try clear hfz4_0
  try clear hfz4_1
  try clear hfz4_2
  try clear hfz4_3
  try clear hfz4_4
  try clear hfz4_5
  obtain ⟨x5_1, rfl, HA, HK1, BK357, HB⟩ := hrel
  cases gk with
  | zero => exact absurd HA.out (by simp [spec_JMember.l0])
  | succ k1 =>
   have H := HA.out
   clear HA
   simp only [spec_JMember.l0] at H
   by_cases c5 : x5_1 ≥ 0
   ·rw [if_pos c5] at H
    have c5b0 : decide (0 ≤ x5_1) = true := decide_eq_true c5
    clear c5
    by_cases c6 : 0 ≤ x5_1
    ·rw [if_pos c6] at H
     have c6b0 : decide (0 ≤ x5_1) = true := decide_eq_true c6
     clear c6
     by_cases c7 : x5_1 < (l0_4.length : Int)
     ·rw [if_pos c7] at H
      have c7b0 : decide (x5_1 < (l0_4.length : Int)) = true := decide_eq_true c7
      clear c7
      by_cases c8 : (rdOf ByteArray.empty l0_4 x5_1).toList = a1.toList
      ·rw [if_pos c8] at H
       have c8b0 : ((rdOf ByteArray.empty l0_4 x5_1).toList == a1.toList) = true := beq_iff_eq.mpr c8
       have c8b1 : ((rdOf ByteArray.empty l0_4 x5_1).toList != a1.toList) = false := bne_eq_false_iff_eq.mpr c8
       clear c8
       obtain rfl := Option.some.inj H
       have hcz9_0 : wr.cell? ⟨gb357, 0, none⟩ = some (.int .i64 a0_0) := (blk_cell BK357.out 0).trans rfl
       have hcz9_1 : wr.cell? ⟨gb357, 1, none⟩ = some (.bool a0_1) := (blk_cell BK357.out 1).trans rfl
       have hcz9_2 : wr.cell? ⟨gb357, 2, none⟩ = some (.int .i64 a0_2) := (blk_cell BK357.out 2).trans rfl
       have hcz9_3 : wr.cell? ⟨gb357, 3, none⟩ = some (.string a0_3) := (blk_cell BK357.out 3).trans rfl
       have hcz9_4 : wr.cell? ⟨gb357, 4, none⟩ = some (.slice A0_4 l0_4.length c0_4) := (blk_cell BK357.out 4).trans rfl
       have hcz9_5 : wr.cell? ⟨gb357, 5, none⟩ = some (.slice A0_5 l0_5.length c0_5) := (blk_cell BK357.out 5).trans rfl
       have hfz9_0 := blk_frozen BK357.out 0
       have hfz9_1 := blk_frozen BK357.out 1
       have hfz9_2 := blk_frozen BK357.out 2
       have hfz9_3 := blk_frozen BK357.out 3
       have hfz9_4 := blk_frozen BK357.out 4
       have hfz9_5 := blk_frozen BK357.out 5
       have p358 : 0 ≤ (x5_1 : Int) := of_decide_eq_true (by first | (with_reducible assumption) | assumption)
       have q358 : x5_1 < (l0_4.length : Int) := of_decide_eq_true (by first | (with_reducible assumption) | assumption)
       obtain ⟨ad358, e358, hx358_0⟩ := Kd.at_string HR0_4.out x5_1 p358 q358
       cases e358
       replace hx358_0 := (HB.out.cell (World.block_lt_of_cell? w _ hx358_0)).trans hx358_0
       replace p358 := eq_true p358
       replace q358 := eq_true q358
       go_wp2
       go_ret
       exact ⟨by first | rfl | (simp [errW_none, errW_some] <;> rfl) | (simp [*, errW_none, errW_some] <;> rfl), by repeat (first | (with_reducible first | exact HB.out | apply below_alloc | apply pw_below_drewN | apply below_drew1 | refine below_set ?_ GE357.out) | exact HB.out)⟩
      ·rw [if_neg c8] at H
       have c8b0 : ((rdOf ByteArray.empty l0_4 x5_1).toList == a1.toList) = false := beq_eq_false_iff_ne.mpr c8
       have c8b1 : ((rdOf ByteArray.empty l0_4 x5_1).toList != a1.toList) = true := bne_iff_ne.mpr c8
       have H' := Aside0.mk H
       clear H
       have hcz10_0 : wr.cell? ⟨gb357, 0, none⟩ = some (.int .i64 a0_0) := (blk_cell BK357.out 0).trans rfl
       have hcz10_1 : wr.cell? ⟨gb357, 1, none⟩ = some (.bool a0_1) := (blk_cell BK357.out 1).trans rfl
       have hcz10_2 : wr.cell? ⟨gb357, 2, none⟩ = some (.int .i64 a0_2) := (blk_cell BK357.out 2).trans rfl
       have hcz10_3 : wr.cell? ⟨gb357, 3, none⟩ = some (.string a0_3) := (blk_cell BK357.out 3).trans rfl
       have hcz10_4 : wr.cell? ⟨gb357, 4, none⟩ = some (.slice A0_4 l0_4.length c0_4) := (blk_cell BK357.out 4).trans rfl
       have hcz10_5 : wr.cell? ⟨gb357, 5, none⟩ = some (.slice A0_5 l0_5.length c0_5) := (blk_cell BK357.out 5).trans rfl
       have hfz10_0 := blk_frozen BK357.out 0
       have hfz10_1 := blk_frozen BK357.out 1
       have hfz10_2 := blk_frozen BK357.out 2
       have hfz10_3 := blk_frozen BK357.out 3
       have hfz10_4 := blk_frozen BK357.out 4
       have hfz10_5 := blk_frozen BK357.out 5
       have p358 : 0 ≤ (x5_1 : Int) := of_decide_eq_true (by first | (with_reducible assumption) | assumption)
       have q358 : x5_1 < (l0_4.length : Int) := of_decide_eq_true (by first | (with_reducible assumption) | assumption)
       obtain ⟨ad358, e358, hx358_0⟩ := Kd.at_string HR0_4.out x5_1 p358 q358
       cases e358
       replace hx358_0 := (HB.out.cell (World.block_lt_of_cell? w _ hx358_0)).trans hx358_0
       replace p358 := eq_true p358
       replace q358 := eq_true q358
       go_wp2
       go_roundg k1
       case measure => have := HK1.out; omega
       case rel => exact ⟨(wrap64 (x5_1 - 1)), (by first | rfl | (simp; done) | (simp [*]; done)), H', ⟨by have := HK1.out; omega⟩, ⟨by (with_reducible repeat (first | refine blk_drewN ?_ _ | refine blk_drew ?_ | refine blk_alloc ?_ _)); exact BK357.out⟩, ⟨by repeat (first | (with_reducible first | exact HB.out | apply below_alloc | apply pw_below_drewN | apply below_drew1 | refine below_set ?_ GE357.out) | exact HB.out)⟩⟩
     ·rw [if_neg c7] at H
      exact absurd H (by simp)
    ·rw [if_neg c6] at H
     exact absurd H (by simp)
   ·rw [if_neg c5] at H
    have c5b0 : decide (0 ≤ x5_1) = false := decide_eq_false c5
    clear c5
    obtain rfl := Option.some.inj H
    go_wp2
    go_ret
    exact ⟨by first | rfl | (simp [errW_none, errW_some] <;> rfl) | (simp [*, errW_none, errW_some] <;> rfl), by repeat (first | (with_reducible first | exact HB.out | apply below_alloc | apply pw_below_drewN | apply below_drew1 | refine below_set ?_ GE357.out) | exact HB.out)⟩
def spec_jHas.l0 : Nat → Int → Int → Bool → Int → ByteArray → List ByteArray → List (S27) → Int → Bool → Int → ByteArray → List ByteArray → List (S27) → Option (Bool)
 | 0, _, _, _, _, _, _, _, _, _, _, _, _, _ => none
 | k + 1, x5, x360000, x360001, x360002, x360003, x360004, x360005, x361000, x361001, x361002, x361003, x361004, x361005 => if x5 < (x360004.length : Int) then (if 0 ≤ x5 then ((spec_JMember.f k x361000 x361001 x361002 x361003 x361004 x361005 (rdOf ByteArray.empty x360004 x5)).bind fun t362 => (if t362 < 0 then (some false) else (spec_jHas.l0 k (wrap64 (x5 + 1)) x360000 x360001 x360002 x360003 x360004 x360005 x361000 x361001 x361002 x361003 x361004 x361005))) else (none)) else (some true)
def spec_jHas.f (k : Nat) (a0_0 : Int) (a0_1 : Bool) (a0_2 : Int) (a0_3 : ByteArray) (l0_4 : List ByteArray) (l0_5 : List (S27)) (a1_0 : Int) (a1_1 : Bool) (a1_2 : Int) (a1_3 : ByteArray) (l1_4 : List ByteArray) (l1_5 : List (S27)) : Option (Bool) := spec_jHas.l0 k 0 a0_0 a0_1 a0_2 a0_3 l0_4 l0_5 a1_0 a1_1 a1_2 a1_3 l1_4 l1_5
def spec_jHas.T4 : Bool × List (List Nat × List Nat) := (true, [([], []), ([], []), ([1], [1]), ([], []), ([2, 3], [2, 3]), ([4], [4]), ([0, 5], [0, 5]), ([6], [6])])
def spec_jHas.B4 : List Nat := [0, 0, 2, 0, 14, 30, 63, 127]
theorem spec_jHas.tab4 : rtab .any (opsOf Tryz.f112 4) = spec_jHas.T4 := by kernel_rfl
theorem spec_jHas.bits4 : waitsOk spec_jHas.T4.2 spec_jHas.B4 = true := by kernel_rfl
set_option maxHeartbeats 8000000 in
set_option maxRecDepth 100000 in
theorem spec_jHas.calls (k : Nat) (a0_0 : Int) (a0_1 : Bool) (a0_2 : Int) (a0_3 : ByteArray) (A0_4 : Option Addr) (c0_4 : Nat) (l0_4 : List ByteArray) (A0_5 : Option Addr) (c0_5 : Nat) (l0_5 : List (S27)) (a1_0 : Int) (a1_1 : Bool) (a1_2 : Int) (a1_3 : ByteArray) (A1_4 : Option Addr) (c1_4 : Nat) (l1_4 : List ByteArray) (A1_5 : Option Addr) (c1_5 : Nat) (l1_5 : List (S27)) (r : Bool) (w : World) (hr0_4 : Kd.C Kd.string w A0_4 l0_4.length l0_4) (hc0_4 : l0_4.length ≤ c0_4) (hr0_5 : Kd.C k27 w A0_5 l0_5.length l0_5) (hc0_5 : l0_5.length ≤ c0_5) (hr1_4 : Kd.C Kd.string w A1_4 l1_4.length l1_4) (hc1_4 : l1_4.length ≤ c1_4) (hr1_5 : Kd.C k27 w A1_5 l1_5.length l1_5) (hc1_5 : l1_5.length ≤ c1_5) (h : spec_jHas.f k a0_0 a0_1 a0_2 a0_3 l0_4 l0_5 a1_0 a1_1 a1_2 a1_3 l1_4 l1_5 = some r) :
  Calls Tryz.prog 112 #[.agg #[.int .i64 a0_0, .bool a0_1, .int .i64 a0_2, .string a0_3, .slice A0_4 l0_4.length c0_4, .slice A0_5 l0_5.length c0_5], .agg #[.int .i64 a1_0, .bool a1_1, .int .i64 a1_2, .string a1_3, .slice A1_4 l1_4.length c1_4, .slice A1_5 l1_5.length c1_5]] w fun e w' => e = .returned (.bool r) ∧ Below w.heap.size w w' := by
 have hu27 := Tryz.underlying27
 have HR0_4 := Aside0.mk hr0_4
 have HC0_4 := Aside0.mk hc0_4
 clear hr0_4 hc0_4
 have HR0_5 := Aside0.mk hr0_5
 have HC0_5 := Aside0.mk hc0_5
 clear hr0_5 hc0_5
 have HR1_4 := Aside0.mk hr1_4
 have HC1_4 := Aside0.mk hc1_4
 clear hr1_4 hc1_4
 have HR1_5 := Aside0.mk hr1_5
 have HC1_5 := Aside0.mk hc1_5
 clear hr1_5 hc1_5
 have HB := Aside0.mk (Below.refl w.heap.size w)
 have H : (spec_jHas.l0 k 0 a0_0 a0_1 a0_2 a0_3 l0_4 l0_5 a1_0 a1_1 a1_2 a1_3 l1_4 l1_5) = some r := h
 clear h
 have H' := Aside0.mk H
 clear H
 go_enter Tryz.func112, Tryz.ntmps112
 go_wp2_with (first | ((with_reducible refine gate_dst (N := 2) rfl ?_); refine box_event ?hg (N := 2) ?hd (cs := #[.int .i64 a0_0, .bool a0_1, .int .i64 a0_2, .string a0_3, .slice A0_4 l0_4.length c0_4, .slice A0_5 l0_5.length c0_5]) (t := 27) ?hr ?_; (case hd => rfl); (case hg => rfl); (case hr => first | (go_simp; done) | (go_simp; rfl)); intro gb359 hg w3 hbox hb; have n0_ := Aside0.mk (below_step (by repeat (first | (with_reducible first | exact HB.out | apply below_alloc | apply pw_below_drewN | apply below_drew1) | exact HB.out)) hb); have n1_ := Aside0.mk (hbox); have n2_ := Aside0.mk ((by rw [hg]; exact (below_size (by repeat (first | (with_reducible first | exact HB.out | apply below_alloc | apply pw_below_drewN | apply below_drew1) | exact HB.out))) : w.heap.size ≤ gb359)); have n3_ := Aside0.mk ((by rw [hg]; exact (below_size (by repeat (first | (with_reducible first | exact HB.out | apply below_alloc | apply pw_below_drewN | apply below_drew1) | exact HB.out))) : w.heap.size ≤ gb359)); clear HB; have HB := n0_; have BK359 := n1_; have GW359 := n2_; have GE359 := n3_; clear n0_ n1_ n2_ n3_; clear hb hbox hg) | ((with_reducible refine gate_dst (N := 3) rfl ?_); refine box_event ?hg (N := 3) ?hd (cs := #[.int .i64 a1_0, .bool a1_1, .int .i64 a1_2, .string a1_3, .slice A1_4 l1_4.length c1_4, .slice A1_5 l1_5.length c1_5]) (t := 27) ?hr ?_; (case hd => rfl); (case hg => rfl); (case hr => first | (go_simp; done) | (go_simp; rfl)); intro gb360 hg w4 hbox hb; have n0_ := Aside0.mk (blk_below (g := gb359) (o := .cells #[.int .i64 a0_0, .bool a0_1, .int .i64 a0_2, .string a0_3, .slice A0_4 l0_4.length c0_4, .slice A0_5 l0_5.length c0_5] 27 (0, 0)) (by (with_reducible repeat (first | refine blk_drewN ?_ _ | refine blk_drew ?_ | refine blk_alloc ?_ _)); exact BK359.out) hb); have n1_ := Aside0.mk (below_step (by repeat (first | (with_reducible first | exact HB.out | apply below_alloc | apply pw_below_drewN | apply below_drew1 | refine below_set ?_ GE359.out) | exact HB.out)) hb); have n2_ := Aside0.mk (hbox); have n3_ := Aside0.mk ((by rw [hg]; exact (below_size (by repeat (first | (with_reducible first | exact HB.out | apply below_alloc | apply pw_below_drewN | apply below_drew1 | refine below_set ?_ GE359.out) | exact HB.out))) : w.heap.size ≤ gb360)); have n4_ := Aside0.mk ((by rw [hg]; exact (below_size (by repeat (first | (with_reducible first | exact HB.out | apply below_alloc | apply pw_below_drewN | apply below_drew1 | refine below_set ?_ GE359.out) | exact HB.out))) : w.heap.size ≤ gb360)); have n5_ := Aside0.mk ((by rw [hg]; exact Nat.ne_of_lt (blk_lt (g := gb359) (o := .cells #[.int .i64 a0_0, .bool a0_1, .int .i64 a0_2, .string a0_3, .slice A0_4 l0_4.length c0_4, .slice A0_5 l0_5.length c0_5] 27 (0, 0)) (by (with_reducible repeat (first | refine blk_drewN ?_ _ | refine blk_drew ?_ | refine blk_alloc ?_ _)); exact BK359.out)) : gb359 ≠ gb360)); have n6_ := Aside0.mk ((by rw [hg]; exact Nat.ne_of_gt (blk_lt (g := gb359) (o := .cells #[.int .i64 a0_0, .bool a0_1, .int .i64 a0_2, .string a0_3, .slice A0_4 l0_4.length c0_4, .slice A0_5 l0_5.length c0_5] 27 (0, 0)) (by (with_reducible repeat (first | refine blk_drewN ?_ _ | refine blk_drew ?_ | refine blk_alloc ?_ _)); exact BK359.out)) : gb360 ≠ gb359)); clear BK359; clear HB; have BK359 := n0_; have HB := n1_; have BK360 := n2_; have GW360 := n3_; have GE360 := n4_; have NB359_360 := n5_; have NB360_359 := n6_; clear n0_ n1_ n2_ n3_ n4_ n5_ n6_; clear hb hbox hg))
 go_loopg [5] k (fun kq v5 w' => ∃ (x5_1 : Int), v5 = .int .i64 x5_1 ∧ Aside0 (spec_jHas.l0 kq x5_1 a0_0 a0_1 a0_2 a0_3 l0_4 l0_5 a1_0 a1_1 a1_2 a1_3 l1_4 l1_5 = some r) ∧ Aside0 (kq ≤ k) ∧ Aside0 (w'.heap[gb359]? = some (.cells #[.int .i64 a0_0, .bool a0_1, .int .i64 a0_2, .string a0_3, (.slice A0_4 l0_4.length c0_4), (.slice A0_5 l0_5.length c0_5)] 27 (0, 0))) ∧ Aside0 (w'.heap[gb360]? = some (.cells #[.int .i64 a1_0, .bool a1_1, .int .i64 a1_2, .string a1_3, (.slice A1_4 l1_4.length c1_4), (.slice A1_5 l1_5.length c1_5)] 27 (0, 0))) ∧ Aside0 (Below w.heap.size w w'))
 case atStart => exact ⟨(0), (by first | rfl | (simp; done) | (simp [*]; done)), H', ⟨Nat.le_refl _⟩, ⟨by (with_reducible repeat (first | refine blk_drewN ?_ _ | refine blk_drew ?_ | refine blk_alloc ?_ _)); exact BK359.out⟩, ⟨by (with_reducible repeat (first | refine blk_drewN ?_ _ | refine blk_drew ?_ | refine blk_alloc ?_ _)); exact BK360.out⟩, ⟨by repeat (first | (with_reducible first | exact HB.out | apply below_alloc | apply pw_below_drewN | apply below_drew1 | refine below_set ?_ GE359.out | refine below_set ?_ GE360.out) | exact HB.out)⟩⟩
 case round =>
  clear H'
  try clear c1
  try clear p2
  obtain ⟨x5_1, rfl, HA, HK1, BK359, BK360, HB⟩ := hrel
  cases gk with
  | zero => exact absurd HA.out (by simp [spec_jHas.l0])
  | succ k1 =>
   have H := HA.out
   clear HA
   simp only [spec_jHas.l0] at H
   by_cases c5 : x5_1 < (l0_4.length : Int)
   ·rw [if_pos c5] at H
    have c5b0 : decide (x5_1 < (l0_4.length : Int)) = true := decide_eq_true c5
    clear c5
    by_cases c6 : 0 ≤ x5_1
    ·rw [if_pos c6] at H
     have c6b0 : decide (0 ≤ x5_1) = true := decide_eq_true c6
     clear c6
     replace H := Option.bind_eq_some_iff.mp H
     obtain ⟨t362, A70, H⟩ := H
     replace H : (if t362 < 0 then (some false) else (spec_jHas.l0 k1 (wrap64 (x5_1 + 1)) a0_0 a0_1 a0_2 a0_3 l0_4 l0_5 a1_0 a1_1 a1_2 a1_3 l1_4 l1_5)) = some r := H
     have A7 := Aside0.mk A70
     clear A70
     by_cases c8 : t362 < 0
     ·rw [if_pos c8] at H
      have c8b0 : decide (t362 < 0) = true := decide_eq_true c8
      clear c8
      obtain rfl := Option.some.inj H
      have hnb9 := NB359_360.out
      have hnc9 := NB360_359.out
      have hcz10_0 : wr.cell? ⟨gb359, 0, none⟩ = some (.int .i64 a0_0) := (blk_cell BK359.out 0).trans rfl
      have hcz10_1 : wr.cell? ⟨gb359, 1, none⟩ = some (.bool a0_1) := (blk_cell BK359.out 1).trans rfl
      have hcz10_2 : wr.cell? ⟨gb359, 2, none⟩ = some (.int .i64 a0_2) := (blk_cell BK359.out 2).trans rfl
      have hcz10_3 : wr.cell? ⟨gb359, 3, none⟩ = some (.string a0_3) := (blk_cell BK359.out 3).trans rfl
      have hcz10_4 : wr.cell? ⟨gb359, 4, none⟩ = some (.slice A0_4 l0_4.length c0_4) := (blk_cell BK359.out 4).trans rfl
      have hcz10_5 : wr.cell? ⟨gb359, 5, none⟩ = some (.slice A0_5 l0_5.length c0_5) := (blk_cell BK359.out 5).trans rfl
      have hfz10_0 := blk_frozen BK359.out 0
      have hfz10_1 := blk_frozen BK359.out 1
      have hfz10_2 := blk_frozen BK359.out 2
      have hfz10_3 := blk_frozen BK359.out 3
      have hfz10_4 := blk_frozen BK359.out 4
      have hfz10_5 := blk_frozen BK359.out 5
      try go_wp2
      have n0_ := Aside0.mk (blk_drew BK359.out)
      have n1_ := Aside0.mk (blk_drew BK360.out)
      have n2_ := Aside0.mk (below_drew1 HB.out)
      clear BK359
      clear BK360
      clear HB
      have BK359 := n0_
      have BK360 := n1_
      have HB := n2_
      clear n0_ n1_ n2_
      have p361 : 0 ≤ (x5_1 : Int) := of_decide_eq_true (by first | (with_reducible assumption) | assumption)
      have q361 : x5_1 < (l0_4.length : Int) := of_decide_eq_true (by first | (with_reducible assumption) | assumption)
      obtain ⟨ad361, e361, hx361_0⟩ := Kd.at_string HR0_4.out x5_1 p361 q361
      have hw361_0 := hx361_0
      cases e361
      replace hx361_0 := (HB.out.cell (World.block_lt_of_cell? w _ hx361_0)).trans hx361_0
      replace p361 := eq_true p361
      replace q361 := eq_true q361
      refine start_ (n := 8) (S := fun w' => w'.cell? ⟨gb360, 0, none⟩ = some (.int .i64 a1_0) ∧ w'.cell? ⟨gb360, 1, none⟩ = some (.bool a1_1) ∧ w'.cell? ⟨gb360, 2, none⟩ = some (.int .i64 a1_2) ∧ w'.cell? ⟨gb360, 3, none⟩ = some (.string a1_3) ∧ w'.cell? ⟨gb360, 4, none⟩ = some (.slice A1_4 l1_4.length c1_4) ∧ w'.cell? ⟨gb360, 5, none⟩ = some (.slice A1_5 l1_5.length c1_5) ∧ w'.cell? ⟨gb359, 0, none⟩ = some (.int .i64 a0_0) ∧ w'.cell? ⟨gb359, 1, none⟩ = some (.bool a0_1) ∧ w'.cell? ⟨gb359, 2, none⟩ = some (.int .i64 a0_2) ∧ w'.cell? ⟨gb359, 3, none⟩ = some (.string a0_3) ∧ w'.cell? ⟨gb359, 4, none⟩ = some (.slice (some ad361) l0_4.length c0_4) ∧ w'.cell? ⟨gb359, 5, none⟩ = some (.slice A0_5 l0_5.length c0_5) ∧ w'.cell? (ad361.add (x5_1).toNat) = some (.string (rdOf ByteArray.empty l0_4 x5_1))) (ds := []) #[false, false, false, false, false, false, false, false] (by kernel_rfl) J J ⟨(blk_cell BK360.out 0).trans rfl, (blk_cell BK360.out 1).trans rfl, (blk_cell BK360.out 2).trans rfl, (blk_cell BK360.out 3).trans rfl, (blk_cell BK360.out 4).trans rfl, (blk_cell BK360.out 5).trans rfl, (blk_cell BK359.out 0).trans rfl, (blk_cell BK359.out 1).trans rfl, (blk_cell BK359.out 2).trans rfl, (blk_cell BK359.out 3).trans rfl, (blk_cell BK359.out 4).trans rfl, (blk_cell BK359.out 5).trans rfl, ((HB.out.cell (World.block_lt_of_cell? w _ hw361_0)).trans hw361_0)⟩ (fun hHeld => ?_); refine with_tabW spec_jHas.tab4 spec_jHas.bits4 (fun HT_ HW_ => ?_)
      generalize wr.drew = w11 at BK359 BK360 HB hx361_0 hHeld ⊢
      refine pure_ (i := 1) (N := some 14) (v := ?_) (a' := ?_) #[false, true, false, false, false, false, false, false] J J (any_of HT_.out (by kernel_rfl)) (fun _ _ _ h => h) (Or.inl ⟨by rfl, ?_⟩) ?_ ?_
      rotate_left
      ·intro w'
       go_simp
       with_reducible rfl
      rotate_left
      ·simp only [Act.put, List.setIfInBounds_toArray, List.set_cons_zero, List.set_cons_succ, i64_w, i32_w]
       rfl
      refine pure_ (i := 3) (N := some 16) (v := ?_) (a' := ?_) #[false, true, false, true, false, false, false, false] J J (any_of HT_.out (by kernel_rfl)) (fun _ _ _ h => h) (Or.inl ⟨by rfl, ?_⟩) ?_ ?_
      rotate_left
      ·intro w'
       go_simp
       with_reducible rfl
      rotate_left
      ·simp only [Act.put, List.setIfInBounds_toArray, List.set_cons_zero, List.set_cons_succ, i64_w, i32_w]
       rfl
      refine take_ (i := 0) (N := some 13) (v := ?_) (a' := ?_) #[true, true, false, true, false, false, false, false] J J (take_ofW HT_.out HW_.out (by kernel_rfl)) (fun _ _ _ h => h) (Or.inl ⟨by rfl, ?_⟩) hHeld ?_ ?_
      rotate_left
      ·rintro w' ⟨s0, s1, s2, s3, s4, s5, s6, s7, s8, s9, s10, s11, s12⟩
       go_simp
       with_reducible rfl
      rotate_left
      ·simp only [Act.put, List.setIfInBounds_toArray, List.set_cons_zero, List.set_cons_succ, i64_w, i32_w]
       rfl
      refine take_ (i := 2) (N := some 15) (v := ?_) (a' := ?_) #[true, true, true, true, false, false, false, false] J J (take_ofW HT_.out HW_.out (by kernel_rfl)) (fun _ _ _ h => h) (Or.inl ⟨by rfl, ?_⟩) hHeld ?_ ?_
      rotate_left
      ·rintro w' ⟨s0, s1, s2, s3, s4, s5, s6, s7, s8, s9, s10, s11, s12⟩
       go_simp
       with_reducible rfl
      rotate_left
      ·simp only [Act.put, List.setIfInBounds_toArray, List.set_cons_zero, List.set_cons_succ, i64_w, i32_w]
       rfl
      refine pure_ (i := 4) (N := some 17) (v := ?_) (a' := ?_) #[true, true, true, true, true, false, false, false] J J (any_of HT_.out (by kernel_rfl)) (fun _ _ _ h => h) (Or.inl ⟨by rfl, ?_⟩) ?_ ?_
      rotate_left
      ·intro w'
       go_simp
       with_reducible rfl
      rotate_left
      ·simp only [Act.put, List.setIfInBounds_toArray, List.set_cons_zero, List.set_cons_succ, i64_w, i32_w]
       rfl
      refine take_ (i := 5) (N := some 18) (v := ?_) (a' := ?_) #[true, true, true, true, true, true, false, false] J J (take_ofW HT_.out HW_.out (by kernel_rfl)) (fun _ _ _ h => h) (Or.inl ⟨by rfl, ?_⟩) hHeld ?_ ?_
      rotate_left
      ·rintro w' ⟨s0, s1, s2, s3, s4, s5, s6, s7, s8, s9, s10, s11, s12⟩
       go_simp
       with_reducible rfl
      rotate_left
      ·simp only [Act.put, List.setIfInBounds_toArray, List.set_cons_zero, List.set_cons_succ, i64_w, i32_w]
       rfl
      refine one_ (i := 6) (N := some 19) #[true, true, true, true, true, true, true, false] J J (one_of HT_.out (by kernel_rfl)) (by decide) (fun K hK => ?_)
      refine goes_ Tryz.func63 (by kernel_rfl) rfl #[.agg #[.int .i64 a1_0, .bool a1_1, .int .i64 a1_2, .string a1_3, .slice A1_4 l1_4.length c1_4, .slice A1_5 l1_5.length c1_5], .string (rdOf ByteArray.empty l0_4 x5_1)] (by rfl) J J (by (try simp only [List.map_toArray, List.map_cons, List.map_nil]); first | done | rfl | (simp only [List.length_drop, List.length_take]; rfl)) ?_
      with_reducible refine (spec_JMember.calls k1 a1_0 a1_1 a1_2 a1_3 _ _ l1_4 _ _ l1_5 (rdOf ByteArray.empty l0_4 x5_1) t362 _ ?side1 ?side2 ?side3 ?side4 A7.out).mono ?_
      (case side1 => repeat (first | exact (Kd.C_below HR1_4.out HB.out) | (with_reducible refine Kd.C_alloc ?_ _) | (with_reducible refine Kd.C_drewN ?_ _) | (with_reducible refine Kd.C_drew ?_)))
      (case side2 => exact HC1_4.out)
      (case side3 => repeat (first | exact (Kd.C_below HR1_5.out HB.out) | (with_reducible refine Kd.C_alloc ?_ _) | (with_reducible refine Kd.C_drewN ?_ _) | (with_reducible refine Kd.C_drew ?_)))
      (case side4 => exact HC1_5.out)
      rintro e w12 ⟨rfl, hb⟩
      refine ⟨_, rfl, ?_⟩
      have n0_ := Aside0.mk (blk_below (g := gb359) (o := .cells #[.int .i64 a0_0, .bool a0_1, .int .i64 a0_2, .string a0_3, .slice (some ad361) l0_4.length c0_4, .slice A0_5 l0_5.length c0_5] 27 (0, 0)) (by (with_reducible repeat (first | refine blk_drewN ?_ _ | refine blk_drew ?_ | refine blk_alloc ?_ _)); exact BK359.out) hb)
      have n1_ := Aside0.mk (blk_below (g := gb360) (o := .cells #[.int .i64 a1_0, .bool a1_1, .int .i64 a1_2, .string a1_3, .slice A1_4 l1_4.length c1_4, .slice A1_5 l1_5.length c1_5] 27 (0, 0)) (by (with_reducible repeat (first | refine blk_drewN ?_ _ | refine blk_drew ?_ | refine blk_alloc ?_ _)); exact BK360.out) hb)
      have n2_ := Aside0.mk (below_step (by repeat (first | (with_reducible first | exact HB.out | apply below_alloc | apply pw_below_drewN | apply below_drew1 | refine below_set ?_ GE359.out | refine below_set ?_ GE360.out) | exact HB.out)) hb)
      clear BK359
      clear BK360
      clear HB
      have BK359 := n0_
      have BK360 := n1_
      have HB := n2_
      clear n0_ n1_ n2_
      (try clear hb)
      (try clear hb2)
      (try clear hk)
      (try clear hi)
      refine hK.out _ _ ⟨(blk_cell BK360.out 0).trans rfl, (blk_cell BK360.out 1).trans rfl, (blk_cell BK360.out 2).trans rfl, (blk_cell BK360.out 3).trans rfl, (blk_cell BK360.out 4).trans rfl, (blk_cell BK360.out 5).trans rfl, (blk_cell BK359.out 0).trans rfl, (blk_cell BK359.out 1).trans rfl, (blk_cell BK359.out 2).trans rfl, (blk_cell BK359.out 3).trans rfl, (blk_cell BK359.out 4).trans rfl, (blk_cell BK359.out 5).trans rfl, ((HB.out.cell (World.block_lt_of_cell? w _ hw361_0)).trans hw361_0)⟩ (fun hHeld => ?_)
      clear hK K
      refine norm_ (a' := ?_) ?_ ?_
      rotate_left
      ·show Act.put _ (some 19) _ = _
       simp only [Act.put, List.setIfInBounds_toArray, List.set_cons_zero, List.set_cons_succ, i64_w, i32_w]
       rfl
      refine pure_ (i := 7) (N := some 20) (v := ?_) (a' := ?_) #[true, true, true, true, true, true, true, true] J J (any_of HT_.out (by kernel_rfl)) (fun _ _ _ h => h) (Or.inl ⟨by rfl, ?_⟩) ?_ ?_
      rotate_left
      ·intro w'
       go_simp
       with_reducible rfl
      rotate_left
      ·simp only [Act.put, List.setIfInBounds_toArray, List.set_cons_zero, List.set_cons_succ, i64_w, i32_w]
       rfl
      refine done_ (done_of HT_.out (by kernel_rfl)) ?_
      try go_wp2
      go_ret
      exact ⟨by first | rfl | (simp [errW_none, errW_some] <;> rfl) | (simp [*, errW_none, errW_some] <;> rfl), by repeat (first | (with_reducible first | exact HB.out | apply below_alloc | apply pw_below_drewN | apply below_drew1 | refine below_set ?_ GE359.out | refine below_set ?_ GE360.out) | exact HB.out)⟩
     ·rw [if_neg c8] at H
      have c8b0 : decide (t362 < 0) = false := decide_eq_false c8
      clear c8
      have H' := Aside0.mk H
      clear H
      have hnb13 := NB359_360.out
      have hnc13 := NB360_359.out
      have hcz14_0 : wr.cell? ⟨gb359, 0, none⟩ = some (.int .i64 a0_0) := (blk_cell BK359.out 0).trans rfl
      have hcz14_1 : wr.cell? ⟨gb359, 1, none⟩ = some (.bool a0_1) := (blk_cell BK359.out 1).trans rfl
      have hcz14_2 : wr.cell? ⟨gb359, 2, none⟩ = some (.int .i64 a0_2) := (blk_cell BK359.out 2).trans rfl
      have hcz14_3 : wr.cell? ⟨gb359, 3, none⟩ = some (.string a0_3) := (blk_cell BK359.out 3).trans rfl
      have hcz14_4 : wr.cell? ⟨gb359, 4, none⟩ = some (.slice A0_4 l0_4.length c0_4) := (blk_cell BK359.out 4).trans rfl
      have hcz14_5 : wr.cell? ⟨gb359, 5, none⟩ = some (.slice A0_5 l0_5.length c0_5) := (blk_cell BK359.out 5).trans rfl
      have hfz14_0 := blk_frozen BK359.out 0
      have hfz14_1 := blk_frozen BK359.out 1
      have hfz14_2 := blk_frozen BK359.out 2
      have hfz14_3 := blk_frozen BK359.out 3
      have hfz14_4 := blk_frozen BK359.out 4
      have hfz14_5 := blk_frozen BK359.out 5
      try go_wp2
      have n0_ := Aside0.mk (blk_drew BK359.out)
      have n1_ := Aside0.mk (blk_drew BK360.out)
      have n2_ := Aside0.mk (below_drew1 HB.out)
      clear BK359
      clear BK360
      clear HB
      have BK359 := n0_
      have BK360 := n1_
      have HB := n2_
      clear n0_ n1_ n2_
      have p361 : 0 ≤ (x5_1 : Int) := of_decide_eq_true (by first | (with_reducible assumption) | assumption)
      have q361 : x5_1 < (l0_4.length : Int) := of_decide_eq_true (by first | (with_reducible assumption) | assumption)
      obtain ⟨ad361, e361, hx361_0⟩ := Kd.at_string HR0_4.out x5_1 p361 q361
      have hw361_0 := hx361_0
      cases e361
      replace hx361_0 := (HB.out.cell (World.block_lt_of_cell? w _ hx361_0)).trans hx361_0
      replace p361 := eq_true p361
      replace q361 := eq_true q361
      refine start_ (n := 8) (S := fun w' => w'.cell? ⟨gb360, 0, none⟩ = some (.int .i64 a1_0) ∧ w'.cell? ⟨gb360, 1, none⟩ = some (.bool a1_1) ∧ w'.cell? ⟨gb360, 2, none⟩ = some (.int .i64 a1_2) ∧ w'.cell? ⟨gb360, 3, none⟩ = some (.string a1_3) ∧ w'.cell? ⟨gb360, 4, none⟩ = some (.slice A1_4 l1_4.length c1_4) ∧ w'.cell? ⟨gb360, 5, none⟩ = some (.slice A1_5 l1_5.length c1_5) ∧ w'.cell? ⟨gb359, 0, none⟩ = some (.int .i64 a0_0) ∧ w'.cell? ⟨gb359, 1, none⟩ = some (.bool a0_1) ∧ w'.cell? ⟨gb359, 2, none⟩ = some (.int .i64 a0_2) ∧ w'.cell? ⟨gb359, 3, none⟩ = some (.string a0_3) ∧ w'.cell? ⟨gb359, 4, none⟩ = some (.slice (some ad361) l0_4.length c0_4) ∧ w'.cell? ⟨gb359, 5, none⟩ = some (.slice A0_5 l0_5.length c0_5) ∧ w'.cell? (ad361.add (x5_1).toNat) = some (.string (rdOf ByteArray.empty l0_4 x5_1))) (ds := []) #[false, false, false, false, false, false, false, false] (by kernel_rfl) J J ⟨(blk_cell BK360.out 0).trans rfl, (blk_cell BK360.out 1).trans rfl, (blk_cell BK360.out 2).trans rfl, (blk_cell BK360.out 3).trans rfl, (blk_cell BK360.out 4).trans rfl, (blk_cell BK360.out 5).trans rfl, (blk_cell BK359.out 0).trans rfl, (blk_cell BK359.out 1).trans rfl, (blk_cell BK359.out 2).trans rfl, (blk_cell BK359.out 3).trans rfl, (blk_cell BK359.out 4).trans rfl, (blk_cell BK359.out 5).trans rfl, ((HB.out.cell (World.block_lt_of_cell? w _ hw361_0)).trans hw361_0)⟩ (fun hHeld => ?_); refine with_tabW spec_jHas.tab4 spec_jHas.bits4 (fun HT_ HW_ => ?_)
      generalize wr.drew = w15 at BK359 BK360 HB hx361_0 hHeld ⊢
      refine pure_ (i := 1) (N := some 14) (v := ?_) (a' := ?_) #[false, true, false, false, false, false, false, false] J J (any_of HT_.out (by kernel_rfl)) (fun _ _ _ h => h) (Or.inl ⟨by rfl, ?_⟩) ?_ ?_
      rotate_left
      ·intro w'
       go_simp
       with_reducible rfl
      rotate_left
      ·simp only [Act.put, List.setIfInBounds_toArray, List.set_cons_zero, List.set_cons_succ, i64_w, i32_w]
       rfl
      refine pure_ (i := 3) (N := some 16) (v := ?_) (a' := ?_) #[false, true, false, true, false, false, false, false] J J (any_of HT_.out (by kernel_rfl)) (fun _ _ _ h => h) (Or.inl ⟨by rfl, ?_⟩) ?_ ?_
      rotate_left
      ·intro w'
       go_simp
       with_reducible rfl
      rotate_left
      ·simp only [Act.put, List.setIfInBounds_toArray, List.set_cons_zero, List.set_cons_succ, i64_w, i32_w]
       rfl
      refine take_ (i := 0) (N := some 13) (v := ?_) (a' := ?_) #[true, true, false, true, false, false, false, false] J J (take_ofW HT_.out HW_.out (by kernel_rfl)) (fun _ _ _ h => h) (Or.inl ⟨by rfl, ?_⟩) hHeld ?_ ?_
      rotate_left
      ·rintro w' ⟨s0, s1, s2, s3, s4, s5, s6, s7, s8, s9, s10, s11, s12⟩
       go_simp
       with_reducible rfl
      rotate_left
      ·simp only [Act.put, List.setIfInBounds_toArray, List.set_cons_zero, List.set_cons_succ, i64_w, i32_w]
       rfl
      refine take_ (i := 2) (N := some 15) (v := ?_) (a' := ?_) #[true, true, true, true, false, false, false, false] J J (take_ofW HT_.out HW_.out (by kernel_rfl)) (fun _ _ _ h => h) (Or.inl ⟨by rfl, ?_⟩) hHeld ?_ ?_
      rotate_left
      ·rintro w' ⟨s0, s1, s2, s3, s4, s5, s6, s7, s8, s9, s10, s11, s12⟩
       go_simp
       with_reducible rfl
      rotate_left
      ·simp only [Act.put, List.setIfInBounds_toArray, List.set_cons_zero, List.set_cons_succ, i64_w, i32_w]
       rfl
      refine pure_ (i := 4) (N := some 17) (v := ?_) (a' := ?_) #[true, true, true, true, true, false, false, false] J J (any_of HT_.out (by kernel_rfl)) (fun _ _ _ h => h) (Or.inl ⟨by rfl, ?_⟩) ?_ ?_
      rotate_left
      ·intro w'
       go_simp
       with_reducible rfl
      rotate_left
      ·simp only [Act.put, List.setIfInBounds_toArray, List.set_cons_zero, List.set_cons_succ, i64_w, i32_w]
       rfl
      refine take_ (i := 5) (N := some 18) (v := ?_) (a' := ?_) #[true, true, true, true, true, true, false, false] J J (take_ofW HT_.out HW_.out (by kernel_rfl)) (fun _ _ _ h => h) (Or.inl ⟨by rfl, ?_⟩) hHeld ?_ ?_
      rotate_left
      ·rintro w' ⟨s0, s1, s2, s3, s4, s5, s6, s7, s8, s9, s10, s11, s12⟩
       go_simp
       with_reducible rfl
      rotate_left
      ·simp only [Act.put, List.setIfInBounds_toArray, List.set_cons_zero, List.set_cons_succ, i64_w, i32_w]
       rfl
      refine one_ (i := 6) (N := some 19) #[true, true, true, true, true, true, true, false] J J (one_of HT_.out (by kernel_rfl)) (by decide) (fun K hK => ?_)
      refine goes_ Tryz.func63 (by kernel_rfl) rfl #[.agg #[.int .i64 a1_0, .bool a1_1, .int .i64 a1_2, .string a1_3, .slice A1_4 l1_4.length c1_4, .slice A1_5 l1_5.length c1_5], .string (rdOf ByteArray.empty l0_4 x5_1)] (by rfl) J J (by (try simp only [List.map_toArray, List.map_cons, List.map_nil]); first | done | rfl | (simp only [List.length_drop, List.length_take]; rfl)) ?_
      with_reducible refine (spec_JMember.calls k1 a1_0 a1_1 a1_2 a1_3 _ _ l1_4 _ _ l1_5 (rdOf ByteArray.empty l0_4 x5_1) t362 _ ?side1 ?side2 ?side3 ?side4 A7.out).mono ?_
      (case side1 => repeat (first | exact (Kd.C_below HR1_4.out HB.out) | (with_reducible refine Kd.C_alloc ?_ _) | (with_reducible refine Kd.C_drewN ?_ _) | (with_reducible refine Kd.C_drew ?_)))
      (case side2 => exact HC1_4.out)
      (case side3 => repeat (first | exact (Kd.C_below HR1_5.out HB.out) | (with_reducible refine Kd.C_alloc ?_ _) | (with_reducible refine Kd.C_drewN ?_ _) | (with_reducible refine Kd.C_drew ?_)))
      (case side4 => exact HC1_5.out)
      rintro e w16 ⟨rfl, hb⟩
      refine ⟨_, rfl, ?_⟩
      have n0_ := Aside0.mk (blk_below (g := gb359) (o := .cells #[.int .i64 a0_0, .bool a0_1, .int .i64 a0_2, .string a0_3, .slice (some ad361) l0_4.length c0_4, .slice A0_5 l0_5.length c0_5] 27 (0, 0)) (by (with_reducible repeat (first | refine blk_drewN ?_ _ | refine blk_drew ?_ | refine blk_alloc ?_ _)); exact BK359.out) hb)
      have n1_ := Aside0.mk (blk_below (g := gb360) (o := .cells #[.int .i64 a1_0, .bool a1_1, .int .i64 a1_2, .string a1_3, .slice A1_4 l1_4.length c1_4, .slice A1_5 l1_5.length c1_5] 27 (0, 0)) (by (with_reducible repeat (first | refine blk_drewN ?_ _ | refine blk_drew ?_ | refine blk_alloc ?_ _)); exact BK360.out) hb)
      have n2_ := Aside0.mk (below_step (by repeat (first | (with_reducible first | exact HB.out | apply below_alloc | apply pw_below_drewN | apply below_drew1 | refine below_set ?_ GE359.out | refine below_set ?_ GE360.out) | exact HB.out)) hb)
      clear BK359
      clear BK360
      clear HB
      have BK359 := n0_
      have BK360 := n1_
      have HB := n2_
      clear n0_ n1_ n2_
      (try clear hb)
      (try clear hb2)
      (try clear hk)
      (try clear hi)
      refine hK.out _ _ ⟨(blk_cell BK360.out 0).trans rfl, (blk_cell BK360.out 1).trans rfl, (blk_cell BK360.out 2).trans rfl, (blk_cell BK360.out 3).trans rfl, (blk_cell BK360.out 4).trans rfl, (blk_cell BK360.out 5).trans rfl, (blk_cell BK359.out 0).trans rfl, (blk_cell BK359.out 1).trans rfl, (blk_cell BK359.out 2).trans rfl, (blk_cell BK359.out 3).trans rfl, (blk_cell BK359.out 4).trans rfl, (blk_cell BK359.out 5).trans rfl, ((HB.out.cell (World.block_lt_of_cell? w _ hw361_0)).trans hw361_0)⟩ (fun hHeld => ?_)
      clear hK K
      refine norm_ (a' := ?_) ?_ ?_
      rotate_left
      ·show Act.put _ (some 19) _ = _
       simp only [Act.put, List.setIfInBounds_toArray, List.set_cons_zero, List.set_cons_succ, i64_w, i32_w]
       rfl
      refine pure_ (i := 7) (N := some 20) (v := ?_) (a' := ?_) #[true, true, true, true, true, true, true, true] J J (any_of HT_.out (by kernel_rfl)) (fun _ _ _ h => h) (Or.inl ⟨by rfl, ?_⟩) ?_ ?_
      rotate_left
      ·intro w'
       go_simp
       with_reducible rfl
      rotate_left
      ·simp only [Act.put, List.setIfInBounds_toArray, List.set_cons_zero, List.set_cons_succ, i64_w, i32_w]
       rfl
      refine done_ (done_of HT_.out (by kernel_rfl)) ?_
      try go_wp2
      go_roundg k1
      case measure => have := HK1.out; omega
      case rel => exact ⟨(wrap64 (x5_1 + 1)), (by first | rfl | (simp; done) | (simp [*]; done)), H', ⟨by have := HK1.out; omega⟩, ⟨by (with_reducible repeat (first | refine blk_drewN ?_ _ | refine blk_drew ?_ | refine blk_alloc ?_ _)); exact BK359.out⟩, ⟨by (with_reducible repeat (first | refine blk_drewN ?_ _ | refine blk_drew ?_ | refine blk_alloc ?_ _)); exact BK360.out⟩, ⟨by repeat (first | (with_reducible first | exact HB.out | apply below_alloc | apply pw_below_drewN | apply below_drew1 | refine below_set ?_ GE359.out | refine below_set ?_ GE360.out) | exact HB.out)⟩⟩
    ·rw [if_neg c6] at H
     exact absurd H (by simp)
   ·rw [if_neg c5] at H
    have c5b0 : decide (x5_1 < (l0_4.length : Int)) = false := decide_eq_false c5
    clear c5
    obtain rfl := Option.some.inj H
    have hnb17 := NB359_360.out
    have hnc17 := NB360_359.out
    have hcz18_0 : wr.cell? ⟨gb359, 0, none⟩ = some (.int .i64 a0_0) := (blk_cell BK359.out 0).trans rfl
    have hcz18_1 : wr.cell? ⟨gb359, 1, none⟩ = some (.bool a0_1) := (blk_cell BK359.out 1).trans rfl
    have hcz18_2 : wr.cell? ⟨gb359, 2, none⟩ = some (.int .i64 a0_2) := (blk_cell BK359.out 2).trans rfl
    have hcz18_3 : wr.cell? ⟨gb359, 3, none⟩ = some (.string a0_3) := (blk_cell BK359.out 3).trans rfl
    have hcz18_4 : wr.cell? ⟨gb359, 4, none⟩ = some (.slice A0_4 l0_4.length c0_4) := (blk_cell BK359.out 4).trans rfl
    have hcz18_5 : wr.cell? ⟨gb359, 5, none⟩ = some (.slice A0_5 l0_5.length c0_5) := (blk_cell BK359.out 5).trans rfl
    have hfz18_0 := blk_frozen BK359.out 0
    have hfz18_1 := blk_frozen BK359.out 1
    have hfz18_2 := blk_frozen BK359.out 2
    have hfz18_3 := blk_frozen BK359.out 3
    have hfz18_4 := blk_frozen BK359.out 4
    have hfz18_5 := blk_frozen BK359.out 5
    go_wp2
    go_ret
    exact ⟨by first | rfl | (simp [errW_none, errW_some] <;> rfl) | (simp [*, errW_none, errW_some] <;> rfl), by repeat (first | (with_reducible first | exact HB.out | apply below_alloc | apply pw_below_drewN | apply below_drew1 | refine below_set ?_ GE359.out | refine below_set ?_ GE360.out) | exact HB.out)⟩
end Go.Proofs.YtlkikblohnnlcaaGreatDoor.R
end
