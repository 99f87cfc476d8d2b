/-
  A walk by symbolic states, layer 0: runs with the draws hidden, and a region whose operations may go in any order, by its operations in the text's order; Regions whose operations may come in several orders, two of which are walked; Regions whose operations may come in several orders: a plan of all of them; A walk by symbolic states, layer 1: what memory holds, part by part; the frame's slots by their values; the rules for code; A walk by symbolic states, layer 2: the rules for single operations; A walk by symbolic states, layer 2: the operations that compute, and those on cells; A walk by symbolic states, layer 2: calls, sums without wraps, comparisons; A walk by symbolic states, layer 2: slices; A walk by symbolic states, layer 2: making, cutting and indexing slices; structs by value; A walk by symbolic states, layer 2: maps whose keys are texts. Conditions: none.
-/
import Derived.Calls
import Derived.Orders
import Derived.Laws.Rows
import Derived.Below
import Derived.Tactics
import Derived.Laws.CopyRow
import Derived.Maps.AppendAt
import Derived.Laws.MakeOwn
set_option linter.unusedVariables false
set_option linter.unusedSimpArgs false
namespace Go.Proofs.YtppkiiomedembaaGreatDoor
open Go
/-! ### runs with the draws hidden -/
def wat (w : World) (n : Nat) : World := { w with drawn := n }
def nrm (w : World) : World := { w with drawn := 0 }
theorem wat_nrm (w : World) (n : Nat) : wat (nrm w) n = wat w n := rfl
theorem nrm_wat (w : World) (n : Nat) : nrm (wat w n) = nrm w := rfl
theorem wat_self (w : World) : wat w w.drawn = w := rfl
def TT (P : Program) (f : FuncId) (R : Value → World → Prop) (k : List Item) (a : Act) (w : World) : Prop :=
  ∀ (n : Nat) (b : Frame) (cs : List Frame), b.fn = f → b.kind = .normal →
    ∃ v w' fr, R v (nrm w') ∧ Steps P (lone (b.at a k) cs (wat w n)) (lone fr cs w') ∧ fr.fn = f ∧ fr.leaving P w' (.returned v)
def CH (P : Program) (f : FuncId) (args : Array Value) (w : World) (R : Value → World → Prop) : Prop :=
  ∀ n, Calls P f args (wat w n) fun e w' => ∃ v, e = .returned v ∧ R v (nrm w')
theorem CH.mono {P : Program} {f : FuncId} {args : Array Value} {w : World} {R R' : Value → World → Prop} (h : CH P f args w R) (hr : ∀ v w', R v w' → R' v w') : CH P f args w R' :=
  fun n => (h n).mono fun _ _ ⟨v, he, hv⟩ => ⟨v, he, hr _ _ hv⟩
theorem ch_of_tt {P : Program} {f : FuncId} {fn : Func} {c : Code} {args : Array Value} {w : World} {R : Value → World → Prop}
    (hf : P.funcs[f]? = some fn) (hb : fn.body = some c)
    (h : TT P f R [.code c] { tmps := args ++ Array.replicate (fn.ntmps - args.size) undef, defers := [] } w) : CH P f args w R := by
  intro n cs
  let b : Frame := { (default : Frame) with fn := f, kind := .normal }
  have henter : Frame.enter P f args .normal =
      b.at { tmps := args ++ Array.replicate (fn.ntmps - args.size) undef, defers := [] } [.code c] := by
    simp [Frame.enter, Frame.at, hf, hb, b]
  obtain ⟨v, w', fr, hR, hs, hfn, hl⟩ := h n b cs rfl rfl
  rw [← henter] at hs
  exact ⟨.returned v, w', fr, ⟨v, rfl, hR⟩, hs, hfn, hl⟩
section rules
variable {P : Program} {f : FuncId} {R : Value → World → Prop} {k : List Item} {a : Act} {w : World}
theorem TT.of_step {k' : List Item} {a' : Act} (hs : ∀ n (b : Frame) cs, step P (lone (b.at a k) cs (wat w n)) = .next (lone (b.at a' k') cs (wat w n))) (h : TT P f R k' a' w) : TT P f R k a w :=
  fun n b cs hb hk => let ⟨v, w', fr, r, s, rest⟩ := h n b cs hb hk; ⟨v, w', fr, r, .head (hs n b cs) s, rest⟩
theorem tt_skip (h : TT P f R k a w) : TT P f R (.code .skip :: k) a w := .of_step (fun _ _ _ => step_skip) h
theorem tt_inBlock {i : Nat} (h : TT P f R k a w) : TT P f R (.inBlock i :: k) a w := .of_step (fun _ _ _ => step_inBlock) h
theorem tt_seq {x y : Code} (h : TT P f R (.code x :: .code y :: k) a w) : TT P f R (.code (.seq x y) :: k) a w := .of_step (fun _ _ _ => step_seq) h
theorem tt_cond {c : Operand} {x y : Code} {t : Bool} (hc : a.eval c = .bool t) (h : TT P f R (.code (if t then x else y) :: k) a w) : TT P f R (.code (.cond c x y) :: k) a w := .of_step (fun _ _ _ => step_cond hc) h
theorem tt_block {i : Nat} {c : Code} (h : TT P f R (.code c :: .inBlock i :: k) a w) : TT P f R (.code (.block i c) :: k) a w := .of_step (fun _ _ _ => step_block) h
theorem tt_loop {c : Code} (h : TT P f R (.code c :: .inLoop c :: k) a w) : TT P f R (.code (.loop c) :: k) a w := .of_step (fun _ _ _ => step_loop) h
theorem tt_inLoop {c : Code} (h : TT P f R (.code c :: .inLoop c :: k) a w) : TT P f R (.inLoop c :: k) a w := .of_step (fun _ _ _ => step_inLoop) h
theorem tt_exit {i : Nat} {k' : List Item} (hk : exitTo i k = some k') (h : TT P f R k' a w) : TT P f R (.code (.exit i) :: k) a w := .of_step (fun _ _ _ => step_exit hk) h
theorem tt_leave {fn : Func} {v : Value} (hf : P.funcs[f]? = some fn) (hd : a.defers = []) (hr : ∀ n, (results fn a.tmps).run P (wat w n) = .ok v (wat w n)) (h : R v (nrm w)) : TT P f R (.code .ret :: k) a w :=
  fun n b cs hb hk => ⟨v, wat w n, _, h, .one step_ret, hb, rfl, hd, hk, fn, by rw [← hb] at hf; exact hf, hr n⟩
theorem tt_end {fn : Func} {v : Value} (hf : P.funcs[f]? = some fn) (hd : a.defers = []) (hr : ∀ n, (results fn a.tmps).run P (wat w n) = .ok v (wat w n)) (h : R v (nrm w)) : TT P f R [] a w :=
  fun n b cs hb hk => ⟨v, wat w n, _, h, .one step_end, hb, rfl, hd, hk, fn, by rw [← hb] at hf; exact hf, hr n⟩
end rules
/-! ### one operation -/
def RunN (P : Program) (o : Oper) (ρ : Operand → Value) (w : World) (N : Value → World → Prop) : Prop :=
  match (execOp ρ o).run P w with
  | .ok (.value v) w' => N v w'
  | .ok .skip w' => N undef w'
  | .ok (.enter f args) w' => Calls P f args w' fun e w'' => ∃ v, e = .returned v ∧ N v w''
  | _ => False
theorem RunN.mono {P : Program} {o : Oper} {ρ : Operand → Value} {w : World} {N N' : Value → World → Prop} (hn : ∀ v w', N v w' → N' v w') (h : RunN P o ρ w N) : RunN P o ρ w N' := by
  unfold RunN at *
  generalize (execOp ρ o).run P w = r at *
  cases r with
  | ok n w' => cases n <;> simp only at h ⊢ <;> first | exact hn _ _ h | exact h.elim | exact h.mono fun _ _ ⟨v, e, hv⟩ => ⟨v, e, hn _ _ hv⟩
  | halt x w' => exact h
theorem RunN.some_out {P : Program} {o : Oper} {ρ : Operand → Value} {w : World} {N : Value → World → Prop} (h : RunN P o ρ w N) : ∃ v w', N v w' := by
  unfold RunN at h
  generalize (execOp ρ o).run P w = r at *
  cases r with
  | ok n w' =>
    cases n <;> simp only at h <;> first | exact ⟨_, _, h⟩ | exact h.elim | (obtain ⟨e, w'', _, ⟨v, _, hv⟩, _⟩ := h []; exact ⟨_, _, hv⟩)
  | halt x w' => exact h.elim
theorem RunN.wp {P : Program} {o : Oper} {a : Act} {w : World} {N : Value → World → Prop} {K : Act → World → Prop} {Q : Exit → Act → World → Prop}
    (h : RunN P o a.eval w N) (hk : ∀ v w', N v w' → K (a.put o.dst v) w') : o.wp P a w K Q := by
  unfold RunN at h
  unfold Oper.wp
  generalize (execOp a.eval o).run P w = r at *
  cases r with
  | ok n w' =>
    cases n <;> simp only [Oper.upon] at h ⊢ <;> first | exact hk _ _ h | exact h.elim | exact h.mono fun _ _ ⟨v, e, hv⟩ => by subst e; exact hk _ _ hv
  | halt x w' => exact h.elim
inductive Cls where
  | pure | read | gar | new | any
  deriving DecidableEq
def Ext (w w' : World) : Prop := ∀ (g : Nat) (o : Obj), w.heap[g]? = some o → w'.heap[g]? = some o
theorem Ext.refl (w : World) : Ext w w := fun _ _ h => h
theorem Ext.trans {a b c : World} (h : Ext a b) (h' : Ext b c) : Ext a c := fun g o hg => h' g o (h g o hg)
theorem Ext.alloc (w : World) (o : Obj) : Ext w (w.alloc o) := fun g _ hg => (heap_alloc_old w o g (Array.getElem?_eq_some_iff.1 hg).1).trans hg
structure Gx (w w' : World) : Prop where
  ext : Ext w w'
  os : w'.os = w.os
  tape : w'.tape = w.tape
  output : w'.output = w.output
theorem Gx.refl (w : World) : Gx w w := ⟨Ext.refl w, rfl, rfl, rfl⟩
theorem Gx.trans {a b c : World} (h : Gx a b) (h' : Gx b c) : Gx a c := ⟨h.ext.trans h'.ext, h'.os.trans h.os, h'.tape.trans h.tape, h'.output.trans h.output⟩
def QYields (P : Program) (ops : Array Oper) (o : Oper) (v : Value) (a : Act) (w : World) : Prop :=
  (Region.wanted o (yielded ops a.tmps) = true ∧ ∀ w1, Ext w w1 → ∀ n, RunN P o a.eval (wat w1 n) fun v' w' => v' = v ∧ nrm w' = nrm w1) ∨
  (Region.wanted o (yielded ops a.tmps) = false ∧ v = undef)
def OpN (P : Program) (o : Oper) (ρ : Operand → Value) (w : World) (N : Value → World → Prop) : Prop :=
  ∀ n, RunN P o ρ (wat w n) fun v w' => N v (nrm w')
def stepT (P : Program) (ops : Array Oper) (c : Cls) (o : Oper) (a : Act) (w : World) (K : Act → World → Prop) : Prop :=
  match c with
  | .pure => ∃ v, Yields P ops o v a ∧ K (a.put o.dst v) w
  | .read => ∃ v, QYields P ops o v a w ∧ K (a.put o.dst v) w
  | .gar => (Region.wanted o (yielded ops a.tmps) = true → ∃ v, (∀ w1, Gx w w1 → ∀ n, RunN P o a.eval (wat w1 n) fun v' w' => v' = v ∧ Gx w1 (nrm w')) ∧ ∀ w', Gx w w' → K (a.put o.dst v) w') ∧
      (Region.wanted o (yielded ops a.tmps) = false → K (a.put o.dst undef) w)
  | .new => (Region.wanted o (yielded ops a.tmps) = true → OpN P o a.eval w fun v w' => Gx w w' ∧ ∀ w2, Gx w' w2 → K (a.put o.dst v) w2) ∧
      (Region.wanted o (yielded ops a.tmps) = false → K (a.put o.dst undef) w)
  | .any => (Region.wanted o (yielded ops a.tmps) = true → OpN P o a.eval w fun v w' => K (a.put o.dst v) w') ∧
      (Region.wanted o (yielded ops a.tmps) = false → K (a.put o.dst undef) w)
def TR (P : Program) (ops : Array Oper) (cl : Nat → Cls) (K : Act → World → Prop) : List Nat → Act → World → Prop
  | [], a, w => K a (nrm w)
  | i :: r, a, w => ∃ o, ops[i]? = some o ∧ stepT P ops (cl i) o a w (TR P ops cl K r)
def Cls.fit : Cls → Cls → Bool
  | .pure, _ => true
  | _, .pure => true
  | .read, .read => true
  | .read, .gar => true
  | .read, .new => true
  | .gar, .gar => true
  | .gar, .new => true
  | _, _ => false
theorem stepT_mono {P : Program} {ops : Array Oper} {c : Cls} {o : Oper} {a : Act} {w : World} {K K' : Act → World → Prop} (hk : ∀ a w, K a w → K' a w) (h : stepT P ops c o a w K) : stepT P ops c o a w K' := by
  cases c with
  | pure => obtain ⟨v, hy, h⟩ := h; exact ⟨v, hy, hk _ _ h⟩
  | read => obtain ⟨v, hy, h⟩ := h; exact ⟨v, hy, hk _ _ h⟩
  | gar => exact ⟨fun hw => let ⟨v, h1, h2⟩ := h.1 hw; ⟨v, h1, fun w' h' => hk _ _ (h2 w' h')⟩, fun hw => hk _ _ (h.2 hw)⟩
  | new => exact ⟨fun hw n => (h.1 hw n).mono fun _ _ h => ⟨h.1, fun w2 h2 => hk _ _ (h.2 w2 h2)⟩, fun hw => hk _ _ (h.2 hw)⟩
  | any => exact ⟨fun hw n => (h.1 hw n).mono fun _ _ h => hk _ _ h, fun hw => hk _ _ (h.2 hw)⟩
theorem yields_uniq {P : Program} {ops : Array Oper} {o : Oper} {v u : Value} {a : Act} (h : Yields P ops o v a) (h' : Yields P ops o u a) : v = u := by
  rcases h with ⟨hw, h⟩ | ⟨hw, rfl⟩ <;> rcases h' with ⟨hw', h'⟩ | ⟨hw', rfl⟩
  · have := (h default).symm.trans (h' default)
    simpa using this
  · rw [hw] at hw'; cases hw'
  · rw [hw] at hw'; cases hw'
  · rfl
section swap
variable {P : Program} {ops : Array Oper} {oi oj : Oper} {a : Act} {w : World} {K : Act → World → Prop}
structure Swap (ops : Array Oper) (oi oj : Oper) : Prop where
  ap : oi.apart ops oj = true
  si : ∀ cs b, oi.op ≠ .select cs b
  sj : ∀ cs b, oj.op ≠ .select cs b
theorem Swap.ei (h : Swap ops oi oj) (a : Act) (v : Value) : execOp (a.put oj.dst v).eval oi = execOp a.eval oi := execOp_put (ops := ops) oi h.si a oj.dst v (Oper.apart_spec h.ap).2.2
theorem Swap.ej (h : Swap ops oi oj) (a : Act) (v : Value) : execOp (a.put oi.dst v).eval oj = execOp a.eval oj := execOp_put (ops := ops) oj h.sj a oi.dst v (Oper.apart_spec h.ap).1
theorem Swap.wi (h : Swap ops oi oj) (a : Act) (v : Value) : Region.wanted oi (yielded ops (a.put oj.dst v).tmps) = Region.wanted oi (yielded ops a.tmps) := wanted_put oi a oj.dst v (Oper.apart_spec h.ap).2.2
theorem Swap.wj (h : Swap ops oi oj) (a : Act) (v : Value) : Region.wanted oj (yielded ops (a.put oi.dst v).tmps) = Region.wanted oj (yielded ops a.tmps) := wanted_put oj a oi.dst v (Oper.apart_spec h.ap).1
theorem Swap.comm (h : Swap ops oi oj) (a : Act) (v u : Value) : (a.put oi.dst v).put oj.dst u = (a.put oj.dst u).put oi.dst v := Act.put_comm a v u (Oper.apart_spec h.ap).2.1
theorem RunN.congr {o : Oper} {ρ ρ' : Operand → Value} {N : Value → World → Prop} (e : execOp ρ' o = execOp ρ o) (h : RunN P o ρ w N) : RunN P o ρ' w N := by
  unfold RunN at *; rw [e]; exact h
theorem QYields.of_same {o : Oper} {v : Value} {a a' : Act} (hy : QYields P ops o v a w) (he : execOp a'.eval o = execOp a.eval o)
    (hw : Region.wanted o (yielded ops a'.tmps) = Region.wanted o (yielded ops a.tmps)) : QYields P ops o v a' w := by
  unfold QYields at *
  rw [hw]
  exact hy.imp (fun h => ⟨h.1, fun w1 h1 n => (h.2 w1 h1 n).congr he⟩) id
theorem QYields.ext {o : Oper} {v : Value} {w w1 : World} (hy : QYields P ops o v a w) (h : Ext w w1) : QYields P ops o v a w1 := hy.imp (fun h1 => ⟨h1.1, fun w2 h2 n => h1.2 w2 (h.trans h2) n⟩) id
theorem stepT_swap {ci cj : Cls} (hs : Swap ops oi oj) (hc : ci.fit cj = true) (h : stepT P ops ci oi a w fun a' w' => stepT P ops cj oj a' w' K) :
    stepT P ops cj oj a w fun a' w' => stepT P ops ci oi a' w' K := by
  cases ci with
  | pure =>
    obtain ⟨vi, hyi, h⟩ := h
    cases cj with
    | pure =>
      obtain ⟨vj, hyj, h⟩ := h
      exact ⟨vj, hyj.of_same (hs.ej a vi).symm (hs.wj a vi).symm, vi, hyi.of_same (hs.ei a vj) (hs.wi a vj), by rw [← hs.comm]; exact h⟩
    | read =>
      obtain ⟨vj, hyj, h⟩ := h
      exact ⟨vj, hyj.of_same (hs.ej a vi).symm (hs.wj a vi).symm, vi, hyi.of_same (hs.ei a vj) (hs.wi a vj), by rw [← hs.comm]; exact h⟩
    | gar =>
      refine ⟨fun hw => ?_, fun hw => ?_⟩
      · obtain ⟨vj, h1, h2⟩ := h.1 (by rw [hs.wj]; exact hw)
        exact ⟨vj, fun w1 hx n => (h1 w1 hx n).congr (hs.ej a vi).symm, fun w' h' => ⟨vi, hyi.of_same (hs.ei a vj) (hs.wi a vj), by rw [← hs.comm]; exact h2 w' h'⟩⟩
      · have h := h.2 (by rw [hs.wj]; exact hw)
        exact ⟨vi, hyi.of_same (hs.ei a _) (hs.wi a _), by rw [← hs.comm]; exact h⟩
    | new =>
      refine ⟨fun hw n => ?_, fun hw => ?_⟩
      · refine ((h.1 (by rw [hs.wj]; exact hw) n).congr (hs.ej a vi).symm).mono fun vj w' h => ⟨h.1, fun w2 h2 => ?_⟩
        exact ⟨vi, hyi.of_same (hs.ei a vj) (hs.wi a vj), by rw [← hs.comm]; exact h.2 w2 h2⟩
      · have h := h.2 (by rw [hs.wj]; exact hw)
        exact ⟨vi, hyi.of_same (hs.ei a _) (hs.wi a _), by rw [← hs.comm]; exact h⟩
    | any =>
      refine ⟨fun hw n => ?_, fun hw => ?_⟩
      · refine ((h.1 (by rw [hs.wj]; exact hw) n).congr (hs.ej a vi).symm).mono fun vj w' h => ?_
        exact ⟨vi, hyi.of_same (hs.ei a vj) (hs.wi a vj), by rw [← hs.comm]; exact h⟩
      · have h := h.2 (by rw [hs.wj]; exact hw)
        exact ⟨vi, hyi.of_same (hs.ei a _) (hs.wi a _), by rw [← hs.comm]; exact h⟩
  | read =>
    obtain ⟨vi, hyi, h⟩ := h
    cases cj with
    | pure =>
      obtain ⟨vj, hyj, h⟩ := h
      exact ⟨vj, hyj.of_same (hs.ej a vi).symm (hs.wj a vi).symm, vi, hyi.of_same (hs.ei a vj) (hs.wi a vj), by rw [← hs.comm]; exact h⟩
    | read =>
      obtain ⟨vj, hyj, h⟩ := h
      exact ⟨vj, hyj.of_same (hs.ej a vi).symm (hs.wj a vi).symm, vi, hyi.of_same (hs.ei a vj) (hs.wi a vj), by rw [← hs.comm]; exact h⟩
    | gar =>
      refine ⟨fun hw => ?_, fun hw => ?_⟩
      · obtain ⟨vj, h1, h2⟩ := h.1 (by rw [hs.wj]; exact hw)
        exact ⟨vj, fun w1 hx n => (h1 w1 hx n).congr (hs.ej a vi).symm, fun w' h' => ⟨vi, (hyi.of_same (hs.ei a vj) (hs.wi a vj)).ext h'.ext, by rw [← hs.comm]; exact h2 w' h'⟩⟩
      · have h := h.2 (by rw [hs.wj]; exact hw)
        exact ⟨vi, hyi.of_same (hs.ei a _) (hs.wi a _), by rw [← hs.comm]; exact h⟩
    | new =>
      refine ⟨fun hw n => ?_, fun hw => ?_⟩
      · refine ((h.1 (by rw [hs.wj]; exact hw) n).congr (hs.ej a vi).symm).mono fun vj w' h => ⟨h.1, fun w2 h2 => ?_⟩
        exact ⟨vi, (hyi.of_same (hs.ei a vj) (hs.wi a vj)).ext (h.1.trans h2).ext, by rw [← hs.comm]; exact h.2 w2 h2⟩
      · have h := h.2 (by rw [hs.wj]; exact hw)
        exact ⟨vi, hyi.of_same (hs.ei a _) (hs.wi a _), by rw [← hs.comm]; exact h⟩
    | any => cases hc
  | gar =>
    cases cj with
    | pure =>
      have hex : ∃ vi w', stepT P ops .pure oj (a.put oi.dst vi) w' K := by
        cases hw : Region.wanted oi (yielded ops a.tmps) with
        | true => obtain ⟨v, _, h'⟩ := h.1 hw; exact ⟨v, w, h' w (Gx.refl w)⟩
        | false => exact ⟨undef, w, h.2 hw⟩
      obtain ⟨v0, w0, vj, hyj, _⟩ := hex
      have hyj' : Yields P ops oj vj a := hyj.of_same (hs.ej a v0).symm (hs.wj a v0).symm
      refine ⟨vj, hyj', fun hw => ?_, fun hw => ?_⟩
      · obtain ⟨vi, h1, h2⟩ := h.1 (by rw [← hs.wi a vj]; exact hw)
        refine ⟨vi, fun w1 hx n => (h1 w1 hx n).congr (hs.ei a vj), fun w' h' => ?_⟩
        obtain ⟨u, hu, h⟩ := h2 w' h'
        have : u = vj := yields_uniq (hu.of_same (hs.ej a vi).symm (hs.wj a vi).symm) hyj'
        subst this
        rw [← hs.comm]; exact h
      · obtain ⟨u, hu, h⟩ := h.2 (by rw [← hs.wi a vj]; exact hw)
        have : u = vj := yields_uniq (hu.of_same (hs.ej a undef).symm (hs.wj a undef).symm) hyj'
        subst this
        rw [← hs.comm]; exact h
    | read => cases hc
    | gar =>
      refine ⟨fun hwj => ?_, fun hwj => ?_⟩
      · cases hwi : Region.wanted oi (yielded ops a.tmps) with
        | true =>
          obtain ⟨vi, h1, h2⟩ := h.1 hwi
          obtain ⟨vj, h3, h4⟩ := (h2 w (Gx.refl w)).1 (by rw [hs.wj]; exact hwj)
          refine ⟨vj, fun w1 hx n => (h3 w1 hx n).congr (hs.ej a vi).symm, fun w' h' => ⟨fun _ => ⟨vi, fun w1 hx n => (h1 w1 (h'.trans hx) n).congr (hs.ei a vj), fun w2 hx => ?_⟩, fun hw => ?_⟩⟩
          · rw [← hs.comm]; exact h4 w2 (h'.trans hx)
          · rw [hs.wi, hwi] at hw; cases hw
        | false =>
          obtain ⟨vj, h3, h4⟩ := (h.2 hwi).1 (by rw [hs.wj]; exact hwj)
          refine ⟨vj, fun w1 hx n => (h3 w1 hx n).congr (hs.ej a undef).symm, fun w' h' => ⟨fun hw => ?_, fun _ => ?_⟩⟩
          · rw [hs.wi, hwi] at hw; cases hw
          · rw [← hs.comm]; exact h4 w' h'
      · refine ⟨fun hwi => ?_, fun hwi => ?_⟩
        · rw [hs.wi] at hwi
          obtain ⟨vi, h1, h2⟩ := h.1 hwi
          refine ⟨vi, fun w1 hx n => (h1 w1 hx n).congr (hs.ei a undef), fun w2 hx => ?_⟩
          rw [← hs.comm]; exact (h2 w2 hx).2 (by rw [hs.wj]; exact hwj)
        · rw [hs.wi] at hwi
          rw [← hs.comm]; exact (h.2 hwi).2 (by rw [hs.wj]; exact hwj)
    | new =>
      refine ⟨fun hwj n => ?_, fun hwj => ?_⟩
      · cases hwi : Region.wanted oi (yielded ops a.tmps) with
        | true =>
          obtain ⟨vi, h1, h2⟩ := h.1 hwi
          refine (((h2 w (Gx.refl w)).1 (by rw [hs.wj]; exact hwj) n).congr (hs.ej a vi).symm).mono fun vj w' h3 => ⟨h3.1, fun w2 hx2 => ⟨fun _ => ⟨vi, fun w1 hx n => (h1 w1 ((h3.1.trans hx2).trans hx) n).congr (hs.ei a vj), fun w4 hx4 => ?_⟩, fun hw => ?_⟩⟩
          · rw [← hs.comm]; exact h3.2 w4 (hx2.trans hx4)
          · rw [hs.wi, hwi] at hw; cases hw
        | false =>
          refine (((h.2 hwi).1 (by rw [hs.wj]; exact hwj) n).congr (hs.ej a undef).symm).mono fun vj w' h3 => ⟨h3.1, fun w2 hx2 => ⟨fun hw => ?_, fun _ => ?_⟩⟩
          · rw [hs.wi, hwi] at hw; cases hw
          · rw [← hs.comm]; exact h3.2 w2 hx2
      · refine ⟨fun hwi => ?_, fun hwi => ?_⟩
        · rw [hs.wi] at hwi
          obtain ⟨vi, h1, h2⟩ := h.1 hwi
          refine ⟨vi, fun w1 hx n => (h1 w1 hx n).congr (hs.ei a undef), fun w2 hx => ?_⟩
          rw [← hs.comm]; exact (h2 w2 hx).2 (by rw [hs.wj]; exact hwj)
        · rw [hs.wi] at hwi
          rw [← hs.comm]; exact (h.2 hwi).2 (by rw [hs.wj]; exact hwj)
    | any => cases hc
  | new =>
    cases cj with
    | pure =>
      have hex : ∃ vi w', stepT P ops .pure oj (a.put oi.dst vi) w' K := by
        cases hw : Region.wanted oi (yielded ops a.tmps) with
        | true => obtain ⟨v, w', h'⟩ := (h.1 hw 0).some_out; exact ⟨v, _, h'.2 _ (Gx.refl _)⟩
        | false => exact ⟨undef, w, h.2 hw⟩
      obtain ⟨v0, w0, vj, hyj, _⟩ := hex
      have hyj' : Yields P ops oj vj a := hyj.of_same (hs.ej a v0).symm (hs.wj a v0).symm
      refine ⟨vj, hyj', fun hw n => ?_, fun hw => ?_⟩
      · refine ((h.1 (by rw [← hs.wi a vj]; exact hw) n).congr (hs.ei a vj)).mono fun vi w' h => ⟨h.1, fun w2 h2 => ?_⟩
        obtain ⟨u, hu, h⟩ := h.2 w2 h2
        have : u = vj := yields_uniq (hu.of_same (hs.ej a vi).symm (hs.wj a vi).symm) hyj'
        subst this
        rw [← hs.comm]; exact h
      · obtain ⟨u, hu, h⟩ := h.2 (by rw [← hs.wi a vj]; exact hw)
        have : u = vj := yields_uniq (hu.of_same (hs.ej a undef).symm (hs.wj a undef).symm) hyj'
        subst this
        rw [← hs.comm]; exact h
    | read => cases hc
    | gar => cases hc
    | new => cases hc
    | any => cases hc
  | any =>
    cases cj with
    | pure =>
      have hex : ∃ vi w', stepT P ops .pure oj (a.put oi.dst vi) w' K := by
        cases hw : Region.wanted oi (yielded ops a.tmps) with
        | true => obtain ⟨v, w', h'⟩ := (h.1 hw 0).some_out; exact ⟨v, _, h'⟩
        | false => exact ⟨undef, w, h.2 hw⟩
      obtain ⟨v0, w0, vj, hyj, _⟩ := hex
      have hyj' : Yields P ops oj vj a := hyj.of_same (hs.ej a v0).symm (hs.wj a v0).symm
      refine ⟨vj, hyj', fun hw n => ?_, fun hw => ?_⟩
      · refine ((h.1 (by rw [← hs.wi a vj]; exact hw) n).congr (hs.ei a vj)).mono fun vi w' h => ?_
        obtain ⟨u, hu, h⟩ := h
        have : u = vj := yields_uniq (hu.of_same (hs.ej a vi).symm (hs.wj a vi).symm) hyj'
        subst this
        rw [← hs.comm]; exact h
      · obtain ⟨u, hu, h⟩ := h.2 (by rw [← hs.wi a vj]; exact hw)
        have : u = vj := yields_uniq (hu.of_same (hs.ej a undef).symm (hs.wj a undef).symm) hyj'
        subst this
        rw [← hs.comm]; exact h
    | read => cases hc
    | gar => cases hc
    | new => cases hc
    | any => cases hc
end swap
/-! ### a region: its operations in the text's order stand for every order -/
theorem TR_front {P : Program} {ops : Array Oper} {cl : Nat → Cls} {K : Act → World → Prop} {j : Nat} {post : List Nat} : ∀ (pre : List Nat) (a : Act) (w : World),
    (∀ i ∈ pre, ∀ oi oj, ops[i]? = some oi → ops[j]? = some oj → Swap ops oi oj ∧ (cl i).fit (cl j) = true) →
    TR P ops cl K (pre ++ j :: post) a w → TR P ops cl K (j :: (pre ++ post)) a w
  | [], _, _, _, h => h
  | i :: pre, a, w, hp, h => by
    obtain ⟨oi, hoi, h⟩ := h
    have h2 := stepT_mono (fun a' w' h' => TR_front pre a' w' (fun i' hi' => hp i' (List.mem_cons_of_mem _ hi')) h') h
    have hoj : ∃ oj, ops[j]? = some oj := by
      have hex : ∃ a' w', TR P ops cl K (j :: (pre ++ post)) a' w' := by
        cases hc : cl i with
        | pure => rw [hc] at h2; obtain ⟨v, _, h3⟩ := h2; exact ⟨_, _, h3⟩
        | read => rw [hc] at h2; obtain ⟨v, _, h3⟩ := h2; exact ⟨_, _, h3⟩
        | gar =>
          rw [hc] at h2
          cases hw : Region.wanted oi (yielded ops a.tmps) with
          | true => obtain ⟨v, _, h'⟩ := h2.1 hw; exact ⟨_, _, h' w (Gx.refl w)⟩
          | false => exact ⟨_, _, h2.2 hw⟩
        | new =>
          rw [hc] at h2
          cases hw : Region.wanted oi (yielded ops a.tmps) with
          | true => obtain ⟨v, w', h'⟩ := (h2.1 hw 0).some_out; exact ⟨_, _, h'.2 _ (Gx.refl _)⟩
          | false => exact ⟨_, _, h2.2 hw⟩
        | any =>
          rw [hc] at h2
          cases hw : Region.wanted oi (yielded ops a.tmps) with
          | true => obtain ⟨v, w', h'⟩ := (h2.1 hw 0).some_out; exact ⟨_, _, h'⟩
          | false => exact ⟨_, _, h2.2 hw⟩
      obtain ⟨_, _, oj, hoj, _⟩ := hex
      exact ⟨oj, hoj⟩
    obtain ⟨oj, hoj⟩ := hoj
    obtain ⟨hs, hf⟩ := hp i (List.mem_cons_self ..) oi oj hoi hoj
    have h3 : stepT P ops (cl i) oi a w fun a' w' => stepT P ops (cl j) oj a' w' (TR P ops cl K (pre ++ post)) :=
      stepT_mono (fun a' w' h' => by obtain ⟨o', ho', h'⟩ := h'; rw [hoj] at ho'; cases ho'; exact h') h2
    refine ⟨oj, hoj, ?_⟩
    exact stepT_mono (fun a' w' h' => ⟨oi, hoi, h'⟩) (stepT_swap hs hf h3)
def nodupB : List Nat → Bool
  | [] => true
  | i :: l => !l.contains i && nodupB l
theorem nodupB_spec : ∀ {l : List Nat}, nodupB l = true → l.Nodup
  | [], _ => List.nodup_nil
  | i :: l, h => by
    simp only [nodupB, Bool.and_eq_true, Bool.not_eq_true'] at h
    exact List.nodup_cons.2 ⟨by have := h.1; simpa using this, nodupB_spec h.2⟩
def okBX (ops : Array Oper) (cl : Nat → Cls) (M pi : List Nat) (ex : Nat → Nat → Bool) : Bool :=
  Region.noSelect ops && nodupB pi && pi.all (fun i => decide (i < ops.size)) && pi.length == ops.size && (List.range ops.size).all fun i => pi.contains i && match ops[i]? with
    | none => false
    | some oi => (oi.after.all fun e => !Region.binds .any e || (decide (e.on < ops.size) && decide (pi.idxOf e.on < pi.idxOf i))) && (List.range ops.size).all fun j =>
      if (M.getD i 0).testBit j then oi.after.any fun e => Region.binds .any e && (e.on == j || (M.getD e.on 0).testBit j)
      else !decide (pi.idxOf j < pi.idxOf i) || ex i j || ((cl j).fit (cl i) && match ops[j]? with | some oj => oj.apart ops oi | none => false)
def okB (ops : Array Oper) (cl : Nat → Cls) (M pi : List Nat) : Bool := okBX ops cl M pi fun _ _ => false
structure OkRegion (ops : Array Oper) (cl : Nat → Cls) (M pi : List Nat) (ex : Nat → Nat → Bool) : Prop where
  sel : ∀ (j : Nat) (o : Oper) cs b, ops[j]? = some o → o.op ≠ .select cs b
  nd : pi.Nodup
  lt : ∀ i ∈ pi, i < ops.size
  len : pi.length = ops.size
  all : ∀ i, i < ops.size → i ∈ pi
  back : ∀ i oi, ops[i]? = some oi → ∀ e ∈ oi.after, Region.binds .any e = true → e.on < ops.size ∧ pi.idxOf e.on < pi.idxOf i
  mask : ∀ i oi, ops[i]? = some oi → ∀ j, j < ops.size → (M.getD i 0).testBit j = true → ∃ e ∈ oi.after, Region.binds .any e = true ∧ (e.on = j ∨ (M.getD e.on 0).testBit j = true)
  free : ∀ i oi, ops[i]? = some oi → ∀ j, j < ops.size → pi.idxOf j < pi.idxOf i → (M.getD i 0).testBit j = false → ex i j = false → (cl j).fit (cl i) = true ∧ ∃ oj, ops[j]? = some oj ∧ oj.apart ops oi = true
theorem okBX_spec {ops : Array Oper} {cl : Nat → Cls} {M pi : List Nat} {ex : Nat → Nat → Bool} (h : okBX ops cl M pi ex = true) : OkRegion ops cl M pi ex := by
  simp only [okBX, Bool.and_eq_true, beq_iff_eq] at h
  obtain ⟨⟨⟨⟨h0, hnd⟩, hlt0⟩, hlen⟩, h⟩ := h
  have hi : ∀ i oi, ops[i]? = some oi → (oi.after.all (fun e => !Region.binds .any e || (decide (e.on < ops.size) && decide (pi.idxOf e.on < pi.idxOf i))) = true) ∧ ((List.range ops.size).all fun j =>
      if (M.getD i 0).testBit j then oi.after.any fun e => Region.binds .any e && (e.on == j || (M.getD e.on 0).testBit j)
      else !decide (pi.idxOf j < pi.idxOf i) || ex i j || ((cl j).fit (cl i) && match ops[j]? with | some oj => oj.apart ops oi | none => false)) = true := by
    intro i oi hoi
    have h1 := List.all_eq_true.1 h i (List.mem_range.2 (Array.getElem?_eq_some_iff.1 hoi).1)
    simp only [hoi, Bool.and_eq_true] at h1
    exact h1.2
  refine ⟨fun j o cs b ho => Region.noSelect_spec h0 j o cs b ho, nodupB_spec hnd, fun i hi => of_decide_eq_true (List.all_eq_true.1 hlt0 i hi), hlen, fun i hi' => ?_, fun i oi hoi e he hb => ?_, fun i oi hoi j hj hm => ?_, fun i oi hoi j hj hlt hm hex => ?_⟩
  · have h1 := List.all_eq_true.1 h i (List.mem_range.2 hi')
    simp only [Bool.and_eq_true] at h1
    simpa using h1.1
  · have h1 := Array.all_eq_true_iff_forall_mem.1 (hi i oi hoi).1 e he
    simpa [hb] using h1
  · have h1 := List.all_eq_true.1 (hi i oi hoi).2 j (List.mem_range.2 hj)
    rw [if_pos hm] at h1
    obtain ⟨e, he, h2⟩ := Array.any_eq_true'.1 h1
    simp only [Bool.and_eq_true, Bool.or_eq_true, beq_iff_eq] at h2
    exact ⟨e, he, h2.1, h2.2⟩
  · have h1 := List.all_eq_true.1 (hi i oi hoi).2 j (List.mem_range.2 hj)
    rw [if_neg (by rw [hm]; simp), hex] at h1
    simp only [decide_eq_true hlt, Bool.not_true, Bool.false_or, Bool.and_eq_true] at h1
    refine ⟨h1.1, ?_⟩
    cases hoj : ops[j]? with
    | none => rw [hoj] at h1; simp at h1
    | some oj => rw [hoj] at h1; exact ⟨oj, rfl, h1.2⟩
theorem okB_spec {ops : Array Oper} {cl : Nat → Cls} {M pi : List Nat} (h : okB ops cl M pi = true) : OkRegion ops cl M pi fun _ _ => false := okBX_spec h
def left (pi : List Nat) (listed : Array Bool) : List Nat := pi.filter fun i => !listed.getD i true
def Shut (ops : Array Oper) (listed : Array Bool) : Prop :=
  ∀ j oj, ops[j]? = some oj → listed.getD j false = true → ∀ e ∈ oj.after, Region.binds .any e = true → listed.getD e.on false = true
theorem nodup_before {l : List Nat} (h : l.Nodup) : l.Pairwise (fun a b => l.idxOf a < l.idxOf b) := by
  rw [List.pairwise_iff_getElem]
  intro i j hi hj hij
  rw [List.Nodup.idxOf_getElem h, List.Nodup.idxOf_getElem h]
  exact hij
theorem getD_tf {listed : Array Bool} {i : Nat} (h : listed.getD i true = false) : listed.getD i false = false := by
  rcases Nat.lt_or_ge i listed.size with h' | h'
  · simp [h'] at h ⊢; exact h
  · simp [Array.getElem?_eq_none h'] at h
theorem getD_ft {listed : Array Bool} {i : Nat} (hi : i < listed.size) (h : listed.getD i true = true) : listed.getD i false = true := by
  simp [hi] at h ⊢; exact h
theorem mask_listed {ops : Array Oper} {cl : Nat → Cls} {M pi : List Nat} {ex : Nat → Nat → Bool} {listed : Array Bool} (ok : OkRegion ops cl M pi ex) (hc : Shut ops listed) :
    ∀ (d i : Nat) (oi : Oper), pi.idxOf i = d → ops[i]? = some oi → (∀ e ∈ oi.after, Region.binds .any e = true → listed.getD e.on false = true) →
    ∀ j, j < ops.size → (M.getD i 0).testBit j = true → listed.getD j false = true := by
  intro d
  induction d using Nat.strongRecOn with
  | _ d ih =>
    intro i oi hid hoi hl j hj hm
    obtain ⟨e, he, hb, h⟩ := ok.mask i oi hoi j hj hm
    rcases h with h | h
    · rw [← h]; exact hl e he hb
    · obtain ⟨hes, hlt⟩ := ok.back i oi hoi e he hb
      have hle := hl e he hb
      have hoe : ops[e.on]? = some ops[e.on] := Array.getElem?_eq_getElem hes
      exact ih (pi.idxOf e.on) (by omega) e.on _ rfl hoe (hc e.on _ hoe hle) j hj h
theorem left_set {pi : List Nat} {listed : Array Bool} {pre post : List Nat} {j : Nat} (hpi : pi.Nodup) (hl : left pi listed = pre ++ j :: post) (hj : j < listed.size) :
    left pi (listed.setIfInBounds j true) = pre ++ post := by
  have hnd : (pre ++ j :: post).Nodup := by rw [← hl]; exact List.Pairwise.filter _ hpi
  have e : left pi (listed.setIfInBounds j true) = (left pi listed).filter (fun i => i != j) := by
    unfold left
    rw [List.filter_filter]
    apply List.filter_congr
    intro i _
    by_cases h : j = i
    · subst h
      simp [hj]
    · rw [getD_set_ne true h]
      have : (i != j) = true := by simp; exact fun h' => h h'.symm
      rw [this]; simp
  rw [e, hl]
  rw [List.nodup_append] at hnd
  obtain ⟨h1, h2, h3⟩ := hnd
  rw [List.nodup_cons] at h2
  rw [List.filter_append, List.filter_cons]
  have ea : pre.filter (fun i => i != j) = pre := List.filter_eq_self.2 fun i hi => by
    simp; rintro rfl; exact h3 i hi i (List.mem_cons_self ..) rfl
  have eb : post.filter (fun i => i != j) = post := List.filter_eq_self.2 fun i hi => by
    simp; rintro rfl; exact h2.1 hi
  simp [ea, eb]
theorem wpOp_of_step {P : Program} {ops : Array Oper} {c : Cls} {j : Nat} {oj : Oper} {a : Act} {w : World} {K1 : Act → World → Prop} {Q : Act → World → Prop} {R : Exit → Act → World → Prop} (hoj : ops[j]? = some oj) (hst : stepT P ops c oj a w K1) (IH : ∀ a' w', K1 a' w' → ∀ n, Q a' (wat w' n)) (n : Nat) : wpOp P ops R j Q a (wat w n) := by
  cases c with
  | pure =>
    obtain ⟨v, hy, hst⟩ := hst
    exact hy.wpOp hoj (IH _ _ hst n)
  | read =>
    obtain ⟨v, hy, hst⟩ := hst
    unfold wpOp
    simp only [hoj]
    rcases hy with ⟨hw, hv⟩ | ⟨hw, rfl⟩
    · simp only [hw, if_true]
      refine .inl ((hv w (Ext.refl w) n).wp fun v' w' h' => ?_)
      obtain ⟨rfl, hn⟩ := h'
      have := IH _ _ hst w'.drawn
      rw [show wat w w'.drawn = w' by rw [← wat_nrm, ← hn]; rfl] at this
      exact this
    · simp only [hw, Bool.false_eq_true, if_false]; exact IH _ _ hst n
  | gar =>
    unfold wpOp
    simp only [hoj]
    cases hw : Region.wanted oj (yielded ops a.tmps) with
    | true =>
      simp only [if_true]
      obtain ⟨v, h1, h2⟩ := hst.1 hw
      exact .inl ((h1 w (Gx.refl w) n).wp fun v' w' h' => by obtain ⟨rfl, hg⟩ := h'; exact IH _ _ (h2 _ hg) w'.drawn)
    | false => simp only [Bool.false_eq_true, if_false]; exact IH _ _ (hst.2 hw) n
  | new =>
    unfold wpOp
    simp only [hoj]
    cases hw : Region.wanted oj (yielded ops a.tmps) with
    | true =>
      simp only [if_true]
      exact .inl ((hst.1 hw n).wp fun v' w' h' => IH _ _ (h'.2 _ (Gx.refl _)) w'.drawn)
    | false => simp only [Bool.false_eq_true, if_false]; exact IH _ _ (hst.2 hw) n
  | any =>
    unfold wpOp
    simp only [hoj]
    cases hw : Region.wanted oj (yielded ops a.tmps) with
    | true =>
      simp only [if_true]
      exact .inl ((hst.1 hw n).wp fun v' w' h' => IH _ _ h' w'.drawn)
    | false => simp only [Bool.false_eq_true, if_false]; exact IH _ _ (hst.2 hw) n
theorem wpAny_of_TR {P : Program} {ops : Array Oper} {cl : Nat → Cls} {M pi : List Nat} {ex : Nat → Nat → Bool} {K : Act → World → Prop} (ok : OkRegion ops cl M pi ex) :
    ∀ (d : Nat) (listed : Array Bool) (a : Act) (w : World), (left pi listed).length = d → listed.size = ops.size → Shut ops listed → (∀ i j, ex i j = true → listed.getD j true = true) → TR P ops cl K (left pi listed) a w →
    ∀ n, wpAny P .any ops (fun e a w => e = .normal ∧ K a (nrm w)) d listed a (wat w n) := by
  intro d
  induction d with
  | zero =>
    intro listed a w hd hsz hc hx h n
    have h0 : left pi listed = [] := List.eq_nil_of_length_eq_zero hd
    rw [h0] at h
    refine ⟨?_, rfl, ?_⟩
    · apply List.eq_nil_iff_forall_not_mem.2
      intro j hj
      obtain ⟨hu, o, ho, _⟩ := mem_ready.1 hj
      have : j ∈ left pi listed := List.mem_filter.2 ⟨ok.all j (Array.getElem?_eq_some_iff.1 ho).1, by rw [hu]; rfl⟩
      rw [h0] at this; cases this
    · exact h
  | succ d ih =>
    intro listed a w hd hsz hc hx h n
    have hunl : ∀ i, i < ops.size → (i ∈ left pi listed ↔ listed.getD i true = false) := fun i hi => by
      rw [left, List.mem_filter]; simp [ok.all i hi]
    have hin : ∀ i, i ∈ left pi listed → i < ops.size := fun i hi => by
      have hu : listed.getD i true = false := by have := (List.mem_filter.1 hi).2; simpa using this
      rcases Nat.lt_or_ge i listed.size with h' | h'
      · omega
      · simp [Array.getElem?_eq_none h'] at hu
    have hp0 : (left pi listed).Pairwise (fun a b => pi.idxOf a < pi.idxOf b) := List.Pairwise.filter _ (nodup_before ok.nd)
    refine ⟨fun hr => ?_, fun j hj => ?_⟩
    · exfalso
      match hl : left pi listed with
      | [] => rw [hl] at hd; simp at hd
      | i0 :: l =>
        have hi0 : i0 ∈ left pi listed := by rw [hl]; exact List.mem_cons_self ..
        have hlt : i0 < ops.size := hin i0 hi0
        have hrd : i0 ∈ Region.ready .any ops listed := by
          refine mem_ready.2 ⟨(hunl i0 hlt).1 hi0, ops[i0], Array.getElem?_eq_getElem hlt, fun e he hb => ?_⟩
          obtain ⟨hes, hb'⟩ := ok.back i0 _ (Array.getElem?_eq_getElem hlt) e he hb
          cases hu : listed.getD e.on true with
          | true => exact getD_ft (by omega) hu
          | false =>
            have hin' : e.on ∈ left pi listed := (hunl e.on hes).2 hu
            rw [hl] at hp0 hin'
            rcases List.mem_cons.1 hin' with h1 | h1
            · rw [h1] at hb'; omega
            · have := (List.pairwise_cons.1 hp0).1 _ h1; omega
        rw [hr] at hrd; cases hrd
    · obtain ⟨hju, oj, hoj, hall⟩ := mem_ready.1 hj
      have hjlt : j < ops.size := (Array.getElem?_eq_some_iff.1 hoj).1
      have hjl : j ∈ left pi listed := (hunl j hjlt).2 hju
      obtain ⟨pre, post, hl⟩ := List.append_of_mem hjl
      have hpre : ∀ i ∈ pre, pi.idxOf i < pi.idxOf j ∧ i < ops.size ∧ listed.getD i true = false := fun i hi => by
        have hil : i ∈ left pi listed := by rw [hl]; exact List.mem_append_left _ hi
        refine ⟨?_, hin i hil, (hunl i (hin i hil)).1 hil⟩
        rw [hl] at hp0; exact (List.pairwise_append.1 hp0).2.2 i hi j (List.mem_cons_self ..)
      rw [hl] at h
      have h1 := TR_front pre a w (fun i hi oi oj' hoi hoj' => by
        rw [hoj] at hoj'; cases hoj'
        obtain ⟨hij, his, hiu⟩ := hpre i hi
        have hm : (M.getD j 0).testBit i = false := by
          cases hm : (M.getD j 0).testBit i with
          | false => rfl
          | true => have := mask_listed ok hc _ j oj rfl hoj hall i his hm; rw [getD_tf hiu] at this; cases this
        obtain ⟨hf, oi', hoi', hap⟩ := ok.free j oj hoj i his hij hm (by cases he : ex j i with | false => rfl | true => have := hx j i he; rw [hiu] at this; cases this)
        rw [hoi] at hoi'; cases hoi'
        exact ⟨⟨hap, fun cs b => ok.sel i oi cs b hoi, fun cs b => ok.sel j oj cs b hoj⟩, hf⟩) h
      have hl' : left pi (listed.setIfInBounds j true) = pre ++ post := left_set ok.nd hl (by omega)
      have hd' : (left pi (listed.setIfInBounds j true)).length = d := by rw [hl']; rw [hl] at hd; simp at hd ⊢; omega
      have hsz' : (listed.setIfInBounds j true).size = ops.size := by simpa using hsz
      have hc' : Shut ops (listed.setIfInBounds j true) := fun i oi hoi hli e he hb => by
        by_cases hij : j = i
        · subst hij
          rw [hoj] at hoi; cases hoi
          exact getD_set_true (hall e he hb)
        · rw [getD_set_ne false hij] at hli
          exact getD_set_true (hc i oi hoi hli e he hb)
      have hx' : ∀ i' j', ex i' j' = true → (listed.setIfInBounds j true).getD j' true = true := fun i' j' he => by
        by_cases hjj : j = j'
        · subst hjj
          rcases Nat.lt_or_ge j listed.size with h' | h'
          · simp [h']
          · simp [Nat.not_lt.2 h']
        · rw [getD_set_ne true hjj]; exact hx i' j' he
      have IH := fun a' w' h' => ih (listed.setIfInBounds j true) a' w' hd' hsz' hc' hx' (by rw [hl']; exact h')
      obtain ⟨oj', hoj', hst⟩ := h1
      rw [hoj] at hoj'; cases hoj'
      exact wpOp_of_step hoj hst IH n
theorem wpOps_of_TR {P : Program} {ops : Array Oper} {cl : Nat → Cls} {K : Act → World → Prop} : ∀ (l : List Nat) (a : Act) (w : World), TR P ops cl K l a w →
    ∀ n, wpOps P ops (fun e a w => e = .normal ∧ K a (nrm w)) l a (wat w n)
  | [], _, _, h, _ => ⟨rfl, h⟩
  | j :: l, a, w, h, n => by
    obtain ⟨oj, hoj, hst⟩ := h
    rw [wpOps_cons]
    cases hcl : cl j with
    | pure =>
      rw [hcl] at hst
      obtain ⟨v, hy, hst⟩ := hst
      exact hy.wpOp hoj (wpOps_of_TR l _ _ hst n)
    | read =>
      rw [hcl] at hst
      obtain ⟨v, hy, hst⟩ := hst
      unfold wpOp
      simp only [hoj]
      rcases hy with ⟨hw, hv⟩ | ⟨hw, rfl⟩
      · simp only [hw, if_true]
        refine .inl ((hv w (Ext.refl w) n).wp fun v' w' h' => ?_)
        obtain ⟨rfl, hn⟩ := h'
        have := wpOps_of_TR l _ _ hst w'.drawn
        rw [show wat w w'.drawn = w' by rw [← wat_nrm, ← hn]; rfl] at this
        exact this
      · simp only [hw, Bool.false_eq_true, if_false]; exact wpOps_of_TR l _ _ hst n
    | gar =>
      rw [hcl] at hst
      unfold wpOp
      simp only [hoj]
      cases hw : Region.wanted oj (yielded ops a.tmps) with
      | true =>
        simp only [if_true]
        obtain ⟨v, h1, h2⟩ := hst.1 hw
        exact .inl ((h1 w (Gx.refl w) n).wp fun v' w' h' => by obtain ⟨rfl, hg⟩ := h'; exact wpOps_of_TR l _ _ (h2 _ hg) w'.drawn)
      | false => simp only [Bool.false_eq_true, if_false]; exact wpOps_of_TR l _ _ (hst.2 hw) n
    | new =>
      rw [hcl] at hst
      unfold wpOp
      simp only [hoj]
      cases hw : Region.wanted oj (yielded ops a.tmps) with
      | true =>
        simp only [if_true]
        exact .inl ((hst.1 hw n).wp fun v' w' h' => wpOps_of_TR l _ _ (h'.2 _ (Gx.refl _)) w'.drawn)
      | false => simp only [Bool.false_eq_true, if_false]; exact wpOps_of_TR l _ _ (hst.2 hw) n
    | any =>
      rw [hcl] at hst
      unfold wpOp
      simp only [hoj]
      cases hw : Region.wanted oj (yielded ops a.tmps) with
      | true =>
        simp only [if_true]
        exact .inl ((hst.1 hw n).wp fun v' w' h' => wpOps_of_TR l _ _ h' w'.drawn)
      | false => simp only [Bool.false_eq_true, if_false]; exact wpOps_of_TR l _ _ (hst.2 hw) n
theorem tt_of_region {P : Program} {f : FuncId} {R : Value → World → Prop} {k : List Item} {a : Act} {w : World} {c : Code}
    (h : ∀ n, c.wp P (fun e a w => e = .normal ∧ TT P f R k a (nrm w)) a (wat w n)) : TT P f R (.code c :: k) a w := by
  intro n b cs hb hk
  obtain ⟨e, a', w', ⟨rfl, hT⟩, harr⟩ := h n b k cs
  obtain ⟨v, w2, fr, hR, hs, hfn, hl⟩ := hT w'.drawn b cs hb hk
  exact ⟨v, w2, fr, hR, harr.trans hs, hfn, hl⟩
theorem tt_region {P : Program} {f : FuncId} {R : Value → World → Prop} {k : List Item} {a : Act} {w : World} {id : Nat} {l : List Oper} (cl : Nat → Cls)
    (h : TR P l.toArray cl (TT P f R k) (List.range l.length) a w) : TT P f R (.code (.region id l.toArray false) :: k) a w :=
  tt_of_region fun n => wp_region (by rw [List.size_toArray]; exact wpOps_of_TR _ a w h n)
theorem tt_region_draw {P : Program} {f : FuncId} {R : Value → World → Prop} {k : List Item} {a : Act} {w : World} {id : Nat} {l : List Oper} (cl : Nat → Cls) (M pi : List Nat)
    (hm : P.follows .mixedOrders = true) (hB : okB l.toArray cl M pi = true)
    (h : TR P l.toArray cl (TT P f R k) pi a w) : TT P f R (.code (.region id l.toArray true) :: k) a w := by
  refine tt_of_region fun n => wp_region_any hm ?_
  have ok := okB_spec hB
  have hsz : ∀ i ∈ pi, i < l.length := fun i hi => by have := ok.lt i hi; simpa using this
  have hl : left pi (Array.replicate l.toArray.size false) = pi := by
    unfold left
    rw [List.size_toArray]
    refine List.filter_eq_self.2 fun i hi => ?_
    have := hsz i hi
    simp [this]
  have := wpAny_of_TR ok l.length (Array.replicate l.toArray.size false) a w (by rw [hl]; have := ok.len; simpa using this) (by simp)
    (fun j oj _ h0 => by
      rcases Nat.lt_or_ge j l.length with h' | h'
      · simp [h'] at h0
      · simp [Nat.not_lt.2 h'] at h0) (fun _ _ h => by cases h) (by rw [hl]; exact h) (n + 1)
  rw [List.size_toArray] at this ⊢
  exact this
end Go.Proofs.YtppkiiomedembaaGreatDoor
namespace Go.Proofs.YtppkiiomedembaaGreatDoor
open Go
def pairK (P : Program) (ops : Array Oper) (cl : Nat → Cls) (K : Act → World → Prop) (x y : Nat) (post : List Nat) (a : Act) (w : World) : Prop :=
  ∀ n, TR P ops cl K (x :: y :: post) a (wat w n) ∧ TR P ops cl K (y :: x :: post) a (wat w n)
section
variable {P : Program} {ops : Array Oper} {cl : Nat → Cls} {K K' : Act → World → Prop}
theorem TR_mono (hk : ∀ a w, K a w → K' a w) : ∀ (l : List Nat) (a : Act) (w : World), TR P ops cl K l a w → TR P ops cl K' l a w
  | [], _, _, h => hk _ _ h
  | i :: l, a, w, ⟨oi, hoi, h⟩ => ⟨oi, hoi, stepT_mono (fun a' w' h' => TR_mono hk l a' w' h') h⟩
theorem TR_append {l2 : List Nat} : ∀ (l1 : List Nat) (a : Act) (w : World), TR P ops cl (fun a w => ∀ n, TR P ops cl K l2 a (wat w n)) l1 a w → TR P ops cl K (l1 ++ l2) a w
  | [], a, w, h => h w.drawn
  | i :: l, a, w, ⟨oi, hoi, h⟩ => ⟨oi, hoi, stepT_mono (fun a' w' h' => TR_append l a' w' h') h⟩
theorem pure_out {oj : Oper} {K' : Act → World → Prop} : ∀ (l : List Nat) (a : Act) (w : World), (∀ i ∈ l, ∀ oi, ops[i]? = some oi → Swap ops oi oj) →
    TR P ops cl (fun a w => stepT P ops .pure oj a w K') l a w → stepT P ops .pure oj a w (TR P ops cl K' l)
  | [], a, w, _, h => h
  | i :: l, a, w, hs, ⟨oi, hoi, h⟩ => by
    have h1 := stepT_mono (fun a' w' h' => pure_out l a' w' (fun i' hi' => hs i' (List.mem_cons_of_mem _ hi')) h') h
    have h2 := stepT_swap (hs i (List.mem_cons_self ..) oi hoi) (by cases cl i <;> rfl) h1
    exact stepT_mono (fun a' w' h' => ⟨oi, hoi, h'⟩) h2
theorem pair_front {x y j : Nat} {oj : Oper} {p1 p2 : List Nat} (hoj : ops[j]? = some oj) (hcj : cl j = .pure) (hsw : ∀ i, (i = x ∨ i = y ∨ i ∈ p1) → ∀ oi, ops[i]? = some oi → Swap ops oi oj) {a : Act} {w : World} (h : pairK P ops cl K x y (p1 ++ j :: p2) a w) :
    stepT P ops .pure oj a w (pairK P ops cl K x y (p1 ++ p2)) := by
  have hf : ∀ i, (cl i).fit (cl j) = true := fun i => by rw [hcj]; cases cl i <;> rfl
  have h1 : ∀ n, ∃ v, Yields P ops oj v a ∧ TR P ops cl K (x :: y :: (p1 ++ p2)) (a.put oj.dst v) (wat w n) := fun n => by
    have h2 := TR_front (post := p2) (x :: y :: p1) a (wat w n) (fun i hi oi oj' hoi hoj' => by
      rw [hoj] at hoj'; cases hoj'
      exact ⟨hsw i (by simpa using hi) oi hoi, hf i⟩) (by simpa using (h n).1)
    obtain ⟨oj', hoj', h3⟩ := h2
    rw [hoj] at hoj'; cases hoj'
    rw [hcj] at h3
    exact h3
  have h2 : ∀ n, ∃ v, Yields P ops oj v a ∧ TR P ops cl K (y :: x :: (p1 ++ p2)) (a.put oj.dst v) (wat w n) := fun n => by
    have h2 := TR_front (post := p2) (y :: x :: p1) a (wat w n) (fun i hi oi oj' hoi hoj' => by
      rw [hoj] at hoj'; cases hoj'
      refine ⟨hsw i ?_ oi hoi, hf i⟩
      rcases List.mem_cons.1 hi with h | h
      · exact .inr (.inl h)
      · rcases List.mem_cons.1 h with h | h
        · exact .inl h
        · exact .inr (.inr h)) (by simpa using (h n).2)
    obtain ⟨oj', hoj', h3⟩ := h2
    rw [hoj] at hoj'; cases hoj'
    rw [hcj] at h3
    exact h3
  obtain ⟨v, hv, _⟩ := h1 0
  refine ⟨v, hv, fun n => ⟨?_, ?_⟩⟩
  · obtain ⟨u, hu, h3⟩ := h1 n; rw [yields_uniq hv hu]; exact h3
  · obtain ⟨u, hu, h3⟩ := h2 n; rw [yields_uniq hv hu]; exact h3
theorem left_app (l1 l2 : List Nat) (listed : Array Bool) : left (l1 ++ l2) listed = left l1 listed ++ left l2 listed := by simp [left]
theorem left_cons {i : Nat} {l : List Nat} {listed : Array Bool} (h : listed.getD i true = false) : left (i :: l) listed = i :: left l listed := by simp only [left, List.filter_cons, h]; rfl
theorem left_other {j : Nat} {l : List Nat} {listed : Array Bool} (h : j ∉ l) : left l (listed.setIfInBounds j true) = left l listed := by
  unfold left
  apply List.filter_congr
  intro i hi
  have : j ≠ i := fun e => h (e ▸ hi)
  rw [getD_set_ne true this]
theorem front_ok {M pi : List Nat} {ex : Nat → Nat → Bool} {listed : Array Bool} (ok : OkRegion ops cl M pi ex) (hc : Shut ops listed) {j i : Nat} {oj : Oper} (hoj : ops[j]? = some oj) (hall : ∀ e ∈ oj.after, Region.binds .any e = true → listed.getD e.on false = true)
    (his : i < ops.size) (hiu : listed.getD i true = false) (hij : pi.idxOf i < pi.idxOf j) (he : ex j i = false) : ∀ oi oj', ops[i]? = some oi → ops[j]? = some oj' → Swap ops oi oj' ∧ (cl i).fit (cl j) = true := fun oi oj' hoi hoj' => by
  rw [hoj] at hoj'; cases hoj'
  have hm : (M.getD j 0).testBit i = false := by
    cases hm : (M.getD j 0).testBit i with
    | false => rfl
    | true => have := mask_listed ok hc _ j oj rfl hoj hall i his hm; rw [getD_tf hiu] at this; cases this
  obtain ⟨hf, oi', hoi', hap⟩ := ok.free j oj hoj i his hij hm he
  rw [hoi] at hoi'; cases hoi'
  exact ⟨⟨hap, fun cs b => ok.sel i oi cs b hoi, fun cs b => ok.sel j oj cs b hoj⟩, hf⟩
structure OkPair (ops : Array Oper) (cl : Nat → Cls) (M pre : List Nat) (x y : Nat) (post : List Nat) : Prop where
  ok1 : OkRegion ops cl M (pre ++ x :: y :: post) fun i j => i == y && j == x
  ok2 : OkRegion ops cl M (pre ++ y :: x :: post) fun i j => i == x && j == y
  hp : ∀ j ∈ post, ∀ i, (i ∈ pre ∨ i = x ∨ i = y) → (M.getD j 0).testBit i = false → cl j = .pure ∧ ∀ oi oj, ops[i]? = some oi → ops[j]? = some oj → oi.apart ops oj = true
def okPB (ops : Array Oper) (cl : Nat → Cls) (M pre : List Nat) (x y : Nat) (post : List Nat) : Bool :=
  okBX ops cl M (pre ++ x :: y :: post) (fun i j => i == y && j == x) && okBX ops cl M (pre ++ y :: x :: post) (fun i j => i == x && j == y) &&
    post.all fun j => (x :: y :: pre).all fun i => (M.getD j 0).testBit i || (decide (cl j = .pure) && match ops[i]?, ops[j]? with | some oi, some oj => oi.apart ops oj | _, _ => true)
theorem okPB_spec {M pre post : List Nat} {x y : Nat} (h : okPB ops cl M pre x y post = true) : OkPair ops cl M pre x y post := by
  simp only [okPB, Bool.and_eq_true] at h
  obtain ⟨⟨h1, h2⟩, h3⟩ := h
  refine ⟨okBX_spec h1, okBX_spec h2, fun j hj i hi hm => ?_⟩
  have h4 := List.all_eq_true.1 (List.all_eq_true.1 h3 j hj) i (by rcases hi with h | h | h <;> simp [h])
  rw [hm] at h4
  simp only [Bool.false_or, Bool.and_eq_true, decide_eq_true_eq] at h4
  refine ⟨h4.1, fun oi oj hoi hoj => ?_⟩
  have := h4.2
  rw [hoi, hoj] at this
  exact this
theorem wpAny_pair {M pre post : List Nat} {x y : Nat} (ok : OkPair ops cl M pre x y post) :
    ∀ (d : Nat) (listed : Array Bool) (a : Act) (w : World), (left (pre ++ x :: y :: post) listed).length = d → listed.size = ops.size → Shut ops listed → listed.getD x true = false → listed.getD y true = false →
    TR P ops cl (pairK P ops cl K x y (left post listed)) (left pre listed) a w → ∀ n, wpAny P .any ops (fun e a w => e = .normal ∧ K a (nrm w)) d listed a (wat w n) := by
  have hnd1 := ok.ok1.nd
  have hnd2 := ok.ok2.nd
  have hxpre : x ∉ pre := fun h => (List.nodup_append.1 hnd1).2.2 x h x (by simp) rfl
  have hypre : y ∉ pre := fun h => (List.nodup_append.1 hnd1).2.2 y h y (by simp) rfl
  have hpost1 : (x :: y :: post).Nodup := (List.nodup_append.1 hnd1).2.1
  have hxy : x ≠ y := fun h => by subst h; simp at hpost1
  have hxpost : x ∉ post := fun h => by simp [h] at hpost1
  have hypost : y ∉ post := fun h => by simp [h] at hpost1
  have hpp : ∀ j, j ∈ pre → j ∉ post := fun j h1 h2 => (List.nodup_append.1 hnd1).2.2 j h1 j (by simp [h2]) rfl
  intro d
  induction d with
  | zero =>
    intro listed a w hd hsz hc hx hy h n
    rw [left_app, left_cons hx, List.length_append] at hd
    simp at hd
  | succ d ih =>
    intro listed a w hd hsz hc hx hy h n
    have e1 : left (pre ++ x :: y :: post) listed = left pre listed ++ x :: y :: left post listed := by rw [left_app, left_cons hx, left_cons hy]
    have e2 : left (pre ++ y :: x :: post) listed = left pre listed ++ y :: x :: left post listed := by rw [left_app, left_cons hy, left_cons hx]
    have hin : ∀ i, listed.getD i true = false → i < ops.size := fun i hu => by
      rcases Nat.lt_or_ge i listed.size with h' | h'
      · omega
      · simp [Array.getElem?_eq_none h'] at hu
    have hun : ∀ i l, i ∈ left l listed → listed.getD i true = false ∧ i ∈ l := fun i l hi => by
      obtain ⟨h1, h2⟩ := List.mem_filter.1 hi
      exact ⟨by simpa using h2, h1⟩
    have hp1 : (left (pre ++ x :: y :: post) listed).Pairwise (fun a b => (pre ++ x :: y :: post).idxOf a < (pre ++ x :: y :: post).idxOf b) := List.Pairwise.filter _ (nodup_before hnd1)
    have hp2 : (left (pre ++ y :: x :: post) listed).Pairwise (fun a b => (pre ++ y :: x :: post).idxOf a < (pre ++ y :: x :: post).idxOf b) := List.Pairwise.filter _ (nodup_before hnd2)
    rw [e1] at hp1
    rw [e2] at hp2
    refine ⟨fun hr => ?_, fun j hj => ?_⟩
    · exfalso
      match hl : left (pre ++ x :: y :: post) listed with
      | [] => rw [hl] at hd; simp at hd
      | i0 :: l =>
        rw [e1] at hl
        have hi0 : i0 ∈ left (pre ++ x :: y :: post) listed := by rw [e1, hl]; exact List.mem_cons_self ..
        have hu0 := (hun i0 _ hi0).1
        have hlt : i0 < ops.size := hin i0 hu0
        have hrd : i0 ∈ Region.ready .any ops listed := by
          refine mem_ready.2 ⟨hu0, ops[i0], Array.getElem?_eq_getElem hlt, fun e he hb => ?_⟩
          obtain ⟨hes, hb'⟩ := ok.ok1.back i0 _ (Array.getElem?_eq_getElem hlt) e he hb
          cases hu : listed.getD e.on true with
          | true => exact getD_ft (by omega) hu
          | false =>
            have hin' : e.on ∈ left (pre ++ x :: y :: post) listed := List.mem_filter.2 ⟨ok.ok1.all _ hes, by rw [hu]; rfl⟩
            rw [e1, hl] at hin'
            rw [hl] at hp1
            rcases List.mem_cons.1 hin' with h1 | h1
            · rw [h1] at hb'; omega
            · have := (List.pairwise_cons.1 hp1).1 _ h1; omega
        rw [hr] at hrd; cases hrd
    · obtain ⟨hju, oj, hoj, hall⟩ := mem_ready.1 hj
      have hjlt : j < ops.size := (Array.getElem?_eq_some_iff.1 hoj).1
      have hsz' : (listed.setIfInBounds j true).size = ops.size := by simpa using hsz
      have hc' : Shut ops (listed.setIfInBounds j true) := fun i oi hoi hli e he hb => by
        by_cases hij : j = i
        · subst hij
          rw [hoj] at hoi; cases hoi
          exact getD_set_true (hall e he hb)
        · rw [getD_set_ne false hij] at hli
          exact getD_set_true (hc i oi hoi hli e he hb)
      have hjl : j ∈ left pre listed ++ x :: y :: left post listed := by rw [← e1]; exact List.mem_filter.2 ⟨ok.ok1.all _ hjlt, by rw [hju]; rfl⟩
      have hdl : ∀ {pi pr po : List Nat}, left pi listed = pr ++ j :: po → pi.Nodup → (left pi listed).length = d + 1 → (left pi (listed.setIfInBounds j true)).length = d ∧ left pi (listed.setIfInBounds j true) = pr ++ po := fun hl hnd hlen => by
        have := left_set hnd hl (by omega)
        refine ⟨?_, this⟩
        rw [this]; rw [hl] at hlen; simp at hlen ⊢; omega
      rcases List.mem_append.1 hjl with hjp | hjr
      · -- ahead of the two
        obtain ⟨p1, p2, hl⟩ := List.append_of_mem hjp
        have hjpre := (hun j _ hjp).2
        have hjx : j ≠ x := fun e => hxpre (e ▸ hjpre)
        have hjy : j ≠ y := fun e => hypre (e ▸ hjpre)
        rw [hl] at h
        have h1 := TR_front p1 a w (fun i hi => front_ok ok.ok1 hc hoj hall (hin i (hun i pre (by rw [hl]; exact List.mem_append_left _ hi)).1) (hun i pre (by rw [hl]; exact List.mem_append_left _ hi)).1 (by
          rw [hl, List.append_assoc] at hp1
          exact (List.pairwise_append.1 hp1).2.2 i hi j (by simp)) (by simp [hjy])) h
        obtain ⟨oj', hoj', hst⟩ := h1
        rw [hoj] at hoj'; cases hoj'
        have hln : left pre (listed.setIfInBounds j true) = p1 ++ p2 := left_set (List.nodup_append.1 hnd1).1 hl (by omega)
        have hlp : left post (listed.setIfInBounds j true) = left post listed := left_other (hpp j hjpre)
        obtain ⟨hd', _⟩ := hdl (pi := pre ++ x :: y :: post) (pr := p1) (po := p2 ++ x :: y :: left post listed) (by rw [e1, hl]; simp) hnd1 hd
        exact wpOp_of_step hoj hst (fun a' w' h' => ih (listed.setIfInBounds j true) a' w' hd' hsz' hc' (by rw [getD_set_ne true hjx]; exact hx) (by rw [getD_set_ne true hjy]; exact hy) (by rw [hln, hlp]; exact h')) n
      · rcases List.mem_cons.1 hjr with rfl | hjr
        · -- the first of the two
          have h0 : TR P ops cl K (left pre listed ++ j :: y :: left post listed) a w := TR_append _ a w (TR_mono (fun a' w' h' n => (h' n).1) _ a w h)
          have h1 := TR_front (left pre listed) a w (fun i hi => front_ok ok.ok1 hc hoj hall (hin i (hun i pre hi).1) (hun i pre hi).1 ((List.pairwise_append.1 hp1).2.2 i hi j (by simp)) (by simp [hxy])) h0
          obtain ⟨oj', hoj', hst⟩ := h1
          rw [hoj] at hoj'; cases hoj'
          obtain ⟨hd', hln⟩ := hdl (pi := pre ++ j :: y :: post) e1 hnd1 hd
          exact wpOp_of_step hoj hst (fun a' w' h' => wpAny_of_TR ok.ok1 d (listed.setIfInBounds j true) a' w' hd' hsz' hc' (fun i' j' he => by
            simp only [Bool.and_eq_true, beq_iff_eq] at he
            rw [he.2]
            simp [hsz, hjlt]) (by rw [hln]; exact h')) n
        · rcases List.mem_cons.1 hjr with rfl | hjr
          · -- the second of the two
            have h0 : TR P ops cl K (left pre listed ++ j :: x :: left post listed) a w := TR_append _ a w (TR_mono (fun a' w' h' n => (h' n).2) _ a w h)
            have h1 := TR_front (left pre listed) a w (fun i hi => front_ok ok.ok2 hc hoj hall (hin i (hun i pre hi).1) (hun i pre hi).1 ((List.pairwise_append.1 hp2).2.2 i hi j (by simp)) (by simp [Ne.symm hxy])) h0
            obtain ⟨oj', hoj', hst⟩ := h1
            rw [hoj] at hoj'; cases hoj'
            have hlen2 : (left (pre ++ j :: x :: post) listed).length = d + 1 := by rw [e2]; rw [e1] at hd; simpa using hd
            obtain ⟨hd', hln⟩ := hdl (pi := pre ++ j :: x :: post) e2 hnd2 hlen2
            exact wpOp_of_step hoj hst (fun a' w' h' => wpAny_of_TR ok.ok2 d (listed.setIfInBounds j true) a' w' hd' hsz' hc' (fun i' j' he => by
              simp only [Bool.and_eq_true, beq_iff_eq] at he
              rw [he.2]
              simp [hsz, hjlt]) (by rw [hln]; exact h')) n
          · -- behind the two
            obtain ⟨p1, p2, hl⟩ := List.append_of_mem hjr
            have hjpost := (hun j _ hjr).2
            have hjx : j ≠ x := fun e => hxpost (e ▸ hjpost)
            have hjy : j ≠ y := fun e => hypost (e ▸ hjpost)
            have hjpre : j ∉ pre := fun h => hpp j h hjpost
            have hmask : ∀ i, listed.getD i true = false → (M.getD j 0).testBit i = false := fun i hiu => by
              cases hm : (M.getD j 0).testBit i with
              | false => rfl
              | true => have := mask_listed ok.ok1 hc _ j oj rfl hoj hall i (hin i hiu) hm; rw [getD_tf hiu] at this; cases this
            have hsw0 : ∀ i, listed.getD i true = false → (i ∈ pre ∨ i = x ∨ i = y) → ∀ oi, ops[i]? = some oi → Swap ops oi oj := fun i hiu hi oi hoi => by
              obtain ⟨_, hap⟩ := ok.hp j hjpost i hi (hmask i hiu)
              exact ⟨hap oi oj hoi hoj, fun cs b => ok.ok1.sel i oi cs b hoi, fun cs b => ok.ok1.sel j oj cs b hoj⟩
            have hcj : cl j = .pure := (ok.hp j hjpost x (.inr (.inl rfl)) (hmask x hx)).1
            have hsw : ∀ i, (i = x ∨ i = y ∨ i ∈ p1) → ∀ oi, ops[i]? = some oi → Swap ops oi oj := fun i hi oi hoi => by
              rcases hi with rfl | rfl | hi
              · exact hsw0 i hx (.inr (.inl rfl)) oi hoi
              · exact hsw0 i hy (.inr (.inr rfl)) oi hoi
              · have hi' := hun i post (by rw [hl]; exact List.mem_append_left _ hi)
                exact (front_ok ok.ok1 hc hoj hall (hin i hi'.1) hi'.1 (by
                  have h3 := (List.pairwise_append.1 hp1).2.1
                  rw [List.pairwise_cons, List.pairwise_cons, hl] at h3
                  exact (List.pairwise_append.1 h3.2.2).2.2 i hi j (by simp)) (by simp [hjy]) oi oj hoi hoj).1
            have h1 := TR_mono (fun a' w' h' => pair_front hoj hcj hsw (by rw [hl] at h'; exact h')) _ a w h
            have h2 := pure_out (left pre listed) a w (fun i hi oi hoi => hsw0 i (hun i pre hi).1 (.inl (hun i pre hi).2) oi hoi) h1
            have hln : left pre (listed.setIfInBounds j true) = left pre listed := left_other hjpre
            have hpn : post.Nodup := by simp at hpost1; exact hpost1.2.2
            have hlp : left post (listed.setIfInBounds j true) = p1 ++ p2 := left_set hpn hl (by omega)
            obtain ⟨hd', _⟩ := hdl (pi := pre ++ x :: y :: post) (pr := left pre listed ++ x :: y :: p1) (po := p2) (by rw [e1, hl]; simp) hnd1 hd
            exact wpOp_of_step hoj h2 (fun a' w' h' => ih (listed.setIfInBounds j true) a' w' hd' hsz' hc' (by rw [getD_set_ne true hjx]; exact hx) (by rw [getD_set_ne true hjy]; exact hy) (by rw [hln, hlp]; exact h')) n
theorem tt_region_pair {f : FuncId} {R : Value → World → Prop} {k : List Item} {a : Act} {w : World} {id : Nat} {l : List Oper} (cl : Nat → Cls) (M pre post : List Nat) (x y : Nat)
    (hm : P.follows .mixedOrders = true) (hB : okPB l.toArray cl M pre x y post = true)
    (h : TR P l.toArray cl (pairK P l.toArray cl (TT P f R k) x y post) pre a w) : TT P f R (.code (.region id l.toArray true) :: k) a w := by
  refine tt_of_region fun n => wp_region_any hm ?_
  have ok := okPB_spec hB
  have hsz : ∀ i ∈ pre ++ x :: y :: post, i < l.length := fun i hi => by have := ok.ok1.lt i hi; simpa using this
  have hrep : ∀ i, i < l.length → (Array.replicate l.toArray.size false).getD i true = false := fun i hi => by simp [hi]
  have hl : ∀ l', (∀ i ∈ l', i < l.length) → left l' (Array.replicate l.toArray.size false) = l' := fun l' hl' => by
    unfold left
    refine List.filter_eq_self.2 fun i hi => ?_
    have := hrep i (hl' i hi)
    rw [this]; rfl
  have h1 : left pre (Array.replicate l.toArray.size false) = pre := hl pre fun i hi => hsz i (by simp [hi])
  have h2 : left post (Array.replicate l.toArray.size false) = post := hl post fun i hi => hsz i (by simp [hi])
  have := wpAny_pair ok l.length (Array.replicate l.toArray.size false) a w (by rw [hl _ hsz]; have := ok.ok1.len; simpa using this) (by simp)
    (fun j oj _ h0 => by
      rcases Nat.lt_or_ge j l.length with h' | h'
      · simp [h'] at h0
      · simp [Nat.not_lt.2 h'] at h0) (hrep x (hsz x (by simp))) (hrep y (hsz y (by simp))) (by rw [h1, h2]; exact h) (n + 1)
  rw [List.size_toArray] at this ⊢
  exact this
end
end Go.Proofs.YtppkiiomedembaaGreatDoor
namespace Go.Proofs.YtppkiiomedembaaGreatDoor
open Go
inductive Pln where
  | nil
  | one (i : Nat) (p : Pln)
  | two (x : Nat) (p : Pln) (y : Nat) (q : Pln)
def Pln.ones : List Nat → Pln → Pln
  | [], p => p
  | i :: l, p => .one i (ones l p)
def Pln.after (j : Nat) : Pln → Pln
  | .nil => .nil
  | .one i p => if i = j then p else .one i (p.after j)
  | .two x p _ q => if x = j then p else q
def Pln.brk : Pln → Bool
  | .one _ _ => false
  | _ => true
def TP (P : Program) (ops : Array Oper) (cl : Nat → Cls) (K : Act → World → Prop) : Pln → Act → World → Prop
  | .nil, a, w => K a (nrm w)
  | .one i p, a, w => ∃ o, ops[i]? = some o ∧ stepT P ops (cl i) o a w (TP P ops cl K p)
  | .two x p y q, a, w => ∀ n, (∃ o, ops[x]? = some o ∧ stepT P ops (cl x) o a (wat w n) (TP P ops cl K p)) ∧ (∃ o, ops[y]? = some o ∧ stepT P ops (cl y) o a (wat w n) (TP P ops cl K q))
def rdyB (ops : Array Oper) (S : List Nat) (i : Nat) : Bool := match ops[i]? with
  | none => false
  | some o => o.after.all fun e => !Region.binds .any e || !S.contains e.on
def fitB (ops : Array Oper) (cl : Nat → Cls) (i j : Nat) : Bool := (cl i).fit (cl j) && match ops[i]?, ops[j]? with
  | some oi, some oj => oi.apart ops oj
  | _, _ => false
def okPl (ops : Array Oper) (cl : Nat → Cls) (M : List Nat) : List Nat → Pln → Bool
  | S, .nil => S.isEmpty
  | S, .one i p => S.contains i && rdyB ops S i && S.all (fun j => j == i || (M.getD j 0).testBit i || fitB ops cl i j) && okPl ops cl M (S.filter (· != i)) p
  | S, .two x p y q => S.contains x && S.contains y && rdyB ops S x && rdyB ops S y && S.all (fun j => j == x || j == y || !rdyB ops S j) && okPl ops cl M (S.filter (· != x)) p && okPl ops cl M (S.filter (· != y)) q
structure Rdy (ops : Array Oper) (S : List Nat) (i : Nat) (o : Oper) : Prop where
  get : ops[i]? = some o
  deps : ∀ e ∈ o.after, Region.binds .any e = true → e.on ∉ S
theorem rdyB_spec {ops : Array Oper} {S : List Nat} {i : Nat} : rdyB ops S i = true ↔ ∃ o, Rdy ops S i o := by
  unfold rdyB
  cases h : ops[i]? with
  | none =>
    constructor
    · intro h; cases h
    · rintro ⟨o, h'⟩
      rw [h'.get] at h; cases h
  | some o =>
    constructor
    · intro h'
      refine ⟨o, h, fun e he hb hin => ?_⟩
      have := Array.all_eq_true_iff_forall_mem.1 h' e he
      simp [hb, hin] at this
    · rintro ⟨o', h1, h2⟩
      rw [h] at h1; cases h1
      refine Array.all_eq_true_iff_forall_mem.2 fun e he => ?_
      cases hb : Region.binds .any e with
      | false => rfl
      | true => simpa using h2 e he hb
theorem Rdy.sub {ops : Array Oper} {S S' : List Nat} {i : Nat} {o : Oper} (h : Rdy ops S i o) (hs : ∀ j, j ∈ S' → j ∈ S) : Rdy ops S' i o := ⟨h.get, fun e he hb hin => h.deps e he hb (hs _ hin)⟩
inductive Val (ops : Array Oper) (cl : Nat → Cls) (M : List Nat) : List Nat → Pln → Prop
  | nil : Val ops cl M [] .nil
  | one {S : List Nat} {i : Nat} {p : Pln} : i ∈ S → (∃ o, Rdy ops S i o) → (∀ j ∈ S, j ≠ i → (M.getD j 0).testBit i = false → (cl i).fit (cl j) = true ∧ ∀ oi oj, ops[i]? = some oi → ops[j]? = some oj → oi.apart ops oj = true) → Val ops cl M (S.filter (· != i)) p → Val ops cl M S (.one i p)
  | two {S : List Nat} {x y : Nat} {p q : Pln} : x ∈ S → y ∈ S → (∃ o, Rdy ops S x o) → (∃ o, Rdy ops S y o) → (∀ j ∈ S, j ≠ x → j ≠ y → ∀ o, ¬ Rdy ops S j o) → Val ops cl M (S.filter (· != x)) p → Val ops cl M (S.filter (· != y)) q → Val ops cl M S (.two x p y q)
theorem okPl_spec {ops : Array Oper} {cl : Nat → Cls} {M : List Nat} : ∀ {p : Pln} {S : List Nat}, okPl ops cl M S p = true → Val ops cl M S p
  | .nil, S, h => by
    have : S = [] := by simpa [okPl] using h
    subst this; exact .nil
  | .one i p, S, h => by
    simp only [okPl, Bool.and_eq_true, List.contains_iff_mem, rdyB_spec] at h
    obtain ⟨⟨⟨h1, h2⟩, h3⟩, h4⟩ := h
    refine .one h1 h2 (fun j hj hne hm => ?_) (okPl_spec h4)
    have h5 := List.all_eq_true.1 h3 j hj
    rw [hm] at h5
    simp only [fitB, Bool.or_false, Bool.or_eq_true, beq_iff_eq, hne, false_or, Bool.and_eq_true] at h5
    refine ⟨h5.1, fun oi oj hi hoj => ?_⟩
    have h6 := h5.2
    rw [hi, hoj] at h6
    exact h6
  | .two x p y q, S, h => by
    simp only [okPl, Bool.and_eq_true, List.contains_iff_mem, rdyB_spec] at h
    obtain ⟨⟨⟨⟨⟨⟨h1, h2⟩, h3⟩, h4⟩, h5⟩, h6⟩, h7⟩ := h
    refine .two h1 h2 h3 h4 (fun j hj hx hy o ho => ?_) (okPl_spec h6) (okPl_spec h7)
    have h8 := List.all_eq_true.1 h5 j hj
    have h9 := rdyB_spec.2 ⟨o, ho⟩
    simp [hx, hy, h9] at h8
theorem filter_swap (S : List Nat) (i j : Nat) : (S.filter (· != i)).filter (· != j) = (S.filter (· != j)).filter (· != i) := by
  rw [List.filter_filter, List.filter_filter]
  exact List.filter_congr fun k _ => Bool.and_comm _ _
theorem mem_ne {S : List Nat} {i j : Nat} (h : j ∈ S) (hne : j ≠ i) : j ∈ S.filter (· != i) := List.mem_filter.2 ⟨h, by simpa using hne⟩
theorem mem_sub {S : List Nat} {i j : Nat} (h : j ∈ S.filter (· != i)) : j ∈ S := (List.mem_filter.1 h).1
theorem Val.after {ops : Array Oper} {cl : Nat → Cls} {M : List Nat} {j : Nat} {oj : Oper} {p : Pln} {S : List Nat} (hv : Val ops cl M S p) : j ∈ S → Rdy ops S j oj → Val ops cl M (S.filter (· != j)) (p.after j) := by
  induction hv with
  | nil => intro hj _; cases hj
  | @one S i p h1 h2 h3 h4 ih =>
    intro hj hr
    by_cases hij : i = j
    · subst hij; simpa [Pln.after] using h4
    · have h5 := ih (mem_ne hj (Ne.symm hij)) (hr.sub fun _ => mem_sub)
      rw [filter_swap] at h5
      simp only [Pln.after, if_neg hij]
      obtain ⟨oi, hoi⟩ := h2
      exact .one (mem_ne h1 hij) ⟨oi, hoi.sub fun _ => mem_sub⟩ (fun k hk hki hm => h3 k (mem_sub hk) hki hm) h5
  | @two S x y p q h1 h2 h3 h4 h5 h6 h7 _ _ =>
    intro hj hr
    by_cases hx : x = j
    · subst hx; simpa [Pln.after] using h6
    · by_cases hy : y = j
      · subst hy; simpa [Pln.after, hx] using h7
      · exact absurd hr (h5 j hj (Ne.symm hx) (Ne.symm hy) oj)
section
variable {P : Program} {ops : Array Oper} {cl : Nat → Cls} {K K' : Act → World → Prop}
theorem TP_nrm {p : Pln} (hb : p.brk = true) {a : Act} {w : World} (h : TP P ops cl K p a (nrm w)) : TP P ops cl K p a w := by
  cases p with
  | nil => exact h
  | one i p => cases hb
  | two x p y q => exact h
theorem TP_ones {p : Pln} (hb : p.brk = true) : ∀ (l : List Nat) (a : Act) (w : World), TR P ops cl (TP P ops cl K p) l a w → TP P ops cl K (.ones l p) a w
  | [], _, _, h => TP_nrm hb h
  | i :: l, a, w, ⟨oi, hoi, h⟩ => ⟨oi, hoi, stepT_mono (fun a' w' h' => TP_ones hb l a' w' h') h⟩
theorem TP_front {M : List Nat} {j : Nat} {oj : Oper} (hsel : ∀ (j : Nat) (o : Oper) cs b, ops[j]? = some o → o.op ≠ .select cs b) {p : Pln} {S : List Nat} (hv : Val ops cl M S p) : j ∈ S → Rdy ops S j oj → (∀ i ∈ S, (M.getD j 0).testBit i = false) →
    ∀ a w, TP P ops cl K p a w → stepT P ops (cl j) oj a w (TP P ops cl K (p.after j)) := by
  induction hv with
  | nil => intro hj; cases hj
  | @one S i p h1 h2 h3 h4 ih =>
    intro hj hr hm a w h
    obtain ⟨oi, hoi, h⟩ := h
    by_cases hij : i = j
    · subst hij
      rw [hr.get] at hoi; cases hoi
      simpa [Pln.after] using h
    · have h5 := stepT_mono (fun a' w' h' => ih (mem_ne hj (Ne.symm hij)) (hr.sub fun _ => mem_sub) (fun k hk => hm k (mem_sub hk)) a' w' h') h
      obtain ⟨hf, hap⟩ := h3 j hj (Ne.symm hij) (hm i h1)
      have h6 := stepT_swap ⟨hap oi oj hoi hr.get, fun cs b => hsel i oi cs b hoi, fun cs b => hsel j oj cs b hr.get⟩ hf h5
      simp only [Pln.after, if_neg hij]
      exact stepT_mono (fun a' w' h' => ⟨oi, hoi, h'⟩) h6
  | @two S x y p q h1 h2 h3 h4 h5 h6 h7 _ _ =>
    intro hj hr hm a w h
    have h8 := h w.drawn
    rw [wat_self] at h8
    by_cases hx : x = j
    · subst hx
      obtain ⟨o, ho, h9⟩ := h8.1
      rw [hr.get] at ho; cases ho
      simpa [Pln.after] using h9
    · by_cases hy : y = j
      · subst hy
        obtain ⟨o, ho, h9⟩ := h8.2
        rw [hr.get] at ho; cases ho
        simpa [Pln.after, hx] using h9
      · exact absurd hr (h5 j hj (Ne.symm hx) (Ne.symm hy) oj)
theorem left_setf {pi : List Nat} {listed : Array Bool} {j : Nat} (hj : j < listed.size) : left pi (listed.setIfInBounds j true) = (left pi listed).filter (· != j) := by
  unfold left
  rw [List.filter_filter]
  apply List.filter_congr
  intro i _
  by_cases h : j = i
  · subst h
    simp [hj]
  · rw [getD_set_ne true h]
    have : (i != j) = true := by simp; exact fun h' => h h'.symm
    rw [this]; simp
theorem nodup_filter_len {S : List Nat} {j : Nat} (hn : S.Nodup) (hj : j ∈ S) : (S.filter (· != j)).length + 1 = S.length := by
  induction S with
  | nil => cases hj
  | cons a S ih =>
    rw [List.nodup_cons] at hn
    by_cases ha : a = j
    · subst ha
      have : S.filter (· != a) = S := List.filter_eq_self.2 fun b hb => by
        simp; rintro rfl; exact hn.1 hb
      rw [List.filter_cons_of_neg (by simp), this, List.length_cons]
    · have hj' : j ∈ S := (List.mem_cons.1 hj).resolve_left (Ne.symm ha)
      rw [List.filter_cons_of_pos (by simpa using ha), List.length_cons, List.length_cons, ih hn.2 hj']
theorem wpAny_of_TP {M pi : List Nat} (ok : OkRegion ops cl M pi fun _ _ => true) :
    ∀ (d : Nat) (listed : Array Bool) (a : Act) (w : World) (p : Pln), (left pi listed).length = d → listed.size = ops.size → Shut ops listed → Val ops cl M (left pi listed) p → TP P ops cl K p a w →
    ∀ n, wpAny P .any ops (fun e a w => e = .normal ∧ K a (nrm w)) d listed a (wat w n) := by
  intro d
  induction d with
  | zero =>
    intro listed a w p hd hsz hc hv h n
    have h0 : left pi listed = [] := List.eq_nil_of_length_eq_zero hd
    rw [h0] at hv
    cases hv with
    | one h1 => cases h1
    | two h1 => cases h1
    | nil =>
      refine ⟨?_, rfl, ?_⟩
      · apply List.eq_nil_iff_forall_not_mem.2
        intro j hj
        obtain ⟨hu, o, ho, _⟩ := mem_ready.1 hj
        have : j ∈ left pi listed := List.mem_filter.2 ⟨ok.all j (Array.getElem?_eq_some_iff.1 ho).1, by rw [hu]; rfl⟩
        rw [h0] at this; cases this
      · exact h
  | succ d ih =>
    intro listed a w p hd hsz hc hv h n
    have hunl : ∀ i, i < ops.size → (i ∈ left pi listed ↔ listed.getD i true = false) := fun i hi => by
      rw [left, List.mem_filter]; simp [ok.all i hi]
    have hin : ∀ i, i ∈ left pi listed → i < ops.size := fun i hi => by
      have hu : listed.getD i true = false := by have := (List.mem_filter.1 hi).2; simpa using this
      rcases Nat.lt_or_ge i listed.size with h' | h'
      · omega
      · simp [Array.getElem?_eq_none h'] at hu
    have hp0 : (left pi listed).Pairwise (fun a b => pi.idxOf a < pi.idxOf b) := List.Pairwise.filter _ (nodup_before ok.nd)
    refine ⟨fun hr => ?_, fun j hj => ?_⟩
    · exfalso
      match hl : left pi listed with
      | [] => rw [hl] at hd; simp at hd
      | i0 :: l =>
        have hi0 : i0 ∈ left pi listed := by rw [hl]; exact List.mem_cons_self ..
        have hlt : i0 < ops.size := hin i0 hi0
        have hrd : i0 ∈ Region.ready .any ops listed := by
          refine mem_ready.2 ⟨(hunl i0 hlt).1 hi0, ops[i0], Array.getElem?_eq_getElem hlt, fun e he hb => ?_⟩
          obtain ⟨hes, hb'⟩ := ok.back i0 _ (Array.getElem?_eq_getElem hlt) e he hb
          cases hu : listed.getD e.on true with
          | true => exact getD_ft (by omega) hu
          | false =>
            have hin' : e.on ∈ left pi listed := (hunl e.on hes).2 hu
            rw [hl] at hp0 hin'
            rcases List.mem_cons.1 hin' with h1 | h1
            · rw [h1] at hb'; omega
            · have := (List.pairwise_cons.1 hp0).1 _ h1; omega
        rw [hr] at hrd; cases hrd
    · obtain ⟨hju, oj, hoj, hall⟩ := mem_ready.1 hj
      have hjlt : j < ops.size := (Array.getElem?_eq_some_iff.1 hoj).1
      have hjl : j ∈ left pi listed := (hunl j hjlt).2 hju
      have hrdy : Rdy ops (left pi listed) j oj := ⟨hoj, fun e he hb hin' => by
        have h1 := (List.mem_filter.1 hin').2
        have h2 : listed.getD e.on true = false := by simpa using h1
        have := hall e he hb
        rw [getD_tf h2] at this; cases this⟩
      have hmask : ∀ i ∈ left pi listed, (M.getD j 0).testBit i = false := fun i hi => by
        cases hm : (M.getD j 0).testBit i with
        | false => rfl
        | true =>
          have := mask_listed ok hc _ j oj rfl hoj hall i (hin i hi) hm
          rw [getD_tf ((hunl i (hin i hi)).1 hi)] at this; cases this
      have hst := TP_front (P := P) (K := K) ok.sel hv hjl hrdy hmask a w h
      have hva := hv.after hjl hrdy
      have hl' : left pi (listed.setIfInBounds j true) = (left pi listed).filter (· != j) := left_setf (by omega)
      have hd' : (left pi (listed.setIfInBounds j true)).length = d := by
        have := nodup_filter_len (S := left pi listed) (List.Pairwise.filter _ ok.nd) hjl
        rw [hl']; omega
      have hsz' : (listed.setIfInBounds j true).size = ops.size := by simpa using hsz
      have hc' : Shut ops (listed.setIfInBounds j true) := fun i oi hoi hli e he hb => by
        by_cases hij : j = i
        · subst hij
          rw [hoj] at hoi; cases hoi
          exact getD_set_true (hall e he hb)
        · rw [getD_set_ne false hij] at hli
          exact getD_set_true (hc i oi hoi hli e he hb)
      exact wpOp_of_step hoj hst (fun a' w' h' => ih (listed.setIfInBounds j true) a' w' _ hd' hsz' hc' (by rw [hl']; exact hva) h') n
theorem tt_region_plan {f : FuncId} {R : Value → World → Prop} {k : List Item} {a : Act} {w : World} {id : Nat} {l : List Oper} (cl : Nat → Cls) (M pi : List Nat) (p : Pln)
    (hm : P.follows .mixedOrders = true) (hB : (okBX l.toArray cl M pi (fun _ _ => true) && okPl l.toArray cl M pi p) = true)
    (h : TP P l.toArray cl (TT P f R k) p a w) : TT P f R (.code (.region id l.toArray true) :: k) a w := by
  refine tt_of_region fun n => wp_region_any hm ?_
  rw [Bool.and_eq_true] at hB
  have ok := okBX_spec hB.1
  have hsz : ∀ i ∈ pi, i < l.length := fun i hi => by have := ok.lt i hi; simpa using this
  have hl : left pi (Array.replicate l.toArray.size false) = pi := by
    unfold left
    rw [List.size_toArray]
    refine List.filter_eq_self.2 fun i hi => ?_
    have := hsz i hi
    simp [this]
  have := wpAny_of_TP ok l.length (Array.replicate l.toArray.size false) a w p (by rw [hl]; have := ok.len; simpa using this) (by simp)
    (fun j oj _ h0 => by
      rcases Nat.lt_or_ge j l.length with h' | h'
      · simp [h'] at h0
      · simp [Nat.not_lt.2 h'] at h0) (by rw [hl]; exact okPl_spec hB.2) h (n + 1)
  rw [List.size_toArray] at this ⊢
  exact this
end
end Go.Proofs.YtppkiiomedembaaGreatDoor
namespace Go.Proofs.YtppkiiomedembaaGreatDoor
open Go
/-! ### parts of memory -/
abbrev Mem := Nat → Option Obj
def hp (w : World) : Mem := fun g => w.heap[g]?
structure HP where
  sat : Mem → (Nat → Prop) → Prop
  loc : ∀ {h h' : Mem} {S : Nat → Prop}, sat h S → (∀ g, S g → h' g = h g) → sat h' S
  dom : ∀ {h : Mem} {S : Nat → Prop} {g : Nat}, sat h S → S g → h g ≠ none
def sats : List HP → Mem → (Nat → Prop) → Prop
  | [], _, S => ∀ g, ¬ S g
  | A :: L, h, S => ∃ S1 S2, A.sat h S1 ∧ sats L h S2 ∧ (∀ g, S1 g → ¬ S2 g) ∧ (∀ g, S g ↔ S1 g ∨ S2 g)
theorem sats_loc {h h' : Mem} : ∀ {L : List HP} {S : Nat → Prop}, sats L h S → (∀ g, S g → h' g = h g) → sats L h' S
  | [], _, hs, _ => hs
  | _ :: _, _, ⟨S1, S2, h1, h2, hd, hu⟩, he => ⟨S1, S2, HP.loc _ h1 fun g hg => he g ((hu g).2 (.inl hg)), sats_loc h2 fun g hg => he g ((hu g).2 (.inr hg)), hd, hu⟩
theorem sats_dom {h : Mem} : ∀ {L : List HP} {S : Nat → Prop} {g : Nat}, sats L h S → S g → h g ≠ none
  | [], _, _, hs, hg => absurd hg (hs _)
  | _ :: _, _, g, ⟨_, _, h1, h2, _, hu⟩, hg => by
    rcases (hu g).1 hg with hg | hg
    · exact HP.dom _ h1 hg
    · exact sats_dom h2 hg
theorem sats_eqv {h : Mem} : ∀ {L : List HP} {S S' : Nat → Prop}, (∀ g, S g ↔ S' g) → sats L h S → sats L h S'
  | [], _, _, he, hs => fun g hg => hs g ((he g).2 hg)
  | _ :: _, _, _, he, ⟨S1, S2, h1, h2, hd, hu⟩ => ⟨S1, S2, h1, h2, hd, fun g => (he g).symm.trans (hu g)⟩
theorem sats_append {h : Mem} : ∀ {L M : List HP} {S : Nat → Prop}, sats (L ++ M) h S ↔ ∃ S1 S2, sats L h S1 ∧ sats M h S2 ∧ (∀ g, S1 g → ¬ S2 g) ∧ (∀ g, S g ↔ S1 g ∨ S2 g)
  | [], M, S => by
    constructor
    · intro hs; exact ⟨fun _ => False, S, fun _ => id, hs, fun _ hf => hf.elim, fun g => by simp⟩
    · rintro ⟨S1, S2, h1, h2, _, hu⟩
      exact sats_eqv (fun g => by rw [hu g]; simp [h1 g]) h2
  | A :: L, M, S => by
    constructor
    · rintro ⟨T1, T2, hA, hr, hd, hu⟩
      obtain ⟨U1, U2, hL, hM, hd', hu'⟩ := sats_append.1 hr
      refine ⟨fun g => T1 g ∨ U1 g, U2, ⟨T1, U1, hA, hL, fun g hg hg' => hd g hg ((hu' g).2 (.inl hg')), fun _ => Iff.rfl⟩, hM, ?_, fun g => by rw [hu g, hu' g, or_assoc]⟩
      rintro g (hg | hg) hg'
      · exact hd g hg ((hu' g).2 (.inr hg'))
      · exact hd' g hg hg'
    · rintro ⟨S1, S2, ⟨T1, U1, hA, hL, hd, hu⟩, hM, hd', hu'⟩
      refine ⟨T1, fun g => U1 g ∨ S2 g, hA, sats_append.2 ⟨U1, S2, hL, hM, fun g hg => hd' g ((hu g).2 (.inr hg)), fun _ => Iff.rfl⟩, ?_, fun g => by rw [hu' g, hu g, or_assoc]⟩
      rintro g hg (hg' | hg')
      · exact hd g hg hg'
      · exact hd' g ((hu g).2 (.inl hg)) hg'
theorem sats_perm {h : Mem} {L M : List HP} (hp : L.Perm M) : ∀ {S : Nat → Prop}, sats L h S → sats M h S := by
  induction hp with
  | nil => intro S hs; exact hs
  | cons A _ ih => rintro S ⟨S1, S2, h1, h2, hd, hu⟩; exact ⟨S1, S2, h1, ih h2, hd, hu⟩
  | swap A B l =>
    rintro S ⟨S1, S2, h1, ⟨T1, T2, g1, g2, gd, gu⟩, hd, hu⟩
    refine ⟨T1, fun g => S1 g ∨ T2 g, g1, ⟨S1, T2, h1, g2, fun g hg hg' => hd g hg ((gu g).2 (.inr hg')), fun _ => Iff.rfl⟩, ?_, fun g => by rw [hu g, gu g]; constructor <;> (rintro (a | b | c) <;> simp [*])⟩
    rintro g hg (hg' | hg')
    · exact hd g hg' ((gu g).2 (.inl hg))
    · exact gd g hg hg'
  | trans _ _ ih1 ih2 => intro S hs; exact ih2 (ih1 hs)
inductive Take (A : HP) : List HP → List HP → Prop where
  | here {L : List HP} : Take A (A :: L) L
  | there {B : HP} {L L' : List HP} : Take A L L' → Take A (B :: L) (B :: L')
theorem Take.perm {A : HP} {L L' : List HP} (h : Take A L L') : L.Perm (A :: L') := by
  induction h with
  | here => exact List.Perm.refl _
  | there _ ih => exact (ih.cons _).trans (List.Perm.swap _ _ _)
inductive Swp (A B : HP) : List HP → List HP → Prop where
  | here {L : List HP} : Swp A B (A :: L) (B :: L)
  | there {C : HP} {L L' : List HP} : Swp A B L L' → Swp A B (C :: L) (C :: L')
inductive Subs : List HP → List HP → List HP → Prop where
  | nil {L : List HP} : Subs [] L L
  | cons {A : HP} {M L L' F : List HP} : Take A L L' → Subs M L' F → Subs (A :: M) L F
theorem Subs.perm {M L F : List HP} (h : Subs M L F) : L.Perm (M ++ F) := by
  induction h with
  | nil => exact List.Perm.refl _
  | cons ht _ ih => exact ht.perm.trans (ih.cons _)
/-! ### the memory of a run -/
structure St (q : Bool) (w0 : World) (S0 : Nat → Prop) (L : List HP) (w : World) : Prop where
  same : q = true → nrm w = nrm w0
  os : w.os = w0.os
  tape : w.tape = w0.tape
  output : w.output = w0.output
  size : w0.heap.size ≤ w.heap.size
  old : ∀ g, g < w0.heap.size → ¬ S0 g → w.heap[g]? = w0.heap[g]?
  sat : ∃ S, sats L (hp w) S ∧ ∀ g, S g → S0 g ∨ w0.heap.size ≤ g
section St
variable {q : Bool} {w0 w w' : World} {S0 : Nat → Prop} {L L' F M : List HP}
theorem St.wat (h : St q w0 S0 L w) (n : Nat) : St q w0 S0 L (wat w n) := ⟨h.same, h.os, h.tape, h.output, h.size, h.old, h.sat⟩
theorem St.nrm (h : St q w0 S0 L w) : St q w0 S0 L (nrm w) := ⟨h.same, h.os, h.tape, h.output, h.size, h.old, h.sat⟩
theorem St.of_nrm (h : St q w0 S0 L (Proofs.YtppkiiomedembaaGreatDoor.nrm w)) : St q w0 S0 L w := ⟨h.same, h.os, h.tape, h.output, h.size, h.old, h.sat⟩
theorem St.perm (h : St q w0 S0 L w) (hp : L.Perm L') : St q w0 S0 L' w :=
  ⟨h.same, h.os, h.tape, h.output, h.size, h.old, h.sat.imp fun _ ⟨a, b⟩ => ⟨sats_perm hp a, b⟩⟩
theorem St.ext (h : St false w0 S0 L w) (hx : Gx w w') : St false w0 S0 L w' := by
  have hsz : w.heap.size ≤ w'.heap.size := by
    rcases Nat.lt_or_ge w'.heap.size w.heap.size with h1 | h1
    · have h2 := hx.ext w'.heap.size _ (Array.getElem?_eq_getElem h1)
      rw [Array.getElem?_eq_none (Nat.le_refl _)] at h2; cases h2
    · exact h1
  have hg : ∀ g, g < w.heap.size → w'.heap[g]? = w.heap[g]? := fun g hg => by
    rw [Array.getElem?_eq_getElem hg]; exact hx.ext g _ (Array.getElem?_eq_getElem hg)
  refine ⟨(fun h => nomatch h), hx.os.trans h.os, hx.tape.trans h.tape, hx.output.trans h.output, Nat.le_trans h.size hsz, fun g hl hn => (hg g (Nat.lt_of_lt_of_le hl h.size)).trans (h.old g hl hn), ?_⟩
  obtain ⟨S, h1, h2⟩ := h.sat
  refine ⟨S, sats_loc h1 fun g hS => hg g ?_, h2⟩
  have := sats_dom h1 hS
  rcases Nat.lt_or_ge g w.heap.size with hl | hl
  · exact hl
  · exact absurd (Array.getElem?_eq_none hl) this
theorem St.start (h : sats L (hp w) S0) : St q w S0 L w := ⟨fun _ => rfl, rfl, rfl, rfl, Nat.le_refl _, fun _ _ _ => rfl, S0, h, fun _ h => .inl h⟩
theorem St.step (h : St q w0 S0 (M ++ F) w) (os : w'.os = w.os) (tape : w'.tape = w.tape) (output : w'.output = w.output) (size : w.heap.size ≤ w'.heap.size)
    (hs : ∀ S, sats M (hp w) S → (∀ g, g < w.heap.size → ¬ S g → w'.heap[g]? = w.heap[g]?) ∧ ∃ S', sats L' (hp w') S' ∧ ∀ g, S' g → S g ∨ w.heap.size ≤ g) : St false w0 S0 (L' ++ F) w' := by
  obtain ⟨S, hS, hin⟩ := h.sat
  obtain ⟨S1, S2, h1, h2, hd, hu⟩ := sats_append.1 hS
  obtain ⟨hold, S1', h1', hin'⟩ := hs S1 h1
  have hlt : ∀ g, S2 g → g < w.heap.size := fun g hg => by
    have := sats_dom h2 hg
    rcases Nat.lt_or_ge g w.heap.size with hl | hl
    · exact hl
    · exact absurd (Array.getElem?_eq_none hl) this
  refine ⟨(fun hq => nomatch hq), os.trans h.os, tape.trans h.tape, output.trans h.output, Nat.le_trans h.size size, fun g hg hng => ?_, fun g => S1' g ∨ S2 g, ?_, ?_⟩
  · rw [← h.old g hg hng]
    refine hold g (Nat.lt_of_lt_of_le hg h.size) fun hg1 => ?_
    rcases hin g ((hu g).2 (.inl hg1)) with h' | h'
    · exact hng h'
    · omega
  · refine sats_append.2 ⟨S1', S2, h1', sats_loc h2 fun g hg => hold g (hlt g hg) fun hg1 => hd g hg1 hg, fun g hg hg2 => ?_, fun _ => Iff.rfl⟩
    rcases hin' g hg with h' | h'
    · exact hd g h' hg2
    · have := hlt g hg2; omega
  · rintro g (hg | hg)
    · rcases hin' g hg with h' | h'
      · exact hin g ((hu g).2 (.inl h'))
      · exact .inr (Nat.le_trans h.size h')
    · exact hin g ((hu g).2 (.inr hg))
theorem St.frame (h : St q w0 S0 (M ++ F) w) : ∃ S1, sats M (hp w) S1 ∧ ∀ q' L' w', St q' w S1 L' w' → St false w0 S0 (L' ++ F) w' := by
  obtain ⟨S, hS, hin⟩ := h.sat
  obtain ⟨S1, S2, h1, h2, hd, hu⟩ := sats_append.1 hS
  refine ⟨S1, h1, fun q' L' w' h0 => ?_⟩
  obtain ⟨S1', h1', hin'⟩ := h0.sat
  have hlt : ∀ g, S2 g → g < w.heap.size := fun g hg => by
    have := sats_dom h2 hg
    rcases Nat.lt_or_ge g w.heap.size with hl | hl
    · exact hl
    · exact absurd (Array.getElem?_eq_none hl) this
  refine ⟨(fun hq => nomatch hq), h0.os.trans h.os, h0.tape.trans h.tape, h0.output.trans h.output, Nat.le_trans h.size h0.size, fun g hg hng => ?_, fun g => S1' g ∨ S2 g, ?_, ?_⟩
  · rw [← h.old g hg hng]
    refine h0.old g (Nat.lt_of_lt_of_le hg h.size) fun hg1 => ?_
    rcases hin g ((hu g).2 (.inl hg1)) with h' | h'
    · exact hng h'
    · omega
  · refine sats_append.2 ⟨S1', S2, h1', sats_loc h2 fun g hg => h0.old g (hlt g hg) fun hg1 => hd g hg1 hg, fun g hg hg2 => ?_, fun _ => Iff.rfl⟩
    rcases hin' g hg with h' | h'
    · exact hd g h' hg2
    · have := hlt g hg2; omega
  · rintro g (hg | hg)
    · rcases hin' g hg with h' | h'
      · exact hin g ((hu g).2 (.inl h'))
      · exact .inr (Nat.le_trans h.size h')
    · exact hin g ((hu g).2 (.inr hg))
end St
/-! ### the frame's slots -/
def nth : List Value → Nat → Option Value
  | [], _ => none
  | v :: _, 0 => some v
  | _ :: l, n + 1 => nth l n
def lk : List (Nat × Value) → Nat → Option Value
  | [], _ => none
  | (d, u) :: r, t => bif Nat.beq d t then some u else lk r t
def sv (loc : List Value) (tmp : List (Nat × Value)) : Operand → Option Value
  | .tmp t => match nth loc t with | some v => some v | none => lk tmp t
  | .const v => some v
  | .global g => some (.pointer (some ⟨g, 0, none⟩))
  | .func f => some (.func (.func f) #[] #[])
def setL : List Value → Nat → Value → List Value
  | [], _, _ => []
  | _ :: l, 0, u => u :: l
  | v :: l, n + 1, u => v :: setL l n u
def ptL (loc : List Value) : Option Tmp → Value → List Value
  | none, _ => loc
  | some d, v => match nth loc d with | some _ => setL loc d v | none => loc
def ptT (loc : List Value) (tmp : List (Nat × Value)) : Option Tmp → Value → List (Nat × Value)
  | none, _ => tmp
  | some d, v => match nth loc d with | some _ => tmp | none => (d, v) :: tmp
structure Rel (n : Nat) (loc : List Value) (tmp : List (Nat × Value)) (a : Act) : Prop where
  defers : a.defers = []
  size : a.tmps.size = n
  hloc : ∀ i v, nth loc i = some v → a.tmps[i]? = some v
  htmp : ∀ t v, nth loc t = none → lk tmp t = some v → a.tmps[t]? = some v
theorem nth_setL : ∀ (l : List Value) (d : Nat) (u : Value) (i : Nat), nth (setL l d u) i = if i = d ∧ (nth l d).isSome then some u else nth l i
  | [], d, u, i => by simp [setL, nth]
  | x :: l, 0, u, 0 => by simp [setL, nth]
  | x :: l, 0, u, i + 1 => by simp [setL, nth]
  | x :: l, d + 1, u, 0 => by simp [setL, nth]
  | x :: l, d + 1, u, i + 1 => by simp [setL, nth, nth_setL l d u i]
section Rel
variable {n : Nat} {loc : List Value} {tmp : List (Nat × Value)} {a : Act}
theorem Rel.ev (h : Rel n loc tmp a) {x : Operand} {v : Value} (hx : sv loc tmp x = some v) : a.eval x = v := by
  cases x with
  | tmp t =>
    simp only [sv] at hx
    cases hn : nth loc t with
    | some u => rw [hn] at hx; cases hx; simp [Act.eval, h.hloc t _ hn]
    | none => rw [hn] at hx; simp [Act.eval, h.htmp t _ hn hx]
  | const u => cases hx; rfl
  | global g => cases hx; rfl
  | func f => cases hx; rfl
theorem Rel.at_ (h : Rel n loc tmp a) {t : Nat} {v : Value} (hx : sv loc tmp (.tmp t) = some v) : a.tmps[t]? = some v := by
  simp only [sv] at hx
  cases hn : nth loc t with
  | some u => rw [hn] at hx; cases hx; exact h.hloc t _ hn
  | none => rw [hn] at hx; exact h.htmp t _ hn hx
theorem Rel.put (h : Rel n loc tmp a) {d : Option Tmp} (hd : (match d with | some d => Nat.blt d n | none => true) = true) (v : Value) : Rel n (ptL loc d v) (ptT loc tmp d v) (a.put d v) := by
  cases d with
  | none => exact h
  | some d =>
    have hlt : d < a.tmps.size := by rw [h.size]; simpa [Nat.blt_eq] using hd
    refine ⟨h.defers, by simp [Act.put, h.size], fun i u hi => ?_, fun t u hn ht => ?_⟩
    · simp only [ptL] at hi
      simp only [Act.put]
      cases hnd : nth loc d with
      | some x =>
        simp only [hnd, nth_setL] at hi
        by_cases hid : i = d
        · subst hid; simp [hnd] at hi; subst hi; simp [hlt]
        · simp [hid] at hi; rw [Array.getElem?_setIfInBounds_ne (fun e => hid e.symm)]; exact h.hloc i u hi
      | none =>
        simp only [hnd] at hi
        have hid : d ≠ i := fun e => by subst e; rw [hnd] at hi; cases hi
        rw [Array.getElem?_setIfInBounds_ne hid]; exact h.hloc i u hi
    · simp only [ptL, ptT] at hn ht
      simp only [Act.put]
      cases hnd : nth loc d with
      | some x =>
        simp only [hnd] at hn ht
        rw [nth_setL] at hn
        have hid : d ≠ t := fun e => by subst e; simp [hnd] at hn
        have hn' : nth loc t = none := by simpa [Ne.symm hid] using hn
        rw [Array.getElem?_setIfInBounds_ne hid]; exact h.htmp t u hn' ht
      | none =>
        simp only [hnd] at hn ht
        by_cases hid : d = t
        · subst hid
          simp [lk] at ht
          subst ht; simp [hlt]
        · have hb : Nat.beq d t = false := by
            cases hb : Nat.beq d t with
            | false => rfl
            | true => exact absurd (Nat.eq_of_beq_eq_true hb) hid
          simp only [lk, hb, cond_false] at ht
          rw [Array.getElem?_setIfInBounds_ne hid]; exact h.htmp t u hn ht
theorem Rel.forget (h : Rel n loc tmp a) : Rel n loc [] a := ⟨h.defers, h.size, h.hloc, fun _ _ _ h => by cases h⟩
end Rel
/-! ### code, from a symbolic state on -/
inductive KT where
  | pr (x y : Nat) (post : List Nat)
  | pl (p : Pln)
structure Fx where
  P : Program
  f : FuncId
  fn : Func
  R : Value → List HP → Prop
  n : Nat
  q : Bool
  hf : P.funcs[f]? = some fn
  kt : Option KT := none
def Fx.Post (X : Fx) (w0 : World) (S0 : Nat → Prop) : Value → World → Prop := fun v w' => ∃ L, X.R v L ∧ St X.q w0 S0 L w'
def Fx.kont (X : Fx) (ops : Array Oper) (cf : Nat → Cls) (k : List Item) (w0 : World) (S0 : Nat → Prop) : Act → World → Prop :=
  match X.kt with
  | none => TT X.P X.f (X.Post w0 S0) k
  | some (.pr x y post) => pairK X.P ops cf (TT X.P X.f (X.Post w0 S0) k) x y post
  | some (.pl p) => TP X.P ops cf (TT X.P X.f (X.Post w0 S0) k) p
def E (X : Fx) (k : List Item) (loc : List Value) (tmp : List (Nat × Value)) (L : List HP) : Prop :=
  ∀ w0 S0 a w, Rel X.n loc tmp a → St X.q w0 S0 L w → TT X.P X.f (X.Post w0 S0) k a w
def Cls.calm : Cls → Bool
  | .new | .gar => false
  | _ => true
def EO (X : Fx) (ops : Array Oper) (cf : Nat → Cls) (k : List Item) (is : List Nat) (l : List Oper) (loc : List Value) (tmp : List (Nat × Value)) (L : List HP) : Prop :=
  ((l.map some = is.map (ops[·]?)) ∧ (X.q = true → ∀ j, (cf j).calm = true)) → ∀ w0 S0 a w, Rel X.n loc tmp a → St X.q w0 S0 L w → TR X.P ops cf (X.kont ops cf k w0 S0) is a w
def FnG (q : Bool) (P : Program) (f : FuncId) (args : Array Value) (L : List HP) (R : Value → List HP → Prop) : Prop :=
  ∀ w S, sats L (hp w) S → CH P f args w fun v w' => ∃ L', R v L' ∧ St q w S L' w'
abbrev Fn (P : Program) (f : FuncId) (args : Array Value) (L : List HP) (R : Value → List HP → Prop) : Prop := FnG false P f args L R
abbrev Qn (P : Program) (f : FuncId) (args : Array Value) (L : List HP) (v : Value) : Prop := FnG true P f args L fun u _ => u = v
theorem FnG.mono {q : Bool} {P : Program} {f : FuncId} {args : Array Value} {L : List HP} {R R' : Value → List HP → Prop} (h : FnG q P f args L R) (hr : ∀ v L', R v L' → R' v L') : FnG q P f args L R' :=
  fun w S hs => (h w S hs).mono fun _ _ ⟨L', r, s⟩ => ⟨L', hr _ _ r, s⟩
section rules
variable {X : Fx} {k : List Item} {loc : List Value} {tmp : List (Nat × Value)} {L : List HP}
theorem fn_of_E' {q : Bool} {P : Program} {f : FuncId} {fn : Func} {c : Code} {args : List Value} {R : Value → List HP → Prop} (m n : Nat) (loc0 : List Value)
    (hf : P.funcs[f]? = some fn) (hb : fn.body = some c) (hn : fn.ntmps = n)
    (h : E ⟨P, f, fn, R, n, q, hf, none⟩ [.code c] loc0 [] L) (hm : Nat.ble args.length m = true := by rfl) (hmn : Nat.ble m n = true := by rfl) (h0 : loc0 = args ++ List.replicate (m - args.length) undef := by rfl) : FnG q P f args.toArray L R := by
  intro w S hs
  subst hn
  subst h0
  have hm := Nat.le_of_ble_eq_true hm
  have hmn := Nat.le_of_ble_eq_true hmn
  refine ch_of_tt hf hb (h w S _ w ⟨rfl, ?_, fun i v hi => ?_, fun _ _ _ h => by cases h⟩ (.start hs))
  · simp; omega
  · have key : ∀ (l : List Value) i v, nth l i = some v → l[i]? = some v := by
      intro l
      induction l with
      | nil => intro i v h; cases h
      | cons x l ih => intro i v h; cases i with | zero => simpa [nth] using h | succ i => simpa using ih i v h
    have h1 := key _ _ _ hi
    have hlt : i < m := by have := (List.getElem?_eq_some_iff.1 h1).1; simp at this; omega
    simp only [Array.getElem?_append, List.size_toArray]
    rw [List.getElem?_append] at h1
    by_cases hia : i < args.length
    · simp [hia] at h1 ⊢; exact h1
    · rw [if_neg hia] at h1
      rw [if_neg hia]
      rw [List.getElem?_replicate] at h1
      rw [Array.getElem?_replicate]
      have hc : i - args.length < fn.ntmps - args.length := by omega
      split at h1
      · simpa [hc] using h1
      · cases h1
theorem E.perm {L' : List HP} (hp : L.Perm L') (h : E X k loc tmp L') : E X k loc tmp L := fun w0 S0 a w hr hs => h w0 S0 a w hr (hs.perm hp)
theorem E.conv {loc' : List Value} (hl : loc = loc') (h : E X k loc' [] L) : E X k loc tmp L := fun w0 S0 a w hr hs => h w0 S0 a w (hl ▸ hr.forget) hs
theorem E.forget (h : E X k loc [] L) : E X k loc tmp L := fun w0 S0 a w hr hs => h w0 S0 a w hr.forget hs
theorem e_skip (h : E X k loc tmp L) : E X (.code .skip :: k) loc tmp L := fun w0 S0 a w hr hs => tt_skip (h w0 S0 a w hr hs)
theorem e_inBlock {i : Nat} (h : E X k loc tmp L) : E X (.inBlock i :: k) loc tmp L := fun w0 S0 a w hr hs => tt_inBlock (h w0 S0 a w hr hs)
theorem e_seq {x y : Code} (h : E X (.code x :: .code y :: k) loc tmp L) : E X (.code (.seq x y) :: k) loc tmp L := fun w0 S0 a w hr hs => tt_seq (h w0 S0 a w hr hs)
theorem e_block {i : Nat} {c : Code} (h : E X (.code c :: .inBlock i :: k) loc tmp L) : E X (.code (.block i c) :: k) loc tmp L := fun w0 S0 a w hr hs => tt_block (h w0 S0 a w hr hs)
theorem e_exit {i : Nat} {k' : List Item} (hk : exitTo i k = some k') (h : E X k' loc tmp L) : E X (.code (.exit i) :: k) loc tmp L := fun w0 S0 a w hr hs => tt_exit hk (h w0 S0 a w hr hs)
theorem e_cond {c : Operand} {x y : Code} {t : Bool} (hc : sv loc tmp c = some (.bool t)) (ht : t = true → E X (.code x :: k) loc tmp L) (hf : t = false → E X (.code y :: k) loc tmp L) : E X (.code (.cond c x y) :: k) loc tmp L := fun w0 S0 a w hr hs =>
  tt_cond (hr.ev hc) (by cases t; exact hf rfl w0 S0 a w hr hs; exact ht rfl w0 S0 a w hr hs)
theorem e_true {c : Operand} {x y : Code} (hc : sv loc tmp c = some (.bool true)) (ht : E X (.code x :: k) loc tmp L) : E X (.code (.cond c x y) :: k) loc tmp L := e_cond hc (fun _ => ht) (fun h => by cases h)
theorem e_false {c : Operand} {x y : Code} (hc : sv loc tmp c = some (.bool false)) (hf : E X (.code y :: k) loc tmp L) : E X (.code (.cond c x y) :: k) loc tmp L := e_cond hc (fun h => by cases h) (fun _ => hf)
theorem e_rounds {ι : Type} {c : Code} (m : ι → Nat) (loI : ι → List Value) (LI : ι → List HP) (PI : ι → Prop) (i0 : ι) (h0 : PI i0) (hl : loc = loI i0) (hL : L.Perm (LI i0))
    (round : ∀ i, PI i → (∀ j, m j < m i → PI j → E X (.inLoop c :: k) (loI j) [] (LI j)) → E X (.code c :: .inLoop c :: k) (loI i) [] (LI i)) :
    E X (.code (.loop c) :: k) loc tmp L := by
  have key : ∀ d i, m i = d → PI i → E X (.code c :: .inLoop c :: k) (loI i) [] (LI i) := by
    intro d
    induction d using Nat.strongRecOn with
    | _ d ih =>
      intro i hd hp
      refine round i hp fun j hj hpj w0 S0 a w hr hs => tt_inLoop (ih (m j) (hd ▸ hj) j rfl hpj w0 S0 a w hr hs)
  exact fun w0 S0 a w hr hs => tt_loop (key _ i0 rfl h0 w0 S0 a w (hl ▸ hr.forget) (hs.perm hL))
end rules
end Go.Proofs.YtppkiiomedembaaGreatDoor
namespace Go.Proofs.YtppkiiomedembaaGreatDoor
open Go
inductive SetL : List Value → Nat → Value → List Value → Prop where
  | zero {v u : Value} {l : List Value} : SetL (v :: l) 0 u (u :: l)
  | succ {v u : Value} {l l' : List Value} {n : Nat} : SetL l n u l' → SetL (v :: l) (n + 1) u (v :: l')
theorem SetL.eq {l l' : List Value} {n : Nat} {u : Value} (h : SetL l n u l') : (nth l n).isSome = true ∧ l' = setL l n u := by
  induction h with
  | zero => exact ⟨rfl, rfl⟩
  | succ _ ih => exact ⟨ih.1, by rw [ih.2]; rfl⟩
inductive Pt : List Value → List (Nat × Value) → Option Tmp → Value → List Value → List (Nat × Value) → Prop where
  | none {loc : List Value} {tmp : List (Nat × Value)} {v : Value} : Pt loc tmp none v loc tmp
  | tmp {loc : List Value} {tmp : List (Nat × Value)} {v : Value} {d : Nat} : nth loc d = .none → Pt loc tmp (some d) v loc ((d, v) :: tmp)
  | loc {loc loc' : List Value} {tmp : List (Nat × Value)} {v : Value} {d : Nat} : SetL loc d v loc' → Pt loc tmp (some d) v loc' tmp
theorem Pt.eq {loc loc' : List Value} {tmp tmp' : List (Nat × Value)} {d : Option Tmp} {v : Value} (h : Pt loc tmp d v loc' tmp') : loc' = ptL loc d v ∧ tmp' = ptT loc tmp d v := by
  cases h with
  | none => exact ⟨rfl, rfl⟩
  | tmp h => simp [ptL, ptT, h]
  | loc h =>
    obtain ⟨h1, h2⟩ := h.eq
    rename_i d
    cases hn : nth loc d with
    | none => rw [hn] at h1; cases h1
    | some x => simp [ptL, ptT, hn, h2]
def dOK (n : Nat) : Option Tmp → Bool
  | some d => Nat.blt d n
  | none => true
def gdv (ops : Array Oper) (loc : List Value) (tmp : List (Nat × Value)) (g : Option (Nat × Bool)) : Option Bool :=
  match g with
  | none => some true
  | some (j, want) => match (ops[j]?).bind (·.dst) with
    | some t => match sv loc tmp (.tmp t) with
      | some v => some ((match v with | .bool b => some b | _ => none) == some want)
      | none => none
    | none => none
theorem wanted_of {n : Nat} {ops : Array Oper} {loc : List Value} {tmp : List (Nat × Value)} {o : Oper} {a : Act} {b : Bool} (hr : Rel n loc tmp a) (h : gdv ops loc tmp o.guard = some b) : Region.wanted o (yielded ops a.tmps) = b := by
  unfold gdv at h
  unfold Region.wanted
  cases hg : o.guard with
  | none => rw [hg] at h; simpa using h
  | some gw =>
    obtain ⟨j, want⟩ := gw
    simp only [hg] at h ⊢
    cases ht : (ops[j]?).bind (·.dst) with
    | none => rw [ht] at h; cases h
    | some t =>
      simp only [ht] at h
      cases hv : sv loc tmp (.tmp t) with
      | none => rw [hv] at h; cases h
      | some v =>
        simp only [hv, Option.some.injEq] at h
        have := hr.at_ hv
        rw [← h]
        unfold yielded
        rw [ht]
        simp only [Option.bind_some, this]
        cases v <;> rfl
section
variable {X : Fx} {ops : Array Oper} {cf : Nat → Cls} {k : List Item} {i : Nat} {is : List Nat} {l : List Oper} {loc loc' : List Value} {tmp tmp' : List (Nat × Value)} {L L' : List HP} {o : Oper} {v : Value}
theorem x_step (hp : Pt loc tmp o.dst v loc' tmp') (hd : dOK X.n o.dst = true) {w0 w : World} {S0 : Nat → Prop} {a : Act} (hr : Rel X.n loc tmp a) (hs : St X.q w0 S0 L w)
    (hl : ((o :: l).map some = (i :: is).map (ops[·]?)) ∧ (X.q = true → ∀ j, (cf j).calm = true)) (h : EO X ops cf k is l loc' tmp' L) : TR X.P ops cf (X.kont ops cf k w0 S0) is (a.put o.dst v) w := by
  obtain ⟨rfl, rfl⟩ := hp.eq
  exact h ⟨by have hl := hl.1; simp only [List.map_cons, List.cons.injEq] at hl; exact hl.2, hl.2⟩ w0 S0 _ w (hr.put (by cases ho : o.dst <;> simp_all [dOK]) v) hs
theorem calm_q {q : Bool} {cf : Nat → Cls} {c : Cls} (h : q = true → ∀ j, (cf j).calm = true) (hc : cf i = c) (hn : c.calm = false) : q = false := by
  cases q with
  | false => rfl
  | true => have := h rfl i; rw [hc, hn] at this; cases this
theorem St.extq {q : Bool} {w0 w w' : World} {S0 : Nat → Prop} (h : St q w0 S0 L w) (hq : q = false) (hx : Gx w w') : St q w0 S0 L w' := by
  subst hq; exact h.ext hx
theorem x_pure (hg : gdv ops loc tmp o.guard = some true) (hrun : ∀ a, Rel X.n loc tmp a → ∀ w, (execOp a.eval o).run X.P w = .ok (.value v) w)
    (hp : Pt loc tmp o.dst v loc' tmp') (hd : dOK X.n o.dst = true) (h : EO X ops cf k is l loc' tmp' L) : EO X ops cf k (i :: is) (o :: l) loc tmp L := by
  intro hl w0 S0 a w hr hs
  have ho : ops[i]? = some o := by have hl := hl.1; simp only [List.map_cons, List.cons.injEq] at hl; exact hl.1.symm
  refine ⟨o, ho, ?_⟩
  have hT := x_step hp hd hr hs hl h
  have hw := wanted_of hr hg
  cases hcf : cf i with
  | pure => exact ⟨v, .inl ⟨hw, hrun a hr⟩, hT⟩
  | read => exact ⟨v, .inl ⟨hw, fun w1 _ n => by unfold RunN; rw [hrun a hr]; exact ⟨rfl, rfl⟩⟩, hT⟩
  | gar =>
    have hq := calm_q hl.2 hcf (by rfl)
    exact ⟨fun _ => ⟨v, fun w1 _ n => by unfold RunN; rw [hrun a hr]; exact ⟨rfl, ⟨fun _ _ h => h, rfl, rfl, rfl⟩⟩, fun w' hx => x_step hp hd hr (hs.extq hq hx) hl h⟩, fun hw' => by rw [hw] at hw'; cases hw'⟩
  | new =>
    have hq := calm_q hl.2 hcf (by rfl)
    exact ⟨fun _ n => by unfold RunN; rw [hrun a hr]; exact ⟨⟨fun _ _ h => h, rfl, rfl, rfl⟩, fun w2 hx => x_step hp hd hr (hs.nrm.extq hq hx) hl h⟩, fun hw' => by rw [hw] at hw'; cases hw'⟩
  | any => exact ⟨fun _ n => by unfold RunN; rw [hrun a hr]; exact x_step hp hd hr hs.nrm hl h, fun hw' => by rw [hw] at hw'; cases hw'⟩
theorem x_skip (hg : gdv ops loc tmp o.guard = some false) (hp : Pt loc tmp o.dst undef loc' tmp') (hd : dOK X.n o.dst = true) (h : EO X ops cf k is l loc' tmp' L) : EO X ops cf k (i :: is) (o :: l) loc tmp L := by
  intro hl w0 S0 a w hr hs
  have ho : ops[i]? = some o := by have hl := hl.1; simp only [List.map_cons, List.cons.injEq] at hl; exact hl.1.symm
  refine ⟨o, ho, ?_⟩
  have hT := x_step hp hd hr hs hl h
  have hw := wanted_of hr hg
  cases cf i with
  | pure => exact ⟨undef, .inr ⟨hw, rfl⟩, hT⟩
  | read => exact ⟨undef, .inr ⟨hw, rfl⟩, hT⟩
  | gar => exact ⟨fun hw' => (by rw [hw] at hw'; cases hw'), fun _ => hT⟩
  | new => exact ⟨fun hw' => (by rw [hw] at hw'; cases hw'), fun _ => hT⟩
  | any => exact ⟨fun hw' => (by rw [hw] at hw'; cases hw'), fun _ => hT⟩
def Cls.reads : Cls → Bool
  | .pure | .gar => false
  | _ => true
theorem x_read (hg : gdv ops loc tmp o.guard = some true) (hc : (cf i).reads = true)
    (hrun : ∀ a, Rel X.n loc tmp a → ∀ w0 S0 w, St X.q w0 S0 L w → ∀ n, RunN X.P o a.eval (wat w n) fun v' w' => v' = v ∧ nrm w' = nrm w)
    (hp : Pt loc tmp o.dst v loc' tmp') (hd : dOK X.n o.dst = true) (h : EO X ops cf k is l loc' tmp' L) : EO X ops cf k (i :: is) (o :: l) loc tmp L := by
  intro hl w0 S0 a w hr hs
  have ho : ops[i]? = some o := by have hl := hl.1; simp only [List.map_cons, List.cons.injEq] at hl; exact hl.1.symm
  refine ⟨o, ho, ?_⟩
  have hw := wanted_of hr hg
  cases hcf : cf i with
  | pure => rw [hcf] at hc; cases hc
  | read =>
    refine ⟨v, .inl ⟨hw, fun w1 he n => ?_⟩, x_step hp hd hr hs hl h⟩
    obtain ⟨S, hS, _⟩ := hs.sat
    have hS1 : sats L (Proofs.YtppkiiomedembaaGreatDoor.hp w1) S := sats_loc hS fun g hg => by
      have hne := sats_dom hS hg
      cases ho : Proofs.YtppkiiomedembaaGreatDoor.hp w g with
      | none => exact absurd ho hne
      | some o => exact he g o ho
    exact hrun a hr w1 S w1 (St.start hS1) n
  | gar => rw [hcf] at hc; cases hc
  | new =>
    have hq := calm_q hl.2 hcf (by rfl)
    exact ⟨fun _ n => (hrun a hr w0 S0 w hs n).mono fun v' w' ⟨e, hn⟩ => ⟨by rw [hn]; exact ⟨fun _ _ h => h, rfl, rfl, rfl⟩, fun w2 hx => by subst e; rw [hn] at hx; exact x_step hp hd hr (hs.nrm.extq hq hx) hl h⟩, fun hw' => by rw [hw] at hw'; cases hw'⟩
  | any => exact ⟨fun _ n => (hrun a hr w0 S0 w hs n).mono fun v' w' ⟨e, hn⟩ => by subst e; rw [hn]; exact x_step hp hd hr hs.nrm hl h, fun hw' => by rw [hw] at hw'; cases hw'⟩
theorem x_any {Rv : Value → List HP → Prop} (hg : gdv ops loc tmp o.guard = some true) (hc : cf i = .any)
    (hrun : ∀ a, Rel X.n loc tmp a → ∀ w0 S0 w, St X.q w0 S0 L w → ∀ n, RunN X.P o a.eval (wat w n) fun v w' => ∃ L', Rv v L' ∧ St X.q w0 S0 L' w')
    (hd : dOK X.n o.dst = true) (h : ∀ v L', Rv v L' → ∃ loc' tmp', Pt loc tmp o.dst v loc' tmp' ∧ EO X ops cf k is l loc' tmp' L') : EO X ops cf k (i :: is) (o :: l) loc tmp L := by
  intro hl w0 S0 a w hr hs
  have ho : ops[i]? = some o := by have hl := hl.1; simp only [List.map_cons, List.cons.injEq] at hl; exact hl.1.symm
  refine ⟨o, ho, ?_⟩
  have hw := wanted_of hr hg
  rw [hc]
  refine ⟨fun _ n => (hrun a hr w0 S0 w hs n).mono fun v' w' ⟨L', hR, hs'⟩ => ?_, fun hw' => by rw [hw] at hw'; cases hw'⟩
  obtain ⟨loc', tmp', hp, hE⟩ := h v' L' hR
  exact x_step hp hd hr hs'.nrm hl hE
def Cls.news : Cls → Bool
  | .new | .any => true
  | _ => false
theorem x_new {Rv : Value → List HP → Prop} (hg : gdv ops loc tmp o.guard = some true) (hc : (cf i).news = true)
    (hrun : ∀ a, Rel X.n loc tmp a → ∀ w0 S0 w, St X.q w0 S0 L w → ∀ n, RunN X.P o a.eval (wat w n) fun v w' => Ext w w' ∧ ∃ L', Rv v L' ∧ St X.q w0 S0 L' w')
    (hd : dOK X.n o.dst = true) (h : ∀ v L', Rv v L' → ∃ loc' tmp', Pt loc tmp o.dst v loc' tmp' ∧ EO X ops cf k is l loc' tmp' L') : EO X ops cf k (i :: is) (o :: l) loc tmp L := by
  cases hcf : cf i with
  | pure => rw [hcf] at hc; cases hc
  | read => rw [hcf] at hc; cases hc
  | gar => rw [hcf] at hc; cases hc
  | any => exact x_any hg hcf (fun a hr w0 S0 w hs n => (hrun a hr w0 S0 w hs n).mono fun _ _ h => h.2) hd h
  | new =>
    intro hl w0 S0 a w hr hs
    have ho : ops[i]? = some o := by have hl := hl.1; simp only [List.map_cons, List.cons.injEq] at hl; exact hl.1.symm
    refine ⟨o, ho, ?_⟩
    have hw := wanted_of hr hg
    rw [hcf]
    have hq := calm_q hl.2 hcf (by rfl)
    refine ⟨fun _ n => (hrun a hr w0 S0 w hs n).mono fun v' w' ⟨he, L', hR, hs'⟩ => ⟨⟨he, hs'.os.trans hs.os.symm, hs'.tape.trans hs.tape.symm, hs'.output.trans hs.output.symm⟩, fun w2 hx => ?_⟩, fun hw' => by rw [hw] at hw'; cases hw'⟩
    obtain ⟨loc', tmp', hp, hE⟩ := h v' L' hR
    exact x_step hp hd hr (hs'.nrm.extq hq hx) hl hE
theorem x_gar (hg : gdv ops loc tmp o.guard = some true) (hc : cf i = .gar)
    (hrun : ∀ a, Rel X.n loc tmp a → ∀ w0 S0 w, St X.q w0 S0 L w → ∀ n, RunN X.P o a.eval (wat w n) fun v' w' => v' = v ∧ Gx w (nrm w'))
    (hp : Pt loc tmp o.dst v loc' tmp') (hd : dOK X.n o.dst = true) (h : EO X ops cf k is l loc' tmp' L) : EO X ops cf k (i :: is) (o :: l) loc tmp L := by
  intro hl w0 S0 a w hr hs
  have ho : ops[i]? = some o := by have hl := hl.1; simp only [List.map_cons, List.cons.injEq] at hl; exact hl.1.symm
  refine ⟨o, ho, ?_⟩
  have hw := wanted_of hr hg
  have hq := calm_q hl.2 hc (by rfl)
  rw [hc]
  exact ⟨fun _ => ⟨v, fun w1 hx n => hrun a hr w0 S0 w1 (hs.extq hq hx) n, fun w' hx => x_step hp hd hr (hs.extq hq hx) hl h⟩, fun hw' => by rw [hw] at hw'; cases hw'⟩
theorem x_end (h : E X k loc tmp L) (hkt : X.kt = none := by rfl) : EO X ops cf k [] [] loc tmp L := fun _ w0 S0 a w hr hs => by
  show X.kont ops cf k w0 S0 a (nrm w)
  unfold Fx.kont
  rw [hkt]
  exact h w0 S0 a _ hr hs.nrm
theorem range_map {l : List Oper} : ∀ (m : List Oper) (n : Nat), l = m ++ l.drop m.length → n = m.length → (l.drop n).map some = (List.range' n (l.length - n)).map (l.toArray[·]?) := by
  intro m n _ _
  apply List.ext_getElem?
  intro j
  simp only [List.getElem?_map, List.getElem?_drop, List.getElem?_toArray]
  by_cases h : n + j < l.length
  · rw [List.getElem?_range' (by omega)]
    simp [h]
  · rw [List.getElem?_eq_none (by omega)]
    have : (List.range' n (l.length - n))[j]? = none := List.getElem?_eq_none (by simp; omega)
    simp [this]
theorem e_region {id : Nat} {l : List Oper} (h : EO X l.toArray (fun _ => .any) k (List.range' 0 l.length) l loc [] L) (hkt : X.kt = none := by rfl) : E X (.code (.region id l.toArray false) :: k) loc tmp L := fun w0 S0 a w hr hs =>
  tt_region (fun _ => .any) (by
    rw [List.range_eq_range']
    have h1 := h ⟨by simpa using range_map [] 0 (by simp) rfl, fun _ _ => rfl⟩ w0 S0 a w hr.forget hs
    unfold Fx.kont at h1
    rwa [hkt] at h1)
def pick (l : List Oper) : List Nat → List Oper
  | [] => []
  | i :: is => match l[i]? with
    | some o => o :: pick l is
    | none => pick l is
theorem pick_map {l : List Oper} : ∀ {is : List Nat}, (∀ i ∈ is, i < l.length) → (pick l is).map some = is.map (l.toArray[·]?)
  | [], _ => rfl
  | i :: is, h => by
    have hi := h i (List.mem_cons_self ..)
    have e : l[i]? = some l[i] := List.getElem?_eq_getElem hi
    simp only [pick, e, List.map_cons, List.getElem?_toArray, pick_map (fun j hj => h j (List.mem_cons_of_mem _ hj))]
theorem e_region_draw {id : Nat} {l : List Oper} (cf : Nat → Cls) (M pi : List Nat) (hm : X.P.follows .mixedOrders = true) (hB : okB l.toArray cf M pi = true)
    (h : EO X l.toArray cf k pi (pick l pi) loc [] L) (hqc : X.q = true → ∀ j, (cf j).calm = true) (hkt : X.kt = none := by rfl) : E X (.code (.region id l.toArray true) :: k) loc tmp L := fun w0 S0 a w hr hs =>
  tt_region_draw cf M pi hm hB (by
    have h1 := h ⟨pick_map fun i hi => by have := (okB_spec hB).lt i hi; simpa using this, hqc⟩ w0 S0 a w hr.forget hs
    unfold Fx.kont at h1
    rwa [hkt] at h1)
def qOK (q : Bool) (cs : List Cls) : Bool := !q || cs.all (·.calm)
theorem qOK_spec {q : Bool} {cs : List Cls} (h : qOK q cs = true) : q = true → ∀ j, (cs.getD j .any).calm = true := fun hq j => by
  subst hq
  simp only [qOK, Bool.not_true, Bool.false_or] at h
  rw [List.getD_eq_getElem?_getD]
  cases hj : cs[j]? with
  | none => rfl
  | some c => exact List.all_eq_true.1 h c (List.mem_of_getElem? hj)
theorem e_region_pair {id : Nat} {l : List Oper} (cf : Nat → Cls) (M pre post : List Nat) (x y : Nat) (hm : X.P.follows .mixedOrders = true) (hB : okPB l.toArray cf M pre x y post = true)
    (h : EO { X with kt := some (.pr x y post) } l.toArray cf k pre (pick l pre) loc tmp' L) (hsub : ∀ t v, lk tmp' t = some v → lk tmp t = some v) (hqc : X.q = true → ∀ j, (cf j).calm = true) : E X (.code (.region id l.toArray true) :: k) loc tmp L := fun w0 S0 a w hr hs =>
  tt_region_pair cf M pre post x y hm hB (h ⟨pick_map fun i hi => by have := (okPB_spec hB).ok1.lt i (by simp [hi]); simpa using this, hqc⟩ w0 S0 a w ⟨hr.defers, hr.size, hr.hloc, fun t v hn ht => hr.htmp t v hn (hsub t v ht)⟩ hs)
theorem x_two {x y : Nat} {post : List Nat} {l0 : List Oper} {cf : Nat → Cls} (h1 : EO { X with kt := none } l0.toArray cf k (x :: y :: post) (pick l0 (x :: y :: post)) loc tmp L) (h2 : EO { X with kt := none } l0.toArray cf k (y :: x :: post) (pick l0 (y :: x :: post)) loc tmp L)
    (hkt : X.kt = some (.pr x y post) := by rfl) (hlt : ((x :: y :: post).all fun i => Nat.blt i l0.length) = true := by rfl) : EO X l0.toArray cf k [] [] loc tmp L := fun hl w0 S0 a w hr hs => by
  show X.kont l0.toArray cf k w0 S0 a (nrm w)
  unfold Fx.kont
  rw [hkt]
  have hlt' : ∀ i ∈ x :: y :: post, i < l0.length := fun i hi => by have := List.all_eq_true.1 hlt i hi; simpa [Nat.blt_eq] using this
  exact fun n => ⟨h1 ⟨pick_map hlt', hl.2⟩ w0 S0 a _ hr ((hs.nrm).wat n), h2 ⟨pick_map fun i hi => hlt' i (by simp at hi ⊢; rcases hi with h | h | h <;> simp [h]), hl.2⟩ w0 S0 a _ hr ((hs.nrm).wat n)⟩
def cfl (l : List Cls) (i : Nat) : Cls := l.getD i .any
theorem e_region_plan {id : Nat} {l : List Oper} (cf : Nat → Cls) (M pi seq : List Nat) (p : Pln) (hm : X.P.follows .mixedOrders = true) (hB : (okBX l.toArray cf M pi (fun _ _ => true) && okPl l.toArray cf M pi (.ones seq p)) = true) (hb : p.brk = true) (hlt : (seq.all fun i => Nat.blt i l.length) = true)
    (h : EO { X with kt := some (.pl p) } l.toArray cf k seq (pick l seq) loc tmp' L) (hsub : ∀ t v, lk tmp' t = some v → lk tmp t = some v) (hqc : X.q = true → ∀ j, (cf j).calm = true) : E X (.code (.region id l.toArray true) :: k) loc tmp L := fun w0 S0 a w hr hs =>
  tt_region_plan cf M pi (.ones seq p) hm hB (TP_ones hb _ _ _ (h ⟨pick_map fun i hi => by have := List.all_eq_true.1 hlt i hi; simpa [Nat.blt_eq] using this, hqc⟩ w0 S0 a w ⟨hr.defers, hr.size, hr.hloc, fun t v hn ht => hr.htmp t v hn (hsub t v ht)⟩ hs))
def ktOf : Pln → Option KT
  | .nil => none
  | p => some (.pl p)
theorem kont_of {cf : Nat → Cls} {l0 : List Oper} {p : Pln} (hb : p.brk = true) : ∀ (l : List Nat) (w0 : World) (S0 : Nat → Prop) (a : Act) (w : World), TR X.P l0.toArray cf (Fx.kont { X with kt := ktOf p } l0.toArray cf k w0 S0) l a w → TP X.P l0.toArray cf (TT X.P X.f (X.Post w0 S0) k) (.ones l p) a w := by
  intro l w0 S0 a w h
  refine TP_ones hb l a w (TR_mono (fun a' w' h' => ?_) l a w h)
  cases p with
  | nil => exact h'
  | one i p => cases hb
  | two x p y q => exact h'
theorem x_alt {x y : Nat} {s1 s2 : List Nat} {p1 p2 : Pln} {l0 : List Oper} {cf : Nat → Cls} (h1 : EO { X with kt := ktOf p1 } l0.toArray cf k (x :: s1) (pick l0 (x :: s1)) loc tmp L) (h2 : EO { X with kt := ktOf p2 } l0.toArray cf k (y :: s2) (pick l0 (y :: s2)) loc tmp L)
    (hkt : X.kt = some (.pl (.two x (.ones s1 p1) y (.ones s2 p2))) := by rfl) (hb1 : p1.brk = true := by rfl) (hb2 : p2.brk = true := by rfl) (hl1 : ((x :: s1).all fun i => Nat.blt i l0.length) = true := by rfl) (hl2 : ((y :: s2).all fun i => Nat.blt i l0.length) = true := by rfl) : EO X l0.toArray cf k [] [] loc tmp L := fun hl w0 S0 a w hr hs => by
  show X.kont l0.toArray cf k w0 S0 a (nrm w)
  unfold Fx.kont
  rw [hkt]
  have hlt : ∀ {s : List Nat}, (s.all fun i => Nat.blt i l0.length) = true → ∀ i ∈ s, i < l0.length := fun h i hi => by have := List.all_eq_true.1 h i hi; simpa [Nat.blt_eq] using this
  exact fun n => ⟨kont_of (X := X) hb1 (x :: s1) w0 S0 a _ (h1 ⟨pick_map (hlt hl1), hl.2⟩ w0 S0 a _ hr ((hs.nrm).wat n)), kont_of (X := X) hb2 (y :: s2) w0 S0 a _ (h2 ⟨pick_map (hlt hl2), hl.2⟩ w0 S0 a _ hr ((hs.nrm).wat n))⟩
end
/-! ### what is known of types, asked of the kernel once a type -/
def fldB (P : Program) (T i off : Nat) : Bool := match P.underlying T with
  | some (.struct fs) => match fs[i]? with
    | some f => f.offset == off && (match P.info? f.type with | some j => j.size != 0 | none => false)
    | none => false
  | _ => false
class FldOff (P : Program) (T i : Nat) (off : outParam Nat) : Prop where h : fldB P T i off = true
def aggB (P : Program) (T : Nat) : Bool := match P.underlying T with
  | some (.struct _) | some (.array _ _) => true
  | _ => false
def cellB (P : Program) (T : Nat) : Bool := (match P.underlying T with
  | some (.struct _) | some (.array _ _) | none => false
  | _ => true) && (match P.info? T with | some j => j.size == 1 | none => false)
class OneCell (P : Program) (T : Nat) : Prop where h : cellB P T = true
def aggSzB (P : Program) (T n : Nat) : Bool := aggB P T && (match P.info? T with | some j => j.size == n | none => false)
class AggSz (P : Program) (T : Nat) (n : outParam Nat) : Prop where h : aggSzB P T n = true
def slB (P : Program) (T e sz : Nat) : Bool := match P.underlying T with
  | some (.slice e') => e' == e && (match P.info? e with | some j => j.size == sz | none => false)
  | _ => false
class SlTy (P : Program) (T : Nat) (e sz : outParam Nat) : Prop where h : slB P T e sz = true
theorem FldOff.out {P : Program} {T i off : Nat} [h : FldOff P T i off] : ∃ fs f j, P.underlying T = some (.struct fs) ∧ fs[i]? = some f ∧ f.offset = off ∧ P.info? f.type = some j ∧ j.size ≠ 0 := by
  have h := h.h
  unfold fldB at h
  split at h
  · rename_i fs hu
    split at h
    · rename_i f hf
      simp only [Bool.and_eq_true, beq_iff_eq] at h
      split at h
      · rename_i j hj; exact ⟨fs, f, j, hu, hf, h.1, hj, by simpa using h.2⟩
      · simp at h
    · cases h
  · cases h
theorem OneCell.out {P : Program} {T : Nat} [h : OneCell P T] : ∃ d j, P.underlying T = some d ∧ (match d with | .struct _ | .array _ _ => false | _ => true) = true ∧ P.info? T = some j ∧ j.size = 1 := by
  have h := h.h
  unfold cellB at h
  simp only [Bool.and_eq_true] at h
  obtain ⟨h1, h2⟩ := h
  split at h2
  · rename_i j hj
    cases hu : P.underlying T with
    | none => rw [hu] at h1; cases h1
    | some d => exact ⟨d, j, rfl, by rw [hu] at h1; cases d <;> simp_all, hj, by simpa using h2⟩
  · cases h2
theorem AggSz.out {P : Program} {T n : Nat} [h : AggSz P T n] : ∃ d j, P.underlying T = some d ∧ (match d with | .struct _ | .array _ _ => true | _ => false) = true ∧ P.info? T = some j ∧ j.size = n := by
  have h := h.h
  unfold aggSzB aggB at h
  simp only [Bool.and_eq_true] at h
  obtain ⟨h1, h2⟩ := h
  split at h2
  · rename_i j hj
    cases hu : P.underlying T with
    | none => rw [hu] at h1; cases h1
    | some d => exact ⟨d, j, rfl, by rw [hu] at h1; cases d <;> simp_all, hj, by simpa using h2⟩
  · cases h2
theorem SlTy.out {P : Program} {T e sz : Nat} [h : SlTy P T e sz] : P.underlying T = some (.slice e) ∧ ∃ j, P.info? e = some j ∧ j.size = sz := by
  have h := h.h
  unfold slB at h
  split at h
  · rename_i e' hu
    simp only [Bool.and_eq_true, beq_iff_eq] at h
    obtain ⟨rfl, h2⟩ := h
    split at h2
    · rename_i j hj; exact ⟨hu, j, hj, by simpa using h2⟩
    · cases h2
  · cases h
end Go.Proofs.YtppkiiomedembaaGreatDoor
namespace Go.Proofs.YtppkiiomedembaaGreatDoor
open Go
/-! ### a block of cells, known whole -/
def Cells (g : Nat) (t : TypeId) (cs : List Value) : HP where
  sat h S := (∀ x, S x ↔ x = g) ∧ h g = some (.cells cs.toArray t (0, 0))
  loc hs he := ⟨hs.1, by rw [he g ((hs.1 g).2 rfl)]; exact hs.2⟩
  dom {h S x} hs hx := by have := (hs.1 x).1 hx; subst this; rw [hs.2]; simp
def Cell (L : List HP) (g o : Nat) (v : Value) : Prop := ∀ (h : Mem) S, sats L h S → ∃ c e fr, h g = some (.cells c e fr) ∧ c[o]? = some v
theorem nth_get : ∀ {l : List Value} {i : Nat} {v : Value}, nth l i = some v → l[i]? = some v
  | [], _, _, h => by cases h
  | x :: l, 0, v, h => by simpa [nth] using h
  | x :: l, i + 1, v, h => by simpa using nth_get (l := l) (i := i) h
theorem Cell.here {g o : Nat} {t : TypeId} {cs : List Value} {v : Value} {L : List HP} (h : nth cs o = some v) : Cell (Cells g t cs :: L) g o v := by
  rintro m S ⟨S1, S2, h1, _⟩
  exact ⟨_, _, _, h1.2, by simpa using nth_get h⟩
theorem Cell.there {g o : Nat} {v : Value} {A : HP} {L : List HP} (h : Cell L g o v) : Cell (A :: L) g o v := by
  rintro m S ⟨S1, S2, _, h2, _⟩
  exact h m S2 h2
theorem Cell.at_ {g o : Nat} {v : Value} {L : List HP} (h : Cell L g o v) {q : Bool} {w0 w : World} {S0 : Nat → Prop} (hs : St q w0 S0 L w) : w.cell? ⟨g, o, none⟩ = some v := by
  obtain ⟨S, hS, _⟩ := hs.sat
  obtain ⟨c, e, fr, h1, h2⟩ := h _ S hS
  have : w.heap[g]? = some (.cells c e fr) := h1
  simp [World.cell?, this, h2]
inductive Put : List HP → Nat → Nat → Value → List HP → Prop where
  | here {g o : Nat} {t : TypeId} {cs cs' : List Value} {u : Value} {L : List HP} : SetL cs o u cs' → Put (Cells g t cs :: L) g o u (Cells g t cs' :: L)
  | there {g o : Nat} {u : Value} {A : HP} {L L' : List HP} : Put L g o u L' → Put (A :: L) g o u (A :: L')
theorem setL_set : ∀ (l : List Value) (n : Nat) (u : Value), setL l n u = l.set n u
  | [], _, _ => rfl
  | _ :: _, 0, _ => rfl
  | x :: l, n + 1, u => by simp [setL, setL_set l n u]
theorem nth_some : ∀ {l : List Value} {n : Nat}, (nth l n).isSome = true → n < l.length
  | [], _, h => by cases h
  | _ :: _, 0, _ => by simp
  | _ :: l, n + 1, h => by have := nth_some (l := l) (n := n) h; simp; omega
theorem Put.split {L L' : List HP} {g o : Nat} {u : Value} (h : Put L g o u L') : ∃ t cs F, o < cs.length ∧ L.Perm (Cells g t cs :: F) ∧ (Cells g t (cs.set o u) :: F).Perm L' := by
  induction h with
  | here hs =>
    obtain ⟨h1, rfl⟩ := hs.eq
    exact ⟨_, _, _, nth_some h1, List.Perm.refl _, by rw [setL_set]⟩
  | there _ ih =>
    obtain ⟨t, cs, F, ho, h1, h2⟩ := ih
    exact ⟨t, cs, _ :: F, ho, (h1.cons _).trans (List.Perm.swap _ _ _), (List.Perm.swap _ _ _).trans (h2.cons _)⟩
theorem hp_setCell (w : World) (g o : Nat) (u : Value) (cs : List Value) (t : TypeId) (h : w.heap[g]? = some (.cells cs.toArray t (0, 0))) :
    (w.setCell ⟨g, o, none⟩ u).heap[g]? = some (.cells (cs.set o u).toArray t (0, 0)) := by
  simp [World.setCell, Array.getElem?_modify, h]
theorem hp_setCell_ne (w : World) (a : Addr) (u : Value) (x : Nat) (h : x ≠ a.block) : (w.setCell a u).heap[x]? = w.heap[x]? := by
  simp [World.setCell, Array.getElem?_modify, Ne.symm h]
theorem Put.st {L L' : List HP} {g o : Nat} {u : Value} (h : Put L g o u L') {q : Bool} {w0 w : World} {S0 : Nat → Prop} (hs : St q w0 S0 L w) :
    (∃ x, w.cell? ⟨g, o, none⟩ = some x) ∧ w.frozen? ⟨g, o, none⟩ = false ∧ St false w0 S0 L' (w.setCell ⟨g, o, none⟩ u) := by
  obtain ⟨t, cs, F, ho, h1, h2⟩ := h.split
  have hs1 := hs.perm h1
  have hg : w.heap[g]? = some (.cells cs.toArray t (0, 0)) := by
    obtain ⟨S, ⟨S1, S2, hS1, _⟩, _⟩ := hs1.sat
    exact hS1.2
  refine ⟨⟨cs[o], by simp [World.cell?, hg, ho]⟩, by simp [World.frozen?, hg], ?_⟩
  refine St.perm (L := [Cells g t (cs.set o u)] ++ F) ?_ h2
  refine St.step (M := [Cells g t cs]) hs1 rfl rfl rfl (by simp [World.setCell]) fun S hS => ⟨fun x hx hn => ?_, S, ?_, fun x hx => .inl hx⟩
  · obtain ⟨S1, S2, hS1, hS2, _, hu⟩ := hS
    refine hp_setCell_ne w _ u x fun e => hn ((hu x).2 (.inl ((hS1.1 x).2 e)))
  · obtain ⟨S1, S2, hS1, hS2, hd, hu⟩ := hS
    exact ⟨S1, S2, ⟨hS1.1, hp_setCell w g o u cs t hg⟩, hS2, hd, hu⟩
theorem St.fresh {q : Bool} {w0 w : World} {S0 : Nat → Prop} {L : List HP} (hs : St q w0 S0 L w) (t : TypeId) (cs : List Value) : St false w0 S0 (Cells w.heap.size t cs :: L) (w.alloc (.cells cs.toArray t)) := by
  refine St.step (M := []) (L' := [Cells w.heap.size t cs]) (F := L) hs rfl rfl rfl (by simp) fun S hS => ⟨fun x hx _ => heap_alloc_old w _ x hx, fun x => x = w.heap.size, ?_, fun x hx => .inr (by omega)⟩
  exact ⟨fun x => x = w.heap.size, fun _ => False, ⟨fun _ => Iff.rfl, heap_alloc_new w _⟩, fun _ => id, fun _ _ => id, fun _ => by simp⟩
section ops
variable {X : Fx} {ops : Array Oper} {cf : Nat → Cls} {k : List Item} {i : Nat} {is : List Nat} {l : List Oper} {loc loc' : List Value} {tmp tmp' : List (Nat × Value)} {L L' : List HP}
  {d : Option Tmp} {ty : TypeId} {pos : String} {aft : Array Edge} {gd : Option (Nat × Bool)}
theorem x_move {x : Operand} {v : Value} (hx : sv loc tmp x = some v) (hp : Pt loc tmp d v loc' tmp') (h : EO X ops cf k is l loc' tmp' L)
    (hg : gdv ops loc tmp gd = some true := by rfl) (hd : dOK X.n d = true := by rfl) : EO X ops cf k (i :: is) (⟨d, .move x, ty, pos, aft, gd⟩ :: l) loc tmp L :=
  x_pure hg (fun a hr w => by simp [execOp, hr.ev hx, Sem.run, pure]) hp hd h
theorem x_assign {x : Operand} {v : Value} (hx : sv loc tmp x = some v) (hp : Pt loc tmp d v loc' tmp') (h : EO X ops cf k is l loc' tmp' L)
    (hg : gdv ops loc tmp gd = some true := by rfl) (hd : dOK X.n d = true := by rfl) : EO X ops cf k (i :: is) (⟨d, .assign x, ty, pos, aft, gd⟩ :: l) loc tmp L :=
  x_pure hg (fun a hr w => by simp [execOp, hr.ev hx, Sem.run, pure]) hp hd h
theorem x_pick {c x y : Operand} {b : Bool} {v : Value} (hc : sv loc tmp c = some (.bool b)) (hx : sv loc tmp (bif b then x else y) = some v) (hp : Pt loc tmp d v loc' tmp') (h : EO X ops cf k is l loc' tmp' L)
    (hg : gdv ops loc tmp gd = some true := by rfl) (hd : dOK X.n d = true := by rfl) : EO X ops cf k (i :: is) (⟨d, .pick c x y, ty, pos, aft, gd⟩ :: l) loc tmp L :=
  x_pure hg (fun a hr w => by cases b <;> simp [execOp, hr.ev hc, Sem.run, pure, bind, Sem.bind, asBool] <;> exact hr.ev hx) hp hd h
theorem x_nilCheck {x : Operand} {A : Addr} (hx : sv loc tmp x = some (.pointer (some A))) (hp : Pt loc tmp d (.pointer (some A)) loc' tmp') (h : EO X ops cf k is l loc' tmp' L)
    (hg : gdv ops loc tmp gd = some true := by rfl) (hd : dOK X.n d = true := by rfl) : EO X ops cf k (i :: is) (⟨d, .nilCheck x, ty, pos, aft, gd⟩ :: l) loc tmp L :=
  x_pure hg (fun a hr w => by simp [execOp, hr.ev hx, Sem.run, pure]) hp hd h
theorem x_fieldAddr {T g o j off : Nat} {x : Operand} [FldOff X.P T j off] (hx : sv loc tmp x = some (.pointer (some ⟨g, o, none⟩))) (hp : Pt loc tmp d (.pointer (some ⟨g, o + off, none⟩)) loc' tmp') (h : EO X ops cf k is l loc' tmp' L)
    (hg : gdv ops loc tmp gd = some true := by rfl) (hd : dOK X.n d = true := by rfl) : EO X ops cf k (i :: is) (⟨d, .fieldAddr T x j, ty, pos, aft, gd⟩ :: l) loc tmp L :=
  x_pure hg (fun a hr w => by
    obtain ⟨fs, f, jj, hu, hf, ho, hj, hz⟩ := FldOff.out (P := X.P) (T := T) (i := j) (off := off)
    subst ho
    have : (⟨g, o, none⟩ : Addr).add f.offset = ⟨g, o + f.offset, none⟩ := by unfold Addr.add; split <;> simp_all
    simp [execOp, hr.ev hx, Instr.fieldAt, run_underlying hu, hf, Instr.sureAddr, fieldPlace, sizeOf, typeInfo, hj, hz, this]) hp hd h
/-! ### cells -/
theorem x_load {T g o : Nat} {x : Operand} {v : Value} [OneCell X.P T] (hx : sv loc tmp x = some (.pointer (some ⟨g, o, none⟩))) (hc : Cell L g o v) (hp : Pt loc tmp d v loc' tmp') (h : EO X ops cf k is l loc' tmp' L)
    (hg : gdv ops loc tmp gd = some true := by rfl) (hd : dOK X.n d = true := by rfl) (hcl : (cf i).reads = true := by rfl) : EO X ops cf k (i :: is) (⟨d, .load T x, ty, pos, aft, gd⟩ :: l) loc tmp L :=
  x_read hg hcl (fun a hr w0 S0 w hs n => by
    obtain ⟨dd, j, hu, hdd, hj, hz⟩ := OneCell.out (P := X.P) (T := T)
    have hl := hc.at_ (hs.wat n)
    have hag : (isAgg T).run X.P (wat w n) = .ok false (wat w n) := by
      unfold isAgg
      simp only [Sem.run_bind, run_underlying hu, Result.andThen_ok]
      cases dd <;> simp_all
    simp [RunN, execOp, hr.ev hx, Instr.loadAt, Instr.sureAddr, loadVar, hag, load, Sem.run, hl]
    rfl) hp hd h
theorem x_store {T g o : Nat} {x y : Operand} {u : Value} [OneCell X.P T] (hx : sv loc tmp x = some (.pointer (some ⟨g, o, none⟩))) (hy : sv loc tmp y = some u) (hu : u.oneCell' = true) (hw : Put L g o u L') (h : EO X ops cf k is l loc tmp L')
    (hg : gdv ops loc tmp gd = some true := by rfl) (hcl : cf i = .any := by rfl) (hq : X.q = false := by rfl) : EO X ops cf k (i :: is) (⟨none, .store T x y, ty, pos, aft, gd⟩ :: l) loc tmp L :=
  x_any (Rv := fun _ L'' => L'' = L') hg hcl (fun a hr w0 S0 w hs n => by
    obtain ⟨dd, j, _, hdd, hj, hz⟩ := OneCell.out (P := X.P) (T := T)
    obtain ⟨⟨z, hz'⟩, hf, hs'⟩ := hw.st (hs.wat n)
    have hcs : u.cells = #[u] := by cases u <;> first | rfl | (cases hu; done)
    have h0 : (⟨g, o, none⟩ : Addr).add 0 = ⟨g, o, none⟩ := rfl
    have hst : (store ⟨g, o, none⟩ u).run X.P (wat w n) = .ok () ((wat w n).setCell ⟨g, o, none⟩ u) := by
      cases u <;> first | (cases hu; done) | simp [store, Sem.run, hz', hf]
    simp [RunN, execOp, hr.ev hx, hr.ev hy, Instr.storeAt, Instr.sureAddr, storeVar, sizeOf, typeInfo, hj, hz, hcs, storeCells, h0, hst]
    rw [hq]; exact hs') rfl (fun v L'' e => by subst e; exact ⟨_, _, .none, h⟩)
def CellRow (L : List HP) (g o : Nat) (vs : List Value) : Prop := ∀ j v, vs[j]? = some v → Cell L g (o + j) v
theorem CellRow.here {g : Nat} {t : TypeId} {cs : List Value} {L : List HP} : CellRow (Cells g t cs :: L) g 0 cs := by
  intro j v hj m S ⟨S1, S2, h1, _⟩
  exact ⟨_, _, _, h1.2, by simpa using hj⟩
theorem CellRow.there {g o : Nat} {vs : List Value} {A : HP} {L : List HP} (h : CellRow L g o vs) : CellRow (A :: L) g o vs := fun j v hj => (h j v hj).there
theorem add_at (g o j : Nat) : (⟨g, o, none⟩ : Addr).add j = ⟨g, o + j, none⟩ := by unfold Addr.add; split <;> simp_all
theorem x_loadA {T n g o : Nat} {x : Operand} {vs : List Value} [AggSz X.P T n] (hx : sv loc tmp x = some (.pointer (some ⟨g, o, none⟩))) (hc : CellRow L g o vs) (hn : vs.length = n) (hp : Pt loc tmp d (.agg vs.toArray) loc' tmp') (h : EO X ops cf k is l loc' tmp' L)
    (hg : gdv ops loc tmp gd = some true := by rfl) (hd : dOK X.n d = true := by rfl) (hcl : (cf i).reads = true := by rfl) : EO X ops cf k (i :: is) (⟨d, .load T x, ty, pos, aft, gd⟩ :: l) loc tmp L :=
  x_read hg hcl (fun a hr w0 S0 w hs m => by
    obtain ⟨dd, j, hu, hdd, hj, hz⟩ := AggSz.out (P := X.P) (T := T) (n := n)
    have hag : (isAgg T).run X.P (wat w m) = .ok true (wat w m) := by
      unfold isAgg
      simp only [Sem.run_bind, run_underlying hu, Result.andThen_ok]
      cases dd <;> simp_all
    have hl : (loadCells ⟨g, o, none⟩ vs.length).run X.P (wat w m) = .ok vs.toArray (wat w m) :=
      run_loadCells_list (P := X.P) (wat w m) ⟨g, o, none⟩ vs (fun j v hv => by rw [add_at]; exact (hc j v hv).at_ (hs.wat m))
    rw [hn] at hl
    simp [RunN, execOp, hr.ev hx, Instr.loadAt, Instr.sureAddr, loadVar, hag, sizeOf, typeInfo, hj, hz, hl]
    rfl) hp hd h
theorem x_box {T : Nat} {x : Operand} {v : Value} (hx : sv loc tmp x = some v) (h : ∀ g, ∃ loc' tmp', Pt loc tmp d (.pointer (some ⟨g, 0, none⟩)) loc' tmp' ∧ EO X ops cf k is l loc' tmp' (Cells g T v.cells.toList :: L))
    (hg : gdv ops loc tmp gd = some true := by rfl) (hd : dOK X.n d = true := by rfl) (hcl : (cf i).news = true := by rfl) (hq : X.q = false := by rfl) : EO X ops cf k (i :: is) (⟨d, .box T x, ty, pos, aft, gd⟩ :: l) loc tmp L :=
  x_new (Rv := fun r L'' => ∃ g, r = .pointer (some ⟨g, 0, none⟩) ∧ L'' = Cells g T v.cells.toList :: L) hg hcl (fun a hr w0 S0 w hs n => by
    simp [RunN, execOp, hr.ev hx, Instr.box, newVar, newRow, newObj, Sem.run]
    have h1 := (hs.wat n).fresh T v.cells.toList
    rw [hq]; exact ⟨Ext.alloc _ _, by simpa using h1⟩) hd (fun r L'' ⟨g, e1, e2⟩ => by subst e1 e2; exact h g)
class ZeroOf (P : Program) (T : Nat) (z : outParam (List Value)) : Prop where h : ((P.info? T).bind (·.zero)).map (·.cells.toList) = some z
theorem x_alloc {T : Nat} {z : List Value} [hz : ZeroOf X.P T z] (h : ∀ g, ∃ loc' tmp', Pt loc tmp d (.pointer (some ⟨g, 0, none⟩)) loc' tmp' ∧ EO X ops cf k is l loc' tmp' (Cells g T z :: L))
    (hg : gdv ops loc tmp gd = some true := by rfl) (hd : dOK X.n d = true := by rfl) (hcl : (cf i).news = true := by rfl) (hq : X.q = false := by rfl) : EO X ops cf k (i :: is) (⟨d, .alloc T, ty, pos, aft, gd⟩ :: l) loc tmp L :=
  x_new (Rv := fun r L'' => ∃ g, r = .pointer (some ⟨g, 0, none⟩) ∧ L'' = Cells g T z :: L) hg hcl (fun a hr w0 S0 w hs n => by
    have h0 := hz.h
    obtain ⟨zv, hzv, e⟩ := Option.map_eq_some_iff.1 h0
    obtain ⟨j, hj, hjz⟩ := Option.bind_eq_some_iff.1 hzv
    subst e
    simp [RunN, execOp, Instr.alloc, zeroValue, typeInfo, hj, hjz, newVar, newRow, newObj, Sem.run]
    have h1 := (hs.wat n).fresh T zv.cells.toList
    rw [hq]; exact ⟨Ext.alloc _ _, by simpa using h1⟩) hd (fun r L'' ⟨g, e1, e2⟩ => by subst e1 e2; exact h g)
/-! ### numbers -/
def binI (op : BinOp) (k : IntKind) (p q : Int) : Option Value :=
  match op with
  | .add => some (.int k (k.wrap (p + q)))
  | .sub => some (.int k (k.wrap (p - q)))
  | .mul => some (.int k (k.wrap (p * q)))
  | .quo => if q = 0 then none else some (.int k (k.wrap (p.tdiv q)))
  | .rem => if q = 0 then none else some (.int k (p.tmod q))
  | .and => some (.int k (k.wrap (BitVec.ofInt k.bits p &&& BitVec.ofInt k.bits q).toNat))
  | .or => some (.int k (k.wrap (BitVec.ofInt k.bits p ||| BitVec.ofInt k.bits q).toNat))
  | .xor => some (.int k (k.wrap (BitVec.ofInt k.bits p ^^^ BitVec.ofInt k.bits q).toNat))
  | .andNot => some (.int k (k.wrap (BitVec.ofInt k.bits p &&& ~~~ (BitVec.ofInt k.bits q)).toNat))
  | .eql => some (.bool (p == q))
  | .neq => some (.bool (p != q))
  | .lss => some (.bool (decide (p < q)))
  | .leq => some (.bool (decide (p ≤ q)))
  | .gtr => some (.bool (decide (p > q)))
  | .geq => some (.bool (decide (p ≥ q)))
  | _ => none
theorem x_bin {op : BinOp} {T T' : Nat} {x y : Operand} {K : IntKind} {p q : Int} {v : Value} (hx : sv loc tmp x = some (.int K p)) (hy : sv loc tmp y = some (.int K q)) (hv : binI op K p q = some v) (hp : Pt loc tmp d v loc' tmp') (h : EO X ops cf k is l loc' tmp' L)
    (hg : gdv ops loc tmp gd = some true := by rfl) (hd : dOK X.n d = true := by rfl) : EO X ops cf k (i :: is) (⟨d, .binOp op T x y T', ty, pos, aft, gd⟩ :: l) loc tmp L :=
  x_pure hg (fun a hr w => by
    cases op <;> simp only [binI] at hv <;> first | (cases hv; done) | (split at hv <;> first | (cases hv; done) | (cases hv; simp [execOp, hr.ev hx, hr.ev hy, eqGuard, binOp, Op.intArith, Op.intBits, Op.intCmp, Op.intDiv, *]; done)) | (cases hv; simp [execOp, hr.ev hx, hr.ev hy, eqGuard, binOp, Op.intArith, Op.intBits, Op.intCmp, Op.intDiv, *]; done)) hp hd h
theorem x_shl {T T' : Nat} {x y : Operand} {K K' : IntKind} {p q : Int} (hx : sv loc tmp x = some (.int K p)) (hy : sv loc tmp y = some (.int K' q)) (hq : 0 ≤ q) (hp : Pt loc tmp d (.int K (K.wrap (p * 2 ^ (min q.toNat K.bits)))) loc' tmp') (h : EO X ops cf k is l loc' tmp' L)
    (hg : gdv ops loc tmp gd = some true := by rfl) (hd : dOK X.n d = true := by rfl) : EO X ops cf k (i :: is) (⟨d, .binOp .shl T x y T', ty, pos, aft, gd⟩ :: l) loc tmp L :=
  x_pure hg (fun a hr w => by
    have : ¬ q < 0 := by omega
    simp [execOp, hr.ev hx, hr.ev hy, eqGuard, binOp, Op.shift, this]) hp hd h
theorem x_shr {T T' : Nat} {x y : Operand} {K K' : IntKind} {p q : Int} (hx : sv loc tmp x = some (.int K p)) (hy : sv loc tmp y = some (.int K' q)) (hq : 0 ≤ q) (hp : Pt loc tmp d (.int K (p.fdiv (2 ^ (min q.toNat K.bits)))) loc' tmp') (h : EO X ops cf k is l loc' tmp' L)
    (hg : gdv ops loc tmp gd = some true := by rfl) (hd : dOK X.n d = true := by rfl) : EO X ops cf k (i :: is) (⟨d, .binOp .shr T x y T', ty, pos, aft, gd⟩ :: l) loc tmp L :=
  x_pure hg (fun a hr w => by
    have : ¬ q < 0 := by omega
    simp [execOp, hr.ev hx, hr.ev hy, eqGuard, binOp, Op.shift, this]) hp hd h
theorem x_not {T : Nat} {x : Operand} {b : Bool} (hx : sv loc tmp x = some (.bool b)) (hp : Pt loc tmp d (.bool (!b)) loc' tmp') (h : EO X ops cf k is l loc' tmp' L)
    (hg : gdv ops loc tmp gd = some true := by rfl) (hd : dOK X.n d = true := by rfl) : EO X ops cf k (i :: is) (⟨d, .unOp .not T x, ty, pos, aft, gd⟩ :: l) loc tmp L :=
  x_pure hg (fun a hr w => by simp [execOp, hr.ev hx, Op.unary]) hp hd h
class IntTy (P : Program) (T : Nat) (K : outParam IntKind) : Prop where h : (match P.underlying T with | some (.int K') => decide (K' = K) | _ => false) = true
theorem IntTy.out {P : Program} {T : Nat} {K : IntKind} [h : IntTy P T K] : P.underlying T = some (.int K) := by
  have h := h.h
  split at h
  · rename_i K' hu; rw [hu]; simp at h; rw [h]
  · cases h
theorem x_conv {S T : Nat} {x : Operand} {J K : IntKind} {p r : Int} [IntTy X.P S J] [IntTy X.P T K] (hx : sv loc tmp x = some (.int J p)) (hw : K.wrap p = r) (hp : Pt loc tmp d (.int K r) loc' tmp') (h : EO X ops cf k is l loc' tmp' L)
    (hg : gdv ops loc tmp gd = some true := by rfl) (hd : dOK X.n d = true := by rfl) : EO X ops cf k (i :: is) (⟨d, .convert S T x, ty, pos, aft, gd⟩ :: l) loc tmp L :=
  x_pure hg (fun a hr w => by
    have h1 := IntTy.out (P := X.P) (T := S) (K := J)
    have h2 := IntTy.out (P := X.P) (T := T) (K := K)
    simp [execOp, hr.ev hx, convert, run_underlying h1, run_underlying h2, Conv.intToInt, hw]) hp hd h
end ops
end Go.Proofs.YtppkiiomedembaaGreatDoor
namespace Go.Proofs.YtppkiiomedembaaGreatDoor
open Go
theorem wi64 {n : Int} (h : -9223372036854775808 ≤ n) (h' : n ≤ 9223372036854775807) : IntKind.i64.wrap n = n := by simp only [IntKind.wrap, IntKind.bits, IntKind.signed]; simp; omega
theorem wu64 {n : Int} (h : 0 ≤ n) (h' : n ≤ 18446744073709551615) : IntKind.u64.wrap n = n := by simp only [IntKind.wrap, IntKind.bits, IntKind.signed]; simp; omega
theorem wu32 {n : Int} (h : 0 ≤ n) (h' : n ≤ 4294967295) : IntKind.u32.wrap n = n := by simp only [IntKind.wrap, IntKind.bits, IntKind.signed]; simp; omega
theorem wu16 {n : Int} (h : 0 ≤ n) (h' : n ≤ 65535) : IntKind.u16.wrap n = n := by simp only [IntKind.wrap, IntKind.bits, IntKind.signed]; simp; omega
theorem wu8 {n : Int} (h : 0 ≤ n) (h' : n ≤ 255) : IntKind.u8.wrap n = n := by simp only [IntKind.wrap, IntKind.bits, IntKind.signed]; simp; omega
section
variable {K : IntKind} {p q r : Int}
theorem bAdd (h : K.wrap (p + q) = r) : binI .add K p q = some (.int K r) := by simp [binI, h]
theorem bSub (h : K.wrap (p - q) = r) : binI .sub K p q = some (.int K r) := by simp [binI, h]
theorem bMul (h : K.wrap (p * q) = r) : binI .mul K p q = some (.int K r) := by simp [binI, h]
theorem bQuo (hp : 0 ≤ p) (hq : 0 < q) (h : K.wrap (p / q) = r) : binI .quo K p q = some (.int K r) := by
  have : q ≠ 0 := by omega
  simp [binI, this, Int.tdiv_eq_ediv_of_nonneg hp, h]
theorem bRem (hp : 0 ≤ p) (hq : 0 < q) : binI .rem K p q = some (.int K (p % q)) := by
  have : q ≠ 0 := by omega
  simp [binI, this, Int.tmod_eq_emod_of_nonneg hp]
class NatV (p : Int) (a : outParam Nat) : Prop where h : p = (a : Int)
instance natV_cast (a : Nat) : NatV (a : Int) a := ⟨rfl⟩
instance natV_lit (n : Nat) : NatV (no_index (OfNat.ofNat n : Int)) (OfNat.ofNat n) := ⟨rfl⟩
theorem bAddN {a b : Nat} [hp : NatV p a] [hq : NatV q b] (h : K.wrap ((a + b : Nat) : Int) = ((a + b : Nat) : Int)) : binI .add K p q = some (.int K ((a + b : Nat) : Int)) := by
  rw [hp.h, hq.h]; exact bAdd (by rw [← h]; congr 1)
theorem bSubN {a b : Nat} [hp : NatV p a] [hq : NatV q b] (hle : b ≤ a) (h : K.wrap ((a - b : Nat) : Int) = ((a - b : Nat) : Int)) : binI .sub K p q = some (.int K ((a - b : Nat) : Int)) := by
  rw [hp.h, hq.h]; exact bSub (by rw [← h]; congr 1; omega)
theorem bMulN {a b : Nat} [hp : NatV p a] [hq : NatV q b] (h : K.wrap ((a * b : Nat) : Int) = ((a * b : Nat) : Int)) : binI .mul K p q = some (.int K ((a * b : Nat) : Int)) := by
  rw [hp.h, hq.h]; exact bMul (by rw [← h]; congr 1)
theorem bQuoN {a b : Nat} [hp : NatV p a] [hq : NatV q b] (hb : 0 < b) (h : K.wrap ((a / b : Nat) : Int) = ((a / b : Nat) : Int)) : binI .quo K p q = some (.int K ((a / b : Nat) : Int)) := by
  rw [hp.h, hq.h]; exact bQuo (by omega) (by omega) (by rw [← h]; congr 1)
theorem bRemN {a b : Nat} [hp : NatV p a] [hq : NatV q b] (hb : 0 < b) : binI .rem K p q = some (.int K ((a % b : Nat) : Int)) := by
  rw [hp.h, hq.h]; exact bRem (by omega) (by omega)
theorem bLtT (h : p < q) : binI .lss K p q = some (.bool true) := by simp [binI, h]
theorem bLtF (h : ¬ p < q) : binI .lss K p q = some (.bool false) := by simp [binI, h]
theorem bLeT (h : p ≤ q) : binI .leq K p q = some (.bool true) := by simp [binI, h]
theorem bLeF (h : ¬ p ≤ q) : binI .leq K p q = some (.bool false) := by simp [binI, h]
theorem bGtT (h : p > q) : binI .gtr K p q = some (.bool true) := by simp [binI]; omega
theorem bGtF (h : ¬ p > q) : binI .gtr K p q = some (.bool false) := by simp [binI]; omega
theorem bGeT (h : p ≥ q) : binI .geq K p q = some (.bool true) := by simp [binI]; omega
theorem bGeF (h : ¬ p ≥ q) : binI .geq K p q = some (.bool false) := by simp [binI]; omega
theorem bEqT (h : p = q) : binI .eql K p q = some (.bool true) := by simp [binI, h]
theorem bEqF (h : p ≠ q) : binI .eql K p q = some (.bool false) := by simp [binI, h]
theorem bNeT (h : p ≠ q) : binI .neq K p q = some (.bool true) := by simp [binI, h]
theorem bNeF (h : p = q) : binI .neq K p q = some (.bool false) := by simp [binI, h]
end
class Body (P : Program) (f : Nat) : Prop where h : (match P.funcs[f]? with | some fn => fn.body.isSome && !(fn.name == "runtime.NumGoroutine") | none => false) = true
theorem run_callBody {P : Program} {f : Nat} [h : Body P f] (args : Array Value) (w : World) : (callFunc f args).run P w = .ok (.enter f args) w := by
  have h := h.h
  split at h
  · rename_i fn hf
    simp only [Bool.and_eq_true, Bool.not_eq_true'] at h
    have hb : fn.body.isNone = false := by cases hb : fn.body <;> simp_all
    simp only [callFunc, Sem.run_bind, run_program, Result.andThen_ok, hf, h.2, hb, Bool.false_eq_true, if_false]
    rfl
  · cases h
def svs (loc : List Value) (tmp : List (Nat × Value)) : List Operand → Option (List Value)
  | [] => some []
  | x :: l => match sv loc tmp x with
    | some v => match svs loc tmp l with
      | some vs => some (v :: vs)
      | none => none
    | none => none
theorem Rel.evs {n : Nat} {loc : List Value} {tmp : List (Nat × Value)} {a : Act} (h : Rel n loc tmp a) : ∀ {xs : List Operand} {vs : List Value}, svs loc tmp xs = some vs → xs.map a.eval = vs
  | [], vs, e => by cases e; rfl
  | x :: l, vs, e => by
    simp only [svs] at e
    cases hx : sv loc tmp x with
    | none => rw [hx] at e; cases e
    | some v =>
      cases hl : svs loc tmp l with
      | none => rw [hx, hl] at e; cases e
      | some us => rw [hx, hl] at e; cases e; simp [h.ev hx, h.evs hl]
section ops
variable {X : Fx} {ops : Array Oper} {cf : Nat → Cls} {k : List Item} {i : Nat} {is : List Nat} {l : List Oper} {loc loc' : List Value} {tmp tmp' : List (Nat × Value)} {L L' : List HP}
  {d : Option Tmp} {ty : TypeId} {pos : String} {aft : Array Edge} {gd : Option (Nat × Bool)}
theorem x_call {q : Bool} {c : Operand} {xs : List Operand} {tys : Array TypeId} {f : Nat} {first caps as : List Value} {La F : List HP} {Rv : Value → List HP → Prop} [Body X.P f]
    (hc : sv loc tmp c = some (.func (.func f) first.toArray caps.toArray)) (ha : svs loc tmp xs = some as) (hf : FnG q X.P f (first ++ as ++ caps).toArray La Rv) (hs : Subs La L F)
    (h : ∀ v L', Rv v L' → ∃ loc' tmp', Pt loc tmp d v loc' tmp' ∧ EO X ops cf k is l loc' tmp' (L' ++ F))
    (hg : gdv ops loc tmp gd = some true := by rfl) (hd : dOK X.n d = true := by rfl) (hcl : cf i = .any := by rfl) (hq : X.q = false := by rfl) :
    EO X ops cf k (i :: is) (⟨d, .call ⟨.value c, xs.toArray, tys⟩, ty, pos, aft, gd⟩ :: l) loc tmp L :=
  x_any (Rv := fun v L'' => ∃ L', Rv v L' ∧ L'' = L' ++ F) hg hcl (fun a hr w0 S0 w hst n => by
    have hst' := (hst.wat n).perm hs.perm
    obtain ⟨S1, h1, hback⟩ := hst'.frame
    have hcall := hf (wat w n) S1 h1 (wat w n).drawn
    rw [wat_self] at hcall
    have e : (first ++ as ++ caps).toArray = first.toArray ++ (xs.toArray.map a.eval) ++ caps.toArray := by simp [hr.evs ha]
    have hrun : (execOp a.eval ⟨d, .call ⟨.value c, xs.toArray, tys⟩, ty, pos, aft, gd⟩).run X.P (wat w n) = .ok (.enter f (first ++ as ++ caps).toArray) (wat w n) := by
      simp only [execOp, resolve, hr.ev hc, Deferred.ofValue, Sem.run_bind, Sem.run_pure, Result.andThen_ok, invoke, run_callBody, e]
    unfold RunN
    rw [hrun]
    refine hcall.mono fun ee w' ⟨v, he, L', hR, hs'⟩ => ⟨v, he, L' ++ F, ⟨L', hR, rfl⟩, ?_⟩
    rw [hq]
    exact (hback q L' _ hs').of_nrm) hd (fun v L'' ⟨L', hR, e⟩ => by subst e; exact h v L' hR)
theorem x_callN {q : Bool} {c : Operand} {xs : List Operand} {tys : Array TypeId} {f : Nat} {first caps as : List Value} {Rv : Value → List HP → Prop} [Body X.P f]
    (hc : sv loc tmp c = some (.func (.func f) first.toArray caps.toArray)) (ha : svs loc tmp xs = some as) (hf : FnG q X.P f (first ++ as ++ caps).toArray [] Rv)
    (h : ∀ v L', Rv v L' → ∃ loc' tmp', Pt loc tmp d v loc' tmp' ∧ EO X ops cf k is l loc' tmp' (L' ++ L))
    (hg : gdv ops loc tmp gd = some true := by rfl) (hd : dOK X.n d = true := by rfl) (hcl : (cf i).news = true := by rfl) (hq : X.q = false := by rfl) :
    EO X ops cf k (i :: is) (⟨d, .call ⟨.value c, xs.toArray, tys⟩, ty, pos, aft, gd⟩ :: l) loc tmp L :=
  x_new (Rv := fun v L'' => ∃ L', Rv v L' ∧ L'' = L' ++ L) hg hcl (fun a hr w0 S0 w hst n => by
    have hst' : St X.q w0 S0 ([] ++ L) (wat w n) := hst.wat n
    obtain ⟨S1, h1, hback⟩ := hst'.frame
    have hcall := hf (wat w n) S1 h1 (wat w n).drawn
    rw [wat_self] at hcall
    have e : (first ++ as ++ caps).toArray = first.toArray ++ (xs.toArray.map a.eval) ++ caps.toArray := by simp [hr.evs ha]
    have hrun : (execOp a.eval ⟨d, .call ⟨.value c, xs.toArray, tys⟩, ty, pos, aft, gd⟩).run X.P (wat w n) = .ok (.enter f (first ++ as ++ caps).toArray) (wat w n) := by
      simp only [execOp, resolve, hr.ev hc, Deferred.ofValue, Sem.run_bind, Sem.run_pure, Result.andThen_ok, invoke, run_callBody, e]
    unfold RunN
    rw [hrun]
    refine hcall.mono fun ee w' ⟨v, he, L', hR, hs'⟩ => ⟨v, he, ?_, L' ++ L, ⟨L', hR, rfl⟩, ?_⟩
    · intro g o hg
      have hlt : g < (wat w n).heap.size := (Array.getElem?_eq_some_iff.1 hg).1
      exact (hs'.old g hlt (h1 g)).trans hg
    rw [hq]
    exact (hback q L' _ hs').of_nrm) hd (fun v L'' ⟨L', hR, e⟩ => by subst e; exact h v L' hR)
theorem x_callq {c : Operand} {xs : List Operand} {tys : Array TypeId} {f : Nat} {first caps as : List Value} {La F : List HP} {v : Value} [Body X.P f]
    (hc : sv loc tmp c = some (.func (.func f) first.toArray caps.toArray)) (ha : svs loc tmp xs = some as) (hf : Qn X.P f (first ++ as ++ caps).toArray La v) (hs : Subs La L F)
    (hp : Pt loc tmp d v loc' tmp') (h : EO X ops cf k is l loc' tmp' L)
    (hg : gdv ops loc tmp gd = some true := by rfl) (hd : dOK X.n d = true := by rfl) (hcl : (cf i).reads = true := by rfl) :
    EO X ops cf k (i :: is) (⟨d, .call ⟨.value c, xs.toArray, tys⟩, ty, pos, aft, gd⟩ :: l) loc tmp L :=
  x_read hg hcl (fun a hr w0 S0 w hst n => by
    have hst' := (hst.wat n).perm hs.perm
    obtain ⟨S1, h1, _⟩ := hst'.frame
    have hcall := hf (wat w n) S1 h1 (wat w n).drawn
    rw [wat_self] at hcall
    have e : (first ++ as ++ caps).toArray = first.toArray ++ (xs.toArray.map a.eval) ++ caps.toArray := by simp [hr.evs ha]
    have hrun : (execOp a.eval ⟨d, .call ⟨.value c, xs.toArray, tys⟩, ty, pos, aft, gd⟩).run X.P (wat w n) = .ok (.enter f (first ++ as ++ caps).toArray) (wat w n) := by
      simp only [execOp, resolve, hr.ev hc, Deferred.ofValue, Sem.run_bind, Sem.run_pure, Result.andThen_ok, invoke, run_callBody, e]
    unfold RunN
    rw [hrun]
    exact hcall.mono fun ee w' ⟨u, he, L', hR, hs'⟩ => ⟨u, he, hR, (hs'.same rfl).trans (nrm_wat w n)⟩) hp hd h
/-! ### lengths, slices, comparisons with nil -/
theorem x_len {t : TypeId} {e sz : Nat} {x : Operand} {A : Option Addr} {n c : Nat} [SlTy X.P t e sz] (hx : sv loc tmp x = some (.slice A n c)) (hp : Pt loc tmp d (.int .i64 n) loc' tmp') (h : EO X ops cf k is l loc' tmp' L)
    (hg : gdv ops loc tmp gd = some true := by rfl) (hd : dOK X.n d = true := by rfl) : EO X ops cf k (i :: is) (⟨d, .call ⟨.builtin .len, #[x], #[t]⟩, ty, pos, aft, gd⟩ :: l) loc tmp L :=
  x_pure hg (fun a hr w => by
    obtain ⟨hu, _⟩ := SlTy.out (P := X.P) (T := t) (e := e) (sz := sz)
    simp [execOp, resolve, invoke, builtin, Builtin.len_, run_underlying hu, hr.ev hx, goInt]) hp hd h
class StrTy (P : Program) (T : Nat) : Prop where h : P.underlying T = some .string
theorem x_lenS {t : TypeId} {x : Operand} {s : ByteArray} [hu : StrTy X.P t] (hx : sv loc tmp x = some (.string s)) (hp : Pt loc tmp d (.int .i64 s.size) loc' tmp') (h : EO X ops cf k is l loc' tmp' L)
    (hg : gdv ops loc tmp gd = some true := by rfl) (hd : dOK X.n d = true := by rfl) : EO X ops cf k (i :: is) (⟨d, .call ⟨.builtin .len, #[x], #[t]⟩, ty, pos, aft, gd⟩ :: l) loc tmp L :=
  x_pure hg (fun a hr w => by
    have hu := hu.h
    simp [execOp, resolve, invoke, builtin, Builtin.len_, run_underlying hu, hr.ev hx, goInt]) hp hd h
class KTy (P : Program) (T : Nat) (kd : outParam Nat) : Prop where h : (match P.underlying T with | some (.pointer _) => kd == 0 | some (.slice _) => kd == 1 | some (.interface _) => kd == 2 | some (.map _ _) => kd == 3 | some (.func _ _ _) => kd == 4 | _ => false) = true
theorem KTy.ptr {P : Program} {T : Nat} [h : KTy P T 0] : ∃ e, P.underlying T = some (.pointer e) := by
  have h := h.h
  split at h <;> simp_all
theorem KTy.sl {P : Program} {T : Nat} [h : KTy P T 1] : ∃ e, P.underlying T = some (.slice e) := by
  have h := h.h
  split at h <;> simp_all
theorem KTy.ifc {P : Program} {T : Nat} [h : KTy P T 2] : ∃ e, P.underlying T = some (.interface e) := by
  have h := h.h
  split at h <;> simp_all
theorem KTy.mp {P : Program} {T : Nat} [h : KTy P T 3] : ∃ e e', P.underlying T = some (.map e e') := by
  have h := h.h
  split at h <;> simp_all
section equal
variable {P : Program} {t : Nat} (w : World)
theorem eqlP {e : Nat} (hu : P.underlying t = some (.pointer e)) (p : Option Addr) : (Op.equal t (.pointer p) (.pointer none)).run P w = .ok p.isNone w := by
  have key : ∀ d, (Op.equalIn (d + 1) t (.pointer p) (.pointer none)).run P w = .ok p.isNone w := fun d => by cases p <;> simp [Op.equalIn, run_underlying hu]
  exact key 9999
theorem eqlS {e n c n' c' : Nat} (hu : P.underlying t = some (.slice e)) (p : Option Addr) : (Op.equal t (.slice p n c) (.slice none n' c')).run P w = .ok p.isNone w := by
  have key : ∀ d, (Op.equalIn (d + 1) t (.slice p n c) (.slice none n' c')).run P w = .ok p.isNone w := fun d => by cases p <;> simp [Op.equalIn, run_underlying hu]
  exact key 9999
theorem eqlM {e e' : Nat} (hu : P.underlying t = some (.map e e')) (p : Option Nat) : (Op.equal t (.map p) (.map none)).run P w = .ok p.isNone w := by
  have key : ∀ d, (Op.equalIn (d + 1) t (.map p) (.map none)).run P w = .ok p.isNone w := fun d => by cases p <;> simp [Op.equalIn, run_underlying hu]
  exact key 9999
theorem eqlI {e : Array (String × TypeId)} (hu : P.underlying t = some (.interface e)) : (Op.equal t .nilIface .nilIface).run P w = .ok true w := by
  have key : ∀ d, (Op.equalIn (d + 1) t .nilIface .nilIface).run P w = .ok true w := fun d => by simp [Op.equalIn, run_underlying hu]
  exact key 9999
theorem eqlI' {e : Array (String × TypeId)} (hu : P.underlying t = some (.interface e)) (s : Nat) (v : Value) : (Op.equal t (.iface s v) .nilIface).run P w = .ok false w := by
  have key : ∀ d, (Op.equalIn (d + 1) t (.iface s v) .nilIface).run P w = .ok false w := fun d => by simp [Op.equalIn, run_underlying hu]
  exact key 9999
end equal
section eqs
variable {T T' : Nat} {x y : Operand} {v : Bool}
theorem x_eqP {p : Option Addr} [KTy X.P T 0] (hx : sv loc tmp x = some (.pointer p)) (hy : sv loc tmp y = some (.pointer none)) (hp : Pt loc tmp d (.bool p.isNone) loc' tmp') (h : EO X ops cf k is l loc' tmp' L)
    (hg : gdv ops loc tmp gd = some true := by rfl) (hd : dOK X.n d = true := by rfl) : EO X ops cf k (i :: is) (⟨d, .binOp .eql T x y T', ty, pos, aft, gd⟩ :: l) loc tmp L :=
  x_pure hg (fun a hr w => by
    obtain ⟨e, hu⟩ := KTy.ptr (P := X.P) (T := T)
    simp [execOp, hr.ev hx, hr.ev hy, eqGuard, binOp, eqlP w hu]) hp hd h
theorem x_neP {p : Option Addr} [KTy X.P T 0] (hx : sv loc tmp x = some (.pointer p)) (hy : sv loc tmp y = some (.pointer none)) (hp : Pt loc tmp d (.bool (!p.isNone)) loc' tmp') (h : EO X ops cf k is l loc' tmp' L)
    (hg : gdv ops loc tmp gd = some true := by rfl) (hd : dOK X.n d = true := by rfl) : EO X ops cf k (i :: is) (⟨d, .binOp .neq T x y T', ty, pos, aft, gd⟩ :: l) loc tmp L :=
  x_pure hg (fun a hr w => by
    obtain ⟨e, hu⟩ := KTy.ptr (P := X.P) (T := T)
    simp [execOp, hr.ev hx, hr.ev hy, eqGuard, binOp, eqlP w hu]) hp hd h
theorem x_eqS {p : Option Addr} {n c n' c' : Nat} [KTy X.P T 1] (hx : sv loc tmp x = some (.slice p n c)) (hy : sv loc tmp y = some (.slice none n' c')) (hp : Pt loc tmp d (.bool p.isNone) loc' tmp') (h : EO X ops cf k is l loc' tmp' L)
    (hg : gdv ops loc tmp gd = some true := by rfl) (hd : dOK X.n d = true := by rfl) : EO X ops cf k (i :: is) (⟨d, .binOp .eql T x y T', ty, pos, aft, gd⟩ :: l) loc tmp L :=
  x_pure hg (fun a hr w => by
    obtain ⟨e, hu⟩ := KTy.sl (P := X.P) (T := T)
    simp [execOp, hr.ev hx, hr.ev hy, eqGuard, binOp, eqlS w hu]) hp hd h
theorem x_eqM {p : Option Nat} [KTy X.P T 3] (hx : sv loc tmp x = some (.map p)) (hy : sv loc tmp y = some (.map none)) (hp : Pt loc tmp d (.bool p.isNone) loc' tmp') (h : EO X ops cf k is l loc' tmp' L)
    (hg : gdv ops loc tmp gd = some true := by rfl) (hd : dOK X.n d = true := by rfl) : EO X ops cf k (i :: is) (⟨d, .binOp .eql T x y T', ty, pos, aft, gd⟩ :: l) loc tmp L :=
  x_pure hg (fun a hr w => by
    obtain ⟨e, e', hu⟩ := KTy.mp (P := X.P) (T := T)
    simp [execOp, hr.ev hx, hr.ev hy, eqGuard, binOp, eqlM w hu]) hp hd h
def ifNil : Value → Option Bool
  | .nilIface => some true
  | .iface _ _ => some false
  | _ => none
theorem x_eqI {u : Value} [KTy X.P T 2] (hx : sv loc tmp x = some u) (hu0 : ifNil u = some v) (hp : Pt loc tmp d (.bool v) loc' tmp') (h : EO X ops cf k is l loc' tmp' L)
    (hg : gdv ops loc tmp gd = some true := by rfl) (hd : dOK X.n d = true := by rfl) : EO X ops cf k (i :: is) (⟨d, .binOp .eql T x (.const .nilIface) T', ty, pos, aft, gd⟩ :: l) loc tmp L :=
  x_pure hg (fun a hr w => by
    obtain ⟨e, hu⟩ := KTy.ifc (P := X.P) (T := T)
    have hce : a.eval (.const .nilIface) = .nilIface := rfl
    cases u <;> simp only [ifNil] at hu0 <;> first | (cases hu0; done) | (cases hu0; simp [execOp, hr.ev hx, hce, eqGuard, binOp, eqlI w hu, eqlI' w hu])) hp hd h
theorem x_neI {u : Value} [KTy X.P T 2] (hx : sv loc tmp x = some u) (hu0 : ifNil u = some v) (hp : Pt loc tmp d (.bool (!v)) loc' tmp') (h : EO X ops cf k is l loc' tmp' L)
    (hg : gdv ops loc tmp gd = some true := by rfl) (hd : dOK X.n d = true := by rfl) : EO X ops cf k (i :: is) (⟨d, .binOp .neq T x (.const .nilIface) T', ty, pos, aft, gd⟩ :: l) loc tmp L :=
  x_pure hg (fun a hr w => by
    obtain ⟨e, hu⟩ := KTy.ifc (P := X.P) (T := T)
    have hce : a.eval (.const .nilIface) = .nilIface := rfl
    cases u <;> simp only [ifNil] at hu0 <;> first | (cases hu0; done) | (cases hu0; simp [execOp, hr.ev hx, hce, eqGuard, binOp, eqlI w hu, eqlI' w hu])) hp hd h
theorem x_str {op : BinOp} {s t : ByteArray} (hx : sv loc tmp x = some (.string s)) (hy : sv loc tmp y = some (.string t))
    (hv : (match op with | .eql => some (s.toList == t.toList) | .neq => some (!(s.toList == t.toList)) | .lss => some (Op.bytesLess s.toList t.toList) | _ => none) = some v)
    (hp : Pt loc tmp d (.bool v) loc' tmp') (h : EO X ops cf k is l loc' tmp' L)
    (hg : gdv ops loc tmp gd = some true := by rfl) (hd : dOK X.n d = true := by rfl) : EO X ops cf k (i :: is) (⟨d, .binOp op T x y T', ty, pos, aft, gd⟩ :: l) loc tmp L :=
  x_pure hg (fun a hr w => by
    cases op <;> simp only [] at hv <;> first | (cases hv; done) | (cases hv; simp [execOp, hr.ev hx, hr.ev hy, eqGuard, binOp, Op.stringOp]; done)) hp hd h
theorem x_cat {s t : ByteArray} (hx : sv loc tmp x = some (.string s)) (hy : sv loc tmp y = some (.string t)) (hn : s.size + t.size ≤ 9223372036854775807)
    (hp : Pt loc tmp d (.string (s ++ t)) loc' tmp') (h : EO X ops cf k is l loc' tmp' L)
    (hg : gdv ops loc tmp gd = some true := by rfl) (hd : dOK X.n d = true := by rfl) : EO X ops cf k (i :: is) (⟨d, .binOp .add T x y T', ty, pos, aft, gd⟩ :: l) loc tmp L :=
  x_pure hg (fun a hr w => by
    have : ¬ (((s.size + t.size : Nat) : Int) > IntKind.i64.max) := by simp [IntKind.max, IntKind.bits, IntKind.signed]; omega
    simp only [execOp, hr.ev hx, hr.ev hy, eqGuard, binOp, Op.stringOp, this, if_false, Sem.run_bind, Sem.run_pure, Result.andThen_ok]
    rfl) hp hd h
theorem x_func {fn : Go.Fn} {xs ys : List Operand} {us vs : List Value} (hx : svs loc tmp xs = some us) (hy : svs loc tmp ys = some vs) (hp : Pt loc tmp d (.func fn us.toArray vs.toArray) loc' tmp') (h : EO X ops cf k is l loc' tmp' L)
    (hg : gdv ops loc tmp gd = some true := by rfl) (hd : dOK X.n d = true := by rfl) : EO X ops cf k (i :: is) (⟨d, .makeFunc fn xs.toArray ys.toArray, ty, pos, aft, gd⟩ :: l) loc tmp L :=
  x_pure hg (fun a hr w => by simp [execOp, Instr.makeFunc, hr.evs hx, hr.evs hy]) hp hd h
theorem x_extract {j : Nat} {vs : List Value} {u : Value} (hx : sv loc tmp x = some (.tuple vs.toArray)) (hu : nth vs j = some u) (hp : Pt loc tmp d u loc' tmp') (h : EO X ops cf k is l loc' tmp' L)
    (hg : gdv ops loc tmp gd = some true := by rfl) (hd : dOK X.n d = true := by rfl) : EO X ops cf k (i :: is) (⟨d, .extract x j, ty, pos, aft, gd⟩ :: l) loc tmp L :=
  x_pure hg (fun a hr w => by simp [execOp, hr.ev hx, Instr.extract, nth_get hu]) hp hd h
end eqs
/-! ### leaving -/
end ops
section leave
variable {X : Fx} {k : List Item} {loc : List Value} {tmp : List (Nat × Value)} {L : List HP}
theorem tmps_getD {n : Nat} {loc : List Value} {tmp : List (Nat × Value)} {a : Act} (hr : Rel n loc tmp a) {t : Nat} {v : Value} (h : sv loc tmp (.tmp t) = some v) : a.tmps.getD t undef = v := by
  have := hr.at_ h
  simp [this]
def packV : List Value → Value
  | [v] => v
  | vs => .tuple vs.toArray
theorem results_of {fn : Func} {ts : List Nat} (hts : fn.results = (ts.map ResultVar.tmp).toArray) {n : Nat} {a : Act} (hr : Rel n loc tmp a) {vs : List Value} (hv : svs loc tmp (ts.map Operand.tmp) = some vs) (P : Program) (w : World) :
    (results fn a.tmps).run P w = .ok (packV vs) w := by
  have key : ∀ (ts : List Nat) (vs : List Value), svs loc tmp (ts.map Operand.tmp) = some vs → ((ts.map ResultVar.tmp).mapM (m := Sem) fun | .tmp t => pure (a.tmps.getD t undef) | .cell p t => do loadVar t (← asAddr (a.tmps.getD p undef))).run P w = .ok vs w := by
    intro ts
    induction ts with
    | nil => intro vs hv; cases hv; simp
    | cons t ts ih =>
      intro vs hv
      simp only [List.map_cons, svs] at hv
      cases hx : sv loc tmp (.tmp t) with
      | none => rw [hx] at hv; cases hv
      | some u =>
        cases hl : svs loc tmp (ts.map Operand.tmp) with
        | none => rw [hx, hl] at hv; cases hv
        | some us =>
          rw [hx, hl] at hv
          cases hv
          simp only [List.map_cons, List.mapM_cons, Sem.run_bind, Sem.run_pure, Result.andThen_ok, tmps_getD hr hx, ih us hl]
  unfold results
  rw [hts]
  have h1 := key ts vs hv
  rw [Sem.run_bind, List.mapM_toArray]
  simp only [Functor.map]
  generalize hm : List.mapM (m := Sem) _ (ts.map ResultVar.tmp) = m at h1 ⊢
  have h2 : (m.bind (Sem.pure ∘ List.toArray)).run P w = .ok vs.toArray w := by
    show (m >>= fun x => Pure.pure x.toArray).run P w = _
    rw [Sem.run_bind, h1]; rfl
  rw [h2]
  match vs with
  | [] => rfl
  | [v] => rfl
  | v :: u :: us => simp [packV]
theorem e_ret {ts : List Nat} {vs : List Value} (hts : X.fn.results = (ts.map ResultVar.tmp).toArray) (hv : svs loc tmp (ts.map Operand.tmp) = some vs) (h : X.R (packV vs) L) : E X (.code .ret :: k) loc tmp L := fun w0 S0 a w hr hs =>
  tt_leave X.hf hr.defers (fun n => results_of hts hr hv X.P (wat w n)) ⟨L, h, hs.nrm⟩
theorem e_end {ts : List Nat} {vs : List Value} (hts : X.fn.results = (ts.map ResultVar.tmp).toArray) (hv : svs loc tmp (ts.map Operand.tmp) = some vs) (h : X.R (packV vs) L) : E X [] loc tmp L := fun w0 S0 a w hr hs =>
  tt_end X.hf hr.defers (fun n => results_of hts hr hv X.P (wat w n)) ⟨L, h, hs.nrm⟩
end leave
end Go.Proofs.YtppkiiomedembaaGreatDoor
namespace Go.Proofs.YtppkiiomedembaaGreatDoor
open Go
class SlE (P : Program) (T : Nat) (e sz b : outParam Nat) (z : outParam (List Value)) : Prop where
  hu : P.underlying T = some (.slice e)
  hz : ((P.info? e).map fun i => (i.size, i.bytes, i.zero.map (·.cells.toList))) = some (sz, b, some z)
theorem SlE.out {P : Program} {T e sz b : Nat} {z : List Value} [h : SlE P T e sz b z] : P.underlying T = some (.slice e) ∧ ∃ i zv, P.info? e = some i ∧ i.size = sz ∧ i.bytes = b ∧ i.zero = some zv ∧ zv.cells.toList = z := by
  refine ⟨h.hu, ?_⟩
  obtain ⟨i, hi, e⟩ := Option.map_eq_some_iff.1 h.hz
  simp only [Prod.mk.injEq] at e
  obtain ⟨zv, hzv, e3⟩ := Option.map_eq_some_iff.1 e.2.2
  exact ⟨i, zv, hi, e.1, e.2.1, hzv, e3⟩
def Own (A : Option Addr) (c e sz n : Nat) (vs : List Value) : HP where
  sat h S := vs.length = n * sz ∧ n ≤ c ∧ c ≤ maxLen ∧ ((A = none ∧ c = 0 ∧ ∀ x, ¬ S x) ∨
    ∃ g junk, A = some ⟨g, 0, none⟩ ∧ (∀ x, S x ↔ x = g) ∧ h g = some (.cells (vs ++ junk).toArray e (0, 0)) ∧ (vs ++ junk).length = c * sz)
  loc hs he := by
    obtain ⟨h1, h2, h3, h4⟩ := hs
    refine ⟨h1, h2, h3, h4.imp id ?_⟩
    rintro ⟨g, junk, hA, hS, hg, hl⟩
    exact ⟨g, junk, hA, hS, by rw [he g ((hS g).2 rfl)]; exact hg, hl⟩
  dom {h S x} hs hx := by
    obtain ⟨h1, h2, h3, h4 | ⟨g, junk, hA, hS, hg, hl⟩⟩ := hs
    · exact absurd hx (h4.2.2 x)
    · have := (hS x).1 hx; subst this; rw [hg]; simp
def Rd (L : List HP) (B : Option Addr) (m sz : Nat) (news : List Value) : Prop := news.length = m * sz ∧ (m = 0 ∨ ∃ g o, B = some ⟨g, o, none⟩ ∧ CellRow L g o news)
section own
variable {A : Option Addr} {c e sz n : Nat} {vs : List Value} {h : Mem} {S : Nat → Prop}
theorem Own.row {w : World} (hs : (Own A c e sz n vs).sat (hp w) S) : w.ownsRow 0 e sz (.slice A n c) n vs ∧ ∀ x, S x ↔ (Value.slice A n c).ownBlock = some x := by
  obtain ⟨h1, h2, h3, ⟨rfl, rfl, hS⟩ | ⟨g, junk, rfl, hS, hg, hl⟩⟩ := hs
  · obtain rfl : n = 0 := by omega
    exact ⟨⟨h1, .inl ⟨rfl, rfl⟩⟩, fun x => by simp [Value.ownBlock, hS x]⟩
  · refine ⟨⟨h1, .inr ⟨g, c, _, rfl, Nat.zero_le _, hg, h2, h3, by simpa using hl, by simp [← h1]⟩⟩, fun x => by rw [hS x]; simp [Value.ownBlock]; exact eq_comm⟩
theorem Own.of_row {w : World} {v : Value} (hr : w.ownsRow 0 e sz v n vs) : ∃ A c, v = .slice A n c ∧ (Own A c e sz n vs).sat (hp w) (fun x => v.ownBlock = some x) := by
  obtain ⟨h1, ⟨rfl, rfl⟩ | ⟨g, cap, cur, rfl, _, hg, h2, h3, h4, h5⟩⟩ := hr
  · exact ⟨none, 0, rfl, h1, Nat.le_refl _, Nat.zero_le _, .inl ⟨rfl, rfl, fun x => by simp [Value.ownBlock]⟩⟩
  · refine ⟨_, cap, rfl, h1, h2, h3, .inr ⟨g, cur.toList.drop (n * sz), rfl, fun x => by simp [Value.ownBlock]; exact eq_comm, ?_, ?_⟩⟩
    · show w.heap[g]? = _
      rw [hg, ← h5, List.take_append_drop]
    · rw [← h5, List.take_append_drop]; simpa using h4
theorem sats_one {A : HP} {h : Mem} {S : Nat → Prop} (hs : A.sat h S) : sats [A] h S := ⟨S, fun _ => False, hs, fun _ => id, fun _ _ => id, fun g => by simp⟩
theorem sats_one' {A : HP} {h : Mem} {S : Nat → Prop} (hs : sats [A] h S) : A.sat h S := by
  obtain ⟨S1, S2, h1, h2, _, hu⟩ := hs
  have e : S1 = S := funext fun g => propext ⟨fun x => (hu g).2 (.inl x), fun x => ((hu g).1 x).resolve_right (h2 g)⟩
  exact e ▸ h1
theorem St.grown {q : Bool} {w0 w w' : World} {S0 : Nat → Prop} {F : List HP} {v' : Value} {m : Nat} {us : List Value} (hs : St q w0 S0 (Own A c e sz n vs :: F) w)
    (hg : w.grownBy w' (Value.slice A n c).ownBlock) (hb : v'.ownBlock = (Value.slice A n c).ownBlock ∨ v'.ownBlock = some w.heap.size) (ho : w'.ownsRow 0 e sz v' m us) :
    ∃ A' c', v' = .slice A' m c' ∧ St false w0 S0 (Own A' c' e sz m us :: F) w' := by
  obtain ⟨A', c', rfl, hsat⟩ := Own.of_row ho
  refine ⟨A', c', rfl, St.step (M := [Own A c e sz n vs]) (L' := [Own A' c' e sz m us]) hs hg.os hg.tape hg.output hg.size fun S hS => ?_⟩
  have h1 := (Own.row (sats_one' hS)).2
  refine ⟨fun x hx hn => hg.block x hx fun e => hn ((h1 x).2 e.symm), _, sats_one hsat, fun x hx => ?_⟩
  rcases hb with hb | hb
  · exact .inl ((h1 x).2 (hb ▸ hx))
  · rw [hb] at hx; injection hx with hx; exact .inr (by omega)
end own
theorem app_any {P : Program} {w : World} {t ty e sz b : Nat} {z : List Value} [h : SlE P t e sz b z] (hz : z.length = sz) (hsz : 0 < sz) {v : Value} {n : Nat} {xs : List Value} (hown : w.ownsRow 0 e sz v n xs)
    {B : Option Addr} {m c : Nat} {news : List Value} (hl : news.length = m * sz) (hnews : m = 0 ∧ B = none ∨ ∃ a, B = some a ∧ ∀ j u, news[j]? = some u → w.cell? (a.add j) = some u) (h1 : ∀ u ∈ news, u.oneCell' = true)
    (h63 : n + m ≤ maxLen) (hbytes : (n + m) * b ≤ 140737488355328) :
    ∃ v' w', (Builtin.append_ #[t, t] ty #[v, .slice B m c]).run P w = .ok v' w' ∧ w'.ownsRow 0 e sz v' (n + m) (xs ++ news) ∧ w.grownBy w' v.ownBlock ∧ (v'.ownBlock = v.ownBlock ∨ v'.ownBlock = some w.heap.size) := by
  obtain ⟨hu, i, zv, hi, hisz, hib, hizv, hzv⟩ := SlE.out (P := P) (T := t) (e := e) (sz := sz) (b := b) (z := z)
  have hzs : zv.cells.size = sz := by rw [← hz, ← hzv]; simp
  rcases hnews with ⟨rfl, rfl⟩ | ⟨a, rfl, hnews⟩
  · obtain rfl : news = [] := List.eq_nil_of_length_eq_zero (by simpa using hl)
    refine ⟨v, w, ?_, by simpa using hown, ⟨rfl, rfl, rfl, Nat.le_refl _, fun _ _ _ => rfl⟩, .inl rfl⟩
    rcases hown.2 with ⟨rfl, rfl⟩ | ⟨g, cap, cur, rfl, _, _, hnc, _⟩
    · simp [Builtin.append_, run_underlying hu, sizeOf, typeInfo, hi, Builtin.lenOf, Builtin.firstCells]
    · simp [Builtin.append_, run_underlying hu, sizeOf, typeInfo, hi, Builtin.lenOf, Builtin.firstCells, hnc, storeCells]
  · obtain ⟨v', w', r1, r2, r3, _, r5⟩ := run_append_own_at (P := P) w 0 t ty e i zv sz b hu hi hizv hisz hib hzs hsz v n xs hown a m c news hl hnews h1 h63 hbytes (Nat.zero_le _)
    exact ⟨v', w', r1, r2, r3, r5⟩
theorem zeroCells_one (z : Value) (m : Nat) : Builtin.zeroCells #[z] m = Array.replicate m z := by
  apply Array.ext'
  simp [Builtin.zeroCells, Nat.mod_one]
  apply List.ext_getElem <;> simp [Nat.mod_one]
theorem app_zeros {P : Program} {w : World} {t k ty e b : Nat} {z : Value} {K K' : IntKind} [h : SlE P t e 1 b [z]] (hk : P.underlying k = some (.int K)) {v : Value} {n : Nat} {xs : List Value} (hown : w.ownsRow 0 e 1 v n xs)
    {m : Nat} (hz1 : z.oneCell' = true) (h63 : n + m ≤ maxLen) (hbytes : (n + m) * b ≤ 140737488355328) :
    ∃ v' w', (Builtin.append_ #[t, k] ty #[v, .int K' m]).run P w = .ok v' w' ∧ w'.ownsRow 0 e 1 v' (n + m) (xs ++ List.replicate m z) ∧ w.grownBy w' v.ownBlock ∧ (v'.ownBlock = v.ownBlock ∨ v'.ownBlock = some w.heap.size) := by
  obtain ⟨hu, i, zv, hi, hisz, hib, hizv, hzv⟩ := SlE.out (P := P) (T := t) (e := e) (sz := 1) (b := b) (z := [z])
  have hzc : zv.cells = #[z] := by apply Array.ext'; simpa using hzv
  have hsmall : n + m ≤ 9223372036854775807 := by simp only [maxLen] at h63; omega
  have hwm : IntKind.i64.wrap (m : Int) = m := wi64 (by omega) (by omega)
  have hmb : m * b ≤ 140737488355328 := Nat.le_trans (Nat.mul_le_mul_right _ (by omega)) hbytes
  have h48 : ¬ ((m : Int) * (b : Int) > 2 ^ 48) := by
    have : ((m * b : Nat) : Int) ≤ 140737488355328 := by omega
    have e : ((m : Int) * (b : Int)) = ((m * b : Nat) : Int) := by simp
    rw [e]; omega
  have hneg : ¬ ((m : Int) < 0) := by omega
  have happ : ∀ w, (if m * 1 = 0 then (pure #[] : Sem (Array Value)) else do pure (Builtin.zeroCells (← zeroValue e).cells m)).run P w = .ok (Array.replicate m z) w := fun w => by
    by_cases hm : m = 0
    · subst hm; simp
    · simp [hm, zeroValue, typeInfo, hi, hizv, hzc, zeroCells_one]
  have hlen : (xs ++ List.replicate m z).length = (n + m) * 1 := by simp [hown.1]
  have grown : ∀ old, old < n + m → (w.drew.alloc (.cells (xs.toArray ++ Array.replicate m z ++ Builtin.zeroCells zv.cells (grownCap w (n + m) old e - (n + m))) e)).ownsRow 0 e 1
        (.slice (some ⟨w.heap.size, 0, none⟩) (n + m) (grownCap w (n + m) old e)) (n + m) (xs ++ List.replicate m z) ∧
      ∀ row, w.grownBy (w.drew.alloc (.cells (xs.toArray ++ Array.replicate m z ++ Builtin.zeroCells zv.cells (grownCap w (n + m) old e - (n + m))) e)) row := by
    intro old ho
    have hge := grownCap_ge w (n + m) old e
    have hcm : grownCap w (n + m) old e ≤ maxLen := grownCap_le_maxLen w (n + m) old e h63
    refine ⟨⟨hlen, .inr ⟨w.heap.size, _, _, rfl, Nat.zero_le _, heap_alloc_new w.drew _, hge, hcm, ?_, ?_⟩⟩, fun row => ⟨rfl, rfl, rfl, by simp, fun k hk _ => heap_alloc_old w.drew _ k hk⟩⟩
    · simp [hzc, zeroCells_one, hown.1]; omega
    · have : (xs ++ List.replicate m z).length = (n + m) * 1 := hlen
      simp only [Array.toList_append, Array.toList_replicate, ← List.append_assoc]
      rw [← this]
      exact List.take_left
  rcases hown.2 with ⟨rfl, rfl⟩ | ⟨g, cap, cur, rfl, hbg, hg, hnc, hcm, hcs, htake⟩
  · have hx : xs = [] := List.eq_nil_of_length_eq_zero (by simpa using hown.1)
    subst hx
    by_cases hm : m = 0
    · subst hm
      refine ⟨.slice none 0 0, w, ?_, by simpa using hown, ⟨rfl, rfl, rfl, Nat.le_refl _, fun _ _ _ => rfl⟩, .inl rfl⟩
      simp [Builtin.append_, run_underlying hu, run_underlying hk, sizeOf, typeInfo, hi, hisz, Builtin.lenOf, asInt, asIntOf, show IntKind.i64.wrap 0 = 0 from rfl]
    · obtain ⟨g1, g2⟩ := grown 0 (by omega)
      have hf : ¬ (281474976710656 < Builtin.nextslicecap m 0 * b) := by rw [nextslicecap_zero (by omega)]; omega
      have h63' : ¬ (9223372036854775807 < (m : Int)) := by omega
      refine ⟨_, _, ?_, g1, g2 _, .inr rfl⟩
      simp only [Nat.zero_add, List.nil_append, Array.empty_append]
      have h48' : ¬ ((281474976710656 : Int) < (m : Int) * (b : Int)) := by simpa using h48
      simp [Builtin.append_, run_underlying hu, run_underlying hk, sizeOf, typeInfo, zeroValue, hi, hisz, hib, hizv, Builtin.lenOf, Builtin.firstCells, asInt, asIntOf, hwm, hm, h48', hneg, h63', hf, hzc, zeroCells_one, Question.forced, newRow, grownCap]
  · have h48' : ¬ ((281474976710656 : Int) < (m : Int) * (b : Int)) := by simpa using h48
    by_cases hroom : n + m ≤ cap
    · have hst := run_storeCells_at P g n e (List.replicate m z) 0 cur w hg (by simp [hcs]; omega) (fun v hv => by rw [(List.mem_replicate.1 hv).2]; exact hz1)
      simp only [Nat.add_zero] at hst
      refine ⟨_, w.setRow g (cur.toList.take n ++ List.replicate m z ++ cur.toList.drop (n + (List.replicate m z).length)).toArray, ?_, ⟨hlen, .inr ⟨g, cap, _, rfl, hbg, setRow_heap w g cur _ e _ hg, hroom, hcm, ?_, ?_⟩⟩, ⟨rfl, rfl, rfl, by simp, fun k _ hk => setRow_other w g k _ (fun e => hk (by simp [Value.ownBlock, e]))⟩, .inl rfl⟩
      · by_cases hm : m = 0
        · subst hm
          simp at hst
          simp [Builtin.append_, run_underlying hu, run_underlying hk, sizeOf, typeInfo, hi, hisz, hib, hizv, Builtin.lenOf, asInt, asIntOf, hnc, storeCells, show IntKind.i64.wrap 0 = 0 from rfl]
          exact (setRow_self w g cur e _ hg).symm
        · simp [Builtin.append_, run_underlying hu, run_underlying hk, sizeOf, typeInfo, zeroValue, hi, hisz, hib, hizv, Builtin.lenOf, asInt, asIntOf, hwm, hm, h48', hneg, hroom, hzc, zeroCells_one, Addr.add_lit, hst]
      · simp [hcs]; omega
      · simp only [Nat.mul_one] at htake hlen ⊢
        rw [htake, ← hlen]
        exact List.take_left
    · obtain ⟨g1, g2⟩ := grown cap (by omega)
      have hmp : m ≠ 0 := by omega
      have hf : ¬ (281474976710656 < Builtin.nextslicecap (n + m) cap * b) := by have := growslice_fits (need := n + m) (old := cap) (bytes := b) (by omega) hbytes; omega
      have h63' : ¬ (9223372036854775807 < ((n : Int) + (m : Int))) := by omega
      have holds : ∀ j u, xs[j]? = some u → w.cell? ((⟨g, 0, none⟩ : Addr).add j) = some u := hown.cells (g := g) rfl
      have hfo := run_firstCells_some (P := P) w.drew 1 n ⟨g, 0, none⟩ n cap xs hown.1 (by simpa using holds)
      refine ⟨_, _, ?_, g1, g2 _, .inr rfl⟩
      simp [Builtin.append_, run_underlying hu, run_underlying hk, sizeOf, typeInfo, zeroValue, hi, hisz, hib, hizv, Builtin.lenOf, asInt, asIntOf, hwm, hmp, h48', hneg, hroom, h63', hf, hfo, hzc, zeroCells_one, Question.forced, newRow, grownCap]
section ops
variable {X : Fx} {ops : Array Oper} {cf : Nat → Cls} {k : List Item} {i : Nat} {is : List Nat} {l : List Oper} {loc loc' : List Value} {tmp tmp' : List (Nat × Value)} {L L' F : List HP}
  {d : Option Tmp} {ty : TypeId} {pos : String} {aft : Array Edge} {gd : Option (Nat × Bool)}
theorem CellRow.perm {L L' : List HP} {g o : Nat} {vs : List Value} (h : CellRow L g o vs) (hp : L'.Perm L) : CellRow L' g o vs := fun j v hj m S hS => h j v hj m S (sats_perm hp hS)
theorem x_app {t e sz b n m c c' : Nat} {z : List Value} {x y : Operand} {A B : Option Addr} {vs news : List Value} [SlE X.P t e sz b z] (hx : sv loc tmp x = some (.slice A n c)) (hy : sv loc tmp y = some (.slice B m c'))
    (ht : Take (Own A c e sz n vs) L F) (hr : Rd F B m sz news) (hB : B = none → m = 0) (h1 : ∀ u ∈ news, u.oneCell' = true) (hz : z.length = sz) (hsz : 0 < sz) (h63 : n + m ≤ maxLen) (hby : (n + m) * b ≤ 140737488355328)
    (h : ∀ A' c', ∃ loc' tmp', Pt loc tmp d (.slice A' (n + m) c') loc' tmp' ∧ EO X ops cf k is l loc' tmp' (Own A' c' e sz (n + m) (vs ++ news) :: F))
    (hg : gdv ops loc tmp gd = some true := by rfl) (hd : dOK X.n d = true := by rfl) (hcl : cf i = .any := by rfl) (hq : X.q = false := by rfl) :
    EO X ops cf k (i :: is) (⟨d, .call ⟨.builtin .append, #[x, y], #[t, t]⟩, ty, pos, aft, gd⟩ :: l) loc tmp L :=
  x_any (Rv := fun v L'' => ∃ A' c', v = .slice A' (n + m) c' ∧ L'' = Own A' c' e sz (n + m) (vs ++ news) :: F) hg hcl (fun a hrl w0 S0 w hs q => by
    have hs1 := (hs.wat q).perm ht.perm
    obtain ⟨S, ⟨S1, S2, hS1, hS2, _⟩, _⟩ := hs1.sat
    have hown := (Own.row hS1).1
    have hn : m = 0 ∧ B = none ∨ ∃ a, B = some a ∧ ∀ j u, news[j]? = some u → (wat w q).cell? (a.add j) = some u := by
      rcases hr.2 with rfl | ⟨g, o, rfl, hc⟩
      · cases B with
        | none => exact .inl ⟨rfl, rfl⟩
        | some a => exact .inr ⟨a, rfl, fun j u hj => by have := hr.1; simp at this; subst this; simp at hj⟩
      · exact .inr ⟨_, rfl, fun j u hj => by rw [add_at]; exact ((hc j u hj).there).at_ hs1⟩
    obtain ⟨v', w', hrun, ho', hgr, hb'⟩ := app_any (P := X.P) (t := t) (ty := ty) (b := b) (c := c') hz hsz hown hr.1 hn h1 h63 hby
    obtain ⟨A', c'', rfl, hst⟩ := hs1.grown hgr hb' ho'
    simp [RunN, execOp, resolve, invoke, builtin, hrl.ev hx, hrl.ev hy, hrun]
    rw [hq]
    exact ⟨_, ⟨_, _, ⟨rfl, rfl⟩, rfl⟩, hst⟩) hd (fun v L'' ⟨A', c'', e1, e2⟩ => by subst e1 e2; exact h A' c'')
theorem x_appZ {t kt e b n c m : Nat} {z : Value} {K K' : IntKind} {x y : Operand} {A : Option Addr} {vs : List Value} {mi : Int} [SlE X.P t e 1 b [z]] [IntTy X.P kt K] (hx : sv loc tmp x = some (.slice A n c)) (hy : sv loc tmp y = some (.int K' mi)) (hm : mi = (m : Int))
    (ht : Take (Own A c e 1 n vs) L F) (hz1 : z.oneCell' = true) (h63 : n + m ≤ maxLen) (hby : (n + m) * b ≤ 140737488355328)
    (h : ∀ A' c', ∃ loc' tmp', Pt loc tmp d (.slice A' (n + m) c') loc' tmp' ∧ EO X ops cf k is l loc' tmp' (Own A' c' e 1 (n + m) (vs ++ List.replicate m z) :: F))
    (hg : gdv ops loc tmp gd = some true := by rfl) (hd : dOK X.n d = true := by rfl) (hcl : cf i = .any := by rfl) (hq : X.q = false := by rfl) :
    EO X ops cf k (i :: is) (⟨d, .call ⟨.builtin .append, #[x, y], #[t, kt]⟩, ty, pos, aft, gd⟩ :: l) loc tmp L :=
  x_any (Rv := fun v L'' => ∃ A' c', v = .slice A' (n + m) c' ∧ L'' = Own A' c' e 1 (n + m) (vs ++ List.replicate m z) :: F) hg hcl (fun a hrl w0 S0 w hs q => by
    subst hm
    have hs1 := (hs.wat q).perm ht.perm
    obtain ⟨S, ⟨S1, S2, hS1, hS2, _⟩, _⟩ := hs1.sat
    have hown := (Own.row hS1).1
    obtain ⟨v', w', hrun, ho', hgr, hb'⟩ := app_zeros (P := X.P) (t := t) (k := kt) (ty := ty) (b := b) (K' := K') (m := m) IntTy.out hown hz1 h63 hby
    obtain ⟨A', c'', rfl, hst⟩ := hs1.grown hgr hb' ho'
    simp [RunN, execOp, resolve, invoke, builtin, hrl.ev hx, hrl.ev hy, hrun]
    rw [hq]
    exact ⟨_, ⟨_, _, ⟨rfl, rfl⟩, rfl⟩, hst⟩) hd (fun v L'' ⟨A', c'', e1, e2⟩ => by subst e1 e2; exact h A' c'')
end ops
/-! ### a row of cells is written -/
def ovw (cs : List Value) (o : Nat) (us : List Value) : List Value := cs.take o ++ us ++ cs.drop (o + us.length)
theorem ovw_len {cs us : List Value} {o : Nat} (h : o + us.length ≤ cs.length) : (ovw cs o us).length = cs.length := by simp [ovw]; omega
theorem ovw_app {cs us junk : List Value} {o : Nat} (h : o + us.length ≤ cs.length) : ovw (cs ++ junk) o us = ovw cs o us ++ junk := by
  simp only [ovw, List.take_append_of_le_length (show o ≤ cs.length by omega), List.drop_append_of_le_length h, List.append_assoc]
inductive PutR : List HP → Nat → Nat → List Value → List HP → Prop where
  | cells {g o : Nat} {t : TypeId} {cs us : List Value} {L : List HP} : o + us.length ≤ cs.length → PutR (Cells g t cs :: L) g o us (Cells g t (ovw cs o us) :: L)
  | own {g o c e sz n : Nat} {vs us : List Value} {L : List HP} : o + us.length ≤ vs.length → PutR (Own (some ⟨g, 0, none⟩) c e sz n vs :: L) g o us (Own (some ⟨g, 0, none⟩) c e sz n (ovw vs o us) :: L)
  | there {g o : Nat} {us : List Value} {A : HP} {L L' : List HP} : PutR L g o us L' → PutR (A :: L) g o us (A :: L')
theorem PutR.split {L L' : List HP} {g o : Nat} {us : List Value} (h : PutR L g o us L') : ∃ A A' F, L.Perm (A :: F) ∧ (A' :: F).Perm L' ∧
    ∀ m S, A.sat m S → S g ∧ ∃ cur t, m g = some (.cells cur t (0, 0)) ∧ o + us.length ≤ cur.size ∧ ∀ m' : Mem, (m' g = some (.cells (ovw cur.toList o us).toArray t (0, 0))) → A'.sat m' S := by
  induction h with
  | cells hl => exact ⟨_, _, _, List.Perm.refl _, List.Perm.refl _, fun m S hs => ⟨(hs.1 _).2 rfl, _, _, hs.2, by simpa using hl, fun m' hm' => ⟨hs.1, by simpa using hm'⟩⟩⟩
  | own hl =>
    refine ⟨_, _, _, List.Perm.refl _, List.Perm.refl _, fun m S hs => ?_⟩
    obtain ⟨h1, h2, h3, ⟨hA, _⟩ | ⟨g', junk, hA, hS, hg, hlen⟩⟩ := hs
    · cases hA
    · cases hA
      refine ⟨(hS _).2 rfl, _, _, hg, by simp; omega, fun m' hm' => ⟨by rw [ovw_len hl]; exact h1, h2, h3, .inr ⟨_, junk, rfl, hS, ?_, ?_⟩⟩⟩
      · rw [hm']; simp only [List.toList_toArray]; rw [ovw_app hl]
      · rw [List.length_append, ovw_len hl]; simpa using hlen
  | there _ ih =>
    obtain ⟨A, A', F, h1, h2, h3⟩ := ih
    exact ⟨A, A', _ :: F, (h1.cons _).trans (List.Perm.swap _ _ _), (List.Perm.swap _ _ _).trans (h2.cons _), h3⟩
theorem PutR.st {L L' : List HP} {g o : Nat} {us : List Value} (h : PutR L g o us L') {q : Bool} {w0 w : World} {S0 : Nat → Prop} (hs : St q w0 S0 L w) :
    ∃ cur t, w.heap[g]? = some (.cells cur t (0, 0)) ∧ o + us.length ≤ cur.size ∧ St false w0 S0 L' (w.setRow g (ovw cur.toList o us).toArray) := by
  obtain ⟨A, A', F, h1, h2, h3⟩ := h.split
  have hs1 := hs.perm h1
  obtain ⟨S, ⟨S1, S2, hS1, _⟩, _⟩ := hs1.sat
  obtain ⟨hg1, cur, t, hg, hl, _⟩ := h3 _ _ hS1
  refine ⟨cur, t, hg, hl, St.perm (L := [A'] ++ F) ?_ h2⟩
  refine St.step (M := [A]) hs1 rfl rfl rfl (by simp [World.setRow]) fun S hS => ?_
  obtain ⟨hgS, cur', t', hg', _, hb⟩ := h3 _ _ (sats_one' hS)
  have e : some (Obj.cells cur' t' (0, 0)) = some (.cells cur t (0, 0)) := hg'.symm.trans hg
  cases e
  exact ⟨fun x hx hn => setRow_other w g x _ fun e => hn (e ▸ hgS), S, sats_one (hb _ (setRow_heap w g cur _ t _ hg)), fun x hx => .inl hx⟩
section ops
variable {X : Fx} {ops : Array Oper} {cf : Nat → Cls} {k : List Item} {i : Nat} {is : List Nat} {l : List Oper} {loc loc' : List Value} {tmp tmp' : List (Nat × Value)} {L L' F : List HP}
  {d : Option Tmp} {ty : TypeId} {pos : String} {aft : Array Edge} {gd : Option (Nat × Bool)}
theorem x_storeR {T g o : Nat} {x y : Operand} {u : Value} [OneCell X.P T] (hx : sv loc tmp x = some (.pointer (some ⟨g, o, none⟩))) (hy : sv loc tmp y = some u) (hu : u.oneCell' = true) (hw : PutR L g o [u] L') (h : EO X ops cf k is l loc tmp L')
    (hg : gdv ops loc tmp gd = some true := by rfl) (hcl : cf i = .any := by rfl) (hq : X.q = false := by rfl) : EO X ops cf k (i :: is) (⟨none, .store T x y, ty, pos, aft, gd⟩ :: l) loc tmp L :=
  x_any (Rv := fun _ L'' => L'' = L') hg hcl (fun a hr w0 S0 w hs n => by
    obtain ⟨dd, j, _, hdd, hj, hz⟩ := OneCell.out (P := X.P) (T := T)
    obtain ⟨cur, t, hgc, hl, hs'⟩ := hw.st (hs.wat n)
    have hcs : u.cells = #[u] := by cases u <;> first | rfl | (cases hu; done)
    have hst := run_storeCells_at X.P g o t [u] 0 cur (wat w n) hgc (by simpa using hl) (fun v hv => by simp at hv; subst hv; exact hu)
    simp only [Nat.add_zero] at hst
    simp [RunN, execOp, hr.ev hx, hr.ev hy, Instr.storeAt, Instr.sureAddr, storeVar, sizeOf, typeInfo, hj, hz, hcs]
    have e : ovw cur.toList o [u] = cur.toList.take o ++ [u] ++ cur.toList.drop (o + [u].length) := rfl
    rw [e] at hs'
    simp only [List.append_assoc, List.cons_append, List.nil_append, List.length_cons, List.length_nil, Nat.zero_add] at hst hs'
    rw [hst]
    rw [hq]; exact hs') rfl (fun v L'' e => by subst e; exact ⟨_, _, .none, h⟩)
theorem x_copy {t t' e g o dn dc m c : Nat} {x y : Operand} {B : Option Addr} {news : List Value} [SlTy X.P t e 1] (hx : sv loc tmp x = some (.slice (some ⟨g, o, none⟩) dn dc)) (hy : sv loc tmp y = some (.slice B m c))
    (hr : Rd L B m 1 news) (h1 : ∀ u ∈ news, u.oneCell' = true) (hw : PutR L g o (news.take dn) L') (hp : Pt loc tmp d (.int .i64 (min m dn : Nat)) loc' tmp') (h : EO X ops cf k is l loc' tmp' L')
    (hg : gdv ops loc tmp gd = some true := by rfl) (hd : dOK X.n d = true := by rfl) (hcl : cf i = .any := by rfl) (hq : X.q = false := by rfl) :
    EO X ops cf k (i :: is) (⟨d, .call ⟨.builtin .copy, #[x, y], #[t, t']⟩, ty, pos, aft, gd⟩ :: l) loc tmp L :=
  x_any (Rv := fun v L'' => v = .int .i64 (min m dn : Nat) ∧ L'' = L') hg hcl (fun a hrl w0 S0 w hs q => by
    obtain ⟨hu, j, hj, hz⟩ := SlTy.out (P := X.P) (T := t) (e := e) (sz := 1)
    obtain ⟨cur, tt, hgc, hl, hs'⟩ := hw.st (hs.wat q)
    have hm : news.length = m := by simpa using hr.1
    have hcut : (news.take dn).length = min m dn := by simp [hm, Nat.min_comm]
    have hld : (Builtin.firstCells 1 (min m dn) (.slice B m c)).run X.P (wat w q) = .ok (news.take dn).toArray (wat w q) := by
      cases B with
      | none =>
        have : m = 0 := by
          rcases hr.2 with h | ⟨g, o, hB, _⟩
          · exact h
          · cases hB
        subst this
        have : news = [] := List.eq_nil_of_length_eq_zero hm
        subst this
        simp [Builtin.firstCells]
      | some b =>
        have := run_loadCells_list (P := X.P) (wat w q) b (news.take dn) (fun j v hv => by
          rcases hr.2 with rfl | ⟨g, o, hB, hc⟩
          · have : news = [] := List.eq_nil_of_length_eq_zero hm
            subst this; simp at hv
          · cases hB
            rw [add_at]
            refine (hc j v ?_).at_ (hs.wat q)
            rw [List.getElem?_take] at hv
            split at hv
            · exact hv
            · cases hv)
        rw [hcut] at this
        simpa [Builtin.firstCells] using this
    have hst := run_storeCells_at X.P g o tt (news.take dn) 0 cur (wat w q) hgc (by simpa using hl) (fun v hv => h1 v (List.mem_of_mem_take hv))
    simp only [Nat.add_zero] at hst
    have e : ovw cur.toList o (news.take dn) = cur.toList.take o ++ news.take dn ++ cur.toList.drop (o + (news.take dn).length) := rfl
    have hmin : Nat.min m dn = min m dn := rfl
    simp only [RunN, execOp, resolve, invoke, builtin, Builtin.copy_, Builtin.lenOf, List.map_toArray, List.map_cons, List.map_nil, hrl.ev hx, hrl.ev hy, Sem.run_bind, Sem.run_pure, Result.andThen_ok, run_underlying hu, hmin,
      List.getElem?_toArray, List.getElem?_cons_zero, List.getElem?_cons_succ, sizeOf, typeInfo, run_program, hj, hz, hld, hst]
    rw [hq]
    exact ⟨L', ⟨rfl, rfl⟩, by rw [← e]; exact hs'⟩) hd (fun v L'' ⟨e1, e2⟩ => by subst e1 e2; exact ⟨_, _, hp, h⟩)
end ops
end Go.Proofs.YtppkiiomedembaaGreatDoor
namespace Go.Proofs.YtppkiiomedembaaGreatDoor
open Go
class ArrTy (P : Program) (T : Nat) (n e sz : outParam Nat) : Prop where
  hu : P.underlying T = some (.array n e)
  hz : (P.info? e).map (·.size) = some sz
theorem ArrTy.out {P : Program} {T n e sz : Nat} [h : ArrTy P T n e sz] : P.underlying T = some (.array n e) ∧ ∃ j, P.info? e = some j ∧ j.size = sz := by
  refine ⟨h.hu, ?_⟩
  obtain ⟨j, hj, e⟩ := Option.map_eq_some_iff.1 h.hz
  exact ⟨j, hj, e⟩
theorem madeCells_one (z : Value) (n : Nat) : madeCells #[z] n = Array.replicate n z := by
  apply Array.ext'
  simp [madeCells, Nat.mod_one]
  apply List.ext_getElem <;> simp [Nat.mod_one]
def isAggD : TypeDesc → Bool
  | .struct _ | .array _ _ => true
  | _ => false
def fldVB (P : Program) (T j off : Nat) (ag : Option Nat) : Bool := match P.underlying T with
  | some (.struct fs) => match fs[j]? with
    | some f => f.offset == off && (match P.underlying f.type with
      | some dd => isAggD dd == ag.isSome && (match ag with | some m => (match P.info? f.type with | some i => i.size == m | none => false) | none => true)
      | none => false)
    | none => false
  | _ => false
class FldV (P : Program) (T j : Nat) (off : outParam Nat) (ag : outParam (Option Nat)) : Prop where h : fldVB P T j off ag = true
theorem FldV.out {P : Program} {T j off : Nat} {ag : Option Nat} [h : FldV P T j off ag] : ∃ fs f dd, P.underlying T = some (.struct fs) ∧ fs[j]? = some f ∧ f.offset = off ∧ P.underlying f.type = some dd ∧ isAggD dd = ag.isSome ∧
    ∀ m, ag = some m → ∃ i, P.info? f.type = some i ∧ i.size = m := by
  have h := h.h
  unfold fldVB at h
  split at h
  · rename_i fs hu
    split at h
    · rename_i f hf
      simp only [Bool.and_eq_true, beq_iff_eq] at h
      obtain ⟨h0, h⟩ := h
      split at h
      · rename_i dd hdd
        simp only [Bool.and_eq_true, beq_iff_eq] at h
        refine ⟨fs, f, dd, hu, hf, h0, hdd, h.1, fun m hm => ?_⟩
        subst hm
        have h2 := h.2
        simp only [] at h2
        split at h2
        · rename_i i hi; exact ⟨i, hi, by simpa using h2⟩
        · cases h2
      · cases h
    · cases h
  · cases h
section ops
variable {X : Fx} {ops : Array Oper} {cf : Nat → Cls} {k : List Item} {i : Nat} {is : List Nat} {l : List Oper} {loc loc' : List Value} {tmp tmp' : List (Nat × Value)} {L L' F : List HP}
  {d : Option Tmp} {ty : TypeId} {pos : String} {aft : Array Edge} {gd : Option (Nat × Bool)}
theorem St.made {q : Bool} {w0 w : World} {S0 : Nat → Prop} {L : List HP} (hs : St q w0 S0 L w) (e sz n c : Nat) (cs : List Value) (hl : cs.length = c * sz) (hn : n ≤ c) (hc : c ≤ maxLen) :
    St false w0 S0 (Own (some ⟨w.heap.size, 0, none⟩) c e sz n (cs.take (n * sz)) :: L) (w.alloc (.cells cs.toArray e)) := by
  refine St.step (M := []) (L' := [Own (some ⟨w.heap.size, 0, none⟩) c e sz n (cs.take (n * sz))]) (F := L) hs rfl rfl rfl (by simp) fun S hS => ⟨fun x hx _ => heap_alloc_old w _ x hx, fun x => x = w.heap.size, ?_, fun x hx => .inr (by omega)⟩
  refine sats_one ⟨?_, hn, hc, .inr ⟨w.heap.size, cs.drop (n * sz), rfl, fun _ => Iff.rfl, ?_, ?_⟩⟩
  · rw [List.length_take, hl]; exact Nat.min_eq_left (Nat.mul_le_mul_right _ hn)
  · show (w.alloc _).heap[w.heap.size]? = _
    rw [List.take_append_drop]; exact heap_alloc_new w _
  · rw [List.take_append_drop]; exact hl
theorem x_make {t e b n : Nat} {z : Value} {K K' : IntKind} {x y : Operand} {p : Int} [SlE X.P t e 1 b [z]] (hx : sv loc tmp x = some (.int K p)) (hy : sv loc tmp y = some (.int K' p)) (hn : p = (n : Int)) (hb : b * n ≤ 281474976710656) (h63 : n ≤ 9223372036854775807)
    (h : ∀ g, ∃ loc' tmp', Pt loc tmp d (.slice (some ⟨g, 0, none⟩) n n) loc' tmp' ∧ EO X ops cf k is l loc' tmp' (Own (some ⟨g, 0, none⟩) n e 1 n (List.replicate n z) :: L))
    (hg : gdv ops loc tmp gd = some true := by rfl) (hd : dOK X.n d = true := by rfl) (hcl : (cf i).news = true := by rfl) (hq : X.q = false := by rfl) :
    EO X ops cf k (i :: is) (⟨d, .makeSlice t x y, ty, pos, aft, gd⟩ :: l) loc tmp L :=
  x_new (Rv := fun v L'' => ∃ g, v = .slice (some ⟨g, 0, none⟩) n n ∧ L'' = Own (some ⟨g, 0, none⟩) n e 1 n (List.replicate n z) :: L) hg hcl (fun a hrl w0 S0 w hs q => by
    subst hn
    obtain ⟨hu, j, zv, hj, hjs, hjb, hjz, hzv⟩ := SlE.out (P := X.P) (T := t) (e := e) (sz := 1) (b := b) (z := [z])
    have hzc : zv.cells = #[z] := by apply Array.ext'; simpa using hzv
    have hrun := run_make (P := X.P) (wat w q) t e j zv hu hj hjz K K' n n (by omega) (Int.le_refl _) (by rw [hjb]; omega) (by omega)
    rw [hzc, hjs, Nat.mul_one, madeCells_one] at hrun
    simp only [Int.toNat_natCast] at hrun
    have h1 := (hs.wat q).made e 1 n n (List.replicate n z) (by simp) (Nat.le_refl _) (by simp only [maxLen]; omega)
    simp [RunN, execOp, hrl.ev hx, hrl.ev hy, hrun]
    rw [hq]
    simp only [Nat.mul_one] at h1
    rw [List.take_of_length_le (by simp)] at h1
    exact ⟨Ext.alloc _ _, by simpa using h1⟩) hd (fun v L'' ⟨g, e1, e2⟩ => by subst e1 e2; exact h g)
theorem x_build {t e sz b n : Nat} {z : List Value} {ps : List (Nat × Operand)} {vs : List Value} {cs : List Value} [SlE X.P t e sz b z] (hv : svs loc tmp (ps.map (·.2)) = some vs)
    (hf : Instr.fill (fun i => some (i * sz, sz)) ((Array.range (n * sz)).map (z.toArray[· % z.length]!)) ((ps.map (·.1)).zip vs) = some cs.toArray) (hn : Nat.ble (n * sz) 16777216 = true) (hnn : Nat.ble n 16777216 = true) (hpos : Nat.beq (n * sz) 0 = false) (hcs : cs.length = n * sz)
    (h : ∀ g, ∃ loc' tmp', Pt loc tmp d (.slice (some ⟨g, 0, none⟩) n n) loc' tmp' ∧ EO X ops cf k is l loc' tmp' (Own (some ⟨g, 0, none⟩) n e sz n cs :: L))
    (hg : gdv ops loc tmp gd = some true := by rfl) (hd : dOK X.n d = true := by rfl) (hcl : (cf i).news = true := by rfl) (hq : X.q = false := by rfl) :
    EO X ops cf k (i :: is) (⟨d, .buildSlice t n ps.toArray, ty, pos, aft, gd⟩ :: l) loc tmp L :=
  x_new (Rv := fun v L'' => ∃ g, v = .slice (some ⟨g, 0, none⟩) n n ∧ L'' = Own (some ⟨g, 0, none⟩) n e sz n cs :: L) hg hcl (fun a hrl w0 S0 w hs q => by
    obtain ⟨hu, j, zv, hj, hjs, hjb, hjz, hzv⟩ := SlE.out (P := X.P) (T := t) (e := e) (sz := sz) (b := b) (z := z)
    have hn' : n * sz ≤ 16777216 := Nat.le_of_ble_eq_true hn
    have hps : (ps.map fun p => (p.1, a.eval p.2)) = (ps.map (·.1)).zip vs := by
      rw [← hrl.evs hv]
      clear hf hv
      induction ps with
      | nil => rfl
      | cons p ps ih => simp only [List.map_cons, List.zip_cons_cons]; rw [ih]
    have hz : zv.cells = z.toArray := by apply Array.ext'; simpa using hzv
    have hbig : ¬ (16777216 < n * sz) := by omega
    have hz0 : ¬ n * sz = 0 := fun h => by rw [h] at hpos; cases hpos
    have hfill : Instr.fill (fun i => some (i * sz, sz)) ((Array.range (n * sz)).map (zv.cells[· % zv.cells.size]!)) (ps.map fun p => (p.1, a.eval p.2)) = some cs.toArray := by
      rw [hps, hz, ← hf]; simp
    have h1 := (hs.wat q).made e sz n n cs hcs (Nat.le_refl _) (by have := Nat.le_of_ble_eq_true hnn; simp only [maxLen]; omega)
    rw [List.take_of_length_le (by omega)] at h1
    have hrun : (Instr.buildSlice t n (ps.toArray.map fun (i, x) => (i, a.eval x))).run X.P (wat w q) = .ok (.slice (some ⟨(wat w q).heap.size, 0, none⟩) n n) ((wat w q).alloc (.cells cs.toArray e)) := by
      have hpe : (ps.toArray.map fun (i, x) => (i, a.eval x)).toList = ps.map fun p => (p.1, a.eval p.2) := by simp
      unfold Instr.buildSlice
      simp only [Sem.run_bind, run_underlying hu, Result.andThen_ok, sizeOf, typeInfo, run_program, hj, hjs, Sem.run_pure, hbig, if_false, Nat.reducePow]
      simp only [hz0, if_false, zeroValue, Sem.run_bind, typeInfo, run_program, hj, hjz, Sem.run_pure, Result.andThen_ok, hpe, hfill]
      simp [newRow, newObj, Sem.run]
    simp only [RunN, execOp, Sem.run_bind, hrun, Result.andThen_ok, Sem.run_pure]
    rw [hq]
    exact ⟨Ext.alloc _ _, _, ⟨_, rfl, rfl⟩, h1⟩) hd (fun v L'' ⟨g, e1, e2⟩ => by subst e1 e2; exact h g)
theorem x_build0 {t e sz b : Nat} {z : List Value} [SlE X.P t e sz b z]
    (h : ∀ g, ∃ loc' tmp', Pt loc tmp d (.slice (some ⟨g, 0, none⟩) 0 0) loc' tmp' ∧ EO X ops cf k is l loc' tmp' (Own (some ⟨g, 0, none⟩) 0 e sz 0 [] :: L))
    (hg : gdv ops loc tmp gd = some true := by rfl) (hd : dOK X.n d = true := by rfl) (hcl : (cf i).news = true := by rfl) (hq : X.q = false := by rfl) :
    EO X ops cf k (i :: is) (⟨d, .buildSlice t 0 #[], ty, pos, aft, gd⟩ :: l) loc tmp L :=
  x_new (Rv := fun v L'' => ∃ g, v = .slice (some ⟨g, 0, none⟩) 0 0 ∧ L'' = Own (some ⟨g, 0, none⟩) 0 e sz 0 [] :: L) hg hcl (fun a hrl w0 S0 w hs q => by
    obtain ⟨hu, j, zv, hj, hjs, hjb, hjz, hzv⟩ := SlE.out (P := X.P) (T := t) (e := e) (sz := sz) (b := b) (z := z)
    have h1 := (hs.wat q).made e sz 0 0 [] (by simp) (Nat.le_refl _) (by simp [maxLen])
    have hrun : (Instr.buildSlice t 0 #[]).run X.P (wat w q) = .ok (.slice (some ⟨(wat w q).heap.size, 0, none⟩) 0 0) ((wat w q).alloc (.cells #[] e)) := by
      unfold Instr.buildSlice
      simp [run_underlying hu, sizeOf, typeInfo, hj, hjs, Instr.fill, newRow, newObj, Sem.run, show Array.range 0 = #[] from rfl]
    simp only [RunN, execOp, Array.map_empty, Sem.run_bind, hrun, Result.andThen_ok, Sem.run_pure]
    rw [hq]
    exact ⟨Ext.alloc _ _, _, ⟨_, rfl, rfl⟩, by simpa using h1⟩) hd (fun v L'' ⟨g, e1, e2⟩ => by subst e1 e2; exact h g)
/-! ### cuts -/
theorem run_bound (P : Program) (w : World) (K : IntKind) (m y : Nat) (code : BoundsCode) (h : m ≤ y) : (Instr.sliceBound (.int K (m : Int)) y code).run P w = .ok m w := by
  have : (0 ≤ (m : Int) ∧ (m : Int) ≤ (y : Int)) := by omega
  simp [Instr.sliceBound, asIntOf, this]
theorem x_slLo {t e sz g o n c m : Nat} {K : IntKind} {x y : Operand} {p : Int} [SlTy X.P t e sz] (hx : sv loc tmp x = some (.slice (some ⟨g, o, none⟩) n c)) (hy : sv loc tmp y = some (.int K p)) (hm : p = (m : Int)) (hmn : m ≤ n) (hnc : n ≤ c) (hlt : m < c)
    (hp : Pt loc tmp d (.slice (some ⟨g, o + m * sz, none⟩) (n - m) (c - m)) loc' tmp') (h : EO X ops cf k is l loc' tmp' L)
    (hg : gdv ops loc tmp gd = some true := by rfl) (hd : dOK X.n d = true := by rfl) : EO X ops cf k (i :: is) (⟨d, .slice t x (some y) none none, ty, pos, aft, gd⟩ :: l) loc tmp L :=
  x_pure hg (fun a hr w => by
    subst hm
    obtain ⟨hu, j, hj, hz⟩ := SlTy.out (P := X.P) (T := t) (e := e) (sz := sz)
    have hne : c ≠ m := by omega
    simp [execOp, hr.ev hx, hr.ev hy, Instr.sliceAt, Instr.slice, run_underlying hu, Instr.sliceBounds, run_bound X.P w K m n _ hmn, sizeOf, typeInfo, hj, hz, hne, add_at]) hp hd h
theorem x_slLoE {t e sz n c m : Nat} {A : Option Addr} {K : IntKind} {x y : Operand} {p : Int} [SlTy X.P t e sz] (hx : sv loc tmp x = some (.slice A n c)) (hy : sv loc tmp y = some (.int K p)) (hm : p = (m : Int)) (hmn : m ≤ n) (hlt : m = c)
    (hp : Pt loc tmp d (.slice A (n - m) 0) loc' tmp') (h : EO X ops cf k is l loc' tmp' L)
    (hg : gdv ops loc tmp gd = some true := by rfl) (hd : dOK X.n d = true := by rfl) : EO X ops cf k (i :: is) (⟨d, .slice t x (some y) none none, ty, pos, aft, gd⟩ :: l) loc tmp L :=
  x_pure hg (fun a hr w => by
    subst hm
    subst hlt
    obtain ⟨hu, j, hj, hz⟩ := SlTy.out (P := X.P) (T := t) (e := e) (sz := sz)
    simp [execOp, hr.ev hx, hr.ev hy, Instr.sliceAt, Instr.slice, run_underlying hu, Instr.sliceBounds, run_bound X.P w K m n _ hmn, sizeOf, typeInfo, hj, hz]) hp hd h
theorem x_slHi {t e sz n c m : Nat} {A : Option Addr} {K : IntKind} {x y : Operand} {p : Int} [SlTy X.P t e sz] (hx : sv loc tmp x = some (.slice A n c)) (hy : sv loc tmp y = some (.int K p)) (hm : p = (m : Int)) (hmc : m ≤ c)
    (hp : Pt loc tmp d (.slice A m c) loc' tmp') (h : EO X ops cf k is l loc' tmp' L)
    (hg : gdv ops loc tmp gd = some true := by rfl) (hd : dOK X.n d = true := by rfl) : EO X ops cf k (i :: is) (⟨d, .slice t x none (some y) none, ty, pos, aft, gd⟩ :: l) loc tmp L :=
  x_pure hg (fun a hr w => by
    subst hm
    obtain ⟨hu, j, hj, hz⟩ := SlTy.out (P := X.P) (T := t) (e := e) (sz := sz)
    have e0 : (A.map (·.add 0)) = A := by cases A <;> rfl
    simp [execOp, hr.ev hx, hr.ev hy, Instr.sliceAt, Instr.slice, run_underlying hu, Instr.sliceBounds, run_bound X.P w K m c _ hmc, sizeOf, typeInfo, hj, hz]
    intro _; cases A <;> rfl) hp hd h
theorem x_slLH {t e sz g o n c m r : Nat} {K K' : IntKind} {x y z : Operand} {p p' : Int} [SlTy X.P t e sz] (hx : sv loc tmp x = some (.slice (some ⟨g, o, none⟩) n c)) (hy : sv loc tmp y = some (.int K p)) (hz' : sv loc tmp z = some (.int K' p')) (hm : p = (m : Int)) (hr' : p' = (r : Int)) (hmr : m ≤ r) (hrc : r ≤ c) (hlt : m < c)
    (hp : Pt loc tmp d (.slice (some ⟨g, o + m * sz, none⟩) (r - m) (c - m)) loc' tmp') (h : EO X ops cf k is l loc' tmp' L)
    (hg : gdv ops loc tmp gd = some true := by rfl) (hd : dOK X.n d = true := by rfl) : EO X ops cf k (i :: is) (⟨d, .slice t x (some y) (some z) none, ty, pos, aft, gd⟩ :: l) loc tmp L :=
  x_pure hg (fun a hr w => by
    subst hm
    subst hr'
    obtain ⟨hu, j, hj, hz⟩ := SlTy.out (P := X.P) (T := t) (e := e) (sz := sz)
    have hne : c ≠ m := by omega
    simp [execOp, hr.ev hx, hr.ev hy, hr.ev hz', Instr.sliceAt, Instr.slice, run_underlying hu, Instr.sliceBounds, run_bound X.P w K m r _ hmr, run_bound X.P w K' r c _ hrc, sizeOf, typeInfo, hj, hz, hne, add_at]) hp hd h
theorem x_slArr {t e sz g o n m : Nat} {K : IntKind} {x y : Operand} {p : Int} [ArrTy X.P t n e sz] (hx : sv loc tmp x = some (.pointer (some ⟨g, o, none⟩))) (hy : sv loc tmp y = some (.int K p)) (hm : p = (m : Int)) (hmn : m < n)
    (hp : Pt loc tmp d (.slice (some ⟨g, o + m * sz, none⟩) (n - m) (n - m)) loc' tmp') (h : EO X ops cf k is l loc' tmp' L)
    (hg : gdv ops loc tmp gd = some true := by rfl) (hd : dOK X.n d = true := by rfl) : EO X ops cf k (i :: is) (⟨d, .slice t x (some y) none none, ty, pos, aft, gd⟩ :: l) loc tmp L :=
  x_pure hg (fun a hr w => by
    subst hm
    obtain ⟨hu, j, hj, hz⟩ := ArrTy.out (P := X.P) (T := t) (n := n) (e := e) (sz := sz)
    have hne : n ≠ m := by omega
    simp [execOp, hr.ev hx, hr.ev hy, Instr.sliceAt, Instr.sureAddr, run_underlying hu, Instr.sliceBounds, run_bound X.P w K m n _ (by omega), sizeOf, typeInfo, hj, hz, hne, add_at]) hp hd h
theorem x_slArr0 {t e sz n : Nat} {A : Addr} {x : Operand} [ArrTy X.P t n e sz] (hx : sv loc tmp x = some (.pointer (some A)))
    (hp : Pt loc tmp d (.slice (some A) n n) loc' tmp') (h : EO X ops cf k is l loc' tmp' L)
    (hg : gdv ops loc tmp gd = some true := by rfl) (hd : dOK X.n d = true := by rfl) : EO X ops cf k (i :: is) (⟨d, .slice t x none none none, ty, pos, aft, gd⟩ :: l) loc tmp L :=
  x_pure hg (fun a hr w => by
    obtain ⟨hu, j, hj, hz⟩ := ArrTy.out (P := X.P) (T := t) (n := n) (e := e) (sz := sz)
    have e0 : A.add 0 = A := rfl
    simp [execOp, hr.ev hx, Instr.sliceAt, Instr.sureAddr, run_underlying hu, Instr.sliceBounds, sizeOf, typeInfo, hj, hz, e0]) hp hd h
theorem x_slArrH {t e sz n m : Nat} {A : Addr} {K : IntKind} {x y : Operand} {p : Int} [ArrTy X.P t n e sz] (hx : sv loc tmp x = some (.pointer (some A))) (hy : sv loc tmp y = some (.int K p)) (hm : p = (m : Int)) (hmn : m ≤ n)
    (hp : Pt loc tmp d (.slice (some A) m n) loc' tmp') (h : EO X ops cf k is l loc' tmp' L)
    (hg : gdv ops loc tmp gd = some true := by rfl) (hd : dOK X.n d = true := by rfl) : EO X ops cf k (i :: is) (⟨d, .slice t x none (some y) none, ty, pos, aft, gd⟩ :: l) loc tmp L :=
  x_pure hg (fun a hr w => by
    subst hm
    obtain ⟨hu, j, hj, hz⟩ := ArrTy.out (P := X.P) (T := t) (n := n) (e := e) (sz := sz)
    have e0 : A.add 0 = A := rfl
    simp [execOp, hr.ev hx, hr.ev hy, Instr.sliceAt, Instr.sureAddr, run_underlying hu, Instr.sliceBounds, run_bound X.P w K m n _ hmn, sizeOf, typeInfo, hj, hz, e0]) hp hd h
theorem x_slStrH {t b : Nat} {K' : IntKind} {s : ByteArray} {x z : Operand} {q : Int} [hu : StrTy X.P t] (hx : sv loc tmp x = some (.string s)) (hz : sv loc tmp z = some (.int K' q)) (hb : q = (b : Int)) (hbs : b ≤ s.size)
    (hp : Pt loc tmp d (.string (s.extract 0 b)) loc' tmp') (h : EO X ops cf k is l loc' tmp' L)
    (hg : gdv ops loc tmp gd = some true := by rfl) (hd : dOK X.n d = true := by rfl) : EO X ops cf k (i :: is) (⟨d, .slice t x none (some z) none, ty, pos, aft, gd⟩ :: l) loc tmp L :=
  x_pure hg (fun a' hr w => by
    subst hb
    have hu := hu.h
    simp [execOp, hr.ev hx, hr.ev hz, Instr.sliceAt, Instr.slice, run_underlying hu, Instr.sliceBounds, run_bound X.P w K' b s.size _ hbs]) hp hd h
theorem x_slStrL {t a : Nat} {K : IntKind} {s : ByteArray} {x y : Operand} {p : Int} [hu : StrTy X.P t] (hx : sv loc tmp x = some (.string s)) (hy : sv loc tmp y = some (.int K p)) (ha : p = (a : Int)) (hab : a ≤ s.size)
    (hp : Pt loc tmp d (.string (s.extract a s.size)) loc' tmp') (h : EO X ops cf k is l loc' tmp' L)
    (hg : gdv ops loc tmp gd = some true := by rfl) (hd : dOK X.n d = true := by rfl) : EO X ops cf k (i :: is) (⟨d, .slice t x (some y) none none, ty, pos, aft, gd⟩ :: l) loc tmp L :=
  x_pure hg (fun a' hr w => by
    subst ha
    have hu := hu.h
    simp [execOp, hr.ev hx, hr.ev hy, Instr.sliceAt, Instr.slice, run_underlying hu, Instr.sliceBounds, run_bound X.P w K a s.size _ hab]) hp hd h
/-! ### elements -/
theorem x_at {t e sz g o n c : Nat} {K : IntKind} {x y : Operand} {p : Int} [SlTy X.P t e sz] (hx : sv loc tmp x = some (.slice (some ⟨g, o, none⟩) n c)) (hy : sv loc tmp y = some (.int K p)) (h0 : 0 ≤ p) (hn : p < (n : Int))
    (hp : Pt loc tmp d (.pointer (some ⟨g, o + p.toNat * sz, none⟩)) loc' tmp') (h : EO X ops cf k is l loc' tmp' L)
    (hg : gdv ops loc tmp gd = some true := by rfl) (hd : dOK X.n d = true := by rfl) : EO X ops cf k (i :: is) (⟨d, .indexAddr t x y, ty, pos, aft, gd⟩ :: l) loc tmp L :=
  x_pure hg (fun a hr w => by
    obtain ⟨hu, j, hj, hz⟩ := SlTy.out (P := X.P) (T := t) (e := e) (sz := sz)
    simp [execOp, hr.ev hx, hr.ev hy, Instr.indexAt, asIntOf, run_underlying hu, h0, hn, sizeOf, typeInfo, hj, hz, add_at]) hp hd h
theorem x_atArr {t e sz g o n : Nat} {K : IntKind} {x y : Operand} {p : Int} [ArrTy X.P t n e sz] (hx : sv loc tmp x = some (.pointer (some ⟨g, o, none⟩))) (hy : sv loc tmp y = some (.int K p)) (h0 : 0 ≤ p) (hn : p < (n : Int))
    (hp : Pt loc tmp d (.pointer (some ⟨g, o + p.toNat * sz, none⟩)) loc' tmp') (h : EO X ops cf k is l loc' tmp' L)
    (hg : gdv ops loc tmp gd = some true := by rfl) (hd : dOK X.n d = true := by rfl) : EO X ops cf k (i :: is) (⟨d, .indexAddr t x y, ty, pos, aft, gd⟩ :: l) loc tmp L :=
  x_pure hg (fun a hr w => by
    obtain ⟨hu, j, hj, hz⟩ := ArrTy.out (P := X.P) (T := t) (n := n) (e := e) (sz := sz)
    simp [execOp, hr.ev hx, hr.ev hy, Instr.indexAt, Instr.sureAddr, asIntOf, run_underlying hu, h0, hn, sizeOf, typeInfo, hj, hz, add_at]) hp hd h
theorem x_fld {T j off : Nat} {x : Operand} {cs : List Value} {u : Value} [FldV X.P T j off none] (hx : sv loc tmp x = some (.agg cs.toArray)) (hu : nth cs off = some u) (hp : Pt loc tmp d u loc' tmp') (h : EO X ops cf k is l loc' tmp' L)
    (hg : gdv ops loc tmp gd = some true := by rfl) (hd : dOK X.n d = true := by rfl) : EO X ops cf k (i :: is) (⟨d, .field T x j, ty, pos, aft, gd⟩ :: l) loc tmp L :=
  x_pure hg (fun a hr w => by
    obtain ⟨fs, f, dd, hu', hf, ho, hdd, hag, _⟩ := FldV.out (P := X.P) (T := T) (j := j) (off := off) (ag := none)
    have hisag : (isAgg f.type).run X.P w = .ok false w := by
      unfold isAgg
      simp only [Sem.run_bind, run_underlying hdd, Result.andThen_ok]
      cases dd <;> simp_all [isAggD]
    simp [execOp, hr.ev hx, Instr.field, run_underlying hu', hf, ho, asAgg, part, hisag, nth_get hu]) hp hd h
theorem x_fldA {T j off m : Nat} {x : Operand} {cs us : List Value} [FldV X.P T j off (some m)] (hx : sv loc tmp x = some (.agg cs.toArray)) (hu : (cs.drop off).take m = us) (hp : Pt loc tmp d (.agg us.toArray) loc' tmp') (h : EO X ops cf k is l loc' tmp' L)
    (hg : gdv ops loc tmp gd = some true := by rfl) (hd : dOK X.n d = true := by rfl) : EO X ops cf k (i :: is) (⟨d, .field T x j, ty, pos, aft, gd⟩ :: l) loc tmp L :=
  x_pure hg (fun a hr w => by
    obtain ⟨fs, f, dd, hu', hf, ho, hdd, hag, hsz⟩ := FldV.out (P := X.P) (T := T) (j := j) (off := off) (ag := some m)
    obtain ⟨jj, hj, hjs⟩ := hsz m rfl
    have hisag : (isAgg f.type).run X.P w = .ok true w := by
      unfold isAgg
      simp only [Sem.run_bind, run_underlying hdd, Result.andThen_ok]
      cases dd <;> simp_all [isAggD]
    subst hu
    simp [execOp, hr.ev hx, Instr.field, run_underlying hu', hf, ho, asAgg, part, hisag, sizeOf, typeInfo, hj, hjs, List.extract_eq_take_drop]) hp hd h
end ops
end Go.Proofs.YtppkiiomedembaaGreatDoor
namespace Go.Proofs.YtppkiiomedembaaGreatDoor
open Go
theorem ba_beq (a b : ByteArray) : (a == b) = decide (a = b) := by
  rcases a with ⟨a⟩
  rcases b with ⟨b⟩
  show ByteArray.beq ⟨a⟩ ⟨b⟩ = _
  rw [Bool.eq_iff_iff]
  simp [ByteArray.beq]
abbrev Ents := List (ByteArray × Value)
def look (es : Ents) (s : ByteArray) : Option Value := (es.find? fun p => decide (p.1 = s)).map (·.2)
def upd : Ents → ByteArray → Value → Ents
  | [], s, u => [(s, u)]
  | p :: es, s, u => if p.1 = s then (p.1, u) :: es else p :: upd es s u
structure MapOk (E : List MapEntry) (clock : Nat) (es : Ents) : Prop where
  kv : E.map (fun e => (e.key, e.val)) = es.map (fun p => (Value.string p.1, p.2))
  nd : (es.map (·.1)).Nodup
  bn : (E.map (·.born)).Nodup
  lt : ∀ e ∈ E, e.born < clock
def MapS (g : Nat) (es : Ents) : HP where
  sat h S := (∀ x, S x ↔ x = g) ∧ ∃ E clock, h g = some (.map E.toArray clock) ∧ MapOk E clock es
  loc hs he := ⟨hs.1, by rw [he g ((hs.1 g).2 rfl)]; exact hs.2⟩
  dom {h S x} hs hx := by have := (hs.1 x).1 hx; subst this; obtain ⟨E, c, h1, _⟩ := hs.2; rw [h1]; simp
def MapIt (g gm : Nat) (es : Ents) (done : List Nat) : HP where
  sat h S := g ≠ gm ∧ (∀ x, S x ↔ x = g ∨ x = gm) ∧ ∃ E clock seen, h gm = some (.map E.toArray clock) ∧ MapOk E clock es ∧ h g = some (.mapIter (some gm) clock seen clock) ∧
    done.Nodup ∧ (∀ j ∈ done, j < es.length) ∧ (∀ b, b ∈ seen ↔ ∃ j e, j ∈ done ∧ E[j]? = some e ∧ e.born = b) ∧ ∀ j, done.head? = some j → ∃ e, E[j]? = some e ∧ seen.back? = some e.born
  loc hs he := ⟨hs.1, hs.2.1, by rw [he g ((hs.2.1 g).2 (.inl rfl)), he _ ((hs.2.1 _).2 (.inr rfl))]; exact hs.2.2⟩
  dom {h S x} hs hx := by
    obtain ⟨E, c, seen, h1, _, h2, _⟩ := hs.2.2
    rcases (hs.2.1 x).1 hx with rfl | rfl
    · rw [h2]; simp
    · rw [h1]; simp
class MapTy (P : Program) (T : Nat) (k e : outParam Nat) (z : outParam Value) : Prop where
  hu : P.underlying T = some (.map k e)
  hk : P.underlying k = some .string
  hz : (P.info? e).bind (·.zero) = some z
theorem findNow_none {s : ByteArray} : ∀ {E : List MapEntry} {es : Ents} {i : Nat}, E.map (fun e => (e.key, e.val)) = es.map (fun p => (Value.string p.1, p.2)) → look es s = none → Instr.findNow .string (.string s) E i = some none
  | [], [], _, _, _ => rfl
  | [], _ :: _, _, h, _ => by simp at h
  | _ :: _, [], _, h, _ => by simp at h
  | e :: E, p :: es, i, h, hl => by
    simp only [List.map_cons, List.cons.injEq, Prod.mk.injEq] at h
    obtain ⟨⟨h1, h2⟩, h3⟩ := h
    simp only [look, List.find?_cons] at hl
    by_cases hps : p.1 = s
    · simp [hps] at hl
    · rw [decide_eq_false hps] at hl
      have : (s == p.1) = false := by rw [ba_beq]; exact decide_eq_false fun e => hps e.symm
      simp only [Instr.findNow, h1, Instr.sameNow, this]
      exact findNow_none h3 hl
theorem findNow_some {s : ByteArray} {u : Value} : ∀ {E : List MapEntry} {es : Ents} {i : Nat}, E.map (fun e => (e.key, e.val)) = es.map (fun p => (Value.string p.1, p.2)) → look es s = some u → ∃ j, Instr.findNow .string (.string s) E i = some (some (i + j, u)) ∧ es[j]? = some (s, u) ∧
    (∃ e, E[j]? = some e ∧ e.key = .string s) ∧ ∀ v, upd es s v = es.set j (s, v)
  | [], [], _, _, h => by simp [look] at h
  | [], _ :: _, _, h, _ => by simp at h
  | _ :: _, [], _, h, _ => by simp at h
  | e :: E, p :: es, i, h, hl => by
    simp only [List.map_cons, List.cons.injEq, Prod.mk.injEq] at h
    obtain ⟨⟨h1, h2⟩, h3⟩ := h
    simp only [look, List.find?_cons] at hl
    by_cases hps : p.1 = s
    · rw [decide_eq_true hps] at hl
      have : (s == p.1) = true := by rw [ba_beq]; exact decide_eq_true hps.symm
      simp at hl
      refine ⟨0, ?_, ?_, ⟨e, rfl, by rw [h1, hps]⟩, fun v => ?_⟩
      · simp [Instr.findNow, h1, Instr.sameNow, this, h2, hl]
      · simp [← hl, ← hps]
      · simp [upd, hps]
    · rw [decide_eq_false hps] at hl
      have : (s == p.1) = false := by rw [ba_beq]; exact decide_eq_false fun e => hps e.symm
      obtain ⟨j, g1, g2, ⟨e', g3, g3'⟩, g4⟩ := findNow_some (i := i + 1) h3 hl
      refine ⟨j + 1, ?_, by simpa using g2, ⟨e', by simpa using g3, g3'⟩, fun v => by simp [upd, hps, g4 v]⟩
      simp only [Instr.findNow, h1, Instr.sameNow, this]
      rw [g1]
      have : i + 1 + j = i + (j + 1) := by omega
      rw [this]
theorem run_checkKey {P : Program} {k : Nat} (hk : P.underlying k = some .string) (b : Bool) (s : ByteArray) (w : World) : (Instr.checkKey b 10000 k (.string s)).run P w = .ok () w := by
  have key : ∀ n, (Instr.checkKey b (n + 1) k (.string s)).run P w = .ok () w := fun n => by simp [Instr.checkKey, run_underlying hk]
  exact key 9999
theorem run_findKey {P : Program} {k : Nat} (hk : P.underlying k = some .string) {s : ByteArray} {E : List MapEntry} {es : Ents} (h : E.map (fun e => (e.key, e.val)) = es.map (fun p => (Value.string p.1, p.2))) (w : World) :
    (look es s = none ∧ (Instr.findKey k (.string s) E).run P w = .ok none w) ∨ ∃ u j, look es s = some u ∧ (Instr.findKey k (.string s) E).run P w = .ok (some (j, u)) w ∧ es[j]? = some (s, u) ∧ (∃ e, E[j]? = some e ∧ e.key = .string s) ∧ ∀ v, upd es s v = es.set j (s, v) := by
  cases hl : look es s with
  | none => exact .inl ⟨rfl, by simp [Instr.findKey, run_underlying hk, findNow_none h hl]⟩
  | some u =>
    obtain ⟨j, h1, h2, h3, h4⟩ := findNow_some (i := 0) h hl
    rw [Nat.zero_add] at h1
    exact .inr ⟨u, j, rfl, by simp [Instr.findKey, run_underlying hk, h1], h2, h3, h4⟩
section ops
variable {X : Fx} {ops : Array Oper} {cf : Nat → Cls} {k : List Item} {i : Nat} {is : List Nat} {l : List Oper} {loc loc' : List Value} {tmp tmp' : List (Nat × Value)} {L L' F : List HP}
  {d : Option Tmp} {ty : TypeId} {pos : String} {aft : Array Edge} {gd : Option (Nat × Bool)}
def lookV (o : Option Value) (z : Value) : Value := o.getD z
theorem x_look {T kt e g : Nat} {z : Value} {x y : Operand} {s : ByteArray} {es : Ents} [hT : MapTy X.P T kt e z] (hx : sv loc tmp x = some (.map (some g))) (hy : sv loc tmp y = some (.string s)) (ht : Take (MapS g es) L F) (hp : Pt loc tmp d (lookV (look es s) z) loc' tmp') (h : EO X ops cf k is l loc' tmp' L)
    (hg : gdv ops loc tmp gd = some true := by rfl) (hd : dOK X.n d = true := by rfl) (hcl : (cf i).reads = true := by rfl) : EO X ops cf k (i :: is) (⟨d, .lookup T x y false, ty, pos, aft, gd⟩ :: l) loc tmp L :=
  x_read hg hcl (fun a hr w0 S0 w hs n => by
    obtain ⟨zi, hzi, hzz⟩ := Option.bind_eq_some_iff.1 hT.hz
    obtain ⟨S, ⟨S1, S2, ⟨_, E, clock, hE, hok⟩, _⟩, _⟩ := ((hs.wat n).perm ht.perm).sat
    have hE' : (wat w n).heap[g]? = some (.map E.toArray clock) := hE
    have hgo : (getObj g).run X.P (wat w n) = .ok (.map E.toArray clock) (wat w n) := by simp [getObj, Sem.run, hE']
    rcases run_findKey (P := X.P) hT.hk hok.kv (s := s) (wat w n) with ⟨h1, h2⟩ | ⟨u, j, h1, h2, _⟩
    · simp [RunN, execOp, hr.ev hx, hr.ev hy, Instr.lookup, run_underlying hT.hu, run_checkKey hT.hk, hgo, h2, h1, lookV, zeroValue, typeInfo, hzi, hzz]
      rfl
    · simp [RunN, execOp, hr.ev hx, hr.ev hy, Instr.lookup, run_underlying hT.hu, run_checkKey hT.hk, hgo, h2, h1, lookV]
      rfl) hp hd h
theorem x_lookOk {T kt e g : Nat} {z : Value} {x y : Operand} {s : ByteArray} {es : Ents} [hT : MapTy X.P T kt e z] (hx : sv loc tmp x = some (.map (some g))) (hy : sv loc tmp y = some (.string s)) (ht : Take (MapS g es) L F) (hp : Pt loc tmp d (.tuple #[lookV (look es s) z, .bool (look es s).isSome]) loc' tmp') (h : EO X ops cf k is l loc' tmp' L)
    (hg : gdv ops loc tmp gd = some true := by rfl) (hd : dOK X.n d = true := by rfl) (hcl : (cf i).reads = true := by rfl) : EO X ops cf k (i :: is) (⟨d, .lookup T x y true, ty, pos, aft, gd⟩ :: l) loc tmp L :=
  x_read hg hcl (fun a hr w0 S0 w hs n => by
    obtain ⟨zi, hzi, hzz⟩ := Option.bind_eq_some_iff.1 hT.hz
    obtain ⟨S, ⟨S1, S2, ⟨_, E, clock, hE, hok⟩, _⟩, _⟩ := ((hs.wat n).perm ht.perm).sat
    have hE' : (wat w n).heap[g]? = some (.map E.toArray clock) := hE
    have hgo : (getObj g).run X.P (wat w n) = .ok (.map E.toArray clock) (wat w n) := by simp [getObj, Sem.run, hE']
    rcases run_findKey (P := X.P) hT.hk hok.kv (s := s) (wat w n) with ⟨h1, h2⟩ | ⟨u, j, h1, h2, _⟩
    · simp [RunN, execOp, hr.ev hx, hr.ev hy, Instr.lookup, run_underlying hT.hu, run_checkKey hT.hk, hgo, h2, h1, lookV, zeroValue, typeInfo, hzi, hzz]
      rfl
    · simp [RunN, execOp, hr.ev hx, hr.ev hy, Instr.lookup, run_underlying hT.hu, run_checkKey hT.hk, hgo, h2, h1, lookV]
      rfl) hp hd h
end ops
theorem MapOk.upd {E : List MapEntry} {clock : Nat} {es : Ents} (h : MapOk E clock es) (s : ByteArray) (u : Value) :
    (∀ {j : Nat} {v : Value}, es[j]? = some (s, v) → (∃ e, E[j]? = some e ∧ e.key = .string s) → Go.Proofs.YtppkiiomedembaaGreatDoor.upd es s u = es.set j (s, u) → MapOk (E.modify j fun e => { e with key := .string s, val := u }) clock (Go.Proofs.YtppkiiomedembaaGreatDoor.upd es s u)) ∧
    (look es s = none → MapOk (E ++ [{ key := .string s, val := u, born := clock }]) (clock + 1) (es ++ [(s, u)])) := by
  refine ⟨fun {j v} hj ⟨e, he, hek⟩ hu => ⟨?_, ?_, ?_, ?_⟩, fun hn => ⟨?_, ?_, ?_, ?_⟩⟩
  · rw [hu, List.map_set]
    have := h.kv
    apply List.ext_getElem?
    intro q
    have hq := congrArg (·[q]?) this
    simp only [List.getElem?_map, List.getElem?_modify, List.getElem?_set, List.length_map] at hq ⊢
    have hjl : j < es.length := (List.getElem?_eq_some_iff.1 hj).1
    by_cases hqj : j = q
    · subst hqj; simp [he, hjl]
    · simp [hqj]; simpa using hq
  · rw [hu, List.map_set]
    have hjl : j < es.length := (List.getElem?_eq_some_iff.1 hj).1
    have : (es.map (·.1))[j]? = some s := by simp [hj]
    have e2 : (es.map (·.1)).set j s = es.map (·.1) := by
      apply List.ext_getElem?
      intro q
      rw [List.getElem?_set]
      by_cases hqj : j = q
      · subst hqj; rw [if_pos rfl, if_pos (by simpa using hjl)]; exact this.symm
      · simp [hqj]
    rw [show ((s, u) : ByteArray × Value).1 = s from rfl, e2]; exact h.nd
  · have e2 : (E.modify j fun e => { e with key := .string s, val := u }).map (·.born) = E.map (·.born) := by
      apply List.ext_getElem?
      intro q
      simp only [List.getElem?_map, List.getElem?_modify]
      by_cases hqj : j = q
      · subst hqj; cases E[j]? <;> simp
      · simp [hqj]
    rw [e2]; exact h.bn
  · intro x hx
    obtain ⟨q, hq⟩ := List.getElem?_of_mem hx
    rw [List.getElem?_modify] at hq
    cases hE : E[q]? with
    | none => rw [hE] at hq; simp at hq
    | some y =>
      rw [hE] at hq
      have hb : x.born = y.born := by by_cases hqj : j = q <;> simp [hqj] at hq <;> rw [← hq]
      rw [hb]; exact h.lt y (List.mem_of_getElem? hE)
  · simp [h.kv]
  · rw [List.map_append, List.nodup_append]
    refine ⟨h.nd, by simp, fun a ha b hb => ?_⟩
    simp at hb
    subst hb
    rintro rfl
    obtain ⟨p, hp, hps⟩ := List.mem_map.1 ha
    simp only [look, Option.map_eq_none_iff, List.find?_eq_none] at hn
    exact hn p hp (by simpa using hps)
  · rw [List.map_append, List.nodup_append]
    refine ⟨h.bn, by simp, fun a ha b hb => ?_⟩
    simp at hb
    subst hb
    obtain ⟨p, hp, hps⟩ := List.mem_map.1 ha
    have := h.lt p hp
    omega
  · intro x hx
    rcases List.mem_append.1 hx with hx | hx
    · have := h.lt x hx; omega
    · simp at hx; subst hx; simp
theorem upd_none {s : ByteArray} {u : Value} : ∀ {es : Ents}, look es s = none → Go.Proofs.YtppkiiomedembaaGreatDoor.upd es s u = es ++ [(s, u)]
  | [], _ => rfl
  | p :: es, h => by
    simp only [look, List.find?_cons] at h
    by_cases hps : p.1 = s
    · simp [hps] at h
    · rw [decide_eq_false hps] at h
      simp [Go.Proofs.YtppkiiomedembaaGreatDoor.upd, hps, upd_none h]
theorem setObj_st {q : Bool} {w0 w : World} {S0 : Nat → Prop} {F : List HP} {g : Nat} {es es' : Ents} {E' : List MapEntry} {clock' : Nat} (hs : St q w0 S0 (MapS g es :: F) w) (hok : MapOk E' clock' es') :
    St false w0 S0 (MapS g es' :: F) { w with heap := w.heap.setIfInBounds g (.map E'.toArray clock') } := by
  refine St.step (M := [MapS g es]) (L' := [MapS g es']) hs rfl rfl rfl (by simp) fun S hS => ?_
  have h1 := sats_one' hS
  have hlt : g < w.heap.size := by
    obtain ⟨E, c, h2, _⟩ := h1.2
    exact (Array.getElem?_eq_some_iff.1 h2).1
  refine ⟨fun x hx hn => ?_, S, sats_one ⟨h1.1, E', clock', ?_, hok⟩, fun x hx => .inl hx⟩
  · have : g ≠ x := fun e => hn ((h1.1 x).2 e.symm)
    simp [Array.getElem?_setIfInBounds_ne this]
  · simp [hp, hlt]
theorem sameBits_str (s : ByteArray) : Instr.sameBits 10000 (.string s) (.string s) = true := by
  have key : ∀ n, Instr.sameBits n (.string s) (.string s) = true := fun n => by cases n <;> simp [Instr.sameBits, ba_beq]
  exact key _
section ops
variable {X : Fx} {ops : Array Oper} {cf : Nat → Cls} {k : List Item} {i : Nat} {is : List Nat} {l : List Oper} {loc loc' : List Value} {tmp tmp' : List (Nat × Value)} {L L' F : List HP}
  {d : Option Tmp} {ty : TypeId} {pos : String} {aft : Array Edge} {gd : Option (Nat × Bool)}
theorem x_mapSet {T kt e g : Nat} {z u : Value} {x y v : Operand} {s : ByteArray} {es : Ents} [hT : MapTy X.P T kt e z] (hx : sv loc tmp x = some (.map (some g))) (hy : sv loc tmp y = some (.string s)) (hv : sv loc tmp v = some u) (ht : Take (MapS g es) L F)
    (hp : Pt loc tmp d undef loc' tmp') (h : EO X ops cf k is l loc' tmp' (MapS g (upd es s u) :: F))
    (hg : gdv ops loc tmp gd = some true := by rfl) (hd : dOK X.n d = true := by rfl) (hcl : cf i = .any := by rfl) (hq : X.q = false := by rfl) : EO X ops cf k (i :: is) (⟨d, .mapUpdate T x y v, ty, pos, aft, gd⟩ :: l) loc tmp L :=
  x_any (Rv := fun r L'' => r = undef ∧ L'' = MapS g (upd es s u) :: F) hg hcl (fun a hr w0 S0 w hs n => by
    have hs1 := (hs.wat n).perm ht.perm
    obtain ⟨S, ⟨S1, S2, ⟨_, E, clock, hE, hok⟩, _⟩, _⟩ := hs1.sat
    have hE' : (wat w n).heap[g]? = some (.map E.toArray clock) := hE
    have hgo : (getObj g).run X.P (wat w n) = .ok (.map E.toArray clock) (wat w n) := by simp [getObj, Sem.run, hE']
    have hso : ∀ o, (setObj g o).run X.P (wat w n) = .ok () { wat w n with heap := (wat w n).heap.setIfInBounds g o } := fun o => by simp [setObj, Sem.run, hE']
    rcases run_findKey (P := X.P) hT.hk hok.kv (s := s) (wat w n) with ⟨h1, h2⟩ | ⟨u0, j, h1, h2, h3, h4, h5⟩
    · have hst := setObj_st hs1 ((hok.upd s u).2 h1)
      rw [← upd_none h1] at hst
      simp [RunN, execOp, hr.ev hx, hr.ev hy, hr.ev hv, Instr.mapUpdate, run_underlying hT.hu, run_checkKey hT.hk, hgo, h2, hso]
      rw [hq]; exact hst
    · obtain ⟨e', he', hek⟩ := h4
      have hst := setObj_st hs1 ((hok.upd s u).1 h3 ⟨e', he', hek⟩ (h5 u))
      simp [RunN, execOp, hr.ev hx, hr.ev hy, hr.ev hv, Instr.mapUpdate, run_underlying hT.hu, run_checkKey hT.hk, hgo, h2, he', hek, Instr.keyThatStays, sameBits_str, hso]
      rw [hq]; exact hst) hd (fun r L'' ⟨e1, e2⟩ => by subst e1 e2; exact ⟨_, _, hp, h⟩)
theorem x_mkMap {T : Nat} (h : ∀ g, ∃ loc' tmp', Pt loc tmp d (.map (some g)) loc' tmp' ∧ EO X ops cf k is l loc' tmp' (MapS g [] :: L))
    (hg : gdv ops loc tmp gd = some true := by rfl) (hd : dOK X.n d = true := by rfl) (hcl : (cf i).news = true := by rfl) (hq : X.q = false := by rfl) : EO X ops cf k (i :: is) (⟨d, .makeMap T none, ty, pos, aft, gd⟩ :: l) loc tmp L :=
  x_new (Rv := fun r L'' => ∃ g, r = .map (some g) ∧ L'' = MapS g [] :: L) hg hcl (fun a hr w0 S0 w hs n => by
    simp [RunN, execOp, Instr.makeMap, newObj, Sem.run]
    rw [hq]
    have h1 : St false w0 S0 (MapS (wat w n).heap.size [] :: L) ((wat w n).alloc (.map #[] 0)) := by
      refine St.step (M := []) (L' := [MapS (wat w n).heap.size []]) (F := L) (hs.wat n) rfl rfl rfl (by simp) fun S hS => ⟨fun x hx _ => heap_alloc_old (wat w n) _ x hx, fun x => x = (wat w n).heap.size, ?_, fun x hx => .inr (by omega)⟩
      exact sats_one ⟨fun _ => Iff.rfl, [], 0, heap_alloc_new (wat w n) _, rfl, by simp, by simp, by simp⟩
    exact ⟨Ext.alloc _ _, h1⟩) hd (fun r L'' ⟨g, e1, e2⟩ => by subst e1 e2; exact h g)
theorem x_lenM {t kt e g : Nat} {z : Value} {x : Operand} {es : Ents} [hT : MapTy X.P t kt e z] (hx : sv loc tmp x = some (.map (some g))) (ht : Take (MapS g es) L F) (hp : Pt loc tmp d (.int .i64 es.length) loc' tmp') (h : EO X ops cf k is l loc' tmp' L)
    (hg : gdv ops loc tmp gd = some true := by rfl) (hd : dOK X.n d = true := by rfl) (hcl : (cf i).reads = true := by rfl) : EO X ops cf k (i :: is) (⟨d, .call ⟨.builtin .len, #[x], #[t]⟩, ty, pos, aft, gd⟩ :: l) loc tmp L :=
  x_read hg hcl (fun a hr w0 S0 w hs n => by
    obtain ⟨S, ⟨S1, S2, ⟨_, E, clock, hE, hok⟩, _⟩, _⟩ := ((hs.wat n).perm ht.perm).sat
    have hE' : (wat w n).heap[g]? = some (.map E.toArray clock) := hE
    have hgo : (getObj g).run X.P (wat w n) = .ok (.map E.toArray clock) (wat w n) := by simp [getObj, Sem.run, hE']
    have hl : E.length = es.length := by have := congrArg List.length hok.kv; simpa using this
    simp [RunN, execOp, resolve, invoke, builtin, Builtin.len_, run_underlying hT.hu, hr.ev hx, goInt, hgo, hl]
    rfl) hp hd h
end ops
def cands (E : List MapEntry) (clock : Nat) (seen : Array Nat) : Array (Option MapEntry) :=
  (if ((E.toArray.filter fun e => !seen.contains e.born).filter (·.born < clock)).isEmpty then #[none] else #[]) ++
    (((E.toArray.filter fun e => !seen.contains e.born).filter (·.born < clock)) ++ ((E.toArray.filter fun e => !seen.contains e.born).filter (·.born ≥ clock))).map some
theorem cands_spec {E : List MapEntry} {clock : Nat} {seen : Array Nat} (hlt : ∀ e ∈ E, e.born < clock) :
    0 < (cands E clock seen).size ∧ ∀ c : Nat, ∀ o, (cands E clock seen)[c]? = some o → (o = none ∧ ∀ e ∈ E, e.born ∈ seen) ∨ ∃ e, o = some e ∧ e ∈ E ∧ e.born ∉ seen := by
  have hnew : (E.toArray.filter fun e => !seen.contains e.born).filter (·.born ≥ clock) = #[] := by
    apply Array.eq_empty_of_size_eq_zero
    rw [Array.size_eq_zero_iff, Array.filter_eq_empty_iff]
    intro e he
    have := hlt e (by have := (Array.mem_filter.1 he).1; simpa using this)
    simp; omega
  have hold : (E.toArray.filter fun e => !seen.contains e.born).filter (·.born < clock) = E.toArray.filter fun e => !seen.contains e.born := by
    rw [Array.filter_eq_self]
    intro e he
    have := hlt e (by have := (Array.mem_filter.1 he).1; simpa using this)
    simp; omega
  unfold cands
  rw [hnew, hold, Array.append_empty]
  generalize hl : (E.toArray.filter fun e => !seen.contains e.born) = left
  by_cases h0 : left = #[]
  · subst h0
    refine ⟨by simp, fun c o ho => .inl ?_⟩
    have : c = 0 ∧ o = none := by
      simp at ho
      cases c with
      | zero => simpa using ho.symm
      | succ c => simp at ho
    refine ⟨this.2, fun e he => ?_⟩
    rw [Array.filter_eq_empty_iff] at hl
    have := hl e (by simpa using he)
    simpa using this
  · have hne : left.isEmpty = false := by simpa [Array.isEmpty_iff] using h0
    rw [hne]
    refine ⟨by simp; exact Nat.pos_of_ne_zero fun h => h0 (Array.eq_empty_of_size_eq_zero h), fun c o ho => .inr ?_⟩
    simp at ho
    obtain ⟨e, he, rfl⟩ := ho
    refine ⟨e, rfl, ?_⟩
    have hm : e ∈ left := Array.mem_of_getElem? he
    rw [← hl, Array.mem_filter] at hm
    exact ⟨by simpa using hm.1, by simpa using hm.2⟩
section ops
variable {X : Fx} {ops : Array Oper} {cf : Nat → Cls} {k : List Item} {i : Nat} {is : List Nat} {l : List Oper} {loc loc' : List Value} {tmp tmp' : List (Nat × Value)} {L L' F : List HP}
  {d : Option Tmp} {ty : TypeId} {pos : String} {aft : Array Edge} {gd : Option (Nat × Bool)}
theorem x_range {T kt e gm : Nat} {z : Value} {x : Operand} {es : Ents} [hT : MapTy X.P T kt e z] (hx : sv loc tmp x = some (.map (some gm))) (ht : Take (MapS gm es) L F)
    (h : ∀ g, ∃ loc' tmp', Pt loc tmp d (.pointer (some ⟨g, 0, none⟩)) loc' tmp' ∧ EO X ops cf k is l loc' tmp' (MapIt g gm es [] :: F))
    (hg : gdv ops loc tmp gd = some true := by rfl) (hd : dOK X.n d = true := by rfl) (hcl : cf i = .any := by rfl) (hq : X.q = false := by rfl) : EO X ops cf k (i :: is) (⟨d, .range T x, ty, pos, aft, gd⟩ :: l) loc tmp L :=
  x_any (Rv := fun r L'' => ∃ g, r = .pointer (some ⟨g, 0, none⟩) ∧ L'' = MapIt g gm es [] :: F) hg hcl (fun a hr w0 S0 w hs n => by
    have hs1 := (hs.wat n).perm ht.perm
    obtain ⟨S, ⟨S1, S2, ⟨hS1, E, clock, hE, hok⟩, _⟩, _⟩ := hs1.sat
    have hE' : (wat w n).heap[gm]? = some (.map E.toArray clock) := hE
    have hgo : (getObj gm).run X.P (wat w n) = .ok (.map E.toArray clock) (wat w n) := by simp [getObj, Sem.run, hE']
    have hlt : gm < (wat w n).heap.size := (Array.getElem?_eq_some_iff.1 hE').1
    simp [RunN, execOp, hr.ev hx, Instr.range, run_underlying hT.hu, hgo, newObj, Sem.run]
    rw [hq]
    have h1 : St false w0 S0 (MapIt (wat w n).heap.size gm es [] :: F) ((wat w n).alloc (.mapIter (some gm) clock #[] clock)) := by
      refine St.step (M := [MapS gm es]) (L' := [MapIt (wat w n).heap.size gm es []]) (F := F) hs1 rfl rfl rfl (by simp) fun S hS => ⟨fun x hx _ => heap_alloc_old (wat w n) _ x hx, fun x => x = (wat w n).heap.size ∨ x = gm, ?_, fun x hx => ?_⟩
      · exact sats_one ⟨by omega, fun _ => Iff.rfl, E, clock, #[], (heap_alloc_old (wat w n) _ gm hlt).trans hE', hok, heap_alloc_new (wat w n) _, by simp, by simp, by simp, by simp⟩
      · rcases hx with rfl | rfl
        · exact .inr (Nat.le_refl _)
        · exact .inl (((sats_one' hS).1 _).2 rfl)
    exact h1) hd (fun r L'' ⟨g, e1, e2⟩ => by subst e1 e2; exact h g)
theorem x_next {g gm : Nat} {x : Operand} {es : Ents} {done : List Nat} (hx : sv loc tmp x = some (.pointer (some ⟨g, 0, none⟩))) (ht : Take (MapIt g gm es done) L F)
    (hov : (∀ j, j < es.length → j ∈ done) → ∃ loc' tmp', Pt loc tmp d (.tuple #[.bool false]) loc' tmp' ∧ EO X ops cf k is l loc' tmp' (MapIt g gm es done :: F))
    (hnx : ∀ j s u, es[j]? = some (s, u) → j ∉ done → ∃ loc' tmp', Pt loc tmp d (.tuple #[.bool true, .string s, u]) loc' tmp' ∧ EO X ops cf k is l loc' tmp' (MapIt g gm es (j :: done) :: F))
    (hg : gdv ops loc tmp gd = some true := by rfl) (hd : dOK X.n d = true := by rfl) (hcl : cf i = .any := by rfl) (hq : X.q = false := by rfl) : EO X ops cf k (i :: is) (⟨d, .next x false, ty, pos, aft, gd⟩ :: l) loc tmp L :=
  x_any (Rv := fun r L'' => (r = .tuple #[.bool false] ∧ L'' = MapIt g gm es done :: F ∧ ∀ j, j < es.length → j ∈ done) ∨ ∃ j s u, es[j]? = some (s, u) ∧ j ∉ done ∧ r = .tuple #[.bool true, .string s, u] ∧ L'' = MapIt g gm es (j :: done) :: F) hg hcl (fun a hr w0 S0 w hs n => by
    have hs1 := (hs.wat n).perm ht.perm
    obtain ⟨S, ⟨S1, S2, ⟨hne, hS1, E, clock, seen, hE, hok, hI, hnd, hdl, hseen, _⟩, _⟩, _⟩ := hs1.sat
    have hE' : (wat w n).heap[gm]? = some (.map E.toArray clock) := hE
    have hI' : (wat w n).heap[g]? = some (.mapIter (some gm) clock seen clock) := hI
    have hlen : E.length = es.length := by have := congrArg List.length hok.kv; simpa using this
    have hgo : (getObj gm).run X.P (wat w n) = .ok (.map E.toArray clock) (wat w n) := by simp [getObj, Sem.run, hE']
    have hgi : (getObj g).run X.P (wat w n) = .ok (.mapIter (some gm) clock seen clock) (wat w n) := by simp [getObj, Sem.run, hI']
    have hchk : (!seen.isEmpty && !E.toArray.isEmpty && E.toArray.all (·.born ≥ clock)) = false := by
      cases E with
      | nil => simp
      | cons e E' =>
        have := hok.lt e (by simp)
        simp; intro _ h; omega
    obtain ⟨hpos, hsp⟩ := cands_spec (seen := seen) hok.lt
    have hkey : ∃ c m, c < (cands E clock seen).size ∧ (choose (.mapNext (cands E clock seen).size)).run X.P (wat w n) = .ok c (wat w m) := by
      by_cases hf : (Question.mapNext (cands E clock seen).size).forced = true
      · exact ⟨0, n, hpos, by simp [choose, Sem.run, hf]⟩
      · refine ⟨(wat w n).tape n (.mapNext (cands E clock seen).size) % (cands E clock seen).size, n + 1, Nat.mod_lt _ hpos, ?_⟩
        simp [choose, Sem.run, hf, Question.cut]; exact ⟨rfl, rfl⟩
    obtain ⟨c, m, hc, hch⟩ := hkey
    have hrun : (Instr.next (.pointer (some ⟨g, 0, none⟩)) false ty).run X.P (wat w n) = (match (cands E clock seen)[c]? with
        | some (some e) => .ok (.tuple #[.bool true, e.key, e.val]) { wat w m with heap := (wat w m).heap.setIfInBounds g (.mapIter (some gm) clock (seen.push e.born) clock) }
        | some none => .ok (.tuple #[.bool false]) (wat w m)
        | none => .halt (.stuck "Next: no such candidate") (wat w m)) := by
      have hso : ∀ o, (setObj g o).run X.P (wat w m) = .ok () { wat w m with heap := (wat w m).heap.setIfInBounds g o } := fun o => by
        have : (wat w m).heap[g]? = some (.mapIter (some gm) clock seen clock) := hI'
        simp [setObj, Sem.run, this]
      unfold Instr.next
      simp only [Sem.run_bind, hgi, Result.andThen_ok, hgo, hchk, Bool.false_eq_true, if_false, Sem.run_pure]
      have hch' := hch
      unfold cands at hch'
      rw [hch']
      simp only [Result.andThen_ok]
      show Sem.run X.P (match (cands E clock seen)[c]? with | some (some e) => _ | some none => _ | none => _) _ = _
      cases hcc : (cands E clock seen)[c]? with
      | none => simp [stuck, Sem.run]
      | some o => cases o <;> simp [hso]
    simp only [RunN, execOp, hr.ev hx, Sem.run_bind, hrun]
    have hcc : ∃ o, (cands E clock seen)[c]? = some o := ⟨_, Array.getElem?_eq_getElem hc⟩
    obtain ⟨o, ho⟩ := hcc
    rw [ho]
    rcases hsp c o ho with ⟨rfl, hall⟩ | ⟨e, rfl, he, hns⟩
    · simp only [Result.andThen_ok, Sem.run_pure]
      refine ⟨_, Or.inl ⟨by trivial, rfl, fun j hj => ?_⟩, hs1.wat m⟩
      have hj' : j < E.length := by omega
      obtain ⟨j', e', hj1, he', hb⟩ := (hseen _).1 (hall E[j] (List.getElem_mem hj'))
      obtain ⟨hjl, he'⟩ := List.getElem?_eq_some_iff.1 he'
      have : j' = j := by
        refine (List.getElem_inj (xs := E.map (·.born)) (h₀ := by simpa using hjl) (h₁ := by simpa using hj') hok.bn).1 ?_
        simp [he', hb]
      rw [← this]; exact hj1
    · simp only [Result.andThen_ok, Sem.run_pure]
      obtain ⟨j, hj⟩ := List.getElem?_of_mem he
      have hjE : j < E.length := (List.getElem?_eq_some_iff.1 hj).1
      have hkv := congrArg (·[j]?) hok.kv
      simp only [List.getElem?_map, hj, Option.map_some] at hkv
      obtain ⟨⟨s, u⟩, hes⟩ : ∃ p, es[j]? = some p := ⟨_, List.getElem?_eq_getElem (by omega)⟩
      rw [hes] at hkv
      simp only [Option.map_some, Option.some.injEq, Prod.mk.injEq] at hkv
      obtain ⟨hk1, hk2⟩ := hkv
      have hjd : j ∉ done := fun hjd => hns ((hseen _).2 ⟨j, e, hjd, hj, rfl⟩)
      rw [hk1, hk2]
      refine ⟨_, Or.inr ⟨j, s, u, hes, hjd, by trivial, rfl⟩, ?_⟩
      rw [hq]
      have hgl : g < (wat w m).heap.size := (Array.getElem?_eq_some_iff.1 hI').1
      have hs2 : St X.q w0 S0 (MapIt g gm es done :: F) (wat w m) := hs1.wat m
      refine St.step (M := [MapIt g gm es done]) (L' := [MapIt g gm es (j :: done)]) (F := F) hs2 rfl rfl rfl (by simp) fun S hS => ?_
      have h1 := sats_one' hS
      refine ⟨fun x hx hn => ?_, S, sats_one ⟨hne, h1.2.1, E, clock, seen.push e.born, ?_, hok, ?_, ?_, ?_, ?_, fun j' hj' => by simp at hj'; subst hj'; exact ⟨e, hj, by simp⟩⟩, fun x hx => .inl hx⟩
      · have : g ≠ x := fun e => hn ((h1.2.1 x).2 (.inl e.symm))
        simp [Array.getElem?_setIfInBounds_ne this]
      · show (Array.setIfInBounds _ _ _)[gm]? = _
        rw [Array.getElem?_setIfInBounds_ne hne]; exact hE'
      · show (Array.setIfInBounds _ _ _)[g]? = _
        rw [Array.getElem?_setIfInBounds_self_of_lt hgl]
      · exact List.nodup_cons.2 ⟨hjd, hnd⟩
      · intro q hq'
        rcases List.mem_cons.1 hq' with rfl | hq'
        · omega
        · exact hdl q hq'
      · intro b
        rw [Array.mem_push, hseen b]
        constructor
        · rintro (⟨j', e', a1, a2, a3⟩ | rfl)
          · exact ⟨j', e', List.mem_cons_of_mem _ a1, a2, a3⟩
          · exact ⟨j, e, List.mem_cons_self .., hj, rfl⟩
        · rintro ⟨j', e', a1, a2, a3⟩
          rcases List.mem_cons.1 a1 with rfl | a1
          · rw [hj] at a2; cases a2; exact .inr a3.symm
          · exact .inl ⟨j', e', a1, a2, a3⟩) hd (fun r L'' hR => by
        rcases hR with ⟨rfl, rfl, h1⟩ | ⟨j, s, u, h1, h2, rfl, rfl⟩
        · exact hov h1
        · exact hnx j s u h1 h2)
end ops
/-! ### one part taken for another -/
theorem E.know {X : Fx} {k : List Item} {loc : List Value} {tmp : List (Nat × Value)} {A : HP} {p : Prop} {L F : List HP} (ht : Take A L F) (hA : ∀ m S, A.sat m S → p) (h : p → E X k loc tmp L) : E X k loc tmp L :=
  fun w0 S0 a w hr hs => by
    obtain ⟨S, ⟨S1, _, h1, _⟩, _⟩ := (hs.perm ht.perm).sat
    exact h (hA _ _ h1) w0 S0 a w hr hs
theorem E.drop {X : Fx} {k : List Item} {loc : List Value} {tmp : List (Nat × Value)} {A : HP} {L F : List HP} (ht : Take A L F) (h : E X k loc tmp F) : E X k loc tmp L :=
  fun w0 S0 a w hr hs => by
    refine h w0 S0 a w hr ?_
    have hs := hs.perm ht.perm
    obtain ⟨S, ⟨S1, S2, h1, h2, hd, hu⟩, hin⟩ := hs.sat
    exact ⟨hs.same, hs.os, hs.tape, hs.output, hs.size, hs.old, S2, h2, fun x hx => hin x ((hu x).2 (.inr hx))⟩
theorem MapIt.over {g gm : Nat} {es : Ents} {done : List Nat} {m : Mem} {S : Nat → Prop} (h : (MapIt g gm es done).sat m S) : ∃ S', (MapS gm es).sat m S' ∧ ∀ x, S' x → S x := by
  obtain ⟨_, hS, E, c, _, h1, h2, _⟩ := h
  exact ⟨fun x => x = gm, ⟨fun _ => Iff.rfl, E, c, h1, h2⟩, fun x hx => (hS x).2 (.inr hx)⟩
theorem MapS.know {g : Nat} {es : Ents} {m : Mem} {S : Nat → Prop} (h : (MapS g es).sat m S) : (es.map (·.1)).Nodup := by
  obtain ⟨_, E, c, _, h2⟩ := h
  exact h2.nd
theorem Own.know {A : Option Addr} {c e sz n : Nat} {vs : List Value} {m : Mem} {S : Nat → Prop} (h : (Own A c e sz n vs).sat m S) : vs.length = n * sz ∧ n ≤ c ∧ (A = none → c = 0) ∧ ∀ a, A = some a → ∃ g, a = ⟨g, 0, none⟩ := by
  obtain ⟨h1, h2, _, ⟨rfl, h3, _⟩ | ⟨g, _, rfl, _⟩⟩ := h
  · exact ⟨h1, h2, fun _ => h3, fun _ h => by cases h⟩
  · exact ⟨h1, h2, fun h => (by cases h), fun a h => ⟨g, by cases h; rfl⟩⟩
theorem CellRow.own {g c e sz n : Nat} {vs : List Value} {L : List HP} : CellRow (Own (some ⟨g, 0, none⟩) c e sz n vs :: L) g 0 vs := by
  intro j v hj m S ⟨S1, S2, h1, _⟩
  obtain ⟨_, _, _, ⟨h, _⟩ | ⟨g', junk, hA, _, hg, _⟩⟩ := h1
  · cases h
  · cases hA
    have hjl := (List.getElem?_eq_some_iff.1 hj).1
    exact ⟨_, _, _, hg, by rw [Nat.zero_add, List.getElem?_toArray, List.getElem?_append_left hjl]; exact hj⟩
theorem Cell.own {g c e sz n o : Nat} {vs : List Value} {v : Value} {L : List HP} (h : vs[o]? = some v) : Cell (Own (some ⟨g, 0, none⟩) c e sz n vs :: L) g o v := by
  have := (CellRow.own (g := g) (c := c) (e := e) (sz := sz) (n := n) (L := L)) o v h
  simpa using this
theorem e_join {X : Fx} {k : List Item} {loc : List Value} {tmp : List (Nat × Value)} {L : List HP} {c : Operand} {x y : Code} {t : Bool} {ι : Type} (loI : ι → List Value) (LI : ι → List HP) (PI : ι → Prop) (hc : sv loc tmp c = some (.bool t))
    (rest : ∀ i, PI i → E X k (loI i) [] (LI i))
    (ht : t = true → (∀ i, PI i → E X k (loI i) [] (LI i)) → E X (.code x :: k) loc tmp L) (hf : t = false → (∀ i, PI i → E X k (loI i) [] (LI i)) → E X (.code y :: k) loc tmp L) : E X (.code (.cond c x y) :: k) loc tmp L :=
  e_cond hc (fun h => ht h rest) (fun h => hf h rest)
theorem E.to {X : Fx} {k : List Item} {loc loc' : List Value} {tmp : List (Nat × Value)} {L L' : List HP} (h : E X k loc' [] L') (hl : loc = loc') (hL : L = L') : E X k loc tmp L := by
  subst hl; subst hL; exact h.forget
theorem EO.at_ {X : Fx} {ops : Array Oper} {cf : Nat → Cls} {k : List Item} {is : List Nat} {l : List Oper} {loc : List Value} {tmp : List (Nat × Value)} {L F : List HP} {B : HP} (ht : Take B L F) (h : EO X ops cf k is l loc tmp L) : EO X ops cf k is l loc tmp (B :: F) :=
  fun hl w0 S0 a w hr hs => h hl w0 S0 a w hr (hs.perm ht.perm.symm)
theorem E.at_ {X : Fx} {k : List Item} {loc : List Value} {tmp : List (Nat × Value)} {L F : List HP} {B : HP} (ht : Take B L F) (h : E X k loc tmp L) : E X k loc tmp (B :: F) :=
  fun w0 S0 a w hr hs => h w0 S0 a w hr (hs.perm ht.perm.symm)
end Go.Proofs.YtppkiiomedembaaGreatDoor
