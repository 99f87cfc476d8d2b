/-
  A walk by symbolic states, layer 5: more operations; The orders in which the regions that draw are walked; A walk by symbolic states, layer 4: rules that find what they ask for; The walks: the disk in memory, and the writer's small functions; The walks: the writer's small functions. Conditions: none.
-/
import Derived.Test.YtppkiiomedembaaGreatDoorM02
import Derived.Test.YtppkiiomedembaaGreatDoorM01
import Derived.Test.YtppkiiomedembaaGreatDoorProg
set_option linter.unusedVariables false
set_option linter.unusedSimpArgs false
namespace Go.Proofs.YtppkiiomedembaaGreatDoor
open Go
section ops
variable {X : Fx} {ops : Array Oper} {cf : Nat → Cls} {k : List Item} {i : Nat} {is : List Nat} {l : List Oper} {loc loc' : List Value} {tmp tmp' : List (Nat × Value)} {L L' F : List HP}
  {d : Option Tmp} {ty : TypeId} {pos : String} {aft : Array Edge} {gd : Option (Nat × Bool)}
theorem x_idxA {t n e sz a : Nat} {x y : Operand} {K : IntKind} {p : Int} {cs us : List Value} [hv : NatV p a] [ha : ArrTy X.P t n e sz] [hag : AggSz X.P e sz] (hx : sv loc tmp x = some (.agg cs.toArray)) (hy : sv loc tmp y = some (.int K p)) (hn : a < n) (hu : (cs.drop (a * sz)).take sz = us)
    (hp : Pt loc tmp d (.agg us.toArray) loc' tmp') (h : EO X ops cf k is l loc' tmp' L)
    (hg : gdv ops loc tmp gd = some true := by rfl) (hd : dOK X.n d = true := by rfl) : EO X ops cf k (i :: is) (⟨d, .index t x y, ty, pos, aft, gd⟩ :: l) loc tmp L :=
  x_pure hg (fun A hr w => by
    obtain ⟨hu', j, hj, hz⟩ := ArrTy.out (P := X.P) (T := t) (n := n) (e := e) (sz := sz)
    obtain ⟨dd, j', hdd, hd2, hj', hz'⟩ := AggSz.out (P := X.P) (T := e) (n := sz)
    have hisag : (isAgg e).run X.P w = .ok true w := by
      unfold isAgg
      simp only [Sem.run_bind, run_underlying hdd, Result.andThen_ok]
      cases dd <;> simp_all
    subst hu
    have h0 : (0 : Int) ≤ a := by omega
    have h1 : (a : Int) < n := by omega
    simp [execOp, hr.ev hx, hr.ev hy, hv.h, Instr.index, asIntOf, run_underlying hu', h0, h1, hn, part, hisag, sizeOf, typeInfo, hj, hz, List.extract_eq_take_drop]) hp hd h
theorem x_min {t : TypeId} {K : IntKind} {x y : Operand} {p q : Int} {a b : Nat} [hpa : NatV p a] [hqb : NatV q b] (hx : sv loc tmp x = some (.int K p)) (hy : sv loc tmp y = some (.int K q)) (hp : Pt loc tmp d (.int K ((min a b : Nat) : Int)) loc' tmp') (h : EO X ops cf k is l loc' tmp' L)
    (hg : gdv ops loc tmp gd = some true := by rfl) (hd : dOK X.n d = true := by rfl) : EO X ops cf k (i :: is) (⟨d, .call ⟨.builtin .min, #[x, y], #[t, t]⟩, ty, pos, aft, gd⟩ :: l) loc tmp L :=
  x_pure hg (fun A hr w => by
    have : (if q < p then q else p) = ((min a b : Nat) : Int) := by rw [hpa.h, hqb.h]; split <;> omega
    simp [execOp, resolve, invoke, builtin, Builtin.min_, Builtin.min2, hr.ev hx, hr.ev hy, this]) hp hd h
theorem x_max {t : TypeId} {K : IntKind} {x y : Operand} {p q : Int} {a b : Nat} [hpa : NatV p a] [hqb : NatV q b] (hx : sv loc tmp x = some (.int K p)) (hy : sv loc tmp y = some (.int K q)) (hp : Pt loc tmp d (.int K ((max a b : Nat) : Int)) loc' tmp') (h : EO X ops cf k is l loc' tmp' L)
    (hg : gdv ops loc tmp gd = some true := by rfl) (hd : dOK X.n d = true := by rfl) : EO X ops cf k (i :: is) (⟨d, .call ⟨.builtin .max, #[x, y], #[t, t]⟩, ty, pos, aft, gd⟩ :: l) loc tmp L :=
  x_pure hg (fun A hr w => by
    have : (if p < q then q else p) = ((max a b : Nat) : Int) := by rw [hpa.h, hqb.h]; split <;> omega
    simp [execOp, resolve, invoke, builtin, Builtin.max_, Builtin.max2, hr.ev hx, hr.ev hy, this]) hp hd h
theorem x_cap {t : TypeId} {e sz : Nat} {x : Operand} {A : Option Addr} {n c : Nat} [SlTy X.P t e sz] (hx : sv loc tmp x = some (.slice A n c)) (hp : Pt loc tmp d (.int .i64 c) loc' tmp') (h : EO X ops cf k is l loc' tmp' L)
    (hg : gdv ops loc tmp gd = some true := by rfl) (hd : dOK X.n d = true := by rfl) : EO X ops cf k (i :: is) (⟨d, .call ⟨.builtin .cap, #[x], #[t]⟩, ty, pos, aft, gd⟩ :: l) loc tmp L :=
  x_pure hg (fun a hr w => by
    obtain ⟨hu, _⟩ := SlTy.out (P := X.P) (T := t) (e := e) (sz := sz)
    simp [execOp, resolve, invoke, builtin, Builtin.cap_, hr.ev hx, run_underlying hu, goInt]) hp hd h
theorem x_entry {g gm j : Nat} {x : Operand} {es : Ents} {done : List Nat} {s : ByteArray} {u : Value} (hx : sv loc tmp x = some (.pointer (some ⟨g, 0, none⟩))) (ht : Take (MapIt g gm es (j :: done)) L F) (he : es[j]? = some (s, u))
    (hp : Pt loc tmp d (.tuple #[.string s, u]) loc' tmp') (h : EO X ops cf k is l loc' tmp' L)
    (hg : gdv ops loc tmp gd = some true := by rfl) (hd : dOK X.n d = true := by rfl) (hcl : (cf i).reads = true := by rfl) : EO X ops cf k (i :: is) (⟨d, .entry x, ty, pos, aft, gd⟩ :: l) loc tmp L :=
  x_read hg hcl (fun a hr w0 S0 w hs n => by
    have hs1 := (hs.wat n).perm ht.perm
    obtain ⟨S, ⟨S1, S2, ⟨hne, hS1, E, clock, seen, hE, hok, hI, hnd, hdl, hseen, hb⟩, _⟩, _⟩ := hs1.sat
    have hE' : (wat w n).heap[gm]? = some (.map E.toArray clock) := hE
    have hI' : (wat w n).heap[g]? = some (.mapIter (some gm) clock seen clock) := hI
    have hgo : (getObj gm).run X.P (wat w n) = .ok (.map E.toArray clock) (wat w n) := by simp [getObj, Sem.run, hE']
    have hgi : (getObj g).run X.P (wat w n) = .ok (.mapIter (some gm) clock seen clock) (wat w n) := by simp [getObj, Sem.run, hI']
    obtain ⟨e, h1, h2⟩ := hb j rfl
    have hkv := congrArg (·[j]?) hok.kv
    simp only [List.getElem?_map, h1, he, Option.map_some, Option.some.injEq, Prod.mk.injEq] at hkv
    have hf : E.find? (·.born == e.born) = some e := by
      obtain ⟨hjl, hje⟩ := List.getElem?_eq_some_iff.1 h1
      rw [List.find?_eq_some_iff_getElem]
      refine ⟨by simp, j, hjl, hje, fun q hq => ?_⟩
      simp only [Bool.not_eq_true', beq_eq_false_iff_ne, ne_eq]
      intro hc
      have : q = j := by
        refine (List.getElem_inj (xs := E.map (·.born)) (h₀ := by simpa using (Nat.lt_trans hq hjl)) (h₁ := by simpa using hjl) hok.bn).1 ?_
        simp only [List.getElem_map, hje]; exact hc
      omega
    simp [RunN, execOp, hr.ev hx, Instr.entry, hgo, hgi, h2, hf, hkv.1, hkv.2]
    exact nrm_wat w n) hp hd h
theorem is_min {xs : Array Operand} {tys : Array TypeId} (h : EO X ops cf k (i :: is) (⟨d, .call ⟨.builtin .min, xs, tys⟩, ty, pos, aft, gd⟩ :: l) loc tmp L) : EO X ops cf k (i :: is) (⟨d, .call ⟨.builtin .min, xs, tys⟩, ty, pos, aft, gd⟩ :: l) loc tmp L := h
theorem is_max {xs : Array Operand} {tys : Array TypeId} (h : EO X ops cf k (i :: is) (⟨d, .call ⟨.builtin .max, xs, tys⟩, ty, pos, aft, gd⟩ :: l) loc tmp L) : EO X ops cf k (i :: is) (⟨d, .call ⟨.builtin .max, xs, tys⟩, ty, pos, aft, gd⟩ :: l) loc tmp L := h
theorem is_cap {xs : Array Operand} {tys : Array TypeId} (h : EO X ops cf k (i :: is) (⟨d, .call ⟨.builtin .cap, xs, tys⟩, ty, pos, aft, gd⟩ :: l) loc tmp L) : EO X ops cf k (i :: is) (⟨d, .call ⟨.builtin .cap, xs, tys⟩, ty, pos, aft, gd⟩ :: l) loc tmp L := h
theorem is_entry {x : Operand} (h : EO X ops cf k (i :: is) (⟨d, .entry x, ty, pos, aft, gd⟩ :: l) loc tmp L) : EO X ops cf k (i :: is) (⟨d, .entry x, ty, pos, aft, gd⟩ :: l) loc tmp L := h
theorem is_makeFunc {fn : Go.Fn} {xs ys : Array Operand} (h : EO X ops cf k (i :: is) (⟨d, .makeFunc fn xs ys, ty, pos, aft, gd⟩ :: l) loc tmp L) : EO X ops cf k (i :: is) (⟨d, .makeFunc fn xs ys, ty, pos, aft, gd⟩ :: l) loc tmp L := h
theorem is_field {T j : Nat} {x : Operand} (h : EO X ops cf k (i :: is) (⟨d, .field T x j, ty, pos, aft, gd⟩ :: l) loc tmp L) : EO X ops cf k (i :: is) (⟨d, .field T x j, ty, pos, aft, gd⟩ :: l) loc tmp L := h
end ops
inductive Cut : List Value → Nat → Nat → List Value → Prop where
  | nil {cs : List Value} : Cut cs 0 0 []
  | skip {c : Value} {cs vs : List Value} {o n : Nat} : Cut cs o n vs → Cut (c :: cs) (o + 1) n vs
  | take {c : Value} {cs vs : List Value} {n : Nat} : Cut cs 0 n vs → Cut (c :: cs) 0 (n + 1) (c :: vs)
theorem Cut.spec {cs vs : List Value} {o n : Nat} (h : Cut cs o n vs) : vs.length = n ∧ ∀ (j : Nat) (v : Value), vs[j]? = some v → cs[o + j]? = some v := by
  induction h with
  | nil => exact ⟨rfl, fun j v h => by simp at h⟩
  | skip _ ih => exact ⟨ih.1, fun j v h => by have := ih.2 j v h; rw [Nat.add_right_comm]; simpa using this⟩
  | take _ ih => exact ⟨by simp [ih.1], fun j v h => by cases j with | zero => simpa using h | succ j => have := ih.2 j v (by simpa using h); simpa using this⟩
inductive Rows : List HP → Nat → Nat → Nat → List Value → Prop where
  | here {g o n : Nat} {t : TypeId} {cs vs : List Value} {L : List HP} : Cut cs o n vs → Rows (Cells g t cs :: L) g o n vs
  | there {g o n : Nat} {vs : List Value} {A : HP} {L : List HP} : Rows L g o n vs → Rows (A :: L) g o n vs
theorem Rows.row {L : List HP} {g o n : Nat} {vs : List Value} (h : Rows L g o n vs) : CellRow L g o vs ∧ vs.length = n := by
  induction h with
  | @here g o n t cs vs L hc =>
    refine ⟨fun j v hj => ?_, hc.spec.1⟩
    have := hc.spec.2 j v hj
    intro h S hs
    have h1 := (CellRow.here (g := g) (t := t) (cs := cs) (L := L)) (o + j) v this h S hs
    simpa using h1
  | there _ ih => exact ⟨ih.1.there, ih.2⟩
section ops
variable {X : Fx} {ops : Array Oper} {cf : Nat → Cls} {k : List Item} {i : Nat} {is : List Nat} {l : List Oper} {loc loc' : List Value} {tmp tmp' : List (Nat × Value)} {L L' F : List HP}
  {d : Option Tmp} {ty : TypeId} {pos : String} {aft : Array Edge} {gd : Option (Nat × Bool)}
theorem x_loadS {T n g o : Nat} {x : Operand} {vs : List Value} [AggSz X.P T n] (hx : sv loc tmp x = some (.pointer (some ⟨g, o, none⟩))) (hc : Rows L g o n vs) (hp : Pt loc tmp d (.agg vs.toArray) loc' tmp') (h : EO X ops cf k is l loc' tmp' L)
    (hg : gdv ops loc tmp gd = some true := by rfl) (hd : dOK X.n d = true := by rfl) (hcl : (cf i).reads = true := by rfl) : EO X ops cf k (i :: is) (⟨d, .load T x, ty, pos, aft, gd⟩ :: l) loc tmp L :=
  x_loadA hx hc.row.1 hc.row.2 hp h hg hd hcl
end ops
section
variable {X : Fx} {k : List Item} {loc : List Value} {tmp : List (Nat × Value)} {L F M : List HP}
theorem results_cell {fn : Func} {p T n g o : Nat} {vs : List Value} [AggSz X.P T n] (hts : fn.results = #[.cell p T]) {m : Nat} {a : Act} (hr : Rel m loc tmp a) (hx : sv loc tmp (.tmp p) = some (.pointer (some ⟨g, o, none⟩))) (hc : CellRow L g o vs) (hn : vs.length = n)
    {q : Bool} {w0 w : World} {S0 : Nat → Prop} (hs : St q w0 S0 L w) : (results fn a.tmps).run X.P w = .ok (.agg vs.toArray) w := by
  obtain ⟨dd, j, hu, hdd, hj, hz⟩ := AggSz.out (P := X.P) (T := T) (n := n)
  have hag : (isAgg T).run X.P w = .ok true w := by
    unfold isAgg
    simp only [Sem.run_bind, run_underlying hu, Result.andThen_ok]
    cases dd <;> simp_all
  have hl : (loadCells ⟨g, o, none⟩ vs.length).run X.P w = .ok vs.toArray w :=
    run_loadCells_list (P := X.P) w ⟨g, o, none⟩ vs (fun j v hv => by rw [add_at]; exact (hc j v hv).at_ hs)
  rw [hn] at hl
  have hg : a.tmps.getD p undef = .pointer (some ⟨g, o, none⟩) := tmps_getD hr hx
  unfold results
  rw [hts]
  rw [Array.getD_eq_getD_getElem?] at hg
  simp [hg, asAddr, loadVar, hag, sizeOf, typeInfo, hj, hz, hl]
theorem e_retC {p T n g o : Nat} {vs : List Value} [AggSz X.P T n] (hts : X.fn.results = #[.cell p T]) (hx : sv loc tmp (.tmp p) = some (.pointer (some ⟨g, o, none⟩))) (hc : CellRow L g o vs) (hn : vs.length = n) (h : ∃ M F, X.R (.agg vs.toArray) M ∧ Subs M L F) : E X (.code .ret :: k) loc tmp L := by
  obtain ⟨M, F, h, hsub⟩ := h
  exact fun w0 S0 a w hr hs => tt_leave X.hf hr.defers (fun m => results_cell hts hr hx hc hn (hs.wat m)) ⟨M, h, (hs.some hsub).nrm⟩
end
section ops
variable {X : Fx} {ops : Array Oper} {cf : Nat → Cls} {k : List Item} {i : Nat} {is : List Nat} {l : List Oper} {loc loc' : List Value} {tmp tmp' : List (Nat × Value)} {L L' F : List HP}
  {d : Option Tmp} {ty : TypeId} {pos : String} {aft : Array Edge} {gd : Option (Nat × Bool)}
theorem x_catT {T T' : Nat} {x y : Operand} {s t : List UInt8} (hx : sv loc tmp x = some (.string (str s))) (hy : sv loc tmp y = some (.string (str t))) (hn : s.length + t.length ≤ 9223372036854775807)
    (hp : Pt loc tmp d (.string (str (s ++ t))) loc' tmp') (h : EO X ops cf k is l loc' tmp' L)
    (hg : gdv ops loc tmp gd = some true := by rfl) (hd : dOK X.n d = true := by rfl) : EO X ops cf k (i :: is) (⟨d, .binOp .add T x y T', ty, pos, aft, gd⟩ :: l) loc tmp L :=
  x_cat hx hy (by rw [str_size, str_size]; exact hn) (by
    have : str s ++ str t = str (s ++ t) := by apply ByteArray.ext; simp [str]
    rw [this]; exact hp) h hg hd
end ops
theorem and_not3 (a : Nat) (h : a < 9223372036854775808) : (BitVec.ofNat 64 a &&& ~~~ (BitVec.ofNat 64 3)).toNat = a / 4 * 4 := by
  apply Nat.eq_of_testBit_eq
  intro i
  have e : a / 4 * 4 = (a >>> 2) <<< 2 := by rw [Nat.shiftRight_eq_div_pow, Nat.shiftLeft_eq]
  rw [e, BitVec.toNat_and, Nat.testBit_and, Nat.testBit_shiftLeft, Nat.testBit_shiftRight, BitVec.toNat_ofNat, Nat.mod_eq_of_lt (by omega)]
  by_cases hi : i < 2
  · rcases (show i = 0 ∨ i = 1 by omega) with rfl | rfl
    · simp
    · have : Nat.testBit 18446744073709551612 1 = false := by decide
      simp [this]
  · rw [show 2 + (i - 2) = i by omega]
    have h2 : decide (i ≥ 2) = true := by simp; omega
    rw [h2, Bool.true_and]
    by_cases hb : i < 64
    · have : (~~~(BitVec.ofNat 64 3)).toNat.testBit i = true := by
        rw [BitVec.testBit_toNat, BitVec.getLsbD_not, BitVec.getLsbD_ofNat]
        have h3 : Nat.testBit 3 i = false := by
          apply Nat.testBit_lt_two_pow
          exact Nat.lt_of_lt_of_le (by decide : 3 < 2 ^ 2) (Nat.pow_le_pow_right (by decide) (by omega))
        simp [hb, h3]
      rw [this, Bool.and_true]
    · have : a.testBit i = false := by
        apply Nat.testBit_lt_two_pow
        exact Nat.lt_of_lt_of_le (show a < 2 ^ 63 by omega) (Nat.pow_le_pow_right (by decide) (by omega))
      rw [this, Bool.false_and]
theorem bAndNot3 {p : Int} {a : Nat} [hp : NatV p a] (ha : a < 9223372036854775808) : binI .andNot .i64 p 3 = some (.int .i64 ((a / 4 * 4 : Nat) : Int)) := by
  have h1 := and_not3 a ha
  have h2 : (BitVec.ofInt 64 (3 : Int)) = BitVec.ofNat 64 3 := rfl
  rw [hp.h]
  have h3 : binI .andNot .i64 (a : Int) 3 = some (.int .i64 (IntKind.i64.wrap ((BitVec.ofNat 64 a &&& ~~~ (BitVec.ofNat 64 3)).toNat : Int))) := by
    show some (Value.int .i64 (IntKind.i64.wrap (((BitVec.ofInt 64 (a : Int) &&& ~~~ (BitVec.ofInt 64 3)).toNat : Nat) : Int))) = _
    rw [ofInt_nat, h2]
  rw [h3, h1, wi64 (by omega) (by omega)]
end Go.Proofs.YtppkiiomedembaaGreatDoor
namespace Go.Proofs.YtppkiiomedembaaGreatDoor
open Go
class DrawD (f id : Nat) (cs : outParam (List Cls)) (M pi : outParam (List Nat)) : Prop where t : True
class PairD (f id : Nat) (cs : outParam (List Cls)) (M pre : outParam (List Nat)) (x y : outParam Nat) (post : outParam (List Nat)) : Prop where t : True
class PlanD (f id : Nat) (cs : outParam (List Cls)) (M pi seq : outParam (List Nat)) (p : outParam Pln) : Prop where t : True
class KeepT (f : Nat) (ks : outParam (List Nat)) : Prop where t : True
instance : DrawD 3 26 [.pure, .pure, .pure, .read, .pure, .pure, .pure, .read, .pure, .pure, .pure, .pure, .read, .pure, .pure, .pure, .read, .read, .pure, .read, .pure, .pure, .pure] [0, 1, 3, 7, 3, 31, 63, 127, 255, 511, 1023, 2047, 4095, 2047, 16383, 32767, 65535, 131071, 2047, 264191, 1048575, 2097151, 4194303] [0, 1, 2, 3, 4, 5, 6, 7, 8, 9, 10, 11, 12, 13, 14, 15, 16, 17, 18, 19, 20, 21, 22] := ⟨trivial⟩
instance : DrawD 4 7 [.pure, .pure, .pure, .pure, .new, .any, .pure, .pure, .pure, .pure, .pure] [0, 0, 0, 6, 14, 31, 0, 0, 192, 63, 1023] [0, 1, 2, 3, 6, 7, 8, 4, 5, 9, 10] := ⟨trivial⟩
instance : DrawD 6 5 [.pure, .pure, .pure, .pure, .read, .pure, .pure, .pure, .pure] [0, 0, 2, 6, 14, 30, 62, 1, 255] [0, 1, 2, 3, 4, 5, 6, 7, 8] := ⟨trivial⟩
instance : DrawD 7 2 [.pure, .pure, .pure, .read, .pure, .pure, .pure, .read, .pure, .pure, .new, .pure] [0, 1, 3, 7, 0, 16, 48, 112, 255, 511, 1023, 2047] [0, 1, 2, 3, 4, 5, 6, 7, 8, 9, 10, 11] := ⟨trivial⟩
instance : DrawD 7 26 [.read, .pure, .read, .pure, .pure, .read, .pure, .read, .any, .any] [0, 0, 2, 0, 0, 16, 56, 120, 255, 511] [0, 1, 2, 3, 4, 5, 6, 7, 8, 9] := ⟨trivial⟩
instance : DrawD 10 20 [.pure, .pure, .read, .pure, .read, .new, .any, .pure] [0, 0, 2, 0, 8, 24, 63, 127] [0, 1, 2, 3, 4, 5, 6, 7] := ⟨trivial⟩
instance : DrawD 10 38 [.pure, .pure, .pure, .pure, .read, .pure, .pure, .pure] [0, 0, 2, 6, 14, 1, 33, 127] [0, 1, 2, 3, 4, 5, 6, 7] := ⟨trivial⟩
instance : PairD 11 5 [.pure, .read, .any, .pure, .pure, .read, .any, .pure, .any, .pure, .pure, .any] [0, 1, 3, 0, 8, 24, 63, 63, 255, 511, 1023, 2047] [0, 1, 3, 4] 2 5 [7, 6, 8, 9, 10, 11] := ⟨trivial⟩
instance : DrawD 12 18 [.pure, .pure, .pure, .pure, .read, .pure, .pure, .pure, .pure, .pure, .read, .pure, .pure, .pure, .pure, .pure, .read, .any] [0, 0, 2, 6, 14, 30, 62, 126, 254, 510, 1022, 2046, 4094, 0, 8192, 24576, 57344, 131071] [0, 1, 2, 3, 4, 5, 6, 7, 8, 9, 10, 11, 12, 13, 14, 15, 16, 17] := ⟨trivial⟩
instance : DrawD 12 19 [.pure, .pure, .pure, .pure, .read, .pure, .pure, .pure, .pure, .pure, .read, .pure, .pure, .pure, .pure, .pure, .read, .any] [0, 0, 2, 6, 14, 30, 62, 126, 254, 510, 1022, 2046, 4094, 0, 8192, 24576, 57344, 131071] [0, 1, 2, 3, 4, 5, 6, 7, 8, 9, 10, 11, 12, 13, 14, 15, 16, 17] := ⟨trivial⟩
instance : DrawD 12 20 [.pure, .pure, .pure, .pure, .read, .pure, .pure, .pure, .pure, .pure, .read, .pure, .pure, .pure, .pure, .pure, .pure, .read, .pure, .pure, .pure, .read, .pure, .pure, .pure, .pure, .pure, .pure, .pure, .read, .any] [0, 0, 2, 6, 14, 30, 62, 126, 254, 510, 1022, 2046, 4094, 8190, 16382, 32766, 65534, 131070, 16382, 278526, 802814, 1851390, 3948542, 8388606, 16777214, 33554430, 0, 67108864, 201326592, 469762048, 1073741823] [0, 1, 2, 3, 4, 5, 6, 7, 8, 9, 10, 11, 12, 13, 14, 15, 16, 17, 18, 19, 20, 21, 22, 23, 24, 25, 26, 27, 28, 29, 30] := ⟨trivial⟩
instance : DrawD 12 21 [.pure, .pure, .pure, .pure, .read, .pure, .pure, .pure, .pure, .pure, .read, .pure, .pure, .pure, .pure, .pure, .read, .any] [0, 0, 2, 6, 14, 30, 62, 126, 254, 510, 1022, 2046, 4094, 0, 8192, 24576, 57344, 131071] [0, 1, 2, 3, 4, 5, 6, 7, 8, 9, 10, 11, 12, 13, 14, 15, 16, 17] := ⟨trivial⟩
instance : DrawD 12 22 [.pure, .pure, .pure, .pure, .read, .pure, .pure, .pure, .pure, .pure, .read, .pure, .pure, .pure, .pure, .pure, .pure, .pure, .pure, .pure, .read, .any] [0, 0, 2, 6, 14, 30, 62, 126, 254, 510, 1022, 126, 2174, 6270, 14462, 32766, 65534, 0, 131072, 393216, 917504, 2097151] [0, 1, 2, 3, 4, 5, 6, 7, 8, 9, 10, 11, 12, 13, 14, 15, 16, 17, 18, 19, 20, 21] := ⟨trivial⟩
instance : DrawD 12 25 [.pure, .pure, .pure, .pure, .read, .pure, .pure, .pure, .read, .pure, .pure, .pure, .pure, .pure, .read, .pure, .pure, .pure, .any] [0, 0, 2, 6, 14, 0, 32, 96, 224, 510, 1022, 0, 2048, 6144, 14336, 32766, 65535, 131071, 262143] [0, 1, 2, 3, 4, 5, 6, 7, 8, 9, 10, 11, 12, 13, 14, 15, 16, 17, 18] := ⟨trivial⟩
instance : DrawD 12 26 [.pure, .pure, .read, .pure, .pure, .pure, .read, .pure, .pure, .pure, .read, .pure, .pure, .pure, .read, .any] [0, 0, 2, 0, 8, 24, 56, 0, 128, 384, 896, 2040, 4094, 0, 8198, 32767] [0, 1, 2, 3, 4, 5, 6, 7, 8, 9, 10, 11, 12, 13, 14, 15] := ⟨trivial⟩
instance : PlanD 15 2 [.new, .pure, .read, .pure, .pure, .new, .new, .pure, .read, .pure, .pure, .new, .pure, .pure] [0, 0, 2, 0, 14, 31, 0, 0, 128, 0, 896, 2047, 4095, 8191] [1, 2, 3, 4, 7, 8, 9, 10, 0, 5, 6, 11, 12, 13] [1, 2, 3, 4, 7, 8, 9, 10] (.two 0 (.ones [] (.two 5 (.ones [6, 11, 12, 13] .nil) 6 (.ones [5, 11, 12, 13] .nil))) 6 (.ones [0, 5, 11, 12, 13] .nil)) := ⟨trivial⟩
instance : PairD 15 6 [.pure, .pure, .read, .pure, .pure, .any, .pure, .pure, .read, .pure, .pure, .any, .pure, .any, .pure, .any] [0, 0, 2, 0, 14, 31, 0, 0, 128, 0, 896, 2047, 447, 8191, 16383, 32767] [0, 1, 2, 3, 4, 6, 7, 9] 5 8 [10, 12, 11, 13, 14, 15] := ⟨trivial⟩
instance : PairD 31 18 [.pure, .pure, .read, .any, .pure, .read, .any, .pure, .pure, .pure, .pure, .any, .pure] [0, 0, 2, 6, 0, 16, 63, 127, 255, 255, 511, 1535, 4095] [0, 1, 2, 4] 3 5 [6, 7, 8, 9, 10, 11, 12] := ⟨trivial⟩
instance : DrawD 38 1 [.pure, .read, .pure, .read, .pure, .read, .pure, .read, .pure, .read, .pure, .read, .gar, .pure, .read, .gar, .pure, .read, .gar, .pure, .read, .gar, .pure, .read, .pure, .read, .pure, .new, .pure] [0, 1, 0, 4, 0, 16, 0, 64, 0, 256, 0, 1024, 3072, 0, 8192, 31744, 0, 65536, 261120, 0, 524288, 2096128, 0, 4194304, 0, 16777216, 67108863, 134217727, 268435455] [0, 1, 2, 3, 4, 5, 6, 7, 8, 9, 10, 11, 13, 14, 16, 17, 19, 20, 22, 23, 24, 25, 12, 15, 18, 21, 26, 27, 28] := ⟨trivial⟩
instance : DrawD 39 3 [.pure, .pure, .pure, .read, .pure, .pure, .pure, .pure, .pure, .pure, .read, .pure] [0, 1, 3, 7, 0, 16, 63, 0, 128, 384, 896, 2047] [0, 1, 2, 3, 4, 5, 6, 7, 8, 9, 10, 11] := ⟨trivial⟩
instance : DrawD 39 6 [.pure, .pure, .pure, .read, .pure, .pure, .read, .pure, .pure, .pure, .read, .pure, .pure, .any] [0, 1, 3, 7, 15, 31, 63, 0, 128, 384, 896, 2047, 0, 8191] [0, 1, 2, 3, 4, 5, 6, 7, 8, 9, 10, 11, 12, 13] := ⟨trivial⟩
instance : DrawD 43 14 [.pure, .pure, .pure, .read, .pure, .pure, .pure, .read, .gar, .pure, .pure, .pure, .read, .gar, .pure, .pure, .pure, .read, .gar, .pure, .pure, .pure, .read, .gar, .pure, .pure, .pure, .read, .pure, .pure, .pure, .read, .pure, .pure, .pure, .read, .pure, .pure, .pure, .read, .new, .pure, .new, .pure] [0, 1, 3, 7, 0, 16, 48, 112, 240, 0, 512, 1536, 3584, 8176, 0, 16384, 49152, 114688, 262128, 0, 524288, 1572864, 3670016, 8388592, 0, 16777216, 50331648, 117440512, 0, 268435456, 805306368, 1879048192, 0, 4294967296, 12884901888, 30064771072, 0, 68719476736, 206158430208, 481036337152, 0, 2199023255551, 4398046511103, 8796093022207] [0, 1, 2, 3, 4, 5, 6, 7, 9, 10, 11, 12, 14, 15, 16, 17, 19, 20, 21, 22, 24, 25, 26, 27, 28, 29, 30, 31, 32, 33, 34, 35, 36, 37, 38, 39, 8, 13, 18, 23, 40, 41, 42, 43] := ⟨trivial⟩
instance : DrawD 45 84 [.pure, .pure, .pure, .read, .read, .new, .any] [0, 1, 3, 7, 0, 16, 63] [0, 1, 2, 3, 4, 5, 6] := ⟨trivial⟩
instance : DrawD 45 90 [.pure, .read, .new, .any] [0, 0, 2, 7] [0, 1, 2, 3] := ⟨trivial⟩
instance : PlanD 47 5 [.pure, .pure, .read, .pure, .read, .any, .pure, .new, .any, .pure] [0, 0, 2, 0, 8, 24, 62, 126, 255, 511] [0, 1, 2, 3, 4, 5, 6, 7, 8, 9] [0, 1, 3, 4] (.two 2 (.ones [5, 6, 7, 8, 9] .nil) 5 (.ones [2, 6, 7, 8, 9] .nil)) := ⟨trivial⟩
instance : DrawD 50 0 [.pure, .pure, .pure, .read, .pure, .pure, .pure, .read, .pure, .pure, .pure, .pure, .pure] [0, 1, 3, 7, 0, 16, 48, 112, 255, 511, 1023, 2047, 4095] [0, 1, 2, 3, 4, 5, 6, 7, 8, 9, 10, 11, 12] := ⟨trivial⟩
instance : DrawD 50 4 [.pure, .pure, .pure, .read, .pure, .pure, .pure, .read, .pure, .pure, .pure, .pure, .pure] [0, 1, 3, 7, 0, 16, 48, 112, 255, 511, 1023, 2047, 4095] [0, 1, 2, 3, 4, 5, 6, 7, 8, 9, 10, 11, 12] := ⟨trivial⟩
instance : DrawD 51 0 [.pure, .pure, .pure, .read, .pure, .pure, .pure, .read, .pure, .pure, .new, .pure] [0, 1, 3, 7, 0, 16, 48, 112, 255, 511, 1023, 2047] [0, 1, 2, 3, 4, 5, 6, 7, 8, 9, 10, 11] := ⟨trivial⟩
instance : PairD 51 1 [.pure, .pure, .new, .pure, .pure, .new, .pure, .pure] [0, 1, 3, 0, 8, 24, 7, 127] [0, 1, 3, 4] 2 5 [6, 7] := ⟨trivial⟩
instance : DrawD 51 24 [.pure, .pure, .pure, .read, .pure, .read, .pure, .pure, .read, .any] [0, 0, 0, 4, 14, 30, 62, 0, 128, 511] [0, 1, 2, 3, 4, 5, 6, 7, 8, 9] := ⟨trivial⟩
instance : PairD 51 26 [.pure, .pure, .read, .pure, .pure, .read, .pure, .pure, .any, .pure, .any] [0, 0, 2, 0, 0, 16, 0, 7, 135, 511, 1023] [0, 1, 2, 3, 4, 6, 7] 5 8 [9, 10] := ⟨trivial⟩
instance : DrawD 51 29 [.pure, .pure, .pure, .pure, .read, .read, .new, .any, .pure, .pure, .any] [0, 0, 2, 6, 14, 0, 32, 126, 255, 511, 1023] [0, 1, 2, 3, 4, 5, 6, 7, 8, 9, 10] := ⟨trivial⟩
instance : PairD 52 0 [.pure, .pure, .pure, .read, .pure, .pure, .pure, .read, .pure, .pure, .new, .pure, .pure, .pure, .read, .new, .pure, .pure] [0, 1, 3, 7, 0, 16, 48, 112, 255, 511, 1023, 0, 2048, 6144, 14336, 30720, 2047, 131071] [0, 1, 2, 3, 4, 5, 6, 7, 8, 9, 11, 12, 13, 14] 10 15 [16, 17] := ⟨trivial⟩
instance : DrawD 52 10 [.pure, .pure, .read, .pure, .pure, .pure, .pure, .read, .pure, .pure, .read, .pure, .pure, .any] [0, 0, 2, 6, 0, 16, 48, 112, 254, 511, 1023, 2047, 4095, 8191] [0, 1, 2, 3, 4, 5, 6, 7, 8, 9, 10, 11, 12, 13] := ⟨trivial⟩
instance : DrawD 52 29 [.pure, .pure, .pure, .read, .pure, .pure, .pure, .read, .pure, .pure, .any] [0, 0, 0, 6, 0, 0, 48, 112, 254, 0, 1023] [0, 1, 2, 3, 4, 5, 6, 7, 8, 9, 10] := ⟨trivial⟩
instance : DrawD 52 35 [.pure, .pure, .pure, .read, .pure, .pure, .pure, .read, .pure, .pure, .any] [0, 0, 0, 6, 0, 0, 48, 112, 254, 0, 1023] [0, 1, 2, 3, 4, 5, 6, 7, 8, 9, 10] := ⟨trivial⟩
instance : DrawD 53 4 [.pure, .pure, .pure, .read, .pure, .pure, .pure, .pure, .read, .pure, .pure, .read, .pure, .pure, .pure, .pure, .pure] [0, 0, 0, 4, 12, 30, 62, 126, 254, 126, 1022, 2046, 126, 8190, 16382, 127, 65535] [0, 1, 2, 3, 4, 5, 6, 7, 8, 9, 10, 11, 12, 13, 14, 15, 16] := ⟨trivial⟩
instance : DrawD 59 4 [.pure, .read, .pure, .new, .pure, .pure, .pure] [0, 0, 3, 7, 15, 0, 63] [0, 1, 2, 5, 3, 4, 6] := ⟨trivial⟩
instance : DrawD 80 2 [.read, .pure, .pure] [0, 0, 3] [0, 1, 2] := ⟨trivial⟩
instance : DrawD 80 3 [.pure, .pure, .pure, .pure, .pure, .pure, .pure, .read, .pure, .pure, .pure, .read, .pure, .pure, .read, .pure, .pure, .pure] [0, 1, 3, 7, 15, 31, 63, 127, 15, 271, 783, 1807, 3855, 7951, 16143, 32527, 65535, 131071] [0, 1, 2, 3, 4, 5, 6, 7, 8, 9, 10, 11, 12, 13, 14, 15, 16, 17] := ⟨trivial⟩
instance : DrawD 80 4 [.read, .pure, .pure] [0, 0, 3] [0, 1, 2] := ⟨trivial⟩
instance : DrawD 80 5 [.pure, .pure, .pure, .read, .pure, .pure, .pure, .read, .pure, .pure, .read, .pure, .pure] [0, 1, 3, 7, 0, 16, 48, 112, 240, 496, 1008, 2032, 4095] [0, 1, 2, 3, 4, 5, 6, 7, 8, 9, 10, 11, 12] := ⟨trivial⟩
instance : DrawD 80 6 [.read, .pure, .pure] [0, 0, 3] [0, 1, 2] := ⟨trivial⟩
instance : DrawD 80 7 [.pure, .pure, .pure, .read, .pure, .pure, .read, .pure, .pure, .pure, .pure, .read, .pure, .pure, .pure, .pure] [0, 1, 3, 7, 15, 31, 63, 127, 0, 256, 768, 1792, 4095, 0, 8192, 32767] [0, 1, 2, 3, 4, 5, 6, 7, 8, 9, 10, 11, 12, 13, 14, 15] := ⟨trivial⟩
instance : DrawD 80 9 [.pure, .pure, .pure, .read, .pure, .pure, .read, .pure, .pure, .pure, .pure, .read, .pure, .pure] [0, 1, 3, 7, 15, 31, 63, 127, 0, 256, 768, 1792, 4095, 8191] [0, 1, 2, 3, 4, 5, 6, 7, 8, 9, 10, 11, 12, 13] := ⟨trivial⟩
instance : DrawD 80 10 [.pure, .pure, .pure, .pure, .read, .pure, .pure, .read, .pure, .pure, .pure, .read, .pure, .pure, .pure, .read, .pure, .pure, .pure, .any] [0, 0, 2, 6, 14, 30, 62, 126, 0, 256, 768, 1792, 0, 4096, 12288, 28672, 0, 126976, 262142, 524287] [0, 1, 2, 3, 4, 5, 6, 7, 8, 9, 10, 11, 12, 13, 14, 15, 16, 17, 18, 19] := ⟨trivial⟩
instance : DrawD 82 2 [.read, .pure, .pure] [0, 0, 3] [0, 1, 2] := ⟨trivial⟩
instance : PlanD 82 4 [.pure, .pure, .pure, .read, .pure, .pure, .read, .any, .pure, .new, .pure, .pure, .pure] [0, 1, 3, 7, 15, 31, 63, 0, 255, 511, 1023, 128, 4095] [0, 1, 2, 3, 4, 5, 6, 7, 8, 11, 9, 10, 12] [0, 1, 2] (.two 3 (.ones [4, 5] (.two 6 (.ones [7, 8, 9, 10, 11, 12] .nil) 7 (.ones [6, 8, 9, 10, 11, 12] .nil))) 7 (.ones [3, 4, 5, 6, 8, 9, 10, 11, 12] .nil)) := ⟨trivial⟩
instance : PairD 82 13 [.pure, .pure, .pure, .read, .pure, .pure, .pure, .read, .pure, .pure, .read, .pure, .any, .pure, .pure, .any] [0, 1, 3, 7, 0, 16, 48, 112, 240, 496, 1008, 0, 4080, 8191, 16383, 32767] [0, 1, 2, 4, 5, 6, 7, 8, 9, 10, 11] 3 12 [13, 14, 15] := ⟨trivial⟩
instance : PairD 82 14 [.pure, .pure, .pure, .read, .pure, .pure, .pure, .read, .pure, .pure, .read, .pure, .pure, .pure, .any, .pure, .pure, .any] [0, 1, 3, 7, 0, 16, 48, 112, 240, 496, 1008, 0, 4080, 0, 16368, 32767, 65535, 131071] [0, 1, 2, 4, 5, 6, 7, 8, 9, 10, 11, 12, 13] 3 14 [15, 16, 17] := ⟨trivial⟩
instance : PairD 82 15 [.pure, .pure, .pure, .read, .pure, .pure, .pure, .read, .pure, .pure, .read, .pure, .any, .pure, .pure, .any] [0, 1, 3, 7, 0, 16, 48, 112, 240, 496, 1008, 0, 4080, 8191, 16383, 32767] [0, 1, 2, 4, 5, 6, 7, 8, 9, 10, 11] 3 12 [13, 14, 15] := ⟨trivial⟩
instance : DrawD 91 7 [.pure, .pure, .pure, .read, .pure, .pure, .pure, .read, .pure] [0, 1, 3, 7, 0, 16, 48, 112, 255] [0, 1, 2, 3, 4, 5, 6, 7, 8] := ⟨trivial⟩
instance : DrawD 95 52 [.pure, .pure, .pure, .read, .pure, .pure, .pure, .read, .any] [0, 1, 3, 7, 0, 16, 48, 112, 255] [0, 1, 2, 3, 4, 5, 6, 7, 8] := ⟨trivial⟩
instance : DrawD 95 74 [.pure, .pure, .pure, .pure, .pure, .pure, .read, .pure, .pure, .pure, .pure, .read, .pure, .pure] [0, 1, 3, 7, 7, 31, 63, 7, 7, 263, 903, 1927, 4095, 8191] [0, 1, 2, 3, 4, 5, 6, 7, 8, 9, 10, 11, 12, 13] := ⟨trivial⟩
instance : DrawD 95 76 [.pure, .pure, .pure, .pure, .pure, .pure, .pure, .pure, .pure, .read, .pure, .pure, .pure, .read, .pure, .any, .pure, .any] [0, 0, 0, 0, 8, 0, 0, 64, 224, 480, 0, 0, 3072, 7168, 16355, 32739, 65535, 131071] [0, 1, 2, 3, 4, 5, 6, 7, 8, 9, 10, 11, 12, 13, 14, 15, 16, 17] := ⟨trivial⟩
instance : DrawD 95 95 [.pure, .pure, .pure, .read, .pure, .pure, .pure, .pure, .pure, .read, .pure, .pure] [0, 1, 3, 7, 15, 31, 0, 64, 192, 448, 960, 2047] [0, 1, 2, 3, 4, 5, 6, 7, 8, 9, 10, 11] := ⟨trivial⟩
instance : DrawD 98 2 [.pure, .pure, .pure, .read, .pure, .pure] [0, 1, 3, 7, 0, 31] [0, 1, 2, 3, 4, 5] := ⟨trivial⟩
instance : DrawD 98 3 [.pure, .pure, .pure, .read, .pure, .pure, .pure, .pure, .pure, .pure, .read, .pure] [0, 1, 3, 7, 0, 16, 63, 0, 128, 384, 896, 2047] [0, 1, 2, 3, 4, 5, 6, 7, 8, 9, 10, 11] := ⟨trivial⟩
instance : DrawD 98 5 [.pure, .pure, .pure, .read, .pure, .pure] [0, 1, 3, 7, 0, 31] [0, 1, 2, 3, 4, 5] := ⟨trivial⟩
instance : DrawD 101 2 [.pure, .pure, .pure, .read, .pure, .pure, .pure, .read, .pure, .pure, .any] [0, 1, 3, 7, 0, 16, 48, 112, 255, 511, 1023] [0, 1, 2, 3, 4, 5, 6, 7, 8, 9, 10] := ⟨trivial⟩
instance : DrawD 108 2 [.pure, .pure, .pure, .pure, .pure, .pure, .pure, .pure, .pure, .pure] [0, 0, 2, 7, 0, 0, 32, 112, 15, 511] [0, 1, 2, 3, 4, 5, 6, 7, 8, 9] := ⟨trivial⟩
instance : DrawD 110 3 [.pure, .pure, .pure, .pure, .pure, .pure, .pure, .pure, .pure] [0, 0, 3, 0, 0, 16, 56, 7, 255] [0, 1, 2, 3, 4, 5, 6, 7, 8] := ⟨trivial⟩
instance : PairD 112 16 [.read, .pure, .read, .pure, .pure, .read, .pure, .pure, .pure, .read, .read, .pure, .pure, .read, .pure, .any, .pure, .any] [0, 0, 0, 0, 8, 0, 0, 64, 224, 480, 0, 0, 3072, 7168, 16355, 32739, 65535, 131071] [0, 1, 3, 4, 5, 6, 7, 8, 9, 10, 11, 12, 13, 14] 2 15 [16, 17] := ⟨trivial⟩
instance : DrawD 114 6 [.pure, .pure, .pure, .read, .pure, .pure, .pure, .read, .pure, .pure, .pure, .pure, .pure, .read, .pure, .pure, .pure, .pure, .pure, .read, .pure, .pure, .pure, .pure, .pure, .read, .pure, .pure, .pure, .pure, .pure, .read, .pure, .pure, .pure, .pure, .read, .pure, .pure, .pure, .read, .pure, .pure, .pure, .read, .pure, .pure, .pure, .read, .pure, .pure, .pure, .pure, .pure, .read, .pure, .pure, .pure, .pure, .pure, .read, .pure, .pure, .pure, .pure, .read, .pure, .pure, .pure, .pure, .pure, .read, .pure, .pure, .pure, .pure, .read, .pure, .pure, .pure, .pure, .pure, .read, .pure, .pure, .pure, .pure, .read, .pure, .pure, .pure, .pure, .pure, .read, .pure, .pure, .pure, .pure, .read, .pure, .pure, .pure, .new, .any] [0, 1, 3, 7, 0, 16, 48, 112, 240, 496, 0, 1024, 3072, 7168, 15360, 31744, 0, 65536, 196608, 458752, 983040, 2031616, 0, 4194304, 12582912, 29360128, 62914560, 130023424, 0, 268435456, 805306368, 1879048192, 4026531840, 0, 8589934592, 25769803776, 60129542144, 0, 137438953472, 412316860416, 962072674304, 0, 2199023255552, 6597069766656, 15393162788864, 0, 35184372088832, 105553116266496, 246290604621824, 527765581332480, 1090715534753792, 0, 2251799813685248, 6755399441055744, 15762598695796736, 33776997205278720, 69805794224242688, 0, 144115188075855872, 432345564227567616, 1008806316530991104, 2161727821137838080, 0, 4611686018427387904, 13835058055282163712, 32281802128991715328, 69175290276410818560, 142962266571249025024, 0, 295147905179352825856, 885443715538058477568, 2066035336255469780992, 4427218577690292387840, 0, 9444732965739290427392, 28334198897217871282176, 66113130760175032991744, 141670994486089356410880, 292786721937918003249152, 0, 604462909807314587353088, 1813388729421943762059264, 4231240368651202111471616, 9066943647109718810296320, 0, 19342813113834066795298816, 58028439341502200385896448, 135399691796838467567091712, 290142196707511001929482240, 599627206528856070654263296, 0, 1237940039285380274899124224, 3713820117856140824697372672, 8665580274997661924293869568, 18569100589280704123486863360, 0, 39614081257132168796771975168, 118842243771396506390315925504, 277298568799925181577403826176, 594211218856982531951579627520, 1228036518971097232699931230208, 2535301200456458802993406410751, 0, 10141204801825835211973625643007] [0, 1, 2, 3, 4, 5, 6, 7, 8, 9, 10, 11, 12, 13, 14, 15, 16, 17, 18, 19, 20, 21, 22, 23, 24, 25, 26, 27, 28, 29, 30, 31, 32, 33, 34, 35, 36, 37, 38, 39, 40, 41, 42, 43, 44, 45, 46, 47, 48, 49, 50, 51, 52, 53, 54, 55, 56, 57, 58, 59, 60, 61, 62, 63, 64, 65, 66, 67, 68, 69, 70, 71, 72, 73, 74, 75, 76, 77, 78, 79, 80, 81, 82, 83, 84, 85, 86, 87, 88, 89, 90, 91, 92, 93, 94, 95, 96, 97, 98, 99, 100, 101, 102, 103] := ⟨trivial⟩
instance : DrawD 114 11 [.pure, .pure, .pure, .pure, .pure, .read, .any, .pure] [0, 1, 0, 4, 12, 28, 63, 127] [0, 1, 2, 3, 4, 5, 6, 7] := ⟨trivial⟩
instance : DrawD 114 14 [.pure, .pure, .pure, .pure, .read, .pure, .any] [0, 0, 2, 6, 14, 30, 63] [0, 1, 2, 3, 4, 5, 6] := ⟨trivial⟩
instance : DrawD 114 17 [.pure, .pure, .pure, .read, .pure, .pure, .pure, .pure, .read, .pure, .pure, .pure, .pure, .pure, .read, .pure, .pure, .pure, .pure] [0, 1, 3, 7, 15, 0, 32, 96, 224, 480, 1023, 0, 2048, 6144, 14336, 30720, 63488, 131071, 262143] [0, 1, 2, 3, 4, 5, 6, 7, 8, 9, 10, 11, 12, 13, 14, 15, 16, 17, 18] := ⟨trivial⟩
instance : DrawD 116 2 [.pure, .pure, .pure, .read, .pure, .pure] [0, 1, 3, 7, 0, 31] [0, 1, 2, 3, 4, 5] := ⟨trivial⟩
instance : DrawD 116 3 [.pure, .pure, .pure, .read, .pure, .pure, .pure, .pure, .pure, .read, .pure] [0, 1, 3, 7, 0, 31, 0, 64, 192, 448, 1023] [0, 1, 2, 3, 4, 5, 6, 7, 8, 9, 10] := ⟨trivial⟩
instance : DrawD 116 5 [.pure, .pure, .pure, .read, .pure, .pure] [0, 1, 3, 7, 0, 31] [0, 1, 2, 3, 4, 5] := ⟨trivial⟩
instance : DrawD 116 6 [.pure, .pure, .pure, .read, .pure, .new, .any] [0, 1, 3, 7, 0, 16, 63] [0, 1, 2, 3, 4, 5, 6] := ⟨trivial⟩
instance : DrawD 117 2 [.pure, .pure, .pure, .pure, .read, .pure, .pure, .pure, .pure, .read, .pure, .pure, .any, .pure, .pure, .any] [0, 0, 2, 6, 14, 0, 0, 64, 192, 448, 960, 2016, 4094, 8191, 16383, 32767] [0, 1, 2, 3, 4, 5, 6, 7, 8, 9, 10, 11, 12, 13, 14, 15] := ⟨trivial⟩
instance : DrawD 117 3 [.pure, .pure, .pure, .read, .pure, .pure, .pure, .read, .pure, .pure, .any] [0, 1, 3, 7, 0, 16, 48, 112, 255, 0, 1023] [0, 1, 2, 3, 4, 5, 6, 7, 8, 9, 10] := ⟨trivial⟩
instance : DrawD 126 5 [.pure, .read, .pure, .pure, .pure, .pure, .read, .pure, .pure, .read, .pure, .pure, .pure, .pure, .any] [0, 0, 2, 0, 8, 24, 56, 126, 254, 510, 1022, 2046, 4094, 0, 16383] [0, 1, 2, 3, 4, 5, 6, 7, 8, 9, 10, 11, 12, 13, 14] := ⟨trivial⟩
instance : DrawD 126 7 [.pure, .read, .read, .pure, .read, .read, .read, .read, .pure, .pure, .pure, .read, .read, .read, .read, .pure, .pure, .pure, .read, .read, .read, .read, .pure, .pure, .read, .read, .read, .read, .read, .read, .pure, .pure, .read, .read, .read, .read, .pure, .read, .gar, .read, .read, .pure, .read, .gar, .read, .read, .pure, .read, .gar, .pure, .read, .pure, .read, .gar, .pure, .new, .any] [0, 0, 2, 6, 0, 22, 0, 118, 246, 502, 1014, 0, 2294, 0, 14582, 30966, 63734, 129270, 0, 293110, 0, 1865974, 3963126, 8157430, 0, 20740342, 0, 121403638, 0, 524056822, 1060927734, 2134669558, 0, 5355895030, 0, 31125698806, 0, 134204913910, 271643867382, 0, 1096277588214, 0, 4394812471542, 8792858982646, 0, 35181138049270, 0, 140734254315766, 281471742671094, 0, 1125896672803062, 0, 4503596393330934, 9007196020701430, 18014398509481983, 0, 72057594037927935] [0, 1, 2, 3, 4, 5, 6, 7, 8, 9, 10, 11, 12, 13, 14, 15, 16, 17, 18, 19, 20, 21, 22, 23, 24, 25, 26, 27, 28, 29, 30, 31, 32, 33, 34, 35, 36, 37, 39, 41, 44, 46, 49, 51, 38, 40, 42, 43, 45, 47, 48, 50, 52, 53, 54, 55, 56] := ⟨trivial⟩
instance : DrawD 127 4 [.pure, .pure, .pure, .pure, .read, .pure, .pure, .read, .pure, .new, .pure, .pure, .any] [0, 0, 2, 6, 14, 30, 0, 64, 192, 510, 1023, 2047, 4095] [0, 1, 2, 3, 4, 5, 6, 7, 8, 9, 10, 11, 12] := ⟨trivial⟩
instance : DrawD 127 14 [.pure, .pure, .pure, .pure, .read, .pure, .pure, .read, .pure, .pure, .pure, .read, .pure, .pure, .pure, .pure, .pure, .read, .pure, .pure, .read, .pure, .pure, .pure, .pure, .pure, .read, .any] [0, 0, 2, 6, 14, 30, 62, 126, 0, 256, 768, 1792, 4094, 8190, 16382, 32766, 65534, 131070, 262142, 524286, 1048574, 2097150, 4194302, 0, 8388608, 25165824, 58720256, 134217727] [0, 1, 2, 3, 4, 5, 6, 7, 8, 9, 10, 11, 12, 13, 14, 15, 16, 17, 18, 19, 20, 21, 22, 23, 24, 25, 26, 27] := ⟨trivial⟩
instance : DrawD 127 15 [.pure, .pure, .pure, .pure, .read, .pure, .pure, .read, .pure, .pure, .pure, .pure, .pure, .pure, .read, .pure, .pure, .read, .pure, .pure, .pure, .pure, .pure, .read, .any] [0, 0, 2, 6, 14, 30, 62, 126, 0, 510, 1022, 2046, 4094, 8190, 16382, 32766, 65534, 131070, 262142, 524286, 0, 1048576, 3145728, 7340032, 16777215] [0, 1, 2, 3, 4, 5, 6, 7, 8, 9, 10, 11, 12, 13, 14, 15, 16, 17, 18, 19, 20, 21, 22, 23, 24] := ⟨trivial⟩
instance : DrawD 127 22 [.pure, .pure, .read, .pure, .read, .pure, .pure, .pure, .pure, .read, .any] [0, 0, 2, 0, 8, 30, 0, 64, 192, 448, 1023] [0, 1, 2, 3, 4, 5, 6, 7, 8, 9, 10] := ⟨trivial⟩
instance : DrawD 127 27 [.pure, .pure, .read, .pure, .pure, .pure, .pure, .pure, .pure, .read, .any] [0, 0, 2, 0, 14, 30, 0, 64, 192, 448, 1023] [0, 1, 2, 3, 4, 5, 6, 7, 8, 9, 10] := ⟨trivial⟩
instance : DrawD 128 1 [.pure, .pure, .pure, .pure, .pure, .pure, .pure, .read, .pure, .pure, .pure, .read, .pure, .pure, .pure] [0, 1, 3, 7, 7, 23, 55, 119, 7, 263, 775, 1799, 4087, 8191, 16383] [0, 1, 2, 3, 4, 5, 6, 7, 8, 9, 10, 11, 12, 13, 14] := ⟨trivial⟩
instance : DrawD 128 4 [.pure, .pure, .pure, .pure, .pure, .read, .pure, .pure, .pure, .pure, .pure, .pure, .read, .pure, .pure, .pure] [0, 1, 0, 4, 12, 28, 63, 0, 128, 0, 512, 1536, 3584, 8064, 127, 32767] [0, 1, 2, 3, 4, 5, 6, 7, 8, 9, 10, 11, 12, 13, 14, 15] := ⟨trivial⟩
instance : DrawD 128 5 [.pure, .pure, .read, .pure, .pure, .pure, .pure, .pure, .read, .pure, .pure, .pure] [0, 0, 3, 7, 0, 0, 32, 96, 224, 496, 1023, 2047] [0, 1, 2, 3, 4, 5, 6, 7, 8, 9, 10, 11] := ⟨trivial⟩
instance : DrawD 128 6 [.pure, .pure, .pure, .pure, .read, .pure, .pure, .pure, .pure, .read, .pure, .pure, .pure] [0, 0, 2, 6, 14, 31, 0, 64, 192, 448, 960, 1984, 4095] [0, 1, 2, 3, 4, 5, 6, 7, 8, 9, 10, 11, 12] := ⟨trivial⟩
instance : DrawD 128 9 [.pure, .pure, .pure, .read, .pure, .pure, .pure, .pure, .pure, .read, .pure, .pure, .pure] [0, 1, 3, 7, 0, 0, 0, 64, 192, 448, 992, 2047, 4095] [0, 1, 2, 3, 4, 5, 6, 7, 8, 9, 10, 11, 12] := ⟨trivial⟩
instance : DrawD 136 5 [.read, .pure, .pure] [0, 0, 3] [0, 1, 2] := ⟨trivial⟩
instance : DrawD 150 4 [.pure, .pure, .pure, .pure, .read, .pure, .pure, .pure, .read, .pure, .pure, .pure, .any, .pure, .pure, .any] [0, 0, 2, 6, 14, 0, 32, 96, 224, 480, 992, 2016, 4094, 8191, 16383, 32767] [0, 1, 2, 3, 4, 5, 6, 7, 8, 9, 10, 11, 12, 13, 14, 15] := ⟨trivial⟩
instance : DrawD 151 1 [.pure, .pure, .pure, .read, .pure, .pure, .pure, .read, .pure, .pure] [0, 1, 3, 7, 0, 16, 48, 112, 255, 511] [0, 1, 2, 3, 4, 5, 6, 7, 8, 9] := ⟨trivial⟩
instance : DrawD 155 5 [.pure, .pure, .pure, .pure, .read, .read, .new, .any, .pure, .pure, .any] [0, 0, 2, 6, 14, 0, 32, 126, 255, 511, 1023] [0, 1, 2, 3, 4, 5, 6, 7, 8, 9, 10] := ⟨trivial⟩
instance : DrawD 155 8 [.pure, .pure, .pure, .pure, .read, .read, .new, .any, .pure, .pure, .any] [0, 0, 2, 6, 14, 0, 32, 126, 255, 511, 1023] [0, 1, 2, 3, 4, 5, 6, 7, 8, 9, 10] := ⟨trivial⟩
instance : DrawD 156 4 [.read, .pure, .pure, .read, .pure, .pure, .pure, .read, .pure, .any] [0, 1, 3, 7, 0, 16, 48, 112, 240, 511] [0, 1, 2, 3, 4, 5, 6, 7, 8, 9] := ⟨trivial⟩
instance : DrawD 156 13 [.read, .pure, .pure, .read, .pure, .read, .pure, .pure, .read, .pure, .pure, .read, .pure, .pure, .read, .pure, .pure, .pure, .read, .read, .pure, .pure, .read, .pure, .pure, .read, .pure, .any, .pure, .any] [0, 1, 3, 7, 0, 0, 32, 96, 224, 0, 512, 0, 2048, 6144, 14336, 0, 32768, 129024, 260096, 0, 524288, 1572864, 3670016, 0, 16252928, 33030144, 67107327, 134216191, 268435455, 536870911] [0, 1, 2, 3, 4, 5, 6, 7, 8, 9, 10, 11, 12, 13, 14, 15, 16, 17, 18, 19, 20, 21, 22, 23, 24, 25, 26, 27, 28, 29] := ⟨trivial⟩
instance : DrawD 156 18 [.read, .pure, .pure, .read, .pure, .any] [0, 1, 3, 7, 0, 31] [0, 1, 2, 3, 4, 5] := ⟨trivial⟩
instance : DrawD 158 1 [.pure, .pure, .read, .pure, .pure, .pure, .read, .pure, .pure, .pure, .pure, .pure, .read, .pure, .pure, .pure, .pure, .pure, .read, .pure, .pure, .pure, .pure] [0, 1, 3, 7, 0, 16, 48, 112, 240, 511, 0, 1024, 3072, 7168, 15360, 32767, 0, 65536, 196608, 458752, 983040, 2097151, 4194303] [0, 1, 2, 3, 4, 5, 6, 7, 8, 9, 10, 11, 12, 13, 14, 15, 16, 17, 18, 19, 20, 21, 22] := ⟨trivial⟩
instance : DrawD 161 1 [.pure, .pure, .pure, .read, .pure, .pure, .pure, .read, .pure, .pure, .pure, .pure, .pure, .pure, .read, .pure, .pure, .pure, .read, .pure, .pure, .pure, .pure] [0, 1, 3, 7, 0, 16, 48, 112, 240, 511, 1023, 2047, 4095, 8191, 16383, 2047, 34815, 100351, 231423, 524287, 2047, 2097151, 4194303] [0, 1, 2, 3, 4, 5, 6, 7, 8, 9, 10, 11, 12, 13, 14, 15, 16, 17, 18, 19, 20, 21, 22] := ⟨trivial⟩
instance : DrawD 161 4 [.pure, .pure, .pure, .read, .pure, .pure, .pure, .read, .pure, .pure, .pure, .read, .pure, .any] [0, 1, 3, 7, 0, 16, 48, 112, 0, 256, 768, 1792, 4080, 8191] [0, 1, 2, 3, 4, 5, 6, 7, 8, 9, 10, 11, 12, 13] := ⟨trivial⟩
instance : DrawD 161 5 [.pure, .pure, .pure, .read, .pure, .pure, .pure, .read, .pure, .pure, .any] [0, 1, 3, 7, 0, 16, 48, 112, 0, 511, 1023] [0, 1, 2, 3, 4, 5, 6, 7, 8, 9, 10] := ⟨trivial⟩
instance : DrawD 163 2 [.pure, .pure, .pure, .read, .pure, .pure, .pure, .read, .pure, .pure] [0, 1, 3, 7, 0, 16, 48, 112, 255, 511] [0, 1, 2, 3, 4, 5, 6, 7, 8, 9] := ⟨trivial⟩
instance : DrawD 163 3 [.pure, .pure, .pure, .read, .pure, .pure, .pure, .read, .pure, .read, .pure] [0, 1, 3, 7, 0, 16, 48, 112, 255, 511, 1023] [0, 1, 2, 3, 4, 5, 6, 7, 8, 9, 10] := ⟨trivial⟩
instance : PairD 166 26 [.read, .pure, .read, .pure, .pure, .read, .pure, .pure, .pure, .read, .read, .pure, .pure, .read, .pure, .any, .pure, .any] [0, 0, 0, 0, 8, 0, 0, 64, 224, 480, 0, 0, 3072, 7168, 16355, 32739, 65535, 131071] [0, 1, 3, 4, 5, 6, 7, 8, 9, 10, 11, 12, 13, 14] 2 15 [16, 17] := ⟨trivial⟩
instance : DrawD 166 38 [.read, .pure, .pure, .read, .read, .pure, .pure, .read, .pure, .pure, .any] [0, 1, 3, 7, 0, 16, 48, 112, 255, 511, 1023] [0, 1, 2, 3, 4, 5, 6, 7, 8, 9, 10] := ⟨trivial⟩
instance : DrawD 166 39 [.read, .read, .pure, .pure, .read, .pure, .pure, .any] [0, 0, 2, 6, 14, 31, 63, 127] [0, 1, 2, 3, 4, 5, 6, 7] := ⟨trivial⟩
instance : DrawD 167 1 [.read, .pure, .pure, .read, .read, .pure, .pure, .read, .read, .pure, .pure, .read, .pure] [0, 1, 3, 7, 0, 0, 48, 112, 255, 511, 1023, 2047, 4095] [0, 1, 2, 3, 4, 5, 6, 7, 8, 9, 10, 11, 12] := ⟨trivial⟩
instance : DrawD 167 2 [.read, .pure, .pure, .read, .read, .pure, .pure, .read, .read, .pure, .pure, .read, .pure] [0, 1, 3, 7, 0, 0, 48, 112, 255, 511, 1023, 2047, 4095] [0, 1, 2, 3, 4, 5, 6, 7, 8, 9, 10, 11, 12] := ⟨trivial⟩
instance : DrawD 167 4 [.read, .pure, .pure, .read, .read, .pure, .pure, .read, .pure, .pure] [0, 0, 3, 7, 0, 0, 48, 112, 255, 511] [0, 1, 2, 3, 4, 5, 6, 7, 8, 9] := ⟨trivial⟩
instance : DrawD 169 11 [.pure, .pure, .pure, .read, .pure, .pure, .any] [0, 1, 0, 4, 12, 28, 63] [0, 1, 2, 3, 4, 5, 6] := ⟨trivial⟩
instance : DrawD 169 12 [.pure, .pure, .pure, .read, .pure, .read, .any, .any] [0, 1, 0, 4, 0, 16, 60, 127] [0, 1, 2, 3, 4, 5, 6, 7] := ⟨trivial⟩
instance : DrawD 169 13 [.pure, .pure, .pure, .read, .any] [0, 1, 0, 4, 15] [0, 1, 2, 3, 4] := ⟨trivial⟩
instance : DrawD 169 15 [.pure, .pure, .pure, .pure, .pure, .pure, .pure, .read, .any] [0, 0, 2, 0, 14, 31, 0, 64, 255] [0, 1, 2, 3, 4, 5, 6, 7, 8] := ⟨trivial⟩
instance : DrawD 178 12 [.pure, .pure, .read, .pure, .pure, .pure, .pure, .read, .any] [0, 0, 2, 6, 0, 16, 48, 112, 255] [0, 1, 2, 3, 4, 5, 6, 7, 8] := ⟨trivial⟩
instance : DrawD 178 13 [.pure, .pure, .read, .pure, .pure, .pure, .read, .pure, .pure, .pure, .pure, .pure, .read, .any] [0, 0, 2, 6, 14, 30, 62, 126, 254, 0, 512, 1536, 3584, 8191] [0, 1, 2, 3, 4, 5, 6, 7, 8, 9, 10, 11, 12, 13] := ⟨trivial⟩
instance : DrawD 178 21 [.pure, .pure, .pure, .pure, .pure, .read, .pure, .pure, .pure, .pure, .read, .pure, .pure, .pure, .pure, .read, .any] [0, 0, 0, 6, 14, 30, 0, 0, 192, 448, 960, 2046, 0, 4096, 12288, 28672, 65535] [0, 1, 2, 3, 4, 5, 6, 7, 8, 9, 10, 11, 12, 13, 14, 15, 16] := ⟨trivial⟩
instance : DrawD 179 8 [.pure, .pure, .pure, .pure, .read, .pure, .pure, .pure, .pure, .pure, .read, .pure, .pure, .pure, .pure, .pure, .pure, .read, .any] [0, 0, 2, 6, 14, 30, 62, 126, 254, 510, 1022, 2046, 4094, 8190, 0, 16384, 49152, 114688, 262143] [0, 1, 2, 3, 4, 5, 6, 7, 8, 9, 10, 11, 12, 13, 14, 15, 16, 17, 18] := ⟨trivial⟩
instance : DrawD 179 11 [.pure, .pure, .pure, .pure, .read, .pure, .pure, .pure, .pure, .pure, .read, .pure, .pure, .pure, .pure, .pure, .pure, .read, .any] [0, 0, 2, 6, 14, 30, 62, 126, 254, 510, 1022, 2046, 4094, 8190, 0, 16384, 49152, 114688, 262143] [0, 1, 2, 3, 4, 5, 6, 7, 8, 9, 10, 11, 12, 13, 14, 15, 16, 17, 18] := ⟨trivial⟩
instance : DrawD 179 12 [.pure, .pure, .pure, .pure, .read, .pure, .pure, .pure, .read, .pure, .pure, .pure, .pure, .pure, .pure, .read, .any] [0, 0, 2, 6, 14, 0, 32, 96, 224, 480, 992, 2046, 0, 4096, 12288, 28672, 65535] [0, 1, 2, 3, 4, 5, 6, 7, 8, 9, 10, 11, 12, 13, 14, 15, 16] := ⟨trivial⟩
instance : DrawD 179 13 [.pure, .pure, .pure, .read, .pure, .pure, .pure, .read, .pure, .pure, .pure] [0, 1, 3, 7, 0, 16, 48, 112, 240, 496, 1023] [0, 1, 2, 3, 4, 5, 6, 7, 8, 9, 10] := ⟨trivial⟩
instance : DrawD 179 14 [.pure, .pure, .pure, .pure, .read, .pure, .pure, .pure, .pure, .read, .any] [0, 0, 2, 6, 14, 30, 0, 64, 192, 448, 1023] [0, 1, 2, 3, 4, 5, 6, 7, 8, 9, 10] := ⟨trivial⟩
instance : DrawD 179 17 [.pure, .pure, .pure, .pure, .read, .pure, .pure, .pure, .read, .pure, .pure, .pure, .pure, .pure, .pure, .read, .any] [0, 0, 2, 6, 14, 0, 32, 96, 224, 480, 992, 2046, 0, 4096, 12288, 28672, 65535] [0, 1, 2, 3, 4, 5, 6, 7, 8, 9, 10, 11, 12, 13, 14, 15, 16] := ⟨trivial⟩
instance : DrawD 179 18 [.pure, .pure, .pure, .pure, .read, .pure, .pure, .pure, .read, .pure, .pure, .pure, .read, .pure, .pure, .pure, .pure, .pure, .pure, .any] [0, 0, 2, 6, 14, 0, 32, 96, 224, 0, 512, 1536, 3584, 7680, 15872, 32736, 65534, 131071, 262143, 524287] [0, 1, 2, 3, 4, 5, 6, 7, 8, 9, 10, 11, 12, 13, 14, 15, 16, 17, 18, 19] := ⟨trivial⟩
instance : DrawD 179 23 [.pure, .read, .pure, .pure, .pure, .read, .pure, .pure, .pure, .pure, .pure, .pure, .pure, .read, .any] [0, 0, 0, 4, 12, 28, 60, 124, 252, 510, 0, 1024, 3072, 7168, 16383] [0, 1, 2, 3, 4, 5, 6, 7, 8, 9, 10, 11, 12, 13, 14] := ⟨trivial⟩
instance : DrawD 179 25 [.pure, .pure, .pure, .pure, .read, .pure, .pure, .pure, .pure, .read, .any] [0, 0, 2, 6, 14, 30, 0, 64, 192, 448, 1023] [0, 1, 2, 3, 4, 5, 6, 7, 8, 9, 10] := ⟨trivial⟩
instance : DrawD 180 7 [.pure, .pure, .pure, .pure, .read, .pure, .pure, .pure, .pure, .read, .pure, .pure, .pure, .new, .any, .pure, .pure, .any] [0, 0, 2, 6, 14, 0, 0, 64, 224, 480, 0, 0, 4064, 8160, 16382, 32767, 65535, 131071] [0, 1, 2, 3, 4, 5, 6, 7, 8, 9, 10, 11, 12, 13, 14, 15, 16, 17] := ⟨trivial⟩
instance : DrawD 181 2 [.pure, .pure, .pure, .pure, .read, .pure, .pure, .pure, .pure, .read, .pure, .pure, .pure] [0, 0, 2, 6, 14, 31, 0, 64, 192, 448, 960, 1984, 4095] [0, 1, 2, 3, 4, 5, 6, 7, 8, 9, 10, 11, 12] := ⟨trivial⟩
instance : DrawD 181 5 [.pure, .pure, .pure, .read, .pure, .pure, .pure, .pure, .pure, .read, .pure, .pure, .pure] [0, 1, 3, 7, 0, 0, 0, 64, 192, 448, 992, 2047, 4095] [0, 1, 2, 3, 4, 5, 6, 7, 8, 9, 10, 11, 12] := ⟨trivial⟩
instance : DrawD 191 5 [.pure, .read, .pure, .pure, .read, .pure, .pure, .pure, .pure] [0, 1, 0, 0, 8, 24, 60, 3, 255] [0, 1, 2, 3, 4, 5, 6, 7, 8] := ⟨trivial⟩
instance : DrawD 195 3 [.read, .read, .new, .any, .pure, .pure, .pure, .pure, .pure] [0, 0, 2, 7, 15, 31, 31, 63, 255] [0, 1, 2, 3, 4, 5, 6, 7, 8] := ⟨trivial⟩
instance : DrawD 195 9 [.read, .read, .new, .any, .pure, .pure, .pure, .pure] [0, 0, 2, 7, 15, 31, 31, 127] [0, 1, 2, 3, 4, 5, 6, 7] := ⟨trivial⟩
instance : DrawD 197 8 [.read, .read, .new, .any, .pure, .pure, .pure, .pure, .pure] [0, 0, 2, 7, 15, 31, 31, 63, 255] [0, 1, 2, 3, 4, 5, 6, 7, 8] := ⟨trivial⟩
instance : DrawD 197 15 [.read, .pure, .pure, .pure, .pure, .any, .pure, .pure, .pure, .pure] [0, 0, 0, 6, 14, 31, 63, 127, 127, 511] [0, 1, 2, 3, 4, 5, 6, 7, 8, 9] := ⟨trivial⟩
instance : DrawD 199 1 [.read, .pure, .pure, .read, .read, .pure, .pure, .read, .read, .pure, .pure, .read, .pure] [0, 1, 3, 7, 0, 0, 48, 112, 255, 511, 1023, 2047, 4095] [0, 1, 2, 3, 4, 5, 6, 7, 8, 9, 10, 11, 12] := ⟨trivial⟩
instance : DrawD 199 2 [.read, .pure, .pure, .read, .read, .pure, .pure, .read, .read, .pure, .pure, .read, .pure] [0, 1, 3, 7, 0, 0, 48, 112, 255, 511, 1023, 2047, 4095] [0, 1, 2, 3, 4, 5, 6, 7, 8, 9, 10, 11, 12] := ⟨trivial⟩
instance : DrawD 199 4 [.read, .pure, .pure, .read, .read, .pure, .pure, .read, .pure, .pure] [0, 0, 3, 7, 0, 0, 48, 112, 255, 511] [0, 1, 2, 3, 4, 5, 6, 7, 8, 9] := ⟨trivial⟩
instance : DrawD 201 12 [.pure, .pure, .pure, .pure, .pure, .pure, .any] [0, 0, 0, 4, 12, 30, 63] [0, 1, 2, 3, 4, 5, 6] := ⟨trivial⟩
instance : DrawD 202 9 [.pure, .pure, .pure, .pure, .read, .pure, .pure, .pure, .pure, .read, .any] [0, 0, 0, 4, 14, 30, 0, 64, 192, 448, 1023] [0, 1, 2, 3, 4, 5, 6, 7, 8, 9, 10] := ⟨trivial⟩
instance : DrawD 202 19 [.pure, .pure, .pure, .pure, .read, .pure, .pure, .pure, .pure, .pure, .read, .any] [0, 0, 0, 0, 12, 28, 62, 0, 128, 384, 896, 2047] [0, 1, 2, 3, 4, 5, 6, 7, 8, 9, 10, 11] := ⟨trivial⟩
instance : DrawD 203 1 [.pure, .pure, .read, .pure, .pure, .pure, .pure, .read, .any] [0, 0, 2, 6, 0, 16, 48, 112, 255] [0, 1, 2, 3, 4, 5, 6, 7, 8] := ⟨trivial⟩
instance : DrawD 203 10 [.pure, .pure, .pure, .pure, .read, .pure, .pure, .pure, .pure, .read, .any] [0, 0, 0, 4, 12, 30, 0, 64, 192, 448, 1023] [0, 1, 2, 3, 4, 5, 6, 7, 8, 9, 10] := ⟨trivial⟩
instance : DrawD 203 17 [.pure, .pure, .read, .pure, .pure, .pure, .pure, .pure, .pure, .pure, .read, .any] [0, 0, 2, 6, 0, 16, 62, 0, 128, 384, 896, 2047] [0, 1, 2, 3, 4, 5, 6, 7, 8, 9, 10, 11] := ⟨trivial⟩
instance : DrawD 203 29 [.pure, .pure, .pure, .read, .pure, .pure, .pure, .pure, .pure, .pure, .read, .any] [0, 1, 3, 7, 0, 31, 0, 0, 0, 384, 960, 2047] [0, 1, 2, 3, 4, 5, 6, 7, 8, 9, 10, 11] := ⟨trivial⟩
instance : KeepT 3 [42, 43, 44, 73, 74, 75] := ⟨trivial⟩
instance : KeepT 4 [9, 10, 11] := ⟨trivial⟩
instance : KeepT 7 [28, 29, 30, 44, 45, 46, 71, 84, 85, 86, 100, 101, 102] := ⟨trivial⟩
instance : KeepT 8 [11, 12, 13] := ⟨trivial⟩
instance : KeepT 9 [17, 18, 19, 26] := ⟨trivial⟩
instance : KeepT 10 [33, 34, 35, 41] := ⟨trivial⟩
instance : KeepT 11 [6, 7, 8] := ⟨trivial⟩
instance : KeepT 13 [4] := ⟨trivial⟩
instance : KeepT 31 [15] := ⟨trivial⟩
instance : KeepT 33 [14, 18, 37] := ⟨trivial⟩
instance : KeepT 36 [11, 12, 13] := ⟨trivial⟩
instance : KeepT 38 [43, 44, 45] := ⟨trivial⟩
instance : KeepT 45 [134, 135, 326, 327, 328] := ⟨trivial⟩
instance : KeepT 47 [6, 7, 8] := ⟨trivial⟩
instance : KeepT 51 [69, 70, 71, 189, 190, 191] := ⟨trivial⟩
instance : KeepT 52 [58, 59, 60] := ⟨trivial⟩
instance : KeepT 54 [5] := ⟨trivial⟩
instance : KeepT 95 [165, 265, 298, 346, 347, 348] := ⟨trivial⟩
instance : KeepT 112 [28, 72, 73, 74] := ⟨trivial⟩
instance : KeepT 114 [20, 21, 22, 134] := ⟨trivial⟩
instance : KeepT 119 [183, 184, 218, 219, 361, 362, 424, 425] := ⟨trivial⟩
instance : KeepT 121 [28, 29, 30] := ⟨trivial⟩
instance : KeepT 126 [117, 118, 119, 139, 140, 141] := ⟨trivial⟩
instance : KeepT 127 [170, 171, 172, 182, 183, 184] := ⟨trivial⟩
instance : KeepT 151 [71, 72, 130, 131, 156, 157] := ⟨trivial⟩
instance : KeepT 166 [55, 99, 100, 101] := ⟨trivial⟩
instance : KeepT 169 [19, 20, 21] := ⟨trivial⟩
instance : KeepT 178 [98, 99, 105, 106] := ⟨trivial⟩
instance : KeepT 179 [18] := ⟨trivial⟩
instance : KeepT 187 [24, 25] := ⟨trivial⟩
instance : KeepT 191 [6, 7] := ⟨trivial⟩
instance : KeepT 198 [4] := ⟨trivial⟩
instance : KeepT 205 [4] := ⟨trivial⟩
instance : KeepT 206 [9, 10, 11] := ⟨trivial⟩
end Go.Proofs.YtppkiiomedembaaGreatDoor
namespace Go.Proofs.YtppkiiomedembaaGreatDoor
open Go
theorem e_draw {X : Fx} {k : List Item} {loc : List Value} {tmp : List (Nat × Value)} {L : List HP} {id : Nat} {l : List Oper} {cs : List Cls} {M pi : List Nat} [DrawD X.f id cs M pi]
    (h : EO X l.toArray (cfl cs) k pi (pick l pi) loc [] L) (hm : X.P.follows .mixedOrders = true := by exact mixed) (hB : okB l.toArray (cfl cs) M pi = true := by kernel_rfl) (hqc : qOK X.q cs = true := by rfl) (hkt : X.kt = none := by rfl) : E X (.code (.region id l.toArray true) :: k) loc tmp L :=
  e_region_draw (cfl cs) M pi hm hB h (qOK_spec hqc) hkt
inductive KeepR (tmp : List (Nat × Value)) : List Nat → List (Nat × Value) → Prop where
  | nil : KeepR tmp [] []
  | yes {t : Nat} {v : Value} {ks : List Nat} {l : List (Nat × Value)} : lk tmp t = some v → KeepR tmp ks l → KeepR tmp (t :: ks) ((t, v) :: l)
  | no {t : Nat} {ks : List Nat} {l : List (Nat × Value)} : lk tmp t = none → KeepR tmp ks l → KeepR tmp (t :: ks) l
theorem KeepR.sub {tmp : List (Nat × Value)} {ks : List Nat} {l : List (Nat × Value)} (h : KeepR tmp ks l) : ∀ t v, lk l t = some v → lk tmp t = some v := by
  induction h with
  | nil => intro t v h; cases h
  | @yes t v ks l h1 _ ih =>
    intro s u hs
    simp only [lk] at hs
    cases hb : Nat.beq t s with
    | true => rw [hb] at hs; simp at hs; have := Nat.eq_of_beq_eq_true hb; subst this; rw [h1, hs]
    | false => rw [hb] at hs; exact ih s u hs
  | no _ _ ih => exact ih
theorem Rel.sub {n : Nat} {loc : List Value} {tmp tmp' : List (Nat × Value)} {a : Act} (h : Rel n loc tmp a) (hs : ∀ t v, lk tmp' t = some v → lk tmp t = some v) : Rel n loc tmp' a := ⟨h.defers, h.size, h.hloc, fun t v hn ht => h.htmp t v hn (hs t v ht)⟩
theorem e_regionK {X : Fx} {k : List Item} {loc : List Value} {tmp tmp' : List (Nat × Value)} {L : List HP} {id : Nat} {l : List Oper} {ks : List Nat} [KeepT X.f ks] (h : EO X l.toArray (fun _ => .any) k (List.range' 0 l.length) l loc tmp' L) (hk : KeepR tmp ks tmp') (hkt : X.kt = none := by rfl) : E X (.code (.region id l.toArray false) :: k) loc tmp L := fun w0 S0 a w hr hs =>
  tt_region (fun _ => .any) (by
    rw [List.range_eq_range']
    have h1 := h ⟨by simpa using range_map [] 0 (by simp) rfl, fun _ _ => rfl⟩ w0 S0 a w (hr.sub hk.sub) hs
    unfold Fx.kont at h1
    rwa [hkt] at h1)
theorem e_drawK {X : Fx} {k : List Item} {loc : List Value} {tmp tmp' : List (Nat × Value)} {L : List HP} {id : Nat} {l : List Oper} {cs : List Cls} {M pi ks : List Nat} [DrawD X.f id cs M pi] [KeepT X.f ks]
    (h : EO X l.toArray (cfl cs) k pi (pick l pi) loc tmp' L) (hk : KeepR tmp ks tmp') (hm : X.P.follows .mixedOrders = true := by exact mixed) (hB : okB l.toArray (cfl cs) M pi = true := by kernel_rfl) (hqc : qOK X.q cs = true := by rfl) (hkt : X.kt = none := by rfl) : E X (.code (.region id l.toArray true) :: k) loc tmp L := fun w0 S0 a w hr hs =>
  tt_region_draw (cfl cs) M pi hm hB (by
    have h1 := h ⟨pick_map fun i hi => by have := (okB_spec hB).lt i hi; simpa using this, qOK_spec hqc⟩ w0 S0 a w (hr.sub hk.sub) hs
    unfold Fx.kont at h1
    rwa [hkt] at h1)
theorem e_pair {X : Fx} {k : List Item} {loc : List Value} {tmp : List (Nat × Value)} {L : List HP} {id : Nat} {l : List Oper} {cs : List Cls} {M pre : List Nat} {x y : Nat} {post : List Nat} [PairD X.f id cs M pre x y post]
    (h : EO { X with kt := some (.pr x y post) } l.toArray (cfl cs) k pre (pick l pre) loc [] L) (hm : X.P.follows .mixedOrders = true := by exact mixed) (hB : okPB l.toArray (cfl cs) M pre x y post = true := by kernel_rfl) (hqc : qOK X.q cs = true := by rfl) : E X (.code (.region id l.toArray true) :: k) loc tmp L :=
  e_region_pair (cfl cs) M pre post x y hm hB h (fun _ _ h => by cases h) (qOK_spec hqc)
theorem e_pairK {X : Fx} {k : List Item} {loc : List Value} {tmp tmp' : List (Nat × Value)} {L : List HP} {id : Nat} {l : List Oper} {cs : List Cls} {M pre ks : List Nat} {x y : Nat} {post : List Nat} [PairD X.f id cs M pre x y post] [KeepT X.f ks]
    (h : EO { X with kt := some (.pr x y post) } l.toArray (cfl cs) k pre (pick l pre) loc tmp' L) (hk : KeepR tmp ks tmp') (hm : X.P.follows .mixedOrders = true := by exact mixed) (hB : okPB l.toArray (cfl cs) M pre x y post = true := by kernel_rfl) (hqc : qOK X.q cs = true := by rfl) : E X (.code (.region id l.toArray true) :: k) loc tmp L :=
  e_region_pair (cfl cs) M pre post x y hm hB h hk.sub (qOK_spec hqc)
theorem e_plan {X : Fx} {k : List Item} {loc : List Value} {tmp : List (Nat × Value)} {L : List HP} {id : Nat} {l : List Oper} {cs : List Cls} {M pi seq : List Nat} {p : Pln} [PlanD X.f id cs M pi seq p]
    (h : EO { X with kt := some (.pl p) } l.toArray (cfl cs) k seq (pick l seq) loc [] L) (hm : X.P.follows .mixedOrders = true := by exact mixed) (hB : (okBX l.toArray (cfl cs) M pi (fun _ _ => true) && okPl l.toArray (cfl cs) M pi (.ones seq p)) = true := by kernel_rfl) (hb : p.brk = true := by rfl) (hlt : (seq.all fun i => Nat.blt i l.length) = true := by rfl) (hqc : qOK X.q cs = true := by rfl) : E X (.code (.region id l.toArray true) :: k) loc tmp L :=
  e_region_plan (cfl cs) M pi seq p hm hB hb hlt h (fun _ _ h => by cases h) (qOK_spec hqc)
theorem e_roundsK {X : Fx} {k : List Item} {loc : List Value} {tmp : List (Nat × Value)} {L : List HP} {ι : Type} {c : Code} (m : ι → Nat) (loI : ι → List Value) (tmI : ι → List (Nat × Value)) (LI : ι → List HP) (PI : ι → Prop) (i0 : ι) {ks : List Nat} (h0 : PI i0) (hl : loc = loI i0) (ht : KeepR tmp ks (tmI i0)) (hL : L.Perm (LI i0))
    (round : ∀ i, PI i → (∀ j, m j < m i → PI j → E X (.inLoop c :: k) (loI j) (tmI j) (LI j)) → E X (.code c :: .inLoop c :: k) (loI i) (tmI i) (LI i)) :
    E X (.code (.loop c) :: k) loc tmp L := by
  have key : ∀ d i, m i = d → PI i → E X (.code c :: .inLoop c :: k) (loI i) (tmI i) (LI i) := by
    intro d
    induction d using Nat.strongRecOn with
    | _ d ih =>
      intro i hd hp
      refine round i hp fun j hj hpj w0 S0 a w hr hs => tt_inLoop (ih (m j) (hd ▸ hj) j rfl hpj w0 S0 a w hr hs)
  exact fun w0 S0 a w hr hs => tt_loop (key _ i0 rfl h0 w0 S0 a w (hl ▸ hr.sub ht.sub) (hs.perm hL))
theorem E.toK {X : Fx} {k : List Item} {loc loc' : List Value} {tmp tmp' : List (Nat × Value)} {L L' : List HP} {ks : List Nat} (h : E X k loc' tmp' L') (hl : loc = loc') (hL : L = L') (ht : KeepR tmp ks tmp') : E X k loc tmp L := by
  subst hl hL; exact fun w0 S0 a w hr hs => h w0 S0 a w (hr.sub ht.sub) hs
theorem is_reg {X : Fx} {k : List Item} {loc : List Value} {tmp : List (Nat × Value)} {L : List HP} {id : Nat} {a : Array Oper} (h : E X (.code (.region id a false) :: k) loc tmp L) : E X (.code (.region id a false) :: k) loc tmp L := h
theorem is_op {X : Fx} {ops : Array Oper} {cf : Nat → Cls} {k : List Item} {i : Nat} {is : List Nat} {l : List Oper} {loc : List Value} {tmp : List (Nat × Value)} {L : List HP} {o : Oper} (h : EO X ops cf k (i :: is) (o :: l) loc tmp L) : EO X ops cf k (i :: is) (o :: l) loc tmp L := h
theorem is_E {X : Fx} {k : List Item} {loc : List Value} {tmp : List (Nat × Value)} {L : List HP} (h : E X k loc tmp L) : E X k loc tmp L := h
theorem is_draw {X : Fx} {k : List Item} {loc : List Value} {tmp : List (Nat × Value)} {L : List HP} {id : Nat} {a : Array Oper} (h : E X (.code (.region id a true) :: k) loc tmp L) : E X (.code (.region id a true) :: k) loc tmp L := h
theorem pt_ {loc loc' : List Value} {tmp tmp' : List (Nat × Value)} {d : Option Tmp} {v : Value} (h : Pt loc tmp d v loc' tmp' := by first | exact Pt.tmp rfl | exact Pt.none | exact Pt.loc (by repeat constructor)) : Pt loc tmp d v loc' tmp' := h
theorem take_ {A : HP} {L F : List HP} (h : Take A L F := by first | ((repeat (first | (with_reducible exact Take.here) | (with_reducible apply Take.there))) <;> fail) | fail) : Take A L F := h
theorem sub_ {M L F : List HP} (h : Subs M L F := by first | ((repeat (first | exact Subs.nil | (apply Subs.cons; (repeat (first | (with_reducible exact Take.here) | (with_reducible apply Take.there)))))) <;> fail) | fail) : Subs M L F := h
theorem wr_ {a b : Int} (h : a = b := by first | exact wi64 (by omega) (by omega) | exact wu32 (by omega) (by omega) | exact wu64 (by omega) (by omega) | exact wu16 (by omega) (by omega) | exact wu8 (by omega) (by omega) | exact wm8 _ | exact wm16 _ | exact wm32 _ | rfl) : a = b := h
structure Hold (G : Prop) : Prop where out : G
theorem op1 {P G : Prop} (h : G) (hs : Hold G → P := by
  intro h
  refine is_op ?_; first | (refine is_guard ?_; first | refine x_skip rfl pt_ rfl ?_ | fail) | (refine is_move ?_; first | refine x_move rfl pt_ ?_ | fail) | (refine is_assign ?_; first | refine x_assign rfl pt_ ?_ | fail) | (refine is_nilCheck ?_; first | refine x_nilCheck rfl pt_ ?_ | fail) | (refine is_fieldAddr ?_; first | refine x_fieldAddr rfl pt_ ?_ | fail) | (refine is_load ?_; first | refine x_load rfl (by first | ((repeat (first | ((with_reducible apply Cell.here); exact rfl) | (with_reducible apply Cell.there))) <;> fail) | fail) pt_ ?_ | refine x_loadS rfl (by first | ((repeat (first | ((with_reducible apply Rows.here); (focus (repeat constructor))) | (with_reducible apply Rows.there))) <;> fail) | fail) pt_ ?_ | fail) | (refine is_min ?_; first | refine x_min rfl rfl pt_ ?_ | fail) | (refine is_max ?_; first | refine x_max rfl rfl pt_ ?_ | fail) | (refine is_cap ?_; first | refine x_cap rfl pt_ ?_ | fail) | (refine is_entry ?_; first | refine x_entry rfl take_ (by assumption) pt_ ?_ | fail) | (refine is_makeFunc ?_; first | refine x_func rfl rfl pt_ ?_ | fail) | (refine is_field ?_; first | refine x_fld rfl rfl pt_ ?_ | refine x_fldA rfl rfl pt_ ?_ | fail) | (refine is_store ?_; first | refine x_store rfl rfl rfl (by first | ((repeat (first | ((with_reducible apply Put.here); (repeat constructor)) | (with_reducible apply Put.there))) <;> fail) | fail) ?_ | refine x_storeA rfl rfl rfl rfl rfl (by first | ((repeat (first | ((with_reducible apply PutA.here); (focus (repeat (first | exact SetR.nil | (apply SetR.cons; (focus (repeat constructor))))))) | (with_reducible apply PutA.there))) <;> fail) | fail) ?_ | fail) | (refine is_convert ?_; first | refine x_convN rfl wr_ pt_ ?_ | refine x_conv rfl wr_ pt_ ?_ | fail) | (refine is_shl ?_; first | refine x_shlN rfl rfl (by first | decide | (simp only [IntKind.bits]; omega)) wr_ pt_ ?_ | fail) | (refine is_shr ?_; first | refine x_shrN rfl rfl (by first | decide | (simp only [IntKind.bits]; omega)) pt_ ?_ | fail) | (refine is_len ?_; first | refine x_len rfl pt_ ?_ | refine x_lenT rfl pt_ ?_ | refine x_lenS rfl pt_ ?_ | fail) | (refine is_eql ?_; first | refine x_eqP rfl rfl pt_ ?_ | refine x_eqI rfl rfl pt_ ?_ | refine x_eqM rfl rfl pt_ ?_ | refine x_eqS rfl rfl pt_ ?_ | refine x_sEq rfl rfl rfl pt_ ?_ | refine x_bin rfl rfl (by exact bEqT (by first | omega | decide)) pt_ ?_ | refine x_bin rfl rfl (by exact bEqF (by first | omega | decide)) pt_ ?_ | refine x_bin rfl rfl rfl pt_ ?_ | fail) | (refine is_neq ?_; first | refine x_neP rfl rfl pt_ ?_ | refine x_neI rfl rfl pt_ ?_ | refine x_sNe rfl rfl rfl pt_ ?_ | refine x_bin rfl rfl (by exact bNeT (by first | omega | decide)) pt_ ?_ | refine x_bin rfl rfl (by exact bNeF (by first | omega | decide)) pt_ ?_ | refine x_bin rfl rfl rfl pt_ ?_ | fail) | (refine is_unOp ?_; first | refine x_not rfl pt_ ?_ | fail) | (refine is_extract ?_; first | refine x_extract rfl rfl pt_ ?_ | fail) | (refine is_pick ?_; first | refine x_pick rfl rfl pt_ ?_ | fail) | (refine is_build ?_; first | refine x_bld rfl (by first | ((repeat (first | exact Bld.nil | (apply Bld.one; (exact rfl); (exact rfl); (focus (repeat constructor))) | (apply Bld.agg; (exact rfl); (exact rfl); (exact rfl); (focus (repeat (first | exact SetR.nil | (apply SetR.cons; (focus (repeat constructor))))))))) <;> fail) | fail) pt_ ?_ | fail) | (refine is_indexAddr ?_; first | refine x_atN rfl rfl (by omega) pt_ ?_ | refine x_atArrN rfl rfl (by omega) pt_ ?_ | fail) | (refine is_index ?_; first | refine x_sAt rfl rfl (by assumption) pt_ ?_ | refine x_idxA rfl rfl (by omega) rfl pt_ ?_ | fail) | (refine is_slice ?_; first | refine x_sH rfl rfl (by first | omega | (simp only [List.length_append, List.length_cons, List.length_nil]; omega)) pt_ ?_ | refine x_sL rfl rfl (by first | omega | (simp only [List.length_append, List.length_cons, List.length_nil]; omega)) pt_ ?_ | refine x_slArr0 rfl pt_ ?_ | refine x_slHi rfl rfl NatV.h (by omega) pt_ ?_ | refine x_slLo rfl rfl NatV.h (by omega) (by omega) (by omega) pt_ ?_ | refine x_slArrH rfl rfl NatV.h (by omega) pt_ ?_ | refine x_slArr rfl rfl NatV.h (by omega) pt_ ?_ | refine x_slLH rfl rfl rfl NatV.h NatV.h (by omega) (by omega) (by omega) pt_ ?_ | fail) | (refine is_add ?_; first | refine x_catT rfl rfl (by simp only [List.length_append, List.length_cons, List.length_nil]; omega) pt_ ?_ | refine x_bin rfl rfl (by exact bAddN wr_) pt_ ?_ | refine x_bin rfl rfl (by exact bAdd wr_) pt_ ?_ | refine x_bin rfl rfl rfl pt_ ?_ | fail) | (refine is_andNot ?_; first | refine x_bin rfl rfl (by exact bAndNot3 (by omega)) pt_ ?_ | refine x_bin rfl rfl rfl pt_ ?_ | fail) | (refine is_sub ?_; first | refine x_bin rfl rfl (by exact bSubN (by omega) wr_) pt_ ?_ | refine x_bin rfl rfl (by exact bSub wr_) pt_ ?_ | refine x_bin rfl rfl rfl pt_ ?_ | fail) | (refine is_mul ?_; first | refine x_bin rfl rfl (by exact bMulN wr_) pt_ ?_ | refine x_bin rfl rfl (by exact bMul wr_) pt_ ?_ | refine x_bin rfl rfl rfl pt_ ?_ | fail) | (refine is_quo ?_; first | refine x_bin rfl rfl (by exact bQuoN (by omega) wr_) pt_ ?_ | refine x_bin rfl rfl (by exact bQuo (by omega) (by omega) wr_) pt_ ?_ | refine x_bin rfl rfl rfl pt_ ?_ | fail) | (refine is_rem ?_; first | refine x_bin rfl rfl (by exact bRemN (by omega)) pt_ ?_ | refine x_bin rfl rfl (by exact bRem (by omega) (by omega)) pt_ ?_ | refine x_bin rfl rfl rfl pt_ ?_ | fail) | (refine is_and ?_; first | refine x_bin rfl rfl (by exact bAndN wr_ wr_) pt_ ?_ | refine x_bin rfl rfl rfl pt_ ?_ | fail) | (refine is_or ?_; first | refine x_bin rfl rfl (by exact bOrN wr_ wr_) pt_ ?_ | refine x_bin rfl rfl rfl pt_ ?_ | fail) | (refine is_xor ?_; first | refine x_bin rfl rfl (by exact bXorN wr_ wr_) pt_ ?_ | refine x_bin rfl rfl rfl pt_ ?_ | fail) | (refine is_lss ?_; first | refine x_bin rfl rfl (by exact bLtT (by first | omega | decide)) pt_ ?_ | refine x_bin rfl rfl (by exact bLtF (by first | omega | decide)) pt_ ?_ | refine x_bin rfl rfl rfl pt_ ?_ | fail) | (refine is_leq ?_; first | refine x_bin rfl rfl (by exact bLeT (by first | omega | decide)) pt_ ?_ | refine x_bin rfl rfl (by exact bLeF (by first | omega | decide)) pt_ ?_ | refine x_bin rfl rfl rfl pt_ ?_ | fail) | (refine is_gtr ?_; first | refine x_bin rfl rfl (by exact bGtT (by first | omega | decide)) pt_ ?_ | refine x_bin rfl rfl (by exact bGtF (by first | omega | decide)) pt_ ?_ | refine x_bin rfl rfl rfl pt_ ?_ | fail) | (refine is_geq ?_; first | refine x_bin rfl rfl (by exact bGeT (by first | omega | decide)) pt_ ?_ | refine x_bin rfl rfl (by exact bGeF (by first | omega | decide)) pt_ ?_ | refine x_bin rfl rfl rfl pt_ ?_ | fail) | fail
  exact h.out) : P := hs ⟨h⟩
theorem walk {P G : Prop} (h : G) (hs : Hold G → P := by
  intro h
  repeat (first | (refine is_op ?_; first | (refine is_guard ?_; first | refine x_skip rfl pt_ rfl ?_ | fail) | (refine is_move ?_; first | refine x_move rfl pt_ ?_ | fail) | (refine is_assign ?_; first | refine x_assign rfl pt_ ?_ | fail) | (refine is_nilCheck ?_; first | refine x_nilCheck rfl pt_ ?_ | fail) | (refine is_fieldAddr ?_; first | refine x_fieldAddr rfl pt_ ?_ | fail) | (refine is_load ?_; first | refine x_load rfl (by first | ((repeat (first | ((with_reducible apply Cell.here); exact rfl) | (with_reducible apply Cell.there))) <;> fail) | fail) pt_ ?_ | refine x_loadS rfl (by first | ((repeat (first | ((with_reducible apply Rows.here); (focus (repeat constructor))) | (with_reducible apply Rows.there))) <;> fail) | fail) pt_ ?_ | fail) | (refine is_min ?_; first | refine x_min rfl rfl pt_ ?_ | fail) | (refine is_max ?_; first | refine x_max rfl rfl pt_ ?_ | fail) | (refine is_cap ?_; first | refine x_cap rfl pt_ ?_ | fail) | (refine is_entry ?_; first | refine x_entry rfl take_ (by assumption) pt_ ?_ | fail) | (refine is_makeFunc ?_; first | refine x_func rfl rfl pt_ ?_ | fail) | (refine is_field ?_; first | refine x_fld rfl rfl pt_ ?_ | refine x_fldA rfl rfl pt_ ?_ | fail) | (refine is_store ?_; first | refine x_store rfl rfl rfl (by first | ((repeat (first | ((with_reducible apply Put.here); (repeat constructor)) | (with_reducible apply Put.there))) <;> fail) | fail) ?_ | refine x_storeA rfl rfl rfl rfl rfl (by first | ((repeat (first | ((with_reducible apply PutA.here); (focus (repeat (first | exact SetR.nil | (apply SetR.cons; (focus (repeat constructor))))))) | (with_reducible apply PutA.there))) <;> fail) | fail) ?_ | fail) | (refine is_convert ?_; first | refine x_convN rfl wr_ pt_ ?_ | refine x_conv rfl wr_ pt_ ?_ | fail) | (refine is_shl ?_; first | refine x_shlN rfl rfl (by first | decide | (simp only [IntKind.bits]; omega)) wr_ pt_ ?_ | fail) | (refine is_shr ?_; first | refine x_shrN rfl rfl (by first | decide | (simp only [IntKind.bits]; omega)) pt_ ?_ | fail) | (refine is_len ?_; first | refine x_len rfl pt_ ?_ | refine x_lenT rfl pt_ ?_ | refine x_lenS rfl pt_ ?_ | fail) | (refine is_eql ?_; first | refine x_eqP rfl rfl pt_ ?_ | refine x_eqI rfl rfl pt_ ?_ | refine x_eqM rfl rfl pt_ ?_ | refine x_eqS rfl rfl pt_ ?_ | refine x_sEq rfl rfl rfl pt_ ?_ | refine x_bin rfl rfl (by exact bEqT (by first | omega | decide)) pt_ ?_ | refine x_bin rfl rfl (by exact bEqF (by first | omega | decide)) pt_ ?_ | refine x_bin rfl rfl rfl pt_ ?_ | fail) | (refine is_neq ?_; first | refine x_neP rfl rfl pt_ ?_ | refine x_neI rfl rfl pt_ ?_ | refine x_sNe rfl rfl rfl pt_ ?_ | refine x_bin rfl rfl (by exact bNeT (by first | omega | decide)) pt_ ?_ | refine x_bin rfl rfl (by exact bNeF (by first | omega | decide)) pt_ ?_ | refine x_bin rfl rfl rfl pt_ ?_ | fail) | (refine is_unOp ?_; first | refine x_not rfl pt_ ?_ | fail) | (refine is_extract ?_; first | refine x_extract rfl rfl pt_ ?_ | fail) | (refine is_pick ?_; first | refine x_pick rfl rfl pt_ ?_ | fail) | (refine is_build ?_; first | refine x_bld rfl (by first | ((repeat (first | exact Bld.nil | (apply Bld.one; (exact rfl); (exact rfl); (focus (repeat constructor))) | (apply Bld.agg; (exact rfl); (exact rfl); (exact rfl); (focus (repeat (first | exact SetR.nil | (apply SetR.cons; (focus (repeat constructor))))))))) <;> fail) | fail) pt_ ?_ | fail) | (refine is_indexAddr ?_; first | refine x_atN rfl rfl (by omega) pt_ ?_ | refine x_atArrN rfl rfl (by omega) pt_ ?_ | fail) | (refine is_index ?_; first | refine x_sAt rfl rfl (by assumption) pt_ ?_ | refine x_idxA rfl rfl (by omega) rfl pt_ ?_ | fail) | (refine is_slice ?_; first | refine x_sH rfl rfl (by first | omega | (simp only [List.length_append, List.length_cons, List.length_nil]; omega)) pt_ ?_ | refine x_sL rfl rfl (by first | omega | (simp only [List.length_append, List.length_cons, List.length_nil]; omega)) pt_ ?_ | refine x_slArr0 rfl pt_ ?_ | refine x_slHi rfl rfl NatV.h (by omega) pt_ ?_ | refine x_slLo rfl rfl NatV.h (by omega) (by omega) (by omega) pt_ ?_ | refine x_slArrH rfl rfl NatV.h (by omega) pt_ ?_ | refine x_slArr rfl rfl NatV.h (by omega) pt_ ?_ | refine x_slLH rfl rfl rfl NatV.h NatV.h (by omega) (by omega) (by omega) pt_ ?_ | fail) | (refine is_add ?_; first | refine x_catT rfl rfl (by simp only [List.length_append, List.length_cons, List.length_nil]; omega) pt_ ?_ | refine x_bin rfl rfl (by exact bAddN wr_) pt_ ?_ | refine x_bin rfl rfl (by exact bAdd wr_) pt_ ?_ | refine x_bin rfl rfl rfl pt_ ?_ | fail) | (refine is_andNot ?_; first | refine x_bin rfl rfl (by exact bAndNot3 (by omega)) pt_ ?_ | refine x_bin rfl rfl rfl pt_ ?_ | fail) | (refine is_sub ?_; first | refine x_bin rfl rfl (by exact bSubN (by omega) wr_) pt_ ?_ | refine x_bin rfl rfl (by exact bSub wr_) pt_ ?_ | refine x_bin rfl rfl rfl pt_ ?_ | fail) | (refine is_mul ?_; first | refine x_bin rfl rfl (by exact bMulN wr_) pt_ ?_ | refine x_bin rfl rfl (by exact bMul wr_) pt_ ?_ | refine x_bin rfl rfl rfl pt_ ?_ | fail) | (refine is_quo ?_; first | refine x_bin rfl rfl (by exact bQuoN (by omega) wr_) pt_ ?_ | refine x_bin rfl rfl (by exact bQuo (by omega) (by omega) wr_) pt_ ?_ | refine x_bin rfl rfl rfl pt_ ?_ | fail) | (refine is_rem ?_; first | refine x_bin rfl rfl (by exact bRemN (by omega)) pt_ ?_ | refine x_bin rfl rfl (by exact bRem (by omega) (by omega)) pt_ ?_ | refine x_bin rfl rfl rfl pt_ ?_ | fail) | (refine is_and ?_; first | refine x_bin rfl rfl (by exact bAndN wr_ wr_) pt_ ?_ | refine x_bin rfl rfl rfl pt_ ?_ | fail) | (refine is_or ?_; first | refine x_bin rfl rfl (by exact bOrN wr_ wr_) pt_ ?_ | refine x_bin rfl rfl rfl pt_ ?_ | fail) | (refine is_xor ?_; first | refine x_bin rfl rfl (by exact bXorN wr_ wr_) pt_ ?_ | refine x_bin rfl rfl rfl pt_ ?_ | fail) | (refine is_lss ?_; first | refine x_bin rfl rfl (by exact bLtT (by first | omega | decide)) pt_ ?_ | refine x_bin rfl rfl (by exact bLtF (by first | omega | decide)) pt_ ?_ | refine x_bin rfl rfl rfl pt_ ?_ | fail) | (refine is_leq ?_; first | refine x_bin rfl rfl (by exact bLeT (by first | omega | decide)) pt_ ?_ | refine x_bin rfl rfl (by exact bLeF (by first | omega | decide)) pt_ ?_ | refine x_bin rfl rfl rfl pt_ ?_ | fail) | (refine is_gtr ?_; first | refine x_bin rfl rfl (by exact bGtT (by first | omega | decide)) pt_ ?_ | refine x_bin rfl rfl (by exact bGtF (by first | omega | decide)) pt_ ?_ | refine x_bin rfl rfl rfl pt_ ?_ | fail) | (refine is_geq ?_; first | refine x_bin rfl rfl (by exact bGeT (by first | omega | decide)) pt_ ?_ | refine x_bin rfl rfl (by exact bGeF (by first | omega | decide)) pt_ ?_ | refine x_bin rfl rfl rfl pt_ ?_ | fail) | fail) | (refine is_E ?_; first | refine e_seq ?_ | (refine is_reg ?_; refine e_regionK ?_ (by first | ((repeat (first | exact KeepR.nil | apply KeepR.yes rfl | apply KeepR.no rfl)) <;> fail) | fail)) | refine e_region ?_ | refine e_true rfl ?_ | refine e_false rfl ?_ | refine e_skip ?_ | refine e_block ?_ | refine e_inBlock ?_ | refine e_exit rfl ?_ | (refine is_draw ?_; refine e_drawK ?_ (by first | ((repeat (first | exact KeepR.nil | apply KeepR.yes rfl | apply KeepR.no rfl)) <;> fail) | fail)) | (refine is_draw ?_; refine e_draw ?_) | fail) | refine x_end ?_ | fail)
  exact h.out) : P := hs ⟨h⟩
theorem y_loop {X : Fx} {k : List Item} {loc : List Value} {tmp : List (Nat × Value)} {L : List HP} {c : Code} (h : E X (.code c :: .inLoop c :: k) loc tmp L) : E X (.code (.loop c) :: k) loc tmp L := fun w0 S0 a w hr hs => tt_loop (h w0 S0 a w hr hs)
theorem y_again {X : Fx} {k : List Item} {loc : List Value} {tmp : List (Nat × Value)} {L : List HP} {c : Code} (h : E X (.code c :: .inLoop c :: k) loc tmp L) : E X (.inLoop c :: k) loc tmp L := fun w0 S0 a w hr hs => tt_inLoop (h w0 S0 a w hr hs)
theorem walkO {P G : Prop} (h : G) (hs : Hold G → P := by
  intro h
  repeat (refine is_op ?_; first | (refine is_guard ?_; first | refine x_skip rfl pt_ rfl ?_ | fail) | (refine is_move ?_; first | refine x_move rfl pt_ ?_ | fail) | (refine is_assign ?_; first | refine x_assign rfl pt_ ?_ | fail) | (refine is_nilCheck ?_; first | refine x_nilCheck rfl pt_ ?_ | fail) | (refine is_fieldAddr ?_; first | refine x_fieldAddr rfl pt_ ?_ | fail) | (refine is_load ?_; first | refine x_load rfl (by first | ((repeat (first | ((with_reducible apply Cell.here); exact rfl) | (with_reducible apply Cell.there))) <;> fail) | fail) pt_ ?_ | refine x_loadS rfl (by first | ((repeat (first | ((with_reducible apply Rows.here); (focus (repeat constructor))) | (with_reducible apply Rows.there))) <;> fail) | fail) pt_ ?_ | fail) | (refine is_min ?_; first | refine x_min rfl rfl pt_ ?_ | fail) | (refine is_max ?_; first | refine x_max rfl rfl pt_ ?_ | fail) | (refine is_cap ?_; first | refine x_cap rfl pt_ ?_ | fail) | (refine is_entry ?_; first | refine x_entry rfl take_ (by assumption) pt_ ?_ | fail) | (refine is_makeFunc ?_; first | refine x_func rfl rfl pt_ ?_ | fail) | (refine is_field ?_; first | refine x_fld rfl rfl pt_ ?_ | refine x_fldA rfl rfl pt_ ?_ | fail) | (refine is_store ?_; first | refine x_store rfl rfl rfl (by first | ((repeat (first | ((with_reducible apply Put.here); (repeat constructor)) | (with_reducible apply Put.there))) <;> fail) | fail) ?_ | refine x_storeA rfl rfl rfl rfl rfl (by first | ((repeat (first | ((with_reducible apply PutA.here); (focus (repeat (first | exact SetR.nil | (apply SetR.cons; (focus (repeat constructor))))))) | (with_reducible apply PutA.there))) <;> fail) | fail) ?_ | fail) | (refine is_convert ?_; first | refine x_convN rfl wr_ pt_ ?_ | refine x_conv rfl wr_ pt_ ?_ | fail) | (refine is_shl ?_; first | refine x_shlN rfl rfl (by first | decide | (simp only [IntKind.bits]; omega)) wr_ pt_ ?_ | fail) | (refine is_shr ?_; first | refine x_shrN rfl rfl (by first | decide | (simp only [IntKind.bits]; omega)) pt_ ?_ | fail) | (refine is_len ?_; first | refine x_len rfl pt_ ?_ | refine x_lenT rfl pt_ ?_ | refine x_lenS rfl pt_ ?_ | fail) | (refine is_eql ?_; first | refine x_eqP rfl rfl pt_ ?_ | refine x_eqI rfl rfl pt_ ?_ | refine x_eqM rfl rfl pt_ ?_ | refine x_eqS rfl rfl pt_ ?_ | refine x_sEq rfl rfl rfl pt_ ?_ | refine x_bin rfl rfl (by exact bEqT (by first | omega | decide)) pt_ ?_ | refine x_bin rfl rfl (by exact bEqF (by first | omega | decide)) pt_ ?_ | refine x_bin rfl rfl rfl pt_ ?_ | fail) | (refine is_neq ?_; first | refine x_neP rfl rfl pt_ ?_ | refine x_neI rfl rfl pt_ ?_ | refine x_sNe rfl rfl rfl pt_ ?_ | refine x_bin rfl rfl (by exact bNeT (by first | omega | decide)) pt_ ?_ | refine x_bin rfl rfl (by exact bNeF (by first | omega | decide)) pt_ ?_ | refine x_bin rfl rfl rfl pt_ ?_ | fail) | (refine is_unOp ?_; first | refine x_not rfl pt_ ?_ | fail) | (refine is_extract ?_; first | refine x_extract rfl rfl pt_ ?_ | fail) | (refine is_pick ?_; first | refine x_pick rfl rfl pt_ ?_ | fail) | (refine is_build ?_; first | refine x_bld rfl (by first | ((repeat (first | exact Bld.nil | (apply Bld.one; (exact rfl); (exact rfl); (focus (repeat constructor))) | (apply Bld.agg; (exact rfl); (exact rfl); (exact rfl); (focus (repeat (first | exact SetR.nil | (apply SetR.cons; (focus (repeat constructor))))))))) <;> fail) | fail) pt_ ?_ | fail) | (refine is_indexAddr ?_; first | refine x_atN rfl rfl (by omega) pt_ ?_ | refine x_atArrN rfl rfl (by omega) pt_ ?_ | fail) | (refine is_index ?_; first | refine x_sAt rfl rfl (by assumption) pt_ ?_ | refine x_idxA rfl rfl (by omega) rfl pt_ ?_ | fail) | (refine is_slice ?_; first | refine x_sH rfl rfl (by first | omega | (simp only [List.length_append, List.length_cons, List.length_nil]; omega)) pt_ ?_ | refine x_sL rfl rfl (by first | omega | (simp only [List.length_append, List.length_cons, List.length_nil]; omega)) pt_ ?_ | refine x_slArr0 rfl pt_ ?_ | refine x_slHi rfl rfl NatV.h (by omega) pt_ ?_ | refine x_slLo rfl rfl NatV.h (by omega) (by omega) (by omega) pt_ ?_ | refine x_slArrH rfl rfl NatV.h (by omega) pt_ ?_ | refine x_slArr rfl rfl NatV.h (by omega) pt_ ?_ | refine x_slLH rfl rfl rfl NatV.h NatV.h (by omega) (by omega) (by omega) pt_ ?_ | fail) | (refine is_add ?_; first | refine x_catT rfl rfl (by simp only [List.length_append, List.length_cons, List.length_nil]; omega) pt_ ?_ | refine x_bin rfl rfl (by exact bAddN wr_) pt_ ?_ | refine x_bin rfl rfl (by exact bAdd wr_) pt_ ?_ | refine x_bin rfl rfl rfl pt_ ?_ | fail) | (refine is_andNot ?_; first | refine x_bin rfl rfl (by exact bAndNot3 (by omega)) pt_ ?_ | refine x_bin rfl rfl rfl pt_ ?_ | fail) | (refine is_sub ?_; first | refine x_bin rfl rfl (by exact bSubN (by omega) wr_) pt_ ?_ | refine x_bin rfl rfl (by exact bSub wr_) pt_ ?_ | refine x_bin rfl rfl rfl pt_ ?_ | fail) | (refine is_mul ?_; first | refine x_bin rfl rfl (by exact bMulN wr_) pt_ ?_ | refine x_bin rfl rfl (by exact bMul wr_) pt_ ?_ | refine x_bin rfl rfl rfl pt_ ?_ | fail) | (refine is_quo ?_; first | refine x_bin rfl rfl (by exact bQuoN (by omega) wr_) pt_ ?_ | refine x_bin rfl rfl (by exact bQuo (by omega) (by omega) wr_) pt_ ?_ | refine x_bin rfl rfl rfl pt_ ?_ | fail) | (refine is_rem ?_; first | refine x_bin rfl rfl (by exact bRemN (by omega)) pt_ ?_ | refine x_bin rfl rfl (by exact bRem (by omega) (by omega)) pt_ ?_ | refine x_bin rfl rfl rfl pt_ ?_ | fail) | (refine is_and ?_; first | refine x_bin rfl rfl (by exact bAndN wr_ wr_) pt_ ?_ | refine x_bin rfl rfl rfl pt_ ?_ | fail) | (refine is_or ?_; first | refine x_bin rfl rfl (by exact bOrN wr_ wr_) pt_ ?_ | refine x_bin rfl rfl rfl pt_ ?_ | fail) | (refine is_xor ?_; first | refine x_bin rfl rfl (by exact bXorN wr_ wr_) pt_ ?_ | refine x_bin rfl rfl rfl pt_ ?_ | fail) | (refine is_lss ?_; first | refine x_bin rfl rfl (by exact bLtT (by first | omega | decide)) pt_ ?_ | refine x_bin rfl rfl (by exact bLtF (by first | omega | decide)) pt_ ?_ | refine x_bin rfl rfl rfl pt_ ?_ | fail) | (refine is_leq ?_; first | refine x_bin rfl rfl (by exact bLeT (by first | omega | decide)) pt_ ?_ | refine x_bin rfl rfl (by exact bLeF (by first | omega | decide)) pt_ ?_ | refine x_bin rfl rfl rfl pt_ ?_ | fail) | (refine is_gtr ?_; first | refine x_bin rfl rfl (by exact bGtT (by first | omega | decide)) pt_ ?_ | refine x_bin rfl rfl (by exact bGtF (by first | omega | decide)) pt_ ?_ | refine x_bin rfl rfl rfl pt_ ?_ | fail) | (refine is_geq ?_; first | refine x_bin rfl rfl (by exact bGeT (by first | omega | decide)) pt_ ?_ | refine x_bin rfl rfl (by exact bGeF (by first | omega | decide)) pt_ ?_ | refine x_bin rfl rfl rfl pt_ ?_ | fail) | fail)
  exact h.out) : P := hs ⟨h⟩
theorem walko {P G : Prop} (h : G) (hs : Hold G → P := by
  intro h
  repeat (first | refine op1 ?_ | refine x_end ?_)
  exact h.out) : P := hs ⟨h⟩
theorem walk1 {P G : Prop} (h : G) (hs : Hold G → P := by
  intro h
  first | refine op1 ?_ | (refine is_E ?_; first | refine e_seq ?_ | (refine is_reg ?_; refine e_regionK ?_ (by first | ((repeat (first | exact KeepR.nil | apply KeepR.yes rfl | apply KeepR.no rfl)) <;> fail) | fail)) | refine e_region ?_ | refine e_true rfl ?_ | refine e_false rfl ?_ | refine e_skip ?_ | refine e_block ?_ | refine e_inBlock ?_ | refine e_exit rfl ?_ | (refine is_draw ?_; refine e_drawK ?_ (by first | ((repeat (first | exact KeepR.nil | apply KeepR.yes rfl | apply KeepR.no rfl)) <;> fail) | fail)) | (refine is_draw ?_; refine e_draw ?_) | fail) | refine x_end ?_ | fail
  repeat (first | refine op1 ?_ | (refine is_E ?_; first | refine e_seq ?_ | (refine is_reg ?_; refine e_regionK ?_ (by first | ((repeat (first | exact KeepR.nil | apply KeepR.yes rfl | apply KeepR.no rfl)) <;> fail) | fail)) | refine e_region ?_ | refine e_true rfl ?_ | refine e_false rfl ?_ | refine e_skip ?_ | refine e_block ?_ | refine e_inBlock ?_ | refine e_exit rfl ?_ | (refine is_draw ?_; refine e_drawK ?_ (by first | ((repeat (first | exact KeepR.nil | apply KeepR.yes rfl | apply KeepR.no rfl)) <;> fail) | fail)) | (refine is_draw ?_; refine e_draw ?_) | fail) | refine x_end ?_ | fail)
  exact h.out) : P := hs ⟨h⟩
section
variable {X : Fx} {ops : Array Oper} {cf : Nat → Cls} {k : List Item} {i : Nat} {is : List Nat} {l : List Oper} {loc loc' : List Value} {tmp tmp' : List (Nat × Value)} {L L' F M N : List HP}
  {d : Option Tmp} {ty : TypeId} {pos : String} {aft : Array Edge} {gd : Option (Nat × Bool)} {locf : Nat → List Value} {tmpf : Nat → List (Nat × Value)}
theorem y_alloc {T : Nat} {z : List Value} [hz : ZeroOf X.P T z] (h : ∀ g, EO X ops cf k is l (locf g) (tmpf g) (Cells g T z :: L))
    (hp : ∀ g, Pt loc tmp d (.pointer (some ⟨g, 0, none⟩)) (locf g) (tmpf g) := by intro g; first | exact Pt.tmp rfl | exact Pt.none | exact Pt.loc (by repeat constructor))
    (hg : gdv ops loc tmp gd = some true := by rfl) (hd : dOK X.n d = true := by rfl) (hcl : (cf i).news = true := by rfl) (hq : X.q = false := by rfl) : EO X ops cf k (i :: is) (⟨d, .alloc T, ty, pos, aft, gd⟩ :: l) loc tmp L :=
  x_alloc (fun g => ⟨_, _, hp g, h g⟩) hg hd hcl hq
theorem y_box {T : Nat} {x : Operand} {v : Value} (hx : sv loc tmp x = some v) (h : ∀ g, EO X ops cf k is l (locf g) (tmpf g) (Cells g T v.cells.toList :: L))
    (hp : ∀ g, Pt loc tmp d (.pointer (some ⟨g, 0, none⟩)) (locf g) (tmpf g) := by intro g; first | exact Pt.tmp rfl | exact Pt.none | exact Pt.loc (by repeat constructor))
    (hg : gdv ops loc tmp gd = some true := by rfl) (hd : dOK X.n d = true := by rfl) (hcl : (cf i).news = true := by rfl) (hq : X.q = false := by rfl) : EO X ops cf k (i :: is) (⟨d, .box T x, ty, pos, aft, gd⟩ :: l) loc tmp L :=
  x_box hx (fun g => ⟨_, _, hp g, h g⟩) hg hd hcl hq
theorem y_boxA {T : Nat} {x : Operand} {vs : List Value} (hx : sv loc tmp x = some (.agg vs.toArray)) (h : ∀ g, EO X ops cf k is l (locf g) (tmpf g) (Cells g T vs :: L))
    (hp : ∀ g, Pt loc tmp d (.pointer (some ⟨g, 0, none⟩)) (locf g) (tmpf g) := by intro g; first | exact Pt.tmp rfl | exact Pt.none | exact Pt.loc (by repeat constructor))
    (hg : gdv ops loc tmp gd = some true := by rfl) (hd : dOK X.n d = true := by rfl) (hcl : (cf i).news = true := by rfl) (hq : X.q = false := by rfl) : EO X ops cf k (i :: is) (⟨d, .box T x, ty, pos, aft, gd⟩ :: l) loc tmp L :=
  x_boxA hx (fun g => ⟨_, _, hp g, h g⟩) hg hd hcl hq
theorem y_map {T : Nat} (h : ∀ g, EO X ops cf k is l (locf g) (tmpf g) (MapS g [] :: L))
    (hp : ∀ g, Pt loc tmp d (.map (some g)) (locf g) (tmpf g) := by intro g; first | exact Pt.tmp rfl | exact Pt.none | exact Pt.loc (by repeat constructor))
    (hg : gdv ops loc tmp gd = some true := by rfl) (hd : dOK X.n d = true := by rfl) (hcl : (cf i).news = true := by rfl) (hq : X.q = false := by rfl) : EO X ops cf k (i :: is) (⟨d, .makeMap T none, ty, pos, aft, gd⟩ :: l) loc tmp L :=
  x_mkMap (fun g => ⟨_, _, hp g, h g⟩) hg hd hcl hq
theorem y_make {t e b n : Nat} {z : Value} {K K' : IntKind} {x y : Operand} {p : Int} [SlE X.P t e 1 b [z]] [hv : NatV p n] (hx : sv loc tmp x = some (.int K p)) (hy : sv loc tmp y = some (.int K' p))
    (h : ∀ g, EO X ops cf k is l (locf g) (tmpf g) (Own (some ⟨g, 0, none⟩) n e 1 n (List.replicate n z) :: L))
    (hb : b * n ≤ 281474976710656 := by omega) (h63 : n ≤ 9223372036854775807 := by omega)
    (hp : ∀ g, Pt loc tmp d (.slice (some ⟨g, 0, none⟩) n n) (locf g) (tmpf g) := by intro g; first | exact Pt.tmp rfl | exact Pt.none | exact Pt.loc (by repeat constructor))
    (hg : gdv ops loc tmp gd = some true := by rfl) (hd : dOK X.n d = true := by rfl) (hcl : (cf i).news = true := by rfl) (hq : X.q = false := by rfl) : EO X ops cf k (i :: is) (⟨d, .makeSlice t x y, ty, pos, aft, gd⟩ :: l) loc tmp L :=
  x_make hx hy hv.h hb h63 (fun g => ⟨_, _, hp g, h g⟩) hg hd hcl hq
theorem y_build0 {t e sz b : Nat} {z : List Value} [SlE X.P t e sz b z] (h : ∀ g, EO X ops cf k is l (locf g) (tmpf g) (Own (some ⟨g, 0, none⟩) 0 e sz 0 [] :: L))
    (hp : ∀ g, Pt loc tmp d (.slice (some ⟨g, 0, none⟩) 0 0) (locf g) (tmpf g) := by intro g; first | exact Pt.tmp rfl | exact Pt.none | exact Pt.loc (by repeat constructor))
    (hg : gdv ops loc tmp gd = some true := by rfl) (hd : dOK X.n d = true := by rfl) (hcl : (cf i).news = true := by rfl) (hq : X.q = false := by rfl) : EO X ops cf k (i :: is) (⟨d, .buildSlice t 0 #[], ty, pos, aft, gd⟩ :: l) loc tmp L :=
  x_build0 (fun g => ⟨_, _, hp g, h g⟩) hg hd hcl hq
theorem y_build1 {t e b n : Nat} {z : Value} {ps : List (Nat × Operand)} {vs : List Value} [SlE X.P t e 1 b [z]] (hv : svs loc tmp (ps.map (·.2)) = some vs)
    (h : ∀ g, EO X ops cf k is l (locf g) (tmpf g) (Own (some ⟨g, 0, none⟩) n e 1 n vs :: L))
    (hi : ps.map (·.1) = List.range' 0 n := by rfl) (hl : vs.length = n := by rfl) (h1 : vs.all (·.oneCell') = true := by rfl) (hn : Nat.ble n 16777216 = true := by rfl) (hpos : Nat.beq n 0 = false := by rfl)
    (hp : ∀ g, Pt loc tmp d (.slice (some ⟨g, 0, none⟩) n n) (locf g) (tmpf g) := by intro g; first | exact Pt.tmp rfl | exact Pt.none | exact Pt.loc (by repeat constructor))
    (hg : gdv ops loc tmp gd = some true := by rfl) (hd : dOK X.n d = true := by rfl) (hcl : (cf i).news = true := by rfl) (hq : X.q = false := by rfl) : EO X ops cf k (i :: is) (⟨d, .buildSlice t n ps.toArray, ty, pos, aft, gd⟩ :: l) loc tmp L :=
  x_build1 hv hi hl h1 hn hpos (fun g => ⟨_, _, hp g, h g⟩) hg hd hcl hq
theorem y_build {t e sz b n : Nat} {z : List Value} {ps : List (Nat × Operand)} {vs : List Value} {cs : List Value} [SlE X.P t e sz b z] (hv : svs loc tmp (ps.map (·.2)) = some vs)
    (hf : Instr.fill (fun i => some (i * sz, sz)) ((Array.range (n * sz)).map (z.toArray[· % z.length]!)) ((ps.map (·.1)).zip vs) = some cs.toArray) (hcs : cs.length = n * sz)
    (h : ∀ g, EO X ops cf k is l (locf g) (tmpf g) (Own (some ⟨g, 0, none⟩) n e sz n cs :: L))
    (hn : Nat.ble (n * sz) 16777216 = true := by rfl) (hnn : Nat.ble n 16777216 = true := by rfl) (hpos : Nat.beq (n * sz) 0 = false := by rfl)
    (hp : ∀ g, Pt loc tmp d (.slice (some ⟨g, 0, none⟩) n n) (locf g) (tmpf g) := by intro g; first | exact Pt.tmp rfl | exact Pt.none | exact Pt.loc (by repeat constructor))
    (hg : gdv ops loc tmp gd = some true := by rfl) (hd : dOK X.n d = true := by rfl) (hcl : (cf i).news = true := by rfl) (hq : X.q = false := by rfl) : EO X ops cf k (i :: is) (⟨d, .buildSlice t n ps.toArray, ty, pos, aft, gd⟩ :: l) loc tmp L :=
  x_build hv hf hn hnn hpos hcs (fun g => ⟨_, _, hp g, h g⟩) hg hd hcl hq
variable {loca : Option Addr → Nat → List Value} {tmpa : Option Addr → Nat → List (Nat × Value)}
theorem y_app1 {t e b n m c c' g o : Nat} {z : Value} {x y : Operand} {A : Option Addr} {vs news : List Value} [SlE X.P t e 1 b [z]] (hx : sv loc tmp x = some (.slice A n c)) (hy : sv loc tmp y = some (.slice (some ⟨g, o, none⟩) m c'))
    (h : ∀ A' c', EO X ops cf k is l (loca A' c') (tmpa A' c') (Own A' c' e 1 (n + m) (vs ++ news) :: F))
    (ht : Take (Own A c e 1 n vs) L F := by exact take_) (hr : CellRow F g o news := by first | ((repeat (first | exact CellRow.own | exact CellRow.here | apply CellRow.there)) <;> fail) | fail) (hm : news.length = m := by first | rfl | exact enc_len _ | simp) (h1 : news.all (·.oneCell') = true := by first | rfl | exact enc_all _) (h63 : n + m ≤ 1000000000000 := by omega) (hby : (n + m) * b ≤ 140737488355328 := by omega)
    (hp : ∀ A' c', Pt loc tmp d (.slice A' (n + m) c') (loca A' c') (tmpa A' c') := by intro A' c'; first | exact Pt.tmp rfl | exact Pt.none | exact Pt.loc (by repeat constructor))
    (hg : gdv ops loc tmp gd = some true := by rfl) (hd : dOK X.n d = true := by rfl) (hcl : cf i = .any := by rfl) (hq : X.q = false := by rfl) :
    EO X ops cf k (i :: is) (⟨d, .call ⟨.builtin .append, #[x, y], #[t, t]⟩, ty, pos, aft, gd⟩ :: l) loc tmp L :=
  x_app1 hx hy ht hr hm h1 h63 hby (fun A' c' => ⟨_, _, hp A' c', h A' c'⟩) hg hd hcl hq
theorem y_appE {t e n m c c' g o : Nat} {z : Value} {x y : Operand} {A : Option Addr} {bs us : List UInt8} [SlE X.P t e 1 1 [z]] (hx : sv loc tmp x = some (.slice A n c)) (hy : sv loc tmp y = some (.slice (some ⟨g, o, none⟩) m c'))
    (h : ∀ A' c', EO X ops cf k is l (loca A' c') (tmpa A' c') (Own A' c' e 1 (n + m) (enc (bs ++ us)) :: F))
    (ht : Take (Own A c e 1 n (enc bs)) L F := by exact take_) (hr : CellRow F g o (enc us) := by first | ((repeat (first | exact CellRow.own | exact CellRow.here | apply CellRow.there)) <;> fail) | fail) (hm : us.length = m := by first | rfl | assumption | simp) (h63 : n + m ≤ 1000000000000 := by omega)
    (hp : ∀ A' c', Pt loc tmp d (.slice A' (n + m) c') (loca A' c') (tmpa A' c') := by intro A' c'; first | exact Pt.tmp rfl | exact Pt.none | exact Pt.loc (by repeat constructor))
    (hg : gdv ops loc tmp gd = some true := by rfl) (hd : dOK X.n d = true := by rfl) (hcl : cf i = .any := by rfl) (hq : X.q = false := by rfl) :
    EO X ops cf k (i :: is) (⟨d, .call ⟨.builtin .append, #[x, y], #[t, t]⟩, ty, pos, aft, gd⟩ :: l) loc tmp L :=
  x_appE hx hy ht hr hm h63 (fun A' c' => ⟨_, _, hp A' c', h A' c'⟩) hg hd hcl hq
/-! ### maps -/
theorem y_lookS {T kt e g : Nat} {z u : Value} {x y : Operand} {s : ByteArray} {es : Ents} [hT : MapTy X.P T kt e z] (he : look es s = some u) (h : EO X ops cf k is l loc' tmp' L)
    (hx : sv loc tmp x = some (.map (some g)) := by rfl) (hy : sv loc tmp y = some (.string s) := by rfl) (ht : Take (MapS g es) L F := by exact take_) (hp : Pt loc tmp d u loc' tmp' := by exact pt_)
    (hg : gdv ops loc tmp gd = some true := by rfl) (hd : dOK X.n d = true := by rfl) (hcl : (cf i).reads = true := by rfl) : EO X ops cf k (i :: is) (⟨d, .lookup T x y false, ty, pos, aft, gd⟩ :: l) loc tmp L :=
  x_look hx hy ht (by rw [he]; exact hp) h hg hd hcl
theorem y_lookOkS {T kt e g : Nat} {z u : Value} {x y : Operand} {s : ByteArray} {es : Ents} [hT : MapTy X.P T kt e z] (he : look es s = some u) (h : EO X ops cf k is l loc' tmp' L)
    (hx : sv loc tmp x = some (.map (some g)) := by rfl) (hy : sv loc tmp y = some (.string s) := by rfl) (ht : Take (MapS g es) L F := by exact take_) (hp : Pt loc tmp d (.tuple #[u, .bool true]) loc' tmp' := by exact pt_)
    (hg : gdv ops loc tmp gd = some true := by rfl) (hd : dOK X.n d = true := by rfl) (hcl : (cf i).reads = true := by rfl) : EO X ops cf k (i :: is) (⟨d, .lookup T x y true, ty, pos, aft, gd⟩ :: l) loc tmp L :=
  x_lookOk hx hy ht (by rw [he]; exact hp) h hg hd hcl
theorem y_mapSet {T kt e g : Nat} {z u : Value} {x y v : Operand} {s : ByteArray} {es : Ents} [hT : MapTy X.P T kt e z] (h : EO X ops cf k is l loc' tmp' (MapS g (upd es s u) :: F))
    (hx : sv loc tmp x = some (.map (some g)) := by rfl) (hy : sv loc tmp y = some (.string s) := by rfl) (hv : sv loc tmp v = some u := by rfl) (ht : Take (MapS g es) L F := by exact take_) (hp : Pt loc tmp d undef loc' tmp' := by exact pt_)
    (hg : gdv ops loc tmp gd = some true := by rfl) (hd : dOK X.n d = true := by rfl) (hcl : cf i = .any := by rfl) (hq : X.q = false := by rfl) : EO X ops cf k (i :: is) (⟨d, .mapUpdate T x y v, ty, pos, aft, gd⟩ :: l) loc tmp L :=
  x_mapSet hx hy hv ht hp h hg hd hcl hq
theorem y_lenM {t kt e g : Nat} {z : Value} {x : Operand} {es : Ents} [hT : MapTy X.P t kt e z] (hx : sv loc tmp x = some (.map (some g))) (h : EO X ops cf k is l loc' tmp' L)
    (ht : Take (MapS g es) L F := by exact take_) (hp : Pt loc tmp d (.int .i64 es.length) loc' tmp' := by exact pt_)
    (hg : gdv ops loc tmp gd = some true := by rfl) (hd : dOK X.n d = true := by rfl) (hcl : (cf i).reads = true := by rfl) : EO X ops cf k (i :: is) (⟨d, .call ⟨.builtin .len, #[x], #[t]⟩, ty, pos, aft, gd⟩ :: l) loc tmp L :=
  x_lenM hx ht hp h hg hd hcl
theorem y_range {T kt e gm : Nat} {z : Value} {x : Operand} {es : Ents} [hT : MapTy X.P T kt e z] (h : ∀ g, EO X ops cf k is l (locf g) (tmpf g) (MapIt g gm es [] :: F))
    (hx : sv loc tmp x = some (.map (some gm)) := by rfl) (ht : Take (MapS gm es) L F := by exact take_)
    (hp : ∀ g, Pt loc tmp d (.pointer (some ⟨g, 0, none⟩)) (locf g) (tmpf g) := by intro g; first | exact Pt.tmp rfl | exact Pt.none | exact Pt.loc (by repeat constructor))
    (hg : gdv ops loc tmp gd = some true := by rfl) (hd : dOK X.n d = true := by rfl) (hcl : cf i = .any := by rfl) (hq : X.q = false := by rfl) : EO X ops cf k (i :: is) (⟨d, .range T x, ty, pos, aft, gd⟩ :: l) loc tmp L :=
  x_range hx ht (fun g => ⟨_, _, hp g, h g⟩) hg hd hcl hq
theorem y_next {g gm : Nat} {x : Operand} {es : Ents} {done : List Nat} {locn : ByteArray → Value → List Value} {tmpn : ByteArray → Value → List (Nat × Value)}
    (hov : (∀ j, j < es.length → j ∈ done) → EO X ops cf k is l loc' tmp' (MapIt g gm es done :: F))
    (hnx : ∀ j s u, es[j]? = some (s, u) → j ∉ done → EO X ops cf k is l (locn s u) (tmpn s u) (MapIt g gm es (j :: done) :: F))
    (hx : sv loc tmp x = some (.pointer (some ⟨g, 0, none⟩)) := by rfl) (ht : Take (MapIt g gm es done) L F := by exact take_)
    (hp : Pt loc tmp d (.tuple #[.bool false]) loc' tmp' := by exact pt_) (hp' : ∀ s u, Pt loc tmp d (.tuple #[.bool true, .string s, u]) (locn s u) (tmpn s u) := by intro s u; first | exact Pt.tmp rfl | exact Pt.none | exact Pt.loc (by repeat constructor))
    (hg : gdv ops loc tmp gd = some true := by rfl) (hd : dOK X.n d = true := by rfl) (hcl : cf i = .any := by rfl) (hq : X.q = false := by rfl) : EO X ops cf k (i :: is) (⟨d, .next x false, ty, pos, aft, gd⟩ :: l) loc tmp L :=
  x_next hx ht (fun h => ⟨_, _, hp, hov h⟩) (fun j s u h1 h2 => ⟨_, _, hp' s u, hnx j s u h1 h2⟩) hg hd hcl hq
/-! ### calls -/
theorem y_callD {c : Operand} {xs : List Operand} {tys : Array TypeId} {f : Nat} {first caps ags : List Value} {La Lb : List HP} {v : Value} [Body X.P f]
    (hc : sv loc tmp c = some (.func (.func f) first.toArray caps.toArray)) (ha : svs loc tmp xs = some ags) (hf : Fd X.P f (first ++ ags ++ caps).toArray La v Lb) (h : EO X ops cf k is l loc' tmp' N)
    (hs : Subs La L F := by exact sub_) (hN : App Lb F N := by first | ((repeat (first | exact App.nil | apply App.cons)) <;> fail) | fail) (hp : Pt loc tmp d v loc' tmp' := by exact pt_)
    (hg : gdv ops loc tmp gd = some true := by rfl) (hd : dOK X.n d = true := by rfl) (hcl : cf i = .any := by rfl) (hq : X.q = false := by rfl) :
    EO X ops cf k (i :: is) (⟨d, .call ⟨.value c, xs.toArray, tys⟩, ty, pos, aft, gd⟩ :: l) loc tmp L :=
  x_callD hc ha hf hs hN hp h hg hd hcl hq
theorem y_callq {c : Operand} {xs : List Operand} {tys : Array TypeId} {f : Nat} {first caps ags : List Value} {La : List HP} {v : Value} [Body X.P f]
    (hc : sv loc tmp c = some (.func (.func f) first.toArray caps.toArray)) (ha : svs loc tmp xs = some ags) (hf : Qn X.P f (first ++ ags ++ caps).toArray La v) (h : EO X ops cf k is l loc' tmp' L)
    (hs : Subs La L F := by exact sub_) (hp : Pt loc tmp d v loc' tmp' := by exact pt_)
    (hg : gdv ops loc tmp gd = some true := by rfl) (hd : dOK X.n d = true := by rfl) (hcl : (cf i).reads = true := by rfl) :
    EO X ops cf k (i :: is) (⟨d, .call ⟨.value c, xs.toArray, tys⟩, ty, pos, aft, gd⟩ :: l) loc tmp L :=
  x_callq hc ha hf hs hp h hg hd hcl
variable {ι : Type} {loci : ι → List Value} {tmpi : ι → List (Nat × Value)} {Ni : ι → List HP}
theorem y_callE {PI : ι → Prop} {V : ι → Value} {LL : ι → List HP} {c : Operand} {xs : List Operand} {tys : Array TypeId} {f : Nat} {first caps ags : List Value} {La : List HP} [Body X.P f]
    (hc : sv loc tmp c = some (.func (.func f) first.toArray caps.toArray)) (ha : svs loc tmp xs = some ags) (hf : Fe X.P f (first ++ ags ++ caps).toArray La PI V LL) (h : ∀ j, PI j → EO X ops cf k is l (loci j) (tmpi j) (Ni j))
    (hs : Subs La L F := by exact sub_) (hN : ∀ i, App (LL i) F (Ni i) := by intro _; (repeat (first | exact App.nil | apply App.cons)) <;> fail)
    (hp : ∀ j, Pt loc tmp d (V j) (loci j) (tmpi j) := by intro j; first | exact Pt.tmp rfl | exact Pt.none | exact Pt.loc (by repeat constructor))
    (hg : gdv ops loc tmp gd = some true := by rfl) (hd : dOK X.n d = true := by rfl) (hcl : cf i = .any := by rfl) (hq : X.q = false := by rfl) :
    EO X ops cf k (i :: is) (⟨d, .call ⟨.value c, xs.toArray, tys⟩, ty, pos, aft, gd⟩ :: l) loc tmp L :=
  x_callE hc ha hf hs hN (fun j hj => ⟨_, _, hp j, h j hj⟩) hg hd hcl hq
theorem y_callG {c : Operand} {xs : List Operand} {tys : Array TypeId} {f : Nat} {first caps ags : List Value} {v : Value} [Body X.P f]
    (hc : sv loc tmp c = some (.func (.func f) first.toArray caps.toArray)) (ha : svs loc tmp xs = some ags) (hf : Fd X.P f (first ++ ags ++ caps).toArray [] v []) (h : EO X ops cf k is l loc' tmp' L)
    (hp : Pt loc tmp d v loc' tmp' := by exact pt_) (hg : gdv ops loc tmp gd = some true := by rfl) (hd : dOK X.n d = true := by rfl) (hcl : cf i = .gar := by rfl) (hq : X.q = false := by rfl) :
    EO X ops cf k (i :: is) (⟨d, .call ⟨.value c, xs.toArray, tys⟩, ty, pos, aft, gd⟩ :: l) loc tmp L :=
  x_gar hg hcl (fun a hrl w0 S0 w hst n => by
    have h0 : sats [] (Proofs.YtppkiiomedembaaGreatDoor.hp (wat w n)) (fun _ => False) := fun _ h => h
    have hcall := hf (wat w n) (fun _ => False) h0 (wat w n).drawn
    rw [wat_self] at hcall
    have e : (first ++ ags ++ caps).toArray = first.toArray ++ (xs.toArray.map a.eval) ++ caps.toArray := by simp [hrl.evs ha]
    have hrun : (execOp a.eval ⟨d, .call ⟨.value c, xs.toArray, tys⟩, ty, pos, aft, gd⟩).run X.P (wat w n) = .ok (.enter f (first ++ ags ++ caps).toArray) (wat w n) := by
      simp only [execOp, resolve, hrl.ev hc, Deferred.ofValue, Sem.run_bind, Sem.run_pure, Result.andThen_ok, invoke, run_callBody, e]
    unfold RunN
    rw [hrun]
    refine hcall.mono fun ee w' ⟨u, he, L', hR, hs'⟩ => ⟨u, he, hR.1, ?_, hs'.os, hs'.tape, hs'.output⟩
    intro g o hgo
    have hlt : g < (wat w n).heap.size := (Array.getElem?_eq_some_iff.1 hgo).1
    exact (hs'.old g hlt (fun h => h)).trans hgo) hp hd h
theorem y_callN {PI : ι → Prop} {V : ι → Value} {LL : ι → List HP} {c : Operand} {xs : List Operand} {tys : Array TypeId} {f : Nat} {first caps ags : List Value} [Body X.P f]
    (hc : sv loc tmp c = some (.func (.func f) first.toArray caps.toArray)) (ha : svs loc tmp xs = some ags) (hf : Fe X.P f (first ++ ags ++ caps).toArray [] PI V LL) (h : ∀ j, PI j → EO X ops cf k is l (loci j) (tmpi j) (Ni j))
    (hN : ∀ i, App (LL i) L (Ni i) := by intro _; (repeat (first | exact App.nil | apply App.cons)) <;> fail)
    (hp : ∀ j, Pt loc tmp d (V j) (loci j) (tmpi j) := by intro j; first | exact Pt.tmp rfl | exact Pt.none | exact Pt.loc (by repeat constructor))
    (hg : gdv ops loc tmp gd = some true := by rfl) (hd : dOK X.n d = true := by rfl) (hcl : (cf i).news = true := by rfl) (hq : X.q = false := by rfl) :
    EO X ops cf k (i :: is) (⟨d, .call ⟨.value c, xs.toArray, tys⟩, ty, pos, aft, gd⟩ :: l) loc tmp L :=
  x_callN hc ha hf (fun v L' ⟨j, hj, e1, e2⟩ => by subst e1 e2; exact ⟨_, _, hp j, (hN j).eq ▸ h j hj⟩) hg hd hcl hq
theorem Fe.some {P' : Program} {f : FuncId} {args : Array Value} {La : List HP} {e n : Nat} {vs : List Value} (hf : Fe P' f args La (fun _ : Option Addr × Nat => True) (fun i => .slice i.1 n i.2) (fun i => [Own i.1 i.2 e 1 n vs])) (hn : 0 < n) :
    Fe P' f args La (fun _ : Nat × Nat => True) (fun i => .slice (some ⟨i.1, 0, none⟩) n i.2) (fun i => [Own (some ⟨i.1, 0, none⟩) i.2 e 1 n vs]) := by
  intro w S hS
  refine (hf w S hS).mono ?_
  rintro u w' ⟨L', ⟨⟨A, c⟩, _, rfl, rfl⟩, hst⟩
  obtain ⟨S1, h1, _⟩ := hst.sat
  obtain ⟨k1, k2, k3, k4⟩ := Own.know (sats_one' h1)
  cases A with
  | none => have := k3 rfl; dsimp only at this k2; omega
  | some a =>
    obtain ⟨g, rfl⟩ := k4 a rfl
    exact ⟨_, ⟨(g, c), trivial, rfl, rfl⟩, hst⟩
variable {locs : Nat → Nat → List Value} {tmps : Nat → Nat → List (Nat × Value)}
theorem y_callS {c : Operand} {xs : List Operand} {tys : Array TypeId} {f : Nat} {first caps ags : List Value} {e n : Nat} {vs : List Value} [Body X.P f]
    (hc : sv loc tmp c = some (.func (.func f) first.toArray caps.toArray)) (ha : svs loc tmp xs = some ags)
    (hf : Fe X.P f (first ++ ags ++ caps).toArray [] (fun _ : Option Addr × Nat => True) (fun i => .slice i.1 n i.2) (fun i => [Own i.1 i.2 e 1 n vs])) (h : ∀ g c, EO X ops cf k is l (locs g c) (tmps g c) (Own (some ⟨g, 0, none⟩) c e 1 n vs :: L))
    (hn : Nat.blt 0 n = true := by rfl) (hp : ∀ g c, Pt loc tmp d (.slice (some ⟨g, 0, none⟩) n c) (locs g c) (tmps g c) := by intro _ _; first | exact Pt.tmp rfl | exact Pt.none | exact Pt.loc (by repeat constructor))
    (hg : gdv ops loc tmp gd = some true := by rfl) (hd : dOK X.n d = true := by rfl) (hcl : (cf i).news = true := by rfl) (hq : X.q = false := by rfl) :
    EO X ops cf k (i :: is) (⟨d, .call ⟨.value c, xs.toArray, tys⟩, ty, pos, aft, gd⟩ :: l) loc tmp L :=
  x_callN hc ha (Fe.some hf (by simpa [Nat.blt_eq] using hn)) (fun v L' ⟨j, hj, e1, e2⟩ => by subst e1 e2; exact ⟨_, _, hp j.1 j.2, h j.1 j.2⟩) hg hd hcl hq
theorem y_ret (ts : List Nat) {vs : List Value} (hv : svs loc tmp (ts.map Operand.tmp) = some vs) (h : X.R (packV vs) M) (hts : X.fn.results = (ts.map ResultVar.tmp).toArray := by rfl) (hs : Subs M L F := by exact sub_) : E X (.code .ret :: k) loc tmp L :=
  e_ret' hts hv ⟨M, F, h, hs⟩
theorem y_retC (p : Nat) {T n g o : Nat} {vs : List Value} [AggSz X.P T n] (hx : sv loc tmp (.tmp p) = some (.pointer (some ⟨g, o, none⟩))) (hc : Rows L g o n vs) (h : X.R (.agg vs.toArray) M) (hts : X.fn.results = #[.cell p T] := by rfl) (hs : Subs M L F := by exact sub_) : E X (.code .ret :: k) loc tmp L :=
  e_retC hts hx hc.row.1 hc.row.2 ⟨M, F, h, hs⟩
theorem y_end (ts : List Nat) {vs : List Value} (hv : svs loc tmp (ts.map Operand.tmp) = some vs) (h : X.R (packV vs) M) (hts : X.fn.results = (ts.map ResultVar.tmp).toArray := by rfl) (hs : Subs M L F := by exact sub_) : E X [] loc tmp L :=
  e_end' hts hv ⟨M, F, h, hs⟩
theorem y_retE (ts : List Nat) {vs : List Value} (hv : svs loc tmp (ts.map Operand.tmp) = some vs) (h : X.R (packV vs) M) (e : L = M) (hts : X.fn.results = (ts.map ResultVar.tmp).toArray := by rfl) : E X (.code .ret :: k) loc tmp L := by
  subst e; exact e_ret hts hv h
theorem y_endE (ts : List Nat) {vs : List Value} (hv : svs loc tmp (ts.map Operand.tmp) = some vs) (h : X.R (packV vs) M) (e : L = M) (hts : X.fn.results = (ts.map ResultVar.tmp).toArray := by rfl) : E X [] loc tmp L := by
  subst e; exact e_end hts hv h
theorem y_tn {P : ι → Prop} {M' : ι → List HP} (hT : Tn M P M') (h : ∀ i, P i → E X k loc tmp (Ni i)) (ht : Subs M L F := by exact sub_) (hN : ∀ i, App (M' i) F (Ni i) := by intro _; (repeat (first | exact App.nil | apply App.cons)) <;> fail) : E X k loc tmp L := E.tn hT ht hN h
theorem y_fn {q : Bool} {P' : Program} {f : FuncId} {args : Array Value} {R : Value → List HP → Prop} {P : ι → Prop} {M' : ι → List HP} (hT : Tn M P M') (h : ∀ i, P i → FnG q P' f args (Ni i) R) (ht : Subs M L F := by exact sub_) (hN : ∀ i, App (M' i) F (Ni i) := by intro _; (repeat (first | exact App.nil | apply App.cons)) <;> fail) : FnG q P' f args L R :=
  FnG.tn hT ht fun i hi => by rw [(hN i).eq]; exact h i hi
theorem y_tno {P : ι → Prop} {M' : ι → List HP} (hT : Tn M P M') (h : ∀ i, P i → EO X ops cf k is l loc tmp (Ni i)) (ht : Subs M L F := by exact sub_) (hN : ∀ i, App (M' i) F (Ni i) := by intro _; (repeat (first | exact App.nil | apply App.cons)) <;> fail) : EO X ops cf k is l loc tmp L := EO.tn hT ht hN h
end
def Tn2 {α β : Type} (M : List HP) (P : α → β → Prop) (M' : α → β → List HP) : Prop := Tn M (fun i : α × β => P i.1 i.2) (fun i => M' i.1 i.2)
def Tn5 {α β γ δ ε : Type} (M : List HP) (P : α → β → γ → δ → ε → Prop) (M' : α → β → γ → δ → ε → List HP) : Prop := Tn M (fun i : α × β × γ × δ × ε => P i.1 i.2.1 i.2.2.1 i.2.2.2.1 i.2.2.2.2) (fun i => M' i.1 i.2.1 i.2.2.1 i.2.2.2.1 i.2.2.2.2)
section
variable {X : Fx} {ops : Array Oper} {cf : Nat → Cls} {k : List Item} {is : List Nat} {l : List Oper} {loc : List Value} {tmp : List (Nat × Value)} {L F M : List HP} {α β γ δ ε : Type}
theorem y_tn2 {P : α → β → Prop} {M' Ni : α → β → List HP} (hT : Tn2 M P M') (h : ∀ a b, P a b → E X k loc tmp (Ni a b)) (ht : Subs M L F := by exact sub_) (hN : ∀ a b, App (M' a b) F (Ni a b) := by intro _ _; first | ((repeat (first | exact App.nil | apply App.cons)) <;> fail) | fail) : E X k loc tmp L := E.tn hT ht (N := fun i => Ni i.1 i.2) (fun i => hN i.1 i.2) fun i hp => h i.1 i.2 hp
theorem y_tno2 {P : α → β → Prop} {M' Ni : α → β → List HP} (hT : Tn2 M P M') (h : ∀ a b, P a b → EO X ops cf k is l loc tmp (Ni a b)) (ht : Subs M L F := by exact sub_) (hN : ∀ a b, App (M' a b) F (Ni a b) := by intro _ _; first | ((repeat (first | exact App.nil | apply App.cons)) <;> fail) | fail) : EO X ops cf k is l loc tmp L := EO.tn hT ht (N := fun i => Ni i.1 i.2) (fun i => hN i.1 i.2) fun i hp => h i.1 i.2 hp
theorem y_fn2 {q : Bool} {P' : Program} {f : FuncId} {args : Array Value} {R : Value → List HP → Prop} {P : α → β → Prop} {M' Ni : α → β → List HP} (hT : Tn2 M P M') (h : ∀ a b, P a b → FnG q P' f args (Ni a b) R) (ht : Subs M L F := by exact sub_) (hN : ∀ a b, App (M' a b) F (Ni a b) := by intro _ _; first | ((repeat (first | exact App.nil | apply App.cons)) <;> fail) | fail) : FnG q P' f args L R := y_fn (Ni := fun i => Ni i.1 i.2) hT (fun i hi => h i.1 i.2 hi) ht (fun i => hN i.1 i.2)
theorem y_tn5 {P : α → β → γ → δ → ε → Prop} {M' Ni : α → β → γ → δ → ε → List HP} (hT : Tn5 M P M') (h : ∀ a b c d e, P a b c d e → E X k loc tmp (Ni a b c d e)) (ht : Subs M L F := by exact sub_) (hN : ∀ a b c d e, App (M' a b c d e) F (Ni a b c d e) := by intro _ _ _ _ _; first | ((repeat (first | exact App.nil | apply App.cons)) <;> fail) | fail) : E X k loc tmp L := E.tn hT ht (N := fun i => Ni i.1 i.2.1 i.2.2.1 i.2.2.2.1 i.2.2.2.2) (fun i => hN i.1 i.2.1 i.2.2.1 i.2.2.2.1 i.2.2.2.2) fun i hp => h i.1 i.2.1 i.2.2.1 i.2.2.2.1 i.2.2.2.2 hp
theorem y_tno5 {P : α → β → γ → δ → ε → Prop} {M' Ni : α → β → γ → δ → ε → List HP} (hT : Tn5 M P M') (h : ∀ a b c d e, P a b c d e → EO X ops cf k is l loc tmp (Ni a b c d e)) (ht : Subs M L F := by exact sub_) (hN : ∀ a b c d e, App (M' a b c d e) F (Ni a b c d e) := by intro _ _ _ _ _; first | ((repeat (first | exact App.nil | apply App.cons)) <;> fail) | fail) : EO X ops cf k is l loc tmp L := EO.tn hT ht (N := fun i => Ni i.1 i.2.1 i.2.2.1 i.2.2.2.1 i.2.2.2.2) (fun i => hN i.1 i.2.1 i.2.2.1 i.2.2.2.1 i.2.2.2.2) fun i hp => h i.1 i.2.1 i.2.2.1 i.2.2.2.1 i.2.2.2.2 hp
theorem y_fn5 {q : Bool} {P' : Program} {f : FuncId} {args : Array Value} {R : Value → List HP → Prop} {P : α → β → γ → δ → ε → Prop} {M' Ni : α → β → γ → δ → ε → List HP} (hT : Tn5 M P M') (h : ∀ a b c d e, P a b c d e → FnG q P' f args (Ni a b c d e) R) (ht : Subs M L F := by exact sub_) (hN : ∀ a b c d e, App (M' a b c d e) F (Ni a b c d e) := by intro _ _ _ _ _; first | ((repeat (first | exact App.nil | apply App.cons)) <;> fail) | fail) : FnG q P' f args L R := y_fn (Ni := fun i => Ni i.1 i.2.1 i.2.2.1 i.2.2.2.1 i.2.2.2.2) hT (fun i hi => h i.1 i.2.1 i.2.2.1 i.2.2.2.1 i.2.2.2.2 hi) ht (fun i => hN i.1 i.2.1 i.2.2.1 i.2.2.2.1 i.2.2.2.2)
end
section
variable {P : Program} {f : FuncId} {args : Array Value} {L La Lb F N M M' G : List HP} {v : Value}
theorem Fd.frame (hf : Fd P f args La v Lb) (hs : Subs La L F := by exact sub_) (hN : App Lb F N := by first | ((repeat (first | exact App.nil | apply App.cons)) <;> fail) | fail) : Fd P f args L v N := by
  intro w S hS
  obtain ⟨S1, h1, hF⟩ := ((St.start (q := false) hS).perm hs.perm).frame
  refine (hf w S1 h1).mono ?_
  rintro u w' ⟨L', ⟨rfl, rfl⟩, hst⟩
  exact ⟨N, ⟨rfl, rfl⟩, hN.eq ▸ hF _ _ _ hst⟩
theorem Fd.close {A : HP} (h : Fd P f args L v N) (hT : Tn M (fun _ : Unit => True) (fun _ => [A])) (ht : Subs M N F := by exact sub_) (hs : Subs M' (A :: F) G := by exact sub_) : Fd P f args L v M' := by
  intro w S hS
  refine (h w S hS).mono ?_
  rintro u w' ⟨L', ⟨rfl, rfl⟩, hst⟩
  obtain ⟨_, _, h2⟩ := hst.tn hT ht
  exact ⟨M', ⟨rfl, rfl⟩, h2.some hs⟩
end
end Go.Proofs.YtppkiiomedembaaGreatDoor
namespace Go.Proofs.YtppkiiomedembaaGreatDoor
open Go
set_option maxRecDepth 100000
attribute [local irreducible] E EO
theorem block_fn (g : Nat) (f0 f1 f2 f3 f5 f6 f7 f8 f9 f10 f11 : Value) (p : Nat) (h1 : p ≤ 1000000000000) :
    Qn Tryz.prog 100 #[.pointer (some ⟨g, 0, none⟩)] [Cells g 174 [f0, f1, f2, f3, .int .i64 p, f5, f6, f7, f8, f9, f10, f11]] (.int .u32 ((p / 4096 : Nat) : Int)) := by
  refine fn_of_E' (args := [_]) 3 _ [_, undef, undef] Tryz.func100 rfl Tryz.ntmps100 ?_
  repeat (first | refine walk1 ?_ | refine y_alloc (fun g => ?_) | refine y_boxA rfl (fun g => ?_) | refine y_make rfl rfl (fun g => ?_) | refine y_build1 rfl (fun g => ?_) | refine y_app1 rfl rfl (fun A' c' => ?_) | fail)
  refine e_ret (ts := [2]) (vs := [_]) rfl rfl ?_
  rfl
theorem lay_len (B : List UInt8) (p : Nat) (bs : List UInt8) : (lay B p bs).length = max B.length (p + bs.length) := by
  simp [lay]; omega
theorem lay_grown {B : List UInt8} {p : Nat} {bs : List UInt8} (h : B.length < p + bs.length) : lay B p bs = (B ++ List.replicate (p + bs.length - B.length) 0).take p ++ bs ++ (B ++ List.replicate (p + bs.length - B.length) 0).drop (p + bs.length) := rfl
theorem lay_in {B : List UInt8} {p : Nat} {bs : List UInt8} (h : p + bs.length ≤ B.length) : lay B p bs = B.take p ++ bs ++ B.drop (p + bs.length) := by
  unfold lay
  rw [show p + bs.length - B.length = 0 by omega]; simp
theorem put_fn (dk : Nat) (A : Option Addr) (c p : Nat) (B bs : List UInt8) (X : Option Addr) (m cx : Nat) (M : HP) (hr : Rd [M] X m 1 (enc bs)) (hm : bs.length = m) (hpos : 0 < m) (hp : p + m ≤ 1000000000000) (hB : B.length ≤ 1000000000000) :
    Fn Tryz.prog 117 #[.pointer (some ⟨dk, 0, none⟩), .slice X m cx]
      [Cells dk 108 [.slice A B.length c, .int .i64 (p : Int)], Own A c 5 1 B.length (enc B), M] fun v L =>
      v = .tuple #[] ∧ ∃ A' c', L = [Cells dk 108 [.slice A' (lay B p bs).length c', .int .i64 ((p + m : Nat) : Int)], Own A' c' 5 1 (lay B p bs).length (enc (lay B p bs)), M] := by
  refine fn_of_E' (args := [_, _]) 5 _ [_, _, undef, undef, undef] Tryz.func117 rfl Tryz.ntmps117 ?_
  repeat (first | refine walk1 ?_ | refine y_alloc (fun g => ?_) | refine y_boxA rfl (fun g => ?_) | refine y_make rfl rfl (fun g => ?_) | refine y_build1 rfl (fun g => ?_) | refine y_app1 rfl rfl (fun A' c' => ?_) | fail)
  refine e_join (ι := Option Addr × Nat × List UInt8) (fun _ => [.pointer (some ⟨dk, 0, none⟩), .slice X m cx, undef, undef, .int .i64 (p + m)])
    (fun i => [Cells dk 108 [.slice i.1 i.2.2.length i.2.1, .int .i64 (p : Int)], Own i.1 i.2.1 5 1 i.2.2.length (enc i.2.2), M])
    (fun i => p + m ≤ i.2.2.length ∧ i.2.2.length ≤ 2000000000000 ∧ lay B p bs = i.2.2.take p ++ bs ++ i.2.2.drop (p + m)) rfl (fun i hi => ?_) (fun h rest => ?_) (fun h rest => ?_)
  · obtain ⟨A1, c1, B1⟩ := i
    obtain ⟨h1, h2, h3⟩ := hi
    dsimp only at h1 h2 h3 ⊢
    refine E.know (.there .here) (fun _ _ => Own.know) fun hk => ?_
    obtain ⟨k1, k2, k3, k4⟩ := hk
    cases A1 with
    | none => have := k3 rfl; omega
    | some a =>
      obtain ⟨g, rfl⟩ := k4 a rfl
      repeat (first | refine walk1 ?_ | refine y_alloc (fun g => ?_) | refine y_boxA rfl (fun g => ?_) | refine y_make rfl rfl (fun g => ?_) | refine y_build1 rfl (fun g => ?_) | refine y_app1 rfl rfl (fun A' c' => ?_) | fail)
      have hel : (enc bs).length = m := by rw [enc_len, hm]
      refine x_copy (news := enc bs) rfl rfl ((hr.there _).there _) enc_one (.there (.own (by rw [List.length_take, hel, enc_len]; omega))) pt_ ?_
      repeat (first | refine walk1 ?_ | refine y_alloc (fun g => ?_) | refine y_boxA rfl (fun g => ?_) | refine y_make rfl rfl (fun g => ?_) | refine y_build1 rfl (fun g => ?_) | refine y_app1 rfl rfl (fun A' c' => ?_) | fail)
      refine e_end (ts := []) (vs := []) rfl rfl ?_
      have e1 : (enc bs).take (B1.length - p) = enc bs := List.take_of_length_le (by omega)
      have e2 : (lay B p bs).length = B1.length := by rw [h3]; simp; omega
      refine ⟨rfl, some ⟨g, 0, none⟩, c1, ?_⟩
      rw [e1, e2, h3, enc_app, enc_app, enc_take, enc_drop]
      simp [ovw, hel]
  · have h := of_decide_eq_true h
    refine e_draw ?_
    refine walko ?_
    refine x_appZ (m := p + m - B.length) rfl rfl (by omega) (.there .here) rfl (by simp [maxLen]; omega) (by omega) fun A' c' => ⟨_, _, pt_, EO.at_ (.there .here) ?_⟩
    refine walko ?_
    refine (rest (A', c', B ++ List.replicate (p + m - B.length) 0) ⟨by simp; omega, by simp; omega, by rw [lay_grown (by omega), hm]⟩).to rfl ?_
    simp [enc_app, enc_zeros]
  · have h := of_decide_eq_false h
    refine e_skip ?_
    exact (rest (A, c, B) ⟨by simp; omega, by simp; omega, by rw [lay_in (by omega), hm]⟩).to rfl rfl
def DiskP (g p : Nat) (B : List UInt8) : HP := .ex fun i : Option Addr × Nat => .fact (B.length ≤ 1000000000000) <| .star [Cells g 108 [.slice i.1 B.length i.2, .int .i64 (p : Int)], Own i.1 i.2 5 1 B.length (enc B)]
theorem DiskP.close {g p : Nat} {B : List UInt8} (A : Option Addr) (c : Nat) (hB : B.length ≤ 1000000000000) : Tn [Cells g 108 [.slice A B.length c, .int .i64 (p : Int)], Own A c 5 1 B.length (enc B)] (fun _ : Unit => True) (fun _ => [DiskP g p B]) := Tn.inexs (ι := Option Addr × Nat) (A := fun i => [Cells g 108 [.slice i.1 B.length i.2, .int .i64 (p : Int)], Own i.1 i.2 5 1 B.length (enc B)]) (p := fun _ => B.length ≤ 1000000000000) (A, c) hB
theorem DiskP.open {g p : Nat} {B : List UInt8} : Tn [DiskP g p B] (fun _ : Option Addr × Nat => B.length ≤ 1000000000000) (fun i => [Cells g 108 [.slice i.1 B.length i.2, .int .i64 (p : Int)], Own i.1 i.2 5 1 B.length (enc B)]) := Tn.exs
theorem put_fn' (dk p : Nat) (B bs : List UInt8) (X : Option Addr) (m cx : Nat) (M : HP) (hr : Rd [M] X m 1 (enc bs)) (hm : bs.length = m) (hpos : 0 < m) (hp : p + m ≤ 1000000000000) :
    Fd Tryz.prog 117 #[.pointer (some ⟨dk, 0, none⟩), .slice X m cx] [DiskP dk p B, M] (.tuple #[]) [DiskP dk (p + m) (lay B p bs), M] := by
  refine FnG.tn DiskP.open sub_ fun i hB => ?_
  intro w S hS
  refine (put_fn dk i.1 i.2 p B bs X m cx M hr hm hpos hp hB w S hS).mono ?_
  rintro v w' ⟨L', ⟨rfl, A', c', rfl⟩, hst⟩
  have hl : (lay B p bs).length ≤ 1000000000000 := by rw [lay_len, hm]; omega
  obtain ⟨_, _, hst'⟩ := hst.tn (DiskP.close A' c' hl) sub_
  exact ⟨_, ⟨rfl, rfl⟩, hst'⟩
theorem write_fn (wg dg p : Nat) (B bs : List UInt8) (X : Option Addr) (m cx mx : Nat) (M : HP) (f1 f2 f3 f5 f6 f8 f9 f11 : Value) (hr : Rd [M] X m 1 (enc bs)) (hm : bs.length = m) (hpos : 0 < m) (hp : p + m ≤ mx) (hmx : mx ≤ 1000000000000) :
    Fd Tryz.prog 98 #[.pointer (some ⟨wg, 0, none⟩), .slice X m cx]
      [Cells wg 174 [.pointer (some ⟨dg, 0, none⟩), f1, f2, f3, .int .i64 (p : Int), f5, f6, .nilIface, f8, f9, .int .i64 (mx : Int), f11], DiskP dg p B, M] (.tuple #[.int .i64 m, .nilIface])
      [Cells wg 174 [.pointer (some ⟨dg, 0, none⟩), f1, f2, f3, .int .i64 ((p + m : Nat) : Int), f5, f6, .nilIface, f8, f9, .int .i64 (mx : Int), f11], DiskP dg (p + m) (lay B p bs), M] := by
  refine fn_of_E' (args := [_, _]) 6 _ [_, _, undef, undef, undef, undef] Tryz.func98 rfl Tryz.ntmps98 ?_
  repeat (first | refine walk1 ?_ | refine y_alloc (fun g => ?_) | refine y_boxA rfl (fun g => ?_) | refine y_make rfl rfl (fun g => ?_) | refine y_build1 rfl (fun g => ?_) | refine y_app1 rfl rfl (fun A' c' => ?_) | fail)
  refine x_callD rfl rfl (put_fn' dg p B bs X m cx M hr hm hpos (by omega)) sub_ (by first | ((repeat (first | exact App.nil | apply App.cons)) <;> fail) | fail) pt_ ?_
  repeat (first | refine walk1 ?_ | refine y_alloc (fun g => ?_) | refine y_boxA rfl (fun g => ?_) | refine y_make rfl rfl (fun g => ?_) | refine y_build1 rfl (fun g => ?_) | refine y_app1 rfl rfl (fun A' c' => ?_) | fail)
  exact e_ret' (ts := [4, 5]) (vs := [_, _]) rfl rfl ⟨_, _, ⟨rfl, rfl⟩, sub_⟩
end Go.Proofs.YtppkiiomedembaaGreatDoor
namespace Go.Proofs.YtppkiiomedembaaGreatDoor
open Go
set_option maxRecDepth 100000
attribute [local irreducible] E EO
theorem Rd.zeros {g c e n : Nat} {L : List HP} (h : n ≤ c) : Rd (Own (some ⟨g, 0, none⟩) c e 1 n (List.replicate n (.int .u8 0)) :: L) (some ⟨g, 0, none⟩) n 1 (enc (List.replicate n 0)) := by
  rw [enc_zeros]
  exact ⟨by simp, .inr ⟨g, 0, rfl, CellRow.own⟩⟩
theorem zero_fn (wg dg p n : Nat) (B : List UInt8) (mx : Nat) (f1 f2 f3 f5 f6 f8 f9 f11 : Value) (hpos : 0 < n) (hp : p + n ≤ mx) (hmx : mx ≤ 1000000000000) :
    Fd Tryz.prog 116 #[.pointer (some ⟨wg, 0, none⟩), .int .i64 (n : Int)]
      [Cells wg 174 [.pointer (some ⟨dg, 0, none⟩), f1, f2, f3, .int .i64 (p : Int), f5, f6, .nilIface, f8, f9, .int .i64 (mx : Int), f11], DiskP dg p B] (.tuple #[.int .i64 n, .nilIface])
      [Cells wg 174 [.pointer (some ⟨dg, 0, none⟩), f1, f2, f3, .int .i64 ((p + n : Nat) : Int), f5, f6, .nilIface, f8, f9, .int .i64 (mx : Int), f11], DiskP dg (p + n) (lay B p (List.replicate n 0))] := by
  refine fn_of_E' (args := [_, _]) 6 _ [_, _, undef, undef, undef, undef] Tryz.func116 rfl Tryz.ntmps116 ?_
  repeat (first | refine walk1 ?_ | refine y_alloc (fun g => ?_) | refine y_boxA rfl (fun g => ?_) | refine y_make rfl rfl (fun g => ?_) | refine y_build1 rfl (fun g => ?_) | refine y_app1 rfl rfl (fun A' c' => ?_) | fail)
  refine x_callD rfl rfl (put_fn' dg p B (List.replicate n 0) (some ⟨g, 0, none⟩) n n _ (Rd.zeros (Nat.le_refl _)) (by simp) hpos (by omega)) sub_ (by first | ((repeat (first | exact App.nil | apply App.cons)) <;> fail) | fail) pt_ ?_
  repeat (first | refine walk1 ?_ | refine y_alloc (fun g => ?_) | refine y_boxA rfl (fun g => ?_) | refine y_make rfl rfl (fun g => ?_) | refine y_build1 rfl (fun g => ?_) | refine y_app1 rfl rfl (fun A' c' => ?_) | fail)
  exact e_ret' (ts := [4, 5]) (vs := [_, _]) rfl rfl ⟨_, _, ⟨rfl, rfl⟩, sub_⟩
theorem seekBlock_fn (wg dg p b : Nat) (B : List UInt8) (f1 f2 f3 f4 f5 f6 f8 f9 f10 f11 : Value) (hb : b ≤ 4000000000) :
    Fd Tryz.prog 101 #[.pointer (some ⟨wg, 0, none⟩), .int .u32 (b : Int)]
      [Cells wg 174 [.pointer (some ⟨dg, 0, none⟩), f1, f2, f3, f4, f5, f6, .nilIface, f8, f9, f10, f11], DiskP dg p B] (.tuple #[])
      [Cells wg 174 [.pointer (some ⟨dg, 0, none⟩), f1, f2, f3, .int .i64 ((b * 4096 : Nat) : Int), f5, f6, .nilIface, f8, f9, f10, f11], DiskP dg (b * 4096) B] := by
  refine fn_of_E' (args := [_, _]) 4 _ [_, _, undef, undef] Tryz.func101 rfl Tryz.ntmps101 ?_
  refine E.tn DiskP.open sub_ (fun _ => by (repeat (first | exact App.nil | apply App.cons)) <;> fail) fun i hB => ?_
  repeat (first | refine walk1 ?_ | refine y_alloc (fun g => ?_) | refine y_boxA rfl (fun g => ?_) | refine y_make rfl rfl (fun g => ?_) | refine y_build1 rfl (fun g => ?_) | refine y_app1 rfl rfl (fun A' c' => ?_) | fail)
  refine E.tn (DiskP.close _ _ hB) sub_ (fun _ => by (repeat (first | exact App.nil | apply App.cons)) <;> fail) fun _ _ => ?_
  exact e_end' (ts := []) (vs := []) rfl rfl ⟨_, _, ⟨rfl, rfl⟩, sub_⟩
theorem startInode_fn (wg : Nat) (f0 f1 f2 f4 f5 f6 f7 f8 f9 f10 f11 : Value) (name : ByteArray) (a : Option Addr) (n : Nat) :
    Fd Tryz.prog 96 #[.pointer (some ⟨wg, 0, none⟩), .string name, .pointer a, .int .i64 (n : Int)]
      [Cells wg 174 [f0, f1, f2, .pointer none, f4, f5, f6, f7, f8, f9, f10, f11]] (.tuple #[])
      [Cells wg 174 [f0, f1, .string name, .pointer a, f4, .int .i64 0, .int .i64 (n : Int), f7, f8, f9, f10, f11]] := by
  refine fn_of_E' (args := [_, _, _, _]) 8 _ [_, _, _, _, undef, undef, undef, undef] Tryz.func96 rfl Tryz.ntmps96 ?_
  repeat (first | refine walk1 ?_ | refine y_alloc (fun g => ?_) | refine y_boxA rfl (fun g => ?_) | refine y_make rfl rfl (fun g => ?_) | refine y_build1 rfl (fun g => ?_) | refine y_app1 rfl rfl (fun A' c' => ?_) | fail)
  exact e_end' (ts := []) (vs := []) rfl rfl ⟨_, _, ⟨rfl, rfl⟩, sub_⟩
end Go.Proofs.YtppkiiomedembaaGreatDoor
