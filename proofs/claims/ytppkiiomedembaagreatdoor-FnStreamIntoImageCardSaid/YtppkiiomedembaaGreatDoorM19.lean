/-
  The walks: the superblock's bytes. Conditions: none.
-/
import Derived.Test.YtppkiiomedembaaGreatDoorM13
set_option linter.unusedVariables false
set_option linter.unusedSimpArgs false
namespace Go.Proofs.YtppkiiomedembaaGreatDoor
open Go
set_option maxRecDepth 100000
set_option maxHeartbeats 8000000
attribute [local irreducible] E EO
theorem CellRow.cut {g o n : Nat} {t : TypeId} {cs us : List Value} {L : List HP} (h : (cs.drop o).take n = us) : CellRow (Cells g t cs :: L) g o us := by
  intro j v hj m S hS
  refine (CellRow.here (g := g) (t := t) (cs := cs) (L := L)) (o + j) v ?_ m S hS |> fun h => by simpa using h
  have hlt := (List.getElem?_eq_some_iff.1 hj).1
  rw [← h, List.length_take] at hlt
  rw [← h, List.getElem?_take_of_lt (by omega), List.getElem?_drop] at hj
  exact hj
theorem CellRow.cutz {g o n : Nat} {t : TypeId} {cs : List Value} {L : List HP} (h : (cs.drop o).take n = List.replicate n (.int .u8 0)) : CellRow (Cells g t cs :: L) g o (enc (List.replicate n 0)) := by
  have h1 := CellRow.cut (g := g) (t := t) (cs := cs) (o := o) (us := (cs.drop o).take n) (L := L) rfl
  rwa [h, ← enc_zeros] at h1
section
variable {X : Fx} {ops : Array Oper} {cf : Nat → Cls} {k : List Item} {i : Nat} {is : List Nat} {l : List Oper} {loc loc' : List Value} {tmp tmp' : List (Nat × Value)} {L F : List HP}
  {d : Option Tmp} {ty : TypeId} {pos : String} {aft : Array Edge} {gd : Option (Nat × Bool)}
variable {loca : Option Addr → Nat → List Value} {tmpa : Option Addr → Nat → List (Nat × Value)}
theorem y_appZr {t e n m c c' g o : Nat} {z : Value} {x y : Operand} {A : Option Addr} {bs : List UInt8} {T : TypeId} {cs : List Value} {F2 : List HP} [SlE X.P t e 1 1 [z]] (hx : sv loc tmp x = some (.slice A n c)) (hy : sv loc tmp y = some (.slice (some ⟨g, o, none⟩) m c'))
    (h : ∀ A' c', EO X ops cf k is l (loca A' c') (tmpa A' c') (Own A' c' e 1 (n + m) (enc (bs ++ List.replicate m 0)) :: F))
    (ht : Take (Own A c e 1 n (enc bs)) L F := by exact take_) (ht2 : Take (Cells g T cs) F F2 := by exact take_) (hz : (cs.drop o).take m = List.replicate m (.int .u8 0) := by rfl) (h63 : n + m ≤ 1000000000000 := by omega)
    (hp : ∀ A' c', Pt loc tmp d (.slice A' (n + m) c') (loca A' c') (tmpa A' c') := by intro A' c'; first | exact Pt.tmp rfl | exact Pt.none | exact Pt.loc (by repeat constructor))
    (hg : gdv ops loc tmp gd = some true := by rfl) (hd : dOK X.n d = true := by rfl) (hcl : cf i = .any := by rfl) (hq : X.q = false := by rfl) :
    EO X ops cf k (i :: is) (⟨d, .call ⟨.builtin .append, #[x, y], #[t, t]⟩, ty, pos, aft, gd⟩ :: l) loc tmp L :=
  x_appE hx hy ht ((CellRow.cutz hz).of_take ht2) (by simp) h63 (fun A' c' => ⟨_, _, hp A' c', h A' c'⟩) hg hd hcl hq
theorem y_appB {t e n x c c' g : Nat} {q : Int} {z : Value} {xo y : Operand} {A : Option Addr} {bs : List UInt8} {e2 c2 : Nat} {F2 : List HP} [SlE X.P t e 1 1 [z]] (hx : sv loc tmp xo = some (.slice A n c)) (hy : sv loc tmp y = some (.slice (some ⟨g, 0, none⟩) 1 c'))
    (h : ∀ A' c', EO X ops cf k is l (loca A' c') (tmpa A' c') (Own A' c' e 1 (n + 1) (enc (bs ++ leB 1 x)) :: F))
    (ht : Take (Own A c e 1 n (enc bs)) L F := by exact take_) (ht2 : Take (Own (some ⟨g, 0, none⟩) c2 e2 1 1 [.int .u8 q]) F F2 := by exact take_) (hv : NatV q x := by infer_instance) (hx8 : x < 256 := by omega) (h63 : n + 1 ≤ 1000000000000 := by omega)
    (hp : ∀ A' c', Pt loc tmp d (.slice A' (n + 1) c') (loca A' c') (tmpa A' c') := by intro A' c'; first | exact Pt.tmp rfl | exact Pt.none | exact Pt.loc (by repeat constructor))
    (hg : gdv ops loc tmp gd = some true := by rfl) (hd : dOK X.n d = true := by rfl) (hcl : cf i = .any := by rfl) (hq : X.q = false := by rfl) :
    EO X ops cf k (i :: is) (⟨d, .call ⟨.builtin .append, #[xo, y], #[t, t]⟩, ty, pos, aft, gd⟩ :: l) loc tmp L :=
  x_appE hx hy ht (by
    rw [enc_leB1' hx8, ← hv.h]
    exact CellRow.own.of_take ht2) (by simp [leB_len]) h63 (fun A' c' => ⟨_, _, hp A' c', h A' c'⟩) hg hd hcl hq
theorem y_idx1 {t n e a : Nat} {x y : Operand} {K : IntKind} {p : Int} {cs : List Value} {v : Value} [hv : NatV p a] [ha : ArrTy X.P t n e 1] [hag : OneCell X.P e] (hx : sv loc tmp x = some (.agg cs.toArray)) (hy : sv loc tmp y = some (.int K p)) (hn : a < n) (hu : cs[a]? = some v)
    (h : EO X ops cf k is l loc' tmp' L) (hp : Pt loc tmp d v loc' tmp' := by exact pt_)
    (hg : gdv ops loc tmp gd = some true := by rfl) (hd : dOK X.n d = true := by rfl) : EO X ops cf k (i :: is) (⟨d, .index t x y, ty, pos, aft, gd⟩ :: l) loc tmp L :=
  x_pure hg (fun A hr w => by
    obtain ⟨hu', j, hj, hz⟩ := ArrTy.out (P := X.P) (T := t) (n := n) (e := e) (sz := 1)
    obtain ⟨dd, j', hdd, hd2, hj', hz'⟩ := OneCell.out (P := X.P) (T := e)
    have hisag : (isAgg e).run X.P w = .ok false w := by
      unfold isAgg
      simp only [Sem.run_bind, run_underlying hdd, Result.andThen_ok]
      cases dd <;> simp_all
    have h0 : (0 : Int) ≤ a := by omega
    have h1 : (a : Int) < n := by omega
    simp [execOp, hr.ev hx, hr.ev hy, hv.h, Instr.index, asIntOf, run_underlying hu', h0, h1, hn, part, hisag, sizeOf, typeInfo, hj, hz, hu]) hp hd h
end
theorem e_roundsS {X : Fx} {k : List Item} {loc : List Value} {tmp : List (Nat × Value)} {L F : List HP} {ι : Type} {c : Code} (m : ι → Nat) (loI : ι → List Value) (tmI : ι → List (Nat × Value)) (LI : ι → List HP) (PI : ι → Prop) (i0 : ι) {ks : List Nat} (h0 : PI i0) (hl : loc = loI i0) (ht : KeepR tmp ks (tmI i0)) (hL : Subs (LI i0) L F)
    (round : ∀ i, PI i → (∀ j, m j < m i → PI j → E X (.inLoop c :: k) (loI j) (tmI j) (LI j)) → E X (.code c :: .inLoop c :: k) (loI i) (tmI i) (LI i)) :
    E X (.code (.loop c) :: k) loc tmp L := E.some hL (e_roundsK m loI tmI LI PI i0 h0 hl ht (List.Perm.refl _) round)
theorem E.ck {X : Fx} {k : List Item} {loc : List Value} {tmp : List (Nat × Value)} {L : List HP} {A : Option Addr} {c e n n' : Nat} {vs vs' : List Value} (hn : n = n') (hv : vs = vs') (h : E X k loc tmp (Own A c e 1 n' vs' :: L)) : E X k loc tmp (Own A c e 1 n vs :: L) := by
  subst hn hv; exact h
def sb1 (ic nb fb fi pi inc : Nat) : List UInt8 := [] ++ leB 4 ic ++ leB 4 nb ++ leB 4 0 ++ leB 4 fb ++ leB 4 fi ++ leB 4 0 ++ leB 4 2 ++ leB 4 2 ++ leB 4 32768 ++ leB 4 32768 ++ leB 4 pi ++ leB 4 0 ++ leB 4 0 ++ leB 2 0 ++ leB 2 0 ++ leB 2 61267 ++ leB 2 1 ++ leB 2 1 ++ leB 2 0 ++ leB 4 0 ++ leB 4 0 ++ leB 4 0 ++ leB 4 1 ++ leB 2 0 ++ leB 2 0 ++ leB 4 11 ++ leB 2 256 ++ leB 2 0 ++ leB 4 520 ++ leB 4 inc ++ leB 4 4170 ++ (List.replicate 16 0) ++ (List.replicate 16 0) ++ (List.replicate 64 0) ++ leB 4 0 ++ leB 1 0 ++ leB 1 0 ++ leB 2 0 ++ (List.replicate 16 0) ++ leB 4 0 ++ leB 4 0 ++ leB 4 0
def sb2 (ic nb fb fi pi inc : Nat) : List UInt8 := (sb1 ic nb fb fi pi inc ++ List.replicate 16 0) ++ leB 1 0 ++ leB 1 0 ++ leB 2 0 ++ leB 4 0 ++ leB 4 0 ++ leB 4 0
def sb3 (ic nb fb fi pi inc : Nat) : List UInt8 := (sb2 ic nb fb fi pi inc ++ List.replicate 68 0) ++ leB 4 0 ++ leB 4 0 ++ leB 4 0 ++ leB 2 24 ++ leB 2 24 ++ leB 4 0 ++ leB 2 0 ++ leB 2 0 ++ leB 8 0 ++ leB 4 0 ++ leB 1 31 ++ leB 1 0 ++ leB 2 0 ++ leB 8 0 ++ leB 4 0 ++ leB 4 0 ++ leB 8 0 ++ leB 4 0 ++ leB 4 0 ++ leB 4 0 ++ leB 4 0 ++ leB 8 0 ++ (List.replicate 32 0) ++ leB 4 0 ++ leB 4 0 ++ leB 4 0 ++ leB 4 0 ++ leB 8 0 ++ (List.replicate 32 0) ++ (List.replicate 64 0) ++ leB 4 0 ++ leB 4 0 ++ leB 4 0
def sb4 (ic nb fb fi pi inc : Nat) : List UInt8 := (sb3 ic nb fb fi pi inc ++ List.replicate 8 0) ++ (List.replicate 4 0) ++ (List.replicate 16 0) ++ leB 4 11 ++ leB 4 0 ++ leB 4 0 ++ leB 1 0 ++ leB 1 0 ++ leB 1 0 ++ leB 1 0 ++ leB 1 0 ++ leB 1 0 ++ (List.replicate 2 0)
def sb5 (ic nb fb fi pi inc : Nat) : List UInt8 := (sb4 ic nb fb fi pi inc ++ List.replicate 384 0) ++ leB 4 0
abbrev sbB (ic nb fb fi pi inc : Nat) : List UInt8 := sb5 ic nb fb fi pi inc
abbrev sbC (ic nb fb fi pi inc : Nat) : List Value := [.int .u32 (ic : Int), .int .u32 (nb : Int), .int .u32 0, .int .u32 (fb : Int), .int .u32 (fi : Int), .int .u32 0, .int .u32 2, .int .u32 2, .int .u32 32768, .int .u32 32768, .int .u32 (pi : Int), .int .u32 0, .int .u32 0, .int .u16 0, .int .u16 0, .int .u16 61267, .int .u16 1, .int .u16 1, .int .u16 0, .int .u32 0, .int .u32 0, .int .u32 0, .int .u32 1, .int .u16 0, .int .u16 0, .int .u32 11, .int .u16 256, .int .u16 0, .int .u32 520, .int .u32 (inc : Int), .int .u32 4170, .int .u8 0, .int .u8 0, .int .u8 0, .int .u8 0, .int .u8 0, .int .u8 0, .int .u8 0, .int .u8 0, .int .u8 0, .int .u8 0, .int .u8 0, .int .u8 0, .int .u8 0, .int .u8 0, .int .u8 0, .int .u8 0, .int .u8 0, .int .u8 0, .int .u8 0, .int .u8 0, .int .u8 0, .int .u8 0, .int .u8 0, .int .u8 0, .int .u8 0, .int .u8 0, .int .u8 0, .int .u8 0, .int .u8 0, .int .u8 0, .int .u8 0, .int .u8 0, .int .u8 0, .int .u8 0, .int .u8 0, .int .u8 0, .int .u8 0, .int .u8 0, .int .u8 0, .int .u8 0, .int .u8 0, .int .u8 0, .int .u8 0, .int .u8 0, .int .u8 0, .int .u8 0, .int .u8 0, .int .u8 0, .int .u8 0, .int .u8 0, .int .u8 0, .int .u8 0, .int .u8 0, .int .u8 0, .int .u8 0, .int .u8 0, .int .u8 0, .int .u8 0, .int .u8 0, .int .u8 0, .int .u8 0, .int .u8 0, .int .u8 0, .int .u8 0, .int .u8 0, .int .u8 0, .int .u8 0, .int .u8 0, .int .u8 0, .int .u8 0, .int .u8 0, .int .u8 0, .int .u8 0, .int .u8 0, .int .u8 0, .int .u8 0, .int .u8 0, .int .u8 0, .int .u8 0, .int .u8 0, .int .u8 0, .int .u8 0, .int .u8 0, .int .u8 0, .int .u8 0, .int .u8 0, .int .u8 0, .int .u8 0, .int .u8 0, .int .u8 0, .int .u8 0, .int .u8 0, .int .u8 0, .int .u8 0, .int .u8 0, .int .u8 0, .int .u32 0, .int .u8 0, .int .u8 0, .int .u16 0, .int .u8 0, .int .u8 0, .int .u8 0, .int .u8 0, .int .u8 0, .int .u8 0, .int .u8 0, .int .u8 0, .int .u8 0, .int .u8 0, .int .u8 0, .int .u8 0, .int .u8 0, .int .u8 0, .int .u8 0, .int .u8 0, .int .u32 0, .int .u32 0, .int .u32 0, .int .u32 0, .int .u32 0, .int .u32 0, .int .u32 0, .int .u8 0, .int .u8 0, .int .u16 0, .int .u32 0, .int .u32 0, .int .u32 0, .int .u32 0, .int .u32 0, .int .u32 0, .int .u32 0, .int .u32 0, .int .u32 0, .int .u32 0, .int .u32 0, .int .u32 0, .int .u32 0, .int .u32 0, .int .u32 0, .int .u32 0, .int .u32 0, .int .u32 0, .int .u32 0, .int .u32 0, .int .u32 0, .int .u32 0, .int .u32 0, .int .u16 24, .int .u16 24, .int .u32 0, .int .u16 0, .int .u16 0, .int .u64 0, .int .u32 0, .int .u8 31, .int .u8 0, .int .u16 0, .int .u64 0, .int .u32 0, .int .u32 0, .int .u64 0, .int .u32 0, .int .u32 0, .int .u32 0, .int .u32 0, .int .u64 0, .int .u8 0, .int .u8 0, .int .u8 0, .int .u8 0, .int .u8 0, .int .u8 0, .int .u8 0, .int .u8 0, .int .u8 0, .int .u8 0, .int .u8 0, .int .u8 0, .int .u8 0, .int .u8 0, .int .u8 0, .int .u8 0, .int .u8 0, .int .u8 0, .int .u8 0, .int .u8 0, .int .u8 0, .int .u8 0, .int .u8 0, .int .u8 0, .int .u8 0, .int .u8 0, .int .u8 0, .int .u8 0, .int .u8 0, .int .u8 0, .int .u8 0, .int .u8 0, .int .u32 0, .int .u32 0, .int .u32 0, .int .u32 0, .int .u64 0, .int .u8 0, .int .u8 0, .int .u8 0, .int .u8 0, .int .u8 0, .int .u8 0, .int .u8 0, .int .u8 0, .int .u8 0, .int .u8 0, .int .u8 0, .int .u8 0, .int .u8 0, .int .u8 0, .int .u8 0, .int .u8 0, .int .u8 0, .int .u8 0, .int .u8 0, .int .u8 0, .int .u8 0, .int .u8 0, .int .u8 0, .int .u8 0, .int .u8 0, .int .u8 0, .int .u8 0, .int .u8 0, .int .u8 0, .int .u8 0, .int .u8 0, .int .u8 0, .int .u8 0, .int .u8 0, .int .u8 0, .int .u8 0, .int .u8 0, .int .u8 0, .int .u8 0, .int .u8 0, .int .u8 0, .int .u8 0, .int .u8 0, .int .u8 0, .int .u8 0, .int .u8 0, .int .u8 0, .int .u8 0, .int .u8 0, .int .u8 0, .int .u8 0, .int .u8 0, .int .u8 0, .int .u8 0, .int .u8 0, .int .u8 0, .int .u8 0, .int .u8 0, .int .u8 0, .int .u8 0, .int .u8 0, .int .u8 0, .int .u8 0, .int .u8 0, .int .u8 0, .int .u8 0, .int .u8 0, .int .u8 0, .int .u8 0, .int .u8 0, .int .u8 0, .int .u8 0, .int .u8 0, .int .u8 0, .int .u8 0, .int .u8 0, .int .u8 0, .int .u8 0, .int .u8 0, .int .u8 0, .int .u8 0, .int .u8 0, .int .u8 0, .int .u8 0, .int .u8 0, .int .u8 0, .int .u8 0, .int .u8 0, .int .u8 0, .int .u8 0, .int .u8 0, .int .u8 0, .int .u8 0, .int .u8 0, .int .u8 0, .int .u8 0, .int .u32 0, .int .u32 0, .int .u32 0, .int .u32 0, .int .u32 0, .int .u8 0, .int .u8 0, .int .u8 0, .int .u8 0, .int .u8 0, .int .u8 0, .int .u8 0, .int .u8 0, .int .u8 0, .int .u8 0, .int .u8 0, .int .u8 0, .int .u8 0, .int .u8 0, .int .u8 0, .int .u8 0, .int .u8 0, .int .u8 0, .int .u8 0, .int .u8 0, .int .u32 11, .int .u32 0, .int .u32 0, .int .u8 0, .int .u8 0, .int .u8 0, .int .u8 0, .int .u8 0, .int .u8 0, .int .u8 0, .int .u8 0, .int .u32 0, .int .u32 0, .int .u32 0, .int .u32 0, .int .u32 0, .int .u32 0, .int .u32 0, .int .u32 0, .int .u32 0, .int .u32 0, .int .u32 0, .int .u32 0, .int .u32 0, .int .u32 0, .int .u32 0, .int .u32 0, .int .u32 0, .int .u32 0, .int .u32 0, .int .u32 0, .int .u32 0, .int .u32 0, .int .u32 0, .int .u32 0, .int .u32 0, .int .u32 0, .int .u32 0, .int .u32 0, .int .u32 0, .int .u32 0, .int .u32 0, .int .u32 0, .int .u32 0, .int .u32 0, .int .u32 0, .int .u32 0, .int .u32 0, .int .u32 0, .int .u32 0, .int .u32 0, .int .u32 0, .int .u32 0, .int .u32 0, .int .u32 0, .int .u32 0, .int .u32 0, .int .u32 0, .int .u32 0, .int .u32 0, .int .u32 0, .int .u32 0, .int .u32 0, .int .u32 0, .int .u32 0, .int .u32 0, .int .u32 0, .int .u32 0, .int .u32 0, .int .u32 0, .int .u32 0, .int .u32 0, .int .u32 0, .int .u32 0, .int .u32 0, .int .u32 0, .int .u32 0, .int .u32 0, .int .u32 0, .int .u32 0, .int .u32 0, .int .u32 0, .int .u32 0, .int .u32 0, .int .u32 0, .int .u32 0, .int .u32 0, .int .u32 0, .int .u32 0, .int .u32 0, .int .u32 0, .int .u32 0, .int .u32 0, .int .u32 0, .int .u32 0, .int .u32 0, .int .u32 0, .int .u32 0, .int .u32 0, .int .u32 0, .int .u32 0, .int .u32 0, .int .u32 0, .int .u32 0, .int .u32 0, .int .u32 0, .int .u32 0, .int .u32 0]
theorem sbBytes_fn (ic nb fb fi pi inc : Nat) (h1 : ic < 4294967296) (h2 : nb < 4294967296) (h3 : fb < 4294967296) (h4 : fi < 4294967296) (h5 : pi < 4294967296) (h6 : inc < 4294967296) :
    Fe Tryz.prog 119 #[.agg (sbC ic nb fb fi pi inc).toArray] [] (fun _ : Option Addr × Nat => True) (fun i => .slice i.1 1024 i.2) (fun i => [Own i.1 i.2 5 1 1024 (enc (sbB ic nb fb fi pi inc))]) := by
  refine fn_of_E' (args := [_]) 12 _ [_, undef, undef, undef, undef, undef, undef, undef, undef, undef, undef, undef] Tryz.func119 rfl Tryz.ntmps119 ?_
  refine E.nilB ?_
  refine walk ?_
  refine y_boxA rfl fun g0 => ?_
  repeat (first | refine walk1 ?_ | (refine is_op ?_; first | (refine x_callE rfl rfl (fput16' _ _ _ _ (by omega) (by omega)) sub_ (fun _ => by (repeat (first | exact App.nil | apply App.cons)) <;> fail) fun i _ => ⟨_, _, pt_, ?_⟩) | (refine x_callE rfl rfl (fput32' _ _ _ _ (by omega) (by omega)) sub_ (fun _ => by (repeat (first | exact App.nil | apply App.cons)) <;> fail) fun i _ => ⟨_, _, pt_, ?_⟩) | (refine x_callE rfl rfl (fput64' _ _ _ _ (by omega) (by omega)) sub_ (fun _ => by (repeat (first | exact App.nil | apply App.cons)) <;> fail) fun i _ => ⟨_, _, pt_, ?_⟩) | (refine y_appZr rfl rfl (fun A' c' => ?_)) | (refine y_idx1 rfl rfl (by omega) rfl ?_) | fail) | refine y_boxA rfl (fun g => ?_) | refine y_build1 rfl (fun g => ?_) | refine y_appB rfl rfl (fun A' c' => ?_) | fail)
  refine E.ck (n' := 236 + 4 * 0) (vs' := enc (sb1 ic nb fb fi pi inc ++ List.replicate (4 * 0) 0)) rfl (by rw [Nat.mul_zero, List.replicate_zero, List.append_nil]; rfl) ?_
  refine e_roundsS (ι := Nat × Option Addr × Nat × Value) (fun q => 4 - q.1)
    (fun q => [.agg (sbC ic nb fb fi pi inc).toArray, ptrV g0, .slice none 0 0, .slice q.2.1 (236 + 4 * q.1) q.2.2.1, undef, q.2.2.2, undef, undef, undef, undef, undef, undef])
    (fun q => [(184, .int .i64 (q.1 : Nat)), (183, .agg (List.replicate 4 (.int .u32 0 : Value)).toArray)])
    (fun q => [Own q.2.1 q.2.2.1 5 1 (236 + 4 * q.1) (enc (sb1 ic nb fb fi pi inc ++ List.replicate (4 * q.1) 0)), Cells g0 231 (sbC ic nb fb fi pi inc)])
    (fun q => q.1 ≤ 4) (0, _, _, undef) (by dsimp only; omega) rfl (by repeat constructor) (by exact .cons .here (.cons take_ .nil)) ?_
  rintro ⟨n0, A0, c0, w0⟩ hn0 again
  dsimp only at hn0 again ⊢
  by_cases hlt0 : n0 < 4
  · refine walk ?_
    refine y_idx1 (v := .int .u32 0) rfl rfl (by omega) (by rw [List.getElem?_replicate, if_pos hlt0]) ?_
    refine walk ?_
    refine y_callE rfl rfl (fput32' _ _ _ _ (by omega) (by omega)) fun i _ => ?_
    refine walk ?_
    have ez : sb1 ic nb fb fi pi inc ++ List.replicate (4 * (n0 + 1)) 0 = sb1 ic nb fb fi pi inc ++ List.replicate (4 * n0) 0 ++ leB 4 0 := by
      rw [show 4 * (n0 + 1) = 4 * n0 + 4 by omega, ← List.replicate_append_replicate, List.append_assoc]; rfl
    have ag := again (n0 + 1, i.1, i.2, .int .u32 0) (by dsimp only; omega) (by dsimp only; omega)
    dsimp only at ag
    rw [show 236 + 4 * (n0 + 1) = 236 + 4 * n0 + 4 by omega, ez] at ag
    exact ag.toKS (ks := [184, 183]) rfl (by repeat constructor)
  have e0 : n0 = 4 := by omega
  subst e0
  repeat (first | refine walk1 ?_ | (refine is_op ?_; first | (refine x_callE rfl rfl (fput16' _ _ _ _ (by omega) (by omega)) sub_ (fun _ => by (repeat (first | exact App.nil | apply App.cons)) <;> fail) fun i _ => ⟨_, _, pt_, ?_⟩) | (refine x_callE rfl rfl (fput32' _ _ _ _ (by omega) (by omega)) sub_ (fun _ => by (repeat (first | exact App.nil | apply App.cons)) <;> fail) fun i _ => ⟨_, _, pt_, ?_⟩) | (refine x_callE rfl rfl (fput64' _ _ _ _ (by omega) (by omega)) sub_ (fun _ => by (repeat (first | exact App.nil | apply App.cons)) <;> fail) fun i _ => ⟨_, _, pt_, ?_⟩) | (refine y_appZr rfl rfl (fun A' c' => ?_)) | (refine y_idx1 rfl rfl (by omega) rfl ?_) | fail) | refine y_boxA rfl (fun g => ?_) | refine y_build1 rfl (fun g => ?_) | refine y_appB rfl rfl (fun A' c' => ?_) | fail)
  refine E.ck (n' := 268 + 4 * 0) (vs' := enc (sb2 ic nb fb fi pi inc ++ List.replicate (4 * 0) 0)) rfl (by rw [Nat.mul_zero, List.replicate_zero, List.append_nil]; rfl) ?_
  refine e_roundsS (ι := Nat × Option Addr × Nat × Value) (fun q => 17 - q.1)
    (fun q => [.agg (sbC ic nb fb fi pi inc).toArray, ptrV g0, .slice none 0 0, .slice q.2.1 (268 + 4 * q.1) q.2.2.1, undef, w0, undef, q.2.2.2, undef, undef, undef, undef])
    (fun q => [(219, .int .i64 (q.1 : Nat)), (218, .agg (List.replicate 17 (.int .u32 0 : Value)).toArray)])
    (fun q => [Own q.2.1 q.2.2.1 5 1 (268 + 4 * q.1) (enc (sb2 ic nb fb fi pi inc ++ List.replicate (4 * q.1) 0)), Cells g0 231 (sbC ic nb fb fi pi inc)])
    (fun q => q.1 ≤ 17) (0, _, _, undef) (by dsimp only; omega) rfl (by repeat constructor) (by exact .cons .here (.cons take_ .nil)) ?_
  rintro ⟨n1, A1, c1, w1⟩ hn1 again
  dsimp only at hn1 again ⊢
  by_cases hlt1 : n1 < 17
  · refine walk ?_
    refine y_idx1 (v := .int .u32 0) rfl rfl (by omega) (by rw [List.getElem?_replicate, if_pos hlt1]) ?_
    refine walk ?_
    refine y_callE rfl rfl (fput32' _ _ _ _ (by omega) (by omega)) fun i _ => ?_
    refine walk ?_
    have ez : sb2 ic nb fb fi pi inc ++ List.replicate (4 * (n1 + 1)) 0 = sb2 ic nb fb fi pi inc ++ List.replicate (4 * n1) 0 ++ leB 4 0 := by
      rw [show 4 * (n1 + 1) = 4 * n1 + 4 by omega, ← List.replicate_append_replicate, List.append_assoc]; rfl
    have ag := again (n1 + 1, i.1, i.2, .int .u32 0) (by dsimp only; omega) (by dsimp only; omega)
    dsimp only at ag
    rw [show 268 + 4 * (n1 + 1) = 268 + 4 * n1 + 4 by omega, ez] at ag
    exact ag.toKS (ks := [219, 218]) rfl (by repeat constructor)
  have e1 : n1 = 17 := by omega
  subst e1
  repeat (first | refine walk1 ?_ | (refine is_op ?_; first | (refine x_callE rfl rfl (fput16' _ _ _ _ (by omega) (by omega)) sub_ (fun _ => by (repeat (first | exact App.nil | apply App.cons)) <;> fail) fun i _ => ⟨_, _, pt_, ?_⟩) | (refine x_callE rfl rfl (fput32' _ _ _ _ (by omega) (by omega)) sub_ (fun _ => by (repeat (first | exact App.nil | apply App.cons)) <;> fail) fun i _ => ⟨_, _, pt_, ?_⟩) | (refine x_callE rfl rfl (fput64' _ _ _ _ (by omega) (by omega)) sub_ (fun _ => by (repeat (first | exact App.nil | apply App.cons)) <;> fail) fun i _ => ⟨_, _, pt_, ?_⟩) | (refine y_appZr rfl rfl (fun A' c' => ?_)) | (refine y_idx1 rfl rfl (by omega) rfl ?_) | fail) | refine y_boxA rfl (fun g => ?_) | refine y_build1 rfl (fun g => ?_) | refine y_appB rfl rfl (fun A' c' => ?_) | fail)
  refine E.ck (n' := 588 + 4 * 0) (vs' := enc (sb3 ic nb fb fi pi inc ++ List.replicate (4 * 0) 0)) rfl (by rw [Nat.mul_zero, List.replicate_zero, List.append_nil]; rfl) ?_
  refine e_roundsS (ι := Nat × Option Addr × Nat × Value) (fun q => 2 - q.1)
    (fun q => [.agg (sbC ic nb fb fi pi inc).toArray, ptrV g0, .slice none 0 0, .slice q.2.1 (588 + 4 * q.1) q.2.2.1, undef, w0, undef, w1, undef, q.2.2.2, undef, undef])
    (fun q => [(362, .int .i64 (q.1 : Nat)), (361, .agg (List.replicate 2 (.int .u32 0 : Value)).toArray)])
    (fun q => [Own q.2.1 q.2.2.1 5 1 (588 + 4 * q.1) (enc (sb3 ic nb fb fi pi inc ++ List.replicate (4 * q.1) 0)), Cells g0 231 (sbC ic nb fb fi pi inc)])
    (fun q => q.1 ≤ 2) (0, _, _, undef) (by dsimp only; omega) rfl (by repeat constructor) (by exact .cons .here (.cons take_ .nil)) ?_
  rintro ⟨n2, A2, c2, w2⟩ hn2 again
  dsimp only at hn2 again ⊢
  by_cases hlt2 : n2 < 2
  · refine walk ?_
    refine y_idx1 (v := .int .u32 0) rfl rfl (by omega) (by rw [List.getElem?_replicate, if_pos hlt2]) ?_
    refine walk ?_
    refine y_callE rfl rfl (fput32' _ _ _ _ (by omega) (by omega)) fun i _ => ?_
    refine walk ?_
    have ez : sb3 ic nb fb fi pi inc ++ List.replicate (4 * (n2 + 1)) 0 = sb3 ic nb fb fi pi inc ++ List.replicate (4 * n2) 0 ++ leB 4 0 := by
      rw [show 4 * (n2 + 1) = 4 * n2 + 4 by omega, ← List.replicate_append_replicate, List.append_assoc]; rfl
    have ag := again (n2 + 1, i.1, i.2, .int .u32 0) (by dsimp only; omega) (by dsimp only; omega)
    dsimp only at ag
    rw [show 588 + 4 * (n2 + 1) = 588 + 4 * n2 + 4 by omega, ez] at ag
    exact ag.toKS (ks := [362, 361]) rfl (by repeat constructor)
  have e2 : n2 = 2 := by omega
  subst e2
  repeat (first | refine walk1 ?_ | (refine is_op ?_; first | (refine x_callE rfl rfl (fput16' _ _ _ _ (by omega) (by omega)) sub_ (fun _ => by (repeat (first | exact App.nil | apply App.cons)) <;> fail) fun i _ => ⟨_, _, pt_, ?_⟩) | (refine x_callE rfl rfl (fput32' _ _ _ _ (by omega) (by omega)) sub_ (fun _ => by (repeat (first | exact App.nil | apply App.cons)) <;> fail) fun i _ => ⟨_, _, pt_, ?_⟩) | (refine x_callE rfl rfl (fput64' _ _ _ _ (by omega) (by omega)) sub_ (fun _ => by (repeat (first | exact App.nil | apply App.cons)) <;> fail) fun i _ => ⟨_, _, pt_, ?_⟩) | (refine y_appZr rfl rfl (fun A' c' => ?_)) | (refine y_idx1 rfl rfl (by omega) rfl ?_) | fail) | refine y_boxA rfl (fun g => ?_) | refine y_build1 rfl (fun g => ?_) | refine y_appB rfl rfl (fun A' c' => ?_) | fail)
  refine E.ck (n' := 636 + 4 * 0) (vs' := enc (sb4 ic nb fb fi pi inc ++ List.replicate (4 * 0) 0)) rfl (by rw [Nat.mul_zero, List.replicate_zero, List.append_nil]; rfl) ?_
  refine e_roundsS (ι := Nat × Option Addr × Nat × Value) (fun q => 96 - q.1)
    (fun q => [.agg (sbC ic nb fb fi pi inc).toArray, ptrV g0, .slice none 0 0, .slice q.2.1 (636 + 4 * q.1) q.2.2.1, undef, w0, undef, w1, undef, w2, undef, q.2.2.2])
    (fun q => [(425, .int .i64 (q.1 : Nat)), (424, .agg (List.replicate 96 (.int .u32 0 : Value)).toArray)])
    (fun q => [Own q.2.1 q.2.2.1 5 1 (636 + 4 * q.1) (enc (sb4 ic nb fb fi pi inc ++ List.replicate (4 * q.1) 0)), Cells g0 231 (sbC ic nb fb fi pi inc)])
    (fun q => q.1 ≤ 96) (0, _, _, undef) (by dsimp only; omega) rfl (by repeat constructor) (by exact .cons .here (.cons take_ .nil)) ?_
  rintro ⟨n3, A3, c3, w3⟩ hn3 again
  dsimp only at hn3 again ⊢
  by_cases hlt3 : n3 < 96
  · refine walk ?_
    refine y_idx1 (v := .int .u32 0) rfl rfl (by omega) (by rw [List.getElem?_replicate, if_pos hlt3]) ?_
    refine walk ?_
    refine y_callE rfl rfl (fput32' _ _ _ _ (by omega) (by omega)) fun i _ => ?_
    refine walk ?_
    have ez : sb4 ic nb fb fi pi inc ++ List.replicate (4 * (n3 + 1)) 0 = sb4 ic nb fb fi pi inc ++ List.replicate (4 * n3) 0 ++ leB 4 0 := by
      rw [show 4 * (n3 + 1) = 4 * n3 + 4 by omega, ← List.replicate_append_replicate, List.append_assoc]; rfl
    have ag := again (n3 + 1, i.1, i.2, .int .u32 0) (by dsimp only; omega) (by dsimp only; omega)
    dsimp only at ag
    rw [show 636 + 4 * (n3 + 1) = 636 + 4 * n3 + 4 by omega, ez] at ag
    exact ag.toKS (ks := [425, 424]) rfl (by repeat constructor)
  have e3 : n3 = 96 := by omega
  subst e3
  repeat (first | refine walk1 ?_ | (refine is_op ?_; first | (refine x_callE rfl rfl (fput16' _ _ _ _ (by omega) (by omega)) sub_ (fun _ => by (repeat (first | exact App.nil | apply App.cons)) <;> fail) fun i _ => ⟨_, _, pt_, ?_⟩) | (refine x_callE rfl rfl (fput32' _ _ _ _ (by omega) (by omega)) sub_ (fun _ => by (repeat (first | exact App.nil | apply App.cons)) <;> fail) fun i _ => ⟨_, _, pt_, ?_⟩) | (refine x_callE rfl rfl (fput64' _ _ _ _ (by omega) (by omega)) sub_ (fun _ => by (repeat (first | exact App.nil | apply App.cons)) <;> fail) fun i _ => ⟨_, _, pt_, ?_⟩) | (refine y_appZr rfl rfl (fun A' c' => ?_)) | (refine y_idx1 rfl rfl (by omega) rfl ?_) | fail) | refine y_boxA rfl (fun g => ?_) | refine y_build1 rfl (fun g => ?_) | refine y_appB rfl rfl (fun A' c' => ?_) | fail)
  refine E.ck (n' := 1024) (vs' := enc (sbB ic nb fb fi pi inc)) rfl rfl ?_
  exact y_ret [2] rfl ⟨i, trivial, rfl, rfl⟩
end Go.Proofs.YtppkiiomedembaaGreatDoor
