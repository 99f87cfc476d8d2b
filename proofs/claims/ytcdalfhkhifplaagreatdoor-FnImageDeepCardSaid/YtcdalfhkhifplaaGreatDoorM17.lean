/-
  The walks: an image is closed, the end; The walks: an image is closed, the descriptors; The walks: an image is closed. Conditions: none.
-/
import Derived.Test.YtcdalfhkhifplaaGreatDoorM15
import Derived.Test.YtcdalfhkhifplaaGreatDoorM16
set_option linter.unusedVariables false
set_option linter.unusedSimpArgs false
namespace Go.Proofs.YtcdalfhkhifplaaGreatDoor
open Go
set_option maxRecDepth 100000
set_option maxHeartbeats 1000000
def headR : Code → Nat
  | .region id _ _ => id
  | .seq a _ => headR a
  | _ => 1000000
def fromC (id : Nat) : Code → Code
  | .seq a b => bif Nat.beq (headR a) id then .seq a b else fromC id b
  | c => c
instance : ZeroOf Tryz.prog 150 (List.replicate 8192 (.int .u8 0)) := ⟨by kernel_rfl⟩
instance : ZeroOf Tryz.prog 133 (List.replicate 4096 (.int .u8 0)) := ⟨by kernel_rfl⟩
theorem zeroSB {pl : List (Nat × Nat)} {z : List Value} [h : BldTy Tryz.prog 171 pl z] : ZeroOf Tryz.prog 171 z := ⟨h.hz⟩
theorem made_len (z : List Value) (n : Nat) : (madeCells z.toArray n).toList.length = n := by rw [Array.length_toList, size_madeCells]
theorem made_get (z : List Value) (n i : Nat) (hi : i < n) : ((madeCells z.toArray (n * z.length)).toList.drop (i * z.length)).take z.length = z := by
  have hle : (i + 1) * z.length ≤ n * z.length := Nat.mul_le_mul_right _ hi
  rw [Nat.add_mul] at hle
  apply List.ext_getElem?
  intro j
  by_cases hj : j < z.length
  · have h1 : i * z.length + j < n * z.length := by omega
    have h2 : (i * z.length + j) % z.length = j := by rw [Nat.mul_comm, Nat.mul_add_mod, Nat.mod_eq_of_lt hj]
    rw [List.getElem?_take_of_lt hj, List.getElem?_drop, madeCells, Array.getElem?_toList, Array.getElem?_map, Array.getElem?_range]
    simp [h1, h2, hj]
  · rw [List.getElem?_eq_none (by simp; omega), List.getElem?_eq_none (by omega)]
attribute [local irreducible] E EO
section
variable {X : Fx} {ops : Array Oper} {cf : Nat → Cls} {k : List Item} {i : Nat} {is : List Nat} {l : List Oper} {loc loc' : List Value} {tmp tmp' : List (Nat × Value)} {L L' F M : List HP}
  {d : Option Tmp} {ty : TypeId} {pos : String} {aft : Array Edge} {gd : Option (Nat × Bool)} {locf : Nat → List Value} {tmpf : Nat → List (Nat × Value)}
theorem y_makeM {t e sz b n : Nat} {z : List Value} {K K' : IntKind} {x y : Operand} [SlE X.P t e sz b z] (hx : sv loc tmp x = some (.int K (n : Int))) (hy : sv loc tmp y = some (.int K' (n : Int)))
    (h : ∀ g, EO X ops cf k is l (locf g) (tmpf g) (Own (some ⟨g, 0, none⟩) n e sz n (madeCells z.toArray (n * sz)).toList :: L))
    (hb : b * n ≤ 281474976710656 := by omega) (h63 : n ≤ 1000000000 := by omega)
    (hp : ∀ g, Pt loc tmp d (.slice (some ⟨g, 0, none⟩) n n) (locf g) (tmpf g) := by intro g; first | exact Pt.tmp rfl | exact Pt.none | exact Pt.loc (by repeat constructor))
    (hg : gdv ops loc tmp gd = some true := by rfl) (hd : dOK X.n d = true := by rfl) (hcl : (cf i).news = true := by rfl) (hq : X.q = false := by rfl) : EO X ops cf k (i :: is) (⟨d, .makeSlice t x y, ty, pos, aft, gd⟩ :: l) loc tmp L :=
  x_new (Rv := fun v L'' => ∃ g, v = .slice (some ⟨g, 0, none⟩) n n ∧ L'' = Own (some ⟨g, 0, none⟩) n e sz n (madeCells z.toArray (n * sz)).toList :: L) hg hcl (fun a hrl w0 S0 w hs q => by
    obtain ⟨hu, j, zv, hj, hjs, hjb, hjz, hzv⟩ := SlE.out (P := X.P) (T := t) (e := e) (sz := sz) (b := b) (z := z)
    have hzc : zv.cells = z.toArray := by apply Array.ext'; simpa using hzv
    have hrun := run_make (P := X.P) (wat w q) t e j zv hu hj hjz K K' n n (by omega) (Int.le_refl _) (by rw [hjb]; omega) (by omega)
    rw [hzc, hjs] at hrun
    simp only [Int.toNat_natCast] at hrun
    have h1 := (hs.wat q).made e sz n n (madeCells z.toArray (n * sz)).toList (by rw [made_len]) (Nat.le_refl _) (by simp only [maxLen]; omega)
    rw [List.take_of_length_le (by rw [made_len]; exact Nat.le_refl _)] at h1
    simp [RunN, execOp, hrl.ev hx, hrl.ev hy, hrun]
    refine ⟨?_, ?_⟩
    · exact fun x o hx => (heap_alloc_old (wat w q) _ (Array.getElem?_eq_some_iff.1 hx).1).trans hx
    · rw [hq]; simpa using h1) hd (fun v L'' ⟨g, e1, e2⟩ => by subst e1 e2; exact ⟨_, _, hp g, h g⟩)
theorem x_storeAR {T m g o : Nat} {x y : Operand} {us : List Value} [AggSz X.P T m] (hx : sv loc tmp x = some (.pointer (some ⟨g, o, none⟩))) (hy : sv loc tmp y = some (.agg us.toArray)) (hm : us.length = m) (hu : us.all (·.oneCell') = true) (hw : PutR L g o us L') (h : EO X ops cf k is l loc tmp L')
    (hg : gdv ops loc tmp gd = some true := by rfl) (hcl : cf i = .any := by rfl) (hq : X.q = false := by rfl) : EO X ops cf k (i :: is) (⟨none, .store T x y, ty, pos, aft, gd⟩ :: l) loc tmp L :=
  x_any (Rv := fun _ L'' => L'' = L') hg hcl (fun a hr w0 S0 w hs n => by
    obtain ⟨dd, j, _, hdd, hj, hz⟩ := AggSz.out (P := X.P) (T := T) (n := m)
    obtain ⟨cur, t, hgc, hl, hs'⟩ := hw.st (hs.wat n)
    have hcs : (Value.agg us.toArray).cells = us.toArray := rfl
    have hst := run_storeCells_at X.P g o t us 0 cur (wat w n) hgc (by simpa using hl) (fun v hv => List.all_eq_true.1 hu v hv)
    simp only [Nat.add_zero] at hst
    have e : Proofs.YtcdalfhkhifplaaGreatDoor.ovw cur.toList o us = cur.toList.take o ++ us ++ cur.toList.drop (o + us.length) := rfl
    rw [e] at hs'
    have hrun : (Instr.storeAt T (.pointer (some ⟨g, o, none⟩)) (.agg us.toArray)).run X.P (wat w n) = (storeCells ⟨g, o, none⟩ us).run X.P (wat w n) := by
      simp [Instr.storeAt, Instr.sureAddr, storeVar, sizeOf, typeInfo, hj, hz, hcs, hm]
    simp [RunN, execOp, hr.ev hx, hr.ev hy, hrun, hst]
    rw [hq]
    simpa using hs') rfl (fun v L'' e => by subst e; exact ⟨_, _, .none, h⟩)
theorem PutR.of_takeR {L F : List HP} {g c e sz n o : Nat} {vs us : List Value} (h : Take (Own (some ⟨g, 0, none⟩) c e sz n vs) L F) (ho : o + us.length ≤ vs.length) : ∃ L', PutR L g o us L' ∧ L'.Perm (Own (some ⟨g, 0, none⟩) c e sz n (ovw vs o us) :: F) := by
  generalize hA : Own (some ⟨g, 0, none⟩) c e sz n vs = A at h
  induction h with
  | here => subst hA; exact ⟨_, .own ho, List.Perm.refl _⟩
  | there _ ih =>
    obtain ⟨L', h1, h2⟩ := ih
    exact ⟨_, .there h1, (h2.cons _).trans (List.Perm.swap _ _ _)⟩
theorem y_storeM {T m g C e sz N p o : Nat} {x y : Operand} {us vs : List Value} [AggSz X.P T m] (ho : o + us.length ≤ vs.length) (h : EO X ops cf k is l loc tmp (Own (some ⟨g, 0, none⟩) C e sz N (ovw vs o us) :: F))
    (hx : sv loc tmp x = some (.pointer (some ⟨g, p, none⟩)) := by rfl) (hy : sv loc tmp y = some (.agg us.toArray) := by rfl) (hpo : p = o := by omega) (ht : Take (Own (some ⟨g, 0, none⟩) C e sz N vs) L F := by exact take_) (hm : us.length = m := by rfl) (hu : us.all (·.oneCell') = true := by rfl)
    (hg : gdv ops loc tmp gd = some true := by rfl) (hcl : cf i = .any := by rfl) (hq : X.q = false := by rfl) : EO X ops cf k (i :: is) (⟨none, .store T x y, ty, pos, aft, gd⟩ :: l) loc tmp L := by
  subst hpo
  obtain ⟨L', h1, h2⟩ := PutR.of_takeR (us := us) ht ho
  exact x_storeAR hx hy hm hu h1 (EO.perm h2 h) hg hcl hq
end
section
variable {X : Fx} {ops : Array Oper} {cf : Nat → Cls} {k : List Item} {i : Nat} {is : List Nat} {l : List Oper} {loc loc' : List Value} {tmp tmp' : List (Nat × Value)} {L L' F M : List HP}
  {d : Option Tmp} {ty : TypeId} {pos : String} {aft : Array Edge} {gd : Option (Nat × Bool)}
theorem CellRow.cellsT {g t : Nat} {cs : List Value} {L F : List HP} (ht : Take (Cells g t cs) L F) : CellRow L g 0 cs := fun j v hj m S hS => by
  obtain ⟨S1, S2, h1, _⟩ := sats_perm ht.perm hS
  exact ((CellRow.here (g := g) (t := t) (cs := cs) (L := F)) j v hj) m S (sats_perm ht.perm hS)
theorem y_loadCell {T g p a t : Nat} {x : Operand} {v : Value} {cs : List Value} [OneCell X.P T] (hv : cs[a]? = some v) (h : EO X ops cf k is l loc' tmp' L) (hx : sv loc tmp x = some (.pointer (some ⟨g, p, none⟩)) := by rfl) (ht : Take (Cells g t cs) L F := by exact take_) (he : p = 0 + a := by omega) (hp : Pt loc tmp d v loc' tmp' := by exact pt_)
    (hg : gdv ops loc tmp gd = some true := by rfl) (hd : dOK X.n d = true := by rfl) (hcl : (cf i).reads = true := by rfl) : EO X ops cf k (i :: is) (⟨d, .load T x, ty, pos, aft, gd⟩ :: l) loc tmp L := by
  subst he
  exact x_load hx (CellRow.cellsT ht a v hv) hp h hg hd hcl
theorem PutR.of_takeC {L F : List HP} {g t a : Nat} {vs : List Value} {u : Value} (h : Take (Cells g t vs) L F) (ha : a < vs.length) : ∃ L', PutR L g a [u] L' ∧ L'.Perm (Cells g t (vs.set a u) :: F) := by
  generalize hA : Cells g t vs = A at h
  induction h with
  | here =>
    subst hA
    refine ⟨_, .cells (by simp; omega), ?_⟩
    rw [show ovw vs a [u] = vs.set a u from by
      unfold ovw
      rw [List.set_eq_take_append_cons_drop, if_pos ha]
      simp]
  | there _ ih =>
    obtain ⟨L', h1, h2⟩ := ih
    exact ⟨_, .there h1, (h2.cons _).trans (List.Perm.swap _ _ _)⟩
theorem y_storeCell {T g p a t : Nat} {x y : Operand} {u : Value} {vs : List Value} [OneCell X.P T] (ha : a < vs.length) (h : EO X ops cf k is l loc tmp (Cells g t (vs.set a u) :: F))
    (hx : sv loc tmp x = some (.pointer (some ⟨g, p, none⟩)) := by rfl) (hy : sv loc tmp y = some u := by rfl) (hpa : p = a := by omega) (ht : Take (Cells g t vs) L F := by exact take_) (hu : u.oneCell' = true := by rfl)
    (hg : gdv ops loc tmp gd = some true := by rfl) (hcl : cf i = .any := by rfl) (hq : X.q = false := by rfl) : EO X ops cf k (i :: is) (⟨none, .store T x y, ty, pos, aft, gd⟩ :: l) loc tmp L := by
  subst hpa
  obtain ⟨L', h1, h2⟩ := PutR.of_takeC (u := u) ht ha
  exact x_storeR hx hy hu h1 (EO.perm h2 h) hg hcl hq
theorem pow8 {b : Nat} (h : b < 8) : IntKind.u8.wrap ((1 * 2 ^ b : Nat) : Int) = ((2 ^ b : Nat) : Int) ∧ 2 ^ b < 256 := by
  match b, h with
  | 0, _ => decide
  | 1, _ => decide
  | 2, _ => decide
  | 3, _ => decide
  | 4, _ => decide
  | 5, _ => decide
  | 6, _ => decide
  | 7, _ => decide
theorem y_shlBit {T T' : Nat} {x y : Operand} {K' : IntKind} {b pw : Nat} (hpw : 2 ^ b = pw) (hb : b < 8) (h : EO X ops cf k is l loc' tmp' L) (hx : sv loc tmp x = some (.int .u8 1) := by rfl) (hy : sv loc tmp y = some (.int K' (b : Int)) := by rfl) (hp : Pt loc tmp d (.int .u8 (pw : Int)) loc' tmp' := by exact pt_)
    (hg : gdv ops loc tmp gd = some true := by rfl) (hd : dOK X.n d = true := by rfl) : EO X ops cf k (i :: is) (⟨d, .binOp .shl T x y T', ty, pos, aft, gd⟩ :: l) loc tmp L := by
  subst hpw
  exact x_shlN (a := 1) (b := b) hx hy (by simp only [IntKind.bits]; omega) (pow8 hb).1 hp h hg hd
end
def gdB (a0 a1 a2 a3 a4 a5 : Nat) : List UInt8 := (leB 4 a0 ++ leB 4 a1 ++ leB 4 a2 ++ leB 2 a3 ++ leB 2 a4 ++ leB 2 a5 ++ List.replicate 14 0) ++ List.replicate 4064 0
def sblkB (ic nb fb fi pi inc : Nat) : List UInt8 := List.replicate 1024 0 ++ sbB ic nb fb fi pi inc ++ List.replicate 2048 0
theorem lay_mid {A M C bs : List UInt8} (p : Nat) (hp : p = A.length) (h : M.length = bs.length) : lay (A ++ M ++ C) p bs = A ++ bs ++ C := by
  subst hp
  rw [lay_in (by simp; omega)]
  rw [List.append_assoc A M C, List.take_left, List.drop_append, List.drop_of_length_le (by omega), List.nil_append, show A.length + bs.length - A.length = bs.length by omega, ← h, List.drop_left]
theorem block_w (s : Ws) (it : Nat) (h : s.body.length = (it - 2) * 4096) (h2 : 2 ≤ it) (h3 : it ≤ 30000) : Qn Tryz.prog 52 #[ptrV s.wg] [WP s] (.int .u32 (it : Int)) := by
  refine y_fn2 WP.op fun A c _ => ?_
  have hb := block_fn s.wg (ptrV s.dg) (.slice A s.ids.length c) (.string s.cname) (optV s.cur) (.int .i64 (s.dw : Int)) (.int .i64 (s.dm : Int)) .nilIface (.bool true) (.bool s.inl) (.int .i64 ((17179869184 : Nat) : Int)) (.int .u32 1) (8192 + s.body.length) (by omega)
  rw [show (8192 + s.body.length) / 4096 = it by omega] at hb
  intro w S hS
  have hS0 := hS
  obtain ⟨S1, S2, a1, a2, a3, a4⟩ := hS
  refine (hb w S1 (sats_one a1)).mono fun v w' h' => ?_
  obtain ⟨L'', hv, hst⟩ := h'
  have e := hst.same rfl
  have h9 := (St.start (q := true) hS0).nrm
  rw [← e] at h9
  exact ⟨_, hv, h9.of_nrm⟩
theorem run_bldF {P : Program} {T : Nat} {pl : List (Nat × Nat)} {z cs : List Value} {fs : Array Field} {parts : Array (Nat × Value)} [hb : BldTy P T pl z] (hu : P.underlying T = some (.struct fs)) (h : Instr.fill (fun i => pl.toArray[i]?) z.toArray parts.toList = some cs.toArray) (w : World) : (Instr.build T parts).run P w = .ok (.agg cs.toArray) w := by
  have hz := hb.hz
  have hp := hb.hp
  refine run_build w T parts _ ?_
  cases hi : P.info? T with
  | none => rw [hi] at hz; cases hz
  | some it =>
    cases hzz : it.zero with
    | none => rw [hi] at hz; simp [hzz] at hz
    | some zv =>
      rw [hi] at hz
      simp only [Option.bind_some, hzz, Option.map_some, Option.some.injEq] at hz
      have hzc : zv.cells = z.toArray := by apply Array.ext'; simpa using hz
      have hpl := placesOf_struct hu hp
      simp only [Program.built, hi, hu, hzz, hpl, hzc]
      exact h
section
variable {X : Fx} {ops : Array Oper} {cf : Nat → Cls} {k : List Item} {i : Nat} {is : List Nat} {l : List Oper} {loc loc' : List Value} {tmp tmp' : List (Nat × Value)} {L L' F M N : List HP}
  {d : Option Tmp} {ty : TypeId} {pos : String} {aft : Array Edge} {gd : Option (Nat × Bool)}
theorem x_bldF {T : Nat} {pl : List (Nat × Nat)} {z : List Value} {ps : List (Nat × Operand)} {vs : List Value} {fs : Array Field} [BldTy X.P T pl z] (cs : List Value) (hu : X.P.underlying T = some (.struct fs)) (hv : svs loc tmp (ps.map (·.2)) = some vs) (hf : Instr.fill (fun i => pl.toArray[i]?) z.toArray ((ps.map (·.1)).zip vs) = some cs.toArray)
    (hp : Pt loc tmp d (.agg cs.toArray) loc' tmp') (h : EO X ops cf k is l loc' tmp' L)
    (hg : gdv ops loc tmp gd = some true := by rfl) (hd : dOK X.n d = true := by rfl) : EO X ops cf k (i :: is) (⟨d, .build T ps.toArray, ty, pos, aft, gd⟩ :: l) loc tmp L :=
  x_pure hg (fun a hrl w => by
    have hps : (ps.toArray.map fun (i, x) => (i, a.eval x)).toList = (ps.map (·.1)).zip vs := by
      rw [← hrl.evs hv]
      simp only [List.map_toArray]
      clear hf hv
      induction ps with
      | nil => rfl
      | cons p ps ih => simp only [List.map_cons, List.zip_cons_cons]; rw [ih]
    have := run_bldF (P := X.P) (T := T) (parts := ps.toArray.map fun (i, x) => (i, a.eval x)) hu (hps ▸ hf) w
    simp only [execOp, Sem.run_bind, this, Result.andThen_ok, Sem.run_pure]) hp hd h
end
theorem ovw_all {cs us : List Value} (h : cs.length = us.length) : ovw cs 0 us = us := by
  unfold ovw
  rw [List.take_zero, List.nil_append, Nat.zero_add, ← h, List.drop_length, List.append_nil]
theorem sbB_len (ic nb fb fi pi inc : Nat) : (sbB ic nb fb fi pi inc).length = 1024 := by kernel_rfl
theorem usSB : ∃ fs, (Tryz.prog).underlying 171 = some (.struct fs) := by
  have h : ((Tryz.prog).underlying 171).isSome && (match (Tryz.prog).underlying 171 with | some (.struct _) => true | _ => false) = true := by kernel_rfl
  split at h
  · exact ⟨_, by assumption⟩
  · simp at h
theorem closeT (wg dg it pi bo nu : Nat) (il : Bool) (A : Option Addr) (c idn dw dm : Nat) (cn : ByteArray) (cu : Value) (BB : List UInt8) (v4 v17 v22 v23 v24 v25 v27 v28 v29 v30 v31 v32 v33 v34 v36 : Value) (R : Value → List HP → Prop) (hp4 : pi ≤ 6000) (hbo : bo ≤ 25000) (hnu : nu ≤ pi) (hBB : BB.length = (bo + 2) * 4096)
    (hR : R .nilIface [DiskP dg ((bo + 2) * 4096) (sblkB pi (bo + 2) 0 (pi - nu) pi (if il then 33346 else 578) ++ BB.drop 4096)]) :
    E ⟨Tryz.prog, 34, Tryz.f34, R, 385, false, Tryz.func34, none⟩ [.code (fromC 86 (Tryz.f34.body.getD .skip))] [ptrV wg, undef, .nilIface, .nilIface, v4, .nilIface, .nilIface, .int .u32 (it : Int), .int .u32 (1 : Nat), .int .u32 (pi : Int), .nilIface, .int .u32 (bo : Int), .int .u32 (2 : Nat), .int .u32 (bo + 2 : Nat), .int .u32 (bo + 2 : Nat), .int .u32 (1 : Nat), .int .u32 (1 : Nat), v17, .int .u32 (pi / 16 : Nat), .int .u32 (32768 : Nat), .int .u32 (nu : Nat), .int .u32 (1 : Nat), v22, v23, v24, v25, undef, v27, v28, v29, v30, v31, v32, v33, v34, undef, v36, undef, undef, undef, undef] []
      [Cells wg 112 [ptrV dg, .slice A idn c, .string cn, cu, .int .i64 (4096 : Nat), .int .i64 (dw : Int), .int .i64 (dm : Int), .nilIface, .bool true, .bool il, .int .i64 ((17179869184 : Nat) : Int), .int .u32 1], DiskP dg 8192 BB] := by
  refine e_seq ?_
  refine walk ?_
  refine y_alloc fun g37 => ?_
  refine walkO ?_
  refine x_end ?_
  refine e_seq ?_
  refine e_region ?_
  refine x_move rfl pt_ ?_
  refine x_move rfl pt_ ?_
  refine x_bin rfl rfl (bMulN (wu32 (by omega) (by omega))) pt_ ?_
  refine x_move rfl pt_ ?_
  refine x_move rfl pt_ ?_
  refine x_bin rfl rfl (bMulN (wu32 (by omega) (by omega))) pt_ ?_
  refine x_move rfl pt_ ?_
  refine x_bin rfl rfl (bSubN (by omega) (wu32 (by omega) (by omega))) pt_ ?_
  refine x_move rfl pt_ ?_
  refine x_move rfl pt_ ?_
  refine x_bin rfl rfl (bMulN (wu32 (by omega) (by omega))) pt_ ?_
  refine x_move rfl pt_ ?_
  refine x_bin rfl rfl (bSubN (by omega) (wu32 (by omega) (by omega))) pt_ ?_
  refine x_move rfl pt_ ?_
  rw [show pi * 1 = pi by omega, show 32768 * 1 - 32768 = 0 from rfl]
  obtain ⟨fs, hfs⟩ := usSB
  refine x_bldF (sbC pi (bo + 2) 0 (pi - nu) pi 578) hfs rfl (by kernel_rfl) pt_ ?_
  refine y_alloc (hz := zeroSB) fun g38 => ?_
  refine x_storeAR (us := sbC pi (bo + 2) 0 (pi - nu) pi 578) rfl rfl rfl rfl (PutR.cells (by exact Nat.le_refl _)) ?_
  rw [ovw_all (us := sbC pi (bo + 2) 0 (pi - nu) pi 578)]
  rotate_left
  · rfl
  refine x_end ?_
  refine e_seq ?_
  refine e_seq ?_
  refine e_region ?_
  refine walkO ?_
  refine x_end ?_
  obtain ⟨inc, hinc⟩ : ∃ inc, inc = if il = true then 33346 else 578 := ⟨_, rfl⟩
  have hinc2 : inc < 4294967296 := by rw [hinc]; split <;> omega
  rw [← hinc] at hR
  refine e_cont (ι := Unit) (fun _ => [ptrV wg, undef, .nilIface, .nilIface, v4, .nilIface, .nilIface, .int .u32 (it : Int), .int .u32 (1 : Nat), .int .u32 (pi : Int), .nilIface, .int .u32 (bo : Int), .int .u32 (2 : Nat), .int .u32 (bo + 2 : Nat), .int .u32 (bo + 2 : Nat), .int .u32 (1 : Nat), .int .u32 (1 : Nat), v17, .int .u32 (pi / 16 : Nat), .int .u32 (32768 : Nat), .int .u32 (nu : Nat), .int .u32 (1 : Nat), v22, v23, v24, v25, undef, v27, v28, v29, v30, v31, v32, v33, v34, undef, v36, ptrV g37, ptrV g38, undef, undef]) (fun _ => []) (fun _ => [Cells g38 171 (sbC pi (bo + 2) 0 (pi - nu) pi inc), Cells g37 133 (List.replicate 4096 (.int .u8 0)), Cells wg 112 [ptrV dg, .slice A idn c, .string cn, cu, .int .i64 (4096 : Nat), .int .i64 (dw : Int), .int .i64 (dm : Int), .nilIface, .bool true, .bool il, .int .i64 ((17179869184 : Nat) : Int), .int .u32 1], DiskP dg 8192 BB]) (fun _ => True) (fun rest => ?_) ?_
  · have r := rest () trivial
    clear rest
    cases il with
    | true =>
      rw [if_pos rfl] at hinc
      subst hinc
      refine e_true rfl ?_
      refine e_region ?_
      refine walkO ?_
      refine x_end ?_
      rw [show 578 ||| 32768 = 33346 from rfl]
      exact r.toP rfl (by repeat constructor) sub_
    | false =>
      rw [if_neg (by decide)] at hinc
      subst hinc
      refine e_false rfl ?_
      refine e_skip ?_
      exact r.toP rfl (by repeat constructor) sub_
  · rintro _ _
    refine e_seq ?_
    refine e_draw ?_
    refine walkO ?_
    have hsl : (sbB pi (bo + 2) 0 (pi - nu) pi inc).length = 1024 := sbB_len _ _ _ _ _ _
    refine y_callS rfl rfl (sbBytes_fn pi (bo + 2) 0 (pi - nu) pi inc (by omega) (by omega) (by omega) (by omega) (by omega) hinc2) fun gx cx => ?_
    obtain ⟨sb, hsb⟩ : ∃ sb, sb = sbB pi (bo + 2) 0 (pi - nu) pi inc := ⟨_, rfl⟩
    rw [← hsb] at hsl ⊢
    refine x_copy (g := g37) (o := 1024) (dn := 3072) (dc := 3072) (m := 1024) (news := enc sb) rfl rfl ⟨by rw [enc_len, hsl], .inr ⟨gx, 0, rfl, CellRow.own⟩⟩ (fun u hu => List.all_eq_true.1 (enc_all sb) u hu) (.there (.there (.cells (by rw [List.length_take, enc_len, hsl, List.length_replicate]; omega)))) pt_ ?_
    rw [show ovw (List.replicate 4096 (.int .u8 0)) 1024 ((enc sb).take 3072) = enc (List.replicate 1024 0 ++ sb ++ List.replicate 2048 0) from by
      rw [List.take_of_length_le (by rw [enc_len, hsl]; omega), ← enc_zeros, ovw_enc' rfl, hsl]
      rfl]
    refine x_end ?_
    obtain ⟨blk, hblk⟩ : ∃ blk, blk = List.replicate 1024 0 ++ sb ++ List.replicate 2048 0 := ⟨_, rfl⟩
    have hbl : blk.length = 4096 := by rw [hblk]; simp [hsl]
    rw [show sblkB pi (bo + 2) 0 (pi - nu) pi inc = blk from by rw [hblk, hsb]; rfl] at hR
    rw [← hblk]
    refine walk ?_
    refine y_callD rfl rfl (seekBlock_fn wg dg 8192 0 BB (.slice A idn c) (.string cn) cu (.int .i64 (4096 : Nat)) (.int .i64 (dw : Int)) (.int .i64 (dm : Int)) (.bool true) (.bool il) (.int .i64 ((17179869184 : Nat) : Int)) (.int .u32 1) (by omega)) ?_
    refine walk ?_
    refine y_callD rfl rfl (write_fn wg dg (0 * 4096) BB blk (some ⟨g37, 0, none⟩) 4096 4096 17179869184 (Cells g37 133 (enc blk)) (.slice A idn c) (.string cn) cu (.int .i64 (dw : Int)) (.int .i64 (dm : Int)) (.bool true) (.bool il) (.int .u32 1) ⟨by rw [enc_len, hbl], .inr ⟨g37, 0, rfl, CellRow.here⟩⟩ hbl (by omega) (by omega) (by omega)) ?_
    rw [show lay BB (0 * 4096) blk = blk ++ BB.drop 4096 from by
      have h1 : BB = [] ++ BB.take 4096 ++ BB.drop 4096 := by simp
      have h2 := lay_mid (A := []) (M := BB.take 4096) (C := BB.drop 4096) (bs := blk) (0 * 4096) rfl (by rw [List.length_take, hbl]; omega)
      rw [← h1] at h2
      simpa using h2]
    refine walk ?_
    refine y_callD rfl rfl (seekBlock_fn wg dg (0 * 4096 + 4096) (bo + 2) (blk ++ BB.drop 4096) (.slice A idn c) (.string cn) cu (.int .i64 (0 * 4096 + 4096 : Nat)) (.int .i64 (dw : Int)) (.int .i64 (dm : Int)) (.bool true) (.bool il) (.int .i64 ((17179869184 : Nat) : Int)) (.int .u32 1) (by omega)) ?_
    refine walk ?_
    exact y_ret [2] rfl hR
end Go.Proofs.YtcdalfhkhifplaaGreatDoor
namespace Go.Proofs.YtcdalfhkhifplaaGreatDoor
open Go
set_option maxRecDepth 100000
set_option maxHeartbeats 1000000
attribute [local irreducible] E EO
theorem closeG (wg dg it pi bo nu nd gg : Nat) (il : Bool) (A : Option Addr) (c idn dw dm : Nat) (cn : ByteArray) (cu : Value) (body : List UInt8) (zg : List Value) (v4 v22 v23 v24 v25 v27 v28 v29 v30 v31 v32 v33 v34 : Value) (R : Value → List HP → Prop) (hp4 : pi ≤ 6000) (hbo : bo ≤ 25000) (hbo2 : 2 ≤ bo) (hit : it ≤ 25000) (hnu : nu ≤ pi) (hnd : nd ≤ pi) (hb5 : body.length = (bo - 2) * 4096 + 8192)
    (hzg : zg = (madeCells ([.int .u32 0, .int .u32 0, .int .u32 0, .int .u16 0, .int .u16 0, .int .u16 0, .int .u16 0, .int .u32 0, .int .u16 0, .int .u16 0, .int .u16 0, .int .u16 0] : List Value).toArray (128 * 12)).toList)
    (hR : R .nilIface [DiskP dg ((bo + 2) * 4096) (sblkB pi (bo + 2) 0 (pi - nu) pi (if il then 33346 else 578) ++ gdB bo (bo + 1) it 0 (pi - nu) nd ++ body)]) :
    E ⟨Tryz.prog, 34, Tryz.f34, R, 385, false, Tryz.func34, none⟩ [.code (fromC 81 (Tryz.f34.body.getD .skip))] [ptrV wg, undef, .nilIface, .nilIface, v4, .nilIface, .nilIface, .int .u32 (it : Int), .int .u32 (1 : Nat), .int .u32 (pi : Int), .nilIface, .int .u32 (bo : Int), .int .u32 (2 : Nat), .int .u32 (bo + 2 : Nat), .int .u32 (bo + 2 : Nat), .int .u32 (1 : Nat), .int .u32 (1 : Nat), .slice (some ⟨gg, 0, none⟩) 128 128, .int .u32 (pi / 16 : Nat), .int .u32 (32768 : Nat), .int .u32 (nu : Nat), .int .u32 (1 : Nat), v22, v23, v24, v25, undef, v27, v28, v29, v30, v31, v32, v33, v34, undef, undef, undef, undef, undef, undef] []
      [Cells wg 112 [ptrV dg, .slice A idn c, .string cn, cu, .int .i64 (4096 : Nat), .int .i64 (dw : Int), .int .i64 (dm : Int), .nilIface, .bool true, .bool il, .int .i64 ((17179869184 : Nat) : Int), .int .u32 1], DiskP dg 4096 (List.replicate 8192 0 ++ body), Own (some ⟨gg, 0, none⟩) 128 154 12 128 (ovw zg 0 [.int .u32 (bo : Nat), .int .u32 (bo + 1 : Nat), .int .u32 (it : Nat), .int .u16 (0 : Nat), .int .u16 (pi - nu : Nat), .int .u16 (nd : Nat), .int .u16 0, .int .u32 0, .int .u16 0, .int .u16 0, .int .u16 0, .int .u16 0])] := by
  obtain ⟨gv, hgv⟩ : ∃ gv, gv = ovw zg 0 [.int .u32 (bo : Nat), .int .u32 (bo + 1 : Nat), .int .u32 (it : Nat), .int .u16 (0 : Nat), .int .u16 (pi - nu : Nat), .int .u16 (nd : Nat), .int .u16 0, .int .u32 0, .int .u16 0, .int .u16 0, .int .u16 0, .int .u16 0] := ⟨_, rfl⟩
  rw [← hgv]
  obtain ⟨g0, hg0⟩ : ∃ g0, g0 = leB 4 bo ++ leB 4 (bo + 1) ++ leB 4 it ++ leB 2 0 ++ leB 2 (pi - nu) ++ leB 2 nd ++ List.replicate 14 0 := ⟨_, rfl⟩
  have hg0l : g0.length = 32 := by rw [hg0]; simp [leB_len]
  obtain ⟨Bq, hBq⟩ : ∃ Bq : Nat → List UInt8, Bq = fun i => if i = 0 then List.replicate 8192 0 ++ body else List.replicate 4096 0 ++ (g0 ++ List.replicate 4064 0) ++ body := ⟨_, rfl⟩
  have hBl : ∀ i, (Bq i).length = 8192 + body.length := fun i => by
    rw [hBq]; show (if i = 0 then _ else _ : List UInt8).length = _
    split
    · simp only [List.length_append, List.length_replicate]
    · simp only [List.length_append, List.length_replicate, hg0l]
  rw [show (List.replicate 8192 0 ++ body : List UInt8) = Bq 0 from by rw [hBq]; rfl, show DiskP dg 4096 (Bq 0) = DiskP dg (4096 + 32 * 0) (Bq 0) from rfl]
  have hgv0 : (gv.drop (0 * 12)).take 12 = [.int .u32 (bo : Nat), .int .u32 (bo + 1 : Nat), .int .u32 (it : Nat), .int .u16 (0 : Nat), .int .u16 (pi - nu : Nat), .int .u16 (nd : Nat), .int .u16 0, .int .u32 0, .int .u16 0, .int .u16 0, .int .u16 0, .int .u16 0] := by
    rw [hgv]; unfold ovw; simp
  have hgvi : ∀ i, 0 < i → i < 128 → (gv.drop (i * 12)).take 12 = [.int .u32 0, .int .u32 0, .int .u32 0, .int .u16 0, .int .u16 0, .int .u16 0, .int .u16 0, .int .u32 0, .int .u16 0, .int .u16 0, .int .u16 0, .int .u16 0] := fun i h0 hi => by
    have hm := made_get [.int .u32 0, .int .u32 0, .int .u32 0, .int .u16 0, .int .u16 0, .int .u16 0, .int .u16 0, .int .u32 0, .int .u16 0, .int .u16 0, .int .u16 0, .int .u16 0] 128 i hi
    rw [hgv]
    unfold ovw
    rw [List.take_zero, List.nil_append, List.drop_append, List.drop_of_length_le (by simp; omega), List.nil_append, List.drop_drop]
    rw [hzg]
    rw [show 0 + ([.int .u32 (bo : Nat), .int .u32 (bo + 1 : Nat), .int .u32 (it : Nat), .int .u16 (0 : Nat), .int .u16 (pi - nu : Nat), .int .u16 (nd : Nat), .int .u16 0, .int .u32 0, .int .u16 0, .int .u16 0, .int .u16 0, .int .u16 0] : List Value).length + (i * 12 - ([.int .u32 (bo : Nat), .int .u32 (bo + 1 : Nat), .int .u32 (it : Nat), .int .u16 (0 : Nat), .int .u16 (pi - nu : Nat), .int .u16 (nd : Nat), .int .u16 0, .int .u32 0, .int .u16 0, .int .u16 0, .int .u16 0, .int .u16 0] : List Value).length) = i * 12 from by simp; omega]
    exact hm
  have hl0 : lay (Bq 0) (4096 + 32 * 0) g0 = Bq (0 + 1) := by
    rw [hBq]
    have h1 : (List.replicate 8192 0 ++ body : List UInt8) = List.replicate 4096 0 ++ List.replicate 32 0 ++ (List.replicate 4064 0 ++ body) := by
      rw [← List.append_assoc, List.replicate_append_replicate, List.replicate_append_replicate]
    show lay (List.replicate 8192 0 ++ body) _ g0 = List.replicate 4096 0 ++ (g0 ++ List.replicate 4064 0) ++ body
    rw [h1, lay_mid _ (by simp only [List.length_replicate, Nat.mul_zero]) (by simp only [List.length_replicate, hg0l])]
    simp only [List.append_assoc]
  have hli : ∀ i, 0 < i → i < 128 → lay (Bq i) (4096 + 32 * i) (List.replicate 32 0) = Bq (i + 1) := fun i h0 hi => by
    rw [hBq]
    show lay (if i = 0 then _ else _) _ _ = if i + 1 = 0 then _ else _
    rw [if_neg (by omega), if_neg (by omega)]
    obtain ⟨a, ha⟩ : ∃ a, a = 32 * i - 32 := ⟨_, rfl⟩
    obtain ⟨b, hb⟩ : ∃ b, b = 4064 - 32 * i := ⟨_, rfl⟩
    have h1 : (List.replicate 4096 0 ++ (g0 ++ List.replicate 4064 0) ++ body : List UInt8) = (List.replicate 4096 0 ++ g0 ++ List.replicate a 0) ++ List.replicate 32 0 ++ (List.replicate b 0 ++ body) := by
      rw [show 4064 = a + (32 + b) from by omega, ← List.replicate_append_replicate, ← List.replicate_append_replicate]
      simp only [List.append_assoc]
    rw [h1, lay_mid _ (by simp only [List.length_append, List.length_replicate, hg0l]; omega) (by simp only [List.length_replicate])]
  have hgd := gd_fn bo (bo + 1) it 0 (pi - nu) nd (by omega) (by omega) (by omega) (by omega) (by omega) (by omega)
  rw [← hg0] at hgd
  have hgz := gd_fn 0 0 0 0 0 0 (by omega) (by omega) (by omega) (by omega) (by omega) (by omega)
  rw [show leB 4 0 ++ leB 4 0 ++ leB 4 0 ++ leB 2 0 ++ leB 2 0 ++ leB 2 0 ++ List.replicate 14 0 = List.replicate 32 0 from rfl] at hgz
  rw [show sblkB pi (bo + 2) 0 (pi - nu) pi (if il then 33346 else 578) ++ gdB bo (bo + 1) it 0 (pi - nu) nd ++ body = sblkB pi (bo + 2) 0 (pi - nu) pi (if il then 33346 else 578) ++ (Bq 128).drop 4096 from by
    rw [hBq]
    show _ = _ ++ (List.replicate 4096 0 ++ (g0 ++ List.replicate 4064 0) ++ body).drop 4096
    rw [List.append_assoc (List.replicate 4096 0), List.drop_append, List.drop_of_length_le (by rw [List.length_replicate]; exact Nat.le_refl _), List.nil_append, List.length_replicate, Nat.sub_self, List.drop_zero, hg0]
    unfold gdB
    simp only [List.append_assoc]] at hR
  refine e_seq ?_
  refine walk ?_
  refine e_roundsT (ι := Nat × Value) (fun q => 128 - q.1) (fun q => [ptrV wg, undef, .nilIface, .nilIface, v4, .nilIface, .nilIface, .int .u32 (it : Int), .int .u32 (1 : Nat), .int .u32 (pi : Int), .nilIface, .int .u32 (bo : Int), .int .u32 (2 : Nat), .int .u32 (bo + 2 : Nat), .int .u32 (bo + 2 : Nat), .int .u32 (1 : Nat), .int .u32 (1 : Nat), .slice (some ⟨gg, 0, none⟩) 128 128, .int .u32 (pi / 16 : Nat), .int .u32 (32768 : Nat), .int .u32 (nu : Nat), .int .u32 (1 : Nat), v22, v23, v24, v25, undef, v27, v28, v29, v30, v31, v32, v33, v34, undef, q.2, undef, undef, undef, undef]) (fun q => [(328, .int .i64 (q.1 : Nat)), (327, .int .i64 (128 : Nat)), (326, .slice (some ⟨gg, 0, none⟩) 128 128)])
    (fun q => [Cells wg 112 [ptrV dg, .slice A idn c, .string cn, cu, .int .i64 (4096 : Nat), .int .i64 (dw : Int), .int .i64 (dm : Int), .nilIface, .bool true, .bool il, .int .i64 ((17179869184 : Nat) : Int), .int .u32 1], DiskP dg (4096 + 32 * q.1) (Bq q.1), Own (some ⟨gg, 0, none⟩) 128 154 12 128 gv]) (fun q => q.1 ≤ 128) (0, undef) (Nat.zero_le _) rfl (by repeat constructor) sub_ ?_
  rintro ⟨i, w36⟩ hi again
  dsimp only at hi again ⊢
  by_cases hlt : i < 128
  · have ag := fun v => again (i + 1, v) (by dsimp only; omega) (by dsimp only; omega)
    dsimp only at ag
    by_cases h0 : i = 0
    · subst h0
      refine walk ?_
      refine y_loadS (vs := gv) (us := [.int .u32 (bo : Nat), .int .u32 (bo + 1 : Nat), .int .u32 (it : Nat), .int .u16 (0 : Nat), .int .u16 (pi - nu : Nat), .int .u16 (nd : Nat), .int .u16 0, .int .u32 0, .int .u16 0, .int .u16 0, .int .u16 0, .int .u16 0]) (0 * 12) hgv0 ?_
      refine walk ?_
      refine y_alloc fun g36 => ?_
      refine walk ?_
      refine y_callS rfl rfl hgd fun gx cx => ?_
      refine y_callD rfl rfl (put_fn' dg (4096 + 32 * 0) (Bq 0) g0 (some ⟨gx, 0, none⟩) 32 cx (Own (some ⟨gx, 0, none⟩) cx 5 1 32 (enc g0)) ⟨by rw [enc_len, hg0l], .inr ⟨gx, 0, rfl, CellRow.own⟩⟩ hg0l (by omega) (by omega)) ?_
      rw [hl0]
      refine walk ?_
      exact (ag _).toP (ks := [328, 327, 326]) rfl (by repeat constructor) sub_
    · refine walk ?_
      refine y_loadS (vs := gv) (us := [.int .u32 0, .int .u32 0, .int .u32 0, .int .u16 0, .int .u16 0, .int .u16 0, .int .u16 0, .int .u32 0, .int .u16 0, .int .u16 0, .int .u16 0, .int .u16 0]) (i * 12) (hgvi i (by omega) hlt) ?_
      refine walk ?_
      refine y_alloc fun g36 => ?_
      refine walk ?_
      refine y_callS rfl rfl hgz fun gx cx => ?_
      refine y_callD rfl rfl (put_fn' dg (4096 + 32 * i) (Bq i) (List.replicate 32 0) (some ⟨gx, 0, none⟩) 32 cx (Own (some ⟨gx, 0, none⟩) cx 5 1 32 (enc (List.replicate 32 0))) ⟨by rw [enc_len, List.length_replicate], .inr ⟨gx, 0, rfl, CellRow.own⟩⟩ List.length_replicate (by omega) (by omega)) ?_
      rw [hli i (by omega) hlt, show 4096 + 32 * i + 32 = 4096 + 32 * (i + 1) by omega]
      refine walk ?_
      exact (ag _).toP (ks := [328, 327, 326]) rfl (by repeat constructor) sub_
  have hi2 : i = 128 := by omega
  subst hi2
  clear again
  refine e_seq ?_
  refine (is_reg ?_)
  refine e_regionK ?_ (by first | ((repeat (first | exact KeepR.nil | apply KeepR.yes rfl | apply KeepR.no rfl)) <;> fail) | fail)
  refine walkO ?_
  refine x_end ?_
  refine e_seq ?_
  refine e_false rfl ?_
  refine e_exit rfl ?_
  exact (closeT wg dg it pi bo nu il A c idn dw dm cn cu (Bq 128) v4 _ v22 v23 v24 v25 v27 v28 v29 v30 v31 v32 v33 v34 w36 R hp4 hbo hnu (by rw [hBl, hb5]; omega) hR).toP (ks := []) rfl (by repeat constructor) (by exact .cons .here (.cons .here .nil))
end Go.Proofs.YtcdalfhkhifplaaGreatDoor
namespace Go.Proofs.YtcdalfhkhifplaaGreatDoor
open Go
set_option maxRecDepth 100000
set_option maxHeartbeats 4000000
attribute [local irreducible] E EO
def inB (ids : List (Option Nat)) (j : Nat) : Bool := decide (1 + j < 11) || (getI ids (1 + j)).isSome
def drB (mf : Nat → Nat) (ids : List (Option Nat)) (j : Nat) : Bool := match getI ids (1 + j) with
  | some g => decide (mf g &&& 61440 = 16384)
  | none => false
def fbB (ids : List (Option Nat)) (n m i : Nat) : Bool := if i < 32768 then decide (i < n) else decide (i - 32768 < m) && inB ids (i - 32768)
theorem fbB_blk (ids : List (Option Nat)) {n : Nat} (h : n < 32768) : ∀ i, (fbB ids n 0 i || decide (i = n)) = fbB ids (n + 1) 0 i := fun i => by
  unfold fbB
  by_cases hi : i < 32768
  · rw [if_pos hi, if_pos hi, ← Bool.decide_or]
    exact decide_eq_decide.2 (by omega)
  · rw [if_neg hi, if_neg hi, decide_eq_false (by omega : ¬ i = n)]
    simp
theorem fbB_ino1 (ids : List (Option Nat)) {m : Nat} (h : inB ids m = true) : ∀ i, (fbB ids 32768 m i || decide (i = 32768 + m)) = fbB ids 32768 (m + 1) i := fun i => by
  unfold fbB
  by_cases hi : i < 32768
  · rw [if_pos hi, if_pos hi]; simp [hi]
  · rw [if_neg hi, if_neg hi]
    by_cases h1 : i = 32768 + m
    · subst h1; simp [h]
    · rw [decide_eq_false h1, Bool.or_false, show decide (i - 32768 < m) = decide (i - 32768 < m + 1) from decide_eq_decide.2 (by omega)]
theorem fbB_ino0 (ids : List (Option Nat)) {m : Nat} (h : inB ids m = false) : ∀ i, fbB ids 32768 m i = fbB ids 32768 (m + 1) i := fun i => by
  unfold fbB
  by_cases hi : i < 32768
  · rw [if_pos hi, if_pos hi]
  · rw [if_neg hi, if_neg hi]
    by_cases h1 : i = 32768 + m
    · subst h1
      rw [show 32768 + m - 32768 = m by omega, h]; simp
    · rw [show decide (i - 32768 < m) = decide (i - 32768 < m + 1) from decide_eq_decide.2 (by omega)]
theorem inB_over (ids : List (Option Nat)) {i : Nat} (h1 : ids.length ≤ i) (h2 : 10 ≤ i) : inB ids i = false := by
  unfold inB getI
  rw [decide_eq_false (by omega), if_neg (by omega), List.getElem?_eq_none (by omega)]
  rfl
theorem bm_split (f : Nat → Bool) (a b : Nat) : bm f (a + b) = bm f a ++ bm (fun i => f (8 * a + i)) b := by
  unfold bm
  rw [List.range_add, List.map_append, List.map_map]
  congr 1
  apply List.map_congr_left
  intro k _
  simp only [Function.comp, byteOf]
  rw [show 8 * (a + k) = 8 * a + 8 * k by omega]
  simp only [Nat.add_assoc]
theorem fbB_end (ids : List (Option Nat)) (pi : Nat) (h1 : ids.length ≤ pi) (h2 : 10 ≤ pi) : bm (fbB ids 32768 pi) 8192 = bm (fun _ => true) 4096 ++ bm (inB ids) 4096 := by
  have h := bm_split (fbB ids 32768 pi) 4096 4096
  have e1 : bm (fbB ids 32768 pi) 4096 = bm (fun _ => true) 4096 := bm_congr fun i hi => by
    unfold fbB
    rw [if_pos (by omega)]
    exact decide_eq_true (by omega)
  have e2 : bm (fun i => fbB ids 32768 pi (8 * 4096 + i)) 4096 = bm (inB ids) 4096 := bm_congr fun i hi => by
    unfold fbB
    rw [if_neg (by omega), show 8 * 4096 + i - 32768 = i by omega]
    by_cases hp : i < pi
    · rw [decide_eq_true hp, Bool.true_and]
    · rw [inB_over ids (by omega) (by omega), Bool.and_false]
  exact h.trans (by rw [e1, e2])
theorem Close_fn (a0 b2 : WS) (s1 s3 : Ws) (l1 l3 l4 : List Nd) (root : Nd) (tb : List UInt8) (mf : Nat → Nat) (n k it pi : Nat) (hw0 : a0.1.wg = s1.wg) (hw2 : b2.1.wg = s1.wg) (hw3 : s3.wg = s1.wg)
    (h1 : Fd Tryz.prog 43 #[ptrV s1.wg] [WP a0.1, NodesP a0.2] .nilIface [WP s1, NodesP l1]) (hi1 : s1.ids.length ≤ 100000) (hroot : getI s1.ids 2 = some root.g)
    (h2 : WR s1.wg n (s1, l1) k root.g k root.g b2) (h3 : Fd Tryz.prog 43 #[ptrV s1.wg] [WP b2.1, NodesP b2.2] .nilIface [WP s3, NodesP l3])
    (hal : s3.body.length = (it - 2) * 4096) (hit2 : 2 ≤ it) (hit : it ≤ 20000) (hn0 : 11 ≤ s3.ids.length) (hn1 : s3.ids.length ≤ 5000) (hpi : pi = up16 s3.ids.length) (ht : TWt s3.ids l3 tb l4) (htl : tb.length = s3.ids.length * 256)
    (hm : ∀ j g, getI s3.ids (1 + j) = some g → ∃ (i : Nat) (x : Nd), l4[i]? = some x ∧ x.g = g ∧ x.mode = mf g ∧ x.mode < 65536) :
    Fd Tryz.prog 34 #[ptrV s1.wg] [WP a0.1, NodesP a0.2] .nilIface
      [DiskP s3.dg ((it + pi / 16 + 2) * 4096) (sblkB pi (it + pi / 16 + 2) 0 (pi - cntN (inB s3.ids) pi) pi (if s3.inl then 33346 else 578) ++ gdB (it + pi / 16) (it + pi / 16 + 1) it 0 (pi - cntN (inB s3.ids) pi) (cntN (drB mf s3.ids) pi) ++ (s3.body ++ tb ++ List.replicate (pi * 256 - s3.ids.length * 256) 0 ++ bm (fun _ => true) 4096 ++ bm (inB s3.ids) 4096))] := by
  have hp16 : pi % 16 = 0 ∧ s3.ids.length ≤ pi ∧ pi ≤ 5016 ∧ 16 ≤ pi := by rw [hpi]; unfold up16; omega
  obtain ⟨p1, p2, p3, p4⟩ := hp16
  refine fn_of_E' (args := [_]) 41 _ [_, undef, undef, undef, undef, undef, undef, undef, undef, undef, undef, undef, undef, undef, undef, undef, undef, undef, undef, undef, undef, undef, undef, undef, undef, undef, undef, undef, undef, undef, undef, undef, undef, undef, undef, undef, undef, undef, undef, undef, undef] Tryz.func34 rfl Tryz.ntmps34 ?_
  refine walk ?_
  refine y_callD rfl rfl h1 ?_
  refine walk ?_
  refine y_callq rfl rfl (root_fn s1 (by omega)) ?_
  rw [hroot]
  refine walk ?_
  refine y_callD rfl rfl (wrec_fn s1.wg n (s1, l1) b2 k root.g k root.g h2) ?_
  refine walk ?_
  refine y_callD rfl rfl h3 ?_
  refine walk ?_
  rw [← hw3]
  refine y_callq rfl rfl (block_w s3 it hal hit2 (by omega)) ?_
  refine walk ?_
  refine y_tno2 WP.op fun A c _ => ?_
  refine walk ?_
  refine y_callD rfl rfl (bgc_fn it s3.ids.length (by omega) (by omega) (by omega) (by omega)) ?_
  rw [← hpi]
  refine walkO ?_
  refine x_end ?_
  refine y_tn (WP.cl s3) fun _ _ => ?_
  refine walk ?_
  rw [show 1 * pi * 256 = pi * 256 by omega]
  have hwit := wit_fn s3 l3 l4 (pi * 256) tb ht (by omega) (by omega) (by omega) (by omega) (by intro h; rw [h] at hn0; simp at hn0)
  obtain ⟨s4, hs4⟩ : ∃ s4, s4 = { s3 with body := s3.body ++ tb ++ List.replicate (pi * 256 - s3.ids.length * 256) 0 } := ⟨_, rfl⟩
  rw [← hs4] at hwit
  have hb4 : s4.body.length = (it + pi / 16 - 2) * 4096 := by rw [hs4]; simp [htl]; omega
  have hwg4 : s4.wg = s3.wg := by rw [hs4]
  refine y_callD rfl rfl hwit ?_
  refine walk ?_
  rw [← hwg4]
  refine y_callq rfl rfl (block_w s4 (it + pi / 16) hb4 (by omega) (by omega)) ?_
  refine walk ?_
  obtain ⟨bo, hbo⟩ : ∃ bo, bo = it + pi / 16 := ⟨_, rfl⟩
  rw [← hbo] at hb4 ⊢
  refine y_loadC (v := .int .u32 ((1 : Nat) : Int)) (WP.cell 11 _ fun _ => rfl) ?_
  refine walkO ?_
  refine x_end ?_
  refine e_false rfl ?_
  refine e_skip ?_
  refine E.toP (loc' := [ptrV s4.wg, undef, .nilIface, .nilIface, ptrV root.g, .nilIface, .nilIface, .int .u32 (it : Int), .int .u32 (1 : Nat), .int .u32 (pi : Int), .nilIface, .int .u32 (bo : Int), .int .u32 (2 : Nat), .int .u32 (bo + 2 : Nat), .int .u32 (bo + 2 : Nat), .int .u32 (1 : Nat), .int .u32 (1 : Nat), undef, undef, undef, undef, undef, undef, undef, undef, undef, undef, undef, undef, undef, undef, undef, undef, undef, undef, undef, undef, undef, undef, undef, undef]) (tmp' := []) (ks := []) (L' := [WP s4, NodesP l4]) ?_ rfl (by repeat constructor) sub_
  refine walk ?_
  refine y_loadC (v := .int .u32 ((1 : Nat) : Int)) (WP.cell 11 _ fun _ => rfl) ?_
  refine walk ?_
  refine y_makeM (n := 128) rfl rfl fun gg => ?_
  obtain ⟨zg, hzg⟩ : ∃ zg, zg = (madeCells ([.int .u32 0, .int .u32 0, .int .u32 0, .int .u16 0, .int .u16 0, .int .u16 0, .int .u16 0, .int .u32 0, .int .u16 0, .int .u16 0, .int .u16 0, .int .u16 0] : List Value).toArray (128 * 12)).toList := ⟨_, rfl⟩
  rw [← hzg]
  refine walk ?_
  rw [show pi * 256 / 4096 = pi / 16 by omega]
  refine E.toP (loc' := [ptrV s4.wg, undef, .nilIface, .nilIface, ptrV root.g, .nilIface, .nilIface, .int .u32 (it : Int), .int .u32 (1 : Nat), .int .u32 (pi : Int), .nilIface, .int .u32 (bo : Int), .int .u32 (2 : Nat), .int .u32 (bo + 2 : Nat), .int .u32 (bo + 2 : Nat), .int .u32 (1 : Nat), .int .u32 (1 : Nat), .slice (some ⟨gg, 0, none⟩) 128 128, .int .u32 (pi / 16 : Nat), .int .u32 0, .int .u32 0, .int .u32 0, undef, undef, undef, undef, undef, undef, undef, undef, undef, undef, undef, undef, undef, undef, undef, undef, undef, undef, undef]) (tmp' := []) (ks := []) (L' := [WP s4, NodesP l4, Own (some ⟨gg, 0, none⟩) 128 154 12 128 zg]) ?_ rfl (by repeat constructor) sub_
  refine y_loop ?_
  refine walk ?_
  refine y_alloc fun gb => ?_
  rw [← bm_zero, show bm (fun _ => false) 8192 = bm (fbB s3.ids 0 0) 8192 from bm_congr fun i _ => by unfold fbB; split <;> simp]
  refine walk ?_
  refine e_roundsT (ι := Nat) (fun j => bo + 2 - j) (fun j => [ptrV s4.wg, undef, .nilIface, .nilIface, ptrV root.g, .nilIface, .nilIface, .int .u32 (it : Int), .int .u32 (1 : Nat), .int .u32 (pi : Int), .nilIface, .int .u32 (bo : Int), .int .u32 (2 : Nat), .int .u32 (bo + 2 : Nat), .int .u32 (bo + 2 : Nat), .int .u32 (1 : Nat), .int .u32 (1 : Nat), .slice (some ⟨gg, 0, none⟩) 128 128, .int .u32 (pi / 16 : Nat), .int .u32 0, .int .u32 0, .int .u32 0, ptrV gb, .int .u16 0, .int .u16 0, .int .u16 (j : Nat), undef, .int .u32 (j : Nat), undef, undef, undef, undef, undef, undef, undef, undef, undef, undef, undef, undef, undef]) (fun _ => []) (fun j => [Cells gb 150 (enc (bm (fbB s3.ids j 0) 8192)), WP s4, NodesP l4, Own (some ⟨gg, 0, none⟩) 128 154 12 128 zg]) (fun j => j ≤ bo + 2) 0 (Nat.zero_le _) rfl (by repeat constructor) sub_ ?_
  intro j hj again
  by_cases hlt : j < bo + 2
  · have hj2 : j < 32768 := by omega
    refine walk ?_
    refine y_loadCell (a := j / 8) (bm_cell (fbB s3.ids j 0) (n := 8192) (by omega)) ?_
    refine x_move rfl pt_ ?_
    refine x_bin rfl rfl (bRemN (by omega)) pt_ ?_
    obtain ⟨pw, hpw⟩ : ∃ pw, 2 ^ (j % 8) = pw := ⟨_, rfl⟩
    have hpw2 := (pow8 (show j % 8 < 8 by omega)).2
    rw [hpw] at hpw2
    have hbl := byteOf_lt (fbB s3.ids j 0) (j / 8)
    refine y_shlBit hpw (by omega) ?_
    refine walk ?_
    refine y_storeCell (a := j / 8) (vs := enc (bm (fbB s3.ids j 0) 8192)) (u := .int .u8 ((byteOf (fbB s3.ids j 0) (j / 8) ||| pw : Nat) : Int)) (by rw [enc_len, bm_len]; omega) ?_
    rw [← hpw, bm_set, bm_congr (fun i _ => fbB_blk s3.ids (by omega) i)]
    refine walk ?_
    exact (again (j + 1) (by omega) (by omega)).toP rfl (by repeat constructor) sub_
  have hjb : j = bo + 2 := by omega
  subst hjb
  clear again
  refine walk ?_
  refine y_loop ?_
  refine walk ?_
  refine y_loadC (v := .int .u32 ((1 : Nat) : Int)) (.there (WP.cell 11 _ fun _ => rfl)) ?_
  refine walk ?_
  rw [show (bo + 2) % 32768 = bo + 2 by omega]
  refine e_roundsT (ι := Nat) (fun j => 32768 - j) (fun j => [ptrV s4.wg, undef, .nilIface, .nilIface, ptrV root.g, .nilIface, .nilIface, .int .u32 (it : Int), .int .u32 (1 : Nat), .int .u32 (pi : Int), .nilIface, .int .u32 (bo : Int), .int .u32 (2 : Nat), .int .u32 (bo + 2 : Nat), .int .u32 (bo + 2 : Nat), .int .u32 (1 : Nat), .int .u32 (1 : Nat), .slice (some ⟨gg, 0, none⟩) 128 128, .int .u32 (pi / 16 : Nat), .int .u32 0, .int .u32 0, .int .u32 0, ptrV gb, .int .u16 0, .int .u16 0, .int .u16 (j : Nat), undef, .int .u32 (bo + 2 : Nat), .int .u32 (2 : Nat), .int .u32 (j : Nat), undef, undef, undef, undef, undef, undef, undef, undef, undef, undef, undef]) (fun _ => []) (fun j => [Cells gb 150 (enc (bm (fbB s3.ids j 0) 8192)), WP s4, NodesP l4, Own (some ⟨gg, 0, none⟩) 128 154 12 128 zg]) (fun j => j ≤ 32768) (bo + 2) (by omega) rfl (by repeat constructor) sub_ ?_
  intro j hj again
  by_cases hlt : j < 32768
  · have hj2 : j < 32768 := by omega
    refine walk ?_
    refine y_loadCell (a := j / 8) (bm_cell (fbB s3.ids j 0) (n := 8192) (by omega)) ?_
    refine x_move rfl pt_ ?_
    refine x_bin rfl rfl (bRemN (by omega)) pt_ ?_
    obtain ⟨pw, hpw⟩ : ∃ pw, 2 ^ (j % 8) = pw := ⟨_, rfl⟩
    have hpw2 := (pow8 (show j % 8 < 8 by omega)).2
    rw [hpw] at hpw2
    have hbl := byteOf_lt (fbB s3.ids j 0) (j / 8)
    refine y_shlBit hpw (by omega) ?_
    refine walk ?_
    refine y_storeCell (a := j / 8) (vs := enc (bm (fbB s3.ids j 0) 8192)) (u := .int .u8 ((byteOf (fbB s3.ids j 0) (j / 8) ||| pw : Nat) : Int)) (by rw [enc_len, bm_len]; omega) ?_
    rw [← hpw, bm_set, bm_congr (fun i _ => fbB_blk s3.ids (by omega) i)]
    refine walk ?_
    exact (again (j + 1) (by omega) (by omega)).toP rfl (by repeat constructor) sub_
  have hjb : j = 32768 := by omega
  subst hjb
  clear again
  refine walk ?_
  have hs4i : s4.ids = s3.ids := by rw [hs4]
  refine e_roundsT (ι := Nat × Value × Value) (fun q => pi - q.1) (fun q => [ptrV s4.wg, undef, .nilIface, .nilIface, ptrV root.g, .nilIface, .nilIface, .int .u32 (it : Int), .int .u32 (1 : Nat), .int .u32 (pi : Int), .nilIface, .int .u32 (bo : Int), .int .u32 (2 : Nat), .int .u32 (bo + 2 : Nat), .int .u32 (bo + 2 : Nat), .int .u32 (1 : Nat), .int .u32 (1 : Nat), .slice (some ⟨gg, 0, none⟩) 128 128, .int .u32 (pi / 16 : Nat), .int .u32 0, .int .u32 0, .int .u32 0, ptrV gb, .int .u16 (cntN (drB mf s3.ids) q.1 : Nat), .int .u16 (cntN (inB s3.ids) q.1 : Nat), .int .u16 (32768 : Nat), undef, .int .u32 (bo + 2 : Nat), .int .u32 (2 : Nat), .int .u32 (32768 : Nat), .int .u32 (q.1 : Nat), q.2.1, q.2.2, undef, undef, undef, undef, undef, undef, undef, undef]) (fun _ => []) (fun q => [Cells gb 150 (enc (bm (fbB s3.ids 32768 q.1) 8192)), WP s4, NodesP l4, Own (some ⟨gg, 0, none⟩) 128 154 12 128 zg]) (fun q => q.1 ≤ pi) (0, undef, undef) (Nat.zero_le _) rfl (by repeat constructor) sub_ ?_
  rintro ⟨j, w31, w32⟩ hj again
  dsimp only at hj again ⊢
  by_cases hlt : j < pi
  · have hj2 : j < 32768 := by omega
    have hcu : cntN (inB s3.ids) j ≤ j := cntN_le _ j
    have hcd : cntN (drB mf s3.ids) j ≤ j := cntN_le _ j
    refine walk ?_
    rw [show 1 + 0 * pi + j = 1 + j by omega]
    refine y_callq rfl rfl (getI_fn s4 (1 + j) (by omega) (by rw [hs4i]; omega)) ?_
    rw [hs4i]
    refine walkO ?_
    refine x_end ?_
    obtain ⟨v32, hv32⟩ : ∃ v32, v32 = optV (getI s3.ids (1 + j)) := ⟨_, rfl⟩
    rw [← hv32]
    obtain ⟨pw, hpw⟩ : ∃ pw, 2 ^ (j % 8) = pw := ⟨_, rfl⟩
    refine e_seq ?_
    refine e_cont (ι := Unit) (fun _ => [ptrV s4.wg, undef, .nilIface, .nilIface, ptrV root.g, .nilIface, .nilIface, .int .u32 (it : Int), .int .u32 (1 : Nat), .int .u32 (pi : Int), .nilIface, .int .u32 (bo : Int), .int .u32 (2 : Nat), .int .u32 (bo + 2 : Nat), .int .u32 (bo + 2 : Nat), .int .u32 (1 : Nat), .int .u32 (1 : Nat), .slice (some ⟨gg, 0, none⟩) 128 128, .int .u32 (pi / 16 : Nat), .int .u32 0, .int .u32 0, .int .u32 0, ptrV gb, .int .u16 (cntN (drB mf s3.ids) j : Nat), .int .u16 (cntN (inB s3.ids) (j + 1) : Nat), .int .u16 (32768 : Nat), undef, .int .u32 (bo + 2 : Nat), .int .u32 (2 : Nat), .int .u32 (32768 : Nat), .int .u32 (j : Nat), .int .u32 (1 + j : Nat), v32, undef, undef, undef, undef, undef, undef, undef, undef]) (fun _ => []) (fun _ => [Cells gb 150 (enc (bm (fbB s3.ids 32768 (j + 1)) 8192)), WP s4, NodesP l4, Own (some ⟨gg, 0, none⟩) 128 154 12 128 zg]) (fun _ => True) (fun rest => ?_) ?_
    · have r := rest () trivial
      clear rest
      cases hin : inB s3.ids j with
      | true =>
        rw [show cntN (inB s3.ids) (j + 1) = cntN (inB s3.ids) j + 1 from by simp [cntN, hin, b2n]] at r
        refine e_seq ?_
        refine e_region ?_
        by_cases h11 : 1 + j < 11
        · refine walkO ?_
          refine x_end ?_
          refine e_true rfl ?_
          have hpw2 := (pow8 (show j % 8 < 8 by omega)).2
          rw [hpw] at hpw2
          have hbl := byteOf_lt (fbB s3.ids 32768 j) ((32768 + j) / 8)
          refine e_seq ?_
          refine walk ?_
          refine y_loadCell (a := (32768 + j) / 8) (bm_cell (fbB s3.ids 32768 j) (n := 8192) (by omega)) ?_
          refine x_move rfl pt_ ?_
          refine x_bin rfl rfl (bRemN (by omega)) pt_ ?_
          refine y_shlBit hpw (by omega) ?_
          refine walk ?_
          refine y_storeCell (a := (32768 + j) / 8) (vs := enc (bm (fbB s3.ids 32768 j) 8192)) (u := .int .u8 ((byteOf (fbB s3.ids 32768 j) ((32768 + j) / 8) ||| pw : Nat) : Int)) (by rw [enc_len, bm_len]; omega) ?_
          rw [← hpw, show j % 8 = (32768 + j) % 8 by omega, bm_set, bm_congr (fun i _ => fbB_ino1 s3.ids hin i)]
          refine walkO ?_
          refine x_end ?_
          refine e_region ?_
          refine walkO ?_
          refine x_end ?_
          exact r.toP rfl (by repeat constructor) sub_
        · obtain ⟨gi, hgi⟩ : ∃ gi, getI s3.ids (1 + j) = some gi := by
            unfold inB at hin
            rw [decide_eq_false h11, Bool.false_or] at hin
            exact Option.isSome_iff_exists.1 hin
          rw [show v32 = ptrV gi from by rw [hv32, hgi]; rfl] at r ⊢
          refine walkO ?_
          refine x_end ?_
          refine e_true rfl ?_
          have hpw2 := (pow8 (show j % 8 < 8 by omega)).2
          rw [hpw] at hpw2
          have hbl := byteOf_lt (fbB s3.ids 32768 j) ((32768 + j) / 8)
          refine e_seq ?_
          refine walk ?_
          refine y_loadCell (a := (32768 + j) / 8) (bm_cell (fbB s3.ids 32768 j) (n := 8192) (by omega)) ?_
          refine x_move rfl pt_ ?_
          refine x_bin rfl rfl (bRemN (by omega)) pt_ ?_
          refine y_shlBit hpw (by omega) ?_
          refine walk ?_
          refine y_storeCell (a := (32768 + j) / 8) (vs := enc (bm (fbB s3.ids 32768 j) 8192)) (u := .int .u8 ((byteOf (fbB s3.ids 32768 j) ((32768 + j) / 8) ||| pw : Nat) : Int)) (by rw [enc_len, bm_len]; omega) ?_
          rw [← hpw, show j % 8 = (32768 + j) % 8 by omega, bm_set, bm_congr (fun i _ => fbB_ino1 s3.ids hin i)]
          refine walkO ?_
          refine x_end ?_
          refine e_region ?_
          refine walkO ?_
          refine x_end ?_
          exact r.toP rfl (by repeat constructor) sub_
      | false =>
        rw [show cntN (inB s3.ids) (j + 1) = cntN (inB s3.ids) j from by simp [cntN, hin, b2n], ← bm_congr (fun i _ => fbB_ino0 s3.ids hin i)] at r
        have h11 : ¬ 1 + j < 11 := by
          intro h11
          unfold inB at hin
          rw [decide_eq_true h11] at hin
          cases hin
        have hgi : getI s3.ids (1 + j) = none := by
          unfold inB at hin
          rw [decide_eq_false h11, Bool.false_or] at hin
          exact Option.isSome_eq_false_iff.1 hin |> fun h => by simpa using h
        rw [show v32 = .pointer none from by rw [hv32, hgi]; rfl] at r ⊢
        refine e_seq ?_
        refine e_region ?_
        refine walkO ?_
        refine x_end ?_
        refine e_false rfl ?_
        refine e_skip ?_
        exact r.toP rfl (by repeat constructor) sub_
    · rintro _ _
      have ag := again (j + 1, .int .u32 (1 + j : Nat), v32) (by dsimp only; omega) (by dsimp only; omega)
      dsimp only at ag
      cases hgi : getI s3.ids (1 + j) with
      | none =>
        rw [show cntN (drB mf s3.ids) (j + 1) = cntN (drB mf s3.ids) j from by simp [cntN, drB, hgi, b2n]] at ag
        rw [show v32 = .pointer none from by rw [hv32, hgi]; rfl] at ag ⊢
        refine walk ?_
        exact ag.toP rfl (by repeat constructor) sub_
      | some gi =>
        obtain ⟨jx, x, hx, hxg, hxm, hxl⟩ := hm j gi hgi
        rw [show v32 = ptrV gi from by rw [hv32, hgi]; rfl] at ag ⊢
        rw [← hxg] at ag ⊢
        refine walk ?_
        refine y_loadC (v := .int .u16 (x.mode : Int)) (.there (.there (NodesP.cell hx 6 _ fun _ => rfl))) ?_
        by_cases hd : x.mode &&& 61440 = 16384
        · rw [show cntN (drB mf s3.ids) (j + 1) = cntN (drB mf s3.ids) j + 1 from by simp [cntN, drB, hgi, b2n, ← hxm, hd]] at ag
          refine walk ?_
          exact ag.toP rfl (by repeat constructor) sub_
        · rw [show cntN (drB mf s3.ids) (j + 1) = cntN (drB mf s3.ids) j from by simp [cntN, drB, hgi, b2n, ← hxm, hd]] at ag
          refine walk ?_
          exact ag.toP rfl (by repeat constructor) sub_
  have hjb : j = pi := by omega
  rw [hjb]
  clear again
  have hnu : cntN (inB s3.ids) pi ≤ pi := cntN_le _ pi
  have hnd : cntN (drB mf s3.ids) pi ≤ pi := cntN_le _ pi
  generalize cntN (inB s3.ids) pi = nu at hnu ⊢
  generalize cntN (drB mf s3.ids) pi = nd at hnd ⊢
  obtain ⟨bs, hbs⟩ : ∃ bs, bs = bm (fbB s3.ids 32768 pi) 8192 := ⟨_, rfl⟩
  have hbl : bs.length = 8192 := by rw [hbs, bm_len]
  rw [← hbs]
  obtain ⟨s5, hs5⟩ : ∃ s5, s5 = { s4 with body := s4.body ++ bs } := ⟨_, rfl⟩
  have hww := write_w s4 bs (some ⟨gb, 0, none⟩) 8192 8192 (Cells gb 150 (enc bs)) ⟨by rw [enc_len, hbl], .inr ⟨gb, 0, rfl, CellRow.here⟩⟩ hbl (by omega) (by omega)
  rw [← hs5] at hww
  have hwg5 : s5.wg = s4.wg := by rw [hs5]
  refine walk ?_
  refine y_callD rfl rfl hww ?_
  refine walk ?_
  rw [show it + 0 * (pi / 16) = it by omega, show bo + 2 * 0 = bo from rfl, show 32768 - 32768 = 0 from rfl]
  refine y_storeM (o := 0) (vs := zg) (us := [.int .u32 (bo : Nat), .int .u32 (bo + 1 : Nat), .int .u32 (it : Nat), .int .u16 (0 : Nat), .int .u16 (pi - nu : Nat), .int .u16 (nd : Nat), .int .u16 0, .int .u32 0, .int .u16 0, .int .u16 0, .int .u16 0, .int .u16 0]) (by rw [hzg, made_len]; simp) ?_
  refine walk ?_
  rw [show 0 + 32768 = 32768 from rfl, Nat.zero_add, show 0 + 1 = 1 from rfl]
  refine E.toP (loc' := [ptrV s4.wg, undef, .nilIface, .nilIface, ptrV root.g, .nilIface, .nilIface, .int .u32 (it : Int), .int .u32 (1 : Nat), .int .u32 (pi : Int), .nilIface, .int .u32 (bo : Int), .int .u32 (2 : Nat), .int .u32 (bo + 2 : Nat), .int .u32 (bo + 2 : Nat), .int .u32 (1 : Nat), .int .u32 (1 : Nat), .slice (some ⟨gg, 0, none⟩) 128 128, .int .u32 (pi / 16 : Nat), .int .u32 (32768 : Nat), .int .u32 (nu : Nat), .int .u32 (1 : Nat), ptrV gb, .int .u16 (nd : Nat), .int .u16 (nu : Nat), .int .u16 (32768 : Nat), undef, .int .u32 (bo + 2 : Nat), .int .u32 (2 : Nat), .int .u32 (32768 : Nat), .int .u32 (pi : Nat), w31, w32, .int .i64 (8192 : Nat), .nilIface, undef, undef, undef, undef, undef, undef]) (tmp' := []) (ks := []) (L' := [WP s5, Own (some ⟨gg, 0, none⟩) 128 154 12 128 (ovw zg 0 [.int .u32 (bo : Nat), .int .u32 (bo + 1 : Nat), .int .u32 (it : Nat), .int .u16 (0 : Nat), .int .u16 (pi - nu : Nat), .int .u16 (nd : Nat), .int .u16 0, .int .u32 0, .int .u16 0, .int .u16 0, .int .u16 0, .int .u16 0])]) ?_ rfl (by repeat constructor) sub_
  refine y_again ?_
  refine walk ?_
  rw [← hwg5, show bo + 2 - bo - 2 = 0 by omega, show 0 * 4096 = 0 from rfl]
  have hb5 : s5.body.length = (bo - 2) * 4096 + 8192 := by rw [hs5]; simp [hb4, hbl]
  refine y_callD rfl rfl (zero0_w s5 (by intro h; rw [h] at hb5; simp at hb5) (by omega)) ?_
  refine walk ?_
  refine y_tno2 WP.op fun A c _ => ?_
  refine y_callD rfl rfl (seekBlock_fn s5.wg s5.dg (8192 + s5.body.length) 1 (mkB s5.body) (.slice A s5.ids.length c) (.string s5.cname) (optV s5.cur) (.int .i64 ((8192 + s5.body.length : Nat) : Int)) (.int .i64 (s5.dw : Int)) (.int .i64 (s5.dm : Int)) (.bool true) (.bool s5.inl) (.int .i64 ((17179869184 : Nat) : Int)) (.int .u32 1) (by omega)) ?_
  refine walkO ?_
  refine x_end ?_
  refine e_seq ?_
  refine e_seq ?_
  refine e_region ?_
  refine walkO ?_
  refine x_end ?_
  refine e_false rfl ?_
  refine e_skip ?_
  have hmk : mkB s5.body = List.replicate 8192 0 ++ s5.body := by rw [mkB, if_neg (by intro h; rw [h] at hb5; simp at hb5)]
  rw [hmk]
  have hdg5 : s5.dg = s3.dg := by rw [hs5, hs4]
  have hil5 : s5.inl = s3.inl := by rw [hs5, hs4]
  have hbd5 : s5.body = s3.body ++ tb ++ List.replicate (pi * 256 - s3.ids.length * 256) 0 ++ bm (fun _ => true) 4096 ++ bm (inB s3.ids) 4096 := by
    rw [hs5, hs4, hbs, fbB_end s3.ids pi p2 (by omega)]
    simp only [List.append_assoc]
  exact (closeG s5.wg s5.dg it pi bo nu nd gg s5.inl A c s5.ids.length s5.dw s5.dm s5.cname (optV s5.cur) s5.body zg _ _ _ _ _ _ _ _ _ _ _ _ _ _ (by omega) (by omega) (by omega) (by omega) hnu hnd hb5 hzg ⟨rfl, by rw [hdg5, hil5, hbd5]⟩).toP (ks := []) rfl (by repeat constructor) sub_
end Go.Proofs.YtcdalfhkhifplaaGreatDoor
