/-
  The walks: an inode is read; The walks: names in a directory are read; The walks: a directory is read; The walks: a slice whose head is cut off, and that grows; The walks: the tree of inodes is read. Conditions: none.
-/
import Derived.Test.YtppkiiomedembaaGreatDoorM15
set_option linter.unusedVariables false
set_option linter.unusedSimpArgs false
namespace Go.Proofs.YtppkiiomedembaaGreatDoor
open Go
set_option maxRecDepth 100000
set_option maxHeartbeats 4000000
attribute [local irreducible] E EO
structure InoR (B : List UInt8) (x : RI) (u0 u1 g0 g1 s0 s1 b0 b1 : Nat) : Prop where
  md : leAt B 0 2 = x.mode
  hu0 : leAt B 2 2 = u0
  hu1 : leAt B 120 2 = u1
  ui : u0 ||| u1 * 2 ^ 16 = x.uid
  uo : x.uid < 4294967296
  hg0 : leAt B 24 2 = g0
  hg1 : leAt B 122 2 = g1
  gi : g0 ||| g1 * 2 ^ 16 = x.gid
  go : x.gid < 4294967296
  hs0 : leAt B 4 4 = s0
  hs1 : leAt B 108 4 = s1
  sz : s0 ||| s1 * 2 ^ 32 = x.size
  so : x.size < 1000000000
  lk : leAt B 26 2 = x.links
  hb0 : leAt B 28 4 = b0
  hb1 : leAt B 116 2 = b1
  bk : b0 ||| b1 * 2 ^ 32 = x.secs
  bo : x.secs < 1000000000
  fl : leAt B 32 4 = x.flags
  ex : leAt B 128 2 = 24
  dt : leAt B 20 4 = 0
  t0 : leAt B 8 4 = 0
  t1 : leAt B 12 4 = 0
  t2 : leAt B 16 4 = 0
  t3 : leAt B 140 4 = 0
  t4 : leAt B 132 4 = 0
  t5 : leAt B 136 4 = 0
  t6 : leAt B 144 4 = 0
  t7 : leAt B 148 4 = 0
  hu : x.flags &&& 262144 ≠ 0
structure AttR (B v : List UInt8) (pl : Nat) : Prop where
  a_m : leAt B 152 4 = 3925999616
  a_h0 : leAt B 156 4 ≠ 0
  a_h1 : leAt B 156 1 = 4
  a_h7 : leAt B 157 1 = 7
  a_pl : leAt B 158 2 = pl
  a_z : leAt B 160 4 = 0
  a_sz : leAt B 164 4 = v.length
  a_hh : leAt B 168 4 = hashX [100, 97, 116, 97] v
  a_n : (B.drop 172).take 4 = [100, 97, 116, 97]
  a_e : leAt B 176 4 = 0
  a_v : (B.drop (156 + pl)).take v.length = v
  a_p4 : pl % 4 = 0
  a_p2 : 24 ≤ pl
  a_ps : pl + v.length ≤ 100
theorem CellRow.sub {L : List HP} {g o p k n : Nat} {vs us : List Value} (h : CellRow L g o vs) (hu : (vs.drop k).take n = us) (hp : p = o + k) : CellRow L g p us := fun j v hj => by
  subst hp
  have hlt := (List.getElem?_eq_some_iff.1 hj).1
  rw [← hu, List.length_take] at hlt
  rw [← hu, List.getElem?_take_of_lt (by omega)] at hj
  exact h.suf j v hj
section
variable {X : Fx} {ops : Array Oper} {cf : Nat → Cls} {k : List Item} {i : Nat} {is : List Nat} {l : List Oper} {loc loc' : List Value} {tmp tmp' : List (Nat × Value)} {L F : List HP}
  {d : Option Tmp} {ty : TypeId} {pos : String} {aft : Array Edge} {gd : Option (Nat × Bool)}
theorem y_loadS {T g p n C e sz N : Nat} {x : Operand} {vs us : List Value} [AggSz X.P T n] (q : Nat) (hu : (vs.drop q).take n = us) (h : EO X ops cf k is l loc' tmp' L) (hx : sv loc tmp x = some (.pointer (some ⟨g, p, none⟩)) := by rfl) (ht : Take (Own (some ⟨g, 0, none⟩) C e sz N vs) L F := by exact take_) (he : p = 0 + q := by omega) (hn : us.length = n := by rfl) (hp : Pt loc tmp d (.agg us.toArray) loc' tmp' := by exact pt_)
    (hg : gdv ops loc tmp gd = some true := by rfl) (hd : dOK X.n d = true := by rfl) (hcl : (cf i).reads = true := by rfl) : EO X ops cf k (i :: is) (⟨d, .load T x, ty, pos, aft, gd⟩ :: l) loc tmp L :=
  x_loadA hx ((CellRow.own.sub hu he).of_take ht) hn hp h hg hd hcl
end
theorem fill4 : Instr.fill (fun i => some (i * 2, 2)) ((Array.range (4 * 2)).map (([.int .i64 0, .int .i64 0] : List Value).toArray[· % 2]!)) [(0, .agg #[.int .i64 0, .int .i64 0]), (1, .agg #[.int .i64 0, .int .i64 0]), (2, .agg #[.int .i64 0, .int .i64 0]), (3, .agg #[.int .i64 0, .int .i64 0])] = some ([.int .i64 0, .int .i64 0, .int .i64 0, .int .i64 0, .int .i64 0, .int .i64 0, .int .i64 0, .int .i64 0] : List Value).toArray := by kernel_rfl
theorem inode_fn (s : Vs) (g : Geo s) (x : RI) (it : Nat) (B : List UInt8) (u0 u1 g0 g1 s0 s1 b0 b1 : Nat) (cl' : List Nat) (hit : leAt s.img 4104 4 = it) (h1 : 1 ≤ x.num) (h2 : x.num ≤ s.pi) (hfit : it * 4096 + x.num * 256 ≤ s.img.length) (hB : B = (s.img.drop (it * 4096 + (x.num - 1) * 256)).take 256)
    (hi : InoR B x u0 u1 g0 g1 s0 s1 b0 b1) (hk : ftN x.mode ≠ 0) (h104 : leAt B 104 4 = 0) (hil : x.il = decide (x.flags &&& 268435456 ≠ 0)) (hbk : x.secs = x.blks)
    (hx : leAt B 152 4 ≠ 3925999616 ∧ (∀ gx, Fe Tryz.prog 179 #[ptrV s.vg, ptrV gx, .slice (some ⟨s.ig, it * 4096 + (x.num - 1) * 256, none⟩) 256 (s.ic - (it * 4096 + (x.num - 1) * 256)), .slice none 0 0] [VP s, ImgP s, Cells gx 74 (rC x (.slice none 0 0) (.slice none 0 0) x.il 0)] (fun _ : Option Addr × Nat => True) (fun _ => .tuple #[])
        (fun i => [VP { s with cl := cl' }, ImgP s, Cells gx 74 (rC x (.slice i.1 x.data.length i.2) (.slice none 0 0) x.il x.blks), Own i.1 i.2 5 1 x.data.length (enc x.data)])) ∨
      ∃ v pl, AttR B v pl ∧ x.il = true ∧ it * 4096 + x.num * 256 < s.img.length ∧ (∀ gx (gv : Option Addr) cv, (gv = none → v.length = 0) → Fe Tryz.prog 179 #[ptrV s.vg, ptrV gx, .slice (some ⟨s.ig, it * 4096 + (x.num - 1) * 256, none⟩) 256 (s.ic - (it * 4096 + (x.num - 1) * 256)), .slice gv v.length cv] [VP s, ImgP s, Cells gx 74 (rC x (.slice none 0 0) (.slice none 0 0) x.il 0), Own gv cv 5 1 v.length (enc v)] (fun _ : Option Addr × Nat => True) (fun _ => .tuple #[])
        (fun i => [VP { s with cl := cl' }, ImgP s, Cells gx 74 (rC x (.slice i.1 x.data.length i.2) (.slice none 0 0) x.il x.blks), Own i.1 i.2 5 1 x.data.length (enc x.data), Own gv cv 5 1 v.length (enc v)]))) :
    Fe Tryz.prog 126 #[ptrV s.vg, .int .u64 (x.num : Int)] [VP s, ImgP s] (fun _ : Option Addr × Nat => True) (fun i => .agg (rC x (.slice i.1 x.data.length i.2) (.slice none 0 0) x.il x.blks).toArray)
      (fun i => [VP { s with cl := cl' }, ImgP s, Own i.1 i.2 5 1 x.data.length (enc x.data)]) := by
  have hbl : B.length = 256 := by rw [hB]; simp; omega
  have hrow := ImgP.row s (it * 4096 + (x.num - 1) * 256) 256
  rw [← hB] at hrow
  have hraw := raw_fn s g it x.num h1 h2 hit hfit
  have hg := g
  obtain ⟨g1', g2', g3', g4', g5', g6'⟩ := g
  have hcc : 256 ≤ s.ic - (it * 4096 + (x.num - 1) * 256) := by omega
  have hcs : it * 4096 + x.num * 256 < s.img.length → 256 < s.ic - (it * 4096 + (x.num - 1) * 256) := fun h => by omega
  generalize it * 4096 + (x.num - 1) * 256 = off at hrow hraw hcc hcs hx
  generalize s.ic - off = c at hraw hcc hcs hx
  have le : ∀ a n : Nat, n ≤ 8 → a ≤ 256 → Qn Tryz.prog 49 #[.slice (some ⟨s.ig, off, none⟩) 256 c, .int .u64 (a : Int), .int .u64 (n : Int)] [ImgP s] (.int .u64 (leAt B a n : Nat)) := fun a n hn ha => le_fn s.ig off 256 c a n B (ImgP s) hrow hbl hn (by omega) (by omega)
  obtain ⟨i1, i2, i3, i4, i5, i6, i7, i8, i9, i10, i11, i12, i13, i14, i15, i16, i17, i18, i19, i20, i21, i22, i23, i24, i25, i26, i27, i28, i29, i30⟩ := hi
  have l0 := le 0 2 (by omega) (by omega); rw [i1] at l0
  have l2 := le 2 2 (by omega) (by omega); rw [i2] at l2
  have l120 := le 120 2 (by omega) (by omega); rw [i3] at l120
  have l24 := le 24 2 (by omega) (by omega); rw [i6] at l24
  have l122 := le 122 2 (by omega) (by omega); rw [i7] at l122
  have l4 := le 4 4 (by omega) (by omega); rw [i10] at l4
  have l108 := le 108 4 (by omega) (by omega); rw [i11] at l108
  have l26 := le 26 2 (by omega) (by omega); rw [i14] at l26
  have l28 := le 28 4 (by omega) (by omega); rw [i15] at l28
  have l116 := le 116 2 (by omega) (by omega); rw [i16] at l116
  have l32 := le 32 4 (by omega) (by omega); rw [i19] at l32
  have l128 := le 128 2 (by omega) (by omega); rw [i20] at l128
  have l20 := le 20 4 (by omega) (by omega); rw [i21] at l20
  have l8 := le 8 4 (by omega) (by omega); rw [i22] at l8
  have l12 := le 12 4 (by omega) (by omega); rw [i23] at l12
  have l16 := le 16 4 (by omega) (by omega); rw [i24] at l16
  have b1' : x.mode < 65536 := by rw [← i1]; exact leAt_lt' B 0 2 _ (by decide)
  have b2' : u0 < 65536 := by rw [← i2]; exact leAt_lt' B 2 2 _ (by decide)
  have b3' : u1 < 65536 := by rw [← i3]; exact leAt_lt' B 120 2 _ (by decide)
  have b4' : g0 < 65536 := by rw [← i6]; exact leAt_lt' B 24 2 _ (by decide)
  have b5' : g1 < 65536 := by rw [← i7]; exact leAt_lt' B 122 2 _ (by decide)
  have b6' : s0 < 4294967296 := by rw [← i10]; exact leAt_lt' B 4 4 _ (by decide)
  have b7' : s1 < 4294967296 := by rw [← i11]; exact leAt_lt' B 108 4 _ (by decide)
  have b8' : x.links < 65536 := by rw [← i14]; exact leAt_lt' B 26 2 _ (by decide)
  have b9' : b0 < 4294967296 := by rw [← i15]; exact leAt_lt' B 28 4 _ (by decide)
  have b10' : b1 < 65536 := by rw [← i16]; exact leAt_lt' B 116 2 _ (by decide)
  have b11' : x.flags < 4294967296 := by rw [← i19]; exact leAt_lt' B 32 4 _ (by decide)
  have hkf := kindOf_fn x.mode b1'
  have f : ∀ (ge gb at_ : Nat), at_ + 4 ≤ 152 → leAt B at_ 4 = 0 → Qn Tryz.prog 176 #[.int .u64 (at_ : Int), ptrV ge, ptrV gb] [Cells ge 69 [.int .u64 (24 : Nat)], Cells gb 22 [.slice (some ⟨s.ig, off, none⟩) 256 c], ImgP s] (.int .u64 (0 : Nat)) := fun ge gb at_ ha h0 => by
    have := field_fn ge gb s.ig off c at_ B (ImgP s) hrow hbl ha
    rwa [h0] at this
  refine fn_of_E' (args := [_, _]) 15 _ [_, _, undef, undef, undef, undef, undef, undef, undef, undef, undef, undef, undef, undef, undef] Tryz.func126 rfl Tryz.ntmps126 ?_
  refine walk ?_
  refine y_alloc fun gr => ?_
  refine walk ?_
  refine y_callq rfl rfl hraw ?_
  refine walk ?_
  refine y_alloc fun gb => ?_
  refine walk ?_
  refine y_alloc fun ge => ?_
  refine walk ?_
  refine y_loadC (v := .int .u64 256) (.there (.there (.there (VP.cell 7 _ fun _ _ _ _ => rfl)))) ?_
  refine walk ?_
  generalize ftN x.mode = kk at hk hkf
  refine y_callq rfl rfl l128 ?_
  refine walk ?_
  refine y_loadC (v := .int .u64 256) (.there (.there (.there (VP.cell 7 _ fun _ _ _ _ => rfl)))) ?_
  refine walk ?_
  refine y_callq rfl rfl (must_fn (ptrV s.vg) _ x.num) ?_
  refine walk ?_
  refine y_callq rfl rfl l0 ?_
  refine walk ?_
  refine y_callq rfl rfl l2 ?_
  refine walk ?_
  refine y_callq rfl rfl l120 ?_
  refine walk ?_
  refine y_callq rfl rfl l24 ?_
  refine walk ?_
  refine y_callq rfl rfl l122 ?_
  refine walk ?_
  refine y_callq rfl rfl l4 ?_
  refine walk ?_
  refine y_callq rfl rfl l108 ?_
  refine walk ?_
  refine y_callq rfl rfl l26 ?_
  refine walk ?_
  refine y_callq rfl rfl l28 ?_
  refine walk ?_
  refine y_callq rfl rfl l116 ?_
  refine walk ?_
  refine y_callq rfl rfl l32 ?_
  refine walk ?_
  refine y_callq rfl rfl l8 ?_
  refine walk ?_
  refine y_callq rfl rfl (f ge gb 140 (by omega) i25) ?_
  refine walk ?_
  refine y_callG rfl rfl moment0_fn ?_
  refine walk ?_
  refine y_callq rfl rfl l12 ?_
  refine walk ?_
  refine y_callq rfl rfl (f ge gb 132 (by omega) i26) ?_
  refine walk ?_
  refine y_callG rfl rfl moment0_fn ?_
  refine walk ?_
  refine y_callq rfl rfl l16 ?_
  refine walk ?_
  refine y_callq rfl rfl (f ge gb 136 (by omega) i27) ?_
  refine walk ?_
  refine y_callG rfl rfl moment0_fn ?_
  refine walk ?_
  refine y_callq rfl rfl (f ge gb 144 (by omega) i28) ?_
  refine walk ?_
  refine y_callq rfl rfl (f ge gb 148 (by omega) i29) ?_
  refine walk ?_
  refine y_callG rfl rfl moment0_fn ?_
  refine walk ?_
  rw [i4, i8, i12, i17]
  refine y_alloc fun gx => ?_
  refine walk ?_
  refine y_callq rfl rfl hkf ?_
  refine walk ?_
  refine y_callq rfl rfl (must_fn (ptrV s.vg) _ x.num) ?_
  refine walk ?_
  refine y_callq rfl rfl l20 ?_
  refine walk ?_
  refine y_callq rfl rfl (must_fn (ptrV s.vg) _ x.num) ?_
  refine walk ?_
  refine y_build (vs := [.agg #[.int .i64 0, .int .i64 0], .agg #[.int .i64 0, .int .i64 0], .agg #[.int .i64 0, .int .i64 0], .agg #[.int .i64 0, .int .i64 0]]) (cs := [.int .i64 0, .int .i64 0, .int .i64 0, .int .i64 0, .int .i64 0, .int .i64 0, .int .i64 0, .int .i64 0]) rfl fill4 rfl fun gs => ?_
  refine walk ?_
  refine y_loop ?_
  refine walk ?_
  refine y_loadS (vs := [.int .i64 0, .int .i64 0, .int .i64 0, .int .i64 0, .int .i64 0, .int .i64 0, .int .i64 0, .int .i64 0]) (us := [.int .i64 0, .int .i64 0]) 0 rfl ?_
  refine walk ?_
  refine y_alloc fun g1x => ?_
  refine walk ?_
  refine y_callq rfl rfl (must_fn (ptrV s.vg) _ x.num) ?_
  refine walk ?_
  refine y_again ?_
  refine walk ?_
  refine y_loadS (vs := [.int .i64 0, .int .i64 0, .int .i64 0, .int .i64 0, .int .i64 0, .int .i64 0, .int .i64 0, .int .i64 0]) (us := [.int .i64 0, .int .i64 0]) 2 rfl ?_
  refine walk ?_
  refine y_alloc fun g2x => ?_
  refine walk ?_
  refine y_callq rfl rfl (must_fn (ptrV s.vg) _ x.num) ?_
  refine walk ?_
  refine y_again ?_
  refine walk ?_
  refine y_loadS (vs := [.int .i64 0, .int .i64 0, .int .i64 0, .int .i64 0, .int .i64 0, .int .i64 0, .int .i64 0, .int .i64 0]) (us := [.int .i64 0, .int .i64 0]) 4 rfl ?_
  refine walk ?_
  refine y_alloc fun g3x => ?_
  refine walk ?_
  refine y_callq rfl rfl (must_fn (ptrV s.vg) _ x.num) ?_
  refine walk ?_
  refine y_again ?_
  refine walk ?_
  refine y_loadS (vs := [.int .i64 0, .int .i64 0, .int .i64 0, .int .i64 0, .int .i64 0, .int .i64 0, .int .i64 0, .int .i64 0]) (us := [.int .i64 0, .int .i64 0]) 6 rfl ?_
  refine walk ?_
  refine y_alloc fun g4x => ?_
  refine walk ?_
  refine y_callq rfl rfl (must_fn (ptrV s.vg) _ x.num) ?_
  refine walk ?_
  refine y_again ?_
  refine walk ?_
  have hil' : (((x.flags &&& 268435456 : Nat) : Int) != 0) = x.il := by
    rw [hil]
    by_cases h : x.flags &&& 268435456 = 0
    · simp [h]
    · simp [h]
  rw [hil']
  refine EO.eqL (L' := [_, _, _, _, _, Cells gx 74 (rC x (.slice none 0 0) (.slice none 0 0) x.il 0), _, _, _, _, _]) rfl ?_
  rcases hx with ⟨hx, hct⟩ | ⟨v, pl, ha, hxi, hst, hct⟩
  · refine y_callD rfl rfl (xattrs0_fn s s.ig off c (ptrV gx) B (ImgP s) hrow hbl hx h104) ?_
    refine walk ?_
    refine y_loop ?_
    refine walk ?_
    refine y_callE rfl rfl (hct gx) fun j _ => ?_
    obtain ⟨A, ca⟩ := j
    dsimp only
    refine walk ?_
    refine y_callq rfl rfl (must_fn (ptrV s.vg) _ x.num) ?_
    refine walk ?_
    refine y_retC 4 rfl (by first | ((repeat (first | ((with_reducible apply Rows.here); (focus (repeat constructor))) | (with_reducible apply Rows.there))) <;> fail) | fail) ⟨(A, ca), trivial, rfl, rfl⟩
  · refine y_callE rfl rfl (xattrs1_fn s gx s.ig off c x.num pl v.length B v (Cells gx 74 (rC x (.slice none 0 0) (.slice none 0 0) x.il 0)) (ImgP s) (.here rfl) hrow hbl (hcs hst) ha.a_m h104 ha.a_h0 ha.a_h1 ha.a_h7 ha.a_pl ha.a_z ha.a_sz ha.a_hh ha.a_n ha.a_e ha.a_v rfl ha.a_p4 ha.a_p2 ha.a_ps) fun j _ => ?_
    obtain ⟨⟨gq, cq⟩, gv, cv⟩ := j
    dsimp only
    refine EO.know (A := Own gv cv 5 1 v.length (enc v)) take_ (fun _ _ => Own.know) fun hk => ?_
    have hgv : gv = none → v.length = 0 := fun h => by
      have h1 := hk.2.2.1 h
      have h2 := hk.2.1
      omega
    refine walk ?_
    refine y_loop ?_
    refine walk ?_
    refine y_loadS (vs := [.string (str sysData), .slice gv v.length cv]) (us := [.string (str sysData), .slice gv v.length cv]) 0 rfl ?_
    refine walk ?_
    refine y_alloc fun ga => ?_
    rw [hxi] at hct ⊢
    refine walk ?_
    refine y_callq rfl rfl (must_fn (ptrV s.vg) _ x.num) ?_
    refine walk ?_
    refine y_again ?_
    refine walk ?_
    refine y_callE rfl rfl (hct gx gv cv hgv) fun j _ => ?_
    obtain ⟨A, ca⟩ := j
    dsimp only
    refine walk ?_
    refine y_callq rfl rfl (must_fn (ptrV s.vg) _ x.num) ?_
    refine walk ?_
    refine y_retC 4 rfl (by first | ((repeat (first | ((with_reducible apply Rows.here); (focus (repeat constructor))) | (with_reducible apply Rows.there))) <;> fail) | fail) ⟨(A, ca), trivial, rfl, rfl⟩
end Go.Proofs.YtppkiiomedembaaGreatDoor
namespace Go.Proofs.YtppkiiomedembaaGreatDoor
open Go
set_option maxRecDepth 100000
set_option maxHeartbeats 4000000
attribute [local irreducible] E EO
inductive DB : List UInt8 → List (List UInt8 × Nat × Nat) → Prop
  | nil : DB [] []
  | ent {num ft : Nat} {nm r : List UInt8} {es : List (List UInt8 × Nat × Nat)} : 1 ≤ nm.length → nm.length ≤ 255 → num ≠ 0 → num < 4294967296 → ft < 256 → DB r es → DB (entD num nm ft ++ r) ((nm, num, ft) :: es)
  | pad {n : Nat} {r : List UInt8} {es : List (List UInt8 × Nat × Nat)} : 12 ≤ n → n ≤ 4096 → n % 4 = 0 → DB r es → DB (padD n ++ r) es
theorem entD_len {num ft : Nat} {nm : List UInt8} : (entD num nm ft).length = rlN nm := by
  simp only [entD, List.length_append, leB_len, List.length_replicate, rlN]; omega
theorem padD_length {n : Nat} (h : 12 ≤ n) : (padD n).length = n := by
  simp only [padD, List.length_append, leB_len, List.length_replicate]; omega
theorem entD_flds (num ft : Nat) (nm r : List UInt8) : entD num nm ft ++ r = flds [(4, num), (2, rlN nm), (1, nm.length), (1, ft)] ++ (nm ++ List.replicate (rlN nm - (8 + nm.length)) 0 ++ r) := by
  simp [entD, flds]
theorem padD_flds (n : Nat) (r : List UInt8) : padD n ++ r = flds [(4, 0), (2, n), (1, 0), (1, 0)] ++ (List.replicate (n - 8) 0 ++ r) := by
  simp [padD, flds]
theorem fldN {l : List (Nat × Nat)} {o n x : Nat} {b r : List UInt8} (hb : b = flds l ++ r) (h : FAt l o n x) (hx : x < 256 ^ n) : leAt b o n = x := by
  rw [hb, h.le, Nat.mod_eq_of_lt hx]
theorem names_fn (vg gx g o m c c1 : Nat) (A : Option Addr) (R : List UInt8) (es d : List (List UInt8 × Nat × Nat)) (x : RI) (cv : Value) (il : Bool) (bl : Nat) (M : HP) (hr : CellRow [M] g o (enc R)) (hm : R.length = m) (hc : m ≤ c) (hm2 : m ≤ 1000000) (hdb : DB R es) (hl : d.length + es.length ≤ 1000000) :
    Fe Tryz.prog 180 #[ptrV vg, ptrV gx, .slice (some ⟨g, o, none⟩) m c] [M, Cells gx 74 (rC x cv (.slice A d.length c1) il bl), Own A c1 80 3 d.length (entC d)] (fun _ : Option Addr × Nat => True) (fun _ => .tuple #[])
      (fun i => [M, Cells gx 74 (rC x cv (.slice i.1 (d ++ es).length i.2) il bl), Own i.1 i.2 80 3 (d ++ es).length (entC (d ++ es))]) := by
  subst hm
  refine fn_of_E' (args := [_, _, _]) 10 _ [_, _, _, undef, undef, undef, undef, undef, undef, undef] Tryz.func180 rfl Tryz.ntmps180 ?_
  refine e_block ?_
  refine e_rounds (ι := Nat × Nat × List UInt8 × List (List UInt8 × Nat × Nat) × List (List UInt8 × Nat × Nat) × Option Addr × Nat × Value × Value × Value × Value) (fun q => q.2.2.1.length)
    (fun q => [ptrV vg, ptrV gx, .slice (some ⟨g, q.1, none⟩) q.2.2.1.length q.2.1, undef, undef, undef, q.2.2.2.2.2.2.2.1, q.2.2.2.2.2.2.2.2.1, q.2.2.2.2.2.2.2.2.2.1, q.2.2.2.2.2.2.2.2.2.2])
    (fun q => [M, Cells gx 74 (rC x cv (.slice q.2.2.2.2.2.1 q.2.2.2.2.1.length q.2.2.2.2.2.2.1) il bl), Own q.2.2.2.2.2.1 q.2.2.2.2.2.2.1 80 3 q.2.2.2.2.1.length (entC q.2.2.2.2.1)])
    (fun q => CellRow [M] g q.1 (enc q.2.2.1) ∧ q.2.2.1.length ≤ q.2.1 ∧ q.2.2.1.length ≤ 1000000 ∧ DB q.2.2.1 q.2.2.2.1 ∧ q.2.2.2.2.1 ++ q.2.2.2.1 = d ++ es)
    (o, c, R, es, d, A, c1, undef, undef, undef, undef) ⟨hr, hc, hm2, hdb, rfl⟩ rfl (List.Perm.refl _) ?_
  rintro ⟨o, c, R, es', d', A, c1, v6, v7, v8, v9⟩ ⟨hr, hc, hm2, hdb, hde⟩ again
  dsimp only at hr hc hm2 hdb hde again ⊢
  have le : ∀ a n : Nat, n ≤ 8 → a ≤ 256 → Qn Tryz.prog 49 #[.slice (some ⟨g, o, none⟩) R.length c, .int .u64 (a : Int), .int .u64 (n : Int)] [M] (.int .u64 (leAt R a n : Nat)) := fun a n hn ha => le_fn g o R.length c a n R M hr rfl hn (by omega) (by omega)
  cases hdb with
  | nil =>
    refine walk ?_
    rw [List.append_nil] at hde
    subst hde
    exact y_end [] rfl ⟨(A, c1), trivial, rfl, rfl⟩
  | @ent num ft nm r es2 h1 h2 h3 h4 h5 hdb =>
    have hrl : rlN nm ≤ 266 ∧ rlN nm % 4 = 0 ∧ 8 + nm.length ≤ rlN nm ∧ 12 ≤ rlN nm := by unfold rlN; omega
    obtain ⟨r1, r2, r3, r4⟩ := hrl
    have hR := entD_flds num ft nm r
    have hRl : (entD num nm ft ++ r).length = rlN nm + r.length := by rw [List.length_append, entD_len]
    have l0 := le 0 4 (by omega) (by omega); rw [fldN hR .here (by omega)] at l0
    have l4 := le 4 2 (by omega) (by omega); rw [fldN hR (.there .here) (by omega)] at l4
    have l6 := le 6 1 (by omega) (by omega); rw [fldN hR (.there (.there .here)) (by omega)] at l6
    have l7 := le 7 1 (by omega) (by omega); rw [fldN hR (.there (.there (.there .here))) (by omega)] at l7
    have hnm : CellRow [M] g (o + 8 * 1) (enc nm) := by
      have h := (hr.sufE (p := o + 8 * 1) (k := 8) (by omega)).takeE (k := nm.length)
      rw [hR, show (8 : Nat) = (flds [(4, num), (2, rlN nm), (1, nm.length), (1, ft)]).length by simp [flds_len], List.drop_left, List.append_assoc, List.take_left] at h
      exact h
    have hrr : ∀ p, p = o + rlN nm → CellRow [M] g p (enc r) := fun p hp => by
      have h := hr.sufE (p := p) (k := rlN nm) hp
      rwa [← entD_len (num := num) (ft := ft) (nm := nm), List.drop_left] at h
    rw [hRl] at hc hm2 l0 l4 l6 l7 ⊢
    refine walk ?_
    refine y_callq rfl rfl l4 ?_
    refine walk ?_
    refine y_callq rfl rfl l6 ?_
    refine walk ?_
    refine y_callq rfl rfl l7 ?_
    refine walk ?_
    refine y_callq rfl rfl l0 ?_
    refine walk ?_
    refine y_callq rfl rfl (must_fn (ptrV vg) _ x.num) ?_
    refine walk ?_
    rw [show 8 + nm.length - 8 = nm.length by omega]
    refine x_toStr (bs := nm) rfl (hnm.of_take take_) rfl pt_ ?_
    refine walk ?_
    refine y_build (vs := [.agg #[.string (str nm), .int .u64 (num : Nat), .int .u64 (ft : Nat)]]) (cs := entC [(nm, num, ft)]) rfl (fill_one (n := 3) [.string ⟨#[]⟩, .int .u64 0, .int .u64 0] _ rfl rfl (by omega)) rfl fun gs => ?_
    refine walk ?_
    have hdl : d'.length + (es2.length + 1) = d.length + es.length := by have := congrArg List.length hde; simpa using this
    refine x_app (vs := entC d') (news := entC [(nm, num, ft)]) rfl rfl take_ (by exact ⟨rfl, .inr ⟨_, _, rfl, (by first | ((repeat (first | exact CellRow.own | exact CellRow.here | apply CellRow.there)) <;> fail) | fail)⟩⟩) (fun h => by cases h) (by simp [entC, Value.oneCell']) (by rfl) (by omega) (by simp only [maxLen]; omega) (by omega) (fun A5 c5 => ⟨_, _, pt_, ?_⟩)
    rw [← entC_app, show d'.length + 1 = (d' ++ [(nm, num, ft)]).length by simp]
    refine walk ?_
    have ag : ∀ o2 c2, CellRow [M] g o2 (enc r) → r.length ≤ c2 → _ := fun o2 c2 hr2 hc2 => again (o2, c2, r, es2, d' ++ [(nm, num, ft)], A5, c5, .int .u64 (rlN nm : Nat), .int .u64 (nm.length : Nat), .int .u64 (ft : Nat), .int .u64 (num : Nat)) (by dsimp only; rw [hRl]; omega) ⟨hr2, hc2, by dsimp only; omega, hdb, by simpa using hde⟩
    dsimp only at ag
    by_cases hlt : rlN nm < c
    · refine x_slLo rfl rfl NatV.h (by omega) (by omega) hlt pt_ ?_
      rw [show rlN nm + r.length - rlN nm = r.length by omega]
      refine walk ?_
      exact (ag _ _ (hrr _ (by omega)) (by omega)).toKS (ks := []) rfl (by repeat constructor)
    · have hr0 : r.length = 0 := by omega
      have hrn : r = [] := List.length_eq_zero_iff.1 hr0
      refine x_slLoE rfl rfl NatV.h (by omega) (by omega) pt_ ?_
      rw [show rlN nm + r.length - rlN nm = r.length by omega]
      refine walk ?_
      exact (ag _ _ (by rw [hrn]; intro j v hj; simp [enc] at hj) (by omega)).toKS (ks := []) rfl (by repeat constructor)
  | @pad n r es2 h1 h2 h3 hdb =>
    have hR := padD_flds n r
    have hRl : (padD n ++ r).length = n + r.length := by rw [List.length_append, padD_length h1]
    have l0 := le 0 4 (by omega) (by omega); rw [fldN hR .here (by omega)] at l0
    have l4 := le 4 2 (by omega) (by omega); rw [fldN hR (.there .here) (by omega)] at l4
    have l6 := le 6 1 (by omega) (by omega); rw [fldN hR (.there (.there .here)) (by omega)] at l6
    have l7 := le 7 1 (by omega) (by omega); rw [fldN hR (.there (.there (.there .here))) (by omega)] at l7
    have hrr : ∀ p, p = o + n → CellRow [M] g p (enc r) := fun p hp => by
      have h := hr.sufE (p := p) (k := n) hp
      rwa [List.drop_left' (padD_length h1)] at h
    rw [hRl] at hc hm2 l0 l4 l6 l7 ⊢
    refine walk ?_
    refine y_callq rfl rfl l4 ?_
    refine walk ?_
    refine y_callq rfl rfl l6 ?_
    refine walk ?_
    refine y_callq rfl rfl l7 ?_
    refine walk ?_
    refine y_callq rfl rfl l0 ?_
    refine walk ?_
    have ag : ∀ o2 c2, CellRow [M] g o2 (enc r) → r.length ≤ c2 → _ := fun o2 c2 hr2 hc2 => again (o2, c2, r, _, d', A, c1, .int .u64 (n : Nat), .int .u64 (0 : Nat), .int .u64 (0 : Nat), .int .u64 (0 : Nat)) (by dsimp only; rw [hRl]; omega) ⟨hr2, hc2, by dsimp only; omega, hdb, hde⟩
    dsimp only at ag
    by_cases hlt : n < c
    · refine x_slLo rfl rfl NatV.h (by omega) (by omega) hlt pt_ ?_
      rw [show n + r.length - n = r.length by omega]
      refine walk ?_
      exact (ag _ _ (hrr _ (by omega)) (by omega)).toKS (ks := []) rfl (by repeat constructor)
    · have hr0 : r.length = 0 := by omega
      have hrn : r = [] := List.length_eq_zero_iff.1 hr0
      refine x_slLoE rfl rfl NatV.h (by omega) (by omega) pt_ ?_
      rw [show n + r.length - n = r.length by omega]
      refine walk ?_
      exact (ag _ _ (by rw [hrn]; intro j v hj; simp [enc] at hj) (by omega)).toKS (ks := []) rfl (by repeat constructor)
end Go.Proofs.YtppkiiomedembaaGreatDoor
namespace Go.Proofs.YtppkiiomedembaaGreatDoor
open Go
set_option maxRecDepth 100000
set_option maxHeartbeats 4000000
attribute [local irreducible] E EO
inductive DBs : List UInt8 → List (List UInt8 × Nat × Nat) → Prop
  | nil : DBs [] []
  | blk {b r : List UInt8} {es fs : List (List UInt8 × Nat × Nat)} : b.length = 4096 → DB b es → DBs r fs → DBs (b ++ r) (es ++ fs)
theorem DBs.len {R : List UInt8} {es : List (List UInt8 × Nat × Nat)} (h : DBs R es) : R.length % 4096 = 0 := by
  induction h with
  | nil => rfl
  | blk h1 _ _ ih => rw [List.length_append, h1]; omega
section
variable {X : Fx} {ops : Array Oper} {cf : Nat → Cls} {k : List Item} {i : Nat} {is : List Nat} {l : List Oper} {loc loc' : List Value} {tmp tmp' : List (Nat × Value)} {L F : List HP}
  {d : Option Tmp} {ty : TypeId} {pos : String} {aft : Array Edge} {gd : Option (Nat × Bool)}
theorem y_loadO {T g p C e sz N : Nat} {x : Operand} {v : Value} {vs : List Value} [OneCell X.P T] (a : Nat) (hv : vs[a]? = some v) (h : EO X ops cf k is l loc' tmp' L) (hx : sv loc tmp x = some (.pointer (some ⟨g, p, none⟩)) := by rfl) (ht : Take (Own (some ⟨g, 0, none⟩) C e sz N vs) L F := by exact take_) (he : p = a := by omega) (hp : Pt loc tmp d v loc' tmp' := by exact pt_)
    (hg : gdv ops loc tmp gd = some true := by rfl) (hd : dOK X.n d = true := by rfl) (hcl : (cf i).reads = true := by rfl) : EO X ops cf k (i :: is) (⟨d, .load T x, ty, pos, aft, gd⟩ :: l) loc tmp L := by
  subst he
  exact x_load hx (fun m S hS => Cell.own (L := F) hv m S (sats_perm ht.perm hS)) hp h hg hd hcl
end
theorem e_roundsT {X : Fx} {k : List Item} {loc : List Value} {tmp : List (Nat × Value)} {L F : List HP} {ι : Type} {c : Code} (m : ι → Nat) (loI : ι → List Value) (tmI : ι → List (Nat × Value)) (LI : ι → List HP) (PI : ι → Prop) (i0 : ι) {ks : List Nat} (h0 : PI i0) (hl : loc = loI i0) (ht : KeepR tmp ks (tmI i0)) (hL : Subs (LI i0) L F)
    (round : ∀ i, PI i → (∀ j, m j < m i → PI j → E X (.inLoop c :: k) (loI j) (tmI j) (LI j)) → E X (.code c :: .inLoop c :: k) (loI i) (tmI i) (LI i)) :
    E X (.code (.loop c) :: k) loc tmp L := E.some hL (e_roundsK m loI tmI LI PI i0 h0 hl ht (List.Perm.refl _) round)
theorem entC_get : ∀ (es : List (List UInt8 × Nat × Nat)) (i : Nat) (e : List UInt8 × Nat × Nat), es[i]? = some e → ((entC es).drop (i * 3)).take 3 = [.string (str e.1), .int .u64 (e.2.1 : Int), .int .u64 (e.2.2 : Int)]
  | f :: es, 0, e, h => by simp at h; subst h; rfl
  | f :: es, i + 1, e, h => by
    have := entC_get es i e (by simpa using h)
    simp only [entC]
    rw [show (i + 1) * 3 = i * 3 + 1 + 1 + 1 by omega, List.drop_succ_cons, List.drop_succ_cons, List.drop_succ_cons, this]
theorem entries_fn (vg gx par gC cC : Nat) (R : List UInt8) (es : List (List UInt8 × Nat × Nat)) (x : RI) (bl : Nat) (hdb : DBs R (([46], x.num, 2) :: ([46, 46], par, 2) :: es)) (hc : R.length ≤ cC) (hR0 : 0 < R.length) (hR : R.length ≤ 100000000) (hes : es.length ≤ 100000)
    (hnd : ((([46], x.num, 2) :: ([46, 46], par, 2) :: es).map (·.1)).Nodup) (hsl : ∀ e ∈ es, 47 ∉ e.1 ∧ e.1.length ≤ 255) (hn : x.num < 4294967296) (hp : par < 4294967296) :
    Fe Tryz.prog 127 #[ptrV vg, ptrV gx, .int .u64 (par : Int)] [Own (some ⟨gC, 0, none⟩) cC 5 1 R.length (enc R), Cells gx 74 (rC x (.slice (some ⟨gC, 0, none⟩) R.length cC) (.slice none 0 0) false bl)] (fun _ : Option Addr × Nat => True) (fun _ => .tuple #[])
      (fun i => [Own (some ⟨gC, 0, none⟩) cC 5 1 R.length (enc R), Cells gx 74 (rC x (.slice (some ⟨gC, 0, none⟩) R.length cC) (.slice i.1 (es.length + 2) i.2) false bl), Own i.1 i.2 80 3 (es.length + 2) (entC (([46], x.num, 2) :: ([46, 46], par, 2) :: es))]) := by
  have hmod := hdb.len
  refine fn_of_E' (args := [_, _, _]) 12 _ [_, _, _, undef, undef, undef, undef, undef, undef, undef, undef, undef] Tryz.func127 rfl Tryz.ntmps127 ?_
  refine E.nilOwn (e := 80) (sz := 3) ?_
  refine walk ?_
  refine y_callq rfl rfl (must_fn (ptrV vg) _ x.num) ?_
  refine walk ?_
  refine e_roundsT (ι := Nat × Nat × List UInt8 × List (List UInt8 × Nat × Nat) × List (List UInt8 × Nat × Nat) × Option Addr × Nat) (fun q => q.2.2.1.length)
    (fun q => [ptrV vg, ptrV gx, .int .u64 (par : Int), undef, undef, undef, .slice (some ⟨gC, q.1, none⟩) q.2.2.1.length q.2.1, undef, undef, undef, undef, undef])
    (fun _ => [])
    (fun q => [Own (some ⟨gC, 0, none⟩) cC 5 1 R.length (enc R), Cells gx 74 (rC x (.slice (some ⟨gC, 0, none⟩) R.length cC) (.slice q.2.2.2.2.2.1 q.2.2.2.2.1.length q.2.2.2.2.2.2) false bl), Own q.2.2.2.2.2.1 q.2.2.2.2.2.2 80 3 q.2.2.2.2.1.length (entC q.2.2.2.2.1)])
    (fun q => CellRow [Own (some ⟨gC, 0, none⟩) cC 5 1 R.length (enc R)] gC q.1 (enc q.2.2.1) ∧ q.2.2.1.length ≤ q.2.1 ∧ q.2.2.1.length ≤ 100000000 ∧ DBs q.2.2.1 q.2.2.2.1 ∧ q.2.2.2.2.1 ++ q.2.2.2.1 = ([46], x.num, 2) :: ([46, 46], par, 2) :: es)
    (0, cC, R, _, [], none, 0) ⟨CellRow.own, hc, hR, hdb, rfl⟩ rfl (by repeat constructor) (by exact .cons (.there .here) (.cons (.there .here) (.cons .here .nil))) ?_
  rintro ⟨o, c, Rm, fs, d, A, c1⟩ ⟨hr, hc, hm2, hdb, hde⟩ again
  dsimp only at hr hc hm2 hdb hde again ⊢
  have hdl : d.length + fs.length = es.length + 2 := by have := congrArg List.length hde; simpa using this
  cases hdb with
  | @blk b r es1 fs1 h1 h2 h3 =>
    have hRl : (b ++ r).length = 4096 + r.length := by rw [List.length_append, h1]
    have hrb : CellRow [Own (some ⟨gC, 0, none⟩) cC 5 1 R.length (enc R)] gC o (enc b) := by
      have := hr.takeE (k := 4096)
      rwa [List.take_left' h1] at this
    have hrr : ∀ p, p = o + 4096 → CellRow [Own (some ⟨gC, 0, none⟩) cC 5 1 R.length (enc R)] gC p (enc r) := fun p hp => by
      have := hr.sufE (p := p) (k := 4096) hp
      rwa [List.drop_left' h1] at this
    rw [hRl] at hc hm2 ⊢
    rw [List.length_append] at hdl
    refine walk ?_
    refine y_callE rfl rfl (names_fn vg gx gC o 4096 c c1 A b es1 d x (.slice (some ⟨gC, 0, none⟩) R.length cC) false bl (Own (some ⟨gC, 0, none⟩) cC 5 1 R.length (enc R)) hrb h1 (by omega) (by omega) h2 (by omega)) fun j _ => ?_
    obtain ⟨A5, c5⟩ := j
    dsimp only
    have ag : ∀ o2 c2, CellRow [Own (some ⟨gC, 0, none⟩) cC 5 1 R.length (enc R)] gC o2 (enc r) → r.length ≤ c2 → _ := fun o2 c2 hr2 hc2 => again (o2, c2, r, fs1, d ++ es1, A5, c5) (by dsimp only; rw [hRl]; omega) ⟨hr2, hc2, by dsimp only; omega, h3, by simpa using hde⟩
    dsimp only at ag
    by_cases hlt : 4096 < c
    · refine walk ?_
      rw [show 4096 + r.length - 4096 = r.length by omega]
      exact (ag _ _ (hrr _ (by omega)) (by omega)).toKS (ks := []) rfl (by repeat constructor)
    · have hr0 : r.length = 0 := by omega
      have hrn : r = [] := List.length_eq_zero_iff.1 hr0
      refine walk ?_
      refine x_slLoE (m := 4096) rfl rfl rfl (by omega) (by omega) pt_ ?_
      rw [show 4096 + r.length - 4096 = r.length by omega]
      refine walk ?_
      exact (ag _ _ (by rw [hrn]; intro j v hj; simp [enc] at hj) (by omega)).toKS (ks := []) rfl (by repeat constructor)
  | nil =>
    rw [List.append_nil] at hde
    subst hde
    have hlen : (([46], x.num, 2) :: ([46, 46], par, 2) :: es).length = es.length + 2 := rfl
    have q0 : (entC (([46], x.num, 2) :: ([46, 46], par, 2) :: es))[0]? = some (.string (str [46])) := rfl
    have q1 : (entC (([46], x.num, 2) :: ([46, 46], par, 2) :: es))[1]? = some (.int .u64 (x.num : Int)) := rfl
    have q2 : (entC (([46], x.num, 2) :: ([46, 46], par, 2) :: es))[2]? = some (.int .u64 (2 : Nat)) := rfl
    have q3 : (entC (([46], x.num, 2) :: ([46, 46], par, 2) :: es))[3]? = some (.string (str [46, 46])) := rfl
    have q4 : (entC (([46], x.num, 2) :: ([46, 46], par, 2) :: es))[4]? = some (.int .u64 (par : Int)) := rfl
    have q5 : (entC (([46], x.num, 2) :: ([46, 46], par, 2) :: es))[5]? = some (.int .u64 (2 : Nat)) := rfl
    have hsl' : ∀ e ∈ (([46], x.num, 2) :: ([46, 46], par, 2) :: es), 47 ∉ e.1 ∧ e.1.length ≤ 255 := by
      intro e he
      rcases List.mem_cons.1 he with rfl | he
      · simp
      · rcases List.mem_cons.1 he with rfl | he
        · simp
        · exact hsl e he
    rw [hlen]
    generalize ([46], x.num, 2) :: ([46, 46], par, 2) :: es = ee at hlen q0 q1 q2 q3 q4 q5 hsl' hnd ⊢
    refine E.know (A := Own A c1 80 3 (es.length + 2) (entC ee)) take_ (fun _ _ => Own.know) fun hk => ?_
    obtain ⟨k1, k2, k3, k4⟩ := hk
    cases A with
    | none => have := k3 rfl; omega
    | some ad =>
    obtain ⟨ge, rfl⟩ := k4 ad rfl
    refine walk ?_
    refine y_loadO 0 q0 ?_
    refine walk ?_
    refine y_loadO 3 q3 ?_
    refine walk ?_
    refine y_loadO 1 q1 ?_
    refine walk ?_
    refine y_loadO 2 q2 ?_
    refine walk ?_
    refine y_callq rfl rfl (must_fn (ptrV vg) _ x.num) ?_
    refine walk ?_
    refine y_loadO 4 q4 ?_
    refine walk ?_
    refine y_loadO 5 q5 ?_
    refine walk ?_
    refine y_callq rfl rfl (must_fn (ptrV vg) _ x.num) ?_
    refine walk ?_
    refine e_roundsK (ι := Nat × Value × Value × Value × Value) (fun q => es.length + 2 - q.1)
      (fun q => [ptrV vg, ptrV gx, .int .u64 (par : Int), undef, undef, undef, .slice (some ⟨gC, o, none⟩) ([] : List UInt8).length c, q.2.1, q.2.2.1, undef, q.2.2.2.1, q.2.2.2.2])
      (fun q => [(172, .int .i64 (q.1 : Nat)), (171, .int .i64 (es.length + 2 : Nat)), (170, .slice (some ⟨ge, 0, none⟩) (es.length + 2) c1)])
      (fun q => [Own (some ⟨gC, 0, none⟩) cC 5 1 R.length (enc R), Cells gx 74 (rC x (.slice (some ⟨gC, 0, none⟩) R.length cC) (.slice (some ⟨ge, 0, none⟩) (es.length + 2) c1) false bl), Own (some ⟨ge, 0, none⟩) c1 80 3 (es.length + 2) (entC ee)])
      (fun q => q.1 ≤ es.length + 2) (0, undef, undef, undef, undef) (Nat.zero_le _) rfl (by repeat constructor) (List.Perm.refl _) ?_
    rintro ⟨i, w7, w8, w10, w11⟩ hi again
    dsimp only at hi again ⊢
    by_cases hlt : i < es.length + 2
    · obtain ⟨e, he⟩ : ∃ e, ee[i]? = some e := ⟨_, List.getElem?_eq_getElem (by omega)⟩
      have hel := hsl' e (List.mem_of_getElem? he)
      refine walk ?_
      refine y_loadS (vs := entC ee) (us := [.string (str e.1), .int .u64 (e.2.1 : Int), .int .u64 (e.2.2 : Int)]) (i * 3) (entC_get ee i e he) ?_
      refine walk ?_
      refine y_alloc fun g8 => ?_
      refine walk ?_
      refine e_roundsK (ι := Nat × Value) (fun q => i - q.1)
        (fun q => [ptrV vg, ptrV gx, .int .u64 (par : Int), undef, undef, undef, .slice (some ⟨gC, o, none⟩) ([] : List UInt8).length c, .int .i64 (i : Nat), ptrV g8, undef, q.2, w11])
        (fun q => [(184, .int .i64 (q.1 : Nat)), (183, .int .i64 (i : Nat)), (182, .slice (some ⟨ge, 0, none⟩) i c1), (172, .int .i64 (i : Nat)), (171, .int .i64 (es.length + 2 : Nat)), (170, .slice (some ⟨ge, 0, none⟩) (es.length + 2) c1)])
        (fun q => [Cells g8 80 [.string (str e.1), .int .u64 (e.2.1 : Int), .int .u64 (e.2.2 : Int)], Own (some ⟨gC, 0, none⟩) cC 5 1 R.length (enc R), Cells gx 74 (rC x (.slice (some ⟨gC, 0, none⟩) R.length cC) (.slice (some ⟨ge, 0, none⟩) (es.length + 2) c1) false bl), Own (some ⟨ge, 0, none⟩) c1 80 3 (es.length + 2) (entC ee)])
        (fun q => q.1 ≤ i) (0, w10) (Nat.zero_le _) rfl (by repeat constructor) (List.Perm.refl _) ?_
      rintro ⟨k, u10⟩ hk again2
      dsimp only at hk again2 ⊢
      by_cases hlk : k < i
      · obtain ⟨f, hf⟩ : ∃ f, ee[k]? = some f := ⟨_, List.getElem?_eq_getElem (by omega)⟩
        have hne : (e.1 != f.1) = true := by
          rw [bne_iff_ne]
          intro h
          have h1 : (ee.map (·.1))[i]? = (ee.map (·.1))[k]? := by rw [List.getElem?_map, List.getElem?_map, he, hf]; simp [h]
          have h2 := (List.getElem?_inj (by simp; omega) hnd).1 h1
          omega
        refine walk ?_
        refine y_loadS (vs := entC ee) (us := [.string (str f.1), .int .u64 (f.2.1 : Int), .int .u64 (f.2.2 : Int)]) (k * 3) (entC_get ee k f hf) ?_
        refine walk ?_
        refine y_alloc fun g10 => ?_
        refine walk ?_
        rw [hne]
        refine y_callq rfl rfl (must_fn (ptrV vg) _ x.num) ?_
        refine walk ?_
        have ag := again2 (k + 1, ptrV g10) (by dsimp only; omega) (by dsimp only; omega)
        dsimp only at ag
        exact ag.toKS (ks := [184, 183, 182, 172, 171, 170]) rfl (by repeat constructor)
      · refine walk ?_
        refine e_roundsK (ι := Nat) (fun q => e.1.length - q)
          (fun q => [ptrV vg, ptrV gx, .int .u64 (par : Int), undef, undef, undef, .slice (some ⟨gC, o, none⟩) ([] : List UInt8).length c, .int .i64 (i : Nat), ptrV g8, undef, u10, .int .i64 (q : Nat)])
          (fun q => [(172, .int .i64 (i : Nat)), (171, .int .i64 (es.length + 2 : Nat)), (170, .slice (some ⟨ge, 0, none⟩) (es.length + 2) c1)])
          (fun q => [Cells g8 80 [.string (str e.1), .int .u64 (e.2.1 : Int), .int .u64 (e.2.2 : Int)], Own (some ⟨gC, 0, none⟩) cC 5 1 R.length (enc R), Cells gx 74 (rC x (.slice (some ⟨gC, 0, none⟩) R.length cC) (.slice (some ⟨ge, 0, none⟩) (es.length + 2) c1) false bl), Own (some ⟨ge, 0, none⟩) c1 80 3 (es.length + 2) (entC ee)])
          (fun q => q ≤ e.1.length) 0 (Nat.zero_le _) rfl (by repeat constructor) (List.Perm.refl _) ?_
        intro q hq again3
        by_cases hlq : q < e.1.length
        · obtain ⟨ch, hch⟩ : ∃ ch, e.1[q]? = some ch := ⟨_, List.getElem?_eq_getElem hlq⟩
          have hch47 : ch.toNat ≠ 47 := fun h => hel.1 (by
            have h1 : ch = 47 := UInt8.toNat_inj.1 h
            rw [← h1]; exact List.mem_of_getElem? hch)
          refine walk ?_
          refine y_callq rfl rfl (must_fn (ptrV vg) _ x.num) ?_
          refine walk ?_
          exact (again3 (q + 1) (by omega) (by omega)).toKS (ks := [172, 171, 170]) rfl (by repeat constructor)
        · refine walk ?_
          have ag := again (i + 1, .int .i64 (i : Nat), ptrV g8, u10, .int .i64 (q : Nat)) (by dsimp only; omega) (by dsimp only; omega)
          dsimp only at ag
          exact ag.toKS (ks := [172, 171, 170]) rfl (by repeat constructor)
    · refine walk ?_
      exact y_end [] rfl ⟨(some ⟨ge, 0, none⟩, c1), trivial, rfl, rfl⟩
end Go.Proofs.YtppkiiomedembaaGreatDoor
namespace Go.Proofs.YtppkiiomedembaaGreatDoor
open Go
set_option maxRecDepth 100000
set_option maxHeartbeats 4000000
def OffO (g o c e n : Nat) (vs : List Value) : HP where
  sat h S := vs.length = n ∧ n ≤ c ∧ ∃ pre junk, pre.length = o ∧ (∀ x, S x ↔ x = g) ∧ h g = some (.cells (pre ++ (vs ++ junk)).toArray e (0, 0)) ∧ o + c ≤ (pre ++ (vs ++ junk)).length
  loc hs he := by
    obtain ⟨h1, h2, pre, junk, h3, hS, hg, hl⟩ := hs
    exact ⟨h1, h2, pre, junk, h3, hS, by rw [he g ((hS g).2 rfl)]; exact hg, hl⟩
  dom {h S x} hs hx := by
    obtain ⟨h1, h2, pre, junk, h3, hS, hg, hl⟩ := hs
    have := (hS x).1 hx; subst this; rw [hg]; simp
theorem OffO.of_own {g c e n : Nat} {vs : List Value} : Tn [Own (some ⟨g, 0, none⟩) c e 1 n vs] (fun _ : Unit => True) (fun _ => [OffO g 0 c e n vs]) := .one fun m S h => by
  obtain ⟨h1, h2, h3, ⟨h4, _⟩ | ⟨g', junk, hA, hS, hg, hl⟩⟩ := h
  · cases h4
  · cases hA
    refine ⟨(), trivial, sats_one ⟨by omega, h2, [], junk, rfl, hS, by simpa using hg, by simpa using Nat.le_of_eq hl.symm⟩⟩
theorem OffO.tail {g o c e n : Nat} {v : Value} {vs : List Value} : Tn [OffO g o (c + 1) e (n + 1) (v :: vs)] (fun _ : Unit => True) (fun _ => [OffO g (o + 1) c e n vs]) := .one fun m S h => by
  obtain ⟨h1, h2, pre, junk, h3, hS, hg, hl⟩ := h
  refine ⟨(), trivial, sats_one ⟨by simpa using h1, by omega, pre ++ [v], junk, by simp [h3], hS, by simpa using hg, by simp at hl ⊢; omega⟩⟩
theorem OffO.done {g o c e : Nat} {v : Value} : Tn [OffO g o c e 1 [v]] (fun _ : Unit => True) (fun _ => [OffO g o 0 e 0 []]) := .one fun m S h => by
  obtain ⟨h1, h2, pre, junk, h3, hS, hg, hl⟩ := h
  exact ⟨(), trivial, sats_one ⟨rfl, Nat.le_refl _, pre, v :: junk, h3, hS, by simpa using hg, by simp at hl ⊢; omega⟩⟩
theorem OffO.cells {g o c e n : Nat} {vs : List Value} {L : List HP} : CellRow (OffO g o c e n vs :: L) g o vs := by
  intro j v hj m S ⟨S1, S2, h1, _⟩
  obtain ⟨_, _, pre, junk, h3, _, hg, _⟩ := h1
  have hjl := (List.getElem?_eq_some_iff.1 hj).1
  refine ⟨_, _, _, hg, ?_⟩
  rw [List.getElem?_toArray, List.getElem?_append_right (by omega), show o + j - pre.length = j by omega, List.getElem?_append_left hjl]
  exact hj
theorem inP_add (xs : List RI) (rs : List RIA) (x : RI) (a : RIA) (h : rs.length = xs.length) : Tn [Own a.A a.c 5 1 x.data.length (enc x.data), Own a.A' a.c' 80 3 x.ents.length (entC x.ents), HP.star (inP xs rs)] (fun _ : Unit => True) (fun _ => [HP.star (inP (xs ++ [x]) (rs ++ [a]))]) := fun m S hS => by
  refine ⟨(), S, trivial, sats_one ?_, fun _ h => h⟩
  show sats (inP (xs ++ [x]) (rs ++ [a])) m S
  rw [inP_app xs rs x a h]
  have h1 : sats ([Own a.A a.c 5 1 x.data.length (enc x.data), Own a.A' a.c' 80 3 x.ents.length (entC x.ents)] ++ [HP.star (inP xs rs)]) m S := hS
  obtain ⟨S1, S2, a1, a2, a3, a4⟩ := sats_append.1 h1
  refine sats_append.2 ⟨S2, S1, sats_one' a2, sats_one a1, fun g h1 h2 => a3 g h2 h1, fun g => (a4 g).trans Or.comm⟩
section
variable {X : Fx} {ops : Array Oper} {cf : Nat → Cls} {k : List Item} {i : Nat} {is : List Nat} {l : List Oper} {loc : List Value} {tmp : List (Nat × Value)} {L F : List HP}
  {d : Option Tmp} {ty : TypeId} {pos : String} {aft : Array Edge} {gd : Option (Nat × Bool)} {locq : Nat → Nat → Nat → List Value} {tmpq : Nat → Nat → Nat → List (Nat × Value)}
theorem y_appQ {t e b n c c' g o g2 o2 : Nat} {z u : Value} {x y : Operand} {vs : List Value} [SlE X.P t e 1 b [z]] (hx : sv loc tmp x = some (.slice (some ⟨g, o, none⟩) n c)) (hy : sv loc tmp y = some (.slice (some ⟨g2, o2, none⟩) 1 c'))
    (hu1 : u.oneCell' = true) (h : ∀ g' o' c', EO X ops cf k is l (locq g' o' c') (tmpq g' o' c') (OffO g' o' c' e (n + 1) (vs ++ [u]) :: F))
    (ht : Take (OffO g o c e n vs) L F := by exact take_) (hr : CellRow F g2 o2 [u] := by first | ((repeat (first | exact CellRow.own | exact CellRow.here | apply CellRow.there)) <;> fail) | fail) (h63 : n + 1 ≤ 1000000000 := by omega) (hby : (n + 1) * b ≤ 140737488355328 := by omega)
    (hp : ∀ g' o' c', Pt loc tmp d (.slice (some ⟨g', o', none⟩) (n + 1) c') (locq g' o' c') (tmpq g' o' c') := by intro _ _ _; first | exact Pt.tmp rfl | exact Pt.none | exact Pt.loc (by repeat constructor))
    (hg : gdv ops loc tmp gd = some true := by rfl) (hd : dOK X.n d = true := by rfl) (hcl : cf i = .any := by rfl) (hq : X.q = false := by rfl) :
    EO X ops cf k (i :: is) (⟨d, .call ⟨.builtin .append, #[x, y], #[t, t]⟩, ty, pos, aft, gd⟩ :: l) loc tmp L :=
  x_any (Rv := fun v L'' => ∃ g' o' c', v = .slice (some ⟨g', o', none⟩) (n + 1) c' ∧ L'' = OffO g' o' c' e (n + 1) (vs ++ [u]) :: F) hg hcl (fun a hrl w0 S0 w hs q => by
    have hs1 := (hs.wat q).perm ht.perm
    generalize wat w q = w1 at hs1 ⊢
    obtain ⟨hut, it, zv, hi, hisz, hib, hizv, hzv⟩ := SlE.out (P := X.P) (T := t) (e := e) (sz := 1) (b := b) (z := [z])
    have hzc : zv.cells = #[z] := by apply Array.ext'; simpa using hzv
    obtain ⟨S, ⟨S1, S2, hS1, hS2, hdis, hun⟩, hin⟩ := hs1.sat
    obtain ⟨hvl, hnc, pre, junk, hpre, hSg, hgc, hlen⟩ := hS1
    have hgc' : w1.heap[g]? = some (.cells (pre ++ (vs ++ junk)).toArray e (0, 0)) := hgc
    have hnews : ∀ j v, [u][j]? = some v → w1.cell? ((⟨g2, o2, none⟩ : Addr).add j) = some v := fun j v hj => by rw [add_at]; exact ((hr j v hj).there).at_ hs1
    by_cases hroom : n + 1 ≤ c
    · have hl2 : (pre ++ (vs ++ junk)).length = pre.length + (vs.length + junk.length) := by simp
      have hst := run_storeCells_at X.P g (o + n) e [u] 0 (pre ++ (vs ++ junk)).toArray w1 hgc' (by simp at hlen ⊢; omega) (fun v hv => by simp at hv; subst hv; exact hu1)
      have hfc := run_firstCells_some (P := X.P) w1 1 1 ⟨g2, o2, none⟩ 1 c' [u] rfl hnews
      have hrun : (Builtin.append_ #[t, t] ty #[.slice (some ⟨g, o, none⟩) n c, .slice (some ⟨g2, o2, none⟩) 1 c']).run X.P w1 = .ok (.slice (some ⟨g, o, none⟩) (n + 1) c) (w1.setRow g ((pre ++ (vs ++ junk)).take (o + n) ++ [u] ++ (pre ++ (vs ++ junk)).drop (o + n + 1)).toArray) := by
        simp only [Nat.add_zero] at hst
        simp [Builtin.append_, run_underlying hut, sizeOf, typeInfo, hi, hisz, Builtin.lenOf, hroom, hfc, Addr.add_lit, hst]
      have hcells : (pre ++ (vs ++ junk)).take (o + n) ++ [u] ++ (pre ++ (vs ++ junk)).drop (o + n + 1) = pre ++ ((vs ++ [u]) ++ junk.drop 1) := by
        rw [← hpre, ← hvl, List.take_append, List.take_of_length_le (by omega), show pre.length + vs.length - pre.length = vs.length by omega, List.take_left, List.drop_append, List.drop_of_length_le (by omega), List.nil_append, show pre.length + vs.length + 1 - pre.length = vs.length + 1 by omega,
          List.drop_append, List.drop_of_length_le (by omega), List.nil_append, show vs.length + 1 - vs.length = 1 by omega]
        simp
      rw [hcells] at hrun
      have hst2 : St false w0 S0 (OffO g o c e (n + 1) (vs ++ [u]) :: F) (w1.setRow g (pre ++ ((vs ++ [u]) ++ junk.drop 1)).toArray) :=
        St.step (M := [OffO g o c e n vs]) (L' := [OffO g o c e (n + 1) (vs ++ [u])]) hs1 rfl rfl rfl (by simp [World.setRow]) fun S' hS' => by
          have h1 := sats_one' hS'
          obtain ⟨_, _, _, _, _, hSg', _⟩ := h1
          refine ⟨fun x hx hnx => setRow_other w1 g x _ (fun e => hnx ((hSg' x).2 e)), S', sats_one ⟨by simp [hvl], hroom, pre, junk.drop 1, hpre, hSg', setRow_heap w1 g _ _ e _ hgc', ?_⟩, fun x hx => .inl hx⟩
          simp at hlen ⊢; omega
      simp [RunN, execOp, resolve, invoke, builtin, hrl.ev hx, hrl.ev hy, hrun]
      rw [hq]
      exact ⟨_, ⟨g, o, c, ⟨⟨rfl, rfl⟩, rfl⟩, rfl⟩, by simpa using hst2⟩
    · have holds : ∀ j v, vs[j]? = some v → w1.cell? ((⟨g, o, none⟩ : Addr).add j) = some v := fun j v hj => by
        rw [add_at]; exact ((OffO.cells (g := g) (o := o) (c := c) (e := e) (n := n) (L := F)) j v hj).at_ hs1
      have hfit : Builtin.nextslicecap (n + 1) c * it.bytes ≤ 281474976710656 := by rw [hib]; exact growslice_fits (by omega) hby
      have hrun := run_append_grow (P := X.P) w1 t ty e it zv hut hi hizv ⟨g, o, none⟩ n c vs (by rw [hisz]; omega) holds ⟨g2, o2, none⟩ 1 c' [u] (by rw [hisz]; rfl) hnews (by omega) (by omega) hfit
      have hge := grownCap_ge w1 (n + 1) c e
      have hst2 : St false w0 S0 (OffO w1.heap.size 0 (grownCap w1 (n + 1) c e) e (n + 1) (vs ++ [u]) :: F) (w1.drew.alloc (.cells (vs.toArray ++ [u].toArray ++ Builtin.zeroCells zv.cells (grownCap w1 (n + 1) c e - (n + 1))) e)) :=
        St.step (M := [OffO g o c e n vs]) (L' := [OffO w1.heap.size 0 (grownCap w1 (n + 1) c e) e (n + 1) (vs ++ [u])]) hs1 rfl rfl rfl (by simp) fun S' hS' => by
          refine ⟨fun x hx hnx => heap_alloc_old w1.drew _ hx, fun x => x = w1.heap.size, sats_one ⟨by simp [hvl], hge, [], (Builtin.zeroCells zv.cells (grownCap w1 (n + 1) c e - (n + 1))).toList, rfl, fun x => Iff.rfl, ?_, ?_⟩, fun x hx => .inr (by omega)⟩
          · refine (heap_alloc_new w1.drew _).trans ?_
            simp
          · simp [hvl, hzc, zeroCells_one]; omega
      simp [RunN, execOp, resolve, invoke, builtin, hrl.ev hx, hrl.ev hy, hrun]
      rw [hq]
      exact ⟨_, ⟨_, _, _, ⟨⟨rfl, rfl⟩, rfl⟩, rfl⟩, by simpa using hst2⟩) hd (fun v L'' ⟨g', o', c'', e1, e2⟩ => by subst e1 e2; exact ⟨_, _, hp g' o' c'', h g' o' c''⟩)
end
end Go.Proofs.YtppkiiomedembaaGreatDoor
namespace Go.Proofs.YtppkiiomedembaaGreatDoor
open Go
set_option maxRecDepth 100000
set_option maxHeartbeats 4000000
attribute [local irreducible] E EO
def boolV (l : List Bool) : List Value := l.map .bool
def natV (l : List Nat) : List Value := l.map fun n : Nat => .int .u64 (n : Int)
theorem natV_len (l : List Nat) : (natV l).length = l.length := by simp [natV]
theorem boolV_len (l : List Bool) : (boolV l).length = l.length := by simp [boolV]
theorem natV_get {l : List Nat} {i n : Nat} (h : l[i]? = some n) : (natV l)[i]? = some (.int .u64 (n : Int)) := by simp [natV, h]
theorem boolV_get {l : List Bool} {i : Nat} {b : Bool} (h : l[i]? = some b) : (boolV l)[i]? = some (.bool b) := by simp [boolV, h]
theorem natV_set (l : List Nat) (i n : Nat) : (natV l).set i (.int .u64 (n : Int)) = natV (l.set i n) := by simp [natV, List.map_set]
theorem boolV_set (l : List Bool) (i : Nat) (b : Bool) : (boolV l).set i (.bool b) = boolV (l.set i b) := by simp [boolV, List.map_set]
structure RS where
  q : List Nat
  seen : List Bool
  par : List Nat
  nms : List Nat
  sub : List Nat
def rsE (n : Nat) (s : RS) (e : List UInt8 × Nat × Nat) : RS :=
  let s1 : RS := { s with nms := s.nms.set e.2.1 (s.nms.getD e.2.1 0 + 1) }
  let s2 : RS := if e.2.2 = 2 then { s1 with sub := s.sub.set n (s.sub.getD n 0 + 1) } else s1
  if s.seen.getD e.2.1 true then s2 else { s2 with q := s.q ++ [e.2.1], seen := s.seen.set e.2.1 true, par := s.par.set e.2.1 n }
def rsOk (img : List UInt8) (it pi n : Nat) : RS → List (List UInt8 × Nat × Nat) → Prop
  | _, [] => True
  | s, e :: r => (e.1 ≠ [46] ∧ e.1 ≠ [46, 46] ∧ 11 ≤ e.2.1 ∧ e.2.1 ≤ pi ∧ it * 4096 + e.2.1 * 256 ≤ img.length ∧ ftN (leAt img (it * 4096 + (e.2.1 - 1) * 256) 2) = e.2.2 ∧ (e.2.2 = 2 → s.seen.getD e.2.1 true = false)) ∧ rsOk img it pi n (rsE n s e) r
structure RSz (s : RS) (m : Nat) : Prop where
  seen : s.seen.length = m
  par : s.par.length = m
  nms : s.nms.length = m
  sub : s.sub.length = m
theorem RSz.step {s : RS} {m n : Nat} (h : RSz s m) (e : List UInt8 × Nat × Nat) : RSz (rsE n s e) m := by
  obtain ⟨h1, h2, h3, h4⟩ := h
  unfold rsE
  dsimp only
  split <;> split <;> exact ⟨by simp [*], by simp [*], by simp [*], by simp [*]⟩
structure RSb (s : RS) (b : Nat) : Prop where
  nms : ∀ i, s.nms.getD i 0 ≤ b
  sub : ∀ i, s.sub.getD i 0 ≤ b
abbrev InoC (v : Vs) (x : RI) (cl' : List Nat) : Prop := Fe Tryz.prog 126 #[ptrV v.vg, .int .u64 (x.num : Int)] [VP v, ImgP v] (fun _ : Option Addr × Nat => True) (fun i => .agg (rC x (.slice i.1 x.data.length i.2) (.slice none 0 0) x.il x.blks).toArray)
      (fun i => [VP { v with cl := cl' }, ImgP v, Own i.1 i.2 5 1 x.data.length (enc x.data)])
inductive RTR (it : Nat) : Nat → Vs → RS → Vs → RS → Prop
  | done {v : Vs} {s : RS} : s.q = [] → RTR it 0 v s v s
  | file {k : Nat} {v v' : Vs} {s s' : RS} {x : RI} {q cl' : List Nat} : s.q = x.num :: q → InoC v x cl' → x.mode < 65536 → ftN x.mode ≠ 2 → x.ents = [] → x.num ≤ v.pi →
      RTR it k { v with cl := cl', inos := v.inos ++ [x] } { s with q := q } v' s' → RTR it (k + 1) v s v' s'
  | dir {k : Nat} {v v' : Vs} {s s' : RS} {x : RI} {q cl' : List Nat} {par : Nat} {es : List (List UInt8 × Nat × Nat)} : s.q = x.num :: q → InoC v x cl' → x.mode < 65536 → ftN x.mode = 2 → x.il = false → x.num ≤ v.pi → s.par[x.num]? = some par → par < 4294967296 → x.ents = ([46], x.num, 2) :: ([46, 46], par, 2) :: es →
      DBs x.data x.ents → 0 < x.data.length → x.data.length ≤ 100000000 → es.length ≤ 100000 → (x.ents.map (·.1)).Nodup → (∀ e ∈ es, 47 ∉ e.1 ∧ e.1.length ≤ 255) → rsOk v.img it v.pi x.num { s with q := q } es →
      RTR it k { v with cl := cl', inos := v.inos ++ [x] } (es.foldl (rsE x.num) { s with q := q }) v' s' → RTR it (k + 1) v s v' s'
theorem rsE_q (n : Nat) (s : RS) (e : List UInt8 × Nat × Nat) : s.q.length ≤ (rsE n s e).q.length := by
  unfold rsE
  dsimp only
  split <;> split <;> simp
theorem rsE_fold_q (n : Nat) : ∀ (es : List (List UInt8 × Nat × Nat)) (s : RS), s.q.length ≤ (es.foldl (rsE n) s).q.length
  | [], s => Nat.le_refl _
  | e :: es, s => Nat.le_trans (rsE_q n s e) (rsE_fold_q n es _)
theorem RTR.qlen {it k : Nat} {v v' : Vs} {s s' : RS} (h : RTR it k v s v' s') : s.q.length ≤ k := by
  induction h with
  | done h => simp [h]
  | file h _ _ _ _ _ _ ih => rw [h]; simpa using ih
  | @dir k v v' s s' x q cl' par es h _ _ _ _ _ _ _ _ _ _ _ _ _ _ _ _ ih =>
    have := rsE_fold_q x.num es { s with q := q }
    rw [h]; simp only [List.length_cons]; dsimp only at this; omega
theorem getD_set_le {l : List Nat} {b i : Nat} (h : ∀ j, l.getD j 0 ≤ b) : ∀ j, (l.set i (l.getD i 0 + 1)).getD j 0 ≤ b + 1 := by
  intro j
  have h1 := h j
  have h2 := h i
  simp only [List.getD_eq_getElem?_getD, List.getElem?_set] at h1 h2 ⊢
  split
  · split
    · simp; omega
    · simp
  · omega
theorem RSb.step {s : RS} {b n : Nat} (h : RSb s b) (e : List UInt8 × Nat × Nat) : RSb (rsE n s e) (b + 1) := by
  obtain ⟨h1, h2⟩ := h
  have a1 := getD_set_le (i := e.2.1) h1
  have a2 := getD_set_le (i := n) h2
  have a3 : ∀ j, s.sub.getD j 0 ≤ b + 1 := fun j => Nat.le_succ_of_le (h2 j)
  unfold rsE
  dsimp only
  split <;> split <;> exact ⟨a1, by assumption⟩
theorem RSb.mono {s : RS} {b c : Nat} (h : RSb s b) (hc : b ≤ c) : RSb s c := ⟨fun i => Nat.le_trans (h.1 i) hc, fun i => Nat.le_trans (h.2 i) hc⟩
theorem getD_some {l : List Nat} {i m : Nat} (h : l.length = m) (hi : i < m) : l[i]? = some (l.getD i 0) := by
  rw [List.getD_eq_getElem?_getD, List.getElem?_eq_getElem (by omega)]; simp
theorem getD_someB {l : List Bool} {i m : Nat} (h : l.length = m) (hi : i < m) : l[i]? = some (l.getD i true) := by
  rw [List.getD_eq_getElem?_getD, List.getElem?_eq_getElem (by omega)]; simp
end Go.Proofs.YtppkiiomedembaaGreatDoor
