/-
  The walks: a file or a directory is created; The walks: the writer's beginning, and parents; Plain facts: paths out of names; The walks: parents are made; The walks: a directory is written; The walks: a directory is written, its names in order. Conditions: none.
-/
import Derived.Test.YtppkiiomedembaaGreatDoorM09
import Derived.Test.YtppkiiomedembaaGreatDoorM08
import Derived.Lib.ConvBytes
set_option linter.unusedVariables false
set_option linter.unusedSimpArgs false
namespace Go.Proofs.YtppkiiomedembaaGreatDoor
open Go
set_option maxRecDepth 100000
set_option maxHeartbeats 4000000
section
variable {X : Fx} {ops : Array Oper} {cf : Nat → Cls} {k : List Item} {i : Nat} {is : List Nat} {l : List Oper} {loc loc' : List Value} {tmp tmp' : List (Nat × Value)} {L F : List HP}
  {d : Option Tmp} {ty : TypeId} {pos : String} {aft : Array Edge} {gd : Option (Nat × Bool)}
theorem y_neN {T T' : Nat} {x y : Operand} {a : Addr} [KTy X.P T 0] (hx : sv loc tmp x = some (.pointer none)) (hy : sv loc tmp y = some (.pointer (some a))) (h : EO X ops cf k is l loc' tmp' L) (hp : Pt loc tmp d (.bool true) loc' tmp' := by exact pt_)
    (hg : gdv ops loc tmp gd = some true := by rfl) (hd : dOK X.n d = true := by rfl) : EO X ops cf k (i :: is) (⟨d, .binOp .neq T x y T', ty, pos, aft, gd⟩ :: l) loc tmp L :=
  x_pure hg (fun A hr w => by
    obtain ⟨e, hu⟩ := KTy.ptr (P := X.P) (T := T)
    have key : ∀ d, (Op.equalIn (d + 1) T (.pointer none) (.pointer (some a))).run X.P w = .ok false w := fun d => by simp [Op.equalIn, run_underlying hu]
    have key2 : (Op.equal T (.pointer none) (.pointer (some a))).run X.P w = .ok false w := key 9999
    simp [execOp, hr.ev hx, hr.ev hy, eqGuard, binOp, key2]) hp hd h
end
attribute [local irreducible] E EO
theorem look_none_upd {ks : List (List UInt8 × Nat)} {c : List UInt8} {g : Nat} (h : look (kidE ks) (str c) = none) : upd (kidE ks) (str c) (ptrV g) = kidE (ks ++ [(c, g)]) := by
  rw [upd_none h]; simp [kidE]
theorem WP.clg (s : Ws) {A : Option Addr} {c p : Nat} {B : List UInt8} {cu : Value} {dwi dmi : Int} (h3 : cu = optV s.cur := by rfl) (h4 : dwi = (s.dw : Int) := by rfl) (h5 : dmi = (s.dm : Int) := by rfl) (h1 : p = 8192 + s.body.length := by rfl) (h2 : B = mkB s.body := by rfl) :
    Tn [Cells s.wg 174 [ptrV s.dg, .slice A s.ids.length c, .string s.cname, cu, .int .i64 (p : Int), .int .i64 dwi, .int .i64 dmi, .nilIface, .bool true, .bool s.inl, .int .i64 ((17179869184 : Nat) : Int), .int .u32 1], Own A c 172 1 s.ids.length (s.ids.map optV), DiskP s.dg p B] (fun _ : Unit => True) (fun _ => [WP s]) := by
  subst h3 h4 h5
  exact WP.cl s h1 h2
theorem startInode_w (s : Ws) (hc : s.cur = none) (nm : ByteArray) (g n : Nat) :
    Fd Tryz.prog 96 #[ptrV s.wg, .string nm, ptrV g, .int .i64 (n : Int)] [WP s] (.tuple #[]) [WP { s with cname := nm, cur := some g, dw := 0, dm := n }] := by
  refine y_fn2 WP.op fun A c _ => ?_
  rw [hc, show optV none = Value.pointer none from rfl]
  exact ((startInode_fn s.wg _ _ _ _ _ _ _ _ _ _ _ nm (some ⟨g, 0, none⟩) n).frame).close (WP.clg { s with cname := nm, cur := some g, dw := 0, dm := n } (cu := ptrV g) (dwi := 0) (dmi := (n : Int)))
theorem createDir_fn (s0 s : Ws) (l0 l : List Nd) (nm q c : List UInt8) (cs : List (List UInt8)) (i k : Nat) (x z : Nd) (ks : List (List UInt8 × Nat)) (gf md ui gi : Nat) (zi : Int)
    (hfin : Fd Tryz.prog 91 #[ptrV s.wg] [WP s0, NodesP l0] .nilIface [WP s, NodesP l])
    (hx : l[i]? = some x) (hz : l[k]? = some z) (hg : getI s.ids 2 = some x.g) (hl : s.ids.length ≤ 100000000) (hnl : nm.length ≤ 100000000) (hnd : noDots nm.length nm) (hcl : clN nm.length nm [47] = 47 :: q) (hq : q.length ≤ 100000000) (hdir : dirP q = slashed cs) (hbase : baseP q = c)
    (hc1 : 1 ≤ c.length) (hc2 : c.length ≤ 255) (hs : ∀ c ∈ cs, 47 ∉ c) (hw : Way l i cs k) (hk : z.kids = some ks) (hm : z.mode &&& 61440 = 16384) (hm2 : z.mode < 65536) (hno : look (kidE ks) (str c) = none) (hlk : z.links < 65000)
    (hmd : md &&& 61440 = 16384) (hmd2 : md < 65536) (hui : ui < 4294967296) (hgi : gi < 4294967296) :
    Fe Tryz.prog 37 #[ptrV s.wg, .string (str nm), ptrV gf] [WP s0, NodesP l0, Cells gf 181 (fileC zi md ui gi (.map none))] (fun _ : Nat => True) (fun _ => .nilIface)
      (fun g => [WP { s with ids := s.ids ++ [some g] }, NodesP (l.set k { z with links := z.links + 1, kids := some (ks ++ [(c, g)]) } ++ [⟨g, s.ids.length + 1, md, ui, gi, 2, 0, 262144, 0, [], [], some []⟩])]) := by
  have hlook := lookup_fn s l nm q c cs i k x z ks false hx hz hg (by omega) hnl hnd hcl hq hdir hbase hc1 hc2 hs hw hk hm hm2 none (by rw [hno]; rfl) (by simp)
  refine fn_of_E' (args := [_, _, _]) 14 _ [_, _, _, undef, undef, undef, undef, undef, undef, undef, undef, undef, undef, undef] Tryz.func37 rfl Tryz.ntmps37 ?_
  refine walk ?_
  refine y_callD rfl rfl hfin ?_
  refine walk ?_
  refine y_callD rfl rfl hlook ?_
  refine walk ?_
  refine y_loadC (v := .int .u32 (z.links : Int)) (.there (NodesP.cell hz 9 _ fun _ => rfl)) ?_
  refine walk ?_
  refine y_tno2 WP.op fun A ca _ => ?_
  refine y_callE rfl rfl (makeDir_fn s.wg s.ids.length ca gf md ui gi A (s.ids.map optV) zi _ _ _ _ _ _ _ _ _ _ _ hl hmd hmd2 hui hgi) fun j _ => ?_
  obtain ⟨g, A', c'⟩ := j
  dsimp only
  refine walk ?_
  refine y_neN rfl rfl ?_
  refine walk ?_
  refine y_tno5 (NodesP.opK hz hk) fun B1 c1 B2 c2 gm _ => ?_
  refine walk ?_
  refine y_mapSet ?_
  rw [look_none_upd hno]
  refine walk ?_
  refine y_tno5 NodeP.op fun B3 c3 B4 c4 gm2 _ => ?_
  dsimp only
  refine walk ?_
  refine y_callq rfl rfl (isDir_fn g md _ hmd2 (Cell.here rfl)) ?_
  rw [hmd]
  refine walk ?_
  refine y_tn (NodeP.clz ⟨g, s.ids.length + 1, md, ui, gi, 2, 0, 262144, 0, [], [], some []⟩ (lk' := ((1 + 1 : Nat) : Int)) (gm := gm2)) fun _ _ => ?_
  refine y_tn (NodesP.clK (l := l) { z with links := z.links + 1, kids := some (ks ++ [(c, g)]) } (List.getElem?_eq_some_iff.1 hz).1 rfl rfl) fun _ _ => ?_
  refine y_tn (NodesP.add (l := l.set k { z with links := z.links + 1, kids := some (ks ++ [(c, g)]) }) ⟨g, s.ids.length + 1, md, ui, gi, 2, 0, 262144, 0, [], [], some []⟩) fun _ _ => ?_
  refine y_tn (WP.close (s := { s with ids := s.ids ++ [some g] }) A' c' (s.ids.length + 1) (s.ids.map optV ++ [ptrV g]) (8192 + s.body.length) (mkB s.body) ⟨by simp, by simp [optV], rfl, rfl⟩) fun _ _ => ?_
  exact y_ret [6] rfl ⟨g, trivial, rfl, rfl⟩
theorem createReg_fn (s0 s : Ws) (l0 l : List Nd) (nm q c : List UInt8) (cs : List (List UInt8)) (i k : Nat) (x z : Nd) (ks : List (List UInt8 × Nat)) (gf m0 md ui gi zi : Nat)
    (hfin : Fd Tryz.prog 91 #[ptrV s.wg] [WP s0, NodesP l0] .nilIface [WP s, NodesP l])
    (hx : l[i]? = some x) (hz : l[k]? = some z) (hg : getI s.ids 2 = some x.g) (hl : s.ids.length ≤ 100000000) (hnl : nm.length ≤ 100000000) (hnd : noDots nm.length nm) (hcl : clN nm.length nm [47] = 47 :: q) (hq : q.length ≤ 100000000) (hdir : dirP q = slashed cs) (hbase : baseP q = c)
    (hc1 : 1 ≤ c.length) (hc2 : c.length ≤ 255) (hs : ∀ c ∈ cs, 47 ∉ c) (hw : Way l i cs k) (hk : z.kids = some ks) (hm : z.mode &&& 61440 = 16384) (hm2 : z.mode < 65536) (hno : look (kidE ks) (str c) = none) (hlk : z.links < 65000) (hcur : s.cur = none)
    (hmd : md = regM m0) (hreg : md &&& 61440 = 32768) (hm02 : m0 < 65536) (hmd2 : md < 65536) (hui : ui < 4294967296) (hgi : gi < 4294967296) (hzi : zi ≤ 100000000) (hil : 136 < zi ∨ s.inl = false) :
    Fe Tryz.prog 37 #[ptrV s.wg, .string (str nm), ptrV gf] [WP s0, NodesP l0, Cells gf 181 (fileC (zi : Int) m0 ui gi (.map none))] (fun _ : Nat => True) (fun _ => .nilIface)
      (fun g => [WP { s with ids := s.ids ++ [some g], cname := str nm, cur := some g, dw := 0, dm := zi }, NodesP (l.set k { z with kids := some (ks ++ [(c, g)]) } ++ [⟨g, s.ids.length + 1, md, ui, gi, 1, 0, 262144, zi, [], [], none⟩])]) := by
  have hlook := lookup_fn s l nm q c cs i k x z ks false hx hz hg (by omega) hnl hnd hcl hq hdir hbase hc1 hc2 hs hw hk hm hm2 none (by rw [hno]; rfl) (by simp)
  have hnd' : m0 &&& 61440 ≠ 16384 := by
    intro h
    unfold regM at hmd
    rw [if_neg (by omega)] at hmd
    rw [hmd] at hreg; omega
  refine fn_of_E' (args := [_, _, _]) 14 _ [_, _, _, undef, undef, undef, undef, undef, undef, undef, undef, undef, undef, undef] Tryz.func37 rfl Tryz.ntmps37 ?_
  refine walk ?_
  refine y_callD rfl rfl hfin ?_
  refine walk ?_
  refine y_callD rfl rfl hlook ?_
  refine walk ?_
  refine y_tno2 WP.op fun A ca _ => ?_
  refine y_callE rfl rfl (makeReg_fn s.wg s.ids.length ca gf m0 md ui gi zi A (s.ids.map optV) s.inl _ _ _ _ _ _ _ _ _ _ hl hmd hreg hm02 hmd2 hui hgi hzi hil) fun j _ => ?_
  obtain ⟨g, ⟨A', c'⟩, gx⟩ := j
  dsimp only
  refine walk ?_
  refine y_neN rfl rfl ?_
  refine walk ?_
  refine y_tno5 (NodesP.opK hz hk) fun B1 c1 B2 c2 gm _ => ?_
  refine walk ?_
  refine y_mapSet ?_
  rw [look_none_upd hno]
  refine walk ?_
  refine y_tno5 NodeP.op fun B3 c3 B4 c4 gm2 _ => ?_
  dsimp only
  refine walk ?_
  refine y_callq rfl rfl (isDir_fn g md _ hmd2 (Cell.here rfl)) ?_
  rw [hreg]
  refine walk ?_
  refine y_tno (NodeP.clz ⟨g, s.ids.length + 1, md, ui, gi, 1, 0, 262144, zi, [], [], none⟩ (lk' := ((0 + 1 : Nat) : Int)) (fl := ((262144 : Nat) : Int)) (gm := gm2)) fun _ _ => ?_
  refine y_tno (NodesP.clK (l := l) { z with kids := some (ks ++ [(c, g)]) } (List.getElem?_eq_some_iff.1 hz).1 rfl rfl) fun _ _ => ?_
  refine y_tno (NodesP.add (l := l.set k { z with kids := some (ks ++ [(c, g)]) }) ⟨g, s.ids.length + 1, md, ui, gi, 1, 0, 262144, zi, [], [], none⟩) fun _ _ => ?_
  refine y_tno (WP.close (s := { s with ids := s.ids ++ [some g] }) A' c' (s.ids.length + 1) (s.ids.map optV ++ [ptrV g]) (8192 + s.body.length) (mkB s.body) ⟨by simp, by simp [optV], rfl, rfl⟩) fun _ _ => ?_
  refine y_callD rfl rfl (startInode_w { s with ids := s.ids ++ [some g] } hcur (str nm) g zi) ?_
  refine walk ?_
  exact y_ret [6] rfl ⟨g, trivial, rfl, rfl⟩
theorem createRegI_fn (s0 s : Ws) (l0 l : List Nd) (nm q c : List UInt8) (cs : List (List UInt8)) (i k : Nat) (x z : Nd) (ks : List (List UInt8 × Nat)) (gf m0 md ui gi zi : Nat)
    (hfin : Fd Tryz.prog 91 #[ptrV s.wg] [WP s0, NodesP l0] .nilIface [WP s, NodesP l])
    (hx : l[i]? = some x) (hz : l[k]? = some z) (hg : getI s.ids 2 = some x.g) (hl : s.ids.length ≤ 100000000) (hnl : nm.length ≤ 100000000) (hnd : noDots nm.length nm) (hcl : clN nm.length nm [47] = 47 :: q) (hq : q.length ≤ 100000000) (hdir : dirP q = slashed cs) (hbase : baseP q = c)
    (hc1 : 1 ≤ c.length) (hc2 : c.length ≤ 255) (hs : ∀ c ∈ cs, 47 ∉ c) (hw : Way l i cs k) (hk : z.kids = some ks) (hm : z.mode &&& 61440 = 16384) (hm2 : z.mode < 65536) (hno : look (kidE ks) (str c) = none) (hlk : z.links < 65000) (hcur : s.cur = none)
    (hmd : md = regM m0) (hreg : md &&& 61440 = 32768) (hm02 : m0 < 65536) (hmd2 : md < 65536) (hui : ui < 4294967296) (hgi : gi < 4294967296) (hzi : zi ≤ 136) (hil : s.inl = true) (G : HP) (hG : PfxP G) :
    Fe Tryz.prog 37 #[ptrV s.wg, .string (str nm), ptrV gf] [WP s0, NodesP l0, Cells gf 181 (fileC (zi : Int) m0 ui gi (.map none)), G] (fun _ : Nat => True) (fun _ => .nilIface)
      (fun g => [WP { s with ids := s.ids ++ [some g], cname := str nm, cur := some g, dw := 0, dm := zi }, NodesP (l.set k { z with kids := some (ks ++ [(c, g)]) } ++ [⟨g, s.ids.length + 1, md, ui, gi, 1, 0, 262144 ||| 268435456, zi, List.replicate zi 0, xinB (List.replicate (zi - 60) 0), none⟩]), G]) := by
  have hlook := lookup_fn s l nm q c cs i k x z ks false hx hz hg (by omega) hnl hnd hcl hq hdir hbase hc1 hc2 hs hw hk hm hm2 none (by rw [hno]; rfl) (by simp)
  have hnd' : m0 &&& 61440 ≠ 16384 := by
    intro h
    unfold regM at hmd
    rw [if_neg (by omega)] at hmd
    rw [hmd] at hreg; omega
  refine fn_of_E' (args := [_, _, _]) 14 _ [_, _, _, undef, undef, undef, undef, undef, undef, undef, undef, undef, undef, undef] Tryz.func37 rfl Tryz.ntmps37 ?_
  refine walk ?_
  refine y_callD rfl rfl hfin ?_
  refine walk ?_
  refine y_callD rfl rfl hlook ?_
  refine walk ?_
  refine y_tno2 WP.op fun A ca _ => ?_
  rw [hil]
  refine y_callE rfl rfl (makeRegI_fn s.wg s.ids.length ca gf m0 md ui gi zi A (s.ids.map optV) G hG _ _ _ _ _ _ _ _ _ _ hl hmd hreg hm02 hmd2 hui hgi hzi) fun j _ => ?_
  obtain ⟨g, ⟨A', c'⟩, gx⟩ := j
  dsimp only
  refine walk ?_
  refine y_neN rfl rfl ?_
  refine walk ?_
  refine y_tno5 (NodesP.opK hz hk) fun B1 c1 B2 c2 gm _ => ?_
  refine walk ?_
  refine y_mapSet ?_
  rw [look_none_upd hno]
  refine walk ?_
  refine y_tno5 NodeP.op fun B3 c3 B4 c4 gm2 _ => ?_
  dsimp only
  refine walk ?_
  refine y_callq rfl rfl (isDir_fn g md _ hmd2 (Cell.here rfl)) ?_
  rw [hreg]
  refine walk ?_
  refine y_tno (NodeP.clz ⟨g, s.ids.length + 1, md, ui, gi, 1, 0, 262144 ||| 268435456, zi, List.replicate zi 0, xinB (List.replicate (zi - 60) 0), none⟩ (lk' := ((0 + 1 : Nat) : Int)) (fl := ((262144 ||| 268435456 : Nat) : Int)) (gm := gm2)) fun _ _ => ?_
  refine y_tno (NodesP.clK (l := l) { z with kids := some (ks ++ [(c, g)]) } (List.getElem?_eq_some_iff.1 hz).1 rfl rfl) fun _ _ => ?_
  refine y_tno (NodesP.add (l := l.set k { z with kids := some (ks ++ [(c, g)]) }) ⟨g, s.ids.length + 1, md, ui, gi, 1, 0, 262144 ||| 268435456, zi, List.replicate zi 0, xinB (List.replicate (zi - 60) 0), none⟩) fun _ _ => ?_
  refine y_tno (WP.close (s := { s with ids := s.ids ++ [some g] }) A' c' (s.ids.length + 1) (s.ids.map optV ++ [ptrV g]) (8192 + s.body.length) (mkB s.body) ⟨by simp, by simp [optV], rfl, rfl⟩) (fun _ _ => ?_) (by dsimp only [wsL, wsC]; rw [hil]; exact sub_)
  refine y_callD rfl rfl (startInode_w { s with ids := s.ids ++ [some g] } hcur (str nm) g zi) ?_
  refine walk ?_
  rw [hil]
  exact y_ret [6] rfl ⟨g, trivial, rfl, rfl⟩
end Go.Proofs.YtppkiiomedembaaGreatDoor
namespace Go.Proofs.YtppkiiomedembaaGreatDoor
open Go
set_option maxRecDepth 100000
set_option maxHeartbeats 4000000
section
variable {X : Fx} {ops : Array Oper} {cf : Nat → Cls} {k : List Item} {i : Nat} {is : List Nat} {l : List Oper} {loc : List Value} {tmp : List (Nat × Value)} {L F : List HP}
  {d : Option Tmp} {ty : TypeId} {pos : String} {aft : Array Edge} {gd : Option (Nat × Bool)} {locf : Nat → List Value} {tmpf : Nat → List (Nat × Value)}
theorem y_makeC {t e b n c : Nat} {z : Value} {K K' : IntKind} {x y : Operand} {p q : Int} [SlE X.P t e 1 b [z]] [hv : NatV p n] [hw : NatV q c] (hx : sv loc tmp x = some (.int K p)) (hy : sv loc tmp y = some (.int K' q)) (hnc : n ≤ c) (hb : b * c ≤ 281474976710656) (hc : c ≤ 1000000000)
    (h : ∀ g, EO X ops cf k is l (locf g) (tmpf g) (Own (some ⟨g, 0, none⟩) c e 1 n (List.replicate n z) :: L))
    (hp : ∀ g, Pt loc tmp d (.slice (some ⟨g, 0, none⟩) n c) (locf g) (tmpf g) := by intro g; first | exact Pt.tmp rfl | exact Pt.none | exact Pt.loc (by repeat constructor))
    (hg : gdv ops loc tmp gd = some true := by rfl) (hd : dOK X.n d = true := by rfl) (hcl : (cf i).news = true := by rfl) (hq : X.q = false := by rfl) :
    EO X ops cf k (i :: is) (⟨d, .makeSlice t x y, ty, pos, aft, gd⟩ :: l) loc tmp L :=
  x_new (Rv := fun v L'' => ∃ g, v = .slice (some ⟨g, 0, none⟩) n c ∧ L'' = Own (some ⟨g, 0, none⟩) c e 1 n (List.replicate n z) :: L) hg hcl (fun a hrl w0 S0 w hs r => by
    rw [hv.h] at hx
    rw [hw.h] at hy
    obtain ⟨hu, j, zv, hj, hjs, hjb, hjz, hzv⟩ := SlE.out (P := X.P) (T := t) (e := e) (sz := 1) (b := b) (z := [z])
    have hzc : zv.cells = #[z] := by apply Array.ext'; simpa using hzv
    have hrun := run_make (P := X.P) (wat w r) t e j zv hu hj hjz K K' n c (by omega) (by omega) (by rw [hjb]; omega) (by omega)
    rw [hzc, hjs, Nat.mul_one, madeCells_one] at hrun
    simp only [Int.toNat_natCast] at hrun
    have h1 := (hs.wat r).made e 1 n c (List.replicate c z) (by simp) hnc (by simp only [maxLen]; omega)
    simp [RunN, execOp, hrl.ev hx, hrl.ev hy, hrun]
    rw [hq]
    simp only [Nat.mul_one] at h1
    rw [List.take_replicate, Nat.min_eq_left hnc] at h1
    exact ⟨Ext.alloc _ _, by simpa using h1⟩) hd (fun v L'' ⟨g, e1, e2⟩ => by subst e1 e2; exact ⟨_, _, hp g, h g⟩)
end
theorem EO.eqL {X : Fx} {ops : Array Oper} {cf : Nat → Cls} {k : List Item} {is : List Nat} {l : List Oper} {loc : List Value} {tmp : List (Nat × Value)} {L L' : List HP} (hL : L = L') (h : EO X ops cf k is l loc tmp L') : EO X ops cf k is l loc tmp L := hL ▸ h
theorem E.eqL {X : Fx} {k : List Item} {loc : List Value} {tmp : List (Nat × Value)} {L L' : List HP} (hL : L = L') (h : E X k loc tmp L') : E X k loc tmp L := hL ▸ h
attribute [local irreducible] E EO
abbrev lfN : List UInt8 := [108, 111, 115, 116, 43, 102, 111, 117, 110, 100]
theorem NodesP.one (x : Nd) : Tn [NodeP x] (fun _ : Unit => True) (fun _ => [NodesP [x]]) := Tn.close
abbrev ws0 (wg dg : Nat) (il : Bool) (g2 : Nat) : Ws := ⟨wg, dg, [none, some g2, none, none, none, none, none, none, none, none], str [], none, 0, 0, il, []⟩
abbrev ws1 (wg dg : Nat) (il : Bool) (g2 g11 : Nat) : Ws := ⟨wg, dg, [none, some g2, none, none, none, none, none, none, none, none, some g11], str [], none, 0, 0, il, []⟩
abbrev nds1 (g2 g11 : Nat) : List Nd := [⟨g2, 2, 16877, 0, 0, 3, 0, 262144, 0, [], [], some [(lfN, g11)]⟩, ⟨g11, 11, 16832, 0, 0, 2, 0, 262144, 0, [], [], some []⟩]
theorem init_fn (wg dg : Nat) (il : Bool) :
    Fe Tryz.prog 150 #[ptrV wg] [Cells wg 174 [ptrV dg, .slice none 0 0, .string (str []), .pointer none, .int .i64 0, .int .i64 0, .int .i64 0, .nilIface, .bool false, .bool il, .int .i64 ((17179869184 : Nat) : Int), .int .u32 0], DiskP dg 0 []] (fun _ : Nat × Nat => True) (fun _ => .nilIface)
      (fun i => [WP (ws1 wg dg il i.1 i.2), NodesP (nds1 i.1 i.2)]) := by
  refine fn_of_E' (args := [_]) 8 _ [_, undef, undef, undef, undef, undef, undef, undef] Tryz.func150 rfl Tryz.ntmps150 ?_
  refine walk ?_
  refine y_makeC rfl rfl (by omega) (by omega) (by omega) fun gi => ?_
  refine walk ?_
  refine y_boxA rfl fun gf => ?_
  refine walk ?_
  refine EO.eqL (L' := [Cells gf 181 (fileC 0 16877 0 0 (.map none)), Own (some ⟨gi, 0, none⟩) 32 172 1 1 [.pointer none], _, _]) rfl ?_
  refine y_callE rfl rfl (makeDir_fn wg 1 32 gf 16877 0 0 (some ⟨gi, 0, none⟩) [.pointer none] 0 _ _ _ _ _ _ _ _ _ _ _ (by omega) (by decide) (by omega) (by omega) (by omega)) fun j _ => ?_
  obtain ⟨g2, A', c'⟩ := j
  dsimp only
  refine y_tno5 NodeP.op fun B3 c3 B4 c4 gm2 _ => ?_
  dsimp only
  refine walk ?_
  refine x_appZ (m := 8) rfl rfl rfl take_ rfl (by simp [maxLen]) (by omega) fun A2 c2 => ⟨_, _, pt_, ?_⟩
  refine walk ?_
  rw [show ((((17179869184 - 1) / 4096 + 1 - 1) / 32768 + 1 - 1) / 128 + 1 : Nat) = 1 from rfl]
  refine y_callD rfl rfl (seekBlock_fn wg dg 0 (1 + 1) [] _ _ _ _ _ _ _ _ _ _ (by omega)) ?_
  refine walk ?_
  refine y_boxA rfl fun gf2 => ?_
  refine walk ?_
  refine EO.eqL (L' := [Cells gf2 181 (fileC 0 16832 0 0 (.map none)), Cells wg 174 [ptrV dg, .slice A2 10 c2, .string (str []), optV none, .int .i64 ((8192 + ([] : List UInt8).length : Nat) : Int), .int .i64 ((0 : Nat) : Int), .int .i64 ((0 : Nat) : Int), .nilIface, .bool true, .bool il, .int .i64 ((17179869184 : Nat) : Int), .int .u32 1], DiskP dg (8192 + ([] : List UInt8).length) (mkB []), Own A2 c2 172 1 10 ([none, some g2, none, none, none, none, none, none, none, none].map optV), _, _, _, _]) rfl ?_
  refine y_tno (NodeP.clz ⟨g2, 2, 16877, 0, 0, 2, 0, 262144, 0, [], [], some []⟩ (lk' := ((1 + 1 : Nat) : Int)) (gm := gm2)) fun _ _ => ?_
  refine y_tno (NodesP.one ⟨g2, 2, 16877, 0, 0, 2, 0, 262144, 0, [], [], some []⟩) fun _ _ => ?_
  refine y_tno (WP.close (s := ws0 wg dg il g2) A2 c2 10 ([none, some g2, none, none, none, none, none, none, none, none].map optV) (8192 + ([] : List UInt8).length) (mkB []) ⟨rfl, rfl, rfl, rfl⟩) fun _ _ => ?_
  refine y_callE rfl rfl (createDir_fn (ws0 wg dg il g2) (ws0 wg dg il g2) [⟨g2, 2, 16877, 0, 0, 2, 0, 262144, 0, [], [], some []⟩] [⟨g2, 2, 16877, 0, 0, 2, 0, 262144, 0, [], [], some []⟩] lfN lfN lfN [] 0 0 _ _ [] gf2 16832 0 0 0
    ((finish0_w (ws0 wg dg il g2) rfl).frame) rfl rfl rfl (by simp [ws0]) (by simp) (by simp [noDots, headP]) (by simp [clN, headP]) (by simp) rfl rfl (by simp) (by simp) (by simp) .here rfl (by show (16877 : Nat) &&& 61440 = 16384; decide) (by show (16877 : Nat) < 65536; omega) rfl (by show (2 : Nat) < 65000; omega) (by decide) (by omega) (by omega) (by omega)) fun g _ => ?_
  refine walk ?_
  refine EO.eqL (L' := [WP (ws1 wg dg il g2 g), NodesP (nds1 g2 g)]) rfl ?_
  refine y_loadC (v := .nilIface) (WP.cell 7 _ fun _ => rfl) ?_
  refine walk ?_
  exact y_ret [2] rfl ⟨(g2, g), trivial, rfl, rfl⟩
theorem finishN_fn (wg dg : Nat) (il : Bool) :
    Fe Tryz.prog 91 #[ptrV wg] [Cells wg 174 [ptrV dg, .slice none 0 0, .string (str []), .pointer none, .int .i64 0, .int .i64 0, .int .i64 0, .nilIface, .bool false, .bool il, .int .i64 ((17179869184 : Nat) : Int), .int .u32 0], DiskP dg 0 []] (fun _ : Nat × Nat => True) (fun _ => .nilIface)
      (fun i => [WP (ws1 wg dg il i.1 i.2), NodesP (nds1 i.1 i.2)]) := by
  refine fn_of_E' (args := [_]) 5 _ [_, undef, undef, undef, undef] Tryz.func91 rfl Tryz.ntmps91 ?_
  refine walk ?_
  refine y_callE rfl rfl (init_fn wg dg il) fun j _ => ?_
  refine walk ?_
  refine y_loadC (v := .pointer none) (WP.cell 3 _ fun _ => rfl) ?_
  refine walk ?_
  exact y_ret [2] rfl ⟨j, trivial, rfl, rfl⟩
end Go.Proofs.YtppkiiomedembaaGreatDoor
namespace Go.Proofs.YtppkiiomedembaaGreatDoor
open Go
def good (c : List UInt8) : Prop := c ≠ [] ∧ 47 ∉ c ∧ c ≠ [46] ∧ c ≠ [46, 46]
end Go.Proofs.YtppkiiomedembaaGreatDoor
namespace Go.Proofs.YtppkiiomedembaaGreatDoor
open Go
set_option maxRecDepth 100000
set_option maxHeartbeats 4000000
attribute [local irreducible] E EO
def Grows (l l' : List Nd) : Prop := ∀ (j : Nat) (x : Nd), l[j]? = some x → ∃ x' : Nd, l'[j]? = some x' ∧ x'.g = x.g ∧ ∀ ks : List (List UInt8 × Nat), x.kids = some ks → ∃ ks' : List (List UInt8 × Nat), x'.kids = some ks' ∧ ∀ c p, look (kidE ks) c = some p → look (kidE ks') c = some p
theorem Way.grows {l l' : List Nd} {i k : Nat} {cs : List (List UInt8)} (h : Way l i cs k) (hg : Grows l l') : Way l' i cs k := by
  induction h with
  | here => exact .here
  | step h1 h2 h3 h4 _ ih =>
    obtain ⟨x', a1, a2, a3⟩ := hg _ _ h1
    obtain ⟨y', b1, b2, _⟩ := hg _ _ h4
    obtain ⟨ks', c1, c2⟩ := a3 _ h2
    exact .step a1 c1 (by rw [b2]; exact c2 _ _ h3) b1 ih
abbrev addD (l : List Nd) (k : Nat) (z : Nd) (ks : List (List UInt8 × Nat)) (c : List UInt8) (g num md ui gi : Nat) : List Nd :=
  l.set k { z with links := z.links + 1, kids := some (ks ++ [(c, g)]) } ++ [⟨g, num, md, ui, gi, 2, 0, 262144, 0, [], [], some []⟩]
def mpL (md ui gi : Nat) : List Nd → Nat → Nat → List (List UInt8 × Nat) → List Nd
  | l, _, _, [] => l
  | l, k, num, (c, g) :: r => match l[k]? with
    | some z => mpL md ui gi (addD l k z (z.kids.getD []) c g num md ui gi) l.length (num + 1) r
    | none => l
structure MpI where
  l : List Nd
  k : Nat
  z : Nd
  ks : List (List UInt8 × Nat)
  dn : List (List UInt8)
  rm : List (List UInt8)
  gs : List Nat
  y : Nd
  u11 : Value
  u12 : Value
  u13 : Value
  u14 : Value
  u15 : Value
def MpI.ok (q : MpI) (s : Ws) (l : List Nd) (x : Nd) (names : List (List UInt8)) : Prop :=
  q.dn ++ q.rm = names ∧ q.l[q.k]? = some q.z ∧ q.z.kids = some q.ks ∧ Way q.l 0 q.dn q.k ∧ q.l[0]? = some q.y ∧ q.y.g = x.g ∧ (∀ c ∈ q.rm.head?, look (kidE q.ks) (str c) = none) ∧
  (q.z.mode = x.mode ∧ q.z.uid = x.uid ∧ q.z.gid = x.gid ∧ q.z.links ≤ 60000) ∧ q.gs.length = q.dn.length ∧
  ∀ gr, mpL x.mode x.uid x.gid q.l q.k (s.ids.length + q.gs.length + 1) (q.rm.zip gr) = mpL x.mode x.uid x.gid l 0 (s.ids.length + 1) (names.zip (q.gs ++ gr))
end Go.Proofs.YtppkiiomedembaaGreatDoor
namespace Go.Proofs.YtppkiiomedembaaGreatDoor
open Go
set_option maxRecDepth 100000
set_option maxHeartbeats 4000000
attribute [local irreducible] E EO
def Ice (g : Nat) (bs : List UInt8) : HP where
  sat h S := (∀ x, S x ↔ x = g) ∧ ∃ e fr junk, h g = some (.cells (enc bs ++ junk).toArray e fr)
  loc hs he := ⟨hs.1, by rw [he _ ((hs.1 _).2 rfl)]; exact hs.2⟩
  dom {h S x} hs hx := by have := (hs.1 x).1 hx; subst this; obtain ⟨e, fr, junk, h⟩ := hs.2; rw [h]; simp
theorem Rd.ice {g : Nat} {bs : List UInt8} : Rd [Ice g bs] (some ⟨g, 0, none⟩) bs.length 1 (enc bs) := ⟨by rw [enc_len]; omega, .inr ⟨g, 0, rfl, by
  intro j v hj mm S hS
  simp only [Nat.zero_add]
  obtain ⟨_, e, fr, junk, hg⟩ := sats_one' hS
  refine ⟨_, _, _, hg, ?_⟩
  have := (List.getElem?_eq_some_iff.1 hj).1
  simp only [List.getElem?_toArray]
  rw [List.getElem?_append_left this, hj]⟩⟩
theorem Rd.zeros4 {g t m : Nat} (hm : m ≤ 4) : Rd [Cells g t [.int .u8 0, .int .u8 0, .int .u8 0, .int .u8 0]] (some ⟨g, 0, none⟩) m 1 (enc (List.replicate m 0)) := ⟨by rw [enc_len, List.length_replicate]; omega, .inr ⟨g, 0, rfl, by
  intro j v hj mm S hS
  simp only [Nat.zero_add]
  obtain ⟨_, hg⟩ := sats_one' hS
  refine ⟨_, _, _, hg, ?_⟩
  rw [enc_zeros] at hj
  obtain ⟨h1, h2⟩ := List.getElem?_eq_some_iff.1 hj
  rw [List.length_replicate] at h1
  rw [List.getElem_replicate] at h2
  subst h2
  rcases (show j = 0 ∨ j = 1 ∨ j = 2 ∨ j = 3 by omega) with rfl | rfl | rfl | rfl <;> rfl⟩⟩
section ops
variable {X : Fx} {ops : Array Oper} {cf : Nat → Cls} {k : List Item} {i : Nat} {is : List Nat} {l : List Oper} {loc loc' : List Value} {tmp tmp' : List (Nat × Value)} {L L' F : List HP}
  {d : Option Tmp} {ty : TypeId} {pos : String} {aft : Array Edge} {gd : Option (Nat × Bool)}
theorem y_bytes {S T e : Nat} {x : Operand} {bs : List UInt8} {locf : Nat → Nat → List Value} {tmpf : Nat → Nat → List (Nat × Value)} [StrTy X.P S] [SlTy X.P T e 1] [hI : IntTy X.P e .u8] (hx : sv loc tmp x = some (.string (str bs)))
    (h : ∀ g c, EO X ops cf k is l (locf g c) (tmpf g c) (Ice g bs :: L))
    (hp : ∀ g c, Pt loc tmp d (.slice (some ⟨g, 0, none⟩) bs.length c) (locf g c) (tmpf g c) := by intro g c; first | exact Pt.tmp rfl | exact Pt.none | exact Pt.loc (by repeat constructor))
    (hg : gdv ops loc tmp gd = some true := by rfl) (hd : dOK X.n d = true := by rfl) (hcl : cf i = .any := by rfl) (hq : X.q = false := by rfl) : EO X ops cf k (i :: is) (⟨d, .convert S T x, ty, pos, aft, gd⟩ :: l) loc tmp L :=
  x_any (Rv := fun v L'' => ∃ g c, v = .slice (some ⟨g, 0, none⟩) bs.length c ∧ L'' = Ice g bs :: L) hg hcl (fun a hrl w0 S0 w hs q => by
    obtain ⟨hu, _⟩ := SlTy.out (P := X.P) (T := T) (e := e) (sz := 1)
    have hu' := (inferInstance : StrTy X.P S).h
    have he := IntTy.out (P := X.P) (T := e) (K := .u8)
    have hrun := Go.Lib.run_convert_string_bytes (P := X.P) (wat w q) S T e (str bs) hu' hu he
    have h1 : St false w0 S0 ([Ice w.heap.size bs] ++ L) (Go.Lib.bytesWorld (wat w q) e (str bs)) := by
      refine St.step (M := []) (L' := [Ice w.heap.size bs]) (F := L) (hs.wat q) rfl rfl rfl (by rw [Go.Lib.bytesWorld_size]; exact Nat.le_succ _) fun S hS => ⟨fun x hx _ => Go.Lib.bytesWorld_at_old (wat w q) e (str bs) x hx, fun x => x = w.heap.size, ?_, fun x hx => .inr (by rw [hx]; exact Nat.le_refl _)⟩
      have hcell : Go.Lib.bytesCells (wat w q) e (str bs) = (enc bs ++ List.replicate (grownCap (wat w q) (str bs).size 0 e - (str bs).size) (Value.int .u8 0)).toArray := by
        apply Array.ext'
        simp [Go.Lib.bytesCells, enc, str]
      refine sats_one ⟨fun _ => Iff.rfl, e, ((Go.Lib.bytesCells (wat w q) e (str bs)).size, (Go.Lib.bytesCells (wat w q) e (str bs)).size + 1), List.replicate (grownCap (wat w q) (str bs).size 0 e - (str bs).size) (.int .u8 0), ?_⟩
      rw [← hcell]
      exact Go.Lib.bytesWorld_at_new (wat w q) e (str bs)
    simp [RunN, execOp, hrl.ev hx, hrun, str_size]
    rw [hq]
    exact h1) hd (fun v L'' ⟨g, c, e1, e2⟩ => by subst e1 e2; exact ⟨_, _, hp g c, h g c⟩)
end ops
def ftN (md : Nat) : Nat := if md &&& 61440 = 32768 then 1 else if md &&& 61440 = 16384 then 2 else if md &&& 61440 = 8192 then 3 else if md &&& 61440 = 24576 then 4 else if md &&& 61440 = 4096 then 5 else if md &&& 61440 = 49152 then 6 else if md &&& 61440 = 40960 then 7 else 0
theorem ftN_lt (md : Nat) : ftN md < 256 := by unfold ftN; repeat' split <;> try omega
theorem mft_fn (md : Nat) (h : md < 65536) : Qn Tryz.prog 198 #[.int .u16 (md : Int)] [] (.int .u8 (ftN md : Nat)) := by
  refine fn_of_E' (args := [_]) 3 _ [_, undef, undef] Tryz.func198 rfl Tryz.ntmps198 ?_
  by_cases h1 : md &&& 61440 = 32768
  · refine walk ?_
    refine y_ret [2] rfl ?_
    simp [packV, ftN, h1]
  by_cases h2 : md &&& 61440 = 16384
  · refine walk ?_
    refine y_ret [2] rfl ?_
    simp [packV, ftN, h1, h2]
  by_cases h3 : md &&& 61440 = 8192
  · refine walk ?_
    refine y_ret [2] rfl ?_
    simp [packV, ftN, h1, h2, h3]
  by_cases h4 : md &&& 61440 = 24576
  · refine walk ?_
    refine y_ret [2] rfl ?_
    simp [packV, ftN, h1, h2, h3, h4]
  by_cases h5 : md &&& 61440 = 4096
  · refine walk ?_
    refine y_ret [2] rfl ?_
    simp [packV, ftN, h1, h2, h3, h4, h5]
  by_cases h6 : md &&& 61440 = 49152
  · refine walk ?_
    refine y_ret [2] rfl ?_
    simp [packV, ftN, h1, h2, h3, h4, h5, h6]
  by_cases h7 : md &&& 61440 = 40960
  · refine walk ?_
    refine y_ret [2] rfl ?_
    simp [packV, ftN, h1, h2, h3, h4, h5, h6, h7]
  refine walk ?_
  refine y_ret [2] rfl ?_
  simp [packV, ftN, h1, h2, h3, h4, h5, h6, h7]
theorem WriteN_w (s : Ws) (l : List Nd) (k : Nat) (x : Nd) (bs : List UInt8) (X : Option Addr) (m cx : Nat) (M : HP) (hx : l[k]? = some x) (hr : Rd [M] X m 1 (enc bs)) (hm : bs.length = m) (hcur : s.cur = some x.g) (hfl : x.flags &&& 268435456 = 0) (hf2 : x.flags < 4294967296) (hd : s.dw + m ≤ s.dm) (hdm : s.dm ≤ 9223372036854775807) (hw : s.dw ≤ 1000000000) (hb : s.body.length + m ≤ 1000000000) :
    Fd Tryz.prog 39 #[ptrV s.wg, .slice X m cx] [WP s, NodesP l, M] (.tuple #[.int .i64 m, .nilIface])
      [WP { s with dw := s.dw + m, body := s.body ++ bs }, NodesP l, M] := by
  rcases Nat.eq_zero_or_pos m with rfl | hpos
  · have h0 : bs = [] := List.length_eq_zero_iff.1 hm
    subst h0
    rw [List.append_nil, Nat.add_zero]
    exact Write0_w s.wg X cx _
  · refine y_fn (NodesP.open hx) fun _ _ => ?_
    have h := ((WriteP_w s x bs X m cx M hr hm hpos hcur hfl hf2 hd hdm hw hb).frame (L := [NodeP x, NodesP (l.eraseIdx k), WP s, M])).close (NodesP.close x (List.getElem?_eq_some_iff.1 hx).1) (M' := [WP { s with dw := s.dw + m, body := s.body ++ bs }, NodesP (l.set k x), M])
    rw [set_same hx] at h
    exact h
def padD (n : Nat) : List UInt8 := leB 4 0 ++ leB 2 n ++ leB 1 0 ++ leB 1 0 ++ List.replicate (n - 8) 0
theorem fin_fn (s : Ws) (l : List Nd) (k : Nat) (x : Nd) (gl gw n : Nat) (hx : l[k]? = some x) (hn : 12 ≤ n) (hn2 : n ≤ 4096) (hcur : s.cur = some x.g) (hfl : x.flags &&& 268435456 = 0) (hf2 : x.flags < 4294967296) (hdm : s.dm = 9223372036854775807) (hw : s.dw ≤ 100000000) (hb : s.body.length ≤ 100000000) :
    Fd Tryz.prog 195 #[ptrV gl, ptrV gw] [Cells gl 3 [.int .i64 (n : Int)], Cells gw 113 [ptrV s.wg], WP s, NodesP l] .nilIface
      [Cells gl 3 [.int .i64 4096], Cells gw 113 [ptrV s.wg], WP { s with dw := s.dw + n, body := s.body ++ padD n }, NodesP l] := by
  refine fn_of_E' (args := [_, _]) 6 _ [_, _, undef, undef, undef, undef] Tryz.func195 rfl Tryz.ntmps195 ?_
  refine walk ?_
  refine y_alloc fun ge => ?_
  refine walk ?_
  refine y_callS rfl rfl (dirEntryBytes_fn 0 n 0 0 (by omega) (by omega) (by omega) (by omega)) fun g c => ?_
  refine walk ?_
  refine y_callD rfl rfl (WriteN_w s l k x (leB 4 0 ++ leB 2 n ++ leB 1 0 ++ leB 1 0) (some ⟨g, 0, none⟩) 8 c _ hx (Rd.own (e := 5) (c := c) (by simp [enc_len, leB_len])) (by simp [leB_len]) hcur hfl hf2 (by omega) (by omega) (by omega) (by omega)) ?_
  refine walk ?_
  refine y_make rfl rfl fun g2 => ?_
  refine walk ?_
  refine y_callD rfl rfl (WriteN_w { s with dw := s.dw + 8, body := s.body ++ (leB 4 0 ++ leB 2 n ++ leB 1 0 ++ leB 1 0) } l k x (List.replicate (n - 8) 0) (some ⟨g2, 0, none⟩) (n - 8) (n - 8) _ hx (by rw [enc_zeros]; exact Rd.own (e := 5) (c := n - 8) (by simp)) (by simp) hcur hfl hf2 (by dsimp only; omega) (by dsimp only; omega) (by dsimp only; omega) (by simp [leB_len]; omega)) ?_
  dsimp only
  refine walk ?_
  rw [show s.dw + 8 + (n - 8) = s.dw + n by omega, List.append_assoc, show leB 4 0 ++ leB 2 n ++ leB 1 0 ++ leB 1 0 ++ List.replicate (n - 8) 0 = padD n from rfl]
  exact y_ret [2] rfl ⟨rfl, rfl⟩
def rlN (nm : List UInt8) : Nat := (nm.length + 11) / 4 * 4
def entD (num : Nat) (nm : List UInt8) (ft : Nat) : List UInt8 := leB 4 num ++ leB 2 (rlN nm) ++ leB 1 nm.length ++ leB 1 ft ++ nm ++ List.replicate (rlN nm - (8 + nm.length)) 0
def stepD (n num : Nat) (nm : List UInt8) (ft : Nat) : List UInt8 := (if n < rlN nm + 12 then padD n else []) ++ entD num nm ft
def leftD (n : Nat) (nm : List UInt8) : Nat := (if n < rlN nm + 12 then 4096 else n) - rlN nm
theorem rl_and {nm : List UInt8} (h : nm.length ≤ 255) : IntKind.i64.wrap ((BitVec.ofInt IntKind.i64.bits ((8 + nm.length + 3 : Nat) : Int) &&& BitVec.ofInt IntKind.i64.bits (-4)).toNat : Int) = ((rlN nm : Nat) : Int) := by
  have key : (BitVec.ofInt 64 ((8 + nm.length + 3 : Nat) : Int) &&& BitVec.ofInt 64 (-4)).toNat = rlN nm := by
    rw [BitVec.ofInt_natCast, show BitVec.ofInt 64 (-4) = ~~~ (BitVec.ofNat 64 3) by decide, and_not3 _ (by omega), show 8 + nm.length + 3 = nm.length + 11 by omega]
    rfl
  have hb : rlN nm ≤ 1000 := by unfold rlN; omega
  show IntKind.i64.wrap (((BitVec.ofInt 64 ((8 + nm.length + 3 : Nat) : Int) &&& BitVec.ofInt 64 (-4)).toNat : Nat) : Int) = _
  rw [key, wi64 (by omega) (by omega)]
theorem ent_fn (s : Ws) (l : List Nd) (k j : Nat) (x y : Nd) (nm : List UInt8) (num gl gf gw n : Nat) (hx : l[k]? = some x) (hy : l[j]? = some y) (hg : getI s.ids num = some y.g) (hym : y.mode < 65536) (hnum : num < 4294967296) (hil : s.ids.length ≤ 100000000) (hnm : nm.length ≤ 255)
    (hn : 12 ≤ n) (hn2 : n ≤ 4096) (hcur : s.cur = some x.g) (hfl : x.flags &&& 268435456 = 0) (hf2 : x.flags < 4294967296) (hdm : s.dm = 9223372036854775807) (hw : s.dw ≤ 90000000) (hb : s.body.length ≤ 90000000) :
    Fd Tryz.prog 197 #[.int .u32 (num : Int), .string (str nm), ptrV gl, ptrV gf, ptrV gw] [Cells gl 3 [.int .i64 (n : Int)], Cells gf 125 [.func (.func 195) #[] #[ptrV gl, ptrV gw]], Cells gw 113 [ptrV s.wg], WP s, NodesP l] .nilIface
      [Cells gl 3 [.int .i64 (leftD n nm : Nat)], Cells gf 125 [.func (.func 195) #[] #[ptrV gl, ptrV gw]], Cells gw 113 [ptrV s.wg], WP { s with dw := s.dw + (stepD n num nm (ftN y.mode)).length, body := s.body ++ stepD n num nm (ftN y.mode) }, NodesP l] := by
  have hand := rl_and hnm
  have hpadl : ∀ m, (padD m).length = 8 + (m - 8) := fun m => by simp only [padD, List.length_append, leB_len, List.length_replicate]
  have hrl : rlN nm ≤ 264 ∧ 8 + nm.length ≤ rlN nm ∧ rlN nm ≤ 11 + nm.length := by unfold rlN; omega
  refine fn_of_E' (args := [_, _, _, _, _]) 15 _ [_, _, _, _, _, undef, undef, undef, undef, undef, undef, undef, undef, undef, undef] Tryz.func197 rfl Tryz.ntmps197 ?_
  refine walk ?_
  rw [hand]
  by_cases hc : n < rlN nm + 12
  · rw [show decide ((n : Int) < ((rlN nm : Nat) : Int) + 12) = true from decide_eq_true (by omega)]
    refine walk ?_
    refine y_callD rfl rfl (fin_fn s l k x gl gw n hx hn hn2 hcur hfl hf2 hdm (by omega) (by omega)) ?_
    dsimp only
    refine walk ?_
    refine y_callq rfl rfl (getI_fn { s with dw := s.dw + n, body := s.body ++ padD n } num hnum (by first | omega | (dsimp only; omega))) ?_
    try dsimp only
    rw [hg]
    refine walk ?_
    refine y_loadC (v := .int .u16 (y.mode : Int)) (.there <| .there <| .there (NodesP.cell hy 6 _ fun _ => rfl)) ?_
    refine walk ?_
    refine y_callq rfl rfl (mft_fn y.mode hym) ?_
    refine walk ?_
    refine y_alloc fun ge => ?_
    refine walk ?_
    refine y_callS rfl rfl (dirEntryBytes_fn num (rlN nm) nm.length (ftN y.mode) (by omega) (by omega) (by omega) (ftN_lt _)) fun g c => ?_
    refine walk ?_
    refine y_callD rfl rfl (WriteN_w { s with dw := s.dw + n, body := s.body ++ padD n } l k x (leB 4 num ++ leB 2 (rlN nm) ++ leB 1 nm.length ++ leB 1 (ftN y.mode)) (some ⟨g, 0, none⟩) 8 c _ hx (Rd.own (e := 5) (c := c) (by simp [enc_len, leB_len])) (by simp [leB_len]) hcur hfl hf2 (by first | omega | (dsimp only; omega)) (by first | omega | (dsimp only; omega)) (by first | omega | (dsimp only; omega)) (by simp [padD, leB_len] <;> omega)) ?_
    try dsimp only
    refine walk ?_
    refine y_bytes rfl fun g2 c2 => ?_
    refine walk ?_
    refine y_callD rfl rfl (WriteN_w { s with dw := s.dw + n + 8, body := s.body ++ padD n ++ (leB 4 num ++ leB 2 (rlN nm) ++ leB 1 nm.length ++ leB 1 (ftN y.mode)) } l k x nm (some ⟨g2, 0, none⟩) nm.length c2 _ hx Rd.ice rfl hcur hfl hf2 (by first | omega | (dsimp only; omega)) (by first | omega | (dsimp only; omega)) (by first | omega | (dsimp only; omega)) (by have := hpadl n; simp only [List.length_append, hpadl, leB_len] <;> omega)) ?_
    try dsimp only
    refine walk ?_
    refine y_alloc fun gz => ?_
    refine walk ?_
    refine y_callD rfl rfl (WriteN_w { s with dw := s.dw + n + 8 + nm.length, body := s.body ++ padD n ++ (leB 4 num ++ leB 2 (rlN nm) ++ leB 1 nm.length ++ leB 1 (ftN y.mode)) ++ nm } l k x (List.replicate (rlN nm - (8 + nm.length)) 0) (some ⟨gz, 0, none⟩) (rlN nm - (8 + nm.length)) 4 _ hx (Rd.zeros4 (t := 227) (by omega)) (by simp) hcur hfl hf2 (by first | omega | (dsimp only; omega)) (by first | omega | (dsimp only; omega)) (by first | omega | (dsimp only; omega)) (by have := hpadl n; simp only [List.length_append, hpadl, leB_len] <;> omega)) ?_
    try dsimp only
    refine walk ?_
    have e1 : leftD n nm = 4096 - rlN nm := by unfold leftD; rw [if_pos hc]
    have e2 : s.body ++ stepD n num nm (ftN y.mode) = s.body ++ padD n ++ (leB 4 num ++ leB 2 (rlN nm) ++ leB 1 nm.length ++ leB 1 (ftN y.mode)) ++ nm ++ List.replicate (rlN nm - (8 + nm.length)) 0 := by unfold stepD entD; rw [if_pos hc]; simp only [List.append_assoc, List.nil_append]
    have e3 : s.dw + (stepD n num nm (ftN y.mode)).length = s.dw + n + 8 + nm.length + (rlN nm - (8 + nm.length)) := by unfold stepD entD; rw [if_pos hc]; simp only [List.length_append, hpadl, leB_len, List.length_replicate, List.length_nil]; omega
    refine E.eqL (L' := [WP { s with dw := s.dw + (stepD n num nm (ftN y.mode)).length, body := s.body ++ stepD n num nm (ftN y.mode) }, NodesP l, _, _, _, _, Cells gl 3 [.int .i64 (leftD n nm : Nat)], _, _]) (by rw [e1, e2, e3]) ?_
    exact y_ret [7] rfl ⟨rfl, rfl⟩
  · rw [show decide ((n : Int) < ((rlN nm : Nat) : Int) + 12) = false from decide_eq_false (by omega)]
    refine walk ?_
    refine y_callq rfl rfl (getI_fn s num hnum (by first | omega | (dsimp only; omega))) ?_
    try dsimp only
    rw [hg]
    refine walk ?_
    refine y_loadC (v := .int .u16 (y.mode : Int)) (.there <| .there <| .there <| .there (NodesP.cell hy 6 _ fun _ => rfl)) ?_
    refine walk ?_
    refine y_callq rfl rfl (mft_fn y.mode hym) ?_
    refine walk ?_
    refine y_alloc fun ge => ?_
    refine walk ?_
    refine y_callS rfl rfl (dirEntryBytes_fn num (rlN nm) nm.length (ftN y.mode) (by omega) (by omega) (by omega) (ftN_lt _)) fun g c => ?_
    refine walk ?_
    refine y_callD rfl rfl (WriteN_w s l k x (leB 4 num ++ leB 2 (rlN nm) ++ leB 1 nm.length ++ leB 1 (ftN y.mode)) (some ⟨g, 0, none⟩) 8 c _ hx (Rd.own (e := 5) (c := c) (by simp [enc_len, leB_len])) (by simp [leB_len]) hcur hfl hf2 (by first | omega | (dsimp only; omega)) (by first | omega | (dsimp only; omega)) (by first | omega | (dsimp only; omega)) (by simp [padD, leB_len] <;> omega)) ?_
    try dsimp only
    refine walk ?_
    refine y_bytes rfl fun g2 c2 => ?_
    refine walk ?_
    refine y_callD rfl rfl (WriteN_w { s with dw := s.dw + 8, body := s.body ++ (leB 4 num ++ leB 2 (rlN nm) ++ leB 1 nm.length ++ leB 1 (ftN y.mode)) } l k x nm (some ⟨g2, 0, none⟩) nm.length c2 _ hx Rd.ice rfl hcur hfl hf2 (by first | omega | (dsimp only; omega)) (by first | omega | (dsimp only; omega)) (by first | omega | (dsimp only; omega)) (by have := hpadl n; simp only [List.length_append, hpadl, leB_len] <;> omega)) ?_
    try dsimp only
    refine walk ?_
    refine y_alloc fun gz => ?_
    refine walk ?_
    refine y_callD rfl rfl (WriteN_w { s with dw := s.dw + 8 + nm.length, body := s.body ++ (leB 4 num ++ leB 2 (rlN nm) ++ leB 1 nm.length ++ leB 1 (ftN y.mode)) ++ nm } l k x (List.replicate (rlN nm - (8 + nm.length)) 0) (some ⟨gz, 0, none⟩) (rlN nm - (8 + nm.length)) 4 _ hx (Rd.zeros4 (t := 227) (by omega)) (by simp) hcur hfl hf2 (by first | omega | (dsimp only; omega)) (by first | omega | (dsimp only; omega)) (by first | omega | (dsimp only; omega)) (by have := hpadl n; simp only [List.length_append, hpadl, leB_len] <;> omega)) ?_
    try dsimp only
    refine walk ?_
    have e1 : leftD n nm = n - rlN nm := by unfold leftD; rw [if_neg hc]
    have e2 : s.body ++ stepD n num nm (ftN y.mode) = s.body ++ (leB 4 num ++ leB 2 (rlN nm) ++ leB 1 nm.length ++ leB 1 (ftN y.mode)) ++ nm ++ List.replicate (rlN nm - (8 + nm.length)) 0 := by unfold stepD entD; rw [if_neg hc]; simp only [List.append_assoc, List.nil_append]
    have e3 : s.dw + (stepD n num nm (ftN y.mode)).length = s.dw + 8 + nm.length + (rlN nm - (8 + nm.length)) := by unfold stepD entD; rw [if_neg hc]; simp only [List.length_append, hpadl, leB_len, List.length_replicate, List.length_nil]; omega
    refine E.eqL (L' := [WP { s with dw := s.dw + (stepD n num nm (ftN y.mode)).length, body := s.body ++ stepD n num nm (ftN y.mode) }, NodesP l, _, _, _, _, Cells gl 3 [.int .i64 (leftD n nm : Nat)], _, _]) (by rw [e1, e2, e3]) ?_
    exact y_ret [7] rfl ⟨rfl, rfl⟩
end Go.Proofs.YtppkiiomedembaaGreatDoor
namespace Go.Proofs.YtppkiiomedembaaGreatDoor
open Go
set_option maxRecDepth 100000
set_option maxHeartbeats 4000000
attribute [local irreducible] E EO
theorem E.toKS {X : Fx} {k : List Item} {loc loc' : List Value} {tmp tmp' : List (Nat × Value)} {L M F : List HP} {ks : List Nat} (h : E X k loc' tmp' M) (hl : loc = loc') (ht : KeepR tmp ks tmp') (hs : Subs M L F := by exact sub_) : E X k loc tmp L := by
  exact E.some hs (h.toK hl rfl ht)
theorem MapIt.overT {g gm : Nat} {es : Ents} {done : List Nat} : Tn [MapIt g gm es done] (fun _ : Unit => True) (fun _ => [MapS gm es]) := fun m S hS => by
  obtain ⟨S', h1, h2⟩ := MapIt.over (sats_one' hS)
  exact ⟨(), S', trivial, sats_one h1, h2⟩
theorem PutR.of_takeE {L F : List HP} {g C e N a : Nat} {u : Value} {vs : List Value} (ht : Take (Own (some ⟨g, 0, none⟩) C e 1 N vs) L F) (ha : a < vs.length) :
    ∃ L', PutR L g (0 + a * 1) [u] L' ∧ L'.Perm (Own (some ⟨g, 0, none⟩) C e 1 N (vs.set a u) :: F) := by
  induction ht with
  | here =>
    have h : ovw vs (0 + a * 1) [u] = vs.set a u := by
      rw [Nat.zero_add, Nat.mul_one, List.set_eq_take_append_cons_drop, if_pos ha]
      simp [ovw]
    exact ⟨_, .own (by simp; omega), by rw [h]⟩
  | there _ ih =>
    obtain ⟨L', h1, h2⟩ := ih
    exact ⟨_, .there h1, (h2.cons _).trans (List.Perm.swap _ _ _)⟩
section
variable {X : Fx} {ops : Array Oper} {cf : Nat → Cls} {k : List Item} {i : Nat} {is : List Nat} {l : List Oper} {loc : List Value} {tmp : List (Nat × Value)} {L F : List HP}
  {ty : TypeId} {pos : String} {aft : Array Edge} {gd : Option (Nat × Bool)}
theorem y_storeE {T g a C e N : Nat} {p y : Operand} {u : Value} {vs : List Value} [OneCell X.P T] (ha : a < vs.length) (h : EO X ops cf k is l loc tmp (Own (some ⟨g, 0, none⟩) C e 1 N (vs.set a u) :: F))
    (hx : sv loc tmp p = some (.pointer (some ⟨g, 0 + a * 1, none⟩)) := by rfl) (hy : sv loc tmp y = some u := by rfl) (ht : Take (Own (some ⟨g, 0, none⟩) C e 1 N vs) L F := by exact take_) (hu : u.oneCell' = true := by rfl)
    (hg : gdv ops loc tmp gd = some true := by rfl) (hcl : cf i = .any := by rfl) (hq : X.q = false := by rfl) : EO X ops cf k (i :: is) (⟨none, .store T p y, ty, pos, aft, gd⟩ :: l) loc tmp L := by
  obtain ⟨L', h1, h2⟩ := PutR.of_takeE (u := u) ht ha
  exact x_storeR hx hy hu h1 (EO.perm h2 h) hg hcl hq
end
def nmC (cs : List (List UInt8 × Nat)) : List Value := cs.map fun p => .string (str p.1)
theorem nmC_len (cs : List (List UInt8 × Nat)) : (nmC cs).length = cs.length := by simp [nmC]
theorem nmC_snoc (cs : List (List UInt8 × Nat)) (p : List UInt8 × Nat) : nmC (cs ++ [p]) = nmC cs ++ [.string (str p.1)] := by simp [nmC]
def KidOk (s : Ws) (l : List Nd) (ks : List (List UInt8 × Nat)) (nf mf : Nat → Nat) : Prop :=
  ∀ q ∈ ks, look (kidE ks) (str q.1) = some (ptrV q.2) ∧ q.1.length ≤ 255 ∧ ∃ (j : Nat) (y : Nd), l[j]? = some y ∧ y.g = q.2 ∧ y.num = nf q.2 ∧ y.mode = mf q.2 ∧ getI s.ids y.num = some y.g ∧ y.mode < 65536 ∧ y.num < 4294967296
theorem less_fn (s : Ws) (l : List Nd) (k : Nat) (x : Nd) (ks cs : List (List UInt8 × Nat)) (nf mf : Nat → Nat) (gd gc g c i j : Nat) (p q : List UInt8 × Nat) (hx : l[k]? = some x) (hk : x.kids = some ks) (hK : KidOk s l ks nf mf) (hi : cs[i]? = some p) (hj : cs[j]? = some q) (hp : p ∈ ks) (hq : q ∈ ks) (hne : nf p.2 ≠ nf q.2) (hlen : cs.length ≤ 1000000) :
    Qn Tryz.prog 199 #[.int .i64 (i : Int), .int .i64 (j : Int), ptrV gd, ptrV gc] [Cells gd 172 [ptrV x.g], Cells gc 41 [.slice (some ⟨g, 0, none⟩) cs.length c], Own (some ⟨g, 0, none⟩) c 9 1 cs.length (nmC cs), NodesP l] (.bool (decide (nf p.2 < nf q.2))) := by
  obtain ⟨hp1, hp2, jp, yp, hp3, hp4, hp5, hp6, hp7, hp8, hp9⟩ := hK p hp
  obtain ⟨hq1, hq2, jq, yq, hq3, hq4, hq5, hq6, hq7, hq8, hq9⟩ := hK q hq
  have hil := (List.getElem?_eq_some_iff.1 hi).1
  have hjl := (List.getElem?_eq_some_iff.1 hj).1
  refine fn_of_E' (args := [_, _, _, _]) 9 _ [_, _, _, _, undef, undef, undef, undef, undef] Tryz.func199 rfl Tryz.ntmps199 ?_
  have hn1 : (yp.num : Int) ≠ (yq.num : Int) := by rw [hp5, hq5]; omega
  refine walk ?_
  refine y_tno5 (NodesP.opK hx hk) fun A1 c1 A2 c2 gm _ => ?_
  refine walk ?_
  refine y_loadE (a := i) (vs := nmC cs) (v := .string (str p.1)) (by simp [nmC, hi]) ?_
  refine walk ?_
  refine y_lookS hp1 ?_
  refine walk ?_
  refine y_tno (NodesP.clK (l := l) x (List.getElem?_eq_some_iff.1 hx).1 hk rfl) fun _ _ => ?_
  rw [set_same hx, ← hp4]
  refine y_loadC (v := .int .u32 (yp.num : Int)) (NodesP.cell hp3 5 _ fun _ => rfl) ?_
  refine walk ?_
  refine y_tno5 (NodesP.opK hx hk) fun A1 c1 A2 c2 gm _ => ?_
  refine walk ?_
  refine y_loadE (a := j) (vs := nmC cs) (v := .string (str q.1)) (by simp [nmC, hj]) ?_
  refine walk ?_
  refine y_lookS hq1 ?_
  refine walk ?_
  refine y_tno (NodesP.clK (l := l) x (List.getElem?_eq_some_iff.1 hx).1 hk rfl) fun _ _ => ?_
  rw [set_same hx, ← hq4]
  refine y_loadC (v := .int .u32 (yq.num : Int)) (NodesP.cell hq3 5 _ fun _ => rfl) ?_
  refine walk ?_
  refine y_ret [6] rfl ?_
  rw [hp4, hq4, ← hp5, ← hq5]
  simp [packV]
def picks (ks : List (List UInt8 × Nat)) (done : List Nat) : List (List UInt8 × Nat) := done.reverse.map fun j => ks.getD j ([], 0)
theorem picks_len (ks : List (List UInt8 × Nat)) (done : List Nat) : (picks ks done).length = done.length := by simp [picks]
theorem picks_cons (ks : List (List UInt8 × Nat)) (j : Nat) (done : List Nat) : picks ks (j :: done) = picks ks done ++ [ks.getD j ([], 0)] := by simp [picks]
theorem picks_all {ks : List (List UInt8 × Nat)} {done : List Nat} (hd : done.Nodup) (hb : ∀ j ∈ done, j < ks.length) (ha : ∀ j, j < ks.length → j ∈ done) : (picks ks done).Perm ks := by
  have h1 : done.reverse.Perm (List.range ks.length) := by
    refine (List.reverse_perm done).trans ((List.perm_ext_iff_of_nodup hd List.nodup_range).2 fun j => ?_)
    rw [List.mem_range]
    exact ⟨hb j, ha j⟩
  have h2 : (List.range ks.length).map (fun j => ks.getD j ([], 0)) = ks := by
    refine List.ext_getElem (by simp) fun j h h' => ?_
    simp [List.getD, List.getElem?_eq_getElem h']
  exact (h1.map _).trans (List.Perm.of_eq h2)
theorem nodup_len {done : List Nat} {n : Nat} (hd : done.Nodup) (hb : ∀ j ∈ done, j < n) : done.length ≤ n := by
  have h : done.Perm ((List.range n).filter fun j => decide (j ∈ done)) := (List.perm_ext_iff_of_nodup hd (List.Pairwise.filter _ List.nodup_range)).2 fun j => by
    simp only [List.mem_filter, List.mem_range, decide_eq_true_eq]
    exact ⟨fun h => ⟨hb j h, h⟩, fun h => h.2⟩
  rw [h.length_eq]
  exact Nat.le_trans (List.length_filter_le _ _) (by simp)
theorem ins_done {nf : Nat → Nat} {a b r : List (List UInt8 × Nat)} {e : List UInt8 × Nat} {i : Nat} (h3 : a.length + b.length = i) (h4 : (a ++ b).Pairwise fun a b => nf a.2 < nf b.2) (h5 : ∀ z ∈ b, nf e.2 < nf z.2) (ha : ∀ y ∈ a, nf y.2 < nf e.2) :
    ((a ++ e :: (b ++ r)).take (i + 1)).Pairwise fun a b => nf a.2 < nf b.2 := by
  have h : (a ++ e :: (b ++ r)).take (i + 1) = a ++ e :: b := by
    rw [show a ++ e :: (b ++ r) = (a ++ e :: b) ++ r by simp]
    exact List.take_left' (by simp; omega)
  rw [h]
  obtain ⟨h6, h7, h8⟩ := List.pairwise_append.1 h4
  refine List.pairwise_append.2 ⟨h6, List.pairwise_cons.2 ⟨h5, h7⟩, fun y hy z hz => ?_⟩
  rcases List.mem_cons.1 hz with rfl | hz
  · exact ha y hy
  · exact h8 y hy z hz
def dirB : Nat → List (Nat × List UInt8 × Nat) → List UInt8
  | n, [] => padD n
  | n, (num, nm, ft) :: r => stepD n num nm ft ++ dirB (leftD n nm) r
def dirS : Nat → List (Nat × List UInt8 × Nat) → List UInt8 × Nat
  | n, [] => ([], n)
  | n, (num, nm, ft) :: r => (stepD n num nm ft ++ (dirS (leftD n nm) r).1, (dirS (leftD n nm) r).2)
theorem dirB_S : ∀ (es : List (Nat × List UInt8 × Nat)) (n : Nat), dirB n es = (dirS n es).1 ++ padD (dirS n es).2
  | [], n => rfl
  | (num, nm, ft) :: r, n => by rw [dirB, dirS, dirB_S r, List.append_assoc]
theorem dirS_snoc : ∀ (es : List (Nat × List UInt8 × Nat)) (n num : Nat) (nm : List UInt8) (ft : Nat), dirS n (es ++ [(num, nm, ft)]) = ((dirS n es).1 ++ stepD (dirS n es).2 num nm ft, leftD (dirS n es).2 nm)
  | [], n, num, nm, ft => by simp [dirS]
  | (a, b, c) :: r, n, num, nm, ft => by
    rw [List.cons_append, dirS, dirS_snoc r]
    simp [dirS]
theorem leftD_ok {n : Nat} {nm : List UInt8} (h : nm.length ≤ 255) (h1 : 12 ≤ n) (h2 : n ≤ 4096) : 12 ≤ leftD n nm ∧ leftD n nm ≤ 4096 := by
  unfold leftD rlN
  split <;> omega
theorem dirS_ok : ∀ (es : List (Nat × List UInt8 × Nat)) (n : Nat), (∀ e ∈ es, e.2.1.length ≤ 255) → 12 ≤ n → n ≤ 4096 → 12 ≤ (dirS n es).2 ∧ (dirS n es).2 ≤ 4096
  | [], n, _, h1, h2 => ⟨h1, h2⟩
  | (num, nm, ft) :: r, n, h, h1, h2 => by
    have h3 := leftD_ok (nm := nm) (h (num, nm, ft) (by simp)) h1 h2
    exact dirS_ok r _ (fun e he => h e (by simp [he])) h3.1 h3.2
theorem stepD_len {n num : Nat} {nm : List UInt8} {ft : Nat} (h : nm.length ≤ 255) (h1 : n ≤ 4096) : (stepD n num nm ft).length ≤ 4400 := by
  unfold stepD entD padD
  have hr : rlN nm ≤ 264 ∧ 8 + nm.length ≤ rlN nm := by unfold rlN; omega
  split <;> simp only [List.length_append, leB_len, List.length_replicate, List.length_nil] <;> omega
theorem dirS_len : ∀ (es : List (Nat × List UInt8 × Nat)) (n : Nat), (∀ e ∈ es, e.2.1.length ≤ 255) → 12 ≤ n → n ≤ 4096 → (dirS n es).1.length ≤ 4400 * es.length
  | [], n, _, h1, h2 => by simp [dirS]
  | (num, nm, ft) :: r, n, h, h1, h2 => by
    have h3 := leftD_ok (nm := nm) (h (num, nm, ft) (by simp)) h1 h2
    have h4 := dirS_len r _ (fun e he => h e (by simp [he])) h3.1 h3.2
    have h5 := stepD_len (n := n) (num := num) (nm := nm) (ft := ft) (h (num, nm, ft) (by simp)) h2
    simp only [dirS, List.length_append, List.length_cons]
    omega
abbrev dS (s : Ws) (g : Nat) (es : List (Nat × List UInt8 × Nat)) : Ws := { s with cname := ⟨#[]⟩, cur := some g, dw := (dirS 4096 es).1.length, dm := 9223372036854775807, body := s.body ++ (dirS 4096 es).1 }
abbrev dL (s : Ws) (l : List Nd) (g gl gf gw : Nat) (es : List (Nat × List UInt8 × Nat)) : List HP :=
  [Cells gl 3 [.int .i64 ((dirS 4096 es).2 : Nat)], Cells gf 125 [.func (.func 195) #[] #[ptrV gl, ptrV gw]], Cells gw 113 [ptrV s.wg], WP (dS s g es), NodesP l]
theorem entS_fn (s : Ws) (l : List Nd) (k j : Nat) (x y : Nd) (nm : List UInt8) (num gl gf gw : Nat) (es : List (Nat × List UInt8 × Nat)) (hx : l[k]? = some x) (hy : l[j]? = some y) (hg : getI s.ids num = some y.g) (hym : y.mode < 65536) (hnum : num < 4294967296) (hil : s.ids.length ≤ 100000000) (hnm : nm.length ≤ 255)
    (hes : ∀ e ∈ es, e.2.1.length ≤ 255) (hel : es.length ≤ 10010) (hfl : x.flags &&& 268435456 = 0) (hf2 : x.flags < 4294967296) (hb : s.body.length ≤ 10000000) :
    Fd Tryz.prog 197 #[.int .u32 (num : Int), .string (str nm), ptrV gl, ptrV gf, ptrV gw] (dL s l x.g gl gf gw es) .nilIface (dL s l x.g gl gf gw (es ++ [(num, nm, ftN y.mode)])) := by
  have h1 := dirS_ok es 4096 hes (by omega) (by omega)
  have h2 := dirS_len es 4096 hes (by omega) (by omega)
  have h := ent_fn (dS s x.g es) l k j x y nm num gl gf gw (dirS 4096 es).2 hx hy hg hym hnum hil hnm h1.1 h1.2 rfl hfl hf2 rfl (by dsimp only; omega) (by simp only [List.length_append]; omega)
  have e := dirS_snoc es 4096 num nm (ftN y.mode)
  unfold dL dS
  rw [e, List.length_append, ← List.append_assoc]
  exact h
def srtE (nf mf : Nat → Nat) (cs : List (List UInt8 × Nat)) : List (Nat × List UInt8 × Nat) := cs.map fun p => (nf p.2, p.1, ftN (mf p.2))
theorem wdir_fn (s0 s : Ws) (l0 l : List Nd) (k p : Nat) (x par : Nd) (ks srt : List (List UInt8 × Nat)) (nf mf : Nat → Nat)
    (hfin : Fd Tryz.prog 91 #[ptrV s.wg] [WP s0, NodesP l0] .nilIface [WP s, NodesP l])
    (hcur : s.cur = none) (hx : l[k]? = some x) (hpar : l[p]? = some par) (hk : x.kids = some ks) (hK : KidOk s l ks nf mf) (hperm : srt.Perm ks) (hsrt : srt.Pairwise (fun a b => nf a.2 < nf b.2)) (hlen : ks.length ≤ 10000)
    (hgx : getI s.ids x.num = some x.g) (hgp : getI s.ids par.num = some par.g) (hnx : x.num < 4294967296) (hnp : par.num < 4294967296) (hmx : x.mode < 65536) (hmp : par.mode < 65536) (hil : s.ids.length ≤ 100000000) (hb : s.body.length ≤ 10000000) (hfl : x.flags &&& 268435456 = 0) (hf2 : x.flags < 4294967296)
    (D : List UInt8) (hD : D = dirB 4096 ((x.num, [46], ftN x.mode) :: (par.num, [46, 46], ftN par.mode) :: srtE nf mf srt)) :
    Fd Tryz.prog 166 #[ptrV s.wg, ptrV x.g, ptrV par.g] [WP s0, NodesP l0] .nilIface
      [WP { s with cname := ⟨#[]⟩, cur := some x.g, dw := D.length, dm := D.length, body := s.body ++ D }, NodesP (l.set k { x with size := D.length })] := by
  refine fn_of_E' (args := [_, _, _]) 23 _ [_, _, _, undef, undef, undef, undef, undef, undef, undef, undef, undef, undef, undef, undef, undef, undef, undef, undef, undef, undef, undef, undef] Tryz.func166 rfl Tryz.ntmps166 ?_
  refine walk ?_
  refine y_box rfl fun gw => ?_
  refine walk ?_
  refine y_box rfl fun gd => ?_
  refine walk ?_
  refine y_callD rfl rfl hfin ?_
  refine walk ?_
  refine y_callD rfl rfl (startInode_w s hcur ⟨#[]⟩ x.g 9223372036854775807) ?_
  refine walk ?_
  refine y_alloc fun gl => ?_
  refine walk ?_
  refine y_alloc fun gf => ?_
  refine walk ?_
  refine y_loadC (v := .int .u32 (x.num : Int)) (.there <| .there <| .there (NodesP.cell hx 5 _ fun _ => rfl)) ?_
  refine walk ?_
  refine EO.eqL (L' := [Cells gf 125 [.func (.func 195) #[] #[ptrV gl, ptrV gw]], Cells gl 3 [.int .i64 ((dirS 4096 []).2 : Nat)], WP (dS s x.g []), NodesP l, Cells gd 172 [ptrV x.g], Cells gw 113 [ptrV s.wg]]) (by simp [dS, dirS, ptrV, Value.cells]) ?_
  refine y_callD rfl rfl (entS_fn s l k k x x [46] x.num gl gf gw [] hx hx hgx hmx hnx hil (by simp) (by simp) (by simp) hfl hf2 hb) ?_
  rw [List.nil_append]
  refine walk ?_
  refine y_loadC (v := .int .u32 (par.num : Int)) (.there <| .there <| .there <| .there <| NodesP.cell hpar 5 _ fun _ => rfl) ?_
  refine walk ?_
  refine y_callD rfl rfl (entS_fn s l k p x par [46, 46] par.num gl gf gw [(x.num, [46], ftN x.mode)] hx hpar hgp hmp hnp hil (by simp) (by simp) (by simp) hfl hf2 hb) ?_
  refine walk ?_
  refine y_alloc fun gc => ?_
  refine walk ?_
  refine y_tno5 (NodesP.opK hx hk) fun A1 c1 A2 c2 gm _ => ?_
  refine walk ?_
  refine y_range fun gi => ?_
  refine walk ?_
  refine E.nilOwn (e := 9) (sz := 1) ?_
  refine e_roundsK (ι := List Nat × Option Addr × Nat × Value) (fun q => ks.length - q.1.length)
    (fun q => [ptrV s.wg, ptrV x.g, ptrV par.g, ptrV gw, ptrV gd, undef, .nilIface, .nilIface, ptrV gl, ptrV gf, .func (.func 197) #[] #[ptrV gl, ptrV gf, ptrV gw], .nilIface, .nilIface, ptrV gc, q.2.2.2, undef, undef, undef, undef, undef, undef, undef, undef])
    (fun _ => [(55, ptrV gi)])
    (fun q => [Own q.2.1 q.2.2.1 9 1 (picks ks q.1).length (nmC (picks ks q.1)), MapIt gi gm (kidE ks) q.1,
      Cells x.g 187 [.int .i64 (x.size : Int), .int .u64 0, .int .u64 0, .int .u64 0, .int .u64 0, .int .u32 (x.num : Int), .int .u16 (x.mode : Int), .int .u32 (x.uid : Int), .int .u32 (x.gid : Int), .int .u32 (x.links : Int), .int .u32 0, .int .u32 (x.blks : Int), .int .u32 0, .int .u32 0, .int .u32 (x.flags : Int), .slice A1 x.data.length c1, .slice A2 x.xin.length c2, .map (some gm)],
      Own A1 c1 5 1 x.data.length (enc x.data), Own A2 c2 5 1 x.xin.length (enc x.xin), NodesP (l.eraseIdx k),
      Cells gc 41 [.slice q.2.1 (picks ks q.1).length q.2.2.1],
      Cells gl 3 [.int .i64 ((dirS 4096 ([(x.num, [46], ftN x.mode)] ++ [(par.num, [46, 46], ftN par.mode)])).2 : Nat)], Cells gf 125 [.func (.func 195) #[] #[ptrV gl, ptrV gw]], Cells gw 113 [ptrV s.wg], WP (dS s x.g ([(x.num, [46], ftN x.mode)] ++ [(par.num, [46, 46], ftN par.mode)])), Cells gd 172 [ptrV x.g]])
    (fun q => q.1.Nodup ∧ ∀ j ∈ q.1, j < ks.length) ([], none, 0, undef) ⟨List.nodup_nil, by simp⟩ rfl (by repeat constructor) (List.Perm.of_eq rfl) ?_
  rintro ⟨done, A, c, u14⟩ ⟨hnd, hbd⟩ again
  dsimp only at hnd hbd again ⊢
  refine walk ?_
  have hpl : (picks ks done).length ≤ 10000 := by rw [picks_len]; exact Nat.le_trans (nodup_len hnd hbd) hlen
  refine y_next (fun hov => ?_) (fun j s1 u hj hjd => ?_)
  rotate_left
  · obtain ⟨p1, hp1, hp2⟩ : ∃ p1 : List UInt8 × Nat, ks[j]? = some p1 ∧ s1 = str p1.1 := by
      rw [kidE, List.getElem?_map] at hj
      cases hkj : ks[j]? with
      | none => rw [hkj] at hj; cases hj
      | some p1 => rw [hkj] at hj; simp at hj; exact ⟨p1, rfl, hj.1.symm⟩
    subst hp2
    have hjl := (List.getElem?_eq_some_iff.1 hp1).1
    have hpc : picks ks (j :: done) = picks ks done ++ [p1] := by rw [picks_cons, List.getD, hp1]; rfl
    have hnd' : (j :: done).Nodup := List.nodup_cons.2 ⟨hjd, hnd⟩
    have hbd' : ∀ i ∈ j :: done, i < ks.length := fun i hi => (List.mem_cons.1 hi).elim (fun e => e ▸ hjl) (hbd i)
    have hdl := nodup_len hnd' hbd'
    refine walk ?_
    refine y_build1 rfl fun gb => ?_
    refine walk ?_
    refine y_app1 rfl rfl fun A' c' => ?_
    refine walk ?_
    have ag := again (j :: done, A', c', .string (str p1.1)) (by simp at hdl ⊢; omega) ⟨hnd', hbd'⟩
    dsimp only at ag
    rw [hpc, List.length_append, List.length_singleton, nmC_snoc] at ag
    exact ag.toKS rfl (by repeat constructor)
  refine walk ?_
  have hov' : ∀ j, j < ks.length → j ∈ done := fun j hj => hov j (by simpa [kidE] using hj)
  have hpp := picks_all hnd hbd hov'
  generalize picks ks done = cs at hpp hpl ⊢
  refine y_tn MapIt.overT fun _ _ => ?_
  refine y_tn (NodesP.clK (l := l) x (List.getElem?_eq_some_iff.1 hx).1 hk rfl) fun _ _ => ?_
  rw [set_same hx]
  refine e_rounds (ι := Nat × List (List UInt8 × Nat) × Value) (fun q => cs.length - q.1)
    (fun q => [ptrV s.wg, ptrV x.g, ptrV par.g, ptrV gw, ptrV gd, undef, .nilIface, .nilIface, ptrV gl, ptrV gf, .func (.func 197) #[] #[ptrV gl, ptrV gf, ptrV gw], .nilIface, .nilIface, ptrV gc, u14, .func (.func 199) #[] #[ptrV gd, ptrV gc], .int .i64 (q.1 : Nat), q.2.2, undef, undef, undef, undef, undef])
    (fun q => [NodesP l, Own A c 9 1 cs.length (nmC q.2.1), Cells gc 41 [.slice A cs.length c],
      Cells gl 3 [.int .i64 ((dirS 4096 ([(x.num, [46], ftN x.mode)] ++ [(par.num, [46, 46], ftN par.mode)])).2 : Nat)], Cells gf 125 [.func (.func 195) #[] #[ptrV gl, ptrV gw]], Cells gw 113 [ptrV s.wg], WP (dS s x.g ([(x.num, [46], ftN x.mode)] ++ [(par.num, [46, 46], ftN par.mode)])), Cells gd 172 [ptrV x.g]])
    (fun q => 1 ≤ q.1 ∧ q.2.1.Perm ks ∧ q.2.1.length = cs.length ∧ (q.2.1.take q.1).Pairwise fun a b => nf a.2 < nf b.2) (1, cs, undef) ⟨Nat.le_refl _, hpp, rfl, by cases cs <;> simp⟩ rfl (List.Perm.refl _) ?_
  rintro ⟨i, cs', u17⟩ ⟨hi1, hpp', hcl, hso⟩ again
  dsimp only at hi1 hpp' hcl hso again ⊢
  by_cases hic : i < cs.length
  · refine E.know (.there .here) (fun _ _ => Own.know) fun hkn => ?_
    obtain ⟨_, k2, k3, k4⟩ := hkn
    cases A with
    | none => have := k3 rfl; omega
    | some ad =>
    obtain ⟨go, rfl⟩ := k4 ad rfl
    have hta : (cs'.take i).length = i := by rw [List.length_take, hcl]; omega
    have hsplit : cs' = cs'.take i ++ cs'[i]'(by omega) :: ([] ++ cs'.drop (i + 1)) := by
      rw [List.nil_append, ← List.drop_eq_getElem_cons, List.take_append_drop]
    refine walk ?_
    refine e_rounds (ι := List (List UInt8 × Nat) × (List UInt8 × Nat) × List (List UInt8 × Nat) × List (List UInt8 × Nat)) (fun q => q.1.length)
      (fun q => [ptrV s.wg, ptrV x.g, ptrV par.g, ptrV gw, ptrV gd, undef, .nilIface, .nilIface, ptrV gl, ptrV gf, .func (.func 197) #[] #[ptrV gl, ptrV gf, ptrV gw], .nilIface, .nilIface, ptrV gc, u14, .func (.func 199) #[] #[ptrV gd, ptrV gc], .int .i64 (i : Nat), .int .i64 (q.1.length : Nat), undef, undef, undef, undef, undef])
      (fun q => [NodesP l, Own (some ⟨go, 0, none⟩) c 9 1 cs.length (nmC (q.1 ++ q.2.1 :: (q.2.2.1 ++ q.2.2.2))), Cells gc 41 [.slice (some ⟨go, 0, none⟩) cs.length c],
        Cells gl 3 [.int .i64 ((dirS 4096 ([(x.num, [46], ftN x.mode)] ++ [(par.num, [46, 46], ftN par.mode)])).2 : Nat)], Cells gf 125 [.func (.func 195) #[] #[ptrV gl, ptrV gw]], Cells gw 113 [ptrV s.wg], WP (dS s x.g ([(x.num, [46], ftN x.mode)] ++ [(par.num, [46, 46], ftN par.mode)])), Cells gd 172 [ptrV x.g]])
      (fun q => (q.1 ++ q.2.1 :: (q.2.2.1 ++ q.2.2.2)).Perm ks ∧ (q.1 ++ q.2.1 :: (q.2.2.1 ++ q.2.2.2)).length = cs.length ∧ q.1.length + q.2.2.1.length = i ∧ ((q.1 ++ q.2.2.1).Pairwise fun a b => nf a.2 < nf b.2) ∧ ∀ z ∈ q.2.2.1, nf q.2.1.2 < nf z.2)
      (cs'.take i, cs'[i]'(by omega), [], cs'.drop (i + 1)) ⟨by dsimp only; rw [← hsplit]; exact hpp', by dsimp only; rw [← hsplit]; exact hcl, by dsimp only; rw [hta]; rfl, by dsimp only; rw [List.append_nil]; exact hso, by simp⟩ (by dsimp only; rw [hta]) (List.Perm.of_eq (by dsimp only; rw [← hsplit])) ?_
    rintro ⟨a, e, b, r⟩ ⟨q1, q2, q3, q4, q5⟩ again2
    dsimp only at q1 q2 q3 q4 q5 again2 ⊢
    rcases List.eq_nil_or_concat a with rfl | ⟨a', y, hay⟩
    · have ag := again (i + 1, [] ++ e :: (b ++ r), .int .i64 ((0 : Nat) : Int)) (by dsimp only; omega) ⟨by dsimp only; omega, q1, q2, ins_done q3 q4 q5 (by simp)⟩
      dsimp only at ag
      refine walk ?_
      exact ag.to rfl rfl
    · rw [List.concat_eq_append] at hay
      subst hay
      have hL : (a' ++ [y]).length = a'.length + 1 := by simp
      have hne2 : (a' ++ [y] ++ e :: (b ++ r)).Pairwise fun a b => nf a.2 ≠ nf b.2 :=
        (List.Perm.pairwise_iff (R := fun a b : List UInt8 × Nat => nf a.2 ≠ nf b.2) (fun h => h.symm) (q1.trans hperm.symm)).2 (hsrt.imp fun h => Nat.ne_of_lt h)
      have hye : nf y.2 ≠ nf e.2 := (List.pairwise_append.1 hne2).2.2 y (by simp) e (by simp)
      have hless := less_fn s l k x ks (a' ++ [y] ++ e :: (b ++ r)) nf mf gd gc go c (a'.length + 1) a'.length e y hx hk hK (by rw [List.getElem?_append_right (by simp)]; simp) (by rw [List.append_assoc, List.getElem?_append_right (by simp)]; simp) (q1.subset (by simp)) (q1.subset (by simp)) hye.symm (by omega)
      rw [q2] at hless
      have hjl : a'.length + 1 < cs.length := by simp at q2; omega
      rw [hL] at again2 q3 ⊢
      refine walk ?_
      refine y_callq rfl rfl hless ?_
      by_cases hlt : nf e.2 < nf y.2
      · rw [decide_eq_true hlt]
        refine walk ?_
        refine e_pair ?_
        refine walk ?_
        refine y_loadE (a := a'.length) (vs := nmC (a' ++ [y] ++ e :: (b ++ r))) (v := .string (str y.1)) (by simp [nmC]) ?_
        refine walk ?_
        refine y_loadE (a := a'.length + 1) (vs := nmC (a' ++ [y] ++ e :: (b ++ r))) (v := .string (str e.1)) (by simp [nmC]) ?_
        refine walk ?_
        have hsw : (a' ++ e :: (y :: b ++ r)).Perm (a' ++ [y] ++ e :: (b ++ r)) := by
          rw [List.append_assoc]
          exact (List.Perm.swap y e (b ++ r)).append_left a'
        have ag := again2 (a', e, y :: b, r) (by dsimp only; omega) ⟨hsw.trans q1, by simp at q2 ⊢; omega, by simp at q3 ⊢; omega, by simpa using q4, fun z hz => (List.mem_cons.1 hz).elim (fun h => h ▸ hlt) (q5 z)⟩
        dsimp only at ag
        have hset : ((nmC (a' ++ [y] ++ e :: (b ++ r))).set (a'.length + 1) (.string (str y.1))).set a'.length (.string (str e.1)) = nmC (a' ++ e :: (y :: b ++ r)) := by
          simp [nmC, List.set_append]
        refine x_two ?_ ?_
        · refine walk ?_
          refine y_storeE (a := a'.length + 1) (vs := nmC (a' ++ [y] ++ e :: (b ++ r))) (u := .string (str y.1)) (by rw [nmC_len]; omega) ?_
          refine walk ?_
          refine y_storeE (a := a'.length) (vs := (nmC (a' ++ [y] ++ e :: (b ++ r))).set (a'.length + 1) (.string (str y.1))) (u := .string (str e.1)) (by rw [List.length_set, nmC_len]; omega) ?_
          rw [hset]
          refine walk ?_
          exact ag.toKS (ks := []) rfl (by repeat constructor)
        · refine walk ?_
          refine y_storeE (a := a'.length + 1) (vs := nmC (a' ++ [y] ++ e :: (b ++ r))) (u := .string (str y.1)) (by rw [nmC_len]; omega) ?_
          refine walk ?_
          refine y_storeE (a := a'.length) (vs := (nmC (a' ++ [y] ++ e :: (b ++ r))).set (a'.length + 1) (.string (str y.1))) (u := .string (str e.1)) (by rw [List.length_set, nmC_len]; omega) ?_
          rw [hset]
          refine walk ?_
          exact ag.toKS (ks := []) rfl (by repeat constructor)
      · have hya : ∀ z ∈ a' ++ [y], nf z.2 < nf e.2 := fun z hz => by
          have h1 : nf y.2 < nf e.2 := by omega
          rcases List.mem_append.1 hz with h | h
          · have h2 := (List.pairwise_append.1 (List.pairwise_append.1 q4).1).2.2 z h y (by simp)
            omega
          · rw [List.mem_singleton] at h; subst h; exact h1
        have ag := again (i + 1, a' ++ [y] ++ e :: (b ++ r), .int .i64 ((a'.length + 1 : Nat) : Int)) (by dsimp only; omega) ⟨by dsimp only; omega, q1, q2, ins_done (by rw [hL]; exact q3) q4 q5 hya⟩
        dsimp only at ag
        rw [decide_eq_false hlt]
        refine walk ?_
        exact ag.to rfl rfl
  · have hcs : cs' = srt := by
      refine List.Perm.eq_of_pairwise (le := fun a b => nf a.2 < nf b.2) (fun _ _ _ _ h1 h2 => absurd h1 (by omega)) ?_ hsrt (hpp'.trans hperm.symm)
      rw [List.take_of_length_le (by omega)] at hso
      exact hso
    subst hcs
    have hks : ∀ q ∈ cs', q ∈ ks := fun q hq => hpp'.subset hq
    refine walk ?_
    refine e_roundsK (ι := Nat × Value × Value × Value) (fun q => cs.length - q.1)
      (fun q => [ptrV s.wg, ptrV x.g, ptrV par.g, ptrV gw, ptrV gd, undef, .nilIface, .nilIface, ptrV gl, ptrV gf, .func (.func 197) #[] #[ptrV gl, ptrV gf, ptrV gw], .nilIface, .nilIface, ptrV gc, u14, .func (.func 199) #[] #[ptrV gd, ptrV gc], .int .i64 (i : Nat), u17, undef, q.2.1, q.2.2.1, q.2.2.2, undef])
      (fun q => [(101, .int .i64 (q.1 : Nat)), (100, .int .i64 (cs.length : Nat)), (99, .slice A cs.length c)])
      (fun q => [NodesP l, Own A c 9 1 cs.length (nmC cs'), Cells gc 41 [.slice A cs.length c],
        Cells gl 3 [.int .i64 ((dirS 4096 ([(x.num, [46], ftN x.mode)] ++ [(par.num, [46, 46], ftN par.mode)] ++ srtE nf mf (cs'.take q.1))).2 : Nat)], Cells gf 125 [.func (.func 195) #[] #[ptrV gl, ptrV gw]], Cells gw 113 [ptrV s.wg], WP (dS s x.g ([(x.num, [46], ftN x.mode)] ++ [(par.num, [46, 46], ftN par.mode)] ++ srtE nf mf (cs'.take q.1))), Cells gd 172 [ptrV x.g]])
      (fun q => q.1 ≤ cs.length) (0, undef, undef, undef) (Nat.zero_le _) rfl (by repeat constructor) (List.Perm.of_eq (by simp [srtE])) ?_
    rintro ⟨m, u19, u20, u21⟩ hm again3
    dsimp only at hm again3 ⊢
    have hes : ∀ e ∈ [(x.num, [46], ftN x.mode)] ++ [(par.num, [46, 46], ftN par.mode)] ++ srtE nf mf (cs'.take m), e.2.1.length ≤ 255 := by
      intro e he
      simp only [srtE, List.mem_append, List.mem_singleton, List.mem_map] at he
      rcases he with (rfl | rfl) | ⟨q, hq, rfl⟩
      · simp
      · simp
      · exact (hK q (hks q (List.mem_of_mem_take hq))).2.1
    have hesl : ([(x.num, [46], ftN x.mode)] ++ [(par.num, [46, 46], ftN par.mode)] ++ srtE nf mf (cs'.take m)).length ≤ 10010 := by simp [srtE]; omega
    by_cases hmc : m < cs.length
    · refine E.know (.there .here) (fun _ _ => Own.know) fun hkn => ?_
      obtain ⟨_, k2, k3, k4⟩ := hkn
      cases A with
      | none => have := k3 rfl; omega
      | some ad =>
      obtain ⟨go, rfl⟩ := k4 ad rfl
      obtain ⟨q, hq⟩ : ∃ q, cs'[m]? = some q := ⟨_, List.getElem?_eq_getElem (by omega)⟩
      have hqm := hks q (List.mem_of_getElem? hq)
      obtain ⟨hq1, hq2, jq, yq, hq3, hq4, hq5, hq6, hq7, hq8, hq9⟩ := hK q hqm
      have htk : srtE nf mf (cs'.take (m + 1)) = srtE nf mf (cs'.take m) ++ [(yq.num, q.1, ftN yq.mode)] := by
        rw [List.take_add_one, hq, srtE, List.map_append, hq5, hq6]; rfl
      have ag := again3 (m + 1, .string (str q.1), ptrV yq.g, .nilIface) (by dsimp only; omega) (by dsimp only; omega)
      dsimp only at ag
      rw [htk, ← List.append_assoc] at ag
      refine walk ?_
      refine y_loadE (a := m) (vs := nmC cs') (v := .string (str q.1)) (by simp [nmC, hq]) ?_
      refine y_tno5 (NodesP.opK hx hk) fun A1 c1 A2 c2 gm _ => ?_
      refine walk ?_
      refine y_lookS hq1 ?_
      refine walk ?_
      refine y_tno (NodesP.clK (l := l) x (List.getElem?_eq_some_iff.1 hx).1 hk rfl) fun _ _ => ?_
      rw [set_same hx, ← hq4]
      refine y_loadC (v := .int .u32 (yq.num : Int)) (NodesP.cell hq3 5 _ fun _ => rfl) ?_
      refine walk ?_
      refine y_callD rfl rfl (entS_fn s l k jq x yq q.1 yq.num gl gf gw _ hx hq3 hq7 hq8 hq9 hil hq2 hes hesl hfl hf2 hb) ?_
      refine walk ?_
      exact ag.toKS (ks := [101, 100, 99]) rfl (by repeat constructor)
    · have hdo := dirS_ok _ 4096 hes (by omega) (by omega)
      have hdl := dirS_len _ 4096 hes (by omega) (by omega)
      have hml : cs'.take m = cs' := List.take_of_length_le (by omega)
      rw [hml] at hes hesl hdo hdl ⊢
      generalize hE : [(x.num, [46], ftN x.mode)] ++ [(par.num, [46, 46], ftN par.mode)] ++ srtE nf mf cs' = es at hes hesl hdo hdl ⊢
      have hD2 : D = (dirS 4096 es).1 ++ padD (dirS 4096 es).2 := by rw [hD, ← hE]; exact dirB_S _ _
      refine walk ?_
      refine y_callD rfl rfl (fin_fn (dS s x.g es) l k x gl gw (dirS 4096 es).2 hx hdo.1 hdo.2 rfl hfl hf2 rfl (by dsimp only; omega) (by simp only [List.length_append]; omega)) ?_
      refine walk ?_
      have hDl : D.length = (dirS 4096 es).1.length + (dirS 4096 es).2 := by
        rw [hD2, List.length_append]
        simp only [padD, List.length_append, leB_len, List.length_replicate]
        omega
      refine EO.eqL (L' := [_, Cells gw 113 [ptrV s.wg], WP { s with cname := ⟨#[]⟩, cur := some x.g, dw := D.length, dm := 9223372036854775807, body := s.body ++ D }, NodesP l, _, _, _, _]) (by rw [hDl, hD2, ← List.append_assoc]) ?_
      refine y_loadC (v := ptrV x.g) (.there <| .there <| WP.cell 3 _ fun _ => rfl) ?_
      refine walk ?_
      refine y_loadC (v := .int .i64 (D.length : Nat)) (.there <| .there <| WP.cell 5 _ fun _ => rfl) ?_
      refine y_tno5 (NodesP.opK hx hk) fun A1 c1 A2 c2 gm _ => ?_
      refine walk ?_
      refine y_tno (NodesP.clK (l := l) { x with size := D.length } (List.getElem?_eq_some_iff.1 hx).1 hk rfl) fun _ _ => ?_
      refine y_tno2 WP.op fun Aw cw _ => ?_
      dsimp only
      refine walk ?_
      refine y_tn (WP.cl { s with cname := ⟨#[]⟩, cur := some x.g, dw := D.length, dm := D.length, body := s.body ++ D }) fun _ _ => ?_
      exact y_ret [6] rfl ⟨rfl, rfl⟩
end Go.Proofs.YtppkiiomedembaaGreatDoor
