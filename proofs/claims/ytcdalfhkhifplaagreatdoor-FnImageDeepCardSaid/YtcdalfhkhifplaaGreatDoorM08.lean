/-
  The walks: a file or a directory is created; The walks: the writer's beginning, and parents; Plain facts: paths out of names; The walks: parents are made; The walks: a directory is written; The walks: a directory is written, its names in order; The walks: the reader's small parts. Conditions: none.
-/
import Derived.Test.YtcdalfhkhifplaaGreatDoorM07
import Derived.Test.YtcdalfhkhifplaaGreatDoorM06
import Derived.Lib.ConvBytes
import Derived.Test.YtcdalfhkhifplaaGreatDoorM03
set_option linter.unusedVariables false
set_option linter.unusedSimpArgs false
namespace Go.Proofs.YtcdalfhkhifplaaGreatDoor
open Go
set_option maxRecDepth 100000
set_option maxHeartbeats 4000000
section
variable {X : Fx} {ops : Array Oper} {cf : Nat → Cls} {k : List Item} {i : Nat} {is : List Nat} {l : List Oper} {loc loc' : List Value} {tmp tmp' : List (Nat × Value)} {L F : List HP}
  {d : Option Tmp} {ty : TypeId} {pos : String} {aft : Array Edge} {gd : Option (Nat × Bool)}
theorem y_neN {T T' : Nat} {x y : Operand} {a : Addr} [KTy X.P T 0] (hx : sv loc tmp x = some (.pointer none)) (hy : sv loc tmp y = some (.pointer (some a))) (h : EO X ops cf k is l loc' tmp' L) (hp : Pt loc tmp d (.bool true) loc' tmp' := by exact pt_)
    (hg : gdv ops loc tmp gd = some true := by rfl) (hd : dOK X.n d = true := by rfl) : EO X ops cf k (i :: is) (⟨d, .binOp .neq T x y T', ty, pos, aft, gd⟩ :: l) loc tmp L :=
  x_pure hg (fun A hr w => by
    obtain ⟨e, hu⟩ := KTy.ptr (P := X.P) (T := T)
    have key : ∀ d, (Op.equalIn (d + 1) T (.pointer none) (.pointer (some a))).run X.P w = .ok false w := fun d => by simp [Op.equalIn, run_underlying hu]
    have key2 : (Op.equal T (.pointer none) (.pointer (some a))).run X.P w = .ok false w := key 9999
    simp [execOp, hr.ev hx, hr.ev hy, eqGuard, binOp, key2]) hp hd h
theorem y_neA {T T' e : Nat} {x y : Operand} {g : Nat} (hx : sv loc tmp x = some (ptrV g)) (hy : sv loc tmp y = some (ptrV g)) (hu : X.P.underlying T = some (.pointer e)) (hz : ((X.P.info? e).map fun j => Nat.blt 0 j.size) = some true) (h : EO X ops cf k is l loc' tmp' L) (hp : Pt loc tmp d (.bool false) loc' tmp' := by exact pt_)
    (hg : gdv ops loc tmp gd = some true := by rfl) (hd : dOK X.n d = true := by rfl) : EO X ops cf k (i :: is) (⟨d, .binOp .neq T x y T', ty, pos, aft, gd⟩ :: l) loc tmp L :=
  x_pure hg (fun A hr w => by
    obtain ⟨j, hj, hs⟩ := Option.map_eq_some_iff.1 hz
    have hs' : j.size ≠ 0 := by
      intro h0; rw [h0] at hs; cases hs
    have key : ∀ d, (Op.equalIn (d + 1) T (ptrV g) (ptrV g)).run X.P w = .ok true w := fun d => by simp [Op.equalIn, run_underlying hu, sizeOf, typeInfo, hj, hs', sameAddr]
    have key2 : (Op.equal T (ptrV g) (ptrV g)).run X.P w = .ok true w := key 9999
    simp [execOp, hr.ev hx, hr.ev hy, eqGuard, binOp, key2]) hp hd h
end
attribute [local irreducible] E EO
theorem look_none_upd {ks : List (List UInt8 × Nat)} {c : List UInt8} {g : Nat} (h : look (kidE ks) (str c) = none) : upd (kidE ks) (str c) (ptrV g) = kidE (ks ++ [(c, g)]) := by
  rw [upd_none h]; simp [kidE]
theorem WP.clg (s : Ws) {A : Option Addr} {c p : Nat} {B : List UInt8} {cu : Value} {dwi dmi : Int} (h3 : cu = optV s.cur := by rfl) (h4 : dwi = (s.dw : Int) := by rfl) (h5 : dmi = (s.dm : Int) := by rfl) (h1 : p = 8192 + s.body.length := by rfl) (h2 : B = mkB s.body := by rfl) :
    Tn [Cells s.wg 112 [ptrV s.dg, .slice A s.ids.length c, .string s.cname, cu, .int .i64 (p : Int), .int .i64 dwi, .int .i64 dmi, .nilIface, .bool true, .bool s.inl, .int .i64 ((17179869184 : Nat) : Int), .int .u32 1], Own A c 110 1 s.ids.length (s.ids.map optV), DiskP s.dg p B] (fun _ : Unit => True) (fun _ => [WP s]) := by
  subst h3 h4 h5
  exact WP.cl s h1 h2
theorem startInode_w (s : Ws) (hc : s.cur = none) (nm : ByteArray) (g n : Nat) :
    Fd Tryz.prog 48 #[ptrV s.wg, .string nm, ptrV g, .int .i64 (n : Int)] [WP s] (.tuple #[]) [WP { s with cname := nm, cur := some g, dw := 0, dm := n }] := by
  refine y_fn2 WP.op fun A c _ => ?_
  rw [hc, show optV none = Value.pointer none from rfl]
  exact ((startInode_fn s.wg _ _ _ _ _ _ _ _ _ _ _ nm (some ⟨g, 0, none⟩) n).frame).close (WP.clg { s with cname := nm, cur := some g, dw := 0, dm := n } (cu := ptrV g) (dwi := 0) (dmi := (n : Int)))
theorem createDir_fn (s0 s : Ws) (l0 l : List Nd) (nm q c : List UInt8) (cs : List (List UInt8)) (i k : Nat) (x z : Nd) (ks : List (List UInt8 × Nat)) (gf md ui gi : Nat) (zi : Int)
    (hfin : Fd Tryz.prog 43 #[ptrV s.wg] [WP s0, NodesP l0] .nilIface [WP s, NodesP l])
    (hx : l[i]? = some x) (hz : l[k]? = some z) (hg : getI s.ids 2 = some x.g) (hl : s.ids.length ≤ 100000000) (hnl : nm.length ≤ 100000000) (hnd : noDots nm.length nm) (hcl : clN nm.length nm [47] = 47 :: q) (hq : q.length ≤ 100000000) (hdir : dirP q = slashed cs) (hbase : baseP q = c)
    (hc1 : 1 ≤ c.length) (hc2 : c.length ≤ 255) (hs : ∀ c ∈ cs, 47 ∉ c) (hw : Way l i cs k) (hk : z.kids = some ks) (hm : z.mode &&& 61440 = 16384) (hm2 : z.mode < 65536) (hno : look (kidE ks) (str c) = none) (hlk : z.links < 65000)
    (hmd : md &&& 61440 = 16384) (hmd2 : md < 65536) (hui : ui < 4294967296) (hgi : gi < 4294967296) :
    Fe Tryz.prog 26 #[ptrV s.wg, .string (str nm), ptrV gf] [WP s0, NodesP l0, Cells gf 119 (fileC zi md ui gi (.map none))] (fun _ : Nat => True) (fun _ => .nilIface)
      (fun g => [WP { s with ids := s.ids ++ [some g] }, NodesP (l.set k { z with links := z.links + 1, kids := some (ks ++ [(c, g)]) } ++ [⟨g, s.ids.length + 1, md, ui, gi, 2, 0, 262144, 0, [], [], some []⟩])]) := by
  have hlook := lookup_fn s l nm q c cs i k x z ks false hx hz hg (by omega) hnl hnd hcl hq hdir hbase hc1 hc2 hs hw hk hm hm2 none (by rw [hno]; rfl) (by simp)
  refine fn_of_E' (args := [_, _, _]) 14 _ [_, _, _, undef, undef, undef, undef, undef, undef, undef, undef, undef, undef, undef] Tryz.func26 rfl Tryz.ntmps26 ?_
  refine walk ?_
  refine y_callD rfl rfl hfin ?_
  refine walk ?_
  refine y_callD rfl rfl hlook ?_
  refine walk ?_
  refine y_loadC (v := .int .u32 (z.links : Int)) (.there (NodesP.cell hz 9 _ fun _ => rfl)) ?_
  refine walk ?_
  refine y_tno2 WP.op fun A ca _ => ?_
  refine y_callE rfl rfl (makeDir_fn s.wg s.ids.length ca gf md ui gi A (s.ids.map optV) zi _ _ _ _ _ _ _ _ _ _ _ hl hmd hmd2 hui hgi) fun j _ => ?_
  obtain ⟨g, A', c'⟩ := j
  dsimp only
  refine walk ?_
  refine y_neN rfl rfl ?_
  refine walk ?_
  refine y_tno5 (NodesP.opK hz hk) fun B1 c1 B2 c2 gm _ => ?_
  refine walk ?_
  refine y_mapSet ?_
  rw [look_none_upd hno]
  refine walk ?_
  refine y_tno5 NodeP.op fun B3 c3 B4 c4 gm2 _ => ?_
  dsimp only
  refine walk ?_
  refine y_callq rfl rfl (isDir_fn g md _ hmd2 (Cell.here rfl)) ?_
  rw [hmd]
  refine walk ?_
  refine y_tn (NodeP.clz ⟨g, s.ids.length + 1, md, ui, gi, 2, 0, 262144, 0, [], [], some []⟩ (lk' := ((1 + 1 : Nat) : Int)) (gm := gm2)) fun _ _ => ?_
  refine y_tn (NodesP.clK (l := l) { z with links := z.links + 1, kids := some (ks ++ [(c, g)]) } (List.getElem?_eq_some_iff.1 hz).1 rfl rfl) fun _ _ => ?_
  refine y_tn (NodesP.add (l := l.set k { z with links := z.links + 1, kids := some (ks ++ [(c, g)]) }) ⟨g, s.ids.length + 1, md, ui, gi, 2, 0, 262144, 0, [], [], some []⟩) fun _ _ => ?_
  refine y_tn (WP.close (s := { s with ids := s.ids ++ [some g] }) A' c' (s.ids.length + 1) (s.ids.map optV ++ [ptrV g]) (8192 + s.body.length) (mkB s.body) ⟨by simp, by simp [optV], rfl, rfl⟩) fun _ _ => ?_
  exact y_ret [6] rfl ⟨g, trivial, rfl, rfl⟩
theorem createDir2_fn (gxm : Nat) (s0 s : Ws) (l0 l : List Nd) (nm q c : List UInt8) (cs : List (List UInt8)) (i k : Nat) (x z : Nd) (ks : List (List UInt8 × Nat)) (gf md ui gi : Nat) (zi : Int)
    (hfin : Fd Tryz.prog 43 #[ptrV s.wg] [WP s0, NodesP l0] .nilIface [WP s, NodesP l])
    (hx : l[i]? = some x) (hz : l[k]? = some z) (hg : getI s.ids 2 = some x.g) (hl : s.ids.length ≤ 100000000) (hnl : nm.length ≤ 100000000) (hnd : noDots nm.length nm) (hcl : clN nm.length nm [47] = 47 :: q) (hq : q.length ≤ 100000000) (hdir : dirP q = slashed cs) (hbase : baseP q = c)
    (hc1 : 1 ≤ c.length) (hc2 : c.length ≤ 255) (hs : ∀ c ∈ cs, 47 ∉ c) (hw : Way l i cs k) (hk : z.kids = some ks) (hm : z.mode &&& 61440 = 16384) (hm2 : z.mode < 65536) (hno : look (kidE ks) (str c) = none) (hlk : z.links < 65000)
    (hmd : md &&& 61440 = 16384) (hmd2 : md < 65536) (hui : ui < 4294967296) (hgi : gi < 4294967296) :
    Fe Tryz.prog 26 #[ptrV s.wg, .string (str nm), ptrV gf] [WP s0, NodesP l0, Cells gf 119 (fileC zi md ui gi (.map (some gxm))), MapS gxm []] (fun _ : Nat => True) (fun _ => .nilIface)
      (fun g => [WP { s with ids := s.ids ++ [some g] }, NodesP (l.set k { z with links := z.links + 1, kids := some (ks ++ [(c, g)]) } ++ [⟨g, s.ids.length + 1, md, ui, gi, 2, 0, 262144, 0, [], [], some []⟩])]) := by
  have hlook := lookup_fn s l nm q c cs i k x z ks false hx hz hg (by omega) hnl hnd hcl hq hdir hbase hc1 hc2 hs hw hk hm hm2 none (by rw [hno]; rfl) (by simp)
  refine fn_of_E' (args := [_, _, _]) 14 _ [_, _, _, undef, undef, undef, undef, undef, undef, undef, undef, undef, undef, undef] Tryz.func26 rfl Tryz.ntmps26 ?_
  refine walk ?_
  refine y_callD rfl rfl hfin ?_
  refine walk ?_
  refine y_callD rfl rfl hlook ?_
  refine walk ?_
  refine y_loadC (v := .int .u32 (z.links : Int)) (.there (NodesP.cell hz 9 _ fun _ => rfl)) ?_
  refine walk ?_
  refine y_tno2 WP.op fun A ca _ => ?_
  refine y_callE rfl rfl (makeDir2_fn gxm s.wg s.ids.length ca gf md ui gi A (s.ids.map optV) zi _ _ _ _ _ _ _ _ _ _ _ hl hmd hmd2 hui hgi) fun j _ => ?_
  obtain ⟨g, A', c'⟩ := j
  dsimp only
  refine walk ?_
  refine y_neN rfl rfl ?_
  refine walk ?_
  refine y_tno5 (NodesP.opK hz hk) fun B1 c1 B2 c2 gm _ => ?_
  refine walk ?_
  refine y_mapSet ?_
  rw [look_none_upd hno]
  refine walk ?_
  refine y_tno5 NodeP.op fun B3 c3 B4 c4 gm2 _ => ?_
  dsimp only
  refine walk ?_
  refine y_callq rfl rfl (isDir_fn g md _ hmd2 (Cell.here rfl)) ?_
  rw [hmd]
  refine walk ?_
  refine y_tn (NodeP.clz ⟨g, s.ids.length + 1, md, ui, gi, 2, 0, 262144, 0, [], [], some []⟩ (lk' := ((1 + 1 : Nat) : Int)) (gm := gm2)) fun _ _ => ?_
  refine y_tn (NodesP.clK (l := l) { z with links := z.links + 1, kids := some (ks ++ [(c, g)]) } (List.getElem?_eq_some_iff.1 hz).1 rfl rfl) fun _ _ => ?_
  refine y_tn (NodesP.add (l := l.set k { z with links := z.links + 1, kids := some (ks ++ [(c, g)]) }) ⟨g, s.ids.length + 1, md, ui, gi, 2, 0, 262144, 0, [], [], some []⟩) fun _ _ => ?_
  refine y_tn (WP.close (s := { s with ids := s.ids ++ [some g] }) A' c' (s.ids.length + 1) (s.ids.map optV ++ [ptrV g]) (8192 + s.body.length) (mkB s.body) ⟨by simp, by simp [optV], rfl, rfl⟩) fun _ _ => ?_
  exact y_ret [6] rfl ⟨g, trivial, rfl, rfl⟩
theorem createRoot_fn (s0 s : Ws) (l0 l : List Nd) (i : Nat) (x : Nd) (gf md ui gi : Nat) (zi : Int)
    (hfin : Fd Tryz.prog 43 #[ptrV s.wg] [WP s0, NodesP l0] .nilIface [WP s, NodesP l])
    (hx : l[i]? = some x) (hg : getI s.ids 2 = some x.g) (hl : s.ids.length ≤ 100000000) (hm : x.mode &&& 61440 = 16384) (hm2 : x.mode < 65536) (hfl : x.flags &&& 524288 = 0) (hfl2 : x.flags < 4294967296) (hxi : x.xin = []) (hnum : x.num ≤ s.ids.length) (hnum1 : 1 ≤ x.num)
    (hmd : md &&& 61440 = 16384) (hmd2 : md < 65536) (hui : ui < 4294967296) (hgi : gi < 4294967296) :
    Fd Tryz.prog 26 #[ptrV s.wg, .string (str [47]), ptrV gf] [WP s0, NodesP l0, Cells gf 119 (fileC zi md ui gi (.map none))] .nilIface
      [WP s, NodesP (l.set i { x with mode := md, uid := ui, gid := gi, flags := 262144, size := 0, data := [], xin := [] })] := by
  have hlook := lookup0_fn s (NodesP l) x.g hg (by omega) false
  refine fn_of_E' (args := [_, _, _]) 14 _ [_, _, _, undef, undef, undef, undef, undef, undef, undef, undef, undef, undef, undef] Tryz.func26 rfl Tryz.ntmps26 ?_
  refine walk ?_
  refine y_callD rfl rfl hfin ?_
  refine walk ?_
  refine y_callD rfl rfl hlook ?_
  refine walk ?_
  refine y_callq rfl rfl (isDir_fn x.g x.mode (NodesP l) hm2 (NodesP.cell hx 6 _ fun _ => rfl)) ?_
  rw [hm]
  refine walk ?_
  refine y_tno2 WP.op fun A ca _ => ?_
  refine y_tno (NodesP.open hx) fun _ _ => ?_
  refine y_callE rfl rfl (makeRoot_fn s.wg s.ids.length ca gf md ui gi A (s.ids.map optV) zi x _ _ _ _ _ _ _ _ _ _ _ hl hmd hmd2 hui hgi hfl hfl2 hxi hnum hnum1) fun j _ => ?_
  dsimp only
  refine walk ?_
  refine y_neA (e := 125) rfl rfl (by kernel_rfl) (by kernel_rfl) ?_
  refine walk ?_
  refine y_loadC (v := .int .u16 (md : Int)) (.there (.there (NodeP.cell 6 _ fun _ => rfl))) ?_
  refine walk ?_
  refine y_tn (NodesP.close (l := l) { x with mode := md, uid := ui, gid := gi, flags := 262144, size := 0, data := [], xin := [] } (List.getElem?_eq_some_iff.1 hx).1) fun _ _ => ?_
  refine y_tn (WP.cl s) fun _ _ => ?_
  exact y_ret [6] rfl ⟨rfl, rfl⟩
theorem createReg_fn (s0 s : Ws) (l0 l : List Nd) (nm q c : List UInt8) (cs : List (List UInt8)) (i k : Nat) (x z : Nd) (ks : List (List UInt8 × Nat)) (gf m0 md ui gi zi : Nat)
    (hfin : Fd Tryz.prog 43 #[ptrV s.wg] [WP s0, NodesP l0] .nilIface [WP s, NodesP l])
    (hx : l[i]? = some x) (hz : l[k]? = some z) (hg : getI s.ids 2 = some x.g) (hl : s.ids.length ≤ 100000000) (hnl : nm.length ≤ 100000000) (hnd : noDots nm.length nm) (hcl : clN nm.length nm [47] = 47 :: q) (hq : q.length ≤ 100000000) (hdir : dirP q = slashed cs) (hbase : baseP q = c)
    (hc1 : 1 ≤ c.length) (hc2 : c.length ≤ 255) (hs : ∀ c ∈ cs, 47 ∉ c) (hw : Way l i cs k) (hk : z.kids = some ks) (hm : z.mode &&& 61440 = 16384) (hm2 : z.mode < 65536) (hno : look (kidE ks) (str c) = none) (hlk : z.links < 65000) (hcur : s.cur = none)
    (hmd : md = regM m0) (hreg : md &&& 61440 = 32768) (hm02 : m0 < 65536) (hmd2 : md < 65536) (hui : ui < 4294967296) (hgi : gi < 4294967296) (hzi : zi ≤ 100000000) (hil : 136 < zi ∨ s.inl = false) :
    Fe Tryz.prog 26 #[ptrV s.wg, .string (str nm), ptrV gf] [WP s0, NodesP l0, Cells gf 119 (fileC (zi : Int) m0 ui gi (.map none))] (fun _ : Nat => True) (fun _ => .nilIface)
      (fun g => [WP { s with ids := s.ids ++ [some g], cname := str nm, cur := some g, dw := 0, dm := zi }, NodesP (l.set k { z with kids := some (ks ++ [(c, g)]) } ++ [⟨g, s.ids.length + 1, md, ui, gi, 1, 0, 262144, zi, [], [], none⟩])]) := by
  have hlook := lookup_fn s l nm q c cs i k x z ks false hx hz hg (by omega) hnl hnd hcl hq hdir hbase hc1 hc2 hs hw hk hm hm2 none (by rw [hno]; rfl) (by simp)
  have hnd' : m0 &&& 61440 ≠ 16384 := by
    intro h
    unfold regM at hmd
    rw [if_neg (by omega)] at hmd
    rw [hmd] at hreg; omega
  refine fn_of_E' (args := [_, _, _]) 14 _ [_, _, _, undef, undef, undef, undef, undef, undef, undef, undef, undef, undef, undef] Tryz.func26 rfl Tryz.ntmps26 ?_
  refine walk ?_
  refine y_callD rfl rfl hfin ?_
  refine walk ?_
  refine y_callD rfl rfl hlook ?_
  refine walk ?_
  refine y_tno2 WP.op fun A ca _ => ?_
  refine y_callE rfl rfl (makeReg_fn s.wg s.ids.length ca gf m0 md ui gi zi A (s.ids.map optV) s.inl _ _ _ _ _ _ _ _ _ _ hl hmd hreg hm02 hmd2 hui hgi hzi hil) fun j _ => ?_
  obtain ⟨g, ⟨A', c'⟩, gx⟩ := j
  dsimp only
  refine walk ?_
  refine y_neN rfl rfl ?_
  refine walk ?_
  refine y_tno5 (NodesP.opK hz hk) fun B1 c1 B2 c2 gm _ => ?_
  refine walk ?_
  refine y_mapSet ?_
  rw [look_none_upd hno]
  refine walk ?_
  refine y_tno5 NodeP.op fun B3 c3 B4 c4 gm2 _ => ?_
  dsimp only
  refine walk ?_
  refine y_callq rfl rfl (isDir_fn g md _ hmd2 (Cell.here rfl)) ?_
  rw [hreg]
  refine walk ?_
  refine y_tno (NodeP.clz ⟨g, s.ids.length + 1, md, ui, gi, 1, 0, 262144, zi, [], [], none⟩ (lk' := ((0 + 1 : Nat) : Int)) (fl := ((262144 : Nat) : Int)) (gm := gm2)) fun _ _ => ?_
  refine y_tno (NodesP.clK (l := l) { z with kids := some (ks ++ [(c, g)]) } (List.getElem?_eq_some_iff.1 hz).1 rfl rfl) fun _ _ => ?_
  refine y_tno (NodesP.add (l := l.set k { z with kids := some (ks ++ [(c, g)]) }) ⟨g, s.ids.length + 1, md, ui, gi, 1, 0, 262144, zi, [], [], none⟩) fun _ _ => ?_
  refine y_tno (WP.close (s := { s with ids := s.ids ++ [some g] }) A' c' (s.ids.length + 1) (s.ids.map optV ++ [ptrV g]) (8192 + s.body.length) (mkB s.body) ⟨by simp, by simp [optV], rfl, rfl⟩) fun _ _ => ?_
  refine y_callD rfl rfl (startInode_w { s with ids := s.ids ++ [some g] } hcur (str nm) g zi) ?_
  refine walk ?_
  exact y_ret [6] rfl ⟨g, trivial, rfl, rfl⟩
theorem createRegI_fn (s0 s : Ws) (l0 l : List Nd) (nm q c : List UInt8) (cs : List (List UInt8)) (i k : Nat) (x z : Nd) (ks : List (List UInt8 × Nat)) (gf m0 md ui gi zi : Nat)
    (hfin : Fd Tryz.prog 43 #[ptrV s.wg] [WP s0, NodesP l0] .nilIface [WP s, NodesP l])
    (hx : l[i]? = some x) (hz : l[k]? = some z) (hg : getI s.ids 2 = some x.g) (hl : s.ids.length ≤ 100000000) (hnl : nm.length ≤ 100000000) (hnd : noDots nm.length nm) (hcl : clN nm.length nm [47] = 47 :: q) (hq : q.length ≤ 100000000) (hdir : dirP q = slashed cs) (hbase : baseP q = c)
    (hc1 : 1 ≤ c.length) (hc2 : c.length ≤ 255) (hs : ∀ c ∈ cs, 47 ∉ c) (hw : Way l i cs k) (hk : z.kids = some ks) (hm : z.mode &&& 61440 = 16384) (hm2 : z.mode < 65536) (hno : look (kidE ks) (str c) = none) (hlk : z.links < 65000) (hcur : s.cur = none)
    (hmd : md = regM m0) (hreg : md &&& 61440 = 32768) (hm02 : m0 < 65536) (hmd2 : md < 65536) (hui : ui < 4294967296) (hgi : gi < 4294967296) (hzi : zi ≤ 136) (hil : s.inl = true) (G : HP) (hG : PfxP G) :
    Fe Tryz.prog 26 #[ptrV s.wg, .string (str nm), ptrV gf] [WP s0, NodesP l0, Cells gf 119 (fileC (zi : Int) m0 ui gi (.map none)), G] (fun _ : Nat => True) (fun _ => .nilIface)
      (fun g => [WP { s with ids := s.ids ++ [some g], cname := str nm, cur := some g, dw := 0, dm := zi }, NodesP (l.set k { z with kids := some (ks ++ [(c, g)]) } ++ [⟨g, s.ids.length + 1, md, ui, gi, 1, 0, 262144 ||| 268435456, zi, List.replicate zi 0, xinB (List.replicate (zi - 60) 0), none⟩]), G]) := by
  have hlook := lookup_fn s l nm q c cs i k x z ks false hx hz hg (by omega) hnl hnd hcl hq hdir hbase hc1 hc2 hs hw hk hm hm2 none (by rw [hno]; rfl) (by simp)
  have hnd' : m0 &&& 61440 ≠ 16384 := by
    intro h
    unfold regM at hmd
    rw [if_neg (by omega)] at hmd
    rw [hmd] at hreg; omega
  refine fn_of_E' (args := [_, _, _]) 14 _ [_, _, _, undef, undef, undef, undef, undef, undef, undef, undef, undef, undef, undef] Tryz.func26 rfl Tryz.ntmps26 ?_
  refine walk ?_
  refine y_callD rfl rfl hfin ?_
  refine walk ?_
  refine y_callD rfl rfl hlook ?_
  refine walk ?_
  refine y_tno2 WP.op fun A ca _ => ?_
  rw [hil]
  refine y_callE rfl rfl (makeRegI_fn s.wg s.ids.length ca gf m0 md ui gi zi A (s.ids.map optV) G hG _ _ _ _ _ _ _ _ _ _ hl hmd hreg hm02 hmd2 hui hgi hzi) fun j _ => ?_
  obtain ⟨g, ⟨A', c'⟩, gx⟩ := j
  dsimp only
  refine walk ?_
  refine y_neN rfl rfl ?_
  refine walk ?_
  refine y_tno5 (NodesP.opK hz hk) fun B1 c1 B2 c2 gm _ => ?_
  refine walk ?_
  refine y_mapSet ?_
  rw [look_none_upd hno]
  refine walk ?_
  refine y_tno5 NodeP.op fun B3 c3 B4 c4 gm2 _ => ?_
  dsimp only
  refine walk ?_
  refine y_callq rfl rfl (isDir_fn g md _ hmd2 (Cell.here rfl)) ?_
  rw [hreg]
  refine walk ?_
  refine y_tno (NodeP.clz ⟨g, s.ids.length + 1, md, ui, gi, 1, 0, 262144 ||| 268435456, zi, List.replicate zi 0, xinB (List.replicate (zi - 60) 0), none⟩ (lk' := ((0 + 1 : Nat) : Int)) (fl := ((262144 ||| 268435456 : Nat) : Int)) (gm := gm2)) fun _ _ => ?_
  refine y_tno (NodesP.clK (l := l) { z with kids := some (ks ++ [(c, g)]) } (List.getElem?_eq_some_iff.1 hz).1 rfl rfl) fun _ _ => ?_
  refine y_tno (NodesP.add (l := l.set k { z with kids := some (ks ++ [(c, g)]) }) ⟨g, s.ids.length + 1, md, ui, gi, 1, 0, 262144 ||| 268435456, zi, List.replicate zi 0, xinB (List.replicate (zi - 60) 0), none⟩) fun _ _ => ?_
  refine y_tno (WP.close (s := { s with ids := s.ids ++ [some g] }) A' c' (s.ids.length + 1) (s.ids.map optV ++ [ptrV g]) (8192 + s.body.length) (mkB s.body) ⟨by simp, by simp [optV], rfl, rfl⟩) (fun _ _ => ?_) (by dsimp only [wsL, wsC]; rw [hil]; exact sub_)
  refine y_callD rfl rfl (startInode_w { s with ids := s.ids ++ [some g] } hcur (str nm) g zi) ?_
  refine walk ?_
  rw [hil]
  exact y_ret [6] rfl ⟨g, trivial, rfl, rfl⟩
end Go.Proofs.YtcdalfhkhifplaaGreatDoor
namespace Go.Proofs.YtcdalfhkhifplaaGreatDoor
open Go
set_option maxRecDepth 100000
set_option maxHeartbeats 4000000
section
variable {X : Fx} {ops : Array Oper} {cf : Nat → Cls} {k : List Item} {i : Nat} {is : List Nat} {l : List Oper} {loc : List Value} {tmp : List (Nat × Value)} {L F : List HP}
  {d : Option Tmp} {ty : TypeId} {pos : String} {aft : Array Edge} {gd : Option (Nat × Bool)} {locf : Nat → List Value} {tmpf : Nat → List (Nat × Value)}
theorem y_makeC {t e b n c : Nat} {z : Value} {K K' : IntKind} {x y : Operand} {p q : Int} [SlE X.P t e 1 b [z]] [hv : NatV p n] [hw : NatV q c] (hx : sv loc tmp x = some (.int K p)) (hy : sv loc tmp y = some (.int K' q)) (hnc : n ≤ c) (hb : b * c ≤ 281474976710656) (hc : c ≤ 1000000000)
    (h : ∀ g, EO X ops cf k is l (locf g) (tmpf g) (Own (some ⟨g, 0, none⟩) c e 1 n (List.replicate n z) :: L))
    (hp : ∀ g, Pt loc tmp d (.slice (some ⟨g, 0, none⟩) n c) (locf g) (tmpf g) := by intro g; first | exact Pt.tmp rfl | exact Pt.none | exact Pt.loc (by repeat constructor))
    (hg : gdv ops loc tmp gd = some true := by rfl) (hd : dOK X.n d = true := by rfl) (hcl : (cf i).news = true := by rfl) (hq : X.q = false := by rfl) :
    EO X ops cf k (i :: is) (⟨d, .makeSlice t x y, ty, pos, aft, gd⟩ :: l) loc tmp L :=
  x_new (Rv := fun v L'' => ∃ g, v = .slice (some ⟨g, 0, none⟩) n c ∧ L'' = Own (some ⟨g, 0, none⟩) c e 1 n (List.replicate n z) :: L) hg hcl (fun a hrl w0 S0 w hs r => by
    rw [hv.h] at hx
    rw [hw.h] at hy
    obtain ⟨hu, j, zv, hj, hjs, hjb, hjz, hzv⟩ := SlE.out (P := X.P) (T := t) (e := e) (sz := 1) (b := b) (z := [z])
    have hzc : zv.cells = #[z] := by apply Array.ext'; simpa using hzv
    have hrun := run_make (P := X.P) (wat w r) t e j zv hu hj hjz K K' n c (by omega) (by omega) (by rw [hjb]; omega) (by omega)
    rw [hzc, hjs, Nat.mul_one, madeCells_one] at hrun
    simp only [Int.toNat_natCast] at hrun
    have h1 := (hs.wat r).made e 1 n c (List.replicate c z) (by simp) hnc (by simp only [maxLen]; omega)
    simp [RunN, execOp, hrl.ev hx, hrl.ev hy, hrun]
    rw [hq]
    simp only [Nat.mul_one] at h1
    rw [List.take_replicate, Nat.min_eq_left hnc] at h1
    exact ⟨Ext.alloc _ _, by simpa using h1⟩) hd (fun v L'' ⟨g, e1, e2⟩ => by subst e1 e2; exact ⟨_, _, hp g, h g⟩)
end
theorem EO.eqL {X : Fx} {ops : Array Oper} {cf : Nat → Cls} {k : List Item} {is : List Nat} {l : List Oper} {loc : List Value} {tmp : List (Nat × Value)} {L L' : List HP} (hL : L = L') (h : EO X ops cf k is l loc tmp L') : EO X ops cf k is l loc tmp L := hL ▸ h
theorem E.eqL {X : Fx} {k : List Item} {loc : List Value} {tmp : List (Nat × Value)} {L L' : List HP} (hL : L = L') (h : E X k loc tmp L') : E X k loc tmp L := hL ▸ h
attribute [local irreducible] E EO
abbrev lfN : List UInt8 := [108, 111, 115, 116, 43, 102, 111, 117, 110, 100]
theorem NodesP.one (x : Nd) : Tn [NodeP x] (fun _ : Unit => True) (fun _ => [NodesP [x]]) := Tn.close
abbrev ws0 (wg dg : Nat) (il : Bool) (g2 : Nat) : Ws := ⟨wg, dg, [none, some g2, none, none, none, none, none, none, none, none], str [], none, 0, 0, il, []⟩
abbrev ws1 (wg dg : Nat) (il : Bool) (g2 g11 : Nat) : Ws := ⟨wg, dg, [none, some g2, none, none, none, none, none, none, none, none, some g11], str [], none, 0, 0, il, []⟩
abbrev nds1 (g2 g11 : Nat) : List Nd := [⟨g2, 2, 16877, 0, 0, 3, 0, 262144, 0, [], [], some [(lfN, g11)]⟩, ⟨g11, 11, 16832, 0, 0, 2, 0, 262144, 0, [], [], some []⟩]
theorem init_fn (wg dg : Nat) (il : Bool) :
    Fe Tryz.prog 84 #[ptrV wg] [Cells wg 112 [ptrV dg, .slice none 0 0, .string (str []), .pointer none, .int .i64 0, .int .i64 0, .int .i64 0, .nilIface, .bool false, .bool il, .int .i64 ((17179869184 : Nat) : Int), .int .u32 0], DiskP dg 0 []] (fun _ : Nat × Nat => True) (fun _ => .nilIface)
      (fun i => [WP (ws1 wg dg il i.1 i.2), NodesP (nds1 i.1 i.2)]) := by
  refine fn_of_E' (args := [_]) 8 _ [_, undef, undef, undef, undef, undef, undef, undef] Tryz.func84 rfl Tryz.ntmps84 ?_
  refine walk ?_
  refine y_makeC rfl rfl (by omega) (by omega) (by omega) fun gi => ?_
  refine walk ?_
  refine y_boxA rfl fun gf => ?_
  refine walk ?_
  refine EO.eqL (L' := [Cells gf 119 (fileC 0 16877 0 0 (.map none)), Own (some ⟨gi, 0, none⟩) 32 110 1 1 [.pointer none], _, _]) rfl ?_
  refine y_callE rfl rfl (makeDir_fn wg 1 32 gf 16877 0 0 (some ⟨gi, 0, none⟩) [.pointer none] 0 _ _ _ _ _ _ _ _ _ _ _ (by omega) (by decide) (by omega) (by omega) (by omega)) fun j _ => ?_
  obtain ⟨g2, A', c'⟩ := j
  dsimp only
  refine y_tno5 NodeP.op fun B3 c3 B4 c4 gm2 _ => ?_
  dsimp only
  refine walk ?_
  refine x_appZ (m := 8) rfl rfl rfl take_ rfl (by simp [maxLen]) (by omega) fun A2 c2 => ⟨_, _, pt_, ?_⟩
  refine walk ?_
  rw [show ((((17179869184 - 1) / 4096 + 1 - 1) / 32768 + 1 - 1) / 128 + 1 : Nat) = 1 from rfl]
  refine y_callD rfl rfl (seekBlock_fn wg dg 0 (1 + 1) [] _ _ _ _ _ _ _ _ _ _ (by omega)) ?_
  refine walk ?_
  refine y_boxA rfl fun gf2 => ?_
  refine walk ?_
  refine EO.eqL (L' := [Cells gf2 119 (fileC 0 16832 0 0 (.map none)), Cells wg 112 [ptrV dg, .slice A2 10 c2, .string (str []), optV none, .int .i64 ((8192 + ([] : List UInt8).length : Nat) : Int), .int .i64 ((0 : Nat) : Int), .int .i64 ((0 : Nat) : Int), .nilIface, .bool true, .bool il, .int .i64 ((17179869184 : Nat) : Int), .int .u32 1], DiskP dg (8192 + ([] : List UInt8).length) (mkB []), Own A2 c2 110 1 10 ([none, some g2, none, none, none, none, none, none, none, none].map optV), _, _, _, _]) rfl ?_
  refine y_tno (NodeP.clz ⟨g2, 2, 16877, 0, 0, 2, 0, 262144, 0, [], [], some []⟩ (lk' := ((1 + 1 : Nat) : Int)) (gm := gm2)) fun _ _ => ?_
  refine y_tno (NodesP.one ⟨g2, 2, 16877, 0, 0, 2, 0, 262144, 0, [], [], some []⟩) fun _ _ => ?_
  refine y_tno (WP.close (s := ws0 wg dg il g2) A2 c2 10 ([none, some g2, none, none, none, none, none, none, none, none].map optV) (8192 + ([] : List UInt8).length) (mkB []) ⟨rfl, rfl, rfl, rfl⟩) fun _ _ => ?_
  refine y_callE rfl rfl (createDir_fn (ws0 wg dg il g2) (ws0 wg dg il g2) [⟨g2, 2, 16877, 0, 0, 2, 0, 262144, 0, [], [], some []⟩] [⟨g2, 2, 16877, 0, 0, 2, 0, 262144, 0, [], [], some []⟩] lfN lfN lfN [] 0 0 _ _ [] gf2 16832 0 0 0
    ((finish0_w (ws0 wg dg il g2) rfl).frame) rfl rfl rfl (by simp [ws0]) (by simp) (by simp [noDots, headP]) (by simp [clN, headP]) (by simp) rfl rfl (by simp) (by simp) (by simp) .here rfl (by show (16877 : Nat) &&& 61440 = 16384; decide) (by show (16877 : Nat) < 65536; omega) rfl (by show (2 : Nat) < 65000; omega) (by decide) (by omega) (by omega) (by omega)) fun g _ => ?_
  refine walk ?_
  refine EO.eqL (L' := [WP (ws1 wg dg il g2 g), NodesP (nds1 g2 g)]) rfl ?_
  refine y_loadC (v := .nilIface) (WP.cell 7 _ fun _ => rfl) ?_
  refine walk ?_
  exact y_ret [2] rfl ⟨(g2, g), trivial, rfl, rfl⟩
theorem finishN_fn (wg dg : Nat) (il : Bool) :
    Fe Tryz.prog 43 #[ptrV wg] [Cells wg 112 [ptrV dg, .slice none 0 0, .string (str []), .pointer none, .int .i64 0, .int .i64 0, .int .i64 0, .nilIface, .bool false, .bool il, .int .i64 ((17179869184 : Nat) : Int), .int .u32 0], DiskP dg 0 []] (fun _ : Nat × Nat => True) (fun _ => .nilIface)
      (fun i => [WP (ws1 wg dg il i.1 i.2), NodesP (nds1 i.1 i.2)]) := by
  refine fn_of_E' (args := [_]) 5 _ [_, undef, undef, undef, undef] Tryz.func43 rfl Tryz.ntmps43 ?_
  refine walk ?_
  refine y_callE rfl rfl (init_fn wg dg il) fun j _ => ?_
  refine walk ?_
  refine y_loadC (v := .pointer none) (WP.cell 3 _ fun _ => rfl) ?_
  refine walk ?_
  exact y_ret [2] rfl ⟨j, trivial, rfl, rfl⟩
end Go.Proofs.YtcdalfhkhifplaaGreatDoor
namespace Go.Proofs.YtcdalfhkhifplaaGreatDoor
open Go
def good (c : List UInt8) : Prop := c ≠ [] ∧ 47 ∉ c ∧ c ≠ [46] ∧ c ≠ [46, 46]
def preS : List (List UInt8) → List UInt8
  | [] => []
  | c :: cs => 47 :: (c ++ preS cs)
theorem preS_app : ∀ (a b : List (List UInt8)), preS (a ++ b) = preS a ++ preS b
  | [], _ => rfl
  | c :: a, b => by simp [preS, preS_app a b]
theorem slashed_app : ∀ (a b : List (List UInt8)), slashed (a ++ b) = slashed a ++ slashed b
  | [], _ => rfl
  | c :: a, b => by simp [slashed, slashed_app a b]
theorem slash_pre : ∀ (ds : List (List UInt8)) (c e : List UInt8), c ++ preS (ds ++ [e]) = slashed (c :: ds) ++ e
  | [], c, e => by simp [preS, slashed]
  | d :: ds, c, e => by
    have := slash_pre ds d e
    simp only [List.cons_append, preS, slashed] at this ⊢
    rw [this]
    simp [slashed]
theorem headP_good {c r : List UInt8} (hc : 47 ∉ c) (hr : r = [] ∨ ∃ r', r = 47 :: r') : headP (c ++ r) = c := by
  rcases hr with rfl | ⟨r', rfl⟩
  · rw [List.append_nil]; exact (headP_none hc).1
  · exact (headP_slash c r' hc).1
theorem preS_cases (cs : List (List UInt8)) : preS cs = [] ∨ ∃ r', preS cs = 47 :: r' := by
  cases cs with
  | nil => exact .inl rfl
  | cons c cs => exact .inr ⟨_, rfl⟩
theorem good_cons {c : List UInt8} (h : good c) : ∃ b r, c = b :: r ∧ b ≠ 47 := by
  cases c with
  | nil => exact absurd rfl h.1
  | cons b r => exact ⟨b, r, rfl, fun e => h.2.1 (by simp [e])⟩
theorem clN_preS : ∀ (cs : List (List UInt8)) (n : Nat) (o : List UInt8), (∀ c ∈ cs, good c) → (preS cs).length ≤ n → 1 < o.length → clN n (preS cs) o = o ++ preS cs
  | [], n, o, _, _, _ => by cases n <;> simp [preS, clN]
  | c :: cs, n, o, hg, hn, ho => by
    have hc := hg c (by simp)
    obtain ⟨b, r, rfl, hb⟩ := good_cons hc
    simp only [preS, List.length_cons, List.length_append] at hn
    obtain ⟨n, rfl⟩ : ∃ m, n = m + 1 := ⟨n - 1, by omega⟩
    obtain ⟨n, rfl⟩ : ∃ m, n = m + 1 := ⟨n - 1, by omega⟩
    have hh : headP (b :: (r ++ preS cs)) = b :: r := headP_good (c := b :: r) hc.2.1 (preS_cases cs)
    simp only [preS, clN, if_true, List.cons_append, if_neg hb, hh]
    rw [if_neg (by omega)]
    have e : List.drop (b :: r).length (b :: (r ++ preS cs)) = preS cs := by
      rw [← List.cons_append, List.drop_left]
    rw [e, clN_preS cs n _ (fun c hc => hg c (by simp [hc])) (by omega) (by simp; omega)]
    simp
theorem noDots_preS : ∀ (cs : List (List UInt8)) (n : Nat), (∀ c ∈ cs, good c) → (preS cs).length ≤ n → noDots n (preS cs)
  | [], n, _, _ => by cases n <;> simp [preS, noDots]
  | c :: cs, n, hg, hn => by
    have hc := hg c (by simp)
    obtain ⟨b, r, rfl, hb⟩ := good_cons hc
    simp only [preS, List.length_cons, List.length_append] at hn
    obtain ⟨n, rfl⟩ : ∃ m, n = m + 1 := ⟨n - 1, by omega⟩
    obtain ⟨n, rfl⟩ : ∃ m, n = m + 1 := ⟨n - 1, by omega⟩
    have hh : headP (b :: (r ++ preS cs)) = b :: r := headP_good (c := b :: r) hc.2.1 (preS_cases cs)
    simp only [preS, noDots, if_true, List.cons_append, if_neg hb, hh]
    have e : List.drop (b :: r).length (b :: (r ++ preS cs)) = preS cs := by
      rw [← List.cons_append, List.drop_left]
    exact ⟨hc.2.2.1, hc.2.2.2, by rw [e]; exact noDots_preS cs n (fun c hc => hg c (by simp [hc])) (by omega)⟩
theorem clN_rel {c : List UInt8} {cs : List (List UInt8)} {n : Nat} (hg : ∀ d ∈ c :: cs, good d) (hn : (c ++ preS cs).length ≤ n) : clN n (c ++ preS cs) [47] = 47 :: (c ++ preS cs) := by
  have hc := hg c (by simp)
  obtain ⟨b, r, rfl, hb⟩ := good_cons hc
  simp only [List.length_cons, List.length_append, List.cons_append] at hn
  obtain ⟨n, rfl⟩ : ∃ m, n = m + 1 := ⟨n - 1, by omega⟩
  have hh : headP (b :: (r ++ preS cs)) = b :: r := headP_good (c := b :: r) hc.2.1 (preS_cases cs)
  simp only [List.cons_append, clN, if_neg hb, hh, List.length_cons, List.length_nil]
  have e : List.drop (r.length + 1) (b :: (r ++ preS cs)) = preS cs := by
    rw [List.drop_succ_cons, List.drop_left]
  rw [e, clN_preS cs n _ (fun c hc => hg c (by simp [hc])) (by omega) (by simp)]
  simp
theorem clN_abs {c : List UInt8} {cs : List (List UInt8)} {n : Nat} (hg : ∀ d ∈ c :: cs, good d) (hn : (preS (c :: cs)).length ≤ n) : clN n (preS (c :: cs)) [47] = 47 :: (c ++ preS cs) := by
  simp only [preS, List.length_cons] at hn
  obtain ⟨n, rfl⟩ : ∃ m, n = m + 1 := ⟨n - 1, by omega⟩
  simp only [preS, clN, if_true]
  exact clN_rel hg (by omega)
theorem noDots_rel {c : List UInt8} {cs : List (List UInt8)} {n : Nat} (hg : ∀ d ∈ c :: cs, good d) (hn : (c ++ preS cs).length ≤ n) : noDots n (c ++ preS cs) := by
  have h := noDots_preS (c :: cs) (n + 1) hg (by simpa [preS] using hn)
  simpa [preS, noDots] using h
theorem dir_slash : ∀ (ds : List (List UInt8)) (e : List UInt8), 47 ∉ e → dirP (slashed ds ++ e) = slashed ds ∧ baseP (slashed ds ++ e) = e := by
  have key : ∀ (r m : List UInt8), 47 ∉ r → (m = [] ∨ ∃ m', m = 47 :: m') → (r ++ m).dropWhile (· != 47) = m ∧ (r ++ m).takeWhile (· != 47) = r := by
    intro r
    induction r with
    | nil =>
      intro m _ hm
      rcases hm with rfl | ⟨m', rfl⟩ <;> simp
    | cons b r ih =>
      intro m hr hm
      have hb : b ≠ 47 := fun e => hr (by simp [e])
      obtain ⟨h1, h2⟩ := ih m (fun e => hr (by simp [e])) hm
      exact ⟨by simp [hb, h1], by simp [hb, h2]⟩
  intro ds e he
  have hend : (slashed ds).reverse = [] ∨ ∃ m', (slashed ds).reverse = 47 :: m' := by
    rcases List.eq_nil_or_concat ds with rfl | ⟨ds', d, rfl⟩
    · exact .inl rfl
    · right
      rw [List.concat_eq_append, slashed_app]
      exact ⟨(slashed ds' ++ d).reverse, by simp [slashed]⟩
  have h := key e.reverse (slashed ds).reverse (by simpa using he) hend
  unfold dirP baseP
  rw [List.reverse_append, h.1, h.2, List.reverse_reverse, List.reverse_reverse]
  exact ⟨rfl, rfl⟩
end Go.Proofs.YtcdalfhkhifplaaGreatDoor
namespace Go.Proofs.YtcdalfhkhifplaaGreatDoor
open Go
set_option maxRecDepth 100000
set_option maxHeartbeats 4000000
attribute [local irreducible] E EO
def Grows (l l' : List Nd) : Prop := ∀ (j : Nat) (x : Nd), l[j]? = some x → ∃ x' : Nd, l'[j]? = some x' ∧ x'.g = x.g ∧ ∀ ks : List (List UInt8 × Nat), x.kids = some ks → ∃ ks' : List (List UInt8 × Nat), x'.kids = some ks' ∧ ∀ c p, look (kidE ks) c = some p → look (kidE ks') c = some p
theorem Way.grows {l l' : List Nd} {i k : Nat} {cs : List (List UInt8)} (h : Way l i cs k) (hg : Grows l l') : Way l' i cs k := by
  induction h with
  | here => exact .here
  | step h1 h2 h3 h4 _ ih =>
    obtain ⟨x', a1, a2, a3⟩ := hg _ _ h1
    obtain ⟨y', b1, b2, _⟩ := hg _ _ h4
    obtain ⟨ks', c1, c2⟩ := a3 _ h2
    exact .step a1 c1 (by rw [b2]; exact c2 _ _ h3) b1 ih
theorem Way.snoc {l : List Nd} {i k j : Nat} {cs : List (List UInt8)} {x y : Nd} {c : List UInt8} {ks : List (List UInt8 × Nat)} (h : Way l i cs k) (h1 : l[k]? = some x) (h2 : x.kids = some ks) (h3 : look (kidE ks) (str c) = some (ptrV y.g)) (h4 : l[j]? = some y) : Way l i (cs ++ [c]) j := by
  induction h with
  | here => exact .step h1 h2 h3 h4 .here
  | step a1 a2 a3 a4 _ ih => exact .step a1 a2 a3 a4 (ih h1)
theorem look_app_old {a b : Ents} {s : ByteArray} {u : Value} (h : look a s = some u) : look (a ++ b) s = some u := by
  unfold look at *
  rw [List.find?_append]
  cases hf : a.find? (fun p => decide (p.1 = s)) with
  | none => rw [hf] at h; cases h
  | some p => rw [hf] at h; simpa using h
theorem look_app_new {a : Ents} {s : ByteArray} {u : Value} (h : look a s = none) : look (a ++ [(s, u)]) s = some u := by
  unfold look at *
  rw [List.find?_append]
  cases hf : a.find? (fun p => decide (p.1 = s)) with
  | none => simp
  | some p => rw [hf] at h; cases h
abbrev addD (l : List Nd) (k : Nat) (z : Nd) (ks : List (List UInt8 × Nat)) (c : List UInt8) (g num md ui gi : Nat) : List Nd :=
  l.set k { z with links := z.links + 1, kids := some (ks ++ [(c, g)]) } ++ [⟨g, num, md, ui, gi, 2, 0, 262144, 0, [], [], some []⟩]
theorem addD_grows {l : List Nd} {k : Nat} {z : Nd} {ks : List (List UInt8 × Nat)} (c : List UInt8) (g num md ui gi : Nat) (hz : l[k]? = some z) (hk : z.kids = some ks) : Grows l (addD l k z ks c g num md ui gi) := by
  intro j x hx
  have hj := (List.getElem?_eq_some_iff.1 hx).1
  rw [addD, List.getElem?_append_left (by simpa using hj)]
  by_cases hkj : k = j
  · subst hkj
    rw [hz] at hx; cases hx
    refine ⟨_, List.getElem?_set_self hj, rfl, fun ks' hks' => ?_⟩
    rw [hk] at hks'; cases hks'
    exact ⟨_, rfl, fun c' p hp => by rw [kidE, List.map_append]; exact look_app_old hp⟩
  · rw [List.getElem?_set_ne hkj]
    exact ⟨x, hx, rfl, fun ks hks => ⟨ks, hks, fun _ _ h => h⟩⟩
theorem addD_new {l : List Nd} {k : Nat} {z : Nd} {ks : List (List UInt8 × Nat)} (c : List UInt8) (g num md ui gi : Nat) : (addD l k z ks c g num md ui gi)[l.length]? = some ⟨g, num, md, ui, gi, 2, 0, 262144, 0, [], [], some []⟩ := by
  rw [addD, List.getElem?_append_right (by simp)]
  simp
theorem addD_old {l : List Nd} {k : Nat} {z : Nd} {ks : List (List UInt8 × Nat)} (c : List UInt8) (g num md ui gi : Nat) (hz : l[k]? = some z) : (addD l k z ks c g num md ui gi)[k]? = some { z with links := z.links + 1, kids := some (ks ++ [(c, g)]) } := by
  have hk := (List.getElem?_eq_some_iff.1 hz).1
  rw [addD, List.getElem?_append_left (by simpa using hk), List.getElem?_set_self hk]
theorem getI_app {ids r : List (Option Nat)} {n g : Nat} (h : getI ids n = some g) : getI (ids ++ r) n = some g := by
  unfold getI at *
  by_cases hn : n = 0
  · rw [if_pos hn] at h; cases h
  · rw [if_neg hn] at h ⊢
    rw [List.getElem?_append_left]
    · exact h
    · refine Nat.lt_of_not_le fun hle => ?_
      rw [List.getElem?_eq_none hle] at h
      cases h
theorem clN_new {ds : List (List UInt8)} {c : List UInt8} {n : Nat} (hg : ∀ d ∈ ds ++ [c], good d) (hn : (preS (ds ++ [c])).length ≤ n) : clN n (preS (ds ++ [c])) [47] = 47 :: (slashed ds ++ c) := by
  cases ds with
  | nil =>
    have := clN_abs (c := c) (cs := []) hg hn
    simpa [preS, slashed] using this
  | cons d ds =>
    have := clN_abs (c := d) (cs := ds ++ [c]) hg hn
    rw [slash_pre] at this
    exact this
theorem slashed_len : ∀ cs : List (List UInt8), (slashed cs).length = (preS cs).length
  | [] => rfl
  | c :: cs => by simp [slashed, preS, slashed_len cs]; omega
def mpL (md ui gi : Nat) : List Nd → Nat → Nat → List (List UInt8 × Nat) → List Nd
  | l, _, _, [] => l
  | l, k, num, (c, g) :: r => match l[k]? with
    | some z => mpL md ui gi (addD l k z (z.kids.getD []) c g num md ui gi) l.length (num + 1) r
    | none => l
structure MpI where
  l : List Nd
  k : Nat
  z : Nd
  ks : List (List UInt8 × Nat)
  dn : List (List UInt8)
  rm : List (List UInt8)
  gs : List Nat
  y : Nd
  u11 : Value
  u12 : Value
  u13 : Value
  u14 : Value
  u15 : Value
def MpI.ok (q : MpI) (s : Ws) (l : List Nd) (x : Nd) (names : List (List UInt8)) : Prop :=
  q.dn ++ q.rm = names ∧ q.l[q.k]? = some q.z ∧ q.z.kids = some q.ks ∧ Way q.l 0 q.dn q.k ∧ q.l[0]? = some q.y ∧ q.y.g = x.g ∧ (∀ c ∈ q.rm.head?, look (kidE q.ks) (str c) = none) ∧
  (q.z.mode = x.mode ∧ q.z.uid = x.uid ∧ q.z.gid = x.gid ∧ q.z.links ≤ 60000) ∧ q.gs.length = q.dn.length ∧
  ∀ gr, mpL x.mode x.uid x.gid q.l q.k (s.ids.length + q.gs.length + 1) (q.rm.zip gr) = mpL x.mode x.uid x.gid l 0 (s.ids.length + 1) (names.zip (q.gs ++ gr))
theorem makeParents_fn (s : Ws) (l : List Nd) (x : Nd) (ks0 : List (List UInt8 × Nat)) (names : List (List UInt8)) (last nm : List UInt8)
    (hcur : s.cur = none) (hx : l[0]? = some x) (hg : getI s.ids 2 = some x.g) (hk : x.kids = some ks0) (hlk : x.links < 60000) (hm : x.mode &&& 61440 = 16384) (hm2 : x.mode < 65536) (hui : x.uid < 4294967296) (hgi : x.gid < 4294967296)
    (hl : s.ids.length + names.length ≤ 10000000) (hgood : ∀ c ∈ names ++ [last], good c ∧ c.length ≤ 255) (hnum : names.length ≤ 1000) (hno : ∀ c ∈ names.head?, look (kidE ks0) (str c) = none)
    (hnl : nm.length ≤ 100000000) (hnd : noDots nm.length nm) (hcl : clN nm.length nm [47] = 47 :: (slashed names ++ last)) (hlen : (preS (names ++ [last])).length ≤ 1000000) :
    Fe Tryz.prog 32 #[ptrV s.wg, .string (str nm)] [WP s, NodesP l] (fun gs : List Nat => gs.length = names.length) (fun _ => .nilIface)
      (fun gs => [WP { s with ids := s.ids ++ gs.map some }, NodesP (mpL x.mode x.uid x.gid l 0 (s.ids.length + 1) (names.zip gs))]) := by
  have hlast := hgood last (by simp)
  have hds := dir_slash names last hlast.1.2.1
  have hcl' := clean_fn nm hnl hnd
  rw [hcl] at hcl'
  have hql : (slashed names ++ last).length ≤ 1000000 := by
    cases names with
    | nil => simp only [slashed, List.nil_append, preS, List.length_cons, List.length_append] at hlen ⊢; omega
    | cons c cs =>
      have := slash_pre cs c last
      rw [← this]
      simp only [List.cons_append, preS, List.length_cons] at hlen
      omega
  have hsp := split_fn (slashed names ++ last) (by omega)
  rw [hds.1, hds.2] at hsp
  have hr := root_fn s (by omega)
  rw [hg] at hr
  refine fn_of_E' (args := [_, _]) 16 _ [_, _, undef, undef, undef, undef, undef, undef, undef, undef, undef, undef, undef, undef, undef, undef] Tryz.func32 rfl Tryz.ntmps32 ?_
  refine walk ?_
  refine y_callD rfl rfl (finish0_w s hcur) ?_
  refine walk ?_
  refine y_callD rfl rfl hcl' ?_
  refine walk ?_
  refine y_callq rfl rfl hsp ?_
  refine walk ?_
  refine y_callq rfl rfl hr ?_
  refine walk ?_
  refine e_rounds (ι := MpI) (fun q => q.rm.length) (fun q => [ptrV s.wg, .string (str nm), undef, undef, .nilIface, .nilIface, .string (str (List.drop 1 (47 :: (slashed names ++ last)))), .string (str (slashed q.rm)), .string (str last), .string (str (preS q.dn)), ptrV q.z.g, q.u11, q.u12, q.u13, q.u14, q.u15])
    (fun q => [WP { s with ids := s.ids ++ q.gs.map some }, NodesP q.l]) (fun q => q.ok s l x names)
    ⟨l, 0, x, ks0, [], names, [], x, .string ⟨#[]⟩, undef, undef, undef, undef⟩ ⟨rfl, hx, hk, .here, hx, rfl, hno, ⟨rfl, rfl, rfl, by dsimp only; omega⟩, rfl, fun gr => rfl⟩ rfl (List.Perm.of_eq (by simp)) ?_
  rintro ⟨lq, k, z, ks, dn, rm, gs, y, u11, u12, u13, u14, u15⟩ ⟨hnm, hz, hkz, hw, hy, hyg, hno, ⟨hmz, huz, hgz, hlz⟩, hgs, hmp⟩ again
  dsimp only at hnm hz hkz hw hy hyg hno hmz huz hgz hlz hgs hmp again ⊢
  cases rm with
  | nil =>
    have e := hmp []
    simp only [List.zip_nil_left, List.append_nil, mpL] at e
    refine walk ?_
    exact y_ret [4] rfl ⟨gs, by rw [hgs, ← hnm]; simp, rfl, congrArg (fun u => [WP { s with ids := s.ids ++ gs.map some }, NodesP u]) e⟩
  | cons c rm =>
    have hcg := hgood c (by rw [← hnm]; simp)
    have hc : 47 ∉ c := hcg.1.2.1
    have hgd : ∀ d ∈ dn ++ [c], good d := fun d hd => (hgood d (by rw [← hnm]; simp at hd ⊢; rcases hd with h | h <;> simp [h])).1
    have hnlen : (dn ++ (c :: rm)).length ≤ 1000 := by rw [hnm]; exact hnum
    have hdlen : dn.length ≤ 1000 := by simp at hnlen; omega
    have hgsl : gs.length ≤ 1000 := by omega
    have hidl : s.ids.length + gs.length + 1 ≤ 10000000 := by rw [← hnm] at hl; simp at hl; omega
    have hplen : (preS (dn ++ [c])).length ≤ 1000000 := by
      rw [← hnm, show dn ++ c :: rm ++ [last] = (dn ++ [c]) ++ (rm ++ [last]) by simp, preS_app, List.length_append] at hlen; omega
    have hpl : (preS dn).length ≤ 1000000 := by rw [preS_app, List.length_append] at hplen; omega
    have hcl2 := hcg.2
    have hpe : preS dn ++ ([47] ++ c) = preS (dn ++ [c]) := by simp [preS_app, preS]
    have hslen : (slashed (c :: rm)).length ≤ 1000000 := by
      rw [← hnm, show dn ++ c :: rm ++ [last] = dn ++ ((c :: rm) ++ [last]) by simp, preS_app, preS_app, List.length_append, List.length_append] at hlen
      rw [slashed_len]; omega
    have hsf := splitFirst_fn (slashed (c :: rm)) (by omega)
    rw [show headP (slashed (c :: rm)) = c from (headP_slash c _ hc).1, show tailP (slashed (c :: rm)) = slashed rm from (headP_slash c _ hc).2] at hsf
    have hpos : 0 < (slashed (c :: rm)).length := by simp [slashed]; omega
    have hne : (slashed (c :: rm) != []) = true := by cases c <;> simp [slashed]
    have hno' : look (kidE ks) (str c) = none := hno c (by simp)
    refine walk ?_
    rw [hne]
    refine walk ?_
    refine y_callq rfl rfl hsf ?_
    refine walk ?_
    refine y_tno5 (NodesP.opK hz hkz) fun A c0 A' c' gm _ => ?_
    refine walk ?_
    rw [hpe]
    refine walk ?_
    refine y_lookOkNo hno' ?_
    refine walk ?_
    refine y_callG rfl rfl toTime0_fn ?_
    refine walk ?_
    refine y_callG rfl rfl toTime0_fn ?_
    refine walk ?_
    refine y_callG rfl rfl toTime0_fn ?_
    refine walk ?_
    refine y_callG rfl rfl toTime0_fn ?_
    refine walk ?_
    refine y_map fun gxm => ?_
    refine walk ?_
    refine y_boxA rfl fun gf => ?_
    refine walk ?_
    refine EO.eqL (L' := [Cells gf 119 (fileC 0 z.mode z.uid z.gid (.map (some gxm))), _, _, _, _, _, _, _]) rfl ?_
    refine y_tno (NodesP.clK (l := lq) z (List.getElem?_eq_some_iff.1 hz).1 hkz rfl) fun _ _ => ?_
    rw [set_same hz]
    have hds := dir_slash dn c hc
    have hsl : (slashed dn ++ c).length ≤ 1000000 + 255 := by rw [List.length_append, slashed_len]; omega
    refine y_callE rfl rfl (createDir2_fn gxm { s with ids := s.ids ++ gs.map some } { s with ids := s.ids ++ gs.map some } lq lq (preS (dn ++ [c])) (slashed dn ++ c) c dn 0 k y z ks gf z.mode z.uid z.gid 0
      ((finish0_w { s with ids := s.ids ++ gs.map some } hcur).frame) hy hz (by rw [hyg]; exact getI_app hg) (by simp; omega) (by omega) (noDots_preS _ _ hgd (Nat.le_refl _)) (clN_new hgd (Nat.le_refl _)) (by omega) hds.1 hds.2
      (List.length_pos_iff.2 hcg.1.1) hcg.2 (fun d hd => (hgd d (by simp [hd])).2.1) hw hkz (by rw [hmz]; exact hm) (by rw [hmz]; exact hm2) hno' (by omega) (by rw [hmz]; exact hm) (by rw [hmz]; exact hm2) (by rw [huz]; exact hui) (by rw [hgz]; exact hgi)) fun g _ => ?_
    dsimp only
    refine walk ?_
    refine EO.eqL (L' := [WP { s with ids := s.ids ++ (gs ++ [g]).map some }, NodesP (addD lq k z ks c g (s.ids.length + gs.length + 1) z.mode z.uid z.gid)]) (by simp) ?_
    have hold := addD_old c g (s.ids.length + gs.length + 1) z.mode z.uid z.gid (ks := ks) hz
    have hnew := addD_new (l := lq) (k := k) (z := z) (ks := ks) c g (s.ids.length + gs.length + 1) z.mode z.uid z.gid
    have hgr := addD_grows c g (s.ids.length + gs.length + 1) z.mode z.uid z.gid hz hkz
    have hkid : look (kidE (ks ++ [(c, g)])) (str c) = some (ptrV g) := by rw [kidE, List.map_append]; exact look_app_new hno'
    obtain ⟨y', hy', hyg', _⟩ := hgr _ _ hy
    have hmp' := fun gr => hmp (g :: gr)
    simp only [List.zip_cons_cons, mpL, hz, hkz, Option.getD_some] at hmp'
    generalize hln : addD lq k z ks c g (s.ids.length + gs.length + 1) z.mode z.uid z.gid = ln at hold hnew hgr hy'
    refine y_tno5 (NodesP.opK hold rfl) fun A3 c3 A4 c4 gm2 _ => ?_
    refine walk ?_
    refine y_lookS hkid ?_
    refine walk ?_
    refine y_tn (NodesP.clK (l := ln) { z with links := z.links + 1, kids := some (ks ++ [(c, g)]) } (List.getElem?_eq_some_iff.1 hold).1 rfl rfl) fun _ _ => ?_
    rw [set_same hold]
    refine E.perm (List.Perm.swap _ _ _) ?_
    refine (again ⟨ln, lq.length, ⟨g, s.ids.length + gs.length + 1, z.mode, z.uid, z.gid, 2, 0, 262144, 0, [], [], some []⟩, [], dn ++ [c], rm, gs ++ [g], y', .string (str c), .pointer none, .bool false, ptrV gf, .nilIface⟩ (by simp)
      ⟨by simp [← hnm], hnew, rfl, (hw.grows hgr).snoc hold rfl hkid hnew, hy', hyg'.trans hyg, fun _ _ => rfl, ⟨hmz, huz, hgz, by dsimp only; omega⟩, by simp [hgs], fun gr => ?_⟩).to rfl rfl
    have h := hmp' gr
    dsimp only
    rw [← hmz, ← huz, ← hgz] at h ⊢
    rw [hln] at h
    rw [List.append_assoc, List.length_append]
    exact h
end Go.Proofs.YtcdalfhkhifplaaGreatDoor
namespace Go.Proofs.YtcdalfhkhifplaaGreatDoor
open Go
set_option maxRecDepth 100000
set_option maxHeartbeats 4000000
attribute [local irreducible] E EO
def Ice (g : Nat) (bs : List UInt8) : HP where
  sat h S := (∀ x, S x ↔ x = g) ∧ ∃ e fr junk, h g = some (.cells (enc bs ++ junk).toArray e fr)
  loc hs he := ⟨hs.1, by rw [he _ ((hs.1 _).2 rfl)]; exact hs.2⟩
  dom {h S x} hs hx := by have := (hs.1 x).1 hx; subst this; obtain ⟨e, fr, junk, h⟩ := hs.2; rw [h]; simp
theorem Rd.ice {g : Nat} {bs : List UInt8} : Rd [Ice g bs] (some ⟨g, 0, none⟩) bs.length 1 (enc bs) := ⟨by rw [enc_len]; omega, .inr ⟨g, 0, rfl, by
  intro j v hj mm S hS
  simp only [Nat.zero_add]
  obtain ⟨_, e, fr, junk, hg⟩ := sats_one' hS
  refine ⟨_, _, _, hg, ?_⟩
  have := (List.getElem?_eq_some_iff.1 hj).1
  simp only [List.getElem?_toArray]
  rw [List.getElem?_append_left this, hj]⟩⟩
theorem Rd.zeros4 {g t m : Nat} (hm : m ≤ 4) : Rd [Cells g t [.int .u8 0, .int .u8 0, .int .u8 0, .int .u8 0]] (some ⟨g, 0, none⟩) m 1 (enc (List.replicate m 0)) := ⟨by rw [enc_len, List.length_replicate]; omega, .inr ⟨g, 0, rfl, by
  intro j v hj mm S hS
  simp only [Nat.zero_add]
  obtain ⟨_, hg⟩ := sats_one' hS
  refine ⟨_, _, _, hg, ?_⟩
  rw [enc_zeros] at hj
  obtain ⟨h1, h2⟩ := List.getElem?_eq_some_iff.1 hj
  rw [List.length_replicate] at h1
  rw [List.getElem_replicate] at h2
  subst h2
  rcases (show j = 0 ∨ j = 1 ∨ j = 2 ∨ j = 3 by omega) with rfl | rfl | rfl | rfl <;> rfl⟩⟩
section ops
variable {X : Fx} {ops : Array Oper} {cf : Nat → Cls} {k : List Item} {i : Nat} {is : List Nat} {l : List Oper} {loc loc' : List Value} {tmp tmp' : List (Nat × Value)} {L L' F : List HP}
  {d : Option Tmp} {ty : TypeId} {pos : String} {aft : Array Edge} {gd : Option (Nat × Bool)}
theorem y_bytes {S T e : Nat} {x : Operand} {bs : List UInt8} {locf : Nat → Nat → List Value} {tmpf : Nat → Nat → List (Nat × Value)} [StrTy X.P S] [SlTy X.P T e 1] [hI : IntTy X.P e .u8] (hx : sv loc tmp x = some (.string (str bs)))
    (h : ∀ g c, EO X ops cf k is l (locf g c) (tmpf g c) (Ice g bs :: L))
    (hp : ∀ g c, Pt loc tmp d (.slice (some ⟨g, 0, none⟩) bs.length c) (locf g c) (tmpf g c) := by intro g c; first | exact Pt.tmp rfl | exact Pt.none | exact Pt.loc (by repeat constructor))
    (hg : gdv ops loc tmp gd = some true := by rfl) (hd : dOK X.n d = true := by rfl) (hcl : cf i = .any := by rfl) (hq : X.q = false := by rfl) : EO X ops cf k (i :: is) (⟨d, .convert S T x, ty, pos, aft, gd⟩ :: l) loc tmp L :=
  x_any (Rv := fun v L'' => ∃ g c, v = .slice (some ⟨g, 0, none⟩) bs.length c ∧ L'' = Ice g bs :: L) hg hcl (fun a hrl w0 S0 w hs q => by
    obtain ⟨hu, _⟩ := SlTy.out (P := X.P) (T := T) (e := e) (sz := 1)
    have hu' := (inferInstance : StrTy X.P S).h
    have he := IntTy.out (P := X.P) (T := e) (K := .u8)
    have hrun := Go.Lib.run_convert_string_bytes (P := X.P) (wat w q) S T e (str bs) hu' hu he
    have h1 : St false w0 S0 ([Ice w.heap.size bs] ++ L) (Go.Lib.bytesWorld (wat w q) e (str bs)) := by
      refine St.step (M := []) (L' := [Ice w.heap.size bs]) (F := L) (hs.wat q) rfl rfl rfl (by rw [Go.Lib.bytesWorld_size]; exact Nat.le_succ _) fun S hS => ⟨fun x hx _ => Go.Lib.bytesWorld_at_old (wat w q) e (str bs) x hx, fun x => x = w.heap.size, ?_, fun x hx => .inr (by rw [hx]; exact Nat.le_refl _)⟩
      have hcell : Go.Lib.bytesCells (wat w q) e (str bs) = (enc bs ++ List.replicate (grownCap (wat w q) (str bs).size 0 e - (str bs).size) (Value.int .u8 0)).toArray := by
        apply Array.ext'
        simp [Go.Lib.bytesCells, enc, str]
      refine sats_one ⟨fun _ => Iff.rfl, e, ((Go.Lib.bytesCells (wat w q) e (str bs)).size, (Go.Lib.bytesCells (wat w q) e (str bs)).size + 1), List.replicate (grownCap (wat w q) (str bs).size 0 e - (str bs).size) (.int .u8 0), ?_⟩
      rw [← hcell]
      exact Go.Lib.bytesWorld_at_new (wat w q) e (str bs)
    simp [RunN, execOp, hrl.ev hx, hrun, str_size]
    rw [hq]
    exact h1) hd (fun v L'' ⟨g, c, e1, e2⟩ => by subst e1 e2; exact ⟨_, _, hp g c, h g c⟩)
end ops
def ftN (md : Nat) : Nat := if md &&& 61440 = 32768 then 1 else if md &&& 61440 = 16384 then 2 else if md &&& 61440 = 8192 then 3 else if md &&& 61440 = 24576 then 4 else if md &&& 61440 = 4096 then 5 else if md &&& 61440 = 49152 then 6 else if md &&& 61440 = 40960 then 7 else 0
theorem ftN_lt (md : Nat) : ftN md < 256 := by unfold ftN; repeat' split <;> try omega
theorem mft_fn (md : Nat) (h : md < 65536) : Qn Tryz.prog 128 #[.int .u16 (md : Int)] [] (.int .u8 (ftN md : Nat)) := by
  refine fn_of_E' (args := [_]) 3 _ [_, undef, undef] Tryz.func128 rfl Tryz.ntmps128 ?_
  by_cases h1 : md &&& 61440 = 32768
  · refine walk ?_
    refine y_ret [2] rfl ?_
    simp [packV, ftN, h1]
  by_cases h2 : md &&& 61440 = 16384
  · refine walk ?_
    refine y_ret [2] rfl ?_
    simp [packV, ftN, h1, h2]
  by_cases h3 : md &&& 61440 = 8192
  · refine walk ?_
    refine y_ret [2] rfl ?_
    simp [packV, ftN, h1, h2, h3]
  by_cases h4 : md &&& 61440 = 24576
  · refine walk ?_
    refine y_ret [2] rfl ?_
    simp [packV, ftN, h1, h2, h3, h4]
  by_cases h5 : md &&& 61440 = 4096
  · refine walk ?_
    refine y_ret [2] rfl ?_
    simp [packV, ftN, h1, h2, h3, h4, h5]
  by_cases h6 : md &&& 61440 = 49152
  · refine walk ?_
    refine y_ret [2] rfl ?_
    simp [packV, ftN, h1, h2, h3, h4, h5, h6]
  by_cases h7 : md &&& 61440 = 40960
  · refine walk ?_
    refine y_ret [2] rfl ?_
    simp [packV, ftN, h1, h2, h3, h4, h5, h6, h7]
  refine walk ?_
  refine y_ret [2] rfl ?_
  simp [packV, ftN, h1, h2, h3, h4, h5, h6, h7]
theorem WriteN_w (s : Ws) (l : List Nd) (k : Nat) (x : Nd) (bs : List UInt8) (X : Option Addr) (m cx : Nat) (M : HP) (hx : l[k]? = some x) (hr : Rd [M] X m 1 (enc bs)) (hm : bs.length = m) (hcur : s.cur = some x.g) (hfl : x.flags &&& 268435456 = 0) (hf2 : x.flags < 4294967296) (hd : s.dw + m ≤ s.dm) (hdm : s.dm ≤ 9223372036854775807) (hw : s.dw ≤ 1000000000) (hb : s.body.length + m ≤ 1000000000) :
    Fd Tryz.prog 28 #[ptrV s.wg, .slice X m cx] [WP s, NodesP l, M] (.tuple #[.int .i64 m, .nilIface])
      [WP { s with dw := s.dw + m, body := s.body ++ bs }, NodesP l, M] := by
  rcases Nat.eq_zero_or_pos m with rfl | hpos
  · have h0 : bs = [] := List.length_eq_zero_iff.1 hm
    subst h0
    rw [List.append_nil, Nat.add_zero]
    exact Write0_w s.wg X cx _
  · refine y_fn (NodesP.open hx) fun _ _ => ?_
    have h := ((WriteP_w s x bs X m cx M hr hm hpos hcur hfl hf2 hd hdm hw hb).frame (L := [NodeP x, NodesP (l.eraseIdx k), WP s, M])).close (NodesP.close x (List.getElem?_eq_some_iff.1 hx).1) (M' := [WP { s with dw := s.dw + m, body := s.body ++ bs }, NodesP (l.set k x), M])
    rw [set_same hx] at h
    exact h
def padD (n : Nat) : List UInt8 := leB 4 0 ++ leB 2 n ++ leB 1 0 ++ leB 1 0 ++ List.replicate (n - 8) 0
theorem fin_fn (s : Ws) (l : List Nd) (k : Nat) (x : Nd) (gl gw n : Nat) (hx : l[k]? = some x) (hn : 12 ≤ n) (hn2 : n ≤ 4096) (hcur : s.cur = some x.g) (hfl : x.flags &&& 268435456 = 0) (hf2 : x.flags < 4294967296) (hdm : s.dm = 9223372036854775807) (hw : s.dw ≤ 100000000) (hb : s.body.length ≤ 100000000) :
    Fd Tryz.prog 125 #[ptrV gl, ptrV gw] [Cells gl 3 [.int .i64 (n : Int)], Cells gw 84 [ptrV s.wg], WP s, NodesP l] .nilIface
      [Cells gl 3 [.int .i64 4096], Cells gw 84 [ptrV s.wg], WP { s with dw := s.dw + n, body := s.body ++ padD n }, NodesP l] := by
  refine fn_of_E' (args := [_, _]) 6 _ [_, _, undef, undef, undef, undef] Tryz.func125 rfl Tryz.ntmps125 ?_
  refine walk ?_
  refine y_alloc fun ge => ?_
  refine walk ?_
  refine y_callS rfl rfl (dirEntryBytes_fn 0 n 0 0 (by omega) (by omega) (by omega) (by omega)) fun g c => ?_
  refine walk ?_
  refine y_callD rfl rfl (WriteN_w s l k x (leB 4 0 ++ leB 2 n ++ leB 1 0 ++ leB 1 0) (some ⟨g, 0, none⟩) 8 c _ hx (Rd.own (e := 5) (c := c) (by simp [enc_len, leB_len])) (by simp [leB_len]) hcur hfl hf2 (by omega) (by omega) (by omega) (by omega)) ?_
  refine walk ?_
  refine y_make rfl rfl fun g2 => ?_
  refine walk ?_
  refine y_callD rfl rfl (WriteN_w { s with dw := s.dw + 8, body := s.body ++ (leB 4 0 ++ leB 2 n ++ leB 1 0 ++ leB 1 0) } l k x (List.replicate (n - 8) 0) (some ⟨g2, 0, none⟩) (n - 8) (n - 8) _ hx (by rw [enc_zeros]; exact Rd.own (e := 5) (c := n - 8) (by simp)) (by simp) hcur hfl hf2 (by dsimp only; omega) (by dsimp only; omega) (by dsimp only; omega) (by simp [leB_len]; omega)) ?_
  dsimp only
  refine walk ?_
  rw [show s.dw + 8 + (n - 8) = s.dw + n by omega, List.append_assoc, show leB 4 0 ++ leB 2 n ++ leB 1 0 ++ leB 1 0 ++ List.replicate (n - 8) 0 = padD n from rfl]
  exact y_ret [2] rfl ⟨rfl, rfl⟩
def rlN (nm : List UInt8) : Nat := (nm.length + 11) / 4 * 4
def entD (num : Nat) (nm : List UInt8) (ft : Nat) : List UInt8 := leB 4 num ++ leB 2 (rlN nm) ++ leB 1 nm.length ++ leB 1 ft ++ nm ++ List.replicate (rlN nm - (8 + nm.length)) 0
def stepD (n num : Nat) (nm : List UInt8) (ft : Nat) : List UInt8 := (if n < rlN nm + 12 then padD n else []) ++ entD num nm ft
def leftD (n : Nat) (nm : List UInt8) : Nat := (if n < rlN nm + 12 then 4096 else n) - rlN nm
theorem rl_and {nm : List UInt8} (h : nm.length ≤ 255) : IntKind.i64.wrap ((BitVec.ofInt IntKind.i64.bits ((8 + nm.length + 3 : Nat) : Int) &&& BitVec.ofInt IntKind.i64.bits (-4)).toNat : Int) = ((rlN nm : Nat) : Int) := by
  have key : (BitVec.ofInt 64 ((8 + nm.length + 3 : Nat) : Int) &&& BitVec.ofInt 64 (-4)).toNat = rlN nm := by
    rw [BitVec.ofInt_natCast, show BitVec.ofInt 64 (-4) = ~~~ (BitVec.ofNat 64 3) by decide, and_not3 _ (by omega), show 8 + nm.length + 3 = nm.length + 11 by omega]
    rfl
  have hb : rlN nm ≤ 1000 := by unfold rlN; omega
  show IntKind.i64.wrap (((BitVec.ofInt 64 ((8 + nm.length + 3 : Nat) : Int) &&& BitVec.ofInt 64 (-4)).toNat : Nat) : Int) = _
  rw [key, wi64 (by omega) (by omega)]
theorem ent_fn (s : Ws) (l : List Nd) (k j : Nat) (x y : Nd) (nm : List UInt8) (num gl gf gw n : Nat) (hx : l[k]? = some x) (hy : l[j]? = some y) (hg : getI s.ids num = some y.g) (hym : y.mode < 65536) (hnum : num < 4294967296) (hil : s.ids.length ≤ 100000000) (hnm : nm.length ≤ 255)
    (hn : 12 ≤ n) (hn2 : n ≤ 4096) (hcur : s.cur = some x.g) (hfl : x.flags &&& 268435456 = 0) (hf2 : x.flags < 4294967296) (hdm : s.dm = 9223372036854775807) (hw : s.dw ≤ 90000000) (hb : s.body.length ≤ 90000000) :
    Fd Tryz.prog 127 #[.int .u32 (num : Int), .string (str nm), ptrV gl, ptrV gf, ptrV gw] [Cells gl 3 [.int .i64 (n : Int)], Cells gf 101 [.func (.func 125) #[] #[ptrV gl, ptrV gw]], Cells gw 84 [ptrV s.wg], WP s, NodesP l] .nilIface
      [Cells gl 3 [.int .i64 (leftD n nm : Nat)], Cells gf 101 [.func (.func 125) #[] #[ptrV gl, ptrV gw]], Cells gw 84 [ptrV s.wg], WP { s with dw := s.dw + (stepD n num nm (ftN y.mode)).length, body := s.body ++ stepD n num nm (ftN y.mode) }, NodesP l] := by
  have hand := rl_and hnm
  have hpadl : ∀ m, (padD m).length = 8 + (m - 8) := fun m => by simp only [padD, List.length_append, leB_len, List.length_replicate]
  have hrl : rlN nm ≤ 264 ∧ 8 + nm.length ≤ rlN nm ∧ rlN nm ≤ 11 + nm.length := by unfold rlN; omega
  refine fn_of_E' (args := [_, _, _, _, _]) 15 _ [_, _, _, _, _, undef, undef, undef, undef, undef, undef, undef, undef, undef, undef] Tryz.func127 rfl Tryz.ntmps127 ?_
  refine walk ?_
  rw [hand]
  by_cases hc : n < rlN nm + 12
  · rw [show decide ((n : Int) < ((rlN nm : Nat) : Int) + 12) = true from decide_eq_true (by omega)]
    refine walk ?_
    refine y_callD rfl rfl (fin_fn s l k x gl gw n hx hn hn2 hcur hfl hf2 hdm (by omega) (by omega)) ?_
    dsimp only
    refine walk ?_
    refine y_callq rfl rfl (getI_fn { s with dw := s.dw + n, body := s.body ++ padD n } num hnum (by first | omega | (dsimp only; omega))) ?_
    try dsimp only
    rw [hg]
    refine walk ?_
    refine y_loadC (v := .int .u16 (y.mode : Int)) (.there <| .there <| .there (NodesP.cell hy 6 _ fun _ => rfl)) ?_
    refine walk ?_
    refine y_callq rfl rfl (mft_fn y.mode hym) ?_
    refine walk ?_
    refine y_alloc fun ge => ?_
    refine walk ?_
    refine y_callS rfl rfl (dirEntryBytes_fn num (rlN nm) nm.length (ftN y.mode) (by omega) (by omega) (by omega) (ftN_lt _)) fun g c => ?_
    refine walk ?_
    refine y_callD rfl rfl (WriteN_w { s with dw := s.dw + n, body := s.body ++ padD n } l k x (leB 4 num ++ leB 2 (rlN nm) ++ leB 1 nm.length ++ leB 1 (ftN y.mode)) (some ⟨g, 0, none⟩) 8 c _ hx (Rd.own (e := 5) (c := c) (by simp [enc_len, leB_len])) (by simp [leB_len]) hcur hfl hf2 (by first | omega | (dsimp only; omega)) (by first | omega | (dsimp only; omega)) (by first | omega | (dsimp only; omega)) (by simp [padD, leB_len] <;> omega)) ?_
    try dsimp only
    refine walk ?_
    refine y_bytes rfl fun g2 c2 => ?_
    refine walk ?_
    refine y_callD rfl rfl (WriteN_w { s with dw := s.dw + n + 8, body := s.body ++ padD n ++ (leB 4 num ++ leB 2 (rlN nm) ++ leB 1 nm.length ++ leB 1 (ftN y.mode)) } l k x nm (some ⟨g2, 0, none⟩) nm.length c2 _ hx Rd.ice rfl hcur hfl hf2 (by first | omega | (dsimp only; omega)) (by first | omega | (dsimp only; omega)) (by first | omega | (dsimp only; omega)) (by have := hpadl n; simp only [List.length_append, hpadl, leB_len] <;> omega)) ?_
    try dsimp only
    refine walk ?_
    refine y_alloc fun gz => ?_
    refine walk ?_
    refine y_callD rfl rfl (WriteN_w { s with dw := s.dw + n + 8 + nm.length, body := s.body ++ padD n ++ (leB 4 num ++ leB 2 (rlN nm) ++ leB 1 nm.length ++ leB 1 (ftN y.mode)) ++ nm } l k x (List.replicate (rlN nm - (8 + nm.length)) 0) (some ⟨gz, 0, none⟩) (rlN nm - (8 + nm.length)) 4 _ hx (Rd.zeros4 (t := 167) (by omega)) (by simp) hcur hfl hf2 (by first | omega | (dsimp only; omega)) (by first | omega | (dsimp only; omega)) (by first | omega | (dsimp only; omega)) (by have := hpadl n; simp only [List.length_append, hpadl, leB_len] <;> omega)) ?_
    try dsimp only
    refine walk ?_
    have e1 : leftD n nm = 4096 - rlN nm := by unfold leftD; rw [if_pos hc]
    have e2 : s.body ++ stepD n num nm (ftN y.mode) = s.body ++ padD n ++ (leB 4 num ++ leB 2 (rlN nm) ++ leB 1 nm.length ++ leB 1 (ftN y.mode)) ++ nm ++ List.replicate (rlN nm - (8 + nm.length)) 0 := by unfold stepD entD; rw [if_pos hc]; simp only [List.append_assoc, List.nil_append]
    have e3 : s.dw + (stepD n num nm (ftN y.mode)).length = s.dw + n + 8 + nm.length + (rlN nm - (8 + nm.length)) := by unfold stepD entD; rw [if_pos hc]; simp only [List.length_append, hpadl, leB_len, List.length_replicate, List.length_nil]; omega
    refine E.eqL (L' := [WP { s with dw := s.dw + (stepD n num nm (ftN y.mode)).length, body := s.body ++ stepD n num nm (ftN y.mode) }, NodesP l, _, _, _, _, Cells gl 3 [.int .i64 (leftD n nm : Nat)], _, _]) (by rw [e1, e2, e3]) ?_
    exact y_ret [7] rfl ⟨rfl, rfl⟩
  · rw [show decide ((n : Int) < ((rlN nm : Nat) : Int) + 12) = false from decide_eq_false (by omega)]
    refine walk ?_
    refine y_callq rfl rfl (getI_fn s num hnum (by first | omega | (dsimp only; omega))) ?_
    try dsimp only
    rw [hg]
    refine walk ?_
    refine y_loadC (v := .int .u16 (y.mode : Int)) (.there <| .there <| .there <| .there (NodesP.cell hy 6 _ fun _ => rfl)) ?_
    refine walk ?_
    refine y_callq rfl rfl (mft_fn y.mode hym) ?_
    refine walk ?_
    refine y_alloc fun ge => ?_
    refine walk ?_
    refine y_callS rfl rfl (dirEntryBytes_fn num (rlN nm) nm.length (ftN y.mode) (by omega) (by omega) (by omega) (ftN_lt _)) fun g c => ?_
    refine walk ?_
    refine y_callD rfl rfl (WriteN_w s l k x (leB 4 num ++ leB 2 (rlN nm) ++ leB 1 nm.length ++ leB 1 (ftN y.mode)) (some ⟨g, 0, none⟩) 8 c _ hx (Rd.own (e := 5) (c := c) (by simp [enc_len, leB_len])) (by simp [leB_len]) hcur hfl hf2 (by first | omega | (dsimp only; omega)) (by first | omega | (dsimp only; omega)) (by first | omega | (dsimp only; omega)) (by simp [padD, leB_len] <;> omega)) ?_
    try dsimp only
    refine walk ?_
    refine y_bytes rfl fun g2 c2 => ?_
    refine walk ?_
    refine y_callD rfl rfl (WriteN_w { s with dw := s.dw + 8, body := s.body ++ (leB 4 num ++ leB 2 (rlN nm) ++ leB 1 nm.length ++ leB 1 (ftN y.mode)) } l k x nm (some ⟨g2, 0, none⟩) nm.length c2 _ hx Rd.ice rfl hcur hfl hf2 (by first | omega | (dsimp only; omega)) (by first | omega | (dsimp only; omega)) (by first | omega | (dsimp only; omega)) (by have := hpadl n; simp only [List.length_append, hpadl, leB_len] <;> omega)) ?_
    try dsimp only
    refine walk ?_
    refine y_alloc fun gz => ?_
    refine walk ?_
    refine y_callD rfl rfl (WriteN_w { s with dw := s.dw + 8 + nm.length, body := s.body ++ (leB 4 num ++ leB 2 (rlN nm) ++ leB 1 nm.length ++ leB 1 (ftN y.mode)) ++ nm } l k x (List.replicate (rlN nm - (8 + nm.length)) 0) (some ⟨gz, 0, none⟩) (rlN nm - (8 + nm.length)) 4 _ hx (Rd.zeros4 (t := 167) (by omega)) (by simp) hcur hfl hf2 (by first | omega | (dsimp only; omega)) (by first | omega | (dsimp only; omega)) (by first | omega | (dsimp only; omega)) (by have := hpadl n; simp only [List.length_append, hpadl, leB_len] <;> omega)) ?_
    try dsimp only
    refine walk ?_
    have e1 : leftD n nm = n - rlN nm := by unfold leftD; rw [if_neg hc]
    have e2 : s.body ++ stepD n num nm (ftN y.mode) = s.body ++ (leB 4 num ++ leB 2 (rlN nm) ++ leB 1 nm.length ++ leB 1 (ftN y.mode)) ++ nm ++ List.replicate (rlN nm - (8 + nm.length)) 0 := by unfold stepD entD; rw [if_neg hc]; simp only [List.append_assoc, List.nil_append]
    have e3 : s.dw + (stepD n num nm (ftN y.mode)).length = s.dw + 8 + nm.length + (rlN nm - (8 + nm.length)) := by unfold stepD entD; rw [if_neg hc]; simp only [List.length_append, hpadl, leB_len, List.length_replicate, List.length_nil]; omega
    refine E.eqL (L' := [WP { s with dw := s.dw + (stepD n num nm (ftN y.mode)).length, body := s.body ++ stepD n num nm (ftN y.mode) }, NodesP l, _, _, _, _, Cells gl 3 [.int .i64 (leftD n nm : Nat)], _, _]) (by rw [e1, e2, e3]) ?_
    exact y_ret [7] rfl ⟨rfl, rfl⟩
end Go.Proofs.YtcdalfhkhifplaaGreatDoor
namespace Go.Proofs.YtcdalfhkhifplaaGreatDoor
open Go
set_option maxRecDepth 100000
set_option maxHeartbeats 4000000
attribute [local irreducible] E EO
theorem E.toKS {X : Fx} {k : List Item} {loc loc' : List Value} {tmp tmp' : List (Nat × Value)} {L M F : List HP} {ks : List Nat} (h : E X k loc' tmp' M) (hl : loc = loc') (ht : KeepR tmp ks tmp') (hs : Subs M L F := by exact sub_) : E X k loc tmp L := by
  exact E.some hs (h.toK hl rfl ht)
theorem MapIt.overT {g gm : Nat} {es : Ents} {done : List Nat} : Tn [MapIt g gm es done] (fun _ : Unit => True) (fun _ => [MapS gm es]) := fun m S hS => by
  obtain ⟨S', h1, h2⟩ := MapIt.over (sats_one' hS)
  exact ⟨(), S', trivial, sats_one h1, h2⟩
theorem PutR.of_takeE {L F : List HP} {g C e N a : Nat} {u : Value} {vs : List Value} (ht : Take (Own (some ⟨g, 0, none⟩) C e 1 N vs) L F) (ha : a < vs.length) :
    ∃ L', PutR L g (0 + a * 1) [u] L' ∧ L'.Perm (Own (some ⟨g, 0, none⟩) C e 1 N (vs.set a u) :: F) := by
  induction ht with
  | here =>
    have h : ovw vs (0 + a * 1) [u] = vs.set a u := by
      rw [Nat.zero_add, Nat.mul_one, List.set_eq_take_append_cons_drop, if_pos ha]
      simp [ovw]
    exact ⟨_, .own (by simp; omega), by rw [h]⟩
  | there _ ih =>
    obtain ⟨L', h1, h2⟩ := ih
    exact ⟨_, .there h1, (h2.cons _).trans (List.Perm.swap _ _ _)⟩
section
variable {X : Fx} {ops : Array Oper} {cf : Nat → Cls} {k : List Item} {i : Nat} {is : List Nat} {l : List Oper} {loc : List Value} {tmp : List (Nat × Value)} {L F : List HP}
  {ty : TypeId} {pos : String} {aft : Array Edge} {gd : Option (Nat × Bool)}
theorem y_storeE {T g a C e N : Nat} {p y : Operand} {u : Value} {vs : List Value} [OneCell X.P T] (ha : a < vs.length) (h : EO X ops cf k is l loc tmp (Own (some ⟨g, 0, none⟩) C e 1 N (vs.set a u) :: F))
    (hx : sv loc tmp p = some (.pointer (some ⟨g, 0 + a * 1, none⟩)) := by rfl) (hy : sv loc tmp y = some u := by rfl) (ht : Take (Own (some ⟨g, 0, none⟩) C e 1 N vs) L F := by exact take_) (hu : u.oneCell' = true := by rfl)
    (hg : gdv ops loc tmp gd = some true := by rfl) (hcl : cf i = .any := by rfl) (hq : X.q = false := by rfl) : EO X ops cf k (i :: is) (⟨none, .store T p y, ty, pos, aft, gd⟩ :: l) loc tmp L := by
  obtain ⟨L', h1, h2⟩ := PutR.of_takeE (u := u) ht ha
  exact x_storeR hx hy hu h1 (EO.perm h2 h) hg hcl hq
end
def nmC (cs : List (List UInt8 × Nat)) : List Value := cs.map fun p => .string (str p.1)
theorem nmC_len (cs : List (List UInt8 × Nat)) : (nmC cs).length = cs.length := by simp [nmC]
theorem nmC_snoc (cs : List (List UInt8 × Nat)) (p : List UInt8 × Nat) : nmC (cs ++ [p]) = nmC cs ++ [.string (str p.1)] := by simp [nmC]
def KidOk (s : Ws) (l : List Nd) (ks : List (List UInt8 × Nat)) (nf mf : Nat → Nat) : Prop :=
  ∀ q ∈ ks, look (kidE ks) (str q.1) = some (ptrV q.2) ∧ q.1.length ≤ 255 ∧ ∃ (j : Nat) (y : Nd), l[j]? = some y ∧ y.g = q.2 ∧ y.num = nf q.2 ∧ y.mode = mf q.2 ∧ getI s.ids y.num = some y.g ∧ y.mode < 65536 ∧ y.num < 4294967296
theorem less_fn (s : Ws) (l : List Nd) (k : Nat) (x : Nd) (ks cs : List (List UInt8 × Nat)) (nf mf : Nat → Nat) (gd gc g c i j : Nat) (p q : List UInt8 × Nat) (hx : l[k]? = some x) (hk : x.kids = some ks) (hK : KidOk s l ks nf mf) (hi : cs[i]? = some p) (hj : cs[j]? = some q) (hp : p ∈ ks) (hq : q ∈ ks) (hne : nf p.2 ≠ nf q.2) (hlen : cs.length ≤ 1000000) :
    Qn Tryz.prog 129 #[.int .i64 (i : Int), .int .i64 (j : Int), ptrV gd, ptrV gc] [Cells gd 110 [ptrV x.g], Cells gc 22 [.slice (some ⟨g, 0, none⟩) cs.length c], Own (some ⟨g, 0, none⟩) c 9 1 cs.length (nmC cs), NodesP l] (.bool (decide (nf p.2 < nf q.2))) := by
  obtain ⟨hp1, hp2, jp, yp, hp3, hp4, hp5, hp6, hp7, hp8, hp9⟩ := hK p hp
  obtain ⟨hq1, hq2, jq, yq, hq3, hq4, hq5, hq6, hq7, hq8, hq9⟩ := hK q hq
  have hil := (List.getElem?_eq_some_iff.1 hi).1
  have hjl := (List.getElem?_eq_some_iff.1 hj).1
  refine fn_of_E' (args := [_, _, _, _]) 9 _ [_, _, _, _, undef, undef, undef, undef, undef] Tryz.func129 rfl Tryz.ntmps129 ?_
  have hn1 : (yp.num : Int) ≠ (yq.num : Int) := by rw [hp5, hq5]; omega
  refine walk ?_
  refine y_tno5 (NodesP.opK hx hk) fun A1 c1 A2 c2 gm _ => ?_
  refine walk ?_
  refine y_loadE (a := i) (vs := nmC cs) (v := .string (str p.1)) (by simp [nmC, hi]) ?_
  refine walk ?_
  refine y_lookS hp1 ?_
  refine walk ?_
  refine y_tno (NodesP.clK (l := l) x (List.getElem?_eq_some_iff.1 hx).1 hk rfl) fun _ _ => ?_
  rw [set_same hx, ← hp4]
  refine y_loadC (v := .int .u32 (yp.num : Int)) (NodesP.cell hp3 5 _ fun _ => rfl) ?_
  refine walk ?_
  refine y_tno5 (NodesP.opK hx hk) fun A1 c1 A2 c2 gm _ => ?_
  refine walk ?_
  refine y_loadE (a := j) (vs := nmC cs) (v := .string (str q.1)) (by simp [nmC, hj]) ?_
  refine walk ?_
  refine y_lookS hq1 ?_
  refine walk ?_
  refine y_tno (NodesP.clK (l := l) x (List.getElem?_eq_some_iff.1 hx).1 hk rfl) fun _ _ => ?_
  rw [set_same hx, ← hq4]
  refine y_loadC (v := .int .u32 (yq.num : Int)) (NodesP.cell hq3 5 _ fun _ => rfl) ?_
  refine walk ?_
  refine y_ret [6] rfl ?_
  rw [hp4, hq4, ← hp5, ← hq5]
  simp [packV]
def picks (ks : List (List UInt8 × Nat)) (done : List Nat) : List (List UInt8 × Nat) := done.reverse.map fun j => ks.getD j ([], 0)
theorem picks_len (ks : List (List UInt8 × Nat)) (done : List Nat) : (picks ks done).length = done.length := by simp [picks]
theorem picks_cons (ks : List (List UInt8 × Nat)) (j : Nat) (done : List Nat) : picks ks (j :: done) = picks ks done ++ [ks.getD j ([], 0)] := by simp [picks]
theorem picks_all {ks : List (List UInt8 × Nat)} {done : List Nat} (hd : done.Nodup) (hb : ∀ j ∈ done, j < ks.length) (ha : ∀ j, j < ks.length → j ∈ done) : (picks ks done).Perm ks := by
  have h1 : done.reverse.Perm (List.range ks.length) := by
    refine (List.reverse_perm done).trans ((List.perm_ext_iff_of_nodup hd List.nodup_range).2 fun j => ?_)
    rw [List.mem_range]
    exact ⟨hb j, ha j⟩
  have h2 : (List.range ks.length).map (fun j => ks.getD j ([], 0)) = ks := by
    refine List.ext_getElem (by simp) fun j h h' => ?_
    simp [List.getD, List.getElem?_eq_getElem h']
  exact (h1.map _).trans (List.Perm.of_eq h2)
theorem nodup_len {done : List Nat} {n : Nat} (hd : done.Nodup) (hb : ∀ j ∈ done, j < n) : done.length ≤ n := by
  have h : done.Perm ((List.range n).filter fun j => decide (j ∈ done)) := (List.perm_ext_iff_of_nodup hd (List.Pairwise.filter _ List.nodup_range)).2 fun j => by
    simp only [List.mem_filter, List.mem_range, decide_eq_true_eq]
    exact ⟨fun h => ⟨hb j h, h⟩, fun h => h.2⟩
  rw [h.length_eq]
  exact Nat.le_trans (List.length_filter_le _ _) (by simp)
theorem ins_done {nf : Nat → Nat} {a b r : List (List UInt8 × Nat)} {e : List UInt8 × Nat} {i : Nat} (h3 : a.length + b.length = i) (h4 : (a ++ b).Pairwise fun a b => nf a.2 < nf b.2) (h5 : ∀ z ∈ b, nf e.2 < nf z.2) (ha : ∀ y ∈ a, nf y.2 < nf e.2) :
    ((a ++ e :: (b ++ r)).take (i + 1)).Pairwise fun a b => nf a.2 < nf b.2 := by
  have h : (a ++ e :: (b ++ r)).take (i + 1) = a ++ e :: b := by
    rw [show a ++ e :: (b ++ r) = (a ++ e :: b) ++ r by simp]
    exact List.take_left' (by simp; omega)
  rw [h]
  obtain ⟨h6, h7, h8⟩ := List.pairwise_append.1 h4
  refine List.pairwise_append.2 ⟨h6, List.pairwise_cons.2 ⟨h5, h7⟩, fun y hy z hz => ?_⟩
  rcases List.mem_cons.1 hz with rfl | hz
  · exact ha y hy
  · exact h8 y hy z hz
def dirB : Nat → List (Nat × List UInt8 × Nat) → List UInt8
  | n, [] => padD n
  | n, (num, nm, ft) :: r => stepD n num nm ft ++ dirB (leftD n nm) r
def dirS : Nat → List (Nat × List UInt8 × Nat) → List UInt8 × Nat
  | n, [] => ([], n)
  | n, (num, nm, ft) :: r => (stepD n num nm ft ++ (dirS (leftD n nm) r).1, (dirS (leftD n nm) r).2)
theorem dirB_S : ∀ (es : List (Nat × List UInt8 × Nat)) (n : Nat), dirB n es = (dirS n es).1 ++ padD (dirS n es).2
  | [], n => rfl
  | (num, nm, ft) :: r, n => by rw [dirB, dirS, dirB_S r, List.append_assoc]
theorem dirS_snoc : ∀ (es : List (Nat × List UInt8 × Nat)) (n num : Nat) (nm : List UInt8) (ft : Nat), dirS n (es ++ [(num, nm, ft)]) = ((dirS n es).1 ++ stepD (dirS n es).2 num nm ft, leftD (dirS n es).2 nm)
  | [], n, num, nm, ft => by simp [dirS]
  | (a, b, c) :: r, n, num, nm, ft => by
    rw [List.cons_append, dirS, dirS_snoc r]
    simp [dirS]
theorem leftD_ok {n : Nat} {nm : List UInt8} (h : nm.length ≤ 255) (h1 : 12 ≤ n) (h2 : n ≤ 4096) : 12 ≤ leftD n nm ∧ leftD n nm ≤ 4096 := by
  unfold leftD rlN
  split <;> omega
theorem dirS_ok : ∀ (es : List (Nat × List UInt8 × Nat)) (n : Nat), (∀ e ∈ es, e.2.1.length ≤ 255) → 12 ≤ n → n ≤ 4096 → 12 ≤ (dirS n es).2 ∧ (dirS n es).2 ≤ 4096
  | [], n, _, h1, h2 => ⟨h1, h2⟩
  | (num, nm, ft) :: r, n, h, h1, h2 => by
    have h3 := leftD_ok (nm := nm) (h (num, nm, ft) (by simp)) h1 h2
    exact dirS_ok r _ (fun e he => h e (by simp [he])) h3.1 h3.2
theorem stepD_len {n num : Nat} {nm : List UInt8} {ft : Nat} (h : nm.length ≤ 255) (h1 : n ≤ 4096) : (stepD n num nm ft).length ≤ 4400 := by
  unfold stepD entD padD
  have hr : rlN nm ≤ 264 ∧ 8 + nm.length ≤ rlN nm := by unfold rlN; omega
  split <;> simp only [List.length_append, leB_len, List.length_replicate, List.length_nil] <;> omega
theorem dirS_len : ∀ (es : List (Nat × List UInt8 × Nat)) (n : Nat), (∀ e ∈ es, e.2.1.length ≤ 255) → 12 ≤ n → n ≤ 4096 → (dirS n es).1.length ≤ 4400 * es.length
  | [], n, _, h1, h2 => by simp [dirS]
  | (num, nm, ft) :: r, n, h, h1, h2 => by
    have h3 := leftD_ok (nm := nm) (h (num, nm, ft) (by simp)) h1 h2
    have h4 := dirS_len r _ (fun e he => h e (by simp [he])) h3.1 h3.2
    have h5 := stepD_len (n := n) (num := num) (nm := nm) (ft := ft) (h (num, nm, ft) (by simp)) h2
    simp only [dirS, List.length_append, List.length_cons]
    omega
abbrev dS (s : Ws) (g : Nat) (es : List (Nat × List UInt8 × Nat)) : Ws := { s with cname := ⟨#[]⟩, cur := some g, dw := (dirS 4096 es).1.length, dm := 9223372036854775807, body := s.body ++ (dirS 4096 es).1 }
abbrev dL (s : Ws) (l : List Nd) (g gl gf gw : Nat) (es : List (Nat × List UInt8 × Nat)) : List HP :=
  [Cells gl 3 [.int .i64 ((dirS 4096 es).2 : Nat)], Cells gf 101 [.func (.func 125) #[] #[ptrV gl, ptrV gw]], Cells gw 84 [ptrV s.wg], WP (dS s g es), NodesP l]
theorem entS_fn (s : Ws) (l : List Nd) (k j : Nat) (x y : Nd) (nm : List UInt8) (num gl gf gw : Nat) (es : List (Nat × List UInt8 × Nat)) (hx : l[k]? = some x) (hy : l[j]? = some y) (hg : getI s.ids num = some y.g) (hym : y.mode < 65536) (hnum : num < 4294967296) (hil : s.ids.length ≤ 100000000) (hnm : nm.length ≤ 255)
    (hes : ∀ e ∈ es, e.2.1.length ≤ 255) (hel : es.length ≤ 10010) (hfl : x.flags &&& 268435456 = 0) (hf2 : x.flags < 4294967296) (hb : s.body.length ≤ 10000000) :
    Fd Tryz.prog 127 #[.int .u32 (num : Int), .string (str nm), ptrV gl, ptrV gf, ptrV gw] (dL s l x.g gl gf gw es) .nilIface (dL s l x.g gl gf gw (es ++ [(num, nm, ftN y.mode)])) := by
  have h1 := dirS_ok es 4096 hes (by omega) (by omega)
  have h2 := dirS_len es 4096 hes (by omega) (by omega)
  have h := ent_fn (dS s x.g es) l k j x y nm num gl gf gw (dirS 4096 es).2 hx hy hg hym hnum hil hnm h1.1 h1.2 rfl hfl hf2 rfl (by dsimp only; omega) (by simp only [List.length_append]; omega)
  have e := dirS_snoc es 4096 num nm (ftN y.mode)
  unfold dL dS
  rw [e, List.length_append, ← List.append_assoc]
  exact h
def srtE (nf mf : Nat → Nat) (cs : List (List UInt8 × Nat)) : List (Nat × List UInt8 × Nat) := cs.map fun p => (nf p.2, p.1, ftN (mf p.2))
theorem wdir_fn (s0 s : Ws) (l0 l : List Nd) (k p : Nat) (x par : Nd) (ks srt : List (List UInt8 × Nat)) (nf mf : Nat → Nat)
    (hfin : Fd Tryz.prog 43 #[ptrV s.wg] [WP s0, NodesP l0] .nilIface [WP s, NodesP l])
    (hcur : s.cur = none) (hx : l[k]? = some x) (hpar : l[p]? = some par) (hk : x.kids = some ks) (hK : KidOk s l ks nf mf) (hperm : srt.Perm ks) (hsrt : srt.Pairwise (fun a b => nf a.2 < nf b.2)) (hlen : ks.length ≤ 10000)
    (hgx : getI s.ids x.num = some x.g) (hgp : getI s.ids par.num = some par.g) (hnx : x.num < 4294967296) (hnp : par.num < 4294967296) (hmx : x.mode < 65536) (hmp : par.mode < 65536) (hil : s.ids.length ≤ 100000000) (hb : s.body.length ≤ 10000000) (hfl : x.flags &&& 268435456 = 0) (hf2 : x.flags < 4294967296)
    (D : List UInt8) (hD : D = dirB 4096 ((x.num, [46], ftN x.mode) :: (par.num, [46, 46], ftN par.mode) :: srtE nf mf srt)) :
    Fd Tryz.prog 100 #[ptrV s.wg, ptrV x.g, ptrV par.g] [WP s0, NodesP l0] .nilIface
      [WP { s with cname := ⟨#[]⟩, cur := some x.g, dw := D.length, dm := D.length, body := s.body ++ D }, NodesP (l.set k { x with size := D.length })] := by
  refine fn_of_E' (args := [_, _, _]) 23 _ [_, _, _, undef, undef, undef, undef, undef, undef, undef, undef, undef, undef, undef, undef, undef, undef, undef, undef, undef, undef, undef, undef] Tryz.func100 rfl Tryz.ntmps100 ?_
  refine walk ?_
  refine y_box rfl fun gw => ?_
  refine walk ?_
  refine y_box rfl fun gd => ?_
  refine walk ?_
  refine y_callD rfl rfl hfin ?_
  refine walk ?_
  refine y_callD rfl rfl (startInode_w s hcur ⟨#[]⟩ x.g 9223372036854775807) ?_
  refine walk ?_
  refine y_alloc fun gl => ?_
  refine walk ?_
  refine y_alloc fun gf => ?_
  refine walk ?_
  refine y_loadC (v := .int .u32 (x.num : Int)) (.there <| .there <| .there (NodesP.cell hx 5 _ fun _ => rfl)) ?_
  refine walk ?_
  refine EO.eqL (L' := [Cells gf 101 [.func (.func 125) #[] #[ptrV gl, ptrV gw]], Cells gl 3 [.int .i64 ((dirS 4096 []).2 : Nat)], WP (dS s x.g []), NodesP l, Cells gd 110 [ptrV x.g], Cells gw 84 [ptrV s.wg]]) (by simp [dS, dirS, ptrV, Value.cells]) ?_
  refine y_callD rfl rfl (entS_fn s l k k x x [46] x.num gl gf gw [] hx hx hgx hmx hnx hil (by simp) (by simp) (by simp) hfl hf2 hb) ?_
  rw [List.nil_append]
  refine walk ?_
  refine y_loadC (v := .int .u32 (par.num : Int)) (.there <| .there <| .there <| .there <| NodesP.cell hpar 5 _ fun _ => rfl) ?_
  refine walk ?_
  refine y_callD rfl rfl (entS_fn s l k p x par [46, 46] par.num gl gf gw [(x.num, [46], ftN x.mode)] hx hpar hgp hmp hnp hil (by simp) (by simp) (by simp) hfl hf2 hb) ?_
  refine walk ?_
  refine y_alloc fun gc => ?_
  refine walk ?_
  refine y_tno5 (NodesP.opK hx hk) fun A1 c1 A2 c2 gm _ => ?_
  refine walk ?_
  refine y_range fun gi => ?_
  refine walk ?_
  refine E.nilOwn (e := 9) (sz := 1) ?_
  refine e_roundsK (ι := List Nat × Option Addr × Nat × Value) (fun q => ks.length - q.1.length)
    (fun q => [ptrV s.wg, ptrV x.g, ptrV par.g, ptrV gw, ptrV gd, undef, .nilIface, .nilIface, ptrV gl, ptrV gf, .func (.func 127) #[] #[ptrV gl, ptrV gf, ptrV gw], .nilIface, .nilIface, ptrV gc, q.2.2.2, undef, undef, undef, undef, undef, undef, undef, undef])
    (fun _ => [(55, ptrV gi)])
    (fun q => [Own q.2.1 q.2.2.1 9 1 (picks ks q.1).length (nmC (picks ks q.1)), MapIt gi gm (kidE ks) q.1,
      Cells x.g 125 [.int .i64 (x.size : Int), .int .u64 0, .int .u64 0, .int .u64 0, .int .u64 0, .int .u32 (x.num : Int), .int .u16 (x.mode : Int), .int .u32 (x.uid : Int), .int .u32 (x.gid : Int), .int .u32 (x.links : Int), .int .u32 0, .int .u32 (x.blks : Int), .int .u32 0, .int .u32 0, .int .u32 (x.flags : Int), .slice A1 x.data.length c1, .slice A2 x.xin.length c2, .map (some gm)],
      Own A1 c1 5 1 x.data.length (enc x.data), Own A2 c2 5 1 x.xin.length (enc x.xin), NodesP (l.eraseIdx k),
      Cells gc 22 [.slice q.2.1 (picks ks q.1).length q.2.2.1],
      Cells gl 3 [.int .i64 ((dirS 4096 ([(x.num, [46], ftN x.mode)] ++ [(par.num, [46, 46], ftN par.mode)])).2 : Nat)], Cells gf 101 [.func (.func 125) #[] #[ptrV gl, ptrV gw]], Cells gw 84 [ptrV s.wg], WP (dS s x.g ([(x.num, [46], ftN x.mode)] ++ [(par.num, [46, 46], ftN par.mode)])), Cells gd 110 [ptrV x.g]])
    (fun q => q.1.Nodup ∧ ∀ j ∈ q.1, j < ks.length) ([], none, 0, undef) ⟨List.nodup_nil, by simp⟩ rfl (by repeat constructor) (List.Perm.of_eq rfl) ?_
  rintro ⟨done, A, c, u14⟩ ⟨hnd, hbd⟩ again
  dsimp only at hnd hbd again ⊢
  refine walk ?_
  have hpl : (picks ks done).length ≤ 10000 := by rw [picks_len]; exact Nat.le_trans (nodup_len hnd hbd) hlen
  refine y_next (fun hov => ?_) (fun j s1 u hj hjd => ?_)
  rotate_left
  · obtain ⟨p1, hp1, hp2⟩ : ∃ p1 : List UInt8 × Nat, ks[j]? = some p1 ∧ s1 = str p1.1 := by
      rw [kidE, List.getElem?_map] at hj
      cases hkj : ks[j]? with
      | none => rw [hkj] at hj; cases hj
      | some p1 => rw [hkj] at hj; simp at hj; exact ⟨p1, rfl, hj.1.symm⟩
    subst hp2
    have hjl := (List.getElem?_eq_some_iff.1 hp1).1
    have hpc : picks ks (j :: done) = picks ks done ++ [p1] := by rw [picks_cons, List.getD, hp1]; rfl
    have hnd' : (j :: done).Nodup := List.nodup_cons.2 ⟨hjd, hnd⟩
    have hbd' : ∀ i ∈ j :: done, i < ks.length := fun i hi => (List.mem_cons.1 hi).elim (fun e => e ▸ hjl) (hbd i)
    have hdl := nodup_len hnd' hbd'
    refine walk ?_
    refine y_build1 rfl fun gb => ?_
    refine walk ?_
    refine y_app1 rfl rfl fun A' c' => ?_
    refine walk ?_
    have ag := again (j :: done, A', c', .string (str p1.1)) (by simp at hdl ⊢; omega) ⟨hnd', hbd'⟩
    dsimp only at ag
    rw [hpc, List.length_append, List.length_singleton, nmC_snoc] at ag
    exact ag.toKS rfl (by repeat constructor)
  refine walk ?_
  have hov' : ∀ j, j < ks.length → j ∈ done := fun j hj => hov j (by simpa [kidE] using hj)
  have hpp := picks_all hnd hbd hov'
  generalize picks ks done = cs at hpp hpl ⊢
  refine y_tn MapIt.overT fun _ _ => ?_
  refine y_tn (NodesP.clK (l := l) x (List.getElem?_eq_some_iff.1 hx).1 hk rfl) fun _ _ => ?_
  rw [set_same hx]
  refine e_rounds (ι := Nat × List (List UInt8 × Nat) × Value) (fun q => cs.length - q.1)
    (fun q => [ptrV s.wg, ptrV x.g, ptrV par.g, ptrV gw, ptrV gd, undef, .nilIface, .nilIface, ptrV gl, ptrV gf, .func (.func 127) #[] #[ptrV gl, ptrV gf, ptrV gw], .nilIface, .nilIface, ptrV gc, u14, .func (.func 129) #[] #[ptrV gd, ptrV gc], .int .i64 (q.1 : Nat), q.2.2, undef, undef, undef, undef, undef])
    (fun q => [NodesP l, Own A c 9 1 cs.length (nmC q.2.1), Cells gc 22 [.slice A cs.length c],
      Cells gl 3 [.int .i64 ((dirS 4096 ([(x.num, [46], ftN x.mode)] ++ [(par.num, [46, 46], ftN par.mode)])).2 : Nat)], Cells gf 101 [.func (.func 125) #[] #[ptrV gl, ptrV gw]], Cells gw 84 [ptrV s.wg], WP (dS s x.g ([(x.num, [46], ftN x.mode)] ++ [(par.num, [46, 46], ftN par.mode)])), Cells gd 110 [ptrV x.g]])
    (fun q => 1 ≤ q.1 ∧ q.2.1.Perm ks ∧ q.2.1.length = cs.length ∧ (q.2.1.take q.1).Pairwise fun a b => nf a.2 < nf b.2) (1, cs, undef) ⟨Nat.le_refl _, hpp, rfl, by cases cs <;> simp⟩ rfl (List.Perm.refl _) ?_
  rintro ⟨i, cs', u17⟩ ⟨hi1, hpp', hcl, hso⟩ again
  dsimp only at hi1 hpp' hcl hso again ⊢
  by_cases hic : i < cs.length
  · refine E.know (.there .here) (fun _ _ => Own.know) fun hkn => ?_
    obtain ⟨_, k2, k3, k4⟩ := hkn
    cases A with
    | none => have := k3 rfl; omega
    | some ad =>
    obtain ⟨go, rfl⟩ := k4 ad rfl
    have hta : (cs'.take i).length = i := by rw [List.length_take, hcl]; omega
    have hsplit : cs' = cs'.take i ++ cs'[i]'(by omega) :: ([] ++ cs'.drop (i + 1)) := by
      rw [List.nil_append, ← List.drop_eq_getElem_cons, List.take_append_drop]
    refine walk ?_
    refine e_rounds (ι := List (List UInt8 × Nat) × (List UInt8 × Nat) × List (List UInt8 × Nat) × List (List UInt8 × Nat)) (fun q => q.1.length)
      (fun q => [ptrV s.wg, ptrV x.g, ptrV par.g, ptrV gw, ptrV gd, undef, .nilIface, .nilIface, ptrV gl, ptrV gf, .func (.func 127) #[] #[ptrV gl, ptrV gf, ptrV gw], .nilIface, .nilIface, ptrV gc, u14, .func (.func 129) #[] #[ptrV gd, ptrV gc], .int .i64 (i : Nat), .int .i64 (q.1.length : Nat), undef, undef, undef, undef, undef])
      (fun q => [NodesP l, Own (some ⟨go, 0, none⟩) c 9 1 cs.length (nmC (q.1 ++ q.2.1 :: (q.2.2.1 ++ q.2.2.2))), Cells gc 22 [.slice (some ⟨go, 0, none⟩) cs.length c],
        Cells gl 3 [.int .i64 ((dirS 4096 ([(x.num, [46], ftN x.mode)] ++ [(par.num, [46, 46], ftN par.mode)])).2 : Nat)], Cells gf 101 [.func (.func 125) #[] #[ptrV gl, ptrV gw]], Cells gw 84 [ptrV s.wg], WP (dS s x.g ([(x.num, [46], ftN x.mode)] ++ [(par.num, [46, 46], ftN par.mode)])), Cells gd 110 [ptrV x.g]])
      (fun q => (q.1 ++ q.2.1 :: (q.2.2.1 ++ q.2.2.2)).Perm ks ∧ (q.1 ++ q.2.1 :: (q.2.2.1 ++ q.2.2.2)).length = cs.length ∧ q.1.length + q.2.2.1.length = i ∧ ((q.1 ++ q.2.2.1).Pairwise fun a b => nf a.2 < nf b.2) ∧ ∀ z ∈ q.2.2.1, nf q.2.1.2 < nf z.2)
      (cs'.take i, cs'[i]'(by omega), [], cs'.drop (i + 1)) ⟨by dsimp only; rw [← hsplit]; exact hpp', by dsimp only; rw [← hsplit]; exact hcl, by dsimp only; rw [hta]; rfl, by dsimp only; rw [List.append_nil]; exact hso, by simp⟩ (by dsimp only; rw [hta]) (List.Perm.of_eq (by dsimp only; rw [← hsplit])) ?_
    rintro ⟨a, e, b, r⟩ ⟨q1, q2, q3, q4, q5⟩ again2
    dsimp only at q1 q2 q3 q4 q5 again2 ⊢
    rcases List.eq_nil_or_concat a with rfl | ⟨a', y, hay⟩
    · have ag := again (i + 1, [] ++ e :: (b ++ r), .int .i64 ((0 : Nat) : Int)) (by dsimp only; omega) ⟨by dsimp only; omega, q1, q2, ins_done q3 q4 q5 (by simp)⟩
      dsimp only at ag
      refine walk ?_
      exact ag.to rfl rfl
    · rw [List.concat_eq_append] at hay
      subst hay
      have hL : (a' ++ [y]).length = a'.length + 1 := by simp
      have hne2 : (a' ++ [y] ++ e :: (b ++ r)).Pairwise fun a b => nf a.2 ≠ nf b.2 :=
        (List.Perm.pairwise_iff (R := fun a b : List UInt8 × Nat => nf a.2 ≠ nf b.2) (fun h => h.symm) (q1.trans hperm.symm)).2 (hsrt.imp fun h => Nat.ne_of_lt h)
      have hye : nf y.2 ≠ nf e.2 := (List.pairwise_append.1 hne2).2.2 y (by simp) e (by simp)
      have hless := less_fn s l k x ks (a' ++ [y] ++ e :: (b ++ r)) nf mf gd gc go c (a'.length + 1) a'.length e y hx hk hK (by rw [List.getElem?_append_right (by simp)]; simp) (by rw [List.append_assoc, List.getElem?_append_right (by simp)]; simp) (q1.subset (by simp)) (q1.subset (by simp)) hye.symm (by omega)
      rw [q2] at hless
      have hjl : a'.length + 1 < cs.length := by simp at q2; omega
      rw [hL] at again2 q3 ⊢
      refine walk ?_
      refine y_callq rfl rfl hless ?_
      by_cases hlt : nf e.2 < nf y.2
      · rw [decide_eq_true hlt]
        refine walk ?_
        refine e_pair ?_
        refine walk ?_
        refine y_loadE (a := a'.length) (vs := nmC (a' ++ [y] ++ e :: (b ++ r))) (v := .string (str y.1)) (by simp [nmC]) ?_
        refine walk ?_
        refine y_loadE (a := a'.length + 1) (vs := nmC (a' ++ [y] ++ e :: (b ++ r))) (v := .string (str e.1)) (by simp [nmC]) ?_
        refine walk ?_
        have hsw : (a' ++ e :: (y :: b ++ r)).Perm (a' ++ [y] ++ e :: (b ++ r)) := by
          rw [List.append_assoc]
          exact (List.Perm.swap y e (b ++ r)).append_left a'
        have ag := again2 (a', e, y :: b, r) (by dsimp only; omega) ⟨hsw.trans q1, by simp at q2 ⊢; omega, by simp at q3 ⊢; omega, by simpa using q4, fun z hz => (List.mem_cons.1 hz).elim (fun h => h ▸ hlt) (q5 z)⟩
        dsimp only at ag
        have hset : ((nmC (a' ++ [y] ++ e :: (b ++ r))).set (a'.length + 1) (.string (str y.1))).set a'.length (.string (str e.1)) = nmC (a' ++ e :: (y :: b ++ r)) := by
          simp [nmC, List.set_append]
        refine x_two ?_ ?_
        · refine walk ?_
          refine y_storeE (a := a'.length + 1) (vs := nmC (a' ++ [y] ++ e :: (b ++ r))) (u := .string (str y.1)) (by rw [nmC_len]; omega) ?_
          refine walk ?_
          refine y_storeE (a := a'.length) (vs := (nmC (a' ++ [y] ++ e :: (b ++ r))).set (a'.length + 1) (.string (str y.1))) (u := .string (str e.1)) (by rw [List.length_set, nmC_len]; omega) ?_
          rw [hset]
          refine walk ?_
          exact ag.toKS (ks := []) rfl (by repeat constructor)
        · refine walk ?_
          refine y_storeE (a := a'.length + 1) (vs := nmC (a' ++ [y] ++ e :: (b ++ r))) (u := .string (str y.1)) (by rw [nmC_len]; omega) ?_
          refine walk ?_
          refine y_storeE (a := a'.length) (vs := (nmC (a' ++ [y] ++ e :: (b ++ r))).set (a'.length + 1) (.string (str y.1))) (u := .string (str e.1)) (by rw [List.length_set, nmC_len]; omega) ?_
          rw [hset]
          refine walk ?_
          exact ag.toKS (ks := []) rfl (by repeat constructor)
      · have hya : ∀ z ∈ a' ++ [y], nf z.2 < nf e.2 := fun z hz => by
          have h1 : nf y.2 < nf e.2 := by omega
          rcases List.mem_append.1 hz with h | h
          · have h2 := (List.pairwise_append.1 (List.pairwise_append.1 q4).1).2.2 z h y (by simp)
            omega
          · rw [List.mem_singleton] at h; subst h; exact h1
        have ag := again (i + 1, a' ++ [y] ++ e :: (b ++ r), .int .i64 ((a'.length + 1 : Nat) : Int)) (by dsimp only; omega) ⟨by dsimp only; omega, q1, q2, ins_done (by rw [hL]; exact q3) q4 q5 hya⟩
        dsimp only at ag
        rw [decide_eq_false hlt]
        refine walk ?_
        exact ag.to rfl rfl
  · have hcs : cs' = srt := by
      refine List.Perm.eq_of_pairwise (le := fun a b => nf a.2 < nf b.2) (fun _ _ _ _ h1 h2 => absurd h1 (by omega)) ?_ hsrt (hpp'.trans hperm.symm)
      rw [List.take_of_length_le (by omega)] at hso
      exact hso
    subst hcs
    have hks : ∀ q ∈ cs', q ∈ ks := fun q hq => hpp'.subset hq
    refine walk ?_
    refine e_roundsK (ι := Nat × Value × Value × Value) (fun q => cs.length - q.1)
      (fun q => [ptrV s.wg, ptrV x.g, ptrV par.g, ptrV gw, ptrV gd, undef, .nilIface, .nilIface, ptrV gl, ptrV gf, .func (.func 127) #[] #[ptrV gl, ptrV gf, ptrV gw], .nilIface, .nilIface, ptrV gc, u14, .func (.func 129) #[] #[ptrV gd, ptrV gc], .int .i64 (i : Nat), u17, undef, q.2.1, q.2.2.1, q.2.2.2, undef])
      (fun q => [(101, .int .i64 (q.1 : Nat)), (100, .int .i64 (cs.length : Nat)), (99, .slice A cs.length c)])
      (fun q => [NodesP l, Own A c 9 1 cs.length (nmC cs'), Cells gc 22 [.slice A cs.length c],
        Cells gl 3 [.int .i64 ((dirS 4096 ([(x.num, [46], ftN x.mode)] ++ [(par.num, [46, 46], ftN par.mode)] ++ srtE nf mf (cs'.take q.1))).2 : Nat)], Cells gf 101 [.func (.func 125) #[] #[ptrV gl, ptrV gw]], Cells gw 84 [ptrV s.wg], WP (dS s x.g ([(x.num, [46], ftN x.mode)] ++ [(par.num, [46, 46], ftN par.mode)] ++ srtE nf mf (cs'.take q.1))), Cells gd 110 [ptrV x.g]])
      (fun q => q.1 ≤ cs.length) (0, undef, undef, undef) (Nat.zero_le _) rfl (by repeat constructor) (List.Perm.of_eq (by simp [srtE])) ?_
    rintro ⟨m, u19, u20, u21⟩ hm again3
    dsimp only at hm again3 ⊢
    have hes : ∀ e ∈ [(x.num, [46], ftN x.mode)] ++ [(par.num, [46, 46], ftN par.mode)] ++ srtE nf mf (cs'.take m), e.2.1.length ≤ 255 := by
      intro e he
      simp only [srtE, List.mem_append, List.mem_singleton, List.mem_map] at he
      rcases he with (rfl | rfl) | ⟨q, hq, rfl⟩
      · simp
      · simp
      · exact (hK q (hks q (List.mem_of_mem_take hq))).2.1
    have hesl : ([(x.num, [46], ftN x.mode)] ++ [(par.num, [46, 46], ftN par.mode)] ++ srtE nf mf (cs'.take m)).length ≤ 10010 := by simp [srtE]; omega
    by_cases hmc : m < cs.length
    · refine E.know (.there .here) (fun _ _ => Own.know) fun hkn => ?_
      obtain ⟨_, k2, k3, k4⟩ := hkn
      cases A with
      | none => have := k3 rfl; omega
      | some ad =>
      obtain ⟨go, rfl⟩ := k4 ad rfl
      obtain ⟨q, hq⟩ : ∃ q, cs'[m]? = some q := ⟨_, List.getElem?_eq_getElem (by omega)⟩
      have hqm := hks q (List.mem_of_getElem? hq)
      obtain ⟨hq1, hq2, jq, yq, hq3, hq4, hq5, hq6, hq7, hq8, hq9⟩ := hK q hqm
      have htk : srtE nf mf (cs'.take (m + 1)) = srtE nf mf (cs'.take m) ++ [(yq.num, q.1, ftN yq.mode)] := by
        rw [List.take_add_one, hq, srtE, List.map_append, hq5, hq6]; rfl
      have ag := again3 (m + 1, .string (str q.1), ptrV yq.g, .nilIface) (by dsimp only; omega) (by dsimp only; omega)
      dsimp only at ag
      rw [htk, ← List.append_assoc] at ag
      refine walk ?_
      refine y_loadE (a := m) (vs := nmC cs') (v := .string (str q.1)) (by simp [nmC, hq]) ?_
      refine y_tno5 (NodesP.opK hx hk) fun A1 c1 A2 c2 gm _ => ?_
      refine walk ?_
      refine y_lookS hq1 ?_
      refine walk ?_
      refine y_tno (NodesP.clK (l := l) x (List.getElem?_eq_some_iff.1 hx).1 hk rfl) fun _ _ => ?_
      rw [set_same hx, ← hq4]
      refine y_loadC (v := .int .u32 (yq.num : Int)) (NodesP.cell hq3 5 _ fun _ => rfl) ?_
      refine walk ?_
      refine y_callD rfl rfl (entS_fn s l k jq x yq q.1 yq.num gl gf gw _ hx hq3 hq7 hq8 hq9 hil hq2 hes hesl hfl hf2 hb) ?_
      refine walk ?_
      exact ag.toKS (ks := [101, 100, 99]) rfl (by repeat constructor)
    · have hdo := dirS_ok _ 4096 hes (by omega) (by omega)
      have hdl := dirS_len _ 4096 hes (by omega) (by omega)
      have hml : cs'.take m = cs' := List.take_of_length_le (by omega)
      rw [hml] at hes hesl hdo hdl ⊢
      generalize hE : [(x.num, [46], ftN x.mode)] ++ [(par.num, [46, 46], ftN par.mode)] ++ srtE nf mf cs' = es at hes hesl hdo hdl ⊢
      have hD2 : D = (dirS 4096 es).1 ++ padD (dirS 4096 es).2 := by rw [hD, ← hE]; exact dirB_S _ _
      refine walk ?_
      refine y_callD rfl rfl (fin_fn (dS s x.g es) l k x gl gw (dirS 4096 es).2 hx hdo.1 hdo.2 rfl hfl hf2 rfl (by dsimp only; omega) (by simp only [List.length_append]; omega)) ?_
      refine walk ?_
      have hDl : D.length = (dirS 4096 es).1.length + (dirS 4096 es).2 := by
        rw [hD2, List.length_append]
        simp only [padD, List.length_append, leB_len, List.length_replicate]
        omega
      refine EO.eqL (L' := [_, Cells gw 84 [ptrV s.wg], WP { s with cname := ⟨#[]⟩, cur := some x.g, dw := D.length, dm := 9223372036854775807, body := s.body ++ D }, NodesP l, _, _, _, _]) (by rw [hDl, hD2, ← List.append_assoc]) ?_
      refine y_loadC (v := ptrV x.g) (.there <| .there <| WP.cell 3 _ fun _ => rfl) ?_
      refine walk ?_
      refine y_loadC (v := .int .i64 (D.length : Nat)) (.there <| .there <| WP.cell 5 _ fun _ => rfl) ?_
      refine y_tno5 (NodesP.opK hx hk) fun A1 c1 A2 c2 gm _ => ?_
      refine walk ?_
      refine y_tno (NodesP.clK (l := l) { x with size := D.length } (List.getElem?_eq_some_iff.1 hx).1 hk rfl) fun _ _ => ?_
      refine y_tno2 WP.op fun Aw cw _ => ?_
      dsimp only
      refine walk ?_
      refine y_tn (WP.cl { s with cname := ⟨#[]⟩, cur := some x.g, dw := D.length, dm := D.length, body := s.body ++ D }) fun _ _ => ?_
      exact y_ret [6] rfl ⟨rfl, rfl⟩
end Go.Proofs.YtcdalfhkhifplaaGreatDoor
namespace Go.Proofs.YtcdalfhkhifplaaGreatDoor
open Go
set_option maxRecDepth 100000
set_option maxHeartbeats 4000000
attribute [local irreducible] E EO
theorem Cell.of_row {L F : List HP} {G : HP} {g o a : Nat} {vs : List Value} {v : Value} (h : CellRow [G] g o vs) (ht : Take G L F) (hv : vs[a]? = some v) : Cell L g (o + a) v := fun m S hS => by
  obtain ⟨S1, S2, h1, _⟩ := sats_perm ht.perm hS
  exact h a v hv m S1 (sats_one h1)
section
variable {X : Fx} {ops : Array Oper} {cf : Nat → Cls} {k : List Item} {i : Nat} {is : List Nat} {l : List Oper} {loc loc' : List Value} {tmp tmp' : List (Nat × Value)} {L F : List HP}
  {d : Option Tmp} {ty : TypeId} {pos : String} {aft : Array Edge} {gd : Option (Nat × Bool)}
theorem y_loadR {T g o p a : Nat} {x : Operand} {v : Value} {vs : List Value} {G : HP} [OneCell X.P T] (hr : CellRow [G] g o vs) (hv : vs[a]? = some v) (h : EO X ops cf k is l loc' tmp' L) (hx : sv loc tmp x = some (.pointer (some ⟨g, p, none⟩)) := by rfl) (he : p = o + a := by omega) (ht : Take G L F := by exact take_) (hp : Pt loc tmp d v loc' tmp' := by exact pt_)
    (hg : gdv ops loc tmp gd = some true := by rfl) (hd : dOK X.n d = true := by rfl) (hcl : (cf i).reads = true := by rfl) : EO X ops cf k (i :: is) (⟨d, .load T x, ty, pos, aft, gd⟩ :: l) loc tmp L := by
  subst he
  exact x_load hx (Cell.of_row hr ht hv) hp h hg hd hcl
end
theorem enc_bAt {b : List UInt8} {i : Nat} (h : i < b.length) : (enc b)[i]? = some (.int .u8 (bAt b i : Nat)) := by
  rw [enc_get (List.getElem?_eq_getElem h), bAt_some (List.getElem?_eq_getElem h)]
theorem shl_or {v x : Nat} (h : x < 256) : v * 2 ^ 8 ||| x = x + 256 * v := by
  have := Nat.two_pow_add_eq_or_of_lt (i := 8) (b := x) (by omega) v
  rw [Nat.mul_comm (2 ^ 8) v] at this
  omega
theorem le_fn (g o m c at_ n : Nat) (bs : List UInt8) (M : HP) (hr : CellRow [M] g o (enc bs)) (hm : bs.length = m) (hn : n ≤ 8) (ha : at_ ≤ 1000000000000) (hm2 : m ≤ 1000000000000) :
    Qn Tryz.prog 38 #[.slice (some ⟨g, o, none⟩) m c, .int .u64 (at_ : Int), .int .u64 (n : Int)] [M] (.int .u64 (leAt bs at_ n : Nat)) := by
  refine fn_of_E' (args := [_, _, _]) 10 _ [_, _, _, undef, undef, undef, undef, undef, undef, undef] Tryz.func38 rfl Tryz.ntmps38 ?_
  refine walk ?_
  refine e_rounds (ι := Nat × Value) (fun q => q.1)
    (fun q => [.slice (some ⟨g, o, none⟩) m c, .int .u64 (at_ : Int), .int .u64 (n : Int), undef, undef, undef, .int .u64 0, .int .u64 (leAt bs (at_ + q.1) (n - q.1) : Nat), .int .u64 (q.1 : Nat), q.2])
    (fun _ => [M]) (fun q => q.1 ≤ n) (n, undef) (Nat.le_refl _) (by simp [leAt]) (List.Perm.refl _) ?_
  rintro ⟨i, v9⟩ hi again
  dsimp only at hi again ⊢
  by_cases h0 : i = 0
  · subst h0
    refine walk ?_
    exact y_ret [6] rfl (by simp [packV])
  · have hlt := leAt_lt bs (n - i) (at_ + i)
    have hlt2 : leAt bs (at_ + i) (n - i) < 72057594037927936 := Nat.lt_of_lt_of_le hlt (show 256 ^ (n - i) ≤ 256 ^ 7 from Nat.pow_le_pow_right (by decide) (by omega))
    have hstep : leAt bs (at_ + (i - 1)) (n - (i - 1)) = bAt bs (at_ + i - 1) + 256 * leAt bs (at_ + i) (n - i) := by
      rw [show n - (i - 1) = (n - i) + 1 by omega, show at_ + (i - 1) = at_ + i - 1 by omega]
      simp only [leAt]
      rw [show at_ + i - 1 + 1 = at_ + i by omega]
    generalize leAt bs (at_ + i) (n - i) = v at hlt2 hstep ⊢
    have hb := bAt_lt bs (at_ + i - 1)
    by_cases hp : at_ + i - 1 < m
    · have ag := again (i - 1, .int .u64 ((at_ + i - 1 : Nat) : Int)) (by dsimp only; omega) (by dsimp only; omega)
      dsimp only at ag
      rw [hstep] at ag
      refine walk ?_
      refine y_loadR (a := at_ + i - 1) hr (enc_bAt (by omega)) ?_
      refine walk ?_
      rw [shl_or hb]
      exact ag.to rfl rfl
    · have ag := again (i - 1, .int .u64 ((at_ + i - 1 : Nat) : Int)) (by dsimp only; omega) (by dsimp only; omega)
      dsimp only at ag
      rw [hstep, bAt_over (by omega)] at ag
      refine walk ?_
      rw [show v * 2 ^ 8 = 0 + 256 * v by omega]
      exact ag.to rfl rfl
theorem must_fn (V : Value) (s : ByteArray) (n : Nat) : Qn Tryz.prog 37 #[V, .bool true, .string s, .int .u64 (n : Int)] [] (.tuple #[]) := by
  refine fn_of_E' (args := [_, _, _, _]) 8 _ [_, _, _, _, undef, undef, undef, undef] Tryz.func37 rfl Tryz.ntmps37 ?_
  refine walk ?_
  exact y_end [] rfl rfl
structure RI where
  num : Nat
  mode : Nat
  uid : Nat
  gid : Nat
  size : Nat
  links : Nat
  secs : Nat
  flags : Nat
  il : Bool
  blks : Nat
  data : List UInt8
  ents : List (List UInt8 × Nat × Nat)
structure RIA where
  A : Option Addr
  c : Nat
  A' : Option Addr
  c' : Nat
abbrev riC (x : RI) (a : RIA) : List Value := [.int .u64 (x.num : Int), .int .u16 (x.mode : Int), .int .u32 (x.uid : Int), .int .u32 (x.gid : Int), .int .u64 (x.size : Int), .int .u64 (x.links : Int), .int .u64 (x.secs : Int), .int .u64 (x.flags : Int),
  .int .i64 0, .int .i64 0, .int .i64 0, .int .i64 0, .int .i64 0, .int .i64 0, .int .i64 0, .int .i64 0, .int .u32 0, .int .u32 0, .slice a.A x.data.length a.c, .slice a.A' x.ents.length a.c', .slice none 0 0, .bool x.il, .int .u64 (x.blks : Int)]
def entC : List (List UInt8 × Nat × Nat) → List Value
  | [] => []
  | e :: es => .string (str e.1) :: .int .u64 (e.2.1 : Int) :: .int .u64 (e.2.2 : Int) :: entC es
theorem entC_len : ∀ es : List (List UInt8 × Nat × Nat), (entC es).length = es.length * 3
  | [] => rfl
  | e :: es => by simp [entC, entC_len es]; omega
theorem entC_app : ∀ a b : List (List UInt8 × Nat × Nat), entC (a ++ b) = entC a ++ entC b
  | [], _ => rfl
  | e :: a, b => by simp [entC, entC_app a b]
abbrev riL (x : RI) (a : RIA) : List HP := [Own a.A a.c 5 1 x.data.length (enc x.data), Own a.A' a.c' 72 3 x.ents.length (entC x.ents)]
def inC : List RI → List RIA → List Value
  | x :: xs, a :: rs => riC x a ++ inC xs rs
  | _, _ => []
def inP : List RI → List RIA → List HP
  | x :: xs, a :: rs => HP.star (riL x a) :: inP xs rs
  | _, _ => []
theorem inC_app : ∀ (xs : List RI) (rs : List RIA) (x : RI) (a : RIA), rs.length = xs.length → inC (xs ++ [x]) (rs ++ [a]) = inC xs rs ++ riC x a
  | [], [], x, a, _ => rfl
  | y :: xs, b :: rs, x, a, h => by
    have := inC_app xs rs x a (by simpa using h)
    simp only [List.cons_append, inC, this, List.append_assoc]
theorem inP_app : ∀ (xs : List RI) (rs : List RIA) (x : RI) (a : RIA), rs.length = xs.length → inP (xs ++ [x]) (rs ++ [a]) = inP xs rs ++ [HP.star (riL x a)]
  | [], [], x, a, _ => rfl
  | y :: xs, b :: rs, x, a, h => by
    have := inP_app xs rs x a (by simpa using h)
    simp only [List.cons_append, inP, this]
theorem inC_get : ∀ (xs : List RI) (rs : List RIA) (i : Nat) (x : RI) (a : RIA), xs[i]? = some x → rs[i]? = some a → ((inC xs rs).drop (i * 23)).take 23 = riC x a
  | y :: xs, b :: rs, 0, x, a, h1, h2 => by
    simp at h1 h2; subst h1 h2; rfl
  | y :: xs, b :: rs, i + 1, x, a, h1, h2 => by
    have := inC_get xs rs i x a (by simpa using h1) (by simpa using h2)
    simp only [inC]
    rw [show (i + 1) * 23 = (riC y b).length + i * 23 by simp; omega, List.drop_append, List.drop_of_length_le (by omega), List.nil_append, show (riC y b).length + i * 23 - (riC y b).length = i * 23 by omega, this]
theorem inP_take : ∀ (xs : List RI) (rs : List RIA) (i : Nat) (x : RI) (a : RIA), xs[i]? = some x → rs[i]? = some a → ∃ F, Take (HP.star (riL x a)) (inP xs rs) F
  | y :: xs, b :: rs, 0, x, a, h1, h2 => by
    simp at h1 h2; subst h1 h2; exact ⟨_, .here⟩
  | y :: xs, b :: rs, i + 1, x, a, h1, h2 => by
    obtain ⟨F, hF⟩ := inP_take xs rs i x a (by simpa using h1) (by simpa using h2)
    exact ⟨_, hF.there⟩
def ownB (nb : Nat) (cl : List Nat) : List UInt8 := (List.range nb).map fun i => if i ∈ cl then 1 else 0
theorem ownB_len (nb : Nat) (cl : List Nat) : (ownB nb cl).length = nb := by simp [ownB]
theorem ownB_get {nb i : Nat} (cl : List Nat) (h : i < nb) : (ownB nb cl)[i]? = some (if i ∈ cl then 1 else 0) := by simp [ownB, h]
theorem ownB_set {nb n : Nat} {cl : List Nat} (h : n < nb) : (enc (ownB nb cl)).set n (.int .u8 1) = enc (ownB nb (n :: cl)) := by
  apply List.ext_getElem?
  intro i
  by_cases hi : i < nb
  · rw [enc_get (ownB_get _ hi), List.getElem?_set]
    by_cases hn : n = i
    · subst hn; simp [enc_len, ownB_len, hi]
    · rw [if_neg hn, enc_get (ownB_get _ hi)]
      have : (i ∈ n :: cl) ↔ i ∈ cl := by simp [Ne.symm hn]
      simp only [this]
  · rw [List.getElem?_eq_none (by simp [enc_len, ownB_len]; omega), List.getElem?_eq_none (by simp [enc_len, ownB_len]; omega)]
structure Vs where
  vg : Nat
  ig : Nat
  ic : Nat
  img : List UInt8
  nb : Nat
  pi : Nat
  cl : List Nat
  inos : List RI
abbrev vsC (s : Vs) (AI : Option Addr) (cI gO cO : Nat) : List Value := [.slice AI s.inos.length cI, .int .u64 (s.nb : Int), .slice none 0 0, .slice (some ⟨s.ig, 0, none⟩) s.img.length s.ic, .int .u64 1, .int .u64 32768, .int .u64 (s.pi : Int), .int .u64 256, .int .u64 32, .slice (some ⟨gO, 0, none⟩) s.nb cO, .bool false]
abbrev vsX (s : Vs) (AI : Option Addr) (cI gO cO : Nat) (rs : List RIA) : List HP := [Cells s.vg 63 (vsC s AI cI gO cO), Own AI cI 66 23 s.inos.length (inC s.inos rs), Own (some ⟨gO, 0, none⟩) cO 5 1 s.nb (enc (ownB s.nb s.cl)), HP.star (inP s.inos rs)]
def VP (s : Vs) : HP := .ex fun i : Option Addr × Nat × Nat × Nat × List RIA => .fact (i.2.2.2.2.length = s.inos.length) <| .star (vsX s i.1 i.2.1 i.2.2.1 i.2.2.2.1 i.2.2.2.2)
theorem VP.op {s : Vs} : Tn5 [VP s] (fun _ _ _ _ rs => rs.length = s.inos.length) (vsX s) := Tn.exs (p := fun i : Option Addr × Nat × Nat × Nat × List RIA => i.2.2.2.2.length = s.inos.length) (A := fun i : Option Addr × Nat × Nat × Nat × List RIA => vsX s i.1 i.2.1 i.2.2.1 i.2.2.2.1 i.2.2.2.2)
theorem VP.cl_ (s : Vs) {AI : Option Addr} {cI gO cO : Nat} {rs : List RIA} (h : rs.length = s.inos.length) : Tn (vsX s AI cI gO cO rs) (fun _ : Unit => True) (fun _ => [VP s]) :=
  Tn.inexs (p := fun i : Option Addr × Nat × Nat × Nat × List RIA => i.2.2.2.2.length = s.inos.length) (A := fun i : Option Addr × Nat × Nat × Nat × List RIA => vsX s i.1 i.2.1 i.2.2.1 i.2.2.2.1 i.2.2.2.2) (AI, cI, gO, cO, rs) h
theorem VP.cell {s : Vs} {L : List HP} (o : Nat) (v : Value) (h : ∀ AI cI gO cO, nth (vsC s AI cI gO cO) o = some v) : Cell (VP s :: L) s.vg o v := by
  intro m S hS
  obtain ⟨S1, S2, ⟨i, _, h1⟩, _⟩ := hS
  exact (Cell.here (g := s.vg) (L := _) (h i.1 i.2.1 i.2.2.1 i.2.2.2.1)) m S1 h1
theorem VP.cell1 {s : Vs} (o : Nat) (v : Value) (h : ∀ AI cI gO cO, nth (vsC s AI cI gO cO) o = some v) : Cell [VP s] s.vg o v := VP.cell o v h
def ImgQ (ig ic : Nat) (img : List UInt8) : HP := Own (some ⟨ig, 0, none⟩) ic 5 1 img.length (enc img)
abbrev ImgP (s : Vs) : HP := ImgQ s.ig s.ic s.img
theorem ImgP.row (s : Vs) (o n : Nat) : CellRow [ImgP s] s.ig o (enc ((s.img.drop o).take n)) := by
  intro j v hj
  have h0 := CellRow.own (g := s.ig) (c := s.ic) (e := 5) (sz := 1) (n := s.img.length) (vs := enc s.img) (L := []) (o + j) v ?_
  · simpa [ImgP, ImgQ] using h0
  · have hlt := (List.getElem?_eq_some_iff.1 hj).1
    rw [enc_len, List.length_take] at hlt
    rw [enc_take, enc_drop, List.getElem?_take_of_lt (by omega), List.getElem?_drop] at hj
    exact hj
end Go.Proofs.YtcdalfhkhifplaaGreatDoor
