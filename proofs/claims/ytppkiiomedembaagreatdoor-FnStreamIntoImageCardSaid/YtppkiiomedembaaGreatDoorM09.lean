/-
  The walks: an inode is made. Conditions: none.
-/
import Derived.Test.YtppkiiomedembaaGreatDoorM08
set_option linter.unusedVariables false
set_option linter.unusedSimpArgs false
namespace Go.Proofs.YtppkiiomedembaaGreatDoor
open Go
set_option maxRecDepth 100000
set_option maxHeartbeats 4000000
attribute [local irreducible] E EO
abbrev fileC (z : Int) (md ui gi : Nat) (xm : Value) : List Value := [.string (str []), .int .i64 z, .int .u16 (md : Int), .int .u32 (ui : Int), .int .u32 (gi : Int), .bool false, .int .i64 0, .int .i64 0, .bool false, .int .i64 0, .int .i64 0, .bool false, .int .i64 0, .int .i64 0, .bool false, .int .i64 0, .int .i64 0, .int .u32 0, .int .u32 0, xm]
abbrev dirNd (g num md ui gi : Nat) : Nd := ⟨g, num, md, ui, gi, 1, 0, 262144, 0, [], [], some []⟩
theorem NodeP.clK (x : Nd) {ks : List (List UInt8 × Nat)} {A : Option Addr} {c n : Nat} {vs : List Value} {A' : Option Addr} {c' n' : Nat} {vs' : List Value} {gm : Nat} {es : Ents} (hk : x.kids = some ks) (h5 : es = kidE ks) (h1 : n = x.data.length := by rfl) (h2 : vs = enc x.data := by rfl) (h3 : n' = x.xin.length := by rfl) (h4 : vs' = enc x.xin := by rfl) :
    Tn [Cells x.g 187 [.int .i64 (x.size : Int), .int .u64 0, .int .u64 0, .int .u64 0, .int .u64 0, .int .u32 (x.num : Int), .int .u16 (x.mode : Int), .int .u32 (x.uid : Int), .int .u32 (x.gid : Int), .int .u32 (x.links : Int), .int .u32 0, .int .u32 (x.blks : Int), .int .u32 0, .int .u32 0,
      .int .u32 (x.flags : Int), .slice A n c, .slice A' n' c', .map (some gm)], Own A c 5 1 n vs, Own A' c' 5 1 n' vs', MapS gm es] (fun _ : Unit => True) (fun _ => [NodeP x]) := fun m S hS => by
  subst h1 h2 h3 h4
  have h0 : sats [NodesP []] m (fun _ => False) := sats_one (fun _ h => h)
  have h6 := NodesP.clK (l := [x]) (i := 0) x (by simp) (A := A) (c := c) (A' := A') (c' := c') (gm := gm) hk h5
  obtain ⟨_, S', _, h7, h8⟩ := h6 m S (by
    have : sats ([Cells x.g 187 [.int .i64 (x.size : Int), .int .u64 0, .int .u64 0, .int .u64 0, .int .u64 0, .int .u32 (x.num : Int), .int .u16 (x.mode : Int), .int .u32 (x.uid : Int), .int .u32 (x.gid : Int), .int .u32 (x.links : Int), .int .u32 0, .int .u32 (x.blks : Int), .int .u32 0, .int .u32 0,
      .int .u32 (x.flags : Int), .slice A x.data.length c, .slice A' x.xin.length c', .map (some gm)], Own A c 5 1 x.data.length (enc x.data), Own A' c' 5 1 x.xin.length (enc x.xin), MapS gm es] ++ [NodesP []]) m S := sats_append.2 ⟨S, fun _ => False, hS, h0, fun _ _ h => h, fun y => by simp⟩
    exact this)
  obtain ⟨_, S2, _, h9, h10⟩ := NodesP.open (l := [x]) (i := 0) (x := x) rfl m S' (by simpa using h7)
  obtain ⟨S3, S4, a, b, d1, d2⟩ := h9
  exact ⟨(), S3, trivial, sats_one a, fun y hy => h8 y (h10 y ((d2 y).2 (.inl hy)))⟩
theorem NodeP.clDir {g num md ui gi gm : Nat} : Tn [Cells g 187 [.int .i64 0, .int .u64 0, .int .u64 0, .int .u64 0, .int .u64 0, .int .u32 (num : Int), .int .u16 (md : Int), .int .u32 (ui : Int), .int .u32 (gi : Int), .int .u32 1, .int .u32 0, .int .u32 0, .int .u32 0, .int .u32 0,
      .int .u32 262144, .slice none 0 0, .slice none 0 0, .map (some gm)], Own none 0 5 1 0 (enc []), Own none 0 5 1 0 (enc []), MapS gm []] (fun _ : Unit => True) (fun _ => [NodeP (dirNd g num md ui gi)]) :=
  NodeP.clK (dirNd g num md ui gi) (ks := []) rfl rfl
theorem NodeP.clz (x : Nd) {z : Int} {lk' : Int} {fl : Int} {A : Option Addr} {c n : Nat} {vs : List Value} {A' : Option Addr} {c' n' : Nat} {vs' : List Value} {gm : Nat} (hz : z = (x.size : Int) := by rfl) (hlk : lk' = (x.links : Int) := by rfl) (hfl : fl = (x.flags : Int) := by rfl) (h1 : n = x.data.length := by rfl) (h2 : vs = enc x.data := by rfl) (h3 : n' = x.xin.length := by rfl) (h4 : vs' = enc x.xin := by rfl) :
    Tn [Cells x.g 187 [.int .i64 z, .int .u64 0, .int .u64 0, .int .u64 0, .int .u64 0, .int .u32 (x.num : Int), .int .u16 (x.mode : Int), .int .u32 (x.uid : Int), .int .u32 (x.gid : Int), .int .u32 lk', .int .u32 0, .int .u32 (x.blks : Int), .int .u32 0, .int .u32 0,
      .int .u32 fl, .slice A n c, .slice A' n' c', kidV x.kids gm], Own A c 5 1 n vs, Own A' c' 5 1 n' vs', .star (kidL x.kids gm)] (fun _ : Unit => True) (fun _ => [NodeP x]) := by
  subst hz hlk hfl h1 h2 h3 h4
  exact NodeP.cl x
theorem makeDir_fn (wg n c gf md ui gi : Nat) (A : Option Addr) (vs : List Value) (z : Int) (f0 f2 f3 f4 f5 f6 f7 f8 f9 f10 f11 : Value) (hn : n ≤ 100000000) (hmd : md &&& 61440 = 16384) (hm2 : md < 65536) (hui : ui < 4294967296) (hgi : gi < 4294967296) :
    Fe Tryz.prog 95 #[ptrV wg, ptrV gf, .pointer none] [Cells wg 174 [f0, .slice A n c, f2, f3, f4, f5, f6, f7, f8, f9, f10, f11], Own A c 172 1 n vs, Cells gf 181 (fileC z md ui gi (.map none))] (fun _ : Nat × Option Addr × Nat => True) (fun i => .tuple #[ptrV i.1, .nilIface])
      (fun i => [Cells wg 174 [f0, .slice i.2.1 (n + 1) i.2.2, f2, f3, f4, f5, f6, f7, f8, f9, f10, f11], Own i.2.1 i.2.2 172 1 (n + 1) (vs ++ [ptrV i.1]), NodeP (dirNd i.1 (n + 1) md ui gi)]) := by
  refine fn_of_E' (args := [_, _, _]) 29 _ [_, _, _, undef, undef, undef, undef, undef, undef, undef, undef, undef, undef, undef, undef, undef, undef, undef, undef, undef, undef, undef, undef, undef, undef, undef, undef, undef, undef] Tryz.func95 rfl Tryz.ntmps95 ?_
  refine E.nilB ?_
  refine E.nilB ?_
  refine walk ?_
  refine y_boxA rfl fun g => ?_
  refine walk ?_
  refine y_map fun gk => ?_
  refine walk ?_
  refine y_callD rfl rfl toFs0_fn ?_
  refine walk ?_
  refine y_callD rfl rfl toFs0_fn ?_
  refine walk ?_
  refine y_callD rfl rfl toFs0_fn ?_
  refine walk ?_
  refine y_callD rfl rfl toFs0_fn ?_
  refine walk ?_
  refine y_map fun gx => ?_
  refine walk ?_
  refine y_map fun ge => ?_
  refine walk ?_
  refine y_alloc fun gs => ?_
  refine walk ?_
  refine y_callD rfl rfl (xinit_fn gs _ _ _ _) ?_
  refine walk ?_
  refine y_range fun gt => ?_
  refine walk ?_
  refine y_loop ?_
  refine walk ?_
  refine y_next (fun _ => ?_) (fun j s u hj _ => ?_)
  rotate_left
  · simp at hj
  refine walk ?_
  refine y_lenM rfl ?_
  refine walk ?_
  refine y_tno NodeP.clDir fun _ _ => ?_
  refine y_callD rfl rfl (writeX0_fn wg gs (dirNd g (n + 1) md ui gi) 0 0 _ _) ?_
  refine y_tno5 NodeP.op fun B1 c1 B2 c2 gm _ => ?_
  dsimp only
  refine walk ?_
  refine y_build1 rfl fun gb => ?_
  refine walk ?_
  refine y_app1 rfl rfl fun A' c' => ?_
  refine walk ?_
  refine y_tn (NodeP.clz (dirNd g (n + 1) md ui gi) (z := 0) (gm := gm)) fun _ _ => ?_
  exact y_ret [6, 7] rfl ⟨(g, A', c'), trivial, rfl, rfl⟩
def regM (m0 : Nat) : Nat := if m0 &&& 61440 = 0 then m0 ||| 32768 else m0
abbrev regNd (g num md ui gi z : Nat) : Nd := ⟨g, num, md, ui, gi, 0, 0, 262144, z, [], [], none⟩
theorem NodeP.clR (x : Nd) {z bk' : Int} {lk' : Int} {fl : Int} {A : Option Addr} {c n : Nat} {vs : List Value} {A' : Option Addr} {c' n' : Nat} {vs' : List Value} (hk : x.kids = none) (hbk : bk' = (x.blks : Int) := by rfl) (hz : z = (x.size : Int) := by rfl) (hlk : lk' = (x.links : Int) := by rfl) (hfl : fl = (x.flags : Int) := by rfl) (h1 : n = x.data.length := by rfl) (h2 : vs = enc x.data := by rfl) (h3 : n' = x.xin.length := by rfl) (h4 : vs' = enc x.xin := by rfl) :
    Tn [Cells x.g 187 [.int .i64 z, .int .u64 0, .int .u64 0, .int .u64 0, .int .u64 0, .int .u32 (x.num : Int), .int .u16 (x.mode : Int), .int .u32 (x.uid : Int), .int .u32 (x.gid : Int), .int .u32 lk', .int .u32 0, .int .u32 bk', .int .u32 0, .int .u32 0,
      .int .u32 fl, .slice A n c, .slice A' n' c', .map none], Own A c 5 1 n vs, Own A' c' 5 1 n' vs'] (fun _ : Unit => True) (fun _ => [NodeP x]) := fun m S hS => by
  have h := NodeP.clz x (A := A) (c := c) (A' := A') (c' := c') (gm := 0) hz hlk hfl h1 h2 h3 h4
  rw [hk, ← hbk] at h
  refine h m S ?_
  have : sats ([Cells x.g 187 [.int .i64 z, .int .u64 0, .int .u64 0, .int .u64 0, .int .u64 0, .int .u32 (x.num : Int), .int .u16 (x.mode : Int), .int .u32 (x.uid : Int), .int .u32 (x.gid : Int), .int .u32 lk', .int .u32 0, .int .u32 bk', .int .u32 0, .int .u32 0,
      .int .u32 fl, .slice A n c, .slice A' n' c', .map none], Own A c 5 1 n vs, Own A' c' 5 1 n' vs'] ++ [.star []]) m S := sats_append.2 ⟨S, fun _ => False, hS, sats_one (fun _ h => h), fun _ _ h => h, fun y => by simp⟩
  exact this
theorem NodeP.clReg {g num md ui gi : Nat} : Tn [Cells g 187 [.int .i64 0, .int .u64 0, .int .u64 0, .int .u64 0, .int .u64 0, .int .u32 (num : Int), .int .u16 (md : Int), .int .u32 (ui : Int), .int .u32 (gi : Int), .int .u32 0, .int .u32 0, .int .u32 0, .int .u32 0, .int .u32 0,
      .int .u32 262144, .slice none 0 0, .slice none 0 0, .map none], Own none 0 5 1 0 (enc []), Own none 0 5 1 0 (enc [])] (fun _ : Unit => True) (fun _ => [NodeP (regNd g num md ui gi 0)]) := NodeP.clR (regNd g num md ui gi 0) rfl
theorem makeReg_fn (wg n c gf m0 md ui gi z : Nat) (A : Option Addr) (vs : List Value) (il : Bool) (f0 f2 f3 f4 f5 f6 f7 f8 f10 f11 : Value) (hn : n ≤ 100000000) (hmd : md = regM m0) (hreg : md &&& 61440 = 32768) (hm0 : m0 < 65536) (hm2 : md < 65536) (hui : ui < 4294967296) (hgi : gi < 4294967296) (hz : z ≤ 100000000) (hil : 136 < z ∨ il = false) :
    Fe Tryz.prog 95 #[ptrV wg, ptrV gf, .pointer none] [Cells wg 174 [f0, .slice A n c, f2, f3, f4, f5, f6, f7, f8, .bool il, f10, f11], Own A c 172 1 n vs, Cells gf 181 (fileC (z : Int) m0 ui gi (.map none))] (fun _ : Nat × (Option Addr × Nat) × Nat => True) (fun i => .tuple #[ptrV i.1, .nilIface])
      (fun i => [Cells wg 174 [f0, .slice i.2.1.1 (n + 1) i.2.1.2, f2, f3, f4, f5, f6, f7, f8, .bool il, f10, f11], Own i.2.1.1 i.2.1.2 172 1 (n + 1) (vs ++ [ptrV i.1]), NodeP (regNd i.1 (n + 1) md ui gi z), Cells gf 181 (fileC (z : Int) m0 ui gi (.map (some i.2.2)))]) := by
  unfold regM at hmd
  have hcase : 136 < z ∨ (z ≤ 136 ∧ il = false) := by
    rcases hil with h | h
    · exact .inl h
    · exact (Nat.lt_or_ge 136 z).imp id fun h' => ⟨h', h⟩
  split at hmd
  · subst hmd
    rcases hcase with h136 | ⟨h136, rfl⟩
    · refine fn_of_E' (args := [_, _, _]) 29 _ [_, _, _, undef, undef, undef, undef, undef, undef, undef, undef, undef, undef, undef, undef, undef, undef, undef, undef, undef, undef, undef, undef, undef, undef, undef, undef, undef, undef] Tryz.func95 rfl Tryz.ntmps95 ?_
      refine E.nilB ?_
      refine E.nilB ?_
      refine walk ?_
      refine y_boxA rfl fun g => ?_
      refine walk ?_
      refine y_callD rfl rfl toFs0_fn ?_
      refine walk ?_
      refine y_callD rfl rfl toFs0_fn ?_
      refine walk ?_
      refine y_callD rfl rfl toFs0_fn ?_
      refine walk ?_
      refine y_callD rfl rfl toFs0_fn ?_
      refine walk ?_
      refine y_map fun gx => ?_
      refine walk ?_
      refine y_map fun ge => ?_
      refine walk ?_
      refine y_alloc fun gs => ?_
      refine walk ?_
      refine y_callD rfl rfl (xinit_fn gs _ _ _ _) ?_
      refine walk ?_
      refine y_range fun gt => ?_
      refine walk ?_
      refine y_loop ?_
      refine walk ?_
      refine y_next (fun _ => ?_) (fun j s u hj _ => ?_)
      rotate_left
      · simp at hj
      refine walk ?_
      refine y_lenM rfl ?_
      refine walk ?_
      refine y_tno NodeP.clReg fun _ _ => ?_
      refine y_callD rfl rfl (writeX0_fn wg gs (regNd g (n + 1) (m0 ||| 32768) ui gi 0) 0 0 _ _) ?_
      refine y_tno5 NodeP.op fun B1 c1 B2 c2 gm _ => ?_
      dsimp only
      refine walk ?_
      refine y_build1 rfl fun gb => ?_
      refine walk ?_
      refine y_app1 rfl rfl fun A' c' => ?_
      refine walk ?_
      refine y_tn (NodeP.clz (regNd g (n + 1) (m0 ||| 32768) ui gi z) (z := (z : Int)) (gm := gm)) fun _ _ => ?_
      exact y_ret [6, 7] rfl ⟨(g, (A', c'), gx), trivial, rfl, rfl⟩
    · refine fn_of_E' (args := [_, _, _]) 29 _ [_, _, _, undef, undef, undef, undef, undef, undef, undef, undef, undef, undef, undef, undef, undef, undef, undef, undef, undef, undef, undef, undef, undef, undef, undef, undef, undef, undef] Tryz.func95 rfl Tryz.ntmps95 ?_
      refine E.nilB ?_
      refine E.nilB ?_
      refine walk ?_
      refine y_boxA rfl fun g => ?_
      refine walk ?_
      refine y_callD rfl rfl toFs0_fn ?_
      refine walk ?_
      refine y_callD rfl rfl toFs0_fn ?_
      refine walk ?_
      refine y_callD rfl rfl toFs0_fn ?_
      refine walk ?_
      refine y_callD rfl rfl toFs0_fn ?_
      refine walk ?_
      refine y_map fun gx => ?_
      refine walk ?_
      refine y_map fun ge => ?_
      refine walk ?_
      refine y_alloc fun gs => ?_
      refine walk ?_
      refine y_callD rfl rfl (xinit_fn gs _ _ _ _) ?_
      refine walk ?_
      refine y_range fun gt => ?_
      refine walk ?_
      refine y_loop ?_
      refine walk ?_
      refine y_next (fun _ => ?_) (fun j s u hj _ => ?_)
      rotate_left
      · simp at hj
      refine walk ?_
      refine y_lenM rfl ?_
      refine walk ?_
      refine y_tno NodeP.clReg fun _ _ => ?_
      refine y_callD rfl rfl (writeX0_fn wg gs (regNd g (n + 1) (m0 ||| 32768) ui gi 0) 0 0 _ _) ?_
      refine y_tno5 NodeP.op fun B1 c1 B2 c2 gm _ => ?_
      dsimp only
      refine walk ?_
      refine y_build1 rfl fun gb => ?_
      refine walk ?_
      refine y_app1 rfl rfl fun A' c' => ?_
      refine walk ?_
      refine y_tn (NodeP.clz (regNd g (n + 1) (m0 ||| 32768) ui gi z) (z := (z : Int)) (gm := gm)) fun _ _ => ?_
      exact y_ret [6, 7] rfl ⟨(g, (A', c'), gx), trivial, rfl, rfl⟩
  · subst hmd
    rcases hcase with h136 | ⟨h136, rfl⟩
    · refine fn_of_E' (args := [_, _, _]) 29 _ [_, _, _, undef, undef, undef, undef, undef, undef, undef, undef, undef, undef, undef, undef, undef, undef, undef, undef, undef, undef, undef, undef, undef, undef, undef, undef, undef, undef] Tryz.func95 rfl Tryz.ntmps95 ?_
      refine E.nilB ?_
      refine E.nilB ?_
      refine walk ?_
      refine y_boxA rfl fun g => ?_
      refine walk ?_
      refine y_callD rfl rfl toFs0_fn ?_
      refine walk ?_
      refine y_callD rfl rfl toFs0_fn ?_
      refine walk ?_
      refine y_callD rfl rfl toFs0_fn ?_
      refine walk ?_
      refine y_callD rfl rfl toFs0_fn ?_
      refine walk ?_
      refine y_map fun gx => ?_
      refine walk ?_
      refine y_map fun ge => ?_
      refine walk ?_
      refine y_alloc fun gs => ?_
      refine walk ?_
      refine y_callD rfl rfl (xinit_fn gs _ _ _ _) ?_
      refine walk ?_
      refine y_range fun gt => ?_
      refine walk ?_
      refine y_loop ?_
      refine walk ?_
      refine y_next (fun _ => ?_) (fun j s u hj _ => ?_)
      rotate_left
      · simp at hj
      refine walk ?_
      refine y_lenM rfl ?_
      refine walk ?_
      refine y_tno NodeP.clReg fun _ _ => ?_
      refine y_callD rfl rfl (writeX0_fn wg gs (regNd g (n + 1) md ui gi 0) 0 0 _ _) ?_
      refine y_tno5 NodeP.op fun B1 c1 B2 c2 gm _ => ?_
      dsimp only
      refine walk ?_
      refine y_build1 rfl fun gb => ?_
      refine walk ?_
      refine y_app1 rfl rfl fun A' c' => ?_
      refine walk ?_
      refine y_tn (NodeP.clz (regNd g (n + 1) md ui gi z) (z := (z : Int)) (gm := gm)) fun _ _ => ?_
      exact y_ret [6, 7] rfl ⟨(g, (A', c'), gx), trivial, rfl, rfl⟩
    · refine fn_of_E' (args := [_, _, _]) 29 _ [_, _, _, undef, undef, undef, undef, undef, undef, undef, undef, undef, undef, undef, undef, undef, undef, undef, undef, undef, undef, undef, undef, undef, undef, undef, undef, undef, undef] Tryz.func95 rfl Tryz.ntmps95 ?_
      refine E.nilB ?_
      refine E.nilB ?_
      refine walk ?_
      refine y_boxA rfl fun g => ?_
      refine walk ?_
      refine y_callD rfl rfl toFs0_fn ?_
      refine walk ?_
      refine y_callD rfl rfl toFs0_fn ?_
      refine walk ?_
      refine y_callD rfl rfl toFs0_fn ?_
      refine walk ?_
      refine y_callD rfl rfl toFs0_fn ?_
      refine walk ?_
      refine y_map fun gx => ?_
      refine walk ?_
      refine y_map fun ge => ?_
      refine walk ?_
      refine y_alloc fun gs => ?_
      refine walk ?_
      refine y_callD rfl rfl (xinit_fn gs _ _ _ _) ?_
      refine walk ?_
      refine y_range fun gt => ?_
      refine walk ?_
      refine y_loop ?_
      refine walk ?_
      refine y_next (fun _ => ?_) (fun j s u hj _ => ?_)
      rotate_left
      · simp at hj
      refine walk ?_
      refine y_lenM rfl ?_
      refine walk ?_
      refine y_tno NodeP.clReg fun _ _ => ?_
      refine y_callD rfl rfl (writeX0_fn wg gs (regNd g (n + 1) md ui gi 0) 0 0 _ _) ?_
      refine y_tno5 NodeP.op fun B1 c1 B2 c2 gm _ => ?_
      dsimp only
      refine walk ?_
      refine y_build1 rfl fun gb => ?_
      refine walk ?_
      refine y_app1 rfl rfl fun A' c' => ?_
      refine walk ?_
      refine y_tn (NodeP.clz (regNd g (n + 1) md ui gi z) (z := (z : Int)) (gm := gm)) fun _ _ => ?_
      exact y_ret [6, 7] rfl ⟨(g, (A', c'), gx), trivial, rfl, rfl⟩
theorem Rd.ownPre {g c n m : Nat} {b : List UInt8} (h : b.length = n) (hm : m ≤ n) : Rd [Own (some ⟨g, 0, none⟩) c 5 1 n (enc b)] (some ⟨g, 0, none⟩) m 1 (enc (b.take m)) := by
  obtain ⟨h1, h2⟩ := Rd.own (g := g) (c := c) (e := 5) (n := n) (vs := enc b) (by rw [enc_len, h])
  refine ⟨by simp [enc_len]; omega, .inr ⟨g, 0, rfl, ?_⟩⟩
  rcases h2 with h2 | ⟨g', o', e, h2⟩
  · intro j v hj
    have := (List.getElem?_eq_some_iff.1 hj).1
    rw [enc_len, List.length_take] at this; omega
  · cases e
    intro j v hj
    refine h2 j v ?_
    rw [enc_take] at hj
    have := (List.getElem?_eq_some_iff.1 hj).1
    rw [List.length_take, enc_len] at this
    rw [← hj, List.getElem?_take_of_lt (by omega)]
theorem makeRegI_fn (wg n c gf m0 md ui gi z : Nat) (A : Option Addr) (vs : List Value) (G : HP) (hG : PfxP G) (f0 f2 f3 f4 f5 f6 f7 f8 f10 f11 : Value) (hn : n ≤ 100000000) (hmd : md = regM m0) (hreg : md &&& 61440 = 32768) (hm0 : m0 < 65536) (hm2 : md < 65536) (hui : ui < 4294967296) (hgi : gi < 4294967296) (hz : z ≤ 136) :
    Fe Tryz.prog 95 #[ptrV wg, ptrV gf, .pointer none] [Cells wg 174 [f0, .slice A n c, f2, f3, f4, f5, f6, f7, f8, .bool true, f10, f11], Own A c 172 1 n vs, Cells gf 181 (fileC (z : Int) m0 ui gi (.map none)), G] (fun _ : Nat × (Option Addr × Nat) × Nat => True) (fun i => .tuple #[ptrV i.1, .nilIface])
      (fun i => [Cells wg 174 [f0, .slice i.2.1.1 (n + 1) i.2.1.2, f2, f3, f4, f5, f6, f7, f8, .bool true, f10, f11], Own i.2.1.1 i.2.1.2 172 1 (n + 1) (vs ++ [ptrV i.1]), NodeP ⟨i.1, n + 1, md, ui, gi, 0, 0, 262144 ||| 268435456, z, List.replicate z 0, xinB (List.replicate (z - 60) 0), none⟩, Cells gf 181 (fileC (z : Int) m0 ui gi (.map (some i.2.2))), G]) := by
  unfold regM at hmd
  split at hmd
  · subst hmd
    rcases Nat.lt_or_ge 60 z with h60 | h60
    · have hrd : ∀ gd, Rd [Own (some ⟨gd, 0, none⟩) z 5 1 z (enc (List.replicate z 0))] (some ⟨gd, 0, none⟩) (z - 60) 1 (enc (List.replicate (z - 60) 0)) := fun gd => by
        have := Rd.ownPre (g := gd) (c := z) (n := z) (m := (z - 60)) (b := List.replicate z 0) (by simp) (by omega)
        rwa [List.take_replicate, Nat.min_eq_left (by omega)] at this
      refine fn_of_E' (args := [_, _, _]) 29 _ [_, _, _, undef, undef, undef, undef, undef, undef, undef, undef, undef, undef, undef, undef, undef, undef, undef, undef, undef, undef, undef, undef, undef, undef, undef, undef, undef, undef] Tryz.func95 rfl Tryz.ntmps95 ?_
      refine E.nilB ?_
      refine E.nilB ?_
      refine walk ?_
      refine y_boxA rfl fun g => ?_
      refine walk ?_
      refine y_callD rfl rfl toFs0_fn ?_
      refine walk ?_
      refine y_callD rfl rfl toFs0_fn ?_
      refine walk ?_
      refine y_callD rfl rfl toFs0_fn ?_
      refine walk ?_
      refine y_callD rfl rfl toFs0_fn ?_
      refine walk ?_
      refine y_map fun gx => ?_
      refine walk ?_
      refine y_map fun ge => ?_
      refine walk ?_
      refine y_alloc fun gs => ?_
      refine walk ?_
      refine y_callD rfl rfl (xinit_fn gs _ _ _ _) ?_
      refine walk ?_
      refine y_make rfl rfl fun gd => ?_
      refine walk ?_
      refine y_callE rfl rfl (addX_fn gs (z - 60) z (some ⟨gd, 0, none⟩) G hG (by omega)) fun ix _ => ?_
      refine walk ?_
      refine y_range fun gt => ?_
      refine walk ?_
      refine y_loop ?_
      refine walk ?_
      refine y_next (fun _ => ?_) (fun j s u hj _ => ?_)
      rotate_left
      · simp at hj
      refine walk ?_
      refine y_lenM rfl ?_
      refine walk ?_
      rw [← enc_zeros]
      refine y_callE rfl rfl (writeX1_fn wg gs g ix.1 ix.2 0 (z - 60) z (some ⟨gd, 0, none⟩) _ (List.replicate (z - 60) 0) _ _ _ _ _ _ _ _ _ _ _ _ _ _ _ _ _ _ _ (hrd gd) (by simp) (by omega) (by omega)) fun gn _ => ?_
      refine walk ?_
      refine y_build1 rfl fun gb => ?_
      refine walk ?_
      refine y_app1 rfl rfl fun A' c' => ?_
      refine walk ?_
      refine y_tn (NodeP.clR ⟨g, n + 1, (m0 ||| 32768), ui, gi, 0, 0, 262144 ||| 268435456, z, List.replicate z 0, xinB (List.replicate (z - 60) 0), none⟩ (z := (z : Int)) (bk' := 0) (lk' := 0) (n := z) (vs := enc (List.replicate z 0)) (n' := 104) (vs' := enc (xinB (List.replicate (z - 60) 0))) rfl rfl rfl rfl rfl (by simp) rfl (by rw [xinB_len _ (by first | (simp; done) | (simp; omega))]) rfl) fun _ _ => ?_
      skip
      exact y_ret [6, 7] rfl ⟨(g, (A', c'), gx), trivial, rfl, rfl⟩
    · have e0 : z - 60 = 0 := by omega
      rw [e0]
      have hrd : ∀ gd, Rd [Own (some ⟨gd, 0, none⟩) z 5 1 z (enc (List.replicate z 0))] (some ⟨gd, 0, none⟩) 0 1 (enc (List.replicate 0 0)) := fun gd => by
        have := Rd.ownPre (g := gd) (c := z) (n := z) (m := 0) (b := List.replicate z 0) (by simp) (by omega)
        rwa [List.take_replicate, Nat.min_eq_left (by omega)] at this
      refine fn_of_E' (args := [_, _, _]) 29 _ [_, _, _, undef, undef, undef, undef, undef, undef, undef, undef, undef, undef, undef, undef, undef, undef, undef, undef, undef, undef, undef, undef, undef, undef, undef, undef, undef, undef] Tryz.func95 rfl Tryz.ntmps95 ?_
      refine E.nilB ?_
      refine E.nilB ?_
      refine walk ?_
      refine y_boxA rfl fun g => ?_
      refine walk ?_
      refine y_callD rfl rfl toFs0_fn ?_
      refine walk ?_
      refine y_callD rfl rfl toFs0_fn ?_
      refine walk ?_
      refine y_callD rfl rfl toFs0_fn ?_
      refine walk ?_
      refine y_callD rfl rfl toFs0_fn ?_
      refine walk ?_
      refine y_map fun gx => ?_
      refine walk ?_
      refine y_map fun ge => ?_
      refine walk ?_
      refine y_alloc fun gs => ?_
      refine walk ?_
      refine y_callD rfl rfl (xinit_fn gs _ _ _ _) ?_
      refine walk ?_
      refine y_make rfl rfl fun gd => ?_
      refine walk ?_
      refine y_callE rfl rfl (addX_fn gs 0 z (some ⟨gd, 0, none⟩) G hG (by omega)) fun ix _ => ?_
      refine walk ?_
      refine y_range fun gt => ?_
      refine walk ?_
      refine y_loop ?_
      refine walk ?_
      refine y_next (fun _ => ?_) (fun j s u hj _ => ?_)
      rotate_left
      · simp at hj
      refine walk ?_
      refine y_lenM rfl ?_
      refine walk ?_
      rw [← enc_zeros]
      refine y_callE rfl rfl (writeX1_fn wg gs g ix.1 ix.2 0 0 z (some ⟨gd, 0, none⟩) _ (List.replicate 0 0) _ _ _ _ _ _ _ _ _ _ _ _ _ _ _ _ _ _ _ (hrd gd) (by simp) (by omega) (by omega)) fun gn _ => ?_
      refine walk ?_
      refine y_build1 rfl fun gb => ?_
      refine walk ?_
      refine y_app1 rfl rfl fun A' c' => ?_
      refine walk ?_
      refine y_tn (NodeP.clR ⟨g, n + 1, (m0 ||| 32768), ui, gi, 0, 0, 262144 ||| 268435456, z, List.replicate z 0, xinB (List.replicate 0 0), none⟩ (z := (z : Int)) (bk' := 0) (lk' := 0) (n := z) (vs := enc (List.replicate z 0)) (n' := 104) (vs' := enc (xinB (List.replicate 0 0))) rfl rfl rfl rfl rfl (by simp) rfl (by rw [xinB_len _ (by first | (simp; done) | (simp; omega))]) rfl) fun _ _ => ?_
      skip
      exact y_ret [6, 7] rfl ⟨(g, (A', c'), gx), trivial, rfl, rfl⟩
  · subst hmd
    rcases Nat.lt_or_ge 60 z with h60 | h60
    · have hrd : ∀ gd, Rd [Own (some ⟨gd, 0, none⟩) z 5 1 z (enc (List.replicate z 0))] (some ⟨gd, 0, none⟩) (z - 60) 1 (enc (List.replicate (z - 60) 0)) := fun gd => by
        have := Rd.ownPre (g := gd) (c := z) (n := z) (m := (z - 60)) (b := List.replicate z 0) (by simp) (by omega)
        rwa [List.take_replicate, Nat.min_eq_left (by omega)] at this
      refine fn_of_E' (args := [_, _, _]) 29 _ [_, _, _, undef, undef, undef, undef, undef, undef, undef, undef, undef, undef, undef, undef, undef, undef, undef, undef, undef, undef, undef, undef, undef, undef, undef, undef, undef, undef] Tryz.func95 rfl Tryz.ntmps95 ?_
      refine E.nilB ?_
      refine E.nilB ?_
      refine walk ?_
      refine y_boxA rfl fun g => ?_
      refine walk ?_
      refine y_callD rfl rfl toFs0_fn ?_
      refine walk ?_
      refine y_callD rfl rfl toFs0_fn ?_
      refine walk ?_
      refine y_callD rfl rfl toFs0_fn ?_
      refine walk ?_
      refine y_callD rfl rfl toFs0_fn ?_
      refine walk ?_
      refine y_map fun gx => ?_
      refine walk ?_
      refine y_map fun ge => ?_
      refine walk ?_
      refine y_alloc fun gs => ?_
      refine walk ?_
      refine y_callD rfl rfl (xinit_fn gs _ _ _ _) ?_
      refine walk ?_
      refine y_make rfl rfl fun gd => ?_
      refine walk ?_
      refine y_callE rfl rfl (addX_fn gs (z - 60) z (some ⟨gd, 0, none⟩) G hG (by omega)) fun ix _ => ?_
      refine walk ?_
      refine y_range fun gt => ?_
      refine walk ?_
      refine y_loop ?_
      refine walk ?_
      refine y_next (fun _ => ?_) (fun j s u hj _ => ?_)
      rotate_left
      · simp at hj
      refine walk ?_
      refine y_lenM rfl ?_
      refine walk ?_
      rw [← enc_zeros]
      refine y_callE rfl rfl (writeX1_fn wg gs g ix.1 ix.2 0 (z - 60) z (some ⟨gd, 0, none⟩) _ (List.replicate (z - 60) 0) _ _ _ _ _ _ _ _ _ _ _ _ _ _ _ _ _ _ _ (hrd gd) (by simp) (by omega) (by omega)) fun gn _ => ?_
      refine walk ?_
      refine y_build1 rfl fun gb => ?_
      refine walk ?_
      refine y_app1 rfl rfl fun A' c' => ?_
      refine walk ?_
      refine y_tn (NodeP.clR ⟨g, n + 1, md, ui, gi, 0, 0, 262144 ||| 268435456, z, List.replicate z 0, xinB (List.replicate (z - 60) 0), none⟩ (z := (z : Int)) (bk' := 0) (lk' := 0) (n := z) (vs := enc (List.replicate z 0)) (n' := 104) (vs' := enc (xinB (List.replicate (z - 60) 0))) rfl rfl rfl rfl rfl (by simp) rfl (by rw [xinB_len _ (by first | (simp; done) | (simp; omega))]) rfl) fun _ _ => ?_
      skip
      exact y_ret [6, 7] rfl ⟨(g, (A', c'), gx), trivial, rfl, rfl⟩
    · have e0 : z - 60 = 0 := by omega
      rw [e0]
      have hrd : ∀ gd, Rd [Own (some ⟨gd, 0, none⟩) z 5 1 z (enc (List.replicate z 0))] (some ⟨gd, 0, none⟩) 0 1 (enc (List.replicate 0 0)) := fun gd => by
        have := Rd.ownPre (g := gd) (c := z) (n := z) (m := 0) (b := List.replicate z 0) (by simp) (by omega)
        rwa [List.take_replicate, Nat.min_eq_left (by omega)] at this
      refine fn_of_E' (args := [_, _, _]) 29 _ [_, _, _, undef, undef, undef, undef, undef, undef, undef, undef, undef, undef, undef, undef, undef, undef, undef, undef, undef, undef, undef, undef, undef, undef, undef, undef, undef, undef] Tryz.func95 rfl Tryz.ntmps95 ?_
      refine E.nilB ?_
      refine E.nilB ?_
      refine walk ?_
      refine y_boxA rfl fun g => ?_
      refine walk ?_
      refine y_callD rfl rfl toFs0_fn ?_
      refine walk ?_
      refine y_callD rfl rfl toFs0_fn ?_
      refine walk ?_
      refine y_callD rfl rfl toFs0_fn ?_
      refine walk ?_
      refine y_callD rfl rfl toFs0_fn ?_
      refine walk ?_
      refine y_map fun gx => ?_
      refine walk ?_
      refine y_map fun ge => ?_
      refine walk ?_
      refine y_alloc fun gs => ?_
      refine walk ?_
      refine y_callD rfl rfl (xinit_fn gs _ _ _ _) ?_
      refine walk ?_
      refine y_make rfl rfl fun gd => ?_
      refine walk ?_
      refine y_callE rfl rfl (addX_fn gs 0 z (some ⟨gd, 0, none⟩) G hG (by omega)) fun ix _ => ?_
      refine walk ?_
      refine y_range fun gt => ?_
      refine walk ?_
      refine y_loop ?_
      refine walk ?_
      refine y_next (fun _ => ?_) (fun j s u hj _ => ?_)
      rotate_left
      · simp at hj
      refine walk ?_
      refine y_lenM rfl ?_
      refine walk ?_
      rw [← enc_zeros]
      refine y_callE rfl rfl (writeX1_fn wg gs g ix.1 ix.2 0 0 z (some ⟨gd, 0, none⟩) _ (List.replicate 0 0) _ _ _ _ _ _ _ _ _ _ _ _ _ _ _ _ _ _ _ (hrd gd) (by simp) (by omega) (by omega)) fun gn _ => ?_
      refine walk ?_
      refine y_build1 rfl fun gb => ?_
      refine walk ?_
      refine y_app1 rfl rfl fun A' c' => ?_
      refine walk ?_
      refine y_tn (NodeP.clR ⟨g, n + 1, md, ui, gi, 0, 0, 262144 ||| 268435456, z, List.replicate z 0, xinB (List.replicate 0 0), none⟩ (z := (z : Int)) (bk' := 0) (lk' := 0) (n := z) (vs := enc (List.replicate z 0)) (n' := 104) (vs' := enc (xinB (List.replicate 0 0))) rfl rfl rfl rfl rfl (by simp) rfl (by rw [xinB_len _ (by first | (simp; done) | (simp; omega))]) rfl) fun _ _ => ?_
      skip
      exact y_ret [6, 7] rfl ⟨(g, (A', c'), gx), trivial, rfl, rfl⟩
end Go.Proofs.YtppkiiomedembaaGreatDoor
