/-
  The walks: a writer is made, files are handed to it; The walks: operations are copied, the first file is created; The walks: an image is written by operations; Plain facts: a chain of directories with a file at its end; The walks: names are joined, and looked at; The walks: the steps of a chain of directories with a file at its end; The walks: a chain of directories is written; The walks: the chain's image is closed; The walks: the chain's image is closed: its bytes; The walks: the image of a chain of directories with a file at its end; Plain facts: what an inode's bytes tell; Plain facts: the inodes of the chain are read; Plain facts: a small file within its inode; Plain facts: the file of the chain is read; Plain facts: the bytes of an image; Plain facts: the parts of an image; Plain facts: the chain of directories is read; Plain facts: the tree of a chain is read; Plain facts: the tree of an image is read; Plain facts: an image is read; Plain facts: the tree of an image. Conditions: none.
-/
import Derived.Test.YtcdalfhkhifplaaGreatDoorM17
import Derived.Test.YtcdalfhkhifplaaGreatDoorM14
import Derived.Test.YtcdalfhkhifplaaGreatDoorM16
set_option linter.unusedVariables false
set_option linter.unusedSimpArgs false
namespace Go.Proofs.YtcdalfhkhifplaaGreatDoor
open Go
set_option maxRecDepth 100000
set_option maxHeartbeats 1000000
attribute [local irreducible] E EO
theorem spoilt0_fn : Qn Tryz.prog 33 #[.nilIface] [] (.int .i64 0) := by
  refine fn_of_E' (args := [_]) 3 _ [_, undef, undef] Tryz.func33 rfl Tryz.ntmps33 ?_
  refine walk ?_
  exact y_ret [2] rfl rfl
abbrev rawW (dg : Nat) (il : Bool) (mx : Int) : List Value := [ptrV dg, .slice none 0 0, .string (str []), .pointer none, .int .i64 0, .int .i64 0, .int .i64 0, .nilIface, .bool false, .bool il, .int .i64 mx, .int .u32 0]
theorem mds1_fn (wg g dg : Nat) (il : Bool) (mx : Int) :
    Fd Tryz.prog 42 #[ptrV wg, ptrV g] [Cells wg 112 (rawW dg il mx), Cells g 2 [.int .i64 0]] (.tuple #[]) [Cells wg 112 (rawW dg il ((17179869184 : Nat) : Int)), Cells g 2 [.int .i64 0]] := by
  refine fn_of_E' (args := [_, _]) 3 _ [_, _, undef] Tryz.func42 rfl Tryz.ntmps42 ?_
  refine walk ?_
  exact y_endE [] rfl ⟨rfl, rfl⟩ rfl
theorem inl_fn (wg dg : Nat) (il : Bool) (mx : Int) :
    Fd Tryz.prog 24 #[ptrV wg] [Cells wg 112 (rawW dg il mx)] (.tuple #[]) [Cells wg 112 (rawW dg true mx)] := by
  refine fn_of_E' (args := [_]) 2 _ [_, undef] Tryz.func24 rfl Tryz.ntmps24 ?_
  refine walk ?_
  exact y_end [] rfl ⟨rfl, rfl⟩
theorem mds_fn : Fe Tryz.prog 23 #[.int .i64 0] [] (fun _ : Nat => True) (fun g => .func (.func 42) #[] #[ptrV g]) (fun g => [Cells g 2 [.int .i64 0]]) := by
  refine fn_of_E' (args := [_]) 3 _ [_, undef, undef] Tryz.func23 rfl Tryz.ntmps23 ?_
  refine walk ?_
  refine y_box rfl fun g => ?_
  refine walk ?_
  exact y_retE [2] rfl ⟨g, trivial, rfl, rfl⟩ rfl
theorem iTime0_fn : Fd Tryz.prog 49 #[.agg #[.bool false, .int .i64 0, .int .i64 0]] [] (.agg #[.bool false, .int .i64 0, .int .i64 0]) [] := by
  refine fn_of_E' (args := [_]) 3 _ [_, undef, undef] Tryz.func49 rfl Tryz.ntmps49 ?_
  refine e_seq ?_
  refine e_region ?_
  refine y_boxA (vs := [.bool false, .int .i64 0, .int .i64 0]) rfl fun g => ?_
  refine walk ?_
  refine y_alloc fun g2 => ?_
  refine walk ?_
  exact y_retC 2 rfl (by first | ((repeat (first | ((with_reducible apply Rows.here); (focus (repeat constructor))) | (with_reducible apply Rows.there))) <;> fail) | fail) ⟨rfl, rfl⟩
abbrev fileI (z : Int) (md ui gi : Nat) : List Value := [.string (str []), .int .i64 z, .int .u16 (md : Int), .int .u32 (ui : Int), .int .u32 (gi : Int), .bool false, .int .i64 0, .int .i64 0, .bool false, .int .i64 0, .int .i64 0, .bool false, .int .i64 0, .int .i64 0, .bool false, .int .i64 0, .int .i64 0, .int .u32 0, .int .u32 0, .slice none 0 0]
theorem toFile_fn (z : Int) (md ui gi : Nat) : Fe Tryz.prog 27 #[.agg (fileI z md ui gi).toArray] [] (fun _ : Nat => True) (fun g => ptrV g) (fun g => [Cells g 119 (fileC z md ui gi (.map none))]) := by
  refine fn_of_E' (args := [_]) 6 _ [_, undef, undef, undef, undef, undef] Tryz.func27 rfl Tryz.ntmps27 ?_
  refine e_seq ?_
  refine e_region ?_
  refine y_boxA (vs := fileI z md ui gi) rfl fun g1 => ?_
  refine walk ?_
  refine y_callG rfl rfl iTime0_fn ?_
  refine walk ?_
  refine y_callG rfl rfl iTime0_fn ?_
  refine walk ?_
  refine y_callG rfl rfl iTime0_fn ?_
  refine walk ?_
  refine y_callG rfl rfl iTime0_fn ?_
  refine walk ?_
  refine y_boxA rfl fun g2 => ?_
  refine walk ?_
  refine y_loop ?_
  refine walk ?_
  exact y_ret [2] rfl ⟨g2, trivial, rfl, rfl⟩
theorem newW0_fn (dg gs gA c : Nat) :
    Fe Tryz.prog 25 #[ptrV dg, .slice (some ⟨gs, 0, none⟩) 1 c] [Own (some ⟨gs, 0, none⟩) c 81 1 1 [.func (.func 42) #[] #[ptrV gA]], Cells gA 2 [.int .i64 0]] (fun _ : Nat => True) (fun g => ptrV g)
      (fun g => [Cells g 112 (rawW dg false ((17179869184 : Nat) : Int))]) := by
  refine fn_of_E' (args := [_, _]) 8 _ [_, _, undef, undef, undef, undef, undef, undef] Tryz.func25 rfl Tryz.ntmps25 ?_
  refine walk ?_
  refine y_boxA rfl fun wg => ?_
  refine walk ?_
  show E _ _ _ _ [Cells wg 112 (rawW dg false ((17179869184 : Nat) : Int)), Own (some ⟨gs, 0, none⟩) c 81 1 1 [.func (.func 42) #[] #[ptrV gA]], Cells gA 2 [.int .i64 0]]
  refine y_loop ?_
  refine walk ?_
  refine y_loadE (a := 0) (v := .func (.func 42) #[] #[ptrV gA]) rfl ?_
  refine walk ?_
  refine y_callD rfl rfl (mds1_fn wg gA dg false ((17179869184 : Nat) : Int)) ?_
  refine walk ?_
  refine y_again ?_
  refine walk ?_
  exact y_ret [4] rfl ⟨wg, trivial, rfl, rfl⟩
theorem newW1_fn (dg gs gA c : Nat) :
    Fe Tryz.prog 25 #[ptrV dg, .slice (some ⟨gs, 0, none⟩) 2 c] [Own (some ⟨gs, 0, none⟩) c 81 1 2 [.func (.func 42) #[] #[ptrV gA], .func (.func 24) #[] #[]], Cells gA 2 [.int .i64 0]] (fun _ : Nat => True) (fun g => ptrV g)
      (fun g => [Cells g 112 (rawW dg true ((17179869184 : Nat) : Int))]) := by
  refine fn_of_E' (args := [_, _]) 8 _ [_, _, undef, undef, undef, undef, undef, undef] Tryz.func25 rfl Tryz.ntmps25 ?_
  refine walk ?_
  refine y_boxA rfl fun wg => ?_
  refine walk ?_
  show E _ _ _ _ [Cells wg 112 (rawW dg false ((17179869184 : Nat) : Int)), Own (some ⟨gs, 0, none⟩) c 81 1 2 [.func (.func 42) #[] #[ptrV gA], .func (.func 24) #[] #[]], Cells gA 2 [.int .i64 0]]
  refine y_loop ?_
  refine walk ?_
  refine y_loadE (a := 0) (v := .func (.func 42) #[] #[ptrV gA]) rfl ?_
  refine walk ?_
  refine y_callD rfl rfl (mds1_fn wg gA dg false ((17179869184 : Nat) : Int)) ?_
  refine walk ?_
  refine y_again ?_
  refine walk ?_
  refine y_loadE (a := 1) (v := .func (.func 24) #[] #[]) rfl ?_
  refine walk ?_
  refine y_callD rfl rfl (inl_fn wg dg false ((17179869184 : Nat) : Int)) ?_
  refine walk ?_
  refine y_again ?_
  refine walk ?_
  exact y_ret [4] rfl ⟨wg, trivial, rfl, rfl⟩
end Go.Proofs.YtcdalfhkhifplaaGreatDoor
namespace Go.Proofs.YtcdalfhkhifplaaGreatDoor
open Go
set_option maxRecDepth 100000
set_option maxHeartbeats 1000000
attribute [local irreducible] E EO
theorem dup_fn (B : Option Addr) (m c : Nat) (b : List UInt8) (M : HP) (hr : Rd [M] B m 1 (enc b)) (hB : B = none → m = 0) (hm : m ≤ 1000000000) :
    Fe Tryz.prog 35 #[.slice B m c] [M] (fun _ : Option Addr × Nat => True) (fun i => .slice i.1 m i.2) (fun i => [Own i.1 i.2 5 1 m (enc b), M]) := by
  refine fn_of_E' (args := [_]) 3 _ [_, undef, undef] Tryz.func35 rfl Tryz.ntmps35 ?_
  refine walk ?_
  refine y_build0 fun gz => ?_
  refine walk ?_
  refine y_appR (news := enc b) rfl rfl hr hB (fun u hu => List.all_eq_true.1 (enc_all b) u hu) fun A2 c2 => ?_
  rw [Nat.zero_add m, List.nil_append]
  refine walk ?_
  exact y_ret [2] rfl ⟨(A2, c2), trivial, rfl, rfl⟩
theorem dupX0_fn : Fd Tryz.prog 36 #[.slice none 0 0] [] (.slice none 0 0) [] := by
  refine fn_of_E' (args := [_]) 6 _ [_, undef, undef, undef, undef, undef] Tryz.func36 rfl Tryz.ntmps36 ?_
  refine walk ?_
  refine y_loop ?_
  refine walk ?_
  exact y_ret [2] rfl ⟨rfl, rfl⟩
theorem createRoot0_fn (wg dg : Nat) (il : Bool) (gf md ui gi : Nat) (zi : Int)
    (hmd : md &&& 61440 = 16384) (hmd2 : md < 65536) (hui : ui < 4294967296) (hgi : gi < 4294967296) :
    Fe Tryz.prog 26 #[ptrV wg, .string (str [47]), ptrV gf] [Cells wg 112 (rawW dg il ((17179869184 : Nat) : Int)), DiskP dg 0 [], Cells gf 119 (fileC zi md ui gi (.map none))] (fun _ : Nat × Nat => True) (fun _ => .nilIface)
      (fun i => [WP (ws1 wg dg il i.1 i.2), NodesP [⟨i.1, 2, md, ui, gi, 3, 0, 262144, 0, [], [], some [(lfN, i.2)]⟩, ⟨i.2, 11, 16832, 0, 0, 2, 0, 262144, 0, [], [], some []⟩]]) := by
  refine fn_of_E' (args := [_, _, _]) 14 _ [_, _, _, undef, undef, undef, undef, undef, undef, undef, undef, undef, undef, undef] Tryz.func26 rfl Tryz.ntmps26 ?_
  refine walk ?_
  refine y_callE rfl rfl (finishN_fn wg dg il) fun i _ => ?_
  obtain ⟨g2, g11⟩ := i
  dsimp only
  have hlook := lookup0_fn (ws1 wg dg il g2 g11) (NodesP (nds1 g2 g11)) g2 rfl (by simp) false
  have hx : (nds1 g2 g11)[0]? = some ⟨g2, 2, 16877, 0, 0, 3, 0, 262144, 0, [], [], some [(lfN, g11)]⟩ := rfl
  refine walk ?_
  refine y_callD rfl rfl hlook ?_
  refine walk ?_
  refine y_callq rfl rfl (isDir_fn g2 16877 (NodesP (nds1 g2 g11)) (by omega) (NodesP.cell hx 6 _ fun _ => rfl)) ?_
  rw [show decide (16877 &&& 61440 = 16384) = true from rfl]
  refine walk ?_
  refine y_tno2 WP.op fun A ca _ => ?_
  refine y_tno (NodesP.open hx) fun _ _ => ?_
  refine y_callE rfl rfl (makeRoot_fn (ws1 wg dg il g2 g11).wg (ws1 wg dg il g2 g11).ids.length ca gf md ui gi A ((ws1 wg dg il g2 g11).ids.map optV) zi ⟨g2, 2, 16877, 0, 0, 3, 0, 262144, 0, [], [], some [(lfN, g11)]⟩ _ _ _ _ _ _ _ _ _ _ _ (by simp) hmd hmd2 hui hgi (by dsimp only; decide) (by dsimp only; omega) rfl (by simp) (by dsimp only; omega)) fun j _ => ?_
  dsimp only
  refine walk ?_
  refine y_neA (e := 125) rfl rfl (by kernel_rfl) (by kernel_rfl) ?_
  refine walk ?_
  refine y_loadC (v := .int .u16 (md : Int)) (.there (.there (NodeP.cell 6 _ fun _ => rfl))) ?_
  refine walk ?_
  refine y_tn (NodesP.close (l := nds1 g2 g11) ⟨g2, 2, md, ui, gi, 3, 0, 262144, 0, [], [], some [(lfN, g11)]⟩ (List.getElem?_eq_some_iff.1 hx).1) fun _ _ => ?_
  refine y_tn (WP.cl (ws1 wg dg il g2 g11)) fun _ _ => ?_
  exact y_retE [6] rfl ⟨(g2, g11), trivial, rfl, rfl⟩ rfl
structure OpR where
  op : Nat
  nm : List UInt8
  z : Nat
  md : Nat
  ui : Nat
  gi : Nat
  dat : List UInt8
structure OpA where
  D : Option Addr
  c : Nat
abbrev opV (r : OpR) (a : OpA) : List Value := [.int .i64 (r.op : Int), .string (str r.nm), .string (str []), .string (str []), .int .i64 (r.z : Int), .int .u16 (r.md : Int), .int .u32 (r.ui : Int), .int .u32 (r.gi : Int), .bool false, .int .i64 0, .int .i64 0, .bool false, .int .i64 0, .int .i64 0, .bool false, .int .i64 0, .int .i64 0, .bool false, .int .i64 0, .int .i64 0, .int .u32 0, .int .u32 0, .slice none 0 0, .slice a.D r.dat.length a.c]
def opsV : List OpR → List OpA → List Value
  | r :: rs, a :: al => opV r a ++ opsV rs al
  | _, _ => []
theorem opsV_app : ∀ (rs : List OpR) (al : List OpA) (r : OpR) (a : OpA), al.length = rs.length → opsV (rs ++ [r]) (al ++ [a]) = opsV rs al ++ opV r a
  | [], [], r, a, _ => rfl
  | q :: rs, b :: al, r, a, h => by
    have := opsV_app rs al r a (by simpa using h)
    simp only [List.cons_append, opsV, this, List.append_assoc]
theorem opsV_get : ∀ (rs : List OpR) (al : List OpA) (i : Nat) (r : OpR) (a : OpA), rs[i]? = some r → al[i]? = some a → ((opsV rs al).drop (i * 24)).take 24 = opV r a
  | q :: rs, b :: al, 0, r, a, h1, h2 => by
    simp at h1 h2; subst h1 h2; rfl
  | q :: rs, b :: al, i + 1, r, a, h1, h2 => by
    have := opsV_get rs al i r a (by simpa using h1) (by simpa using h2)
    simp only [opsV]
    rw [show (i + 1) * 24 = (opV q b).length + i * 24 by simp; omega, List.drop_append, List.drop_of_length_le (by omega), List.nil_append, show (opV q b).length + i * 24 - (opV q b).length = i * 24 by omega, this]
theorem opsV_len : ∀ (rs : List OpR) (al : List OpA), al.length = rs.length → (opsV rs al).length = rs.length * 24
  | [], [], _ => rfl
  | q :: rs, b :: al, h => by
    have := opsV_len rs al (by simpa using h)
    simp only [opsV, List.length_append, this, List.length_cons, List.length_nil]; omega
def opsP : List OpR → List OpA → List HP
  | r :: rs, a :: al => Own a.D a.c 5 1 r.dat.length (enc r.dat) :: opsP rs al
  | _, _ => []
theorem opsP_app : ∀ (rs : List OpR) (al : List OpA) (r : OpR) (a : OpA), al.length = rs.length → opsP (rs ++ [r]) (al ++ [a]) = opsP rs al ++ [Own a.D a.c 5 1 r.dat.length (enc r.dat)]
  | [], [], r, a, _ => rfl
  | q :: rs, b :: al, r, a, h => by
    have := opsP_app rs al r a (by simpa using h)
    simp only [List.cons_append, opsP, this]
theorem opsP_add (rs : List OpR) (al : List OpA) (r : OpR) (a : OpA) (h : al.length = rs.length) : Tn [Own a.D a.c 5 1 r.dat.length (enc r.dat), HP.star (opsP rs al)] (fun _ : Unit => True) (fun _ => [HP.star (opsP (rs ++ [r]) (al ++ [a]))]) := fun m S hS => by
  refine ⟨(), S, trivial, sats_one ?_, fun _ h => h⟩
  show sats (opsP (rs ++ [r]) (al ++ [a])) m S
  rw [opsP_app _ _ _ _ h]
  have h1 : sats ([Own a.D a.c 5 1 r.dat.length (enc r.dat)] ++ [HP.star (opsP rs al)]) m S := hS
  obtain ⟨S1, S2, a1, a2, a3, a4⟩ := sats_append.1 h1
  exact sats_append.2 ⟨S2, S1, sats_one' a2, a1, fun g h1 h2 => a3 g h2 h1, fun g => (a4 g).trans Or.comm⟩
theorem dupOps_fn (rs : List OpR) (al : List OpA) (go co : Nat) (M : HP) (has : al.length = rs.length) (hn : rs.length ≤ 1000) (hd : ∀ (i : Nat) (r : OpR) (a : OpA), rs[i]? = some r → al[i]? = some a → Rd [M] a.D r.dat.length 1 (enc r.dat) ∧ (a.D = none → r.dat.length = 0) ∧ r.dat.length ≤ 1000000000) :
    Fe Tryz.prog 15 #[.slice (some ⟨go, 0, none⟩) rs.length co] [Own (some ⟨go, 0, none⟩) co 35 24 rs.length (opsV rs al), M] (fun i : (Option Addr × Nat) × List OpA => i.2.length = rs.length) (fun i => .slice i.1.1 rs.length i.1.2)
      (fun i => [Own i.1.1 i.1.2 35 24 rs.length (opsV rs i.2), HP.star (opsP rs i.2), Own (some ⟨go, 0, none⟩) co 35 24 rs.length (opsV rs al), M]) := by
  refine fn_of_E' (args := [_]) 6 _ [_, undef, undef, undef, undef, undef] Tryz.func15 rfl Tryz.ntmps15 ?_
  refine walk ?_
  refine E.nilOwn (e := 35) (sz := 24) ?_
  refine y_tn (Tn.close (L := [])) fun _ _ => ?_
  refine e_roundsT (ι := Nat × List OpA × (Option Addr × Nat) × Value) (fun z => rs.length - z.1)
    (fun z => [.slice (some ⟨go, 0, none⟩) rs.length co, undef, .slice none 0 0, .slice z.2.2.1.1 z.1 z.2.2.1.2, undef, z.2.2.2])
    (fun z => [(8, .int .i64 (z.1 : Nat)), (7, .int .i64 (rs.length : Nat)), (6, .slice (some ⟨go, 0, none⟩) rs.length co)])
    (fun z => [Own z.2.2.1.1 z.2.2.1.2 35 24 z.1 (opsV (rs.take z.1) z.2.1), HP.star (opsP (rs.take z.1) z.2.1), Own (some ⟨go, 0, none⟩) co 35 24 rs.length (opsV rs al), M])
    (fun z => z.1 ≤ rs.length ∧ z.2.1.length = z.1) (0, [], (none, 0), undef) ⟨Nat.zero_le _, rfl⟩ rfl (by repeat constructor) (by exact .cons (.there .here) (.cons .here (.cons .here (.cons .here .nil)))) ?_
  rintro ⟨i, bs, ⟨A, c⟩, w5⟩ ⟨hi, hbl⟩ again
  dsimp only at hi hbl again ⊢
  by_cases hlt : i < rs.length
  · obtain ⟨r, hr⟩ : ∃ r, rs[i]? = some r := ⟨_, List.getElem?_eq_getElem hlt⟩
    obtain ⟨a, ha⟩ : ∃ a, al[i]? = some a := ⟨_, List.getElem?_eq_getElem (by omega)⟩
    obtain ⟨d1, d2, d3⟩ := hd i r a hr ha
    have htk : rs.take (i + 1) = rs.take i ++ [r] := by rw [List.take_add_one, hr]; rfl
    have htl : (rs.take i).length = i := by rw [List.length_take]; omega
    refine walk ?_
    refine y_loadS (vs := opsV rs al) (us := opV r a) (i * 24) (opsV_get _ _ i r a hr ha) ?_
    refine walk ?_
    refine y_alloc fun g5 => ?_
    refine walk ?_
    refine e_cont (ι := Option Addr × Nat) (fun _ => [.slice (some ⟨go, 0, none⟩) rs.length co, undef, .slice none 0 0, .slice A i c, undef, ptrV g5])
      (fun _ => [(8, .int .i64 (i : Nat)), (7, .int .i64 (rs.length : Nat)), (6, .slice (some ⟨go, 0, none⟩) rs.length co)])
      (fun q => [Own q.1 q.2 5 1 r.dat.length (enc r.dat), Cells g5 35 (opV r ⟨q.1, q.2⟩), Own A c 35 24 i (opsV (rs.take i) bs), HP.star (opsP (rs.take i) bs), Own (some ⟨go, 0, none⟩) co 35 24 rs.length (opsV rs al), M]) (fun _ => True) (fun rest => ?_) ?_
    · refine e_pairK ?_ (by first | ((repeat (first | exact KeepR.nil | apply KeepR.yes rfl | apply KeepR.no rfl)) <;> fail) | fail)
      refine walk ?_
      refine x_two ?_ ?_
      · refine y_callE rfl rfl (dup_fn a.D r.dat.length a.c r.dat M d1 d2 d3) fun q _ => ?_
        refine walkO ?_
        refine y_callD rfl rfl dupX0_fn ?_
        refine walkO ?_
        refine x_end ?_
        exact (rest q trivial).toP (ks := [8, 7, 6]) rfl (by repeat constructor) sub_
      · refine walkO ?_
        refine y_callE rfl rfl (dup_fn a.D r.dat.length a.c r.dat M d1 d2 d3) fun q _ => ?_
        refine walkO ?_
        refine y_callD rfl rfl dupX0_fn ?_
        refine walkO ?_
        refine x_end ?_
        exact (rest q trivial).toP (ks := [8, 7, 6]) rfl (by repeat constructor) sub_
    · rintro ⟨D, cD⟩ _
      dsimp only
      refine walk ?_
      refine y_build (vs := [.agg (opV r ⟨D, cD⟩).toArray]) (cs := opV r ⟨D, cD⟩) rfl (fill_one (n := 24) [.int .i64 0, .string ⟨#[]⟩, .string ⟨#[]⟩, .string ⟨#[]⟩, .int .i64 0, .int .u16 0, .int .u32 0, .int .u32 0, .bool false, .int .i64 0, .int .i64 0, .bool false, .int .i64 0, .int .i64 0, .bool false, .int .i64 0, .int .i64 0, .bool false, .int .i64 0, .int .i64 0, .int .u32 0, .int .u32 0, .slice none 0 0, .slice none 0 0] _ rfl rfl (by omega)) rfl fun gs => ?_
      refine walk ?_
      refine x_app (vs := opsV (rs.take i) bs) (news := opV r ⟨D, cD⟩) rfl rfl take_ (by exact ⟨rfl, .inr ⟨_, _, rfl, (by first | ((repeat (first | exact CellRow.own | exact CellRow.here | apply CellRow.there)) <;> fail) | fail)⟩⟩) (fun h => by cases h) (by simp [Value.oneCell']) (by rfl) (by omega) (by simp only [maxLen]; omega) (by omega) (fun A5 c5 => ⟨_, _, pt_, ?_⟩)
      refine walk ?_
      have hP := opsP_add (rs.take i) bs r ⟨D, cD⟩ (by rw [htl, hbl])
      refine y_tn hP fun _ _ => ?_
      rw [← opsV_app _ _ _ _ (by rw [htl, hbl]), ← htk]
      have ag := again (i + 1, bs ++ [⟨D, cD⟩], (A5, c5), ptrV g5) (by dsimp only; omega) ⟨by dsimp only; omega, by simp [hbl]⟩
      dsimp only at ag
      exact ag.toP (ks := [8, 7, 6]) rfl (by repeat constructor) sub_
  · have hil : i = rs.length := by omega
    subst hil
    rw [List.take_length]
    clear again
    refine walk ?_
    exact y_ret [2] rfl ⟨((A, c), bs), hbl, rfl, rfl⟩
end Go.Proofs.YtcdalfhkhifplaaGreatDoor
namespace Go.Proofs.YtcdalfhkhifplaaGreatDoor
open Go
set_option maxRecDepth 100000
set_option maxHeartbeats 1000000
attribute [local irreducible] E EO
inductive StepC (wg : Nat) (G : HP) : OpR → HP → HP → Prop
  | create {r : OpR} {S S' : HP} : r.op = 0 → r.md < 65536 → (∀ gf, Fd Tryz.prog 26 #[ptrV wg, .string (str r.nm), ptrV gf] [S, Cells gf 119 (fileC (r.z : Int) r.md r.ui r.gi (.map none)), G] .nilIface [S', G]) → StepC wg G r S S'
  | write {r : OpR} {S S' : HP} : r.op = 1 → (∀ X c, (X = none → r.dat.length = 0) → Fd Tryz.prog 28 #[ptrV wg, .slice X r.dat.length c] [S, Own X c 5 1 r.dat.length (enc r.dat)] (.tuple #[.int .i64 r.dat.length, .nilIface]) [S']) → StepC wg G r S S'
  | parents {r : OpR} {S S' : HP} : r.op = 4 → Fd Tryz.prog 32 #[ptrV wg, .string (str r.nm)] [S] .nilIface [S'] → StepC wg G r S S'
def ImgE (dg : Nat) (PB : List UInt8 → Prop) : HP := .ex fun i : Nat × List UInt8 => .fact (PB i.2 ∧ i.2 ≠ []) (DiskP dg i.1 i.2)
abbrev toldV (n : Nat) : List Value := [.int .i64 0, .int .i64 (n : Int), .string ⟨#[]⟩, .int .i64 0, .int .u16 0, .int .u32 0, .int .u32 0, .bool false, .int .i64 0, .int .i64 0, .bool false, .int .i64 0, .int .i64 0, .bool false, .int .i64 0, .int .i64 0, .bool false, .int .i64 0, .int .i64 0, .int .u32 0, .int .u32 0, .slice none 0 0]
def toldsV : List Nat → List Value
  | [] => []
  | n :: r => toldV n ++ toldsV r
theorem toldsV_app : ∀ (a : List Nat) (n : Nat), toldsV (a ++ [n]) = toldsV a ++ toldV n
  | [], n => by simp [toldsV]
  | m :: a, n => by simp only [List.cons_append, toldsV, toldsV_app a n, List.append_assoc]
theorem opsP_take : ∀ (rs : List OpR) (al : List OpA) (i : Nat) (r : OpR) (a : OpA), rs[i]? = some r → al[i]? = some a → ∃ F, Take (Own a.D a.c 5 1 r.dat.length (enc r.dat)) (opsP rs al) F
  | q :: rs, b :: al, 0, r, a, h1, h2 => by
    simp at h1 h2; subst h1 h2; exact ⟨_, .here⟩
  | q :: rs, b :: al, i + 1, r, a, h1, h2 => by
    obtain ⟨F, hF⟩ := opsP_take rs al i r a (by simpa using h1) (by simpa using h2)
    exact ⟨_, hF.there⟩
theorem opsP_out (rs : List OpR) (al : List OpA) (i : Nat) (r : OpR) (a : OpA) (h1 : rs[i]? = some r) (h2 : al[i]? = some a) : ∃ F, Tn [HP.star (opsP rs al)] (fun _ : Unit => True) (fun _ => [Own a.D a.c 5 1 r.dat.length (enc r.dat), HP.star F]) ∧ Tn [Own a.D a.c 5 1 r.dat.length (enc r.dat), HP.star F] (fun _ : Unit => True) (fun _ => [HP.star (opsP rs al)]) := by
  obtain ⟨F, hF⟩ := opsP_take rs al i r a h1 h2
  refine ⟨F, fun m S hS => ?_, fun m S hS => ?_⟩
  · have h0 : sats (opsP rs al) m S := sats_one' hS
    obtain ⟨S1, S2, a1, a2, a3, a4⟩ := sats_perm hF.perm h0
    exact ⟨(), S, trivial, ⟨S1, S2, a1, sats_one a2, a3, a4⟩, fun _ h => h⟩
  · obtain ⟨S1, S2, a1, a2, a3, a4⟩ := hS
    have h0 : sats (Own a.D a.c 5 1 r.dat.length (enc r.dat) :: F) m S := ⟨S1, S2, a1, sats_one' a2, a3, a4⟩
    exact ⟨(), S, trivial, sats_one (sats_perm hF.perm.symm h0), fun _ h => h⟩
theorem Image_fn (il : Bool) (rs : List OpR) (al : List OpA) (go co : Nat) (G : HP) (PB : List UInt8 → Prop) (Sf : Nat → Nat → Nat → HP) (hal : al.length = rs.length) (hn : rs.length ≤ 1000) (hz : ∀ r ∈ rs, r.z ≤ 1000000000 ∧ r.dat.length ≤ 1000000000)
    (h0 : ∀ wg dg, Tn [Cells wg 112 (rawW dg il ((17179869184 : Nat) : Int)), DiskP dg 0 []] (fun _ : Unit => True) (fun _ => [Sf wg dg 0]))
    (hs : ∀ wg dg i r, rs[i]? = some r → StepC wg G r (Sf wg dg i) (Sf wg dg (i + 1)))
    (hc : ∀ wg dg, Fd Tryz.prog 34 #[ptrV wg] [Sf wg dg rs.length] .nilIface [ImgE dg PB]) :
    Fe Tryz.prog 14 #[.bool il, .int .i64 0, .slice (some ⟨go, 0, none⟩) rs.length co] [Own (some ⟨go, 0, none⟩) co 35 24 rs.length (opsV rs al), HP.star (opsP rs al), G] (fun i : (Option Addr × Nat × Nat) × (Nat × Nat) × List UInt8 => PB i.2.2 ∧ i.2.2 ≠ [])
      (fun i => .tuple #[.slice i.1.1 i.1.2.1 i.1.2.2, .int .i64 0, .slice (some ⟨i.2.1.1, 0, none⟩) i.2.2.length i.2.1.2]) (fun i => [ImgQ i.2.1.1 i.2.1.2 i.2.2, G]) := by
  refine fn_of_E' (args := [_, _, _]) 21 _ [_, _, _, undef, undef, undef, undef, undef, undef, undef, undef, undef, undef, undef, undef, undef, undef, undef, undef, undef, undef] Tryz.func14 rfl Tryz.ntmps14 ?_
  refine walk ?_
  refine y_boxA rfl fun gd => ?_
  refine walk ?_
  refine y_callE rfl rfl mds_fn fun gA _ => ?_
  refine walk ?_
  refine y_build1 rfl fun gs => ?_
  refine walk ?_
  refine e_cont (ι := Nat × Nat × Nat) (fun q => [.bool il, .int .i64 0, .slice (some ⟨go, 0, none⟩) rs.length co, undef, undef, undef, .slice none 0 0, .int .i64 0, .slice none 0 0, ptrV gd, .slice (some ⟨q.1, 0, none⟩) q.2.1 q.2.2, undef, undef, undef, undef, undef, undef, undef, undef, undef, undef]) (fun _ => []) (fun q => [Own (some ⟨q.1, 0, none⟩) q.2.2 81 1 q.2.1 (.func (.func 42) #[] #[ptrV gA] :: if il = true then [.func (.func 24) #[] #[]] else []), Cells gA 2 [.int .i64 0], Cells gd 79 [.slice none 0 0, .int .i64 0], Own (some ⟨go, 0, none⟩) co 35 24 rs.length (opsV rs al), HP.star (opsP rs al), G]) (fun q => q.2.1 = if il = true then 2 else 1) (fun rest => ?_) ?_
  · cases il with
    | false =>
      refine e_false rfl ?_
      refine e_skip ?_
      exact (rest (gs, 1, 1) rfl).toP rfl (by repeat constructor) (by exact .cons .here (.cons .here (.cons .here (.cons .here (.cons .here (.cons .here .nil))))))
    | true =>
      refine e_true rfl ?_
      refine e_region ?_
      refine walkO ?_
      refine y_build1 rfl fun gs2 => ?_
      refine y_app1 rfl rfl fun A' c' => ?_
      refine EO.know (A := Own A' c' 81 1 (1 + 1) ([.func (.func 42) #[] #[ptrV gA]] ++ [.func (.func 24) #[] #[]])) take_ (fun _ _ => Own.know) fun hk => ?_
      obtain ⟨k1, k2, k3, k4⟩ := hk
      cases A' with
      | none => have := k3 rfl; omega
      | some ad =>
      obtain ⟨ga, rfl⟩ := k4 ad rfl
      refine walkO ?_
      refine x_end ?_
      exact (rest (ga, 2, c') rfl).toP rfl (by repeat constructor) (by exact .cons .here (.cons (.there .here) sub_))
  · rintro ⟨gs2, n2, c2⟩ hn2
    dsimp only at hn2 ⊢
    refine e_seq ?_
    refine e_cont (ι := Nat) (fun wg => [.bool il, .int .i64 0, .slice (some ⟨go, 0, none⟩) rs.length co, undef, undef, undef, .slice none 0 0, .int .i64 0, .slice none 0 0, ptrV gd, .slice (some ⟨gs2, 0, none⟩) n2 c2, ptrV wg, undef, undef, undef, undef, undef, undef, undef, undef, undef]) (fun _ => []) (fun wg => [Cells wg 112 (rawW gd il ((17179869184 : Nat) : Int)), Cells gd 79 [.slice none 0 0, .int .i64 0], Own (some ⟨go, 0, none⟩) co 35 24 rs.length (opsV rs al), HP.star (opsP rs al), G]) (fun _ => True) (fun rest => ?_) ?_
    · cases il with
      | false =>
        rw [if_neg (by decide)] at hn2 ⊢
        subst hn2
        refine e_region ?_
        refine walkO ?_
        refine y_callE rfl rfl (newW0_fn gd gs2 gA c2) fun wg _ => ?_
        refine walkO ?_
        refine x_end ?_
        exact (rest wg trivial).toP rfl (by repeat constructor) sub_
      | true =>
        rw [if_pos rfl] at hn2 ⊢
        subst hn2
        refine e_region ?_
        refine walkO ?_
        refine y_callE rfl rfl (newW1_fn gd gs2 gA c2) fun wg _ => ?_
        refine walkO ?_
        refine x_end ?_
        exact (rest wg trivial).toP rfl (by repeat constructor) sub_
    · rintro wg _
      have hT : Tn [Cells gd 79 [.slice none 0 0, .int .i64 0], Own none 0 5 1 0 []] (fun _ : Unit => True) (fun _ => [DiskP gd 0 []]) := DiskP.close (g := gd) (p := 0) (B := []) none 0 (by simp)
      refine E.nilOwn (e := 5) (sz := 1) ?_
      refine y_tn hT fun _ _ => ?_
      refine y_tn (h0 wg gd) fun _ _ => ?_
      refine walk ?_
      refine E.nilOwn (e := 87) (sz := 22) ?_
      refine e_roundsT (ι := Nat × (Option Addr × Nat × List Nat) × (Value × Value × Value × Value × Value × Value)) (fun z => rs.length - z.1)
        (fun z => [.bool il, .int .i64 0, .slice (some ⟨go, 0, none⟩) rs.length co, undef, undef, undef, .slice none 0 0, .int .i64 0, .slice none 0 0, ptrV gd, .slice (some ⟨gs2, 0, none⟩) n2 c2, ptrV wg, .slice z.2.1.1 z.1 z.2.1.2.1, undef, z.2.2.1, z.2.2.2.1, z.2.2.2.2.1, z.2.2.2.2.2.1, z.2.2.2.2.2.2.1, undef, undef])
        (fun z => [(35, .int .i64 (z.1 : Nat)), (34, .int .i64 (rs.length : Nat)), (33, .slice (some ⟨go, 0, none⟩) rs.length co)])
        (fun z => [Own z.2.1.1 z.2.1.2.1 87 22 z.1 (toldsV z.2.1.2.2), Sf wg gd z.1, Own (some ⟨go, 0, none⟩) co 35 24 rs.length (opsV rs al), HP.star (opsP rs al), G])
        (fun z => z.1 ≤ rs.length ∧ z.2.1.2.2.length = z.1) (0, (none, 0, []), (undef, undef, undef, undef, undef, undef)) ⟨Nat.zero_le _, rfl⟩ rfl (by repeat constructor) (by exact .cons .here (.cons .here (.cons .here (.cons .here (.cons .here .nil))))) ?_
      rintro ⟨i, ⟨A, c, ns⟩, ⟨w14, w15, w16, w17, w18, w19⟩⟩ ⟨hi, hnl⟩ again
      dsimp only at hi hnl again ⊢
      by_cases hlt : i < rs.length
      · obtain ⟨r, hr⟩ : ∃ r, rs[i]? = some r := ⟨_, List.getElem?_eq_getElem hlt⟩
        obtain ⟨a, ha⟩ : ∃ a, al[i]? = some a := ⟨_, List.getElem?_eq_getElem (by omega)⟩
        obtain ⟨hz1, hz2⟩ := hz r (List.mem_of_getElem? hr)
        have hst := hs wg gd i r hr
        refine walk ?_
        refine y_loadS (vs := opsV rs al) (us := opV r a) (i * 24) (opsV_get _ _ i r a hr ha) ?_
        refine walk ?_
        refine y_alloc fun g14 => ?_
        refine walk ?_
        refine y_alloc fun g15 => ?_
        refine walk ?_
        refine e_cont (ι := Nat × Value) (fun q => [.bool il, .int .i64 0, .slice (some ⟨go, 0, none⟩) rs.length co, undef, undef, undef, .slice none 0 0, .int .i64 0, .slice none 0 0, ptrV gd, .slice (some ⟨gs2, 0, none⟩) n2 c2, ptrV wg, .slice A i c, undef, ptrV g14, ptrV g15, .nilIface, q.2, w18, undef, undef])
          (fun _ => [(35, .int .i64 (i : Nat)), (34, .int .i64 (rs.length : Nat)), (33, .slice (some ⟨go, 0, none⟩) rs.length co)])
          (fun q => [Cells g15 87 (toldV q.1), Own A c 87 22 i (toldsV ns), Sf wg gd (i + 1), Own (some ⟨go, 0, none⟩) co 35 24 rs.length (opsV rs al), HP.star (opsP rs al), G]) (fun _ => True) (fun rest => ?_) ?_
        · cases hst with
          | create hop hmd hC =>
            have r0 := fun v => rest (0, v) trivial
            clear rest
            refine e_cond rfl (fun ht => ?_) (fun hf => ?_)
            · refine walk ?_
              refine y_callN rfl rfl (toFile_fn (r.z : Int) r.md r.ui r.gi) fun gf _ => ?_
              refine y_callD rfl rfl (hC gf) ?_
              refine walkO ?_
              refine x_end ?_
              exact (r0 _).toP (ks := [35, 34, 33]) rfl (by repeat constructor) (by exact .cons (.there (.there .here)) sub_)
            · rw [hop] at hf; exact absurd hf (by decide)
          | write hop hW =>
            have r0 := rest (r.dat.length, w17) trivial
            clear rest
            rw [show ((r.op : Int) == 0) = false from by rw [hop]; rfl]
            refine e_false rfl ?_
            obtain ⟨F, hT1, hT2⟩ := opsP_out rs al i r a hr ha
            refine y_tn hT1 fun _ _ => ?_
            refine E.know (A := Own a.D a.c 5 1 r.dat.length (enc r.dat)) take_ (fun _ _ => Own.know) fun hk => ?_
            obtain ⟨k1, k2, k3, k4⟩ := hk
            have hDn : a.D = none → r.dat.length = 0 := fun h => by have := k3 h; omega
            refine E.nilOwn (e := 5) (sz := 1) ?_
            refine walk ?_
            refine y_appR (e := 5) (b := 1) (z := .int .u8 0) (vs := []) (A := none) (n := 0) (c := 0) (B := a.D) (m := r.dat.length) (c' := a.c) (news := enc r.dat) rfl rfl ?_ hDn (fun u hu => List.all_eq_true.1 (enc_all r.dat) u hu) fun A2 c2 => ?_
            · have hrd := Rd.takeN (L := [Own a.D a.c 5 1 r.dat.length (enc r.dat), HP.star F, Cells g15 87 (toldV 0), Cells g14 35 (opV r a), Own A c 87 22 i (toldsV ns), Sf wg gd i, Own (some ⟨go, 0, none⟩) co 35 24 rs.length (opsV rs al), G]) (p := r.dat.length) .here hDn k4 (by rw [k1, Nat.mul_one]) (Nat.le_refl _)
              rw [List.take_of_length_le (by rw [k1, Nat.mul_one]; exact Nat.le_refl _)] at hrd
              exact hrd
            rw [Nat.zero_add r.dat.length, List.nil_append]
            refine EO.know (A := Own A2 c2 5 1 r.dat.length (enc r.dat)) take_ (fun _ _ => Own.know) fun hk => ?_
            obtain ⟨q1, q2, q3, q4⟩ := hk
            refine walk ?_
            refine y_callD rfl rfl (hW A2 c2 fun h => by have := q3 h; omega) ?_
            refine walkO ?_
            refine x_end ?_
            refine y_tn hT2 fun _ _ => ?_
            exact r0.toP (ks := [35, 34, 33]) rfl (by repeat constructor) sub_
          | parents hop hM =>
            have r0 := rest (0, w17) trivial
            clear rest
            rw [show ((r.op : Int) == 0) = false from by rw [hop]; rfl]
            refine e_false rfl ?_
            refine walk ?_
            refine y_callD rfl rfl hM ?_
            refine walkO ?_
            refine x_end ?_
            exact r0.toP (ks := [35, 34, 33]) rfl (by repeat constructor) (by exact .cons (.there .here) sub_)
        · rintro ⟨N, v17⟩ _
          dsimp only
          refine walk ?_
          refine y_callq rfl rfl spoilt0_fn ?_
          refine walk ?_
          refine y_build (vs := [.agg (toldV N).toArray]) (cs := toldV N) rfl (fill_one (n := 22) [.int .i64 0, .int .i64 0, .string ⟨#[]⟩, .int .i64 0, .int .u16 0, .int .u32 0, .int .u32 0, .bool false, .int .i64 0, .int .i64 0, .bool false, .int .i64 0, .int .i64 0, .bool false, .int .i64 0, .int .i64 0, .bool false, .int .i64 0, .int .i64 0, .int .u32 0, .int .u32 0, .slice none 0 0] _ rfl rfl (by omega)) rfl fun gs => ?_
          refine walk ?_
          refine x_app (vs := toldsV ns) (news := toldV N) rfl rfl take_ (by exact ⟨rfl, .inr ⟨_, _, rfl, (by first | ((repeat (first | exact CellRow.own | exact CellRow.here | apply CellRow.there)) <;> fail) | fail)⟩⟩) (fun h => by cases h) (by simp [Value.oneCell']) (by rfl) (by omega) (by simp only [maxLen]; omega) (by omega) (fun A5 c5 => ⟨_, _, pt_, ?_⟩)
          refine walk ?_
          rw [← toldsV_app]
          have ag := again (i + 1, (A5, c5, ns ++ [N]), (ptrV g14, ptrV g15, .nilIface, v17, w18, w19)) (by dsimp only; omega) ⟨by dsimp only; omega, by simp [hnl]⟩
          dsimp only at ag
          exact ag.toP (ks := [35, 34, 33]) rfl (by repeat constructor) sub_
      · have hil : i = rs.length := by omega
        subst hil
        clear again
        refine walk ?_
        refine y_callD rfl rfl (hc wg gd) ?_
        refine walk ?_
        have hI : Tn [ImgE gd PB] (fun i : Nat × List UInt8 => PB i.2 ∧ i.2 ≠ []) (fun i => [DiskP gd i.1 i.2]) := fun m S h => by
          obtain ⟨i, h1, h2⟩ := sats_one' h
          exact ⟨i, S, h1, sats_one h2, fun _ h => h⟩
        refine y_tno hI fun j hj => ?_
        obtain ⟨p, B⟩ := j
        dsimp only at hj ⊢
        refine y_tno DiskP.open fun j hB => ?_
        obtain ⟨AB, cB⟩ := j
        dsimp only at hB ⊢
        refine EO.know (A := Own AB cB 5 1 B.length (enc B)) take_ (fun _ _ => Own.know) fun hk => ?_
        obtain ⟨k1, k2, k3, k4⟩ := hk
        have hBl : B.length ≠ 0 := fun h => hj.2 (List.length_eq_zero_iff.1 h)
        cases AB with
        | none => have := k3 rfl; omega
        | some ad =>
        obtain ⟨gI, rfl⟩ := k4 ad rfl
        refine walk ?_
        have hQ : Tn [Own (some ⟨gI, 0, none⟩) cB 5 1 B.length (enc B)] (fun _ : Unit => True) (fun _ => [ImgQ gI cB B]) := fun m S h => ⟨(), S, trivial, h, fun _ h => h⟩
        refine y_tn hQ fun _ _ => ?_
        exact y_ret [6, 7, 8] rfl ⟨((A, rs.length, c), (gI, cB), B), hj, rfl, rfl⟩
end Go.Proofs.YtcdalfhkhifplaaGreatDoor
namespace Go.Proofs.YtcdalfhkhifplaaGreatDoor
open Go
theorem str_inj {a b : List UInt8} (h : str a = str b) : a = b := by
  have := congrArg ByteArray.toList h
  simpa [str_toList] using this
def drC (md ui gi : Nat) : Nat → List (List UInt8 × Nat) → List Nd
  | _, [] => []
  | num, [(_, g)] => [⟨g, num, md, ui, gi, 2, 0, 262144, 0, [], [], some []⟩]
  | num, (_, g) :: (c', g') :: r => ⟨g, num, md, ui, gi, 3, 0, 262144, 0, [], [], some [(c', g')]⟩ :: drC md ui gi (num + 1) ((c', g') :: r)
theorem drC_len (md ui gi : Nat) : ∀ (ds : List (List UInt8 × Nat)) (num : Nat), (drC md ui gi num ds).length = ds.length
  | [], _ => rfl
  | [(_, g)], _ => rfl
  | (_, g) :: (c', g') :: r, num => by
    have := drC_len md ui gi ((c', g') :: r) (num + 1)
    simp only [drC, List.length_cons] at this ⊢
    omega
def chN (md ui gi : Nat) : Nat → List (List UInt8 × Nat) → List Nd
  | _, [] => []
  | _, [_] => []
  | num, (_, g) :: (c', g') :: r => ⟨g, num, md, ui, gi, if r = [] then 2 else 3, 0, 262144, 0, [], [], some [(c', g')]⟩ :: chN md ui gi (num + 1) ((c', g') :: r)
theorem chN_len (md ui gi : Nat) : ∀ (ds : List (List UInt8 × Nat)) (num : Nat), (chN md ui gi num ds).length = ds.length - 1
  | [], _ => rfl
  | [_], _ => rfl
  | (_, g) :: (c', g') :: r, num => by
    have := chN_len md ui gi ((c', g') :: r) (num + 1)
    simp only [chN, List.length_cons] at this ⊢
    omega
theorem drC_last (md ui gi : Nat) (f : List UInt8 × Nat) : ∀ (ds : List (List UInt8 × Nat)) (num : Nat) (x : List UInt8 × Nat), ∃ z : Nd, (drC md ui gi num (x :: ds))[ds.length]? = some z ∧ z.kids = some [] ∧ z.mode = md ∧ z.links = 2 ∧ (drC md ui gi num (x :: ds)).set ds.length { z with kids := some ([] ++ [f]) } = chN md ui gi num (x :: ds ++ [f])
  | [], num, (c, g) => ⟨_, rfl, rfl, rfl, rfl, by obtain ⟨fc, fg⟩ := f; rfl⟩
  | (c', g') :: r, num, (c, g) => by
    obtain ⟨z, h1, h2, h3, h4, h5⟩ := drC_last md ui gi f r (num + 1) (c', g')
    refine ⟨z, by simpa [drC] using h1, h2, h3, h4, ?_⟩
    simp only [drC, List.length_cons, List.set_cons_succ, List.cons_append, chN]
    rw [h5]
    simp
theorem mp_shape (md ui gi : Nat) : ∀ (r : List (List UInt8 × Nat)) (l : List Nd) (k num : Nat) (z : Nd) (ks : List (List UInt8 × Nat)) (c : List UInt8) (g : Nat), l[k]? = some z → z.kids = some ks →
    mpL md ui gi l k num ((c, g) :: r) = l.set k { z with links := z.links + 1, kids := some (ks ++ [(c, g)]) } ++ drC md ui gi num ((c, g) :: r)
  | [], l, k, num, z, ks, c, g, hz, hk => by
    simp only [mpL, hz, hk, Option.getD_some, drC]
  | (c', g') :: r, l, k, num, z, ks, c, g, hz, hk => by
    have h1 := mp_shape md ui gi r (addD l k z ks c g num md ui gi) l.length (num + 1) ⟨g, num, md, ui, gi, 2, 0, 262144, 0, [], [], some []⟩ [] c' g' (addD_new c g num md ui gi) rfl
    rw [mpL]
    simp only [hz, hk, Option.getD_some]
    rw [h1]
    have h2 : (addD l k z ks c g num md ui gi).set l.length ⟨g, num, md, ui, gi, 2 + 1, 0, 262144, 0, [], [], some ([] ++ [(c', g')])⟩ = l.set k { z with links := z.links + 1, kids := some (ks ++ [(c, g)]) } ++ [⟨g, num, md, ui, gi, 3, 0, 262144, 0, [], [], some [(c', g')]⟩] := by
      unfold addD
      rw [List.set_append_right _ _ (by simp)]
      simp
    rw [h2, List.append_assoc]
    rfl
theorem way_drC (md ui gi : Nat) : ∀ (r : List (List UInt8 × Nat)) (A : List Nd) (num : Nat) (c : List UInt8) (g : Nat), Way (A ++ drC md ui gi num ((c, g) :: r)) A.length (r.map (·.1)) (A.length + r.length)
  | [], A, num, c, g => .here
  | (c', g') :: r, A, num, c, g => by
    have ih := way_drC md ui gi r (A ++ [⟨g, num, md, ui, gi, 3, 0, 262144, 0, [], [], some [(c', g')]⟩]) (num + 1) c' g'
    have hl : A ++ drC md ui gi num ((c, g) :: (c', g') :: r) = A ++ [⟨g, num, md, ui, gi, 3, 0, 262144, 0, [], [], some [(c', g')]⟩] ++ drC md ui gi (num + 1) ((c', g') :: r) := by
      rw [List.append_assoc]; rfl
    rw [← hl] at ih
    rw [List.length_append, List.length_singleton] at ih
    have hy : ∃ y : Nd, (A ++ drC md ui gi num ((c, g) :: (c', g') :: r))[A.length + 1]? = some y ∧ y.g = g' := by
      rw [hl, List.getElem?_append_right (by simp)]
      simp only [List.length_append, List.length_singleton, Nat.sub_self]
      cases r with
      | nil => exact ⟨_, rfl, rfl⟩
      | cons q r => obtain ⟨qc, qg⟩ := q; exact ⟨_, rfl, rfl⟩
    obtain ⟨y, hy1, hy2⟩ := hy
    rw [show A.length + ((c', g') :: r).length = A.length + 1 + r.length by simp; omega]
    refine Way.step (x := ⟨g, num, md, ui, gi, 3, 0, 262144, 0, [], [], some [(c', g')]⟩) (y := y) (ks := [(c', g')]) ?_ rfl ?_ hy1 ih
    · rw [hl, List.append_assoc, List.getElem?_append_right (by omega)]; simp
    · simp [look, kidE, hy2]
def joinP : List (List UInt8) → List UInt8
  | [] => []
  | c :: cs => c ++ preS cs
theorem joinP_eq (ds : List (List UInt8)) (e : List UInt8) : joinP (ds ++ [e]) = slashed ds ++ e := by
  cases ds with
  | nil => simp [joinP, preS, slashed]
  | cons c cs => exact slash_pre cs c e
end Go.Proofs.YtcdalfhkhifplaaGreatDoor
namespace Go.Proofs.YtcdalfhkhifplaaGreatDoor
open Go
set_option maxRecDepth 100000
set_option maxHeartbeats 4000000
attribute [local irreducible] E EO
theorem joinP_snoc : ∀ (l : List (List UInt8)) (c : List UInt8), l ≠ [] → joinP (l ++ [c]) = joinP l ++ [47] ++ c
  | [], _, h => absurd rfl h
  | a :: l, c, _ => by
    show a ++ preS (l ++ [c]) = a ++ preS l ++ [47] ++ c
    rw [preS_app]; simp [preS, List.append_assoc]
theorem preS_le : ∀ (cs : List (List UInt8)), (∀ c ∈ cs, c.length ≤ 255) → (preS cs).length ≤ 256 * cs.length
  | [], _ => by simp [preS]
  | c :: cs, h => by
    have h1 := h c (by simp)
    have h2 := preS_le cs (fun d hd => h d (by simp [hd]))
    simp only [preS, List.length_cons, List.length_append] at h2 ⊢
    omega
theorem joinP_le (cs : List (List UInt8)) (h : ∀ c ∈ cs, c.length ≤ 255) : (joinP cs).length ≤ 256 * cs.length := by
  cases cs with
  | nil => simp [joinP]
  | cons c cs =>
    have h1 := h c (by simp)
    have h2 := preS_le cs (fun d hd => h d (by simp [hd]))
    show (c ++ preS cs).length ≤ _
    rw [List.length_append, List.length_cons]; omega
theorem joined_fn (B : Option Addr) (c : Nat) (l : List (List UInt8)) (M : HP) (hr : Rd [M] B l.length 1 (nmS l)) (hn : l.length ≤ 1000) (hs : ∀ s ∈ l, s.length ≤ 255) :
    Qn Tryz.prog 7 #[.slice B l.length c] [M] (.string (str (joinP l))) := by
  refine fn_of_E' (args := [_]) 6 _ [_, undef, undef, undef, undef, undef] Tryz.func7 rfl Tryz.ntmps7 ?_
  refine walk ?_
  refine e_roundsT (ι := Nat × Value × Value) (fun q => l.length - q.1) (fun q => [.slice B l.length c, undef, .string (str []), .string (str (joinP (l.take q.1))), q.2.1, q.2.2])
    (fun q => [(8, .int .i64 (q.1 : Nat)), (7, .int .i64 (l.length : Nat)), (6, .slice B l.length c)]) (fun _ => [M]) (fun q => q.1 ≤ l.length) (0, undef, undef) (Nat.zero_le _) rfl (by repeat constructor) sub_ ?_
  rintro ⟨i, v4, v5⟩ hi again
  dsimp only at hi again ⊢
  by_cases hlt : i < l.length
  · obtain ⟨s, hsi⟩ : ∃ s, l[i]? = some s := ⟨_, List.getElem?_eq_getElem hlt⟩
    obtain ⟨g, o, hB, hrow⟩ := hr.at_ (by omega)
    subst hB
    have ag := again (i + 1, .int .i64 (i : Nat), .string (str s)) (by dsimp only; omega) (by dsimp only; omega)
    dsimp only at ag
    have hsl := hs s (List.mem_of_getElem? hsi)
    have hjl := joinP_le (l.take i) (fun z hz => hs z (List.mem_of_mem_take hz))
    rw [List.length_take, Nat.min_eq_left (by omega)] at hjl
    have htk : l.take (i + 1) = l.take i ++ [s] := by rw [List.take_add_one, hsi]; rfl
    by_cases h0 : i = 0
    · subst h0
      refine walk ?_
      refine y_loadR (a := 0) hrow (nmS_get hsi) ?_
      refine walk ?_
      rw [htk, show joinP (l.take 0 ++ [s]) = joinP (l.take 0) ++ s from by simp [joinP, preS]] at ag
      refine x_catT rfl rfl (by omega) pt_ ?_
      refine walk ?_
      exact ag.toP (ks := [8, 7, 6]) (by rfl) (by repeat constructor) sub_
    · refine walk ?_
      refine y_loadR (a := i) hrow (nmS_get hsi) ?_
      refine walk ?_
      rw [htk, joinP_snoc _ _ (by intro h; have := congrArg List.length h; rw [List.length_take, List.length_nil] at this; omega)] at ag
      exact ag.toP (ks := [8, 7, 6]) (by rfl) (by repeat constructor) sub_
  · have hil : i = l.length := by omega
    subst hil
    rw [List.take_length]
    refine walk ?_
    exact y_ret [2] rfl rfl
def plain1 (s : List UInt8) : Bool := !(s == [] || decide (255 < s.length) || s == [46] || s == [46, 46]) && s.all fun b => !(b == 47 || b == 0)
def crowd1 (s : List UInt8) : Bool := plain1 s && !(s == lfN)
theorem crowd1_fn (g : Nat) (s : List UInt8) (hs : s.length ≤ 9223372036854775807) :
    Qn Tryz.prog 13 #[.slice (some ⟨g, 0, none⟩) 1 1] [Own (some ⟨g, 0, none⟩) 1 9 1 1 [.string (str s)]] (.bool (crowd1 s)) := by
  have hN : ∀ c, Qn Tryz.prog 22 #[.slice (some ⟨g, 0, none⟩) 0 c, .string (str s)] [] (.bool false) := fun c => hasName0_fn _ c _
  refine fn_of_E' (args := [_]) 6 _ [_, undef, undef, undef, undef, undef] Tryz.func13 rfl Tryz.ntmps13 ?_
  refine walk ?_
  refine y_loop ?_
  refine walk ?_
  refine y_loadO 0 (vs := [.string (str s)]) rfl ?_
  refine walk ?_
  cases h1 : (s == []) with
  | true =>
    rw [show crowd1 s = false from by simp [crowd1, plain1, h1]]
    refine walk ?_
    exact y_ret [2] rfl rfl
  | false =>
  by_cases h2 : 255 < s.length
  · rw [show crowd1 s = false from by simp [crowd1, plain1, h1, h2]]
    refine walk ?_
    exact y_ret [2] rfl rfl
  have h2' : s.length ≤ 255 := by omega
  refine walk ?_
  cases h3 : (s == [46]) with
  | true =>
    rw [show crowd1 s = false from by simp [crowd1, plain1, h1, h3]]
    refine walk ?_
    exact y_ret [2] rfl rfl
  | false =>
  refine walk ?_
  cases h4 : (s == [46, 46]) with
  | true =>
    rw [show crowd1 s = false from by simp [crowd1, plain1, h1, h4]]
    refine walk ?_
    exact y_ret [2] rfl rfl
  | false =>
  refine walk ?_
  cases h5 : (s == lfN) with
  | true =>
    rw [show crowd1 s = false from by simp [crowd1, h5]]
    refine walk ?_
    exact y_ret [2] rfl rfl
  | false =>
  have hC : crowd1 s = s.all fun b => !(b == 47 || b == 0) := by
    have h2d : decide (255 < s.length) = false := decide_eq_false h2
    unfold crowd1 plain1
    rw [h1, h2d, h3, h4, h5]
    simp
  rw [hC]
  refine walk ?_
  refine y_callq rfl rfl (hN _) ?_
  refine walk ?_
  refine e_roundsT (ι := Nat) (fun k => s.length - k) (fun k => [.slice (some ⟨g, 0, none⟩) 1 1, undef, .bool false, .int .i64 0, .string (str s), .int .i64 (k : Nat)])
    (fun _ => [(11, .int .i64 0), (10, .int .i64 1), (9, .slice (some ⟨g, 0, none⟩) 1 1)]) (fun _ => [Own (some ⟨g, 0, none⟩) 1 9 1 1 [.string (str s)]]) (fun k => k ≤ s.length ∧ (s.take k).all (fun b => !(b == 47 || b == 0)) = true) 0 ⟨Nat.zero_le _, rfl⟩ rfl (by repeat constructor) sub_ ?_
  intro k ⟨hk, ha⟩ again
  by_cases hlt : k < s.length
  · obtain ⟨b, hb⟩ : ∃ b, s[k]? = some b := ⟨_, List.getElem?_eq_getElem hlt⟩
    have ag := again (k + 1) (by omega)
    have bad : (!(b == 47 || b == 0)) = false → s.all (fun b => !(b == 47 || b == 0)) = false := by
      intro h
      rw [Bool.eq_false_iff]
      intro h2
      have := List.all_eq_true.1 h2 b (List.mem_of_getElem? hb)
      rw [h] at this; exact Bool.noConfusion this
    refine walk ?_
    by_cases hs1 : b = 47
    · have e1 : ((b.toNat : Int) == 47) = true := by rw [hs1]; rfl
      rw [e1, bad (by rw [hs1]; rfl)]
      refine walk ?_
      exact y_ret [2] rfl rfl
    · have e1 : ((b.toNat : Int) == 47) = false := by
        rw [beq_eq_false_iff_ne]; intro h; exact hs1 (UInt8.toNat_inj.1 (by show b.toNat = 47; omega))
      rw [e1]
      refine walk ?_
      by_cases hs2 : b = 0
      · have e2 : ((b.toNat : Int) == 0) = true := by rw [hs2]; rfl
        rw [e2, bad (by rw [hs2]; rfl)]
        refine walk ?_
        exact y_ret [2] rfl rfl
      · have e2 : ((b.toNat : Int) == 0) = false := by
          rw [beq_eq_false_iff_ne]; intro h; exact hs2 (UInt8.toNat_inj.1 (by show b.toNat = 0; omega))
        rw [e2]
        refine walk ?_
        exact (ag ⟨by omega, by rw [List.take_add_one, hb, List.all_append, ha]; simp [hs1, hs2]⟩).toP (ks := [11, 10, 9]) rfl (by repeat constructor) sub_
  · have hkl : k = s.length := by omega
    subst hkl
    rw [List.take_length] at ha
    rw [ha]
    refine walk ?_
    refine y_again ?_
    refine walk ?_
    exact y_ret [2] rfl rfl
def plain2 (l : List (List UInt8)) (i : Nat) : Bool := match l[i]? with
  | some s => crowd1 s || (decide (0 < i) && s == lfN)
  | none => true
def plainN (l : List (List UInt8)) : Bool := decide (l.length ≤ 100) && (List.range l.length).all (plain2 l)
theorem plainNames_fn (B : Option Addr) (c : Nat) (l : List (List UInt8)) (M : HP) (hr : Rd [M] B l.length 1 (nmS l)) (hn : l.length ≤ 9223372036854775807) (hs : ∀ s ∈ l, s.length ≤ 9223372036854775807) :
    Fd Tryz.prog 6 #[.slice B l.length c] [M] (.bool (plainN l)) [M] := by
  refine fn_of_E' (args := [_]) 5 _ [_, undef, undef, undef, undef] Tryz.func6 rfl Tryz.ntmps6 ?_
  by_cases hlen : 100 < l.length
  · have e : plainN l = false := by unfold plainN; rw [decide_eq_false (by omega)]; rfl
    rw [e]
    refine walk ?_
    exact y_ret [2] rfl ⟨rfl, rfl⟩
  · have e : plainN l = (List.range l.length).all (plain2 l) := by unfold plainN; rw [decide_eq_true (by omega), Bool.true_and]
    rw [e]
    refine walk ?_
    refine e_roundsT (ι := Nat × Value × Value) (fun q => l.length - q.1) (fun q => [.slice B l.length c, undef, .bool false, q.2.1, q.2.2])
      (fun q => [(10, .int .i64 (q.1 : Nat)), (9, .int .i64 (l.length : Nat)), (8, .slice B l.length c)]) (fun _ => [M]) (fun q => q.1 ≤ l.length ∧ (List.range q.1).all (plain2 l) = true) (0, undef, undef) ⟨Nat.zero_le _, rfl⟩ rfl (by repeat constructor) sub_ ?_
    rintro ⟨i, v3, v4⟩ ⟨hi, ha⟩ again
    dsimp only at hi ha again ⊢
    by_cases hlt : i < l.length
    · obtain ⟨s, hsi⟩ : ∃ s, l[i]? = some s := ⟨_, List.getElem?_eq_getElem hlt⟩
      obtain ⟨g, o, hB, hrow⟩ := hr.at_ (by omega)
      subst hB
      have hsl := hs s (List.mem_of_getElem? hsi)
      have hp2 : plain2 l i = (crowd1 s || (decide (0 < i) && s == lfN)) := by unfold plain2; rw [hsi]
      have ag := again (i + 1, .int .i64 (i : Nat), .string (str s)) (by dsimp only; omega)
      dsimp only at ag
      have bad : plain2 l i = false → (List.range l.length).all (plain2 l) = false := by
        intro h
        rw [Bool.eq_false_iff]
        intro h2
        have := List.all_eq_true.1 h2 i (List.mem_range.2 hlt)
        rw [h] at this; exact Bool.noConfusion this
      have okk : plain2 l i = true → (List.range (i + 1)).all (plain2 l) = true := by
        intro h
        rw [List.range_succ, List.all_append, ha]; simpa using h
      refine walk ?_
      refine y_loadR (a := i) hrow (nmS_get hsi) ?_
      refine walk ?_
      refine y_build1 rfl fun gs => ?_
      refine walk ?_
      refine y_callq rfl rfl (crowd1_fn gs s hsl) ?_
      cases hc : crowd1 s with
      | true =>
        refine walk ?_
        exact (ag ⟨by omega, okk (by rw [hp2, hc]; rfl)⟩).toP (ks := [10, 9, 8]) rfl (by repeat constructor) sub_
      | false =>
        by_cases h0 : 0 < i
        · refine walk ?_
          cases hl : (s == lfN) with
          | true =>
            refine walk ?_
            exact (ag ⟨by omega, okk (by rw [hp2, hc, hl, decide_eq_true h0]; rfl)⟩).toP (ks := [10, 9, 8]) rfl (by repeat constructor) sub_
          | false =>
            rw [bad (by rw [hp2, hc, hl, decide_eq_true h0]; rfl)]
            refine walk ?_
            exact y_ret [2] rfl ⟨rfl, rfl⟩
        · rw [bad (by rw [hp2, hc, decide_eq_false h0]; rfl)]
          have hi0 : i = 0 := by omega
          subst hi0
          refine walk ?_
          exact y_ret [2] rfl ⟨rfl, rfl⟩
    · have hil : i = l.length := by omega
      subst hil
      rw [ha]
      refine walk ?_
      exact y_ret [2] rfl ⟨rfl, rfl⟩
theorem crowd1_good {s : List UInt8} (h : crowd1 s = true) : good s ∧ s.length ≤ 255 ∧ s ≠ lfN := by
  unfold crowd1 plain1 at h
  simp only [Bool.and_eq_true, Bool.not_eq_true', Bool.or_eq_false_iff, beq_eq_false_iff_ne, decide_eq_false_iff_not, List.all_eq_true] at h
  obtain ⟨⟨⟨⟨⟨h1, h2⟩, h3⟩, h4⟩, h5⟩, h6⟩ := h
  exact ⟨⟨h1, fun hm => (h5 47 hm).1 rfl, h3, h4⟩, by omega, h6⟩
theorem plainN_ok {l : List (List UInt8)} (h : plainN l = true) : l.length ≤ 100 ∧ (∀ s ∈ l, good s ∧ s.length ≤ 255) ∧ ∀ s ∈ l.head?, s ≠ lfN := by
  unfold plainN at h
  rw [Bool.and_eq_true, decide_eq_true_iff, List.all_eq_true] at h
  obtain ⟨h1, h2⟩ := h
  refine ⟨h1, fun s hs => ?_, fun s hs => ?_⟩
  · obtain ⟨i, hi⟩ := List.getElem?_of_mem hs
    have hlt := (List.getElem?_eq_some_iff.1 hi).1
    have h3 := h2 i (List.mem_range.2 hlt)
    unfold plain2 at h3
    rw [hi] at h3
    dsimp only at h3
    cases hc : crowd1 s with
    | true => exact ⟨(crowd1_good hc).1, (crowd1_good hc).2.1⟩
    | false =>
      rw [hc, Bool.false_or, Bool.and_eq_true] at h3
      have : s = lfN := by simpa using h3.2
      subst this
      exact ⟨⟨by decide, by decide, by decide, by decide⟩, by decide⟩
  · have hi : l[0]? = some s := by
      cases l with
      | nil => simp at hs
      | cons a r => simpa using hs
    have hlt := (List.getElem?_eq_some_iff.1 hi).1
    have h3 := h2 0 (List.mem_range.2 hlt)
    unfold plain2 at h3
    rw [hi] at h3
    dsimp only at h3
    have hc : crowd1 s = true := by simpa using h3
    exact (crowd1_good hc).2.2
end Go.Proofs.YtcdalfhkhifplaaGreatDoor
namespace Go.Proofs.YtcdalfhkhifplaaGreatDoor
open Go
set_option maxRecDepth 100000
set_option maxHeartbeats 1000000
attribute [local irreducible] E EO
section
variable {ι : Type} {P : Program} {f : FuncId} {args : Array Value} {L La M' N F : List HP} {v : Value} {PI : ι → Prop} {LL : ι → List HP}
theorem Subs.refl' (L : List HP) : Subs L L [] := by
  induction L with
  | nil => exact .nil
  | cons A L ih => exact .cons .here ih
theorem Fe.close (h : Fe P f args L PI (fun _ => v) LL) (hc : ∀ i, PI i → Tn (LL i) (fun _ : Unit => True) (fun _ => M')) : Fd P f args L v M' := by
  intro w S hS
  refine (h w S hS).mono ?_
  rintro u w' ⟨L', ⟨i, hi, rfl, rfl⟩, hst⟩
  obtain ⟨_, _, h2⟩ := hst.tn (hc i hi) (Subs.refl' _)
  rw [List.append_nil] at h2
  exact ⟨M', ⟨rfl, rfl⟩, h2⟩
end
abbrev dp0 (md ui gi g2 g11 : Nat) : List Nd := [⟨g2, 2, md, ui, gi, 3, 0, 262144, 0, [], [], some [(lfN, g11)]⟩, ⟨g11, 11, 16832, 0, 0, 2, 0, 262144, 0, [], [], some []⟩]
def dp3 (md ui gi g2 g11 : Nat) (its : List (List UInt8 × Nat)) : List Nd := ⟨g2, 2, md, ui, gi, if its.length ≤ 1 then 3 else 4, 0, 262144, 0, [], [], some ((lfN, g11) :: its.take 1)⟩ :: ⟨g11, 11, 16832, 0, 0, 2, 0, 262144, 0, [], [], some []⟩ :: chN md ui gi 12 its
theorem deep_shape (md ui gi g2 g11 : Nat) (r : List (List UInt8 × Nat)) (e : List UInt8) (hn : ∀ c ∈ (r.map (·.1) ++ [e]).head?, c ≠ lfN) :
    ∃ (k : Nat) (z : Nd) (ks : List (List UInt8 × Nat)), (mpL md ui gi (dp0 md ui gi g2 g11) 0 12 r)[k]? = some z ∧ z.kids = some ks ∧ z.mode = md ∧ z.links ≤ 4 ∧ look (kidE ks) (str e) = none ∧ Way (mpL md ui gi (dp0 md ui gi g2 g11) 0 12 r) 0 (r.map (·.1)) k ∧
      (∀ gF, (mpL md ui gi (dp0 md ui gi g2 g11) 0 12 r).set k { z with kids := some (ks ++ [(e, gF)]) } = dp3 md ui gi g2 g11 (r ++ [(e, gF)])) ∧ ∃ x, (mpL md ui gi (dp0 md ui gi g2 g11) 0 12 r)[0]? = some x ∧ x.g = g2 := by
  cases r with
  | nil =>
    have he : e ≠ lfN := hn e (by simp)
    refine ⟨0, _, [(lfN, g11)], rfl, rfl, rfl, by dsimp only; omega, ?_, .here, fun gF => rfl, _, rfl, rfl⟩
    have h1 : ¬ str lfN = str e := fun h => he (str_inj h).symm
    simp only [look, kidE, List.map_cons, List.map_nil, List.find?_cons, List.find?_nil, decide_eq_false h1, Option.map_none]
  | cons q r =>
    obtain ⟨c, g⟩ := q
    have hc : c ≠ lfN := hn c (by simp)
    have hs := mp_shape md ui gi r (dp0 md ui gi g2 g11) 0 12 ⟨g2, 2, md, ui, gi, 3, 0, 262144, 0, [], [], some [(lfN, g11)]⟩ [(lfN, g11)] c g rfl rfl
    rw [hs]
    obtain ⟨z, h1, h2, h3, h4, -⟩ := drC_last md ui gi (e, 0) r 12 (c, g)
    have hy : ∃ y : Nd, (drC md ui gi 12 ((c, g) :: r))[0]? = some y ∧ y.g = g := by
      cases r with
      | nil => exact ⟨_, rfl, rfl⟩
      | cons q r => obtain ⟨qc, qg⟩ := q; exact ⟨_, rfl, rfl⟩
    obtain ⟨y, hy1, hy2⟩ := hy
    have hwy := way_drC md ui gi r ((dp0 md ui gi g2 g11).set 0 ⟨g2, 2, md, ui, gi, 3 + 1, 0, 262144, 0, [], [], some ([(lfN, g11)] ++ [(c, g)])⟩) 12 c g
    refine ⟨2 + r.length, z, [], ?_, h2, h3, by omega, rfl, ?_, ?_, _, rfl, rfl⟩
    · rw [List.getElem?_append_right (by simp)]
      simpa using h1
    · refine Way.step (x := ⟨g2, 2, md, ui, gi, 3 + 1, 0, 262144, 0, [], [], some ([(lfN, g11)] ++ [(c, g)])⟩) (y := y) (ks := [(lfN, g11)] ++ [(c, g)]) rfl rfl ?_ ?_ hwy
      · have h1 : ¬ str lfN = str c := fun h => hc (str_inj h).symm
        simp [look, kidE, decide_eq_false h1, hy2]
      · rw [List.getElem?_append_right (by simp)]
        simpa using hy1
    · intro gF
      obtain ⟨z', j1, -, -, -, h5⟩ := drC_last md ui gi (e, gF) r 12 (c, g)
      have hzz : z' = z := Option.some.inj (j1.symm.trans h1)
      subst hzz
      rw [List.set_append_right _ _ (by simp)]
      rw [show 2 + r.length - ((dp0 md ui gi g2 g11).set 0 ⟨g2, 2, md, ui, gi, 3 + 1, 0, 262144, 0, [], [], some ([(lfN, g11)] ++ [(c, g)])⟩).length = r.length by simp]
      rw [h5]
      simp [dp3]
structure DI where
  g2 : Nat
  g11 : Nat
  gs : List Nat
  gF : Nat
abbrev wsA (wg dg : Nat) (il : Bool) (i : DI) : Ws := ⟨wg, dg, (ws1 wg dg il i.g2 i.g11).ids ++ i.gs.map some, str [], none, 0, 0, il, []⟩
def SA (wg dg : Nat) (il : Bool) (md ui gi : Nat) (ds : List (List UInt8)) : HP := .ex fun i : DI => .fact (i.gs.length = ds.length) (.star [WP (wsA wg dg il i), NodesP (mpL md ui gi (dp0 md ui gi i.g2 i.g11) 0 12 (ds.zip i.gs))])
abbrev wsB (wg dg : Nat) (il : Bool) (i : DI) (nm : List UInt8) (dw z : Nat) (body : List UInt8) : Ws := ⟨wg, dg, (ws1 wg dg il i.g2 i.g11).ids ++ i.gs.map some ++ [some i.gF], str nm, some i.gF, dw, z, il, body⟩
abbrev fileN (d gF : Nat) (inl : Bool) (z : Nat) (dat : List UInt8) : Nd := ⟨gF, 12 + d, 32768, 0, 0, 1, 0, if inl then 268697600 else 262144, z, if inl then dat else [], if inl then xinB (List.replicate (z - 60) 0) else [], none⟩
def SB (wg dg : Nat) (il : Bool) (md ui gi : Nat) (ds : List (List UInt8)) (e nm : List UInt8) (inl : Bool) (dw z : Nat) (dat body : List UInt8) : HP := .ex fun i : DI => .fact (i.gs.length = ds.length) (.star [WP (wsB wg dg il i nm dw z body), NodesP (dp3 md ui gi i.g2 i.g11 (ds.zip i.gs ++ [(e, i.gF)]) ++ [fileN ds.length i.gF inl z dat])])
theorem SA_in (wg dg : Nat) (il : Bool) (md ui gi g2 g11 : Nat) (gs : List Nat) (ds : List (List UInt8)) (hl : gs.length = ds.length) (s : Ws) (l : List Nd) (hs : s = ⟨wg, dg, (ws1 wg dg il g2 g11).ids ++ gs.map some, str [], none, 0, 0, il, []⟩) (h : l = mpL md ui gi (dp0 md ui gi g2 g11) 0 12 (ds.zip gs)) :
    Tn [WP s, NodesP l] (fun _ : Unit => True) (fun _ => [SA wg dg il md ui gi ds]) := by
  subst hs h
  exact Tn.inexs (A := fun i : DI => [WP (wsA wg dg il i), NodesP (mpL md ui gi (dp0 md ui gi i.g2 i.g11) 0 12 (ds.zip i.gs))]) (p := fun i : DI => i.gs.length = ds.length) (⟨g2, g11, gs, 0⟩ : DI) hl
theorem SA_out (wg dg : Nat) (il : Bool) (md ui gi : Nat) (ds : List (List UInt8)) :
    Tn [SA wg dg il md ui gi ds] (fun i : DI => i.gs.length = ds.length) (fun i => [WP (wsA wg dg il i), NodesP (mpL md ui gi (dp0 md ui gi i.g2 i.g11) 0 12 (ds.zip i.gs))]) := Tn.exs
theorem step0 (wg dg : Nat) (il : Bool) (md ui gi : Nat) (G : HP) (hmd : md &&& 61440 = 16384) (hmd2 : md < 65536) (hui : ui < 4294967296) (hgi : gi < 4294967296) :
    StepC wg G ⟨0, [47], 0, md, ui, gi, []⟩ (HP.star [Cells wg 112 (rawW dg il ((17179869184 : Nat) : Int)), DiskP dg 0 []]) (SA wg dg il md ui gi []) := by
  refine .create rfl hmd2 fun gf => ?_
  refine y_fn Tn.open fun _ _ => ?_
  exact ((createRoot0_fn wg dg il gf md ui gi _ hmd hmd2 hui hgi).close (M' := [SA wg dg il md ui gi []]) fun i _ => SA_in wg dg il md ui gi i.1 i.2 [] [] rfl _ _ rfl rfl).frame
theorem SA_out0 (wg dg : Nat) (il : Bool) (md ui gi : Nat) :
    Tn [SA wg dg il md ui gi []] (fun _ : Nat × Nat => True) (fun i => [WP (ws1 wg dg il i.1 i.2), NodesP (dp0 md ui gi i.1 i.2)]) := fun m S h => by
  obtain ⟨⟨g2, g11, gs, gF⟩, S', h1, h2, h3⟩ := SA_out wg dg il md ui gi [] m S h
  have h0 : gs = [] := List.length_eq_zero_iff.1 h1
  subst h0
  exact ⟨(g2, g11), S', trivial, h2, h3⟩
theorem step1 (wg dg : Nat) (il : Bool) (md ui gi : Nat) (G : HP) (ds : List (List UInt8)) (e : List UInt8) (hmd : md &&& 61440 = 16384) (hmd2 : md < 65536) (hui : ui < 4294967296) (hgi : gi < 4294967296)
    (hgood : ∀ c ∈ ds ++ [e], good c ∧ c.length ≤ 255) (hlen : ds.length ≤ 99) (hn : ∀ c ∈ (ds ++ [e]).head?, c ≠ lfN) (hnd : noDots (joinP (ds ++ [e])).length (joinP (ds ++ [e]))) (hcl : clN (joinP (ds ++ [e])).length (joinP (ds ++ [e])) [47] = 47 :: (slashed ds ++ e)) (hjl : (preS (ds ++ [e])).length ≤ 1000000) (hjl2 : (joinP (ds ++ [e])).length ≤ 1000000) :
    StepC wg G ⟨4, joinP (ds ++ [e]), 0, 0, 0, 0, []⟩ (SA wg dg il md ui gi []) (SA wg dg il md ui gi ds) := by
  refine .parents rfl ?_
  refine y_fn (SA_out0 wg dg il md ui gi) fun i hi => ?_
  obtain ⟨g2, g11⟩ := i
  dsimp only
  have hno : ∀ c ∈ ds.head?, look (kidE [(lfN, g11)]) (str c) = none := by
    intro c hc
    have hne : c ≠ lfN := hn c (by
      cases ds with
      | nil => simp at hc
      | cons a r => simpa using hc)
    have h1 : ¬ str lfN = str c := fun h => hne (str_inj h).symm
    simp only [look, kidE, List.map_cons, List.map_nil, List.find?_cons, List.find?_nil, decide_eq_false h1, Option.map_none]
  have h := makeParents_fn (ws1 wg dg il g2 g11) (dp0 md ui gi g2 g11) ⟨g2, 2, md, ui, gi, 3, 0, 262144, 0, [], [], some [(lfN, g11)]⟩ [(lfN, g11)] ds e (joinP (ds ++ [e])) rfl rfl rfl rfl (by dsimp only; omega) hmd hmd2 hui hgi (by dsimp only [List.length_cons, List.length_nil]; omega) hgood (by omega) hno (by omega) hnd hcl hjl
  refine Fe.close h ?_
  intro gs' hg
  refine SA_in wg dg il md ui gi g2 g11 gs' ds hg _ _ ?_ ?_
  · rfl
  · rfl
theorem SB_in (wg dg : Nat) (il : Bool) (md ui gi g2 g11 : Nat) (gs : List Nat) (gF : Nat) (ds : List (List UInt8)) (e nm : List UInt8) (inl : Bool) (dw z : Nat) (dat body : List UInt8) (hl : gs.length = ds.length) (s : Ws) (l : List Nd) (hs : s = wsB wg dg il ⟨g2, g11, gs, gF⟩ nm dw z body) (h : l = dp3 md ui gi g2 g11 (ds.zip gs ++ [(e, gF)]) ++ [fileN ds.length gF inl z dat]) :
    Tn [WP s, NodesP l] (fun _ : Unit => True) (fun _ => [SB wg dg il md ui gi ds e nm inl dw z dat body]) := by
  subst hs h
  exact Tn.inexs (A := fun i : DI => [WP (wsB wg dg il i nm dw z body), NodesP (dp3 md ui gi i.g2 i.g11 (ds.zip i.gs ++ [(e, i.gF)]) ++ [fileN ds.length i.gF inl z dat])]) (p := fun i : DI => i.gs.length = ds.length) (⟨g2, g11, gs, gF⟩ : DI) hl
theorem SB_out (wg dg : Nat) (il : Bool) (md ui gi : Nat) (ds : List (List UInt8)) (e nm : List UInt8) (inl : Bool) (dw z : Nat) (dat body : List UInt8) :
    Tn [SB wg dg il md ui gi ds e nm inl dw z dat body] (fun i : DI => i.gs.length = ds.length) (fun i => [WP (wsB wg dg il i nm dw z body), NodesP (dp3 md ui gi i.g2 i.g11 (ds.zip i.gs ++ [(e, i.gF)]) ++ [fileN ds.length i.gF inl z dat])]) := Tn.exs
theorem step2 (wg dg : Nat) (il : Bool) (md ui gi : Nat) (G : HP) (hG : PfxP G) (ds : List (List UInt8)) (e : List UInt8) (z : Nat) (inl : Bool) (hmd : md &&& 61440 = 16384) (hmd2 : md < 65536)
    (hgood : ∀ c ∈ ds ++ [e], good c ∧ c.length ≤ 255) (hlen : ds.length ≤ 99) (hn : ∀ c ∈ (ds ++ [e]).head?, c ≠ lfN) (hnd : noDots (joinP (ds ++ [e])).length (joinP (ds ++ [e]))) (hcl : clN (joinP (ds ++ [e])).length (joinP (ds ++ [e])) [47] = 47 :: (slashed ds ++ e)) (hjl2 : (joinP (ds ++ [e])).length ≤ 1000000)
    (hz : z ≤ 4000) (hinl : inl = (il && decide (z ≤ 136))) :
    StepC wg G ⟨0, joinP (ds ++ [e]), z, 0, 0, 0, []⟩ (SA wg dg il md ui gi ds) (SB wg dg il md ui gi ds e (joinP (ds ++ [e])) inl 0 z (List.replicate z 0) []) := by
  refine .create rfl (by show 0 < 65536; decide) fun gf => ?_
  refine y_fn (SA_out wg dg il md ui gi ds) fun i hi => ?_
  obtain ⟨g2, g11, gs, gF⟩ := i
  dsimp only at hi ⊢
  have he := hgood e (by simp)
  have hds := dir_slash ds e he.1.2.1
  have hjoin := joinP_eq ds e
  have hmap : (ds.zip gs).map (·.1) = ds := List.map_fst_zip (by omega)
  have hfin : Fd Tryz.prog 43 #[ptrV wg] [WP (wsA wg dg il ⟨g2, g11, gs, gF⟩), NodesP (mpL md ui gi (dp0 md ui gi g2 g11) 0 12 (ds.zip gs))] .nilIface [WP (wsA wg dg il ⟨g2, g11, gs, gF⟩), NodesP (mpL md ui gi (dp0 md ui gi g2 g11) 0 12 (ds.zip gs))] := (finish0_w (wsA wg dg il ⟨g2, g11, gs, gF⟩) rfl).frame
  have hidl : (wsA wg dg il ⟨g2, g11, gs, gF⟩).ids.length = 11 + ds.length := by simp [hi]; omega
  have hsl : ∀ c ∈ ds, 47 ∉ c := fun c hc => (hgood c (by simp [hc])).1.2.1
  have hjl3 : (slashed ds ++ e).length ≤ 1000000 := by rw [← hjoin]; exact hjl2
  have hel : 1 ≤ e.length := by
    have := he.1.1
    cases e with
    | nil => exact absurd rfl this
    | cons a r => simp
  obtain ⟨k, zn, ks, h1, h2, h3, h4, h5, h6, h7, x, h8, h9⟩ := deep_shape md ui gi g2 g11 (ds.zip gs) e (by rw [hmap]; exact hn)
  rw [hmap] at h6
  by_cases hc : 136 < z ∨ il = false
  · have hinl' : inl = false := by
      rw [hinl]
      rcases hc with hc | hc
      · rw [decide_eq_false (by omega), Bool.and_false]
      · rw [hc, Bool.false_and]
    subst hinl'
    have h := createReg_fn (wsA wg dg il ⟨g2, g11, gs, gF⟩) (wsA wg dg il ⟨g2, g11, gs, gF⟩) _ _ (joinP (ds ++ [e])) (slashed ds ++ e) e ds 0 k x zn ks gf 0 32768 0 0 z hfin h8 h1 (by rw [h9]; rfl) (by omega) (by omega) hnd hcl (by omega) hds.1 hds.2 hel he.2 hsl h6 h2 (by rw [h3]; exact hmd) (by rw [h3]; exact hmd2) h5 (by omega) rfl (by decide) (by decide) (by decide) (by decide) (by decide) (by decide) (by omega) hc
    refine Fd.frame (Fe.close h (M' := [SB wg dg il md ui gi ds e (joinP (ds ++ [e])) false 0 z (List.replicate z 0) []]) ?_)
    intro gF' _
    refine SB_in wg dg il md ui gi g2 g11 gs gF' ds e _ false 0 z _ [] hi _ _ ?_ ?_
    · rfl
    · rw [h7 gF', hidl, show 11 + ds.length + 1 = 12 + ds.length by omega]
      rfl
  · have hil : il = true := by cases il with | true => rfl | false => exact absurd (.inr rfl) hc
    have hz2 : z ≤ 136 := by omega
    have hinl' : inl = true := by rw [hinl, hil, decide_eq_true hz2]; rfl
    subst hinl' hil
    have h := createRegI_fn (wsA wg dg true ⟨g2, g11, gs, gF⟩) (wsA wg dg true ⟨g2, g11, gs, gF⟩) _ _ (joinP (ds ++ [e])) (slashed ds ++ e) e ds 0 k x zn ks gf 0 32768 0 0 z hfin h8 h1 (by rw [h9]; rfl) (by omega) (by omega) hnd hcl (by omega) hds.1 hds.2 hel he.2 hsl h6 h2 (by rw [h3]; exact hmd) (by rw [h3]; exact hmd2) h5 (by omega) rfl (by decide) (by decide) (by decide) (by decide) (by decide) (by decide) hz2 rfl G hG
    have hT : ∀ gF' : Nat, True → Tn [WP { wsA wg dg true ⟨g2, g11, gs, gF⟩ with ids := (wsA wg dg true ⟨g2, g11, gs, gF⟩).ids ++ [some gF'], cname := str (joinP (ds ++ [e])), cur := some gF', dw := 0, dm := z }, NodesP ((mpL md ui gi (dp0 md ui gi g2 g11) 0 12 (ds.zip gs)).set k { zn with kids := some (ks ++ [(e, gF')]) } ++ [⟨gF', (wsA wg dg true ⟨g2, g11, gs, gF⟩).ids.length + 1, 32768, 0, 0, 1, 0, 262144 ||| 268435456, z, List.replicate z 0, xinB (List.replicate (z - 60) 0), none⟩])] (fun _ : Unit => True) (fun _ => [SB wg dg true md ui gi ds e (joinP (ds ++ [e])) true 0 z (List.replicate z 0) []]) := by
      intro gF' _
      refine SB_in wg dg true md ui gi g2 g11 gs gF' ds e _ true 0 z _ [] hi _ _ ?_ ?_
      · rfl
      · rw [h7 gF', hidl, show 11 + ds.length + 1 = 12 + ds.length by omega]
        rfl
    refine Fe.close h fun gF' hF => ?_
    exact (hT gF' trivial).frame (F := [G])
theorem Own.tnk {A : Option Addr} {c e n : Nat} {vs : List Value} : Tn [Own A c e 1 n vs] (fun _ : Unit => vs.length = n * 1 ∧ n ≤ c ∧ (A = none → c = 0) ∧ ∀ a, A = some a → ∃ g, a = ⟨g, 0, none⟩) (fun _ => [Own A c e 1 n vs]) := fun m S h => ⟨(), S, Own.know (sats_one' h), h, fun _ h => h⟩
theorem dp3_len (md ui gi g2 g11 : Nat) (its : List (List UInt8 × Nat)) (h : its ≠ []) : (dp3 md ui gi g2 g11 its).length = its.length + 1 := by
  have : its.length ≠ 0 := fun h' => h (List.length_eq_zero_iff.1 h')
  simp only [dp3, List.length_cons, chN_len]; omega
theorem WriteIN_w (s : Ws) (l : List Nd) (k : Nat) (x : Nd) (bs : List UInt8) (X : Option Addr) (m cx : Nat) (M : HP) (hx : l[k]? = some x) (hr : Rd [M] X m 1 (enc bs)) (hm : bs.length = m) (hpos : 0 < m) (hcur : s.cur = some x.g) (hfl : x.flags &&& 268435456 ≠ 0) (hf2 : x.flags < 4294967296) (hd : s.dw + m ≤ s.dm) (hd2 : s.dw + m ≤ x.data.length) (hdm : s.dm ≤ 9223372036854775807) (hw : s.dw ≤ 1000000000) (hm2 : m ≤ 1000000000) :
    Fd Tryz.prog 28 #[ptrV s.wg, .slice X m cx] [WP s, NodesP l, M] (.tuple #[.int .i64 m, .nilIface])
      [WP { s with dw := s.dw + m }, NodesP (l.set k { x with data := x.data.take s.dw ++ bs ++ x.data.drop (s.dw + m) }), M] := by
  refine y_fn (NodesP.open hx) fun _ _ => ?_
  exact ((WriteI_w s x bs X m cx M hr hm hpos hcur hfl hf2 hd hd2 hdm hw hm2).frame (L := [NodeP x, NodesP (l.eraseIdx k), WP s, M])).close (NodesP.close { x with data := x.data.take s.dw ++ bs ++ x.data.drop (s.dw + m) } (List.getElem?_eq_some_iff.1 hx).1)
theorem step3 (wg dg : Nat) (il : Bool) (md ui gi : Nat) (G : HP) (ds : List (List UInt8)) (e nm data : List UInt8) (inl : Bool) (hz : data.length ≤ 4000) (hinl : inl = true → data.length ≤ 136) :
    StepC wg G ⟨1, [], 0, 0, 0, 0, data⟩ (SB wg dg il md ui gi ds e nm inl 0 data.length (List.replicate data.length 0) []) (SB wg dg il md ui gi ds e nm inl data.length data.length data (if inl then [] else data)) := by
  refine .write rfl fun X cx hX => ?_
  refine y_fn (SB_out wg dg il md ui gi ds e nm inl 0 data.length (List.replicate data.length 0) []) fun i hi => ?_
  obtain ⟨g2, g11, gs, gF⟩ := i
  dsimp only at hi ⊢
  refine y_fn (Own.tnk (A := X) (c := cx) (e := 5) (n := data.length) (vs := enc data)) fun _ hk => ?_
  have hrd := Own.rd (e := 5) hk
  have hget : (dp3 md ui gi g2 g11 (ds.zip gs ++ [(e, gF)]) ++ [fileN ds.length gF inl data.length (List.replicate data.length 0)])[(dp3 md ui gi g2 g11 (ds.zip gs ++ [(e, gF)])).length]? = some (fileN ds.length gF inl data.length (List.replicate data.length 0)) := by
    rw [List.getElem?_append_right (by omega)]; simp
  cases inl with
  | false =>
    rw [show (if false = true then [] else data) = data from rfl]
    have h := (WriteN_w (wsB wg dg il ⟨g2, g11, gs, gF⟩ nm 0 data.length []) _ _ _ data X data.length cx _ hget hrd rfl rfl (by show 262144 &&& 268435456 = 0; decide) (by show 262144 < 4294967296; decide) (by dsimp only; omega) (by dsimp only; omega) (by dsimp only; omega) (by dsimp only [List.length_nil]; omega)).frame (L := [Own X cx 5 1 data.length (enc data), WP (wsB wg dg il ⟨g2, g11, gs, gF⟩ nm 0 data.length []), NodesP (dp3 md ui gi g2 g11 (ds.zip gs ++ [(e, gF)]) ++ [fileN ds.length gF false data.length (List.replicate data.length 0)])])
    refine Fd.close h (SB_in wg dg il md ui gi g2 g11 gs gF ds e nm false data.length data.length data data hi _ _ ?_ ?_)
    · simp
    · rfl
  | true =>
    rw [show (if true = true then [] else data) = [] from rfl]
    have hz2 := hinl rfl
    by_cases h0 : data.length = 0
    · have hd0 : data = [] := List.length_eq_zero_iff.1 h0
      subst hd0
      have h := (Write0_w wg X cx [WP (wsB wg dg il ⟨g2, g11, gs, gF⟩ nm 0 0 []), NodesP (dp3 md ui gi g2 g11 (ds.zip gs ++ [(e, gF)]) ++ [fileN ds.length gF true 0 []])]).frame (L := [Own X cx 5 1 0 (enc []), WP (wsB wg dg il ⟨g2, g11, gs, gF⟩ nm 0 0 []), NodesP (dp3 md ui gi g2 g11 (ds.zip gs ++ [(e, gF)]) ++ [fileN ds.length gF true 0 []])])
      exact h.close (M' := [SB wg dg il md ui gi ds e nm true 0 0 [] []]) (SB_in wg dg il md ui gi g2 g11 gs gF ds e nm true 0 0 [] [] hi _ _ rfl rfl)
    · have h := (WriteIN_w (wsB wg dg il ⟨g2, g11, gs, gF⟩ nm 0 data.length []) _ _ _ data X data.length cx _ hget hrd rfl (by omega) rfl (by show 268697600 &&& 268435456 ≠ 0; decide) (by show 268697600 < 4294967296; decide) (by dsimp only; omega) (by simp) (by dsimp only; omega) (by dsimp only; omega) (by omega)).frame (L := [Own X cx 5 1 data.length (enc data), WP (wsB wg dg il ⟨g2, g11, gs, gF⟩ nm 0 data.length []), NodesP (dp3 md ui gi g2 g11 (ds.zip gs ++ [(e, gF)]) ++ [fileN ds.length gF true data.length (List.replicate data.length 0)])])
      refine Fd.close h (SB_in wg dg il md ui gi g2 g11 gs gF ds e nm true data.length data.length data [] hi _ _ ?_ ?_)
      · simp
      · rw [List.set_append_right _ _ (by omega)]
        simp
end Go.Proofs.YtcdalfhkhifplaaGreatDoor
namespace Go.Proofs.YtcdalfhkhifplaaGreatDoor
open Go
set_option maxRecDepth 100000
set_option maxHeartbeats 1000000
attribute [local irreducible] E EO
theorem padD_len' {n : Nat} (h : 8 ≤ n) : (padD n).length = n := by simp [padD, leB_len]; omega
theorem dirB_fit : ∀ (es : List (Nat × List UInt8 × Nat)) (n : Nat), (es.map fun e => rlN e.2.1).sum + 12 ≤ n → (dirB n es).length = n
  | [], n, h => by
    rw [dirB]; exact padD_len' (by simp at h; omega)
  | (num, nm, ft) :: r, n, h => by
    simp only [List.map_cons, List.sum_cons] at h
    rw [dirB, stepD, leftD, if_neg (by omega), if_neg (by omega), List.nil_append, List.length_append, entD_len, dirB_fit r (n - rlN nm) (by omega)]
    omega
theorem finishXN_w (s : Ws) (l : List Nd) (k : Nat) (x : Nd) (hx : l[k]? = some x) (hc : s.cur = some x.g) (h1 : s.dm = s.dw) (hd : 0 < s.dw) (hfl : x.flags &&& 268435456 = 0) (hf : x.flags < 4294967296) (hd2 : s.dw ≤ 100000000) (hle : s.dw ≤ s.body.length) (hal : (s.body.length - s.dw) % 4096 = 0) (hb : s.body.length ≤ 900000000) (hbl : x.blks ≤ 1000) :
    Fd Tryz.prog 43 #[ptrV s.wg] [WP s, NodesP l] .nilIface
      [WP { s with body := padB s.body, cur := none, dw := 0, dm := 0 }, NodesP (l.set k { x with data := extB (2 + (s.body.length - s.dw) / 4096) ((s.dw + 4095) / 4096), flags := x.flags ||| 524288, blks := x.blks + (s.dw + 4095) / 4096 })] := by
  refine y_fn (NodesP.open hx) fun _ _ => ?_
  exact ((finishX_w s x hc h1 hd hfl hf hd2 hle hal hb hbl).frame (L := [NodeP x, NodesP (l.eraseIdx k), WP s])).close (NodesP.close _ (List.getElem?_eq_some_iff.1 hx).1)
def finX (x : Nd) (b : Nat) : Nd := { x with data := extB b 1, flags := 786432, blks := 1 }
theorem finD_w (s : Ws) (l : List Nd) (k : Nat) (x : Nd) (m : Nat) (hx : l[k]? = some x) (hc : s.cur = some x.g) (h1 : s.dm = 4096) (h2 : s.dw = 4096) (hfl : x.flags = 262144) (hbl : x.blks = 0) (hb : s.body.length = (m + 1) * 4096) (hm : m ≤ 10000) :
    Fd Tryz.prog 43 #[ptrV s.wg] [WP s, NodesP l] .nilIface [WP { s with cur := none, dw := 0, dm := 0 }, NodesP (l.set k (finX x (2 + m)))] := by
  have h := finishXN_w s l k x hx hc (by omega) (by omega) (by rw [hfl]; decide) (by omega) (by omega) (by omega) (by omega) (by omega) (by omega)
  have e1 : padB s.body = s.body := by simp [padB, hb]
  have e2 : (s.body.length - s.dw) / 4096 = m := by rw [hb, h2]; omega
  rw [e1, e2, h2, hfl, hbl] at h
  exact h
def unfL : Nat → Nd → List Nd → List Nd
  | _, y, [] => [y]
  | b, y, x :: r => finX y b :: unfL (b + 1) { x with size := 4096 } r
def bytesC : Nat → Nat → List (List UInt8) → List UInt8
  | _, _, [] => []
  | _, _, [_] => []
  | par, num, _ :: c' :: r => dirB 4096 [(num, [46], 2), (par, [46, 46], 2), (num + 1, c', if r = [] then 1 else 2)] ++ bytesC num (num + 1) (c' :: r)
def curC : List (List UInt8 × Nat) → Nat
  | [] => 0
  | [_] => 0
  | (_, g) :: q :: r => if r = [] then g else curC (q :: r)
theorem ft_dir {md : Nat} (h : md &&& 61440 = 16384) : ftN md = 2 := by unfold ftN; rw [if_neg (by omega), if_pos h]
theorem one_wr (wg md n : Nat) (hmd : md &&& 61440 = 16384) (hmd2 : md < 65536) (A T : List Nd) (y x par : Nd) (s : Ws) (p m : Nat) (c' : List UInt8) (g' mc j : Nat) (z : Nd) (b : WS) (hwg : s.wg = wg) (hcur : s.cur = some y.g) (hdw : s.dw = 4096) (hdm : s.dm = 4096) (hyf : y.flags = 262144) (hyb : y.blks = 0) (hb : s.body.length = (m + 1) * 4096) (hm : m ≤ 1000) (hids : s.ids.length ≤ 100000000)
    (hpar : (A ++ [finX y (2 + m)])[p]? = some par) (hpm : par.mode = md) (hpg : getI s.ids par.num = some par.g) (hpn : par.num < 4294967296)
    (hxk : x.kids = some [(c', g')]) (hxm : x.mode = md) (hxf : x.flags = 262144) (hxg : getI s.ids x.num = some x.g) (hxn : x.num ≤ 10000) (hc : c'.length ≤ 255)
    (hz : T[j]? = some z) (hzg : z.g = g') (hzn : z.num = x.num + 1) (hzm : z.mode = mc) (hmc : mc < 65536) (hzi : getI s.ids (x.num + 1) = some g')
    (hrl : WRL (WR wg n) (A.length + 1) x.g [(c', g')] [(c', g')] ({ s with cname := ⟨#[]⟩, cur := some x.g, dw := 4096, dm := 4096, body := s.body ++ dirB 4096 [(x.num, [46], 2), (par.num, [46, 46], 2), (x.num + 1, c', ftN mc)] }, A ++ [finX y (2 + m)] ++ { x with size := 4096 } :: T) b) :
    WR wg (n + 1) (s, A ++ y :: x :: T) (A.length + 1) x.g p par.g b := by
  have hy : (A ++ y :: x :: T)[A.length]? = some y := by simp
  have hfin := finD_w s _ A.length y m hy hcur hdm hdw hyf hyb hb (by omega)
  have hl : (A ++ y :: x :: T).set A.length (finX y (2 + m)) = (A ++ [finX y (2 + m)]) ++ x :: T := by
    rw [List.set_append_right _ _ (by omega)]; simp
  rw [hl] at hfin
  have hx : ((A ++ [finX y (2 + m)]) ++ x :: T)[A.length + 1]? = some x := by
    rw [List.getElem?_append_right (by simp)]; simp
  have hD : dirD x par [(c', g')] (fun _ => x.num + 1) (fun _ => mc) = dirB 4096 [(x.num, [46], 2), (par.num, [46, 46], 2), (x.num + 1, c', ftN mc)] := by
    show dirB 4096 [(x.num, [46], ftN x.mode), (par.num, [46, 46], ftN par.mode), (x.num + 1, c', ftN mc)] = _
    rw [hxm, hpm, ft_dir hmd]
  have hDl : (dirB 4096 [(x.num, [46], 2), (par.num, [46, 46], 2), (x.num + 1, c', ftN mc)]).length = 4096 := dirB_fit _ _ (by simp [rlN]; omega)
  refine ⟨{ s with cur := none, dw := 0, dm := 0 }, (A ++ [finX y (2 + m)]) ++ x :: T, x, par, [(c', g')], [(c', g')], fun _ => x.num + 1, fun _ => mc, hwg, rfl, rfl, hfin, ⟨rfl, hx, ?_, hxk, ?_, List.Perm.refl _, by simp, by simp, hxg, hpg, by omega, hpn, by omega, by omega, hids, by dsimp only; omega, by rw [hxf]; decide, by rw [hxf]; decide⟩, ?_⟩
  · rw [List.getElem?_append_left (List.getElem?_eq_some_iff.1 hpar).1]; exact hpar
  · intro q hq
    have hq' : q = (c', g') := by simpa using hq
    subst hq'
    refine ⟨by simp [look, kidE], hc, A.length + 1 + 1 + j, z, ?_, hzg, hzn, hzm, by rw [hzn, hzg]; exact hzi, by omega, by omega⟩
    rw [List.getElem?_append_right (by simp; omega)]
    rw [show A.length + 1 + 1 + j - (A ++ [finX y (2 + m)]).length = j + 1 by simp; omega]
    simpa using hz
  · have hset : (A ++ [finX y (2 + m)] ++ x :: T).set (A.length + 1) { x with size := 4096 } = A ++ [finX y (2 + m)] ++ { x with size := 4096 } :: T := by
      rw [List.set_append_right _ _ (by simp)]; simp
    show WRL (WR wg n) (A.length + 1) x.g [(c', g')] [(c', g')] ({ s with cname := ⟨#[]⟩, cur := some x.g, dw := (dirD x par [(c', g')] (fun _ => x.num + 1) (fun _ => mc)).length, dm := (dirD x par [(c', g')] (fun _ => x.num + 1) (fun _ => mc)).length, body := s.body ++ dirD x par [(c', g')] (fun _ => x.num + 1) (fun _ => mc) }, (A ++ [finX y (2 + m)] ++ x :: T).set (A.length + 1) { x with size := (dirD x par [(c', g')] (fun _ => x.num + 1) (fun _ => mc)).length }) b
    rw [hD, hDl, hset]
    exact hrl
theorem chain_wr (wg md ui gi : Nat) (hmd : md &&& 61440 = 16384) (hmd2 : md < 65536) (f : Nd) (hf : f.mode = 32768) :
    ∀ (r : List (List UInt8 × Nat)) (n : Nat) (c c' : List UInt8) (g g' num : Nat) (A : List Nd) (y par : Nd) (s : Ws) (p m : Nat), r.length + 1 ≤ n →
      s.wg = wg → s.cur = some y.g → s.dw = 4096 → s.dm = 4096 → y.flags = 262144 → y.blks = 0 → s.body.length = (m + 1) * 4096 → m + r.length ≤ 1000 → s.ids.length ≤ 100000000 →
      (A ++ [finX y (2 + m)])[p]? = some par → par.mode = md → getI s.ids par.num = some par.g → par.num < 4294967296 →
      (∀ i q, ((c, g) :: (c', g') :: r)[i]? = some q → getI s.ids (num + i) = some q.2 ∧ q.1.length ≤ 255) → num + r.length ≤ 1000 → (((c', g') :: r).getLast?.map (·.2)) = some f.g → f.num = num + r.length + 1 →
      WR wg n (s, A ++ y :: (chN md ui gi num ((c, g) :: (c', g') :: r) ++ [f])) (A.length + 1) g p par.g
        ({ s with cname := ⟨#[]⟩, cur := some (curC ((c, g) :: (c', g') :: r)), dw := 4096, dm := 4096, body := s.body ++ bytesC par.num num (c :: c' :: r.map (·.1)) }, A ++ (unfL (2 + m) y (chN md ui gi num ((c, g) :: (c', g') :: r)) ++ [f])) := by
  intro r
  induction r with
  | nil =>
    intro n c c' g g' num A y par s p m hn hwg hcur hdw hdm hyf hyb hb hm hids hpar hpm hpg hpn hit hnum hfg hfn
    obtain ⟨n, rfl⟩ : ∃ k, n = k + 1 := ⟨n - 1, by omega⟩
    have hc := (hit 0 (c, g) rfl)
    have hc' := (hit 1 (c', g') rfl)
    have hgf : g' = f.g := by simpa using hfg
    refine one_wr wg md n hmd hmd2 A [f] y ⟨g, num, md, ui, gi, 2, 0, 262144, 0, [], [], some [(c', g')]⟩ par s p m c' g' 32768 0 f _ hwg hcur hdw hdm hyf hyb hb (by omega) hids hpar hpm hpg hpn rfl rfl rfl (by simpa using hc.1) (by simp at hnum ⊢; omega) hc'.2 rfl hgf.symm (by simpa using hfn) hf (by decide) hc'.1 ?_
    refine .file (x := { (⟨g, num, md, ui, gi, 2, 0, 262144, 0, [], [], some [(c', g')]⟩ : Nd) with size := 4096 }) (j := A.length + 2) (y := f) ?_ rfl rfl (by simp [look, kidE]) ?_ hgf.symm (by omega) (by rw [hf]; decide) ?_
    · rw [List.getElem?_append_right (by simp)]; simp
    · rw [List.getElem?_append_right (by simp)]; simp
    · have e1 : A ++ [finX y (2 + m)] ++ { (⟨g, num, md, ui, gi, 2, 0, 262144, 0, [], [], some [(c', g')]⟩ : Nd) with size := 4096 } :: [f] = A ++ (unfL (2 + m) y (chN md ui gi num [(c, g), (c', g')]) ++ [f]) := by
        simp [chN, unfL]
      rw [e1]
      have e2 : bytesC par.num num [c, c'] = dirB 4096 [(num, [46], 2), (par.num, [46, 46], 2), (num + 1, c', 1)] := by simp [bytesC]
      rw [show ([] : List (List UInt8 × Nat)).map (·.1) = [] from rfl, e2]
      exact .nil
  | cons q r ih =>
    obtain ⟨c2, g2⟩ := q
    intro n c c' g g' num A y par s p m hn hwg hcur hdw hdm hyf hyb hb hm hids hpar hpm hpg hpn hit hnum hfg hfn
    obtain ⟨n, rfl⟩ : ∃ k, n = k + 1 := ⟨n - 1, by omega⟩
    have hc := (hit 0 (c, g) rfl)
    have hc' := (hit 1 (c', g') rfl)
    have hDl : (dirB 4096 [(num, [46], 2), (par.num, [46, 46], 2), (num + 1, c', 2)]).length = 4096 := dirB_fit _ _ (by have := hc'.2; dsimp only at this; simp [rlN]; omega)
    have hch : chN md ui gi num ((c, g) :: (c', g') :: (c2, g2) :: r) = ⟨g, num, md, ui, gi, 3, 0, 262144, 0, [], [], some [(c', g')]⟩ :: chN md ui gi (num + 1) ((c', g') :: (c2, g2) :: r) := by simp [chN]
    obtain ⟨x2, T2, hx2, hx2g, hx2n, hx2m⟩ : ∃ x2 T2, chN md ui gi (num + 1) ((c', g') :: (c2, g2) :: r) = x2 :: T2 ∧ x2.g = g' ∧ x2.num = num + 1 ∧ x2.mode = md := ⟨_, _, rfl, rfl, rfl, rfl⟩
    rw [hch]
    refine one_wr wg md n hmd hmd2 A (chN md ui gi (num + 1) ((c', g') :: (c2, g2) :: r) ++ [f]) y ⟨g, num, md, ui, gi, 3, 0, 262144, 0, [], [], some [(c', g')]⟩ par s p m c' g' md 0 x2 _ hwg hcur hdw hdm hyf hyb hb (by omega) hids hpar hpm hpg hpn rfl rfl rfl (by simpa using hc.1) (by simp at hnum ⊢; omega) hc'.2 (by rw [hx2]; rfl) hx2g hx2n hx2m hmd2 hc'.1 ?_
    refine .dir (x := { (⟨g, num, md, ui, gi, 3, 0, 262144, 0, [], [], some [(c', g')]⟩ : Nd) with size := 4096 }) (j := A.length + 2) (y := x2) ?_ rfl rfl (by simp [look, kidE]) ?_ hx2g (by omega) (by rw [hx2m]; exact hmd) ?_ .nil
    · rw [List.getElem?_append_right (by simp)]; simp
    · rw [List.getElem?_append_right (by simp), hx2]; simp
    · rw [ft_dir hmd]
      have h := ih n c' c2 g' g2 (num + 1) (A ++ [finX y (2 + m)]) { (⟨g, num, md, ui, gi, 3, 0, 262144, 0, [], [], some [(c', g')]⟩ : Nd) with size := 4096 } (finX { (⟨g, num, md, ui, gi, 3, 0, 262144, 0, [], [], some [(c', g')]⟩ : Nd) with size := 4096 } (2 + (m + 1))) { s with cname := ⟨#[]⟩, cur := some g, dw := 4096, dm := 4096, body := s.body ++ dirB 4096 [(num, [46], 2), (par.num, [46, 46], 2), (num + 1, c', 2)] } (A.length + 1) (m + 1)
        (by simp at hn; omega) hwg rfl rfl rfl rfl rfl (by dsimp only; rw [List.length_append, hDl, hb]; omega) (by simp at hm; omega) hids
        (by rw [List.getElem?_append_right (by simp)]; simp) rfl hc.1 (by show num < 4294967296; omega)
        (fun i q hq => by have := hit (i + 1) q hq; rw [show num + 1 + i = num + (i + 1) by omega]; exact this) (by simp at hnum; omega) (by simpa using hfg) (by simp at hfn; omega)
      have e1 : unfL (2 + m) y (⟨g, num, md, ui, gi, 3, 0, 262144, 0, [], [], some [(c', g')]⟩ :: chN md ui gi (num + 1) ((c', g') :: (c2, g2) :: r)) = finX y (2 + m) :: unfL (2 + (m + 1)) { (⟨g, num, md, ui, gi, 3, 0, 262144, 0, [], [], some [(c', g')]⟩ : Nd) with size := 4096 } (chN md ui gi (num + 1) ((c', g') :: (c2, g2) :: r)) := rfl
      have e2 : bytesC par.num num (c :: c' :: ((c2, g2) :: r).map (·.1)) = dirB 4096 [(num, [46], 2), (par.num, [46, 46], 2), (num + 1, c', 2)] ++ bytesC num (num + 1) (c' :: c2 :: r.map (·.1)) := by
        simp [bytesC]
      have e3 : curC ((c, g) :: (c', g') :: (c2, g2) :: r) = curC ((c', g') :: (c2, g2) :: r) := by simp [curC]
      rw [e1, e2, e3, ← List.append_assoc s.body]
      rw [show (A ++ [finX y (2 + m)]).length + 1 = A.length + 1 + 1 by simp] at h
      simp only [List.append_assoc, List.cons_append, List.nil_append] at h ⊢
      exact h
def rootB (c : List UInt8) (one : Bool) : List UInt8 := dirB 4096 [(2, [46], 2), (2, [46, 46], 2), (11, lfN, 2), (12, c, if one then 1 else 2)]
def lfB : List UInt8 := dirB 4096 [(11, [46], 2), (2, [46, 46], 2)]
theorem rootB_len (c : List UInt8) (one : Bool) (h : c.length ≤ 255) : (rootB c one).length = 4096 := dirB_fit _ _ (by simp [rlN]; omega)
theorem lfB_len : lfB.length = 4096 := dirB_fit _ _ (by simp [rlN])
abbrev lfNd (g11 : Nat) : Nd := ⟨g11, 11, 16832, 0, 0, 2, 0, 262144, 0, [], [], some []⟩
abbrev lfNs (g11 : Nat) : Nd := ⟨g11, 11, 16832, 0, 0, 2, 0, 262144, 4096, [], [], some []⟩
theorem lf_wr (wg md n : Nat) (hmd : md &&& 61440 = 16384) (hmd2 : md < 65536) (T : List Nd) (y : Nd) (g11 : Nat) (s : Ws) (m : Nat) (hwg : s.wg = wg) (hcur : s.cur = some y.g) (hdw : s.dw = 4096) (hdm : s.dm = 4096) (hyf : y.flags = 262144) (hyb : y.blks = 0) (hym : y.mode = md) (hyn : y.num = 2) (hb : s.body.length = (m + 1) * 4096) (hm : m ≤ 1000) (hids : s.ids.length ≤ 100000000)
    (hpg : getI s.ids 2 = some y.g) (hxg : getI s.ids 11 = some g11) :
    WR wg (n + 1) (s, y :: lfNd g11 :: T) 1 g11 0 y.g ({ s with cname := ⟨#[]⟩, cur := some g11, dw := 4096, dm := 4096, body := s.body ++ lfB }, finX y (2 + m) :: lfNs g11 :: T) := by
  have hfin := finD_w s (y :: lfNd g11 :: T) 0 y m rfl hcur hdm hdw hyf hyb hb (by omega)
  have hl : (y :: lfNd g11 :: T).set 0 (finX y (2 + m)) = finX y (2 + m) :: lfNd g11 :: T := rfl
  rw [hl] at hfin
  refine ⟨{ s with cur := none, dw := 0, dm := 0 }, finX y (2 + m) :: lfNd g11 :: T, lfNd g11, finX y (2 + m), [], [], fun _ => 0, fun _ => 0, hwg, rfl, rfl, hfin, ⟨rfl, rfl, rfl, rfl, fun q hq => by simp at hq, List.Perm.refl _, by simp, by simp, hxg, by rw [show (finX y (2 + m)).num = 2 from hyn]; exact hpg, by show 11 < 4294967296; decide, by rw [show (finX y (2 + m)).num = 2 from hyn]; decide, by show 16832 < 65536; decide, by rw [show (finX y (2 + m)).mode = md from hym]; exact hmd2, hids, by dsimp only; omega, by show 262144 &&& 268435456 = 0; decide, by show 262144 < 4294967296; decide⟩, ?_⟩
  have hD : dirD (lfNd g11) (finX y (2 + m)) [] (fun _ => 0) (fun _ => 0) = lfB := by
    show dirB 4096 [(11, [46], ftN 16832), ((finX y (2 + m)).num, [46, 46], ftN (finX y (2 + m)).mode)] = lfB
    rw [show (finX y (2 + m)).num = 2 from hyn, show (finX y (2 + m)).mode = md from hym, ft_dir hmd, ft_dir (md := 16832) (by decide)]
    rfl
  show WRL (WR wg n) 1 g11 [] [] ({ s with cname := ⟨#[]⟩, cur := some g11, dw := (dirD (lfNd g11) (finX y (2 + m)) [] (fun _ => 0) (fun _ => 0)).length, dm := (dirD (lfNd g11) (finX y (2 + m)) [] (fun _ => 0) (fun _ => 0)).length, body := s.body ++ dirD (lfNd g11) (finX y (2 + m)) [] (fun _ => 0) (fun _ => 0) }, (finX y (2 + m) :: lfNd g11 :: T).set 1 { lfNd g11 with size := (dirD (lfNd g11) (finX y (2 + m)) [] (fun _ => 0) (fun _ => 0)).length }) _
  rw [hD, lfB_len]
  exact .nil
abbrev rtN (md ui gi g2 lk g11 z : Nat) (q : List UInt8 × Nat) : Nd := ⟨g2, 2, md, ui, gi, lk, 0, 262144, z, [], [], some [(lfN, g11), q]⟩
theorem deep_wr (wg md ui gi g2 g11 n : Nat) (hmd : md &&& 61440 = 16384) (hmd2 : md < 65536) (f : Nd) (hf : f.mode = 32768) (lk : Nat) (q : List UInt8 × Nat) (r : List (List UInt8 × Nat)) (s : Ws) (m : Nat) (hn : r.length + 2 ≤ n) (hwg : s.wg = wg) (hcur : s.cur = none) (hb : s.body.length = m * 4096) (hm : m + r.length ≤ 900) (hids : s.ids.length ≤ 100000000)
    (h2 : getI s.ids 2 = some g2) (h11 : getI s.ids 11 = some g11) (hit : ∀ i p, (q :: r)[i]? = some p → getI s.ids (12 + i) = some p.2 ∧ p.1.length ≤ 255) (hne : q.2 ≠ g11) (hnm : q.1 ≠ lfN)
    (hfg : ((q :: r).getLast?.map (·.2)) = some f.g) (hfn : f.num = 12 + r.length) :
    WR wg n (s, rtN md ui gi g2 lk g11 0 q :: lfNd g11 :: (chN md ui gi 12 (q :: r) ++ [f])) 0 g2 0 g2
      ({ s with cname := ⟨#[]⟩, cur := some (if r = [] then g11 else curC (q :: r)), dw := 4096, dm := 4096, body := s.body ++ rootB q.1 (decide (r = [])) ++ lfB ++ bytesC 2 12 (q.1 :: r.map (·.1)) },
       unfL (2 + m) (rtN md ui gi g2 lk g11 4096 q) (lfNd g11 :: chN md ui gi 12 (q :: r)) ++ [f]) := by
  obtain ⟨n, rfl⟩ : ∃ k, n = k + 1 + 1 := ⟨n - 2, by omega⟩
  obtain ⟨c, g⟩ := q
  dsimp only at hne hnm ⊢
  have hc := hit 0 (c, g) rfl
  have hc1 : getI s.ids 12 = some g := hc.1
  have hc2 : c.length ≤ 255 := hc.2
  obtain ⟨z, hz, hzg, hzn, hzm, hzm2⟩ : ∃ z : Nd, (chN md ui gi 12 ((c, g) :: r) ++ [f])[0]? = some z ∧ z.g = g ∧ z.num = 12 ∧ z.mode = (if r = [] then 32768 else md) ∧ z.mode < 65536 := by
    cases r with
    | nil => exact ⟨f, rfl, by simpa using hfg.symm, by simpa using hfn, by rw [if_pos rfl]; exact hf, by omega⟩
    | cons q' r' => exact ⟨_, rfl, rfl, rfl, (if_neg (List.cons_ne_nil _ _)).symm, hmd2⟩
  have hfin : Fd Tryz.prog 43 #[ptrV s.wg] [WP s, NodesP (rtN md ui gi g2 lk g11 0 (c, g) :: lfNd g11 :: (chN md ui gi 12 ((c, g) :: r) ++ [f]))] .nilIface [WP s, NodesP (rtN md ui gi g2 lk g11 0 (c, g) :: lfNd g11 :: (chN md ui gi 12 ((c, g) :: r) ++ [f]))] := (finish0_w s hcur).frame
  have hlk1 : look (kidE [(lfN, g11), (c, g)]) (str lfN) = some (ptrV g11) := by simp [look, kidE]
  have hlk2 : look (kidE [(lfN, g11), (c, g)]) (str c) = some (ptrV g) := by
    have h1 : ¬ str lfN = str c := fun h => hnm (str_inj h).symm
    simp [look, kidE, decide_eq_false h1]
  have hD : dirD (rtN md ui gi g2 lk g11 0 (c, g)) (rtN md ui gi g2 lk g11 0 (c, g)) [(lfN, g11), (c, g)] (fun a => if a = g11 then 11 else 12) (fun a => if a = g11 then 16832 else if r = [] then 32768 else md) = rootB c (decide (r = [])) := by
    show dirB 4096 [(2, [46], ftN md), (2, [46, 46], ftN md), (if g11 = g11 then 11 else 12, lfN, ftN (if g11 = g11 then 16832 else if r = [] then 32768 else md)), (if g = g11 then 11 else 12, c, ftN (if g = g11 then 16832 else if r = [] then 32768 else md))] = _
    rw [if_pos rfl, if_pos rfl, if_neg hne, if_neg hne, ft_dir hmd, ft_dir (md := 16832) (by decide), rootB]
    by_cases hr : r = []
    · rw [if_pos hr, decide_eq_true hr, if_pos rfl]; rfl
    · rw [if_neg hr, decide_eq_false hr, if_neg (by decide), ft_dir hmd]
  refine ⟨s, _, rtN md ui gi g2 lk g11 0 (c, g), rtN md ui gi g2 lk g11 0 (c, g), [(lfN, g11), (c, g)], [(lfN, g11), (c, g)], fun a => if a = g11 then 11 else 12, fun a => if a = g11 then 16832 else if r = [] then 32768 else md, hwg, rfl, rfl, hfin, ⟨hcur, rfl, rfl, rfl, ?_, List.Perm.refl _, by simp [hne], by simp, h2, h2, by show 2 < 4294967296; decide, by show 2 < 4294967296; decide, hmd2, hmd2, hids, by omega, by show 262144 &&& 268435456 = 0; decide, by show 262144 < 4294967296; decide⟩, ?_⟩
  · intro p hp
    have hp' : p = (lfN, g11) ∨ p = (c, g) := by simpa using hp
    rcases hp' with rfl | rfl
    · exact ⟨hlk1, by show lfN.length ≤ 255; decide, 1, lfNd g11, rfl, rfl, by simp, by simp, h11, by show 16832 < 65536; decide, by show 11 < 4294967296; decide⟩
    · exact ⟨hlk2, hc2, 2, z, hz, hzg, by simp [hne, hzn], by simp [hne, hzm], by rw [hzn, hzg]; exact hc1, hzm2, by omega⟩
  · show WRL (WR wg (n + 1)) 0 g2 [(lfN, g11), (c, g)] [(lfN, g11), (c, g)] ({ s with cname := ⟨#[]⟩, cur := some g2, dw := (dirD (rtN md ui gi g2 lk g11 0 (c, g)) (rtN md ui gi g2 lk g11 0 (c, g)) [(lfN, g11), (c, g)] (fun a => if a = g11 then 11 else 12) (fun a => if a = g11 then 16832 else if r = [] then 32768 else md)).length, dm := (dirD (rtN md ui gi g2 lk g11 0 (c, g)) (rtN md ui gi g2 lk g11 0 (c, g)) [(lfN, g11), (c, g)] (fun a => if a = g11 then 11 else 12) (fun a => if a = g11 then 16832 else if r = [] then 32768 else md)).length, body := s.body ++ dirD (rtN md ui gi g2 lk g11 0 (c, g)) (rtN md ui gi g2 lk g11 0 (c, g)) [(lfN, g11), (c, g)] (fun a => if a = g11 then 11 else 12) (fun a => if a = g11 then 16832 else if r = [] then 32768 else md) }, (rtN md ui gi g2 lk g11 0 (c, g) :: lfNd g11 :: (chN md ui gi 12 ((c, g) :: r) ++ [f])).set 0 { rtN md ui gi g2 lk g11 0 (c, g) with size := (dirD (rtN md ui gi g2 lk g11 0 (c, g)) (rtN md ui gi g2 lk g11 0 (c, g)) [(lfN, g11), (c, g)] (fun a => if a = g11 then 11 else 12) (fun a => if a = g11 then 16832 else if r = [] then 32768 else md)).length }) _
    rw [hD, rootB_len _ _ hc2]
    have hlf := lf_wr wg md n hmd hmd2 (chN md ui gi 12 ((c, g) :: r) ++ [f]) (rtN md ui gi g2 lk g11 4096 (c, g)) g11 { s with cname := ⟨#[]⟩, cur := some g2, dw := 4096, dm := 4096, body := s.body ++ rootB c (decide (r = [])) } m hwg rfl rfl rfl rfl rfl rfl rfl (by dsimp only; rw [List.length_append, rootB_len _ _ hc2, hb]; omega) (by omega) hids h2 h11
    refine .dir (x := rtN md ui gi g2 lk g11 4096 (c, g)) (j := 1) (y := lfNd g11) rfl rfl rfl hlk1 rfl rfl (by show 16832 < 65536; decide) (by show 16832 &&& 61440 = 16384; decide) hlf ?_
    cases r with
    | nil =>
      have hgf : g = f.g := by simpa using hfg
      refine .file (x := finX (rtN md ui gi g2 lk g11 4096 (c, g)) (2 + m)) (j := 2) (y := f) rfl rfl rfl hlk2 rfl hgf.symm (by omega) (by rw [hf]; decide) ?_
      have e : bytesC 2 12 (c :: List.map (·.1) ([] : List (List UInt8 × Nat))) = [] := rfl
      rw [e, List.append_nil, if_pos rfl]
      exact .nil
    | cons q' r =>
      obtain ⟨c', g'⟩ := q'
      have h := chain_wr wg md ui gi hmd hmd2 f hf r (n + 1) c c' g g' 12 [finX (rtN md ui gi g2 lk g11 4096 (c, g)) (2 + m)] (lfNs g11) (finX (rtN md ui gi g2 lk g11 4096 (c, g)) (2 + m)) { s with cname := ⟨#[]⟩, cur := some g11, dw := 4096, dm := 4096, body := s.body ++ rootB c (decide ((c', g') :: r = [])) ++ lfB } 0 (m + 1) (by simp at hn; omega) hwg rfl rfl rfl rfl rfl (by dsimp only; rw [List.length_append, List.length_append, rootB_len _ _ hc2, lfB_len, hb]; omega) (by simp at hm; omega) hids rfl rfl h2 (by show 2 < 4294967296; decide) hit (by simp at hm; omega) (by simpa using hfg) (by simp at hfn; omega)
      refine .dir (x := finX (rtN md ui gi g2 lk g11 4096 (c, g)) (2 + m)) (j := 2) (y := z) rfl rfl rfl hlk2 hz hzg hzm2 (by rw [hzm, if_neg (by simp)]; exact hmd) ?_ .nil
      rw [if_neg (by simp)]
      exact h
end Go.Proofs.YtcdalfhkhifplaaGreatDoor
namespace Go.Proofs.YtcdalfhkhifplaaGreatDoor
open Go
set_option maxRecDepth 100000
set_option maxHeartbeats 1000000
attribute [local irreducible] E EO
theorem nodes_nd : ∀ (l : List Nd) (m : Mem) (S : Nat → Prop), sats (l.map NodeP) m S → (l.map (·.g)).Nodup ∧ ∀ x ∈ l, S x.g
  | [], m, S, h => ⟨List.nodup_nil, by simp⟩
  | x :: l, m, S, h => by
    obtain ⟨S1, S2, h1, h2, hd, hu⟩ := h
    obtain ⟨n1, n2⟩ := nodes_nd l m S2 h2
    obtain ⟨i, hi, T1, T2, c1, -, -, cu⟩ := h1
    have hx : S1 x.g := (cu x.g).2 (.inl ((c1.1 x.g).2 rfl))
    refine ⟨List.nodup_cons.2 ⟨fun hm => ?_, n1⟩, fun y hy => ?_⟩
    · obtain ⟨y, hy, hyg⟩ := List.mem_map.1 hm
      have h3 := n2 y hy
      rw [show y.g = x.g from hyg] at h3
      exact hd x.g hx h3
    · rcases List.mem_cons.1 hy with rfl | hy
      · exact (hu _).2 (.inl hx)
      · exact (hu _).2 (.inr (n2 y hy))
theorem NodesP.nd (l : List Nd) : Tn [NodesP l] (fun _ : Unit => (l.map (·.g)).Nodup) (fun _ => [NodesP l]) := fun m S h => ⟨(), S, (nodes_nd l m S (sats_one' h)).1, h, fun _ h => h⟩
def fileF (d gF : Nat) (inl : Bool) (data : List UInt8) : Nd := ⟨gF, 12 + d, 32768, 0, 0, 1, if inl = false ∧ data ≠ [] then 1 else 0, if inl then 268697600 else if data = [] then 262144 else 786432, data.length, if inl then data else if data = [] then [] else extB 2 1, if inl then xinB (List.replicate (data.length - 60) 0) else [], none⟩
theorem finF_w (s : Ws) (l : List Nd) (k d gF : Nat) (inl : Bool) (data : List UInt8) (hx : l[k]? = some (fileN d gF inl data.length data)) (hc : s.cur = some gF) (h1 : s.dm = data.length) (h2 : s.dw = data.length) (hlen : data.length ≤ 4000) (hb : s.body = if inl then [] else data) :
    Fd Tryz.prog 43 #[ptrV s.wg] [WP s, NodesP l] .nilIface [WP { s with body := if inl then [] else padB data, cur := none, dw := 0, dm := 0 }, NodesP (l.set k (fileF d gF inl data))] := by
  by_cases h0 : data = []
  · subst h0
    have e1 : fileN d gF inl ([] : List UInt8).length [] = fileF d gF inl [] := by cases inl <;> rfl
    rw [e1] at hx
    rw [set_same hx]
    have h := (finishE_w s gF hc h2 h1).frame (L := [WP s, NodesP l]) (N := [WP { s with cur := none, dw := 0, dm := 0 }, NodesP l])
    have e2 : s.body = if inl then [] else padB [] := by rw [hb]; cases inl <;> rfl
    rw [← e2]
    exact h
  · have hpos : 0 < data.length := by
      cases data with
      | nil => exact absurd rfl h0
      | cons a r => simp
    cases inl with
    | true =>
      have e1 : fileN d gF true data.length data = fileF d gF true data := by unfold fileF fileN; simp
      rw [e1] at hx
      have h : Fd Tryz.prog 43 #[ptrV s.wg] [WP s, NodesP l] .nilIface [WP { s with cur := none, dw := 0, dm := 0 }, NodesP (l.set k (fileF d gF true data))] := by
        refine y_fn (NodesP.open hx) fun _ _ => ?_
        exact ((finishI_w s (fileF d gF true data) hc (by omega) (by omega) (by show 268697600 &&& 268435456 ≠ 0; decide) (by show 268697600 < 4294967296; decide)).frame (L := [NodeP (fileF d gF true data), NodesP (l.eraseIdx k), WP s])).close (NodesP.close (fileF d gF true data) (List.getElem?_eq_some_iff.1 hx).1)
      have e2 : s.body = [] := hb
      rw [show (if true = true then [] else padB data) = s.body from e2.symm]
      exact h
    | false =>
      have h := finishXN_w s l k _ hx hc (by omega) (by omega) (by show 262144 &&& 268435456 = 0; decide) (by show 262144 < 4294967296; decide) (by omega) (by rw [hb]; show s.dw ≤ data.length; omega) (by rw [hb]; show (data.length - s.dw) % 4096 = 0; omega) (by rw [hb]; show data.length ≤ 900000000; omega) (by show 0 ≤ 1000; omega)
      have e2 : s.body = data := hb
      rw [e2, h2] at h
      rw [show (if false = true then [] else padB data) = padB data from rfl]
      have e3 : (data.length + 4095) / 4096 = 1 := by omega
      rw [e3, Nat.sub_self] at h
      have e4 : ({ fileN d gF false data.length data with data := extB (2 + 0 / 4096) 1, flags := (fileN d gF false data.length data).flags ||| 524288, blks := (fileN d gF false data.length data).blks + 1 } : Nd) = fileF d gF false data := by
        unfold fileF fileN
        simp [h0]
      rw [← e4]
      exact h
def finL : Nat → Nd → List Nd → List Nd
  | b, y, [] => [finX y b]
  | b, y, x :: r => finX y b :: finL (b + 1) { x with size := 4096 } r
theorem unfL_last : ∀ (r : List Nd) (b : Nat) (y : Nd), y.flags = 262144 → y.blks = 0 → (∀ x ∈ r, x.flags = 262144 ∧ x.blks = 0) → ∃ A z, unfL b y r = A ++ [z] ∧ A.length = r.length ∧ some z.g = (y :: r).getLast?.map (·.g) ∧ z.flags = 262144 ∧ z.blks = 0 ∧ A ++ [finX z (b + r.length)] = finL b y r
  | [], b, y, h1, h2, _ => ⟨[], y, rfl, rfl, rfl, h1, h2, rfl⟩
  | x :: r, b, y, h1, h2, h3 => by
    obtain ⟨A, z, a1, a2, a3, a4, a5, a6⟩ := unfL_last r (b + 1) { x with size := 4096 } (h3 x (by simp)).1 (h3 x (by simp)).2 (fun z hz => h3 z (by simp [hz]))
    refine ⟨finX y b :: A, z, by rw [unfL, a1]; rfl, by simp [a2], ?_, a4, a5, ?_⟩
    · rw [a3]
      cases r <;> simp
    · rw [finL, ← a6, List.cons_append, List.length_cons, show b + (r.length + 1) = b + 1 + r.length by omega]
theorem finL_g : ∀ (r : List Nd) (b : Nat) (y : Nd), (finL b y r).map (·.g) = (y :: r).map (·.g)
  | [], b, y => rfl
  | x :: r, b, y => by rw [finL, List.map_cons, finL_g r]; rfl
theorem chN_g (md ui gi : Nat) : ∀ (its : List (List UInt8 × Nat)) (num : Nat), (chN md ui gi num its).map (·.g) = its.dropLast.map (·.2)
  | [], _ => rfl
  | [_], _ => rfl
  | (c, g) :: (c', g') :: r, num => by
    have := chN_g md ui gi ((c', g') :: r) (num + 1)
    rw [chN, List.map_cons, this]; rfl
theorem chN_flags (md ui gi : Nat) : ∀ (its : List (List UInt8 × Nat)) (num : Nat), ∀ x ∈ chN md ui gi num its, x.flags = 262144 ∧ x.blks = 0
  | [], _ => by simp [chN]
  | [_], _ => by simp [chN]
  | (c, g) :: (c', g') :: r, num => by
    intro x hx
    rw [chN] at hx
    rcases List.mem_cons.1 hx with rfl | hx
    · exact ⟨rfl, rfl⟩
    · exact chN_flags md ui gi ((c', g') :: r) (num + 1) x hx
theorem curC_last (md ui gi : Nat) : ∀ (its : List (List UInt8 × Nat)) (num : Nat) (q p : List UInt8 × Nat), ((chN md ui gi num (q :: p :: its)).getLast?.map (·.g)) = some (curC (q :: p :: its))
  | [], num, (c, g), (c', g') => by simp [chN, curC]
  | (c2, g2) :: its, num, (c, g), (c', g') => by
    have := curC_last md ui gi its (num + 1) (c', g') (c2, g2)
    have h1 : curC ((c, g) :: (c', g') :: (c2, g2) :: its) = curC ((c', g') :: (c2, g2) :: its) := by simp [curC]
    rw [h1, ← this]
    simp [chN]
def xtN (x : Nd) : Nd := { x with xin := xinT x }
theorem TWt_list : ∀ (l A : List Nd), (∀ x ∈ l, InoOk x) → TWt (l.map fun x => some x.g) (A ++ l) (l.flatMap inoB) (A ++ l.map xtN)
  | [], A, _ => .nil
  | x :: l, A, h => by
    have ih := TWt_list l (A ++ [xtN x]) (fun y hy => h y (by simp [hy]))
    simp only [List.append_assoc, List.cons_append, List.nil_append] at ih
    refine TWt.yes (j := A.length) (x := x) (by simp) (h x (by simp)) ?_
    have e : (A ++ x :: l).set A.length { x with xin := xinT x } = A ++ xtN x :: l := by
      rw [List.set_append_right _ _ (by omega)]; simp [xtN]
    rw [e]
    exact ih
theorem inoB_cg {x y : Nd} (h1 : x.mode = y.mode) (h2 : x.uid = y.uid) (h3 : x.gid = y.gid) (h4 : x.links = y.links) (h5 : x.blks = y.blks) (h6 : x.flags = y.flags) (h7 : x.size = y.size) (h8 : x.data = y.data) (h9 : x.xin = y.xin) : inoB x = inoB y := by
  unfold inoB xinT
  unfold inoF
  rw [h1, h2, h3, h4, h5, h6, h7, h8, h9]
def dirI (md ui gi lk b : Nat) : List UInt8 := inoB ⟨0, 0, md, ui, gi, lk, 1, 786432, 4096, extB b 1, [], none⟩
def tbC (md ui gi : Nat) : Nat → List (List UInt8) → List UInt8
  | _, [] => []
  | _, [_] => []
  | b, _ :: c :: r => dirI md ui gi (if r = [] then 2 else 3) b ++ tbC md ui gi (b + 1) (c :: r)
theorem tbC_eq (md ui gi : Nat) : ∀ (its : List (List UInt8 × Nat)) (num b : Nat) (y : Nd), (finL b y (chN md ui gi num its)).flatMap inoB = inoB (finX y b) ++ tbC md ui gi (b + 1) (its.map (·.1))
  | [], num, b, y => by simp [chN, finL, tbC]
  | [_], num, b, y => by simp [chN, finL, tbC]
  | (c, g) :: (c', g') :: r, num, b, y => by
    have h := tbC_eq md ui gi ((c', g') :: r) (num + 1) (b + 1) ⟨g, num, md, ui, gi, if r = [] then 2 else 3, 0, 262144, 4096, [], [], some [(c', g')]⟩
    have e : inoB (finX ⟨g, num, md, ui, gi, if r = [] then 2 else 3, 0, 262144, 4096, [], [], some [(c', g')]⟩ (b + 1)) = dirI md ui gi (if r.map (·.1) = [] then 2 else 3) (b + 1) := by
      unfold dirI
      have hr : (r.map (·.1) = []) = (r = []) := by simp
      simp only [hr]
      exact inoB_cg rfl rfl rfl rfl rfl rfl rfl rfl rfl
    rw [e] at h
    rw [chN, finL, List.flatMap_cons]
    exact congrArg (inoB (finX y b) ++ ·) h
theorem find_nd {l : List Nd} (h : (l.map (·.g)).Nodup) {x : Nd} (hx : x ∈ l) : l.find? (fun y => decide (y.g = x.g)) = some x := by
  induction l with
  | nil => simp at hx
  | cons y l ih =>
    rw [List.map_cons, List.nodup_cons] at h
    rcases List.mem_cons.1 hx with rfl | hx
    · simp
    · have hne : ¬ y.g = x.g := fun e => h.1 (by rw [e]; exact List.mem_map.2 ⟨x, hx, rfl⟩)
      rw [List.find?_cons, decide_eq_false hne]
      exact ih h.2 hx
theorem cnt_lt (k : Nat) : ∀ n, cntN (fun j => decide (j < k)) n = min n k
  | 0 => by simp [cntN]
  | n + 1 => by
    rw [cntN, cnt_lt k n]
    by_cases h : n < k
    · rw [decide_eq_true h]; simp [b2n]; omega
    · rw [decide_eq_false h]; simp [b2n]; omega
theorem cnt_dir (d : Nat) : ∀ n, cntN (fun j => decide (j = 1 ∨ 10 ≤ j ∧ j < 11 + d)) n = (if 1 < n then 1 else 0) + (min n (11 + d) - 10)
  | 0 => by simp [cntN]
  | n + 1 => by
    rw [cntN, cnt_dir d n]
    by_cases h : n = 1 ∨ 10 ≤ n ∧ n < 11 + d
    · rw [decide_eq_true h]; simp only [b2n, if_true]; split <;> split <;> omega
    · rw [decide_eq_false h]; simp only [b2n, Bool.false_eq_true, if_false]; split <;> split <;> omega
theorem ids_get (wg dg : Nat) (il : Bool) (g2 g11 : Nat) (gs : List Nat) (gF : Nat) (i : Nat) : getI ((ws1 wg dg il g2 g11).ids ++ gs.map some ++ [some gF]) (12 + i) = (gs ++ [gF])[i]? := by
  unfold getI
  rw [if_neg (by omega), List.append_assoc, List.getElem?_append_right (by simp only [List.length_cons, List.length_nil]; omega)]
  rw [show 12 + i - 1 - (ws1 wg dg il g2 g11).ids.length = i by simp only [List.length_cons, List.length_nil]; omega]
  rw [show gs.map some ++ [some gF] = (gs ++ [gF]).map some by simp, List.getElem?_map]
  cases (gs ++ [gF])[i]? <;> rfl
theorem ids_low (wg dg : Nat) (il : Bool) (g2 g11 : Nat) (gs : List Nat) (gF : Nat) (j : Nat) (h : j < 10) (h1 : j ≠ 1) : getI ((ws1 wg dg il g2 g11).ids ++ gs.map some ++ [some gF]) (1 + j) = none := by
  have : j = 0 ∨ j = 2 ∨ j = 3 ∨ j = 4 ∨ j = 5 ∨ j = 6 ∨ j = 7 ∨ j = 8 ∨ j = 9 := by omega
  rcases this with rfl | rfl | rfl | rfl | rfl | rfl | rfl | rfl | rfl <;> rfl
theorem ids_inB (wg dg : Nat) (il : Bool) (g2 g11 : Nat) (gs : List Nat) (gF : Nat) (j : Nat) : inB ((ws1 wg dg il g2 g11).ids ++ gs.map some ++ [some gF]) j = decide (j < 12 + gs.length) := by
  unfold inB
  by_cases h : 1 + j < 11
  · rw [decide_eq_true h, decide_eq_true (by omega)]; rfl
  · rw [decide_eq_false h, Bool.false_or]
    by_cases h10 : j = 10
    · subst h10
      rw [decide_eq_true (by omega)]; rfl
    · obtain ⟨i, rfl⟩ : ∃ i, j = 11 + i := ⟨j - 11, by omega⟩
      rw [show 1 + (11 + i) = 12 + i by omega, ids_get]
      by_cases hi : i < (gs ++ [gF]).length
      · rw [List.getElem?_eq_getElem hi, decide_eq_true (by simp at hi; omega)]; rfl
      · rw [List.getElem?_eq_none (by omega), decide_eq_false (by simp at hi; omega)]; rfl
theorem ids_drB (wg dg : Nat) (il : Bool) (g2 g11 : Nat) (gs : List Nat) (gF : Nat) (mf : Nat → Nat) (h2 : mf g2 &&& 61440 = 16384) (h11 : mf g11 &&& 61440 = 16384) (hgs : ∀ g ∈ gs, mf g &&& 61440 = 16384) (hF : mf gF &&& 61440 ≠ 16384) (j : Nat) :
    drB mf ((ws1 wg dg il g2 g11).ids ++ gs.map some ++ [some gF]) j = decide (j = 1 ∨ 10 ≤ j ∧ j < 11 + gs.length) := by
  unfold drB
  by_cases h1 : j = 1
  · subst h1
    rw [show getI ((ws1 wg dg il g2 g11).ids ++ gs.map some ++ [some gF]) (1 + 1) = some g2 from rfl]
    dsimp only
    rw [decide_eq_true h2, decide_eq_true (.inl rfl)]
  by_cases h9 : j < 10
  · rw [ids_low wg dg il g2 g11 gs gF j h9 h1, decide_eq_false (by omega)]
  by_cases h10 : j = 10
  · subst h10
    rw [show getI ((ws1 wg dg il g2 g11).ids ++ gs.map some ++ [some gF]) (1 + 10) = some g11 from rfl]
    dsimp only
    rw [decide_eq_true h11, decide_eq_true (by omega)]
  obtain ⟨i, rfl⟩ : ∃ i, j = 11 + i := ⟨j - 11, by omega⟩
  rw [show 1 + (11 + i) = 12 + i by omega, ids_get]
  by_cases hi : i < gs.length
  · rw [List.getElem?_append_left hi, List.getElem?_eq_getElem hi]
    dsimp only
    rw [decide_eq_true (hgs _ (List.getElem_mem hi)), decide_eq_true (by omega)]
  · rw [List.getElem?_append_right (by omega)]
    by_cases he : i = gs.length
    · subst he
      rw [Nat.sub_self]
      show decide (mf gF &&& 61440 = 16384) = _
      rw [decide_eq_false hF, decide_eq_false (by omega)]
    · rw [List.getElem?_eq_none (by simp; omega), decide_eq_false (by omega)]
def blkD (inl : Bool) (data : List UInt8) : Nat := if inl = false ∧ data ≠ [] then 1 else 0
def bodyD (inl : Bool) (data : List UInt8) : List UInt8 := if inl then [] else padB data
theorem bodyD_len (inl : Bool) (data : List UInt8) (h : data.length ≤ 4000) : (bodyD inl data).length = blkD inl data * 4096 := by
  unfold bodyD blkD
  cases inl with
  | true => simp
  | false =>
    by_cases h0 : data = []
    · subst h0; rfl
    · have hpos : 0 < data.length := by
        cases data with
        | nil => exact absurd rfl h0
        | cons a r => simp
      rw [if_neg (by decide), if_pos ⟨rfl, h0⟩, padB_len]; omega
def tbD (md ui gi : Nat) (names : List (List UInt8)) (inl : Bool) (data : List UInt8) : List UInt8 :=
  List.replicate 256 0 ++ (dirI md ui gi (if names.length ≤ 1 then 3 else 4) (2 + blkD inl data) ++ (List.replicate 2048 0 ++ (dirI 16832 0 0 2 (3 + blkD inl data) ++ (tbC md ui gi (4 + blkD inl data) names ++ inoB (fileF (names.length - 1) 0 inl data)))))
def dsD (names : List (List UInt8)) : List UInt8 := rootB (names.headD []) (decide (names.length ≤ 1)) ++ lfB ++ bytesC 2 12 names
def itD (n m : Nat) : Nat := 3 + m + n
def imgD (il : Bool) (md ui gi : Nat) (names : List (List UInt8)) (inl : Bool) (data : List UInt8) : List UInt8 :=
  let n := names.length
  let it := itD n (blkD inl data)
  let pi := up16 (11 + n)
  sblkB pi (it + pi / 16 + 2) 0 (pi - (11 + n)) pi (if il then 33346 else 578) ++ gdB (it + pi / 16) (it + pi / 16 + 1) it 0 (pi - (11 + n)) (n + 1) ++
    (bodyD inl data ++ dsD names ++ tbD md ui gi names inl data ++ List.replicate (pi * 256 - (11 + n) * 256) 0 ++ bm (fun _ => true) 4096 ++ bm (fun j => decide (j < 11 + n)) 4096)
theorem finL_len : ∀ (r : List Nd) (b : Nat) (y : Nd), (finL b y r).length = r.length + 1
  | [], b, y => rfl
  | x :: r, b, y => by rw [finL, List.length_cons, finL_len r]; rfl
theorem finL_ok : ∀ (r : List Nd) (b : Nat) (y : Nd), b + r.length < 100000 → (∀ x ∈ y :: r, x.mode < 65536 ∧ x.mode &&& 61440 = 16384 ∧ x.uid < 4294967296 ∧ x.gid < 4294967296 ∧ x.size ≤ 4096 ∧ x.links < 65536 ∧ x.xin = []) → ∀ x ∈ finL b y r, InoOk x ∧ x.mode &&& 61440 = 16384
  | [], b, y, hb, h, x, hx => by
    have hx' : x = finX y b := by simpa [finL] using hx
    subst hx'
    obtain ⟨h1, h2, h3, h4, h5, h6, h7⟩ := h y (by simp)
    exact ⟨⟨h1, .inl h2, h3, h4, by show y.size < 1000000000000; omega, h6, by show 1 < 4294967296; decide, by show 786432 < 4294967296; decide, by show (extB b 1).length ≤ 136; rw [extB_len]; omega, .inr ⟨h7, by show (extB b 1).length ≤ 60; rw [extB_len]; omega⟩⟩, h2⟩
  | z :: r, b, y, hb, h, x, hx => by
    rw [finL] at hx
    rcases List.mem_cons.1 hx with rfl | hx
    · obtain ⟨h1, h2, h3, h4, h5, h6, h7⟩ := h y (by simp)
      exact ⟨⟨h1, .inl h2, h3, h4, by show y.size < 1000000000000; omega, h6, by show 1 < 4294967296; decide, by show 786432 < 4294967296; decide, by show (extB b 1).length ≤ 136; rw [extB_len]; omega, .inr ⟨h7, by show (extB b 1).length ≤ 60; rw [extB_len]; omega⟩⟩, h2⟩
    · refine finL_ok r (b + 1) { z with size := 4096 } (by simp at hb; omega) (fun w hw => ?_) x hx
      rcases List.mem_cons.1 hw with rfl | hw
      · obtain ⟨h1, h2, h3, h4, h5, h6, h7⟩ := h z (by simp)
        exact ⟨h1, h2, h3, h4, by show 4096 ≤ 4096; omega, h6, h7⟩
      · exact h w (by simp [hw])
theorem chN_ok (md ui gi : Nat) (hmd : md &&& 61440 = 16384) (hmd2 : md < 65536) (hui : ui < 4294967296) (hgi : gi < 4294967296) : ∀ (its : List (List UInt8 × Nat)) (num : Nat), ∀ x ∈ chN md ui gi num its, x.mode < 65536 ∧ x.mode &&& 61440 = 16384 ∧ x.uid < 4294967296 ∧ x.gid < 4294967296 ∧ x.size ≤ 4096 ∧ x.links < 65536 ∧ x.xin = []
  | [], _ => by simp [chN]
  | [_], _ => by simp [chN]
  | (c, g) :: (c', g') :: r, num => by
    intro x hx
    rw [chN] at hx
    rcases List.mem_cons.1 hx with rfl | hx
    · exact ⟨hmd2, hmd, hui, hgi, by show 0 ≤ 4096; omega, by dsimp only; split <;> omega, rfl⟩
    · exact chN_ok md ui gi hmd hmd2 hui hgi ((c', g') :: r) (num + 1) x hx
theorem bytesC_len : ∀ (names : List (List UInt8)) (par num : Nat), (∀ c ∈ names, c.length ≤ 255) → (bytesC par num names).length = (names.length - 1) * 4096
  | [], _, _, _ => rfl
  | [_], _, _, _ => rfl
  | c :: c' :: r, par, num, h => by
    have h1 := h c' (by simp)
    rw [bytesC, List.length_append, bytesC_len (c' :: r) num (num + 1) (fun z hz => h z (by simp at hz ⊢; exact .inr hz)), dirB_fit _ _ (by simp [rlN]; omega)]
    simp only [List.length_cons]; omega
theorem dsD_len (names : List (List UInt8)) (h0 : names ≠ []) (h : ∀ c ∈ names, c.length ≤ 255) : (dsD names).length = (names.length + 1) * 4096 := by
  unfold dsD
  cases names with
  | nil => exact absurd rfl h0
  | cons c r =>
    rw [List.length_append, List.length_append, lfB_len, bytesC_len _ _ _ h, rootB_len _ _ (by simpa using h c (by simp))]
    simp only [List.length_cons]; omega
end Go.Proofs.YtcdalfhkhifplaaGreatDoor
namespace Go.Proofs.YtcdalfhkhifplaaGreatDoor
open Go
set_option maxRecDepth 100000
set_option maxHeartbeats 1000000
attribute [local irreducible] E EO
theorem rep2 (a b : Nat) (X : List UInt8) : List.replicate a (0 : UInt8) ++ (List.replicate b 0 ++ X) = List.replicate (a + b) 0 ++ X := by
  rw [← List.append_assoc, List.replicate_append_replicate]
theorem fileF_ok (d gF : Nat) (inl : Bool) (data : List UInt8) (h : data.length ≤ 4000) (hi : inl = true → data.length ≤ 136) : InoOk (fileF d gF inl data) := by
  refine ⟨by show 32768 < 65536; decide, .inr (by show 32768 &&& 61440 = 32768; decide), by show 0 < 4294967296; decide, by show 0 < 4294967296; decide, by show data.length < 1000000000000; omega, by show 1 < 65536; decide, by unfold fileF; dsimp only; split <;> omega, by unfold fileF; dsimp only; (repeat' split) <;> decide, ?_, ?_⟩
  · unfold fileF
    dsimp only
    cases inl with
    | true => rw [if_pos rfl]; exact hi rfl
    | false =>
      rw [if_neg (by decide)]
      split
      · simp
      · rw [extB_len]; omega
  · unfold fileF
    dsimp only
    cases inl with
    | true =>
      have := hi rfl
      rw [if_pos rfl, if_pos rfl]
      exact .inl (xinB_len _ (by rw [List.length_replicate]; omega))
    | false =>
      rw [if_neg (by decide), if_neg (by decide)]
      refine .inr ⟨rfl, ?_⟩
      split
      · simp
      · rw [extB_len]; omega
theorem TWt_deep (wg dg : Nat) (il : Bool) (g2 g11 : Nat) (gs : List Nat) (gF : Nat) (x : Nd) (T : List Nd) (hx : x.g = g2) (ok : ∀ y ∈ x :: T, InoOk y) (hT : T.map (fun y => some y.g) = some g11 :: (gs.map some ++ [some gF])) :
    TWt ((ws1 wg dg il g2 g11).ids ++ gs.map some ++ [some gF]) (x :: T) (List.replicate 256 0 ++ (inoB x ++ (List.replicate 2048 0 ++ T.flatMap inoB))) (xtN x :: T.map xtN) := by
  have h := TWt_list T [xtN x] (fun y hy => ok y (by simp [hy]))
  rw [hT] at h
  have e : (ws1 wg dg il g2 g11).ids ++ gs.map some ++ [some gF] = none :: some x.g :: none :: none :: none :: none :: none :: none :: none :: none :: some g11 :: (gs.map some ++ [some gF]) := by
    rw [hx]; rfl
  rw [e]
  have e2 : List.replicate 2048 0 ++ T.flatMap inoB = List.replicate 256 0 ++ (List.replicate 256 0 ++ (List.replicate 256 0 ++ (List.replicate 256 0 ++ (List.replicate 256 0 ++ (List.replicate 256 0 ++ (List.replicate 256 0 ++ (List.replicate 256 0 ++ T.flatMap inoB))))))) := by
    simp only [rep2]
  rw [e2]
  exact .no (.yes (j := 0) (x := x) rfl (ok x (by simp)) (.no (.no (.no (.no (.no (.no (.no (.no h)))))))))
theorem flat_len : ∀ (l : List Nd), (∀ x ∈ l, InoOk x) → (l.flatMap inoB).length = l.length * 256
  | [], _ => rfl
  | x :: l, h => by
    rw [List.flatMap_cons, List.length_append, flat_len l (fun y hy => h y (by simp [hy])), inoB_len (h x (by simp)).xl (h x (by simp)).dl, List.length_cons]; omega
def mfL (l : List Nd) (a : Nat) : Nat := ((l.find? (fun x => decide (x.g = a))).map (·.mode)).getD 0
theorem mfL_nd {l : List Nd} (h : (l.map (·.g)).Nodup) {x : Nd} (hx : x ∈ l) : mfL l x.g = x.mode := by
  unfold mfL
  rw [find_nd h hx]; rfl
theorem deepClose (wg dg : Nat) (il : Bool) (md ui gi : Nat) (hmd : md &&& 61440 = 16384) (hmd2 : md < 65536) (hui : ui < 4294967296) (hgi : gi < 4294967296) (ds : List (List UInt8)) (e nm : List UInt8) (hlen : ds.length ≤ 99) (hnl : ∀ c ∈ ds ++ [e], c.length ≤ 255) (hn : ∀ c ∈ (ds ++ [e]).head?, c ≠ lfN)
    (data : List UInt8) (hdl : data.length ≤ 4000) (inl : Bool) (hinl : inl = true → data.length ≤ 136) :
    Fd Tryz.prog 34 #[ptrV wg] [SB wg dg il md ui gi ds e nm inl data.length data.length data (if inl then [] else data)] .nilIface
      [DiskP dg ((itD (ds ++ [e]).length (blkD inl data) + up16 (11 + (ds ++ [e]).length) / 16 + 2) * 4096) (imgD il md ui gi (ds ++ [e]) inl data)] := by
  refine y_fn (SB_out wg dg il md ui gi ds e nm inl data.length data.length data (if inl then [] else data)) fun i hi => ?_
  obtain ⟨g2, g11, gs, gF⟩ := i
  dsimp only at hi ⊢
  refine y_fn (NodesP.nd (dp3 md ui gi g2 g11 (ds.zip gs ++ [(e, gF)]) ++ [fileN ds.length gF inl data.length data])) fun _ hnd => ?_
  obtain ⟨q, r, hqr⟩ : ∃ q r, ds.zip gs ++ [(e, gF)] = q :: r := by
    cases h : ds.zip gs ++ [(e, gF)] with
    | nil => simp at h
    | cons q r => exact ⟨q, r, rfl⟩
  have hn1 : (q :: r).map (·.1) = ds ++ [e] := by
    rw [← hqr, List.map_append, List.map_fst_zip (by omega)]; rfl
  have hn2 : (q :: r).map (·.2) = gs ++ [gF] := by
    rw [← hqr, List.map_append, List.map_snd_zip (by omega)]; rfl
  have hrl : r.length = ds.length := by
    have := congrArg List.length hn1
    simp at this; omega
  rw [hqr] at hnd ⊢
  have hrle : ((q :: r).length ≤ 1) = (r = []) := by
    simp
  have hl0 : dp3 md ui gi g2 g11 (q :: r) ++ [fileN ds.length gF inl data.length data] = rtN md ui gi g2 (if r = [] then 3 else 4) g11 0 q :: lfNd g11 :: (chN md ui gi 12 (q :: r) ++ [fileN ds.length gF inl data.length data]) := by
    unfold dp3
    simp only [hrle]
    rfl
  rw [hl0] at hnd ⊢
  have hchl : (chN md ui gi 12 (q :: r)).length = r.length := by rw [chN_len]; simp
  have hx : (rtN md ui gi g2 (if r = [] then 3 else 4) g11 0 q :: lfNd g11 :: (chN md ui gi 12 (q :: r) ++ [fileN ds.length gF inl data.length data]))[2 + r.length]? = some (fileN ds.length gF inl data.length data) := by
    rw [show 2 + r.length = (chN md ui gi 12 (q :: r)).length + 1 + 1 by omega]
    simp
  have h1 := finF_w (wsB wg dg il ⟨g2, g11, gs, gF⟩ nm data.length data.length (if inl then [] else data)) _ _ _ _ inl data hx rfl rfl rfl hdl rfl
  have hset : (rtN md ui gi g2 (if r = [] then 3 else 4) g11 0 q :: lfNd g11 :: (chN md ui gi 12 (q :: r) ++ [fileN ds.length gF inl data.length data])).set (2 + r.length) (fileF ds.length gF inl data) = rtN md ui gi g2 (if r = [] then 3 else 4) g11 0 q :: lfNd g11 :: (chN md ui gi 12 (q :: r) ++ [fileF ds.length gF inl data]) := by
    rw [show 2 + r.length = (chN md ui gi 12 (q :: r)).length + 1 + 1 by omega]
    simp
  rw [hset] at h1
  have hit : ∀ i p, (q :: r)[i]? = some p → getI ((ws1 wg dg il g2 g11).ids ++ gs.map some ++ [some gF]) (12 + i) = some p.2 ∧ p.1.length ≤ 255 := by
    intro i p hp
    refine ⟨?_, hnl p.1 (hn1 ▸ List.mem_map.2 ⟨p, List.mem_of_getElem? hp, rfl⟩)⟩
    rw [ids_get, ← hn2, List.getElem?_map, hp]; rfl
  have hlast : (q :: r).getLast?.map (·.2) = some gF := by
    rw [← List.getLast?_map, hn2]; simp
  have hidl : ((ws1 wg dg il g2 g11).ids ++ gs.map some ++ [some gF]).length = 12 + ds.length := by
    simp only [List.length_append, List.length_map, List.length_cons, List.length_nil, hi]; omega
  have hmapg : (rtN md ui gi g2 (if r = [] then 3 else 4) g11 0 q :: lfNd g11 :: (chN md ui gi 12 (q :: r) ++ [fileN ds.length gF inl data.length data])).map (·.g) = g2 :: g11 :: (gs ++ [gF]) := by
    simp only [List.map_cons, List.map_append, List.map_nil, chN_g]
    have h5 : (q :: r).dropLast.map (·.2) = gs := by
      rw [List.map_dropLast, hn2]; simp
    rw [h5]
  rw [hmapg] at hnd
  have hq2 : q.2 ∈ gs ++ [gF] := by rw [← hn2]; simp
  have hne : q.2 ≠ g11 := fun h => by
    have h6 := (List.nodup_cons.1 (List.nodup_cons.1 hnd).2).1
    rw [h] at hq2
    exact h6 hq2
  have hbl := bodyD_len inl data hdl
  have hm1 : blkD inl data ≤ 1 := by unfold blkD; split <;> omega
  have hnm : q.1 ≠ lfN := hn q.1 (by rw [← hn1]; rfl)
  have hwr := deep_wr wg md ui gi g2 g11 (r.length + 2) hmd hmd2 (fileF ds.length gF inl data) rfl (if r = [] then 3 else 4) q r { wsB wg dg il ⟨g2, g11, gs, gF⟩ nm data.length data.length (if inl then [] else data) with body := if inl then [] else padB data, cur := none, dw := 0, dm := 0 } (blkD inl data) (by omega) rfl rfl hbl (by omega) (by show ((ws1 wg dg il g2 g11).ids ++ gs.map some ++ [some gF]).length ≤ 100000000; omega) rfl rfl hit hne hnm hlast (by show 12 + ds.length = 12 + r.length; omega)
  obtain ⟨A, z, a1, a2, a3, a4, a5, a6⟩ := unfL_last (lfNd g11 :: chN md ui gi 12 (q :: r)) (2 + blkD inl data) (rtN md ui gi g2 (if r = [] then 3 else 4) g11 4096 q) rfl rfl (fun x hx => by
    rcases List.mem_cons.1 hx with rfl | hx
    · exact ⟨rfl, rfl⟩
    · exact chN_flags md ui gi (q :: r) 12 x hx)
  have hcur : (if r = [] then g11 else curC (q :: r)) = z.g := by
    have h7 : some z.g = some (if r = [] then g11 else curC (q :: r)) := by
      rw [a3]
      cases r with
      | nil => rw [if_pos rfl]; rfl
      | cons p r' =>
        have h8 : (if p :: r' = [] then g11 else curC (q :: p :: r')) = curC (q :: p :: r') := if_neg (List.cons_ne_nil _ _)
        rw [h8, ← curC_last md ui gi r' 12 q p]
        simp [chN]
    exact (Option.some.inj h7).symm
  rw [a1, hcur] at hwr
  have hcl : ∀ c ∈ q.1 :: r.map (·.1), c.length ≤ 255 := by
    rw [show q.1 :: r.map (·.1) = (q :: r).map (·.1) from rfl, hn1]; exact hnl
  have hr0 : decide (r = []) = decide ((ds ++ [e]).length ≤ 1) := by
    rw [← hn1, List.length_map]
    simp only [hrle]
  have hds : (if inl then [] else padB data) ++ rootB q.1 (decide (r = [])) ++ lfB ++ bytesC 2 12 (q.1 :: r.map (·.1)) = bodyD inl data ++ dsD (ds ++ [e]) := by
    unfold dsD bodyD
    rw [hr0, ← hn1]
    simp only [List.append_assoc, List.map_cons, List.headD_cons]
  have hbl2 : (bodyD inl data ++ dsD (ds ++ [e])).length = (blkD inl data + (ds.length + 2)) * 4096 := by
    rw [List.length_append, hbl, dsD_len _ (by simp) hnl]
    simp only [List.length_append, List.length_cons, List.length_nil]; omega
  rw [hds] at hwr
  have hzx : (A ++ [z] ++ [fileF ds.length gF inl data])[A.length]? = some z := by simp
  have h3 := finD_w { wsB wg dg il ⟨g2, g11, gs, gF⟩ nm data.length data.length (if inl then [] else data) with body := bodyD inl data ++ dsD (ds ++ [e]), cname := ⟨#[]⟩, cur := some z.g, dw := 4096, dm := 4096 } (A ++ [z] ++ [fileF ds.length gF inl data]) A.length z (blkD inl data + (ds.length + 1)) hzx rfl rfl rfl a4 a5 (by show (bodyD inl data ++ dsD (ds ++ [e])).length = _; rw [hbl2]; omega) (by omega)
  have hset3 : (A ++ [z] ++ [fileF ds.length gF inl data]).set A.length (finX z (2 + (blkD inl data + (ds.length + 1)))) = finL (2 + blkD inl data) (rtN md ui gi g2 (if r = [] then 3 else 4) g11 4096 q) (lfNd g11 :: chN md ui gi 12 (q :: r)) ++ [fileF ds.length gF inl data] := by
    rw [← a6, List.append_assoc, List.set_append_right _ _ (by omega)]
    simp only [Nat.sub_self, List.cons_append, List.nil_append, List.set_cons_zero, List.length_cons, hchl, hrl, List.append_assoc]
    rw [show 2 + (blkD inl data + (ds.length + 1)) = 2 + blkD inl data + (ds.length + 1) by omega]
  rw [hset3] at h3
  have hchok := chN_ok md ui gi hmd hmd2 hui hgi (q :: r) 12
  have hlfok : (lfNd g11).mode < 65536 ∧ (lfNd g11).mode &&& 61440 = 16384 ∧ (lfNd g11).uid < 4294967296 ∧ (lfNd g11).gid < 4294967296 ∧ (lfNd g11).size ≤ 4096 ∧ (lfNd g11).links < 65536 ∧ (lfNd g11).xin = [] := ⟨by show 16832 < 65536; decide, by show 16832 &&& 61440 = 16384; decide, by show 0 < 4294967296; decide, by show 0 < 4294967296; decide, by show 0 ≤ 4096; decide, by show 2 < 65536; decide, rfl⟩
  have hok := finL_ok (lfNd g11 :: chN md ui gi 12 (q :: r)) (2 + blkD inl data) (rtN md ui gi g2 (if r = [] then 3 else 4) g11 4096 q) (by rw [List.length_cons, hchl]; omega) (fun x hx => by
    rcases List.mem_cons.1 hx with rfl | hx
    · exact ⟨hmd2, hmd, hui, hgi, by show 4096 ≤ 4096; decide, by show (if r = [] then 3 else 4) < 65536; split <;> decide, rfl⟩
    rcases List.mem_cons.1 hx with rfl | hx
    · exact hlfok
    · exact hchok x hx)
  have hfok := fileF_ok ds.length gF inl data hdl hinl
  have hl3 : finL (2 + blkD inl data) (rtN md ui gi g2 (if r = [] then 3 else 4) g11 4096 q) (lfNd g11 :: chN md ui gi 12 (q :: r)) = finX (rtN md ui gi g2 (if r = [] then 3 else 4) g11 4096 q) (2 + blkD inl data) :: finL (2 + blkD inl data + 1) (lfNs g11) (chN md ui gi 12 (q :: r)) := rfl
  rw [hl3] at h3 hok
  rw [List.cons_append] at h3
  have hTg : (finL (2 + blkD inl data + 1) (lfNs g11) (chN md ui gi 12 (q :: r)) ++ [fileF ds.length gF inl data]).map (·.g) = g11 :: (gs ++ [gF]) := by
    rw [List.map_append, finL_g, List.map_cons, chN_g, List.map_dropLast, hn2]
    simp [fileF]
  have ht := TWt_deep wg dg il g2 g11 gs gF (finX (rtN md ui gi g2 (if r = [] then 3 else 4) g11 4096 q) (2 + blkD inl data)) (finL (2 + blkD inl data + 1) (lfNs g11) (chN md ui gi 12 (q :: r)) ++ [fileF ds.length gF inl data]) rfl (fun y hy => by
    rw [← List.cons_append] at hy
    rcases List.mem_append.1 hy with hy | hy
    · exact (hok y hy).1
    · rw [List.mem_singleton.1 hy]; exact hfok) (by
      exact (List.map_map (f := fun x : Nd => x.g) (g := some)).symm.trans ((congrArg (List.map some) hTg).trans (by simp)))
  have hndl : ((finX (rtN md ui gi g2 (if r = [] then 3 else 4) g11 4096 q) (2 + blkD inl data) :: (finL (2 + blkD inl data + 1) (lfNs g11) (chN md ui gi 12 (q :: r)) ++ [fileF ds.length gF inl data])).map (·.g)).Nodup := by
    rw [List.map_cons, hTg]; exact hnd
  have htb : List.replicate 256 0 ++ (inoB (finX (rtN md ui gi g2 (if r = [] then 3 else 4) g11 4096 q) (2 + blkD inl data)) ++ (List.replicate 2048 0 ++ (finL (2 + blkD inl data + 1) (lfNs g11) (chN md ui gi 12 (q :: r)) ++ [fileF ds.length gF inl data]).flatMap inoB)) = tbD md ui gi (ds ++ [e]) inl data := by
    have e1 : inoB (finX (rtN md ui gi g2 (if r = [] then 3 else 4) g11 4096 q) (2 + blkD inl data)) = dirI md ui gi (if (ds ++ [e]).length ≤ 1 then 3 else 4) (2 + blkD inl data) := by
      rw [← hn1, List.length_map]
      simp only [hrle]
      unfold dirI
      exact inoB_cg rfl rfl rfl rfl rfl rfl rfl rfl rfl
    have e2 : inoB (finX (lfNs g11) (2 + blkD inl data + 1)) = dirI 16832 0 0 2 (3 + blkD inl data) := by
      rw [show 3 + blkD inl data = 2 + blkD inl data + 1 by omega]
      unfold dirI
      exact inoB_cg rfl rfl rfl rfl rfl rfl rfl rfl rfl
    have e3 : inoB (fileF ds.length gF inl data) = inoB (fileF ((ds ++ [e]).length - 1) 0 inl data) := inoB_cg rfl rfl rfl rfl rfl rfl rfl rfl rfl
    rw [List.flatMap_append, tbC_eq, e1, e2, hn1]
    unfold tbD
    rw [show 4 + blkD inl data = 2 + blkD inl data + 1 + 1 by omega, ← e3]
    simp only [List.flatMap_cons, List.flatMap_nil, List.append_nil, List.append_assoc]
  rw [htb] at ht
  have htl : (tbD md ui gi (ds ++ [e]) inl data).length = (12 + ds.length) * 256 := by
    rw [← htb]
    have hT : ∀ y ∈ finL (2 + blkD inl data + 1) (lfNs g11) (chN md ui gi 12 (q :: r)) ++ [fileF ds.length gF inl data], InoOk y := by
      intro y hy
      rcases List.mem_append.1 hy with hy | hy
      · exact (hok y (by simp [hy])).1
      · rw [List.mem_singleton.1 hy]; exact hfok
    have hx0 := (hok (finX (rtN md ui gi g2 (if r = [] then 3 else 4) g11 4096 q) (2 + blkD inl data)) (by simp)).1
    rw [List.length_append, List.length_append, List.length_append, List.length_replicate, List.length_replicate, inoB_len hx0.xl hx0.dl, flat_len _ hT, List.length_append, finL_len, hchl]
    simp only [List.length_cons, List.length_nil]; omega
  have hmd3 : ∀ y ∈ finX (rtN md ui gi g2 (if r = [] then 3 else 4) g11 4096 q) (2 + blkD inl data) :: (finL (2 + blkD inl data + 1) (lfNs g11) (chN md ui gi 12 (q :: r)) ++ [fileF ds.length gF inl data]), InoOk y := by
    intro y hy
    rw [← List.cons_append] at hy
    rcases List.mem_append.1 hy with hy | hy
    · exact (hok y hy).1
    · rw [List.mem_singleton.1 hy]; exact hfok
  generalize hl3d : finX (rtN md ui gi g2 (if r = [] then 3 else 4) g11 4096 q) (2 + blkD inl data) :: (finL (2 + blkD inl data + 1) (lfNs g11) (chN md ui gi 12 (q :: r)) ++ [fileF ds.length gF inl data]) = l3 at *
  have hdir : ∀ a ∈ g2 :: g11 :: gs, mfL l3 a &&& 61440 = 16384 := by
    intro a ha
    have hg : (finX (rtN md ui gi g2 (if r = [] then 3 else 4) g11 4096 q) (2 + blkD inl data) :: finL (2 + blkD inl data + 1) (lfNs g11) (chN md ui gi 12 (q :: r))).map (·.g) = g2 :: g11 :: gs := by
      have h9 := hTg
      rw [List.map_append, List.map_cons, List.map_nil, ← List.cons_append] at h9
      have := (List.append_inj' h9 rfl).1
      rw [List.map_cons, this]; rfl
    rw [← hg] at ha
    obtain ⟨y, hy, rfl⟩ := List.mem_map.1 ha
    have hy3 : y ∈ l3 := by rw [← hl3d, ← List.cons_append]; exact List.mem_append.2 (.inl hy)
    rw [mfL_nd hndl hy3]
    exact (hok y hy).2
  have hfil : mfL l3 gF &&& 61440 ≠ 16384 := by
    have hy3 : fileF ds.length gF inl data ∈ l3 := by rw [← hl3d, ← List.cons_append]; exact List.mem_append.2 (.inr (by simp))
    have := mfL_nd hndl hy3
    rw [show (fileF ds.length gF inl data).g = gF from rfl, show (fileF ds.length gF inl data).mode = 32768 from rfl] at this
    rw [this]; decide
  have hl3g : l3.map (·.g) = g2 :: g11 :: (gs ++ [gF]) := by
    rw [← hl3d, List.map_cons, hTg]; rfl
  have hpi : up16 (11 + (ds ++ [e]).length) = up16 (12 + ds.length) := by
    rw [List.length_append, List.length_singleton]; congr 1; omega
  have hit0 : itD (ds ++ [e]).length (blkD inl data) = 4 + blkD inl data + ds.length := by
    unfold itD; rw [List.length_append, List.length_singleton]; omega
  have ht' : TWt ((ws1 wg dg il g2 g11).ids ++ gs.map some ++ [some gF]) l3 (tbD md ui gi (ds ++ [e]) inl data) (l3.map xtN) := by
    have e0 : l3.map xtN = xtN (finX (rtN md ui gi g2 (if r = [] then 3 else 4) g11 4096 q) (2 + blkD inl data)) :: (finL (2 + blkD inl data + 1) (lfNs g11) (chN md ui gi 12 (q :: r)) ++ [fileF ds.length gF inl data]).map xtN := by rw [← hl3d]; rfl
    rw [e0]
    exact ht
  have hcl := Close_fn (wsB wg dg il ⟨g2, g11, gs, gF⟩ nm data.length data.length (if inl then [] else data), rtN md ui gi g2 (if r = [] then 3 else 4) g11 0 q :: lfNd g11 :: (chN md ui gi 12 (q :: r) ++ [fileN ds.length gF inl data.length data]))
    ({ wsB wg dg il ⟨g2, g11, gs, gF⟩ nm data.length data.length (if inl then [] else data) with body := bodyD inl data ++ dsD (ds ++ [e]), cname := ⟨#[]⟩, cur := some z.g, dw := 4096, dm := 4096 }, A ++ [z] ++ [fileF ds.length gF inl data])
    { wsB wg dg il ⟨g2, g11, gs, gF⟩ nm data.length data.length (if inl then [] else data) with body := if inl then [] else padB data, cur := none, dw := 0, dm := 0 }
    { wsB wg dg il ⟨g2, g11, gs, gF⟩ nm data.length data.length (if inl then [] else data) with body := bodyD inl data ++ dsD (ds ++ [e]), cname := ⟨#[]⟩, cur := none, dw := 0, dm := 0 }
    _ l3 (l3.map xtN) (rtN md ui gi g2 (if r = [] then 3 else 4) g11 0 q) (tbD md ui gi (ds ++ [e]) inl data) (mfL l3) (r.length + 2) 0 (4 + blkD inl data + ds.length) (up16 (12 + ds.length)) rfl rfl rfl h1 (by show ((ws1 wg dg il g2 g11).ids ++ gs.map some ++ [some gF]).length ≤ 100000; omega) rfl hwr h3
    (by show (bodyD inl data ++ dsD (ds ++ [e])).length = _; rw [hbl2]; congr 1; omega) (by omega) (by omega) (by show 11 ≤ ((ws1 wg dg il g2 g11).ids ++ gs.map some ++ [some gF]).length; omega) (by show ((ws1 wg dg il g2 g11).ids ++ gs.map some ++ [some gF]).length ≤ 5000; omega) (by show _ = up16 ((ws1 wg dg il g2 g11).ids ++ gs.map some ++ [some gF]).length; rw [hidl])
    ht' (by show _ = ((ws1 wg dg il g2 g11).ids ++ gs.map some ++ [some gF]).length * 256; rw [hidl]; exact htl) (by
      intro j g hg
      have hgm : g ∈ g2 :: g11 :: (gs ++ [gF]) := by
        by_cases hj1 : j = 1
        · subst hj1
          have : some g2 = some g := hg
          rw [Option.some.inj this]; simp
        by_cases hj9 : j < 10
        · rw [ids_low wg dg il g2 g11 gs gF j hj9 hj1] at hg
          exact absurd hg (by simp)
        by_cases hj10 : j = 10
        · subst hj10
          have : some g11 = some g := hg
          rw [Option.some.inj this]; simp
        obtain ⟨i, rfl⟩ : ∃ i, j = 11 + i := ⟨j - 11, by omega⟩
        rw [show 1 + (11 + i) = 12 + i by omega] at hg
        have hg' : (gs ++ [gF])[i]? = some g := by rw [← ids_get wg dg il g2 g11 gs gF i]; exact hg
        exact List.mem_cons_of_mem _ (List.mem_cons_of_mem _ (List.mem_of_getElem? hg'))
      rw [← hl3g] at hgm
      obtain ⟨y, hy, rfl⟩ := List.mem_map.1 hgm
      obtain ⟨i, hiy⟩ := List.getElem?_of_mem hy
      exact ⟨i, xtN y, by rw [List.getElem?_map, hiy]; rfl, rfl, (mfL_nd hndl hy).symm, (hmd3 y hy).md⟩)
  have hB : ∀ j, inB ((ws1 wg dg il g2 g11).ids ++ gs.map some ++ [some gF]) j = decide (j < 12 + ds.length) := fun j => by rw [ids_inB, hi]
  have hDr : ∀ j, drB (mfL l3) ((ws1 wg dg il g2 g11).ids ++ gs.map some ++ [some gF]) j = decide (j = 1 ∨ 10 ≤ j ∧ j < 11 + ds.length) := fun j => by
    rw [ids_drB wg dg il g2 g11 gs gF (mfL l3) (hdir g2 (by simp)) (hdir g11 (by simp)) (fun g hg => hdir g (by simp [hg])) hfil, hi]
  have hp16 : 12 + ds.length ≤ up16 (12 + ds.length) := by unfold up16; omega
  have hcI : cntN (inB ((ws1 wg dg il g2 g11).ids ++ gs.map some ++ [some gF])) (up16 (12 + ds.length)) = 12 + ds.length := by
    rw [cntN_congr _ (fun j _ => hB j), cnt_lt]; omega
  have hcD : cntN (drB (mfL l3) ((ws1 wg dg il g2 g11).ids ++ gs.map some ++ [some gF])) (up16 (12 + ds.length)) = ds.length + 2 := by
    rw [cntN_congr _ (fun j _ => hDr j), cnt_dir, if_pos (by omega)]; omega
  have hbm : bm (inB ((ws1 wg dg il g2 g11).ids ++ gs.map some ++ [some gF])) 4096 = bm (fun j => decide (j < 12 + ds.length)) 4096 := bm_congr fun j _ => hB j
  have hE : imgD il md ui gi (ds ++ [e]) inl data = sblkB (up16 (12 + ds.length)) (4 + blkD inl data + ds.length + up16 (12 + ds.length) / 16 + 2) 0 (up16 (12 + ds.length) - (12 + ds.length)) (up16 (12 + ds.length)) (if il then 33346 else 578) ++ gdB (4 + blkD inl data + ds.length + up16 (12 + ds.length) / 16) (4 + blkD inl data + ds.length + up16 (12 + ds.length) / 16 + 1) (4 + blkD inl data + ds.length) 0 (up16 (12 + ds.length) - (12 + ds.length)) (ds.length + 2) ++ (bodyD inl data ++ dsD (ds ++ [e]) ++ tbD md ui gi (ds ++ [e]) inl data ++ List.replicate (up16 (12 + ds.length) * 256 - (12 + ds.length) * 256) 0 ++ bm (fun _ => true) 4096 ++ bm (fun j => decide (j < 12 + ds.length)) 4096) := by
    unfold imgD
    dsimp only
    rw [hit0, hpi, List.length_append, List.length_singleton, show 11 + (ds.length + 1) = 12 + ds.length by omega]
  rw [hE, hit0, hpi, ← hbm]
  have hcl2 := hcl
  dsimp only at hcl2
  rw [hcI, hcD, hidl] at hcl2
  exact hcl2.frame
end Go.Proofs.YtcdalfhkhifplaaGreatDoor
namespace Go.Proofs.YtcdalfhkhifplaaGreatDoor
open Go
set_option maxRecDepth 100000
set_option maxHeartbeats 1000000
attribute [local irreducible] E EO
def deepRs (md ui gi : Nat) (nm data : List UInt8) : List OpR := [⟨0, [47], 0, md, ui, gi, []⟩, ⟨4, nm, 0, 0, 0, 0, []⟩, ⟨0, nm, data.length, 0, 0, 0, []⟩, ⟨1, [], 0, 0, 0, 0, data⟩]
def deepS (il : Bool) (md ui gi : Nat) (ds : List (List UInt8)) (e data : List UInt8) (inl : Bool) (wg dg : Nat) : Nat → HP
  | 0 => HP.star [Cells wg 112 (rawW dg il ((17179869184 : Nat) : Int)), DiskP dg 0 []]
  | 1 => SA wg dg il md ui gi []
  | 2 => SA wg dg il md ui gi ds
  | 3 => SB wg dg il md ui gi ds e (joinP (ds ++ [e])) inl 0 data.length (List.replicate data.length 0) []
  | _ => SB wg dg il md ui gi ds e (joinP (ds ++ [e])) inl data.length data.length data (if inl then [] else data)
theorem joinP_len : ∀ (cs : List (List UInt8)), (∀ c ∈ cs, c.length ≤ 255) → (preS cs).length ≤ 256 * cs.length
  | [], _ => by simp [preS]
  | c :: cs, h => by
    have h1 := h c (by simp)
    have h2 := joinP_len cs (fun d hd => h d (by simp [hd]))
    simp only [preS, List.length_cons, List.length_append] at h2 ⊢
    omega
theorem deepImage (il : Bool) (md ui gi : Nat) (hmd : md &&& 61440 = 16384) (hmd2 : md < 65536) (hui : ui < 4294967296) (hgi : gi < 4294967296) (ds : List (List UInt8)) (e : List UInt8) (hlen : ds.length ≤ 99) (hgood : ∀ c ∈ ds ++ [e], good c ∧ c.length ≤ 255) (hn : ∀ c ∈ (ds ++ [e]).head?, c ≠ lfN)
    (data : List UInt8) (hdl : data.length ≤ 4000) (inl : Bool) (hinl : inl = (il && decide (data.length ≤ 136))) (al : List OpA) (hal : al.length = 4) (go co : Nat) (G : HP) (hG : PfxP G) :
    Fe Tryz.prog 14 #[.bool il, .int .i64 0, .slice (some ⟨go, 0, none⟩) 4 co] [Own (some ⟨go, 0, none⟩) co 35 24 4 (opsV (deepRs md ui gi (joinP (ds ++ [e])) data) al), HP.star (opsP (deepRs md ui gi (joinP (ds ++ [e])) data) al), G] (fun i : (Option Addr × Nat × Nat) × (Nat × Nat) × List UInt8 => i.2.2 = imgD il md ui gi (ds ++ [e]) inl data ∧ i.2.2 ≠ [])
      (fun i => .tuple #[.slice i.1.1 i.1.2.1 i.1.2.2, .int .i64 0, .slice (some ⟨i.2.1.1, 0, none⟩) i.2.2.length i.2.1.2]) (fun i => [ImgQ i.2.1.1 i.2.1.2 i.2.2, G]) := by
  have hpl := joinP_len (ds ++ [e]) (fun c hc => (hgood c hc).2)
  have hpl2 : (preS (ds ++ [e])).length ≤ 1000000 := by
    rw [List.length_append, List.length_singleton] at hpl; omega
  obtain ⟨c, cs, hcs⟩ : ∃ c cs, ds ++ [e] = c :: cs := by
    cases h : ds ++ [e] with
    | nil => simp at h
    | cons c cs => exact ⟨c, cs, rfl⟩
  have hj : joinP (ds ++ [e]) = c ++ preS cs := by rw [hcs]; rfl
  have hjl : (joinP (ds ++ [e])).length ≤ 1000000 := by
    rw [hj]; rw [hcs] at hpl2; simp only [preS, List.length_cons, List.length_append] at hpl2 ⊢; omega
  have hg1 : ∀ d ∈ c :: cs, good d := fun d hd => (hgood d (by rw [hcs]; exact hd)).1
  have hnd : noDots (joinP (ds ++ [e])).length (joinP (ds ++ [e])) := by
    rw [hj]; exact noDots_rel hg1 (Nat.le_refl _)
  have hcl : clN (joinP (ds ++ [e])).length (joinP (ds ++ [e])) [47] = 47 :: (slashed ds ++ e) := by
    have h := clN_rel (n := (c ++ preS cs).length) hg1 (Nat.le_refl _)
    rw [← hj, joinP_eq] at h
    rw [joinP_eq]
    exact h
  refine Image_fn il (deepRs md ui gi (joinP (ds ++ [e])) data) al go co G (fun B => B = imgD il md ui gi (ds ++ [e]) inl data) (deepS il md ui gi ds e data inl) hal (by show 4 ≤ 1000; decide) ?_ (fun wg dg => Tn.close) ?_ ?_
  · intro r hr
    have hr' : r = ⟨0, [47], 0, md, ui, gi, []⟩ ∨ r = ⟨4, joinP (ds ++ [e]), 0, 0, 0, 0, []⟩ ∨ r = ⟨0, joinP (ds ++ [e]), data.length, 0, 0, 0, []⟩ ∨ r = ⟨1, [], 0, 0, 0, 0, data⟩ := by simpa [deepRs] using hr
    rcases hr' with rfl | rfl | rfl | rfl
    · exact ⟨by show 0 ≤ 1000000000; decide, by show 0 ≤ 1000000000; decide⟩
    · exact ⟨by show 0 ≤ 1000000000; decide, by show 0 ≤ 1000000000; decide⟩
    · exact ⟨by show data.length ≤ 1000000000; omega, by show 0 ≤ 1000000000; decide⟩
    · exact ⟨by show 0 ≤ 1000000000; decide, by show data.length ≤ 1000000000; omega⟩
  · intro wg dg i r hr
    match i, hr with
    | 0, hr =>
      have : (⟨0, [47], 0, md, ui, gi, []⟩ : OpR) = r := Option.some.inj hr
      subst this
      exact step0 wg dg il md ui gi G hmd hmd2 hui hgi
    | 1, hr =>
      have : (⟨4, joinP (ds ++ [e]), 0, 0, 0, 0, []⟩ : OpR) = r := Option.some.inj hr
      subst this
      exact step1 wg dg il md ui gi G ds e hmd hmd2 hui hgi hgood hlen hn hnd hcl hpl2 hjl
    | 2, hr =>
      have : (⟨0, joinP (ds ++ [e]), data.length, 0, 0, 0, []⟩ : OpR) = r := Option.some.inj hr
      subst this
      exact step2 wg dg il md ui gi G hG ds e data.length inl hmd hmd2 hgood hlen hn hnd hcl hjl hdl hinl
    | 3, hr =>
      have : (⟨1, [], 0, 0, 0, 0, data⟩ : OpR) = r := Option.some.inj hr
      subst this
      exact step3 wg dg il md ui gi G ds e (joinP (ds ++ [e])) data inl hdl (fun h => by rw [hinl] at h; simp at h; exact h.2)
    | i + 4, hr => simp [deepRs] at hr
  · intro wg dg
    have h := deepClose wg dg il md ui gi hmd hmd2 hui hgi ds e (joinP (ds ++ [e])) hlen (fun c hc => (hgood c hc).2) hn data hdl inl (fun h => by rw [hinl] at h; simp at h; exact h.2)
    have hne : imgD il md ui gi (ds ++ [e]) inl data ≠ [] := by
      intro h0
      have hl := congrArg List.length h0
      unfold imgD at hl
      dsimp only at hl
      simp only [List.length_append, bm_len, List.length_nil] at hl
      omega
    have hT : Tn [DiskP dg ((itD (ds ++ [e]).length (blkD inl data) + up16 (11 + (ds ++ [e]).length) / 16 + 2) * 4096) (imgD il md ui gi (ds ++ [e]) inl data)] (fun _ : Unit => True) (fun _ => [ImgE dg (fun B => B = imgD il md ui gi (ds ++ [e]) inl data)]) := fun m S hS =>
      ⟨(), S, trivial, sats_one ⟨(((itD (ds ++ [e]).length (blkD inl data) + up16 (11 + (ds ++ [e]).length) / 16 + 2) * 4096), imgD il md ui gi (ds ++ [e]) inl data), ⟨rfl, hne⟩, sats_one' hS⟩, fun _ h => h⟩
    exact Fd.close h hT
end Go.Proofs.YtcdalfhkhifplaaGreatDoor
namespace Go.Proofs.YtcdalfhkhifplaaGreatDoor
open Go
set_option maxRecDepth 100000
set_option maxHeartbeats 1000000
abbrev inoL1 (x : Nd) : List (Nat × Nat) := [(2, x.mode), (2, (x.uid &&& 65535) % 65536), (4, (x.size &&& 4294967295) % 4294967296), (4, 0), (4, 0), (4, 0), (4, 0), (2, (x.gid &&& 65535) % 65536), (2, x.links), (4, x.blks), (4, x.flags), (4, 0)]
abbrev inoL2 (x : Nd) : List (Nat × Nat) := [(4, 0), (4, 0), (4, x.size / 2 ^ 32), (4, 0), (2, 0), (2, 0), (2, x.uid / 2 ^ 16), (2, x.gid / 2 ^ 16), (2, 0), (2, 0), (2, 24), (2, 0), (4, 0), (4, 0), (4, 0), (4, 0), (4, 0)]
abbrev inoR (x : Nd) : List UInt8 := xinT x ++ List.replicate (104 - x.xin.length) 0
theorem inoB_fl (x : Nd) : inoB x = flds (inoL1 x) ++ (blkB x.data ++ (flds (inoL2 x) ++ inoR x)) := by
  unfold inoB
  have h : (inoF x).take 152 = flds (inoL1 x) ++ (blkB x.data ++ flds (inoL2 x)) := by
    unfold inoF inodeB
    rw [List.append_assoc _ (leB 4 0) (leB 4 0), List.take_left' (by simp only [List.length_append, leB_len, blkB_len, List.length_nil])]
    simp only [flds, inoL1, inoL2, List.append_nil, List.nil_append, List.append_assoc, Nat.zero_div]
  rw [h]
  simp only [List.append_assoc]
theorem ino_f1 (x : Nd) {o n v : Nat} (h : FAt (inoL1 x) o n v) (hv : v < 256 ^ n) : leAt (inoB x) o n = v := by
  rw [inoB_fl]
  exact fldN rfl h hv
theorem ino_f2 (x : Nd) {o n v p : Nat} (h : FAt (inoL2 x) o n v) (hv : v < 256 ^ n) (hp : p = 100 + o) : leAt (inoB x) p n = v := by
  subst hp
  rw [inoB_fl, ← List.append_assoc, show 100 + o = (flds (inoL1 x) ++ blkB x.data).length + o by rw [List.length_append, blkB_len, flds_len]; simp, leAt_right]
  exact fldN rfl h hv
theorem ino_f3 (x : Nd) (o n : Nat) : leAt (inoB x) (152 + o) n = leAt (inoR x) o n := by
  rw [inoB_fl, ← List.append_assoc, ← List.append_assoc, show 152 + o = (flds (inoL1 x) ++ blkB x.data ++ flds (inoL2 x)).length + o by rw [List.length_append, List.length_append, blkB_len, flds_len, flds_len]; simp, leAt_right]
theorem ino_blk (x : Nd) : ((inoB x).drop 40).take 60 = blkB x.data := by
  rw [inoB_fl, List.drop_left' (by rw [flds_len]; simp), List.take_left' (blkB_len _)]
theorem or_mul (a b k : Nat) (h : a < 2 ^ k) : a ||| b * 2 ^ k = b * 2 ^ k + a := by
  have := Nat.two_pow_add_eq_or_of_lt h b
  rw [Nat.or_comm, Nat.mul_comm b, this]
theorem and_mod16 (u : Nat) : (u &&& 65535) % 65536 = u % 65536 := by
  have := Nat.and_two_pow_sub_one_eq_mod u 16
  rw [show (65535 : Nat) = 2 ^ 16 - 1 from rfl, this]; omega
theorem and_mod32 (u : Nat) : (u &&& 4294967295) % 4294967296 = u % 4294967296 := by
  have := Nat.and_two_pow_sub_one_eq_mod u 32
  rw [show (4294967295 : Nat) = 2 ^ 32 - 1 from rfl, this]; omega
theorem inoR_ok (x : Nd) (num bl : Nat) (il : Bool) (data : List UInt8) (ents : List (List UInt8 × Nat × Nat)) (h : InoOk x) (hs : x.size < 1000000000) (hb : x.blks < 1000000000) (hu : x.flags &&& 262144 ≠ 0) :
    InoR (inoB x) ⟨num, x.mode, x.uid, x.gid, x.size, x.links, x.blks, x.flags, il, bl, data, ents⟩ ((x.uid &&& 65535) % 65536) (x.uid / 2 ^ 16) ((x.gid &&& 65535) % 65536) (x.gid / 2 ^ 16) ((x.size &&& 4294967295) % 4294967296) (x.size / 2 ^ 32) x.blks 0 := by
  obtain ⟨o1, o2, o3, o4, o5, o6, o7, o8, o9, o10⟩ := h
  have hsz : x.size / 2 ^ 32 = 0 := Nat.div_eq_of_lt (by omega)
  have hu1 : x.uid / 2 ^ 16 < 65536 := by omega
  have hg1 : x.gid / 2 ^ 16 < 65536 := by omega
  constructor
  · exact ino_f1 x .here (by simpa using o1)
  · exact ino_f1 x (.there .here) (by have := Nat.mod_lt (x.uid &&& 65535) (show 0 < 65536 by decide); simpa using this)
  · exact ino_f2 x (.there (.there (.there (.there (.there (.there .here)))))) (by simpa using hu1) rfl
  · rw [or_mul _ _ _ (by have := Nat.mod_lt (x.uid &&& 65535) (show 0 < 65536 by decide); simpa using this), and_mod16]
    show x.uid / 2 ^ 16 * 2 ^ 16 + x.uid % 65536 = x.uid
    omega
  · exact o3
  · exact ino_f1 x (.there (.there (.there (.there (.there (.there (.there .here))))))) (by have := Nat.mod_lt (x.gid &&& 65535) (show 0 < 65536 by decide); simpa using this)
  · exact ino_f2 x (.there (.there (.there (.there (.there (.there (.there .here))))))) (by simpa using hg1) rfl
  · rw [or_mul _ _ _ (by have := Nat.mod_lt (x.gid &&& 65535) (show 0 < 65536 by decide); simpa using this), and_mod16]
    show x.gid / 2 ^ 16 * 2 ^ 16 + x.gid % 65536 = x.gid
    omega
  · exact o4
  · exact ino_f1 x (.there (.there .here)) (by have := Nat.mod_lt (x.size &&& 4294967295) (show 0 < 4294967296 by decide); simpa using this)
  · exact ino_f2 x (.there (.there .here)) (by rw [hsz]; decide) rfl
  · rw [hsz, Nat.zero_mul, Nat.or_zero, and_mod32]
    show x.size % 4294967296 = x.size
    omega
  · exact hs
  · exact ino_f1 x (.there (.there (.there (.there (.there (.there (.there (.there .here)))))))) (by simpa using o6)
  · exact ino_f1 x (.there (.there (.there (.there (.there (.there (.there (.there (.there .here))))))))) (by simpa using o7)
  · exact ino_f2 x (.there (.there (.there (.there .here)))) (by decide) rfl
  · rw [Nat.zero_mul, Nat.or_zero]
  · exact hb
  · exact ino_f1 x (.there (.there (.there (.there (.there (.there (.there (.there (.there (.there .here)))))))))) (by simpa using o8)
  · exact ino_f2 x (.there (.there (.there (.there (.there (.there (.there (.there (.there (.there .here)))))))))) (by decide) rfl
  · exact ino_f1 x (.there (.there (.there (.there (.there (.there .here)))))) (by decide)
  · exact ino_f1 x (.there (.there (.there .here))) (by decide)
  · exact ino_f1 x (.there (.there (.there (.there .here)))) (by decide)
  · exact ino_f1 x (.there (.there (.there (.there (.there .here))))) (by decide)
  · exact ino_f2 x (.there (.there (.there (.there (.there (.there (.there (.there (.there (.there (.there (.there (.there (.there .here)))))))))))))) (by decide) rfl
  · exact ino_f2 x (.there (.there (.there (.there (.there (.there (.there (.there (.there (.there (.there (.there .here)))))))))))) (by decide) rfl
  · exact ino_f2 x (.there (.there (.there (.there (.there (.there (.there (.there (.there (.there (.there (.there (.there .here))))))))))))) (by decide) rfl
  · exact ino_f2 x (.there (.there (.there (.there (.there (.there (.there (.there (.there (.there (.there (.there (.there (.there (.there .here))))))))))))))) (by decide) rfl
  · exact ino_f2 x (.there (.there (.there (.there (.there (.there (.there (.there (.there (.there (.there (.there (.there (.there (.there (.there .here)))))))))))))))) (by decide) rfl
  · exact hu
end Go.Proofs.YtcdalfhkhifplaaGreatDoor
namespace Go.Proofs.YtcdalfhkhifplaaGreatDoor
open Go
set_option maxRecDepth 100000
set_option maxHeartbeats 1000000
theorem Fe.map {ι κ : Type} {P : Program} {f : FuncId} {args : Array Value} {L : List HP} {PI : ι → Prop} {V : ι → Value} {LL : ι → List HP} {PJ : κ → Prop} {W : κ → Value} {MM : κ → List HP} (h : Fe P f args L PI V LL) (φ : ι → κ) (hφ : ∀ i, PI i → PJ (φ i) ∧ V i = W (φ i) ∧ LL i = MM (φ i)) : Fe P f args L PJ W MM := by
  intro w S hS
  refine (h w S hS).mono ?_
  rintro u w' ⟨L', ⟨i, hi, e1, e2⟩, hst⟩
  obtain ⟨h1, h2, h3⟩ := hφ i hi
  exact ⟨L', ⟨φ i, h1, e1.trans h2, e2.trans h3⟩, hst⟩
theorem extR_ok (st n : Nat) (hs : st < 4294967296) (hn : n < 65536) : ExtR (extB st n) st n := by
  have e : ∃ r, extB st n = flds [(2, 62218), (2, 1), (2, 4), (2, 0), (4, 0), (4, 0), (2, n), (2, 0), (4, st)] ++ r := ⟨_, by simp only [extB, flds, List.append_nil, List.nil_append, List.append_assoc]; rfl⟩
  obtain ⟨r, e⟩ := e
  constructor
  · exact fldN e .here (by decide)
  · exact fldN e (.there .here) (by decide)
  · exact fldN e (.there (.there .here)) (by decide)
  · exact fldN e (.there (.there (.there .here))) (by decide)
  · exact fldN e (.there (.there (.there (.there (.there .here))))) (by decide)
  · exact fldN e (.there (.there (.there (.there (.there (.there .here)))))) (by simpa using hn)
  · exact fldN e (.there (.there (.there (.there (.there (.there (.there .here))))))) (by decide)
  · exact fldN e (.there (.there (.there (.there (.there (.there (.there (.there .here)))))))) (by simpa using hs)
theorem blkB_full {d : List UInt8} (h : d.length = 60) : blkB d = d := by
  unfold blkB; rw [List.take_of_length_le (by omega), h]; simp
theorem noX {x : Nd} (h : x.xin = []) (hd : x.data.length ≤ 60) : leAt (inoB x) 152 4 ≠ 3925999616 := by
  have h1 := ino_f3 x 0 4
  have h2 : inoR x = List.replicate 104 0 := by
    show xinT x ++ List.replicate (104 - x.xin.length) 0 = _
    unfold xinT
    rw [if_pos hd, h]; rfl
  rw [h2, leAt_zeros] at h1
  rw [show 152 = 152 + 0 from rfl, h1]; decide
theorem ext_inoC (v : Vs) (g : Geo v) (it num b : Nat) (nd : Nd) (ents : List (List UInt8 × Nat × Nat)) (hit : leAt v.img 4104 4 = it) (h1 : 1 ≤ num) (h2 : num ≤ v.pi) (hfit : it * 4096 + num * 256 ≤ v.img.length) (hB : inoB nd = (v.img.drop (it * 4096 + (num - 1) * 256)).take 256)
    (hd : nd.data = extB b 1) (hok : InoOk nd) (hxin : nd.xin = []) (hsz : 1 ≤ nd.size) (hsz2 : nd.size ≤ 4096) (hbk : nd.blks = 1) (hfl : nd.flags = 786432) (hk : ftN nd.mode = 1 ∨ ftN nd.mode = 2) (hb : b < v.nb) (hcl : b ∉ v.cl) :
    InoC v ⟨num, nd.mode, nd.uid, nd.gid, nd.size, nd.links, 1, 786432, false, 1, (v.img.drop (b * 4096)).take nd.size, ents⟩ (b :: v.cl) := by
  have hg := g
  obtain ⟨g1, g2, g3, g4, g5, g6⟩ := hg
  have hin := inoR_ok nd num 1 false ((v.img.drop (b * 4096)).take nd.size) ents hok (by omega) (by omega) (by rw [hfl]; decide)
  rw [hbk, hfl] at hin
  have hdl : ((v.img.drop (b * 4096)).take nd.size).length = nd.size := by
    rw [List.length_take, List.length_drop, g1]
    have : (b + 1) * 4096 ≤ v.nb * 4096 := Nat.mul_le_mul_right _ hb
    omega
  have hrow := ImgP.row v (it * 4096 + (num - 1) * 256) 256
  rw [← hB] at hrow
  have hblen : (inoB nd).length = 256 := inoB_len hok.xl hok.dl
  have hext : ExtR (((inoB nd).drop 40).take 60) b 1 := by
    rw [ino_blk, hd, blkB_full (extB_len b 1)]
    exact extR_ok b 1 (by omega) (by decide)
  have hil : false = decide ((786432 : Nat) &&& 268435456 ≠ 0) := by decide
  refine inode_fn v g ⟨num, nd.mode, nd.uid, nd.gid, nd.size, nd.links, 1, 786432, false, 1, (v.img.drop (b * 4096)).take nd.size, ents⟩ it (inoB nd) _ _ _ _ _ _ _ _ (b :: v.cl) hit h1 h2 hfit hB hin (by rcases hk with hk | hk <;> (show ftN nd.mode ≠ 0; omega)) (ino_f2 nd (.there .here) (by decide) rfl) hil rfl (.inl ⟨noX hxin (by rw [hd, extB_len]; omega), fun gx => ?_⟩)
  have h := contentX_fn v g ⟨num, nd.mode, nd.uid, nd.gid, nd.size, nd.links, 1, 786432, false, 0, (v.img.drop (b * 4096)).take nd.size, ents⟩ (.slice none 0 0) (.slice none 0 0) gx (it * 4096 + (num - 1) * 256) (v.ic - (it * 4096 + (num - 1) * 256)) b 1 (inoB nd) hrow hblen (by omega) hok.md hk (by show 786432 < 4294967296; decide) (by show 786432 &&& 524288 ≠ 0; decide) hext (by omega) (by omega) (by show nd.size ≤ 1 * 4096; omega) (by show (1 - 1) * 4096 < nd.size; omega) (by omega) (fun i hi hi2 => by rw [show i = b by omega]; exact hcl) (by show 0 ≤ 1000000; decide)
  refine h.map (fun i => (some ⟨i.1, 0, none⟩, i.2)) fun i _ => ⟨trivial, rfl, ?_⟩
  dsimp only
  rw [hdl]
  rfl
end Go.Proofs.YtcdalfhkhifplaaGreatDoor
namespace Go.Proofs.YtcdalfhkhifplaaGreatDoor
open Go
set_option maxRecDepth 100000
set_option maxHeartbeats 1000000
theorem bAt_pat (b us : List UInt8) (o i : Nat) (h : o + us.length ≤ b.length) : bAt (pat b o us) i = if o ≤ i ∧ i < o + us.length then bAt us (i - o) else bAt b i := by
  unfold pat
  have hl : (b.take o).length = o := by simp; omega
  by_cases h1 : i < o
  · rw [if_neg (by omega), List.append_assoc, bAt_left _ (by omega), bAt_take _ h1]
  · by_cases h2 : i < o + us.length
    · rw [if_pos ⟨by omega, h2⟩, bAt_left _ (by rw [List.length_append]; omega), bAt_right' (by omega), hl]
    · rw [if_neg (by omega), bAt_right' (by rw [List.length_append]; omega), bAt_drop, List.length_append, hl]
      congr 1; omega
theorem leAt_pat_out {b us : List UInt8} {o i n : Nat} (h : o + us.length ≤ b.length) (hd : i + n ≤ o ∨ o + us.length ≤ i) : leAt (pat b o us) i n = leAt b i n := leAt_congr _ _ _ fun k hk => by
  rw [bAt_pat _ _ _ _ h, if_neg (by omega)]
theorem leAt_pat_in {b us : List UInt8} {o i j n : Nat} (h : o + us.length ≤ b.length) (hj : j = o + i) (hd : i + n ≤ us.length) : leAt (pat b o us) j n = leAt us i n := leAt_congr _ _ _ fun k hk => by
  subst hj
  rw [bAt_pat _ _ _ _ h, if_pos (by omega)]
  congr 1; omega
theorem pat_sub {b us : List UInt8} {o : Nat} (h : o + us.length ≤ b.length) : ((pat b o us).drop o).take us.length = us := by
  have hl : (b.take o).length = o := by simp; omega
  unfold pat
  rw [List.append_assoc, List.drop_left' hl, List.take_left' rfl]
theorem pat_sub_out {b us : List UInt8} {o p k : Nat} (h : o + us.length ≤ b.length) (hd : p + k ≤ o) : ((pat b o us).drop p).take k = (b.drop p).take k := by
  have hl : (b.take o).length = o := by simp; omega
  unfold pat
  rw [List.append_assoc, List.drop_append_of_le_length (by omega), List.take_append_of_le_length (by rw [List.length_drop]; omega), List.drop_take, List.take_take]
  congr 1; omega
structure XHd (b : List UInt8) : Prop where
  len : b.length = 104
  mg : leAt b 0 4 = 3925999616
  iv : leAt b 8 4 = 0
  nd : leAt b 24 4 = 0
structure XEnt (b v : List UInt8) (pl : Nat) : Prop where
  n : leAt b 4 1 = 4
  n0 : leAt b 4 4 ≠ 0
  x : leAt b 5 1 = 7
  o : leAt b 6 2 = pl
  s : leAt b 12 4 = v.length
  h : leAt b 16 4 = hashX [100, 97, 116, 97] v
  nm : (b.drop 20).take 4 = [100, 97, 116, 97]
  v : (b.drop (4 + pl)).take v.length = v
theorem putX_ok (b v : List UInt8) (hb : XHd b) (hv : v.length ≤ 76) : XHd (putX b [100, 97, 116, 97] v) ∧ XEnt (putX b [100, 97, 116, 97] v) v (100 - (v.length + 3) / 4 * 4) := by
  obtain ⟨h1, h2, h3, h4⟩ := hb
  have hh := hashX_lt [100, 97, 116, 97] v
  unfold putX
  dsimp only
  generalize hp : 100 - (v.length + 3) / 4 * 4 = pl
  have hpl : 24 ≤ pl ∧ pl + v.length ≤ 100 ∧ pl ≤ 100 := by omega
  obtain ⟨p1, p2, p3⟩ := hpl
  generalize hb1 : pat b 4 [UInt8.ofNat ([100, 97, 116, 97] : List UInt8).length] = b1
  have l1 : b1.length = 104 := by rw [← hb1, pat_len _ _ _ (by simp; omega), h1]
  generalize hb2 : pat b1 5 [7] = b2
  have l2 : b2.length = 104 := by rw [← hb2, pat_len _ _ _ (by simp; omega), l1]
  generalize hb3 : pat b2 6 (leB 2 pl) = b3
  have l3 : b3.length = 104 := by rw [← hb3, pat_len _ _ _ (by rw [leB_len]; omega), l2]
  generalize hb4 : pat b3 12 (leB 4 v.length) = b4
  have l4 : b4.length = 104 := by rw [← hb4, pat_len _ _ _ (by rw [leB_len]; omega), l3]
  generalize hb5 : pat b4 16 (leB 4 (hashX [100, 97, 116, 97] v)) = b5
  have l5 : b5.length = 104 := by rw [← hb5, pat_len _ _ _ (by rw [leB_len]; omega), l4]
  generalize hb6 : pat b5 20 [100, 97, 116, 97] = b6
  have l6 : b6.length = 104 := by rw [← hb6, pat_len _ _ _ (by simp; omega), l5]
  have l7 : (pat b6 (4 + pl) v).length = 104 := by rw [pat_len _ _ _ (by omega), l6]
  have o7 : ∀ i n, i + n ≤ 28 → leAt (pat b6 (4 + pl) v) i n = leAt b6 i n := fun i n h => leAt_pat_out (by omega) (by omega)
  have o6 : ∀ i n, i + n ≤ 20 ∨ 24 ≤ i → leAt b6 i n = leAt b5 i n := fun i n h => by rw [← hb6]; exact leAt_pat_out (by simp; omega) (by simp; omega)
  have o5 : ∀ i n, i + n ≤ 16 ∨ 20 ≤ i → leAt b5 i n = leAt b4 i n := fun i n h => by rw [← hb5]; exact leAt_pat_out (by rw [leB_len]; omega) (by rw [leB_len]; omega)
  have o4 : ∀ i n, i + n ≤ 12 ∨ 16 ≤ i → leAt b4 i n = leAt b3 i n := fun i n h => by rw [← hb4]; exact leAt_pat_out (by rw [leB_len]; omega) (by rw [leB_len]; omega)
  have o3 : ∀ i n, i + n ≤ 6 ∨ 8 ≤ i → leAt b3 i n = leAt b2 i n := fun i n h => by rw [← hb3]; exact leAt_pat_out (by rw [leB_len]; omega) (by rw [leB_len]; omega)
  have o2 : ∀ i n, i + n ≤ 5 ∨ 6 ≤ i → leAt b2 i n = leAt b1 i n := fun i n h => by rw [← hb2]; exact leAt_pat_out (by simp; omega) (by simp; omega)
  have o1 : ∀ i n, i + n ≤ 4 ∨ 5 ≤ i → leAt b1 i n = leAt b i n := fun i n h => by rw [← hb1]; exact leAt_pat_out (by simp; omega) (by simp; omega)
  have hn1 : leAt b1 4 1 = 4 := by rw [← hb1, leAt_pat_in (i := 0) (by simp; omega) rfl (by simp)]; rfl
  have hn : leAt (pat b6 (4 + pl) v) 4 1 = 4 := by rw [o7 _ _ (by omega), o6 _ _ (by omega), o5 _ _ (by omega), o4 _ _ (by omega), o3 _ _ (by omega), o2 _ _ (by omega), hn1]
  refine ⟨⟨l7, ?_, ?_, ?_⟩, ⟨hn, ?_, ?_, ?_, ?_, ?_, ?_, ?_⟩⟩
  · rw [o7 _ _ (by omega), o6 _ _ (by omega), o5 _ _ (by omega), o4 _ _ (by omega), o3 _ _ (by omega), o2 _ _ (by omega), o1 _ _ (by omega), h2]
  · rw [o7 _ _ (by omega), o6 _ _ (by omega), o5 _ _ (by omega), o4 _ _ (by omega), o3 _ _ (by omega), o2 _ _ (by omega), o1 _ _ (by omega), h3]
  · rw [o7 _ _ (by omega), o6 _ _ (by omega), o5 _ _ (by omega), o4 _ _ (by omega), o3 _ _ (by omega), o2 _ _ (by omega), o1 _ _ (by omega), h4]
  · simp only [leAt] at hn ⊢
    omega
  · rw [o7 _ _ (by omega), o6 _ _ (by omega), o5 _ _ (by omega), o4 _ _ (by omega), o3 _ _ (by omega), ← hb2, leAt_pat_in (i := 0) (by simp; omega) rfl (by simp)]; rfl
  · rw [o7 _ _ (by omega), o6 _ _ (by omega), o5 _ _ (by omega), o4 _ _ (by omega), ← hb3, leAt_pat_in (i := 0) (by rw [leB_len]; omega) rfl (by rw [leB_len]; omega)]
    have := leAt_leB [] 2 pl
    rw [List.append_nil] at this
    rw [this]; exact Nat.mod_eq_of_lt (by omega)
  · rw [o7 _ _ (by omega), o6 _ _ (by omega), o5 _ _ (by omega), ← hb4, leAt_pat_in (i := 0) (by rw [leB_len]; omega) rfl (by rw [leB_len]; omega)]
    have := leAt_leB [] 4 v.length
    rw [List.append_nil] at this
    rw [this]; exact Nat.mod_eq_of_lt (by omega)
  · rw [o7 _ _ (by omega), o6 _ _ (by omega), ← hb5, leAt_pat_in (i := 0) (by rw [leB_len]; omega) rfl (by rw [leB_len]; omega)]
    have := leAt_leB [] 4 (hashX [100, 97, 116, 97] v)
    rw [List.append_nil] at this
    rw [this]; exact Nat.mod_eq_of_lt (by omega)
  · rw [pat_sub_out (by omega) (by omega), ← hb6]
    exact pat_sub (us := [100, 97, 116, 97]) (by simp; omega)
  · exact pat_sub (by omega)
theorem xhd0 : XHd (pat (List.replicate 104 0) 0 (leB 4 3925999616)) := by
  have hl : 0 + (leB 4 3925999616).length ≤ (List.replicate 104 (0 : UInt8)).length := by rw [leB_len, List.length_replicate]; omega
  refine ⟨by rw [pat_len _ _ _ hl, List.length_replicate], ?_, ?_, ?_⟩
  · rw [leAt_pat_in (i := 0) hl rfl (by rw [leB_len]; omega)]
    have := leAt_leB [] 4 3925999616
    rw [List.append_nil] at this
    rw [this]
  · rw [leAt_pat_out hl (by rw [leB_len]; omega), leAt_zeros]
  · rw [leAt_pat_out hl (by rw [leB_len]; omega), leAt_zeros]
theorem fileI_x (d gF : Nat) (data : List UInt8) (h : data.length ≤ 136) : XHd (xinT (fileF d gF true data)) ∧ XEnt (xinT (fileF d gF true data)) (data.drop 60) (100 - ((data.drop 60).length + 3) / 4 * 4) := by
  have hz : (List.replicate (data.length - 60) (0 : UInt8)).length ≤ 76 := by rw [List.length_replicate]; omega
  have hb := putX_ok _ (List.replicate (data.length - 60) 0) xhd0 hz
  show XHd (if data.length ≤ 60 then xinB (List.replicate (data.length - 60) 0) else putX (xinB (List.replicate (data.length - 60) 0)) [100, 97, 116, 97] (data.drop 60)) ∧ XEnt (if data.length ≤ 60 then xinB (List.replicate (data.length - 60) 0) else putX (xinB (List.replicate (data.length - 60) 0)) [100, 97, 116, 97] (data.drop 60)) _ _
  by_cases h6 : data.length ≤ 60
  · rw [if_pos h6]
    have e1 : data.drop 60 = List.replicate (data.length - 60) 0 := by
      rw [List.drop_of_length_le h6, show data.length - 60 = 0 by omega]; rfl
    rw [e1]
    exact hb
  · rw [if_neg h6]
    exact putX_ok _ (data.drop 60) hb.1 (by rw [List.length_drop]; omega)
theorem fileI_att (d gF : Nat) (data : List UInt8) (h : data.length ≤ 136) : AttR (inoB (fileF d gF true data)) (data.drop 60) (100 - ((data.drop 60).length + 3) / 4 * 4) := by
  obtain ⟨⟨h1, h2, h3, h4⟩, ⟨e1, e2, e3, e4, e5, e6, e7, e8⟩⟩ := fileI_x d gF data h
  have hr : inoR (fileF d gF true data) = xinT (fileF d gF true data) := by
    have hx : (fileF d gF true data).xin.length = 104 := by
      show (xinB (List.replicate (data.length - 60) 0)).length = 104
      exact xinB_len _ (by rw [List.length_replicate]; omega)
    unfold inoR
    rw [hx]; simp
  have hf := ino_f3 (fileF d gF true data)
  rw [hr] at hf
  have hd : ∀ o, (inoB (fileF d gF true data)).drop (152 + o) = (xinT (fileF d gF true data)).drop o := by
    intro o
    rw [← hr, inoB_fl, ← List.append_assoc, ← List.append_assoc, show 152 + o = (flds (inoL1 (fileF d gF true data)) ++ blkB (fileF d gF true data).data ++ flds (inoL2 (fileF d gF true data))).length + o by rw [List.length_append, List.length_append, blkB_len, flds_len, flds_len]; simp, ← List.drop_drop, List.drop_left]
  have hvl : (data.drop 60).length ≤ 76 := by rw [List.length_drop]; omega
  generalize data.drop 60 = v at *
  exact ⟨(hf 0 4).trans h2, by rw [show 156 = 152 + 4 from rfl, hf]; exact e2, (hf 4 1).trans e1, (hf 5 1).trans e3, (hf 6 2).trans e4, (hf 8 4).trans h3, (hf 12 4).trans e5, (hf 16 4).trans e6, (congrArg (List.take 4) (hd 20)).trans e7, (hf 24 4).trans h4, by rw [show 156 + (100 - (v.length + 3) / 4 * 4) = 152 + (4 + (100 - (v.length + 3) / 4 * 4)) by omega, hd]; exact e8, by omega, by omega, by omega⟩
end Go.Proofs.YtcdalfhkhifplaaGreatDoor
namespace Go.Proofs.YtcdalfhkhifplaaGreatDoor
open Go
set_option maxRecDepth 100000
set_option maxHeartbeats 1000000
theorem Fd.fe {ι : Type} {P : Program} {f : FuncId} {args : Array Value} {L L' : List HP} {v : Value} {PI : ι → Prop} {V : ι → Value} {LL : ι → List HP} (h : Fd P f args L v L') (i : ι) (hi : PI i) (hv : v = V i) (hl : L' = LL i) : Fe P f args L PI V LL := by
  intro w S hS
  refine (h w S hS).mono ?_
  rintro u w' ⟨M, ⟨e1, e2⟩, hst⟩
  exact ⟨M, ⟨i, hi, e1.trans hv, e2.trans hl⟩, hst⟩
theorem Fe.mapP {ι κ : Type} {P : Program} {f : FuncId} {args : Array Value} {L L0 : List HP} {PI : ι → Prop} {V : ι → Value} {LL : ι → List HP} {PJ : κ → Prop} {W : κ → Value} {MM : κ → List HP} (h : Fe P f args L PI V LL) (hL : L0.Perm L) (φ : ι → κ) (hφ : ∀ i, PI i → PJ (φ i) ∧ V i = W (φ i) ∧ (LL i).Perm (MM (φ i))) : Fe P f args L0 PJ W MM := by
  intro w S hS
  refine (h w S (sats_perm hL hS)).mono ?_
  rintro u w' ⟨L', ⟨i, hi, e1, e2⟩, hst⟩
  obtain ⟨h1, h2, h3⟩ := hφ i hi
  subst e2
  exact ⟨MM (φ i), ⟨φ i, h1, e1.trans h2, rfl⟩, hst.perm h3⟩
theorem Tn.nilOwn {e : Nat} : Tn [] (fun _ : Unit => True) (fun _ => [Own none 0 e 1 0 (enc [])]) := fun m S hS => ⟨(), S, trivial, sats_one ⟨by simp [enc], Nat.le_refl _, Nat.zero_le _, .inl ⟨rfl, rfl, hS⟩⟩, fun _ h => h⟩
theorem emp_inoC (v : Vs) (g : Geo v) (it num : Nat) (d gF : Nat) (hit : leAt v.img 4104 4 = it) (h1 : 1 ≤ num) (h2 : num ≤ v.pi) (hfit : it * 4096 + num * 256 ≤ v.img.length) (hB : inoB (fileF d gF false []) = (v.img.drop (it * 4096 + (num - 1) * 256)).take 256) :
    InoC v ⟨num, 32768, 0, 0, 0, 1, 0, 262144, false, 0, [], []⟩ v.cl := by
  have hg := g
  obtain ⟨g1, g2, g3, g4, g5, g6⟩ := hg
  have hok := fileF_ok d gF false [] (by simp) (by simp)
  have hin := inoR_ok (fileF d gF false []) num 0 false [] [] hok (by show 0 < 1000000000; decide) (by show 0 < 1000000000; decide) (by show 262144 &&& 262144 ≠ 0; decide)
  have hil : false = decide ((262144 : Nat) &&& 268435456 ≠ 0) := by decide
  have hft : ftN 32768 = 1 := rfl
  refine inode_fn v g ⟨num, 32768, 0, 0, 0, 1, 0, 262144, false, 0, [], []⟩ it (inoB (fileF d gF false [])) _ _ _ _ _ _ _ _ v.cl hit h1 h2 hfit hB hin (by show ftN 32768 ≠ 0; rw [hft]; decide) (ino_f2 _ (.there .here) (by decide) rfl) hil rfl (.inl ⟨noX rfl (by show 0 ≤ 60; decide), fun gx => ?_⟩)
  have h := (contentE_fn v g ⟨num, 32768, 0, 0, 0, 1, 0, 262144, false, 0, [], []⟩ (.slice none 0 0) (.slice none 0 0) gx (it * 4096 + (num - 1) * 256) (v.ic - (it * 4096 + (num - 1) * 256)) (by omega) (by show 32768 < 65536; decide) hft (by show 262144 < 4294967296; decide) (by show 262144 &&& 524288 = 0; decide) rfl).frame (L := [VP v, ImgP v, Cells gx 66 (rC ⟨num, 32768, 0, 0, 0, 1, 0, 262144, false, 0, [], []⟩ (.slice none 0 0) (.slice none 0 0) false 0)]) (N := [VP v, Cells gx 66 (rC ⟨num, 32768, 0, 0, 0, 1, 0, 262144, false, 0, [], []⟩ (.slice none 0 0) (.slice none 0 0) false 0), ImgP v])
  have h3 := h.close Tn.nilOwn (M' := [VP v, ImgP v, Cells gx 66 (rC ⟨num, 32768, 0, 0, 0, 1, 0, 262144, false, 0, [], []⟩ (.slice none 0 0) (.slice none 0 0) false 0), Own none 0 5 1 0 (enc [])])
  exact Fd.fe (ι := Option Addr × Nat) h3 (none, 0) trivial rfl rfl
theorem inl_inoC (v : Vs) (g : Geo v) (it num : Nat) (d gF : Nat) (data : List UInt8) (hdl : data.length ≤ 136) (hit : leAt v.img 4104 4 = it) (h1 : 1 ≤ num) (h2 : num ≤ v.pi) (hfit : it * 4096 + num * 256 < v.img.length) (hB : inoB (fileF d gF true data) = (v.img.drop (it * 4096 + (num - 1) * 256)).take 256) :
    InoC v ⟨num, 32768, 0, 0, data.length, 1, 0, 268697600, true, 0, data, []⟩ v.cl := by
  have hg := g
  obtain ⟨g1, g2, g3, g4, g5, g6⟩ := hg
  have hok := fileF_ok d gF true data (by omega) (fun _ => hdl)
  have hin := inoR_ok (fileF d gF true data) num 0 true data [] hok (by show data.length < 1000000000; omega) (by show 0 < 1000000000; decide) (by show 268697600 &&& 262144 ≠ 0; decide)
  have hil : true = decide ((268697600 : Nat) &&& 268435456 ≠ 0) := by decide
  have hft : ftN 32768 = 1 := rfl
  have hrow := ImgP.row v (it * 4096 + (num - 1) * 256) 256
  rw [← hB] at hrow
  have hblen : (inoB (fileF d gF true data)).length = 256 := inoB_len hok.xl hok.dl
  have hvl : (data.drop 60).length ≤ 76 := by rw [List.length_drop]; omega
  have hcat : ((((inoB (fileF d gF true data)).drop 40).take 60 ++ data.drop 60).take data.length) = data := by
    rw [ino_blk]
    show ((data.take 60 ++ List.replicate (60 - data.length) 0) ++ data.drop 60).take data.length = data
    by_cases h6 : data.length ≤ 60
    · rw [List.take_of_length_le h6, List.append_assoc, List.take_left' rfl]
    · rw [show 60 - data.length = 0 by omega, List.replicate_zero, List.append_nil, List.take_append_drop, List.take_length]
  refine inode_fn v g ⟨num, 32768, 0, 0, data.length, 1, 0, 268697600, true, 0, data, []⟩ it (inoB (fileF d gF true data)) _ _ _ _ _ _ _ _ v.cl hit h1 h2 (Nat.le_of_lt hfit) hB hin (by show ftN 32768 ≠ 0; rw [hft]; decide) (ino_f2 _ (.there .here) (by decide) rfl) hil rfl (.inr ⟨data.drop 60, _, fileI_att d gF data hdl, rfl, hfit, fun gx gv cv hgv => ?_⟩)
  refine y_fn (Own.tnk (A := gv) (c := cv) (e := 5) (n := (data.drop 60).length) (vs := enc (data.drop 60))) fun _ hk => ?_
  have hrd := Own.rd (e := 5) hk
  have h := contentI_fn v g ⟨num, 32768, 0, 0, data.length, 1, 0, 268697600, true, 0, data, []⟩ (.slice none 0 0) gx (it * 4096 + (num - 1) * 256) (v.ic - (it * 4096 + (num - 1) * 256)) (data.drop 60).length cv gv (data.drop 60) (inoB (fileF d gF true data)) (Own gv cv 5 1 (data.drop 60).length (enc (data.drop 60))) hrd rfl hgv hrow hblen (by omega) (by show 32768 < 65536; decide) hft (by show data.length ≤ 60 + (data.drop 60).length; rw [List.length_drop]; omega) (by omega)
  refine h.mapP (List.perm_append_comm (l₁ := [_]) (l₂ := [_, _, _])) (fun i => (some ⟨i.1, 0, none⟩, i.2)) fun i _ => ⟨trivial, rfl, ?_⟩
  dsimp only
  rw [hcat]
  exact (((List.Perm.swap _ _ []).cons _).cons _).cons _
end Go.Proofs.YtcdalfhkhifplaaGreatDoor
namespace Go.Proofs.YtcdalfhkhifplaaGreatDoor
open Go
set_option maxRecDepth 100000
set_option maxHeartbeats 4000000
attribute [local irreducible] E EO
theorem dirB_DB : ∀ (es : List (Nat × List UInt8 × Nat)) (n : Nat), (es.map fun e => rlN e.2.1).sum + 12 ≤ n → n ≤ 4096 → n % 4 = 0 → (∀ e ∈ es, 1 ≤ e.2.1.length ∧ e.2.1.length ≤ 255 ∧ e.1 ≠ 0 ∧ e.1 < 4294967296 ∧ e.2.2 < 256) → DB (dirB n es) (es.map fun e => (e.2.1, e.1, e.2.2))
  | [], n, h, h2, h3, _ => by
    have := DB.pad (n := n) (by simpa using h) h2 h3 DB.nil
    rwa [List.append_nil] at this
  | (num, nm, ft) :: r, n, h, h2, h3, h4 => by
    simp only [List.map_cons, List.sum_cons] at h
    obtain ⟨a1, a2, a3, a4, a5⟩ := h4 (num, nm, ft) (by simp)
    have hr : rlN nm % 4 = 0 := by unfold rlN; omega
    rw [dirB, stepD, leftD, if_neg (by omega), if_neg (by omega), List.nil_append]
    exact DB.ent a1 a2 a3 a4 a5 (dirB_DB r (n - rlN nm) (by omega) (by omega) (by omega) fun e he => h4 e (by simp [he]))
theorem DBs_one {b : List UInt8} {es : List (List UInt8 × Nat × Nat)} (hl : b.length = 4096) (h : DB b es) : DBs b es := by
  have := DBs.blk hl h DBs.nil
  rwa [List.append_nil, List.append_nil] at this
theorem dir_DBs (es : List (Nat × List UInt8 × Nat)) (h : (es.map fun e => rlN e.2.1).sum + 12 ≤ 4096) (h4 : ∀ e ∈ es, 1 ≤ e.2.1.length ∧ e.2.1.length ≤ 255 ∧ e.1 ≠ 0 ∧ e.1 < 4294967296 ∧ e.2.2 < 256) : DBs (dirB 4096 es) (es.map fun e => (e.2.1, e.1, e.2.2)) :=
  DBs_one (dirB_fit es 4096 h) (dirB_DB es 4096 h (Nat.le_refl _) (by decide) h4)
def sbL1 (ic nb fb fi pi inc : Nat) : List (Nat × Nat) := [(4, ic), (4, nb), (4, 0), (4, fb), (4, fi), (4, 0), (4, 2), (4, 2), (4, 32768), (4, 32768), (4, pi), (4, 0), (4, 0), (2, 0), (2, 0), (2, 61267), (2, 1), (2, 1), (2, 0), (4, 0), (4, 0), (4, 0), (4, 1), (2, 0), (2, 0), (4, 11), (2, 256), (2, 0), (4, 520), (4, inc), (4, 4170)]
theorem sb5_hd (ic nb fb fi pi inc : Nat) : (sb5 ic nb fb fi pi inc).take 104 = flds (sbL1 ic nb fb fi pi inc) := by kernel_rfl
theorem sb5_z (ic nb fb fi pi inc : Nat) : ((sb5 ic nb fb fi pi inc).drop 336).take 12 = List.replicate 12 0 := by kernel_rfl
theorem FAt.bd {l : List (Nat × Nat)} {o n x : Nat} (h : FAt l o n x) : o + n ≤ (flds l).length := by
  induction h with
  | here => rw [flds, List.length_append, leB_len]; omega
  | there _ ih => rw [flds, List.length_append, leB_len]; omega
theorem sblkB_len (ic nb fb fi pi inc : Nat) : (sblkB ic nb fb fi pi inc).length = 4096 := by
  have := sbB_len ic nb fb fi pi inc
  unfold sblkB
  rw [List.length_append, List.length_append, this, List.length_replicate, List.length_replicate]
theorem gdB_len (a b c d e f : Nat) : (gdB a b c d e f).length = 4096 := by
  unfold gdB
  simp only [List.length_append, leB_len, List.length_replicate]
section
variable {ic nb fb fi pi inc : Nat}
theorem sb_at (X : List UInt8) (o k : Nat) : leAt (sblkB ic nb fb fi pi inc ++ X) (1024 + o) k = leAt (sb5 ic nb fb fi pi inc ++ (List.replicate 2048 0 ++ X)) o k := by
  unfold sblkB
  rw [List.append_assoc, List.append_assoc, leAt_right' (by rw [List.length_replicate]; omega), List.length_replicate, Nat.add_sub_cancel_left]
theorem sb_f {o k x : Nat} (h : FAt (sbL1 ic nb fb fi pi inc) o k x) (hx : x < 256 ^ k) (X : List UInt8) : leAt (sblkB ic nb fb fi pi inc ++ X) (1024 + o) k = x := by
  have hb := h.bd
  have hl := sbB_len ic nb fb fi pi inc
  have hf := h.le []
  rw [List.append_nil] at hf
  rw [← sb5_hd] at hb hf
  have h104 : o + k ≤ 104 := Nat.le_trans hb (by rw [List.length_take]; omega)
  rw [leAt_take _ h104] at hf
  rw [sb_at, leAt_left _ (by rw [hl]; omega), hf, Nat.mod_eq_of_lt hx]
theorem sb_z (X : List UInt8) {o : Nat} (ho : o + 4 ≤ 12) : leAt (sblkB ic nb fb fi pi inc ++ X) (1024 + (336 + o)) 4 = 0 := by
  have hl := sbB_len ic nb fb fi pi inc
  rw [sb_at, leAt_left _ (by rw [hl]; omega)]
  have h := leAt_drop (sb5 ic nb fb fi pi inc) 336 o 4
  rw [← leAt_take _ ho, sb5_z, leAt_zeros] at h
  exact h.symm
theorem sb_336 (X : List UInt8) : leAt (sblkB ic nb fb fi pi inc ++ X) 1360 4 = 0 := sb_z X (o := 0) (by decide)
theorem sb_344 (X : List UInt8) : leAt (sblkB ic nb fb fi pi inc ++ X) 1368 4 = 0 := sb_z X (o := 8) (by decide)
end
theorem gd_at {A : List UInt8} (hA : A.length = 4096) (X : List UInt8) (a0 a1 a2 a3 a4 a5 : Nat) {o k x : Nat} (h : FAt [(4, a0), (4, a1), (4, a2), (2, a3), (2, a4), (2, a5)] o k x) (hx : x < 256 ^ k) : leAt (A ++ (gdB a0 a1 a2 a3 a4 a5 ++ X)) (4096 + o) k = x := by
  rw [leAt_right' (by omega), hA, Nat.add_sub_cancel_left]
  have e : gdB a0 a1 a2 a3 a4 a5 ++ X = flds [(4, a0), (4, a1), (4, a2), (2, a3), (2, a4), (2, a5)] ++ ((List.replicate 14 0 ++ List.replicate 4064 0) ++ X) := by
    unfold gdB
    simp only [flds, List.append_nil, List.append_assoc, -List.reduceReplicate]
  rw [e, h.le, Nat.mod_eq_of_lt hx]
theorem sb_R (ic nb fb fi inc : Nat) (X : List UInt8) (h1 : ic < 4294967296) (h2 : nb < 4294967296) (hinc : inc = 578 ∨ inc = 33346) : SbR (sblkB ic nb fb fi ic inc ++ X) nb ic inc where
  f0 := sb_f .here (by omega) X
  f4 := sb_f (.there .here) (by omega) X
  f20 := sb_f (.there (.there (.there (.there (.there .here))))) (by decide) X
  f24 := sb_f (.there (.there (.there (.there (.there (.there .here)))))) (by decide) X
  f32 := sb_f (.there (.there (.there (.there (.there (.there (.there (.there .here)))))))) (by decide) X
  f40 := sb_f (.there (.there (.there (.there (.there (.there (.there (.there (.there (.there .here)))))))))) (by omega) X
  f56 := sb_f (.there (.there (.there (.there (.there (.there (.there (.there (.there (.there (.there (.there (.there (.there (.there .here))))))))))))))) (by decide) X
  f58 := sb_f (.there (.there (.there (.there (.there (.there (.there (.there (.there (.there (.there (.there (.there (.there (.there (.there .here)))))))))))))))) (by decide) X
  f76 := sb_f (.there (.there (.there (.there (.there (.there (.there (.there (.there (.there (.there (.there (.there (.there (.there (.there (.there (.there (.there (.there (.there (.there .here)))))))))))))))))))))) (by decide) X
  f84 := sb_f (.there (.there (.there (.there (.there (.there (.there (.there (.there (.there (.there (.there (.there (.there (.there (.there (.there (.there (.there (.there (.there (.there (.there (.there (.there .here))))))))))))))))))))))))) (by decide) X
  f88 := sb_f (.there (.there (.there (.there (.there (.there (.there (.there (.there (.there (.there (.there (.there (.there (.there (.there (.there (.there (.there (.there (.there (.there (.there (.there (.there (.there .here)))))))))))))))))))))))))) (by decide) X
  f92 := sb_f (.there (.there (.there (.there (.there (.there (.there (.there (.there (.there (.there (.there (.there (.there (.there (.there (.there (.there (.there (.there (.there (.there (.there (.there (.there (.there (.there (.there .here)))))))))))))))))))))))))))) (by decide) X
  f96 := sb_f (.there (.there (.there (.there (.there (.there (.there (.there (.there (.there (.there (.there (.there (.there (.there (.there (.there (.there (.there (.there (.there (.there (.there (.there (.there (.there (.there (.there (.there .here))))))))))))))))))))))))))))) (by omega) X
  f100 := sb_f (.there (.there (.there (.there (.there (.there (.there (.there (.there (.there (.there (.there (.there (.there (.there (.there (.there (.there (.there (.there (.there (.there (.there (.there (.there (.there (.there (.there (.there (.there .here)))))))))))))))))))))))))))))) (by decide) X
  f336 := sb_336 X
  hinc := hinc
theorem sb_s12 (ic nb fb fi pi inc : Nat) (X : List UInt8) (h : fb < 4294967296) : leAt (sblkB ic nb fb fi pi inc ++ X) 1036 4 = fb := sb_f (.there (.there (.there .here))) (by omega) X
theorem sb_s16 (ic nb fb fi pi inc : Nat) (X : List UInt8) (h : fi < 4294967296) : leAt (sblkB ic nb fb fi pi inc ++ X) 1040 4 = fi := sb_f (.there (.there (.there (.there .here)))) (by omega) X
theorem sb_s84 (ic nb fb fi pi inc : Nat) (X : List UInt8) : leAt (sblkB ic nb fb fi pi inc ++ X) 1108 4 = 11 := sb_f (.there (.there (.there (.there (.there (.there (.there (.there (.there (.there (.there (.there (.there (.there (.there (.there (.there (.there (.there (.there (.there (.there (.there (.there (.there .here))))))))))))))))))))))))) (by decide) X
end Go.Proofs.YtcdalfhkhifplaaGreatDoor
namespace Go.Proofs.YtcdalfhkhifplaaGreatDoor
open Go
set_option maxRecDepth 100000
set_option maxHeartbeats 4000000
attribute [local irreducible] E EO
theorem drp {A D : List UInt8} {n : Nat} (h : A.length = n) : (A ++ D).drop n = D := List.drop_left' h
theorem dirI_ok (md ui gi lk b : Nat) (hmd : md &&& 61440 = 16384) (hmd2 : md < 65536) (hui : ui < 4294967296) (hgi : gi < 4294967296) (hlk : lk < 65536) : InoOk ⟨0, 0, md, ui, gi, lk, 1, 786432, 4096, extB b 1, [], none⟩ :=
  ⟨hmd2, .inl hmd, hui, hgi, by show 4096 < 1000000000000; decide, hlk, by show 1 < 4294967296; decide, by show 786432 < 4294967296; decide, by show (extB b 1).length ≤ 136; rw [extB_len]; omega, .inr ⟨rfl, by show (extB b 1).length ≤ 60; rw [extB_len]; omega⟩⟩
theorem dirI_len (md ui gi lk b : Nat) : (dirI md ui gi lk b).length = 256 := inoB_len (.inr ⟨rfl, by show (extB b 1).length ≤ 60; rw [extB_len]; omega⟩) (by show (extB b 1).length ≤ 136; rw [extB_len]; omega)
theorem tbC_len (md ui gi : Nat) : ∀ (names : List (List UInt8)) (b : Nat), (tbC md ui gi b names).length = (names.length - 1) * 256
  | [], _ => rfl
  | [_], _ => rfl
  | _ :: c :: r, b => by
    rw [tbC, List.length_append, dirI_len, tbC_len md ui gi (c :: r)]
    simp only [List.length_cons]; omega
abbrev bbD (n m : Nat) : Nat := itD n m + up16 (11 + n) / 16
abbrev nbD (n m : Nat) : Nat := itD n m + up16 (11 + n) / 16 + 2
abbrev incD (il : Bool) : Nat := if il then 33346 else 578
theorem up16_ok (n : Nat) : up16 n % 16 = 0 ∧ n ≤ up16 n ∧ up16 n < n + 16 := by unfold up16; omega
section
variable (il : Bool) (md ui gi : Nat) (names : List (List UInt8)) (inl : Bool) (data : List UInt8)
theorem tbD_len (h0 : names ≠ []) (hdl : data.length ≤ 4000) (hi : inl = true → data.length ≤ 136) : (tbD md ui gi names inl data).length = (11 + names.length) * 256 := by
  have h1 : 1 ≤ names.length := by cases names with | nil => exact absurd rfl h0 | cons a r => simp
  have hf := fileF_ok (names.length - 1) 0 inl data hdl hi
  unfold tbD
  simp only [List.length_append, dirI_len, tbC_len, inoB_len hf.xl hf.dl, List.length_replicate]
  omega
theorem imgD_seg : imgD il md ui gi names inl data = sblkB (up16 (11 + names.length)) (nbD names.length (blkD inl data)) 0 (up16 (11 + names.length) - (11 + names.length)) (up16 (11 + names.length)) (incD il) ++ (gdB (bbD names.length (blkD inl data)) (bbD names.length (blkD inl data) + 1) (itD names.length (blkD inl data)) 0 (up16 (11 + names.length) - (11 + names.length)) (names.length + 1) ++
    (bodyD inl data ++ (dsD names ++ (tbD md ui gi names inl data ++ (List.replicate (up16 (11 + names.length) * 256 - (11 + names.length) * 256) 0 ++ (bm (fun _ => true) 4096 ++ bm (fun j => decide (j < 11 + names.length)) 4096)))))) := by
  unfold imgD
  simp only [List.append_assoc, -List.reduceReplicate]
theorem imgD_len (h0 : names ≠ []) (hnl : ∀ c ∈ names, c.length ≤ 255) (hdl : data.length ≤ 4000) (hi : inl = true → data.length ≤ 136) : (imgD il md ui gi names inl data).length = nbD names.length (blkD inl data) * 4096 := by
  obtain ⟨u1, u2, u3⟩ := up16_ok (11 + names.length)
  rw [imgD_seg]
  simp only [List.length_append, sblkB_len, gdB_len, bodyD_len inl data hdl, dsD_len names h0 hnl, tbD_len md ui gi names inl data h0 hdl hi, bm_len, List.length_replicate, itD]
  unfold nbD itD
  generalize up16 (11 + names.length) = u at *
  omega
theorem imgD_body : (imgD il md ui gi names inl data).drop 8192 = bodyD inl data ++ (dsD names ++ (tbD md ui gi names inl data ++ (List.replicate (up16 (11 + names.length) * 256 - (11 + names.length) * 256) 0 ++ (bm (fun _ => true) 4096 ++ bm (fun j => decide (j < 11 + names.length)) 4096)))) := by
  rw [imgD_seg, ← List.append_assoc]
  exact drp (by rw [List.length_append, sblkB_len, gdB_len])
theorem imgD_dirs (hdl : data.length ≤ 4000) : (imgD il md ui gi names inl data).drop ((2 + blkD inl data) * 4096) = dsD names ++ (tbD md ui gi names inl data ++ (List.replicate (up16 (11 + names.length) * 256 - (11 + names.length) * 256) 0 ++ (bm (fun _ => true) 4096 ++ bm (fun j => decide (j < 11 + names.length)) 4096))) := by
  rw [show (2 + blkD inl data) * 4096 = 8192 + blkD inl data * 4096 by omega, ← List.drop_drop, imgD_body il md ui gi names inl data]
  exact drp (bodyD_len inl data hdl)
theorem imgD_tab (h0 : names ≠ []) (hnl : ∀ c ∈ names, c.length ≤ 255) (hdl : data.length ≤ 4000) : (imgD il md ui gi names inl data).drop (itD names.length (blkD inl data) * 4096) = tbD md ui gi names inl data ++ (List.replicate (up16 (11 + names.length) * 256 - (11 + names.length) * 256) 0 ++ (bm (fun _ => true) 4096 ++ bm (fun j => decide (j < 11 + names.length)) 4096)) := by
  rw [show itD names.length (blkD inl data) * 4096 = (2 + blkD inl data) * 4096 + (names.length + 1) * 4096 by unfold itD; omega, ← List.drop_drop, imgD_dirs il md ui gi names inl data hdl]
  exact drp (dsD_len names h0 hnl)
theorem imgD_free (h0 : names ≠ []) (hnl : ∀ c ∈ names, c.length ≤ 255) (hdl : data.length ≤ 4000) (hi : inl = true → data.length ≤ 136) : (imgD il md ui gi names inl data).drop (itD names.length (blkD inl data) * 4096 + (11 + names.length) * 256) = List.replicate (up16 (11 + names.length) * 256 - (11 + names.length) * 256) 0 ++ (bm (fun _ => true) 4096 ++ bm (fun j => decide (j < 11 + names.length)) 4096) := by
  rw [← List.drop_drop, imgD_tab il md ui gi names inl data h0 hnl hdl]
  exact drp (tbD_len md ui gi names inl data h0 hdl hi)
theorem imgD_bb (h0 : names ≠ []) (hnl : ∀ c ∈ names, c.length ≤ 255) (hdl : data.length ≤ 4000) (hi : inl = true → data.length ≤ 136) : (imgD il md ui gi names inl data).drop (bbD names.length (blkD inl data) * 4096) = bm (fun _ => true) 4096 ++ bm (fun j => decide (j < 11 + names.length)) 4096 := by
  obtain ⟨u1, u2, u3⟩ := up16_ok (11 + names.length)
  rw [show bbD names.length (blkD inl data) * 4096 = (itD names.length (blkD inl data) * 4096 + (11 + names.length) * 256) + (up16 (11 + names.length) * 256 - (11 + names.length) * 256) by show (_ + _ / 16) * 4096 = _; generalize up16 (11 + names.length) = u at *; omega, ← List.drop_drop, imgD_free il md ui gi names inl data h0 hnl hdl hi]
  exact drp List.length_replicate
theorem imgD_ib (h0 : names ≠ []) (hnl : ∀ c ∈ names, c.length ≤ 255) (hdl : data.length ≤ 4000) (hi : inl = true → data.length ≤ 136) : (imgD il md ui gi names inl data).drop ((bbD names.length (blkD inl data) + 1) * 4096) = bm (fun j => decide (j < 11 + names.length)) 4096 := by
  rw [Nat.add_mul, ← List.drop_drop, imgD_bb il md ui gi names inl data h0 hnl hdl hi]
  exact drp (bm_len _ _)
end
end Go.Proofs.YtcdalfhkhifplaaGreatDoor
namespace Go.Proofs.YtcdalfhkhifplaaGreatDoor
open Go
set_option maxRecDepth 100000
set_option maxHeartbeats 4000000
attribute [local irreducible] E EO
def riD (md ui gi par num lk : Nat) (c : List UInt8) (last : Bool) : RI := ⟨num, md, ui, gi, 4096, lk, 1, 786432, false, 1, dirB 4096 [(num, [46], 2), (par, [46, 46], 2), (num + 1, c, if last then 1 else 2)], ([46], num, 2) :: ([46, 46], par, 2) :: [(c, num + 1, if last then 1 else 2)]⟩
def riF (inl : Bool) (data : List UInt8) (num : Nat) : RI := if inl then ⟨num, 32768, 0, 0, data.length, 1, 0, 268697600, true, 0, data, []⟩ else if data = [] then ⟨num, 32768, 0, 0, 0, 1, 0, 262144, false, 0, [], []⟩ else ⟨num, 32768, 0, 0, data.length, 1, 1, 786432, false, 1, data, []⟩
def chR (md ui gi : Nat) (inl : Bool) (data : List UInt8) : Nat → Nat → List (List UInt8) → List RI
  | _, _, [] => []
  | par, num, [_] => [riF inl data num]
  | par, num, _ :: c :: r => riD md ui gi par num (if r = [] then 2 else 3) c (decide (r = [])) :: chR md ui gi inl data num (num + 1) (c :: r)
theorem riF_num (inl : Bool) (data : List UInt8) (num : Nat) : (riF inl data num).num = num ∧ (riF inl data num).mode = 32768 ∧ (riF inl data num).links = 1 ∧ (riF inl data num).ents = [] ∧ (riF inl data num).data = data := by
  unfold riF
  split
  · exact ⟨rfl, rfl, rfl, rfl, rfl⟩
  · split
    · rename_i h; exact ⟨rfl, rfl, rfl, rfl, h.symm⟩
    · exact ⟨rfl, rfl, rfl, rfl, rfl⟩
theorem gd_set {α : Type} (l : List α) (i j : Nat) (a d : α) : (l.set i a).getD j d = if i = j ∧ j < l.length then a else l.getD j d := by
  simp only [List.getD_eq_getElem?_getD, List.getElem?_set]
  by_cases h : i = j
  · subst h
    by_cases h2 : i < l.length
    · simp [h2]
    · simp [h2, List.getElem?_eq_none (by omega : l.length ≤ i)]
  · simp [h]
theorem file_inoC (v : Vs) (g : Geo v) (it num d gF : Nat) (inl : Bool) (data T : List UInt8) (hdl : data.length ≤ 4000) (hi : inl = true → data.length ≤ 136) (hit : leAt v.img 4104 4 = it) (h1 : 1 ≤ num) (h2 : num ≤ v.pi) (hfit : it * 4096 + num * 256 < v.img.length)
    (hB : v.img.drop (it * 4096 + (num - 1) * 256) = inoB (fileF d gF inl data) ++ T) (hb : blkD inl data = 1 → (v.img.drop (2 * 4096)).take data.length = data ∧ 2 < v.nb ∧ 2 ∉ v.cl) :
    InoC v (riF inl data num) (if blkD inl data = 1 then 2 :: v.cl else v.cl) := by
  have hok := fileF_ok d gF inl data hdl hi
  have hB2 : inoB (fileF d gF inl data) = (v.img.drop (it * 4096 + (num - 1) * 256)).take 256 := by
    rw [hB, List.take_left' (inoB_len hok.xl hok.dl)]
  cases inl with
  | true =>
    rw [if_neg (by unfold blkD; simp)]
    exact inl_inoC v g it num d gF data (hi rfl) hit h1 h2 hfit hB2
  | false =>
    by_cases h0 : data = []
    · subst h0
      rw [if_neg (by unfold blkD; simp)]
      exact emp_inoC v g it num d gF hit h1 h2 (by omega) hB2
    · have hbl : blkD false data = 1 := by unfold blkD; rw [if_pos ⟨rfl, h0⟩]
      have hpos : 1 ≤ data.length := by
        cases data with
        | nil => exact absurd rfl h0
        | cons a r => simp
      obtain ⟨hb1, hb2, hb3⟩ := hb hbl
      rw [if_pos hbl]
      have h := ext_inoC v g it num 2 (fileF d gF false data) [] hit h1 h2 (by omega) hB2 (by show (if false = true then data else if data = [] then [] else extB 2 1) = extB 2 1; rw [if_neg h0]; rfl) hok rfl hpos (by show data.length ≤ 4096; omega)
        (by show (if false = false ∧ data ≠ [] then 1 else 0) = 1; rw [if_pos ⟨rfl, h0⟩]) (by show (if false = true then 268697600 else if data = [] then 262144 else 786432) = 786432; rw [if_neg h0]; rfl) (.inl (by show ftN 32768 = 1; decide)) hb2 hb3
      have e : riF false data num = ⟨num, (fileF d gF false data).mode, (fileF d gF false data).uid, (fileF d gF false data).gid, (fileF d gF false data).size, (fileF d gF false data).links, 1, 786432, false, 1, (v.img.drop (2 * 4096)).take (fileF d gF false data).size, []⟩ := by
        unfold riF
        rw [if_neg (by simp), if_neg h0]
        show _ = (⟨num, 32768, 0, 0, data.length, 1, 1, 786432, false, 1, (v.img.drop (2 * 4096)).take data.length, []⟩ : RI)
        rw [hb1]
      rw [e]; exact h
theorem dir_inoC (v : Vs) (g : Geo v) (it num b md ui gi lk : Nat) (dat T D : List UInt8) (ents : List (List UInt8 × Nat × Nat)) (hmd : md &&& 61440 = 16384) (hmd2 : md < 65536) (hui : ui < 4294967296) (hgi : gi < 4294967296) (hlk : lk < 65536) (hit : leAt v.img 4104 4 = it) (h1 : 1 ≤ num) (h2 : num ≤ v.pi)
    (hfit : it * 4096 + num * 256 ≤ v.img.length) (hB : v.img.drop (it * 4096 + (num - 1) * 256) = dirI md ui gi lk b ++ T) (hD : v.img.drop (b * 4096) = dat ++ D) (hdl : dat.length = 4096) (hb : b < v.nb) (hcl : b ∉ v.cl) :
    InoC v ⟨num, md, ui, gi, 4096, lk, 1, 786432, false, 1, dat, ents⟩ (b :: v.cl) := by
  have h := ext_inoC v g it num b ⟨0, 0, md, ui, gi, lk, 1, 786432, 4096, extB b 1, [], none⟩ ents hit h1 h2 hfit (by rw [hB, List.take_left' (dirI_len md ui gi lk b)]; rfl) rfl (dirI_ok md ui gi lk b hmd hmd2 hui hgi hlk) rfl (by show 1 ≤ 4096; decide) (by show 4096 ≤ 4096; decide) rfl rfl (.inr (ft_dir hmd)) hb hcl
  have e : dat = (v.img.drop (b * 4096)).take 4096 := by rw [hD, List.take_left' hdl]
  rw [e]
  exact h
theorem mode_at {img T : List UInt8} {x : Nd} {p : Nat} (h : img.drop p = inoB x ++ T) (hx : InoOk x) : leAt img p 2 = x.mode := by
  have h1 := leAt_drop img p 0 2
  rw [Nat.add_zero, h, leAt_left _ (by rw [inoB_len hx.xl hx.dl]; decide)] at h1
  rw [← h1]
  exact ino_f1 x .here hx.md
theorem mode_dir {img T : List UInt8} {md ui gi lk b p : Nat} (h : img.drop p = dirI md ui gi lk b ++ T) (hmd : md &&& 61440 = 16384) (hmd2 : md < 65536) (hui : ui < 4294967296) (hgi : gi < 4294967296) (hlk : lk < 65536) : leAt img p 2 = md :=
  mode_at (x := ⟨0, 0, md, ui, gi, lk, 1, 786432, 4096, extB b 1, [], none⟩) h (dirI_ok md ui gi lk b hmd hmd2 hui hgi hlk)
end Go.Proofs.YtcdalfhkhifplaaGreatDoor
namespace Go.Proofs.YtcdalfhkhifplaaGreatDoor
open Go
set_option maxRecDepth 100000
set_option maxHeartbeats 1000000
attribute [local irreducible] E EO
theorem ft_fil : ftN 32768 = 1 := by decide
theorem chR_num (md ui gi : Nat) (inl : Bool) (data : List UInt8) : ∀ (names : List (List UInt8)) (par num : Nat), (chR md ui gi inl data par num names).map (·.num) = List.range' num names.length
  | [], _, _ => rfl
  | [_], _, num => by simp [chR, riF_num, List.range'_one]
  | _ :: c :: r, par, num => by
    rw [chR, List.map_cons, chR_num md ui gi inl data (c :: r) num (num + 1)]
    rfl
theorem Geo.mk' {v w : Vs} (g : Geo v) (h1 : w.img = v.img) (h2 : w.ic = v.ic) (h3 : w.nb = v.nb) (h4 : w.pi = v.pi) : Geo w :=
  ⟨by rw [h1, h3]; exact g.len, by rw [h1, h2]; exact g.ic, by rw [h3]; exact g.nb, by rw [h3]; exact g.nb2, by rw [h4]; exact g.pi, by rw [h4]; exact g.pi2⟩
theorem rl_small {c : List UInt8} (h : c.length ≤ 255) : rlN c ≤ 266 := by unfold rlN; omega
theorem dirC_len (num par nx ft : Nat) (c : List UInt8) (h : c.length ≤ 255) : (dirB 4096 [(num, [46], 2), (par, [46, 46], 2), (nx, c, ft)]).length = 4096 := dirB_fit _ _ (by
  have := rl_small h
  simp only [List.map_cons, List.map_nil, List.sum_cons, List.sum_nil]
  have h1 : rlN [46] = 12 := rfl
  have h2 : rlN [46, 46] = 12 := rfl
  omega)
theorem dirC_DBs (num par nx ft : Nat) (c : List UInt8) (h : c.length ≤ 255) (h1 : c ≠ []) (hn : num ≠ 0) (hn2 : num < 4294967296) (hp : par ≠ 0) (hp2 : par < 4294967296) (hx : nx ≠ 0) (hx2 : nx < 4294967296) (hft : ft < 256) :
    DBs (dirB 4096 [(num, [46], 2), (par, [46, 46], 2), (nx, c, ft)]) (([46], num, 2) :: ([46, 46], par, 2) :: [(c, nx, ft)]) := by
  have hr := rl_small h
  have hc : 1 ≤ c.length := by
    cases c with
    | nil => exact absurd rfl h1
    | cons a r => simp
  exact dir_DBs [(num, [46], 2), (par, [46, 46], 2), (nx, c, ft)] (by
    simp only [List.map_cons, List.map_nil, List.sum_cons, List.sum_nil]
    have h1 : rlN [46] = 12 := rfl
    have h2 : rlN [46, 46] = 12 := rfl
    omega) (by
    intro e he
    simp only [List.mem_cons, List.not_mem_nil, or_false] at he
    rcases he with rfl | rfl | rfl
    · exact ⟨by show 1 ≤ 1; decide, by show 1 ≤ 255; decide, hn, hn2, by show 2 < 256; decide⟩
    · exact ⟨by show 1 ≤ 2; decide, by show 2 ≤ 255; decide, hp, hp2, by show 2 < 256; decide⟩
    · exact ⟨hc, h, hx, hx2, hft⟩)
def clC (m : Nat) : Nat → Nat → List Nat → List Nat
  | 0, _, cl => if m = 1 then 2 :: cl else cl
  | k + 1, b, cl => clC m k (b + 1) (b :: cl)
theorem chain_rtr (md ui gi : Nat) (hmd : md &&& 61440 = 16384) (hmd2 : md < 65536) (hui : ui < 4294967296) (hgi : gi < 4294967296) (inl : Bool) (data : List UInt8) (hdl : data.length ≤ 4000) (hi : inl = true → data.length ≤ 136) (it d gF : Nat) :
    ∀ (names : List (List UInt8)) (c : List UInt8) (v : Vs) (s : RS) (num b par : Nat) (T D : List UInt8), Geo v → leAt v.img 4104 4 = it → (∀ c ∈ names, good c ∧ c.length ≤ 255) → v.img.drop (it * 4096 + (num - 1) * 256) = tbC md ui gi b (c :: names) ++ (inoB (fileF d gF inl data) ++ T) → v.img.drop (b * 4096) = bytesC par num (c :: names) ++ D →
      12 ≤ num → num + names.length ≤ v.pi → it * 4096 + v.pi * 256 < v.img.length → b + names.length ≤ v.nb → 2 < b → (blkD inl data = 1 → (v.img.drop (2 * 4096)).take data.length = data ∧ 2 < v.nb ∧ 2 ∉ v.cl) → (∀ k, b ≤ k → k < b + names.length → k ∉ v.cl) →
      s.q = [num] → RSz s (v.pi + 1) → (∀ k, num < k → k ≤ v.pi → s.seen.getD k true = false) → s.par[num]? = some par → par ≠ 0 → par < 4294967296 → s.nms.getD num 0 = 1 → (∀ k, num < k → s.nms.getD k 0 = 0) → (∀ k, num ≤ k → s.sub.getD k 0 = 0) →
      ∃ (cl' : List Nat) (s' : RS), cl' = clC (blkD inl data) names.length b v.cl ∧ RTR it (names.length + 1) v s { v with cl := cl', inos := v.inos ++ chR md ui gi inl data par num (c :: names) } s' ∧ (∀ k, k ∈ cl' ↔ k ∈ v.cl ∨ (b ≤ k ∧ k < b + names.length) ∨ (k = 2 ∧ blkD inl data = 1)) ∧
        (∀ k, k < num → s'.sub.getD k 0 = s.sub.getD k 0) ∧ (∀ x ∈ chR md ui gi inl data par num (c :: names), x.links = if ftN x.mode = 2 then s'.sub.getD x.num 0 + 2 else s'.nms.getD x.num 0) ∧ (∀ k, k ≤ num → s'.nms.getD k 0 = s.nms.getD k 0)
  | [], c, v, s, num, b, par, T, D, g, hit, hgood, hT, hD, hn12, hnp, hfit, hb, hb2, hdb, hcl, hq, hz, hs, hpar, hpar0, hpar2, hn1, hnm, hsub => by
    obtain ⟨f1, f2, f3, f4, f5⟩ := riF_num inl data num
    have hnp' : num ≤ v.pi := by simpa using hnp
    have hI := file_inoC v g it num d gF inl data T hdl hi hit (by omega) hnp' (by omega) (by rw [hT, tbC, List.nil_append]) hdb
    refine ⟨if blkD inl data = 1 then 2 :: v.cl else v.cl, { s with q := [] }, rfl, RTR.file (x := riF inl data num) (by rw [f1]; exact hq) (by rw [← f1] at hI ⊢; exact hI) (by rw [f2]; decide) (by rw [f2]; decide) f4 (by rw [f1]; simpa using hnp) (RTR.done rfl), ?_, fun _ _ => rfl, ?_, fun _ _ => rfl⟩
    · intro k
      by_cases hbl : blkD inl data = 1
      · rw [if_pos hbl, List.mem_cons]
        simp only [List.length_nil]
        constructor
        · rintro (rfl | h)
          · exact .inr (.inr ⟨rfl, hbl⟩)
          · exact .inl h
        · rintro (h | h | h)
          · exact .inr h
          · omega
          · exact .inl h.1
      · rw [if_neg hbl]
        simp only [List.length_nil]
        constructor
        · exact .inl
        · rintro (h | h | h)
          · exact h
          · omega
          · exact absurd h.2 hbl
    · intro x hx
      have hx' : x = riF inl data num := by simpa [chR] using hx
      subst hx'
      rw [f2, f3, f1, if_neg (by decide)]
      exact hn1.symm
  | c' :: r, c, v, s, num, b, par, T, D, g, hit, hgood, hT, hD, hn12, hnp, hfit, hb, hb2, hdb, hcl, hq, hz, hs, hpar, hpar0, hpar2, hn1, hnm, hsub => by
    have hgood' := hgood c' (by simp)
    obtain ⟨⟨gd1, gd2, gd3, gd4⟩, gd5⟩ := hgood'
    simp only [List.length_cons] at hnp hb hcl
    rw [tbC, List.append_assoc] at hT
    rw [bytesC, List.append_assoc] at hD
    obtain ⟨ft, hft⟩ : ∃ ft, ft = if r = [] then 1 else 2 := ⟨_, rfl⟩
    have hft' : (if decide (r = []) = true then 1 else 2) = ft := by rw [hft]; by_cases h : r = [] <;> simp [h]
    rw [← hft] at hD
    have hpin : v.pi ≤ 30000 := g.pi2
    have hlen := dirC_len num par (num + 1) ft c' gd5
    have hlk : (if r = [] then 2 else 3) < 65536 := by split <;> decide
    have hI := dir_inoC v g it num b md ui gi (if r = [] then 2 else 3) (dirB 4096 [(num, [46], 2), (par, [46, 46], 2), (num + 1, c', ft)]) _ _ (([46], num, 2) :: ([46, 46], par, 2) :: [(c', num + 1, ft)]) hmd hmd2 hui hgi hlk hit (by omega) (by omega) (by omega) hT hD hlen (by omega) (hcl b (Nat.le_refl _) (by omega))
    have hx : riD md ui gi par num (if r = [] then 2 else 3) c' (decide (r = [])) = ⟨num, md, ui, gi, 4096, (if r = [] then 2 else 3), 1, 786432, false, 1, dirB 4096 [(num, [46], 2), (par, [46, 46], 2), (num + 1, c', ft)], ([46], num, 2) :: ([46, 46], par, 2) :: [(c', num + 1, ft)]⟩ := by
      unfold riD; rw [hft']
    have hT' : v.img.drop (it * 4096 + num * 256) = tbC md ui gi (b + 1) (c' :: r) ++ (inoB (fileF d gF inl data) ++ T) := by
      rw [show it * 4096 + num * 256 = it * 4096 + (num - 1) * 256 + 256 by omega, ← List.drop_drop, hT]
      exact drp (dirI_len _ _ _ _ _)
    have hD' : v.img.drop ((b + 1) * 4096) = bytesC num (num + 1) (c' :: r) ++ D := by
      rw [Nat.add_mul, Nat.one_mul, ← List.drop_drop, hD]
      exact drp hlen
    have hmode : ftN (leAt v.img (it * 4096 + num * 256) 2) = ft := by
      cases r with
      | nil =>
        have hok := fileF_ok d gF inl data hdl hi
        have := mode_at (x := fileF d gF inl data) (T := T) (by rw [hT', tbC, List.nil_append]) hok
        rw [this, hft, if_pos rfl]
        exact ft_fil
      | cons c2 r2 =>
        rw [tbC, List.append_assoc] at hT'
        rw [mode_dir hT' hmd hmd2 hui hgi (by split <;> decide), hft, ft_dir hmd, if_neg (by simp)]
    have hsn : s.seen.getD (num + 1) true = false := hs (num + 1) (by omega) (by omega)
    obtain ⟨s1, hs1⟩ : ∃ s1, s1 = rsE num { s with q := [] } (c', num + 1, ft) := ⟨_, rfl⟩
    have hs1' := hs1
    rw [rsE_new (by exact hsn)] at hs1'
    have hz1 : RSz s1 (v.pi + 1) := by rw [hs1]; exact RSz.step (s := { s with q := [] }) ⟨hz.1, hz.2, hz.3, hz.4⟩ _
    obtain ⟨z1, z2, z3, z4⟩ := hz
    have hsub1 : ∀ k, s1.sub.getD k 0 = if k = num ∧ ft = 2 then 1 else s.sub.getD k 0 := by
      intro k
      rw [hs1']
      show (if ft = 2 then s.sub.set num (s.sub.getD num 0 + 1) else s.sub).getD k 0 = _
      by_cases hf2 : ft = 2
      · rw [if_pos hf2, gd_set]
        by_cases hk : num = k
        · subst hk
          rw [if_pos ⟨rfl, by rw [z4]; omega⟩, if_pos ⟨rfl, hf2⟩, hsub num (Nat.le_refl _)]
        · rw [if_neg (by rintro ⟨h, _⟩; exact hk h), if_neg (by rintro ⟨h, _⟩; exact hk h.symm)]
      · rw [if_neg hf2, if_neg (by rintro ⟨_, h⟩; exact hf2 h)]
    have hnm1 : ∀ k, s1.nms.getD k 0 = if k = num + 1 then 1 else s.nms.getD k 0 := by
      intro k
      rw [hs1']
      show (s.nms.set (num + 1) (s.nms.getD (num + 1) 0 + 1)).getD k 0 = _
      rw [gd_set]
      by_cases hk : num + 1 = k
      · subst hk
        rw [if_pos ⟨rfl, by rw [z3]; omega⟩, if_pos rfl, hnm (num + 1) (by omega)]
      · rw [if_neg (by rintro ⟨h, _⟩; exact hk h), if_neg (fun h => hk h.symm)]
    obtain ⟨cl', s', r0, r1, r2', r3, r4, r5⟩ := chain_rtr md ui gi hmd hmd2 hui hgi inl data hdl hi it d gF r c' { v with cl := b :: v.cl, inos := v.inos ++ [riD md ui gi par num (if r = [] then 2 else 3) c' (decide (r = []))] } s1 (num + 1) (b + 1) num T D (g.mk' rfl rfl rfl rfl) hit (fun z hz => hgood z (by simp [hz])) hT' hD'
      (by omega) (by show num + 1 + r.length ≤ v.pi; omega) hfit (by show b + 1 + r.length ≤ v.nb; omega) (by omega) (fun h => ⟨(hdb h).1, (hdb h).2.1, by
        show 2 ∉ b :: v.cl
        rw [List.mem_cons]; rintro (h2 | h2)
        · omega
        · exact (hdb h).2.2 h2⟩) (fun k hk1 hk2 => by
        show k ∉ b :: v.cl
        rw [List.mem_cons]; rintro (h2 | h2)
        · omega
        · exact hcl k (by omega) (by omega) h2) (by rw [hs1']; rfl) hz1 (fun k hk1 hk2 => by
        rw [hs1']
        show (s.seen.set (num + 1) true).getD k true = false
        rw [gd_set, if_neg (by rintro ⟨h, _⟩; omega)]
        exact hs k (by omega) hk2) (by
        rw [hs1']
        show (s.par.set (num + 1) num)[num + 1]? = some num
        rw [List.getElem?_set, if_pos rfl, if_pos (by rw [z2]; omega)]) (by omega) (by omega) (by rw [hnm1, if_pos rfl]) (fun k hk => by rw [hnm1, if_neg (by omega)]; exact hnm k (by omega)) (fun k hk => by rw [hsub1, if_neg (by rintro ⟨h, _⟩; omega)]; exact hsub k (by omega))
    refine ⟨cl', s', r0, RTR.dir (x := riD md ui gi par num (if r = [] then 2 else 3) c' (decide (r = []))) (q := []) (par := par) (es := [(c', num + 1, ft)]) hq (by rw [hx]; exact hI) hmd2 (ft_dir hmd) rfl (by show num ≤ v.pi; omega) hpar hpar2 (by rw [hx])
      (by rw [hx]; exact dirC_DBs num par (num + 1) ft c' gd5 gd1 (by omega) (by omega) hpar0 hpar2 (by omega) (by omega) (by rw [hft]; split <;> decide)) (by rw [hx]; show 0 < (dirB 4096 _).length; rw [hlen]; decide) (by rw [hx]; show (dirB 4096 _).length ≤ _; rw [hlen]; decide) (by show 1 ≤ 100000; decide)
      (by rw [hx]; show [[46], [46, 46], c'].Nodup; simp [Ne.symm gd3, Ne.symm gd4]) (by
        intro e he
        have : e = (c', num + 1, ft) := by simpa using he
        subst this; exact ⟨gd2, gd5⟩) ⟨⟨gd3, gd4, by show 11 ≤ num + 1; omega, by show num + 1 ≤ v.pi; omega, by show it * 4096 + (num + 1) * 256 ≤ _; omega, hmode, fun _ => hsn⟩, trivial⟩ (by
        rw [List.foldl_cons, List.foldl_nil]
        show RTR it (r.length + 1) _ (rsE num { s with q := [] } (c', num + 1, ft)) _ _
        rw [← hs1]
        have e : v.inos ++ chR md ui gi inl data par num (c :: c' :: r) = (v.inos ++ [riD md ui gi par num (if r = [] then 2 else 3) c' (decide (r = []))]) ++ chR md ui gi inl data num (num + 1) (c' :: r) := by rw [chR]; simp
        rw [e]
        exact r1), ?_, ?_, ?_, ?_⟩
    · intro k
      rw [r2' k]
      show k ∈ b :: v.cl ∨ _ ↔ _
      rw [List.mem_cons, List.length_cons]
      constructor
      · rintro ((h | h) | h | h)
        · exact .inr (.inl (by omega))
        · exact .inl h
        · exact .inr (.inl (by omega))
        · exact .inr (.inr h)
      · rintro (h | h | h)
        · exact .inl (.inr h)
        · by_cases hk : k = b
          · exact .inl (.inl hk)
          · exact .inr (.inl (by omega))
        · exact .inr (.inr h)
    · intro k hk
      rw [r3 k (by omega), hsub1, if_neg (by rintro ⟨h, _⟩; omega)]
    · intro x hx
      rw [chR] at hx
      rcases List.mem_cons.1 hx with rfl | hx
      · show (if r = [] then 2 else 3) = if ftN md = 2 then s'.sub.getD num 0 + 2 else _
        rw [if_pos (ft_dir hmd), r3 num (by omega), hsub1]
        by_cases hr : r = []
        · rw [if_pos hr, if_neg (by rw [hft, if_pos hr]; rintro ⟨_, h⟩; omega), hsub num (Nat.le_refl _)]
        · rw [if_neg hr, if_pos ⟨rfl, by rw [hft, if_neg hr]⟩]
      · exact r4 x hx
    · intro k hk
      rw [r5 k (by omega), hnm1, if_neg (by omega)]
end Go.Proofs.YtcdalfhkhifplaaGreatDoor
namespace Go.Proofs.YtcdalfhkhifplaaGreatDoor
open Go
set_option maxRecDepth 100000
set_option maxHeartbeats 1000000
attribute [local irreducible] E EO
def riRoot (md ui gi : Nat) (c : List UInt8) (one : Bool) : RI := ⟨2, md, ui, gi, 4096, if one then 3 else 4, 1, 786432, false, 1, rootB c one, ([46], 2, 2) :: ([46, 46], 2, 2) :: [(lfN, 11, 2), (c, 12, if one then 1 else 2)]⟩
def riLf : RI := ⟨11, 16832, 0, 0, 4096, 2, 1, 786432, false, 1, lfB, ([46], 11, 2) :: ([46, 46], 2, 2) :: []⟩
def deepRI (md ui gi : Nat) (names : List (List UInt8)) (inl : Bool) (data : List UInt8) : List RI := [riRoot md ui gi (names.headD []) (decide (names.length ≤ 1)), riLf] ++ chR md ui gi inl data 2 12 names
abbrev rs0 (pi : Nat) : RS := { q := [2], seen := (List.replicate (pi + 1) false).set 2 true, par := (List.replicate (pi + 1) 0).set 2 2, nms := List.replicate (pi + 1) 0, sub := List.replicate (pi + 1) 0 }
theorem rep_getD {α : Type} (m k : Nat) (a : α) : (List.replicate m a).getD k a = a := by
  rw [List.getD_eq_getElem?_getD, List.getElem?_replicate]; split <;> rfl
theorem root_DBs (c : List UInt8) (one : Bool) (h : c.length ≤ 255) (h1 : c ≠ []) : DBs (rootB c one) (([46], 2, 2) :: ([46, 46], 2, 2) :: [(lfN, 11, 2), (c, 12, if one then 1 else 2)]) := by
  have hr := rl_small h
  have hc : 1 ≤ c.length := by
    cases c with
    | nil => exact absurd rfl h1
    | cons a r => simp
  exact dir_DBs [(2, [46], 2), (2, [46, 46], 2), (11, lfN, 2), (12, c, if one then 1 else 2)] (by
    simp only [List.map_cons, List.map_nil, List.sum_cons, List.sum_nil]
    have h1 : rlN [46] = 12 := rfl
    have h2 : rlN [46, 46] = 12 := rfl
    have h3 : rlN lfN = 20 := rfl
    omega) (by
    intro e he
    simp only [List.mem_cons, List.not_mem_nil, or_false] at he
    rcases he with rfl | rfl | rfl | rfl
    · exact ⟨by show 1 ≤ 1; decide, by show 1 ≤ 255; decide, by show 2 ≠ 0; decide, by show 2 < 4294967296; decide, by show 2 < 256; decide⟩
    · exact ⟨by show 1 ≤ 2; decide, by show 2 ≤ 255; decide, by show 2 ≠ 0; decide, by show 2 < 4294967296; decide, by show 2 < 256; decide⟩
    · exact ⟨by show 1 ≤ 10; decide, by show 10 ≤ 255; decide, by show 11 ≠ 0; decide, by show 11 < 4294967296; decide, by show 2 < 256; decide⟩
    · exact ⟨hc, h, by show 12 ≠ 0; decide, by show 12 < 4294967296; decide, by show (if one then 1 else 2) < 256; split <;> decide⟩)
theorem lf_DBs : DBs lfB (([46], 11, 2) :: ([46, 46], 2, 2) :: []) :=
  dir_DBs [(11, [46], 2), (2, [46, 46], 2)] (by decide) (by
    intro e he
    simp only [List.mem_cons, List.not_mem_nil, or_false] at he
    rcases he with rfl | rfl
    · exact ⟨by show 1 ≤ 1; decide, by show 1 ≤ 255; decide, by show 11 ≠ 0; decide, by show 11 < 4294967296; decide, by show 2 < 256; decide⟩
    · exact ⟨by show 1 ≤ 2; decide, by show 2 ≤ 255; decide, by show 2 ≠ 0; decide, by show 2 < 4294967296; decide, by show 2 < 256; decide⟩)
theorem rs_root (pi ft : Nat) (c : List UInt8) (hpi : 12 ≤ pi) (s1 : RS) (h : s1 = [(lfN, 11, 2), (c, 12, ft)].foldl (rsE 2) { rs0 pi with q := [] }) :
    s1.q = [11, 12] ∧ RSz s1 (pi + 1) ∧ (∀ k, 12 < k → k ≤ pi → s1.seen.getD k true = false) ∧ s1.par[11]? = some 2 ∧ s1.par[12]? = some 2 ∧ s1.nms.getD 12 0 = 1 ∧ (∀ k, 12 < k → s1.nms.getD k 0 = 0) ∧ (∀ k, 2 < k → s1.sub.getD k 0 = 0) ∧ s1.sub.getD 2 0 = if ft = 2 then 2 else 1 := by
  rw [List.foldl_cons, List.foldl_cons, List.foldl_nil] at h
  have hz0 : RSz { rs0 pi with q := [] } (pi + 1) := ⟨by simp, by simp, by simp, by simp⟩
  have hz1 := hz0.step (n := 2) (lfN, 11, 2)
  have hz2 := hz1.step (n := 2) (c, 12, ft)
  rw [← h] at hz2
  have hse : ∀ k, 2 < k → k ≤ pi → ((List.replicate (pi + 1) false).set 2 true).getD k true = false := by
    intro k h1 h2
    rw [gd_set, if_neg (by omega), List.getD_eq_getElem?_getD, List.getElem?_replicate, if_pos (by omega)]; rfl
  rw [rsE_new (s := { rs0 pi with q := [] }) (by exact hse 11 (by decide) (by omega))] at h hz1
  rw [rsE_new (by
    show (((List.replicate (pi + 1) false).set 2 true).set 11 true).getD 12 true = false
    rw [gd_set, if_neg (by omega)]
    exact hse 12 (by decide) hpi)] at h
  subst h
  refine ⟨rfl, hz2, ?_, ?_, ?_, ?_, ?_, ?_, ?_⟩
  · intro k h1 h2
    show ((((List.replicate (pi + 1) false).set 2 true).set 11 true).set 12 true).getD k true = false
    rw [gd_set, if_neg (by omega), gd_set, if_neg (by omega)]
    exact hse k (by omega) h2
  · show ((((List.replicate (pi + 1) 0).set 2 2).set 11 2).set 12 2)[11]? = some 2
    rw [List.getElem?_set_ne (by decide), List.getElem?_set_self (by simp; omega)]
  · show ((((List.replicate (pi + 1) 0).set 2 2).set 11 2).set 12 2)[12]? = some 2
    rw [List.getElem?_set_self (by simp; omega)]
  · show (((List.replicate (pi + 1) 0).set 11 _).set 12 (((List.replicate (pi + 1) 0).set 11 _).getD 12 0 + 1)).getD 12 0 = 1
    rw [gd_set, if_pos ⟨rfl, by simp; omega⟩, gd_set, if_neg (by omega), rep_getD]
  · intro k hk
    show (((List.replicate (pi + 1) 0).set 11 _).set 12 _).getD k 0 = 0
    rw [gd_set, if_neg (by omega), gd_set, if_neg (by omega), rep_getD]
  · intro k hk
    show (if ft = 2 then (((List.replicate (pi + 1) 0).set 2 _).set 2 _) else ((List.replicate (pi + 1) 0).set 2 _)).getD k 0 = 0
    split
    · rw [gd_set, if_neg (by omega), gd_set, if_neg (by omega), rep_getD]
    · rw [gd_set, if_neg (by omega), rep_getD]
  · show (if ft = 2 then (((List.replicate (pi + 1) 0).set 2 ((List.replicate (pi + 1) 0).getD 2 0 + 1)).set 2 (((List.replicate (pi + 1) 0).set 2 ((List.replicate (pi + 1) 0).getD 2 0 + 1)).getD 2 0 + 1)) else ((List.replicate (pi + 1) 0).set 2 ((List.replicate (pi + 1) 0).getD 2 0 + 1))).getD 2 0 = if ft = 2 then 2 else 1
    have e1 : ((List.replicate (pi + 1) 0).set 2 ((List.replicate (pi + 1) 0).getD 2 0 + 1)).getD 2 0 = 1 := by
      rw [gd_set, if_pos ⟨rfl, by simp; omega⟩, rep_getD]
    split
    · rw [gd_set, if_pos ⟨rfl, by simp; omega⟩, e1]
    · exact e1
theorem deep_rtr (il : Bool) (md ui gi : Nat) (hmd : md &&& 61440 = 16384) (hmd2 : md < 65536) (hui : ui < 4294967296) (hgi : gi < 4294967296) (c : List UInt8) (r : List (List UInt8)) (hgood : ∀ z ∈ c :: r, good z ∧ z.length ≤ 255) (hlf : c ≠ lfN) (hlen : r.length ≤ 99) (inl : Bool) (data : List UInt8) (hdl : data.length ≤ 4000) (hi : inl = true → data.length ≤ 136)
    (v : Vs) (g : Geo v) (it m bb : Nat) (hm : blkD inl data = m) (hit0 : it = 3 + m + (r.length + 1)) (himg : v.img = imgD il md ui gi (c :: r) inl data) (hnb : v.nb = it + v.pi / 16 + 2) (hpi : v.pi = up16 (11 + (r.length + 1))) (hbb : bb = it + v.pi / 16) (hcl : v.cl = gcl it ((v.pi * 256 + 4095) / 4096) bb) (hin : v.inos = []) :
    ∃ (cl' : List Nat) (s' : RS), cl' = clC m r.length (4 + m) ((3 + m) :: (2 + m) :: v.cl) ∧ RTR it (r.length + 3) v (rs0 v.pi) { v with cl := cl', inos := deepRI md ui gi (c :: r) inl data } s' ∧ (∀ k, k < v.nb → k ∈ cl') ∧ (∀ x ∈ deepRI md ui gi (c :: r) inl data, x.links = if ftN x.mode = 2 then s'.sub.getD x.num 0 + 2 else s'.nms.getD x.num 0) := by
  have h0 : c :: r ≠ [] := by simp
  have hnl : ∀ z ∈ c :: r, z.length ≤ 255 := fun z hz => (hgood z hz).2
  have hm1 : m ≤ 1 := by rw [← hm]; unfold blkD; split <;> decide
  have hlen0 := g.len
  obtain ⟨u1, u2, u3⟩ := up16_ok (11 + (r.length + 1))
  rw [← hpi] at u1 u2 u3
  have hit : leAt v.img 4104 4 = it := by
    rw [himg, imgD_seg]
    exact (gd_at (sblkB_len _ _ _ _ _ _) _ _ _ _ _ _ _ (.there (.there .here)) (by show itD (r.length + 1) (blkD inl data) < _; unfold itD; rw [hm]; omega)).trans (by show itD (r.length + 1) (blkD inl data) = it; unfold itD; rw [hm, hit0])
  have itE : itD (c :: r).length (blkD inl data) = it := by show itD (r.length + 1) _ = it; unfold itD; rw [hm, hit0]
  have htab := imgD_tab il md ui gi (c :: r) inl data h0 hnl hdl
  have hdir := imgD_dirs il md ui gi (c :: r) inl data hdl
  have hbod := imgD_body il md ui gi (c :: r) inl data
  rw [← himg, itE] at htab
  rw [← himg, hm] at hdir
  rw [← himg] at hbod
  generalize (List.replicate (up16 (11 + (c :: r).length) * 256 - (11 + (c :: r).length) * 256) 0 ++ (bm (fun _ => true) 4096 ++ bm (fun j => decide (j < 11 + (c :: r).length)) 4096)) = T at htab hdir hbod
  unfold tbD at htab
  rw [hm] at htab
  simp only [List.append_assoc, -List.reduceReplicate] at htab
  unfold dsD at hdir
  simp only [List.append_assoc] at hdir
  obtain ⟨⟨gd1, gd2, gd3, gd4⟩, gd5⟩ := hgood c (by simp)
  have hhd : (c :: r).headD [] = c := rfl
  rw [hhd] at hdir
  obtain ⟨one, hone⟩ : ∃ one, one = decide ((c :: r).length ≤ 1) := ⟨_, rfl⟩
  have hone' : (one = true) = (r = []) := by
    rw [hone]; cases r <;> simp
  have hrl := rootB_len c one gd5
  rw [← hone] at hdir
  have hlk0 : (if (c :: r).length ≤ 1 then 3 else 4) = if one then 3 else 4 := by rw [hone]; simp
  rw [hlk0] at htab
  -- the inodes
  have t2 : v.img.drop (it * 4096 + (2 - 1) * 256) = dirI md ui gi (if one then 3 else 4) (2 + m) ++ (List.replicate 2048 0 ++ (dirI 16832 0 0 2 (3 + m) ++ (tbC md ui gi (4 + m) (c :: r) ++ (inoB (fileF ((c :: r).length - 1) 0 inl data) ++ T)))) := by
    rw [← List.drop_drop, htab]
    exact drp List.length_replicate
  have t11 : v.img.drop (it * 4096 + (11 - 1) * 256) = dirI 16832 0 0 2 (3 + m) ++ (tbC md ui gi (4 + m) (c :: r) ++ (inoB (fileF ((c :: r).length - 1) 0 inl data) ++ T)) := by
    rw [show it * 4096 + (11 - 1) * 256 = it * 4096 + (2 - 1) * 256 + 256 + 2048 by omega, ← List.drop_drop, ← List.drop_drop, t2, drp (dirI_len _ _ _ _ _)]
    exact drp List.length_replicate
  have t12 : v.img.drop (it * 4096 + (12 - 1) * 256) = tbC md ui gi (4 + m) (c :: r) ++ (inoB (fileF ((c :: r).length - 1) 0 inl data) ++ T) := by
    rw [show it * 4096 + (12 - 1) * 256 = it * 4096 + (11 - 1) * 256 + 256 by omega, ← List.drop_drop, t11]
    exact drp (dirI_len _ _ _ _ _)
  -- the directories
  have d2 := hdir
  have d11 : v.img.drop ((3 + m) * 4096) = lfB ++ (bytesC 2 12 (c :: r) ++ (tbD md ui gi (c :: r) inl data ++ T)) := by
    rw [show (3 + m) * 4096 = (2 + m) * 4096 + 4096 by omega, ← List.drop_drop, d2]
    exact drp hrl
  have d12 : v.img.drop ((4 + m) * 4096) = bytesC 2 12 (c :: r) ++ (tbD md ui gi (c :: r) inl data ++ T) := by
    rw [show (4 + m) * 4096 = (3 + m) * 4096 + 4096 by omega, ← List.drop_drop, d11]
    exact drp lfB_len
  have dat : blkD inl data = 1 → (v.img.drop (2 * 4096)).take data.length = data := by
    intro hb1
    have hi' : inl = false := by
      cases inl with
      | false => rfl
      | true => exact absurd hb1 (by unfold blkD; simp)
    rw [show 2 * 4096 = 8192 from rfl, hbod]
    unfold bodyD padB
    rw [hi', if_neg (by decide), List.append_assoc, List.take_left]
  obtain ⟨ft, hft⟩ : ∃ ft, ft = if one then 1 else 2 := ⟨_, rfl⟩
  obtain ⟨s1, hs1⟩ : ∃ s1, s1 = [(lfN, 11, 2), (c, 12, ft)].foldl (rsE 2) { rs0 v.pi with q := [] } := ⟨_, rfl⟩
  obtain ⟨q1, q2, q3, q4, q5, q6, q7, q8, q9⟩ := rs_root v.pi ft c (by omega) s1 hs1
  have hfit : it * 4096 + v.pi * 256 < v.img.length := by rw [hlen0, hnb]; omega
  have I2 := dir_inoC v g it 2 (2 + m) md ui gi (if one then 3 else 4) (rootB c one) _ _ (([46], 2, 2) :: ([46, 46], 2, 2) :: [(lfN, 11, 2), (c, 12, ft)]) hmd hmd2 hui hgi (by split <;> decide) hit (by decide) (by omega) (by omega) t2 d2 hrl (by omega) (by rw [hcl, gcl_mem]; omega)
  have I11 := dir_inoC { v with cl := (2 + m) :: v.cl, inos := v.inos ++ [riRoot md ui gi c one] } (g.mk' rfl rfl rfl rfl) it 11 (3 + m) 16832 0 0 2 lfB _ _ (([46], 11, 2) :: ([46, 46], 2, 2) :: []) (by decide) (by decide) (by decide) (by decide) (by decide) hit (by decide) (by show 11 ≤ v.pi; omega) (by show _ ≤ v.img.length; omega) t11 d11 lfB_len (by show 3 + m < v.nb; omega) (by show 3 + m ∉ (2 + m) :: v.cl; rw [List.mem_cons, hcl, gcl_mem]; omega)
  obtain ⟨cl', s', r0, r1, r2, r3, r4, r5⟩ := chain_rtr md ui gi hmd hmd2 hui hgi inl data hdl hi it ((c :: r).length - 1) 0 r c { v with cl := (3 + m) :: (2 + m) :: v.cl, inos := v.inos ++ [riRoot md ui gi c one] ++ [riLf] } { s1 with q := [12] } 12 (4 + m) 2 _ _ (g.mk' rfl rfl rfl rfl) hit (fun z hz => hgood z (by simp [hz])) t12 d12 (by decide)
    (by show 12 + r.length ≤ v.pi; omega) hfit (by show 4 + m + r.length ≤ v.nb; omega) (by omega) (fun h => ⟨dat h, by show 2 < v.nb; omega, by show 2 ∉ (3 + m) :: (2 + m) :: v.cl; rw [List.mem_cons, List.mem_cons, hcl, gcl_mem]; omega⟩) (fun k h1 h2 => by show k ∉ (3 + m) :: (2 + m) :: v.cl; rw [List.mem_cons, List.mem_cons, hcl, gcl_mem]; omega) rfl ⟨q2.1, q2.2, q2.3, q2.4⟩ q3 q5 (by decide) (by decide) q6 q7 (fun k hk => q8 k (by omega))
  have hftE : (if one = true then 1 else 2) = ft := hft.symm
  have hxr : riRoot md ui gi c one = ⟨2, md, ui, gi, 4096, if one then 3 else 4, 1, 786432, false, 1, rootB c one, ([46], 2, 2) :: ([46, 46], 2, 2) :: [(lfN, 11, 2), (c, 12, ft)]⟩ := by unfold riRoot; rw [hftE]
  have hm2 : ftN (leAt v.img (it * 4096 + (11 - 1) * 256) 2) = 2 := by
    rw [mode_dir t11 (by decide) (by decide) (by decide) (by decide) (by decide)]
    decide
  have hm12 : ftN (leAt v.img (it * 4096 + (12 - 1) * 256) 2) = ft := by
    cases r with
    | nil =>
      rw [mode_at (x := fileF ([c].length - 1) 0 inl data) (T := T) (by rw [t12, tbC, List.nil_append]) (fileF_ok _ 0 inl data hdl hi), hft, if_pos (by rw [hone'])]
      exact ft_fil
    | cons c2 r2 =>
      rw [tbC, List.append_assoc] at t12
      rw [mode_dir t12 hmd hmd2 hui hgi (by split <;> decide), hft, if_neg (by rw [hone']; simp)]
      exact ft_dir hmd
  have hse0 : ∀ k, 2 < k → k ≤ v.pi → ((List.replicate (v.pi + 1) false).set 2 true).getD k true = false := by
    intro k h1 h2
    rw [gd_set, if_neg (by omega), List.getD_eq_getElem?_getD, List.getElem?_replicate, if_pos (by omega)]; rfl
  have hE1 := rsE_new (n := 2) (s := { rs0 v.pi with q := [] }) (e := (lfN, 11, 2)) (by exact hse0 11 (by decide) (by omega))
  refine ⟨cl', s', by rw [r0, hm], RTR.dir (x := riRoot md ui gi c one) (q := []) (par := 2) (es := [(lfN, 11, 2), (c, 12, ft)]) rfl (by rw [hxr]; exact I2) hmd2 (ft_dir hmd) rfl (by show 2 ≤ v.pi; omega) (by show ((List.replicate (v.pi + 1) 0).set 2 2)[2]? = some 2; rw [List.getElem?_set_self (by simp; omega)]) (by decide) (by rw [hxr])
    (by rw [hxr, hft]; exact root_DBs c one gd5 gd1) (by show 0 < (rootB c one).length; omega) (by show (rootB c one).length ≤ _; omega) (by show 2 ≤ 100000; decide) (by rw [hxr]; show [[46], [46, 46], lfN, c].Nodup; simp [Ne.symm gd3, Ne.symm gd4, Ne.symm hlf]) (by
      intro e he
      simp only [List.mem_cons, List.not_mem_nil, or_false] at he
      rcases he with rfl | rfl
      · exact ⟨by show 47 ∉ lfN; decide, by show 10 ≤ 255; decide⟩
      · exact ⟨gd2, gd5⟩) ⟨⟨by show lfN ≠ [46]; decide, by show lfN ≠ [46, 46]; decide, by show 11 ≤ 11; decide, by show 11 ≤ v.pi; omega, by show it * 4096 + 11 * 256 ≤ _; omega, hm2, fun _ => hse0 11 (by decide) (by omega)⟩, ⟨gd3, gd4, by show 11 ≤ 12; decide, by show 12 ≤ v.pi; omega, by show it * 4096 + 12 * 256 ≤ _; omega, hm12, fun _ => by
        show (rsE 2 { rs0 v.pi with q := [] } (lfN, 11, 2)).seen.getD 12 true = false
        rw [hE1]
        show (((List.replicate (v.pi + 1) false).set 2 true).set 11 true).getD 12 true = false
        rw [gd_set, if_neg (by omega)]
        exact hse0 12 (by decide) (by omega)⟩, trivial⟩ (by
      show RTR it (r.length + 2) _ ([(lfN, 11, 2), (c, 12, ft)].foldl (rsE 2) { rs0 v.pi with q := [] }) _ _
      rw [← hs1]
      refine RTR.dir (x := riLf) (q := [12]) (par := 2) (es := []) (by rw [q1]; rfl) I11 (by decide) (by decide) rfl (by show 11 ≤ v.pi; omega) q4 (by decide) rfl lf_DBs (by show 0 < lfB.length; rw [lfB_len]; decide) (by show lfB.length ≤ _; rw [lfB_len]; decide) (by decide) (by decide) (by simp) trivial ?_
      have e : deepRI md ui gi (c :: r) inl data = v.inos ++ [riRoot md ui gi c one] ++ [riLf] ++ chR md ui gi inl data 2 12 (c :: r) := by rw [hin, hone]; rfl
      rw [e]
      exact r1), ?_, ?_⟩
  · intro k hk
    rw [r2 k]
    show k ∈ (3 + m) :: (2 + m) :: v.cl ∨ _
    rw [List.mem_cons, List.mem_cons, hcl, gcl_mem, hm]
    omega
  · intro x hx
    unfold deepRI at hx
    rw [List.mem_append] at hx
    rcases hx with hx | hx
    · simp only [List.mem_cons, List.not_mem_nil, or_false] at hx
      rcases hx with rfl | rfl
      · rw [← hone, hhd]
        show (if one then 3 else 4) = if ftN md = 2 then s'.sub.getD 2 0 + 2 else _
        rw [if_pos (ft_dir hmd), r3 2 (by decide)]
        show _ = s1.sub.getD 2 0 + 2
        rw [q9, hft]
        cases one <;> rfl
      · show 2 = if ftN 16832 = 2 then s'.sub.getD 11 0 + 2 else _
        rw [if_pos (by decide), r3 11 (by decide)]
        show 2 = s1.sub.getD 11 0 + 2
        rw [q8 11 (by decide)]
    · exact r4 x hx
end Go.Proofs.YtcdalfhkhifplaaGreatDoor
namespace Go.Proofs.YtcdalfhkhifplaaGreatDoor
open Go
set_option maxRecDepth 100000
set_option maxHeartbeats 400000
attribute [local irreducible] E EO
theorem chR_dir (md ui gi : Nat) (hmd : md &&& 61440 = 16384) (inl : Bool) (data : List UInt8) : ∀ (names : List (List UInt8)) (par num : Nat), (chR md ui gi inl data par num names).countP (fun x => decide (ftN x.mode = 2)) = names.length - 1
  | [], _, _ => rfl
  | [_], _, num => by
    have h := (riF_num inl data num).2.1
    rw [chR, List.countP_cons_of_neg (by rw [h]; decide)]; rfl
  | _ :: c :: r, par, num => by
    rw [chR, List.countP_cons_of_pos (by show decide (ftN md = 2) = true; rw [ft_dir hmd]; rfl), chR_dir md ui gi hmd inl data (c :: r) num (num + 1)]
    simp only [List.length_cons]; omega
theorem chR_mode (md ui gi : Nat) (hmd2 : md < 65536) (inl : Bool) (data : List UInt8) : ∀ (names : List (List UInt8)) (par num : Nat), ∀ x ∈ chR md ui gi inl data par num names, x.mode < 65536
  | [], _, _ => by simp [chR]
  | [_], _, num => by
    intro x hx
    have hx' : x = riF inl data num := by simpa [chR] using hx
    rw [hx', (riF_num inl data num).2.1]; decide
  | _ :: c :: r, par, num => by
    intro x hx
    rw [chR] at hx
    rcases List.mem_cons.1 hx with rfl | hx
    · exact hmd2
    · exact chR_mode md ui gi hmd2 inl data (c :: r) num (num + 1) x hx
theorem deep_nums (md ui gi : Nat) (names : List (List UInt8)) (inl : Bool) (data : List UInt8) : (deepRI md ui gi names inl data).map (·.num) = 2 :: 11 :: List.range' 12 names.length := by
  unfold deepRI
  rw [List.map_append, chR_num]
  rfl
theorem deep_used (md ui gi : Nat) (names : List (List UInt8)) (inl : Bool) (data : List UInt8) (k : Nat) (hk : 1 ≤ k) : usedN (deepRI md ui gi names inl data) k = decide (k < 12 + names.length) := by
  unfold usedN
  rw [deep_nums]
  by_cases h1 : k < 11
  · rw [decide_eq_true (p := 1 ≤ k ∧ k < 11) ⟨hk, h1⟩, decide_eq_true (p := k < 12 + names.length) (by omega)]; rfl
  · rw [decide_eq_false (by omega), Bool.false_or]
    apply decide_eq_decide.2
    simp only [List.mem_cons, List.mem_range'_1]
    omega
theorem deep_dirN (md ui gi : Nat) (hmd : md &&& 61440 = 16384) (names : List (List UInt8)) (h0 : names ≠ []) (inl : Bool) (data : List UInt8) : dirN (deepRI md ui gi names inl data) = names.length + 1 := by
  have h1 : 1 ≤ names.length := by cases names with | nil => exact absurd rfl h0 | cons a r => simp
  unfold dirN deepRI
  rw [List.countP_append, chR_dir md ui gi hmd, List.countP_cons_of_pos (by show decide (ftN md = 2) = true; rw [ft_dir hmd]; rfl), List.countP_cons_of_pos (by decide), List.countP_nil]
  omega
theorem deep_len (md ui gi : Nat) (names : List (List UInt8)) (inl : Bool) (data : List UInt8) : (deepRI md ui gi names inl data).length = names.length + 2 := by
  have h := congrArg List.length (deep_nums md ui gi names inl data)
  simpa [Nat.add_assoc] using h
theorem cntN_false : ∀ n, cntN (fun _ => false) n = 0
  | 0 => rfl
  | n + 1 => by rw [cntN, cntN_false n]; rfl
theorem cntN_nlt (k : Nat) : ∀ n, cntN (fun i => !decide (i < k)) n = n - k
  | 0 => by simp [cntN]
  | n + 1 => by
    rw [cntN, cntN_nlt k n]
    by_cases h : n < k
    · rw [decide_eq_true h]; simp [b2n]; omega
    · rw [decide_eq_false h]; simp [b2n]; omega
def deepV (ig ic : Nat) (img : List UInt8) (n m : Nat) : Vs := ⟨0, ig, ic, img, nbD n m, up16 (11 + n), [], []⟩
theorem deepRead (il : Bool) (md ui gi : Nat) (hmd : md &&& 61440 = 16384) (hmd2 : md < 65536) (hui : ui < 4294967296) (hgi : gi < 4294967296) (c : List UInt8) (r : List (List UInt8)) (hgood : ∀ z ∈ c :: r, good z ∧ z.length ≤ 255) (hlf : c ≠ lfN) (hlen : r.length ≤ 99) (inl : Bool) (data : List UInt8) (hdl : data.length ≤ 4000) (hi : inl = true → data.length ≤ 136)
    (ig ic : Nat) (img : List UInt8) (himg : img = imgD il md ui gi (c :: r) inl data) (hic : img.length ≤ ic) :
    ∃ cl', Fe Tryz.prog 16 #[.slice (some ⟨ig, 0, none⟩) img.length ic] [ImgQ ig ic img] (fun _ : Nat => True) (fun vg => ptrV vg) (fun vg => [VP { deepV ig ic img (r.length + 1) (blkD inl data) with vg := vg, cl := cl', inos := deepRI md ui gi (c :: r) inl data }, ImgQ ig ic img]) := by
  have h0 : c :: r ≠ [] := by simp
  have hnl : ∀ z ∈ c :: r, z.length ≤ 255 := fun z hz => (hgood z hz).2
  obtain ⟨m, hm⟩ : ∃ m, m = blkD inl data := ⟨_, rfl⟩
  have hm1 : m ≤ 1 := by rw [hm]; unfold blkD; split <;> decide
  obtain ⟨u1, u2, u3⟩ := up16_ok (11 + (r.length + 1))
  obtain ⟨pi, hpi⟩ : ∃ pi, pi = up16 (11 + (r.length + 1)) := ⟨_, rfl⟩
  obtain ⟨it, hit0⟩ : ∃ it, it = 3 + m + (r.length + 1) := ⟨_, rfl⟩
  have hil : img.length = (it + pi / 16 + 2) * 4096 := by
    rw [himg, imgD_len il md ui gi (c :: r) inl data h0 hnl hdl hi]
    show (itD (r.length + 1) (blkD inl data) + up16 (11 + (r.length + 1)) / 16 + 2) * 4096 = _
    unfold itD
    rw [← hm, ← hpi, hit0]
  have hV : deepV ig ic img (r.length + 1) (blkD inl data) = ⟨0, ig, ic, img, it + pi / 16 + 2, pi, [], []⟩ := by
    unfold deepV nbD itD
    rw [← hm, ← hpi, hit0]
  rw [hV]
  rw [← hpi] at u1 u2 u3
  have g0 : ∀ (vg : Nat) (cl : List Nat) (inos : List RI), Geo ⟨vg, ig, ic, img, it + pi / 16 + 2, pi, cl, inos⟩ := fun vg cl inos => ⟨hil, hic, by show 2 ≤ it + pi / 16 + 2; omega, by show it + pi / 16 + 2 ≤ 30000; omega, by show 16 ≤ pi; omega, by show pi ≤ 30000; omega⟩
  have hrt : ∀ vg, ∃ (cl' : List Nat) (s' : RS), cl' = clC m r.length (4 + m) ((3 + m) :: (2 + m) :: gcl it ((pi * 256 + 4095) / 4096) (it + pi / 16)) ∧ RTR it (r.length + 3) ⟨vg, ig, ic, img, it + pi / 16 + 2, pi, gcl it ((pi * 256 + 4095) / 4096) (it + pi / 16), []⟩ (rs0 pi) ⟨vg, ig, ic, img, it + pi / 16 + 2, pi, cl', deepRI md ui gi (c :: r) inl data⟩ s' ∧ (∀ k, k < it + pi / 16 + 2 → k ∈ cl') ∧ (∀ x ∈ deepRI md ui gi (c :: r) inl data, x.links = if ftN x.mode = 2 then s'.sub.getD x.num 0 + 2 else s'.nms.getD x.num 0) := fun vg =>
    deep_rtr il md ui gi hmd hmd2 hui hgi c r hgood hlf hlen inl data hdl hi ⟨vg, ig, ic, img, it + pi / 16 + 2, pi, gcl it ((pi * 256 + 4095) / 4096) (it + pi / 16), []⟩ (g0 _ _ _) it m (it + pi / 16) hm.symm hit0 himg rfl hpi rfl rfl rfl
  have hseg := imgD_seg il md ui gi (c :: r) inl data
  have hfree := imgD_free il md ui gi (c :: r) inl data h0 hnl hdl hi
  have hbb := imgD_bb il md ui gi (c :: r) inl data h0 hnl hdl hi
  have hib := imgD_ib il md ui gi (c :: r) inl data h0 hnl hdl hi
  rw [← himg] at hseg hfree hbb hib
  have eN : (c :: r).length = r.length + 1 := rfl
  have eI : itD (c :: r).length (blkD inl data) = it := by unfold itD; rw [← hm, hit0]; rfl
  have eB : bbD (c :: r).length (blkD inl data) = it + pi / 16 := by unfold bbD; rw [eI, eN, ← hpi]
  have eNb : nbD (c :: r).length (blkD inl data) = it + pi / 16 + 2 := by unfold nbD; rw [eI, eN, ← hpi]
  rw [eB, eI, eNb, eN, ← hpi] at hseg
  rw [eI, eN, ← hpi] at hfree
  rw [eB, eN] at hbb hib
  generalize (bodyD inl data ++ (dsD (c :: r) ++ (tbD md ui gi (c :: r) inl data ++ (List.replicate (pi * 256 - (11 + (r.length + 1)) * 256) 0 ++ (bm (fun _ => true) 4096 ++ bm (fun j => decide (j < 11 + (r.length + 1))) 4096))))) = X at hseg
  have gd : ∀ {o k x : Nat}, FAt [(4, it + pi / 16), (4, it + pi / 16 + 1), (4, it), (2, 0), (2, pi - (11 + (r.length + 1))), (2, r.length + 1 + 1)] o k x → x < 256 ^ k → leAt img (4096 + o) k = x := fun h hx => by
    rw [hseg]
    exact gd_at (sblkB_len _ _ _ _ _ _) X _ _ _ _ _ _ h hx
  have hinc : incD il = 578 ∨ incD il = 33346 := by cases il <;> simp [incD]
  have hSb : SbR img (it + pi / 16 + 2) pi (incD il) := by
    rw [hseg]
    exact sb_R _ _ _ _ _ _ (by omega) (by omega) hinc
  have s12 : leAt img 1036 4 = 0 := by rw [hseg]; exact sb_s12 _ _ _ _ _ _ _ (by decide)
  have s16 : leAt img 1040 4 = pi - (11 + (r.length + 1)) := by rw [hseg]; exact sb_s16 _ _ _ _ _ _ _ (by omega)
  have s84 : leAt img 1108 4 = 11 := by rw [hseg]; exact sb_s84 _ _ _ _ _ _ _
  have s344 : leAt img 1368 4 = 0 := by rw [hseg]; exact sb_344 _
  have m1 : leAt img 4096 4 = it + pi / 16 := gd .here (by omega)
  have m2 : leAt img 4100 4 = it + pi / 16 + 1 := gd (.there .here) (by omega)
  have m3 : leAt img 4104 4 = it := gd (.there (.there .here)) (by omega)
  have m4 : leAt img 4108 2 = 0 := gd (.there (.there (.there .here))) (by decide)
  have m5 : leAt img 4110 2 = pi - (11 + (r.length + 1)) := gd (.there (.there (.there (.there .here)))) (by omega)
  have m6 : leAt img 4112 2 = r.length + 1 + 1 := gd (.there (.there (.there (.there (.there .here))))) (by omega)
  have hzero : ∀ k o, 11 + (r.length + 1) ≤ k → k < pi → o + 2 ≤ 256 → leAt img (it * 4096 + k * 256 + o) 2 = 0 := by
    intro k o h1 h2 h3
    have h := leAt_drop img (it * 4096 + (11 + (r.length + 1)) * 256) ((k - (11 + (r.length + 1))) * 256 + o) 2
    rw [hfree, leAt_left _ (by rw [List.length_replicate]; omega), leAt_zeros] at h
    rw [h]; congr 1; omega
  obtain ⟨cl', hcl'⟩ : ∃ cl', cl' = clC m r.length (4 + m) ((3 + m) :: (2 + m) :: gcl it ((pi * 256 + 4095) / 4096) (it + pi / 16)) := ⟨_, rfl⟩
  have hr2 : ∀ k, k < it + pi / 16 + 2 → k ∈ cl' := by
    obtain ⟨_, _, e, _, h, _⟩ := hrt 0
    rw [hcl', ← e]; exact h
  refine ⟨cl', Read_fn ⟨0, ig, ic, img, it + pi / 16 + 2, pi, [], []⟩ (g0 _ _ _) (incD il) hSb it (it + pi / 16) m1 m2 m3 (by omega) (by show it + (pi * 256 + 4095) / 4096 ≤ it + pi / 16; omega) (by show it + pi / 16 + 1 < it + pi / 16 + 2; omega) cl' (deepRI md ui gi (c :: r) inl data) (fun vg => ?_) (fun _ => true) (fun j => decide (j < 11 + (r.length + 1))) ?_⟩
  · obtain ⟨cl2, s', e, hr1, _, hr3⟩ := hrt vg
    rw [← hcl'] at e
    subst e
    exact readTree_fn ⟨vg, ig, ic, img, it + pi / 16 + 2, pi, gcl it ((pi * 256 + 4095) / 4096) (it + pi / 16), []⟩ ⟨vg, ig, ic, img, it + pi / 16 + 2, pi, cl2, deepRI md ui gi (c :: r) inl data⟩ s' it (r.length + 3) (g0 _ _ _) m3 (by show 2 ≤ pi; omega) (by show pi ≤ 100000; omega) (by omega) rfl hr1 ⟨riRoot md ui gi c (decide ((c :: r).length ≤ 1)), rfl, ft_dir hmd⟩ hr3
  · exact {
      hbb := m1, hib := m2, hit := m3, hb := by show it + pi / 16 + 1 < it + pi / 16 + 2; omega
      hfit := by show it * 4096 + pi * 256 ≤ img.length; omega
      bbm := by show (img.drop ((it + pi / 16) * 4096)).take 4096 = _; rw [hbb, List.take_left' (bm_len _ _)]
      ibm := by show (img.drop ((it + pi / 16 + 1) * 4096)).take 4096 = _; rw [hib, List.take_of_length_le (by rw [bm_len]; decide)]
      fbk := fun i _ => by
        show true = (decide (it + pi / 16 + 2 ≤ i) || decide (i ∈ cl'))
        by_cases h : it + pi / 16 + 2 ≤ i
        · rw [decide_eq_true h]; rfl
        · rw [decide_eq_true (hr2 i (by omega)), Bool.or_true]
      fik := fun i _ => by
        show decide (i < 11 + (r.length + 1)) = usedN (deepRI md ui gi (c :: r) inl data) (i + 1)
        rw [deep_used _ _ _ _ _ _ _ (by omega), eN]
        exact decide_eq_decide.2 (by omega)
      free := fun k h1 h2 h3 => by
        have h3' : usedN (deepRI md ui gi (c :: r) inl data) k = false := h3
        have h2' : k ≤ pi := h2
        rw [deep_used _ _ _ _ _ _ _ h1, eN] at h3'
        have h4 := of_decide_eq_false h3'
        exact ⟨hzero (k - 1) 0 (by omega) (by omega) (by decide), hzero (k - 1) 26 (by omega) (by omega) (by decide)⟩
      c12 := by rw [show (fun i : Nat => !(fun _ : Nat => true) i) = fun _ => false from rfl, cntN_false]; exact m4
      c14 := by show leAt img 4110 2 = cntN (fun i => !decide (i < 11 + (r.length + 1))) pi; rw [cntN_nlt]; exact m5
      c16 := by show leAt img 4112 2 = dirN (deepRI md ui gi (c :: r) inl data); rw [deep_dirN md ui gi hmd _ h0, eN]; exact m6
      s84 := s84
      s12 := by rw [show (fun i : Nat => !(fun _ : Nat => true) i) = fun _ => false from rfl, cntN_false]; exact s12
      s344 := s344
      s16 := by show leAt img 1040 4 = cntN (fun i => !decide (i < 11 + (r.length + 1))) pi; rw [cntN_nlt]; exact s16
      inos := fun x hx => by
        have hx' : x ∈ deepRI md ui gi (c :: r) inl data := hx
        have hn : x.num ∈ (deepRI md ui gi (c :: r) inl data).map (·.num) := List.mem_map.2 ⟨x, hx', rfl⟩
        rw [deep_nums, eN] at hn
        simp only [List.mem_cons, List.mem_range'_1] at hn
        refine ⟨by omega, by show x.num ≤ pi; omega, ?_⟩
        unfold deepRI at hx'
        rw [List.mem_append] at hx'
        rcases hx' with hx' | hx'
        · simp only [List.mem_cons, List.not_mem_nil, or_false] at hx'
          rcases hx' with rfl | rfl
          · exact hmd2
          · show 16832 < 65536; decide
        · exact chR_mode md ui gi hmd2 inl data _ _ _ x hx'
      ilen := by show (deepRI md ui gi (c :: r) inl data).length ≤ 100000; rw [deep_len, eN]; omega }
end Go.Proofs.YtcdalfhkhifplaaGreatDoor
namespace Go.Proofs.YtcdalfhkhifplaaGreatDoor
open Go
set_option maxRecDepth 100000
set_option maxHeartbeats 400000
attribute [local irreducible] E EO
theorem plA_ne : ∀ (l : List RI) (p : List Nat) (i n : Nat), n ∉ l.map (·.num) → (plA p i l)[n]? = p[n]?
  | [], p, i, n, _ => rfl
  | x :: l, p, i, n, h => by
    rw [List.map_cons, List.mem_cons] at h
    rw [plA, plA_ne l _ _ n (fun hm => h (.inr hm)), List.getElem?_set_ne (fun e => h (.inl e.symm))]
theorem plA_get : ∀ (l : List RI) (p : List Nat) (i k n : Nat), (l.map (·.num))[k]? = some n → (l.map (·.num)).Nodup → n < p.length → (plA p i l)[n]? = some (i + k)
  | [], p, i, k, n, h, _, _ => by simp at h
  | x :: l, p, i, 0, n, h, hd, hn => by
    rw [List.map_cons, List.nodup_cons] at hd
    have hx : x.num = n := by simpa using h
    subst hx
    rw [plA, plA_ne l _ _ _ hd.1, List.getElem?_set_self hn]; rfl
  | x :: l, p, i, k + 1, n, h, hd, hn => by
    rw [List.map_cons, List.nodup_cons] at hd
    rw [plA, plA_get l _ _ k n (by simpa using h) hd.2 (by simpa using hn)]
    congr 1; omega
theorem deep_nd (md ui gi : Nat) (names : List (List UInt8)) (inl : Bool) (data : List UInt8) : ((deepRI md ui gi names inl data).map (·.num)).Nodup := by
  rw [deep_nums, List.nodup_cons, List.nodup_cons]
  refine ⟨?_, ?_, List.nodup_range'⟩
  · simp only [List.mem_cons, List.mem_range'_1]; omega
  · simp only [List.mem_range'_1]; omega
theorem deep_pl (pi md ui gi : Nat) (names : List (List UInt8)) (inl : Bool) (data : List UInt8) (hp : 11 + names.length ≤ pi) (pl : List Nat) (hpl : pl = plA (List.replicate (pi + 1) 0) 0 (deepRI md ui gi names inl data)) :
    pl[11]? = some 1 ∧ (∀ j, j < names.length → pl[12 + j]? = some (2 + j)) ∧ pl.length = pi + 1 := by
  have hd := deep_nd md ui gi names inl data
  refine ⟨?_, fun j hj => ?_, by rw [hpl, plA_len]; simp⟩
  · have := plA_get _ (List.replicate (pi + 1) 0) 0 1 11 (by rw [deep_nums]; rfl) hd (by simp; omega)
    rw [hpl, this]
  · have := plA_get _ (List.replicate (pi + 1) 0) 0 (2 + j) (12 + j) (by rw [deep_nums, show 2 + j = j + 1 + 1 by omega, List.getElem?_cons_succ, List.getElem?_cons_succ, List.getElem?_range' hj, Nat.one_mul]) hd (by simp; omega)
    rw [hpl, this]; congr 1; omega
theorem bl_irr : ∀ l : List UInt8, Op.bytesLess l l = false
  | [] => rfl
  | a :: l => by
    rw [Op.bytesLess, bl_irr l]
    simp [UInt8.lt_irrefl]
def chK : Nat → List (List UInt8) → List (List (List UInt8 × Nat))
  | _, [] => []
  | _, [_] => [[]]
  | i, _ :: c :: r => [(c, i + 1)] :: chK (i + 1) (c :: r)
def deepK (names : List (List UInt8)) : List (List (List UInt8 × Nat)) := [insN [(lfN, 1)] (names.headD []) 2, []] ++ chK 2 names
theorem chK_len : ∀ (i : Nat) (names : List (List UInt8)), (chK i names).length = names.length
  | _, [] => rfl
  | _, [_] => rfl
  | i, _ :: c :: r => by rw [chK, List.length_cons, chK_len (i + 1) (c :: r)]; rfl
theorem chK_ok (md ui gi : Nat) (hmd : md &&& 61440 = 16384) (hmd2 : md < 65536) (hui : ui < 4294967296) (hgi : gi < 4294967296) (inl : Bool) (data : List UInt8) (pl : List Nat) : ∀ (names : List (List UInt8)) (par num idx : Nat), (∀ c ∈ names, good c) → (∀ j, j < names.length → pl[num + j]? = some (idx + j)) → idx + names.length ≤ 1000000 →
    ∀ (i : Nat) (x : RI) (ks : List (List UInt8 × Nat)), (chR md ui gi inl data par num names)[i]? = some x → (chK idx names)[i]? = some ks → TrOk pl x ks
  | [], _, _, _, _, _, _, i, x, ks, h, _ => by simp [chR] at h
  | [c], par, num, idx, hg, hp, hl, i, x, ks, h1, h2 => by
    cases i with
    | succ i => simp [chR] at h1
    | zero =>
      have hx : riF inl data num = x := by simpa [chR] using h1
      have hk : [] = ks := by simpa [chK] using h2
      subst hx hk
      obtain ⟨f1, f2, f3, f4, f5⟩ := riF_num inl data num
      have hnum := (List.getElem?_eq_some_iff.1 (hp 0 (by simp))).1
      refine ⟨by rw [f1]; exact hnum, by rw [f2]; decide, ?_, ?_, by rw [f2]; exact .inl ft_fil, by rw [f4]; exact .nil, by rw [f4]; exact Nat.zero_le _⟩
      · unfold riF; split
        · exact Nat.lt_of_lt_of_le Nat.zero_lt_one (by decide)
        · split <;> exact Nat.lt_of_lt_of_le Nat.zero_lt_one (by decide)
      · unfold riF; split
        · exact Nat.lt_of_lt_of_le Nat.zero_lt_one (by decide)
        · split <;> exact Nat.lt_of_lt_of_le Nat.zero_lt_one (by decide)
  | c0 :: c :: r, par, num, idx, hg, hp, hl, i, x, ks, h1, h2 => by
    rw [chR] at h1
    rw [chK] at h2
    simp only [List.length_cons] at hl
    cases i with
    | succ i =>
      exact chK_ok md ui gi hmd hmd2 hui hgi inl data pl (c :: r) num (num + 1) (idx + 1) (fun z hz => hg z (by simp [hz])) (fun j hj => by
        have := hp (j + 1) (by simp at hj ⊢; omega)
        rw [show num + 1 + j = num + (j + 1) by omega, this]; congr 1; omega) (by simp only [List.length_cons]; omega) i x ks (by simpa using h1) (by simpa using h2)
    | zero =>
      have hx : riD md ui gi par num (if r = [] then 2 else 3) c (decide (r = [])) = x := by simpa using h1
      have hk : [(c, idx + 1)] = ks := by simpa using h2
      subst hx hk
      obtain ⟨gd1, gd2, gd3, gd4⟩ := hg c (by simp)
      have hnum := (List.getElem?_eq_some_iff.1 (hp 0 (by simp))).1
      refine ⟨hnum, hmd2, hui, hgi, .inr (ft_dir hmd), ?_, by show 3 ≤ 1000000; decide⟩
      exact .dot (.inl rfl) (.dot (.inr rfl) (.ent gd3 gd4 (by have := hp 1 (by simp); exact this) (by omega) (by show 0 ≤ 100000; decide) rfl .nil))
theorem root_ins (c : List UInt8) (h : c ≠ lfN) : hasN [(lfN, 1)] c = false ∧ (insN [(lfN, 1)] c 2)[placeN (insN [(lfN, 1)] c 2) c]? = some (c, 2) ∧ (insN [(lfN, 1)] c 2).length = 2 := by
  cases hb : Op.bytesLess lfN c with
  | true =>
    have hp : placeN [(lfN, 1)] c = 1 := by simp only [placeN]; rw [if_pos hb]
    have hi : insN [(lfN, 1)] c 2 = [(lfN, 1), (c, 2)] := by unfold insN; rw [hp]; rfl
    have hp2 : placeN [(lfN, 1), (c, 2)] c = 1 := by
      simp only [placeN]; rw [if_pos hb, if_neg (by rw [bl_irr]; simp)]
    refine ⟨by unfold hasN; rw [hp]; rfl, ?_, by rw [hi]; rfl⟩
    rw [hi, hp2]; rfl
  | false =>
    have hp : placeN [(lfN, 1)] c = 0 := by simp only [placeN]; rw [if_neg (by rw [hb]; simp)]
    have hi : insN [(lfN, 1)] c 2 = [(c, 2), (lfN, 1)] := by unfold insN; rw [hp]; rfl
    have hp2 : placeN [(c, 2), (lfN, 1)] c = 0 := by
      simp only [placeN]; rw [if_neg (by rw [bl_irr]; simp)]
    refine ⟨?_, ?_, by rw [hi]; rfl⟩
    · unfold hasN; rw [hp]
      show (lfN == c) = false
      simpa using Ne.symm h
    · rw [hi, hp2]; rfl
theorem deep_tr (pi md ui gi : Nat) (hmd : md &&& 61440 = 16384) (hmd2 : md < 65536) (hui : ui < 4294967296) (hgi : gi < 4294967296) (c : List UInt8) (r : List (List UInt8)) (hgood : ∀ z ∈ c :: r, good z) (hlf : c ≠ lfN) (hlen : r.length ≤ 99) (inl : Bool) (data : List UInt8) (hp : 12 + r.length ≤ pi) (pl : List Nat) (hpl : pl = plA (List.replicate (pi + 1) 0) 0 (deepRI md ui gi (c :: r) inl data)) :
    ∀ (i : Nat) (x : RI) (ks : List (List UInt8 × Nat)), (deepRI md ui gi (c :: r) inl data)[i]? = some x → (deepK (c :: r))[i]? = some ks → TrOk pl x ks := by
  obtain ⟨p1, p2, p3⟩ := deep_pl pi md ui gi (c :: r) inl data (by simp only [List.length_cons]; omega) pl hpl
  obtain ⟨gd1, gd2, gd3, gd4⟩ := hgood c (by simp)
  obtain ⟨i1, i2, i3⟩ := root_ins c hlf
  intro i x ks h1 h2
  unfold deepRI at h1
  unfold deepK at h2
  match i, h1, h2 with
  | 0, h1, h2 =>
    have hx : riRoot md ui gi c (decide ((c :: r).length ≤ 1)) = x := by simpa using h1
    have hk : insN [(lfN, 1)] c 2 = ks := by simpa using h2
    subst hx hk
    refine ⟨by show 2 < pl.length; omega, hmd2, hui, hgi, .inr (ft_dir hmd), ?_, by show 4 ≤ 1000000; decide⟩
    exact .dot (.inl rfl) (.dot (.inr rfl) (.ent (by show lfN ≠ [46]; decide) (by show lfN ≠ [46, 46]; decide) p1 (by decide) (by show 0 ≤ 100000; decide) rfl (.ent gd3 gd4 (p2 0 (by simp)) (by decide) (by show 1 ≤ 100000; decide) i1 .nil)))
  | 1, h1, h2 =>
    have hx : riLf = x := by simpa using h1
    have hk : [] = ks := by simpa using h2
    subst hx hk
    exact ⟨by show 11 < pl.length; omega, by show 16832 < 65536; decide, by show 0 < 4294967296; decide, by show 0 < 4294967296; decide, .inr (by show ftN 16832 = 2; decide), .dot (.inl rfl) (.dot (.inr rfl) .nil), by show 2 ≤ 1000000; decide⟩
  | i + 2, h1, h2 =>
    exact chK_ok md ui gi hmd hmd2 hui hgi inl data pl (c :: r) 2 12 2 hgood p2 (by simp only [List.length_cons]; omega) i x ks (by simpa using h1) (by simpa using h2)
theorem chR_at (md ui gi : Nat) (inl : Bool) (data : List UInt8) : ∀ (names : List (List UInt8)) (par num idx i : Nat) (nm : List UInt8), names[i + 1]? = some nm → ∃ x, (chR md ui gi inl data par num names)[i]? = some x ∧ (chK idx names)[i]? = some [(nm, idx + 1 + i)] ∧ x.mode = md ∧ x.uid = ui ∧ x.gid = gi
  | [], _, _, _, _, _, h => by simp at h
  | [_], _, _, _, _, _, h => by simp at h
  | c0 :: c :: r, par, num, idx, 0, nm, h => by
    have hc : c = nm := by simpa using h
    subst hc
    exact ⟨_, by rw [chR]; rfl, by rw [chK]; rfl, rfl, rfl, rfl⟩
  | c0 :: c :: r, par, num, idx, i + 1, nm, h => by
    obtain ⟨x, h1, h2, h3⟩ := chR_at md ui gi inl data (c :: r) num (num + 1) (idx + 1) i nm (by simpa using h)
    exact ⟨x, by rw [chR]; simpa using h1, by rw [chK, List.getElem?_cons_succ, h2, show idx + 1 + 1 + i = idx + 1 + (i + 1) by omega], h3⟩
theorem chR_last (md ui gi : Nat) (inl : Bool) (data : List UInt8) : ∀ (r : List (List UInt8)) (c : List UInt8) (par num idx : Nat), ∃ k, (chR md ui gi inl data par num (c :: r))[r.length]? = some (riF inl data k) ∧ (chK idx (c :: r))[r.length]? = some []
  | [], c, par, num, idx => ⟨num, rfl, rfl⟩
  | c' :: r, c, par, num, idx => by
    obtain ⟨k, h1, h2⟩ := chR_last md ui gi inl data r c' num (num + 1) (idx + 1)
    exact ⟨k, by rw [chR]; simpa using h1, by rw [chK]; simpa using h2⟩
def atN (i : Nat) : Nat := if i = 0 then 0 else i + 1
theorem deep_node (md ui gi : Nat) (c : List UInt8) (r : List (List UInt8)) (hlf : c ≠ lfN) (inl : Bool) (data : List UInt8) (i : Nat) (nm : List UInt8) (h : (c :: r)[i]? = some nm) :
    ∃ x ks, (deepRI md ui gi (c :: r) inl data)[atN i]? = some x ∧ (deepK (c :: r))[atN i]? = some ks ∧ x.mode = md ∧ x.uid = ui ∧ x.gid = gi ∧ ks[placeN ks nm]? = some (nm, i + 2) ∧ (0 < i → ks.length = 1) ∧ ks.length ≤ 2 := by
  obtain ⟨i1, i2, i3⟩ := root_ins c hlf
  cases i with
  | zero =>
    have hc : c = nm := by simpa using h
    subst hc
    exact ⟨riRoot md ui gi c (decide ((c :: r).length ≤ 1)), insN [(lfN, 1)] c 2, rfl, rfl, rfl, rfl, rfl, i2, fun h => absurd h (by decide), by rw [i3]; decide⟩
  | succ i =>
    obtain ⟨x, h1, h2, h3, h4, h5⟩ := chR_at md ui gi inl data (c :: r) 2 12 2 i nm h
    refine ⟨x, [(nm, 2 + 1 + i)], ?_, ?_, h3, h4, h5, ?_, fun _ => rfl, by show 1 ≤ 2; decide⟩
    · unfold deepRI atN
      rw [if_neg (by omega)]
      simpa using h1
    · unfold deepK atN
      rw [if_neg (by omega)]
      simpa using h2
    · have hp : placeN [(nm, 2 + 1 + i)] nm = 0 := by simp only [placeN]; rw [if_neg (by rw [bl_irr]; simp)]
      rw [hp, show 2 + 1 + i = i + 1 + 2 by omega]; rfl
theorem deep_last (md ui gi : Nat) (c : List UInt8) (r : List (List UInt8)) (inl : Bool) (data : List UInt8) : ∃ k, (deepRI md ui gi (c :: r) inl data)[atN (r.length + 1)]? = some (riF inl data k) ∧ (deepK (c :: r))[atN (r.length + 1)]? = some [] := by
  obtain ⟨k, h1, h2⟩ := chR_last md ui gi inl data r c 2 12 2
  refine ⟨k, ?_, ?_⟩
  · unfold deepRI atN
    rw [if_neg (by omega)]
    simpa using h1
  · unfold deepK atN
    rw [if_neg (by omega)]
    simpa using h2
end Go.Proofs.YtcdalfhkhifplaaGreatDoor
