/-
  The walks: a writer is made, files are handed to it; The walks: operations are copied, the first file is created; The walks: a step on an open file, steps on a file system in memory; Plain facts: bytes are cut into pieces; The walks: bytes are cut into pieces; The walks: an image is written by operations; Plain facts: a chain of directories with a file at its end; The walks: the states of a chain of directories with a file at its end. Conditions: none.
-/
import Derived.Test.YtppkiiomedembaaGreatDoorM21
import Derived.Test.YtppkiiomedembaaGreatDoorM18
import Derived.Test.YtppkiiomedembaaGreatDoorM05
set_option linter.unusedVariables false
set_option linter.unusedSimpArgs false
namespace Go.Proofs.YtppkiiomedembaaGreatDoor
open Go
set_option maxRecDepth 100000
set_option maxHeartbeats 1000000
attribute [local irreducible] E EO
theorem spoilt0_fn : Qn Tryz.prog 44 #[.nilIface] [] (.int .i64 0) := by
  refine fn_of_E' (args := [_]) 3 _ [_, undef, undef] Tryz.func44 rfl Tryz.ntmps44 ?_
  refine walk ?_
  exact y_ret [2] rfl rfl
abbrev rawW (dg : Nat) (il : Bool) (mx : Int) : List Value := [ptrV dg, .slice none 0 0, .string (str []), .pointer none, .int .i64 0, .int .i64 0, .int .i64 0, .nilIface, .bool false, .bool il, .int .i64 mx, .int .u32 0]
theorem mds1_fn (wg g dg : Nat) (il : Bool) (mx : Int) :
    Fd Tryz.prog 90 #[ptrV wg, ptrV g] [Cells wg 174 (rawW dg il mx), Cells g 2 [.int .i64 0]] (.tuple #[]) [Cells wg 174 (rawW dg il ((17179869184 : Nat) : Int)), Cells g 2 [.int .i64 0]] := by
  refine fn_of_E' (args := [_, _]) 3 _ [_, _, undef] Tryz.func90 rfl Tryz.ntmps90 ?_
  refine walk ?_
  exact y_endE [] rfl ⟨rfl, rfl⟩ rfl
theorem inl_fn (wg dg : Nat) (il : Bool) (mx : Int) :
    Fd Tryz.prog 35 #[ptrV wg] [Cells wg 174 (rawW dg il mx)] (.tuple #[]) [Cells wg 174 (rawW dg true mx)] := by
  refine fn_of_E' (args := [_]) 2 _ [_, undef] Tryz.func35 rfl Tryz.ntmps35 ?_
  refine walk ?_
  exact y_end [] rfl ⟨rfl, rfl⟩
theorem mds_fn : Fe Tryz.prog 34 #[.int .i64 0] [] (fun _ : Nat => True) (fun g => .func (.func 90) #[] #[ptrV g]) (fun g => [Cells g 2 [.int .i64 0]]) := by
  refine fn_of_E' (args := [_]) 3 _ [_, undef, undef] Tryz.func34 rfl Tryz.ntmps34 ?_
  refine walk ?_
  refine y_box rfl fun g => ?_
  refine walk ?_
  exact y_retE [2] rfl ⟨g, trivial, rfl, rfl⟩ rfl
theorem iTime0_fn : Fd Tryz.prog 97 #[.agg #[.bool false, .int .i64 0, .int .i64 0]] [] (.agg #[.bool false, .int .i64 0, .int .i64 0]) [] := by
  refine fn_of_E' (args := [_]) 3 _ [_, undef, undef] Tryz.func97 rfl Tryz.ntmps97 ?_
  refine e_seq ?_
  refine e_region ?_
  refine y_boxA (vs := [.bool false, .int .i64 0, .int .i64 0]) rfl fun g => ?_
  refine walk ?_
  refine y_alloc fun g2 => ?_
  refine walk ?_
  exact y_retC 2 rfl (by first | ((repeat (first | ((with_reducible apply Rows.here); (focus (repeat constructor))) | (with_reducible apply Rows.there))) <;> fail) | fail) ⟨rfl, rfl⟩
abbrev fileI (z : Int) (md ui gi : Nat) : List Value := [.string (str []), .int .i64 z, .int .u16 (md : Int), .int .u32 (ui : Int), .int .u32 (gi : Int), .bool false, .int .i64 0, .int .i64 0, .bool false, .int .i64 0, .int .i64 0, .bool false, .int .i64 0, .int .i64 0, .bool false, .int .i64 0, .int .i64 0, .int .u32 0, .int .u32 0, .slice none 0 0]
theorem toFile_fn (z : Int) (md ui gi : Nat) : Fe Tryz.prog 38 #[.agg (fileI z md ui gi).toArray] [] (fun _ : Nat => True) (fun g => ptrV g) (fun g => [Cells g 181 (fileC z md ui gi (.map none))]) := by
  refine fn_of_E' (args := [_]) 6 _ [_, undef, undef, undef, undef, undef] Tryz.func38 rfl Tryz.ntmps38 ?_
  refine e_seq ?_
  refine e_region ?_
  refine y_boxA (vs := fileI z md ui gi) rfl fun g1 => ?_
  refine walk ?_
  refine y_callG rfl rfl iTime0_fn ?_
  refine walk ?_
  refine y_callG rfl rfl iTime0_fn ?_
  refine walk ?_
  refine y_callG rfl rfl iTime0_fn ?_
  refine walk ?_
  refine y_callG rfl rfl iTime0_fn ?_
  refine walk ?_
  refine y_boxA rfl fun g2 => ?_
  refine walk ?_
  refine y_loop ?_
  refine walk ?_
  exact y_ret [2] rfl ⟨g2, trivial, rfl, rfl⟩
theorem newW0_fn (dg gs gA c : Nat) :
    Fe Tryz.prog 36 #[ptrV dg, .slice (some ⟨gs, 0, none⟩) 1 c] [Own (some ⟨gs, 0, none⟩) c 110 1 1 [.func (.func 90) #[] #[ptrV gA]], Cells gA 2 [.int .i64 0]] (fun _ : Nat => True) (fun g => ptrV g)
      (fun g => [Cells g 174 (rawW dg false ((17179869184 : Nat) : Int))]) := by
  refine fn_of_E' (args := [_, _]) 8 _ [_, _, undef, undef, undef, undef, undef, undef] Tryz.func36 rfl Tryz.ntmps36 ?_
  refine walk ?_
  refine y_boxA rfl fun wg => ?_
  refine walk ?_
  show E _ _ _ _ [Cells wg 174 (rawW dg false ((17179869184 : Nat) : Int)), Own (some ⟨gs, 0, none⟩) c 110 1 1 [.func (.func 90) #[] #[ptrV gA]], Cells gA 2 [.int .i64 0]]
  refine y_loop ?_
  refine walk ?_
  refine y_loadE (a := 0) (v := .func (.func 90) #[] #[ptrV gA]) rfl ?_
  refine walk ?_
  refine y_callD rfl rfl (mds1_fn wg gA dg false ((17179869184 : Nat) : Int)) ?_
  refine walk ?_
  refine y_again ?_
  refine walk ?_
  exact y_ret [4] rfl ⟨wg, trivial, rfl, rfl⟩
theorem newW1_fn (dg gs gA c : Nat) :
    Fe Tryz.prog 36 #[ptrV dg, .slice (some ⟨gs, 0, none⟩) 2 c] [Own (some ⟨gs, 0, none⟩) c 110 1 2 [.func (.func 90) #[] #[ptrV gA], .func (.func 35) #[] #[]], Cells gA 2 [.int .i64 0]] (fun _ : Nat => True) (fun g => ptrV g)
      (fun g => [Cells g 174 (rawW dg true ((17179869184 : Nat) : Int))]) := by
  refine fn_of_E' (args := [_, _]) 8 _ [_, _, undef, undef, undef, undef, undef, undef] Tryz.func36 rfl Tryz.ntmps36 ?_
  refine walk ?_
  refine y_boxA rfl fun wg => ?_
  refine walk ?_
  show E _ _ _ _ [Cells wg 174 (rawW dg false ((17179869184 : Nat) : Int)), Own (some ⟨gs, 0, none⟩) c 110 1 2 [.func (.func 90) #[] #[ptrV gA], .func (.func 35) #[] #[]], Cells gA 2 [.int .i64 0]]
  refine y_loop ?_
  refine walk ?_
  refine y_loadE (a := 0) (v := .func (.func 90) #[] #[ptrV gA]) rfl ?_
  refine walk ?_
  refine y_callD rfl rfl (mds1_fn wg gA dg false ((17179869184 : Nat) : Int)) ?_
  refine walk ?_
  refine y_again ?_
  refine walk ?_
  refine y_loadE (a := 1) (v := .func (.func 35) #[] #[]) rfl ?_
  refine walk ?_
  refine y_callD rfl rfl (inl_fn wg dg false ((17179869184 : Nat) : Int)) ?_
  refine walk ?_
  refine y_again ?_
  refine walk ?_
  exact y_ret [4] rfl ⟨wg, trivial, rfl, rfl⟩
end Go.Proofs.YtppkiiomedembaaGreatDoor
namespace Go.Proofs.YtppkiiomedembaaGreatDoor
open Go
set_option maxRecDepth 100000
set_option maxHeartbeats 1000000
attribute [local irreducible] E EO
theorem dup_fn (B : Option Addr) (m c : Nat) (b : List UInt8) (M : HP) (hr : Rd [M] B m 1 (enc b)) (hB : B = none → m = 0) (hm : m ≤ 1000000000) :
    Fe Tryz.prog 46 #[.slice B m c] [M] (fun _ : Option Addr × Nat => True) (fun i => .slice i.1 m i.2) (fun i => [Own i.1 i.2 5 1 m (enc b), M]) := by
  refine fn_of_E' (args := [_]) 3 _ [_, undef, undef] Tryz.func46 rfl Tryz.ntmps46 ?_
  refine walk ?_
  refine y_build0 fun gz => ?_
  refine walk ?_
  refine y_appR (news := enc b) rfl rfl hr hB (fun u hu => List.all_eq_true.1 (enc_all b) u hu) fun A2 c2 => ?_
  rw [Nat.zero_add m, List.nil_append]
  refine walk ?_
  exact y_ret [2] rfl ⟨(A2, c2), trivial, rfl, rfl⟩
theorem dupX0_fn : Fd Tryz.prog 47 #[.slice none 0 0] [] (.slice none 0 0) [] := by
  refine fn_of_E' (args := [_]) 6 _ [_, undef, undef, undef, undef, undef] Tryz.func47 rfl Tryz.ntmps47 ?_
  refine walk ?_
  refine y_loop ?_
  refine walk ?_
  exact y_ret [2] rfl ⟨rfl, rfl⟩
structure OpR where
  op : Nat
  nm : List UInt8
  z : Nat
  md : Nat
  ui : Nat
  gi : Nat
  dat : List UInt8
structure OpA where
  D : Option Addr
  c : Nat
abbrev opV (r : OpR) (a : OpA) : List Value := [.int .i64 (r.op : Int), .string (str r.nm), .string (str []), .string (str []), .int .i64 (r.z : Int), .int .u16 (r.md : Int), .int .u32 (r.ui : Int), .int .u32 (r.gi : Int), .bool false, .int .i64 0, .int .i64 0, .bool false, .int .i64 0, .int .i64 0, .bool false, .int .i64 0, .int .i64 0, .bool false, .int .i64 0, .int .i64 0, .int .u32 0, .int .u32 0, .slice none 0 0, .slice a.D r.dat.length a.c]
def opsV : List OpR → List OpA → List Value
  | r :: rs, a :: al => opV r a ++ opsV rs al
  | _, _ => []
theorem opsV_app : ∀ (rs : List OpR) (al : List OpA) (r : OpR) (a : OpA), al.length = rs.length → opsV (rs ++ [r]) (al ++ [a]) = opsV rs al ++ opV r a
  | [], [], r, a, _ => rfl
  | q :: rs, b :: al, r, a, h => by
    have := opsV_app rs al r a (by simpa using h)
    simp only [List.cons_append, opsV, this, List.append_assoc]
theorem opsV_get : ∀ (rs : List OpR) (al : List OpA) (i : Nat) (r : OpR) (a : OpA), rs[i]? = some r → al[i]? = some a → ((opsV rs al).drop (i * 24)).take 24 = opV r a
  | q :: rs, b :: al, 0, r, a, h1, h2 => by
    simp at h1 h2; subst h1 h2; rfl
  | q :: rs, b :: al, i + 1, r, a, h1, h2 => by
    have := opsV_get rs al i r a (by simpa using h1) (by simpa using h2)
    simp only [opsV]
    rw [show (i + 1) * 24 = (opV q b).length + i * 24 by simp; omega, List.drop_append, List.drop_of_length_le (by omega), List.nil_append, show (opV q b).length + i * 24 - (opV q b).length = i * 24 by omega, this]
def opsP : List OpR → List OpA → List HP
  | r :: rs, a :: al => Own a.D a.c 5 1 r.dat.length (enc r.dat) :: opsP rs al
  | _, _ => []
theorem opsP_app : ∀ (rs : List OpR) (al : List OpA) (r : OpR) (a : OpA), al.length = rs.length → opsP (rs ++ [r]) (al ++ [a]) = opsP rs al ++ [Own a.D a.c 5 1 r.dat.length (enc r.dat)]
  | [], [], r, a, _ => rfl
  | q :: rs, b :: al, r, a, h => by
    have := opsP_app rs al r a (by simpa using h)
    simp only [List.cons_append, opsP, this]
theorem opsP_add (rs : List OpR) (al : List OpA) (r : OpR) (a : OpA) (h : al.length = rs.length) : Tn [Own a.D a.c 5 1 r.dat.length (enc r.dat), HP.star (opsP rs al)] (fun _ : Unit => True) (fun _ => [HP.star (opsP (rs ++ [r]) (al ++ [a]))]) := fun m S hS => by
  refine ⟨(), S, trivial, sats_one ?_, fun _ h => h⟩
  show sats (opsP (rs ++ [r]) (al ++ [a])) m S
  rw [opsP_app _ _ _ _ h]
  have h1 : sats ([Own a.D a.c 5 1 r.dat.length (enc r.dat)] ++ [HP.star (opsP rs al)]) m S := hS
  obtain ⟨S1, S2, a1, a2, a3, a4⟩ := sats_append.1 h1
  exact sats_append.2 ⟨S2, S1, sats_one' a2, a1, fun g h1 h2 => a3 g h2 h1, fun g => (a4 g).trans Or.comm⟩
theorem dupOps_fn (rs : List OpR) (al : List OpA) (go co : Nat) (M : HP) (has : al.length = rs.length) (hn : rs.length ≤ 1000) (hd : ∀ (i : Nat) (r : OpR) (a : OpA), rs[i]? = some r → al[i]? = some a → Rd [M] a.D r.dat.length 1 (enc r.dat) ∧ (a.D = none → r.dat.length = 0) ∧ r.dat.length ≤ 1000000000) :
    Fe Tryz.prog 11 #[.slice (some ⟨go, 0, none⟩) rs.length co] [Own (some ⟨go, 0, none⟩) co 39 24 rs.length (opsV rs al), M] (fun i : (Option Addr × Nat) × List OpA => i.2.length = rs.length) (fun i => .slice i.1.1 rs.length i.1.2)
      (fun i => [Own i.1.1 i.1.2 39 24 rs.length (opsV rs i.2), HP.star (opsP rs i.2), Own (some ⟨go, 0, none⟩) co 39 24 rs.length (opsV rs al), M]) := by
  refine fn_of_E' (args := [_]) 6 _ [_, undef, undef, undef, undef, undef] Tryz.func11 rfl Tryz.ntmps11 ?_
  refine walk ?_
  refine E.nilOwn (e := 39) (sz := 24) ?_
  refine y_tn (Tn.close (L := [])) fun _ _ => ?_
  refine e_roundsT (ι := Nat × List OpA × (Option Addr × Nat) × Value) (fun z => rs.length - z.1)
    (fun z => [.slice (some ⟨go, 0, none⟩) rs.length co, undef, .slice none 0 0, .slice z.2.2.1.1 z.1 z.2.2.1.2, undef, z.2.2.2])
    (fun z => [(8, .int .i64 (z.1 : Nat)), (7, .int .i64 (rs.length : Nat)), (6, .slice (some ⟨go, 0, none⟩) rs.length co)])
    (fun z => [Own z.2.2.1.1 z.2.2.1.2 39 24 z.1 (opsV (rs.take z.1) z.2.1), HP.star (opsP (rs.take z.1) z.2.1), Own (some ⟨go, 0, none⟩) co 39 24 rs.length (opsV rs al), M])
    (fun z => z.1 ≤ rs.length ∧ z.2.1.length = z.1) (0, [], (none, 0), undef) ⟨Nat.zero_le _, rfl⟩ rfl (by repeat constructor) (by exact .cons (.there .here) (.cons .here (.cons .here (.cons .here .nil)))) ?_
  rintro ⟨i, bs, ⟨A, c⟩, w5⟩ ⟨hi, hbl⟩ again
  dsimp only at hi hbl again ⊢
  by_cases hlt : i < rs.length
  · obtain ⟨r, hr⟩ : ∃ r, rs[i]? = some r := ⟨_, List.getElem?_eq_getElem hlt⟩
    obtain ⟨a, ha⟩ : ∃ a, al[i]? = some a := ⟨_, List.getElem?_eq_getElem (by omega)⟩
    obtain ⟨d1, d2, d3⟩ := hd i r a hr ha
    have htk : rs.take (i + 1) = rs.take i ++ [r] := by rw [List.take_add_one, hr]; rfl
    have htl : (rs.take i).length = i := by rw [List.length_take]; omega
    refine walk ?_
    refine y_loadS (vs := opsV rs al) (us := opV r a) (i * 24) (opsV_get _ _ i r a hr ha) ?_
    refine walk ?_
    refine y_alloc fun g5 => ?_
    refine walk ?_
    refine e_cont (ι := Option Addr × Nat) (fun _ => [.slice (some ⟨go, 0, none⟩) rs.length co, undef, .slice none 0 0, .slice A i c, undef, ptrV g5])
      (fun _ => [(8, .int .i64 (i : Nat)), (7, .int .i64 (rs.length : Nat)), (6, .slice (some ⟨go, 0, none⟩) rs.length co)])
      (fun q => [Own q.1 q.2 5 1 r.dat.length (enc r.dat), Cells g5 39 (opV r ⟨q.1, q.2⟩), Own A c 39 24 i (opsV (rs.take i) bs), HP.star (opsP (rs.take i) bs), Own (some ⟨go, 0, none⟩) co 39 24 rs.length (opsV rs al), M]) (fun _ => True) (fun rest => ?_) ?_
    · refine e_pairK ?_ (by first | ((repeat (first | exact KeepR.nil | apply KeepR.yes rfl | apply KeepR.no rfl)) <;> fail) | fail)
      refine walk ?_
      refine x_two ?_ ?_
      · refine y_callE rfl rfl (dup_fn a.D r.dat.length a.c r.dat M d1 d2 d3) fun q _ => ?_
        refine walkO ?_
        refine y_callD rfl rfl dupX0_fn ?_
        refine walkO ?_
        refine x_end ?_
        exact (rest q trivial).toP (ks := [8, 7, 6]) rfl (by repeat constructor) sub_
      · refine walkO ?_
        refine y_callE rfl rfl (dup_fn a.D r.dat.length a.c r.dat M d1 d2 d3) fun q _ => ?_
        refine walkO ?_
        refine y_callD rfl rfl dupX0_fn ?_
        refine walkO ?_
        refine x_end ?_
        exact (rest q trivial).toP (ks := [8, 7, 6]) rfl (by repeat constructor) sub_
    · rintro ⟨D, cD⟩ _
      dsimp only
      refine walk ?_
      refine y_build (vs := [.agg (opV r ⟨D, cD⟩).toArray]) (cs := opV r ⟨D, cD⟩) rfl (fill_one (n := 24) [.int .i64 0, .string ⟨#[]⟩, .string ⟨#[]⟩, .string ⟨#[]⟩, .int .i64 0, .int .u16 0, .int .u32 0, .int .u32 0, .bool false, .int .i64 0, .int .i64 0, .bool false, .int .i64 0, .int .i64 0, .bool false, .int .i64 0, .int .i64 0, .bool false, .int .i64 0, .int .i64 0, .int .u32 0, .int .u32 0, .slice none 0 0, .slice none 0 0] _ rfl rfl (by omega)) rfl fun gs => ?_
      refine walk ?_
      refine x_app (vs := opsV (rs.take i) bs) (news := opV r ⟨D, cD⟩) rfl rfl take_ (by exact ⟨rfl, .inr ⟨_, _, rfl, (by first | ((repeat (first | exact CellRow.own | exact CellRow.here | apply CellRow.there)) <;> fail) | fail)⟩⟩) (fun h => by cases h) (by simp [Value.oneCell']) (by rfl) (by omega) (by simp only [maxLen]; omega) (by omega) (fun A5 c5 => ⟨_, _, pt_, ?_⟩)
      refine walk ?_
      have hP := opsP_add (rs.take i) bs r ⟨D, cD⟩ (by rw [htl, hbl])
      refine y_tn hP fun _ _ => ?_
      rw [← opsV_app _ _ _ _ (by rw [htl, hbl]), ← htk]
      have ag := again (i + 1, bs ++ [⟨D, cD⟩], (A5, c5), ptrV g5) (by dsimp only; omega) ⟨by dsimp only; omega, by simp [hbl]⟩
      dsimp only at ag
      exact ag.toP (ks := [8, 7, 6]) rfl (by repeat constructor) sub_
  · have hil : i = rs.length := by omega
    subst hil
    rw [List.take_length]
    clear again
    refine walk ?_
    exact y_ret [2] rfl ⟨((A, c), bs), hbl, rfl, rfl⟩
end Go.Proofs.YtppkiiomedembaaGreatDoor
namespace Go.Proofs.YtppkiiomedembaaGreatDoor
open Go
set_option maxRecDepth 100000
set_option maxHeartbeats 1000000
attribute [local irreducible] E EO
abbrev stC (op : Nat) (nm : List UInt8) (h : Nat) (B : Option Addr) (m c N : Nat) : List Value := [.int .i64 (op : Int), .string (str nm), .string (str []), .int .i64 0, .int .i64 0, .int .i64 (h : Int), .slice B m c, .int .i64 0, .int .i64 0, .int .i64 (N : Int)]
abbrev anC (N : Nat) (D : Option Addr) (m c : Nat) : List Value := [.int .i64 0, .int .i64 (N : Int), .int .i64 0, .slice D m c, .slice none 0 0, .slice none 0 0]
theorem onW_fn (gh gf : Nat) (B : Option Addr) (m c : Nat) (b : List UInt8) (M : HP) (hr : Rd [M] B m 1 (enc b)) (hB : B = none → m = 0) (hm : m ≤ 100000000) :
    Fe Tryz.prog 31 #[ptrV gh, .agg (stC 14 [] 0 B m c 0).toArray] [Cells gh 250 (hdC 0 false false gf), fileP gf none 0 0, M] (fun _ : Option Addr × Nat => True) (fun _ => .agg (anC m none 0 0).toArray)
      (fun i => [fileP gf i.1 m i.2, Own i.1 i.2 5 1 m (enc b), Cells gh 250 (hdC m false false gf), M]) := by
  refine fn_of_E' (args := [_, _]) 13 _ [_, _, undef, undef, undef, undef, undef, undef, undef, undef, undef, undef, undef] Tryz.func31 rfl Tryz.ntmps31 ?_
  refine E.nilOwn (e := 5) (sz := 1) ?_
  refine walk ?_
  refine y_boxA rfl fun g3 => ?_
  refine walk ?_
  refine y_alloc fun g4 => ?_
  refine walk ?_
  refine y_alloc fun g5 => ?_
  refine walk ?_
  refine y_appR (news := enc b) (vs := []) rfl rfl ?_ hB enc_one fun A2 c2 => ?_
  · exact hr.take take_
  rw [Nat.zero_add m, List.nil_append]
  refine y_tno (Own.tnk (A := A2) (c := c2) (e := 5) (n := m) (vs := enc b)) fun _ hk => ?_
  have hrd := Own.rd (e := 5) hk
  have hB2 : A2 = none → m = 0 := fun h => by have := hk.2.2.1 h; have := hk.2.1; omega
  have hw := writeM_fn gh gf A2 m c2 b (Own A2 c2 5 1 m (enc b)) hrd hB2 hm
  refine walk ?_
  refine y_callE rfl rfl hw fun i _ => ?_
  obtain ⟨A, cA⟩ := i
  dsimp only
  refine walk ?_
  refine y_callD rfl rfl kind0_fn ?_
  refine walk ?_
  exact y_retC 4 rfl (by first | ((repeat (first | ((with_reducible apply Rows.here); (focus (repeat constructor))) | (with_reducible apply Rows.there))) <;> fail) | fail) ⟨(A, cA), trivial, rfl, rfl⟩
theorem onR_fn (gh gf gA n cA : Nat) (D : List UInt8) (p m : Nat) (hD : D.length = n) (hn : n ≤ 100000) (hc : n ≤ cA) (hm : 0 < m) (hpm : p + m ≤ n) :
    Fe Tryz.prog 31 #[ptrV gh, .agg (stC 12 [] 2 none 0 0 m).toArray] [Cells gh 250 (hdC p false true gf), fileP gf (some ⟨gA, 0, none⟩) n cA, Own (some ⟨gA, 0, none⟩) cA 5 1 n (enc D)] (fun _ : Nat => True) (fun g => .agg (anC 0 (some ⟨g, 0, none⟩) m m).toArray)
      (fun g => [Cells gh 250 (hdC (p + m) false true gf), fileP gf (some ⟨gA, 0, none⟩) n cA, Own (some ⟨gA, 0, none⟩) cA 5 1 n (enc D), Own (some ⟨g, 0, none⟩) m 5 1 m (enc ((D.drop p).take m))]) := by
  refine fn_of_E' (args := [_, _]) 13 _ [_, _, undef, undef, undef, undef, undef, undef, undef, undef, undef, undef, undef] Tryz.func31 rfl Tryz.ntmps31 ?_
  refine walk ?_
  refine y_boxA rfl fun g3 => ?_
  refine walk ?_
  refine y_alloc fun g4 => ?_
  refine walk ?_
  refine y_alloc fun g5 => ?_
  refine walk ?_
  rw [show max 0 (min m 1048576) = m by omega]
  refine y_make (t := 22) (n := m) rfl rfl fun gb => ?_
  refine walk ?_
  refine y_callD rfl rfl (readM_fn gh gf gb gA n cA D p m hD (by omega) hc hm hpm) ?_
  refine walk ?_
  refine y_callD rfl rfl kind0_fn ?_
  refine walk ?_
  exact y_retC 4 rfl (by first | ((repeat (first | ((with_reducible apply Rows.here); (focus (repeat constructor))) | (with_reducible apply Rows.there))) <;> fail) | fail) ⟨gb, trivial, rfl, rfl⟩
instance : MapTyI Tryz.prog 85 3 88 (.pointer none) := ⟨by kernel_rfl, by kernel_rfl, by kernel_rfl⟩
theorem e_roundsA {X : Fx} {k : List Item} {loc : List Value} {tmp : List (Nat × Value)} {L F : List HP} {ι : Type} {c : Code} (m : ι → Nat) (loI : ι → List Value) (tmI : ι → List (Nat × Value)) (LI : ι → List HP) (PI : ι → Prop) (i0 : ι) {ks : List Nat} (h0 : PI i0) (hl : loc = loI i0) (ht : KeepR tmp ks (tmI i0)) (hL : Subs (LI i0) L F)
    (round : ∀ i, PI i → (∀ j, m j < m i → PI j → E X (.inLoop c :: k) (loI j) (tmI j) (LI j)) → E X (.code c :: .inLoop c :: k) (loI i) (tmI i) (LI i)) :
    E X (.inLoop c :: k) loc tmp L := E.some hL (by
  have key : ∀ d i, m i = d → PI i → E X (.code c :: .inLoop c :: k) (loI i) (tmI i) (LI i) := by
    intro d
    induction d using Nat.strongRecOn with
    | _ d ih =>
      intro i hd hp
      refine round i hp fun j hj hpj => y_again (ih (m j) (hd ▸ hj) j rfl hpj)
  exact E.toK (y_again (key _ i0 rfl h0)) hl rfl ht)
def stV : List (List UInt8) → List Value
  | [] => []
  | p :: r => stC 12 [] 2 none 0 0 p.length ++ stV r
theorem stV_get : ∀ (l : List (List UInt8)) (i : Nat) (p : List UInt8), l[i]? = some p → ((stV l).drop (i * 10)).take 10 = stC 12 [] 2 none 0 0 p.length
  | y :: l, 0, p, h => by simp at h; subst h; rfl
  | y :: l, i + 1, p, h => by
    have := stV_get l i p (by simpa using h)
    simp only [stV]
    rw [show (i + 1) * 10 = (stC 12 [] 2 none 0 0 y.length).length + i * 10 by simp; omega, List.drop_append, List.drop_of_length_le (by omega), List.nil_append, show (stC 12 [] 2 none 0 0 y.length).length + i * 10 - (stC 12 [] 2 none 0 0 y.length).length = i * 10 by omega, this]
theorem stV_app : ∀ (l : List (List UInt8)) (p : List UInt8), stV (l ++ [p]) = stV l ++ stC 12 [] 2 none 0 0 p.length
  | [], p => rfl
  | y :: l, p => by
    have := stV_app l p
    simp only [List.cons_append, stV, this, List.append_assoc]
def stepsV (B : Option Addr) (m c : Nat) (ps : List (List UInt8)) : List Value := stC 0 [47, 102] 0 none 0 0 0 ++ (stC 14 [] 0 B m c 0 ++ (stC 1 [47, 102] 0 none 0 0 0 ++ stV ps))
theorem stepsV_get (B : Option Addr) (m c : Nat) (ps : List (List UInt8)) (i : Nat) (p : List UInt8) (h : ps[i]? = some p) : ((stepsV B m c ps).drop ((i + 3) * 10)).take 10 = stC 12 [] 2 none 0 0 p.length := by
  have e : (stepsV B m c ps).drop ((i + 3) * 10) = (stV ps).drop (i * 10) := by
    rw [show (i + 3) * 10 = 30 + i * 10 by omega, ← List.drop_drop]
    rfl
  rw [e]; exact stV_get ps i p h
def anR : List (List UInt8) → List Nat → List Value
  | p :: r, g :: gs => anC 0 (some ⟨g, 0, none⟩) p.length p.length ++ anR r gs
  | _, _ => []
def anP : List (List UInt8) → List Nat → List HP
  | p :: r, g :: gs => Own (some ⟨g, 0, none⟩) p.length 5 1 p.length (enc p) :: anP r gs
  | _, _ => []
theorem anR_app : ∀ (rs : List (List UInt8)) (gs : List Nat) (r : List UInt8) (g : Nat), gs.length = rs.length → anR (rs ++ [r]) (gs ++ [g]) = anR rs gs ++ anC 0 (some ⟨g, 0, none⟩) r.length r.length
  | [], [], r, a, _ => rfl
  | q :: rs, b :: gs, r, a, h => by
    have := anR_app rs gs r a (by simpa using h)
    simp only [List.cons_append, anR, this, List.append_assoc]
theorem anR_get : ∀ (rs : List (List UInt8)) (gs : List Nat) (i : Nat) (r : List UInt8) (g : Nat), rs[i]? = some r → gs[i]? = some g → ((anR rs gs).drop (i * 6)).take 6 = anC 0 (some ⟨g, 0, none⟩) r.length r.length
  | q :: rs, b :: gs, 0, r, a, h1, h2 => by
    simp at h1 h2; subst h1 h2; rfl
  | q :: rs, b :: gs, i + 1, r, a, h1, h2 => by
    have := anR_get rs gs i r a (by simpa using h1) (by simpa using h2)
    simp only [anR]
    rw [show (i + 1) * 6 = (anC 0 (some ⟨b, 0, none⟩) q.length q.length).length + i * 6 by simp; omega, List.drop_append, List.drop_of_length_le (by omega), List.nil_append, show (anC 0 (some ⟨b, 0, none⟩) q.length q.length).length + i * 6 - (anC 0 (some ⟨b, 0, none⟩) q.length q.length).length = i * 6 by omega, this]
theorem anP_app : ∀ (rs : List (List UInt8)) (gs : List Nat) (r : List UInt8) (g : Nat), gs.length = rs.length → anP (rs ++ [r]) (gs ++ [g]) = anP rs gs ++ [Own (some ⟨g, 0, none⟩) r.length 5 1 r.length (enc r)]
  | [], [], r, a, _ => rfl
  | q :: rs, b :: gs, r, a, h => by
    have := anP_app rs gs r a (by simpa using h)
    simp only [List.cons_append, anP, this]
theorem anP_add (rs : List (List UInt8)) (gs : List Nat) (r : List UInt8) (g : Nat) (h : gs.length = rs.length) : Tn [Own (some ⟨g, 0, none⟩) r.length 5 1 r.length (enc r), HP.star (anP rs gs)] (fun _ : Unit => True) (fun _ => [HP.star (anP (rs ++ [r]) (gs ++ [g]))]) := fun m S hS => by
  refine ⟨(), S, trivial, sats_one ?_, fun _ h => h⟩
  show sats (anP (rs ++ [r]) (gs ++ [g])) m S
  rw [anP_app _ _ _ _ h]
  have h1 : sats ([Own (some ⟨g, 0, none⟩) r.length 5 1 r.length (enc r)] ++ [HP.star (anP rs gs)]) m S := hS
  obtain ⟨S1, S2, a1, a2, a3, a4⟩ := sats_append.1 h1
  exact sats_append.2 ⟨S2, S1, sats_one' a2, a1, fun g h1 h2 => a3 g h2 h1, fun g => (a4 g).trans Or.comm⟩
abbrev ans0 (m : Nat) : List Value := anC 0 none 0 0 ++ anC m none 0 0 ++ anC 0 none 0 0
theorem offP_get (ps : List (List UInt8)) (j : Nat) (p b : List UInt8) (hps : ps.flatten = b) (h : ps[j]? = some p) : (b.drop (ps.take j).flatten.length).take p.length = p ∧ (ps.take j).flatten.length + p.length ≤ b.length ∧ (ps.take (j + 1)).flatten.length = (ps.take j).flatten.length + p.length := by
  have e : ps = ps.take j ++ p :: ps.drop (j + 1) := by
    have := List.take_append_drop j ps
    rw [List.drop_eq_getElem_cons (List.getElem?_eq_some_iff.1 h).1, (List.getElem?_eq_some_iff.1 h).2] at this
    exact this.symm
  have e2 : b = (ps.take j).flatten ++ (p ++ (ps.drop (j + 1)).flatten) := by
    rw [← hps]; conv => lhs; rw [e]
    simp
  refine ⟨?_, ?_, ?_⟩
  · conv => lhs; rw [e2]
    rw [List.drop_left, List.take_left]
  · have := congrArg List.length e2
    simp only [List.length_append] at this; omega
  · rw [List.take_add_one, h, List.flatten_append]; simp
theorem memory_fn (gs cs : Nat) (B : Option Addr) (m c : Nat) (b : List UInt8) (M : HP) (hr : Rd [M] B m 1 (enc b)) (hB : B = none → m = 0) (hm : m ≤ 100000) (ps : List (List UInt8)) (hps : ps.flatten = b) (hne : ∀ p ∈ ps, p ≠ []) (hpl : ps.length ≤ 900) :
    Fe Tryz.prog 9 #[.slice (some ⟨gs, 0, none⟩) (ps.length + 3 : Nat) cs] [Own (some ⟨gs, 0, none⟩) cs 25 10 (ps.length + 3) (stepsV B m c ps), M] (fun i : Nat × (Option Addr × Nat) × List Nat => i.2.2.length = ps.length)
      (fun i => .tuple #[ptrV i.1, .slice i.2.1.1 (ps.length + 3 : Nat) i.2.1.2])
      (fun i => [Own i.2.1.1 i.2.1.2 44 6 (ps.length + 3) (ans0 m ++ anR ps i.2.2), HP.star (anP ps i.2.2), M]) := by
  have hbm : b.length = m := by have := hr.1; rw [enc_len] at this; omega
  refine fn_of_E' (args := [_]) 15 _ [_, undef, undef, undef, undef, undef, undef, undef, undef, undef, undef, undef, undef, undef, undef] Tryz.func9 rfl Tryz.ntmps9 ?_
  refine E.nilOwn (e := 44) (sz := 6) ?_
  refine walk ?_
  refine y_callE rfl rfl newM_fn fun gm _ => ?_
  refine walk ?_
  refine y_map fun g5 => ?_
  refine y_tno MapI.of_new fun _ _ => ?_
  refine walk ?_
  refine y_loop ?_
  refine walk ?_
  refine y_loadS (vs := stepsV B m c ps) (us := stC 0 [47, 102] 0 none 0 0 0) (0 * 10) rfl ?_
  refine walk ?_
  refine y_alloc fun g8 => ?_
  refine walk ?_
  refine y_alloc fun g9 => ?_
  refine walk ?_
  refine y_callE rfl rfl (CreateM_fn gm) fun i _ => ?_
  obtain ⟨gM, gr, gD, gf, gh⟩ := i
  dsimp only
  refine walk ?_
  refine y_setI (es := []) (n := 0) rfl ?_
  refine walk ?_
  refine y_callD rfl rfl kind0_fn ?_
  refine walk ?_
  refine y_build (vs := [.agg (anC 0 none 0 0 : List Value).toArray]) (cs := anC 0 none 0 0) rfl (fill_one (n := 6) (anC 0 none 0 0) _ rfl rfl (by omega)) rfl fun gx => ?_
  refine walk ?_
  refine x_app (vs := []) (news := anC 0 none 0 0) rfl rfl take_ (by exact ⟨rfl, .inr ⟨_, _, rfl, (by first | ((repeat (first | exact CellRow.own | exact CellRow.here | apply CellRow.there)) <;> fail) | fail)⟩⟩) (fun h => by cases h) (by simp [Value.oneCell']) (by rfl) (by omega) (by simp only [maxLen]; omega) (by omega) (fun A0 c0 => ⟨_, _, pt_, ?_⟩)
  refine walk ?_
  rw [List.nil_append (anC 0 none 0 0)]
  refine y_again ?_
  refine walk ?_
  refine y_loadS (vs := stepsV B m c ps) (us := stC 14 [] 0 B m c 0) (1 * 10) rfl ?_
  refine walk ?_
  refine y_alloc fun g8b => ?_
  refine walk ?_
  refine y_alloc fun g9b => ?_
  refine walk ?_
  refine y_lookI (n := 0) (u := ptrV gh) rfl ?_
  refine walk ?_
  refine y_callE rfl rfl (onW_fn gh gf B m c b M hr hB (by omega)) fun q _ => ?_
  obtain ⟨A, cA⟩ := q
  dsimp only
  refine walk ?_
  refine y_build (vs := [.agg (anC m none 0 0 : List Value).toArray]) (cs := anC m none 0 0) rfl (fill_one (n := 6) (anC 0 none 0 0) _ rfl rfl (by omega)) rfl fun gx1 => ?_
  refine walk ?_
  refine x_app (vs := anC 0 none 0 0) (news := anC m none 0 0) rfl rfl take_ (by exact ⟨rfl, .inr ⟨_, _, rfl, (by first | ((repeat (first | exact CellRow.own | exact CellRow.here | apply CellRow.there)) <;> fail) | fail)⟩⟩) (fun h => by cases h) (by simp [Value.oneCell']) (by rfl) (by omega) (by simp only [maxLen]; omega) (by omega) (fun A1 c1 => ⟨_, _, pt_, ?_⟩)
  refine walk ?_
  refine y_again ?_
  refine walk ?_
  refine y_loadS (vs := stepsV B m c ps) (us := stC 1 [47, 102] 0 none 0 0 0) (2 * 10) rfl ?_
  refine walk ?_
  refine y_alloc fun g8c => ?_
  refine walk ?_
  refine y_alloc fun g9c => ?_
  refine walk ?_
  refine y_callE rfl rfl (OpenM_fn gm gM gf _ rfl) fun gh2 _ => ?_
  refine walk ?_
  refine y_setI (n := 2) rfl ?_
  refine walk ?_
  refine y_callD rfl rfl kind0_fn ?_
  refine walk ?_
  refine y_build (vs := [.agg (anC 0 none 0 0 : List Value).toArray]) (cs := anC 0 none 0 0) rfl (fill_one (n := 6) (anC 0 none 0 0) _ rfl rfl (by omega)) rfl fun gx2 => ?_
  refine walk ?_
  refine x_app (vs := anC 0 none 0 0 ++ anC m none 0 0) (news := anC 0 none 0 0) rfl rfl take_ (by exact ⟨rfl, .inr ⟨_, _, rfl, (by first | ((repeat (first | exact CellRow.own | exact CellRow.here | apply CellRow.there)) <;> fail) | fail)⟩⟩) (fun h => by cases h) (by simp [Value.oneCell']) (by rfl) (by omega) (by simp only [maxLen]; omega) (by omega) (fun A2 c2 => ⟨_, _, pt_, ?_⟩)
  refine walk ?_
  refine y_tn (Tn.close (L := [])) fun _ _ => ?_
  refine y_tn (Own.tnk (A := A) (c := cA) (e := 5) (n := m) (vs := enc b)) fun _ hk => ?_
  refine e_roundsA (ι := Nat × List Nat × (Option Addr × Nat) × (Value × Value × Value × Value × Value)) (fun z => ps.length - z.1)
    (fun z => [.slice (some ⟨gs, 0, none⟩) (ps.length + 3 : Nat) cs, undef, .pointer none, .slice none 0 0, ptrV gm, .map (some g5), .slice z.2.2.1.1 (z.1 + 3) z.2.2.1.2, z.2.2.2.1, z.2.2.2.2.1, z.2.2.2.2.2.1, .nilIface, z.2.2.2.2.2.2.1, .pointer none, z.2.2.2.2.2.2.2, .bool true])
    (fun z => [(19, .int .i64 (z.1 + 3 : Nat)), (17, .slice (some ⟨gs, 0, none⟩) (ps.length + 3 : Nat) cs), (18, .int .i64 (ps.length + 3 : Nat))])
    (fun z => [Own A cA 5 1 m (enc b), HP.star (anP (ps.take z.1) z.2.1), Own z.2.2.1.1 z.2.2.1.2 44 6 (z.1 + 3) (ans0 m ++ anR (ps.take z.1) z.2.1), MapI g5 [(0, ptrV gh), (2, ptrV gh2)], Cells gh2 250 (hdC (ps.take z.1).flatten.length false true gf), fileP gf A m cA, M, Own (some ⟨gs, 0, none⟩) cs 25 10 (ps.length + 3) (stepsV B m c ps)])
    (fun z => z.1 ≤ ps.length ∧ z.2.1.length = z.1) (0, [], (A2, c2), (_, _, _, _, _)) ⟨Nat.zero_le _, rfl⟩ rfl (by repeat constructor) (by exact .cons .here (.cons .here (.cons .here (.cons (.there (.here)) (.cons (.there (.there (.there (.here)))) (.cons (.there (.there (.there (.there (.there (.there (.here))))))) (.cons (.there (.there (.there (.there (.there (.there (.there (.here)))))))) (.cons (.there (.there (.there (.there (.there (.there (.there (.there (.there (.there (.there (.there (.there (.here)))))))))))))) (.nil))))))))) ?_
  rintro ⟨j, gl, ⟨A3, c3⟩, v7, v8, v9, v11, v13⟩ ⟨hj, hgl⟩ again
  dsimp only at hj hgl again ⊢
  by_cases hlt : j < ps.length
  · obtain ⟨q, hq⟩ : ∃ q, ps[j]? = some q := ⟨_, List.getElem?_eq_getElem hlt⟩
    obtain ⟨e1, e2, e3⟩ := offP_get ps j q b hps hq
    have hq0 : 0 < q.length := List.length_pos_iff.2 (hne q (List.mem_of_getElem? hq))
    have htk : ps.take (j + 1) = ps.take j ++ [q] := by rw [List.take_add_one, hq]; rfl
    have htl : (ps.take j).length = j := by rw [List.length_take]; omega
    obtain ⟨k1, k2, k3, k4⟩ := hk
    cases A with
    | none => have := k3 rfl; omega
    | some ad =>
    obtain ⟨gA, rfl⟩ := k4 ad rfl
    have hon := onR_fn gh2 gf gA m cA b (ps.take j).flatten.length q.length hbm hm k2 hq0 (by omega)
    rw [e1, ← e3] at hon
    refine walk ?_
    refine y_loadS (vs := stepsV B m c ps) (us := stC 12 [] 2 none 0 0 q.length) ((j + 3) * 10) (stepsV_get B m c ps j q hq) ?_
    refine walk ?_
    refine y_alloc fun g8d => ?_
    refine walk ?_
    refine y_alloc fun g9d => ?_
    refine walk ?_
    refine y_lookI (n := 2) (u := ptrV gh2) rfl ?_
    refine walk ?_
    refine y_callE rfl rfl hon fun gb _ => ?_
    refine walk ?_
    refine y_build (vs := [.agg (anC 0 (some ⟨gb, 0, none⟩) q.length q.length : List Value).toArray]) (cs := anC 0 (some ⟨gb, 0, none⟩) q.length q.length) rfl (fill_one (n := 6) (anC 0 none 0 0) _ rfl rfl (by omega)) rfl fun gx3 => ?_
    refine walk ?_
    refine x_app (vs := ans0 m ++ anR (ps.take j) gl) (news := anC 0 (some ⟨gb, 0, none⟩) q.length q.length) rfl rfl take_ (by exact ⟨rfl, .inr ⟨_, _, rfl, (by first | ((repeat (first | exact CellRow.own | exact CellRow.here | apply CellRow.there)) <;> fail) | fail)⟩⟩) (fun h => by cases h) (by simp [Value.oneCell']) (by rfl) (by omega) (by simp only [maxLen]; omega) (by omega) (fun A5 c5 => ⟨_, _, pt_, ?_⟩)
    refine walk ?_
    refine y_tn (anP_add (ps.take j) gl q gb (by rw [htl, hgl])) fun _ _ => ?_
    rw [List.append_assoc (ans0 m), ← anR_app (ps.take j) gl q gb (by rw [htl, hgl]), ← htk]
    have ag := again (j + 1, gl ++ [gb], (A5, c5), (.int .i64 (j + 3 : Nat), ptrV g8d, ptrV g9d, .pointer none, ptrV gh2)) (by dsimp only; omega) ⟨by dsimp only; omega, by simp [hgl]⟩
    dsimp only at ag
    refine (ag.toP (ks := [19, 17, 18]) rfl (by repeat constructor) sub_)
  · have hjl : j = ps.length := by omega
    subst hjl
    rw [List.take_length]
    clear again
    refine walk ?_
    exact y_ret [2, 3] rfl ⟨(gm, (A3, c3), gl), hgl, rfl, rfl⟩
theorem memScript_fn (gs cs : Nat) (B : Option Addr) (m c : Nat) (b : List UInt8) (M : HP) (hr : Rd [M] B m 1 (enc b)) (hB : B = none → m = 0) (hm : m ≤ 100000) (ps : List (List UInt8)) (hps : ps.flatten = b) (hne : ∀ p ∈ ps, p ≠ []) (hpl : ps.length ≤ 900) :
    Fe Tryz.prog 5 #[.slice (some ⟨gs, 0, none⟩) (ps.length + 3 : Nat) cs] [Own (some ⟨gs, 0, none⟩) cs 25 10 (ps.length + 3) (stepsV B m c ps), M] (fun i : (Option Addr × Nat) × List Nat => i.2.length = ps.length)
      (fun i => .slice i.1.1 (ps.length + 3 : Nat) i.1.2)
      (fun i => [Own i.1.1 i.1.2 44 6 (ps.length + 3) (ans0 m ++ anR ps i.2), HP.star (anP ps i.2), M]) := by
  refine fn_of_E' (args := [_]) 5 _ [_, undef, undef, undef, undef] Tryz.func5 rfl Tryz.ntmps5 ?_
  refine walk ?_
  refine y_callE rfl rfl (memory_fn gs cs B m c b M hr hB hm ps hps hne hpl) fun i hi => ?_
  obtain ⟨gm, ⟨A, cA⟩, gl⟩ := i
  dsimp only at hi ⊢
  refine walk ?_
  exact y_ret [2] rfl ⟨((A, cA), gl), hi, rfl, rfl⟩
end Go.Proofs.YtppkiiomedembaaGreatDoor
namespace Go.Proofs.YtppkiiomedembaaGreatDoor
open Go
def cutL : List UInt8 → List Int → List (List UInt8)
  | d, [] => if d = [] then [] else [d]
  | d, n :: r => if 0 < n ∧ 0 < d.length then d.take (min n.toNat d.length) :: cutL (d.drop (min n.toNat d.length)) r else cutL d r
theorem cutL_flat : ∀ (sz : List Int) (d : List UInt8), (cutL d sz).flatten = d
  | [], d => by
    rw [cutL]
    by_cases h : d = []
    · rw [if_pos h, h]; rfl
    · rw [if_neg h]; simp
  | n :: r, d => by
    rw [cutL]
    split
    · rw [List.flatten_cons, cutL_flat r, List.take_append_drop]
    · exact cutL_flat r d
theorem cutL_ne : ∀ (sz : List Int) (d : List UInt8), ∀ b ∈ cutL d sz, b ≠ []
  | [], d, b, hb => by
    rw [cutL] at hb
    by_cases h : d = []
    · rw [if_pos h] at hb; simp at hb
    · rw [if_neg h] at hb
      have : b = d := by simpa using hb
      rw [this]; exact h
  | n :: r, d, b, hb => by
    rw [cutL] at hb
    split at hb
    · rename_i h
      rcases List.mem_cons.1 hb with rfl | hb
      · intro h0
        have := congrArg List.length h0
        rw [List.length_take, List.length_nil] at this
        omega
      · exact cutL_ne r _ b hb
    · exact cutL_ne r d b hb
theorem cutL_len : ∀ (sz : List Int) (d : List UInt8), (cutL d sz).length ≤ sz.length + 1
  | [], d => by
    rw [cutL]
    split <;> simp
  | n :: r, d => by
    rw [cutL]
    split
    · have := cutL_len r (d.drop (min n.toNat d.length))
      simp only [List.length_cons]; omega
    · have := cutL_len r d
      simp only [List.length_cons]; omega
end Go.Proofs.YtppkiiomedembaaGreatDoor
namespace Go.Proofs.YtppkiiomedembaaGreatDoor
open Go
set_option maxRecDepth 100000
set_option maxHeartbeats 1000000
attribute [local irreducible] E EO
def izV (l : List Int) : List Value := l.map fun z => .int .i64 z
theorem izV_get {l : List Int} {i : Nat} {z : Int} (h : l[i]? = some z) : (izV l)[i]? = some (.int .i64 z) := by simp [izV, h]
def pcV : List (List UInt8) → List (Option Addr × Nat) → List Value
  | p :: r, a :: l => .slice a.1 p.length a.2 :: pcV r l
  | _, _ => []
theorem pcV_app : ∀ (rs : List (List UInt8)) (al : List (Option Addr × Nat)) (r : List UInt8) (a : Option Addr × Nat), al.length = rs.length → pcV (rs ++ [r]) (al ++ [a]) = pcV rs al ++ [.slice a.1 r.length a.2]
  | [], [], r, a, _ => rfl
  | q :: rs, b :: al, r, a, h => by
    have := pcV_app rs al r a (by simpa using h)
    simp only [List.cons_append, pcV, this]
theorem pcV_get : ∀ (rs : List (List UInt8)) (al : List (Option Addr × Nat)) (i : Nat) (r : List UInt8) (a : Option Addr × Nat), rs[i]? = some r → al[i]? = some a → (pcV rs al)[i]? = some (.slice a.1 r.length a.2)
  | q :: rs, b :: al, 0, r, a, h1, h2 => by simp at h1 h2; subst h1 h2; rfl
  | q :: rs, b :: al, i + 1, r, a, h1, h2 => by
    have := pcV_get rs al i r a (by simpa using h1) (by simpa using h2)
    simpa [pcV] using this
structure CutS where
  B : Option Addr
  c : Nat
  d : List UInt8
  A : Option Addr
  cA : Nat
  P : List (List UInt8)
  al : List (Option Addr × Nat)
theorem cut_fn (B : Option Addr) (n c : Nat) (d : List UInt8) (Z : Option Addr) (zc : Nat) (sz : List Int) (M : HP) (hd : d.length = n) (hn : n ≤ 1000000) (hnc : n ≤ c) (hB : c ≠ 0 → ∃ g o, B = some ⟨g, o, none⟩) (hZ : Rd [M] Z sz.length 1 (izV sz)) (hl : sz.length ≤ 1000) :
    Fe Tryz.prog 4 #[.slice B n c, .slice Z sz.length zc] [M] (fun i : (Option Addr × Nat) × List (Option Addr × Nat) => i.2.length = (cutL d sz).length) (fun i => .slice i.1.1 (cutL d sz).length i.1.2) (fun i => [Own i.1.1 i.1.2 22 1 (cutL d sz).length (pcV (cutL d sz) i.2), M]) := by
  subst hd
  refine fn_of_E' (args := [_, _]) 8 _ [_, _, undef, undef, undef, undef, undef, undef] Tryz.func4 rfl Tryz.ntmps4 ?_
  refine walk ?_
  refine y_build0 fun g5 => ?_
  refine walk ?_
  refine e_roundsT (ι := Nat × CutS × Value) (fun q => sz.length - q.1) (fun q => [.slice q.2.1.B q.2.1.d.length q.2.1.c, .slice Z sz.length zc, undef, undef, .slice none 0 0, .slice q.2.1.A q.2.1.P.length q.2.1.cA, undef, q.2.2])
    (fun q => [(11, .int .i64 (q.1 : Nat)), (10, .int .i64 (sz.length : Nat)), (9, .slice Z sz.length zc)]) (fun q => [Own q.2.1.A q.2.1.cA 22 1 q.2.1.P.length (pcV q.2.1.P q.2.1.al), M])
    (fun q => q.1 ≤ sz.length ∧ q.2.1.d.length ≤ q.2.1.c ∧ (q.2.1.c ≠ 0 → ∃ g o, q.2.1.B = some ⟨g, o, none⟩) ∧ q.2.1.al.length = q.2.1.P.length ∧ q.2.1.P ++ cutL q.2.1.d (sz.drop q.1) = cutL d sz ∧ q.2.1.d.length ≤ 1000000 ∧ q.2.1.P.length ≤ q.1)
    (0, ⟨B, c, d, some ⟨g5, 0, none⟩, 0, [], []⟩, undef) ⟨Nat.zero_le _, hnc, hB, rfl, rfl, hn, Nat.zero_le _⟩ rfl (by repeat constructor) (by exact .cons .here (.cons .here .nil)) ?_
  rintro ⟨i, ⟨B1, c1, d1, A1, cA1, P, al⟩, w7⟩ ⟨h1, h2, h3, h4, h5, h6, h7⟩ again
  dsimp only at h1 h2 h3 h4 h5 h6 h7 again ⊢
  by_cases hlt : i < sz.length
  · obtain ⟨z, hz⟩ : ∃ z, sz[i]? = some z := ⟨_, List.getElem?_eq_getElem hlt⟩
    have hdr : sz.drop i = z :: sz.drop (i + 1) := by
      obtain ⟨e1, e2⟩ := List.getElem?_eq_some_iff.1 hz
      rw [List.drop_eq_getElem_cons e1, e2]
    rw [hdr, cutL] at h5
    obtain ⟨gZ, oZ, hZ1, hrow⟩ : ∃ g o, Z = some ⟨g, o, none⟩ ∧ CellRow [M] g o (izV sz) := by
      rcases hZ.2 with h0 | h0
      · omega
      · exact h0
    subst hZ1
    by_cases hpos : 0 < z
    · obtain ⟨a, rfl⟩ : ∃ a : Nat, z = (a : Int) := ⟨z.toNat, by omega⟩
      by_cases hd1 : 0 < d1.length
      · rw [if_pos ⟨hpos, hd1⟩, Int.toNat_natCast] at h5
        refine walk ?_
        refine y_loadR (a := i) hrow (izV_get hz) ?_
        refine walk ?_
        obtain ⟨gB, oB, rfl⟩ := h3 (by omega)
        obtain ⟨m, hm⟩ : ∃ m, m = min a d1.length := ⟨_, rfl⟩
        have hm0 : 0 < m := by omega
        have hm1 : m ≤ d1.length := by omega
        have htl : (d1.take m).length = m := by rw [List.length_take]; omega
        rw [← hm] at h5
        rw [← hm]
        by_cases hmc : m = c1
        · refine x_slLoE (m := m) rfl rfl rfl hm1 hmc pt_ ?_
          refine walk ?_
          refine y_build1 rfl fun gx => ?_
          refine walk ?_
          refine y_app1 (vs := pcV P al) (news := [.slice (some ⟨gB, oB, none⟩) m c1]) rfl rfl fun A2 cA2 => ?_
          refine walk ?_
          have ag := again (i + 1, ⟨some ⟨gB, oB, none⟩, 0, d1.drop m, A2, cA2, P ++ [d1.take m], al ++ [(some ⟨gB, oB, none⟩, c1)]⟩, .int .i64 (m : Int)) (by dsimp only; omega) ⟨by dsimp only; omega, by dsimp only; rw [List.length_drop]; omega, (by dsimp only; first | exact fun _ => ⟨_, _, rfl⟩), by simp [h4], by dsimp only; rw [List.append_assoc]; exact h5, by dsimp only; rw [List.length_drop]; omega, by dsimp only; rw [List.length_append]; simp only [List.length_cons, List.length_nil]; omega⟩
          dsimp only at ag
          rw [pcV_app P al _ _ h4, htl, List.length_drop, show (P ++ [d1.take m]).length = P.length + 1 by simp] at ag
          exact ag.toP (ks := [11, 10, 9]) rfl (by repeat constructor) sub_
        · refine x_slLo (m := m) rfl rfl rfl hm1 h2 (by omega) pt_ ?_
          refine walk ?_
          refine y_build1 rfl fun gx => ?_
          refine walk ?_
          refine y_app1 (vs := pcV P al) (news := [.slice (some ⟨gB, oB, none⟩) m c1]) rfl rfl fun A2 cA2 => ?_
          refine walk ?_
          have ag := again (i + 1, ⟨some ⟨gB, oB + m * 1, none⟩, c1 - m, d1.drop m, A2, cA2, P ++ [d1.take m], al ++ [(some ⟨gB, oB, none⟩, c1)]⟩, .int .i64 (m : Int)) (by dsimp only; omega) ⟨by dsimp only; omega, by dsimp only; rw [List.length_drop]; omega, (by dsimp only; first | exact fun _ => ⟨_, _, rfl⟩), by simp [h4], by dsimp only; rw [List.append_assoc]; exact h5, by dsimp only; rw [List.length_drop]; omega, by dsimp only; rw [List.length_append]; simp only [List.length_cons, List.length_nil]; omega⟩
          dsimp only at ag
          rw [pcV_app P al _ _ h4, htl, List.length_drop, show (P ++ [d1.take m]).length = P.length + 1 by simp] at ag
          exact ag.toP (ks := [11, 10, 9]) rfl (by repeat constructor) sub_
      · rw [if_neg (fun h => hd1 h.2)] at h5
        have ag := again (i + 1, ⟨B1, c1, d1, A1, cA1, P, al⟩, .int .i64 (a : Int)) (by dsimp only; omega) ⟨by dsimp only; omega, h2, h3, h4, h5, h6, by dsimp only; omega⟩
        dsimp only at ag
        refine walk ?_
        refine y_loadR (a := i) hrow (izV_get hz) ?_
        refine walk ?_
        exact ag.toP (ks := [11, 10, 9]) rfl (by repeat constructor) sub_
    · rw [if_neg (fun h => hpos h.1)] at h5
      have ag := again (i + 1, ⟨B1, c1, d1, A1, cA1, P, al⟩, .int .i64 z) (by dsimp only; omega) ⟨by dsimp only; omega, h2, h3, h4, h5, h6, by dsimp only; omega⟩
      dsimp only at ag
      refine walk ?_
      refine y_loadR (a := i) hrow (izV_get hz) ?_
      refine walk ?_
      exact ag.toP (ks := [11, 10, 9]) rfl (by repeat constructor) sub_
  · have hil : i = sz.length := by omega
    subst hil
    rw [List.drop_length, cutL] at h5
    clear again
    by_cases hd1 : 0 < d1.length
    · rw [if_neg (fun h => by rw [h] at hd1; simp at hd1)] at h5
      refine walk ?_
      refine y_build1 rfl fun gx => ?_
      refine walk ?_
      refine y_app1 (vs := pcV P al) (news := [.slice B1 d1.length c1]) rfl rfl fun A2 cA2 => ?_
      refine walk ?_
      have e := pcV_app P al d1 (B1, c1) h4
      dsimp only at e
      rw [← h5]
      rw [← e, show P.length + 1 = (P ++ [d1]).length by simp]
      exact y_ret [4] rfl ⟨((A2, cA2), al ++ [(B1, c1)]), by simp [h4], rfl, rfl⟩
    · rw [if_pos (List.length_eq_zero_iff.1 (by omega)), List.append_nil] at h5
      rw [← h5]
      refine walk ?_
      exact y_ret [4] rfl ⟨((A1, cA1), al), h4, rfl, rfl⟩
end Go.Proofs.YtppkiiomedembaaGreatDoor
namespace Go.Proofs.YtppkiiomedembaaGreatDoor
open Go
set_option maxRecDepth 100000
set_option maxHeartbeats 1000000
attribute [local irreducible] E EO
inductive StepC (wg : Nat) (G : HP) : OpR → HP → HP → Prop
  | create {r : OpR} {S S' : HP} : r.op = 0 → r.md < 65536 → (∀ gf, Fd Tryz.prog 37 #[ptrV wg, .string (str r.nm), ptrV gf] [S, Cells gf 181 (fileC (r.z : Int) r.md r.ui r.gi (.map none)), G] .nilIface [S', G]) → StepC wg G r S S'
  | write {r : OpR} {S S' : HP} : r.op = 1 → (∀ X c, (X = none → r.dat.length = 0) → Fd Tryz.prog 39 #[ptrV wg, .slice X r.dat.length c] [S, Own X c 5 1 r.dat.length (enc r.dat)] (.tuple #[.int .i64 r.dat.length, .nilIface]) [S']) → StepC wg G r S S'
  | parents {r : OpR} {S S' : HP} : r.op = 4 → Fd Tryz.prog 43 #[ptrV wg, .string (str r.nm)] [S] .nilIface [S'] → StepC wg G r S S'
def ImgE (dg : Nat) (PB : List UInt8 → Prop) : HP := .ex fun i : Nat × List UInt8 => .fact (PB i.2 ∧ i.2 ≠ []) (DiskP dg i.1 i.2)
abbrev toldV (n : Nat) : List Value := [.int .i64 0, .int .i64 (n : Int), .string ⟨#[]⟩, .int .i64 0, .int .u16 0, .int .u32 0, .int .u32 0, .bool false, .int .i64 0, .int .i64 0, .bool false, .int .i64 0, .int .i64 0, .bool false, .int .i64 0, .int .i64 0, .bool false, .int .i64 0, .int .i64 0, .int .u32 0, .int .u32 0, .slice none 0 0]
def toldsV : List Nat → List Value
  | [] => []
  | n :: r => toldV n ++ toldsV r
theorem toldsV_app : ∀ (a : List Nat) (n : Nat), toldsV (a ++ [n]) = toldsV a ++ toldV n
  | [], n => by simp [toldsV]
  | m :: a, n => by simp only [List.cons_append, toldsV, toldsV_app a n, List.append_assoc]
theorem opsP_take : ∀ (rs : List OpR) (al : List OpA) (i : Nat) (r : OpR) (a : OpA), rs[i]? = some r → al[i]? = some a → ∃ F, Take (Own a.D a.c 5 1 r.dat.length (enc r.dat)) (opsP rs al) F
  | q :: rs, b :: al, 0, r, a, h1, h2 => by
    simp at h1 h2; subst h1 h2; exact ⟨_, .here⟩
  | q :: rs, b :: al, i + 1, r, a, h1, h2 => by
    obtain ⟨F, hF⟩ := opsP_take rs al i r a (by simpa using h1) (by simpa using h2)
    exact ⟨_, hF.there⟩
theorem opsP_out (rs : List OpR) (al : List OpA) (i : Nat) (r : OpR) (a : OpA) (h1 : rs[i]? = some r) (h2 : al[i]? = some a) : ∃ F, Tn [HP.star (opsP rs al)] (fun _ : Unit => True) (fun _ => [Own a.D a.c 5 1 r.dat.length (enc r.dat), HP.star F]) ∧ Tn [Own a.D a.c 5 1 r.dat.length (enc r.dat), HP.star F] (fun _ : Unit => True) (fun _ => [HP.star (opsP rs al)]) := by
  obtain ⟨F, hF⟩ := opsP_take rs al i r a h1 h2
  refine ⟨F, fun m S hS => ?_, fun m S hS => ?_⟩
  · have h0 : sats (opsP rs al) m S := sats_one' hS
    obtain ⟨S1, S2, a1, a2, a3, a4⟩ := sats_perm hF.perm h0
    exact ⟨(), S, trivial, ⟨S1, S2, a1, sats_one a2, a3, a4⟩, fun _ h => h⟩
  · obtain ⟨S1, S2, a1, a2, a3, a4⟩ := hS
    have h0 : sats (Own a.D a.c 5 1 r.dat.length (enc r.dat) :: F) m S := ⟨S1, S2, a1, sats_one' a2, a3, a4⟩
    exact ⟨(), S, trivial, sats_one (sats_perm hF.perm.symm h0), fun _ h => h⟩
theorem Image_fn (il : Bool) (rs : List OpR) (al : List OpA) (go co : Nat) (G : HP) (PB : List UInt8 → Prop) (Sf : Nat → Nat → Nat → HP) (hal : al.length = rs.length) (hn : rs.length ≤ 1000) (hz : ∀ r ∈ rs, r.z ≤ 1000000000 ∧ r.dat.length ≤ 1000000000)
    (h0 : ∀ wg dg, Tn [Cells wg 174 (rawW dg il ((17179869184 : Nat) : Int)), DiskP dg 0 []] (fun _ : Unit => True) (fun _ => [Sf wg dg 0]))
    (hs : ∀ wg dg i r, rs[i]? = some r → StepC wg G r (Sf wg dg i) (Sf wg dg (i + 1)))
    (hc : ∀ wg dg, Fd Tryz.prog 45 #[ptrV wg] [Sf wg dg rs.length] .nilIface [ImgE dg PB]) :
    Fe Tryz.prog 10 #[.bool il, .int .i64 0, .slice (some ⟨go, 0, none⟩) rs.length co] [Own (some ⟨go, 0, none⟩) co 39 24 rs.length (opsV rs al), HP.star (opsP rs al), G] (fun i : (Option Addr × Nat × Nat) × (Nat × Nat) × List UInt8 => PB i.2.2 ∧ i.2.2 ≠ [])
      (fun i => .tuple #[.slice i.1.1 i.1.2.1 i.1.2.2, .int .i64 0, .slice (some ⟨i.2.1.1, 0, none⟩) i.2.2.length i.2.1.2]) (fun i => [ImgQ i.2.1.1 i.2.1.2 i.2.2, G]) := by
  refine fn_of_E' (args := [_, _, _]) 21 _ [_, _, _, undef, undef, undef, undef, undef, undef, undef, undef, undef, undef, undef, undef, undef, undef, undef, undef, undef, undef] Tryz.func10 rfl Tryz.ntmps10 ?_
  refine walk ?_
  refine y_boxA rfl fun gd => ?_
  refine walk ?_
  refine y_callE rfl rfl mds_fn fun gA _ => ?_
  refine walk ?_
  refine y_build1 rfl fun gs => ?_
  refine walk ?_
  refine e_cont (ι := Nat × Nat × Nat) (fun q => [.bool il, .int .i64 0, .slice (some ⟨go, 0, none⟩) rs.length co, undef, undef, undef, .slice none 0 0, .int .i64 0, .slice none 0 0, ptrV gd, .slice (some ⟨q.1, 0, none⟩) q.2.1 q.2.2, undef, undef, undef, undef, undef, undef, undef, undef, undef, undef]) (fun _ => []) (fun q => [Own (some ⟨q.1, 0, none⟩) q.2.2 110 1 q.2.1 (.func (.func 90) #[] #[ptrV gA] :: if il = true then [.func (.func 35) #[] #[]] else []), Cells gA 2 [.int .i64 0], Cells gd 108 [.slice none 0 0, .int .i64 0], Own (some ⟨go, 0, none⟩) co 39 24 rs.length (opsV rs al), HP.star (opsP rs al), G]) (fun q => q.2.1 = if il = true then 2 else 1) (fun rest => ?_) ?_
  · cases il with
    | false =>
      refine e_false rfl ?_
      refine e_skip ?_
      exact (rest (gs, 1, 1) rfl).toP rfl (by repeat constructor) (by exact .cons .here (.cons .here (.cons .here (.cons .here (.cons .here (.cons .here .nil))))))
    | true =>
      refine e_true rfl ?_
      refine e_region ?_
      refine walkO ?_
      refine y_build1 rfl fun gs2 => ?_
      refine y_app1 rfl rfl fun A' c' => ?_
      refine EO.know (A := Own A' c' 110 1 (1 + 1) ([.func (.func 90) #[] #[ptrV gA]] ++ [.func (.func 35) #[] #[]])) take_ (fun _ _ => Own.know) fun hk => ?_
      obtain ⟨k1, k2, k3, k4⟩ := hk
      cases A' with
      | none => have := k3 rfl; omega
      | some ad =>
      obtain ⟨ga, rfl⟩ := k4 ad rfl
      refine walkO ?_
      refine x_end ?_
      exact (rest (ga, 2, c') rfl).toP rfl (by repeat constructor) (by exact .cons .here (.cons (.there .here) sub_))
  · rintro ⟨gs2, n2, c2⟩ hn2
    dsimp only at hn2 ⊢
    refine e_seq ?_
    refine e_cont (ι := Nat) (fun wg => [.bool il, .int .i64 0, .slice (some ⟨go, 0, none⟩) rs.length co, undef, undef, undef, .slice none 0 0, .int .i64 0, .slice none 0 0, ptrV gd, .slice (some ⟨gs2, 0, none⟩) n2 c2, ptrV wg, undef, undef, undef, undef, undef, undef, undef, undef, undef]) (fun _ => []) (fun wg => [Cells wg 174 (rawW gd il ((17179869184 : Nat) : Int)), Cells gd 108 [.slice none 0 0, .int .i64 0], Own (some ⟨go, 0, none⟩) co 39 24 rs.length (opsV rs al), HP.star (opsP rs al), G]) (fun _ => True) (fun rest => ?_) ?_
    · cases il with
      | false =>
        rw [if_neg (by decide)] at hn2 ⊢
        subst hn2
        refine e_region ?_
        refine walkO ?_
        refine y_callE rfl rfl (newW0_fn gd gs2 gA c2) fun wg _ => ?_
        refine walkO ?_
        refine x_end ?_
        exact (rest wg trivial).toP rfl (by repeat constructor) sub_
      | true =>
        rw [if_pos rfl] at hn2 ⊢
        subst hn2
        refine e_region ?_
        refine walkO ?_
        refine y_callE rfl rfl (newW1_fn gd gs2 gA c2) fun wg _ => ?_
        refine walkO ?_
        refine x_end ?_
        exact (rest wg trivial).toP rfl (by repeat constructor) sub_
    · rintro wg _
      have hT : Tn [Cells gd 108 [.slice none 0 0, .int .i64 0], Own none 0 5 1 0 []] (fun _ : Unit => True) (fun _ => [DiskP gd 0 []]) := DiskP.close (g := gd) (p := 0) (B := []) none 0 (by simp)
      refine E.nilOwn (e := 5) (sz := 1) ?_
      refine y_tn hT fun _ _ => ?_
      refine y_tn (h0 wg gd) fun _ _ => ?_
      refine walk ?_
      refine E.nilOwn (e := 116) (sz := 22) ?_
      refine e_roundsT (ι := Nat × (Option Addr × Nat × List Nat) × (Value × Value × Value × Value × Value × Value)) (fun z => rs.length - z.1)
        (fun z => [.bool il, .int .i64 0, .slice (some ⟨go, 0, none⟩) rs.length co, undef, undef, undef, .slice none 0 0, .int .i64 0, .slice none 0 0, ptrV gd, .slice (some ⟨gs2, 0, none⟩) n2 c2, ptrV wg, .slice z.2.1.1 z.1 z.2.1.2.1, undef, z.2.2.1, z.2.2.2.1, z.2.2.2.2.1, z.2.2.2.2.2.1, z.2.2.2.2.2.2.1, undef, undef])
        (fun z => [(35, .int .i64 (z.1 : Nat)), (34, .int .i64 (rs.length : Nat)), (33, .slice (some ⟨go, 0, none⟩) rs.length co)])
        (fun z => [Own z.2.1.1 z.2.1.2.1 116 22 z.1 (toldsV z.2.1.2.2), Sf wg gd z.1, Own (some ⟨go, 0, none⟩) co 39 24 rs.length (opsV rs al), HP.star (opsP rs al), G])
        (fun z => z.1 ≤ rs.length ∧ z.2.1.2.2.length = z.1) (0, (none, 0, []), (undef, undef, undef, undef, undef, undef)) ⟨Nat.zero_le _, rfl⟩ rfl (by repeat constructor) (by exact .cons .here (.cons .here (.cons .here (.cons .here (.cons .here .nil))))) ?_
      rintro ⟨i, ⟨A, c, ns⟩, ⟨w14, w15, w16, w17, w18, w19⟩⟩ ⟨hi, hnl⟩ again
      dsimp only at hi hnl again ⊢
      by_cases hlt : i < rs.length
      · obtain ⟨r, hr⟩ : ∃ r, rs[i]? = some r := ⟨_, List.getElem?_eq_getElem hlt⟩
        obtain ⟨a, ha⟩ : ∃ a, al[i]? = some a := ⟨_, List.getElem?_eq_getElem (by omega)⟩
        obtain ⟨hz1, hz2⟩ := hz r (List.mem_of_getElem? hr)
        have hst := hs wg gd i r hr
        refine walk ?_
        refine y_loadS (vs := opsV rs al) (us := opV r a) (i * 24) (opsV_get _ _ i r a hr ha) ?_
        refine walk ?_
        refine y_alloc fun g14 => ?_
        refine walk ?_
        refine y_alloc fun g15 => ?_
        refine walk ?_
        refine e_cont (ι := Nat × Value) (fun q => [.bool il, .int .i64 0, .slice (some ⟨go, 0, none⟩) rs.length co, undef, undef, undef, .slice none 0 0, .int .i64 0, .slice none 0 0, ptrV gd, .slice (some ⟨gs2, 0, none⟩) n2 c2, ptrV wg, .slice A i c, undef, ptrV g14, ptrV g15, .nilIface, q.2, w18, undef, undef])
          (fun _ => [(35, .int .i64 (i : Nat)), (34, .int .i64 (rs.length : Nat)), (33, .slice (some ⟨go, 0, none⟩) rs.length co)])
          (fun q => [Cells g15 116 (toldV q.1), Own A c 116 22 i (toldsV ns), Sf wg gd (i + 1), Own (some ⟨go, 0, none⟩) co 39 24 rs.length (opsV rs al), HP.star (opsP rs al), G]) (fun _ => True) (fun rest => ?_) ?_
        · cases hst with
          | create hop hmd hC =>
            have r0 := fun v => rest (0, v) trivial
            clear rest
            refine e_cond rfl (fun ht => ?_) (fun hf => ?_)
            · refine walk ?_
              refine y_callN rfl rfl (toFile_fn (r.z : Int) r.md r.ui r.gi) fun gf _ => ?_
              refine y_callD rfl rfl (hC gf) ?_
              refine walkO ?_
              refine x_end ?_
              exact (r0 _).toP (ks := [35, 34, 33]) rfl (by repeat constructor) (by exact .cons (.there (.there .here)) sub_)
            · rw [hop] at hf; exact absurd hf (by decide)
          | write hop hW =>
            have r0 := rest (r.dat.length, w17) trivial
            clear rest
            rw [show ((r.op : Int) == 0) = false from by rw [hop]; rfl]
            refine e_false rfl ?_
            obtain ⟨F, hT1, hT2⟩ := opsP_out rs al i r a hr ha
            refine y_tn hT1 fun _ _ => ?_
            refine E.know (A := Own a.D a.c 5 1 r.dat.length (enc r.dat)) take_ (fun _ _ => Own.know) fun hk => ?_
            obtain ⟨k1, k2, k3, k4⟩ := hk
            have hDn : a.D = none → r.dat.length = 0 := fun h => by have := k3 h; omega
            refine E.nilOwn (e := 5) (sz := 1) ?_
            refine walk ?_
            refine y_appR (e := 5) (b := 1) (z := .int .u8 0) (vs := []) (A := none) (n := 0) (c := 0) (B := a.D) (m := r.dat.length) (c' := a.c) (news := enc r.dat) rfl rfl ?_ hDn (fun u hu => List.all_eq_true.1 (enc_all r.dat) u hu) fun A2 c2 => ?_
            · have hrd := Rd.takeN (L := [Own a.D a.c 5 1 r.dat.length (enc r.dat), HP.star F, Cells g15 116 (toldV 0), Cells g14 39 (opV r a), Own A c 116 22 i (toldsV ns), Sf wg gd i, Own (some ⟨go, 0, none⟩) co 39 24 rs.length (opsV rs al), G]) (p := r.dat.length) .here hDn k4 (by rw [k1, Nat.mul_one]) (Nat.le_refl _)
              rw [List.take_of_length_le (by rw [k1, Nat.mul_one]; exact Nat.le_refl _)] at hrd
              exact hrd
            rw [Nat.zero_add r.dat.length, List.nil_append]
            refine EO.know (A := Own A2 c2 5 1 r.dat.length (enc r.dat)) take_ (fun _ _ => Own.know) fun hk => ?_
            obtain ⟨q1, q2, q3, q4⟩ := hk
            refine walk ?_
            refine y_callD rfl rfl (hW A2 c2 fun h => by have := q3 h; omega) ?_
            refine walkO ?_
            refine x_end ?_
            refine y_tn hT2 fun _ _ => ?_
            exact r0.toP (ks := [35, 34, 33]) rfl (by repeat constructor) sub_
          | parents hop hM =>
            have r0 := rest (0, w17) trivial
            clear rest
            rw [show ((r.op : Int) == 0) = false from by rw [hop]; rfl]
            refine e_false rfl ?_
            refine walk ?_
            refine y_callD rfl rfl hM ?_
            refine walkO ?_
            refine x_end ?_
            exact r0.toP (ks := [35, 34, 33]) rfl (by repeat constructor) (by exact .cons (.there .here) sub_)
        · rintro ⟨N, v17⟩ _
          dsimp only
          refine walk ?_
          refine y_callq rfl rfl spoilt0_fn ?_
          refine walk ?_
          refine y_build (vs := [.agg (toldV N).toArray]) (cs := toldV N) rfl (fill_one (n := 22) [.int .i64 0, .int .i64 0, .string ⟨#[]⟩, .int .i64 0, .int .u16 0, .int .u32 0, .int .u32 0, .bool false, .int .i64 0, .int .i64 0, .bool false, .int .i64 0, .int .i64 0, .bool false, .int .i64 0, .int .i64 0, .bool false, .int .i64 0, .int .i64 0, .int .u32 0, .int .u32 0, .slice none 0 0] _ rfl rfl (by omega)) rfl fun gs => ?_
          refine walk ?_
          refine x_app (vs := toldsV ns) (news := toldV N) rfl rfl take_ (by exact ⟨rfl, .inr ⟨_, _, rfl, (by first | ((repeat (first | exact CellRow.own | exact CellRow.here | apply CellRow.there)) <;> fail) | fail)⟩⟩) (fun h => by cases h) (by simp [Value.oneCell']) (by rfl) (by omega) (by simp only [maxLen]; omega) (by omega) (fun A5 c5 => ⟨_, _, pt_, ?_⟩)
          refine walk ?_
          rw [← toldsV_app]
          have ag := again (i + 1, (A5, c5, ns ++ [N]), (ptrV g14, ptrV g15, .nilIface, v17, w18, w19)) (by dsimp only; omega) ⟨by dsimp only; omega, by simp [hnl]⟩
          dsimp only at ag
          exact ag.toP (ks := [35, 34, 33]) rfl (by repeat constructor) sub_
      · have hil : i = rs.length := by omega
        subst hil
        clear again
        refine walk ?_
        refine y_callD rfl rfl (hc wg gd) ?_
        refine walk ?_
        have hI : Tn [ImgE gd PB] (fun i : Nat × List UInt8 => PB i.2 ∧ i.2 ≠ []) (fun i => [DiskP gd i.1 i.2]) := fun m S h => by
          obtain ⟨i, h1, h2⟩ := sats_one' h
          exact ⟨i, S, h1, sats_one h2, fun _ h => h⟩
        refine y_tno hI fun j hj => ?_
        obtain ⟨p, B⟩ := j
        dsimp only at hj ⊢
        refine y_tno DiskP.open fun j hB => ?_
        obtain ⟨AB, cB⟩ := j
        dsimp only at hB ⊢
        refine EO.know (A := Own AB cB 5 1 B.length (enc B)) take_ (fun _ _ => Own.know) fun hk => ?_
        obtain ⟨k1, k2, k3, k4⟩ := hk
        have hBl : B.length ≠ 0 := fun h => hj.2 (List.length_eq_zero_iff.1 h)
        cases AB with
        | none => have := k3 rfl; omega
        | some ad =>
        obtain ⟨gI, rfl⟩ := k4 ad rfl
        refine walk ?_
        have hQ : Tn [Own (some ⟨gI, 0, none⟩) cB 5 1 B.length (enc B)] (fun _ : Unit => True) (fun _ => [ImgQ gI cB B]) := fun m S h => ⟨(), S, trivial, h, fun _ h => h⟩
        refine y_tn hQ fun _ _ => ?_
        exact y_ret [6, 7, 8] rfl ⟨((A, rs.length, c), (gI, cB), B), hj, rfl, rfl⟩
end Go.Proofs.YtppkiiomedembaaGreatDoor
namespace Go.Proofs.YtppkiiomedembaaGreatDoor
open Go
theorem str_inj {a b : List UInt8} (h : str a = str b) : a = b := by
  have := congrArg ByteArray.toList h
  simpa [str_toList] using this
def chN (md ui gi : Nat) : Nat → List (List UInt8 × Nat) → List Nd
  | _, [] => []
  | _, [_] => []
  | num, (_, g) :: (c', g') :: r => ⟨g, num, md, ui, gi, if r = [] then 2 else 3, 0, 262144, 0, [], [], some [(c', g')]⟩ :: chN md ui gi (num + 1) ((c', g') :: r)
theorem chN_len (md ui gi : Nat) : ∀ (ds : List (List UInt8 × Nat)) (num : Nat), (chN md ui gi num ds).length = ds.length - 1
  | [], _ => rfl
  | [_], _ => rfl
  | (_, g) :: (c', g') :: r, num => by
    have := chN_len md ui gi ((c', g') :: r) (num + 1)
    simp only [chN, List.length_cons] at this ⊢
    omega
end Go.Proofs.YtppkiiomedembaaGreatDoor
namespace Go.Proofs.YtppkiiomedembaaGreatDoor
open Go
set_option maxRecDepth 100000
set_option maxHeartbeats 1000000
attribute [local irreducible] E EO
section
variable {ι : Type} {P : Program} {f : FuncId} {args : Array Value} {L La M' N F : List HP} {v : Value} {PI : ι → Prop} {LL : ι → List HP}
theorem Subs.refl' (L : List HP) : Subs L L [] := by
  induction L with
  | nil => exact .nil
  | cons A L ih => exact .cons .here ih
theorem Fe.close (h : Fe P f args L PI (fun _ => v) LL) (hc : ∀ i, PI i → Tn (LL i) (fun _ : Unit => True) (fun _ => M')) : Fd P f args L v M' := by
  intro w S hS
  refine (h w S hS).mono ?_
  rintro u w' ⟨L', ⟨i, hi, rfl, rfl⟩, hst⟩
  obtain ⟨_, _, h2⟩ := hst.tn (hc i hi) (Subs.refl' _)
  rw [List.append_nil] at h2
  exact ⟨M', ⟨rfl, rfl⟩, h2⟩
end
def dp3 (rm ru rg md ui gi g2 g11 : Nat) (its : List (List UInt8 × Nat)) : List Nd := ⟨g2, 2, rm, ru, rg, if its.length ≤ 1 then 3 else 4, 0, 262144, 0, [], [], some ((lfN, g11) :: its.take 1)⟩ :: ⟨g11, 11, 16832, 0, 0, 2, 0, 262144, 0, [], [], some []⟩ :: chN md ui gi 12 its
structure Cm where
  rm : Nat
  ru : Nat
  rg : Nat
  md : Nat
  ui : Nat
  gi : Nat
  fm : Nat
structure CmOk (k : Cm) : Prop where
  hrm : k.rm &&& 61440 = 16384
  hrm2 : k.rm < 65536
  hru : k.ru < 4294967296
  hrg : k.rg < 4294967296
  hmd : k.md &&& 61440 = 16384
  hmd2 : k.md < 65536
  hui : k.ui < 4294967296
  hgi : k.gi < 4294967296
  hfm : k.fm &&& 61440 = 32768
  hfm2 : k.fm < 65536
abbrev dpk (k : Cm) (g2 g11 : Nat) (its : List (List UInt8 × Nat)) : List Nd := dp3 k.rm k.ru k.rg k.md k.ui k.gi g2 g11 its
structure DI where
  g2 : Nat
  g11 : Nat
  gs : List Nat
  gF : Nat
abbrev wsA (wg dg : Nat) (il : Bool) (i : DI) : Ws := ⟨wg, dg, (ws1 wg dg il i.g2 i.g11).ids ++ i.gs.map some, str [], none, 0, 0, il, []⟩
abbrev wsB (wg dg : Nat) (il : Bool) (i : DI) (nm : List UInt8) (dw z : Nat) (body : List UInt8) : Ws := ⟨wg, dg, (ws1 wg dg il i.g2 i.g11).ids ++ i.gs.map some ++ [some i.gF], str nm, some i.gF, dw, z, il, body⟩
abbrev fileN (fm d gF : Nat) (inl : Bool) (z : Nat) (dat : List UInt8) : Nd := ⟨gF, 12 + d, fm, 0, 0, 1, 0, if inl then 268697600 else 262144, z, if inl then dat else [], if inl then xinB (List.replicate (z - 60) 0) else [], none⟩
def SB (wg dg : Nat) (il : Bool) (k : Cm) (ds : List (List UInt8)) (e nm : List UInt8) (inl : Bool) (dw z : Nat) (dat body : List UInt8) : HP := .ex fun i : DI => .fact (i.gs.length = ds.length) (.star [WP (wsB wg dg il i nm dw z body), NodesP (dpk k i.g2 i.g11 (ds.zip i.gs ++ [(e, i.gF)]) ++ [fileN k.fm ds.length i.gF inl z dat])])
theorem SB_in (wg dg : Nat) (il : Bool) (k : Cm) (g2 g11 : Nat) (gs : List Nat) (gF : Nat) (ds : List (List UInt8)) (e nm : List UInt8) (inl : Bool) (dw z : Nat) (dat body : List UInt8) (hl : gs.length = ds.length) (s : Ws) (l : List Nd) (hs : s = wsB wg dg il ⟨g2, g11, gs, gF⟩ nm dw z body) (h : l = dpk k g2 g11 (ds.zip gs ++ [(e, gF)]) ++ [fileN k.fm ds.length gF inl z dat]) :
    Tn [WP s, NodesP l] (fun _ : Unit => True) (fun _ => [SB wg dg il k ds e nm inl dw z dat body]) := by
  subst hs h
  exact Tn.inexs (A := fun i : DI => [WP (wsB wg dg il i nm dw z body), NodesP (dpk k i.g2 i.g11 (ds.zip i.gs ++ [(e, i.gF)]) ++ [fileN k.fm ds.length i.gF inl z dat])]) (p := fun i : DI => i.gs.length = ds.length) (⟨g2, g11, gs, gF⟩ : DI) hl
theorem SB_out (wg dg : Nat) (il : Bool) (k : Cm) (ds : List (List UInt8)) (e nm : List UInt8) (inl : Bool) (dw z : Nat) (dat body : List UInt8) :
    Tn [SB wg dg il k ds e nm inl dw z dat body] (fun i : DI => i.gs.length = ds.length) (fun i => [WP (wsB wg dg il i nm dw z body), NodesP (dpk k i.g2 i.g11 (ds.zip i.gs ++ [(e, i.gF)]) ++ [fileN k.fm ds.length i.gF inl z dat])]) := Tn.exs
theorem WriteIN_w (s : Ws) (l : List Nd) (k : Nat) (x : Nd) (bs : List UInt8) (X : Option Addr) (m cx : Nat) (M : HP) (hx : l[k]? = some x) (hr : Rd [M] X m 1 (enc bs)) (hm : bs.length = m) (hpos : 0 < m) (hcur : s.cur = some x.g) (hfl : x.flags &&& 268435456 ≠ 0) (hf2 : x.flags < 4294967296) (hd : s.dw + m ≤ s.dm) (hd2 : s.dw + m ≤ x.data.length) (hdm : s.dm ≤ 9223372036854775807) (hw : s.dw ≤ 1000000000) (hm2 : m ≤ 1000000000) :
    Fd Tryz.prog 39 #[ptrV s.wg, .slice X m cx] [WP s, NodesP l, M] (.tuple #[.int .i64 m, .nilIface])
      [WP { s with dw := s.dw + m }, NodesP (l.set k { x with data := x.data.take s.dw ++ bs ++ x.data.drop (s.dw + m) }), M] := by
  refine y_fn (NodesP.open hx) fun _ _ => ?_
  exact ((WriteI_w s x bs X m cx M hr hm hpos hcur hfl hf2 hd hd2 hdm hw hm2).frame (L := [NodeP x, NodesP (l.eraseIdx k), WP s, M])).close (NodesP.close { x with data := x.data.take s.dw ++ bs ++ x.data.drop (s.dw + m) } (List.getElem?_eq_some_iff.1 hx).1)
end Go.Proofs.YtppkiiomedembaaGreatDoor
