/-
  The walks: an image is written and read; The walks: the law FnImageDeep; Arguments that came in, as the law's walk wants them; A file and the table that came in, as the law's walk wants them; The law FnImageDeep: for every input (names, a file, data, inline or not) the law returns true and each argument reads behind the call as it read before. Conditions: none beyond the row's own: the package-level variable xattrPrefixes holds what the program's text lays (the card ties it). Conditions: none.
-/
import Derived.Test.YtcdalfhkhifplaaGreatDoorM18
import Derived.Test.YtcdalfhkhifplaaGreatDoorRows
import Derived.WalkKit
import Derived.ProofKit
import Derived.OpenShut
import Derived.Deep.DeepHandedRow
import Derived.Lib.LaidTab
import Derived.SliceStrings
import Derived.Carry
import Derived.Deep.Strs
import Derived.Test.YtcdalfhkhifplaaGreatDoorCards
import Derived.Test.YtcdalfhkhifplaaGreatDoorTie
set_option linter.unusedVariables false
set_option linter.unusedSimpArgs false
namespace Go.Proofs.YtcdalfhkhifplaaGreatDoor
open Go
set_option maxRecDepth 100000
set_option maxHeartbeats 4000000
attribute [local irreducible] E EO
theorem list_snoc {α : Type} (c : α) (r : List α) : ∃ ds e, c :: r = ds ++ [e] ∧ ds.length = r.length := by
  have h : c :: r ≠ [] := by simp
  refine ⟨(c :: r).dropLast, (c :: r).getLast h, (List.dropLast_concat_getLast h).symm, by simp⟩
def deepW (ig ic : Nat) (img : List UInt8) (md ui gi : Nat) (names : List (List UInt8)) (inl : Bool) (data : List UInt8) (vg : Nat) (cl : List Nat) : Vs := { deepV ig ic img names.length (blkD inl data) with vg := vg, cl := cl, inos := deepRI md ui gi names inl data }
theorem imageRead_fn (il : Bool) (md ui gi : Nat) (hmd : md &&& 61440 = 16384) (hmd2 : md < 65536) (hui : ui < 4294967296) (hgi : gi < 4294967296) (c : List UInt8) (r : List (List UInt8)) (hgood : ∀ z ∈ c :: r, good z ∧ z.length ≤ 255) (hlf : c ≠ lfN) (hlen : r.length ≤ 99)
    (data : List UInt8) (hdl : data.length ≤ 4000) (inl : Bool) (hinl : inl = (il && decide (data.length ≤ 136))) (al : List OpA) (hal : al.length = 4) (go co : Nat) (M : HP) (hP : PfxP M)
    (hd : ∀ (i : Nat) (r' : OpR) (a : OpA), (deepRs md ui gi (joinP (c :: r)) data)[i]? = some r' → al[i]? = some a → Rd [M] a.D r'.dat.length 1 (enc r'.dat) ∧ (a.D = none → r'.dat.length = 0) ∧ r'.dat.length ≤ 1000000000) :
    Fe Tryz.prog 8 #[.bool il, .int .i64 0, .slice (some ⟨go, 0, none⟩) 4 co] [Own (some ⟨go, 0, none⟩) co 35 24 4 (opsV (deepRs md ui gi (joinP (c :: r)) data) al), M] (fun i : Nat × (Nat × Nat × List UInt8 × List Nat) => i.2.2.2.1.length = nbD (r.length + 1) (blkD inl data) * 4096 ∧ i.2.2.2.1.length ≤ i.2.2.1) (fun i => .tuple #[ptrV i.1, .bool true])
      (fun i => [VP (deepW i.2.1 i.2.2.1 i.2.2.2.1 md ui gi (c :: r) inl data i.1 i.2.2.2.2), M]) := by
  obtain ⟨ds, e, hde, hdsl⟩ := list_snoc c r
  have hi136 : inl = true → data.length ≤ 136 := by
    intro h
    rw [h] at hinl
    have := (Bool.and_eq_true_iff.1 hinl.symm).2
    exact of_decide_eq_true this
  have hrl : (deepRs md ui gi (joinP (c :: r)) data).length = 4 := rfl
  have hdup := dupOps_fn (deepRs md ui gi (joinP (c :: r)) data) al go co M hal (by rw [hrl]; decide) hd
  rw [hrl] at hdup
  refine fn_of_E' (args := [_, _, _]) 12 _ [_, _, _, undef, undef, undef, undef, undef, undef, undef, undef, undef] Tryz.func8 rfl Tryz.ntmps8 ?_
  refine walk ?_
  refine y_callE rfl rfl hdup fun i hi => ?_
  obtain ⟨⟨A, c1⟩, al2⟩ := i
  dsimp only at hi ⊢
  refine EO.know (A := Own A c1 35 24 4 (opsV (deepRs md ui gi (joinP (c :: r)) data) al2)) take_ (fun _ _ => Own.know) fun hk => ?_
  obtain ⟨k1, k2, k3, k4⟩ := hk
  cases A with
  | none => have := k3 rfl; omega
  | some ad =>
  obtain ⟨gA, rfl⟩ := k4 ad rfl
  have him := deepImage il md ui gi hmd hmd2 hui hgi ds e (by omega) (by rw [← hde]; exact hgood) (by rw [← hde]; intro z hz; simp at hz; rw [← hz]; exact hlf) data hdl inl hinl al2 hi gA c1 M hP
  rw [← hde] at him
  refine walk ?_
  refine y_callE rfl rfl him fun j hj => ?_
  obtain ⟨⟨AT, nT, cT⟩, ⟨ig, ic⟩, img⟩ := j
  obtain ⟨hj1, hj2⟩ := hj
  dsimp only at hj1 hj2 ⊢
  refine EO.know (A := ImgQ ig ic img) (p := img.length ≤ ic) take_ (fun _ _ h => (Own.know h).2.1) fun hic => ?_
  obtain ⟨cl', hread⟩ := deepRead il md ui gi hmd hmd2 hui hgi c r hgood hlf hlen inl data hdl hi136 ig ic img hj1 hic
  refine walk ?_
  refine y_callE rfl rfl hread fun vg _ => ?_
  refine walk ?_
  refine y_loadC (v := .slice none 0 0) (VP.cell 2 _ fun _ _ _ _ => rfl) ?_
  refine walk ?_
  refine y_ret (M := [VP { deepV ig ic img (r.length + 1) (blkD inl data) with vg := vg, cl := cl', inos := deepRI md ui gi (c :: r) inl data }, M]) [6, 7] rfl ⟨(vg, ig, ic, img, cl'), ⟨?_, hic⟩, rfl, rfl⟩
  show img.length = _
  rw [hj1, imgD_len il md ui gi (c :: r) inl data (by simp) (fun z hz => (hgood z hz).2) hdl hi136]
  rfl
end Go.Proofs.YtcdalfhkhifplaaGreatDoor
namespace Go.Proofs.YtcdalfhkhifplaaGreatDoor
open Go
set_option maxRecDepth 100000
set_option maxHeartbeats 4000000
attribute [local irreducible] E EO
abbrev mdD (md : Nat) : Nat := 16384 ||| (md &&& 4095)
theorem mdD_ok (md : Nat) : mdD md &&& 61440 = 16384 ∧ mdD md < 65536 := by
  refine ⟨?_, ?_⟩
  · show (16384 ||| (md &&& 4095)) &&& 61440 = 16384
    rw [Nat.and_or_distrib_right, Nat.and_assoc]
    have h1 : (16384 : Nat) &&& 61440 = 16384 := by decide
    have h2 : (4095 : Nat) &&& 61440 = 0 := by decide
    rw [h1, h2, Nat.and_zero, Nat.or_zero]
  · exact Nat.or_lt_two_pow (n := 16) (by decide) (Nat.and_lt_two_pow md (by decide))
theorem noP_out {qs : List ND} {q : ND} (h : q ∈ qs) : ∃ F, Tn [HP.star (qs.map noP)] (fun _ : Unit => True) (fun _ => [Own q.r.A q.r.c 9 1 q.ks.length (nmV q.ks), Own q.r.A' q.r.c' 3 1 q.ks.length (kdV q.ks), HP.star F]) ∧ Tn [Own q.r.A q.r.c 9 1 q.ks.length (nmV q.ks), Own q.r.A' q.r.c' 3 1 q.ks.length (kdV q.ks), HP.star F] (fun _ : Unit => True) (fun _ => [HP.star (qs.map noP)]) := by
  obtain ⟨A, B, rfl⟩ := List.append_of_mem h
  have hF : ((A ++ q :: B).map noP).Perm (noP q :: (A ++ B).map noP) := by
    rw [List.map_append, List.map_cons, List.map_append]
    exact List.perm_middle
  refine ⟨(A ++ B).map noP, fun m S hS => ?_, fun m S hS => ?_⟩
  · have h0 := sats_one' hS
    obtain ⟨S1, S2, a1, a2, a3, a4⟩ := sats_perm hF h0
    have h1 : sats ([Own q.r.A q.r.c 9 1 q.ks.length (nmV q.ks), Own q.r.A' q.r.c' 3 1 q.ks.length (kdV q.ks)] ++ [HP.star ((A ++ B).map noP)]) m S := sats_append.2 ⟨S1, S2, a1, sats_one a2, a3, a4⟩
    exact ⟨(), S, trivial, h1, fun _ h => h⟩
  · have h1 : sats ([Own q.r.A q.r.c 9 1 q.ks.length (nmV q.ks), Own q.r.A' q.r.c' 3 1 q.ks.length (kdV q.ks)] ++ [HP.star ((A ++ B).map noP)]) m S := hS
    obtain ⟨S1, S2, a1, a2, a3, a4⟩ := sats_append.1 h1
    have h0 : sats (noP q :: (A ++ B).map noP) m S := ⟨S1, S2, a1, sats_one' a2, a3, a4⟩
    exact ⟨(), S, trivial, sats_one (sats_perm hF.symm h0), fun _ h => h⟩
structure NdsR (md ui gi : Nat) (names : List (List UInt8)) (inl : Bool) (data : List UInt8) (nds : List ND) : Prop where
  dir : ∀ i nm, names[i]? = some nm → ∃ q, nds[atN i]? = some q ∧ q.x.mode = md ∧ q.x.uid = ui ∧ q.x.gid = gi ∧ q.ks[placeN q.ks nm]? = some (nm, i + 2) ∧ (0 < i → q.ks.length = 1) ∧ q.ks.length ≤ 2
  fil : ∃ q k, nds[atN names.length]? = some q ∧ q.x = riF inl data k ∧ q.ks = []
theorem nds_ok (md ui gi : Nat) (c : List UInt8) (r : List (List UInt8)) (hlf : c ≠ lfN) (inl : Bool) (data : List UInt8) (nds : List ND) (hx : nds.map (·.x) = deepRI md ui gi (c :: r) inl data) (hk : nds.map (·.ks) = deepK (c :: r)) : NdsR md ui gi (c :: r) inl data nds := by
  have get : ∀ (j : Nat) (x : RI) (ks : List (List UInt8 × Nat)), (deepRI md ui gi (c :: r) inl data)[j]? = some x → (deepK (c :: r))[j]? = some ks → ∃ q : ND, nds[j]? = some q ∧ q.x = x ∧ q.ks = ks := by
    intro j x ks h1 h2
    rw [← hx, List.getElem?_map] at h1
    rw [← hk, List.getElem?_map] at h2
    cases hq : nds[j]? with
    | none => rw [hq] at h1; simp at h1
    | some q =>
      rw [hq] at h1 h2
      exact ⟨q, rfl, by simpa using h1, by simpa using h2⟩
  refine ⟨fun i nm h => ?_, ?_⟩
  · obtain ⟨x, ks, h1, h2, h3, h4, h5, h6, h7, h8⟩ := deep_node md ui gi c r hlf inl data i nm h
    obtain ⟨q, q1, q2, q3⟩ := get _ _ _ h1 h2
    subst q2 q3
    exact ⟨q, q1, h3, h4, h5, h6, h7, h8⟩
  · obtain ⟨k, h1, h2⟩ := deep_last md ui gi c r inl data
    obtain ⟨q, q1, q2, q3⟩ := get _ _ _ h1 h2
    exact ⟨q, k, q1, q2, q3⟩
abbrev opZ : List Value := [.int .i64 0, .string ⟨#[]⟩, .string ⟨#[]⟩, .string ⟨#[]⟩, .int .i64 0, .int .u16 0, .int .u32 0, .int .u32 0, .bool false, .int .i64 0, .int .i64 0, .bool false, .int .i64 0, .int .i64 0, .bool false, .int .i64 0, .int .i64 0, .bool false, .int .i64 0, .int .i64 0, .int .u32 0, .int .u32 0, .slice none 0 0, .slice none 0 0]
abbrev deepA (D : Option Addr) (cD : Nat) : List OpA := [⟨none, 0⟩, ⟨none, 0⟩, ⟨none, 0⟩, ⟨D, cD⟩]
abbrev opsL (md ui gi : Nat) (nm data : List UInt8) (D : Option Addr) (cD : Nat) : List Value := [.agg (opV ⟨0, [47], 0, md, ui, gi, []⟩ ⟨none, 0⟩).toArray, .agg (opV ⟨4, nm, 0, 0, 0, 0, []⟩ ⟨none, 0⟩).toArray, .agg (opV ⟨0, nm, data.length, 0, 0, 0, []⟩ ⟨none, 0⟩).toArray, .agg (opV ⟨1, [], 0, 0, 0, 0, data⟩ ⟨D, cD⟩).toArray]
theorem fillOps (md ui gi : Nat) (nm data : List UInt8) (D : Option Addr) (cD : Nat) : Instr.fill (fun i => some (i * 24, 24)) ((Array.range (4 * 24)).map (opZ.toArray[· % opZ.length]!)) ([0, 1, 2, 3].zip (opsL md ui gi nm data D cD)) = some (opsV (deepRs md ui gi nm data) (deepA D cD)).toArray := by kernel_rfl
theorem or16 (x : Nat) (hx : x < 65536) : IntKind.u16.wrap ((BitVec.ofInt IntKind.u16.bits 16384 ||| BitVec.ofInt IntKind.u16.bits (x : Int)).toNat : Int) = ((16384 ||| x : Nat) : Int) := by
  have key : (BitVec.ofInt 16 16384 ||| BitVec.ofInt 16 (x : Int)).toNat = 16384 ||| x := by
    rw [BitVec.ofInt_natCast, BitVec.toNat_or, BitVec.toNat_ofNat, Nat.mod_eq_of_lt hx]; rfl
  have hlt : 16384 ||| x < 65536 := Nat.or_lt_two_pow (n := 16) (by decide) hx
  show IntKind.u16.wrap (((BitVec.ofInt 16 16384 ||| BitVec.ofInt 16 (x : Int)).toNat : Nat) : Int) = _
  rw [key, wu16 (by omega) (by omega)]
theorem deepW_geo (ig ic : Nat) (img : List UInt8) (md ui gi : Nat) (names : List (List UInt8)) (inl : Bool) (data : List UInt8) (vg : Nat) (cl : List Nat) (hn : names.length ≤ 100) (h1 : img.length = nbD names.length (blkD inl data) * 4096) (h2 : img.length ≤ ic) : Geo (deepW ig ic img md ui gi names inl data vg cl) := by
  have hm : blkD inl data ≤ 1 := by unfold blkD; split <;> decide
  obtain ⟨u1, u2, u3⟩ := up16_ok (11 + names.length)
  refine ⟨h1, h2, ?_, ?_, ?_, ?_⟩
  · show 2 ≤ nbD names.length (blkD inl data)
    unfold nbD; omega
  · show nbD names.length (blkD inl data) ≤ 30000
    unfold nbD itD
    generalize up16 (11 + names.length) = u at *
    omega
  · show 16 ≤ up16 (11 + names.length)
    omega
  · show up16 (11 + names.length) ≤ 30000
    omega
theorem deepK_len (c : List UInt8) (r : List (List UInt8)) : (deepK (c :: r)).length = r.length + 3 := by
  unfold deepK
  rw [List.length_append, chK_len]
  simp only [List.length_cons, List.length_nil]; omega
theorem deepTree (ig ic : Nat) (img : List UInt8) (md ui gi : Nat) (hmd : md &&& 61440 = 16384) (hmd2 : md < 65536) (hui : ui < 4294967296) (hgi : gi < 4294967296) (c : List UInt8) (r : List (List UInt8)) (hgood : ∀ z ∈ c :: r, good z ∧ z.length ≤ 255) (hlf : c ≠ lfN) (hlen : r.length ≤ 99) (inl : Bool) (data : List UInt8) (vg : Nat) (cl : List Nat) (h1 : img.length = nbD (r.length + 1) (blkD inl data) * 4096) (h2 : img.length ≤ ic) :
    Fe Tryz.prog 9 #[ptrV vg] [VP (deepW ig ic img md ui gi (c :: r) inl data vg cl)] (fun i : (Option Addr × Nat) × List ND × (Option Addr × Nat × Nat × Nat) => i.2.1.map (·.x) = deepRI md ui gi (c :: r) inl data ∧ i.2.1.map (·.ks) = deepK (c :: r)) (fun i => .agg #[.slice i.1.1 (r.length + 3) i.1.2])
      (fun i => [Own i.1.1 i.1.2 49 18 (r.length + 3) (noVs i.2.1), HP.star (i.2.1.map noP), HP.star (vsX (deepW ig ic img md ui gi (c :: r) inl data vg cl) i.2.2.1 i.2.2.2.1 i.2.2.2.2.1 i.2.2.2.2.2 (i.2.1.map (·.a)))]) := by
  have hl : (deepRI md ui gi (c :: r) inl data).length = r.length + 3 := by rw [deep_len]; rfl
  obtain ⟨u1, u2, u3⟩ := up16_ok (11 + (r.length + 1))
  have h := Tree_fn (deepW ig ic img md ui gi (c :: r) inl data vg cl) (deepW_geo ig ic img md ui gi (c :: r) inl data vg cl (by simp only [List.length_cons]; omega) h1 h2) _ (deepK (c :: r)) rfl (by rw [deepK_len]; exact hl.symm)
    (fun i x ks h1 h2 => deep_tr (up16 (11 + (r.length + 1))) md ui gi hmd hmd2 hui hgi c r (fun z hz => (hgood z hz).1) hlf hlen inl data (by omega) _ rfl i x ks h1 h2) (by show (deepRI md ui gi (c :: r) inl data).length ≤ 100000; omega)
  have e : (deepW ig ic img md ui gi (c :: r) inl data vg cl).inos.length = r.length + 3 := hl
  rw [e] at h
  exact h
section
variable {X : Fx} {ops : Array Oper} {cf : Nat → Cls} {k : List Item} {i : Nat} {is : List Nat} {l : List Oper} {loc loc' : List Value} {tmp tmp' : List (Nat × Value)} {L F : List HP}
  {d : Option Tmp} {ty : TypeId} {pos : String} {aft : Array Edge} {gd : Option (Nat × Bool)}
theorem x_toStrR {S T e n c : Nat} {B : Option Addr} {x : Operand} {bs : List UInt8} [SlTy X.P S e 1] [StrTy X.P T] [hI : IntTy X.P e .u8] (hx : sv loc tmp x = some (.slice B n c)) (hr : Rd L B n 1 (enc bs))
    (hp : Pt loc tmp d (.string (str bs)) loc' tmp') (h : EO X ops cf k is l loc' tmp' L)
    (hg : gdv ops loc tmp gd = some true := by rfl) (hd : dOK X.n d = true := by rfl) (hcl : (cf i).reads = true := by rfl) : EO X ops cf k (i :: is) (⟨d, .convert S T x, ty, pos, aft, gd⟩ :: l) loc tmp L :=
  x_read hg hcl (fun a hrl w0 S0 w hs q => by
    obtain ⟨hu, _⟩ := SlTy.out (P := X.P) (T := S) (e := e) (sz := 1)
    have hu' := (inferInstance : StrTy X.P T).h
    have he := IntTy.out (P := X.P) (T := e) (K := .u8)
    have hn : bs.length = n := by simpa [enc_len] using hr.1
    have hrun : (Conv.bytesToString (.slice B n c)).run X.P (wat w q) = .ok (.string (str bs)) (wat w q) := by
      cases B with
      | none =>
        have h0 : n = 0 := by
          rcases hr.2 with h | ⟨_, _, h, _⟩
          · exact h
          · cases h
        have hb : bs = [] := List.length_eq_zero_iff.1 (by omega)
        subst hb
        rfl
      | some ad =>
        have hld := run_loadCells_list (P := X.P) (wat w q) ad (enc bs) (fun j v hv => by
          rcases hr.2 with h | ⟨g, o, h, hrow⟩
          · have hb : bs = [] := List.length_eq_zero_iff.1 (by omega)
            subst hb; simp [enc] at hv
          · cases h
            rw [add_at]; exact (hrow j v hv).at_ (hs.wat q))
        rw [enc_len, hn] at hld
        have hm : enc bs = (bs.map fun b => (b.toNat : Int)).map (Value.int .u8) := by simp [enc]
        rw [hm] at hld
        have hrun := run_bytesToString (P := X.P) (wat w q) ad n c _ hld
        have hf := fold_str bs []
        have he0 : ByteArray.empty = str [] := rfl
        rw [he0, hf] at hrun
        simpa using hrun
    simp [RunN, execOp, hrl.ev hx, convert, run_underlying hu, run_underlying hu', run_underlying he, hrun]
    exact nrm_wat w q) hp hd h
end
theorem Rd.of_take {G : HP} {L F : List HP} {B : Option Addr} {m sz : Nat} {vs : List Value} (h : Rd [G] B m sz vs) (ht : Take G L F) : Rd L B m sz vs := by
  refine ⟨h.1, ?_⟩
  rcases h.2 with h0 | ⟨g, o, hB, hr⟩
  · exact .inl h0
  · exact .inr ⟨g, o, hB, hr.of_take ht⟩
theorem vsX_own (v : Vs) (AI : Option Addr) (cI gO cO : Nat) (rs : List RIA) (j : Nat) (x : RI) (a : RIA) (h1 : v.inos[j]? = some x) (h2 : rs[j]? = some a) (m : Mem) (S : Nat → Prop) (hs : (HP.star (vsX v AI cI gO cO rs)).sat m S) : ∃ S', (Own a.A a.c 5 1 x.data.length (enc x.data)).sat m S' := by
  obtain ⟨F, hF⟩ := inP_take v.inos rs j x a h1 h2
  have h0 : sats (vsX v AI cI gO cO rs) m S := hs
  obtain ⟨_, S2, _, b2, _⟩ := h0
  obtain ⟨_, S3, _, b3, _⟩ := b2
  obtain ⟨_, S4, _, b4, _⟩ := b3
  obtain ⟨S5, _, b5, _⟩ := b4
  have h5 : sats (inP v.inos rs) m S5 := b5
  obtain ⟨S6, _, b6, _⟩ := sats_perm hF.perm h5
  have h6 : sats (riL x a) m S6 := b6
  obtain ⟨S7, _, b7, _⟩ := h6
  exact ⟨S7, b7⟩
theorem vsX_row (v : Vs) (AI : Option Addr) (cI gO cO : Nat) (rs : List RIA) (j : Nat) (x : RI) (a : RIA) (h1 : v.inos[j]? = some x) (h2 : rs[j]? = some a) (g : Nat) (hA : a.A = some ⟨g, 0, none⟩) : CellRow [HP.star (vsX v AI cI gO cO rs)] g 0 (enc x.data) := by
  intro i u hu m S hS
  obtain ⟨S', h⟩ := vsX_own v AI cI gO cO rs j x a h1 h2 m S (sats_one' hS)
  rw [hA] at h
  exact CellRow.own (L := []) i u hu m S' (sats_one h)
instance : DrawD 3 20 [.pure, .read, .pure, .pure, .read, .gar, .pure, .pure, .pure, .read, .pure, .pure, .pure, .read, .read, .pure, .read, .pure, .pure, .pure] [0, 1, 0, 7, 15, 31, 63, 127, 255, 511, 255, 2047, 4095, 8191, 16383, 255, 33023, 131071, 262143, 524287] [0, 1, 2, 3, 4, 5, 6, 7, 8, 9, 10, 11, 12, 13, 14, 15, 16, 17, 18, 19] := ⟨trivial⟩
theorem deepLaw (B : Option Addr) (cN : Nat) (names : List (List UInt8)) (lk : List UInt8) (z : Int) (md ui gi : Nat) (w : Nat → Value) (Bx : Option Addr) (cX : Nat) (xs : List XA) (D : Option Addr) (cD : Nat) (data : List UInt8) (il : Bool) (M : HP)
    (hN : Rd [M] B names.length 1 (nmS names)) (hN1 : names.length ≤ 9223372036854775807) (hN2 : ∀ s ∈ names, s.length ≤ 9223372036854775807) (hX : Rd [M] Bx xs.length 2 (xaV xs)) (hX1 : xs.length ≤ 9223372036854775807) (hX2 : ∀ x ∈ xs, x.nm.length ≤ 9223372036854775807 ∧ x.m ≤ 9223372036854775807) (hl : lk.length ≤ 9223372036854775807)
    (hD : Rd [M] D data.length 1 (enc data)) (hD0 : D = none → data.length = 0) (hD1 : data.length ≤ 9223372036854775807) (hmd : md < 65536) (hui : ui < 4294967296) (hgi : gi < 4294967296) (hP : PfxP M) :
    Fd Tryz.prog 3 #[.slice B names.length cN, .agg (fC lk z md ui gi w (.slice Bx xs.length cX)).toArray, .slice D data.length cD, .bool il] [M] (.bool true) [M] := by
  obtain ⟨b6, h6⟩ := fits6_fn lk z md ui gi w Bx cX xs M hX hX1 hX2 hl
  obtain ⟨hm1, hm2⟩ := mdD_ok md
  refine fn_of_E' (args := [_, _, _, _]) 20 _ [_, _, _, _, undef, undef, undef, undef, undef, undef, undef, undef, undef, undef, undef, undef, undef, undef, undef, undef] Tryz.func3 rfl Tryz.ntmps3 ?_
  refine walk ?_
  refine y_boxA rfl fun gf => ?_
  refine walk ?_
  refine y_callq rfl rfl (fits5_fn B cN names M hN hN1 hN2) ?_
  cases h5 : fits5 names with
  | false =>
    refine walk ?_
    exact y_ret [8] rfl ⟨rfl, rfl⟩
  | true =>
  refine walk ?_
  refine y_callD rfl rfl h6 ?_
  cases b6 with
  | false =>
    refine walk ?_
    exact y_ret [8] rfl ⟨rfl, rfl⟩
  | true =>
  by_cases hd1 : 2147483647 < data.length
  · refine walk ?_
    exact y_ret [8] rfl ⟨rfl, rfl⟩
  refine walk ?_
  refine y_callD rfl rfl (plainNames_fn B cN names M hN hN1 hN2) ?_
  cases hpl : plainN names with
  | false =>
    refine walk ?_
    exact y_ret [8] rfl ⟨rfl, rfl⟩
  | true =>
  obtain ⟨p1, p2, p3⟩ := plainN_ok hpl
  cases names with
  | nil =>
    refine walk ?_
    exact y_ret [8] rfl ⟨rfl, rfl⟩
  | cons c r =>
  have hlf : c ≠ lfN := p3 c rfl
  have hln : (c :: r).length = r.length + 1 := rfl
  by_cases hd2 : 4000 < data.length
  · refine walk ?_
    exact y_ret [8] rfl ⟨rfl, rfl⟩
  have hj := joined_fn B cN (c :: r) M hN (by omega) (fun s hs => (p2 s hs).2)
  refine walk ?_
  refine y_callq rfl rfl hj ?_
  refine walk ?_
  rw [or16 (md &&& 4095) (Nat.lt_of_le_of_lt Nat.and_le_left hmd)]
  refine y_build (z := opZ) (vs := opsL (mdD md) ui gi (joinP (c :: r)) data D cD) (cs := opsV (deepRs (mdD md) ui gi (joinP (c :: r)) data) (deepA D cD)) rfl (fillOps _ _ _ _ _ _ _) rfl fun go => ?_
  refine walk ?_
  have him := imageRead_fn il (mdD md) ui gi hm1 hm2 hui hgi c r (fun s hs => p2 s hs) hlf (by omega) data (by omega) (il && decide (data.length ≤ 136)) rfl (deepA D cD) rfl go 4 M hP (by
    intro i r' a h1 h2
    match i, h1, h2 with
    | 0, h1, h2 => simp [deepRs] at h1 h2; subst h1 h2; exact ⟨⟨rfl, .inl rfl⟩, fun _ => rfl, Nat.zero_le _⟩
    | 1, h1, h2 => simp [deepRs] at h1 h2; subst h1 h2; exact ⟨⟨rfl, .inl rfl⟩, fun _ => rfl, Nat.zero_le _⟩
    | 2, h1, h2 => simp [deepRs] at h1 h2; subst h1 h2; exact ⟨⟨rfl, .inl rfl⟩, fun _ => rfl, Nat.zero_le _⟩
    | 3, h1, h2 => simp [deepRs] at h1 h2; subst h1 h2; exact ⟨hD, hD0, by dsimp only; omega⟩
    | i + 4, h1, h2 => simp [deepRs] at h1)
  refine y_callE rfl rfl him fun j hj => ?_
  obtain ⟨vg, ig, ic, img, cl⟩ := j
  obtain ⟨hj1, hj2⟩ := hj
  dsimp only at hj1 hj2 ⊢
  refine walk ?_
  refine y_callE rfl rfl (deepTree ig ic img (mdD md) ui gi hm1 hm2 hui hgi c r (fun s hs => p2 s hs) hlf (by omega) (il && decide (data.length ≤ 136)) data vg cl hj1 hj2) fun jT hT => ?_
  obtain ⟨⟨AN, cN2⟩, nds, ⟨AI, cI, gO, cO⟩⟩ := jT
  obtain ⟨hT1, hT2⟩ := hT
  dsimp only at hT1 hT2 ⊢
  have hnd := nds_ok (mdD md) ui gi c r hlf (il && decide (data.length ≤ 136)) data nds hT1 hT2
  refine EO.know (A := Own AN cN2 49 18 (r.length + 3) (noVs nds)) take_ (fun _ _ => Own.know) fun hk => ?_
  obtain ⟨k1, k2, k3, k4⟩ := hk
  cases AN with
  | none => have := k3 rfl; omega
  | some ad =>
  obtain ⟨gN, rfl⟩ := k4 ad rfl
  refine walk ?_
  refine y_alloc fun gT => ?_
  refine walk ?_
  obtain ⟨VX, hVX⟩ : ∃ VX, VX = HP.star (vsX (deepW ig ic img (mdD md) ui gi (c :: r) (il && decide (data.length ≤ 136)) data vg cl) AI cI gO cO (nds.map (·.a))) := ⟨_, rfl⟩
  rw [← hVX]
  have hmE : mdD md < 65536 := hm2
  obtain ⟨mE, hmEq⟩ : ∃ mE, mE = mdD md := ⟨_, rfl⟩
  rw [← hmEq] at hnd hmE
  refine e_roundsT (ι := Nat × Value × Value × Value × Value × Value) (fun q => (c :: r).length - q.1)
    (fun q => [.slice B (c :: r).length cN, .agg (fC lk z md ui gi w (.slice Bx xs.length cX)).toArray, .slice D data.length cD, .bool il, undef, ptrV gf, undef, undef, .bool false, .string (str (joinP (c :: r))), .slice (some ⟨go, 0, none⟩) 4 4, ptrV vg, .bool true, ptrV gT, .int .i64 (atN q.1 : Nat), q.2.1, q.2.2.1, q.2.2.2.1, q.2.2.2.2.1, q.2.2.2.2.2])
    (fun q => [(80, .int .i64 (q.1 : Nat)), (79, .int .i64 ((c :: r).length : Nat)), (78, .slice B (c :: r).length cN)])
    (fun _ => [Cells gT 42 [.slice (some ⟨gN, 0, none⟩) (r.length + 3) cN2], Own (some ⟨gN, 0, none⟩) cN2 49 18 (r.length + 3) (noVs nds), HP.star (nds.map noP), VX, M, Cells gf 29 (fC lk z md ui gi w (.slice Bx xs.length cX))])
    (fun q => q.1 ≤ (c :: r).length) (0, undef, undef, undef, undef, undef) (Nat.zero_le _) rfl (by repeat constructor) sub_ ?_
  rintro ⟨i, w15, w16, w17, w18, w19⟩ hi again
  dsimp only at hi again ⊢
  by_cases hlt : i < (c :: r).length
  · obtain ⟨nm, hnm⟩ : ∃ nm, (c :: r)[i]? = some nm := ⟨_, List.getElem?_eq_getElem hlt⟩
    obtain ⟨g, o, hB, hrow⟩ := hN.at_ (by omega)
    subst hB
    obtain ⟨q, q1, q2, q3, q4, q5, q6, q7⟩ := hnd.dir i nm hnm
    have hat : atN i ≤ r.length + 2 := by unfold atN; split <;> omega
    obtain ⟨F, hF1, hF2⟩ := noP_out (List.mem_of_getElem? q1)
    refine walk ?_
    refine y_loadR (a := i) hrow (nmS_get hnm) ?_
    refine walk ?_
    refine y_loadS (vs := noVs nds) (us := noV q) (atN i * 18) (noVs_get _ _ q q1) ?_
    refine walk ?_
    refine y_alloc fun g17 => ?_
    refine walk ?_
    refine y_tno hF1 fun _ _ => ?_
    refine y_callD rfl rfl (Kid_fn q.x.mode q.x.uid q.x.gid q.r.c q.r.c' (ndLn q) (ndCp q) (ndAd q) q.r.A q.r.A' q.ks nm (i + 2) (by omega) q5) ?_
    refine walk ?_
    have bne : ∀ {a b : Nat}, a = b → ((a : Int) != (b : Int)) = false := fun h => by rw [h]; exact bne_self_eq_false _
    rw [or16 (md &&& 4095) (Nat.lt_of_le_of_lt Nat.and_le_left hmd), bne (show q.x.mode = 16384 ||| (md &&& 4095) from by rw [q2, hmEq])]
    have hat1 : atN (i + 1) = i + 2 := by unfold atN; rw [if_neg (by omega)]
    have ag := again (i + 1, .int .i64 (i : Nat), .string (str nm), ptrV g17, .int .i64 (i + 2 : Nat), .bool true) (by dsimp only; omega) (by dsimp only; omega)
    dsimp only at ag
    rw [hat1] at ag
    clear again
    by_cases h0 : 0 < i
    · have q6' := q6 h0
      refine walk ?_
      refine y_tn hF2 fun _ _ => ?_
      exact ag.toP (ks := [80, 79, 78]) rfl (by repeat constructor) sub_
    · have hi0 : i = 0 := by omega
      subst hi0
      refine walk ?_
      refine y_tn hF2 fun _ _ => ?_
      exact ag.toP (ks := [80, 79, 78]) rfl (by repeat constructor) sub_
  · have hil : i = (c :: r).length := by omega
    subst hil
    obtain ⟨q, kF, q1, q2, q3⟩ := hnd.fil
    have hat : atN (c :: r).length = r.length + 2 := by unfold atN; rw [if_neg (by simp)]; rfl
    rw [hat] at q1
    rw [hat]
    clear again
    obtain ⟨f1, f2, f3, f4, f5⟩ := riF_num (il && decide (data.length ≤ 136)) data kF
    refine walk ?_
    refine y_loadS (vs := noVs nds) (us := noV q) ((r.length + 2) * 18) (noVs_get _ _ q q1) ?_
    refine walk ?_
    refine y_callG rfl rfl (Kind_fn q.x.mode q.x.uid q.x.gid (ndLn q) (ndCp q) (ndAd q) (.slice q.r.A q.ks.length q.r.c) (.slice q.r.A' q.ks.length q.r.c') (by rw [q2, f2]; decide)) ?_
    rw [show q.x.mode &&& 61440 = 32768 from by rw [q2, f2]; decide]
    refine walk ?_
    have hd3 : ftN q.x.mode = 1 := by rw [q2, f2]; decide
    have hdat : q.x.data = data := by rw [q2]; exact f5
    have hdn : ndAd q = q.a.A ∧ ndLn q = data.length ∧ ndCp q = q.a.c := by
      unfold ndAd ndLn ndCp
      rw [if_pos hd3, if_pos hd3, if_pos hd3, hdat]
      exact ⟨rfl, rfl, rfl⟩
    refine y_loadO ((r.length + 2) * 18 + 13) (v := .slice q.a.A data.length q.a.c) ?_ ?_
    · have h13 := congrArg (·[13]?) (noVs_get nds (r.length + 2) q q1)
      simp only [List.getElem?_take, List.getElem?_drop] at h13
      rw [if_pos (by decide)] at h13
      rw [h13, ← hdn.1, ← hdn.2.1, ← hdn.2.2]
      rfl
    refine walk ?_
    have hi1 : (deepW ig ic img (mdD md) ui gi (c :: r) (il && decide (data.length ≤ 136)) data vg cl).inos[r.length + 2]? = some q.x := by
      show (deepRI (mdD md) ui gi (c :: r) (il && decide (data.length ≤ 136)) data)[r.length + 2]? = some q.x
      rw [← hT1, List.getElem?_map, q1]; rfl
    have hi2 : (nds.map (·.a))[r.length + 2]? = some q.a := by rw [List.getElem?_map, q1]; rfl
    have hrow := vsX_row (deepW ig ic img (mdD md) ui gi (c :: r) (il && decide (data.length ≤ 136)) data vg cl) AI cI gO cO (nds.map (·.a)) (r.length + 2) q.x q.a hi1 hi2
    rw [← hVX, hdat] at hrow
    refine EO.know (A := VX) (p := (q.a.A = none → data.length = 0) ∧ ∀ a, q.a.A = some a → ∃ g, a = ⟨g, 0, none⟩) take_ (fun m S hS => by
      rw [hVX] at hS
      obtain ⟨S', h⟩ := vsX_own _ AI cI gO cO (nds.map (·.a)) (r.length + 2) q.x q.a hi1 hi2 m S hS
      obtain ⟨k1, k2, k3, k4⟩ := Own.know h
      rw [hdat] at k2
      exact ⟨fun h => by have := k3 h; omega, k4⟩) fun hk => ?_
    have hRd : Rd [VX] q.a.A data.length 1 (enc data) := by
      refine ⟨by rw [enc_len, Nat.mul_one], ?_⟩
      cases hA : q.a.A with
      | none => exact .inl (hk.1 hA)
      | some ad =>
        obtain ⟨g, rfl⟩ := hk.2 ad hA
        exact .inr ⟨g, 0, rfl, hrow g hA⟩
    refine x_toStrR (bs := data) rfl (hRd.of_take take_) pt_ ?_
    refine walk ?_
    refine x_toStrR (bs := data) rfl (hD.of_take take_) pt_ ?_
    refine walk ?_
    rw [beq_self_eq_true data]
    exact y_ret (M := [M]) [8] rfl ⟨rfl, rfl⟩
end Go.Proofs.YtcdalfhkhifplaaGreatDoor
namespace Go.Proofs.YtcdalfhkhifplaaGreatDoor
open Go
open Go.ChangeShapes Go.WideShapes Go.ChangeAt Go.RowKit Go.Deep
set_option maxRecDepth 100000
set_option maxHeartbeats 1000000
attribute [local irreducible] E EO
def OldP (W : World) : HP where
  sat m S := (∀ g, S g ↔ g < W.heap.size) ∧ ∀ g, g < W.heap.size → m g = W.heap[g]?
  loc hs he := ⟨hs.1, fun g hg => by rw [he g ((hs.1 g).2 hg)]; exact hs.2 g hg⟩
  dom {h S g} hs hx := by
    have hg := (hs.1 g).1 hx
    rw [hs.2 g hg, Array.getElem?_eq_getElem hg]; simp
theorem old_cell {W : World} {g o : Nat} {v : Value} (h : W.cell? ⟨g, o, none⟩ = some v) : Cell [OldP W] g o v := fun m S hS => by
  obtain ⟨_, h2⟩ := sats_one' hS
  unfold World.cell? at h
  split at h
  · rename_i c e fr hc
    have hlt := (Array.getElem?_eq_some_iff.1 hc).1
    exact ⟨c, e, fr, by rw [h2 g hlt]; exact hc, by simpa using h⟩
  · cases h
theorem law_below {W : World} {f : FuncId} {args : Array Value} (h : Fd Tryz.prog f args [OldP W] (.bool true) [OldP W]) : Calls Tryz.prog f args W fun e W' => e = .returned (.bool true) ∧ Below W.heap.size W W' := by
  have h0 : sats [OldP W] (hp W) (fun g => g < W.heap.size) := sats_one ⟨fun _ => Iff.rfl, fun _ _ => rfl⟩
  have hc := h W _ h0 W.drawn
  rw [wat_self] at hc
  refine hc.mono fun e W' ⟨v, he, L', ⟨hv, hL⟩, hst⟩ => ?_
  subst hv hL
  obtain ⟨S, hS, _⟩ := hst.sat
  exact ⟨he, hst.os, hst.tape, hst.output, hst.size, fun k hk => (sats_one' hS).2 k hk⟩
theorem str_self (s : ByteArray) : str s.data.toList = s := by
  apply ByteArray.ext; simp [str]
section
variable {H : Type} {enc' : TypeId × Value → H} {W : World}
theorem names_arg {v : Value} {d : DataW H} {p : List MemPlace} {b0 : Nat} (hval : Value.okWide Tryz.prog W .any b0 22 v) (h : DataW.Trod enc' Tryz.prog W 0 (fun _ => true) true 22 v d p) :
    ∃ (B : Option Addr) (c : Nat) (l : List (List UInt8)), v = .slice B l.length c ∧ Rd [OldP W] B l.length 1 (nmS l) ∧ l.length ≤ 9223372036854775807 ∧ ∀ s ∈ l, s.length ≤ 9223372036854775807 := by
  obtain ⟨a0, len, cap, rfl⟩ := okWide_slice Tryz.underlying22 hval
  obtain ⟨fuel, hf⟩ := h
  rcases open_strings Tryz.underlying22 Tryz.underlying9 (by kernel_rfl) hf with ⟨hcs, hx⟩ | ⟨a, len', cap', ss, hcs, _, hl, hm, hz, hx, hcell, hsz⟩
  · simp [Value.cells] at hcs
    obtain ⟨rfl, rfl, rfl⟩ := hcs
    exact ⟨none, 0, [], rfl, ⟨rfl, .inl rfl⟩, Nat.zero_le _, fun s hs => (by cases hs)⟩
  · simp [Value.cells] at hcs
    obtain ⟨rfl, rfl, rfl⟩ := hcs
    simp only [if_true] at hz
    obtain ⟨b, off, spot⟩ := a
    have hlen : ((ss.take len).map fun s => s.data.toList).length = len := by simp; omega
    have hm2 : cap ≤ 9223372036854775807 := Nat.le_trans hm (by decide)
    refine ⟨some ⟨b, off, spot⟩, cap, (ss.take len).map fun s => s.data.toList, by rw [hlen], ⟨by rw [nmS_len, Nat.mul_one], ?_⟩, by rw [hlen]; omega, fun s hs => ?_⟩
    · by_cases h0 : len = 0
      · exact .inl (by rw [hlen]; exact h0)
      · have hspot : spot = none := by simpa [Addr.add] using World.cell?_spot (hcell 0 (by omega))
        subst hspot
        refine .inr ⟨b, off, rfl, fun j v hj => ?_⟩
        have hjl : j < len := by
          have := (List.getElem?_eq_some_iff.1 hj).1
          rw [nmS_len, hlen] at this; exact this
        have hs := hcell j (by omega)
        rw [add_plain] at hs
        have e : v = .string (ss.getD j ByteArray.empty) := by
          unfold nmS at hj
          rw [List.map_map, List.getElem?_map, List.getElem?_take_of_lt hjl] at hj
          rw [List.getD_eq_getElem?_getD, List.getElem?_eq_getElem (by omega : j < ss.length)] at *
          simp at hj
          rw [← hj, str_self]
          rfl
        rw [e]
        exact old_cell hs
    · obtain ⟨t, ht, rfl⟩ := List.mem_map.1 hs
      have := hsz t (List.mem_of_mem_take ht)
      have h3 : t.size ≤ 9223372036854775807 := Nat.le_trans this (by decide)
      have h4 : t.data.toList.length = t.size := by rw [Array.length_toList]; rfl
      omega
theorem bytes_arg {v : Value} {d : DataW H} {p : List MemPlace} {b0 : Nat} (hval : Value.okWide Tryz.prog W .any b0 30 v) (h : DataW.Trod enc' Tryz.prog W 0 (fun _ => true) true 30 v d p) :
    ∃ (B : Option Addr) (c : Nat) (l : List UInt8), v = .slice B l.length c ∧ Rd [OldP W] B l.length 1 (enc l) ∧ (B = none → l.length = 0) ∧ l.length ≤ 9223372036854775807 := by
  obtain ⟨a0, len, cap, rfl⟩ := okWide_slice Tryz.underlying30 hval
  obtain ⟨fuel, hf⟩ := h
  rcases open_ints Tryz.underlying30 Tryz.underlying5 (by kernel_rfl) hf with ⟨hcs, hx⟩ | ⟨a, len', cap', zs, hcs, _, hl, hm, hz, hx, hcell, hwf⟩
  · simp [Value.cells] at hcs
    obtain ⟨rfl, rfl, rfl⟩ := hcs
    exact ⟨none, 0, [], rfl, ⟨rfl, .inl rfl⟩, fun _ => rfl, Nat.zero_le _⟩
  · simp [Value.cells] at hcs
    obtain ⟨rfl, rfl, rfl⟩ := hcs
    simp only [if_true] at hz
    obtain ⟨b, off, spot⟩ := a
    have hlen : ((zs.take len).map fun n => UInt8.ofNat n.toNat).length = len := by simp; omega
    have hm2 : cap ≤ 9223372036854775807 := Nat.le_trans hm (by decide)
    refine ⟨some ⟨b, off, spot⟩, cap, (zs.take len).map fun n => UInt8.ofNat n.toNat, by rw [hlen], ⟨by rw [enc_len, Nat.mul_one], ?_⟩, fun h => (by cases h), by rw [hlen]; omega⟩
    by_cases h0 : len = 0
    · exact .inl (by rw [hlen]; exact h0)
    · have hspot : spot = none := by simpa [Addr.add] using World.cell?_spot (hcell 0 (by omega))
      subst hspot
      refine .inr ⟨b, off, rfl, fun j v hj => ?_⟩
      have hjl : j < len := by
        have := (List.getElem?_eq_some_iff.1 hj).1
        rw [enc_len, hlen] at this; exact this
      have hs := hcell j (by omega)
      rw [add_plain] at hs
      have hw := hwf (zs.getD j 0) (by rw [List.getD_eq_getElem?_getD, List.getElem?_eq_getElem (by omega : j < zs.length)]; simp)
      simp only [Lit.wf, Bool.and_eq_true, decide_eq_true_iff] at hw
      have hw1 : 0 ≤ zs.getD j 0 := hw.1
      have hw2 : zs.getD j 0 ≤ 255 := hw.2
      have e : v = .int .u8 (zs.getD j 0) := by
        unfold enc at hj
        rw [List.map_map, List.getElem?_map, List.getElem?_take_of_lt hjl] at hj
        have hg : zs[j]? = some (zs.getD j 0) := by rw [List.getD_eq_getElem?_getD, List.getElem?_eq_getElem (by omega : j < zs.length)]; simp
        rw [hg] at hj
        have hj' : Value.int .u8 ((UInt8.ofNat (zs.getD j 0).toNat).toNat : Int) = v := by simpa using hj
        rw [← hj']
        congr 1
        have : (UInt8.ofNat (zs.getD j 0).toNat).toNat = (zs.getD j 0).toNat := by
          rw [UInt8.toNat_ofNat']; omega
        rw [this]; omega
      rw [e]
      exact old_cell hs
end
end Go.Proofs.YtcdalfhkhifplaaGreatDoor
namespace Go.Proofs.YtcdalfhkhifplaaGreatDoor
open Go
open Go.ChangeShapes Go.WideShapes Go.ChangeAt Go.RowKit Go.Deep
set_option maxRecDepth 100000
set_option maxHeartbeats 1000000
attribute [local irreducible] E EO
theorem cells20 {l : List Value} (h : l.length = 20) : ∃ w : Nat → Value, l = [w 0, w 1, w 2, w 3, w 4, w 5, w 6, w 7, w 8, w 9, w 10, w 11, w 12, w 13, w 14, w 15, w 16, w 17, w 18, w 19] := by
  match l, h with
  | [a0, a1, a2, a3, a4, a5, a6, a7, a8, a9, a10, a11, a12, a13, a14, a15, a16, a17, a18, a19], _ =>
    exact ⟨fun i => [a0, a1, a2, a3, a4, a5, a6, a7, a8, a9, a10, a11, a12, a13, a14, a15, a16, a17, a18, a19].getD i undef, rfl⟩
theorem cells2 {l : List Value} (h : l.length = 2) : ∃ a b, l = [a, b] := by
  match l, h with
  | [a, b], _ => exact ⟨a, b, rfl⟩
instance : Inhabited XA := ⟨⟨[], none, 0, 0⟩⟩
theorem xaV_row {p : Nat → Value → Prop} : ∀ (l : List XA) (o : Nat), (∀ (i : Nat) (x : XA), l[i]? = some x → p (o + i * 2) (.string (str x.nm)) ∧ p (o + i * 2 + 1) (.slice x.B x.m x.c)) → ∀ (j : Nat) (v : Value), (xaV l)[j]? = some v → p (o + j) v
  | [], o, _, j, v, h => by simp [xaV] at h
  | x :: l, o, hp, j, v, h => by
    have h0 := hp 0 x rfl
    match j, h with
    | 0, h =>
      have : Value.string (str x.nm) = v := by simpa [xaV] using h
      subst this; simpa using h0.1
    | 1, h =>
      have : Value.slice x.B x.m x.c = v := by simpa [xaV] using h
      subst this; simpa using h0.2
    | j + 2, h =>
      have := xaV_row (p := p) l (o + 2) (fun i y hy => by
        have := hp (i + 1) y (by simpa using hy)
        rwa [show o + (i + 1) * 2 = o + 2 + i * 2 by omega] at this) j v (by simpa [xaV] using h)
      rwa [show o + 2 + j = o + (j + 2) by omega] at this
section
variable {H : Type} {enc' : TypeId × Value → H} {W : World}
theorem xattrs_arg {fuel : Nat} {cs : List Value} {x : DataW H × List MemPlace} (hf : DataW.trod enc' Tryz.prog W 0 (fun _ => true) true fuel 27 cs = some x) :
    ∃ (B : Option Addr) (c : Nat) (l : List XA), cs = [.slice B l.length c] ∧ Rd [OldP W] B l.length 2 (xaV l) ∧ l.length ≤ 9223372036854775807 ∧ ∀ x ∈ l, x.nm.length ≤ 9223372036854775807 ∧ x.m ≤ 9223372036854775807 := by
  have c74 : Tryz.prog.cellsOf 74 = 2 := by kernel_rfl
  have c9 : Tryz.prog.cellsOf 9 = 1 := by kernel_rfl
  have c30 : Tryz.prog.cellsOf 30 = 1 := by kernel_rfl
  rcases open_slice Tryz.underlying27 hf with ⟨hcs, hx⟩ | ⟨a, len, cap, m, n, D, Pl, hcs, _, hl, hm, hmm, _, hx⟩
  · exact ⟨none, 0, [], hcs, ⟨rfl, .inl rfl⟩, Nat.zero_le _, fun s hs => (by cases hs)⟩
  · rw [c74] at hx
    simp only [if_true] at hmm
    have hm2 : cap ≤ 9223372036854775807 := Nat.le_trans hm (by decide)
    have each : ∀ i, i < m → ∃ x : XA, (x.nm.length ≤ 9223372036854775807 ∧ x.m ≤ 9223372036854775807) ∧ W.cell? (a.add (i * 2)) = some (.string (str x.nm)) ∧ W.cell? ((a.add (i * 2)).add 1) = some (.slice x.B x.m x.c) := fun i hi => by
      obtain ⟨cs', h1, h2⟩ := hx i hi
      obtain ⟨_, hl2, hcell⟩ := World.cells?_some h1
      obtain ⟨u, v, rfl⟩ := cells2 hl2
      obtain ⟨y0, y1, n', _, _, t0, t1⟩ := trod_struct2 Tryz.underlying74 h2
      change DataW.trod _ _ _ _ _ _ n' 9 (([u, v].drop 0).take (Tryz.prog.cellsOf 9)) = _ at t0
      change DataW.trod _ _ _ _ _ _ n' 30 (([u, v].drop 1).take (Tryz.prog.cellsOf 30)) = _ at t1
      rw [c9] at t0
      rw [c30] at t1
      obtain ⟨s, hs, _, hs3⟩ := DataW.trod_string Tryz.underlying9 t0
      have hu : u = .string s := by simpa using hs
      have hc0 := hcell 0 (by decide)
      have hc1 := hcell 1 (by decide)
      rw [show (a.add (i * 2)).add 0 = a.add (i * 2) from by simp [Addr.add]] at hc0
      have hs4 : s.data.toList.length = s.size := by rw [Array.length_toList]; rfl
      have hs5 : s.size ≤ 9223372036854775807 := Nat.le_trans hs3 (by decide)
      have hv : ∃ B k c, v = .slice B k c ∧ k ≤ 9223372036854775807 := by
        rcases open_slice Tryz.underlying30 t1 with ⟨hcs, _⟩ | ⟨a', len', cap', m', n', D', Pl', hcs, _, hl', hm', _⟩
        · exact ⟨none, 0, 0, by simpa using hcs, Nat.zero_le _⟩
        · exact ⟨some a', len', cap', by simpa using hcs, Nat.le_trans (Nat.le_trans hl' hm') (by decide)⟩
      obtain ⟨B, k, c, hv, hk⟩ := hv
      refine ⟨⟨s.data.toList, B, k, c⟩, ⟨by show s.data.toList.length ≤ _; omega, hk⟩, ?_, ?_⟩
      · rw [hc0, hu, str_self]; rfl
      · rw [hc1, hv]; rfl
    obtain ⟨Sx, hS⟩ := choose_lt each
    have hlen : ((List.range len).map Sx).length = len := by simp
    have hget : ∀ (i : Nat) (x : XA), ((List.range len).map Sx)[i]? = some x → i < len ∧ x = Sx i := fun i x h => by
      have hi : i < len := by
        have := (List.getElem?_eq_some_iff.1 h).1
        simpa using this
      refine ⟨hi, ?_⟩
      rw [List.getElem?_map, List.getElem?_range hi] at h
      simpa using h.symm
    have hxl : ∀ l : List XA, (xaV l).length = l.length * 2 := fun l => by
      induction l with
      | nil => rfl
      | cons x l ih => simp only [xaV, List.length_append, ih, List.length_cons, List.length_nil]; omega
    refine ⟨some a, cap, (List.range len).map Sx, by rw [hlen]; exact hcs, ⟨hxl _, ?_⟩, by rw [hlen]; omega, fun x hx => ?_⟩
    · obtain ⟨b, off, spot⟩ := a
      by_cases h0 : len = 0
      · exact .inl (by rw [hlen]; exact h0)
      · have hspot : spot = none := by simpa [Addr.add] using World.cell?_spot (hS 0 (by omega)).2.1
        subst hspot
        refine .inr ⟨b, off, rfl, fun j v hj => ?_⟩
        refine xaV_row (p := fun q v => Cell [OldP W] b q v) _ off (fun i x hi => ?_) j v hj
        obtain ⟨hi1, rfl⟩ := hget i x hi
        obtain ⟨_, h1, h2⟩ := hS i (by omega)
        rw [add_add, add_plain] at h2
        rw [add_plain] at h1
        exact ⟨old_cell h1, old_cell h2⟩
    · obtain ⟨i, hi⟩ := List.getElem?_of_mem hx
      obtain ⟨hi1, rfl⟩ := hget i x hi
      exact (hS i (by omega)).1
theorem file_arg {v : Value} {d : DataW H} {p : List MemPlace} {b0 : Nat} (hval : Value.okWide Tryz.prog W .any b0 29 v) (h : DataW.Trod enc' Tryz.prog W 0 (fun _ => true) true 29 v d p) :
    ∃ (lk : List UInt8) (z : Int) (md ui gi : Nat) (w : Nat → Value) (Bx : Option Addr) (cX : Nat) (xs : List XA), v = .agg (fC lk z md ui gi w (.slice Bx xs.length cX)).toArray ∧ lk.length ≤ 9223372036854775807 ∧ Rd [OldP W] Bx xs.length 2 (xaV xs) ∧ xs.length ≤ 9223372036854775807 ∧
      (∀ x ∈ xs, x.nm.length ≤ 9223372036854775807 ∧ x.m ≤ 9223372036854775807) ∧ md < 65536 ∧ ui < 4294967296 ∧ gi < 4294967296 := by
  obtain ⟨cs, rfl, hsz⟩ := okWide_struct Tryz.underlying29 hval
  obtain ⟨fuel, hf⟩ := h
  obtain ⟨l⟩ := cs
  have hl : l.length = 20 := by
    have h20 : Tryz.prog.cellsOf 29 = 20 := by kernel_rfl
    rw [h20] at hsz; exact hsz
  obtain ⟨w, rfl⟩ := cells20 hl
  have c9 : Tryz.prog.cellsOf 9 = 1 := by kernel_rfl
  have c2 : Tryz.prog.cellsOf 2 = 1 := by kernel_rfl
  have c23 : Tryz.prog.cellsOf 23 = 1 := by kernel_rfl
  have c24 : Tryz.prog.cellsOf 24 = 1 := by kernel_rfl
  have c27 : Tryz.prog.cellsOf 27 = 1 := by kernel_rfl
  obtain ⟨ys, n, _, _, _, hyl, hy⟩ := DataW.trod_struct Tryz.underlying29 hf
  have some_ : ∀ i, i < 12 → ∃ a, ys[i]? = some a := fun i hi => ⟨_, List.getElem?_eq_getElem (by rw [hyl]; exact hi)⟩
  obtain ⟨a0, ha0⟩ := some_ 0 (by decide)
  obtain ⟨a1, ha1⟩ := some_ 1 (by decide)
  obtain ⟨a2, ha2⟩ := some_ 2 (by decide)
  obtain ⟨a3, ha3⟩ := some_ 3 (by decide)
  obtain ⟨a4, ha4⟩ := some_ 4 (by decide)
  obtain ⟨a11, ha11⟩ := some_ 11 (by decide)
  have y0 := hy 0 _ rfl
  have y1 := hy 1 _ rfl
  have y2 := hy 2 _ rfl
  have y3 := hy 3 _ rfl
  have y4 := hy 4 _ rfl
  have y11 := hy 11 _ rfl
  rw [ha0] at y0
  rw [ha1] at y1
  rw [ha2] at y2
  rw [ha3] at y3
  rw [ha4] at y4
  rw [ha11] at y11
  change DataW.trod _ _ _ _ _ _ n 9 ((List.drop 0 _).take (Tryz.prog.cellsOf 9)) = _ at y0
  change DataW.trod _ _ _ _ _ _ n 2 ((List.drop 1 _).take (Tryz.prog.cellsOf 2)) = _ at y1
  change DataW.trod _ _ _ _ _ _ n 23 ((List.drop 2 _).take (Tryz.prog.cellsOf 23)) = _ at y2
  change DataW.trod _ _ _ _ _ _ n 24 ((List.drop 3 _).take (Tryz.prog.cellsOf 24)) = _ at y3
  change DataW.trod _ _ _ _ _ _ n 24 ((List.drop 4 _).take (Tryz.prog.cellsOf 24)) = _ at y4
  change DataW.trod _ _ _ _ _ _ n 27 ((List.drop 19 _).take (Tryz.prog.cellsOf 27)) = _ at y11
  rw [c9] at y0
  rw [c2] at y1
  rw [c23] at y2
  rw [c24] at y3 y4
  rw [c27] at y11
  obtain ⟨s, hs, _, hs3⟩ := DataW.trod_string Tryz.underlying9 y0
  obtain ⟨z, hz, _, _⟩ := DataW.trod_int Tryz.underlying2 y1
  obtain ⟨md, hmd, _, hmd2⟩ := DataW.trod_int Tryz.underlying23 y2
  obtain ⟨ui, hui, _, hui2⟩ := DataW.trod_int Tryz.underlying24 y3
  obtain ⟨gi, hgi, _, hgi2⟩ := DataW.trod_int Tryz.underlying24 y4
  obtain ⟨Bx, cX, xs, hxs, hx1, hx2, hx3⟩ := xattrs_arg y11
  have e0 : w 0 = .string s := by simpa [Value.cells] using hs
  have e1 : w 1 = .int .i64 z := by simpa [Value.cells] using hz
  have e2 : w 2 = .int .u16 md := by simpa [Value.cells] using hmd
  have e3 : w 3 = .int .u32 ui := by simpa [Value.cells] using hui
  have e4 : w 4 = .int .u32 gi := by simpa [Value.cells] using hgi
  have e19 : w 19 = .slice Bx xs.length cX := by simpa [Value.cells] using hxs
  simp only [Lit.wf, Bool.and_eq_true, decide_eq_true_iff] at hmd2 hui2 hgi2
  have m1 : 0 ≤ md := hmd2.1
  have m2 : md ≤ 65535 := hmd2.2
  have u1 : 0 ≤ ui := hui2.1
  have u2 : ui ≤ 4294967295 := hui2.2
  have g1 : 0 ≤ gi := hgi2.1
  have g2 : gi ≤ 4294967295 := hgi2.2
  have hs4 : s.data.toList.length = s.size := by rw [Array.length_toList]; rfl
  have hs5 : s.size ≤ 9223372036854775807 := Nat.le_trans hs3 (by decide)
  refine ⟨s.data.toList, z, md.toNat, ui.toNat, gi.toNat, fun i => w (5 + i), Bx, cX, xs, ?_, by omega, hx1, hx2, hx3, by omega, by omega, by omega⟩
  unfold fC
  rw [e0, e1, e2, e3, e4, e19, str_self, Int.toNat_of_nonneg m1, Int.toNat_of_nonneg u1, Int.toNat_of_nonneg g1]
end
end Go.Proofs.YtcdalfhkhifplaaGreatDoor
namespace Go.Proofs.YtcdalfhkhifplaaGreatDoor
open Go
open Go.ChangeShapes Go.WideShapes Go.ChangeAt Go.RowKit Go.Deep
set_option maxRecDepth 100000
set_option maxHeartbeats 2000000
attribute [local irreducible] E EO
def pairD {H : Type} (z : Int × List UInt8) : DataW H := .agg [.lit (.int .u8 z.1), .lit (.string z.2)]
theorem cells_of_pairs {H : Type} {enc' : TypeId × Value → H} {P : Program} {w : World} {base : Nat} {sp : Nat → Bool} {held : Bool} {fuel : Nat} {t e : TypeId} {f0 f1 : Field} {n : Nat} {cs : List Value} {zs : List (Int × List UInt8)} {p : List MemPlace}
    (ht : P.underlying t = some (.array n e)) (he : P.underlying e = some (.struct #[f0, f1])) (h0 : P.underlying f0.type = some (.int .u8)) (h1 : P.underlying f1.type = some .string) (o0 : f0.offset = 0) (o1 : f1.offset = 1) (c0 : P.cellsOf f0.type = 1) (c1 : P.cellsOf f1.type = 1) (hce : P.cellsOf e = 2)
    (h : DataW.trod enc' P w base sp held fuel t cs = some (.agg (zs.map pairD), p)) : ∀ (i : Nat) (z : Int × List UInt8), zs[i]? = some z → cs[i * 2]? = some (.int .u8 z.1) ∧ cs[i * 2 + 1]? = some (.string (str z.2)) := by
  cases fuel with
  | zero => simp [DataW.trod] at h
  | succ fuel =>
    simp only [DataW.trod, ht, hce] at h
    split at h
    · rename_i hl
      obtain ⟨xs, hm, hx⟩ := Option.map_eq_some_iff.1 h
      have hxs : xs.map (·.1) = zs.map (pairD (H := H)) := by
        have := congrArg Prod.fst hx
        simpa using this
      have hxl : xs.length = n := by simpa using Lib.mapM_length hm
      have hzl : zs.length = n := by
        have := congrArg List.length hxs
        simp at this
        omega
      intro i z hz
      have hi : i < n := by rw [← hzl]; exact (List.getElem?_eq_some_iff.1 hz).1
      obtain ⟨b, hb, hf⟩ := Lib.mapM_at hm i i (by simp [hi])
      obtain ⟨y0, y1, n', hby, _, t0, t1⟩ := trod_struct2 he hf
      rw [o0, c0] at t0
      rw [o1, c1] at t1
      obtain ⟨k, hk, hk2, _⟩ := DataW.trod_int h0 t0
      obtain ⟨s, hs, hs2, _⟩ := DataW.trod_string h1 t1
      have h2 : (xs.map (·.1))[i]? = some b.1 := by simp [hb]
      rw [hxs, List.getElem?_map, hz] at h2
      have h3 : pairD (H := H) z = b.1 := by simpa using h2
      rw [hby, hk2, hs2] at h3
      simp only [pairD, DataW.agg.injEq, List.cons.injEq, DataW.lit.injEq, Lit.int.injEq, Lit.string.injEq, true_and, and_true] at h3
      obtain ⟨e1, e2⟩ := h3
      constructor
      · have := congrArg (·[0]?) hk
        simp only [List.getElem?_take, List.getElem?_drop] at this
        rw [e1]
        simpa using this
      · have := congrArg (·[0]?) hs
        simp only [List.getElem?_take, List.getElem?_drop] at this
        rw [e2, str_self]
        simpa using this
    · cases h
def pfxZ : List (Int × List UInt8) := [(2, [115, 121, 115, 116, 101, 109, 46, 112, 111, 115, 105, 120, 95, 97, 99, 108, 95, 97, 99, 99, 101, 115, 115]), (3, [115, 121, 115, 116, 101, 109, 46, 112, 111, 115, 105, 120, 95, 97, 99, 108, 95, 100, 101, 102, 97, 117, 108, 116]), (8, [115, 121, 115, 116, 101, 109, 46, 114, 105, 99, 104, 97, 99, 108]), (7, [115, 121, 115, 116, 101, 109, 46]), (1, [117, 115, 101, 114, 46]), (4, [116, 114, 117, 115, 116, 101, 100, 46]), (6, [115, 101, 99, 117, 114, 105, 116, 121, 46])]
theorem pfx_get : ∀ (j : Nat) (v : Value), pfx[j]? = some v → ∃ i z, pfxZ[i]? = some z ∧ (j = i * 2 ∧ v = .int .u8 z.1 ∨ j = i * 2 + 1 ∧ v = .string (str z.2)) := by
  intro j v h
  match j, h with
  | 0, h => exact ⟨0, _, rfl, .inl ⟨rfl, by simpa [pfx] using h.symm⟩⟩
  | 1, h => exact ⟨0, _, rfl, .inr ⟨rfl, by simpa [pfx] using h.symm⟩⟩
  | 2, h => exact ⟨1, _, rfl, .inl ⟨rfl, by simpa [pfx] using h.symm⟩⟩
  | 3, h => exact ⟨1, _, rfl, .inr ⟨rfl, by simpa [pfx] using h.symm⟩⟩
  | 4, h => exact ⟨2, _, rfl, .inl ⟨rfl, by simpa [pfx] using h.symm⟩⟩
  | 5, h => exact ⟨2, _, rfl, .inr ⟨rfl, by simpa [pfx] using h.symm⟩⟩
  | 6, h => exact ⟨3, _, rfl, .inl ⟨rfl, by simpa [pfx] using h.symm⟩⟩
  | 7, h => exact ⟨3, _, rfl, .inr ⟨rfl, by simpa [pfx] using h.symm⟩⟩
  | 8, h => exact ⟨4, _, rfl, .inl ⟨rfl, by simpa [pfx] using h.symm⟩⟩
  | 9, h => exact ⟨4, _, rfl, .inr ⟨rfl, by simpa [pfx] using h.symm⟩⟩
  | 10, h => exact ⟨5, _, rfl, .inl ⟨rfl, by simpa [pfx] using h.symm⟩⟩
  | 11, h => exact ⟨5, _, rfl, .inr ⟨rfl, by simpa [pfx] using h.symm⟩⟩
  | 12, h => exact ⟨6, _, rfl, .inl ⟨rfl, by simpa [pfx] using h.symm⟩⟩
  | 13, h => exact ⟨6, _, rfl, .inr ⟨rfl, by simpa [pfx] using h.symm⟩⟩
  | j + 14, h => simp [pfx] at h
theorem pfx_laid {W : World} (h : laidMet Tryz.prog Rows.fnImageDeepRow.laid W) : PfxP (OldP W) := by
  obtain ⟨ps, ⟨g', t', cs, fuel, p, q, hg', ht', hvar, hd, _, _⟩, _⟩ := h
  obtain rfl := Option.some.inj ((show Tryz.prog.globalNamed "pub-marram/pub/hcsshim/ext4/inner/compactext4.xattrPrefixes" = some 0 by kernel_rfl).symm.trans hg')
  obtain rfl := Option.some.inj ((show (Tryz.prog.globals[0]?).map (·.type) = some 244 by kernel_rfl).symm.trans ht')
  have hp := cells_of_pairs (zs := pfxZ) Tryz.underlying244 Tryz.underlying243 Tryz.underlying5 Tryz.underlying9 rfl rfl (by kernel_rfl) (by kernel_rfl) (by kernel_rfl) hd
  have hc := World.var?_cell (show Tryz.prog.globalNamed "pub-marram/pub/hcsshim/ext4/inner/compactext4.xattrPrefixes" = some 0 by kernel_rfl) hvar
  intro j v hj
  obtain ⟨i, z, hz, h⟩ := pfx_get j v hj
  obtain ⟨h1, h2⟩ := hp i z hz
  have hcj := hc j
  rw [← Array.getElem?_toList] at hcj
  rw [Nat.zero_add]
  rcases h with ⟨rfl, rfl⟩ | ⟨rfl, rfl⟩
  · rw [h1] at hcj; exact old_cell hcj
  · rw [h2] at hcj; exact old_cell hcj
theorem deep_own : ownKnob Tryz.prog.godebug = none := by kernel_rfl
theorem deep_laidOut : laidOutB Tryz.prog = true := by kernel_rfl
theorem contract (H : Type) (enc' : TypeId × Value → H) (W : World) (base : Nat) (args : Array Value) (ds gs : List (DataW H)) (before : List MemPlace)
    (hval : ∀ (j : Nat) t v, Tryz.f3.params[j]? = some t → args[j]? = some v → Value.okWide Tryz.prog W .any base t v)
    (hW : DataW.Whole enc' Tryz.prog Tryz.f3.params.toList Rows.fnImageDeepSpec.vars false W args.toList ds gs before) (hL : laidMetH Tryz.prog Rows.fnImageDeepRow.laid W) :
    Calls Tryz.prog 3 args W fun e W' => ∃ v, e = .returned v ∧ Rows.fnImageDeepSpec.post enc' Tryz.prog Tryz.f3 false true false false W args v W' := by
  have hW' := hW
  obtain ⟨p, q, hA0, hV, rfl, _, _⟩ := hW
  have hA : DataW.TrodAll enc' Tryz.prog W 0 (fun _ => true) true Tryz.f3.params.toList args.toList ds p := hA0
  rw [Tryz.params3] at hA hval
  obtain ⟨v0, v1, v2, v3, d0, d1, d2, d3, p0, p1, p2, p3, rfl, rfl, rfl, h0, h1, h2, h3⟩ := trodAll_four hA
  obtain ⟨rfl, rfl⟩ := trodVars_none hV
  have hlt : ∀ x ∈ p0 ++ p1 ++ p2 ++ p3, x.block < W.heap.size := fun x hx => by simpa using hW'.lt x (by simpa using hx)
  obtain ⟨B, cN, names, e0, n1, n2, n3⟩ := names_arg (hval 0 22 v0 rfl rfl) h0
  obtain ⟨lk, z, md, ui, gi, w, Bx, cX, xs, e1, f1, f2, f3, f4, f5, f6, f7⟩ := file_arg (hval 1 29 v1 rfl rfl) h1
  obtain ⟨D, cD, data, e2, b1, b2, b3⟩ := bytes_arg (hval 2 30 v2 rfl rfl) h2
  obtain ⟨il, e3⟩ := okWide_bool Tryz.underlying4 (hval 3 4 v3 rfl rfl)
  have hlaw := deepLaw B cN names lk z md ui gi w Bx cX xs D cD data il (OldP W) n1 n2 n3 f2 f3 f4 f1 b1 b2 b3 f5 f6 f7 (pfx_laid hL)
  rw [← e0, ← e1, ← e2, ← e3] at hlaw
  refine (law_below hlaw).mono fun e W' ⟨he, bel⟩ => ?_
  subst he
  refine ⟨_, rfl, _, _, _, [], p0 ++ (p1 ++ (p2 ++ p3)), [], hW', ?_, ?_, ?_, bel.frame _, fun h => by cases h⟩
  · exact trodAll_cons_mk (shut_bool Tryz.underlying4 _) trodAll_mk0
  · exact trodAll_mk4 (Below.trod deep_laidOut (by kernel_rfl) (of_decide_eq_true (by kernel_rfl)) h0 bel (fun x hx => hlt x (by simp [hx]))) (Below.trod deep_laidOut (by kernel_rfl) (of_decide_eq_true (by kernel_rfl)) h1 bel (fun x hx => hlt x (by simp [hx])))
      (Below.trod deep_laidOut (by kernel_rfl) (of_decide_eq_true (by kernel_rfl)) h2 bel (fun x hx => hlt x (by simp [hx]))) (Below.trod deep_laidOut (by kernel_rfl) (of_decide_eq_true (by kernel_rfl)) h3 bel (fun x hx => hlt x (by simp [hx])))
  · rfl
end Go.Proofs.YtcdalfhkhifplaaGreatDoor
