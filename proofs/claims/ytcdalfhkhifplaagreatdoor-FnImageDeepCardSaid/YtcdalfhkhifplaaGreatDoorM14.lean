/-
  The walks: the tree of inodes is read; The walks: sizes and names are looked at. Conditions: none.
-/
import Derived.Test.YtcdalfhkhifplaaGreatDoorM13
set_option linter.unusedVariables false
set_option linter.unusedSimpArgs false
namespace Go.Proofs.YtcdalfhkhifplaaGreatDoor
open Go
set_option maxRecDepth 100000
set_option maxHeartbeats 4000000
theorem natV_rep (m : Nat) : List.replicate m (.int .u64 0) = natV (List.replicate m 0) := by simp [natV]
theorem boolV_rep (m : Nat) : List.replicate m (.bool false) = boolV (List.replicate m false) := by simp [boolV]
theorem E.toP {X : Fx} {k : List Item} {loc loc' : List Value} {tmp tmp' : List (Nat × Value)} {L L' F : List HP} {ks : List Nat} (h : E X k loc' tmp' L') (hl : loc = loc') (ht : KeepR tmp ks tmp') (hL : Subs L' L F) : E X k loc tmp L := by
  subst hl; exact E.some hL (fun w0 S0 a w hr hs => h w0 S0 a w (hr.sub ht.sub) hs)
attribute [local irreducible] E EO
theorem OffO.know {g o c e n : Nat} {vs : List Value} {m : Mem} {S : Nat → Prop} (h : (OffO g o c e n vs).sat m S) : vs.length = n ∧ n ≤ c := ⟨h.1, h.2.1⟩
section
variable {X : Fx} {ops : Array Oper} {cf : Nat → Cls} {k : List Item} {i : Nat} {is : List Nat} {l : List Oper} {loc : List Value} {tmp : List (Nat × Value)} {L F : List HP}
  {d : Option Tmp} {ty : TypeId} {pos : String} {aft : Array Edge} {gd : Option (Nat × Bool)} {locq : Nat → Nat → List Value} {tmpq : Nat → Nat → List (Nat × Value)}
theorem y_cutQ {t e g o n c : Nat} {K : IntKind} {x y : Operand} {u : Value} {vs : List Value} [SlTy X.P t e 1] (hx : sv loc tmp x = some (.slice (some ⟨g, o, none⟩) (n + 1) c)) (hy : sv loc tmp y = some (.int K 1))
    (h : ∀ o' c', EO X ops cf k is l (locq o' c') (tmpq o' c') (OffO g o' c' e n vs :: F)) (ht : Take (OffO g o c e (n + 1) (u :: vs)) L F := by exact take_)
    (hp : ∀ o' c', Pt loc tmp d (.slice (some ⟨g, o', none⟩) n c') (locq o' c') (tmpq o' c') := by intro _ _; first | exact Pt.tmp rfl | exact Pt.none | exact Pt.loc (by repeat constructor))
    (hg : gdv ops loc tmp gd = some true := by rfl) (hd : dOK X.n d = true := by rfl) : EO X ops cf k (i :: is) (⟨d, .slice t x (some y) none none, ty, pos, aft, gd⟩ :: l) loc tmp L :=
  EO.know ht (fun _ _ => OffO.know) fun hk => by
    obtain ⟨hl, hc⟩ := hk
    by_cases h1 : c = 1
    · have hn : n = 0 := by omega
      subst hn h1
      have hv : vs = [] := List.length_eq_zero_iff.1 (by simpa using hl)
      subst hv
      exact x_slLoE (m := 1) hx hy rfl (Nat.le_refl _) rfl (hp o 0) (EO.tn (OffO.done (g := g) (o := o) (c := 1) (e := e) (v := u)) (.cons ht .nil) (fun _ => by repeat constructor) fun _ _ => h o 0) hg hd
    · obtain ⟨c', rfl⟩ : ∃ c', c = c' + 1 := ⟨c - 1, by omega⟩
      exact x_slLo (m := 1) hx hy rfl (by omega) hc (by omega) (hp (o + 1) c') (EO.tn OffO.tail (.cons ht .nil) (fun _ => by repeat constructor) fun _ _ => h (o + 1) c') hg hd
end
theorem e_cont {X : Fx} {k : List Item} {c : Item} {loc : List Value} {tmp : List (Nat × Value)} {L : List HP} {ι : Type} (loI : ι → List Value) (tmI : ι → List (Nat × Value)) (LI : ι → List HP) (PI : ι → Prop)
    (h : (∀ i, PI i → E X k (loI i) (tmI i) (LI i)) → E X (c :: k) loc tmp L) (rest : ∀ i, PI i → E X k (loI i) (tmI i) (LI i)) : E X (c :: k) loc tmp L := h rest
theorem rsE_old {n : Nat} {s : RS} {e : List UInt8 × Nat × Nat} (h : s.seen.getD e.2.1 true = true) : rsE n s e = ⟨s.q, s.seen, s.par, s.nms.set e.2.1 (s.nms.getD e.2.1 0 + 1), if e.2.2 = 2 then s.sub.set n (s.sub.getD n 0 + 1) else s.sub⟩ := by
  unfold rsE
  dsimp only
  rw [if_pos h]
  by_cases h2 : e.2.2 = 2
  · rw [if_pos h2, if_pos h2]
  · rw [if_neg h2, if_neg h2]
theorem rsE_new {n : Nat} {s : RS} {e : List UInt8 × Nat × Nat} (h : s.seen.getD e.2.1 true = false) : rsE n s e = ⟨s.q ++ [e.2.1], s.seen.set e.2.1 true, s.par.set e.2.1 n, s.nms.set e.2.1 (s.nms.getD e.2.1 0 + 1), if e.2.2 = 2 then s.sub.set n (s.sub.getD n 0 + 1) else s.sub⟩ := by
  unfold rsE
  dsimp only
  rw [if_neg (by rw [h]; simp)]
  by_cases h2 : e.2.2 = 2
  · rw [if_pos h2, if_pos h2]
  · rw [if_neg h2, if_neg h2]
theorem readTree_fn (v v' : Vs) (s' : RS) (it K : Nat) (g : Geo v) (hit : leAt v.img 4104 4 = it) (hpi : 2 ≤ v.pi) (hpi2 : v.pi ≤ 100000) (hK : K ≤ 100000) (hin : v.inos = [])
    (hrt : RTR it K v { q := [2], seen := (List.replicate (v.pi + 1) false).set 2 true, par := (List.replicate (v.pi + 1) 0).set 2 2, nms := List.replicate (v.pi + 1) 0, sub := List.replicate (v.pi + 1) 0 } v' s')
    (hroot : ∃ x, v'.inos[0]? = some x ∧ ftN x.mode = 2) (hlk : ∀ x ∈ v'.inos, x.links = if ftN x.mode = 2 then s'.sub.getD x.num 0 + 2 else s'.nms.getD x.num 0) :
    Fd Tryz.prog 40 #[ptrV v.vg, .int .u64 11] [VP v, ImgP v] (.tuple #[]) [VP v', ImgP v'] := by
  have gg := g
  obtain ⟨g1, g2, g3, g4, g5, g6⟩ := gg
  obtain ⟨m, hm⟩ : ∃ m, m = v.pi + 1 := ⟨_, rfl⟩
  rw [← hm] at hrt
  refine fn_of_E' (args := [_, _]) 17 _ [_, _, undef, undef, undef, undef, undef, undef, undef, undef, undef, undef, undef, undef, undef, undef, undef] Tryz.func40 rfl Tryz.ntmps40 ?_
  refine walk ?_
  refine y_loadC (v := .int .u64 1) (VP.cell 4 _ fun _ _ _ _ => rfl) ?_
  refine walk ?_
  refine y_loadC (v := .int .u64 (v.pi : Int)) (VP.cell 6 _ fun _ _ _ _ => rfl) ?_
  refine walk ?_
  rw [show 1 * v.pi + 1 = m by omega]
  refine y_make rfl rfl fun gS => ?_
  refine walk ?_
  refine e_cont (ι := Nat × Nat) (fun q => [ptrV v.vg, .int .u64 11, undef, undef, .slice (some ⟨gS, 0, none⟩) m m, .slice (some ⟨q.1, 0, none⟩) m m, .slice (some ⟨q.2, 0, none⟩) m m, undef, undef, undef, undef, undef, undef, undef, undef, undef, undef])
    (fun _ => []) (fun q => [Own (some ⟨q.1, 0, none⟩) m 61 1 m (List.replicate m (.int .u64 0)), Own (some ⟨q.2, 0, none⟩) m 61 1 m (List.replicate m (.int .u64 0)), Own (some ⟨gS, 0, none⟩) m 4 1 m (List.replicate m (.bool false)), VP v, ImgP v]) (fun _ => True) (fun rest => ?_) ?_
  · refine e_pair ?_
    refine walk ?_
    refine x_two ?_ ?_
    · refine walk ?_
      refine y_make rfl rfl fun g1 => ?_
      refine walk ?_
      refine y_make rfl rfl fun g2 => ?_
      refine walkO ?_
      refine x_end ?_
      exact (rest (g1, g2) trivial).toP rfl (by repeat constructor) (.cons (.there .here) (.cons .here (.cons .here (.cons .here (.cons .here .nil)))))
    · refine walk ?_
      refine y_make rfl rfl fun g1 => ?_
      refine walk ?_
      refine y_make rfl rfl fun g2 => ?_
      refine walkO ?_
      refine x_end ?_
      exact (rest (g2, g1) trivial).toP rfl (by repeat constructor) (.cons .here (.cons .here (.cons .here (.cons .here (.cons .here .nil)))))
  · rintro ⟨gP, gN⟩ _
    dsimp only
    refine walk ?_
    refine y_make rfl rfl fun gB => ?_
    refine walk ?_
    refine y_build1 rfl fun gQ => ?_
    refine walk ?_
    rw [natV_rep, boolV_rep]
    refine y_storeE (a := 2) (vs := boolV (List.replicate m false)) (u := .bool true) (by simp [boolV]; omega) ?_
    rw [boolV_set]
    refine walk ?_
    refine y_storeE (a := 2) (vs := natV (List.replicate m 0)) (u := .int .u64 (2 : Nat)) (by simp [natV]; omega) ?_
    rw [natV_set]
    refine walk ?_
    refine y_tn (OffO.of_own (g := gQ) (c := 1) (e := 61) (n := 1) (vs := [.int .u64 2])) fun _ _ => ?_
    refine e_roundsT (ι := Nat × Vs × RS × (Nat × Nat × Nat) × (Value × Value × Value × Value)) (fun q => q.1)
      (fun q => [ptrV q.2.1.vg, .int .u64 11, undef, undef, .slice (some ⟨gS, 0, none⟩) m m, .slice (some ⟨gP, 0, none⟩) m m, .slice (some ⟨gN, 0, none⟩) m m, .slice (some ⟨gB, 0, none⟩) m m, .slice (some ⟨q.2.2.2.1.1, q.2.2.2.1.2.1, none⟩) q.2.2.1.q.length q.2.2.2.1.2.2, q.2.2.2.2.1, q.2.2.2.2.2.1, undef, q.2.2.2.2.2.2.1, q.2.2.2.2.2.2.2, undef, undef, undef])
      (fun _ => [])
      (fun q => [OffO q.2.2.2.1.1 q.2.2.2.1.2.1 q.2.2.2.1.2.2 61 q.2.2.1.q.length (natV q.2.2.1.q), Own (some ⟨gP, 0, none⟩) m 61 1 m (natV q.2.2.1.par), Own (some ⟨gS, 0, none⟩) m 4 1 m (boolV q.2.2.1.seen), Own (some ⟨gB, 0, none⟩) m 61 1 m (natV q.2.2.1.sub), Own (some ⟨gN, 0, none⟩) m 61 1 m (natV q.2.2.1.nms), VP q.2.1, ImgP q.2.1])
      (fun q => Geo q.2.1 ∧ leAt q.2.1.img 4104 4 = it ∧ q.2.1.pi + 1 = m ∧ RTR it q.1 q.2.1 q.2.2.1 v' s' ∧ RSz q.2.2.1 m ∧ RSb q.2.2.1 (q.2.1.inos.length * 200000) ∧ q.2.1.inos.length + q.1 = K ∧ (∀ x ∈ q.2.1.inos, x.num ≤ q.2.1.pi ∧ x.mode < 65536))
      (K, v, _, (gQ, 0, 1), (undef, undef, undef, undef)) ⟨g, hit, by dsimp only; omega, hrt, ⟨by simp, by simp, by simp, by simp⟩, ⟨by intro i; simp [List.getD_eq_getElem?_getD, List.getElem?_replicate]; split <;> simp, by intro i; simp [List.getD_eq_getElem?_getD, List.getElem?_replicate]; split <;> simp⟩, by simp [hin], by simp [hin]⟩ rfl (by repeat constructor)
      (.cons .here (.cons .here (.cons .here (.cons .here (.cons .here (.cons .here (.cons .here .nil))))))) ?_
    clear hrt hin g1 g2 g3 g4 g5 g6 g hit
    rintro ⟨k, w, s, ⟨gq, o, c⟩, w9, w10, w12, w13⟩ ⟨hg, hit, hwm, hrt, hsz, hsb, hlen, hnum⟩ again
    dsimp only at hg hit hwm hrt hsz hsb hlen hnum again ⊢
    have hql := hrt.qlen
    have hgg := hg
    obtain ⟨g1, g2, g3, g4, g5, g6⟩ := hgg
    cases hrt with
    | done hq =>
      rw [hq]
      refine walk ?_
      refine y_tno5 VP.op fun AI cI gO cO rs hrs => ?_
      dsimp only
      obtain ⟨x0, hx0, hft0⟩ := hroot
      have hil := (List.getElem?_eq_some_iff.1 hx0).1
      obtain ⟨a0, ha0⟩ : ∃ a0, rs[0]? = some a0 := ⟨_, List.getElem?_eq_getElem (by omega)⟩
      have hi0 := inC_get v'.inos rs 0 x0 a0 hx0 ha0
      have hi1 : (inC v'.inos rs)[1]? = some (.int .u16 (x0.mode : Int)) := by
        have h1 : ((inC v'.inos rs).take 23)[1]? = some (.int .u16 (x0.mode : Int)) := by
          rw [show (inC v'.inos rs).take 23 = riC x0 a0 by simpa using hi0]; rfl
        rwa [List.getElem?_take_of_lt (by omega)] at h1
      have hm0 := hnum x0 (List.mem_of_getElem? hx0)
      have hk0 := kindOf_fn x0.mode hm0.2
      rw [hft0] at hk0
      refine EO.know (A := Own AI cI 66 23 v'.inos.length (inC v'.inos rs)) take_ (fun _ _ => Own.know) fun hk => ?_
      obtain ⟨k1, k2, k3, k4⟩ := hk
      cases AI with
      | none => have := k3 rfl; omega
      | some ad =>
      obtain ⟨gA, rfl⟩ := k4 ad rfl
      refine walk ?_
      refine y_loadO 1 hi1 ?_
      refine walk ?_
      refine y_callq rfl rfl hk0 ?_
      refine walk ?_
      refine y_callq rfl rfl (must_fn (ptrV v'.vg) _ 2) ?_
      refine walk ?_
      refine e_roundsT (ι := Nat × Value × Value) (fun z => v'.inos.length - z.1)
        (fun z => [ptrV v'.vg, .int .u64 11, undef, undef, .slice (some ⟨gS, 0, none⟩) m m, .slice (some ⟨gP, 0, none⟩) m m, .slice (some ⟨gN, 0, none⟩) m m, .slice (some ⟨gB, 0, none⟩) m m, .slice (some ⟨gq, o, none⟩) ([] : List Nat).length c, w9, w10, undef, w12, w13, undef, z.2.1, z.2.2])
        (fun z => [(191, .int .i64 (z.1 : Nat)), (190, .int .i64 (v'.inos.length : Nat)), (189, .slice (some ⟨gA, 0, none⟩) v'.inos.length cI)])
        (fun z => [Cells v'.vg 63 (vsC v' (some ⟨gA, 0, none⟩) cI gO cO), Own (some ⟨gA, 0, none⟩) cI 66 23 v'.inos.length (inC v'.inos rs), Own (some ⟨gO, 0, none⟩) cO 5 1 v'.nb (enc (ownB v'.nb v'.cl)), HP.star (inP v'.inos rs), Own (some ⟨gB, 0, none⟩) m 61 1 m (natV s'.sub), Own (some ⟨gN, 0, none⟩) m 61 1 m (natV s'.nms), ImgP v'])
        (fun z => z.1 ≤ v'.inos.length) (0, undef, undef) (Nat.zero_le _) rfl (by repeat constructor) sub_ ?_
      rintro ⟨i, w15, w16⟩ hi again2
      dsimp only at hi again2 ⊢
      by_cases hlt : i < v'.inos.length
      · obtain ⟨y, hy⟩ : ∃ y, v'.inos[i]? = some y := ⟨_, List.getElem?_eq_getElem hlt⟩
        obtain ⟨a, ha⟩ : ∃ a, rs[i]? = some a := ⟨_, List.getElem?_eq_getElem (by omega)⟩
        have hlky := hlk y (List.mem_of_getElem? hy)
        obtain ⟨hyn, hym⟩ := hnum y (List.mem_of_getElem? hy)
        have hky := kindOf_fn y.mode hym
        have hsz' := hsz
        have hsb' := hsb
        obtain ⟨z1, z2, z3, z4⟩ := hsz'
        obtain ⟨b1, b2⟩ := hsb'
        have hb2 := b2 y.num
        refine walk ?_
        refine y_loadS (vs := inC v'.inos rs) (us := riC y a) (i * 23) (inC_get _ _ i y a hy ha) ?_
        refine walk ?_
        refine y_alloc fun g15 => ?_
        refine walk ?_
        refine y_loadO y.num (natV_get (getD_some z3 (by omega))) ?_
        refine walk ?_
        refine y_callq rfl rfl hky ?_
        refine walk ?_
        refine e_cont (ι := Unit) (fun _ => [ptrV v'.vg, .int .u64 11, undef, undef, .slice (some ⟨gS, 0, none⟩) m m, .slice (some ⟨gP, 0, none⟩) m m, .slice (some ⟨gN, 0, none⟩) m m, .slice (some ⟨gB, 0, none⟩) m m, .slice (some ⟨gq, o, none⟩) ([] : List Nat).length c, w9, w10, undef, w12, w13, undef, ptrV g15, .int .u64 (y.links : Int)])
          (fun _ => [(191, .int .i64 (i : Nat)), (190, .int .i64 (v'.inos.length : Nat)), (189, .slice (some ⟨gA, 0, none⟩) v'.inos.length cI)])
          (fun _ => [Cells g15 66 (riC y a), Cells v'.vg 63 (vsC v' (some ⟨gA, 0, none⟩) cI gO cO), Own (some ⟨gA, 0, none⟩) cI 66 23 v'.inos.length (inC v'.inos rs), Own (some ⟨gO, 0, none⟩) cO 5 1 v'.nb (enc (ownB v'.nb v'.cl)), HP.star (inP v'.inos rs), Own (some ⟨gB, 0, none⟩) m 61 1 m (natV s'.sub), Own (some ⟨gN, 0, none⟩) m 61 1 m (natV s'.nms), ImgP v']) (fun _ => True) (fun rest => ?_) ?_
        · refine e_cond rfl (fun ht => ?_) (fun hf => ?_)
          · have h2 : ftN y.mode = 2 := by have := eq_of_beq ht; omega
            rw [if_pos h2] at hlky
            refine walk ?_
            refine y_loadO y.num (natV_get (getD_some z4 (by omega))) ?_
            refine walkO ?_
            refine x_end ?_
            rw [← hlky]
            exact (rest () trivial).toP (ks := [191, 190, 189]) rfl (by repeat constructor) sub_
          · have h2 : ftN y.mode ≠ 2 := by
              intro h2
              rw [h2] at hf
              exact absurd hf (by decide)
            rw [if_neg h2] at hlky
            refine e_skip ?_
            rw [← hlky]
            exact (rest () trivial).toP (ks := [191, 190, 189]) rfl (by repeat constructor) sub_
        · rintro _ _
          refine walk ?_
          refine y_callq rfl rfl (must_fn (ptrV v'.vg) _ y.num) ?_
          refine walk ?_
          have ag := again2 (i + 1, ptrV g15, .int .u64 (y.links : Int)) (by dsimp only; omega) (by dsimp only; omega)
          dsimp only at ag
          exact ag.toP (ks := [191, 190, 189]) rfl (by repeat constructor) sub_
      · refine walk ?_
        refine y_tn (VP.cl_ v' hrs) fun _ _ => ?_
        exact y_end [] rfl ⟨rfl, rfl⟩
    | @file k _ _ _ _ x q cl' hq hI hmd hft hen hxn hr =>
      obtain ⟨sq, ss, sp, sn, sb⟩ := s
      dsimp only at hq hsz hsb hql ⊢
      subst hq
      rw [show natV (x.num :: q) = .int .u64 (x.num : Int) :: natV q from rfl, List.length_cons]
      refine walk ?_
      refine y_loadR (a := 0) (vs := .int .u64 (x.num : Int) :: natV q) (G := OffO gq o c 61 (q.length + 1) (.int .u64 (x.num : Int) :: natV q)) OffO.cells rfl ?_
      refine walk ?_
      refine y_cutQ rfl rfl fun o' c' => ?_
      refine walk ?_
      refine y_callE rfl rfl hI fun i _ => ?_
      refine walk ?_
      refine y_alloc fun gx => ?_
      refine walk ?_
      have hkf := kindOf_fn x.mode hmd
      generalize ftN x.mode = ft at hft hkf
      refine y_callq rfl rfl hkf ?_
      refine walk ?_
      refine y_tno5 VP.op fun AI cI gO cO rs hrs => ?_
      dsimp only
      refine walk ?_
      refine y_build (vs := [.agg (rC x (.slice i.1 x.data.length i.2) (.slice none 0 0) x.il x.blks).toArray]) (cs := rC x (.slice i.1 x.data.length i.2) (.slice none 0 0) x.il x.blks) rfl (fill_one (n := 23) [.int .u64 0, .int .u16 0, .int .u32 0, .int .u32 0, .int .u64 0, .int .u64 0, .int .u64 0, .int .u64 0, .int .i64 0, .int .i64 0, .int .i64 0, .int .i64 0, .int .i64 0, .int .i64 0, .int .i64 0, .int .i64 0, .int .u32 0, .int .u32 0, .slice none 0 0, .slice none 0 0, .slice none 0 0, .bool false, .int .u64 0] _ rfl rfl (by omega)) rfl fun gs => ?_
      refine walk ?_
      refine x_app (vs := inC w.inos rs) (news := rC x (.slice i.1 x.data.length i.2) (.slice none 0 0) x.il x.blks) rfl rfl take_ (by exact ⟨rfl, .inr ⟨_, _, rfl, (by first | ((repeat (first | exact CellRow.own | exact CellRow.here | apply CellRow.there)) <;> fail) | fail)⟩⟩) (fun h => by cases h) (by simp [Value.oneCell']) (by rfl) (by omega) (by simp only [maxLen]; omega) (by dsimp only; omega) (fun A5 c5 => ⟨_, _, pt_, ?_⟩)
      refine walk ?_
      refine E.nilOwn (e := 72) (sz := 3) ?_
      have hP : Tn [Own i.1 i.2 5 1 x.data.length (enc x.data), Own none 0 72 3 0 [], HP.star (inP w.inos rs)] (fun _ : Unit => True) (fun _ => [HP.star (inP (w.inos ++ [x]) (rs ++ [⟨i.1, i.2, none, 0⟩]))]) := by
        have hP := inP_add w.inos rs x ⟨i.1, i.2, none, 0⟩ hrs
        rw [hen] at hP
        exact hP
      refine y_tn hP fun _ _ => ?_
      rw [show rC x (.slice i.1 x.data.length i.2) (.slice none 0 0) x.il x.blks = riC x ⟨i.1, i.2, none, 0⟩ from by simp only [rC, riC, hen, List.length_nil], ← inC_app _ _ _ _ hrs]
      rw [show ({ w with cl := cl' } : Vs).inos.length + 1 = (w.inos ++ [x]).length from by simp]
      refine y_tn (VP.cl_ { w with cl := cl', inos := w.inos ++ [x] } (AI := A5) (cI := c5) (gO := gO) (cO := cO) (rs := rs ++ [⟨i.1, i.2, none, 0⟩]) (by simp [hrs])) fun _ _ => ?_
      have ag := again (k, { w with cl := cl', inos := w.inos ++ [x] }, ⟨q, ss, sp, sn, sb⟩, (gq, o', c'), (.int .u64 (x.num : Nat), ptrV gx, w12, w13)) (by dsimp only; omega) ⟨hg.with_ _ _, hit, hwm, hr, ⟨hsz.1, hsz.2, hsz.3, hsz.4⟩, RSb.mono ⟨hsb.1, hsb.2⟩ (by simp; omega), by simp; omega, by
        intro y hy
        rcases List.mem_append.1 hy with hy | hy
        · exact hnum y hy
        · rw [List.mem_singleton.1 hy]; exact ⟨hxn, hmd⟩⟩
      dsimp only at ag
      exact ag.toP rfl (by repeat constructor) sub_
    | @dir k _ _ _ _ x q cl' par es hq hI hmd hft hil hxn hpar hp4 hen hdb h0 h1 h2 hnd hsl hok hr =>
      obtain ⟨sq, ss, sp, sn, sb⟩ := s
      dsimp only at hq hsz hsb hql hpar hok hr ⊢
      subst hq
      rw [hen] at hdb hnd
      rw [show natV (x.num :: q) = .int .u64 (x.num : Int) :: natV q from rfl, List.length_cons]
      refine walk ?_
      refine y_loadR (a := 0) (vs := .int .u64 (x.num : Int) :: natV q) (G := OffO gq o c 61 (q.length + 1) (.int .u64 (x.num : Int) :: natV q)) OffO.cells rfl ?_
      refine walk ?_
      refine y_cutQ rfl rfl fun o' c' => ?_
      refine walk ?_
      refine y_callE rfl rfl hI fun i _ => ?_
      refine walk ?_
      refine y_alloc fun gx => ?_
      refine walk ?_
      have hkf := kindOf_fn x.mode hmd
      rw [hft] at hkf
      refine y_callq rfl rfl hkf ?_
      refine walk ?_
      refine y_loadO x.num (natV_get hpar) ?_
      refine EO.know (A := Own i.1 i.2 5 1 x.data.length (enc x.data)) take_ (fun _ _ => Own.know) fun hk => ?_
      obtain ⟨k1, k2, k3, k4⟩ := hk
      obtain ⟨A1, cA⟩ := i
      dsimp only at k1 k2 k3 k4 ⊢
      cases A1 with
      | none => have := k3 rfl; omega
      | some ad =>
      obtain ⟨gC, rfl⟩ := k4 ad rfl
      rw [hil]
      refine walk ?_
      refine y_callE rfl rfl (entries_fn w.vg gx par gC cA x.data es x x.blks hdb k2 h0 h1 h2 hnd hsl (by omega) hp4) fun i2 _ => ?_
      refine walk ?_
      obtain ⟨A2, c2⟩ := i2
      dsimp only
      refine E.know (A := Own A2 c2 72 3 (es.length + 2) (entC (([46], x.num, 2) :: ([46, 46], par, 2) :: es))) take_ (fun _ _ => Own.know) fun hk => ?_
      obtain ⟨k5, k6, k7, k8⟩ := hk
      cases A2 with
      | none => have := k7 rfl; omega
      | some ad =>
      obtain ⟨ge, rfl⟩ := k8 ad rfl
      obtain ⟨ee, hee⟩ : ∃ ee, ee = ([46], x.num, 2) :: ([46, 46], par, 2) :: es := ⟨_, rfl⟩
      rw [← hee]
      have hel : ee.length = es.length + 2 := by rw [hee]; rfl
      refine e_roundsT (ι := Nat × RS × (Nat × Nat × Nat) × (Value × Value)) (fun z => es.length + 2 - z.1)
        (fun z => [ptrV w.vg, .int .u64 11, undef, undef, .slice (some ⟨gS, 0, none⟩) m m, .slice (some ⟨gP, 0, none⟩) m m, .slice (some ⟨gN, 0, none⟩) m m, .slice (some ⟨gB, 0, none⟩) m m, .slice (some ⟨z.2.2.1.1, z.2.2.1.2.1, none⟩) z.2.1.q.length z.2.2.1.2.2, .int .u64 (x.num : Int), ptrV gx, undef, z.2.2.2.1, z.2.2.2.2, undef, undef, undef])
        (fun z => [(71, .int .i64 (z.1 : Nat)), (70, .int .i64 (es.length + 2 : Nat)), (69, .slice (some ⟨ge, 0, none⟩) (es.length + 2) c2)])
        (fun z => [OffO z.2.2.1.1 z.2.2.1.2.1 z.2.2.1.2.2 61 z.2.1.q.length (natV z.2.1.q), Own (some ⟨gP, 0, none⟩) m 61 1 m (natV z.2.1.par), Own (some ⟨gS, 0, none⟩) m 4 1 m (boolV z.2.1.seen), Own (some ⟨gB, 0, none⟩) m 61 1 m (natV z.2.1.sub), Own (some ⟨gN, 0, none⟩) m 61 1 m (natV z.2.1.nms), VP { w with cl := cl' }, ImgP w,
          Own (some ⟨gC, 0, none⟩) cA 5 1 x.data.length (enc x.data), Cells gx 66 (rC x (.slice (some ⟨gC, 0, none⟩) x.data.length cA) (.slice (some ⟨ge, 0, none⟩) (es.length + 2) c2) false x.blks), Own (some ⟨ge, 0, none⟩) c2 72 3 (es.length + 2) (entC ee)])
        (fun z => z.1 ≤ es.length + 2 ∧ rsOk w.img it w.pi x.num z.2.1 (es.drop (z.1 - 2)) ∧ (es.drop (z.1 - 2)).foldl (rsE x.num) z.2.1 = es.foldl (rsE x.num) ⟨q, ss, sp, sn, sb⟩ ∧ RSz z.2.1 m ∧ RSb z.2.1 (w.inos.length * 200000 + z.1))
        (0, ⟨q, ss, sp, sn, sb⟩, (gq, o', c'), (w12, w13)) ⟨Nat.zero_le _, (by simpa using hok), (by simp), ⟨hsz.1, hsz.2, hsz.3, hsz.4⟩, RSb.mono ⟨hsb.1, hsb.2⟩ (Nat.le_add_right _ _)⟩ rfl (by repeat constructor) sub_ ?_
      rintro ⟨i, s, ⟨gq, o, c⟩, w12, w13⟩ ⟨hi, hok, hfo, hsz, hsb⟩ again2
      dsimp only at hi hok hfo hsz hsb again2 ⊢
      by_cases hlt : i < es.length + 2
      · obtain ⟨e, he⟩ : ∃ e, ee[i]? = some e := ⟨_, List.getElem?_eq_getElem (by omega)⟩
        refine walk ?_
        refine y_loadS (vs := entC ee) (us := [.string (str e.1), .int .u64 (e.2.1 : Int), .int .u64 (e.2.2 : Int)]) (i * 3) (entC_get ee i e he) ?_
        refine walk ?_
        refine y_alloc fun g12 => ?_
        by_cases hi2 : i < 2
        · have he2 : e.1 = [46] ∨ e.1 = [46, 46] := by
            rw [hee] at he
            rcases (show i = 0 ∨ i = 1 by omega) with rfl | rfl
            · left; simp at he; rw [← he]
            · right; simp at he; rw [← he]
          have ag := again2 (i + 1, s, (gq, o, c), (ptrV g12, w13)) (by dsimp only; omega) ⟨by dsimp only; omega, by dsimp only; rw [show i + 1 - 2 = i - 2 by omega]; exact hok, by dsimp only; rw [show i + 1 - 2 = i - 2 by omega]; exact hfo, hsz, RSb.mono hsb (by dsimp only; omega)⟩
          dsimp only at ag
          rcases he2 with he2 | he2
          · rw [he2]
            refine walk ?_
            exact ag.toP (ks := [71, 70, 69]) rfl (by repeat constructor) sub_
          · rw [he2]
            refine walk ?_
            exact ag.toP (ks := [71, 70, 69]) rfl (by repeat constructor) sub_
        · have hi3 : es[i - 2]? = some e := by
            rw [hee] at he
            obtain ⟨j, rfl⟩ : ∃ j, i = j + 2 := ⟨i - 2, by omega⟩
            simpa using he
          have hdrop : es.drop (i - 2) = e :: es.drop (i + 1 - 2) := by
            obtain ⟨h1, h2⟩ := List.getElem?_eq_some_iff.1 hi3
            rw [show i + 1 - 2 = (i - 2) + 1 by omega, List.drop_eq_getElem_cons h1, h2]
          rw [hdrop] at hok hfo
          obtain ⟨⟨f1, f2, f3, f4, f5, f6, f7⟩, hok⟩ := hok
          rw [List.foldl_cons] at hfo
          have n1 : (e.1 == [46]) = false := by simpa using f1
          have n2 : (e.1 == [46, 46]) = false := by simpa using f2
          have hsz' := hsz
          have hsb' := hsb
          obtain ⟨z1, z2, z3, z4⟩ := hsz'
          obtain ⟨b1, b2⟩ := hsb'
          have hb1 := b1 e.2.1
          have hb2 := b2 x.num
          have hwl : w.inos.length ≤ K := by omega
          refine walk ?_
          rw [n1]
          refine walk ?_
          rw [n2]
          refine walk ?_
          have hraw := raw_fn { w with cl := cl' } (hg.with_ cl' w.inos) it e.2.1 (by omega) f4 hit f5
          refine y_callq rfl rfl hraw ?_
          refine walk ?_
          have hle := le_fn w.ig (it * 4096 + (e.2.1 - 1) * 256) 256 (w.ic - (it * 4096 + (e.2.1 - 1) * 256)) 0 2 ((w.img.drop (it * 4096 + (e.2.1 - 1) * 256)).take 256) (ImgP w) (ImgP.row w _ 256) (by simp; omega) (by omega) (by omega) (by omega)
          rw [leAt_take _ (by omega), leAt_drop, Nat.add_zero] at hle
          have hlt2 := leAt_lt' w.img (it * 4096 + (e.2.1 - 1) * 256) 2 65536 (by decide)
          have hkd := kindOf_fn (leAt w.img (it * 4096 + (e.2.1 - 1) * 256) 2) hlt2
          rw [f6] at hkd
          refine y_callq rfl rfl hle ?_
          refine walk ?_
          refine y_callq rfl rfl hkd ?_
          refine walk ?_
          refine y_callq rfl rfl (must_fn (ptrV w.vg) _ e.2.1) ?_
          refine walk ?_
          refine y_loadO e.2.1 (natV_get (getD_some z3 (by omega))) ?_
          refine walk ?_
          refine y_storeE (a := e.2.1) (vs := natV s.nms) (u := .int .u64 ((s.nms.getD e.2.1 0 + 1 : Nat) : Int)) (by rw [natV_len, z3]; omega) ?_
          rw [natV_set]
          refine walk ?_
          obtain ⟨sub', hsub'⟩ : ∃ sub', sub' = if e.2.2 = 2 then s.sub.set x.num (s.sub.getD x.num 0 + 1) else s.sub := ⟨_, rfl⟩
          refine e_cont (ι := Unit) (fun _ => [ptrV w.vg, .int .u64 11, undef, undef, .slice (some ⟨gS, 0, none⟩) m m, .slice (some ⟨gP, 0, none⟩) m m, .slice (some ⟨gN, 0, none⟩) m m, .slice (some ⟨gB, 0, none⟩) m m, .slice (some ⟨gq, o, none⟩) s.q.length c, .int .u64 (x.num : Int), ptrV gx, undef, ptrV g12, .int .u64 (e.2.2 : Int), undef, undef, undef])
            (fun _ => [(71, .int .i64 (i : Nat)), (70, .int .i64 (es.length + 2 : Nat)), (69, .slice (some ⟨ge, 0, none⟩) (es.length + 2) c2)])
            (fun _ => [Own (some ⟨gB, 0, none⟩) m 61 1 m (natV sub'), Own (some ⟨gN, 0, none⟩) m 61 1 m (natV (s.nms.set e.2.1 (s.nms.getD e.2.1 0 + 1))), Cells g12 72 [.string (str e.1), .int .u64 (e.2.1 : Int), .int .u64 (e.2.2 : Int)], OffO gq o c 61 s.q.length (natV s.q), Own (some ⟨gP, 0, none⟩) m 61 1 m (natV s.par), Own (some ⟨gS, 0, none⟩) m 4 1 m (boolV s.seen), VP { w with cl := cl' }, ImgP w,
              Own (some ⟨gC, 0, none⟩) cA 5 1 x.data.length (enc x.data), Cells gx 66 (rC x (.slice (some ⟨gC, 0, none⟩) x.data.length cA) (.slice (some ⟨ge, 0, none⟩) (es.length + 2) c2) false x.blks), Own (some ⟨ge, 0, none⟩) c2 72 3 (es.length + 2) (entC ee)]) (fun _ => True) (fun rest => ?_) ?_
          · refine e_cond rfl (fun ht => ?_) (fun hf => ?_)
            · have h2 : e.2.2 = 2 := by have := eq_of_beq ht; omega
              rw [if_pos h2] at hsub'
              subst hsub'
              refine e_seq ?_
              refine walk ?_
              refine y_loadO x.num (natV_get (getD_some z4 (by omega))) ?_
              refine walk ?_
              refine y_storeE (a := x.num) (vs := natV s.sub) (u := .int .u64 ((s.sub.getD x.num 0 + 1 : Nat) : Int)) (by rw [natV_len, z4]; omega) ?_
              rw [natV_set]
              refine walk ?_
              refine y_loadO e.2.1 (boolV_get (getD_someB z1 (by omega))) ?_
              rw [f7 h2]
              refine walk ?_
              refine y_callq rfl rfl (must_fn (ptrV w.vg) _ e.2.1) ?_
              refine walkO ?_
              refine x_end ?_
              exact (rest () trivial).toP (ks := [71, 70, 69]) rfl (by repeat constructor) sub_
            · have h2 : e.2.2 ≠ 2 := by
                intro h2
                rw [h2] at hf
                exact absurd hf (by decide)
              rw [if_neg h2] at hsub'
              subst hsub'
              refine e_skip ?_
              exact (rest () trivial).toP (ks := [71, 70, 69]) rfl (by repeat constructor) sub_
          · rintro _ _
            have ag0 := fun (s2 : RS) (hs2 : s2 = rsE x.num s e) (q2 : Nat × Nat × Nat) => again2 (i + 1, s2, q2, (ptrV g12, .int .u64 (e.2.2 : Int))) (by dsimp only; omega) (by subst hs2; exact ⟨by dsimp only; omega, hok, hfo, hsz.step e, RSb.mono (hsb.step e) (by dsimp only; omega)⟩)
            cases hse : s.seen.getD e.2.1 true with
            | true =>
              have hrs := rsE_old (n := x.num) hse
              rw [← hsub'] at hrs
              have ag := ag0 _ hrs.symm (gq, o, c)
              dsimp only at ag
              refine walk ?_
              refine y_loadO e.2.1 (boolV_get (getD_someB z1 (by omega))) ?_
              rw [hse]
              refine walk ?_
              exact ag.toP (ks := [71, 70, 69]) rfl (by repeat constructor) sub_
            | false =>
              have hrs := rsE_new (n := x.num) hse
              rw [← hsub'] at hrs
              have ag := fun q2 => ag0 _ hrs.symm q2
              dsimp only at ag
              refine walk ?_
              refine y_loadO e.2.1 (boolV_get (getD_someB z1 (by omega))) ?_
              rw [hse]
              refine walk ?_
              refine e_cont (ι := Unit) (fun _ => [ptrV w.vg, .int .u64 11, undef, undef, .slice (some ⟨gS, 0, none⟩) m m, .slice (some ⟨gP, 0, none⟩) m m, .slice (some ⟨gN, 0, none⟩) m m, .slice (some ⟨gB, 0, none⟩) m m, .slice (some ⟨gq, o, none⟩) s.q.length c, .int .u64 (x.num : Int), ptrV gx, undef, ptrV g12, .int .u64 (e.2.2 : Int), undef, undef, undef])
                (fun _ => [(71, .int .i64 (i : Nat)), (70, .int .i64 (es.length + 2 : Nat)), (69, .slice (some ⟨ge, 0, none⟩) (es.length + 2) c2)])
                (fun _ => [Own (some ⟨gB, 0, none⟩) m 61 1 m (natV sub'), Own (some ⟨gN, 0, none⟩) m 61 1 m (natV (s.nms.set e.2.1 (s.nms.getD e.2.1 0 + 1))), Cells g12 72 [.string (str e.1), .int .u64 (e.2.1 : Int), .int .u64 (e.2.2 : Int)], OffO gq o c 61 s.q.length (natV s.q), Own (some ⟨gP, 0, none⟩) m 61 1 m (natV (s.par.set e.2.1 x.num)), Own (some ⟨gS, 0, none⟩) m 4 1 m (boolV (s.seen.set e.2.1 true)), VP { w with cl := cl' }, ImgP w,
                  Own (some ⟨gC, 0, none⟩) cA 5 1 x.data.length (enc x.data), Cells gx 66 (rC x (.slice (some ⟨gC, 0, none⟩) x.data.length cA) (.slice (some ⟨ge, 0, none⟩) (es.length + 2) c2) false x.blks), Own (some ⟨ge, 0, none⟩) c2 72 3 (es.length + 2) (entC ee)]) (fun _ => True) (fun rest => ?_) ?_
              · refine e_pairK ?_ (by first | ((repeat (first | exact KeepR.nil | apply KeepR.yes rfl | apply KeepR.no rfl)) <;> fail) | fail)
                refine walkO ?_
                refine x_two ?_ ?_
                · refine walk ?_
                  refine y_storeE (a := e.2.1) (vs := boolV s.seen) (u := .bool true) (by rw [boolV_len, z1]; omega) ?_
                  rw [boolV_set]
                  refine walk ?_
                  refine y_storeE (a := e.2.1) (vs := natV s.par) (u := .int .u64 (x.num : Int)) (by rw [natV_len, z2]; omega) ?_
                  rw [natV_set]
                  refine walkO ?_
                  refine x_end ?_
                  exact (rest () trivial).toP (ks := [71, 70, 69]) rfl (by repeat constructor) sub_
                · refine walk ?_
                  refine y_storeE (a := e.2.1) (vs := boolV s.seen) (u := .bool true) (by rw [boolV_len, z1]; omega) ?_
                  rw [boolV_set]
                  refine walk ?_
                  refine y_storeE (a := e.2.1) (vs := natV s.par) (u := .int .u64 (x.num : Int)) (by rw [natV_len, z2]; omega) ?_
                  rw [natV_set]
                  refine walkO ?_
                  refine x_end ?_
                  exact (rest () trivial).toP (ks := [71, 70, 69]) rfl (by repeat constructor) sub_
              · rintro _ _
                have hqb : s.q.length ≤ k := by
                  have h1 := rsE_q x.num s e
                  have h2 := rsE_fold_q x.num (es.drop (i + 1 - 2)) (rsE x.num s e)
                  rw [hfo] at h2
                  have h3 := hr.qlen
                  omega
                refine walk ?_
                refine y_build1 rfl fun gq2 => ?_
                refine walk ?_
                refine y_appQ (u := .int .u64 (e.2.1 : Int)) rfl rfl rfl fun g' o' c' => ?_
                refine walk ?_
                rw [show natV s.q ++ [.int .u64 (e.2.1 : Int)] = natV (s.q ++ [e.2.1]) from by simp [natV], show s.q.length + 1 = (s.q ++ [e.2.1]).length from by simp]
                exact (ag (g', o', c')).toP (ks := [71, 70, 69]) rfl (by repeat constructor) sub_
      · have hie : i = es.length + 2 := by omega
        rw [show i - 2 = es.length by omega, List.drop_length] at hfo
        rw [List.foldl_nil] at hfo
        refine walk ?_
        refine y_tno5 VP.op fun AI cI gO cO rs hrs => ?_
        dsimp only
        refine walk ?_
        refine y_build (vs := [.agg (rC x (.slice (some ⟨gC, 0, none⟩) x.data.length cA) (.slice (some ⟨ge, 0, none⟩) (es.length + 2) c2) false x.blks).toArray]) (cs := rC x (.slice (some ⟨gC, 0, none⟩) x.data.length cA) (.slice (some ⟨ge, 0, none⟩) (es.length + 2) c2) false x.blks) rfl (fill_one (n := 23) [.int .u64 0, .int .u16 0, .int .u32 0, .int .u32 0, .int .u64 0, .int .u64 0, .int .u64 0, .int .u64 0, .int .i64 0, .int .i64 0, .int .i64 0, .int .i64 0, .int .i64 0, .int .i64 0, .int .i64 0, .int .i64 0, .int .u32 0, .int .u32 0, .slice none 0 0, .slice none 0 0, .slice none 0 0, .bool false, .int .u64 0] _ rfl rfl (by omega)) rfl fun gs => ?_
        refine walk ?_
        refine x_app (vs := inC w.inos rs) (news := rC x (.slice (some ⟨gC, 0, none⟩) x.data.length cA) (.slice (some ⟨ge, 0, none⟩) (es.length + 2) c2) false x.blks) rfl rfl take_ (by exact ⟨rfl, .inr ⟨_, _, rfl, (by first | ((repeat (first | exact CellRow.own | exact CellRow.here | apply CellRow.there)) <;> fail) | fail)⟩⟩) (fun h => by cases h) (by simp [Value.oneCell']) (by rfl) (by omega) (by simp only [maxLen]; omega) (by dsimp only; omega) (fun A5 c5 => ⟨_, _, pt_, ?_⟩)
        refine walk ?_
        have hel2 : x.ents.length = es.length + 2 := by rw [hen]; rfl
        have hP : Tn [Own (some ⟨gC, 0, none⟩) cA 5 1 x.data.length (enc x.data), Own (some ⟨ge, 0, none⟩) c2 72 3 (es.length + 2) (entC ee), HP.star (inP w.inos rs)] (fun _ : Unit => True) (fun _ => [HP.star (inP (w.inos ++ [x]) (rs ++ [⟨some ⟨gC, 0, none⟩, cA, some ⟨ge, 0, none⟩, c2⟩]))]) := by
          have hP := inP_add w.inos rs x ⟨some ⟨gC, 0, none⟩, cA, some ⟨ge, 0, none⟩, c2⟩ hrs
          rw [hel2, hen, ← hee] at hP
          exact hP
        refine y_tn hP fun _ _ => ?_
        rw [show rC x (.slice (some ⟨gC, 0, none⟩) x.data.length cA) (.slice (some ⟨ge, 0, none⟩) (es.length + 2) c2) false x.blks = riC x ⟨some ⟨gC, 0, none⟩, cA, some ⟨ge, 0, none⟩, c2⟩ from by simp only [rC, riC, hel2, hil], ← inC_app _ _ _ _ hrs]
        rw [show ({ w with cl := cl' } : Vs).inos.length + 1 = (w.inos ++ [x]).length from by simp]
        refine y_tn (VP.cl_ { w with cl := cl', inos := w.inos ++ [x] } (AI := A5) (cI := c5) (gO := gO) (cO := cO) (rs := rs ++ [⟨some ⟨gC, 0, none⟩, cA, some ⟨ge, 0, none⟩, c2⟩]) (by simp [hrs])) fun _ _ => ?_
        have ag := again (k, { w with cl := cl', inos := w.inos ++ [x] }, s, (gq, o, c), (.int .u64 (x.num : Nat), ptrV gx, w12, w13)) (by dsimp only; omega) ⟨hg.with_ _ _, hit, hwm, by dsimp only; rw [hfo]; exact hr, hsz, RSb.mono hsb (by simp; omega), by simp; omega, by
          intro y hy
          rcases List.mem_append.1 hy with hy | hy
          · exact hnum y hy
          · rw [List.mem_singleton.1 hy]; exact ⟨hxn, hmd⟩⟩
        dsimp only at ag
        exact ag.toP rfl (by repeat constructor) sub_
end Go.Proofs.YtcdalfhkhifplaaGreatDoor
namespace Go.Proofs.YtcdalfhkhifplaaGreatDoor
open Go
set_option maxRecDepth 100000
set_option maxHeartbeats 4000000
attribute [local irreducible] E EO
def nmS (l : List (List UInt8)) : List Value := l.map fun s => .string (str s)
theorem nmS_len (l : List (List UInt8)) : (nmS l).length = l.length := by simp [nmS]
theorem nmS_get {l : List (List UInt8)} {i : Nat} {s : List UInt8} (h : l[i]? = some s) : (nmS l)[i]? = some (.string (str s)) := by simp [nmS, h]
theorem Rd.at_ {M : HP} {B : Option Addr} {m : Nat} {vs : List Value} (h : Rd [M] B m 1 vs) (hm : 0 < m) : ∃ g o, B = some ⟨g, o, none⟩ ∧ CellRow [M] g o vs := by
  rcases h.2 with h0 | h0
  · omega
  · exact h0
def fits5 (l : List (List UInt8)) : Bool := decide (l.length ≤ 2147483647) && l.all fun s => decide (s.length ≤ 2147483647)
theorem take_all {l : List (List UInt8)} {p : List UInt8 → Bool} {i : Nat} {s : List UInt8} (hs : l[i]? = some s) (h : (l.take i).all p = true) (hp : p s = true) : (l.take (i + 1)).all p = true := by
  rw [List.take_add_one, hs, List.all_append, h]; simpa using hp
theorem not_all {l : List (List UInt8)} {p : List UInt8 → Bool} {i : Nat} {s : List UInt8} (hs : l[i]? = some s) (hp : p s = false) : l.all p = false := by
  rw [Bool.eq_false_iff]
  intro h
  have := List.all_eq_true.1 h s (List.mem_of_getElem? hs)
  rw [hp] at this; exact Bool.noConfusion this
theorem fits5_fn (B : Option Addr) (c : Nat) (l : List (List UInt8)) (M : HP) (hr : Rd [M] B l.length 1 (nmS l)) (hn : l.length ≤ 9223372036854775807) (hs : ∀ s ∈ l, s.length ≤ 9223372036854775807) :
    Qn Tryz.prog 4 #[.slice B l.length c] [M] (.bool (fits5 l)) := by
  refine fn_of_E' (args := [_]) 5 _ [_, undef, undef, undef, undef] Tryz.func4 rfl Tryz.ntmps4 ?_
  by_cases hlen : 2147483647 < l.length
  · have e : fits5 l = false := by unfold fits5; rw [decide_eq_false (by omega)]; rfl
    rw [e]
    refine walk ?_
    exact y_ret [2] rfl rfl
  · have e : fits5 l = l.all fun s => decide (s.length ≤ 2147483647) := by unfold fits5; rw [decide_eq_true (by omega), Bool.true_and]
    rw [e]
    refine walk ?_
    refine e_roundsT (ι := Nat × Value) (fun q => l.length - q.1) (fun q => [.slice B l.length c, undef, .bool false, undef, q.2])
      (fun q => [(10, .int .i64 (q.1 : Nat)), (9, .int .i64 (l.length : Nat)), (8, .slice B l.length c)]) (fun _ => [M]) (fun q => q.1 ≤ l.length ∧ (l.take q.1).all (fun s => decide (s.length ≤ 2147483647)) = true) (0, undef) ⟨Nat.zero_le _, rfl⟩ rfl (by repeat constructor) sub_ ?_
    rintro ⟨i, v4⟩ ⟨hi, ha⟩ again
    dsimp only at hi ha again ⊢
    by_cases hlt : i < l.length
    · obtain ⟨s, hsi⟩ : ∃ s, l[i]? = some s := ⟨_, List.getElem?_eq_getElem hlt⟩
      obtain ⟨g, o, hB, hrow⟩ := hr.at_ (by omega)
      subst hB
      have hsl := hs s (List.mem_of_getElem? hsi)
      by_cases hb : 2147483647 < s.length
      · rw [not_all hsi (by rw [decide_eq_false (by omega)])]
        refine walk ?_
        refine y_loadR (a := i) hrow (nmS_get hsi) ?_
        refine walk ?_
        exact y_ret [2] rfl rfl
      · have ag := again (i + 1, .string (str s)) (by dsimp only; omega) ⟨by dsimp only; omega, take_all hsi ha (by rw [decide_eq_true (by omega)])⟩
        dsimp only at ag
        refine walk ?_
        refine y_loadR (a := i) hrow (nmS_get hsi) ?_
        refine walk ?_
        exact ag.toP (ks := [10, 9, 8]) rfl (by repeat constructor) sub_
    · have hil : i = l.length := by omega
      subst hil
      rw [List.take_length] at ha
      rw [ha]
      refine walk ?_
      exact y_ret [2] rfl rfl
theorem hasName0_fn (B : Option Addr) (c : Nat) (s : ByteArray) : Qn Tryz.prog 22 #[.slice B 0 c, .string s] [] (.bool false) := by
  refine fn_of_E' (args := [_, _]) 7 _ [_, _, undef, undef, undef, undef, undef] Tryz.func22 rfl Tryz.ntmps22 ?_
  refine walk ?_
  refine y_loop ?_
  refine walk ?_
  exact y_ret [4] rfl rfl
structure XA where
  nm : List UInt8
  B : Option Addr
  m : Nat
  c : Nat
abbrev xa1 (x : XA) : List Value := [.string (str x.nm), .slice x.B x.m x.c]
def xaV : List XA → List Value
  | [] => []
  | x :: r => xa1 x ++ xaV r
theorem xaV_get : ∀ (l : List XA) (i : Nat) (x : XA), l[i]? = some x → ((xaV l).drop (i * 2)).take 2 = xa1 x
  | y :: l, 0, x, h => by simp at h; subst h; rfl
  | y :: l, i + 1, x, h => by
    have := xaV_get l i x (by simpa using h)
    simp only [xaV]
    rw [show (i + 1) * 2 = (xa1 y).length + i * 2 by simp; omega, List.drop_append, List.drop_of_length_le (by omega), List.nil_append, show (xa1 y).length + i * 2 - (xa1 y).length = i * 2 by omega, this]
def fits8 (x : XA) : Bool := decide (x.nm.length ≤ 2147483647) && decide (x.m ≤ 2147483647)
theorem fits8_fn (x : XA) (h1 : x.nm.length ≤ 9223372036854775807) (h2 : x.m ≤ 9223372036854775807) : Fd Tryz.prog 21 #[.agg (xa1 x).toArray] [] (.bool (fits8 x)) [] := by
  refine fn_of_E' (args := [_]) 3 _ [_, undef, undef] Tryz.func21 rfl Tryz.ntmps21 ?_
  refine walk ?_
  refine y_boxA rfl fun g1 => ?_
  by_cases hb : 2147483647 < x.nm.length
  · rw [show fits8 x = false from by unfold fits8; rw [decide_eq_false (by omega)]; rfl]
    refine walk ?_
    exact y_ret [2] rfl ⟨rfl, rfl⟩
  · by_cases hb2 : 2147483647 < x.m
    · rw [show fits8 x = false from by unfold fits8; rw [decide_eq_false (p := x.m ≤ 2147483647) (by omega), Bool.and_false]]
      refine walk ?_
      exact y_ret [2] rfl ⟨rfl, rfl⟩
    · rw [show fits8 x = true from by unfold fits8; rw [decide_eq_true (by omega), decide_eq_true (by omega)]; rfl]
      refine walk ?_
      exact y_ret [2] rfl ⟨rfl, rfl⟩
def fits7 (l : List XA) : Bool := decide (l.length ≤ 2147483647) && l.all fits8
theorem fits7_fn (B : Option Addr) (c : Nat) (l : List XA) (M : HP) (hr : Rd [M] B l.length 2 (xaV l)) (hn : l.length ≤ 9223372036854775807) (hs : ∀ x ∈ l, x.nm.length ≤ 9223372036854775807 ∧ x.m ≤ 9223372036854775807) :
    Fd Tryz.prog 12 #[.slice B l.length c] [M] (.bool (fits7 l)) [M] := by
  refine fn_of_E' (args := [_]) 5 _ [_, undef, undef, undef, undef] Tryz.func12 rfl Tryz.ntmps12 ?_
  by_cases hlen : 2147483647 < l.length
  · have e : fits7 l = false := by unfold fits7; rw [decide_eq_false (by omega)]; rfl
    rw [e]
    refine walk ?_
    exact y_ret [2] rfl ⟨rfl, rfl⟩
  · have e : fits7 l = l.all fits8 := by unfold fits7; rw [decide_eq_true (by omega), Bool.true_and]
    rw [e]
    refine walk ?_
    refine e_roundsT (ι := Nat × Value) (fun q => l.length - q.1) (fun q => [.slice B l.length c, undef, .bool false, undef, q.2])
      (fun q => [(10, .int .i64 (q.1 : Nat)), (9, .int .i64 (l.length : Nat)), (8, .slice B l.length c)]) (fun _ => [M]) (fun q => q.1 ≤ l.length ∧ (l.take q.1).all fits8 = true) (0, undef) ⟨Nat.zero_le _, rfl⟩ rfl (by repeat constructor) sub_ ?_
    rintro ⟨i, v4⟩ ⟨hi, ha⟩ again
    dsimp only at hi ha again ⊢
    by_cases hlt : i < l.length
    · obtain ⟨x, hx⟩ : ∃ x, l[i]? = some x := ⟨_, List.getElem?_eq_getElem hlt⟩
      obtain ⟨g, o, hB, hrow⟩ : ∃ g o, B = some ⟨g, o, none⟩ ∧ CellRow [M] g o (xaV l) := by
        rcases hr.2 with h0 | h0
        · omega
        · exact h0
      subst hB
      obtain ⟨hx1, hx2⟩ := hs x (List.mem_of_getElem? hx)
      have hxr : ∀ p, p = o + i * 2 → CellRow [M] g p (xa1 x) := fun p hp => hrow.sub (xaV_get l i x hx) hp
      refine walk ?_
      refine x_loadA (vs := xa1 x) rfl ((hxr _ (by omega)).of_take take_) rfl pt_ ?_
      refine walk ?_
      refine y_alloc fun g4 => ?_
      refine walk ?_
      refine y_callD rfl rfl (fits8_fn x hx1 hx2) ?_
      cases hf : fits8 x with
      | false =>
        have : l.all fits8 = false := by
          rw [Bool.eq_false_iff]
          intro h
          have := List.all_eq_true.1 h x (List.mem_of_getElem? hx)
          rw [hf] at this; exact Bool.noConfusion this
        rw [this]
        refine walk ?_
        exact y_ret [2] rfl ⟨rfl, rfl⟩
      | true =>
        have ag := again (i + 1, ptrV g4) (by dsimp only; omega) ⟨by dsimp only; omega, by dsimp only; rw [List.take_add_one, hx, List.all_append, ha]; simpa using hf⟩
        dsimp only at ag
        refine walk ?_
        exact ag.toP (ks := [10, 9, 8]) rfl (by repeat constructor) sub_
    · have hil : i = l.length := by omega
      subst hil
      rw [List.take_length] at ha
      rw [ha]
      refine walk ?_
      exact y_ret [2] rfl ⟨rfl, rfl⟩
abbrev fC (lk : List UInt8) (z : Int) (md ui gi : Nat) (w : Nat → Value) (xs : Value) : List Value := [.string (str lk), .int .i64 z, .int .u16 (md : Int), .int .u32 (ui : Int), .int .u32 (gi : Int), w 0, w 1, w 2, w 3, w 4, w 5, w 6, w 7, w 8, w 9, w 10, w 11, w 12, w 13, xs]
theorem fits6_fn (lk : List UInt8) (z : Int) (md ui gi : Nat) (w : Nat → Value) (B : Option Addr) (c : Nat) (l : List XA) (M : HP) (hr : Rd [M] B l.length 2 (xaV l)) (hn : l.length ≤ 9223372036854775807) (hs : ∀ x ∈ l, x.nm.length ≤ 9223372036854775807 ∧ x.m ≤ 9223372036854775807) (hl : lk.length ≤ 9223372036854775807) :
    ∃ b, Fd Tryz.prog 5 #[.agg (fC lk z md ui gi w (.slice B l.length c)).toArray] [M] (.bool b) [M] := by
  have h7 := fits7_fn B c l M hr hn hs
  by_cases hb : 2147483647 < lk.length
  · refine ⟨false, ?_⟩
    refine fn_of_E' (args := [_]) 3 _ [_, undef, undef] Tryz.func5 rfl Tryz.ntmps5 ?_
    refine walk ?_
    refine y_boxA rfl fun g1 => ?_
    refine walk ?_
    exact y_ret [2] rfl ⟨rfl, rfl⟩
  · refine ⟨fits7 l, ?_⟩
    refine fn_of_E' (args := [_]) 3 _ [_, undef, undef] Tryz.func5 rfl Tryz.ntmps5 ?_
    refine walk ?_
    refine y_boxA rfl fun g1 => ?_
    refine walk ?_
    refine y_callD rfl rfl h7 ?_
    cases hf : fits7 l with
    | false =>
      refine walk ?_
      exact y_ret [2] rfl ⟨rfl, rfl⟩
    | true =>
      refine walk ?_
      exact y_ret [2] rfl ⟨rfl, rfl⟩
end Go.Proofs.YtcdalfhkhifplaaGreatDoor
