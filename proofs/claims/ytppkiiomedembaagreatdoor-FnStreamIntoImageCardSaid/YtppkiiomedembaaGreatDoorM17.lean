/-
  The walks: the tree of inodes is read; The walks: the marks are checked. Conditions: none.
-/
import Derived.Test.YtppkiiomedembaaGreatDoorM16
set_option linter.unusedVariables false
set_option linter.unusedSimpArgs false
namespace Go.Proofs.YtppkiiomedembaaGreatDoor
open Go
set_option maxRecDepth 100000
set_option maxHeartbeats 4000000
theorem natV_rep (m : Nat) : List.replicate m (.int .u64 0) = natV (List.replicate m 0) := by simp [natV]
theorem boolV_rep (m : Nat) : List.replicate m (.bool false) = boolV (List.replicate m false) := by simp [boolV]
theorem E.toP {X : Fx} {k : List Item} {loc loc' : List Value} {tmp tmp' : List (Nat × Value)} {L L' F : List HP} {ks : List Nat} (h : E X k loc' tmp' L') (hl : loc = loc') (ht : KeepR tmp ks tmp') (hL : Subs L' L F) : E X k loc tmp L := by
  subst hl; exact E.some hL (fun w0 S0 a w hr hs => h w0 S0 a w (hr.sub ht.sub) hs)
attribute [local irreducible] E EO
theorem OffO.know {g o c e n : Nat} {vs : List Value} {m : Mem} {S : Nat → Prop} (h : (OffO g o c e n vs).sat m S) : vs.length = n ∧ n ≤ c := ⟨h.1, h.2.1⟩
section
variable {X : Fx} {ops : Array Oper} {cf : Nat → Cls} {k : List Item} {i : Nat} {is : List Nat} {l : List Oper} {loc : List Value} {tmp : List (Nat × Value)} {L F : List HP}
  {d : Option Tmp} {ty : TypeId} {pos : String} {aft : Array Edge} {gd : Option (Nat × Bool)} {locq : Nat → Nat → List Value} {tmpq : Nat → Nat → List (Nat × Value)}
theorem y_cutQ {t e g o n c : Nat} {K : IntKind} {x y : Operand} {u : Value} {vs : List Value} [SlTy X.P t e 1] (hx : sv loc tmp x = some (.slice (some ⟨g, o, none⟩) (n + 1) c)) (hy : sv loc tmp y = some (.int K 1))
    (h : ∀ o' c', EO X ops cf k is l (locq o' c') (tmpq o' c') (OffO g o' c' e n vs :: F)) (ht : Take (OffO g o c e (n + 1) (u :: vs)) L F := by exact take_)
    (hp : ∀ o' c', Pt loc tmp d (.slice (some ⟨g, o', none⟩) n c') (locq o' c') (tmpq o' c') := by intro _ _; first | exact Pt.tmp rfl | exact Pt.none | exact Pt.loc (by repeat constructor))
    (hg : gdv ops loc tmp gd = some true := by rfl) (hd : dOK X.n d = true := by rfl) : EO X ops cf k (i :: is) (⟨d, .slice t x (some y) none none, ty, pos, aft, gd⟩ :: l) loc tmp L :=
  EO.know ht (fun _ _ => OffO.know) fun hk => by
    obtain ⟨hl, hc⟩ := hk
    by_cases h1 : c = 1
    · have hn : n = 0 := by omega
      subst hn h1
      have hv : vs = [] := List.length_eq_zero_iff.1 (by simpa using hl)
      subst hv
      exact x_slLoE (m := 1) hx hy rfl (Nat.le_refl _) rfl (hp o 0) (EO.tn (OffO.done (g := g) (o := o) (c := 1) (e := e) (v := u)) (.cons ht .nil) (fun _ => by repeat constructor) fun _ _ => h o 0) hg hd
    · obtain ⟨c', rfl⟩ : ∃ c', c = c' + 1 := ⟨c - 1, by omega⟩
      exact x_slLo (m := 1) hx hy rfl (by omega) hc (by omega) (hp (o + 1) c') (EO.tn OffO.tail (.cons ht .nil) (fun _ => by repeat constructor) fun _ _ => h (o + 1) c') hg hd
end
theorem e_cont {X : Fx} {k : List Item} {c : Item} {loc : List Value} {tmp : List (Nat × Value)} {L : List HP} {ι : Type} (loI : ι → List Value) (tmI : ι → List (Nat × Value)) (LI : ι → List HP) (PI : ι → Prop)
    (h : (∀ i, PI i → E X k (loI i) (tmI i) (LI i)) → E X (c :: k) loc tmp L) (rest : ∀ i, PI i → E X k (loI i) (tmI i) (LI i)) : E X (c :: k) loc tmp L := h rest
theorem rsE_old {n : Nat} {s : RS} {e : List UInt8 × Nat × Nat} (h : s.seen.getD e.2.1 true = true) : rsE n s e = ⟨s.q, s.seen, s.par, s.nms.set e.2.1 (s.nms.getD e.2.1 0 + 1), if e.2.2 = 2 then s.sub.set n (s.sub.getD n 0 + 1) else s.sub⟩ := by
  unfold rsE
  dsimp only
  rw [if_pos h]
  by_cases h2 : e.2.2 = 2
  · rw [if_pos h2, if_pos h2]
  · rw [if_neg h2, if_neg h2]
theorem rsE_new {n : Nat} {s : RS} {e : List UInt8 × Nat × Nat} (h : s.seen.getD e.2.1 true = false) : rsE n s e = ⟨s.q ++ [e.2.1], s.seen.set e.2.1 true, s.par.set e.2.1 n, s.nms.set e.2.1 (s.nms.getD e.2.1 0 + 1), if e.2.2 = 2 then s.sub.set n (s.sub.getD n 0 + 1) else s.sub⟩ := by
  unfold rsE
  dsimp only
  rw [if_neg (by rw [h]; simp)]
  by_cases h2 : e.2.2 = 2
  · rw [if_pos h2, if_pos h2]
  · rw [if_neg h2, if_neg h2]
theorem readTree_fn (v v' : Vs) (s' : RS) (it K : Nat) (g : Geo v) (hit : leAt v.img 4104 4 = it) (hpi : 2 ≤ v.pi) (hpi2 : v.pi ≤ 100000) (hK : K ≤ 100000) (hin : v.inos = [])
    (hrt : RTR it K v { q := [2], seen := (List.replicate (v.pi + 1) false).set 2 true, par := (List.replicate (v.pi + 1) 0).set 2 2, nms := List.replicate (v.pi + 1) 0, sub := List.replicate (v.pi + 1) 0 } v' s')
    (hroot : ∃ x, v'.inos[0]? = some x ∧ ftN x.mode = 2) (hlk : ∀ x ∈ v'.inos, x.links = if ftN x.mode = 2 then s'.sub.getD x.num 0 + 2 else s'.nms.getD x.num 0) :
    Fd Tryz.prog 51 #[ptrV v.vg, .int .u64 11] [VP v, ImgP v] (.tuple #[]) [VP v', ImgP v'] := by
  have gg := g
  obtain ⟨g1, g2, g3, g4, g5, g6⟩ := gg
  obtain ⟨m, hm⟩ : ∃ m, m = v.pi + 1 := ⟨_, rfl⟩
  rw [← hm] at hrt
  refine fn_of_E' (args := [_, _]) 17 _ [_, _, undef, undef, undef, undef, undef, undef, undef, undef, undef, undef, undef, undef, undef, undef, undef] Tryz.func51 rfl Tryz.ntmps51 ?_
  refine walk ?_
  refine y_loadC (v := .int .u64 1) (VP.cell 4 _ fun _ _ _ _ => rfl) ?_
  refine walk ?_
  refine y_loadC (v := .int .u64 (v.pi : Int)) (VP.cell 6 _ fun _ _ _ _ => rfl) ?_
  refine walk ?_
  rw [show 1 * v.pi + 1 = m by omega]
  refine y_make rfl rfl fun gS => ?_
  refine walk ?_
  refine e_cont (ι := Nat × Nat) (fun q => [ptrV v.vg, .int .u64 11, undef, undef, .slice (some ⟨gS, 0, none⟩) m m, .slice (some ⟨q.1, 0, none⟩) m m, .slice (some ⟨q.2, 0, none⟩) m m, undef, undef, undef, undef, undef, undef, undef, undef, undef, undef])
    (fun _ => []) (fun q => [Own (some ⟨q.1, 0, none⟩) m 69 1 m (List.replicate m (.int .u64 0)), Own (some ⟨q.2, 0, none⟩) m 69 1 m (List.replicate m (.int .u64 0)), Own (some ⟨gS, 0, none⟩) m 4 1 m (List.replicate m (.bool false)), VP v, ImgP v]) (fun _ => True) (fun rest => ?_) ?_
  · refine e_pair ?_
    refine walk ?_
    refine x_two ?_ ?_
    · refine walk ?_
      refine y_make rfl rfl fun g1 => ?_
      refine walk ?_
      refine y_make rfl rfl fun g2 => ?_
      refine walkO ?_
      refine x_end ?_
      exact (rest (g1, g2) trivial).toP rfl (by repeat constructor) (.cons (.there .here) (.cons .here (.cons .here (.cons .here (.cons .here .nil)))))
    · refine walk ?_
      refine y_make rfl rfl fun g1 => ?_
      refine walk ?_
      refine y_make rfl rfl fun g2 => ?_
      refine walkO ?_
      refine x_end ?_
      exact (rest (g2, g1) trivial).toP rfl (by repeat constructor) (.cons .here (.cons .here (.cons .here (.cons .here (.cons .here .nil)))))
  · rintro ⟨gP, gN⟩ _
    dsimp only
    refine walk ?_
    refine y_make rfl rfl fun gB => ?_
    refine walk ?_
    refine y_build1 rfl fun gQ => ?_
    refine walk ?_
    rw [natV_rep, boolV_rep]
    refine y_storeE (a := 2) (vs := boolV (List.replicate m false)) (u := .bool true) (by simp [boolV]; omega) ?_
    rw [boolV_set]
    refine walk ?_
    refine y_storeE (a := 2) (vs := natV (List.replicate m 0)) (u := .int .u64 (2 : Nat)) (by simp [natV]; omega) ?_
    rw [natV_set]
    refine walk ?_
    refine y_tn (OffO.of_own (g := gQ) (c := 1) (e := 69) (n := 1) (vs := [.int .u64 2])) fun _ _ => ?_
    refine e_roundsT (ι := Nat × Vs × RS × (Nat × Nat × Nat) × (Value × Value × Value × Value)) (fun q => q.1)
      (fun q => [ptrV q.2.1.vg, .int .u64 11, undef, undef, .slice (some ⟨gS, 0, none⟩) m m, .slice (some ⟨gP, 0, none⟩) m m, .slice (some ⟨gN, 0, none⟩) m m, .slice (some ⟨gB, 0, none⟩) m m, .slice (some ⟨q.2.2.2.1.1, q.2.2.2.1.2.1, none⟩) q.2.2.1.q.length q.2.2.2.1.2.2, q.2.2.2.2.1, q.2.2.2.2.2.1, undef, q.2.2.2.2.2.2.1, q.2.2.2.2.2.2.2, undef, undef, undef])
      (fun _ => [])
      (fun q => [OffO q.2.2.2.1.1 q.2.2.2.1.2.1 q.2.2.2.1.2.2 69 q.2.2.1.q.length (natV q.2.2.1.q), Own (some ⟨gP, 0, none⟩) m 69 1 m (natV q.2.2.1.par), Own (some ⟨gS, 0, none⟩) m 4 1 m (boolV q.2.2.1.seen), Own (some ⟨gB, 0, none⟩) m 69 1 m (natV q.2.2.1.sub), Own (some ⟨gN, 0, none⟩) m 69 1 m (natV q.2.2.1.nms), VP q.2.1, ImgP q.2.1])
      (fun q => Geo q.2.1 ∧ leAt q.2.1.img 4104 4 = it ∧ q.2.1.pi + 1 = m ∧ RTR it q.1 q.2.1 q.2.2.1 v' s' ∧ RSz q.2.2.1 m ∧ RSb q.2.2.1 (q.2.1.inos.length * 200000) ∧ q.2.1.inos.length + q.1 = K ∧ (∀ x ∈ q.2.1.inos, x.num ≤ q.2.1.pi ∧ x.mode < 65536))
      (K, v, _, (gQ, 0, 1), (undef, undef, undef, undef)) ⟨g, hit, by dsimp only; omega, hrt, ⟨by simp, by simp, by simp, by simp⟩, ⟨by intro i; simp [List.getD_eq_getElem?_getD, List.getElem?_replicate]; split <;> simp, by intro i; simp [List.getD_eq_getElem?_getD, List.getElem?_replicate]; split <;> simp⟩, by simp [hin], by simp [hin]⟩ rfl (by repeat constructor)
      (.cons .here (.cons .here (.cons .here (.cons .here (.cons .here (.cons .here (.cons .here .nil))))))) ?_
    clear hrt hin g1 g2 g3 g4 g5 g6 g hit
    rintro ⟨k, w, s, ⟨gq, o, c⟩, w9, w10, w12, w13⟩ ⟨hg, hit, hwm, hrt, hsz, hsb, hlen, hnum⟩ again
    dsimp only at hg hit hwm hrt hsz hsb hlen hnum again ⊢
    have hql := hrt.qlen
    have hgg := hg
    obtain ⟨g1, g2, g3, g4, g5, g6⟩ := hgg
    cases hrt with
    | done hq =>
      rw [hq]
      refine walk ?_
      refine y_tno5 VP.op fun AI cI gO cO rs hrs => ?_
      dsimp only
      obtain ⟨x0, hx0, hft0⟩ := hroot
      have hil := (List.getElem?_eq_some_iff.1 hx0).1
      obtain ⟨a0, ha0⟩ : ∃ a0, rs[0]? = some a0 := ⟨_, List.getElem?_eq_getElem (by omega)⟩
      have hi0 := inC_get v'.inos rs 0 x0 a0 hx0 ha0
      have hi1 : (inC v'.inos rs)[1]? = some (.int .u16 (x0.mode : Int)) := by
        have h1 : ((inC v'.inos rs).take 23)[1]? = some (.int .u16 (x0.mode : Int)) := by
          rw [show (inC v'.inos rs).take 23 = riC x0 a0 by simpa using hi0]; rfl
        rwa [List.getElem?_take_of_lt (by omega)] at h1
      have hm0 := hnum x0 (List.mem_of_getElem? hx0)
      have hk0 := kindOf_fn x0.mode hm0.2
      rw [hft0] at hk0
      refine EO.know (A := Own AI cI 74 23 v'.inos.length (inC v'.inos rs)) take_ (fun _ _ => Own.know) fun hk => ?_
      obtain ⟨k1, k2, k3, k4⟩ := hk
      cases AI with
      | none => have := k3 rfl; omega
      | some ad =>
      obtain ⟨gA, rfl⟩ := k4 ad rfl
      refine walk ?_
      refine y_loadO 1 hi1 ?_
      refine walk ?_
      refine y_callq rfl rfl hk0 ?_
      refine walk ?_
      refine y_callq rfl rfl (must_fn (ptrV v'.vg) _ 2) ?_
      refine walk ?_
      refine e_roundsT (ι := Nat × Value × Value) (fun z => v'.inos.length - z.1)
        (fun z => [ptrV v'.vg, .int .u64 11, undef, undef, .slice (some ⟨gS, 0, none⟩) m m, .slice (some ⟨gP, 0, none⟩) m m, .slice (some ⟨gN, 0, none⟩) m m, .slice (some ⟨gB, 0, none⟩) m m, .slice (some ⟨gq, o, none⟩) ([] : List Nat).length c, w9, w10, undef, w12, w13, undef, z.2.1, z.2.2])
        (fun z => [(191, .int .i64 (z.1 : Nat)), (190, .int .i64 (v'.inos.length : Nat)), (189, .slice (some ⟨gA, 0, none⟩) v'.inos.length cI)])
        (fun z => [Cells v'.vg 71 (vsC v' (some ⟨gA, 0, none⟩) cI gO cO), Own (some ⟨gA, 0, none⟩) cI 74 23 v'.inos.length (inC v'.inos rs), Own (some ⟨gO, 0, none⟩) cO 5 1 v'.nb (enc (ownB v'.nb v'.cl)), HP.star (inP v'.inos rs), Own (some ⟨gB, 0, none⟩) m 69 1 m (natV s'.sub), Own (some ⟨gN, 0, none⟩) m 69 1 m (natV s'.nms), ImgP v'])
        (fun z => z.1 ≤ v'.inos.length) (0, undef, undef) (Nat.zero_le _) rfl (by repeat constructor) sub_ ?_
      rintro ⟨i, w15, w16⟩ hi again2
      dsimp only at hi again2 ⊢
      by_cases hlt : i < v'.inos.length
      · obtain ⟨y, hy⟩ : ∃ y, v'.inos[i]? = some y := ⟨_, List.getElem?_eq_getElem hlt⟩
        obtain ⟨a, ha⟩ : ∃ a, rs[i]? = some a := ⟨_, List.getElem?_eq_getElem (by omega)⟩
        have hlky := hlk y (List.mem_of_getElem? hy)
        obtain ⟨hyn, hym⟩ := hnum y (List.mem_of_getElem? hy)
        have hky := kindOf_fn y.mode hym
        have hsz' := hsz
        have hsb' := hsb
        obtain ⟨z1, z2, z3, z4⟩ := hsz'
        obtain ⟨b1, b2⟩ := hsb'
        have hb2 := b2 y.num
        refine walk ?_
        refine y_loadS (vs := inC v'.inos rs) (us := riC y a) (i * 23) (inC_get _ _ i y a hy ha) ?_
        refine walk ?_
        refine y_alloc fun g15 => ?_
        refine walk ?_
        refine y_loadO y.num (natV_get (getD_some z3 (by omega))) ?_
        refine walk ?_
        refine y_callq rfl rfl hky ?_
        refine walk ?_
        refine e_cont (ι := Unit) (fun _ => [ptrV v'.vg, .int .u64 11, undef, undef, .slice (some ⟨gS, 0, none⟩) m m, .slice (some ⟨gP, 0, none⟩) m m, .slice (some ⟨gN, 0, none⟩) m m, .slice (some ⟨gB, 0, none⟩) m m, .slice (some ⟨gq, o, none⟩) ([] : List Nat).length c, w9, w10, undef, w12, w13, undef, ptrV g15, .int .u64 (y.links : Int)])
          (fun _ => [(191, .int .i64 (i : Nat)), (190, .int .i64 (v'.inos.length : Nat)), (189, .slice (some ⟨gA, 0, none⟩) v'.inos.length cI)])
          (fun _ => [Cells g15 74 (riC y a), Cells v'.vg 71 (vsC v' (some ⟨gA, 0, none⟩) cI gO cO), Own (some ⟨gA, 0, none⟩) cI 74 23 v'.inos.length (inC v'.inos rs), Own (some ⟨gO, 0, none⟩) cO 5 1 v'.nb (enc (ownB v'.nb v'.cl)), HP.star (inP v'.inos rs), Own (some ⟨gB, 0, none⟩) m 69 1 m (natV s'.sub), Own (some ⟨gN, 0, none⟩) m 69 1 m (natV s'.nms), ImgP v']) (fun _ => True) (fun rest => ?_) ?_
        · refine e_cond rfl (fun ht => ?_) (fun hf => ?_)
          · have h2 : ftN y.mode = 2 := by have := eq_of_beq ht; omega
            rw [if_pos h2] at hlky
            refine walk ?_
            refine y_loadO y.num (natV_get (getD_some z4 (by omega))) ?_
            refine walkO ?_
            refine x_end ?_
            rw [← hlky]
            exact (rest () trivial).toP (ks := [191, 190, 189]) rfl (by repeat constructor) sub_
          · have h2 : ftN y.mode ≠ 2 := by
              intro h2
              rw [h2] at hf
              exact absurd hf (by decide)
            rw [if_neg h2] at hlky
            refine e_skip ?_
            rw [← hlky]
            exact (rest () trivial).toP (ks := [191, 190, 189]) rfl (by repeat constructor) sub_
        · rintro _ _
          refine walk ?_
          refine y_callq rfl rfl (must_fn (ptrV v'.vg) _ y.num) ?_
          refine walk ?_
          have ag := again2 (i + 1, ptrV g15, .int .u64 (y.links : Int)) (by dsimp only; omega) (by dsimp only; omega)
          dsimp only at ag
          exact ag.toP (ks := [191, 190, 189]) rfl (by repeat constructor) sub_
      · refine walk ?_
        refine y_tn (VP.cl_ v' hrs) fun _ _ => ?_
        exact y_end [] rfl ⟨rfl, rfl⟩
    | @file k _ _ _ _ x q cl' hq hI hmd hft hen hxn hr =>
      obtain ⟨sq, ss, sp, sn, sb⟩ := s
      dsimp only at hq hsz hsb hql ⊢
      subst hq
      rw [show natV (x.num :: q) = .int .u64 (x.num : Int) :: natV q from rfl, List.length_cons]
      refine walk ?_
      refine y_loadR (a := 0) (vs := .int .u64 (x.num : Int) :: natV q) (G := OffO gq o c 69 (q.length + 1) (.int .u64 (x.num : Int) :: natV q)) OffO.cells rfl ?_
      refine walk ?_
      refine y_cutQ rfl rfl fun o' c' => ?_
      refine walk ?_
      refine y_callE rfl rfl hI fun i _ => ?_
      refine walk ?_
      refine y_alloc fun gx => ?_
      refine walk ?_
      have hkf := kindOf_fn x.mode hmd
      generalize ftN x.mode = ft at hft hkf
      refine y_callq rfl rfl hkf ?_
      refine walk ?_
      refine y_tno5 VP.op fun AI cI gO cO rs hrs => ?_
      dsimp only
      refine walk ?_
      refine y_build (vs := [.agg (rC x (.slice i.1 x.data.length i.2) (.slice none 0 0) x.il x.blks).toArray]) (cs := rC x (.slice i.1 x.data.length i.2) (.slice none 0 0) x.il x.blks) rfl (fill_one (n := 23) [.int .u64 0, .int .u16 0, .int .u32 0, .int .u32 0, .int .u64 0, .int .u64 0, .int .u64 0, .int .u64 0, .int .i64 0, .int .i64 0, .int .i64 0, .int .i64 0, .int .i64 0, .int .i64 0, .int .i64 0, .int .i64 0, .int .u32 0, .int .u32 0, .slice none 0 0, .slice none 0 0, .slice none 0 0, .bool false, .int .u64 0] _ rfl rfl (by omega)) rfl fun gs => ?_
      refine walk ?_
      refine x_app (vs := inC w.inos rs) (news := rC x (.slice i.1 x.data.length i.2) (.slice none 0 0) x.il x.blks) rfl rfl take_ (by exact ⟨rfl, .inr ⟨_, _, rfl, (by first | ((repeat (first | exact CellRow.own | exact CellRow.here | apply CellRow.there)) <;> fail) | fail)⟩⟩) (fun h => by cases h) (by simp [Value.oneCell']) (by rfl) (by omega) (by simp only [maxLen]; omega) (by dsimp only; omega) (fun A5 c5 => ⟨_, _, pt_, ?_⟩)
      refine walk ?_
      refine E.nilOwn (e := 80) (sz := 3) ?_
      have hP : Tn [Own i.1 i.2 5 1 x.data.length (enc x.data), Own none 0 80 3 0 [], HP.star (inP w.inos rs)] (fun _ : Unit => True) (fun _ => [HP.star (inP (w.inos ++ [x]) (rs ++ [⟨i.1, i.2, none, 0⟩]))]) := by
        have hP := inP_add w.inos rs x ⟨i.1, i.2, none, 0⟩ hrs
        rw [hen] at hP
        exact hP
      refine y_tn hP fun _ _ => ?_
      rw [show rC x (.slice i.1 x.data.length i.2) (.slice none 0 0) x.il x.blks = riC x ⟨i.1, i.2, none, 0⟩ from by simp only [rC, riC, hen, List.length_nil], ← inC_app _ _ _ _ hrs]
      rw [show ({ w with cl := cl' } : Vs).inos.length + 1 = (w.inos ++ [x]).length from by simp]
      refine y_tn (VP.cl_ { w with cl := cl', inos := w.inos ++ [x] } (AI := A5) (cI := c5) (gO := gO) (cO := cO) (rs := rs ++ [⟨i.1, i.2, none, 0⟩]) (by simp [hrs])) fun _ _ => ?_
      have ag := again (k, { w with cl := cl', inos := w.inos ++ [x] }, ⟨q, ss, sp, sn, sb⟩, (gq, o', c'), (.int .u64 (x.num : Nat), ptrV gx, w12, w13)) (by dsimp only; omega) ⟨hg.with_ _ _, hit, hwm, hr, ⟨hsz.1, hsz.2, hsz.3, hsz.4⟩, RSb.mono ⟨hsb.1, hsb.2⟩ (by simp; omega), by simp; omega, by
        intro y hy
        rcases List.mem_append.1 hy with hy | hy
        · exact hnum y hy
        · rw [List.mem_singleton.1 hy]; exact ⟨hxn, hmd⟩⟩
      dsimp only at ag
      exact ag.toP rfl (by repeat constructor) sub_
    | @dir k _ _ _ _ x q cl' par es hq hI hmd hft hil hxn hpar hp4 hen hdb h0 h1 h2 hnd hsl hok hr =>
      obtain ⟨sq, ss, sp, sn, sb⟩ := s
      dsimp only at hq hsz hsb hql hpar hok hr ⊢
      subst hq
      rw [hen] at hdb hnd
      rw [show natV (x.num :: q) = .int .u64 (x.num : Int) :: natV q from rfl, List.length_cons]
      refine walk ?_
      refine y_loadR (a := 0) (vs := .int .u64 (x.num : Int) :: natV q) (G := OffO gq o c 69 (q.length + 1) (.int .u64 (x.num : Int) :: natV q)) OffO.cells rfl ?_
      refine walk ?_
      refine y_cutQ rfl rfl fun o' c' => ?_
      refine walk ?_
      refine y_callE rfl rfl hI fun i _ => ?_
      refine walk ?_
      refine y_alloc fun gx => ?_
      refine walk ?_
      have hkf := kindOf_fn x.mode hmd
      rw [hft] at hkf
      refine y_callq rfl rfl hkf ?_
      refine walk ?_
      refine y_loadO x.num (natV_get hpar) ?_
      refine EO.know (A := Own i.1 i.2 5 1 x.data.length (enc x.data)) take_ (fun _ _ => Own.know) fun hk => ?_
      obtain ⟨k1, k2, k3, k4⟩ := hk
      obtain ⟨A1, cA⟩ := i
      dsimp only at k1 k2 k3 k4 ⊢
      cases A1 with
      | none => have := k3 rfl; omega
      | some ad =>
      obtain ⟨gC, rfl⟩ := k4 ad rfl
      rw [hil]
      refine walk ?_
      refine y_callE rfl rfl (entries_fn w.vg gx par gC cA x.data es x x.blks hdb k2 h0 h1 h2 hnd hsl (by omega) hp4) fun i2 _ => ?_
      refine walk ?_
      obtain ⟨A2, c2⟩ := i2
      dsimp only
      refine E.know (A := Own A2 c2 80 3 (es.length + 2) (entC (([46], x.num, 2) :: ([46, 46], par, 2) :: es))) take_ (fun _ _ => Own.know) fun hk => ?_
      obtain ⟨k5, k6, k7, k8⟩ := hk
      cases A2 with
      | none => have := k7 rfl; omega
      | some ad =>
      obtain ⟨ge, rfl⟩ := k8 ad rfl
      obtain ⟨ee, hee⟩ : ∃ ee, ee = ([46], x.num, 2) :: ([46, 46], par, 2) :: es := ⟨_, rfl⟩
      rw [← hee]
      have hel : ee.length = es.length + 2 := by rw [hee]; rfl
      refine e_roundsT (ι := Nat × RS × (Nat × Nat × Nat) × (Value × Value)) (fun z => es.length + 2 - z.1)
        (fun z => [ptrV w.vg, .int .u64 11, undef, undef, .slice (some ⟨gS, 0, none⟩) m m, .slice (some ⟨gP, 0, none⟩) m m, .slice (some ⟨gN, 0, none⟩) m m, .slice (some ⟨gB, 0, none⟩) m m, .slice (some ⟨z.2.2.1.1, z.2.2.1.2.1, none⟩) z.2.1.q.length z.2.2.1.2.2, .int .u64 (x.num : Int), ptrV gx, undef, z.2.2.2.1, z.2.2.2.2, undef, undef, undef])
        (fun z => [(71, .int .i64 (z.1 : Nat)), (70, .int .i64 (es.length + 2 : Nat)), (69, .slice (some ⟨ge, 0, none⟩) (es.length + 2) c2)])
        (fun z => [OffO z.2.2.1.1 z.2.2.1.2.1 z.2.2.1.2.2 69 z.2.1.q.length (natV z.2.1.q), Own (some ⟨gP, 0, none⟩) m 69 1 m (natV z.2.1.par), Own (some ⟨gS, 0, none⟩) m 4 1 m (boolV z.2.1.seen), Own (some ⟨gB, 0, none⟩) m 69 1 m (natV z.2.1.sub), Own (some ⟨gN, 0, none⟩) m 69 1 m (natV z.2.1.nms), VP { w with cl := cl' }, ImgP w,
          Own (some ⟨gC, 0, none⟩) cA 5 1 x.data.length (enc x.data), Cells gx 74 (rC x (.slice (some ⟨gC, 0, none⟩) x.data.length cA) (.slice (some ⟨ge, 0, none⟩) (es.length + 2) c2) false x.blks), Own (some ⟨ge, 0, none⟩) c2 80 3 (es.length + 2) (entC ee)])
        (fun z => z.1 ≤ es.length + 2 ∧ rsOk w.img it w.pi x.num z.2.1 (es.drop (z.1 - 2)) ∧ (es.drop (z.1 - 2)).foldl (rsE x.num) z.2.1 = es.foldl (rsE x.num) ⟨q, ss, sp, sn, sb⟩ ∧ RSz z.2.1 m ∧ RSb z.2.1 (w.inos.length * 200000 + z.1))
        (0, ⟨q, ss, sp, sn, sb⟩, (gq, o', c'), (w12, w13)) ⟨Nat.zero_le _, (by simpa using hok), (by simp), ⟨hsz.1, hsz.2, hsz.3, hsz.4⟩, RSb.mono ⟨hsb.1, hsb.2⟩ (Nat.le_add_right _ _)⟩ rfl (by repeat constructor) sub_ ?_
      rintro ⟨i, s, ⟨gq, o, c⟩, w12, w13⟩ ⟨hi, hok, hfo, hsz, hsb⟩ again2
      dsimp only at hi hok hfo hsz hsb again2 ⊢
      by_cases hlt : i < es.length + 2
      · obtain ⟨e, he⟩ : ∃ e, ee[i]? = some e := ⟨_, List.getElem?_eq_getElem (by omega)⟩
        refine walk ?_
        refine y_loadS (vs := entC ee) (us := [.string (str e.1), .int .u64 (e.2.1 : Int), .int .u64 (e.2.2 : Int)]) (i * 3) (entC_get ee i e he) ?_
        refine walk ?_
        refine y_alloc fun g12 => ?_
        by_cases hi2 : i < 2
        · have he2 : e.1 = [46] ∨ e.1 = [46, 46] := by
            rw [hee] at he
            rcases (show i = 0 ∨ i = 1 by omega) with rfl | rfl
            · left; simp at he; rw [← he]
            · right; simp at he; rw [← he]
          have ag := again2 (i + 1, s, (gq, o, c), (ptrV g12, w13)) (by dsimp only; omega) ⟨by dsimp only; omega, by dsimp only; rw [show i + 1 - 2 = i - 2 by omega]; exact hok, by dsimp only; rw [show i + 1 - 2 = i - 2 by omega]; exact hfo, hsz, RSb.mono hsb (by dsimp only; omega)⟩
          dsimp only at ag
          rcases he2 with he2 | he2
          · rw [he2]
            refine walk ?_
            exact ag.toP (ks := [71, 70, 69]) rfl (by repeat constructor) sub_
          · rw [he2]
            refine walk ?_
            exact ag.toP (ks := [71, 70, 69]) rfl (by repeat constructor) sub_
        · have hi3 : es[i - 2]? = some e := by
            rw [hee] at he
            obtain ⟨j, rfl⟩ : ∃ j, i = j + 2 := ⟨i - 2, by omega⟩
            simpa using he
          have hdrop : es.drop (i - 2) = e :: es.drop (i + 1 - 2) := by
            obtain ⟨h1, h2⟩ := List.getElem?_eq_some_iff.1 hi3
            rw [show i + 1 - 2 = (i - 2) + 1 by omega, List.drop_eq_getElem_cons h1, h2]
          rw [hdrop] at hok hfo
          obtain ⟨⟨f1, f2, f3, f4, f5, f6, f7⟩, hok⟩ := hok
          rw [List.foldl_cons] at hfo
          have n1 : (e.1 == [46]) = false := by simpa using f1
          have n2 : (e.1 == [46, 46]) = false := by simpa using f2
          have hsz' := hsz
          have hsb' := hsb
          obtain ⟨z1, z2, z3, z4⟩ := hsz'
          obtain ⟨b1, b2⟩ := hsb'
          have hb1 := b1 e.2.1
          have hb2 := b2 x.num
          have hwl : w.inos.length ≤ K := by omega
          refine walk ?_
          rw [n1]
          refine walk ?_
          rw [n2]
          refine walk ?_
          have hraw := raw_fn { w with cl := cl' } (hg.with_ cl' w.inos) it e.2.1 (by omega) f4 hit f5
          refine y_callq rfl rfl hraw ?_
          refine walk ?_
          have hle := le_fn w.ig (it * 4096 + (e.2.1 - 1) * 256) 256 (w.ic - (it * 4096 + (e.2.1 - 1) * 256)) 0 2 ((w.img.drop (it * 4096 + (e.2.1 - 1) * 256)).take 256) (ImgP w) (ImgP.row w _ 256) (by simp; omega) (by omega) (by omega) (by omega)
          rw [leAt_take _ (by omega), leAt_drop, Nat.add_zero] at hle
          have hlt2 := leAt_lt' w.img (it * 4096 + (e.2.1 - 1) * 256) 2 65536 (by decide)
          have hkd := kindOf_fn (leAt w.img (it * 4096 + (e.2.1 - 1) * 256) 2) hlt2
          rw [f6] at hkd
          refine y_callq rfl rfl hle ?_
          refine walk ?_
          refine y_callq rfl rfl hkd ?_
          refine walk ?_
          refine y_callq rfl rfl (must_fn (ptrV w.vg) _ e.2.1) ?_
          refine walk ?_
          refine y_loadO e.2.1 (natV_get (getD_some z3 (by omega))) ?_
          refine walk ?_
          refine y_storeE (a := e.2.1) (vs := natV s.nms) (u := .int .u64 ((s.nms.getD e.2.1 0 + 1 : Nat) : Int)) (by rw [natV_len, z3]; omega) ?_
          rw [natV_set]
          refine walk ?_
          obtain ⟨sub', hsub'⟩ : ∃ sub', sub' = if e.2.2 = 2 then s.sub.set x.num (s.sub.getD x.num 0 + 1) else s.sub := ⟨_, rfl⟩
          refine e_cont (ι := Unit) (fun _ => [ptrV w.vg, .int .u64 11, undef, undef, .slice (some ⟨gS, 0, none⟩) m m, .slice (some ⟨gP, 0, none⟩) m m, .slice (some ⟨gN, 0, none⟩) m m, .slice (some ⟨gB, 0, none⟩) m m, .slice (some ⟨gq, o, none⟩) s.q.length c, .int .u64 (x.num : Int), ptrV gx, undef, ptrV g12, .int .u64 (e.2.2 : Int), undef, undef, undef])
            (fun _ => [(71, .int .i64 (i : Nat)), (70, .int .i64 (es.length + 2 : Nat)), (69, .slice (some ⟨ge, 0, none⟩) (es.length + 2) c2)])
            (fun _ => [Own (some ⟨gB, 0, none⟩) m 69 1 m (natV sub'), Own (some ⟨gN, 0, none⟩) m 69 1 m (natV (s.nms.set e.2.1 (s.nms.getD e.2.1 0 + 1))), Cells g12 80 [.string (str e.1), .int .u64 (e.2.1 : Int), .int .u64 (e.2.2 : Int)], OffO gq o c 69 s.q.length (natV s.q), Own (some ⟨gP, 0, none⟩) m 69 1 m (natV s.par), Own (some ⟨gS, 0, none⟩) m 4 1 m (boolV s.seen), VP { w with cl := cl' }, ImgP w,
              Own (some ⟨gC, 0, none⟩) cA 5 1 x.data.length (enc x.data), Cells gx 74 (rC x (.slice (some ⟨gC, 0, none⟩) x.data.length cA) (.slice (some ⟨ge, 0, none⟩) (es.length + 2) c2) false x.blks), Own (some ⟨ge, 0, none⟩) c2 80 3 (es.length + 2) (entC ee)]) (fun _ => True) (fun rest => ?_) ?_
          · refine e_cond rfl (fun ht => ?_) (fun hf => ?_)
            · have h2 : e.2.2 = 2 := by have := eq_of_beq ht; omega
              rw [if_pos h2] at hsub'
              subst hsub'
              refine e_seq ?_
              refine walk ?_
              refine y_loadO x.num (natV_get (getD_some z4 (by omega))) ?_
              refine walk ?_
              refine y_storeE (a := x.num) (vs := natV s.sub) (u := .int .u64 ((s.sub.getD x.num 0 + 1 : Nat) : Int)) (by rw [natV_len, z4]; omega) ?_
              rw [natV_set]
              refine walk ?_
              refine y_loadO e.2.1 (boolV_get (getD_someB z1 (by omega))) ?_
              rw [f7 h2]
              refine walk ?_
              refine y_callq rfl rfl (must_fn (ptrV w.vg) _ e.2.1) ?_
              refine walkO ?_
              refine x_end ?_
              exact (rest () trivial).toP (ks := [71, 70, 69]) rfl (by repeat constructor) sub_
            · have h2 : e.2.2 ≠ 2 := by
                intro h2
                rw [h2] at hf
                exact absurd hf (by decide)
              rw [if_neg h2] at hsub'
              subst hsub'
              refine e_skip ?_
              exact (rest () trivial).toP (ks := [71, 70, 69]) rfl (by repeat constructor) sub_
          · rintro _ _
            have ag0 := fun (s2 : RS) (hs2 : s2 = rsE x.num s e) (q2 : Nat × Nat × Nat) => again2 (i + 1, s2, q2, (ptrV g12, .int .u64 (e.2.2 : Int))) (by dsimp only; omega) (by subst hs2; exact ⟨by dsimp only; omega, hok, hfo, hsz.step e, RSb.mono (hsb.step e) (by dsimp only; omega)⟩)
            cases hse : s.seen.getD e.2.1 true with
            | true =>
              have hrs := rsE_old (n := x.num) hse
              rw [← hsub'] at hrs
              have ag := ag0 _ hrs.symm (gq, o, c)
              dsimp only at ag
              refine walk ?_
              refine y_loadO e.2.1 (boolV_get (getD_someB z1 (by omega))) ?_
              rw [hse]
              refine walk ?_
              exact ag.toP (ks := [71, 70, 69]) rfl (by repeat constructor) sub_
            | false =>
              have hrs := rsE_new (n := x.num) hse
              rw [← hsub'] at hrs
              have ag := fun q2 => ag0 _ hrs.symm q2
              dsimp only at ag
              refine walk ?_
              refine y_loadO e.2.1 (boolV_get (getD_someB z1 (by omega))) ?_
              rw [hse]
              refine walk ?_
              refine e_cont (ι := Unit) (fun _ => [ptrV w.vg, .int .u64 11, undef, undef, .slice (some ⟨gS, 0, none⟩) m m, .slice (some ⟨gP, 0, none⟩) m m, .slice (some ⟨gN, 0, none⟩) m m, .slice (some ⟨gB, 0, none⟩) m m, .slice (some ⟨gq, o, none⟩) s.q.length c, .int .u64 (x.num : Int), ptrV gx, undef, ptrV g12, .int .u64 (e.2.2 : Int), undef, undef, undef])
                (fun _ => [(71, .int .i64 (i : Nat)), (70, .int .i64 (es.length + 2 : Nat)), (69, .slice (some ⟨ge, 0, none⟩) (es.length + 2) c2)])
                (fun _ => [Own (some ⟨gB, 0, none⟩) m 69 1 m (natV sub'), Own (some ⟨gN, 0, none⟩) m 69 1 m (natV (s.nms.set e.2.1 (s.nms.getD e.2.1 0 + 1))), Cells g12 80 [.string (str e.1), .int .u64 (e.2.1 : Int), .int .u64 (e.2.2 : Int)], OffO gq o c 69 s.q.length (natV s.q), Own (some ⟨gP, 0, none⟩) m 69 1 m (natV (s.par.set e.2.1 x.num)), Own (some ⟨gS, 0, none⟩) m 4 1 m (boolV (s.seen.set e.2.1 true)), VP { w with cl := cl' }, ImgP w,
                  Own (some ⟨gC, 0, none⟩) cA 5 1 x.data.length (enc x.data), Cells gx 74 (rC x (.slice (some ⟨gC, 0, none⟩) x.data.length cA) (.slice (some ⟨ge, 0, none⟩) (es.length + 2) c2) false x.blks), Own (some ⟨ge, 0, none⟩) c2 80 3 (es.length + 2) (entC ee)]) (fun _ => True) (fun rest => ?_) ?_
              · refine e_pairK ?_ (by first | ((repeat (first | exact KeepR.nil | apply KeepR.yes rfl | apply KeepR.no rfl)) <;> fail) | fail)
                refine walkO ?_
                refine x_two ?_ ?_
                · refine walk ?_
                  refine y_storeE (a := e.2.1) (vs := boolV s.seen) (u := .bool true) (by rw [boolV_len, z1]; omega) ?_
                  rw [boolV_set]
                  refine walk ?_
                  refine y_storeE (a := e.2.1) (vs := natV s.par) (u := .int .u64 (x.num : Int)) (by rw [natV_len, z2]; omega) ?_
                  rw [natV_set]
                  refine walkO ?_
                  refine x_end ?_
                  exact (rest () trivial).toP (ks := [71, 70, 69]) rfl (by repeat constructor) sub_
                · refine walk ?_
                  refine y_storeE (a := e.2.1) (vs := boolV s.seen) (u := .bool true) (by rw [boolV_len, z1]; omega) ?_
                  rw [boolV_set]
                  refine walk ?_
                  refine y_storeE (a := e.2.1) (vs := natV s.par) (u := .int .u64 (x.num : Int)) (by rw [natV_len, z2]; omega) ?_
                  rw [natV_set]
                  refine walkO ?_
                  refine x_end ?_
                  exact (rest () trivial).toP (ks := [71, 70, 69]) rfl (by repeat constructor) sub_
              · rintro _ _
                have hqb : s.q.length ≤ k := by
                  have h1 := rsE_q x.num s e
                  have h2 := rsE_fold_q x.num (es.drop (i + 1 - 2)) (rsE x.num s e)
                  rw [hfo] at h2
                  have h3 := hr.qlen
                  omega
                refine walk ?_
                refine y_build1 rfl fun gq2 => ?_
                refine walk ?_
                refine y_appQ (u := .int .u64 (e.2.1 : Int)) rfl rfl rfl fun g' o' c' => ?_
                refine walk ?_
                rw [show natV s.q ++ [.int .u64 (e.2.1 : Int)] = natV (s.q ++ [e.2.1]) from by simp [natV], show s.q.length + 1 = (s.q ++ [e.2.1]).length from by simp]
                exact (ag (g', o', c')).toP (ks := [71, 70, 69]) rfl (by repeat constructor) sub_
      · have hie : i = es.length + 2 := by omega
        rw [show i - 2 = es.length by omega, List.drop_length] at hfo
        rw [List.foldl_nil] at hfo
        refine walk ?_
        refine y_tno5 VP.op fun AI cI gO cO rs hrs => ?_
        dsimp only
        refine walk ?_
        refine y_build (vs := [.agg (rC x (.slice (some ⟨gC, 0, none⟩) x.data.length cA) (.slice (some ⟨ge, 0, none⟩) (es.length + 2) c2) false x.blks).toArray]) (cs := rC x (.slice (some ⟨gC, 0, none⟩) x.data.length cA) (.slice (some ⟨ge, 0, none⟩) (es.length + 2) c2) false x.blks) rfl (fill_one (n := 23) [.int .u64 0, .int .u16 0, .int .u32 0, .int .u32 0, .int .u64 0, .int .u64 0, .int .u64 0, .int .u64 0, .int .i64 0, .int .i64 0, .int .i64 0, .int .i64 0, .int .i64 0, .int .i64 0, .int .i64 0, .int .i64 0, .int .u32 0, .int .u32 0, .slice none 0 0, .slice none 0 0, .slice none 0 0, .bool false, .int .u64 0] _ rfl rfl (by omega)) rfl fun gs => ?_
        refine walk ?_
        refine x_app (vs := inC w.inos rs) (news := rC x (.slice (some ⟨gC, 0, none⟩) x.data.length cA) (.slice (some ⟨ge, 0, none⟩) (es.length + 2) c2) false x.blks) rfl rfl take_ (by exact ⟨rfl, .inr ⟨_, _, rfl, (by first | ((repeat (first | exact CellRow.own | exact CellRow.here | apply CellRow.there)) <;> fail) | fail)⟩⟩) (fun h => by cases h) (by simp [Value.oneCell']) (by rfl) (by omega) (by simp only [maxLen]; omega) (by dsimp only; omega) (fun A5 c5 => ⟨_, _, pt_, ?_⟩)
        refine walk ?_
        have hel2 : x.ents.length = es.length + 2 := by rw [hen]; rfl
        have hP : Tn [Own (some ⟨gC, 0, none⟩) cA 5 1 x.data.length (enc x.data), Own (some ⟨ge, 0, none⟩) c2 80 3 (es.length + 2) (entC ee), HP.star (inP w.inos rs)] (fun _ : Unit => True) (fun _ => [HP.star (inP (w.inos ++ [x]) (rs ++ [⟨some ⟨gC, 0, none⟩, cA, some ⟨ge, 0, none⟩, c2⟩]))]) := by
          have hP := inP_add w.inos rs x ⟨some ⟨gC, 0, none⟩, cA, some ⟨ge, 0, none⟩, c2⟩ hrs
          rw [hel2, hen, ← hee] at hP
          exact hP
        refine y_tn hP fun _ _ => ?_
        rw [show rC x (.slice (some ⟨gC, 0, none⟩) x.data.length cA) (.slice (some ⟨ge, 0, none⟩) (es.length + 2) c2) false x.blks = riC x ⟨some ⟨gC, 0, none⟩, cA, some ⟨ge, 0, none⟩, c2⟩ from by simp only [rC, riC, hel2, hil], ← inC_app _ _ _ _ hrs]
        rw [show ({ w with cl := cl' } : Vs).inos.length + 1 = (w.inos ++ [x]).length from by simp]
        refine y_tn (VP.cl_ { w with cl := cl', inos := w.inos ++ [x] } (AI := A5) (cI := c5) (gO := gO) (cO := cO) (rs := rs ++ [⟨some ⟨gC, 0, none⟩, cA, some ⟨ge, 0, none⟩, c2⟩]) (by simp [hrs])) fun _ _ => ?_
        have ag := again (k, { w with cl := cl', inos := w.inos ++ [x] }, s, (gq, o, c), (.int .u64 (x.num : Nat), ptrV gx, w12, w13)) (by dsimp only; omega) ⟨hg.with_ _ _, hit, hwm, by dsimp only; rw [hfo]; exact hr, hsz, RSb.mono hsb (by simp; omega), by simp; omega, by
          intro y hy
          rcases List.mem_append.1 hy with hy | hy
          · exact hnum y hy
          · rw [List.mem_singleton.1 hy]; exact ⟨hxn, hmd⟩⟩
        dsimp only at ag
        exact ag.toP rfl (by repeat constructor) sub_
end Go.Proofs.YtppkiiomedembaaGreatDoor
namespace Go.Proofs.YtppkiiomedembaaGreatDoor
open Go
set_option maxRecDepth 100000
set_option maxHeartbeats 4000000
class BoolTy (P : Program) (T : Nat) : Prop where h : P.underlying T = some .bool
instance : BoolTy Tryz.prog 4 := ⟨by kernel_rfl⟩
theorem eqlB {P : Program} {t : Nat} (w : World) (hu : P.underlying t = some .bool) (a b : Bool) : (Op.equal t (.bool a) (.bool b)).run P w = .ok (a == b) w := by
  have key : ∀ d, (Op.equalIn (d + 1) t (.bool a) (.bool b)).run P w = .ok (a == b) w := fun d => by simp [Op.equalIn, run_underlying hu]
  exact key 9999
attribute [local irreducible] E EO
section
variable {X : Fx} {ops : Array Oper} {cf : Nat → Cls} {k : List Item} {i : Nat} {is : List Nat} {l : List Oper} {loc loc' : List Value} {tmp tmp' : List (Nat × Value)} {L L' F M : List HP}
  {d : Option Tmp} {ty : TypeId} {pos : String} {aft : Array Edge} {gd : Option (Nat × Bool)}
theorem x_eqB {T T' : Nat} {x y : Operand} {a b v : Bool} [BoolTy X.P T] (hv : (a == b) = v) (h : EO X ops cf k is l loc' tmp' L) (hx : sv loc tmp x = some (.bool a) := by rfl) (hy : sv loc tmp y = some (.bool b) := by rfl) (hp : Pt loc tmp d (.bool v) loc' tmp' := by exact pt_)
    (hg : gdv ops loc tmp gd = some true := by rfl) (hd : dOK X.n d = true := by rfl) : EO X ops cf k (i :: is) (⟨d, .binOp .eql T x y T', ty, pos, aft, gd⟩ :: l) loc tmp L := by
  subst hv
  exact x_pure hg (fun q hr w => by
    have hu := BoolTy.h (P := X.P) (T := T)
    simp [execOp, hr.ev hx, hr.ev hy, eqGuard, binOp, eqlB w hu]) hp hd h
end
def tabB (P : Nat → Bool) (m : Nat) : List Bool := (List.range m).map P
theorem tabB_len (P : Nat → Bool) (m : Nat) : (tabB P m).length = m := by simp [tabB]
theorem tabB_get (P : Nat → Bool) {m i : Nat} (h : i < m) : (tabB P m)[i]? = some (P i) := by simp [tabB, h]
theorem tabB_set (P Q : Nat → Bool) (m n : Nat) (h : ∀ i, i < m → Q i = (P i || decide (i = n))) : (tabB P m).set n true = tabB Q m := by
  apply List.ext_getElem?
  intro i
  by_cases hi : i < m
  · rw [tabB_get _ hi, List.getElem?_set, h i hi]
    by_cases hn : n = i
    · subst hn; simp [tabB_len, hi]
    · rw [if_neg hn, tabB_get _ hi]; simp [Ne.symm hn]
  · rw [List.getElem?_eq_none (by simp [tabB_len]; omega), List.getElem?_eq_none (by simp [tabB_len]; omega)]
theorem tabB_congr {P Q : Nat → Bool} {m : Nat} (h : ∀ i, i < m → P i = Q i) : tabB P m = tabB Q m := by
  unfold tabB
  exact List.map_congr_left fun i hi => h i (List.mem_range.1 hi)
theorem tabB_rep (m : Nat) : List.replicate m (.bool false) = boolV (tabB (fun _ => false) m) := by
  rw [boolV_rep]
  congr 1
  apply List.ext_getElem?
  intro i
  by_cases hi : i < m
  · rw [tabB_get _ hi, List.getElem?_replicate, if_pos hi]
  · rw [List.getElem?_eq_none (by simp; omega), List.getElem?_eq_none (by simp [tabB_len]; omega)]
theorem bit_fn (g o c i : Nat) (f : Nat → Bool) (M : HP) (hr : CellRow [M] g o (enc (bm f 4096))) (hi : i < 32768) :
    Qn Tryz.prog 130 #[.slice (some ⟨g, o, none⟩) 4096 c, .int .u64 (i : Int)] [M] (.bool (f i)) := by
  have hb := byteOf_lt f (i / 8)
  have hg := byteOf_get f i
  have hb2 : byteOf f (i / 8) / 2 ^ (i % 8) < 256 := Nat.lt_of_le_of_lt (Nat.div_le_self _ _) hb
  refine fn_of_E' (args := [_, _]) 5 _ [_, _, undef, undef, undef] Tryz.func130 rfl Tryz.ntmps130 ?_
  refine walk ?_
  refine y_loadR (a := i / 8) hr (bm_cell f (by omega)) ?_
  refine x_move rfl pt_ ?_
  refine x_bin rfl rfl (bRemN (by omega)) pt_ ?_
  refine x_shrN rfl rfl (by simp only [IntKind.bits]; omega) pt_ ?_
  generalize byteOf f (i / 8) / 2 ^ (i % 8) = z at hb2 hg ⊢
  refine walk ?_
  rw [hg]
  cases hf : f i with
  | true =>
    refine walk ?_
    exact y_ret [4] rfl rfl
  | false =>
    refine walk ?_
    exact y_ret [4] rfl rfl
def usedN (l : List RI) (n : Nat) : Bool := decide (1 ≤ n ∧ n < 11) || decide (n ∈ l.map (·.num))
def dirN (l : List RI) : Nat := l.countP fun x => decide (ftN x.mode = 2)
structure MarkR (v : Vs) (bb it : Nat) (fb fi : Nat → Bool) : Prop where
  hbb : leAt v.img 4096 4 = bb
  hib : leAt v.img 4100 4 = bb + 1
  hit : leAt v.img 4104 4 = it
  hb : bb + 1 < v.nb
  hfit : it * 4096 + v.pi * 256 ≤ v.img.length
  bbm : (v.img.drop (bb * 4096)).take 4096 = bm fb 4096
  ibm : (v.img.drop ((bb + 1) * 4096)).take 4096 = bm fi 4096
  fbk : ∀ i, i < 32768 → fb i = (decide (v.nb ≤ i) || decide (i ∈ v.cl))
  fik : ∀ i, i < v.pi → fi i = usedN v.inos (i + 1)
  free : ∀ m, 1 ≤ m → m ≤ v.pi → usedN v.inos m = false → leAt v.img (it * 4096 + (m - 1) * 256) 2 = 0 ∧ leAt v.img (it * 4096 + (m - 1) * 256 + 26) 2 = 0
  c12 : leAt v.img 4108 2 = cntN (fun i => !fb i) 32768
  c14 : leAt v.img 4110 2 = cntN (fun i => !fi i) v.pi
  c16 : leAt v.img 4112 2 = dirN v.inos
  s84 : leAt v.img 1108 4 = 11
  s12 : leAt v.img 1036 4 = cntN (fun i => !fb i) 32768
  s344 : leAt v.img 1368 4 = 0
  s16 : leAt v.img 1040 4 = cntN (fun i => !fi i) v.pi
  inos : ∀ x ∈ v.inos, 1 ≤ x.num ∧ x.num ≤ v.pi ∧ x.mode < 65536
  ilen : v.inos.length ≤ 100000
theorem checkMarks_fn (v : Vs) (g : Geo v) (cs bb it : Nat) (fb fi : Nat → Bool) (h : MarkR v bb it fb fi) :
    Fd Tryz.prog 52 #[ptrV v.vg, .slice (some ⟨v.ig, 1024, none⟩) 1024 cs] [VP v, ImgP v] (.tuple #[]) [VP v, ImgP v] := by
  have hg := g
  obtain ⟨g1, g2, g3, g4, g5, g6⟩ := g
  have hh := h
  obtain ⟨m1, m2, m3, m4, m5, m6, m7, m8, m9, m10, m11, m12, m13, m14, m15, m16, m17, m18, m19⟩ := hh
  have le := sble_fn v hg cs
  have le84 := le 84 4 (by omega) (by omega)
  rw [show 1024 + 84 = 1108 from rfl, m14] at le84
  have le12 := le 12 4 (by omega) (by omega)
  rw [show 1024 + 12 = 1036 from rfl, m15] at le12
  have le344 := le 344 4 (by omega) (by omega)
  rw [show 1024 + 344 = 1368 from rfl, m16] at le344
  have le16 := le 16 4 (by omega) (by omega)
  rw [show 1024 + 16 = 1040 from rfl, m17] at le16
  obtain ⟨m, hm⟩ : ∃ m, m = v.pi + 1 := ⟨_, rfl⟩
  refine fn_of_E' (args := [_, _]) 23 _ [_, _, undef, undef, undef, undef, undef, undef, undef, undef, undef, undef, undef, undef, undef, undef, undef, undef, undef, undef, undef, undef, undef] Tryz.func52 rfl Tryz.ntmps52 ?_
  refine e_seq ?_
  refine e_cont (ι := Nat × Nat) (fun q => [ptrV v.vg, .slice (some ⟨v.ig, 1024, none⟩) 1024 cs, undef, undef, .slice (some ⟨q.1, 0, none⟩) m m, .slice (some ⟨q.2, 0, none⟩) 1 1, undef, undef, undef, undef, undef, undef, undef, undef, undef, undef, undef, undef, undef, undef, undef, undef, undef])
    (fun _ => []) (fun q => [Own (some ⟨q.1, 0, none⟩) m 4 1 m (List.replicate m (.bool false)), Own (some ⟨q.2, 0, none⟩) 1 69 1 1 (List.replicate 1 (.int .u64 0)), VP v, ImgP v]) (fun _ => True) (fun rest => ?_) ?_
  · refine e_pair ?_
    refine walk ?_
    refine y_loadC (v := .int .u64 1) (VP.cell 4 _ fun _ _ _ _ => rfl) ?_
    refine walk ?_
    refine y_loadC (v := .int .u64 (v.pi : Int)) (VP.cell 6 _ fun _ _ _ _ => rfl) ?_
    refine walk ?_
    rw [show 1 * v.pi + 1 = m by omega]
    refine y_loadC (v := .int .u64 1) (VP.cell 4 _ fun _ _ _ _ => rfl) ?_
    refine walkO ?_
    refine x_two ?_ ?_
    · refine y_make rfl rfl fun q1 => ?_
      refine y_make (n := 1) rfl rfl fun q2 => ?_
      refine walkO ?_
      refine x_end ?_
      exact (rest (q1, q2) trivial).toP rfl (by repeat constructor) sub_
    · refine y_make (n := 1) rfl rfl fun q2 => ?_
      refine y_make rfl rfl fun q1 => ?_
      refine walkO ?_
      refine x_end ?_
      exact (rest (q1, q2) trivial).toP rfl (by repeat constructor) sub_
  · rintro ⟨gU, gD⟩ _
    dsimp only
    rw [tabB_rep, tabB_congr (P := fun _ => false) (Q := fun i => decide (1 ≤ i ∧ i < 1)) (fun i _ => (decide_eq_false (by omega)).symm), show List.replicate 1 (Value.int .u64 0) = natV [0] from rfl]
    refine walk ?_
    refine e_roundsT (ι := Nat) (fun k => 11 - k)
      (fun k => [ptrV v.vg, .slice (some ⟨v.ig, 1024, none⟩) 1024 cs, undef, undef, .slice (some ⟨gU, 0, none⟩) m m, .slice (some ⟨gD, 0, none⟩) 1 1, .int .u64 (k : Nat), undef, undef, undef, undef, undef, undef, undef, undef, undef, undef, undef, undef, undef, undef, undef, undef])
      (fun _ => []) (fun k => [Own (some ⟨gU, 0, none⟩) m 4 1 m (boolV (tabB (fun i => decide (1 ≤ i ∧ i < k)) m)), Own (some ⟨gD, 0, none⟩) 1 69 1 1 (natV [0]), VP v, ImgP v]) (fun k => 1 ≤ k ∧ k ≤ 11) 1 ⟨by omega, by omega⟩ rfl (by repeat constructor) sub_ ?_
    intro k ⟨hk1, hk2⟩ again
    by_cases hk : k < 11
    · refine walk ?_
      refine y_callq rfl rfl le84 ?_
      refine walk ?_
      refine y_storeE (a := k) (vs := boolV (tabB (fun i => decide (1 ≤ i ∧ i < k)) m)) (u := .bool true) (by rw [boolV_len, tabB_len]; omega) ?_
      rw [boolV_set, tabB_set _ (fun i => decide (1 ≤ i ∧ i < k + 1)) m k (fun i _ => by
        rw [← Bool.decide_or]
        exact decide_eq_decide.2 (by omega))]
      refine walk ?_
      exact (again (k + 1) (by omega) ⟨by omega, by omega⟩).toP rfl (by repeat constructor) sub_
    · have hk11 : k = 11 := by omega
      subst hk11
      clear again
      refine walk ?_
      refine y_callq rfl rfl le84 ?_
      refine walk ?_
      refine y_tno5 VP.op fun AI cI gO cO rs hrs => ?_
      dsimp only
      refine walk ?_
      rw [tabB_congr (Q := fun i => usedN (v.inos.take 0) i) (fun i _ => by simp [usedN]), show natV [0] = natV [dirN (v.inos.take 0)] from rfl]
      refine e_roundsT (ι := Nat × Value) (fun z => v.inos.length - z.1)
        (fun z => [ptrV v.vg, .slice (some ⟨v.ig, 1024, none⟩) 1024 cs, undef, undef, .slice (some ⟨gU, 0, none⟩) m m, .slice (some ⟨gD, 0, none⟩) 1 1, .int .u64 (11 : Nat), undef, z.2, undef, undef, undef, undef, undef, undef, undef, undef, undef, undef, undef, undef, undef, undef])
        (fun z => [(60, .int .i64 (z.1 : Nat)), (59, .int .i64 (v.inos.length : Nat)), (58, .slice AI v.inos.length cI)])
        (fun z => [Own (some ⟨gU, 0, none⟩) m 4 1 m (boolV (tabB (fun i => usedN (v.inos.take z.1) i) m)), Own (some ⟨gD, 0, none⟩) 1 69 1 1 (natV [dirN (v.inos.take z.1)]), Cells v.vg 71 (vsC v AI cI gO cO), Own AI cI 74 23 v.inos.length (inC v.inos rs), Own (some ⟨gO, 0, none⟩) cO 5 1 v.nb (enc (ownB v.nb v.cl)), HP.star (inP v.inos rs), ImgP v])
        (fun z => z.1 ≤ v.inos.length) (0, undef) (Nat.zero_le _) rfl (by repeat constructor) sub_ ?_
      rintro ⟨j, w8⟩ hj again
      dsimp only at hj again ⊢
      by_cases hlt : j < v.inos.length
      · obtain ⟨y, hy⟩ : ∃ y, v.inos[j]? = some y := ⟨_, List.getElem?_eq_getElem hlt⟩
        obtain ⟨a, ha⟩ : ∃ a, rs[j]? = some a := ⟨_, List.getElem?_eq_getElem (by omega)⟩
        obtain ⟨hy1, hyn, hym⟩ := m18 y (List.mem_of_getElem? hy)
        have hky := kindOf_fn y.mode hym
        have htk : v.inos.take (j + 1) = v.inos.take j ++ [y] := by rw [List.take_add_one, hy]; rfl
        have hdv : (y.num - 1) / v.pi = 0 := Nat.div_eq_of_lt (by omega)
        have hdl : dirN (v.inos.take j) ≤ 100000 := by
          have h1 := List.countP_le_length (p := fun x : RI => decide (ftN x.mode = 2)) (l := v.inos.take j)
          have h2 : (v.inos.take j).length ≤ v.inos.length := by simp; omega
          unfold dirN; omega
        have hdn : dirN (v.inos.take (j + 1)) = dirN (v.inos.take j) + if ftN y.mode = 2 then 1 else 0 := by
          rw [htk]; unfold dirN; rw [List.countP_append]; simp [List.countP_cons]
        refine E.know (A := Own AI cI 74 23 v.inos.length (inC v.inos rs)) take_ (fun _ _ => Own.know) fun hk => ?_
        obtain ⟨k1, k2, k3, k4⟩ := hk
        cases AI with
        | none => have := k3 rfl; omega
        | some ad =>
        obtain ⟨gA, rfl⟩ := k4 ad rfl
        have ag := fun w => again (j + 1, w) (by dsimp only; omega) (by dsimp only; omega)
        dsimp only at ag
        refine walk ?_
        refine y_loadS (vs := inC v.inos rs) (us := riC y a) (j * 23) (inC_get _ _ j y a hy ha) ?_
        refine walk ?_
        refine y_alloc fun g8 => ?_
        refine walk ?_
        refine y_storeE (a := y.num) (vs := boolV (tabB (fun i => usedN (v.inos.take j) i) m)) (u := .bool true) (by rw [boolV_len, tabB_len]; omega) ?_
        rw [boolV_set, tabB_set _ (fun i => usedN (v.inos.take (j + 1)) i) m y.num (fun i _ => by
          unfold usedN
          rw [htk, Bool.or_assoc]
          congr 1
          rw [← Bool.decide_or]
          exact decide_eq_decide.2 (by simp))]
        refine walk ?_
        refine y_callq rfl rfl hky ?_
        refine walk ?_
        refine e_cond rfl (fun ht => ?_) (fun hf => ?_)
        · have h2 : ftN y.mode = 2 := by have := eq_of_beq ht; omega
          rw [if_pos h2] at hdn
          refine walk ?_
          refine y_loadO 0 (vs := natV [dirN (v.inos.take j)]) (v := .int .u64 (dirN (v.inos.take j) : Nat)) rfl ?_
          refine walk ?_
          rw [hdv]
          refine y_storeE (a := 0) (vs := natV [dirN (v.inos.take j)]) (u := .int .u64 ((dirN (v.inos.take j) + 1 : Nat) : Int)) (by simp [natV]) ?_
          rw [natV_set, show [dirN (v.inos.take j)].set 0 (dirN (v.inos.take j) + 1) = [dirN (v.inos.take (j + 1))] from by rw [hdn]; rfl]
          refine walk ?_
          exact (ag (ptrV g8)).toP (ks := [60, 59, 58]) rfl (by repeat constructor) sub_
        · have h2 : ftN y.mode ≠ 2 := by
            intro h2
            rw [h2] at hf
            exact absurd hf (by decide)
          rw [if_neg h2] at hdn
          rw [show natV [dirN (v.inos.take j)] = natV [dirN (v.inos.take (j + 1))] from by rw [hdn]; rfl]
          refine walk ?_
          exact (ag (ptrV g8)).toP (ks := [60, 59, 58]) rfl (by repeat constructor) sub_
      · have hjl : j = v.inos.length := by omega
        subst hjl
        clear again
        rw [List.take_length]
        refine y_tn (VP.cl_ v hrs) fun _ _ => ?_
        refine walk ?_
        refine y_loop ?_
        refine walk ?_
        refine y_loadC (v := .int .u64 1) (VP.cell 4 _ fun _ _ _ _ => rfl) ?_
        refine walk ?_
        have hbb := bbm_fn v hg
        rw [m1] at hbb
        have hib := ibm_fn v hg
        rw [m2] at hib
        refine y_callq rfl rfl hbb ?_
        refine walk ?_
        refine y_callq rfl rfl (rblock_fn v hg bb (by omega)) ?_
        refine walk ?_
        refine y_callq rfl rfl hib ?_
        refine walk ?_
        refine y_callq rfl rfl (rblock_fn v hg (bb + 1) (by omega)) ?_
        refine walk ?_
        have rb := ImgP.row v (bb * 4096) 4096
        rw [m6] at rb
        have ri := ImgP.row v ((bb + 1) * 4096) 4096
        rw [m7] at ri
        refine e_roundsT (ι := Nat × Value × Value × Value) (fun z => 32768 - z.1)
          (fun z => [ptrV v.vg, .slice (some ⟨v.ig, 1024, none⟩) 1024 cs, undef, undef, .slice (some ⟨gU, 0, none⟩) m m, .slice (some ⟨gD, 0, none⟩) 1 1, .int .u64 (11 : Nat), undef, w8, .int .u64 0, .int .u64 0, .int .u64 0, .slice (some ⟨v.ig, bb * 4096, none⟩) 4096 (v.ic - bb * 4096), .slice (some ⟨v.ig, (bb + 1) * 4096, none⟩) 4096 (v.ic - (bb + 1) * 4096), .int .u64 (cntN (fun i => !fb i) z.1 : Nat), .int .u64 (cntN (fun i => !fi i) (min z.1 v.pi) : Nat), .int .u64 (z.1 : Nat), z.2.1, z.2.2.1, z.2.2.2, undef, undef, undef])
          (fun z => [])
          (fun z => [VP v, Own (some ⟨gU, 0, none⟩) m 4 1 m (boolV (tabB (fun i => usedN v.inos i) m)), Own (some ⟨gD, 0, none⟩) 1 69 1 1 (natV [dirN v.inos]), ImgP v])
          (fun z => z.1 ≤ 32768) (0, undef, undef, undef) (Nat.zero_le _) ?_ (by repeat constructor) sub_ ?_
        · rw [Nat.zero_min]; rfl
        rintro ⟨i, w17, w18, w19⟩ hi again
        dsimp only at hi again ⊢
        have hc1 := cntN_le (fun i => !fb i) i
        have hc2 := cntN_le (fun i => !fi i) (min i v.pi)
        have hc3 : min i v.pi ≤ i := Nat.min_le_left _ _
        by_cases hlt : i < 32768
        · refine walk ?_
          refine y_loadC (v := .int .u64 32768) (VP.cell 5 _ fun _ _ _ _ => rfl) ?_
          refine walkO ?_
          refine x_end ?_
          rw [show 0 * 32768 + i = i by omega]
          refine e_seq ?_
          have hfk := m8 i hlt
          refine e_cont (ι := Unit) (fun _ => [ptrV v.vg, .slice (some ⟨v.ig, 1024, none⟩) 1024 cs, undef, undef, .slice (some ⟨gU, 0, none⟩) m m, .slice (some ⟨gD, 0, none⟩) 1 1, .int .u64 (11 : Nat), undef, w8, .int .u64 0, .int .u64 0, .int .u64 0, .slice (some ⟨v.ig, bb * 4096, none⟩) 4096 (v.ic - bb * 4096), .slice (some ⟨v.ig, (bb + 1) * 4096, none⟩) 4096 (v.ic - (bb + 1) * 4096), .int .u64 (cntN (fun i => !fb i) i : Nat), .int .u64 (cntN (fun i => !fi i) (min i v.pi) : Nat), .int .u64 (i : Nat), .int .u64 (i : Nat), .bool (fb i), w19, undef, undef, undef]) (fun _ => []) (fun _ => [VP v, Own (some ⟨gU, 0, none⟩) m 4 1 m (boolV (tabB (fun i => usedN v.inos i) m)), Own (some ⟨gD, 0, none⟩) 1 69 1 1 (natV [dirN v.inos]), ImgP v]) (fun _ => True) (fun rest => ?_) ?_
          · have r := rest () trivial
            clear rest
            refine walk ?_
            refine y_loadC (v := .int .u64 32768) (VP.cell 5 _ fun _ _ _ _ => rfl) ?_
            refine walk ?_
            refine y_loadC (v := .int .u64 (v.nb : Int)) (VP.cell 1 _ fun _ _ _ _ => rfl) ?_
            by_cases hnb : v.nb ≤ i
            · rw [show fb i = true from by rw [hfk]; simp [hnb]] at r
              refine walkO ?_
              refine x_end ?_
              exact r.toP rfl (by repeat constructor) sub_
            · refine walk ?_
              refine y_tno5 VP.op fun AI cI gO cO rs hrs => ?_
              dsimp only
              refine walk ?_
              refine y_loadO i (enc_get (ownB_get (nb := v.nb) v.cl (by omega))) ?_
              by_cases hcl : i ∈ v.cl
              · rw [show fb i = true from by rw [hfk]; simp [hcl]] at r
                rw [if_pos hcl]
                refine walkO ?_
                refine x_end ?_
                refine y_tn (VP.cl_ v hrs) fun _ _ => ?_
                exact r.toP rfl (by repeat constructor) sub_
              · rw [show fb i = false from by rw [hfk]; simp [hcl, hnb]] at r
                rw [if_neg hcl]
                refine walkO ?_
                refine x_end ?_
                refine y_tn (VP.cl_ v hrs) fun _ _ => ?_
                exact r.toP rfl (by repeat constructor) sub_
          · rintro _ _
            refine walk ?_
            refine y_loadC (v := .int .u64 32768) (VP.cell 5 _ fun _ _ _ _ => rfl) ?_
            refine walk ?_
            refine y_callq rfl rfl (bit_fn v.ig (bb * 4096) (v.ic - bb * 4096) i fb (ImgP v) rb hlt) ?_
            refine walk ?_
            refine x_eqB (a := fb i) (b := fb i) (v := true) (by simp) ?_
            refine walk ?_
            refine y_callq rfl rfl (must_fn (ptrV v.vg) _ i) ?_
            refine walk ?_
            refine e_cont (ι := Unit) (fun _ => [ptrV v.vg, .slice (some ⟨v.ig, 1024, none⟩) 1024 cs, undef, undef, .slice (some ⟨gU, 0, none⟩) m m, .slice (some ⟨gD, 0, none⟩) 1 1, .int .u64 (11 : Nat), undef, w8, .int .u64 0, .int .u64 0, .int .u64 0, .slice (some ⟨v.ig, bb * 4096, none⟩) 4096 (v.ic - bb * 4096), .slice (some ⟨v.ig, (bb + 1) * 4096, none⟩) 4096 (v.ic - (bb + 1) * 4096), .int .u64 (cntN (fun i => !fb i) (i + 1) : Nat), .int .u64 (cntN (fun i => !fi i) (min i v.pi) : Nat), .int .u64 (i : Nat), .int .u64 (i : Nat), .bool (fb i), w19, undef, undef, undef]) (fun _ => []) (fun _ => [VP v, Own (some ⟨gU, 0, none⟩) m 4 1 m (boolV (tabB (fun i => usedN v.inos i) m)), Own (some ⟨gD, 0, none⟩) 1 69 1 1 (natV [dirN v.inos]), ImgP v]) (fun _ => True) (fun rest => ?_) ?_
            · have r := rest () trivial
              clear rest
              cases hfb : fb i with
              | true =>
                rw [hfb, show cntN (fun i => !fb i) (i + 1) = cntN (fun i => !fb i) i from by simp [cntN, hfb, b2n]] at r
                refine e_false rfl ?_
                refine e_skip ?_
                exact r.toP rfl (by repeat constructor) sub_
              | false =>
                rw [hfb, show cntN (fun i => !fb i) (i + 1) = cntN (fun i => !fb i) i + 1 from by simp [cntN, hfb, b2n]] at r
                refine e_true rfl ?_
                refine e_region ?_
                refine walkO ?_
                refine x_end ?_
                exact r.toP rfl (by repeat constructor) sub_
            · rintro _ _
              have hc1 := cntN_le (fun i => !fb i) (i + 1)
              refine walk ?_
              refine y_loadC (v := .int .u64 (v.pi : Int)) (VP.cell 6 _ fun _ _ _ _ => rfl) ?_
              refine walk ?_
              refine y_loadC (v := .int .u64 (v.pi : Int)) (VP.cell 6 _ fun _ _ _ _ => rfl) ?_
              rw [show 0 * v.pi + i + 1 = i + 1 by omega]
              have ag := fun w => again (i + 1, .int .u64 (i : Nat), .bool (fb i), w) (by dsimp only; omega) (by dsimp only; omega)
              dsimp only at ag
              by_cases hip : i < v.pi
              · rw [Nat.min_eq_left (by omega : i + 1 ≤ v.pi)] at ag
                rw [Nat.min_eq_left (by omega : i ≤ v.pi)]
                have hfik := m9 i hip
                have hc6 := cntN_le (fun i => !fi i) i
                refine walk ?_
                refine y_callq rfl rfl (bit_fn v.ig ((bb + 1) * 4096) (v.ic - (bb + 1) * 4096) i fi (ImgP v) ri hlt) ?_
                refine walk ?_
                refine y_loadO (i + 1) (boolV_get (tabB_get (m := m) _ (by omega))) ?_
                refine walk ?_
                refine x_eqB (a := fi i) (b := usedN v.inos (i + 1)) (v := true) (by rw [hfik]; simp) ?_
                refine walk ?_
                refine y_callq rfl rfl (must_fn (ptrV v.vg) _ (i + 1)) ?_
                refine walk ?_
                refine y_loadO (i + 1) (boolV_get (tabB_get (m := m) _ (by omega))) ?_
                rw [← hfik]
                cases hfi : fi i with
                | true =>
                  rw [show cntN (fun i => !fi i) (i + 1) = cntN (fun i => !fi i) i from by simp [cntN, hfi, b2n]] at ag
                  refine walk ?_
                  exact (ag _).toP rfl (by repeat constructor) sub_
                | false =>
                  rw [show cntN (fun i => !fi i) (i + 1) = cntN (fun i => !fi i) i + 1 from by simp [cntN, hfi, b2n]] at ag
                  obtain ⟨fr1, fr2⟩ := m10 (i + 1) (by omega) (by omega) (by first | exact hfik.symm | exact hfik.symm.trans hfi | omega)
                  have hraw := raw_fn v hg it (i + 1) (by omega) (by omega) m3 (by omega)
                  have hle := fun at_ n (h : at_ + n ≤ 256) (hn : n ≤ 8) => le_fn v.ig (it * 4096 + (i + 1 - 1) * 256) 256 (v.ic - (it * 4096 + (i + 1 - 1) * 256)) at_ n ((v.img.drop (it * 4096 + (i + 1 - 1) * 256)).take 256) (ImgP v) (ImgP.row v _ 256) (by simp; omega) hn (by omega) (by omega)
                  have hle0 := hle 0 2 (by omega) (by omega)
                  rw [leAt_take _ (by omega), leAt_drop, show it * 4096 + (i + 1 - 1) * 256 + 0 = it * 4096 + (i + 1 - 1) * 256 from rfl, fr1] at hle0
                  have hle26 := hle 26 2 (by omega) (by omega)
                  rw [leAt_take _ (by omega), leAt_drop, fr2] at hle26
                  refine walk ?_
                  refine y_callq rfl rfl hraw ?_
                  refine walk ?_
                  refine y_callq rfl rfl hle0 ?_
                  refine walk ?_
                  refine y_callq rfl rfl hraw ?_
                  refine walk ?_
                  refine y_callq rfl rfl hle26 ?_
                  refine walk ?_
                  refine y_callq rfl rfl (must_fn (ptrV v.vg) _ (i + 1)) ?_
                  refine walk ?_
                  exact (ag _).toP rfl (by repeat constructor) sub_
              · rw [Nat.min_eq_right (by omega : v.pi ≤ i + 1)] at ag
                rw [Nat.min_eq_right (by omega : v.pi ≤ i)]
                refine walk ?_
                exact (ag _).toP rfl (by repeat constructor) sub_
        · have hi2 : i = 32768 := by omega
          subst hi2
          rw [Nat.min_eq_right (by omega : v.pi ≤ 32768)]
          clear again
          have p12 := part_fn v hg 12 2 44 (by omega) (by omega)
          rw [show 4096 + 12 = 4108 from rfl, m11] at p12
          have p14 := part_fn v hg 14 2 46 (by omega) (by omega)
          rw [show 4096 + 14 = 4110 from rfl, m12] at p14
          have p16 := part_fn v hg 16 2 48 (by omega) (by omega)
          rw [show 4096 + 16 = 4112 from rfl, m13] at p16
          have hc4 := cntN_le (fun i => !fb i) 32768
          have hc5 := cntN_le (fun i => !fi i) v.pi
          have hdl : dirN v.inos ≤ 100000 := Nat.le_trans (List.countP_le_length (p := fun x : RI => decide (ftN x.mode = 2)) (l := v.inos)) m19
          refine walk ?_
          refine y_callq rfl rfl p12 ?_
          refine walk ?_
          refine y_callq rfl rfl (must_fn (ptrV v.vg) _ 0) ?_
          refine walk ?_
          refine y_callq rfl rfl p14 ?_
          refine walk ?_
          refine y_callq rfl rfl (must_fn (ptrV v.vg) _ 0) ?_
          refine walk ?_
          refine y_callq rfl rfl p16 ?_
          refine walk ?_
          refine y_loadO 0 (vs := natV [dirN v.inos]) (v := .int .u64 (dirN v.inos : Nat)) rfl ?_
          refine walk ?_
          refine y_callq rfl rfl (must_fn (ptrV v.vg) _ 0) ?_
          refine walk ?_
          refine y_again ?_
          refine walk ?_
          refine y_loadC (v := .int .u64 1) (VP.cell 4 _ fun _ _ _ _ => rfl) ?_
          refine walk ?_
          refine y_callq rfl rfl le12 ?_
          refine walk ?_
          rw [Nat.zero_add, Nat.zero_add]
          generalize cntN (fun i => !fb i) 32768 = c32 at hc4 ⊢
          generalize cntN (fun i => !fi i) v.pi = cpi at hc5 le16 ⊢
          refine y_callq rfl rfl le344 ?_
          refine walk ?_
          rw [show c32 ||| 0 * 2 ^ 32 = c32 from by simp]
          rw [show ((c32 : Int) == (c32 : Int)) = true from by simp]
          refine y_callq rfl rfl (must_fn (ptrV v.vg) _ c32) ?_
          rw [Nat.zero_add]
          refine walk ?_
          refine y_callq rfl rfl le16 ?_
          refine walk ?_
          refine y_callq rfl rfl (must_fn (ptrV v.vg) _ cpi) ?_
          refine walk ?_
          refine y_loop ?_
          refine walk ?_
          refine y_loadC (v := .int .u64 1) (VP.cell 4 _ fun _ _ _ _ => rfl) ?_
          refine walk ?_
          refine y_loadC (v := .int .u64 32768) (VP.cell 5 _ fun _ _ _ _ => rfl) ?_
          refine walk ?_
          refine y_again ?_
          refine walk ?_
          refine y_loadC (v := .int .u64 1) (VP.cell 4 _ fun _ _ _ _ => rfl) ?_
          refine walk ?_
          exact y_end [] rfl ⟨rfl, rfl⟩
end Go.Proofs.YtppkiiomedembaaGreatDoor
