/-
  The walks: directories are written, one within the other; The walks: how many groups; The walks: the table of inodes. Conditions: none.
-/
import Derived.Test.YtppkiiomedembaaGreatDoorM10
set_option linter.unusedVariables false
set_option linter.unusedSimpArgs false
namespace Go.Proofs.YtppkiiomedembaaGreatDoor
open Go
set_option maxRecDepth 100000
set_option maxHeartbeats 4000000
attribute [local irreducible] E EO
abbrev WS := Ws × List Nd
inductive WRL (R : WS → Nat → Nat → Nat → Nat → WS → Prop) (k g : Nat) (ks : List (List UInt8 × Nat)) : List (List UInt8 × Nat) → WS → WS → Prop
  | nil {a : WS} : WRL R k g ks [] a a
  | dir {q : List UInt8 × Nat} {r : List (List UInt8 × Nat)} {a b c : WS} {j : Nat} {x y : Nd} : a.2[k]? = some x → x.g = g → x.kids = some ks → look (kidE ks) (str q.1) = some (ptrV q.2) → a.2[j]? = some y → y.g = q.2 → y.mode < 65536 → y.mode &&& 61440 = 16384 → R a j q.2 k g b → WRL R k g ks r b c → WRL R k g ks (q :: r) a c
  | file {q : List UInt8 × Nat} {r : List (List UInt8 × Nat)} {a c : WS} {j : Nat} {x y : Nd} : a.2[k]? = some x → x.g = g → x.kids = some ks → look (kidE ks) (str q.1) = some (ptrV q.2) → a.2[j]? = some y → y.g = q.2 → y.mode < 65536 → y.mode &&& 61440 ≠ 16384 → WRL R k g ks r a c → WRL R k g ks (q :: r) a c
structure DirOk (s : Ws) (l : List Nd) (k p : Nat) (x par : Nd) (ks srt : List (List UInt8 × Nat)) (nf mf : Nat → Nat) : Prop where
  cur : s.cur = none
  hx : l[k]? = some x
  hpar : l[p]? = some par
  hk : x.kids = some ks
  hK : KidOk s l ks nf mf
  perm : srt.Perm ks
  srt : srt.Pairwise (fun a b => nf a.2 < nf b.2)
  len : ks.length ≤ 10000
  gx : getI s.ids x.num = some x.g
  gp : getI s.ids par.num = some par.g
  nx : x.num < 4294967296
  np : par.num < 4294967296
  mx : x.mode < 65536
  mp : par.mode < 65536
  il : s.ids.length ≤ 100000000
  b : s.body.length ≤ 10000000
  fl : x.flags &&& 268435456 = 0
  f2 : x.flags < 4294967296
abbrev dirD (x par : Nd) (srt : List (List UInt8 × Nat)) (nf mf : Nat → Nat) : List UInt8 := dirB 4096 ((x.num, [46], ftN x.mode) :: (par.num, [46, 46], ftN par.mode) :: srtE nf mf srt)
abbrev dirW (s : Ws) (l : List Nd) (k : Nat) (x : Nd) (D : List UInt8) : WS := ({ s with cname := ⟨#[]⟩, cur := some x.g, dw := D.length, dm := D.length, body := s.body ++ D }, l.set k { x with size := D.length })
def WR (wg : Nat) : Nat → WS → Nat → Nat → Nat → Nat → WS → Prop
  | 0, _, _, _, _, _, _ => False
  | n + 1, a, k, g, p, pg, b => ∃ s l x par ks srt nf mf, s.wg = wg ∧ x.g = g ∧ par.g = pg ∧ Fd Tryz.prog 91 #[ptrV s.wg] [WP a.1, NodesP a.2] .nilIface [WP s, NodesP l] ∧ DirOk s l k p x par ks srt nf mf ∧ WRL (WR wg n) k x.g ks srt (dirW s l k x (dirD x par srt nf mf)) b
theorem KidOk.set {s : Ws} {l : List Nd} {ks : List (List UInt8 × Nat)} {nf mf : Nat → Nat} (h : KidOk s l ks nf mf) {k : Nat} {x : Nd} (hx : l[k]? = some x) (x' : Nd) (h1 : x'.g = x.g) (h2 : x'.num = x.num) (h3 : x'.mode = x.mode) (s' : Ws) (h4 : s'.ids = s.ids) : KidOk s' (l.set k x') ks nf mf := by
  intro q hq
  obtain ⟨a1, a2, j, y, a3, a4, a5, a6, a7, a8, a9⟩ := h q hq
  have hkl := (List.getElem?_eq_some_iff.1 hx).1
  by_cases hkj : k = j
  · subst hkj
    rw [hx] at a3; cases a3
    exact ⟨a1, a2, k, x', List.getElem?_set_self hkl, by rw [h1, a4], by rw [h2, a5], by rw [h3, a6], by rw [h2, h4, h1, a7], by rw [h3]; exact a8, by rw [h2]; exact a9⟩
  · exact ⟨a1, a2, j, y, by rw [List.getElem?_set_ne hkj]; exact a3, a4, a5, a6, by rw [h4]; exact a7, a8, a9⟩
theorem less2_fn (s : Ws) (l : List Nd) (k : Nat) (x : Nd) (ks cs : List (List UInt8 × Nat)) (nf mf : Nat → Nat) (gd gc g c i j : Nat) (p q : List UInt8 × Nat) (hx : l[k]? = some x) (hk : x.kids = some ks) (hK : KidOk s l ks nf mf) (hi : cs[i]? = some p) (hj : cs[j]? = some q) (hp : p ∈ ks) (hq : q ∈ ks) (hne : nf p.2 ≠ nf q.2) (hlen : cs.length ≤ 1000000) :
    Qn Tryz.prog 167 #[.int .i64 (i : Int), .int .i64 (j : Int), ptrV gd, ptrV gc] [Cells gd 172 [ptrV x.g], Cells gc 41 [.slice (some ⟨g, 0, none⟩) cs.length c], Own (some ⟨g, 0, none⟩) c 9 1 cs.length (nmC cs), NodesP l] (.bool (decide (nf p.2 < nf q.2))) := by
  obtain ⟨hp1, hp2, jp, yp, hp3, hp4, hp5, hp6, hp7, hp8, hp9⟩ := hK p hp
  obtain ⟨hq1, hq2, jq, yq, hq3, hq4, hq5, hq6, hq7, hq8, hq9⟩ := hK q hq
  have hil := (List.getElem?_eq_some_iff.1 hi).1
  have hjl := (List.getElem?_eq_some_iff.1 hj).1
  refine fn_of_E' (args := [_, _, _, _]) 9 _ [_, _, _, _, undef, undef, undef, undef, undef] Tryz.func167 rfl Tryz.ntmps167 ?_
  have hn1 : (yp.num : Int) ≠ (yq.num : Int) := by rw [hp5, hq5]; omega
  refine walk ?_
  refine y_tno5 (NodesP.opK hx hk) fun A1 c1 A2 c2 gm _ => ?_
  refine walk ?_
  refine y_loadE (a := i) (vs := nmC cs) (v := .string (str p.1)) (by simp [nmC, hi]) ?_
  refine walk ?_
  refine y_lookS hp1 ?_
  refine walk ?_
  refine y_tno (NodesP.clK (l := l) x (List.getElem?_eq_some_iff.1 hx).1 hk rfl) fun _ _ => ?_
  rw [set_same hx, ← hp4]
  refine y_loadC (v := .int .u32 (yp.num : Int)) (NodesP.cell hp3 5 _ fun _ => rfl) ?_
  refine walk ?_
  refine y_tno5 (NodesP.opK hx hk) fun A1 c1 A2 c2 gm _ => ?_
  refine walk ?_
  refine y_loadE (a := j) (vs := nmC cs) (v := .string (str q.1)) (by simp [nmC, hj]) ?_
  refine walk ?_
  refine y_lookS hq1 ?_
  refine walk ?_
  refine y_tno (NodesP.clK (l := l) x (List.getElem?_eq_some_iff.1 hx).1 hk rfl) fun _ _ => ?_
  rw [set_same hx, ← hq4]
  refine y_loadC (v := .int .u32 (yq.num : Int)) (NodesP.cell hq3 5 _ fun _ => rfl) ?_
  refine walk ?_
  refine y_ret [6] rfl ?_
  rw [hp4, hq4, ← hp5, ← hq5]
  simp [packV]
theorem wrec_fn (wg : Nat) : ∀ (n : Nat) (a b : WS) (k g p pg : Nat), WR wg n a k g p pg b →
    Fd Tryz.prog 112 #[ptrV wg, ptrV g, ptrV pg] [WP a.1, NodesP a.2] .nilIface [WP b.1, NodesP b.2] := by
  intro n
  induction n with
  | zero => intro a b k g p pg h; exact h.elim
  | succ n ih =>
    intro a b k g p pg h
    obtain ⟨s, l, x, par, ks, srt, nf, mf, rfl, rfl, rfl, hfin, hd, hrl⟩ := h
    have hw := wdir_fn a.1 s a.2 l k p x par ks srt nf mf hfin hd.cur hd.hx hd.hpar hd.hk hd.hK hd.perm hd.srt hd.len hd.gx hd.gp hd.nx hd.np hd.mx hd.mp hd.il hd.b hd.fl hd.f2 _ rfl
    refine fn_of_E' (args := [_, _, _]) 17 _ [_, _, _, undef, undef, undef, undef, undef, undef, undef, undef, undef, undef, undef, undef, undef, undef] Tryz.func112 rfl Tryz.ntmps112 ?_
    refine walk ?_
    refine y_box rfl fun gd => ?_
    refine walk ?_
    refine y_callD rfl rfl hw ?_
    refine walk ?_
    refine y_alloc fun gc => ?_
    obtain ⟨cur, hx, hpar, hk, hK, hperm, hsrt, hlen, hgx, hgp, hnx, hnp, hmx, hmp, hil, hb, hfl, hf2⟩ := hd
    unfold dirW dirD at hrl
    generalize dirB 4096 ((x.num, [46], ftN x.mode) :: (par.num, [46, 46], ftN par.mode) :: srtE nf mf srt) = D at hrl ⊢
    have hx1 : (l.set k { x with size := D.length })[k]? = some { x with size := D.length } := List.getElem?_set_self (List.getElem?_eq_some_iff.1 hx).1
    have hk1 : ({ x with size := D.length } : Nd).kids = some ks := hk
    have hK1 := hK.set hx { x with size := D.length } rfl rfl rfl { s with cname := ⟨#[]⟩, cur := some x.g, dw := D.length, dm := D.length, body := s.body ++ D } rfl
    generalize l.set k { x with size := D.length } = l1 at hx1 hK1 hrl ⊢
    generalize ({ s with cname := ⟨#[]⟩, cur := some x.g, dw := D.length, dm := D.length, body := s.body ++ D } : Ws) = s1 at hK1 hrl ⊢
    refine walk ?_
    refine y_tno5 (NodesP.opK hx1 hk1) fun A1 c1 A2 c2 gm _ => ?_
    refine walk ?_
    refine y_range fun gi => ?_
    refine walk ?_
    refine E.nilOwn (e := 9) (sz := 1) ?_
    refine e_roundsK (ι := List Nat × Option Addr × Nat × Value) (fun q => ks.length - q.1.length)
      (fun q => [ptrV s.wg, ptrV x.g, ptrV par.g, undef, ptrV gd, undef, .nilIface, .nilIface, ptrV gc, q.2.2.2, undef, undef, undef, undef, undef, undef, undef])
      (fun _ => [(28, ptrV gi)])
      (fun q => [Own q.2.1 q.2.2.1 9 1 (picks ks q.1).length (nmC (picks ks q.1)), MapIt gi gm (kidE ks) q.1,
        Cells x.g 187 [.int .i64 (D.length : Nat), .int .u64 0, .int .u64 0, .int .u64 0, .int .u64 0, .int .u32 (x.num : Int), .int .u16 (x.mode : Int), .int .u32 (x.uid : Int), .int .u32 (x.gid : Int), .int .u32 (x.links : Int), .int .u32 0, .int .u32 (x.blks : Int), .int .u32 0, .int .u32 0, .int .u32 (x.flags : Int), .slice A1 x.data.length c1, .slice A2 x.xin.length c2, .map (some gm)],
        Own A1 c1 5 1 x.data.length (enc x.data), Own A2 c2 5 1 x.xin.length (enc x.xin), NodesP (l1.eraseIdx k),
        Cells gc 41 [.slice q.2.1 (picks ks q.1).length q.2.2.1],
        WP s1, Cells gd 172 [ptrV x.g]])
      (fun q => q.1.Nodup ∧ ∀ j ∈ q.1, j < ks.length) ([], none, 0, undef) ⟨List.nodup_nil, by simp⟩ rfl (by repeat constructor) (List.Perm.of_eq rfl) ?_
    rintro ⟨done, A, c, u14⟩ ⟨hnd, hbd⟩ again
    dsimp only at hnd hbd again ⊢
    refine walk ?_
    have hpl : (picks ks done).length ≤ 10000 := by rw [picks_len]; exact Nat.le_trans (nodup_len hnd hbd) hlen
    refine y_next (fun hov => ?_) (fun j s1 u hj hjd => ?_)
    rotate_left
    · obtain ⟨p1, hp1, hp2⟩ : ∃ p1 : List UInt8 × Nat, ks[j]? = some p1 ∧ s1 = str p1.1 := by
        rw [kidE, List.getElem?_map] at hj
        cases hkj : ks[j]? with
        | none => rw [hkj] at hj; cases hj
        | some p1 => rw [hkj] at hj; simp at hj; exact ⟨p1, rfl, hj.1.symm⟩
      subst hp2
      have hjl := (List.getElem?_eq_some_iff.1 hp1).1
      have hpc : picks ks (j :: done) = picks ks done ++ [p1] := by rw [picks_cons, List.getD, hp1]; rfl
      have hnd' : (j :: done).Nodup := List.nodup_cons.2 ⟨hjd, hnd⟩
      have hbd' : ∀ i ∈ j :: done, i < ks.length := fun i hi => (List.mem_cons.1 hi).elim (fun e => e ▸ hjl) (hbd i)
      have hdl := nodup_len hnd' hbd'
      refine walk ?_
      refine y_build1 rfl fun gb => ?_
      refine walk ?_
      refine y_app1 rfl rfl fun A' c' => ?_
      refine walk ?_
      have ag := again (j :: done, A', c', .string (str p1.1)) (by simp at hdl ⊢; omega) ⟨hnd', hbd'⟩
      dsimp only at ag
      rw [hpc, List.length_append, List.length_singleton, nmC_snoc] at ag
      exact ag.toKS rfl (by repeat constructor)
    refine walk ?_
    have hov' : ∀ j, j < ks.length → j ∈ done := fun j hj => hov j (by simpa [kidE] using hj)
    have hpp := picks_all hnd hbd hov'
    generalize picks ks done = cs at hpp hpl ⊢
    refine y_tn MapIt.overT fun _ _ => ?_
    refine y_tn (NodesP.clK (l := l1) { x with size := D.length } (List.getElem?_eq_some_iff.1 hx1).1 hk1 rfl) fun _ _ => ?_
    rw [set_same hx1]
    refine e_rounds (ι := Nat × List (List UInt8 × Nat) × Value) (fun q => cs.length - q.1)
      (fun q => [ptrV s.wg, ptrV x.g, ptrV par.g, undef, ptrV gd, undef, .nilIface, .nilIface, ptrV gc, u14, .func (.func 167) #[] #[ptrV gd, ptrV gc], .int .i64 (q.1 : Nat), q.2.2, undef, undef, undef, undef])
      (fun q => [NodesP l1, Own A c 9 1 cs.length (nmC q.2.1), Cells gc 41 [.slice A cs.length c],
        WP s1, Cells gd 172 [ptrV x.g]])
      (fun q => 1 ≤ q.1 ∧ q.2.1.Perm ks ∧ q.2.1.length = cs.length ∧ (q.2.1.take q.1).Pairwise fun a b => nf a.2 < nf b.2) (1, cs, undef) ⟨Nat.le_refl _, hpp, rfl, by cases cs <;> simp⟩ rfl (List.Perm.refl _) ?_
    rintro ⟨i, cs', u17⟩ ⟨hi1, hpp', hcl, hso⟩ again
    dsimp only at hi1 hpp' hcl hso again ⊢
    by_cases hic : i < cs.length
    · refine E.know (.there .here) (fun _ _ => Own.know) fun hkn => ?_
      obtain ⟨_, k2, k3, k4⟩ := hkn
      cases A with
      | none => have := k3 rfl; omega
      | some ad =>
      obtain ⟨go, rfl⟩ := k4 ad rfl
      have hta : (cs'.take i).length = i := by rw [List.length_take, hcl]; omega
      have hsplit : cs' = cs'.take i ++ cs'[i]'(by omega) :: ([] ++ cs'.drop (i + 1)) := by
        rw [List.nil_append, ← List.drop_eq_getElem_cons, List.take_append_drop]
      refine walk ?_
      refine e_rounds (ι := List (List UInt8 × Nat) × (List UInt8 × Nat) × List (List UInt8 × Nat) × List (List UInt8 × Nat)) (fun q => q.1.length)
        (fun q => [ptrV s.wg, ptrV x.g, ptrV par.g, undef, ptrV gd, undef, .nilIface, .nilIface, ptrV gc, u14, .func (.func 167) #[] #[ptrV gd, ptrV gc], .int .i64 (i : Nat), .int .i64 (q.1.length : Nat), undef, undef, undef, undef])
        (fun q => [NodesP l1, Own (some ⟨go, 0, none⟩) c 9 1 cs.length (nmC (q.1 ++ q.2.1 :: (q.2.2.1 ++ q.2.2.2))), Cells gc 41 [.slice (some ⟨go, 0, none⟩) cs.length c],
          WP s1, Cells gd 172 [ptrV x.g]])
        (fun q => (q.1 ++ q.2.1 :: (q.2.2.1 ++ q.2.2.2)).Perm ks ∧ (q.1 ++ q.2.1 :: (q.2.2.1 ++ q.2.2.2)).length = cs.length ∧ q.1.length + q.2.2.1.length = i ∧ ((q.1 ++ q.2.2.1).Pairwise fun a b => nf a.2 < nf b.2) ∧ ∀ z ∈ q.2.2.1, nf q.2.1.2 < nf z.2)
        (cs'.take i, cs'[i]'(by omega), [], cs'.drop (i + 1)) ⟨by dsimp only; rw [← hsplit]; exact hpp', by dsimp only; rw [← hsplit]; exact hcl, by dsimp only; rw [hta]; rfl, by dsimp only; rw [List.append_nil]; exact hso, by simp⟩ (by dsimp only; rw [hta]) (List.Perm.of_eq (by dsimp only; rw [← hsplit])) ?_
      rintro ⟨a, e, b, r⟩ ⟨q1, q2, q3, q4, q5⟩ again2
      dsimp only at q1 q2 q3 q4 q5 again2 ⊢
      rcases List.eq_nil_or_concat a with rfl | ⟨a', y, hay⟩
      · have ag := again (i + 1, [] ++ e :: (b ++ r), .int .i64 ((0 : Nat) : Int)) (by dsimp only; omega) ⟨by dsimp only; omega, q1, q2, ins_done q3 q4 q5 (by simp)⟩
        dsimp only at ag
        refine walk ?_
        exact ag.to rfl rfl
      · rw [List.concat_eq_append] at hay
        subst hay
        have hL : (a' ++ [y]).length = a'.length + 1 := by simp
        have hne2 : (a' ++ [y] ++ e :: (b ++ r)).Pairwise fun a b => nf a.2 ≠ nf b.2 :=
          (List.Perm.pairwise_iff (R := fun a b : List UInt8 × Nat => nf a.2 ≠ nf b.2) (fun h => h.symm) (q1.trans hperm.symm)).2 (hsrt.imp fun h => Nat.ne_of_lt h)
        have hye : nf y.2 ≠ nf e.2 := (List.pairwise_append.1 hne2).2.2 y (by simp) e (by simp)
        have hless := less2_fn s1 l1 k { x with size := D.length } ks (a' ++ [y] ++ e :: (b ++ r)) nf mf gd gc go c (a'.length + 1) a'.length e y hx1 hk1 hK1 (by rw [List.getElem?_append_right (by simp)]; simp) (by rw [List.append_assoc, List.getElem?_append_right (by simp)]; simp) (q1.subset (by simp)) (q1.subset (by simp)) hye.symm (by omega)
        rw [q2] at hless
        have hjl : a'.length + 1 < cs.length := by simp at q2; omega
        rw [hL] at again2 q3 ⊢
        refine walk ?_
        refine y_callq rfl rfl hless ?_
        by_cases hlt : nf e.2 < nf y.2
        · rw [decide_eq_true hlt]
          refine walk ?_
          refine e_pair ?_
          refine walk ?_
          refine y_loadE (a := a'.length) (vs := nmC (a' ++ [y] ++ e :: (b ++ r))) (v := .string (str y.1)) (by simp [nmC]) ?_
          refine walk ?_
          refine y_loadE (a := a'.length + 1) (vs := nmC (a' ++ [y] ++ e :: (b ++ r))) (v := .string (str e.1)) (by simp [nmC]) ?_
          refine walk ?_
          have hsw : (a' ++ e :: (y :: b ++ r)).Perm (a' ++ [y] ++ e :: (b ++ r)) := by
            rw [List.append_assoc]
            exact (List.Perm.swap y e (b ++ r)).append_left a'
          have ag := again2 (a', e, y :: b, r) (by dsimp only; omega) ⟨hsw.trans q1, by simp at q2 ⊢; omega, by simp at q3 ⊢; omega, by simpa using q4, fun z hz => (List.mem_cons.1 hz).elim (fun h => h ▸ hlt) (q5 z)⟩
          dsimp only at ag
          have hset : ((nmC (a' ++ [y] ++ e :: (b ++ r))).set (a'.length + 1) (.string (str y.1))).set a'.length (.string (str e.1)) = nmC (a' ++ e :: (y :: b ++ r)) := by
            simp [nmC, List.set_append]
          refine x_two ?_ ?_
          · refine walk ?_
            refine y_storeE (a := a'.length + 1) (vs := nmC (a' ++ [y] ++ e :: (b ++ r))) (u := .string (str y.1)) (by rw [nmC_len]; omega) ?_
            refine walk ?_
            refine y_storeE (a := a'.length) (vs := (nmC (a' ++ [y] ++ e :: (b ++ r))).set (a'.length + 1) (.string (str y.1))) (u := .string (str e.1)) (by rw [List.length_set, nmC_len]; omega) ?_
            rw [hset]
            refine walk ?_
            exact ag.toKS (ks := []) rfl (by repeat constructor)
          · refine walk ?_
            refine y_storeE (a := a'.length + 1) (vs := nmC (a' ++ [y] ++ e :: (b ++ r))) (u := .string (str y.1)) (by rw [nmC_len]; omega) ?_
            refine walk ?_
            refine y_storeE (a := a'.length) (vs := (nmC (a' ++ [y] ++ e :: (b ++ r))).set (a'.length + 1) (.string (str y.1))) (u := .string (str e.1)) (by rw [List.length_set, nmC_len]; omega) ?_
            rw [hset]
            refine walk ?_
            exact ag.toKS (ks := []) rfl (by repeat constructor)
        · have hya : ∀ z ∈ a' ++ [y], nf z.2 < nf e.2 := fun z hz => by
            have h1 : nf y.2 < nf e.2 := by omega
            rcases List.mem_append.1 hz with h | h
            · have h2 := (List.pairwise_append.1 (List.pairwise_append.1 q4).1).2.2 z h y (by simp)
              omega
            · rw [List.mem_singleton] at h; subst h; exact h1
          have ag := again (i + 1, a' ++ [y] ++ e :: (b ++ r), .int .i64 ((a'.length + 1 : Nat) : Int)) (by dsimp only; omega) ⟨by dsimp only; omega, q1, q2, ins_done (by rw [hL]; exact q3) q4 q5 hya⟩
          dsimp only at ag
          rw [decide_eq_false hlt]
          refine walk ?_
          exact ag.to rfl rfl
    · have hcs : cs' = srt := by
        refine List.Perm.eq_of_pairwise (le := fun a b => nf a.2 < nf b.2) (fun _ _ _ _ h1 h2 => absurd h1 (by omega)) ?_ hsrt (hpp'.trans hperm.symm)
        rw [List.take_of_length_le (by omega)] at hso
        exact hso
      subst hcs
      refine walk ?_
      refine e_roundsK (ι := Nat × List (List UInt8 × Nat) × WS × Value × Value × Value) (fun q => q.2.1.length)
        (fun q => [ptrV s.wg, ptrV x.g, ptrV par.g, undef, ptrV gd, undef, .nilIface, .nilIface, ptrV gc, u14, .func (.func 167) #[] #[ptrV gd, ptrV gc], .int .i64 (i : Nat), u17, undef, q.2.2.2.1, q.2.2.2.2.1, q.2.2.2.2.2])
        (fun q => [(74, .int .i64 (q.1 : Nat)), (73, .int .i64 (cs.length : Nat)), (72, .slice A cs.length c)])
        (fun q => [NodesP q.2.2.1.2, Own A c 9 1 cs.length (nmC cs'), Cells gc 41 [.slice A cs.length c], WP q.2.2.1.1, Cells gd 172 [ptrV x.g]])
        (fun q => q.1 ≤ cs.length ∧ cs'.drop q.1 = q.2.1 ∧ WRL (WR s.wg n) k x.g ks q.2.1 q.2.2.1 b) (0, cs', (s1, l1), undef, undef, undef) ⟨Nat.zero_le _, rfl, hrl⟩ rfl (by repeat constructor) (List.Perm.refl _) ?_
      rintro ⟨m, r, st, v14, v15, v16⟩ ⟨hm, hdr, hr⟩ again3
      dsimp only at hm hdr hr again3 ⊢
      cases hr with
      | nil =>
        have hmc : ¬ m < cs.length := fun h => by
          have := congrArg List.length hdr
          rw [List.length_drop, hcl] at this
          simp at this; omega
        refine walk ?_
        exact y_ret [6] rfl ⟨rfl, rfl⟩
      | @dir q r _ b1 _ j xa ya w1 w2 w3 w4 w5 w6 w7 w8 w9 w10 =>
        have hmc : m < cs.length := by
          have := congrArg List.length hdr
          rw [List.length_drop, hcl] at this
          simp at this; omega
        refine E.know (.there .here) (fun _ _ => Own.know) fun hkn => ?_
        obtain ⟨_, k2, k3, k4⟩ := hkn
        cases A with
        | none => have := k3 rfl; omega
        | some ad =>
        obtain ⟨go, rfl⟩ := k4 ad rfl
        have hq : cs'[m]? = some q := by
          have := congrArg (·[0]?) hdr
          simpa using this
        have hdr' : cs'.drop (m + 1) = r := by rw [← List.drop_drop, hdr]; rfl
        refine walk ?_
        refine y_loadE (a := m) (vs := nmC cs') (v := .string (str q.1)) (by simp [nmC, hq]) ?_
        rw [← w2]
        refine y_tno5 (NodesP.opK w1 w3) fun A1 c1 A2 c2 gm _ => ?_
        refine walk ?_
        refine y_lookS w4 ?_
        refine walk ?_
        refine y_tno (NodesP.clK (l := st.2) xa (List.getElem?_eq_some_iff.1 w1).1 w3 rfl) fun _ _ => ?_
        rw [set_same w1, w2, ← w6]
        refine y_callq rfl rfl (isDir_fn ya.g ya.mode (NodesP st.2) w7 (NodesP.cell w5 6 _ fun _ => rfl)) ?_
        rw [decide_eq_true w8, w6]
        have ag := again3 (m + 1, r, b1, .string (str q.1), ptrV q.2, .nilIface) (by simp) ⟨by dsimp only; omega, hdr', w10⟩
        dsimp only at ag
        refine walk ?_
        refine y_callD rfl rfl (ih st b1 j q.2 k x.g w9) ?_
        refine walk ?_
        exact ag.toKS (ks := [74, 73, 72]) rfl (by repeat constructor)
      | @file q r _ _ j xa ya w1 w2 w3 w4 w5 w6 w7 w8 w9 =>
        have hmc : m < cs.length := by
          have := congrArg List.length hdr
          rw [List.length_drop, hcl] at this
          simp at this; omega
        refine E.know (.there .here) (fun _ _ => Own.know) fun hkn => ?_
        obtain ⟨_, k2, k3, k4⟩ := hkn
        cases A with
        | none => have := k3 rfl; omega
        | some ad =>
        obtain ⟨go, rfl⟩ := k4 ad rfl
        have hq : cs'[m]? = some q := by
          have := congrArg (·[0]?) hdr
          simpa using this
        have hdr' : cs'.drop (m + 1) = r := by rw [← List.drop_drop, hdr]; rfl
        refine walk ?_
        refine y_loadE (a := m) (vs := nmC cs') (v := .string (str q.1)) (by simp [nmC, hq]) ?_
        rw [← w2]
        refine y_tno5 (NodesP.opK w1 w3) fun A1 c1 A2 c2 gm _ => ?_
        refine walk ?_
        refine y_lookS w4 ?_
        refine walk ?_
        refine y_tno (NodesP.clK (l := st.2) xa (List.getElem?_eq_some_iff.1 w1).1 w3 rfl) fun _ _ => ?_
        rw [set_same w1, w2, ← w6]
        refine y_callq rfl rfl (isDir_fn ya.g ya.mode (NodesP st.2) w7 (NodesP.cell w5 6 _ fun _ => rfl)) ?_
        rw [decide_eq_false w8, w6]
        have ag := again3 (m + 1, r, st, .string (str q.1), ptrV q.2, v16) (by simp) ⟨by dsimp only; omega, hdr', w9⟩
        dsimp only at ag
        refine walk ?_
        exact ag.toKS (ks := [74, 73, 72]) rfl (by repeat constructor)
end Go.Proofs.YtppkiiomedembaaGreatDoor
namespace Go.Proofs.YtppkiiomedembaaGreatDoor
open Go
set_option maxRecDepth 100000
set_option maxHeartbeats 4000000
attribute [local irreducible] E EO
def gcN (b n p : Nat) : Nat := (max b ((n - 1) / p * (32768 - p * 256 / 4096 - 2) + 1) + (32768 - p * 256 / 4096 - 2) - 1) / (32768 - p * 256 / 4096 - 2)
theorem gc_fn (b n p : Nat) (hb : b ≤ 30000) (hn1 : 1 ≤ n) (hn : n ≤ 100000) (hp : 16 ≤ p) (hp2 : p ≤ 32768) :
    Fd Tryz.prog 168 #[.int .u32 (b : Int), .int .u32 (n : Int), .int .u32 (p : Int)] [] (.int .u32 (gcN b n p : Nat)) [] := by
  have h1 : (n - 1) / p ≤ 6249 := by
    refine Nat.le_trans (Nat.div_le_div_left hp (by omega)) ?_
    omega
  have h2 : (n - 1) / p * (32768 - p * 256 / 4096 - 2) ≤ 6249 * 32768 := Nat.mul_le_mul h1 (by omega)
  refine fn_of_E' (args := [_, _, _]) 10 _ [_, _, _, undef, undef, undef, undef, undef, undef, undef] Tryz.func168 rfl Tryz.ntmps168 ?_
  have e1 : (n - 1) / p % 4294967296 = (n - 1) / p := Nat.mod_eq_of_lt (by omega)
  have e2 : (n - 1) / p * (32768 - p * 256 / 4096 - 2) % 4294967296 = (n - 1) / p * (32768 - p * 256 / 4096 - 2) := Nat.mod_eq_of_lt (by omega)
  refine walk ?_
  generalize hm : (n - 1) / p * (32768 - p * 256 / 4096 - 2) = m at h2
  by_cases h : b < m + 1
  · rw [decide_eq_true (show (b : Int) < ((m + 1 : Nat) : Int) by omega)]
    refine walk ?_
    refine y_ret [6] rfl ⟨?_, rfl⟩
    unfold gcN
    rw [hm, Nat.max_eq_right (by omega)]
    refine congrArg (fun z : Nat => Value.int .u32 (z : Int)) (Nat.mod_eq_of_lt (Nat.lt_of_le_of_lt (Nat.div_le_self _ _) (by omega)))
  · rw [decide_eq_false (show ¬ (b : Int) < ((m + 1 : Nat) : Int) by omega)]
    refine walk ?_
    refine y_ret [6] rfl ⟨?_, rfl⟩
    unfold gcN
    rw [hm, Nat.max_eq_left (by omega)]
    refine congrArg (fun z : Nat => Value.int .u32 (z : Int)) (Nat.mod_eq_of_lt (Nat.lt_of_le_of_lt (Nat.div_le_self _ _) (by omega)))
theorem gcN_two {b n p : Nat} (hp : 16 ≤ p) (hp2 : p ≤ 32768) (h : p < n) : 2 ≤ gcN b n p := by
  unfold gcN
  generalize hd : 32768 - p * 256 / 4096 - 2 = d
  have hd0 : 0 < d := by omega
  have h1 : 1 ≤ (n - 1) / p := (Nat.le_div_iff_mul_le (by omega)).2 (by omega)
  have h2 : d ≤ (n - 1) / p * d := Nat.le_mul_of_pos_left _ h1
  rw [Nat.le_div_iff_mul_le hd0]
  omega
theorem gcN_one {b n p : Nat} (hp : 16 ≤ p) (hp2 : p ≤ 32768) (hb : b ≤ 30000) (hb1 : 1 ≤ b) (hn1 : 1 ≤ n) (h : n ≤ p) : gcN b n p = 1 := by
  unfold gcN
  have h1 : (n - 1) / p = 0 := Nat.div_eq_of_lt (by omega)
  rw [h1, Nat.zero_mul, Nat.max_eq_left (by omega)]
  generalize hd : 32768 - p * 256 / 4096 - 2 = d
  have hd0 : 30000 ≤ d := by omega
  refine Nat.div_eq_of_lt_le ?_ ?_ <;> omega
def up16 (n : Nat) : Nat := (n + 15) / 16 * 16
theorem bgc_fn (b n : Nat) (hb : b ≤ 30000) (hb1 : 1 ≤ b) (hn1 : 1 ≤ n) (hn : n ≤ 30000) :
    Fd Tryz.prog 113 #[.int .u32 (b : Int), .int .u32 (n : Int)] [] (.tuple #[.int .u32 1, .int .u32 (up16 n : Nat)]) [] := by
  have hq : up16 n ≤ 30016 ∧ n ≤ up16 n ∧ up16 n < n + 16 ∧ up16 n % 16 = 0 ∧ 16 ≤ up16 n := by unfold up16; omega
  generalize up16 n = q at hq ⊢
  obtain ⟨q1, q2, q3, q4, q5⟩ := hq
  refine fn_of_E' (args := [_, _]) 8 _ [_, _, undef, undef, undef, undef, undef, undef] Tryz.func113 rfl Tryz.ntmps113 ?_
  refine walk ?_
  refine e_rounds (ι := Nat × Nat × Nat × Value) (fun i => 32784 - i.1)
    (fun i => [.int .u32 (b : Int), .int .u32 (n : Int), undef, undef, .int .u32 (i.2.1 : Nat), .int .u32 (i.2.2.1 : Nat), .int .u32 (i.1 : Nat), i.2.2.2])
    (fun _ => []) (fun i => 16 ≤ i.1 ∧ i.1 % 16 = 0 ∧ i.1 ≤ 32784 ∧ if i.1 ≤ q then 2 ≤ i.2.1 ∧ i.2.1 ≤ 4294967295 ∧ i.2.2.1 ≤ 100000 else i.2.1 = 1 ∧ i.2.2.1 = q)
    (16, 4294967295, 0, undef) ⟨by omega, by omega, by omega, by rw [if_pos (by omega)]; dsimp only; omega⟩ rfl (List.Perm.refl _) ?_
  rintro ⟨p, g, r, v⟩ ⟨i1, i2, i3, i4⟩ again
  dsimp only at i1 i2 i3 i4 again ⊢
  by_cases hle : p ≤ 32768
  · refine walk ?_
    refine y_callD rfl rfl (gc_fn b n p hb hn1 (by omega) i1 hle) ?_
    by_cases hpq : p ≤ q
    · rw [if_pos hpq] at i4
      by_cases hpn : p < q
      · have h2 := gcN_two (b := b) i1 hle (show p < n by omega)
        have h3 : gcN b n p ≤ 4294967295 := by
          unfold gcN
          have h1 : (n - 1) / p ≤ 1875 := by
            refine Nat.le_trans (Nat.div_le_div_left i1 (by omega)) ?_
            omega
          have h2 : (n - 1) / p * (32768 - p * 256 / 4096 - 2) ≤ 1875 * 32768 := Nat.mul_le_mul h1 (by omega)
          refine Nat.le_trans (Nat.div_le_self _ _) ?_
          omega
        generalize gcN b n p = gg at h2 h3 ⊢
        by_cases hlt : gg < g
        · have ag := again (p + 16, gg, p, .int .u32 (gg : Int)) (by dsimp only; omega) ⟨by dsimp only; omega, by dsimp only; omega, by dsimp only; omega, by dsimp only; rw [if_pos (by omega)]; omega⟩
          dsimp only at ag
          refine walk ?_
          exact ag.to rfl rfl
        · have ag := again (p + 16, g, r, .int .u32 (gg : Int)) (by dsimp only; omega) ⟨by dsimp only; omega, by dsimp only; omega, by dsimp only; omega, by dsimp only; rw [if_pos (by omega)]; omega⟩
          dsimp only at ag
          refine walk ?_
          exact ag.to rfl rfl
      · have e : p = q := by omega
        rw [gcN_one i1 hle hb hb1 hn1 (by omega)]
        have ag := again (p + 16, 1, p, .int .u32 ((1 : Nat) : Int)) (by dsimp only; omega) ⟨by dsimp only; omega, by dsimp only; omega, by dsimp only; omega, by dsimp only; rw [if_neg (by omega)]; exact ⟨rfl, e⟩⟩
        dsimp only at ag
        refine walk ?_
        exact ag.to rfl rfl
    · rw [if_neg hpq] at i4
      rw [gcN_one i1 hle hb hb1 hn1 (by omega), i4.1]
      have ag := again (p + 16, 1, r, .int .u32 ((1 : Nat) : Int)) (by dsimp only; omega) ⟨by dsimp only; omega, by dsimp only; omega, by dsimp only; omega, by dsimp only; rw [if_neg (by omega)]; exact ⟨rfl, i4.2⟩⟩
      dsimp only at ag
      refine walk ?_
      exact ag.to rfl rfl
  · rw [if_neg (by omega)] at i4
    refine walk ?_
    rw [i4.1, i4.2]
    exact y_ret [4, 5] rfl ⟨rfl, rfl⟩
end Go.Proofs.YtppkiiomedembaaGreatDoor
namespace Go.Proofs.YtppkiiomedembaaGreatDoor
open Go
set_option maxRecDepth 100000
set_option maxHeartbeats 4000000
attribute [local irreducible] E EO
instance : ZeroOf Tryz.prog 288 [.int .u16 0, .int .u16 0, .int .u32 0, .int .u32 0, .int .u32 0, .int .u32 0, .int .u32 0, .int .u16 0, .int .u16 0, .int .u32 0, .int .u32 0, .int .u32 0, .int .u8 0, .int .u8 0, .int .u8 0, .int .u8 0, .int .u8 0, .int .u8 0, .int .u8 0, .int .u8 0, .int .u8 0, .int .u8 0, .int .u8 0, .int .u8 0, .int .u8 0, .int .u8 0, .int .u8 0, .int .u8 0, .int .u8 0, .int .u8 0, .int .u8 0, .int .u8 0, .int .u8 0, .int .u8 0, .int .u8 0, .int .u8 0, .int .u8 0, .int .u8 0, .int .u8 0, .int .u8 0, .int .u8 0, .int .u8 0, .int .u8 0, .int .u8 0, .int .u8 0, .int .u8 0, .int .u8 0, .int .u8 0, .int .u8 0, .int .u8 0, .int .u8 0, .int .u8 0, .int .u8 0, .int .u8 0, .int .u8 0, .int .u8 0, .int .u8 0, .int .u8 0, .int .u8 0, .int .u8 0, .int .u8 0, .int .u8 0, .int .u8 0, .int .u8 0, .int .u8 0, .int .u8 0, .int .u8 0, .int .u8 0, .int .u8 0, .int .u8 0, .int .u8 0, .int .u8 0, .int .u32 0, .int .u32 0, .int .u32 0, .int .u32 0, .int .u16 0, .int .u16 0, .int .u16 0, .int .u16 0, .int .u16 0, .int .u16 0, .int .u16 0, .int .u16 0, .int .u32 0, .int .u32 0, .int .u32 0, .int .u32 0, .int .u32 0, .int .u32 0, .int .u32 0] := ⟨by kernel_rfl⟩
def blkB (d : List UInt8) : List UInt8 := d.take 60 ++ List.replicate (60 - d.length) 0
theorem blkB_len (d : List UInt8) : (blkB d).length = 60 := by simp [blkB]; omega
def xinT (x : Nd) : List UInt8 := if x.data.length ≤ 60 then x.xin else putX x.xin [100, 97, 116, 97] (x.data.drop 60)
abbrev inoCA (x : Nd) : List Value := [.int .u16 (x.mode : Int), .int .u16 ((x.uid &&& 65535) % 65536 : Nat), .int .u32 ((x.size &&& 4294967295) % 4294967296 : Nat), .int .u32 (0 : Nat), .int .u32 (0 : Nat), .int .u32 (0 : Nat), .int .u32 0, .int .u16 ((x.gid &&& 65535) % 65536 : Nat), .int .u16 (x.links : Int), .int .u32 (x.blks : Int), .int .u32 (x.flags : Int), .int .u32 0]
abbrev inoCB (x : Nd) : List Value := [.int .u32 0, .int .u32 0, .int .u32 (x.size / 2 ^ 32 : Nat), .int .u32 0, .int .u16 0, .int .u16 0, .int .u16 (x.uid / 2 ^ 16 : Nat), .int .u16 (x.gid / 2 ^ 16 : Nat), .int .u16 0, .int .u16 0, .int .u16 24, .int .u16 0, .int .u32 (0 / 2 ^ 32 : Nat), .int .u32 (0 / 2 ^ 32 : Nat), .int .u32 (0 / 2 ^ 32 : Nat), .int .u32 (0 : Nat), .int .u32 (0 / 2 ^ 32 : Nat), .int .u32 0, .int .u32 0]
abbrev inoF (x : Nd) : List UInt8 := inodeB x.mode ((x.uid &&& 65535) % 65536) ((x.size &&& 4294967295) % 4294967296) 0 0 0 ((x.gid &&& 65535) % 65536) x.links x.blks x.flags (blkB x.data) 0 (x.size / 2 ^ 32) (x.uid / 2 ^ 16) (x.gid / 2 ^ 16) 24 (0 / 2 ^ 32) (0 / 2 ^ 32) (0 / 2 ^ 32) 0 (0 / 2 ^ 32)
def inoB (x : Nd) : List UInt8 := (inoF x).take 152 ++ xinT x ++ List.replicate (104 - x.xin.length) 0
structure InoOk (x : Nd) : Prop where
  md : x.mode < 65536
  ty : x.mode &&& 61440 = 16384 ∨ x.mode &&& 61440 = 32768
  ui : x.uid < 4294967296
  gi : x.gid < 4294967296
  sz : x.size < 1000000000000
  lk : x.links < 65536
  bk : x.blks < 4294967296
  fl : x.flags < 4294967296
  dl : x.data.length ≤ 136
  xl : x.xin.length = 104 ∨ x.xin = [] ∧ x.data.length ≤ 60
theorem xinT_len {x : Nd} (h : x.xin.length = 104 ∨ x.xin = [] ∧ x.data.length ≤ 60) (hd : x.data.length ≤ 136) : (xinT x).length = x.xin.length := by
  unfold xinT
  split
  · rfl
  · rcases h with h | ⟨_, h⟩
    · rw [putX_len _ _ _ h rfl (by simp; omega), h]
    · omega
theorem inodeB_len (md ui sl at_ ct mt gi lk bk fl : Nat) (blk : List UInt8) (xb sh uh gh xi cx mx ax cr cq : Nat) (h : blk.length = 60) : (inodeB md ui sl at_ ct mt gi lk bk fl blk xb sh uh gh xi cx mx ax cr cq).length = 160 := by
  unfold inodeB
  simp only [List.length_append, leB_len, h, List.length_nil]
theorem inoF_len (x : Nd) : (inoF x).length = 160 := inodeB_len _ _ _ _ _ _ _ _ _ _ _ _ _ _ _ _ _ _ _ _ _ (blkB_len _)
theorem inoB_len {x : Nd} (h : x.xin.length = 104 ∨ x.xin = [] ∧ x.data.length ≤ 60) (hd : x.data.length ≤ 136) : (inoB x).length = 256 := by
  have h1 := xinT_len h hd
  have h2 : x.xin.length ≤ 104 := by rcases h with h | ⟨h, _⟩ <;> simp [h]
  simp only [inoB, List.length_append, List.length_take, inoF_len, h1, List.length_replicate]
  omega
theorem ovw_mid {A B us : List Value} {z : Value} {n o : Nat} (ho : A.length = o) (hu : us.length ≤ n) : ovw (A ++ (List.replicate n z ++ B)) o us = A ++ ((us ++ List.replicate (n - us.length) z) ++ B) := by
  subst ho
  unfold ovw
  rw [List.take_left, List.drop_append, List.drop_of_length_le (by omega), List.nil_append, show A.length + us.length - A.length = us.length by omega, List.drop_append, List.drop_replicate, List.length_replicate,
    show us.length - n = 0 by omega, List.drop_zero]
  simp
inductive TWt : List (Option Nat) → List Nd → List UInt8 → List Nd → Prop
  | nil {l : List Nd} : TWt [] l [] l
  | no {r : List (Option Nat)} {l l' : List Nd} {b : List UInt8} : TWt r l b l' → TWt (none :: r) l (List.replicate 256 0 ++ b) l'
  | yes {r : List (Option Nat)} {l l' : List Nd} {b : List UInt8} {j : Nat} {x : Nd} : l[j]? = some x → InoOk x → TWt r (l.set j { x with xin := xinT x }) b l' → TWt (some x.g :: r) l (inoB x ++ b) l'
theorem e_joinK {X : Fx} {k : List Item} {loc : List Value} {tmp : List (Nat × Value)} {L : List HP} {c : Operand} {x y : Code} {t : Bool} {ι : Type} (loI : ι → List Value) (tmI : ι → List (Nat × Value)) (LI : ι → List HP) (PI : ι → Prop) (hc : sv loc tmp c = some (.bool t))
    (rest : ∀ i, PI i → E X k (loI i) (tmI i) (LI i))
    (ht : t = true → (∀ i, PI i → E X k (loI i) (tmI i) (LI i)) → E X (.code x :: k) loc tmp L) (hf : t = false → (∀ i, PI i → E X k (loI i) (tmI i) (LI i)) → E X (.code y :: k) loc tmp L) : E X (.code (.cond c x y) :: k) loc tmp L :=
  e_cond hc (fun h => ht h rest) (fun h => hf h rest)
theorem Own.shrink {A : Option Addr} {c e n m : Nat} {vs : List Value} (hm : m ≤ n) : Tn [Own A c e 1 n vs] (fun _ : Unit => True) (fun _ => [Own A c e 1 m (vs.take m)]) := .one fun M S h => by
  obtain ⟨h1, h2, h3, h4⟩ := h
  refine ⟨(), trivial, sats_one ⟨by simp; omega, by omega, h3, ?_⟩⟩
  rcases h4 with h4 | ⟨g, junk, a1, a2, a3, a4⟩
  · exact .inl h4
  · exact .inr ⟨g, vs.drop m ++ junk, a1, a2, by rw [← List.append_assoc, List.take_append_drop]; exact a3, by rw [← List.append_assoc, List.take_append_drop]; exact a4⟩
theorem Rd.ownSuf {g c n o : Nat} {b : List UInt8} (h : b.length = n) : Rd [Own (some ⟨g, 0, none⟩) c 5 1 n (enc b)] (some ⟨g, o, none⟩) (n - o) 1 (enc (b.drop o)) := by
  refine ⟨by simp [enc_len, h], .inr ⟨g, o, rfl, fun j v hj => ?_⟩⟩
  rw [enc_drop, List.getElem?_drop] at hj
  simpa using (CellRow.own (g := g) (c := c) (e := 5) (sz := 1) (n := n) (vs := enc b) (L := [])) (o + j) v hj
theorem Own.rd {A : Option Addr} {c e n : Nat} {vs : List Value} (hk : vs.length = n * 1 ∧ n ≤ c ∧ (A = none → c = 0) ∧ ∀ a, A = some a → ∃ g, a = ⟨g, 0, none⟩) : Rd [Own A c e 1 n vs] A n 1 vs := by
  obtain ⟨k1, k2, k3, k4⟩ := hk
  cases A with
  | none =>
    have := k3 rfl
    exact ⟨k1, .inl (by omega)⟩
  | some a =>
    obtain ⟨g, rfl⟩ := k4 a rfl
    exact Rd.own (by omega)
theorem Own.tnk {A : Option Addr} {c e n : Nat} {vs : List Value} : Tn [Own A c e 1 n vs] (fun _ : Unit => vs.length = n * 1 ∧ n ≤ c ∧ (A = none → c = 0) ∧ ∀ a, A = some a → ∃ g, a = ⟨g, 0, none⟩) (fun _ => [Own A c e 1 n vs]) := fun m S h => ⟨(), S, Own.know (sats_one' h), h, fun _ h => h⟩
theorem wit_fn (s : Ws) (l l' : List Nd) (T : Nat) (b : List UInt8) (ht : TWt s.ids l b l') (hb : s.body.length ≤ 500000000) (hids : s.ids.length ≤ 100000) (hT : s.ids.length * 256 ≤ T) (hT2 : T ≤ 100000000) (hne : s.ids ≠ []) :
    Fd Tryz.prog 114 #[ptrV s.wg, .int .u32 (T : Int)] [WP s, NodesP l] .nilIface [WP { s with body := s.body ++ b ++ List.replicate (T - s.ids.length * 256) 0 }, NodesP l'] := by
  refine fn_of_E' (args := [_, _]) 17 _ [_, _, undef, undef, undef, undef, undef, undef, undef, undef, undef, undef, undef, undef, undef, undef, undef] Tryz.func114 rfl Tryz.ntmps114 ?_
  refine y_tn2 WP.op fun A c _ => ?_
  refine walk ?_
  refine e_roundsK (ι := Nat × List (Option Nat) × List Nd × List UInt8 × List UInt8 × Value × Value × Value × Value × Value × Value × Value × Value) (fun q => q.2.1.length)
    (fun q => [ptrV s.wg, .int .u32 (T : Int), undef, undef, .nilIface, undef, q.2.2.2.2.2.1, q.2.2.2.2.2.2.1, q.2.2.2.2.2.2.2.1, q.2.2.2.2.2.2.2.2.1, q.2.2.2.2.2.2.2.2.2.1, q.2.2.2.2.2.2.2.2.2.2.1, q.2.2.2.2.2.2.2.2.2.2.2.1, q.2.2.2.2.2.2.2.2.2.2.2.2, undef, undef, undef])
    (fun q => [(22, .int .i64 (q.1 : Nat)), (21, .int .i64 (s.ids.length : Nat)), (20, .slice A s.ids.length c)])
    (fun q => [Cells s.wg 174 [ptrV s.dg, .slice A s.ids.length c, .string s.cname, optV s.cur, .int .i64 ((8192 + (s.body ++ q.2.2.2.1).length : Nat) : Int), .int .i64 (s.dw : Int), .int .i64 (s.dm : Int), .nilIface, .bool true, .bool s.inl, .int .i64 ((17179869184 : Nat) : Int), .int .u32 1],
      Own A c 172 1 s.ids.length (s.ids.map optV), DiskP s.dg (8192 + (s.body ++ q.2.2.2.1).length) (mkB (s.body ++ q.2.2.2.1)), NodesP q.2.2.1])
    (fun q => q.1 ≤ s.ids.length ∧ s.ids.drop q.1 = q.2.1 ∧ TWt q.2.1 q.2.2.1 q.2.2.2.2.1 l' ∧ q.2.2.2.1 ++ q.2.2.2.2.1 = b ∧ q.2.2.2.1.length = q.1 * 256)
    (0, s.ids, l, [], b, undef, undef, undef, undef, undef, undef, undef, undef) ⟨Nat.zero_le _, rfl, ht, rfl, rfl⟩ rfl (by repeat constructor) (List.Perm.of_eq (by simp)) ?_
  rintro ⟨i, r, l1, d, b1, v6, v7, v8, v9, v10, v11, v12, v13⟩ ⟨hi, hdr, hr, hdb, hdl⟩ again
  dsimp only at hi hdr hr hdb hdl again ⊢
  refine E.know (.there .here) (fun _ _ => Own.know) fun hkn => ?_
  obtain ⟨_, k2, k3, k4⟩ := hkn
  cases A with
  | none => have := k3 rfl; have := List.length_pos_iff.2 hne; omega
  | some ad =>
  obtain ⟨go, rfl⟩ := k4 ad rfl
  cases hr with
  | nil =>
    have hic : ¬ i < s.ids.length := fun h => by
      have := congrArg List.length hdr
      simp at this; omega
    have hil : i = s.ids.length := by omega
    subst hil
    simp only [List.append_nil] at hdb
    subst hdb
    refine walk ?_
    refine y_tno (WP.cl { s with body := s.body ++ d }) fun _ _ => ?_
    by_cases h0 : T - s.ids.length * 256 = 0
    · rw [h0, List.replicate_zero, List.append_nil]
      refine y_callD rfl rfl (zero0_w { s with body := s.body ++ d } (fun h => by have h1 := congrArg List.length h; have h2 := List.length_pos_iff.2 hne; simp only [List.length_append, List.length_nil] at h1; omega) (by simp; omega)) ?_
      refine walk ?_
      exact y_ret [4] rfl ⟨rfl, rfl⟩
    · refine y_callD rfl rfl (zero_w { s with body := s.body ++ d } (T - s.ids.length * 256) (by omega) (by simp; omega)) ?_
      refine walk ?_
      exact y_ret [4] rfl ⟨rfl, rfl⟩
  | @no r _ _ b2 hr =>
    have hic : i < s.ids.length := by
      have := congrArg List.length hdr
      simp at this; omega
    have hdr' : s.ids.drop (i + 1) = r := by rw [← List.drop_drop, hdr]; rfl
    have hq : s.ids[i]? = some none := by
      have := congrArg (·[0]?) hdr
      simpa using this
    refine walk ?_
    refine y_loadE (a := i) (vs := s.ids.map optV) (v := .pointer none) (by simp [hq, optV]) ?_
    refine walk ?_
    refine y_make rfl rfl fun g => ?_
    refine walk ?_
    refine y_callD rfl rfl (write_fn s.wg s.dg (8192 + (s.body ++ d).length) (mkB (s.body ++ d)) (List.replicate 256 0) (some ⟨g, 0, none⟩) 256 256 17179869184 (Own (some ⟨g, 0, none⟩) 256 5 1 256 (List.replicate 256 (.int .u8 0))) _ _ _ _ _ _ _ _ (Rd.zeros (Nat.le_refl _)) (by simp) (by omega) (by simp; omega) (by omega)) ?_
    rw [lay_mk _ _ (by simp), List.append_assoc s.body d, show 8192 + (s.body ++ d).length + 256 = 8192 + (s.body ++ (d ++ List.replicate 256 0)).length by simp; omega]
    have ag := again (i + 1, r, l1, d ++ List.replicate 256 0, b2, .pointer none, .slice (some ⟨g, 0, none⟩) 256 256, v8, v9, v10, v11, .int .i64 ((256 : Nat) : Int), .nilIface) (by simp) ⟨by dsimp only; omega, hdr', hr, by simpa using hdb, by simp; omega⟩
    dsimp only at ag
    refine walk ?_
    exact ag.toKS (ks := [22, 21, 20]) rfl (by repeat constructor)
  | @yes r _ _ b2 j x hj hx hr =>
    have hic : i < s.ids.length := by
      have := congrArg List.length hdr
      simp at this; omega
    have hdr' : s.ids.drop (i + 1) = r := by rw [← List.drop_drop, hdr]; rfl
    have hq : s.ids[i]? = some (some x.g) := by
      have := congrArg (·[0]?) hdr
      simpa using this
    refine walk ?_
    refine y_loadE (a := i) (vs := s.ids.map optV) (v := ptrV x.g) (by simp [hq, optV]) ?_
    refine walk ?_
    obtain ⟨hmd, hty, hui, hgi, hsz, hlk, hbk, hfl, hdl2, hxl⟩ := hx
    refine y_tno (NodesP.open hj) fun _ _ => ?_
    refine y_tno5 NodeP.op fun B1 c1 B2 c2 gm _ => ?_
    refine EO.know take_ (A := Own B1 c1 5 1 x.data.length (enc x.data)) (fun _ _ => Own.know) fun hk1 => ?_
    refine EO.know take_ (A := Own B2 c2 5 1 x.xin.length (enc x.xin)) (fun _ _ => Own.know) fun hk2 => ?_
    refine walk ?_
    refine y_alloc fun gb => ?_
    have hmin : min x.data.length 60 ≤ 60 := Nat.min_le_right _ _
    have hxt := xinT_len hxl hdl2
    have hx104 : x.xin.length ≤ 104 := by rcases hxl with h | ⟨h, _⟩ <;> simp [h]
    refine walk ?_
    have ecell : ovw (inoCA x ++ (List.replicate 60 (.int .u8 0) ++ inoCB x)) (0 + 12) (List.take 60 (enc x.data)) = inoCA x ++ (enc (blkB x.data) ++ inoCB x) := by
      rw [ovw_mid (o := 0 + 12) rfl (by simp; omega), blkB, enc_app, enc_take, enc_zeros]
      simp [enc_len]
      omega
    refine e_joinK (ι := Unit) (fun _ => [ptrV s.wg, .int .u32 (T : Int), undef, undef, .nilIface, undef, ptrV x.g, .slice none 0 0, ptrV gb, v9, v10, v11, v12, v13, undef, undef, undef])
       (fun _ => [(135, .bool true), (22, .int .i64 (i : Nat)), (21, .int .i64 (s.ids.length : Nat)), (20, .slice (some ⟨go, 0, none⟩) s.ids.length c)])
       (fun _ => [Cells gb 288 (inoCA x ++ (List.replicate 60 (.int .u8 0) ++ inoCB x)), Cells x.g 187 [.int .i64 (x.size : Int), .int .u64 0, .int .u64 0, .int .u64 0, .int .u64 0, .int .u32 (x.num : Int), .int .u16 (x.mode : Int), .int .u32 (x.uid : Int), .int .u32 (x.gid : Int), .int .u32 (x.links : Int), .int .u32 0, .int .u32 (x.blks : Int), .int .u32 0, .int .u32 0,
  .int .u32 (x.flags : Int), .slice B1 x.data.length c1, .slice B2 x.xin.length c2, kidV x.kids gm], Own B1 c1 5 1 x.data.length (enc x.data), Own B2 c2 5 1 x.xin.length (enc x.xin), .star (kidL x.kids gm), NodesP (l1.eraseIdx j),
         Cells s.wg 174 [ptrV s.dg, .slice (some ⟨go, 0, none⟩) s.ids.length c, .string s.cname, optV s.cur, .int .i64 ((8192 + (s.body ++ d).length : Nat) : Int), .int .i64 (s.dw : Int), .int .i64 (s.dm : Int), .nilIface, .bool true, .bool s.inl, .int .i64 ((17179869184 : Nat) : Int), .int .u32 1],
         Own (some ⟨go, 0, none⟩) c 172 1 s.ids.length (s.ids.map optV), DiskP s.dg (8192 + (s.body ++ d).length) (mkB (s.body ++ d))]) (fun _ => True) rfl (fun _ _ => ?_) (fun hc rest => ?_) (fun hc rest => ?_)
    rotate_left
    · rw [hc]
      refine e_skip ?_
      exact (rest () trivial).toK (ks := [135, 22, 21, 20]) rfl rfl (by repeat constructor)
    · have h1 := of_decide_eq_false hc
      have hty2 : x.mode &&& 61440 = 32768 := hty.resolve_left (fun h => h1 (by omega))
      refine e_seq ?_
      refine e_regionK ?_ (by first | ((repeat (first | exact KeepR.nil | apply KeepR.yes rfl | apply KeepR.no rfl)) <;> fail) | fail)
      refine walko ?_
      refine e_true rfl ?_
      refine e_skip ?_
      exact (rest () trivial).toK (ks := [135, 22, 21, 20]) rfl rfl (by repeat constructor)
    clear hty
    refine walk ?_
    refine x_copy (news := enc x.data) rfl rfl ((Own.rd hk1).take take_) enc_one (.cells (by simp [enc_len]; omega)) pt_ ?_
    rw [ecell]
    refine walk ?_
    refine e_joinK (ι := Value) (fun v10 => [ptrV s.wg, .int .u32 (T : Int), undef, undef, .nilIface, undef, ptrV x.g, .slice none 0 0, ptrV gb, .int .i64 (min x.data.length 60 : Nat), v10, v11, v12, v13, undef, undef, undef])
       (fun _ => [(22, .int .i64 (i : Nat)), (21, .int .i64 (s.ids.length : Nat)), (20, .slice (some ⟨go, 0, none⟩) s.ids.length c)])
       (fun _ => [Cells gb 288 (inoCA x ++ (enc (blkB x.data) ++ inoCB x)), Cells x.g 187 [.int .i64 (x.size : Int), .int .u64 0, .int .u64 0, .int .u64 0, .int .u64 0, .int .u32 (x.num : Int), .int .u16 (x.mode : Int), .int .u32 (x.uid : Int), .int .u32 (x.gid : Int), .int .u32 (x.links : Int), .int .u32 0, .int .u32 (x.blks : Int), .int .u32 0, .int .u32 0,
  .int .u32 (x.flags : Int), .slice B1 x.data.length c1, .slice B2 x.xin.length c2, kidV x.kids gm], Own B1 c1 5 1 x.data.length (enc x.data), Own B2 c2 5 1 x.xin.length (enc (xinT x)), .star (kidL x.kids gm), NodesP (l1.eraseIdx j),
         Cells s.wg 174 [ptrV s.dg, .slice (some ⟨go, 0, none⟩) s.ids.length c, .string s.cname, optV s.cur, .int .i64 ((8192 + (s.body ++ d).length : Nat) : Int), .int .i64 (s.dw : Int), .int .i64 (s.dm : Int), .nilIface, .bool true, .bool s.inl, .int .i64 ((17179869184 : Nat) : Int), .int .u32 1],
         Own (some ⟨go, 0, none⟩) c 172 1 s.ids.length (s.ids.map optV), DiskP s.dg (8192 + (s.body ++ d).length) (mkB (s.body ++ d))]) (fun _ => True) rfl (fun v10 _ => ?_) (fun hc rest => ?_) (fun hc rest => ?_)
    rotate_left
    · have h60 := of_decide_eq_true hc
      have hgt : 60 < x.data.length := by omega
      have hm60 : min x.data.length 60 = 60 := by omega
      have h104 : x.xin.length = 104 := by rcases hxl with h | ⟨_, h⟩ <;> omega
      have ext : xinT x = putX x.xin [100, 97, 116, 97] (x.data.drop 60) := by rw [xinT, if_neg (by omega)]
      cases B1 with
      | none => have := hk1.2.2.1 rfl; have := hk1.2.1; omega
      | some b1 =>
      obtain ⟨gd, rfl⟩ := hk1.2.2.2 b1 rfl
      cases B2 with
      | none => have := hk2.2.2.1 rfl; have := hk2.2.1; omega
      | some b2' =>
      obtain ⟨gx, rfl⟩ := hk2.2.2.2 b2' rfl
      have hc1 := hk1.2.1
      have hc2 := hk2.2.1
      rw [hm60, h104, ext] at rest
      rw [hm60, h104]
      refine walk ?_
      refine y_alloc fun gt => ?_
      refine walk ?_
      refine y_callD rfl rfl (putG_fn gt gx c2 1 (c2 - 4) (Cells gt 289 [.string ⟨#[100, 97, 116, 97]⟩, .int .u8 7, .slice (some ⟨gd, 0 + 60 * 1, none⟩) (x.data.length - 60) (c1 - 60)]) (some ⟨gd, 0 + 60 * 1, none⟩) (x.data.length - 60) (c1 - 60)
        (Own (some ⟨gd, 0, none⟩) c1 5 1 x.data.length (enc x.data)) [100, 97, 116, 97] (x.data.drop 60) x.xin CellRow.here (by omega) (by omega) h104 rfl (by simpa using Rd.ownSuf (g := gd) (c := c1) (n := x.data.length) (o := 60) (b := x.data) rfl) (by simp) (by omega) (by omega)) ?_
      refine x_end ?_
      exact (rest (ptrV gt) trivial).toKS (ks := [22, 21, 20]) rfl (by repeat constructor)
    · have h60 := of_decide_eq_false hc
      have hle : x.data.length ≤ 60 := by omega
      have ext : xinT x = x.xin := by rw [xinT, if_pos hle]
      rw [ext] at rest
      refine e_skip ?_
      exact (rest v10 trivial).toKS (ks := [22, 21, 20]) rfl (by repeat constructor)
    refine walk ?_
    refine x_loadA (vs := inoCA x ++ (enc (blkB x.data) ++ inoCB x)) rfl CellRow.here (by simp [enc_len, blkB_len]) pt_ ?_
    refine walk ?_
    refine y_callS rfl rfl (inodeBytes_fn x.mode ((x.uid &&& 65535) % 65536) ((x.size &&& 4294967295) % 4294967296) 0 0 0 ((x.gid &&& 65535) % 65536) x.links x.blks x.flags (blkB x.data) 0 (x.size / 2 ^ 32) (x.uid / 2 ^ 16) (x.gid / 2 ^ 16) 24 (0 / 2 ^ 32) (0 / 2 ^ 32) (0 / 2 ^ 32) 0 (0 / 2 ^ 32) (by rw [enc_len, blkB_len])
      hmd (by omega) (by omega) (by omega) (by omega) (by omega) (by omega) hlk hbk hfl (by omega) (by omega) (by omega) (by omega) (by omega) (by omega) (by omega) (by omega) (by omega) (by omega)) fun gy cy => ?_
    refine EO.know (A := Own (some ⟨gy, 0, none⟩) cy 5 1 160 (enc (inoF x))) take_ (fun _ _ => Own.know) fun hk3 => ?_
    have hcy := hk3.2.1
    refine walk ?_
    refine y_tno (Own.shrink (A := some ⟨gy, 0, none⟩) (c := cy) (n := 160) (m := 152) (vs := enc (inoF x)) (by omega)) fun _ _ => ?_
    refine EO.know (A := Own B2 c2 5 1 x.xin.length (enc (xinT x))) take_ (fun _ _ => Own.know) fun hk4 => ?_
    refine x_app (vs := (enc (inoF x)).take 152) (news := enc (xinT x)) rfl rfl take_ ((Own.rd hk4).take take_) (fun h => by have := hk4.2.2.1 h; have := hk4.2.1; omega) enc_one rfl (by omega) (by simp only [maxLen]; omega) (by omega) (fun A5 c5 => ⟨_, _, pt_, ?_⟩)
    refine walk ?_
    refine x_appZ (m := 104 - x.xin.length) rfl rfl rfl take_ rfl (by simp only [maxLen]; omega) (by omega) fun A6 c6 => ⟨_, _, pt_, ?_⟩
    have e256 : 152 + x.xin.length + (104 - x.xin.length) = 256 := by omega
    have eb : (enc (inoF x)).take 152 ++ enc (xinT x) ++ List.replicate (104 - x.xin.length) (Value.int .u8 0) = enc (inoB x) := by
      rw [inoB, enc_app, enc_app, enc_take, enc_zeros]
    rw [e256, eb]
    refine EO.know (A := Own A6 c6 5 1 256 (enc (inoB x))) take_ (fun _ _ => Own.know) fun hk5 => ?_
    refine walk ?_
    have hil := inoB_len hxl hdl2
    refine y_callD rfl rfl (write_fn s.wg s.dg (8192 + (s.body ++ d).length) (mkB (s.body ++ d)) (inoB x) A6 256 c6 17179869184 (Own A6 c6 5 1 256 (enc (inoB x))) _ _ _ _ _ _ _ _ (Own.rd hk5) hil (by omega) (by simp; omega) (by omega)) ?_
    rw [lay_mk _ _ (fun h => by rw [h] at hil; simp at hil), List.append_assoc s.body d, show 8192 + (s.body ++ d).length + 256 = 8192 + (s.body ++ (d ++ inoB x)).length by simp [hil]; omega]
    refine y_tno (NodeP.close (x := { x with xin := xinT x }) B1 c1 x.data.length (enc x.data) B2 c2 x.xin.length (enc (xinT x)) (kidV x.kids gm) (kidL x.kids gm) ⟨rfl, rfl, hxt.symm, rfl, gm, rfl, rfl⟩) fun _ _ => ?_
    refine y_tno (NodesP.close { x with xin := xinT x } (List.getElem?_eq_some_iff.1 hj).1) fun _ _ => ?_
    have ag := again (i + 1, r, l1.set j { x with xin := xinT x }, d ++ inoB x, b2, ptrV x.g, .slice A6 256 c6, ptrV gb, .int .i64 (min x.data.length 60 : Nat), v10, v11, .int .i64 ((256 : Nat) : Int), .nilIface) (by simp) ⟨by dsimp only; omega, hdr', hr, by simpa using hdb, by simp [hil]; omega⟩
    dsimp only at ag
    refine walk ?_
    exact ag.toKS (ks := [22, 21, 20]) rfl (by repeat constructor)
end Go.Proofs.YtppkiiomedembaaGreatDoor
