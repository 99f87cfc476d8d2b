/-
  The walks: a chain of directories is written; The walks: the chain's image is closed; The walks: the chain's image is closed: its bytes; The walks: a directory, a file in it, and its bytes in pieces; Plain facts: what an inode's bytes tell; Plain facts: the inodes of the chain are read; Plain facts: a small file within its inode; Plain facts: the file of the chain is read; Plain facts: the bytes of an image; Plain facts: the parts of an image; Plain facts: the chain of directories is read. Conditions: none.
-/
import Derived.Test.YtppkiiomedembaaGreatDoorM22
set_option linter.unusedVariables false
set_option linter.unusedSimpArgs false
namespace Go.Proofs.YtppkiiomedembaaGreatDoor
open Go
set_option maxRecDepth 100000
set_option maxHeartbeats 1000000
attribute [local irreducible] E EO
theorem padD_len' {n : Nat} (h : 8 ≤ n) : (padD n).length = n := by simp [padD, leB_len]; omega
theorem dirB_fit : ∀ (es : List (Nat × List UInt8 × Nat)) (n : Nat), (es.map fun e => rlN e.2.1).sum + 12 ≤ n → (dirB n es).length = n
  | [], n, h => by
    rw [dirB]; exact padD_len' (by simp at h; omega)
  | (num, nm, ft) :: r, n, h => by
    simp only [List.map_cons, List.sum_cons] at h
    rw [dirB, stepD, leftD, if_neg (by omega), if_neg (by omega), List.nil_append, List.length_append, entD_len, dirB_fit r (n - rlN nm) (by omega)]
    omega
theorem finishXN_w (s : Ws) (l : List Nd) (k : Nat) (x : Nd) (hx : l[k]? = some x) (hc : s.cur = some x.g) (h1 : s.dm = s.dw) (hd : 0 < s.dw) (hfl : x.flags &&& 268435456 = 0) (hf : x.flags < 4294967296) (hd2 : s.dw ≤ 100000000) (hle : s.dw ≤ s.body.length) (hal : (s.body.length - s.dw) % 4096 = 0) (hb : s.body.length ≤ 900000000) (hbl : x.blks ≤ 1000) :
    Fd Tryz.prog 91 #[ptrV s.wg] [WP s, NodesP l] .nilIface
      [WP { s with body := padB s.body, cur := none, dw := 0, dm := 0 }, NodesP (l.set k { x with data := extB (2 + (s.body.length - s.dw) / 4096) ((s.dw + 4095) / 4096), flags := x.flags ||| 524288, blks := x.blks + (s.dw + 4095) / 4096 })] := by
  refine y_fn (NodesP.open hx) fun _ _ => ?_
  exact ((finishX_w s x hc h1 hd hfl hf hd2 hle hal hb hbl).frame (L := [NodeP x, NodesP (l.eraseIdx k), WP s])).close (NodesP.close _ (List.getElem?_eq_some_iff.1 hx).1)
def finX (x : Nd) (b : Nat) : Nd := { x with data := extB b 1, flags := 786432, blks := 1 }
theorem finD_w (s : Ws) (l : List Nd) (k : Nat) (x : Nd) (m : Nat) (hx : l[k]? = some x) (hc : s.cur = some x.g) (h1 : s.dm = 4096) (h2 : s.dw = 4096) (hfl : x.flags = 262144) (hbl : x.blks = 0) (hb : s.body.length = (m + 1) * 4096) (hm : m ≤ 10000) :
    Fd Tryz.prog 91 #[ptrV s.wg] [WP s, NodesP l] .nilIface [WP { s with cur := none, dw := 0, dm := 0 }, NodesP (l.set k (finX x (2 + m)))] := by
  have h := finishXN_w s l k x hx hc (by omega) (by omega) (by rw [hfl]; decide) (by omega) (by omega) (by omega) (by omega) (by omega) (by omega)
  have e1 : padB s.body = s.body := by simp [padB, hb]
  have e2 : (s.body.length - s.dw) / 4096 = m := by rw [hb, h2]; omega
  rw [e1, e2, h2, hfl, hbl] at h
  exact h
def unfL : Nat → Nd → List Nd → List Nd
  | _, y, [] => [y]
  | b, y, x :: r => finX y b :: unfL (b + 1) { x with size := 4096 } r
def bytesC : Nat → Nat → List (List UInt8) → List UInt8
  | _, _, [] => []
  | _, _, [_] => []
  | par, num, _ :: c' :: r => dirB 4096 [(num, [46], 2), (par, [46, 46], 2), (num + 1, c', if r = [] then 1 else 2)] ++ bytesC num (num + 1) (c' :: r)
def curC : List (List UInt8 × Nat) → Nat
  | [] => 0
  | [_] => 0
  | (_, g) :: q :: r => if r = [] then g else curC (q :: r)
theorem ft_dir {md : Nat} (h : md &&& 61440 = 16384) : ftN md = 2 := by unfold ftN; rw [if_neg (by omega), if_pos h]
theorem ft_reg {md : Nat} (h : md &&& 61440 = 32768) : ftN md = 1 := by unfold ftN; rw [if_pos h]
theorem one_wr (wg md n : Nat) (hmd : md &&& 61440 = 16384) (hmd2 : md < 65536) (A T : List Nd) (y x par : Nd) (s : Ws) (p m : Nat) (c' : List UInt8) (g' mc j : Nat) (z : Nd) (b : WS) (hwg : s.wg = wg) (hcur : s.cur = some y.g) (hdw : s.dw = 4096) (hdm : s.dm = 4096) (hyf : y.flags = 262144) (hyb : y.blks = 0) (hb : s.body.length = (m + 1) * 4096) (hm : m ≤ 1000) (hids : s.ids.length ≤ 100000000)
    (hpar : (A ++ [finX y (2 + m)])[p]? = some par) (hpm : par.mode &&& 61440 = 16384) (hpm2 : par.mode < 65536) (hpg : getI s.ids par.num = some par.g) (hpn : par.num < 4294967296)
    (hxk : x.kids = some [(c', g')]) (hxm : x.mode = md) (hxf : x.flags = 262144) (hxg : getI s.ids x.num = some x.g) (hxn : x.num ≤ 10000) (hc : c'.length ≤ 255)
    (hz : T[j]? = some z) (hzg : z.g = g') (hzn : z.num = x.num + 1) (hzm : z.mode = mc) (hmc : mc < 65536) (hzi : getI s.ids (x.num + 1) = some g')
    (hrl : WRL (WR wg n) (A.length + 1) x.g [(c', g')] [(c', g')] ({ s with cname := ⟨#[]⟩, cur := some x.g, dw := 4096, dm := 4096, body := s.body ++ dirB 4096 [(x.num, [46], 2), (par.num, [46, 46], 2), (x.num + 1, c', ftN mc)] }, A ++ [finX y (2 + m)] ++ { x with size := 4096 } :: T) b) :
    WR wg (n + 1) (s, A ++ y :: x :: T) (A.length + 1) x.g p par.g b := by
  have hy : (A ++ y :: x :: T)[A.length]? = some y := by simp
  have hfin := finD_w s _ A.length y m hy hcur hdm hdw hyf hyb hb (by omega)
  have hl : (A ++ y :: x :: T).set A.length (finX y (2 + m)) = (A ++ [finX y (2 + m)]) ++ x :: T := by
    rw [List.set_append_right _ _ (by omega)]; simp
  rw [hl] at hfin
  have hx : ((A ++ [finX y (2 + m)]) ++ x :: T)[A.length + 1]? = some x := by
    rw [List.getElem?_append_right (by simp)]; simp
  have hD : dirD x par [(c', g')] (fun _ => x.num + 1) (fun _ => mc) = dirB 4096 [(x.num, [46], 2), (par.num, [46, 46], 2), (x.num + 1, c', ftN mc)] := by
    show dirB 4096 [(x.num, [46], ftN x.mode), (par.num, [46, 46], ftN par.mode), (x.num + 1, c', ftN mc)] = _
    rw [hxm, ft_dir hpm, ft_dir hmd]
  have hDl : (dirB 4096 [(x.num, [46], 2), (par.num, [46, 46], 2), (x.num + 1, c', ftN mc)]).length = 4096 := dirB_fit _ _ (by simp [rlN]; omega)
  refine ⟨{ s with cur := none, dw := 0, dm := 0 }, (A ++ [finX y (2 + m)]) ++ x :: T, x, par, [(c', g')], [(c', g')], fun _ => x.num + 1, fun _ => mc, hwg, rfl, rfl, hfin, ⟨rfl, hx, ?_, hxk, ?_, List.Perm.refl _, by simp, by simp, hxg, hpg, by omega, hpn, by omega, by omega, hids, by dsimp only; omega, by rw [hxf]; decide, by rw [hxf]; decide⟩, ?_⟩
  · rw [List.getElem?_append_left (List.getElem?_eq_some_iff.1 hpar).1]; exact hpar
  · intro q hq
    have hq' : q = (c', g') := by simpa using hq
    subst hq'
    refine ⟨by simp [look, kidE], hc, A.length + 1 + 1 + j, z, ?_, hzg, hzn, hzm, by rw [hzn, hzg]; exact hzi, by omega, by omega⟩
    rw [List.getElem?_append_right (by simp; omega)]
    rw [show A.length + 1 + 1 + j - (A ++ [finX y (2 + m)]).length = j + 1 by simp; omega]
    simpa using hz
  · have hset : (A ++ [finX y (2 + m)] ++ x :: T).set (A.length + 1) { x with size := 4096 } = A ++ [finX y (2 + m)] ++ { x with size := 4096 } :: T := by
      rw [List.set_append_right _ _ (by simp)]; simp
    show WRL (WR wg n) (A.length + 1) x.g [(c', g')] [(c', g')] ({ s with cname := ⟨#[]⟩, cur := some x.g, dw := (dirD x par [(c', g')] (fun _ => x.num + 1) (fun _ => mc)).length, dm := (dirD x par [(c', g')] (fun _ => x.num + 1) (fun _ => mc)).length, body := s.body ++ dirD x par [(c', g')] (fun _ => x.num + 1) (fun _ => mc) }, (A ++ [finX y (2 + m)] ++ x :: T).set (A.length + 1) { x with size := (dirD x par [(c', g')] (fun _ => x.num + 1) (fun _ => mc)).length }) b
    rw [hD, hDl, hset]
    exact hrl
theorem chain_wr (wg md ui gi : Nat) (hmd : md &&& 61440 = 16384) (hmd2 : md < 65536) (f : Nd) (hf : f.mode &&& 61440 = 32768) (hf2 : f.mode < 65536) :
    ∀ (r : List (List UInt8 × Nat)) (n : Nat) (c c' : List UInt8) (g g' num : Nat) (A : List Nd) (y par : Nd) (s : Ws) (p m : Nat), r.length + 1 ≤ n →
      s.wg = wg → s.cur = some y.g → s.dw = 4096 → s.dm = 4096 → y.flags = 262144 → y.blks = 0 → s.body.length = (m + 1) * 4096 → m + r.length ≤ 1000 → s.ids.length ≤ 100000000 →
      (A ++ [finX y (2 + m)])[p]? = some par → par.mode &&& 61440 = 16384 → par.mode < 65536 → getI s.ids par.num = some par.g → par.num < 4294967296 →
      (∀ i q, ((c, g) :: (c', g') :: r)[i]? = some q → getI s.ids (num + i) = some q.2 ∧ q.1.length ≤ 255) → num + r.length ≤ 1000 → (((c', g') :: r).getLast?.map (·.2)) = some f.g → f.num = num + r.length + 1 →
      WR wg n (s, A ++ y :: (chN md ui gi num ((c, g) :: (c', g') :: r) ++ [f])) (A.length + 1) g p par.g
        ({ s with cname := ⟨#[]⟩, cur := some (curC ((c, g) :: (c', g') :: r)), dw := 4096, dm := 4096, body := s.body ++ bytesC par.num num (c :: c' :: r.map (·.1)) }, A ++ (unfL (2 + m) y (chN md ui gi num ((c, g) :: (c', g') :: r)) ++ [f])) := by
  intro r
  induction r with
  | nil =>
    intro n c c' g g' num A y par s p m hn hwg hcur hdw hdm hyf hyb hb hm hids hpar hpm hpm2 hpg hpn hit hnum hfg hfn
    obtain ⟨n, rfl⟩ : ∃ k, n = k + 1 := ⟨n - 1, by omega⟩
    have hc := (hit 0 (c, g) rfl)
    have hc' := (hit 1 (c', g') rfl)
    have hgf : g' = f.g := by simpa using hfg
    refine one_wr wg md n hmd hmd2 A [f] y ⟨g, num, md, ui, gi, 2, 0, 262144, 0, [], [], some [(c', g')]⟩ par s p m c' g' f.mode 0 f _ hwg hcur hdw hdm hyf hyb hb (by omega) hids hpar hpm hpm2 hpg hpn rfl rfl rfl (by simpa using hc.1) (by simp at hnum ⊢; omega) hc'.2 rfl hgf.symm (by simpa using hfn) rfl hf2 hc'.1 ?_
    rw [ft_reg hf]
    refine .file (x := { (⟨g, num, md, ui, gi, 2, 0, 262144, 0, [], [], some [(c', g')]⟩ : Nd) with size := 4096 }) (j := A.length + 2) (y := f) ?_ rfl rfl (by simp [look, kidE]) ?_ hgf.symm (by omega) (by rw [hf]; decide) ?_
    · rw [List.getElem?_append_right (by simp)]; simp
    · rw [List.getElem?_append_right (by simp)]; simp
    · have e1 : A ++ [finX y (2 + m)] ++ { (⟨g, num, md, ui, gi, 2, 0, 262144, 0, [], [], some [(c', g')]⟩ : Nd) with size := 4096 } :: [f] = A ++ (unfL (2 + m) y (chN md ui gi num [(c, g), (c', g')]) ++ [f]) := by
        simp [chN, unfL]
      rw [e1]
      have e2 : bytesC par.num num [c, c'] = dirB 4096 [(num, [46], 2), (par.num, [46, 46], 2), (num + 1, c', 1)] := by simp [bytesC]
      rw [show ([] : List (List UInt8 × Nat)).map (·.1) = [] from rfl, e2]
      exact .nil
  | cons q r ih =>
    obtain ⟨c2, g2⟩ := q
    intro n c c' g g' num A y par s p m hn hwg hcur hdw hdm hyf hyb hb hm hids hpar hpm hpm2 hpg hpn hit hnum hfg hfn
    obtain ⟨n, rfl⟩ : ∃ k, n = k + 1 := ⟨n - 1, by omega⟩
    have hc := (hit 0 (c, g) rfl)
    have hc' := (hit 1 (c', g') rfl)
    have hDl : (dirB 4096 [(num, [46], 2), (par.num, [46, 46], 2), (num + 1, c', 2)]).length = 4096 := dirB_fit _ _ (by have := hc'.2; dsimp only at this; simp [rlN]; omega)
    have hch : chN md ui gi num ((c, g) :: (c', g') :: (c2, g2) :: r) = ⟨g, num, md, ui, gi, 3, 0, 262144, 0, [], [], some [(c', g')]⟩ :: chN md ui gi (num + 1) ((c', g') :: (c2, g2) :: r) := by simp [chN]
    obtain ⟨x2, T2, hx2, hx2g, hx2n, hx2m⟩ : ∃ x2 T2, chN md ui gi (num + 1) ((c', g') :: (c2, g2) :: r) = x2 :: T2 ∧ x2.g = g' ∧ x2.num = num + 1 ∧ x2.mode = md := ⟨_, _, rfl, rfl, rfl, rfl⟩
    rw [hch]
    refine one_wr wg md n hmd hmd2 A (chN md ui gi (num + 1) ((c', g') :: (c2, g2) :: r) ++ [f]) y ⟨g, num, md, ui, gi, 3, 0, 262144, 0, [], [], some [(c', g')]⟩ par s p m c' g' md 0 x2 _ hwg hcur hdw hdm hyf hyb hb (by omega) hids hpar hpm hpm2 hpg hpn rfl rfl rfl (by simpa using hc.1) (by simp at hnum ⊢; omega) hc'.2 (by rw [hx2]; rfl) hx2g hx2n hx2m hmd2 hc'.1 ?_
    refine .dir (x := { (⟨g, num, md, ui, gi, 3, 0, 262144, 0, [], [], some [(c', g')]⟩ : Nd) with size := 4096 }) (j := A.length + 2) (y := x2) ?_ rfl rfl (by simp [look, kidE]) ?_ hx2g (by omega) (by rw [hx2m]; exact hmd) ?_ .nil
    · rw [List.getElem?_append_right (by simp)]; simp
    · rw [List.getElem?_append_right (by simp), hx2]; simp
    · rw [ft_dir hmd]
      have h := ih n c' c2 g' g2 (num + 1) (A ++ [finX y (2 + m)]) { (⟨g, num, md, ui, gi, 3, 0, 262144, 0, [], [], some [(c', g')]⟩ : Nd) with size := 4096 } (finX { (⟨g, num, md, ui, gi, 3, 0, 262144, 0, [], [], some [(c', g')]⟩ : Nd) with size := 4096 } (2 + (m + 1))) { s with cname := ⟨#[]⟩, cur := some g, dw := 4096, dm := 4096, body := s.body ++ dirB 4096 [(num, [46], 2), (par.num, [46, 46], 2), (num + 1, c', 2)] } (A.length + 1) (m + 1)
        (by simp at hn; omega) hwg rfl rfl rfl rfl rfl (by dsimp only; rw [List.length_append, hDl, hb]; omega) (by simp at hm; omega) hids
        (by rw [List.getElem?_append_right (by simp)]; simp) hmd hmd2 hc.1 (by show num < 4294967296; omega)
        (fun i q hq => by have := hit (i + 1) q hq; rw [show num + 1 + i = num + (i + 1) by omega]; exact this) (by simp at hnum; omega) (by simpa using hfg) (by simp at hfn; omega)
      have e1 : unfL (2 + m) y (⟨g, num, md, ui, gi, 3, 0, 262144, 0, [], [], some [(c', g')]⟩ :: chN md ui gi (num + 1) ((c', g') :: (c2, g2) :: r)) = finX y (2 + m) :: unfL (2 + (m + 1)) { (⟨g, num, md, ui, gi, 3, 0, 262144, 0, [], [], some [(c', g')]⟩ : Nd) with size := 4096 } (chN md ui gi (num + 1) ((c', g') :: (c2, g2) :: r)) := rfl
      have e2 : bytesC par.num num (c :: c' :: ((c2, g2) :: r).map (·.1)) = dirB 4096 [(num, [46], 2), (par.num, [46, 46], 2), (num + 1, c', 2)] ++ bytesC num (num + 1) (c' :: c2 :: r.map (·.1)) := by
        simp [bytesC]
      have e3 : curC ((c, g) :: (c', g') :: (c2, g2) :: r) = curC ((c', g') :: (c2, g2) :: r) := by simp [curC]
      rw [e1, e2, e3, ← List.append_assoc s.body]
      rw [show (A ++ [finX y (2 + m)]).length + 1 = A.length + 1 + 1 by simp] at h
      simp only [List.append_assoc, List.cons_append, List.nil_append] at h ⊢
      exact h
def rootB (c : List UInt8) (one : Bool) : List UInt8 := dirB 4096 [(2, [46], 2), (2, [46, 46], 2), (11, lfN, 2), (12, c, if one then 1 else 2)]
def lfB : List UInt8 := dirB 4096 [(11, [46], 2), (2, [46, 46], 2)]
theorem rootB_len (c : List UInt8) (one : Bool) (h : c.length ≤ 255) : (rootB c one).length = 4096 := dirB_fit _ _ (by simp [rlN]; omega)
theorem lfB_len : lfB.length = 4096 := dirB_fit _ _ (by simp [rlN])
abbrev lfNd (g11 : Nat) : Nd := ⟨g11, 11, 16832, 0, 0, 2, 0, 262144, 0, [], [], some []⟩
abbrev lfNs (g11 : Nat) : Nd := ⟨g11, 11, 16832, 0, 0, 2, 0, 262144, 4096, [], [], some []⟩
theorem lf_wr (wg n : Nat) (T : List Nd) (y : Nd) (g11 : Nat) (s : Ws) (m : Nat) (hwg : s.wg = wg) (hcur : s.cur = some y.g) (hdw : s.dw = 4096) (hdm : s.dm = 4096) (hyf : y.flags = 262144) (hyb : y.blks = 0) (hym : y.mode &&& 61440 = 16384) (hym2 : y.mode < 65536) (hyn : y.num = 2) (hb : s.body.length = (m + 1) * 4096) (hm : m ≤ 1000) (hids : s.ids.length ≤ 100000000)
    (hpg : getI s.ids 2 = some y.g) (hxg : getI s.ids 11 = some g11) :
    WR wg (n + 1) (s, y :: lfNd g11 :: T) 1 g11 0 y.g ({ s with cname := ⟨#[]⟩, cur := some g11, dw := 4096, dm := 4096, body := s.body ++ lfB }, finX y (2 + m) :: lfNs g11 :: T) := by
  have hfin := finD_w s (y :: lfNd g11 :: T) 0 y m rfl hcur hdm hdw hyf hyb hb (by omega)
  have hl : (y :: lfNd g11 :: T).set 0 (finX y (2 + m)) = finX y (2 + m) :: lfNd g11 :: T := rfl
  rw [hl] at hfin
  refine ⟨{ s with cur := none, dw := 0, dm := 0 }, finX y (2 + m) :: lfNd g11 :: T, lfNd g11, finX y (2 + m), [], [], fun _ => 0, fun _ => 0, hwg, rfl, rfl, hfin, ⟨rfl, rfl, rfl, rfl, fun q hq => by simp at hq, List.Perm.refl _, by simp, by simp, hxg, by rw [show (finX y (2 + m)).num = 2 from hyn]; exact hpg, by show 11 < 4294967296; decide, by rw [show (finX y (2 + m)).num = 2 from hyn]; decide, by show 16832 < 65536; decide, hym2, hids, by dsimp only; omega, by show 262144 &&& 268435456 = 0; decide, by show 262144 < 4294967296; decide⟩, ?_⟩
  have hD : dirD (lfNd g11) (finX y (2 + m)) [] (fun _ => 0) (fun _ => 0) = lfB := by
    show dirB 4096 [(11, [46], ftN 16832), ((finX y (2 + m)).num, [46, 46], ftN (finX y (2 + m)).mode)] = lfB
    rw [show (finX y (2 + m)).num = 2 from hyn, show (finX y (2 + m)).mode = y.mode from rfl, ft_dir hym, ft_dir (md := 16832) (by decide)]
    rfl
  show WRL (WR wg n) 1 g11 [] [] ({ s with cname := ⟨#[]⟩, cur := some g11, dw := (dirD (lfNd g11) (finX y (2 + m)) [] (fun _ => 0) (fun _ => 0)).length, dm := (dirD (lfNd g11) (finX y (2 + m)) [] (fun _ => 0) (fun _ => 0)).length, body := s.body ++ dirD (lfNd g11) (finX y (2 + m)) [] (fun _ => 0) (fun _ => 0) }, (finX y (2 + m) :: lfNd g11 :: T).set 1 { lfNd g11 with size := (dirD (lfNd g11) (finX y (2 + m)) [] (fun _ => 0) (fun _ => 0)).length }) _
  rw [hD, lfB_len]
  exact .nil
abbrev rtN (md ui gi g2 lk g11 z : Nat) (q : List UInt8 × Nat) : Nd := ⟨g2, 2, md, ui, gi, lk, 0, 262144, z, [], [], some [(lfN, g11), q]⟩
theorem deep_wr (wg rm ru rg md ui gi g2 g11 n : Nat) (hrm : rm &&& 61440 = 16384) (hrm2 : rm < 65536) (hmd : md &&& 61440 = 16384) (hmd2 : md < 65536) (f : Nd) (hf : f.mode &&& 61440 = 32768) (hf2 : f.mode < 65536) (lk : Nat) (q : List UInt8 × Nat) (r : List (List UInt8 × Nat)) (s : Ws) (m : Nat) (hn : r.length + 2 ≤ n) (hwg : s.wg = wg) (hcur : s.cur = none) (hb : s.body.length = m * 4096) (hm : m + r.length ≤ 900) (hids : s.ids.length ≤ 100000000)
    (h2 : getI s.ids 2 = some g2) (h11 : getI s.ids 11 = some g11) (hit : ∀ i p, (q :: r)[i]? = some p → getI s.ids (12 + i) = some p.2 ∧ p.1.length ≤ 255) (hne : q.2 ≠ g11) (hnm : q.1 ≠ lfN)
    (hfg : ((q :: r).getLast?.map (·.2)) = some f.g) (hfn : f.num = 12 + r.length) :
    WR wg n (s, rtN rm ru rg g2 lk g11 0 q :: lfNd g11 :: (chN md ui gi 12 (q :: r) ++ [f])) 0 g2 0 g2
      ({ s with cname := ⟨#[]⟩, cur := some (if r = [] then g11 else curC (q :: r)), dw := 4096, dm := 4096, body := s.body ++ rootB q.1 (decide (r = [])) ++ lfB ++ bytesC 2 12 (q.1 :: r.map (·.1)) },
       unfL (2 + m) (rtN rm ru rg g2 lk g11 4096 q) (lfNd g11 :: chN md ui gi 12 (q :: r)) ++ [f]) := by
  obtain ⟨n, rfl⟩ : ∃ k, n = k + 1 + 1 := ⟨n - 2, by omega⟩
  obtain ⟨c, g⟩ := q
  dsimp only at hne hnm ⊢
  have hc := hit 0 (c, g) rfl
  have hc1 : getI s.ids 12 = some g := hc.1
  have hc2 : c.length ≤ 255 := hc.2
  obtain ⟨z, hz, hzg, hzn, hzm, hzm2⟩ : ∃ z : Nd, (chN md ui gi 12 ((c, g) :: r) ++ [f])[0]? = some z ∧ z.g = g ∧ z.num = 12 ∧ z.mode = (if r = [] then f.mode else md) ∧ z.mode < 65536 := by
    cases r with
    | nil => exact ⟨f, rfl, by simpa using hfg.symm, by simpa using hfn, by rw [if_pos rfl], hf2⟩
    | cons q' r' => exact ⟨_, rfl, rfl, rfl, (if_neg (List.cons_ne_nil _ _)).symm, hmd2⟩
  have hfin : Fd Tryz.prog 91 #[ptrV s.wg] [WP s, NodesP (rtN rm ru rg g2 lk g11 0 (c, g) :: lfNd g11 :: (chN md ui gi 12 ((c, g) :: r) ++ [f]))] .nilIface [WP s, NodesP (rtN rm ru rg g2 lk g11 0 (c, g) :: lfNd g11 :: (chN md ui gi 12 ((c, g) :: r) ++ [f]))] := (finish0_w s hcur).frame
  have hlk1 : look (kidE [(lfN, g11), (c, g)]) (str lfN) = some (ptrV g11) := by simp [look, kidE]
  have hlk2 : look (kidE [(lfN, g11), (c, g)]) (str c) = some (ptrV g) := by
    have h1 : ¬ str lfN = str c := fun h => hnm (str_inj h).symm
    simp [look, kidE, decide_eq_false h1]
  have hD : dirD (rtN rm ru rg g2 lk g11 0 (c, g)) (rtN rm ru rg g2 lk g11 0 (c, g)) [(lfN, g11), (c, g)] (fun a => if a = g11 then 11 else 12) (fun a => if a = g11 then 16832 else if r = [] then f.mode else md) = rootB c (decide (r = [])) := by
    show dirB 4096 [(2, [46], ftN rm), (2, [46, 46], ftN rm), (if g11 = g11 then 11 else 12, lfN, ftN (if g11 = g11 then 16832 else if r = [] then f.mode else md)), (if g = g11 then 11 else 12, c, ftN (if g = g11 then 16832 else if r = [] then f.mode else md))] = _
    rw [if_pos rfl, if_pos rfl, if_neg hne, if_neg hne, ft_dir hrm, ft_dir (md := 16832) (by decide), rootB]
    by_cases hr : r = []
    · rw [if_pos hr, decide_eq_true hr, if_pos rfl, ft_reg hf]
    · rw [if_neg hr, decide_eq_false hr, if_neg (by decide), ft_dir hmd]
  refine ⟨s, _, rtN rm ru rg g2 lk g11 0 (c, g), rtN rm ru rg g2 lk g11 0 (c, g), [(lfN, g11), (c, g)], [(lfN, g11), (c, g)], fun a => if a = g11 then 11 else 12, fun a => if a = g11 then 16832 else if r = [] then f.mode else md, hwg, rfl, rfl, hfin, ⟨hcur, rfl, rfl, rfl, ?_, List.Perm.refl _, by simp [hne], by simp, h2, h2, by show 2 < 4294967296; decide, by show 2 < 4294967296; decide, hrm2, hrm2, hids, by omega, by show 262144 &&& 268435456 = 0; decide, by show 262144 < 4294967296; decide⟩, ?_⟩
  · intro p hp
    have hp' : p = (lfN, g11) ∨ p = (c, g) := by simpa using hp
    rcases hp' with rfl | rfl
    · exact ⟨hlk1, by show lfN.length ≤ 255; decide, 1, lfNd g11, rfl, rfl, by simp, by simp, h11, by show 16832 < 65536; decide, by show 11 < 4294967296; decide⟩
    · exact ⟨hlk2, hc2, 2, z, hz, hzg, by simp [hne, hzn], by simp [hne, hzm], by rw [hzn, hzg]; exact hc1, hzm2, by omega⟩
  · show WRL (WR wg (n + 1)) 0 g2 [(lfN, g11), (c, g)] [(lfN, g11), (c, g)] ({ s with cname := ⟨#[]⟩, cur := some g2, dw := (dirD (rtN rm ru rg g2 lk g11 0 (c, g)) (rtN rm ru rg g2 lk g11 0 (c, g)) [(lfN, g11), (c, g)] (fun a => if a = g11 then 11 else 12) (fun a => if a = g11 then 16832 else if r = [] then f.mode else md)).length, dm := (dirD (rtN rm ru rg g2 lk g11 0 (c, g)) (rtN rm ru rg g2 lk g11 0 (c, g)) [(lfN, g11), (c, g)] (fun a => if a = g11 then 11 else 12) (fun a => if a = g11 then 16832 else if r = [] then f.mode else md)).length, body := s.body ++ dirD (rtN rm ru rg g2 lk g11 0 (c, g)) (rtN rm ru rg g2 lk g11 0 (c, g)) [(lfN, g11), (c, g)] (fun a => if a = g11 then 11 else 12) (fun a => if a = g11 then 16832 else if r = [] then f.mode else md) }, (rtN rm ru rg g2 lk g11 0 (c, g) :: lfNd g11 :: (chN md ui gi 12 ((c, g) :: r) ++ [f])).set 0 { rtN rm ru rg g2 lk g11 0 (c, g) with size := (dirD (rtN rm ru rg g2 lk g11 0 (c, g)) (rtN rm ru rg g2 lk g11 0 (c, g)) [(lfN, g11), (c, g)] (fun a => if a = g11 then 11 else 12) (fun a => if a = g11 then 16832 else if r = [] then f.mode else md)).length }) _
    rw [hD, rootB_len _ _ hc2]
    have hlf := lf_wr wg n (chN md ui gi 12 ((c, g) :: r) ++ [f]) (rtN rm ru rg g2 lk g11 4096 (c, g)) g11 { s with cname := ⟨#[]⟩, cur := some g2, dw := 4096, dm := 4096, body := s.body ++ rootB c (decide (r = [])) } m hwg rfl rfl rfl rfl rfl hrm hrm2 rfl (by dsimp only; rw [List.length_append, rootB_len _ _ hc2, hb]; omega) (by omega) hids h2 h11
    refine .dir (x := rtN rm ru rg g2 lk g11 4096 (c, g)) (j := 1) (y := lfNd g11) rfl rfl rfl hlk1 rfl rfl (by show 16832 < 65536; decide) (by show 16832 &&& 61440 = 16384; decide) hlf ?_
    cases r with
    | nil =>
      have hgf : g = f.g := by simpa using hfg
      refine .file (x := finX (rtN rm ru rg g2 lk g11 4096 (c, g)) (2 + m)) (j := 2) (y := f) rfl rfl rfl hlk2 rfl hgf.symm (by omega) (by rw [hf]; decide) ?_
      have e : bytesC 2 12 (c :: List.map (·.1) ([] : List (List UInt8 × Nat))) = [] := rfl
      rw [e, List.append_nil, if_pos rfl]
      exact .nil
    | cons q' r =>
      obtain ⟨c', g'⟩ := q'
      have h := chain_wr wg md ui gi hmd hmd2 f hf hf2 r (n + 1) c c' g g' 12 [finX (rtN rm ru rg g2 lk g11 4096 (c, g)) (2 + m)] (lfNs g11) (finX (rtN rm ru rg g2 lk g11 4096 (c, g)) (2 + m)) { s with cname := ⟨#[]⟩, cur := some g11, dw := 4096, dm := 4096, body := s.body ++ rootB c (decide ((c', g') :: r = [])) ++ lfB } 0 (m + 1) (by simp at hn; omega) hwg rfl rfl rfl rfl rfl (by dsimp only; rw [List.length_append, List.length_append, rootB_len _ _ hc2, lfB_len, hb]; omega) (by simp at hm; omega) hids rfl hrm hrm2 h2 (by show 2 < 4294967296; decide) hit (by simp at hm; omega) (by simpa using hfg) (by simp at hfn; omega)
      refine .dir (x := finX (rtN rm ru rg g2 lk g11 4096 (c, g)) (2 + m)) (j := 2) (y := z) rfl rfl rfl hlk2 hz hzg hzm2 (by rw [hzm, if_neg (by simp)]; exact hmd) ?_ .nil
      rw [if_neg (by simp)]
      exact h
end Go.Proofs.YtppkiiomedembaaGreatDoor
namespace Go.Proofs.YtppkiiomedembaaGreatDoor
open Go
set_option maxRecDepth 100000
set_option maxHeartbeats 1000000
attribute [local irreducible] E EO
theorem nodes_nd : ∀ (l : List Nd) (m : Mem) (S : Nat → Prop), sats (l.map NodeP) m S → (l.map (·.g)).Nodup ∧ ∀ x ∈ l, S x.g
  | [], m, S, h => ⟨List.nodup_nil, by simp⟩
  | x :: l, m, S, h => by
    obtain ⟨S1, S2, h1, h2, hd, hu⟩ := h
    obtain ⟨n1, n2⟩ := nodes_nd l m S2 h2
    obtain ⟨i, hi, T1, T2, c1, -, -, cu⟩ := h1
    have hx : S1 x.g := (cu x.g).2 (.inl ((c1.1 x.g).2 rfl))
    refine ⟨List.nodup_cons.2 ⟨fun hm => ?_, n1⟩, fun y hy => ?_⟩
    · obtain ⟨y, hy, hyg⟩ := List.mem_map.1 hm
      have h3 := n2 y hy
      rw [show y.g = x.g from hyg] at h3
      exact hd x.g hx h3
    · rcases List.mem_cons.1 hy with rfl | hy
      · exact (hu _).2 (.inl hx)
      · exact (hu _).2 (.inr (n2 y hy))
theorem NodesP.nd (l : List Nd) : Tn [NodesP l] (fun _ : Unit => (l.map (·.g)).Nodup) (fun _ => [NodesP l]) := fun m S h => ⟨(), S, (nodes_nd l m S (sats_one' h)).1, h, fun _ h => h⟩
def blkD (inl : Bool) (data : List UInt8) : Nat := if inl then 0 else (data.length + 4095) / 4096
def fileF (fm d gF : Nat) (inl : Bool) (data : List UInt8) : Nd := ⟨gF, 12 + d, fm, 0, 0, 1, blkD inl data, if inl then 268697600 else if data = [] then 262144 else 786432, data.length, if inl then data else if data = [] then [] else extB 2 (blkD inl data), if inl then xinB (List.replicate (data.length - 60) 0) else [], none⟩
theorem finF_w (s : Ws) (l : List Nd) (k fm d gF : Nat) (inl : Bool) (data : List UInt8) (hx : l[k]? = some (fileN fm d gF inl data.length data)) (hc : s.cur = some gF) (h1 : s.dm = data.length) (h2 : s.dw = data.length) (hlen : data.length ≤ 100000) (hb : s.body = if inl then [] else data) :
    Fd Tryz.prog 91 #[ptrV s.wg] [WP s, NodesP l] .nilIface [WP { s with body := if inl then [] else padB data, cur := none, dw := 0, dm := 0 }, NodesP (l.set k (fileF fm d gF inl data))] := by
  by_cases h0 : data = []
  · subst h0
    have e1 : fileN fm d gF inl ([] : List UInt8).length [] = fileF fm d gF inl [] := by cases inl <;> rfl
    rw [e1] at hx
    rw [set_same hx]
    have h := (finishE_w s gF hc h2 h1).frame (L := [WP s, NodesP l]) (N := [WP { s with cur := none, dw := 0, dm := 0 }, NodesP l])
    have e2 : s.body = if inl then [] else padB [] := by rw [hb]; cases inl <;> rfl
    rw [← e2]
    exact h
  · have hpos : 0 < data.length := by
      cases data with
      | nil => exact absurd rfl h0
      | cons a r => simp
    cases inl with
    | true =>
      have e1 : fileN fm d gF true data.length data = fileF fm d gF true data := by unfold fileF fileN blkD; simp
      rw [e1] at hx
      have h : Fd Tryz.prog 91 #[ptrV s.wg] [WP s, NodesP l] .nilIface [WP { s with cur := none, dw := 0, dm := 0 }, NodesP (l.set k (fileF fm d gF true data))] := by
        refine y_fn (NodesP.open hx) fun _ _ => ?_
        exact ((finishI_w s (fileF fm d gF true data) hc (by omega) (by omega) (by show 268697600 &&& 268435456 ≠ 0; decide) (by show 268697600 < 4294967296; decide)).frame (L := [NodeP (fileF fm d gF true data), NodesP (l.eraseIdx k), WP s])).close (NodesP.close (fileF fm d gF true data) (List.getElem?_eq_some_iff.1 hx).1)
      have e2 : s.body = [] := hb
      rw [show (if true = true then [] else padB data) = s.body from e2.symm]
      exact h
    | false =>
      have h := finishXN_w s l k _ hx hc (by omega) (by omega) (by show 262144 &&& 268435456 = 0; decide) (by show 262144 < 4294967296; decide) (by omega) (by rw [hb]; show s.dw ≤ data.length; omega) (by rw [hb]; show (data.length - s.dw) % 4096 = 0; omega) (by rw [hb]; show data.length ≤ 900000000; omega) (by show 0 ≤ 1000; omega)
      have e2 : s.body = data := hb
      rw [e2, h2] at h
      rw [show (if false = true then [] else padB data) = padB data from rfl]
      rw [Nat.sub_self] at h
      have e4 : ({ fileN fm d gF false data.length data with data := extB (2 + 0 / 4096) ((data.length + 4095) / 4096), flags := (fileN fm d gF false data.length data).flags ||| 524288, blks := (fileN fm d gF false data.length data).blks + (data.length + 4095) / 4096 } : Nd) = fileF fm d gF false data := by
        unfold fileF fileN blkD
        simp [h0]
      rw [← e4]
      exact h
def finL : Nat → Nd → List Nd → List Nd
  | b, y, [] => [finX y b]
  | b, y, x :: r => finX y b :: finL (b + 1) { x with size := 4096 } r
theorem unfL_last : ∀ (r : List Nd) (b : Nat) (y : Nd), y.flags = 262144 → y.blks = 0 → (∀ x ∈ r, x.flags = 262144 ∧ x.blks = 0) → ∃ A z, unfL b y r = A ++ [z] ∧ A.length = r.length ∧ some z.g = (y :: r).getLast?.map (·.g) ∧ z.flags = 262144 ∧ z.blks = 0 ∧ A ++ [finX z (b + r.length)] = finL b y r
  | [], b, y, h1, h2, _ => ⟨[], y, rfl, rfl, rfl, h1, h2, rfl⟩
  | x :: r, b, y, h1, h2, h3 => by
    obtain ⟨A, z, a1, a2, a3, a4, a5, a6⟩ := unfL_last r (b + 1) { x with size := 4096 } (h3 x (by simp)).1 (h3 x (by simp)).2 (fun z hz => h3 z (by simp [hz]))
    refine ⟨finX y b :: A, z, by rw [unfL, a1]; rfl, by simp [a2], ?_, a4, a5, ?_⟩
    · rw [a3]
      cases r <;> simp
    · rw [finL, ← a6, List.cons_append, List.length_cons, show b + (r.length + 1) = b + 1 + r.length by omega]
theorem finL_g : ∀ (r : List Nd) (b : Nat) (y : Nd), (finL b y r).map (·.g) = (y :: r).map (·.g)
  | [], b, y => rfl
  | x :: r, b, y => by rw [finL, List.map_cons, finL_g r]; rfl
theorem chN_g (md ui gi : Nat) : ∀ (its : List (List UInt8 × Nat)) (num : Nat), (chN md ui gi num its).map (·.g) = its.dropLast.map (·.2)
  | [], _ => rfl
  | [_], _ => rfl
  | (c, g) :: (c', g') :: r, num => by
    have := chN_g md ui gi ((c', g') :: r) (num + 1)
    rw [chN, List.map_cons, this]; rfl
theorem chN_flags (md ui gi : Nat) : ∀ (its : List (List UInt8 × Nat)) (num : Nat), ∀ x ∈ chN md ui gi num its, x.flags = 262144 ∧ x.blks = 0
  | [], _ => by simp [chN]
  | [_], _ => by simp [chN]
  | (c, g) :: (c', g') :: r, num => by
    intro x hx
    rw [chN] at hx
    rcases List.mem_cons.1 hx with rfl | hx
    · exact ⟨rfl, rfl⟩
    · exact chN_flags md ui gi ((c', g') :: r) (num + 1) x hx
theorem curC_last (md ui gi : Nat) : ∀ (its : List (List UInt8 × Nat)) (num : Nat) (q p : List UInt8 × Nat), ((chN md ui gi num (q :: p :: its)).getLast?.map (·.g)) = some (curC (q :: p :: its))
  | [], num, (c, g), (c', g') => by simp [chN, curC]
  | (c2, g2) :: its, num, (c, g), (c', g') => by
    have := curC_last md ui gi its (num + 1) (c', g') (c2, g2)
    have h1 : curC ((c, g) :: (c', g') :: (c2, g2) :: its) = curC ((c', g') :: (c2, g2) :: its) := by simp [curC]
    rw [h1, ← this]
    simp [chN]
def xtN (x : Nd) : Nd := { x with xin := xinT x }
theorem TWt_list : ∀ (l A : List Nd), (∀ x ∈ l, InoOk x) → TWt (l.map fun x => some x.g) (A ++ l) (l.flatMap inoB) (A ++ l.map xtN)
  | [], A, _ => .nil
  | x :: l, A, h => by
    have ih := TWt_list l (A ++ [xtN x]) (fun y hy => h y (by simp [hy]))
    simp only [List.append_assoc, List.cons_append, List.nil_append] at ih
    refine TWt.yes (j := A.length) (x := x) (by simp) (h x (by simp)) ?_
    have e : (A ++ x :: l).set A.length { x with xin := xinT x } = A ++ xtN x :: l := by
      rw [List.set_append_right _ _ (by omega)]; simp [xtN]
    rw [e]
    exact ih
theorem inoB_cg {x y : Nd} (h1 : x.mode = y.mode) (h2 : x.uid = y.uid) (h3 : x.gid = y.gid) (h4 : x.links = y.links) (h5 : x.blks = y.blks) (h6 : x.flags = y.flags) (h7 : x.size = y.size) (h8 : x.data = y.data) (h9 : x.xin = y.xin) : inoB x = inoB y := by
  unfold inoB xinT
  unfold inoF
  rw [h1, h2, h3, h4, h5, h6, h7, h8, h9]
def dirI (md ui gi lk b : Nat) : List UInt8 := inoB ⟨0, 0, md, ui, gi, lk, 1, 786432, 4096, extB b 1, [], none⟩
def tbC (md ui gi : Nat) : Nat → List (List UInt8) → List UInt8
  | _, [] => []
  | _, [_] => []
  | b, _ :: c :: r => dirI md ui gi (if r = [] then 2 else 3) b ++ tbC md ui gi (b + 1) (c :: r)
theorem tbC_eq (md ui gi : Nat) : ∀ (its : List (List UInt8 × Nat)) (num b : Nat) (y : Nd), (finL b y (chN md ui gi num its)).flatMap inoB = inoB (finX y b) ++ tbC md ui gi (b + 1) (its.map (·.1))
  | [], num, b, y => by simp [chN, finL, tbC]
  | [_], num, b, y => by simp [chN, finL, tbC]
  | (c, g) :: (c', g') :: r, num, b, y => by
    have h := tbC_eq md ui gi ((c', g') :: r) (num + 1) (b + 1) ⟨g, num, md, ui, gi, if r = [] then 2 else 3, 0, 262144, 4096, [], [], some [(c', g')]⟩
    have e : inoB (finX ⟨g, num, md, ui, gi, if r = [] then 2 else 3, 0, 262144, 4096, [], [], some [(c', g')]⟩ (b + 1)) = dirI md ui gi (if r.map (·.1) = [] then 2 else 3) (b + 1) := by
      unfold dirI
      have hr : (r.map (·.1) = []) = (r = []) := by simp
      simp only [hr]
      exact inoB_cg rfl rfl rfl rfl rfl rfl rfl rfl rfl
    rw [e] at h
    rw [chN, finL, List.flatMap_cons]
    exact congrArg (inoB (finX y b) ++ ·) h
theorem find_nd {l : List Nd} (h : (l.map (·.g)).Nodup) {x : Nd} (hx : x ∈ l) : l.find? (fun y => decide (y.g = x.g)) = some x := by
  induction l with
  | nil => simp at hx
  | cons y l ih =>
    rw [List.map_cons, List.nodup_cons] at h
    rcases List.mem_cons.1 hx with rfl | hx
    · simp
    · have hne : ¬ y.g = x.g := fun e => h.1 (by rw [e]; exact List.mem_map.2 ⟨x, hx, rfl⟩)
      rw [List.find?_cons, decide_eq_false hne]
      exact ih h.2 hx
theorem cnt_lt (k : Nat) : ∀ n, cntN (fun j => decide (j < k)) n = min n k
  | 0 => by simp [cntN]
  | n + 1 => by
    rw [cntN, cnt_lt k n]
    by_cases h : n < k
    · rw [decide_eq_true h]; simp [b2n]; omega
    · rw [decide_eq_false h]; simp [b2n]; omega
theorem cnt_dir (d : Nat) : ∀ n, cntN (fun j => decide (j = 1 ∨ 10 ≤ j ∧ j < 11 + d)) n = (if 1 < n then 1 else 0) + (min n (11 + d) - 10)
  | 0 => by simp [cntN]
  | n + 1 => by
    rw [cntN, cnt_dir d n]
    by_cases h : n = 1 ∨ 10 ≤ n ∧ n < 11 + d
    · rw [decide_eq_true h]; simp only [b2n, if_true]; split <;> split <;> omega
    · rw [decide_eq_false h]; simp only [b2n, Bool.false_eq_true, if_false]; split <;> split <;> omega
theorem ids_get (wg dg : Nat) (il : Bool) (g2 g11 : Nat) (gs : List Nat) (gF : Nat) (i : Nat) : getI ((ws1 wg dg il g2 g11).ids ++ gs.map some ++ [some gF]) (12 + i) = (gs ++ [gF])[i]? := by
  unfold getI
  rw [if_neg (by omega), List.append_assoc, List.getElem?_append_right (by simp only [List.length_cons, List.length_nil]; omega)]
  rw [show 12 + i - 1 - (ws1 wg dg il g2 g11).ids.length = i by simp only [List.length_cons, List.length_nil]; omega]
  rw [show gs.map some ++ [some gF] = (gs ++ [gF]).map some by simp, List.getElem?_map]
  cases (gs ++ [gF])[i]? <;> rfl
theorem ids_low (wg dg : Nat) (il : Bool) (g2 g11 : Nat) (gs : List Nat) (gF : Nat) (j : Nat) (h : j < 10) (h1 : j ≠ 1) : getI ((ws1 wg dg il g2 g11).ids ++ gs.map some ++ [some gF]) (1 + j) = none := by
  have : j = 0 ∨ j = 2 ∨ j = 3 ∨ j = 4 ∨ j = 5 ∨ j = 6 ∨ j = 7 ∨ j = 8 ∨ j = 9 := by omega
  rcases this with rfl | rfl | rfl | rfl | rfl | rfl | rfl | rfl | rfl <;> rfl
theorem ids_inB (wg dg : Nat) (il : Bool) (g2 g11 : Nat) (gs : List Nat) (gF : Nat) (j : Nat) : inB ((ws1 wg dg il g2 g11).ids ++ gs.map some ++ [some gF]) j = decide (j < 12 + gs.length) := by
  unfold inB
  by_cases h : 1 + j < 11
  · rw [decide_eq_true h, decide_eq_true (by omega)]; rfl
  · rw [decide_eq_false h, Bool.false_or]
    by_cases h10 : j = 10
    · subst h10
      rw [decide_eq_true (by omega)]; rfl
    · obtain ⟨i, rfl⟩ : ∃ i, j = 11 + i := ⟨j - 11, by omega⟩
      rw [show 1 + (11 + i) = 12 + i by omega, ids_get]
      by_cases hi : i < (gs ++ [gF]).length
      · rw [List.getElem?_eq_getElem hi, decide_eq_true (by simp at hi; omega)]; rfl
      · rw [List.getElem?_eq_none (by omega), decide_eq_false (by simp at hi; omega)]; rfl
theorem ids_drB (wg dg : Nat) (il : Bool) (g2 g11 : Nat) (gs : List Nat) (gF : Nat) (mf : Nat → Nat) (h2 : mf g2 &&& 61440 = 16384) (h11 : mf g11 &&& 61440 = 16384) (hgs : ∀ g ∈ gs, mf g &&& 61440 = 16384) (hF : mf gF &&& 61440 ≠ 16384) (j : Nat) :
    drB mf ((ws1 wg dg il g2 g11).ids ++ gs.map some ++ [some gF]) j = decide (j = 1 ∨ 10 ≤ j ∧ j < 11 + gs.length) := by
  unfold drB
  by_cases h1 : j = 1
  · subst h1
    rw [show getI ((ws1 wg dg il g2 g11).ids ++ gs.map some ++ [some gF]) (1 + 1) = some g2 from rfl]
    dsimp only
    rw [decide_eq_true h2, decide_eq_true (.inl rfl)]
  by_cases h9 : j < 10
  · rw [ids_low wg dg il g2 g11 gs gF j h9 h1, decide_eq_false (by omega)]
  by_cases h10 : j = 10
  · subst h10
    rw [show getI ((ws1 wg dg il g2 g11).ids ++ gs.map some ++ [some gF]) (1 + 10) = some g11 from rfl]
    dsimp only
    rw [decide_eq_true h11, decide_eq_true (by omega)]
  obtain ⟨i, rfl⟩ : ∃ i, j = 11 + i := ⟨j - 11, by omega⟩
  rw [show 1 + (11 + i) = 12 + i by omega, ids_get]
  by_cases hi : i < gs.length
  · rw [List.getElem?_append_left hi, List.getElem?_eq_getElem hi]
    dsimp only
    rw [decide_eq_true (hgs _ (List.getElem_mem hi)), decide_eq_true (by omega)]
  · rw [List.getElem?_append_right (by omega)]
    by_cases he : i = gs.length
    · subst he
      rw [Nat.sub_self]
      show decide (mf gF &&& 61440 = 16384) = _
      rw [decide_eq_false hF, decide_eq_false (by omega)]
    · rw [List.getElem?_eq_none (by simp; omega), decide_eq_false (by omega)]
def bodyD (inl : Bool) (data : List UInt8) : List UInt8 := if inl then [] else padB data
theorem bodyD_len (inl : Bool) (data : List UInt8) : (bodyD inl data).length = blkD inl data * 4096 := by
  unfold bodyD blkD
  cases inl with
  | true => simp
  | false => rw [if_neg (by decide), if_neg (by decide), padB_len]
def tbD (k : Cm) (names : List (List UInt8)) (inl : Bool) (data : List UInt8) : List UInt8 :=
  List.replicate 256 0 ++ (dirI k.rm k.ru k.rg (if names.length ≤ 1 then 3 else 4) (2 + blkD inl data) ++ (List.replicate 2048 0 ++ (dirI 16832 0 0 2 (3 + blkD inl data) ++ (tbC k.md k.ui k.gi (4 + blkD inl data) names ++ inoB (fileF k.fm (names.length - 1) 0 inl data)))))
def dsD (names : List (List UInt8)) : List UInt8 := rootB (names.headD []) (decide (names.length ≤ 1)) ++ lfB ++ bytesC 2 12 names
def itD (n m : Nat) : Nat := 3 + m + n
def imgD (il : Bool) (k : Cm) (names : List (List UInt8)) (inl : Bool) (data : List UInt8) : List UInt8 :=
  let n := names.length
  let it := itD n (blkD inl data)
  let pi := up16 (11 + n)
  sblkB pi (it + pi / 16 + 2) 0 (pi - (11 + n)) pi (if il then 33346 else 578) ++ gdB (it + pi / 16) (it + pi / 16 + 1) it 0 (pi - (11 + n)) (n + 1) ++
    (bodyD inl data ++ dsD names ++ tbD k names inl data ++ List.replicate (pi * 256 - (11 + n) * 256) 0 ++ bm (fun _ => true) 4096 ++ bm (fun j => decide (j < 11 + n)) 4096)
theorem finL_len : ∀ (r : List Nd) (b : Nat) (y : Nd), (finL b y r).length = r.length + 1
  | [], b, y => rfl
  | x :: r, b, y => by rw [finL, List.length_cons, finL_len r]; rfl
theorem finL_ok : ∀ (r : List Nd) (b : Nat) (y : Nd), b + r.length < 100000 → (∀ x ∈ y :: r, x.mode < 65536 ∧ x.mode &&& 61440 = 16384 ∧ x.uid < 4294967296 ∧ x.gid < 4294967296 ∧ x.size ≤ 4096 ∧ x.links < 65536 ∧ x.xin = []) → ∀ x ∈ finL b y r, InoOk x ∧ x.mode &&& 61440 = 16384
  | [], b, y, hb, h, x, hx => by
    have hx' : x = finX y b := by simpa [finL] using hx
    subst hx'
    obtain ⟨h1, h2, h3, h4, h5, h6, h7⟩ := h y (by simp)
    exact ⟨⟨h1, .inl h2, h3, h4, by show y.size < 1000000000000; omega, h6, by show 1 < 4294967296; decide, by show 786432 < 4294967296; decide, by show (extB b 1).length ≤ 136; rw [extB_len]; omega, .inr ⟨h7, by show (extB b 1).length ≤ 60; rw [extB_len]; omega⟩⟩, h2⟩
  | z :: r, b, y, hb, h, x, hx => by
    rw [finL] at hx
    rcases List.mem_cons.1 hx with rfl | hx
    · obtain ⟨h1, h2, h3, h4, h5, h6, h7⟩ := h y (by simp)
      exact ⟨⟨h1, .inl h2, h3, h4, by show y.size < 1000000000000; omega, h6, by show 1 < 4294967296; decide, by show 786432 < 4294967296; decide, by show (extB b 1).length ≤ 136; rw [extB_len]; omega, .inr ⟨h7, by show (extB b 1).length ≤ 60; rw [extB_len]; omega⟩⟩, h2⟩
    · refine finL_ok r (b + 1) { z with size := 4096 } (by simp at hb; omega) (fun w hw => ?_) x hx
      rcases List.mem_cons.1 hw with rfl | hw
      · obtain ⟨h1, h2, h3, h4, h5, h6, h7⟩ := h z (by simp)
        exact ⟨h1, h2, h3, h4, by show 4096 ≤ 4096; omega, h6, h7⟩
      · exact h w (by simp [hw])
theorem chN_ok (md ui gi : Nat) (hmd : md &&& 61440 = 16384) (hmd2 : md < 65536) (hui : ui < 4294967296) (hgi : gi < 4294967296) : ∀ (its : List (List UInt8 × Nat)) (num : Nat), ∀ x ∈ chN md ui gi num its, x.mode < 65536 ∧ x.mode &&& 61440 = 16384 ∧ x.uid < 4294967296 ∧ x.gid < 4294967296 ∧ x.size ≤ 4096 ∧ x.links < 65536 ∧ x.xin = []
  | [], _ => by simp [chN]
  | [_], _ => by simp [chN]
  | (c, g) :: (c', g') :: r, num => by
    intro x hx
    rw [chN] at hx
    rcases List.mem_cons.1 hx with rfl | hx
    · exact ⟨hmd2, hmd, hui, hgi, by show 0 ≤ 4096; omega, by dsimp only; split <;> omega, rfl⟩
    · exact chN_ok md ui gi hmd hmd2 hui hgi ((c', g') :: r) (num + 1) x hx
theorem bytesC_len : ∀ (names : List (List UInt8)) (par num : Nat), (∀ c ∈ names, c.length ≤ 255) → (bytesC par num names).length = (names.length - 1) * 4096
  | [], _, _, _ => rfl
  | [_], _, _, _ => rfl
  | c :: c' :: r, par, num, h => by
    have h1 := h c' (by simp)
    rw [bytesC, List.length_append, bytesC_len (c' :: r) num (num + 1) (fun z hz => h z (by simp at hz ⊢; exact .inr hz)), dirB_fit _ _ (by simp [rlN]; omega)]
    simp only [List.length_cons]; omega
theorem dsD_len (names : List (List UInt8)) (h0 : names ≠ []) (h : ∀ c ∈ names, c.length ≤ 255) : (dsD names).length = (names.length + 1) * 4096 := by
  unfold dsD
  cases names with
  | nil => exact absurd rfl h0
  | cons c r =>
    rw [List.length_append, List.length_append, lfB_len, bytesC_len _ _ _ h, rootB_len _ _ (by simpa using h c (by simp))]
    simp only [List.length_cons]; omega
end Go.Proofs.YtppkiiomedembaaGreatDoor
namespace Go.Proofs.YtppkiiomedembaaGreatDoor
open Go
set_option maxRecDepth 100000
set_option maxHeartbeats 1000000
attribute [local irreducible] E EO
theorem rep2 (a b : Nat) (X : List UInt8) : List.replicate a (0 : UInt8) ++ (List.replicate b 0 ++ X) = List.replicate (a + b) 0 ++ X := by
  rw [← List.append_assoc, List.replicate_append_replicate]
theorem fileF_ok (fm d gF : Nat) (inl : Bool) (data : List UInt8) (hfm : fm &&& 61440 = 32768) (hfm2 : fm < 65536) (h : data.length ≤ 100000) (hi : inl = true → data.length ≤ 136) : InoOk (fileF fm d gF inl data) := by
  refine ⟨hfm2, .inr hfm, by show 0 < 4294967296; decide, by show 0 < 4294967296; decide, by show data.length < 1000000000000; omega, by show 1 < 65536; decide, by unfold fileF blkD; dsimp only; split <;> omega, by unfold fileF; dsimp only; (repeat' split) <;> decide, ?_, ?_⟩
  · unfold fileF
    dsimp only
    cases inl with
    | true => rw [if_pos rfl]; exact hi rfl
    | false =>
      rw [if_neg (by decide)]
      split
      · simp
      · rw [extB_len]; omega
  · unfold fileF
    dsimp only
    cases inl with
    | true =>
      have := hi rfl
      rw [if_pos rfl, if_pos rfl]
      exact .inl (xinB_len _ (by rw [List.length_replicate]; omega))
    | false =>
      rw [if_neg (by decide), if_neg (by decide)]
      refine .inr ⟨rfl, ?_⟩
      split
      · simp
      · rw [extB_len]; omega
theorem TWt_deep (wg dg : Nat) (il : Bool) (g2 g11 : Nat) (gs : List Nat) (gF : Nat) (x : Nd) (T : List Nd) (hx : x.g = g2) (ok : ∀ y ∈ x :: T, InoOk y) (hT : T.map (fun y => some y.g) = some g11 :: (gs.map some ++ [some gF])) :
    TWt ((ws1 wg dg il g2 g11).ids ++ gs.map some ++ [some gF]) (x :: T) (List.replicate 256 0 ++ (inoB x ++ (List.replicate 2048 0 ++ T.flatMap inoB))) (xtN x :: T.map xtN) := by
  have h := TWt_list T [xtN x] (fun y hy => ok y (by simp [hy]))
  rw [hT] at h
  have e : (ws1 wg dg il g2 g11).ids ++ gs.map some ++ [some gF] = none :: some x.g :: none :: none :: none :: none :: none :: none :: none :: none :: some g11 :: (gs.map some ++ [some gF]) := by
    rw [hx]; rfl
  rw [e]
  have e2 : List.replicate 2048 0 ++ T.flatMap inoB = List.replicate 256 0 ++ (List.replicate 256 0 ++ (List.replicate 256 0 ++ (List.replicate 256 0 ++ (List.replicate 256 0 ++ (List.replicate 256 0 ++ (List.replicate 256 0 ++ (List.replicate 256 0 ++ T.flatMap inoB))))))) := by
    simp only [rep2]
  rw [e2]
  exact .no (.yes (j := 0) (x := x) rfl (ok x (by simp)) (.no (.no (.no (.no (.no (.no (.no (.no h)))))))))
theorem flat_len : ∀ (l : List Nd), (∀ x ∈ l, InoOk x) → (l.flatMap inoB).length = l.length * 256
  | [], _ => rfl
  | x :: l, h => by
    rw [List.flatMap_cons, List.length_append, flat_len l (fun y hy => h y (by simp [hy])), inoB_len (h x (by simp)).xl (h x (by simp)).dl, List.length_cons]; omega
def mfL (l : List Nd) (a : Nat) : Nat := ((l.find? (fun x => decide (x.g = a))).map (·.mode)).getD 0
theorem mfL_nd {l : List Nd} (h : (l.map (·.g)).Nodup) {x : Nd} (hx : x ∈ l) : mfL l x.g = x.mode := by
  unfold mfL
  rw [find_nd h hx]; rfl
theorem deepClose (wg dg : Nat) (il : Bool) (k : Cm) (hk : CmOk k) (ds : List (List UInt8)) (e nm : List UInt8) (hlen : ds.length ≤ 99) (hnl : ∀ c ∈ ds ++ [e], c.length ≤ 255) (hn : ∀ c ∈ (ds ++ [e]).head?, c ≠ lfN)
    (data : List UInt8) (hdl : data.length ≤ 100000) (inl : Bool) (hinl : inl = true → data.length ≤ 136) :
    Fd Tryz.prog 45 #[ptrV wg] [SB wg dg il k ds e nm inl data.length data.length data (if inl then [] else data)] .nilIface
      [DiskP dg ((itD (ds ++ [e]).length (blkD inl data) + up16 (11 + (ds ++ [e]).length) / 16 + 2) * 4096) (imgD il k (ds ++ [e]) inl data)] := by
  refine y_fn (SB_out wg dg il k ds e nm inl data.length data.length data (if inl then [] else data)) fun i hi => ?_
  obtain ⟨g2, g11, gs, gF⟩ := i
  dsimp only at hi ⊢
  refine y_fn (NodesP.nd (dpk k g2 g11 (ds.zip gs ++ [(e, gF)]) ++ [fileN k.fm ds.length gF inl data.length data])) fun _ hnd => ?_
  obtain ⟨q, r, hqr⟩ : ∃ q r, ds.zip gs ++ [(e, gF)] = q :: r := by
    cases h : ds.zip gs ++ [(e, gF)] with
    | nil => simp at h
    | cons q r => exact ⟨q, r, rfl⟩
  have hn1 : (q :: r).map (·.1) = ds ++ [e] := by
    rw [← hqr, List.map_append, List.map_fst_zip (by omega)]; rfl
  have hn2 : (q :: r).map (·.2) = gs ++ [gF] := by
    rw [← hqr, List.map_append, List.map_snd_zip (by omega)]; rfl
  have hrl : r.length = ds.length := by
    have := congrArg List.length hn1
    simp at this; omega
  rw [hqr] at hnd ⊢
  have hrle : ((q :: r).length ≤ 1) = (r = []) := by
    simp
  have hl0 : dpk k g2 g11 (q :: r) ++ [fileN k.fm ds.length gF inl data.length data] = rtN k.rm k.ru k.rg g2 (if r = [] then 3 else 4) g11 0 q :: lfNd g11 :: (chN k.md k.ui k.gi 12 (q :: r) ++ [fileN k.fm ds.length gF inl data.length data]) := by
    unfold dpk dp3
    simp only [hrle]
    rfl
  rw [hl0] at hnd ⊢
  have hchl : (chN k.md k.ui k.gi 12 (q :: r)).length = r.length := by rw [chN_len]; simp
  have hx : (rtN k.rm k.ru k.rg g2 (if r = [] then 3 else 4) g11 0 q :: lfNd g11 :: (chN k.md k.ui k.gi 12 (q :: r) ++ [fileN k.fm ds.length gF inl data.length data]))[2 + r.length]? = some (fileN k.fm ds.length gF inl data.length data) := by
    rw [show 2 + r.length = (chN k.md k.ui k.gi 12 (q :: r)).length + 1 + 1 by omega]
    simp
  have h1 := finF_w (wsB wg dg il ⟨g2, g11, gs, gF⟩ nm data.length data.length (if inl then [] else data)) _ _ _ _ _ inl data hx rfl rfl rfl hdl rfl
  have hset : (rtN k.rm k.ru k.rg g2 (if r = [] then 3 else 4) g11 0 q :: lfNd g11 :: (chN k.md k.ui k.gi 12 (q :: r) ++ [fileN k.fm ds.length gF inl data.length data])).set (2 + r.length) (fileF k.fm ds.length gF inl data) = rtN k.rm k.ru k.rg g2 (if r = [] then 3 else 4) g11 0 q :: lfNd g11 :: (chN k.md k.ui k.gi 12 (q :: r) ++ [fileF k.fm ds.length gF inl data]) := by
    rw [show 2 + r.length = (chN k.md k.ui k.gi 12 (q :: r)).length + 1 + 1 by omega]
    simp
  rw [hset] at h1
  have hit : ∀ i p, (q :: r)[i]? = some p → getI ((ws1 wg dg il g2 g11).ids ++ gs.map some ++ [some gF]) (12 + i) = some p.2 ∧ p.1.length ≤ 255 := by
    intro i p hp
    refine ⟨?_, hnl p.1 (hn1 ▸ List.mem_map.2 ⟨p, List.mem_of_getElem? hp, rfl⟩)⟩
    rw [ids_get, ← hn2, List.getElem?_map, hp]; rfl
  have hlast : (q :: r).getLast?.map (·.2) = some gF := by
    rw [← List.getLast?_map, hn2]; simp
  have hidl : ((ws1 wg dg il g2 g11).ids ++ gs.map some ++ [some gF]).length = 12 + ds.length := by
    simp only [List.length_append, List.length_map, List.length_cons, List.length_nil, hi]; omega
  have hmapg : (rtN k.rm k.ru k.rg g2 (if r = [] then 3 else 4) g11 0 q :: lfNd g11 :: (chN k.md k.ui k.gi 12 (q :: r) ++ [fileN k.fm ds.length gF inl data.length data])).map (·.g) = g2 :: g11 :: (gs ++ [gF]) := by
    simp only [List.map_cons, List.map_append, List.map_nil, chN_g]
    have h5 : (q :: r).dropLast.map (·.2) = gs := by
      rw [List.map_dropLast, hn2]; simp
    rw [h5]
  rw [hmapg] at hnd
  have hq2 : q.2 ∈ gs ++ [gF] := by rw [← hn2]; simp
  have hne : q.2 ≠ g11 := fun h => by
    have h6 := (List.nodup_cons.1 (List.nodup_cons.1 hnd).2).1
    rw [h] at hq2
    exact h6 hq2
  have hbl := bodyD_len inl data
  have hm1 : blkD inl data ≤ 25 := by unfold blkD; split <;> omega
  have hnm : q.1 ≠ lfN := hn q.1 (by rw [← hn1]; rfl)
  have hwr := deep_wr wg k.rm k.ru k.rg k.md k.ui k.gi g2 g11 (r.length + 2) hk.hrm hk.hrm2 hk.hmd hk.hmd2 (fileF k.fm ds.length gF inl data) hk.hfm hk.hfm2 (if r = [] then 3 else 4) q r { wsB wg dg il ⟨g2, g11, gs, gF⟩ nm data.length data.length (if inl then [] else data) with body := if inl then [] else padB data, cur := none, dw := 0, dm := 0 } (blkD inl data) (by omega) rfl rfl hbl (by omega) (by show ((ws1 wg dg il g2 g11).ids ++ gs.map some ++ [some gF]).length ≤ 100000000; omega) rfl rfl hit hne hnm hlast (by show 12 + ds.length = 12 + r.length; omega)
  obtain ⟨A, z, a1, a2, a3, a4, a5, a6⟩ := unfL_last (lfNd g11 :: chN k.md k.ui k.gi 12 (q :: r)) (2 + blkD inl data) (rtN k.rm k.ru k.rg g2 (if r = [] then 3 else 4) g11 4096 q) rfl rfl (fun x hx => by
    rcases List.mem_cons.1 hx with rfl | hx
    · exact ⟨rfl, rfl⟩
    · exact chN_flags k.md k.ui k.gi (q :: r) 12 x hx)
  have hcur : (if r = [] then g11 else curC (q :: r)) = z.g := by
    have h7 : some z.g = some (if r = [] then g11 else curC (q :: r)) := by
      rw [a3]
      cases r with
      | nil => rw [if_pos rfl]; rfl
      | cons p r' =>
        have h8 : (if p :: r' = [] then g11 else curC (q :: p :: r')) = curC (q :: p :: r') := if_neg (List.cons_ne_nil _ _)
        rw [h8, ← curC_last k.md k.ui k.gi r' 12 q p]
        simp [chN]
    exact (Option.some.inj h7).symm
  rw [a1, hcur] at hwr
  have hcl : ∀ c ∈ q.1 :: r.map (·.1), c.length ≤ 255 := by
    rw [show q.1 :: r.map (·.1) = (q :: r).map (·.1) from rfl, hn1]; exact hnl
  have hr0 : decide (r = []) = decide ((ds ++ [e]).length ≤ 1) := by
    rw [← hn1, List.length_map]
    simp only [hrle]
  have hds : (if inl then [] else padB data) ++ rootB q.1 (decide (r = [])) ++ lfB ++ bytesC 2 12 (q.1 :: r.map (·.1)) = bodyD inl data ++ dsD (ds ++ [e]) := by
    unfold dsD bodyD
    rw [hr0, ← hn1]
    simp only [List.append_assoc, List.map_cons, List.headD_cons]
  have hbl2 : (bodyD inl data ++ dsD (ds ++ [e])).length = (blkD inl data + (ds.length + 2)) * 4096 := by
    rw [List.length_append, hbl, dsD_len _ (by simp) hnl]
    simp only [List.length_append, List.length_cons, List.length_nil]; omega
  rw [hds] at hwr
  have hzx : (A ++ [z] ++ [fileF k.fm ds.length gF inl data])[A.length]? = some z := by simp
  have h3 := finD_w { wsB wg dg il ⟨g2, g11, gs, gF⟩ nm data.length data.length (if inl then [] else data) with body := bodyD inl data ++ dsD (ds ++ [e]), cname := ⟨#[]⟩, cur := some z.g, dw := 4096, dm := 4096 } (A ++ [z] ++ [fileF k.fm ds.length gF inl data]) A.length z (blkD inl data + (ds.length + 1)) hzx rfl rfl rfl a4 a5 (by show (bodyD inl data ++ dsD (ds ++ [e])).length = _; rw [hbl2]; omega) (by omega)
  have hset3 : (A ++ [z] ++ [fileF k.fm ds.length gF inl data]).set A.length (finX z (2 + (blkD inl data + (ds.length + 1)))) = finL (2 + blkD inl data) (rtN k.rm k.ru k.rg g2 (if r = [] then 3 else 4) g11 4096 q) (lfNd g11 :: chN k.md k.ui k.gi 12 (q :: r)) ++ [fileF k.fm ds.length gF inl data] := by
    rw [← a6, List.append_assoc, List.set_append_right _ _ (by omega)]
    simp only [Nat.sub_self, List.cons_append, List.nil_append, List.set_cons_zero, List.length_cons, hchl, hrl, List.append_assoc]
    rw [show 2 + (blkD inl data + (ds.length + 1)) = 2 + blkD inl data + (ds.length + 1) by omega]
  rw [hset3] at h3
  have hchok := chN_ok k.md k.ui k.gi hk.hmd hk.hmd2 hk.hui hk.hgi (q :: r) 12
  have hlfok : (lfNd g11).mode < 65536 ∧ (lfNd g11).mode &&& 61440 = 16384 ∧ (lfNd g11).uid < 4294967296 ∧ (lfNd g11).gid < 4294967296 ∧ (lfNd g11).size ≤ 4096 ∧ (lfNd g11).links < 65536 ∧ (lfNd g11).xin = [] := ⟨by show 16832 < 65536; decide, by show 16832 &&& 61440 = 16384; decide, by show 0 < 4294967296; decide, by show 0 < 4294967296; decide, by show 0 ≤ 4096; decide, by show 2 < 65536; decide, rfl⟩
  have hok := finL_ok (lfNd g11 :: chN k.md k.ui k.gi 12 (q :: r)) (2 + blkD inl data) (rtN k.rm k.ru k.rg g2 (if r = [] then 3 else 4) g11 4096 q) (by rw [List.length_cons, hchl]; omega) (fun x hx => by
    rcases List.mem_cons.1 hx with rfl | hx
    · exact ⟨hk.hrm2, hk.hrm, hk.hru, hk.hrg, by show 4096 ≤ 4096; decide, by show (if r = [] then 3 else 4) < 65536; split <;> decide, rfl⟩
    rcases List.mem_cons.1 hx with rfl | hx
    · exact hlfok
    · exact hchok x hx)
  have hfok := fileF_ok k.fm ds.length gF inl data hk.hfm hk.hfm2 hdl hinl
  have hl3 : finL (2 + blkD inl data) (rtN k.rm k.ru k.rg g2 (if r = [] then 3 else 4) g11 4096 q) (lfNd g11 :: chN k.md k.ui k.gi 12 (q :: r)) = finX (rtN k.rm k.ru k.rg g2 (if r = [] then 3 else 4) g11 4096 q) (2 + blkD inl data) :: finL (2 + blkD inl data + 1) (lfNs g11) (chN k.md k.ui k.gi 12 (q :: r)) := rfl
  rw [hl3] at h3 hok
  rw [List.cons_append] at h3
  have hTg : (finL (2 + blkD inl data + 1) (lfNs g11) (chN k.md k.ui k.gi 12 (q :: r)) ++ [fileF k.fm ds.length gF inl data]).map (·.g) = g11 :: (gs ++ [gF]) := by
    rw [List.map_append, finL_g, List.map_cons, chN_g, List.map_dropLast, hn2]
    simp [fileF]
  have ht := TWt_deep wg dg il g2 g11 gs gF (finX (rtN k.rm k.ru k.rg g2 (if r = [] then 3 else 4) g11 4096 q) (2 + blkD inl data)) (finL (2 + blkD inl data + 1) (lfNs g11) (chN k.md k.ui k.gi 12 (q :: r)) ++ [fileF k.fm ds.length gF inl data]) rfl (fun y hy => by
    rw [← List.cons_append] at hy
    rcases List.mem_append.1 hy with hy | hy
    · exact (hok y hy).1
    · rw [List.mem_singleton.1 hy]; exact hfok) (by
      exact (List.map_map (f := fun x : Nd => x.g) (g := some)).symm.trans ((congrArg (List.map some) hTg).trans (by simp)))
  have hndl : ((finX (rtN k.rm k.ru k.rg g2 (if r = [] then 3 else 4) g11 4096 q) (2 + blkD inl data) :: (finL (2 + blkD inl data + 1) (lfNs g11) (chN k.md k.ui k.gi 12 (q :: r)) ++ [fileF k.fm ds.length gF inl data])).map (·.g)).Nodup := by
    rw [List.map_cons, hTg]; exact hnd
  have htb : List.replicate 256 0 ++ (inoB (finX (rtN k.rm k.ru k.rg g2 (if r = [] then 3 else 4) g11 4096 q) (2 + blkD inl data)) ++ (List.replicate 2048 0 ++ (finL (2 + blkD inl data + 1) (lfNs g11) (chN k.md k.ui k.gi 12 (q :: r)) ++ [fileF k.fm ds.length gF inl data]).flatMap inoB)) = tbD k (ds ++ [e]) inl data := by
    have e1 : inoB (finX (rtN k.rm k.ru k.rg g2 (if r = [] then 3 else 4) g11 4096 q) (2 + blkD inl data)) = dirI k.rm k.ru k.rg (if (ds ++ [e]).length ≤ 1 then 3 else 4) (2 + blkD inl data) := by
      rw [← hn1, List.length_map]
      simp only [hrle]
      unfold dirI
      exact inoB_cg rfl rfl rfl rfl rfl rfl rfl rfl rfl
    have e2 : inoB (finX (lfNs g11) (2 + blkD inl data + 1)) = dirI 16832 0 0 2 (3 + blkD inl data) := by
      rw [show 3 + blkD inl data = 2 + blkD inl data + 1 by omega]
      unfold dirI
      exact inoB_cg rfl rfl rfl rfl rfl rfl rfl rfl rfl
    have e3 : inoB (fileF k.fm ds.length gF inl data) = inoB (fileF k.fm ((ds ++ [e]).length - 1) 0 inl data) := inoB_cg rfl rfl rfl rfl rfl rfl rfl rfl rfl
    rw [List.flatMap_append, tbC_eq, e1, e2, hn1]
    unfold tbD
    rw [show 4 + blkD inl data = 2 + blkD inl data + 1 + 1 by omega, ← e3]
    simp only [List.flatMap_cons, List.flatMap_nil, List.append_nil, List.append_assoc]
  rw [htb] at ht
  have htl : (tbD k (ds ++ [e]) inl data).length = (12 + ds.length) * 256 := by
    rw [← htb]
    have hT : ∀ y ∈ finL (2 + blkD inl data + 1) (lfNs g11) (chN k.md k.ui k.gi 12 (q :: r)) ++ [fileF k.fm ds.length gF inl data], InoOk y := by
      intro y hy
      rcases List.mem_append.1 hy with hy | hy
      · exact (hok y (by simp [hy])).1
      · rw [List.mem_singleton.1 hy]; exact hfok
    have hx0 := (hok (finX (rtN k.rm k.ru k.rg g2 (if r = [] then 3 else 4) g11 4096 q) (2 + blkD inl data)) (by simp)).1
    rw [List.length_append, List.length_append, List.length_append, List.length_replicate, List.length_replicate, inoB_len hx0.xl hx0.dl, flat_len _ hT, List.length_append, finL_len, hchl]
    simp only [List.length_cons, List.length_nil]; omega
  have hmd3 : ∀ y ∈ finX (rtN k.rm k.ru k.rg g2 (if r = [] then 3 else 4) g11 4096 q) (2 + blkD inl data) :: (finL (2 + blkD inl data + 1) (lfNs g11) (chN k.md k.ui k.gi 12 (q :: r)) ++ [fileF k.fm ds.length gF inl data]), InoOk y := by
    intro y hy
    rw [← List.cons_append] at hy
    rcases List.mem_append.1 hy with hy | hy
    · exact (hok y hy).1
    · rw [List.mem_singleton.1 hy]; exact hfok
  generalize hl3d : finX (rtN k.rm k.ru k.rg g2 (if r = [] then 3 else 4) g11 4096 q) (2 + blkD inl data) :: (finL (2 + blkD inl data + 1) (lfNs g11) (chN k.md k.ui k.gi 12 (q :: r)) ++ [fileF k.fm ds.length gF inl data]) = l3 at *
  have hdir : ∀ a ∈ g2 :: g11 :: gs, mfL l3 a &&& 61440 = 16384 := by
    intro a ha
    have hg : (finX (rtN k.rm k.ru k.rg g2 (if r = [] then 3 else 4) g11 4096 q) (2 + blkD inl data) :: finL (2 + blkD inl data + 1) (lfNs g11) (chN k.md k.ui k.gi 12 (q :: r))).map (·.g) = g2 :: g11 :: gs := by
      have h9 := hTg
      rw [List.map_append, List.map_cons, List.map_nil, ← List.cons_append] at h9
      have := (List.append_inj' h9 rfl).1
      rw [List.map_cons, this]; rfl
    rw [← hg] at ha
    obtain ⟨y, hy, rfl⟩ := List.mem_map.1 ha
    have hy3 : y ∈ l3 := by rw [← hl3d, ← List.cons_append]; exact List.mem_append.2 (.inl hy)
    rw [mfL_nd hndl hy3]
    exact (hok y hy).2
  have hfil : mfL l3 gF &&& 61440 ≠ 16384 := by
    have hy3 : fileF k.fm ds.length gF inl data ∈ l3 := by rw [← hl3d, ← List.cons_append]; exact List.mem_append.2 (.inr (by simp))
    have := mfL_nd hndl hy3
    rw [show (fileF k.fm ds.length gF inl data).g = gF from rfl, show (fileF k.fm ds.length gF inl data).mode = k.fm from rfl] at this
    rw [this, hk.hfm]; decide
  have hl3g : l3.map (·.g) = g2 :: g11 :: (gs ++ [gF]) := by
    rw [← hl3d, List.map_cons, hTg]; rfl
  have hpi : up16 (11 + (ds ++ [e]).length) = up16 (12 + ds.length) := by
    rw [List.length_append, List.length_singleton]; congr 1; omega
  have hit0 : itD (ds ++ [e]).length (blkD inl data) = 4 + blkD inl data + ds.length := by
    unfold itD; rw [List.length_append, List.length_singleton]; omega
  have ht' : TWt ((ws1 wg dg il g2 g11).ids ++ gs.map some ++ [some gF]) l3 (tbD k (ds ++ [e]) inl data) (l3.map xtN) := by
    have e0 : l3.map xtN = xtN (finX (rtN k.rm k.ru k.rg g2 (if r = [] then 3 else 4) g11 4096 q) (2 + blkD inl data)) :: (finL (2 + blkD inl data + 1) (lfNs g11) (chN k.md k.ui k.gi 12 (q :: r)) ++ [fileF k.fm ds.length gF inl data]).map xtN := by rw [← hl3d]; rfl
    rw [e0]
    exact ht
  have hcl := Close_fn (wsB wg dg il ⟨g2, g11, gs, gF⟩ nm data.length data.length (if inl then [] else data), rtN k.rm k.ru k.rg g2 (if r = [] then 3 else 4) g11 0 q :: lfNd g11 :: (chN k.md k.ui k.gi 12 (q :: r) ++ [fileN k.fm ds.length gF inl data.length data]))
    ({ wsB wg dg il ⟨g2, g11, gs, gF⟩ nm data.length data.length (if inl then [] else data) with body := bodyD inl data ++ dsD (ds ++ [e]), cname := ⟨#[]⟩, cur := some z.g, dw := 4096, dm := 4096 }, A ++ [z] ++ [fileF k.fm ds.length gF inl data])
    { wsB wg dg il ⟨g2, g11, gs, gF⟩ nm data.length data.length (if inl then [] else data) with body := if inl then [] else padB data, cur := none, dw := 0, dm := 0 }
    { wsB wg dg il ⟨g2, g11, gs, gF⟩ nm data.length data.length (if inl then [] else data) with body := bodyD inl data ++ dsD (ds ++ [e]), cname := ⟨#[]⟩, cur := none, dw := 0, dm := 0 }
    _ l3 (l3.map xtN) (rtN k.rm k.ru k.rg g2 (if r = [] then 3 else 4) g11 0 q) (tbD k (ds ++ [e]) inl data) (mfL l3) (r.length + 2) 0 (4 + blkD inl data + ds.length) (up16 (12 + ds.length)) rfl rfl rfl h1 (by show ((ws1 wg dg il g2 g11).ids ++ gs.map some ++ [some gF]).length ≤ 100000; omega) rfl hwr h3
    (by show (bodyD inl data ++ dsD (ds ++ [e])).length = _; rw [hbl2]; congr 1; omega) (by omega) (by omega) (by show 11 ≤ ((ws1 wg dg il g2 g11).ids ++ gs.map some ++ [some gF]).length; omega) (by show ((ws1 wg dg il g2 g11).ids ++ gs.map some ++ [some gF]).length ≤ 5000; omega) (by show _ = up16 ((ws1 wg dg il g2 g11).ids ++ gs.map some ++ [some gF]).length; rw [hidl])
    ht' (by show _ = ((ws1 wg dg il g2 g11).ids ++ gs.map some ++ [some gF]).length * 256; rw [hidl]; exact htl) (by
      intro j g hg
      have hgm : g ∈ g2 :: g11 :: (gs ++ [gF]) := by
        by_cases hj1 : j = 1
        · subst hj1
          have : some g2 = some g := hg
          rw [Option.some.inj this]; simp
        by_cases hj9 : j < 10
        · rw [ids_low wg dg il g2 g11 gs gF j hj9 hj1] at hg
          exact absurd hg (by simp)
        by_cases hj10 : j = 10
        · subst hj10
          have : some g11 = some g := hg
          rw [Option.some.inj this]; simp
        obtain ⟨i, rfl⟩ : ∃ i, j = 11 + i := ⟨j - 11, by omega⟩
        rw [show 1 + (11 + i) = 12 + i by omega] at hg
        have hg' : (gs ++ [gF])[i]? = some g := by rw [← ids_get wg dg il g2 g11 gs gF i]; exact hg
        exact List.mem_cons_of_mem _ (List.mem_cons_of_mem _ (List.mem_of_getElem? hg'))
      rw [← hl3g] at hgm
      obtain ⟨y, hy, rfl⟩ := List.mem_map.1 hgm
      obtain ⟨i, hiy⟩ := List.getElem?_of_mem hy
      exact ⟨i, xtN y, by rw [List.getElem?_map, hiy]; rfl, rfl, (mfL_nd hndl hy).symm, (hmd3 y hy).md⟩)
  have hB : ∀ j, inB ((ws1 wg dg il g2 g11).ids ++ gs.map some ++ [some gF]) j = decide (j < 12 + ds.length) := fun j => by rw [ids_inB, hi]
  have hDr : ∀ j, drB (mfL l3) ((ws1 wg dg il g2 g11).ids ++ gs.map some ++ [some gF]) j = decide (j = 1 ∨ 10 ≤ j ∧ j < 11 + ds.length) := fun j => by
    rw [ids_drB wg dg il g2 g11 gs gF (mfL l3) (hdir g2 (by simp)) (hdir g11 (by simp)) (fun g hg => hdir g (by simp [hg])) hfil, hi]
  have hp16 : 12 + ds.length ≤ up16 (12 + ds.length) := by unfold up16; omega
  have hcI : cntN (inB ((ws1 wg dg il g2 g11).ids ++ gs.map some ++ [some gF])) (up16 (12 + ds.length)) = 12 + ds.length := by
    rw [cntN_congr _ (fun j _ => hB j), cnt_lt]; omega
  have hcD : cntN (drB (mfL l3) ((ws1 wg dg il g2 g11).ids ++ gs.map some ++ [some gF])) (up16 (12 + ds.length)) = ds.length + 2 := by
    rw [cntN_congr _ (fun j _ => hDr j), cnt_dir, if_pos (by omega)]; omega
  have hbm : bm (inB ((ws1 wg dg il g2 g11).ids ++ gs.map some ++ [some gF])) 4096 = bm (fun j => decide (j < 12 + ds.length)) 4096 := bm_congr fun j _ => hB j
  have hE : imgD il k (ds ++ [e]) inl data = sblkB (up16 (12 + ds.length)) (4 + blkD inl data + ds.length + up16 (12 + ds.length) / 16 + 2) 0 (up16 (12 + ds.length) - (12 + ds.length)) (up16 (12 + ds.length)) (if il then 33346 else 578) ++ gdB (4 + blkD inl data + ds.length + up16 (12 + ds.length) / 16) (4 + blkD inl data + ds.length + up16 (12 + ds.length) / 16 + 1) (4 + blkD inl data + ds.length) 0 (up16 (12 + ds.length) - (12 + ds.length)) (ds.length + 2) ++ (bodyD inl data ++ dsD (ds ++ [e]) ++ tbD k (ds ++ [e]) inl data ++ List.replicate (up16 (12 + ds.length) * 256 - (12 + ds.length) * 256) 0 ++ bm (fun _ => true) 4096 ++ bm (fun j => decide (j < 12 + ds.length)) 4096) := by
    unfold imgD
    dsimp only
    rw [hit0, hpi, List.length_append, List.length_singleton, show 11 + (ds.length + 1) = 12 + ds.length by omega]
  rw [hE, hit0, hpi, ← hbm]
  have hcl2 := hcl
  dsimp only at hcl2
  rw [hcI, hcD, hidl] at hcl2
  exact hcl2.frame
end Go.Proofs.YtppkiiomedembaaGreatDoor
namespace Go.Proofs.YtppkiiomedembaaGreatDoor
open Go
set_option maxRecDepth 100000
set_option maxHeartbeats 1000000
attribute [local irreducible] E EO
theorem createDir0_fn (wg dg : Nat) (il : Bool) (nm c : List UInt8) (gf md ui gi : Nat) (zi : Int) (hnl : nm.length ≤ 1000000) (hnd : noDots nm.length nm) (hcl : clN nm.length nm [47] = 47 :: c) (hc1 : 1 ≤ c.length) (hc2 : c.length ≤ 255) (hdir : dirP c = slashed []) (hbase : baseP c = c) (hne : c ≠ lfN)
    (hmd : md &&& 61440 = 16384) (hmd2 : md < 65536) (hui : ui < 4294967296) (hgi : gi < 4294967296) :
    Fe Tryz.prog 37 #[ptrV wg, .string (str nm), ptrV gf] [Cells wg 174 (rawW dg il ((17179869184 : Nat) : Int)), DiskP dg 0 [], Cells gf 181 (fileC zi md ui gi (.map none))] (fun _ : Nat × Nat × Nat => True) (fun _ => .nilIface)
      (fun i => [WP { ws1 wg dg il i.1 i.2.1 with ids := (ws1 wg dg il i.1 i.2.1).ids ++ [some i.2.2] }, NodesP [⟨i.1, 2, 16877, 0, 0, 4, 0, 262144, 0, [], [], some [(lfN, i.2.1), (c, i.2.2)]⟩, ⟨i.2.1, 11, 16832, 0, 0, 2, 0, 262144, 0, [], [], some []⟩, ⟨i.2.2, 12, md, ui, gi, 2, 0, 262144, 0, [], [], some []⟩]]) := by
  refine fn_of_E' (args := [_, _, _]) 14 _ [_, _, _, undef, undef, undef, undef, undef, undef, undef, undef, undef, undef, undef] Tryz.func37 rfl Tryz.ntmps37 ?_
  refine walk ?_
  refine y_callE rfl rfl (finishN_fn wg dg il) fun i _ => ?_
  obtain ⟨g2, g11⟩ := i
  dsimp only
  have hx : (nds1 g2 g11)[0]? = some ⟨g2, 2, 16877, 0, 0, 3, 0, 262144, 0, [], [], some [(lfN, g11)]⟩ := rfl
  have hno : look (kidE [(lfN, g11)]) (str c) = none := by
    have h1 : ¬ str lfN = str c := fun h => hne (str_inj h).symm
    simp only [look, kidE, List.map_cons, List.map_nil, List.find?_cons, List.find?_nil, decide_eq_false h1, Option.map_none]
  obtain ⟨s, hs⟩ : ∃ s, s = ws1 wg dg il g2 g11 := ⟨_, rfl⟩
  have hwg : wg = s.wg := by rw [hs]
  have hids : s.ids.length = 11 := by rw [hs]; rfl
  have hg2 : getI s.ids 2 = some g2 := by rw [hs]; rfl
  rw [← hs]
  subst hwg
  have hlook := lookup_fn s (nds1 g2 g11) nm c c [] 0 0 _ _ [(lfN, g11)] false hx hx hg2 (by omega) (by omega) hnd hcl (by omega) hdir hbase hc1 hc2 (by simp) .here rfl (by show 16877 &&& 61440 = 16384; decide) (by show 16877 < 65536; decide) none (by rw [hno]; rfl) (by simp)
  refine walk ?_
  refine y_callD rfl rfl hlook ?_
  refine walk ?_
  refine y_loadC (v := .int .u32 ((3 : Nat) : Int)) (.there (NodesP.cell hx 9 _ fun _ => rfl)) ?_
  refine walk ?_
  refine y_tno2 WP.op fun A ca _ => ?_
  refine y_callE rfl rfl (makeDir_fn s.wg s.ids.length ca gf md ui gi A (s.ids.map optV) zi _ _ _ _ _ _ _ _ _ _ _ (by omega) hmd hmd2 hui hgi) fun j _ => ?_
  obtain ⟨g, A', c'⟩ := j
  dsimp only
  refine walk ?_
  refine y_neN rfl rfl ?_
  refine walk ?_
  refine y_tno5 (NodesP.opK hx rfl) fun B1 c1 B2 c2 gm _ => ?_
  refine walk ?_
  refine y_mapSet ?_
  rw [look_none_upd hno]
  refine walk ?_
  refine y_tno5 NodeP.op fun B3 c3 B4 c4 gm2 _ => ?_
  dsimp only
  refine walk ?_
  refine y_callq rfl rfl (isDir_fn g md _ hmd2 (Cell.here rfl)) ?_
  rw [hmd]
  refine walk ?_
  refine y_tn (NodeP.clz ⟨g, s.ids.length + 1, md, ui, gi, 2, 0, 262144, 0, [], [], some []⟩ (lk' := ((1 + 1 : Nat) : Int)) (gm := gm2)) fun _ _ => ?_
  refine y_tn (NodesP.clK (l := nds1 g2 g11) ⟨g2, 2, 16877, 0, 0, 3 + 1, 0, 262144, 0, [], [], some ([(lfN, g11)] ++ [(c, g)])⟩ (List.getElem?_eq_some_iff.1 hx).1 rfl rfl) fun _ _ => ?_
  refine y_tn (NodesP.add (l := (nds1 g2 g11).set 0 ⟨g2, 2, 16877, 0, 0, 3 + 1, 0, 262144, 0, [], [], some ([(lfN, g11)] ++ [(c, g)])⟩) ⟨g, s.ids.length + 1, md, ui, gi, 2, 0, 262144, 0, [], [], some []⟩) fun _ _ => ?_
  refine y_tn (WP.close (s := { s with ids := s.ids ++ [some g] }) A' c' (s.ids.length + 1) (s.ids.map optV ++ [ptrV g]) (8192 + s.body.length) (mkB s.body) ⟨by simp, by simp [optV], rfl, rfl⟩) fun _ _ => ?_
  refine y_ret (M := [WP { s with ids := s.ids ++ [some g] }, NodesP ((nds1 g2 g11).set 0 ⟨g2, 2, 16877, 0, 0, 3 + 1, 0, 262144, 0, [], [], some ([(lfN, g11)] ++ [(c, g)])⟩ ++ [⟨g, s.ids.length + 1, md, ui, gi, 2, 0, 262144, 0, [], [], some []⟩])]) [6] rfl ⟨(g2, g11, g), trivial, rfl, ?_⟩
  have h2 : WP { s with ids := s.ids ++ [some g] } = WP { ws1 s.wg dg il g2 g11 with ids := (ws1 s.wg dg il g2 g11).ids ++ [some g] } := by rw [← hs]
  rw [h2, hids]
  rfl
def sdN (k : Cm) (g2 g11 g : Nat) (c : List UInt8) : List Nd := [⟨g2, 2, k.rm, k.ru, k.rg, 4, 0, 262144, 0, [], [], some [(lfN, g11), (c, g)]⟩, ⟨g11, 11, 16832, 0, 0, 2, 0, 262144, 0, [], [], some []⟩, ⟨g, 12, k.md, k.ui, k.gi, 2, 0, 262144, 0, [], [], some []⟩]
def SD (wg dg : Nat) (il : Bool) (k : Cm) (c : List UInt8) : HP := .ex fun i : DI => .fact (i.gs.length = 1) (.star [WP (wsA wg dg il i), NodesP (sdN k i.g2 i.g11 (i.gs.headD 0) c)])
theorem SD_in (wg dg : Nat) (il : Bool) (k : Cm) (c : List UInt8) (g2 g11 g : Nat) :
    Tn [WP ⟨wg, dg, (ws1 wg dg il g2 g11).ids ++ [some g], str [], none, 0, 0, il, []⟩, NodesP (sdN k g2 g11 g c)] (fun _ : Unit => True) (fun _ => [SD wg dg il k c]) :=
  Tn.inexs (A := fun i : DI => [WP (wsA wg dg il i), NodesP (sdN k i.g2 i.g11 (i.gs.headD 0) c)]) (p := fun i : DI => i.gs.length = 1) (⟨g2, g11, [g], 0⟩ : DI) rfl
theorem SD_out (wg dg : Nat) (il : Bool) (k : Cm) (c : List UInt8) :
    Tn [SD wg dg il k c] (fun i : DI => i.gs.length = 1) (fun i => [WP (wsA wg dg il i), NodesP (sdN k i.g2 i.g11 (i.gs.headD 0) c)]) := Tn.exs
theorem stepS0 (wg dg : Nat) (il : Bool) (k : Cm) (hk : CmOk k) (hrt : k.rm = 16877 ∧ k.ru = 0 ∧ k.rg = 0) (G : HP) (c : List UInt8) (hnd : noDots c.length c) (hcl : clN c.length c [47] = 47 :: c) (hc1 : 1 ≤ c.length) (hc2 : c.length ≤ 255) (hdir : dirP c = slashed []) (hbase : baseP c = c) (hne : c ≠ lfN) :
    StepC wg G ⟨0, c, 0, k.md, k.ui, k.gi, []⟩ (HP.star [Cells wg 174 (rawW dg il ((17179869184 : Nat) : Int)), DiskP dg 0 []]) (SD wg dg il k c) := by
  refine .create rfl hk.hmd2 fun gf => ?_
  refine y_fn Tn.open fun _ _ => ?_
  refine ((createDir0_fn wg dg il c c gf k.md k.ui k.gi _ (by omega) hnd hcl hc1 hc2 hdir hbase hne hk.hmd hk.hmd2 hk.hui hk.hgi).close (M' := [SD wg dg il k c]) fun i _ => ?_).frame
  have h := SD_in wg dg il k c i.1 i.2.1 i.2.2
  unfold sdN at h
  rw [hrt.1, hrt.2.1, hrt.2.2] at h
  exact h
theorem stepS1 (wg dg : Nat) (il : Bool) (k : Cm) (hk : CmOk k) (G : HP) (hG : PfxP G) (c e nm : List UInt8) (z : Nat) (inl : Bool) (hnml : nm.length ≤ 100000) (hnd : noDots nm.length nm) (hcl : clN nm.length nm [47] = 47 :: (slashed [c] ++ e)) (hdir : dirP (slashed [c] ++ e) = slashed [c]) (hbase : baseP (slashed [c] ++ e) = e)
    (he1 : 1 ≤ e.length) (he2 : e.length ≤ 255) (hc : 47 ∉ c) (hc2 : c.length ≤ 255) (hcn : c ≠ lfN) (hz : z ≤ 100000) (hinl : inl = (il && decide (z ≤ 136))) (hreg : regM k.fm = k.fm) :
    StepC wg G ⟨0, nm, z, k.fm, 0, 0, []⟩ (SD wg dg il k c) (SB wg dg il k [c] e nm inl 0 z (List.replicate z 0) []) := by
  refine .create rfl hk.hfm2 fun gf => ?_
  refine y_fn (SD_out wg dg il k c) fun i hi => ?_
  obtain ⟨g2, g11, gs, gF⟩ := i
  dsimp only at hi ⊢
  obtain ⟨g, rfl⟩ : ∃ g, gs = [g] := by
    match gs, hi with
    | [g], _ => exact ⟨g, rfl⟩
  rw [show ([g] : List Nat).headD 0 = g from rfl]
  have hfin : Fd Tryz.prog 91 #[ptrV wg] [WP (wsA wg dg il ⟨g2, g11, [g], gF⟩), NodesP (sdN k g2 g11 g c)] .nilIface [WP (wsA wg dg il ⟨g2, g11, [g], gF⟩), NodesP (sdN k g2 g11 g c)] := (finish0_w (wsA wg dg il ⟨g2, g11, [g], gF⟩) rfl).frame
  have hway : Way (sdN k g2 g11 g c) 0 [c] 2 := by
    refine Way.step (x := ⟨g2, 2, k.rm, k.ru, k.rg, 4, 0, 262144, 0, [], [], some [(lfN, g11), (c, g)]⟩) (y := ⟨g, 12, k.md, k.ui, k.gi, 2, 0, 262144, 0, [], [], some []⟩) (ks := [(lfN, g11), (c, g)]) rfl rfl ?_ rfl .here
    have h1 : ¬ str lfN = str c := fun h => hcn (str_inj h).symm
    simp [look, kidE, decide_eq_false h1]
  have hsll : (slashed [c] ++ e).length ≤ 1000 := by simp [slashed]; omega
  by_cases hcase : 136 < z ∨ il = false
  · have hinl' : inl = false := by
      rw [hinl]
      rcases hcase with hc | hc
      · rw [decide_eq_false (by omega), Bool.and_false]
      · rw [hc, Bool.false_and]
    subst hinl'
    have h := createReg_fn (wsA wg dg il ⟨g2, g11, [g], gF⟩) (wsA wg dg il ⟨g2, g11, [g], gF⟩) _ _ nm (slashed [c] ++ e) e [c] 0 2 _ _ [] gf k.fm k.fm 0 0 z hfin rfl rfl rfl (by show 12 ≤ 100000000; decide) (by omega) hnd hcl (by omega) hdir hbase he1 he2 (by simpa using hc) hway rfl hk.hmd hk.hmd2 rfl (by show 2 < 65000; decide) rfl hreg.symm hk.hfm hk.hfm2 hk.hfm2 (by decide) (by decide) (by omega) hcase
    refine Fd.frame (Fe.close h (M' := [SB wg dg il k [c] e nm false 0 z (List.replicate z 0) []]) ?_)
    intro gF' _
    exact SB_in wg dg il k g2 g11 [g] gF' [c] e nm false 0 z _ [] rfl _ _ rfl rfl
  · have hil : il = true := by cases il with | true => rfl | false => exact absurd (.inr rfl) hcase
    have hz2 : z ≤ 136 := by omega
    have hinl' : inl = true := by rw [hinl, hil, decide_eq_true hz2]; rfl
    subst hinl' hil
    have h := createRegI_fn (wsA wg dg true ⟨g2, g11, [g], gF⟩) (wsA wg dg true ⟨g2, g11, [g], gF⟩) _ _ nm (slashed [c] ++ e) e [c] 0 2 _ _ [] gf k.fm k.fm 0 0 z hfin rfl rfl rfl (by show 12 ≤ 100000000; decide) (by omega) hnd hcl (by omega) hdir hbase he1 he2 (by simpa using hc) hway rfl hk.hmd hk.hmd2 rfl (by show 2 < 65000; decide) rfl hreg.symm hk.hfm hk.hfm2 hk.hfm2 (by decide) (by decide) hz2 rfl G hG
    refine Fe.close h fun gF' hF => ?_
    exact (SB_in wg dg true k g2 g11 [g] gF' [c] e nm true 0 z (List.replicate z 0) [] rfl _ _ rfl rfl).frame (F := [G])
abbrev SP (wg dg : Nat) (il : Bool) (k : Cm) (ds : List (List UInt8)) (e nm data : List UInt8) (inl : Bool) (p : Nat) : HP := SB wg dg il k ds e nm inl p data.length (data.take p ++ List.replicate (data.length - p) 0) (if inl then [] else data.take p)
theorem stepP (wg dg : Nat) (il : Bool) (k : Cm) (G : HP) (ds : List (List UInt8)) (e nm data bs : List UInt8) (inl : Bool) (p : Nat) (hp : p + bs.length ≤ data.length) (hbs : data.take (p + bs.length) = data.take p ++ bs) (hz : data.length ≤ 100000) (hinl : inl = true → data.length ≤ 136) (hpos : 0 < bs.length) :
    StepC wg G ⟨1, [], 0, 0, 0, 0, bs⟩ (SP wg dg il k ds e nm data inl p) (SP wg dg il k ds e nm data inl (p + bs.length)) := by
  refine .write rfl fun X cx hX => ?_
  refine y_fn (SB_out wg dg il k ds e nm inl p data.length (data.take p ++ List.replicate (data.length - p) 0) (if inl then [] else data.take p)) fun i hi => ?_
  obtain ⟨g2, g11, gs, gF⟩ := i
  dsimp only at hi ⊢
  refine y_fn (Own.tnk (A := X) (c := cx) (e := 5) (n := bs.length) (vs := enc bs)) fun _ hk => ?_
  have hrd := Own.rd (e := 5) hk
  have hpl : (data.take p).length = p := by rw [List.length_take]; omega
  have hget : ∀ y : Nd, (dpk k g2 g11 (ds.zip gs ++ [(e, gF)]) ++ [y])[(dpk k g2 g11 (ds.zip gs ++ [(e, gF)])).length]? = some y := fun y => by
    rw [List.getElem?_append_right (by omega)]; simp
  cases inl with
  | false =>
    have h := (WriteN_w (wsB wg dg il ⟨g2, g11, gs, gF⟩ nm p data.length (data.take p)) _ _ _ bs X bs.length cx _ (hget (fileN k.fm ds.length gF false data.length (data.take p ++ List.replicate (data.length - p) 0))) hrd rfl rfl (by show 262144 &&& 268435456 = 0; decide) (by show 262144 < 4294967296; decide) (by dsimp only; omega) (by dsimp only; omega) (by dsimp only; omega) (by dsimp only; omega)).frame (L := [Own X cx 5 1 bs.length (enc bs), WP (wsB wg dg il ⟨g2, g11, gs, gF⟩ nm p data.length (data.take p)), NodesP (dpk k g2 g11 (ds.zip gs ++ [(e, gF)]) ++ [fileN k.fm ds.length gF false data.length (data.take p ++ List.replicate (data.length - p) 0)])])
    refine Fd.close h (SB_in wg dg il k g2 g11 gs gF ds e nm false (p + bs.length) data.length _ _ hi _ _ ?_ ?_)
    · rw [if_neg (by decide), hbs]
    · rfl
  | true =>
    have hz2 := hinl rfl
    have h := (WriteIN_w (wsB wg dg il ⟨g2, g11, gs, gF⟩ nm p data.length []) _ _ _ bs X bs.length cx _ (hget (fileN k.fm ds.length gF true data.length (data.take p ++ List.replicate (data.length - p) 0))) hrd rfl hpos rfl (by show 268697600 &&& 268435456 ≠ 0; decide) (by show 268697600 < 4294967296; decide) (by dsimp only; omega) (by simp; omega) (by dsimp only; omega) (by dsimp only; omega) (by omega)).frame (L := [Own X cx 5 1 bs.length (enc bs), WP (wsB wg dg il ⟨g2, g11, gs, gF⟩ nm p data.length []), NodesP (dpk k g2 g11 (ds.zip gs ++ [(e, gF)]) ++ [fileN k.fm ds.length gF true data.length (data.take p ++ List.replicate (data.length - p) 0)])])
    refine Fd.close h (SB_in wg dg il k g2 g11 gs gF ds e nm true (p + bs.length) data.length (data.take (p + bs.length) ++ List.replicate (data.length - (p + bs.length)) 0) (if true = true then [] else data.take (p + bs.length)) hi _ _ ?_ ?_)
    · rfl
    · rw [List.set_append_right _ _ (by omega), Nat.sub_self]
      have e1 : (data.take p ++ List.replicate (data.length - p) 0).take p ++ bs ++ (data.take p ++ List.replicate (data.length - p) 0).drop (p + bs.length) = data.take (p + bs.length) ++ List.replicate (data.length - (p + bs.length)) 0 := by
        rw [List.take_left' hpl, hbs, List.drop_append, List.drop_of_length_le (by omega), List.nil_append, List.drop_replicate, hpl]
        congr 2; omega
      show dpk k g2 g11 (ds.zip gs ++ [(e, gF)]) ++ [{ fileN k.fm ds.length gF true data.length (data.take p ++ List.replicate (data.length - p) 0) with data := (data.take p ++ List.replicate (data.length - p) 0).take p ++ bs ++ (data.take p ++ List.replicate (data.length - p) 0).drop (p + bs.length) }] = _
      rw [e1]
      rfl
end Go.Proofs.YtppkiiomedembaaGreatDoor
namespace Go.Proofs.YtppkiiomedembaaGreatDoor
open Go
set_option maxRecDepth 100000
set_option maxHeartbeats 1000000
abbrev inoL1 (x : Nd) : List (Nat × Nat) := [(2, x.mode), (2, (x.uid &&& 65535) % 65536), (4, (x.size &&& 4294967295) % 4294967296), (4, 0), (4, 0), (4, 0), (4, 0), (2, (x.gid &&& 65535) % 65536), (2, x.links), (4, x.blks), (4, x.flags), (4, 0)]
abbrev inoL2 (x : Nd) : List (Nat × Nat) := [(4, 0), (4, 0), (4, x.size / 2 ^ 32), (4, 0), (2, 0), (2, 0), (2, x.uid / 2 ^ 16), (2, x.gid / 2 ^ 16), (2, 0), (2, 0), (2, 24), (2, 0), (4, 0), (4, 0), (4, 0), (4, 0), (4, 0)]
abbrev inoR (x : Nd) : List UInt8 := xinT x ++ List.replicate (104 - x.xin.length) 0
theorem inoB_fl (x : Nd) : inoB x = flds (inoL1 x) ++ (blkB x.data ++ (flds (inoL2 x) ++ inoR x)) := by
  unfold inoB
  have h : (inoF x).take 152 = flds (inoL1 x) ++ (blkB x.data ++ flds (inoL2 x)) := by
    unfold inoF inodeB
    rw [List.append_assoc _ (leB 4 0) (leB 4 0), List.take_left' (by simp only [List.length_append, leB_len, blkB_len, List.length_nil])]
    simp only [flds, inoL1, inoL2, List.append_nil, List.nil_append, List.append_assoc, Nat.zero_div]
  rw [h]
  simp only [List.append_assoc]
theorem ino_f1 (x : Nd) {o n v : Nat} (h : FAt (inoL1 x) o n v) (hv : v < 256 ^ n) : leAt (inoB x) o n = v := by
  rw [inoB_fl]
  exact fldN rfl h hv
theorem ino_f2 (x : Nd) {o n v p : Nat} (h : FAt (inoL2 x) o n v) (hv : v < 256 ^ n) (hp : p = 100 + o) : leAt (inoB x) p n = v := by
  subst hp
  rw [inoB_fl, ← List.append_assoc, show 100 + o = (flds (inoL1 x) ++ blkB x.data).length + o by rw [List.length_append, blkB_len, flds_len]; simp, leAt_right]
  exact fldN rfl h hv
theorem ino_f3 (x : Nd) (o n : Nat) : leAt (inoB x) (152 + o) n = leAt (inoR x) o n := by
  rw [inoB_fl, ← List.append_assoc, ← List.append_assoc, show 152 + o = (flds (inoL1 x) ++ blkB x.data ++ flds (inoL2 x)).length + o by rw [List.length_append, List.length_append, blkB_len, flds_len, flds_len]; simp, leAt_right]
theorem ino_blk (x : Nd) : ((inoB x).drop 40).take 60 = blkB x.data := by
  rw [inoB_fl, List.drop_left' (by rw [flds_len]; simp), List.take_left' (blkB_len _)]
theorem or_mul (a b k : Nat) (h : a < 2 ^ k) : a ||| b * 2 ^ k = b * 2 ^ k + a := by
  have := Nat.two_pow_add_eq_or_of_lt h b
  rw [Nat.or_comm, Nat.mul_comm b, this]
theorem and_mod16 (u : Nat) : (u &&& 65535) % 65536 = u % 65536 := by
  have := Nat.and_two_pow_sub_one_eq_mod u 16
  rw [show (65535 : Nat) = 2 ^ 16 - 1 from rfl, this]; omega
theorem and_mod32 (u : Nat) : (u &&& 4294967295) % 4294967296 = u % 4294967296 := by
  have := Nat.and_two_pow_sub_one_eq_mod u 32
  rw [show (4294967295 : Nat) = 2 ^ 32 - 1 from rfl, this]; omega
theorem inoR_ok (x : Nd) (num bl : Nat) (il : Bool) (data : List UInt8) (ents : List (List UInt8 × Nat × Nat)) (h : InoOk x) (hs : x.size < 1000000000) (hb : x.blks < 1000000000) (hu : x.flags &&& 262144 ≠ 0) :
    InoR (inoB x) ⟨num, x.mode, x.uid, x.gid, x.size, x.links, x.blks, x.flags, il, bl, data, ents⟩ ((x.uid &&& 65535) % 65536) (x.uid / 2 ^ 16) ((x.gid &&& 65535) % 65536) (x.gid / 2 ^ 16) ((x.size &&& 4294967295) % 4294967296) (x.size / 2 ^ 32) x.blks 0 := by
  obtain ⟨o1, o2, o3, o4, o5, o6, o7, o8, o9, o10⟩ := h
  have hsz : x.size / 2 ^ 32 = 0 := Nat.div_eq_of_lt (by omega)
  have hu1 : x.uid / 2 ^ 16 < 65536 := by omega
  have hg1 : x.gid / 2 ^ 16 < 65536 := by omega
  constructor
  · exact ino_f1 x .here (by simpa using o1)
  · exact ino_f1 x (.there .here) (by have := Nat.mod_lt (x.uid &&& 65535) (show 0 < 65536 by decide); simpa using this)
  · exact ino_f2 x (.there (.there (.there (.there (.there (.there .here)))))) (by simpa using hu1) rfl
  · rw [or_mul _ _ _ (by have := Nat.mod_lt (x.uid &&& 65535) (show 0 < 65536 by decide); simpa using this), and_mod16]
    show x.uid / 2 ^ 16 * 2 ^ 16 + x.uid % 65536 = x.uid
    omega
  · exact o3
  · exact ino_f1 x (.there (.there (.there (.there (.there (.there (.there .here))))))) (by have := Nat.mod_lt (x.gid &&& 65535) (show 0 < 65536 by decide); simpa using this)
  · exact ino_f2 x (.there (.there (.there (.there (.there (.there (.there .here))))))) (by simpa using hg1) rfl
  · rw [or_mul _ _ _ (by have := Nat.mod_lt (x.gid &&& 65535) (show 0 < 65536 by decide); simpa using this), and_mod16]
    show x.gid / 2 ^ 16 * 2 ^ 16 + x.gid % 65536 = x.gid
    omega
  · exact o4
  · exact ino_f1 x (.there (.there .here)) (by have := Nat.mod_lt (x.size &&& 4294967295) (show 0 < 4294967296 by decide); simpa using this)
  · exact ino_f2 x (.there (.there .here)) (by rw [hsz]; decide) rfl
  · rw [hsz, Nat.zero_mul, Nat.or_zero, and_mod32]
    show x.size % 4294967296 = x.size
    omega
  · exact hs
  · exact ino_f1 x (.there (.there (.there (.there (.there (.there (.there (.there .here)))))))) (by simpa using o6)
  · exact ino_f1 x (.there (.there (.there (.there (.there (.there (.there (.there (.there .here))))))))) (by simpa using o7)
  · exact ino_f2 x (.there (.there (.there (.there .here)))) (by decide) rfl
  · rw [Nat.zero_mul, Nat.or_zero]
  · exact hb
  · exact ino_f1 x (.there (.there (.there (.there (.there (.there (.there (.there (.there (.there .here)))))))))) (by simpa using o8)
  · exact ino_f2 x (.there (.there (.there (.there (.there (.there (.there (.there (.there (.there .here)))))))))) (by decide) rfl
  · exact ino_f1 x (.there (.there (.there (.there (.there (.there .here)))))) (by decide)
  · exact ino_f1 x (.there (.there (.there .here))) (by decide)
  · exact ino_f1 x (.there (.there (.there (.there .here)))) (by decide)
  · exact ino_f1 x (.there (.there (.there (.there (.there .here))))) (by decide)
  · exact ino_f2 x (.there (.there (.there (.there (.there (.there (.there (.there (.there (.there (.there (.there (.there (.there .here)))))))))))))) (by decide) rfl
  · exact ino_f2 x (.there (.there (.there (.there (.there (.there (.there (.there (.there (.there (.there (.there .here)))))))))))) (by decide) rfl
  · exact ino_f2 x (.there (.there (.there (.there (.there (.there (.there (.there (.there (.there (.there (.there (.there .here))))))))))))) (by decide) rfl
  · exact ino_f2 x (.there (.there (.there (.there (.there (.there (.there (.there (.there (.there (.there (.there (.there (.there (.there .here))))))))))))))) (by decide) rfl
  · exact ino_f2 x (.there (.there (.there (.there (.there (.there (.there (.there (.there (.there (.there (.there (.there (.there (.there (.there .here)))))))))))))))) (by decide) rfl
  · exact hu
end Go.Proofs.YtppkiiomedembaaGreatDoor
namespace Go.Proofs.YtppkiiomedembaaGreatDoor
open Go
set_option maxRecDepth 100000
set_option maxHeartbeats 1000000
theorem Fe.map {ι κ : Type} {P : Program} {f : FuncId} {args : Array Value} {L : List HP} {PI : ι → Prop} {V : ι → Value} {LL : ι → List HP} {PJ : κ → Prop} {W : κ → Value} {MM : κ → List HP} (h : Fe P f args L PI V LL) (φ : ι → κ) (hφ : ∀ i, PI i → PJ (φ i) ∧ V i = W (φ i) ∧ LL i = MM (φ i)) : Fe P f args L PJ W MM := by
  intro w S hS
  refine (h w S hS).mono ?_
  rintro u w' ⟨L', ⟨i, hi, e1, e2⟩, hst⟩
  obtain ⟨h1, h2, h3⟩ := hφ i hi
  exact ⟨L', ⟨φ i, h1, e1.trans h2, e2.trans h3⟩, hst⟩
theorem extR_ok (st n : Nat) (hs : st < 4294967296) (hn : n < 65536) : ExtR (extB st n) st n := by
  have e : ∃ r, extB st n = flds [(2, 62218), (2, 1), (2, 4), (2, 0), (4, 0), (4, 0), (2, n), (2, 0), (4, st)] ++ r := ⟨_, by simp only [extB, flds, List.append_nil, List.nil_append, List.append_assoc]; rfl⟩
  obtain ⟨r, e⟩ := e
  constructor
  · exact fldN e .here (by decide)
  · exact fldN e (.there .here) (by decide)
  · exact fldN e (.there (.there .here)) (by decide)
  · exact fldN e (.there (.there (.there .here))) (by decide)
  · exact fldN e (.there (.there (.there (.there (.there .here))))) (by decide)
  · exact fldN e (.there (.there (.there (.there (.there (.there .here)))))) (by simpa using hn)
  · exact fldN e (.there (.there (.there (.there (.there (.there (.there .here))))))) (by decide)
  · exact fldN e (.there (.there (.there (.there (.there (.there (.there (.there .here)))))))) (by simpa using hs)
theorem blkB_full {d : List UInt8} (h : d.length = 60) : blkB d = d := by
  unfold blkB; rw [List.take_of_length_le (by omega), h]; simp
theorem noX {x : Nd} (h : x.xin = []) (hd : x.data.length ≤ 60) : leAt (inoB x) 152 4 ≠ 3925999616 := by
  have h1 := ino_f3 x 0 4
  have h2 : inoR x = List.replicate 104 0 := by
    show xinT x ++ List.replicate (104 - x.xin.length) 0 = _
    unfold xinT
    rw [if_pos hd, h]; rfl
  rw [h2, leAt_zeros] at h1
  rw [show 152 = 152 + 0 from rfl, h1]; decide
theorem extn_inoC (v : Vs) (g : Geo v) (it num b nbk : Nat) (nd : Nd) (ents : List (List UInt8 × Nat × Nat)) (hit : leAt v.img 4104 4 = it) (h1 : 1 ≤ num) (h2 : num ≤ v.pi) (hfit : it * 4096 + num * 256 ≤ v.img.length) (hB : inoB nd = (v.img.drop (it * 4096 + (num - 1) * 256)).take 256)
    (hd : nd.data = extB b nbk) (hok : InoOk nd) (hxin : nd.xin = []) (hn1 : 1 ≤ nbk) (hn2 : nbk ≤ 1000) (hsz : (nbk - 1) * 4096 < nd.size) (hsz2 : nd.size ≤ nbk * 4096) (hbk : nd.blks = nbk) (hfl : nd.flags = 786432) (hk : ftN nd.mode = 1 ∨ ftN nd.mode = 2) (hb : b + nbk ≤ v.nb) (hcl : ∀ i, b ≤ i → i < b + nbk → i ∉ v.cl) :
    InoC v ⟨num, nd.mode, nd.uid, nd.gid, nd.size, nd.links, nbk, 786432, false, nbk, (v.img.drop (b * 4096)).take nd.size, ents⟩ ((List.range' b nbk).reverse ++ v.cl) := by
  have hg := g
  obtain ⟨g1, g2, g3, g4, g5, g6⟩ := hg
  have hin := inoR_ok nd num nbk false ((v.img.drop (b * 4096)).take nd.size) ents hok (by omega) (by omega) (by rw [hfl]; decide)
  rw [hbk, hfl] at hin
  have hdl : ((v.img.drop (b * 4096)).take nd.size).length = nd.size := by
    rw [List.length_take, List.length_drop, g1]
    have : (b + nbk) * 4096 ≤ v.nb * 4096 := Nat.mul_le_mul_right _ hb
    omega
  have hrow := ImgP.row v (it * 4096 + (num - 1) * 256) 256
  rw [← hB] at hrow
  have hblen : (inoB nd).length = 256 := inoB_len hok.xl hok.dl
  have hext : ExtR (((inoB nd).drop 40).take 60) b nbk := by
    rw [ino_blk, hd, blkB_full (extB_len b nbk)]
    exact extR_ok b nbk (by omega) (by omega)
  have hil : false = decide ((786432 : Nat) &&& 268435456 ≠ 0) := by decide
  refine inode_fn v g ⟨num, nd.mode, nd.uid, nd.gid, nd.size, nd.links, nbk, 786432, false, nbk, (v.img.drop (b * 4096)).take nd.size, ents⟩ it (inoB nd) _ _ _ _ _ _ _ _ ((List.range' b nbk).reverse ++ v.cl) hit h1 h2 hfit hB hin (by rcases hk with hk | hk <;> (show ftN nd.mode ≠ 0; omega)) (ino_f2 nd (.there .here) (by decide) rfl) hil rfl (.inl ⟨noX hxin (by rw [hd, extB_len]; omega), fun gx => ?_⟩)
  have h := contentX_fn v g ⟨num, nd.mode, nd.uid, nd.gid, nd.size, nd.links, nbk, 786432, false, 0, (v.img.drop (b * 4096)).take nd.size, ents⟩ (.slice none 0 0) (.slice none 0 0) gx (it * 4096 + (num - 1) * 256) (v.ic - (it * 4096 + (num - 1) * 256)) b nbk (inoB nd) hrow hblen (by omega) hok.md hk (by show 786432 < 4294967296; decide) (by show 786432 &&& 524288 ≠ 0; decide) hext (by omega) (by omega) hsz2 hsz (by omega) hcl (by show 0 ≤ 1000000; decide)
  refine h.map (fun i => (some ⟨i.1, 0, none⟩, i.2)) fun i _ => ⟨trivial, rfl, ?_⟩
  dsimp only
  rw [hdl, Nat.zero_add]
theorem ext_inoC (v : Vs) (g : Geo v) (it num b : Nat) (nd : Nd) (ents : List (List UInt8 × Nat × Nat)) (hit : leAt v.img 4104 4 = it) (h1 : 1 ≤ num) (h2 : num ≤ v.pi) (hfit : it * 4096 + num * 256 ≤ v.img.length) (hB : inoB nd = (v.img.drop (it * 4096 + (num - 1) * 256)).take 256)
    (hd : nd.data = extB b 1) (hok : InoOk nd) (hxin : nd.xin = []) (hsz : 1 ≤ nd.size) (hsz2 : nd.size ≤ 4096) (hbk : nd.blks = 1) (hfl : nd.flags = 786432) (hk : ftN nd.mode = 1 ∨ ftN nd.mode = 2) (hb : b < v.nb) (hcl : b ∉ v.cl) :
    InoC v ⟨num, nd.mode, nd.uid, nd.gid, nd.size, nd.links, 1, 786432, false, 1, (v.img.drop (b * 4096)).take nd.size, ents⟩ (b :: v.cl) :=
  extn_inoC v g it num b 1 nd ents hit h1 h2 hfit hB hd hok hxin (by omega) (by omega) (by omega) (by omega) hbk hfl hk (by omega) (fun i hi hi2 => by rw [show i = b by omega]; exact hcl)
end Go.Proofs.YtppkiiomedembaaGreatDoor
namespace Go.Proofs.YtppkiiomedembaaGreatDoor
open Go
set_option maxRecDepth 100000
set_option maxHeartbeats 1000000
theorem bAt_pat (b us : List UInt8) (o i : Nat) (h : o + us.length ≤ b.length) : bAt (pat b o us) i = if o ≤ i ∧ i < o + us.length then bAt us (i - o) else bAt b i := by
  unfold pat
  have hl : (b.take o).length = o := by simp; omega
  by_cases h1 : i < o
  · rw [if_neg (by omega), List.append_assoc, bAt_left _ (by omega), bAt_take _ h1]
  · by_cases h2 : i < o + us.length
    · rw [if_pos ⟨by omega, h2⟩, bAt_left _ (by rw [List.length_append]; omega), bAt_right' (by omega), hl]
    · rw [if_neg (by omega), bAt_right' (by rw [List.length_append]; omega), bAt_drop, List.length_append, hl]
      congr 1; omega
theorem leAt_pat_out {b us : List UInt8} {o i n : Nat} (h : o + us.length ≤ b.length) (hd : i + n ≤ o ∨ o + us.length ≤ i) : leAt (pat b o us) i n = leAt b i n := leAt_congr _ _ _ fun k hk => by
  rw [bAt_pat _ _ _ _ h, if_neg (by omega)]
theorem leAt_pat_in {b us : List UInt8} {o i j n : Nat} (h : o + us.length ≤ b.length) (hj : j = o + i) (hd : i + n ≤ us.length) : leAt (pat b o us) j n = leAt us i n := leAt_congr _ _ _ fun k hk => by
  subst hj
  rw [bAt_pat _ _ _ _ h, if_pos (by omega)]
  congr 1; omega
theorem pat_sub {b us : List UInt8} {o : Nat} (h : o + us.length ≤ b.length) : ((pat b o us).drop o).take us.length = us := by
  have hl : (b.take o).length = o := by simp; omega
  unfold pat
  rw [List.append_assoc, List.drop_left' hl, List.take_left' rfl]
theorem pat_sub_out {b us : List UInt8} {o p k : Nat} (h : o + us.length ≤ b.length) (hd : p + k ≤ o) : ((pat b o us).drop p).take k = (b.drop p).take k := by
  have hl : (b.take o).length = o := by simp; omega
  unfold pat
  rw [List.append_assoc, List.drop_append_of_le_length (by omega), List.take_append_of_le_length (by rw [List.length_drop]; omega), List.drop_take, List.take_take]
  congr 1; omega
structure XHd (b : List UInt8) : Prop where
  len : b.length = 104
  mg : leAt b 0 4 = 3925999616
  iv : leAt b 8 4 = 0
  nd : leAt b 24 4 = 0
structure XEnt (b v : List UInt8) (pl : Nat) : Prop where
  n : leAt b 4 1 = 4
  n0 : leAt b 4 4 ≠ 0
  x : leAt b 5 1 = 7
  o : leAt b 6 2 = pl
  s : leAt b 12 4 = v.length
  h : leAt b 16 4 = hashX [100, 97, 116, 97] v
  nm : (b.drop 20).take 4 = [100, 97, 116, 97]
  v : (b.drop (4 + pl)).take v.length = v
theorem putX_ok (b v : List UInt8) (hb : XHd b) (hv : v.length ≤ 76) : XHd (putX b [100, 97, 116, 97] v) ∧ XEnt (putX b [100, 97, 116, 97] v) v (100 - (v.length + 3) / 4 * 4) := by
  obtain ⟨h1, h2, h3, h4⟩ := hb
  have hh := hashX_lt [100, 97, 116, 97] v
  unfold putX
  dsimp only
  generalize hp : 100 - (v.length + 3) / 4 * 4 = pl
  have hpl : 24 ≤ pl ∧ pl + v.length ≤ 100 ∧ pl ≤ 100 := by omega
  obtain ⟨p1, p2, p3⟩ := hpl
  generalize hb1 : pat b 4 [UInt8.ofNat ([100, 97, 116, 97] : List UInt8).length] = b1
  have l1 : b1.length = 104 := by rw [← hb1, pat_len _ _ _ (by simp; omega), h1]
  generalize hb2 : pat b1 5 [7] = b2
  have l2 : b2.length = 104 := by rw [← hb2, pat_len _ _ _ (by simp; omega), l1]
  generalize hb3 : pat b2 6 (leB 2 pl) = b3
  have l3 : b3.length = 104 := by rw [← hb3, pat_len _ _ _ (by rw [leB_len]; omega), l2]
  generalize hb4 : pat b3 12 (leB 4 v.length) = b4
  have l4 : b4.length = 104 := by rw [← hb4, pat_len _ _ _ (by rw [leB_len]; omega), l3]
  generalize hb5 : pat b4 16 (leB 4 (hashX [100, 97, 116, 97] v)) = b5
  have l5 : b5.length = 104 := by rw [← hb5, pat_len _ _ _ (by rw [leB_len]; omega), l4]
  generalize hb6 : pat b5 20 [100, 97, 116, 97] = b6
  have l6 : b6.length = 104 := by rw [← hb6, pat_len _ _ _ (by simp; omega), l5]
  have l7 : (pat b6 (4 + pl) v).length = 104 := by rw [pat_len _ _ _ (by omega), l6]
  have o7 : ∀ i n, i + n ≤ 28 → leAt (pat b6 (4 + pl) v) i n = leAt b6 i n := fun i n h => leAt_pat_out (by omega) (by omega)
  have o6 : ∀ i n, i + n ≤ 20 ∨ 24 ≤ i → leAt b6 i n = leAt b5 i n := fun i n h => by rw [← hb6]; exact leAt_pat_out (by simp; omega) (by simp; omega)
  have o5 : ∀ i n, i + n ≤ 16 ∨ 20 ≤ i → leAt b5 i n = leAt b4 i n := fun i n h => by rw [← hb5]; exact leAt_pat_out (by rw [leB_len]; omega) (by rw [leB_len]; omega)
  have o4 : ∀ i n, i + n ≤ 12 ∨ 16 ≤ i → leAt b4 i n = leAt b3 i n := fun i n h => by rw [← hb4]; exact leAt_pat_out (by rw [leB_len]; omega) (by rw [leB_len]; omega)
  have o3 : ∀ i n, i + n ≤ 6 ∨ 8 ≤ i → leAt b3 i n = leAt b2 i n := fun i n h => by rw [← hb3]; exact leAt_pat_out (by rw [leB_len]; omega) (by rw [leB_len]; omega)
  have o2 : ∀ i n, i + n ≤ 5 ∨ 6 ≤ i → leAt b2 i n = leAt b1 i n := fun i n h => by rw [← hb2]; exact leAt_pat_out (by simp; omega) (by simp; omega)
  have o1 : ∀ i n, i + n ≤ 4 ∨ 5 ≤ i → leAt b1 i n = leAt b i n := fun i n h => by rw [← hb1]; exact leAt_pat_out (by simp; omega) (by simp; omega)
  have hn1 : leAt b1 4 1 = 4 := by rw [← hb1, leAt_pat_in (i := 0) (by simp; omega) rfl (by simp)]; rfl
  have hn : leAt (pat b6 (4 + pl) v) 4 1 = 4 := by rw [o7 _ _ (by omega), o6 _ _ (by omega), o5 _ _ (by omega), o4 _ _ (by omega), o3 _ _ (by omega), o2 _ _ (by omega), hn1]
  refine ⟨⟨l7, ?_, ?_, ?_⟩, ⟨hn, ?_, ?_, ?_, ?_, ?_, ?_, ?_⟩⟩
  · rw [o7 _ _ (by omega), o6 _ _ (by omega), o5 _ _ (by omega), o4 _ _ (by omega), o3 _ _ (by omega), o2 _ _ (by omega), o1 _ _ (by omega), h2]
  · rw [o7 _ _ (by omega), o6 _ _ (by omega), o5 _ _ (by omega), o4 _ _ (by omega), o3 _ _ (by omega), o2 _ _ (by omega), o1 _ _ (by omega), h3]
  · rw [o7 _ _ (by omega), o6 _ _ (by omega), o5 _ _ (by omega), o4 _ _ (by omega), o3 _ _ (by omega), o2 _ _ (by omega), o1 _ _ (by omega), h4]
  · simp only [leAt] at hn ⊢
    omega
  · rw [o7 _ _ (by omega), o6 _ _ (by omega), o5 _ _ (by omega), o4 _ _ (by omega), o3 _ _ (by omega), ← hb2, leAt_pat_in (i := 0) (by simp; omega) rfl (by simp)]; rfl
  · rw [o7 _ _ (by omega), o6 _ _ (by omega), o5 _ _ (by omega), o4 _ _ (by omega), ← hb3, leAt_pat_in (i := 0) (by rw [leB_len]; omega) rfl (by rw [leB_len]; omega)]
    have := leAt_leB [] 2 pl
    rw [List.append_nil] at this
    rw [this]; exact Nat.mod_eq_of_lt (by omega)
  · rw [o7 _ _ (by omega), o6 _ _ (by omega), o5 _ _ (by omega), ← hb4, leAt_pat_in (i := 0) (by rw [leB_len]; omega) rfl (by rw [leB_len]; omega)]
    have := leAt_leB [] 4 v.length
    rw [List.append_nil] at this
    rw [this]; exact Nat.mod_eq_of_lt (by omega)
  · rw [o7 _ _ (by omega), o6 _ _ (by omega), ← hb5, leAt_pat_in (i := 0) (by rw [leB_len]; omega) rfl (by rw [leB_len]; omega)]
    have := leAt_leB [] 4 (hashX [100, 97, 116, 97] v)
    rw [List.append_nil] at this
    rw [this]; exact Nat.mod_eq_of_lt (by omega)
  · rw [pat_sub_out (by omega) (by omega), ← hb6]
    exact pat_sub (us := [100, 97, 116, 97]) (by simp; omega)
  · exact pat_sub (by omega)
theorem xhd0 : XHd (pat (List.replicate 104 0) 0 (leB 4 3925999616)) := by
  have hl : 0 + (leB 4 3925999616).length ≤ (List.replicate 104 (0 : UInt8)).length := by rw [leB_len, List.length_replicate]; omega
  refine ⟨by rw [pat_len _ _ _ hl, List.length_replicate], ?_, ?_, ?_⟩
  · rw [leAt_pat_in (i := 0) hl rfl (by rw [leB_len]; omega)]
    have := leAt_leB [] 4 3925999616
    rw [List.append_nil] at this
    rw [this]
  · rw [leAt_pat_out hl (by rw [leB_len]; omega), leAt_zeros]
  · rw [leAt_pat_out hl (by rw [leB_len]; omega), leAt_zeros]
theorem fileI_x (fm d gF : Nat) (data : List UInt8) (h : data.length ≤ 136) : XHd (xinT (fileF fm d gF true data)) ∧ XEnt (xinT (fileF fm d gF true data)) (data.drop 60) (100 - ((data.drop 60).length + 3) / 4 * 4) := by
  have hz : (List.replicate (data.length - 60) (0 : UInt8)).length ≤ 76 := by rw [List.length_replicate]; omega
  have hb := putX_ok _ (List.replicate (data.length - 60) 0) xhd0 hz
  show XHd (if data.length ≤ 60 then xinB (List.replicate (data.length - 60) 0) else putX (xinB (List.replicate (data.length - 60) 0)) [100, 97, 116, 97] (data.drop 60)) ∧ XEnt (if data.length ≤ 60 then xinB (List.replicate (data.length - 60) 0) else putX (xinB (List.replicate (data.length - 60) 0)) [100, 97, 116, 97] (data.drop 60)) _ _
  by_cases h6 : data.length ≤ 60
  · rw [if_pos h6]
    have e1 : data.drop 60 = List.replicate (data.length - 60) 0 := by
      rw [List.drop_of_length_le h6, show data.length - 60 = 0 by omega]; rfl
    rw [e1]
    exact hb
  · rw [if_neg h6]
    exact putX_ok _ (data.drop 60) hb.1 (by rw [List.length_drop]; omega)
theorem fileI_att (fm d gF : Nat) (data : List UInt8) (h : data.length ≤ 136) : AttR (inoB (fileF fm d gF true data)) (data.drop 60) (100 - ((data.drop 60).length + 3) / 4 * 4) := by
  obtain ⟨⟨h1, h2, h3, h4⟩, ⟨e1, e2, e3, e4, e5, e6, e7, e8⟩⟩ := fileI_x fm d gF data h
  have hr : inoR (fileF fm d gF true data) = xinT (fileF fm d gF true data) := by
    have hx : (fileF fm d gF true data).xin.length = 104 := by
      show (xinB (List.replicate (data.length - 60) 0)).length = 104
      exact xinB_len _ (by rw [List.length_replicate]; omega)
    unfold inoR
    rw [hx]; simp
  have hf := ino_f3 (fileF fm d gF true data)
  rw [hr] at hf
  have hd : ∀ o, (inoB (fileF fm d gF true data)).drop (152 + o) = (xinT (fileF fm d gF true data)).drop o := by
    intro o
    rw [← hr, inoB_fl, ← List.append_assoc, ← List.append_assoc, show 152 + o = (flds (inoL1 (fileF fm d gF true data)) ++ blkB (fileF fm d gF true data).data ++ flds (inoL2 (fileF fm d gF true data))).length + o by rw [List.length_append, List.length_append, blkB_len, flds_len, flds_len]; simp, ← List.drop_drop, List.drop_left]
  have hvl : (data.drop 60).length ≤ 76 := by rw [List.length_drop]; omega
  generalize data.drop 60 = v at *
  exact ⟨(hf 0 4).trans h2, by rw [show 156 = 152 + 4 from rfl, hf]; exact e2, (hf 4 1).trans e1, (hf 5 1).trans e3, (hf 6 2).trans e4, (hf 8 4).trans h3, (hf 12 4).trans e5, (hf 16 4).trans e6, (congrArg (List.take 4) (hd 20)).trans e7, (hf 24 4).trans h4, by rw [show 156 + (100 - (v.length + 3) / 4 * 4) = 152 + (4 + (100 - (v.length + 3) / 4 * 4)) by omega, hd]; exact e8, by omega, by omega, by omega⟩
end Go.Proofs.YtppkiiomedembaaGreatDoor
namespace Go.Proofs.YtppkiiomedembaaGreatDoor
open Go
set_option maxRecDepth 100000
set_option maxHeartbeats 1000000
theorem Fd.fe {ι : Type} {P : Program} {f : FuncId} {args : Array Value} {L L' : List HP} {v : Value} {PI : ι → Prop} {V : ι → Value} {LL : ι → List HP} (h : Fd P f args L v L') (i : ι) (hi : PI i) (hv : v = V i) (hl : L' = LL i) : Fe P f args L PI V LL := by
  intro w S hS
  refine (h w S hS).mono ?_
  rintro u w' ⟨M, ⟨e1, e2⟩, hst⟩
  exact ⟨M, ⟨i, hi, e1.trans hv, e2.trans hl⟩, hst⟩
theorem Fe.mapP {ι κ : Type} {P : Program} {f : FuncId} {args : Array Value} {L L0 : List HP} {PI : ι → Prop} {V : ι → Value} {LL : ι → List HP} {PJ : κ → Prop} {W : κ → Value} {MM : κ → List HP} (h : Fe P f args L PI V LL) (hL : L0.Perm L) (φ : ι → κ) (hφ : ∀ i, PI i → PJ (φ i) ∧ V i = W (φ i) ∧ (LL i).Perm (MM (φ i))) : Fe P f args L0 PJ W MM := by
  intro w S hS
  refine (h w S (sats_perm hL hS)).mono ?_
  rintro u w' ⟨L', ⟨i, hi, e1, e2⟩, hst⟩
  obtain ⟨h1, h2, h3⟩ := hφ i hi
  subst e2
  exact ⟨MM (φ i), ⟨φ i, h1, e1.trans h2, rfl⟩, hst.perm h3⟩
theorem Tn.nilOwn {e : Nat} : Tn [] (fun _ : Unit => True) (fun _ => [Own none 0 e 1 0 (enc [])]) := fun m S hS => ⟨(), S, trivial, sats_one ⟨by simp [enc], Nat.le_refl _, Nat.zero_le _, .inl ⟨rfl, rfl, hS⟩⟩, fun _ h => h⟩
theorem emp_inoC (v : Vs) (g : Geo v) (it num fm d gF : Nat) (hfm : fm &&& 61440 = 32768) (hfm2 : fm < 65536) (hit : leAt v.img 4104 4 = it) (h1 : 1 ≤ num) (h2 : num ≤ v.pi) (hfit : it * 4096 + num * 256 ≤ v.img.length) (hB : inoB (fileF fm d gF false []) = (v.img.drop (it * 4096 + (num - 1) * 256)).take 256) :
    InoC v ⟨num, fm, 0, 0, 0, 1, 0, 262144, false, 0, [], []⟩ v.cl := by
  have hg := g
  obtain ⟨g1, g2, g3, g4, g5, g6⟩ := hg
  have hok := fileF_ok fm d gF false [] hfm hfm2 (by simp) (by simp)
  have hin := inoR_ok (fileF fm d gF false []) num 0 false [] [] hok (by show 0 < 1000000000; decide) (by show 0 < 1000000000; decide) (by show 262144 &&& 262144 ≠ 0; decide)
  have hil : false = decide ((262144 : Nat) &&& 268435456 ≠ 0) := by decide
  have hft : ftN fm = 1 := ft_reg hfm
  refine inode_fn v g ⟨num, fm, 0, 0, 0, 1, 0, 262144, false, 0, [], []⟩ it (inoB (fileF fm d gF false [])) _ _ _ _ _ _ _ _ v.cl hit h1 h2 hfit hB hin (by show ftN fm ≠ 0; rw [hft]; decide) (ino_f2 _ (.there .here) (by decide) rfl) hil rfl (.inl ⟨noX rfl (by show 0 ≤ 60; decide), fun gx => ?_⟩)
  have h := (contentE_fn v g ⟨num, fm, 0, 0, 0, 1, 0, 262144, false, 0, [], []⟩ (.slice none 0 0) (.slice none 0 0) gx (it * 4096 + (num - 1) * 256) (v.ic - (it * 4096 + (num - 1) * 256)) (by omega) hfm2 hft (by show 262144 < 4294967296; decide) (by show 262144 &&& 524288 = 0; decide) rfl).frame (L := [VP v, ImgP v, Cells gx 74 (rC ⟨num, fm, 0, 0, 0, 1, 0, 262144, false, 0, [], []⟩ (.slice none 0 0) (.slice none 0 0) false 0)]) (N := [VP v, Cells gx 74 (rC ⟨num, fm, 0, 0, 0, 1, 0, 262144, false, 0, [], []⟩ (.slice none 0 0) (.slice none 0 0) false 0), ImgP v])
  have h3 := h.close Tn.nilOwn (M' := [VP v, ImgP v, Cells gx 74 (rC ⟨num, fm, 0, 0, 0, 1, 0, 262144, false, 0, [], []⟩ (.slice none 0 0) (.slice none 0 0) false 0), Own none 0 5 1 0 (enc [])])
  exact Fd.fe (ι := Option Addr × Nat) h3 (none, 0) trivial rfl rfl
theorem inl_inoC (v : Vs) (g : Geo v) (it num fm d gF : Nat) (hfm : fm &&& 61440 = 32768) (hfm2 : fm < 65536) (data : List UInt8) (hdl : data.length ≤ 136) (hit : leAt v.img 4104 4 = it) (h1 : 1 ≤ num) (h2 : num ≤ v.pi) (hfit : it * 4096 + num * 256 < v.img.length) (hB : inoB (fileF fm d gF true data) = (v.img.drop (it * 4096 + (num - 1) * 256)).take 256) :
    InoC v ⟨num, fm, 0, 0, data.length, 1, 0, 268697600, true, 0, data, []⟩ v.cl := by
  have hg := g
  obtain ⟨g1, g2, g3, g4, g5, g6⟩ := hg
  have hok := fileF_ok fm d gF true data hfm hfm2 (by omega) (fun _ => hdl)
  have hin := inoR_ok (fileF fm d gF true data) num 0 true data [] hok (by show data.length < 1000000000; omega) (by show 0 < 1000000000; decide) (by show 268697600 &&& 262144 ≠ 0; decide)
  have hil : true = decide ((268697600 : Nat) &&& 268435456 ≠ 0) := by decide
  have hft : ftN fm = 1 := ft_reg hfm
  have hrow := ImgP.row v (it * 4096 + (num - 1) * 256) 256
  rw [← hB] at hrow
  have hblen : (inoB (fileF fm d gF true data)).length = 256 := inoB_len hok.xl hok.dl
  have hvl : (data.drop 60).length ≤ 76 := by rw [List.length_drop]; omega
  have hcat : ((((inoB (fileF fm d gF true data)).drop 40).take 60 ++ data.drop 60).take data.length) = data := by
    rw [ino_blk]
    show ((data.take 60 ++ List.replicate (60 - data.length) 0) ++ data.drop 60).take data.length = data
    by_cases h6 : data.length ≤ 60
    · rw [List.take_of_length_le h6, List.append_assoc, List.take_left' rfl]
    · rw [show 60 - data.length = 0 by omega, List.replicate_zero, List.append_nil, List.take_append_drop, List.take_length]
  refine inode_fn v g ⟨num, fm, 0, 0, data.length, 1, 0, 268697600, true, 0, data, []⟩ it (inoB (fileF fm d gF true data)) _ _ _ _ _ _ _ _ v.cl hit h1 h2 (Nat.le_of_lt hfit) hB hin (by show ftN fm ≠ 0; rw [hft]; decide) (ino_f2 _ (.there .here) (by decide) rfl) hil rfl (.inr ⟨data.drop 60, _, fileI_att fm d gF data hdl, rfl, hfit, fun gx gv cv hgv => ?_⟩)
  refine y_fn (Own.tnk (A := gv) (c := cv) (e := 5) (n := (data.drop 60).length) (vs := enc (data.drop 60))) fun _ hk => ?_
  have hrd := Own.rd (e := 5) hk
  have h := contentI_fn v g ⟨num, fm, 0, 0, data.length, 1, 0, 268697600, true, 0, data, []⟩ (.slice none 0 0) gx (it * 4096 + (num - 1) * 256) (v.ic - (it * 4096 + (num - 1) * 256)) (data.drop 60).length cv gv (data.drop 60) (inoB (fileF fm d gF true data)) (Own gv cv 5 1 (data.drop 60).length (enc (data.drop 60))) hrd rfl hgv hrow hblen (by omega) hfm2 hft (by show data.length ≤ 60 + (data.drop 60).length; rw [List.length_drop]; omega) (by omega)
  refine h.mapP (List.perm_append_comm (l₁ := [_]) (l₂ := [_, _, _])) (fun i => (some ⟨i.1, 0, none⟩, i.2)) fun i _ => ⟨trivial, rfl, ?_⟩
  dsimp only
  rw [hcat]
  exact (((List.Perm.swap _ _ []).cons _).cons _).cons _
end Go.Proofs.YtppkiiomedembaaGreatDoor
namespace Go.Proofs.YtppkiiomedembaaGreatDoor
open Go
set_option maxRecDepth 100000
set_option maxHeartbeats 4000000
attribute [local irreducible] E EO
theorem dirB_DB : ∀ (es : List (Nat × List UInt8 × Nat)) (n : Nat), (es.map fun e => rlN e.2.1).sum + 12 ≤ n → n ≤ 4096 → n % 4 = 0 → (∀ e ∈ es, 1 ≤ e.2.1.length ∧ e.2.1.length ≤ 255 ∧ e.1 ≠ 0 ∧ e.1 < 4294967296 ∧ e.2.2 < 256) → DB (dirB n es) (es.map fun e => (e.2.1, e.1, e.2.2))
  | [], n, h, h2, h3, _ => by
    have := DB.pad (n := n) (by simpa using h) h2 h3 DB.nil
    rwa [List.append_nil] at this
  | (num, nm, ft) :: r, n, h, h2, h3, h4 => by
    simp only [List.map_cons, List.sum_cons] at h
    obtain ⟨a1, a2, a3, a4, a5⟩ := h4 (num, nm, ft) (by simp)
    have hr : rlN nm % 4 = 0 := by unfold rlN; omega
    rw [dirB, stepD, leftD, if_neg (by omega), if_neg (by omega), List.nil_append]
    exact DB.ent a1 a2 a3 a4 a5 (dirB_DB r (n - rlN nm) (by omega) (by omega) (by omega) fun e he => h4 e (by simp [he]))
theorem DBs_one {b : List UInt8} {es : List (List UInt8 × Nat × Nat)} (hl : b.length = 4096) (h : DB b es) : DBs b es := by
  have := DBs.blk hl h DBs.nil
  rwa [List.append_nil, List.append_nil] at this
theorem dir_DBs (es : List (Nat × List UInt8 × Nat)) (h : (es.map fun e => rlN e.2.1).sum + 12 ≤ 4096) (h4 : ∀ e ∈ es, 1 ≤ e.2.1.length ∧ e.2.1.length ≤ 255 ∧ e.1 ≠ 0 ∧ e.1 < 4294967296 ∧ e.2.2 < 256) : DBs (dirB 4096 es) (es.map fun e => (e.2.1, e.1, e.2.2)) :=
  DBs_one (dirB_fit es 4096 h) (dirB_DB es 4096 h (Nat.le_refl _) (by decide) h4)
def sbL1 (ic nb fb fi pi inc : Nat) : List (Nat × Nat) := [(4, ic), (4, nb), (4, 0), (4, fb), (4, fi), (4, 0), (4, 2), (4, 2), (4, 32768), (4, 32768), (4, pi), (4, 0), (4, 0), (2, 0), (2, 0), (2, 61267), (2, 1), (2, 1), (2, 0), (4, 0), (4, 0), (4, 0), (4, 1), (2, 0), (2, 0), (4, 11), (2, 256), (2, 0), (4, 520), (4, inc), (4, 4170)]
theorem sb5_hd (ic nb fb fi pi inc : Nat) : (sb5 ic nb fb fi pi inc).take 104 = flds (sbL1 ic nb fb fi pi inc) := by kernel_rfl
theorem sb5_z (ic nb fb fi pi inc : Nat) : ((sb5 ic nb fb fi pi inc).drop 336).take 12 = List.replicate 12 0 := by kernel_rfl
theorem FAt.bd {l : List (Nat × Nat)} {o n x : Nat} (h : FAt l o n x) : o + n ≤ (flds l).length := by
  induction h with
  | here => rw [flds, List.length_append, leB_len]; omega
  | there _ ih => rw [flds, List.length_append, leB_len]; omega
theorem sblkB_len (ic nb fb fi pi inc : Nat) : (sblkB ic nb fb fi pi inc).length = 4096 := by
  have := sbB_len ic nb fb fi pi inc
  unfold sblkB
  rw [List.length_append, List.length_append, this, List.length_replicate, List.length_replicate]
theorem gdB_len (a b c d e f : Nat) : (gdB a b c d e f).length = 4096 := by
  unfold gdB
  simp only [List.length_append, leB_len, List.length_replicate]
section
variable {ic nb fb fi pi inc : Nat}
theorem sb_at (X : List UInt8) (o k : Nat) : leAt (sblkB ic nb fb fi pi inc ++ X) (1024 + o) k = leAt (sb5 ic nb fb fi pi inc ++ (List.replicate 2048 0 ++ X)) o k := by
  unfold sblkB
  rw [List.append_assoc, List.append_assoc, leAt_right' (by rw [List.length_replicate]; omega), List.length_replicate, Nat.add_sub_cancel_left]
theorem sb_f {o k x : Nat} (h : FAt (sbL1 ic nb fb fi pi inc) o k x) (hx : x < 256 ^ k) (X : List UInt8) : leAt (sblkB ic nb fb fi pi inc ++ X) (1024 + o) k = x := by
  have hb := h.bd
  have hl := sbB_len ic nb fb fi pi inc
  have hf := h.le []
  rw [List.append_nil] at hf
  rw [← sb5_hd] at hb hf
  have h104 : o + k ≤ 104 := Nat.le_trans hb (by rw [List.length_take]; omega)
  rw [leAt_take _ h104] at hf
  rw [sb_at, leAt_left _ (by rw [hl]; omega), hf, Nat.mod_eq_of_lt hx]
theorem sb_z (X : List UInt8) {o : Nat} (ho : o + 4 ≤ 12) : leAt (sblkB ic nb fb fi pi inc ++ X) (1024 + (336 + o)) 4 = 0 := by
  have hl := sbB_len ic nb fb fi pi inc
  rw [sb_at, leAt_left _ (by rw [hl]; omega)]
  have h := leAt_drop (sb5 ic nb fb fi pi inc) 336 o 4
  rw [← leAt_take _ ho, sb5_z, leAt_zeros] at h
  exact h.symm
theorem sb_336 (X : List UInt8) : leAt (sblkB ic nb fb fi pi inc ++ X) 1360 4 = 0 := sb_z X (o := 0) (by decide)
theorem sb_344 (X : List UInt8) : leAt (sblkB ic nb fb fi pi inc ++ X) 1368 4 = 0 := sb_z X (o := 8) (by decide)
end
theorem gd_at {A : List UInt8} (hA : A.length = 4096) (X : List UInt8) (a0 a1 a2 a3 a4 a5 : Nat) {o k x : Nat} (h : FAt [(4, a0), (4, a1), (4, a2), (2, a3), (2, a4), (2, a5)] o k x) (hx : x < 256 ^ k) : leAt (A ++ (gdB a0 a1 a2 a3 a4 a5 ++ X)) (4096 + o) k = x := by
  rw [leAt_right' (by omega), hA, Nat.add_sub_cancel_left]
  have e : gdB a0 a1 a2 a3 a4 a5 ++ X = flds [(4, a0), (4, a1), (4, a2), (2, a3), (2, a4), (2, a5)] ++ ((List.replicate 14 0 ++ List.replicate 4064 0) ++ X) := by
    unfold gdB
    simp only [flds, List.append_nil, List.append_assoc, -List.reduceReplicate]
  rw [e, h.le, Nat.mod_eq_of_lt hx]
theorem sb_R (ic nb fb fi inc : Nat) (X : List UInt8) (h1 : ic < 4294967296) (h2 : nb < 4294967296) (hinc : inc = 578 ∨ inc = 33346) : SbR (sblkB ic nb fb fi ic inc ++ X) nb ic inc where
  f0 := sb_f .here (by omega) X
  f4 := sb_f (.there .here) (by omega) X
  f20 := sb_f (.there (.there (.there (.there (.there .here))))) (by decide) X
  f24 := sb_f (.there (.there (.there (.there (.there (.there .here)))))) (by decide) X
  f32 := sb_f (.there (.there (.there (.there (.there (.there (.there (.there .here)))))))) (by decide) X
  f40 := sb_f (.there (.there (.there (.there (.there (.there (.there (.there (.there (.there .here)))))))))) (by omega) X
  f56 := sb_f (.there (.there (.there (.there (.there (.there (.there (.there (.there (.there (.there (.there (.there (.there (.there .here))))))))))))))) (by decide) X
  f58 := sb_f (.there (.there (.there (.there (.there (.there (.there (.there (.there (.there (.there (.there (.there (.there (.there (.there .here)))))))))))))))) (by decide) X
  f76 := sb_f (.there (.there (.there (.there (.there (.there (.there (.there (.there (.there (.there (.there (.there (.there (.there (.there (.there (.there (.there (.there (.there (.there .here)))))))))))))))))))))) (by decide) X
  f84 := sb_f (.there (.there (.there (.there (.there (.there (.there (.there (.there (.there (.there (.there (.there (.there (.there (.there (.there (.there (.there (.there (.there (.there (.there (.there (.there .here))))))))))))))))))))))))) (by decide) X
  f88 := sb_f (.there (.there (.there (.there (.there (.there (.there (.there (.there (.there (.there (.there (.there (.there (.there (.there (.there (.there (.there (.there (.there (.there (.there (.there (.there (.there .here)))))))))))))))))))))))))) (by decide) X
  f92 := sb_f (.there (.there (.there (.there (.there (.there (.there (.there (.there (.there (.there (.there (.there (.there (.there (.there (.there (.there (.there (.there (.there (.there (.there (.there (.there (.there (.there (.there .here)))))))))))))))))))))))))))) (by decide) X
  f96 := sb_f (.there (.there (.there (.there (.there (.there (.there (.there (.there (.there (.there (.there (.there (.there (.there (.there (.there (.there (.there (.there (.there (.there (.there (.there (.there (.there (.there (.there (.there .here))))))))))))))))))))))))))))) (by omega) X
  f100 := sb_f (.there (.there (.there (.there (.there (.there (.there (.there (.there (.there (.there (.there (.there (.there (.there (.there (.there (.there (.there (.there (.there (.there (.there (.there (.there (.there (.there (.there (.there (.there .here)))))))))))))))))))))))))))))) (by decide) X
  f336 := sb_336 X
  hinc := hinc
theorem sb_s12 (ic nb fb fi pi inc : Nat) (X : List UInt8) (h : fb < 4294967296) : leAt (sblkB ic nb fb fi pi inc ++ X) 1036 4 = fb := sb_f (.there (.there (.there .here))) (by omega) X
theorem sb_s16 (ic nb fb fi pi inc : Nat) (X : List UInt8) (h : fi < 4294967296) : leAt (sblkB ic nb fb fi pi inc ++ X) 1040 4 = fi := sb_f (.there (.there (.there (.there .here)))) (by omega) X
theorem sb_s84 (ic nb fb fi pi inc : Nat) (X : List UInt8) : leAt (sblkB ic nb fb fi pi inc ++ X) 1108 4 = 11 := sb_f (.there (.there (.there (.there (.there (.there (.there (.there (.there (.there (.there (.there (.there (.there (.there (.there (.there (.there (.there (.there (.there (.there (.there (.there (.there .here))))))))))))))))))))))))) (by decide) X
end Go.Proofs.YtppkiiomedembaaGreatDoor
namespace Go.Proofs.YtppkiiomedembaaGreatDoor
open Go
set_option maxRecDepth 100000
set_option maxHeartbeats 4000000
attribute [local irreducible] E EO
theorem drp {A D : List UInt8} {n : Nat} (h : A.length = n) : (A ++ D).drop n = D := List.drop_left' h
theorem dirI_ok (md ui gi lk b : Nat) (hmd : md &&& 61440 = 16384) (hmd2 : md < 65536) (hui : ui < 4294967296) (hgi : gi < 4294967296) (hlk : lk < 65536) : InoOk ⟨0, 0, md, ui, gi, lk, 1, 786432, 4096, extB b 1, [], none⟩ :=
  ⟨hmd2, .inl hmd, hui, hgi, by show 4096 < 1000000000000; decide, hlk, by show 1 < 4294967296; decide, by show 786432 < 4294967296; decide, by show (extB b 1).length ≤ 136; rw [extB_len]; omega, .inr ⟨rfl, by show (extB b 1).length ≤ 60; rw [extB_len]; omega⟩⟩
theorem dirI_len (md ui gi lk b : Nat) : (dirI md ui gi lk b).length = 256 := inoB_len (.inr ⟨rfl, by show (extB b 1).length ≤ 60; rw [extB_len]; omega⟩) (by show (extB b 1).length ≤ 136; rw [extB_len]; omega)
theorem tbC_len (md ui gi : Nat) : ∀ (names : List (List UInt8)) (b : Nat), (tbC md ui gi b names).length = (names.length - 1) * 256
  | [], _ => rfl
  | [_], _ => rfl
  | _ :: c :: r, b => by
    rw [tbC, List.length_append, dirI_len, tbC_len md ui gi (c :: r)]
    simp only [List.length_cons]; omega
abbrev bbD (n m : Nat) : Nat := itD n m + up16 (11 + n) / 16
abbrev nbD (n m : Nat) : Nat := itD n m + up16 (11 + n) / 16 + 2
abbrev incD (il : Bool) : Nat := if il then 33346 else 578
theorem up16_ok (n : Nat) : up16 n % 16 = 0 ∧ n ≤ up16 n ∧ up16 n < n + 16 := by unfold up16; omega
section
variable (il : Bool) (k : Cm) (names : List (List UInt8)) (inl : Bool) (data : List UInt8)
theorem tbD_len (hk : CmOk k) (h0 : names ≠ []) (hdl : data.length ≤ 100000) (hi : inl = true → data.length ≤ 136) : (tbD k names inl data).length = (11 + names.length) * 256 := by
  have h1 : 1 ≤ names.length := by cases names with | nil => exact absurd rfl h0 | cons a r => simp
  have hf := fileF_ok k.fm (names.length - 1) 0 inl data hk.hfm hk.hfm2 hdl hi
  unfold tbD
  simp only [List.length_append, dirI_len, tbC_len, inoB_len hf.xl hf.dl, List.length_replicate]
  omega
theorem imgD_seg : imgD il k names inl data = sblkB (up16 (11 + names.length)) (nbD names.length (blkD inl data)) 0 (up16 (11 + names.length) - (11 + names.length)) (up16 (11 + names.length)) (incD il) ++ (gdB (bbD names.length (blkD inl data)) (bbD names.length (blkD inl data) + 1) (itD names.length (blkD inl data)) 0 (up16 (11 + names.length) - (11 + names.length)) (names.length + 1) ++
    (bodyD inl data ++ (dsD names ++ (tbD k names inl data ++ (List.replicate (up16 (11 + names.length) * 256 - (11 + names.length) * 256) 0 ++ (bm (fun _ => true) 4096 ++ bm (fun j => decide (j < 11 + names.length)) 4096)))))) := by
  unfold imgD
  simp only [List.append_assoc, -List.reduceReplicate]
theorem imgD_len (hk : CmOk k) (h0 : names ≠ []) (hnl : ∀ c ∈ names, c.length ≤ 255) (hdl : data.length ≤ 100000) (hi : inl = true → data.length ≤ 136) : (imgD il k names inl data).length = nbD names.length (blkD inl data) * 4096 := by
  obtain ⟨u1, u2, u3⟩ := up16_ok (11 + names.length)
  rw [imgD_seg]
  simp only [List.length_append, sblkB_len, gdB_len, bodyD_len inl data, dsD_len names h0 hnl, tbD_len k names inl data hk h0 hdl hi, bm_len, List.length_replicate, itD]
  unfold nbD itD
  generalize up16 (11 + names.length) = u at *
  omega
theorem imgD_body : (imgD il k names inl data).drop 8192 = bodyD inl data ++ (dsD names ++ (tbD k names inl data ++ (List.replicate (up16 (11 + names.length) * 256 - (11 + names.length) * 256) 0 ++ (bm (fun _ => true) 4096 ++ bm (fun j => decide (j < 11 + names.length)) 4096)))) := by
  rw [imgD_seg, ← List.append_assoc]
  exact drp (by rw [List.length_append, sblkB_len, gdB_len])
theorem imgD_dirs : (imgD il k names inl data).drop ((2 + blkD inl data) * 4096) = dsD names ++ (tbD k names inl data ++ (List.replicate (up16 (11 + names.length) * 256 - (11 + names.length) * 256) 0 ++ (bm (fun _ => true) 4096 ++ bm (fun j => decide (j < 11 + names.length)) 4096))) := by
  rw [show (2 + blkD inl data) * 4096 = 8192 + blkD inl data * 4096 by omega, ← List.drop_drop, imgD_body il k names inl data]
  exact drp (bodyD_len inl data)
theorem imgD_tab (h0 : names ≠ []) (hnl : ∀ c ∈ names, c.length ≤ 255) : (imgD il k names inl data).drop (itD names.length (blkD inl data) * 4096) = tbD k names inl data ++ (List.replicate (up16 (11 + names.length) * 256 - (11 + names.length) * 256) 0 ++ (bm (fun _ => true) 4096 ++ bm (fun j => decide (j < 11 + names.length)) 4096)) := by
  rw [show itD names.length (blkD inl data) * 4096 = (2 + blkD inl data) * 4096 + (names.length + 1) * 4096 by unfold itD; omega, ← List.drop_drop, imgD_dirs il k names inl data]
  exact drp (dsD_len names h0 hnl)
theorem imgD_free (hk : CmOk k) (h0 : names ≠ []) (hnl : ∀ c ∈ names, c.length ≤ 255) (hdl : data.length ≤ 100000) (hi : inl = true → data.length ≤ 136) : (imgD il k names inl data).drop (itD names.length (blkD inl data) * 4096 + (11 + names.length) * 256) = List.replicate (up16 (11 + names.length) * 256 - (11 + names.length) * 256) 0 ++ (bm (fun _ => true) 4096 ++ bm (fun j => decide (j < 11 + names.length)) 4096) := by
  rw [← List.drop_drop, imgD_tab il k names inl data h0 hnl]
  exact drp (tbD_len k names inl data hk h0 hdl hi)
theorem imgD_bb (hk : CmOk k) (h0 : names ≠ []) (hnl : ∀ c ∈ names, c.length ≤ 255) (hdl : data.length ≤ 100000) (hi : inl = true → data.length ≤ 136) : (imgD il k names inl data).drop (bbD names.length (blkD inl data) * 4096) = bm (fun _ => true) 4096 ++ bm (fun j => decide (j < 11 + names.length)) 4096 := by
  obtain ⟨u1, u2, u3⟩ := up16_ok (11 + names.length)
  rw [show bbD names.length (blkD inl data) * 4096 = (itD names.length (blkD inl data) * 4096 + (11 + names.length) * 256) + (up16 (11 + names.length) * 256 - (11 + names.length) * 256) by show (_ + _ / 16) * 4096 = _; generalize up16 (11 + names.length) = u at *; omega, ← List.drop_drop, imgD_free il k names inl data hk h0 hnl hdl hi]
  exact drp List.length_replicate
theorem imgD_ib (hk : CmOk k) (h0 : names ≠ []) (hnl : ∀ c ∈ names, c.length ≤ 255) (hdl : data.length ≤ 100000) (hi : inl = true → data.length ≤ 136) : (imgD il k names inl data).drop ((bbD names.length (blkD inl data) + 1) * 4096) = bm (fun j => decide (j < 11 + names.length)) 4096 := by
  rw [Nat.add_mul, ← List.drop_drop, imgD_bb il k names inl data hk h0 hnl hdl hi]
  exact drp (bm_len _ _)
end
end Go.Proofs.YtppkiiomedembaaGreatDoor
namespace Go.Proofs.YtppkiiomedembaaGreatDoor
open Go
set_option maxRecDepth 100000
set_option maxHeartbeats 4000000
attribute [local irreducible] E EO
def riD (md ui gi par num lk : Nat) (c : List UInt8) (last : Bool) : RI := ⟨num, md, ui, gi, 4096, lk, 1, 786432, false, 1, dirB 4096 [(num, [46], 2), (par, [46, 46], 2), (num + 1, c, if last then 1 else 2)], ([46], num, 2) :: ([46, 46], par, 2) :: [(c, num + 1, if last then 1 else 2)]⟩
def riF (fm : Nat) (inl : Bool) (data : List UInt8) (num : Nat) : RI := if inl then ⟨num, fm, 0, 0, data.length, 1, 0, 268697600, true, 0, data, []⟩ else if data = [] then ⟨num, fm, 0, 0, 0, 1, 0, 262144, false, 0, [], []⟩ else ⟨num, fm, 0, 0, data.length, 1, blkD inl data, 786432, false, blkD inl data, data, []⟩
def chR (md ui gi fm : Nat) (inl : Bool) (data : List UInt8) : Nat → Nat → List (List UInt8) → List RI
  | _, _, [] => []
  | par, num, [_] => [riF fm inl data num]
  | par, num, _ :: c :: r => riD md ui gi par num (if r = [] then 2 else 3) c (decide (r = [])) :: chR md ui gi fm inl data num (num + 1) (c :: r)
theorem riF_num (fm : Nat) (inl : Bool) (data : List UInt8) (num : Nat) : (riF fm inl data num).num = num ∧ (riF fm inl data num).mode = fm ∧ (riF fm inl data num).links = 1 ∧ (riF fm inl data num).ents = [] ∧ (riF fm inl data num).data = data := by
  unfold riF
  split
  · exact ⟨rfl, rfl, rfl, rfl, rfl⟩
  · split
    · rename_i h; exact ⟨rfl, rfl, rfl, rfl, h.symm⟩
    · exact ⟨rfl, rfl, rfl, rfl, rfl⟩
theorem gd_set {α : Type} (l : List α) (i j : Nat) (a d : α) : (l.set i a).getD j d = if i = j ∧ j < l.length then a else l.getD j d := by
  simp only [List.getD_eq_getElem?_getD, List.getElem?_set]
  by_cases h : i = j
  · subst h
    by_cases h2 : i < l.length
    · simp [h2]
    · simp [h2, List.getElem?_eq_none (by omega : l.length ≤ i)]
  · simp [h]
theorem file_inoC (v : Vs) (g : Geo v) (it num fm d gF : Nat) (hfm : fm &&& 61440 = 32768) (hfm2 : fm < 65536) (inl : Bool) (data T : List UInt8) (hdl : data.length ≤ 100000) (hi : inl = true → data.length ≤ 136) (hit : leAt v.img 4104 4 = it) (h1 : 1 ≤ num) (h2 : num ≤ v.pi) (hfit : it * 4096 + num * 256 < v.img.length)
    (hB : v.img.drop (it * 4096 + (num - 1) * 256) = inoB (fileF fm d gF inl data) ++ T) (hb : 0 < blkD inl data → (v.img.drop (2 * 4096)).take data.length = data ∧ 2 + blkD inl data ≤ v.nb ∧ ∀ i, 2 ≤ i → i < 2 + blkD inl data → i ∉ v.cl) :
    InoC v (riF fm inl data num) ((List.range' 2 (blkD inl data)).reverse ++ v.cl) := by
  have hok := fileF_ok fm d gF inl data hfm hfm2 hdl hi
  have hB2 : inoB (fileF fm d gF inl data) = (v.img.drop (it * 4096 + (num - 1) * 256)).take 256 := by
    rw [hB, List.take_left' (inoB_len hok.xl hok.dl)]
  cases inl with
  | true => exact inl_inoC v g it num fm d gF hfm hfm2 data (hi rfl) hit h1 h2 hfit hB2
  | false =>
    by_cases h0 : data = []
    · subst h0
      exact emp_inoC v g it num fm d gF hfm hfm2 hit h1 h2 (by omega) hB2
    · have hpos : 1 ≤ data.length := by
        cases data with
        | nil => exact absurd rfl h0
        | cons a r => simp
      obtain ⟨m, hm⟩ : ∃ m, m = blkD false data := ⟨_, rfl⟩
      have hm' : m = (data.length + 4095) / 4096 := by rw [hm]; rfl
      obtain ⟨hb1, hb2, hb3⟩ := hb (by rw [← hm]; omega)
      rw [← hm] at hb2 hb3 ⊢
      have h := extn_inoC v g it num 2 m (fileF fm d gF false data) [] hit h1 h2 (by omega) hB2 (by show (if false = true then data else if data = [] then [] else extB 2 (blkD false data)) = extB 2 m; rw [if_neg h0, ← hm]; rfl) hok rfl (by omega) (by omega) (by show (m - 1) * 4096 < data.length; omega) (by show data.length ≤ m * 4096; omega)
        hm.symm (by show (if false = true then 268697600 else if data = [] then 262144 else 786432) = 786432; rw [if_neg h0]; rfl) (.inl (ft_reg hfm)) hb2 hb3
      have e : riF fm false data num = ⟨num, (fileF fm d gF false data).mode, (fileF fm d gF false data).uid, (fileF fm d gF false data).gid, (fileF fm d gF false data).size, (fileF fm d gF false data).links, m, 786432, false, m, (v.img.drop (2 * 4096)).take (fileF fm d gF false data).size, []⟩ := by
        unfold riF
        rw [if_neg (by simp), if_neg h0, ← hm]
        show _ = (⟨num, fm, 0, 0, data.length, 1, m, 786432, false, m, (v.img.drop (2 * 4096)).take data.length, []⟩ : RI)
        rw [hb1]
      rw [e]; exact h
theorem dir_inoC (v : Vs) (g : Geo v) (it num b md ui gi lk : Nat) (dat T D : List UInt8) (ents : List (List UInt8 × Nat × Nat)) (hmd : md &&& 61440 = 16384) (hmd2 : md < 65536) (hui : ui < 4294967296) (hgi : gi < 4294967296) (hlk : lk < 65536) (hit : leAt v.img 4104 4 = it) (h1 : 1 ≤ num) (h2 : num ≤ v.pi)
    (hfit : it * 4096 + num * 256 ≤ v.img.length) (hB : v.img.drop (it * 4096 + (num - 1) * 256) = dirI md ui gi lk b ++ T) (hD : v.img.drop (b * 4096) = dat ++ D) (hdl : dat.length = 4096) (hb : b < v.nb) (hcl : b ∉ v.cl) :
    InoC v ⟨num, md, ui, gi, 4096, lk, 1, 786432, false, 1, dat, ents⟩ (b :: v.cl) := by
  have h := ext_inoC v g it num b ⟨0, 0, md, ui, gi, lk, 1, 786432, 4096, extB b 1, [], none⟩ ents hit h1 h2 hfit (by rw [hB, List.take_left' (dirI_len md ui gi lk b)]; rfl) rfl (dirI_ok md ui gi lk b hmd hmd2 hui hgi hlk) rfl (by show 1 ≤ 4096; decide) (by show 4096 ≤ 4096; decide) rfl rfl (.inr (ft_dir hmd)) hb hcl
  have e : dat = (v.img.drop (b * 4096)).take 4096 := by rw [hD, List.take_left' hdl]
  rw [e]
  exact h
theorem mode_at {img T : List UInt8} {x : Nd} {p : Nat} (h : img.drop p = inoB x ++ T) (hx : InoOk x) : leAt img p 2 = x.mode := by
  have h1 := leAt_drop img p 0 2
  rw [Nat.add_zero, h, leAt_left _ (by rw [inoB_len hx.xl hx.dl]; decide)] at h1
  rw [← h1]
  exact ino_f1 x .here hx.md
theorem mode_dir {img T : List UInt8} {md ui gi lk b p : Nat} (h : img.drop p = dirI md ui gi lk b ++ T) (hmd : md &&& 61440 = 16384) (hmd2 : md < 65536) (hui : ui < 4294967296) (hgi : gi < 4294967296) (hlk : lk < 65536) : leAt img p 2 = md :=
  mode_at (x := ⟨0, 0, md, ui, gi, lk, 1, 786432, 4096, extB b 1, [], none⟩) h (dirI_ok md ui gi lk b hmd hmd2 hui hgi hlk)
end Go.Proofs.YtppkiiomedembaaGreatDoor
