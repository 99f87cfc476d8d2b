/-
  Plain facts: the tree of a chain is read; Plain facts: the tree of an image is read; Plain facts: an image is read; Plain facts: the tree of an image; The walks: the tree of an image, and its nodes; The walks: the image of a directory with a file whose bytes come in pieces; The walks: an image with a file in pieces is written and read; The walks: a name is sought in a tree; The walks: the law FnStreamIntoImage; Arguments that came in, as the walk of FnStreamIntoImage wants them. Conditions: none.
-/
import Derived.Test.YtppkiiomedembaaGreatDoorM23
import Derived.Test.YtppkiiomedembaaGreatDoorM20
import Derived.Test.YtppkiiomedembaaGreatDoorM22
import Derived.Test.YtppkiiomedembaaGreatDoorRows
import Derived.WalkKit
import Derived.ProofKit
import Derived.OpenShut
import Derived.Deep.DeepHandedRow
import Derived.Lib.LaidTab
import Derived.Lib.LaidU8
import Derived.SliceStrings
import Derived.Carry
import Derived.Deep.Strs
set_option linter.unusedVariables false
set_option linter.unusedSimpArgs false
namespace Go.Proofs.YtppkiiomedembaaGreatDoor
open Go
set_option maxRecDepth 100000
set_option maxHeartbeats 1000000
attribute [local irreducible] E EO
theorem chR_num (md ui gi fm : Nat) (inl : Bool) (data : List UInt8) : ∀ (names : List (List UInt8)) (par num : Nat), (chR md ui gi fm inl data par num names).map (·.num) = List.range' num names.length
  | [], _, _ => rfl
  | [_], _, num => by simp [chR, riF_num, List.range'_one]
  | _ :: c :: r, par, num => by
    rw [chR, List.map_cons, chR_num md ui gi fm inl data (c :: r) num (num + 1)]
    rfl
theorem Geo.mk' {v w : Vs} (g : Geo v) (h1 : w.img = v.img) (h2 : w.ic = v.ic) (h3 : w.nb = v.nb) (h4 : w.pi = v.pi) : Geo w :=
  ⟨by rw [h1, h3]; exact g.len, by rw [h1, h2]; exact g.ic, by rw [h3]; exact g.nb, by rw [h3]; exact g.nb2, by rw [h4]; exact g.pi, by rw [h4]; exact g.pi2⟩
theorem rl_small {c : List UInt8} (h : c.length ≤ 255) : rlN c ≤ 266 := by unfold rlN; omega
theorem dirC_len (num par nx ft : Nat) (c : List UInt8) (h : c.length ≤ 255) : (dirB 4096 [(num, [46], 2), (par, [46, 46], 2), (nx, c, ft)]).length = 4096 := dirB_fit _ _ (by
  have := rl_small h
  simp only [List.map_cons, List.map_nil, List.sum_cons, List.sum_nil]
  have h1 : rlN [46] = 12 := rfl
  have h2 : rlN [46, 46] = 12 := rfl
  omega)
theorem dirC_DBs (num par nx ft : Nat) (c : List UInt8) (h : c.length ≤ 255) (h1 : c ≠ []) (hn : num ≠ 0) (hn2 : num < 4294967296) (hp : par ≠ 0) (hp2 : par < 4294967296) (hx : nx ≠ 0) (hx2 : nx < 4294967296) (hft : ft < 256) :
    DBs (dirB 4096 [(num, [46], 2), (par, [46, 46], 2), (nx, c, ft)]) (([46], num, 2) :: ([46, 46], par, 2) :: [(c, nx, ft)]) := by
  have hr := rl_small h
  have hc : 1 ≤ c.length := by
    cases c with
    | nil => exact absurd rfl h1
    | cons a r => simp
  exact dir_DBs [(num, [46], 2), (par, [46, 46], 2), (nx, c, ft)] (by
    simp only [List.map_cons, List.map_nil, List.sum_cons, List.sum_nil]
    have h1 : rlN [46] = 12 := rfl
    have h2 : rlN [46, 46] = 12 := rfl
    omega) (by
    intro e he
    simp only [List.mem_cons, List.not_mem_nil, or_false] at he
    rcases he with rfl | rfl | rfl
    · exact ⟨by show 1 ≤ 1; decide, by show 1 ≤ 255; decide, hn, hn2, by show 2 < 256; decide⟩
    · exact ⟨by show 1 ≤ 2; decide, by show 2 ≤ 255; decide, hp, hp2, by show 2 < 256; decide⟩
    · exact ⟨hc, h, hx, hx2, hft⟩)
def clC (m : Nat) : Nat → Nat → List Nat → List Nat
  | 0, _, cl => (List.range' 2 m).reverse ++ cl
  | k + 1, b, cl => clC m k (b + 1) (b :: cl)
theorem chain_rtr (md ui gi fm : Nat) (hfm : fm &&& 61440 = 32768) (hfm2 : fm < 65536) (hmd : md &&& 61440 = 16384) (hmd2 : md < 65536) (hui : ui < 4294967296) (hgi : gi < 4294967296) (inl : Bool) (data : List UInt8) (hdl : data.length ≤ 100000) (hi : inl = true → data.length ≤ 136) (it d gF : Nat) :
    ∀ (names : List (List UInt8)) (c : List UInt8) (v : Vs) (s : RS) (num b par : Nat) (T D : List UInt8), Geo v → leAt v.img 4104 4 = it → (∀ c ∈ names, good c ∧ c.length ≤ 255) → v.img.drop (it * 4096 + (num - 1) * 256) = tbC md ui gi b (c :: names) ++ (inoB (fileF fm d gF inl data) ++ T) → v.img.drop (b * 4096) = bytesC par num (c :: names) ++ D →
      12 ≤ num → num + names.length ≤ v.pi → it * 4096 + v.pi * 256 < v.img.length → b + names.length ≤ v.nb → 2 + blkD inl data ≤ b → (0 < blkD inl data → (v.img.drop (2 * 4096)).take data.length = data ∧ 2 + blkD inl data ≤ v.nb ∧ ∀ i, 2 ≤ i → i < 2 + blkD inl data → i ∉ v.cl) → (∀ k, b ≤ k → k < b + names.length → k ∉ v.cl) →
      s.q = [num] → RSz s (v.pi + 1) → (∀ k, num < k → k ≤ v.pi → s.seen.getD k true = false) → s.par[num]? = some par → par ≠ 0 → par < 4294967296 → s.nms.getD num 0 = 1 → (∀ k, num < k → s.nms.getD k 0 = 0) → (∀ k, num ≤ k → s.sub.getD k 0 = 0) →
      ∃ (cl' : List Nat) (s' : RS), cl' = clC (blkD inl data) names.length b v.cl ∧ RTR it (names.length + 1) v s { v with cl := cl', inos := v.inos ++ chR md ui gi fm inl data par num (c :: names) } s' ∧ (∀ k, k ∈ cl' ↔ k ∈ v.cl ∨ (b ≤ k ∧ k < b + names.length) ∨ (2 ≤ k ∧ k < 2 + blkD inl data)) ∧
        (∀ k, k < num → s'.sub.getD k 0 = s.sub.getD k 0) ∧ (∀ x ∈ chR md ui gi fm inl data par num (c :: names), x.links = if ftN x.mode = 2 then s'.sub.getD x.num 0 + 2 else s'.nms.getD x.num 0) ∧ (∀ k, k ≤ num → s'.nms.getD k 0 = s.nms.getD k 0)
  | [], c, v, s, num, b, par, T, D, g, hit, hgood, hT, hD, hn12, hnp, hfit, hb, hb2, hdb, hcl, hq, hz, hs, hpar, hpar0, hpar2, hn1, hnm, hsub => by
    obtain ⟨f1, f2, f3, f4, f5⟩ := riF_num fm inl data num
    have hnp' : num ≤ v.pi := by simpa using hnp
    have hI := file_inoC v g it num fm d gF hfm hfm2 inl data T hdl hi hit (by omega) hnp' (by omega) (by rw [hT, tbC, List.nil_append]) hdb
    refine ⟨(List.range' 2 (blkD inl data)).reverse ++ v.cl, { s with q := [] }, rfl, RTR.file (x := riF fm inl data num) (by rw [f1]; exact hq) (by rw [← f1] at hI ⊢; exact hI) (by rw [f2]; exact hfm2) (by rw [f2, ft_reg hfm]; decide) f4 (by rw [f1]; simpa using hnp) (RTR.done rfl), ?_, fun _ _ => rfl, ?_, fun _ _ => rfl⟩
    · intro k
      simp only [List.mem_append, List.mem_reverse, List.mem_range'_1, List.length_nil]
      constructor
      · rintro (h | h)
        · exact .inr (.inr h)
        · exact .inl h
      · rintro (h | h | h)
        · exact .inr h
        · omega
        · exact .inl h
    · intro x hx
      have hx' : x = riF fm inl data num := by simpa [chR] using hx
      subst hx'
      rw [f2, f3, f1, ft_reg hfm, if_neg (by decide)]
      exact hn1.symm
  | c' :: r, c, v, s, num, b, par, T, D, g, hit, hgood, hT, hD, hn12, hnp, hfit, hb, hb2, hdb, hcl, hq, hz, hs, hpar, hpar0, hpar2, hn1, hnm, hsub => by
    have hgood' := hgood c' (by simp)
    obtain ⟨⟨gd1, gd2, gd3, gd4⟩, gd5⟩ := hgood'
    simp only [List.length_cons] at hnp hb hcl
    rw [tbC, List.append_assoc] at hT
    rw [bytesC, List.append_assoc] at hD
    obtain ⟨ft, hft⟩ : ∃ ft, ft = if r = [] then 1 else 2 := ⟨_, rfl⟩
    have hft' : (if decide (r = []) = true then 1 else 2) = ft := by rw [hft]; by_cases h : r = [] <;> simp [h]
    rw [← hft] at hD
    have hpin : v.pi ≤ 30000 := g.pi2
    have hlen := dirC_len num par (num + 1) ft c' gd5
    have hlk : (if r = [] then 2 else 3) < 65536 := by split <;> decide
    have hI := dir_inoC v g it num b md ui gi (if r = [] then 2 else 3) (dirB 4096 [(num, [46], 2), (par, [46, 46], 2), (num + 1, c', ft)]) _ _ (([46], num, 2) :: ([46, 46], par, 2) :: [(c', num + 1, ft)]) hmd hmd2 hui hgi hlk hit (by omega) (by omega) (by omega) hT hD hlen (by omega) (hcl b (Nat.le_refl _) (by omega))
    have hx : riD md ui gi par num (if r = [] then 2 else 3) c' (decide (r = [])) = ⟨num, md, ui, gi, 4096, (if r = [] then 2 else 3), 1, 786432, false, 1, dirB 4096 [(num, [46], 2), (par, [46, 46], 2), (num + 1, c', ft)], ([46], num, 2) :: ([46, 46], par, 2) :: [(c', num + 1, ft)]⟩ := by
      unfold riD; rw [hft']
    have hT' : v.img.drop (it * 4096 + num * 256) = tbC md ui gi (b + 1) (c' :: r) ++ (inoB (fileF fm d gF inl data) ++ T) := by
      rw [show it * 4096 + num * 256 = it * 4096 + (num - 1) * 256 + 256 by omega, ← List.drop_drop, hT]
      exact drp (dirI_len _ _ _ _ _)
    have hD' : v.img.drop ((b + 1) * 4096) = bytesC num (num + 1) (c' :: r) ++ D := by
      rw [Nat.add_mul, Nat.one_mul, ← List.drop_drop, hD]
      exact drp hlen
    have hmode : ftN (leAt v.img (it * 4096 + num * 256) 2) = ft := by
      cases r with
      | nil =>
        have hok := fileF_ok fm d gF inl data hfm hfm2 hdl hi
        have := mode_at (x := fileF fm d gF inl data) (T := T) (by rw [hT', tbC, List.nil_append]) hok
        rw [this, hft, if_pos rfl]
        exact ft_reg hfm
      | cons c2 r2 =>
        rw [tbC, List.append_assoc] at hT'
        rw [mode_dir hT' hmd hmd2 hui hgi (by split <;> decide), hft, ft_dir hmd, if_neg (by simp)]
    have hsn : s.seen.getD (num + 1) true = false := hs (num + 1) (by omega) (by omega)
    obtain ⟨s1, hs1⟩ : ∃ s1, s1 = rsE num { s with q := [] } (c', num + 1, ft) := ⟨_, rfl⟩
    have hs1' := hs1
    rw [rsE_new (by exact hsn)] at hs1'
    have hz1 : RSz s1 (v.pi + 1) := by rw [hs1]; exact RSz.step (s := { s with q := [] }) ⟨hz.1, hz.2, hz.3, hz.4⟩ _
    obtain ⟨z1, z2, z3, z4⟩ := hz
    have hsub1 : ∀ k, s1.sub.getD k 0 = if k = num ∧ ft = 2 then 1 else s.sub.getD k 0 := by
      intro k
      rw [hs1']
      show (if ft = 2 then s.sub.set num (s.sub.getD num 0 + 1) else s.sub).getD k 0 = _
      by_cases hf2 : ft = 2
      · rw [if_pos hf2, gd_set]
        by_cases hk : num = k
        · subst hk
          rw [if_pos ⟨rfl, by rw [z4]; omega⟩, if_pos ⟨rfl, hf2⟩, hsub num (Nat.le_refl _)]
        · rw [if_neg (by rintro ⟨h, _⟩; exact hk h), if_neg (by rintro ⟨h, _⟩; exact hk h.symm)]
      · rw [if_neg hf2, if_neg (by rintro ⟨_, h⟩; exact hf2 h)]
    have hnm1 : ∀ k, s1.nms.getD k 0 = if k = num + 1 then 1 else s.nms.getD k 0 := by
      intro k
      rw [hs1']
      show (s.nms.set (num + 1) (s.nms.getD (num + 1) 0 + 1)).getD k 0 = _
      rw [gd_set]
      by_cases hk : num + 1 = k
      · subst hk
        rw [if_pos ⟨rfl, by rw [z3]; omega⟩, if_pos rfl, hnm (num + 1) (by omega)]
      · rw [if_neg (by rintro ⟨h, _⟩; exact hk h), if_neg (fun h => hk h.symm)]
    obtain ⟨cl', s', r0, r1, r2', r3, r4, r5⟩ := chain_rtr md ui gi fm hfm hfm2 hmd hmd2 hui hgi inl data hdl hi it d gF r c' { v with cl := b :: v.cl, inos := v.inos ++ [riD md ui gi par num (if r = [] then 2 else 3) c' (decide (r = []))] } s1 (num + 1) (b + 1) num T D (g.mk' rfl rfl rfl rfl) hit (fun z hz => hgood z (by simp [hz])) hT' hD'
      (by omega) (by show num + 1 + r.length ≤ v.pi; omega) hfit (by show b + 1 + r.length ≤ v.nb; omega) (by omega) (fun h => ⟨(hdb h).1, (hdb h).2.1, fun i hi1 hi2 => by
        show i ∉ b :: v.cl
        rw [List.mem_cons]; rintro (h2 | h2)
        · omega
        · exact (hdb h).2.2 i hi1 hi2 h2⟩) (fun k hk1 hk2 => by
        show k ∉ b :: v.cl
        rw [List.mem_cons]; rintro (h2 | h2)
        · omega
        · exact hcl k (by omega) (by omega) h2) (by rw [hs1']; rfl) hz1 (fun k hk1 hk2 => by
        rw [hs1']
        show (s.seen.set (num + 1) true).getD k true = false
        rw [gd_set, if_neg (by rintro ⟨h, _⟩; omega)]
        exact hs k (by omega) hk2) (by
        rw [hs1']
        show (s.par.set (num + 1) num)[num + 1]? = some num
        rw [List.getElem?_set, if_pos rfl, if_pos (by rw [z2]; omega)]) (by omega) (by omega) (by rw [hnm1, if_pos rfl]) (fun k hk => by rw [hnm1, if_neg (by omega)]; exact hnm k (by omega)) (fun k hk => by rw [hsub1, if_neg (by rintro ⟨h, _⟩; omega)]; exact hsub k (by omega))
    refine ⟨cl', s', r0, RTR.dir (x := riD md ui gi par num (if r = [] then 2 else 3) c' (decide (r = []))) (q := []) (par := par) (es := [(c', num + 1, ft)]) hq (by rw [hx]; exact hI) hmd2 (ft_dir hmd) rfl (by show num ≤ v.pi; omega) hpar hpar2 (by rw [hx])
      (by rw [hx]; exact dirC_DBs num par (num + 1) ft c' gd5 gd1 (by omega) (by omega) hpar0 hpar2 (by omega) (by omega) (by rw [hft]; split <;> decide)) (by rw [hx]; show 0 < (dirB 4096 _).length; rw [hlen]; decide) (by rw [hx]; show (dirB 4096 _).length ≤ _; rw [hlen]; decide) (by show 1 ≤ 100000; decide)
      (by rw [hx]; show [[46], [46, 46], c'].Nodup; simp [Ne.symm gd3, Ne.symm gd4]) (by
        intro e he
        have : e = (c', num + 1, ft) := by simpa using he
        subst this; exact ⟨gd2, gd5⟩) ⟨⟨gd3, gd4, by show 11 ≤ num + 1; omega, by show num + 1 ≤ v.pi; omega, by show it * 4096 + (num + 1) * 256 ≤ _; omega, hmode, fun _ => hsn⟩, trivial⟩ (by
        rw [List.foldl_cons, List.foldl_nil]
        show RTR it (r.length + 1) _ (rsE num { s with q := [] } (c', num + 1, ft)) _ _
        rw [← hs1]
        have e : v.inos ++ chR md ui gi fm inl data par num (c :: c' :: r) = (v.inos ++ [riD md ui gi par num (if r = [] then 2 else 3) c' (decide (r = []))]) ++ chR md ui gi fm inl data num (num + 1) (c' :: r) := by rw [chR]; simp
        rw [e]
        exact r1), ?_, ?_, ?_, ?_⟩
    · intro k
      rw [r2' k]
      show k ∈ b :: v.cl ∨ _ ↔ _
      rw [List.mem_cons, List.length_cons]
      constructor
      · rintro ((h | h) | h | h)
        · exact .inr (.inl (by omega))
        · exact .inl h
        · exact .inr (.inl (by omega))
        · exact .inr (.inr h)
      · rintro (h | h | h)
        · exact .inl (.inr h)
        · by_cases hk : k = b
          · exact .inl (.inl hk)
          · exact .inr (.inl (by omega))
        · exact .inr (.inr h)
    · intro k hk
      rw [r3 k (by omega), hsub1, if_neg (by rintro ⟨h, _⟩; omega)]
    · intro x hx
      rw [chR] at hx
      rcases List.mem_cons.1 hx with rfl | hx
      · show (if r = [] then 2 else 3) = if ftN md = 2 then s'.sub.getD num 0 + 2 else _
        rw [if_pos (ft_dir hmd), r3 num (by omega), hsub1]
        by_cases hr : r = []
        · rw [if_pos hr, if_neg (by rw [hft, if_pos hr]; rintro ⟨_, h⟩; omega), hsub num (Nat.le_refl _)]
        · rw [if_neg hr, if_pos ⟨rfl, by rw [hft, if_neg hr]⟩]
      · exact r4 x hx
    · intro k hk
      rw [r5 k (by omega), hnm1, if_neg (by omega)]
end Go.Proofs.YtppkiiomedembaaGreatDoor
namespace Go.Proofs.YtppkiiomedembaaGreatDoor
open Go
set_option maxRecDepth 100000
set_option maxHeartbeats 1000000
attribute [local irreducible] E EO
def riRoot (md ui gi : Nat) (c : List UInt8) (one : Bool) : RI := ⟨2, md, ui, gi, 4096, if one then 3 else 4, 1, 786432, false, 1, rootB c one, ([46], 2, 2) :: ([46, 46], 2, 2) :: [(lfN, 11, 2), (c, 12, if one then 1 else 2)]⟩
def riLf : RI := ⟨11, 16832, 0, 0, 4096, 2, 1, 786432, false, 1, lfB, ([46], 11, 2) :: ([46, 46], 2, 2) :: []⟩
def deepRI (k : Cm) (names : List (List UInt8)) (inl : Bool) (data : List UInt8) : List RI := [riRoot k.rm k.ru k.rg (names.headD []) (decide (names.length ≤ 1)), riLf] ++ chR k.md k.ui k.gi k.fm inl data 2 12 names
abbrev rs0 (pi : Nat) : RS := { q := [2], seen := (List.replicate (pi + 1) false).set 2 true, par := (List.replicate (pi + 1) 0).set 2 2, nms := List.replicate (pi + 1) 0, sub := List.replicate (pi + 1) 0 }
theorem rep_getD {α : Type} (m k : Nat) (a : α) : (List.replicate m a).getD k a = a := by
  rw [List.getD_eq_getElem?_getD, List.getElem?_replicate]; split <;> rfl
theorem root_DBs (c : List UInt8) (one : Bool) (h : c.length ≤ 255) (h1 : c ≠ []) : DBs (rootB c one) (([46], 2, 2) :: ([46, 46], 2, 2) :: [(lfN, 11, 2), (c, 12, if one then 1 else 2)]) := by
  have hr := rl_small h
  have hc : 1 ≤ c.length := by
    cases c with
    | nil => exact absurd rfl h1
    | cons a r => simp
  exact dir_DBs [(2, [46], 2), (2, [46, 46], 2), (11, lfN, 2), (12, c, if one then 1 else 2)] (by
    simp only [List.map_cons, List.map_nil, List.sum_cons, List.sum_nil]
    have h1 : rlN [46] = 12 := rfl
    have h2 : rlN [46, 46] = 12 := rfl
    have h3 : rlN lfN = 20 := rfl
    omega) (by
    intro e he
    simp only [List.mem_cons, List.not_mem_nil, or_false] at he
    rcases he with rfl | rfl | rfl | rfl
    · exact ⟨by show 1 ≤ 1; decide, by show 1 ≤ 255; decide, by show 2 ≠ 0; decide, by show 2 < 4294967296; decide, by show 2 < 256; decide⟩
    · exact ⟨by show 1 ≤ 2; decide, by show 2 ≤ 255; decide, by show 2 ≠ 0; decide, by show 2 < 4294967296; decide, by show 2 < 256; decide⟩
    · exact ⟨by show 1 ≤ 10; decide, by show 10 ≤ 255; decide, by show 11 ≠ 0; decide, by show 11 < 4294967296; decide, by show 2 < 256; decide⟩
    · exact ⟨hc, h, by show 12 ≠ 0; decide, by show 12 < 4294967296; decide, by show (if one then 1 else 2) < 256; split <;> decide⟩)
theorem lf_DBs : DBs lfB (([46], 11, 2) :: ([46, 46], 2, 2) :: []) :=
  dir_DBs [(11, [46], 2), (2, [46, 46], 2)] (by decide) (by
    intro e he
    simp only [List.mem_cons, List.not_mem_nil, or_false] at he
    rcases he with rfl | rfl
    · exact ⟨by show 1 ≤ 1; decide, by show 1 ≤ 255; decide, by show 11 ≠ 0; decide, by show 11 < 4294967296; decide, by show 2 < 256; decide⟩
    · exact ⟨by show 1 ≤ 2; decide, by show 2 ≤ 255; decide, by show 2 ≠ 0; decide, by show 2 < 4294967296; decide, by show 2 < 256; decide⟩)
theorem rs_root (pi ft : Nat) (c : List UInt8) (hpi : 12 ≤ pi) (s1 : RS) (h : s1 = [(lfN, 11, 2), (c, 12, ft)].foldl (rsE 2) { rs0 pi with q := [] }) :
    s1.q = [11, 12] ∧ RSz s1 (pi + 1) ∧ (∀ k, 12 < k → k ≤ pi → s1.seen.getD k true = false) ∧ s1.par[11]? = some 2 ∧ s1.par[12]? = some 2 ∧ s1.nms.getD 12 0 = 1 ∧ (∀ k, 12 < k → s1.nms.getD k 0 = 0) ∧ (∀ k, 2 < k → s1.sub.getD k 0 = 0) ∧ s1.sub.getD 2 0 = if ft = 2 then 2 else 1 := by
  rw [List.foldl_cons, List.foldl_cons, List.foldl_nil] at h
  have hz0 : RSz { rs0 pi with q := [] } (pi + 1) := ⟨by simp, by simp, by simp, by simp⟩
  have hz1 := hz0.step (n := 2) (lfN, 11, 2)
  have hz2 := hz1.step (n := 2) (c, 12, ft)
  rw [← h] at hz2
  have hse : ∀ k, 2 < k → k ≤ pi → ((List.replicate (pi + 1) false).set 2 true).getD k true = false := by
    intro k h1 h2
    rw [gd_set, if_neg (by omega), List.getD_eq_getElem?_getD, List.getElem?_replicate, if_pos (by omega)]; rfl
  rw [rsE_new (s := { rs0 pi with q := [] }) (by exact hse 11 (by decide) (by omega))] at h hz1
  rw [rsE_new (by
    show (((List.replicate (pi + 1) false).set 2 true).set 11 true).getD 12 true = false
    rw [gd_set, if_neg (by omega)]
    exact hse 12 (by decide) hpi)] at h
  subst h
  refine ⟨rfl, hz2, ?_, ?_, ?_, ?_, ?_, ?_, ?_⟩
  · intro k h1 h2
    show ((((List.replicate (pi + 1) false).set 2 true).set 11 true).set 12 true).getD k true = false
    rw [gd_set, if_neg (by omega), gd_set, if_neg (by omega)]
    exact hse k (by omega) h2
  · show ((((List.replicate (pi + 1) 0).set 2 2).set 11 2).set 12 2)[11]? = some 2
    rw [List.getElem?_set_ne (by decide), List.getElem?_set_self (by simp; omega)]
  · show ((((List.replicate (pi + 1) 0).set 2 2).set 11 2).set 12 2)[12]? = some 2
    rw [List.getElem?_set_self (by simp; omega)]
  · show (((List.replicate (pi + 1) 0).set 11 _).set 12 (((List.replicate (pi + 1) 0).set 11 _).getD 12 0 + 1)).getD 12 0 = 1
    rw [gd_set, if_pos ⟨rfl, by simp; omega⟩, gd_set, if_neg (by omega), rep_getD]
  · intro k hk
    show (((List.replicate (pi + 1) 0).set 11 _).set 12 _).getD k 0 = 0
    rw [gd_set, if_neg (by omega), gd_set, if_neg (by omega), rep_getD]
  · intro k hk
    show (if ft = 2 then (((List.replicate (pi + 1) 0).set 2 _).set 2 _) else ((List.replicate (pi + 1) 0).set 2 _)).getD k 0 = 0
    split
    · rw [gd_set, if_neg (by omega), gd_set, if_neg (by omega), rep_getD]
    · rw [gd_set, if_neg (by omega), rep_getD]
  · show (if ft = 2 then (((List.replicate (pi + 1) 0).set 2 ((List.replicate (pi + 1) 0).getD 2 0 + 1)).set 2 (((List.replicate (pi + 1) 0).set 2 ((List.replicate (pi + 1) 0).getD 2 0 + 1)).getD 2 0 + 1)) else ((List.replicate (pi + 1) 0).set 2 ((List.replicate (pi + 1) 0).getD 2 0 + 1))).getD 2 0 = if ft = 2 then 2 else 1
    have e1 : ((List.replicate (pi + 1) 0).set 2 ((List.replicate (pi + 1) 0).getD 2 0 + 1)).getD 2 0 = 1 := by
      rw [gd_set, if_pos ⟨rfl, by simp; omega⟩, rep_getD]
    split
    · rw [gd_set, if_pos ⟨rfl, by simp; omega⟩, e1]
    · exact e1
theorem deep_rtr (il : Bool) (kc : Cm) (hk : CmOk kc) (c : List UInt8) (r : List (List UInt8)) (hgood : ∀ z ∈ c :: r, good z ∧ z.length ≤ 255) (hlf : c ≠ lfN) (hlen : r.length ≤ 99) (inl : Bool) (data : List UInt8) (hdl : data.length ≤ 100000) (hi : inl = true → data.length ≤ 136)
    (v : Vs) (g : Geo v) (it m bb : Nat) (hm : blkD inl data = m) (hit0 : it = 3 + m + (r.length + 1)) (himg : v.img = imgD il kc (c :: r) inl data) (hnb : v.nb = it + v.pi / 16 + 2) (hpi : v.pi = up16 (11 + (r.length + 1))) (hbb : bb = it + v.pi / 16) (hcl : v.cl = gcl it ((v.pi * 256 + 4095) / 4096) bb) (hin : v.inos = []) :
    ∃ (cl' : List Nat) (s' : RS), cl' = clC m r.length (4 + m) ((3 + m) :: (2 + m) :: v.cl) ∧ RTR it (r.length + 3) v (rs0 v.pi) { v with cl := cl', inos := deepRI kc (c :: r) inl data } s' ∧ (∀ k, k < v.nb → k ∈ cl') ∧ (∀ x ∈ deepRI kc (c :: r) inl data, x.links = if ftN x.mode = 2 then s'.sub.getD x.num 0 + 2 else s'.nms.getD x.num 0) := by
  have h0 : c :: r ≠ [] := by simp
  have hnl : ∀ z ∈ c :: r, z.length ≤ 255 := fun z hz => (hgood z hz).2
  have hm1 : m ≤ 25 := by rw [← hm]; unfold blkD; split <;> omega
  have hlen0 := g.len
  obtain ⟨u1, u2, u3⟩ := up16_ok (11 + (r.length + 1))
  rw [← hpi] at u1 u2 u3
  have hit : leAt v.img 4104 4 = it := by
    rw [himg, imgD_seg]
    exact (gd_at (sblkB_len _ _ _ _ _ _) _ _ _ _ _ _ _ (.there (.there .here)) (by show itD (r.length + 1) (blkD inl data) < _; unfold itD; rw [hm]; omega)).trans (by show itD (r.length + 1) (blkD inl data) = it; unfold itD; rw [hm, hit0])
  have itE : itD (c :: r).length (blkD inl data) = it := by show itD (r.length + 1) _ = it; unfold itD; rw [hm, hit0]
  have htab := imgD_tab il kc (c :: r) inl data h0 hnl
  have hdir := imgD_dirs il kc (c :: r) inl data
  have hbod := imgD_body il kc (c :: r) inl data
  rw [← himg, itE] at htab
  rw [← himg, hm] at hdir
  rw [← himg] at hbod
  generalize (List.replicate (up16 (11 + (c :: r).length) * 256 - (11 + (c :: r).length) * 256) 0 ++ (bm (fun _ => true) 4096 ++ bm (fun j => decide (j < 11 + (c :: r).length)) 4096)) = T at htab hdir hbod
  unfold tbD at htab
  rw [hm] at htab
  simp only [List.append_assoc, -List.reduceReplicate] at htab
  unfold dsD at hdir
  simp only [List.append_assoc] at hdir
  obtain ⟨⟨gd1, gd2, gd3, gd4⟩, gd5⟩ := hgood c (by simp)
  have hhd : (c :: r).headD [] = c := rfl
  rw [hhd] at hdir
  obtain ⟨one, hone⟩ : ∃ one, one = decide ((c :: r).length ≤ 1) := ⟨_, rfl⟩
  have hone' : (one = true) = (r = []) := by
    rw [hone]; cases r <;> simp
  have hrl := rootB_len c one gd5
  rw [← hone] at hdir
  have hlk0 : (if (c :: r).length ≤ 1 then 3 else 4) = if one then 3 else 4 := by rw [hone]; simp
  rw [hlk0] at htab
  -- the inodes
  have t2 : v.img.drop (it * 4096 + (2 - 1) * 256) = dirI kc.rm kc.ru kc.rg (if one then 3 else 4) (2 + m) ++ (List.replicate 2048 0 ++ (dirI 16832 0 0 2 (3 + m) ++ (tbC kc.md kc.ui kc.gi (4 + m) (c :: r) ++ (inoB (fileF kc.fm ((c :: r).length - 1) 0 inl data) ++ T)))) := by
    rw [← List.drop_drop, htab]
    exact drp List.length_replicate
  have t11 : v.img.drop (it * 4096 + (11 - 1) * 256) = dirI 16832 0 0 2 (3 + m) ++ (tbC kc.md kc.ui kc.gi (4 + m) (c :: r) ++ (inoB (fileF kc.fm ((c :: r).length - 1) 0 inl data) ++ T)) := by
    rw [show it * 4096 + (11 - 1) * 256 = it * 4096 + (2 - 1) * 256 + 256 + 2048 by omega, ← List.drop_drop, ← List.drop_drop, t2, drp (dirI_len _ _ _ _ _)]
    exact drp List.length_replicate
  have t12 : v.img.drop (it * 4096 + (12 - 1) * 256) = tbC kc.md kc.ui kc.gi (4 + m) (c :: r) ++ (inoB (fileF kc.fm ((c :: r).length - 1) 0 inl data) ++ T) := by
    rw [show it * 4096 + (12 - 1) * 256 = it * 4096 + (11 - 1) * 256 + 256 by omega, ← List.drop_drop, t11]
    exact drp (dirI_len _ _ _ _ _)
  -- the directories
  have d2 := hdir
  have d11 : v.img.drop ((3 + m) * 4096) = lfB ++ (bytesC 2 12 (c :: r) ++ (tbD kc (c :: r) inl data ++ T)) := by
    rw [show (3 + m) * 4096 = (2 + m) * 4096 + 4096 by omega, ← List.drop_drop, d2]
    exact drp hrl
  have d12 : v.img.drop ((4 + m) * 4096) = bytesC 2 12 (c :: r) ++ (tbD kc (c :: r) inl data ++ T) := by
    rw [show (4 + m) * 4096 = (3 + m) * 4096 + 4096 by omega, ← List.drop_drop, d11]
    exact drp lfB_len
  have dat : 0 < blkD inl data → (v.img.drop (2 * 4096)).take data.length = data := by
    intro hb1
    have hi' : inl = false := by
      cases inl with
      | false => rfl
      | true => exact absurd hb1 (by unfold blkD; simp)
    rw [show 2 * 4096 = 8192 from rfl, hbod]
    unfold bodyD padB
    rw [hi', if_neg (by decide), List.append_assoc, List.take_left]
  obtain ⟨ft, hft⟩ : ∃ ft, ft = if one then 1 else 2 := ⟨_, rfl⟩
  obtain ⟨s1, hs1⟩ : ∃ s1, s1 = [(lfN, 11, 2), (c, 12, ft)].foldl (rsE 2) { rs0 v.pi with q := [] } := ⟨_, rfl⟩
  obtain ⟨q1, q2, q3, q4, q5, q6, q7, q8, q9⟩ := rs_root v.pi ft c (by omega) s1 hs1
  have hfit : it * 4096 + v.pi * 256 < v.img.length := by rw [hlen0, hnb]; omega
  have I2 := dir_inoC v g it 2 (2 + m) kc.rm kc.ru kc.rg (if one then 3 else 4) (rootB c one) _ _ (([46], 2, 2) :: ([46, 46], 2, 2) :: [(lfN, 11, 2), (c, 12, ft)]) hk.hrm hk.hrm2 hk.hru hk.hrg (by split <;> decide) hit (by decide) (by omega) (by omega) t2 d2 hrl (by omega) (by rw [hcl, gcl_mem]; omega)
  have I11 := dir_inoC { v with cl := (2 + m) :: v.cl, inos := v.inos ++ [riRoot kc.rm kc.ru kc.rg c one] } (g.mk' rfl rfl rfl rfl) it 11 (3 + m) 16832 0 0 2 lfB _ _ (([46], 11, 2) :: ([46, 46], 2, 2) :: []) (by decide) (by decide) (by decide) (by decide) (by decide) hit (by decide) (by show 11 ≤ v.pi; omega) (by show _ ≤ v.img.length; omega) t11 d11 lfB_len (by show 3 + m < v.nb; omega) (by show 3 + m ∉ (2 + m) :: v.cl; rw [List.mem_cons, hcl, gcl_mem]; omega)
  obtain ⟨cl', s', r0, r1, r2, r3, r4, r5⟩ := chain_rtr kc.md kc.ui kc.gi kc.fm hk.hfm hk.hfm2 hk.hmd hk.hmd2 hk.hui hk.hgi inl data hdl hi it ((c :: r).length - 1) 0 r c { v with cl := (3 + m) :: (2 + m) :: v.cl, inos := v.inos ++ [riRoot kc.rm kc.ru kc.rg c one] ++ [riLf] } { s1 with q := [12] } 12 (4 + m) 2 _ _ (g.mk' rfl rfl rfl rfl) hit (fun z hz => hgood z (by simp [hz])) t12 d12 (by decide)
    (by show 12 + r.length ≤ v.pi; omega) hfit (by show 4 + m + r.length ≤ v.nb; omega) (by omega) (fun h => ⟨dat h, by show 2 + blkD inl data ≤ v.nb; omega, fun i hi1 hi2 => by show i ∉ (3 + m) :: (2 + m) :: v.cl; rw [List.mem_cons, List.mem_cons, hcl, gcl_mem]; omega⟩) (fun k h1 h2 => by show k ∉ (3 + m) :: (2 + m) :: v.cl; rw [List.mem_cons, List.mem_cons, hcl, gcl_mem]; omega) rfl ⟨q2.1, q2.2, q2.3, q2.4⟩ q3 q5 (by decide) (by decide) q6 q7 (fun k hk => q8 k (by omega))
  have hftE : (if one = true then 1 else 2) = ft := hft.symm
  have hxr : riRoot kc.rm kc.ru kc.rg c one = ⟨2, kc.rm, kc.ru, kc.rg, 4096, if one then 3 else 4, 1, 786432, false, 1, rootB c one, ([46], 2, 2) :: ([46, 46], 2, 2) :: [(lfN, 11, 2), (c, 12, ft)]⟩ := by unfold riRoot; rw [hftE]
  have hm2 : ftN (leAt v.img (it * 4096 + (11 - 1) * 256) 2) = 2 := by
    rw [mode_dir t11 (by decide) (by decide) (by decide) (by decide) (by decide)]
    decide
  have hm12 : ftN (leAt v.img (it * 4096 + (12 - 1) * 256) 2) = ft := by
    cases r with
    | nil =>
      rw [mode_at (x := fileF kc.fm ([c].length - 1) 0 inl data) (T := T) (by rw [t12, tbC, List.nil_append]) (fileF_ok kc.fm _ 0 inl data hk.hfm hk.hfm2 hdl hi), hft, if_pos (by rw [hone'])]
      exact ft_reg hk.hfm
    | cons c2 r2 =>
      rw [tbC, List.append_assoc] at t12
      rw [mode_dir t12 hk.hmd hk.hmd2 hk.hui hk.hgi (by split <;> decide), hft, if_neg (by rw [hone']; simp)]
      exact ft_dir hk.hmd
  have hse0 : ∀ k, 2 < k → k ≤ v.pi → ((List.replicate (v.pi + 1) false).set 2 true).getD k true = false := by
    intro k h1 h2
    rw [gd_set, if_neg (by omega), List.getD_eq_getElem?_getD, List.getElem?_replicate, if_pos (by omega)]; rfl
  have hE1 := rsE_new (n := 2) (s := { rs0 v.pi with q := [] }) (e := (lfN, 11, 2)) (by exact hse0 11 (by decide) (by omega))
  refine ⟨cl', s', by rw [r0, hm], RTR.dir (x := riRoot kc.rm kc.ru kc.rg c one) (q := []) (par := 2) (es := [(lfN, 11, 2), (c, 12, ft)]) rfl (by rw [hxr]; exact I2) hk.hrm2 (ft_dir hk.hrm) rfl (by show 2 ≤ v.pi; omega) (by show ((List.replicate (v.pi + 1) 0).set 2 2)[2]? = some 2; rw [List.getElem?_set_self (by simp; omega)]) (by decide) (by rw [hxr])
    (by rw [hxr, hft]; exact root_DBs c one gd5 gd1) (by show 0 < (rootB c one).length; omega) (by show (rootB c one).length ≤ _; omega) (by show 2 ≤ 100000; decide) (by rw [hxr]; show [[46], [46, 46], lfN, c].Nodup; simp [Ne.symm gd3, Ne.symm gd4, Ne.symm hlf]) (by
      intro e he
      simp only [List.mem_cons, List.not_mem_nil, or_false] at he
      rcases he with rfl | rfl
      · exact ⟨by show 47 ∉ lfN; decide, by show 10 ≤ 255; decide⟩
      · exact ⟨gd2, gd5⟩) ⟨⟨by show lfN ≠ [46]; decide, by show lfN ≠ [46, 46]; decide, by show 11 ≤ 11; decide, by show 11 ≤ v.pi; omega, by show it * 4096 + 11 * 256 ≤ _; omega, hm2, fun _ => hse0 11 (by decide) (by omega)⟩, ⟨gd3, gd4, by show 11 ≤ 12; decide, by show 12 ≤ v.pi; omega, by show it * 4096 + 12 * 256 ≤ _; omega, hm12, fun _ => by
        show (rsE 2 { rs0 v.pi with q := [] } (lfN, 11, 2)).seen.getD 12 true = false
        rw [hE1]
        show (((List.replicate (v.pi + 1) false).set 2 true).set 11 true).getD 12 true = false
        rw [gd_set, if_neg (by omega)]
        exact hse0 12 (by decide) (by omega)⟩, trivial⟩ (by
      show RTR it (r.length + 2) _ ([(lfN, 11, 2), (c, 12, ft)].foldl (rsE 2) { rs0 v.pi with q := [] }) _ _
      rw [← hs1]
      refine RTR.dir (x := riLf) (q := [12]) (par := 2) (es := []) (by rw [q1]; rfl) I11 (by decide) (by decide) rfl (by show 11 ≤ v.pi; omega) q4 (by decide) rfl lf_DBs (by show 0 < lfB.length; rw [lfB_len]; decide) (by show lfB.length ≤ _; rw [lfB_len]; decide) (by decide) (by decide) (by simp) trivial ?_
      have e : deepRI kc (c :: r) inl data = v.inos ++ [riRoot kc.rm kc.ru kc.rg c one] ++ [riLf] ++ chR kc.md kc.ui kc.gi kc.fm inl data 2 12 (c :: r) := by rw [hin, hone]; rfl
      rw [e]
      exact r1), ?_, ?_⟩
  · intro k hk
    rw [r2 k]
    show k ∈ (3 + m) :: (2 + m) :: v.cl ∨ _
    rw [List.mem_cons, List.mem_cons, hcl, gcl_mem, hm]
    omega
  · intro x hx
    unfold deepRI at hx
    rw [List.mem_append] at hx
    rcases hx with hx | hx
    · simp only [List.mem_cons, List.not_mem_nil, or_false] at hx
      rcases hx with rfl | rfl
      · rw [← hone, hhd]
        show (if one then 3 else 4) = if ftN kc.rm = 2 then s'.sub.getD 2 0 + 2 else _
        rw [if_pos (ft_dir hk.hrm), r3 2 (by decide)]
        show _ = s1.sub.getD 2 0 + 2
        rw [q9, hft]
        cases one <;> rfl
      · show 2 = if ftN 16832 = 2 then s'.sub.getD 11 0 + 2 else _
        rw [if_pos (by decide), r3 11 (by decide)]
        show 2 = s1.sub.getD 11 0 + 2
        rw [q8 11 (by decide)]
    · exact r4 x hx
end Go.Proofs.YtppkiiomedembaaGreatDoor
namespace Go.Proofs.YtppkiiomedembaaGreatDoor
open Go
set_option maxRecDepth 100000
set_option maxHeartbeats 400000
attribute [local irreducible] E EO
theorem chR_dir (md ui gi fm : Nat) (hmd : md &&& 61440 = 16384) (hfm : fm &&& 61440 = 32768) (inl : Bool) (data : List UInt8) : ∀ (names : List (List UInt8)) (par num : Nat), (chR md ui gi fm inl data par num names).countP (fun x => decide (ftN x.mode = 2)) = names.length - 1
  | [], _, _ => rfl
  | [_], _, num => by
    have h := (riF_num fm inl data num).2.1
    rw [chR, List.countP_cons_of_neg (by rw [h, ft_reg hfm]; decide)]; rfl
  | _ :: c :: r, par, num => by
    rw [chR, List.countP_cons_of_pos (by show decide (ftN md = 2) = true; rw [ft_dir hmd]; rfl), chR_dir md ui gi fm hmd hfm inl data (c :: r) num (num + 1)]
    simp only [List.length_cons]; omega
theorem chR_mode (md ui gi fm : Nat) (hmd2 : md < 65536) (hfm2 : fm < 65536) (inl : Bool) (data : List UInt8) : ∀ (names : List (List UInt8)) (par num : Nat), ∀ x ∈ chR md ui gi fm inl data par num names, x.mode < 65536
  | [], _, _ => by simp [chR]
  | [_], _, num => by
    intro x hx
    have hx' : x = riF fm inl data num := by simpa [chR] using hx
    rw [hx', (riF_num fm inl data num).2.1]; exact hfm2
  | _ :: c :: r, par, num => by
    intro x hx
    rw [chR] at hx
    rcases List.mem_cons.1 hx with rfl | hx
    · exact hmd2
    · exact chR_mode md ui gi fm hmd2 hfm2 inl data (c :: r) num (num + 1) x hx
theorem deep_nums (k : Cm) (names : List (List UInt8)) (inl : Bool) (data : List UInt8) : (deepRI k names inl data).map (·.num) = 2 :: 11 :: List.range' 12 names.length := by
  unfold deepRI
  rw [List.map_append, chR_num]
  rfl
theorem deep_used (k : Cm) (names : List (List UInt8)) (inl : Bool) (data : List UInt8) (n : Nat) (hn : 1 ≤ n) : usedN (deepRI k names inl data) n = decide (n < 12 + names.length) := by
  unfold usedN
  rw [deep_nums]
  by_cases h1 : n < 11
  · rw [decide_eq_true (p := 1 ≤ n ∧ n < 11) ⟨hn, h1⟩, decide_eq_true (p := n < 12 + names.length) (by omega)]; rfl
  · rw [decide_eq_false (by omega), Bool.false_or]
    apply decide_eq_decide.2
    simp only [List.mem_cons, List.mem_range'_1]
    omega
theorem deep_dirN (k : Cm) (hk : CmOk k) (names : List (List UInt8)) (h0 : names ≠ []) (inl : Bool) (data : List UInt8) : dirN (deepRI k names inl data) = names.length + 1 := by
  have h1 : 1 ≤ names.length := by cases names with | nil => exact absurd rfl h0 | cons a r => simp
  unfold dirN deepRI
  rw [List.countP_append, chR_dir k.md k.ui k.gi k.fm hk.hmd hk.hfm, List.countP_cons_of_pos (by show decide (ftN k.rm = 2) = true; rw [ft_dir hk.hrm]; rfl), List.countP_cons_of_pos (by decide), List.countP_nil]
  omega
theorem deep_len (k : Cm) (names : List (List UInt8)) (inl : Bool) (data : List UInt8) : (deepRI k names inl data).length = names.length + 2 := by
  have h := congrArg List.length (deep_nums k names inl data)
  simpa [Nat.add_assoc] using h
theorem cntN_false : ∀ n, cntN (fun _ => false) n = 0
  | 0 => rfl
  | n + 1 => by rw [cntN, cntN_false n]; rfl
theorem cntN_nlt (k : Nat) : ∀ n, cntN (fun i => !decide (i < k)) n = n - k
  | 0 => by simp [cntN]
  | n + 1 => by
    rw [cntN, cntN_nlt k n]
    by_cases h : n < k
    · rw [decide_eq_true h]; simp [b2n]; omega
    · rw [decide_eq_false h]; simp [b2n]; omega
def deepV (ig ic : Nat) (img : List UInt8) (n m : Nat) : Vs := ⟨0, ig, ic, img, nbD n m, up16 (11 + n), [], []⟩
theorem deepRead (il : Bool) (kc : Cm) (hk : CmOk kc) (c : List UInt8) (r : List (List UInt8)) (hgood : ∀ z ∈ c :: r, good z ∧ z.length ≤ 255) (hlf : c ≠ lfN) (hlen : r.length ≤ 99) (inl : Bool) (data : List UInt8) (hdl : data.length ≤ 100000) (hi : inl = true → data.length ≤ 136)
    (ig ic : Nat) (img : List UInt8) (himg : img = imgD il kc (c :: r) inl data) (hic : img.length ≤ ic) :
    ∃ cl', Fe Tryz.prog 12 #[.slice (some ⟨ig, 0, none⟩) img.length ic] [ImgQ ig ic img] (fun _ : Nat => True) (fun vg => ptrV vg) (fun vg => [VP { deepV ig ic img (r.length + 1) (blkD inl data) with vg := vg, cl := cl', inos := deepRI kc (c :: r) inl data }, ImgQ ig ic img]) := by
  have h0 : c :: r ≠ [] := by simp
  have hnl : ∀ z ∈ c :: r, z.length ≤ 255 := fun z hz => (hgood z hz).2
  obtain ⟨m, hm⟩ : ∃ m, m = blkD inl data := ⟨_, rfl⟩
  have hm1 : m ≤ 25 := by rw [hm]; unfold blkD; split <;> omega
  obtain ⟨u1, u2, u3⟩ := up16_ok (11 + (r.length + 1))
  obtain ⟨pi, hpi⟩ : ∃ pi, pi = up16 (11 + (r.length + 1)) := ⟨_, rfl⟩
  obtain ⟨it, hit0⟩ : ∃ it, it = 3 + m + (r.length + 1) := ⟨_, rfl⟩
  have hil : img.length = (it + pi / 16 + 2) * 4096 := by
    rw [himg, imgD_len il kc (c :: r) inl data hk h0 hnl hdl hi]
    show (itD (r.length + 1) (blkD inl data) + up16 (11 + (r.length + 1)) / 16 + 2) * 4096 = _
    unfold itD
    rw [← hm, ← hpi, hit0]
  have hV : deepV ig ic img (r.length + 1) (blkD inl data) = ⟨0, ig, ic, img, it + pi / 16 + 2, pi, [], []⟩ := by
    unfold deepV nbD itD
    rw [← hm, ← hpi, hit0]
  rw [hV]
  rw [← hpi] at u1 u2 u3
  have g0 : ∀ (vg : Nat) (cl : List Nat) (inos : List RI), Geo ⟨vg, ig, ic, img, it + pi / 16 + 2, pi, cl, inos⟩ := fun vg cl inos => ⟨hil, hic, by show 2 ≤ it + pi / 16 + 2; omega, by show it + pi / 16 + 2 ≤ 30000; omega, by show 16 ≤ pi; omega, by show pi ≤ 30000; omega⟩
  have hrt : ∀ vg, ∃ (cl' : List Nat) (s' : RS), cl' = clC m r.length (4 + m) ((3 + m) :: (2 + m) :: gcl it ((pi * 256 + 4095) / 4096) (it + pi / 16)) ∧ RTR it (r.length + 3) ⟨vg, ig, ic, img, it + pi / 16 + 2, pi, gcl it ((pi * 256 + 4095) / 4096) (it + pi / 16), []⟩ (rs0 pi) ⟨vg, ig, ic, img, it + pi / 16 + 2, pi, cl', deepRI kc (c :: r) inl data⟩ s' ∧ (∀ k, k < it + pi / 16 + 2 → k ∈ cl') ∧ (∀ x ∈ deepRI kc (c :: r) inl data, x.links = if ftN x.mode = 2 then s'.sub.getD x.num 0 + 2 else s'.nms.getD x.num 0) := fun vg =>
    deep_rtr il kc hk c r hgood hlf hlen inl data hdl hi ⟨vg, ig, ic, img, it + pi / 16 + 2, pi, gcl it ((pi * 256 + 4095) / 4096) (it + pi / 16), []⟩ (g0 _ _ _) it m (it + pi / 16) hm.symm hit0 himg rfl hpi rfl rfl rfl
  have hseg := imgD_seg il kc (c :: r) inl data
  have hfree := imgD_free il kc (c :: r) inl data hk h0 hnl hdl hi
  have hbb := imgD_bb il kc (c :: r) inl data hk h0 hnl hdl hi
  have hib := imgD_ib il kc (c :: r) inl data hk h0 hnl hdl hi
  rw [← himg] at hseg hfree hbb hib
  have eN : (c :: r).length = r.length + 1 := rfl
  have eI : itD (c :: r).length (blkD inl data) = it := by unfold itD; rw [← hm, hit0]; rfl
  have eB : bbD (c :: r).length (blkD inl data) = it + pi / 16 := by unfold bbD; rw [eI, eN, ← hpi]
  have eNb : nbD (c :: r).length (blkD inl data) = it + pi / 16 + 2 := by unfold nbD; rw [eI, eN, ← hpi]
  rw [eB, eI, eNb, eN, ← hpi] at hseg
  rw [eI, eN, ← hpi] at hfree
  rw [eB, eN] at hbb hib
  generalize (bodyD inl data ++ (dsD (c :: r) ++ (tbD kc (c :: r) inl data ++ (List.replicate (pi * 256 - (11 + (r.length + 1)) * 256) 0 ++ (bm (fun _ => true) 4096 ++ bm (fun j => decide (j < 11 + (r.length + 1))) 4096))))) = X at hseg
  have gd : ∀ {o k x : Nat}, FAt [(4, it + pi / 16), (4, it + pi / 16 + 1), (4, it), (2, 0), (2, pi - (11 + (r.length + 1))), (2, r.length + 1 + 1)] o k x → x < 256 ^ k → leAt img (4096 + o) k = x := fun h hx => by
    rw [hseg]
    exact gd_at (sblkB_len _ _ _ _ _ _) X _ _ _ _ _ _ h hx
  have hinc : incD il = 578 ∨ incD il = 33346 := by cases il <;> simp [incD]
  have hSb : SbR img (it + pi / 16 + 2) pi (incD il) := by
    rw [hseg]
    exact sb_R _ _ _ _ _ _ (by omega) (by omega) hinc
  have s12 : leAt img 1036 4 = 0 := by rw [hseg]; exact sb_s12 _ _ _ _ _ _ _ (by decide)
  have s16 : leAt img 1040 4 = pi - (11 + (r.length + 1)) := by rw [hseg]; exact sb_s16 _ _ _ _ _ _ _ (by omega)
  have s84 : leAt img 1108 4 = 11 := by rw [hseg]; exact sb_s84 _ _ _ _ _ _ _
  have s344 : leAt img 1368 4 = 0 := by rw [hseg]; exact sb_344 _
  have m1 : leAt img 4096 4 = it + pi / 16 := gd .here (by omega)
  have m2 : leAt img 4100 4 = it + pi / 16 + 1 := gd (.there .here) (by omega)
  have m3 : leAt img 4104 4 = it := gd (.there (.there .here)) (by omega)
  have m4 : leAt img 4108 2 = 0 := gd (.there (.there (.there .here))) (by decide)
  have m5 : leAt img 4110 2 = pi - (11 + (r.length + 1)) := gd (.there (.there (.there (.there .here)))) (by omega)
  have m6 : leAt img 4112 2 = r.length + 1 + 1 := gd (.there (.there (.there (.there (.there .here))))) (by omega)
  have hzero : ∀ k o, 11 + (r.length + 1) ≤ k → k < pi → o + 2 ≤ 256 → leAt img (it * 4096 + k * 256 + o) 2 = 0 := by
    intro k o h1 h2 h3
    have h := leAt_drop img (it * 4096 + (11 + (r.length + 1)) * 256) ((k - (11 + (r.length + 1))) * 256 + o) 2
    rw [hfree, leAt_left _ (by rw [List.length_replicate]; omega), leAt_zeros] at h
    rw [h]; congr 1; omega
  obtain ⟨cl', hcl'⟩ : ∃ cl', cl' = clC m r.length (4 + m) ((3 + m) :: (2 + m) :: gcl it ((pi * 256 + 4095) / 4096) (it + pi / 16)) := ⟨_, rfl⟩
  have hr2 : ∀ k, k < it + pi / 16 + 2 → k ∈ cl' := by
    obtain ⟨_, _, e, _, h, _⟩ := hrt 0
    rw [hcl', ← e]; exact h
  refine ⟨cl', Read_fn ⟨0, ig, ic, img, it + pi / 16 + 2, pi, [], []⟩ (g0 _ _ _) (incD il) hSb it (it + pi / 16) m1 m2 m3 (by omega) (by show it + (pi * 256 + 4095) / 4096 ≤ it + pi / 16; omega) (by show it + pi / 16 + 1 < it + pi / 16 + 2; omega) cl' (deepRI kc (c :: r) inl data) (fun vg => ?_) (fun _ => true) (fun j => decide (j < 11 + (r.length + 1))) ?_⟩
  · obtain ⟨cl2, s', e, hr1, _, hr3⟩ := hrt vg
    rw [← hcl'] at e
    subst e
    exact readTree_fn ⟨vg, ig, ic, img, it + pi / 16 + 2, pi, gcl it ((pi * 256 + 4095) / 4096) (it + pi / 16), []⟩ ⟨vg, ig, ic, img, it + pi / 16 + 2, pi, cl2, deepRI kc (c :: r) inl data⟩ s' it (r.length + 3) (g0 _ _ _) m3 (by show 2 ≤ pi; omega) (by show pi ≤ 100000; omega) (by omega) rfl hr1 ⟨riRoot kc.rm kc.ru kc.rg c (decide ((c :: r).length ≤ 1)), rfl, ft_dir hk.hrm⟩ hr3
  · exact {
      hbb := m1, hib := m2, hit := m3, hb := by show it + pi / 16 + 1 < it + pi / 16 + 2; omega
      hfit := by show it * 4096 + pi * 256 ≤ img.length; omega
      bbm := by show (img.drop ((it + pi / 16) * 4096)).take 4096 = _; rw [hbb, List.take_left' (bm_len _ _)]
      ibm := by show (img.drop ((it + pi / 16 + 1) * 4096)).take 4096 = _; rw [hib, List.take_of_length_le (by rw [bm_len]; decide)]
      fbk := fun i _ => by
        show true = (decide (it + pi / 16 + 2 ≤ i) || decide (i ∈ cl'))
        by_cases h : it + pi / 16 + 2 ≤ i
        · rw [decide_eq_true h]; rfl
        · rw [decide_eq_true (hr2 i (by omega)), Bool.or_true]
      fik := fun i _ => by
        show decide (i < 11 + (r.length + 1)) = usedN (deepRI kc (c :: r) inl data) (i + 1)
        rw [deep_used _ _ _ _ _ (by omega), eN]
        exact decide_eq_decide.2 (by omega)
      free := fun k h1 h2 h3 => by
        have h3' : usedN (deepRI kc (c :: r) inl data) k = false := h3
        have h2' : k ≤ pi := h2
        rw [deep_used _ _ _ _ _ h1, eN] at h3'
        have h4 := of_decide_eq_false h3'
        exact ⟨hzero (k - 1) 0 (by omega) (by omega) (by decide), hzero (k - 1) 26 (by omega) (by omega) (by decide)⟩
      c12 := by rw [show (fun i : Nat => !(fun _ : Nat => true) i) = fun _ => false from rfl, cntN_false]; exact m4
      c14 := by show leAt img 4110 2 = cntN (fun i => !decide (i < 11 + (r.length + 1))) pi; rw [cntN_nlt]; exact m5
      c16 := by show leAt img 4112 2 = dirN (deepRI kc (c :: r) inl data); rw [deep_dirN kc hk _ h0, eN]; exact m6
      s84 := s84
      s12 := by rw [show (fun i : Nat => !(fun _ : Nat => true) i) = fun _ => false from rfl, cntN_false]; exact s12
      s344 := s344
      s16 := by show leAt img 1040 4 = cntN (fun i => !decide (i < 11 + (r.length + 1))) pi; rw [cntN_nlt]; exact s16
      inos := fun x hx => by
        have hx' : x ∈ deepRI kc (c :: r) inl data := hx
        have hn : x.num ∈ (deepRI kc (c :: r) inl data).map (·.num) := List.mem_map.2 ⟨x, hx', rfl⟩
        rw [deep_nums, eN] at hn
        simp only [List.mem_cons, List.mem_range'_1] at hn
        refine ⟨by omega, by show x.num ≤ pi; omega, ?_⟩
        unfold deepRI at hx'
        rw [List.mem_append] at hx'
        rcases hx' with hx' | hx'
        · simp only [List.mem_cons, List.not_mem_nil, or_false] at hx'
          rcases hx' with rfl | rfl
          · exact hk.hrm2
          · show 16832 < 65536; decide
        · exact chR_mode kc.md kc.ui kc.gi kc.fm hk.hmd2 hk.hfm2 inl data _ _ _ x hx'
      ilen := by show (deepRI kc (c :: r) inl data).length ≤ 100000; rw [deep_len, eN]; omega }
end Go.Proofs.YtppkiiomedembaaGreatDoor
namespace Go.Proofs.YtppkiiomedembaaGreatDoor
open Go
set_option maxRecDepth 100000
set_option maxHeartbeats 400000
attribute [local irreducible] E EO
theorem plA_ne : ∀ (l : List RI) (p : List Nat) (i n : Nat), n ∉ l.map (·.num) → (plA p i l)[n]? = p[n]?
  | [], p, i, n, _ => rfl
  | x :: l, p, i, n, h => by
    rw [List.map_cons, List.mem_cons] at h
    rw [plA, plA_ne l _ _ n (fun hm => h (.inr hm)), List.getElem?_set_ne (fun e => h (.inl e.symm))]
theorem plA_get : ∀ (l : List RI) (p : List Nat) (i k n : Nat), (l.map (·.num))[k]? = some n → (l.map (·.num)).Nodup → n < p.length → (plA p i l)[n]? = some (i + k)
  | [], p, i, k, n, h, _, _ => by simp at h
  | x :: l, p, i, 0, n, h, hd, hn => by
    rw [List.map_cons, List.nodup_cons] at hd
    have hx : x.num = n := by simpa using h
    subst hx
    rw [plA, plA_ne l _ _ _ hd.1, List.getElem?_set_self hn]; rfl
  | x :: l, p, i, k + 1, n, h, hd, hn => by
    rw [List.map_cons, List.nodup_cons] at hd
    rw [plA, plA_get l _ _ k n (by simpa using h) hd.2 (by simpa using hn)]
    congr 1; omega
theorem deep_nd (k : Cm) (names : List (List UInt8)) (inl : Bool) (data : List UInt8) : ((deepRI k names inl data).map (·.num)).Nodup := by
  rw [deep_nums, List.nodup_cons, List.nodup_cons]
  refine ⟨?_, ?_, List.nodup_range'⟩
  · simp only [List.mem_cons, List.mem_range'_1]; omega
  · simp only [List.mem_range'_1]; omega
theorem deep_pl (pi : Nat) (k : Cm) (names : List (List UInt8)) (inl : Bool) (data : List UInt8) (hp : 11 + names.length ≤ pi) (pl : List Nat) (hpl : pl = plA (List.replicate (pi + 1) 0) 0 (deepRI k names inl data)) :
    pl[11]? = some 1 ∧ (∀ j, j < names.length → pl[12 + j]? = some (2 + j)) ∧ pl.length = pi + 1 := by
  have hd := deep_nd k names inl data
  refine ⟨?_, fun j hj => ?_, by rw [hpl, plA_len]; simp⟩
  · have := plA_get _ (List.replicate (pi + 1) 0) 0 1 11 (by rw [deep_nums]; rfl) hd (by simp; omega)
    rw [hpl, this]
  · have := plA_get _ (List.replicate (pi + 1) 0) 0 (2 + j) (12 + j) (by rw [deep_nums, show 2 + j = j + 1 + 1 by omega, List.getElem?_cons_succ, List.getElem?_cons_succ, List.getElem?_range' hj, Nat.one_mul]) hd (by simp; omega)
    rw [hpl, this]; congr 1; omega
theorem bl_irr : ∀ l : List UInt8, Op.bytesLess l l = false
  | [] => rfl
  | a :: l => by
    rw [Op.bytesLess, bl_irr l]
    simp [UInt8.lt_irrefl]
def chK : Nat → List (List UInt8) → List (List (List UInt8 × Nat))
  | _, [] => []
  | _, [_] => [[]]
  | i, _ :: c :: r => [(c, i + 1)] :: chK (i + 1) (c :: r)
def deepK (names : List (List UInt8)) : List (List (List UInt8 × Nat)) := [insN [(lfN, 1)] (names.headD []) 2, []] ++ chK 2 names
theorem chK_len : ∀ (i : Nat) (names : List (List UInt8)), (chK i names).length = names.length
  | _, [] => rfl
  | _, [_] => rfl
  | i, _ :: c :: r => by rw [chK, List.length_cons, chK_len (i + 1) (c :: r)]; rfl
theorem chK_ok (md ui gi fm : Nat) (hfm : fm &&& 61440 = 32768) (hfm2 : fm < 65536) (hmd : md &&& 61440 = 16384) (hmd2 : md < 65536) (hui : ui < 4294967296) (hgi : gi < 4294967296) (inl : Bool) (data : List UInt8) (pl : List Nat) : ∀ (names : List (List UInt8)) (par num idx : Nat), (∀ c ∈ names, good c) → (∀ j, j < names.length → pl[num + j]? = some (idx + j)) → idx + names.length ≤ 1000000 →
    ∀ (i : Nat) (x : RI) (ks : List (List UInt8 × Nat)), (chR md ui gi fm inl data par num names)[i]? = some x → (chK idx names)[i]? = some ks → TrOk pl x ks
  | [], _, _, _, _, _, _, i, x, ks, h, _ => by simp [chR] at h
  | [c], par, num, idx, hg, hp, hl, i, x, ks, h1, h2 => by
    cases i with
    | succ i => simp [chR] at h1
    | zero =>
      have hx : riF fm inl data num = x := by simpa [chR] using h1
      have hk : [] = ks := by simpa [chK] using h2
      subst hx hk
      obtain ⟨f1, f2, f3, f4, f5⟩ := riF_num fm inl data num
      have hnum := (List.getElem?_eq_some_iff.1 (hp 0 (by simp))).1
      refine ⟨by rw [f1]; exact hnum, by rw [f2]; exact hfm2, ?_, ?_, by rw [f2]; exact .inl (ft_reg hfm), by rw [f4]; exact .nil, by rw [f4]; exact Nat.zero_le _⟩
      · unfold riF; split
        · exact Nat.lt_of_lt_of_le Nat.zero_lt_one (by decide)
        · split <;> exact Nat.lt_of_lt_of_le Nat.zero_lt_one (by decide)
      · unfold riF; split
        · exact Nat.lt_of_lt_of_le Nat.zero_lt_one (by decide)
        · split <;> exact Nat.lt_of_lt_of_le Nat.zero_lt_one (by decide)
  | c0 :: c :: r, par, num, idx, hg, hp, hl, i, x, ks, h1, h2 => by
    rw [chR] at h1
    rw [chK] at h2
    simp only [List.length_cons] at hl
    cases i with
    | succ i =>
      exact chK_ok md ui gi fm hfm hfm2 hmd hmd2 hui hgi inl data pl (c :: r) num (num + 1) (idx + 1) (fun z hz => hg z (by simp [hz])) (fun j hj => by
        have := hp (j + 1) (by simp at hj ⊢; omega)
        rw [show num + 1 + j = num + (j + 1) by omega, this]; congr 1; omega) (by simp only [List.length_cons]; omega) i x ks (by simpa using h1) (by simpa using h2)
    | zero =>
      have hx : riD md ui gi par num (if r = [] then 2 else 3) c (decide (r = [])) = x := by simpa using h1
      have hk : [(c, idx + 1)] = ks := by simpa using h2
      subst hx hk
      obtain ⟨gd1, gd2, gd3, gd4⟩ := hg c (by simp)
      have hnum := (List.getElem?_eq_some_iff.1 (hp 0 (by simp))).1
      refine ⟨hnum, hmd2, hui, hgi, .inr (ft_dir hmd), ?_, by show 3 ≤ 1000000; decide⟩
      exact .dot (.inl rfl) (.dot (.inr rfl) (.ent gd3 gd4 (by have := hp 1 (by simp); exact this) (by omega) (by show 0 ≤ 100000; decide) rfl .nil))
theorem root_ins (c : List UInt8) (h : c ≠ lfN) : hasN [(lfN, 1)] c = false ∧ (insN [(lfN, 1)] c 2)[placeN (insN [(lfN, 1)] c 2) c]? = some (c, 2) ∧ (insN [(lfN, 1)] c 2).length = 2 := by
  cases hb : Op.bytesLess lfN c with
  | true =>
    have hp : placeN [(lfN, 1)] c = 1 := by simp only [placeN]; rw [if_pos hb]
    have hi : insN [(lfN, 1)] c 2 = [(lfN, 1), (c, 2)] := by unfold insN; rw [hp]; rfl
    have hp2 : placeN [(lfN, 1), (c, 2)] c = 1 := by
      simp only [placeN]; rw [if_pos hb, if_neg (by rw [bl_irr]; simp)]
    refine ⟨by unfold hasN; rw [hp]; rfl, ?_, by rw [hi]; rfl⟩
    rw [hi, hp2]; rfl
  | false =>
    have hp : placeN [(lfN, 1)] c = 0 := by simp only [placeN]; rw [if_neg (by rw [hb]; simp)]
    have hi : insN [(lfN, 1)] c 2 = [(c, 2), (lfN, 1)] := by unfold insN; rw [hp]; rfl
    have hp2 : placeN [(c, 2), (lfN, 1)] c = 0 := by
      simp only [placeN]; rw [if_neg (by rw [bl_irr]; simp)]
    refine ⟨?_, ?_, by rw [hi]; rfl⟩
    · unfold hasN; rw [hp]
      show (lfN == c) = false
      simpa using Ne.symm h
    · rw [hi, hp2]; rfl
theorem deep_tr (pi : Nat) (k : Cm) (hk : CmOk k) (c : List UInt8) (r : List (List UInt8)) (hgood : ∀ z ∈ c :: r, good z) (hlf : c ≠ lfN) (hlen : r.length ≤ 99) (inl : Bool) (data : List UInt8) (hp : 12 + r.length ≤ pi) (pl : List Nat) (hpl : pl = plA (List.replicate (pi + 1) 0) 0 (deepRI k (c :: r) inl data)) :
    ∀ (i : Nat) (x : RI) (ks : List (List UInt8 × Nat)), (deepRI k (c :: r) inl data)[i]? = some x → (deepK (c :: r))[i]? = some ks → TrOk pl x ks := by
  obtain ⟨p1, p2, p3⟩ := deep_pl pi k (c :: r) inl data (by simp only [List.length_cons]; omega) pl hpl
  obtain ⟨gd1, gd2, gd3, gd4⟩ := hgood c (by simp)
  obtain ⟨i1, i2, i3⟩ := root_ins c hlf
  intro i x ks h1 h2
  unfold deepRI at h1
  unfold deepK at h2
  match i, h1, h2 with
  | 0, h1, h2 =>
    have hx : riRoot k.rm k.ru k.rg c (decide ((c :: r).length ≤ 1)) = x := by simpa using h1
    have hks : insN [(lfN, 1)] c 2 = ks := by simpa using h2
    subst hx hks
    refine ⟨by show 2 < pl.length; omega, hk.hrm2, hk.hru, hk.hrg, .inr (ft_dir hk.hrm), ?_, by show 4 ≤ 1000000; decide⟩
    exact .dot (.inl rfl) (.dot (.inr rfl) (.ent (by show lfN ≠ [46]; decide) (by show lfN ≠ [46, 46]; decide) p1 (by decide) (by show 0 ≤ 100000; decide) rfl (.ent gd3 gd4 (p2 0 (by simp)) (by decide) (by show 1 ≤ 100000; decide) i1 .nil)))
  | 1, h1, h2 =>
    have hx : riLf = x := by simpa using h1
    have hks : [] = ks := by simpa using h2
    subst hx hks
    exact ⟨by show 11 < pl.length; omega, by show 16832 < 65536; decide, by show 0 < 4294967296; decide, by show 0 < 4294967296; decide, .inr (by show ftN 16832 = 2; decide), .dot (.inl rfl) (.dot (.inr rfl) .nil), by show 2 ≤ 1000000; decide⟩
  | i + 2, h1, h2 =>
    exact chK_ok k.md k.ui k.gi k.fm hk.hfm hk.hfm2 hk.hmd hk.hmd2 hk.hui hk.hgi inl data pl (c :: r) 2 12 2 hgood p2 (by simp only [List.length_cons]; omega) i x ks (by simpa using h1) (by simpa using h2)
theorem chR_at (md ui gi fm : Nat) (inl : Bool) (data : List UInt8) : ∀ (names : List (List UInt8)) (par num idx i : Nat) (nm : List UInt8), names[i + 1]? = some nm → ∃ x, (chR md ui gi fm inl data par num names)[i]? = some x ∧ (chK idx names)[i]? = some [(nm, idx + 1 + i)] ∧ x.mode = md ∧ x.uid = ui ∧ x.gid = gi
  | [], _, _, _, _, _, h => by simp at h
  | [_], _, _, _, _, _, h => by simp at h
  | c0 :: c :: r, par, num, idx, 0, nm, h => by
    have hc : c = nm := by simpa using h
    subst hc
    exact ⟨_, by rw [chR]; rfl, by rw [chK]; rfl, rfl, rfl, rfl⟩
  | c0 :: c :: r, par, num, idx, i + 1, nm, h => by
    obtain ⟨x, h1, h2, h3⟩ := chR_at md ui gi fm inl data (c :: r) num (num + 1) (idx + 1) i nm (by simpa using h)
    exact ⟨x, by rw [chR]; simpa using h1, by rw [chK, List.getElem?_cons_succ, h2, show idx + 1 + 1 + i = idx + 1 + (i + 1) by omega], h3⟩
theorem chR_last (md ui gi fm : Nat) (inl : Bool) (data : List UInt8) : ∀ (r : List (List UInt8)) (c : List UInt8) (par num idx : Nat), ∃ k, (chR md ui gi fm inl data par num (c :: r))[r.length]? = some (riF fm inl data k) ∧ (chK idx (c :: r))[r.length]? = some []
  | [], c, par, num, idx => ⟨num, rfl, rfl⟩
  | c' :: r, c, par, num, idx => by
    obtain ⟨k, h1, h2⟩ := chR_last md ui gi fm inl data r c' num (num + 1) (idx + 1)
    exact ⟨k, by rw [chR]; simpa using h1, by rw [chK]; simpa using h2⟩
def atN (i : Nat) : Nat := if i = 0 then 0 else i + 1
theorem deep_node (kc : Cm) (c : List UInt8) (r : List (List UInt8)) (hlf : c ≠ lfN) (inl : Bool) (data : List UInt8) (i : Nat) (nm : List UInt8) (h : (c :: r)[i]? = some nm) :
    ∃ x ks, (deepRI kc (c :: r) inl data)[atN i]? = some x ∧ (deepK (c :: r))[atN i]? = some ks ∧ x.mode = (if i = 0 then kc.rm else kc.md) ∧ x.uid = (if i = 0 then kc.ru else kc.ui) ∧ x.gid = (if i = 0 then kc.rg else kc.gi) ∧ ks[placeN ks nm]? = some (nm, i + 2) ∧ (0 < i → ks.length = 1) ∧ ks.length ≤ 2 := by
  obtain ⟨i1, i2, i3⟩ := root_ins c hlf
  cases i with
  | zero =>
    have hc : c = nm := by simpa using h
    subst hc
    exact ⟨riRoot kc.rm kc.ru kc.rg c (decide ((c :: r).length ≤ 1)), insN [(lfN, 1)] c 2, rfl, rfl, rfl, rfl, rfl, i2, fun h => absurd h (by decide), by rw [i3]; decide⟩
  | succ i =>
    obtain ⟨x, h1, h2, h3, h4, h5⟩ := chR_at kc.md kc.ui kc.gi kc.fm inl data (c :: r) 2 12 2 i nm h
    refine ⟨x, [(nm, 2 + 1 + i)], ?_, ?_, h3, h4, h5, ?_, fun _ => rfl, by show 1 ≤ 2; decide⟩
    · unfold deepRI atN
      rw [if_neg (by omega)]
      simpa using h1
    · unfold deepK atN
      rw [if_neg (by omega)]
      simpa using h2
    · have hp : placeN [(nm, 2 + 1 + i)] nm = 0 := by simp only [placeN]; rw [if_neg (by rw [bl_irr]; simp)]
      rw [hp, show 2 + 1 + i = i + 1 + 2 by omega]; rfl
theorem deep_last (kc : Cm) (c : List UInt8) (r : List (List UInt8)) (inl : Bool) (data : List UInt8) : ∃ k, (deepRI kc (c :: r) inl data)[atN (r.length + 1)]? = some (riF kc.fm inl data k) ∧ (deepK (c :: r))[atN (r.length + 1)]? = some [] := by
  obtain ⟨k, h1, h2⟩ := chR_last kc.md kc.ui kc.gi kc.fm inl data r c 2 12 2
  refine ⟨k, ?_, ?_⟩
  · unfold deepRI atN
    rw [if_neg (by omega)]
    simpa using h1
  · unfold deepK atN
    rw [if_neg (by omega)]
    simpa using h2
end Go.Proofs.YtppkiiomedembaaGreatDoor
namespace Go.Proofs.YtppkiiomedembaaGreatDoor
open Go
set_option maxRecDepth 100000
set_option maxHeartbeats 4000000
attribute [local irreducible] E EO
def deepW (ig ic : Nat) (img : List UInt8) (k : Cm) (names : List (List UInt8)) (inl : Bool) (data : List UInt8) (vg : Nat) (cl : List Nat) : Vs := { deepV ig ic img names.length (blkD inl data) with vg := vg, cl := cl, inos := deepRI k names inl data }
theorem noP_out {qs : List ND} {q : ND} (h : q ∈ qs) : ∃ F, Tn [HP.star (qs.map noP)] (fun _ : Unit => True) (fun _ => [Own q.r.A q.r.c 9 1 q.ks.length (nmV q.ks), Own q.r.A' q.r.c' 3 1 q.ks.length (kdV q.ks), HP.star F]) ∧ Tn [Own q.r.A q.r.c 9 1 q.ks.length (nmV q.ks), Own q.r.A' q.r.c' 3 1 q.ks.length (kdV q.ks), HP.star F] (fun _ : Unit => True) (fun _ => [HP.star (qs.map noP)]) := by
  obtain ⟨A, B, rfl⟩ := List.append_of_mem h
  have hF : ((A ++ q :: B).map noP).Perm (noP q :: (A ++ B).map noP) := by
    rw [List.map_append, List.map_cons, List.map_append]
    exact List.perm_middle
  refine ⟨(A ++ B).map noP, fun m S hS => ?_, fun m S hS => ?_⟩
  · have h0 := sats_one' hS
    obtain ⟨S1, S2, a1, a2, a3, a4⟩ := sats_perm hF h0
    have h1 : sats ([Own q.r.A q.r.c 9 1 q.ks.length (nmV q.ks), Own q.r.A' q.r.c' 3 1 q.ks.length (kdV q.ks)] ++ [HP.star ((A ++ B).map noP)]) m S := sats_append.2 ⟨S1, S2, a1, sats_one a2, a3, a4⟩
    exact ⟨(), S, trivial, h1, fun _ h => h⟩
  · have h1 : sats ([Own q.r.A q.r.c 9 1 q.ks.length (nmV q.ks), Own q.r.A' q.r.c' 3 1 q.ks.length (kdV q.ks)] ++ [HP.star ((A ++ B).map noP)]) m S := hS
    obtain ⟨S1, S2, a1, a2, a3, a4⟩ := sats_append.1 h1
    have h0 : sats (noP q :: (A ++ B).map noP) m S := ⟨S1, S2, a1, sats_one' a2, a3, a4⟩
    exact ⟨(), S, trivial, sats_one (sats_perm hF.symm h0), fun _ h => h⟩
structure NdsR (k : Cm) (names : List (List UInt8)) (inl : Bool) (data : List UInt8) (nds : List ND) : Prop where
  dir : ∀ i nm, names[i]? = some nm → ∃ q, nds[atN i]? = some q ∧ q.x.mode = (if i = 0 then k.rm else k.md) ∧ q.x.uid = (if i = 0 then k.ru else k.ui) ∧ q.x.gid = (if i = 0 then k.rg else k.gi) ∧ q.ks[placeN q.ks nm]? = some (nm, i + 2) ∧ (0 < i → q.ks.length = 1) ∧ q.ks.length ≤ 2
  fil : ∃ q kk, nds[atN names.length]? = some q ∧ q.x = riF k.fm inl data kk ∧ q.ks = []
theorem nds_ok (kc : Cm) (c : List UInt8) (r : List (List UInt8)) (hlf : c ≠ lfN) (inl : Bool) (data : List UInt8) (nds : List ND) (hx : nds.map (·.x) = deepRI kc (c :: r) inl data) (hk : nds.map (·.ks) = deepK (c :: r)) : NdsR kc (c :: r) inl data nds := by
  have get : ∀ (j : Nat) (x : RI) (ks : List (List UInt8 × Nat)), (deepRI kc (c :: r) inl data)[j]? = some x → (deepK (c :: r))[j]? = some ks → ∃ q : ND, nds[j]? = some q ∧ q.x = x ∧ q.ks = ks := by
    intro j x ks h1 h2
    rw [← hx, List.getElem?_map] at h1
    rw [← hk, List.getElem?_map] at h2
    cases hq : nds[j]? with
    | none => rw [hq] at h1; simp at h1
    | some q =>
      rw [hq] at h1 h2
      exact ⟨q, rfl, by simpa using h1, by simpa using h2⟩
  refine ⟨fun i nm h => ?_, ?_⟩
  · obtain ⟨x, ks, h1, h2, h3, h4, h5, h6, h7, h8⟩ := deep_node kc c r hlf inl data i nm h
    obtain ⟨q, q1, q2, q3⟩ := get _ _ _ h1 h2
    subst q2 q3
    exact ⟨q, q1, h3, h4, h5, h6, h7, h8⟩
  · obtain ⟨k, h1, h2⟩ := deep_last kc c r inl data
    obtain ⟨q, q1, q2, q3⟩ := get _ _ _ h1 h2
    exact ⟨q, k, q1, q2, q3⟩
theorem deepW_geo (ig ic : Nat) (img : List UInt8) (k : Cm) (names : List (List UInt8)) (inl : Bool) (data : List UInt8) (vg : Nat) (cl : List Nat) (hn : names.length ≤ 100) (hdl : data.length ≤ 100000) (h1 : img.length = nbD names.length (blkD inl data) * 4096) (h2 : img.length ≤ ic) : Geo (deepW ig ic img k names inl data vg cl) := by
  have hm : blkD inl data ≤ 25 := by unfold blkD; split <;> omega
  obtain ⟨u1, u2, u3⟩ := up16_ok (11 + names.length)
  refine ⟨h1, h2, ?_, ?_, ?_, ?_⟩
  · show 2 ≤ nbD names.length (blkD inl data)
    unfold nbD; omega
  · show nbD names.length (blkD inl data) ≤ 30000
    unfold nbD itD
    generalize up16 (11 + names.length) = u at *
    omega
  · show 16 ≤ up16 (11 + names.length)
    omega
  · show up16 (11 + names.length) ≤ 30000
    omega
theorem deepK_len (c : List UInt8) (r : List (List UInt8)) : (deepK (c :: r)).length = r.length + 3 := by
  unfold deepK
  rw [List.length_append, chK_len]
  simp only [List.length_cons, List.length_nil]; omega
theorem deepTree (ig ic : Nat) (img : List UInt8) (kc : Cm) (hk : CmOk kc) (c : List UInt8) (r : List (List UInt8)) (hgood : ∀ z ∈ c :: r, good z ∧ z.length ≤ 255) (hlf : c ≠ lfN) (hlen : r.length ≤ 99) (inl : Bool) (data : List UInt8) (hdl : data.length ≤ 100000) (vg : Nat) (cl : List Nat) (h1 : img.length = nbD (r.length + 1) (blkD inl data) * 4096) (h2 : img.length ≤ ic) :
    Fe Tryz.prog 7 #[ptrV vg] [VP (deepW ig ic img kc (c :: r) inl data vg cl)] (fun i : (Option Addr × Nat) × List ND × (Option Addr × Nat × Nat × Nat) => i.2.1.map (·.x) = deepRI kc (c :: r) inl data ∧ i.2.1.map (·.ks) = deepK (c :: r)) (fun i => .agg #[.slice i.1.1 (r.length + 3) i.1.2])
      (fun i => [Own i.1.1 i.1.2 58 18 (r.length + 3) (noVs i.2.1), HP.star (i.2.1.map noP), HP.star (vsX (deepW ig ic img kc (c :: r) inl data vg cl) i.2.2.1 i.2.2.2.1 i.2.2.2.2.1 i.2.2.2.2.2 (i.2.1.map (·.a)))]) := by
  have hl : (deepRI kc (c :: r) inl data).length = r.length + 3 := by rw [deep_len]; rfl
  obtain ⟨u1, u2, u3⟩ := up16_ok (11 + (r.length + 1))
  have h := Tree_fn (deepW ig ic img kc (c :: r) inl data vg cl) (deepW_geo ig ic img kc (c :: r) inl data vg cl (by simp only [List.length_cons]; omega) hdl h1 h2) _ (deepK (c :: r)) rfl (by rw [deepK_len]; exact hl.symm)
    (fun i x ks h1 h2 => deep_tr (up16 (11 + (r.length + 1))) kc hk c r (fun z hz => (hgood z hz).1) hlf hlen inl data (by omega) _ rfl i x ks h1 h2) (by show (deepRI kc (c :: r) inl data).length ≤ 100000; omega)
  have e : (deepW ig ic img kc (c :: r) inl data vg cl).inos.length = r.length + 3 := hl
  rw [e] at h
  exact h
section
variable {X : Fx} {ops : Array Oper} {cf : Nat → Cls} {k : List Item} {i : Nat} {is : List Nat} {l : List Oper} {loc loc' : List Value} {tmp tmp' : List (Nat × Value)} {L F : List HP}
  {d : Option Tmp} {ty : TypeId} {pos : String} {aft : Array Edge} {gd : Option (Nat × Bool)}
theorem x_toStrR {S T e n c : Nat} {B : Option Addr} {x : Operand} {bs : List UInt8} [SlTy X.P S e 1] [StrTy X.P T] [hI : IntTy X.P e .u8] (hx : sv loc tmp x = some (.slice B n c)) (hr : Rd L B n 1 (enc bs))
    (hp : Pt loc tmp d (.string (str bs)) loc' tmp') (h : EO X ops cf k is l loc' tmp' L)
    (hg : gdv ops loc tmp gd = some true := by rfl) (hd : dOK X.n d = true := by rfl) (hcl : (cf i).reads = true := by rfl) : EO X ops cf k (i :: is) (⟨d, .convert S T x, ty, pos, aft, gd⟩ :: l) loc tmp L :=
  x_read hg hcl (fun a hrl w0 S0 w hs q => by
    obtain ⟨hu, _⟩ := SlTy.out (P := X.P) (T := S) (e := e) (sz := 1)
    have hu' := (inferInstance : StrTy X.P T).h
    have he := IntTy.out (P := X.P) (T := e) (K := .u8)
    have hn : bs.length = n := by simpa [enc_len] using hr.1
    have hrun : (Conv.bytesToString (.slice B n c)).run X.P (wat w q) = .ok (.string (str bs)) (wat w q) := by
      cases B with
      | none =>
        have h0 : n = 0 := by
          rcases hr.2 with h | ⟨_, _, h, _⟩
          · exact h
          · cases h
        have hb : bs = [] := List.length_eq_zero_iff.1 (by omega)
        subst hb
        rfl
      | some ad =>
        have hld := run_loadCells_list (P := X.P) (wat w q) ad (enc bs) (fun j v hv => by
          rcases hr.2 with h | ⟨g, o, h, hrow⟩
          · have hb : bs = [] := List.length_eq_zero_iff.1 (by omega)
            subst hb; simp [enc] at hv
          · cases h
            rw [add_at]; exact (hrow j v hv).at_ (hs.wat q))
        rw [enc_len, hn] at hld
        have hm : enc bs = (bs.map fun b => (b.toNat : Int)).map (Value.int .u8) := by simp [enc]
        rw [hm] at hld
        have hrun := run_bytesToString (P := X.P) (wat w q) ad n c _ hld
        have hf := fold_str bs []
        have he0 : ByteArray.empty = str [] := rfl
        rw [he0, hf] at hrun
        simpa using hrun
    simp [RunN, execOp, hrl.ev hx, convert, run_underlying hu, run_underlying hu', run_underlying he, hrun]
    exact nrm_wat w q) hp hd h
end
theorem Rd.of_take {G : HP} {L F : List HP} {B : Option Addr} {m sz : Nat} {vs : List Value} (h : Rd [G] B m sz vs) (ht : Take G L F) : Rd L B m sz vs := by
  refine ⟨h.1, ?_⟩
  rcases h.2 with h0 | ⟨g, o, hB, hr⟩
  · exact .inl h0
  · exact .inr ⟨g, o, hB, hr.of_take ht⟩
theorem vsX_own (v : Vs) (AI : Option Addr) (cI gO cO : Nat) (rs : List RIA) (j : Nat) (x : RI) (a : RIA) (h1 : v.inos[j]? = some x) (h2 : rs[j]? = some a) (m : Mem) (S : Nat → Prop) (hs : (HP.star (vsX v AI cI gO cO rs)).sat m S) : ∃ S', (Own a.A a.c 5 1 x.data.length (enc x.data)).sat m S' := by
  obtain ⟨F, hF⟩ := inP_take v.inos rs j x a h1 h2
  have h0 : sats (vsX v AI cI gO cO rs) m S := hs
  obtain ⟨_, S2, _, b2, _⟩ := h0
  obtain ⟨_, S3, _, b3, _⟩ := b2
  obtain ⟨_, S4, _, b4, _⟩ := b3
  obtain ⟨S5, _, b5, _⟩ := b4
  have h5 : sats (inP v.inos rs) m S5 := b5
  obtain ⟨S6, _, b6, _⟩ := sats_perm hF.perm h5
  have h6 : sats (riL x a) m S6 := b6
  obtain ⟨S7, _, b7, _⟩ := h6
  exact ⟨S7, b7⟩
theorem vsX_row (v : Vs) (AI : Option Addr) (cI gO cO : Nat) (rs : List RIA) (j : Nat) (x : RI) (a : RIA) (h1 : v.inos[j]? = some x) (h2 : rs[j]? = some a) (g : Nat) (hA : a.A = some ⟨g, 0, none⟩) : CellRow [HP.star (vsX v AI cI gO cO rs)] g 0 (enc x.data) := by
  intro i u hu m S hS
  obtain ⟨S', h⟩ := vsX_own v AI cI gO cO rs j x a h1 h2 m S (sats_one' hS)
  rw [hA] at h
  exact CellRow.own (L := []) i u hu m S' (sats_one h)
end Go.Proofs.YtppkiiomedembaaGreatDoor
namespace Go.Proofs.YtppkiiomedembaaGreatDoor
open Go
set_option maxRecDepth 100000
set_option maxHeartbeats 1000000
attribute [local irreducible] E EO
def offP (ps : List (List UInt8)) (j : Nat) : Nat := (ps.take j).flatten.length
theorem offP_take (ps : List (List UInt8)) (j : Nat) : ps.flatten.take (offP ps j) = (ps.take j).flatten := by
  have h : ps.flatten = (ps.take j).flatten ++ (ps.drop j).flatten := by rw [← List.flatten_append, List.take_append_drop]
  rw [h, offP, List.take_left]
theorem offP_succ (ps : List (List UInt8)) (j : Nat) (b : List UInt8) (h : ps[j]? = some b) : offP ps (j + 1) = offP ps j + b.length ∧ (ps.take (j + 1)).flatten = (ps.take j).flatten ++ b := by
  have e : (ps.take (j + 1)).flatten = (ps.take j).flatten ++ b := by
    rw [List.take_add_one, h, List.flatten_append]; simp
  exact ⟨by unfold offP; rw [e, List.length_append], e⟩
theorem offP_le (ps : List (List UInt8)) (j : Nat) : offP ps j ≤ ps.flatten.length := by
  have h := congrArg List.length (offP_take ps j)
  rw [List.length_take] at h
  unfold offP at h ⊢
  omega
def strRs (k : Cm) (c nm data : List UInt8) (ps : List (List UInt8)) : List OpR := ⟨0, c, 0, k.md, k.ui, k.gi, []⟩ :: ⟨0, nm, data.length, k.fm, 0, 0, []⟩ :: ps.map fun b => ⟨1, [], 0, 0, 0, 0, b⟩
def strS (il : Bool) (k : Cm) (c e nm data : List UInt8) (ps : List (List UInt8)) (inl : Bool) (wg dg : Nat) : Nat → HP
  | 0 => HP.star [Cells wg 174 (rawW dg il ((17179869184 : Nat) : Int)), DiskP dg 0 []]
  | 1 => SD wg dg il k c
  | j + 2 => SP wg dg il k [c] e nm data inl (offP ps j)
structure TwoN (c e nm : List UInt8) : Prop where
  hc : good c ∧ c.length ≤ 255
  he : good e ∧ e.length ≤ 255
  hcn : c ≠ lfN
  hnd0 : noDots c.length c
  hcl0 : clN c.length c [47] = 47 :: c
  hdir0 : dirP c = slashed []
  hbase0 : baseP c = c
  hnml : nm.length ≤ 100000
  hnd : noDots nm.length nm
  hcl : clN nm.length nm [47] = 47 :: (slashed [c] ++ e)
  hdir : dirP (slashed [c] ++ e) = slashed [c]
  hbase : baseP (slashed [c] ++ e) = e
theorem strImage (il : Bool) (k : Cm) (hk : CmOk k) (hrt : k.rm = 16877 ∧ k.ru = 0 ∧ k.rg = 0) (hreg : regM k.fm = k.fm) (c e nm : List UInt8) (h2 : TwoN c e nm) (data : List UInt8) (ps : List (List UInt8)) (hps : ps.flatten = data) (hpl : ps.length ≤ 900) (hpe : ∀ b ∈ ps, b ≠ []) (hdl : data.length ≤ 100000) (inl : Bool) (hinl : inl = (il && decide (data.length ≤ 136)))
    (al : List OpA) (hal : al.length = ps.length + 2) (go co : Nat) (G : HP) (hG : PfxP G) :
    Fe Tryz.prog 10 #[.bool il, .int .i64 0, .slice (some ⟨go, 0, none⟩) (ps.length + 2 : Nat) co] [Own (some ⟨go, 0, none⟩) co 39 24 (ps.length + 2) (opsV (strRs k c nm data ps) al), HP.star (opsP (strRs k c nm data ps) al), G] (fun i : (Option Addr × Nat × Nat) × (Nat × Nat) × List UInt8 => i.2.2 = imgD il k [c, e] inl data ∧ i.2.2 ≠ [])
      (fun i => .tuple #[.slice i.1.1 i.1.2.1 i.1.2.2, .int .i64 0, .slice (some ⟨i.2.1.1, 0, none⟩) i.2.2.length i.2.1.2]) (fun i => [ImgQ i.2.1.1 i.2.1.2 i.2.2, G]) := by
  have hrl : (strRs k c nm data ps).length = ps.length + 2 := by simp [strRs]
  have hin136 : inl = true → data.length ≤ 136 := fun h => by rw [hinl] at h; simp at h; exact h.2
  have hbl : ∀ b ∈ ps, b.length ≤ data.length := fun b hb => by
    rw [← hps]
    exact (List.sublist_flatten_of_mem hb).length_le
  have key := Image_fn il (strRs k c nm data ps) al go co G (fun B => B = imgD il k [c, e] inl data) (strS il k c e nm data ps inl) (by rw [hrl]; exact hal) (by rw [hrl]; omega) ?_ (fun wg dg => Tn.close) ?_ ?_
  · rw [hrl] at key
    exact key
  · intro r hr
    simp only [strRs, List.mem_cons, List.mem_map] at hr
    rcases hr with rfl | rfl | ⟨b, hb, rfl⟩
    · exact ⟨by show 0 ≤ 1000000000; decide, by show 0 ≤ 1000000000; decide⟩
    · exact ⟨by show data.length ≤ 1000000000; omega, by show 0 ≤ 1000000000; decide⟩
    · exact ⟨by show 0 ≤ 1000000000; decide, by have := hbl b hb; show b.length ≤ 1000000000; omega⟩
  · intro wg dg i r hr
    match i, hr with
    | 0, hr =>
      have : (⟨0, c, 0, k.md, k.ui, k.gi, []⟩ : OpR) = r := Option.some.inj hr
      subst this
      have h1 : 1 ≤ c.length := by
        have := h2.hc.1.1
        cases c with
        | nil => exact absurd rfl this
        | cons a r => simp
      exact stepS0 wg dg il k hk hrt G c h2.hnd0 h2.hcl0 h1 h2.hc.2 h2.hdir0 h2.hbase0 h2.hcn
    | 1, hr =>
      have : (⟨0, nm, data.length, k.fm, 0, 0, []⟩ : OpR) = r := Option.some.inj hr
      subst this
      have h1 : 1 ≤ e.length := by
        have := h2.he.1.1
        cases e with
        | nil => exact absurd rfl this
        | cons a r => simp
      have h := stepS1 wg dg il k hk G hG c e nm data.length inl h2.hnml h2.hnd h2.hcl h2.hdir h2.hbase h1 h2.he.2 h2.hc.1.2.1 h2.hc.2 h2.hcn hdl hinl hreg
      have e0 : strS il k c e nm data ps inl wg dg (1 + 1) = SB wg dg il k [c] e nm inl 0 data.length (List.replicate data.length 0) [] := by
        show SB wg dg il k [c] e nm inl (offP ps 0) data.length (data.take (offP ps 0) ++ List.replicate (data.length - offP ps 0) 0) (if inl then [] else data.take (offP ps 0)) = _
        have h0 : offP ps 0 = 0 := rfl
        rw [h0, List.take_zero, List.nil_append, Nat.sub_zero]
        congr 1
        split <;> rfl
      rw [e0]
      exact h
    | j + 2, hr =>
      have hr' : (ps.map fun b => (⟨1, [], 0, 0, 0, 0, b⟩ : OpR))[j]? = some r := by simpa [strRs] using hr
      rw [List.getElem?_map] at hr'
      cases hb : ps[j]? with
      | none => rw [hb] at hr'; simp at hr'
      | some b =>
        rw [hb] at hr'
        have hrb : (⟨1, [], 0, 0, 0, 0, b⟩ : OpR) = r := by simpa using hr'
        subst hrb
        obtain ⟨o1, o2⟩ := offP_succ ps j b hb
        have hle := offP_le ps (j + 1)
        rw [hps, o1] at hle
        have t1 := offP_take ps j
        have t2 := offP_take ps (j + 1)
        rw [hps] at t1 t2
        have hpos : 0 < b.length := by
          have := hpe b (List.mem_of_getElem? hb)
          cases b with
          | nil => exact absurd rfl this
          | cons a r => simp
        have h := stepP wg dg il k G [c] e nm data b inl (offP ps j) hle (by rw [← o1, t2, o2, t1]) hdl hin136 hpos
        show StepC wg G ⟨1, [], 0, 0, 0, 0, b⟩ (SP wg dg il k [c] e nm data inl (offP ps j)) (SP wg dg il k [c] e nm data inl (offP ps (j + 1)))
        rw [o1]
        exact h
  · intro wg dg
    have h := deepClose wg dg il k hk [c] e nm (by show 1 ≤ 99; decide) (fun z hz => by
      have hz' : z = c ∨ z = e := by simpa using hz
      rcases hz' with rfl | rfl
      · exact h2.hc.2
      · exact h2.he.2) (fun z hz => by
      have hz' : z = c := by simpa using hz.symm
      rw [hz']; exact h2.hcn) data hdl inl hin136
    rw [show ([c] ++ [e] : List (List UInt8)) = [c, e] from rfl] at h
    have e0 : strS il k c e nm data ps inl wg dg (strRs k c nm data ps).length = SB wg dg il k [c] e nm inl data.length data.length data (if inl then [] else data) := by
      rw [hrl]
      show SB wg dg il k [c] e nm inl (offP ps ps.length) data.length (data.take (offP ps ps.length) ++ List.replicate (data.length - offP ps ps.length) 0) (if inl then [] else data.take (offP ps ps.length)) = _
      have h0 : offP ps ps.length = data.length := by unfold offP; rw [List.take_length, hps]
      rw [h0, List.take_length, Nat.sub_self, List.replicate_zero, List.append_nil]
    rw [e0]
    have hne : imgD il k [c, e] inl data ≠ [] := by
      intro h0
      have hl := congrArg List.length h0
      unfold imgD at hl
      dsimp only at hl
      simp only [List.length_append, bm_len, List.length_nil] at hl
      omega
    have hT : Tn [DiskP dg ((itD [c, e].length (blkD inl data) + up16 (11 + [c, e].length) / 16 + 2) * 4096) (imgD il k [c, e] inl data)] (fun _ : Unit => True) (fun _ => [ImgE dg (fun B => B = imgD il k [c, e] inl data)]) := fun m S hS =>
      ⟨(), S, trivial, sats_one ⟨(((itD [c, e].length (blkD inl data) + up16 (11 + [c, e].length) / 16 + 2) * 4096), imgD il k [c, e] inl data), ⟨rfl, hne⟩, sats_one' hS⟩, fun _ h => h⟩
    exact Fd.close h hT
end Go.Proofs.YtppkiiomedembaaGreatDoor
namespace Go.Proofs.YtppkiiomedembaaGreatDoor
open Go
set_option maxRecDepth 100000
set_option maxHeartbeats 4000000
attribute [local irreducible] E EO
theorem imageReadS_fn (il : Bool) (k : Cm) (hk : CmOk k) (hrt : k.rm = 16877 ∧ k.ru = 0 ∧ k.rg = 0) (hreg : regM k.fm = k.fm) (c e nm : List UInt8) (h2 : TwoN c e nm) (ps : List (List UInt8)) (hpl : ps.length ≤ 900) (hpe : ∀ b ∈ ps, b ≠ [])
    (data : List UInt8) (hps : ps.flatten = data) (hdl : data.length ≤ 100000) (inl : Bool) (hinl : inl = (il && decide (data.length ≤ 136))) (al : List OpA) (hal : al.length = ps.length + 2) (go co : Nat) (M : HP) (hP : PfxP M)
    (hd : ∀ (i : Nat) (r' : OpR) (a : OpA), (strRs k c nm data ps)[i]? = some r' → al[i]? = some a → Rd [M] a.D r'.dat.length 1 (enc r'.dat) ∧ (a.D = none → r'.dat.length = 0) ∧ r'.dat.length ≤ 1000000000) :
    Fe Tryz.prog 6 #[.bool il, .int .i64 0, .slice (some ⟨go, 0, none⟩) (ps.length + 2 : Nat) co] [Own (some ⟨go, 0, none⟩) co 39 24 (ps.length + 2) (opsV (strRs k c nm data ps) al), M] (fun i : Nat × (Nat × Nat × List UInt8 × List Nat) => i.2.2.2.1.length = nbD 2 (blkD inl data) * 4096 ∧ i.2.2.2.1.length ≤ i.2.2.1) (fun i => .tuple #[ptrV i.1, .bool true])
      (fun i => [VP (deepW i.2.1 i.2.2.1 i.2.2.2.1 k [c, e] inl data i.1 i.2.2.2.2), M]) := by
  have hgood : ∀ z ∈ [c, e], good z ∧ z.length ≤ 255 := fun z hz => by
    have hz' : z = c ∨ z = e := by simpa using hz
    rcases hz' with rfl | rfl
    · exact h2.hc
    · exact h2.he
  have hi136 : inl = true → data.length ≤ 136 := by
    intro h
    rw [h] at hinl
    have := (Bool.and_eq_true_iff.1 hinl.symm).2
    exact of_decide_eq_true this
  have hrl : (strRs k c nm data ps).length = ps.length + 2 := by simp [strRs]
  have hdup := dupOps_fn (strRs k c nm data ps) al go co M (by rw [hrl]; exact hal) (by rw [hrl]; omega) hd
  rw [hrl] at hdup
  refine fn_of_E' (args := [_, _, _]) 12 _ [_, _, _, undef, undef, undef, undef, undef, undef, undef, undef, undef] Tryz.func6 rfl Tryz.ntmps6 ?_
  refine walk ?_
  refine y_callE rfl rfl hdup fun i hi => ?_
  obtain ⟨⟨A, c1⟩, al2⟩ := i
  dsimp only at hi ⊢
  refine EO.know (A := Own A c1 39 24 (ps.length + 2) (opsV (strRs k c nm data ps) al2)) take_ (fun _ _ => Own.know) fun hk => ?_
  obtain ⟨k1, k2, k3, k4⟩ := hk
  cases A with
  | none => have := k3 rfl; omega
  | some ad =>
  obtain ⟨gA, rfl⟩ := k4 ad rfl
  have him := strImage il k hk hrt hreg c e nm h2 data ps hps hpl hpe hdl inl hinl al2 hi gA c1 M hP
  refine walk ?_
  refine y_callE rfl rfl him fun j hj => ?_
  obtain ⟨⟨AT, nT, cT⟩, ⟨ig, ic⟩, img⟩ := j
  obtain ⟨hj1, hj2⟩ := hj
  dsimp only at hj1 hj2 ⊢
  refine EO.know (A := ImgQ ig ic img) (p := img.length ≤ ic) take_ (fun _ _ h => (Own.know h).2.1) fun hic => ?_
  obtain ⟨cl', hread⟩ := deepRead il k hk c [e] hgood h2.hcn (by show 1 ≤ 99; decide) inl data hdl hi136 ig ic img hj1 hic
  refine walk ?_
  refine y_callE rfl rfl hread fun vg _ => ?_
  refine walk ?_
  refine y_loadC (v := .slice none 0 0) (VP.cell 2 _ fun _ _ _ _ => rfl) ?_
  refine walk ?_
  refine y_ret (M := [VP { deepV ig ic img ([e].length + 1) (blkD inl data) with vg := vg, cl := cl', inos := deepRI k [c, e] inl data }, M]) [6, 7] rfl ⟨(vg, ig, ic, img, cl'), ⟨?_, hic⟩, rfl, rfl⟩
  show img.length = _
  rw [hj1, imgD_len il k [c, e] inl data hk (by simp) (fun z hz => (hgood z hz).2) hdl hi136]
  rfl
end Go.Proofs.YtppkiiomedembaaGreatDoor
namespace Go.Proofs.YtppkiiomedembaaGreatDoor
open Go
set_option maxRecDepth 100000
set_option maxHeartbeats 1000000
attribute [local irreducible] E EO
theorem Find_fn (kc : Cm) (hk : CmOk kc) (c e : List UInt8) (inl : Bool) (data : List UInt8) (nds : List ND) (hnd : NdsR kc [c, e] inl data nds) (gN cN gs : Nat) :
    Fd Tryz.prog 8 #[.agg #[.slice (some ⟨gN, 0, none⟩) 4 cN], .slice (some ⟨gs, 0, none⟩) 2 2] [Own (some ⟨gN, 0, none⟩) cN 58 18 4 (noVs nds), HP.star (nds.map noP), Own (some ⟨gs, 0, none⟩) 2 9 1 2 [.string (str c), .string (str e)]] (.tuple #[.int .i64 ((3 : Nat) : Int), .bool true])
      [Own (some ⟨gN, 0, none⟩) cN 58 18 4 (noVs nds), HP.star (nds.map noP), Own (some ⟨gs, 0, none⟩) 2 9 1 2 [.string (str c), .string (str e)]] := by
  obtain ⟨q, q1, q2, q3, q4, q5, q6, q7⟩ := hnd.dir 0 c rfl
  obtain ⟨r, r1, r2, r3, r4, r5, r6, r7⟩ := hnd.dir 1 e rfl
  rw [if_pos rfl] at q2 q3 q4
  rw [if_neg (by decide)] at r2 r3 r4
  have hq0 : q.x.mode &&& 61440 = 16384 := by rw [q2]; exact hk.hrm
  have hq1 : q.x.mode < 65536 := by rw [q2]; exact hk.hrm2
  have hr0 : r.x.mode &&& 61440 = 16384 := by rw [r2]; exact hk.hmd
  have hr1 : r.x.mode < 65536 := by rw [r2]; exact hk.hmd2
  obtain ⟨F, hF1, hF2⟩ := noP_out (List.mem_of_getElem? q1)
  obtain ⟨G, hG1, hG2⟩ := noP_out (List.mem_of_getElem? r1)
  refine fn_of_E' (args := [_, _]) 11 _ [_, _, undef, undef, undef, undef, undef, undef, undef, undef, undef] Tryz.func8 rfl Tryz.ntmps8 ?_
  refine walk ?_
  refine y_boxA rfl fun g2 => ?_
  refine walk ?_
  refine y_loop ?_
  refine walk ?_
  refine y_loadO 0 (v := .string (str c)) rfl ?_
  refine walk ?_
  refine y_loadS (vs := noVs nds) (us := noV q) (0 * 18) (noVs_get _ 0 q q1) ?_
  refine walk ?_
  refine y_tno hF1 fun _ _ => ?_
  refine y_callD rfl rfl (Kid_fn q.x.mode q.x.uid q.x.gid q.r.c q.r.c' (ndLn q) (ndCp q) (ndAd q) q.r.A q.r.A' q.ks c 2 (by omega) q5) ?_
  refine walk ?_
  refine y_loadS (vs := noVs nds) (us := noV q) (0 * 18) (noVs_get _ 0 q q1) ?_
  refine walk ?_
  refine y_callD rfl rfl (Kind_fn q.x.mode q.x.uid q.x.gid (ndLn q) (ndCp q) (ndAd q) (.slice q.r.A q.ks.length q.r.c) (.slice q.r.A' q.ks.length q.r.c') hq1) ?_
  rw [hq0]
  refine walk ?_
  refine y_tn hF2 fun _ _ => ?_
  refine y_again ?_
  refine walk ?_
  refine y_loadO 1 (v := .string (str e)) rfl ?_
  refine walk ?_
  refine y_loadS (vs := noVs nds) (us := noV r) (2 * 18) (noVs_get _ 2 r r1) ?_
  refine walk ?_
  refine y_tno hG1 fun _ _ => ?_
  refine y_callD rfl rfl (Kid_fn r.x.mode r.x.uid r.x.gid r.r.c r.r.c' (ndLn r) (ndCp r) (ndAd r) r.r.A r.r.A' r.ks e 3 (by omega) r5) ?_
  refine walk ?_
  refine y_loadS (vs := noVs nds) (us := noV r) (2 * 18) (noVs_get _ 2 r r1) ?_
  refine walk ?_
  refine y_callD rfl rfl (Kind_fn r.x.mode r.x.uid r.x.gid (ndLn r) (ndCp r) (ndAd r) (.slice r.r.A r.ks.length r.r.c) (.slice r.r.A' r.ks.length r.r.c') hr1) ?_
  rw [hr0]
  refine walk ?_
  refine y_tn hG2 fun _ _ => ?_
  refine y_again ?_
  refine walk ?_
  exact y_ret [4, 5] rfl ⟨rfl, rfl⟩
end Go.Proofs.YtppkiiomedembaaGreatDoor
namespace Go.Proofs.YtppkiiomedembaaGreatDoor
open Go
set_option maxRecDepth 100000
set_option maxHeartbeats 4000000
attribute [local irreducible] E EO
theorem CellRow.star {L : List HP} {g o : Nat} {vs : List Value} (h : CellRow L g o vs) : CellRow [HP.star L] g o vs := fun j v hj m S hS => h j v hj m S (sats_one' hS)
theorem Rd.star {L : List HP} {B : Option Addr} {m sz : Nat} {vs : List Value} (h : Rd L B m sz vs) : Rd [HP.star L] B m sz vs := by
  refine ⟨h.1, ?_⟩
  rcases h.2 with h0 | ⟨g, o, hB, hr⟩
  · exact .inl h0
  · exact .inr ⟨g, o, hB, hr.star⟩
theorem anP_row : ∀ (ps : List (List UInt8)) (gl : List Nat) (j : Nat) (p : List UInt8) (g : Nat), ps[j]? = some p → gl[j]? = some g → CellRow (anP ps gl) g 0 (enc p)
  | q :: ps, b :: gl, 0, p, g, h1, h2 => by
    simp at h1 h2; subst h1 h2; exact CellRow.own
  | q :: ps, b :: gl, j + 1, p, g, h1, h2 => (anP_row ps gl j p g (by simpa using h1) (by simpa using h2)).there
def alP : List (List UInt8) → List Nat → List OpA
  | p :: r, g :: gs => ⟨some ⟨g, 0, none⟩, p.length⟩ :: alP r gs
  | _, _ => []
theorem alP_len : ∀ (ps : List (List UInt8)) (gl : List Nat), gl.length = ps.length → (alP ps gl).length = ps.length
  | [], [], _ => rfl
  | q :: ps, b :: gl, h => by
    have := alP_len ps gl (by simpa using h)
    simp only [alP, List.length_cons, this]
theorem alP_get : ∀ (ps : List (List UInt8)) (gl : List Nat) (j : Nat) (p : List UInt8) (a : OpA), ps[j]? = some p → (alP ps gl)[j]? = some a → ∃ g, gl[j]? = some g ∧ a = ⟨some ⟨g, 0, none⟩, p.length⟩
  | q :: ps, b :: gl, 0, p, a, h1, h2 => by
    simp [alP] at h1 h2; subst h1 h2; exact ⟨b, rfl, rfl⟩
  | q :: ps, b :: gl, j + 1, p, a, h1, h2 => by
    obtain ⟨g, e1, e2⟩ := alP_get ps gl j p a (by simpa using h1) (by simpa [alP] using h2)
    exact ⟨g, by simpa using e1, e2⟩
  | q :: ps, [], j, p, a, h1, h2 => by simp [alP] at h2
theorem alP_take : ∀ (ps : List (List UInt8)) (gl : List Nat) (j : Nat) (p : List UInt8) (g : Nat), ps[j]? = some p → gl[j]? = some g → alP (ps.take (j + 1)) (gl.take (j + 1)) = alP (ps.take j) (gl.take j) ++ [⟨some ⟨g, 0, none⟩, p.length⟩]
  | q :: ps, b :: gl, 0, p, g, h1, h2 => by
    simp at h1 h2; subst h1 h2; rfl
  | q :: ps, b :: gl, j + 1, p, g, h1, h2 => by
    have := alP_take ps gl j p g (by simpa using h1) (by simpa using h2)
    simp only [List.take_succ_cons, alP, this, List.cons_append]
theorem stepsV_app (D : Option Addr) (n c : Nat) (ps : List (List UInt8)) (p : List UInt8) : stepsV D n c (ps ++ [p]) = stepsV D n c ps ++ stC 12 [] 2 none 0 0 p.length := by
  unfold stepsV; rw [stV_app]; simp only [List.append_assoc]
abbrev strK : Cm := ⟨16877, 0, 0, 16832, 0, 0, 33152⟩
theorem strK_ok : CmOk strK := ⟨by decide, by decide, by decide, by decide, by decide, by decide, by decide, by decide, by decide, by decide⟩
theorem twoDG : TwoN [100] [103] [100, 47, 103] where
  hc := ⟨⟨by decide, by decide, by decide, by decide⟩, by decide⟩
  he := ⟨⟨by decide, by decide, by decide, by decide⟩, by decide⟩
  hcn := by decide
  hnd0 := by simp [noDots, headP]
  hcl0 := by decide
  hdir0 := by decide
  hbase0 := by decide
  hnml := by decide
  hnd := by simp [noDots, headP]
  hcl := by decide
  hdir := by decide
  hbase := by decide
theorem fillSteps (D : Option Addr) (n c : Nat) : Instr.fill (fun i => some (i * 10, 10)) ((Array.range (3 * 10)).map ((stC 0 [] 0 none 0 0 0).toArray[· % (stC 0 [] 0 none 0 0 0).length]!)) ([0, 1, 2].zip [.agg (stC 0 [47, 102] 0 none 0 0 0).toArray, .agg (stC 14 [] 0 D n c 0).toArray, .agg (stC 1 [47, 102] 0 none 0 0 0).toArray]) = some (stepsV D n c []).toArray := by kernel_rfl
abbrev opZs : List Value := [.int .i64 0, .string ⟨#[]⟩, .string ⟨#[]⟩, .string ⟨#[]⟩, .int .i64 0, .int .u16 0, .int .u32 0, .int .u32 0, .bool false, .int .i64 0, .int .i64 0, .bool false, .int .i64 0, .int .i64 0, .bool false, .int .i64 0, .int .i64 0, .bool false, .int .i64 0, .int .i64 0, .int .u32 0, .int .u32 0, .slice none 0 0, .slice none 0 0]
abbrev twoOps (n : Nat) (md : Nat) : List Value := opV ⟨0, [100], 0, md, 0, 0, []⟩ ⟨none, 0⟩ ++ opV ⟨0, [100, 47, 103], n, 33152, 0, 0, []⟩ ⟨none, 0⟩
theorem fillTwo (n : Nat) : Instr.fill (fun i => some (i * 24, 24)) ((Array.range (2 * 24)).map (opZs.toArray[· % opZs.length]!)) ([0, 1].zip [.agg (opV ⟨0, [100], 0, 0, 0, 0, []⟩ ⟨none, 0⟩).toArray, .agg (opV ⟨0, [100, 47, 103], n, 33152, 0, 0, []⟩ ⟨none, 0⟩).toArray]) = some (twoOps n 0).toArray := by kernel_rfl
theorem ansV_get (n : Nat) (ps : List (List UInt8)) (gl : List Nat) (j : Nat) (p : List UInt8) (g : Nat) (h1 : ps[j]? = some p) (h2 : gl[j]? = some g) : ((ans0 n ++ anR ps gl).drop ((j + 3) * 6)).take 6 = anC 0 (some ⟨g, 0, none⟩) p.length p.length := by
  have e : (ans0 n ++ anR ps gl).drop ((j + 3) * 6) = (anR ps gl).drop (j * 6) := by
    rw [show (j + 3) * 6 = 18 + j * 6 by omega, ← List.drop_drop]
    rfl
  rw [e]; exact anR_get ps gl j p g h1 h2
theorem strOps_app (n : Nat) (rs : List OpR) (al : List OpA) (r : OpR) (a : OpA) (h : al.length = rs.length) : twoOps n 16832 ++ opsV rs al ++ opV r a = twoOps n 16832 ++ opsV (rs ++ [r]) (al ++ [a]) := by
  rw [opsV_app _ _ _ _ h, List.append_assoc]
theorem streamLaw (D : Option Addr) (cD : Nat) (data : List UInt8) (Z : Option Addr) (zc : Nat) (sz : List Int) (il : Bool) (M : HP)
    (hD : Rd [M] D data.length 1 (enc data)) (hD0 : D = none → data.length = 0) (hD1 : data.length ≤ 9223372036854775807) (hDc : data.length ≤ cD) (hDg : cD ≠ 0 → ∃ g o, D = some ⟨g, o, none⟩) (hZ : Rd [M] Z sz.length 1 (izV sz)) (hZ1 : sz.length ≤ 9223372036854775807) (hP : PfxP M) :
    Fd Tryz.prog 3 #[.slice D data.length cD, .slice Z sz.length zc, .bool il] [M] (.bool true) [M] := by
  refine fn_of_E' (args := [_, _, _]) 19 _ [_, _, _, undef, undef, undef, undef, undef, undef, undef, undef, undef, undef, undef, undef, undef, undef, undef, undef] Tryz.func3 rfl Tryz.ntmps3 ?_
  by_cases a1 : 2147483647 < data.length
  · refine walk ?_
    exact y_ret [6] rfl ⟨rfl, rfl⟩
  by_cases a2 : 2147483647 < sz.length
  · refine walk ?_
    exact y_ret [6] rfl ⟨rfl, rfl⟩
  by_cases a3 : 100000 < data.length
  · refine walk ?_
    exact y_ret [6] rfl ⟨rfl, rfl⟩
  by_cases a4 : 60 < sz.length
  · refine walk ?_
    exact y_ret [6] rfl ⟨rfl, rfl⟩
  refine walk ?_
  refine y_build (z := stC 0 [] 0 none 0 0 0) (vs := [.agg (stC 0 [47, 102] 0 none 0 0 0).toArray, .agg (stC 14 [] 0 D data.length cD 0).toArray, .agg (stC 1 [47, 102] 0 none 0 0 0).toArray]) (cs := stepsV D data.length cD []) rfl (fillSteps D data.length cD) rfl fun gs => ?_
  refine walk ?_
  have hcut := cut_fn D data.length cD data Z zc sz M rfl (by omega) hDc hDg hZ (by omega)
  obtain ⟨P, hPe⟩ : ∃ P, P = cutL data sz := ⟨_, rfl⟩
  rw [← hPe] at hcut
  refine y_callE rfl rfl hcut fun q hq => ?_
  obtain ⟨⟨Ap, cp⟩, al⟩ := q
  dsimp only at hq ⊢
  have hPl : P.length ≤ 61 := by have := cutL_len sz data; rw [← hPe] at this; omega
  have hPf : P.flatten = data := by rw [hPe]; exact cutL_flat sz data
  have hPn : ∀ p ∈ P, p ≠ [] := by rw [hPe]; exact cutL_ne sz data
  refine walk ?_
  refine E.know (A := Own Ap cp 22 1 P.length (pcV P al)) take_ (fun _ _ => Own.know) fun hk => ?_
  obtain ⟨k1, k2, k3, k4⟩ := hk
  refine e_roundsT (ι := Nat × (Option Addr × Nat) × Value) (fun z => P.length - z.1) (fun z => [.slice D data.length cD, .slice Z sz.length zc, .bool il, undef, undef, undef, .bool false, .slice z.2.1.1 (z.1 + 3 : Nat) z.2.1.2, undef, z.2.2, undef, undef, undef, undef, undef, undef, undef, undef, undef])
    (fun z => [(44, .int .i64 (z.1 : Nat)), (43, .int .i64 (P.length : Nat)), (42, .slice Ap P.length cp)])
    (fun z => [Own Ap cp 22 1 P.length (pcV P al), M, Own z.2.1.1 z.2.1.2 25 10 (z.1 + 3) (stepsV D data.length cD (P.take z.1))])
    (fun z => z.1 ≤ P.length) (0, (some ⟨gs, 0, none⟩, 3), undef) (Nat.zero_le _) rfl (by repeat constructor) (by exact .cons .here (.cons .here (.cons .here .nil))) ?_
  rintro ⟨j, ⟨A1, c1⟩, w9⟩ hj again
  dsimp only at hj again ⊢
  by_cases hlt : j < P.length
  · obtain ⟨p, hp⟩ : ∃ p, P[j]? = some p := ⟨_, List.getElem?_eq_getElem hlt⟩
    obtain ⟨a, ha⟩ : ∃ a, al[j]? = some a := ⟨_, List.getElem?_eq_getElem (by omega)⟩
    have htk : P.take (j + 1) = P.take j ++ [p] := by rw [List.take_add_one, hp]; rfl
    cases Ap with
    | none => have := k3 rfl; omega
    | some ad =>
    obtain ⟨gA, rfl⟩ := k4 ad rfl
    have ag := fun A5 c5 => again (j + 1, (A5, c5), .slice a.1 p.length a.2) (by dsimp only; omega) (by dsimp only; omega)
    dsimp only at ag
    clear again
    refine walk ?_
    refine y_loadO j (pcV_get P al j p a hp ha) ?_
    refine walk ?_
    refine y_build (z := stC 0 [] 0 none 0 0 0) (vs := [.agg (stC 12 [] 2 none 0 0 p.length).toArray]) (cs := stC 12 [] 2 none 0 0 p.length) rfl (fill_one (n := 10) (stC 0 [] 0 none 0 0 0) _ rfl rfl (by omega)) rfl fun gx => ?_
    refine walk ?_
    refine x_app (vs := stepsV D data.length cD (P.take j)) (news := stC 12 [] 2 none 0 0 p.length) rfl rfl take_ (by exact ⟨rfl, .inr ⟨_, _, rfl, (by first | ((repeat (first | exact CellRow.own | exact CellRow.here | apply CellRow.there)) <;> fail) | fail)⟩⟩) (fun h => by cases h) (by simp [Value.oneCell']) (by rfl) (by omega) (by simp only [maxLen]; omega) (by omega) (fun A5 c5 => ⟨_, _, pt_, ?_⟩)
    refine walk ?_
    rw [← stepsV_app, ← htk]
    exact (ag A5 c5).toP (ks := [44, 43, 42]) rfl (by repeat constructor) sub_
  have hjl : j = P.length := by omega
  subst hjl
  rw [List.take_length]
  clear again k1 k2 k3 k4 hq hcut
  refine E.know (A := Own A1 c1 25 10 (P.length + 3) (stepsV D data.length cD P)) take_ (fun _ _ => Own.know) fun hk => ?_
  obtain ⟨k1, k2, k3, k4⟩ := hk
  cases A1 with
  | none => have := k3 rfl; omega
  | some ad =>
  obtain ⟨gS, rfl⟩ := k4 ad rfl
  refine walk ?_
  refine y_callE rfl rfl (memScript_fn gS c1 D data.length cD data M hD hD0 (by omega) P hPf hPn (by omega)) fun q hq => ?_
  obtain ⟨⟨AA, cA⟩, gl⟩ := q
  dsimp only at hq ⊢
  refine walk ?_
  refine y_build (z := opZs) (vs := [.agg (opV ⟨0, [100], 0, 0, 0, 0, []⟩ ⟨none, 0⟩).toArray, .agg (opV ⟨0, [100, 47, 103], data.length, 33152, 0, 0, []⟩ ⟨none, 0⟩).toArray]) (cs := twoOps data.length 0) rfl (fillTwo data.length) rfl fun go => ?_
  refine walk ?_
  refine x_storeR (u := .int .u16 16832) rfl rfl rfl (.own (by simp [opV])) ?_
  rw [show ovw (twoOps data.length 0) (0 + 0 * 24 + 3 + 2) [.int .u16 16832] = twoOps data.length 16832 from rfl]
  clear k1 k2 k3 k4
  refine x_end ?_
  refine E.know (A := Own AA cA 44 6 (P.length + 3) (ans0 data.length ++ anR P gl)) take_ (fun _ _ => Own.know) fun hk => ?_
  obtain ⟨k1, k2, k3, k4⟩ := hk
  cases AA with
  | none => have := k3 rfl; omega
  | some ad =>
  obtain ⟨gA, rfl⟩ := k4 ad rfl
  refine e_seq ?_
  refine e_seq ?_
  refine e_cont (ι := Option Addr × Nat) (fun _ => [.slice D data.length cD, .slice Z sz.length zc, .bool il, undef, undef, undef, .bool false, .slice (some ⟨gS, 0, none⟩) (P.length + 3 : Nat) c1, undef, w9, .slice (some ⟨gA, 0, none⟩) (P.length + 3 : Nat) cA, .slice (some ⟨go, 0, none⟩) 2 2, undef, undef, undef, undef, undef, undef, undef])
    (fun z => [(75, .int .i64 0), (74, .int .i64 (P.length : Nat)), (73, .slice z.1 P.length z.2)])
    (fun _ => [Own (some ⟨go, 0, none⟩) 2 39 24 2 (twoOps data.length 16832), Own (some ⟨gA, 0, none⟩) cA 44 6 (P.length + 3) (ans0 data.length ++ anR P gl), HP.star (anP P gl), M]) (fun z => 0 < P.length → z.1 = some ⟨gA, 18, none⟩) (fun rest => ?_) ?_
  · refine walk ?_
    by_cases h3 : 3 = cA
    · have r := rest (some ⟨gA, 0, none⟩, 0) (fun h => by omega)
      dsimp only at r
      refine x_slLoE (m := 3) rfl rfl rfl (by omega) h3 pt_ ?_
      rw [show P.length + 3 - 3 = P.length by omega]
      refine walkO ?_
      refine x_end ?_
      exact r.toP (ks := [75, 74, 73]) rfl (by repeat constructor) sub_
    · have r := rest (some ⟨gA, 18, none⟩, cA - 3) (fun _ => rfl)
      dsimp only at r
      refine x_slLo (m := 3) rfl rfl rfl (by omega) k2 (by omega) pt_ ?_
      rw [show P.length + 3 - 3 = P.length by omega]
      refine walkO ?_
      refine x_end ?_
      exact r.toP (ks := [75, 74, 73]) rfl (by repeat constructor) sub_
  rintro ⟨A3, c3⟩ hA3
  dsimp only at hA3 ⊢
  refine walk ?_
  refine e_roundsT (ι := Nat × (Option Addr × Nat) × Value) (fun z => P.length - z.1) (fun z => [.slice D data.length cD, .slice Z sz.length zc, .bool il, undef, undef, undef, .bool false, .slice (some ⟨gS, 0, none⟩) (P.length + 3 : Nat) c1, undef, w9, .slice (some ⟨gA, 0, none⟩) (P.length + 3 : Nat) cA, .slice z.2.1.1 (z.1 + 2 : Nat) z.2.1.2, undef, z.2.2, undef, undef, undef, undef, undef])
    (fun z => [(75, .int .i64 (z.1 : Nat)), (74, .int .i64 (P.length : Nat)), (73, .slice A3 P.length c3)])
    (fun z => [Own z.2.1.1 z.2.1.2 39 24 (z.1 + 2) (twoOps data.length 16832 ++ opsV ((P.take z.1).map fun b => ⟨1, [], 0, 0, 0, 0, b⟩) (alP (P.take z.1) (gl.take z.1))), Own (some ⟨gA, 0, none⟩) cA 44 6 (P.length + 3) (ans0 data.length ++ anR P gl), HP.star (anP P gl), M])
    (fun z => z.1 ≤ P.length) (0, (some ⟨go, 0, none⟩, 2), undef) (Nat.zero_le _) rfl (by repeat constructor) (by exact .cons .here (.cons .here (.cons .here (.cons .here .nil)))) ?_
  rintro ⟨j, ⟨A4, c4⟩, w13⟩ hj2 again
  dsimp only at hj2 again ⊢
  by_cases hlt : j < P.length
  · obtain ⟨p, hp⟩ : ∃ p, P[j]? = some p := ⟨_, List.getElem?_eq_getElem hlt⟩
    obtain ⟨g, hg⟩ : ∃ g, gl[j]? = some g := ⟨_, List.getElem?_eq_getElem (by omega)⟩
    have htk : P.take (j + 1) = P.take j ++ [p] := by rw [List.take_add_one, hp]; rfl
    have htl : (P.take j).length = j := by rw [List.length_take]; omega
    have hgtl : (gl.take j).length = j := by rw [List.length_take]; omega
    have ag := fun A5 c5 g13 => again (j + 1, (A5, c5), ptrV g13) (by dsimp only; omega) (by dsimp only; omega)
    dsimp only at ag
    rw [alP_take P gl j p g hp hg, htk, List.map_append, List.map_cons, List.map_nil, show j + 1 + 2 = j + 2 + 1 by omega] at ag
    clear again
    have hA4 := hA3 (by omega)
    subst hA4
    refine walk ?_
    refine y_loadS (vs := ans0 data.length ++ anR P gl) (us := anC 0 (some ⟨g, 0, none⟩) p.length p.length) ((j + 3) * 6) (ansV_get _ P gl j p g hp hg) ?_
    refine walk ?_
    refine y_alloc fun g13 => ?_
    refine walk ?_
    refine y_build (z := opZs) (vs := [.agg (opV ⟨1, [], 0, 0, 0, 0, p⟩ ⟨some ⟨g, 0, none⟩, p.length⟩).toArray]) (cs := opV ⟨1, [], 0, 0, 0, 0, p⟩ ⟨some ⟨g, 0, none⟩, p.length⟩) rfl (fill_one (n := 24) opZs _ rfl rfl (by omega)) rfl fun gx => ?_
    refine walk ?_
    refine x_app (vs := twoOps data.length 16832 ++ opsV ((P.take j).map fun b => ⟨1, [], 0, 0, 0, 0, b⟩) (alP (P.take j) (gl.take j))) (news := opV ⟨1, [], 0, 0, 0, 0, p⟩ ⟨some ⟨g, 0, none⟩, p.length⟩) rfl rfl take_ (by exact ⟨rfl, .inr ⟨_, _, rfl, (by first | ((repeat (first | exact CellRow.own | exact CellRow.here | apply CellRow.there)) <;> fail) | fail)⟩⟩) (fun h => by cases h) (by simp [Value.oneCell']) (by rfl) (by omega) (by simp only [maxLen]; omega) (by omega) (fun A5 c5 => ⟨_, _, pt_, ?_⟩)
    refine walk ?_
    rw [strOps_app _ _ _ _ _ (by rw [alP_len _ _ (by omega), List.length_map])]
    exact (ag A5 c5 g13).toP (ks := [75, 74, 73]) rfl (by repeat constructor) sub_
  have hjl2 : j = P.length := by omega
  subst hjl2
  rw [List.take_length, show gl.take P.length = gl from by rw [← hq, List.take_length]]
  clear again k1 k2 k3 k4
  rw [show twoOps data.length 16832 ++ opsV (P.map fun b => ⟨1, [], 0, 0, 0, 0, b⟩) (alP P gl) = opsV (strRs strK [100] [100, 47, 103] data P) (⟨none, 0⟩ :: ⟨none, 0⟩ :: alP P gl) from rfl]
  refine E.know (A := Own A4 c4 39 24 (P.length + 2) (opsV (strRs strK [100] [100, 47, 103] data P) (⟨none, 0⟩ :: ⟨none, 0⟩ :: alP P gl))) take_ (fun _ _ => Own.know) fun hk => ?_
  obtain ⟨k1, k2, k3, k4⟩ := hk
  cases A4 with
  | none => have := k3 rfl; omega
  | some ad =>
  obtain ⟨g4, rfl⟩ := k4 ad rfl
  refine y_tn (Tn.close (L := [HP.star (anP P gl), M])) fun _ _ => ?_
  obtain ⟨M2, hM2⟩ : ∃ M2, M2 = HP.star [HP.star (anP P gl), M] := ⟨_, rfl⟩
  rw [← hM2]
  have hP2 : PfxP M2 := by rw [hM2]; exact CellRow.star (CellRow.there hP)
  have hD2 : Rd [M2] D data.length 1 (enc data) := by rw [hM2]; exact Rd.star (hD.there _)
  have hil : (il && decide (data.length ≤ 136)) = true → data.length ≤ 136 := fun h => of_decide_eq_true (Bool.and_eq_true_iff.1 h).2
  have him := imageReadS_fn il strK strK_ok ⟨rfl, rfl, rfl⟩ rfl [100] [103] [100, 47, 103] twoDG P (by omega) hPn data hPf (by omega) (il && decide (data.length ≤ 136)) rfl (⟨none, 0⟩ :: ⟨none, 0⟩ :: alP P gl) (by simp [alP_len P gl hq]) g4 c4 M2 hP2 (by
    intro i r' a h1 h2
    match i, h1, h2 with
    | 0, h1, h2 => simp [strRs] at h1 h2; subst h1 h2; exact ⟨⟨rfl, .inl rfl⟩, fun _ => rfl, Nat.zero_le _⟩
    | 1, h1, h2 => simp [strRs] at h1 h2; subst h1 h2; exact ⟨⟨rfl, .inl rfl⟩, fun _ => rfl, Nat.zero_le _⟩
    | i + 2, h1, h2 =>
      have h1' : (P.map fun b => (⟨1, [], 0, 0, 0, 0, b⟩ : OpR))[i]? = some r' := h1
      have h2' : (alP P gl)[i]? = some a := h2
      rw [List.getElem?_map] at h1'
      cases hp : P[i]? with
      | none => rw [hp] at h1'; simp at h1'
      | some p =>
        rw [hp] at h1'
        have hr' : r' = ⟨1, [], 0, 0, 0, 0, p⟩ := by simpa using h1'.symm
        subst hr'
        obtain ⟨g, e1, rfl⟩ := alP_get P gl i p a hp h2'
        have hpl : p.length ≤ data.length := by rw [← hPf]; exact (List.sublist_flatten_of_mem (List.mem_of_getElem? hp)).length_le
        refine ⟨?_, (fun h => by cases h), by dsimp only; omega⟩
        rw [hM2]
        exact Rd.star ⟨by rw [enc_len, Nat.mul_one], .inr ⟨g, 0, rfl, (anP_row P gl i p g hp e1).star.of_take .here⟩⟩)
  refine walk ?_
  refine y_callE rfl rfl him fun j hj => ?_
  obtain ⟨vg, ig, ic, img, cl⟩ := j
  obtain ⟨hj1, hj2⟩ := hj
  dsimp only at hj1 hj2 ⊢
  refine walk ?_
  refine y_callE rfl rfl (deepTree ig ic img strK strK_ok [100] [[103]] (fun z hz => by
    have hz' : z = [100] ∨ z = [103] := by simpa using hz
    rcases hz' with rfl | rfl
    · exact twoDG.hc
    · exact twoDG.he) twoDG.hcn (by decide) (il && decide (data.length ≤ 136)) data (by omega) vg cl hj1 hj2) fun jT hT => ?_
  obtain ⟨⟨AN, cN2⟩, nds, ⟨AI, cI, gO, cO⟩⟩ := jT
  obtain ⟨hT1, hT2⟩ := hT
  dsimp only at hT1 hT2 ⊢
  have hnd := nds_ok strK [100] [[103]] twoDG.hcn (il && decide (data.length ≤ 136)) data nds hT1 hT2
  rw [show ([[103]] : List (List UInt8)).length + 3 = 4 from rfl]
  clear k1 k2 k3 k4
  refine EO.know (A := Own AN cN2 58 18 4 (noVs nds)) take_ (fun _ _ => Own.know) fun hk => ?_
  obtain ⟨k1, k2, k3, k4⟩ := hk
  cases AN with
  | none => have := k3 rfl; omega
  | some ad =>
  obtain ⟨gN, rfl⟩ := k4 ad rfl
  refine walk ?_
  refine y_alloc fun gT => ?_
  refine walk ?_
  obtain ⟨VX, hVX⟩ : ∃ VX, VX = HP.star (vsX (deepW ig ic img strK [[100], [103]] (il && decide (data.length ≤ 136)) data vg cl) AI cI gO cO (nds.map (·.a))) := ⟨_, rfl⟩
  rw [← hVX]
  refine y_build1 (vs := [.string (str [100]), .string (str [103])]) rfl fun gd => ?_
  refine walk ?_
  refine y_callD rfl rfl (Find_fn strK strK_ok [100] [103] (il && decide (data.length ≤ 136)) data nds hnd gN cN2 gd) ?_
  refine walk ?_
  obtain ⟨q, kF, q1, q2, q3⟩ := hnd.fil
  have q1' : nds[3]? = some q := q1
  obtain ⟨f1, f2, f3, f4, f5⟩ := riF_num 33152 (il && decide (data.length ≤ 136)) data kF
  have hqm : q.x.mode = 33152 := by rw [q2]; exact f2
  have hd3 : ftN q.x.mode = 1 := by rw [hqm]; decide
  have hdat : q.x.data = data := by rw [q2]; exact f5
  have hdn : ndAd q = q.a.A ∧ ndLn q = data.length ∧ ndCp q = q.a.c := by
    unfold ndAd ndLn ndCp
    rw [if_pos hd3, if_pos hd3, if_pos hd3, hdat]
    exact ⟨rfl, rfl, rfl⟩
  refine y_loadO (3 * 18 + 0) (v := .int .u16 ((33152 : Nat) : Int)) ?_ ?_
  · have h13 := congrArg (·[0]?) (noVs_get nds 3 q q1')
    simp only [List.getElem?_take, List.getElem?_drop] at h13
    rw [if_pos (by decide)] at h13
    rw [h13, ← hqm]
    rfl
  refine walk ?_
  refine y_loadO (3 * 18 + 13) (v := .slice q.a.A data.length q.a.c) ?_ ?_
  · have h13 := congrArg (·[13]?) (noVs_get nds 3 q q1')
    simp only [List.getElem?_take, List.getElem?_drop] at h13
    rw [if_pos (by decide)] at h13
    rw [h13, ← hdn.1, ← hdn.2.1, ← hdn.2.2]
    rfl
  refine walk ?_
  have hi1 : (deepW ig ic img strK [[100], [103]] (il && decide (data.length ≤ 136)) data vg cl).inos[3]? = some q.x := by
    show (deepRI strK [[100], [103]] (il && decide (data.length ≤ 136)) data)[3]? = some q.x
    rw [← hT1, List.getElem?_map, q1']; rfl
  have hi2 : (nds.map (·.a))[3]? = some q.a := by rw [List.getElem?_map, q1']; rfl
  have hrow := vsX_row (deepW ig ic img strK [[100], [103]] (il && decide (data.length ≤ 136)) data vg cl) AI cI gO cO (nds.map (·.a)) 3 q.x q.a hi1 hi2
  rw [← hVX, hdat] at hrow
  clear k1 k2 k3 k4
  refine EO.know (A := VX) (p := (q.a.A = none → data.length = 0) ∧ ∀ a, q.a.A = some a → ∃ g, a = ⟨g, 0, none⟩) take_ (fun m S hS => by
    rw [hVX] at hS
    obtain ⟨S', h⟩ := vsX_own _ AI cI gO cO (nds.map (·.a)) 3 q.x q.a hi1 hi2 m S hS
    obtain ⟨k1, k2, k3, k4⟩ := Own.know h
    rw [hdat] at k2
    exact ⟨fun h => by have := k3 h; omega, k4⟩) fun hk => ?_
  have hRd : Rd [VX] q.a.A data.length 1 (enc data) := by
    refine ⟨by rw [enc_len, Nat.mul_one], ?_⟩
    cases hA : q.a.A with
    | none => exact .inl (hk.1 hA)
    | some ad =>
      obtain ⟨g, rfl⟩ := hk.2 ad hA
      exact .inr ⟨g, 0, rfl, hrow g hA⟩
  refine x_toStrR (bs := data) rfl (hRd.of_take take_) pt_ ?_
  refine walk ?_
  refine x_toStrR (bs := data) rfl (hD2.of_take take_) pt_ ?_
  refine walk ?_
  rw [beq_self_eq_true data, hM2]
  refine y_tn (Tn.open (L := [HP.star (anP P gl), M])) fun _ _ => ?_
  exact y_ret (M := [M]) [6] rfl ⟨rfl, rfl⟩
end Go.Proofs.YtppkiiomedembaaGreatDoor
namespace Go.Proofs.YtppkiiomedembaaGreatDoor
open Go
open Go.ChangeShapes Go.WideShapes Go.ChangeAt Go.RowKit Go.Deep
set_option maxRecDepth 100000
set_option maxHeartbeats 1000000
attribute [local irreducible] E EO
def OldP (W : World) : HP where
  sat m S := (∀ g, S g ↔ g < W.heap.size) ∧ ∀ g, g < W.heap.size → m g = W.heap[g]?
  loc hs he := ⟨hs.1, fun g hg => by rw [he g ((hs.1 g).2 hg)]; exact hs.2 g hg⟩
  dom {h S g} hs hx := by
    have hg := (hs.1 g).1 hx
    rw [hs.2 g hg, Array.getElem?_eq_getElem hg]; simp
theorem old_cell {W : World} {g o : Nat} {v : Value} (h : W.cell? ⟨g, o, none⟩ = some v) : Cell [OldP W] g o v := fun m S hS => by
  obtain ⟨_, h2⟩ := sats_one' hS
  unfold World.cell? at h
  split at h
  · rename_i c e fr hc
    have hlt := (Array.getElem?_eq_some_iff.1 hc).1
    exact ⟨c, e, fr, by rw [h2 g hlt]; exact hc, by simpa using h⟩
  · cases h
theorem law_below {W : World} {f : FuncId} {args : Array Value} (h : Fd Tryz.prog f args [OldP W] (.bool true) [OldP W]) : Calls Tryz.prog f args W fun e W' => e = .returned (.bool true) ∧ Below W.heap.size W W' := by
  have h0 : sats [OldP W] (hp W) (fun g => g < W.heap.size) := sats_one ⟨fun _ => Iff.rfl, fun _ _ => rfl⟩
  have hc := h W _ h0 W.drawn
  rw [wat_self] at hc
  refine hc.mono fun e W' ⟨v, he, L', ⟨hv, hL⟩, hst⟩ => ?_
  subst hv hL
  obtain ⟨S, hS, _⟩ := hst.sat
  exact ⟨he, hst.os, hst.tape, hst.output, hst.size, fun k hk => (sats_one' hS).2 k hk⟩
theorem str_self (s : ByteArray) : str s.data.toList = s := by
  apply ByteArray.ext; simp [str]
section
variable {H : Type} {enc' : TypeId × Value → H} {W : World}
theorem bytes_arg {v : Value} {d : DataW H} {p : List MemPlace} {b0 : Nat} (hval : Value.okWide Tryz.prog W .any b0 22 v) (h : DataW.Trod enc' Tryz.prog W 0 (fun _ => true) true 22 v d p) :
    ∃ (B : Option Addr) (c : Nat) (l : List UInt8), v = .slice B l.length c ∧ Rd [OldP W] B l.length 1 (enc l) ∧ (B = none → l.length = 0) ∧ l.length ≤ 9223372036854775807 ∧ l.length ≤ c ∧ (c ≠ 0 → ∃ g o, B = some ⟨g, o, none⟩) := by
  obtain ⟨a0, len, cap, rfl⟩ := okWide_slice Tryz.underlying22 hval
  obtain ⟨fuel, hf⟩ := h
  rcases open_ints Tryz.underlying22 Tryz.underlying5 (by kernel_rfl) hf with ⟨hcs, hx⟩ | ⟨a, len', cap', zs, hcs, _, hl, hm, hz, hx, hcell, hwf⟩
  · simp [Value.cells] at hcs
    obtain ⟨rfl, rfl, rfl⟩ := hcs
    exact ⟨none, 0, [], rfl, ⟨rfl, .inl rfl⟩, fun _ => rfl, Nat.zero_le _, Nat.le_refl _, fun h => (h rfl).elim⟩
  · simp [Value.cells] at hcs
    obtain ⟨rfl, rfl, rfl⟩ := hcs
    simp only [if_true] at hz
    obtain ⟨b, off, spot⟩ := a
    have hlen : ((zs.take len).map fun n => UInt8.ofNat n.toNat).length = len := by simp; omega
    have hm2 : cap ≤ 9223372036854775807 := Nat.le_trans hm (by decide)
    refine ⟨some ⟨b, off, spot⟩, cap, (zs.take len).map fun n => UInt8.ofNat n.toNat, by rw [hlen], ⟨by rw [enc_len, Nat.mul_one], ?_⟩, fun h => (by cases h), by rw [hlen]; omega, by rw [hlen]; exact hl, fun hc0 => ?_⟩
    rotate_left
    · have hspot : spot = none := by simpa [Addr.add] using World.cell?_spot (hcell 0 (by omega))
      subst hspot
      exact ⟨b, off, rfl⟩
    by_cases h0 : len = 0
    · exact .inl (by rw [hlen]; exact h0)
    · have hspot : spot = none := by simpa [Addr.add] using World.cell?_spot (hcell 0 (by omega))
      subst hspot
      refine .inr ⟨b, off, rfl, fun j v hj => ?_⟩
      have hjl : j < len := by
        have := (List.getElem?_eq_some_iff.1 hj).1
        rw [enc_len, hlen] at this; exact this
      have hs := hcell j (by omega)
      rw [add_plain] at hs
      have hw := hwf (zs.getD j 0) (by rw [List.getD_eq_getElem?_getD, List.getElem?_eq_getElem (by omega : j < zs.length)]; simp)
      simp only [Lit.wf, Bool.and_eq_true, decide_eq_true_iff] at hw
      have hw1 : 0 ≤ zs.getD j 0 := hw.1
      have hw2 : zs.getD j 0 ≤ 255 := hw.2
      have e : v = .int .u8 (zs.getD j 0) := by
        unfold enc at hj
        rw [List.map_map, List.getElem?_map, List.getElem?_take_of_lt hjl] at hj
        have hg : zs[j]? = some (zs.getD j 0) := by rw [List.getD_eq_getElem?_getD, List.getElem?_eq_getElem (by omega : j < zs.length)]; simp
        rw [hg] at hj
        have hj' : Value.int .u8 ((UInt8.ofNat (zs.getD j 0).toNat).toNat : Int) = v := by simpa using hj
        rw [← hj']
        congr 1
        have : (UInt8.ofNat (zs.getD j 0).toNat).toNat = (zs.getD j 0).toNat := by
          rw [UInt8.toNat_ofNat']; omega
        rw [this]; omega
      rw [e]
      exact old_cell hs
theorem ints_arg {v : Value} {d : DataW H} {p : List MemPlace} {b0 : Nat} (hval : Value.okWide Tryz.prog W .any b0 23 v) (h : DataW.Trod enc' Tryz.prog W 0 (fun _ => true) true 23 v d p) :
    ∃ (B : Option Addr) (c : Nat) (l : List Int), v = .slice B l.length c ∧ Rd [OldP W] B l.length 1 (izV l) ∧ l.length ≤ 9223372036854775807 := by
  obtain ⟨a0, len, cap, rfl⟩ := okWide_slice Tryz.underlying23 hval
  obtain ⟨fuel, hf⟩ := h
  rcases open_ints Tryz.underlying23 Tryz.underlying3 (by kernel_rfl) hf with ⟨hcs, hx⟩ | ⟨a, len', cap', zs, hcs, _, hl, hm, hz, hx, hcell, hwf⟩
  · simp [Value.cells] at hcs
    obtain ⟨rfl, rfl, rfl⟩ := hcs
    exact ⟨none, 0, [], rfl, ⟨rfl, .inl rfl⟩, Nat.zero_le _⟩
  · simp [Value.cells] at hcs
    obtain ⟨rfl, rfl, rfl⟩ := hcs
    simp only [if_true] at hz
    obtain ⟨b, off, spot⟩ := a
    have hlen : (zs.take len).length = len := by simp; omega
    have hm2 : cap ≤ 9223372036854775807 := Nat.le_trans hm (by decide)
    refine ⟨some ⟨b, off, spot⟩, cap, zs.take len, by rw [hlen], ⟨by unfold izV; rw [List.length_map, Nat.mul_one], ?_⟩, by rw [hlen]; omega⟩
    by_cases h0 : len = 0
    · exact .inl (by rw [hlen]; exact h0)
    · have hspot : spot = none := by simpa [Addr.add] using World.cell?_spot (hcell 0 (by omega))
      subst hspot
      refine .inr ⟨b, off, rfl, fun j v hj => ?_⟩
      have hjl : j < len := by
        have := (List.getElem?_eq_some_iff.1 hj).1
        unfold izV at this
        rw [List.length_map, hlen] at this; exact this
      have hs := hcell j (by omega)
      rw [add_plain] at hs
      have e : v = .int .i64 (zs.getD j 0) := by
        unfold izV at hj
        rw [List.getElem?_map, List.getElem?_take_of_lt hjl] at hj
        have hg : zs[j]? = some (zs.getD j 0) := by rw [List.getD_eq_getElem?_getD, List.getElem?_eq_getElem (by omega : j < zs.length)]; simp
        rw [hg] at hj
        simpa using hj.symm
      rw [e]
      exact old_cell hs
end
end Go.Proofs.YtppkiiomedembaaGreatDoor
