/-
  The walks: the marks are checked; The walks: an image is read; The walks: a node's names; The walks: the tree that a volume holds. Conditions: none.
-/
import Derived.Test.YtcdalfhkhifplaaGreatDoorM14
set_option linter.unusedVariables false
set_option linter.unusedSimpArgs false
namespace Go.Proofs.YtcdalfhkhifplaaGreatDoor
open Go
set_option maxRecDepth 100000
set_option maxHeartbeats 4000000
class BoolTy (P : Program) (T : Nat) : Prop where h : P.underlying T = some .bool
instance : BoolTy Tryz.prog 4 := ⟨by kernel_rfl⟩
theorem eqlB {P : Program} {t : Nat} (w : World) (hu : P.underlying t = some .bool) (a b : Bool) : (Op.equal t (.bool a) (.bool b)).run P w = .ok (a == b) w := by
  have key : ∀ d, (Op.equalIn (d + 1) t (.bool a) (.bool b)).run P w = .ok (a == b) w := fun d => by simp [Op.equalIn, run_underlying hu]
  exact key 9999
attribute [local irreducible] E EO
section
variable {X : Fx} {ops : Array Oper} {cf : Nat → Cls} {k : List Item} {i : Nat} {is : List Nat} {l : List Oper} {loc loc' : List Value} {tmp tmp' : List (Nat × Value)} {L L' F M : List HP}
  {d : Option Tmp} {ty : TypeId} {pos : String} {aft : Array Edge} {gd : Option (Nat × Bool)}
theorem x_eqB {T T' : Nat} {x y : Operand} {a b v : Bool} [BoolTy X.P T] (hv : (a == b) = v) (h : EO X ops cf k is l loc' tmp' L) (hx : sv loc tmp x = some (.bool a) := by rfl) (hy : sv loc tmp y = some (.bool b) := by rfl) (hp : Pt loc tmp d (.bool v) loc' tmp' := by exact pt_)
    (hg : gdv ops loc tmp gd = some true := by rfl) (hd : dOK X.n d = true := by rfl) : EO X ops cf k (i :: is) (⟨d, .binOp .eql T x y T', ty, pos, aft, gd⟩ :: l) loc tmp L := by
  subst hv
  exact x_pure hg (fun q hr w => by
    have hu := BoolTy.h (P := X.P) (T := T)
    simp [execOp, hr.ev hx, hr.ev hy, eqGuard, binOp, eqlB w hu]) hp hd h
end
def tabB (P : Nat → Bool) (m : Nat) : List Bool := (List.range m).map P
theorem tabB_len (P : Nat → Bool) (m : Nat) : (tabB P m).length = m := by simp [tabB]
theorem tabB_get (P : Nat → Bool) {m i : Nat} (h : i < m) : (tabB P m)[i]? = some (P i) := by simp [tabB, h]
theorem tabB_set (P Q : Nat → Bool) (m n : Nat) (h : ∀ i, i < m → Q i = (P i || decide (i = n))) : (tabB P m).set n true = tabB Q m := by
  apply List.ext_getElem?
  intro i
  by_cases hi : i < m
  · rw [tabB_get _ hi, List.getElem?_set, h i hi]
    by_cases hn : n = i
    · subst hn; simp [tabB_len, hi]
    · rw [if_neg hn, tabB_get _ hi]; simp [Ne.symm hn]
  · rw [List.getElem?_eq_none (by simp [tabB_len]; omega), List.getElem?_eq_none (by simp [tabB_len]; omega)]
theorem tabB_congr {P Q : Nat → Bool} {m : Nat} (h : ∀ i, i < m → P i = Q i) : tabB P m = tabB Q m := by
  unfold tabB
  exact List.map_congr_left fun i hi => h i (List.mem_range.1 hi)
theorem tabB_rep (m : Nat) : List.replicate m (.bool false) = boolV (tabB (fun _ => false) m) := by
  rw [boolV_rep]
  congr 1
  apply List.ext_getElem?
  intro i
  by_cases hi : i < m
  · rw [tabB_get _ hi, List.getElem?_replicate, if_pos hi]
  · rw [List.getElem?_eq_none (by simp; omega), List.getElem?_eq_none (by simp [tabB_len]; omega)]
theorem bit_fn (g o c i : Nat) (f : Nat → Bool) (M : HP) (hr : CellRow [M] g o (enc (bm f 4096))) (hi : i < 32768) :
    Qn Tryz.prog 82 #[.slice (some ⟨g, o, none⟩) 4096 c, .int .u64 (i : Int)] [M] (.bool (f i)) := by
  have hb := byteOf_lt f (i / 8)
  have hg := byteOf_get f i
  have hb2 : byteOf f (i / 8) / 2 ^ (i % 8) < 256 := Nat.lt_of_le_of_lt (Nat.div_le_self _ _) hb
  refine fn_of_E' (args := [_, _]) 5 _ [_, _, undef, undef, undef] Tryz.func82 rfl Tryz.ntmps82 ?_
  refine walk ?_
  refine y_loadR (a := i / 8) hr (bm_cell f (by omega)) ?_
  refine x_move rfl pt_ ?_
  refine x_bin rfl rfl (bRemN (by omega)) pt_ ?_
  refine x_shrN rfl rfl (by simp only [IntKind.bits]; omega) pt_ ?_
  generalize byteOf f (i / 8) / 2 ^ (i % 8) = z at hb2 hg ⊢
  refine walk ?_
  rw [hg]
  cases hf : f i with
  | true =>
    refine walk ?_
    exact y_ret [4] rfl rfl
  | false =>
    refine walk ?_
    exact y_ret [4] rfl rfl
def usedN (l : List RI) (n : Nat) : Bool := decide (1 ≤ n ∧ n < 11) || decide (n ∈ l.map (·.num))
def dirN (l : List RI) : Nat := l.countP fun x => decide (ftN x.mode = 2)
structure MarkR (v : Vs) (bb it : Nat) (fb fi : Nat → Bool) : Prop where
  hbb : leAt v.img 4096 4 = bb
  hib : leAt v.img 4100 4 = bb + 1
  hit : leAt v.img 4104 4 = it
  hb : bb + 1 < v.nb
  hfit : it * 4096 + v.pi * 256 ≤ v.img.length
  bbm : (v.img.drop (bb * 4096)).take 4096 = bm fb 4096
  ibm : (v.img.drop ((bb + 1) * 4096)).take 4096 = bm fi 4096
  fbk : ∀ i, i < 32768 → fb i = (decide (v.nb ≤ i) || decide (i ∈ v.cl))
  fik : ∀ i, i < v.pi → fi i = usedN v.inos (i + 1)
  free : ∀ m, 1 ≤ m → m ≤ v.pi → usedN v.inos m = false → leAt v.img (it * 4096 + (m - 1) * 256) 2 = 0 ∧ leAt v.img (it * 4096 + (m - 1) * 256 + 26) 2 = 0
  c12 : leAt v.img 4108 2 = cntN (fun i => !fb i) 32768
  c14 : leAt v.img 4110 2 = cntN (fun i => !fi i) v.pi
  c16 : leAt v.img 4112 2 = dirN v.inos
  s84 : leAt v.img 1108 4 = 11
  s12 : leAt v.img 1036 4 = cntN (fun i => !fb i) 32768
  s344 : leAt v.img 1368 4 = 0
  s16 : leAt v.img 1040 4 = cntN (fun i => !fi i) v.pi
  inos : ∀ x ∈ v.inos, 1 ≤ x.num ∧ x.num ≤ v.pi ∧ x.mode < 65536
  ilen : v.inos.length ≤ 100000
theorem checkMarks_fn (v : Vs) (g : Geo v) (cs bb it : Nat) (fb fi : Nat → Bool) (h : MarkR v bb it fb fi) :
    Fd Tryz.prog 41 #[ptrV v.vg, .slice (some ⟨v.ig, 1024, none⟩) 1024 cs] [VP v, ImgP v] (.tuple #[]) [VP v, ImgP v] := by
  have hg := g
  obtain ⟨g1, g2, g3, g4, g5, g6⟩ := g
  have hh := h
  obtain ⟨m1, m2, m3, m4, m5, m6, m7, m8, m9, m10, m11, m12, m13, m14, m15, m16, m17, m18, m19⟩ := hh
  have le := sble_fn v hg cs
  have le84 := le 84 4 (by omega) (by omega)
  rw [show 1024 + 84 = 1108 from rfl, m14] at le84
  have le12 := le 12 4 (by omega) (by omega)
  rw [show 1024 + 12 = 1036 from rfl, m15] at le12
  have le344 := le 344 4 (by omega) (by omega)
  rw [show 1024 + 344 = 1368 from rfl, m16] at le344
  have le16 := le 16 4 (by omega) (by omega)
  rw [show 1024 + 16 = 1040 from rfl, m17] at le16
  obtain ⟨m, hm⟩ : ∃ m, m = v.pi + 1 := ⟨_, rfl⟩
  refine fn_of_E' (args := [_, _]) 23 _ [_, _, undef, undef, undef, undef, undef, undef, undef, undef, undef, undef, undef, undef, undef, undef, undef, undef, undef, undef, undef, undef, undef] Tryz.func41 rfl Tryz.ntmps41 ?_
  refine e_seq ?_
  refine e_cont (ι := Nat × Nat) (fun q => [ptrV v.vg, .slice (some ⟨v.ig, 1024, none⟩) 1024 cs, undef, undef, .slice (some ⟨q.1, 0, none⟩) m m, .slice (some ⟨q.2, 0, none⟩) 1 1, undef, undef, undef, undef, undef, undef, undef, undef, undef, undef, undef, undef, undef, undef, undef, undef, undef])
    (fun _ => []) (fun q => [Own (some ⟨q.1, 0, none⟩) m 4 1 m (List.replicate m (.bool false)), Own (some ⟨q.2, 0, none⟩) 1 61 1 1 (List.replicate 1 (.int .u64 0)), VP v, ImgP v]) (fun _ => True) (fun rest => ?_) ?_
  · refine e_pair ?_
    refine walk ?_
    refine y_loadC (v := .int .u64 1) (VP.cell 4 _ fun _ _ _ _ => rfl) ?_
    refine walk ?_
    refine y_loadC (v := .int .u64 (v.pi : Int)) (VP.cell 6 _ fun _ _ _ _ => rfl) ?_
    refine walk ?_
    rw [show 1 * v.pi + 1 = m by omega]
    refine y_loadC (v := .int .u64 1) (VP.cell 4 _ fun _ _ _ _ => rfl) ?_
    refine walkO ?_
    refine x_two ?_ ?_
    · refine y_make rfl rfl fun q1 => ?_
      refine y_make (n := 1) rfl rfl fun q2 => ?_
      refine walkO ?_
      refine x_end ?_
      exact (rest (q1, q2) trivial).toP rfl (by repeat constructor) sub_
    · refine y_make (n := 1) rfl rfl fun q2 => ?_
      refine y_make rfl rfl fun q1 => ?_
      refine walkO ?_
      refine x_end ?_
      exact (rest (q1, q2) trivial).toP rfl (by repeat constructor) sub_
  · rintro ⟨gU, gD⟩ _
    dsimp only
    rw [tabB_rep, tabB_congr (P := fun _ => false) (Q := fun i => decide (1 ≤ i ∧ i < 1)) (fun i _ => (decide_eq_false (by omega)).symm), show List.replicate 1 (Value.int .u64 0) = natV [0] from rfl]
    refine walk ?_
    refine e_roundsT (ι := Nat) (fun k => 11 - k)
      (fun k => [ptrV v.vg, .slice (some ⟨v.ig, 1024, none⟩) 1024 cs, undef, undef, .slice (some ⟨gU, 0, none⟩) m m, .slice (some ⟨gD, 0, none⟩) 1 1, .int .u64 (k : Nat), undef, undef, undef, undef, undef, undef, undef, undef, undef, undef, undef, undef, undef, undef, undef, undef])
      (fun _ => []) (fun k => [Own (some ⟨gU, 0, none⟩) m 4 1 m (boolV (tabB (fun i => decide (1 ≤ i ∧ i < k)) m)), Own (some ⟨gD, 0, none⟩) 1 61 1 1 (natV [0]), VP v, ImgP v]) (fun k => 1 ≤ k ∧ k ≤ 11) 1 ⟨by omega, by omega⟩ rfl (by repeat constructor) sub_ ?_
    intro k ⟨hk1, hk2⟩ again
    by_cases hk : k < 11
    · refine walk ?_
      refine y_callq rfl rfl le84 ?_
      refine walk ?_
      refine y_storeE (a := k) (vs := boolV (tabB (fun i => decide (1 ≤ i ∧ i < k)) m)) (u := .bool true) (by rw [boolV_len, tabB_len]; omega) ?_
      rw [boolV_set, tabB_set _ (fun i => decide (1 ≤ i ∧ i < k + 1)) m k (fun i _ => by
        rw [← Bool.decide_or]
        exact decide_eq_decide.2 (by omega))]
      refine walk ?_
      exact (again (k + 1) (by omega) ⟨by omega, by omega⟩).toP rfl (by repeat constructor) sub_
    · have hk11 : k = 11 := by omega
      subst hk11
      clear again
      refine walk ?_
      refine y_callq rfl rfl le84 ?_
      refine walk ?_
      refine y_tno5 VP.op fun AI cI gO cO rs hrs => ?_
      dsimp only
      refine walk ?_
      rw [tabB_congr (Q := fun i => usedN (v.inos.take 0) i) (fun i _ => by simp [usedN]), show natV [0] = natV [dirN (v.inos.take 0)] from rfl]
      refine e_roundsT (ι := Nat × Value) (fun z => v.inos.length - z.1)
        (fun z => [ptrV v.vg, .slice (some ⟨v.ig, 1024, none⟩) 1024 cs, undef, undef, .slice (some ⟨gU, 0, none⟩) m m, .slice (some ⟨gD, 0, none⟩) 1 1, .int .u64 (11 : Nat), undef, z.2, undef, undef, undef, undef, undef, undef, undef, undef, undef, undef, undef, undef, undef, undef])
        (fun z => [(60, .int .i64 (z.1 : Nat)), (59, .int .i64 (v.inos.length : Nat)), (58, .slice AI v.inos.length cI)])
        (fun z => [Own (some ⟨gU, 0, none⟩) m 4 1 m (boolV (tabB (fun i => usedN (v.inos.take z.1) i) m)), Own (some ⟨gD, 0, none⟩) 1 61 1 1 (natV [dirN (v.inos.take z.1)]), Cells v.vg 63 (vsC v AI cI gO cO), Own AI cI 66 23 v.inos.length (inC v.inos rs), Own (some ⟨gO, 0, none⟩) cO 5 1 v.nb (enc (ownB v.nb v.cl)), HP.star (inP v.inos rs), ImgP v])
        (fun z => z.1 ≤ v.inos.length) (0, undef) (Nat.zero_le _) rfl (by repeat constructor) sub_ ?_
      rintro ⟨j, w8⟩ hj again
      dsimp only at hj again ⊢
      by_cases hlt : j < v.inos.length
      · obtain ⟨y, hy⟩ : ∃ y, v.inos[j]? = some y := ⟨_, List.getElem?_eq_getElem hlt⟩
        obtain ⟨a, ha⟩ : ∃ a, rs[j]? = some a := ⟨_, List.getElem?_eq_getElem (by omega)⟩
        obtain ⟨hy1, hyn, hym⟩ := m18 y (List.mem_of_getElem? hy)
        have hky := kindOf_fn y.mode hym
        have htk : v.inos.take (j + 1) = v.inos.take j ++ [y] := by rw [List.take_add_one, hy]; rfl
        have hdv : (y.num - 1) / v.pi = 0 := Nat.div_eq_of_lt (by omega)
        have hdl : dirN (v.inos.take j) ≤ 100000 := by
          have h1 := List.countP_le_length (p := fun x : RI => decide (ftN x.mode = 2)) (l := v.inos.take j)
          have h2 : (v.inos.take j).length ≤ v.inos.length := by simp; omega
          unfold dirN; omega
        have hdn : dirN (v.inos.take (j + 1)) = dirN (v.inos.take j) + if ftN y.mode = 2 then 1 else 0 := by
          rw [htk]; unfold dirN; rw [List.countP_append]; simp [List.countP_cons]
        refine E.know (A := Own AI cI 66 23 v.inos.length (inC v.inos rs)) take_ (fun _ _ => Own.know) fun hk => ?_
        obtain ⟨k1, k2, k3, k4⟩ := hk
        cases AI with
        | none => have := k3 rfl; omega
        | some ad =>
        obtain ⟨gA, rfl⟩ := k4 ad rfl
        have ag := fun w => again (j + 1, w) (by dsimp only; omega) (by dsimp only; omega)
        dsimp only at ag
        refine walk ?_
        refine y_loadS (vs := inC v.inos rs) (us := riC y a) (j * 23) (inC_get _ _ j y a hy ha) ?_
        refine walk ?_
        refine y_alloc fun g8 => ?_
        refine walk ?_
        refine y_storeE (a := y.num) (vs := boolV (tabB (fun i => usedN (v.inos.take j) i) m)) (u := .bool true) (by rw [boolV_len, tabB_len]; omega) ?_
        rw [boolV_set, tabB_set _ (fun i => usedN (v.inos.take (j + 1)) i) m y.num (fun i _ => by
          unfold usedN
          rw [htk, Bool.or_assoc]
          congr 1
          rw [← Bool.decide_or]
          exact decide_eq_decide.2 (by simp))]
        refine walk ?_
        refine y_callq rfl rfl hky ?_
        refine walk ?_
        refine e_cond rfl (fun ht => ?_) (fun hf => ?_)
        · have h2 : ftN y.mode = 2 := by have := eq_of_beq ht; omega
          rw [if_pos h2] at hdn
          refine walk ?_
          refine y_loadO 0 (vs := natV [dirN (v.inos.take j)]) (v := .int .u64 (dirN (v.inos.take j) : Nat)) rfl ?_
          refine walk ?_
          rw [hdv]
          refine y_storeE (a := 0) (vs := natV [dirN (v.inos.take j)]) (u := .int .u64 ((dirN (v.inos.take j) + 1 : Nat) : Int)) (by simp [natV]) ?_
          rw [natV_set, show [dirN (v.inos.take j)].set 0 (dirN (v.inos.take j) + 1) = [dirN (v.inos.take (j + 1))] from by rw [hdn]; rfl]
          refine walk ?_
          exact (ag (ptrV g8)).toP (ks := [60, 59, 58]) rfl (by repeat constructor) sub_
        · have h2 : ftN y.mode ≠ 2 := by
            intro h2
            rw [h2] at hf
            exact absurd hf (by decide)
          rw [if_neg h2] at hdn
          rw [show natV [dirN (v.inos.take j)] = natV [dirN (v.inos.take (j + 1))] from by rw [hdn]; rfl]
          refine walk ?_
          exact (ag (ptrV g8)).toP (ks := [60, 59, 58]) rfl (by repeat constructor) sub_
      · have hjl : j = v.inos.length := by omega
        subst hjl
        clear again
        rw [List.take_length]
        refine y_tn (VP.cl_ v hrs) fun _ _ => ?_
        refine walk ?_
        refine y_loop ?_
        refine walk ?_
        refine y_loadC (v := .int .u64 1) (VP.cell 4 _ fun _ _ _ _ => rfl) ?_
        refine walk ?_
        have hbb := bbm_fn v hg
        rw [m1] at hbb
        have hib := ibm_fn v hg
        rw [m2] at hib
        refine y_callq rfl rfl hbb ?_
        refine walk ?_
        refine y_callq rfl rfl (rblock_fn v hg bb (by omega)) ?_
        refine walk ?_
        refine y_callq rfl rfl hib ?_
        refine walk ?_
        refine y_callq rfl rfl (rblock_fn v hg (bb + 1) (by omega)) ?_
        refine walk ?_
        have rb := ImgP.row v (bb * 4096) 4096
        rw [m6] at rb
        have ri := ImgP.row v ((bb + 1) * 4096) 4096
        rw [m7] at ri
        refine e_roundsT (ι := Nat × Value × Value × Value) (fun z => 32768 - z.1)
          (fun z => [ptrV v.vg, .slice (some ⟨v.ig, 1024, none⟩) 1024 cs, undef, undef, .slice (some ⟨gU, 0, none⟩) m m, .slice (some ⟨gD, 0, none⟩) 1 1, .int .u64 (11 : Nat), undef, w8, .int .u64 0, .int .u64 0, .int .u64 0, .slice (some ⟨v.ig, bb * 4096, none⟩) 4096 (v.ic - bb * 4096), .slice (some ⟨v.ig, (bb + 1) * 4096, none⟩) 4096 (v.ic - (bb + 1) * 4096), .int .u64 (cntN (fun i => !fb i) z.1 : Nat), .int .u64 (cntN (fun i => !fi i) (min z.1 v.pi) : Nat), .int .u64 (z.1 : Nat), z.2.1, z.2.2.1, z.2.2.2, undef, undef, undef])
          (fun z => [])
          (fun z => [VP v, Own (some ⟨gU, 0, none⟩) m 4 1 m (boolV (tabB (fun i => usedN v.inos i) m)), Own (some ⟨gD, 0, none⟩) 1 61 1 1 (natV [dirN v.inos]), ImgP v])
          (fun z => z.1 ≤ 32768) (0, undef, undef, undef) (Nat.zero_le _) ?_ (by repeat constructor) sub_ ?_
        · rw [Nat.zero_min]; rfl
        rintro ⟨i, w17, w18, w19⟩ hi again
        dsimp only at hi again ⊢
        have hc1 := cntN_le (fun i => !fb i) i
        have hc2 := cntN_le (fun i => !fi i) (min i v.pi)
        have hc3 : min i v.pi ≤ i := Nat.min_le_left _ _
        by_cases hlt : i < 32768
        · refine walk ?_
          refine y_loadC (v := .int .u64 32768) (VP.cell 5 _ fun _ _ _ _ => rfl) ?_
          refine walkO ?_
          refine x_end ?_
          rw [show 0 * 32768 + i = i by omega]
          refine e_seq ?_
          have hfk := m8 i hlt
          refine e_cont (ι := Unit) (fun _ => [ptrV v.vg, .slice (some ⟨v.ig, 1024, none⟩) 1024 cs, undef, undef, .slice (some ⟨gU, 0, none⟩) m m, .slice (some ⟨gD, 0, none⟩) 1 1, .int .u64 (11 : Nat), undef, w8, .int .u64 0, .int .u64 0, .int .u64 0, .slice (some ⟨v.ig, bb * 4096, none⟩) 4096 (v.ic - bb * 4096), .slice (some ⟨v.ig, (bb + 1) * 4096, none⟩) 4096 (v.ic - (bb + 1) * 4096), .int .u64 (cntN (fun i => !fb i) i : Nat), .int .u64 (cntN (fun i => !fi i) (min i v.pi) : Nat), .int .u64 (i : Nat), .int .u64 (i : Nat), .bool (fb i), w19, undef, undef, undef]) (fun _ => []) (fun _ => [VP v, Own (some ⟨gU, 0, none⟩) m 4 1 m (boolV (tabB (fun i => usedN v.inos i) m)), Own (some ⟨gD, 0, none⟩) 1 61 1 1 (natV [dirN v.inos]), ImgP v]) (fun _ => True) (fun rest => ?_) ?_
          · have r := rest () trivial
            clear rest
            refine walk ?_
            refine y_loadC (v := .int .u64 32768) (VP.cell 5 _ fun _ _ _ _ => rfl) ?_
            refine walk ?_
            refine y_loadC (v := .int .u64 (v.nb : Int)) (VP.cell 1 _ fun _ _ _ _ => rfl) ?_
            by_cases hnb : v.nb ≤ i
            · rw [show fb i = true from by rw [hfk]; simp [hnb]] at r
              refine walkO ?_
              refine x_end ?_
              exact r.toP rfl (by repeat constructor) sub_
            · refine walk ?_
              refine y_tno5 VP.op fun AI cI gO cO rs hrs => ?_
              dsimp only
              refine walk ?_
              refine y_loadO i (enc_get (ownB_get (nb := v.nb) v.cl (by omega))) ?_
              by_cases hcl : i ∈ v.cl
              · rw [show fb i = true from by rw [hfk]; simp [hcl]] at r
                rw [if_pos hcl]
                refine walkO ?_
                refine x_end ?_
                refine y_tn (VP.cl_ v hrs) fun _ _ => ?_
                exact r.toP rfl (by repeat constructor) sub_
              · rw [show fb i = false from by rw [hfk]; simp [hcl, hnb]] at r
                rw [if_neg hcl]
                refine walkO ?_
                refine x_end ?_
                refine y_tn (VP.cl_ v hrs) fun _ _ => ?_
                exact r.toP rfl (by repeat constructor) sub_
          · rintro _ _
            refine walk ?_
            refine y_loadC (v := .int .u64 32768) (VP.cell 5 _ fun _ _ _ _ => rfl) ?_
            refine walk ?_
            refine y_callq rfl rfl (bit_fn v.ig (bb * 4096) (v.ic - bb * 4096) i fb (ImgP v) rb hlt) ?_
            refine walk ?_
            refine x_eqB (a := fb i) (b := fb i) (v := true) (by simp) ?_
            refine walk ?_
            refine y_callq rfl rfl (must_fn (ptrV v.vg) _ i) ?_
            refine walk ?_
            refine e_cont (ι := Unit) (fun _ => [ptrV v.vg, .slice (some ⟨v.ig, 1024, none⟩) 1024 cs, undef, undef, .slice (some ⟨gU, 0, none⟩) m m, .slice (some ⟨gD, 0, none⟩) 1 1, .int .u64 (11 : Nat), undef, w8, .int .u64 0, .int .u64 0, .int .u64 0, .slice (some ⟨v.ig, bb * 4096, none⟩) 4096 (v.ic - bb * 4096), .slice (some ⟨v.ig, (bb + 1) * 4096, none⟩) 4096 (v.ic - (bb + 1) * 4096), .int .u64 (cntN (fun i => !fb i) (i + 1) : Nat), .int .u64 (cntN (fun i => !fi i) (min i v.pi) : Nat), .int .u64 (i : Nat), .int .u64 (i : Nat), .bool (fb i), w19, undef, undef, undef]) (fun _ => []) (fun _ => [VP v, Own (some ⟨gU, 0, none⟩) m 4 1 m (boolV (tabB (fun i => usedN v.inos i) m)), Own (some ⟨gD, 0, none⟩) 1 61 1 1 (natV [dirN v.inos]), ImgP v]) (fun _ => True) (fun rest => ?_) ?_
            · have r := rest () trivial
              clear rest
              cases hfb : fb i with
              | true =>
                rw [hfb, show cntN (fun i => !fb i) (i + 1) = cntN (fun i => !fb i) i from by simp [cntN, hfb, b2n]] at r
                refine e_false rfl ?_
                refine e_skip ?_
                exact r.toP rfl (by repeat constructor) sub_
              | false =>
                rw [hfb, show cntN (fun i => !fb i) (i + 1) = cntN (fun i => !fb i) i + 1 from by simp [cntN, hfb, b2n]] at r
                refine e_true rfl ?_
                refine e_region ?_
                refine walkO ?_
                refine x_end ?_
                exact r.toP rfl (by repeat constructor) sub_
            · rintro _ _
              have hc1 := cntN_le (fun i => !fb i) (i + 1)
              refine walk ?_
              refine y_loadC (v := .int .u64 (v.pi : Int)) (VP.cell 6 _ fun _ _ _ _ => rfl) ?_
              refine walk ?_
              refine y_loadC (v := .int .u64 (v.pi : Int)) (VP.cell 6 _ fun _ _ _ _ => rfl) ?_
              rw [show 0 * v.pi + i + 1 = i + 1 by omega]
              have ag := fun w => again (i + 1, .int .u64 (i : Nat), .bool (fb i), w) (by dsimp only; omega) (by dsimp only; omega)
              dsimp only at ag
              by_cases hip : i < v.pi
              · rw [Nat.min_eq_left (by omega : i + 1 ≤ v.pi)] at ag
                rw [Nat.min_eq_left (by omega : i ≤ v.pi)]
                have hfik := m9 i hip
                have hc6 := cntN_le (fun i => !fi i) i
                refine walk ?_
                refine y_callq rfl rfl (bit_fn v.ig ((bb + 1) * 4096) (v.ic - (bb + 1) * 4096) i fi (ImgP v) ri hlt) ?_
                refine walk ?_
                refine y_loadO (i + 1) (boolV_get (tabB_get (m := m) _ (by omega))) ?_
                refine walk ?_
                refine x_eqB (a := fi i) (b := usedN v.inos (i + 1)) (v := true) (by rw [hfik]; simp) ?_
                refine walk ?_
                refine y_callq rfl rfl (must_fn (ptrV v.vg) _ (i + 1)) ?_
                refine walk ?_
                refine y_loadO (i + 1) (boolV_get (tabB_get (m := m) _ (by omega))) ?_
                rw [← hfik]
                cases hfi : fi i with
                | true =>
                  rw [show cntN (fun i => !fi i) (i + 1) = cntN (fun i => !fi i) i from by simp [cntN, hfi, b2n]] at ag
                  refine walk ?_
                  exact (ag _).toP rfl (by repeat constructor) sub_
                | false =>
                  rw [show cntN (fun i => !fi i) (i + 1) = cntN (fun i => !fi i) i + 1 from by simp [cntN, hfi, b2n]] at ag
                  obtain ⟨fr1, fr2⟩ := m10 (i + 1) (by omega) (by omega) (by first | exact hfik.symm | exact hfik.symm.trans hfi | omega)
                  have hraw := raw_fn v hg it (i + 1) (by omega) (by omega) m3 (by omega)
                  have hle := fun at_ n (h : at_ + n ≤ 256) (hn : n ≤ 8) => le_fn v.ig (it * 4096 + (i + 1 - 1) * 256) 256 (v.ic - (it * 4096 + (i + 1 - 1) * 256)) at_ n ((v.img.drop (it * 4096 + (i + 1 - 1) * 256)).take 256) (ImgP v) (ImgP.row v _ 256) (by simp; omega) hn (by omega) (by omega)
                  have hle0 := hle 0 2 (by omega) (by omega)
                  rw [leAt_take _ (by omega), leAt_drop, show it * 4096 + (i + 1 - 1) * 256 + 0 = it * 4096 + (i + 1 - 1) * 256 from rfl, fr1] at hle0
                  have hle26 := hle 26 2 (by omega) (by omega)
                  rw [leAt_take _ (by omega), leAt_drop, fr2] at hle26
                  refine walk ?_
                  refine y_callq rfl rfl hraw ?_
                  refine walk ?_
                  refine y_callq rfl rfl hle0 ?_
                  refine walk ?_
                  refine y_callq rfl rfl hraw ?_
                  refine walk ?_
                  refine y_callq rfl rfl hle26 ?_
                  refine walk ?_
                  refine y_callq rfl rfl (must_fn (ptrV v.vg) _ (i + 1)) ?_
                  refine walk ?_
                  exact (ag _).toP rfl (by repeat constructor) sub_
              · rw [Nat.min_eq_right (by omega : v.pi ≤ i + 1)] at ag
                rw [Nat.min_eq_right (by omega : v.pi ≤ i)]
                refine walk ?_
                exact (ag _).toP rfl (by repeat constructor) sub_
        · have hi2 : i = 32768 := by omega
          subst hi2
          rw [Nat.min_eq_right (by omega : v.pi ≤ 32768)]
          clear again
          have p12 := part_fn v hg 12 2 44 (by omega) (by omega)
          rw [show 4096 + 12 = 4108 from rfl, m11] at p12
          have p14 := part_fn v hg 14 2 46 (by omega) (by omega)
          rw [show 4096 + 14 = 4110 from rfl, m12] at p14
          have p16 := part_fn v hg 16 2 48 (by omega) (by omega)
          rw [show 4096 + 16 = 4112 from rfl, m13] at p16
          have hc4 := cntN_le (fun i => !fb i) 32768
          have hc5 := cntN_le (fun i => !fi i) v.pi
          have hdl : dirN v.inos ≤ 100000 := Nat.le_trans (List.countP_le_length (p := fun x : RI => decide (ftN x.mode = 2)) (l := v.inos)) m19
          refine walk ?_
          refine y_callq rfl rfl p12 ?_
          refine walk ?_
          refine y_callq rfl rfl (must_fn (ptrV v.vg) _ 0) ?_
          refine walk ?_
          refine y_callq rfl rfl p14 ?_
          refine walk ?_
          refine y_callq rfl rfl (must_fn (ptrV v.vg) _ 0) ?_
          refine walk ?_
          refine y_callq rfl rfl p16 ?_
          refine walk ?_
          refine y_loadO 0 (vs := natV [dirN v.inos]) (v := .int .u64 (dirN v.inos : Nat)) rfl ?_
          refine walk ?_
          refine y_callq rfl rfl (must_fn (ptrV v.vg) _ 0) ?_
          refine walk ?_
          refine y_again ?_
          refine walk ?_
          refine y_loadC (v := .int .u64 1) (VP.cell 4 _ fun _ _ _ _ => rfl) ?_
          refine walk ?_
          refine y_callq rfl rfl le12 ?_
          refine walk ?_
          rw [Nat.zero_add, Nat.zero_add]
          generalize cntN (fun i => !fb i) 32768 = c32 at hc4 ⊢
          generalize cntN (fun i => !fi i) v.pi = cpi at hc5 le16 ⊢
          refine y_callq rfl rfl le344 ?_
          refine walk ?_
          rw [show c32 ||| 0 * 2 ^ 32 = c32 from by simp]
          rw [show ((c32 : Int) == (c32 : Int)) = true from by simp]
          refine y_callq rfl rfl (must_fn (ptrV v.vg) _ c32) ?_
          rw [Nat.zero_add]
          refine walk ?_
          refine y_callq rfl rfl le16 ?_
          refine walk ?_
          refine y_callq rfl rfl (must_fn (ptrV v.vg) _ cpi) ?_
          refine walk ?_
          refine y_loop ?_
          refine walk ?_
          refine y_loadC (v := .int .u64 1) (VP.cell 4 _ fun _ _ _ _ => rfl) ?_
          refine walk ?_
          refine y_loadC (v := .int .u64 32768) (VP.cell 5 _ fun _ _ _ _ => rfl) ?_
          refine walk ?_
          refine y_again ?_
          refine walk ?_
          refine y_loadC (v := .int .u64 1) (VP.cell 4 _ fun _ _ _ _ => rfl) ?_
          refine walk ?_
          exact y_end [] rfl ⟨rfl, rfl⟩
end Go.Proofs.YtcdalfhkhifplaaGreatDoor
namespace Go.Proofs.YtcdalfhkhifplaaGreatDoor
open Go
set_option maxRecDepth 100000
set_option maxHeartbeats 400000
attribute [local irreducible] E EO
structure SbR (img : List UInt8) (nb pi inc : Nat) : Prop where
  f0 : leAt img 1024 4 = pi
  f4 : leAt img 1028 4 = nb
  f20 : leAt img 1044 4 = 0
  f24 : leAt img 1048 4 = 2
  f32 : leAt img 1056 4 = 32768
  f40 : leAt img 1064 4 = pi
  f56 : leAt img 1080 2 = 61267
  f58 : leAt img 1082 2 = 1
  f76 : leAt img 1100 4 = 1
  f84 : leAt img 1108 4 = 11
  f88 : leAt img 1112 2 = 256
  f92 : leAt img 1116 4 = 520
  f96 : leAt img 1120 4 = inc
  f100 : leAt img 1124 4 = 4170
  f336 : leAt img 1360 4 = 0
  hinc : inc = 578 ∨ inc = 33346
theorem Read_fn (s0 : Vs) (g : Geo s0) (inc : Nat) (h : SbR s0.img s0.nb s0.pi inc) (it bb : Nat) (hb : leAt s0.img 4096 4 = bb) (hi : leAt s0.img 4100 4 = bb + 1) (ht : leAt s0.img 4104 4 = it) (h1 : 2 ≤ it) (h2 : it + (s0.pi * 256 + 4095) / 4096 ≤ bb) (h3 : bb + 1 < s0.nb)
    (cl' : List Nat) (inos' : List RI) (htree : ∀ vg, Fd Tryz.prog 40 #[ptrV vg, .int .u64 11] [VP { s0 with vg := vg, cl := gcl it ((s0.pi * 256 + 4095) / 4096) bb, inos := [] }, ImgP s0] (.tuple #[]) [VP { s0 with vg := vg, cl := cl', inos := inos' }, ImgP s0])
    (fb fi : Nat → Bool) (hmark : MarkR { s0 with cl := cl', inos := inos' } bb it fb fi) :
    Fe Tryz.prog 16 #[.slice (some ⟨s0.ig, 0, none⟩) s0.img.length s0.ic] [ImgP s0] (fun _ : Nat => True) (fun vg => ptrV vg) (fun vg => [VP { s0 with vg := vg, cl := cl', inos := inos' }, ImgP s0]) := by
  have hg := g
  obtain ⟨g1, g2, g3, g4, g5, g6⟩ := g
  obtain ⟨q0, q4, q20, q24, q32, q40, q56, q58, q76, q84, q88, q92, q96, q100, q336, qinc⟩ := h
  have le := sble_fn s0 hg (s0.ic - 1024)
  have l0 := le 0 4 (by omega) (by omega); rw [show 1024 + 0 = 1024 from rfl, q0] at l0
  have l4 := le 4 4 (by omega) (by omega); rw [show 1024 + 4 = 1028 from rfl, q4] at l4
  have l20 := le 20 4 (by omega) (by omega); rw [show 1024 + 20 = 1044 from rfl, q20] at l20
  have l24 := le 24 4 (by omega) (by omega); rw [show 1024 + 24 = 1048 from rfl, q24] at l24
  have l32 := le 32 4 (by omega) (by omega); rw [show 1024 + 32 = 1056 from rfl, q32] at l32
  have l40 := le 40 4 (by omega) (by omega); rw [show 1024 + 40 = 1064 from rfl, q40] at l40
  have l56 := le 56 2 (by omega) (by omega); rw [show 1024 + 56 = 1080 from rfl, q56] at l56
  have l58 := le 58 2 (by omega) (by omega); rw [show 1024 + 58 = 1082 from rfl, q58] at l58
  have l76 := le 76 4 (by omega) (by omega); rw [show 1024 + 76 = 1100 from rfl, q76] at l76
  have l84 := le 84 4 (by omega) (by omega); rw [show 1024 + 84 = 1108 from rfl, q84] at l84
  have l88 := le 88 2 (by omega) (by omega); rw [show 1024 + 88 = 1112 from rfl, q88] at l88
  have l96 := le 96 4 (by omega) (by omega); rw [show 1024 + 96 = 1120 from rfl, q96] at l96
  have l100 := le 100 4 (by omega) (by omega); rw [show 1024 + 100 = 1124 from rfl, q100] at l100
  have l336 := le 336 4 (by omega) (by omega); rw [show 1024 + 336 = 1360 from rfl, q336] at l336
  have hlen : 8192 ≤ s0.img.length := by omega
  refine fn_of_E' (args := [_]) 7 _ [_, undef, undef, undef, undef, undef, undef] Tryz.func16 rfl Tryz.ntmps16 ?_
  refine walk ?_
  refine y_boxA rfl fun vg => ?_
  refine walk ?_
  refine y_build0 fun gz => ?_
  refine walk ?_
  refine y_callq rfl rfl l56 ?_
  refine walk ?_
  refine y_callq rfl rfl l56 ?_
  refine walk ?_
  refine y_callq rfl rfl (must_fn (ptrV vg) _ 61267) ?_
  refine walk ?_
  refine y_callq rfl rfl l4 ?_
  refine walk ?_
  refine y_callq rfl rfl l336 ?_
  refine walk ?_
  rw [show s0.nb ||| 0 * 2 ^ 32 = s0.nb from by simp]
  refine y_callq rfl rfl l32 ?_
  refine walk ?_
  refine y_callq rfl rfl l40 ?_
  refine walk ?_
  refine y_callq rfl rfl l88 ?_
  refine walk ?_
  refine y_callq rfl rfl l96 ?_
  refine walk ?_
  refine y_callq rfl rfl l100 ?_
  refine walk ?_
  refine e_cont (ι := Unit) (fun _ => [.slice (some ⟨s0.ig, 0, none⟩) s0.img.length s0.ic, undef, .pointer none, ptrV vg, .slice (some ⟨s0.ig, 1024, none⟩) 1024 (s0.ic - 1024), .int .u64 (inc : Int), .int .u64 (4170 : Nat)]) (fun _ => []) (fun _ => [Cells vg 63 [.slice none 0 0, .int .u64 (s0.nb : Int), .slice none 0 0, .slice (some ⟨s0.ig, 0, none⟩) s0.img.length s0.ic, .int .u64 0, .int .u64 (32768 : Nat), .int .u64 (s0.pi : Int), .int .u64 (256 : Nat), .int .u64 32, .slice none 0 0, .bool false], ImgP s0]) (fun _ => True) (fun rest => ?_) ?_
  · have hw : (((inc &&& 128 : Nat) : Int) != 0) = false := by rcases qinc with rfl | rfl <;> rfl
    rw [hw]
    refine e_false rfl ?_
    refine e_skip ?_
    exact (rest () trivial).toP rfl (by repeat constructor) sub_
  · clear le
    rintro _ _
    refine walk ?_
    refine y_callq rfl rfl l76 ?_
    refine walk ?_
    refine y_callq rfl rfl l76 ?_
    refine walk ?_
    refine y_callq rfl rfl (must_fn (ptrV vg) _ 1) ?_
    refine walk ?_
    refine y_callq rfl rfl l24 ?_
    refine walk ?_
    refine y_callq rfl rfl l24 ?_
    refine walk ?_
    refine y_callq rfl rfl (must_fn (ptrV vg) _ 2) ?_
    refine walk ?_
    refine y_callq rfl rfl l20 ?_
    refine walk ?_
    refine y_callq rfl rfl l20 ?_
    refine walkO ?_
    refine y_callq rfl rfl (must_fn (ptrV vg) _ 0) ?_
    refine x_end ?_
    refine e_seq ?_
    refine e_cont (ι := Unit) (fun _ => [.slice (some ⟨s0.ig, 0, none⟩) s0.img.length s0.ic, undef, .pointer none, ptrV vg, .slice (some ⟨s0.ig, 1024, none⟩) 1024 (s0.ic - 1024), .int .u64 (inc : Int), .int .u64 (4170 : Nat)]) (fun _ => []) (fun _ => [Cells vg 63 [.slice none 0 0, .int .u64 (s0.nb : Int), .slice none 0 0, .slice (some ⟨s0.ig, 0, none⟩) s0.img.length s0.ic, .int .u64 0, .int .u64 (32768 : Nat), .int .u64 (s0.pi : Int), .int .u64 (256 : Nat), .int .u64 32, .slice none 0 0, .bool false], ImgP s0]) (fun _ => True) (fun rest => ?_) ?_
    · rcases qinc with rfl | rfl
      · refine e_region ?_
        refine walkO ?_
        refine y_callq rfl rfl (must_fn (ptrV vg) _ _) ?_
        refine x_end ?_
        exact (rest () trivial).toP rfl (by repeat constructor) sub_
      · refine e_region ?_
        refine walkO ?_
        refine y_callq rfl rfl (must_fn (ptrV vg) _ _) ?_
        refine x_end ?_
        exact (rest () trivial).toP rfl (by repeat constructor) sub_
    · rintro _ _
      refine walk ?_
      refine y_callq rfl rfl (must_fn (ptrV vg) _ 4170) ?_
      refine walk ?_
      refine y_callq rfl rfl (must_fn (ptrV vg) _ 32768) ?_
      refine walk ?_
      refine y_callq rfl rfl (must_fn (ptrV vg) _ s0.pi) ?_
      refine walk ?_
      refine y_callq rfl rfl (must_fn (ptrV vg) _ 256) ?_
      refine walk ?_
      refine y_callq rfl rfl (must_fn (ptrV vg) _ 32) ?_
      refine walk ?_
      refine y_callq rfl rfl (must_fn (ptrV vg) _ s0.nb) ?_
      refine walkO ?_
      refine x_end ?_
      refine e_seq ?_
      refine e_seq ?_
      refine e_region ?_
      refine walkO ?_
      refine x_end ?_
      refine e_false rfl ?_
      refine e_skip ?_
      refine e_seq ?_
      refine e_draw ?_
      refine x_move rfl pt_ ?_
      refine x_move rfl pt_ ?_
      refine x_nilCheck rfl pt_ ?_
      refine x_fieldAddr rfl pt_ ?_
      refine x_load rfl (by first | ((repeat (first | ((with_reducible apply Cell.here); exact rfl) | (with_reducible apply Cell.there))) <;> fail) | fail) pt_ ?_
      refine x_move rfl pt_ ?_
      refine x_nilCheck rfl pt_ ?_
      refine x_fieldAddr rfl pt_ ?_
      refine x_load rfl (by first | ((repeat (first | ((with_reducible apply Cell.here); exact rfl) | (with_reducible apply Cell.there))) <;> fail) | fail) pt_ ?_
      refine x_bin rfl rfl (bAddN (wu64 (by omega) (by omega))) pt_ ?_
      refine x_bin rfl rfl (bSubN (by omega) (wu64 (by omega) (by omega))) pt_ ?_
      refine x_move rfl pt_ ?_
      refine x_nilCheck rfl pt_ ?_
      refine x_fieldAddr rfl pt_ ?_
      refine x_load rfl (by first | ((repeat (first | ((with_reducible apply Cell.here); exact rfl) | (with_reducible apply Cell.there))) <;> fail) | fail) pt_ ?_
      refine x_bin rfl rfl (bQuoN (by omega) (wu64 (by omega) (by omega))) pt_ ?_
      rw [show (s0.nb + 32768 - 1) / 32768 = 1 by omega]
      refine walk ?_
      refine y_callq rfl rfl l0 ?_
      refine walk ?_
      refine y_callq rfl rfl l0 ?_
      refine walk ?_
      refine y_callq rfl rfl (must_fn (ptrV vg) _ s0.pi) ?_
      refine walk ?_
      refine y_callq rfl rfl l58 ?_
      refine walk ?_
      refine y_callq rfl rfl l58 ?_
      refine walk ?_
      refine y_callq rfl rfl (must_fn (ptrV vg) _ 1) ?_
      refine walk ?_
      refine y_make rfl rfl fun gO => ?_
      refine walkO ?_
      refine x_end ?_
      refine E.nilOwn (e := 66) (sz := 23) ?_
      refine y_tn (Tn.close (L := [])) fun _ _ => ?_
      rw [show List.replicate s0.nb (Value.int .u8 0) = enc (ownB s0.nb []) from by
        rw [← enc_zeros]
        congr 1
        apply List.ext_getElem?
        intro i
        by_cases hi : i < s0.nb
        · rw [ownB_get _ hi, List.getElem?_replicate, if_pos hi]; simp
        · rw [List.getElem?_eq_none (by simp; omega), List.getElem?_eq_none (by simp [ownB_len]; omega)]]
      have hT : Tn [Cells vg 63 [.slice none 0 0, .int .u64 (s0.nb : Int), .slice none 0 0, .slice (some ⟨s0.ig, 0, none⟩) s0.img.length s0.ic, .int .u64 ((1 : Nat) : Int), .int .u64 ((32768 : Nat) : Int), .int .u64 (s0.pi : Int), .int .u64 ((256 : Nat) : Int), .int .u64 32, .slice (some ⟨gO, 0, none⟩) s0.nb s0.nb, .bool false], Own none 0 66 23 0 [], Own (some ⟨gO, 0, none⟩) s0.nb 5 1 s0.nb (enc (ownB s0.nb [])), HP.star []] (fun _ : Unit => True) (fun _ => [VP { s0 with vg := vg, cl := [], inos := [] }]) :=
        VP.cl_ { s0 with vg := vg, cl := [], inos := [] } (AI := none) (cI := 0) (gO := gO) (cO := s0.nb) (rs := []) rfl
      refine y_tn hT fun _ _ => ?_
      have hrg := readGroups_fn { s0 with vg := vg, cl := [], inos := [] } ⟨g1, g2, g3, g4, g5, g6⟩ (s0.ic - 1024) it bb rfl q92 hb hi ht h1 h2 h3
      refine walk ?_
      refine y_callD rfl rfl hrg ?_
      refine walk ?_
      refine y_callq rfl rfl l84 ?_
      refine walk ?_
      refine y_callD rfl rfl (htree vg) ?_
      refine walk ?_
      have hcm := checkMarks_fn { s0 with vg := vg, cl := cl', inos := inos' } ⟨g1, g2, g3, g4, g5, g6⟩ (s0.ic - 1024) bb it fb fi ⟨hmark.1, hmark.2, hmark.3, hmark.4, hmark.5, hmark.6, hmark.7, hmark.8, hmark.9, hmark.10, hmark.11, hmark.12, hmark.13, hmark.14, hmark.15, hmark.16, hmark.17, hmark.18, hmark.19⟩
      refine y_callD rfl rfl hcm ?_
      refine walk ?_
      exact y_ret [2] rfl ⟨vg, trivial, rfl, rfl⟩
end Go.Proofs.YtcdalfhkhifplaaGreatDoor
namespace Go.Proofs.YtcdalfhkhifplaaGreatDoor
open Go
set_option maxRecDepth 100000
set_option maxHeartbeats 4000000
attribute [local irreducible] E EO
section
variable {X : Fx} {ops : Array Oper} {cf : Nat → Cls} {k : List Item} {i : Nat} {is : List Nat} {l : List Oper} {loc loc' : List Value} {tmp tmp' : List (Nat × Value)} {L L' F M : List HP}
  {d : Option Tmp} {ty : TypeId} {pos : String} {aft : Array Edge} {gd : Option (Nat × Bool)}
theorem x_sLt {T T' : Nat} {x y : Operand} {s t : List UInt8} {v : Bool} (hv : Op.bytesLess s t = v) (h : EO X ops cf k is l loc' tmp' L) (hx : sv loc tmp x = some (.string (str s)) := by rfl) (hy : sv loc tmp y = some (.string (str t)) := by rfl)
    (hp : Pt loc tmp d (.bool v) loc' tmp' := by exact pt_)
    (hg : gdv ops loc tmp gd = some true := by rfl) (hd : dOK X.n d = true := by rfl) : EO X ops cf k (i :: is) (⟨d, .binOp .lss T x y T', ty, pos, aft, gd⟩ :: l) loc tmp L :=
  x_str (op := .lss) (v := v) hx hy (by simp only [str_toList, hv]) hp h hg hd
end
section
variable {X : Fx} {ops : Array Oper} {cf : Nat → Cls} {k : List Item} {i : Nat} {is : List Nat} {l : List Oper} {loc loc' : List Value} {tmp tmp' : List (Nat × Value)} {L L' F M : List HP}
  {d : Option Tmp} {ty : TypeId} {pos : String} {aft : Array Edge} {gd : Option (Nat × Bool)} {locq : Option Addr → Nat → List Value} {tmpq : Option Addr → Nat → List (Nat × Value)}
theorem y_appN {t e b m c' g : Nat} {z : Value} {x y : Operand} {B : Option Addr} {news : List Value} [SlE X.P t e 1 b [z]] (hx : sv loc tmp x = some (.slice (some ⟨g, 0, none⟩) 0 0)) (hy : sv loc tmp y = some (.slice B m c'))
    (hr : Rd F B m 1 news) (hB : B = none → m = 0) (h1 : ∀ u ∈ news, u.oneCell' = true) (h : ∀ A2 c2, EO X ops cf k is l (locq A2 c2) (tmpq A2 c2) (Own A2 c2 e 1 m news :: F))
    (ht : Take (Own (some ⟨g, 0, none⟩) 0 e 1 0 []) L F := by exact take_) (h63 : m ≤ 1000000000 := by omega) (hby : m * b ≤ 140737488355328 := by omega)
    (hp : ∀ A2 c2, Pt loc tmp d (.slice A2 m c2) (locq A2 c2) (tmpq A2 c2) := by intro _ _; first | exact Pt.tmp rfl | exact Pt.none | exact Pt.loc (by repeat constructor))
    (hg : gdv ops loc tmp gd = some true := by rfl) (hd : dOK X.n d = true := by rfl) (hcl : (cf i).news = true := by rfl) (hq : X.q = false := by rfl) :
    EO X ops cf k (i :: is) (⟨d, .call ⟨.builtin .append, #[x, y], #[t, t]⟩, ty, pos, aft, gd⟩ :: l) loc tmp L :=
  x_new (Rv := fun v L'' => ∃ A2 c2, v = .slice A2 m c2 ∧ L'' = Own A2 c2 e 1 m news :: F) hg hcl (fun a hrl w0 S0 w hs q => by
    have hs1 := (hs.wat q).perm ht.perm
    have hext : ∀ w', Ext (wat w q) w' → Ext w w' := fun _ h => h
    generalize wat w q = w1 at hs1 hext ⊢
    obtain ⟨hut, it, zv, hi, hisz, hib, hizv, hzv⟩ := SlE.out (P := X.P) (T := t) (e := e) (sz := 1) (b := b) (z := [z])
    have hzc : zv.cells = #[z] := by apply Array.ext'; simpa using hzv
    obtain ⟨S, ⟨S1, S2, hS1, hS2, hdis, hun⟩, hin⟩ := hs1.sat
    have hnl : news.length = m := by simpa using hr.1
    by_cases hm : m = 0
    · subst hm
      have hnn : news = [] := List.length_eq_zero_iff.1 hnl
      subst hnn
      have hfc : (Builtin.firstCells 1 0 (.slice B 0 c')).run X.P w1 = .ok #[] w1 := by
        cases B with
        | none => exact run_firstCells_none w1 1 0 0 c'
        | some a => exact run_firstCells_some w1 1 0 a 0 c' [] rfl (fun j v h => by simp at h)
      have hrun : (Builtin.append_ #[t, t] ty #[.slice (some ⟨g, 0, none⟩) 0 0, .slice B 0 c']).run X.P w1 = .ok (.slice (some ⟨g, 0, none⟩) 0 0) w1 := by
        simp [Builtin.append_, run_underlying hut, sizeOf, typeInfo, hi, hisz, Builtin.lenOf, hfc, storeCells]
      simp [RunN, execOp, resolve, invoke, builtin, hrl.ev hx, hrl.ev hy, hrun]
      exact ⟨hext _ (Ext.refl _), _, ⟨_, _, ⟨rfl, rfl⟩, rfl⟩, hs1⟩
    · rcases hr.2 with h0 | ⟨g2, o2, rfl, hc⟩
      · exact absurd h0 hm
      have hnews : ∀ j v, news[j]? = some v → w1.cell? ((⟨g2, o2, none⟩ : Addr).add j) = some v := fun j v hj => by rw [add_at]; exact ((hc j v hj).there).at_ hs1
      have hfit : Builtin.nextslicecap (0 + m) 0 * it.bytes ≤ 281474976710656 := by rw [hib]; exact growslice_fits (by omega) (by simpa using hby)
      have hrun := run_append_grow (P := X.P) w1 t ty e it zv hut hi hizv ⟨g, 0, none⟩ 0 0 [] (by simp) (fun j v h => by simp at h) ⟨g2, o2, none⟩ m c' news (by rw [hisz]; omega) hnews (by omega) (by omega) hfit
      rw [Nat.zero_add] at hrun
      have hge := grownCap_ge w1 m 0 e
      have hle : grownCap w1 m 0 e ≤ maxLen := grownCap_le_maxLen w1 m 0 e (by simp only [maxLen]; omega)
      have hst2 : St false w0 S0 (Own (some ⟨w1.heap.size, 0, none⟩) (grownCap w1 m 0 e) e 1 m news :: F) (w1.drew.alloc (.cells (([] : List Value).toArray ++ news.toArray ++ Builtin.zeroCells zv.cells (grownCap w1 m 0 e - m)) e)) :=
        St.step (M := [Own (some ⟨g, 0, none⟩) 0 e 1 0 []]) (L' := [Own (some ⟨w1.heap.size, 0, none⟩) (grownCap w1 m 0 e) e 1 m news]) hs1 rfl rfl rfl (by simp) fun S' hS' => by
          refine ⟨fun x hx hnx => heap_alloc_old w1.drew _ hx, fun x => x = w1.heap.size, sats_one ⟨by simp [hnl], by omega, hle, .inr ⟨w1.heap.size, (Builtin.zeroCells zv.cells (grownCap w1 m 0 e - m)).toList, rfl, fun x => Iff.rfl, ?_, ?_⟩⟩, fun x hx => .inr (by omega)⟩
          · refine (heap_alloc_new w1.drew _).trans ?_
            simp
          · simp [hnl, hzc, zeroCells_one]; omega
      simp [RunN, execOp, resolve, invoke, builtin, hrl.ev hx, hrl.ev hy, hrun]
      rw [hq]
      exact ⟨hext _ (fun k o hk => (heap_alloc_old w1.drew _ (Array.getElem?_eq_some_iff.1 hk).1).trans hk), _, ⟨_, _, ⟨rfl, rfl⟩, rfl⟩, by simpa using hst2⟩) hd (fun v L'' ⟨A', c'', e1, e2⟩ => by subst e1 e2; exact ⟨_, _, hp A' c'', h A' c''⟩)
end
def nmV (l : List (List UInt8 × Nat)) : List Value := l.map fun p => .string (str p.1)
def kdV (l : List (List UInt8 × Nat)) : List Value := l.map fun p => .int .i64 (p.2 : Int)
theorem nmV_len (l : List (List UInt8 × Nat)) : (nmV l).length = l.length := by simp [nmV]
theorem kdV_len (l : List (List UInt8 × Nat)) : (kdV l).length = l.length := by simp [kdV]
theorem nmV_get {l : List (List UInt8 × Nat)} {i : Nat} {p : List UInt8 × Nat} (h : l[i]? = some p) : (nmV l)[i]? = some (.string (str p.1)) := by simp [nmV, h]
theorem kdV_get {l : List (List UInt8 × Nat)} {i : Nat} {p : List UInt8 × Nat} (h : l[i]? = some p) : (kdV l)[i]? = some (.int .i64 (p.2 : Int)) := by simp [kdV, h]
theorem nmV_take (l : List (List UInt8 × Nat)) (p : Nat) : nmV (l.take p) = (nmV l).take p := by simp [nmV]
theorem kdV_take (l : List (List UInt8 × Nat)) (p : Nat) : kdV (l.take p) = (kdV l).take p := by simp [kdV]
theorem nmV_drop (l : List (List UInt8 × Nat)) (p : Nat) : nmV (l.drop p) = (nmV l).drop p := by simp [nmV]
theorem kdV_drop (l : List (List UInt8 × Nat)) (p : Nat) : kdV (l.drop p) = (kdV l).drop p := by simp [kdV]
theorem nmV_one {l : List (List UInt8 × Nat)} {u : Value} (h : u ∈ nmV l) : u.oneCell' = true := by obtain ⟨q, _, rfl⟩ := List.mem_map.1 h; rfl
theorem kdV_one {l : List (List UInt8 × Nat)} {u : Value} (h : u ∈ kdV l) : u.oneCell' = true := by obtain ⟨q, _, rfl⟩ := List.mem_map.1 h; rfl
theorem nmV_snoc (l : List (List UInt8 × Nat)) (q : List UInt8 × Nat) : nmV (l ++ [q]) = nmV l ++ [.string (str q.1)] := by simp [nmV]
theorem kdV_snoc (l : List (List UInt8 × Nat)) (q : List UInt8 × Nat) : kdV (l ++ [q]) = kdV l ++ [.int .i64 (q.2 : Int)] := by simp [kdV]
theorem nmV_app (l r : List (List UInt8 × Nat)) : nmV (l ++ r) = nmV l ++ nmV r := by simp [nmV]
theorem kdV_app (l r : List (List UInt8 × Nat)) : kdV (l ++ r) = kdV l ++ kdV r := by simp [kdV]
def placeN : List (List UInt8 × Nat) → List UInt8 → Nat
  | [], _ => 0
  | a :: r, nm => if Op.bytesLess a.1 nm = true then placeN r nm + 1 else 0
theorem placeN_le : ∀ (l : List (List UInt8 × Nat)) (nm : List UInt8), placeN l nm ≤ l.length
  | [], _ => Nat.le_refl _
  | a :: r, nm => by
    have := placeN_le r nm
    simp only [placeN, List.length_cons]
    split <;> omega
def hasN (l : List (List UInt8 × Nat)) (nm : List UInt8) : Bool := match l[placeN l nm]? with
  | some p => p.1 == nm
  | none => false
abbrev noC (md ui gi : Nat) (D : Option Addr) (dn dc : Nat) (nv kv : Value) : List Value := [.int .u16 (md : Int), .int .u32 (ui : Int), .int .u32 (gi : Int), .int .i64 0, .int .i64 0, .int .i64 0, .int .i64 0, .int .i64 0, .int .i64 0, .int .i64 0, .int .i64 0, .int .u32 0, .int .u32 0, .slice D dn dc, .string (str []), .slice none 0 0, nv, kv]
theorem place_fn (md ui gi c dn dc : Nat) (D : Option Addr) (kv : Value) (A : Option Addr) (l : List (List UInt8 × Nat)) (nm : List UInt8) (hl : l.length ≤ 1000000) :
    Fd Tryz.prog 20 #[.agg (noC md ui gi D dn dc (.slice A l.length c) kv).toArray, .string (str nm)] [Own A c 9 1 l.length (nmV l)] (.tuple #[.int .i64 (placeN l nm : Nat), .bool (hasN l nm)]) [Own A c 9 1 l.length (nmV l)] := by
  refine fn_of_E' (args := [_, _]) 7 _ [_, _, undef, undef, undef, undef, undef] Tryz.func20 rfl Tryz.ntmps20 ?_
  refine e_seq ?_
  refine e_region ?_
  refine y_boxA rfl fun g2 => ?_
  refine walk ?_
  have hpl := placeN_le l nm
  refine e_roundsK (ι := Nat) (fun i => placeN l nm - i) (fun i => [.agg (noC md ui gi D dn dc (.slice A l.length c) kv).toArray, .string (str nm), ptrV g2, undef, .int .i64 0, .bool false, .int .i64 (i : Nat)])
    (fun _ => []) (fun _ => [Cells g2 49 (noC md ui gi D dn dc (.slice A l.length c) kv), Own A c 9 1 l.length (nmV l)]) (fun i => i ≤ placeN l nm ∧ i + placeN (l.drop i) nm = placeN l nm) 0 ⟨Nat.zero_le _, by simp⟩ rfl (by repeat constructor) (List.Perm.refl _) ?_
  intro i ⟨hi, hpi⟩ again
  by_cases hlt : i < l.length
  · obtain ⟨p, hp⟩ : ∃ p, l[i]? = some p := ⟨_, List.getElem?_eq_getElem hlt⟩
    have hdr : l.drop i = p :: l.drop (i + 1) := by
      obtain ⟨h1, h2⟩ := List.getElem?_eq_some_iff.1 hp
      rw [List.drop_eq_getElem_cons h1, h2]
    rw [hdr] at hpi
    simp only [placeN] at hpi
    refine E.know (A := Own A c 9 1 l.length (nmV l)) take_ (fun _ _ => Own.know) fun hk => ?_
    obtain ⟨k1, k2, k3, k4⟩ := hk
    cases A with
    | none => have := k3 rfl; omega
    | some ad =>
    obtain ⟨gA, rfl⟩ := k4 ad rfl
    refine walk ?_
    refine y_loadO i (nmV_get hp) ?_
    refine walk ?_
    cases hb : Op.bytesLess p.1 nm with
    | true =>
      rw [if_pos hb] at hpi
      refine x_sLt hb ?_
      refine walk ?_
      exact (again (i + 1) (by omega) ⟨by omega, by omega⟩).toP (ks := []) rfl (by repeat constructor) sub_
    | false =>
      rw [if_neg (by rw [hb]; simp)] at hpi
      have hip : placeN l nm = i := by omega
      clear again
      refine x_sLt hb ?_
      refine walk ?_
      refine y_loadO i (nmV_get hp) ?_
      refine walk ?_
      refine y_ret (M := [Own (some ⟨gA, 0, none⟩) c 9 1 l.length (nmV l)]) [4, 5] rfl ?_
      simp only [hasN, hip, hp]
      exact ⟨rfl, trivial⟩
  · have hil : i = l.length := by omega
    have hip : placeN l nm = l.length := by omega
    subst hil
    clear again
    refine walk ?_
    refine y_ret (M := [Own A c 9 1 l.length (nmV l)]) [4, 5] rfl ?_
    simp only [hasN, hip, List.getElem?_eq_none (Nat.le_refl _)]
    exact ⟨rfl, trivial⟩
theorem Kind_fn (md ui gi dn dc : Nat) (D : Option Addr) (nv kv : Value) (hm : md < 65536) :
    Fd Tryz.prog 11 #[.agg (noC md ui gi D dn dc nv kv).toArray] [] (.int .u16 (md &&& 61440 : Nat)) [] := by
  refine fn_of_E' (args := [_]) 3 _ [_, undef, undef] Tryz.func11 rfl Tryz.ntmps11 ?_
  refine e_seq ?_
  refine e_region ?_
  refine y_boxA rfl fun g2 => ?_
  refine walk ?_
  exact y_ret [2] rfl ⟨rfl, rfl⟩
theorem Kid_fn (md ui gi c c' dn dc : Nat) (D : Option Addr) (A A' : Option Addr) (l : List (List UInt8 × Nat)) (nm : List UInt8) (k : Nat) (hl : l.length ≤ 1000000) (hp : l[placeN l nm]? = some (nm, k)) :
    Fd Tryz.prog 10 #[.agg (noC md ui gi D dn dc (.slice A l.length c) (.slice A' l.length c')).toArray, .string (str nm)] [Own A c 9 1 l.length (nmV l), Own A' c' 3 1 l.length (kdV l)] (.tuple #[.int .i64 (k : Int), .bool true]) [Own A c 9 1 l.length (nmV l), Own A' c' 3 1 l.length (kdV l)] := by
  have hh : hasN l nm = true := by simp [hasN, hp]
  have hpf := place_fn md ui gi c dn dc D (.slice A' l.length c') A l nm hl
  rw [hh] at hpf
  have hlt := (List.getElem?_eq_some_iff.1 hp).1
  refine fn_of_E' (args := [_, _]) 8 _ [_, _, undef, undef, undef, undef, undef, undef] Tryz.func10 rfl Tryz.ntmps10 ?_
  refine e_seq ?_
  refine e_region ?_
  refine y_boxA rfl fun g2 => ?_
  refine walk ?_
  refine y_callD rfl rfl hpf ?_
  refine EO.know (A := Own A' c' 3 1 l.length (kdV l)) take_ (fun _ _ => Own.know) fun hk => ?_
  obtain ⟨k1, k2, k3, k4⟩ := hk
  cases A' with
  | none => have := k3 rfl; omega
  | some ad =>
  obtain ⟨gA, rfl⟩ := k4 ad rfl
  refine walk ?_
  refine y_loadO (placeN l nm) (kdV_get hp) ?_
  refine walk ?_
  exact y_ret [4, 5] rfl ⟨rfl, rfl⟩
theorem CellRow.takeN {L : List HP} {g o p : Nat} {vs : List Value} (h : CellRow L g o vs) : CellRow L g o (vs.take p) := fun j v hj => h j v (by
  have hl := (List.getElem?_eq_some_iff.1 hj).1
  rw [List.length_take] at hl
  rwa [List.getElem?_take_of_lt (by omega)] at hj)
theorem CellRow.dropN {L : List HP} {g o p q : Nat} {vs : List Value} (h : CellRow L g o vs) (hq : q = o + p) : CellRow L g q (vs.drop p) := fun j v hj => by
  subst hq
  rw [List.getElem?_drop] at hj
  have := h (p + j) v hj
  rwa [← Nat.add_assoc] at this
theorem Rd.takeN {A : Option Addr} {c e n p : Nat} {vs : List Value} {L F : List HP} (ht : Take (Own A c e 1 n vs) L F) (hA : A = none → p = 0) (hg : ∀ a, A = some a → ∃ g, a = ⟨g, 0, none⟩) (hn : vs.length = n) (hp : p ≤ n) : Rd L A p 1 (vs.take p) := by
  refine ⟨by simp; omega, ?_⟩
  cases A with
  | none => exact .inl (hA rfl)
  | some a =>
    obtain ⟨g, rfl⟩ := hg a rfl
    refine .inr ⟨g, 0, rfl, CellRow.takeN ?_⟩
    exact CellRow.of_take CellRow.own ht
section
variable {X : Fx} {ops : Array Oper} {cf : Nat → Cls} {k : List Item} {i : Nat} {is : List Nat} {l : List Oper} {loc loc' : List Value} {tmp tmp' : List (Nat × Value)} {L L' F M : List HP}
  {d : Option Tmp} {ty : TypeId} {pos : String} {aft : Array Edge} {gd : Option (Nat × Bool)} {locq : Option Addr → Nat → List Value} {tmpq : Option Addr → Nat → List (Nat × Value)}
theorem y_appR {t e b n m c c' : Nat} {z : Value} {x y : Operand} {A B : Option Addr} {vs news : List Value} [SlE X.P t e 1 b [z]] (hx : sv loc tmp x = some (.slice A n c)) (hy : sv loc tmp y = some (.slice B m c'))
    (hr : Rd F B m 1 news) (hB : B = none → m = 0) (h1 : ∀ u ∈ news, u.oneCell' = true) (h : ∀ A2 c2, EO X ops cf k is l (locq A2 c2) (tmpq A2 c2) (Own A2 c2 e 1 (n + m) (vs ++ news) :: F))
    (ht : Take (Own A c e 1 n vs) L F := by exact take_) (h63 : n + m ≤ 1000000000 := by omega) (hby : (n + m) * b ≤ 140737488355328 := by omega)
    (hp : ∀ A2 c2, Pt loc tmp d (.slice A2 (n + m) c2) (locq A2 c2) (tmpq A2 c2) := by intro _ _; first | exact Pt.tmp rfl | exact Pt.none | exact Pt.loc (by repeat constructor))
    (hg : gdv ops loc tmp gd = some true := by rfl) (hd : dOK X.n d = true := by rfl) (hcl : cf i = .any := by rfl) (hq : X.q = false := by rfl) :
    EO X ops cf k (i :: is) (⟨d, .call ⟨.builtin .append, #[x, y], #[t, t]⟩, ty, pos, aft, gd⟩ :: l) loc tmp L :=
  x_app hx hy ht hr hB h1 rfl (by omega) (by simp only [maxLen]; omega) hby (fun A2 c2 => ⟨_, _, hp A2 c2, h A2 c2⟩) hg hd hcl hq
theorem y_slLoR {t e n c p : Nat} {K : IntKind} {x y : Operand} {A : Option Addr} {vs : List Value} [SlTy X.P t e 1] (hx : sv loc tmp x = some (.slice A n c)) (hy : sv loc tmp y = some (.int K (p : Int)))
    (h : ∀ B c2, (∀ L' F' : List HP, Take (Own A c e 1 n vs) L' F' → Rd L' B (n - p) 1 (vs.drop p)) → (B = none → n - p = 0) → EO X ops cf k is l (locq B c2) (tmpq B c2) L) (hpn : p ≤ n) (ht : Take (Own A c e 1 n vs) L F := by exact take_)
    (hp : ∀ B c2, Pt loc tmp d (.slice B (n - p) c2) (locq B c2) (tmpq B c2) := by intro _ _; first | exact Pt.tmp rfl | exact Pt.none | exact Pt.loc (by repeat constructor))
    (hg : gdv ops loc tmp gd = some true := by rfl) (hd : dOK X.n d = true := by rfl) : EO X ops cf k (i :: is) (⟨d, .slice t x (some y) none none, ty, pos, aft, gd⟩ :: l) loc tmp L :=
  EO.know ht (fun _ _ => Own.know) fun hk => by
    obtain ⟨h1, h2, h3, h4⟩ := hk
    have hzero : ∀ (B : Option Addr), n - p = 0 → ∀ L' F' : List HP, Take (Own A c e 1 n vs) L' F' → Rd L' B (n - p) 1 (vs.drop p) := fun B h0 L' F' _ => ⟨by simp; omega, .inl h0⟩
    by_cases hpc : p = c
    · exact x_slLoE (m := p) hx hy rfl hpn hpc (hp A 0) (h A 0 (hzero A (by omega)) (fun _ => by omega)) hg hd
    · cases A with
      | none => have := h3 rfl; omega
      | some a =>
        obtain ⟨g, rfl⟩ := h4 a rfl
        refine x_slLo (m := p) hx hy rfl hpn h2 (by omega) (hp _ _) (h _ _ (fun L' F' hT => ⟨by simp; omega, .inr ⟨g, 0 + p * 1, rfl, ?_⟩⟩) (fun h => by cases h)) hg hd
        exact CellRow.dropN (CellRow.of_take CellRow.own hT) (by omega)
end
def insN (l : List (List UInt8 × Nat)) (nm : List UInt8) (k : Nat) : List (List UInt8 × Nat) := l.take (placeN l nm) ++ [(nm, k)] ++ l.drop (placeN l nm)
theorem with_fn (md ui gi c c' k dn dc : Nat) (D : Option Addr) (A A' : Option Addr) (l : List (List UInt8 × Nat)) (nm : List UInt8) (hl : l.length ≤ 1000000) (hh : hasN l nm = false) (hk : k ≤ 1000000) :
    Fe Tryz.prog 19 #[.agg (noC md ui gi D dn dc (.slice A l.length c) (.slice A' l.length c')).toArray, .string (str nm), .int .i64 (k : Int)] [Own A c 9 1 l.length (nmV l), Own A' c' 3 1 l.length (kdV l)]
      (fun _ : (Option Addr × Nat) × (Option Addr × Nat) => True) (fun i => .agg (noC md ui gi D dn dc (.slice i.1.1 (insN l nm k).length i.1.2) (.slice i.2.1 (insN l nm k).length i.2.2)).toArray) (fun i => [Own i.1.1 i.1.2 9 1 (insN l nm k).length (nmV (insN l nm k)), Own i.2.1 i.2.2 3 1 (insN l nm k).length (kdV (insN l nm k))]) := by
  have hpf := place_fn md ui gi c dn dc D (.slice A' l.length c') A l nm hl
  rw [hh] at hpf
  have hpl := placeN_le l nm
  refine fn_of_E' (args := [_, _, _]) 11 _ [_, _, _, undef, undef, undef, undef, undef, undef, undef, undef] Tryz.func19 rfl Tryz.ntmps19 ?_
  refine e_seq ?_
  refine e_region ?_
  refine y_boxA rfl fun g3 => ?_
  refine walk ?_
  refine y_alloc fun g6 => ?_
  refine walk ?_
  refine y_callD rfl rfl hpf ?_
  refine walkO ?_
  refine x_end ?_
  refine e_seq ?_
  obtain ⟨p, hpp⟩ : ∃ p, p = placeN l nm := ⟨_, rfl⟩
  rw [← hpp] at hpl ⊢
  have hn1 : (nmV (l.take p)).length = p := by simp [nmV]; omega
  have hk1 : (kdV (l.take p)).length = p := by simp [kdV]; omega
  refine e_cont (ι := (Option Addr × Nat) × (Option Addr × Nat)) (fun q => [.agg (noC md ui gi D dn dc (.slice A l.length c) (.slice A' l.length c')).toArray, .string (str nm), .int .i64 (k : Int), ptrV g3, undef, undef, ptrV g6, .int .i64 (p : Nat), .bool false, .slice q.1.1 p q.1.2, .slice q.2.1 p q.2.2])
    (fun _ => []) (fun q => [Own q.1.1 q.1.2 9 1 p (nmV (l.take p)), Own q.2.1 q.2.2 3 1 p (kdV (l.take p)), Own A c 9 1 l.length (nmV l), Own A' c' 3 1 l.length (kdV l), Cells g3 49 (noC md ui gi D dn dc (.slice A l.length c) (.slice A' l.length c')), Cells g6 49 [.int .u16 0, .int .u32 0, .int .u32 0, .int .i64 0, .int .i64 0, .int .i64 0, .int .i64 0, .int .i64 0, .int .i64 0, .int .i64 0, .int .i64 0, .int .u32 0, .int .u32 0, .slice none 0 0, .string ⟨#[]⟩, .slice none 0 0, .slice none 0 0, .slice none 0 0]])
    (fun _ => True) (fun rest => ?_) ?_
  · refine E.know (A := Own A c 9 1 l.length (nmV l)) take_ (fun _ _ => Own.know) fun hk => ?_
    obtain ⟨k1, k2, k3, k4⟩ := hk
    refine E.know (A := Own A' c' 3 1 l.length (kdV l)) take_ (fun _ _ => Own.know) fun hk => ?_
    obtain ⟨k5, k6, k7, k8⟩ := hk
    have hA : A = none → p = 0 := fun h => by have := k3 h; omega
    have hA' : A' = none → p = 0 := fun h => by have := k7 h; omega
    rw [Nat.mul_one] at k1 k5
    refine e_plan ?_
    refine walk ?_
    refine x_alt ?_ ?_
    · refine y_build0 fun gz => ?_
      refine x_alt ?_ ?_
      · refine y_appN (news := nmV (l.take p)) rfl rfl ?_ hA (fun u hu => nmV_one hu) fun A1 c1 => ?_
        · rw [nmV_take]; exact Rd.takeN take_ hA k4 k1 hpl
        refine y_build0 fun gy => ?_
        refine y_appN (news := kdV (l.take p)) rfl rfl ?_ hA' (fun u hu => kdV_one hu) fun A2 c2 => ?_
        · rw [kdV_take]; exact Rd.takeN take_ hA' k8 k5 hpl
        refine walkO ?_
        refine x_end ?_
        exact (rest ((A1, c1), (A2, c2)) trivial).toP rfl (by repeat constructor) sub_
      · refine y_build0 fun gy => ?_
        refine y_appN (news := nmV (l.take p)) rfl rfl ?_ hA (fun u hu => nmV_one hu) fun A1 c1 => ?_
        · rw [nmV_take]; exact Rd.takeN take_ hA k4 k1 hpl
        refine y_appN (news := kdV (l.take p)) rfl rfl ?_ hA' (fun u hu => kdV_one hu) fun A2 c2 => ?_
        · rw [kdV_take]; exact Rd.takeN take_ hA' k8 k5 hpl
        refine walkO ?_
        refine x_end ?_
        exact (rest ((A1, c1), (A2, c2)) trivial).toP rfl (by repeat constructor) sub_
    · refine y_build0 fun gy => ?_
      refine y_build0 fun gz => ?_
      refine y_appN (news := nmV (l.take p)) rfl rfl ?_ hA (fun u hu => nmV_one hu) fun A1 c1 => ?_
      · rw [nmV_take]; exact Rd.takeN take_ hA k4 k1 hpl
      refine y_appN (news := kdV (l.take p)) rfl rfl ?_ hA' (fun u hu => kdV_one hu) fun A2 c2 => ?_
      · rw [kdV_take]; exact Rd.takeN take_ hA' k8 k5 hpl
      refine walkO ?_
      refine x_end ?_
      exact (rest ((A1, c1), (A2, c2)) trivial).toP rfl (by repeat constructor) sub_
  · rintro ⟨⟨A1, c1⟩, ⟨A2, c2⟩⟩ _
    dsimp only
    refine walk ?_
    refine y_build1 rfl fun ga => ?_
    refine walk ?_
    refine y_app1 rfl rfl fun A3 c3 => ?_
    refine walk ?_
    refine y_build1 rfl fun gb => ?_
    refine walk ?_
    refine y_app1 rfl rfl fun A4 c4 => ?_
    refine walk ?_
    have h25 : ∀ q r : List (List UInt8 × Nat), nmV (q ++ [(nm, k)] ++ r) = nmV q ++ [.string (str nm)] ++ nmV r := fun q r => by simp [nmV]
    have h26 : ∀ q r : List (List UInt8 × Nat), kdV (q ++ [(nm, k)] ++ r) = kdV q ++ [.int .i64 (k : Int)] ++ kdV r := fun q r => by simp [kdV]
    have hil : (insN l nm k).length = p + 1 + (l.length - p) := by unfold insN; rw [← hpp]; simp; omega
    refine e_pair ?_
    refine walk ?_
    refine y_slLoR (p := p) rfl rfl (fun B5 c5 hB5 hB5n => ?_) hpl
    refine walkO ?_
    refine x_two ?_ ?_
    · refine y_appR (t := 22) (e := 9) (b := 16) (z := .string ⟨#[]⟩) (vs := nmV (l.take p) ++ [.string (str nm)]) (A := A3) (n := p + 1) (c := c3) (B := B5) (m := l.length - p) (c' := c5) (news := nmV (l.drop p)) rfl rfl ?_ hB5n (fun u hu => nmV_one hu) fun A6 c6 => ?_
      · rw [nmV_drop]; exact hB5 _ _ take_
      refine walkO ?_
      refine y_slLoR (p := p) rfl rfl (fun B7 c7 hB7 hB7n => ?_) hpl
      refine walkO ?_
      refine y_appR (t := 47) (e := 3) (b := 8) (z := .int .i64 0) (vs := kdV (l.take p) ++ [.int .i64 (k : Int)]) (A := A4) (n := p + 1) (c := c4) (B := B7) (m := l.length - p) (c' := c7) (news := kdV (l.drop p)) rfl rfl ?_ hB7n (fun u hu => kdV_one hu) fun A8 c8 => ?_
      · rw [kdV_drop]; exact hB7 _ _ take_
      refine walkO ?_
      refine x_end ?_
      refine walk ?_
      rw [← h25 (l.take p) (l.drop p), ← h26 (l.take p) (l.drop p), ← hil, show l.take p ++ [(nm, k)] ++ l.drop p = insN l nm k from by unfold insN; rw [← hpp]]
      refine walk ?_
      exact y_retC 6 rfl (by first | ((repeat (first | ((with_reducible apply Rows.here); (focus (repeat constructor))) | (with_reducible apply Rows.there))) <;> fail) | fail) ⟨((A6, c6), (A8, c8)), trivial, rfl, rfl⟩
    · refine walkO ?_
      refine y_appR (t := 22) (e := 9) (b := 16) (z := .string ⟨#[]⟩) (vs := nmV (l.take p) ++ [.string (str nm)]) (A := A3) (n := p + 1) (c := c3) (B := B5) (m := l.length - p) (c' := c5) (news := nmV (l.drop p)) rfl rfl ?_ hB5n (fun u hu => nmV_one hu) fun A6 c6 => ?_
      · rw [nmV_drop]; exact hB5 _ _ take_
      refine walkO ?_
      refine y_slLoR (p := p) rfl rfl (fun B7 c7 hB7 hB7n => ?_) hpl
      refine walkO ?_
      refine y_appR (t := 47) (e := 3) (b := 8) (z := .int .i64 0) (vs := kdV (l.take p) ++ [.int .i64 (k : Int)]) (A := A4) (n := p + 1) (c := c4) (B := B7) (m := l.length - p) (c' := c7) (news := kdV (l.drop p)) rfl rfl ?_ hB7n (fun u hu => kdV_one hu) fun A8 c8 => ?_
      · rw [kdV_drop]; exact hB7 _ _ take_
      refine walkO ?_
      refine x_end ?_
      refine walk ?_
      rw [← h25 (l.take p) (l.drop p), ← h26 (l.take p) (l.drop p), ← hil, show l.take p ++ [(nm, k)] ++ l.drop p = insN l nm k from by unfold insN; rw [← hpp]]
      refine walk ?_
      exact y_retC 6 rfl (by first | ((repeat (first | ((with_reducible apply Rows.here); (focus (repeat constructor))) | (with_reducible apply Rows.there))) <;> fail) | fail) ⟨((A6, c6), (A8, c8)), trivial, rfl, rfl⟩
end Go.Proofs.YtcdalfhkhifplaaGreatDoor
namespace Go.Proofs.YtcdalfhkhifplaaGreatDoor
open Go
set_option maxRecDepth 100000
set_option maxHeartbeats 4000000
attribute [local irreducible] E EO
def intV (l : List Nat) : List Value := l.map fun n : Nat => .int .i64 (n : Int)
theorem intV_len (l : List Nat) : (intV l).length = l.length := by simp [intV]
theorem intV_get {l : List Nat} {i n : Nat} (h : l[i]? = some n) : (intV l)[i]? = some (.int .i64 (n : Int)) := by simp [intV, h]
theorem intV_set (l : List Nat) (i n : Nat) : (intV l).set i (.int .i64 (n : Int)) = intV (l.set i n) := by simp [intV, List.map_set]
theorem intV_rep (m : Nat) : List.replicate m (.int .i64 0) = intV (List.replicate m 0) := by simp [intV]
def plA : List Nat → Nat → List RI → List Nat
  | p, _, [] => p
  | p, i, x :: r => plA (p.set x.num i) (i + 1) r
theorem plA_len : ∀ (p : List Nat) (i : Nat) (l : List RI), (plA p i l).length = p.length
  | p, i, [] => rfl
  | p, i, x :: r => by simp [plA, plA_len]
theorem plA_app : ∀ (p : List Nat) (i : Nat) (l : List RI) (x : RI), plA p i (l ++ [x]) = (plA p i l).set x.num (i + l.length)
  | p, i, [], x => by simp [plA]
  | p, i, y :: r, x => by
    have := plA_app (p.set y.num i) (i + 1) r x
    simp only [List.cons_append, plA, this, List.length_cons]
    rw [show i + 1 + r.length = i + (r.length + 1) by omega]
inductive KsR (pl : List Nat) : List (List UInt8 × Nat × Nat) → List (List UInt8 × Nat) → List (List UInt8 × Nat) → Prop
  | nil {ks : List (List UInt8 × Nat)} : KsR pl [] ks ks
  | dot {e : List UInt8 × Nat × Nat} {r : List (List UInt8 × Nat × Nat)} {ks ks' : List (List UInt8 × Nat)} : e.1 = [46] ∨ e.1 = [46, 46] → KsR pl r ks ks' → KsR pl (e :: r) ks ks'
  | ent {e : List UInt8 × Nat × Nat} {r : List (List UInt8 × Nat × Nat)} {ks ks' : List (List UInt8 × Nat)} {k : Nat} : e.1 ≠ [46] → e.1 ≠ [46, 46] → pl[e.2.1]? = some k → k ≤ 1000000 → ks.length ≤ 100000 → hasN ks e.1 = false → KsR pl r (insN ks e.1 k) ks' → KsR pl (e :: r) ks ks'
structure ND where
  x : RI
  a : RIA
  r : RIA
  ks : List (List UInt8 × Nat)
def ndAd (q : ND) : Option Addr := if ftN q.x.mode = 1 then q.a.A else none
def ndLn (q : ND) : Nat := if ftN q.x.mode = 1 then q.x.data.length else 0
def ndCp (q : ND) : Nat := if ftN q.x.mode = 1 then q.a.c else 0
abbrev noV (q : ND) : List Value := noC q.x.mode q.x.uid q.x.gid (ndAd q) (ndLn q) (ndCp q) (.slice q.r.A q.ks.length q.r.c) (.slice q.r.A' q.ks.length q.r.c')
def noVs : List ND → List Value
  | [] => []
  | q :: qs => noV q ++ noVs qs
theorem noVs_len : ∀ qs : List ND, (noVs qs).length = qs.length * 18
  | [] => rfl
  | q :: qs => by simp [noVs, noVs_len qs]; omega
theorem noVs_app : ∀ (a b : List ND), noVs (a ++ b) = noVs a ++ noVs b
  | [], _ => rfl
  | q :: a, b => by simp only [List.cons_append, noVs, noVs_app a b, List.append_assoc]
theorem noVs_get : ∀ (qs : List ND) (i : Nat) (q : ND), qs[i]? = some q → ((noVs qs).drop (i * 18)).take 18 = noV q
  | p :: qs, 0, q, h => by simp at h; subst h; rfl
  | p :: qs, i + 1, q, h => by
    have := noVs_get qs i q (by simpa using h)
    simp only [noVs]
    rw [show (i + 1) * 18 = (noV p).length + i * 18 by simp; omega, List.drop_append, List.drop_of_length_le (by omega), List.nil_append, show (noV p).length + i * 18 - (noV p).length = i * 18 by omega, this]
def noP (q : ND) : HP := .star [Own q.r.A q.r.c 9 1 q.ks.length (nmV q.ks), Own q.r.A' q.r.c' 3 1 q.ks.length (kdV q.ks)]
structure TrOk (pl : List Nat) (x : RI) (ks : List (List UInt8 × Nat)) : Prop where
  num : x.num < pl.length
  md : x.mode < 65536
  ui : x.uid < 4294967296
  gi : x.gid < 4294967296
  ft : ftN x.mode = 1 ∨ ftN x.mode = 2
  ks : KsR pl x.ents [] ks
  len : x.ents.length ≤ 1000000
theorem inP_out (xs : List RI) (rs : List RIA) (i : Nat) (x : RI) (a : RIA) (h1 : xs[i]? = some x) (h2 : rs[i]? = some a) : ∃ F, Tn [HP.star (inP xs rs)] (fun _ : Unit => True) (fun _ => riL x a ++ [HP.star F]) ∧ Tn (riL x a ++ [HP.star F]) (fun _ : Unit => True) (fun _ => [HP.star (inP xs rs)]) := by
  obtain ⟨F, hF⟩ := inP_take xs rs i x a h1 h2
  refine ⟨F, fun m S hS => ?_, fun m S hS => ?_⟩
  · have h0 : sats (inP xs rs) m S := sats_one' hS
    obtain ⟨S1, S2, a1, a2, a3, a4⟩ := sats_perm hF.perm h0
    exact ⟨(), S, trivial, sats_append.2 ⟨S1, S2, a1, sats_one a2, a3, a4⟩, fun _ h => h⟩
  · obtain ⟨S1, S2, a1, a2, a3, a4⟩ := sats_append.1 hS
    have h0 : sats (HP.star (riL x a) :: F) m S := ⟨S1, S2, a1, sats_one' a2, a3, a4⟩
    exact ⟨(), S, trivial, sats_one (sats_perm hF.perm.symm h0), fun _ h => h⟩
theorem noP_add (qs : List ND) (q : ND) : Tn [Own q.r.A q.r.c 9 1 q.ks.length (nmV q.ks), Own q.r.A' q.r.c' 3 1 q.ks.length (kdV q.ks), HP.star (qs.map noP)] (fun _ : Unit => True) (fun _ => [HP.star ((qs ++ [q]).map noP)]) := fun m S hS => by
  refine ⟨(), S, trivial, sats_one ?_, fun _ h => h⟩
  show sats ((qs ++ [q]).map noP) m S
  rw [List.map_append]
  have h1 : sats ([Own q.r.A q.r.c 9 1 q.ks.length (nmV q.ks), Own q.r.A' q.r.c' 3 1 q.ks.length (kdV q.ks)] ++ [HP.star (qs.map noP)]) m S := hS
  obtain ⟨S1, S2, a1, a2, a3, a4⟩ := sats_append.1 h1
  exact sats_append.2 ⟨S2, S1, sats_one' a2, sats_one a1, fun g h1 h2 => a3 g h2 h1, fun g => (a4 g).trans Or.comm⟩
theorem Tree_fn (v : Vs) (g : Geo v) (pl : List Nat) (kss : List (List (List UInt8 × Nat))) (hpl : pl = plA (List.replicate (v.pi + 1) 0) 0 v.inos) (hks : kss.length = v.inos.length) (hok : ∀ (i : Nat) (x : RI) (ks : List (List UInt8 × Nat)), v.inos[i]? = some x → kss[i]? = some ks → TrOk pl x ks) (hil : v.inos.length ≤ 100000) :
    Fe Tryz.prog 9 #[ptrV v.vg] [VP v] (fun i : (Option Addr × Nat) × List ND × (Option Addr × Nat × Nat × Nat) => i.2.1.map (·.x) = v.inos ∧ i.2.1.map (·.ks) = kss) (fun i => .agg #[.slice i.1.1 v.inos.length i.1.2])
      (fun i => [Own i.1.1 i.1.2 49 18 v.inos.length (noVs i.2.1), HP.star (i.2.1.map noP), HP.star (vsX v i.2.2.1 i.2.2.2.1 i.2.2.2.2.1 i.2.2.2.2.2 (i.2.1.map (·.a)))]) := by
  obtain ⟨g1, g2, g3, g4, g5, g6⟩ := g
  obtain ⟨m, hm⟩ : ∃ m, m = v.pi + 1 := ⟨_, rfl⟩
  rw [← hm] at hpl
  have hpll : pl.length = m := by rw [hpl, plA_len]; simp
  refine y_fn5 VP.op fun AI cI gO cO rs hrs => ?_
  refine fn_of_E' (args := [_]) 14 _ [_, undef, undef, undef, undef, undef, undef, undef, undef, undef, undef, undef, undef, undef] Tryz.func9 rfl Tryz.ntmps9 ?_
  refine walk ?_
  refine y_alloc fun g2 => ?_
  refine walk ?_
  refine y_alloc fun g3 => ?_
  refine walk ?_
  rw [show 1 * v.pi + 1 = m by omega]
  refine y_make rfl rfl fun g4 => ?_
  refine walk ?_
  have hnum : ∀ (i : Nat) (x : RI), v.inos[i]? = some x → ∃ ks, kss[i]? = some ks ∧ TrOk pl x ks := fun i x hx => by
    have hlt := (List.getElem?_eq_some_iff.1 hx).1
    exact ⟨kss[i], List.getElem?_eq_getElem (by omega), hok i x _ hx (List.getElem?_eq_getElem (by omega))⟩
  rw [intV_rep, show List.replicate m 0 = plA (List.replicate m 0) 0 (v.inos.take 0) from rfl]
  refine e_roundsT (ι := Nat × Value × Value) (fun z => v.inos.length - z.1)
    (fun z => [ptrV v.vg, undef, ptrV g2, ptrV g3, .slice (some ⟨g4, 0, none⟩) m m, z.2.1, z.2.2, undef, undef, undef, undef, undef, undef, undef])
    (fun z => [(30, .int .i64 (z.1 : Nat)), (29, .int .i64 (v.inos.length : Nat)), (28, .slice AI v.inos.length cI)])
    (fun z => [Own (some ⟨g4, 0, none⟩) m 3 1 m (intV (plA (List.replicate m 0) 0 (v.inos.take z.1))), Cells g3 42 [.slice none 0 0], Cells g2 42 [.slice none 0 0], Cells v.vg 63 (vsC v AI cI gO cO), Own AI cI 66 23 v.inos.length (inC v.inos rs), Own (some ⟨gO, 0, none⟩) cO 5 1 v.nb (enc (ownB v.nb v.cl)), HP.star (inP v.inos rs)])
    (fun z => z.1 ≤ v.inos.length) (0, undef, undef) (Nat.zero_le _) rfl (by repeat constructor) sub_ ?_
  rintro ⟨j, w5, w6⟩ hj again
  dsimp only at hj again ⊢
  by_cases hlt : j < v.inos.length
  · obtain ⟨y, hy⟩ : ∃ y, v.inos[j]? = some y := ⟨_, List.getElem?_eq_getElem hlt⟩
    obtain ⟨a, ha⟩ : ∃ a, rs[j]? = some a := ⟨_, List.getElem?_eq_getElem (by omega)⟩
    obtain ⟨ks, _, hok'⟩ := hnum j y hy
    have hyn := hok'.num
    rw [hpll] at hyn
    have htk : v.inos.take (j + 1) = v.inos.take j ++ [y] := by rw [List.take_add_one, hy]; rfl
    have hpa : plA (List.replicate m 0) 0 (v.inos.take (j + 1)) = (plA (List.replicate m 0) 0 (v.inos.take j)).set y.num j := by
      rw [htk, plA_app, Nat.zero_add, List.length_take, Nat.min_eq_left (by omega)]
    refine E.know (A := Own AI cI 66 23 v.inos.length (inC v.inos rs)) take_ (fun _ _ => Own.know) fun hk => ?_
    obtain ⟨k1, k2, k3, k4⟩ := hk
    cases AI with
    | none => have := k3 rfl; omega
    | some ad =>
    obtain ⟨gA, rfl⟩ := k4 ad rfl
    refine walk ?_
    refine y_loadS (vs := inC v.inos rs) (us := riC y a) (j * 23) (inC_get _ _ j y a hy ha) ?_
    refine walk ?_
    refine y_alloc fun g6 => ?_
    refine walk ?_
    refine y_storeE (a := y.num) (vs := intV (plA (List.replicate m 0) 0 (v.inos.take j))) (u := .int .i64 (j : Nat)) (by rw [intV_len, plA_len]; simp; omega) ?_
    rw [intV_set, ← hpa]
    refine walk ?_
    have ag := again (j + 1, .int .i64 (j : Nat), ptrV g6) (by dsimp only; omega) (by dsimp only; omega)
    dsimp only at ag
    exact ag.toP (ks := [30, 29, 28]) rfl (by repeat constructor) sub_
  · have hjl : j = v.inos.length := by omega
    subst hjl
    clear again
    rw [List.take_length, ← hpl]
    refine walk ?_
    refine E.nilOwn (e := 49) (sz := 18) ?_
    refine y_tn (Tn.close (L := [])) fun _ _ => ?_
    refine e_roundsT (ι := List ND × (Option Addr × Nat) × (Value × Value × Value × Value)) (fun z => v.inos.length - z.1.length)
      (fun z => [ptrV v.vg, undef, ptrV g2, ptrV g3, .slice (some ⟨g4, 0, none⟩) m m, w5, w6, undef, z.2.2.1, z.2.2.2.1, undef, z.2.2.2.2.1, undef, z.2.2.2.2.2])
      (fun z => [(46, .int .i64 (z.1.length : Nat)), (45, .int .i64 (v.inos.length : Nat)), (44, .slice AI v.inos.length cI)])
      (fun z => [Own z.2.1.1 z.2.1.2 49 18 z.1.length (noVs z.1), HP.star (z.1.map noP), Own (some ⟨g4, 0, none⟩) m 3 1 m (intV pl), Cells g3 42 [.slice z.2.1.1 z.1.length z.2.1.2], Cells g2 42 [.slice none 0 0], Cells v.vg 63 (vsC v AI cI gO cO), Own AI cI 66 23 v.inos.length (inC v.inos rs), Own (some ⟨gO, 0, none⟩) cO 5 1 v.nb (enc (ownB v.nb v.cl)), HP.star (inP v.inos rs)])
      (fun z => z.1.length ≤ v.inos.length ∧ z.1.map (·.x) = v.inos.take z.1.length ∧ z.1.map (·.a) = rs.take z.1.length ∧ z.1.map (·.ks) = kss.take z.1.length) ([], (none, 0), (undef, undef, undef, undef)) ⟨Nat.zero_le _, rfl, rfl, rfl⟩ rfl (by repeat constructor) (by exact .cons (.there .here) (.cons .here (.cons .here (.cons .here (.cons .here (.cons .here (.cons .here (.cons .here (.cons .here .nil))))))))) ?_
    rintro ⟨qs, ⟨A, c⟩, w8, w9, w11, w13⟩ ⟨hql, hqx, hqa, hqk⟩ again
    dsimp only at hql hqx hqa hqk again ⊢
    obtain ⟨j, hj⟩ : ∃ j, j = qs.length := ⟨_, rfl⟩
    rw [← hj] at hql hqx hqa hqk ⊢
    by_cases hlt : j < v.inos.length
    · obtain ⟨y, hy⟩ : ∃ y, v.inos[j]? = some y := ⟨_, List.getElem?_eq_getElem hlt⟩
      obtain ⟨a, ha⟩ : ∃ a, rs[j]? = some a := ⟨_, List.getElem?_eq_getElem (by omega)⟩
      obtain ⟨ks, hks', hok'⟩ := hnum j y hy
      obtain ⟨o1, o2, o3, o4, o5, o6, o7⟩ := hok'
      have hky := kindOf_fn y.mode o2
      refine E.know (A := Own AI cI 66 23 v.inos.length (inC v.inos rs)) take_ (fun _ _ => Own.know) fun hk => ?_
      obtain ⟨k1, k2, k3, k4⟩ := hk
      cases AI with
      | none => have := k3 rfl; omega
      | some ad =>
      obtain ⟨gA, rfl⟩ := k4 ad rfl
      refine walk ?_
      refine y_loadS (vs := inC v.inos rs) (us := riC y a) (j * 23) (inC_get _ _ j y a hy ha) ?_
      refine walk ?_
      refine y_alloc fun g8 => ?_
      refine walk ?_
      refine y_alloc fun g9 => ?_
      refine walk ?_
      refine y_callq rfl rfl hky ?_
      refine walk ?_
      rw [show (Value.string ⟨#[]⟩) = .string (str []) from rfl]
      refine e_cont (ι := Unit) (fun _ => [ptrV v.vg, undef, ptrV g2, ptrV g3, .slice (some ⟨g4, 0, none⟩) m m, w5, w6, undef, ptrV g8, ptrV g9, undef, w11, undef, w13]) (fun _ => [(46, .int .i64 (j : Nat)), (45, .int .i64 (v.inos.length : Nat)), (44, .slice (some ⟨gA, 0, none⟩) v.inos.length cI)]) (fun _ => [Cells g9 49 (noC y.mode y.uid y.gid (ndAd ⟨y, a, ⟨none, 0, none, 0⟩, []⟩) (ndLn ⟨y, a, ⟨none, 0, none, 0⟩, []⟩) (ndCp ⟨y, a, ⟨none, 0, none, 0⟩, []⟩) (.slice none 0 0) (.slice none 0 0)), Cells g8 66 (riC y a), Own A c 49 18 j (noVs qs), HP.star (qs.map noP), Own (some ⟨g4, 0, none⟩) m 3 1 m (intV pl), Cells g3 42 [.slice A j c], Cells g2 42 [.slice none 0 0], Cells v.vg 63 (vsC v (some ⟨gA, 0, none⟩) cI gO cO), Own (some ⟨gA, 0, none⟩) cI 66 23 v.inos.length (inC v.inos rs), Own (some ⟨gO, 0, none⟩) cO 5 1 v.nb (enc (ownB v.nb v.cl)), HP.star (inP v.inos rs)]) (fun _ => True) (fun rest => ?_) ?_
      · have r := rest () trivial
        clear rest
        rcases o5 with h1 | h1
        · rw [show ndAd ⟨y, a, ⟨none, 0, none, 0⟩, []⟩ = a.A from if_pos h1, show ndLn ⟨y, a, ⟨none, 0, none, 0⟩, []⟩ = y.data.length from if_pos h1, show ndCp ⟨y, a, ⟨none, 0, none, 0⟩, []⟩ = a.c from if_pos h1] at r
          refine e_cond rfl (fun ht => ?_) (fun hf => ?_)
          · refine (is_reg ?_)
            refine e_regionK ?_ (by first | ((repeat (first | exact KeepR.nil | apply KeepR.yes rfl | apply KeepR.no rfl)) <;> fail) | fail)
            refine walkO ?_
            refine x_end ?_
            exact r.toP (ks := [46, 45, 44]) rfl (by repeat constructor) sub_
          · rw [h1] at hf
            exact absurd hf (by decide)
        · rw [show ndAd ⟨y, a, ⟨none, 0, none, 0⟩, []⟩ = none from if_neg (by show ¬ ftN y.mode = 1; omega), show ndLn ⟨y, a, ⟨none, 0, none, 0⟩, []⟩ = 0 from if_neg (by show ¬ ftN y.mode = 1; omega), show ndCp ⟨y, a, ⟨none, 0, none, 0⟩, []⟩ = 0 from if_neg (by show ¬ ftN y.mode = 1; omega)] at r
          refine e_cond rfl (fun ht => ?_) (fun hf => ?_)
          · rw [h1] at ht
            exact absurd ht (by decide)
          · refine e_seq ?_
            refine (is_reg ?_)
            refine e_regionK ?_ (by first | ((repeat (first | exact KeepR.nil | apply KeepR.yes rfl | apply KeepR.no rfl)) <;> fail) | fail)
            refine walkO ?_
            refine x_end ?_
            refine e_false rfl ?_
            refine e_skip ?_
            exact r.toP (ks := [46, 45, 44]) rfl (by repeat constructor) sub_
      · rintro _ _
        refine walk ?_
        refine y_loop ?_
        refine walk ?_
        obtain ⟨F, hT1, hT2⟩ := inP_out v.inos rs j y a hy ha
        refine y_tn hT1 fun _ _ => ?_
        refine E.nilOwn (e := 9) (sz := 1) ?_
        refine E.nilOwn (e := 3) (sz := 1) ?_
        obtain ⟨dA, hdA⟩ : ∃ dA, dA = ndAd ⟨y, a, ⟨none, 0, none, 0⟩, []⟩ := ⟨_, rfl⟩
        obtain ⟨dN, hdN⟩ : ∃ dN, dN = ndLn ⟨y, a, ⟨none, 0, none, 0⟩, []⟩ := ⟨_, rfl⟩
        obtain ⟨dC, hdC⟩ : ∃ dC, dC = ndCp ⟨y, a, ⟨none, 0, none, 0⟩, []⟩ := ⟨_, rfl⟩
        rw [← hdA, ← hdN, ← hdC]
        refine e_roundsT (ι := Nat × List (List UInt8 × Nat) × RIA × Value) (fun z => y.ents.length - z.1)
          (fun z => [ptrV v.vg, undef, ptrV g2, ptrV g3, .slice (some ⟨g4, 0, none⟩) m m, w5, w6, undef, ptrV g8, ptrV g9, undef, w11, undef, z.2.2.2])
          (fun z => [(102, .int .i64 (z.1 : Nat)), (101, .int .i64 (y.ents.length : Nat)), (100, .slice a.A' y.ents.length a.c'), (46, .int .i64 (j : Nat)), (45, .int .i64 (v.inos.length : Nat)), (44, .slice (some ⟨gA, 0, none⟩) v.inos.length cI)])
          (fun z => [Own z.2.2.1.A z.2.2.1.c 9 1 z.2.1.length (nmV z.2.1), Own z.2.2.1.A' z.2.2.1.c' 3 1 z.2.1.length (kdV z.2.1), Cells g9 49 (noC y.mode y.uid y.gid dA dN dC (.slice z.2.2.1.A z.2.1.length z.2.2.1.c) (.slice z.2.2.1.A' z.2.1.length z.2.2.1.c')), Cells g8 66 (riC y a), Own A c 49 18 j (noVs qs), HP.star (qs.map noP), Own (some ⟨g4, 0, none⟩) m 3 1 m (intV pl), Cells g3 42 [.slice A j c], Cells g2 42 [.slice none 0 0], Cells v.vg 63 (vsC v (some ⟨gA, 0, none⟩) cI gO cO), Own (some ⟨gA, 0, none⟩) cI 66 23 v.inos.length (inC v.inos rs), Own (some ⟨gO, 0, none⟩) cO 5 1 v.nb (enc (ownB v.nb v.cl)), Own a.A a.c 5 1 y.data.length (enc y.data), Own a.A' a.c' 72 3 y.ents.length (entC y.ents), HP.star F])
          (fun z => z.1 ≤ y.ents.length ∧ KsR pl (y.ents.drop z.1) z.2.1 ks) (0, [], ⟨none, 0, none, 0⟩, w13) ⟨Nat.zero_le _, o6⟩ rfl (by repeat constructor) (by exact .cons (.there .here) (.cons .here (.cons (.there (.there (.there .here))) sub_))) ?_
        rintro ⟨i, kc, ⟨rA, rc, rA', rc'⟩, u13⟩ ⟨hi, hkr⟩ again2
        dsimp only at hi hkr again2 ⊢
        by_cases hle : i < y.ents.length
        · obtain ⟨e, he⟩ : ∃ e, y.ents[i]? = some e := ⟨_, List.getElem?_eq_getElem hle⟩
          have hdr : y.ents.drop i = e :: y.ents.drop (i + 1) := by
            obtain ⟨h1, h2⟩ := List.getElem?_eq_some_iff.1 he
            rw [List.drop_eq_getElem_cons h1, h2]
          rw [hdr] at hkr
          refine E.know (A := Own a.A' a.c' 72 3 y.ents.length (entC y.ents)) take_ (fun _ _ => Own.know) fun hk => ?_
          obtain ⟨q1, q2, q3, q4⟩ := hk
          obtain ⟨aA, ac, aA', ac'⟩ := a
          dsimp only at q1 q2 q3 q4 ⊢
          cases aA' with
          | none => have := q3 rfl; omega
          | some ad =>
          obtain ⟨ge, rfl⟩ := q4 ad rfl
          refine walk ?_
          refine y_loadS (vs := entC y.ents) (us := [.string (str e.1), .int .u64 (e.2.1 : Int), .int .u64 (e.2.2 : Int)]) (i * 3) (entC_get y.ents i e he) ?_
          refine walk ?_
          refine y_alloc fun g13 => ?_
          refine walk ?_
          cases hkr with
          | dot hd hr' =>
            have ag := again2 (i + 1, kc, ⟨rA, rc, rA', rc'⟩, ptrV g13) (by dsimp only; omega) ⟨by dsimp only; omega, hr'⟩
            dsimp only at ag
            rcases hd with hd | hd
            · rw [show (e.1 != [46]) = false from by rw [hd]; rfl]
              refine walk ?_
              exact ag.toP (ks := [102, 101, 100, 46, 45, 44]) rfl (by repeat constructor) sub_
            · rw [show (e.1 != [46]) = true from by rw [hd]; rfl]
              refine walk ?_
              rw [show (e.1 != [46, 46]) = false from by rw [hd]; rfl]
              refine walk ?_
              exact ag.toP (ks := [102, 101, 100, 46, 45, 44]) rfl (by repeat constructor) sub_
          | @ent _ _ _ _ k n1 n2 hpk hk1 hkl hhn hr' =>
            have hem := (List.getElem?_eq_some_iff.1 hpk).1
            rw [hpll] at hem
            rw [show (e.1 != [46]) = true from by simpa using n1]
            refine walk ?_
            rw [show (e.1 != [46, 46]) = true from by simpa using n2]
            refine walk ?_
            refine y_loadO e.2.1 (intV_get hpk) ?_
            refine walk ?_
            refine y_callE rfl rfl (with_fn y.mode y.uid y.gid rc rc' k dN dC dA rA rA' kc e.1 (by omega) hhn hk1) fun q _ => ?_
            refine walk ?_
            have ag := again2 (i + 1, insN kc e.1 k, ⟨q.1.1, q.1.2, q.2.1, q.2.2⟩, ptrV g13) (by dsimp only; omega) ⟨by dsimp only; omega, hr'⟩
            dsimp only at ag
            exact ag.toP (ks := [102, 101, 100, 46, 45, 44]) rfl (by repeat constructor) sub_
        · have hie : i = y.ents.length := by omega
          subst hie
          rw [List.drop_length] at hkr
          cases hkr
          clear again2
          refine walk ?_
          refine y_build (vs := [.agg (noC y.mode y.uid y.gid dA dN dC (.slice rA ks.length rc) (.slice rA' ks.length rc')).toArray]) (cs := noC y.mode y.uid y.gid dA dN dC (.slice rA ks.length rc) (.slice rA' ks.length rc')) rfl (fill_one (n := 18) [.int .u16 0, .int .u32 0, .int .u32 0, .int .i64 0, .int .i64 0, .int .i64 0, .int .i64 0, .int .i64 0, .int .i64 0, .int .i64 0, .int .i64 0, .int .u32 0, .int .u32 0, .slice none 0 0, .string ⟨#[]⟩, .slice none 0 0, .slice none 0 0, .slice none 0 0] _ rfl rfl (by omega)) rfl fun gs => ?_
          refine walk ?_
          refine x_app (vs := noVs qs) (news := noC y.mode y.uid y.gid dA dN dC (.slice rA ks.length rc) (.slice rA' ks.length rc')) rfl rfl take_ (by exact ⟨rfl, .inr ⟨_, _, rfl, (by first | ((repeat (first | exact CellRow.own | exact CellRow.here | apply CellRow.there)) <;> fail) | fail)⟩⟩) (fun h => by cases h) (by simp [Value.oneCell']) (by rfl) (by omega) (by simp only [maxLen]; omega) (by omega) (fun A5 c5 => ⟨_, _, pt_, ?_⟩)
          refine walk ?_
          subst hdA hdN hdC
          have hP := noP_add qs ⟨y, a, ⟨rA, rc, rA', rc'⟩, ks⟩
          dsimp only at hP
          refine y_tn hP fun _ _ => ?_
          refine y_tn hT2 fun _ _ => ?_
          have hnv : noVs qs ++ noC y.mode y.uid y.gid (ndAd ⟨y, a, ⟨none, 0, none, 0⟩, []⟩) (ndLn ⟨y, a, ⟨none, 0, none, 0⟩, []⟩) (ndCp ⟨y, a, ⟨none, 0, none, 0⟩, []⟩) (.slice rA ks.length rc) (.slice rA' ks.length rc') = noVs (qs ++ [⟨y, a, ⟨rA, rc, rA', rc'⟩, ks⟩]) := by
            rw [noVs_app]
            simp only [noVs, List.append_nil]
            rfl
          rw [hnv]
          have hq1 : (qs ++ [(⟨y, a, ⟨rA, rc, rA', rc'⟩, ks⟩ : ND)]).length = j + 1 := by simp [hj]
          have ag := again (qs ++ [⟨y, a, ⟨rA, rc, rA', rc'⟩, ks⟩], (A5, c5), (ptrV g8, ptrV g9, w11, u13)) (by dsimp only; rw [hq1]; omega) ⟨by dsimp only; rw [hq1]; omega, by dsimp only; rw [hq1, List.map_append, hqx, List.take_add_one, hy]; rfl, by dsimp only; rw [hq1, List.map_append, hqa, List.take_add_one, ha]; rfl, by dsimp only; rw [hq1, List.map_append, hqk, List.take_add_one, hks']; rfl⟩
          dsimp only at ag
          rw [hq1] at ag
          exact ag.toP (ks := [46, 45, 44]) rfl (by repeat constructor) sub_
    · have hjl : j = v.inos.length := by omega
      clear again
      have hrl : rs.take j = rs := List.take_of_length_le (by omega)
      have hxl : v.inos.take j = v.inos := List.take_of_length_le (by omega)
      have hkl : kss.take j = kss := List.take_of_length_le (by omega)
      rw [hrl] at hqa
      rw [hxl] at hqx
      rw [hkl] at hqk
      rw [hjl]
      refine walk ?_
      refine y_tn (Tn.close (L := vsX v AI cI gO cO rs)) fun _ _ => ?_
      rw [← hqa]
      exact y_retC 2 rfl (by first | ((repeat (first | ((with_reducible apply Rows.here); (focus (repeat constructor))) | (with_reducible apply Rows.there))) <;> fail) | fail) ⟨((A, c), qs, (AI, cI, gO, cO)), ⟨hqx, hqk⟩, rfl, rfl⟩
end Go.Proofs.YtcdalfhkhifplaaGreatDoor
