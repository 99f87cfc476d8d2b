/-
  The walks: an image is closed. Conditions: none.
-/
import Derived.Test.YtppkiiomedembaaGreatDoorM20
set_option linter.unusedVariables false
set_option linter.unusedSimpArgs false
namespace Go.Proofs.YtppkiiomedembaaGreatDoor
open Go
set_option maxRecDepth 100000
set_option maxHeartbeats 4000000
attribute [local irreducible] E EO
def inB (ids : List (Option Nat)) (j : Nat) : Bool := decide (1 + j < 11) || (getI ids (1 + j)).isSome
def drB (mf : Nat → Nat) (ids : List (Option Nat)) (j : Nat) : Bool := match getI ids (1 + j) with
  | some g => decide (mf g &&& 61440 = 16384)
  | none => false
def fbB (ids : List (Option Nat)) (n m i : Nat) : Bool := if i < 32768 then decide (i < n) else decide (i - 32768 < m) && inB ids (i - 32768)
theorem fbB_blk (ids : List (Option Nat)) {n : Nat} (h : n < 32768) : ∀ i, (fbB ids n 0 i || decide (i = n)) = fbB ids (n + 1) 0 i := fun i => by
  unfold fbB
  by_cases hi : i < 32768
  · rw [if_pos hi, if_pos hi, ← Bool.decide_or]
    exact decide_eq_decide.2 (by omega)
  · rw [if_neg hi, if_neg hi, decide_eq_false (by omega : ¬ i = n)]
    simp
theorem fbB_ino1 (ids : List (Option Nat)) {m : Nat} (h : inB ids m = true) : ∀ i, (fbB ids 32768 m i || decide (i = 32768 + m)) = fbB ids 32768 (m + 1) i := fun i => by
  unfold fbB
  by_cases hi : i < 32768
  · rw [if_pos hi, if_pos hi]; simp [hi]
  · rw [if_neg hi, if_neg hi]
    by_cases h1 : i = 32768 + m
    · subst h1; simp [h]
    · rw [decide_eq_false h1, Bool.or_false, show decide (i - 32768 < m) = decide (i - 32768 < m + 1) from decide_eq_decide.2 (by omega)]
theorem fbB_ino0 (ids : List (Option Nat)) {m : Nat} (h : inB ids m = false) : ∀ i, fbB ids 32768 m i = fbB ids 32768 (m + 1) i := fun i => by
  unfold fbB
  by_cases hi : i < 32768
  · rw [if_pos hi, if_pos hi]
  · rw [if_neg hi, if_neg hi]
    by_cases h1 : i = 32768 + m
    · subst h1
      rw [show 32768 + m - 32768 = m by omega, h]; simp
    · rw [show decide (i - 32768 < m) = decide (i - 32768 < m + 1) from decide_eq_decide.2 (by omega)]
theorem inB_over (ids : List (Option Nat)) {i : Nat} (h1 : ids.length ≤ i) (h2 : 10 ≤ i) : inB ids i = false := by
  unfold inB getI
  rw [decide_eq_false (by omega), if_neg (by omega), List.getElem?_eq_none (by omega)]
  rfl
theorem bm_split (f : Nat → Bool) (a b : Nat) : bm f (a + b) = bm f a ++ bm (fun i => f (8 * a + i)) b := by
  unfold bm
  rw [List.range_add, List.map_append, List.map_map]
  congr 1
  apply List.map_congr_left
  intro k _
  simp only [Function.comp, byteOf]
  rw [show 8 * (a + k) = 8 * a + 8 * k by omega]
  simp only [Nat.add_assoc]
theorem fbB_end (ids : List (Option Nat)) (pi : Nat) (h1 : ids.length ≤ pi) (h2 : 10 ≤ pi) : bm (fbB ids 32768 pi) 8192 = bm (fun _ => true) 4096 ++ bm (inB ids) 4096 := by
  have h := bm_split (fbB ids 32768 pi) 4096 4096
  have e1 : bm (fbB ids 32768 pi) 4096 = bm (fun _ => true) 4096 := bm_congr fun i hi => by
    unfold fbB
    rw [if_pos (by omega)]
    exact decide_eq_true (by omega)
  have e2 : bm (fun i => fbB ids 32768 pi (8 * 4096 + i)) 4096 = bm (inB ids) 4096 := bm_congr fun i hi => by
    unfold fbB
    rw [if_neg (by omega), show 8 * 4096 + i - 32768 = i by omega]
    by_cases hp : i < pi
    · rw [decide_eq_true hp, Bool.true_and]
    · rw [inB_over ids (by omega) (by omega), Bool.and_false]
  exact h.trans (by rw [e1, e2])
theorem Close_fn (a0 b2 : WS) (s1 s3 : Ws) (l1 l3 l4 : List Nd) (root : Nd) (tb : List UInt8) (mf : Nat → Nat) (n k it pi : Nat) (hw0 : a0.1.wg = s1.wg) (hw2 : b2.1.wg = s1.wg) (hw3 : s3.wg = s1.wg)
    (h1 : Fd Tryz.prog 91 #[ptrV s1.wg] [WP a0.1, NodesP a0.2] .nilIface [WP s1, NodesP l1]) (hi1 : s1.ids.length ≤ 100000) (hroot : getI s1.ids 2 = some root.g)
    (h2 : WR s1.wg n (s1, l1) k root.g k root.g b2) (h3 : Fd Tryz.prog 91 #[ptrV s1.wg] [WP b2.1, NodesP b2.2] .nilIface [WP s3, NodesP l3])
    (hal : s3.body.length = (it - 2) * 4096) (hit2 : 2 ≤ it) (hit : it ≤ 20000) (hn0 : 11 ≤ s3.ids.length) (hn1 : s3.ids.length ≤ 5000) (hpi : pi = up16 s3.ids.length) (ht : TWt s3.ids l3 tb l4) (htl : tb.length = s3.ids.length * 256)
    (hm : ∀ j g, getI s3.ids (1 + j) = some g → ∃ (i : Nat) (x : Nd), l4[i]? = some x ∧ x.g = g ∧ x.mode = mf g ∧ x.mode < 65536) :
    Fd Tryz.prog 45 #[ptrV s1.wg] [WP a0.1, NodesP a0.2] .nilIface
      [DiskP s3.dg ((it + pi / 16 + 2) * 4096) (sblkB pi (it + pi / 16 + 2) 0 (pi - cntN (inB s3.ids) pi) pi (if s3.inl then 33346 else 578) ++ gdB (it + pi / 16) (it + pi / 16 + 1) it 0 (pi - cntN (inB s3.ids) pi) (cntN (drB mf s3.ids) pi) ++ (s3.body ++ tb ++ List.replicate (pi * 256 - s3.ids.length * 256) 0 ++ bm (fun _ => true) 4096 ++ bm (inB s3.ids) 4096))] := by
  have hp16 : pi % 16 = 0 ∧ s3.ids.length ≤ pi ∧ pi ≤ 5016 ∧ 16 ≤ pi := by rw [hpi]; unfold up16; omega
  obtain ⟨p1, p2, p3, p4⟩ := hp16
  refine fn_of_E' (args := [_]) 41 _ [_, undef, undef, undef, undef, undef, undef, undef, undef, undef, undef, undef, undef, undef, undef, undef, undef, undef, undef, undef, undef, undef, undef, undef, undef, undef, undef, undef, undef, undef, undef, undef, undef, undef, undef, undef, undef, undef, undef, undef, undef] Tryz.func45 rfl Tryz.ntmps45 ?_
  refine walk ?_
  refine y_callD rfl rfl h1 ?_
  refine walk ?_
  refine y_callq rfl rfl (root_fn s1 (by omega)) ?_
  rw [hroot]
  refine walk ?_
  refine y_callD rfl rfl (wrec_fn s1.wg n (s1, l1) b2 k root.g k root.g h2) ?_
  refine walk ?_
  refine y_callD rfl rfl h3 ?_
  refine walk ?_
  rw [← hw3]
  refine y_callq rfl rfl (block_w s3 it hal hit2 (by omega)) ?_
  refine walk ?_
  refine y_tno2 WP.op fun A c _ => ?_
  refine walk ?_
  refine y_callD rfl rfl (bgc_fn it s3.ids.length (by omega) (by omega) (by omega) (by omega)) ?_
  rw [← hpi]
  refine walkO ?_
  refine x_end ?_
  refine y_tn (WP.cl s3) fun _ _ => ?_
  refine walk ?_
  rw [show 1 * pi * 256 = pi * 256 by omega]
  have hwit := wit_fn s3 l3 l4 (pi * 256) tb ht (by omega) (by omega) (by omega) (by omega) (by intro h; rw [h] at hn0; simp at hn0)
  obtain ⟨s4, hs4⟩ : ∃ s4, s4 = { s3 with body := s3.body ++ tb ++ List.replicate (pi * 256 - s3.ids.length * 256) 0 } := ⟨_, rfl⟩
  rw [← hs4] at hwit
  have hb4 : s4.body.length = (it + pi / 16 - 2) * 4096 := by rw [hs4]; simp [htl]; omega
  have hwg4 : s4.wg = s3.wg := by rw [hs4]
  refine y_callD rfl rfl hwit ?_
  refine walk ?_
  rw [← hwg4]
  refine y_callq rfl rfl (block_w s4 (it + pi / 16) hb4 (by omega) (by omega)) ?_
  refine walk ?_
  obtain ⟨bo, hbo⟩ : ∃ bo, bo = it + pi / 16 := ⟨_, rfl⟩
  rw [← hbo] at hb4 ⊢
  refine y_loadC (v := .int .u32 ((1 : Nat) : Int)) (WP.cell 11 _ fun _ => rfl) ?_
  refine walkO ?_
  refine x_end ?_
  refine e_false rfl ?_
  refine e_skip ?_
  refine E.toP (loc' := [ptrV s4.wg, undef, .nilIface, .nilIface, ptrV root.g, .nilIface, .nilIface, .int .u32 (it : Int), .int .u32 (1 : Nat), .int .u32 (pi : Int), .nilIface, .int .u32 (bo : Int), .int .u32 (2 : Nat), .int .u32 (bo + 2 : Nat), .int .u32 (bo + 2 : Nat), .int .u32 (1 : Nat), .int .u32 (1 : Nat), undef, undef, undef, undef, undef, undef, undef, undef, undef, undef, undef, undef, undef, undef, undef, undef, undef, undef, undef, undef, undef, undef, undef, undef]) (tmp' := []) (ks := []) (L' := [WP s4, NodesP l4]) ?_ rfl (by repeat constructor) sub_
  refine walk ?_
  refine y_loadC (v := .int .u32 ((1 : Nat) : Int)) (WP.cell 11 _ fun _ => rfl) ?_
  refine walk ?_
  refine y_makeM (n := 128) rfl rfl fun gg => ?_
  obtain ⟨zg, hzg⟩ : ∃ zg, zg = (madeCells ([.int .u32 0, .int .u32 0, .int .u32 0, .int .u16 0, .int .u16 0, .int .u16 0, .int .u16 0, .int .u32 0, .int .u16 0, .int .u16 0, .int .u16 0, .int .u16 0] : List Value).toArray (128 * 12)).toList := ⟨_, rfl⟩
  rw [← hzg]
  refine walk ?_
  rw [show pi * 256 / 4096 = pi / 16 by omega]
  refine E.toP (loc' := [ptrV s4.wg, undef, .nilIface, .nilIface, ptrV root.g, .nilIface, .nilIface, .int .u32 (it : Int), .int .u32 (1 : Nat), .int .u32 (pi : Int), .nilIface, .int .u32 (bo : Int), .int .u32 (2 : Nat), .int .u32 (bo + 2 : Nat), .int .u32 (bo + 2 : Nat), .int .u32 (1 : Nat), .int .u32 (1 : Nat), .slice (some ⟨gg, 0, none⟩) 128 128, .int .u32 (pi / 16 : Nat), .int .u32 0, .int .u32 0, .int .u32 0, undef, undef, undef, undef, undef, undef, undef, undef, undef, undef, undef, undef, undef, undef, undef, undef, undef, undef, undef]) (tmp' := []) (ks := []) (L' := [WP s4, NodesP l4, Own (some ⟨gg, 0, none⟩) 128 215 12 128 zg]) ?_ rfl (by repeat constructor) sub_
  refine y_loop ?_
  refine walk ?_
  refine y_alloc fun gb => ?_
  rw [← bm_zero, show bm (fun _ => false) 8192 = bm (fbB s3.ids 0 0) 8192 from bm_congr fun i _ => by unfold fbB; split <;> simp]
  refine walk ?_
  refine e_roundsT (ι := Nat) (fun j => bo + 2 - j) (fun j => [ptrV s4.wg, undef, .nilIface, .nilIface, ptrV root.g, .nilIface, .nilIface, .int .u32 (it : Int), .int .u32 (1 : Nat), .int .u32 (pi : Int), .nilIface, .int .u32 (bo : Int), .int .u32 (2 : Nat), .int .u32 (bo + 2 : Nat), .int .u32 (bo + 2 : Nat), .int .u32 (1 : Nat), .int .u32 (1 : Nat), .slice (some ⟨gg, 0, none⟩) 128 128, .int .u32 (pi / 16 : Nat), .int .u32 0, .int .u32 0, .int .u32 0, ptrV gb, .int .u16 0, .int .u16 0, .int .u16 (j : Nat), undef, .int .u32 (j : Nat), undef, undef, undef, undef, undef, undef, undef, undef, undef, undef, undef, undef, undef]) (fun _ => []) (fun j => [Cells gb 211 (enc (bm (fbB s3.ids j 0) 8192)), WP s4, NodesP l4, Own (some ⟨gg, 0, none⟩) 128 215 12 128 zg]) (fun j => j ≤ bo + 2) 0 (Nat.zero_le _) rfl (by repeat constructor) sub_ ?_
  intro j hj again
  by_cases hlt : j < bo + 2
  · have hj2 : j < 32768 := by omega
    refine walk ?_
    refine y_loadCell (a := j / 8) (bm_cell (fbB s3.ids j 0) (n := 8192) (by omega)) ?_
    refine x_move rfl pt_ ?_
    refine x_bin rfl rfl (bRemN (by omega)) pt_ ?_
    obtain ⟨pw, hpw⟩ : ∃ pw, 2 ^ (j % 8) = pw := ⟨_, rfl⟩
    have hpw2 := (pow8 (show j % 8 < 8 by omega)).2
    rw [hpw] at hpw2
    have hbl := byteOf_lt (fbB s3.ids j 0) (j / 8)
    refine y_shlBit hpw (by omega) ?_
    refine walk ?_
    refine y_storeCell (a := j / 8) (vs := enc (bm (fbB s3.ids j 0) 8192)) (u := .int .u8 ((byteOf (fbB s3.ids j 0) (j / 8) ||| pw : Nat) : Int)) (by rw [enc_len, bm_len]; omega) ?_
    rw [← hpw, bm_set, bm_congr (fun i _ => fbB_blk s3.ids (by omega) i)]
    refine walk ?_
    exact (again (j + 1) (by omega) (by omega)).toP rfl (by repeat constructor) sub_
  have hjb : j = bo + 2 := by omega
  subst hjb
  clear again
  refine walk ?_
  refine y_loop ?_
  refine walk ?_
  refine y_loadC (v := .int .u32 ((1 : Nat) : Int)) (.there (WP.cell 11 _ fun _ => rfl)) ?_
  refine walk ?_
  rw [show (bo + 2) % 32768 = bo + 2 by omega]
  refine e_roundsT (ι := Nat) (fun j => 32768 - j) (fun j => [ptrV s4.wg, undef, .nilIface, .nilIface, ptrV root.g, .nilIface, .nilIface, .int .u32 (it : Int), .int .u32 (1 : Nat), .int .u32 (pi : Int), .nilIface, .int .u32 (bo : Int), .int .u32 (2 : Nat), .int .u32 (bo + 2 : Nat), .int .u32 (bo + 2 : Nat), .int .u32 (1 : Nat), .int .u32 (1 : Nat), .slice (some ⟨gg, 0, none⟩) 128 128, .int .u32 (pi / 16 : Nat), .int .u32 0, .int .u32 0, .int .u32 0, ptrV gb, .int .u16 0, .int .u16 0, .int .u16 (j : Nat), undef, .int .u32 (bo + 2 : Nat), .int .u32 (2 : Nat), .int .u32 (j : Nat), undef, undef, undef, undef, undef, undef, undef, undef, undef, undef, undef]) (fun _ => []) (fun j => [Cells gb 211 (enc (bm (fbB s3.ids j 0) 8192)), WP s4, NodesP l4, Own (some ⟨gg, 0, none⟩) 128 215 12 128 zg]) (fun j => j ≤ 32768) (bo + 2) (by omega) rfl (by repeat constructor) sub_ ?_
  intro j hj again
  by_cases hlt : j < 32768
  · have hj2 : j < 32768 := by omega
    refine walk ?_
    refine y_loadCell (a := j / 8) (bm_cell (fbB s3.ids j 0) (n := 8192) (by omega)) ?_
    refine x_move rfl pt_ ?_
    refine x_bin rfl rfl (bRemN (by omega)) pt_ ?_
    obtain ⟨pw, hpw⟩ : ∃ pw, 2 ^ (j % 8) = pw := ⟨_, rfl⟩
    have hpw2 := (pow8 (show j % 8 < 8 by omega)).2
    rw [hpw] at hpw2
    have hbl := byteOf_lt (fbB s3.ids j 0) (j / 8)
    refine y_shlBit hpw (by omega) ?_
    refine walk ?_
    refine y_storeCell (a := j / 8) (vs := enc (bm (fbB s3.ids j 0) 8192)) (u := .int .u8 ((byteOf (fbB s3.ids j 0) (j / 8) ||| pw : Nat) : Int)) (by rw [enc_len, bm_len]; omega) ?_
    rw [← hpw, bm_set, bm_congr (fun i _ => fbB_blk s3.ids (by omega) i)]
    refine walk ?_
    exact (again (j + 1) (by omega) (by omega)).toP rfl (by repeat constructor) sub_
  have hjb : j = 32768 := by omega
  subst hjb
  clear again
  refine walk ?_
  have hs4i : s4.ids = s3.ids := by rw [hs4]
  refine e_roundsT (ι := Nat × Value × Value) (fun q => pi - q.1) (fun q => [ptrV s4.wg, undef, .nilIface, .nilIface, ptrV root.g, .nilIface, .nilIface, .int .u32 (it : Int), .int .u32 (1 : Nat), .int .u32 (pi : Int), .nilIface, .int .u32 (bo : Int), .int .u32 (2 : Nat), .int .u32 (bo + 2 : Nat), .int .u32 (bo + 2 : Nat), .int .u32 (1 : Nat), .int .u32 (1 : Nat), .slice (some ⟨gg, 0, none⟩) 128 128, .int .u32 (pi / 16 : Nat), .int .u32 0, .int .u32 0, .int .u32 0, ptrV gb, .int .u16 (cntN (drB mf s3.ids) q.1 : Nat), .int .u16 (cntN (inB s3.ids) q.1 : Nat), .int .u16 (32768 : Nat), undef, .int .u32 (bo + 2 : Nat), .int .u32 (2 : Nat), .int .u32 (32768 : Nat), .int .u32 (q.1 : Nat), q.2.1, q.2.2, undef, undef, undef, undef, undef, undef, undef, undef]) (fun _ => []) (fun q => [Cells gb 211 (enc (bm (fbB s3.ids 32768 q.1) 8192)), WP s4, NodesP l4, Own (some ⟨gg, 0, none⟩) 128 215 12 128 zg]) (fun q => q.1 ≤ pi) (0, undef, undef) (Nat.zero_le _) rfl (by repeat constructor) sub_ ?_
  rintro ⟨j, w31, w32⟩ hj again
  dsimp only at hj again ⊢
  by_cases hlt : j < pi
  · have hj2 : j < 32768 := by omega
    have hcu : cntN (inB s3.ids) j ≤ j := cntN_le _ j
    have hcd : cntN (drB mf s3.ids) j ≤ j := cntN_le _ j
    refine walk ?_
    rw [show 1 + 0 * pi + j = 1 + j by omega]
    refine y_callq rfl rfl (getI_fn s4 (1 + j) (by omega) (by rw [hs4i]; omega)) ?_
    rw [hs4i]
    refine walkO ?_
    refine x_end ?_
    obtain ⟨v32, hv32⟩ : ∃ v32, v32 = optV (getI s3.ids (1 + j)) := ⟨_, rfl⟩
    rw [← hv32]
    obtain ⟨pw, hpw⟩ : ∃ pw, 2 ^ (j % 8) = pw := ⟨_, rfl⟩
    refine e_seq ?_
    refine e_cont (ι := Unit) (fun _ => [ptrV s4.wg, undef, .nilIface, .nilIface, ptrV root.g, .nilIface, .nilIface, .int .u32 (it : Int), .int .u32 (1 : Nat), .int .u32 (pi : Int), .nilIface, .int .u32 (bo : Int), .int .u32 (2 : Nat), .int .u32 (bo + 2 : Nat), .int .u32 (bo + 2 : Nat), .int .u32 (1 : Nat), .int .u32 (1 : Nat), .slice (some ⟨gg, 0, none⟩) 128 128, .int .u32 (pi / 16 : Nat), .int .u32 0, .int .u32 0, .int .u32 0, ptrV gb, .int .u16 (cntN (drB mf s3.ids) j : Nat), .int .u16 (cntN (inB s3.ids) (j + 1) : Nat), .int .u16 (32768 : Nat), undef, .int .u32 (bo + 2 : Nat), .int .u32 (2 : Nat), .int .u32 (32768 : Nat), .int .u32 (j : Nat), .int .u32 (1 + j : Nat), v32, undef, undef, undef, undef, undef, undef, undef, undef]) (fun _ => []) (fun _ => [Cells gb 211 (enc (bm (fbB s3.ids 32768 (j + 1)) 8192)), WP s4, NodesP l4, Own (some ⟨gg, 0, none⟩) 128 215 12 128 zg]) (fun _ => True) (fun rest => ?_) ?_
    · have r := rest () trivial
      clear rest
      cases hin : inB s3.ids j with
      | true =>
        rw [show cntN (inB s3.ids) (j + 1) = cntN (inB s3.ids) j + 1 from by simp [cntN, hin, b2n]] at r
        refine e_seq ?_
        refine e_region ?_
        by_cases h11 : 1 + j < 11
        · refine walkO ?_
          refine x_end ?_
          refine e_true rfl ?_
          have hpw2 := (pow8 (show j % 8 < 8 by omega)).2
          rw [hpw] at hpw2
          have hbl := byteOf_lt (fbB s3.ids 32768 j) ((32768 + j) / 8)
          refine e_seq ?_
          refine walk ?_
          refine y_loadCell (a := (32768 + j) / 8) (bm_cell (fbB s3.ids 32768 j) (n := 8192) (by omega)) ?_
          refine x_move rfl pt_ ?_
          refine x_bin rfl rfl (bRemN (by omega)) pt_ ?_
          refine y_shlBit hpw (by omega) ?_
          refine walk ?_
          refine y_storeCell (a := (32768 + j) / 8) (vs := enc (bm (fbB s3.ids 32768 j) 8192)) (u := .int .u8 ((byteOf (fbB s3.ids 32768 j) ((32768 + j) / 8) ||| pw : Nat) : Int)) (by rw [enc_len, bm_len]; omega) ?_
          rw [← hpw, show j % 8 = (32768 + j) % 8 by omega, bm_set, bm_congr (fun i _ => fbB_ino1 s3.ids hin i)]
          refine walkO ?_
          refine x_end ?_
          refine e_region ?_
          refine walkO ?_
          refine x_end ?_
          exact r.toP rfl (by repeat constructor) sub_
        · obtain ⟨gi, hgi⟩ : ∃ gi, getI s3.ids (1 + j) = some gi := by
            unfold inB at hin
            rw [decide_eq_false h11, Bool.false_or] at hin
            exact Option.isSome_iff_exists.1 hin
          rw [show v32 = ptrV gi from by rw [hv32, hgi]; rfl] at r ⊢
          refine walkO ?_
          refine x_end ?_
          refine e_true rfl ?_
          have hpw2 := (pow8 (show j % 8 < 8 by omega)).2
          rw [hpw] at hpw2
          have hbl := byteOf_lt (fbB s3.ids 32768 j) ((32768 + j) / 8)
          refine e_seq ?_
          refine walk ?_
          refine y_loadCell (a := (32768 + j) / 8) (bm_cell (fbB s3.ids 32768 j) (n := 8192) (by omega)) ?_
          refine x_move rfl pt_ ?_
          refine x_bin rfl rfl (bRemN (by omega)) pt_ ?_
          refine y_shlBit hpw (by omega) ?_
          refine walk ?_
          refine y_storeCell (a := (32768 + j) / 8) (vs := enc (bm (fbB s3.ids 32768 j) 8192)) (u := .int .u8 ((byteOf (fbB s3.ids 32768 j) ((32768 + j) / 8) ||| pw : Nat) : Int)) (by rw [enc_len, bm_len]; omega) ?_
          rw [← hpw, show j % 8 = (32768 + j) % 8 by omega, bm_set, bm_congr (fun i _ => fbB_ino1 s3.ids hin i)]
          refine walkO ?_
          refine x_end ?_
          refine e_region ?_
          refine walkO ?_
          refine x_end ?_
          exact r.toP rfl (by repeat constructor) sub_
      | false =>
        rw [show cntN (inB s3.ids) (j + 1) = cntN (inB s3.ids) j from by simp [cntN, hin, b2n], ← bm_congr (fun i _ => fbB_ino0 s3.ids hin i)] at r
        have h11 : ¬ 1 + j < 11 := by
          intro h11
          unfold inB at hin
          rw [decide_eq_true h11] at hin
          cases hin
        have hgi : getI s3.ids (1 + j) = none := by
          unfold inB at hin
          rw [decide_eq_false h11, Bool.false_or] at hin
          exact Option.isSome_eq_false_iff.1 hin |> fun h => by simpa using h
        rw [show v32 = .pointer none from by rw [hv32, hgi]; rfl] at r ⊢
        refine e_seq ?_
        refine e_region ?_
        refine walkO ?_
        refine x_end ?_
        refine e_false rfl ?_
        refine e_skip ?_
        exact r.toP rfl (by repeat constructor) sub_
    · rintro _ _
      have ag := again (j + 1, .int .u32 (1 + j : Nat), v32) (by dsimp only; omega) (by dsimp only; omega)
      dsimp only at ag
      cases hgi : getI s3.ids (1 + j) with
      | none =>
        rw [show cntN (drB mf s3.ids) (j + 1) = cntN (drB mf s3.ids) j from by simp [cntN, drB, hgi, b2n]] at ag
        rw [show v32 = .pointer none from by rw [hv32, hgi]; rfl] at ag ⊢
        refine walk ?_
        exact ag.toP rfl (by repeat constructor) sub_
      | some gi =>
        obtain ⟨jx, x, hx, hxg, hxm, hxl⟩ := hm j gi hgi
        rw [show v32 = ptrV gi from by rw [hv32, hgi]; rfl] at ag ⊢
        rw [← hxg] at ag ⊢
        refine walk ?_
        refine y_loadC (v := .int .u16 (x.mode : Int)) (.there (.there (NodesP.cell hx 6 _ fun _ => rfl))) ?_
        by_cases hd : x.mode &&& 61440 = 16384
        · rw [show cntN (drB mf s3.ids) (j + 1) = cntN (drB mf s3.ids) j + 1 from by simp [cntN, drB, hgi, b2n, ← hxm, hd]] at ag
          refine walk ?_
          exact ag.toP rfl (by repeat constructor) sub_
        · rw [show cntN (drB mf s3.ids) (j + 1) = cntN (drB mf s3.ids) j from by simp [cntN, drB, hgi, b2n, ← hxm, hd]] at ag
          refine walk ?_
          exact ag.toP rfl (by repeat constructor) sub_
  have hjb : j = pi := by omega
  rw [hjb]
  clear again
  have hnu : cntN (inB s3.ids) pi ≤ pi := cntN_le _ pi
  have hnd : cntN (drB mf s3.ids) pi ≤ pi := cntN_le _ pi
  generalize cntN (inB s3.ids) pi = nu at hnu ⊢
  generalize cntN (drB mf s3.ids) pi = nd at hnd ⊢
  obtain ⟨bs, hbs⟩ : ∃ bs, bs = bm (fbB s3.ids 32768 pi) 8192 := ⟨_, rfl⟩
  have hbl : bs.length = 8192 := by rw [hbs, bm_len]
  rw [← hbs]
  obtain ⟨s5, hs5⟩ : ∃ s5, s5 = { s4 with body := s4.body ++ bs } := ⟨_, rfl⟩
  have hww := write_w s4 bs (some ⟨gb, 0, none⟩) 8192 8192 (Cells gb 211 (enc bs)) ⟨by rw [enc_len, hbl], .inr ⟨gb, 0, rfl, CellRow.here⟩⟩ hbl (by omega) (by omega)
  rw [← hs5] at hww
  have hwg5 : s5.wg = s4.wg := by rw [hs5]
  refine walk ?_
  refine y_callD rfl rfl hww ?_
  refine walk ?_
  rw [show it + 0 * (pi / 16) = it by omega, show bo + 2 * 0 = bo from rfl, show 32768 - 32768 = 0 from rfl]
  refine y_storeM (o := 0) (vs := zg) (us := [.int .u32 (bo : Nat), .int .u32 (bo + 1 : Nat), .int .u32 (it : Nat), .int .u16 (0 : Nat), .int .u16 (pi - nu : Nat), .int .u16 (nd : Nat), .int .u16 0, .int .u32 0, .int .u16 0, .int .u16 0, .int .u16 0, .int .u16 0]) (by rw [hzg, made_len]; simp) ?_
  refine walk ?_
  rw [show 0 + 32768 = 32768 from rfl, Nat.zero_add, show 0 + 1 = 1 from rfl]
  refine E.toP (loc' := [ptrV s4.wg, undef, .nilIface, .nilIface, ptrV root.g, .nilIface, .nilIface, .int .u32 (it : Int), .int .u32 (1 : Nat), .int .u32 (pi : Int), .nilIface, .int .u32 (bo : Int), .int .u32 (2 : Nat), .int .u32 (bo + 2 : Nat), .int .u32 (bo + 2 : Nat), .int .u32 (1 : Nat), .int .u32 (1 : Nat), .slice (some ⟨gg, 0, none⟩) 128 128, .int .u32 (pi / 16 : Nat), .int .u32 (32768 : Nat), .int .u32 (nu : Nat), .int .u32 (1 : Nat), ptrV gb, .int .u16 (nd : Nat), .int .u16 (nu : Nat), .int .u16 (32768 : Nat), undef, .int .u32 (bo + 2 : Nat), .int .u32 (2 : Nat), .int .u32 (32768 : Nat), .int .u32 (pi : Nat), w31, w32, .int .i64 (8192 : Nat), .nilIface, undef, undef, undef, undef, undef, undef]) (tmp' := []) (ks := []) (L' := [WP s5, Own (some ⟨gg, 0, none⟩) 128 215 12 128 (ovw zg 0 [.int .u32 (bo : Nat), .int .u32 (bo + 1 : Nat), .int .u32 (it : Nat), .int .u16 (0 : Nat), .int .u16 (pi - nu : Nat), .int .u16 (nd : Nat), .int .u16 0, .int .u32 0, .int .u16 0, .int .u16 0, .int .u16 0, .int .u16 0])]) ?_ rfl (by repeat constructor) sub_
  refine y_again ?_
  refine walk ?_
  rw [← hwg5, show bo + 2 - bo - 2 = 0 by omega, show 0 * 4096 = 0 from rfl]
  have hb5 : s5.body.length = (bo - 2) * 4096 + 8192 := by rw [hs5]; simp [hb4, hbl]
  refine y_callD rfl rfl (zero0_w s5 (by intro h; rw [h] at hb5; simp at hb5) (by omega)) ?_
  refine walk ?_
  refine y_tno2 WP.op fun A c _ => ?_
  refine y_callD rfl rfl (seekBlock_fn s5.wg s5.dg (8192 + s5.body.length) 1 (mkB s5.body) (.slice A s5.ids.length c) (.string s5.cname) (optV s5.cur) (.int .i64 ((8192 + s5.body.length : Nat) : Int)) (.int .i64 (s5.dw : Int)) (.int .i64 (s5.dm : Int)) (.bool true) (.bool s5.inl) (.int .i64 ((17179869184 : Nat) : Int)) (.int .u32 1) (by omega)) ?_
  refine walkO ?_
  refine x_end ?_
  refine e_seq ?_
  refine e_seq ?_
  refine e_region ?_
  refine walkO ?_
  refine x_end ?_
  refine e_false rfl ?_
  refine e_skip ?_
  have hmk : mkB s5.body = List.replicate 8192 0 ++ s5.body := by rw [mkB, if_neg (by intro h; rw [h] at hb5; simp at hb5)]
  rw [hmk]
  have hdg5 : s5.dg = s3.dg := by rw [hs5, hs4]
  have hil5 : s5.inl = s3.inl := by rw [hs5, hs4]
  have hbd5 : s5.body = s3.body ++ tb ++ List.replicate (pi * 256 - s3.ids.length * 256) 0 ++ bm (fun _ => true) 4096 ++ bm (inB s3.ids) 4096 := by
    rw [hs5, hs4, hbs, fbB_end s3.ids pi p2 (by omega)]
    simp only [List.append_assoc]
  exact (closeG s5.wg s5.dg it pi bo nu nd gg s5.inl A c s5.ids.length s5.dw s5.dm s5.cname (optV s5.cur) s5.body zg _ _ _ _ _ _ _ _ _ _ _ _ _ _ (by omega) (by omega) (by omega) (by omega) hnu hnd hb5 hzg ⟨rfl, by rw [hdg5, hil5, hbd5]⟩).toP (ks := []) rfl (by repeat constructor) sub_
end Go.Proofs.YtppkiiomedembaaGreatDoor
