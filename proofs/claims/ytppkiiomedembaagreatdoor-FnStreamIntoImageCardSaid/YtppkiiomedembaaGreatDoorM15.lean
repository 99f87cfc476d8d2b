/-
  The walks: what an inode holds. Conditions: none.
-/
import Derived.Test.YtppkiiomedembaaGreatDoorM14
set_option linter.unusedVariables false
set_option linter.unusedSimpArgs false
namespace Go.Proofs.YtppkiiomedembaaGreatDoor
open Go
set_option maxRecDepth 100000
set_option maxHeartbeats 4000000
attribute [local irreducible] E EO
structure ExtR (R : List UInt8) (st n : Nat) : Prop where
  r0 : leAt R 0 2 = 62218
  r2 : leAt R 2 2 = 1
  r4 : leAt R 4 2 = 4
  r6 : leAt R 6 2 = 0
  r12 : leAt R 12 4 = 0
  r16 : leAt R 16 2 = n
  r18 : leAt R 18 2 = 0
  r20 : leAt R 20 4 = st
theorem contentX_fn (s : Vs) (g : Geo s) (x : RI) (ev V : Value) (gx o c st n : Nat) (B : List UInt8) (hr : CellRow [ImgP s] s.ig o (enc B)) (hl : B.length = 256) (hc : 256 ≤ c) (hmd : x.mode < 65536) (hk : ftN x.mode = 1 ∨ ftN x.mode = 2) (hfl : x.flags < 4294967296) (hfx : x.flags &&& 524288 ≠ 0)
    (hR : ExtR ((B.drop 40).take 60) st n) (hn : 1 ≤ n) (hn2 : n ≤ 30000) (hsz : x.size ≤ n * 4096) (hsz2 : (n - 1) * 4096 < x.size) (hst : st + n ≤ s.nb) (hcl : ∀ i, st ≤ i → i < st + n → i ∉ s.cl) (hb : x.blks ≤ 1000000) :
    Fe Tryz.prog 179 #[ptrV s.vg, ptrV gx, .slice (some ⟨s.ig, o, none⟩) 256 c, V] [VP s, ImgP s, Cells gx 74 (rC x (.slice none 0 0) ev false x.blks)] (fun _ : Nat × Nat => True) (fun _ => .tuple #[])
      (fun i => [VP { s with cl := (List.range' st n).reverse ++ s.cl }, ImgP s, Cells gx 74 (rC x (.slice (some ⟨i.1, 0, none⟩) x.size i.2) ev false (x.blks + n)), Own (some ⟨i.1, 0, none⟩) i.2 5 1 x.size (enc ((s.img.drop (st * 4096)).take x.size))]) := by
  have hg := g
  obtain ⟨g1, g2, g3, g4, g5, g6⟩ := g
  have hk1 : ftN x.mode ≠ 3 ∧ ftN x.mode ≠ 4 ∧ ftN x.mode ≠ 5 ∧ ftN x.mode ≠ 6 := by omega
  obtain ⟨k3, k4, k5, k6⟩ := hk1
  have hkf := kindOf_fn x.mode hmd
  generalize ftN x.mode = kk at k3 k4 k5 k6 hkf
  have hszi : x.size ≤ s.img.length := by omega
  refine fn_of_E' (args := [_, _, _, _]) 12 _ [_, _, _, _, undef, undef, undef, undef, undef, undef, undef, undef] Tryz.func179 rfl Tryz.ntmps179 ?_
  refine walk ?_
  refine y_callq rfl rfl hkf ?_
  refine walk ?_
  refine y_loadC (v := .slice (some ⟨s.ig, 0, none⟩) s.img.length s.ic) (VP.cell 3 _ fun _ _ _ _ => rfl) ?_
  refine walk ?_
  refine y_callq rfl rfl (must_fn (ptrV s.vg) _ x.num) ?_
  refine walk ?_
  refine y_loadC (v := .slice (some ⟨s.ig, 0, none⟩) s.img.length s.ic) (VP.cell 3 _ fun _ _ _ _ => rfl) ?_
  refine walk ?_
  refine y_make rfl rfl fun gC => ?_
  refine walk ?_
  refine y_alloc fun gn => ?_
  refine walk ?_
  rw [← enc_zeros]
  refine y_callD rfl rfl (ext1_fn s hg x ev false gx gn gC x.size (o + 40 * 1) (c - 40) st n ((B.drop 40).take 60) ((hr.sufE (p := o + 40 * 1) (k := 40) (by omega)).takeE (k := 60)) (by simp [hl]) (by omega) hR.r0 hR.r2 hR.r4 hR.r6 hR.r12 hR.r16 hR.r18 hR.r20 hn hn2 hsz hsz2 hst hcl hb) ?_
  refine walk ?_
  refine y_callq rfl rfl (must_fn (ptrV s.vg) _ x.num) ?_
  refine walk ?_
  exact y_end [] rfl ⟨(gC, x.size), trivial, rfl, rfl⟩
theorem contentE_fn (s : Vs) (g : Geo s) (x : RI) (ev V : Value) (gx o c : Nat) (hc : 256 ≤ c) (hmd : x.mode < 65536) (hk : ftN x.mode = 1) (hfl : x.flags < 4294967296) (hfx : x.flags &&& 524288 = 0) (hsz : x.size = 0) :
    Fd Tryz.prog 179 #[ptrV s.vg, ptrV gx, .slice (some ⟨s.ig, o, none⟩) 256 c, V] [VP s, Cells gx 74 (rC x (.slice none 0 0) ev false x.blks)] (.tuple #[]) [VP s, Cells gx 74 (rC x (.slice none 0 0) ev false x.blks)] := by
  obtain ⟨g1, g2, g3, g4, g5, g6⟩ := g
  have hkf := kindOf_fn x.mode hmd
  rw [hk] at hkf
  refine fn_of_E' (args := [_, _, _, _]) 12 _ [_, _, _, _, undef, undef, undef, undef, undef, undef, undef, undef] Tryz.func179 rfl Tryz.ntmps179 ?_
  refine walk ?_
  refine y_callq rfl rfl hkf ?_
  refine walk ?_
  refine y_loadC (v := .slice (some ⟨s.ig, 0, none⟩) s.img.length s.ic) (VP.cell 3 _ fun _ _ _ _ => rfl) ?_
  refine walk ?_
  refine y_callq rfl rfl (must_fn (ptrV s.vg) _ x.num) ?_
  refine walk ?_
  refine y_loadC (v := .slice (some ⟨s.ig, 0, none⟩) s.img.length s.ic) (VP.cell 3 _ fun _ _ _ _ => rfl) ?_
  refine walk ?_
  refine y_callq rfl rfl hkf ?_
  refine walk ?_
  refine y_callq rfl rfl (must_fn (ptrV s.vg) _ x.num) ?_
  refine walk ?_
  exact y_end [] rfl ⟨rfl, rfl⟩
theorem contentI_fn (s : Vs) (g : Geo s) (x : RI) (ev : Value) (gx o c m cv : Nat) (V : Option Addr) (v B : List UInt8) (Mv : HP) (hv : Rd [Mv] V m 1 (enc v)) (hvm : v.length = m) (hV : V = none → m = 0) (hr : CellRow [ImgP s] s.ig o (enc B)) (hl : B.length = 256) (hc : 256 ≤ c) (hmd : x.mode < 65536) (hk : ftN x.mode = 1)
    (hsz : x.size ≤ 60 + m) (hm : m ≤ 1000) :
    Fe Tryz.prog 179 #[ptrV s.vg, ptrV gx, .slice (some ⟨s.ig, o, none⟩) 256 c, .slice V m cv] [VP s, ImgP s, Cells gx 74 (rC x (.slice none 0 0) ev true x.blks), Mv] (fun _ : Nat × Nat => True) (fun _ => .tuple #[])
      (fun i => [VP s, ImgP s, Cells gx 74 (rC x (.slice (some ⟨i.1, 0, none⟩) x.size i.2) ev true x.blks), Mv, Own (some ⟨i.1, 0, none⟩) i.2 5 1 x.size (enc (((B.drop 40).take 60 ++ v).take x.size))]) := by
  obtain ⟨g1, g2, g3, g4, g5, g6⟩ := g
  have hkf := kindOf_fn x.mode hmd
  rw [hk] at hkf
  have hszi : x.size ≤ s.img.length := by omega
  have hrb : CellRow [ImgP s] s.ig (o + 40 * 1) (enc ((B.drop 40).take 60)) := (hr.sufE (p := o + 40 * 1) (k := 40) (by omega)).takeE (k := 60)
  have hbl : ((B.drop 40).take 60).length = 60 := by simp [hl]
  generalize (B.drop 40).take 60 = blk at hrb hbl ⊢
  refine fn_of_E' (args := [_, _, _, _]) 12 _ [_, _, _, _, undef, undef, undef, undef, undef, undef, undef, undef] Tryz.func179 rfl Tryz.ntmps179 ?_
  refine walk ?_
  refine y_callq rfl rfl hkf ?_
  refine walk ?_
  refine y_loadC (v := .slice (some ⟨s.ig, 0, none⟩) s.img.length s.ic) (VP.cell 3 _ fun _ _ _ _ => rfl) ?_
  refine walk ?_
  refine y_callq rfl rfl (must_fn (ptrV s.vg) _ x.num) ?_
  refine walk ?_
  refine y_loadC (v := .slice (some ⟨s.ig, 0, none⟩) s.img.length s.ic) (VP.cell 3 _ fun _ _ _ _ => rfl) ?_
  refine walk ?_
  refine y_build0 fun ga => ?_
  refine walk ?_
  refine EO.eqL (L' := [Own (some ⟨ga, 0, none⟩) 0 5 1 0 (enc []), _, _, _, _]) rfl ?_
  refine y_appE (bs := []) (us := blk) rfl rfl (fun A' c' => ?_) take_ (hrb.of_take take_) hbl
  rw [List.nil_append]
  refine walk ?_
  refine x_app (vs := enc blk) (news := enc v) rfl rfl take_ (hv.take take_) hV enc_one rfl (by omega) (by simp only [maxLen]; omega) (by omega) (fun A5 c5 => ⟨_, _, pt_, ?_⟩)
  rw [← enc_app]
  refine EO.know .here (fun _ _ => Own.know) fun hk => ?_
  obtain ⟨k1, k2, k3, k4⟩ := hk
  cases A5 with
  | none => have := k3 rfl; omega
  | some ad =>
  obtain ⟨gr, rfl⟩ := k4 ad rfl
  refine walk ?_
  refine y_callq rfl rfl (must_fn (ptrV s.vg) _ x.num) ?_
  refine walk ?_
  rw [show min x.size (0 + (100 - 40) + m) = x.size by omega]
  refine y_tn (Own.shrink (A := some ⟨gr, 0, none⟩) (c := c5) (n := 0 + (100 - 40) + m) (m := x.size) (vs := enc (blk ++ v)) (by omega)) fun _ _ => ?_
  rw [← enc_take]
  exact y_end [] rfl ⟨(gr, c5), trivial, rfl, rfl⟩
end Go.Proofs.YtppkiiomedembaaGreatDoor
