/-
  The walks: an image is read; The walks: a node's names; A walk by symbolic states: maps whose keys are small numbers; The walks: a file system in memory: its small functions; The walks: a file in memory is written and read. Conditions: none.
-/
import Derived.Test.YtppkiiomedembaaGreatDoorM17
import Derived.Test.YtppkiiomedembaaGreatDoorM03
import Derived.Test.YtppkiiomedembaaGreatDoorM07
import Derived.Test.YtppkiiomedembaaGreatDoorM05
import Derived.Test.YtppkiiomedembaaGreatDoorM13
set_option linter.unusedVariables false
set_option linter.unusedSimpArgs false
namespace Go.Proofs.YtppkiiomedembaaGreatDoor
open Go
set_option maxRecDepth 100000
set_option maxHeartbeats 400000
attribute [local irreducible] E EO
structure SbR (img : List UInt8) (nb pi inc : Nat) : Prop where
  f0 : leAt img 1024 4 = pi
  f4 : leAt img 1028 4 = nb
  f20 : leAt img 1044 4 = 0
  f24 : leAt img 1048 4 = 2
  f32 : leAt img 1056 4 = 32768
  f40 : leAt img 1064 4 = pi
  f56 : leAt img 1080 2 = 61267
  f58 : leAt img 1082 2 = 1
  f76 : leAt img 1100 4 = 1
  f84 : leAt img 1108 4 = 11
  f88 : leAt img 1112 2 = 256
  f92 : leAt img 1116 4 = 520
  f96 : leAt img 1120 4 = inc
  f100 : leAt img 1124 4 = 4170
  f336 : leAt img 1360 4 = 0
  hinc : inc = 578 ∨ inc = 33346
theorem Read_fn (s0 : Vs) (g : Geo s0) (inc : Nat) (h : SbR s0.img s0.nb s0.pi inc) (it bb : Nat) (hb : leAt s0.img 4096 4 = bb) (hi : leAt s0.img 4100 4 = bb + 1) (ht : leAt s0.img 4104 4 = it) (h1 : 2 ≤ it) (h2 : it + (s0.pi * 256 + 4095) / 4096 ≤ bb) (h3 : bb + 1 < s0.nb)
    (cl' : List Nat) (inos' : List RI) (htree : ∀ vg, Fd Tryz.prog 51 #[ptrV vg, .int .u64 11] [VP { s0 with vg := vg, cl := gcl it ((s0.pi * 256 + 4095) / 4096) bb, inos := [] }, ImgP s0] (.tuple #[]) [VP { s0 with vg := vg, cl := cl', inos := inos' }, ImgP s0])
    (fb fi : Nat → Bool) (hmark : MarkR { s0 with cl := cl', inos := inos' } bb it fb fi) :
    Fe Tryz.prog 12 #[.slice (some ⟨s0.ig, 0, none⟩) s0.img.length s0.ic] [ImgP s0] (fun _ : Nat => True) (fun vg => ptrV vg) (fun vg => [VP { s0 with vg := vg, cl := cl', inos := inos' }, ImgP s0]) := by
  have hg := g
  obtain ⟨g1, g2, g3, g4, g5, g6⟩ := g
  obtain ⟨q0, q4, q20, q24, q32, q40, q56, q58, q76, q84, q88, q92, q96, q100, q336, qinc⟩ := h
  have le := sble_fn s0 hg (s0.ic - 1024)
  have l0 := le 0 4 (by omega) (by omega); rw [show 1024 + 0 = 1024 from rfl, q0] at l0
  have l4 := le 4 4 (by omega) (by omega); rw [show 1024 + 4 = 1028 from rfl, q4] at l4
  have l20 := le 20 4 (by omega) (by omega); rw [show 1024 + 20 = 1044 from rfl, q20] at l20
  have l24 := le 24 4 (by omega) (by omega); rw [show 1024 + 24 = 1048 from rfl, q24] at l24
  have l32 := le 32 4 (by omega) (by omega); rw [show 1024 + 32 = 1056 from rfl, q32] at l32
  have l40 := le 40 4 (by omega) (by omega); rw [show 1024 + 40 = 1064 from rfl, q40] at l40
  have l56 := le 56 2 (by omega) (by omega); rw [show 1024 + 56 = 1080 from rfl, q56] at l56
  have l58 := le 58 2 (by omega) (by omega); rw [show 1024 + 58 = 1082 from rfl, q58] at l58
  have l76 := le 76 4 (by omega) (by omega); rw [show 1024 + 76 = 1100 from rfl, q76] at l76
  have l84 := le 84 4 (by omega) (by omega); rw [show 1024 + 84 = 1108 from rfl, q84] at l84
  have l88 := le 88 2 (by omega) (by omega); rw [show 1024 + 88 = 1112 from rfl, q88] at l88
  have l96 := le 96 4 (by omega) (by omega); rw [show 1024 + 96 = 1120 from rfl, q96] at l96
  have l100 := le 100 4 (by omega) (by omega); rw [show 1024 + 100 = 1124 from rfl, q100] at l100
  have l336 := le 336 4 (by omega) (by omega); rw [show 1024 + 336 = 1360 from rfl, q336] at l336
  have hlen : 8192 ≤ s0.img.length := by omega
  refine fn_of_E' (args := [_]) 7 _ [_, undef, undef, undef, undef, undef, undef] Tryz.func12 rfl Tryz.ntmps12 ?_
  refine walk ?_
  refine y_boxA rfl fun vg => ?_
  refine walk ?_
  refine y_build0 fun gz => ?_
  refine walk ?_
  refine y_callq rfl rfl l56 ?_
  refine walk ?_
  refine y_callq rfl rfl l56 ?_
  refine walk ?_
  refine y_callq rfl rfl (must_fn (ptrV vg) _ 61267) ?_
  refine walk ?_
  refine y_callq rfl rfl l4 ?_
  refine walk ?_
  refine y_callq rfl rfl l336 ?_
  refine walk ?_
  rw [show s0.nb ||| 0 * 2 ^ 32 = s0.nb from by simp]
  refine y_callq rfl rfl l32 ?_
  refine walk ?_
  refine y_callq rfl rfl l40 ?_
  refine walk ?_
  refine y_callq rfl rfl l88 ?_
  refine walk ?_
  refine y_callq rfl rfl l96 ?_
  refine walk ?_
  refine y_callq rfl rfl l100 ?_
  refine walk ?_
  refine e_cont (ι := Unit) (fun _ => [.slice (some ⟨s0.ig, 0, none⟩) s0.img.length s0.ic, undef, .pointer none, ptrV vg, .slice (some ⟨s0.ig, 1024, none⟩) 1024 (s0.ic - 1024), .int .u64 (inc : Int), .int .u64 (4170 : Nat)]) (fun _ => []) (fun _ => [Cells vg 71 [.slice none 0 0, .int .u64 (s0.nb : Int), .slice none 0 0, .slice (some ⟨s0.ig, 0, none⟩) s0.img.length s0.ic, .int .u64 0, .int .u64 (32768 : Nat), .int .u64 (s0.pi : Int), .int .u64 (256 : Nat), .int .u64 32, .slice none 0 0, .bool false], ImgP s0]) (fun _ => True) (fun rest => ?_) ?_
  · have hw : (((inc &&& 128 : Nat) : Int) != 0) = false := by rcases qinc with rfl | rfl <;> rfl
    rw [hw]
    refine e_false rfl ?_
    refine e_skip ?_
    exact (rest () trivial).toP rfl (by repeat constructor) sub_
  · clear le
    rintro _ _
    refine walk ?_
    refine y_callq rfl rfl l76 ?_
    refine walk ?_
    refine y_callq rfl rfl l76 ?_
    refine walk ?_
    refine y_callq rfl rfl (must_fn (ptrV vg) _ 1) ?_
    refine walk ?_
    refine y_callq rfl rfl l24 ?_
    refine walk ?_
    refine y_callq rfl rfl l24 ?_
    refine walk ?_
    refine y_callq rfl rfl (must_fn (ptrV vg) _ 2) ?_
    refine walk ?_
    refine y_callq rfl rfl l20 ?_
    refine walk ?_
    refine y_callq rfl rfl l20 ?_
    refine walkO ?_
    refine y_callq rfl rfl (must_fn (ptrV vg) _ 0) ?_
    refine x_end ?_
    refine e_seq ?_
    refine e_cont (ι := Unit) (fun _ => [.slice (some ⟨s0.ig, 0, none⟩) s0.img.length s0.ic, undef, .pointer none, ptrV vg, .slice (some ⟨s0.ig, 1024, none⟩) 1024 (s0.ic - 1024), .int .u64 (inc : Int), .int .u64 (4170 : Nat)]) (fun _ => []) (fun _ => [Cells vg 71 [.slice none 0 0, .int .u64 (s0.nb : Int), .slice none 0 0, .slice (some ⟨s0.ig, 0, none⟩) s0.img.length s0.ic, .int .u64 0, .int .u64 (32768 : Nat), .int .u64 (s0.pi : Int), .int .u64 (256 : Nat), .int .u64 32, .slice none 0 0, .bool false], ImgP s0]) (fun _ => True) (fun rest => ?_) ?_
    · rcases qinc with rfl | rfl
      · refine e_region ?_
        refine walkO ?_
        refine y_callq rfl rfl (must_fn (ptrV vg) _ _) ?_
        refine x_end ?_
        exact (rest () trivial).toP rfl (by repeat constructor) sub_
      · refine e_region ?_
        refine walkO ?_
        refine y_callq rfl rfl (must_fn (ptrV vg) _ _) ?_
        refine x_end ?_
        exact (rest () trivial).toP rfl (by repeat constructor) sub_
    · rintro _ _
      refine walk ?_
      refine y_callq rfl rfl (must_fn (ptrV vg) _ 4170) ?_
      refine walk ?_
      refine y_callq rfl rfl (must_fn (ptrV vg) _ 32768) ?_
      refine walk ?_
      refine y_callq rfl rfl (must_fn (ptrV vg) _ s0.pi) ?_
      refine walk ?_
      refine y_callq rfl rfl (must_fn (ptrV vg) _ 256) ?_
      refine walk ?_
      refine y_callq rfl rfl (must_fn (ptrV vg) _ 32) ?_
      refine walk ?_
      refine y_callq rfl rfl (must_fn (ptrV vg) _ s0.nb) ?_
      refine walkO ?_
      refine x_end ?_
      refine e_seq ?_
      refine e_seq ?_
      refine e_region ?_
      refine walkO ?_
      refine x_end ?_
      refine e_false rfl ?_
      refine e_skip ?_
      refine e_seq ?_
      refine e_draw ?_
      refine x_move rfl pt_ ?_
      refine x_move rfl pt_ ?_
      refine x_nilCheck rfl pt_ ?_
      refine x_fieldAddr rfl pt_ ?_
      refine x_load rfl (by first | ((repeat (first | ((with_reducible apply Cell.here); exact rfl) | (with_reducible apply Cell.there))) <;> fail) | fail) pt_ ?_
      refine x_move rfl pt_ ?_
      refine x_nilCheck rfl pt_ ?_
      refine x_fieldAddr rfl pt_ ?_
      refine x_load rfl (by first | ((repeat (first | ((with_reducible apply Cell.here); exact rfl) | (with_reducible apply Cell.there))) <;> fail) | fail) pt_ ?_
      refine x_bin rfl rfl (bAddN (wu64 (by omega) (by omega))) pt_ ?_
      refine x_bin rfl rfl (bSubN (by omega) (wu64 (by omega) (by omega))) pt_ ?_
      refine x_move rfl pt_ ?_
      refine x_nilCheck rfl pt_ ?_
      refine x_fieldAddr rfl pt_ ?_
      refine x_load rfl (by first | ((repeat (first | ((with_reducible apply Cell.here); exact rfl) | (with_reducible apply Cell.there))) <;> fail) | fail) pt_ ?_
      refine x_bin rfl rfl (bQuoN (by omega) (wu64 (by omega) (by omega))) pt_ ?_
      rw [show (s0.nb + 32768 - 1) / 32768 = 1 by omega]
      refine walk ?_
      refine y_callq rfl rfl l0 ?_
      refine walk ?_
      refine y_callq rfl rfl l0 ?_
      refine walk ?_
      refine y_callq rfl rfl (must_fn (ptrV vg) _ s0.pi) ?_
      refine walk ?_
      refine y_callq rfl rfl l58 ?_
      refine walk ?_
      refine y_callq rfl rfl l58 ?_
      refine walk ?_
      refine y_callq rfl rfl (must_fn (ptrV vg) _ 1) ?_
      refine walk ?_
      refine y_make rfl rfl fun gO => ?_
      refine walkO ?_
      refine x_end ?_
      refine E.nilOwn (e := 74) (sz := 23) ?_
      refine y_tn (Tn.close (L := [])) fun _ _ => ?_
      rw [show List.replicate s0.nb (Value.int .u8 0) = enc (ownB s0.nb []) from by
        rw [← enc_zeros]
        congr 1
        apply List.ext_getElem?
        intro i
        by_cases hi : i < s0.nb
        · rw [ownB_get _ hi, List.getElem?_replicate, if_pos hi]; simp
        · rw [List.getElem?_eq_none (by simp; omega), List.getElem?_eq_none (by simp [ownB_len]; omega)]]
      have hT : Tn [Cells vg 71 [.slice none 0 0, .int .u64 (s0.nb : Int), .slice none 0 0, .slice (some ⟨s0.ig, 0, none⟩) s0.img.length s0.ic, .int .u64 ((1 : Nat) : Int), .int .u64 ((32768 : Nat) : Int), .int .u64 (s0.pi : Int), .int .u64 ((256 : Nat) : Int), .int .u64 32, .slice (some ⟨gO, 0, none⟩) s0.nb s0.nb, .bool false], Own none 0 74 23 0 [], Own (some ⟨gO, 0, none⟩) s0.nb 5 1 s0.nb (enc (ownB s0.nb [])), HP.star []] (fun _ : Unit => True) (fun _ => [VP { s0 with vg := vg, cl := [], inos := [] }]) :=
        VP.cl_ { s0 with vg := vg, cl := [], inos := [] } (AI := none) (cI := 0) (gO := gO) (cO := s0.nb) (rs := []) rfl
      refine y_tn hT fun _ _ => ?_
      have hrg := readGroups_fn { s0 with vg := vg, cl := [], inos := [] } ⟨g1, g2, g3, g4, g5, g6⟩ (s0.ic - 1024) it bb rfl q92 hb hi ht h1 h2 h3
      refine walk ?_
      refine y_callD rfl rfl hrg ?_
      refine walk ?_
      refine y_callq rfl rfl l84 ?_
      refine walk ?_
      refine y_callD rfl rfl (htree vg) ?_
      refine walk ?_
      have hcm := checkMarks_fn { s0 with vg := vg, cl := cl', inos := inos' } ⟨g1, g2, g3, g4, g5, g6⟩ (s0.ic - 1024) bb it fb fi ⟨hmark.1, hmark.2, hmark.3, hmark.4, hmark.5, hmark.6, hmark.7, hmark.8, hmark.9, hmark.10, hmark.11, hmark.12, hmark.13, hmark.14, hmark.15, hmark.16, hmark.17, hmark.18, hmark.19⟩
      refine y_callD rfl rfl hcm ?_
      refine walk ?_
      exact y_ret [2] rfl ⟨vg, trivial, rfl, rfl⟩
end Go.Proofs.YtppkiiomedembaaGreatDoor
namespace Go.Proofs.YtppkiiomedembaaGreatDoor
open Go
set_option maxRecDepth 100000
set_option maxHeartbeats 4000000
attribute [local irreducible] E EO
section
variable {X : Fx} {ops : Array Oper} {cf : Nat → Cls} {k : List Item} {i : Nat} {is : List Nat} {l : List Oper} {loc loc' : List Value} {tmp tmp' : List (Nat × Value)} {L L' F M : List HP}
  {d : Option Tmp} {ty : TypeId} {pos : String} {aft : Array Edge} {gd : Option (Nat × Bool)}
theorem x_sLt {T T' : Nat} {x y : Operand} {s t : List UInt8} {v : Bool} (hv : Op.bytesLess s t = v) (h : EO X ops cf k is l loc' tmp' L) (hx : sv loc tmp x = some (.string (str s)) := by rfl) (hy : sv loc tmp y = some (.string (str t)) := by rfl)
    (hp : Pt loc tmp d (.bool v) loc' tmp' := by exact pt_)
    (hg : gdv ops loc tmp gd = some true := by rfl) (hd : dOK X.n d = true := by rfl) : EO X ops cf k (i :: is) (⟨d, .binOp .lss T x y T', ty, pos, aft, gd⟩ :: l) loc tmp L :=
  x_str (op := .lss) (v := v) hx hy (by simp only [str_toList, hv]) hp h hg hd
end
section
variable {X : Fx} {ops : Array Oper} {cf : Nat → Cls} {k : List Item} {i : Nat} {is : List Nat} {l : List Oper} {loc loc' : List Value} {tmp tmp' : List (Nat × Value)} {L L' F M : List HP}
  {d : Option Tmp} {ty : TypeId} {pos : String} {aft : Array Edge} {gd : Option (Nat × Bool)} {locq : Option Addr → Nat → List Value} {tmpq : Option Addr → Nat → List (Nat × Value)}
theorem y_appN {t e b m c' g : Nat} {z : Value} {x y : Operand} {B : Option Addr} {news : List Value} [SlE X.P t e 1 b [z]] (hx : sv loc tmp x = some (.slice (some ⟨g, 0, none⟩) 0 0)) (hy : sv loc tmp y = some (.slice B m c'))
    (hr : Rd F B m 1 news) (hB : B = none → m = 0) (h1 : ∀ u ∈ news, u.oneCell' = true) (h : ∀ A2 c2, EO X ops cf k is l (locq A2 c2) (tmpq A2 c2) (Own A2 c2 e 1 m news :: F))
    (ht : Take (Own (some ⟨g, 0, none⟩) 0 e 1 0 []) L F := by exact take_) (h63 : m ≤ 1000000000 := by omega) (hby : m * b ≤ 140737488355328 := by omega)
    (hp : ∀ A2 c2, Pt loc tmp d (.slice A2 m c2) (locq A2 c2) (tmpq A2 c2) := by intro _ _; first | exact Pt.tmp rfl | exact Pt.none | exact Pt.loc (by repeat constructor))
    (hg : gdv ops loc tmp gd = some true := by rfl) (hd : dOK X.n d = true := by rfl) (hcl : (cf i).news = true := by rfl) (hq : X.q = false := by rfl) :
    EO X ops cf k (i :: is) (⟨d, .call ⟨.builtin .append, #[x, y], #[t, t]⟩, ty, pos, aft, gd⟩ :: l) loc tmp L :=
  x_new (Rv := fun v L'' => ∃ A2 c2, v = .slice A2 m c2 ∧ L'' = Own A2 c2 e 1 m news :: F) hg hcl (fun a hrl w0 S0 w hs q => by
    have hs1 := (hs.wat q).perm ht.perm
    have hext : ∀ w', Ext (wat w q) w' → Ext w w' := fun _ h => h
    generalize wat w q = w1 at hs1 hext ⊢
    obtain ⟨hut, it, zv, hi, hisz, hib, hizv, hzv⟩ := SlE.out (P := X.P) (T := t) (e := e) (sz := 1) (b := b) (z := [z])
    have hzc : zv.cells = #[z] := by apply Array.ext'; simpa using hzv
    obtain ⟨S, ⟨S1, S2, hS1, hS2, hdis, hun⟩, hin⟩ := hs1.sat
    have hnl : news.length = m := by simpa using hr.1
    by_cases hm : m = 0
    · subst hm
      have hnn : news = [] := List.length_eq_zero_iff.1 hnl
      subst hnn
      have hfc : (Builtin.firstCells 1 0 (.slice B 0 c')).run X.P w1 = .ok #[] w1 := by
        cases B with
        | none => exact run_firstCells_none w1 1 0 0 c'
        | some a => exact run_firstCells_some w1 1 0 a 0 c' [] rfl (fun j v h => by simp at h)
      have hrun : (Builtin.append_ #[t, t] ty #[.slice (some ⟨g, 0, none⟩) 0 0, .slice B 0 c']).run X.P w1 = .ok (.slice (some ⟨g, 0, none⟩) 0 0) w1 := by
        simp [Builtin.append_, run_underlying hut, sizeOf, typeInfo, hi, hisz, Builtin.lenOf, hfc, storeCells]
      simp [RunN, execOp, resolve, invoke, builtin, hrl.ev hx, hrl.ev hy, hrun]
      exact ⟨hext _ (Ext.refl _), _, ⟨_, _, ⟨rfl, rfl⟩, rfl⟩, hs1⟩
    · rcases hr.2 with h0 | ⟨g2, o2, rfl, hc⟩
      · exact absurd h0 hm
      have hnews : ∀ j v, news[j]? = some v → w1.cell? ((⟨g2, o2, none⟩ : Addr).add j) = some v := fun j v hj => by rw [add_at]; exact ((hc j v hj).there).at_ hs1
      have hfit : Builtin.nextslicecap (0 + m) 0 * it.bytes ≤ 281474976710656 := by rw [hib]; exact growslice_fits (by omega) (by simpa using hby)
      have hrun := run_append_grow (P := X.P) w1 t ty e it zv hut hi hizv ⟨g, 0, none⟩ 0 0 [] (by simp) (fun j v h => by simp at h) ⟨g2, o2, none⟩ m c' news (by rw [hisz]; omega) hnews (by omega) (by omega) hfit
      rw [Nat.zero_add] at hrun
      have hge := grownCap_ge w1 m 0 e
      have hle : grownCap w1 m 0 e ≤ maxLen := grownCap_le_maxLen w1 m 0 e (by simp only [maxLen]; omega)
      have hst2 : St false w0 S0 (Own (some ⟨w1.heap.size, 0, none⟩) (grownCap w1 m 0 e) e 1 m news :: F) (w1.drew.alloc (.cells (([] : List Value).toArray ++ news.toArray ++ Builtin.zeroCells zv.cells (grownCap w1 m 0 e - m)) e)) :=
        St.step (M := [Own (some ⟨g, 0, none⟩) 0 e 1 0 []]) (L' := [Own (some ⟨w1.heap.size, 0, none⟩) (grownCap w1 m 0 e) e 1 m news]) hs1 rfl rfl rfl (by simp) fun S' hS' => by
          refine ⟨fun x hx hnx => heap_alloc_old w1.drew _ hx, fun x => x = w1.heap.size, sats_one ⟨by simp [hnl], by omega, hle, .inr ⟨w1.heap.size, (Builtin.zeroCells zv.cells (grownCap w1 m 0 e - m)).toList, rfl, fun x => Iff.rfl, ?_, ?_⟩⟩, fun x hx => .inr (by omega)⟩
          · refine (heap_alloc_new w1.drew _).trans ?_
            simp
          · simp [hnl, hzc, zeroCells_one]; omega
      simp [RunN, execOp, resolve, invoke, builtin, hrl.ev hx, hrl.ev hy, hrun]
      rw [hq]
      exact ⟨hext _ (fun k o hk => (heap_alloc_old w1.drew _ (Array.getElem?_eq_some_iff.1 hk).1).trans hk), _, ⟨_, _, ⟨rfl, rfl⟩, rfl⟩, by simpa using hst2⟩) hd (fun v L'' ⟨A', c'', e1, e2⟩ => by subst e1 e2; exact ⟨_, _, hp A' c'', h A' c''⟩)
end
def nmV (l : List (List UInt8 × Nat)) : List Value := l.map fun p => .string (str p.1)
def kdV (l : List (List UInt8 × Nat)) : List Value := l.map fun p => .int .i64 (p.2 : Int)
theorem nmV_get {l : List (List UInt8 × Nat)} {i : Nat} {p : List UInt8 × Nat} (h : l[i]? = some p) : (nmV l)[i]? = some (.string (str p.1)) := by simp [nmV, h]
theorem kdV_get {l : List (List UInt8 × Nat)} {i : Nat} {p : List UInt8 × Nat} (h : l[i]? = some p) : (kdV l)[i]? = some (.int .i64 (p.2 : Int)) := by simp [kdV, h]
theorem nmV_take (l : List (List UInt8 × Nat)) (p : Nat) : nmV (l.take p) = (nmV l).take p := by simp [nmV]
theorem kdV_take (l : List (List UInt8 × Nat)) (p : Nat) : kdV (l.take p) = (kdV l).take p := by simp [kdV]
theorem nmV_drop (l : List (List UInt8 × Nat)) (p : Nat) : nmV (l.drop p) = (nmV l).drop p := by simp [nmV]
theorem kdV_drop (l : List (List UInt8 × Nat)) (p : Nat) : kdV (l.drop p) = (kdV l).drop p := by simp [kdV]
theorem nmV_one {l : List (List UInt8 × Nat)} {u : Value} (h : u ∈ nmV l) : u.oneCell' = true := by obtain ⟨q, _, rfl⟩ := List.mem_map.1 h; rfl
theorem kdV_one {l : List (List UInt8 × Nat)} {u : Value} (h : u ∈ kdV l) : u.oneCell' = true := by obtain ⟨q, _, rfl⟩ := List.mem_map.1 h; rfl
def placeN : List (List UInt8 × Nat) → List UInt8 → Nat
  | [], _ => 0
  | a :: r, nm => if Op.bytesLess a.1 nm = true then placeN r nm + 1 else 0
theorem placeN_le : ∀ (l : List (List UInt8 × Nat)) (nm : List UInt8), placeN l nm ≤ l.length
  | [], _ => Nat.le_refl _
  | a :: r, nm => by
    have := placeN_le r nm
    simp only [placeN, List.length_cons]
    split <;> omega
def hasN (l : List (List UInt8 × Nat)) (nm : List UInt8) : Bool := match l[placeN l nm]? with
  | some p => p.1 == nm
  | none => false
abbrev noC (md ui gi : Nat) (D : Option Addr) (dn dc : Nat) (nv kv : Value) : List Value := [.int .u16 (md : Int), .int .u32 (ui : Int), .int .u32 (gi : Int), .int .i64 0, .int .i64 0, .int .i64 0, .int .i64 0, .int .i64 0, .int .i64 0, .int .i64 0, .int .i64 0, .int .u32 0, .int .u32 0, .slice D dn dc, .string (str []), .slice none 0 0, nv, kv]
theorem place_fn (md ui gi c dn dc : Nat) (D : Option Addr) (kv : Value) (A : Option Addr) (l : List (List UInt8 × Nat)) (nm : List UInt8) (hl : l.length ≤ 1000000) :
    Fd Tryz.prog 53 #[.agg (noC md ui gi D dn dc (.slice A l.length c) kv).toArray, .string (str nm)] [Own A c 9 1 l.length (nmV l)] (.tuple #[.int .i64 (placeN l nm : Nat), .bool (hasN l nm)]) [Own A c 9 1 l.length (nmV l)] := by
  refine fn_of_E' (args := [_, _]) 7 _ [_, _, undef, undef, undef, undef, undef] Tryz.func53 rfl Tryz.ntmps53 ?_
  refine e_seq ?_
  refine e_region ?_
  refine y_boxA rfl fun g2 => ?_
  refine walk ?_
  have hpl := placeN_le l nm
  refine e_roundsK (ι := Nat) (fun i => placeN l nm - i) (fun i => [.agg (noC md ui gi D dn dc (.slice A l.length c) kv).toArray, .string (str nm), ptrV g2, undef, .int .i64 0, .bool false, .int .i64 (i : Nat)])
    (fun _ => []) (fun _ => [Cells g2 58 (noC md ui gi D dn dc (.slice A l.length c) kv), Own A c 9 1 l.length (nmV l)]) (fun i => i ≤ placeN l nm ∧ i + placeN (l.drop i) nm = placeN l nm) 0 ⟨Nat.zero_le _, by simp⟩ rfl (by repeat constructor) (List.Perm.refl _) ?_
  intro i ⟨hi, hpi⟩ again
  by_cases hlt : i < l.length
  · obtain ⟨p, hp⟩ : ∃ p, l[i]? = some p := ⟨_, List.getElem?_eq_getElem hlt⟩
    have hdr : l.drop i = p :: l.drop (i + 1) := by
      obtain ⟨h1, h2⟩ := List.getElem?_eq_some_iff.1 hp
      rw [List.drop_eq_getElem_cons h1, h2]
    rw [hdr] at hpi
    simp only [placeN] at hpi
    refine E.know (A := Own A c 9 1 l.length (nmV l)) take_ (fun _ _ => Own.know) fun hk => ?_
    obtain ⟨k1, k2, k3, k4⟩ := hk
    cases A with
    | none => have := k3 rfl; omega
    | some ad =>
    obtain ⟨gA, rfl⟩ := k4 ad rfl
    refine walk ?_
    refine y_loadO i (nmV_get hp) ?_
    refine walk ?_
    cases hb : Op.bytesLess p.1 nm with
    | true =>
      rw [if_pos hb] at hpi
      refine x_sLt hb ?_
      refine walk ?_
      exact (again (i + 1) (by omega) ⟨by omega, by omega⟩).toP (ks := []) rfl (by repeat constructor) sub_
    | false =>
      rw [if_neg (by rw [hb]; simp)] at hpi
      have hip : placeN l nm = i := by omega
      clear again
      refine x_sLt hb ?_
      refine walk ?_
      refine y_loadO i (nmV_get hp) ?_
      refine walk ?_
      refine y_ret (M := [Own (some ⟨gA, 0, none⟩) c 9 1 l.length (nmV l)]) [4, 5] rfl ?_
      simp only [hasN, hip, hp]
      exact ⟨rfl, trivial⟩
  · have hil : i = l.length := by omega
    have hip : placeN l nm = l.length := by omega
    subst hil
    clear again
    refine walk ?_
    refine y_ret (M := [Own A c 9 1 l.length (nmV l)]) [4, 5] rfl ?_
    simp only [hasN, hip, List.getElem?_eq_none (Nat.le_refl _)]
    exact ⟨rfl, trivial⟩
theorem Kind_fn (md ui gi dn dc : Nat) (D : Option Addr) (nv kv : Value) (hm : md < 65536) :
    Fd Tryz.prog 17 #[.agg (noC md ui gi D dn dc nv kv).toArray] [] (.int .u16 (md &&& 61440 : Nat)) [] := by
  refine fn_of_E' (args := [_]) 3 _ [_, undef, undef] Tryz.func17 rfl Tryz.ntmps17 ?_
  refine e_seq ?_
  refine e_region ?_
  refine y_boxA rfl fun g2 => ?_
  refine walk ?_
  exact y_ret [2] rfl ⟨rfl, rfl⟩
theorem Kid_fn (md ui gi c c' dn dc : Nat) (D : Option Addr) (A A' : Option Addr) (l : List (List UInt8 × Nat)) (nm : List UInt8) (k : Nat) (hl : l.length ≤ 1000000) (hp : l[placeN l nm]? = some (nm, k)) :
    Fd Tryz.prog 16 #[.agg (noC md ui gi D dn dc (.slice A l.length c) (.slice A' l.length c')).toArray, .string (str nm)] [Own A c 9 1 l.length (nmV l), Own A' c' 3 1 l.length (kdV l)] (.tuple #[.int .i64 (k : Int), .bool true]) [Own A c 9 1 l.length (nmV l), Own A' c' 3 1 l.length (kdV l)] := by
  have hh : hasN l nm = true := by simp [hasN, hp]
  have hpf := place_fn md ui gi c dn dc D (.slice A' l.length c') A l nm hl
  rw [hh] at hpf
  have hlt := (List.getElem?_eq_some_iff.1 hp).1
  refine fn_of_E' (args := [_, _]) 8 _ [_, _, undef, undef, undef, undef, undef, undef] Tryz.func16 rfl Tryz.ntmps16 ?_
  refine e_seq ?_
  refine e_region ?_
  refine y_boxA rfl fun g2 => ?_
  refine walk ?_
  refine y_callD rfl rfl hpf ?_
  refine EO.know (A := Own A' c' 3 1 l.length (kdV l)) take_ (fun _ _ => Own.know) fun hk => ?_
  obtain ⟨k1, k2, k3, k4⟩ := hk
  cases A' with
  | none => have := k3 rfl; omega
  | some ad =>
  obtain ⟨gA, rfl⟩ := k4 ad rfl
  refine walk ?_
  refine y_loadO (placeN l nm) (kdV_get hp) ?_
  refine walk ?_
  exact y_ret [4, 5] rfl ⟨rfl, rfl⟩
theorem CellRow.takeN {L : List HP} {g o p : Nat} {vs : List Value} (h : CellRow L g o vs) : CellRow L g o (vs.take p) := fun j v hj => h j v (by
  have hl := (List.getElem?_eq_some_iff.1 hj).1
  rw [List.length_take] at hl
  rwa [List.getElem?_take_of_lt (by omega)] at hj)
theorem CellRow.dropN {L : List HP} {g o p q : Nat} {vs : List Value} (h : CellRow L g o vs) (hq : q = o + p) : CellRow L g q (vs.drop p) := fun j v hj => by
  subst hq
  rw [List.getElem?_drop] at hj
  have := h (p + j) v hj
  rwa [← Nat.add_assoc] at this
theorem Rd.takeN {A : Option Addr} {c e n p : Nat} {vs : List Value} {L F : List HP} (ht : Take (Own A c e 1 n vs) L F) (hA : A = none → p = 0) (hg : ∀ a, A = some a → ∃ g, a = ⟨g, 0, none⟩) (hn : vs.length = n) (hp : p ≤ n) : Rd L A p 1 (vs.take p) := by
  refine ⟨by simp; omega, ?_⟩
  cases A with
  | none => exact .inl (hA rfl)
  | some a =>
    obtain ⟨g, rfl⟩ := hg a rfl
    refine .inr ⟨g, 0, rfl, CellRow.takeN ?_⟩
    exact CellRow.of_take CellRow.own ht
section
variable {X : Fx} {ops : Array Oper} {cf : Nat → Cls} {k : List Item} {i : Nat} {is : List Nat} {l : List Oper} {loc loc' : List Value} {tmp tmp' : List (Nat × Value)} {L L' F M : List HP}
  {d : Option Tmp} {ty : TypeId} {pos : String} {aft : Array Edge} {gd : Option (Nat × Bool)} {locq : Option Addr → Nat → List Value} {tmpq : Option Addr → Nat → List (Nat × Value)}
theorem y_appR {t e b n m c c' : Nat} {z : Value} {x y : Operand} {A B : Option Addr} {vs news : List Value} [SlE X.P t e 1 b [z]] (hx : sv loc tmp x = some (.slice A n c)) (hy : sv loc tmp y = some (.slice B m c'))
    (hr : Rd F B m 1 news) (hB : B = none → m = 0) (h1 : ∀ u ∈ news, u.oneCell' = true) (h : ∀ A2 c2, EO X ops cf k is l (locq A2 c2) (tmpq A2 c2) (Own A2 c2 e 1 (n + m) (vs ++ news) :: F))
    (ht : Take (Own A c e 1 n vs) L F := by exact take_) (h63 : n + m ≤ 1000000000 := by omega) (hby : (n + m) * b ≤ 140737488355328 := by omega)
    (hp : ∀ A2 c2, Pt loc tmp d (.slice A2 (n + m) c2) (locq A2 c2) (tmpq A2 c2) := by intro _ _; first | exact Pt.tmp rfl | exact Pt.none | exact Pt.loc (by repeat constructor))
    (hg : gdv ops loc tmp gd = some true := by rfl) (hd : dOK X.n d = true := by rfl) (hcl : cf i = .any := by rfl) (hq : X.q = false := by rfl) :
    EO X ops cf k (i :: is) (⟨d, .call ⟨.builtin .append, #[x, y], #[t, t]⟩, ty, pos, aft, gd⟩ :: l) loc tmp L :=
  x_app hx hy ht hr hB h1 rfl (by omega) (by simp only [maxLen]; omega) hby (fun A2 c2 => ⟨_, _, hp A2 c2, h A2 c2⟩) hg hd hcl hq
theorem y_slLoR {t e n c p : Nat} {K : IntKind} {x y : Operand} {A : Option Addr} {vs : List Value} [SlTy X.P t e 1] (hx : sv loc tmp x = some (.slice A n c)) (hy : sv loc tmp y = some (.int K (p : Int)))
    (h : ∀ B c2, (∀ L' F' : List HP, Take (Own A c e 1 n vs) L' F' → Rd L' B (n - p) 1 (vs.drop p)) → (B = none → n - p = 0) → EO X ops cf k is l (locq B c2) (tmpq B c2) L) (hpn : p ≤ n) (ht : Take (Own A c e 1 n vs) L F := by exact take_)
    (hp : ∀ B c2, Pt loc tmp d (.slice B (n - p) c2) (locq B c2) (tmpq B c2) := by intro _ _; first | exact Pt.tmp rfl | exact Pt.none | exact Pt.loc (by repeat constructor))
    (hg : gdv ops loc tmp gd = some true := by rfl) (hd : dOK X.n d = true := by rfl) : EO X ops cf k (i :: is) (⟨d, .slice t x (some y) none none, ty, pos, aft, gd⟩ :: l) loc tmp L :=
  EO.know ht (fun _ _ => Own.know) fun hk => by
    obtain ⟨h1, h2, h3, h4⟩ := hk
    have hzero : ∀ (B : Option Addr), n - p = 0 → ∀ L' F' : List HP, Take (Own A c e 1 n vs) L' F' → Rd L' B (n - p) 1 (vs.drop p) := fun B h0 L' F' _ => ⟨by simp; omega, .inl h0⟩
    by_cases hpc : p = c
    · exact x_slLoE (m := p) hx hy rfl hpn hpc (hp A 0) (h A 0 (hzero A (by omega)) (fun _ => by omega)) hg hd
    · cases A with
      | none => have := h3 rfl; omega
      | some a =>
        obtain ⟨g, rfl⟩ := h4 a rfl
        refine x_slLo (m := p) hx hy rfl hpn h2 (by omega) (hp _ _) (h _ _ (fun L' F' hT => ⟨by simp; omega, .inr ⟨g, 0 + p * 1, rfl, ?_⟩⟩) (fun h => by cases h)) hg hd
        exact CellRow.dropN (CellRow.of_take CellRow.own hT) (by omega)
end
def insN (l : List (List UInt8 × Nat)) (nm : List UInt8) (k : Nat) : List (List UInt8 × Nat) := l.take (placeN l nm) ++ [(nm, k)] ++ l.drop (placeN l nm)
theorem with_fn (md ui gi c c' k dn dc : Nat) (D : Option Addr) (A A' : Option Addr) (l : List (List UInt8 × Nat)) (nm : List UInt8) (hl : l.length ≤ 1000000) (hh : hasN l nm = false) (hk : k ≤ 1000000) :
    Fe Tryz.prog 15 #[.agg (noC md ui gi D dn dc (.slice A l.length c) (.slice A' l.length c')).toArray, .string (str nm), .int .i64 (k : Int)] [Own A c 9 1 l.length (nmV l), Own A' c' 3 1 l.length (kdV l)]
      (fun _ : (Option Addr × Nat) × (Option Addr × Nat) => True) (fun i => .agg (noC md ui gi D dn dc (.slice i.1.1 (insN l nm k).length i.1.2) (.slice i.2.1 (insN l nm k).length i.2.2)).toArray) (fun i => [Own i.1.1 i.1.2 9 1 (insN l nm k).length (nmV (insN l nm k)), Own i.2.1 i.2.2 3 1 (insN l nm k).length (kdV (insN l nm k))]) := by
  have hpf := place_fn md ui gi c dn dc D (.slice A' l.length c') A l nm hl
  rw [hh] at hpf
  have hpl := placeN_le l nm
  refine fn_of_E' (args := [_, _, _]) 11 _ [_, _, _, undef, undef, undef, undef, undef, undef, undef, undef] Tryz.func15 rfl Tryz.ntmps15 ?_
  refine e_seq ?_
  refine e_region ?_
  refine y_boxA rfl fun g3 => ?_
  refine walk ?_
  refine y_alloc fun g6 => ?_
  refine walk ?_
  refine y_callD rfl rfl hpf ?_
  refine walkO ?_
  refine x_end ?_
  refine e_seq ?_
  obtain ⟨p, hpp⟩ : ∃ p, p = placeN l nm := ⟨_, rfl⟩
  rw [← hpp] at hpl ⊢
  have hn1 : (nmV (l.take p)).length = p := by simp [nmV]; omega
  have hk1 : (kdV (l.take p)).length = p := by simp [kdV]; omega
  refine e_cont (ι := (Option Addr × Nat) × (Option Addr × Nat)) (fun q => [.agg (noC md ui gi D dn dc (.slice A l.length c) (.slice A' l.length c')).toArray, .string (str nm), .int .i64 (k : Int), ptrV g3, undef, undef, ptrV g6, .int .i64 (p : Nat), .bool false, .slice q.1.1 p q.1.2, .slice q.2.1 p q.2.2])
    (fun _ => []) (fun q => [Own q.1.1 q.1.2 9 1 p (nmV (l.take p)), Own q.2.1 q.2.2 3 1 p (kdV (l.take p)), Own A c 9 1 l.length (nmV l), Own A' c' 3 1 l.length (kdV l), Cells g3 58 (noC md ui gi D dn dc (.slice A l.length c) (.slice A' l.length c')), Cells g6 58 [.int .u16 0, .int .u32 0, .int .u32 0, .int .i64 0, .int .i64 0, .int .i64 0, .int .i64 0, .int .i64 0, .int .i64 0, .int .i64 0, .int .i64 0, .int .u32 0, .int .u32 0, .slice none 0 0, .string ⟨#[]⟩, .slice none 0 0, .slice none 0 0, .slice none 0 0]])
    (fun _ => True) (fun rest => ?_) ?_
  · refine E.know (A := Own A c 9 1 l.length (nmV l)) take_ (fun _ _ => Own.know) fun hk => ?_
    obtain ⟨k1, k2, k3, k4⟩ := hk
    refine E.know (A := Own A' c' 3 1 l.length (kdV l)) take_ (fun _ _ => Own.know) fun hk => ?_
    obtain ⟨k5, k6, k7, k8⟩ := hk
    have hA : A = none → p = 0 := fun h => by have := k3 h; omega
    have hA' : A' = none → p = 0 := fun h => by have := k7 h; omega
    rw [Nat.mul_one] at k1 k5
    refine e_plan ?_
    refine walk ?_
    refine x_alt ?_ ?_
    · refine y_build0 fun gz => ?_
      refine x_alt ?_ ?_
      · refine y_appN (news := nmV (l.take p)) rfl rfl ?_ hA (fun u hu => nmV_one hu) fun A1 c1 => ?_
        · rw [nmV_take]; exact Rd.takeN take_ hA k4 k1 hpl
        refine y_build0 fun gy => ?_
        refine y_appN (news := kdV (l.take p)) rfl rfl ?_ hA' (fun u hu => kdV_one hu) fun A2 c2 => ?_
        · rw [kdV_take]; exact Rd.takeN take_ hA' k8 k5 hpl
        refine walkO ?_
        refine x_end ?_
        exact (rest ((A1, c1), (A2, c2)) trivial).toP rfl (by repeat constructor) sub_
      · refine y_build0 fun gy => ?_
        refine y_appN (news := nmV (l.take p)) rfl rfl ?_ hA (fun u hu => nmV_one hu) fun A1 c1 => ?_
        · rw [nmV_take]; exact Rd.takeN take_ hA k4 k1 hpl
        refine y_appN (news := kdV (l.take p)) rfl rfl ?_ hA' (fun u hu => kdV_one hu) fun A2 c2 => ?_
        · rw [kdV_take]; exact Rd.takeN take_ hA' k8 k5 hpl
        refine walkO ?_
        refine x_end ?_
        exact (rest ((A1, c1), (A2, c2)) trivial).toP rfl (by repeat constructor) sub_
    · refine y_build0 fun gy => ?_
      refine y_build0 fun gz => ?_
      refine y_appN (news := nmV (l.take p)) rfl rfl ?_ hA (fun u hu => nmV_one hu) fun A1 c1 => ?_
      · rw [nmV_take]; exact Rd.takeN take_ hA k4 k1 hpl
      refine y_appN (news := kdV (l.take p)) rfl rfl ?_ hA' (fun u hu => kdV_one hu) fun A2 c2 => ?_
      · rw [kdV_take]; exact Rd.takeN take_ hA' k8 k5 hpl
      refine walkO ?_
      refine x_end ?_
      exact (rest ((A1, c1), (A2, c2)) trivial).toP rfl (by repeat constructor) sub_
  · rintro ⟨⟨A1, c1⟩, ⟨A2, c2⟩⟩ _
    dsimp only
    refine walk ?_
    refine y_build1 rfl fun ga => ?_
    refine walk ?_
    refine y_app1 rfl rfl fun A3 c3 => ?_
    refine walk ?_
    refine y_build1 rfl fun gb => ?_
    refine walk ?_
    refine y_app1 rfl rfl fun A4 c4 => ?_
    refine walk ?_
    have h25 : ∀ q r : List (List UInt8 × Nat), nmV (q ++ [(nm, k)] ++ r) = nmV q ++ [.string (str nm)] ++ nmV r := fun q r => by simp [nmV]
    have h26 : ∀ q r : List (List UInt8 × Nat), kdV (q ++ [(nm, k)] ++ r) = kdV q ++ [.int .i64 (k : Int)] ++ kdV r := fun q r => by simp [kdV]
    have hil : (insN l nm k).length = p + 1 + (l.length - p) := by unfold insN; rw [← hpp]; simp; omega
    refine e_pair ?_
    refine walk ?_
    refine y_slLoR (p := p) rfl rfl (fun B5 c5 hB5 hB5n => ?_) hpl
    refine walkO ?_
    refine x_two ?_ ?_
    · refine y_appR (t := 41) (e := 9) (b := 16) (z := .string ⟨#[]⟩) (vs := nmV (l.take p) ++ [.string (str nm)]) (A := A3) (n := p + 1) (c := c3) (B := B5) (m := l.length - p) (c' := c5) (news := nmV (l.drop p)) rfl rfl ?_ hB5n (fun u hu => nmV_one hu) fun A6 c6 => ?_
      · rw [nmV_drop]; exact hB5 _ _ take_
      refine walkO ?_
      refine y_slLoR (p := p) rfl rfl (fun B7 c7 hB7 hB7n => ?_) hpl
      refine walkO ?_
      refine y_appR (t := 23) (e := 3) (b := 8) (z := .int .i64 0) (vs := kdV (l.take p) ++ [.int .i64 (k : Int)]) (A := A4) (n := p + 1) (c := c4) (B := B7) (m := l.length - p) (c' := c7) (news := kdV (l.drop p)) rfl rfl ?_ hB7n (fun u hu => kdV_one hu) fun A8 c8 => ?_
      · rw [kdV_drop]; exact hB7 _ _ take_
      refine walkO ?_
      refine x_end ?_
      refine walk ?_
      rw [← h25 (l.take p) (l.drop p), ← h26 (l.take p) (l.drop p), ← hil, show l.take p ++ [(nm, k)] ++ l.drop p = insN l nm k from by unfold insN; rw [← hpp]]
      refine walk ?_
      exact y_retC 6 rfl (by first | ((repeat (first | ((with_reducible apply Rows.here); (focus (repeat constructor))) | (with_reducible apply Rows.there))) <;> fail) | fail) ⟨((A6, c6), (A8, c8)), trivial, rfl, rfl⟩
    · refine walkO ?_
      refine y_appR (t := 41) (e := 9) (b := 16) (z := .string ⟨#[]⟩) (vs := nmV (l.take p) ++ [.string (str nm)]) (A := A3) (n := p + 1) (c := c3) (B := B5) (m := l.length - p) (c' := c5) (news := nmV (l.drop p)) rfl rfl ?_ hB5n (fun u hu => nmV_one hu) fun A6 c6 => ?_
      · rw [nmV_drop]; exact hB5 _ _ take_
      refine walkO ?_
      refine y_slLoR (p := p) rfl rfl (fun B7 c7 hB7 hB7n => ?_) hpl
      refine walkO ?_
      refine y_appR (t := 23) (e := 3) (b := 8) (z := .int .i64 0) (vs := kdV (l.take p) ++ [.int .i64 (k : Int)]) (A := A4) (n := p + 1) (c := c4) (B := B7) (m := l.length - p) (c' := c7) (news := kdV (l.drop p)) rfl rfl ?_ hB7n (fun u hu => kdV_one hu) fun A8 c8 => ?_
      · rw [kdV_drop]; exact hB7 _ _ take_
      refine walkO ?_
      refine x_end ?_
      refine walk ?_
      rw [← h25 (l.take p) (l.drop p), ← h26 (l.take p) (l.drop p), ← hil, show l.take p ++ [(nm, k)] ++ l.drop p = insN l nm k from by unfold insN; rw [← hpp]]
      refine walk ?_
      exact y_retC 6 rfl (by first | ((repeat (first | ((with_reducible apply Rows.here); (focus (repeat constructor))) | (with_reducible apply Rows.there))) <;> fail) | fail) ⟨((A6, c6), (A8, c8)), trivial, rfl, rfl⟩
end Go.Proofs.YtppkiiomedembaaGreatDoor
namespace Go.Proofs.YtppkiiomedembaaGreatDoor
open Go
attribute [local irreducible] E EO
abbrev EntI := List (Nat × Value)
def lookI (es : EntI) (n : Nat) : Option Value := (es.find? fun p => decide (p.1 = n)).map (·.2)
def MapI (g : Nat) (es : EntI) : HP where
  sat h S := (∀ x, S x ↔ x = g) ∧ ∃ (E : List MapEntry) (clock : Nat), h g = some (.map E.toArray clock) ∧ E.map (fun e => (e.key, e.val)) = es.map (fun p => (Value.int .i64 (p.1 : Int), p.2))
  loc hs he := ⟨hs.1, by rw [he g ((hs.1 g).2 rfl)]; exact hs.2⟩
  dom {h S x} hs hx := by have := (hs.1 x).1 hx; subst this; obtain ⟨E, c, h1, _⟩ := hs.2; rw [h1]; simp
theorem MapI.of_new {g : Nat} : Tn [MapS g []] (fun _ : Unit => True) (fun _ => [MapI g []]) := fun m S h => by
  obtain ⟨h1, E, clock, h2, h3⟩ := sats_one' h
  exact ⟨(), S, trivial, sats_one ⟨h1, E, clock, h2, by simpa using h3.kv⟩, fun _ h => h⟩
class MapTyI (P : Program) (T : Nat) (k e : outParam Nat) (z : outParam Value) : Prop where
  hu : P.underlying T = some (.map k e)
  hk : P.underlying k = some (.int .i64)
  hz : (P.info? e).bind (·.zero) = some z
theorem findNowI {n : Nat} : ∀ {E : List MapEntry} {es : EntI} {i : Nat}, E.map (fun e => (e.key, e.val)) = es.map (fun p => (Value.int .i64 (p.1 : Int), p.2)) → (lookI es n = none ∧ Instr.findNow (.int .i64) (.int .i64 (n : Int)) E i = some none) ∨ ∃ u j, lookI es n = some u ∧ Instr.findNow (.int .i64) (.int .i64 (n : Int)) E i = some (some (j, u))
  | [], [], _, _ => .inl ⟨rfl, rfl⟩
  | [], _ :: _, _, h => by simp at h
  | _ :: _, [], _, h => by simp at h
  | e :: E, p :: es, i, h => by
    simp only [List.map_cons, List.cons.injEq, Prod.mk.injEq] at h
    obtain ⟨⟨h1, h2⟩, h3⟩ := h
    by_cases hps : p.1 = n
    · have : ((n : Int) == (p.1 : Int)) = true := by rw [hps]; simp
      exact .inr ⟨p.2, i, by simp [lookI, hps], by simp [Instr.findNow, h1, Instr.sameNow, this, h2]⟩
    · have : ((n : Int) == (p.1 : Int)) = false := by rw [beq_eq_false_iff_ne]; omega
      have hl : lookI (p :: es) n = lookI es n := by simp [lookI, hps]
      rw [hl]
      simp only [Instr.findNow, h1, Instr.sameNow, this, if_pos]
      exact findNowI h3
theorem run_checkKeyI {P : Program} {k : Nat} (hk : P.underlying k = some (.int .i64)) (b : Bool) (n : Int) (w : World) : (Instr.checkKey b 10000 k (.int .i64 n)).run P w = .ok () w := by
  have key : ∀ m, (Instr.checkKey b (m + 1) k (.int .i64 n)).run P w = .ok () w := fun m => by simp [Instr.checkKey, run_underlying hk]
  exact key 9999
theorem run_findKeyI {P : Program} {k : Nat} (hk : P.underlying k = some (.int .i64)) {n : Nat} {E : List MapEntry} {es : EntI} (h : E.map (fun e => (e.key, e.val)) = es.map (fun p => (Value.int .i64 (p.1 : Int), p.2))) (w : World) :
    (lookI es n = none ∧ (Instr.findKey k (.int .i64 (n : Int)) E).run P w = .ok none w) ∨ ∃ u j, lookI es n = some u ∧ (Instr.findKey k (.int .i64 (n : Int)) E).run P w = .ok (some (j, u)) w := by
  rcases findNowI (n := n) (i := 0) h with ⟨h1, h2⟩ | ⟨u, j, h1, h2⟩
  · exact .inl ⟨h1, by simp [Instr.findKey, run_underlying hk, h2]⟩
  · exact .inr ⟨u, j, h1, by simp [Instr.findKey, run_underlying hk, h2]⟩
theorem setObjI_st {q : Bool} {w0 w : World} {S0 : Nat → Prop} {F : List HP} {g : Nat} {es es' : EntI} {E' : List MapEntry} {clock' : Nat} (hs : St q w0 S0 (MapI g es :: F) w) (hok : E'.map (fun e => (e.key, e.val)) = es'.map (fun p => (Value.int .i64 (p.1 : Int), p.2))) :
    St false w0 S0 (MapI g es' :: F) { w with heap := w.heap.setIfInBounds g (.map E'.toArray clock') } := by
  refine St.step (M := [MapI g es]) (L' := [MapI g es']) hs rfl rfl rfl (by simp) fun S hS => ?_
  have h1 := sats_one' hS
  have hlt : g < w.heap.size := by
    obtain ⟨E, c, h2, _⟩ := h1.2
    exact (Array.getElem?_eq_some_iff.1 h2).1
  refine ⟨fun x hx hn => ?_, S, sats_one ⟨h1.1, E', clock', ?_, hok⟩, fun x hx => .inl hx⟩
  · have : g ≠ x := fun e => hn ((h1.1 x).2 e.symm)
    simp [Array.getElem?_setIfInBounds_ne this]
  · simp [hp, hlt]
section ops
variable {X : Fx} {ops : Array Oper} {cf : Nat → Cls} {k : List Item} {i : Nat} {is : List Nat} {l : List Oper} {loc loc' : List Value} {tmp tmp' : List (Nat × Value)} {L L' F : List HP}
  {d : Option Tmp} {ty : TypeId} {pos : String} {aft : Array Edge} {gd : Option (Nat × Bool)}
theorem y_lookI {T kt e g n : Nat} {z u : Value} {q : Int} {x y : Operand} {es : EntI} [hT : MapTyI X.P T kt e z] [hv : NatV q n] (he : lookI es n = some u) (h : EO X ops cf k is l loc' tmp' L)
    (hx : sv loc tmp x = some (.map (some g)) := by rfl) (hy : sv loc tmp y = some (.int .i64 q) := by rfl) (ht : Take (MapI g es) L F := by exact take_) (hp : Pt loc tmp d (.tuple #[u, .bool true]) loc' tmp' := by exact pt_)
    (hg : gdv ops loc tmp gd = some true := by rfl) (hd : dOK X.n d = true := by rfl) (hcl : (cf i).reads = true := by rfl) : EO X ops cf k (i :: is) (⟨d, .lookup T x y true, ty, pos, aft, gd⟩ :: l) loc tmp L :=
  x_read hg hcl (fun a hr w0 S0 w hs m => by
    obtain ⟨zi, hzi, hzz⟩ := Option.bind_eq_some_iff.1 hT.hz
    obtain ⟨S, ⟨S1, S2, ⟨_, E, clock, hE, hok⟩, _⟩, _⟩ := ((hs.wat m).perm ht.perm).sat
    have hE' : (wat w m).heap[g]? = some (.map E.toArray clock) := hE
    have hgo : (getObj g).run X.P (wat w m) = .ok (.map E.toArray clock) (wat w m) := by simp [getObj, Sem.run, hE']
    have hq := hv.h
    subst hq
    rcases run_findKeyI (P := X.P) hT.hk hok (n := n) (wat w m) with ⟨h1, h2⟩ | ⟨u', j, h1, h2⟩
    · rw [he] at h1; cases h1
    · rw [he] at h1
      cases h1
      simp [RunN, execOp, hr.ev hx, hr.ev hy, Instr.lookup, run_underlying hT.hu, run_checkKeyI hT.hk, hgo, h2]
      rfl) hp hd h
theorem y_setI {T kt e g n : Nat} {z u : Value} {q : Int} {x y v : Operand} {es : EntI} [hT : MapTyI X.P T kt e z] [hv : NatV q n] (he : lookI es n = none) (h : EO X ops cf k is l loc' tmp' (MapI g (es ++ [(n, u)]) :: F))
    (hx : sv loc tmp x = some (.map (some g)) := by rfl) (hy : sv loc tmp y = some (.int .i64 q) := by rfl) (hu : sv loc tmp v = some u := by rfl) (ht : Take (MapI g es) L F := by exact take_) (hp : Pt loc tmp d undef loc' tmp' := by exact pt_)
    (hg : gdv ops loc tmp gd = some true := by rfl) (hd : dOK X.n d = true := by rfl) (hcl : cf i = .any := by rfl) (hq : X.q = false := by rfl) : EO X ops cf k (i :: is) (⟨d, .mapUpdate T x y v, ty, pos, aft, gd⟩ :: l) loc tmp L :=
  x_any (Rv := fun r L'' => r = undef ∧ L'' = MapI g (es ++ [(n, u)]) :: F) hg hcl (fun a hr w0 S0 w hs m => by
    have hs1 := (hs.wat m).perm ht.perm
    obtain ⟨S, ⟨S1, S2, ⟨_, E, clock, hE, hok⟩, _⟩, _⟩ := hs1.sat
    have hE' : (wat w m).heap[g]? = some (.map E.toArray clock) := hE
    have hgo : (getObj g).run X.P (wat w m) = .ok (.map E.toArray clock) (wat w m) := by simp [getObj, Sem.run, hE']
    have hso : ∀ o, (setObj g o).run X.P (wat w m) = .ok () { wat w m with heap := (wat w m).heap.setIfInBounds g o } := fun o => by simp [setObj, Sem.run, hE']
    have hqq := hv.h
    subst hqq
    rcases run_findKeyI (P := X.P) hT.hk hok (n := n) (wat w m) with ⟨h1, h2⟩ | ⟨u', j, h1, h2⟩
    · have hst := setObjI_st (clock' := clock + 1) (E' := E ++ [{ key := .int .i64 (n : Int), val := u, born := clock }]) (es' := es ++ [(n, u)]) hs1 (by simp [hok])
      simp [RunN, execOp, hr.ev hx, hr.ev hy, hr.ev hu, Instr.mapUpdate, run_underlying hT.hu, run_checkKeyI hT.hk, hgo, h2, hso]
      rw [hq]; exact hst
    · rw [he] at h1; cases h1) hd (fun r L'' ⟨e1, e2⟩ => by subst e1 e2; exact ⟨_, _, hp, h⟩)
end ops
end Go.Proofs.YtppkiiomedembaaGreatDoor
namespace Go.Proofs.YtppkiiomedembaaGreatDoor
open Go
set_option maxRecDepth 100000
set_option maxHeartbeats 1000000
attribute [local irreducible] E EO
theorem norm_fn (l q : List UInt8) (hl : l.length ≤ 100000) (hd : noDots l.length l) (hcl : clN l.length l [47] = 47 :: q) : Fd Tryz.prog 54 #[.string (str (47 :: l))] [] (.string (str (47 :: q))) [] := by
  have h := clean_fn l (by omega) hd
  rw [hcl] at h
  refine fn_of_E' (args := [_]) 3 _ [_, undef, undef] Tryz.func54 rfl Tryz.ntmps54 ?_
  refine walk ?_
  refine y_callD rfl rfl h ?_
  refine walk ?_
  exact y_ret [2] rfl ⟨rfl, rfl⟩
theorem norm1_fn : Fd Tryz.prog 54 #[.string (str [47, 102])] [] (.string (str [47, 102])) [] := norm_fn [102] [102] (by decide) (by simp [noDots, headP]) (by decide)
theorem norm0_fn : Fd Tryz.prog 54 #[.string (str [47])] [] (.string (str [47])) [] := norm_fn [] [] (by decide) trivial (by decide)
abbrev fdC (nm : List UInt8) (A : Option Addr) (n c : Nat) (md : Option Nat) (dir : Bool) (mode : Nat) : List Value := [.string (str nm), .slice A n c, .map md, .bool dir, .int .u32 (mode : Int), .int .i64 0, .int .i64 0, .int .i64 0]
theorem newM_fn : Fe Tryz.prog 18 #[] [] (fun _ : Nat => True) (fun g => ptrV g) (fun g => [Cells g 135 [.map none]]) := by
  refine fn_of_E' (args := []) 1 _ [undef] Tryz.func18 rfl Tryz.ntmps18 ?_
  refine walk ?_
  refine y_boxA rfl fun g => ?_
  refine walk ?_
  exact y_ret [0] rfl ⟨g, trivial, rfl, rfl⟩
theorem createFile_fn (nm : List UInt8) : Fe Tryz.prog 55 #[.string (str nm)] [] (fun _ : Nat => True) (fun g => ptrV g) (fun g => [Cells g 245 (fdC nm none 0 0 none false 268435456)]) := by
  refine fn_of_E' (args := [_]) 3 _ [_, undef, undef] Tryz.func55 rfl Tryz.ntmps55 ?_
  refine walk ?_
  refine y_boxA rfl fun g => ?_
  refine walk ?_
  exact y_retE [2] rfl ⟨g, trivial, rfl, rfl⟩ rfl
theorem createMDir_fn (nm : List UInt8) : Fe Tryz.prog 68 #[.string (str nm)] [] (fun _ : Nat × Nat => True) (fun i => ptrV i.1) (fun i => [Cells i.1 245 (fdC nm none 0 0 (some i.2) true 0), MapS i.2 []]) := by
  refine fn_of_E' (args := [_]) 3 _ [_, undef, undef] Tryz.func68 rfl Tryz.ntmps68 ?_
  refine walk ?_
  refine y_map fun gd => ?_
  refine walk ?_
  refine y_boxA rfl fun g => ?_
  refine walk ?_
  exact y_retE [2] rfl ⟨(g, gd), trivial, rfl, rfl⟩ rfl
theorem setMode_fn (g : Nat) (nm : List UInt8) (A : Option Addr) (n c : Nat) (md : Option Nat) (dir : Bool) (m0 m1 : Nat) : Fd Tryz.prog 69 #[ptrV g, .int .u32 (m1 : Int)] [Cells g 245 (fdC nm A n c md dir m0)] (.tuple #[]) [Cells g 245 (fdC nm A n c md dir m1)] := by
  refine fn_of_E' (args := [_, _]) 4 _ [_, _, undef, undef] Tryz.func69 rfl Tryz.ntmps69 ?_
  refine walk ?_
  exact y_end [] rfl ⟨rfl, rfl⟩
theorem setModT_fn (g : Nat) (nm : List UInt8) (A : Option Addr) (n c : Nat) (md : Option Nat) (dir : Bool) (m0 : Nat) : Fd Tryz.prog 139 #[ptrV g, .int .i64 0] [Cells g 245 (fdC nm A n c md dir m0)] (.tuple #[]) [Cells g 245 (fdC nm A n c md dir m0)] := by
  refine fn_of_E' (args := [_, _]) 4 _ [_, _, undef, undef] Tryz.func139 rfl Tryz.ntmps139 ?_
  refine walk ?_
  exact y_end [] rfl ⟨rfl, rfl⟩
theorem nameD_fn (g : Nat) (nm : List UInt8) (A : Option Addr) (n c : Nat) (md : Option Nat) (dir : Bool) (m0 : Nat) : Qn Tryz.prog 134 #[ptrV g] [Cells g 245 (fdC nm A n c md dir m0)] (.string (str nm)) := by
  refine fn_of_E' (args := [_]) 3 _ [_, undef, undef] Tryz.func134 rfl Tryz.ntmps134 ?_
  refine walk ?_
  exact y_ret [2] rfl rfl
theorem initDir_fn (g : Nat) (nm : List UInt8) (A : Option Addr) (n c gd : Nat) (dir : Bool) (m0 : Nat) : Fd Tryz.prog 137 #[ptrV g] [Cells g 245 (fdC nm A n c (some gd) dir m0)] (.tuple #[]) [Cells g 245 (fdC nm A n c (some gd) dir m0)] := by
  refine fn_of_E' (args := [_]) 2 _ [_, undef] Tryz.func137 rfl Tryz.ntmps137 ?_
  refine walk ?_
  exact y_end [] rfl ⟨rfl, rfl⟩
theorem dadd_fn (gd gf : Nat) (es : Ents) (nm : List UInt8) (A : Option Addr) (n c : Nat) (md : Option Nat) (dir : Bool) (m0 : Nat) : Fd Tryz.prog 182 #[.map (some gd), ptrV gf] [MapS gd es, Cells gf 245 (fdC nm A n c md dir m0)] (.tuple #[]) [MapS gd (upd es (str nm) (ptrV gf)), Cells gf 245 (fdC nm A n c md dir m0)] := by
  refine fn_of_E' (args := [_, _]) 4 _ [_, _, undef, undef] Tryz.func182 rfl Tryz.ntmps182 ?_
  refine walk ?_
  refine y_mapSet ?_
  refine walk ?_
  exact y_end [] rfl ⟨rfl, rfl⟩
theorem addTo_fn (gr gd gf : Nat) (es : Ents) (nr nm : List UInt8) (A A' : Option Addr) (n c n' c' : Nat) (md : Option Nat) (dir dir' : Bool) (m0 m1 : Nat) : Fd Tryz.prog 138 #[ptrV gr, ptrV gf] [Cells gr 245 (fdC nr A' n' c' (some gd) dir' m1), MapS gd es, Cells gf 245 (fdC nm A n c md dir m0)] (.tuple #[])
    [Cells gr 245 (fdC nr A' n' c' (some gd) dir' m1), MapS gd (upd es (str nm) (ptrV gf)), Cells gf 245 (fdC nm A n c md dir m0)] := by
  refine fn_of_E' (args := [_, _]) 4 _ [_, _, undef, undef] Tryz.func138 rfl Tryz.ntmps138 ?_
  refine walk ?_
  refine y_callD rfl rfl (dadd_fn gd gf es nm A n c md dir m0) ?_
  refine walk ?_
  exact y_end [] rfl ⟨rfl, rfl⟩
abbrev hdC (p : Nat) (cl ro : Bool) (gf : Nat) : List Value := [.int .i64 (p : Int), .int .i64 0, .bool cl, .bool ro, ptrV gf]
theorem newH_fn (gf : Nat) : Fe Tryz.prog 58 #[ptrV gf] [] (fun _ : Nat => True) (fun g => ptrV g) (fun g => [Cells g 250 (hdC 0 false false gf)]) := by
  refine fn_of_E' (args := [_]) 3 _ [_, undef, undef] Tryz.func58 rfl Tryz.ntmps58 ?_
  refine walk ?_
  refine y_boxA rfl fun g => ?_
  refine walk ?_
  exact y_retE [2] rfl ⟨g, trivial, rfl, rfl⟩ rfl
theorem newR_fn (gf : Nat) : Fe Tryz.prog 60 #[ptrV gf] [] (fun _ : Nat => True) (fun g => ptrV g) (fun g => [Cells g 250 (hdC 0 false true gf)]) := by
  refine fn_of_E' (args := [_]) 3 _ [_, undef, undef] Tryz.func60 rfl Tryz.ntmps60 ?_
  refine walk ?_
  refine y_boxA rfl fun g => ?_
  refine walk ?_
  exact y_retE [2] rfl ⟨g, trivial, rfl, rfl⟩ rfl
abbrev rootMd : Nat := 2147484141
abbrev rootP (gr gD : Nat) : HP := Cells gr 245 (fdC [47] none 0 0 (some gD) true rootMd)
theorem getData0_fn (gm : Nat) : Fe Tryz.prog 56 #[ptrV gm] [Cells gm 135 [.map none]] (fun _ : Nat × Nat × Nat => True) (fun i => .map (some i.1)) (fun i => [MapS i.1 [(str [47], ptrV i.2.1)], rootP i.2.1 i.2.2, MapS i.2.2 [], Cells gm 135 [.map (some i.1)]]) := by
  refine fn_of_E' (args := [_]) 4 _ [_, undef, undef, undef] Tryz.func56 rfl Tryz.ntmps56 ?_
  refine walk ?_
  refine y_map fun gM => ?_
  refine walk ?_
  refine y_callE rfl rfl (createMDir_fn [47]) fun i _ => ?_
  obtain ⟨gr, gD⟩ := i
  dsimp only
  refine walk ?_
  refine y_callD rfl rfl (setMode_fn gr [47] none 0 0 (some gD) true 0 rootMd) ?_
  refine walk ?_
  refine y_mapSet ?_
  refine walk ?_
  exact y_retE [2] rfl ⟨(gM, gr, gD), trivial, rfl, rfl⟩ rfl
theorem getData1_fn (gm gM : Nat) : Qn Tryz.prog 56 #[ptrV gm] [Cells gm 135 [.map (some gM)]] (.map (some gM)) := by
  refine fn_of_E' (args := [_]) 4 _ [_, undef, undef, undef] Tryz.func56 rfl Tryz.ntmps56 ?_
  refine walk ?_
  exact y_ret [2] rfl rfl
theorem lockOpen_fn (gm gM gr : Nat) (es : Ents) (he : look es (str [47]) = some (ptrV gr)) : Fd Tryz.prog 136 #[ptrV gm, .string (str [47])] [Cells gm 135 [.map (some gM)], MapS gM es] (.tuple #[ptrV gr, .nilIface]) [Cells gm 135 [.map (some gM)], MapS gM es] := by
  refine fn_of_E' (args := [_, _]) 8 _ [_, _, undef, undef, undef, undef, undef, undef] Tryz.func136 rfl Tryz.ntmps136 ?_
  refine walk ?_
  refine y_callD rfl rfl norm0_fn ?_
  refine walk ?_
  refine y_callq rfl rfl (getData1_fn gm gM) ?_
  refine walk ?_
  refine y_lookOkS he ?_
  refine walk ?_
  exact y_ret [4, 5] rfl ⟨rfl, rfl⟩
theorem openM_fn (gm gM gf : Nat) (es : Ents) (he : look es (str [47, 102]) = some (ptrV gf)) : Fd Tryz.prog 59 #[ptrV gm, .string (str [47, 102])] [Cells gm 135 [.map (some gM)], MapS gM es] (.tuple #[ptrV gf, .nilIface]) [Cells gm 135 [.map (some gM)], MapS gM es] := by
  refine fn_of_E' (args := [_, _]) 8 _ [_, _, undef, undef, undef, undef, undef, undef] Tryz.func59 rfl Tryz.ntmps59 ?_
  refine walk ?_
  refine y_callD rfl rfl norm1_fn ?_
  refine walk ?_
  refine y_callq rfl rfl (getData1_fn gm gM) ?_
  refine walk ?_
  refine y_lookOkS he ?_
  refine walk ?_
  exact y_ret [4, 5] rfl ⟨rfl, rfl⟩
theorem OpenM_fn (gm gM gf : Nat) (es : Ents) (he : look es (str [47, 102]) = some (ptrV gf)) : Fe Tryz.prog 20 #[ptrV gm, .string (str [47, 102])] [Cells gm 135 [.map (some gM)], MapS gM es] (fun _ : Nat => True) (fun g => .tuple #[ptrV g, .nilIface])
    (fun g => [Cells gm 135 [.map (some gM)], MapS gM es, Cells g 250 (hdC 0 false true gf)]) := by
  refine fn_of_E' (args := [_, _]) 8 _ [_, _, undef, undef, undef, undef, undef, undef] Tryz.func20 rfl Tryz.ntmps20 ?_
  refine walk ?_
  refine y_callD rfl rfl (openM_fn gm gM gf es he) ?_
  refine walk ?_
  refine y_callE rfl rfl (newR_fn gf) fun g _ => ?_
  refine walk ?_
  exact y_ret [4, 5] rfl ⟨g, trivial, rfl, rfl⟩
abbrev fileP (gf : Nat) (A : Option Addr) (n c : Nat) : HP := Cells gf 245 (fdC [47, 102] A n c none false 268435456)
theorem findPar_fn (gm gM gr gf : Nat) (es : Ents) (A : Option Addr) (n c : Nat) (he : look es (str [47]) = some (ptrV gr)) : Fd Tryz.prog 132 #[ptrV gm, ptrV gf] [Cells gm 135 [.map (some gM)], MapS gM es, fileP gf A n c] (ptrV gr) [Cells gm 135 [.map (some gM)], MapS gM es, fileP gf A n c] := by
  have hs := split_fn [47, 102] (by decide)
  have hc := clean_fn [] (by decide) trivial
  refine fn_of_E' (args := [_, _]) 9 _ [_, _, undef, undef, undef, undef, undef, undef, undef] Tryz.func132 rfl Tryz.ntmps132 ?_
  refine walk ?_
  refine y_callq rfl rfl (nameD_fn gf [47, 102] A n c none false 268435456) ?_
  refine walk ?_
  refine y_callq rfl rfl hs ?_
  refine walk ?_
  refine y_callD rfl rfl hc ?_
  refine walk ?_
  refine y_callD rfl rfl (lockOpen_fn gm gM gr es he) ?_
  refine walk ?_
  exact y_ret [4] rfl ⟨rfl, rfl⟩
theorem register_fn (gm gM gr gf gD : Nat) (es : Ents) (A : Option Addr) (n c : Nat) (he : look es (str [47]) = some (ptrV gr)) : Fd Tryz.prog 57 #[ptrV gm, ptrV gf, .int .u32 0] [Cells gm 135 [.map (some gM)], MapS gM es, rootP gr gD, MapS gD [], fileP gf A n c] (.tuple #[])
    [Cells gm 135 [.map (some gM)], MapS gM es, rootP gr gD, MapS gD (upd [] (str [47, 102]) (ptrV gf)), fileP gf A n c] := by
  refine fn_of_E' (args := [_, _, _]) 9 _ [_, _, _, undef, undef, undef, undef, undef, undef] Tryz.func57 rfl Tryz.ntmps57 ?_
  refine walk ?_
  refine y_callD rfl rfl (findPar_fn gm gM gr gf es A n c he) ?_
  refine walk ?_
  refine y_callD rfl rfl (initDir_fn gr [47] none 0 0 gD true rootMd) ?_
  refine walk ?_
  refine y_callD rfl rfl (addTo_fn gr gD gf [] [47] [47, 102] A none n c 0 0 none false true 268435456 rootMd) ?_
  refine walk ?_
  exact y_end [] rfl ⟨rfl, rfl⟩
theorem CreateM_fn (gm : Nat) : Fe Tryz.prog 19 #[ptrV gm, .string (str [47, 102])] [Cells gm 135 [.map none]] (fun _ : Nat × Nat × Nat × Nat × Nat => True) (fun i => .tuple #[ptrV i.2.2.2.2, .nilIface])
    (fun i => [Cells gm 135 [.map (some i.1)], MapS i.1 [(str [47], ptrV i.2.1), (str [47, 102], ptrV i.2.2.2.1)], rootP i.2.1 i.2.2.1, fileP i.2.2.2.1 none 0 0, Cells i.2.2.2.2 250 (hdC 0 false false i.2.2.2.1)]) := by
  refine fn_of_E' (args := [_, _]) 7 _ [_, _, undef, undef, undef, undef, undef] Tryz.func19 rfl Tryz.ntmps19 ?_
  refine walk ?_
  refine y_callD rfl rfl norm1_fn ?_
  refine walk ?_
  refine y_callE rfl rfl (createFile_fn [47, 102]) fun gf _ => ?_
  refine walk ?_
  refine y_callE rfl rfl (getData0_fn gm) fun i _ => ?_
  obtain ⟨gM, gr, gD⟩ := i
  dsimp only
  refine walk ?_
  refine y_mapSet ?_
  rw [show upd [(str [47], ptrV gr)] (str [47, 102]) (ptrV gf) = [(str [47], ptrV gr), (str [47, 102], ptrV gf)] from rfl]
  refine walk ?_
  refine y_callD rfl rfl (register_fn gm gM gr gf gD [(str [47], ptrV gr), (str [47, 102], ptrV gf)] none 0 0 rfl) ?_
  refine walk ?_
  refine y_callE rfl rfl (newH_fn gf) fun gh _ => ?_
  refine walk ?_
  exact y_ret [4, 5] rfl ⟨(gM, gr, gD, gf, gh), trivial, rfl, rfl⟩
end Go.Proofs.YtppkiiomedembaaGreatDoor
namespace Go.Proofs.YtppkiiomedembaaGreatDoor
open Go
set_option maxRecDepth 100000
set_option maxHeartbeats 1000000
attribute [local irreducible] E EO
theorem writeM_fn (gh gf : Nat) (B : Option Addr) (m c : Nat) (b : List UInt8) (M : HP) (hr : Rd [M] B m 1 (enc b)) (hB : B = none → m = 0) (hm : m ≤ 100000000) :
    Fe Tryz.prog 82 #[ptrV gh, .slice B m c] [Cells gh 250 (hdC 0 false false gf), fileP gf none 0 0, M] (fun _ : Option Addr × Nat => True) (fun _ => .tuple #[.int .i64 (m : Int), .nilIface])
      (fun i => [fileP gf i.1 m i.2, Own i.1 i.2 5 1 m (enc b), Cells gh 250 (hdC m false false gf), M]) := by
  refine fn_of_E' (args := [_, _]) 9 _ [_, _, undef, undef, undef, undef, undef, undef, undef] Tryz.func82 rfl Tryz.ntmps82 ?_
  refine E.nilOwn (e := 5) (sz := 1) ?_
  refine walk ?_
  refine e_cont (ι := Option Addr × Nat) (fun _ => [ptrV gh, .slice B m c, undef, undef, .int .i64 (m : Int), .nilIface, .int .i64 ((0 : Nat) : Int), .int .i64 (((0 : Nat) : Int) - ((0 : Nat) : Int)), .slice none 0 0]) (fun _ => [])
    (fun i => [Own i.1 i.2 5 1 m (enc b), Cells gh 250 (hdC 0 false false gf), fileP gf i.1 m i.2, M]) (fun _ => True) (fun rest => ?_) ?_
  · refine e_pair ?_
    refine walk ?_
    refine x_two ?_ ?_
    · refine walkO ?_
      refine y_appR (news := enc b) (vs := []) rfl rfl ?_ hB enc_one fun A2 c2 => ?_
      · exact hr.take take_
      rw [Nat.zero_add, List.nil_append]
      refine walkO ?_
      refine x_end ?_
      exact (rest (A2, c2) trivial).toP (ks := []) rfl (by repeat constructor) sub_
    · refine walkO ?_
      refine y_appR (news := enc b) (vs := []) rfl rfl ?_ hB enc_one fun A2 c2 => ?_
      · exact hr.take take_
      rw [Nat.zero_add, List.nil_append]
      refine walkO ?_
      refine x_end ?_
      exact (rest (A2, c2) trivial).toP (ks := []) rfl (by repeat constructor) sub_
  · rintro ⟨A, cA⟩ _
    dsimp only
    refine walk ?_
    refine e_cont (ι := Option Addr × Nat) (fun _ => [ptrV gh, .slice B m c, undef, undef, .int .i64 (m : Int), .nilIface, .int .i64 ((0 : Nat) : Int), .int .i64 (((0 : Nat) : Int) - ((0 : Nat) : Int)), .slice none 0 0]) (fun _ => [])
      (fun i => [Own i.1 i.2 5 1 m (enc b), Cells gh 250 (hdC 0 false false gf), fileP gf i.1 m i.2, M]) (fun _ => True) (fun rest => ?_) ?_
    · refine e_pair ?_
      refine walk ?_
      refine x_two ?_ ?_
      · refine walkO ?_
        refine y_appR (news := []) (vs := enc b) (A := A) (n := m) rfl rfl ⟨rfl, .inl rfl⟩ (fun _ => rfl) (by simp) fun A2 c2 => ?_
        rw [Nat.add_zero, List.append_nil]
        refine walkO ?_
        refine x_end ?_
        exact (rest (A2, c2) trivial).toP (ks := []) rfl (by repeat constructor) sub_
      · refine walkO ?_
        refine y_appR (news := []) (vs := enc b) (A := A) (n := m) rfl rfl ⟨rfl, .inl rfl⟩ (fun _ => rfl) (by simp) fun A2 c2 => ?_
        rw [Nat.add_zero, List.append_nil]
        refine walkO ?_
        refine x_end ?_
        exact (rest (A2, c2) trivial).toP (ks := []) rfl (by repeat constructor) sub_
    · rintro ⟨A2, c2⟩ _
      dsimp only
      refine walk ?_
      refine y_callD rfl rfl (setModT_fn gf [47, 102] A2 m c2 none false 268435456) ?_
      refine walk ?_
      rw [Nat.zero_add m]
      exact y_ret [4, 5] rfl ⟨(A2, c2), trivial, rfl, rfl⟩
theorem ovw_whole (us vs : List Value) (h : us.length = vs.length) : ovw vs 0 us = us := by
  simp [ovw, h]
theorem Rd.ownMid {g c n p m : Nat} {b : List UInt8} (h : b.length = n) (hp : p + m ≤ n) : Rd [Own (some ⟨g, 0, none⟩) c 5 1 n (enc b)] (some ⟨g, p, none⟩) m 1 (enc ((b.drop p).take m)) := by
  refine ⟨by rw [enc_len, List.length_take, List.length_drop]; omega, .inr ⟨g, p, rfl, fun j v hj => ?_⟩⟩
  rw [enc_take, enc_drop, List.getElem?_take] at hj
  split at hj
  · rw [List.getElem?_drop] at hj
    simpa using (CellRow.own (g := g) (c := c) (e := 5) (sz := 1) (n := n) (vs := enc b) (L := [])) (p + j) v hj
  · cases hj
theorem readM_fn (gh gf gb gA : Nat) (n cA : Nat) (D : List UInt8) (p m : Nat) (hD : D.length = n) (hn : n ≤ 100000000) (hc : n ≤ cA) (hm : 0 < m) (hpm : p + m ≤ n) :
    Fd Tryz.prog 80 #[ptrV gh, .slice (some ⟨gb, 0, none⟩) m m] [Cells gh 250 (hdC p false true gf), fileP gf (some ⟨gA, 0, none⟩) n cA, Own (some ⟨gA, 0, none⟩) cA 5 1 n (enc D), Own (some ⟨gb, 0, none⟩) m 5 1 m (List.replicate m (.int .u8 0))]
      (.tuple #[.int .i64 (m : Int), .nilIface])
      [Cells gh 250 (hdC (p + m) false true gf), fileP gf (some ⟨gA, 0, none⟩) n cA, Own (some ⟨gA, 0, none⟩) cA 5 1 n (enc D), Own (some ⟨gb, 0, none⟩) m 5 1 m (enc ((D.drop p).take m))] := by
  have hpc : p < cA := by omega
  have hpn : p < n := by omega
  have hlen : ((D.drop p).take m).length = m := by rw [List.length_take, List.length_drop]; omega
  have hro := Rd.ownMid (g := gA) (c := cA) hD hpm
  generalize (D.drop p).take m = U at hlen hro ⊢
  refine fn_of_E' (args := [_, _]) 6 _ [_, _, undef, undef, undef, undef] Tryz.func80 rfl Tryz.ntmps80 ?_
  refine walk ?_
  rw [show p + m - p = m by omega, show 0 + p * 1 = p by omega]
  refine x_copy (m := m) (news := enc U) rfl rfl (hro.take take_) enc_one (.there (.there (.there (.own (by rw [List.length_take, enc_len, hlen, List.length_replicate]; omega))))) pt_ ?_
  rw [List.take_of_length_le (show (enc U).length ≤ m by rw [enc_len]; omega), ovw_whole _ _ (by rw [enc_len, hlen, List.length_replicate])]
  refine walk ?_
  exact y_ret [4, 5] rfl ⟨rfl, rfl⟩
class AssN (P : Program) (T : Nat) (z : outParam Value) : Prop where
  hu : ∃ e, P.underlying T = some (.pointer e)
  hz : (P.info? T).bind (·.zero) = some z
section
variable {X : Fx} {ops : Array Oper} {cf : Nat → Cls} {k : List Item} {i : Nat} {is : List Nat} {l : List Oper} {loc loc' : List Value} {tmp tmp' : List (Nat × Value)} {L : List HP}
  {d : Option Tmp} {ty : TypeId} {pos : String} {aft : Array Edge} {gd : Option (Nat × Bool)}
theorem x_assN {S T : Nat} {z : Value} {x : Operand} [hT : AssN X.P T z] (h : EO X ops cf k is l loc' tmp' L) (hx : sv loc tmp x = some .nilIface := by rfl) (hp : Pt loc tmp d (.tuple #[z, .bool false]) loc' tmp' := by exact pt_)
    (hg : gdv ops loc tmp gd = some true := by rfl) (hd : dOK X.n d = true := by rfl) : EO X ops cf k (i :: is) (⟨d, .typeAssert x S T true, ty, pos, aft, gd⟩ :: l) loc tmp L :=
  x_pure hg (fun a hr w => by
    obtain ⟨e, hu⟩ := hT.hu
    obtain ⟨zi, hzi, hzz⟩ := Option.bind_eq_some_iff.1 hT.hz
    simp [execOp, hr.ev hx, Instr.typeAssert, run_underlying hu, zeroValue, typeInfo, hzi, hzz]) hp hd h
end
instance : AssN Tryz.prog 144 (.pointer none) := ⟨⟨146, by kernel_rfl⟩, by kernel_rfl⟩
theorem kind0_fn : Fd Tryz.prog 33 #[.nilIface] [] (.int .i64 0) [] := by
  refine fn_of_E' (args := [_]) 5 _ [_, undef, undef, undef, undef] Tryz.func33 rfl Tryz.ntmps33 ?_
  refine walk ?_
  refine x_assN ?_
  refine walk ?_
  exact y_ret [2] rfl ⟨rfl, rfl⟩
end Go.Proofs.YtppkiiomedembaaGreatDoor
