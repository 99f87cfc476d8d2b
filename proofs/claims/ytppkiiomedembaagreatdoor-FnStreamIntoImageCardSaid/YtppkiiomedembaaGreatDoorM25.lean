/-
  The law FnStreamIntoImage: for every input (data, sizes, inline or not) the law returns true and each argument reads behind the call as it read before. Conditions: none beyond the row's own: the listed package-level variables hold what the program's text lays (the card ties them).
-/
import Derived.Test.YtppkiiomedembaaGreatDoorM24
import Derived.Test.YtppkiiomedembaaGreatDoorCards
import Derived.Test.YtppkiiomedembaaGreatDoorTie
set_option linter.unusedVariables false
set_option linter.unusedSimpArgs false
namespace Go.Proofs.YtppkiiomedembaaGreatDoor
open Go
open Go.ChangeShapes Go.WideShapes Go.ChangeAt Go.RowKit Go.Deep
set_option maxRecDepth 100000
set_option maxHeartbeats 2000000
attribute [local irreducible] E EO
def pairD {H : Type} (z : Int × List UInt8) : DataW H := .agg [.lit (.int .u8 z.1), .lit (.string z.2)]
theorem cells_of_pairs {H : Type} {enc' : TypeId × Value → H} {P : Program} {w : World} {base : Nat} {sp : Nat → Bool} {held : Bool} {fuel : Nat} {t e : TypeId} {f0 f1 : Field} {n : Nat} {cs : List Value} {zs : List (Int × List UInt8)} {p : List MemPlace}
    (ht : P.underlying t = some (.array n e)) (he : P.underlying e = some (.struct #[f0, f1])) (h0 : P.underlying f0.type = some (.int .u8)) (h1 : P.underlying f1.type = some .string) (o0 : f0.offset = 0) (o1 : f1.offset = 1) (c0 : P.cellsOf f0.type = 1) (c1 : P.cellsOf f1.type = 1) (hce : P.cellsOf e = 2)
    (h : DataW.trod enc' P w base sp held fuel t cs = some (.agg (zs.map pairD), p)) : ∀ (i : Nat) (z : Int × List UInt8), zs[i]? = some z → cs[i * 2]? = some (.int .u8 z.1) ∧ cs[i * 2 + 1]? = some (.string (str z.2)) := by
  cases fuel with
  | zero => simp [DataW.trod] at h
  | succ fuel =>
    simp only [DataW.trod, ht, hce] at h
    split at h
    · rename_i hl
      obtain ⟨xs, hm, hx⟩ := Option.map_eq_some_iff.1 h
      have hxs : xs.map (·.1) = zs.map (pairD (H := H)) := by
        have := congrArg Prod.fst hx
        simpa using this
      have hxl : xs.length = n := by simpa using Lib.mapM_length hm
      have hzl : zs.length = n := by
        have := congrArg List.length hxs
        simp at this
        omega
      intro i z hz
      have hi : i < n := by rw [← hzl]; exact (List.getElem?_eq_some_iff.1 hz).1
      obtain ⟨b, hb, hf⟩ := Lib.mapM_at hm i i (by simp [hi])
      obtain ⟨y0, y1, n', hby, _, t0, t1⟩ := trod_struct2 he hf
      rw [o0, c0] at t0
      rw [o1, c1] at t1
      obtain ⟨k, hk, hk2, _⟩ := DataW.trod_int h0 t0
      obtain ⟨s, hs, hs2, _⟩ := DataW.trod_string h1 t1
      have h2 : (xs.map (·.1))[i]? = some b.1 := by simp [hb]
      rw [hxs, List.getElem?_map, hz] at h2
      have h3 : pairD (H := H) z = b.1 := by simpa using h2
      rw [hby, hk2, hs2] at h3
      simp only [pairD, DataW.agg.injEq, List.cons.injEq, DataW.lit.injEq, Lit.int.injEq, Lit.string.injEq, true_and, and_true] at h3
      obtain ⟨e1, e2⟩ := h3
      constructor
      · have := congrArg (·[0]?) hk
        simp only [List.getElem?_take, List.getElem?_drop] at this
        rw [e1]
        simpa using this
      · have := congrArg (·[0]?) hs
        simp only [List.getElem?_take, List.getElem?_drop] at this
        rw [e2, str_self]
        simpa using this
    · cases h
def pfxZ : List (Int × List UInt8) := [(2, [115, 121, 115, 116, 101, 109, 46, 112, 111, 115, 105, 120, 95, 97, 99, 108, 95, 97, 99, 99, 101, 115, 115]), (3, [115, 121, 115, 116, 101, 109, 46, 112, 111, 115, 105, 120, 95, 97, 99, 108, 95, 100, 101, 102, 97, 117, 108, 116]), (8, [115, 121, 115, 116, 101, 109, 46, 114, 105, 99, 104, 97, 99, 108]), (7, [115, 121, 115, 116, 101, 109, 46]), (1, [117, 115, 101, 114, 46]), (4, [116, 114, 117, 115, 116, 101, 100, 46]), (6, [115, 101, 99, 117, 114, 105, 116, 121, 46])]
theorem pfx_get : ∀ (j : Nat) (v : Value), pfx[j]? = some v → ∃ i z, pfxZ[i]? = some z ∧ (j = i * 2 ∧ v = .int .u8 z.1 ∨ j = i * 2 + 1 ∧ v = .string (str z.2)) := by
  intro j v h
  match j, h with
  | 0, h => exact ⟨0, _, rfl, .inl ⟨rfl, by simpa [pfx] using h.symm⟩⟩
  | 1, h => exact ⟨0, _, rfl, .inr ⟨rfl, by simpa [pfx] using h.symm⟩⟩
  | 2, h => exact ⟨1, _, rfl, .inl ⟨rfl, by simpa [pfx] using h.symm⟩⟩
  | 3, h => exact ⟨1, _, rfl, .inr ⟨rfl, by simpa [pfx] using h.symm⟩⟩
  | 4, h => exact ⟨2, _, rfl, .inl ⟨rfl, by simpa [pfx] using h.symm⟩⟩
  | 5, h => exact ⟨2, _, rfl, .inr ⟨rfl, by simpa [pfx] using h.symm⟩⟩
  | 6, h => exact ⟨3, _, rfl, .inl ⟨rfl, by simpa [pfx] using h.symm⟩⟩
  | 7, h => exact ⟨3, _, rfl, .inr ⟨rfl, by simpa [pfx] using h.symm⟩⟩
  | 8, h => exact ⟨4, _, rfl, .inl ⟨rfl, by simpa [pfx] using h.symm⟩⟩
  | 9, h => exact ⟨4, _, rfl, .inr ⟨rfl, by simpa [pfx] using h.symm⟩⟩
  | 10, h => exact ⟨5, _, rfl, .inl ⟨rfl, by simpa [pfx] using h.symm⟩⟩
  | 11, h => exact ⟨5, _, rfl, .inr ⟨rfl, by simpa [pfx] using h.symm⟩⟩
  | 12, h => exact ⟨6, _, rfl, .inl ⟨rfl, by simpa [pfx] using h.symm⟩⟩
  | 13, h => exact ⟨6, _, rfl, .inr ⟨rfl, by simpa [pfx] using h.symm⟩⟩
  | j + 14, h => simp [pfx] at h
theorem pfx_laid {W : World} (h : laidMet Tryz.prog Rows.fnStreamIntoImageRow.laid W) : PfxP (OldP W) := by
  obtain ⟨g', t', cs, fuel, p, hg', ht', hvar, hd⟩ := Lib.laidMet.reads h (n := "pub-marram/pub/hcsshim/ext4/inner/compactext4.xattrPrefixes") (d := Rows.laid_pub_marram_pub_hcsshim_ext4_inner_compactext4_xattrPrefixes) (by
    show _ ∈ [_, _, _, _, _, _, _, _, _, _, _, _]
    exact List.mem_of_getElem? (i := 11) rfl)
  obtain rfl := Option.some.inj ((show Tryz.prog.globalNamed "pub-marram/pub/hcsshim/ext4/inner/compactext4.xattrPrefixes" = some 11 by kernel_rfl).symm.trans hg')
  obtain rfl := Option.some.inj ((show (Tryz.prog.globals[11]?).map (·.type) = some 321 by kernel_rfl).symm.trans ht')
  have hp := cells_of_pairs (zs := pfxZ) Tryz.underlying321 Tryz.underlying320 Tryz.underlying5 Tryz.underlying9 rfl rfl (by kernel_rfl) (by kernel_rfl) (by kernel_rfl) hd
  have hc := World.var?_cell (show Tryz.prog.globalNamed "pub-marram/pub/hcsshim/ext4/inner/compactext4.xattrPrefixes" = some 11 by kernel_rfl) hvar
  intro j v hj
  obtain ⟨i, z, hz, h⟩ := pfx_get j v hj
  obtain ⟨h1, h2⟩ := hp i z hz
  have hcj := hc j
  rw [← Array.getElem?_toList] at hcj
  rw [Nat.zero_add]
  rcases h with ⟨rfl, rfl⟩ | ⟨rfl, rfl⟩
  · rw [h1] at hcj; exact old_cell hcj
  · rw [h2] at hcj; exact old_cell hcj
theorem s_own : ownKnob Tryz.prog.godebug = none := by kernel_rfl
theorem s_laidOut : laidOutB Tryz.prog = true := by kernel_rfl
theorem contract (H : Type) (enc' : TypeId × Value → H) (W : World) (base : Nat) (args : Array Value) (ds gs : List (DataW H)) (before : List MemPlace)
    (hval : ∀ (j : Nat) t v, Tryz.f3.params[j]? = some t → args[j]? = some v → Value.okWide Tryz.prog W .any base t v)
    (hW : DataW.Whole enc' Tryz.prog Tryz.f3.params.toList Rows.fnStreamIntoImageSpec.vars false W args.toList ds gs before) (hL : laidMetH Tryz.prog Rows.fnStreamIntoImageRow.laid W) :
    Calls Tryz.prog 3 args W fun e W' => ∃ v, e = .returned v ∧ Rows.fnStreamIntoImageSpec.post enc' Tryz.prog Tryz.f3 false true false false W args v W' := by
  have hW' := hW
  rw [MakeChecks.laidMetH_plain _ _ _ (by kernel_rfl)] at hL
  obtain ⟨p, q, hA0, hV, rfl, _, _⟩ := hW
  have hA : DataW.TrodAll enc' Tryz.prog W 0 (fun _ => true) true Tryz.f3.params.toList args.toList ds p := hA0
  rw [Tryz.params3] at hA hval
  obtain ⟨v0, v1, v2, d0, d1, d2, p0, p1, p2, rfl, rfl, rfl, h0, h1, h2⟩ := trodAll_three hA
  obtain ⟨rfl, rfl⟩ := trodVars_none hV
  have hlt : ∀ x ∈ p0 ++ p1 ++ p2, x.block < W.heap.size := fun x hx => by simpa using hW'.lt x (by simpa using hx)
  obtain ⟨D, cD, data, e0, b1, b2, b3, b4, b5⟩ := bytes_arg (hval 0 22 v0 rfl rfl) h0
  obtain ⟨Z, zc, sz, e1, z1, z2⟩ := ints_arg (hval 1 23 v1 rfl rfl) h1
  obtain ⟨il, e2⟩ := okWide_bool Tryz.underlying4 (hval 2 4 v2 rfl rfl)
  have hlaw := streamLaw D cD data Z zc sz il (OldP W) b1 b2 b3 b4 b5 z1 z2 (pfx_laid hL)
  rw [← e0, ← e1, ← e2] at hlaw
  refine (law_below hlaw).mono fun e W' ⟨he, bel⟩ => ?_
  subst he
  refine ⟨_, rfl, _, _, _, [], p0 ++ (p1 ++ p2), [], hW', ?_, ?_, ?_, bel.frame _, fun h => by cases h⟩
  · exact trodAll_cons_mk (shut_bool Tryz.underlying4 _) trodAll_mk0
  · exact trodAll_cons_mk (Below.trod s_laidOut (by kernel_rfl) (of_decide_eq_true (by kernel_rfl)) h0 bel (fun x hx => hlt x (by simp [hx]))) (trodAll_cons_mk (Below.trod s_laidOut (by kernel_rfl) (of_decide_eq_true (by kernel_rfl)) h1 bel (fun x hx => hlt x (by simp [hx])))
      (trodAll_mk1 (Below.trod s_laidOut (by kernel_rfl) (of_decide_eq_true (by kernel_rfl)) h2 bel (fun x hx => hlt x (by simp [hx])))))
  · rfl
end Go.Proofs.YtppkiiomedembaaGreatDoor
