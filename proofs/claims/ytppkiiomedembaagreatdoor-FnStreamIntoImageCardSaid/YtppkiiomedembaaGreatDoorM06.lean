/-
  The walks: extents, and a file's end; DERIVED: THE SHELF's CONTRACTS AT THIS DUMP, IN PLAIN WORDS (tools/lay-plain.mjs out of 'TryzShelf.lean', which tools/lay-shelf.mjs wrote): THE SAME DECLARATIONS UNDER THE SAME NAMES: 'import', 'namespace', 'open', 'def', 'theorem' AND NOTHING ELSE: no command of the shelf's: FOR A HAND-IN. Each laying: the table of numbers ('.._ren') and one theorem, a field a fact of the dump's own or the kernel's comparison; each contract: ONE APPLICATION; The walks: paths. Conditions: none.
-/
import Derived.Test.YtppkiiomedembaaGreatDoorM05
import Derived.Shelf.Small.Strs
import Derived.Shelf.Strings.Search1
import Derived.Shelf.Strings.LastIndex
import Derived.Shelf.Strings.Prefix
import Derived.Ground.PaProg
import Derived.Shelf.Path.Small
import Derived.Test.YtppkiiomedembaaGreatDoorProg
import Derived.Laws.BytesString
set_option linter.unusedVariables false
set_option linter.unusedSimpArgs false
namespace Go.Proofs.YtppkiiomedembaaGreatDoor
open Go
set_option maxRecDepth 100000
set_option maxHeartbeats 4000000
attribute [local irreducible] E EO
theorem fill1_fn (g st n : Nat) (hn : 0 < n) (hn2 : n ≤ 32768) (hs : st ≤ 1000000000) :
    Fd Tryz.prog 187 #[ptrV g, .slice (some ⟨g, 5, none⟩) 1 4, .int .u32 (st : Int), .int .u32 0, .int .u32 (n : Int)]
      [Cells g 308 [.int .u16 0, .int .u16 0, .int .u16 0, .int .u16 0, .int .u32 0, .int .u32 0, .int .u16 0, .int .u16 0, .int .u32 0, .int .u32 0, .int .u16 0, .int .u16 0, .int .u32 0, .int .u32 0, .int .u16 0, .int .u16 0, .int .u32 0, .int .u32 0, .int .u16 0, .int .u16 0, .int .u32 0]] (.tuple #[])
      [Cells g 308 [.int .u16 62218, .int .u16 1, .int .u16 4, .int .u16 0, .int .u32 0, .int .u32 0, .int .u16 (n : Int), .int .u16 0, .int .u32 (st : Int), .int .u32 0, .int .u16 0, .int .u16 0, .int .u32 0, .int .u32 0, .int .u16 0, .int .u16 0, .int .u32 0, .int .u32 0, .int .u16 0, .int .u16 0, .int .u32 0]] := by
  refine fn_of_E' (args := [_, _, _, _, _]) 26 _ [_, _, _, _, _, undef, undef, undef, undef, undef, undef, undef, undef, undef, undef, undef, undef, undef, undef, undef, undef, undef, undef, undef, undef, undef] Tryz.func187 rfl Tryz.ntmps187 ?_
  refine walk ?_
  refine y_loop ?_
  refine walk ?_
  refine y_again ?_
  refine walk ?_
  exact y_endE [] rfl ⟨rfl, rfl⟩ (by simp)
abbrev extB (st n : Nat) : List UInt8 := [] ++ (leB 2 62218 ++ leB 2 1 ++ leB 2 4 ++ leB 2 0 ++ leB 4 0) ++ (leB 4 0 ++ leB 2 n ++ leB 2 0 ++ leB 4 st) ++ (leB 4 0 ++ leB 2 0 ++ leB 2 0 ++ leB 4 0) ++ (leB 4 0 ++ leB 2 0 ++ leB 2 0 ++ leB 4 0) ++ (leB 4 0 ++ leB 2 0 ++ leB 2 0 ++ leB 4 0)
theorem extB_len (st n : Nat) : (extB st n).length = 60 := by simp [extB, leB_len]
def padB (b : List UInt8) : List UInt8 := b ++ List.replicate ((4096 - b.length % 4096) % 4096) 0
theorem padB_len (b : List UInt8) : (padB b).length = (b.length + 4095) / 4096 * 4096 := by simp [padB]; omega
theorem writeExtents_w (s : Ws) (x : Nd) (hd : 0 < s.dw) (hd2 : s.dw ≤ 100000000) (hle : s.dw ≤ s.body.length) (hal : (s.body.length - s.dw) % 4096 = 0) (hb : s.body.length ≤ 900000000) (hf : x.flags < 4294967296) (hbl : x.blks ≤ 1000) :
    Fd Tryz.prog 151 #[ptrV s.wg, ptrV x.g] [WP s, NodeP x] .nilIface
      [WP { s with body := padB s.body }, NodeP { x with data := extB (2 + (s.body.length - s.dw) / 4096) ((s.dw + 4095) / 4096), flags := x.flags ||| 524288, blks := x.blks + (s.dw + 4095) / 4096 }] := by
  refine fn_of_E' (args := [_, _]) 73 _ [_, _, undef, undef, undef, undef, undef, undef, undef, undef, undef, undef, undef, undef, undef, undef, undef, undef, undef, undef, undef, undef, undef, undef, undef, undef, undef, undef, undef, undef, undef, undef, undef, undef, undef, undef, undef, undef, undef, undef, undef, undef, undef, undef, undef, undef, undef, undef, undef, undef, undef, undef, undef, undef, undef, undef, undef, undef, undef, undef, undef, undef, undef, undef, undef, undef, undef, undef, undef, undef, undef, undef, undef] Tryz.func151 rfl Tryz.ntmps151 ?_
  refine E.nilB ?_
  refine y_tn2 WP.op fun A c _ => ?_
  refine walk ?_
  refine y_tno (WP.cl s) fun _ _ => ?_
  refine y_callD rfl rfl (nextBlock_w s hb) ?_
  have e1 : 8192 + (padB s.body).length = 8192 + s.body.length - s.dw + (s.dw + 4095) / 4096 * 4096 := by rw [padB_len]; omega
  have e2 := padB_len s.body
  change EO _ _ _ _ _ _ _ _ [WP { s with body := padB s.body }, _, _]
  refine y_tno2 WP.op fun A c _ => ?_
  dsimp only
  refine walk ?_
  refine y_callq rfl rfl (block_fn s.wg _ _ _ _ _ _ _ _ _ _ _ (8192 + (padB s.body).length) (by omega)) ?_
  refine walk ?_
  have eb : (8192 + (padB s.body).length) / 4096 - (8192 + s.body.length - s.dw) / 4096 = (s.dw + 4095) / 4096 := by omega
  have es : (8192 + s.body.length - s.dw) / 4096 = 2 + (s.body.length - s.dw) / 4096 := by omega
  rw [eb, es]
  refine y_alloc fun gx => ?_
  refine walk ?_
  rw [show ((s.dw + 4095) / 4096 + 32768 - 1) / 32768 = 1 by omega]
  refine walk ?_
  refine y_callD rfl rfl (fill1_fn gx (2 + (s.body.length - s.dw) / 4096) ((s.dw + 4095) / 4096) (by omega) (by omega) (by omega)) ?_
  refine walk ?_
  refine y_callS rfl rfl (extHeader_fn 62218 1 4 0 0 (by omega) (by omega) (by omega) (by omega) (by omega)) fun g c => ?_
  refine walk ?_
  refine y_appE (us := leB 2 62218 ++ leB 2 1 ++ leB 2 4 ++ leB 2 0 ++ leB 4 0) rfl rfl (fun A' c' => ?_) take_ (by first | ((repeat (first | exact CellRow.own | exact CellRow.here | apply CellRow.there)) <;> fail) | fail) (by simp [leB_len])
  refine walk ?_
  refine y_loop ?_
  refine walk ?_
  refine y_alloc fun ga => ?_
  refine walk ?_
  refine y_callS rfl rfl (extLeaf_fn 0 ((s.dw + 4095) / 4096) 0 (2 + (s.body.length - s.dw) / 4096) (by omega) (by omega) (by omega) (by omega)) fun g c => ?_
  refine walk ?_
  refine y_appE (us := leB 4 0 ++ leB 2 ((s.dw + 4095) / 4096) ++ leB 2 0 ++ leB 4 (2 + (s.body.length - s.dw) / 4096)) rfl rfl (fun A' c' => ?_) take_ (by first | ((repeat (first | exact CellRow.own | exact CellRow.here | apply CellRow.there)) <;> fail) | fail) (by simp [leB_len])
  refine walk ?_
  refine y_again ?_
  refine walk ?_
  refine y_alloc fun ga => ?_
  refine walk ?_
  refine y_callS rfl rfl (extLeaf_fn 0 0 0 0 (by omega) (by omega) (by omega) (by omega)) fun g c => ?_
  refine walk ?_
  refine y_appE (us := leB 4 0 ++ leB 2 0 ++ leB 2 0 ++ leB 4 0) rfl rfl (fun A' c' => ?_) take_ (by first | ((repeat (first | exact CellRow.own | exact CellRow.here | apply CellRow.there)) <;> fail) | fail) (by simp [leB_len])
  refine walk ?_
  refine y_again ?_
  refine walk ?_
  refine y_alloc fun ga => ?_
  refine walk ?_
  refine y_callS rfl rfl (extLeaf_fn 0 0 0 0 (by omega) (by omega) (by omega) (by omega)) fun g c => ?_
  refine walk ?_
  refine y_appE (us := leB 4 0 ++ leB 2 0 ++ leB 2 0 ++ leB 4 0) rfl rfl (fun A' c' => ?_) take_ (by first | ((repeat (first | exact CellRow.own | exact CellRow.here | apply CellRow.there)) <;> fail) | fail) (by simp [leB_len])
  refine walk ?_
  refine y_again ?_
  refine walk ?_
  refine y_alloc fun ga => ?_
  refine walk ?_
  refine y_callS rfl rfl (extLeaf_fn 0 0 0 0 (by omega) (by omega) (by omega) (by omega)) fun g c => ?_
  refine walk ?_
  refine y_appE (us := leB 4 0 ++ leB 2 0 ++ leB 2 0 ++ leB 4 0) rfl rfl (fun A' c' => ?_) take_ (by first | ((repeat (first | exact CellRow.own | exact CellRow.here | apply CellRow.there)) <;> fail) | fail) (by simp [leB_len])
  refine walk ?_
  refine y_again ?_
  refine walk ?_
  refine y_tno5 NodeP.op fun B1 c1 B2 c2 gm _ => ?_
  refine walk ?_
  refine y_tn (NodeP.cl { x with data := extB (2 + (s.body.length - s.dw) / 4096) ((s.dw + 4095) / 4096), flags := x.flags ||| 524288, blks := x.blks + (s.dw + 4095) / 4096 } (n := 0 + 12 + 12 + 12 + 12 + 12) (gm := gm) (by rw [extB_len])) fun _ _ => ?_
  refine y_tn (WP.cl { s with body := padB s.body }) fun _ _ => ?_
  exact y_ret [4] rfl ⟨rfl, rfl⟩
theorem finish0_w (s : Ws) (hc : s.cur = none) : Fd Tryz.prog 91 #[ptrV s.wg] [WP s] .nilIface [WP s] := by
  refine fn_of_E' (args := [_]) 5 _ [_, undef, undef, undef, undef] Tryz.func91 rfl Tryz.ntmps91 ?_
  refine y_tn2 WP.op fun A c _ => ?_
  rw [hc]
  refine walk ?_
  rw [← hc]
  refine y_tn (WP.cl s) fun _ _ => ?_
  exact y_ret [2] rfl ⟨rfl, rfl⟩
theorem finishE_w (s : Ws) (g : Nat) (hc : s.cur = some g) (h1 : s.dw = 0) (h2 : s.dm = 0) : Fd Tryz.prog 91 #[ptrV s.wg] [WP s] .nilIface [WP { s with cur := none, dw := 0, dm := 0 }] := by
  refine fn_of_E' (args := [_]) 5 _ [_, undef, undef, undef, undef] Tryz.func91 rfl Tryz.ntmps91 ?_
  refine y_tn2 WP.op fun A c _ => ?_
  rw [hc, h1, h2]
  refine walk ?_
  refine y_tn (WP.cl0 { s with cur := none, dw := 0, dm := 0 }) fun _ _ => ?_
  exact y_ret [2] rfl ⟨rfl, rfl⟩
theorem finishI_w (s : Ws) (x : Nd) (hc : s.cur = some x.g) (h1 : s.dm = s.dw) (h2 : 0 < s.dw) (hfl : x.flags &&& 268435456 ≠ 0) (hf2 : x.flags < 4294967296) : Fd Tryz.prog 91 #[ptrV s.wg] [WP s, NodeP x] .nilIface [WP { s with cur := none, dw := 0, dm := 0 }, NodeP x] := by
  refine fn_of_E' (args := [_]) 5 _ [_, undef, undef, undef, undef] Tryz.func91 rfl Tryz.ntmps91 ?_
  refine y_tn2 WP.op fun A c _ => ?_
  rw [hc, h1]
  refine walk ?_
  refine y_loadC (v := .int .u32 (x.flags : Int)) (.there (.there (.there (NodeP.cell 14 _ fun _ => rfl)))) ?_
  refine walk ?_
  refine y_tn (WP.cl0 { s with cur := none, dw := 0, dm := 0 }) fun _ _ => ?_
  exact y_ret [2] rfl ⟨rfl, rfl⟩
theorem finishX_w (s : Ws) (x : Nd) (hc : s.cur = some x.g) (h1 : s.dm = s.dw) (hd : 0 < s.dw) (hfl : x.flags &&& 268435456 = 0) (hf : x.flags < 4294967296) (hd2 : s.dw ≤ 100000000) (hle : s.dw ≤ s.body.length) (hal : (s.body.length - s.dw) % 4096 = 0) (hb : s.body.length ≤ 900000000) (hbl : x.blks ≤ 1000) :
    Fd Tryz.prog 91 #[ptrV s.wg] [WP s, NodeP x] .nilIface
      [WP { s with body := padB s.body, cur := none, dw := 0, dm := 0 }, NodeP { x with data := extB (2 + (s.body.length - s.dw) / 4096) ((s.dw + 4095) / 4096), flags := x.flags ||| 524288, blks := x.blks + (s.dw + 4095) / 4096 }] := by
  refine fn_of_E' (args := [_]) 5 _ [_, undef, undef, undef, undef] Tryz.func91 rfl Tryz.ntmps91 ?_
  refine y_tn2 WP.op fun A c _ => ?_
  rw [hc, h1]
  refine walk ?_
  refine y_loadC (v := .int .u32 (x.flags : Int)) (.there (.there (.there (NodeP.cell 14 _ fun _ => rfl)))) ?_
  refine walk ?_
  refine y_tno (WP.cl s) (fun _ _ => ?_) (by dsimp only [wsL, wsC]; rw [hc, h1]; exact sub_)
  refine y_callD rfl rfl (writeExtents_w s x hd hd2 hle hal hb hf hbl) ?_
  refine y_tno2 WP.op fun A c _ => ?_
  dsimp only
  refine walk ?_
  refine y_tn (WP.cl0 { s with body := padB s.body, cur := none, dw := 0, dm := 0 }) fun _ _ => ?_
  exact y_ret [2] rfl ⟨rfl, rfl⟩
end Go.Proofs.YtppkiiomedembaaGreatDoor
namespace Go.Proofs
open Go.Shelf
def Tryz.lays137_ren : Go.Shelf.Ren := ⟨fun | 137 => 165 | 217 => 194 | 266 => 204 | n => n, fun | 9 => 9 | 5 => 5 | 3 => 3 | n => n, fun | n => n⟩
theorem Tryz.lays137 : Go.Proofs.Lays.n137 Tryz.prog Tryz.lays137_ren := {
  mixed := by kernel_rfl
  f137 := Tryz.func165.trans (congrArg some (by kernel_rfl))
  f217 := Tryz.func194.trans (congrArg some (by kernel_rfl))
  f266 := Tryz.func204.trans (congrArg some (by kernel_rfl))
  t3 := Tryz.underlying3
  a3 := Tryz.isAgg3
  z3 := Tryz.sizeOf3
  v3 := Tryz.zeroValue3
  t5 := Tryz.underlying5
  a5 := Tryz.isAgg5
  z5 := Tryz.sizeOf5
  v5 := Tryz.zeroValue5
  t9 := Tryz.underlying9
  a9 := Tryz.isAgg9
  z9 := Tryz.sizeOf9
  v9 := Tryz.zeroValue9 }
open Go.RowKit in
theorem Tryz.strings_IndexByte (s : ByteArray) (c : Int) (w : World) :
    Calls Tryz.prog 165 #[.string s, .int .u8 c] w fun e w' => e = .returned (.int .i64 (Lib.indexByte s.data.toList c.toNat.toUInt8)) ∧ w' = w := Any.strings_IndexByte Tryz.lays137 s c w
def Tryz.lays217_ren : Go.Shelf.Ren := ⟨fun | 217 => 194 | 266 => 204 | n => n, fun | 9 => 9 | 5 => 5 | 3 => 3 | n => n, fun | n => n⟩
theorem Tryz.lays217 : Go.Proofs.Lays.n217 Tryz.prog Tryz.lays217_ren := {
  mixed := by kernel_rfl
  f217 := Tryz.func194.trans (congrArg some (by kernel_rfl))
  f266 := Tryz.func204.trans (congrArg some (by kernel_rfl))
  t3 := Tryz.underlying3
  a3 := Tryz.isAgg3
  z3 := Tryz.sizeOf3
  v3 := Tryz.zeroValue3
  t5 := Tryz.underlying5
  a5 := Tryz.isAgg5
  z5 := Tryz.sizeOf5
  v5 := Tryz.zeroValue5
  t9 := Tryz.underlying9
  a9 := Tryz.isAgg9
  z9 := Tryz.sizeOf9
  v9 := Tryz.zeroValue9 }
open Go.RowKit Go.Lib in
theorem Tryz.stringslite_IndexByte (s : ByteArray) (c : Int) (w : World) :
    Calls Tryz.prog 194 #[.string s, .int .u8 c] w fun e w' => e = .returned (.int .i64 (Lib.indexByte s.data.toList c.toNat.toUInt8)) ∧ w' = w := Any.stringslite_IndexByte Tryz.lays217 s c w
def Tryz.lays222_ren : Go.Shelf.Ren := ⟨fun | 222 => 164 | n => n, fun | 9 => 9 | 5 => 5 | 3 => 3 | 4 => 4 | n => n, fun | n => n⟩
theorem Tryz.lays222 : Go.Proofs.Lays.n222 Tryz.prog Tryz.lays222_ren := {
  mixed := by kernel_rfl
  f222 := Tryz.func164.trans (congrArg some (by kernel_rfl))
  t3 := Tryz.underlying3
  a3 := Tryz.isAgg3
  z3 := Tryz.sizeOf3
  v3 := Tryz.zeroValue3
  t4 := Tryz.underlying4
  a4 := Tryz.isAgg4
  z4 := Tryz.sizeOf4
  v4 := Tryz.zeroValue4
  t5 := Tryz.underlying5
  a5 := Tryz.isAgg5
  z5 := Tryz.sizeOf5
  v5 := Tryz.zeroValue5
  t9 := Tryz.underlying9
  a9 := Tryz.isAgg9
  z9 := Tryz.sizeOf9
  v9 := Tryz.zeroValue9 }
open Go.RowKit Go.Lib in
theorem Tryz.bytealg_LastIndexByteString_nm (s : ByteArray) (c : Int) (hs : s.size < 4611686018427387904) (w : World) :
    Calls Tryz.prog 164 #[.string s, .int .u8 c] w fun e w' => e = .returned (.int .i64 (Lib.lastIndexByte s c)) ∧ w' = w := Any.bytealg_LastIndexByteString_nm Tryz.lays222 s c hs w
def Tryz.lays206_ren : Go.Shelf.Ren := ⟨fun | 206 => 142 | n => n, fun | 9 => 9 | 4 => 4 | 3 => 3 | n => n, fun | n => n⟩
theorem Tryz.lays206 : Go.Proofs.Lays.n206 Tryz.prog Tryz.lays206_ren := {
  mixed := by kernel_rfl
  f206 := Tryz.func142.trans (congrArg some (by kernel_rfl))
  t3 := Tryz.underlying3
  a3 := Tryz.isAgg3
  z3 := Tryz.sizeOf3
  v3 := Tryz.zeroValue3
  t4 := Tryz.underlying4
  a4 := Tryz.isAgg4
  z4 := Tryz.sizeOf4
  v4 := Tryz.zeroValue4
  t9 := Tryz.underlying9
  a9 := Tryz.isAgg9
  z9 := Tryz.sizeOf9
  v9 := Tryz.zeroValue9 }
open Go.RowKit Go.Lib in
theorem Tryz.stringslite_HasPrefix (s p : ByteArray) (w : World) :
    Calls Tryz.prog 142 #[.string s, .string p] w fun e w' => e = .returned (.bool (Lib.hasPrefix s.data.toList p.data.toList)) ∧ w' = w := Any.stringslite_HasPrefix Tryz.lays206 s p w
def Tryz.lays99_ren : Go.Shelf.Ren := ⟨fun | 99 => 72 | 206 => 142 | n => n, fun | 9 => 9 | 4 => 4 | 3 => 3 | n => n, fun | n => n⟩
theorem Tryz.lays99 : Go.Proofs.Lays.n99 Tryz.prog Tryz.lays99_ren := {
  mixed := by kernel_rfl
  f99 := Tryz.func72.trans (congrArg some (by kernel_rfl))
  f206 := Tryz.func142.trans (congrArg some (by kernel_rfl))
  t3 := Tryz.underlying3
  a3 := Tryz.isAgg3
  z3 := Tryz.sizeOf3
  v3 := Tryz.zeroValue3
  t4 := Tryz.underlying4
  a4 := Tryz.isAgg4
  z4 := Tryz.sizeOf4
  v4 := Tryz.zeroValue4
  t9 := Tryz.underlying9
  a9 := Tryz.isAgg9
  z9 := Tryz.sizeOf9
  v9 := Tryz.zeroValue9 }
open Go.RowKit Go.Lib in
theorem Tryz.strings_HasPrefix (s p : ByteArray) (w : World) :
    Calls Tryz.prog 72 #[.string s, .string p] w fun e w' => e = .returned (.bool (Lib.hasPrefix s.data.toList p.data.toList)) ∧ w' = w := Any.strings_HasPrefix Tryz.lays99 s p w
def Tryz.laysPa45_ren : Go.Shelf.Ren := ⟨fun | 45 => 164 | n => n, fun | 9 => 9 | 5 => 5 | 3 => 3 | 4 => 4 | n => n, fun | n => n⟩
theorem Tryz.laysPa45 : Go.Proofs.Lays.p45 Tryz.prog Tryz.laysPa45_ren := {
  mixed := by kernel_rfl
  f45 := Tryz.func164.trans (congrArg some (by kernel_rfl))
  t3 := Tryz.underlying3
  a3 := Tryz.isAgg3
  z3 := Tryz.sizeOf3
  v3 := Tryz.zeroValue3
  t4 := Tryz.underlying4
  a4 := Tryz.isAgg4
  z4 := Tryz.sizeOf4
  v4 := Tryz.zeroValue4
  t5 := Tryz.underlying5
  a5 := Tryz.isAgg5
  z5 := Tryz.sizeOf5
  v5 := Tryz.zeroValue5
  t9 := Tryz.underlying9
  a9 := Tryz.isAgg9
  z9 := Tryz.sizeOf9
  v9 := Tryz.zeroValue9 }
open Go.RowKit Go.Lib in
theorem Tryz.bytealg_LastIndexByteString (s : ByteArray) (c : UInt8) (w : World) (hs : s.size ≤ 9223372036854775807) :
    Calls Tryz.prog 164 #[.string s, .int .u8 c.toNat] w fun e w' => e = .returned (.int .i64 (Pa.lastIndexByte s.data.toList c)) ∧ w' = w := Any.bytealg_LastIndexByteString Tryz.laysPa45 s c w hs
def Tryz.laysPa29_ren : Go.Shelf.Ren := ⟨fun | 29 => 108 | 45 => 164 | n => n, fun | 9 => 9 | 5 => 5 | 3 => 3 | 4 => 4 | n => n, fun | n => n⟩
theorem Tryz.laysPa29 : Go.Proofs.Lays.p29 Tryz.prog Tryz.laysPa29_ren := {
  mixed := by kernel_rfl
  f29 := Tryz.func108.trans (congrArg some (by kernel_rfl))
  f45 := Tryz.func164.trans (congrArg some (by kernel_rfl))
  t3 := Tryz.underlying3
  a3 := Tryz.isAgg3
  z3 := Tryz.sizeOf3
  v3 := Tryz.zeroValue3
  t4 := Tryz.underlying4
  a4 := Tryz.isAgg4
  z4 := Tryz.sizeOf4
  v4 := Tryz.zeroValue4
  t5 := Tryz.underlying5
  a5 := Tryz.isAgg5
  z5 := Tryz.sizeOf5
  v5 := Tryz.zeroValue5
  t9 := Tryz.underlying9
  a9 := Tryz.isAgg9
  z9 := Tryz.sizeOf9
  v9 := Tryz.zeroValue9 }
open Go.RowKit Go.Lib in
theorem Tryz.path_Split (s : ByteArray) (w : World) (hs : s.size ≤ 9223372036854775807) :
    Calls Tryz.prog 108 #[.string s] w fun e w' => e = .returned (.tuple #[.string ⟨(Pa.split s.data.toList).1.toArray⟩, .string ⟨(Pa.split s.data.toList).2.toArray⟩]) ∧ ∃ n, w' = w.drewN n := Any.path_Split Tryz.laysPa29 s w hs
end Go.Proofs
namespace Go.Proofs.YtppkiiomedembaaGreatDoor
open Go
set_option maxRecDepth 100000
attribute [local irreducible] E EO
theorem qn_of_calls {P : Program} {f : FuncId} {args : Array Value} {v : Value} {L : List HP} (h : ∀ w, Calls P f args w fun e w' => e = .returned v ∧ w' = w) : Qn P f args L v := fun w S hs n =>
  (h (wat w n)).mono fun e w' ⟨he, hw⟩ => ⟨v, he, L, rfl, by subst hw; exact ((St.start hs).wat n).nrm⟩
def headP (l : List UInt8) : List UInt8 := l.takeWhile (· != 47)
def tailP (l : List UInt8) : List UInt8 := (l.dropWhile (· != 47)).drop 1
theorem indexByte_eq : ∀ (l : List UInt8), Lib.indexByte l 47 = if 47 ∈ l then ((headP l).length : Int) else -1
  | [] => rfl
  | b :: l => by
    have ih := indexByte_eq l
    unfold Lib.indexByte
    by_cases hb : b = 47
    · subst hb; simp [headP]
    · have hb' : (b == 47) = false := by simpa using hb
      have hm : (47 ∈ b :: l) ↔ 47 ∈ l := by simp [Ne.symm hb]
      have hh : headP (b :: l) = b :: headP l := by simp [headP, hb]
      rw [hb', ih, hh]
      by_cases h : 47 ∈ l
      · simp [h, hm]; try omega
      · simp [h, hm]
theorem headP_take (l : List UInt8) : l.take (headP l).length = headP l := by
  unfold headP
  induction l with
  | nil => rfl
  | cons b l ih => by_cases hb : b = 47 <;> simp [hb, ih]
theorem tailP_drop : ∀ {l : List UInt8}, 47 ∈ l → l.drop ((headP l).length + 1) = tailP l
  | b :: l, h => by
    by_cases hb : b = 47
    · subst hb; simp [headP, tailP]
    · have h' : 47 ∈ l := by simpa [Ne.symm hb] using h
      have := tailP_drop h'
      simp [headP, tailP, hb] at this ⊢
      exact this
theorem headP_none : ∀ {l : List UInt8}, 47 ∉ l → headP l = l ∧ tailP l = []
  | [], _ => ⟨rfl, rfl⟩
  | b :: l, h => by
    have hb : b ≠ 47 := fun e => h (by simp [e])
    obtain ⟨h1, h2⟩ := headP_none (l := l) (fun e => h (by simp [e]))
    exact ⟨by simp [headP, hb] at h1 ⊢; exact h1, by simp [tailP, hb] at h2 ⊢; exact h2⟩
theorem headP_lt : ∀ {l : List UInt8}, 47 ∈ l → (headP l).length < l.length
  | b :: l, h => by
    by_cases hb : b = 47
    · subst hb; simp [headP]
    · have := headP_lt (l := l) (by simpa [Ne.symm hb] using h)
      simp [headP, hb] at this ⊢; exact this
theorem splitFirst_fn (l : List UInt8) (hl : l.length ≤ 1000000000) : Qn Tryz.prog 110 #[.string (str l)] [] (.tuple #[.string (str (headP l)), .string (str (tailP l))]) := by
  have hi := qn_of_calls (L := []) (Tryz.strings_IndexByte (str l) 47)
  refine fn_of_E' (args := [_]) 5 _ [_, undef, undef, undef, undef] Tryz.func110 rfl Tryz.ntmps110 ?_
  rw [str_data, show (47 : Int).toNat.toUInt8 = (47 : UInt8) from rfl, indexByte_eq] at hi
  by_cases h : 47 ∈ l
  · rw [if_pos h] at hi
    have hlt := headP_lt h
    repeat (first | refine walk1 ?_ | refine y_alloc (fun g => ?_) | refine y_boxA rfl (fun g => ?_) | refine y_make rfl rfl (fun g => ?_) | refine y_build1 rfl (fun g => ?_) | refine y_app1 rfl rfl (fun A' c' => ?_) | fail)
    refine x_callq rfl rfl hi sub_ pt_ ?_
    repeat (first | refine walk1 ?_ | refine y_alloc (fun g => ?_) | refine y_boxA rfl (fun g => ?_) | refine y_make rfl rfl (fun g => ?_) | refine y_build1 rfl (fun g => ?_) | refine y_app1 rfl rfl (fun A' c' => ?_) | fail)
    refine e_ret (ts := [2, 3]) (vs := [_, _]) rfl rfl ?_
    rw [headP_take, tailP_drop h]; rfl
  · rw [if_neg h] at hi
    repeat (first | refine walk1 ?_ | refine y_alloc (fun g => ?_) | refine y_boxA rfl (fun g => ?_) | refine y_make rfl rfl (fun g => ?_) | refine y_build1 rfl (fun g => ?_) | refine y_app1 rfl rfl (fun A' c' => ?_) | fail)
    refine x_callq rfl rfl hi sub_ pt_ ?_
    repeat (first | refine walk1 ?_ | refine y_alloc (fun g => ?_) | refine y_boxA rfl (fun g => ?_) | refine y_make rfl rfl (fun g => ?_) | refine y_build1 rfl (fun g => ?_) | refine y_app1 rfl rfl (fun A' c' => ?_) | fail)
    refine e_ret (ts := [2, 3]) (vs := [_, _]) rfl rfl ?_
    rw [(headP_none h).1, (headP_none h).2]; rfl
def dirP (l : List UInt8) : List UInt8 := (l.reverse.dropWhile (· != 47)).reverse
def baseP (l : List UInt8) : List UInt8 := (l.reverse.takeWhile (· != 47)).reverse
theorem dir_base (l : List UInt8) : dirP l ++ baseP l = l := by
  rw [dirP, baseP, ← List.reverse_append, List.takeWhile_append_dropWhile, List.reverse_reverse]
theorem baseP_no (l : List UInt8) : ∀ b ∈ baseP l, b ≠ 47 := by
  intro b hb
  have hb : b ∈ l.reverse.takeWhile (· != 47) := by simpa [baseP] using hb
  have := List.all_takeWhile (p := fun b : UInt8 => b != 47) (l := l.reverse)
  simpa using List.all_eq_true.1 this b hb
theorem dirP_end (l : List UInt8) : dirP l = [] ∨ ∃ d, dirP l = d ++ [47] := by
  have key : ∀ r : List UInt8, r.dropWhile (· != 47) = [] ∨ ∃ d, r.dropWhile (· != 47) = 47 :: d := by
    intro r
    induction r with
    | nil => exact .inl rfl
    | cons b r ih =>
      by_cases hb : b = 47
      · subst hb; exact .inr ⟨r, by simp⟩
      · simpa [hb] using ih
  unfold dirP
  rcases key l.reverse with h | ⟨d, h⟩
  · exact .inl (by rw [h]; rfl)
  · exact .inr ⟨d.reverse, by rw [h]; simp⟩
instance natV_sub1 (a : Nat) : NatV ((a : Int) - 1 + 1) a := ⟨by omega⟩
theorem lastIndex_eq (l : List UInt8) : Lib.lastIndexByte (str l) 47 = ((dirP l).length : Int) - 1 := by
  have hlen : (dirP l).length + (baseP l).length = l.length := by rw [← List.length_append, dir_base]
  have hget : ∀ j : Nat, j < l.length → (((str l).data[j]!).toNat : Int) = 47 → l[j]? = some 47 := by
    intro j hj h
    simp only [str] at h
    rw [getElem!_pos _ _ (by simpa using hj)] at h
    simp at h
    rw [List.getElem?_eq_getElem hj]
    congr 1
    apply UInt8.toNat_inj.1
    show l[j].toNat = 47
    omega
  have hget' : ∀ j : Nat, l[j]? = some 47 → (((str l).data[j]!).toNat : Int) = 47 := by
    intro j h
    obtain ⟨hj, h⟩ := List.getElem?_eq_some_iff.1 h
    simp only [str]
    rw [getElem!_pos _ _ (by simpa using hj)]
    simp [h]
  have hlt : ∀ j : Nat, l[j]? = some 47 → j < (dirP l).length := by
    intro j h
    rw [← dir_base l] at h
    rcases Nat.lt_or_ge j (dirP l).length with h1 | h1
    · exact h1
    · rw [List.getElem?_append_right h1] at h
      exact absurd rfl (baseP_no l 47 (List.mem_of_getElem? h))
  have hlast : dirP l ≠ [] → l[(dirP l).length - 1]? = some 47 := by
    intro hne
    rcases dirP_end l with h | ⟨d, h⟩
    · exact absurd h hne
    · have : l = (d ++ [47]) ++ baseP l := by rw [← h, dir_base]
      rw [h]
      conv => lhs; rw [this]
      simp
  unfold Lib.lastIndexByte
  rw [str_size]
  rcases Lib.lastIdx_spec (str l) 47 l.length with ⟨h1, h2⟩ | ⟨i, hi, h1, h2, h3⟩
  · rw [h1]
    by_cases hne : dirP l = []
    · rw [hne]; rfl
    · have hx := hlast hne
      exact absurd (hget' _ hx) (h2 _ (List.getElem?_eq_some_iff.1 hx).1)
  · rw [h1]
    have hi' := hget i hi h2
    have hlt' := hlt i hi'
    have hne : dirP l ≠ [] := fun e => by rw [e] at hlt'; simp at hlt'
    have hx := hlast hne
    have : ¬ i < (dirP l).length - 1 := fun hc => absurd (hget' _ hx) (h3 _ hc (List.getElem?_eq_some_iff.1 hx).1)
    omega
theorem split_fn (l : List UInt8) (hl : l.length ≤ 1000000000) : Qn Tryz.prog 108 #[.string (str l)] [] (.tuple #[.string (str (dirP l)), .string (str (baseP l))]) := by
  have hi := qn_of_calls (L := []) (Tryz.bytealg_LastIndexByteString_nm (str l) 47 (by rw [str_size]; omega))
  refine fn_of_E' (args := [_]) 5 _ [_, undef, undef, undef, undef] Tryz.func108 rfl Tryz.ntmps108 ?_
  rw [lastIndex_eq] at hi
  have hlen : (dirP l).length + (baseP l).length = l.length := by rw [← List.length_append, dir_base]
  repeat (first | refine walk1 ?_ | refine y_alloc (fun g => ?_) | refine y_boxA rfl (fun g => ?_) | refine y_make rfl rfl (fun g => ?_) | refine y_build1 rfl (fun g => ?_) | refine y_app1 rfl rfl (fun A' c' => ?_) | fail)
  refine x_callq rfl rfl hi sub_ pt_ ?_
  repeat (first | refine walk1 ?_ | refine y_alloc (fun g => ?_) | refine y_boxA rfl (fun g => ?_) | refine y_make rfl rfl (fun g => ?_) | refine y_build1 rfl (fun g => ?_) | refine y_app1 rfl rfl (fun A' c' => ?_) | fail)
  refine e_ret (ts := [2, 3]) (vs := [_, _]) rfl rfl ?_
  have e1 : l.take (dirP l).length = dirP l := by
    have := List.take_left' (l₁ := dirP l) (l₂ := baseP l) rfl
    rwa [dir_base] at this
  have e2 : l.drop (dirP l).length = baseP l := by
    have := List.drop_left' (l₁ := dirP l) (l₂ := baseP l) rfl
    rwa [dir_base] at this
  rw [e1, e2]; rfl
end Go.Proofs.YtppkiiomedembaaGreatDoor
