/-
  The walks: the reader's attributes; The walks: the reader's extents. Conditions: none.
-/
import Derived.Test.YtppkiiomedembaaGreatDoorM12
import Derived.Test.YtppkiiomedembaaGreatDoorM13
set_option linter.unusedVariables false
set_option linter.unusedSimpArgs false
namespace Go.Proofs.YtppkiiomedembaaGreatDoor
open Go
set_option maxRecDepth 100000
set_option maxHeartbeats 4000000
attribute [local irreducible] E EO
theorem Cell.take_ {L F : List HP} {G : HP} {g o : Nat} {v : Value} (h : Cell [G] g o v) (ht : Take G L F) : Cell L g o v := fun m S hS => by
  obtain ⟨S1, S2, h1, _⟩ := sats_perm ht.perm hS
  exact h m S1 (sats_one h1)
section
variable {X : Fx} {ops : Array Oper} {cf : Nat → Cls} {k : List Item} {i : Nat} {is : List Nat} {l : List Oper} {loc loc' : List Value} {tmp tmp' : List (Nat × Value)} {L F : List HP}
  {d : Option Tmp} {ty : TypeId} {pos : String} {aft : Array Edge} {gd : Option (Nat × Bool)}
theorem y_loadG {T g o : Nat} {x : Operand} {v : Value} {G : HP} [OneCell X.P T] (hc : Cell [G] g o v) (h : EO X ops cf k is l loc' tmp' L) (hx : sv loc tmp x = some (.pointer (some ⟨g, o, none⟩)) := by rfl) (ht : Take G L F := by exact take_) (hp : Pt loc tmp d v loc' tmp' := by exact pt_)
    (hg : gdv ops loc tmp gd = some true := by rfl) (hd : dOK X.n d = true := by rfl) (hcl : (cf i).reads = true := by rfl) : EO X ops cf k (i :: is) (⟨d, .load T x, ty, pos, aft, gd⟩ :: l) loc tmp L :=
  x_load hx (hc.take_ ht) hp h hg hd hcl
end
theorem ahash0_fn (g o c c2 m1 sz : Nat) (V : Option Addr) (name : List UInt8) (M : HP) (hr : CellRow [M] g o (enc name)) (hm1 : name.length = m1) (hl1 : m1 ≤ 1000) (hs0 : sz = 0) :
    Qn Tryz.prog 206 #[.slice (some ⟨g, o, none⟩) m1 c, .slice V sz c2] [M] (.int .u32 (hashX name [] : Nat)) := by
  refine fn_of_E' (args := [_, _]) 9 _ [_, _, undef, undef, undef, undef, undef, undef, undef] Tryz.func206 rfl Tryz.ntmps206 ?_
  refine walk ?_
  refine e_roundsK (ι := Nat × Value) (fun q => m1 - q.1) (fun q => [.slice (some ⟨g, o, none⟩) m1 c, .slice V sz c2, undef, undef, .int .u32 0, .int .u32 ((hName 0 (name.take q.1) : Nat) : Int), undef, q.2, undef])
    (fun q => [(11, .int .i64 (q.1 : Nat)), (10, .int .i64 (m1 : Nat)), (9, .slice (some ⟨g, o, none⟩) m1 c)]) (fun _ => [M]) (fun q => q.1 ≤ m1) (0, undef) (Nat.zero_le _) rfl (by repeat constructor) (List.Perm.refl _) ?_
  rintro ⟨q, w⟩ hq again
  dsimp only at hq again ⊢
  have hh := hName_lt (name.take q) 0 (by omega)
  by_cases hlt : q < m1
  · obtain ⟨b, hb⟩ : ∃ b, name[q]? = some b := ⟨_, List.getElem?_eq_getElem (by omega)⟩
    have hb8 := b.toNat_lt
    have e : hName 0 (name.take (q + 1)) = hName 0 (name.take q) * 2 ^ 5 % 4294967296 ^^^ hName 0 (name.take q) / 2 ^ 27 ^^^ b.toNat := by
      rw [List.take_add_one, hb, hName_app]; rfl
    have hx1 : hName 0 (name.take q) * 2 ^ 5 % 4294967296 ^^^ hName 0 (name.take q) / 2 ^ 27 < 4294967296 := xor_lt32 (by omega) (by omega)
    refine walk ?_
    refine y_loadR (a := q) hr (enc_get hb) ?_
    refine walk ?_
    have ag := again (q + 1, .int .u8 (b.toNat : Int)) (by dsimp only; omega) (by dsimp only; omega)
    dsimp only at ag
    rw [e] at ag
    exact ag.toKS (ks := [11, 10, 9]) rfl (by repeat constructor)
  · have hql : q = m1 := by omega
    subst hql
    rw [List.take_of_length_le (by omega)] at hh ⊢
    refine walk ?_
    refine y_loop ?_
    refine walk ?_
    exact y_ret [4] rfl rfl
theorem attr1_fn (vg gx g o c num pl sz : Nat) (D v : List UInt8) (N M : HP) (hN : Cell [N] gx 0 (.int .u64 (num : Int))) (hr : CellRow [M] g o (enc D)) (hD : D.length = 100) (hcc : 100 ≤ c) (h0 : leAt D 0 4 ≠ 0) (h1 : leAt D 0 1 = 4) (h7 : leAt D 1 1 = 7) (hpl : leAt D 2 2 = pl) (hz : leAt D 4 4 = 0) (hsz : leAt D 8 4 = sz)
    (hh : leAt D 12 4 = hashX [100, 97, 116, 97] v) (hn : (D.drop 16).take 4 = [100, 97, 116, 97]) (he : leAt D 20 4 = 0) (hv : (D.drop pl).take sz = v) (hvl : v.length = sz) (hp4 : pl % 4 = 0) (hs0 : 0 < sz) (hpl2 : 24 ≤ pl) (hps : pl + sz ≤ 100) :
    Fe Tryz.prog 202 #[ptrV vg, ptrV gx, .slice (some ⟨g, o, none⟩) 100 c, .slice (some ⟨g, o, none⟩) 100 c, .bool true] [N, M] (fun _ : (Nat × Nat) × (Nat × Nat) => True) (fun i => .slice (some ⟨i.1.1, 0, none⟩) 1 i.1.2)
      (fun i => [Own (some ⟨i.1.1, 0, none⟩) i.1.2 77 2 1 [.string (str sysData), .slice (some ⟨i.2.1, 0, none⟩) sz i.2.2], Own (some ⟨i.2.1, 0, none⟩) i.2.2 5 1 sz (enc v), N, M]) := by
  have le : ∀ a n : Nat, n ≤ 8 → a ≤ 100 → Qn Tryz.prog 49 #[.slice (some ⟨g, o, none⟩) 100 c, .int .u64 (a : Int), .int .u64 (n : Int)] [M] (.int .u64 (leAt D a n : Nat)) := fun a n hn ha => le_fn g o 100 c a n D M hr hD hn (by omega) (by omega)
  have hx := hashX_lt [100, 97, 116, 97] v
  refine fn_of_E' (args := [_, _, _, _, _]) 24 _ [_, _, _, _, _, undef, undef, undef, undef, undef, undef, undef, undef, undef, undef, undef, undef, undef, undef, undef, undef, undef, undef, undef] Tryz.func202 rfl Tryz.ntmps202 ?_
  refine E.nilOwn (e := 77) (sz := 2) ?_
  refine walk ?_
  refine y_loop ?_
  refine walk ?_
  refine y_callq rfl rfl (le 0 4 (by omega) (by omega)) ?_
  generalize hw : leAt D 0 4 = w0 at h0 ⊢
  refine walk ?_
  refine y_callq rfl rfl (le 0 1 (by omega) (by omega)) ?_
  rw [h1]
  refine walk ?_
  refine y_callq rfl rfl (le (0 + 1) 1 (by omega) (by omega)) ?_
  rw [h7]
  refine walk ?_
  refine y_callq rfl rfl (le (0 + 2) 2 (by omega) (by omega)) ?_
  rw [hpl]
  refine walk ?_
  refine y_callq rfl rfl (le (0 + 8) 4 (by omega) (by omega)) ?_
  rw [hsz]
  refine walk ?_
  refine y_callq rfl rfl (le (0 + 4) 4 (by omega) (by omega)) ?_
  rw [hz]
  refine walk ?_
  refine y_loadG hN ?_
  refine walk ?_
  refine y_callq rfl rfl (must_fn (ptrV vg) _ num) ?_
  refine walk ?_
  refine y_callq rfl rfl prefix7_fn ?_
  refine walk ?_
  refine y_loadG hN ?_
  refine walk ?_
  refine y_callq rfl rfl (must_fn (ptrV vg) _ num) ?_
  refine walk ?_
  refine y_build0 fun ga => ?_
  refine walk ?_
  refine EO.eqL (L' := [Own (some ⟨ga, 0, none⟩) 0 5 1 0 (enc []), _, _, _]) rfl ?_
  rw [show pl + sz - pl = sz by omega]
  have hrv : CellRow [M] g (o + pl * 1) (enc v) := by
    have := (hr.sufE (p := o + pl * 1) (k := pl) (by omega)).takeE (k := sz)
    rwa [hv] at this
  have hrn : CellRow [M] g (o + 16 * 1) (enc [100, 97, 116, 97]) := by
    have := (hr.sufE (p := o + 16 * 1) (k := 16) (by omega)).takeE (k := 4)
    rwa [hn] at this
  refine y_appE (bs := []) (us := v) rfl rfl (fun A' c' => ?_) take_ (hrv.of_take take_) (by omega)
  rw [Nat.zero_add sz, List.nil_append]
  refine EO.know .here (fun _ _ => Own.know) fun hk => ?_
  obtain ⟨k1, k2, k3, k4⟩ := hk
  cases A' with
  | none => have := k3 rfl; omega
  | some ad =>
  obtain ⟨gv, rfl⟩ := k4 ad rfl
  refine walk ?_
  refine y_callq rfl rfl (le (0 + 12) 4 (by omega) (by omega)) ?_
  rw [hh]
  refine walk ?_
  refine e_joinK (ι := Unit) (fun _ => [ptrV vg, ptrV gx, .slice (some ⟨g, o, none⟩) 100 c, .slice (some ⟨g, o, none⟩) 100 c, .bool true, undef, undef, undef, undef, undef, .slice none 0 0, .slice none 0 0, .int .u64 0, .int .u64 (100 : Nat), .int .u64 (100 - 100 : Nat), .int .u64 (4 : Nat), .int .u64 (7 : Nat), .int .u64 (pl : Nat), .int .u64 (sz : Nat), .string (str [115, 121, 115, 116, 101, 109, 46]), .bool true, .slice (some ⟨g, o + 16 * 1, none⟩) 4 (c - 16), .slice (some ⟨gv, 0, none⟩) sz c', .int .u64 (hashX [100, 97, 116, 97] v : Nat)])
    (fun _ => []) (fun _ => [Own (some ⟨gv, 0, none⟩) c' 5 1 sz (enc v), Own none 0 77 2 0 [], N, M]) (fun _ => True) rfl (fun _ _ => ?_) (fun hc rest => ?_) (fun hc rest => ?_)
  rotate_left
  · refine walk ?_
    refine y_callq rfl rfl (ahash_fn g (o + 16 * 1) (c - 16) gv 0 c' 4 sz [100, 97, 116, 97] v M (Own (some ⟨gv, 0, none⟩) c' 5 1 sz (enc v)) hrn CellRow.own rfl hvl (by omega) (by omega)) ?_
    refine walk ?_
    refine y_loadG hN ?_
    refine walk ?_
    refine y_callq rfl rfl (must_fn (ptrV vg) _ num) ?_
    refine x_end ?_
    exact (rest () trivial).toK (ks := []) rfl rfl (by repeat constructor)
  · refine e_skip ?_
    exact (rest () trivial).toK (ks := []) rfl rfl (by repeat constructor)
  refine walk ?_
  refine y_loadG hN ?_
  refine walk ?_
  refine y_callq rfl rfl (must_fn (ptrV vg) _ num) ?_
  refine walk ?_
  refine x_toStr (bs := [100, 97, 116, 97]) rfl (hrn.of_take take_) rfl pt_ ?_
  refine walk ?_
  refine y_build (vs := [.agg #[.string (str sysData), .slice (some ⟨gv, 0, none⟩) sz c']]) (cs := [.string (str sysData), .slice (some ⟨gv, 0, none⟩) sz c']) rfl (fill_one (n := 2) [.string ⟨#[]⟩, .slice none 0 0] _ rfl rfl (by omega)) rfl fun gs => ?_
  refine walk ?_
  refine x_app (vs := []) (news := [.string (str sysData), .slice (some ⟨gv, 0, none⟩) sz c']) rfl rfl take_ (by exact ⟨rfl, .inr ⟨_, _, rfl, (by first | ((repeat (first | exact CellRow.own | exact CellRow.here | apply CellRow.there)) <;> fail) | fail)⟩⟩) (fun h => by cases h) (by simp [Value.oneCell']) (by rfl) (by omega) (by simp [maxLen]) (by omega) (fun A' cr => ⟨_, _, pt_, ?_⟩)
  rw [Nat.zero_add, List.nil_append]
  refine EO.know .here (fun _ _ => Own.know) fun hk => ?_
  obtain ⟨j1, j2, j3, j4⟩ := hk
  cases A' with
  | none => have := j3 rfl; omega
  | some ad =>
  obtain ⟨gr, rfl⟩ := j4 ad rfl
  refine walk ?_
  refine y_again ?_
  refine walk ?_
  refine y_callq rfl rfl (le (0 + (16 + 4 + 3) / 4 * 4) 4 (by omega) (by omega)) ?_
  rw [show 0 + (16 + 4 + 3) / 4 * 4 = 20 from rfl, he]
  refine walk ?_
  refine y_loadG hN ?_
  refine walk ?_
  refine y_callq rfl rfl (must_fn (ptrV vg) _ num) ?_
  refine walk ?_
  exact y_ret [10] rfl ⟨((gr, cr), (gv, c')), trivial, rfl, rfl⟩
theorem attr0_fn (vg gx g o c num pl sz : Nat) (D : List UInt8) (N M : HP) (hN : Cell [N] gx 0 (.int .u64 (num : Int))) (hr : CellRow [M] g o (enc D)) (hD : D.length = 100) (hcc : 100 < c) (h0 : leAt D 0 4 ≠ 0) (h1 : leAt D 0 1 = 4) (h7 : leAt D 1 1 = 7) (hpl : leAt D 2 2 = pl) (hz : leAt D 4 4 = 0) (hsz : leAt D 8 4 = sz)
    (hh : leAt D 12 4 = hashX [100, 97, 116, 97] []) (hn : (D.drop 16).take 4 = [100, 97, 116, 97]) (he : leAt D 20 4 = 0) (hs0 : sz = 0) (hpl2 : 24 ≤ pl) (hps : pl + sz ≤ 100) :
    Fe Tryz.prog 202 #[ptrV vg, ptrV gx, .slice (some ⟨g, o, none⟩) 100 c, .slice (some ⟨g, o, none⟩) 100 c, .bool true] [N, M] (fun _ : (Nat × Nat) × (Option Addr × Nat) => True) (fun i => .slice (some ⟨i.1.1, 0, none⟩) 1 i.1.2)
      (fun i => [Own (some ⟨i.1.1, 0, none⟩) i.1.2 77 2 1 [.string (str sysData), .slice i.2.1 sz i.2.2], Own i.2.1 i.2.2 5 1 sz (enc []), N, M]) := by
  have le : ∀ a n : Nat, n ≤ 8 → a ≤ 100 → Qn Tryz.prog 49 #[.slice (some ⟨g, o, none⟩) 100 c, .int .u64 (a : Int), .int .u64 (n : Int)] [M] (.int .u64 (leAt D a n : Nat)) := fun a n hn ha => le_fn g o 100 c a n D M hr hD hn (by omega) (by omega)
  have hx := hashX_lt [100, 97, 116, 97] []
  obtain ⟨hq, hqe⟩ : ∃ q, q = hashX [100, 97, 116, 97] [] := ⟨_, rfl⟩
  rw [← hqe] at hh hx
  refine fn_of_E' (args := [_, _, _, _, _]) 24 _ [_, _, _, _, _, undef, undef, undef, undef, undef, undef, undef, undef, undef, undef, undef, undef, undef, undef, undef, undef, undef, undef, undef] Tryz.func202 rfl Tryz.ntmps202 ?_
  refine E.nilOwn (e := 77) (sz := 2) ?_
  refine walk ?_
  refine y_loop ?_
  refine walk ?_
  refine y_callq rfl rfl (le 0 4 (by omega) (by omega)) ?_
  generalize hw : leAt D 0 4 = w0 at h0 ⊢
  refine walk ?_
  refine y_callq rfl rfl (le 0 1 (by omega) (by omega)) ?_
  rw [h1]
  refine walk ?_
  refine y_callq rfl rfl (le (0 + 1) 1 (by omega) (by omega)) ?_
  rw [h7]
  refine walk ?_
  refine y_callq rfl rfl (le (0 + 2) 2 (by omega) (by omega)) ?_
  rw [hpl]
  refine walk ?_
  refine y_callq rfl rfl (le (0 + 8) 4 (by omega) (by omega)) ?_
  rw [hsz]
  refine walk ?_
  refine y_callq rfl rfl (le (0 + 4) 4 (by omega) (by omega)) ?_
  rw [hz]
  refine walk ?_
  refine y_loadG hN ?_
  refine walk ?_
  refine y_callq rfl rfl (must_fn (ptrV vg) _ num) ?_
  refine walk ?_
  refine y_callq rfl rfl prefix7_fn ?_
  refine walk ?_
  refine y_loadG hN ?_
  refine walk ?_
  refine y_callq rfl rfl (must_fn (ptrV vg) _ num) ?_
  refine walk ?_
  refine y_build0 fun ga => ?_
  refine walk ?_
  refine EO.eqL (L' := [Own (some ⟨ga, 0, none⟩) 0 5 1 0 (enc []), _, _, _]) rfl ?_
  rw [show pl + sz - pl = sz by omega]
  have hrn : CellRow [M] g (o + 16 * 1) (enc [100, 97, 116, 97]) := by
    have := (hr.sufE (p := o + 16 * 1) (k := 16) (by omega)).takeE (k := 4)
    rwa [hn] at this
  have hah := fun (A' : Option Addr) (c' : Nat) => ahash0_fn g (o + 16 * 1) (c - 16) c' 4 sz A' [100, 97, 116, 97] M hrn rfl (by omega) hs0
  rw [← hqe] at hah
  refine y_appE (bs := []) (us := []) rfl rfl (fun A' c' => ?_) take_ (fun j u hj => by cases hj) hs0.symm
  rw [Nat.zero_add sz, List.nil_append]
  refine walk ?_
  refine y_callq rfl rfl (le (0 + 12) 4 (by omega) (by omega)) ?_
  rw [hh]
  refine walk ?_
  refine e_joinK (ι := Unit) (fun _ => [ptrV vg, ptrV gx, .slice (some ⟨g, o, none⟩) 100 c, .slice (some ⟨g, o, none⟩) 100 c, .bool true, undef, undef, undef, undef, undef, .slice none 0 0, .slice none 0 0, .int .u64 0, .int .u64 (100 : Nat), .int .u64 (100 - 100 : Nat), .int .u64 (4 : Nat), .int .u64 (7 : Nat), .int .u64 (pl : Nat), .int .u64 (sz : Nat), .string (str [115, 121, 115, 116, 101, 109, 46]), .bool true, .slice (some ⟨g, o + 16 * 1, none⟩) 4 (c - 16), .slice A' sz c', .int .u64 (hq : Nat)])
    (fun _ => []) (fun _ => [Own A' c' 5 1 sz (enc []), Own none 0 77 2 0 [], N, M]) (fun _ => True) rfl (fun _ _ => ?_) (fun hc rest => ?_) (fun hc rest => ?_)
  rotate_left
  · refine walk ?_
    refine y_callq rfl rfl (hah A' c') ?_
    refine walk ?_
    refine y_loadG hN ?_
    refine walk ?_
    refine y_callq rfl rfl (must_fn (ptrV vg) _ num) ?_
    refine x_end ?_
    exact (rest () trivial).toK (ks := []) rfl rfl (by repeat constructor)
  · refine e_skip ?_
    exact (rest () trivial).toK (ks := []) rfl rfl (by repeat constructor)
  refine walk ?_
  refine x_toStr (bs := [100, 97, 116, 97]) rfl (hrn.of_take take_) rfl pt_ ?_
  refine walk ?_
  refine y_build (vs := [.agg #[.string (str sysData), .slice A' sz c']]) (cs := [.string (str sysData), .slice A' sz c']) rfl (fill_one (n := 2) [.string ⟨#[]⟩, .slice none 0 0] _ rfl rfl (by omega)) rfl fun gs => ?_
  refine walk ?_
  refine x_app (vs := []) (news := [.string (str sysData), .slice A' sz c']) rfl rfl take_ (by exact ⟨rfl, .inr ⟨_, _, rfl, (by first | ((repeat (first | exact CellRow.own | exact CellRow.here | apply CellRow.there)) <;> fail) | fail)⟩⟩) (fun h => by cases h) (by simp [Value.oneCell']) (by rfl) (by omega) (by simp [maxLen]) (by omega) (fun A2 cr => ⟨_, _, pt_, ?_⟩)
  rw [Nat.zero_add, List.nil_append]
  refine EO.know .here (fun _ _ => Own.know) fun hk => ?_
  obtain ⟨j1, j2, j3, j4⟩ := hk
  cases A2 with
  | none => have := j3 rfl; omega
  | some ad =>
  obtain ⟨gr, rfl⟩ := j4 ad rfl
  refine walk ?_
  refine y_again ?_
  refine walk ?_
  refine y_callq rfl rfl (le (0 + (16 + 4 + 3) / 4 * 4) 4 (by omega) (by omega)) ?_
  rw [show 0 + (16 + 4 + 3) / 4 * 4 = 20 from rfl, he]
  refine walk ?_
  refine y_loadG hN ?_
  refine walk ?_
  refine y_callq rfl rfl (must_fn (ptrV vg) _ num) ?_
  refine walk ?_
  exact y_ret [10] rfl ⟨((gr, cr), (A', c')), trivial, rfl, rfl⟩
theorem attrV_fn (vg gx g o c num pl sz : Nat) (D v : List UInt8) (N M : HP) (hN : Cell [N] gx 0 (.int .u64 (num : Int))) (hr : CellRow [M] g o (enc D)) (hD : D.length = 100) (hcc : 100 < c) (h0 : leAt D 0 4 ≠ 0) (h1 : leAt D 0 1 = 4) (h7 : leAt D 1 1 = 7) (hpl : leAt D 2 2 = pl) (hz : leAt D 4 4 = 0) (hsz : leAt D 8 4 = sz)
    (hh : leAt D 12 4 = hashX [100, 97, 116, 97] v) (hn : (D.drop 16).take 4 = [100, 97, 116, 97]) (he : leAt D 20 4 = 0) (hv : (D.drop pl).take sz = v) (hvl : v.length = sz) (hp4 : pl % 4 = 0) (hpl2 : 24 ≤ pl) (hps : pl + sz ≤ 100) :
    Fe Tryz.prog 202 #[ptrV vg, ptrV gx, .slice (some ⟨g, o, none⟩) 100 c, .slice (some ⟨g, o, none⟩) 100 c, .bool true] [N, M] (fun _ : (Nat × Nat) × (Option Addr × Nat) => True) (fun i => .slice (some ⟨i.1.1, 0, none⟩) 1 i.1.2)
      (fun i => [Own (some ⟨i.1.1, 0, none⟩) i.1.2 77 2 1 [.string (str sysData), .slice i.2.1 sz i.2.2], Own i.2.1 i.2.2 5 1 sz (enc v), N, M]) := by
  rcases Nat.eq_zero_or_pos sz with hs0 | hs0
  · have hv0 : v = [] := List.length_eq_zero_iff.1 (hvl.trans hs0)
    subst hv0
    exact attr0_fn vg gx g o c num pl sz D N M hN hr hD hcc h0 h1 h7 hpl hz hsz hh hn he hs0 hpl2 hps
  · intro w S hS
    refine (attr1_fn vg gx g o c num pl sz D v N M hN hr hD (by omega) h0 h1 h7 hpl hz hsz hh hn he hv hvl hp4 hs0 hpl2 hps w S hS).mono ?_
    rintro u w' ⟨L', ⟨i, hi, e1, e2⟩, hst⟩
    exact ⟨L', ⟨(i.1, (some ⟨i.2.1, 0, none⟩, i.2.2)), trivial, e1, e2⟩, hst⟩
end Go.Proofs.YtppkiiomedembaaGreatDoor
namespace Go.Proofs.YtppkiiomedembaaGreatDoor
open Go
set_option maxRecDepth 100000
set_option maxHeartbeats 4000000
attribute [local irreducible] E EO
abbrev rC (x : RI) (cv ev : Value) (il : Bool) (bl : Nat) : List Value := [.int .u64 (x.num : Int), .int .u16 (x.mode : Int), .int .u32 (x.uid : Int), .int .u32 (x.gid : Int), .int .u64 (x.size : Int), .int .u64 (x.links : Int), .int .u64 (x.secs : Int), .int .u64 (x.flags : Int),
  .int .i64 0, .int .i64 0, .int .i64 0, .int .i64 0, .int .i64 0, .int .i64 0, .int .i64 0, .int .i64 0, .int .u32 0, .int .u32 0, cv, ev, .slice none 0 0, .bool il, .int .u64 (bl : Int)]
theorem xattrs0_fn (s : Vs) (g o c : Nat) (X : Value) (B : List UInt8) (M : HP) (hr : CellRow [M] g o (enc B)) (hl : B.length = 256) (hm : leAt B 152 4 ≠ 3925999616) (h0 : leAt B 104 4 = 0) :
    Fd Tryz.prog 178 #[ptrV s.vg, X, .slice (some ⟨g, o, none⟩) 256 c, .int .u64 24] [VP s, M] (.slice none 0 0) [VP s, M] := by
  have le : ∀ a n : Nat, n ≤ 8 → a ≤ 256 → Qn Tryz.prog 49 #[.slice (some ⟨g, o, none⟩) 256 c, .int .u64 (a : Int), .int .u64 (n : Int)] [M] (.int .u64 (leAt B a n : Nat)) := fun a n hn ha => le_fn g o 256 c a n B M hr hl hn (by omega) (by omega)
  refine fn_of_E' (args := [_, _, _, _]) 15 _ [_, _, _, _, undef, undef, undef, undef, undef, undef, undef, undef, undef, undef, undef] Tryz.func178 rfl Tryz.ntmps178 ?_
  refine walk ?_
  refine y_loadC (v := .int .u64 256) (VP.cell 7 _ fun _ _ _ _ => rfl) ?_
  refine walk ?_
  refine y_callq rfl rfl (le (128 + 24) 4 (by omega) (by omega)) ?_
  generalize hw : leAt B (128 + 24) 4 = w0
  have hw0 : w0 ≠ 3925999616 := by rw [← hw]; exact hm
  refine walk ?_
  refine y_callq rfl rfl (le 104 4 (by omega) (by omega)) ?_
  rw [h0]
  refine walk ?_
  refine y_loadC (v := .bool false) (VP.cell 10 _ fun _ _ _ _ => rfl) ?_
  refine walk ?_
  refine y_loop ?_
  refine walk ?_
  exact y_ret [8] rfl ⟨rfl, rfl⟩
theorem xattrs1_fn (s : Vs) (gx g o c num pl sz : Nat) (B v : List UInt8) (N M : HP) (hN : Cell [N] gx 0 (.int .u64 (num : Int))) (hr : CellRow [M] g o (enc B)) (hl : B.length = 256) (hc : 256 < c) (hm : leAt B 152 4 = 3925999616) (h104 : leAt B 104 4 = 0)
    (h0 : leAt B 156 4 ≠ 0) (h1 : leAt B 156 1 = 4) (h7 : leAt B 157 1 = 7) (hpl : leAt B 158 2 = pl) (hz : leAt B 160 4 = 0) (hsz : leAt B 164 4 = sz) (hh : leAt B 168 4 = hashX [100, 97, 116, 97] v) (hn : (B.drop 172).take 4 = [100, 97, 116, 97]) (he : leAt B 176 4 = 0)
    (hv : (B.drop (156 + pl)).take sz = v) (hvl : v.length = sz) (hp4 : pl % 4 = 0) (hpl2 : 24 ≤ pl) (hps : pl + sz ≤ 100) :
    Fe Tryz.prog 178 #[ptrV s.vg, ptrV gx, .slice (some ⟨g, o, none⟩) 256 c, .int .u64 24] [VP s, N, M] (fun _ : (Nat × Nat) × (Option Addr × Nat) => True) (fun i => .slice (some ⟨i.1.1, 0, none⟩) 1 i.1.2)
      (fun i => [VP s, Own (some ⟨i.1.1, 0, none⟩) i.1.2 77 2 1 [.string (str sysData), .slice i.2.1 sz i.2.2], Own i.2.1 i.2.2 5 1 sz (enc v), N, M]) := by
  have le : ∀ a n : Nat, n ≤ 8 → a ≤ 256 → Qn Tryz.prog 49 #[.slice (some ⟨g, o, none⟩) 256 c, .int .u64 (a : Int), .int .u64 (n : Int)] [M] (.int .u64 (leAt B a n : Nat)) := fun a n hn ha => le_fn g o 256 c a n B M hr hl hn (by omega) (by omega)
  refine fn_of_E' (args := [_, _, _, _]) 15 _ [_, _, _, _, undef, undef, undef, undef, undef, undef, undef, undef, undef, undef, undef] Tryz.func178 rfl Tryz.ntmps178 ?_
  refine walk ?_
  refine y_loadC (v := .int .u64 256) (VP.cell 7 _ fun _ _ _ _ => rfl) ?_
  refine walk ?_
  refine y_callq rfl rfl (le (128 + 24) 4 (by omega) (by omega)) ?_
  rw [show 128 + 24 = 152 from rfl, hm]
  refine walk ?_
  refine y_callE rfl rfl (attrV_fn s.vg gx g (o + 156 * 1) (c - 156) num pl sz (B.drop 156) v N M hN (hr.sufE rfl) (by simp [hl]) (by omega) (by rw [leAt_drop]; exact h0) (by rw [leAt_drop]; exact h1) (by rw [leAt_drop]; exact h7) (by rw [leAt_drop]; exact hpl) (by rw [leAt_drop]; exact hz) (by rw [leAt_drop]; exact hsz) (by rw [leAt_drop]; exact hh)
    (by rw [List.drop_drop]; exact hn) (by rw [leAt_drop]; exact he) (by rw [List.drop_drop]; exact hv) hvl hp4 hpl2 hps) fun j _ => ?_
  obtain ⟨⟨gr, cr⟩, gv, cv⟩ := j
  dsimp only
  refine walk ?_
  refine y_callq rfl rfl (le 104 4 (by omega) (by omega)) ?_
  rw [h104]
  refine walk ?_
  refine y_loadC (v := .bool false) (.there (.there (.there (.there (VP.cell 10 _ fun _ _ _ _ => rfl))))) ?_
  refine walk ?_
  refine y_loop ?_
  refine walk ?_
  refine y_loop ?_
  refine walk ?_
  refine y_again ?_
  refine walk ?_
  exact y_ret [8] rfl ⟨((gr, cr), (gv, cv)), trivial, rfl, rfl⟩
def fillD (D : List UInt8) (a n : Nat) : List UInt8 := D.take (min a n) ++ List.replicate (n - min a n) 0
theorem fillD_len {D : List UInt8} {a n : Nat} (h : n ≤ D.length) : (fillD D a n).length = n := by simp [fillD]; omega
theorem fillD_zero (D : List UInt8) (n : Nat) : fillD D 0 n = List.replicate n 0 := by simp [fillD]
theorem fillD_all {D : List UInt8} {a n : Nat} (h : n ≤ a) : fillD D a n = D.take n := by simp [fillD, Nat.min_eq_right h]
theorem fillD_step {D : List UInt8} {a n m : Nat} (h : n ≤ D.length) (ha : a < n) : ovw (enc (fillD D a n)) a ((enc ((D.drop a).take m)).take (n - a)) = enc (fillD D (a + m) n) := by
  rw [← enc_take, ovw_enc' rfl]
  congr 1
  have e1 : min a n = a := by omega
  unfold fillD
  rw [e1, List.take_take]
  have e2 : (D.take a ++ List.replicate (n - a) 0).take a = D.take a := by
    rw [List.take_append_of_le_length (by simp; omega), List.take_of_length_le (by simp; omega)]
  have hl : ((D.drop a).take (min (n - a) m)).length = min (n - a) m := by simp; omega
  rw [e2, hl]
  have e3 : (D.take a ++ List.replicate (n - a) 0).drop (a + min (n - a) m) = List.replicate (n - a - min (n - a) m) 0 := by
    rw [List.drop_append, List.drop_of_length_le (by simp; omega), List.nil_append, List.drop_replicate, List.length_take]
    congr 1; omega
  have e4 : min (a + m) n = a + min (n - a) m := by omega
  rw [e3, e4, List.take_add, show n - (a + min (n - a) m) = n - a - min (n - a) m by omega]
theorem ext1_fn (s : Vs) (g : Geo s) (x : RI) (ev : Value) (il : Bool) (gx gn gC cC o c5 st n : Nat) (R : List UInt8) (hR : CellRow [ImgP s] s.ig o (enc R)) (hl : R.length = 60) (hc5 : 60 ≤ c5) (r0 : leAt R 0 2 = 62218) (r2 : leAt R 2 2 = 1) (r4 : leAt R 4 2 = 4) (r6 : leAt R 6 2 = 0) (r12 : leAt R 12 4 = 0) (r16 : leAt R 16 2 = n) (r18 : leAt R 18 2 = 0) (r20 : leAt R 20 4 = st)
    (hn : 1 ≤ n) (hn2 : n ≤ 30000) (hsz : x.size ≤ n * 4096) (hsz2 : (n - 1) * 4096 < x.size) (hst : st + n ≤ s.nb) (hcl : ∀ i, st ≤ i → i < st + n → i ∉ s.cl) (hb : x.blks ≤ 1000000) :
    Fd Tryz.prog 203 #[ptrV s.vg, ptrV gx, .slice (some ⟨s.ig, o, none⟩) 60 c5, .int .i64 5, ptrV gn] [VP s, ImgP s, Cells gx 74 (rC x (.slice (some ⟨gC, 0, none⟩) x.size cC) ev il x.blks), Own (some ⟨gC, 0, none⟩) cC 5 1 x.size (enc (List.replicate x.size 0)), Cells gn 69 [.int .u64 0]] (.tuple #[])
      [VP { s with cl := (List.range' st n).reverse ++ s.cl }, ImgP s, Cells gx 74 (rC x (.slice (some ⟨gC, 0, none⟩) x.size cC) ev il (x.blks + n)), Own (some ⟨gC, 0, none⟩) cC 5 1 x.size (enc ((s.img.drop (st * 4096)).take x.size)), Cells gn 69 [.int .u64 (0 + n : Nat)]] := by
  have hg := g
  obtain ⟨g1, g2, g3, g4, g5, g6⟩ := g
  have le : ∀ a n : Nat, n ≤ 8 → a ≤ 256 → Qn Tryz.prog 49 #[.slice (some ⟨s.ig, o, none⟩) 60 c5, .int .u64 (a : Int), .int .u64 (n : Int)] [ImgP s] (.int .u64 (leAt R a n : Nat)) := fun a n hn ha => le_fn s.ig o 60 c5 a n R (ImgP s) hR hl hn (by omega) (by omega)
  have le2 : ∀ a n : Nat, n ≤ 8 → a ≤ 12 → Qn Tryz.prog 49 #[.slice (some ⟨s.ig, o + (12 + 12 * 0) * 1, none⟩) (24 + 12 * 0 - (12 + 12 * 0)) (c5 - (12 + 12 * 0)), .int .u64 (a : Int), .int .u64 (n : Int)] [ImgP s] (.int .u64 (leAt ((R.drop 12).take 12) a n : Nat)) := fun a n hn ha => le_fn s.ig (o + 12) 12 (c5 - 12) a n ((R.drop 12).take 12) (ImgP s) (hR.sufE (k := 12) rfl).takeE (by simp [hl]) hn (by omega) (by omega)
  have l2 : ∀ a n : Nat, a + n ≤ 12 → leAt ((R.drop 12).take 12) a n = leAt R (12 + a) n := fun a n h => by rw [leAt_take _ h, leAt_drop]
  refine fn_of_E' (args := [_, _, _, _, _]) 22 _ [_, _, _, _, _, undef, undef, undef, undef, undef, undef, undef, undef, undef, undef, undef, undef, undef, undef, undef, undef, undef] Tryz.func203 rfl Tryz.ntmps203 ?_
  refine walk ?_
  refine y_callq rfl rfl (le 2 2 (by omega) (by omega)) ?_
  rw [r2]
  refine walk ?_
  refine y_callq rfl rfl (le 4 2 (by omega) (by omega)) ?_
  rw [r4]
  refine walk ?_
  refine y_callq rfl rfl (le 6 2 (by omega) (by omega)) ?_
  rw [r6]
  refine walk ?_
  refine y_callq rfl rfl (le 0 2 (by omega) (by omega)) ?_
  rw [r0]
  refine walk ?_
  refine y_callq rfl rfl (must_fn (ptrV s.vg) _ x.num) ?_
  refine walk ?_
  refine y_callq rfl rfl (must_fn (ptrV s.vg) _ x.num) ?_
  refine walk ?_
  refine y_callq rfl rfl (must_fn (ptrV s.vg) _ x.num) ?_
  refine walk ?_
  refine y_callq rfl rfl (le 0 2 (by omega) (by omega)) ?_
  rw [r0]
  refine walk ?_
  refine y_loop ?_
  refine walk ?_
  refine y_callq rfl rfl (le2 0 4 (by omega) (by omega)) ?_
  rw [l2 0 4 (by omega), show 12 + 0 = 12 from rfl, r12]
  refine walk ?_
  refine y_callq rfl rfl (must_fn (ptrV s.vg) _ x.num) ?_
  refine walk ?_
  refine y_callq rfl rfl (le2 4 2 (by omega) (by omega)) ?_
  rw [l2 4 2 (by omega), show 12 + 4 = 16 from rfl, r16]
  refine walk ?_
  refine y_callq rfl rfl (le2 8 4 (by omega) (by omega)) ?_
  rw [l2 8 4 (by omega), show 12 + 8 = 20 from rfl, r20]
  refine walk ?_
  refine y_callq rfl rfl (le2 6 2 (by omega) (by omega)) ?_
  rw [l2 6 2 (by omega), show 12 + 6 = 18 from rfl, r18]
  refine walk ?_
  rw [show st ||| 0 * 2 ^ 32 = st by simp]
  refine walk ?_
  refine y_callq rfl rfl (must_fn (ptrV s.vg) _ x.num) ?_
  refine walk ?_
  have hDl : x.size ≤ (s.img.drop (st * 4096)).length := by rw [List.length_drop]; omega
  have hDl2 : n * 4096 ≤ (s.img.drop (st * 4096)).length := by rw [List.length_drop]; omega
  generalize hD : s.img.drop (st * 4096) = D at hDl hDl2 ⊢
  refine e_rounds (ι := Nat × Value) (fun q => n - q.1) (fun q => [ptrV s.vg, ptrV gx, .slice (some ⟨s.ig, o, none⟩) 60 c5, .int .i64 5, ptrV gn, undef, undef, undef, undef, undef, .int .u64 (1 : Nat), .int .u64 (4 : Nat), .int .i64 (0 : Nat), .int .u64 0, .slice (some ⟨s.ig, o + 12 * 1, none⟩) (24 + 12 * 0 - 12) (c5 - 12), .int .u64 (0 : Nat), undef, undef, .int .u64 (n : Nat), .int .u64 (st : Nat), .int .u64 (q.1 : Nat), q.2])
    (fun q => [VP { s with cl := (List.range' st q.1).reverse ++ s.cl }, ImgP s, Cells gx 74 (rC x (.slice (some ⟨gC, 0, none⟩) x.size cC) ev il (x.blks + q.1)), Own (some ⟨gC, 0, none⟩) cC 5 1 x.size (enc (fillD D (q.1 * 4096) x.size)), Cells gn 69 [.int .u64 0]])
    (fun q => q.1 ≤ n) (0, undef) (Nat.zero_le _) rfl (List.Perm.of_eq (by rw [Nat.zero_mul, fillD_zero]; rfl)) ?_
  rintro ⟨k, w⟩ hk again
  dsimp only at hk again ⊢
  by_cases hlt : k < n
  · have hkn : k * 4096 < x.size := Nat.lt_of_le_of_lt (Nat.mul_le_mul_right 4096 (by omega : k ≤ n - 1)) hsz2
    have hcl' : st + k ∉ (List.range' st k).reverse ++ s.cl := by
      simp only [List.mem_append, List.mem_reverse, List.mem_range'_1, not_or]
      exact ⟨by omega, hcl _ (by omega) (by omega)⟩
    have ecl : (st + k) :: ((List.range' st k).reverse ++ s.cl) = (List.range' st (k + 1)).reverse ++ s.cl := by
      rw [List.range'_concat]; simp
    refine walk ?_
    refine y_callD rfl rfl (claim_fn { s with cl := (List.range' st k).reverse ++ s.cl } (st + k) [99, 111, 110, 116, 101, 110, 116] (by decide) (by show st + k < s.nb; omega) g4 hcl') ?_
    dsimp only
    rw [ecl]
    refine walk ?_
    rw [Nat.zero_add k]
    refine EO.know (A := Own (some ⟨gC, 0, none⟩) cC 5 1 x.size (enc (fillD D (k * 4096) x.size))) take_ (fun _ _ => Own.know) fun hkn2 => ?_
    have hcC := hkn2.2.1
    refine walk ?_
    refine y_callq rfl rfl (rblock_fn { s with cl := (List.range' st (k + 1)).reverse ++ s.cl } (hg.cl_ _) (st + k) (by show st + k < s.nb; omega)) ?_
    refine walk ?_
    have hrow := ImgP.row s ((st + k) * 4096) 4096
    rw [show s.img.drop ((st + k) * 4096) = D.drop (k * 4096) by rw [← hD, List.drop_drop]; congr 1; omega] at hrow
    refine x_copy (news := enc ((D.drop (k * 4096)).take 4096)) rfl rfl (Rd.take (M := ImgP s) ⟨by simp [enc_len]; omega, .inr ⟨_, _, rfl, hrow⟩⟩ take_) enc_one (.there (.there (.there (.own (by simp [enc_len, fillD_len hDl]; omega))))) pt_ ?_
    rw [show 0 + k * 4096 * 1 = k * 4096 by omega, fillD_step hDl hkn, show k * 4096 + 4096 = (k + 1) * 4096 by omega]
    have ag := again (k + 1, .int .u64 (k * 4096 : Nat)) (by dsimp only; omega) (by dsimp only; omega)
    dsimp only at ag
    rw [← Nat.add_assoc x.blks k 1] at ag
    refine walk ?_
    exact ag.toKS (ks := []) rfl (by repeat constructor)
  · have e : k = n := by omega
    subst e
    refine walk ?_
    refine y_again ?_
    refine walk ?_
    rw [fillD_all hsz]
    exact y_end [] rfl ⟨rfl, rfl⟩
end Go.Proofs.YtppkiiomedembaaGreatDoor
