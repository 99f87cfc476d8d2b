/-
  The walks: structs as bytes; Plain facts: numbers in bytes; Plain facts: bitmaps; The walks: the writer's parts in memory, and small functions; The walks: what is written goes behind what stands there; The walks: an inode's and the superblock's bytes. Conditions: none.
-/
import Derived.Test.YtppkiiomedembaaGreatDoorM03
import Derived.Test.YtppkiiomedembaaGreatDoorM04
set_option linter.unusedVariables false
set_option linter.unusedSimpArgs false
namespace Go.Proofs.YtppkiiomedembaaGreatDoor
open Go
set_option maxRecDepth 100000
attribute [local irreducible] E EO
def leB : Nat → Nat → List UInt8
  | 0, _ => []
  | n + 1, x => UInt8.ofNat x :: leB n (x / 256)
theorem leB_len : ∀ (n x : Nat), (leB n x).length = n
  | 0, _ => rfl
  | n + 1, x => by simp [leB, leB_len n]
theorem enc_leB1 (x : Nat) : enc (leB 1 x) = [.int .u8 ((x % 256 : Nat) : Int)] := by simp [enc, leB]
theorem enc_leB2 (x : Nat) : enc (leB 2 x) = [.int .u8 ((x % 256 : Nat) : Int), .int .u8 ((x / 2 ^ 8 % 256 : Nat) : Int)] := by simp [enc, leB]
theorem enc_leB4 (x : Nat) : enc (leB 4 x) = [.int .u8 ((x % 256 : Nat) : Int), .int .u8 ((x / 2 ^ 8 % 256 : Nat) : Int), .int .u8 ((x / 2 ^ 16 % 256 : Nat) : Int), .int .u8 ((x / 2 ^ 24 % 256 : Nat) : Int)] := by
  simp [enc, leB, Nat.div_div_eq_div_mul]
theorem enc_leB1' {x : Nat} (h : x < 256) : enc (leB 1 x) = [.int .u8 (x : Int)] := by rw [enc_leB1, Nat.mod_eq_of_lt h]
theorem enc_leB2' {x : Nat} (h : x < 65536) : enc (leB 2 x) = [.int .u8 ((x % 256 : Nat) : Int), .int .u8 ((x / 2 ^ 8 : Nat) : Int)] := by rw [enc_leB2, show x / 2 ^ 8 % 256 = x / 2 ^ 8 by omega]
theorem enc_leB4' {x : Nat} (h : x < 4294967296) : enc (leB 4 x) = [.int .u8 ((x % 256 : Nat) : Int), .int .u8 ((x / 2 ^ 8 % 256 : Nat) : Int), .int .u8 ((x / 2 ^ 16 % 256 : Nat) : Int), .int .u8 ((x / 2 ^ 24 : Nat) : Int)] := by rw [enc_leB4, show x / 2 ^ 24 % 256 = x / 2 ^ 24 by omega]
theorem leB_split (a b x : Nat) : leB (a + b) x = leB a x ++ leB b (x / 256 ^ a) := by
  induction a generalizing x with
  | zero => simp [leB]
  | succ a ih => rw [show a + 1 + b = (a + b) + 1 by omega]; simp only [leB, ih, List.cons_append, Nat.div_div_eq_div_mul, Nat.pow_succ, Nat.mul_comm]
theorem leB_mod (a x : Nat) : leB a (x % 256 ^ a) = leB a x := by
  induction a generalizing x with
  | zero => rfl
  | succ a ih =>
    simp only [leB]
    have e1 : x % 256 ^ (a + 1) / 256 = x / 256 % 256 ^ a := by
      rw [Nat.pow_succ, Nat.mul_comm, Nat.mod_mul_right_div_self]
    rw [e1, ih]
    congr 1
    apply UInt8.toNat_inj.1
    simp only [UInt8.toNat_ofNat']
    rw [Nat.pow_succ, Nat.mul_comm]
    exact Nat.mod_mul_right_mod _ _ _
theorem fput16 (A : Option Addr) (c n x : Nat) (bs : List UInt8) (hn : n ≤ 1000000) (hx : x < 65536) : Fe Tryz.prog 173 #[.slice A n c, .int .u16 (x : Int)] [Own A c 5 1 n (enc bs)] (fun _ : Option Addr × Nat => True)
    (fun i => .slice i.1 (n + 2) i.2) (fun i => [Own i.1 i.2 5 1 (n + 2) (enc (bs ++ leB 2 x))]) := by
  refine fn_of_E' (args := [_, _]) 5 _ [_, _, undef, undef, undef] Tryz.func173 rfl Tryz.ntmps173 ?_
  repeat (first | refine walk1 ?_ | refine y_alloc (fun g => ?_) | refine y_boxA rfl (fun g => ?_) | refine y_make rfl rfl (fun g => ?_) | refine y_build1 rfl (fun g => ?_) | refine y_app1 rfl rfl (fun A' c' => ?_) | fail)
  exact e_ret' (ts := [4]) (vs := [_]) rfl rfl ⟨_, _, ⟨(A', c'), trivial, rfl, rfl⟩, by
    show Subs [Own A' c' 5 1 (n + 2) _] _ _
    rw [enc_app, enc_leB2' hx]
    exact sub_⟩
theorem fput32 (A : Option Addr) (c n x : Nat) (bs : List UInt8) (hn : n ≤ 1000000) (hx : x < 4294967296) : Fe Tryz.prog 172 #[.slice A n c, .int .u32 (x : Int)] [Own A c 5 1 n (enc bs)] (fun _ : Option Addr × Nat => True)
    (fun i => .slice i.1 (n + 4) i.2) (fun i => [Own i.1 i.2 5 1 (n + 4) (enc (bs ++ leB 4 x))]) := by
  refine fn_of_E' (args := [_, _]) 5 _ [_, _, undef, undef, undef] Tryz.func172 rfl Tryz.ntmps172 ?_
  repeat (first | refine walk1 ?_ | refine y_alloc (fun g => ?_) | refine y_boxA rfl (fun g => ?_) | refine y_make rfl rfl (fun g => ?_) | refine y_build1 rfl (fun g => ?_) | refine y_app1 rfl rfl (fun A' c' => ?_) | fail)
  exact e_ret' (ts := [4]) (vs := [_]) rfl rfl ⟨_, _, ⟨(A', c'), trivial, rfl, rfl⟩, by
    show Subs [Own A' c' 5 1 (n + 4) _] _ _
    rw [enc_app, enc_leB4' hx]
    exact sub_⟩
theorem fput64 (A : Option Addr) (c n x : Nat) (bs : List UInt8) (hn : n ≤ 900000) (hx : x < 18446744073709551616) : Fe Tryz.prog 174 #[.slice A n c, .int .u64 (x : Int)] [Own A c 5 1 n (enc bs)] (fun _ : Option Addr × Nat => True)
    (fun i => .slice i.1 (n + 8) i.2) (fun i => [Own i.1 i.2 5 1 (n + 8) (enc (bs ++ leB 8 x))]) := by
  refine fn_of_E' (args := [_, _]) 5 _ [_, _, undef, undef, undef] Tryz.func174 rfl Tryz.ntmps174 ?_
  repeat (first | refine walk1 ?_ | refine y_alloc (fun g => ?_) | refine y_boxA rfl (fun g => ?_) | refine y_make rfl rfl (fun g => ?_) | refine y_build1 rfl (fun g => ?_) | refine y_app1 rfl rfl (fun A' c' => ?_) | fail)
  refine x_callE rfl rfl (fput32 A c n _ bs (by omega) (by omega)) sub_ (fun _ => by (repeat (first | exact App.nil | apply App.cons)) <;> fail) fun i _ => ⟨_, _, pt_, ?_⟩
  repeat (first | refine walk1 ?_ | refine y_alloc (fun g => ?_) | refine y_boxA rfl (fun g => ?_) | refine y_make rfl rfl (fun g => ?_) | refine y_build1 rfl (fun g => ?_) | refine y_app1 rfl rfl (fun A' c' => ?_) | fail)
  refine x_callE rfl rfl (fput32 i.1 i.2 (n + 4) _ _ (by omega) (by omega)) sub_ (fun _ => by (repeat (first | exact App.nil | apply App.cons)) <;> fail) fun j _ => ⟨_, _, pt_, ?_⟩
  repeat (first | refine walk1 ?_ | refine y_alloc (fun g => ?_) | refine y_boxA rfl (fun g => ?_) | refine y_make rfl rfl (fun g => ?_) | refine y_build1 rfl (fun g => ?_) | refine y_app1 rfl rfl (fun A' c' => ?_) | fail)
  have e : leB 4 (x % 4294967296) ++ leB 4 (x / 2 ^ 32) = leB 8 x := by rw [show (8 : Nat) = 4 + 4 from rfl, leB_split, show (4294967296 : Nat) = 256 ^ 4 from rfl, leB_mod]
  exact e_ret' (ts := [4]) (vs := [_]) rfl rfl ⟨_, _, ⟨j, trivial, rfl, rfl⟩, by
    show Subs [Own j.1 j.2 5 1 (n + 8) _] _ _
    rw [← e, ← List.append_assoc]
    exact sub_⟩
theorem fput16' (A : Option Addr) (c n : Nat) {x : Nat} {p : Int} [hp : NatV p x] (bs : List UInt8) (hn : n ≤ 900000) (hx : x < 65536) : Fe Tryz.prog 173 #[.slice A n c, .int .u16 p] [Own A c 5 1 n (enc bs)] (fun _ : Option Addr × Nat => True)
    (fun i => .slice i.1 (n + 2) i.2) (fun i => [Own i.1 i.2 5 1 (n + 2) (enc (bs ++ leB 2 x))]) := by rw [hp.h]; exact fput16 A c n x bs (by omega) hx
theorem fput32' (A : Option Addr) (c n : Nat) {x : Nat} {p : Int} [hp : NatV p x] (bs : List UInt8) (hn : n ≤ 900000) (hx : x < 4294967296) : Fe Tryz.prog 172 #[.slice A n c, .int .u32 p] [Own A c 5 1 n (enc bs)] (fun _ : Option Addr × Nat => True)
    (fun i => .slice i.1 (n + 4) i.2) (fun i => [Own i.1 i.2 5 1 (n + 4) (enc (bs ++ leB 4 x))]) := by rw [hp.h]; exact fput32 A c n x bs (by omega) hx
theorem fput64' (A : Option Addr) (c n : Nat) {x : Nat} {p : Int} [hp : NatV p x] (bs : List UInt8) (hn : n ≤ 900000) (hx : x < 18446744073709551616) : Fe Tryz.prog 174 #[.slice A n c, .int .u64 p] [Own A c 5 1 n (enc bs)] (fun _ : Option Addr × Nat => True)
    (fun i => .slice i.1 (n + 8) i.2) (fun i => [Own i.1 i.2 5 1 (n + 8) (enc (bs ++ leB 8 x))]) := by rw [hp.h]; exact fput64 A c n x bs (by omega) hx
theorem E.nilB {X : Fx} {k : List Item} {loc : List Value} {tmp : List (Nat × Value)} {L : List HP} (h : E X k loc tmp (Own none 0 5 1 0 (enc []) :: L)) : E X k loc tmp L := E.nilOwn h
theorem dirEntryBytes_fn (ino rl nl ft : Nat) (h1 : ino < 4294967296) (h2 : rl < 65536) (h3 : nl < 256) (h4 : ft < 256) :
    Fe Tryz.prog 196 #[.agg #[.int .u32 (ino : Int), .int .u16 (rl : Int), .int .u8 (nl : Int), .int .u8 (ft : Int)]] [] (fun _ : Option Addr × Nat => True)
    (fun i => .slice i.1 8 i.2) (fun i => [Own i.1 i.2 5 1 8 (enc (leB 4 ino ++ leB 2 rl ++ leB 1 nl ++ leB 1 ft))]) := by
  refine fn_of_E' (args := [_]) 4 _ [_, undef, undef, undef] Tryz.func196 rfl Tryz.ntmps196 ?_
  refine E.nilB ?_
  repeat (first | refine walk1 ?_ | refine y_alloc (fun g => ?_) | refine y_boxA rfl (fun g => ?_) | refine y_make rfl rfl (fun g => ?_) | refine y_build1 rfl (fun g => ?_) | refine y_app1 rfl rfl (fun A' c' => ?_) | (refine x_callE rfl rfl (fput16' _ _ _ _ (by omega) (by omega)) sub_ (fun _ => by (repeat (first | exact App.nil | apply App.cons)) <;> fail) fun i _ => ⟨_, _, pt_, ?_⟩) | (refine x_callE rfl rfl (fput32' _ _ _ _ (by omega) (by omega)) sub_ (fun _ => by (repeat (first | exact App.nil | apply App.cons)) <;> fail) fun i _ => ⟨_, _, pt_, ?_⟩) | (refine x_callE rfl rfl (fput64' _ _ _ _ (by omega) (by omega)) sub_ (fun _ => by (repeat (first | exact App.nil | apply App.cons)) <;> fail) fun i _ => ⟨_, _, pt_, ?_⟩) | fail)
  exact e_ret' (ts := [2]) (vs := [_]) rfl rfl ⟨_, _, ⟨(A', c'), trivial, rfl, rfl⟩, by
    show Subs [Own A' c' 5 1 (0 + 4 + 2 + 1 + 1) _] _ _
    rw [enc_app, enc_app, enc_leB1' h3, enc_leB1' h4]
    exact .cons .here .nil⟩
theorem extHeader_fn (mg en mx dp gn : Nat) (h1 : mg < 65536) (h2 : en < 65536) (h3 : mx < 65536) (h4 : dp < 65536) (h5 : gn < 4294967296) :
    Fe Tryz.prog 188 #[.agg #[.int .u16 (mg : Int), .int .u16 (en : Int), .int .u16 (mx : Int), .int .u16 (dp : Int), .int .u32 (gn : Int)]] [] (fun _ : Option Addr × Nat => True)
    (fun i => .slice i.1 12 i.2) (fun i => [Own i.1 i.2 5 1 12 (enc (leB 2 mg ++ leB 2 en ++ leB 2 mx ++ leB 2 dp ++ leB 4 gn))]) := by
  refine fn_of_E' (args := [_]) 4 _ [_, undef, undef, undef] Tryz.func188 rfl Tryz.ntmps188 ?_
  refine E.nilB ?_
  repeat (first | refine walk1 ?_ | refine y_alloc (fun g => ?_) | refine y_boxA rfl (fun g => ?_) | refine y_make rfl rfl (fun g => ?_) | refine y_build1 rfl (fun g => ?_) | refine y_app1 rfl rfl (fun A' c' => ?_) | (refine x_callE rfl rfl (fput16' _ _ _ _ (by omega) (by omega)) sub_ (fun _ => by (repeat (first | exact App.nil | apply App.cons)) <;> fail) fun i _ => ⟨_, _, pt_, ?_⟩) | (refine x_callE rfl rfl (fput32' _ _ _ _ (by omega) (by omega)) sub_ (fun _ => by (repeat (first | exact App.nil | apply App.cons)) <;> fail) fun i _ => ⟨_, _, pt_, ?_⟩) | (refine x_callE rfl rfl (fput64' _ _ _ _ (by omega) (by omega)) sub_ (fun _ => by (repeat (first | exact App.nil | apply App.cons)) <;> fail) fun i _ => ⟨_, _, pt_, ?_⟩) | fail)
  exact e_ret' (ts := [2]) (vs := [_]) rfl rfl ⟨_, _, ⟨i, trivial, rfl, rfl⟩, by
    show Subs [Own i.1 i.2 5 1 (0 + 2 + 2 + 2 + 2 + 4) _] _ _
    exact .cons .here .nil⟩
theorem extLeaf_fn (bl ln sh sl : Nat) (h1 : bl < 4294967296) (h2 : ln < 65536) (h3 : sh < 65536) (h4 : sl < 4294967296) :
    Fe Tryz.prog 189 #[.agg #[.int .u32 (bl : Int), .int .u16 (ln : Int), .int .u16 (sh : Int), .int .u32 (sl : Int)]] [] (fun _ : Option Addr × Nat => True)
    (fun i => .slice i.1 12 i.2) (fun i => [Own i.1 i.2 5 1 12 (enc (leB 4 bl ++ leB 2 ln ++ leB 2 sh ++ leB 4 sl))]) := by
  refine fn_of_E' (args := [_]) 4 _ [_, undef, undef, undef] Tryz.func189 rfl Tryz.ntmps189 ?_
  refine E.nilB ?_
  repeat (first | refine walk1 ?_ | refine y_alloc (fun g => ?_) | refine y_boxA rfl (fun g => ?_) | refine y_make rfl rfl (fun g => ?_) | refine y_build1 rfl (fun g => ?_) | refine y_app1 rfl rfl (fun A' c' => ?_) | (refine x_callE rfl rfl (fput16' _ _ _ _ (by omega) (by omega)) sub_ (fun _ => by (repeat (first | exact App.nil | apply App.cons)) <;> fail) fun i _ => ⟨_, _, pt_, ?_⟩) | (refine x_callE rfl rfl (fput32' _ _ _ _ (by omega) (by omega)) sub_ (fun _ => by (repeat (first | exact App.nil | apply App.cons)) <;> fail) fun i _ => ⟨_, _, pt_, ?_⟩) | (refine x_callE rfl rfl (fput64' _ _ _ _ (by omega) (by omega)) sub_ (fun _ => by (repeat (first | exact App.nil | apply App.cons)) <;> fail) fun i _ => ⟨_, _, pt_, ?_⟩) | fail)
  exact e_ret' (ts := [2]) (vs := [_]) rfl rfl ⟨_, _, ⟨i, trivial, rfl, rfl⟩, by
    show Subs [Own i.1 i.2 5 1 (0 + 4 + 2 + 2 + 4) _] _ _
    exact .cons .here .nil⟩
theorem gd_fn (a0 a1 a2 a3 a4 a5 : Nat) (h0 : a0 < 4294967296) (h1 : a1 < 4294967296) (h2 : a2 < 4294967296) (h3 : a3 < 65536) (h4 : a4 < 65536) (h5 : a5 < 65536) :
    Fe Tryz.prog 118 #[.agg #[.int .u32 (a0 : Int), .int .u32 (a1 : Int), .int .u32 (a2 : Int), .int .u16 (a3 : Int), .int .u16 (a4 : Int), .int .u16 (a5 : Int), .int .u16 0, .int .u32 0, .int .u16 0, .int .u16 0, .int .u16 0, .int .u16 0]] [] (fun _ : Option Addr × Nat => True)
    (fun i => .slice i.1 32 i.2) (fun i => [Own i.1 i.2 5 1 32 (enc (leB 4 a0 ++ leB 4 a1 ++ leB 4 a2 ++ leB 2 a3 ++ leB 2 a4 ++ leB 2 a5 ++ List.replicate 14 0))]) := by
  refine fn_of_E' (args := [_]) 4 _ [_, undef, undef, undef] Tryz.func118 rfl Tryz.ntmps118 ?_
  refine E.nilB ?_
  repeat (first | refine walk1 ?_ | refine y_alloc (fun g => ?_) | refine y_boxA rfl (fun g => ?_) | refine y_make rfl rfl (fun g => ?_) | refine y_build1 rfl (fun g => ?_) | refine y_app1 rfl rfl (fun A' c' => ?_) | (refine x_callE rfl rfl (fput16' _ _ _ _ (by omega) (by omega)) sub_ (fun _ => by (repeat (first | exact App.nil | apply App.cons)) <;> fail) fun i _ => ⟨_, _, pt_, ?_⟩) | (refine x_callE rfl rfl (fput32' _ _ _ _ (by omega) (by omega)) sub_ (fun _ => by (repeat (first | exact App.nil | apply App.cons)) <;> fail) fun i _ => ⟨_, _, pt_, ?_⟩) | (refine x_callE rfl rfl (fput64' _ _ _ _ (by omega) (by omega)) sub_ (fun _ => by (repeat (first | exact App.nil | apply App.cons)) <;> fail) fun i _ => ⟨_, _, pt_, ?_⟩) | fail)
  have e : List.replicate 14 (0 : UInt8) = leB 2 0 ++ leB 4 0 ++ leB 2 0 ++ leB 2 0 ++ leB 2 0 ++ leB 2 0 := rfl
  exact e_ret' (ts := [2]) (vs := [_]) rfl rfl ⟨_, _, ⟨i, trivial, rfl, rfl⟩, by
    show Subs [Own i.1 i.2 5 1 (0 + 4 + 4 + 4 + 2 + 2 + 2 + 2 + 4 + 2 + 2 + 2 + 2) _] _ _
    rw [e]
    simp only [← List.append_assoc]
    exact .cons .here .nil⟩
end Go.Proofs.YtppkiiomedembaaGreatDoor
namespace Go.Proofs.YtppkiiomedembaaGreatDoor
open Go
def bAt (b : List UInt8) (i : Nat) : Nat := (b.getD i 0).toNat
def leAt (b : List UInt8) : Nat → Nat → Nat
  | _, 0 => 0
  | i, n + 1 => bAt b i + 256 * leAt b (i + 1) n
theorem bAt_lt (b : List UInt8) (i : Nat) : bAt b i < 256 := UInt8.toNat_lt _
theorem leAt_lt (b : List UInt8) : ∀ (n i : Nat), leAt b i n < 256 ^ n
  | 0, _ => by simp [leAt]
  | n + 1, i => by
    have h1 := bAt_lt b i
    have h2 := leAt_lt b n (i + 1)
    simp only [leAt, Nat.pow_succ]
    omega
theorem leAt_congr {b c : List UInt8} : ∀ (n i j : Nat), (∀ k, k < n → bAt b (i + k) = bAt c (j + k)) → leAt b i n = leAt c j n
  | 0, _, _, _ => rfl
  | n + 1, i, j, h => by
    have h0 := h 0 (by omega)
    have h1 := leAt_congr n (i + 1) (j + 1) fun k hk => by
      have := h (k + 1) (by omega)
      rwa [show i + (k + 1) = i + 1 + k by omega, show j + (k + 1) = j + 1 + k by omega] at this
    simp only [leAt]
    rw [h1]
    simpa using h0
theorem bAt_left {a : List UInt8} (r : List UInt8) {i : Nat} (h : i < a.length) : bAt (a ++ r) i = bAt a i := by
  simp [bAt, List.getD, List.getElem?_append_left h]
theorem bAt_right (a r : List UInt8) (i : Nat) : bAt (a ++ r) (a.length + i) = bAt r i := by
  simp [bAt, List.getD, List.getElem?_append_right (Nat.le_add_right _ _)]
theorem bAt_right' {a r : List UInt8} {i : Nat} (h : a.length ≤ i) : bAt (a ++ r) i = bAt r (i - a.length) := by
  have := bAt_right a r (i - a.length)
  rwa [Nat.add_sub_cancel' h] at this
theorem bAt_drop (b : List UInt8) (k i : Nat) : bAt (b.drop k) i = bAt b (k + i) := by simp [bAt, List.getD]
theorem bAt_take (b : List UInt8) {k i : Nat} (h : i < k) : bAt (b.take k) i = bAt b i := by simp [bAt, List.getD, List.getElem?_take_of_lt h]
theorem bAt_zeros (m i : Nat) : bAt (List.replicate m 0) i = 0 := by
  simp only [bAt, List.getD, List.getElem?_replicate]
  split <;> rfl
theorem bAt_over {b : List UInt8} {i : Nat} (h : b.length ≤ i) : bAt b i = 0 := by simp [bAt, List.getD, List.getElem?_eq_none h]
theorem bAt_some {b : List UInt8} {i : Nat} {x : UInt8} (h : b[i]? = some x) : bAt b i = x.toNat := by simp [bAt, List.getD, h]
theorem leAt_left {a : List UInt8} (r : List UInt8) {i n : Nat} (h : i + n ≤ a.length) : leAt (a ++ r) i n = leAt a i n := leAt_congr _ _ _ fun k hk => bAt_left r (by omega)
theorem leAt_right (a r : List UInt8) (i n : Nat) : leAt (a ++ r) (a.length + i) n = leAt r i n := leAt_congr _ _ _ fun k hk => by rw [Nat.add_assoc]; exact bAt_right a r _
theorem leAt_right' {a r : List UInt8} {i n : Nat} (h : a.length ≤ i) : leAt (a ++ r) i n = leAt r (i - a.length) n := by
  have := leAt_right a r (i - a.length) n
  rwa [Nat.add_sub_cancel' h] at this
theorem leAt_drop (b : List UInt8) (k i n : Nat) : leAt (b.drop k) i n = leAt b (k + i) n := leAt_congr _ _ _ fun j hj => by rw [bAt_drop, Nat.add_assoc]
theorem leAt_take (b : List UInt8) {k i n : Nat} (h : i + n ≤ k) : leAt (b.take k) i n = leAt b i n := leAt_congr _ _ _ fun j hj => bAt_take b (by omega)
theorem leAt_zero {b : List UInt8} : ∀ (n i : Nat), (∀ k, k < n → bAt b (i + k) = 0) → leAt b i n = 0
  | 0, _, _ => rfl
  | n + 1, i, h => by
    have h0 := h 0 (by omega)
    have h1 := leAt_zero n (i + 1) fun k hk => by
      have := h (k + 1) (by omega)
      rwa [show i + (k + 1) = i + 1 + k by omega] at this
    rw [Nat.add_zero] at h0
    simp only [leAt, h0, h1]
theorem leAt_zeros (m i n : Nat) : leAt (List.replicate m 0) i n = 0 := leAt_zero _ _ fun k _ => bAt_zeros m _
theorem leAt_leB (r : List UInt8) : ∀ (n x : Nat), leAt (leB n x ++ r) 0 n = x % 256 ^ n
  | 0, x => by simp [leAt, Nat.mod_one]
  | n + 1, x => by
    have h0 : bAt (leB (n + 1) x ++ r) 0 = x % 256 := by simp [bAt, leB]
    have h1 : leAt (leB (n + 1) x ++ r) (0 + 1) n = leAt (leB n (x / 256) ++ r) 0 n := leAt_congr _ _ _ fun k _ => by
      simp [bAt, leB, List.getD, Nat.add_comm 1 k]
    simp only [leAt]
    rw [h0, h1, leAt_leB r n, Nat.pow_succ, Nat.mul_comm (256 ^ n) 256, Nat.mod_mul]
def flds : List (Nat × Nat) → List UInt8
  | [] => []
  | p :: l => leB p.1 p.2 ++ flds l
inductive FAt : List (Nat × Nat) → Nat → Nat → Nat → Prop
  | here {n x : Nat} {l : List (Nat × Nat)} : FAt ((n, x) :: l) 0 n x
  | there {m y o n x : Nat} {l : List (Nat × Nat)} : FAt l o n x → FAt ((m, y) :: l) (m + o) n x
theorem FAt.le {l : List (Nat × Nat)} {o n x : Nat} (h : FAt l o n x) (r : List UInt8) : leAt (flds l ++ r) o n = x % 256 ^ n := by
  induction h with
  | here => rw [flds, List.append_assoc, leAt_leB]
  | @there m y o n x l _ ih =>
    rw [flds, List.append_assoc]
    have := leAt_right (leB m y) (flds l ++ r) o n
    rw [leB_len] at this
    rw [this, ih]
theorem flds_len : ∀ (l : List (Nat × Nat)), (flds l).length = (l.map (·.1)).sum
  | [] => rfl
  | p :: l => by simp [flds, leB_len, flds_len l]
theorem leAt_lt' (b : List UInt8) (i n m : Nat) (h : 256 ^ n ≤ m) : leAt b i n < m := Nat.lt_of_lt_of_le (leAt_lt b n i) h
end Go.Proofs.YtppkiiomedembaaGreatDoor
namespace Go.Proofs.YtppkiiomedembaaGreatDoor
open Go
def b2n (b : Bool) : Nat := if b then 1 else 0
def byte8 (b0 b1 b2 b3 b4 b5 b6 b7 : Bool) : Nat := b2n b0 + 2 * b2n b1 + 4 * b2n b2 + 8 * b2n b3 + 16 * b2n b4 + 32 * b2n b5 + 64 * b2n b6 + 128 * b2n b7
theorem byte8_lt (b0 b1 b2 b3 b4 b5 b6 b7 : Bool) : byte8 b0 b1 b2 b3 b4 b5 b6 b7 < 256 := by revert b0 b1 b2 b3 b4 b5 b6 b7; decide
theorem byte8_or0 : ∀ b0 b1 b2 b3 b4 b5 b6 b7 : Bool, byte8 b0 b1 b2 b3 b4 b5 b6 b7 ||| 1 = byte8 true b1 b2 b3 b4 b5 b6 b7 := by decide
theorem byte8_or1 : ∀ b0 b1 b2 b3 b4 b5 b6 b7 : Bool, byte8 b0 b1 b2 b3 b4 b5 b6 b7 ||| 2 = byte8 b0 true b2 b3 b4 b5 b6 b7 := by decide
theorem byte8_or2 : ∀ b0 b1 b2 b3 b4 b5 b6 b7 : Bool, byte8 b0 b1 b2 b3 b4 b5 b6 b7 ||| 4 = byte8 b0 b1 true b3 b4 b5 b6 b7 := by decide
theorem byte8_or3 : ∀ b0 b1 b2 b3 b4 b5 b6 b7 : Bool, byte8 b0 b1 b2 b3 b4 b5 b6 b7 ||| 8 = byte8 b0 b1 b2 true b4 b5 b6 b7 := by decide
theorem byte8_or4 : ∀ b0 b1 b2 b3 b4 b5 b6 b7 : Bool, byte8 b0 b1 b2 b3 b4 b5 b6 b7 ||| 16 = byte8 b0 b1 b2 b3 true b5 b6 b7 := by decide
theorem byte8_or5 : ∀ b0 b1 b2 b3 b4 b5 b6 b7 : Bool, byte8 b0 b1 b2 b3 b4 b5 b6 b7 ||| 32 = byte8 b0 b1 b2 b3 b4 true b6 b7 := by decide
theorem byte8_or6 : ∀ b0 b1 b2 b3 b4 b5 b6 b7 : Bool, byte8 b0 b1 b2 b3 b4 b5 b6 b7 ||| 64 = byte8 b0 b1 b2 b3 b4 b5 true b7 := by decide
theorem byte8_or7 : ∀ b0 b1 b2 b3 b4 b5 b6 b7 : Bool, byte8 b0 b1 b2 b3 b4 b5 b6 b7 ||| 128 = byte8 b0 b1 b2 b3 b4 b5 b6 true := by decide
theorem byte8_g0 : ∀ b0 b1 b2 b3 b4 b5 b6 b7 : Bool, (byte8 b0 b1 b2 b3 b4 b5 b6 b7 / 2 ^ 0) &&& 1 = b2n b0 := by decide
theorem byte8_g1 : ∀ b0 b1 b2 b3 b4 b5 b6 b7 : Bool, (byte8 b0 b1 b2 b3 b4 b5 b6 b7 / 2 ^ 1) &&& 1 = b2n b1 := by decide
theorem byte8_g2 : ∀ b0 b1 b2 b3 b4 b5 b6 b7 : Bool, (byte8 b0 b1 b2 b3 b4 b5 b6 b7 / 2 ^ 2) &&& 1 = b2n b2 := by decide
theorem byte8_g3 : ∀ b0 b1 b2 b3 b4 b5 b6 b7 : Bool, (byte8 b0 b1 b2 b3 b4 b5 b6 b7 / 2 ^ 3) &&& 1 = b2n b3 := by decide
theorem byte8_g4 : ∀ b0 b1 b2 b3 b4 b5 b6 b7 : Bool, (byte8 b0 b1 b2 b3 b4 b5 b6 b7 / 2 ^ 4) &&& 1 = b2n b4 := by decide
theorem byte8_g5 : ∀ b0 b1 b2 b3 b4 b5 b6 b7 : Bool, (byte8 b0 b1 b2 b3 b4 b5 b6 b7 / 2 ^ 5) &&& 1 = b2n b5 := by decide
theorem byte8_g6 : ∀ b0 b1 b2 b3 b4 b5 b6 b7 : Bool, (byte8 b0 b1 b2 b3 b4 b5 b6 b7 / 2 ^ 6) &&& 1 = b2n b6 := by decide
theorem byte8_g7 : ∀ b0 b1 b2 b3 b4 b5 b6 b7 : Bool, (byte8 b0 b1 b2 b3 b4 b5 b6 b7 / 2 ^ 7) &&& 1 = b2n b7 := by decide
def byteOf (f : Nat → Bool) (k : Nat) : Nat := byte8 (f (8 * k)) (f (8 * k + 1)) (f (8 * k + 2)) (f (8 * k + 3)) (f (8 * k + 4)) (f (8 * k + 5)) (f (8 * k + 6)) (f (8 * k + 7))
theorem byteOf_lt (f : Nat → Bool) (k : Nat) : byteOf f k < 256 := byte8_lt _ _ _ _ _ _ _ _
def bm (f : Nat → Bool) (n : Nat) : List UInt8 := (List.range n).map fun k => UInt8.ofNat (byteOf f k)
theorem bm_len (f : Nat → Bool) (n : Nat) : (bm f n).length = n := by simp [bm]
theorem bm_get (f : Nat → Bool) {n k : Nat} (h : k < n) : (bm f n)[k]? = some (UInt8.ofNat (byteOf f k)) := by simp [bm, h]
theorem enc_get {b : List UInt8} {k : Nat} {x : UInt8} (h : b[k]? = some x) : (enc b)[k]? = some (.int .u8 (x.toNat : Int)) := by simp [enc, h]
theorem bm_cell (f : Nat → Bool) {n k : Nat} (h : k < n) : (enc (bm f n))[k]? = some (.int .u8 (byteOf f k : Nat)) := by
  rw [enc_get (bm_get f h)]
  have := byteOf_lt f k
  simp; omega
theorem byteOf_or (f : Nat → Bool) (j : Nat) : byteOf f (j / 8) ||| 2 ^ (j % 8) = byteOf (fun i => f i || decide (i = j)) (j / 8) := by
  obtain ⟨k, r, hr, rfl⟩ : ∃ k r, r < 8 ∧ j = 8 * k + r := ⟨j / 8, j % 8, by omega, by omega⟩
  rw [show (8 * k + r) / 8 = k by omega, show (8 * k + r) % 8 = r by omega]
  have hne : ∀ a b : Nat, a ≠ b → decide (8 * k + a = 8 * k + b) = false := fun a b h => decide_eq_false (by omega)
  have hne0 : ∀ b : Nat, 0 ≠ b → decide (8 * k = 8 * k + b) = false := fun b h => decide_eq_false (by omega)
  have hne1 : ∀ a : Nat, a ≠ 0 → decide (8 * k + a = 8 * k) = false := fun a h => decide_eq_false (by omega)
  unfold byteOf
  match r, hr with
  | 0, _ => simp [byte8_or0, hne1]
  | 1, _ => simp [byte8_or1, hne0]
  | 2, _ => simp [byte8_or2, hne0]
  | 3, _ => simp [byte8_or3, hne0]
  | 4, _ => simp [byte8_or4, hne0]
  | 5, _ => simp [byte8_or5, hne0]
  | 6, _ => simp [byte8_or6, hne0]
  | 7, _ => simp [byte8_or7, hne0]
theorem byteOf_get (f : Nat → Bool) (j : Nat) : (byteOf f (j / 8) / 2 ^ (j % 8)) &&& 1 = b2n (f j) := by
  obtain ⟨k, r, hr, rfl⟩ : ∃ k r, r < 8 ∧ j = 8 * k + r := ⟨j / 8, j % 8, by omega, by omega⟩
  rw [show (8 * k + r) / 8 = k by omega, show (8 * k + r) % 8 = r by omega]
  unfold byteOf
  match r, hr with
  | 0, _ => exact byte8_g0 _ _ _ _ _ _ _ _
  | 1, _ => exact byte8_g1 _ _ _ _ _ _ _ _
  | 2, _ => exact byte8_g2 _ _ _ _ _ _ _ _
  | 3, _ => exact byte8_g3 _ _ _ _ _ _ _ _
  | 4, _ => exact byte8_g4 _ _ _ _ _ _ _ _
  | 5, _ => exact byte8_g5 _ _ _ _ _ _ _ _
  | 6, _ => exact byte8_g6 _ _ _ _ _ _ _ _
  | 7, _ => exact byte8_g7 _ _ _ _ _ _ _ _
theorem byteOf_congr {f g : Nat → Bool} {k : Nat} (h : ∀ i, i / 8 = k → f i = g i) : byteOf f k = byteOf g k := by
  unfold byteOf
  rw [h (8 * k) (by omega), h (8 * k + 1) (by omega), h (8 * k + 2) (by omega), h (8 * k + 3) (by omega), h (8 * k + 4) (by omega), h (8 * k + 5) (by omega), h (8 * k + 6) (by omega), h (8 * k + 7) (by omega)]
theorem bm_set (f : Nat → Bool) (n j : Nat) : (enc (bm f n)).set (j / 8) (.int .u8 ((byteOf f (j / 8) ||| 2 ^ (j % 8) : Nat) : Int)) = enc (bm (fun i => f i || decide (i = j)) n) := by
  apply List.ext_getElem?
  intro k
  by_cases hk : k < n
  · rw [bm_cell _ hk, List.getElem?_set]
    by_cases hj : j / 8 = k
    · subst hj
      rw [if_pos rfl, byteOf_or]
      simp [enc_len, bm_len, hk]
    · rw [if_neg hj, bm_cell _ hk, byteOf_congr (f := f) (g := fun i => f i || decide (i = j)) fun i hi => by
        have : decide (i = j) = false := decide_eq_false (by rintro rfl; exact hj hi)
        simp [this]]
  · rw [List.getElem?_eq_none (by simp [enc_len, bm_len]; omega), List.getElem?_eq_none (by simp [enc_len, bm_len]; omega)]
theorem bm_congr {f g : Nat → Bool} {n : Nat} (h : ∀ i, i < 8 * n → f i = g i) : bm f n = bm g n := by
  unfold bm
  apply List.map_congr_left
  intro k hk
  rw [List.mem_range] at hk
  rw [byteOf_congr fun i hi => h i (by omega)]
def cntN (f : Nat → Bool) : Nat → Nat
  | 0 => 0
  | n + 1 => cntN f n + b2n (f n)
theorem cntN_le (f : Nat → Bool) : ∀ n, cntN f n ≤ n
  | 0 => Nat.le_refl _
  | n + 1 => by
    have := cntN_le f n
    have h : b2n (f n) ≤ 1 := by unfold b2n; split <;> omega
    simp only [cntN]; omega
theorem cntN_congr {f g : Nat → Bool} : ∀ n, (∀ i, i < n → f i = g i) → cntN f n = cntN g n
  | 0, _ => rfl
  | n + 1, h => by simp only [cntN]; rw [cntN_congr n fun i hi => h i (by omega), h n (by omega)]
theorem bm_zero (n : Nat) : enc (bm (fun _ => false) n) = List.replicate n (.int .u8 0) := by
  have : bm (fun _ => false) n = List.replicate n 0 := by
    apply List.ext_getElem?
    intro k
    by_cases hk : k < n
    · rw [bm_get _ hk, List.getElem?_replicate, if_pos hk]; rfl
    · rw [List.getElem?_eq_none (by rw [bm_len]; omega), List.getElem?_eq_none (by simp; omega)]
  rw [this, enc_zeros]
end Go.Proofs.YtppkiiomedembaaGreatDoor
namespace Go.Proofs.YtppkiiomedembaaGreatDoor
open Go
set_option maxRecDepth 100000
set_option maxHeartbeats 4000000
attribute [local irreducible] E EO
abbrev ptrV (g : Nat) : Value := .pointer (some ⟨g, 0, none⟩)
def optV : Option Nat → Value
  | none => .pointer none
  | some g => .pointer (some ⟨g, 0, none⟩)
structure Nd where
  g : Nat
  num : Nat
  mode : Nat
  uid : Nat
  gid : Nat
  links : Nat
  blks : Nat
  flags : Nat
  size : Nat
  data : List UInt8
  xin : List UInt8
  kids : Option (List (List UInt8 × Nat))
def kidE (l : List (List UInt8 × Nat)) : Ents := l.map fun p => (str p.1, ptrV p.2)
structure NdI where
  A : Option Addr
  c : Nat
  n : Nat
  vs : List Value
  A' : Option Addr
  c' : Nat
  n' : Nat
  vs' : List Value
  km : Value
  kl : List HP
def kidV (k : Option (List (List UInt8 × Nat))) (gm : Nat) : Value := match k with
  | none => .map none
  | some _ => .map (some gm)
def kidL (k : Option (List (List UInt8 × Nat))) (gm : Nat) : List HP := match k with
  | none => []
  | some l => [MapS gm (kidE l)]
def ndF (x : Nd) (i : NdI) : Prop := i.n = x.data.length ∧ i.vs = enc x.data ∧ i.n' = x.xin.length ∧ i.vs' = enc x.xin ∧ ∃ gm, i.km = kidV x.kids gm ∧ i.kl = kidL x.kids gm
abbrev ndC (x : Nd) (i : NdI) : List Value := [.int .i64 (x.size : Int), .int .u64 0, .int .u64 0, .int .u64 0, .int .u64 0, .int .u32 (x.num : Int), .int .u16 (x.mode : Int), .int .u32 (x.uid : Int), .int .u32 (x.gid : Int), .int .u32 (x.links : Int), .int .u32 0, .int .u32 (x.blks : Int), .int .u32 0, .int .u32 0,
  .int .u32 (x.flags : Int), .slice i.A i.n i.c, .slice i.A' i.n' i.c', i.km]
abbrev ndL (x : Nd) (i : NdI) : List HP := [Cells x.g 187 (ndC x i), Own i.A i.c 5 1 i.n i.vs, Own i.A' i.c' 5 1 i.n' i.vs', .star i.kl]
def NodeP (x : Nd) : HP := .ex fun i : NdI => .fact (ndF x i) <| .star (ndL x i)
theorem NodeP.open {x : Nd} : Tn [NodeP x] (ndF x) (ndL x) := Tn.exs
abbrev ndX (x : Nd) (A : Option Addr) (c : Nat) (A' : Option Addr) (c' gm : Nat) : List HP := [Cells x.g 187 [.int .i64 (x.size : Int), .int .u64 0, .int .u64 0, .int .u64 0, .int .u64 0, .int .u32 (x.num : Int), .int .u16 (x.mode : Int), .int .u32 (x.uid : Int), .int .u32 (x.gid : Int), .int .u32 (x.links : Int), .int .u32 0, .int .u32 (x.blks : Int), .int .u32 0, .int .u32 0,
  .int .u32 (x.flags : Int), .slice A x.data.length c, .slice A' x.xin.length c', kidV x.kids gm], Own A c 5 1 x.data.length (enc x.data), Own A' c' 5 1 x.xin.length (enc x.xin), .star (kidL x.kids gm)]
theorem NodeP.op {x : Nd} : Tn5 [NodeP x] (fun _ _ _ _ _ => True) (ndX x) := fun m S h => by
  obtain ⟨⟨A, c, n1, v1, A', c', n2, v2, km, kl⟩, S', ⟨e1, e2, e3, e4, gm, e5, e6⟩, h1, h2⟩ := NodeP.open m S h
  dsimp only at e1 e2 e3 e4 e5 e6
  subst e1 e2 e3 e4 e5 e6
  exact ⟨(A, c, A', c', gm), S', trivial, h1, h2⟩
theorem NodeP.close {x : Nd} (A : Option Addr) (c n : Nat) (vs : List Value) (A' : Option Addr) (c' n' : Nat) (vs' : List Value) (km : Value) (kl : List HP) (h : ndF x ⟨A, c, n, vs, A', c', n', vs', km, kl⟩) :
    Tn (ndL x ⟨A, c, n, vs, A', c', n', vs', km, kl⟩) (fun _ : Unit => True) (fun _ => [NodeP x]) := Tn.inexs (A := ndL x) (p := ndF x) _ h
theorem NodeP.cl (x : Nd) {A : Option Addr} {c n : Nat} {vs : List Value} {A' : Option Addr} {c' gm : Nat} (h1 : n = x.data.length := by rfl) (h2 : vs = enc x.data := by rfl) :
    Tn (ndL x ⟨A, c, n, vs, A', c', x.xin.length, enc x.xin, kidV x.kids gm, kidL x.kids gm⟩) (fun _ : Unit => True) (fun _ => [NodeP x]) := NodeP.close A c n vs A' c' _ _ _ _ ⟨h1, h2, rfl, rfl, gm, rfl, rfl⟩
theorem NodeP.cell {x : Nd} {L : List HP} (o : Nat) (v : Value) (h : ∀ i, nth (ndC x i) o = some v) : Cell (NodeP x :: L) x.g o v := by
  intro m S hS
  obtain ⟨S1, S2, ⟨i, _, h1⟩, _⟩ := hS
  exact (Cell.here (g := x.g) (L := _) (h i)) m S1 h1
def NodesP (l : List Nd) : HP := .star (l.map NodeP)
theorem NodesP.open {l : List Nd} {i : Nat} {x : Nd} (h : l[i]? = some x) : Tn [NodesP l] (fun _ : Unit => True) (fun _ => [NodeP x, NodesP (l.eraseIdx i)]) :=
  fun m S hS => by
    have h1 : sats (l.map NodeP) m S := sats_one' hS
    have h2 : sats (NodeP x :: (l.eraseIdx i).map NodeP) m S := sats_perm (Take.of_get h).perm h1
    obtain ⟨S1, S2, a, b, c, d⟩ := h2
    exact ⟨(), S, trivial, ⟨S1, S2, a, sats_one b, c, d⟩, fun _ h => h⟩
theorem NodesP.close {l : List Nd} {i : Nat} (x : Nd) (h : i < l.length) : Tn [NodeP x, NodesP (l.eraseIdx i)] (fun _ : Unit => True) (fun _ => [NodesP (l.set i x)]) :=
  fun m S hS => by
    obtain ⟨S1, S2, a, b, c, d⟩ := hS
    have h2 : sats (NodeP x :: (l.eraseIdx i).map NodeP) m S := ⟨S1, S2, a, sats_one' b, c, d⟩
    exact ⟨(), S, trivial, sats_one (sats_perm (Take.of_set (f := NodeP) x h).perm.symm h2), fun _ h => h⟩
theorem NodesP.add {l : List Nd} (x : Nd) : Tn [NodeP x, NodesP l] (fun _ : Unit => True) (fun _ => [NodesP (l ++ [x])]) :=
  fun m S hS => by
    obtain ⟨S1, S2, a, b, c, d⟩ := hS
    have h2 : sats (NodeP x :: l.map NodeP) m S := ⟨S1, S2, a, sats_one' b, c, d⟩
    have hp : (NodeP x :: l.map NodeP).Perm ((l ++ [x]).map NodeP) := by
      rw [List.map_append]; exact List.perm_append_singleton _ _ |>.symm
    exact ⟨(), S, trivial, sats_one (sats_perm hp h2), fun _ h => h⟩
theorem NodesP.nil : Tn [] (fun _ : Unit => True) (fun _ => [NodesP []]) := fun m S hS => ⟨(), S, trivial, sats_one hS, fun _ h => h⟩
theorem NodesP.cell {l : List Nd} {L : List HP} {j : Nat} {x : Nd} (hj : l[j]? = some x) (o : Nat) (v : Value) (h : ∀ i, nth (ndC x i) o = some v) : Cell (NodesP l :: L) x.g o v := by
  intro m S hS
  obtain ⟨S1, S2, h1, _⟩ := hS
  have h2 : sats (NodeP x :: (l.eraseIdx j).map NodeP) m S1 := sats_perm (Take.of_get hj).perm h1
  exact NodeP.cell o v h m S1 h2
def mkB (b : List UInt8) : List UInt8 := if b = [] then [] else List.replicate 8192 0 ++ b
theorem lay_end (B bs : List UInt8) : lay B B.length bs = B ++ bs := by
  unfold lay
  simp
theorem lay_nil (p : Nat) (bs : List UInt8) : lay [] p bs = List.replicate p 0 ++ bs := by
  unfold lay
  simp
theorem mkB_len (b : List UInt8) (h : b ≠ []) : (mkB b).length = 8192 + b.length := by
  unfold mkB; rw [if_neg h, List.length_append, List.length_replicate]
theorem lay_mk (b bs : List UInt8) (h : bs ≠ []) : lay (mkB b) (8192 + b.length) bs = mkB (b ++ bs) := by
  have hb : b ++ bs ≠ [] := by simp [h]
  by_cases h1 : b = []
  · subst h1
    unfold mkB
    rw [if_pos rfl, if_neg hb, List.length_nil, lay_nil]
    rfl
  · rw [← mkB_len b h1, lay_end]
    unfold mkB
    rw [if_neg h1, if_neg hb, List.append_assoc]
structure Ws where
  wg : Nat
  dg : Nat
  ids : List (Option Nat)
  cname : ByteArray
  cur : Option Nat
  dw : Nat
  dm : Nat
  inl : Bool
  body : List UInt8
structure WsI where
  A : Option Addr
  c : Nat
  n : Nat
  vs : List Value
  p : Nat
  B : List UInt8
def wsF (s : Ws) (i : WsI) : Prop := i.n = s.ids.length ∧ i.vs = s.ids.map optV ∧ i.p = 8192 + s.body.length ∧ i.B = mkB s.body
abbrev wsC (s : Ws) (i : WsI) : List Value := [ptrV s.dg, .slice i.A i.n i.c, .string s.cname, optV s.cur, .int .i64 (i.p : Int), .int .i64 (s.dw : Int), .int .i64 (s.dm : Int), .nilIface, .bool true, .bool s.inl, .int .i64 ((17179869184 : Nat) : Int), .int .u32 1]
abbrev wsL (s : Ws) (i : WsI) : List HP := [Cells s.wg 174 (wsC s i), Own i.A i.c 172 1 i.n i.vs, DiskP s.dg i.p i.B]
def WP (s : Ws) : HP := .ex fun i : WsI => .fact (wsF s i) <| .star (wsL s i)
theorem WP.open {s : Ws} : Tn [WP s] (wsF s) (wsL s) := Tn.exs
abbrev wsX (s : Ws) (A : Option Addr) (c : Nat) : List HP := [Cells s.wg 174 [ptrV s.dg, .slice A s.ids.length c, .string s.cname, optV s.cur, .int .i64 ((8192 + s.body.length : Nat) : Int), .int .i64 (s.dw : Int), .int .i64 (s.dm : Int), .nilIface, .bool true, .bool s.inl, .int .i64 ((17179869184 : Nat) : Int), .int .u32 1], Own A c 172 1 s.ids.length (s.ids.map optV), DiskP s.dg (8192 + s.body.length) (mkB s.body)]
theorem WP.op {s : Ws} : Tn2 [WP s] (fun _ _ => True) (wsX s) := fun m S h => by
  obtain ⟨⟨A, c, n, vs, p, B⟩, S', ⟨e1, e2, e3, e4⟩, h1, h2⟩ := WP.open m S h
  dsimp only at e1 e2 e3 e4
  subst e1 e2 e3 e4
  exact ⟨(A, c), S', trivial, h1, h2⟩
theorem WP.close {s : Ws} (A : Option Addr) (c n : Nat) (vs : List Value) (p : Nat) (B : List UInt8) (h : wsF s ⟨A, c, n, vs, p, B⟩) : Tn (wsL s ⟨A, c, n, vs, p, B⟩) (fun _ : Unit => True) (fun _ => [WP s]) := Tn.inexs (A := wsL s) (p := wsF s) _ h
theorem WP.cl (s : Ws) {A : Option Addr} {c p : Nat} {B : List UInt8} (h1 : p = 8192 + s.body.length := by rfl) (h2 : B = mkB s.body := by rfl) :
    Tn (wsL s ⟨A, c, s.ids.length, s.ids.map optV, p, B⟩) (fun _ : Unit => True) (fun _ => [WP s]) := WP.close A c _ _ p B ⟨rfl, rfl, h1, h2⟩
theorem WP.cl0 (s : Ws) {A : Option Addr} {c p : Nat} {B : List UInt8} (h1 : p = 8192 + s.body.length := by rfl) (h2 : B = mkB s.body := by rfl) (h3 : s.cur = none := by rfl) (h4 : s.dw = 0 := by rfl) (h5 : s.dm = 0 := by rfl) :
    Tn [Cells s.wg 174 [ptrV s.dg, .slice A s.ids.length c, .string s.cname, .pointer none, .int .i64 (p : Int), .int .i64 0, .int .i64 0, .nilIface, .bool true, .bool s.inl, .int .i64 ((17179869184 : Nat) : Int), .int .u32 1], Own A c 172 1 s.ids.length (s.ids.map optV), DiskP s.dg p B] (fun _ : Unit => True) (fun _ => [WP s]) := by
  have h := WP.cl s (A := A) (c := c) h1 h2
  unfold wsL wsC at h
  rw [h3, h4, h5] at h
  exact h
theorem WP.cell {s : Ws} {L : List HP} (o : Nat) (v : Value) (h : ∀ i, nth (wsC s i) o = some v) : Cell (WP s :: L) s.wg o v := by
  intro m S hS
  obtain ⟨S1, S2, ⟨i, _, h1⟩, _⟩ := hS
  exact (Cell.here (g := s.wg) (L := _) (h i)) m S1 h1
section
variable {X : Fx} {ops : Array Oper} {cf : Nat → Cls} {k : List Item} {i : Nat} {is : List Nat} {l : List Oper} {loc loc' : List Value} {tmp tmp' : List (Nat × Value)} {L L' F M N : List HP}
  {d : Option Tmp} {ty : TypeId} {pos : String} {aft : Array Edge} {gd : Option (Nat × Bool)}
theorem y_loadE {T g a c e n : Nat} {x : Operand} {v : Value} {vs : List Value} [OneCell X.P T] (hv : vs[a]? = some v) (h : EO X ops cf k is l loc' tmp' L) (hx : sv loc tmp x = some (.pointer (some ⟨g, 0 + a * 1, none⟩)) := by rfl) (ht : Take (Own (some ⟨g, 0, none⟩) c e 1 n vs) L F := by exact take_) (hp : Pt loc tmp d v loc' tmp' := by exact pt_)
    (hg : gdv ops loc tmp gd = some true := by rfl) (hd : dOK X.n d = true := by rfl) (hcl : (cf i).reads = true := by rfl) : EO X ops cf k (i :: is) (⟨d, .load T x, ty, pos, aft, gd⟩ :: l) loc tmp L :=
  x_load hx (fun m S hS => by
    have h1 := sats_perm ht.perm hS
    exact Cell.own (L := F) (o := 0 + a * 1) (by simpa using hv) m S h1) hp h hg hd hcl
theorem y_loadC {T g o : Nat} {x : Operand} {v : Value} [OneCell X.P T] (hc : Cell L g o v) (h : EO X ops cf k is l loc' tmp' L) (hx : sv loc tmp x = some (.pointer (some ⟨g, o, none⟩)) := by rfl) (hp : Pt loc tmp d v loc' tmp' := by exact pt_)
    (hg : gdv ops loc tmp gd = some true := by rfl) (hd : dOK X.n d = true := by rfl) (hcl : (cf i).reads = true := by rfl) : EO X ops cf k (i :: is) (⟨d, .load T x, ty, pos, aft, gd⟩ :: l) loc tmp L :=
  x_load hx hc hp h hg hd hcl
end
def getI (ids : List (Option Nat)) (n : Nat) : Option Nat := if n = 0 then none else (ids[n - 1]?).join
theorem getI_fn (s : Ws) (n : Nat) (hn : n < 4294967296) (hl : s.ids.length < 1000000000) : Qn Tryz.prog 115 #[ptrV s.wg, .int .u32 (n : Int)] [WP s] (optV (getI s.ids n)) := by
  refine y_fn2 WP.op fun A c _ => ?_
  by_cases h0 : n = 0
  · subst h0
    refine fn_of_E' (args := [_, _]) 5 _ [_, _, undef, undef, undef] Tryz.func115 rfl Tryz.ntmps115 ?_
    refine walk ?_
    exact y_ret [4] rfl rfl
  · by_cases h1 : s.ids.length < n
    · refine fn_of_E' (args := [_, _]) 5 _ [_, _, undef, undef, undef] Tryz.func115 rfl Tryz.ntmps115 ?_
      refine walk ?_
      refine y_ret [4] rfl ?_
      simp [getI, h0, packV, optV]
      rw [List.getElem?_eq_none (by omega)]; rfl
    · obtain ⟨o, ho⟩ : ∃ o, s.ids[n - 1]? = some o := ⟨_, List.getElem?_eq_getElem (by omega)⟩
      refine fn_of_E' (args := [_, _]) 5 _ [_, _, undef, undef, undef] Tryz.func115 rfl Tryz.ntmps115 ?_
      refine E.know (.there .here) (fun _ _ => Own.know) fun hk => ?_
      obtain ⟨k1, k2, k3, k4⟩ := hk
      cases A with
      | none => have := k3 rfl; omega
      | some a =>
        obtain ⟨g, rfl⟩ := k4 a rfl
        refine walk ?_
        refine y_loadE (a := n - 1) (vs := s.ids.map optV) (v := optV o) (by simp [ho]) ?_
        refine walk ?_
        refine y_ret [4] rfl ?_
        simp [getI, h0, ho, packV]
theorem root_fn (s : Ws) (hl : s.ids.length < 1000000000) : Qn Tryz.prog 109 #[ptrV s.wg] [WP s] (optV (getI s.ids 2)) := by
  refine fn_of_E' (args := [_]) 3 _ [_, undef, undef] Tryz.func109 rfl Tryz.ntmps109 ?_
  refine walk ?_
  refine y_callq rfl rfl (getI_fn s 2 (by omega) hl) ?_
  refine walk ?_
  exact y_ret [2] rfl rfl
theorem fileType_fn (g m : Nat) (M : HP) (hm : m < 65536) (hc : Cell [M] g 6 (.int .u16 (m : Int))) : Qn Tryz.prog 104 #[ptrV g] [M] (.int .u16 ((m &&& 61440 : Nat) : Int)) := by
  refine fn_of_E' (args := [_]) 3 _ [_, undef, undef] Tryz.func104 rfl Tryz.ntmps104 ?_
  refine walk ?_
  refine y_loadC hc ?_
  refine walk ?_
  exact y_ret [2] rfl rfl
theorem isDir_fn (g m : Nat) (M : HP) (hm : m < 65536) (hc : Cell [M] g 6 (.int .u16 (m : Int))) : Qn Tryz.prog 93 #[ptrV g] [M] (.bool (decide (m &&& 61440 = 16384))) := by
  refine fn_of_E' (args := [_]) 3 _ [_, undef, undef] Tryz.func93 rfl Tryz.ntmps93 ?_
  refine walk ?_
  refine y_callq rfl rfl (fileType_fn g m M hm hc) ?_
  by_cases h : m &&& 61440 = 16384
  · refine walk ?_
    refine y_ret [2] rfl ?_
    simp [packV, h]
  · refine walk ?_
    refine y_ret [2] rfl ?_
    simp [packV, h]
end Go.Proofs.YtppkiiomedembaaGreatDoor
namespace Go.Proofs.YtppkiiomedembaaGreatDoor
open Go
set_option maxRecDepth 100000
set_option maxHeartbeats 4000000
attribute [local irreducible] E EO
theorem write_w (s : Ws) (bs : List UInt8) (X : Option Addr) (m cx : Nat) (M : HP) (hr : Rd [M] X m 1 (enc bs)) (hm : bs.length = m) (hpos : 0 < m) (hb : s.body.length + m ≤ 1000000000) :
    Fd Tryz.prog 98 #[ptrV s.wg, .slice X m cx] [WP s, M] (.tuple #[.int .i64 m, .nilIface]) [WP { s with body := s.body ++ bs }, M] := by
  refine y_fn2 WP.op fun A c _ => ?_
  have hne : bs ≠ [] := fun h => by subst h; simp at hm; omega
  refine ((write_fn s.wg s.dg (8192 + s.body.length) (mkB s.body) bs X m cx 17179869184 M _ _ _ _ _ _ _ _ hr hm hpos (by omega) (by omega)).frame).close
    (WP.close (s := { s with body := s.body ++ bs }) A c s.ids.length (s.ids.map optV) (8192 + s.body.length + m) (lay (mkB s.body) (8192 + s.body.length) bs) ⟨rfl, rfl, by simp [hm]; omega, by rw [lay_mk _ _ hne]⟩)
theorem zero_w (s : Ws) (n : Nat) (hpos : 0 < n) (hb : s.body.length + n ≤ 1000000000) :
    Fd Tryz.prog 116 #[ptrV s.wg, .int .i64 (n : Int)] [WP s] (.tuple #[.int .i64 n, .nilIface]) [WP { s with body := s.body ++ List.replicate n 0 }] := by
  refine y_fn2 WP.op fun A c _ => ?_
  have hne : List.replicate n (0 : UInt8) ≠ [] := fun h => by have := congrArg List.length h; simp at this; omega
  refine ((zero_fn s.wg s.dg (8192 + s.body.length) n (mkB s.body) 17179869184 _ _ _ _ _ _ _ _ hpos (by omega) (by omega)).frame).close
    (WP.close (s := { s with body := s.body ++ List.replicate n 0 }) A c s.ids.length (s.ids.map optV) (8192 + s.body.length + n) (lay (mkB s.body) (8192 + s.body.length) (List.replicate n 0)) ⟨rfl, rfl, by simp; omega, by rw [lay_mk _ _ hne]⟩)
theorem nextBlock_w (s : Ws) (hb : s.body.length ≤ 900000000) : Fd Tryz.prog 186 #[ptrV s.wg] [WP s] (.tuple #[]) [WP { s with body := s.body ++ List.replicate ((4096 - s.body.length % 4096) % 4096) 0 }] := by
  by_cases h : s.body.length % 4096 = 0
  · have e : (4096 - s.body.length % 4096) % 4096 = 0 := by omega
    rw [e, List.replicate_zero, List.append_nil]
    refine fn_of_E' (args := [_]) 2 _ [_, undef] Tryz.func186 rfl Tryz.ntmps186 ?_
    refine y_tn2 WP.op fun A c _ => ?_
    refine walk ?_
    refine y_tn (WP.close A c s.ids.length (s.ids.map optV) (8192 + s.body.length) (mkB s.body) ⟨rfl, rfl, rfl, rfl⟩) fun _ _ => ?_
    exact y_end [] rfl ⟨rfl, rfl⟩
  · have e : (4096 - s.body.length % 4096) % 4096 = 4096 - (8192 + s.body.length) % 4096 := by omega
    rw [e]
    refine fn_of_E' (args := [_]) 2 _ [_, undef] Tryz.func186 rfl Tryz.ntmps186 ?_
    refine y_tn2 WP.op fun A c _ => ?_
    refine walk ?_
    refine y_tno (WP.close A c s.ids.length (s.ids.map optV) (8192 + s.body.length) (mkB s.body) ⟨rfl, rfl, rfl, rfl⟩) fun _ _ => ?_
    refine y_callD rfl rfl (zero_w s (4096 - (8192 + s.body.length) % 4096) (by omega) (by omega)) ?_
    refine walk ?_
    exact y_end [] rfl ⟨rfl, rfl⟩
theorem put0_fn (dk g : Nat) (B : List UInt8) (hB : B ≠ []) (hl : B.length ≤ 1000000000000) : Fd Tryz.prog 117 #[ptrV dk, .slice (some ⟨g, 0, none⟩) 0 0] [DiskP dk B.length B, Own (some ⟨g, 0, none⟩) 0 5 1 0 []] (.tuple #[]) [DiskP dk B.length B, Own (some ⟨g, 0, none⟩) 0 5 1 0 []] := by
  refine fn_of_E' (args := [_, _]) 5 _ [_, _, undef, undef, undef] Tryz.func117 rfl Tryz.ntmps117 ?_
  refine y_tn DiskP.open fun i hi => ?_
  obtain ⟨A, c⟩ := i
  dsimp only
  refine E.know (.there .here) (fun _ _ => Own.know) fun hk => ?_
  obtain ⟨k1, k2, k3, k4⟩ := hk
  have hpos : 0 < B.length := List.length_pos_iff.2 hB
  cases A with
  | none => have := k3 rfl; omega
  | some a =>
    obtain ⟨g2, rfl⟩ := k4 a rfl
    refine walk ?_
    by_cases hc : c = B.length
    · subst hc
      refine x_slLoE rfl rfl NatV.h (by omega) rfl pt_ ?_
      refine walk ?_
      refine x_copy (news := []) rfl rfl ⟨rfl, .inl rfl⟩ (by simp) (.there (.own (by simp))) pt_ ?_
      refine walk ?_
      rw [show ovw (enc B) 0 (List.take (B.length - B.length) []) = enc B by simp [ovw]]
      rw [Nat.add_zero]
      refine y_tn (DiskP.close (B := B) (some ⟨g2, 0, none⟩) B.length hl) fun _ _ => ?_
      exact y_end [] rfl ⟨rfl, rfl⟩
    · refine x_slLo rfl rfl NatV.h (by omega) (by omega) (by omega) pt_ ?_
      refine walk ?_
      refine x_copy (news := []) rfl rfl ⟨rfl, .inl rfl⟩ (by simp) (.there (.own (by simp [k1]))) pt_ ?_
      refine walk ?_
      rw [show ovw (enc B) (0 + B.length * 1) (List.take (B.length - B.length) []) = enc B by simp [ovw, ← k1]]
      rw [Nat.add_zero]
      refine y_tn (DiskP.close (B := B) (some ⟨g2, 0, none⟩) c hl) fun _ _ => ?_
      exact y_end [] rfl ⟨rfl, rfl⟩
theorem zero0_w (s : Ws) (hne : s.body ≠ []) (hb : s.body.length ≤ 1000000000) :
    Fd Tryz.prog 116 #[ptrV s.wg, .int .i64 0] [WP s] (.tuple #[.int .i64 0, .nilIface]) [WP s] := by
  have hl := mkB_len s.body hne
  have hne' : mkB s.body ≠ [] := fun h => by have := congrArg List.length h; simp [hl] at this
  refine fn_of_E' (args := [_, _]) 6 _ [_, _, undef, undef, undef, undef] Tryz.func116 rfl Tryz.ntmps116 ?_
  refine y_tn2 WP.op fun A c _ => ?_
  refine walk ?_
  refine y_make rfl rfl fun g => ?_
  refine walk ?_
  rw [← hl, List.replicate_zero]
  refine y_callD rfl rfl (put0_fn s.dg g (mkB s.body) hne' (by omega)) ?_
  refine walk ?_
  rw [Nat.add_zero]
  refine y_tn (WP.close (s := s) A c s.ids.length (s.ids.map optV) (mkB s.body).length (mkB s.body) ⟨rfl, rfl, hl, rfl⟩) fun _ _ => ?_
  exact y_ret [4, 5] rfl ⟨rfl, rfl⟩
theorem Write0_w (wg : Nat) (X : Option Addr) (cx : Nat) (L : List HP) : Fd Tryz.prog 39 #[ptrV wg, .slice X 0 cx] L (.tuple #[.int .i64 0, .nilIface]) L := by
  refine fn_of_E' (args := [_, _]) 8 _ [_, _, undef, undef, undef, undef, undef, undef] Tryz.func39 rfl Tryz.ntmps39 ?_
  refine walk ?_
  exact e_ret (ts := [4, 5]) rfl rfl ⟨rfl, rfl⟩
theorem ovw_enc' {a us : List UInt8} {p o : Nat} (h : p = o) : ovw (enc a) p (enc us) = enc (a.take o ++ us ++ a.drop (o + us.length)) := by
  subst h
  simp [ovw, enc_app, enc_take, enc_drop, enc_len]
theorem WriteI_w (s : Ws) (x : Nd) (bs : List UInt8) (X : Option Addr) (m cx : Nat) (M : HP) (hr : Rd [M] X m 1 (enc bs)) (hm : bs.length = m) (hpos : 0 < m) (hcur : s.cur = some x.g) (hfl : x.flags &&& 268435456 ≠ 0) (hf2 : x.flags < 4294967296) (hd : s.dw + m ≤ s.dm) (hd2 : s.dw + m ≤ x.data.length) (hdm : s.dm ≤ 9223372036854775807) (hw : s.dw ≤ 1000000000) (hm2 : m ≤ 1000000000) :
    Fd Tryz.prog 39 #[ptrV s.wg, .slice X m cx] [WP s, NodeP x, M] (.tuple #[.int .i64 m, .nilIface])
      [WP { s with dw := s.dw + m }, NodeP { x with data := x.data.take s.dw ++ bs ++ x.data.drop (s.dw + m) }, M] := by
  refine fn_of_E' (args := [_, _]) 8 _ [_, _, undef, undef, undef, undef, undef, undef] Tryz.func39 rfl Tryz.ntmps39 ?_
  refine y_tn2 WP.op fun A c _ => ?_
  refine y_tn5 NodeP.op fun B1 c1 B2 c2 gm _ => ?_
  rw [hcur]
  refine E.know (A := Own B1 c1 5 1 x.data.length (enc x.data)) take_ (fun _ _ => Own.know) fun hk => ?_
  obtain ⟨k1, k2, k3, k4⟩ := hk
  cases B1 with
  | none => have := k3 rfl; omega
  | some a =>
    obtain ⟨g2, rfl⟩ := k4 a rfl
    refine walk ?_
    refine x_copy (news := enc bs) rfl rfl (hr.take take_) enc_one (by first | ((repeat (first | exact PutR.own (by simp [enc_len]; omega) | exact PutR.cells (by simp; omega) | apply PutR.there)) <;> fail) | fail) pt_ ?_
    refine walk ?_
    have et : List.take (x.data.length - s.dw) (enc bs) = enc bs := List.take_of_length_le (by rw [enc_len]; omega)
    rw [et, ovw_enc' (o := s.dw) (by omega), hm, ← hcur]
    refine y_tn (NodeP.cl { x with data := x.data.take s.dw ++ bs ++ x.data.drop (s.dw + m) } (n := x.data.length) (gm := gm) (by simp; omega)) fun _ _ => ?_
    refine y_tn (WP.cl { s with dw := s.dw + m }) fun _ _ => ?_
    exact y_ret [4, 5] rfl ⟨rfl, rfl⟩
theorem WriteP_w (s : Ws) (x : Nd) (bs : List UInt8) (X : Option Addr) (m cx : Nat) (M : HP) (hr : Rd [M] X m 1 (enc bs)) (hm : bs.length = m) (hpos : 0 < m) (hcur : s.cur = some x.g) (hfl : x.flags &&& 268435456 = 0) (hf2 : x.flags < 4294967296) (hd : s.dw + m ≤ s.dm) (hdm : s.dm ≤ 9223372036854775807) (hw : s.dw ≤ 1000000000) (hb : s.body.length + m ≤ 1000000000) :
    Fd Tryz.prog 39 #[ptrV s.wg, .slice X m cx] [WP s, NodeP x, M] (.tuple #[.int .i64 m, .nilIface])
      [WP { s with dw := s.dw + m, body := s.body ++ bs }, NodeP x, M] := by
  refine fn_of_E' (args := [_, _]) 8 _ [_, _, undef, undef, undef, undef, undef, undef] Tryz.func39 rfl Tryz.ntmps39 ?_
  refine y_tn2 WP.op fun A c _ => ?_
  refine walk ?_
  rw [hcur]
  refine walk ?_
  refine y_loadC (v := .int .u32 (x.flags : Int)) (.there (.there (.there (NodeP.cell 14 _ fun _ => rfl)))) ?_
  refine walk ?_
  rw [← hcur]
  refine y_tno (WP.cl s) fun _ _ => ?_
  refine y_callD rfl rfl (write_w s bs X m cx M hr hm hpos hb) ?_
  refine y_tno2 WP.op fun A c _ => ?_
  dsimp only
  refine walk ?_
  refine y_tn (WP.cl { s with dw := s.dw + m, body := s.body ++ bs }) fun _ _ => ?_
  exact y_ret [4, 5] rfl ⟨rfl, rfl⟩
end Go.Proofs.YtppkiiomedembaaGreatDoor
namespace Go.Proofs.YtppkiiomedembaaGreatDoor
open Go
set_option maxRecDepth 100000
attribute [local irreducible] E EO
theorem nth_mid {n j : Nat} {v : Value} {us B : List Value} (hl : us.length = n) : ∀ {A : List Value}, Nat.ble (A.length + n) j = true → nth B (j - (A.length + n)) = some v → nth (A ++ (us ++ B)) j = some v := by
  intro A hj hv
  have hj := Nat.le_of_ble_eq_true hj
  have key : ∀ (l : List Value) (i : Nat), nth l i = l[i]? := by
    intro l
    induction l with
    | nil => intro i; rfl
    | cons x l ih => intro i; cases i with | zero => rfl | succ i => simpa [nth] using ih i
  rw [key] at hv ⊢
  rw [List.getElem?_append_right (by omega), List.getElem?_append_right (by omega), ← hv]
  congr 1; omega
theorem CellRow.mid {g o : Nat} {t : TypeId} {us B : List Value} {L : List HP} {A : List Value} (ho : o = A.length) : CellRow (Cells g t (A ++ (us ++ B)) :: L) g o us := by
  subst ho
  intro j v hj h S hs
  have hlt : j < us.length := (List.getElem?_eq_some_iff.1 hj).1
  have := (CellRow.here (g := g) (t := t) (cs := A ++ (us ++ B)) (L := L)) (A.length + j) v (by
    rw [List.getElem?_append_right (by omega), show A.length + j - A.length = j by omega, List.getElem?_append_left hlt, hj]) h S hs
  simpa using this
def inodeB (md ui sl at_ ct mt gi lk bk fl : Nat) (blk : List UInt8) (xb sh uh gh xi cx mx ax cr cq : Nat) : List UInt8 :=
  [] ++ leB 2 md ++ leB 2 ui ++ leB 4 sl ++ leB 4 at_ ++ leB 4 ct ++ leB 4 mt ++ leB 4 0 ++ leB 2 gi ++ leB 2 lk ++ leB 4 bk ++ leB 4 fl ++ leB 4 0 ++ blk ++ leB 4 0 ++ leB 4 xb ++ leB 4 sh ++ leB 4 0 ++ leB 2 0 ++ leB 2 0 ++ leB 2 uh ++ leB 2 gh ++ leB 2 0 ++ leB 2 0
    ++ leB 2 xi ++ leB 2 0 ++ leB 4 cx ++ leB 4 mx ++ leB 4 ax ++ leB 4 cr ++ leB 4 cq ++ leB 4 0 ++ leB 4 0
theorem inodeBytes_fn (md ui sl at_ ct mt gi lk bk fl : Nat) (blk : List UInt8) (xb sh uh gh xi cx mx ax cr cq : Nat) (hb : (enc blk).length = 60)
    (h1 : md < 65536) (h2 : ui < 65536) (h3 : sl < 4294967296) (h4 : at_ < 4294967296) (h5 : ct < 4294967296) (h6 : mt < 4294967296) (h7 : gi < 65536) (h8 : lk < 65536) (h9 : bk < 4294967296) (h10 : fl < 4294967296)
    (h11 : xb < 4294967296) (h12 : sh < 4294967296) (h13 : uh < 65536) (h14 : gh < 65536) (h15 : xi < 65536) (h16 : cx < 4294967296) (h17 : mx < 4294967296) (h18 : ax < 4294967296) (h19 : cr < 4294967296) (h20 : cq < 4294967296) :
    Fe Tryz.prog 171 #[.agg (([.int .u16 (md : Int), .int .u16 (ui : Int), .int .u32 (sl : Int), .int .u32 (at_ : Int), .int .u32 (ct : Int), .int .u32 (mt : Int), .int .u32 0, .int .u16 (gi : Int), .int .u16 (lk : Int), .int .u32 (bk : Int), .int .u32 (fl : Int), .int .u32 0] : List Value) ++
      (enc blk ++ ([.int .u32 0, .int .u32 (xb : Int), .int .u32 (sh : Int), .int .u32 0, .int .u16 0, .int .u16 0, .int .u16 (uh : Int), .int .u16 (gh : Int), .int .u16 0, .int .u16 0, .int .u16 (xi : Int), .int .u16 0, .int .u32 (cx : Int), .int .u32 (mx : Int), .int .u32 (ax : Int), .int .u32 (cr : Int), .int .u32 (cq : Int), .int .u32 0, .int .u32 0] : List Value))).toArray] []
    (fun _ : Option Addr × Nat => True) (fun i => .slice i.1 160 i.2) (fun i => [Own i.1 i.2 5 1 160 (enc (inodeB md ui sl at_ ct mt gi lk bk fl blk xb sh uh gh xi cx mx ax cr cq))]) := by
  refine fn_of_E' (args := [_]) 4 _ [_, undef, undef, undef] Tryz.func171 rfl Tryz.ntmps171 ?_
  refine E.nilB ?_
  repeat (first | refine walk1 ?_ | refine y_alloc (fun g => ?_) | refine y_boxA rfl (fun g => ?_) | refine y_make rfl rfl (fun g => ?_) | refine y_build1 rfl (fun g => ?_) | refine y_app1 rfl rfl (fun A' c' => ?_) | (refine x_callE rfl rfl (fput16' _ _ _ _ (by omega) (by omega)) sub_ (fun _ => by (repeat (first | exact App.nil | apply App.cons)) <;> fail) fun i _ => ⟨_, _, pt_, ?_⟩) | (refine x_callE rfl rfl (fput32' _ _ _ _ (by omega) (by omega)) sub_ (fun _ => by (repeat (first | exact App.nil | apply App.cons)) <;> fail) fun i _ => ⟨_, _, pt_, ?_⟩) | (refine x_callE rfl rfl (fput64' _ _ _ _ (by omega) (by omega)) sub_ (fun _ => by (repeat (first | exact App.nil | apply App.cons)) <;> fail) fun i _ => ⟨_, _, pt_, ?_⟩) | fail)
  refine x_appE (us := blk) rfl rfl take_ (CellRow.mid rfl) (by rw [← enc_len, hb]) (by omega) (fun A' c' => ⟨_, _, pt_, ?_⟩)
  repeat (first | (refine is_load ?_; refine x_load rfl (by repeat (first | ((with_reducible apply Cell.here); exact nth_mid hb rfl rfl) | (with_reducible apply Cell.there))) pt_ ?_) | (refine x_callE rfl rfl (fput16' _ _ _ _ (by omega) (by omega)) sub_ (fun _ => by (repeat (first | exact App.nil | apply App.cons)) <;> fail) fun i _ => ⟨_, _, pt_, ?_⟩) | (refine x_callE rfl rfl (fput32' _ _ _ _ (by omega) (by omega)) sub_ (fun _ => by (repeat (first | exact App.nil | apply App.cons)) <;> fail) fun i _ => ⟨_, _, pt_, ?_⟩) | refine walk1 ?_ | refine y_alloc (fun g => ?_) | refine y_boxA rfl (fun g => ?_) | refine y_make rfl rfl (fun g => ?_) | refine y_build1 rfl (fun g => ?_) | refine y_app1 rfl rfl (fun A' c' => ?_) | fail)
  exact e_ret' (ts := [2]) (vs := [_]) rfl rfl ⟨_, _, ⟨i, trivial, rfl, rfl⟩, .cons .here .nil⟩
end Go.Proofs.YtppkiiomedembaaGreatDoor
