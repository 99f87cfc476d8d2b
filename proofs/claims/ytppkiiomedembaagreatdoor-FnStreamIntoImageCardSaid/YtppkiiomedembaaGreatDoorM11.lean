/-
  The walks: the reader's small parts; The walks: the reader's blocks, descriptors and inodes. Conditions: none.
-/
import Derived.Test.YtppkiiomedembaaGreatDoorM05
import Derived.Test.YtppkiiomedembaaGreatDoorM10
set_option linter.unusedVariables false
set_option linter.unusedSimpArgs false
namespace Go.Proofs.YtppkiiomedembaaGreatDoor
open Go
set_option maxRecDepth 100000
set_option maxHeartbeats 4000000
attribute [local irreducible] E EO
theorem Cell.of_row {L F : List HP} {G : HP} {g o a : Nat} {vs : List Value} {v : Value} (h : CellRow [G] g o vs) (ht : Take G L F) (hv : vs[a]? = some v) : Cell L g (o + a) v := fun m S hS => by
  obtain ⟨S1, S2, h1, _⟩ := sats_perm ht.perm hS
  exact h a v hv m S1 (sats_one h1)
section
variable {X : Fx} {ops : Array Oper} {cf : Nat → Cls} {k : List Item} {i : Nat} {is : List Nat} {l : List Oper} {loc loc' : List Value} {tmp tmp' : List (Nat × Value)} {L F : List HP}
  {d : Option Tmp} {ty : TypeId} {pos : String} {aft : Array Edge} {gd : Option (Nat × Bool)}
theorem y_loadR {T g o p a : Nat} {x : Operand} {v : Value} {vs : List Value} {G : HP} [OneCell X.P T] (hr : CellRow [G] g o vs) (hv : vs[a]? = some v) (h : EO X ops cf k is l loc' tmp' L) (hx : sv loc tmp x = some (.pointer (some ⟨g, p, none⟩)) := by rfl) (he : p = o + a := by omega) (ht : Take G L F := by exact take_) (hp : Pt loc tmp d v loc' tmp' := by exact pt_)
    (hg : gdv ops loc tmp gd = some true := by rfl) (hd : dOK X.n d = true := by rfl) (hcl : (cf i).reads = true := by rfl) : EO X ops cf k (i :: is) (⟨d, .load T x, ty, pos, aft, gd⟩ :: l) loc tmp L := by
  subst he
  exact x_load hx (Cell.of_row hr ht hv) hp h hg hd hcl
end
theorem enc_bAt {b : List UInt8} {i : Nat} (h : i < b.length) : (enc b)[i]? = some (.int .u8 (bAt b i : Nat)) := by
  rw [enc_get (List.getElem?_eq_getElem h), bAt_some (List.getElem?_eq_getElem h)]
theorem shl_or {v x : Nat} (h : x < 256) : v * 2 ^ 8 ||| x = x + 256 * v := by
  have := Nat.two_pow_add_eq_or_of_lt (i := 8) (b := x) (by omega) v
  rw [Nat.mul_comm (2 ^ 8) v] at this
  omega
theorem le_fn (g o m c at_ n : Nat) (bs : List UInt8) (M : HP) (hr : CellRow [M] g o (enc bs)) (hm : bs.length = m) (hn : n ≤ 8) (ha : at_ ≤ 1000000000000) (hm2 : m ≤ 1000000000000) :
    Qn Tryz.prog 49 #[.slice (some ⟨g, o, none⟩) m c, .int .u64 (at_ : Int), .int .u64 (n : Int)] [M] (.int .u64 (leAt bs at_ n : Nat)) := by
  refine fn_of_E' (args := [_, _, _]) 10 _ [_, _, _, undef, undef, undef, undef, undef, undef, undef] Tryz.func49 rfl Tryz.ntmps49 ?_
  refine walk ?_
  refine e_rounds (ι := Nat × Value) (fun q => q.1)
    (fun q => [.slice (some ⟨g, o, none⟩) m c, .int .u64 (at_ : Int), .int .u64 (n : Int), undef, undef, undef, .int .u64 0, .int .u64 (leAt bs (at_ + q.1) (n - q.1) : Nat), .int .u64 (q.1 : Nat), q.2])
    (fun _ => [M]) (fun q => q.1 ≤ n) (n, undef) (Nat.le_refl _) (by simp [leAt]) (List.Perm.refl _) ?_
  rintro ⟨i, v9⟩ hi again
  dsimp only at hi again ⊢
  by_cases h0 : i = 0
  · subst h0
    refine walk ?_
    exact y_ret [6] rfl (by simp [packV])
  · have hlt := leAt_lt bs (n - i) (at_ + i)
    have hlt2 : leAt bs (at_ + i) (n - i) < 72057594037927936 := Nat.lt_of_lt_of_le hlt (show 256 ^ (n - i) ≤ 256 ^ 7 from Nat.pow_le_pow_right (by decide) (by omega))
    have hstep : leAt bs (at_ + (i - 1)) (n - (i - 1)) = bAt bs (at_ + i - 1) + 256 * leAt bs (at_ + i) (n - i) := by
      rw [show n - (i - 1) = (n - i) + 1 by omega, show at_ + (i - 1) = at_ + i - 1 by omega]
      simp only [leAt]
      rw [show at_ + i - 1 + 1 = at_ + i by omega]
    generalize leAt bs (at_ + i) (n - i) = v at hlt2 hstep ⊢
    have hb := bAt_lt bs (at_ + i - 1)
    by_cases hp : at_ + i - 1 < m
    · have ag := again (i - 1, .int .u64 ((at_ + i - 1 : Nat) : Int)) (by dsimp only; omega) (by dsimp only; omega)
      dsimp only at ag
      rw [hstep] at ag
      refine walk ?_
      refine y_loadR (a := at_ + i - 1) hr (enc_bAt (by omega)) ?_
      refine walk ?_
      rw [shl_or hb]
      exact ag.to rfl rfl
    · have ag := again (i - 1, .int .u64 ((at_ + i - 1 : Nat) : Int)) (by dsimp only; omega) (by dsimp only; omega)
      dsimp only at ag
      rw [hstep, bAt_over (by omega)] at ag
      refine walk ?_
      rw [show v * 2 ^ 8 = 0 + 256 * v by omega]
      exact ag.to rfl rfl
theorem must_fn (V : Value) (s : ByteArray) (n : Nat) : Qn Tryz.prog 48 #[V, .bool true, .string s, .int .u64 (n : Int)] [] (.tuple #[]) := by
  refine fn_of_E' (args := [_, _, _, _]) 8 _ [_, _, _, _, undef, undef, undef, undef] Tryz.func48 rfl Tryz.ntmps48 ?_
  refine walk ?_
  exact y_end [] rfl rfl
structure RI where
  num : Nat
  mode : Nat
  uid : Nat
  gid : Nat
  size : Nat
  links : Nat
  secs : Nat
  flags : Nat
  il : Bool
  blks : Nat
  data : List UInt8
  ents : List (List UInt8 × Nat × Nat)
structure RIA where
  A : Option Addr
  c : Nat
  A' : Option Addr
  c' : Nat
abbrev riC (x : RI) (a : RIA) : List Value := [.int .u64 (x.num : Int), .int .u16 (x.mode : Int), .int .u32 (x.uid : Int), .int .u32 (x.gid : Int), .int .u64 (x.size : Int), .int .u64 (x.links : Int), .int .u64 (x.secs : Int), .int .u64 (x.flags : Int),
  .int .i64 0, .int .i64 0, .int .i64 0, .int .i64 0, .int .i64 0, .int .i64 0, .int .i64 0, .int .i64 0, .int .u32 0, .int .u32 0, .slice a.A x.data.length a.c, .slice a.A' x.ents.length a.c', .slice none 0 0, .bool x.il, .int .u64 (x.blks : Int)]
def entC : List (List UInt8 × Nat × Nat) → List Value
  | [] => []
  | e :: es => .string (str e.1) :: .int .u64 (e.2.1 : Int) :: .int .u64 (e.2.2 : Int) :: entC es
theorem entC_app : ∀ a b : List (List UInt8 × Nat × Nat), entC (a ++ b) = entC a ++ entC b
  | [], _ => rfl
  | e :: a, b => by simp [entC, entC_app a b]
abbrev riL (x : RI) (a : RIA) : List HP := [Own a.A a.c 5 1 x.data.length (enc x.data), Own a.A' a.c' 80 3 x.ents.length (entC x.ents)]
def inC : List RI → List RIA → List Value
  | x :: xs, a :: rs => riC x a ++ inC xs rs
  | _, _ => []
def inP : List RI → List RIA → List HP
  | x :: xs, a :: rs => HP.star (riL x a) :: inP xs rs
  | _, _ => []
theorem inC_app : ∀ (xs : List RI) (rs : List RIA) (x : RI) (a : RIA), rs.length = xs.length → inC (xs ++ [x]) (rs ++ [a]) = inC xs rs ++ riC x a
  | [], [], x, a, _ => rfl
  | y :: xs, b :: rs, x, a, h => by
    have := inC_app xs rs x a (by simpa using h)
    simp only [List.cons_append, inC, this, List.append_assoc]
theorem inP_app : ∀ (xs : List RI) (rs : List RIA) (x : RI) (a : RIA), rs.length = xs.length → inP (xs ++ [x]) (rs ++ [a]) = inP xs rs ++ [HP.star (riL x a)]
  | [], [], x, a, _ => rfl
  | y :: xs, b :: rs, x, a, h => by
    have := inP_app xs rs x a (by simpa using h)
    simp only [List.cons_append, inP, this]
theorem inC_get : ∀ (xs : List RI) (rs : List RIA) (i : Nat) (x : RI) (a : RIA), xs[i]? = some x → rs[i]? = some a → ((inC xs rs).drop (i * 23)).take 23 = riC x a
  | y :: xs, b :: rs, 0, x, a, h1, h2 => by
    simp at h1 h2; subst h1 h2; rfl
  | y :: xs, b :: rs, i + 1, x, a, h1, h2 => by
    have := inC_get xs rs i x a (by simpa using h1) (by simpa using h2)
    simp only [inC]
    rw [show (i + 1) * 23 = (riC y b).length + i * 23 by simp; omega, List.drop_append, List.drop_of_length_le (by omega), List.nil_append, show (riC y b).length + i * 23 - (riC y b).length = i * 23 by omega, this]
theorem inP_take : ∀ (xs : List RI) (rs : List RIA) (i : Nat) (x : RI) (a : RIA), xs[i]? = some x → rs[i]? = some a → ∃ F, Take (HP.star (riL x a)) (inP xs rs) F
  | y :: xs, b :: rs, 0, x, a, h1, h2 => by
    simp at h1 h2; subst h1 h2; exact ⟨_, .here⟩
  | y :: xs, b :: rs, i + 1, x, a, h1, h2 => by
    obtain ⟨F, hF⟩ := inP_take xs rs i x a (by simpa using h1) (by simpa using h2)
    exact ⟨_, hF.there⟩
def ownB (nb : Nat) (cl : List Nat) : List UInt8 := (List.range nb).map fun i => if i ∈ cl then 1 else 0
theorem ownB_len (nb : Nat) (cl : List Nat) : (ownB nb cl).length = nb := by simp [ownB]
theorem ownB_get {nb i : Nat} (cl : List Nat) (h : i < nb) : (ownB nb cl)[i]? = some (if i ∈ cl then 1 else 0) := by simp [ownB, h]
theorem ownB_set {nb n : Nat} {cl : List Nat} (h : n < nb) : (enc (ownB nb cl)).set n (.int .u8 1) = enc (ownB nb (n :: cl)) := by
  apply List.ext_getElem?
  intro i
  by_cases hi : i < nb
  · rw [enc_get (ownB_get _ hi), List.getElem?_set]
    by_cases hn : n = i
    · subst hn; simp [enc_len, ownB_len, hi]
    · rw [if_neg hn, enc_get (ownB_get _ hi)]
      have : (i ∈ n :: cl) ↔ i ∈ cl := by simp [Ne.symm hn]
      simp only [this]
  · rw [List.getElem?_eq_none (by simp [enc_len, ownB_len]; omega), List.getElem?_eq_none (by simp [enc_len, ownB_len]; omega)]
structure Vs where
  vg : Nat
  ig : Nat
  ic : Nat
  img : List UInt8
  nb : Nat
  pi : Nat
  cl : List Nat
  inos : List RI
abbrev vsC (s : Vs) (AI : Option Addr) (cI gO cO : Nat) : List Value := [.slice AI s.inos.length cI, .int .u64 (s.nb : Int), .slice none 0 0, .slice (some ⟨s.ig, 0, none⟩) s.img.length s.ic, .int .u64 1, .int .u64 32768, .int .u64 (s.pi : Int), .int .u64 256, .int .u64 32, .slice (some ⟨gO, 0, none⟩) s.nb cO, .bool false]
abbrev vsX (s : Vs) (AI : Option Addr) (cI gO cO : Nat) (rs : List RIA) : List HP := [Cells s.vg 71 (vsC s AI cI gO cO), Own AI cI 74 23 s.inos.length (inC s.inos rs), Own (some ⟨gO, 0, none⟩) cO 5 1 s.nb (enc (ownB s.nb s.cl)), HP.star (inP s.inos rs)]
def VP (s : Vs) : HP := .ex fun i : Option Addr × Nat × Nat × Nat × List RIA => .fact (i.2.2.2.2.length = s.inos.length) <| .star (vsX s i.1 i.2.1 i.2.2.1 i.2.2.2.1 i.2.2.2.2)
theorem VP.op {s : Vs} : Tn5 [VP s] (fun _ _ _ _ rs => rs.length = s.inos.length) (vsX s) := Tn.exs (p := fun i : Option Addr × Nat × Nat × Nat × List RIA => i.2.2.2.2.length = s.inos.length) (A := fun i : Option Addr × Nat × Nat × Nat × List RIA => vsX s i.1 i.2.1 i.2.2.1 i.2.2.2.1 i.2.2.2.2)
theorem VP.cl_ (s : Vs) {AI : Option Addr} {cI gO cO : Nat} {rs : List RIA} (h : rs.length = s.inos.length) : Tn (vsX s AI cI gO cO rs) (fun _ : Unit => True) (fun _ => [VP s]) :=
  Tn.inexs (p := fun i : Option Addr × Nat × Nat × Nat × List RIA => i.2.2.2.2.length = s.inos.length) (A := fun i : Option Addr × Nat × Nat × Nat × List RIA => vsX s i.1 i.2.1 i.2.2.1 i.2.2.2.1 i.2.2.2.2) (AI, cI, gO, cO, rs) h
theorem VP.cell {s : Vs} {L : List HP} (o : Nat) (v : Value) (h : ∀ AI cI gO cO, nth (vsC s AI cI gO cO) o = some v) : Cell (VP s :: L) s.vg o v := by
  intro m S hS
  obtain ⟨S1, S2, ⟨i, _, h1⟩, _⟩ := hS
  exact (Cell.here (g := s.vg) (L := _) (h i.1 i.2.1 i.2.2.1 i.2.2.2.1)) m S1 h1
def ImgQ (ig ic : Nat) (img : List UInt8) : HP := Own (some ⟨ig, 0, none⟩) ic 5 1 img.length (enc img)
abbrev ImgP (s : Vs) : HP := ImgQ s.ig s.ic s.img
theorem ImgP.row (s : Vs) (o n : Nat) : CellRow [ImgP s] s.ig o (enc ((s.img.drop o).take n)) := by
  intro j v hj
  have h0 := CellRow.own (g := s.ig) (c := s.ic) (e := 5) (sz := 1) (n := s.img.length) (vs := enc s.img) (L := []) (o + j) v ?_
  · simpa [ImgP, ImgQ] using h0
  · have hlt := (List.getElem?_eq_some_iff.1 hj).1
    rw [enc_len, List.length_take] at hlt
    rw [enc_take, enc_drop, List.getElem?_take_of_lt (by omega), List.getElem?_drop] at hj
    exact hj
end Go.Proofs.YtppkiiomedembaaGreatDoor
namespace Go.Proofs.YtppkiiomedembaaGreatDoor
open Go
set_option maxRecDepth 100000
set_option maxHeartbeats 4000000
attribute [local irreducible] E EO
structure Geo (s : Vs) : Prop where
  len : s.img.length = s.nb * 4096
  ic : s.img.length ≤ s.ic
  nb : 2 ≤ s.nb
  nb2 : s.nb ≤ 30000
  pi : 16 ≤ s.pi
  pi2 : s.pi ≤ 30000
theorem rblock_fn (s : Vs) (g : Geo s) (n : Nat) (hn : n < s.nb) : Qn Tryz.prog 129 #[ptrV s.vg, .int .u64 (n : Int)] [VP s] (.slice (some ⟨s.ig, n * 4096, none⟩) 4096 (s.ic - n * 4096)) := by
  obtain ⟨g1, g2, g3, g4, g5, g6⟩ := g
  refine y_fn5 VP.op fun AI cI gO cO rs _ => ?_
  have hm : (n + 1) * 4096 ≤ s.img.length := by omega
  refine fn_of_E' (args := [_, _]) 5 _ [_, _, undef, undef, undef] Tryz.func129 rfl Tryz.ntmps129 ?_
  refine walk ?_
  rw [show 0 + n * 4096 * 1 = n * 4096 by omega, show (n + 1) * 4096 - n * 4096 = 4096 by omega]
  exact y_ret [4] rfl rfl
theorem claim_fn (s : Vs) (n : Nat) (w : List UInt8) (hw : w.length ≤ 1000) (hn : n < s.nb) (hnb : s.nb ≤ 30000) (hc : n ∉ s.cl) : Fd Tryz.prog 122 #[ptrV s.vg, .int .u64 (n : Int), .string (str w)] [VP s] (.tuple #[]) [VP { s with cl := n :: s.cl }] := by
  refine y_fn5 VP.op fun AI cI gO cO rs hrs => ?_
  have hget : (enc (ownB s.nb s.cl))[n]? = some (.int .u8 0) := by
    rw [enc_get (ownB_get _ hn), if_neg hc]; rfl
  refine fn_of_E' (args := [_, _, _]) 6 _ [_, _, _, undef, undef, undef] Tryz.func122 rfl Tryz.ntmps122 ?_
  refine walk ?_
  refine y_loadR (a := n) (vs := enc (ownB s.nb s.cl)) (G := Own (some ⟨gO, 0, none⟩) cO 5 1 s.nb (enc (ownB s.nb s.cl))) CellRow.own hget ?_
  refine walk ?_
  refine y_callq rfl rfl (must_fn (ptrV s.vg) _ n) ?_
  refine walk ?_
  refine y_storeE (a := n) (vs := enc (ownB s.nb s.cl)) (u := .int .u8 1) (by rw [enc_len, ownB_len]; exact hn) ?_
  rw [ownB_set hn]
  refine walk ?_
  refine y_tn (VP.cl_ { s with cl := n :: s.cl } (AI := AI) (cI := cI) (gO := gO) (cO := cO) (rs := rs) hrs) fun _ _ => ?_
  exact y_end [] rfl ⟨rfl, rfl⟩
theorem desc_fn (s : Vs) (g : Geo s) : Qn Tryz.prog 181 #[ptrV s.vg, .int .u64 0] [VP s] (.slice (some ⟨s.ig, 4096, none⟩) 32 (s.ic - 4096)) := by
  obtain ⟨g1, g2, g3, g4, g5, g6⟩ := g
  refine y_fn5 VP.op fun AI cI gO cO rs _ => ?_
  have hm : 4128 ≤ s.img.length := by omega
  refine fn_of_E' (args := [_, _]) 6 _ [_, _, undef, undef, undef, undef] Tryz.func181 rfl Tryz.ntmps181 ?_
  refine walk ?_
  exact y_ret [4] rfl rfl
theorem part_fn (s : Vs) (g : Geo s) (lo b hi : Nat) (hb : b ≤ 8) (hlo : lo + b ≤ 32) : Qn Tryz.prog 131 #[ptrV s.vg, .int .u64 0, .int .u64 (lo : Int), .int .u64 (b : Int), .int .u64 (hi : Int)] [VP s, ImgP s] (.int .u64 (leAt s.img (4096 + lo) b : Nat)) := by
  have hl : ((s.img.drop 4096).take 32).length = 32 := by simp; have := g.len; have := g.nb; omega
  have hle := le_fn s.ig 4096 32 (s.ic - 4096) lo b ((s.img.drop 4096).take 32) (ImgP s) (ImgP.row s 4096 32) hl hb (by omega) (by omega)
  rw [leAt_take _ hlo, leAt_drop] at hle
  refine fn_of_E' (args := [_, _, _, _, _]) 13 _ [_, _, _, _, _, undef, undef, undef, undef, undef, undef, undef, undef] Tryz.func131 rfl Tryz.ntmps131 ?_
  refine walk ?_
  refine y_callq rfl rfl (desc_fn s g) ?_
  refine walk ?_
  refine y_callq rfl rfl hle ?_
  refine walk ?_
  refine y_loadC (v := .bool false) (VP.cell 10 _ fun _ _ _ _ => rfl) ?_
  refine walk ?_
  exact y_ret [10] rfl rfl
theorem bbm_fn (s : Vs) (g : Geo s) : Qn Tryz.prog 123 #[ptrV s.vg, .int .u64 0] [VP s, ImgP s] (.int .u64 (leAt s.img 4096 4 : Nat)) := by
  refine fn_of_E' (args := [_, _]) 5 _ [_, _, undef, undef, undef] Tryz.func123 rfl Tryz.ntmps123 ?_
  refine walk ?_
  refine y_callq rfl rfl (part_fn s g 0 4 32 (by omega) (by omega)) ?_
  refine walk ?_
  exact y_ret [4] rfl rfl
theorem ibm_fn (s : Vs) (g : Geo s) : Qn Tryz.prog 124 #[ptrV s.vg, .int .u64 0] [VP s, ImgP s] (.int .u64 (leAt s.img 4100 4 : Nat)) := by
  refine fn_of_E' (args := [_, _]) 5 _ [_, _, undef, undef, undef] Tryz.func124 rfl Tryz.ntmps124 ?_
  refine walk ?_
  refine y_callq rfl rfl (part_fn s g 4 4 36 (by omega) (by omega)) ?_
  refine walk ?_
  exact y_ret [4] rfl rfl
theorem itb_fn (s : Vs) (g : Geo s) : Qn Tryz.prog 125 #[ptrV s.vg, .int .u64 0] [VP s, ImgP s] (.int .u64 (leAt s.img 4104 4 : Nat)) := by
  refine fn_of_E' (args := [_, _]) 5 _ [_, _, undef, undef, undef] Tryz.func125 rfl Tryz.ntmps125 ?_
  refine walk ?_
  refine y_callq rfl rfl (part_fn s g 8 4 40 (by omega) (by omega)) ?_
  refine walk ?_
  exact y_ret [4] rfl rfl
theorem raw_fn (s : Vs) (g : Geo s) (it n : Nat) (h1 : 1 ≤ n) (h2 : n ≤ s.pi) (hit : leAt s.img 4104 4 = it) (hfit : it * 4096 + n * 256 ≤ s.img.length) : Qn Tryz.prog 128 #[ptrV s.vg, .int .u64 (n : Int)] [VP s, ImgP s] (.slice (some ⟨s.ig, it * 4096 + (n - 1) * 256, none⟩) 256 (s.ic - (it * 4096 + (n - 1) * 256))) := by
  have hi := itb_fn s g
  rw [hit] at hi
  obtain ⟨g1, g2, g3, g4, g5, g6⟩ := g
  have e1 : (n - 1) / s.pi = 0 := Nat.div_eq_of_lt (by omega)
  have e2 : (n - 1) % s.pi = n - 1 := Nat.mod_eq_of_lt (by omega)
  refine fn_of_E' (args := [_, _]) 8 _ [_, _, undef, undef, undef, undef, undef, undef] Tryz.func128 rfl Tryz.ntmps128 ?_
  refine walk ?_
  refine y_loadC (v := .int .u64 1) (VP.cell 4 _ fun _ _ _ _ => rfl) ?_
  refine walk ?_
  refine y_loadC (v := .int .u64 (s.pi : Int)) (VP.cell 6 _ fun _ _ _ _ => rfl) ?_
  refine walk ?_
  refine y_loadC (v := .int .u64 (s.pi : Int)) (VP.cell 6 _ fun _ _ _ _ => rfl) ?_
  refine walk ?_
  refine y_loadC (v := .int .u64 (s.pi : Int)) (VP.cell 6 _ fun _ _ _ _ => rfl) ?_
  refine walk ?_
  rw [e1, e2]
  refine y_callq rfl rfl hi ?_
  refine walk ?_
  refine y_loadC (v := .int .u64 256) (VP.cell 7 _ fun _ _ _ _ => rfl) ?_
  refine walk ?_
  refine y_loadC (v := .int .u64 256) (VP.cell 7 _ fun _ _ _ _ => rfl) ?_
  refine walk ?_
  refine y_loadC (v := .slice (some ⟨s.ig, 0, none⟩) s.img.length s.ic) (VP.cell 3 _ fun _ _ _ _ => rfl) ?_
  refine walk ?_
  refine y_loadC (v := .slice (some ⟨s.ig, 0, none⟩) s.img.length s.ic) (VP.cell 3 _ fun _ _ _ _ => rfl) ?_
  refine walk ?_
  refine y_loadC (v := .int .u64 256) (VP.cell 7 _ fun _ _ _ _ => rfl) ?_
  refine walk ?_
  rw [show 0 + (it * 4096 + (n - 1) * 256) * 1 = it * 4096 + (n - 1) * 256 by omega, show it * 4096 + (n - 1) * 256 + 256 - (it * 4096 + (n - 1) * 256) = 256 by omega]
  exact y_ret [4] rfl rfl
theorem hasCopy0_fn (V : Value) : Qn Tryz.prog 121 #[V, .int .u64 0] [] (.bool true) := by
  refine fn_of_E' (args := [_, _]) 8 _ [_, _, undef, undef, undef, undef, undef, undef] Tryz.func121 rfl Tryz.ntmps121 ?_
  refine walk ?_
  exact y_ret [4] rfl rfl
end Go.Proofs.YtppkiiomedembaaGreatDoor
