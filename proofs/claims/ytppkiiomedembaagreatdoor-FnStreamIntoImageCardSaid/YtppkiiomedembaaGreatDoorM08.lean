/-
  The walks: times, and the way to a name; The walks: attributes, as far as small files want them; The walks: the attribute under which a small file's rest stands. Conditions: none.
-/
import Derived.Test.YtppkiiomedembaaGreatDoorM06
import Derived.Test.YtppkiiomedembaaGreatDoorM07
set_option linter.unusedVariables false
set_option linter.unusedSimpArgs false
namespace Go.Proofs.YtppkiiomedembaaGreatDoor
open Go
set_option maxRecDepth 100000
set_option maxHeartbeats 4000000
attribute [local irreducible] E EO
section
variable {X : Fx} {ops : Array Oper} {cf : Nat → Cls} {k : List Item} {i : Nat} {is : List Nat} {l : List Oper} {loc loc' : List Value} {tmp tmp' : List (Nat × Value)} {L F : List HP}
  {d : Option Tmp} {ty : TypeId} {pos : String} {aft : Array Edge} {gd : Option (Nat × Bool)}
theorem y_lookV {T kt e g : Nat} {z u : Value} {x y : Operand} {s : ByteArray} {es : Ents} [hT : MapTy X.P T kt e z] (he : lookV (look es s) z = u) (h : EO X ops cf k is l loc' tmp' L)
    (hx : sv loc tmp x = some (.map (some g)) := by rfl) (hy : sv loc tmp y = some (.string s) := by rfl) (ht : Take (MapS g es) L F := by exact take_) (hp : Pt loc tmp d u loc' tmp' := by exact pt_)
    (hg : gdv ops loc tmp gd = some true := by rfl) (hd : dOK X.n d = true := by rfl) (hcl : (cf i).reads = true := by rfl) : EO X ops cf k (i :: is) (⟨d, .lookup T x y false, ty, pos, aft, gd⟩ :: l) loc tmp L :=
  x_look hx hy ht (by rw [he]; exact hp) h hg hd hcl
end
theorem toFs0_fn : Fd Tryz.prog 153 #[.agg #[.bool false, .int .i64 0, .int .i64 0]] [] (.int .u64 0) [] := by
  refine fn_of_E' (args := [_]) 4 _ [_, undef, undef, undef] Tryz.func153 rfl Tryz.ntmps153 ?_
  refine e_seq ?_
  refine e_region ?_
  refine y_boxA (vs := [.bool false, .int .i64 0, .int .i64 0]) rfl fun g => ?_
  refine walk ?_
  exact y_ret [2] rfl ⟨rfl, rfl⟩
abbrev ndK (x : Nd) (ks : List (List UInt8 × Nat)) (R : HP) (A : Option Addr) (c : Nat) (A' : Option Addr) (c' gm : Nat) : List HP := [Cells x.g 187 [.int .i64 (x.size : Int), .int .u64 0, .int .u64 0, .int .u64 0, .int .u64 0, .int .u32 (x.num : Int), .int .u16 (x.mode : Int), .int .u32 (x.uid : Int), .int .u32 (x.gid : Int), .int .u32 (x.links : Int), .int .u32 0, .int .u32 (x.blks : Int), .int .u32 0, .int .u32 0,
  .int .u32 (x.flags : Int), .slice A x.data.length c, .slice A' x.xin.length c', .map (some gm)], Own A c 5 1 x.data.length (enc x.data), Own A' c' 5 1 x.xin.length (enc x.xin), MapS gm (kidE ks), R]
theorem NodesP.opK {l : List Nd} {i : Nat} {x : Nd} {ks : List (List UInt8 × Nat)} (h : l[i]? = some x) (hk : x.kids = some ks) : Tn5 [NodesP l] (fun _ _ _ _ _ => True) (ndK x ks (NodesP (l.eraseIdx i))) := fun m S hS => by
  obtain ⟨_, S1, _, h1, h2⟩ := NodesP.open h m S hS
  obtain ⟨T1, T2, a, b, d1, d2⟩ := h1
  obtain ⟨⟨A, c, A', c', gm⟩, T1', _, a', ha⟩ := NodeP.op m T1 (sats_one a)
  dsimp only at a'
  unfold ndX at a'
  rw [hk] at a'
  obtain ⟨U1, V1, u1, v1, e1, f1⟩ := a'
  obtain ⟨U2, V2, u2, v2, e2, f2⟩ := v1
  obtain ⟨U3, V3, u3, v3, e3, f3⟩ := v2
  have v4 : sats [MapS gm (kidE ks)] m V3 := by
    have := sats_one' v3
    exact this
  refine ⟨(A, c, A', c', gm), fun y => T1' y ∨ T2 y, trivial, ?_, fun y hy => h2 y ((d2 y).2 (hy.imp (ha y) id))⟩
  have key : sats ([Cells x.g 187 _, Own A c 5 1 x.data.length (enc x.data), Own A' c' 5 1 x.xin.length (enc x.xin), MapS gm (kidE ks)] ++ [NodesP (l.eraseIdx i)]) m (fun y => T1' y ∨ T2 y) :=
    sats_append.2 ⟨T1', T2, ⟨U1, V1, u1, ⟨U2, V2, u2, ⟨U3, V3, u3, v4, e3, f3⟩, e2, f2⟩, e1, f1⟩, b, fun y hy => d1 y (ha y hy), fun _ => Iff.rfl⟩
  exact key
theorem NodesP.clK {l : List Nd} {i : Nat} (x : Nd) {ks : List (List UInt8 × Nat)} (hi : i < l.length) {A : Option Addr} {c n : Nat} {vs : List Value} {A' : Option Addr} {c' gm : Nat} {es : Ents} (hk : x.kids = some ks) (h3 : es = kidE ks) (h1 : n = x.data.length := by rfl) (h2 : vs = enc x.data := by rfl) :
    Tn [Cells x.g 187 [.int .i64 (x.size : Int), .int .u64 0, .int .u64 0, .int .u64 0, .int .u64 0, .int .u32 (x.num : Int), .int .u16 (x.mode : Int), .int .u32 (x.uid : Int), .int .u32 (x.gid : Int), .int .u32 (x.links : Int), .int .u32 0, .int .u32 (x.blks : Int), .int .u32 0, .int .u32 0,
      .int .u32 (x.flags : Int), .slice A n c, .slice A' x.xin.length c', .map (some gm)], Own A c 5 1 n vs, Own A' c' 5 1 x.xin.length (enc x.xin), MapS gm es, NodesP (l.eraseIdx i)] (fun _ : Unit => True) (fun _ => [NodesP (l.set i x)]) := fun m S hS => by
  have h4 := NodeP.cl x (A := A) (c := c) (n := n) (vs := vs) (A' := A') (c' := c') (gm := gm) h1 h2
  unfold ndL ndC at h4
  rw [hk] at h4
  subst h3
  obtain ⟨U1, V1, u1, v1, e1, f1⟩ := hS
  obtain ⟨U2, V2, u2, v2, e2, f2⟩ := v1
  obtain ⟨U3, V3, u3, v3, e3, f3⟩ := v2
  obtain ⟨U4, V4, u4, v4, e4, f4⟩ := v3
  have hsub4 : ∀ y, V4 y → V3 y := fun y hy => (f4 y).2 (.inr hy)
  obtain ⟨_, T, _, hT, hsub⟩ := h4 m (fun y => U1 y ∨ (U2 y ∨ (U3 y ∨ U4 y))) (by
    refine ⟨U1, fun y => U2 y ∨ (U3 y ∨ U4 y), u1, ⟨U2, fun y => U3 y ∨ U4 y, u2, ⟨U3, U4, u3, sats_one ?_, ?_, fun _ => Iff.rfl⟩, ?_, fun _ => Iff.rfl⟩, ?_, fun _ => Iff.rfl⟩
    · exact sats_one u4
    · exact fun y hy hy' => e3 y hy ((f4 y).2 (.inl hy'))
    · exact fun y hy hy' => e2 y hy ((f3 y).2 (hy'.imp id fun h => (f4 y).2 (.inl h)))
    · exact fun y hy hy' => e1 y hy ((f2 y).2 (hy'.imp id fun h => (f3 y).2 (h.imp id fun h => (f4 y).2 (.inl h)))))
  obtain ⟨_, T', _, hT', hsub'⟩ := NodesP.close (l := l) x hi m (fun y => T y ∨ V4 y) ⟨T, V4, sats_one' hT, v4, fun y hy hy' => by
    rcases hsub y hy with h | h | h | h
    · exact e1 y h ((f2 y).2 (.inr ((f3 y).2 (.inr (hsub4 y hy')))))
    · exact e2 y h ((f3 y).2 (.inr (hsub4 y hy')))
    · exact e3 y h (hsub4 y hy')
    · exact e4 y h hy', fun _ => Iff.rfl⟩
  refine ⟨(), T', trivial, hT', fun y hy => ?_⟩
  rcases hsub' y hy with h | h
  · rcases hsub y h with h | h | h | h
    · exact (f1 y).2 (.inl h)
    · exact (f1 y).2 (.inr ((f2 y).2 (.inl h)))
    · exact (f1 y).2 (.inr ((f2 y).2 (.inr ((f3 y).2 (.inl h)))))
    · exact (f1 y).2 (.inr ((f2 y).2 (.inr ((f3 y).2 (.inr ((f4 y).2 (.inl h)))))))
  · exact (f1 y).2 (.inr ((f2 y).2 (.inr ((f3 y).2 (.inr (hsub4 y h))))))
theorem set_same {α : Type} {l : List α} {i : Nat} {x : α} (h : l[i]? = some x) : l.set i x = l := by
  apply List.ext_getElem?
  intro j
  by_cases hj : i = j
  · subst hj; obtain ⟨h1, h2⟩ := List.getElem?_eq_some_iff.1 h; rw [List.getElem?_set_self h1, h]
  · rw [List.getElem?_set_ne hj]
inductive Way (l : List Nd) : Nat → List (List UInt8) → Nat → Prop where
  | here {i : Nat} : Way l i [] i
  | step {i j k : Nat} {x y : Nd} {c : List UInt8} {cs : List (List UInt8)} {ks : List (List UInt8 × Nat)} : l[i]? = some x → x.kids = some ks → look (kidE ks) (str c) = some (ptrV y.g) → l[j]? = some y → Way l j cs k → Way l i (c :: cs) k
def slashed : List (List UInt8) → List UInt8
  | [] => []
  | c :: cs => c ++ 47 :: slashed cs
theorem headP_slash (c r : List UInt8) (h : 47 ∉ c) : headP (c ++ 47 :: r) = c ∧ tailP (c ++ 47 :: r) = r := by
  induction c with
  | nil => simp [headP, tailP]
  | cons b c ih =>
    have hb : b ≠ 47 := fun e => h (by simp [e])
    obtain ⟨h1, h2⟩ := ih (fun e => h (by simp [e]))
    exact ⟨by simp [headP, hb] at h1 ⊢; exact h1, by simp [tailP, hb] at h2 ⊢; exact h2⟩
theorem findPath_fn (wg : Nat) (l : List Nd) (i k : Nat) (cs : List (List UInt8)) (x z : Nd) (hx : l[i]? = some x) (hz : l[k]? = some z) (hw : Way l i cs k) (hs : ∀ c ∈ cs, 47 ∉ c) (hl : (slashed cs).length ≤ 1000000000) :
    Qn Tryz.prog 152 #[ptrV wg, ptrV x.g, .string (str (slashed cs))] [NodesP l] (ptrV z.g) := by
  refine fn_of_E' (args := [_, _, _]) 10 _ [_, _, _, undef, undef, undef, undef, undef, undef, undef] Tryz.func152 rfl Tryz.ntmps152 ?_
  refine walk ?_
  refine e_rounds (ι := Nat × Nd × List (List UInt8) × Value × Value) (fun q => q.2.2.1.length) (fun q => [ptrV wg, ptrV x.g, .string (str (slashed q.2.2.1)), undef, undef, undef, .pointer none, ptrV q.2.1.g, q.2.2.2.1, q.2.2.2.2]) (fun _ => [NodesP l])
    (fun q => l[q.1]? = some q.2.1 ∧ Way l q.1 q.2.2.1 k ∧ (∀ c ∈ q.2.2.1, 47 ∉ c) ∧ (slashed q.2.2.1).length ≤ 1000000000) (i, x, cs, undef, undef) ⟨hx, hw, hs, hl⟩ rfl (List.Perm.refl _) ?_
  rintro ⟨i, x', cs, u8, u9⟩ ⟨hx, hw, hs, hl⟩ again
  dsimp only at hx hw hs hl again ⊢
  cases hw with
  | here =>
    rw [hx] at hz
    cases hz
    refine walk ?_
    exact y_ret [6] rfl rfl
  | @step _ j _ _ y c cs ks hx' hk hlk hy hw =>
    rw [hx] at hx'
    cases hx'
    have hc : 47 ∉ c := hs c (by simp)
    have hlen : (slashed (c :: cs)).length = c.length + 1 + (slashed cs).length := by simp [slashed]; omega
    have hsp := splitFirst_fn (slashed (c :: cs)) hl
    rw [show headP (slashed (c :: cs)) = c from (headP_slash c _ hc).1, show tailP (slashed (c :: cs)) = slashed cs from (headP_slash c _ hc).2] at hsp
    have hpos : 0 < (slashed (c :: cs)).length := by omega
    refine walk ?_
    refine y_callq rfl rfl hsp ?_
    refine walk ?_
    refine y_tno5 (NodesP.opK hx hk) fun A c0 A' c' gm _ => ?_
    refine walk ?_
    refine y_lookS hlk ?_
    refine walk ?_
    refine y_tn (NodesP.clK (l := l) x' (List.getElem?_eq_some_iff.1 hx).1 hk rfl) fun _ _ => ?_
    rw [set_same hx]
    exact (again (j, y, cs, .string (str c), .string (str (slashed cs))) (by simp) ⟨hy, hw, fun c' hc' => hs c' (by simp [hc']), by dsimp only; omega⟩).to rfl rfl
theorem lookup_fn (s : Ws) (l : List Nd) (nm q c : List UInt8) (cs : List (List UInt8)) (i k : Nat) (x z : Nd) (ks : List (List UInt8 × Nat)) (b : Bool)
    (hx : l[i]? = some x) (hz : l[k]? = some z) (hg : getI s.ids 2 = some x.g) (hl : s.ids.length < 1000000000) (hnl : nm.length ≤ 100000000) (hnd : noDots nm.length nm) (hcl : clN nm.length nm [47] = 47 :: q) (hq : q.length ≤ 100000000) (hdir : dirP q = slashed cs) (hbase : baseP q = c)
    (hc1 : 1 ≤ c.length) (hc2 : c.length ≤ 255) (hs : ∀ c ∈ cs, 47 ∉ c) (hw : Way l i cs k) (hk : z.kids = some ks) (hm : z.mode &&& 61440 = 16384) (hm2 : z.mode < 65536) (o : Option Nat) (ho : lookV (look (kidE ks) (str c)) (.pointer none) = optV o) (hb : b = true → o ≠ none) :
    Fd Tryz.prog 92 #[ptrV s.wg, .string (str nm), .bool b] [WP s, NodesP l] (.tuple #[ptrV z.g, optV o, .string (str c), .nilIface]) [WP s, NodesP l] := by
  have hr := root_fn s hl
  rw [hg] at hr
  have hcl' := clean_fn nm hnl hnd
  rw [hcl] at hcl'
  have hsp := split_fn q (by omega)
  rw [hdir, hbase] at hsp
  have hsl : (slashed cs).length ≤ 1000000000 := by
    have := congrArg List.length (dir_base q)
    rw [List.length_append, hdir] at this; omega
  have hqp : q.length ≠ 0 := by
    have := congrArg List.length (dir_base q)
    rw [List.length_append, hbase] at this; omega
  have hq1 : (List.drop 1 (47 :: q)).length ≠ 0 := hqp
  have hf := findPath_fn s.wg l i k cs x z hx hz hw hs hsl
  have hd := isDir_fn z.g z.mode (NodesP l) hm2 (NodesP.cell hz 6 _ fun _ => rfl)
  rw [hm] at hd
  refine fn_of_E' (args := [_, _, _]) 16 _ [_, _, _, undef, undef, undef, undef, undef, undef, undef, undef, undef, undef, undef, undef, undef] Tryz.func92 rfl Tryz.ntmps92 ?_
  refine walk ?_
  refine y_callq rfl rfl hr ?_
  refine walk ?_
  refine y_callD rfl rfl hcl' ?_
  refine walk ?_
  refine y_callq rfl rfl hsp ?_
  refine walk ?_
  refine y_callq rfl rfl hf ?_
  refine walk ?_
  refine y_callq rfl rfl hd ?_
  refine walk ?_
  refine y_tno5 (NodesP.opK hz hk) fun A c0 A' c' gm _ => ?_
  refine walk ?_
  refine y_lookV ho ?_
  have hbo : b = false ∨ ∃ a, o = some a := by
    cases b with
    | false => exact .inl rfl
    | true => cases o with
      | none => exact absurd rfl (hb rfl)
      | some a => exact .inr ⟨a, rfl⟩
  clear ho hb
  rcases hbo with rfl | ⟨a, rfl⟩
  · cases o with
    | none =>
      refine walk ?_
      refine y_tn (NodesP.clK (l := l) z (List.getElem?_eq_some_iff.1 hz).1 hk rfl) fun _ _ => ?_
      rw [set_same hz]
      exact y_ret [6, 7, 8, 9] rfl ⟨rfl, rfl⟩
    | some a =>
      refine walk ?_
      refine y_tn (NodesP.clK (l := l) z (List.getElem?_eq_some_iff.1 hz).1 hk rfl) fun _ _ => ?_
      rw [set_same hz]
      exact y_ret [6, 7, 8, 9] rfl ⟨rfl, rfl⟩
  · refine walk ?_
    refine y_tn (NodesP.clK (l := l) z (List.getElem?_eq_some_iff.1 hz).1 hk rfl) fun _ _ => ?_
    rw [set_same hz]
    exact y_ret [6, 7, 8, 9] rfl ⟨rfl, rfl⟩
end Go.Proofs.YtppkiiomedembaaGreatDoor
namespace Go.Proofs.YtppkiiomedembaaGreatDoor
open Go
set_option maxRecDepth 100000
set_option maxHeartbeats 4000000
attribute [local irreducible] E EO
def leN : List UInt8 → Nat
  | [] => 0
  | b :: r => b.toNat + 256 * leN r
theorem leN_lt : ∀ (l : List UInt8), leN l < 256 ^ l.length
  | [] => by simp [leN]
  | b :: r => by
    have := leN_lt r
    have hb := b.toNat_lt
    simp only [leN, List.length_cons, Nat.pow_succ]
    omega
theorem or_shift (a b : Nat) (k : Nat) (h : a < 2 ^ k) : a ||| b * 2 ^ k = a + b * 2 ^ k := by
  have := Nat.two_pow_add_eq_or_of_lt h b
  rw [Nat.mul_comm b, Nat.or_comm, ← this, Nat.add_comm]
theorem get32_fn (V : Option Addr) (g o n c : Nat) (M : HP) (a b d e : UInt8) (hr : CellRow [M] g o (enc [a, b, d, e])) (hn : 4 ≤ n) :
    Qn Tryz.prog 158 #[.slice (some ⟨g, o, none⟩) n c] [M] (.int .u32 ((leN [a, b, d, e] : Nat) : Int)) := by
  have ha := a.toNat_lt
  have hb := b.toNat_lt
  have hd := d.toNat_lt
  have he := e.toNat_lt
  have h1 : a.toNat ||| b.toNat * 2 ^ 8 = a.toNat + b.toNat * 2 ^ 8 := or_shift _ _ 8 (by omega)
  have h2 : a.toNat ||| b.toNat * 2 ^ 8 ||| d.toNat * 2 ^ 16 = a.toNat + b.toNat * 2 ^ 8 + d.toNat * 2 ^ 16 := by rw [h1]; exact or_shift _ _ 16 (by omega)
  have h3 : a.toNat ||| b.toNat * 2 ^ 8 ||| d.toNat * 2 ^ 16 ||| e.toNat * 2 ^ 24 = a.toNat + b.toNat * 2 ^ 8 + d.toNat * 2 ^ 16 + e.toNat * 2 ^ 24 := by rw [h2]; exact or_shift _ _ 24 (by omega)
  have o1 : a.toNat ||| b.toNat * 2 ^ 8 < 4294967296 := by rw [h1]; omega
  have o2 : a.toNat ||| b.toNat * 2 ^ 8 ||| d.toNat * 2 ^ 16 < 4294967296 := by rw [h2]; omega
  refine fn_of_E' (args := [_]) 3 _ [_, undef, undef] Tryz.func158 rfl Tryz.ntmps158 ?_
  refine walk ?_
  refine y_loadC (hr 0 (.int .u8 (a.toNat : Int)) rfl) ?_
  refine walk ?_
  refine y_loadC (hr 1 (.int .u8 (b.toNat : Int)) rfl) ?_
  refine walk ?_
  refine y_loadC (hr 2 (.int .u8 (d.toNat : Int)) rfl) ?_
  refine walk ?_
  refine y_loadC (hr 3 (.int .u8 (e.toNat : Int)) rfl) ?_
  refine walk ?_
  refine y_ret [2] rfl ?_
  simp only [packV, h3, leN]
  congr 2
  omega
def hName (h : Nat) : List UInt8 → Nat
  | [] => h
  | b :: r => hName (h * 2 ^ 5 % 4294967296 ^^^ h / 2 ^ 27 ^^^ b.toNat) r
def hWord (h w : Nat) : Nat := h * 2 ^ 16 % 4294967296 ^^^ h / 2 ^ 16 ^^^ w
def hVal : Nat → Nat → List UInt8 → Nat
  | 0, h, _ => h
  | n + 1, h, v => hVal n (hWord h (leN (v.take 4))) (v.drop 4)
def hashX (name v : List UInt8) : Nat := hVal ((v.length + 3) / 4) (hName 0 name) v
theorem xor_lt32 {a b : Nat} (h : a < 4294967296) (h' : b < 4294967296) : a ^^^ b < 4294967296 := Nat.xor_lt_two_pow (n := 32) h h'
theorem hName_lt : ∀ (l : List UInt8) (h : Nat), h < 4294967296 → hName h l < 4294967296
  | [], h, hh => hh
  | b :: r, h, hh => by
    have hb := b.toNat_lt
    exact hName_lt r _ (xor_lt32 (xor_lt32 (by omega) (by omega)) (by omega))
theorem hWord_lt {h w : Nat} (hh : h < 4294967296) (hw : w < 4294967296) : hWord h w < 4294967296 := xor_lt32 (xor_lt32 (by omega) (by omega)) hw
theorem leN4_lt (v : List UInt8) : leN (v.take 4) < 4294967296 := by
  have h1 := leN_lt (v.take 4)
  have h2 : (v.take 4).length ≤ 4 := by simp; omega
  exact Nat.lt_of_lt_of_le h1 (Nat.pow_le_pow_right (by decide) h2 : 256 ^ (v.take 4).length ≤ 256 ^ 4)
theorem hVal_lt : ∀ (n h : Nat) (v : List UInt8), h < 4294967296 → hVal n h v < 4294967296
  | 0, h, _, hh => hh
  | n + 1, h, v, hh => hVal_lt n _ _ (hWord_lt hh (leN4_lt v))
theorem hName_app : ∀ (a b : List UInt8) (h : Nat), hName h (a ++ b) = hName (hName h a) b
  | [], _, _ => rfl
  | x :: a, b, h => hName_app a b _
theorem hVal_add : ∀ (m n h : Nat) (v : List UInt8), hVal (m + n) h v = hVal n (hVal m h v) (v.drop (4 * m))
  | 0, n, h, v => by simp [hVal]
  | m + 1, n, h, v => by
    rw [show m + 1 + n = (m + n) + 1 by omega]
    simp only [hVal]
    rw [hVal_add m n, List.drop_drop, show 4 + 4 * m = 4 * (m + 1) by omega]
theorem hash_fn (name v : List UInt8) (V : Option Addr) (m c : Nat) (M : HP) (hr : Rd [M] V m 1 (enc v)) (hm : v.length = m) (hn : name.length ≤ 1000) (hml : m ≤ 1000000) (hcm : m ≤ c) :
    Fd Tryz.prog 201 #[.string (str name), .slice V m c] [M] (.int .u32 ((hashX name v : Nat) : Int)) [M] := by
  refine fn_of_E' (args := [_, _]) 9 _ [_, _, undef, undef, undef, undef, undef, undef, undef] Tryz.func201 rfl Tryz.ntmps201 ?_
  refine walk ?_
  refine e_rounds (ι := Nat) (fun q => name.length - q) (fun q => [.string (str name), .slice V m c, undef, undef, .int .u32 0, .int .u32 ((hName 0 (name.take q) : Nat) : Int), .int .i64 (q : Int), undef, undef]) (fun _ => [M]) (fun q => q ≤ name.length) 0 (Nat.zero_le _) rfl (List.Perm.refl _) ?_
  intro q hq again
  have hh := hName_lt (name.take q) 0 (by omega)
  by_cases hlt : q < name.length
  · obtain ⟨b, hb⟩ : ∃ b, name[q]? = some b := ⟨_, List.getElem?_eq_getElem hlt⟩
    have hb8 := b.toNat_lt
    have e : hName 0 (name.take (q + 1)) = hName 0 (name.take q) * 2 ^ 5 % 4294967296 ^^^ hName 0 (name.take q) / 2 ^ 27 ^^^ b.toNat := by
      rw [List.take_add_one, hb, hName_app]; rfl
    have hx1 : hName 0 (name.take q) * 2 ^ 5 % 4294967296 ^^^ hName 0 (name.take q) / 2 ^ 27 < 4294967296 := xor_lt32 (by omega) (by omega)
    refine walk ?_
    exact (again (q + 1) (by omega) (by omega)).to (by rw [e]) rfl
  · have hql : q = name.length := by omega
    subst hql
    rw [List.take_length] at hh ⊢
    refine walk ?_
    refine e_rounds (ι := Nat) (fun q => m - q) (fun q => [.string (str name), .slice V m c, undef, undef, .int .u32 0, .int .u32 ((hVal q (hName 0 name) v : Nat) : Int), .int .i64 (name.length : Int), .int .i64 ((4 * q : Nat) : Int), undef]) (fun _ => [M]) (fun q => 4 * q ≤ m) 0 (Nat.zero_le _) rfl (List.Perm.refl _) ?_
    intro q hq again
    have hv := hVal_lt q (hName 0 name) v hh
    have hsucc : hVal (q + 1) (hName 0 name) v = hWord (hVal q (hName 0 name) v) (leN ((v.drop (4 * q)).take 4)) := by
      rw [hVal_add]; rfl
    have hw4 := leN4_lt (v.drop (4 * q))
    have hx1 : hVal q (hName 0 name) v * 2 ^ 16 % 4294967296 ^^^ hVal q (hName 0 name) v / 2 ^ 16 < 4294967296 := xor_lt32 (by omega) (by omega)
    by_cases hlt : 4 * q + 3 < m
    · obtain ⟨g, o, rfl, hrow⟩ : ∃ g o, V = some ⟨g, o, none⟩ ∧ CellRow [M] g o (enc v) := by
        rcases hr.2 with h0 | h1
        · omega
        · exact h1
      have hd4 : ∃ a b d e : UInt8, (v.drop (4 * q)).take 4 = [a, b, d, e] ∧ v.drop (4 * q) = a :: b :: d :: e :: v.drop (4 * q + 4) := by
        have hlen : (v.drop (4 * q)).length = m - 4 * q := by simp [hm]
        match h : v.drop (4 * q) with
        | [] => rw [h] at hlen; simp at hlen; omega
        | [a] => rw [h] at hlen; simp at hlen; omega
        | [a, b] => rw [h] at hlen; simp at hlen; omega
        | [a, b, d] => rw [h] at hlen; simp at hlen; omega
        | a :: b :: d :: e :: r =>
          refine ⟨a, b, d, e, rfl, ?_⟩
          have : v.drop (4 * q + 4) = (v.drop (4 * q)).drop 4 := by rw [List.drop_drop]
          rw [this, h]; rfl
      obtain ⟨a, b, d, e, h4, hd⟩ := hd4
      have hrow4 : CellRow [M] g (o + 4 * q * 1) (enc [a, b, d, e]) := by
        intro j u hj
        have hj4 : j < 4 := by have := (List.getElem?_eq_some_iff.1 hj).1; simpa [enc] using this
        have h5 : (enc v)[4 * q + j]? = some u := by
          have : (enc v)[4 * q + j]? = (enc (v.drop (4 * q)))[j]? := by rw [enc_drop, List.getElem?_drop]
          rw [this, hd]
          rw [show enc (a :: b :: d :: e :: v.drop (4 * q + 4)) = enc [a, b, d, e] ++ enc (v.drop (4 * q + 4)) by simp [enc], List.getElem?_append_left (by rw [enc_len]; exact hj4), hj]
        have := hrow (4 * q + j) u h5
        rw [show o + 4 * q * 1 + j = o + (4 * q + j) by omega]
        exact this
      refine walk ?_
      refine y_callq rfl rfl (get32_fn none g (o + 4 * q * 1) _ _ M a b d e hrow4 (by omega)) ?_
      rw [h4] at hw4
      refine walk ?_
      exact (again (q + 1) (by omega) (by omega)).to (by rw [hsucc, h4]; simp only [hWord]; rfl) rfl
    · by_cases h0 : m % 4 = 0
      · have hqe : (m + 3) / 4 = q := by omega
        refine walk ?_
        refine y_ret [4] rfl ⟨?_, rfl⟩
        simp only [packV, hashX, hm, hqe]
      · have hqe : (m + 3) / 4 = q + 1 := by omega
        have hq4 : m / 4 * 4 = 4 * q := by omega
        obtain ⟨g, o, rfl, hrow⟩ : ∃ g o, V = some ⟨g, o, none⟩ ∧ CellRow [M] g o (enc v) := by
          rcases hr.2 with h0 | h1
          · omega
          · exact h1
        have hrt : Rd [M] (some ⟨g, o + m / 4 * 4 * 1, none⟩) (m - m / 4 * 4) 1 (enc (v.drop (4 * q))) := by
          refine ⟨by simp [enc_len, hm]; omega, .inr ⟨_, _, rfl, fun j u hj => ?_⟩⟩
          have h5 : (enc v)[4 * q + j]? = some u := by rw [← hj, enc_drop, List.getElem?_drop]
          have := hrow (4 * q + j) u h5
          rw [show o + m / 4 * 4 * 1 + j = o + (4 * q + j) by omega]
          exact this
        have hlen : (v.drop (4 * q)).length = m - 4 * q := by simp [hm]
        have h3 : m - 4 * q = 1 ∨ m - 4 * q = 2 ∨ m - 4 * q = 3 := by omega
        refine walk ?_
        refine y_alloc fun ga => ?_
        have ht := (rfl : v.drop (4 * q) = v.drop (4 * q))
        revert ht hrt hlen
        generalize v.drop (4 * q) = tl at hsucc hw4
        intro hrt hlen ht
        match tl, hlen with
        | [], hlen => simp at hlen; omega
        | [a], hlen =>
          have hx4 : leN [a, 0, 0, 0] < 4294967296 := by have := leN_lt [a, 0, 0, 0]; simpa using this
          have he : leN [a, 0, 0, 0] = leN (List.take 4 [a]) := by simp [leN]
          refine walk ?_
          refine x_copy (news := enc [a]) rfl rfl (hrt.there _) enc_one (show PutR _ ga 0 _ [Cells ga 227 (enc [a, 0, 0, 0]), M] from PutR.cells (by simp [enc])) pt_ ?_
          refine walk ?_
          refine y_callq rfl rfl (get32_fn none ga 0 4 4 _ a 0 0 0 CellRow.here (by omega)) ?_
          refine walk ?_
          refine y_ret [4] rfl ⟨?_, rfl⟩
          simp only [packV, hashX, hm, hqe, hsucc, hWord, he]
        | [a, b], hlen =>
          have hx4 : leN [a, b, 0, 0] < 4294967296 := by have := leN_lt [a, b, 0, 0]; simpa using this
          have he : leN [a, b, 0, 0] = leN (List.take 4 [a, b]) := by simp [leN]
          refine walk ?_
          refine x_copy (news := enc [a, b]) rfl rfl (hrt.there _) enc_one (show PutR _ ga 0 _ [Cells ga 227 (enc [a, b, 0, 0]), M] from PutR.cells (by simp [enc])) pt_ ?_
          refine walk ?_
          refine y_callq rfl rfl (get32_fn none ga 0 4 4 _ a b 0 0 CellRow.here (by omega)) ?_
          refine walk ?_
          refine y_ret [4] rfl ⟨?_, rfl⟩
          simp only [packV, hashX, hm, hqe, hsucc, hWord, he]
        | [a, b, d], hlen =>
          have hx4 : leN [a, b, d, 0] < 4294967296 := by have := leN_lt [a, b, d, 0]; simpa using this
          have he : leN [a, b, d, 0] = leN (List.take 4 [a, b, d]) := by simp [leN]
          refine walk ?_
          refine x_copy (news := enc [a, b, d]) rfl rfl (hrt.there _) enc_one (show PutR _ ga 0 _ [Cells ga 227 (enc [a, b, d, 0]), M] from PutR.cells (by simp [enc])) pt_ ?_
          refine walk ?_
          refine y_callq rfl rfl (get32_fn none ga 0 4 4 _ a b d 0 CellRow.here (by omega)) ?_
          refine walk ?_
          refine y_ret [4] rfl ⟨?_, rfl⟩
          simp only [packV, hashX, hm, hqe, hsucc, hWord, he]
        | a :: b :: d :: e :: r, hlen => simp at hlen; omega
end Go.Proofs.YtppkiiomedembaaGreatDoor
namespace Go.Proofs.YtppkiiomedembaaGreatDoor
open Go
set_option maxRecDepth 100000
set_option maxHeartbeats 4000000
attribute [local irreducible] E EO
theorem entryLen_fn (gx : Nat) (nm : List UInt8) (ix V : Value) (h : nm.length ≤ 1000) : Qn Tryz.prog 160 #[ptrV gx] [Cells gx 275 [.string (str nm), ix, V]] (.int .i64 (((nm.length + 3) / 4 * 4 + 16 : Nat) : Int)) := by
  refine fn_of_E' (args := [_]) 3 _ [_, undef, undef] Tryz.func160 rfl Tryz.ntmps160 ?_
  refine walk ?_
  exact y_ret [2] rfl rfl
theorem valueLen_fn (gx : Nat) (nm ix : Value) (V : Option Addr) (m c : Nat) (h : m ≤ 1000000) : Qn Tryz.prog 192 #[ptrV gx] [Cells gx 275 [nm, ix, .slice V m c]] (.int .i64 (((m + 3) / 4 * 4 : Nat) : Int)) := by
  refine fn_of_E' (args := [_]) 3 _ [_, undef, undef] Tryz.func192 rfl Tryz.ntmps192 ?_
  refine walk ?_
  exact y_ret [2] rfl rfl
def pat (b : List UInt8) (o : Nat) (us : List UInt8) : List UInt8 := b.take o ++ us ++ b.drop (o + us.length)
theorem pat_len (b : List UInt8) (o : Nat) (us : List UInt8) (h : o + us.length ≤ b.length) : (pat b o us).length = b.length := by simp [pat]; omega
theorem ovw_pat {b us : List UInt8} {p : Nat} {o : Nat} (h : p = o) : ovw (enc b) p (enc us) = enc (pat b o us) := by subst h; rw [ovw_enc' rfl]; rfl
theorem pat_pat (b : List UInt8) (o : Nat) (us : List UInt8) (x : UInt8) (h : o + us.length < b.length) : pat (pat b o us) (o + us.length) [x] = pat b o (us ++ [x]) := by
  unfold pat
  have h1 : (b.take o ++ us).length = o + us.length := by simp; omega
  rw [List.take_append_of_le_length (by omega), ← h1, List.take_length, List.drop_append, h1]
  have h2 : List.drop (o + us.length + [x].length) (List.take o b ++ us) = [] := List.drop_of_length_le (by simp; omega)
  have h3 : o + us.length + [x].length - (o + us.length) = 1 := by simp
  have h4 : o + (us ++ [x]).length = o + us.length + 1 := by simp; omega
  rw [h2, h3, h4, List.nil_append, List.drop_drop, List.append_assoc (List.take o b)]
section
variable {X : Fx} {ops : Array Oper} {cf : Nat → Cls} {k : List Item} {i : Nat} {is : List Nat} {l : List Oper} {loc : List Value} {tmp : List (Nat × Value)} {L F : List HP}
  {ty : TypeId} {pos : String} {aft : Array Edge} {gd : Option (Nat × Bool)}
theorem PutR.of_take {L F : List HP} {g p C e N o : Nat} {b us : List UInt8} (ht : Take (Own (some ⟨g, 0, none⟩) C e 1 N (enc b)) L F) (hp : p = o) (ho : o + us.length ≤ b.length) :
    ∃ L', PutR L g p (enc us) L' ∧ L'.Perm (Own (some ⟨g, 0, none⟩) C e 1 N (enc (pat b o us)) :: F) := by
  induction ht with
  | here =>
    exact ⟨_, .own (by rw [enc_len, enc_len]; omega), by rw [ovw_pat hp]⟩
  | there _ ih =>
    obtain ⟨L', h1, h2⟩ := ih
    exact ⟨_, .there h1, (h2.cons _).trans (List.Perm.swap _ _ _)⟩
theorem y_storeB {T g p o C e N x : Nat} {a y : Operand} {b : List UInt8} [OneCell X.P T] (hx8 : x < 256) (h : EO X ops cf k is l loc tmp (Own (some ⟨g, 0, none⟩) C e 1 N (enc (pat b o [UInt8.ofNat x])) :: F))
    (hx : sv loc tmp a = some (.pointer (some ⟨g, p, none⟩)) := by rfl) (hy : sv loc tmp y = some (.int .u8 (x : Int)) := by rfl) (ht : Take (Own (some ⟨g, 0, none⟩) C e 1 N (enc b)) L F := by exact take_) (hp : p = o := by omega) (ho : o < b.length := by omega)
    (hg : gdv ops loc tmp gd = some true := by rfl) (hcl : cf i = .any := by rfl) (hq : X.q = false := by rfl) : EO X ops cf k (i :: is) (⟨none, .store T a y, ty, pos, aft, gd⟩ :: l) loc tmp L := by
  obtain ⟨L', h1, h2⟩ := PutR.of_take ht hp (us := [UInt8.ofNat x]) (by simp; omega)
  have e1 : enc [UInt8.ofNat x] = [.int .u8 (x : Int)] := by simp [enc, Nat.mod_eq_of_lt hx8]
  rw [e1] at h1
  exact x_storeR hx hy rfl h1 (EO.perm h2 h) hg hcl hq
theorem y_copyB {t t' e g p o dn dc m c C N : Nat} {d : Option Tmp} {loc' : List Value} {tmp' : List (Nat × Value)} {x y : Operand} {B : Option Addr} {b us : List UInt8} [SlTy X.P t 5 1] (hr : Rd L B m 1 (enc us)) (hm : us.length = m)
    (h : EO X ops cf k is l loc' tmp' (Own (some ⟨g, 0, none⟩) C e 1 N (enc (pat b o us)) :: F))
    (hx : sv loc tmp x = some (.slice (some ⟨g, p, none⟩) dn dc) := by rfl) (hy : sv loc tmp y = some (.slice B m c) := by rfl) (ht : Take (Own (some ⟨g, 0, none⟩) C e 1 N (enc b)) L F := by exact take_) (hp : p = o := by omega) (hpt : Pt loc tmp d (.int .i64 (m : Nat)) loc' tmp' := by exact pt_) (ho : o + m ≤ b.length := by omega) (hdn : m ≤ dn := by omega)
    (hg : gdv ops loc tmp gd = some true := by rfl) (hd : dOK X.n d = true := by rfl) (hcl : cf i = .any := by rfl) (hq : X.q = false := by rfl) :
    EO X ops cf k (i :: is) (⟨d, .call ⟨.builtin .copy, #[x, y], #[t, t']⟩, ty, pos, aft, gd⟩ :: l) loc tmp L := by
  obtain ⟨L', h1, h2⟩ := PutR.of_take ht hp (us := us) (by omega)
  have e1 : (enc us).take dn = enc us := List.take_of_length_le (by rw [enc_len]; omega)
  exact x_copy hx hy hr enc_one (by rw [e1]; exact h1) (by rw [Nat.min_eq_left hdn]; exact hpt) (EO.perm h2 h) hg hd hcl hq
theorem y_copyT {t t' e g p o dn dc C N : Nat} {d : Option Tmp} {loc' : List Value} {tmp' : List (Nat × Value)} {x y : Operand} {b us : List UInt8} [SlTy X.P t 5 1]
    (h : EO X ops cf k is l loc' tmp' (Own (some ⟨g, 0, none⟩) C e 1 N (enc (pat b o us)) :: F))
    (hx : sv loc tmp x = some (.slice (some ⟨g, p, none⟩) dn dc) := by rfl) (hy : sv loc tmp y = some (.string (str us)) := by rfl) (ht : Take (Own (some ⟨g, 0, none⟩) C e 1 N (enc b)) L F := by exact take_) (hp : p = o := by omega) (hpt : Pt loc tmp d (.int .i64 (us.length : Nat)) loc' tmp' := by exact pt_) (ho : o + us.length ≤ b.length := by omega) (hdn : us.length ≤ dn := by omega)
    (hg : gdv ops loc tmp gd = some true := by rfl) (hd : dOK X.n d = true := by rfl) (hcl : cf i = .any := by rfl) (hq : X.q = false := by rfl) :
    EO X ops cf k (i :: is) (⟨d, .call ⟨.builtin .copy, #[x, y], #[t, t']⟩, ty, pos, aft, gd⟩ :: l) loc tmp L := by
  obtain ⟨L', h1, h2⟩ := PutR.of_take ht hp (us := us) ho
  have e1 : us.take dn = us := List.take_of_length_le hdn
  exact x_copyS hx hy (by rw [e1]; exact h1) (by rw [Nat.min_eq_left hdn]; exact hpt) (EO.perm h2 h) hg hd hcl hq
end
theorem ofNat_m (x : Nat) : UInt8.ofNat (x % 256) = UInt8.ofNat x := by apply UInt8.toNat_inj.1; simp
theorem c16_fn (g C N o n c : Nat) (x : Nat) (b : List UInt8) (hN : b.length = N) (hn : 2 ≤ n) (ho : o + 2 ≤ N) (hx : x < 65536) :
    Fd Tryz.prog 200 #[.slice (some ⟨g, o, none⟩) n c, .int .u16 (x : Int)] [Own (some ⟨g, 0, none⟩) C 5 1 N (enc b)] (.tuple #[]) [Own (some ⟨g, 0, none⟩) C 5 1 N (enc (pat b o (leB 2 x)))] := by
  have l1 : (pat b o [UInt8.ofNat (x % 256)]).length = N := by rw [pat_len _ _ _ (by simp; omega), hN]
  have e1 := pat_pat b o [UInt8.ofNat (x % 256)] (UInt8.ofNat (x / 2 ^ 8)) (by simp; omega)
  refine fn_of_E' (args := [_, _]) 13 _ [_, _, undef, undef, undef, undef, undef, undef, undef, undef, undef, undef, undef] Tryz.func200 rfl Tryz.ntmps200 ?_
  refine walk ?_
  refine y_storeB (o := o) (x := x % 256) (by omega) ?_
  refine walk ?_
  refine y_storeB (o := o + 1) (x := x / 2 ^ 8) (by omega) ?_
  refine walk ?_
  have e2 : [UInt8.ofNat (x % 256)] ++ [UInt8.ofNat (x / 2 ^ 8)] = leB 2 x := by simp [leB, ofNat_m]
  simp only [List.length_cons, List.length_nil, Nat.zero_add] at e1
  rw [e1, e2]
  exact y_end [] rfl ⟨rfl, rfl⟩
theorem c32_fn (g C N o n c : Nat) (x : Nat) (b : List UInt8) (hN : b.length = N) (hn : 4 ≤ n) (ho : o + 4 ≤ N) (hx : x < 4294967296) :
    Fd Tryz.prog 170 #[.slice (some ⟨g, o, none⟩) n c, .int .u32 (x : Int)] [Own (some ⟨g, 0, none⟩) C 5 1 N (enc b)] (.tuple #[]) [Own (some ⟨g, 0, none⟩) C 5 1 N (enc (pat b o (leB 4 x)))] := by
  have e1 := pat_pat b o [UInt8.ofNat (x % 256)] (UInt8.ofNat (x / 2 ^ 8 % 256)) (by simp; omega)
  have e2 := pat_pat b o [UInt8.ofNat (x % 256), UInt8.ofNat (x / 2 ^ 8 % 256)] (UInt8.ofNat (x / 2 ^ 16 % 256)) (by simp; omega)
  have e3 := pat_pat b o [UInt8.ofNat (x % 256), UInt8.ofNat (x / 2 ^ 8 % 256), UInt8.ofNat (x / 2 ^ 16 % 256)] (UInt8.ofNat (x / 2 ^ 24)) (by simp; omega)
  simp only [List.length_cons, List.length_nil, Nat.zero_add, List.cons_append, List.nil_append] at e1 e2 e3
  have l1 : (pat b o [UInt8.ofNat (x % 256)]).length = N := by rw [pat_len _ _ _ (by simp; omega), hN]
  have l2 : (pat b o [UInt8.ofNat (x % 256), UInt8.ofNat (x / 2 ^ 8 % 256)]).length = N := by rw [pat_len _ _ _ (by simp; omega), hN]
  have l3 : (pat b o [UInt8.ofNat (x % 256), UInt8.ofNat (x / 2 ^ 8 % 256), UInt8.ofNat (x / 2 ^ 16 % 256)]).length = N := by rw [pat_len _ _ _ (by simp; omega), hN]
  have e4 : [UInt8.ofNat (x % 256), UInt8.ofNat (x / 2 ^ 8 % 256), UInt8.ofNat (x / 2 ^ 16 % 256), UInt8.ofNat (x / 2 ^ 24)] = leB 4 x := by simp [leB, ofNat_m, Nat.div_div_eq_div_mul]
  refine fn_of_E' (args := [_, _]) 23 _ [_, _, undef, undef, undef, undef, undef, undef, undef, undef, undef, undef, undef, undef, undef, undef, undef, undef, undef, undef, undef, undef, undef] Tryz.func170 rfl Tryz.ntmps170 ?_
  refine walk ?_
  refine y_storeB (o := o) (x := x % 256) (by omega) ?_
  refine walk ?_
  refine y_storeB (o := o + 1) (x := x / 2 ^ 8 % 256) (by omega) ?_
  rw [e1]
  refine walk ?_
  refine y_storeB (o := o + 2) (x := x / 2 ^ 16 % 256) (by omega) ?_
  rw [e2]
  refine walk ?_
  refine y_storeB (o := o + 3) (x := x / 2 ^ 24) (by omega) ?_
  rw [e3, e4]
  refine walk ?_
  exact y_end [] rfl ⟨rfl, rfl⟩
def putX (b nm v : List UInt8) : List UInt8 :=
  let off := 100 - (v.length + 3) / 4 * 4
  pat (pat (pat (pat (pat (pat (pat b 4 [UInt8.ofNat nm.length]) 5 [7]) 6 (leB 2 off)) 12 (leB 4 v.length)) 16 (leB 4 (hashX nm v))) 20 nm) (4 + off) v
theorem hashX_lt (nm v : List UInt8) : hashX nm v < 4294967296 := hVal_lt _ _ _ (hName_lt _ _ (by decide))
theorem CellRow.of_take {L F : List HP} {G : HP} {g o : Nat} {vs : List Value} (h : CellRow [G] g o vs) (ht : Take G L F) : CellRow L g o vs := fun j v hj m S hS => by
  obtain ⟨S1, S2, a, _⟩ := sats_perm ht.perm hS
  exact h j v hj m S1 (sats_one a)
theorem putG_fn (ga gb cb c0 cc : Nat) (G : HP) (V : Option Addr) (m c : Nat) (M : HP) (nm v b : List UInt8) (hG : CellRow [G] ga 0 [.string (str nm), .int .u8 7, .slice V m c]) (hcc : 100 ≤ cc) (hc0 : m = 0 → cc = 100) (hb : b.length = 104) (hnm : nm.length = 4) (hr : Rd [M] V m 1 (enc v)) (hm : v.length = m) (hm2 : m ≤ 76) (hcm : m ≤ c) :
    Fd Tryz.prog 169 #[.slice (some ⟨ga, 0, none⟩) 1 c0, .slice (some ⟨gb, 4, none⟩) 100 cc, .int .u16 0]
      [G, Own (some ⟨gb, 0, none⟩) cb 5 1 104 (enc b), M] (.tuple #[])
      [G, Own (some ⟨gb, 0, none⟩) cb 5 1 104 (enc (putX b nm v)), M] := by
  have hh := hashX_lt nm v
  obtain ⟨b1, h1, l1⟩ : ∃ x, x = pat b 4 [UInt8.ofNat nm.length] ∧ x.length = 104 := ⟨_, rfl, by rw [pat_len _ _ _ (by simp [leB_len]; omega), hb]⟩
  obtain ⟨b2, h2, l2⟩ : ∃ x, x = pat b1 5 [7] ∧ x.length = 104 := ⟨_, rfl, by rw [pat_len _ _ _ (by simp; omega), l1]⟩
  obtain ⟨b3, h3, l3⟩ : ∃ x, x = pat b2 6 (leB 2 (100 - (m + 3) / 4 * 4)) ∧ x.length = 104 := ⟨_, rfl, by rw [pat_len _ _ _ (by simp [leB_len]; omega), l2]⟩
  obtain ⟨b4, h4, l4⟩ : ∃ x, x = pat b3 12 (leB 4 m) ∧ x.length = 104 := ⟨_, rfl, by rw [pat_len _ _ _ (by simp [leB_len]; omega), l3]⟩
  obtain ⟨b5, h5, l5⟩ : ∃ x, x = pat b4 16 (leB 4 (hashX nm v)) ∧ x.length = 104 := ⟨_, rfl, by rw [pat_len _ _ _ (by simp [leB_len]; omega), l4]⟩
  obtain ⟨b6, h6, l6⟩ : ∃ x, x = pat b5 20 nm ∧ x.length = 104 := ⟨_, rfl, by rw [pat_len _ _ _ (by omega), l5]⟩
  obtain ⟨b7, h7, l7⟩ : ∃ x, x = pat b6 (4 + (100 - (m + 3) / 4 * 4)) v ∧ x.length = 104 := ⟨_, rfl, by rw [pat_len _ _ _ (by omega), l6]⟩
  have e : putX b nm v = b7 := by simp only [putX, h7, h6, h5, h4, h3, h2, h1, hm]
  refine fn_of_E' (args := [_, _, _]) 22 _ [_, _, _, undef, undef, undef, undef, undef, undef, undef, undef, undef, undef, undef, undef, undef, undef, undef, undef, undef, undef, undef] Tryz.func169 rfl Tryz.ntmps169 ?_
  refine walk ?_
  refine y_loop ?_
  refine walk ?_
  refine x_loadA (vs := [.string (str nm), .int .u8 7, .slice V m c]) rfl (hG.of_take take_) rfl pt_ ?_
  refine walk ?_
  refine y_alloc fun gx => ?_
  refine walk ?_
  refine y_callq rfl rfl (valueLen_fn gx _ _ V m c (by omega)) ?_
  refine walk ?_
  refine y_storeB (o := 4) (x := nm.length) (by omega) ?_
  rw [← h1]
  refine walk ?_
  refine y_storeB (o := 5) (x := 7) (by omega) ?_
  rw [show UInt8.ofNat 7 = 7 from rfl, ← h2]
  refine walk ?_
  refine y_callD rfl rfl (c16_fn gb cb 104 6 98 (cc - 2) (100 + 0 - (m + 3) / 4 * 4) b2 l2 (by omega) (by omega) (by omega)) ?_
  rw [Nat.add_zero, ← h3]
  refine walk ?_
  refine y_callD rfl rfl (c32_fn gb cb 104 12 92 (cc - 8) m b3 l3 (by omega) (by omega) (by omega)) ?_
  rw [← h4]
  refine walk ?_
  refine y_callD rfl rfl (hash_fn nm v V m c M hr hm (by omega) (by omega) hcm) ?_
  refine walk ?_
  refine y_callD rfl rfl (c32_fn gb cb 104 16 88 (cc - 12) (hashX nm v) b4 l4 (by omega) (by omega) hh) ?_
  rw [← h5]
  refine walk ?_
  refine y_copyT (o := 20) (us := nm) ?_
  rw [← h6]
  refine walk ?_
  refine y_callq rfl rfl (entryLen_fn gx nm _ _ (by omega)) ?_
  refine walk ?_
  by_cases h0 : m = 0
  · have hcc0 := hc0 h0
    subst h0 hcc0
    have hv : v = [] := List.length_eq_zero_iff.1 hm
    have e6 : b7 = b6 := by rw [h7, hv]; simp [pat]
    refine x_slLoE rfl rfl NatV.h (by omega) (by omega) pt_ ?_
    refine walk ?_
    refine x_copy (news := []) rfl rfl ⟨rfl, .inl rfl⟩ (by simp) (.own (by simp [enc_len, l6])) pt_ ?_
    refine walk ?_
    refine y_again ?_
    refine walk ?_
    rw [e, e6, show ovw (enc b6) 4 (List.take (100 - (100 - (0 + 3) / 4 * 4)) []) = enc b6 by simp [ovw]]
    exact y_end [] rfl ⟨rfl, rfl⟩
  · refine walk ?_
    refine y_copyB (o := 4 + (100 - (m + 3) / 4 * 4)) (hr.take take_) hm ?_
    rw [← h7]
    refine walk ?_
    refine y_again ?_
    refine walk ?_
    rw [e]
    exact y_end [] rfl ⟨rfl, rfl⟩
theorem putX_fn (ga ca gb cb c0 : Nat) (V : Option Addr) (m c : Nat) (M : HP) (nm v b : List UInt8) (hb : b.length = 104) (hnm : nm.length = 4) (hr : Rd [M] V m 1 (enc v)) (hm : v.length = m) (hm2 : m ≤ 76) (hcm : m ≤ c) :
    Fd Tryz.prog 169 #[.slice (some ⟨ga, 0, none⟩) 1 c0, .slice (some ⟨gb, 4, none⟩) 100 100, .int .u16 0]
      [Own (some ⟨ga, 0, none⟩) ca 275 3 1 [.string (str nm), .int .u8 7, .slice V m c], Own (some ⟨gb, 0, none⟩) cb 5 1 104 (enc b), M] (.tuple #[])
      [Own (some ⟨ga, 0, none⟩) ca 275 3 1 [.string (str nm), .int .u8 7, .slice V m c], Own (some ⟨gb, 0, none⟩) cb 5 1 104 (enc (putX b nm v)), M] :=
  putG_fn ga gb cb c0 100 _ V m c M nm v b CellRow.own (Nat.le_refl _) (fun _ => rfl) hb hnm hr hm hm2 hcm
def pfx : List Value := [.int .u8 2, .string (str [115, 121, 115, 116, 101, 109, 46, 112, 111, 115, 105, 120, 95, 97, 99, 108, 95, 97, 99, 99, 101, 115, 115]), .int .u8 3, .string (str [115, 121, 115, 116, 101, 109, 46, 112, 111, 115, 105, 120, 95, 97, 99, 108, 95, 100, 101, 102, 97, 117, 108, 116]),
  .int .u8 8, .string (str [115, 121, 115, 116, 101, 109, 46, 114, 105, 99, 104, 97, 99, 108]), .int .u8 7, .string (str [115, 121, 115, 116, 101, 109, 46]), .int .u8 1, .string (str [117, 115, 101, 114, 46]), .int .u8 4, .string (str [116, 114, 117, 115, 116, 101, 100, 46]),
  .int .u8 6, .string (str [115, 101, 99, 117, 114, 105, 116, 121, 46])]
def PfxP (G : HP) : Prop := CellRow [G] 11 0 pfx
theorem hasPrefix_fn (s p : List UInt8) (b : Bool) (hb : Lib.hasPrefix s p = b) : Qn Tryz.prog 72 #[.string (str s), .string (str p)] [] (.bool b) := by
  have h := qn_of_calls (L := []) (Tryz.strings_HasPrefix (str s) (str p))
  rw [str_data, str_data, hb] at h
  exact h
abbrev sysData : List UInt8 := [115, 121, 115, 116, 101, 109, 46, 100, 97, 116, 97]
theorem compress_fn (G : HP) (hG : PfxP G) : Fd Tryz.prog 191 #[.string (str sysData)] [G] (.tuple #[.int .u8 7, .string (str [100, 97, 116, 97])]) [G] := by
  refine fn_of_E' (args := [_]) 8 _ [_, undef, undef, undef, undef, undef, undef, undef] Tryz.func191 rfl Tryz.ntmps191 ?_
  refine walk ?_
  refine x_loadA (vs := pfx) rfl (CellRow.of_take hG take_) rfl pt_ ?_
  refine walk ?_
  refine y_loop ?_
  refine walk ?_
  refine y_alloc fun gp => ?_
  refine walk ?_
  refine y_callq rfl rfl (hasPrefix_fn sysData [115, 121, 115, 116, 101, 109, 46, 112, 111, 115, 105, 120, 95, 97, 99, 108, 95, 97, 99, 99, 101, 115, 115] false (by decide)) ?_
  refine walk ?_
  refine y_again ?_
  refine walk ?_
  refine y_alloc fun gp => ?_
  refine walk ?_
  refine y_callq rfl rfl (hasPrefix_fn sysData [115, 121, 115, 116, 101, 109, 46, 112, 111, 115, 105, 120, 95, 97, 99, 108, 95, 100, 101, 102, 97, 117, 108, 116] false (by decide)) ?_
  refine walk ?_
  refine y_again ?_
  refine walk ?_
  refine y_alloc fun gp => ?_
  refine walk ?_
  refine y_callq rfl rfl (hasPrefix_fn sysData [115, 121, 115, 116, 101, 109, 46, 114, 105, 99, 104, 97, 99, 108] false (by decide)) ?_
  refine walk ?_
  refine y_again ?_
  refine walk ?_
  refine y_alloc fun gp => ?_
  refine walk ?_
  refine y_callq rfl rfl (hasPrefix_fn sysData [115, 121, 115, 116, 101, 109, 46] true (by decide)) ?_
  refine walk ?_
  exact y_ret [2, 3] rfl ⟨rfl, rfl⟩
theorem xinit_fn (gx : Nat) (A0 A1 V0 V1 : Value) : Fd Tryz.prog 154 #[ptrV gx] [Cells gx 267 [A0, A1, V0, V1]] (.tuple #[]) [Cells gx 267 [A0, A1, .int .i64 96, .int .i64 4060]] := by
  refine fn_of_E' (args := [_]) 2 _ [_, undef] Tryz.func154 rfl Tryz.ntmps154 ?_
  refine walk ?_
  exact y_end [] rfl ⟨rfl, rfl⟩
theorem setR_app : ∀ (us z a : List Value), z.length = us.length → SetR (a ++ z) a.length us (a ++ us)
  | [], z, a, h => by
    have : z = [] := List.length_eq_zero_iff.1 h
    subst this; exact .nil
  | u :: us, z :: zs, a, h => by
    have ih := setR_app us zs (a ++ [u]) (by simpa using h)
    refine .cons (SetL.app a) ?_
    simpa [List.append_assoc] using ih
theorem fill_one {n : Nat} (z us : List Value) (hz : z.length = n) (hu : us.length = n) (hpos : 0 < n) : Instr.fill (fun i => some (i * n, n)) ((Array.range (1 * n)).map (z.toArray[· % z.length]!)) [(0, .agg us.toArray)] = some us.toArray := by
  have e : (Array.range (1 * n)).map (z.toArray[· % z.length]!) = z.toArray := by
    apply Array.ext
    · simp [hz]
    · intro i h1 h2
      have h3 : i < z.length := by simpa using h2
      simp [Nat.mod_eq_of_lt h3, getElem!_pos, h3]
  rw [e]
  refine Bld.fill (pl := [(0, n)]) (fun i x hx => ?_) (.agg rfl (by simp [hu]) (by simp [hu, hpos]) (by simpa using setR_app us z [] (by omega)) .nil)
  match i with
  | 0 => simp at hx; subst hx; simp
  | i + 1 => simp at hx
theorem addX_fn (gx m c : Nat) (V : Option Addr) (G : HP) (hG : PfxP G) (hm : m ≤ 76) :
    Fe Tryz.prog 155 #[ptrV gx, .string (str sysData), .slice V m c] [Cells gx 267 [.slice none 0 0, .slice none 0 0, .int .i64 96, .int .i64 4060], G] (fun _ : Nat × Nat => True) (fun _ => .bool true)
      (fun i => [Cells gx 267 [.slice (some ⟨i.1, 0, none⟩) 1 i.2, .slice none 0 0, .int .i64 ((96 - (20 + (m + 3) / 4 * 4) : Nat) : Int), .int .i64 4060], Own (some ⟨i.1, 0, none⟩) i.2 275 3 1 [.string (str [100, 97, 116, 97]), .int .u8 7, .slice V m c], G]) := by
  refine fn_of_E' (args := [_, _, _]) 10 _ [_, _, _, undef, undef, undef, undef, undef, undef, undef] Tryz.func155 rfl Tryz.ntmps155 ?_
  refine E.nilOwn (e := 275) (sz := 3) ?_
  refine walk ?_
  refine y_callD rfl rfl (compress_fn G hG) ?_
  refine walk ?_
  refine y_alloc fun ga => ?_
  refine walk ?_
  refine y_callq rfl rfl (entryLen_fn ga [100, 97, 116, 97] _ _ (by simp)) ?_
  refine walk ?_
  refine y_callq rfl rfl (valueLen_fn ga _ _ V m c (by omega)) ?_
  rw [show ([100, 97, 116, 97] : List UInt8).length = 4 from rfl]
  refine walk ?_
  refine y_build (vs := [.agg #[.string (str [100, 97, 116, 97]), .int .u8 7, .slice V m c]]) (cs := [.string (str [100, 97, 116, 97]), .int .u8 7, .slice V m c]) rfl (fill_one (n := 3) [.string ⟨#[]⟩, .int .u8 0, .slice none 0 0] _ rfl rfl (by omega)) rfl fun gs => ?_
  refine walk ?_
  refine x_app (vs := []) (news := [.string (str [100, 97, 116, 97]), .int .u8 7, .slice V m c]) rfl rfl take_ (by exact ⟨rfl, .inr ⟨_, _, rfl, (by first | ((repeat (first | exact CellRow.own | exact CellRow.here | apply CellRow.there)) <;> fail) | fail)⟩⟩) (fun h => by cases h) (by simp [Value.oneCell']) (by rfl) (by omega) (by simp [maxLen]) (by omega) (fun A' c' => ⟨_, _, pt_, ?_⟩)
  refine walk ?_
  refine E.know .here (fun _ _ => Own.know) fun hk => ?_
  obtain ⟨k1, k2, k3, k4⟩ := hk
  cases A' with
  | none => have := k3 rfl; omega
  | some a =>
    obtain ⟨g, rfl⟩ := k4 a rfl
    rw [show 96 - ((4 + 3) / 4 * 4 + 16 + (m + 3) / 4 * 4) = 96 - (20 + (m + 3) / 4 * 4) by omega, Nat.zero_add, List.nil_append]
    exact y_ret [6] rfl ⟨(g, c'), trivial, rfl, rfl⟩
theorem writeX0_fn (wg gx : Nat) (x : Nd) (c0 c1 : Nat) (V2 V3 : Value) :
    Fd Tryz.prog 156 #[ptrV wg, ptrV x.g, ptrV gx] [Cells gx 267 [.slice none 0 c0, .slice none 0 c1, V2, V3], NodeP x] .nilIface [Cells gx 267 [.slice none 0 c0, .slice none 0 c1, V2, V3], NodeP x] := by
  refine fn_of_E' (args := [_, _, _]) 14 _ [_, _, _, undef, undef, undef, undef, undef, undef, undef, undef, undef, undef, undef] Tryz.func156 rfl Tryz.ntmps156 ?_
  refine e_seq ?_
  refine e_region ?_
  refine y_box rfl fun gb => ?_
  refine walk ?_
  refine y_loadC (v := .int .u32 0) (.there (.there (NodeP.cell 10 _ fun _ => rfl))) ?_
  refine walk ?_
  exact y_ret [6] rfl ⟨rfl, rfl⟩
def xinB (v : List UInt8) : List UInt8 := putX (pat (List.replicate 104 0) 0 (leB 4 3925999616)) [100, 97, 116, 97] v
theorem putX_len (b nm v : List UInt8) (hb : b.length = 104) (h : nm.length = 4) (h2 : v.length ≤ 76) : (putX b nm v).length = 104 := by
  unfold putX
  dsimp only
  have key : ∀ (b : List UInt8) (o : Nat) (us : List UInt8), b.length = 104 → o + us.length ≤ 104 → (pat b o us).length = 104 := fun b o us h1 h2 => by rw [pat_len _ _ _ (by omega), h1]
  refine key _ _ _ (key _ _ _ (key _ _ _ (key _ _ _ (key _ _ _ (key _ _ _ (key _ _ _ hb ?_) ?_) ?_) ?_) ?_) ?_) ?_ <;> first | omega | (simp [leB_len]; done) | (simp [leB_len]; omega)
theorem xinB_len (v : List UInt8) (h2 : v.length ≤ 76) : (xinB v).length = 104 := putX_len _ _ _ (by rw [pat_len _ _ _ (by simp [leB_len])]; simp) rfl h2
theorem writeX1_fn (wg gx g ga ca c1 m c : Nat) (V : Option Addr) (M : HP) (v : List UInt8) (V2 V3 : Value) (f0 f1 f2 f3 f4 f5 f6 f7 f8 f9 f11 f12 f13 f14 f15 f16 f17 : Value) (hr : Rd [M] V m 1 (enc v)) (hm : v.length = m) (hm2 : m ≤ 76) (hcm : m ≤ c) :
    Fe Tryz.prog 156 #[ptrV wg, ptrV g, ptrV gx] [Cells gx 267 [.slice (some ⟨ga, 0, none⟩) 1 ca, .slice none 0 c1, V2, V3], Own (some ⟨ga, 0, none⟩) ca 275 3 1 [.string (str [100, 97, 116, 97]), .int .u8 7, .slice V m c], M,
      Cells g 187 [f0, f1, f2, f3, f4, f5, f6, f7, f8, f9, .int .u32 0, f11, f12, f13, f14, f15, f16, f17]] (fun _ : Nat => True) (fun _ => .nilIface)
      (fun i => [M, Cells g 187 [f0, f1, f2, f3, f4, f5, f6, f7, f8, f9, .int .u32 0, f11, f12, f13, f14, f15, .slice (some ⟨i, 0, none⟩) 104 104, f17], Own (some ⟨i, 0, none⟩) 104 5 1 104 (enc (xinB v))]) := by
  have l0 : (pat (List.replicate 104 0) 0 (leB 4 3925999616)).length = 104 := by rw [pat_len _ _ _ (by simp [leB_len])]; simp
  refine fn_of_E' (args := [_, _, _]) 14 _ [_, _, _, undef, undef, undef, undef, undef, undef, undef, undef, undef, undef, undef] Tryz.func156 rfl Tryz.ntmps156 ?_
  refine e_seq ?_
  refine e_region ?_
  refine y_box rfl fun gb => ?_
  refine walk ?_
  refine y_make rfl rfl fun gn => ?_
  refine walk ?_
  rw [← enc_zeros]
  refine y_callD rfl rfl (c32_fn gn 104 104 0 104 104 3925999616 (List.replicate 104 0) (by simp) (by omega) (by omega) (by omega)) ?_
  refine walk ?_
  refine y_callD rfl rfl (putX_fn ga ca gn 104 ca V m c M [100, 97, 116, 97] v _ l0 rfl hr hm hm2 hcm) ?_
  refine walk ?_
  rw [show putX (pat (List.replicate 104 0) 0 (leB 4 3925999616)) [100, 97, 116, 97] v = xinB v from rfl]
  exact y_ret [6] rfl ⟨gn, trivial, rfl, rfl⟩
end Go.Proofs.YtppkiiomedembaaGreatDoor
