/-
  The walks: the reader's groups; The walks: the reader's attributes. Conditions: none.
-/
import Derived.Test.YtppkiiomedembaaGreatDoorM11
set_option linter.unusedVariables false
set_option linter.unusedSimpArgs false
namespace Go.Proofs.YtppkiiomedembaaGreatDoor
open Go
set_option maxRecDepth 100000
set_option maxHeartbeats 4000000
attribute [local irreducible] E EO
theorem Geo.with_ {s : Vs} (h : Geo s) (c : List Nat) (l : List RI) : Geo { s with cl := c, inos := l } := ⟨h.1, h.2, h.3, h.4, h.5, h.6⟩
theorem Geo.cl_ {s : Vs} (h : Geo s) (c : List Nat) : Geo { s with cl := c } := ⟨h.1, h.2, h.3, h.4, h.5, h.6⟩
theorem sble_fn (s : Vs) (g : Geo s) (cs o n : Nat) (hn : n ≤ 8) (ho : o + n ≤ 1024) : Qn Tryz.prog 49 #[.slice (some ⟨s.ig, 1024, none⟩) 1024 cs, .int .u64 (o : Int), .int .u64 (n : Int)] [ImgP s] (.int .u64 (leAt s.img (1024 + o) n : Nat)) := by
  have hl : ((s.img.drop 1024).take 1024).length = 1024 := by simp; have := g.len; have := g.nb; omega
  have hle := le_fn s.ig 1024 1024 cs o n ((s.img.drop 1024).take 1024) (ImgP s) (ImgP.row s 1024 1024) hl hn (by omega) (by omega)
  rwa [leAt_take _ ho, leAt_drop] at hle
def gcl (it t bb : Nat) : List Nat := (List.range' it t).reverse ++ [bb + 1, bb, 1, 0]
theorem gcl_succ (it t bb : Nat) : gcl it (t + 1) bb = (it + t) :: gcl it t bb := by
  unfold gcl
  rw [List.range'_concat]
  simp
theorem gcl_mem {it t bb n : Nat} : n ∈ gcl it t bb ↔ (it ≤ n ∧ n < it + t) ∨ n = bb + 1 ∨ n = bb ∨ n = 1 ∨ n = 0 := by
  simp [gcl, List.mem_range'_1]
theorem readGroups_fn (s : Vs) (g : Geo s) (cs it bb : Nat) (hcl : s.cl = []) (hco : leAt s.img 1116 4 = 520) (hb : leAt s.img 4096 4 = bb) (hi : leAt s.img 4100 4 = bb + 1) (ht : leAt s.img 4104 4 = it)
    (h1 : 2 ≤ it) (h2 : it + (s.pi * 256 + 4095) / 4096 ≤ bb) (h3 : bb + 1 < s.nb) :
    Fd Tryz.prog 50 #[ptrV s.vg, .slice (some ⟨s.ig, 1024, none⟩) 1024 cs] [VP s, ImgP s] (.tuple #[]) [VP { s with cl := gcl it ((s.pi * 256 + 4095) / 4096) bb }, ImgP s] := by
  have hg := g
  obtain ⟨g1, g2, g3, g4, g5, g6⟩ := g
  have hle := sble_fn s hg cs 92 4 (by omega) (by omega)
  rw [show 1024 + 92 = 1116 from rfl, hco] at hle
  refine fn_of_E' (args := [_, _]) 11 _ [_, _, undef, undef, undef, undef, undef, undef, undef, undef, undef] Tryz.func50 rfl Tryz.ntmps50 ?_
  refine walk ?_
  refine y_loadC (v := .int .u64 1) (VP.cell 4 _ fun _ _ _ _ => rfl) ?_
  refine walk ?_
  refine y_loadC (v := .int .u64 32) (VP.cell 8 _ fun _ _ _ _ => rfl) ?_
  refine walk ?_
  refine y_callq rfl rfl hle ?_
  refine walk ?_
  refine y_loadC (v := .int .u64 (s.pi : Int)) (VP.cell 6 _ fun _ _ _ _ => rfl) ?_
  refine walk ?_
  refine y_loadC (v := .int .u64 256) (VP.cell 7 _ fun _ _ _ _ => rfl) ?_
  refine walk ?_
  refine y_loop ?_
  refine walk ?_
  refine y_loadC (v := .int .u64 1) (VP.cell 4 _ fun _ _ _ _ => rfl) ?_
  refine walk ?_
  refine y_loadC (v := .int .u64 32768) (VP.cell 5 _ fun _ _ _ _ => rfl) ?_
  refine walk ?_
  refine y_callq rfl rfl (hasCopy0_fn _) ?_
  refine walk ?_
  rw [show s.pi * 256 + 4096 - 1 = s.pi * 256 + 4095 by omega]
  generalize htt : (s.pi * 256 + 4095) / 4096 = tt at h2 ⊢
  have htt2 : tt ≤ 2000 := by omega
  clear htt
  refine y_loop ?_
  refine walk ?_
  refine y_callD rfl rfl (claim_fn s (0 * 32768 + 0) [115, 117, 112, 101, 114, 98, 108, 111, 99, 107] (by decide) (by omega) g4 (by rw [hcl]; simp)) ?_
  rw [hcl]
  refine walk ?_
  refine y_again ?_
  refine walk ?_
  refine y_callD rfl rfl (claim_fn { s with cl := [0 * 32768 + 0] } (0 * 32768 + (0 + 1)) [115, 117, 112, 101, 114, 98, 108, 111, 99, 107] (by decide) (by show 0 * 32768 + (0 + 1) < s.nb; omega) g4 (by simp)) ?_
  refine EO.eqL (L' := [VP { s with cl := [1, 0] }, ImgP s]) rfl ?_
  refine walk ?_
  refine y_again ?_
  refine walk ?_
  refine y_callq rfl rfl (bbm_fn { s with cl := [1, 0] } (hg.cl_ _)) ?_
  dsimp only
  rw [hb]
  refine walk ?_
  refine y_callD rfl rfl (claim_fn { s with cl := [1, 0] } bb [98, 108, 111, 99, 107, 32, 98, 105, 116, 109, 97, 112] (by decide) (by show bb < s.nb; omega) g4 (by simp; omega)) ?_
  refine walk ?_
  refine y_callq rfl rfl (ibm_fn { s with cl := [bb, 1, 0] } (hg.cl_ _)) ?_
  dsimp only
  rw [hi]
  refine walk ?_
  refine y_callD rfl rfl (claim_fn { s with cl := [bb, 1, 0] } (bb + 1) [105, 110, 111, 100, 101, 32, 98, 105, 116, 109, 97, 112] (by decide) (by show bb + 1 < s.nb; omega) g4 (by simp; omega)) ?_
  refine walk ?_
  refine e_rounds (ι := Nat) (fun i => tt - i) (fun i => [ptrV s.vg, .slice (some ⟨s.ig, 1024, none⟩) 1024 cs, undef, undef, .int .u64 ((1 * 32 + 4096 - 1) / 4096 : Nat), .int .u64 0, .int .u64 (tt : Nat), .int .u64 0, .int .u64 (0 * 32768 : Nat), .int .u64 (0 + 1 + 1 : Nat), .int .u64 (i : Nat)])
    (fun i => [VP { s with cl := gcl it i bb }, ImgP s]) (fun i => i ≤ tt) 0 (Nat.zero_le _) rfl (List.Perm.of_eq rfl) ?_
  intro i hit again
  by_cases hlt : i < tt
  · refine walk ?_
    refine y_callq rfl rfl (itb_fn { s with cl := gcl it i bb } (hg.cl_ _)) ?_
    dsimp only
    rw [ht]
    refine walk ?_
    refine y_callD rfl rfl (claim_fn { s with cl := gcl it i bb } (it + i) [105, 110, 111, 100, 101, 32, 116, 97, 98, 108, 101] (by decide) (by show it + i < s.nb; omega) g4 (by simp [gcl_mem]; omega)) ?_
    dsimp only
    rw [← gcl_succ]
    have ag := again (i + 1) (by omega) (by omega)
    refine walk ?_
    exact ag.to rfl rfl
  · have e : i = tt := by omega
    subst e
    refine walk ?_
    refine y_again ?_
    refine walk ?_
    refine y_loadC (v := .int .u64 1) (VP.cell 4 _ fun _ _ _ _ => rfl) ?_
    refine walk ?_
    exact y_end [] rfl ⟨rfl, rfl⟩
end Go.Proofs.YtppkiiomedembaaGreatDoor
namespace Go.Proofs.YtppkiiomedembaaGreatDoor
open Go
set_option maxRecDepth 100000
set_option maxHeartbeats 4000000
attribute [local irreducible] E EO
theorem CellRow.suf {L : List HP} {g o k : Nat} {vs : List Value} (h : CellRow L g o vs) : CellRow L g (o + k) (vs.drop k) := fun j v hj => by
  rw [List.getElem?_drop] at hj
  have := h _ v hj
  rwa [Nat.add_assoc]
theorem CellRow.sufE {L : List HP} {g o p k : Nat} {b : List UInt8} (h : CellRow L g o (enc b)) (hp : p = o + k) : CellRow L g p (enc (b.drop k)) := by
  subst hp; rw [enc_drop]; exact h.suf
theorem CellRow.takeE {L : List HP} {g o k : Nat} {b : List UInt8} (h : CellRow L g o (enc b)) : CellRow L g o (enc (b.take k)) := fun j v hj => by
  have hlt := (List.getElem?_eq_some_iff.1 hj).1
  rw [enc_len, List.length_take] at hlt
  rw [enc_take, List.getElem?_take_of_lt (by omega)] at hj
  exact h j v hj
theorem moment0_fn : Fd Tryz.prog 177 #[.int .u64 0, .int .u64 0] [] (.agg #[.int .i64 0, .int .i64 0]) [] := by
  refine fn_of_E' (args := [_, _]) 5 _ [_, _, undef, undef, undef] Tryz.func177 rfl Tryz.ntmps177 ?_
  refine walk ?_
  refine y_alloc fun g => ?_
  refine walk ?_
  rw [show IntKind.i64.wrap ((0 &&& 3 : Nat) : Int) = ((0 : Nat) : Int) from rfl]
  refine walk ?_
  exact y_retC 4 rfl (by first | ((repeat (first | ((with_reducible apply Rows.here); (focus (repeat constructor))) | (with_reducible apply Rows.there))) <;> fail) | fail) ⟨rfl, rfl⟩
theorem kindOf_fn (md : Nat) (h : md < 65536) : Qn Tryz.prog 13 #[.int .u16 (md : Int)] [] (.int .u64 (ftN md : Nat)) := by
  refine fn_of_E' (args := [_]) 3 _ [_, undef, undef] Tryz.func13 rfl Tryz.ntmps13 ?_
  by_cases h1 : md &&& 61440 = 32768
  · refine walk ?_
    refine y_ret [2] rfl ?_
    simp [packV, ftN, h1]
  by_cases h2 : md &&& 61440 = 16384
  · refine walk ?_
    refine y_ret [2] rfl ?_
    simp [packV, ftN, h1, h2]
  by_cases h3 : md &&& 61440 = 8192
  · refine walk ?_
    refine y_ret [2] rfl ?_
    simp [packV, ftN, h1, h2, h3]
  by_cases h4 : md &&& 61440 = 24576
  · refine walk ?_
    refine y_ret [2] rfl ?_
    simp [packV, ftN, h1, h2, h3, h4]
  by_cases h5 : md &&& 61440 = 4096
  · refine walk ?_
    refine y_ret [2] rfl ?_
    simp [packV, ftN, h1, h2, h3, h4, h5]
  by_cases h6 : md &&& 61440 = 49152
  · refine walk ?_
    refine y_ret [2] rfl ?_
    simp [packV, ftN, h1, h2, h3, h4, h5, h6]
  by_cases h7 : md &&& 61440 = 40960
  · refine walk ?_
    refine y_ret [2] rfl ?_
    simp [packV, ftN, h1, h2, h3, h4, h5, h6, h7]
  refine walk ?_
  refine y_ret [2] rfl ?_
  simp [packV, ftN, h1, h2, h3, h4, h5, h6, h7]
theorem field_fn (ge gb g o c at_ : Nat) (B : List UInt8) (M : HP) (hr : CellRow [M] g o (enc B)) (hl : B.length = 256) (ha : at_ + 4 ≤ 152) :
    Qn Tryz.prog 176 #[.int .u64 (at_ : Int), ptrV ge, ptrV gb] [Cells ge 69 [.int .u64 24], Cells gb 22 [.slice (some ⟨g, o, none⟩) 256 c], M] (.int .u64 (leAt B at_ 4 : Nat)) := by
  have hle := le_fn g o 256 c at_ 4 B M hr hl (by omega) (by omega) (by omega)
  refine fn_of_E' (args := [_, _, _]) 5 _ [_, _, _, undef, undef] Tryz.func176 rfl Tryz.ntmps176 ?_
  refine walk ?_
  refine y_callq rfl rfl hle ?_
  refine walk ?_
  exact y_ret [4] rfl rfl
theorem prefix7_fn : Qn Tryz.prog 205 #[.int .u64 7] [] (.tuple #[.string (str [115, 121, 115, 116, 101, 109, 46]), .bool true]) := by
  refine fn_of_E' (args := [_]) 4 _ [_, undef, undef, undef] Tryz.func205 rfl Tryz.ntmps205 ?_
  refine walk ?_
  exact y_ret [2, 3] rfl rfl
theorem leN_leAt : ∀ (n : Nat) (b : List UInt8), leN (b.take n) = leAt b 0 n
  | 0, b => by simp [leN, leAt]
  | n + 1, [] => by
    have := leAt_zero (b := []) (n + 1) 0 fun k _ => bAt_over (by simp)
    rw [this]; simp [leN]
  | n + 1, x :: b => by
    have h := leN_leAt n b
    simp only [List.take_succ_cons, leN, leAt, h]
    congr 1
    congr 1
    exact leAt_congr _ _ _ fun k _ => by simp [bAt, List.getD, Nat.add_comm 1 k]
theorem ahash_fn (g o c g2 o2 c2 m1 m2 : Nat) (name v : List UInt8) (M M2 : HP) (hr : CellRow [M] g o (enc name)) (hr2 : CellRow [M2] g2 o2 (enc v)) (hm1 : name.length = m1) (hm2 : v.length = m2) (hl1 : m1 ≤ 1000) (hl2 : m2 ≤ 1000000) :
    Qn Tryz.prog 206 #[.slice (some ⟨g, o, none⟩) m1 c, .slice (some ⟨g2, o2, none⟩) m2 c2] [M, M2] (.int .u32 (hashX name v : Nat)) := by
  refine fn_of_E' (args := [_, _]) 9 _ [_, _, undef, undef, undef, undef, undef, undef, undef] Tryz.func206 rfl Tryz.ntmps206 ?_
  refine walk ?_
  refine e_roundsK (ι := Nat × Value) (fun q => m1 - q.1) (fun q => [.slice (some ⟨g, o, none⟩) m1 c, .slice (some ⟨g2, o2, none⟩) m2 c2, undef, undef, .int .u32 0, .int .u32 ((hName 0 (name.take q.1) : Nat) : Int), undef, q.2, undef])
    (fun q => [(11, .int .i64 (q.1 : Nat)), (10, .int .i64 (m1 : Nat)), (9, .slice (some ⟨g, o, none⟩) m1 c)]) (fun _ => [M, M2]) (fun q => q.1 ≤ m1) (0, undef) (Nat.zero_le _) rfl (by repeat constructor) (List.Perm.refl _) ?_
  rintro ⟨q, w⟩ hq again
  dsimp only at hq again ⊢
  have hh := hName_lt (name.take q) 0 (by omega)
  by_cases hlt : q < m1
  · obtain ⟨b, hb⟩ : ∃ b, name[q]? = some b := ⟨_, List.getElem?_eq_getElem (by omega)⟩
    have hb8 := b.toNat_lt
    have e : hName 0 (name.take (q + 1)) = hName 0 (name.take q) * 2 ^ 5 % 4294967296 ^^^ hName 0 (name.take q) / 2 ^ 27 ^^^ b.toNat := by
      rw [List.take_add_one, hb, hName_app]; rfl
    have hx1 : hName 0 (name.take q) * 2 ^ 5 % 4294967296 ^^^ hName 0 (name.take q) / 2 ^ 27 < 4294967296 := xor_lt32 (by omega) (by omega)
    refine walk ?_
    refine y_loadR (a := q) hr (enc_get hb) ?_
    refine walk ?_
    have ag := again (q + 1, .int .u8 (b.toNat : Int)) (by dsimp only; omega) (by dsimp only; omega)
    dsimp only at ag
    rw [e] at ag
    exact ag.toKS (ks := [11, 10, 9]) rfl (by repeat constructor)
  · have hql : q = m1 := by omega
    subst hql
    rw [List.take_of_length_le (by omega)] at hh ⊢
    refine walk ?_
    refine e_rounds (ι := Nat) (fun p => (m2 + 3) / 4 - p) (fun p => [.slice (some ⟨g, o, none⟩) q c, .slice (some ⟨g2, o2, none⟩) m2 c2, undef, undef, .int .u32 0, .int .u32 ((hVal p (hName 0 name) v : Nat) : Int), undef, w, .int .i64 ((4 * p : Nat) : Int)]) (fun _ => [M, M2]) (fun p => p ≤ (m2 + 3) / 4) 0 (Nat.zero_le _) rfl (List.Perm.refl _) ?_
    intro p hp again
    have hv := hVal_lt p (hName 0 name) v hh
    have hsucc : hVal (p + 1) (hName 0 name) v = hWord (hVal p (hName 0 name) v) (leN ((v.drop (4 * p)).take 4)) := by
      rw [hVal_add]; rfl
    have hw4 : leAt v (4 * p) 4 < 4294967296 := leAt_lt' v (4 * p) 4 _ (by decide)
    rw [leN_leAt, leAt_drop, Nat.add_zero] at hsucc
    have hx1 : hVal p (hName 0 name) v * 2 ^ 16 % 4294967296 ^^^ hVal p (hName 0 name) v / 2 ^ 16 < 4294967296 := xor_lt32 (by omega) (by omega)
    by_cases hlt : 4 * p < m2
    · have hle := le_fn g2 o2 m2 c2 (4 * p) 4 v M2 hr2 hm2 (by omega) (by omega) (by omega)
      refine walk ?_
      refine y_callq rfl rfl hle ?_
      refine walk ?_
      have ag := again (p + 1) (by omega) (by omega)
      rw [hsucc] at ag
      exact ag.to rfl rfl
    · have e : p = (m2 + 3) / 4 := by omega
      refine walk ?_
      refine y_ret [4] rfl ?_
      rw [e]
      show Value.int .u32 ((hVal ((m2 + 3) / 4) (hName 0 name) v : Nat) : Int) = _
      rw [hashX, hm2]
end Go.Proofs.YtppkiiomedembaaGreatDoor
