/-
  The walks: the reader's blocks, descriptors and inodes; The walks: the reader's groups. Conditions: none.
-/
import Derived.Test.YtcdalfhkhifplaaGreatDoorM08
set_option linter.unusedVariables false
set_option linter.unusedSimpArgs false
namespace Go.Proofs.YtcdalfhkhifplaaGreatDoor
open Go
set_option maxRecDepth 100000
set_option maxHeartbeats 4000000
attribute [local irreducible] E EO
structure Geo (s : Vs) : Prop where
  len : s.img.length = s.nb * 4096
  ic : s.img.length ≤ s.ic
  nb : 2 ≤ s.nb
  nb2 : s.nb ≤ 30000
  pi : 16 ≤ s.pi
  pi2 : s.pi ≤ 30000
theorem rblock_fn (s : Vs) (g : Geo s) (n : Nat) (hn : n < s.nb) : Qn Tryz.prog 81 #[ptrV s.vg, .int .u64 (n : Int)] [VP s] (.slice (some ⟨s.ig, n * 4096, none⟩) 4096 (s.ic - n * 4096)) := by
  obtain ⟨g1, g2, g3, g4, g5, g6⟩ := g
  refine y_fn5 VP.op fun AI cI gO cO rs _ => ?_
  have hm : (n + 1) * 4096 ≤ s.img.length := by omega
  refine fn_of_E' (args := [_, _]) 5 _ [_, _, undef, undef, undef] Tryz.func81 rfl Tryz.ntmps81 ?_
  refine walk ?_
  rw [show 0 + n * 4096 * 1 = n * 4096 by omega, show (n + 1) * 4096 - n * 4096 = 4096 by omega]
  exact y_ret [4] rfl rfl
theorem claim_fn (s : Vs) (n : Nat) (w : List UInt8) (hw : w.length ≤ 1000) (hn : n < s.nb) (hnb : s.nb ≤ 30000) (hc : n ∉ s.cl) : Fd Tryz.prog 74 #[ptrV s.vg, .int .u64 (n : Int), .string (str w)] [VP s] (.tuple #[]) [VP { s with cl := n :: s.cl }] := by
  refine y_fn5 VP.op fun AI cI gO cO rs hrs => ?_
  have hget : (enc (ownB s.nb s.cl))[n]? = some (.int .u8 0) := by
    rw [enc_get (ownB_get _ hn), if_neg hc]; rfl
  refine fn_of_E' (args := [_, _, _]) 6 _ [_, _, _, undef, undef, undef] Tryz.func74 rfl Tryz.ntmps74 ?_
  refine walk ?_
  refine y_loadR (a := n) (vs := enc (ownB s.nb s.cl)) (G := Own (some ⟨gO, 0, none⟩) cO 5 1 s.nb (enc (ownB s.nb s.cl))) CellRow.own hget ?_
  refine walk ?_
  refine y_callq rfl rfl (must_fn (ptrV s.vg) _ n) ?_
  refine walk ?_
  refine y_storeE (a := n) (vs := enc (ownB s.nb s.cl)) (u := .int .u8 1) (by rw [enc_len, ownB_len]; exact hn) ?_
  rw [ownB_set hn]
  refine walk ?_
  refine y_tn (VP.cl_ { s with cl := n :: s.cl } (AI := AI) (cI := cI) (gO := gO) (cO := cO) (rs := rs) hrs) fun _ _ => ?_
  exact y_end [] rfl ⟨rfl, rfl⟩
theorem desc_fn (s : Vs) (g : Geo s) : Qn Tryz.prog 115 #[ptrV s.vg, .int .u64 0] [VP s] (.slice (some ⟨s.ig, 4096, none⟩) 32 (s.ic - 4096)) := by
  obtain ⟨g1, g2, g3, g4, g5, g6⟩ := g
  refine y_fn5 VP.op fun AI cI gO cO rs _ => ?_
  have hm : 4128 ≤ s.img.length := by omega
  refine fn_of_E' (args := [_, _]) 6 _ [_, _, undef, undef, undef, undef] Tryz.func115 rfl Tryz.ntmps115 ?_
  refine walk ?_
  exact y_ret [4] rfl rfl
theorem part_fn (s : Vs) (g : Geo s) (lo b hi : Nat) (hb : b ≤ 8) (hlo : lo + b ≤ 32) : Qn Tryz.prog 83 #[ptrV s.vg, .int .u64 0, .int .u64 (lo : Int), .int .u64 (b : Int), .int .u64 (hi : Int)] [VP s, ImgP s] (.int .u64 (leAt s.img (4096 + lo) b : Nat)) := by
  have hl : ((s.img.drop 4096).take 32).length = 32 := by simp; have := g.len; have := g.nb; omega
  have hle := le_fn s.ig 4096 32 (s.ic - 4096) lo b ((s.img.drop 4096).take 32) (ImgP s) (ImgP.row s 4096 32) hl hb (by omega) (by omega)
  rw [leAt_take _ hlo, leAt_drop] at hle
  refine fn_of_E' (args := [_, _, _, _, _]) 13 _ [_, _, _, _, _, undef, undef, undef, undef, undef, undef, undef, undef] Tryz.func83 rfl Tryz.ntmps83 ?_
  refine walk ?_
  refine y_callq rfl rfl (desc_fn s g) ?_
  refine walk ?_
  refine y_callq rfl rfl hle ?_
  refine walk ?_
  refine y_loadC (v := .bool false) (VP.cell 10 _ fun _ _ _ _ => rfl) ?_
  refine walk ?_
  exact y_ret [10] rfl rfl
theorem bbm_fn (s : Vs) (g : Geo s) : Qn Tryz.prog 75 #[ptrV s.vg, .int .u64 0] [VP s, ImgP s] (.int .u64 (leAt s.img 4096 4 : Nat)) := by
  refine fn_of_E' (args := [_, _]) 5 _ [_, _, undef, undef, undef] Tryz.func75 rfl Tryz.ntmps75 ?_
  refine walk ?_
  refine y_callq rfl rfl (part_fn s g 0 4 32 (by omega) (by omega)) ?_
  refine walk ?_
  exact y_ret [4] rfl rfl
theorem ibm_fn (s : Vs) (g : Geo s) : Qn Tryz.prog 76 #[ptrV s.vg, .int .u64 0] [VP s, ImgP s] (.int .u64 (leAt s.img 4100 4 : Nat)) := by
  refine fn_of_E' (args := [_, _]) 5 _ [_, _, undef, undef, undef] Tryz.func76 rfl Tryz.ntmps76 ?_
  refine walk ?_
  refine y_callq rfl rfl (part_fn s g 4 4 36 (by omega) (by omega)) ?_
  refine walk ?_
  exact y_ret [4] rfl rfl
theorem itb_fn (s : Vs) (g : Geo s) : Qn Tryz.prog 77 #[ptrV s.vg, .int .u64 0] [VP s, ImgP s] (.int .u64 (leAt s.img 4104 4 : Nat)) := by
  refine fn_of_E' (args := [_, _]) 5 _ [_, _, undef, undef, undef] Tryz.func77 rfl Tryz.ntmps77 ?_
  refine walk ?_
  refine y_callq rfl rfl (part_fn s g 8 4 40 (by omega) (by omega)) ?_
  refine walk ?_
  exact y_ret [4] rfl rfl
theorem raw_fn (s : Vs) (g : Geo s) (it n : Nat) (h1 : 1 ≤ n) (h2 : n ≤ s.pi) (hit : leAt s.img 4104 4 = it) (hfit : it * 4096 + n * 256 ≤ s.img.length) : Qn Tryz.prog 80 #[ptrV s.vg, .int .u64 (n : Int)] [VP s, ImgP s] (.slice (some ⟨s.ig, it * 4096 + (n - 1) * 256, none⟩) 256 (s.ic - (it * 4096 + (n - 1) * 256))) := by
  have hi := itb_fn s g
  rw [hit] at hi
  obtain ⟨g1, g2, g3, g4, g5, g6⟩ := g
  have e1 : (n - 1) / s.pi = 0 := Nat.div_eq_of_lt (by omega)
  have e2 : (n - 1) % s.pi = n - 1 := Nat.mod_eq_of_lt (by omega)
  refine fn_of_E' (args := [_, _]) 8 _ [_, _, undef, undef, undef, undef, undef, undef] Tryz.func80 rfl Tryz.ntmps80 ?_
  refine walk ?_
  refine y_loadC (v := .int .u64 1) (VP.cell 4 _ fun _ _ _ _ => rfl) ?_
  refine walk ?_
  refine y_loadC (v := .int .u64 (s.pi : Int)) (VP.cell 6 _ fun _ _ _ _ => rfl) ?_
  refine walk ?_
  refine y_loadC (v := .int .u64 (s.pi : Int)) (VP.cell 6 _ fun _ _ _ _ => rfl) ?_
  refine walk ?_
  refine y_loadC (v := .int .u64 (s.pi : Int)) (VP.cell 6 _ fun _ _ _ _ => rfl) ?_
  refine walk ?_
  rw [e1, e2]
  refine y_callq rfl rfl hi ?_
  refine walk ?_
  refine y_loadC (v := .int .u64 256) (VP.cell 7 _ fun _ _ _ _ => rfl) ?_
  refine walk ?_
  refine y_loadC (v := .int .u64 256) (VP.cell 7 _ fun _ _ _ _ => rfl) ?_
  refine walk ?_
  refine y_loadC (v := .slice (some ⟨s.ig, 0, none⟩) s.img.length s.ic) (VP.cell 3 _ fun _ _ _ _ => rfl) ?_
  refine walk ?_
  refine y_loadC (v := .slice (some ⟨s.ig, 0, none⟩) s.img.length s.ic) (VP.cell 3 _ fun _ _ _ _ => rfl) ?_
  refine walk ?_
  refine y_loadC (v := .int .u64 256) (VP.cell 7 _ fun _ _ _ _ => rfl) ?_
  refine walk ?_
  rw [show 0 + (it * 4096 + (n - 1) * 256) * 1 = it * 4096 + (n - 1) * 256 by omega, show it * 4096 + (n - 1) * 256 + 256 - (it * 4096 + (n - 1) * 256) = 256 by omega]
  exact y_ret [4] rfl rfl
theorem hasCopy0_fn (V : Value) : Qn Tryz.prog 73 #[V, .int .u64 0] [] (.bool true) := by
  refine fn_of_E' (args := [_, _]) 8 _ [_, _, undef, undef, undef, undef, undef, undef] Tryz.func73 rfl Tryz.ntmps73 ?_
  refine walk ?_
  exact y_ret [4] rfl rfl
end Go.Proofs.YtcdalfhkhifplaaGreatDoor
namespace Go.Proofs.YtcdalfhkhifplaaGreatDoor
open Go
set_option maxRecDepth 100000
set_option maxHeartbeats 4000000
attribute [local irreducible] E EO
theorem Geo.with_ {s : Vs} (h : Geo s) (c : List Nat) (l : List RI) : Geo { s with cl := c, inos := l } := ⟨h.1, h.2, h.3, h.4, h.5, h.6⟩
theorem Geo.cl_ {s : Vs} (h : Geo s) (c : List Nat) : Geo { s with cl := c } := ⟨h.1, h.2, h.3, h.4, h.5, h.6⟩
theorem sble_fn (s : Vs) (g : Geo s) (cs o n : Nat) (hn : n ≤ 8) (ho : o + n ≤ 1024) : Qn Tryz.prog 38 #[.slice (some ⟨s.ig, 1024, none⟩) 1024 cs, .int .u64 (o : Int), .int .u64 (n : Int)] [ImgP s] (.int .u64 (leAt s.img (1024 + o) n : Nat)) := by
  have hl : ((s.img.drop 1024).take 1024).length = 1024 := by simp; have := g.len; have := g.nb; omega
  have hle := le_fn s.ig 1024 1024 cs o n ((s.img.drop 1024).take 1024) (ImgP s) (ImgP.row s 1024 1024) hl hn (by omega) (by omega)
  rwa [leAt_take _ ho, leAt_drop] at hle
def gcl (it t bb : Nat) : List Nat := (List.range' it t).reverse ++ [bb + 1, bb, 1, 0]
theorem gcl_succ (it t bb : Nat) : gcl it (t + 1) bb = (it + t) :: gcl it t bb := by
  unfold gcl
  rw [List.range'_concat]
  simp
theorem gcl_mem {it t bb n : Nat} : n ∈ gcl it t bb ↔ (it ≤ n ∧ n < it + t) ∨ n = bb + 1 ∨ n = bb ∨ n = 1 ∨ n = 0 := by
  simp [gcl, List.mem_range'_1]
theorem readGroups_fn (s : Vs) (g : Geo s) (cs it bb : Nat) (hcl : s.cl = []) (hco : leAt s.img 1116 4 = 520) (hb : leAt s.img 4096 4 = bb) (hi : leAt s.img 4100 4 = bb + 1) (ht : leAt s.img 4104 4 = it)
    (h1 : 2 ≤ it) (h2 : it + (s.pi * 256 + 4095) / 4096 ≤ bb) (h3 : bb + 1 < s.nb) :
    Fd Tryz.prog 39 #[ptrV s.vg, .slice (some ⟨s.ig, 1024, none⟩) 1024 cs] [VP s, ImgP s] (.tuple #[]) [VP { s with cl := gcl it ((s.pi * 256 + 4095) / 4096) bb }, ImgP s] := by
  have hg := g
  obtain ⟨g1, g2, g3, g4, g5, g6⟩ := g
  have hle := sble_fn s hg cs 92 4 (by omega) (by omega)
  rw [show 1024 + 92 = 1116 from rfl, hco] at hle
  refine fn_of_E' (args := [_, _]) 11 _ [_, _, undef, undef, undef, undef, undef, undef, undef, undef, undef] Tryz.func39 rfl Tryz.ntmps39 ?_
  refine walk ?_
  refine y_loadC (v := .int .u64 1) (VP.cell 4 _ fun _ _ _ _ => rfl) ?_
  refine walk ?_
  refine y_loadC (v := .int .u64 32) (VP.cell 8 _ fun _ _ _ _ => rfl) ?_
  refine walk ?_
  refine y_callq rfl rfl hle ?_
  refine walk ?_
  refine y_loadC (v := .int .u64 (s.pi : Int)) (VP.cell 6 _ fun _ _ _ _ => rfl) ?_
  refine walk ?_
  refine y_loadC (v := .int .u64 256) (VP.cell 7 _ fun _ _ _ _ => rfl) ?_
  refine walk ?_
  refine y_loop ?_
  refine walk ?_
  refine y_loadC (v := .int .u64 1) (VP.cell 4 _ fun _ _ _ _ => rfl) ?_
  refine walk ?_
  refine y_loadC (v := .int .u64 32768) (VP.cell 5 _ fun _ _ _ _ => rfl) ?_
  refine walk ?_
  refine y_callq rfl rfl (hasCopy0_fn _) ?_
  refine walk ?_
  rw [show s.pi * 256 + 4096 - 1 = s.pi * 256 + 4095 by omega]
  generalize htt : (s.pi * 256 + 4095) / 4096 = tt at h2 ⊢
  have htt2 : tt ≤ 2000 := by omega
  clear htt
  refine y_loop ?_
  refine walk ?_
  refine y_callD rfl rfl (claim_fn s (0 * 32768 + 0) [115, 117, 112, 101, 114, 98, 108, 111, 99, 107] (by decide) (by omega) g4 (by rw [hcl]; simp)) ?_
  rw [hcl]
  refine walk ?_
  refine y_again ?_
  refine walk ?_
  refine y_callD rfl rfl (claim_fn { s with cl := [0 * 32768 + 0] } (0 * 32768 + (0 + 1)) [115, 117, 112, 101, 114, 98, 108, 111, 99, 107] (by decide) (by show 0 * 32768 + (0 + 1) < s.nb; omega) g4 (by simp)) ?_
  refine EO.eqL (L' := [VP { s with cl := [1, 0] }, ImgP s]) rfl ?_
  refine walk ?_
  refine y_again ?_
  refine walk ?_
  refine y_callq rfl rfl (bbm_fn { s with cl := [1, 0] } (hg.cl_ _)) ?_
  dsimp only
  rw [hb]
  refine walk ?_
  refine y_callD rfl rfl (claim_fn { s with cl := [1, 0] } bb [98, 108, 111, 99, 107, 32, 98, 105, 116, 109, 97, 112] (by decide) (by show bb < s.nb; omega) g4 (by simp; omega)) ?_
  refine walk ?_
  refine y_callq rfl rfl (ibm_fn { s with cl := [bb, 1, 0] } (hg.cl_ _)) ?_
  dsimp only
  rw [hi]
  refine walk ?_
  refine y_callD rfl rfl (claim_fn { s with cl := [bb, 1, 0] } (bb + 1) [105, 110, 111, 100, 101, 32, 98, 105, 116, 109, 97, 112] (by decide) (by show bb + 1 < s.nb; omega) g4 (by simp; omega)) ?_
  refine walk ?_
  refine e_rounds (ι := Nat) (fun i => tt - i) (fun i => [ptrV s.vg, .slice (some ⟨s.ig, 1024, none⟩) 1024 cs, undef, undef, .int .u64 ((1 * 32 + 4096 - 1) / 4096 : Nat), .int .u64 0, .int .u64 (tt : Nat), .int .u64 0, .int .u64 (0 * 32768 : Nat), .int .u64 (0 + 1 + 1 : Nat), .int .u64 (i : Nat)])
    (fun i => [VP { s with cl := gcl it i bb }, ImgP s]) (fun i => i ≤ tt) 0 (Nat.zero_le _) rfl (List.Perm.of_eq rfl) ?_
  intro i hit again
  by_cases hlt : i < tt
  · refine walk ?_
    refine y_callq rfl rfl (itb_fn { s with cl := gcl it i bb } (hg.cl_ _)) ?_
    dsimp only
    rw [ht]
    refine walk ?_
    refine y_callD rfl rfl (claim_fn { s with cl := gcl it i bb } (it + i) [105, 110, 111, 100, 101, 32, 116, 97, 98, 108, 101] (by decide) (by show it + i < s.nb; omega) g4 (by simp [gcl_mem]; omega)) ?_
    dsimp only
    rw [← gcl_succ]
    have ag := again (i + 1) (by omega) (by omega)
    refine walk ?_
    exact ag.to rfl rfl
  · have e : i = tt := by omega
    subst e
    refine walk ?_
    refine y_again ?_
    refine walk ?_
    refine y_loadC (v := .int .u64 1) (VP.cell 4 _ fun _ _ _ _ => rfl) ?_
    refine walk ?_
    exact y_end [] rfl ⟨rfl, rfl⟩
end Go.Proofs.YtcdalfhkhifplaaGreatDoor
