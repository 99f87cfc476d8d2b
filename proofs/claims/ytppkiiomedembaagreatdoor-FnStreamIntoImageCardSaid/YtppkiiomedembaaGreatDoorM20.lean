/-
  The walks: the tree that a volume holds; The walks: an image is closed, the end; The walks: an image is closed, the descriptors. Conditions: none.
-/
import Derived.Test.YtppkiiomedembaaGreatDoorM18
import Derived.Test.YtppkiiomedembaaGreatDoorM19
set_option linter.unusedVariables false
set_option linter.unusedSimpArgs false
namespace Go.Proofs.YtppkiiomedembaaGreatDoor
open Go
set_option maxRecDepth 100000
set_option maxHeartbeats 4000000
attribute [local irreducible] E EO
def intV (l : List Nat) : List Value := l.map fun n : Nat => .int .i64 (n : Int)
theorem intV_len (l : List Nat) : (intV l).length = l.length := by simp [intV]
theorem intV_get {l : List Nat} {i n : Nat} (h : l[i]? = some n) : (intV l)[i]? = some (.int .i64 (n : Int)) := by simp [intV, h]
theorem intV_set (l : List Nat) (i n : Nat) : (intV l).set i (.int .i64 (n : Int)) = intV (l.set i n) := by simp [intV, List.map_set]
theorem intV_rep (m : Nat) : List.replicate m (.int .i64 0) = intV (List.replicate m 0) := by simp [intV]
def plA : List Nat → Nat → List RI → List Nat
  | p, _, [] => p
  | p, i, x :: r => plA (p.set x.num i) (i + 1) r
theorem plA_len : ∀ (p : List Nat) (i : Nat) (l : List RI), (plA p i l).length = p.length
  | p, i, [] => rfl
  | p, i, x :: r => by simp [plA, plA_len]
theorem plA_app : ∀ (p : List Nat) (i : Nat) (l : List RI) (x : RI), plA p i (l ++ [x]) = (plA p i l).set x.num (i + l.length)
  | p, i, [], x => by simp [plA]
  | p, i, y :: r, x => by
    have := plA_app (p.set y.num i) (i + 1) r x
    simp only [List.cons_append, plA, this, List.length_cons]
    rw [show i + 1 + r.length = i + (r.length + 1) by omega]
inductive KsR (pl : List Nat) : List (List UInt8 × Nat × Nat) → List (List UInt8 × Nat) → List (List UInt8 × Nat) → Prop
  | nil {ks : List (List UInt8 × Nat)} : KsR pl [] ks ks
  | dot {e : List UInt8 × Nat × Nat} {r : List (List UInt8 × Nat × Nat)} {ks ks' : List (List UInt8 × Nat)} : e.1 = [46] ∨ e.1 = [46, 46] → KsR pl r ks ks' → KsR pl (e :: r) ks ks'
  | ent {e : List UInt8 × Nat × Nat} {r : List (List UInt8 × Nat × Nat)} {ks ks' : List (List UInt8 × Nat)} {k : Nat} : e.1 ≠ [46] → e.1 ≠ [46, 46] → pl[e.2.1]? = some k → k ≤ 1000000 → ks.length ≤ 100000 → hasN ks e.1 = false → KsR pl r (insN ks e.1 k) ks' → KsR pl (e :: r) ks ks'
structure ND where
  x : RI
  a : RIA
  r : RIA
  ks : List (List UInt8 × Nat)
def ndAd (q : ND) : Option Addr := if ftN q.x.mode = 1 then q.a.A else none
def ndLn (q : ND) : Nat := if ftN q.x.mode = 1 then q.x.data.length else 0
def ndCp (q : ND) : Nat := if ftN q.x.mode = 1 then q.a.c else 0
abbrev noV (q : ND) : List Value := noC q.x.mode q.x.uid q.x.gid (ndAd q) (ndLn q) (ndCp q) (.slice q.r.A q.ks.length q.r.c) (.slice q.r.A' q.ks.length q.r.c')
def noVs : List ND → List Value
  | [] => []
  | q :: qs => noV q ++ noVs qs
theorem noVs_app : ∀ (a b : List ND), noVs (a ++ b) = noVs a ++ noVs b
  | [], _ => rfl
  | q :: a, b => by simp only [List.cons_append, noVs, noVs_app a b, List.append_assoc]
theorem noVs_get : ∀ (qs : List ND) (i : Nat) (q : ND), qs[i]? = some q → ((noVs qs).drop (i * 18)).take 18 = noV q
  | p :: qs, 0, q, h => by simp at h; subst h; rfl
  | p :: qs, i + 1, q, h => by
    have := noVs_get qs i q (by simpa using h)
    simp only [noVs]
    rw [show (i + 1) * 18 = (noV p).length + i * 18 by simp; omega, List.drop_append, List.drop_of_length_le (by omega), List.nil_append, show (noV p).length + i * 18 - (noV p).length = i * 18 by omega, this]
def noP (q : ND) : HP := .star [Own q.r.A q.r.c 9 1 q.ks.length (nmV q.ks), Own q.r.A' q.r.c' 3 1 q.ks.length (kdV q.ks)]
structure TrOk (pl : List Nat) (x : RI) (ks : List (List UInt8 × Nat)) : Prop where
  num : x.num < pl.length
  md : x.mode < 65536
  ui : x.uid < 4294967296
  gi : x.gid < 4294967296
  ft : ftN x.mode = 1 ∨ ftN x.mode = 2
  ks : KsR pl x.ents [] ks
  len : x.ents.length ≤ 1000000
theorem inP_out (xs : List RI) (rs : List RIA) (i : Nat) (x : RI) (a : RIA) (h1 : xs[i]? = some x) (h2 : rs[i]? = some a) : ∃ F, Tn [HP.star (inP xs rs)] (fun _ : Unit => True) (fun _ => riL x a ++ [HP.star F]) ∧ Tn (riL x a ++ [HP.star F]) (fun _ : Unit => True) (fun _ => [HP.star (inP xs rs)]) := by
  obtain ⟨F, hF⟩ := inP_take xs rs i x a h1 h2
  refine ⟨F, fun m S hS => ?_, fun m S hS => ?_⟩
  · have h0 : sats (inP xs rs) m S := sats_one' hS
    obtain ⟨S1, S2, a1, a2, a3, a4⟩ := sats_perm hF.perm h0
    exact ⟨(), S, trivial, sats_append.2 ⟨S1, S2, a1, sats_one a2, a3, a4⟩, fun _ h => h⟩
  · obtain ⟨S1, S2, a1, a2, a3, a4⟩ := sats_append.1 hS
    have h0 : sats (HP.star (riL x a) :: F) m S := ⟨S1, S2, a1, sats_one' a2, a3, a4⟩
    exact ⟨(), S, trivial, sats_one (sats_perm hF.perm.symm h0), fun _ h => h⟩
theorem noP_add (qs : List ND) (q : ND) : Tn [Own q.r.A q.r.c 9 1 q.ks.length (nmV q.ks), Own q.r.A' q.r.c' 3 1 q.ks.length (kdV q.ks), HP.star (qs.map noP)] (fun _ : Unit => True) (fun _ => [HP.star ((qs ++ [q]).map noP)]) := fun m S hS => by
  refine ⟨(), S, trivial, sats_one ?_, fun _ h => h⟩
  show sats ((qs ++ [q]).map noP) m S
  rw [List.map_append]
  have h1 : sats ([Own q.r.A q.r.c 9 1 q.ks.length (nmV q.ks), Own q.r.A' q.r.c' 3 1 q.ks.length (kdV q.ks)] ++ [HP.star (qs.map noP)]) m S := hS
  obtain ⟨S1, S2, a1, a2, a3, a4⟩ := sats_append.1 h1
  exact sats_append.2 ⟨S2, S1, sats_one' a2, sats_one a1, fun g h1 h2 => a3 g h2 h1, fun g => (a4 g).trans Or.comm⟩
theorem Tree_fn (v : Vs) (g : Geo v) (pl : List Nat) (kss : List (List (List UInt8 × Nat))) (hpl : pl = plA (List.replicate (v.pi + 1) 0) 0 v.inos) (hks : kss.length = v.inos.length) (hok : ∀ (i : Nat) (x : RI) (ks : List (List UInt8 × Nat)), v.inos[i]? = some x → kss[i]? = some ks → TrOk pl x ks) (hil : v.inos.length ≤ 100000) :
    Fe Tryz.prog 7 #[ptrV v.vg] [VP v] (fun i : (Option Addr × Nat) × List ND × (Option Addr × Nat × Nat × Nat) => i.2.1.map (·.x) = v.inos ∧ i.2.1.map (·.ks) = kss) (fun i => .agg #[.slice i.1.1 v.inos.length i.1.2])
      (fun i => [Own i.1.1 i.1.2 58 18 v.inos.length (noVs i.2.1), HP.star (i.2.1.map noP), HP.star (vsX v i.2.2.1 i.2.2.2.1 i.2.2.2.2.1 i.2.2.2.2.2 (i.2.1.map (·.a)))]) := by
  obtain ⟨g1, g2, g3, g4, g5, g6⟩ := g
  obtain ⟨m, hm⟩ : ∃ m, m = v.pi + 1 := ⟨_, rfl⟩
  rw [← hm] at hpl
  have hpll : pl.length = m := by rw [hpl, plA_len]; simp
  refine y_fn5 VP.op fun AI cI gO cO rs hrs => ?_
  refine fn_of_E' (args := [_]) 14 _ [_, undef, undef, undef, undef, undef, undef, undef, undef, undef, undef, undef, undef, undef] Tryz.func7 rfl Tryz.ntmps7 ?_
  refine walk ?_
  refine y_alloc fun g2 => ?_
  refine walk ?_
  refine y_alloc fun g3 => ?_
  refine walk ?_
  rw [show 1 * v.pi + 1 = m by omega]
  refine y_make rfl rfl fun g4 => ?_
  refine walk ?_
  have hnum : ∀ (i : Nat) (x : RI), v.inos[i]? = some x → ∃ ks, kss[i]? = some ks ∧ TrOk pl x ks := fun i x hx => by
    have hlt := (List.getElem?_eq_some_iff.1 hx).1
    exact ⟨kss[i], List.getElem?_eq_getElem (by omega), hok i x _ hx (List.getElem?_eq_getElem (by omega))⟩
  rw [intV_rep, show List.replicate m 0 = plA (List.replicate m 0) 0 (v.inos.take 0) from rfl]
  refine e_roundsT (ι := Nat × Value × Value) (fun z => v.inos.length - z.1)
    (fun z => [ptrV v.vg, undef, ptrV g2, ptrV g3, .slice (some ⟨g4, 0, none⟩) m m, z.2.1, z.2.2, undef, undef, undef, undef, undef, undef, undef])
    (fun z => [(30, .int .i64 (z.1 : Nat)), (29, .int .i64 (v.inos.length : Nat)), (28, .slice AI v.inos.length cI)])
    (fun z => [Own (some ⟨g4, 0, none⟩) m 3 1 m (intV (plA (List.replicate m 0) 0 (v.inos.take z.1))), Cells g3 50 [.slice none 0 0], Cells g2 50 [.slice none 0 0], Cells v.vg 71 (vsC v AI cI gO cO), Own AI cI 74 23 v.inos.length (inC v.inos rs), Own (some ⟨gO, 0, none⟩) cO 5 1 v.nb (enc (ownB v.nb v.cl)), HP.star (inP v.inos rs)])
    (fun z => z.1 ≤ v.inos.length) (0, undef, undef) (Nat.zero_le _) rfl (by repeat constructor) sub_ ?_
  rintro ⟨j, w5, w6⟩ hj again
  dsimp only at hj again ⊢
  by_cases hlt : j < v.inos.length
  · obtain ⟨y, hy⟩ : ∃ y, v.inos[j]? = some y := ⟨_, List.getElem?_eq_getElem hlt⟩
    obtain ⟨a, ha⟩ : ∃ a, rs[j]? = some a := ⟨_, List.getElem?_eq_getElem (by omega)⟩
    obtain ⟨ks, _, hok'⟩ := hnum j y hy
    have hyn := hok'.num
    rw [hpll] at hyn
    have htk : v.inos.take (j + 1) = v.inos.take j ++ [y] := by rw [List.take_add_one, hy]; rfl
    have hpa : plA (List.replicate m 0) 0 (v.inos.take (j + 1)) = (plA (List.replicate m 0) 0 (v.inos.take j)).set y.num j := by
      rw [htk, plA_app, Nat.zero_add, List.length_take, Nat.min_eq_left (by omega)]
    refine E.know (A := Own AI cI 74 23 v.inos.length (inC v.inos rs)) take_ (fun _ _ => Own.know) fun hk => ?_
    obtain ⟨k1, k2, k3, k4⟩ := hk
    cases AI with
    | none => have := k3 rfl; omega
    | some ad =>
    obtain ⟨gA, rfl⟩ := k4 ad rfl
    refine walk ?_
    refine y_loadS (vs := inC v.inos rs) (us := riC y a) (j * 23) (inC_get _ _ j y a hy ha) ?_
    refine walk ?_
    refine y_alloc fun g6 => ?_
    refine walk ?_
    refine y_storeE (a := y.num) (vs := intV (plA (List.replicate m 0) 0 (v.inos.take j))) (u := .int .i64 (j : Nat)) (by rw [intV_len, plA_len]; simp; omega) ?_
    rw [intV_set, ← hpa]
    refine walk ?_
    have ag := again (j + 1, .int .i64 (j : Nat), ptrV g6) (by dsimp only; omega) (by dsimp only; omega)
    dsimp only at ag
    exact ag.toP (ks := [30, 29, 28]) rfl (by repeat constructor) sub_
  · have hjl : j = v.inos.length := by omega
    subst hjl
    clear again
    rw [List.take_length, ← hpl]
    refine walk ?_
    refine E.nilOwn (e := 58) (sz := 18) ?_
    refine y_tn (Tn.close (L := [])) fun _ _ => ?_
    refine e_roundsT (ι := List ND × (Option Addr × Nat) × (Value × Value × Value × Value)) (fun z => v.inos.length - z.1.length)
      (fun z => [ptrV v.vg, undef, ptrV g2, ptrV g3, .slice (some ⟨g4, 0, none⟩) m m, w5, w6, undef, z.2.2.1, z.2.2.2.1, undef, z.2.2.2.2.1, undef, z.2.2.2.2.2])
      (fun z => [(46, .int .i64 (z.1.length : Nat)), (45, .int .i64 (v.inos.length : Nat)), (44, .slice AI v.inos.length cI)])
      (fun z => [Own z.2.1.1 z.2.1.2 58 18 z.1.length (noVs z.1), HP.star (z.1.map noP), Own (some ⟨g4, 0, none⟩) m 3 1 m (intV pl), Cells g3 50 [.slice z.2.1.1 z.1.length z.2.1.2], Cells g2 50 [.slice none 0 0], Cells v.vg 71 (vsC v AI cI gO cO), Own AI cI 74 23 v.inos.length (inC v.inos rs), Own (some ⟨gO, 0, none⟩) cO 5 1 v.nb (enc (ownB v.nb v.cl)), HP.star (inP v.inos rs)])
      (fun z => z.1.length ≤ v.inos.length ∧ z.1.map (·.x) = v.inos.take z.1.length ∧ z.1.map (·.a) = rs.take z.1.length ∧ z.1.map (·.ks) = kss.take z.1.length) ([], (none, 0), (undef, undef, undef, undef)) ⟨Nat.zero_le _, rfl, rfl, rfl⟩ rfl (by repeat constructor) (by exact .cons (.there .here) (.cons .here (.cons .here (.cons .here (.cons .here (.cons .here (.cons .here (.cons .here (.cons .here .nil))))))))) ?_
    rintro ⟨qs, ⟨A, c⟩, w8, w9, w11, w13⟩ ⟨hql, hqx, hqa, hqk⟩ again
    dsimp only at hql hqx hqa hqk again ⊢
    obtain ⟨j, hj⟩ : ∃ j, j = qs.length := ⟨_, rfl⟩
    rw [← hj] at hql hqx hqa hqk ⊢
    by_cases hlt : j < v.inos.length
    · obtain ⟨y, hy⟩ : ∃ y, v.inos[j]? = some y := ⟨_, List.getElem?_eq_getElem hlt⟩
      obtain ⟨a, ha⟩ : ∃ a, rs[j]? = some a := ⟨_, List.getElem?_eq_getElem (by omega)⟩
      obtain ⟨ks, hks', hok'⟩ := hnum j y hy
      obtain ⟨o1, o2, o3, o4, o5, o6, o7⟩ := hok'
      have hky := kindOf_fn y.mode o2
      refine E.know (A := Own AI cI 74 23 v.inos.length (inC v.inos rs)) take_ (fun _ _ => Own.know) fun hk => ?_
      obtain ⟨k1, k2, k3, k4⟩ := hk
      cases AI with
      | none => have := k3 rfl; omega
      | some ad =>
      obtain ⟨gA, rfl⟩ := k4 ad rfl
      refine walk ?_
      refine y_loadS (vs := inC v.inos rs) (us := riC y a) (j * 23) (inC_get _ _ j y a hy ha) ?_
      refine walk ?_
      refine y_alloc fun g8 => ?_
      refine walk ?_
      refine y_alloc fun g9 => ?_
      refine walk ?_
      refine y_callq rfl rfl hky ?_
      refine walk ?_
      rw [show (Value.string ⟨#[]⟩) = .string (str []) from rfl]
      refine e_cont (ι := Unit) (fun _ => [ptrV v.vg, undef, ptrV g2, ptrV g3, .slice (some ⟨g4, 0, none⟩) m m, w5, w6, undef, ptrV g8, ptrV g9, undef, w11, undef, w13]) (fun _ => [(46, .int .i64 (j : Nat)), (45, .int .i64 (v.inos.length : Nat)), (44, .slice (some ⟨gA, 0, none⟩) v.inos.length cI)]) (fun _ => [Cells g9 58 (noC y.mode y.uid y.gid (ndAd ⟨y, a, ⟨none, 0, none, 0⟩, []⟩) (ndLn ⟨y, a, ⟨none, 0, none, 0⟩, []⟩) (ndCp ⟨y, a, ⟨none, 0, none, 0⟩, []⟩) (.slice none 0 0) (.slice none 0 0)), Cells g8 74 (riC y a), Own A c 58 18 j (noVs qs), HP.star (qs.map noP), Own (some ⟨g4, 0, none⟩) m 3 1 m (intV pl), Cells g3 50 [.slice A j c], Cells g2 50 [.slice none 0 0], Cells v.vg 71 (vsC v (some ⟨gA, 0, none⟩) cI gO cO), Own (some ⟨gA, 0, none⟩) cI 74 23 v.inos.length (inC v.inos rs), Own (some ⟨gO, 0, none⟩) cO 5 1 v.nb (enc (ownB v.nb v.cl)), HP.star (inP v.inos rs)]) (fun _ => True) (fun rest => ?_) ?_
      · have r := rest () trivial
        clear rest
        rcases o5 with h1 | h1
        · rw [show ndAd ⟨y, a, ⟨none, 0, none, 0⟩, []⟩ = a.A from if_pos h1, show ndLn ⟨y, a, ⟨none, 0, none, 0⟩, []⟩ = y.data.length from if_pos h1, show ndCp ⟨y, a, ⟨none, 0, none, 0⟩, []⟩ = a.c from if_pos h1] at r
          refine e_cond rfl (fun ht => ?_) (fun hf => ?_)
          · refine (is_reg ?_)
            refine e_regionK ?_ (by first | ((repeat (first | exact KeepR.nil | apply KeepR.yes rfl | apply KeepR.no rfl)) <;> fail) | fail)
            refine walkO ?_
            refine x_end ?_
            exact r.toP (ks := [46, 45, 44]) rfl (by repeat constructor) sub_
          · rw [h1] at hf
            exact absurd hf (by decide)
        · rw [show ndAd ⟨y, a, ⟨none, 0, none, 0⟩, []⟩ = none from if_neg (by show ¬ ftN y.mode = 1; omega), show ndLn ⟨y, a, ⟨none, 0, none, 0⟩, []⟩ = 0 from if_neg (by show ¬ ftN y.mode = 1; omega), show ndCp ⟨y, a, ⟨none, 0, none, 0⟩, []⟩ = 0 from if_neg (by show ¬ ftN y.mode = 1; omega)] at r
          refine e_cond rfl (fun ht => ?_) (fun hf => ?_)
          · rw [h1] at ht
            exact absurd ht (by decide)
          · refine e_seq ?_
            refine (is_reg ?_)
            refine e_regionK ?_ (by first | ((repeat (first | exact KeepR.nil | apply KeepR.yes rfl | apply KeepR.no rfl)) <;> fail) | fail)
            refine walkO ?_
            refine x_end ?_
            refine e_false rfl ?_
            refine e_skip ?_
            exact r.toP (ks := [46, 45, 44]) rfl (by repeat constructor) sub_
      · rintro _ _
        refine walk ?_
        refine y_loop ?_
        refine walk ?_
        obtain ⟨F, hT1, hT2⟩ := inP_out v.inos rs j y a hy ha
        refine y_tn hT1 fun _ _ => ?_
        refine E.nilOwn (e := 9) (sz := 1) ?_
        refine E.nilOwn (e := 3) (sz := 1) ?_
        obtain ⟨dA, hdA⟩ : ∃ dA, dA = ndAd ⟨y, a, ⟨none, 0, none, 0⟩, []⟩ := ⟨_, rfl⟩
        obtain ⟨dN, hdN⟩ : ∃ dN, dN = ndLn ⟨y, a, ⟨none, 0, none, 0⟩, []⟩ := ⟨_, rfl⟩
        obtain ⟨dC, hdC⟩ : ∃ dC, dC = ndCp ⟨y, a, ⟨none, 0, none, 0⟩, []⟩ := ⟨_, rfl⟩
        rw [← hdA, ← hdN, ← hdC]
        refine e_roundsT (ι := Nat × List (List UInt8 × Nat) × RIA × Value) (fun z => y.ents.length - z.1)
          (fun z => [ptrV v.vg, undef, ptrV g2, ptrV g3, .slice (some ⟨g4, 0, none⟩) m m, w5, w6, undef, ptrV g8, ptrV g9, undef, w11, undef, z.2.2.2])
          (fun z => [(102, .int .i64 (z.1 : Nat)), (101, .int .i64 (y.ents.length : Nat)), (100, .slice a.A' y.ents.length a.c'), (46, .int .i64 (j : Nat)), (45, .int .i64 (v.inos.length : Nat)), (44, .slice (some ⟨gA, 0, none⟩) v.inos.length cI)])
          (fun z => [Own z.2.2.1.A z.2.2.1.c 9 1 z.2.1.length (nmV z.2.1), Own z.2.2.1.A' z.2.2.1.c' 3 1 z.2.1.length (kdV z.2.1), Cells g9 58 (noC y.mode y.uid y.gid dA dN dC (.slice z.2.2.1.A z.2.1.length z.2.2.1.c) (.slice z.2.2.1.A' z.2.1.length z.2.2.1.c')), Cells g8 74 (riC y a), Own A c 58 18 j (noVs qs), HP.star (qs.map noP), Own (some ⟨g4, 0, none⟩) m 3 1 m (intV pl), Cells g3 50 [.slice A j c], Cells g2 50 [.slice none 0 0], Cells v.vg 71 (vsC v (some ⟨gA, 0, none⟩) cI gO cO), Own (some ⟨gA, 0, none⟩) cI 74 23 v.inos.length (inC v.inos rs), Own (some ⟨gO, 0, none⟩) cO 5 1 v.nb (enc (ownB v.nb v.cl)), Own a.A a.c 5 1 y.data.length (enc y.data), Own a.A' a.c' 80 3 y.ents.length (entC y.ents), HP.star F])
          (fun z => z.1 ≤ y.ents.length ∧ KsR pl (y.ents.drop z.1) z.2.1 ks) (0, [], ⟨none, 0, none, 0⟩, w13) ⟨Nat.zero_le _, o6⟩ rfl (by repeat constructor) (by exact .cons (.there .here) (.cons .here (.cons (.there (.there (.there .here))) sub_))) ?_
        rintro ⟨i, kc, ⟨rA, rc, rA', rc'⟩, u13⟩ ⟨hi, hkr⟩ again2
        dsimp only at hi hkr again2 ⊢
        by_cases hle : i < y.ents.length
        · obtain ⟨e, he⟩ : ∃ e, y.ents[i]? = some e := ⟨_, List.getElem?_eq_getElem hle⟩
          have hdr : y.ents.drop i = e :: y.ents.drop (i + 1) := by
            obtain ⟨h1, h2⟩ := List.getElem?_eq_some_iff.1 he
            rw [List.drop_eq_getElem_cons h1, h2]
          rw [hdr] at hkr
          refine E.know (A := Own a.A' a.c' 80 3 y.ents.length (entC y.ents)) take_ (fun _ _ => Own.know) fun hk => ?_
          obtain ⟨q1, q2, q3, q4⟩ := hk
          obtain ⟨aA, ac, aA', ac'⟩ := a
          dsimp only at q1 q2 q3 q4 ⊢
          cases aA' with
          | none => have := q3 rfl; omega
          | some ad =>
          obtain ⟨ge, rfl⟩ := q4 ad rfl
          refine walk ?_
          refine y_loadS (vs := entC y.ents) (us := [.string (str e.1), .int .u64 (e.2.1 : Int), .int .u64 (e.2.2 : Int)]) (i * 3) (entC_get y.ents i e he) ?_
          refine walk ?_
          refine y_alloc fun g13 => ?_
          refine walk ?_
          cases hkr with
          | dot hd hr' =>
            have ag := again2 (i + 1, kc, ⟨rA, rc, rA', rc'⟩, ptrV g13) (by dsimp only; omega) ⟨by dsimp only; omega, hr'⟩
            dsimp only at ag
            rcases hd with hd | hd
            · rw [show (e.1 != [46]) = false from by rw [hd]; rfl]
              refine walk ?_
              exact ag.toP (ks := [102, 101, 100, 46, 45, 44]) rfl (by repeat constructor) sub_
            · rw [show (e.1 != [46]) = true from by rw [hd]; rfl]
              refine walk ?_
              rw [show (e.1 != [46, 46]) = false from by rw [hd]; rfl]
              refine walk ?_
              exact ag.toP (ks := [102, 101, 100, 46, 45, 44]) rfl (by repeat constructor) sub_
          | @ent _ _ _ _ k n1 n2 hpk hk1 hkl hhn hr' =>
            have hem := (List.getElem?_eq_some_iff.1 hpk).1
            rw [hpll] at hem
            rw [show (e.1 != [46]) = true from by simpa using n1]
            refine walk ?_
            rw [show (e.1 != [46, 46]) = true from by simpa using n2]
            refine walk ?_
            refine y_loadO e.2.1 (intV_get hpk) ?_
            refine walk ?_
            refine y_callE rfl rfl (with_fn y.mode y.uid y.gid rc rc' k dN dC dA rA rA' kc e.1 (by omega) hhn hk1) fun q _ => ?_
            refine walk ?_
            have ag := again2 (i + 1, insN kc e.1 k, ⟨q.1.1, q.1.2, q.2.1, q.2.2⟩, ptrV g13) (by dsimp only; omega) ⟨by dsimp only; omega, hr'⟩
            dsimp only at ag
            exact ag.toP (ks := [102, 101, 100, 46, 45, 44]) rfl (by repeat constructor) sub_
        · have hie : i = y.ents.length := by omega
          subst hie
          rw [List.drop_length] at hkr
          cases hkr
          clear again2
          refine walk ?_
          refine y_build (vs := [.agg (noC y.mode y.uid y.gid dA dN dC (.slice rA ks.length rc) (.slice rA' ks.length rc')).toArray]) (cs := noC y.mode y.uid y.gid dA dN dC (.slice rA ks.length rc) (.slice rA' ks.length rc')) rfl (fill_one (n := 18) [.int .u16 0, .int .u32 0, .int .u32 0, .int .i64 0, .int .i64 0, .int .i64 0, .int .i64 0, .int .i64 0, .int .i64 0, .int .i64 0, .int .i64 0, .int .u32 0, .int .u32 0, .slice none 0 0, .string ⟨#[]⟩, .slice none 0 0, .slice none 0 0, .slice none 0 0] _ rfl rfl (by omega)) rfl fun gs => ?_
          refine walk ?_
          refine x_app (vs := noVs qs) (news := noC y.mode y.uid y.gid dA dN dC (.slice rA ks.length rc) (.slice rA' ks.length rc')) rfl rfl take_ (by exact ⟨rfl, .inr ⟨_, _, rfl, (by first | ((repeat (first | exact CellRow.own | exact CellRow.here | apply CellRow.there)) <;> fail) | fail)⟩⟩) (fun h => by cases h) (by simp [Value.oneCell']) (by rfl) (by omega) (by simp only [maxLen]; omega) (by omega) (fun A5 c5 => ⟨_, _, pt_, ?_⟩)
          refine walk ?_
          subst hdA hdN hdC
          have hP := noP_add qs ⟨y, a, ⟨rA, rc, rA', rc'⟩, ks⟩
          dsimp only at hP
          refine y_tn hP fun _ _ => ?_
          refine y_tn hT2 fun _ _ => ?_
          have hnv : noVs qs ++ noC y.mode y.uid y.gid (ndAd ⟨y, a, ⟨none, 0, none, 0⟩, []⟩) (ndLn ⟨y, a, ⟨none, 0, none, 0⟩, []⟩) (ndCp ⟨y, a, ⟨none, 0, none, 0⟩, []⟩) (.slice rA ks.length rc) (.slice rA' ks.length rc') = noVs (qs ++ [⟨y, a, ⟨rA, rc, rA', rc'⟩, ks⟩]) := by
            rw [noVs_app]
            simp only [noVs, List.append_nil]
            rfl
          rw [hnv]
          have hq1 : (qs ++ [(⟨y, a, ⟨rA, rc, rA', rc'⟩, ks⟩ : ND)]).length = j + 1 := by simp [hj]
          have ag := again (qs ++ [⟨y, a, ⟨rA, rc, rA', rc'⟩, ks⟩], (A5, c5), (ptrV g8, ptrV g9, w11, u13)) (by dsimp only; rw [hq1]; omega) ⟨by dsimp only; rw [hq1]; omega, by dsimp only; rw [hq1, List.map_append, hqx, List.take_add_one, hy]; rfl, by dsimp only; rw [hq1, List.map_append, hqa, List.take_add_one, ha]; rfl, by dsimp only; rw [hq1, List.map_append, hqk, List.take_add_one, hks']; rfl⟩
          dsimp only at ag
          rw [hq1] at ag
          exact ag.toP (ks := [46, 45, 44]) rfl (by repeat constructor) sub_
    · have hjl : j = v.inos.length := by omega
      clear again
      have hrl : rs.take j = rs := List.take_of_length_le (by omega)
      have hxl : v.inos.take j = v.inos := List.take_of_length_le (by omega)
      have hkl : kss.take j = kss := List.take_of_length_le (by omega)
      rw [hrl] at hqa
      rw [hxl] at hqx
      rw [hkl] at hqk
      rw [hjl]
      refine walk ?_
      refine y_tn (Tn.close (L := vsX v AI cI gO cO rs)) fun _ _ => ?_
      rw [← hqa]
      exact y_retC 2 rfl (by first | ((repeat (first | ((with_reducible apply Rows.here); (focus (repeat constructor))) | (with_reducible apply Rows.there))) <;> fail) | fail) ⟨((A, c), qs, (AI, cI, gO, cO)), ⟨hqx, hqk⟩, rfl, rfl⟩
end Go.Proofs.YtppkiiomedembaaGreatDoor
namespace Go.Proofs.YtppkiiomedembaaGreatDoor
open Go
set_option maxRecDepth 100000
set_option maxHeartbeats 1000000
def headR : Code → Nat
  | .region id _ _ => id
  | .seq a _ => headR a
  | _ => 1000000
def fromC (id : Nat) : Code → Code
  | .seq a b => bif Nat.beq (headR a) id then .seq a b else fromC id b
  | c => c
instance : ZeroOf Tryz.prog 211 (List.replicate 8192 (.int .u8 0)) := ⟨by kernel_rfl⟩
instance : ZeroOf Tryz.prog 196 (List.replicate 4096 (.int .u8 0)) := ⟨by kernel_rfl⟩
theorem zeroSB {pl : List (Nat × Nat)} {z : List Value} [h : BldTy Tryz.prog 231 pl z] : ZeroOf Tryz.prog 231 z := ⟨h.hz⟩
theorem made_len (z : List Value) (n : Nat) : (madeCells z.toArray n).toList.length = n := by rw [Array.length_toList, size_madeCells]
theorem made_get (z : List Value) (n i : Nat) (hi : i < n) : ((madeCells z.toArray (n * z.length)).toList.drop (i * z.length)).take z.length = z := by
  have hle : (i + 1) * z.length ≤ n * z.length := Nat.mul_le_mul_right _ hi
  rw [Nat.add_mul] at hle
  apply List.ext_getElem?
  intro j
  by_cases hj : j < z.length
  · have h1 : i * z.length + j < n * z.length := by omega
    have h2 : (i * z.length + j) % z.length = j := by rw [Nat.mul_comm, Nat.mul_add_mod, Nat.mod_eq_of_lt hj]
    rw [List.getElem?_take_of_lt hj, List.getElem?_drop, madeCells, Array.getElem?_toList, Array.getElem?_map, Array.getElem?_range]
    simp [h1, h2, hj]
  · rw [List.getElem?_eq_none (by simp; omega), List.getElem?_eq_none (by omega)]
attribute [local irreducible] E EO
section
variable {X : Fx} {ops : Array Oper} {cf : Nat → Cls} {k : List Item} {i : Nat} {is : List Nat} {l : List Oper} {loc loc' : List Value} {tmp tmp' : List (Nat × Value)} {L L' F M : List HP}
  {d : Option Tmp} {ty : TypeId} {pos : String} {aft : Array Edge} {gd : Option (Nat × Bool)} {locf : Nat → List Value} {tmpf : Nat → List (Nat × Value)}
theorem y_makeM {t e sz b n : Nat} {z : List Value} {K K' : IntKind} {x y : Operand} [SlE X.P t e sz b z] (hx : sv loc tmp x = some (.int K (n : Int))) (hy : sv loc tmp y = some (.int K' (n : Int)))
    (h : ∀ g, EO X ops cf k is l (locf g) (tmpf g) (Own (some ⟨g, 0, none⟩) n e sz n (madeCells z.toArray (n * sz)).toList :: L))
    (hb : b * n ≤ 281474976710656 := by omega) (h63 : n ≤ 1000000000 := by omega)
    (hp : ∀ g, Pt loc tmp d (.slice (some ⟨g, 0, none⟩) n n) (locf g) (tmpf g) := by intro g; first | exact Pt.tmp rfl | exact Pt.none | exact Pt.loc (by repeat constructor))
    (hg : gdv ops loc tmp gd = some true := by rfl) (hd : dOK X.n d = true := by rfl) (hcl : (cf i).news = true := by rfl) (hq : X.q = false := by rfl) : EO X ops cf k (i :: is) (⟨d, .makeSlice t x y, ty, pos, aft, gd⟩ :: l) loc tmp L :=
  x_new (Rv := fun v L'' => ∃ g, v = .slice (some ⟨g, 0, none⟩) n n ∧ L'' = Own (some ⟨g, 0, none⟩) n e sz n (madeCells z.toArray (n * sz)).toList :: L) hg hcl (fun a hrl w0 S0 w hs q => by
    obtain ⟨hu, j, zv, hj, hjs, hjb, hjz, hzv⟩ := SlE.out (P := X.P) (T := t) (e := e) (sz := sz) (b := b) (z := z)
    have hzc : zv.cells = z.toArray := by apply Array.ext'; simpa using hzv
    have hrun := run_make (P := X.P) (wat w q) t e j zv hu hj hjz K K' n n (by omega) (Int.le_refl _) (by rw [hjb]; omega) (by omega)
    rw [hzc, hjs] at hrun
    simp only [Int.toNat_natCast] at hrun
    have h1 := (hs.wat q).made e sz n n (madeCells z.toArray (n * sz)).toList (by rw [made_len]) (Nat.le_refl _) (by simp only [maxLen]; omega)
    rw [List.take_of_length_le (by rw [made_len]; exact Nat.le_refl _)] at h1
    simp [RunN, execOp, hrl.ev hx, hrl.ev hy, hrun]
    refine ⟨?_, ?_⟩
    · exact fun x o hx => (heap_alloc_old (wat w q) _ (Array.getElem?_eq_some_iff.1 hx).1).trans hx
    · rw [hq]; simpa using h1) hd (fun v L'' ⟨g, e1, e2⟩ => by subst e1 e2; exact ⟨_, _, hp g, h g⟩)
theorem x_storeAR {T m g o : Nat} {x y : Operand} {us : List Value} [AggSz X.P T m] (hx : sv loc tmp x = some (.pointer (some ⟨g, o, none⟩))) (hy : sv loc tmp y = some (.agg us.toArray)) (hm : us.length = m) (hu : us.all (·.oneCell') = true) (hw : PutR L g o us L') (h : EO X ops cf k is l loc tmp L')
    (hg : gdv ops loc tmp gd = some true := by rfl) (hcl : cf i = .any := by rfl) (hq : X.q = false := by rfl) : EO X ops cf k (i :: is) (⟨none, .store T x y, ty, pos, aft, gd⟩ :: l) loc tmp L :=
  x_any (Rv := fun _ L'' => L'' = L') hg hcl (fun a hr w0 S0 w hs n => by
    obtain ⟨dd, j, _, hdd, hj, hz⟩ := AggSz.out (P := X.P) (T := T) (n := m)
    obtain ⟨cur, t, hgc, hl, hs'⟩ := hw.st (hs.wat n)
    have hcs : (Value.agg us.toArray).cells = us.toArray := rfl
    have hst := run_storeCells_at X.P g o t us 0 cur (wat w n) hgc (by simpa using hl) (fun v hv => List.all_eq_true.1 hu v hv)
    simp only [Nat.add_zero] at hst
    have e : Proofs.YtppkiiomedembaaGreatDoor.ovw cur.toList o us = cur.toList.take o ++ us ++ cur.toList.drop (o + us.length) := rfl
    rw [e] at hs'
    have hrun : (Instr.storeAt T (.pointer (some ⟨g, o, none⟩)) (.agg us.toArray)).run X.P (wat w n) = (storeCells ⟨g, o, none⟩ us).run X.P (wat w n) := by
      simp [Instr.storeAt, Instr.sureAddr, storeVar, sizeOf, typeInfo, hj, hz, hcs, hm]
    simp [RunN, execOp, hr.ev hx, hr.ev hy, hrun, hst]
    rw [hq]
    simpa using hs') rfl (fun v L'' e => by subst e; exact ⟨_, _, .none, h⟩)
theorem PutR.of_takeR {L F : List HP} {g c e sz n o : Nat} {vs us : List Value} (h : Take (Own (some ⟨g, 0, none⟩) c e sz n vs) L F) (ho : o + us.length ≤ vs.length) : ∃ L', PutR L g o us L' ∧ L'.Perm (Own (some ⟨g, 0, none⟩) c e sz n (ovw vs o us) :: F) := by
  generalize hA : Own (some ⟨g, 0, none⟩) c e sz n vs = A at h
  induction h with
  | here => subst hA; exact ⟨_, .own ho, List.Perm.refl _⟩
  | there _ ih =>
    obtain ⟨L', h1, h2⟩ := ih
    exact ⟨_, .there h1, (h2.cons _).trans (List.Perm.swap _ _ _)⟩
theorem y_storeM {T m g C e sz N p o : Nat} {x y : Operand} {us vs : List Value} [AggSz X.P T m] (ho : o + us.length ≤ vs.length) (h : EO X ops cf k is l loc tmp (Own (some ⟨g, 0, none⟩) C e sz N (ovw vs o us) :: F))
    (hx : sv loc tmp x = some (.pointer (some ⟨g, p, none⟩)) := by rfl) (hy : sv loc tmp y = some (.agg us.toArray) := by rfl) (hpo : p = o := by omega) (ht : Take (Own (some ⟨g, 0, none⟩) C e sz N vs) L F := by exact take_) (hm : us.length = m := by rfl) (hu : us.all (·.oneCell') = true := by rfl)
    (hg : gdv ops loc tmp gd = some true := by rfl) (hcl : cf i = .any := by rfl) (hq : X.q = false := by rfl) : EO X ops cf k (i :: is) (⟨none, .store T x y, ty, pos, aft, gd⟩ :: l) loc tmp L := by
  subst hpo
  obtain ⟨L', h1, h2⟩ := PutR.of_takeR (us := us) ht ho
  exact x_storeAR hx hy hm hu h1 (EO.perm h2 h) hg hcl hq
end
section
variable {X : Fx} {ops : Array Oper} {cf : Nat → Cls} {k : List Item} {i : Nat} {is : List Nat} {l : List Oper} {loc loc' : List Value} {tmp tmp' : List (Nat × Value)} {L L' F M : List HP}
  {d : Option Tmp} {ty : TypeId} {pos : String} {aft : Array Edge} {gd : Option (Nat × Bool)}
theorem CellRow.cellsT {g t : Nat} {cs : List Value} {L F : List HP} (ht : Take (Cells g t cs) L F) : CellRow L g 0 cs := fun j v hj m S hS => by
  obtain ⟨S1, S2, h1, _⟩ := sats_perm ht.perm hS
  exact ((CellRow.here (g := g) (t := t) (cs := cs) (L := F)) j v hj) m S (sats_perm ht.perm hS)
theorem y_loadCell {T g p a t : Nat} {x : Operand} {v : Value} {cs : List Value} [OneCell X.P T] (hv : cs[a]? = some v) (h : EO X ops cf k is l loc' tmp' L) (hx : sv loc tmp x = some (.pointer (some ⟨g, p, none⟩)) := by rfl) (ht : Take (Cells g t cs) L F := by exact take_) (he : p = 0 + a := by omega) (hp : Pt loc tmp d v loc' tmp' := by exact pt_)
    (hg : gdv ops loc tmp gd = some true := by rfl) (hd : dOK X.n d = true := by rfl) (hcl : (cf i).reads = true := by rfl) : EO X ops cf k (i :: is) (⟨d, .load T x, ty, pos, aft, gd⟩ :: l) loc tmp L := by
  subst he
  exact x_load hx (CellRow.cellsT ht a v hv) hp h hg hd hcl
theorem PutR.of_takeC {L F : List HP} {g t a : Nat} {vs : List Value} {u : Value} (h : Take (Cells g t vs) L F) (ha : a < vs.length) : ∃ L', PutR L g a [u] L' ∧ L'.Perm (Cells g t (vs.set a u) :: F) := by
  generalize hA : Cells g t vs = A at h
  induction h with
  | here =>
    subst hA
    refine ⟨_, .cells (by simp; omega), ?_⟩
    rw [show ovw vs a [u] = vs.set a u from by
      unfold ovw
      rw [List.set_eq_take_append_cons_drop, if_pos ha]
      simp]
  | there _ ih =>
    obtain ⟨L', h1, h2⟩ := ih
    exact ⟨_, .there h1, (h2.cons _).trans (List.Perm.swap _ _ _)⟩
theorem y_storeCell {T g p a t : Nat} {x y : Operand} {u : Value} {vs : List Value} [OneCell X.P T] (ha : a < vs.length) (h : EO X ops cf k is l loc tmp (Cells g t (vs.set a u) :: F))
    (hx : sv loc tmp x = some (.pointer (some ⟨g, p, none⟩)) := by rfl) (hy : sv loc tmp y = some u := by rfl) (hpa : p = a := by omega) (ht : Take (Cells g t vs) L F := by exact take_) (hu : u.oneCell' = true := by rfl)
    (hg : gdv ops loc tmp gd = some true := by rfl) (hcl : cf i = .any := by rfl) (hq : X.q = false := by rfl) : EO X ops cf k (i :: is) (⟨none, .store T x y, ty, pos, aft, gd⟩ :: l) loc tmp L := by
  subst hpa
  obtain ⟨L', h1, h2⟩ := PutR.of_takeC (u := u) ht ha
  exact x_storeR hx hy hu h1 (EO.perm h2 h) hg hcl hq
theorem pow8 {b : Nat} (h : b < 8) : IntKind.u8.wrap ((1 * 2 ^ b : Nat) : Int) = ((2 ^ b : Nat) : Int) ∧ 2 ^ b < 256 := by
  match b, h with
  | 0, _ => decide
  | 1, _ => decide
  | 2, _ => decide
  | 3, _ => decide
  | 4, _ => decide
  | 5, _ => decide
  | 6, _ => decide
  | 7, _ => decide
theorem y_shlBit {T T' : Nat} {x y : Operand} {K' : IntKind} {b pw : Nat} (hpw : 2 ^ b = pw) (hb : b < 8) (h : EO X ops cf k is l loc' tmp' L) (hx : sv loc tmp x = some (.int .u8 1) := by rfl) (hy : sv loc tmp y = some (.int K' (b : Int)) := by rfl) (hp : Pt loc tmp d (.int .u8 (pw : Int)) loc' tmp' := by exact pt_)
    (hg : gdv ops loc tmp gd = some true := by rfl) (hd : dOK X.n d = true := by rfl) : EO X ops cf k (i :: is) (⟨d, .binOp .shl T x y T', ty, pos, aft, gd⟩ :: l) loc tmp L := by
  subst hpw
  exact x_shlN (a := 1) (b := b) hx hy (by simp only [IntKind.bits]; omega) (pow8 hb).1 hp h hg hd
end
def gdB (a0 a1 a2 a3 a4 a5 : Nat) : List UInt8 := (leB 4 a0 ++ leB 4 a1 ++ leB 4 a2 ++ leB 2 a3 ++ leB 2 a4 ++ leB 2 a5 ++ List.replicate 14 0) ++ List.replicate 4064 0
def sblkB (ic nb fb fi pi inc : Nat) : List UInt8 := List.replicate 1024 0 ++ sbB ic nb fb fi pi inc ++ List.replicate 2048 0
theorem lay_mid {A M C bs : List UInt8} (p : Nat) (hp : p = A.length) (h : M.length = bs.length) : lay (A ++ M ++ C) p bs = A ++ bs ++ C := by
  subst hp
  rw [lay_in (by simp; omega)]
  rw [List.append_assoc A M C, List.take_left, List.drop_append, List.drop_of_length_le (by omega), List.nil_append, show A.length + bs.length - A.length = bs.length by omega, ← h, List.drop_left]
theorem block_w (s : Ws) (it : Nat) (h : s.body.length = (it - 2) * 4096) (h2 : 2 ≤ it) (h3 : it ≤ 30000) : Qn Tryz.prog 100 #[ptrV s.wg] [WP s] (.int .u32 (it : Int)) := by
  refine y_fn2 WP.op fun A c _ => ?_
  have hb := block_fn s.wg (ptrV s.dg) (.slice A s.ids.length c) (.string s.cname) (optV s.cur) (.int .i64 (s.dw : Int)) (.int .i64 (s.dm : Int)) .nilIface (.bool true) (.bool s.inl) (.int .i64 ((17179869184 : Nat) : Int)) (.int .u32 1) (8192 + s.body.length) (by omega)
  rw [show (8192 + s.body.length) / 4096 = it by omega] at hb
  intro w S hS
  have hS0 := hS
  obtain ⟨S1, S2, a1, a2, a3, a4⟩ := hS
  refine (hb w S1 (sats_one a1)).mono fun v w' h' => ?_
  obtain ⟨L'', hv, hst⟩ := h'
  have e := hst.same rfl
  have h9 := (St.start (q := true) hS0).nrm
  rw [← e] at h9
  exact ⟨_, hv, h9.of_nrm⟩
theorem run_bldF {P : Program} {T : Nat} {pl : List (Nat × Nat)} {z cs : List Value} {fs : Array Field} {parts : Array (Nat × Value)} [hb : BldTy P T pl z] (hu : P.underlying T = some (.struct fs)) (h : Instr.fill (fun i => pl.toArray[i]?) z.toArray parts.toList = some cs.toArray) (w : World) : (Instr.build T parts).run P w = .ok (.agg cs.toArray) w := by
  have hz := hb.hz
  have hp := hb.hp
  refine run_build w T parts _ ?_
  cases hi : P.info? T with
  | none => rw [hi] at hz; cases hz
  | some it =>
    cases hzz : it.zero with
    | none => rw [hi] at hz; simp [hzz] at hz
    | some zv =>
      rw [hi] at hz
      simp only [Option.bind_some, hzz, Option.map_some, Option.some.injEq] at hz
      have hzc : zv.cells = z.toArray := by apply Array.ext'; simpa using hz
      have hpl := placesOf_struct hu hp
      simp only [Program.built, hi, hu, hzz, hpl, hzc]
      exact h
section
variable {X : Fx} {ops : Array Oper} {cf : Nat → Cls} {k : List Item} {i : Nat} {is : List Nat} {l : List Oper} {loc loc' : List Value} {tmp tmp' : List (Nat × Value)} {L L' F M N : List HP}
  {d : Option Tmp} {ty : TypeId} {pos : String} {aft : Array Edge} {gd : Option (Nat × Bool)}
theorem x_bldF {T : Nat} {pl : List (Nat × Nat)} {z : List Value} {ps : List (Nat × Operand)} {vs : List Value} {fs : Array Field} [BldTy X.P T pl z] (cs : List Value) (hu : X.P.underlying T = some (.struct fs)) (hv : svs loc tmp (ps.map (·.2)) = some vs) (hf : Instr.fill (fun i => pl.toArray[i]?) z.toArray ((ps.map (·.1)).zip vs) = some cs.toArray)
    (hp : Pt loc tmp d (.agg cs.toArray) loc' tmp') (h : EO X ops cf k is l loc' tmp' L)
    (hg : gdv ops loc tmp gd = some true := by rfl) (hd : dOK X.n d = true := by rfl) : EO X ops cf k (i :: is) (⟨d, .build T ps.toArray, ty, pos, aft, gd⟩ :: l) loc tmp L :=
  x_pure hg (fun a hrl w => by
    have hps : (ps.toArray.map fun (i, x) => (i, a.eval x)).toList = (ps.map (·.1)).zip vs := by
      rw [← hrl.evs hv]
      simp only [List.map_toArray]
      clear hf hv
      induction ps with
      | nil => rfl
      | cons p ps ih => simp only [List.map_cons, List.zip_cons_cons]; rw [ih]
    have := run_bldF (P := X.P) (T := T) (parts := ps.toArray.map fun (i, x) => (i, a.eval x)) hu (hps ▸ hf) w
    simp only [execOp, Sem.run_bind, this, Result.andThen_ok, Sem.run_pure]) hp hd h
end
theorem ovw_all {cs us : List Value} (h : cs.length = us.length) : ovw cs 0 us = us := by
  unfold ovw
  rw [List.take_zero, List.nil_append, Nat.zero_add, ← h, List.drop_length, List.append_nil]
theorem sbB_len (ic nb fb fi pi inc : Nat) : (sbB ic nb fb fi pi inc).length = 1024 := by kernel_rfl
theorem usSB : ∃ fs, (Tryz.prog).underlying 231 = some (.struct fs) := by
  have h : ((Tryz.prog).underlying 231).isSome && (match (Tryz.prog).underlying 231 with | some (.struct _) => true | _ => false) = true := by kernel_rfl
  split at h
  · exact ⟨_, by assumption⟩
  · simp at h
theorem closeT (wg dg it pi bo nu : Nat) (il : Bool) (A : Option Addr) (c idn dw dm : Nat) (cn : ByteArray) (cu : Value) (BB : List UInt8) (v4 v17 v22 v23 v24 v25 v27 v28 v29 v30 v31 v32 v33 v34 v36 : Value) (R : Value → List HP → Prop) (hp4 : pi ≤ 6000) (hbo : bo ≤ 25000) (hnu : nu ≤ pi) (hBB : BB.length = (bo + 2) * 4096)
    (hR : R .nilIface [DiskP dg ((bo + 2) * 4096) (sblkB pi (bo + 2) 0 (pi - nu) pi (if il then 33346 else 578) ++ BB.drop 4096)]) :
    E ⟨Tryz.prog, 45, Tryz.f45, R, 385, false, Tryz.func45, none⟩ [.code (fromC 86 (Tryz.f45.body.getD .skip))] [ptrV wg, undef, .nilIface, .nilIface, v4, .nilIface, .nilIface, .int .u32 (it : Int), .int .u32 (1 : Nat), .int .u32 (pi : Int), .nilIface, .int .u32 (bo : Int), .int .u32 (2 : Nat), .int .u32 (bo + 2 : Nat), .int .u32 (bo + 2 : Nat), .int .u32 (1 : Nat), .int .u32 (1 : Nat), v17, .int .u32 (pi / 16 : Nat), .int .u32 (32768 : Nat), .int .u32 (nu : Nat), .int .u32 (1 : Nat), v22, v23, v24, v25, undef, v27, v28, v29, v30, v31, v32, v33, v34, undef, v36, undef, undef, undef, undef] []
      [Cells wg 174 [ptrV dg, .slice A idn c, .string cn, cu, .int .i64 (4096 : Nat), .int .i64 (dw : Int), .int .i64 (dm : Int), .nilIface, .bool true, .bool il, .int .i64 ((17179869184 : Nat) : Int), .int .u32 1], DiskP dg 8192 BB] := by
  refine e_seq ?_
  refine walk ?_
  refine y_alloc fun g37 => ?_
  refine walkO ?_
  refine x_end ?_
  refine e_seq ?_
  refine e_region ?_
  refine x_move rfl pt_ ?_
  refine x_move rfl pt_ ?_
  refine x_bin rfl rfl (bMulN (wu32 (by omega) (by omega))) pt_ ?_
  refine x_move rfl pt_ ?_
  refine x_move rfl pt_ ?_
  refine x_bin rfl rfl (bMulN (wu32 (by omega) (by omega))) pt_ ?_
  refine x_move rfl pt_ ?_
  refine x_bin rfl rfl (bSubN (by omega) (wu32 (by omega) (by omega))) pt_ ?_
  refine x_move rfl pt_ ?_
  refine x_move rfl pt_ ?_
  refine x_bin rfl rfl (bMulN (wu32 (by omega) (by omega))) pt_ ?_
  refine x_move rfl pt_ ?_
  refine x_bin rfl rfl (bSubN (by omega) (wu32 (by omega) (by omega))) pt_ ?_
  refine x_move rfl pt_ ?_
  rw [show pi * 1 = pi by omega, show 32768 * 1 - 32768 = 0 from rfl]
  obtain ⟨fs, hfs⟩ := usSB
  refine x_bldF (sbC pi (bo + 2) 0 (pi - nu) pi 578) hfs rfl (by kernel_rfl) pt_ ?_
  refine y_alloc (hz := zeroSB) fun g38 => ?_
  refine x_storeAR (us := sbC pi (bo + 2) 0 (pi - nu) pi 578) rfl rfl rfl rfl (PutR.cells (by exact Nat.le_refl _)) ?_
  rw [ovw_all (us := sbC pi (bo + 2) 0 (pi - nu) pi 578)]
  rotate_left
  · rfl
  refine x_end ?_
  refine e_seq ?_
  refine e_seq ?_
  refine e_region ?_
  refine walkO ?_
  refine x_end ?_
  obtain ⟨inc, hinc⟩ : ∃ inc, inc = if il = true then 33346 else 578 := ⟨_, rfl⟩
  have hinc2 : inc < 4294967296 := by rw [hinc]; split <;> omega
  rw [← hinc] at hR
  refine e_cont (ι := Unit) (fun _ => [ptrV wg, undef, .nilIface, .nilIface, v4, .nilIface, .nilIface, .int .u32 (it : Int), .int .u32 (1 : Nat), .int .u32 (pi : Int), .nilIface, .int .u32 (bo : Int), .int .u32 (2 : Nat), .int .u32 (bo + 2 : Nat), .int .u32 (bo + 2 : Nat), .int .u32 (1 : Nat), .int .u32 (1 : Nat), v17, .int .u32 (pi / 16 : Nat), .int .u32 (32768 : Nat), .int .u32 (nu : Nat), .int .u32 (1 : Nat), v22, v23, v24, v25, undef, v27, v28, v29, v30, v31, v32, v33, v34, undef, v36, ptrV g37, ptrV g38, undef, undef]) (fun _ => []) (fun _ => [Cells g38 231 (sbC pi (bo + 2) 0 (pi - nu) pi inc), Cells g37 196 (List.replicate 4096 (.int .u8 0)), Cells wg 174 [ptrV dg, .slice A idn c, .string cn, cu, .int .i64 (4096 : Nat), .int .i64 (dw : Int), .int .i64 (dm : Int), .nilIface, .bool true, .bool il, .int .i64 ((17179869184 : Nat) : Int), .int .u32 1], DiskP dg 8192 BB]) (fun _ => True) (fun rest => ?_) ?_
  · have r := rest () trivial
    clear rest
    cases il with
    | true =>
      rw [if_pos rfl] at hinc
      subst hinc
      refine e_true rfl ?_
      refine e_region ?_
      refine walkO ?_
      refine x_end ?_
      rw [show 578 ||| 32768 = 33346 from rfl]
      exact r.toP rfl (by repeat constructor) sub_
    | false =>
      rw [if_neg (by decide)] at hinc
      subst hinc
      refine e_false rfl ?_
      refine e_skip ?_
      exact r.toP rfl (by repeat constructor) sub_
  · rintro _ _
    refine e_seq ?_
    refine e_draw ?_
    refine walkO ?_
    have hsl : (sbB pi (bo + 2) 0 (pi - nu) pi inc).length = 1024 := sbB_len _ _ _ _ _ _
    refine y_callS rfl rfl (sbBytes_fn pi (bo + 2) 0 (pi - nu) pi inc (by omega) (by omega) (by omega) (by omega) (by omega) hinc2) fun gx cx => ?_
    obtain ⟨sb, hsb⟩ : ∃ sb, sb = sbB pi (bo + 2) 0 (pi - nu) pi inc := ⟨_, rfl⟩
    rw [← hsb] at hsl ⊢
    refine x_copy (g := g37) (o := 1024) (dn := 3072) (dc := 3072) (m := 1024) (news := enc sb) rfl rfl ⟨by rw [enc_len, hsl], .inr ⟨gx, 0, rfl, CellRow.own⟩⟩ (fun u hu => List.all_eq_true.1 (enc_all sb) u hu) (.there (.there (.cells (by rw [List.length_take, enc_len, hsl, List.length_replicate]; omega)))) pt_ ?_
    rw [show ovw (List.replicate 4096 (.int .u8 0)) 1024 ((enc sb).take 3072) = enc (List.replicate 1024 0 ++ sb ++ List.replicate 2048 0) from by
      rw [List.take_of_length_le (by rw [enc_len, hsl]; omega), ← enc_zeros, ovw_enc' rfl, hsl]
      rfl]
    refine x_end ?_
    obtain ⟨blk, hblk⟩ : ∃ blk, blk = List.replicate 1024 0 ++ sb ++ List.replicate 2048 0 := ⟨_, rfl⟩
    have hbl : blk.length = 4096 := by rw [hblk]; simp [hsl]
    rw [show sblkB pi (bo + 2) 0 (pi - nu) pi inc = blk from by rw [hblk, hsb]; rfl] at hR
    rw [← hblk]
    refine walk ?_
    refine y_callD rfl rfl (seekBlock_fn wg dg 8192 0 BB (.slice A idn c) (.string cn) cu (.int .i64 (4096 : Nat)) (.int .i64 (dw : Int)) (.int .i64 (dm : Int)) (.bool true) (.bool il) (.int .i64 ((17179869184 : Nat) : Int)) (.int .u32 1) (by omega)) ?_
    refine walk ?_
    refine y_callD rfl rfl (write_fn wg dg (0 * 4096) BB blk (some ⟨g37, 0, none⟩) 4096 4096 17179869184 (Cells g37 196 (enc blk)) (.slice A idn c) (.string cn) cu (.int .i64 (dw : Int)) (.int .i64 (dm : Int)) (.bool true) (.bool il) (.int .u32 1) ⟨by rw [enc_len, hbl], .inr ⟨g37, 0, rfl, CellRow.here⟩⟩ hbl (by omega) (by omega) (by omega)) ?_
    rw [show lay BB (0 * 4096) blk = blk ++ BB.drop 4096 from by
      have h1 : BB = [] ++ BB.take 4096 ++ BB.drop 4096 := by simp
      have h2 := lay_mid (A := []) (M := BB.take 4096) (C := BB.drop 4096) (bs := blk) (0 * 4096) rfl (by rw [List.length_take, hbl]; omega)
      rw [← h1] at h2
      simpa using h2]
    refine walk ?_
    refine y_callD rfl rfl (seekBlock_fn wg dg (0 * 4096 + 4096) (bo + 2) (blk ++ BB.drop 4096) (.slice A idn c) (.string cn) cu (.int .i64 (0 * 4096 + 4096 : Nat)) (.int .i64 (dw : Int)) (.int .i64 (dm : Int)) (.bool true) (.bool il) (.int .i64 ((17179869184 : Nat) : Int)) (.int .u32 1) (by omega)) ?_
    refine walk ?_
    exact y_ret [2] rfl hR
end Go.Proofs.YtppkiiomedembaaGreatDoor
namespace Go.Proofs.YtppkiiomedembaaGreatDoor
open Go
set_option maxRecDepth 100000
set_option maxHeartbeats 1000000
attribute [local irreducible] E EO
theorem closeG (wg dg it pi bo nu nd gg : Nat) (il : Bool) (A : Option Addr) (c idn dw dm : Nat) (cn : ByteArray) (cu : Value) (body : List UInt8) (zg : List Value) (v4 v22 v23 v24 v25 v27 v28 v29 v30 v31 v32 v33 v34 : Value) (R : Value → List HP → Prop) (hp4 : pi ≤ 6000) (hbo : bo ≤ 25000) (hbo2 : 2 ≤ bo) (hit : it ≤ 25000) (hnu : nu ≤ pi) (hnd : nd ≤ pi) (hb5 : body.length = (bo - 2) * 4096 + 8192)
    (hzg : zg = (madeCells ([.int .u32 0, .int .u32 0, .int .u32 0, .int .u16 0, .int .u16 0, .int .u16 0, .int .u16 0, .int .u32 0, .int .u16 0, .int .u16 0, .int .u16 0, .int .u16 0] : List Value).toArray (128 * 12)).toList)
    (hR : R .nilIface [DiskP dg ((bo + 2) * 4096) (sblkB pi (bo + 2) 0 (pi - nu) pi (if il then 33346 else 578) ++ gdB bo (bo + 1) it 0 (pi - nu) nd ++ body)]) :
    E ⟨Tryz.prog, 45, Tryz.f45, R, 385, false, Tryz.func45, none⟩ [.code (fromC 81 (Tryz.f45.body.getD .skip))] [ptrV wg, undef, .nilIface, .nilIface, v4, .nilIface, .nilIface, .int .u32 (it : Int), .int .u32 (1 : Nat), .int .u32 (pi : Int), .nilIface, .int .u32 (bo : Int), .int .u32 (2 : Nat), .int .u32 (bo + 2 : Nat), .int .u32 (bo + 2 : Nat), .int .u32 (1 : Nat), .int .u32 (1 : Nat), .slice (some ⟨gg, 0, none⟩) 128 128, .int .u32 (pi / 16 : Nat), .int .u32 (32768 : Nat), .int .u32 (nu : Nat), .int .u32 (1 : Nat), v22, v23, v24, v25, undef, v27, v28, v29, v30, v31, v32, v33, v34, undef, undef, undef, undef, undef, undef] []
      [Cells wg 174 [ptrV dg, .slice A idn c, .string cn, cu, .int .i64 (4096 : Nat), .int .i64 (dw : Int), .int .i64 (dm : Int), .nilIface, .bool true, .bool il, .int .i64 ((17179869184 : Nat) : Int), .int .u32 1], DiskP dg 4096 (List.replicate 8192 0 ++ body), Own (some ⟨gg, 0, none⟩) 128 215 12 128 (ovw zg 0 [.int .u32 (bo : Nat), .int .u32 (bo + 1 : Nat), .int .u32 (it : Nat), .int .u16 (0 : Nat), .int .u16 (pi - nu : Nat), .int .u16 (nd : Nat), .int .u16 0, .int .u32 0, .int .u16 0, .int .u16 0, .int .u16 0, .int .u16 0])] := by
  obtain ⟨gv, hgv⟩ : ∃ gv, gv = ovw zg 0 [.int .u32 (bo : Nat), .int .u32 (bo + 1 : Nat), .int .u32 (it : Nat), .int .u16 (0 : Nat), .int .u16 (pi - nu : Nat), .int .u16 (nd : Nat), .int .u16 0, .int .u32 0, .int .u16 0, .int .u16 0, .int .u16 0, .int .u16 0] := ⟨_, rfl⟩
  rw [← hgv]
  obtain ⟨g0, hg0⟩ : ∃ g0, g0 = leB 4 bo ++ leB 4 (bo + 1) ++ leB 4 it ++ leB 2 0 ++ leB 2 (pi - nu) ++ leB 2 nd ++ List.replicate 14 0 := ⟨_, rfl⟩
  have hg0l : g0.length = 32 := by rw [hg0]; simp [leB_len]
  obtain ⟨Bq, hBq⟩ : ∃ Bq : Nat → List UInt8, Bq = fun i => if i = 0 then List.replicate 8192 0 ++ body else List.replicate 4096 0 ++ (g0 ++ List.replicate 4064 0) ++ body := ⟨_, rfl⟩
  have hBl : ∀ i, (Bq i).length = 8192 + body.length := fun i => by
    rw [hBq]; show (if i = 0 then _ else _ : List UInt8).length = _
    split
    · simp only [List.length_append, List.length_replicate]
    · simp only [List.length_append, List.length_replicate, hg0l]
  rw [show (List.replicate 8192 0 ++ body : List UInt8) = Bq 0 from by rw [hBq]; rfl, show DiskP dg 4096 (Bq 0) = DiskP dg (4096 + 32 * 0) (Bq 0) from rfl]
  have hgv0 : (gv.drop (0 * 12)).take 12 = [.int .u32 (bo : Nat), .int .u32 (bo + 1 : Nat), .int .u32 (it : Nat), .int .u16 (0 : Nat), .int .u16 (pi - nu : Nat), .int .u16 (nd : Nat), .int .u16 0, .int .u32 0, .int .u16 0, .int .u16 0, .int .u16 0, .int .u16 0] := by
    rw [hgv]; unfold ovw; simp
  have hgvi : ∀ i, 0 < i → i < 128 → (gv.drop (i * 12)).take 12 = [.int .u32 0, .int .u32 0, .int .u32 0, .int .u16 0, .int .u16 0, .int .u16 0, .int .u16 0, .int .u32 0, .int .u16 0, .int .u16 0, .int .u16 0, .int .u16 0] := fun i h0 hi => by
    have hm := made_get [.int .u32 0, .int .u32 0, .int .u32 0, .int .u16 0, .int .u16 0, .int .u16 0, .int .u16 0, .int .u32 0, .int .u16 0, .int .u16 0, .int .u16 0, .int .u16 0] 128 i hi
    rw [hgv]
    unfold ovw
    rw [List.take_zero, List.nil_append, List.drop_append, List.drop_of_length_le (by simp; omega), List.nil_append, List.drop_drop]
    rw [hzg]
    rw [show 0 + ([.int .u32 (bo : Nat), .int .u32 (bo + 1 : Nat), .int .u32 (it : Nat), .int .u16 (0 : Nat), .int .u16 (pi - nu : Nat), .int .u16 (nd : Nat), .int .u16 0, .int .u32 0, .int .u16 0, .int .u16 0, .int .u16 0, .int .u16 0] : List Value).length + (i * 12 - ([.int .u32 (bo : Nat), .int .u32 (bo + 1 : Nat), .int .u32 (it : Nat), .int .u16 (0 : Nat), .int .u16 (pi - nu : Nat), .int .u16 (nd : Nat), .int .u16 0, .int .u32 0, .int .u16 0, .int .u16 0, .int .u16 0, .int .u16 0] : List Value).length) = i * 12 from by simp; omega]
    exact hm
  have hl0 : lay (Bq 0) (4096 + 32 * 0) g0 = Bq (0 + 1) := by
    rw [hBq]
    have h1 : (List.replicate 8192 0 ++ body : List UInt8) = List.replicate 4096 0 ++ List.replicate 32 0 ++ (List.replicate 4064 0 ++ body) := by
      rw [← List.append_assoc, List.replicate_append_replicate, List.replicate_append_replicate]
    show lay (List.replicate 8192 0 ++ body) _ g0 = List.replicate 4096 0 ++ (g0 ++ List.replicate 4064 0) ++ body
    rw [h1, lay_mid _ (by simp only [List.length_replicate, Nat.mul_zero]) (by simp only [List.length_replicate, hg0l])]
    simp only [List.append_assoc]
  have hli : ∀ i, 0 < i → i < 128 → lay (Bq i) (4096 + 32 * i) (List.replicate 32 0) = Bq (i + 1) := fun i h0 hi => by
    rw [hBq]
    show lay (if i = 0 then _ else _) _ _ = if i + 1 = 0 then _ else _
    rw [if_neg (by omega), if_neg (by omega)]
    obtain ⟨a, ha⟩ : ∃ a, a = 32 * i - 32 := ⟨_, rfl⟩
    obtain ⟨b, hb⟩ : ∃ b, b = 4064 - 32 * i := ⟨_, rfl⟩
    have h1 : (List.replicate 4096 0 ++ (g0 ++ List.replicate 4064 0) ++ body : List UInt8) = (List.replicate 4096 0 ++ g0 ++ List.replicate a 0) ++ List.replicate 32 0 ++ (List.replicate b 0 ++ body) := by
      rw [show 4064 = a + (32 + b) from by omega, ← List.replicate_append_replicate, ← List.replicate_append_replicate]
      simp only [List.append_assoc]
    rw [h1, lay_mid _ (by simp only [List.length_append, List.length_replicate, hg0l]; omega) (by simp only [List.length_replicate])]
  have hgd := gd_fn bo (bo + 1) it 0 (pi - nu) nd (by omega) (by omega) (by omega) (by omega) (by omega) (by omega)
  rw [← hg0] at hgd
  have hgz := gd_fn 0 0 0 0 0 0 (by omega) (by omega) (by omega) (by omega) (by omega) (by omega)
  rw [show leB 4 0 ++ leB 4 0 ++ leB 4 0 ++ leB 2 0 ++ leB 2 0 ++ leB 2 0 ++ List.replicate 14 0 = List.replicate 32 0 from rfl] at hgz
  rw [show sblkB pi (bo + 2) 0 (pi - nu) pi (if il then 33346 else 578) ++ gdB bo (bo + 1) it 0 (pi - nu) nd ++ body = sblkB pi (bo + 2) 0 (pi - nu) pi (if il then 33346 else 578) ++ (Bq 128).drop 4096 from by
    rw [hBq]
    show _ = _ ++ (List.replicate 4096 0 ++ (g0 ++ List.replicate 4064 0) ++ body).drop 4096
    rw [List.append_assoc (List.replicate 4096 0), List.drop_append, List.drop_of_length_le (by rw [List.length_replicate]; exact Nat.le_refl _), List.nil_append, List.length_replicate, Nat.sub_self, List.drop_zero, hg0]
    unfold gdB
    simp only [List.append_assoc]] at hR
  refine e_seq ?_
  refine walk ?_
  refine e_roundsT (ι := Nat × Value) (fun q => 128 - q.1) (fun q => [ptrV wg, undef, .nilIface, .nilIface, v4, .nilIface, .nilIface, .int .u32 (it : Int), .int .u32 (1 : Nat), .int .u32 (pi : Int), .nilIface, .int .u32 (bo : Int), .int .u32 (2 : Nat), .int .u32 (bo + 2 : Nat), .int .u32 (bo + 2 : Nat), .int .u32 (1 : Nat), .int .u32 (1 : Nat), .slice (some ⟨gg, 0, none⟩) 128 128, .int .u32 (pi / 16 : Nat), .int .u32 (32768 : Nat), .int .u32 (nu : Nat), .int .u32 (1 : Nat), v22, v23, v24, v25, undef, v27, v28, v29, v30, v31, v32, v33, v34, undef, q.2, undef, undef, undef, undef]) (fun q => [(328, .int .i64 (q.1 : Nat)), (327, .int .i64 (128 : Nat)), (326, .slice (some ⟨gg, 0, none⟩) 128 128)])
    (fun q => [Cells wg 174 [ptrV dg, .slice A idn c, .string cn, cu, .int .i64 (4096 : Nat), .int .i64 (dw : Int), .int .i64 (dm : Int), .nilIface, .bool true, .bool il, .int .i64 ((17179869184 : Nat) : Int), .int .u32 1], DiskP dg (4096 + 32 * q.1) (Bq q.1), Own (some ⟨gg, 0, none⟩) 128 215 12 128 gv]) (fun q => q.1 ≤ 128) (0, undef) (Nat.zero_le _) rfl (by repeat constructor) sub_ ?_
  rintro ⟨i, w36⟩ hi again
  dsimp only at hi again ⊢
  by_cases hlt : i < 128
  · have ag := fun v => again (i + 1, v) (by dsimp only; omega) (by dsimp only; omega)
    dsimp only at ag
    by_cases h0 : i = 0
    · subst h0
      refine walk ?_
      refine y_loadS (vs := gv) (us := [.int .u32 (bo : Nat), .int .u32 (bo + 1 : Nat), .int .u32 (it : Nat), .int .u16 (0 : Nat), .int .u16 (pi - nu : Nat), .int .u16 (nd : Nat), .int .u16 0, .int .u32 0, .int .u16 0, .int .u16 0, .int .u16 0, .int .u16 0]) (0 * 12) hgv0 ?_
      refine walk ?_
      refine y_alloc fun g36 => ?_
      refine walk ?_
      refine y_callS rfl rfl hgd fun gx cx => ?_
      refine y_callD rfl rfl (put_fn' dg (4096 + 32 * 0) (Bq 0) g0 (some ⟨gx, 0, none⟩) 32 cx (Own (some ⟨gx, 0, none⟩) cx 5 1 32 (enc g0)) ⟨by rw [enc_len, hg0l], .inr ⟨gx, 0, rfl, CellRow.own⟩⟩ hg0l (by omega) (by omega)) ?_
      rw [hl0]
      refine walk ?_
      exact (ag _).toP (ks := [328, 327, 326]) rfl (by repeat constructor) sub_
    · refine walk ?_
      refine y_loadS (vs := gv) (us := [.int .u32 0, .int .u32 0, .int .u32 0, .int .u16 0, .int .u16 0, .int .u16 0, .int .u16 0, .int .u32 0, .int .u16 0, .int .u16 0, .int .u16 0, .int .u16 0]) (i * 12) (hgvi i (by omega) hlt) ?_
      refine walk ?_
      refine y_alloc fun g36 => ?_
      refine walk ?_
      refine y_callS rfl rfl hgz fun gx cx => ?_
      refine y_callD rfl rfl (put_fn' dg (4096 + 32 * i) (Bq i) (List.replicate 32 0) (some ⟨gx, 0, none⟩) 32 cx (Own (some ⟨gx, 0, none⟩) cx 5 1 32 (enc (List.replicate 32 0))) ⟨by rw [enc_len, List.length_replicate], .inr ⟨gx, 0, rfl, CellRow.own⟩⟩ List.length_replicate (by omega) (by omega)) ?_
      rw [hli i (by omega) hlt, show 4096 + 32 * i + 32 = 4096 + 32 * (i + 1) by omega]
      refine walk ?_
      exact (ag _).toP (ks := [328, 327, 326]) rfl (by repeat constructor) sub_
  have hi2 : i = 128 := by omega
  subst hi2
  clear again
  refine e_seq ?_
  refine (is_reg ?_)
  refine e_regionK ?_ (by first | ((repeat (first | exact KeepR.nil | apply KeepR.yes rfl | apply KeepR.no rfl)) <;> fail) | fail)
  refine walkO ?_
  refine x_end ?_
  refine e_seq ?_
  refine e_false rfl ?_
  refine e_exit rfl ?_
  exact (closeT wg dg it pi bo nu il A c idn dw dm cn cu (Bq 128) v4 _ v22 v23 v24 v25 v27 v28 v29 v30 v31 v32 v33 v34 w36 R hp4 hbo hnu (by rw [hBl, hb5]; omega) hR).toP (ks := []) rfl (by repeat constructor) (by exact .cons .here (.cons .here .nil))
end Go.Proofs.YtppkiiomedembaaGreatDoor
