/-
  The walks: path.Clean of a rooted path. Conditions: none.
-/
import Derived.Test.YtppkiiomedembaaGreatDoorM06
set_option linter.unusedVariables false
set_option linter.unusedSimpArgs false
namespace Go.Proofs.YtppkiiomedembaaGreatDoor
open Go
set_option maxRecDepth 100000
attribute [local irreducible] E EO
def LBf (s o : List UInt8) : Option (Nat × List UInt8) → Prop
  | none => s.take o.length = o ∧ o.length ≤ s.length
  | some (gb, junk) => (o ++ junk).length = s.length
def LBa (g : Nat) (s o : List UInt8) : Option (Nat × List UInt8) → List HP
  | none => [Cells g 279 [.string (str s), .slice none 0 0, .int .i64 (o.length : Int)]]
  | some (gb, junk) => [Cells g 279 [.string (str s), .slice (some ⟨gb, 0, none⟩) s.length s.length, .int .i64 (o.length : Int)], Own (some ⟨gb, 0, none⟩) s.length 5 1 s.length (enc (o ++ junk))]
def LB (g : Nat) (s o : List UInt8) : HP := .ex fun i => .fact (LBf s o i) (.star (LBa g s o i))
theorem LB.open {g : Nat} {s o : List UInt8} : Tn [LB g s o] (LBf s o) (LBa g s o) := Tn.exs
theorem LB.close {g : Nat} {s o : List UInt8} (i) (h : LBf s o i) : Tn (LBa g s o i) (fun _ : Unit => True) (fun _ => [LB g s o]) := Tn.inexs i h
theorem LB.close0 {g : Nat} {s o : List UInt8} {n : Nat} (hn : n = o.length) (h : s.take o.length = o ∧ o.length ≤ s.length) : Tn [Cells g 279 [.string (str s), .slice none 0 0, .int .i64 (n : Int)]] (fun _ : Unit => True) (fun _ => [LB g s o]) := by
  subst hn; exact LB.close none h
theorem LB.close1 {g : Nat} {s o : List UInt8} {gb n : Nat} {b : List UInt8} {junk : List UInt8} (hn : n = o.length) (hb : b = o ++ junk) (h : (o ++ junk).length = s.length) :
    Tn [Cells g 279 [.string (str s), .slice (some ⟨gb, 0, none⟩) s.length s.length, .int .i64 (n : Int)], Own (some ⟨gb, 0, none⟩) s.length 5 1 s.length (enc b)] (fun _ : Unit => True) (fun _ => [LB g s o]) := by
  subst hn; subst hb; exact LB.close (some (gb, junk)) h
theorem ovw_enc (o k : List UInt8) (j c : UInt8) (n : Nat) (hn : n = o.length) : ovw (enc (o ++ j :: k)) n [.int .u8 (c.toNat : Int)] = enc (o ++ c :: k) := by
  subst hn
  have e1 : (enc o).length = o.length := enc_len o
  simp only [ovw, enc_app]
  rw [List.take_left' e1, show o.length + [Value.int .u8 (c.toNat : Int)].length = o.length + 1 from rfl, List.drop_append, e1, show o.length + 1 - o.length = 1 by omega, List.drop_of_length_le (by omega)]
  simp [enc]
theorem lbAppend_fn (g : Nat) (s o : List UInt8) (c : UInt8) (hs : s.length ≤ 1000000000) (ho : o.length < s.length) : Fd Tryz.prog 161 #[.pointer (some ⟨g, 0, none⟩), .int .u8 (c.toNat : Int)] [LB g s o] (.tuple #[]) [LB g s (o ++ [c])] := by
  refine FnG.tn LB.open sub_ fun i hi => ?_
  cases i with
  | none =>
    simp only [LBa, List.append_nil, LBf] at hi ⊢
    obtain ⟨b, hb⟩ : ∃ b, s[o.length]? = some b := ⟨_, List.getElem?_eq_getElem ho⟩
    have htk : s.take (o.length + 1) = o ++ [b] := by
      rw [List.take_add_one, hi.1, hb]; rfl
    by_cases hbc : b = c
    · subst hbc
      refine fn_of_E' (args := [_, _]) 4 _ [_, _, undef, undef] Tryz.func161 rfl Tryz.ntmps161 ?_
      repeat (first | refine walk1 ?_ | refine y_alloc (fun g => ?_) | refine y_boxA rfl (fun g => ?_) | refine y_make rfl rfl (fun g => ?_) | refine y_build1 rfl (fun g => ?_) | refine y_app1 rfl rfl (fun A' c' => ?_) | fail)
      refine E.tn (LB.close0 (s := s) (o := o ++ [b]) (n := o.length + 1) (by simp) ⟨by rw [List.length_append]; exact htk, by simp; omega⟩) sub_ (fun _ => by (repeat (first | exact App.nil | apply App.cons)) <;> fail) fun _ _ => ?_
      exact e_ret' (ts := []) (vs := []) rfl rfl ⟨_, _, ⟨rfl, rfl⟩, sub_⟩
    · have hne : (b.toNat : Int) ≠ c.toNat := fun e => hbc (UInt8.toNat_inj.1 (by omega))
      refine fn_of_E' (args := [_, _]) 4 _ [_, _, undef, undef] Tryz.func161 rfl Tryz.ntmps161 ?_
      repeat (first | refine walk1 ?_ | refine y_alloc (fun g => ?_) | refine y_boxA rfl (fun g => ?_) | refine y_make rfl rfl (fun g => ?_) | refine y_build1 rfl (fun g => ?_) | refine y_app1 rfl rfl (fun A' c' => ?_) | fail)
      refine x_copyS rfl rfl (.own (by simp [enc_len]; omega)) pt_ ?_
      obtain ⟨n, hn⟩ : ∃ n, s.length = o.length + (n + 1) := ⟨s.length - o.length - 1, by omega⟩
      have e1 : ovw (List.replicate s.length (.int .u8 0)) 0 (enc ((s.take o.length).take s.length)) = enc (o ++ 0 :: List.replicate n 0) := by
        rw [hi.1, List.take_of_length_le hi.2, enc_app, show (0 : UInt8) :: List.replicate n 0 = List.replicate (n + 1) 0 from rfl, enc_zeros, hn]
        simp [ovw, enc_len]
      rw [e1]
      repeat (first | refine walk1 ?_ | refine y_alloc (fun g => ?_) | refine y_boxA rfl (fun g => ?_) | refine y_make rfl rfl (fun g => ?_) | refine y_build1 rfl (fun g => ?_) | refine y_app1 rfl rfl (fun A' c' => ?_) | fail)
      refine x_storeR rfl rfl rfl (.own (by simp [enc_len] <;> omega)) ?_
      rw [ovw_enc _ _ _ _ _ (by omega)]
      repeat (first | refine walk1 ?_ | refine y_alloc (fun g => ?_) | refine y_boxA rfl (fun g => ?_) | refine y_make rfl rfl (fun g => ?_) | refine y_build1 rfl (fun g => ?_) | refine y_app1 rfl rfl (fun A' c' => ?_) | fail)
      refine E.tn (LB.close1 (s := s) (o := o ++ [c]) (n := o.length + 1) (b := o ++ c :: List.replicate n 0) (junk := List.replicate n 0) (by simp) (by simp) (by simp; omega)) sub_ (fun _ => by (repeat (first | exact App.nil | apply App.cons)) <;> fail) fun _ _ => ?_
      exact e_end' (ts := []) (vs := []) rfl rfl ⟨_, _, ⟨rfl, rfl⟩, sub_⟩
  | some p =>
    obtain ⟨gb, junk⟩ := p
    simp only [LBa, List.append_nil, LBf] at hi ⊢
    cases junk with
    | nil => simp at hi; omega
    | cons j junk =>
    refine fn_of_E' (args := [_, _]) 4 _ [_, _, undef, undef] Tryz.func161 rfl Tryz.ntmps161 ?_
    repeat (first | refine walk1 ?_ | refine y_alloc (fun g => ?_) | refine y_boxA rfl (fun g => ?_) | refine y_make rfl rfl (fun g => ?_) | refine y_build1 rfl (fun g => ?_) | refine y_app1 rfl rfl (fun A' c' => ?_) | fail)
    refine x_storeR rfl rfl rfl (.there (.own (by simp [enc_len] <;> omega))) ?_
    rw [ovw_enc _ _ _ _ _ (by omega)]
    repeat (first | refine walk1 ?_ | refine y_alloc (fun g => ?_) | refine y_boxA rfl (fun g => ?_) | refine y_make rfl rfl (fun g => ?_) | refine y_build1 rfl (fun g => ?_) | refine y_app1 rfl rfl (fun A' c' => ?_) | fail)
    refine E.tn (LB.close1 (o := o ++ [c]) (n := o.length + 1) (b := o ++ c :: junk) (junk := junk) (by simp) (by simp) (by simp at hi ⊢; omega)) sub_ (fun _ => by (repeat (first | exact App.nil | apply App.cons)) <;> fail) fun _ _ => ?_
    exact e_end' (ts := []) (vs := []) rfl rfl ⟨_, _, ⟨rfl, rfl⟩, sub_⟩
theorem CellRow.pre {L : List HP} {g o : Nat} {a b : List Value} (h : CellRow L g o (a ++ b)) : CellRow L g o a := fun j v hj => h j v (by rw [List.getElem?_append_left (List.getElem?_eq_some_iff.1 hj).1]; exact hj)
theorem lbString_fn (g : Nat) (s o : List UInt8) (hs : s.length ≤ 1000000000) : Qn Tryz.prog 163 #[.pointer (some ⟨g, 0, none⟩)] [LB g s o] (.string (str o)) := by
  refine FnG.tn LB.open sub_ fun i hi => ?_
  cases i with
  | none =>
    simp only [LBa, List.append_nil, LBf] at hi ⊢
    refine fn_of_E' (args := [_]) 3 _ [_, undef, undef] Tryz.func163 rfl Tryz.ntmps163 ?_
    have := hi.2
    repeat (first | refine walk1 ?_ | refine y_alloc (fun g => ?_) | refine y_boxA rfl (fun g => ?_) | refine y_make rfl rfl (fun g => ?_) | refine y_build1 rfl (fun g => ?_) | refine y_app1 rfl rfl (fun A' c' => ?_) | fail)
    refine e_ret (ts := [2]) (vs := [_]) rfl rfl ?_
    rw [hi.1]; rfl
  | some p =>
    obtain ⟨gb, junk⟩ := p
    simp only [LBa, List.append_nil, LBf] at hi ⊢
    have hle : o.length ≤ s.length := by rw [← hi]; simp
    refine fn_of_E' (args := [_]) 3 _ [_, undef, undef] Tryz.func163 rfl Tryz.ntmps163 ?_
    repeat (first | refine walk1 ?_ | refine y_alloc (fun g => ?_) | refine y_boxA rfl (fun g => ?_) | refine y_make rfl rfl (fun g => ?_) | refine y_build1 rfl (fun g => ?_) | refine y_app1 rfl rfl (fun A' c' => ?_) | fail)
    refine x_toStr (bs := o) rfl ((CellRow.pre (b := enc junk) (by rw [← enc_app]; exact CellRow.own)).there) rfl pt_ ?_
    repeat (first | refine walk1 ?_ | refine y_alloc (fun g => ?_) | refine y_boxA rfl (fun g => ?_) | refine y_make rfl rfl (fun g => ?_) | refine y_build1 rfl (fun g => ?_) | refine y_app1 rfl rfl (fun A' c' => ?_) | fail)
    refine e_ret (ts := [2]) (vs := [_]) rfl rfl ?_
    rfl
theorem headP_spec : ∀ (m : List UInt8), (headP m).length ≤ m.length ∧ (∀ j : Nat, j < (headP m).length → ∃ b, m[j]? = some b ∧ (headP m)[j]? = some b ∧ b ≠ 47) ∧ (∀ b, m[(headP m).length]? = some b → b = 47)
  | [] => ⟨Nat.le_refl _, fun j hj => by simp [headP] at hj, fun b hb => by simp at hb⟩
  | b :: m => by
    obtain ⟨h1, h2, h3⟩ := headP_spec m
    by_cases hb : b = 47
    · subst hb
      have e : headP (47 :: m) = [] := by simp [headP]
      rw [e]
      exact ⟨by simp, fun j hj => by simp at hj, fun b hb => by simp at hb; exact hb.symm⟩
    · have e : headP (b :: m) = b :: headP m := by simp [headP, hb]
      rw [e]
      refine ⟨by simpa using h1, fun j hj => ?_, fun c hc => h3 c (by simpa using hc)⟩
      cases j with
      | zero => exact ⟨b, rfl, rfl, hb⟩
      | succ j => simpa using h2 j (by simpa using hj)
def clN : Nat → List UInt8 → List UInt8 → List UInt8
  | 0, _, o => o
  | _ + 1, [], o => o
  | n + 1, b :: r, o => if b = 47 then clN n r o else clN n ((b :: r).drop (headP (b :: r)).length) (o ++ (if o.length = 1 then [] else [47]) ++ headP (b :: r))
def noDots : Nat → List UInt8 → Prop
  | 0, _ => True
  | _ + 1, [] => True
  | n + 1, b :: r => if b = 47 then noDots n r else headP (b :: r) ≠ [46] ∧ headP (b :: r) ≠ [46, 46] ∧ noDots n ((b :: r).drop (headP (b :: r)).length)
theorem LB.start {g : Nat} {s : List UInt8} : Tn [Cells g 279 [.string (str s), .slice none 0 0, .int .i64 0]] (fun _ : Unit => True) (fun _ => [LB g s []]) := LB.close0 (n := 0) rfl ⟨rfl, Nat.zero_le _⟩
theorem headP_pos {b : UInt8} {r : List UInt8} (hb : ¬ b = 47) : 1 ≤ (headP (b :: r)).length := by simp [headP, hb]
theorem clN_fuel : ∀ (n n' : Nat) (m o : List UInt8), m.length ≤ n → m.length ≤ n' → clN n m o = clN n' m o
  | 0, n', m, o, h, h' => by
    have : m = [] := List.eq_nil_of_length_eq_zero (by omega)
    subst this; cases n' <;> rfl
  | n + 1, n', [], o, h, h' => by cases n' <;> rfl
  | n + 1, 0, b :: r, o, h, h' => by simp at h'
  | n + 1, n' + 1, b :: r, o, h, h' => by
    simp only [clN]
    split
    · exact clN_fuel n n' r o (by simpa using h) (by simpa using h')
    · rename_i hb
      have := headP_pos (r := r) hb
      exact clN_fuel n n' _ _ (by simp at h ⊢; omega) (by simp at h' ⊢; omega)
theorem noDots_fuel : ∀ (n n' : Nat) (m : List UInt8), m.length ≤ n → m.length ≤ n' → (noDots n m ↔ noDots n' m)
  | 0, n', m, h, h' => by
    have : m = [] := List.eq_nil_of_length_eq_zero (by omega)
    subst this; cases n' <;> exact Iff.rfl
  | n + 1, n', [], h, h' => by cases n' <;> exact Iff.rfl
  | n + 1, 0, b :: r, h, h' => by simp at h'
  | n + 1, n' + 1, b :: r, h, h' => by
    simp only [noDots]
    split
    · exact noDots_fuel n n' r (by simpa using h) (by simpa using h')
    · rename_i hb
      have := headP_pos (r := r) hb
      rw [noDots_fuel n n' _ (by simp at h ⊢; omega) (by simp at h' ⊢; omega)]
theorem LB.cellw {g : Nat} {s o : List UInt8} {L : List HP} : Cell (LB g s o :: L) g (0 + 2) (.int .i64 (o.length : Int)) := by
  intro h S hs
  obtain ⟨S1, S2, ⟨i, hf, h1⟩, _⟩ := hs
  cases i with
  | none => exact Cell.here (L := []) (cs := [.string (str s), .slice none 0 0, .int .i64 (o.length : Int)]) rfl h S1 h1
  | some p => exact Cell.here (cs := [.string (str s), .slice (some ⟨p.1, 0, none⟩) s.length s.length, .int .i64 (o.length : Int)]) rfl h S1 h1
set_option maxHeartbeats 4000000 in
theorem clean_fn (l : List UInt8) (hl : l.length ≤ 100000000) (hd : noDots l.length l) : Fd Tryz.prog 107 #[.string (str (47 :: l))] [] (.string (str (clN l.length l [47]))) [] := by
  refine fn_of_E' (args := [_]) 8 _ [_, undef, undef, undef, undef, undef, undef, undef] Tryz.func107 rfl Tryz.ntmps107 ?_
  have h0 : (47 :: l : List UInt8)[0]? = some 47 := rfl
  repeat (first | refine walk1 ?_ | refine y_alloc (fun g => ?_) | refine y_boxA rfl (fun g => ?_) | refine y_make rfl rfl (fun g => ?_) | refine y_build1 rfl (fun g => ?_) | refine y_app1 rfl rfl (fun A' c' => ?_) | fail)
  refine EO.tn LB.start sub_ (fun _ => by (repeat (first | exact App.nil | apply App.cons)) <;> fail) fun _ _ => ?_
  refine x_callD rfl rfl (lbAppend_fn g (47 :: l) [] 47 (by simp; omega) (by simp)) sub_ (by first | ((repeat (first | exact App.nil | apply App.cons)) <;> fail) | fail) pt_ ?_
  repeat (first | refine walk1 ?_ | refine y_alloc (fun g => ?_) | refine y_boxA rfl (fun g => ?_) | refine y_make rfl rfl (fun g => ?_) | refine y_build1 rfl (fun g => ?_) | refine y_app1 rfl rfl (fun A' c' => ?_) | fail)
  refine e_rounds (ι := Nat × List UInt8) (fun i => (47 :: l).length - i.1) (fun i => [.string (str (47 :: l)), undef, .string ⟨#[]⟩, .bool true, .int .i64 ((47 :: l).length : Nat), .pointer (some ⟨g, 0, none⟩), .int .i64 (i.1 : Nat), .int .i64 1])
    (fun i => [LB g (47 :: l) i.2]) (fun i => 1 ≤ i.1 ∧ i.1 ≤ (47 :: l).length ∧ 1 ≤ i.2.length ∧ i.2.length ≤ i.1 ∧ (i.2.length ≠ 1 → i.2.length = i.1 → ∀ c, (47 :: l)[i.1]? = some c → c = 47) ∧ noDots (l.length + 1 - i.1) ((47 :: l).drop i.1) ∧ clN (l.length + 1 - i.1) ((47 :: l).drop i.1) i.2 = clN l.length l [47])
    (1, [47]) ⟨by simp, by simp, by simp, by simp, by simp, by simpa using hd, by simp⟩ rfl (List.Perm.refl _) ?_
  rintro ⟨r, o⟩ ⟨p1, p2, p3, p4, p5, p6, p7⟩ ih
  dsimp only at p1 p2 p3 p4 p5 p6 p7 ih ⊢
  generalize hs : (47 :: l : List UInt8) = s at *
  have hsl : s.length = l.length + 1 := by rw [← hs]; rfl
  by_cases hr : r < s.length
  · obtain ⟨c, hc⟩ : ∃ c, s[r]? = some c := ⟨_, List.getElem?_eq_getElem hr⟩
    by_cases hc47 : c = 47
    · have hci : (c.toNat : Int) = 47 := by rw [hc47]; rfl
      have hdr : s.drop r = 47 :: s.drop (r + 1) := by rw [List.drop_eq_getElem_cons hr]; congr 1; have := List.getElem?_eq_some_iff.1 hc; obtain ⟨_, h⟩ := this; rw [h, hc47]
      have hn : l.length + 1 - r = (l.length + 1 - (r + 1)) + 1 := by omega
      rw [hdr, hn] at p6 p7
      repeat (first | refine walk1 ?_ | refine y_alloc (fun g => ?_) | refine y_boxA rfl (fun g => ?_) | refine y_make rfl rfl (fun g => ?_) | refine y_build1 rfl (fun g => ?_) | refine y_app1 rfl rfl (fun A' c' => ?_) | fail)
      exact (ih (r + 1, o) (by omega) ⟨by omega, by omega, p3, (show o.length ≤ r + 1 by omega), fun _ (h : o.length = r + 1) => by omega, by simpa [noDots] using p6, by simpa [clN] using p7⟩).to rfl rfl
    · have hn : l.length + 1 - r = (l.length - r) + 1 := by omega
      obtain ⟨hc', hcr⟩ := List.getElem?_eq_some_iff.1 hc
      have hdr : s.drop r = c :: s.drop (r + 1) := by rw [List.drop_eq_getElem_cons hr, hcr]
      rw [hdr, hn] at p6 p7
      simp only [noDots, clN, if_neg hc47] at p6 p7
      have hc47' : (c.toNat : Int) ≠ 47 := fun e => hc47 (UInt8.toNat_inj.1 (by show c.toNat = 47; omega))
      have facts : (c.toNat : Int) ≠ 46 ∨ ((c.toNat : Int) = 46 ∧ r + 1 < s.length ∧ ∃ d, s[r + 1]? = some d ∧ (d.toNat : Int) ≠ 47 ∧ ((d.toNat : Int) ≠ 46 ∨ ((d.toNat : Int) = 46 ∧ r + 2 < s.length ∧ ∃ e, s[r + 2]? = some e ∧ (e.toNat : Int) ≠ 47))) := by
        have hu : ∀ (a : UInt8) (n : UInt8), (a.toNat : Int) = n.toNat → a = n := fun a n h => UInt8.toNat_inj.1 (by omega)
        by_cases h1 : c = 46
        · refine .inr ⟨by rw [h1]; rfl, ?_⟩
          have hr1 : r + 1 < s.length := by
            rcases Nat.lt_or_ge (r + 1) s.length with h | h
            · exact h
            · exact absurd (by rw [List.drop_of_length_le h, h1]; rfl) p6.1
          obtain ⟨d, hd1⟩ : ∃ d, s[r + 1]? = some d := ⟨_, List.getElem?_eq_getElem hr1⟩
          obtain ⟨_, hd2⟩ := List.getElem?_eq_some_iff.1 hd1
          have hdr1 : s.drop (r + 1) = d :: s.drop (r + 1 + 1) := by rw [List.drop_eq_getElem_cons hr1, hd2]
          have hd47 : d ≠ 47 := fun h => absurd (by rw [hdr1, h1, h]; rfl) p6.1
          refine ⟨hr1, d, hd1, fun h => hd47 (hu d 47 h), ?_⟩
          by_cases h2 : d = 46
          · refine .inr ⟨by rw [h2]; rfl, ?_⟩
            have hr2 : r + 2 < s.length := by
              rcases Nat.lt_or_ge (r + 2) s.length with h | h
              · exact h
              · exact absurd (by rw [hdr1, List.drop_of_length_le (by omega), h1, h2]; rfl) p6.2.1
            obtain ⟨e, he1⟩ : ∃ e, s[r + 2]? = some e := ⟨_, List.getElem?_eq_getElem hr2⟩
            obtain ⟨_, he2⟩ := List.getElem?_eq_some_iff.1 he1
            have hdr2 : s.drop (r + 1 + 1) = e :: s.drop (r + 2 + 1) := by rw [List.drop_eq_getElem_cons (by omega)]; congr 1
            exact ⟨hr2, e, he1, fun h => absurd (by rw [hdr1, hdr2, h1, h2, hu e 47 h]; rfl) p6.2.1⟩
          · exact .inl fun h => h2 (hu d 46 h)
        · exact .inl fun h => h1 (hu c 46 h)
      obtain ⟨e1, e2, e3⟩ := headP_spec (s.drop r)
      rw [List.length_drop] at e1
      simp only [List.getElem?_drop] at e2 e3
      rw [← hdr] at p6 p7
      generalize he : headP (s.drop r) = e at *
      have hpos : 1 ≤ e.length := by
        rw [← he, hdr]; simp [headP, hc47]
      rcases facts with f1 | ⟨f1, f2, d, f3, f4, f5 | ⟨f5, f6, e', f7, f8⟩⟩
      all_goals
        by_cases ho : o.length = 1
        · rw [if_pos ho, List.append_nil] at p7
          repeat (first | refine walk1 ?_ | refine y_alloc (fun g => ?_) | refine y_boxA rfl (fun g => ?_) | refine y_make rfl rfl (fun g => ?_) | refine y_build1 rfl (fun g => ?_) | refine y_app1 rfl rfl (fun A' c' => ?_) | (refine is_load ?_; refine x_load rfl LB.cellw pt_ ?_) | fail)
          have q1 := p4
          have q2 := p3
          refine e_rounds (ι := Nat) (fun j => e.length - j) (fun j => [.string (str s), undef, .string ⟨#[]⟩, .bool true, .int .i64 (s.length : Nat), .pointer (some ⟨g, 0, none⟩), .int .i64 ((r + j : Nat) : Int), .int .i64 1])
            (fun j => [LB g s (o ++ e.take j)]) (fun j => j ≤ e.length) 0 (Nat.zero_le _) rfl (by simp) ?_
          intro j hj ih2
          rcases Nat.lt_or_ge j e.length with hlt | hge
          · obtain ⟨b, b1, b2, b3⟩ := e2 j hlt
            have b4 : (b.toNat : Int) ≠ 47 := fun h => b3 (UInt8.toNat_inj.1 (by show b.toNat = 47; omega))
            have b5 : r + j < s.length := (List.getElem?_eq_some_iff.1 b1).1
            repeat (first | refine walk1 ?_ | refine y_alloc (fun g => ?_) | refine y_boxA rfl (fun g => ?_) | refine y_make rfl rfl (fun g => ?_) | refine y_build1 rfl (fun g => ?_) | refine y_app1 rfl rfl (fun A' c' => ?_) | fail)
            refine x_callD rfl rfl (lbAppend_fn g s (o ++ e.take j) b (by omega) (by simp; omega)) sub_ (by first | ((repeat (first | exact App.nil | apply App.cons)) <;> fail) | fail) pt_ ?_
            repeat (first | refine walk1 ?_ | refine y_alloc (fun g => ?_) | refine y_boxA rfl (fun g => ?_) | refine y_make rfl rfl (fun g => ?_) | refine y_build1 rfl (fun g => ?_) | refine y_app1 rfl rfl (fun A' c' => ?_) | fail)
            exact (ih2 (j + 1) (by omega) (by omega)).to rfl (by rw [List.take_add_one, b2, List.append_assoc]; rfl)
          · have hje : j = e.length := by omega
            subst hje
            rw [List.take_length]
            have p9 : noDots (l.length + 1 - (r + e.length)) (s.drop (r + e.length)) := by
              rw [← List.drop_drop]; exact (noDots_fuel _ _ _ (by simp; omega) (by simp; omega)).1 p6.2.2
            have p10 : clN (l.length + 1 - (r + e.length)) (s.drop (r + e.length)) (o ++ e) = clN l.length l [47] := by
              rw [← p7, ← List.drop_drop]; exact clN_fuel _ _ _ _ (by simp; omega) (by simp; omega)
            by_cases hx : r + e.length < s.length
            · obtain ⟨b, b1⟩ : ∃ b, s[r + e.length]? = some b := ⟨_, List.getElem?_eq_getElem hx⟩
              have b4 : (b.toNat : Int) = 47 := by rw [e3 b b1]; rfl
              repeat (first | refine walk1 ?_ | refine y_alloc (fun g => ?_) | refine y_boxA rfl (fun g => ?_) | refine y_make rfl rfl (fun g => ?_) | refine y_build1 rfl (fun g => ?_) | refine y_app1 rfl rfl (fun A' c' => ?_) | fail)
              exact (ih (r + e.length, o ++ e) (by show s.length - (r + e.length) < s.length - r; omega) ⟨(show 1 ≤ r + e.length by omega), (show r + e.length ≤ s.length by omega), (show 1 ≤ (o ++ e).length by simp; omega), (show (o ++ e).length ≤ r + e.length by simp; omega), fun _ _ c hc => e3 c hc, p9, p10⟩).to rfl rfl
            · repeat (first | refine walk1 ?_ | refine y_alloc (fun g => ?_) | refine y_boxA rfl (fun g => ?_) | refine y_make rfl rfl (fun g => ?_) | refine y_build1 rfl (fun g => ?_) | refine y_app1 rfl rfl (fun A' c' => ?_) | fail)
              exact (ih (r + e.length, o ++ e) (by show s.length - (r + e.length) < s.length - r; omega) ⟨(show 1 ≤ r + e.length by omega), (show r + e.length ≤ s.length by omega), (show 1 ≤ (o ++ e).length by simp; omega), (show (o ++ e).length ≤ r + e.length by simp; omega), fun _ _ c hc => e3 c hc, p9, p10⟩).to rfl rfl
        · rw [if_neg ho] at p7
          have hlt' : o.length < r := by
            rcases Nat.lt_or_ge o.length r with h | h
            · exact h
            · exact absurd (p5 ho (by omega) c hc) hc47
          repeat (first | refine walk1 ?_ | refine y_alloc (fun g => ?_) | refine y_boxA rfl (fun g => ?_) | refine y_make rfl rfl (fun g => ?_) | refine y_build1 rfl (fun g => ?_) | refine y_app1 rfl rfl (fun A' c' => ?_) | (refine is_load ?_; refine x_load rfl LB.cellw pt_ ?_) | fail)
          refine x_callD rfl rfl (lbAppend_fn g s o 47 (by omega) (by omega)) sub_ (by first | ((repeat (first | exact App.nil | apply App.cons)) <;> fail) | fail) pt_ ?_
          repeat (first | refine walk1 ?_ | refine y_alloc (fun g => ?_) | refine y_boxA rfl (fun g => ?_) | refine y_make rfl rfl (fun g => ?_) | refine y_build1 rfl (fun g => ?_) | refine y_app1 rfl rfl (fun A' c' => ?_) | (refine is_load ?_; refine x_load rfl LB.cellw pt_ ?_) | fail)
          generalize ho1 : o ++ [47] = o1 at *
          have ho2 : o1.length = o.length + 1 := by rw [← ho1]; simp
          have q1 : o1.length ≤ r := by omega
          have q2 : 1 ≤ o1.length := by omega
          refine e_rounds (ι := Nat) (fun j => e.length - j) (fun j => [.string (str s), undef, .string ⟨#[]⟩, .bool true, .int .i64 (s.length : Nat), .pointer (some ⟨g, 0, none⟩), .int .i64 ((r + j : Nat) : Int), .int .i64 1])
            (fun j => [LB g s (o1 ++ e.take j)]) (fun j => j ≤ e.length) 0 (Nat.zero_le _) rfl (by simp) ?_
          intro j hj ih2
          rcases Nat.lt_or_ge j e.length with hlt | hge
          · obtain ⟨b, b1, b2, b3⟩ := e2 j hlt
            have b4 : (b.toNat : Int) ≠ 47 := fun h => b3 (UInt8.toNat_inj.1 (by show b.toNat = 47; omega))
            have b5 : r + j < s.length := (List.getElem?_eq_some_iff.1 b1).1
            repeat (first | refine walk1 ?_ | refine y_alloc (fun g => ?_) | refine y_boxA rfl (fun g => ?_) | refine y_make rfl rfl (fun g => ?_) | refine y_build1 rfl (fun g => ?_) | refine y_app1 rfl rfl (fun A' c' => ?_) | fail)
            refine x_callD rfl rfl (lbAppend_fn g s (o1 ++ e.take j) b (by omega) (by simp; omega)) sub_ (by first | ((repeat (first | exact App.nil | apply App.cons)) <;> fail) | fail) pt_ ?_
            repeat (first | refine walk1 ?_ | refine y_alloc (fun g => ?_) | refine y_boxA rfl (fun g => ?_) | refine y_make rfl rfl (fun g => ?_) | refine y_build1 rfl (fun g => ?_) | refine y_app1 rfl rfl (fun A' c' => ?_) | fail)
            exact (ih2 (j + 1) (by omega) (by omega)).to rfl (by rw [List.take_add_one, b2, List.append_assoc]; rfl)
          · have hje : j = e.length := by omega
            subst hje
            rw [List.take_length]
            have p9 : noDots (l.length + 1 - (r + e.length)) (s.drop (r + e.length)) := by
              rw [← List.drop_drop]; exact (noDots_fuel _ _ _ (by simp; omega) (by simp; omega)).1 p6.2.2
            have p10 : clN (l.length + 1 - (r + e.length)) (s.drop (r + e.length)) (o1 ++ e) = clN l.length l [47] := by
              rw [← p7, ← List.drop_drop]; exact clN_fuel _ _ _ _ (by simp; omega) (by simp; omega)
            by_cases hx : r + e.length < s.length
            · obtain ⟨b, b1⟩ : ∃ b, s[r + e.length]? = some b := ⟨_, List.getElem?_eq_getElem hx⟩
              have b4 : (b.toNat : Int) = 47 := by rw [e3 b b1]; rfl
              repeat (first | refine walk1 ?_ | refine y_alloc (fun g => ?_) | refine y_boxA rfl (fun g => ?_) | refine y_make rfl rfl (fun g => ?_) | refine y_build1 rfl (fun g => ?_) | refine y_app1 rfl rfl (fun A' c' => ?_) | fail)
              exact (ih (r + e.length, o1 ++ e) (by show s.length - (r + e.length) < s.length - r; omega) ⟨(show 1 ≤ r + e.length by omega), (show r + e.length ≤ s.length by omega), (show 1 ≤ (o1 ++ e).length by simp; omega), (show (o1 ++ e).length ≤ r + e.length by simp; omega), fun _ _ c hc => e3 c hc, p9, p10⟩).to rfl rfl
            · repeat (first | refine walk1 ?_ | refine y_alloc (fun g => ?_) | refine y_boxA rfl (fun g => ?_) | refine y_make rfl rfl (fun g => ?_) | refine y_build1 rfl (fun g => ?_) | refine y_app1 rfl rfl (fun A' c' => ?_) | fail)
              exact (ih (r + e.length, o1 ++ e) (by show s.length - (r + e.length) < s.length - r; omega) ⟨(show 1 ≤ r + e.length by omega), (show r + e.length ≤ s.length by omega), (show 1 ≤ (o1 ++ e).length by simp; omega), (show (o1 ++ e).length ≤ r + e.length by simp; omega), fun _ _ c hc => e3 c hc, p9, p10⟩).to rfl rfl
  · have hdr : s.drop r = [] := List.drop_of_length_le (by omega)
    have hn : l.length + 1 - r = 0 := by omega
    rw [hdr, hn] at p7
    have p7 : o = clN l.length l [47] := p7
    repeat (first | refine walk1 ?_ | refine y_alloc (fun g => ?_) | refine y_boxA rfl (fun g => ?_) | refine y_make rfl rfl (fun g => ?_) | refine y_build1 rfl (fun g => ?_) | refine y_app1 rfl rfl (fun A' c' => ?_) | fail)
    refine x_load rfl LB.cellw pt_ ?_
    repeat (first | refine walk1 ?_ | refine y_alloc (fun g => ?_) | refine y_boxA rfl (fun g => ?_) | refine y_make rfl rfl (fun g => ?_) | refine y_build1 rfl (fun g => ?_) | refine y_app1 rfl rfl (fun A' c' => ?_) | fail)
    refine x_callq rfl rfl (lbString_fn g s o (by omega)) sub_ pt_ ?_
    repeat (first | refine walk1 ?_ | refine y_alloc (fun g => ?_) | refine y_boxA rfl (fun g => ?_) | refine y_make rfl rfl (fun g => ?_) | refine y_build1 rfl (fun g => ?_) | refine y_app1 rfl rfl (fun A' c' => ?_) | fail)
    exact e_ret' (ts := [2]) (vs := [_]) rfl rfl ⟨_, _, ⟨by rw [p7]; rfl, rfl⟩, Subs.nil⟩
end Go.Proofs.YtppkiiomedembaaGreatDoor
