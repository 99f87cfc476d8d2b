/-
  The walks: paths. Conditions: none.
-/
import Derived.Test.YtcdalfhkhifplaaGreatDoorM03
import Derived.Laws.BytesString
set_option linter.unusedVariables false
set_option linter.unusedSimpArgs false
namespace Go.Proofs.YtcdalfhkhifplaaGreatDoor
open Go
set_option maxRecDepth 100000
attribute [local irreducible] E EO
theorem qn_of_calls {P : Program} {f : FuncId} {args : Array Value} {v : Value} {L : List HP} (h : ∀ w, Calls P f args w fun e w' => e = .returned v ∧ w' = w) : Qn P f args L v := fun w S hs n =>
  (h (wat w n)).mono fun e w' ⟨he, hw⟩ => ⟨v, he, L, rfl, by subst hw; exact ((St.start hs).wat n).nrm⟩
def headP (l : List UInt8) : List UInt8 := l.takeWhile (· != 47)
def tailP (l : List UInt8) : List UInt8 := (l.dropWhile (· != 47)).drop 1
theorem indexByte_eq : ∀ (l : List UInt8), Lib.indexByte l 47 = if 47 ∈ l then ((headP l).length : Int) else -1
  | [] => rfl
  | b :: l => by
    have ih := indexByte_eq l
    unfold Lib.indexByte
    by_cases hb : b = 47
    · subst hb; simp [headP]
    · have hb' : (b == 47) = false := by simpa using hb
      have hm : (47 ∈ b :: l) ↔ 47 ∈ l := by simp [Ne.symm hb]
      have hh : headP (b :: l) = b :: headP l := by simp [headP, hb]
      rw [hb', ih, hh]
      by_cases h : 47 ∈ l
      · simp [h, hm]; try omega
      · simp [h, hm]
theorem headP_take (l : List UInt8) : l.take (headP l).length = headP l := by
  unfold headP
  induction l with
  | nil => rfl
  | cons b l ih => by_cases hb : b = 47 <;> simp [hb, ih]
theorem tailP_drop : ∀ {l : List UInt8}, 47 ∈ l → l.drop ((headP l).length + 1) = tailP l
  | b :: l, h => by
    by_cases hb : b = 47
    · subst hb; simp [headP, tailP]
    · have h' : 47 ∈ l := by simpa [Ne.symm hb] using h
      have := tailP_drop h'
      simp [headP, tailP, hb] at this ⊢
      exact this
theorem headP_none : ∀ {l : List UInt8}, 47 ∉ l → headP l = l ∧ tailP l = []
  | [], _ => ⟨rfl, rfl⟩
  | b :: l, h => by
    have hb : b ≠ 47 := fun e => h (by simp [e])
    obtain ⟨h1, h2⟩ := headP_none (l := l) (fun e => h (by simp [e]))
    exact ⟨by simp [headP, hb] at h1 ⊢; exact h1, by simp [tailP, hb] at h2 ⊢; exact h2⟩
theorem headP_lt : ∀ {l : List UInt8}, 47 ∈ l → (headP l).length < l.length
  | b :: l, h => by
    by_cases hb : b = 47
    · subst hb; simp [headP]
    · have := headP_lt (l := l) (by simpa [Ne.symm hb] using h)
      simp [headP, hb] at this ⊢; exact this
theorem splitFirst_fn (l : List UInt8) (hl : l.length ≤ 1000000000) : Qn Tryz.prog 62 #[.string (str l)] [] (.tuple #[.string (str (headP l)), .string (str (tailP l))]) := by
  have hi := qn_of_calls (L := []) (Tryz.strings_IndexByte (str l) 47)
  refine fn_of_E' (args := [_]) 5 _ [_, undef, undef, undef, undef] Tryz.func62 rfl Tryz.ntmps62 ?_
  rw [str_data, show (47 : Int).toNat.toUInt8 = (47 : UInt8) from rfl, indexByte_eq] at hi
  by_cases h : 47 ∈ l
  · rw [if_pos h] at hi
    have hlt := headP_lt h
    repeat (first | refine walk1 ?_ | refine y_alloc (fun g => ?_) | refine y_boxA rfl (fun g => ?_) | refine y_make rfl rfl (fun g => ?_) | refine y_build1 rfl (fun g => ?_) | refine y_app1 rfl rfl (fun A' c' => ?_) | fail)
    refine x_callq rfl rfl hi sub_ pt_ ?_
    repeat (first | refine walk1 ?_ | refine y_alloc (fun g => ?_) | refine y_boxA rfl (fun g => ?_) | refine y_make rfl rfl (fun g => ?_) | refine y_build1 rfl (fun g => ?_) | refine y_app1 rfl rfl (fun A' c' => ?_) | fail)
    refine e_ret (ts := [2, 3]) (vs := [_, _]) rfl rfl ?_
    rw [headP_take, tailP_drop h]; rfl
  · rw [if_neg h] at hi
    repeat (first | refine walk1 ?_ | refine y_alloc (fun g => ?_) | refine y_boxA rfl (fun g => ?_) | refine y_make rfl rfl (fun g => ?_) | refine y_build1 rfl (fun g => ?_) | refine y_app1 rfl rfl (fun A' c' => ?_) | fail)
    refine x_callq rfl rfl hi sub_ pt_ ?_
    repeat (first | refine walk1 ?_ | refine y_alloc (fun g => ?_) | refine y_boxA rfl (fun g => ?_) | refine y_make rfl rfl (fun g => ?_) | refine y_build1 rfl (fun g => ?_) | refine y_app1 rfl rfl (fun A' c' => ?_) | fail)
    refine e_ret (ts := [2, 3]) (vs := [_, _]) rfl rfl ?_
    rw [(headP_none h).1, (headP_none h).2]; rfl
def dirP (l : List UInt8) : List UInt8 := (l.reverse.dropWhile (· != 47)).reverse
def baseP (l : List UInt8) : List UInt8 := (l.reverse.takeWhile (· != 47)).reverse
theorem dir_base (l : List UInt8) : dirP l ++ baseP l = l := by
  rw [dirP, baseP, ← List.reverse_append, List.takeWhile_append_dropWhile, List.reverse_reverse]
theorem baseP_no (l : List UInt8) : ∀ b ∈ baseP l, b ≠ 47 := by
  intro b hb
  have hb : b ∈ l.reverse.takeWhile (· != 47) := by simpa [baseP] using hb
  have := List.all_takeWhile (p := fun b : UInt8 => b != 47) (l := l.reverse)
  simpa using List.all_eq_true.1 this b hb
theorem dirP_end (l : List UInt8) : dirP l = [] ∨ ∃ d, dirP l = d ++ [47] := by
  have key : ∀ r : List UInt8, r.dropWhile (· != 47) = [] ∨ ∃ d, r.dropWhile (· != 47) = 47 :: d := by
    intro r
    induction r with
    | nil => exact .inl rfl
    | cons b r ih =>
      by_cases hb : b = 47
      · subst hb; exact .inr ⟨r, by simp⟩
      · simpa [hb] using ih
  unfold dirP
  rcases key l.reverse with h | ⟨d, h⟩
  · exact .inl (by rw [h]; rfl)
  · exact .inr ⟨d.reverse, by rw [h]; simp⟩
instance natV_sub1 (a : Nat) : NatV ((a : Int) - 1 + 1) a := ⟨by omega⟩
theorem lastIndex_eq (l : List UInt8) : Lib.lastIndexByte (str l) 47 = ((dirP l).length : Int) - 1 := by
  have hlen : (dirP l).length + (baseP l).length = l.length := by rw [← List.length_append, dir_base]
  have hget : ∀ j : Nat, j < l.length → (((str l).data[j]!).toNat : Int) = 47 → l[j]? = some 47 := by
    intro j hj h
    simp only [str] at h
    rw [getElem!_pos _ _ (by simpa using hj)] at h
    simp at h
    rw [List.getElem?_eq_getElem hj]
    congr 1
    apply UInt8.toNat_inj.1
    show l[j].toNat = 47
    omega
  have hget' : ∀ j : Nat, l[j]? = some 47 → (((str l).data[j]!).toNat : Int) = 47 := by
    intro j h
    obtain ⟨hj, h⟩ := List.getElem?_eq_some_iff.1 h
    simp only [str]
    rw [getElem!_pos _ _ (by simpa using hj)]
    simp [h]
  have hlt : ∀ j : Nat, l[j]? = some 47 → j < (dirP l).length := by
    intro j h
    rw [← dir_base l] at h
    rcases Nat.lt_or_ge j (dirP l).length with h1 | h1
    · exact h1
    · rw [List.getElem?_append_right h1] at h
      exact absurd rfl (baseP_no l 47 (List.mem_of_getElem? h))
  have hlast : dirP l ≠ [] → l[(dirP l).length - 1]? = some 47 := by
    intro hne
    rcases dirP_end l with h | ⟨d, h⟩
    · exact absurd h hne
    · have : l = (d ++ [47]) ++ baseP l := by rw [← h, dir_base]
      rw [h]
      conv => lhs; rw [this]
      simp
  unfold Lib.lastIndexByte
  rw [str_size]
  rcases Lib.lastIdx_spec (str l) 47 l.length with ⟨h1, h2⟩ | ⟨i, hi, h1, h2, h3⟩
  · rw [h1]
    by_cases hne : dirP l = []
    · rw [hne]; rfl
    · have hx := hlast hne
      exact absurd (hget' _ hx) (h2 _ (List.getElem?_eq_some_iff.1 hx).1)
  · rw [h1]
    have hi' := hget i hi h2
    have hlt' := hlt i hi'
    have hne : dirP l ≠ [] := fun e => by rw [e] at hlt'; simp at hlt'
    have hx := hlast hne
    have : ¬ i < (dirP l).length - 1 := fun hc => absurd (hget' _ hx) (h3 _ hc (List.getElem?_eq_some_iff.1 hx).1)
    omega
theorem split_fn (l : List UInt8) (hl : l.length ≤ 1000000000) : Qn Tryz.prog 60 #[.string (str l)] [] (.tuple #[.string (str (dirP l)), .string (str (baseP l))]) := by
  have hi := qn_of_calls (L := []) (Tryz.bytealg_LastIndexByteString_nm (str l) 47 (by rw [str_size]; omega))
  refine fn_of_E' (args := [_]) 5 _ [_, undef, undef, undef, undef] Tryz.func60 rfl Tryz.ntmps60 ?_
  rw [lastIndex_eq] at hi
  have hlen : (dirP l).length + (baseP l).length = l.length := by rw [← List.length_append, dir_base]
  repeat (first | refine walk1 ?_ | refine y_alloc (fun g => ?_) | refine y_boxA rfl (fun g => ?_) | refine y_make rfl rfl (fun g => ?_) | refine y_build1 rfl (fun g => ?_) | refine y_app1 rfl rfl (fun A' c' => ?_) | fail)
  refine x_callq rfl rfl hi sub_ pt_ ?_
  repeat (first | refine walk1 ?_ | refine y_alloc (fun g => ?_) | refine y_boxA rfl (fun g => ?_) | refine y_make rfl rfl (fun g => ?_) | refine y_build1 rfl (fun g => ?_) | refine y_app1 rfl rfl (fun A' c' => ?_) | fail)
  refine e_ret (ts := [2, 3]) (vs := [_, _]) rfl rfl ?_
  have e1 : l.take (dirP l).length = dirP l := by
    have := List.take_left' (l₁ := dirP l) (l₂ := baseP l) rfl
    rwa [dir_base] at this
  have e2 : l.drop (dirP l).length = baseP l := by
    have := List.drop_left' (l₁ := dirP l) (l₂ := baseP l) rfl
    rwa [dir_base] at this
  rw [e1, e2]; rfl
end Go.Proofs.YtcdalfhkhifplaaGreatDoor
