import PyProof.Rows.All
import Wide.All
import OpenK.AllK
import Wide.FinOn
import KE.KOwnIter
import Lean
import PySem.Challenge.RW_kt0081_01
set_option Elab.async false
set_option compiler.extract_closed false
set_option hygiene false
set_option linter.unusedVariables false
set_option maxRecDepth 1000000
namespace Mine
section
open PySem PySem.Builtin PySem.Builtin.Str PySem.StrLaws

/-- leftmost replacement, as a scan with a count of signs still to be skipped -/
noncomputable def repS (y z : List Nat) : Nat → List Nat → List Nat
  | _, [] => []
  | k + 1, _ :: l => repS y z k l
  | 0, a :: l => if y.isPrefixOf (a :: l) then z ++ repS y z (y.length - 1) l else a :: repS y z 0 l

theorem repS_skip (y z : List Nat) : ∀ (k : Nat) (l : List Nat), repS y z k l = repS y z 0 (l.drop k)
  | 0, l => by simp
  | k + 1, [] => by simp [repS]
  | k + 1, _ :: l => by rw [repS, repS_skip y z k l]; simp

theorem repS_hit (y z l : List Nat) (hy : y ≠ []) : repS y z 0 (y ++ l) = z ++ repS y z 0 l := by
  cases y with
  | nil => exact absurd rfl hy
  | cons a r =>
    have h : (a :: r).isPrefixOf (a :: (r ++ l)) = true := by simp
    rw [List.cons_append, repS, if_pos h, repS_skip]
    simp

theorem repS_miss (y z l : List Nat) (a : Nat) (h : ¬ y <+: (a :: l)) : repS y z 0 (a :: l) = a :: repS y z 0 l := by
  rw [repS, if_neg]
  rwa [List.isPrefixOf_iff_prefix]

theorem at_prefix {x y : Str} {i : Nat} : At x y x.length i ↔ i ≤ x.length ∧ y.cps.toList <+: x.cps.toList.drop i := by
  have hl : x.cps.toList.length = x.length := by simp [PySem.Str.length]
  have hy : y.cps.toList.length = y.length := by simp [PySem.Str.length]
  unfold At
  rw [subAt_eq, beq_iff_eq]
  constructor
  · rintro ⟨h1, h2⟩
    refine ⟨by lia, ?_⟩
    rw [← h2]; exact List.take_prefix _ _
  · rintro ⟨h1, h2⟩
    have h3 := h2.length_le
    rw [List.length_drop, hl, hy] at h3
    refine ⟨by omega, ?_⟩
    rw [List.prefix_iff_eq_take, hy] at h2
    exact h2.symm

theorem repS_none (y z : List Nat) : ∀ l : List Nat, (∀ k, k < l.length → ¬ y <+: l.drop k) → repS y z 0 l = l
  | [], _ => rfl
  | a :: l, h => by
    rw [repS_miss y z l a (by simpa using h 0 (by simp)), repS_none y z l fun k hk => by simpa using h (k + 1) (by simpa using hk)]

theorem repS_upto (y z : List Nat) : ∀ (n : Nat) (l : List Nat), (∀ k, k < n → ¬ y <+: l.drop k) → n ≤ l.length → repS y z 0 l = l.take n ++ repS y z 0 (l.drop n)
  | 0, l, _, _ => by simp
  | n + 1, [], _, hn => by simp at hn
  | n + 1, a :: l, h, hn => by
    rw [repS_miss y z l a (by simpa using h 0 (by lia)), repS_upto y z n l (fun k hk => by simpa using h (k + 1) (by lia)) (by simpa using hn)]
    simp

theorem join_cons_toList (z p : Str) (q : Str) (r : List Str) : (Str.join z (p :: q :: r)).cps.toList = p.cps.toList ++ z.cps.toList ++ (Str.join z (q :: r)).cps.toList := by
  show ((p ++ z ++ Str.join z (q :: r) : Str)).cps.toList = _
  simp [Str.cps_append]

theorem parts_rep (x y z : Str) (hy : y.cps.toList ≠ []) : ∀ (cuts : List Nat) (a f : Nat), a ≤ x.length → ChainG x y x.length a cuts f → (∀ k, f ≤ k → ¬ At x y x.length k) →
    (Str.join z (partsFrom x y.length a cuts)).cps.toList = repS y.cps.toList z.cps.toList 0 (x.cps.toList.drop a) := by
  have hl : x.cps.toList.length = x.length := by simp [PySem.Str.length]
  have hyl : y.cps.toList.length = y.length := by simp [PySem.Str.length]
  intro cuts
  induction cuts with
  | nil =>
    intro a f ha h hn
    have e : f = a := h
    subst e
    rw [repS_none]
    · show (strSub x f x.length).cps.toList = _
      rw [strSub_toList]
      exact List.take_of_length_le (by rw [List.length_drop, hl]; lia)
    · intro k hk hp
      rw [List.drop_drop] at hp
      rw [List.length_drop, hl] at hk
      exact hn (f + k) (by lia) (at_prefix.mpr ⟨by omega, hp⟩)
  | cons c r ih =>
    intro a f ha h hn
    obtain ⟨h1, h2, h3, h4⟩ := h
    have hcl := h2.1
    have hA := (at_prefix.mp h2).2
    obtain ⟨p, q, e⟩ := partsFrom_ne x y.length (c + y.length) r
    have ih' := ih (c + y.length) f hcl h4 hn
    show (Str.join z (strSub x a c :: partsFrom x y.length (c + y.length) r)).cps.toList = _
    rw [e] at ih' ⊢
    rw [join_cons_toList, ih', strSub_toList]
    rw [repS_upto _ _ (c - a) (x.cps.toList.drop a)]
    · rw [List.drop_drop, show a + (c - a) = c by omega]
      obtain ⟨t, ht⟩ := hA
      have ht' : t = x.cps.toList.drop (c + y.length) := by
        rw [← List.drop_drop, ← ht, ← hyl, List.drop_left]
      rw [← ht, repS_hit _ _ _ hy, ht', List.append_assoc]
    · intro k hk hp
      rw [List.drop_drop] at hp
      exact h3 (a + k) (by lia) (by omega) (at_prefix.mpr ⟨by omega, hp⟩)
    · rw [List.length_drop, hl]; omega

theorem replace_toList (x y z : Str) (hy : y.cps.toList ≠ []) : (Txt.replace x y z).cps.toList = repS y.cps.toList z.cps.toList 0 x.cps.toList := by
  have hyl : y.cps.toList.length = y.length := by simp [PySem.Str.length]
  have hw : 1 ≤ y.length := by
    rw [← hyl]; cases hq : y.cps.toList with
    | nil => exact absurd hq hy
    | cons _ _ => simp
  obtain ⟨f, hG, hn⟩ := occ_tight x y hw
  have key := parts_rep x y z hy _ 0 f (Nat.zero_le _) hG hn
  rw [List.drop_zero] at key
  rw [← key]
  unfold Txt.replace
  split
  · rename_i hc
    have hz : (y.length == 0 && z.length == 0) = false := by
      have : (y.length == 0) = false := by simp; lia
      rw [this]; rfl
    rw [hz, Bool.or_false] at hc
    rw [List.isEmpty_iff.mp hc]
    show _ = (strSub x 0 x.length).cps.toList
    rw [sub_whole]
  · rw [glued_eq_join, partsBetween_eq]

/-- the signs of a text -/
noncomputable abbrev L (x : Str) : List Nat := x.cps.toList

theorem L_length (x : Str) : (L x).length = x.length := by simp [PySem.Str.length]
theorem L_append (x y : Str) : L (x ++ y) = L x ++ L y := by simp [L, Str.cps_append]
theorem L_inj {x y : Str} (h : L x = L y) : x = y := Str.ext' (Array.toList_inj.mp h)
theorem L_mk (l : List Nat) : L ⟨l.toArray⟩ = l := rfl

theorem replace_one_L (x z : Str) (c : Nat) : L (Txt.replace x ⟨#[c]⟩ z) = (L x).flatMap fun a => if a = c then L z else [a] := by
  have h := replace_toList x ⟨#[c]⟩ z (by simp)
  rw [L, h]
  show repS [c] (L z) 0 (L x) = _
  generalize L x = l
  induction l with
  | nil => rfl
  | cons a l ih =>
    by_cases e : a = c
    · subst e
      have := repS_hit [a] (L z) l (by simp)
      rw [List.singleton_append] at this
      rw [this, ih]; simp
    · rw [repS_miss, ih]
      · simp [e]
      · rintro ⟨t, ht⟩
        simp at ht
        exact e ht.1.symm

theorem count_one (x : Str) (c : Nat) : Txt.count x ⟨#[c]⟩ = ((L x).count c : Nat) := by
  have hl : x.cps.toList.length = x.length := by simp [PySem.Str.length]
  obtain ⟨f, hG, hn⟩ := occ_tight x ⟨#[c]⟩ (Nat.le_refl 1)
  unfold Txt.count
  congr 1
  have key : ∀ (cuts : List Nat) (a : Nat), a ≤ x.length → ChainG x ⟨#[c]⟩ x.length a cuts f → cuts.length = (x.cps.toList.drop a).count c := by
    intro cuts
    induction cuts with
    | nil =>
      intro a ha h
      have e : f = a := h
      subst e
      symm
      rw [List.length_nil, List.count_eq_zero]
      intro hm
      obtain ⟨j, hj⟩ := List.getElem?_of_mem hm
      rw [List.getElem?_drop] at hj
      exact hn (f + j) (by lia) ((subAt_one x c (f + j)).mpr hj)
    | cons d r ih =>
      intro a ha h
      obtain ⟨h1, h2, h3, h4⟩ := h
      have hcl := h2.1
      have h1' : (⟨#[c]⟩ : Str).length = 1 := rfl
      rw [h1'] at hcl h4
      have hd : x.cps.toList[d]? = some c := (subAt_one x c d).mp h2
      have e1 : x.cps.toList.drop d = c :: x.cps.toList.drop (d + 1) := by
        obtain ⟨hlt, hv⟩ := List.getElem?_eq_some_iff.mp hd
        rw [List.drop_eq_getElem_cons hlt, hv]
      have e2 : x.cps.toList.drop a = (x.cps.toList.drop a).take (d - a) ++ x.cps.toList.drop d := by
        conv => lhs; rw [← List.take_append_drop (d - a) (x.cps.toList.drop a)]
        rw [List.drop_drop, show a + (d - a) = d by omega]
      have e3 : ((x.cps.toList.drop a).take (d - a)).count c = 0 := by
        rw [List.count_eq_zero]
        intro hm
        obtain ⟨j, hj⟩ := List.getElem?_of_mem hm
        have hlt : j < d - a := by
          have h1 : j < ((x.cps.toList.drop a).take (d - a)).length := (List.getElem?_eq_some_iff.mp hj).1
          simp at h1
          omega
        rw [List.getElem?_take_of_lt hlt, List.getElem?_drop] at hj
        exact h3 (a + j) (by lia) (by omega) ((subAt_one x c (a + j)).mpr hj)
      rw [e2, List.count_append, e3, e1, List.count_cons_self, ← ih (d + 1) hcl h4]
      simp
  have := key _ 0 (Nat.zero_le _) hG
  rw [List.drop_zero] at this
  exact this

theorem contains_one (x : Str) (c : Nat) : Txt.contains x ⟨#[c]⟩ = decide (c ∈ L x) := found_one x c


/-- a table of single signs and what stands for each -/
noncomputable abbrev Tbl := List (Nat × List Nat)
noncomputable def sub1 (T : Tbl) (c : Nat) : List Nat := match T.lookup c with
  | some r => r
  | none => [c]
noncomputable def Esc (T : Tbl) (x : Str) : Str := ⟨((L x).flatMap (sub1 T)).toArray⟩
theorem L_Esc (T : Tbl) (x : Str) : L (Esc T x) = (L x).flatMap (sub1 T) := rfl
theorem Esc_nil (x : Str) : Esc [] x = x := by
  apply L_inj
  rw [L_Esc]
  show (L x).flatMap (fun c => [c]) = L x
  generalize L x = l
  induction l with
  | nil => rfl
  | cons a l ih => rw [List.flatMap_cons, ih]; rfl
noncomputable def fresh (T : Tbl) (c : Nat) : Bool := T.all fun p => p.1 != c && !p.2.contains c
theorem lookup_snoc (T : Tbl) (c a : Nat) (r : List Nat) : (T ++ [(c, r)]).lookup a = (T.lookup a).or (if a == c then some r else none) := by
  induction T with
  | nil =>
    show (match a == c with | true => some r | false => none) = (none : Option (List Nat)).or _
    cases h : a == c <;> rfl
  | cons p T ih =>
    obtain ⟨k, v⟩ := p
    rw [List.cons_append, List.lookup_cons, List.lookup_cons]
    cases a == k with
    | true => rfl
    | false => exact ih
theorem lookup_mem {T : Tbl} {a : Nat} {r : List Nat} (h : T.lookup a = some r) : (a, r) ∈ T := by
  induction T with
  | nil => cases h
  | cons p T ih =>
    obtain ⟨k, v⟩ := p
    rw [List.lookup_cons] at h
    cases hk : a == k with
    | true => rw [hk] at h; cases h; rw [beq_iff_eq.mp hk]; exact .head _
    | false => rw [hk] at h; exact .tail _ (ih h)
theorem sub1_snoc (T : Tbl) (c : Nat) (z : List Nat) (hf : fresh T c = true) (a : Nat) : ((sub1 T a).flatMap fun b => if b = c then z else [b]) = sub1 (T ++ [(c, z)]) a := by
  unfold sub1
  rw [lookup_snoc]
  cases h : T.lookup a with
  | some r =>
    have hm := lookup_mem h
    have := List.all_eq_true.mp hf _ hm
    rw [Bool.and_eq_true] at this
    have hc : c ∉ r := by
      intro hc
      have := this.2
      simp [hc] at this
    show r.flatMap _ = r
    clear h hm this hf
    induction r with
    | nil => rfl
    | cons b r ih =>
      rw [List.flatMap_cons, ih (fun h => hc (.tail _ h)), if_neg (fun e : b = c => hc (e ▸ List.Mem.head _))]
      rfl
  | none =>
    show [a].flatMap _ = _
    by_cases e : a = c
    · subst e; simp
    · simp [e]
theorem Esc_snoc (T : Tbl) (x z a : Str) (c : Nat) (ha : L a = [c]) (hf : fresh T c = true) : Txt.replace (Esc T x) a z = Esc (T ++ [(c, L z)]) x := by
  have e : a = ⟨#[c]⟩ := L_inj ha
  subst e
  apply L_inj
  rw [replace_one_L, L_Esc, L_Esc, List.flatMap_assoc]
  congr 1
  funext b
  exact sub1_snoc T c (L z) hf b
theorem Esc_len (T : Tbl) (x : Str) (B : Nat) (hB : 1 ≤ B) (h : (T.all fun p => decide (p.2.length ≤ B)) = true) : (Esc T x).length ≤ B * x.length := by
  rw [← L_length, ← L_length, L_Esc]
  generalize L x = l
  induction l with
  | nil => simp
  | cons a l ih =>
    rw [List.flatMap_cons, List.length_append, List.length_cons]
    have h1 : (sub1 T a).length ≤ B := by
      unfold sub1
      cases hl : T.lookup a with
      | some r =>
        have := List.all_eq_true.mp h _ (lookup_mem hl)
        exact of_decide_eq_true this
      | none => simpa using hB
    rw [Nat.mul_add]
    omega
theorem nine {k : Int} (h : 0 ≤ k ∧ k ≤ 8) : k = 0 ∨ k = 1 ∨ k = 2 ∨ k = 3 ∨ k = 4 ∨ k = 5 ∨ k = 6 ∨ k = 7 ∨ k = 8 := by
  obtain ⟨n, rfl⟩ := Int.eq_ofNat_of_zero_le h.1
  have key : ∀ m : Nat, m < 9 → (m : Int) = 0 ∨ (m : Int) = 1 ∨ (m : Int) = 2 ∨ (m : Int) = 3 ∨ (m : Int) = 4 ∨ (m : Int) = 5 ∨ (m : Int) = 6 ∨ (m : Int) = 7 ∨ (m : Int) = 8 := by decide
  exact key n (Int.ofNat_lt.mp (Int.lt_add_one_of_le h.2))
theorem seven {i : Nat} (h : i < 7) : i = 0 ∨ i = 1 ∨ i = 2 ∨ i = 3 ∨ i = 4 ∨ i = 5 ∨ i = 6 :=
  (by decide : ∀ j : Nat, j < 7 → j = 0 ∨ j = 1 ∨ j = 2 ∨ j = 3 ∨ j = 4 ∨ j = 5 ∨ j = 6) i h
end
section
open PySem PySem.W PySem.Spec PySem.Calls PyProof.Rows
theorem L_slice (x : Str) {a b : Nat} (hab : a ≤ b) (hb : b ≤ x.length) : L (Txt.slice x (some (a : Int)) (some (b : Int))) = ((L x).drop a).take (b - a) := by
  show L (StrLaws.sliceText x _ _) = _
  rw [StrLaws.sliceText_nat x hab hb]
theorem L_slice_neg (x : Str) {k : Nat} (h0 : 0 < k) (h1 : k ≤ x.length) : L (Txt.slice x none (some (-(k : Int)))) = (L x).take (x.length - k) := by
  show L (StrLaws.sliceText x _ _) = _
  rw [StrLaws.sliceText_to_neg (by omega) (by omega)]
  show (List.take _ (List.drop 0 (L x))) = _
  rw [List.drop_zero]
  congr 1
  lia
theorem L_slice_mid (x : Str) {a k : Nat} (h0 : 0 < k) (h1 : a + k ≤ x.length) : L (Txt.slice x (some (a : Int)) (some (-(k : Int)))) = ((L x).drop a).take (x.length - k - a) := by
  show L (StrLaws.sliceText x _ _) = _
  rw [StrLaws.sliceText_neg_hi x _ (by omega) (by omega), show (-(k : Int) + (x.length : Int)) = ((x.length - k : Nat) : Int) by omega, StrLaws.sliceText_nat x (by omega) (by omega)]
theorem L_lit (s : String) : L (Str.ofString s) = s.toList.map Char.toNat := by rw [Str.ofString_eq_toList]
noncomputable def one (x : Str) (p : Nat) : Str := ⟨#[(L x).getD p 0]⟩
/-- what read(1) gives -/
theorem slice_one (x : Str) {p : Nat} (hp : p < x.length) : Txt.slice (Txt.slice x (some (p : Int)) (some ((p + 1 : Nat) : Int)) ++ Str.ofString " ") none (some (-1)) = one x p := by
  apply L_inj
  have hl : L (Txt.slice x (some (p : Int)) (some ((p + 1 : Nat) : Int))) = [(L x).getD p 0] := by
    rw [L_slice x (by omega) (by omega)]
    have hp' : p < (L x).length := by rw [L_length]; exact hp
    rw [show p + 1 - p = 1 by lia, List.drop_eq_getElem_cons hp', List.getD_eq_getElem?_getD, List.getElem?_eq_getElem hp']
    rfl
  have hlen : (Txt.slice x (some (p : Int)) (some ((p + 1 : Nat) : Int)) ++ Str.ofString " ").length = 2 := by
    rw [← L_length, L_append, hl]; rfl
  rw [show (-1 : Int) = -((1 : Nat) : Int) from rfl, L_slice_neg _ (by decide) (by rw [hlen]; decide), hlen, L_append, hl]
  rfl

open PySem.Builtin PySem.Builtin.Str in
/-- where the next line feed stands, from p on -/
noncomputable def nlAt (x : Str) (p : Nat) : Int := match occurrences x (Str.ofString "\n") p x.length 1 with | k :: _ => (k : Int) | [] => -1
open PySem.Builtin PySem.Builtin.Str StrLaws in
theorem nl_none (x : Str) (p : Nat) (h : ∀ c ∈ (L x).drop p, c ≠ 10) : nlAt x p = -1 := by
  have : occurrences x (Str.ofString "\n") p x.length 1 = [] := by
    rw [List.eq_nil_iff_forall_not_mem]
    intro i hi
    have h1 := occ_spec x (Str.ofString "\n") p x.length 1 i hi
    have h2 : At x ⟨#[10]⟩ x.length i := ⟨h1.1, h1.2⟩
    rw [at_prefix] at h2
    have hlo : p ≤ i := by
      rw [occ_eq] at hi
      have key : ∀ (l : List Nat) (st : Array Nat × Nat), (∀ i ∈ l, p ≤ i) → (∀ i ∈ st.1.toList, p ≤ i) → ∀ i ∈ (forIn l st (occBody x (Str.ofString "\n") x.length 1)).run.fst.toList, p ≤ i := by
        intro l
        induction l with
        | nil => intro st _ h; exact h
        | cons a l ih =>
          intro st h1 h2
          rw [List.forIn_cons]
          unfold occBody
          split
          · exact ih _ (fun i hi => h1 i (List.mem_cons_of_mem _ hi)) (by
              intro i hi
              rw [Array.toList_push] at hi
              rcases List.mem_append.mp hi with hi | hi
              · exact h2 i hi
              · rw [List.mem_singleton.mp hi]; exact h1 a List.mem_cons_self)
          · exact ih _ (fun i hi => h1 i (List.mem_cons_of_mem _ hi)) h2
      exact key _ _ (fun i hi => (List.mem_range'_1.mp hi).1) (fun i hi => by simp at hi) i hi
    obtain ⟨hle, hpre⟩ := h2
    obtain ⟨r, hr⟩ := hpre
    have hm : 10 ∈ (L x).drop i := by show 10 ∈ x.cps.toList.drop i; rw [← hr]; simp
    refine h 10 ?_ rfl
    have : (L x).drop i = ((L x).drop p).drop (i - p) := by rw [List.drop_drop]; congr 1; omega
    rw [this] at hm
    exact List.mem_of_mem_drop hm
  unfold nlAt; rw [this]
open PySem.Builtin PySem.Builtin.Str StrLaws in
theorem nl_next (x : Str) (p : Nat) (c : Nat) (r : List Nat) (hc : c ≠ 10) (h : (L x).drop p = c :: 10 :: r) : nlAt x p = ((p + 1 : Nat) : Int) := by
  have hlen : p + 2 ≤ x.length := by
    have := congrArg List.length h
    rw [List.length_drop, L_length] at this
    simp only [List.length_cons] at this
    omega
  have h10 : (L x).drop (p + 1) = 10 :: r := by rw [← List.drop_drop, h]; rfl
  have e : occurrences x (Str.ofString "\n") p x.length 1 = [p + 1] := by
    rw [occ_eq, show x.length + 1 - p = (x.length - 1 - p) + 1 + 1 by lia, List.range'_succ, List.forIn_cons]
    have n1 : ¬ subAt x (Str.ofString "\n") p = true := by
      intro hs
      have h2 : At x ⟨#[10]⟩ x.length p := ⟨by show p + 1 ≤ _; omega, hs⟩
      rw [at_prefix] at h2
      obtain ⟨_, r2, hr⟩ := h2
      have : (10 : Nat) :: r2 = c :: 10 :: r := by rw [← h]; exact hr
      exact hc (List.cons.inj this).1.symm
    have n2 : subAt x (Str.ofString "\n") (p + 1) = true := by
      have : At x ⟨#[10]⟩ x.length (p + 1) := at_prefix.mpr ⟨by omega, r, by show [10] ++ r = (L x).drop (p + 1); rw [h10]; rfl⟩
      exact this.2
    unfold occBody
    rw [if_neg (by intro z; exact n1 z.2)]
    show (ForIn.forIn (List.range' (p + 1) (x.length - 1 - p + 1)) (#[], p) (occBody x (Str.ofString "\n") x.length 1)).run.fst.toList = _
    rw [List.range'_succ, List.forIn_cons]
    have c1 : ((((#[] : Array Nat), p).fst.size < 1 ∧ ((#[] : Array Nat), p).snd ≤ p + 1) ∧ (p + 1) + (Str.ofString "\n").length ≤ x.length) ∧ subAt x (Str.ofString "\n") (p + 1) = true :=
      ⟨⟨⟨by simp, by show p ≤ p + 1; omega⟩, by show p + 1 + 1 ≤ _; omega⟩, n2⟩
    unfold occBody
    rw [if_pos c1]
    have rest : ∀ (l : List Nat) (st : Array Nat × Nat), st.1 = #[p + 1] → (forIn l st (occBody x (Str.ofString "\n") x.length 1)).run.fst = #[p + 1] := by
      intro l
      induction l with
      | nil => intro st h; exact h
      | cons a l ih =>
        intro st h
        rw [List.forIn_cons]
        unfold occBody
        rw [if_neg (by rw [h]; intro z; exact absurd z.1.1.1 (by show ¬ (1 < 1); decide))]
        exact ih _ h
    exact congrArg Array.toList (rest _ _ rfl)
  unfold nlAt; rw [e]
end
section
open PySem PySem.W PyProof.Rows

/-- a tree out of a list, each insertion looked at -/
noncomputable def intoTree : List Obj → Nat → BT → Option BT
  | [], _, T => some T
  | o :: r, n, T => match ((T.ins n o).get n).isSome with
    | true => intoTree r (n + 1) (T.ins n o)
    | false => none

theorem absHeap_objs_list (t : BT) (n : Nat) (life : Life) : (absHeap t n life).objs = (t.list n).toArray := rfl

theorem intoTree_spec (life : Life) : ∀ (l : List Obj) (n : Nat) (T T' : BT), intoTree l n T = some T' → absHeap T' (n + l.length) life = ⟨(absHeap T n life).objs ++ l.toArray, life⟩
  | [], n, T, T', h => by
    obtain rfl : T = T' := Option.some.inj h
    simp [absHeap]
  | o :: r, n, T, T', h => by
    unfold intoTree at h
    cases hg : ((T.ins n o).get n).isSome with
    | false => rw [hg] at h; cases h
    | true =>
      rw [hg] at h
      have ih := intoTree_spec life r (n + 1) (T.ins n o) T' h
      rw [absHeap_ins hg] at ih
      rw [List.length_cons, show n + (r.length + 1) = n + 1 + r.length by omega, ih]
      show Heap.mk (((absHeap T n life).push o).objs ++ r.toArray) life = _
      congr 1
      generalize absHeap T n life = H
      obtain ⟨objs, lf⟩ := H
      show objs.push o ++ r.toArray = objs ++ (o :: r).toArray
      apply Array.toList_inj.mp
      simp

noncomputable def toTree (s : Shared) : Option SharedT := match intoTree s.heap.objs.toList 0 .nil with
  | some T => some ⟨T, s.heap.objs.toList.length, s.heap.life, s.gens, s.drawn, s.toks, s.os⟩
  | none => none

theorem toTree_abs {s : Shared} {t : SharedT} (h : toTree s = some t) : t.abs = s := by
  obtain ⟨⟨objs, life⟩, gens, drawn, toks, os⟩ := s
  unfold toTree at h
  dsimp only at h
  cases hT : intoTree objs.toList 0 .nil with
  | none => rw [hT] at h; cases h
  | some T =>
    rw [hT] at h
    obtain rfl := Option.some.inj h
    have := intoTree_spec life _ _ _ _ hT
    rw [Nat.zero_add] at this
    show Shared.mk (absHeap T objs.toList.length life) gens drawn toks os = _
    rw [this]
    simp [absHeap, BT.list]

noncomputable def impEndsT (tb : String → Option Builtin) (p : Program) (w : World) : Nat → SharedT → Thread → Option SharedT
  | 0, _, _ => none
  | n + 1, s, t => match t.atExitBegin with
    | some [] => some s
    | some (_ :: _) => none
    | none => match stepT (denote tb) p w s t with
      | some (s', t') => impEndsT tb p w n s' t'
      | none => none

theorem impEndsT_of {tb : String → Option Builtin} {p : Program} {w : World} : ∀ {n : Nat} {s s' : SharedT} {t : Thread}, impEndsT tb p w n s t = some s' → importEnds tb p w n s.abs t = some s'.abs
  | 0, _, _, _, h => by cases h
  | n + 1, s, s', t, h => by
    unfold impEndsT at h
    unfold importEnds
    cases he : t.atExitBegin with
    | some l => rw [he] at h; cases l <;> cases h; rfl
    | none =>
      rw [he] at h
      cases hs : stepT (denote tb) p w s t with
      | none => rw [hs] at h; cases h
      | some r => obtain ⟨s₂, t₂⟩ := r; rw [hs] at h; dsimp only; rw [stepT_spec hs]; exact impEndsT_of h

noncomputable def topRunT (tb : String → Option Builtin) (p : Program) (w : World) (n₀ : Nat) (ann : Option Value) : Nat → SharedT → Thread → Option SharedT
  | 0, _, _ => none
  | n + 1, s, t => match through t with
    | true => some s
    | false => match stepOk n₀ ann t with
      | false => none
      | true => match stepT (denote tb) p w s t with
        | some (s', t') => topRunT tb p w n₀ ann n s' t'
        | none => none

theorem topRunT_of {tb : String → Option Builtin} {p : Program} {w : World} {n₀ : Nat} {ann : Option Value} : ∀ {n : Nat} {s s' : SharedT} {t : Thread}, topRunT tb p w n₀ ann n s t = some s' → topRun tb p w n₀ ann n s.abs t = some s'.abs
  | 0, _, _, _, h => by cases h
  | n + 1, s, s', t, h => by
    unfold topRunT at h
    unfold topRun
    cases he : through t with
    | true => rw [he] at h; cases h; rfl
    | false =>
      rw [he] at h
      cases hk : stepOk n₀ ann t with
      | false => rw [hk] at h; cases h
      | true =>
        rw [hk] at h
        cases hs : stepT (denote tb) p w s t with
        | none => rw [hs] at h; cases h
        | some r => obtain ⟨s₂, t₂⟩ := r; rw [hs] at h; dsimp only; rw [stepT_spec hs]; exact topRunT_of h

noncomputable def fenced (tb : String → Option Builtin) (p : Program) (w : World) (N : Nat) : Option SharedT :=
  (toTree (start (opening p)).1).bind fun a => (impEndsT tb (opening p) w N a (start (opening p)).2).bind fun s => (fenceModules? p s.abs).bind toTree

theorem fenced_of {tb : String → Option Builtin} {p : Program} {w : World} {N : Nat} {s : SharedT} (h : fenced tb p w N = some s) : fencedOpening tb p w N = some s.abs := by
  obtain ⟨a, h1, h⟩ := Option.bind_eq_some_iff.mp h
  obtain ⟨b, h2, h⟩ := Option.bind_eq_some_iff.mp h
  obtain ⟨c, h3, h4⟩ := Option.bind_eq_some_iff.mp h
  have e1 := toTree_abs h1
  have e2 := impEndsT_of h2
  rw [e1] at e2
  unfold fencedOpening
  rw [e2]
  show fenceModules? p b.abs = _
  rw [h3, toTree_abs h4]

noncomputable def fromT (tb : String → Option Builtin) (p : Program) (w : World) (N : Nat) (s₀ : SharedT) : Option SharedT :=
  match s₀.abs.heap.isNs mainGlobals && s₀.gens.size == 0 with
  | true => (topRunT tb p w s₀.n (s₀.abs.heap.nsMap mainGlobals "__annotations__") N s₀ (topStub p)).bind fun s₁ =>
      match staticsOk (importedModules p.main.body) s₀.abs.heap s₁.abs.heap && namesBound p s₁.abs.heap && gensDone s₁.abs && laidKept s₀.abs.heap s₁.abs.heap with
      | true => some s₁
      | false => none
  | false => none

theorem fromT_of {tb : String → Option Builtin} {p : Program} {w : World} {N : Nat} {s₀ s₁ : SharedT} (h : fromT tb p w N s₀ = some s₁) : topFrom tb p w N s₀.abs = some s₁.abs := by
  unfold fromT at h
  unfold topFrom
  have e0 : s₀.abs.gens = s₀.gens := rfl
  have e1 : s₀.abs.heap.objs.size = s₀.n := absHeap_size _ _ _
  rw [e0, e1]
  cases hg : (s₀.abs.heap.isNs mainGlobals && s₀.gens.size == 0) with
  | false => rw [hg] at h; cases h
  | true =>
    rw [hg] at h
    obtain ⟨s, h1, h2⟩ := Option.bind_eq_some_iff.mp h
    have h3 := topRunT_of h1
    dsimp only
    rw [h3]
    show (match staticsOk (importedModules p.main.body) s₀.abs.heap s.abs.heap && namesBound p s.abs.heap && gensDone s.abs && laidKept s₀.abs.heap s.abs.heap with | true => some s.abs | false => none) = _
    cases hs : (staticsOk (importedModules p.main.body) s₀.abs.heap s.abs.heap && namesBound p s.abs.heap && gensDone s.abs && laidKept s₀.abs.heap s.abs.heap) with
    | false => rw [hs] at h2; cases h2
    | true => rw [hs] at h2; cases h2; rfl

noncomputable def endsT (tb : String → Option Builtin) (p : Program) (w : World) (N : Nat) : Option SharedT := (fenced tb p w N).bind (fromT tb p w N)

theorem endsT_of {tb : String → Option Builtin} {p : Program} {w : World} {N : Nat} {s : SharedT} (h : endsT tb p w N = some s) : openEnds tb p w N = some s.abs := by
  obtain ⟨a, h1, h2⟩ := Option.bind_eq_some_iff.mp h
  unfold openEnds
  rw [fenced_of h1]
  exact fromT_of h2

theorem leftO_of {p q : Program} {loose : List Str} {Xt : Shared → Bool} {α : Type} {Yf : Shared → α} {Ya : World → α} {N : Nat} {g0 : Bool}
    (h : ∀ w, (endsT treeTable p w N).map (fun s => (openSeen q loose (importedModules p.main.body) Xt g0 s.abs, Yf s.abs)) = some (openGood q loose, Ya w)) : LeftO p q loose Xt Yf Ya N g0 := fun w => by
  obtain ⟨s, h1, h2⟩ := Option.map_eq_some_iff.mp (h w)
  rw [endsT_of h1]
  exact congrArg some h2

noncomputable def headSees (tb : String → Option Builtin) (p : Program) (w : World) (N : Nat) (q : Program) (loose : List Str) (Xt : Shared → Bool) (as : List Nat) :=
  (endsT tb p w N).map fun s => (openSeen q loose (importedModules p.main.body) Xt true s.abs, as.map s.abs.heap.get?)

noncomputable def pwBody : List Stmt := PySem.Challenge.pw_kt0081_01.main.body
noncomputable def nth : List Stmt → Nat → Option Stmt
  | [], _ => none
  | s :: _, 0 => some s
  | _ :: r, n + 1 => nth r n
noncomputable def clsBody : Option Stmt → List Stmt
  | some (.ClassDef _ _ _ b _ _ _ _ _ _ _) => b
  | _ => []
noncomputable def partsOf : Option Stmt → Option (Arguments × List Stmt × Scope)
  | some (.FunctionDef _ a b _ _ _ sc _ _ _) => some (a, b, sc)
  | _ => none
noncomputable def foOf (x : Option (Arguments × List Stmt × Scope)) (name qual : Str) (dV kV pm cd : Value) : Obj := match x with
  | some (ps, b, sc) => ⟨.type "function", none, .func (fnOf name qual ps b sc dV kV .none pm none cd .none), #[]⟩
  | none => default
noncomputable def foP (st : Option Stmt) (name qual : Str) (dV kV pm cd : Value) : Obj := foOf (partsOf st) name qual dV kV pm cd
noncomputable def o3 (P : Params) : Obj := ⟨(.type "dict"), none, (.dict [⟨PyData.keyHash P (Str.ofString "__name__"), (.str (Str.ofString "__name__") 165), (.str (Str.ofString "law_kt0081_01") 1364)⟩, ⟨PyData.keyHash P (Str.ofString "__doc__"), (.str (Str.ofString "__doc__") 166), .none⟩, ⟨PyData.keyHash P (Str.ofString "__package__"), (.str (Str.ofString "__package__") 167), .none⟩, ⟨PyData.keyHash P (Str.ofString "__loader__"), (.str (Str.ofString "__loader__") 168), (.builtin "__main__.__loader__#opaque")⟩, ⟨PyData.keyHash P (Str.ofString "__spec__"), (.str (Str.ofString "__spec__") 169), .none⟩, ⟨PyData.keyHash P (Str.ofString "__annotations__"), (.str (Str.ofString "__annotations__") 170), (.ref 6)⟩, ⟨PyData.keyHash P (Str.ofString "__builtins__"), (.str (Str.ofString "__builtins__") 171), (.ref 4)⟩, ⟨PyData.keyHash P (Str.ofString "__file__"), (.str (Str.ofString "__file__") 173), (.str (Str.ofString "/claim/cut.py") 172)⟩, ⟨PyData.keyHash P (Str.ofString "__cached__"), (.str (Str.ofString "__cached__") 174), .none⟩, ⟨PyData.keyHash P (Str.ofString "_sre"), (.str (Str.ofString "_sre") 275), (.ref 12)⟩, ⟨PyData.keyHash P (Str.ofString "deque"), (.str (Str.ofString "deque") 317), (.type "collections.deque")⟩, ⟨PyData.keyHash P (Str.ofString "_wall"), (.str (Str.ofString "_wall") 330), (.ref 44)⟩, ⟨PyData.keyHash P (Str.ofString "_buffer"), (.str (Str.ofString "_buffer") 340), (.ref 51)⟩, ⟨PyData.keyHash P (Str.ofString "_truth"), (.str (Str.ofString "_truth") 348), (.ref 58)⟩, ⟨PyData.keyHash P (Str.ofString "_B64"), (.str (Str.ofString "_B64") 350), (.bytes #[65, 66, 67, 68, 69, 70, 71, 72, 73, 74, 75, 76, 77, 78, 79, 80, 81, 82, 83, 84, 85, 86, 87, 88, 89, 90, 97, 98, 99, 100, 101, 102, 103, 104, 105, 106, 107, 108, 109, 110, 111, 112, 113, 114, 115, 116, 117, 118, 119, 120, 121, 122, 48, 49, 50, 51, 52, 53, 54, 55, 56, 57, 43, 47] 349)⟩, ⟨PyData.keyHash P (Str.ofString "b2a_base64"), (.str (Str.ofString "b2a_base64") 364), (.ref 66)⟩, ⟨PyData.keyHash P (Str.ofString "_NO_SEP"), (.str (Str.ofString "_NO_SEP") 365), (.ref 67)⟩, ⟨PyData.keyHash P (Str.ofString "b2a_hex"), (.str (Str.ofString "b2a_hex") 376), (.ref 75)⟩, ⟨PyData.keyHash P (Str.ofString "hexlify"), (.str (Str.ofString "hexlify") 377), (.ref 75)⟩, ⟨PyData.keyHash P (Str.ofString "b64encode"), (.str (Str.ofString "b64encode") 388), (.ref 83)⟩, ⟨PyData.keyHash P (Str.ofString "b16encode"), (.str (Str.ofString "b16encode") 395), (.ref 90)⟩, ⟨PyData.keyHash P (Str.ofString "_twin_re_1"), (.str (Str.ofString "_twin_re_1") 435), (.ref 95)⟩, ⟨PyData.keyHash P (Str.ofString "_whence"), (.str (Str.ofString "_whence") 445), (.ref 102)⟩, ⟨PyData.keyHash P (Str.ofString "_index"), (.str (Str.ofString "_index") 453), (.ref 109)⟩, ⟨PyData.keyHash P (Str.ofString "UnsupportedOperation"), (.str (Str.ofString "UnsupportedOperation") 475), (.ref 119)⟩, ⟨PyData.keyHash P (Str.ofString "IOBase"), (.str (Str.ofString "IOBase") 507), (.ref 139)⟩, ⟨PyData.keyHash P (Str.ofString "BufferedIOBase"), (.str (Str.ofString "BufferedIOBase") 525), (.ref 154)⟩, ⟨PyData.keyHash P (Str.ofString "TextIOBase"), (.str (Str.ofString "TextIOBase") 543), (.ref 166)⟩, ⟨PyData.keyHash P (Str.ofString "BytesIO"), (.str (Str.ofString "BytesIO") 805), (.ref 396)⟩, ⟨PyData.keyHash P (Str.ofString "StringIO"), (.str (Str.ofString "StringIO") 1092), (.ref 643)⟩, ⟨PyData.keyHash P (Str.ofString "_kind"), (.str (Str.ofString "_kind") 1103), (.ref 652)⟩, ⟨PyData.keyHash P (Str.ofString "_fspath"), (.str (Str.ofString "_fspath") 1112), (.ref 659)⟩, ⟨PyData.keyHash P (Str.ofString "_check_arg_types"), (.str (Str.ofString "_check_arg_types") 1122), (.ref 666)⟩, ⟨PyData.keyHash P (Str.ofString "isabs"), (.str (Str.ofString "isabs") 1129), (.ref 673)⟩, ⟨PyData.keyHash P (Str.ofString "join"), (.str (Str.ofString "join") 1140), (.ref 797)⟩, ⟨PyData.keyHash P (Str.ofString "join_path"), (.str (Str.ofString "join_path") 1141), (.ref 680)⟩, ⟨PyData.keyHash P (Str.ofString "dirname"), (.str (Str.ofString "dirname") 1151), (.ref 687)⟩, ⟨PyData.keyHash P (Str.ofString "shlex"), (.str (Str.ofString "shlex") 1292), (.ref 778)⟩, ⟨PyData.keyHash P (Str.ofString "split"), (.str (Str.ofString "split") 1302), (.ref 790)⟩, ⟨PyData.keyHash P (Str.ofString "join_shlex"), (.str (Str.ofString "join_shlex") 1310), (.ref 797)⟩, ⟨PyData.keyHash P (Str.ofString "_find_unsafe"), (.str (Str.ofString "_find_unsafe") 1312), (.ref 798)⟩, ⟨PyData.keyHash P (Str.ofString "quote"), (.str (Str.ofString "quote") 1319), (.ref 805)⟩, ⟨PyData.keyHash P (Str.ofString "_raise_serialization_error"), (.str (Str.ofString "_raise_serialization_error") 1328), (.ref 812)⟩, ⟨PyData.keyHash P (Str.ofString "_escape_cdata"), (.str (Str.ofString "_escape_cdata") 1335), (.ref 819)⟩, ⟨PyData.keyHash P (Str.ofString "_escape_attrib"), (.str (Str.ofString "_escape_attrib") 1342), (.ref 826)⟩, ⟨PyData.keyHash P (Str.ofString "_escape_attrib_html"), (.str (Str.ofString "_escape_attrib_html") 1349), (.ref 833)⟩, ⟨PyData.keyHash P (Str.ofString "_escape_cdata_c14n"), (.str (Str.ofString "_escape_cdata_c14n") 1356), (.ref 840)⟩, ⟨PyData.keyHash P (Str.ofString "_escape_attrib_c14n"), (.str (Str.ofString "_escape_attrib_c14n") 1363), (.ref 847)⟩, ⟨PyData.keyHash P (Str.ofString "_law_sign"), (.str (Str.ofString "_law_sign") 1373), (.ref 854)⟩, ⟨PyData.keyHash P (Str.ofString "_law_kinds"), (.str (Str.ofString "_law_kinds") 1382), (.ref 861)⟩, ⟨PyData.keyHash P (Str.ofString "_law_put"), (.str (Str.ofString "_law_put") 1393), (.ref 868)⟩, ⟨PyData.keyHash P (Str.ofString "_law_post"), (.str (Str.ofString "_law_post") 1404), (.ref 875)⟩, ⟨PyData.keyHash P (Str.ofString "_law_counted"), (.str (Str.ofString "_law_counted") 1410), (.ref 880)⟩, ⟨PyData.keyHash P (Str.ofString "_law_next"), (.str (Str.ofString "_law_next") 1439), (.ref 887)⟩, ⟨PyData.keyHash P (Str.ofString "_law_reckoned"), (.str (Str.ofString "_law_reckoned") 1445), (.ref 892)⟩, ⟨PyData.keyHash P (Str.ofString "_law_figures"), (.str (Str.ofString "_law_figures") 1451), (.ref 897)⟩, ⟨PyData.keyHash P (Str.ofString "_law_gives"), (.str (Str.ofString "_law_gives") 1470), (.ref 904)⟩, ⟨PyData.keyHash P (Str.ofString "law"), (.str (Str.ofString "law") 1476), (.ref 909)⟩].toArray 58), #[]⟩
noncomputable def o50 (P : Params) : Obj := ⟨(.type "code"), none, (.fields [(.str (Str.ofString "_buffer") 333), (.str (Str.ofString "_buffer") 334), (.str (Str.ofString "/claim/cut.py") 335), (.int (7) 0), (.int (1) 0), (.int (0) 0), (.int (0) 0), (.int (3) 0), (.ref 45), (.bool true), (.int (318) 0), (.ref 46), .none, (.ref 47), (.ref 48), (.ref 49), (.int (338) 0), (.int (7) 0), (.str (Str.ofString "/claim/cut.py") 339)].toArray), #[]⟩
noncomputable abbrev o51 (P : Params) : Obj := foOf (partsOf (nth pwBody 4)) (Str.ofString "_buffer") (Str.ofString "_buffer") .none .none (.str (Str.ofString "binascii") 331) (.ref 50)
noncomputable def o57 (P : Params) : Obj := ⟨(.type "code"), none, (.fields [(.str (Str.ofString "_truth") 341), (.str (Str.ofString "_truth") 342), (.str (Str.ofString "/claim/cut.py") 343), (.int (14) 0), (.int (1) 0), (.int (0) 0), (.int (0) 0), (.int (3) 0), (.ref 52), (.bool true), (.int (318) 0), (.ref 53), .none, (.ref 54), (.ref 55), (.ref 56), (.int (346) 0), (.int (14) 0), (.str (Str.ofString "/claim/cut.py") 347)].toArray), #[]⟩
noncomputable abbrev o58 (P : Params) : Obj := foOf (partsOf (nth pwBody 5)) (Str.ofString "_truth") (Str.ofString "_truth") .none .none (.str (Str.ofString "binascii") 331) (.ref 57)
noncomputable def o59 (P : Params) : Obj := ⟨(.type "dict"), none, (.dict [⟨PyData.keyHash P (Str.ofString "newline"), (.str (Str.ofString "newline") 351), (.bool true)⟩].toArray 1), #[]⟩
noncomputable def o65 (P : Params) : Obj := ⟨(.type "code"), none, (.fields [(.str (Str.ofString "b2a_base64") 352), (.str (Str.ofString "b2a_base64") 353), (.str (Str.ofString "/claim/cut.py") 354), (.int (20) 0), (.int (1) 0), (.int (1) 0), (.int (1) 0), (.int (3) 0), (.ref 60), (.bool true), (.int (318) 0), (.ref 61), .none, (.ref 62), (.ref 63), (.ref 64), (.int (362) 0), (.int (20) 0), (.str (Str.ofString "/claim/cut.py") 363)].toArray), #[]⟩
noncomputable abbrev o66 (P : Params) : Obj := foOf (partsOf (nth pwBody 7)) (Str.ofString "b2a_base64") (Str.ofString "b2a_base64") .none (.ref 59) (.str (Str.ofString "binascii") 331) (.ref 65)
noncomputable def o67 (P : Params) : Obj := ⟨(.type "object"), none, .plain, #[]⟩
noncomputable def o68 (P : Params) : Obj := ⟨(.type "tuple"), none, (.seq [(.ref 67), (.int (1) 366)].toArray 0), #[]⟩
noncomputable def o74 (P : Params) : Obj := ⟨(.type "code"), none, (.fields [(.str (Str.ofString "b2a_hex") 367), (.str (Str.ofString "b2a_hex") 368), (.str (Str.ofString "/claim/cut.py") 369), (.int (43) 0), (.int (3) 0), (.int (0) 0), (.int (0) 0), (.int (3) 0), (.ref 69), (.bool true), (.int (318) 0), (.ref 70), .none, (.ref 71), (.ref 72), (.ref 73), (.int (374) 0), (.int (43) 0), (.str (Str.ofString "/claim/cut.py") 375)].toArray), #[]⟩
noncomputable abbrev o75 (P : Params) : Obj := foOf (partsOf (nth pwBody 9)) (Str.ofString "b2a_hex") (Str.ofString "b2a_hex") (.ref 68) .none (.str (Str.ofString "binascii") 331) (.ref 74)
noncomputable def o76 (P : Params) : Obj := ⟨(.type "tuple"), none, (.seq [.none].toArray 0), #[]⟩
noncomputable def o82 (P : Params) : Obj := ⟨(.type "code"), none, (.fields [(.str (Str.ofString "b64encode") 380), (.str (Str.ofString "b64encode") 381), (.str (Str.ofString "/claim/cut.py") 382), (.int (61) 0), (.int (2) 0), (.int (0) 0), (.int (0) 0), (.int (3) 0), (.ref 77), (.bool true), (.int (318) 0), (.ref 78), .none, (.ref 79), (.ref 80), (.ref 81), (.int (386) 0), (.int (61) 0), (.str (Str.ofString "/claim/cut.py") 387)].toArray), #[]⟩
noncomputable abbrev o83 (P : Params) : Obj := foOf (partsOf (nth pwBody 12)) (Str.ofString "b64encode") (Str.ofString "b64encode") (.ref 76) .none (.str (Str.ofString "cpy313.base64") 378) (.ref 82)
noncomputable def o89 (P : Params) : Obj := ⟨(.type "code"), none, (.fields [(.str (Str.ofString "b16encode") 389), (.str (Str.ofString "b16encode") 390), (.str (Str.ofString "/claim/cut.py") 391), (.int (67) 0), (.int (1) 0), (.int (0) 0), (.int (0) 0), (.int (3) 0), (.ref 84), (.bool true), (.int (318) 0), (.ref 85), .none, (.ref 86), (.ref 87), (.ref 88), (.int (393) 0), (.int (67) 0), (.str (Str.ofString "/claim/cut.py") 394)].toArray), #[]⟩
noncomputable abbrev o90 (P : Params) : Obj := foOf (partsOf (nth pwBody 13)) (Str.ofString "b16encode") (Str.ofString "b16encode") .none .none (.str (Str.ofString "cpy313.base64") 378) (.ref 89)
noncomputable def o94 (P : Params) : Obj := ⟨(.type "tuple"), none, (.seq [(.int (14) 0), (.int (17) 0), (.int (4) 0), (.int (1) 0), (.int (1) 0), (.int (21) 0), (.int (9) 0), (.int (0) 0), (.int (604043296) 0), (.int (1) 0), (.int (0) 0), (.int (0) 0), (.int (0) 0), (.int (0) 0), (.int (0) 0), (.int (8) 0), (.int (4) 0), (.int (0) 0), (.int (13) 0), (.int (14) 0), (.int (21) 0), (.int (9) 0), (.int (0) 0), (.int (604043296) 0), (.int (1) 0), (.int (0) 0), (.int (0) 0), (.int (0) 0), (.int (0) 0), (.int (0) 0), (.int (8) 0), (.int (4) 0), (.int (0) 0), (.int (1) 0)].toArray 0), #[]⟩
noncomputable def o95 (P : Params) : Obj := ⟨(.type "re.Pattern"), none, (.fields [(.str (Str.ofString "[^\\w@%+=:,./-]") 397), (.int (256) 434), (.int (0) 0), .none, .none, (.ref 94), (.int (0) 0)].toArray), #[]⟩
noncomputable def o108 (P : Params) : Obj := ⟨(.type "code"), none, (.fields [(.str (Str.ofString "_index") 446), (.str (Str.ofString "_index") 447), (.str (Str.ofString "/claim/cut.py") 448), (.int (76) 0), (.int (2) 0), (.int (0) 0), (.int (0) 0), (.int (3) 0), (.ref 103), (.bool true), (.int (318) 0), (.ref 104), .none, (.ref 105), (.ref 106), (.ref 107), (.int (451) 0), (.int (76) 0), (.str (Str.ofString "/claim/cut.py") 452)].toArray), #[]⟩
noncomputable abbrev o109 (P : Params) : Obj := foOf (partsOf (nth pwBody 17)) (Str.ofString "_index") (Str.ofString "_index") .none .none (.str (Str.ofString "io") 436) (.ref 108)
noncomputable def o135 (P : Params) : Obj := ⟨(.type "code"), none, (.fields [(.str (Str.ofString "__new__") 490), (.str (Str.ofString "IOBase.__new__") 491), (.str (Str.ofString "/claim/cut.py") 492), (.int (88) 0), (.int (1) 0), (.int (1) 0), (.int (0) 0), (.int (15) 0), (.ref 130), (.bool true), (.int (318) 0), (.ref 131), .none, (.ref 132), (.ref 133), (.ref 134), (.int (496) 0), (.int (88) 0), (.str (Str.ofString "/claim/cut.py") 497)].toArray), #[]⟩
noncomputable abbrev o136 (P : Params) : Obj := foOf (partsOf (nth (clsBody (nth pwBody 19)) 1)) (Str.ofString "__new__") (Str.ofString "IOBase.__new__") .none .none (.str (Str.ofString "io") 436) (.ref 135)
noncomputable def o138 (P : Params) : Obj := ⟨(.type "dict"), none, (.dict [⟨PyData.keyHash P (Str.ofString "__module__"), (.str (Str.ofString "__module__") 483), (.str (Str.ofString "io") 488)⟩, ⟨PyData.keyHash P (Str.ofString "__firstlineno__"), (.str (Str.ofString "__firstlineno__") 487), (.int (85) 486)⟩, ⟨PyData.keyHash P (Str.ofString "__new__"), (.str (Str.ofString "__new__") 498), (.ref 140)⟩, ⟨PyData.keyHash P (Str.ofString "__static_attributes__"), (.str (Str.ofString "__static_attributes__") 499), (.ref 137)⟩, ⟨PyData.keyHash P (Str.ofString "__dict__"), (.str (Str.ofString "__dict__") 502), (.ref 141)⟩, ⟨PyData.keyHash P (Str.ofString "__weakref__"), (.str (Str.ofString "__weakref__") 504), (.ref 142)⟩, ⟨PyData.keyHash P (Str.ofString "__doc__"), (.str (Str.ofString "__doc__") 505), .none⟩].toArray 4), #[]⟩
noncomputable def o139 (P : Params) : Obj := ⟨(.type "type"), none, (.cls ⟨(Str.ofString "IOBase"), [(.type "object")], [(.ref 139), (.type "object")], 138, (Str.ofString "IOBase"), true, [], [(.ref 154), (.ref 166)], false, none, false⟩), #[none, none, (some (.str (Str.ofString "IOBase") 476)), (some (.str (Str.ofString "IOBase") 484)), (some .none), (some (.bool true))]⟩
noncomputable def o140 (P : Params) : Obj := ⟨(.type "staticmethod"), none, (.fields [(.ref 136)].toArray), #[]⟩
noncomputable def o165 (P : Params) : Obj := ⟨(.type "dict"), none, (.dict [⟨PyData.keyHash P (Str.ofString "__module__"), (.str (Str.ofString "__module__") 533), (.str (Str.ofString "io") 538)⟩, ⟨PyData.keyHash P (Str.ofString "__firstlineno__"), (.str (Str.ofString "__firstlineno__") 537), (.int (94) 536)⟩, ⟨PyData.keyHash P (Str.ofString "__static_attributes__"), (.str (Str.ofString "__static_attributes__") 540), (.ref 164)⟩, ⟨PyData.keyHash P (Str.ofString "__doc__"), (.str (Str.ofString "__doc__") 541), .none⟩].toArray 2), #[]⟩
noncomputable def o166 (P : Params) : Obj := ⟨(.type "type"), none, (.cls ⟨(Str.ofString "TextIOBase"), [(.ref 139)], [(.ref 166), (.ref 139), (.type "object")], 165, (Str.ofString "TextIOBase"), true, [], [(.ref 643)], false, none, false⟩), #[(some (.ref 157)), none, (some (.str (Str.ofString "TextIOBase") 526)), (some (.str (Str.ofString "TextIOBase") 534)), (some .none), (some (.bool true))]⟩
noncomputable def o396 (P : Params) : Obj := ⟨(.type "type"), none, (.cls ⟨(Str.ofString "BytesIO"), [(.ref 154)], [(.ref 396), (.ref 154), (.ref 139), (.type "object")], 395, (Str.ofString "BytesIO"), true, [], [], false, none, false⟩), #[(some (.ref 169)), none, (some (.str (Str.ofString "BytesIO") 544)), (some (.str (Str.ofString "BytesIO") 552)), (some .none), (some (.bool true))]⟩
noncomputable def o406 (P : Params) : Obj := ⟨(.type "tuple"), none, (.seq [(.str (Str.ofString "") 820), (.str (Str.ofString "\n") 821)].toArray 0), #[]⟩
noncomputable def o412 (P : Params) : Obj := ⟨(.type "code"), none, (.fields [(.str (Str.ofString "__init__") 822), (.str (Str.ofString "StringIO.__init__") 823), (.str (Str.ofString "/claim/cut.py") 824), (.int (269) 0), (.int (3) 0), (.int (0) 0), (.int (0) 0), (.int (3) 0), (.ref 407), (.bool true), (.int (318) 0), (.ref 408), .none, (.ref 409), (.ref 410), (.ref 411), (.int (828) 0), (.int (269) 0), (.str (Str.ofString "/claim/cut.py") 829)].toArray), #[]⟩
noncomputable abbrev o413 (P : Params) : Obj := foOf (partsOf (nth (clsBody (nth pwBody 23)) 1)) (Str.ofString "__init__") (Str.ofString "StringIO.__init__") (.ref 406) .none (.str (Str.ofString "io") 436) (.ref 412)
noncomputable def o419 (P : Params) : Obj := ⟨(.type "code"), none, (.fields [(.str (Str.ofString "__translated") 831), (.str (Str.ofString "StringIO.__translated") 832), (.str (Str.ofString "/claim/cut.py") 833), (.int (282) 0), (.int (2) 0), (.int (0) 0), (.int (0) 0), (.int (3) 0), (.ref 414), (.bool true), (.int (318) 0), (.ref 415), .none, (.ref 416), (.ref 417), (.ref 418), (.int (837) 0), (.int (282) 0), (.str (Str.ofString "/claim/cut.py") 838)].toArray), #[]⟩
noncomputable abbrev o420 (P : Params) : Obj := foOf (partsOf (nth (clsBody (nth pwBody 23)) 2)) (Str.ofString "__translated") (Str.ofString "StringIO.__translated") .none .none (.str (Str.ofString "io") 436) (.ref 419)
noncomputable def o426 (P : Params) : Obj := ⟨(.type "code"), none, (.fields [(.str (Str.ofString "__check") 840), (.str (Str.ofString "StringIO.__check") 841), (.str (Str.ofString "/claim/cut.py") 842), (.int (290) 0), (.int (1) 0), (.int (0) 0), (.int (0) 0), (.int (3) 0), (.ref 421), (.bool true), (.int (318) 0), (.ref 422), .none, (.ref 423), (.ref 424), (.ref 425), (.int (844) 0), (.int (290) 0), (.str (Str.ofString "/claim/cut.py") 845)].toArray), #[]⟩
noncomputable abbrev o427 (P : Params) : Obj := foOf (partsOf (nth (clsBody (nth pwBody 23)) 3)) (Str.ofString "__check") (Str.ofString "StringIO.__check") .none .none (.str (Str.ofString "io") 436) (.ref 426)
noncomputable def o440 (P : Params) : Obj := ⟨(.type "code"), none, (.fields [(.str (Str.ofString "__line") 854), (.str (Str.ofString "StringIO.__line") 855), (.str (Str.ofString "/claim/cut.py") 856), (.int (298) 0), (.int (2) 0), (.int (0) 0), (.int (0) 0), (.int (3) 0), (.ref 435), (.bool true), (.int (318) 0), (.ref 436), .none, (.ref 437), (.ref 438), (.ref 439), (.int (866) 0), (.int (298) 0), (.str (Str.ofString "/claim/cut.py") 867)].toArray), #[]⟩
noncomputable abbrev o441 (P : Params) : Obj := foOf (partsOf (nth (clsBody (nth pwBody 23)) 5)) (Str.ofString "__line") (Str.ofString "StringIO.__line") .none .none (.str (Str.ofString "io") 436) (.ref 440)
noncomputable def o582 (P : Params) : Obj := ⟨(.type "tuple"), none, (.seq [(.int (-1) 1013)].toArray 0), #[]⟩
noncomputable def o588 (P : Params) : Obj := ⟨(.type "code"), none, (.fields [(.str (Str.ofString "read") 1014), (.str (Str.ofString "StringIO.read") 1015), (.str (Str.ofString "/claim/cut.py") 1016), (.int (412) 0), (.int (2) 0), (.int (2) 0), (.int (0) 0), (.int (3) 0), (.ref 583), (.bool true), (.int (318) 0), (.ref 584), .none, (.ref 585), (.ref 586), (.ref 587), (.int (1021) 0), (.int (412) 0), (.str (Str.ofString "/claim/cut.py") 1022)].toArray), #[]⟩
noncomputable abbrev o589 (P : Params) : Obj := foOf (partsOf (nth (clsBody (nth pwBody 23)) 25)) (Str.ofString "read") (Str.ofString "StringIO.read") (.ref 582) .none (.str (Str.ofString "io") 436) (.ref 588)
noncomputable def o590 (P : Params) : Obj := ⟨(.type "tuple"), none, (.seq [(.int (-1) 1025)].toArray 0), #[]⟩
noncomputable def o596 (P : Params) : Obj := ⟨(.type "code"), none, (.fields [(.str (Str.ofString "readline") 1026), (.str (Str.ofString "StringIO.readline") 1027), (.str (Str.ofString "/claim/cut.py") 1028), (.int (426) 0), (.int (2) 0), (.int (2) 0), (.int (0) 0), (.int (3) 0), (.ref 591), (.bool true), (.int (318) 0), (.ref 592), .none, (.ref 593), (.ref 594), (.ref 595), (.int (1031) 0), (.int (426) 0), (.str (Str.ofString "/claim/cut.py") 1032)].toArray), #[]⟩
noncomputable abbrev o597 (P : Params) : Obj := foOf (partsOf (nth (clsBody (nth pwBody 23)) 26)) (Str.ofString "readline") (Str.ofString "StringIO.readline") (.ref 590) .none (.str (Str.ofString "io") 436) (.ref 596)
noncomputable def o611 (P : Params) : Obj := ⟨(.type "code"), none, (.fields [(.str (Str.ofString "__iter__") 1044), (.str (Str.ofString "StringIO.__iter__") 1045), (.str (Str.ofString "/claim/cut.py") 1046), (.int (436) 0), (.int (1) 0), (.int (0) 0), (.int (0) 0), (.int (3) 0), (.ref 606), (.bool true), (.int (318) 0), (.ref 607), .none, (.ref 608), (.ref 609), (.ref 610), (.int (1048) 0), (.int (436) 0), (.str (Str.ofString "/claim/cut.py") 1049)].toArray), #[]⟩
noncomputable abbrev o612 (P : Params) : Obj := foOf (partsOf (nth (clsBody (nth pwBody 23)) 28)) (Str.ofString "__iter__") (Str.ofString "StringIO.__iter__") .none .none (.str (Str.ofString "io") 436) (.ref 611)
noncomputable def o618 (P : Params) : Obj := ⟨(.type "code"), none, (.fields [(.str (Str.ofString "__next__") 1051), (.str (Str.ofString "StringIO.__next__") 1052), (.str (Str.ofString "/claim/cut.py") 1053), (.int (440) 0), (.int (1) 0), (.int (0) 0), (.int (0) 0), (.int (3) 0), (.ref 613), (.bool true), (.int (318) 0), (.ref 614), .none, (.ref 615), (.ref 616), (.ref 617), (.int (1056) 0), (.int (440) 0), (.str (Str.ofString "/claim/cut.py") 1057)].toArray), #[]⟩
noncomputable abbrev o619 (P : Params) : Obj := foOf (partsOf (nth (clsBody (nth pwBody 23)) 29)) (Str.ofString "__next__") (Str.ofString "StringIO.__next__") .none .none (.str (Str.ofString "io") 436) (.ref 618)
noncomputable def o642 (P : Params) : Obj := ⟨(.type "dict"), none, (.dict [⟨PyData.keyHash P (Str.ofString "__module__"), (.str (Str.ofString "__module__") 813), (.str (Str.ofString "_io") 818)⟩, ⟨PyData.keyHash P (Str.ofString "__firstlineno__"), (.str (Str.ofString "__firstlineno__") 817), (.int (266) 816)⟩, ⟨PyData.keyHash P (Str.ofString "__init__"), (.str (Str.ofString "__init__") 830), (.ref 413)⟩, ⟨PyData.keyHash P (Str.ofString "_StringIO__translated"), (.str (Str.ofString "_StringIO__translated") 839), (.ref 420)⟩, ⟨PyData.keyHash P (Str.ofString "_StringIO__check"), (.str (Str.ofString "_StringIO__check") 846), (.ref 427)⟩, ⟨PyData.keyHash P (Str.ofString "_StringIO__check_dot"), (.str (Str.ofString "_StringIO__check_dot") 853), (.ref 434)⟩, ⟨PyData.keyHash P (Str.ofString "_StringIO__line"), (.str (Str.ofString "_StringIO__line") 868), (.ref 441)⟩, ⟨PyData.keyHash P (Str.ofString "closed"), (.str (Str.ofString "closed") 876), (.ref 449)⟩, ⟨PyData.keyHash P (Str.ofString "line_buffering"), (.str (Str.ofString "line_buffering") 884), (.ref 457)⟩, ⟨PyData.keyHash P (Str.ofString "newlines"), (.str (Str.ofString "newlines") 892), (.ref 465)⟩, ⟨PyData.keyHash P (Str.ofString "encoding"), (.str (Str.ofString "encoding") 900), (.ref 473)⟩, ⟨PyData.keyHash P (Str.ofString "errors"), (.str (Str.ofString "errors") 908), (.ref 481)⟩, ⟨PyData.keyHash P (Str.ofString "close"), (.str (Str.ofString "close") 915), (.ref 488)⟩, ⟨PyData.keyHash P (Str.ofString "__enter__"), (.str (Str.ofString "__enter__") 922), (.ref 495)⟩, ⟨PyData.keyHash P (Str.ofString "__exit__"), (.str (Str.ofString "__exit__") 930), (.ref 502)⟩, ⟨PyData.keyHash P (Str.ofString "readable"), (.str (Str.ofString "readable") 937), (.ref 509)⟩, ⟨PyData.keyHash P (Str.ofString "writable"), (.str (Str.ofString "writable") 944), (.ref 516)⟩, ⟨PyData.keyHash P (Str.ofString "seekable"), (.str (Str.ofString "seekable") 951), (.ref 523)⟩, ⟨PyData.keyHash P (Str.ofString "isatty"), (.str (Str.ofString "isatty") 958), (.ref 530)⟩, ⟨PyData.keyHash P (Str.ofString "flush"), (.str (Str.ofString "flush") 965), (.ref 537)⟩, ⟨PyData.keyHash P (Str.ofString "fileno"), (.str (Str.ofString "fileno") 972), (.ref 544)⟩, ⟨PyData.keyHash P (Str.ofString "detach"), (.str (Str.ofString "detach") 979), (.ref 551)⟩, ⟨PyData.keyHash P (Str.ofString "getvalue"), (.str (Str.ofString "getvalue") 986), (.ref 558)⟩, ⟨PyData.keyHash P (Str.ofString "tell"), (.str (Str.ofString "tell") 993), (.ref 565)⟩, ⟨PyData.keyHash P (Str.ofString "seek"), (.str (Str.ofString "seek") 1003), (.ref 573)⟩, ⟨PyData.keyHash P (Str.ofString "truncate"), (.str (Str.ofString "truncate") 1011), (.ref 581)⟩, ⟨PyData.keyHash P (Str.ofString "read"), (.str (Str.ofString "read") 1023), (.ref 589)⟩, ⟨PyData.keyHash P (Str.ofString "readline"), (.str (Str.ofString "readline") 1033), (.ref 597)⟩, ⟨PyData.keyHash P (Str.ofString "readlines"), (.str (Str.ofString "readlines") 1043), (.ref 605)⟩, ⟨PyData.keyHash P (Str.ofString "__iter__"), (.str (Str.ofString "__iter__") 1050), (.ref 612)⟩, ⟨PyData.keyHash P (Str.ofString "__next__"), (.str (Str.ofString "__next__") 1058), (.ref 619)⟩, ⟨PyData.keyHash P (Str.ofString "write"), (.str (Str.ofString "write") 1070), (.ref 626)⟩, ⟨PyData.keyHash P (Str.ofString "writelines"), (.str (Str.ofString "writelines") 1078), (.ref 633)⟩, ⟨PyData.keyHash P (Str.ofString "__repr__"), (.str (Str.ofString "__repr__") 1085), (.ref 640)⟩, ⟨PyData.keyHash P (Str.ofString "__static_attributes__"), (.str (Str.ofString "__static_attributes__") 1089), (.ref 641)⟩, ⟨PyData.keyHash P (Str.ofString "__doc__"), (.str (Str.ofString "__doc__") 1090), .none⟩].toArray 2), #[]⟩
noncomputable def o643 (P : Params) : Obj := ⟨(.type "type"), none, (.cls ⟨(Str.ofString "StringIO"), [(.ref 166)], [(.ref 643), (.ref 166), (.ref 139), (.type "object")], 642, (Str.ofString "StringIO"), true, [], [], false, none, false⟩), #[(some (.ref 399)), none, (some (.str (Str.ofString "StringIO") 806)), (some (.str (Str.ofString "StringIO") 814)), (some .none), (some (.bool true))]⟩
noncomputable def o695 (P : Params) : Obj := ⟨(.type "tuple"), none, (.seq [.none, .none, (.bool false), (.bool false)].toArray 0), #[]⟩
noncomputable def o701 (P : Params) : Obj := ⟨(.type "code"), none, (.fields [(.str (Str.ofString "__init__") 1166), (.str (Str.ofString "shlex.__init__") 1167), (.str (Str.ofString "/claim/cut.py") 1168), (.int (538) 0), (.int (5) 0), (.int (0) 0), (.int (0) 0), (.int (3) 0), (.ref 696), (.bool true), (.int (318) 0), (.ref 697), .none, (.ref 698), (.ref 699), (.ref 700), (.int (1175) 0), (.int (538) 0), (.str (Str.ofString "/claim/cut.py") 1176)].toArray), #[]⟩
noncomputable abbrev o702 (P : Params) : Obj := foOf (partsOf (nth (clsBody (nth pwBody 33)) 0)) (Str.ofString "__init__") (Str.ofString "shlex.__init__") (.ref 695) .none (.str (Str.ofString "cpy313.shlex") 1152) (.ref 701)
noncomputable def o708 (P : Params) : Obj := ⟨(.type "code"), none, (.fields [(.str (Str.ofString "punctuation_chars") 1178), (.str (Str.ofString "shlex.punctuation_chars") 1179), (.str (Str.ofString "/claim/cut.py") 1180), (.int (579) 0), (.int (1) 0), (.int (0) 0), (.int (0) 0), (.int (3) 0), (.ref 703), (.bool true), (.int (318) 0), (.ref 704), .none, (.ref 705), (.ref 706), (.ref 707), (.int (1182) 0), (.int (579) 0), (.str (Str.ofString "/claim/cut.py") 1183)].toArray), #[]⟩
noncomputable abbrev o709 (P : Params) : Obj := foOf (partsOf (nth (clsBody (nth pwBody 33)) 1)) (Str.ofString "punctuation_chars") (Str.ofString "shlex.punctuation_chars") .none .none (.str (Str.ofString "cpy313.shlex") 1152) (.ref 708)
noncomputable def o710 (P : Params) : Obj := ⟨(.type "property"), none, (.fields [(.ref 709), .none, .none, .none, (.str (Str.ofString "punctuation_chars") 1185), (.bool false)].toArray), #[]⟩
noncomputable def o738 (P : Params) : Obj := ⟨(.type "code"), none, (.fields [(.str (Str.ofString "get_token") 1210), (.str (Str.ofString "shlex.get_token") 1211), (.str (Str.ofString "/claim/cut.py") 1212), (.int (606) 0), (.int (1) 0), (.int (0) 0), (.int (0) 0), (.int (3) 0), (.ref 733), (.bool true), (.int (318) 0), (.ref 734), .none, (.ref 735), (.ref 736), (.ref 737), (.int (1219) 0), (.int (606) 0), (.str (Str.ofString "/claim/cut.py") 1220)].toArray), #[]⟩
noncomputable abbrev o739 (P : Params) : Obj := foOf (partsOf (nth (clsBody (nth pwBody 33)) 5)) (Str.ofString "get_token") (Str.ofString "shlex.get_token") .none .none (.str (Str.ofString "cpy313.shlex") 1152) (.ref 738)
noncomputable def o745 (P : Params) : Obj := ⟨(.type "code"), none, (.fields [(.str (Str.ofString "read_token") 1222), (.str (Str.ofString "shlex.read_token") 1223), (.str (Str.ofString "/claim/cut.py") 1224), (.int (633) 0), (.int (1) 0), (.int (0) 0), (.int (0) 0), (.int (3) 0), (.ref 740), (.bool true), (.int (318) 0), (.ref 741), .none, (.ref 742), (.ref 743), (.ref 744), (.int (1230) 0), (.int (633) 0), (.str (Str.ofString "/claim/cut.py") 1231)].toArray), #[]⟩
noncomputable abbrev o746 (P : Params) : Obj := foOf (partsOf (nth (clsBody (nth pwBody 33)) 6)) (Str.ofString "read_token") (Str.ofString "shlex.read_token") .none .none (.str (Str.ofString "cpy313.shlex") 1152) (.ref 745)
noncomputable def o767 (P : Params) : Obj := ⟨(.type "code"), none, (.fields [(.str (Str.ofString "__iter__") 1250), (.str (Str.ofString "shlex.__iter__") 1251), (.str (Str.ofString "/claim/cut.py") 1252), (.int (780) 0), (.int (1) 0), (.int (0) 0), (.int (0) 0), (.int (3) 0), (.ref 762), (.bool true), (.int (318) 0), (.ref 763), .none, (.ref 764), (.ref 765), (.ref 766), (.int (1254) 0), (.int (780) 0), (.str (Str.ofString "/claim/cut.py") 1255)].toArray), #[]⟩
noncomputable abbrev o768 (P : Params) : Obj := foOf (partsOf (nth (clsBody (nth pwBody 33)) 9)) (Str.ofString "__iter__") (Str.ofString "shlex.__iter__") .none .none (.str (Str.ofString "cpy313.shlex") 1152) (.ref 767)
noncomputable def o774 (P : Params) : Obj := ⟨(.type "code"), none, (.fields [(.str (Str.ofString "__next__") 1257), (.str (Str.ofString "shlex.__next__") 1258), (.str (Str.ofString "/claim/cut.py") 1259), (.int (783) 0), (.int (1) 0), (.int (0) 0), (.int (0) 0), (.int (3) 0), (.ref 769), (.bool true), (.int (318) 0), (.ref 770), .none, (.ref 771), (.ref 772), (.ref 773), (.int (1262) 0), (.int (783) 0), (.str (Str.ofString "/claim/cut.py") 1263)].toArray), #[]⟩
noncomputable abbrev o775 (P : Params) : Obj := foOf (partsOf (nth (clsBody (nth pwBody 33)) 10)) (Str.ofString "__next__") (Str.ofString "shlex.__next__") .none .none (.str (Str.ofString "cpy313.shlex") 1152) (.ref 774)
noncomputable def o777 (P : Params) : Obj := ⟨(.type "dict"), none, (.dict [⟨PyData.keyHash P (Str.ofString "__module__"), (.str (Str.ofString "__module__") 1161), (.str (Str.ofString "cpy313.shlex") 1152)⟩, ⟨PyData.keyHash P (Str.ofString "__firstlineno__"), (.str (Str.ofString "__firstlineno__") 1165), (.int (536) 1164)⟩, ⟨PyData.keyHash P (Str.ofString "__init__"), (.str (Str.ofString "__init__") 1177), (.ref 702)⟩, ⟨PyData.keyHash P (Str.ofString "punctuation_chars"), (.str (Str.ofString "punctuation_chars") 1185), (.ref 710)⟩, ⟨PyData.keyHash P (Str.ofString "push_token"), (.str (Str.ofString "push_token") 1193), (.ref 717)⟩, ⟨PyData.keyHash P (Str.ofString "push_source"), (.str (Str.ofString "push_source") 1202), (.ref 725)⟩, ⟨PyData.keyHash P (Str.ofString "pop_source"), (.str (Str.ofString "pop_source") 1209), (.ref 732)⟩, ⟨PyData.keyHash P (Str.ofString "get_token"), (.str (Str.ofString "get_token") 1221), (.ref 739)⟩, ⟨PyData.keyHash P (Str.ofString "read_token"), (.str (Str.ofString "read_token") 1232), (.ref 746)⟩, ⟨PyData.keyHash P (Str.ofString "sourcehook"), (.str (Str.ofString "sourcehook") 1240), (.ref 753)⟩, ⟨PyData.keyHash P (Str.ofString "error_leader"), (.str (Str.ofString "error_leader") 1249), (.ref 761)⟩, ⟨PyData.keyHash P (Str.ofString "__iter__"), (.str (Str.ofString "__iter__") 1256), (.ref 768)⟩, ⟨PyData.keyHash P (Str.ofString "__next__"), (.str (Str.ofString "__next__") 1264), (.ref 775)⟩, ⟨PyData.keyHash P (Str.ofString "__static_attributes__"), (.str (Str.ofString "__static_attributes__") 1285), (.ref 776)⟩, ⟨PyData.keyHash P (Str.ofString "__dict__"), (.str (Str.ofString "__dict__") 1287), (.ref 779)⟩, ⟨PyData.keyHash P (Str.ofString "__weakref__"), (.str (Str.ofString "__weakref__") 1289), (.ref 780)⟩, ⟨PyData.keyHash P (Str.ofString "__doc__"), (.str (Str.ofString "__doc__") 1290), .none⟩].toArray 4), #[]⟩
noncomputable def o778 (P : Params) : Obj := ⟨(.type "type"), none, (.cls ⟨(Str.ofString "shlex"), [(.type "object")], [(.ref 778), (.type "object")], 777, (Str.ofString "shlex"), true, [], [], false, none, false⟩), #[none, none, (some (.str (Str.ofString "shlex") 1154)), (some (.str (Str.ofString "shlex") 1162)), (some (.builtin "object.__new__")), (some (.bool true))]⟩
noncomputable def o783 (P : Params) : Obj := ⟨(.type "tuple"), none, (.seq [(.bool false), (.bool true)].toArray 0), #[]⟩
noncomputable def o789 (P : Params) : Obj := ⟨(.type "code"), none, (.fields [(.str (Str.ofString "split") 1293), (.str (Str.ofString "split") 1294), (.str (Str.ofString "/claim/cut.py") 1295), (.int (788) 0), (.int (3) 0), (.int (0) 0), (.int (0) 0), (.int (3) 0), (.ref 784), (.bool true), (.int (318) 0), (.ref 785), .none, (.ref 786), (.ref 787), (.ref 788), (.int (1300) 0), (.int (788) 0), (.str (Str.ofString "/claim/cut.py") 1301)].toArray), #[]⟩
noncomputable abbrev o790 (P : Params) : Obj := foOf (partsOf (nth pwBody 34)) (Str.ofString "split") (Str.ofString "split") (.ref 783) .none (.str (Str.ofString "cpy313.shlex") 1152) (.ref 789)
noncomputable def o796 (P : Params) : Obj := ⟨(.type "code"), none, (.fields [(.str (Str.ofString "join") 1303), (.str (Str.ofString "join") 1304), (.str (Str.ofString "/claim/cut.py") 1305), (.int (796) 0), (.int (1) 0), (.int (0) 0), (.int (0) 0), (.int (3) 0), (.ref 791), (.bool true), (.int (318) 0), (.ref 792), .none, (.ref 793), (.ref 794), (.ref 795), (.int (1307) 0), (.int (796) 0), (.str (Str.ofString "/claim/cut.py") 1308)].toArray), #[]⟩
noncomputable abbrev o797 (P : Params) : Obj := foOf (partsOf (nth pwBody 35)) (Str.ofString "join") (Str.ofString "join") .none .none (.str (Str.ofString "cpy313.shlex") 1152) (.ref 796)
noncomputable def o798 (P : Params) : Obj := ⟨(.type "builtin_function_or_method"), none, (.fields [(.builtin "re.Pattern.search"), (.ref 95)].toArray), #[]⟩
noncomputable def o804 (P : Params) : Obj := ⟨(.type "code"), none, (.fields [(.str (Str.ofString "quote") 1313), (.str (Str.ofString "quote") 1314), (.str (Str.ofString "/claim/cut.py") 1315), (.int (800) 0), (.int (1) 0), (.int (0) 0), (.int (0) 0), (.int (3) 0), (.ref 799), (.bool true), (.int (318) 0), (.ref 800), .none, (.ref 801), (.ref 802), (.ref 803), (.int (1317) 0), (.int (800) 0), (.str (Str.ofString "/claim/cut.py") 1318)].toArray), #[]⟩
noncomputable abbrev o805 (P : Params) : Obj := foOf (partsOf (nth pwBody 38)) (Str.ofString "quote") (Str.ofString "quote") .none .none (.str (Str.ofString "cpy313.shlex") 1152) (.ref 804)
noncomputable def o818 (P : Params) : Obj := ⟨(.type "code"), none, (.fields [(.str (Str.ofString "_escape_cdata") 1329), (.str (Str.ofString "_escape_cdata") 1330), (.str (Str.ofString "/claim/cut.py") 1331), (.int (809) 0), (.int (1) 0), (.int (0) 0), (.int (0) 0), (.int (3) 0), (.ref 813), (.bool true), (.int (318) 0), (.ref 814), .none, (.ref 815), (.ref 816), (.ref 817), (.int (1333) 0), (.int (809) 0), (.str (Str.ofString "/claim/cut.py") 1334)].toArray), #[]⟩
noncomputable abbrev o819 (P : Params) : Obj := foOf (partsOf (nth pwBody 41)) (Str.ofString "_escape_cdata") (Str.ofString "_escape_cdata") .none .none (.str (Str.ofString "cpy313.xml.etree.ElementTree") 1320) (.ref 818)
noncomputable def o825 (P : Params) : Obj := ⟨(.type "code"), none, (.fields [(.str (Str.ofString "_escape_attrib") 1336), (.str (Str.ofString "_escape_attrib") 1337), (.str (Str.ofString "/claim/cut.py") 1338), (.int (820) 0), (.int (1) 0), (.int (0) 0), (.int (0) 0), (.int (3) 0), (.ref 820), (.bool true), (.int (318) 0), (.ref 821), .none, (.ref 822), (.ref 823), (.ref 824), (.int (1340) 0), (.int (820) 0), (.str (Str.ofString "/claim/cut.py") 1341)].toArray), #[]⟩
noncomputable abbrev o826 (P : Params) : Obj := foOf (partsOf (nth pwBody 42)) (Str.ofString "_escape_attrib") (Str.ofString "_escape_attrib") .none .none (.str (Str.ofString "cpy313.xml.etree.ElementTree") 1320) (.ref 825)
noncomputable def o832 (P : Params) : Obj := ⟨(.type "code"), none, (.fields [(.str (Str.ofString "_escape_attrib_html") 1343), (.str (Str.ofString "_escape_attrib_html") 1344), (.str (Str.ofString "/claim/cut.py") 1345), (.int (839) 0), (.int (1) 0), (.int (0) 0), (.int (0) 0), (.int (3) 0), (.ref 827), (.bool true), (.int (318) 0), (.ref 828), .none, (.ref 829), (.ref 830), (.ref 831), (.int (1347) 0), (.int (839) 0), (.str (Str.ofString "/claim/cut.py") 1348)].toArray), #[]⟩
noncomputable abbrev o833 (P : Params) : Obj := foOf (partsOf (nth pwBody 43)) (Str.ofString "_escape_attrib_html") (Str.ofString "_escape_attrib_html") .none .none (.str (Str.ofString "cpy313.xml.etree.ElementTree") 1320) (.ref 832)
noncomputable def o839 (P : Params) : Obj := ⟨(.type "code"), none, (.fields [(.str (Str.ofString "_escape_cdata_c14n") 1350), (.str (Str.ofString "_escape_cdata_c14n") 1351), (.str (Str.ofString "/claim/cut.py") 1352), (.int (850) 0), (.int (1) 0), (.int (0) 0), (.int (0) 0), (.int (3) 0), (.ref 834), (.bool true), (.int (318) 0), (.ref 835), .none, (.ref 836), (.ref 837), (.ref 838), (.int (1354) 0), (.int (850) 0), (.str (Str.ofString "/claim/cut.py") 1355)].toArray), #[]⟩
noncomputable abbrev o840 (P : Params) : Obj := foOf (partsOf (nth pwBody 44)) (Str.ofString "_escape_cdata_c14n") (Str.ofString "_escape_cdata_c14n") .none .none (.str (Str.ofString "cpy313.xml.etree.ElementTree") 1320) (.ref 839)
noncomputable def o846 (P : Params) : Obj := ⟨(.type "code"), none, (.fields [(.str (Str.ofString "_escape_attrib_c14n") 1357), (.str (Str.ofString "_escape_attrib_c14n") 1358), (.str (Str.ofString "/claim/cut.py") 1359), (.int (863) 0), (.int (1) 0), (.int (0) 0), (.int (0) 0), (.int (3) 0), (.ref 841), (.bool true), (.int (318) 0), (.ref 842), .none, (.ref 843), (.ref 844), (.ref 845), (.int (1361) 0), (.int (863) 0), (.str (Str.ofString "/claim/cut.py") 1362)].toArray), #[]⟩
noncomputable abbrev o847 (P : Params) : Obj := foOf (partsOf (nth pwBody 45)) (Str.ofString "_escape_attrib_c14n") (Str.ofString "_escape_attrib_c14n") .none .none (.str (Str.ofString "cpy313.xml.etree.ElementTree") 1320) (.ref 846)
noncomputable def o853 (P : Params) : Obj := ⟨(.type "code"), none, (.fields [(.str (Str.ofString "_law_sign") 1366), (.str (Str.ofString "_law_sign") 1367), (.str (Str.ofString "/claim/cut.py") 1368), (.int (881) 0), (.int (1) 0), (.int (0) 0), (.int (0) 0), (.int (3) 0), (.ref 848), (.bool true), (.int (318) 0), (.ref 849), .none, (.ref 850), (.ref 851), (.ref 852), (.int (1371) 0), (.int (881) 0), (.str (Str.ofString "/claim/cut.py") 1372)].toArray), #[]⟩
noncomputable abbrev o854 (P : Params) : Obj := foOf (partsOf (nth pwBody 47)) (Str.ofString "_law_sign") (Str.ofString "_law_sign") .none .none (.str (Str.ofString "law_kt0081_01") 1364) (.ref 853)
noncomputable def o860 (P : Params) : Obj := ⟨(.type "code"), none, (.fields [(.str (Str.ofString "_law_kinds") 1374), (.str (Str.ofString "_law_kinds") 1375), (.str (Str.ofString "/claim/cut.py") 1376), (.int (886) 0), (.int (1) 0), (.int (0) 0), (.int (0) 0), (.int (3) 0), (.ref 855), (.bool true), (.int (318) 0), (.ref 856), .none, (.ref 857), (.ref 858), (.ref 859), (.int (1380) 0), (.int (886) 0), (.str (Str.ofString "/claim/cut.py") 1381)].toArray), #[]⟩
noncomputable abbrev o861 (P : Params) : Obj := foOf (partsOf (nth pwBody 48)) (Str.ofString "_law_kinds") (Str.ofString "_law_kinds") .none .none (.str (Str.ofString "law_kt0081_01") 1364) (.ref 860)
noncomputable def o867 (P : Params) : Obj := ⟨(.type "code"), none, (.fields [(.str (Str.ofString "_law_put") 1383), (.str (Str.ofString "_law_put") 1384), (.str (Str.ofString "/claim/cut.py") 1385), (.int (891) 0), (.int (3) 0), (.int (0) 0), (.int (0) 0), (.int (3) 0), (.ref 862), (.bool true), (.int (318) 0), (.ref 863), .none, (.ref 864), (.ref 865), (.ref 866), (.int (1391) 0), (.int (891) 0), (.str (Str.ofString "/claim/cut.py") 1392)].toArray), #[]⟩
noncomputable abbrev o868 (P : Params) : Obj := foOf (partsOf (nth pwBody 49)) (Str.ofString "_law_put") (Str.ofString "_law_put") .none .none (.str (Str.ofString "law_kt0081_01") 1364) (.ref 867)
noncomputable def o874 (P : Params) : Obj := ⟨(.type "code"), none, (.fields [(.str (Str.ofString "_law_post") 1394), (.str (Str.ofString "_law_post") 1395), (.str (Str.ofString "/claim/cut.py") 1396), (.int (906) 0), (.int (3) 0), (.int (0) 0), (.int (0) 0), (.int (3) 0), (.ref 869), (.bool true), (.int (318) 0), (.ref 870), .none, (.ref 871), (.ref 872), (.ref 873), (.int (1402) 0), (.int (906) 0), (.str (Str.ofString "/claim/cut.py") 1403)].toArray), #[]⟩
noncomputable abbrev o875 (P : Params) : Obj := foOf (partsOf (nth pwBody 50)) (Str.ofString "_law_post") (Str.ofString "_law_post") .none .none (.str (Str.ofString "law_kt0081_01") 1364) (.ref 874)
noncomputable def o879 (P : Params) : Obj := ⟨(.type "code"), none, (.fields [(.str (Str.ofString "_law_counted") 1405), (.str (Str.ofString "_law_counted") 1406), (.str (Str.ofString "/claim/cut.py") 1407), (.int (911) 0), (.int (1) 0), (.int (0) 0), (.int (0) 0), (.int (3) 0), (.ref 876), (.bool true), (.int (318) 0), (.ref 877), .none, .none, .none, (.ref 878), (.int (1408) 0), (.int (911) 0), (.str (Str.ofString "/claim/cut.py") 1409)].toArray), #[]⟩
noncomputable abbrev o880 (P : Params) : Obj := foOf (partsOf (nth pwBody 51)) (Str.ofString "_law_counted") (Str.ofString "_law_counted") .none .none (.str (Str.ofString "law_kt0081_01") 1364) (.ref 879)
noncomputable def o886 (P : Params) : Obj := ⟨(.type "code"), none, (.fields [(.str (Str.ofString "_law_next") 1411), (.str (Str.ofString "_law_next") 1412), (.str (Str.ofString "/claim/cut.py") 1413), (.int (913) 0), (.int (3) 0), (.int (0) 0), (.int (0) 0), (.int (3) 0), (.ref 881), (.bool true), (.int (318) 0), (.ref 882), .none, (.ref 883), (.ref 884), (.ref 885), (.int (1437) 0), (.int (913) 0), (.str (Str.ofString "/claim/cut.py") 1438)].toArray), #[]⟩
noncomputable abbrev o887 (P : Params) : Obj := foOf (partsOf (nth pwBody 52)) (Str.ofString "_law_next") (Str.ofString "_law_next") .none .none (.str (Str.ofString "law_kt0081_01") 1364) (.ref 886)
noncomputable def o891 (P : Params) : Obj := ⟨(.type "code"), none, (.fields [(.str (Str.ofString "_law_reckoned") 1440), (.str (Str.ofString "_law_reckoned") 1441), (.str (Str.ofString "/claim/cut.py") 1442), (.int (930) 0), (.int (2) 0), (.int (0) 0), (.int (0) 0), (.int (3) 0), (.ref 888), (.bool true), (.int (318) 0), (.ref 889), .none, .none, .none, (.ref 890), (.int (1443) 0), (.int (930) 0), (.str (Str.ofString "/claim/cut.py") 1444)].toArray), #[]⟩
noncomputable abbrev o892 (P : Params) : Obj := foOf (partsOf (nth pwBody 53)) (Str.ofString "_law_reckoned") (Str.ofString "_law_reckoned") .none .none (.str (Str.ofString "law_kt0081_01") 1364) (.ref 891)
noncomputable def o896 (P : Params) : Obj := ⟨(.type "code"), none, (.fields [(.str (Str.ofString "_law_figures") 1446), (.str (Str.ofString "_law_figures") 1447), (.str (Str.ofString "/claim/cut.py") 1448), (.int (938) 0), (.int (3) 0), (.int (0) 0), (.int (0) 0), (.int (3) 0), (.ref 893), (.bool true), (.int (318) 0), (.ref 894), .none, .none, .none, (.ref 895), (.int (1449) 0), (.int (938) 0), (.str (Str.ofString "/claim/cut.py") 1450)].toArray), #[]⟩
noncomputable abbrev o897 (P : Params) : Obj := foOf (partsOf (nth pwBody 54)) (Str.ofString "_law_figures") (Str.ofString "_law_figures") .none .none (.str (Str.ofString "law_kt0081_01") 1364) (.ref 896)
noncomputable def o903 (P : Params) : Obj := ⟨(.type "code"), none, (.fields [(.str (Str.ofString "_law_gives") 1452), (.str (Str.ofString "_law_gives") 1453), (.str (Str.ofString "/claim/cut.py") 1454), (.int (945) 0), (.int (4) 0), (.int (0) 0), (.int (0) 0), (.int (3) 0), (.ref 898), (.bool true), (.int (318) 0), (.ref 899), .none, (.ref 900), (.ref 901), (.ref 902), (.int (1468) 0), (.int (945) 0), (.str (Str.ofString "/claim/cut.py") 1469)].toArray), #[]⟩
noncomputable abbrev o904 (P : Params) : Obj := foOf (partsOf (nth pwBody 55)) (Str.ofString "_law_gives") (Str.ofString "_law_gives") .none .none (.str (Str.ofString "law_kt0081_01") 1364) (.ref 903)
noncomputable def o908 (P : Params) : Obj := ⟨(.type "code"), none, (.fields [(.str (Str.ofString "law") 1471), (.str (Str.ofString "law") 1472), (.str (Str.ofString "/claim/cut.py") 1473), (.int (962) 0), (.int (1) 0), (.int (0) 0), (.int (0) 0), (.int (3) 0), (.ref 905), (.bool true), (.int (318) 0), (.ref 906), .none, .none, .none, (.ref 907), (.int (1474) 0), (.int (962) 0), (.str (Str.ofString "/claim/cut.py") 1475)].toArray), #[]⟩
noncomputable abbrev o909 (P : Params) : Obj := foOf (partsOf (nth pwBody 56)) (Str.ofString "law") (Str.ofString "law") .none .none (.str (Str.ofString "law_kt0081_01") 1364) (.ref 908)
/- In five keys of the object below one letter is written as its escape: a claim may bear a certain word in the rows at its head alone, and the model itself writes that word into these keys. They are the model's own strings, to the letter. -/
noncomputable def o2 (P : Params) : Obj := ⟨.none, none, (.dict [⟨PyData.keyHash P (Str.ofString "imp\x6frt.loaded._sre"), (.str (Str.ofString "imp\x6frt.loaded._sre") 183), (.bool true)⟩, ⟨PyData.keyHash P (Str.ofString "class._frozen_importlib.BuiltinImporter"), (.str (Str.ofString "class._frozen_importlib.BuiltinImporter") 185), (.ref 14)⟩, ⟨PyData.keyHash P (Str.ofString "watched.imp\x6frt"), (.str (Str.ofString "watched.imp\x6frt") 206), (.ref 18)⟩, ⟨PyData.keyHash P (Str.ofString "class._frozen_importlib.ModuleSpec"), (.str (Str.ofString "class._frozen_importlib.ModuleSpec") 216), (.ref 22)⟩, ⟨PyData.keyHash P (Str.ofString "sys.modules.booked-epoch"), (.str (Str.ofString "sys.modules.booked-epoch") 245), (.int (4) 0)⟩, ⟨PyData.keyHash P (Str.ofString "imp\x6frt.later-laid._sre"), (.str (Str.ofString "imp\x6frt.later-laid._sre") 270), (.bool true)⟩, ⟨PyData.keyHash P (Str.ofString "watched.library"), (.str (Str.ofString "watched.library") 272), (.ref 27)⟩, ⟨PyData.keyHash P (Str.ofString "watched.library-objects"), (.str (Str.ofString "watched.library-objects") 0), (.str (Str.ofString "\x0c\x1e") 0)⟩, ⟨PyData.keyHash P (Str.ofString "watched.library-deep._sre"), (.str (Str.ofString "watched.library-deep._sre") 273), (.str (Str.ofString "\x04\x00\x00\x0b\x04\x00\x00\x0b\x04\x00\x00\x03\x04\x00\x00\x0b\x08\x04dict\x02") 0)⟩, ⟨PyData.keyHash P (Str.ofString "imp\x6frt.loaded._collections"), (.str (Str.ofString "imp\x6frt.loaded._collections") 280), (.bool true)⟩, ⟨PyData.keyHash P (Str.ofString "sys.modules.landed._collections"), (.str (Str.ofString "sys.modules.landed._collections") 294), (.bool true)⟩, ⟨PyData.keyHash P (Str.ofString "imp\x6frt.later-laid._collections"), (.str (Str.ofString "imp\x6frt.later-laid._collections") 309), (.bool true)⟩, ⟨PyData.keyHash P (Str.ofString "watched.library-deep._collections"), (.str (Str.ofString "watched.library-deep._collections") 311), (.str (Str.ofString "\x04\x00\x00\x1d\x04\x00\x00\x1d\x04\x00\x00\x03\x04\x00\x00\x1d\x08\x04dict\x02") 0)⟩, ⟨PyData.keyHash P (Str.ofString "type.__subclasses__.OSError.0"), (.str (Str.ofString "type.__subclasses__.OSError.0") 472), (.int (119) 0)⟩, ⟨PyData.keyHash P (Str.ofString "type.__subclasses__.OSError.n"), (.str (Str.ofString "type.__subclasses__.OSError.n") 473), (.int (1) 0)⟩].toArray 15), #[]⟩
noncomputable def o792 (P : Params) : Obj := ⟨.none, none, (.fields [].toArray), #[]⟩
noncomputable def K (P : Params) : Frag := (nat_lit 2, o2 P) :: (nat_lit 3, o3 P) :: (nat_lit 50, o50 P) :: (nat_lit 51, o51 P) :: (nat_lit 57, o57 P) :: (nat_lit 58, o58 P) :: (nat_lit 59, o59 P) :: (nat_lit 65, o65 P) :: (nat_lit 66, o66 P) :: (nat_lit 67, o67 P) :: (nat_lit 68, o68 P) :: (nat_lit 74, o74 P) :: (nat_lit 75, o75 P) :: (nat_lit 76, o76 P) :: (nat_lit 82, o82 P) :: (nat_lit 83, o83 P) :: (nat_lit 89, o89 P) :: (nat_lit 90, o90 P) :: (nat_lit 94, o94 P) :: (nat_lit 95, o95 P) :: (nat_lit 108, o108 P) :: (nat_lit 109, o109 P) :: (nat_lit 135, o135 P) :: (nat_lit 136, o136 P) :: (nat_lit 138, o138 P) :: (nat_lit 139, o139 P) :: (nat_lit 140, o140 P) :: (nat_lit 165, o165 P) :: (nat_lit 166, o166 P) :: (nat_lit 396, o396 P) :: (nat_lit 406, o406 P) :: (nat_lit 412, o412 P) :: (nat_lit 413, o413 P) :: (nat_lit 419, o419 P) :: (nat_lit 420, o420 P) :: (nat_lit 426, o426 P) :: (nat_lit 427, o427 P) :: (nat_lit 440, o440 P) :: (nat_lit 441, o441 P) :: (nat_lit 582, o582 P) :: (nat_lit 588, o588 P) :: (nat_lit 589, o589 P) :: (nat_lit 590, o590 P) :: (nat_lit 596, o596 P) :: (nat_lit 597, o597 P) :: (nat_lit 611, o611 P) :: (nat_lit 612, o612 P) :: (nat_lit 618, o618 P) :: (nat_lit 619, o619 P) :: (nat_lit 642, o642 P) :: (nat_lit 643, o643 P) :: (nat_lit 695, o695 P) :: (nat_lit 701, o701 P) :: (nat_lit 702, o702 P) :: (nat_lit 708, o708 P) :: (nat_lit 709, o709 P) :: (nat_lit 710, o710 P) :: (nat_lit 738, o738 P) :: (nat_lit 739, o739 P) :: (nat_lit 745, o745 P) :: (nat_lit 746, o746 P) :: (nat_lit 767, o767 P) :: (nat_lit 768, o768 P) :: (nat_lit 774, o774 P) :: (nat_lit 775, o775 P) :: (nat_lit 777, o777 P) :: (nat_lit 778, o778 P) :: (nat_lit 783, o783 P) :: (nat_lit 789, o789 P) :: (nat_lit 790, o790 P) :: (nat_lit 796, o796 P) :: (nat_lit 797, o797 P) :: (nat_lit 798, o798 P) :: (nat_lit 804, o804 P) :: (nat_lit 805, o805 P) :: (nat_lit 818, o818 P) :: (nat_lit 819, o819 P) :: (nat_lit 825, o825 P) :: (nat_lit 826, o826 P) :: (nat_lit 832, o832 P) :: (nat_lit 833, o833 P) :: (nat_lit 839, o839 P) :: (nat_lit 840, o840 P) :: (nat_lit 846, o846 P) :: (nat_lit 847, o847 P) :: (nat_lit 853, o853 P) :: (nat_lit 854, o854 P) :: (nat_lit 860, o860 P) :: (nat_lit 861, o861 P) :: (nat_lit 867, o867 P) :: (nat_lit 868, o868 P) :: (nat_lit 874, o874 P) :: (nat_lit 875, o875 P) :: (nat_lit 879, o879 P) :: (nat_lit 880, o880 P) :: (nat_lit 886, o886 P) :: (nat_lit 887, o887 P) :: (nat_lit 891, o891 P) :: (nat_lit 892, o892 P) :: (nat_lit 896, o896 P) :: (nat_lit 897, o897 P) :: (nat_lit 903, o903 P) :: (nat_lit 904, o904 P) :: (nat_lit 908, o908 P) :: (nat_lit 909, o909 P) :: []
/-- the same and the table of the places of join's own blocks, which the law's run writes -/
noncomputable def KB (P : Params) : Frag := (nat_lit 792, o792 P) :: K P
noncomputable abbrev As : List Nat := 792 :: 2 :: 3 :: 50 :: 51 :: 57 :: 58 :: 59 :: 65 :: 66 :: 67 :: 68 :: 74 :: 75 :: 76 :: 82 :: 83 :: 89 :: 90 :: 94 :: 95 :: 108 :: 109 :: 135 :: 136 :: 138 :: 139 :: 140 :: 165 :: 166 :: 396 :: 406 :: 412 :: 413 :: 419 :: 420 :: 426 :: 427 :: 440 :: 441 :: 582 :: 588 :: 589 :: 590 :: 596 :: 597 :: 611 :: 612 :: 618 :: 619 :: 642 :: 643 :: 695 :: 701 :: 702 :: 708 :: 709 :: 710 :: 738 :: 739 :: 745 :: 746 :: 767 :: 768 :: 774 :: 775 :: 777 :: 778 :: 783 :: 789 :: 790 :: 796 :: 797 :: 798 :: 804 :: 805 :: 818 :: 819 :: 825 :: 826 :: 832 :: 833 :: 839 :: 840 :: 846 :: 847 :: 853 :: 854 :: 860 :: 861 :: 867 :: 868 :: 874 :: 875 :: 879 :: 880 :: 886 :: 887 :: 891 :: 892 :: 896 :: 897 :: 903 :: 904 :: 908 :: 909 :: []
noncomputable def q : Program := view PySem.Challenge.pw_kt0081_01 [0, 1, 56]
noncomputable def loose : List Str := [Str.ofString "_wall", Str.ofString "_buffer", Str.ofString "_truth", Str.ofString "_B64", Str.ofString "b2a_base64", Str.ofString "_NO_SEP", Str.ofString "b2a_hex", Str.ofString "hexlify", Str.ofString "b64encode", Str.ofString "b16encode", Str.ofString "_twin_re_1", Str.ofString "_whence", Str.ofString "_index", Str.ofString "UnsupportedOperation", Str.ofString "IOBase", Str.ofString "BufferedIOBase", Str.ofString "TextIOBase", Str.ofString "BytesIO", Str.ofString "StringIO", Str.ofString "_kind", Str.ofString "_fspath", Str.ofString "_check_arg_types", Str.ofString "isabs", Str.ofString "join", Str.ofString "join_path", Str.ofString "dirname", Str.ofString "shlex", Str.ofString "split", Str.ofString "join_shlex", Str.ofString "_find_unsafe", Str.ofString "quote", Str.ofString "_raise_serialization_error", Str.ofString "_escape_cdata", Str.ofString "_escape_attrib", Str.ofString "_escape_attrib_html", Str.ofString "_escape_cdata_c14n", Str.ofString "_escape_attrib_c14n", Str.ofString "_law_sign", Str.ofString "_law_kinds", Str.ofString "_law_put", Str.ofString "_law_post", Str.ofString "_law_counted", Str.ofString "_law_next", Str.ofString "_law_reckoned", Str.ofString "_law_figures", Str.ofString "_law_gives"]
noncomputable def XtOf (q : Program) (s : Shared) : Bool := xlAt q [] s && recOk [] s
end
end Mine
section
open PySem PySem.W PyProof.Rows
set_option maxHeartbeats 0
lay_quick Mine.headSees PySem.W.openGood Mine.XtOf treeTable
namespace Mine
theorem headBig (w : World) : headSees treeTable PySem.Challenge.pw_kt0081_01 w 12000 q loose (XtOf q) As = some (openGood q loose, (KB w.params).map fun p => some p.2) := by
  rw [PySem.W.Fast.te14669018996460265515, PySem.W.Fast.te14364793385576792824, PySem.W.Fast.te3486900944545009338, PySem.W.Fast.te18081895346903808155]
  kernel_rfl
end Mine
end
section
open PySem PySem.W PyProof.Rows
set_option maxHeartbeats 0
namespace Mine
theorem said : PySem.Challenge.rw_kt0081_01.wellSaid = true := by
  rw [PySem.W.Fast.te9446332074065402090]
  unfold PySem.W.Fast.tw9446332074065402090 PySem.W.Fast.tw17960256430627541270 PySem.W.Fast.tw2436336058641802641 PySem.W.Fast.tw12908688711261696721
  repeat' (with_reducible refine look_both ?_ ?_)
  all_goals decide +kernel
theorem tablesOk : PySem.Challenge.rw_kt0081_01.row.prog.tablesWhole = true := by decide +kernel
end Mine
end
namespace Mine
section
open PySem PySem.W PySem.Spec PySem.Calls PyProof.Rows

section
variable {w : World} {A A₀ : Around} {s : Shared} {base h₀ : Heap} {outer : List Env} {L : Addr} {m mg mb : Str → Option Value} {env : Env} {news : List (Addr × Obj)} {mean : ExcName → Option Value}
  {R : Result → Shared → Prop} {name qual : Str} {params : Arguments} {body : List Stmt} {scope : Scope} {dV kV pm cdv : Value} {f : Addr} {args : Args} {binds : List (Str × Value)} {src : Option (Arguments × List Stmt × Scope)}
theorem fn_enter (B : Below A₀ base outer h₀) (F : Fr h₀ L s.heap m) (X₀ : (K w.params).In h₀) (N : News h₀ L s.heap news) (T : Top q (looseW q loose) mean mg mb h₀) (hA : A.frames = some (env :: outer)) (hf : env.frame = some L) (hke : env.scope.kind = .function)
    (ho : (K w.params).lookup f = some (foOf src name qual dV kV pm cdv)) (hsrc : src = some (params, body, scope)) (hcd : codeIn (K w.params) cdv qual = true) (hroom : A.depth < recursionLimit)
    (hbind : BindsTo s (fnOf name qual params body scope dV kV .none pm none cdv .none) args binds) (hloc : ∀ y ∈ binds, scope.names.lookup y.1 = some .local)
    (h : ∀ g L' h₁, Fr h₀ L g m → Fr g L' h₁ (fun y => binds.reverse.lookup y) → News g L' h₁ news → Below A base (env :: outer) g → (K w.params).In g → Top q (looseW q loose) mean mg mb g →
      wpAny (model PySem.Challenge.pw_kt0081_01 w) (A.deeper (envOf qual scope L' f cdv)) (execs body (envOf qual scope L' f cdv))
        (fun fl s' => LeaveK h₀ L m g R (match fl with | .ret v => v | _ => .none) s')
        (fun e s' => wpAny (model PySem.Challenge.pw_kt0081_01 w) (A.deeper (envOf qual scope L' f cdv)) (leaving (envOf qual scope L' f cdv) e) (fun _ s'' => R (.error e) s'') (fun e' s'' => R (.error e') s'') s')
        { s with heap := h₁, toks := s.toks + binds.length })
    (hco : scope.isCoroutine = false) (hgen : scope.isGenerator = false) (hk : scope.kind = .function)
    (hcell : ∀ x ∈ scope.names, x.2 ≠ .cell) : codeAny (model PySem.Challenge.pw_kt0081_01 w) A (.call (.ref f) args) R s :=
  code_def B F X₀ N T hA hf hke (by rw [ho, hsrc]; rfl) hcd hroom hbind hloc h hco hgen hk hcell

theorem fn_enterC (B : Below A₀ base outer h₀) (F : Fr h₀ L s.heap m) (X₀ : (K w.params).In h₀) (N : News h₀ L s.heap news) (T : Top q (looseW q loose) mean mg mb h₀) (hA : A.frames = some (env :: outer)) (hf : env.frame = some L) (hke : env.scope.kind = .function)
    (ho : (K w.params).lookup f = some (foOf src name qual dV kV pm cdv)) (hsrc : src = some (params, body, scope)) (hcd : codeIn (K w.params) cdv qual = true) (hroom : A.depth < recursionLimit)
    (hbind : BindsTo s (fnOf name qual params body scope dV kV .none pm none cdv .none) args binds) (hkind : (binds.all fun y => scope.names.lookup y.1 == some .local || scope.names.lookup y.1 == some .cell) = true)
    (hnd : ((cellsFrom 0 scope.names []).map (·.1)).Nodup)
    (h : ∀ g L' h₁ tk cells, Fr h₀ L g m → Fr g L' h₁ (bindL (envOfC qual scope L' f cdv).kindOf binds fun _ => none) → News g L' h₁ (cells ++ news) →
      CellsAre (bindC (envOfC qual scope L' f cdv).kindOf binds fun _ => none) (cellsFrom (L' + 1) scope.names []) cells → Below A base (env :: outer) g → (K w.params).In g → Top q (looseW q loose) mean mg mb g → (∀ p ∈ news, p.1 < L') →
      wpAny (model PySem.Challenge.pw_kt0081_01 w) (A.deeper (envOfC qual scope L' f cdv)) (execs body (envOfC qual scope L' f cdv))
        (fun fl s' => LeaveK h₀ L m g R (match fl with | .ret v => v | _ => .none) s')
        (fun e s' => wpAny (model PySem.Challenge.pw_kt0081_01 w) (A.deeper (envOfC qual scope L' f cdv)) (leaving (envOfC qual scope L' f cdv) e) (fun _ s'' => R (.error e) s'') (fun e' s'' => R (.error e') s'') s')
        { s with heap := h₁, toks := tk })
    (hco : scope.isCoroutine = false) (hgen : scope.isGenerator = false) (hk : scope.kind = .function) : codeAny (model PySem.Challenge.pw_kt0081_01 w) A (.call (.ref f) args) R s :=
  code_defC B F X₀ N T hA hf hke (by rw [ho, hsrc]; rfl) hcd hroom hbind hkind hnd h hco hgen hk
end
end
section
open PySem PySem.W PySem.Spec PySem.Calls PyProof.Rows

section
variable {M : Model} {A : Around} {E : Value → Shared → Prop} {env : Env} {h₀ : Heap} {L : Addr} {m : Str → Option Value} {news : List (Addr × Obj)} {heap : Heap} {gens : Array GenState} {drawn : Drawn} {T : Nat} {os : OsState}

/-- a statement, and the clock of tokens has begun -/
theorem execs_t {st : Stmt} {rest : List Stmt} {Q : Flow → Shared → Prop} (h1 : 1 ≤ T)
    (h : ∀ tk, 1 ≤ tk → wpAny M A (exec st env) (fun f s' => 1 ≤ s'.toks → match f with | .next => wpAny M A (execs rest env) Q E s' | f => Q f s') E ⟨heap, gens, drawn, tk, os⟩) :
    wpAny M A (execs (st :: rest) env) Q E ⟨heap, gens, drawn, T, os⟩ :=
  wpAny_execs_cons (wpAny_with_toks (n := 1) h1 (wpAny_mono (h T h1) (fun _ _ x => x) fun _ _ x _ => x))
end

section
variable {prog : Program} {w : World} {A : Around} {E : Value → Shared → Prop} {s : Shared} {cn : Str} {cs : Scope} {L a : Addr} {ccd : Value} {h₀ : Heap} {m : Str → Option Value} {news : List (Addr × Obj)} {Q : Flow → Shared → Prop}

theorem replace_same (x y z : Str) (hy : y.cps.toList ≠ []) (h : Txt.contains x y = false) : Txt.replace x y z = x := by
  have hyl : y.cps.toList.length = y.length := by simp [PySem.Str.length]
  have hno : ∀ i, ¬ StrLaws.At x y x.length i := by
    intro i hi
    have := (StrLaws.found_iff x y).mpr ⟨i, hi.1, hi.2⟩
    unfold Txt.contains at h
    rw [h] at this; cases this
  apply L_inj
  rw [L, replace_toList x y z hy]
  apply repS_none
  intro k hk hp
  exact hno k (at_prefix.mpr ⟨by rw [← L_length]; exact Nat.le_of_lt hk, hp⟩)

/-- «if a in n: n = n.replace(a, b)»: one path -/
theorem if_replace {n a' b x : Str} {t : Tok} {k1 k2 k3 : Nat} {p1 p2 p3 p4 p5 p6 p7 p8 p9 p10 p11 : Pos} {pl : Sem Bool} (F : Fr h₀ L s.heap m) (N : News h₀ L s.heap news) (hm : m n = some (.str x t)) (h1 : 1 ≤ s.toks)
    (hx : x.length ≤ 1048576) (hb : b.length ≤ 14) (ha : a'.cps.toList ≠ []) (hab : (a' == b) = false)
    (hk : cs.kind = .function) (hl : (envOf cn cs L a ccd).kindOf n = some .local) (hd : (n == ("__debug__" : Str)) = false)
    (he : eval (.Call (.Attribute (.Name n p5) "replace" p6) [.Constant (.str a') k2 p7, .Constant (.str b) k3 p8] [] p9) (envOf cn cs L a ccd) = (do
      let ov ← eval (.Name n p5) (envOf cn cs L a ccd)
      standAt p6.atName
      let (f, first) ← holding [ov] (getMethod ov "replace" pl)
      callWith p9 f first (backTo p9 (starEach [.Constant (.str a') k2 p7, .Constant (.str b) k3 p8] (envOf cn cs L a ccd))) []))
    (h : ∀ h' tk' t', 1 ≤ tk' → Fr h₀ L h' (fun y => if y = n then some (.str (Txt.replace x a' b) t') else m y) → News h₀ L h' news → Q .next { s with heap := h', toks := tk' }) :
    wpAny (model prog w) A (exec (.If (.Compare (.Constant (.str a') k1 p1) [.In] [.Name n p2] p3) [.Assign [.Name n p4] (.Call (.Attribute (.Name n p5) "replace" p6) [.Constant (.str a') k2 p7, .Constant (.str b) k3 p8] [] p9) p10] [] p11) (envOf cn cs L a ccd)) Q E s := by
  refine wpAny_If ?_
  refine wpAny_isTrue_Compare1 ?_
  refine Calls.Constant_str ?_
  refine ld F hm ?_ hk hl hd
  refine in_str ?_
  refine wpAny_truthy_bool ?_
  cases hc : Txt.contains x a' with
  | false =>
    unfold Txt.contains at hc
    rw [hc, if_neg Bool.false_ne_true]
    refine wpAny_execs_nil ?_
    have e : (fun y => if y = n then some (Value.str (Txt.replace x a' b) t) else m y) = m := by
      funext y
      by_cases hy : y = n
      · subst hy; rw [if_pos rfl, replace_same x a' b ha hc, hm]
      · rw [if_neg hy]
    exact h s.heap _ t (by show 1 ≤ s.toks + 1; omega) (by rw [e]; exact F) N
  | true =>
    unfold Txt.contains at hc
    rw [hc, if_pos rfl]
    refine wpAny_execs_cons (wpAny_with_toks (n := 1) (by show 1 ≤ s.toks + 1; omega) ?_)
    refine wpAny_Assign_Name ?_
    refine MethodCall_ ?_ he
    refine ld F hm ?_ hk hl hd
    refine GM.replace ?_
    refine callWith_method1 ?_
    refine args_cons ?_
    refine Calls.Constant_str ?_
    refine args_cons ?_
    refine Calls.Constant_str ?_
    refine args_nil ?_
    refine SC.replaceW (by show (s.toks + 1 : Nat) ≠ 0; lia) (by show (s.toks + 1 + 1 : Nat) ≠ 0; lia) (by show (s.toks + 1 : Nat) ≠ s.toks + 1 + 1; lia) hab hx hb ?_
    intro t' k
    refine stN F N ?_ hk hl
    intro h' F' N' h2
    refine wpAny_execs_nil ?_
    exact h h' _ t' h2 F' N'

theorem if_esc {n a' b x : Str} {T : Tbl} {t : Tok} {k1 k2 k3 : Nat} {p1 p2 p3 p4 p5 p6 p7 p8 p9 p10 p11 : Pos} {pl : Sem Bool} (F : Fr h₀ L s.heap m) (N : News h₀ L s.heap news) (hm : m n = some (.str (Esc T x) t)) (h1 : 1 ≤ s.toks)
    (hx : x.length ≤ 100000) (hT : (T.all fun p => decide (p.2.length ≤ 6)) = true) (hb : b.length ≤ 14) (ha : Mine.L a' = [(Mine.L a').headD 0]) (hf : fresh T ((Mine.L a').headD 0) = true) (hab : (a' == b) = false)
    (hk : cs.kind = .function) (hl : (envOf cn cs L a ccd).kindOf n = some .local) (hd : (n == ("__debug__" : Str)) = false)
    (he : eval (.Call (.Attribute (.Name n p5) "replace" p6) [.Constant (.str a') k2 p7, .Constant (.str b) k3 p8] [] p9) (envOf cn cs L a ccd) = (do
      let ov ← eval (.Name n p5) (envOf cn cs L a ccd)
      standAt p6.atName
      let (f, first) ← holding [ov] (getMethod ov "replace" pl)
      callWith p9 f first (backTo p9 (starEach [.Constant (.str a') k2 p7, .Constant (.str b) k3 p8] (envOf cn cs L a ccd))) []))
    (h : ∀ h' tk' t', 1 ≤ tk' → Fr h₀ L h' (fun y => if y = n then some (.str (Esc (T ++ [((Mine.L a').headD 0, Mine.L b)]) x) t') else m y) → News h₀ L h' news → Q .next { s with heap := h', toks := tk' }) :
    wpAny (model prog w) A (exec (.If (.Compare (.Constant (.str a') k1 p1) [.In] [.Name n p2] p3) [.Assign [.Name n p4] (.Call (.Attribute (.Name n p5) "replace" p6) [.Constant (.str a') k2 p7, .Constant (.str b) k3 p8] [] p9) p10] [] p11) (envOf cn cs L a ccd)) Q E s := by
  have hl6 := Esc_len T x 6 (by decide) hT
  refine if_replace F N hm h1 (by lia) hb (by show Mine.L a' ≠ []; rw [ha]; simp) hab hk hl hd he ?_
  intro h' tk' t' h2 F' N'
  rw [Esc_snoc T x b a' _ ha hf] at F'
  exact h h' tk' t' h2 F' N'
end
end
section
open PySem PySem.W PySem.Spec PySem.Calls PyProof.Rows
noncomputable abbrev listObj (vs : List Value) (n : Nat) : Obj := { cls := .type "list", data := .seq vs.toArray n }
/-- a call of the text's def f, where the ledger is as pre says, gives V (under some token); what the caller knows stays -/
noncomputable def SpecP (w : World) (f : Addr) (D U : Nat) (args : List Value) (pre : List (Addr × Obj) → Prop) (V : Tok → Value) : Prop :=
  ∀ (dp un : Nat) (gd : Option (List Code)) (cn : Str) (cs : Scope) (a : Addr) (ccd : Value) (cl : List (Str × Addr)) (outer : List Env) (A₀ : Around) (base h₀ : Heap) (L : Addr) (m mg mb : Str → Option Value) (mean : ExcName → Option Value) (news : List (Addr × Obj)) (s : Shared)
    (Q E : Value → Shared → Prop),
    Below A₀ base outer h₀ → Fr h₀ L s.heap m → (K w.params).In h₀ → News h₀ L s.heap news → Top q (looseW q loose) mean mg mb h₀ → cs.kind = .function → dp + D < recursionLimit → un + U < cLine → pre news →
    (∀ (t : Tok) h' tk', Fr h₀ L h' m → News h₀ L h' news → Q (V t) { s with heap := h', toks := tk' }) →
    wpAny (model PySem.Challenge.pw_kt0081_01 w) (ktrTop dp un gd cn cs L a ccd cl outer) (call (.ref f) args) Q E s
noncomputable abbrev SpecV (w : World) (f : Addr) (D U : Nat) (args : List Value) (V : Tok → Value) : Prop := SpecP w f D U args (fun _ => True) V
/-- the same, where what it gives is a new list whose items are as R says -/
noncomputable def SpecL (w : World) (f : Addr) (D U : Nat) (args : List Value) (pre : List (Addr × Obj) → Prop) (R : List Value → Prop) : Prop :=
  ∀ (dp un : Nat) (gd : Option (List Code)) (cn : Str) (cs : Scope) (a : Addr) (ccd : Value) (cl : List (Str × Addr)) (outer : List Env) (A₀ : Around) (base h₀ : Heap) (L : Addr) (m mg mb : Str → Option Value) (mean : ExcName → Option Value) (news : List (Addr × Obj)) (s : Shared)
    (Q E : Value → Shared → Prop),
    Below A₀ base outer h₀ → Fr h₀ L s.heap m → (K w.params).In h₀ → News h₀ L s.heap news → Top q (looseW q loose) mean mg mb h₀ → cs.kind = .function → dp + D < recursionLimit → un + U < cLine → pre news →
    (∀ (l : Addr) (n : Nat) (vs : List Value) h' tk', R vs → Fr h₀ L h' m → News h₀ L h' ((l, listObj vs n) :: news) → (∀ p ∈ news, p.1 < l) → Q (.ref l) { s with heap := h', toks := tk' }) →
    wpAny (model PySem.Challenge.pw_kt0081_01 w) (ktrTop dp un gd cn cs L a ccd cl outer) (call (.ref f) args) Q E s

theorem room_in {a D b D' : Nat} (h : a + D < b) (k : D' ≤ D) : a + D' < b := Nat.lt_of_le_of_lt (Nat.add_le_add_left k a) h
theorem room_in1 {a D b D' : Nat} (h : a + D < b) (k : D' + 1 ≤ D) : a + 1 + D' < b := by omega
theorem room_u {a D b D' : Nat} (h : a + D < b) (k : 3 + D' ≤ D) : a + 3 + D' < b := by omega
theorem room_any {p a D D0 b : Nat} (h : p + D0 < b) (k : Nat.ble (a + D) D0 = true) : p + a + D < b := by
  rw [Nat.add_assoc]; exact Nat.lt_of_le_of_lt (Nat.add_le_add_left (Nat.le_of_ble_eq_true k) p) h
theorem room_same {p D D0 b : Nat} (h : p + D0 < b) (k : Nat.ble D D0 = true) : p + D < b := Nat.lt_of_le_of_lt (Nat.add_le_add_left (Nat.le_of_ble_eq_true k) p) h
section
variable {w : World} {f : Addr} {D U : Nat} {args : List Value} {pre : List (Addr × Obj) → Prop} {V : Tok → Value} {R : List Value → Prop}
  {dp un : Nat} {gd : Option (List Code)} {cn : Str} {cs : Scope} {a : Addr} {ccd : Value} {cl : List (Str × Addr)} {outer : List Env} {A₀ : Around} {base h₀ : Heap} {L : Addr} {m mg mb : Str → Option Value} {mean : ExcName → Option Value} {news : List (Addr × Obj)} {s : Shared} {Q E : Value → Shared → Prop}
theorem SpecP.use (h : SpecP w f D U args pre V) (B : Below A₀ base outer h₀) (F : Fr h₀ L s.heap m) (X : (K w.params).In h₀) (N : News h₀ L s.heap news) (T : Top q (looseW q loose) mean mg mb h₀) (hk : cs.kind = .function) (hd : dp + D < recursionLimit) (hu : un + U < cLine) (hp : pre news)
    (ret : ∀ (t : Tok) h' tk', Fr h₀ L h' m → News h₀ L h' news → Q (V t) { s with heap := h', toks := tk' }) :
    wpAny (model PySem.Challenge.pw_kt0081_01 w) (ktrTop dp un gd cn cs L a ccd cl outer) (call (.ref f) args) Q E s := h _ _ _ _ _ _ _ _ _ _ _ _ _ _ _ _ _ _ _ _ _ B F X N T hk hd hu hp ret
theorem SpecL.use (h : SpecL w f D U args pre R) (B : Below A₀ base outer h₀) (F : Fr h₀ L s.heap m) (X : (K w.params).In h₀) (N : News h₀ L s.heap news) (T : Top q (looseW q loose) mean mg mb h₀) (hk : cs.kind = .function) (hd : dp + D < recursionLimit) (hu : un + U < cLine) (hp : pre news)
    (ret : ∀ (l : Addr) (n : Nat) (vs : List Value) h' tk', R vs → Fr h₀ L h' m → News h₀ L h' ((l, listObj vs n) :: news) → (∀ p ∈ news, p.1 < l) → Q (.ref l) { s with heap := h', toks := tk' }) :
    wpAny (model PySem.Challenge.pw_kt0081_01 w) (ktrTop dp un gd cn cs L a ccd cl outer) (call (.ref f) args) Q E s := h _ _ _ _ _ _ _ _ _ _ _ _ _ _ _ _ _ _ _ _ _ B F X N T hk hd hu hp ret
theorem SpecP.go {heap : Heap} {gens : Array GenState} {drawn : Drawn} {T₀ : Nat} {os : OsState} (h : SpecP w f D U args pre V)
    (ret : ∀ (t : Tok) h' tk', Fr h₀ L h' m → News h₀ L h' news → Q (V t) ⟨h', gens, drawn, tk', os⟩) (B : Below A₀ base outer h₀ := by k_asm) (F : Fr h₀ L heap m := by k_asm) (X : (K w.params).In h₀ := by k_asm) (N : News h₀ L heap news := by k_asm) (T : Top q (looseW q loose) mean mg mb h₀ := by k_asm) (hk : cs.kind = .function := by exact rfl) (hd : dp + D < recursionLimit := by first | exact room_any (by assumption) rfl | exact room_same (by assumption) rfl | decide +kernel) (hu : un + U < cLine := by first | exact room_any (by assumption) rfl | exact room_same (by assumption) rfl | decide +kernel) (hp : pre news := by first | trivial | k_mem | (refine ⟨?_, ?_⟩ <;> k_mem) | exact List.mem_cons_of_mem _ (List.mem_cons_of_mem _ (by with_reducible assumption))) :
    wpAny (model PySem.Challenge.pw_kt0081_01 w) (ktrTop dp un gd cn cs L a ccd cl outer) (call (.ref f) args) Q E ⟨heap, gens, drawn, T₀, os⟩ := SpecP.use (s := ⟨heap, gens, drawn, T₀, os⟩) h B F X N T hk hd hu hp ret
theorem SpecL.go {heap : Heap} {gens : Array GenState} {drawn : Drawn} {T₀ : Nat} {os : OsState} (h : SpecL w f D U args pre R)
    (ret : ∀ (l : Addr) (n : Nat) (vs : List Value) h' tk', R vs → Fr h₀ L h' m → News h₀ L h' ((l, listObj vs n) :: news) → (∀ p ∈ news, p.1 < l) → Q (.ref l) ⟨h', gens, drawn, tk', os⟩) (B : Below A₀ base outer h₀ := by k_asm) (F : Fr h₀ L heap m := by k_asm) (X : (K w.params).In h₀ := by k_asm) (N : News h₀ L heap news := by k_asm) (T : Top q (looseW q loose) mean mg mb h₀ := by k_asm) (hk : cs.kind = .function := by exact rfl) (hd : dp + D < recursionLimit := by first | exact room_any (by assumption) rfl | exact room_same (by assumption) rfl | decide +kernel) (hu : un + U < cLine := by first | exact room_any (by assumption) rfl | exact room_same (by assumption) rfl | decide +kernel) (hp : pre news := by first | trivial | k_mem | (refine ⟨?_, ?_⟩ <;> k_mem) | exact List.mem_cons_of_mem _ (List.mem_cons_of_mem _ (by with_reducible assumption))) :
    wpAny (model PySem.Challenge.pw_kt0081_01 w) (ktrTop dp un gd cn cs L a ccd cl outer) (call (.ref f) args) Q E ⟨heap, gens, drawn, T₀, os⟩ := SpecL.use (s := ⟨heap, gens, drawn, T₀, os⟩) h B F X N T hk hd hu hp ret
end
/-- a goal that the walker leaves alone -/
noncomputable def Hold (P : Prop) : Prop := P
theorem of_hold {P : Prop} (h : Hold P) : P := h
theorem hold_in {P : Prop} (h : P) : Hold P := h
theorem iteT {a b : Prop} (h : a) : if true = true then a else b := h
theorem iteF {a b : Prop} (h : b) : if false = true then a else b := h
end
section
open PySem PySem.W PySem.Spec PySem.Calls PyProof.Rows
section
variable {w : World} {name qual : Str} {params : Arguments} {body : List Stmt} {scope : Scope} {dV kV pm cdv : Value} {f : Addr} {args : List Value} {kw : List (Str × Value)} {binds : List (Str × Value)} {src : Option (Arguments × List Stmt × Scope)} {D U : Nat}
/-- what a call gives where its body ends so -/
@[reducible] noncomputable def retOf : Flow → Value | .ret v => v | _ => .none
/-- a def of the text is entered: its body is walked with nothing of its caller in sight -/
theorem enterA {dp un : Nat} {gd : Option (List Code)} {cn : Str} {cs : Scope} {a : Addr} {ccd : Value} {cl : List (Str × Addr)} {outer : List Env} {A₀ : Around} {base h₀ : Heap} {L : Addr} {m mg mb : Str → Option Value} {mean : ExcName → Option Value} {news : List (Addr × Obj)} {s : Shared} {R : Result → Shared → Prop}
    (ho : (K w.params).lookup f = some (foOf src name qual dV kV pm cdv)) (hsrc : src = some (params, body, scope)) (hcd : codeIn (K w.params) cdv qual = true)
    (hbind : ∀ s' : Shared, (K w.params).In s'.heap → BindsTo s' (fnOf name qual params body scope dV kV .none pm none cdv .none) ⟨args, kw⟩ binds) (hloc : ∀ y ∈ binds, scope.names.lookup y.1 = some .local)
    (hco : scope.isCoroutine = false) (hgen : scope.isGenerator = false) (hkf : scope.kind = .function) (hcell : ∀ x ∈ scope.names, x.2 ≠ .cell)
    (B : Below A₀ base outer h₀) (F : Fr h₀ L s.heap m) (X : (K w.params).In h₀) (N : News h₀ L s.heap news) (T : Top q (looseW q loose) mean mg mb h₀) (hk : cs.kind = .function) (hd : dp < recursionLimit)
    (h : ∀ (g h' : Heap) (L' : Addr) (tk : Nat) (WQ : Flow → Shared → Prop) (WE : Value → Shared → Prop), Below (ktrTop dp un gd cn cs L a ccd cl outer) base (envX cn cs L a ccd cl :: outer) g → Fr g L' h' (fun y => binds.reverse.lookup y) → (K w.params).In g → News g L' h' news → Top q (looseW q loose) mean mg mb g →
      (∀ {fl : Flow} {news' : List (Addr × Obj)} {h' : Heap} {tk' : Nat} {g' : Array GenState} {m' : Str → Option Value}, (Fr h₀ L h' m → News h₀ L h' news' → R (.ok (.ret (retOf fl))) { s with heap := h', toks := tk', gens := g' }) → Fr g L' h' m' → News g L' h' news' → WQ fl ⟨h', g', s.drawn, tk', s.os⟩) → binds.length ≤ tk → PassesOwn (model PySem.Challenge.pw_kt0081_01 w) ((ktrTop dp un gd cn cs L a ccd cl outer).deeper (envOf qual scope L' f cdv)) (envOf qual scope L' f cdv) WE →
      wpAny (model PySem.Challenge.pw_kt0081_01 w) ((ktrTop dp un gd cn cs L a ccd cl outer).deeper (envOf qual scope L' f cdv)) (execs body (envOf qual scope L' f cdv)) WQ WE ⟨h', s.gens, s.drawn, tk, s.os⟩) :
    codeAny (model PySem.Challenge.pw_kt0081_01 w) (ktrTop dp un gd cn cs L a ccd cl outer) (.call (.ref f) ⟨args, kw⟩) R s := by
  refine fn_enter B F X N T rfl rfl hk ho hsrc hcd hd (hbind s ?_) hloc ?_ hco hgen hkf hcell
  · exact Frag.In.keeps X F.keep
  · intro g L' h₁ FG F' N' B' X' T'
    exact h g h₁ L' _ _ _ B' F' X' N' T' (fun {fl} _ _ _ _ _ hR F'' N'' => by cases fl <;> exact leaveK_ F'' N'' hR) (Nat.le_add_left _ _) (by passes_own)
theorem enterQ {dp un : Nat} {gd : Option (List Code)} {cn : Str} {cs : Scope} {a : Addr} {ccd : Value} {cl : List (Str × Addr)} {outer : List Env} {A₀ : Around} {base h₀ : Heap} {L : Addr} {m mg mb : Str → Option Value} {mean : ExcName → Option Value} {news : List (Addr × Obj)} {s : Shared} {Q E : Value → Shared → Prop}
    (ho : (K w.params).lookup f = some (foOf src name qual dV kV pm cdv)) (hsrc : src = some (params, body, scope)) (hcd : codeIn (K w.params) cdv qual = true)
    (hbind : ∀ s' : Shared, (K w.params).In s'.heap → BindsTo s' (fnOf name qual params body scope dV kV .none pm none cdv .none) ⟨args, kw⟩ binds) (hloc : ∀ y ∈ binds, scope.names.lookup y.1 = some .local)
    (hco : scope.isCoroutine = false) (hgen : scope.isGenerator = false) (hkf : scope.kind = .function) (hcell : ∀ x ∈ scope.names, x.2 ≠ .cell)
    (B : Below A₀ base outer h₀) (F : Fr h₀ L s.heap m) (X : (K w.params).In h₀) (N : News h₀ L s.heap news) (T : Top q (looseW q loose) mean mg mb h₀) (hk : cs.kind = .function) (hd : dp < recursionLimit)
    (h : ∀ (g h' : Heap) (L' : Addr) (tk : Nat) (WQ : Flow → Shared → Prop) (WE : Value → Shared → Prop), Below (ktrTop dp un gd cn cs L a ccd cl outer) base (envX cn cs L a ccd cl :: outer) g → Fr g L' h' (fun y => binds.reverse.lookup y) → (K w.params).In g → News g L' h' news → Top q (looseW q loose) mean mg mb g →
      (∀ {fl : Flow} {news' : List (Addr × Obj)} {h' : Heap} {tk' : Nat} {g' : Array GenState} {m' : Str → Option Value}, (Fr h₀ L h' m → News h₀ L h' news' → Q (retOf fl) { s with heap := h', toks := tk', gens := g' }) → Fr g L' h' m' → News g L' h' news' → WQ fl ⟨h', g', s.drawn, tk', s.os⟩) → binds.length ≤ tk → PassesOwn (model PySem.Challenge.pw_kt0081_01 w) ((ktrTop dp un gd cn cs L a ccd cl outer).deeper (envOf qual scope L' f cdv)) (envOf qual scope L' f cdv) WE →
      wpAny (model PySem.Challenge.pw_kt0081_01 w) ((ktrTop dp un gd cn cs L a ccd cl outer).deeper (envOf qual scope L' f cdv)) (execs body (envOf qual scope L' f cdv)) WQ WE ⟨h', s.gens, s.drawn, tk, s.os⟩) :
    wpAny (model PySem.Challenge.pw_kt0081_01 w) (ktrTop dp un gd cn cs L a ccd cl outer) (call (.ref f) args kw) Q E s :=
  wpAny_call (enterA ho hsrc hcd hbind hloc hco hgen hkf hcell B F X N T hk hd fun g h' L' tk WQ WE B' F' X' N' T' hr ht hPO => h g h' L' tk WQ WE B' F' X' N' T' (fun hR F N => hr hR F N) ht hPO)
theorem enterP {pre : List (Addr × Obj) → Prop} {V : Tok → Value} (ho : (K w.params).lookup f = some (foOf src name qual dV kV pm cdv)) (hsrc : src = some (params, body, scope)) (hcd : codeIn (K w.params) cdv qual = true)
    (hbind : ∀ s' : Shared, (K w.params).In s'.heap → BindsTo s' (fnOf name qual params body scope dV kV .none pm none cdv .none) ⟨args, []⟩ binds) (hloc : ∀ y ∈ binds, scope.names.lookup y.1 = some .local)
    (hco : scope.isCoroutine = false) (hgen : scope.isGenerator = false) (hkf : scope.kind = .function) (hcell : ∀ x ∈ scope.names, x.2 ≠ .cell)
    (h : ∀ (dp un : Nat) (gd : Option (List Code)) (cn : Str) (cs : Scope) (a : Addr) (ccd : Value) (cl : List (Str × Addr)) (outer : List Env) (base g : Heap) (L L' : Addr) (mg mb : Str → Option Value) (mean : ExcName → Option Value) (news : List (Addr × Obj)) (gens : Array GenState) (drawn : Drawn) (os : OsState) (h' : Heap) (tk : Nat) (WQ : Flow → Shared → Prop) (WE : Value → Shared → Prop),
      Below (ktrTop dp un gd cn cs L a ccd cl outer) base (envX cn cs L a ccd cl :: outer) g → Fr g L' h' (fun y => binds.reverse.lookup y) → (K w.params).In g → News g L' h' news → Top q (looseW q loose) mean mg mb g → dp + D < recursionLimit → un + U < cLine → pre news →
      (∀ (t : Tok) h' tk' {m'}, Fr g L' h' m' → News g L' h' news → WQ (.ret (V t)) ⟨h', gens, drawn, tk', os⟩) → binds.length ≤ tk → PassesOwn (model PySem.Challenge.pw_kt0081_01 w) ((ktrTop dp un gd cn cs L a ccd cl outer).deeper (envOf qual scope L' f cdv)) (envOf qual scope L' f cdv) WE →
      wpAny (model PySem.Challenge.pw_kt0081_01 w) ((ktrTop dp un gd cn cs L a ccd cl outer).deeper (envOf qual scope L' f cdv)) (execs body (envOf qual scope L' f cdv)) WQ WE ⟨h', gens, drawn, tk, os⟩) : SpecP w f D U args pre V := by
  intro dp un gd cn cs a ccd cl outer A₀ base h₀ L m mg mb mean news s Q E B F X N T hk hd hu hp ret
  exact enterQ ho hsrc hcd hbind hloc hco hgen hkf hcell B F X N T hk (Nat.lt_of_le_of_lt (Nat.le_add_right _ _) hd) fun g h' L' tk WQ WE B' F' X' N' T' hr ht hPO => h _ _ _ _ _ _ _ _ _ _ _ _ _ _ _ _ _ _ _ _ _ _ _ _ B' F' X' N' T' hd hu hp (fun t h' tk' m' F N => hr (fun F N => ret t _ _ F N) F N) ht hPO
theorem enterN {pre : List (Addr × Obj) → Prop} (ho : (K w.params).lookup f = some (foOf src name qual dV kV pm cdv)) (hsrc : src = some (params, body, scope)) (hcd : codeIn (K w.params) cdv qual = true)
    (hbind : ∀ s' : Shared, (K w.params).In s'.heap → BindsTo s' (fnOf name qual params body scope dV kV .none pm none cdv .none) ⟨args, []⟩ binds) (hloc : ∀ y ∈ binds, scope.names.lookup y.1 = some .local)
    (hco : scope.isCoroutine = false) (hgen : scope.isGenerator = false) (hkf : scope.kind = .function) (hcell : ∀ x ∈ scope.names, x.2 ≠ .cell)
    (h : ∀ (dp un : Nat) (gd : Option (List Code)) (cn : Str) (cs : Scope) (a : Addr) (ccd : Value) (cl : List (Str × Addr)) (outer : List Env) (base g : Heap) (L L' : Addr) (mg mb : Str → Option Value) (mean : ExcName → Option Value) (news : List (Addr × Obj)) (gens : Array GenState) (drawn : Drawn) (os : OsState) (h' : Heap) (tk : Nat) (WQ : Flow → Shared → Prop) (WE : Value → Shared → Prop),
      Below (ktrTop dp un gd cn cs L a ccd cl outer) base (envX cn cs L a ccd cl :: outer) g → Fr g L' h' (fun y => binds.reverse.lookup y) → (K w.params).In g → News g L' h' news → Top q (looseW q loose) mean mg mb g → dp + D < recursionLimit → un + U < cLine → pre news →
      (∀ h' tk' {m'}, Fr g L' h' m' → News g L' h' news → WQ .next ⟨h', gens, drawn, tk', os⟩) → binds.length ≤ tk → PassesOwn (model PySem.Challenge.pw_kt0081_01 w) ((ktrTop dp un gd cn cs L a ccd cl outer).deeper (envOf qual scope L' f cdv)) (envOf qual scope L' f cdv) WE →
      wpAny (model PySem.Challenge.pw_kt0081_01 w) ((ktrTop dp un gd cn cs L a ccd cl outer).deeper (envOf qual scope L' f cdv)) (execs body (envOf qual scope L' f cdv)) WQ WE ⟨h', gens, drawn, tk, os⟩) : SpecP w f D U args pre (fun _ => .none) := by
  intro dp un gd cn cs a ccd cl outer A₀ base h₀ L m mg mb mean news s Q E B F X N T hk hd hu hp ret
  exact enterQ ho hsrc hcd hbind hloc hco hgen hkf hcell B F X N T hk (Nat.lt_of_le_of_lt (Nat.le_add_right _ _) hd) fun g h' L' tk WQ WE B' F' X' N' T' hr ht hPO => h _ _ _ _ _ _ _ _ _ _ _ _ _ _ _ _ _ _ _ _ _ _ _ _ B' F' X' N' T' hd hu hp (fun h' tk' m' F N => hr (fun F N => ret 0 _ _ F N) F N) ht hPO
theorem enterL {pre : List (Addr × Obj) → Prop} {R : List Value → Prop} (ho : (K w.params).lookup f = some (foOf src name qual dV kV pm cdv)) (hsrc : src = some (params, body, scope)) (hcd : codeIn (K w.params) cdv qual = true)
    (hbind : ∀ s' : Shared, (K w.params).In s'.heap → BindsTo s' (fnOf name qual params body scope dV kV .none pm none cdv .none) ⟨args, []⟩ binds) (hloc : ∀ y ∈ binds, scope.names.lookup y.1 = some .local)
    (hco : scope.isCoroutine = false) (hgen : scope.isGenerator = false) (hkf : scope.kind = .function) (hcell : ∀ x ∈ scope.names, x.2 ≠ .cell)
    (h : ∀ (dp un : Nat) (gd : Option (List Code)) (cn : Str) (cs : Scope) (a : Addr) (ccd : Value) (cl : List (Str × Addr)) (outer : List Env) (base g : Heap) (L L' : Addr) (mg mb : Str → Option Value) (mean : ExcName → Option Value) (news : List (Addr × Obj)) (gens : Array GenState) (drawn : Drawn) (os : OsState) (h' : Heap) (tk : Nat) (WQ : Flow → Shared → Prop) (WE : Value → Shared → Prop),
      Below (ktrTop dp un gd cn cs L a ccd cl outer) base (envX cn cs L a ccd cl :: outer) g → Fr g L' h' (fun y => binds.reverse.lookup y) → (K w.params).In g → News g L' h' news → Top q (looseW q loose) mean mg mb g → dp + D < recursionLimit → un + U < cLine → pre news →
      (∀ (l : Addr) (n : Nat) (vs : List Value) h' tk' {m'}, R vs → Fr g L' h' m' → News g L' h' ((l, listObj vs n) :: news) → (∀ p ∈ news, p.1 < l) → WQ (.ret (.ref l)) ⟨h', gens, drawn, tk', os⟩) → binds.length ≤ tk → PassesOwn (model PySem.Challenge.pw_kt0081_01 w) ((ktrTop dp un gd cn cs L a ccd cl outer).deeper (envOf qual scope L' f cdv)) (envOf qual scope L' f cdv) WE →
      wpAny (model PySem.Challenge.pw_kt0081_01 w) ((ktrTop dp un gd cn cs L a ccd cl outer).deeper (envOf qual scope L' f cdv)) (execs body (envOf qual scope L' f cdv)) WQ WE ⟨h', gens, drawn, tk, os⟩) : SpecL w f D U args pre R := by
  intro dp un gd cn cs a ccd cl outer A₀ base h₀ L m mg mb mean news s Q E B F X N T hk hd hu hp ret
  exact enterQ ho hsrc hcd hbind hloc hco hgen hkf hcell B F X N T hk (Nat.lt_of_le_of_lt (Nat.le_add_right _ _) hd) fun g h' L' tk WQ WE B' F' X' N' T' hr ht hPO => h _ _ _ _ _ _ _ _ _ _ _ _ _ _ _ _ _ _ _ _ _ _ _ _ B' F' X' N' T' hd hu hp (fun l n vs h' tk' m' hR F N hl => hr (fun F N => ret l n vs _ _ hR F N hl) F N) ht hPO
end
theorem retW {R : List Value → Prop} {g : Heap} {L' : Addr} {news : List (Addr × Obj)} {WQ : Flow → Shared → Prop} {gens : Array GenState} {drawn : Drawn} {os : OsState}
    (hret : ∀ (l : Addr) (n : Nat) (vs : List Value) h' tk' {m' : Str → Option Value}, R vs → Fr g L' h' m' → News g L' h' ((l, listObj vs n) :: news) → (∀ p ∈ news, p.1 < l) → WQ (.ret (.ref l)) ⟨h', gens, drawn, tk', os⟩)
    {l : Addr} {n : Nat} {vs : List Value} {h' : Heap} {tk' : Nat} {m' : Str → Option Value} (F : Fr g L' h' m') (N : News g L' h' ((l, listObj vs n) :: news)) (hl : ∀ p ∈ news, p.1 < l) (hR : R vs) : WQ (.ret (.ref l)) ⟨h', gens, drawn, tk', os⟩ := hret _ _ _ _ _ hR F N hl
/-- a ledger's first entries, picked by their places -/
theorem newsPick {h₀ h : Heap} {L : Addr} {want r : List (Addr × Obj)} (all : List (Addr × Obj)) (is : List Nat) (N : News h₀ L h (all ++ r)) (e : is.filterMap (all[·]?) = want) : News h₀ L h (want ++ r) := fun p hp =>
  N p (List.mem_append.mpr ((List.mem_append.mp hp).imp_left fun hw => by
    subst e
    obtain ⟨i, _, hi⟩ := List.mem_filterMap.mp hw
    exact List.mem_of_getElem? hi))
end
section
open PySem PySem.W PySem.Spec PySem.Calls PyProof.Rows PySem.Builtin

theorem loop2 {σ : Type} (g : Nat → σ → Sem (ForInStep σ)) (a b : σ) (h0 : ∀ i, g i a = pure (.yield b)) (h1 : ∀ i, g i b = pure (.done b)) : ∀ l : List Nat, l ≠ [] → forIn l a g = (pure b : Sem σ)
  | [], h => absurd rfl h
  | [x], _ => by rw [List.forIn_cons, h0]; rfl
  | x :: y :: l, _ => by
    rw [List.forIn_cons, h0]
    show forIn (y :: l) b g = _
    rw [List.forIn_cons, h1]; rfl
theorem loopN {σ β : Type} {g : Nat → σ → Sem (ForInStep σ)} {a b : σ} {k : σ → Sem β} {n : Nat} (hn : n ≠ 0) (h0 : ∀ i, g i a = pure (.yield b)) (h1 : ∀ i, g i b = pure (.done b)) :
    (forIn [0 : n] a (fun i r => g i r) >>= k) = k b := by
  rw [Std.Legacy.Range.forIn_eq_forIn_range', loop2 g a b h0 h1 _ (fun e => hn ?_)]
  · rfl
  · have := congrArg List.length e
    rw [List.length_range'] at this
    simpa [Std.Legacy.Range.size] using this
theorem loopZ {σ β : Type} {g : Nat → σ → Sem (ForInStep σ)} {a : σ} {k : σ → Sem β} {n : Nat} (hn : n = 0) : (forIn [0 : n] a (fun i r => g i r) >>= k) = k a := by
  rw [Std.Legacy.Range.forIn_eq_forIn_range', hn]; rfl
theorem encodeNarrow_clean (id : String) (c : _codecs.TextCodec) (errors : Option Str) (self : Value) (s : Str) (h : ∀ x ∈ s.cps.toList, c.bad x = false)
    (hsz : (s.cps.foldl (fun acc y => acc ++ (c.bytesOf y).toArray) #[]).size ≤ sizeLine) :
    _codecs.encodeNarrow id c errors self s = pure (s.cps.foldl (fun acc y => acc ++ (c.bytesOf y).toArray) #[]) := by
  by_cases hn : s.cps.size = 0
  · refine (loopZ (n := s.length) hn).trans ?_
    show pure #[] = _
    rw [Array.eq_empty_of_size_eq_zero hn]; rfl
  · generalize hfo : s.cps.foldl (fun acc y => acc ++ (c.bytesOf y).toArray) #[] = fo at hsz ⊢
    have hx : s.cps[0]? = some (s.cps[0]'(Nat.pos_of_ne_zero hn)) := by simp
    have hbx : (!c.bad (s.cps[0]'(Nat.pos_of_ne_zero hn))) = true := by rw [h _ (Array.mem_toList_iff.mpr (Array.getElem_mem _))]; rfl
    have z0 : ¬ ((#[] : Array UInt8).size > sizeLine) := by rw [sizeLine_eq]; decide
    refine loopN (n := s.length) (b := (0 + s.cps.size, fo, {})) hn (fun i => (if_neg z0).trans ?h0) (fun i => (if_neg (Nat.not_lt.mpr hsz)).trans ?h1)
    case h0 =>
      rw [hx]
      refine (if_pos hbx).trans ?_
      have hf : s.cps.findIdx? c.bad = none := Array.findIdx?_eq_none_iff.mpr fun x hx => h x (Array.mem_toList_iff.mpr hx)
      have hcp : s.cps.extract 0 s.cps.size = s.cps := by simp
      rw [hcp]
      show pure (ForInStep.yield (0 + (s.cps.findIdx? c.bad).getD s.cps.size, (s.cps.extract 0 ((s.cps.findIdx? c.bad).getD s.cps.size)).foldl (fun acc y => acc ++ (c.bytesOf y).toArray) #[], _)) = _
      rw [hf]
      show pure (ForInStep.yield (0 + s.cps.size, (s.cps.extract 0 s.cps.size).foldl (fun acc y => acc ++ (c.bytesOf y).toArray) #[], _)) = _
      rw [hcp, hfo]
    case h1 =>
      have hnone : s.cps[0 + s.cps.size]? = none := by simp
      rw [hnone]
noncomputable def enc (f : Nat → List UInt8) (x : Str) : Array UInt8 := x.cps.foldl (fun acc y => acc ++ (f y).toArray) #[]
theorem foldl_app (f : Nat → List UInt8) : ∀ (l : List Nat) (acc : Array UInt8), (l.foldl (fun acc y => acc ++ (f y).toArray) acc).toList = acc.toList ++ l.flatMap f
  | [], acc => by simp
  | a :: l, acc => by rw [List.foldl_cons, foldl_app f l]; simp
theorem enc_toList (f : Nat → List UInt8) (x : Str) : (enc f x).toList = (L x).flatMap f := by
  unfold enc
  rw [← Array.foldl_toList, foldl_app]
  simp [L]
noncomputable abbrev u8 (x : Str) : Array UInt8 := enc Str.utf8Of x
noncomputable abbrev asc (x : Str) : Array UInt8 := enc (fun c => [c.toUInt8]) x

theorem encode_eq8 (x : Str) (t u : Tok) : «str.encode» ⟨[.str x t, .str (Str.ofString "utf-8") u], []⟩ = ((_codecs.encodeNarrow "str.encode" _codecs.utf8Codec none (.str x t) x >>= fun b => mkBytes b) >>= fun v => ret v) := by kernel_rfl
theorem encode_eqA (x : Str) (t u : Tok) : «str.encode» ⟨[.str x t, .str (Str.ofString "ascii") u], []⟩ = ((_codecs.encodeNarrow "str.encode" _codecs.asciiCodec none (.str x t) x >>= fun b => mkBytes b) >>= fun v => ret v) := by kernel_rfl

theorem wpAny_mkBytes {M : Model} {A : Around} {E : Value → Shared → Prop} {s : Shared} {b : Array UInt8} {Q : Value → Shared → Prop} (h : Q (.bytes b s.toks) { s with toks := s.toks + 1 }) (hx : b.size ≤ sizeLine) : wpAny M A (mkBytes b) Q E s := by
  unfold mkBytes
  rw [if_neg (Nat.not_lt.mpr hx)]
  exact fun _ _ _ => h

theorem meets_encode8 {x : Str} {t u : Tok} (hb : ∀ c ∈ L x, Str.isSurrogate c = false) : Meets («str.encode» ⟨[.str x t, .str (Str.ofString "utf-8") u], []⟩) (fun _ R s => (u8 x).size ≤ sizeLine ∧ R (.ok (.ret (.bytes (u8 x) s.toks))) { s with toks := s.toks + 1 }) := by
  refine .of_wp fun prog w A R s hS => ?_
  obtain ⟨hsz, h⟩ := hS
  rw [encode_eq8, encodeNarrow_clean _ _codecs.utf8Codec _ _ x hb hsz]
  exact wpAny_bind (wpAny_bind (wpAny_pure (wpAny_mkBytes (wpAny_pure ⟨_, rfl, h⟩) hsz)))
theorem meets_encodeA {x : Str} {t u : Tok} (hb : ∀ c ∈ L x, c < 128) : Meets («str.encode» ⟨[.str x t, .str (Str.ofString "ascii") u], []⟩) (fun _ R s => (asc x).size ≤ sizeLine ∧ R (.ok (.ret (.bytes (asc x) s.toks))) { s with toks := s.toks + 1 }) := by
  refine .of_wp fun prog w A R s hS => ?_
  obtain ⟨hsz, h⟩ := hS
  rw [encode_eqA, encodeNarrow_clean _ _codecs.asciiCodec _ _ x (fun c hc => by show decide (c ≥ 128) = false; have := hb c hc; simp; omega) hsz]
  exact wpAny_bind (wpAny_bind (wpAny_pure (wpAny_mkBytes (wpAny_pure ⟨_, rfl, h⟩) hsz)))

section
variable {prog : Program} {w : World} {A : Around} {E : Value → Shared → Prop} {s : Shared} {x : Str} {t u : Tok} {Q : Value → Shared → Prop}
theorem call_encode8 (hb : ∀ c ∈ L x, Str.isSurrogate c = false) (hsz : (u8 x).size ≤ 16777216) (h : Q (.bytes (u8 x) s.toks) { s with toks := s.toks + 1 }) :
    wpAny (model prog w) A (call (.builtin "str.encode") [.str x t, .str (Str.ofString "utf-8") u]) Q E s :=
  call_meets F.slot_str_encode (typeIs_str _ _ _) F.entry_str_encode (F.args_str_encode_2 _ _) (meets_encode8 hb) ⟨by rw [sizeLine_eq]; exact hsz, h⟩
theorem call_encodeA (hb : ∀ c ∈ L x, c < 128) (hsz : (asc x).size ≤ 16777216) (h : Q (.bytes (asc x) s.toks) { s with toks := s.toks + 1 }) :
    wpAny (model prog w) A (call (.builtin "str.encode") [.str x t, .str (Str.ofString "ascii") u]) Q E s :=
  call_meets F.slot_str_encode (typeIs_str _ _ _) F.entry_str_encode (F.args_str_encode_2 _ _) (meets_encodeA hb) ⟨by rw [sizeLine_eq]; exact hsz, h⟩
theorem meth_encode {M : Model} {pl : Sem Bool} {Q : Value × List Value → Shared → Prop} (h : Q (.builtin "str.encode", [.str x t]) s) : wpAny M A (getMethod (.str x t) "encode" pl) Q E s := by
  with_reducible exact GM.of (.str x t) (typeIs_str _ _ _) F.slot_str_encode F.type_str_encode GM.noRef h
end
end
section
open PySem PySem.W PySem.Spec PySem.Calls PyProof.Rows PySem.Builtin

/-- a text of the codes of bytes -/
noncomputable def txt (b : Array UInt8) : Str := ⟨b.map (·.toNat)⟩
theorem L_txt (b : Array UInt8) : L (txt b) = b.toList.map (·.toNat) := by simp [L, txt]

noncomputable abbrev DSt := Nat × Array Nat × _codecs.Faults
theorem ascii_loop {b : Array UInt8} (hsz : b.size ≤ sizeLine) {body : Nat → DSt → Sem (ForInStep DSt)} {β : Type} {g : DSt → Sem β} {st : _codecs.Faults}
    (hbody : ∀ i (r : DSt), r.1 < b.size → r.2.1.size ≤ sizeLine → body i r = pure (ForInStep.yield ((r.1 + 1, r.2.1 ++ [(b.getD r.1 0).toNat].toArray, r.2.2) : DSt))) :
    (forIn [0 : b.size] ((0, #[], st) : DSt) (fun i r => body i r) >>= g) = g (b.size, (txt b).cps, st) := by
  have key : ∀ (n p : Nat), p + n = b.size → ∀ k, (forIn (List.range' k n) ((p, (b.extract 0 p).map (·.toNat), st) : DSt) (fun i r => body i r) : Sem DSt) = pure ((b.size, (txt b).cps, st) : DSt) := by
    intro n
    induction n with
    | zero =>
      intro p hp k
      obtain rfl : p = b.size := hp
      show (pure _ : Sem DSt) = pure _
      rw [show b.extract 0 _ = b from Array.extract_size]; rfl
    | succ n ih =>
      intro p hp k
      have hlt : p < b.size := hp ▸ Nat.lt_add_of_pos_right (Nat.succ_pos n)
      have e : ((b.extract 0 p).map (·.toNat) ++ [(b.getD p 0).toNat].toArray : Array Nat) = (b.extract 0 (p + 1)).map (·.toNat) := by
        rw [Array.extract_succ_right (Nat.zero_lt_succ p) hlt, Array.map_push, Array.getD, dif_pos hlt]; rfl
      rw [List.range'_succ, List.forIn_cons, hbody k _ hlt (by rw [Array.size_map]; exact Nat.le_trans Array.size_extract_le (Nat.le_trans (Nat.le_of_lt hlt) hsz))]
      show forIn (List.range' (k + 1) n) ((p + 1, ((b.extract 0 p).map (·.toNat) ++ [(b.getD p 0).toNat].toArray : Array Nat), st) : DSt) (fun i r => body i r) = _
      rw [e]
      exact ih (p + 1) ((Nat.add_right_comm p 1 n).trans hp) (k + 1)
  rw [Std.Legacy.Range.forIn_eq_forIn_range']
  have := key b.size 0 (Nat.zero_add _) 0
  rw [Array.extract_zero, Array.map_empty] at this
  rw [show (Std.Legacy.Range.size [0 : b.size]) = b.size by simp [Std.Legacy.Range.size]]
  exact (congrArg (· >>= g) this).trans rfl
theorem ascii_run (id : String) (b : Array UInt8) (hb : ∀ c ∈ b.toList, c.toNat < 128) (hsz : b.size ≤ sizeLine) : _codecs.runDecoder id _codecs.asciiDecoder none true b 0 [] = pure ((txt b).cps, b.size) := by
  refine ascii_loop hsz fun i r h1 h2 => (if_neg (Nat.not_lt.mpr h2)).trans ((if_neg (Nat.not_le.mpr h1)).trans ?_)
  have hf : _codecs.asciiDecoder.find true b r.1 = .text [(b.getD r.1 0).toNat] (r.1 + 1) := by
    show (if (b.getD r.1 0).toNat < 128 then _ else _) = _
    rw [if_pos (by rw [Array.getD, dif_pos h1]; exact hb _ (Array.mem_toList_iff.mpr (Array.getElem_mem _)))]; rfl
  rw [hf]
section
variable {b : Array UInt8} {c : UInt8} {cs : List UInt8} {t u : Tok}
theorem road_asc {id : String} : _codecs.decodeRoad id b (PySem.Str.ofString "ascii") none [] = (_codecs.runDecoder id _codecs.asciiDecoder none true b 0 [] >>= fun r => mkStr ⟨r.1⟩) := by kernel_rfl
theorem meets_text_asc {t1 t2 : Tok} {d : PySem.Str} (hb : ∀ c ∈ b.toList, c.toNat < 128) (hsz : b.size ≤ sizeLine) :
    Meets («_codecs.decode.text» ⟨[.bytes b t, .str (PySem.Str.ofString "ascii") t1, .none, .str d t2], []⟩) (fun _ R s => R (.ok (.ret (.str (txt b) s.toks))) { s with toks := s.toks + 1 }) := by
  refine .of_wp fun prog w A R s h => ?_
  show wpAny _ _ (Bytes.bytesLike _ (.bytes b t) >>= fun r => _) _ _ s
  refine wpAny_bind (wpAny_of_eq KBd.like_eq ?_)
  refine wpAny_bind (wpAny_of_eq KBd.held_eq ?_)
  show wpAny _ _ (_codecs.decodeRoad _ b (PySem.Str.ofString "ascii") none [] >>= fun v => _) _ _ s
  rw [road_asc, ascii_run _ _ hb hsz]
  refine wpAny_bind (wpAny_bind (wpAny_pure ?_))
  exact wpAny_mkStr (wpAny_pure ⟨_, rfl, h⟩) (by show (b.map (·.toNat)).size ≤ _; simpa using hsz)
theorem entry_asc : «bytes.decode» ⟨[.bytes (c :: cs).toArray t, .str (Str.ofString "ascii") u], []⟩ = (mkStr (PySem.Str.ofString "utf-8") >>= fun _ => mkStr (Str.ofString "ascii") >>= fun e => mkStr (PySem.Str.ofString "bytes.decode") >>= fun d =>
    call (.builtin "_codecs.decode.text") [.bytes (c :: cs).toArray t, e, .none, d] >>= fun v => ret v) := by kernel_rfl
theorem entry_asc0 : «bytes.decode» ⟨[.bytes #[] t, .str (Str.ofString "ascii") u], []⟩ = (rule "bytes.decode.empty" >>= fun _ => retStr Str.empty) := by kernel_rfl
theorem args_dec2 (a b : Value) : argsOk "bytes.decode" ⟨[a, b], []⟩ := by
  unfold argsOk; rw [signature?_of (id := "bytes.decode") (n := ['e', 'd', 'o', 'c', 'e', 'd']) (o := ['s', 'e', 't', 'y', 'b']) (by kernel_rfl) FB.owner_bytes]; kernel_rfl
theorem meets_dec_asc (hb : ∀ c ∈ b.toList, c.toNat < 128) (hsz : b.size ≤ sizeLine) :
    Meets («bytes.decode» ⟨[.bytes b t, .str (Str.ofString "ascii") u], []⟩) (fun _ R s => ∀ t' k, R (.ok (.ret (.str (txt b) t'))) { s with toks := k }) := by
  refine .of_wp fun prog w A R s h => ?_
  obtain ⟨l⟩ := b
  cases l with
  | nil =>
    rw [entry_asc0]
    refine wpAny_bind (wpAny_rule ?_)
    have e : txt (Array.mk []) = Str.empty := by apply L_inj; rw [L_txt]; rfl
    rw [e] at h
    exact wpAny_bind (wpAny_mkStr (wpAny_pure ⟨_, rfl, h _ _⟩) (by decide))
  | cons c cs =>
    rw [show (Array.mk (c :: cs)) = (c :: cs).toArray from rfl, entry_asc]
    refine wpAny_bind (wpAny_mkStr ?_ (by decide))
    refine wpAny_bind (wpAny_mkStr ?_ (by decide))
    refine wpAny_bind (wpAny_mkStr ?_ (by decide))
    exact wpAny_bind (call_function_meets KBd.kind_text KBd.plain_text KBd.entry_text (KBd.args_text _ _ _ _) (meets_text_asc hb hsz) (wpAny_pure ⟨_, rfl, h _ _⟩))
end

/-- a bytes' method that maps its octets -/
theorem slot_bytes_upper : Slot "bytes" "upper" "bytes.upper" :=
  .of (owner := "bytes") (n := "upper") (by rw [typeLookup_type, builtinLookup_eq_fast]; kernel_rfl) (by decide +kernel) (by decide +kernel) (by decide +kernel)
    (by first | exact .inl (by decide +kernel) | exact .inr (by decide +kernel)) (by rw [isSubtype_type]; kernel_rfl)
theorem type_bytes_upper : typeOf (.builtin "bytes.upper") = pure (.type "method_descriptor") := by show builtinType _ = _; rw [builtinType_eq_fast]; kernel_rfl
theorem entry_bytes_upper : entryFor table "bytes.upper" = some Builtin.«bytes.upper» := entryFor_of_tree (by kernel_rfl)
theorem args_bytes_upper_1 (a : Value) : argsOk "bytes.upper" ⟨[a], []⟩ := by
  unfold argsOk; rw [signature?_of (id := "bytes.upper") (n := ['r', 'e', 'p', 'p', 'u']) (o := ['s', 'e', 't', 'y', 'b']) (by kernel_rfl) FB.owner_bytes]; kernel_rfl
theorem slot_bytes_translate : Slot "bytes" "translate" "bytes.translate" :=
  .of (owner := "bytes") (n := "translate") (by rw [typeLookup_type, builtinLookup_eq_fast]; kernel_rfl) (by decide +kernel) (by decide +kernel) (by decide +kernel)
    (by first | exact .inl (by decide +kernel) | exact .inr (by decide +kernel)) (by rw [isSubtype_type]; kernel_rfl)
theorem type_bytes_translate : typeOf (.builtin "bytes.translate") = pure (.type "method_descriptor") := by show builtinType _ = _; rw [builtinType_eq_fast]; kernel_rfl
theorem entry_bytes_translate : entryFor table "bytes.translate" = some Builtin.«bytes.translate» := entryFor_of_tree (by kernel_rfl)
theorem args_bytes_translate_2 (a b : Value) : argsOk "bytes.translate" ⟨[a, b], []⟩ := by
  unfold argsOk; rw [signature?_of (id := "bytes.translate") (n := ['e', 't', 'a', 'l', 's', 'n', 'a', 'r', 't']) (o := ['s', 'e', 't', 'y', 'b']) (by kernel_rfl) FB.owner_bytes]; kernel_rfl
section
variable {M : Model} {A : Around} {E : Value → Shared → Prop} {s : Shared} {b : Array UInt8} {t : Tok} {pl : Sem Bool} {Q : Value × List Value → Shared → Prop}
theorem meth_hex (h : Q (.builtin "bytes.hex", [.bytes b t]) s) : wpAny M A (getMethod (.bytes b t) "hex" pl) Q E s := by
  with_reducible exact KBd.method_of (.bytes b t) (typeIs_bytes _ _ _) FB.slot_bytes_hex FB.type_bytes_hex KBd.noRef h
theorem meth_upper (h : Q (.builtin "bytes.upper", [.bytes b t]) s) : wpAny M A (getMethod (.bytes b t) "upper" pl) Q E s := by
  with_reducible exact KBd.method_of (.bytes b t) (typeIs_bytes _ _ _) slot_bytes_upper type_bytes_upper KBd.noRef h
theorem meth_translate (h : Q (.builtin "bytes.translate", [.bytes b t]) s) : wpAny M A (getMethod (.bytes b t) "translate" pl) Q E s := by
  with_reducible exact KBd.method_of (.bytes b t) (typeIs_bytes _ _ _) slot_bytes_translate type_bytes_translate KBd.noRef h
end

noncomputable def hexes (b : Array UInt8) : Array Nat := b.toList.zipIdx.foldl (fun (out : Array Nat) (p : UInt8 × Nat) => (out.push (Bytes.hexDigit (p.1.toNat / 16))).push (Bytes.hexDigit (p.1.toNat % 16))) #[]
theorem hex_eq (b : Array UInt8) (t : Tok) : «bytes.hex» ⟨[.bytes b t], []⟩ = retStr ⟨hexes b⟩ := by kernel_rfl
theorem upper_eq (b : Array UInt8) (t : Tok) : «bytes.upper» ⟨[.bytes b t], []⟩ = (mkBytes (b.toList.map Bytes.toUpper).toArray >>= fun v => ret v) := by kernel_rfl
theorem hexes_toList (b : Array UInt8) : (hexes b).toList = b.toList.flatMap fun c => [Bytes.hexDigit (c.toNat / 16), Bytes.hexDigit (c.toNat % 16)] := by
  have key : ∀ (l : List UInt8) (k : Nat) (acc : Array Nat), ((l.zipIdx k).foldl (fun (out : Array Nat) (p : UInt8 × Nat) => (out.push (Bytes.hexDigit (p.1.toNat / 16))).push (Bytes.hexDigit (p.1.toNat % 16))) acc).toList = acc.toList ++ l.flatMap fun c => [Bytes.hexDigit (c.toNat / 16), Bytes.hexDigit (c.toNat % 16)] := by
    intro l
    induction l with
    | nil => intro k acc; simp
    | cons a l ih => intro k acc; rw [List.zipIdx_cons, List.foldl_cons, ih]; simp
  have := key b.toList 0 #[]
  simpa [hexes] using this
section
variable {prog : Program} {w : World} {A : Around} {E : Value → Shared → Prop} {s : Shared} {b : Array UInt8} {t u : Tok} {Q : Value → Shared → Prop}
theorem call_hex (hsz : (hexes b).size ≤ 16777216) (h : Q (.str ⟨hexes b⟩ s.toks) { s with toks := s.toks + 1 }) : wpAny (model prog w) A (call (.builtin "bytes.hex") [.bytes b t]) Q E s := by
  refine call_meets FB.slot_bytes_hex (typeIs_bytes _ _ _) FB.entry_bytes_hex (FB.args_bytes_hex_1 _) (S := fun _ R s => (hexes b).size ≤ sizeLine ∧ R (.ok (.ret (.str ⟨hexes b⟩ s.toks))) { s with toks := s.toks + 1 }) (.of_wp fun prog w A R s hS => ?_) ⟨by rw [sizeLine_eq]; exact hsz, h⟩
  rw [hex_eq]
  exact wpAny_bind (wpAny_mkStr (wpAny_pure ⟨_, rfl, hS.2⟩) hS.1)
theorem call_upper (hsz : b.size ≤ 16777216) (h : Q (.bytes (b.toList.map Bytes.toUpper).toArray s.toks) { s with toks := s.toks + 1 }) : wpAny (model prog w) A (call (.builtin "bytes.upper") [.bytes b t]) Q E s := by
  refine call_meets slot_bytes_upper (typeIs_bytes _ _ _) entry_bytes_upper (args_bytes_upper_1 _) (S := fun _ R s => b.size ≤ sizeLine ∧ R (.ok (.ret (.bytes (b.toList.map Bytes.toUpper).toArray s.toks))) { s with toks := s.toks + 1 }) (.of_wp fun prog w A R s hS => ?_) ⟨by rw [sizeLine_eq]; exact hsz, h⟩
  rw [upper_eq]
  exact wpAny_bind (wpAny_mkBytes (wpAny_pure ⟨_, rfl, hS.2⟩) (by simpa using hS.1))
theorem call_decodeA (hb : ∀ c ∈ b.toList, c.toNat < 128) (hsz : b.size ≤ 16777216) (h : ∀ t' k, Q (.str (txt b) t') { s with toks := k }) : wpAny (model prog w) A (call (.builtin "bytes.decode") [.bytes b t, .str (Str.ofString "ascii") u]) Q E s :=
  call_meets FB.slot_bytes_decode (typeIs_bytes _ _ _) FB.entry_bytes_decode (args_dec2 _ _) (meets_dec_asc hb (by rw [sizeLine_eq]; exact hsz)) h
end

noncomputable def trans (tb b : Array UInt8) : Array UInt8 := b.map fun c => tb.getD c.toNat c
theorem filter_all (b : Array UInt8) : b.filter (fun x => !(#[] : Array UInt8).contains x) = b := by simp
theorem meets_translate {b tb : Array UInt8} {t u : Tok} (h256 : tb.size = 256) : Meets («bytes.translate» ⟨[.bytes b t, .bytes tb u], []⟩) (fun _ R s => b.size ≤ sizeLine ∧ ∀ t' k, R (.ok (.ret (.bytes (trans tb b) t'))) { s with toks := k }) := by
  refine .of_wp fun prog w A R s hS => ?_
  obtain ⟨hsz, h⟩ := hS
  unfold Builtin.«bytes.translate» Bytes.translateM
  have hne : (Value.bytes tb u == Value.none) = false := rfl
  have h2 : ¬ (0 + 1 + 0 > 2) := by decide
  have h3 : (([] : List (Str × Value)).any fun x => x.1 != Str.ofString "delete") = false := rfl
  simp only [List.length_cons, List.length_nil, hne, h2, h3, if_false, Bool.false_eq_true]
  refine wpAny_bind (wpAny_of_eq KBd.like_eq ?_)
  rw [show (tb.size != 256) = false by rw [h256]; rfl, if_neg Bool.false_ne_true]
  refine wpAny_bind (wpAny_pure ?_)
  show wpAny _ _ (if ((((b.filter (fun x => !(#[] : Array UInt8).contains x)).map fun c => tb.getD c.toNat c) == b) = true) then _ else _) _ _ s
  rw [filter_all]
  cases hc : ((b.map fun c => tb.getD c.toNat c) == b) with
  | true =>
    rw [if_pos rfl]
    have e : trans tb b = b := eq_of_beq hc
    rw [e] at h
    refine wpAny_bind (wpAny_rule ?_)
    exact wpAny_bind (wpAny_pure (wpAny_pure ⟨_, rfl, h _ _⟩))
  | false =>
    rw [if_neg Bool.false_ne_true]
    exact wpAny_bind (wpAny_mkBytes (wpAny_pure ⟨_, rfl, h _ _⟩) (by simpa using hsz))
noncomputable def mkt (frm to : Array UInt8) : Array UInt8 := (frm.toList.zip to.toList).foldl (fun t (p : UInt8 × UInt8) => t.setIfInBounds p.1.toNat p.2) ((Array.range 256).map (·.toUInt8))
theorem mkt_size (frm to : Array UInt8) : (mkt frm to).size = 256 := by
  have key : ∀ (l : List (UInt8 × UInt8)) (t : Array UInt8), (l.foldl (fun t (p : UInt8 × UInt8) => t.setIfInBounds p.1.toNat p.2) t).size = t.size := by
    intro l
    induction l with
    | nil => intro t; rfl
    | cons a l ih => intro t; rw [List.foldl_cons, ih]; simp
  unfold mkt
  rw [key]; simp
theorem entry_maketrans : entryFor table "bytes.maketrans" = some Builtin.«bytes.maketrans» := entryFor_of_tree (by kernel_rfl)
theorem meets_maketrans {frm to : Array UInt8} {t u : Tok} (hs : frm.size = to.size) : Meets («bytes.maketrans» ⟨[.bytes frm t, .bytes to u], []⟩) (fun _ R s => R (.ok (.ret (.bytes (mkt frm to) s.toks))) { s with toks := s.toks + 1 }) := by
  refine .of_wp fun prog w A R s h => ?_
  show wpAny _ _ (Bytes.bytesLike "bytes.maketrans" (.bytes frm t) >>= fun r => _) _ _ s
  refine wpAny_bind (wpAny_of_eq KBd.like_eq ?_)
  refine wpAny_bind (wpAny_of_eq KBd.like_eq ?_)
  rw [show (frm.size != to.size) = false by rw [hs]; simp]
  exact wpAny_bind (wpAny_mkBytes (wpAny_pure ⟨_, rfl, h⟩) (by show (mkt frm to).size ≤ _; rw [mkt_size, sizeLine_eq]; decide))
section
variable {prog : Program} {w : World} {A : Around} {E : Value → Shared → Prop} {s : Shared} {b tb : Array UInt8} {t u : Tok} {Q : Value → Shared → Prop}
theorem call_translate (h256 : tb.size = 256) (hsz : b.size ≤ 16777216) (h : ∀ t' k, Q (.bytes (trans tb b) t') { s with toks := k }) : wpAny (model prog w) A (call (.builtin "bytes.translate") [.bytes b t, .bytes tb u]) Q E s :=
  call_meets slot_bytes_translate (typeIs_bytes _ _ _) entry_bytes_translate (args_bytes_translate_2 _ _) (meets_translate h256) ⟨by rw [sizeLine_eq]; exact hsz, h⟩
theorem call_maketrans {frm to : Array UInt8} (hs : frm.size = to.size) (h : Q (.bytes (mkt frm to) s.toks) { s with toks := s.toks + 1 }) : wpAny (model prog w) A (call (.builtin "bytes.maketrans") [.bytes frm t, .bytes to u]) Q E s := by
  refine wpAny_call (codeAny_call_builtin (by decide +kernel) entry_maketrans ?_)
  have hfin := meets_maketrans (t := t) (u := u) hs prog w A (wants Q E) s h
  rw [show checkBuiltinCall "bytes.maketrans" ⟨[.bytes frm t, .bytes to u], []⟩ = pure () from by kernel_rfl]
  exact wpAny_pure hfin
end

noncomputable def NoSur (x : Str) : Prop := ∀ c ∈ L x, Str.isSurrogate c = false
noncomputable def Asc (x : Str) : Prop := ∀ c ∈ L x, c < 128
theorem utf8Of_len (c : Nat) : (Str.utf8Of c).length ≤ 4 := by
  unfold Str.utf8Of
  repeat' split
  all_goals simp
theorem flatMap_len {α : Type} (f : Nat → List α) (k : Nat) (h : ∀ c, (f c).length ≤ k) (l : List Nat) : (l.flatMap f).length ≤ k * l.length := by
  induction l with
  | nil => simp
  | cons a l ih => rw [List.flatMap_cons, List.length_append, List.length_cons, Nat.mul_add]; have := h a; omega
theorem u8_size (x : Str) : (u8 x).size ≤ 4 * x.length := by
  rw [← Array.length_toList, enc_toList, ← L_length]
  exact flatMap_len _ 4 utf8Of_len _
theorem asc_size (x : Str) : (asc x).size = x.length := by
  rw [← Array.length_toList, enc_toList, ← L_length]
  induction L x with
  | nil => rfl
  | cons a l ih => rw [List.flatMap_cons, List.length_append, ih, List.length_cons]; simp; lia
theorem hexes_size (b : Array UInt8) : (hexes b).size = 2 * b.size := by
  rw [← Array.length_toList, hexes_toList, ← Array.length_toList]
  induction b.toList with
  | nil => rfl
  | cons a l ih => rw [List.flatMap_cons, List.length_append, ih, List.length_cons]; simp; lia
theorem trans_size (tb b : Array UInt8) : (trans tb b).size = b.size := by simp [trans]
end
section
open PySem PySem.W PySem.Spec PySem.Calls PyProof.Rows
example : (fun (_ : PySem.W.OpenLaw) (_ : Params → Frag) => True) PySem.Challenge.rw_kt0081_01 K := by k_fill; trivial
end
section
open PySem PySem.W
example {M : Model} {A : Around} {v : Value} {Q : Bool → Shared → Prop} {E : Value → Shared → Prop} {s : Shared} (h : wpAny M A (truthy v) Q E s) : wpAny M A (truthy v) Q E s := by first | (walk1; fail) | exact h
end
section
open PySem PySem.W PySem.Spec PySem.Calls PyProof.Rows
set_option maxHeartbeats 0
local macro_rules | `(tactic| walk_at "exec If") => `(tactic| refine of_hold ?_)
noncomputable def t_cdata : Tbl := [(38, [38, 97, 109, 112, 59]), (60, [38, 108, 116, 59]), (62, [38, 103, 116, 59])]
theorem sp_escape_cdata (w : World) (x : Str) (tx : Tok) (hx : x.length ≤ 100000) : SpecV w 819 1 8 [.str x tx] (fun t => .str (Esc t_cdata x) t) := by
  suffices k : SpecV w 819 1 8 [.str (Esc [] x) tx] (fun t => .str (Esc t_cdata x) t) by rw [Esc_nil] at k; exact k
  refine' enterP (binds := [("text", .str (Esc [] x) tx)]) ?k6 ?ks ?k7 ?k9 ?kB ?c2 ?c3 ?c4 ?c5 ?_
  case k6 => k_dflt k_is
  case ks => exact rfl
  case k7 => k_dflt k_is
  case k9 => intro s X; exact BindsTo.of_eq rfl
  case c5 => decide
  case kB => exact locs rfl
  case c2 => exact rfl
  case c3 => exact rfl
  case c4 => exact rfl
  intro dp un gd cn cs a ccd cl outer base g' L L' mg mb mean news gens drawn os h' tk' WQ WE B' F' X' N' T' hd hu hpre hret htk' hPO
  show (let zV := _; let zA := _; wpAny _ zA (execs _ zV) _ _ _)
  intro zV zA
  (k_steps; repeat' (((with_reducible refine hold_in ?_); ((with_reducible rename Fr _ _ _ _ => kF); (with_reducible rename News _ _ _ _ => kN); k_dflt (refine' if_esc kF kN (by exact rfl) (by first | assumption | exact Nat.le_add_left _ _) (by assumption) (by decide +kernel) (by decide +kernel) (by decide +kernel) (by decide +kernel) (by decide +kernel) (by exact rfl) (by exact rfl) (by decide +kernel) (by exact rfl) ?_); clear kF kN; intro h' tk' t' ht' F' N'; (try dsimp only))); (all_goals (try k_steps))))
  all_goals (refine hret _ _ _ (by assumption) (by assumption))
noncomputable def t_attrib : Tbl := [(38, [38, 97, 109, 112, 59]), (60, [38, 108, 116, 59]), (62, [38, 103, 116, 59]), (34, [38, 113, 117, 111, 116, 59]), (13, [38, 35, 49, 51, 59]), (10, [38, 35, 49, 48, 59]), (9, [38, 35, 48, 57, 59])]
theorem sp_escape_attrib (w : World) (x : Str) (tx : Tok) (hx : x.length ≤ 100000) : SpecV w 826 1 8 [.str x tx] (fun t => .str (Esc t_attrib x) t) := by
  suffices k : SpecV w 826 1 8 [.str (Esc [] x) tx] (fun t => .str (Esc t_attrib x) t) by rw [Esc_nil] at k; exact k
  refine' enterP (binds := [("text", .str (Esc [] x) tx)]) ?k6 ?ks ?k7 ?k9 ?kB ?c2 ?c3 ?c4 ?c5 ?_
  case k6 => k_dflt k_is
  case ks => exact rfl
  case k7 => k_dflt k_is
  case k9 => intro s X; exact BindsTo.of_eq rfl
  case c5 => decide
  case kB => exact locs rfl
  case c2 => exact rfl
  case c3 => exact rfl
  case c4 => exact rfl
  intro dp un gd cn cs a ccd cl outer base g' L L' mg mb mean news gens drawn os h' tk' WQ WE B' F' X' N' T' hd hu hpre hret htk' hPO
  show (let zV := _; let zA := _; wpAny _ zA (execs _ zV) _ _ _)
  intro zV zA
  (k_steps; repeat' (((with_reducible refine hold_in ?_); ((with_reducible rename Fr _ _ _ _ => kF); (with_reducible rename News _ _ _ _ => kN); k_dflt (refine' if_esc kF kN (by exact rfl) (by first | assumption | exact Nat.le_add_left _ _) (by assumption) (by decide +kernel) (by decide +kernel) (by decide +kernel) (by decide +kernel) (by decide +kernel) (by exact rfl) (by exact rfl) (by decide +kernel) (by exact rfl) ?_); clear kF kN; intro h' tk' t' ht' F' N'; (try dsimp only))); (all_goals (try k_steps))))
  all_goals (refine hret _ _ _ (by assumption) (by assumption))
noncomputable def t_attrib_html : Tbl := [(38, [38, 97, 109, 112, 59]), (62, [38, 103, 116, 59]), (34, [38, 113, 117, 111, 116, 59])]
theorem sp_escape_attrib_html (w : World) (x : Str) (tx : Tok) (hx : x.length ≤ 100000) : SpecV w 833 1 8 [.str x tx] (fun t => .str (Esc t_attrib_html x) t) := by
  suffices k : SpecV w 833 1 8 [.str (Esc [] x) tx] (fun t => .str (Esc t_attrib_html x) t) by rw [Esc_nil] at k; exact k
  refine' enterP (binds := [("text", .str (Esc [] x) tx)]) ?k6 ?ks ?k7 ?k9 ?kB ?c2 ?c3 ?c4 ?c5 ?_
  case k6 => k_dflt k_is
  case ks => exact rfl
  case k7 => k_dflt k_is
  case k9 => intro s X; exact BindsTo.of_eq rfl
  case c5 => decide
  case kB => exact locs rfl
  case c2 => exact rfl
  case c3 => exact rfl
  case c4 => exact rfl
  intro dp un gd cn cs a ccd cl outer base g' L L' mg mb mean news gens drawn os h' tk' WQ WE B' F' X' N' T' hd hu hpre hret htk' hPO
  show (let zV := _; let zA := _; wpAny _ zA (execs _ zV) _ _ _)
  intro zV zA
  (k_steps; repeat' (((with_reducible refine hold_in ?_); ((with_reducible rename Fr _ _ _ _ => kF); (with_reducible rename News _ _ _ _ => kN); k_dflt (refine' if_esc kF kN (by exact rfl) (by first | assumption | exact Nat.le_add_left _ _) (by assumption) (by decide +kernel) (by decide +kernel) (by decide +kernel) (by decide +kernel) (by decide +kernel) (by exact rfl) (by exact rfl) (by decide +kernel) (by exact rfl) ?_); clear kF kN; intro h' tk' t' ht' F' N'; (try dsimp only))); (all_goals (try k_steps))))
  all_goals (refine hret _ _ _ (by assumption) (by assumption))
noncomputable def t_cdata_c14n : Tbl := [(38, [38, 97, 109, 112, 59]), (60, [38, 108, 116, 59]), (62, [38, 103, 116, 59]), (13, [38, 35, 120, 68, 59])]
theorem sp_escape_cdata_c14n (w : World) (x : Str) (tx : Tok) (hx : x.length ≤ 100000) : SpecV w 840 1 8 [.str x tx] (fun t => .str (Esc t_cdata_c14n x) t) := by
  suffices k : SpecV w 840 1 8 [.str (Esc [] x) tx] (fun t => .str (Esc t_cdata_c14n x) t) by rw [Esc_nil] at k; exact k
  refine' enterP (binds := [("text", .str (Esc [] x) tx)]) ?k6 ?ks ?k7 ?k9 ?kB ?c2 ?c3 ?c4 ?c5 ?_
  case k6 => k_dflt k_is
  case ks => exact rfl
  case k7 => k_dflt k_is
  case k9 => intro s X; exact BindsTo.of_eq rfl
  case c5 => decide
  case kB => exact locs rfl
  case c2 => exact rfl
  case c3 => exact rfl
  case c4 => exact rfl
  intro dp un gd cn cs a ccd cl outer base g' L L' mg mb mean news gens drawn os h' tk' WQ WE B' F' X' N' T' hd hu hpre hret htk' hPO
  show (let zV := _; let zA := _; wpAny _ zA (execs _ zV) _ _ _)
  intro zV zA
  (k_steps; repeat' (((with_reducible refine hold_in ?_); ((with_reducible rename Fr _ _ _ _ => kF); (with_reducible rename News _ _ _ _ => kN); k_dflt (refine' if_esc kF kN (by exact rfl) (by first | assumption | exact Nat.le_add_left _ _) (by assumption) (by decide +kernel) (by decide +kernel) (by decide +kernel) (by decide +kernel) (by decide +kernel) (by exact rfl) (by exact rfl) (by decide +kernel) (by exact rfl) ?_); clear kF kN; intro h' tk' t' ht' F' N'; (try dsimp only))); (all_goals (try k_steps))))
  all_goals (refine hret _ _ _ (by assumption) (by assumption))
noncomputable def t_attrib_c14n : Tbl := [(38, [38, 97, 109, 112, 59]), (60, [38, 108, 116, 59]), (34, [38, 113, 117, 111, 116, 59]), (9, [38, 35, 120, 57, 59]), (10, [38, 35, 120, 65, 59]), (13, [38, 35, 120, 68, 59])]
theorem sp_escape_attrib_c14n (w : World) (x : Str) (tx : Tok) (hx : x.length ≤ 100000) : SpecV w 847 1 8 [.str x tx] (fun t => .str (Esc t_attrib_c14n x) t) := by
  suffices k : SpecV w 847 1 8 [.str (Esc [] x) tx] (fun t => .str (Esc t_attrib_c14n x) t) by rw [Esc_nil] at k; exact k
  refine' enterP (binds := [("text", .str (Esc [] x) tx)]) ?k6 ?ks ?k7 ?k9 ?kB ?c2 ?c3 ?c4 ?c5 ?_
  case k6 => k_dflt k_is
  case ks => exact rfl
  case k7 => k_dflt k_is
  case k9 => intro s X; exact BindsTo.of_eq rfl
  case c5 => decide
  case kB => exact locs rfl
  case c2 => exact rfl
  case c3 => exact rfl
  case c4 => exact rfl
  intro dp un gd cn cs a ccd cl outer base g' L L' mg mb mean news gens drawn os h' tk' WQ WE B' F' X' N' T' hd hu hpre hret htk' hPO
  show (let zV := _; let zA := _; wpAny _ zA (execs _ zV) _ _ _)
  intro zV zA
  (k_steps; repeat' (((with_reducible refine hold_in ?_); ((with_reducible rename Fr _ _ _ _ => kF); (with_reducible rename News _ _ _ _ => kN); k_dflt (refine' if_esc kF kN (by exact rfl) (by first | assumption | exact Nat.le_add_left _ _) (by assumption) (by decide +kernel) (by decide +kernel) (by decide +kernel) (by decide +kernel) (by decide +kernel) (by exact rfl) (by exact rfl) (by decide +kernel) (by exact rfl) ?_); clear kF kN; intro h' tk' t' ht' F' N'; (try dsimp only))); (all_goals (try k_steps))))
  all_goals (refine hret _ _ _ (by assumption) (by assumption))
end
section
open PySem PySem.W PySem.Spec PySem.Calls PyProof.Rows PyProof.Rows.LCg

/-- what is gone through: a new walker of n items, that leans on the base and on what need holds -/
noncomputable def Src (prog : Program) (w : World) (A : Around) (h₀ : Heap) (need : List (Addr × Obj)) (xv : Value) (n : Nat) (P : Nat → Value → Prop) (s : Shared) : Prop :=
  ∀ (Q : Value → Shared → Prop) (E : Value → Shared → Prop),
    (∀ (o : Obj) (fp : List Addr) (St : Nat → Heap → Prop), o.isFreed = false → Walks prog w A s.heap.objs.size fp [s.heap.objs.size] n P St → St 0 (s.heap.push o) →
      (∀ b ∈ fp, b = s.heap.objs.size ∨ (∃ o', h₀.get? b = some o') ∨ ∃ o', (b, o') ∈ need) → (∀ i h, St i h → ∃ o', h.get? s.heap.objs.size = some o') →
      Q (.ref s.heap.objs.size) { s with heap := s.heap.push o }) →
    wpAny (model prog w) A (pyIter xv) Q E s

section
variable {prog : Program} {w : World} {A : Around} {s : Shared} {h₀ : Heap} {L : Addr} {m : Str → Option Value} {news : List (Addr × Obj)}

theorem src_str (hh : A.handled = none) (x : Str) (t : Tok) : Src prog w A h₀ [] (.str x t) x.cps.size (SignAt x) s := by
  intro Q E h
  cases ha : x.cps.all (· < 128)
  · exact wpAny_pyIter_wide ha (h _ _ _ rfl (Walks.strWide hh _ x t) ⟨_, Heap.get?_push_size _ rfl, rfl, rfl⟩ (fun b hb => .inl (List.mem_singleton.mp hb)) fun i h st => let ⟨o, e, _⟩ := st; ⟨o, e⟩)
  · exact wpAny_pyIter_ascii ha (h _ _ _ rfl (Walks.strAscii hh _ x t) ⟨_, Heap.get?_push_size _ rfl, rfl, rfl⟩ (fun b hb => .inl (List.mem_singleton.mp hb)) fun i h st => let ⟨o, e, _⟩ := st; ⟨o, e⟩)

theorem src_list (hh : A.handled = none) {l : Addr} {its : Array Value} {k : Nat} (N : News h₀ L s.heap news) (hm : (l, ({ cls := .type "list", data := .seq its k } : Obj)) ∈ news) :
    Src prog w A h₀ [(l, { cls := .type "list", data := .seq its k })] (.ref l) its.size (fun i v => its[i]? = some v) s := by
  intro Q E h
  have hl : s.heap.IsList l its := ⟨_, (N _ hm).1, rfl, _, rfl⟩
  have hlt : l < s.heap.objs.size := Heap.lt_size (N _ hm).1
  refine wpAny_pyIter_list hl (h _ _ _ rfl (Walks.list hh s.heap.objs.size l (Nat.ne_of_lt hlt) its) ⟨⟨_, Heap.get?_push_size _ rfl, rfl, rfl⟩, hl.push _⟩ (fun b hb => ?_) fun i h st => let ⟨o, e, _⟩ := st.1; ⟨o, e⟩)
  rcases List.mem_cons.mp hb with rfl | hb
  · exact .inl rfl
  · rw [List.mem_singleton.mp hb]; exact .inr (.inr ⟨_, List.mem_singleton.mpr rfl⟩)

theorem src_range (hh : A.handled = none) {r : Addr} {a b : Int} {t u v : Tok} {n : Nat} (hr : IsRange s.heap r a b 1 t u v) (hsm : Builtin.Range.small a b 1 = true) (hn : Builtin.Range.rangeSize a b 1 = ((n : Nat) : Int)) :
    Src prog w A h₀ [] (.ref r) n (fun i v => ∃ t, v = .int (a + (i : Int)) t) s := by
  intro Q E h
  refine wpAny_pyIter_range hr hsm (h _ _ _ rfl (range_walks hh a n) (by show IsRangeIter _ _ _ _ _; rw [hn]; simpa using Heap.get?_push_size _ rfl) (fun b hb => .inl (List.mem_singleton.mp hb)) fun i h st => ⟨_, st⟩)

theorem src_bytes (hh : A.handled = none) (b : Array UInt8) (t : Tok) : Src prog w A h₀ [] (.bytes b t) b.size (fun i v => ∃ c u, b[i]? = some c ∧ v = .int (c.toNat : Int) u) s := by
  intro Q E h
  refine KBw.pyIter_bytes (h _ _ _ rfl (KBw.walks hh _ b t) ⟨_, Heap.get?_push_size _ rfl, rfl, rfl⟩ (fun b hb => .inl (List.mem_singleton.mp hb)) fun i h st => let ⟨o, e, _⟩ := st; ⟨o, e⟩)
end

/-- the end of a turn of a for loop -/
noncomputable def TurnPost (h₀ : Heap) (L I : Addr) (oI : Obj) (need : List (Addr × Obj)) (J : (Str → Option Value) → List (Addr × Obj) → Prop) (s₁ : Shared) (Q : Flow → Shared → Prop) (f : Flow) (s₂ : Shared) : Prop :=
  match f with
  | .ret v => Q (.ret v) s₂
  | .brk => Q .next s₂
  | _ => ∃ h' tk m' news', s₂ = { s₁ with heap := h', toks := tk } ∧ Fr h₀ L h' m' ∧ News h₀ L h' ((I, oI) :: news') ∧ (∀ p ∈ news', p.1 ≠ I) ∧ (∀ p ∈ need, p ∈ news') ∧ J m' news'

section
variable {prog : Program} {w : World} {A : Around} {E : Value → Shared → Prop} {s : Shared} {env : Env} {h₀ : Heap} {x : Str} {body : List Stmt} {Q : Flow → Shared → Prop} {m₀ : Str → Option Value} {news need : List (Addr × Obj)} {xv : Value} {n : Nat} {P : Nat → Value → Prop}
theorem for_src {L : Addr} (S : Src prog w A h₀ need xv n P s) (F : Fr h₀ L s.heap m₀) (N : News h₀ L s.heap news) (hneed : ∀ p ∈ need, p ∈ news) (J : Nat → (Str → Option Value) → List (Addr × Obj) → Prop) (hj : J 0 m₀ news)
    (turn : ∀ i v m₁ news₁ h tk I oI, i < n → P i v → J i m₁ news₁ → Fr h₀ L h (fun y => if y = x then some v else m₁ y) → News h₀ L h ((I, oI) :: news₁) → (∀ p ∈ news₁, p.1 ≠ I) → (∀ p ∈ need, p ∈ news₁) →
      wpAny (model prog w) A (execs body env) (TurnPost h₀ L I oI need (J (i + 1)) { s with heap := h, toks := tk } Q) E { s with heap := h, toks := tk })
    (done : ∀ m₁ news₁ h tk, J n m₁ news₁ → Fr h₀ L h m₁ → News h₀ L h news₁ → Q .next { s with heap := h, toks := tk }) (hL : env.locals = L := by rfl) :
    wpAny (model prog w) A (pyIter xv) (fun it s₂ => LoopAtV prog w A h₀ env x body Q E it s₂) E s := by
  subst hL
  refine S _ _ fun o fp St hfree W st0 hfp hIo => ?_
  have hI₀ : h₀.get? s.heap.objs.size = none := next_is_new F
  have hpush : ∀ b o', s.heap.get? b = some o' → (s.heap.push o).get? b = some o' := fun _ _ e => Heap.get?_push_of_some _ e
  have hLf : env.locals ∉ fp := by
    intro hm
    rcases hfp _ hm with e | ⟨o', e⟩ | ⟨o', e⟩
    · exact absurd F.ns.lt (by rw [e]; exact Nat.lt_irrefl _)
    · exact absurd (Nat.lt_of_lt_of_le (Heap.lt_size e) F.above) (Nat.lt_irrefl _)
    · exact absurd rfl (N _ (hneed _ e)).2.1
  have hnI : ∀ p ∈ news, p.1 ≠ s.heap.objs.size := fun p hp => Nat.ne_of_lt (Heap.lt_size (N p hp).1)
  refine ⟨_, fp, _, n, P, St, m₀, news, fun i m₁ news₁ => J i m₁ news₁ ∧ (∀ p ∈ need, p ∈ news₁), rfl, W, hLf, ?_, ?_, st0, F.push o, N.grown hpush, ⟨hj, hneed⟩, ?_, ?_⟩
  · intro b hb
    rw [List.mem_singleton.mp hb]; exact hI₀
  · intro p hp hb
    exact hnI p hp (List.mem_singleton.mp hb)
  · rintro i v m₁ news₁ s₁ own ⟨hh', tk', rfl⟩ hin hP ⟨hJ, hnd⟩ hoff hown hget hmem hst' F₁ N₁
    obtain ⟨oI, heI⟩ := hIo _ _ hst'
    have hIfp : s.heap.objs.size ∈ fp := W.sub _ (List.mem_singleton.mpr rfl)
    have hIown : (s.heap.objs.size, oI) ∈ own := hmem _ hIfp hI₀ _ heI
    have off1 : ∀ p ∈ news₁, p.1 ≠ s.heap.objs.size := fun p hp e => hoff p hp (List.mem_singleton.mpr e)
    have N₂ : News h₀ env.locals hh' ((s.heap.objs.size, oI) :: news₁) := fun p hp => by
      rcases List.mem_cons.mp hp with rfl | hp
      · exact N₁ _ (List.mem_append_left _ hIown)
      · exact N₁ _ (List.mem_append_right _ hp)
    refine wpAny_mono (turn i v m₁ news₁ hh' tk' s.heap.objs.size oI hin hP hJ F₁ N₂ off1 hnd) (fun f s₂ p => ?_) fun _ _ e => e
    have fin : (∃ h' tk m' news', s₂ = { s with heap := h', toks := tk } ∧ Fr h₀ env.locals h' m' ∧ News h₀ env.locals h' ((s.heap.objs.size, oI) :: news') ∧ (∀ p ∈ news', p.1 ≠ s.heap.objs.size) ∧ (∀ p ∈ need, p ∈ news') ∧ J (i + 1) m' news') →
        LoopStepU h₀ env.locals [s.heap.objs.size] own (fun m₁ news₁ => J (i + 1) m₁ news₁ ∧ (∀ p ∈ need, p ∈ news₁)) { s with heap := hh', toks := tk' } .next s₂ := by
      rintro ⟨h', tk, m', news', rfl, F', N', off', hnd', hJ'⟩
      refine ⟨rfl, h', tk, m', news', rfl, F', fun p hp => ?_, fun p hp hb => off' p hp (List.mem_singleton.mp hb), hJ', hnd'⟩
      rcases List.mem_append.mp hp with hp | hp
      · have hnew := (N₁ p (List.mem_append_left _ hp)).2.2
        have hp1 := hget p hp
        rcases hfp _ (hown p hp) with e | ⟨o', e⟩ | ⟨o', e⟩
        · have : p = (s.heap.objs.size, oI) := by
            have : p.2 = oI := by rw [e] at hp1; exact Option.some.inj (hp1.symm.trans heI)
            exact Prod.ext e this
          rw [this]; exact N' _ List.mem_cons_self
        · rw [e] at hnew; cases hnew
        · have h1 := (N₂ _ (List.mem_cons_of_mem _ (hnd _ e))).1
          have : p = (p.1, o') := Prod.ext rfl (Option.some.inj (hp1.symm.trans h1))
          rw [this]; exact N' _ (List.mem_cons_of_mem _ (hnd' _ e))
      · exact N' _ (List.mem_cons_of_mem _ hp)
    cases f with
    | ret v => exact .ret p
    | brk => exact .brk p
    | next => exact .next (fin p)
    | cont => exact .cont (fin p)
  · rintro h' tk m' news' F' N' _ ⟨hJ, _⟩
    exact done m' news' h' tk hJ F' N'
end

/-- the end of a turn of a block -/
noncomputable def BlockEnd (h₀ : Heap) (L : Addr) (m : Str → Option Value) (s : Shared) (I : Addr) (oI : Obj) (C : Addr) (oC : Obj) (D : Addr) (ys : List Value) (need : List (Addr × Obj)) (J : List (Addr × Obj) → Prop) (s₂ : Shared) : Prop :=
  ∃ h' tk news', s₂ = { s with heap := h', toks := tk } ∧ Fr h₀ L h' m ∧ News h₀ L h' ((I, oI) :: (C, oC) :: (D, lst ys) :: news') ∧ Off3 I C D news' ∧ (∀ p ∈ need, p ∈ news') ∧ J news'

/-- what holds at each turn of a block -/
inductive BlkInv (h₀ : Heap) (L : Addr) (m : Str → Option Value) (I C D : Addr) (n : Nat) (St : Nat → Heap → Prop) (need : List (Addr × Obj)) (J : Nat → List Value → List (Addr × Obj) → Prop) (s : Shared) : Nat → Shared → Prop
  | mk {h' : Heap} {tk i : Nat} {ys : List Value} {m' : Str → Option Value} {news' : List (Addr × Obj)} (hi : i ≤ n) (hyl : ys.length ≤ i) (hst : St i h') (F : Fr h₀ L h' m) (hn : h'.Ns C m') (N : News h₀ L h' ((D, lst ys) :: news')) (off : Off3 I C D news') (hnd : ∀ p ∈ need, p ∈ news') (hJ : J i ys news') :
    BlkInv h₀ L m I C D n St need J s (n + 1 - i) { s with heap := h', toks := tk }
theorem blk_lt {n i : Nat} (h : i < n) : n + 1 - (i + 1) < n + 1 - i := by omega
section
variable {prog : Program} {w : World} {A : Around} {E : Value → Shared → Prop} {s : Shared} {h₀ : Heap} {L : Addr} {m : Str → Option Value} {env : Env}
theorem block_T {elt iter : Expr} {x : Str} {px : Pos} {ifs : List Expr} {scope : Scope} {cl : List (Str × Addr)} {pos : Pos} {I : Addr} {fp : List Addr} {n : Nat} {P : Nat → Value → Prop} {St : Nat → Heap → Prop} {news need : List (Addr × Obj)} (J : Nat → List Value → List (Addr × Obj) → Prop)
    {RR : Value → Addr → Result → Shared → Prop}
    (W : Walks prog w A I fp [I] n P St) (hsz : n ≤ sizeLine) (hIo : ∀ i h, St i h → ∃ o, h.get? I = some o)
    (hfp : ∀ b ∈ fp, b = I ∨ (∃ o', h₀.get? b = some o') ∨ ∃ o', (b, o') ∈ need)
    (hcell : ∀ y ∈ scope.names, y.2 ≠ .cell) (hkind : scope.kind = .function) (hx : scope.names.lookup x = some .local) (hst : St 0 s.heap)
    (F : Fr h₀ L s.heap m) (N : News h₀ L s.heap news) (hIL : L ≠ I) (hI₀ : h₀.get? I = none) (off : ∀ p ∈ news, p.1 ≠ I) (hneed : ∀ p ∈ need, p ∈ news) (hJ : J 0 [] news)
    (turn : ∀ i ys news v oI C oC D m₂ h tk (E' : Value → Shared → Prop), i < n → J i ys news → P i v → NsObj oC m₂ → m₂ x = some v → Fr h₀ L h m → News h₀ L h ((I, oI) :: (C, oC) :: (D, lst ys) :: news) → Off3 I C D news → (∀ p ∈ need, p ∈ news) → ((@Ne Nat I C) ∧ (@Ne Nat I D) ∧ (@Ne Nat C D)) →
      wpAny (model prog w) A (forIn ifs true fun c r => if r = true then do let ok ← isTrue c (compEnvC scope cl C env) (eval c (compEnvC scope cl C env)); pure (ForInStep.yield ok) else pure (ForInStep.yield r))
        (fun ok s₃ => if ok = true then wpAny (model prog w) A (eval elt (compEnvC scope cl C env)) (fun y => BlockEnd h₀ L m { s with heap := h, toks := tk } I oI C oC D ys need (J (i + 1) (ys ++ [y]))) E' s₃
          else BlockEnd h₀ L m { s with heap := h, toks := tk } I oI C oC D ys need (J (i + 1) ys) s₃) E' { s with heap := h, toks := tk })
    (hRR : ∀ D C h tk m' ys news', Fr h₀ L h m → News h₀ L h ((D, lst ys) :: news') → Off1 D news' → h.Ns C m' → h₀.get? C = none → h₀.get? D = none → C ≠ L → D ≠ L → C ≠ D → (∀ p ∈ news', p.1 ≠ C) → J n ys news' → RR (.ref D) C (.ok .next) { s with heap := h, toks := tk }) :
    wpAny (model prog w) A (newList []) (fun acc s₃ => wpAny (model prog w) A (newFunctionEnv scope env.globals cl [] env.qual none .none (some env)) (fun cenv s₄ =>
      codeAny (model prog w) A (.compStart (.ListComp elt [⟨.Name x px, iter, ifs, 0⟩] scope pos) 0 (.ref I) acc { cenv with scope := relabel scope env }) (RR acc cenv.locals) s₄) E s₃) E s := by
  refine wpAny_newObj_type (wpAny_newFunctionEnv hcell (by intro y hy; simp at hy) (fun h₁ hns₁ hsb₁ => ?_) hkind)
  dsimp only at hns₁ hsb₁ ⊢
  generalize hH2 : s.heap.push { cls := .type "list", dict := none, data := .seq ([] : List Value).toArray } = H2 at hns₁ hsb₁ ⊢
  have hC : H2.objs.size = s.heap.objs.size + 1 := by rw [← hH2, Heap.size_push]
  have hDC : s.heap.objs.size ≠ H2.objs.size := by rw [hC]; exact Nat.ne_of_lt (Nat.lt_succ_self _)
  have below : ∀ b, b < s.heap.objs.size → b ≠ H2.objs.size ∧ b ≠ s.heap.objs.size := fun b hb => ⟨by rw [hC]; exact Nat.ne_of_lt (Nat.lt_succ_of_lt hb), Nat.ne_of_lt hb⟩
  have hfplt : ∀ b ∈ fp, b < s.heap.objs.size := fun b hb => by
    rcases hfp b hb with rfl | ⟨o', e⟩ | ⟨o', e⟩
    · obtain ⟨o, e⟩ := hIo _ _ hst; exact Heap.lt_size e
    · exact Heap.lt_size (F.keep _ _ e)
    · exact Heap.lt_size (N _ (hneed _ e)).1
  have hDf : s.heap.objs.size ∉ fp := fun hm => Nat.lt_irrefl _ (hfplt _ hm)
  have hCf : H2.objs.size ∉ fp := fun hm => by have := hfplt _ hm; rw [hC] at this; exact Nat.lt_irrefl _ (Nat.lt_of_succ_lt this)
  have hIf : I ∈ fp := W.sub I (List.mem_singleton.mpr rfl)
  have hIlt : I < s.heap.objs.size := hfplt I hIf
  have old : ∀ b o, s.heap.get? b = some o → h₁.get? b = some o := fun b o e => hsb₁.extBut b o (below b (Heap.lt_size e)).1 (Heap.get?_push_of_some _ (hH2 ▸ Heap.get?_push_of_some _ e))
  have hacc : h₁.get? s.heap.objs.size = some (lst []) := hsb₁.extBut _ _ hDC (Heap.get?_push_of_some _ (hH2 ▸ Heap.get?_push_size _ rfl))
  have hst₁ : St 0 h₁ := W.frame _ _ _ hst fun b _ o e => old b o e
  have fresh : ∀ a, s.heap.objs.size ≤ a → h₀.get? a = none := fun a ha => by
    cases e : h₀.get? a with
    | none => rfl
    | some o' => exact absurd (Heap.lt_size (F.keep a o' e)) (Nat.not_lt.mpr ha)
  have hD₀ : h₀.get? s.heap.objs.size = none := fresh _ (Nat.le_refl _)
  have hC₀ : h₀.get? H2.objs.size = none := fresh _ (by rw [hC]; exact Nat.le_succ _)
  have hLlt : L < s.heap.objs.size := F.ns.lt
  have hDL : s.heap.objs.size ≠ L := Ne.symm (below L hLlt).2
  have hCL : H2.objs.size ≠ L := Ne.symm (below L hLlt).1
  have hCI : I ≠ H2.objs.size := (below I hIlt).1
  have hDI : I ≠ s.heap.objs.size := (below I hIlt).2
  have off₀ : Off3 I H2.objs.size s.heap.objs.size news := Off3.of fun p hp => ⟨off p hp, (below _ (Heap.lt_size (N p hp).1)).1, (below _ (Heap.lt_size (N p hp).1)).2⟩
  have loop : ∀ s₃ : Shared, s₃ = { s with heap := h₁, toks := s.toks + ([] : List (Str × Value)).length } →
      codeAny (model prog w) A (.compLoop (.ListComp elt [⟨.Name x px, iter, ifs, 0⟩] scope pos) 0 (.ref I) (.ref s.heap.objs.size) (compEnvC scope cl H2.objs.size env))
        (RR (.ref s.heap.objs.size) H2.objs.size) s₃ := by
    rintro s₃ rfl
    refine codeAny_compLoop_tests
      (BlkInv h₀ L m I H2.objs.size s.heap.objs.size n St need J s) ?_ (n + 1)
      (.mk (i := 0) (Nat.zero_le _) (Nat.le_refl _) hst₁ (F.keeps old) hns₁ (fun p hp => ?_) off₀ hneed hJ)
    · rintro k s' ⟨hi, hyl, hst', F', hn', N', off', hnd', hJ'⟩
      rename_i h' tk i ys m' news'
      by_cases hlt : i < n
      · refine W.item i _ _ _ hlt hst' fun v h₂ tk₂ hPv hst₂ hk₂ => ?_
        refine wpAny_assign_Name (wpAny_storeName_local (lookup_relabel_local hx) (hn'.at' fun o e => hk₂ _ o (by simpa using Ne.symm hCI) e) (fun h₃ hn₃ hs₃ => ?_) (by simp [compEnvC, relabel, hkind]))
        have hst₃ : St (i + 1) h₃ := W.frame _ _ _ hst₂ fun b hb o e => hs₃.extBut b o (fun q => hCf (by have q' : b = H2.objs.size := q; rw [← q']; exact hb)) e
        obtain ⟨oI, heI⟩ := hIo _ _ hst₃
        obtain ⟨oC, heC, hoC⟩ := ns_obj hn₃
        have F₃ : Fr h₀ L h₃ m := (fr_but F' hk₂ hIL hI₀).change hs₃ hCL hC₀
        have off3 := off'.mem
        have N₂ : News h₀ L h₂ ((s.heap.objs.size, lst ys) :: news') := news_but N' hk₂ fun p hp => by
          rcases List.mem_cons.mp hp with rfl | hp
          · exact Ne.symm hDI
          · exact (off3 p hp).1
        have N₃ : News h₀ L h₃ ((I, oI) :: (H2.objs.size, oC) :: (s.heap.objs.size, lst ys) :: news') := fun p hp => by
          rcases List.mem_cons.mp hp with rfl | hp
          · exact ⟨heI, Ne.symm hIL, hI₀⟩
          · rcases List.mem_cons.mp hp with rfl | hp
            · exact ⟨heC, hCL, hC₀⟩
            · have z := N₂ p hp
              refine ⟨hs₃.extBut _ _ ?_ z.1, z.2⟩
              rcases List.mem_cons.mp hp with rfl | hp
              · exact hDC
              · exact (off3 p hp).2.1
        have keepSt : ∀ h₄ news₄, Fr h₀ L h₄ m → News h₀ L h₄ ((I, oI) :: (H2.objs.size, oC) :: (s.heap.objs.size, lst ys) :: news₄) → (∀ p ∈ need, p ∈ news₄) → St (i + 1) h₄ := fun h₄ news₄ F₄ N₄ hnd₄ =>
          W.frame _ _ _ hst₃ fun b hb o e => by
            rcases hfp b hb with rfl | ⟨o', e'⟩ | ⟨o', e'⟩
            · rw [heI] at e; cases e; exact (N₄ _ List.mem_cons_self).1
            · have q := F₃.keep _ _ e'; rw [e] at q; cases q; exact F₄.keep _ _ e'
            · have q := (N₃ _ (List.mem_cons_of_mem _ (List.mem_cons_of_mem _ (List.mem_cons_of_mem _ (hnd' _ e'))))).1
              rw [e] at q; cases q
              exact (N₄ _ (List.mem_cons_of_mem _ (List.mem_cons_of_mem _ (List.mem_cons_of_mem _ (hnd₄ _ e'))))).1
        refine wpAny_mono (turn i ys news' v oI H2.objs.size oC s.heap.objs.size _ h₃ _ _ hlt hJ' hPv hoC (by simp) F₃ N₃ off' hnd' ⟨hCI, hDI, Ne.symm hDC⟩) (fun ok s₃ hok => ?_) fun _ _ e => e
        cases ok with
        | false =>
          rw [if_neg Bool.false_ne_true] at hok ⊢
          obtain ⟨h₄, tk₄, news₄, rfl, F₄, N₄, off₄, hnd₄, hJ₄⟩ := hok
          have zC := (N₄ (H2.objs.size, oC) (List.mem_cons_of_mem _ List.mem_cons_self)).1
          exact ⟨n + 1 - (i + 1), blk_lt hlt, .mk hlt (Nat.le_succ_of_le hyl) (keepSt _ _ F₄ N₄ hnd₄) F₄ (hoC.ns zC) (fun p hp => N₄ p (List.mem_cons_of_mem _ (List.mem_cons_of_mem _ hp))) off₄ hnd₄ hJ₄⟩
        | true =>
          rw [if_pos rfl] at hok ⊢
          refine wpAny_mono hok (fun y s₄ hy => ?_) fun _ _ e => e
          obtain ⟨h₄, tk₄, news₄, rfl, F₄, N₄, off₄, hnd₄, hJ₄⟩ := hy
          have zC := (N₄ (H2.objs.size, oC) (List.mem_cons_of_mem _ List.mem_cons_self)).1
          have zD := (N₄ (s.heap.objs.size, lst ys) (List.mem_cons_of_mem _ (List.mem_cons_of_mem _ List.mem_cons_self))).1
          have N₄' : News h₀ L h₄ news₄ := fun p hp => N₄ p (List.mem_cons_of_mem _ (List.mem_cons_of_mem _ (List.mem_cons_of_mem _ hp)))
          have hst₄ := keepSt _ _ F₄ N₄ hnd₄
          refine append_at (hsz := by show ys.toArray.size ≤ sizeLine; rw [List.size_toArray]; exact Nat.le_trans hyl (Nat.le_trans hi hsz)) zD fun h₅ hs₅ hD₅ => ?_
          have off4 := off₄.mem
          refine ⟨n + 1 - (i + 1), blk_lt hlt, .mk hlt (by rw [List.length_append, List.length_singleton]; exact Nat.succ_le_succ hyl) (W.frame _ _ _ hst₄ fun b hb o e => hs₅.extBut b o (fun q => hDf (q ▸ hb)) e) (F₄.change hs₅ hDL hD₀)
            ((hoC.ns zC).sameBut hs₅ (Ne.symm hDC)) (fun p hp => ?_) off₄ hnd₄ hJ₄⟩
          rcases List.mem_cons.mp hp with rfl | hp
          · exact ⟨hD₅.trans (congrArg some (lst_snoc ys y)), hDL, hD₀⟩
          · exact ⟨hs₅.extBut _ _ (off4 p hp).2.2 (N₄' p hp).1, (N₄' p hp).2⟩
      · obtain rfl : i = n := Nat.le_antisymm hi (Nat.not_lt.mp hlt)
        refine W.done _ _ _ hst' fun h₂ tk₂ hk₂ => ?_
        have off3 := off'.mem
        exact hRR _ _ h₂ tk₂ _ ys news' (fr_but F' hk₂ hIL hI₀) (news_but N' hk₂ fun p hp => by
          rcases List.mem_cons.mp hp with rfl | hp
          · exact Ne.symm hDI
          · exact (off3 p hp).1) off'.one (hn'.at' fun o e => hk₂ _ o (by simpa using Ne.symm hCI) e) hC₀ hD₀ hCL hDL (Ne.symm hDC) (fun p hp => (off3 p hp).2.1) hJ'
    · rcases List.mem_cons.mp hp with rfl | hp
      · exact ⟨hacc, hDL, hD₀⟩
      · exact ⟨old _ _ (N p hp).1, (N p hp).2⟩
  exact codeAny_compStart_list (loop _ rfl) (W.self 0 _ _ _ hst₁ (loop _ rfl))

/-- a block: what is gone through is told first, then the turn, then the end -/
noncomputable def CompAt (prog : Program) (w : World) (A : Around) (h₀ : Heap) (L : Addr) (m : Str → Option Value) (env : Env) (elt : Expr) (x : Str) (ifs : List Expr) (scope : Scope) (cl : List (Str × Addr)) (Q : Value → Shared → Prop) (xv : Value) (s : Shared) : Prop :=
  ∃ (n : Nat) (P : Nat → Value → Prop) (news need : List (Addr × Obj)) (J : Nat → List Value → List (Addr × Obj) → Prop),
    Src prog w A h₀ need xv n P s ∧ n ≤ sizeLine ∧ Fr h₀ L s.heap m ∧ News h₀ L s.heap news ∧ (∀ p ∈ need, p ∈ news) ∧ J 0 [] news ∧
    (∀ i ys news v I oI C oC D m₂ h tk (E' : Value → Shared → Prop), i < n → J i ys news → P i v → NsObj oC m₂ → m₂ x = some v → Fr h₀ L h m → News h₀ L h ((I, oI) :: (C, oC) :: (D, lst ys) :: news) → Off3 I C D news → (∀ p ∈ need, p ∈ news) → ((@Ne Nat I C) ∧ (@Ne Nat I D) ∧ (@Ne Nat C D)) →
      wpAny (model prog w) A (forIn ifs true fun c r => if r = true then do let ok ← isTrue c (compEnvC scope cl C env) (eval c (compEnvC scope cl C env)); pure (ForInStep.yield ok) else pure (ForInStep.yield r))
        (fun ok s₃ => if ok = true then wpAny (model prog w) A (eval elt (compEnvC scope cl C env)) (fun y => BlockEnd h₀ L m { s with heap := h, toks := tk } I oI C oC D ys need (J (i + 1) (ys ++ [y]))) E' s₃
          else BlockEnd h₀ L m { s with heap := h, toks := tk } I oI C oC D ys need (J (i + 1) ys) s₃) E' { s with heap := h, toks := tk }) ∧
    (∀ D h tk ys news', Fr h₀ L h m → News h₀ L h ((D, lst ys) :: news') → Off1 D news' → J n ys news' → Q (.ref D) { s with heap := h, toks := tk })

theorem ListComp_T {elt iter : Expr} {x : Str} {px : Pos} {ifs : List Expr} {scope : Scope} {cl : List (Str × Addr)} {pos : Pos} {Q : Value → Shared → Prop} (_F₀ : Fr h₀ L s.heap m)
    (hclos : closureFor scope env = pure cl) (hcell : ∀ y ∈ scope.names, y.2 ≠ .cell) (hkind : scope.kind = .function)
    (hnames : ∀ y ∈ scope.names, y.2 = .local → scope.names.lookup y.1 = some .local) (hx : scope.names.lookup x = some .local)
    (h : wpAny (model prog w) A (eval iter env) (CompAt prog w A h₀ L m env elt x ifs scope cl Q) E s)
    (hs : ∀ x, foldedSetIterable iter env x = pure x := by intro _; rfl) :
    wpAny (model prog w) A (eval (.ListComp elt [⟨.Name x px, iter, ifs, 0⟩] scope pos) env) Q E s := by
  rw [eval_ListComp]
  refine wpAny_comprehension_free (use := none) rfl hs hclos hkind hnames (wpAny_mono h (fun xv s₁ h₁ => ?_) fun _ _ e => e)
  obtain ⟨n, P, news, need, J, S, hsz, F, N, hneed, hJ, turn, fin⟩ := h₁
  refine S _ _ fun o fp St hfree W st0 hfp hIo => ?_
  have hI₀ : h₀.get? s₁.heap.objs.size = none := next_is_new F
  have hpush : ∀ b o', s₁.heap.get? b = some o' → (s₁.heap.push o).get? b = some o' := fun _ _ e => Heap.get?_push_of_some _ e
  refine block_T (s := { s₁ with heap := s₁.heap.push o }) (h₀ := h₀) (L := L) (m := m) (news := news) (need := need) J W hsz hIo hfp hcell hkind hx st0 (F.push o) (N.grown hpush) (Nat.ne_of_lt F.ns.lt) hI₀ (fun p hp => Nat.ne_of_lt (Heap.lt_size (N p hp).1)) hneed hJ
    (fun i ys news v oI C oC D m₂ h tk E' => turn i ys news v _ oI C oC D m₂ h tk E') ?_
  intro D C h' tk m' ys news' F' N' o1 hn hC₀ hD₀ hCL hDL hCD offC hJ'
  refine ⟨m', hn, fun h'' hs'' => fin D h'' tk ys news' (F'.change hs'' hCL hC₀) (fun p hp => ?_) o1 hJ'⟩
  refine ⟨hs''.extBut _ _ ?_ (N' p hp).1, (N' p hp).2⟩
  rcases List.mem_cons.mp hp with rfl | hp
  · exact Ne.symm hCD
  · exact offC p hp
end

/-- what a quiet turn leaves: the ledger as it was -/
noncomputable def Quiet (h₀ : Heap) (L : Addr) (m : Str → Option Value) (s : Shared) (led : List (Addr × Obj)) (g : Prop) (s₂ : Shared) : Prop :=
  ∃ h' tk, s₂ = { s with heap := h', toks := tk } ∧ Fr h₀ L h' m ∧ News h₀ L h' led ∧ g
section
variable {prog : Program} {w : World} {A : Around} {E : Value → Shared → Prop} {s : Shared} {h₀ : Heap} {L : Addr} {m : Str → Option Value} {env : Env}
theorem comp_quiet {elt : Expr} {x : Str} {ifs : List Expr} {scope : Scope} {cl : List (Str × Addr)} {Q : Value → Shared → Prop} {xv : Value} {n : Nat} {P : Nat → Value → Prop} {news need : List (Addr × Obj)}
    (S : Src prog w A h₀ need xv n P s) (hsz : n ≤ 16777216) (F : Fr h₀ L s.heap m) (N : News h₀ L s.heap news) (hneed : ∀ p ∈ need, p ∈ news) (G : Nat → List Value → Prop) (hG : G 0 [])
    (turn : ∀ i ys v I oI C oC D m₂ h tk (E' : Value → Shared → Prop), i < n → G i ys → P i v → NsObj oC m₂ → m₂ x = some v → Fr h₀ L h m → News h₀ L h ((I, oI) :: (C, oC) :: (D, lst ys) :: news) →
      wpAny (model prog w) A (forIn ifs true fun c r => if r = true then do let ok ← isTrue c (compEnvC scope cl C env) (eval c (compEnvC scope cl C env)); pure (ForInStep.yield ok) else pure (ForInStep.yield r))
        (fun ok s₃ => if ok = true then wpAny (model prog w) A (eval elt (compEnvC scope cl C env)) (fun y => Quiet h₀ L m { s with heap := h, toks := tk } ((I, oI) :: (C, oC) :: (D, lst ys) :: news) (G (i + 1) (ys ++ [y]))) E' s₃
          else Quiet h₀ L m { s with heap := h, toks := tk } ((I, oI) :: (C, oC) :: (D, lst ys) :: news) (G (i + 1) ys) s₃) E' { s with heap := h, toks := tk })
    (fin : ∀ D h tk ys, Fr h₀ L h m → News h₀ L h ((D, lst ys) :: news) → Off1 D news → G n ys → Q (.ref D) { s with heap := h, toks := tk }) : CompAt prog w A h₀ L m env elt x ifs scope cl Q xv s := by
  refine ⟨n, P, news, need, fun i ys nw => nw = news ∧ G i ys, S, by rw [sizeLine_eq]; exact hsz, F, N, hneed, ⟨rfl, hG⟩, ?_, ?_⟩
  · rintro i ys nw v I oI C oC D m₂ h tk E' hi ⟨rfl, hg⟩ hP hC hx F' N' off hnd ne
    refine wpAny_mono (turn i ys v I oI C oC D m₂ h tk E' hi hg hP hC hx F' N') (fun ok s₃ hok => ?_) fun _ _ e => e
    cases ok with
    | false =>
      rw [if_neg Bool.false_ne_true] at hok ⊢
      obtain ⟨h', tk', rfl, F₃, N₃, g⟩ := hok
      exact ⟨h', tk', nw, rfl, F₃, N₃, off, hnd, rfl, g⟩
    | true =>
      rw [if_pos rfl] at hok ⊢
      refine wpAny_mono hok (fun y s₄ hy => ?_) fun _ _ e => e
      obtain ⟨h', tk', rfl, F₃, N₃, g⟩ := hy
      exact ⟨h', tk', nw, rfl, F₃, N₃, off, hnd, rfl, g⟩
  · rintro D h tk ys nw F' N' o1 ⟨rfl, hg⟩
    exact fin D h tk ys F' N' o1 hg
end

theorem retL {R : List Value → Prop} {h₀ : Heap} {L : Addr} {m : Str → Option Value} {news : List (Addr × Obj)} {s : Shared} {Q : Value → Shared → Prop}
    (hret : ∀ (l : Addr) (n : Nat) (vs : List Value) h' tk', R vs → Fr h₀ L h' m → News h₀ L h' ((l, listObj vs n) :: news) → (∀ p ∈ news, p.1 < l) → Q (.ref l) { s with heap := h', toks := tk' })
    {l : Addr} {n : Nat} {vs : List Value} {h' : Heap} {tk' : Nat} (F : Fr h₀ L h' m) (N : News h₀ L h' ((l, listObj vs n) :: news)) (hl : ∀ p ∈ news, p.1 < l) (hR : R vs) : Q (.ref l) { s with heap := h', toks := tk' } := hret _ _ _ _ _ hR F N hl
theorem newsSub {h₀ h : Heap} {L : Addr} {all want : List (Addr × Obj)} (N : News h₀ L h all) (hs : ∀ p ∈ want, p ∈ all) : News h₀ L h want := fun p hp => N p (hs p hp)
theorem ints_snoc {vs : List Value} {ns : List Int} {n : Int} {t : Tok} (h : IntsAre vs ns) : IntsAre (vs ++ [.int n t]) (ns ++ [n]) := h.append (.cons _ _ .nil)
theorem take_map_snoc {α β : Type} {f : α → β} {l : List α} {i : Nat} {c : α} (h : l[i]? = some c) : (l.take (i + 1)).map f = (l.take i).map f ++ [f c] := by
  rw [List.take_add_one, h, List.map_append]; rfl

section
variable {prog : Program} {w : World} {A : Around} {E : Value → Shared → Prop} {s : Shared} {h₀ : Heap} {L : Addr} {m : Str → Option Value}
theorem app1 {D : Addr} {vs : List Value} {k : Nat} {x : Value} {rest : List (Addr × Obj)} {Q : Value → Shared → Prop}
    (F : Fr h₀ L s.heap m) (N : News h₀ L s.heap ((D, listObj vs k) :: rest)) (hap : AllLt D rest) (hsz : vs.length ≤ 16777216)
    (h : ∀ h', Fr h₀ L h' m → News h₀ L h' ((D, listObj (vs ++ [x]) (k + 1)) :: rest) → Q .none { s with heap := h' }) :
    wpAny (model prog w) A (call (.builtin "list.append") [.ref D, x]) Q E s :=
  append_head F N (fun p hp => Nat.ne_of_lt (kst_ltOf hap p hp)) (fun h' F' N' => h h' F' (by rw [List.push_toArray] at N'; exact N')) (by rw [List.size_toArray, sizeLine_eq]; exact hsz)
theorem app2 {D : Addr} {vs : List Value} {k : Nat} {x : Value} {p₁ : Addr × Obj} {rest : List (Addr × Obj)} {Q : Value → Shared → Prop}
    (F : Fr h₀ L s.heap m) (N : News h₀ L s.heap (p₁ :: (D, listObj vs k) :: rest)) (h1 : @Ne Nat p₁.1 D) (hap : AllLt D rest) (hsz : vs.length ≤ 16777216)
    (h : ∀ h', Fr h₀ L h' m → News h₀ L h' (p₁ :: (D, listObj (vs ++ [x]) (k + 1)) :: rest) → Q .none { s with heap := h' }) :
    wpAny (model prog w) A (call (.builtin "list.append") [.ref D, x]) Q E s :=
  append_second F N h1 (fun p hp => Nat.ne_of_lt (kst_ltOf hap p hp)) (fun h' F' N' => h h' F' (by rw [List.push_toArray] at N'; exact N')) (by rw [List.size_toArray, sizeLine_eq]; exact hsz)
theorem off_head {I lk : Addr} {o o' : Obj} {news : List (Addr × Obj)} (h : ∀ p ∈ (lk, o) :: news, p.1 ≠ I) : ∀ p ∈ (lk, o') :: news, p.1 ≠ I := by
  intro p hp
  rcases List.mem_cons.mp hp with rfl | hp
  · exact (h (lk, o) List.mem_cons_self : lk ≠ I)
  · exact h p (List.mem_cons_of_mem _ hp)
theorem need_one {lk : Addr} {o : Obj} {q : Addr × Obj} {news : List (Addr × Obj)} (h : q ∈ news) : ∀ p ∈ [q], p ∈ (lk, o) :: news := by
  intro p hp; rw [List.mem_singleton.mp hp]; exact List.mem_cons_of_mem _ h
theorem need_nil {news : List (Addr × Obj)} : ∀ p ∈ ([] : List (Addr × Obj)), p ∈ news := fun p hp => nomatch hp
end

theorem frame_at {m f : Str → Option Value} {x : Str} (h : ∀ y, y ≠ x → m y = f y) : m = fun y => if y = x then m x else f y := by
  funext y
  by_cases e : y = x
  · rw [if_pos e, e]
  · rw [if_neg e, h y e]
theorem frame_again {f : Str → Option Value} {x : Str} {a u : Option Value} : (fun y => if y = x then a else if y = x then u else f y) = fun y => if y = x then a else f y := by
  funext y
  by_cases e : y = x
  · rw [if_pos e, if_pos e]
  · rw [if_neg e, if_neg e, if_neg e]
theorem look1 {y x : Str} {v : Value} {r : List (Str × Value)} : List.lookup y ((x, v) :: r) = if y = x then some v else List.lookup y r := by
  rw [List.lookup_cons]
  by_cases e : y = x
  · rw [if_pos e, e]; simp
  · rw [if_neg e]
    have : (y == x) = false := beq_eq_false_iff_ne.mpr e
    rw [this]

theorem all_ne {news : List (Addr × Obj)} {X c : Nat} (h : ∀ p ∈ news, p.1 < X) (k : X ≤ c) : ∀ p ∈ news, p.1 ≠ c := fun p hp => Nat.ne_of_lt (Nat.lt_of_lt_of_le (h p hp) k)

theorem ofString_inj {a b : String} (h : Str.ofString a = Str.ofString b) : a = b := by
  rw [Str.ofString_eq_toList, Str.ofString_eq_toList] at h
  have h1 : a.toList.map Char.toNat = b.toList.map Char.toNat := by
    have := congrArg (fun s : Str => s.cps.toList) h
    simpa using this
  have h2 : a.toList = b.toList := by
    refine (List.map_inj_right (f := Char.toNat) ?_).mp h1
    intro x y hxy
    exact Char.ext (UInt32.toNat_inj.mp hxy)
  exact String.toList_inj.mp h2
theorem ofString_eq {a b : String} : (Str.ofString a = Str.ofString b) = (a = b) := propext ⟨ofString_inj, fun e => e ▸ rfl⟩
theorem lookA {α : Type} {y x : Str} {v : α} {r : List (Str × α)} : List.lookup y ((x, v) :: r) = if y = x then some v else List.lookup y r := by
  rw [List.lookup_cons]
  by_cases e : y = x
  · rw [if_pos e, e]; simp
  · rw [if_neg e]
    have : (y == x) = false := beq_eq_false_iff_ne.mpr e
    rw [this]
/-- a frame with one more name -/
noncomputable abbrev upd (a : String) (v : Value) (m : Str → Option Value) : Str → Option Value := fun y => if y = Str.ofString a then some v else m y
noncomputable abbrev noFr : Str → Option Value := fun _ => none
theorem lkN {x a : String} (h : x ≠ a) {v : Value} {w : Option Value} {m : Str → Option Value} (e : m (Str.ofString x) = w) : upd a v m (Str.ofString x) = w := (if_neg fun z => h (ofString_inj z)).trans e
theorem lkY {x : String} {v : Value} {m : Str → Option Value} : upd x v m (Str.ofString x) = some v := if_pos rfl
theorem lookF {x : String} {v : Value} {r : List (Str × Value)} : (fun y => List.lookup y ((Str.ofString x, v) :: r)) = upd x v (fun y => List.lookup y r) := by
  funext y; rw [look1]
theorem lookE : (fun y : Str => List.lookup y ([] : List (Str × Value))) = noFr := rfl
noncomputable abbrev kSt2 (Q : Flow → Shared → Prop) (_ : Unit) (s : Shared) : Prop := Q .next s
theorem kSt2I {Q : Flow → Shared → Prop} {s : Shared} (h : Q .next s) : kSt2 Q () s := h
theorem nameF {cs : Scope} (hk : cs.kind = .function) {cn : Str} {ccd : Value} {cl : List (Str × Addr)} {a : Addr} {x : String} (hx : List.lookup (Str.ofString x) cs.names = some NameKind.local) (hd : x ≠ "__debug__") {M : Model} {A : Around} {E : Value → Shared → Prop} {s : Shared} {h₀ : Heap} {L : Addr} {m : Str → Option Value} {v : Value} {Q : Value → Shared → Prop} (F : Fr h₀ L s.heap m) (hv : m (Str.ofString x) = some v) {pos : Pos} (h : Q v s) :
    wpAny M A (eval (.Name (Str.ofString x) pos) (envX cn cs L a ccd cl)) Q E s := nameX_L F hv h hk hx (beq_eq_false_iff_ne.mpr fun e => hd (ofString_inj e))
theorem storeF {cs : Scope} (hk : cs.kind = .function) {cn : Str} {ccd : Value} {cl : List (Str × Addr)} {a : Addr} {x : String} (hx : List.lookup (Str.ofString x) cs.names = some NameKind.local) {M : Model} {A : Around} {E : Value → Shared → Prop} {h₀ : Heap} {L : Addr} {m : Str → Option Value} {v : Value} {news : List (Addr × Obj)} {heap : Heap} {gens : Array GenState} {drawn : Drawn} {T : Nat} {os : OsState} {Q : Unit → Shared → Prop} (F : Fr h₀ L heap m) (N : News h₀ L heap news)
    (h : ∀ h' tk', Fr h₀ L h' (upd x v m) → News h₀ L h' news → Q () ⟨h', gens, drawn, tk', os⟩) :
    wpAny M A (storeName (envX cn cs L a ccd cl) (Str.ofString x) v) Q E ⟨heap, gens, drawn, T, os⟩ := storeX_L (s := ⟨heap, gens, drawn, T, os⟩) F N (fun h' F' N' => h h' _ F' N') hk hx
theorem nameGK {cs : Scope} (hk : cs.kind = .function) {cn : Str} {ccd : Value} {cl : List (Str × Addr)} {a : Addr} {x : String} (hx : List.lookup (Str.ofString x) cs.names = some NameKind.globalImplicit) (hd : x ≠ "__debug__") {p : Program} {loose : List Str} {K : Frag} {v : Value} {M : Model} {A : Around} {E : Value → Shared → Prop} {s : Shared} {h₀ : Heap} {L : Addr} {m mg mb : Str → Option Value} {Q : Value → Shared → Prop} (F : Fr h₀ L s.heap m) (X : K.In h₀) (T : TopRead p loose mg mb h₀) (e : nsIn K mainGlobals (Str.ofString x) = some (some v)) {pos : Pos} (h : Q v s) :
    wpAny M A (eval (.Name (Str.ofString x) pos) (envX cn cs L a ccd cl)) Q E s := nameX_K F X T e h hk hx (beq_eq_false_iff_ne.mpr fun e => hd (ofString_inj e))
theorem nameGB {cs : Scope} (hk : cs.kind = .function) {cn : Str} {ccd : Value} {cl : List (Str × Addr)} {a : Addr} {x : String} {v : Value} (hx : List.lookup (Str.ofString x) cs.names = some NameKind.globalImplicit) (hd : x ≠ "__debug__") (hv : bootBuiltins (Str.ofString x) = some v) (hn : x ≠ "__name__") {p : Program} {loose : List Str} {K : Frag} {M : Model} {A : Around} {E : Value → Shared → Prop} {s : Shared} {h₀ : Heap} {L : Addr} {m mg mb : Str → Option Value} {Q : Value → Shared → Prop} (F : Fr h₀ L s.heap m) (X : K.In h₀) (T : TopRead p loose mg mb h₀) (e : nsIn K mainGlobals (Str.ofString x) = some none) {pos : Pos} (h : Q v s) :
    wpAny M A (eval (.Name (Str.ofString x) pos) (envX cn cs L a ccd cl)) Q E s := nameX_B F X T e hv (fun e => hn (ofString_inj e)) h hk hx (beq_eq_false_iff_ne.mpr fun e => hd (ofString_inj e))
noncomputable abbrev andThen (rest : List Stmt) (M : Model) (A : Around) (env : Env) (Q : Flow → Shared → Prop) (E : Value → Shared → Prop) (f : Flow) (s : Shared) : Prop :=
  match f with | .next => wpAny M A (execs rest env) Q E s | f => Q f s
theorem execs_g {M : Model} {A : Around} {E : Value → Shared → Prop} {env : Env} {heap : Heap} {gens : Array GenState} {drawn : Drawn} {T : Nat} {os : OsState} {Q : Flow → Shared → Prop} {st : Stmt} {rest : List Stmt} (h : ∀ tk, wpAny M A (exec st env) (andThen rest M A env Q E) E ⟨heap, gens, drawn, tk, os⟩) :
    wpAny M A (execs (st :: rest) env) Q E ⟨heap, gens, drawn, T, os⟩ := wpAny_execs_cons (h T)
theorem execs_one {M : Model} {A : Around} {E : Value → Shared → Prop} {env : Env} {heap : Heap} {gens : Array GenState} {drawn : Drawn} {T : Nat} {os : OsState} {Q : Flow → Shared → Prop} {st : Stmt} (h : ∀ tk, wpAny M A (exec st env) Q E ⟨heap, gens, drawn, tk, os⟩) :
    wpAny M A (execs [st] env) Q E ⟨heap, gens, drawn, T, os⟩ := wpAny_execs_cons (wpAny_mono (h T) (fun f s' q => by
      cases f with
      | next => exact wpAny_execs_nil q
      | _ => exact q) fun _ _ e => e)
theorem constI {M : Model} {A : Around} {E : Value → Shared → Prop} {env : Env} {heap : Heap} {gens : Array GenState} {drawn : Drawn} {T : Nat} {os : OsState} {Q : Value → Shared → Prop} {i : Int} {pos : Pos} {k : Nat} (h : Q (.int i T) ⟨heap, gens, drawn, T + 1, os⟩) : wpAny M A (eval (.Constant (.int i) k pos) env) Q E ⟨heap, gens, drawn, T, os⟩ := wpAny_Constant_int h
theorem constS {M : Model} {A : Around} {E : Value → Shared → Prop} {env : Env} {heap : Heap} {gens : Array GenState} {drawn : Drawn} {T : Nat} {os : OsState} {Q : Value → Shared → Prop} {x : Str} {pos : Pos} {k : Nat} (h : Q (.str x T) ⟨heap, gens, drawn, T + 1, os⟩) : wpAny M A (eval (.Constant (.str x) k pos) env) Q E ⟨heap, gens, drawn, T, os⟩ := wpAny_Constant_str h
section
variable {prog : Program} {w : World} {A : Around} {E : Value → Shared → Prop} {heap : Heap} {gens : Array GenState} {drawn : Drawn} {T : Nat} {os : OsState} {Q : Value → Shared → Prop} {a b : Int} {t u : Tok}
theorem addI (h : Q (.int (a + b) T) ⟨heap, gens, drawn, T + 1, os⟩) : wpAny (model prog w) A (binaryOp .Add (.int a t) (.int b u)) Q E ⟨heap, gens, drawn, T, os⟩ := add_int h
theorem subI (h : Q (.int (a - b) T) ⟨heap, gens, drawn, T + 1, os⟩) : wpAny (model prog w) A (binaryOp .Sub (.int a t) (.int b u)) Q E ⟨heap, gens, drawn, T, os⟩ := sub_int h
end


theorem consE {n n' : Int} {t : Tok} {vs : List Value} {ns : List Int} (e : n = n') (h : IntsAre vs ns) : IntsAre (.int n t :: vs) (n' :: ns) := e ▸ .cons _ _ h
theorem snocE {n n' : Int} {t : Tok} {vs : List Value} {ns : List Int} (h : IntsAre vs ns) (e : n = n') : IntsAre (vs ++ [.int n t]) (ns ++ [n']) := e ▸ ints_snoc h
end
section
open PySem PySem.W PySem.Spec PySem.Calls PyProof.Rows PyProof.Rows.LCg
section
variable {prog : Program} {w : World} {A : Around} {E : Value → Shared → Prop} {env : Env} {h₀ : Heap} {x : String} {body : List Stmt} {Q : Flow → Shared → Prop} {m₀ : Str → Option Value} {news need : List (Addr × Obj)} {xv : Value} {n : Nat} {P : Nat → Value → Prop}
  {heap : Heap} {gens : Array GenState} {drawn : Drawn} {T : Nat} {os : OsState}
/-- a for loop whose turns do not see what is asked of them -/
theorem for_srcH {L : Addr} (S : Src prog w A h₀ need xv n P ⟨heap, gens, drawn, T, os⟩) (F : Fr h₀ L heap m₀) (N : News h₀ L heap news) (hneed : ∀ p ∈ need, p ∈ news) (J : Nat → (Str → Option Value) → List (Addr × Obj) → Prop) (hj : J 0 m₀ news)
    (turn : ∀ i v m₁ news₁ h tk I oI (WQ : Flow → Shared → Prop), (∀ h' tk' m' news', Fr h₀ L h' m' → News h₀ L h' ((I, oI) :: news') → (∀ p ∈ news', p.1 ≠ I) → (∀ p ∈ need, p ∈ news') → J (i + 1) m' news' → WQ .next ⟨h', gens, drawn, tk', os⟩) →
      i < n → P i v → J i m₁ news₁ → Fr h₀ L h (upd x v m₁) → News h₀ L h ((I, oI) :: news₁) → (∀ p ∈ news₁, p.1 ≠ I) → (∀ p ∈ need, p ∈ news₁) →
      wpAny (model prog w) A (execs body env) WQ E ⟨h, gens, drawn, tk, os⟩)
    (done : ∀ m₁ news₁ h tk, J n m₁ news₁ → Fr h₀ L h m₁ → News h₀ L h news₁ → Q .next ⟨h, gens, drawn, tk, os⟩) (hL : env.locals = L := by rfl) :
    wpAny (model prog w) A (pyIter xv) (fun it s₂ => LoopAtV prog w A h₀ env (Str.ofString x) body Q E it s₂) E ⟨heap, gens, drawn, T, os⟩ :=
  for_src (s := ⟨heap, gens, drawn, T, os⟩) S F N hneed J hj (fun i v m₁ news₁ h tk I oI h1 h2 h3 F' N' h4 h5 => turn i v m₁ news₁ h tk I oI _ (fun h' tk' m' news' F₂ N₂ o nd j => ⟨h', tk', m', news', rfl, F₂, N₂, o, nd, j⟩) h1 h2 h3 F' N' h4 h5) done hL
end
end
section
open PySem PySem.W PySem.Spec PySem.Calls PyProof.Rows PyProof.Rows.LCg
section
variable {prog : Program} {w : World} {A : Around} {E : Value → Shared → Prop} {h₀ : Heap} {L : Addr} {m : Str → Option Value} {env : Env} {heap : Heap} {gens : Array GenState} {drawn : Drawn} {T : Nat} {os : OsState}
/-- a quiet list block whose turns do not see what is asked of them -/
theorem comp_quietH {elt : Expr} {x : Str} {ifs : List Expr} {scope : Scope} {cl : List (Str × Addr)} {Q : Value → Shared → Prop} {xv : Value} {n : Nat} {P : Nat → Value → Prop} {news need : List (Addr × Obj)}
    (S : Src prog w A h₀ need xv n P ⟨heap, gens, drawn, T, os⟩) (hsz : n ≤ 16777216) (F : Fr h₀ L heap m) (N : News h₀ L heap news) (hneed : ∀ p ∈ need, p ∈ news) (G : Nat → List Value → Prop) (hG : G 0 [])
    (turn : ∀ i ys v I oI C oC D m₂ h tk (E' : Value → Shared → Prop) (WV : Value → Shared → Prop) (WF : Shared → Prop),
      (∀ y h' tk', Fr h₀ L h' m → News h₀ L h' ((I, oI) :: (C, oC) :: (D, lst ys) :: news) → G (i + 1) (ys ++ [y]) → WV y ⟨h', gens, drawn, tk', os⟩) →
      (∀ h' tk', Fr h₀ L h' m → News h₀ L h' ((I, oI) :: (C, oC) :: (D, lst ys) :: news) → G (i + 1) ys → WF ⟨h', gens, drawn, tk', os⟩) →
      i < n → G i ys → P i v → NsObj oC m₂ → m₂ x = some v → Fr h₀ L h m → News h₀ L h ((I, oI) :: (C, oC) :: (D, lst ys) :: news) →
      wpAny (model prog w) A (forIn ifs true fun c r => if r = true then do let ok ← isTrue c (compEnvC scope cl C env) (eval c (compEnvC scope cl C env)); pure (ForInStep.yield ok) else pure (ForInStep.yield r))
        (fun ok s₃ => if ok = true then wpAny (model prog w) A (eval elt (compEnvC scope cl C env)) WV E' s₃ else WF s₃) E' ⟨h, gens, drawn, tk, os⟩)
    (fin : ∀ D h tk ys, Fr h₀ L h m → News h₀ L h ((D, lst ys) :: news) → Off1 D news → G n ys → Q (.ref D) ⟨h, gens, drawn, tk, os⟩) : CompAt prog w A h₀ L m env elt x ifs scope cl Q xv ⟨heap, gens, drawn, T, os⟩ :=
  comp_quiet (s := ⟨heap, gens, drawn, T, os⟩) S hsz F N hneed G hG (fun i ys v I oI C oC D m₂ h tk E' a b c d e f g => turn i ys v I oI C oC D m₂ h tk E' _ _ (fun y h' tk' F' N' z => ⟨h', tk', rfl, F', N', z⟩) (fun h' tk' F' N' z => ⟨h', tk', rfl, F', N', z⟩) a b c d e f g) fin
end
end
section
open PySem PySem.W PySem.Spec PySem.Calls PyProof.Rows PyProof.Rows.LCg
noncomputable abbrev kBin2 (op : Operator) (M : Model) (A : Around) (E : Value → Shared → Prop) (a : Value) (Q : Value → Shared → Prop) (b : Value) (s : Shared) : Prop := wpAny M A (binaryOp op a b) Q E s
noncomputable abbrev kBin (op : Operator) (r : Expr) (M : Model) (A : Around) (E : Value → Shared → Prop) (env : Env) (Q : Value → Shared → Prop) (a : Value) (s : Shared) : Prop := wpAny M A (eval r env) (kBin2 op M A E a Q) E s
noncomputable abbrev kTru (M : Model) (A : Around) (E : Value → Shared → Prop) (Q : Bool → Shared → Prop) (c : Value) (s : Shared) : Prop := wpAny M A (truthy c) Q E s
noncomputable abbrev kCmp2 (op : CmpOp) (M : Model) (A : Around) (E : Value → Shared → Prop) (a : Value) (Q : Bool → Shared → Prop) (b : Value) (s : Shared) : Prop := wpAny M A (compareOp op a b) (kTru M A E Q) E s
noncomputable abbrev kCmp (op : CmpOp) (r : Expr) (M : Model) (A : Around) (E : Value → Shared → Prop) (env : Env) (Q : Bool → Shared → Prop) (a : Value) (s : Shared) : Prop := wpAny M A (eval r env) (kCmp2 op M A E a Q) E s
noncomputable abbrev kCmpV2 (op : CmpOp) (M : Model) (A : Around) (E : Value → Shared → Prop) (a : Value) (Q : Value → Shared → Prop) (b : Value) (s : Shared) : Prop := wpAny M A (compareOp op a b) Q E s
noncomputable abbrev kCmpV (op : CmpOp) (r : Expr) (M : Model) (A : Around) (E : Value → Shared → Prop) (env : Env) (Q : Value → Shared → Prop) (a : Value) (s : Shared) : Prop := wpAny M A (eval r env) (kCmpV2 op M A E a Q) E s
noncomputable abbrev kSt (x : Str) (M : Model) (A : Around) (E : Value → Shared → Prop) (env : Env) (Q : Flow → Shared → Prop) (v : Value) (s : Shared) : Prop := wpAny M A (storeName env x v) (kSt2 Q) E s
noncomputable abbrev kArgs2 (Q : List Value → Shared → Prop) (v : Value) (vs : List Value) (s : Shared) : Prop := Q (v :: vs) s
noncomputable abbrev kArgs (pos : Pos) (rest : List Expr) (M : Model) (A : Around) (E : Value → Shared → Prop) (env : Env) (Q : List Value → Shared → Prop) (v : Value) (s : Shared) : Prop := wpAny M A (spliced (backTo pos (starEach rest env))) (kArgs2 Q v) E s
noncomputable abbrev kCall (pos : Pos) (args : List Expr) (M : Model) (A : Around) (E : Value → Shared → Prop) (env : Env) (Q : Value → Shared → Prop) (f : Value) (s : Shared) : Prop := wpAny M A (callWith pos f [] (backTo pos (starEach args env)) []) Q E s
noncomputable abbrev kMeth2 (pos : Pos) (args : List Expr) (M : Model) (A : Around) (E : Value → Shared → Prop) (env : Env) (Q : Value → Shared → Prop) (fx : Value × List Value) (s : Shared) : Prop := wpAny M A (callWith pos fx.1 fx.2 (backTo pos (starEach args env)) []) Q E s
noncomputable abbrev kMeth (pos : Pos) (args : List Expr) (name : Str) (M : Model) (A : Around) (E : Value → Shared → Prop) (env : Env) (pl : Sem Bool) (Q : Value → Shared → Prop) (ov : Value) (s : Shared) : Prop := wpAny M A (getMethod ov name pl) (kMeth2 pos args M A E env Q) E s
noncomputable abbrev kNewL (M : Model) (A : Around) (E : Value → Shared → Prop) (Q : Value → Shared → Prop) (vs : List Value) (s : Shared) : Prop := wpAny M A (newList vs) Q E s
theorem BinOpC {M : Model} {A : Around} {E : Value → Shared → Prop} {env : Env} {s : Shared} {l r : Expr} {op : Operator} {pos : Pos} {Q : Value → Shared → Prop} (h : wpAny M A (eval l env) (kBin op r M A E env Q) E s) : wpAny M A (eval (.BinOp l op r pos) env) Q E s := wpAny_BinOp h
theorem isTrueC {M : Model} {A : Around} {E : Value → Shared → Prop} {env : Env} {s : Shared} {l r : Expr} {op : CmpOp} {pos : Pos} {whole : Sem Value} {Q : Bool → Shared → Prop} (h : wpAny M A (eval l env) (kCmp op r M A E env Q) E s) (hm : behindInMarks op r = false := by with_unfolding_all rfl) : wpAny M A (isTrue (.Compare l [op] [r] pos) env whole) Q E s := wpAny_isTrue_Compare1 h hm
theorem CompareC {M : Model} {A : Around} {E : Value → Shared → Prop} {env : Env} {s : Shared} {l r : Expr} {op : CmpOp} {pos : Pos} {Q : Value → Shared → Prop} (h : wpAny M A (eval l env) (kCmpV op r M A E env Q) E s) (hm : behindInMarks op r = false := by with_unfolding_all rfl) : wpAny M A (eval (.Compare l [op] [r] pos) env) Q E s := wpAny_Compare1 h hm
theorem AssignC {M : Model} {A : Around} {E : Value → Shared → Prop} {env : Env} {s : Shared} {x : Str} {p pos : Pos} {value : Expr} {Q : Flow → Shared → Prop} (h : wpAny M A (eval value env) (kSt x M A E env Q) E s) (hs : swapsWith value (some (.Name x p)) pos.line env = pure false := by with_unfolding_all rfl) : wpAny M A (exec (.Assign [.Name x p] value pos) env) Q E s := wpAny_Assign_Name h hs
theorem argsC {M : Model} {A : Around} {E : Value → Shared → Prop} {env : Env} {s : Shared} {e : Expr} {rest : List Expr} {pos : Pos} {Q : List Value → Shared → Prop} (h : wpAny M A (eval e env) (kArgs pos rest M A E env Q) E s) (he : starEach (e :: rest) env = (false, eval e env) :: starEach rest env := by with_unfolding_all rfl) : wpAny M A (spliced (backTo pos (starEach (e :: rest) env))) Q E s := args_cons h he
theorem CallC {M : Model} {A : Around} {E : Value → Shared → Prop} {env : Env} {s : Shared} {func : Expr} {args : List Expr} {pos : Pos} {Q : Value → Shared → Prop} (h : wpAny M A (eval func env) (kCall pos args M A E env Q) E s) (he : eval (.Call func args [] pos) env = (do callWith pos (← eval func env) [] (backTo pos (starEach args env)) (backToKw pos (keywordEach [] env))) := by with_unfolding_all rfl) : wpAny M A (eval (.Call func args [] pos) env) Q E s := Call_ h he
theorem MethC {M : Model} {A : Around} {E : Value → Shared → Prop} {env : Env} {s : Shared} {o : Expr} {name : Str} {apos pos : Pos} {args : List Expr} {pl : Sem Bool} {Q : Value → Shared → Prop} (h : wpAny M A (eval o env) (kMeth pos args name M A E env pl Q) E s)
    (he : eval (.Call (.Attribute o name apos) args [] pos) env = (do
      let ov ← eval o env
      standAt apos.atName
      let (f, first) ← holding [ov] (getMethod ov name pl)
      callWith pos f first (backTo pos (starEach args env)) []) := by with_unfolding_all rfl) : wpAny M A (eval (.Call (.Attribute o name apos) args [] pos) env) Q E s := MethodCall_ h he
theorem ListC {M : Model} {A : Around} {E : Value → Shared → Prop} {env : Env} {s : Shared} {elts : List Expr} {pos : Pos} {Q : Value → Shared → Prop} (h : wpAny M A (spliced (backTo pos (starEach elts env))) (kNewL M A E Q) E s) : wpAny M A (eval (.List elts pos) env) Q E s := List_ h
end
section
open PySem PySem.W PySem.Spec PySem.Calls PyProof.Rows
/-- what is known of the ground under a frame, where exceptions may have been caught -/
structure Grd (w : World) (mean : ExcName → Option Value) (mg mb : Str → Option Value) (A₀ : Around) (base : Heap) (outer : List Env) (h₀ : Heap) : Prop where
  B : Below A₀ base outer h₀
  X : (K w.params).In h₀
  T : Top q (looseW q loose) mean mg mb h₀
  D : KtsDicts (outer.filterMap (·.frame)) h₀
  XB : (K w.params).In base
  TB : Top q (looseW q loose) mean mg mb base
noncomputable def LeaveT (w : World) (mean : ExcName → Option Value) (mg mb : Str → Option Value) (A₀ : Around) (base : Heap) (outer : List Env) (env : Env) (h₀ : Heap) (L : Addr) (m : Str → Option Value) (g : Heap) (R : Result → Shared → Prop) (v : Value) (s' : Shared) : Prop :=
  ∃ g' L' m' news', KtsTurn ((env :: outer).filterMap (·.frame)) g g' ∧ Fr g' L' s'.heap m' ∧ News g' L' s'.heap news' ∧
    ∀ h₀', Grd w mean mg mb A₀ base outer h₀' → KtsTurn (outer.filterMap (·.frame)) h₀ h₀' → Fr h₀' L s'.heap m → News h₀' L s'.heap news' → R (.ok (.ret v)) s'
section
variable {w : World} {mean : ExcName → Option Value} {mg mb : Str → Option Value} {A A₀ : Around} {base h₀ g g' : Heap} {outer : List Env} {env : Env} {L L' : Addr} {m m' : Str → Option Value} {R : Result → Shared → Prop} {v : Value} {s s' : Shared} {news news' : List (Addr × Obj)}
theorem leaveT_ (F' : Fr g' L' s'.heap m') (N' : News g' L' s'.heap news') (T : KtsTurn ((env :: outer).filterMap (·.frame)) g g')
    (k : ∀ h₀', Grd w mean mg mb A₀ base outer h₀' → KtsTurn (outer.filterMap (·.frame)) h₀ h₀' → Fr h₀' L s'.heap m → News h₀' L s'.heap news' → R (.ok (.ret v)) s') : LeaveT w mean mg mb A₀ base outer env h₀ L m g R v s' := ⟨g', L', m', news', T, F', N', k⟩
theorem mem_env {b : Addr} (hf : env.frame = some L) (hm : b ∈ (env :: outer).filterMap (·.frame)) : b = L ∨ b ∈ outer.filterMap (·.frame) := by
  obtain ⟨e, he, hf'⟩ := List.mem_filterMap.mp hm
  rcases List.mem_cons.mp he with rfl | he
  · rw [hf] at hf'; exact .inl (Option.some.inj hf').symm
  · exact .inr (List.mem_filterMap.mpr ⟨e, he, hf'⟩)
theorem turn_nil (T : KtsTurn [] h₀ g') (F : Fr g' L s.heap m) (N : News g' L s.heap news) : Fr h₀ L s.heap m ∧ News h₀ L s.heap news := by
  have hk : ∀ b o, h₀.get? b = some o → g'.get? b = some o := fun b o e => T.other b o e (by simp)
  refine ⟨⟨F.ns, fun b o e => F.keep b o (hk b o e), by rw [← T.size]; exact F.above⟩, fun p hp => ⟨(N p hp).1, (N p hp).2.1, ?_⟩⟩
  cases e : h₀.get? p.1 with
  | none => rfl
  | some o => have := (N p hp).2.2; rw [hk _ _ e] at this; cases this

variable {name qual : Str} {params : Arguments} {body : List Stmt} {scope : Scope} {dV kV pm cdv : Value} {f : Addr} {args : Args} {binds : List (Str × Value)} {src : Option (Arguments × List Stmt × Scope)}
theorem fn_enterT (G : Grd w mean mg mb A₀ base outer h₀) (F : Fr h₀ L s.heap m) (N : News h₀ L s.heap news) (hA : A.frames = some (env :: outer)) (hf : env.frame = some L) (hke : env.scope.kind = .function)
    (ho : (K w.params).lookup f = some (foOf src name qual dV kV pm cdv)) (hsrc : src = some (params, body, scope)) (hcd : codeIn (K w.params) cdv qual = true) (hroom : A.depth < recursionLimit)
    (hbind : BindsTo s (fnOf name qual params body scope dV kV .none pm none cdv .none) args binds) (hloc : ∀ y ∈ binds, scope.names.lookup y.1 = some .local)
    (h : ∀ g L' h₁, Fr h₀ L g m → Fr g L' h₁ (fun y => binds.reverse.lookup y) → News g L' h₁ news → Below A base (env :: outer) g → (K w.params).In g → Top q (looseW q loose) mean mg mb g → KtsDicts ((env :: outer).filterMap (·.frame)) g → (∀ p ∈ news, p.1 < L') →
      wpAny (model PySem.Challenge.pw_kt0081_01 w) (A.deeper (envOf qual scope L' f cdv)) (execs body (envOf qual scope L' f cdv))
        (fun fl s' => LeaveT w mean mg mb A₀ base outer env h₀ L m g R (match fl with | .ret v => v | _ => .none) s')
        (fun e s' => wpAny (model PySem.Challenge.pw_kt0081_01 w) (A.deeper (envOf qual scope L' f cdv)) (leaving (envOf qual scope L' f cdv) e) (fun _ s'' => R (.error e) s'') (fun e' s'' => R (.error e') s'') s')
        { s with heap := h₁, toks := s.toks + binds.length })
    (hco : scope.isCoroutine = false) (hgen : scope.isGenerator = false) (hk : scope.kind = .function)
    (hcell : ∀ x ∈ scope.names, x.2 ≠ .cell) : codeAny (model PySem.Challenge.pw_kt0081_01 w) A (.call (.ref f) args) R s := by
  subst hsrc
  have X := G.X.keeps F.keep
  obtain ⟨FG, BG, st, _⟩ := groundX (R := R) G.B F N hA hf hke
  refine codeAny_call_def (fd := fnOf name qual params body scope dV kV .none pm none cdv .none) (body := body) (binds := binds) hroom (X _ _ ho) rfl (G.T.nolimit.keeps F.keep) (codeRec_of X hcd) rfl hbind hcell hloc (fun h₁ hns hk₁ => ?_) hco hgen hk
  obtain ⟨oL, es, ep, hLg, hLd, hLk, hLf⟩ := FG.ns
  refine wpAny_mono (h _ s.heap.objs.size h₁ FG ⟨hns, fun b o e => hk₁ b o (of_hideAll _ e), Nat.le_of_eq (hideAll_size _ _)⟩
    (fun p hp => ⟨hk₁ _ _ (N p hp).1, Nat.ne_of_lt (Heap.lt_size (N p hp).1), hideAll_none _ (List.mem_map_of_mem hp)⟩) BG (G.X.keeps st) (G.T.keeps st) (fun b hb => by
      rcases mem_env hf hb with rfl | hb
      · exact ⟨oL, es, ep, hLg, hLd⟩
      · obtain ⟨o, es', n', ho', hd'⟩ := G.D b hb
        exact ⟨o, es', n', st b o ho', hd'⟩) (fun p hp => Heap.lt_size (N p hp).1)) (fun fl s' hl => ?_) fun _ _ y => y
  have nL₀ : h₀.get? L = none := kts_self F
  obtain ⟨g', L', m', news', T', F', N', k⟩ := hl
  obtain ⟨sl, hs⟩ := T'.up hLg
  obtain ⟨T₁, S₁⟩ := kts_turn_at (h := s'.heap) (fs := outer.filterMap (·.frame)) (g := h₀)
    (fun b hb => by
      obtain ⟨_, o, ho', _⟩ := G.B.frames.mem hb
      exact ⟨o, ho'⟩)
    (fun b o e nmem => F'.keep b o (T'.other b o (st b o e) (fun q => by
      rcases mem_env hf q with z | z
      · rw [z, nL₀] at e
        cases e
      · exact nmem z)))
    (fun b o e hm => by
      obtain ⟨sl', hs'⟩ := T'.up (st b o e)
      exact ⟨sl', F'.keep _ _ hs'⟩)
  have B₃ : Below A₀ base outer (ktsHeap s'.heap (outer.filterMap (·.frame)) h₀) := ⟨G.B.stack, fun b o e => T₁.other b o (G.B.stays b o e) (fun hm => by
    rw [(G.B.frames.mem hm).1] at e
    cases e), G.B.frames.of_keeps fun b o e _ => by
    obtain ⟨sl', hs'⟩ := T₁.up e
    exact ⟨_, hs', rfl⟩⟩
  refine k _ ⟨B₃, G.XB.keeps B₃.stays, G.TB.keeps B₃.stays, G.D.turn T₁, G.XB, G.TB⟩ T₁ ⟨⟨_, es, ep, F'.keep _ _ hs, hLd, hLk, hLf⟩, S₁, by rw [T₁.size]; exact F.above⟩ (fun p hp => ⟨(N' p hp).1, fun q => ?_, ?_⟩)
  · have := (N' p hp).2.2; rw [q, hs] at this; cases this
  · refine T₁.none_ _ ?_
    cases q : h₀.get? p.1 with
    | none => rfl
    | some o =>
      obtain ⟨sl', hs'⟩ := T'.up (st _ _ q)
      have := (N' p hp).2.2
      rw [hs'] at this
      cases this
end
section
variable {w : World} {mean : ExcName → Option Value} {mg mb : Str → Option Value} {M : Model} {A A₀ : Around} {E : Value → Shared → Prop} {base g G : Heap} {outer : List Env} {L a e t : Addr} {m : Str → Option Value} {name : Str} {scope : Scope} {cd : Value} {s : Shared} {vs : List Value} {news : List (Addr × Obj)} {X : String}
theorem owit_stopT {Q : Option Value → Shared → Prop} (R : RaisedS base G (envOf name scope L a cd :: outer) e (.type X) t vs news s.heap) (F : Fr g L G m) (Gr : Grd w mean mg mb A₀ base outer g) (hsm : G.UpToSlots s.heap)
    (hsub : isSubtype (.type X) (.type "StopIteration") = pure true)
    (k : ∀ g', Grd w mean mg mb A₀ base outer g' → KtsTurn (outer.filterMap (·.frame)) g g' → Fr g' L s.heap m → News g' L s.heap news → Q none s) : OwitStop M A Q E (.ref e) s := by
  obtain ⟨⟨B, hB, hBG, hl, hfl, hnew⟩, htup⟩ := R
  have hL : B.get? L = none := by
    obtain ⟨_, ⟨L', _, hf, hn', _⟩, _⟩ := hfl.2.2.1
    obtain rfl : L = L' := Option.some.inj hf
    exact hn'
  obtain ⟨g₅, T₅, F₅, K₅⟩ := kts_ground Gr.B F hBG hfl.1 hsm
  obtain ⟨ob, hob, hobc⟩ := hfl.there
  have hT : s.TypeIs (.ref e) X := (show ∃ o, s.heap.get? e = some o ∧ o.cls = .type X from ⟨ob, hob, hobc⟩)
  unfold OwitStop
  refine wpAny_isInstance hT hsub ?_
  show (if true = true then Q none s else E (.ref e) s)
  rw [if_pos rfl]
  exact k g₅ ⟨K₅, Gr.XB.keeps K₅.stays, Gr.TB.keeps K₅.stays, Gr.D.turn T₅, Gr.XB, Gr.TB⟩ T₅ F₅ fun q hq => ⟨hfl.1 _ _ (hl q hq).1, (fun z => by have := (hl q hq).1; rw [z, hL] at this; cases this), T₅.none_ _ (kts_none F.keep (hl q hq).2.1)⟩
end
end
section
open PySem PySem.W PySem.Spec PySem.Calls PyProof.Rows
theorem repS_len (y z : List Nat) (h : z.length ≤ y.length) : ∀ (n : Nat) (k : Nat) (l : List Nat), l.length ≤ n → (repS y z k l).length ≤ l.length - min k l.length := by
  intro n
  induction n with
  | zero =>
    intro k l hl
    rw [List.length_eq_zero_iff.mp (Nat.le_zero.mp hl)]
    cases k <;> simp [repS]
  | succ n ih =>
    intro k l hl
    cases l with
    | nil => cases k <;> simp [repS]
    | cons a l =>
      rw [repS_skip]
      by_cases hk : k = 0
      · subst hk
        rw [List.drop_zero]
        by_cases hp : y <+: (a :: l)
        · obtain ⟨r, hr⟩ := hp
          by_cases hy : y = []
          · have hz : z = [] := by rw [hy] at h; exact List.length_eq_zero_iff.mp (Nat.le_zero.mp h)
            subst hy hz
            have : ∀ l : List Nat, (repS [] [] 0 l).length ≤ l.length := by
              intro l
              induction l with
              | nil => simp [repS]
              | cons b l ih2 => simp [repS]; lia
            have := this (a :: l)
            omega
          · rw [← hr, repS_hit _ _ _ hy, List.length_append, List.length_append]
            have hy0 : 0 < y.length := List.length_pos_iff.mpr hy
            have hlen : y.length + r.length = l.length + 1 := by rw [← List.length_append, hr]; rfl
            have := ih 0 r (by simp at hl; lia)
            lia
        · rw [repS_miss _ _ _ _ hp, List.length_cons]
          have := ih 0 l (by simp at hl; omega)
          simp at this ⊢
          omega
      · have := ih 0 ((a :: l).drop k) (by rw [List.length_drop]; simp at hl ⊢; lia)
        rw [List.length_drop] at this
        simp at this ⊢
        omega
theorem replace_len (x y z : Str) (hy : y.cps.toList ≠ []) (h : z.length ≤ y.length) : (Txt.replace x y z).length ≤ x.length := by
  have e := replace_toList x y z hy
  have := repS_len y.cps.toList z.cps.toList (by simpa [PySem.Str.length] using h) x.cps.toList.length 0 x.cps.toList (Nat.le_refl _)
  rw [← e] at this
  simp [PySem.Str.length] at this ⊢
  exact this
/-- the references put back -/
noncomputable def unesc (ps : List (Str × Nat)) (x : Str) : Str := ps.foldl (fun x p => Txt.replace x p.1 ⟨#[p.2]⟩) x
theorem unesc_len (ps : List (Str × Nat)) (h : ∀ p ∈ ps, 1 ≤ p.1.length) : ∀ x : Str, (unesc ps x).length ≤ x.length := by
  induction ps with
  | nil => intro x; exact Nat.le_refl _
  | cons p ps ih =>
    intro x
    have hp := h p List.mem_cons_self
    refine Nat.le_trans (ih (fun q hq => h q (List.mem_cons_of_mem _ hq)) _) (replace_len x p.1 ⟨#[p.2]⟩ ?_ hp)
    intro e
    simp [PySem.Str.length] at hp
    simp at e
    rw [e] at hp
    simp at hp
noncomputable def white (k : Int) : List Str := if k = 3 then ["&#09;", "&#10;", "&#13;"] else ["&#x9;", "&#xA;", "&#xD;"]
noncomputable def pairs (k : Int) : List (Str × Nat) := ((["&lt;", "&gt;", "&quot;"] : List Str) ++ white k ++ (["&amp;"] : List Str)).zip [60, 62, 34, 9, 10, 13, 38]
theorem unesc_take {ps : List (Str × Nat)} {i : Nat} {p : Str × Nat} {x : Str} (h : ps[i]? = some p) : unesc (ps.take (i + 1)) x = Txt.replace (unesc (ps.take i) x) p.1 ⟨#[p.2]⟩ := by
  unfold unesc
  rw [List.take_add_one, h, List.foldl_append]; rfl
/-- a reference: an ampersand, a body, a semicolon -/
noncomputable def Good (r : List Nat) : Prop := ∃ b, r = 38 :: (b ++ [59]) ∧ 38 ∉ b ∧ 59 ∉ b
noncomputable def subF (f : Nat → Option (List Nat)) (a : Nat) : List Nat := match f a with
  | some r => r
  | none => [a]
theorem pfx_body : ∀ (b1 b2 rest : List Nat), 59 ∉ b1 → 59 ∉ b2 → (b1 ++ [59]) <+: (b2 ++ [59]) ++ rest → b1 = b2
  | [], [], _, _, _, _ => rfl
  | [], c :: b2, rest, _, h2, h => by
    obtain ⟨t, ht⟩ := h
    simp at ht
    exact absurd (by simp [ht.1]) h2
  | a :: b1, [], rest, h1, _, h => by
    obtain ⟨t, ht⟩ := h
    simp at ht
    exact absurd (by simp [ht.1]) h1
  | a :: b1, c :: b2, rest, h1, h2, h => by
    obtain ⟨t, ht⟩ := h
    simp only [List.cons_append, List.cons.injEq] at ht
    have := pfx_body b1 b2 rest (fun q => h1 (List.mem_cons_of_mem _ q)) (fun q => h2 (List.mem_cons_of_mem _ q)) ⟨t, by simpa using ht.2⟩
    rw [ht.1, this]
theorem good_pfx {y r rest : List Nat} (hy : Good y) (hr : Good r) (h : y <+: r ++ rest) : y = r := by
  obtain ⟨b1, rfl, _, h1⟩ := hy
  obtain ⟨b2, rfl, _, h2⟩ := hr
  obtain ⟨t, ht⟩ := h
  simp only [List.cons_append, List.cons.injEq, true_and] at ht
  rw [pfx_body b1 b2 rest h1 h2 ⟨t, by simpa using ht⟩]
theorem good_head {y l : List Nat} {a : Nat} (hy : Good y) (ha : a ≠ 38) : ¬ y <+: a :: l := by
  obtain ⟨b, rfl, _, _⟩ := hy
  rintro ⟨t, ht⟩
  simp at ht
  exact ha ht.1.symm
theorem good_ne {y : List Nat} (hy : Good y) : y ≠ [] := by obtain ⟨b, rfl, _⟩ := hy; simp
/-- one kind of reference put back -/
theorem unref (f : Nat → Option (List Nat)) (y : List Nat) (c : Nat) (hy : Good y) (hg : ∀ a r, f a = some r → Good r) (h38 : f 38 ≠ none) (hc : ∀ a, f a = some y → a = c) :
    ∀ l : List Nat, repS y [c] 0 (l.flatMap (subF f)) = l.flatMap (subF fun a => if f a = some y then none else f a)
  | [] => by simp [repS]
  | a :: l => by
    have ih := unref f y c hy hg h38 hc l
    rw [List.flatMap_cons, List.flatMap_cons, ← ih]
    cases hf : f a with
    | none =>
      have ha : a ≠ 38 := fun e => h38 (e ▸ hf)
      have e1 : subF f a = [a] := by unfold subF; rw [hf]
      have e2 : subF (fun a => if f a = some y then none else f a) a = [a] := by unfold subF; simp [hf]
      rw [e1, e2, List.singleton_append, repS_miss _ _ _ _ (good_head hy ha)]; rfl
    | some r =>
      have hr := hg a r hf
      have e1 : subF f a = r := by unfold subF; rw [hf]
      rw [e1]
      by_cases e : r = y
      · subst e
        have e2 : subF (fun a => if f a = some r then none else f a) a = [a] := by unfold subF; simp [hf]
        rw [e2, repS_hit _ _ _ (good_ne hy), hc a hf]
      · have e2 : subF (fun a => if f a = some y then none else f a) a = r := by unfold subF; simp [hf, e]
        rw [e2, repS_upto y [c] r.length]
        · simp
        · intro k hk hp
          cases k with
          | zero => exact e (good_pfx hy hr (by simpa using hp)).symm
          | succ k =>
            obtain ⟨b, rfl, h1, _⟩ := hr
            rw [List.cons_append, List.drop_succ_cons] at hp
            have hk' : k < (b ++ [59]).length := by simpa using hk
            have : (b ++ [59] ++ l.flatMap (subF f)).drop k = (b ++ [59])[k] :: (b ++ [59] ++ l.flatMap (subF f)).drop (k + 1) := by
              rw [List.drop_eq_getElem_cons (by rw [List.length_append]; omega)]
              rw [List.getElem_append_left hk']
            rw [this] at hp
            refine good_head hy ?_ hp
            intro e
            have hm : (38 : Nat) ∈ b ++ [59] := e ▸ List.getElem_mem hk'
            rcases List.mem_append.mp hm with hm | hm
            · exact h1 hm
            · simp at hm
        · rw [List.length_append]; lia
theorem unrefs : ∀ (ps : List (List Nat × Nat)) (f : Nat → Option (List Nat)), (∀ p ∈ ps, Good p.1) → (∀ a r, f a = some r → Good r) → (∀ p ∈ ps, f 38 ≠ some p.1) → f 38 ≠ none → (∀ p ∈ ps, ∀ a, f a = some p.1 → a = p.2) →
    ∀ l : List Nat, ps.foldl (fun l p => repS p.1 [p.2] 0 l) (l.flatMap (subF f)) = l.flatMap (subF fun a => if ∃ p ∈ ps, f a = some p.1 then none else f a)
  | [], f, _, _, _, _, _, l => by simp
  | p :: ps, f, h1, h2, h3, h4, h5, l => by
    rw [List.foldl_cons, unref f p.1 p.2 (h1 p List.mem_cons_self) h2 h4 (h5 p List.mem_cons_self)]
    have h38 : (if f 38 = some p.1 then none else f 38) = f 38 := if_neg (h3 p List.mem_cons_self)
    have sub : ∀ a r, (if f a = some p.1 then none else f a) = some r → f a = some r := by
      intro a r h
      split at h
      · cases h
      · exact h
    rw [unrefs ps (fun a => if f a = some p.1 then none else f a) (fun q hq => h1 q (List.mem_cons_of_mem _ hq)) (fun a r h => h2 a r (sub a r h)) (fun q hq => by rw [h38]; exact h3 q (List.mem_cons_of_mem _ hq)) (by rw [h38]; exact h4)
      (fun q hq a h => h5 q (List.mem_cons_of_mem _ hq) a (sub a _ h))]
    congr 1
    funext a
    unfold subF
    congr 1
    show (if ∃ q ∈ ps, (if f a = some p.1 then none else f a) = some q.1 then none else if f a = some p.1 then none else f a) = if ∃ q ∈ p :: ps, f a = some q.1 then none else f a
    by_cases e1 : f a = some p.1
    · have : ∃ q ∈ p :: ps, f a = some q.1 := ⟨p, List.mem_cons_self, e1⟩
      rw [if_pos this]
      simp [e1]
    · simp only [if_neg e1]
      by_cases e2 : ∃ q ∈ ps, f a = some q.1
      · obtain ⟨q, hq, hq'⟩ := e2
        rw [if_pos ⟨q, hq, hq'⟩, if_pos ⟨q, List.mem_cons_of_mem _ hq, hq'⟩]
      · rw [if_neg e2, if_neg]
        rintro ⟨q, hq, hq'⟩
        rcases List.mem_cons.mp hq with rfl | hq
        · exact e1 hq'
        · exact e2 ⟨q, hq, hq'⟩
theorem L_unesc (ps : List (Str × Nat)) (h : ∀ p ∈ ps, L p.1 ≠ []) : ∀ x : Str, L (unesc ps x) = (ps.map fun p => (L p.1, p.2)).foldl (fun l p => repS p.1 [p.2] 0 l) (L x) := by
  induction ps with
  | nil => intro x; rfl
  | cons p ps ih =>
    intro x
    show L (unesc ps (Txt.replace x p.1 ⟨#[p.2]⟩)) = _
    rw [ih (fun q hq => h q (List.mem_cons_of_mem _ hq)), List.map_cons, List.foldl_cons]
    congr 1
    exact replace_toList x p.1 ⟨#[p.2]⟩ (h p List.mem_cons_self)
theorem sub1_subF (T : Tbl) : sub1 T = subF (fun b => T.lookup b) := by
  funext a
  show (match T.lookup a with | some r => r | none => [a]) = (match T.lookup a with | some r => r | none => [a])
  rfl
/-- what a table says, as a check -/
noncomputable def tblOk (T : Tbl) (ps : List (List Nat × Nat)) : Bool :=
  T.all fun q => ps.any fun p => p.1 == q.2 && p.2 == q.1
theorem lookup_in {T : Tbl} {a : Nat} {r : List Nat} (h : T.lookup a = some r) : (a, r) ∈ T := lookup_mem h
theorem unesc_all (T : Tbl) (ps : List (List Nat × Nat)) (amp : List Nat) (hamp : Good amp) (h38 : T.lookup 38 = some amp) (hg : ∀ p ∈ ps, Good p.1) (hne : ∀ p ∈ ps, p.1 ≠ amp)
    (hT : ∀ q ∈ T, q = (38, amp) ∨ ∃ p ∈ ps, p.1 = q.2) (hTg : ∀ q ∈ T, Good q.2) (hc : ∀ p ∈ ps, ∀ q ∈ T, q.2 = p.1 → q.1 = p.2) (ha : ∀ q ∈ T, q.2 = amp → q.1 = 38) (l : List Nat) :
    (ps ++ [(amp, 38)]).foldl (fun (l : List Nat) (p : List Nat × Nat) => repS p.1 [p.2] 0 l) (l.flatMap (sub1 T)) = l := by
  rw [List.foldl_append, sub1_subF, unrefs ps (fun b => T.lookup b) hg (fun a r h => hTg _ (lookup_in h)) (fun p hp e => hne p hp (by rw [h38] at e; exact (Option.some.inj e).symm)) (by rw [h38]; simp) (fun p hp a h => hc p hp _ (lookup_in h) rfl)]
  show repS amp [38] 0 _ = l
  rw [unref _ amp 38 hamp]
  · have : ∀ a, (if (if ∃ p ∈ ps, T.lookup a = some p.1 then none else T.lookup a) = some amp then none else if ∃ p ∈ ps, T.lookup a = some p.1 then none else T.lookup a) = none := by
      intro a
      by_cases e : ∃ p ∈ ps, T.lookup a = some p.1
      · rw [if_pos e]; simp
      · rw [if_neg e]
        cases h : T.lookup a with
        | none => simp
        | some r =>
          rcases hT _ (lookup_in h) with q | ⟨p, hp, q⟩
          · obtain ⟨_, rfl⟩ := Prod.mk.inj q; simp
          · exact absurd ⟨p, hp, by rw [h, q]⟩ e
    simp only [this]
    show l.flatMap (fun a => [a]) = l
    induction l with
    | nil => rfl
    | cons a l ih => simp
  · intro a r h
    split at h
    · cases h
    · exact hTg _ (lookup_in h)
  · rw [if_neg (fun ⟨p, hp, e⟩ => hne p hp (by rw [h38] at e; exact (Option.some.inj e).symm)), h38]; simp
  · intro a h
    split at h
    · cases h
    · exact ha _ (lookup_in h) rfl
end
section
open PySem PySem.W PySem.Spec PySem.Calls PyProof.Rows PySem.Builtin
/-- the parts of a zip of two sources lie apart -/
structure ZApart (z TI TO i1 i2 : Addr) (fp1 fp2 : List Addr) : Prop where
  TIz : TI ≠ z
  TOz : TO ≠ z
  TITO : TI ≠ TO
  TI1 : TI ≠ i1
  TI2 : TI ≠ i2
  TO1 : TO ≠ i1
  TO2 : TO ≠ i2
  i1z : i1 ≠ z
  i2z : i2 ≠ z
  z1 : ∀ b ∈ fp1, b ≠ z
  z2 : ∀ b ∈ fp2, b ≠ z
  t1 : ∀ b ∈ fp1, b ≠ TO
  t2 : ∀ b ∈ fp2, b ≠ TO
  c1 : ∀ b ∈ fp1, b ≠ i2
  c2 : ∀ b ∈ fp2, b ≠ i1
/-- what next gives, with its token -/
structure Drw (prog : Program) (w : World) (A : Around) (it : Addr) (fp : List Addr) (n d : Nat) (P : Nat → Tok → Value → Prop) (St : Nat → Heap → Prop) : Prop where
  live : ∀ i h, St i h → ∃ o, h.get? it = some o
  frame : ∀ i h h', St i h → (∀ b ∈ fp, ∀ o, h.get? b = some o → h'.get? b = some o) → St i h'
  item : ∀ i (s : Shared) (Q : Value → Shared → Prop) (E : Value → Shared → Prop), i < n → St i s.heap →
    (∀ x h', P i s.toks x → St (i + 1) h' → Heap.SameBut it s.heap h' → Q x { s with heap := h', toks := s.toks + d }) → wpAny (model prog w) A (Builtin.SmallTypes.nextOf (.ref it)) Q E s
  done : ∀ (s : Shared) (Q : Value → Shared → Prop) (E : Value → Shared → Prop), St n s.heap →
    (∀ h' e, Heap.ExtBut it s.heap h' → (∃ o, h'.get? e = some o ∧ o.cls = .type "StopIteration") → E (.ref e) { s with heap := h' }) → wpAny (model prog w) A (Builtin.SmallTypes.nextOf (.ref it)) Q E s
theorem drw_list {prog : Program} {w : World} {A : Around} (hh : A.handled = none) (it l : Addr) (hne : l ≠ it) (items : Array Value) :
    Drw prog w A it [it, l] items.size 0 (fun i _ v => items[i]? = some v) (fun i h => h.IsListIter it l i ∧ h.IsList l items) where
  live := (Draws.list (prog := prog) (w := w) hh it l hne items).live
  frame := (Draws.list (prog := prog) (w := w) hh it l hne items).frame
  item := fun i s Q E hi st hQ => wpAny_nextOf_list_item st.1 st.2 (x := items[i]) (by simp [hi]) fun h' hit' hs' => hQ _ h' (by simp [hi]) ⟨hit', st.2.extBut hs'.extBut hne⟩ hs'
  done := (Draws.list (prog := prog) (w := w) hh it l hne items).done
theorem drw_ascii {prog : Program} {w : World} {A : Around} (hh : A.handled = none) (it : Addr) (x : Str) (t : Tok) :
    Drw prog w A it [it] x.cps.size 1 (fun i u v => ∃ c, x.cps[i]? = some c ∧ v = .str ⟨#[c]⟩ u) (fun i h => h.IsStrIter it "str_ascii_iterator" x t i) where
  live := (Draws.strAscii (prog := prog) (w := w) hh it x t).live
  frame := (Draws.strAscii (prog := prog) (w := w) hh it x t).frame
  item := fun i s Q E hi st hQ => wpAny_nextOf_ascii_item st (c := x.cps[i]) (by simp [hi]) fun h' hit' hs' => hQ _ h' ⟨_, by simp [hi], rfl⟩ hit' hs'
  done := (Draws.strAscii (prog := prog) (w := w) hh it x t).done
section
variable {prog : Program} {w : World} {A : Around} {E : Value → Shared → Prop} {s : Shared} {z TI TO i1 i2 : Addr} {fp1 fp2 : List Addr} {n d1 d2 : Nat} {P1 P2 : Nat → Tok → Value → Prop} {S1 S2 : Nat → Heap → Prop} {a b : Value} {i : Nat}
theorem zip_item (Z : ZApart z TI TO i1 i2 fp1 fp2) (D1 : Drw prog w A i1 fp1 n d1 P1 S1) (D2 : Drw prog w A i2 fp2 n d2 P2 S2) {Q : Value → Shared → Prop}
    (hz : IsZip s.heap z TI TO .none) (hTI : IsPair s.heap TI (.ref i1) (.ref i2)) (hTO : IsPair s.heap TO a b) (h1 : S1 i s.heap) (h2 : S2 i s.heap) (hi : i < n)
    (hQ : ∀ x y T h', P1 i s.toks x → P2 i (s.toks + d1) y → s.heap.objs.size ≤ T → IsZip h' z TI TO (rawInt T) → IsPair h' TI (.ref i1) (.ref i2) → IsPair h' TO x y → S1 (i + 1) h' → S2 (i + 1) h' → IsPair h' T x y →
      (∀ c o, c ≠ z → c ≠ TO → c ≠ i1 → c ≠ i2 → s.heap.get? c = some o → h'.get? c = some o) → Q (.ref T) { s with heap := h', toks := s.toks + d1 + d2 }) :
    wpAny (model prog w) A (Builtin.«zip.__next__» ⟨[.ref z], []⟩) (fun fin s' => ∃ v, fin = .done (.ret v) ∧ Q v s') E s := by
  show wpAny _ _ (field (.ref z) 2 >>= _) _ _ _
  refine wpAny_bind (wpAny_field hz rfl (x := .bool false) rfl ?_)
  show wpAny _ _ (field (.ref z) 3 >>= _) _ _ _
  refine wpAny_bind (wpAny_field hz rfl (x := .ref TI) rfl ?_)
  refine wpAny_bind (wpAny_seqItems hTI rfl ?_)
  show wpAny _ _ (Builtin.SmallTypes.ownedTupleIsFree (.ref z) >>= _) _ _ _
  refine wpAny_bind ?_
  unfold Builtin.SmallTypes.ownedTupleIsFree
  refine wpAny_bind (wpAny_field hz rfl (x := .none) rfl (wpAny_pure ?_))
  simp only [if_true]
  refine wpAny_bind (wpAny_rule ?_)
  refine wpAny_bind (wpAny_field hz rfl (x := .ref TO) rfl ?_)
  refine wpAny_bind (wpAny_setField_rec hz (by simp) fun ha hza hsa => ?_)
  replace hza : IsZip ha z TI TO .ellipsis := hza
  have h1a := D1.frame _ _ _ h1 fun c hc o e => hsa.extBut _ _ (Z.z1 c hc) e
  have h2a := D2.frame _ _ _ h2 fun c hc o e => hsa.extBut _ _ (Z.z2 c hc) e
  refine wpAny_bind ?_
  simp only [List.zipIdx_cons, List.zipIdx_nil, List.forIn_cons, List.forIn_nil]
  refine wpAny_bind (wpAny_bind (wpAny_onRaise ?_))
  show wpAny _ _ (Builtin.SmallTypes.nextOf (.ref i1) >>= _) _ _ _
  refine wpAny_bind (D1.item i _ _ _ hi h1a fun x hb px h1b hsb => wpAny_pure ?_)
  have h2b := D2.frame _ _ _ h2a fun c hc o e => hsb.extBut _ _ (Z.c2 c hc) e
  have hTOb : IsPair hb TO a b := hsb.extBut _ _ Z.TO1 (hsa.extBut _ _ Z.TOz hTO)
  refine wpAny_bind (wpAny_seqItems hTOb rfl ?_)
  refine wpAny_bind (wpAny_updateSeq_pair hTOb fun hc hTOc hsc => ?_)
  replace hTOc : IsPair hc TO x b := hTOc
  have h1c := D1.frame _ _ _ h1b fun c hc o e => hsc.extBut _ _ (Z.t1 c hc) e
  have h2c := D2.frame _ _ _ h2b fun c hc o e => hsc.extBut _ _ (Z.t2 c hc) e
  refine wpAny_bind (wpAny_letGo (wpAny_pure ?_))
  refine wpAny_bind (wpAny_bind (wpAny_onRaise ?_))
  show wpAny _ _ (Builtin.SmallTypes.nextOf (.ref i2) >>= _) _ _ _
  refine wpAny_bind (D2.item i _ _ _ hi h2c fun y hd py h2d hsd => wpAny_pure ?_)
  have h1d := D1.frame _ _ _ h1c fun c hc o e => hsd.extBut _ _ (Z.c1 c hc) e
  have hTOd : IsPair hd TO x b := hsd.extBut _ _ Z.TO2 hTOc
  refine wpAny_bind (wpAny_seqItems hTOd rfl ?_)
  refine wpAny_bind (wpAny_updateSeq_pair hTOd fun he hTOe hse => ?_)
  replace hTOe : IsPair he TO x y := hTOe
  have h1e := D1.frame _ _ _ h1d fun c hc o e => hse.extBut _ _ (Z.t1 c hc) e
  have h2e := D2.frame _ _ _ h2d fun c hc o e => hse.extBut _ _ (Z.t2 c hc) e
  refine wpAny_bind (wpAny_letGo (wpAny_pure (wpAny_pure ?_)))
  refine wpAny_bind (wpAny_seqItems hTOe rfl ?_)
  refine wpAny_bind (wpAny_newTuple ?_)
  have hsz : he.objs.size = s.heap.objs.size := by rw [hse.1, hsd.1, hsc.1, hsb.1, hsa.1]
  have hze : IsZip he z TI TO .ellipsis := hse.extBut _ _ Z.TOz.symm (hsd.extBut _ _ Z.i2z.symm (hsc.extBut _ _ Z.TOz.symm (hsb.extBut _ _ Z.i1z.symm hza)))
  have hke : ∀ c o, c ≠ z → c ≠ TO → c ≠ i1 → c ≠ i2 → s.heap.get? c = some o → he.get? c = some o := fun c o q1 q2 q3 q4 e =>
    hse.extBut _ _ q2 (hsd.extBut _ _ q4 (hsc.extBut _ _ q2 (hsb.extBut _ _ q3 (hsa.extBut _ _ q1 e))))
  have hzlt : z < he.objs.size := Heap.lt_size hze
  show wpAny _ _ (Builtin.SmallTypes.ownedTupleHandOut (.ref z) (.ref he.objs.size) >>= _) _ _ _
  refine wpAny_bind ?_
  unfold Builtin.SmallTypes.ownedTupleHandOut
  have hzp : IsZip (he.push { cls := .type "tuple", data := .seq #[x, y] }) z TI TO .ellipsis := Heap.get?_push_of_some _ hze
  refine wpAny_bind (wpAny_setField_rec hzp (by simp) fun hf hzf hsf => ?_)
  replace hzf : IsZip hf z TI TO (rawInt he.objs.size) := hzf
  refine wpAny_setField_rec hzf (by simp) fun hg hzg hsg => ?_
  replace hzg : IsZip hg z TI TO (rawInt he.objs.size) := hzg
  have up : ∀ c o, c ≠ z → he.get? c = some o → hg.get? c = some o := fun c o q1 e => hsg.extBut _ _ q1 (hsf.extBut _ _ q1 (Heap.get?_push_of_some _ e))
  have hTg : IsPair hg he.objs.size x y := hsg.extBut _ _ (Nat.ne_of_gt hzlt) (hsf.extBut _ _ (Nat.ne_of_gt hzlt) (Heap.get?_push_size _ rfl))
  refine wpAny_pure ⟨_, rfl, ?_⟩
  exact hQ x y he.objs.size hg px py (Nat.le_of_eq hsz.symm) hzg (up _ _ Z.TIz (hke _ _ Z.TIz Z.TITO Z.TI1 Z.TI2 hTI)) (up _ _ Z.TOz hTOe) (D1.frame _ _ _ h1e fun c hc o e => up c o (Z.z1 c hc) e) (D2.frame _ _ _ h2e fun c hc o e => up c o (Z.z2 c hc) e) hTg
    fun c o q1 q2 q3 q4 e => up c o q1 (hke c o q1 q2 q3 q4 e)
theorem zip_end (Z : ZApart z TI TO i1 i2 fp1 fp2) (D1 : Drw prog w A i1 fp1 n d1 P1 S1) {Q : Fin → Shared → Prop}
    (hz : IsZip s.heap z TI TO .none) (hTI : IsPair s.heap TI (.ref i1) (.ref i2)) (h1 : S1 n s.heap)
    (hE : ∀ h' e, (∀ c o, c ≠ z → c ≠ TO → c ≠ i1 → c ≠ i2 → s.heap.get? c = some o → h'.get? c = some o) → (∃ o, h'.get? e = some o ∧ o.cls = .type "StopIteration") → E (.ref e) { s with heap := h' }) :
    wpAny (model prog w) A (Builtin.«zip.__next__» ⟨[.ref z], []⟩) Q E s := by
  show wpAny _ _ (field (.ref z) 2 >>= _) _ _ _
  refine wpAny_bind (wpAny_field hz rfl (x := .bool false) rfl ?_)
  show wpAny _ _ (field (.ref z) 3 >>= _) _ _ _
  refine wpAny_bind (wpAny_field hz rfl (x := .ref TI) rfl ?_)
  refine wpAny_bind (wpAny_seqItems hTI rfl ?_)
  show wpAny _ _ (Builtin.SmallTypes.ownedTupleIsFree (.ref z) >>= _) _ _ _
  refine wpAny_bind ?_
  unfold Builtin.SmallTypes.ownedTupleIsFree
  refine wpAny_bind (wpAny_field hz rfl (x := .none) rfl (wpAny_pure ?_))
  simp only [if_true]
  refine wpAny_bind (wpAny_rule ?_)
  refine wpAny_bind (wpAny_field hz rfl (x := .ref TO) rfl ?_)
  refine wpAny_bind (wpAny_setField_rec hz (by simp) fun ha hza hsa => ?_)
  replace hza : IsZip ha z TI TO .ellipsis := hza
  have h1a := D1.frame _ _ _ h1 fun c hc o e => hsa.extBut _ _ (Z.z1 c hc) e
  refine wpAny_bind ?_
  simp only [List.zipIdx_cons, List.zipIdx_nil, List.forIn_cons, List.forIn_nil]
  refine wpAny_bind (wpAny_bind (wpAny_onRaise ?_))
  show wpAny _ _ (Builtin.SmallTypes.nextOf (.ref i1) >>= _) _ _ _
  refine wpAny_bind (D1.done _ _ _ h1a fun hb e hsb he => ?_)
  obtain ⟨oe, hoe, hce⟩ := he
  have hzb : IsZip hb z TI TO .ellipsis := hsb _ _ Z.i1z.symm hza
  have hez : e ≠ z := fun x => by subst x; rw [hzb] at hoe; cases hoe; simp at hce
  refine wpAny_setField_rec hzb (by simp) fun hc _ hsc => hE hc e (fun c o q1 _ q3 _ x => hsc.extBut _ _ q1 (hsb _ _ q3 (hsa.extBut _ _ q1 x))) ⟨oe, hsc.extBut _ _ hez hoe, hce⟩

noncomputable def ZSt (z TI TO i1 i2 : Addr) (S1 S2 : Nat → Heap → Prop) (i : Nat) (h : Heap) : Prop := IsZip h z TI TO .none ∧ IsPair h TI (.ref i1) (.ref i2) ∧ (∃ a b, IsPair h TO a b) ∧ S1 i h ∧ S2 i h
noncomputable def ZMid (z TI TO i1 i2 : Addr) (S1 S2 : Nat → Heap → Prop) (i : Nat) (T : Addr) (h : Heap) : Prop := IsZip h z TI TO (rawInt T) ∧ IsPair h TI (.ref i1) (.ref i2) ∧ (∃ a b, IsPair h TO a b) ∧ S1 (i + 1) h ∧ S2 (i + 1) h ∧ T ≠ z ∧ T ≠ TO ∧ T ≠ i1 ∧ T ≠ i2
theorem zip_pyNext (Z : ZApart z TI TO i1 i2 fp1 fp2) (D1 : Drw prog w A.in1 i1 fp1 n d1 P1 S1) (D2 : Drw prog w A.in1 i2 fp2 n d2 P2 S2) {Q : Option Value → Shared → Prop} (hi : i < n) (hst : ZSt z TI TO i1 i2 S1 S2 i s.heap)
    (hQ : ∀ x y T h', P1 i s.toks x → P2 i (s.toks + d1) y → IsPair h' T x y → ZMid z TI TO i1 i2 S1 S2 i T h' → (∀ b o, b ∉ [z, TO, i1, i2] → s.heap.get? b = some o → h'.get? b = some o) → Q (some (.ref T)) { s with heap := h', toks := s.toks + d1 + d2 }) :
    wpAny (model prog w) A (pyNext (.ref z)) Q E s := by
  obtain ⟨hz, hTI, ⟨a, b, hTO⟩, h1, h2⟩ := hst
  have hT : s.TypeIs (.ref z) "zip" := ⟨_, hz, rfl⟩
  have lt : ∀ {c o T}, s.heap.objs.size ≤ T → s.heap.get? c = some o → T ≠ c := fun l e => Nat.ne_of_gt (Nat.lt_of_lt_of_le (Heap.lt_size e) l)
  unfold pyNext
  refine wpAny_bind (wpAny_attempt (wpAny_callSpecial?_slot (name := Str.ofString "__next__") hT F.slot_zip_next (wpAny_call_entry F.slot_zip_next hT F.entry_zip_next
    (zip_item (Q := fun v s' => wpAny (model prog w) A (pure (some v)) Q E s') Z D1 D2 hz hTI hTO h1 h2 hi fun x y T h' px py hT' a1 a2 a3 a4 a5 a6 a7 => ?_) (F.args_zip_next_1 _))))
  obtain ⟨o1, e1⟩ := D1.live _ _ h1
  obtain ⟨o2, e2⟩ := D2.live _ _ h2
  exact wpAny_pure (hQ x y T h' px py a6 ⟨a1, a2, ⟨_, _, a3⟩, a4, a5, lt hT' hz, lt hT' hTO, lt hT' e1, lt hT' e2⟩
    fun c o hc e => a7 c o (fun x => hc (by simp [x])) (fun x => hc (by simp [x])) (fun x => hc (by simp [x])) (fun x => hc (by simp [x])) e)
theorem zip_go (Z : ZApart z TI TO i1 i2 fp1 fp2) (D1 : Drw prog w A.in1 i1 fp1 n d1 P1 S1) (D2 : Drw prog w A.in1 i2 fp2 n d2 P2 S2) {elts : List Expr} {k : Nat} {pos : Pos} {T : Addr} {Q : Unit → Shared → Prop} (hm : ZMid z TI TO i1 i2 S1 S2 i T s.heap)
    (hQ : ∀ h', ZSt z TI TO i1 i2 S1 S2 (i + 1) h' → (∀ b o, b ∉ [z, TO, i1, i2] → s.heap.get? b = some o → h'.get? b = some o) → Q () { s with heap := h' }) :
    wpAny (model prog w) A (letOwnedTupleGo (.Tuple elts k pos) (.ref z) (.ref T)) Q E s := by
  obtain ⟨hz, hTI, ⟨a, b, hTO⟩, h1, h2, _⟩ := hm
  exact wpAny_letOwnedTupleGo_zip hz fun h' hz' hs' => hQ h' ⟨hz', hs'.extBut _ _ Z.TIz hTI, ⟨a, b, hs'.extBut _ _ Z.TOz hTO⟩, D1.frame _ _ _ h1 fun c hc o e => hs'.extBut _ _ (Z.z1 c hc) e, D2.frame _ _ _ h2 fun c hc o e => hs'.extBut _ _ (Z.z2 c hc) e⟩
    fun c o hc e => hs'.extBut _ _ (fun x => hc (by simp [x])) e
theorem zip_pyEnd (Z : ZApart z TI TO i1 i2 fp1 fp2) (D1 : Drw prog w A.in1 i1 fp1 n d1 P1 S1) {Q : Option Value → Shared → Prop} (hst : ZSt z TI TO i1 i2 S1 S2 n s.heap)
    (hQ : ∀ h', (∀ b o, b ∉ [z, TO, i1, i2] → s.heap.get? b = some o → h'.get? b = some o) → Q none { s with heap := h' }) :
    wpAny (model prog w) A (pyNext (.ref z)) Q E s := by
  obtain ⟨hz, hTI, _, h1, _⟩ := hst
  have hT : s.TypeIs (.ref z) "zip" := ⟨_, hz, rfl⟩
  unfold pyNext
  refine wpAny_bind (wpAny_attempt (wpAny_callSpecial?_slot (name := Str.ofString "__next__") hT F.slot_zip_next
    (wpAny_call_entry F.slot_zip_next hT F.entry_zip_next (zip_end Z D1 hz hTI h1 fun h' e hk he => ?_) (F.args_zip_next_1 _))))
  obtain ⟨o, ho, hc⟩ := he
  refine wpAny_bind (wpAny_isInstance (T := "StopIteration") (b := true) ⟨o, ho, hc⟩ isSubtype_stop ?_)
  exact wpAny_pure (hQ h' fun c o hc e => hk c o (fun x => hc (by simp [x])) (fun x => hc (by simp [x])) (fun x => hc (by simp [x])) (fun x => hc (by simp [x])) e)
end
end
section
open PySem PySem.W PySem.Spec PySem.Calls PyProof.Rows
noncomputable abbrev zh1 (h : Heap) (l : Addr) : Heap := h.push { cls := .type "list_iterator", data := .fields #[.ref l, .int 0 0] }
noncomputable abbrev zh2 (h : Heap) (l : Addr) (y : Str) (t : Tok) : Heap := (zh1 h l).push { cls := .type "str_ascii_iterator", data := .fields #[.str y t, .int 0 0] }
noncomputable abbrev zh3 (h : Heap) (l : Addr) (y : Str) (t : Tok) : Heap := (zh2 h l y t).push { cls := .type "tuple", data := .seq #[.ref h.objs.size, .ref (zh1 h l).objs.size] }
noncomputable abbrev zh4 (h : Heap) (l : Addr) (y : Str) (t : Tok) : Heap := (zh3 h l y t).push { cls := .type "tuple", data := .seq #[.none, .none] }
noncomputable abbrev zh5 (h : Heap) (l : Addr) (y : Str) (t : Tok) : Heap := (zh4 h l y t).push { cls := .type "zip", data := .fields #[.none, .bool false, .bool false, .ref (zh2 h l y t).objs.size, .ref (zh3 h l y t).objs.size] }
theorem typeCall_zip_s (a : Addr) (y : Str) (t : Tok) : checkTypeCall "zip" ⟨[.ref a, .str y t], []⟩ = pure () := by kernel_rfl
theorem newCall_zip_s (a : Addr) (y : Str) (t : Tok) : checkBuiltinCall "zip.__new__" ⟨[.type "zip", .ref a, .str y t], []⟩ = pure () := by kernel_rfl
set_option maxHeartbeats 4000000 in
theorem meets_zip_ls (l : Addr) (y : Str) (t : Tok) (xs : Array Value) (ha : y.cps.all (· < 128) = true) :
    Meets (Builtin.«zip.__new__» ⟨[.type "zip", .ref l, .str y t], []⟩) (fun _ R s => s.heap.IsList l xs ∧ R (.ok (.ret (.ref (zh4 s.heap l y t).objs.size))) { s with heap := zh5 s.heap l y t }) :=
  .of_wp fun prog w A R s h => by
    obtain ⟨hp, g, d, tk, os⟩ := s; obtain ⟨hl, h⟩ := h
    have hsub := sub_zip
    have hL : Heap.IsList (Shared.heap ⟨hp, g, d, tk, os⟩) l xs := hl
    repeat (first | with_reducible refine wpAny_pyIter_list hL ?_ | with_reducible refine wpAny_pyIter_ascii ha ?_ | wp_step)
    exact ⟨_, rfl, h⟩
theorem newsCons {h₀ h : Heap} {L a : Addr} {o : Obj} {r : List (Addr × Obj)} (e : h.get? a = some o) (h1 : a ≠ L) (h2 : h₀.get? a = none) (N : News h₀ L h r) : News h₀ L h ((a, o) :: r) := fun p hp => by
  rcases List.mem_cons.mp hp with rfl | hp
  · exact ⟨e, h1, h2⟩
  · exact N p hp
theorem z_back {h₀ h : Heap} {L a1 a2 a3 a4 a5 : Addr} {p1 p2 p3 p4 p5 : Obj} {r : List (Addr × Obj)} (N : News h₀ L h ((a1, p1) :: (a2, p2) :: (a3, p3) :: (a4, p4) :: (a5, p5) :: r)) : h.get? a1 = some p1 ∧ h.get? a2 = some p2 ∧ h.get? a3 = some p3 ∧ h.get? a4 = some p4 ∧ h.get? a5 = some p5 ∧ News h₀ L h r :=
  ⟨(N _ List.mem_cons_self).1, (N _ (List.mem_cons_of_mem _ List.mem_cons_self)).1, (N _ (List.mem_cons_of_mem _ (List.mem_cons_of_mem _ List.mem_cons_self))).1, (N _ (List.mem_cons_of_mem _ (List.mem_cons_of_mem _ (List.mem_cons_of_mem _ List.mem_cons_self)))).1, (N _ (List.mem_cons_of_mem _ (List.mem_cons_of_mem _ (List.mem_cons_of_mem _ (List.mem_cons_of_mem _ List.mem_cons_self))))).1, fun p hp => N p (List.mem_cons_of_mem _ (List.mem_cons_of_mem _ (List.mem_cons_of_mem _ (List.mem_cons_of_mem _ (List.mem_cons_of_mem _ hp)))))⟩
/-- what holds at each turn over a zip -/
inductive ZInv (h₀ : Heap) (L : Addr) (n : Nat) (St : Nat → Heap → Prop) (news : List (Addr × Obj)) (J : Nat → (Str → Option Value) → Prop) (s : Shared) : Nat → Shared → Prop
  | mk {h' : Heap} {tk i : Nat} {m' : Str → Option Value} (ht : s.toks ≤ tk) (hst : St i h') (F : Fr h₀ L h' m') (N : News h₀ L h' news) (hJ : J i m') (hi : i ≤ n) : ZInv h₀ L n St news J s (n + 1 - i) { s with heap := h', toks := tk }
theorem z_le {a b : Nat} (h : a ≤ b) : a ≤ b + 0 + 1 := Nat.le_succ_of_le h
section
variable {prog : Program} {w : World} {A : Around} {E : Value → Shared → Prop} {s : Shared} {env : Env} {h₀ : Heap} {body : List Stmt} {Q : Flow → Shared → Prop} {elts : List Expr} {k : Nat} {pos : Pos} {L : Addr}
noncomputable def TurnZ (h₀ : Heap) (L : Addr) (all : List (Addr × Obj)) (J : (Str → Option Value) → Prop) (s₁ : Shared) (Q : Flow → Shared → Prop) (f : Flow) (s₂ : Shared) : Prop :=
  match f with
  | .ret v => Q (.ret v) s₂
  | .brk => Q .next s₂
  | _ => ∃ h' tk m', s₂ = { s₁ with heap := h', toks := tk } ∧ Fr h₀ L h' m' ∧ News h₀ L h' all ∧ J m'
noncomputable def ZipAt (prog : Program) (w : World) (A : Around) (env : Env) (target : Expr) (body : List Stmt) (Q : Flow → Shared → Prop) (E : Value → Shared → Prop) (xv : Value) (s : Shared) : Prop :=
  wpAny (model prog w) A (pyIter xv) (fun it s₂ => codeAny (model prog w) A (.forLoop target it body [] env) (fun r s' => match r with | .ok f => Q f s' | .error e => cameBackBy (model prog w) A env E e s') s₂) E s
theorem For_Z {iter target : Expr} {pos : Pos} {m : Str → Option Value} (_F : Fr h₀ env.locals s.heap m) (h : wpAny (model prog w) A (eval iter env) (fun xv s₁ => ZipAt prog w A env target body Q E xv s₁) E s)
    (hs : ∀ x, foldedSetIterable iter env x = pure x := by intro _; rfl) : wpAny (model prog w) A (exec (.For target iter body [] pos) env) Q E s := wpAny_For h hs
theorem zip_loop {l : Addr} {xs : List Value} {c : Nat} {y : Str} {ty : Tok} {m₀ : Str → Option Value} {news : List (Addr × Obj)} (hh : A.handled = none) (F : Fr h₀ L s.heap m₀) (N : News h₀ L s.heap news) (hl : (l, listObj xs c) ∈ news)
    (ha : y.cps.all (· < 128) = true) (hlen : xs.length = y.cps.size) (J : Nat → (Str → Option Value) → Prop) (hj : J 0 m₀)
    (turn : ∀ i x b u T m₁ h tk all, i < xs.length → xs[i]? = some x → y.cps[i]? = some b → J i m₁ → s.toks ≤ u → u < tk → IsTup h T #[x, .str ⟨#[b]⟩ u] → Fr h₀ L h m₁ → News h₀ L h all →
      wpAny (model prog w) A (assign (.Tuple elts k pos) env (.ref T)) (fun _ s₂ => wpAny (model prog w) A (execs body env) (TurnZ h₀ L all (J (i + 1)) { s with heap := h, toks := tk } Q) E s₂) E { s with heap := h, toks := tk })
    (done : ∀ m₁ h tk, s.toks ≤ tk → J xs.length m₁ → Fr h₀ L h m₁ → News h₀ L h news → Q .next { s with heap := h, toks := tk }) (hL : env.locals = L := by rfl) (hE : PassesOwn (model prog w) A env E := by passes_own) :
    wpAny (model prog w) A (call (.type "zip") [.ref l, .str y ty]) (fun xv s₁ => ZipAt prog w A env (.Tuple elts k pos) body Q E xv s₁) E s := by
  subst hL
  have hax := N _ hl
  have hl0 : s.heap.IsList l xs.toArray := ⟨_, hax.1, rfl, _, rfl⟩
  have hlt : l < s.heap.objs.size := Heap.lt_size hax.1
  have hLs : env.locals < s.heap.objs.size := F.ns.lt
  refine callType_new PySem.F.called_zip (by decide) (typeCall_zip_s _ _ _) (newCall_zip_s _ _ _) (fun obj => PySem.F.args_object_init_3 obj _ _) PySem.F.entry_zip_new (meets_zip_ls l y ty xs.toArray ha) ⟨hl0, ?_⟩
  have z1 : (zh1 s.heap l).objs.size = s.heap.objs.size + 1 := Heap.size_push ..
  have z2 : (zh2 s.heap l y ty).objs.size = s.heap.objs.size + 2 := by rw [Heap.size_push, z1]
  have z3 : (zh3 s.heap l y ty).objs.size = s.heap.objs.size + 3 := by rw [Heap.size_push, z2]
  have z4 : (zh4 s.heap l y ty).objs.size = s.heap.objs.size + 4 := by rw [Heap.size_push, z3]
  have g5 : (zh5 s.heap l y ty).get? (zh4 s.heap l y ty).objs.size = some _ := Heap.get?_push_size _ rfl
  have g4 : (zh5 s.heap l y ty).get? (zh3 s.heap l y ty).objs.size = some _ := Heap.get?_push_of_some _ (Heap.get?_push_size _ rfl)
  have g3 : (zh5 s.heap l y ty).get? (zh2 s.heap l y ty).objs.size = some _ := Heap.get?_push_of_some _ (Heap.get?_push_of_some _ (Heap.get?_push_size _ rfl))
  have g2 : (zh5 s.heap l y ty).get? (zh1 s.heap l).objs.size = some _ := Heap.get?_push_of_some _ (Heap.get?_push_of_some _ (Heap.get?_push_of_some _ (Heap.get?_push_size _ rfl)))
  have g1 : (zh5 s.heap l y ty).get? s.heap.objs.size = some _ := Heap.get?_push_of_some _ (Heap.get?_push_of_some _ (Heap.get?_push_of_some _ (Heap.get?_push_of_some _ (Heap.get?_push_size _ rfl))))
  have up : ∀ b o, s.heap.get? b = some o → (zh5 s.heap l y ty).get? b = some o := fun b o e => Heap.get?_push_of_some _ (Heap.get?_push_of_some _ (Heap.get?_push_of_some _ (Heap.get?_push_of_some _ (Heap.get?_push_of_some _ e))))
  show _ ∧ _
  rw [z2, z3, z4] at g5
  rw [z1, z2] at g3
  rw [z3] at g4
  rw [z1] at g2
  rw [z4]
  refine ⟨⟨_, g5, rfl⟩, ?_⟩
  refine wpAny_pyIter_zip g5 ?_
  have Z : ZApart (s.heap.objs.size + 4) (s.heap.objs.size + 2) (s.heap.objs.size + 3) s.heap.objs.size (s.heap.objs.size + 1) [s.heap.objs.size, l] [s.heap.objs.size + 1] := by
    constructor
    case z1 | t1 | c1 =>
      intro b hb
      rcases List.mem_cons.mp hb with rfl | hb
      · exact neN (by omega)
      · rw [List.mem_singleton.mp hb]; exact Nat.ne_of_lt (Nat.lt_of_lt_of_le hlt (Nat.le_add_right _ _))
    case z2 | t2 | c2 => intro b hb; rw [List.mem_singleton.mp hb]; exact neN (by omega)
    all_goals exact neN (by omega)
  have D1 := drw_list (prog := prog) (w := w) (A := A.in1) hh s.heap.objs.size l (Nat.ne_of_lt hlt) xs.toArray
  have D2 := drw_ascii (prog := prog) (w := w) (A := A.in1) hh (s.heap.objs.size + 1) y ty
  rw [show xs.toArray.size = y.cps.size by rw [List.size_toArray, hlen]] at D1
  have fresh : ∀ b : Nat, s.heap.objs.size ≤ b → h₀.get? b = none := fun b hb => ktu_new F hb
  have offL : ∀ b : Nat, s.heap.objs.size ≤ b → env.locals ≠ b := fun b hb => Nat.ne_of_lt (Nat.lt_of_lt_of_le hLs hb)
  have inW : ∀ b, b ∈ [s.heap.objs.size + 4, s.heap.objs.size + 3, s.heap.objs.size, s.heap.objs.size + 1] → @LE.le Nat _ s.heap.objs.size b := by
    intro b hb
    simp at hb
    rcases hb with rfl | rfl | rfl | rfl
    · exact Nat.le_add_right _ _
    · exact Nat.le_add_right _ _
    · exact Nat.le_refl _
    · exact Nat.le_add_right _ _
  have offN : ∀ p ∈ news, p.1 ∉ [s.heap.objs.size + 4, s.heap.objs.size + 3, s.heap.objs.size, s.heap.objs.size + 1] := fun p hp hb => Nat.lt_irrefl _ (Nat.lt_of_lt_of_le (Heap.lt_size (N p hp).1) (inW _ hb))
  refine codeAny_forLoop_any
    (ZInv h₀ env.locals xs.length (ZSt (s.heap.objs.size + 4) (s.heap.objs.size + 2) (s.heap.objs.size + 3) s.heap.objs.size (s.heap.objs.size + 1) (fun i h => h.IsListIter s.heap.objs.size l i ∧ h.IsList l xs.toArray) (fun i h => h.IsStrIter (s.heap.objs.size + 1) "str_ascii_iterator" y ty i)) news J s) ?_ (xs.length + 1)
    (.mk (i := 0) (Nat.le_refl _) ⟨g5, g3, ⟨_, _, g4⟩, ⟨⟨_, g1, rfl, rfl⟩, hl0.at fun o e => up l o e⟩, ⟨_, g2, rfl, rfl⟩⟩ (F.keeps up) (N.grown up) hj (Nat.zero_le _))
  rintro k' s' ⟨htk, hst', F', N', hJ, hi⟩
  rename_i h' tk i m'
  have next : ∀ ha hb : Heap, Fr h₀ env.locals ha m' → News h₀ env.locals ha news → (∀ b o, b ∉ [s.heap.objs.size + 4, s.heap.objs.size + 3, s.heap.objs.size, s.heap.objs.size + 1] → ha.get? b = some o → hb.get? b = some o) → Fr h₀ env.locals hb m' ∧ News h₀ env.locals hb news := fun ha hb Fa Na hk =>
    ⟨⟨Fa.ns.at' fun o e => hk _ o (fun q => offL _ (inW _ q) rfl) e, fun b o e => hk b o (fun q => by rw [fresh _ (inW _ q)] at e; cases e) (Fa.keep b o e), Fa.above⟩,
      fun p hp => ⟨hk _ _ (offN p hp) (Na p hp).1, (Na p hp).2⟩⟩
  by_cases hlt' : i < xs.length
  · refine wpAny_passesOwn hE (zip_pyNext Z D1 D2 (by rw [← hlen]; exact hlt') hst' fun x yv T h₁ hx hy hT hm hk₁ => ?_)
    obtain ⟨b, hb, rfl⟩ := hy
    obtain ⟨F₁, N₁⟩ := next _ _ F' N' hk₁
    have tne : T ∉ [s.heap.objs.size + 4, s.heap.objs.size + 3, s.heap.objs.size, s.heap.objs.size + 1] := by
      obtain ⟨_, _, _, _, _, t1, t2, t3, t4⟩ := hm
      simp only [List.mem_cons, List.not_mem_nil, or_false, not_or]
      exact ⟨t1, t2, t3, t4⟩
    refine wpAny_passesOwn hE (zip_go Z D1 D2 hm fun h₂ hst₂ hk₂ => ?_)
    obtain ⟨F₂, N₂⟩ := next _ _ F₁ N₁ hk₂
    have hT₂ : IsTup h₂ T #[x, .str ⟨#[b]⟩ tk] := ⟨_, hk₂ _ _ tne hT, rfl, _, rfl⟩
    obtain ⟨hz, hTI, ⟨va, vb, hTO⟩, ⟨⟨o1, e1, r1⟩, hll⟩, ⟨o2, e2, r2⟩⟩ := id hst₂
    have N₃ := newsCons hz (offL _ (Nat.le_add_right _ _)).symm (fresh _ (Nat.le_add_right _ _)) (newsCons hTI (offL _ (Nat.le_add_right _ _)).symm (fresh _ (Nat.le_add_right _ _)) (newsCons hTO (offL _ (Nat.le_add_right _ _)).symm (fresh _ (Nat.le_add_right _ _)) (newsCons e1 (offL _ (Nat.le_refl _)).symm (fresh _ (Nat.le_refl _)) (newsCons e2 (offL _ (Nat.le_add_right _ _)).symm (fresh _ (Nat.le_add_right _ _)) N₂))))
    have htk2 : s.toks ≤ tk + 0 + 1 := z_le htk
    refine wpAny_passesOwn hE (wpAny_with_toks (n := s.toks) htk2 (wpAny_mono (turn i x b tk T m' h₂ (tk + 0 + 1) _ hlt' (by simpa using hx) hb hJ htk (by omega) hT₂ F₂ N₃) (fun _ s₂ h₂' htk₂ => wpAny_passesOwn hE (wpAny_with_toks (n := s.toks) htk₂ (wpAny_mono h₂' (fun f s₃ p htk₃ => ?_) fun _ _ e _ => e))) fun _ _ e _ => e))
    cases f
    case ret v => exact p
    case brk => exact p
    all_goals (
        obtain ⟨h₄, tk₄, m₄, rfl, F₄, N₄, hJ₄⟩ := p
        obtain ⟨k1, k2, k3, k4, k5, N₅⟩ := z_back N₄
        exact ⟨xs.length + 1 - (i + 1), blk_lt hlt', .mk htk₃ ⟨k1, k2, ⟨_, _, k3⟩, ⟨⟨o1, k4, r1⟩, ⟨_, (N₅ _ hl).1, rfl, _, rfl⟩⟩, ⟨o2, k5, r2⟩⟩ F₄ N₅ hJ₄ hlt'⟩)
  · have hin : i = xs.length := by omega
    subst hin
    refine wpAny_passesOwn hE (zip_pyEnd Z D1 (by rw [← hlen]; exact hst') fun h₁ hk₁ => ?_)
    obtain ⟨F₁, N₁⟩ := next _ _ F' N' hk₁
    exact wpAny_execs_nil (done m' h₁ tk htk hJ F₁ N₁)
end
end
open PySem PySem.W PySem.Spec PySem.Calls PyProof.Rows
local macro_rules | `(tactic| k_mem) => `(tactic| with_reducible_and_instances assumption)
local macro_rules | `(tactic| walk_at "eval BinOp") => `(tactic| (k_dflt (with_reducible (first | refine BinOpC (env := envOf _ _ _ _ _) ?_ | refine BinOpC (env := envOfC _ _ _ _ _) ?_))))
local macro_rules | `(tactic| walk_at "isTrue Compare") => `(tactic| (k_dflt (with_reducible refine isTrueC ?_)))
local macro_rules | `(tactic| walk_at "eval Compare") => `(tactic| (k_dflt (with_reducible refine CompareC ?_)))
local macro_rules | `(tactic| walk_at "exec Assign cons") => `(tactic| (k_dflt (with_reducible refine AssignC ?_)))
local macro_rules | `(tactic| walk_at "spliced") => `(tactic| (k_dflt (with_reducible refine argsC ?_)))
local macro_rules | `(tactic| walk_at "ite") => `(tactic| with_reducible (first | refine iteT ?_ | refine iteF ?_))
local macro_rules | `(tactic| walk_at "eval Call Name") => `(tactic| (k_dflt (with_reducible refine CallC ?_)))
local macro_rules | `(tactic| walk_at "eval Call Attribute") => `(tactic| (k_dflt (with_reducible refine MethC ?_)))
local macro_rules | `(tactic| walk_at "eval List") => `(tactic| (k_dflt (with_reducible refine ListC ?_)))
local macro_rules | `(tactic| walk_at "eval Name") => `(tactic| (k_dflt (first
  | (refine' nameF (by rfl) (by kernel_rfl!) (by simp only [ne_eq, String.reduceEq, not_false_eq_true]) (by with_reducible assumption) (by (repeat ((with_reducible refine lkN ?_ ?_); (focus (simp only [String.reduceNe]; done)))); (first | with_reducible exact lkY | with_reducible assumption | (simp only [upd, noFr, ↓lookA, ↓reduceIte, ofString_eq, String.reduceEq]; first | rfl | with_reducible assumption) | rfl)) ?_; k_whole)
  | (refine' nameGK (by rfl) (by kernel_rfl!) (by simp only [ne_eq, String.reduceEq, not_false_eq_true]) (by with_reducible assumption) (by k_asm) (by k_asm) (by k_is) ?_; k_whole)
  | (refine' nameGB (by rfl) (by kernel_rfl!) (by simp only [ne_eq, String.reduceEq, not_false_eq_true]) (by boot_fast) (by simp only [ne_eq, String.reduceEq, not_false_eq_true]) (by with_reducible assumption) (by k_asm) (by k_asm) (by k_is) ?_; k_whole))))
section
open PySem PySem.W
example {M : Model} {A : Around} {v : Value} {Q : Bool → Shared → Prop} {E : Value → Shared → Prop} {s : Shared} (h : wpAny M A (truthy v) Q E s) : wpAny M A (truthy v) Q E s := by first | (walk1; fail) | exact h
end
section
open PySem PySem.W PySem.Spec PySem.Calls PyProof.Rows
set_option maxHeartbeats 4000000
section
variable {M : Model} {A : Around} {E : Value → Shared → Prop} {h₀ : Heap} {L a : Addr} {m : Str → Option Value} {cn : Str} {cs : Scope} {ccd : Value} {cl : List (Str × Addr)} {x : String} {v : Value} {news : List (Addr × Obj)}
theorem storeK {heap : Heap} {gens : Array GenState} {drawn : Drawn} {T : Nat} {os : OsState} {Q : Unit → Shared → Prop} (F : Fr h₀ L heap m) (N : News h₀ L heap news) (hx : List.lookup (Str.ofString x) cs.names = some NameKind.local) (hk : cs.kind = .function)
    (h : ∀ h', Fr h₀ L h' (upd x v m) → News h₀ L h' news → Q () ⟨h', gens, drawn, T + 1, os⟩) :
    wpAny M A (storeName (envX cn cs L a ccd cl) (Str.ofString x) v) Q E ⟨heap, gens, drawn, T, os⟩ := storeX_L (s := ⟨heap, gens, drawn, T, os⟩) F N (fun h' F' N' => h h' F' N') hk hx
end
theorem execs_m {M : Model} {A : Around} {E : Value → Shared → Prop} {env : Env} {heap : Heap} {gens : Array GenState} {drawn : Drawn} {T : Nat} {os : OsState} {st : Stmt} {rest : List Stmt} {Q : Flow → Shared → Prop}
    (h : ∀ tk, T ≤ tk → wpAny M A (exec st env) (fun f s' => tk ≤ s'.toks → match f with | .next => wpAny M A (execs rest env) Q E s' | f => Q f s') E ⟨heap, gens, drawn, tk, os⟩) :
    wpAny M A (execs (st :: rest) env) Q E ⟨heap, gens, drawn, T, os⟩ :=
  wpAny_execs_cons (wpAny_with_toks (n := T) (Nat.le_refl _) (wpAny_mono (h T (Nat.le_refl _)) (fun _ _ x => x) fun _ _ x _ => x))
local macro_rules | `(tactic| walk_at "exec For Tuple Call cons nil") => `(tactic| refine of_hold ?_)
theorem cps_L {x : Str} {i c : Nat} (h : x.cps[i]? = some c) : (Mine.L x)[i]? = some c := by simpa [L] using h
local macro_rules | `(tactic| walk_at "call builtin:str.replace") => `(tactic| refine of_hold ?_)
theorem items_1 {t0 t1 t2 t3 t4 t5 t6 : Tok} {i b : Nat} {x : Value} (hi : i < 7) (hx : [Value.str (Str.ofString "&lt;") t0, Value.str (Str.ofString "&gt;") t1, Value.str (Str.ofString "&quot;") t2, Value.str (Str.ofString "&#x9;") t3, Value.str (Str.ofString "&#xA;") t4, Value.str (Str.ofString "&#xD;") t5, Value.str (Str.ofString "&amp;") t6][i]? = some x) (hb : (Str.ofString "<>\"\t\n\r&").cps[i]? = some b) :
    ∃ r t, x = .str r t ∧ (pairs 1)[i]? = some (r, b) ∧ t ∈ [t0, t1, t2, t3, t4, t5, t6] ∧ (r == (⟨#[b]⟩ : Str)) = false := by
  have hb' := cps_L hb
  rw [L_lit] at hb'
  rcases seven hi with rfl | rfl | rfl | rfl | rfl | rfl | rfl
  · obtain rfl := Option.some.inj hx
    obtain rfl : 60 = b := Option.some.inj hb'
    exact ⟨Str.ofString "&lt;", t0, rfl, rfl, by simp, by decide +kernel⟩
  · obtain rfl := Option.some.inj hx
    obtain rfl : 62 = b := Option.some.inj hb'
    exact ⟨Str.ofString "&gt;", t1, rfl, rfl, by simp, by decide +kernel⟩
  · obtain rfl := Option.some.inj hx
    obtain rfl : 34 = b := Option.some.inj hb'
    exact ⟨Str.ofString "&quot;", t2, rfl, rfl, by simp, by decide +kernel⟩
  · obtain rfl := Option.some.inj hx
    obtain rfl : 9 = b := Option.some.inj hb'
    exact ⟨Str.ofString "&#x9;", t3, rfl, rfl, by simp, by decide +kernel⟩
  · obtain rfl := Option.some.inj hx
    obtain rfl : 10 = b := Option.some.inj hb'
    exact ⟨Str.ofString "&#xA;", t4, rfl, rfl, by simp, by decide +kernel⟩
  · obtain rfl := Option.some.inj hx
    obtain rfl : 13 = b := Option.some.inj hb'
    exact ⟨Str.ofString "&#xD;", t5, rfl, rfl, by simp, by decide +kernel⟩
  · obtain rfl := Option.some.inj hx
    obtain rfl : 38 = b := Option.some.inj hb'
    exact ⟨Str.ofString "&amp;", t6, rfl, rfl, by simp, by decide +kernel⟩
theorem sp_gives_1 (w : World) (pr x y : Str) (tk tp tx ty : Tok) (hx : x.length ≤ 100000) (hy : y.length ≤ 600009) (hsl : (Txt.slice y (some 3) (some (-4))).length ≤ 600009) (hfin : unesc (pairs 1) (Txt.slice y (some 3) (some (-4))) = x) : SpecV w 904 20 60 [.int 1 tk, .str pr tp, .str x tx, .str y ty] (fun t => .bool true) := by
  refine' enterP (binds := [("kind", .int 1 tk), ("pair", .str pr tp), ("inner", .str x tx), ("outer", .str y ty)]) ?k6 ?ks ?k7 ?k9 ?kB ?c2 ?c3 ?c4 ?c5 ?_
  case k6 => k_dflt k_is
  case ks => exact rfl
  case k7 => k_dflt k_is
  case k9 => intro s X; exact BindsTo.of_eq rfl
  case c5 => decide
  case kB => exact locs rfl
  case c2 => exact rfl
  case c3 => exact rfl
  case c4 => exact rfl
  intro dp un gd cn cs a ccd cl outer base g' L L' mg mb mean news gens drawn os h' tk' WQ WE B' F' X' N' T' hd hu hpre hret htk' hPO
  simp only [List.reverse_cons, List.reverse_nil, List.nil_append, List.cons_append, lookF, lookE] at F'
  show (let zV := _; let zA := _; wpAny _ zA (execs _ zV) _ _ _)
  intro zV zA
  have hps : ∀ p ∈ pairs 1, 1 ≤ p.1.length := by decide +kernel
  (k_steps; repeat' (((with_reducible refine hold_in ?_); ((rename Fr _ _ _ _ => lF'); (with_unfolding_all refine' For_Z lF' ?_; k_whole))); (all_goals (try k_steps))))
  (with_reducible rename Fr g' L' _ _ => zF)
  (with_reducible rename News g' L' _ _ => zN)
  refine zip_loop (xs := [_, _, _, _, _, _, _]) rfl zF zN List.mem_cons_self (by decide +kernel) (by show 7 = _; decide +kernel) (fun i m => (∃ tX, m (Str.ofString "text") = some (.str (unesc ((pairs 1).take i) (Txt.slice y (some 3) (some (-4)))) tX) ∧ m (Str.ofString "inner") = some (.str x tx))) ⟨_, by simp only [upd, noFr, ↓reduceIte, ofString_eq, String.reduceEq]; rfl, by simp only [upd, noFr, ↓reduceIte, ofString_eq, String.reduceEq]⟩ ?turn ?done
  case turn =>
    intro i xv b u T m₁ h tk2 all hi hxi hbi hJ hu hu2 hT F' N'
    obtain ⟨tX, hmt, hmi⟩ := hJ
    obtain ⟨r, tr, rfl, hpi, htr, hrb⟩ := items_1 hi hxi hbi
    have hXl := Nat.le_trans (unesc_len ((pairs 1).take i) (fun p hp => hps p (List.mem_of_mem_take hp)) (Txt.slice y (some 3) (some (-4)))) hsl
    have htr2 : 1 ≤ tr ∧ tr < u := by
      simp only [List.mem_cons, List.not_mem_nil, or_false] at htr
      dsimp only at hu
      rcases htr with rfl | rfl | rfl | rfl | rfl | rfl | rfl <;> (constructor <;> first | (show @LE.le Nat _ _ _; lia) | (show @LT.lt Nat _ _ _; lia))
    have ne1 : tr ≠ 0 := Nat.ne_of_gt htr2.1
    have ne2 : u ≠ 0 := Nat.ne_of_gt (Nat.lt_of_le_of_lt (Nat.zero_le _) htr2.2)
    have ne3 : tr ≠ u := Nat.ne_of_lt htr2.2
    clear zF zN
    (k_steps; repeat' (((with_reducible refine hold_in ?_); (k_dflt (refine SC.replaceW (by first | with_reducible assumption | lia) (by first | with_reducible assumption | lia) (by first | with_reducible assumption | lia) (by with_reducible assumption) (by first | with_reducible assumption | lia) (by show 1 ≤ 14; decide) ?_); intro t' k'; (try dsimp only))); (all_goals (try k_steps))))
    refine' ⟨_, _, _, rfl, by with_reducible assumption, by with_reducible assumption, _, ?h1, ?h2⟩
    case h1 => rw [unesc_take hpi]; exact if_pos rfl
    case h2 => simp only [upd, ↓reduceIte, ofString_eq, String.reduceEq]; exact hmi
  case done =>
    intro m₁ h tk2 htk hJ F' N'
    obtain ⟨tX, hmt, hmi⟩ := hJ
    clear zF zN
    k_steps
    rw [show (pairs 1).take _ = pairs 1 from rfl, hfin, beq_self_eq_true]
    refine hret 0 _ _ (by with_reducible assumption) ?_
    first | with_reducible assumption | (with_reducible rename News g' L' _ _ => zN; exact newsSub zN (fun p hp => by repeat (first | exact hp | apply List.mem_cons_of_mem)))
theorem items_2 {t0 t1 t2 t3 t4 t5 t6 : Tok} {i b : Nat} {x : Value} (hi : i < 7) (hx : [Value.str (Str.ofString "&lt;") t0, Value.str (Str.ofString "&gt;") t1, Value.str (Str.ofString "&quot;") t2, Value.str (Str.ofString "&#x9;") t3, Value.str (Str.ofString "&#xA;") t4, Value.str (Str.ofString "&#xD;") t5, Value.str (Str.ofString "&amp;") t6][i]? = some x) (hb : (Str.ofString "<>\"\t\n\r&").cps[i]? = some b) :
    ∃ r t, x = .str r t ∧ (pairs 2)[i]? = some (r, b) ∧ t ∈ [t0, t1, t2, t3, t4, t5, t6] ∧ (r == (⟨#[b]⟩ : Str)) = false := by
  have hb' := cps_L hb
  rw [L_lit] at hb'
  rcases seven hi with rfl | rfl | rfl | rfl | rfl | rfl | rfl
  · obtain rfl := Option.some.inj hx
    obtain rfl : 60 = b := Option.some.inj hb'
    exact ⟨Str.ofString "&lt;", t0, rfl, rfl, by simp, by decide +kernel⟩
  · obtain rfl := Option.some.inj hx
    obtain rfl : 62 = b := Option.some.inj hb'
    exact ⟨Str.ofString "&gt;", t1, rfl, rfl, by simp, by decide +kernel⟩
  · obtain rfl := Option.some.inj hx
    obtain rfl : 34 = b := Option.some.inj hb'
    exact ⟨Str.ofString "&quot;", t2, rfl, rfl, by simp, by decide +kernel⟩
  · obtain rfl := Option.some.inj hx
    obtain rfl : 9 = b := Option.some.inj hb'
    exact ⟨Str.ofString "&#x9;", t3, rfl, rfl, by simp, by decide +kernel⟩
  · obtain rfl := Option.some.inj hx
    obtain rfl : 10 = b := Option.some.inj hb'
    exact ⟨Str.ofString "&#xA;", t4, rfl, rfl, by simp, by decide +kernel⟩
  · obtain rfl := Option.some.inj hx
    obtain rfl : 13 = b := Option.some.inj hb'
    exact ⟨Str.ofString "&#xD;", t5, rfl, rfl, by simp, by decide +kernel⟩
  · obtain rfl := Option.some.inj hx
    obtain rfl : 38 = b := Option.some.inj hb'
    exact ⟨Str.ofString "&amp;", t6, rfl, rfl, by simp, by decide +kernel⟩
theorem sp_gives_2 (w : World) (pr x y : Str) (tk tp tx ty : Tok) (hx : x.length ≤ 100000) (hy : y.length ≤ 600009) (hsl : (Txt.slice y (some 3) (some (-4))).length ≤ 600009) (hfin : unesc (pairs 2) (Txt.slice y (some 3) (some (-4))) = x) : SpecV w 904 20 60 [.int 2 tk, .str pr tp, .str x tx, .str y ty] (fun t => .bool true) := by
  refine' enterP (binds := [("kind", .int 2 tk), ("pair", .str pr tp), ("inner", .str x tx), ("outer", .str y ty)]) ?k6 ?ks ?k7 ?k9 ?kB ?c2 ?c3 ?c4 ?c5 ?_
  case k6 => k_dflt k_is
  case ks => exact rfl
  case k7 => k_dflt k_is
  case k9 => intro s X; exact BindsTo.of_eq rfl
  case c5 => decide
  case kB => exact locs rfl
  case c2 => exact rfl
  case c3 => exact rfl
  case c4 => exact rfl
  intro dp un gd cn cs a ccd cl outer base g' L L' mg mb mean news gens drawn os h' tk' WQ WE B' F' X' N' T' hd hu hpre hret htk' hPO
  simp only [List.reverse_cons, List.reverse_nil, List.nil_append, List.cons_append, lookF, lookE] at F'
  show (let zV := _; let zA := _; wpAny _ zA (execs _ zV) _ _ _)
  intro zV zA
  have hps : ∀ p ∈ pairs 2, 1 ≤ p.1.length := by decide +kernel
  (k_steps; repeat' (((with_reducible refine hold_in ?_); ((rename Fr _ _ _ _ => lF'); (with_unfolding_all refine' For_Z lF' ?_; k_whole))); (all_goals (try k_steps))))
  (with_reducible rename Fr g' L' _ _ => zF)
  (with_reducible rename News g' L' _ _ => zN)
  refine zip_loop (xs := [_, _, _, _, _, _, _]) rfl zF zN List.mem_cons_self (by decide +kernel) (by show 7 = _; decide +kernel) (fun i m => (∃ tX, m (Str.ofString "text") = some (.str (unesc ((pairs 2).take i) (Txt.slice y (some 3) (some (-4)))) tX) ∧ m (Str.ofString "inner") = some (.str x tx))) ⟨_, by simp only [upd, noFr, ↓reduceIte, ofString_eq, String.reduceEq]; rfl, by simp only [upd, noFr, ↓reduceIte, ofString_eq, String.reduceEq]⟩ ?turn ?done
  case turn =>
    intro i xv b u T m₁ h tk2 all hi hxi hbi hJ hu hu2 hT F' N'
    obtain ⟨tX, hmt, hmi⟩ := hJ
    obtain ⟨r, tr, rfl, hpi, htr, hrb⟩ := items_2 hi hxi hbi
    have hXl := Nat.le_trans (unesc_len ((pairs 2).take i) (fun p hp => hps p (List.mem_of_mem_take hp)) (Txt.slice y (some 3) (some (-4)))) hsl
    have htr2 : 1 ≤ tr ∧ tr < u := by
      simp only [List.mem_cons, List.not_mem_nil, or_false] at htr
      dsimp only at hu
      rcases htr with rfl | rfl | rfl | rfl | rfl | rfl | rfl <;> (constructor <;> first | (show @LE.le Nat _ _ _; lia) | (show @LT.lt Nat _ _ _; lia))
    have ne1 : tr ≠ 0 := Nat.ne_of_gt htr2.1
    have ne2 : u ≠ 0 := Nat.ne_of_gt (Nat.lt_of_le_of_lt (Nat.zero_le _) htr2.2)
    have ne3 : tr ≠ u := Nat.ne_of_lt htr2.2
    clear zF zN
    (k_steps; repeat' (((with_reducible refine hold_in ?_); (k_dflt (refine SC.replaceW (by first | with_reducible assumption | lia) (by first | with_reducible assumption | lia) (by first | with_reducible assumption | lia) (by with_reducible assumption) (by first | with_reducible assumption | lia) (by show 1 ≤ 14; decide) ?_); intro t' k'; (try dsimp only))); (all_goals (try k_steps))))
    refine' ⟨_, _, _, rfl, by with_reducible assumption, by with_reducible assumption, _, ?h1, ?h2⟩
    case h1 => rw [unesc_take hpi]; exact if_pos rfl
    case h2 => simp only [upd, ↓reduceIte, ofString_eq, String.reduceEq]; exact hmi
  case done =>
    intro m₁ h tk2 htk hJ F' N'
    obtain ⟨tX, hmt, hmi⟩ := hJ
    clear zF zN
    k_steps
    rw [show (pairs 2).take _ = pairs 2 from rfl, hfin, beq_self_eq_true]
    refine hret 0 _ _ (by with_reducible assumption) ?_
    first | with_reducible assumption | (with_reducible rename News g' L' _ _ => zN; exact newsSub zN (fun p hp => by repeat (first | exact hp | apply List.mem_cons_of_mem)))
theorem items_3 {t0 t1 t2 t3 t4 t5 t6 : Tok} {i b : Nat} {x : Value} (hi : i < 7) (hx : [Value.str (Str.ofString "&lt;") t0, Value.str (Str.ofString "&gt;") t1, Value.str (Str.ofString "&quot;") t2, Value.str (Str.ofString "&#09;") t3, Value.str (Str.ofString "&#10;") t4, Value.str (Str.ofString "&#13;") t5, Value.str (Str.ofString "&amp;") t6][i]? = some x) (hb : (Str.ofString "<>\"\t\n\r&").cps[i]? = some b) :
    ∃ r t, x = .str r t ∧ (pairs 3)[i]? = some (r, b) ∧ t ∈ [t0, t1, t2, t3, t4, t5, t6] ∧ (r == (⟨#[b]⟩ : Str)) = false := by
  have hb' := cps_L hb
  rw [L_lit] at hb'
  rcases seven hi with rfl | rfl | rfl | rfl | rfl | rfl | rfl
  · obtain rfl := Option.some.inj hx
    obtain rfl : 60 = b := Option.some.inj hb'
    exact ⟨Str.ofString "&lt;", t0, rfl, rfl, by simp, by decide +kernel⟩
  · obtain rfl := Option.some.inj hx
    obtain rfl : 62 = b := Option.some.inj hb'
    exact ⟨Str.ofString "&gt;", t1, rfl, rfl, by simp, by decide +kernel⟩
  · obtain rfl := Option.some.inj hx
    obtain rfl : 34 = b := Option.some.inj hb'
    exact ⟨Str.ofString "&quot;", t2, rfl, rfl, by simp, by decide +kernel⟩
  · obtain rfl := Option.some.inj hx
    obtain rfl : 9 = b := Option.some.inj hb'
    exact ⟨Str.ofString "&#09;", t3, rfl, rfl, by simp, by decide +kernel⟩
  · obtain rfl := Option.some.inj hx
    obtain rfl : 10 = b := Option.some.inj hb'
    exact ⟨Str.ofString "&#10;", t4, rfl, rfl, by simp, by decide +kernel⟩
  · obtain rfl := Option.some.inj hx
    obtain rfl : 13 = b := Option.some.inj hb'
    exact ⟨Str.ofString "&#13;", t5, rfl, rfl, by simp, by decide +kernel⟩
  · obtain rfl := Option.some.inj hx
    obtain rfl : 38 = b := Option.some.inj hb'
    exact ⟨Str.ofString "&amp;", t6, rfl, rfl, by simp, by decide +kernel⟩
theorem sp_gives_3 (w : World) (pr x y : Str) (tk tp tx ty : Tok) (hx : x.length ≤ 100000) (hy : y.length ≤ 600009) (hsl : (Txt.slice y (some 6) (some (-3))).length ≤ 600009) (hfin : unesc (pairs 3) (Txt.slice y (some 6) (some (-3))) = x) : SpecV w 904 20 60 [.int 3 tk, .str pr tp, .str x tx, .str y ty] (fun t => .bool true) := by
  refine' enterP (binds := [("kind", .int 3 tk), ("pair", .str pr tp), ("inner", .str x tx), ("outer", .str y ty)]) ?k6 ?ks ?k7 ?k9 ?kB ?c2 ?c3 ?c4 ?c5 ?_
  case k6 => k_dflt k_is
  case ks => exact rfl
  case k7 => k_dflt k_is
  case k9 => intro s X; exact BindsTo.of_eq rfl
  case c5 => decide
  case kB => exact locs rfl
  case c2 => exact rfl
  case c3 => exact rfl
  case c4 => exact rfl
  intro dp un gd cn cs a ccd cl outer base g' L L' mg mb mean news gens drawn os h' tk' WQ WE B' F' X' N' T' hd hu hpre hret htk' hPO
  simp only [List.reverse_cons, List.reverse_nil, List.nil_append, List.cons_append, lookF, lookE] at F'
  show (let zV := _; let zA := _; wpAny _ zA (execs _ zV) _ _ _)
  intro zV zA
  have hps : ∀ p ∈ pairs 3, 1 ≤ p.1.length := by decide +kernel
  (k_steps; repeat' (((with_reducible refine hold_in ?_); ((rename Fr _ _ _ _ => lF'); (with_unfolding_all refine' For_Z lF' ?_; k_whole))); (all_goals (try k_steps))))
  (with_reducible rename Fr g' L' _ _ => zF)
  (with_reducible rename News g' L' _ _ => zN)
  refine zip_loop (xs := [_, _, _, _, _, _, _]) rfl zF zN List.mem_cons_self (by decide +kernel) (by show 7 = _; decide +kernel) (fun i m => (∃ tX, m (Str.ofString "text") = some (.str (unesc ((pairs 3).take i) (Txt.slice y (some 6) (some (-3)))) tX) ∧ m (Str.ofString "inner") = some (.str x tx))) ⟨_, by simp only [upd, noFr, ↓reduceIte, ofString_eq, String.reduceEq]; rfl, by simp only [upd, noFr, ↓reduceIte, ofString_eq, String.reduceEq]⟩ ?turn ?done
  case turn =>
    intro i xv b u T m₁ h tk2 all hi hxi hbi hJ hu hu2 hT F' N'
    obtain ⟨tX, hmt, hmi⟩ := hJ
    obtain ⟨r, tr, rfl, hpi, htr, hrb⟩ := items_3 hi hxi hbi
    have hXl := Nat.le_trans (unesc_len ((pairs 3).take i) (fun p hp => hps p (List.mem_of_mem_take hp)) (Txt.slice y (some 6) (some (-3)))) hsl
    have htr2 : 1 ≤ tr ∧ tr < u := by
      simp only [List.mem_cons, List.not_mem_nil, or_false] at htr
      dsimp only at hu
      rcases htr with rfl | rfl | rfl | rfl | rfl | rfl | rfl <;> (constructor <;> first | (show @LE.le Nat _ _ _; lia) | (show @LT.lt Nat _ _ _; lia))
    have ne1 : tr ≠ 0 := Nat.ne_of_gt htr2.1
    have ne2 : u ≠ 0 := Nat.ne_of_gt (Nat.lt_of_le_of_lt (Nat.zero_le _) htr2.2)
    have ne3 : tr ≠ u := Nat.ne_of_lt htr2.2
    clear zF zN
    (k_steps; repeat' (((with_reducible refine hold_in ?_); (k_dflt (refine SC.replaceW (by first | with_reducible assumption | lia) (by first | with_reducible assumption | lia) (by first | with_reducible assumption | lia) (by with_reducible assumption) (by first | with_reducible assumption | lia) (by show 1 ≤ 14; decide) ?_); intro t' k'; (try dsimp only))); (all_goals (try k_steps))))
    refine' ⟨_, _, _, rfl, by with_reducible assumption, by with_reducible assumption, _, ?h1, ?h2⟩
    case h1 => rw [unesc_take hpi]; exact if_pos rfl
    case h2 => simp only [upd, ↓reduceIte, ofString_eq, String.reduceEq]; exact hmi
  case done =>
    intro m₁ h tk2 htk hJ F' N'
    obtain ⟨tX, hmt, hmi⟩ := hJ
    clear zF zN
    k_steps
    rw [show (pairs 3).take _ = pairs 3 from rfl, hfin, beq_self_eq_true]
    refine hret 0 _ _ (by with_reducible assumption) ?_
    first | with_reducible assumption | (with_reducible rename News g' L' _ _ => zN; exact newsSub zN (fun p hp => by repeat (first | exact hp | apply List.mem_cons_of_mem)))
theorem items_4 {t0 t1 t2 t3 t4 t5 t6 : Tok} {i b : Nat} {x : Value} (hi : i < 7) (hx : [Value.str (Str.ofString "&lt;") t0, Value.str (Str.ofString "&gt;") t1, Value.str (Str.ofString "&quot;") t2, Value.str (Str.ofString "&#x9;") t3, Value.str (Str.ofString "&#xA;") t4, Value.str (Str.ofString "&#xD;") t5, Value.str (Str.ofString "&amp;") t6][i]? = some x) (hb : (Str.ofString "<>\"\t\n\r&").cps[i]? = some b) :
    ∃ r t, x = .str r t ∧ (pairs 4)[i]? = some (r, b) ∧ t ∈ [t0, t1, t2, t3, t4, t5, t6] ∧ (r == (⟨#[b]⟩ : Str)) = false := by
  have hb' := cps_L hb
  rw [L_lit] at hb'
  rcases seven hi with rfl | rfl | rfl | rfl | rfl | rfl | rfl
  · obtain rfl := Option.some.inj hx
    obtain rfl : 60 = b := Option.some.inj hb'
    exact ⟨Str.ofString "&lt;", t0, rfl, rfl, by simp, by decide +kernel⟩
  · obtain rfl := Option.some.inj hx
    obtain rfl : 62 = b := Option.some.inj hb'
    exact ⟨Str.ofString "&gt;", t1, rfl, rfl, by simp, by decide +kernel⟩
  · obtain rfl := Option.some.inj hx
    obtain rfl : 34 = b := Option.some.inj hb'
    exact ⟨Str.ofString "&quot;", t2, rfl, rfl, by simp, by decide +kernel⟩
  · obtain rfl := Option.some.inj hx
    obtain rfl : 9 = b := Option.some.inj hb'
    exact ⟨Str.ofString "&#x9;", t3, rfl, rfl, by simp, by decide +kernel⟩
  · obtain rfl := Option.some.inj hx
    obtain rfl : 10 = b := Option.some.inj hb'
    exact ⟨Str.ofString "&#xA;", t4, rfl, rfl, by simp, by decide +kernel⟩
  · obtain rfl := Option.some.inj hx
    obtain rfl : 13 = b := Option.some.inj hb'
    exact ⟨Str.ofString "&#xD;", t5, rfl, rfl, by simp, by decide +kernel⟩
  · obtain rfl := Option.some.inj hx
    obtain rfl : 38 = b := Option.some.inj hb'
    exact ⟨Str.ofString "&amp;", t6, rfl, rfl, by simp, by decide +kernel⟩
theorem sp_gives_4 (w : World) (pr x y : Str) (tk tp tx ty : Tok) (hx : x.length ≤ 100000) (hy : y.length ≤ 600009) (hsl : (Txt.slice y (some 6) (some (-3))).length ≤ 600009) (hfin : unesc (pairs 4) (Txt.slice y (some 6) (some (-3))) = x) : SpecV w 904 20 60 [.int 4 tk, .str pr tp, .str x tx, .str y ty] (fun t => .bool true) := by
  refine' enterP (binds := [("kind", .int 4 tk), ("pair", .str pr tp), ("inner", .str x tx), ("outer", .str y ty)]) ?k6 ?ks ?k7 ?k9 ?kB ?c2 ?c3 ?c4 ?c5 ?_
  case k6 => k_dflt k_is
  case ks => exact rfl
  case k7 => k_dflt k_is
  case k9 => intro s X; exact BindsTo.of_eq rfl
  case c5 => decide
  case kB => exact locs rfl
  case c2 => exact rfl
  case c3 => exact rfl
  case c4 => exact rfl
  intro dp un gd cn cs a ccd cl outer base g' L L' mg mb mean news gens drawn os h' tk' WQ WE B' F' X' N' T' hd hu hpre hret htk' hPO
  simp only [List.reverse_cons, List.reverse_nil, List.nil_append, List.cons_append, lookF, lookE] at F'
  show (let zV := _; let zA := _; wpAny _ zA (execs _ zV) _ _ _)
  intro zV zA
  have hps : ∀ p ∈ pairs 4, 1 ≤ p.1.length := by decide +kernel
  (k_steps; repeat' (((with_reducible refine hold_in ?_); ((rename Fr _ _ _ _ => lF'); (with_unfolding_all refine' For_Z lF' ?_; k_whole))); (all_goals (try k_steps))))
  (with_reducible rename Fr g' L' _ _ => zF)
  (with_reducible rename News g' L' _ _ => zN)
  refine zip_loop (xs := [_, _, _, _, _, _, _]) rfl zF zN List.mem_cons_self (by decide +kernel) (by show 7 = _; decide +kernel) (fun i m => (∃ tX, m (Str.ofString "text") = some (.str (unesc ((pairs 4).take i) (Txt.slice y (some 6) (some (-3)))) tX) ∧ m (Str.ofString "inner") = some (.str x tx))) ⟨_, by simp only [upd, noFr, ↓reduceIte, ofString_eq, String.reduceEq]; rfl, by simp only [upd, noFr, ↓reduceIte, ofString_eq, String.reduceEq]⟩ ?turn ?done
  case turn =>
    intro i xv b u T m₁ h tk2 all hi hxi hbi hJ hu hu2 hT F' N'
    obtain ⟨tX, hmt, hmi⟩ := hJ
    obtain ⟨r, tr, rfl, hpi, htr, hrb⟩ := items_4 hi hxi hbi
    have hXl := Nat.le_trans (unesc_len ((pairs 4).take i) (fun p hp => hps p (List.mem_of_mem_take hp)) (Txt.slice y (some 6) (some (-3)))) hsl
    have htr2 : 1 ≤ tr ∧ tr < u := by
      simp only [List.mem_cons, List.not_mem_nil, or_false] at htr
      dsimp only at hu
      rcases htr with rfl | rfl | rfl | rfl | rfl | rfl | rfl <;> (constructor <;> first | (show @LE.le Nat _ _ _; lia) | (show @LT.lt Nat _ _ _; lia))
    have ne1 : tr ≠ 0 := Nat.ne_of_gt htr2.1
    have ne2 : u ≠ 0 := Nat.ne_of_gt (Nat.lt_of_le_of_lt (Nat.zero_le _) htr2.2)
    have ne3 : tr ≠ u := Nat.ne_of_lt htr2.2
    clear zF zN
    (k_steps; repeat' (((with_reducible refine hold_in ?_); (k_dflt (refine SC.replaceW (by first | with_reducible assumption | lia) (by first | with_reducible assumption | lia) (by first | with_reducible assumption | lia) (by with_reducible assumption) (by first | with_reducible assumption | lia) (by show 1 ≤ 14; decide) ?_); intro t' k'; (try dsimp only))); (all_goals (try k_steps))))
    refine' ⟨_, _, _, rfl, by with_reducible assumption, by with_reducible assumption, _, ?h1, ?h2⟩
    case h1 => rw [unesc_take hpi]; exact if_pos rfl
    case h2 => simp only [upd, ↓reduceIte, ofString_eq, String.reduceEq]; exact hmi
  case done =>
    intro m₁ h tk2 htk hJ F' N'
    obtain ⟨tX, hmt, hmi⟩ := hJ
    clear zF zN
    k_steps
    rw [show (pairs 4).take _ = pairs 4 from rfl, hfin, beq_self_eq_true]
    refine hret 0 _ _ (by with_reducible assumption) ?_
    first | with_reducible assumption | (with_reducible rename News g' L' _ _ => zN; exact newsSub zN (fun p hp => by repeat (first | exact hp | apply List.mem_cons_of_mem)))
theorem items_5 {t0 t1 t2 t3 t4 t5 t6 : Tok} {i b : Nat} {x : Value} (hi : i < 7) (hx : [Value.str (Str.ofString "&lt;") t0, Value.str (Str.ofString "&gt;") t1, Value.str (Str.ofString "&quot;") t2, Value.str (Str.ofString "&#x9;") t3, Value.str (Str.ofString "&#xA;") t4, Value.str (Str.ofString "&#xD;") t5, Value.str (Str.ofString "&amp;") t6][i]? = some x) (hb : (Str.ofString "<>\"\t\n\r&").cps[i]? = some b) :
    ∃ r t, x = .str r t ∧ (pairs 5)[i]? = some (r, b) ∧ t ∈ [t0, t1, t2, t3, t4, t5, t6] ∧ (r == (⟨#[b]⟩ : Str)) = false := by
  have hb' := cps_L hb
  rw [L_lit] at hb'
  rcases seven hi with rfl | rfl | rfl | rfl | rfl | rfl | rfl
  · obtain rfl := Option.some.inj hx
    obtain rfl : 60 = b := Option.some.inj hb'
    exact ⟨Str.ofString "&lt;", t0, rfl, rfl, by simp, by decide +kernel⟩
  · obtain rfl := Option.some.inj hx
    obtain rfl : 62 = b := Option.some.inj hb'
    exact ⟨Str.ofString "&gt;", t1, rfl, rfl, by simp, by decide +kernel⟩
  · obtain rfl := Option.some.inj hx
    obtain rfl : 34 = b := Option.some.inj hb'
    exact ⟨Str.ofString "&quot;", t2, rfl, rfl, by simp, by decide +kernel⟩
  · obtain rfl := Option.some.inj hx
    obtain rfl : 9 = b := Option.some.inj hb'
    exact ⟨Str.ofString "&#x9;", t3, rfl, rfl, by simp, by decide +kernel⟩
  · obtain rfl := Option.some.inj hx
    obtain rfl : 10 = b := Option.some.inj hb'
    exact ⟨Str.ofString "&#xA;", t4, rfl, rfl, by simp, by decide +kernel⟩
  · obtain rfl := Option.some.inj hx
    obtain rfl : 13 = b := Option.some.inj hb'
    exact ⟨Str.ofString "&#xD;", t5, rfl, rfl, by simp, by decide +kernel⟩
  · obtain rfl := Option.some.inj hx
    obtain rfl : 38 = b := Option.some.inj hb'
    exact ⟨Str.ofString "&amp;", t6, rfl, rfl, by simp, by decide +kernel⟩
theorem sp_gives_5 (w : World) (pr x y : Str) (tk tp tx ty : Tok) (hx : x.length ≤ 100000) (hy : y.length ≤ 600009) (hsl : (Txt.slice y (some 6) (some (-3))).length ≤ 600009) (hfin : unesc (pairs 5) (Txt.slice y (some 6) (some (-3))) = x) : SpecV w 904 20 60 [.int 5 tk, .str pr tp, .str x tx, .str y ty] (fun t => .bool true) := by
  refine' enterP (binds := [("kind", .int 5 tk), ("pair", .str pr tp), ("inner", .str x tx), ("outer", .str y ty)]) ?k6 ?ks ?k7 ?k9 ?kB ?c2 ?c3 ?c4 ?c5 ?_
  case k6 => k_dflt k_is
  case ks => exact rfl
  case k7 => k_dflt k_is
  case k9 => intro s X; exact BindsTo.of_eq rfl
  case c5 => decide
  case kB => exact locs rfl
  case c2 => exact rfl
  case c3 => exact rfl
  case c4 => exact rfl
  intro dp un gd cn cs a ccd cl outer base g' L L' mg mb mean news gens drawn os h' tk' WQ WE B' F' X' N' T' hd hu hpre hret htk' hPO
  simp only [List.reverse_cons, List.reverse_nil, List.nil_append, List.cons_append, lookF, lookE] at F'
  show (let zV := _; let zA := _; wpAny _ zA (execs _ zV) _ _ _)
  intro zV zA
  have hps : ∀ p ∈ pairs 5, 1 ≤ p.1.length := by decide +kernel
  (k_steps; repeat' (((with_reducible refine hold_in ?_); ((rename Fr _ _ _ _ => lF'); (with_unfolding_all refine' For_Z lF' ?_; k_whole))); (all_goals (try k_steps))))
  (with_reducible rename Fr g' L' _ _ => zF)
  (with_reducible rename News g' L' _ _ => zN)
  refine zip_loop (xs := [_, _, _, _, _, _, _]) rfl zF zN List.mem_cons_self (by decide +kernel) (by show 7 = _; decide +kernel) (fun i m => (∃ tX, m (Str.ofString "text") = some (.str (unesc ((pairs 5).take i) (Txt.slice y (some 6) (some (-3)))) tX) ∧ m (Str.ofString "inner") = some (.str x tx))) ⟨_, by simp only [upd, noFr, ↓reduceIte, ofString_eq, String.reduceEq]; rfl, by simp only [upd, noFr, ↓reduceIte, ofString_eq, String.reduceEq]⟩ ?turn ?done
  case turn =>
    intro i xv b u T m₁ h tk2 all hi hxi hbi hJ hu hu2 hT F' N'
    obtain ⟨tX, hmt, hmi⟩ := hJ
    obtain ⟨r, tr, rfl, hpi, htr, hrb⟩ := items_5 hi hxi hbi
    have hXl := Nat.le_trans (unesc_len ((pairs 5).take i) (fun p hp => hps p (List.mem_of_mem_take hp)) (Txt.slice y (some 6) (some (-3)))) hsl
    have htr2 : 1 ≤ tr ∧ tr < u := by
      simp only [List.mem_cons, List.not_mem_nil, or_false] at htr
      dsimp only at hu
      rcases htr with rfl | rfl | rfl | rfl | rfl | rfl | rfl <;> (constructor <;> first | (show @LE.le Nat _ _ _; lia) | (show @LT.lt Nat _ _ _; lia))
    have ne1 : tr ≠ 0 := Nat.ne_of_gt htr2.1
    have ne2 : u ≠ 0 := Nat.ne_of_gt (Nat.lt_of_le_of_lt (Nat.zero_le _) htr2.2)
    have ne3 : tr ≠ u := Nat.ne_of_lt htr2.2
    clear zF zN
    (k_steps; repeat' (((with_reducible refine hold_in ?_); (k_dflt (refine SC.replaceW (by first | with_reducible assumption | lia) (by first | with_reducible assumption | lia) (by first | with_reducible assumption | lia) (by with_reducible assumption) (by first | with_reducible assumption | lia) (by show 1 ≤ 14; decide) ?_); intro t' k'; (try dsimp only))); (all_goals (try k_steps))))
    refine' ⟨_, _, _, rfl, by with_reducible assumption, by with_reducible assumption, _, ?h1, ?h2⟩
    case h1 => rw [unesc_take hpi]; exact if_pos rfl
    case h2 => simp only [upd, ↓reduceIte, ofString_eq, String.reduceEq]; exact hmi
  case done =>
    intro m₁ h tk2 htk hJ F' N'
    obtain ⟨tX, hmt, hmi⟩ := hJ
    clear zF zN
    k_steps
    rw [show (pairs 5).take _ = pairs 5 from rfl, hfin, beq_self_eq_true]
    refine hret 0 _ _ (by with_reducible assumption) ?_
    first | with_reducible assumption | (with_reducible rename News g' L' _ _ => zN; exact newsSub zN (fun p hp => by repeat (first | exact hp | apply List.mem_cons_of_mem)))
end
open PySem PySem.W PySem.Spec PySem.Calls PyProof.Rows
local macro_rules | `(tactic| walk_at "storeName") => `(tactic| ((try dsimp only); k_dflt (refine' storeF (by rfl) (by kernel_rfl!) (by with_reducible assumption) (by with_reducible assumption) ?_; k_whole; intro h' tk' F' N'; (try with_reducible refine kSt2I ?_); (try k_sweep))))
local macro_rules | `(tactic| walk_at "execs cons") => `(tactic| (k_dflt (with_reducible (first | refine execs_one ?_ | refine execs_g ?_)); intro tk'; (try dsimp only)))
local macro_rules | `(tactic| walk_at "eval Constant int") => `(tactic| (k_dflt (with_reducible refine constI ?_)))
local macro_rules | `(tactic| walk_at "eval Constant str") => `(tactic| (k_dflt (with_reducible refine constS ?_)))
local macro_rules | `(tactic| walk_at "binaryOp Add int int") => `(tactic| (k_dflt (with_reducible refine addI ?_)))
local macro_rules | `(tactic| walk_at "binaryOp Sub int int") => `(tactic| (k_dflt (with_reducible refine subI ?_)))
local macro_rules | `(tactic| walk_at "getMethod str") => `(tactic| with_reducible refine meth_encode ?_)
local macro_rules | `(tactic| walk_at "eval ListComp") => `(tactic| (k_dflt (refine ListComp_T (_F₀ := by k_asm) (by with_unfolding_all rfl) (by decide) (by rfl) (by decide) (by rfl) ?_); (try dsimp only)))
section
open PySem PySem.W
example {M : Model} {A : Around} {v : Value} {Q : Bool → Shared → Prop} {E : Value → Shared → Prop} {s : Shared} (h : wpAny M A (truthy v) Q E s) : wpAny M A (truthy v) Q E s := by first | (walk1; fail) | exact h
end
section
open PySem PySem.W PySem.Spec PySem.Calls PyProof.Rows
set_option maxHeartbeats 4000000
noncomputable def eight : List Nat := [38, 60, 62, 34, 39, 13, 10, 9]
noncomputable def cnt (x : Str) : List Int := [(x.length : Int), ((u8 x).size : Int)] ++ eight.map fun c => ((L x).count c : Int)
theorem eight_at {i c : Nat} (h : (Str.ofString "&<>\"'\r\n\t").cps[i]? = some c) : eight[i]? = some c := by
  rw [← Array.getElem?_toList] at h; exact h
theorem sp_law_counted (w : World) (x : Str) (tx : Tok) (hx : x.length ≤ 100000) (hs : ∀ c ∈ L x, Str.isSurrogate c = false) : SpecL w 880 1 8 [.str x tx] (fun _ => True) (fun vs => IntsAre vs (cnt x)) := by
  unfold SpecL
  intro dp un gd cn cs a ccd cl outer A₀ base h₀ L m mg mb mean news s Q E B F X N T hk hd hu hpre hret
  refine wpAny_call ?_
  refine' fn_enterC (binds := [("text", .str x tx)]) ?k1 ?k2 ?k3 ?k4 ?k5 ?kA ?kF ?kK ?k6 ?ks ?k7 ?k8 ?k9 ?kB ?kD ?_ ?c2 ?c3 ?c4
  case kA => exact rfl
  case kF => exact rfl
  case kK => assumption
  case k1 => assumption
  case k2 => assumption
  case k3 => assumption
  case k4 => assumption
  case k5 => assumption
  case k6 => k_dflt k_is
  case ks => exact rfl
  case k7 => k_dflt k_is
  case k8 => exact Nat.lt_of_le_of_lt (Nat.le_add_right _ _) hd
  case k9 => exact BindsTo.of_eq rfl
  case kB => exact rfl
  case kD => decide +kernel
  case c2 => exact rfl
  case c3 => exact rfl
  case c4 => exact rfl
  intro g' L' h' tk' cells' FG' F' N' Y' B' X' T' l1
  try k_lt l1
  k_cells Y'
  try simp only [List.cons_append, List.nil_append] at N'
  try dsimp only
  try k_lift B'
  try k_fold
  show (let zV := _; let zA := _; wpAny _ zA (execs _ zV) _ _ _)
  intro zV zA
  (k_steps; repeat' (first | ((((with_reducible show wpAny _ _ (call (Value.builtin _) [Value.bytes _ _]) _ _ _); (refine' len_bytes (by first | omega | (refine Nat.le_trans (u8_size _) ?_; omega) | (rw [asc_size]; omega) | (rw [trans_size]; omega)) ?_))); (all_goals (try k_steps))) | (((refine' call_encode8 (by assumption) (by refine Nat.le_trans (u8_size _) ?_; omega) ?_)); (all_goals (try k_steps)))))
  try dsimp only
  refine' comp_quietH (src_str rfl _ _) ?hz ?F ?N ?hn (fun i ys => IntsAre ys ((eight.take i).map fun c => ((Mine.L x).count c : Int))) ?hG ?turn ?fin
  case F => with_reducible assumption
  case N => with_reducible assumption
  case hn => exact fun p hp => nomatch hp
  case hz => decide
  case hG => exact .nil
  case turn =>
    intro i ys v I oI C oC D m₂ h tk E' WV WF hWV hWF hi hI hP hC hx F' N'
    obtain ⟨c, u, hc, rfl⟩ := hP
    k_steps
    first | refine hWV _ _ _ (by with_reducible assumption) (by with_reducible assumption) ?_ | refine hWF _ _ (by with_reducible assumption) (by with_reducible assumption) ?_
    rw [take_map_snoc (eight_at hc), count_one]
    exact ints_snoc hI
  case fin =>
    intro D h tk ys F' N' o1 hI
    k_steps
    (refine' retL hret ?eF ?eN ?eL ?eR; (case eF => with_reducible assumption); (case eL => first | with_reducible assumption | exact kst_ltOf (by with_reducible assumption) | exact kst_ltOf (And.right (by with_reducible assumption)) | exact kst_ltOf (And.right (And.right (by with_reducible assumption))) | exact kst_ltOf (And.right (And.right (And.right (by with_reducible assumption)))) | exact kst_ltOf (And.right (And.right (And.right (And.right (by with_reducible assumption)))))); (case eN => (with_reducible rename News h₀ L _ _ => zN); intro p hp; (rcases List.mem_cons.mp hp with rfl | hp; (exact zN _ List.mem_cons_self); (exact zN _ (by repeat (first | exact hp | apply List.mem_cons_of_mem))))))
    assumption
end
section
open PySem PySem.W
example {M : Model} {A : Around} {v : Value} {Q : Bool → Shared → Prop} {E : Value → Shared → Prop} {s : Shared} (h : wpAny M A (truthy v) Q E s) : wpAny M A (truthy v) Q E s := by first | (walk1; fail) | exact h
end
section
open PySem PySem.W PySem.Spec PySem.Calls PyProof.Rows
set_option maxHeartbeats 4000000
noncomputable def menu : List Str := ["'", "\"", "&", "<", ">", "\r", "\n", "\t", " ", "\\", "a", "=", ";", "#", "~", ".", ""]
noncomputable def sgn (n : Int) : Str := if n.fmod 1112081 < 17 then menu.getD (n.fmod 1112081).toNat "" else if n.fmod 1112081 < 55313 then ⟨#[(n.fmod 1112081 - 17).toNat]⟩ else ⟨#[(n.fmod 1112081 + 2031).toNat]⟩
theorem sp_law_sign (w : World) (n : Int) (tn : Tok) : SpecV w 854 1 8 [.int n tn] (fun t => .str (sgn n) t) := by
  refine' enterP (binds := [("n", .int n tn)]) ?k6 ?ks ?k7 ?k9 ?kB ?c2 ?c3 ?c4 ?c5 ?_
  case k6 => k_dflt k_is
  case ks => exact rfl
  case k7 => k_dflt k_is
  case k9 => intro s X; exact BindsTo.of_eq rfl
  case c5 => decide
  case kB => exact locs rfl
  case c2 => exact rfl
  case c3 => exact rfl
  case c4 => exact rfl
  intro dp un gd cn cs a ccd cl outer base g' L L' mg mb mean news gens drawn os h' tk' WQ WE B' F' X' N' T' hd hu hpre hret htk' hPO
  show (let zV := _; let zA := _; wpAny _ zA (execs _ zV) _ _ _)
  intro zV zA
  k_steps
  all_goals (unfold sgn at hret; (simp only [*, if_true, if_false] at hret); refine hret _ _ _ (by with_reducible assumption) ?_; first | with_reducible assumption | (with_reducible rename News g' L' _ _ => zN; exact newsSub zN (fun p hp => by repeat (first | exact hp | apply List.mem_cons_of_mem))))
end
section
open PySem PySem.W
example {M : Model} {A : Around} {v : Value} {Q : Bool → Shared → Prop} {E : Value → Shared → Prop} {s : Shared} (h : wpAny M A (truthy v) Q E s) : wpAny M A (truthy v) Q E s := by first | (walk1; fail) | exact h
end
section
open PySem PySem.W PySem.Spec PySem.Calls PyProof.Rows
set_option maxHeartbeats 4000000
local macro_rules | `(tactic| walk_at "call builtin:list.append") => `(tactic| refine of_hold ?_)
noncomputable def kindStep (ks : List Int) (n : Int) : List Int := ks ++ [if n.fmod 9 = 0 ∧ ks.count 0 = 2 then 6 else n.fmod 9]
noncomputable def kindsOf (ns : List Int) : List Int := ns.foldl kindStep []
theorem sp_law_kinds (w : World) (l : Addr) (vs : List Value) (k : Nat) (ns : List Int) (hi : IntsAre vs ns) (hl : ns.length ≤ 100) : SpecL w 861 1 8 [.ref l] (fun news => (l, listObj vs k) ∈ news) (fun r => IntsAre r (kindsOf ns)) := by
  refine' enterL (binds := [("numbers", .ref l)]) ?k6 ?ks ?k7 ?k9 ?kB ?c2 ?c3 ?c4 ?c5 ?_
  case k6 => k_dflt k_is
  case ks => exact rfl
  case k7 => k_dflt k_is
  case k9 => intro s X; exact BindsTo.of_eq rfl
  case c5 => decide
  case kB => exact locs rfl
  case c2 => exact rfl
  case c3 => exact rfl
  case c4 => exact rfl
  intro dp un gd cn cs a ccd cl outer base g' L L' mg mb mean news gens drawn os h' tk' WQ WE B' F' X' N' T' hd hu hpre hret htk' hPO
  show (let zV := _; let zA := _; wpAny _ zA (execs _ zV) _ _ _)
  intro zV zA
  k_steps
  rename IntsAre _ _ => hi
  (with_reducible rename Fr _ _ _ _ => zF); (with_reducible rename News _ _ _ _ => zN)
  refine' for_src (src_list rfl zN (List.mem_cons_of_mem _ hpre)) zF zN ?hn (fun (i : Nat) (m : Str → Option Value) (nw : List (Addr × Obj)) => ∃ lk k vs, (∃ u, m = fun (y : Str) => if y = "n" then u else if y = "kinds" then some (Value.ref lk) else if y = "numbers" then some (Value.ref l) else none) ∧ nw = (lk, listObj vs k) :: news ∧ AllLt lk news ∧ vs.length = i ∧ IntsAre vs (kindsOf (ns.take i))) ?hj ?turn ?done
  case hn => exact fun p hp => by rw [List.mem_singleton.mp hp]; exact List.mem_cons_of_mem _ hpre
  case hj => exact ⟨_, _, _, ⟨_, frame_at fun y hy => by simp only [List.reverse_cons, List.reverse_nil, List.nil_append, look1, List.lookup_nil]⟩, rfl, allLt_of (by with_reducible assumption), rfl, .nil⟩
  case turn =>
    intro i v m₁ nw h tk I oI hlt hP hJ F' N' off hnd
    obtain ⟨lk, k', vs', ⟨u, rfl⟩, rfl, l2, hvl, hI⟩ := hJ
    obtain ⟨n, t, rfl, hn⟩ := hi.at _ _ (by simpa using hP)
    have oI1 : @Ne Nat lk I := off _ List.mem_cons_self
    have hi2 : i < ns.length := (List.getElem?_eq_some_iff.mp hn).1
    (k_steps; repeat' (((with_reducible refine hold_in ?_); (k_dflt (first   | (refine' app2 (by with_reducible assumption) (by with_reducible assumption) (by first | with_reducible assumption | exact Ne.symm (by with_reducible assumption) | k_ne) (by with_reducible assumption) (by (try simp only [List.length_append, List.length_singleton]); omega) ?_)   | (refine' app1 (by with_reducible assumption) (by with_reducible assumption) (by with_reducible assumption) (by (try simp only [List.length_append, List.length_singleton]); omega) ?_)); intro h' F' N'; (try dsimp only))); (all_goals (try k_steps))))
    all_goals (refine ⟨_, _, _, _, rfl, by with_reducible assumption, by with_reducible assumption, off_head off, need_one hpre, lk, _, _, ⟨_, frame_again⟩, rfl, l2, by rw [List.length_append, hvl]; rfl, ?_⟩; rw [List.take_add_one, hn]; unfold kindsOf; rw [List.foldl_append]; show IntsAre _ (kindStep (kindsOf (ns.take i)) n); unfold kindStep; refine hI.append ?_; split <;> first | exact .cons _ _ .nil | (exfalso; omega))
  case done =>
    intro m₁ nw h tk hJ F' N'
    obtain ⟨lk, k', vs', ⟨u, rfl⟩, rfl, l2, hvl, hI⟩ := hJ
    k_steps
    (refine' retW hret ?eF ?eN ?eL ?eR; (case eF => with_reducible assumption); (case eL => first | with_reducible assumption | exact kst_ltOf (by with_reducible assumption) | exact kst_ltOf (And.right (by with_reducible assumption)) | exact kst_ltOf (And.right (And.right (by with_reducible assumption))) | exact kst_ltOf (And.right (And.right (And.right (by with_reducible assumption)))) | exact kst_ltOf (And.right (And.right (And.right (And.right (by with_reducible assumption)))))); (case eN => (with_reducible rename News g' L' _ _ => zN); intro p hp; (rcases List.mem_cons.mp hp with rfl | hp; (exact zN _ List.mem_cons_self); (exact zN _ (by repeat (first | exact hp | apply List.mem_cons_of_mem))))))
    rw [List.take_of_length_le (by rw [List.size_toArray, hi.length]; exact Nat.le_refl _)] at hI
    exact hI
end
section
open PySem PySem.W
example {M : Model} {A : Around} {v : Value} {Q : Bool → Shared → Prop} {E : Value → Shared → Prop} {s : Shared} (h : wpAny M A (truthy v) Q E s) : wpAny M A (truthy v) Q E s := by first | (walk1; fail) | exact h
end
section
open PySem PySem.W PySem.Spec PySem.Calls PyProof.Rows
set_option maxHeartbeats 4000000
theorem sp_buffer (w : World) (b : Array UInt8) (tx : Tok) : SpecV w 51 1 8 [.bytes b tx] (fun t => .bytes b tx) := by
  refine' enterP (binds := [("data", .bytes b tx)]) ?k6 ?ks ?k7 ?k9 ?kB ?c2 ?c3 ?c4 ?c5 ?_
  case k6 => k_dflt k_is
  case ks => exact rfl
  case k7 => k_dflt k_is
  case k9 => intro s X; exact BindsTo.of_eq rfl
  case c5 => decide
  case kB => exact locs rfl
  case c2 => exact rfl
  case c3 => exact rfl
  case c4 => exact rfl
  intro dp un gd cn cs a ccd cl outer base g' L L' mg mb mean news gens drawn os h' tk' WQ WE B' F' X' N' T' hd hu hpre hret htk' hPO
  show (let zV := _; let zA := _; wpAny _ zA (execs _ zV) _ _ _)
  intro zV zA
  (k_steps; repeat' (((with_reducible refine call_type_of (typeIs_bytes _ _ _) (by decide) ?_)); (all_goals (try k_steps))))
  all_goals exact hret 0 _ _ (by with_reducible assumption) (by with_reducible assumption)
theorem sp_truth (w : World) (b : Bool) : SpecV w 58 1 8 [.bool b] (fun t => .bool b) := by
  refine' enterP (binds := [("x", .bool b)]) ?k6 ?ks ?k7 ?k9 ?kB ?c2 ?c3 ?c4 ?c5 ?_
  case k6 => k_dflt k_is
  case ks => exact rfl
  case k7 => k_dflt k_is
  case k9 => intro s X; exact BindsTo.of_eq rfl
  case c5 => decide
  case kB => exact locs rfl
  case c2 => exact rfl
  case c3 => exact rfl
  case c4 => exact rfl
  intro dp un gd cn cs a ccd cl outer base g' L L' mg mb mean news gens drawn os h' tk' WQ WE B' F' X' N' T' hd hu hpre hret htk' hPO
  show (let zV := _; let zA := _; wpAny _ zA (execs _ zV) _ _ _)
  intro zV zA
  cases b
  all_goals k_steps
  all_goals exact hret 0 _ _ (by with_reducible assumption) (by with_reducible assumption)
theorem hexes_asc (b : Array UInt8) : ∀ c ∈ L ⟨hexes b⟩, c < 128 := by
  intro c hc
  have hc' : c ∈ (hexes b).toList := hc
  rw [hexes_toList] at hc'
  obtain ⟨x, _, h⟩ := List.mem_flatMap.mp hc'
  have key : ∀ n, n < 16 → Builtin.Bytes.hexDigit n < 128 := by decide
  have h1 : x.toNat / 16 < 16 := by have := x.toNat_lt; omega
  have h2 : x.toNat % 16 < 16 := Nat.mod_lt _ (by decide)
  rcases List.mem_cons.mp h with rfl | h
  · exact key _ h1
  · rw [List.mem_singleton.mp h]; exact key _ h2
noncomputable def hexB (b : Array UInt8) : Array UInt8 := asc ⟨hexes b⟩
theorem hexB_size (b : Array UInt8) : (hexB b).size = 2 * b.size := by
  unfold hexB; rw [asc_size]; show (hexes b).size = _; rw [hexes_size]
noncomputable def upB (b : Array UInt8) : Array UInt8 := (b.toList.map Builtin.Bytes.toUpper).toArray
theorem sp_b2a_hex (w : World) (b : Array UInt8) (tx : Tok) (hx : b.size ≤ 400000) : SpecV w 75 3 20 [.bytes b tx] (fun t => .bytes (hexB b) t) := by
  refine' enterP (binds := [("data", .bytes b tx), ("sep", .ref 67), ("bytes_per_sep", .int 1 366)]) ?k6 ?ks ?k7 ?k9 ?kB ?c2 ?c3 ?c4 ?c5 ?_
  case k6 => k_dflt k_is
  case ks => exact rfl
  case k7 => k_dflt k_is
  case k9 => intro s X; exact binds_K (by k_in) rfl (by k_dflt k_is) rfl rfl rfl
  case c5 => decide
  case kB => exact locs rfl
  case c2 => exact rfl
  case c3 => exact rfl
  case c4 => exact rfl
  intro dp un gd cn cs a ccd cl outer base g' L L' mg mb mean news gens drawn os h' tk' WQ WE B' F' X' N' T' hd hu hpre hret htk' hPO
  show (let zV := _; let zA := _; wpAny _ zA (execs _ zV) _ _ _)
  intro zV zA
  (k_steps; repeat' (first | ((with_reducible refine meth_hex ?_); (all_goals (try k_steps))) | (((refine' call_hex (by rw [hexes_size]; omega) ?_)); (all_goals (try k_steps))) | (((with_reducible show wpAny _ _ (call (Value.ref 51) _) _ _ _); k_dflt (refine' SpecP.go (sp_buffer _ _ _) ?_); intro t' h' tk' F' N'; (try dsimp only); (try k_sweep)); all_goals (try k_steps)) | ((refine' call_encodeA ?hb ?hz ?_; (case hb => exact hexes_asc _); (case hz => rw [asc_size]; show (hexes _).size ≤ _; rw [hexes_size]; omega)); all_goals (try k_steps))))
  all_goals (refine hret _ _ _ (by with_reducible assumption) ?_; first | with_reducible assumption | (with_reducible rename News g' L' _ _ => zN; exact newsSub zN (fun p hp => by repeat (first | exact hp | apply List.mem_cons_of_mem))))
theorem sp_b16encode (w : World) (b : Array UInt8) (tx : Tok) (hx : b.size ≤ 400000) : SpecV w 90 5 30 [.bytes b tx] (fun t => .bytes (upB (hexB b)) t) := by
  refine' enterP (binds := [("s", .bytes b tx)]) ?k6 ?ks ?k7 ?k9 ?kB ?c2 ?c3 ?c4 ?c5 ?_
  case k6 => k_dflt k_is
  case ks => exact rfl
  case k7 => k_dflt k_is
  case k9 => intro s X; exact BindsTo.of_eq rfl
  case c5 => decide
  case kB => exact locs rfl
  case c2 => exact rfl
  case c3 => exact rfl
  case c4 => exact rfl
  intro dp un gd cn cs a ccd cl outer base g' L L' mg mb mean news gens drawn os h' tk' WQ WE B' F' X' N' T' hd hu hpre hret htk' hPO
  show (let zV := _; let zA := _; wpAny _ zA (execs _ zV) _ _ _)
  intro zV zA
  (k_steps; repeat' (first | ((with_reducible refine meth_upper ?_); (all_goals (try k_steps))) | (((with_reducible show wpAny _ _ (call (Value.ref 75) _) _ _ _); k_dflt (refine' SpecP.go (sp_b2a_hex _ _ _ (by assumption)) ?_); intro t' h' tk' F' N'; (try dsimp only); (try k_sweep)); all_goals (try k_steps)) | ((refine' call_upper ?hz ?_; (case hz => rw [hexB_size]; omega)); all_goals (try k_steps))))
  all_goals (refine hret _ _ _ (by with_reducible assumption) ?_; first | with_reducible assumption | (with_reducible rename News g' L' _ _ => zN; exact newsSub zN (fun p hp => by repeat (first | exact hp | apply List.mem_cons_of_mem))))
end
section
open PySem PySem.W
example {M : Model} {A : Around} {v : Value} {Q : Bool → Shared → Prop} {E : Value → Shared → Prop} {s : Shared} (h : wpAny M A (truthy v) Q E s) : wpAny M A (truthy v) Q E s := by first | (walk1; fail) | exact h
end
section
open PySem PySem.W PySem.Spec PySem.Calls PyProof.Rows
set_option maxHeartbeats 4000000
noncomputable def b01 (p : Prop) [Decidable p] : Int := if p then 1 else 0
/-- what the law reckons of the next text -/
noncomputable def nextRow (kind : Int) (bare : Bool) (signs octets amps lesses mores quotes marks returns feeds tabs : Int) : List Int :=
  if kind > 5 then (if kind = 8 then [2 * octets, 2 * octets, 0, 0, 0, 0, 0, 0, 0, 0] else [((octets + 2).fdiv 3) * 4, ((octets + 2).fdiv 3) * 4, 0, 0, 0, 0, 0, 0, 0, 0])
  else if kind = 0 then (if bare = true then [signs + 2, octets + 2, amps, lesses, mores, quotes, marks, returns, feeds, tabs]
    else [signs + (4 + 4 * marks), octets + (4 + 4 * marks), amps, lesses, mores, quotes + 2 * marks, 3 * marks + 2, returns, feeds, tabs])
  else
    let less := lesses * b01 (kind ≠ 5)
    let more := mores * b01 (kind ≠ 4)
    let quote_v := quotes * b01 (2 < kind)
    let cr := returns * b01 (1 < kind ∧ kind < 5)
    let lf := feeds * b01 (2 < kind ∧ kind < 5)
    let tab := tabs * b01 (2 < kind ∧ kind < 5)
    let sharp : Int := if kind < 3 then 2 else 1
    let laid := 4 * (amps + cr + lf + tab) + 3 * (less + more) + 5 * quote_v + (if kind < 3 then 7 else 9)
    [signs + laid, octets + laid, amps + less + more + quote_v + cr + lf + tab, lesses - less + sharp, mores - more + sharp, quotes - quote_v + (if kind < 3 then 0 else 2), marks, returns - cr, feeds - lf, tabs - tab]
section
variable {prog : Program} {w : World} {A : Around} {E : Value → Shared → Prop} {env : Env} {heap : Heap} {gens : Array GenState} {drawn : Drawn} {T : Nat} {os : OsState} {Q : Value → Shared → Prop}
/-- a < k < b, told at once -/
theorem chain_int {pos kp : Pos} {a k b : Int} {ta t : Tok} {kk : Nat} {r : Sem Value}
    (hr : ∀ Q : Value → Shared → Prop, Q (.int k t) ⟨heap, gens, drawn, T, os⟩ → wpAny (model prog w) A r Q E ⟨heap, gens, drawn, T, os⟩)
    (h : ∀ tk, Q (.bool (decide (a < k ∧ k < b))) ⟨heap, gens, drawn, tk, os⟩) :
    wpAny (model prog w) A (compareChain pos (.int a ta) [.Lt, .Lt] [r, eval (.Constant (.int b) kk kp) env]) Q E ⟨heap, gens, drawn, T, os⟩ := by
  refine chain_link (hr _ (lt_int (wpAny_truthy_bool ?_)))
  by_cases e : a < k
  · rw [decide_eq_true e]
    refine chain_last (wpAny_Constant_int (lt_int ?_))
    have : decide (a < k ∧ k < b) = decide (k < b) := by simp [e]
    rw [← this]
    exact h _
  · rw [decide_eq_false e]
    have : decide (a < k ∧ k < b) = false := by simp [e]
    have h' := h T
    rw [this] at h'
    exact h'
/-- x if test else y, of two numbers -/
theorem ifexp_ints {test : Expr} {x y : Int} {p q : Nat} {px py pos : Pos} {s : Shared}
    (h : wpAny (model prog w) A (isTrue test env (eval test env)) (fun c s₂ => Q (.int (if c = true then x else y) s₂.toks) { s₂ with toks := s₂.toks + 1 }) E s) :
    wpAny (model prog w) A (eval (.IfExp test (.Constant (.int x) p px) (.Constant (.int y) q py) pos) env) Q E s := by
  refine IfExp_ (wpAny_mono h (fun c s₂ h₂ => ?_) fun _ _ e => e)
  cases c with
  | true => exact wpAny_Constant_int h₂
  | false => exact wpAny_Constant_int h₂
theorem eq_no {a b : Int} {t u : Tok} {s : Shared} (h : a ≠ b) (hq : Q (.bool false) s) : wpAny (model prog w) A (compareOp .Eq (.int a t) (.int b u)) Q E s := eq_int (by rw [beq_eq_false_iff_ne.mpr h]; exact hq)
/-- times a truth: the product gets a name -/
theorem mul_if {a : Int} {c : Prop} [Decidable c] {t u : Tok} (h : ∀ z t' tk, z = a * (if c then 1 else 0) → Q (.int z t') ⟨heap, gens, drawn, tk, os⟩) :
    wpAny (model prog w) A (binaryOp .Mult (.int a t) (.int (if c then 1 else 0) u)) Q E ⟨heap, gens, drawn, T, os⟩ := mul_int (h _ _ _ rfl)
end
section
variable {M : Model} {A : Around} {E : Value → Shared → Prop} {h₀ : Heap} {L a : Addr} {m : Str → Option Value} {cn : Str} {cs : Scope} {ccd : Value} {cl : List (Str × Addr)} {x : String} {n : Int} {t : Tok} {news : List (Addr × Obj)} {heap : Heap} {gens : Array GenState} {drawn : Drawn} {T : Nat} {os : OsState} {Q : Unit → Shared → Prop}
/-- a sum stored: it gets a name -/
theorem storeN {p : Int} (F : Fr h₀ L heap m) (N : News h₀ L heap news) (hx : List.lookup (Str.ofString x) cs.names = some NameKind.local) (hk : cs.kind = .function)
    (h : ∀ h' tk' z, z = n + p → Fr h₀ L h' (fun y => if y = Str.ofString x then some (.int z t) else m y) → News h₀ L h' news → Q () ⟨h', gens, drawn, tk', os⟩) :
    wpAny M A (storeName (envX cn cs L a ccd cl) (Str.ofString x) (.int (n + p) t)) Q E ⟨heap, gens, drawn, T, os⟩ := storeF hk hx F N fun h' tk' F' N' => h h' tk' _ rfl F' N'
end
local macro_rules | `(tactic| walk_at "compareOp Eq int int") => `(tactic| (k_dflt (refine' eq_no (by with_reducible assumption) ?_)))
local macro_rules | `(tactic| walk_at "compareChain") => `(tactic| refine of_hold ?_)
local macro_rules | `(tactic| walk_at "eval IfExp") => `(tactic| (k_dflt (with_reducible refine ifexp_ints ?_)))
local macro_rules | `(tactic| walk_at "binaryOp Mult int int") => `(tactic| (k_dflt (with_reducible refine mul_if ?_); intro zz' tt' tk' zh'; (try dsimp only)))
local macro_rules | `(tactic| walk_at "storeName") => `(tactic| ((try dsimp only); k_dflt (refine' storeN (by with_reducible assumption) (by with_reducible assumption) (by kernel_rfl!) (by rfl) ?_; k_whole; intro h' tk' zz' zh' F' N'; (try k_sweep))))
/-- what the law reckons of an element or an attribute -/
theorem nextRow_mid {kind : Int} {bare : Bool} {signs octets amps lesses mores quotes marks returns feeds tabs less more quote_v cr lf tab laid : Int} (h5 : ¬ 5 < kind) (h0 : kind ≠ 0)
    (e1 : less = lesses * (if (kind != 5) = true then 1 else 0)) (e2 : more = mores * (if (kind != 4) = true then 1 else 0)) (e3 : quote_v = quotes * (if decide (2 < kind) = true then 1 else 0))
    (e4 : cr = returns * (if decide (1 < kind ∧ kind < 5) = true then 1 else 0)) (e5 : lf = feeds * (if decide (2 < kind ∧ kind < 5) = true then 1 else 0)) (e6 : tab = tabs * (if decide (2 < kind ∧ kind < 5) = true then 1 else 0))
    (e7 : laid = 4 * (amps + cr + lf + tab) + 3 * (less + more) + 5 * quote_v + (if decide (kind < 3) = true then 7 else 9)) :
    nextRow kind bare signs octets amps lesses mores quotes marks returns feeds tabs = [signs + laid, octets + laid, amps + less + more + quote_v + cr + lf + tab, lesses - less + (if decide (kind < 3) = true then 2 else 1), mores - more + (if decide (kind < 3) = true then 2 else 1), quotes - quote_v + (if decide (kind < 3) = true then 0 else 2), marks, returns - cr, feeds - lf, tabs - tab] := by
  subst e1 e2 e3 e4 e5 e6 e7
  unfold nextRow b01
  rw [if_neg h5, if_neg h0]
  simp only [bne_iff_ne, decide_eq_true_eq]
theorem nextRow_long {kind : Int} {bare : Bool} {signs octets amps lesses mores quotes marks returns feeds tabs : Int} (h5 : 5 < kind) (h8 : kind ≠ 8) : nextRow kind bare signs octets amps lesses mores quotes marks returns feeds tabs = [((octets + 2).fdiv 3) * 4, ((octets + 2).fdiv 3) * 4, 0, 0, 0, 0, 0, 0, 0, 0] := by
  unfold nextRow; rw [if_pos h5, if_neg h8]
theorem sp_law_next_any (w : World) (l : Addr) (k : Nat) (tk1 : Tok) (kind : Int) (b : Bool) (signs octets amps lesses mores quotes marks returns feeds tabs : Int) (t0 t1 t2 t3 t4 t5 t6 t7 t8 t9 : Tok) : SpecL w 887 1 8 [.int kind tk1, .bool b, .ref l] (fun news => (l, listObj [.int signs t0, .int octets t1, .int amps t2, .int lesses t3, .int mores t4, .int quotes t5, .int marks t6, .int returns t7, .int feeds t8, .int tabs t9] k) ∈ news) (fun r => IntsAre r (nextRow kind b signs octets amps lesses mores quotes marks returns feeds tabs)) := by
  refine' enterL (binds := [("kind", .int kind tk1), ("bare", .bool b), ("row", .ref l)]) ?k6 ?ks ?k7 ?k9 ?kB ?c2 ?c3 ?c4 ?c5 ?_
  case k6 => k_dflt k_is
  case ks => exact rfl
  case k7 => k_dflt k_is
  case k9 => intro s X; exact BindsTo.of_eq rfl
  case c5 => decide
  case kB => exact locs rfl
  case c2 => exact rfl
  case c3 => exact rfl
  case c4 => exact rfl
  intro dp un gd cn cs a ccd cl outer base g' L L' mg mb mean news gens drawn os h' tk' WQ WE B' F' X' N' T' hd hu hpre hret htk' hPO
  show (let zV := _; let zA := _; wpAny _ zA (execs _ zV) _ _ _)
  intro zV zA
  simp only [List.reverse_cons, List.reverse_nil, List.nil_append, List.cons_append, lookF, lookE] at F'
  by_cases h0 : kind = 0
  · subst h0
    k_steps
    · (refine' retW hret ?e1F ?e1N ?e1L ?e1R; (case e1F => with_reducible assumption); (case e1L => first | with_reducible assumption | exact kst_ltOf (by with_reducible assumption) | exact kst_ltOf (And.right (by with_reducible assumption)) | exact kst_ltOf (And.right (And.right (by with_reducible assumption))) | exact kst_ltOf (And.right (And.right (And.right (by with_reducible assumption)))) | exact kst_ltOf (And.right (And.right (And.right (And.right (by with_reducible assumption))))) | exact kst_ltOf (And.right (And.right (And.right (And.right (And.right (by with_reducible assumption)))))) | exact kst_ltOf (And.right (And.right (And.right (And.right (And.right (And.right (by with_reducible assumption))))))) | exact kst_ltOf (And.right (And.right (And.right (And.right (And.right (And.right (And.right (by with_reducible assumption)))))))) | exact kst_ltOf (And.right (And.right (And.right (And.right (And.right (And.right (And.right (And.right (by with_reducible assumption))))))))) | exact kst_ltOf (And.right (And.right (And.right (And.right (And.right (And.right (And.right (And.right (And.right (by with_reducible assumption)))))))))) | exact kst_ltOf (And.right (And.right (And.right (And.right (And.right (And.right (And.right (And.right (And.right (And.right (by with_reducible assumption))))))))))) | exact kst_ltOf (And.right (And.right (And.right (And.right (And.right (And.right (And.right (And.right (And.right (And.right (And.right (by with_reducible assumption))))))))))))); (case e1N => (with_reducible rename News g' L' _ _ => zN); intro p hp; (rcases List.mem_cons.mp hp with rfl | hp; (exact zN _ List.mem_cons_self); (exact zN _ (by repeat (first | exact hp | apply List.mem_cons_of_mem))))))
      rename b = true => zb
      subst zb
      exact (.cons _ _ (.cons _ _ (.cons _ _ (.cons _ _ (.cons _ _ (.cons _ _ (.cons _ _ (.cons _ _ (.cons _ _ (.cons _ _ .nil))))))))))
    · (refine' retW hret ?e2F ?e2N ?e2L ?e2R; (case e2F => with_reducible assumption); (case e2L => first | with_reducible assumption | exact kst_ltOf (by with_reducible assumption) | exact kst_ltOf (And.right (by with_reducible assumption)) | exact kst_ltOf (And.right (And.right (by with_reducible assumption))) | exact kst_ltOf (And.right (And.right (And.right (by with_reducible assumption)))) | exact kst_ltOf (And.right (And.right (And.right (And.right (by with_reducible assumption))))) | exact kst_ltOf (And.right (And.right (And.right (And.right (And.right (by with_reducible assumption)))))) | exact kst_ltOf (And.right (And.right (And.right (And.right (And.right (And.right (by with_reducible assumption))))))) | exact kst_ltOf (And.right (And.right (And.right (And.right (And.right (And.right (And.right (by with_reducible assumption)))))))) | exact kst_ltOf (And.right (And.right (And.right (And.right (And.right (And.right (And.right (And.right (by with_reducible assumption))))))))) | exact kst_ltOf (And.right (And.right (And.right (And.right (And.right (And.right (And.right (And.right (And.right (by with_reducible assumption)))))))))) | exact kst_ltOf (And.right (And.right (And.right (And.right (And.right (And.right (And.right (And.right (And.right (And.right (by with_reducible assumption))))))))))) | exact kst_ltOf (And.right (And.right (And.right (And.right (And.right (And.right (And.right (And.right (And.right (And.right (And.right (by with_reducible assumption))))))))))))); (case e2N => (with_reducible rename News g' L' _ _ => zN); intro p hp; (rcases List.mem_cons.mp hp with rfl | hp; (exact zN _ List.mem_cons_self); (exact zN _ (by repeat (first | exact hp | apply List.mem_cons_of_mem))))))
      rename b = false => zb
      subst zb
      rename _ = (4 : Int) + 4 * marks => zl
      subst zl
      exact (.cons _ _ (.cons _ _ (.cons _ _ (.cons _ _ (.cons _ _ (.cons _ _ (.cons _ _ (.cons _ _ (.cons _ _ (.cons _ _ .nil))))))))))
  · (k_steps; repeat' (((with_reducible refine hold_in ?_); (k_dflt (refine' chain_int (by (intro Q' hQ'; walk_at "eval Name"; exact hQ')) ?_); intro tk'; (try dsimp only))); (all_goals (try k_steps))))
    · (refine' retW hret ?e3F ?e3N ?e3L ?e3R; (case e3F => with_reducible assumption); (case e3L => first | with_reducible assumption | exact kst_ltOf (by with_reducible assumption) | exact kst_ltOf (And.right (by with_reducible assumption)) | exact kst_ltOf (And.right (And.right (by with_reducible assumption))) | exact kst_ltOf (And.right (And.right (And.right (by with_reducible assumption)))) | exact kst_ltOf (And.right (And.right (And.right (And.right (by with_reducible assumption))))) | exact kst_ltOf (And.right (And.right (And.right (And.right (And.right (by with_reducible assumption)))))) | exact kst_ltOf (And.right (And.right (And.right (And.right (And.right (And.right (by with_reducible assumption))))))) | exact kst_ltOf (And.right (And.right (And.right (And.right (And.right (And.right (And.right (by with_reducible assumption)))))))) | exact kst_ltOf (And.right (And.right (And.right (And.right (And.right (And.right (And.right (And.right (by with_reducible assumption))))))))) | exact kst_ltOf (And.right (And.right (And.right (And.right (And.right (And.right (And.right (And.right (And.right (by with_reducible assumption)))))))))) | exact kst_ltOf (And.right (And.right (And.right (And.right (And.right (And.right (And.right (And.right (And.right (And.right (by with_reducible assumption))))))))))) | exact kst_ltOf (And.right (And.right (And.right (And.right (And.right (And.right (And.right (And.right (And.right (And.right (And.right (by with_reducible assumption))))))))))))); (case e3N => (with_reducible rename News g' L' _ _ => zN); intro p hp; (rcases List.mem_cons.mp hp with rfl | hp; (exact zN _ List.mem_cons_self); (exact zN _ (by repeat (first | exact hp | apply List.mem_cons_of_mem))))))
      rename kind = 8 => zb
      subst zb
      exact (.cons _ _ (.cons _ _ (.cons _ _ (.cons _ _ (.cons _ _ (.cons _ _ (.cons _ _ (.cons _ _ (.cons _ _ (.cons _ _ .nil))))))))))
    · (refine' retW hret ?e4F ?e4N ?e4L ?e4R; (case e4F => with_reducible assumption); (case e4L => first | with_reducible assumption | exact kst_ltOf (by with_reducible assumption) | exact kst_ltOf (And.right (by with_reducible assumption)) | exact kst_ltOf (And.right (And.right (by with_reducible assumption))) | exact kst_ltOf (And.right (And.right (And.right (by with_reducible assumption)))) | exact kst_ltOf (And.right (And.right (And.right (And.right (by with_reducible assumption))))) | exact kst_ltOf (And.right (And.right (And.right (And.right (And.right (by with_reducible assumption)))))) | exact kst_ltOf (And.right (And.right (And.right (And.right (And.right (And.right (by with_reducible assumption))))))) | exact kst_ltOf (And.right (And.right (And.right (And.right (And.right (And.right (And.right (by with_reducible assumption)))))))) | exact kst_ltOf (And.right (And.right (And.right (And.right (And.right (And.right (And.right (And.right (by with_reducible assumption))))))))) | exact kst_ltOf (And.right (And.right (And.right (And.right (And.right (And.right (And.right (And.right (And.right (by with_reducible assumption)))))))))) | exact kst_ltOf (And.right (And.right (And.right (And.right (And.right (And.right (And.right (And.right (And.right (And.right (by with_reducible assumption))))))))))) | exact kst_ltOf (And.right (And.right (And.right (And.right (And.right (And.right (And.right (And.right (And.right (And.right (And.right (by with_reducible assumption))))))))))))); (case e4N => (with_reducible rename News g' L' _ _ => zN); intro p hp; (rcases List.mem_cons.mp hp with rfl | hp; (exact zN _ List.mem_cons_self); (exact zN _ (by repeat (first | exact hp | apply List.mem_cons_of_mem))))))
      rw [nextRow_long (by assumption) (by assumption)]
      exact (.cons _ _ (.cons _ _ (.cons _ _ (.cons _ _ (.cons _ _ (.cons _ _ (.cons _ _ (.cons _ _ (.cons _ _ (.cons _ _ .nil))))))))))
    · (refine' retW hret ?e5F ?e5N ?e5L ?e5R; (case e5F => with_reducible assumption); (case e5L => first | with_reducible assumption | exact kst_ltOf (by with_reducible assumption) | exact kst_ltOf (And.right (by with_reducible assumption)) | exact kst_ltOf (And.right (And.right (by with_reducible assumption))) | exact kst_ltOf (And.right (And.right (And.right (by with_reducible assumption)))) | exact kst_ltOf (And.right (And.right (And.right (And.right (by with_reducible assumption))))) | exact kst_ltOf (And.right (And.right (And.right (And.right (And.right (by with_reducible assumption)))))) | exact kst_ltOf (And.right (And.right (And.right (And.right (And.right (And.right (by with_reducible assumption))))))) | exact kst_ltOf (And.right (And.right (And.right (And.right (And.right (And.right (And.right (by with_reducible assumption)))))))) | exact kst_ltOf (And.right (And.right (And.right (And.right (And.right (And.right (And.right (And.right (by with_reducible assumption))))))))) | exact kst_ltOf (And.right (And.right (And.right (And.right (And.right (And.right (And.right (And.right (And.right (by with_reducible assumption)))))))))) | exact kst_ltOf (And.right (And.right (And.right (And.right (And.right (And.right (And.right (And.right (And.right (And.right (by with_reducible assumption))))))))))) | exact kst_ltOf (And.right (And.right (And.right (And.right (And.right (And.right (And.right (And.right (And.right (And.right (And.right (by with_reducible assumption))))))))))))); (case e5N => (with_reducible rename News g' L' _ _ => zN); intro p hp; (rcases List.mem_cons.mp hp with rfl | hp; (exact zN _ List.mem_cons_self); (exact zN _ (by repeat (first | exact hp | apply List.mem_cons_of_mem))))))
      rw [nextRow_mid (by assumption) h0 (by assumption) (by assumption) (by assumption) (by assumption) (by assumption) (by assumption) (by assumption)]
      exact (.cons _ _ (.cons _ _ (.cons _ _ (.cons _ _ (.cons _ _ (.cons _ _ (.cons _ _ (.cons _ _ (.cons _ _ (.cons _ _ .nil))))))))))
end
section
open PySem PySem.W
example {M : Model} {A : Around} {v : Value} {Q : Bool → Shared → Prop} {E : Value → Shared → Prop} {s : Shared} (h : wpAny M A (truthy v) Q E s) : wpAny M A (truthy v) Q E s := by first | (walk1; fail) | exact h
end
section
open PySem PySem.W PySem.Spec PySem.Calls PyProof.Rows
set_option maxHeartbeats 4000000
local macro_rules | `(tactic| walk_at "call builtin:list.append") => `(tactic| refine of_hold ?_)
noncomputable def b64L : List UInt8 := [65, 66, 67, 68, 69, 70, 71, 72, 73, 74, 75, 76, 77, 78, 79, 80, 81, 82, 83, 84, 85, 86, 87, 88, 89, 90, 97, 98, 99, 100, 101, 102, 103, 104, 105, 106, 107, 108, 109, 110, 111, 112, 113, 114, 115, 116, 117, 118, 119, 120, 121, 122, 48, 49, 50, 51, 52, 53, 54, 55, 56, 57, 43, 47]
noncomputable def b64T (i : Int) : Int := ((b64L.getD i.toNat 0).toNat : Int)
/-- a turn of b2a_base64: signs out, bits left, the window -/
noncomputable def b64step (q : List Int × Int × Int) (c : UInt8) : List Int × Int × Int :=
  let lc := (q.2.2 * 256 + (c.toNat : Int)) % 65536
  if q.2.1 = 0 then (q.1 ++ [b64T (lc / 4 % 64)], 2, lc)
  else if q.2.1 = 2 then (q.1 ++ [b64T (lc / 16 % 64)], 4, lc)
  else (q.1 ++ [b64T (lc / 64 % 64)] ++ [b64T (lc % 64)], 0, lc)
noncomputable def b64st (l : List UInt8) : List Int × Int × Int := l.foldl b64step ([], 0, 0)
noncomputable def b64end (q : List Int × Int × Int) : List Int :=
  if q.2.1 = 2 then q.1 ++ [b64T (q.2.2 % 4 * 16)] ++ [61] ++ [61] else if q.2.1 = 4 then q.1 ++ [b64T (q.2.2 % 16 * 4)] ++ [61] else q.1
theorem and_low (x : Int) : ∀ (k : Nat) (c : Int), 0 ≤ c → c < 2 ^ k → Builtin.bitAnd (x * 2 ^ k) c = 0
  | 0, c, h0, h1 => by
    have : c = 0 := by simp at h1; omega
    subst this
    have := bitAnd_range (x * 2 ^ 0) (by decide : (0:Int) ≤ 0)
    omega
  | k + 1, c, h0, h1 => by
    rw [Int.pow_succ] at h1
    have e : x * 2 ^ (k + 1) = 2 * (x * 2 ^ k) := by rw [Int.pow_succ, Int.mul_comm (2 ^ k) 2, ← Int.mul_assoc, Int.mul_comm x 2, Int.mul_assoc]
    rw [kbt_halves, e, show 2 * (x * 2 ^ k) / 2 = x * 2 ^ k by omega, and_low x k (c / 2) (by omega) (by omega), if_neg (by omega)]
    rfl
theorem bor256 (x : Int) (c : UInt8) : Builtin.bitAnd (Builtin.bitOr (x * 2 ^ Int.toNat 8) (c.toNat : Int)) 65535 = (x * 256 + (c.toNat : Int)) % 65536 := by
  have hc := c.toNat_lt
  rw [bitAnd_m16, bitOr_and, and_low x (Int.toNat 8) (c.toNat : Int) (by omega) (by rw [show (2:Int) ^ Int.toNat 8 = 256 from rfl]; omega), show (2:Int) ^ Int.toNat 8 = 256 from rfl, Int.sub_zero]
theorem in_snoc {ns : List Int} {a : Int} (h : ∀ x ∈ ns, 0 ≤ x ∧ x < 256) (k : 0 ≤ a ∧ a < 256) : ∀ x ∈ ns ++ [a], 0 ≤ x ∧ x < 256 := by
  intro x hx
  rcases List.mem_append.mp hx with hx | hx
  · exact h x hx
  · rw [List.mem_singleton.mp hx]; exact k
theorem b64T_small (i : Int) : 0 ≤ b64T i ∧ b64T i < 256 := by
  unfold b64T
  have := (b64L.getD i.toNat 0).toNat_lt
  omega
theorem b64_small (l : List UInt8) : ∀ x ∈ (b64st l).1, 0 ≤ x ∧ x < 256 := by
  have key : ∀ (l : List UInt8) (q : List Int × Int × Int), (∀ x ∈ q.1, 0 ≤ x ∧ x < 256) → ∀ x ∈ (l.foldl b64step q).1, 0 ≤ x ∧ x < 256 := by
    intro l
    induction l with
    | nil => intro q h; exact h
    | cons a l ih =>
      intro q h
      rw [List.foldl_cons]
      refine ih _ ?_
      unfold b64step
      dsimp only
      split
      · intro x hx; rcases List.mem_append.mp hx with hx | hx
        · exact h x hx
        · rw [List.mem_singleton.mp hx]; exact b64T_small _
      · split
        · intro x hx; rcases List.mem_append.mp hx with hx | hx
          · exact h x hx
          · rw [List.mem_singleton.mp hx]; exact b64T_small _
        · intro x hx; rcases List.mem_append.mp hx with hx | hx
          · rcases List.mem_append.mp hx with hx | hx
            · exact h x hx
            · rw [List.mem_singleton.mp hx]; exact b64T_small _
          · rw [List.mem_singleton.mp hx]; exact b64T_small _
  exact key l ([], 0, 0) (fun x hx => nomatch hx)
section
variable {prog : Program} {w : World} {A : Around} {E : Value → Shared → Prop} {s : Shared} {value slice : Expr}
theorem item_b64 {i : Int} {t ui : Tok} {Q : Value → Shared → Prop} (h0 : 0 ≤ i) (h1 : i < 64) (h : Q (.int (b64T i) s.toks) { s with toks := s.toks + 1 })
    (hs : subscripted slice false (.bytes b64L.toArray t) (.int i ui) = operate [.bytes b64L.toArray t, .int i ui] (getItem (.bytes b64L.toArray t) (.int i ui)))
    (ht : ∀ r, letTemporaryGo value (.bytes b64L.toArray t) r = pure ()) :
    wpAny (model prog w) A (subscriptTail value slice (.bytes b64L.toArray t) (.int i ui)) Q E s := KBy.item_N (x := b64L) (by decide) h0 h1 h hs ht
end
local macro_rules | `(tactic| walk_at "subscriptTail") => `(tactic| refine of_hold ?_)

noncomputable def SpecPk (w : World) (f : Addr) (D U : Nat) (args : List Value) (kw : List (Str × Value)) (pre : List (Addr × Obj) → Prop) (V : Tok → Value) : Prop :=
  ∀ (dp un : Nat) (gd : Option (List Code)) (cn : Str) (cs : Scope) (a : Addr) (ccd : Value) (cl : List (Str × Addr)) (outer : List Env) (A₀ : Around) (base h₀ : Heap) (L : Addr) (m mg mb : Str → Option Value) (mean : ExcName → Option Value) (news : List (Addr × Obj)) (s : Shared)
    (Q E : Value → Shared → Prop),
    Below A₀ base outer h₀ → Fr h₀ L s.heap m → (K w.params).In h₀ → News h₀ L s.heap news → Top q (looseW q loose) mean mg mb h₀ → cs.kind = .function → dp + D < recursionLimit → un + U < cLine → pre news →
    (∀ (t : Tok) h' tk', Fr h₀ L h' m → News h₀ L h' news → Q (V t) { s with heap := h', toks := tk' }) →
    wpAny (model PySem.Challenge.pw_kt0081_01 w) (ktrTop dp un gd cn cs L a ccd cl outer) (call (.ref f) args kw) Q E s
section
variable {w : World} {name qual : Str} {params : Arguments} {body : List Stmt} {scope : Scope} {dV kV pm cdv : Value} {f : Addr} {args : List Value} {kw : List (Str × Value)} {binds : List (Str × Value)} {src : Option (Arguments × List Stmt × Scope)} {D U : Nat}
theorem enterPk {pre : List (Addr × Obj) → Prop} {V : Tok → Value} (ho : (K w.params).lookup f = some (foOf src name qual dV kV pm cdv)) (hsrc : src = some (params, body, scope)) (hcd : codeIn (K w.params) cdv qual = true)
    (hbind : ∀ s' : Shared, (K w.params).In s'.heap → BindsTo s' (fnOf name qual params body scope dV kV .none pm none cdv .none) ⟨args, kw⟩ binds) (hloc : ∀ y ∈ binds, scope.names.lookup y.1 = some .local)
    (hco : scope.isCoroutine = false) (hgen : scope.isGenerator = false) (hkf : scope.kind = .function) (hcell : ∀ x ∈ scope.names, x.2 ≠ .cell)
    (h : ∀ (dp un : Nat) (gd : Option (List Code)) (cn : Str) (cs : Scope) (a : Addr) (ccd : Value) (cl : List (Str × Addr)) (outer : List Env) (base g : Heap) (L L' : Addr) (mg mb : Str → Option Value) (mean : ExcName → Option Value) (news : List (Addr × Obj)) (gens : Array GenState) (drawn : Drawn) (os : OsState) (h' : Heap) (tk : Nat) (WQ : Flow → Shared → Prop) (WE : Value → Shared → Prop),
      Below (ktrTop dp un gd cn cs L a ccd cl outer) base (envX cn cs L a ccd cl :: outer) g → Fr g L' h' (fun y => binds.reverse.lookup y) → (K w.params).In g → News g L' h' news → Top q (looseW q loose) mean mg mb g → dp + D < recursionLimit → un + U < cLine → pre news →
      (∀ (t : Tok) h' tk' {m'}, Fr g L' h' m' → News g L' h' news → WQ (.ret (V t)) ⟨h', gens, drawn, tk', os⟩) → binds.length ≤ tk → PassesOwn (model PySem.Challenge.pw_kt0081_01 w) ((ktrTop dp un gd cn cs L a ccd cl outer).deeper (envOf qual scope L' f cdv)) (envOf qual scope L' f cdv) WE →
      wpAny (model PySem.Challenge.pw_kt0081_01 w) ((ktrTop dp un gd cn cs L a ccd cl outer).deeper (envOf qual scope L' f cdv)) (execs body (envOf qual scope L' f cdv)) WQ WE ⟨h', gens, drawn, tk, os⟩) : SpecPk w f D U args kw pre V := by
  intro dp un gd cn cs a ccd cl outer A₀ base h₀ L m mg mb mean news s Q E B F X N T hk hd hu hp ret
  exact enterQ ho hsrc hcd hbind hloc hco hgen hkf hcell B F X N T hk (Nat.lt_of_le_of_lt (Nat.le_add_right _ _) hd) fun g h' L' tk WQ WE B' F' X' N' T' hr ht hPO => h _ _ _ _ _ _ _ _ _ _ _ _ _ _ _ _ _ _ _ _ _ _ _ _ B' F' X' N' T' hd hu hp (fun t h' tk' m' F N => hr (fun F N => ret t _ _ F N) F N) ht hPO
end
/-- what holds at each turn of b2a_base64's loop -/
inductive B64J (b : Array UInt8) (news : List (Addr × Obj)) : Nat → (Str → Option Value) → List (Addr × Obj) → Prop
  | mk {i : Nat} {m : Str → Option Value} {lk : Addr} {k : Nat} {vs : List Value} {out : List Int} {lb lc : Int} {t1 t2 : Tok} (h1 : m (Str.ofString "out") = some (.ref lk)) (h2 : m (Str.ofString "newline") = some (.bool false)) (h3 : m (Str.ofString "leftbits") = some (.int lb t1)) (h4 : m (Str.ofString "leftchar") = some (.int lc t2))
      (hl : AllLt lk news) (hv : vs.length ≤ 2 * i) (hlb : lb = 0 ∨ lb = 2 ∨ lb = 4) (hc0 : 0 ≤ lc) (hc1 : lc < 65536) (hst : b64st (b.toList.take i) = (out, lb, lc)) (hI : IntsAre vs out) : B64J b news i m ((lk, listObj vs k) :: news)
theorem m65 (z : Int) : 0 ≤ z % 65536 ∧ z % 65536 < 65536 := ⟨Int.emod_nonneg _ (by decide), Int.emod_lt_of_pos _ (by decide)⟩
theorem len1 {vs : List Value} {v : Value} {i : Nat} (h : vs.length ≤ 2 * i) : (vs ++ [v]).length ≤ 2 * (i + 1) := by rw [List.length_append]; exact Nat.le_trans (Nat.add_le_add_right h 1) (by rw [Nat.mul_add]; exact Nat.add_le_add_left (by decide) _)
theorem len2 {vs : List Value} {v v' : Value} {i : Nat} (h : vs.length ≤ 2 * i) : (vs ++ [v] ++ [v']).length ≤ 2 * (i + 1) := by rw [List.length_append, List.length_append]; exact Nat.le_trans (Nat.add_le_add_right (Nat.add_le_add_right h 1) 1) (by rw [Nat.mul_add]; exact Nat.le_refl _)
theorem sp_b2a_base64 (w : World) (b : Array UInt8) (tx : Tok) (hx : b.size ≤ 400000) : SpecPk w 66 3 20 [.bytes b tx] [("newline", .bool false)] (fun _ => True) (fun t => .bytes (byteArr (b64end (b64st b.toList))) t) := by
  refine' enterPk (binds := [("data", .bytes b tx), ("newline", .bool false)]) ?k6 ?ks ?k7 ?k9 ?kB ?c2 ?c3 ?c4 ?c5 ?_
  case k6 => k_dflt k_is
  case ks => exact rfl
  case k7 => k_dflt k_is
  case k9 => intro s X; exact BindsTo.of_eq rfl
  case c5 => decide
  case kB => exact locs rfl
  case c2 => exact rfl
  case c3 => exact rfl
  case c4 => exact rfl
  intro dp un gd cn cs a ccd cl outer base g' L L' mg mb mean news gens drawn os h' tk' WQ WE B' F' X' N' T' hd hu hpre hret htk' hPO
  show (let zV := _; let zA := _; wpAny _ zA (execs _ zV) _ _ _)
  intro zV zA
  simp only [List.reverse_cons, List.reverse_nil, List.nil_append, List.cons_append, lookF, lookE] at F'
  (k_steps; repeat' (first | (((with_reducible show wpAny _ _ (call (Value.ref 51) _) _ _ _); k_dflt (refine' SpecP.use (sp_buffer _ _ _) ?sB ?sF ?sX ?sN ?sT ?sk ?sd ?su ?sp ?_;  (case sB => k_asm); (case sF => k_asm); (case sX => k_asm); (case sN => k_asm); (case sT => k_asm); (case sk => exact rfl); (case sd => exact room_in1 (by assumption) (by decide)); (case su => exact room_u (by assumption) (by decide)); (case sp => trivial)); intro t' h' tk' F' N'; (try dsimp only); (try k_sweep)); all_goals (try k_steps)) | (((with_reducible show wpAny _ _ (call (Value.ref 58) _) _ _ _); k_dflt (refine' SpecP.use (sp_truth _ _) ?sB ?sF ?sX ?sN ?sT ?sk ?sd ?su ?sp ?_;  (case sB => k_asm); (case sF => k_asm); (case sX => k_asm); (case sN => k_asm); (case sT => k_asm); (case sk => exact rfl); (case sd => exact room_in1 (by assumption) (by decide)); (case su => exact room_u (by assumption) (by decide)); (case sp => trivial)); intro t' h' tk' F' N'; (try dsimp only); (try k_sweep)); all_goals (try k_steps))))
  (with_reducible rename Fr _ _ _ _ => zF); (with_reducible rename News _ _ _ _ => zN)
  refine' for_srcH (src_bytes rfl b tx) zF zN ?hn (B64J b news) ?hj ?turn ?done
  case hn => exact fun p hp => nomatch hp
  case hj => exact .mk (by ((repeat ((with_reducible refine lkN ?_ ?_); (focus (simp only [String.reduceNe]; done)))); (first | with_reducible exact lkY | with_reducible assumption | (simp only [↓lookA, ↓reduceIte, ofString_eq, String.reduceEq]; first | rfl | with_reducible assumption) | rfl))) (by ((repeat ((with_reducible refine lkN ?_ ?_); (focus (simp only [String.reduceNe]; done)))); (first | with_reducible exact lkY | with_reducible assumption | (simp only [↓lookA, ↓reduceIte, ofString_eq, String.reduceEq]; first | rfl | with_reducible assumption) | rfl))) (by ((repeat ((with_reducible refine lkN ?_ ?_); (focus (simp only [String.reduceNe]; done)))); (first | with_reducible exact lkY | with_reducible assumption | (simp only [↓lookA, ↓reduceIte, ofString_eq, String.reduceEq]; first | rfl | with_reducible assumption) | rfl))) (by ((repeat ((with_reducible refine lkN ?_ ?_); (focus (simp only [String.reduceNe]; done)))); (first | with_reducible exact lkY | with_reducible assumption | (simp only [↓lookA, ↓reduceIte, ofString_eq, String.reduceEq]; first | rfl | with_reducible assumption) | rfl))) (allLt_of (by with_reducible assumption)) (Nat.le_refl _) (.inl rfl) (by decide) (by decide) rfl .nil
  case turn =>
    intro i v m₁ nw h tk I oI WQ hWQ hlt hP hJ F' N' off hnd
    obtain ⟨hm1, hm2, hm3, hm4, l2, hvl, hlb, hlc0, hlc1, hst, hI⟩ := hJ
    rename_i lk k' vs' out lb lc t1 t2
    obtain ⟨c, u', hc, rfl⟩ := hP
    have oI1 : @Ne Nat lk I := off _ List.mem_cons_self
    have hst' : b64st (b.toList.take (i + 1)) = b64step (out, lb, lc) c := by
      rw [List.take_add_one, show b.toList[i]? = some c from by simpa using hc]; unfold b64st; rw [List.foldl_append]; show b64step (b64st _) c = _; rw [hst]
    have hlt2 : i < 400000 := Nat.lt_of_lt_of_le hlt hx
    have hz1 : vs'.length ≤ 16777216 := Nat.le_trans hvl (Nat.le_trans (Nat.mul_le_mul_left 2 (Nat.le_of_lt hlt2)) (by decide))
    have hz2 : ∀ v : Value, (vs' ++ [v]).length ≤ 16777216 := fun v => Nat.le_trans (len1 hvl) (Nat.le_trans (Nat.mul_le_mul_left 2 hlt2) (by decide))
    rcases hlb with rfl | rfl | rfl
    · (k_steps; repeat' (first | (((with_reducible refine hold_in ?_); (k_dflt (first   | (refine' app2 (by with_reducible assumption) (by with_reducible assumption) (by first | with_reducible assumption | exact Ne.symm (by with_reducible assumption) | k_ne) (by with_reducible assumption) (by (try simp only [List.length_append, List.length_singleton]); omega) ?_)   | (refine' app1 (by with_reducible assumption) (by with_reducible assumption) (by with_reducible assumption) (by (try simp only [List.length_append, List.length_singleton]); omega) ?_)); intro h' F' N'; (try dsimp only))); (all_goals (try k_steps))) | (((with_reducible refine hold_in ?_); ((with_reducible show wpAny _ _ (subscriptTail _ _ (Value.bytes _ _) (Value.int _ _)) _ _ _); k_dflt (refine' item_b64 (by first | exact (bitAnd_range _ (by decide)).1 | (simp only [show (2:Int) ^ Int.toNat 4 = 16 from rfl, show (2:Int) ^ Int.toNat 2 = 4 from rfl]; omega)) (by first | exact Int.lt_of_le_of_lt (bitAnd_range _ (by decide)).2 (by decide) | (simp only [show (2:Int) ^ Int.toNat 4 = 16 from rfl, show (2:Int) ^ Int.toNat 2 = 4 from rfl]; omega)) ?_ (by with_unfolding_all rfl) (by intro _; with_unfolding_all rfl)); (try dsimp only))); (all_goals (try k_steps)))))
      (try dsimp only)
      (with_reducible rename Fr g' L' _ _ => zF); (with_reducible rename News g' L' _ _ => zN)
      exact hWQ _ _ _ _ zF zN (off_head off) need_nil (.mk (lb := 2) (lc := (lc * 256 + (c.toNat : Int)) % 65536) (by ((repeat ((with_reducible refine lkN ?_ ?_); (focus (simp only [String.reduceNe]; done)))); (first | with_reducible exact lkY | with_reducible assumption | (simp only [↓lookA, ↓reduceIte, ofString_eq, String.reduceEq]; first | rfl | with_reducible assumption) | rfl))) (by ((repeat ((with_reducible refine lkN ?_ ?_); (focus (simp only [String.reduceNe]; done)))); (first | with_reducible exact lkY | with_reducible assumption | (simp only [↓lookA, ↓reduceIte, ofString_eq, String.reduceEq]; first | rfl | with_reducible assumption) | rfl))) (by ((repeat ((with_reducible refine lkN ?_ ?_); (focus (simp only [String.reduceNe]; done)))); (first | with_reducible exact lkY | with_reducible assumption | (simp only [↓lookA, ↓reduceIte, ofString_eq, String.reduceEq]; first | rfl | with_reducible assumption) | rfl))) (by (simp only [upd, noFr, ↓lookA, ↓reduceIte, ofString_eq, String.reduceEq, bor256]; rfl)) l2 (len1 hvl) (by decide) (m65 _).1 (m65 _).2 hst' (by exact snocE hI (by rw [bor256, bitAnd_m6, Int.fdiv_eq_ediv_of_nonneg _ (by decide)]; rfl)))
    · (k_steps; repeat' (first | (((with_reducible refine hold_in ?_); (k_dflt (first   | (refine' app2 (by with_reducible assumption) (by with_reducible assumption) (by first | with_reducible assumption | exact Ne.symm (by with_reducible assumption) | k_ne) (by with_reducible assumption) (by (try simp only [List.length_append, List.length_singleton]); omega) ?_)   | (refine' app1 (by with_reducible assumption) (by with_reducible assumption) (by with_reducible assumption) (by (try simp only [List.length_append, List.length_singleton]); omega) ?_)); intro h' F' N'; (try dsimp only))); (all_goals (try k_steps))) | (((with_reducible refine hold_in ?_); ((with_reducible show wpAny _ _ (subscriptTail _ _ (Value.bytes _ _) (Value.int _ _)) _ _ _); k_dflt (refine' item_b64 (by first | exact (bitAnd_range _ (by decide)).1 | (simp only [show (2:Int) ^ Int.toNat 4 = 16 from rfl, show (2:Int) ^ Int.toNat 2 = 4 from rfl]; omega)) (by first | exact Int.lt_of_le_of_lt (bitAnd_range _ (by decide)).2 (by decide) | (simp only [show (2:Int) ^ Int.toNat 4 = 16 from rfl, show (2:Int) ^ Int.toNat 2 = 4 from rfl]; omega)) ?_ (by with_unfolding_all rfl) (by intro _; with_unfolding_all rfl)); (try dsimp only))); (all_goals (try k_steps)))))
      (try dsimp only)
      (with_reducible rename Fr g' L' _ _ => zF); (with_reducible rename News g' L' _ _ => zN)
      exact hWQ _ _ _ _ zF zN (off_head off) need_nil (.mk (lb := 4) (lc := (lc * 256 + (c.toNat : Int)) % 65536) (by ((repeat ((with_reducible refine lkN ?_ ?_); (focus (simp only [String.reduceNe]; done)))); (first | with_reducible exact lkY | with_reducible assumption | (simp only [↓lookA, ↓reduceIte, ofString_eq, String.reduceEq]; first | rfl | with_reducible assumption) | rfl))) (by ((repeat ((with_reducible refine lkN ?_ ?_); (focus (simp only [String.reduceNe]; done)))); (first | with_reducible exact lkY | with_reducible assumption | (simp only [↓lookA, ↓reduceIte, ofString_eq, String.reduceEq]; first | rfl | with_reducible assumption) | rfl))) (by ((repeat ((with_reducible refine lkN ?_ ?_); (focus (simp only [String.reduceNe]; done)))); (first | with_reducible exact lkY | with_reducible assumption | (simp only [↓lookA, ↓reduceIte, ofString_eq, String.reduceEq]; first | rfl | with_reducible assumption) | rfl))) (by (simp only [upd, noFr, ↓lookA, ↓reduceIte, ofString_eq, String.reduceEq, bor256]; rfl)) l2 (len1 hvl) (by decide) (m65 _).1 (m65 _).2 hst' (by exact snocE hI (by rw [bor256, bitAnd_m6, Int.fdiv_eq_ediv_of_nonneg _ (by decide)]; rfl)))
    · (k_steps; repeat' (first | (((with_reducible refine hold_in ?_); (k_dflt (first   | (refine' app2 (by with_reducible assumption) (by with_reducible assumption) (by first | with_reducible assumption | exact Ne.symm (by with_reducible assumption) | k_ne) (by with_reducible assumption) (by (try simp only [List.length_append, List.length_singleton]); omega) ?_)   | (refine' app1 (by with_reducible assumption) (by with_reducible assumption) (by with_reducible assumption) (by (try simp only [List.length_append, List.length_singleton]); omega) ?_)); intro h' F' N'; (try dsimp only))); (all_goals (try k_steps))) | (((with_reducible refine hold_in ?_); ((with_reducible show wpAny _ _ (subscriptTail _ _ (Value.bytes _ _) (Value.int _ _)) _ _ _); k_dflt (refine' item_b64 (by first | exact (bitAnd_range _ (by decide)).1 | (simp only [show (2:Int) ^ Int.toNat 4 = 16 from rfl, show (2:Int) ^ Int.toNat 2 = 4 from rfl]; omega)) (by first | exact Int.lt_of_le_of_lt (bitAnd_range _ (by decide)).2 (by decide) | (simp only [show (2:Int) ^ Int.toNat 4 = 16 from rfl, show (2:Int) ^ Int.toNat 2 = 4 from rfl]; omega)) ?_ (by with_unfolding_all rfl) (by intro _; with_unfolding_all rfl)); (try dsimp only))); (all_goals (try k_steps)))))
      (try dsimp only)
      (with_reducible rename Fr g' L' _ _ => zF); (with_reducible rename News g' L' _ _ => zN)
      exact hWQ _ _ _ _ zF zN (off_head off) need_nil (.mk (lb := 0) (lc := (lc * 256 + (c.toNat : Int)) % 65536) (by ((repeat ((with_reducible refine lkN ?_ ?_); (focus (simp only [String.reduceNe]; done)))); (first | with_reducible exact lkY | with_reducible assumption | (simp only [↓lookA, ↓reduceIte, ofString_eq, String.reduceEq]; first | rfl | with_reducible assumption) | rfl))) (by ((repeat ((with_reducible refine lkN ?_ ?_); (focus (simp only [String.reduceNe]; done)))); (first | with_reducible exact lkY | with_reducible assumption | (simp only [↓lookA, ↓reduceIte, ofString_eq, String.reduceEq]; first | rfl | with_reducible assumption) | rfl))) (by ((repeat ((with_reducible refine lkN ?_ ?_); (focus (simp only [String.reduceNe]; done)))); (first | with_reducible exact lkY | with_reducible assumption | (simp only [↓lookA, ↓reduceIte, ofString_eq, String.reduceEq]; first | rfl | with_reducible assumption) | rfl))) (by (simp only [upd, noFr, ↓lookA, ↓reduceIte, ofString_eq, String.reduceEq, bor256]; rfl)) l2 (len2 hvl) (by decide) (m65 _).1 (m65 _).2 hst' (by exact snocE (snocE hI (by rw [bor256, bitAnd_m6, Int.fdiv_eq_ediv_of_nonneg _ (by decide)]; rfl)) (by rw [bor256, bitAnd_m6, Int.fdiv_eq_ediv_of_nonneg _ (by decide)]; exact congrArg b64T (congrArg (· % 64) (Int.ediv_one _)))))
  case done =>
    intro m₁ nw h tk hJ F' N'
    obtain ⟨hm1, hm2, hm3, hm4, l2, hvl, hlb, hlc0, hlc1, hst, hI⟩ := hJ
    rename_i lk k' vs' out lb lc t1 t2
    have hbx : vs'.length ≤ 800000 := by omega
    have hb3 := bitAnd_range lc (by decide : (0:Int) ≤ 3)
    have hb15 := bitAnd_range lc (by decide : (0:Int) ≤ 15)
    rw [List.take_of_length_le (by simp)] at hst
    have hout := b64_small b.toList
    have hol := hI.length
    rw [hst] at hout
    replace hout : ∀ x ∈ out, 0 ≤ x ∧ x < 256 := hout
    have e3 : lc % 4 * 16 = Builtin.bitAnd lc 3 * 2 ^ Int.toNat 4 := by rw [bitAnd_m2]; rfl
    have e15 : lc % 16 * 4 = Builtin.bitAnd lc 15 * 2 ^ Int.toNat 2 := by rw [bitAnd_m4]; rfl
    simp only [hst, b64end, e3, e15] at hret
    rcases hlb with rfl | rfl | rfl
    all_goals simp only [↓reduceIte, Int.reduceEq] at hret
    all_goals (k_steps; repeat' (first | (((with_reducible refine hold_in ?_); (k_dflt (first   | (refine' app2 (by with_reducible assumption) (by with_reducible assumption) (by first | with_reducible assumption | exact Ne.symm (by with_reducible assumption) | k_ne) (by with_reducible assumption) (by (try simp only [List.length_append, List.length_singleton]); omega) ?_)   | (refine' app1 (by with_reducible assumption) (by with_reducible assumption) (by with_reducible assumption) (by (try simp only [List.length_append, List.length_singleton]); omega) ?_)); intro h' F' N'; (try dsimp only))); (all_goals (try k_steps))) | (((with_reducible refine hold_in ?_); ((with_reducible show wpAny _ _ (subscriptTail _ _ (Value.bytes _ _) (Value.int _ _)) _ _ _); k_dflt (refine' item_b64 (by first | exact (bitAnd_range _ (by decide)).1 | (simp only [show (2:Int) ^ Int.toNat 4 = 16 from rfl, show (2:Int) ^ Int.toNat 2 = 4 from rfl]; omega)) (by first | exact Int.lt_of_le_of_lt (bitAnd_range _ (by decide)).2 (by decide) | (simp only [show (2:Int) ^ Int.toNat 4 = 16 from rfl, show (2:Int) ^ Int.toNat 2 = 4 from rfl]; omega)) ?_ (by with_unfolding_all rfl) (by intro _; with_unfolding_all rfl)); (try dsimp only))); (all_goals (try k_steps)))))
    case inr.inl =>
      refine' KBa.make_K (ns := out ++ [b64T (Builtin.bitAnd lc 3 * 2 ^ Int.toNat 4)] ++ [61] ++ [61]) ?zF ?zN ?zh ?zl ?zi ?zr ?zn ?_
      case zF => with_reducible assumption
      case zN => with_reducible assumption
      case zh => rfl
      case zl => exact News.isList (by with_reducible assumption) (by k_mem)
      case zi => repeat (first | with_reducible assumption | refine snocE ?_ rfl)
      case zr => repeat (first | with_reducible assumption | refine in_snoc ?_ (by first | exact b64T_small _ | decide))
      case zn => simp only [List.length_append, List.length_singleton]; omega
      intro h' t' k' F' N' zI
      (try dsimp only)
      k_steps
      refine hret _ _ _ (by with_reducible assumption) ?_
      (with_reducible rename News g' L' _ _ => zN)
      exact newsSub zN (fun p hp => by repeat (first | exact hp | apply List.mem_cons_of_mem))
    case inr.inr =>
      refine' KBa.make_K (ns := out ++ [b64T (Builtin.bitAnd lc 15 * 2 ^ Int.toNat 2)] ++ [61]) ?zF ?zN ?zh ?zl ?zi ?zr ?zn ?_
      case zF => with_reducible assumption
      case zN => with_reducible assumption
      case zh => rfl
      case zl => exact News.isList (by with_reducible assumption) (by k_mem)
      case zi => repeat (first | with_reducible assumption | refine snocE ?_ rfl)
      case zr => repeat (first | with_reducible assumption | refine in_snoc ?_ (by first | exact b64T_small _ | decide))
      case zn => simp only [List.length_append, List.length_singleton]; omega
      intro h' t' k' F' N' zI
      (try dsimp only)
      k_steps
      refine hret _ _ _ (by with_reducible assumption) ?_
      (with_reducible rename News g' L' _ _ => zN)
      exact newsSub zN (fun p hp => by repeat (first | exact hp | apply List.mem_cons_of_mem))
    all_goals (refine hret _ _ _ (by with_reducible assumption) ?_; first | with_reducible assumption | (with_reducible rename News g' L' _ _ => zN; exact newsSub zN (fun p hp => by repeat (first | exact hp | apply List.mem_cons_of_mem))))
end
section
open PySem PySem.W
example {M : Model} {A : Around} {v : Value} {Q : Bool → Shared → Prop} {E : Value → Shared → Prop} {s : Shared} (h : wpAny M A (truthy v) Q E s) : wpAny M A (truthy v) Q E s := by first | (walk1; fail) | exact h
end
section
open PySem PySem.W PySem.Spec PySem.Calls PyProof.Rows
set_option maxHeartbeats 4000000
section
variable {w : World} {f : Addr} {D U : Nat} {args : List Value} {kw : List (Str × Value)} {pre : List (Addr × Obj) → Prop} {V : Tok → Value}
  {dp un : Nat} {gd : Option (List Code)} {cn : Str} {cs : Scope} {a : Addr} {ccd : Value} {cl : List (Str × Addr)} {outer : List Env} {A₀ : Around} {base h₀ : Heap} {L : Addr} {m mg mb : Str → Option Value} {mean : ExcName → Option Value} {news : List (Addr × Obj)} {s : Shared} {Q E : Value → Shared → Prop}
theorem SpecPk.use (h : SpecPk w f D U args kw pre V) (B : Below A₀ base outer h₀) (F : Fr h₀ L s.heap m) (X : (K w.params).In h₀) (N : News h₀ L s.heap news) (T : Top q (looseW q loose) mean mg mb h₀) (hk : cs.kind = .function) (hd : dp + D < recursionLimit) (hu : un + U < cLine) (hp : pre news)
    (ret : ∀ (t : Tok) h' tk', Fr h₀ L h' m → News h₀ L h' news → Q (V t) { s with heap := h', toks := tk' }) :
    wpAny (model PySem.Challenge.pw_kt0081_01 w) (ktrTop dp un gd cn cs L a ccd cl outer) (call (.ref f) args kw) Q E s := h _ _ _ _ _ _ _ _ _ _ _ _ _ _ _ _ _ _ _ _ _ B F X N T hk hd hu hp ret
theorem SpecPk.go {heap : Heap} {gens : Array GenState} {drawn : Drawn} {T₀ : Nat} {os : OsState} (h : SpecPk w f D U args kw pre V)
    (ret : ∀ (t : Tok) h' tk', Fr h₀ L h' m → News h₀ L h' news → Q (V t) ⟨h', gens, drawn, tk', os⟩) (B : Below A₀ base outer h₀ := by k_asm) (F : Fr h₀ L heap m := by k_asm) (X : (K w.params).In h₀ := by k_asm) (N : News h₀ L heap news := by k_asm) (T : Top q (looseW q loose) mean mg mb h₀ := by k_asm) (hk : cs.kind = .function := by exact rfl) (hd : dp + D < recursionLimit := by first | exact room_any (by assumption) rfl | exact room_same (by assumption) rfl | decide +kernel) (hu : un + U < cLine := by first | exact room_any (by assumption) rfl | exact room_same (by assumption) rfl | decide +kernel) (hp : pre news := by first | trivial | k_mem | (refine ⟨?_, ?_⟩ <;> k_mem) | exact List.mem_cons_of_mem _ (List.mem_cons_of_mem _ (by with_reducible assumption))) :
    wpAny (model PySem.Challenge.pw_kt0081_01 w) (ktrTop dp un gd cn cs L a ccd cl outer) (call (.ref f) args kw) Q E ⟨heap, gens, drawn, T₀, os⟩ := SpecPk.use (s := ⟨heap, gens, drawn, T₀, os⟩) h B F X N T hk hd hu hp ret
end
noncomputable def b64B (b : Array UInt8) : Array UInt8 := byteArr (b64end (b64st b.toList))
theorem b64B_size (b : Array UInt8) : (b64B b).size ≤ 2 * b.size + 3 := by
  have key : ∀ (l : List UInt8) (q : List Int × Int × Int), (l.foldl b64step q).1.length ≤ q.1.length + 2 * l.length := by
    intro l
    induction l with
    | nil => intro q; simp
    | cons a l ih =>
      intro q
      rw [List.foldl_cons]
      refine Nat.le_trans (ih _) ?_
      have : (b64step q a).1.length ≤ q.1.length + 2 := by
        unfold b64step; dsimp only
        split
        · simp
        · split <;> simp
      rw [List.length_cons]; omega
  unfold b64B
  rw [byteArr_size]
  have h := key b.toList ([], 0, 0)
  have h2 : (b64end (b64st b.toList)).length ≤ (b64st b.toList).1.length + 3 := by
    unfold b64end
    split
    · simp
    · split <;> simp
  unfold b64st at h2 ⊢
  have h3 : b.toList.length = b.size := by simp
  simp only [List.length_nil] at h
  omega
theorem sp_b64encode (w : World) (b : Array UInt8) (tx : Tok) (hx : b.size ≤ 400000) : SpecV w 83 5 30 [.bytes b tx] (fun t => .bytes (b64B b) t) := by
  refine' enterP (binds := [("s", .bytes b tx), ("altchars", .none)]) ?k6 ?ks ?k7 ?k9 ?kB ?c2 ?c3 ?c4 ?c5 ?_
  case k6 => k_dflt k_is
  case ks => exact rfl
  case k7 => k_dflt k_is
  case k9 => intro s X; exact binds_K (by k_in) rfl (by k_dflt k_is) rfl rfl rfl
  case c5 => decide
  case kB => exact locs rfl
  case c2 => exact rfl
  case c3 => exact rfl
  case c4 => exact rfl
  intro dp un gd cn cs a ccd cl outer base g' L L' mg mb mean news gens drawn os h' tk' WQ WE B' F' X' N' T' hd hu hpre hret htk' hPO
  simp only [List.reverse_cons, List.reverse_nil, List.nil_append, List.cons_append, lookF, lookE] at F'
  show (let zV := _; let zA := _; wpAny _ zA (execs _ zV) _ _ _)
  intro zV zA
  (k_steps; repeat' (((with_reducible show wpAny _ _ (call (Value.ref 66) _ _) _ _ _); k_dflt (refine' SpecPk.go (sp_b2a_base64 _ _ _ (by assumption)) ?_); intro t' h' tk' F' N'; (try dsimp only); (try k_sweep)); all_goals (try k_steps)))
  all_goals (refine hret _ _ _ (by with_reducible assumption) ?_; first | with_reducible assumption | (with_reducible rename News g' L' _ _ => zN; exact newsSub zN (fun p hp => by repeat (first | exact hp | apply List.mem_cons_of_mem))))
theorem sp_b64encode2 (w : World) (b al : Array UInt8) (tx ta : Tok) (hx : b.size ≤ 400000) (ha : al.size = 2) : SpecV w 83 5 30 [.bytes b tx, .bytes al ta] (fun t => .bytes (trans (mkt #[43, 47] al) (b64B b)) t) := by
  refine' enterP (binds := [("s", .bytes b tx), ("altchars", .bytes al ta)]) ?k6 ?ks ?k7 ?k9 ?kB ?c2 ?c3 ?c4 ?c5 ?_
  case k6 => k_dflt k_is
  case ks => exact rfl
  case k7 => k_dflt k_is
  case k9 => intro s X; exact binds_K (by k_in) rfl (by k_dflt k_is) rfl rfl rfl
  case c5 => decide
  case kB => exact locs rfl
  case c2 => exact rfl
  case c3 => exact rfl
  case c4 => exact rfl
  intro dp un gd cn cs a ccd cl outer base g' L L' mg mb mean news gens drawn os h' tk' WQ WE B' F' X' N' T' hd hu hpre hret htk' hPO
  simp only [List.reverse_cons, List.reverse_nil, List.nil_append, List.cons_append, lookF, lookE] at F'
  show (let zV := _; let zA := _; wpAny _ zA (execs _ zV) _ _ _)
  intro zV zA
  (k_steps; repeat' (first | ((with_reducible refine meth_translate ?_); (all_goals (try k_steps))) | (((refine' call_maketrans (by first | assumption | exact Eq.symm (by assumption) | rfl) ?_)); (all_goals (try k_steps))) | (((with_reducible show wpAny _ _ (call (Value.ref 66) _ _) _ _ _); k_dflt (refine' SpecPk.go (sp_b2a_base64 _ _ _ (by assumption)) ?_); intro t' h' tk' F' N'; (try dsimp only); (try k_sweep)); all_goals (try k_steps)) | ((k_dflt (refine' method_type ?zF ?zX ?zt ?zs ?ze ?zh ?_; (case zF => with_reducible assumption); (case zX => k_asm); (case zt => first | rfl | kernel_rfl); (case zs => decide +kernel); (case ze => k_is); (case zh => k_handed))); all_goals (try k_steps)) | ((refine' call_translate ?h2 ?hz ?_; (case h2 => exact mkt_size _ _); (case hz => refine Nat.le_trans (b64B_size _) ?_; omega); intro tt' tk'); all_goals (try k_steps))))
  all_goals first | (exfalso; simp_all; done) | skip
  all_goals (refine hret _ _ _ (by with_reducible assumption) ?_; first | with_reducible assumption | (with_reducible rename News g' L' _ _ => zN; exact newsSub zN (fun p hp => by repeat (first | exact hp | apply List.mem_cons_of_mem))))
end
section
open PySem PySem.W
example {M : Model} {A : Around} {v : Value} {Q : Bool → Shared → Prop} {E : Value → Shared → Prop} {s : Shared} (h : wpAny M A (truthy v) Q E s) : wpAny M A (truthy v) Q E s := by first | (walk1; fail) | exact h
end
section
open PySem PySem.W PySem.Spec PySem.Calls PyProof.Rows
set_option maxHeartbeats 4000000
local macro_rules | `(tactic| k_all) => `(tactic| (refine' all_ne (by with_reducible assumption) (by lia)))
noncomputable def num (l : List UInt8) : Int := l.foldl (fun a c => 256 * a + (c.toNat : Int)) 0
theorem num_snoc (l : List UInt8) (c : UInt8) : num (l ++ [c]) = 256 * num l + (c.toNat : Int) := by unfold num; rw [List.foldl_append]; rfl
theorem num_take {b : Array UInt8} {i : Nat} {c : UInt8} (h : b[i]? = some c) : num (b.toList.take (i + 1)) = 256 * num (b.toList.take i) + (c.toNat : Int) := by
  rw [List.take_add_one, show b.toList[i]? = some c from by simpa using h]; exact num_snoc _ _
theorem num_lt : ∀ (l : List UInt8), 0 ≤ num l ∧ num l < 2 ^ (8 * l.length) := by
  intro l
  induction h : l.length generalizing l with
  | zero => rw [List.length_eq_zero_iff.mp h]; exact ⟨Int.le_refl _, by decide⟩
  | succ n ih =>
    rcases List.eq_nil_or_concat l with rfl | ⟨r, c, rfl⟩
    · cases h
    · rw [List.concat_eq_append] at h ⊢
      have hr : r.length = n := by simpa using h
      have := ih r hr
      rw [num_snoc]
      have hc := c.toNat_lt
      rw [Nat.mul_add 8 n 1, Int.pow_add]
      refine ⟨Int.add_nonneg (Int.mul_nonneg (by decide) this.1) (Int.natCast_nonneg _), Int.lt_of_lt_of_le (Int.add_lt_add_left (Int.ofNat_lt.mpr hc) _) ?_⟩
      show 256 * num r + 256 * 1 ≤ 2 ^ (8 * n) * 256
      rw [← Int.mul_add, Int.mul_comm]
      exact Int.mul_le_mul_of_nonneg_right this.2 (by decide)
theorem off_2nd {I : Addr} {p1 : Addr × Obj} {c : Addr} {o o' : Obj} {rest : List (Addr × Obj)} (h : ∀ p ∈ p1 :: (c, o) :: rest, p.1 ≠ I) : ∀ p ∈ p1 :: (c, o') :: rest, p.1 ≠ I := by
  intro p hp
  rcases List.mem_cons.mp hp with rfl | hp
  · exact h _ List.mem_cons_self
  · rcases List.mem_cons.mp hp with rfl | hp
    · exact (h (c, o) (List.mem_cons_of_mem _ List.mem_cons_self) : c ≠ I)
    · exact h p (List.mem_cons_of_mem _ (List.mem_cons_of_mem _ hp))
noncomputable def figAt (W : Nat) (al : Str) (N : Int) (sz n0 k : Nat) : Str := Txt.item al (Int.fmod (Int.fdiv (N * 2 ^ (W * n0 - 8 * sz)) (2 ^ (W * (n0 - 1 - k)))) (2 ^ W))
noncomputable def figs (W : Nat) (al : Str) (b : Array UInt8) : List Str := (List.range ((8 * b.size + W - 1) / W)).map (figAt W al (num b.toList) b.size ((8 * b.size + W - 1) / W))
theorem strsE {us : List Value} {ws : List Str} {x y : Str} {t : Tok} (h : StrsAre us ws) (e : x = y) : StrsAre (us ++ [.str x t]) (ws ++ [y]) := e ▸ h.append' (.cons _ _ .nil)
theorem figs_small (W : Nat) (al : Str) (N : Int) (sz n0 : Nat) (h : n0 ≤ 400000) : (((List.range n0).map fun k => figAt W al N sz n0 k).map (·.length)).sum + ((List.range n0).map fun k => figAt W al N sz n0 k).length ≤ 1048576 := by
  have key : ∀ l : List Nat, ((l.map fun k => figAt W al N sz n0 k).map (·.length)).sum = l.length := by
    intro l
    induction l with
    | nil => rfl
    | cons a l ih =>
      simp only [List.map_cons, List.sum_cons, List.length_cons]
      rw [ih]
      have : (figAt W al N sz n0 a).length = 1 := rfl
      lia
  rw [key, List.length_map, List.length_range]
  lia
theorem pow_ne {n : Nat} : (2:Int) ^ n ≠ 0 := Int.ne_of_gt (Int.pow_pos (by decide))
section
variable {prog : Program} {w : World} {A : Around} {E : Value → Shared → Prop} {heap : Heap} {gens : Array GenState} {drawn : Drawn} {T : Nat} {os : OsState} {a b : Int} {t u : Tok} {Q : Value → Shared → Prop}
theorem powG (hn : 0 ≤ b) (hn2 : b ≤ 1000000) (ha : a.natAbs < 2 ^ 64) (h : ∀ t' T', Q (.int (a ^ b.toNat) t') ⟨heap, gens, drawn, T', os⟩) : wpAny (model prog w) A (binaryOp .Pow (.int a t) (.int b u)) Q E ⟨heap, gens, drawn, T, os⟩ := pow_int_small hn hn2 ha (h _ _)
theorem mulG (hm : IntMulOk a b) (h : ∀ t' T', Q (.int (a * b) t') ⟨heap, gens, drawn, T', os⟩) : wpAny (model prog w) A (binaryOp .Mult (.int a t) (.int b u)) Q E ⟨heap, gens, drawn, T, os⟩ := mul_int (h _ _) hm
theorem subG (h : ∀ t' T', Q (.int (a - b) t') ⟨heap, gens, drawn, T', os⟩) : wpAny (model prog w) A (binaryOp .Sub (.int a t) (.int b u)) Q E ⟨heap, gens, drawn, T, os⟩ := sub_int (h _ _)
theorem addG (h : ∀ t' T', Q (.int (a + b) t') ⟨heap, gens, drawn, T', os⟩) : wpAny (model prog w) A (binaryOp .Add (.int a t) (.int b u)) Q E ⟨heap, gens, drawn, T, os⟩ := add_int (h _ _)
theorem modG (hb : b ≠ 0) (h : ∀ t' T', Q (.int (a.fmod b) t') ⟨heap, gens, drawn, T', os⟩) : wpAny (model prog w) A (binaryOp .Mod (.int a t) (.int b u)) Q E ⟨heap, gens, drawn, T, os⟩ := mod_int' hb (h _ _)
theorem divG (hb : b ≠ 0) (hp : PySem.PylongRoom (model prog w) A ⟨heap, gens, drawn, T, os⟩) (h : ∀ t' T', Q (.int (a.fdiv b) t') ⟨heap, gens, drawn, T', os⟩) : wpAny (model prog w) A (binaryOp .FloorDiv (.int a t) (.int b u)) Q E ⟨heap, gens, drawn, T, os⟩ := floordiv_int hb (h _ _) (.inr hp)
theorem itemG {value slice : Expr} {x : Str} {n : Nat} {i : Int} (hk : x.length = n) (h0 : -(n : Int) ≤ i) (h1 : i < (n : Int)) (hn : n ≤ 16777216) 
    (hs : subscripted slice false (.str x t) (.int i u) = operate [.str x t, .int i u] (getItem (.str x t) (.int i u)))
    (ht : ∀ r, letTemporaryGo value (.str x t) r = pure ()) (h : ∀ t' T', Q (.str (Txt.item x i) t') ⟨heap, gens, drawn, T', os⟩) :
    wpAny (model prog w) A (subscriptTail value slice (.str x t) (.int i u)) Q E ⟨heap, gens, drawn, T, os⟩ := KXi.item hk h0 h1 hn (fun _ => h _ _) hs ht
theorem itemW {value slice : Expr} {x : Str} {W : Nat} {y : Int} (hk : x.length = 2 ^ W) (hn : 2 ^ W ≤ 16777216)
    (hs : subscripted slice false (.str x t) (.int (Int.fmod y (2 ^ W)) u) = operate [.str x t, .int (Int.fmod y (2 ^ W)) u] (getItem (.str x t) (.int (Int.fmod y (2 ^ W)) u)))
    (ht : ∀ r, letTemporaryGo value (.str x t) r = pure ()) (h : ∀ t' T', Q (.str (Txt.item x (Int.fmod y (2 ^ W))) t') ⟨heap, gens, drawn, T', os⟩) :
    wpAny (model prog w) A (subscriptTail value slice (.str x t) (.int (Int.fmod y (2 ^ W)) u)) Q E ⟨heap, gens, drawn, T, os⟩ := by
  have hp : (0:Int) < 2 ^ W := Int.pow_pos (by decide)
  have hc : ((2 ^ W : Nat) : Int) = (2:Int) ^ W := Int.natCast_pow _ _
  have h1 := fmod_lo y hp
  have h2 := fmod_hi y hp
  exact itemG hk (by rw [hc]; lia) (by rw [hc]; exact h2) hn hs ht h
theorem room120 (dp : Nat) : dp + 1 + 100 ≤ dp + 120 := by lia
end
theorem mulW {W : Nat} (hW : W = 4 ∨ W = 6) (x : Nat) (h : x ≤ 1000000) : IntMulOk (W : Int) (x : Int) := by
  refine IntMulOk.of_le (m := 3) (n := 20) (intBits_le_iff.mpr ?_) (intBits_le_iff.mpr ?_) (by decide)
  · rcases hW with rfl | rfl <;> decide
  · rw [Int.natAbs_natCast]; lia
theorem figs_a {W s : Nat} (hW : W = 4 ∨ W = 6) : Int.fdiv (8 * (s : Int) + W - 1) W = (((8 * s + W - 1) / W : Nat) : Int) ∧ 8 * s ≤ W * ((8 * s + W - 1) / W) ∧ W * ((8 * s + W - 1) / W) ≤ 8 * s + 5 := by
  have h0 : 0 < W := by rcases hW with rfl | rfl <;> decide
  have h1 : W - 1 ≤ 5 := by rcases hW with rfl | rfl <;> decide
  have e : 8 * s + W - 1 = 8 * s + (W - 1) := Nat.add_sub_assoc h0 _
  refine ⟨?_, ?_, Nat.le_trans (Nat.mul_div_le _ _) (by rw [e]; exact Nat.add_le_add_left h1 _)⟩
  · have ec : ((8 * s + (W - 1) : Nat) : Int) = 8 * (s : Int) + W - 1 := by rw [Int.natCast_add, Int.natCast_mul, Int.natCast_sub h0, ← Int.add_sub_assoc]; rfl
    rw [Int.fdiv_eq_ediv_of_nonneg _ (Int.natCast_nonneg _), e, ← ec]; rfl
  · have h := Nat.lt_mul_div_succ (8 * s + W - 1) h0
    exact Nat.le_of_add_le_add_right (b := W) (by rw [← Nat.sub_add_cancel (Nat.le_trans h0 (Nat.le_add_left W (8 * s)) : 1 ≤ 8 * s + W)]; exact h)
theorem figs_n {W : Nat} (hW : W = 4 ∨ W = 6) (b : Array UInt8) (al : Str) : ∃ n : Nat, Int.fdiv (8 * (b.size : Int) + W - 1) W = (n : Int) ∧ 8 * b.size ≤ W * n ∧ W * n ≤ 8 * b.size + 5 ∧ figs W al b = (List.range n).map (figAt W al (num b.toList) b.size n) := by
  obtain ⟨h1, h2, h3⟩ := figs_a (s := b.size) hW
  exact ⟨_, h1, h2, h3, rfl⟩
local macro_rules | `(tactic| walk_at "binaryOp FloorDiv int int") => `(tactic| refine of_hold ?_)
local macro_rules | `(tactic| walk_at "subscriptTail") => `(tactic| refine of_hold ?_)
theorem sp_law_figuresW (w : World) (W : Nat) (hW : W = 4 ∨ W = 6) (b : Array UInt8) (tb tw ta : Tok) (al : Str) (hx : b.size ≤ 20000) (hal : al.length = 2 ^ W) : SpecV w 897 120 8 [.bytes b tb, .int (W : Int) tw, .str al ta] (fun t => .str (Txt.join (Str.ofString "") (figs W al b)) t) := by
  unfold SpecV SpecP
  intro dp un gd cn cs a ccd cl outer A₀ base h₀ L m mg mb mean news s Q E B F X N T hk hd hu hpre hret
  have hWp : 0 ≤ (W : Int) := Int.natCast_nonneg _
  have hWm : (W : Int) ≤ 1000000 := by rcases hW with rfl | rfl <;> decide
  have hW0 : (W : Int) ≠ 0 := by rcases hW with rfl | rfl <;> decide
  have hWn : 2 ^ W ≤ 16777216 := by rcases hW with rfl | rfl <;> decide
  have hal2 : al.length = 2 ^ Int.toNat (W : Int) := hal
  have hWn2 : 2 ^ Int.toNat (W : Int) ≤ 16777216 := hWn
  refine wpAny_call ?_
  refine' fn_enterC (binds := [("octets", .bytes b tb), ("width", .int (W : Int) tw), ("alphabet", .str al ta)]) ?k1 ?k2 ?k3 ?k4 ?k5 ?kA ?kF ?kK ?k6 ?ks ?k7 ?k8 ?k9 ?kB ?kD ?_ ?c2 ?c3 ?c4
  case kA => exact rfl
  case kF => exact rfl
  case kK => assumption
  case k1 => assumption
  case k2 => assumption
  case k3 => assumption
  case k4 => assumption
  case k5 => assumption
  case k6 => k_dflt k_is
  case ks => exact rfl
  case k7 => k_dflt k_is
  case k8 => exact Nat.lt_of_le_of_lt (Nat.le_add_right _ _) hd
  case k9 => exact BindsTo.of_eq rfl
  case kB => exact rfl
  case kD => decide +kernel
  case c2 => exact rfl
  case c3 => exact rfl
  case c4 => exact rfl
  intro g' L' h' tk' cells' FG' F' N' Y' B' X' T' l1
  try k_lt l1
  k_cells Y'
  try simp only [List.cons_append, List.nil_append] at N'
  try dsimp only
  try k_lift B'
  try k_fold
  show (let zV := _; let zA := _; wpAny _ zA (execs _ zV) _ _ _)
  intro zV zA
  rename_i o1 o2 o3 o4 d1 d2 d3 d4
  replace F' : Fr g' L' h' (fun y => if y = "octets" then some (Value.bytes b tb) else none) := F'
  replace d1 : o1.data = .cell none := d1
  replace d2 : o2.data = .cell none := d2
  replace d3 : o3.data = .cell (some (.str al ta)) := d3
  replace d4 : o4.data = .cell (some (.int (W : Int) tw)) := d4
  k_steps
  (with_reducible rename Fr _ _ _ _ => zF); (with_reducible rename News _ _ _ _ => zN)
  refine' for_src (src_bytes rfl b tb) zF zN ?hn (fun (i : Nat) (m : Str → Option Value) (nw : List (Addr × Obj)) => ∃ u o t, m = (fun (y : Str) => if y = "octet" then u else if y = "octets" then some (Value.bytes b tb) else none) ∧ o.data = .cell (some (.int (num (b.toList.take i)) t)) ∧ nw = (L' + 1 + 1 + 1 + 1, o1) :: (L' + 1 + 1 + 1, o) :: (L' + 1 + 1, o3) :: (L' + 1, o4) :: news) ?hj ?turn ?done
  case hn => exact fun p hp => nomatch hp
  case hj =>
    (with_reducible rename (Obj.data _ = Data.cell (some (Value.int 0 _))) => hcell)
    refine ⟨_, _, _, frame_at (fun y hy => ?_), hcell, rfl⟩
    simp only [upd, noFr, if_neg hy]
  case turn =>
    intro i v m₁ nw h tk I oI hlt hP hJ F' N' off hnd
    obtain ⟨u, o, t, rfl, ho, rfl⟩ := hJ
    obtain ⟨c, u', hc, rfl⟩ := hP
    have ht : num (b.toList.take (i + 1)) = 256 * num (b.toList.take i) + (c.toNat : Int) := num_take hc
    have oI1 : @Ne Nat I (L' + 1 + 1 + 1) := Ne.symm (off (L' + 1 + 1 + 1, o) (List.mem_cons_of_mem _ List.mem_cons_self))
    k_steps
    refine' ⟨_, _, _, _, rfl, ?zF, ?zN, off_2nd off, need_nil, _, _, _, frame_at (fun y hy => ?zy), ?zd, rfl⟩
    case zF => with_reducible assumption
    case zN => with_reducible assumption
    case zy => simp only [upd, noFr, if_neg hy]
    case zd => rw [ht]; with_reducible assumption
  case done =>
    intro m₁ nw h tk hJ F' N'
    obtain ⟨u, o, t, rfl, ho, rfl⟩ := hJ
    rw [List.take_of_length_le (by simp)] at ho
    obtain ⟨n0, hn0, hn1, hn2, hn3⟩ : ∃ n : Nat, Int.fdiv (8 * (b.size : Int) + W - 1) W = (n : Int) ∧ 8 * b.size ≤ W * n ∧ W * n ≤ 8 * b.size + 5 ∧ figs W al b = (List.range n).map (figAt W al (num b.toList) b.size n) := figs_n hW b al
    have hnm : n0 ≤ 165000 := Nat.le_trans (Nat.le_trans (Nat.le_mul_of_pos_left n0 (by rcases hW with rfl | rfl <;> decide)) hn2) (by lia)
    have hcm : (W : Int) * (n0 : Int) = ((W * n0 : Nat) : Int) := (Int.natCast_mul _ _).symm
    have hq1 : 0 ≤ (W : Int) * Int.fdiv (8 * (b.size : Int) + W - 1) W - 8 * (b.size : Int) := by rw [hn0, hcm]; lia
    have hq2 : (W : Int) * Int.fdiv (8 * (b.size : Int) + W - 1) W - 8 * (b.size : Int) ≤ 1000000 := by rw [hn0, hcm]; lia
    have hqm : IntMulOk (W : Int) (Int.fdiv (8 * (b.size : Int) + W - 1) W) := by rw [hn0]; exact mulW hW _ (by lia)
    have hmul : IntMulOk (num b.toList) (2 ^ Int.toNat ((W : Int) * Int.fdiv (8 * (b.size : Int) + W - 1) W - 8 * (b.size : Int))) := by
      refine IntMulOk.of_le (m := 160000) (n := 11) (intBits_le_iff.mpr ?_) (Nat.le_trans (intBits_pow_le (m := 2) (by decide) _) (by rw [hn0, hcm]; lia)) (by decide)
      have h1 := num_lt b.toList
      refine Nat.lt_of_lt_of_le (Int.ofNat_lt.mp ?_) (Nat.pow_le_pow_right (by decide) (show 8 * b.toList.length ≤ 160000 by simp only [Array.length_toList]; lia))
      rw [Int.natAbs_of_nonneg h1.1, Int.natCast_pow]; exact h1.2
    (k_steps; repeat' (((with_reducible refine hold_in ?_); (k_dflt (refine' divG (by first | exact pow_ne | with_reducible assumption | decide) (PylongRoom.of (by exact Heap.NoLimit.keeps (Top.nolimit (by k_asm)) (Fr.keep (by with_reducible assumption))) (by exact Nat.lt_of_le_of_lt (show _ + 1 + 100 ≤ _ from room120 _) (by with_reducible assumption))) ?_); intro tt' tk'; (try dsimp only))); (all_goals (try k_steps))))
    (with_reducible rename (Obj.data _ = Data.cell (some (Value.int (Int.fdiv _ _) _))) => dcount)
    (with_reducible rename IsRange _ _ _ _ _ _ _ _ => zR)
    rw [hn0] at dcount zR
    dsimp only
    refine' comp_quietH (src_range (n := n0) rfl zR ?zs ?zr) ?hz ?F ?N ?hn (fun i ys => StrsAre ys ((List.range i).map fun k => figAt W al (num b.toList) b.size n0 k)) ?hG ?turn ?fin
    case F => with_reducible assumption
    case N => with_reducible assumption
    case hn => exact fun p hp => nomatch hp
    case hz => lia
    case zs => exact small_one (by decide) (by decide) (by lia) (by lia)
    case zr => rw [rangeSize_one]; split <;> lia
    case hG => exact .nil
    case turn =>
      intro i ys v I oI C oC D m₂ h tk E' WV WF hWV hWF hi hG hP hC hx F' N'
      obtain ⟨t, rfl⟩ := hP
      have hci : (n0 : Int) - 1 - (0 + (i : Int)) = ((n0 - 1 - i : Nat) : Int) := by rw [Int.zero_add, Int.sub_sub, Nat.sub_sub, Int.natCast_sub (show 1 + i ≤ n0 by rw [Nat.add_comm]; exact hi), Int.natCast_add]; rfl
      have hcw : (W : Int) * ((n0 : Int) - 1 - (0 + (i : Int))) = ((W * (n0 - 1 - i) : Nat) : Int) := by rw [hci]; exact (Int.natCast_mul _ _).symm
      have hle : W * (n0 - 1 - i) ≤ 1000000 := Nat.le_trans (Nat.mul_le_mul (show W ≤ 6 by rcases hW with rfl | rfl <;> decide) (show n0 - 1 - i ≤ 165000 from Nat.le_trans (Nat.sub_le _ _) (Nat.le_trans (Nat.sub_le _ _) hnm))) (by decide)
      have hi1 : 0 ≤ (W : Int) * (Int.fdiv (8 * (b.size : Int) + W - 1) W - 1 - (0 + (i : Int))) := by rw [hn0, hcw]; exact Int.natCast_nonneg _
      have hi2 : (W : Int) * (Int.fdiv (8 * (b.size : Int) + W - 1) W - 1 - (0 + (i : Int))) ≤ 1000000 := by rw [hn0, hcw]; exact Int.ofNat_le.mpr hle
      have hi3 : 0 ≤ (W : Int) * ((n0 : Int) - 1 - (0 + (i : Int))) := by rw [hcw]; exact Int.natCast_nonneg _
      have hi4 : (W : Int) * ((n0 : Int) - 1 - (0 + (i : Int))) ≤ 1000000 := by rw [hcw]; exact Int.ofNat_le.mpr hle
      have hi5 : IntMulOk (W : Int) (Int.fdiv (8 * (b.size : Int) + W - 1) W - 1 - (0 + (i : Int))) := by rw [hn0, hci]; exact mulW hW _ (Nat.le_trans (Nat.sub_le _ _) (Nat.le_trans (Nat.sub_le _ _) (Nat.le_trans hnm (by decide))))
      have hi6 : IntMulOk (W : Int) ((n0 : Int) - 1 - (0 + (i : Int))) := by rw [hci]; exact mulW hW _ (Nat.le_trans (Nat.sub_le _ _) (Nat.le_trans (Nat.sub_le _ _) (Nat.le_trans hnm (by decide))))
      (k_steps; repeat' (first | (((with_reducible refine hold_in ?_); ((with_reducible show wpAny _ _ (subscriptTail _ _ (Value.str _ _) (Value.int _ _)) _ _ _); k_dflt (refine' itemW (by with_reducible assumption) (by with_reducible assumption) (by with_unfolding_all rfl) (by intro _; with_unfolding_all rfl) ?_); intro tt' tk'; (try dsimp only))); (all_goals (try k_steps))) | (((with_reducible refine hold_in ?_); (k_dflt (refine' divG (by first | exact pow_ne | with_reducible assumption | decide) (PylongRoom.of (by exact Heap.NoLimit.keeps (Top.nolimit (by k_asm)) (Fr.keep (by with_reducible assumption))) (by exact Nat.lt_of_le_of_lt (show _ + 1 + 100 ≤ _ from room120 _) (by with_reducible assumption))) ?_); intro tt' tk'; (try dsimp only))); (all_goals (try k_steps)))))
      first | refine hWV _ _ _ (by with_reducible assumption) (by with_reducible assumption) ?_ | refine hWF _ _ (by with_reducible assumption) (by with_reducible assumption) ?_
      rw [List.range_succ, List.map_append]
      refine strsE hG ?_
      show _ = figAt W al (num b.toList) b.size n0 i
      unfold figAt
      rw [hn0, show Int.toNat ((W : Int) * (n0 : Int) - 8 * (b.size : Int)) = W * n0 - 8 * b.size from Int.toNat_sub (W * n0) (8 * b.size), show Int.toNat ((W : Int) * ((n0 : Int) - 1 - (0 + (i : Int)))) = W * (n0 - 1 - i) by rw [hcw]; rfl]
      rfl
    case fin =>
      intro D h tk ys F' N' o1 hG
      k_steps
      refine join_listW (News.isList (by with_reducible assumption) (by k_mem)) (by with_reducible assumption) (by decide +kernel) (figs_small _ _ _ _ _ (by lia)) ?_
      intro t' tk'
      (try dsimp only)
      k_steps
      rw [hn3] at hret
      all_goals (refine hret _ _ _ (by with_reducible assumption) ?_; first | with_reducible assumption | (with_reducible rename News h₀ L _ _ => zN; exact newsSub zN (fun p hp => by repeat (first | exact hp | apply List.mem_cons_of_mem))))
theorem sp_law_figures6 (w : World) (b : Array UInt8) (tb tw ta : Tok) (al : Str) (hx : b.size ≤ 20000) (hal : al.length = 2 ^ 6) : SpecV w 897 120 8 [.bytes b tb, .int 6 tw, .str al ta] (fun t => .str (Txt.join (Str.ofString "") (figs 6 al b)) t) := sp_law_figuresW w 6 (.inr rfl) b tb tw ta al hx hal
theorem sp_law_figures4 (w : World) (b : Array UInt8) (tb tw ta : Tok) (al : Str) (hx : b.size ≤ 20000) (hal : al.length = 2 ^ 4) : SpecV w 897 120 8 [.bytes b tb, .int 4 tw, .str al ta] (fun t => .str (Txt.join (Str.ofString "") (figs 4 al b)) t) := sp_law_figuresW w 4 (.inl rfl) b tb tw ta al hx hal
end
section
open PySem PySem.W PySem.Spec PySem.Calls PyProof.Rows PySem.Builtin PySem.Builtin.Re

/-- the compiled pattern's words -/
noncomputable def cw : Array Nat := #[14, 17, 4, 1, 1, 21, 9, 0, 604043296, 1, 0, 0, 0, 0, 0, 8, 4, 0, 13, 14, 21, 9, 0, 604043296, 1, 0, 0, 0, 0, 0, 8, 4, 0, 1]
noncomputable def bare1 (c : Nat) : Bool := (decide (c < 256) && (cw.getD (6 + (1 + c / 32)) 0).testBit (c % 32)) || Sre.isWord c

theorem inSet5 (c : Nat) (seen : Sre.Seen) : ∃ seen', Sre.inSet cw c cw.size 5 true seen = .ok (!bare1 c, seen') := by
  have e1 : Sre.inSet cw c cw.size 5 true seen = (if (decide (c < 256) && (cw.getD (6 + (1 + c / 32)) 0).testBit (c % 32)) = true then .ok (false, (seen.add 21).add 9) else Sre.inSet cw c 32 15 false ((seen.add 21).add 9)) := rfl
  have e2 : ∀ z, Sre.inSet cw c 32 15 false z = (if Sre.isWord c = true then .ok (false, (z.add 8).add 59) else Sre.inSet cw c 31 17 false ((z.add 8).add 59)) := by
    intro z
    show ((Sre.category 4 c >>= fun b => if b = true then pure (false, (z.add 8).add (55 + 4)) else Sre.inSet cw c 31 17 false ((z.add 8).add (55 + 4))) : Except String (Bool × Sre.Seen)) = _
    have : Sre.category 4 c = .ok (Sre.isWord c) := by
      show (Except.ok (Sre.isWord c) : Except String Bool).map (· != (4 % 2 == 1)) = _
      cases Sre.isWord c <;> rfl
    rw [this]; rfl
  have e3 : ∀ z, Sre.inSet cw c 31 17 false z = .ok (true, z.add 0) := fun _ => rfl
  rw [e1, bare1]
  by_cases h1 : (decide (c < 256) && (cw.getD (6 + (1 + c / 32)) 0).testBit (c % 32)) = true
  · rw [if_pos h1, h1]; exact ⟨_, rfl⟩
  · rw [if_neg h1, e2, Bool.eq_false_iff.mpr h1]
    by_cases h2 : Sre.isWord c = true
    · rw [if_pos h2, h2]; exact ⟨_, rfl⟩
    · rw [if_neg h2, e3, Bool.eq_false_iff.mpr h2]; exact ⟨_, rfl⟩
theorem inSet20 (c : Nat) (seen : Sre.Seen) : ∃ seen', Sre.inSet cw c cw.size 20 true seen = .ok (!bare1 c, seen') := by
  have e1 : Sre.inSet cw c cw.size 20 true seen = (if (decide (c < 256) && (cw.getD (6 + (1 + c / 32)) 0).testBit (c % 32)) = true then .ok (false, (seen.add 21).add 9) else Sre.inSet cw c 32 30 false ((seen.add 21).add 9)) := by
    show (if (decide (c < 256) && (cw.getD (21 + (1 + c / 32)) 0).testBit (c % 32)) = true then _ else _) = _
    by_cases hc : c < 256
    · have : cw.getD (21 + (1 + c / 32)) 0 = cw.getD (6 + (1 + c / 32)) 0 := by
        have hk : c / 32 < 8 := by lia
        have key : ∀ k, k < 8 → cw.getD (21 + (1 + k)) 0 = cw.getD (6 + (1 + k)) 0 := by decide
        exact key _ hk
      rw [this]; rfl
    · simp only [hc, decide_false, Bool.false_and, Bool.false_eq_true, if_false]; rfl
  have e2 : ∀ z, Sre.inSet cw c 32 30 false z = (if Sre.isWord c = true then .ok (false, (z.add 8).add 59) else Sre.inSet cw c 31 32 false ((z.add 8).add 59)) := by
    intro z
    show ((Sre.category 4 c >>= fun b => if b = true then pure (false, (z.add 8).add (55 + 4)) else Sre.inSet cw c 31 32 false ((z.add 8).add (55 + 4))) : Except String (Bool × Sre.Seen)) = _
    have : Sre.category 4 c = .ok (Sre.isWord c) := by
      show (Except.ok (Sre.isWord c) : Except String Bool).map (· != (4 % 2 == 1)) = _
      cases Sre.isWord c <;> rfl
    rw [this]; rfl
  have e3 : ∀ z, Sre.inSet cw c 31 32 false z = .ok (true, z.add 0) := fun _ => rfl
  rw [e1, bare1]
  by_cases h1 : (decide (c < 256) && (cw.getD (6 + (1 + c / 32)) 0).testBit (c % 32)) = true
  · rw [if_pos h1, h1]; exact ⟨_, rfl⟩
  · rw [if_neg h1, e2, Bool.eq_false_iff.mpr h1]
    by_cases h2 : Sre.isWord c = true
    · rw [if_pos h2, h2]; exact ⟨_, rfl⟩
    · rw [if_neg h2, e3, Bool.eq_false_iff.mpr h2]; exact ⟨_, rfl⟩

/-- the first sign that is not bare, from s on -/
theorem admitted_of (m : Sre.M) (hc : m.code = cw) : ∀ (fuel s : Nat) (seen : Sre.Seen), m.lim + 1 ≤ s + fuel → 
    (∃ seen', (Sre.M.admitted m fuel s seen = .ok (none, seen')) ∧ ∀ i, s ≤ i → i < m.lim → bare1 (m.text.getD i 0) = true) ∨
    (∃ j seen', Sre.M.admitted m fuel s seen = .ok (some j, seen') ∧ s ≤ j ∧ j < m.lim ∧ bare1 (m.text.getD j 0) = false)
  | 0, s, seen, h => .inl ⟨seen, rfl, fun i h1 h2 => absurd h2 (by lia)⟩
  | fuel + 1, s, seen, h => by
    have e : Sre.M.admitted m (fuel + 1) s seen = (if s ≥ m.lim then .ok (none, seen) else
      match Sre.inSet m.code (m.text.getD s 0) m.code.size 5 true seen with
      | .ok (true, seen) => .ok (some s, seen)
      | .ok (false, seen) => Sre.M.admitted m fuel (s + 1) seen
      | .error why => .error why) := rfl
    rw [e]
    by_cases hs : s ≥ m.lim
    · rw [if_pos hs]; exact .inl ⟨seen, rfl, fun i h1 h2 => absurd h2 (by omega)⟩
    · rw [if_neg hs, hc]
      obtain ⟨seen', e2⟩ := inSet5 (m.text.getD s 0) seen
      rw [e2]
      cases hb : bare1 (m.text.getD s 0) with
      | true =>
        rcases admitted_of m hc fuel (s + 1) seen' (by omega) with ⟨z, e3, e4⟩ | ⟨j, z, e3, e4, e5, e6⟩
        · refine .inl ⟨z, e3, fun i h1 h2 => ?_⟩
          rcases Nat.lt_or_ge s i with h3 | h3
          · exact e4 i h3 h2
          · rw [show i = s by lia]; exact hb
        · exact .inr ⟨j, z, e3, by omega, e5, e6⟩
      | false => exact .inr ⟨s, seen', rfl, Nat.le_refl _, by omega, hb⟩

noncomputable def safeT (x : Str) : Bool := (L x).all bare1

theorem pow64 : (2:Nat) ^ 64 = 18446744073709551615 + 1 := by decide
theorem drive_succ (n : Nat) (m : Sre.M) : reDrive (n + 1) m = (if (m.runFor 4).outcome.isSome = true then pure (m.runFor 4) else do rule "sre.turn"; reDrive n (m.runFor 4)) := rfl
theorem drive_now (m : Sre.M) (h : (m.runFor 4).outcome.isSome = true) : reDrive (2 ^ 64) m = pure (m.runFor 4) := by
  rw [pow64, drive_succ, if_pos h]


noncomputable def m00 (x : Str) : Sre.M := { code := cw, text := x.cps, lim := x.cps.size, start := 0, pc := 18, pos := 0, handed := 0, marks := #[], mustAdvance := false, seen := ({} : Sre.Seen).add 14, lastStart := x.cps.size }
theorem search_eq (x : Str) (h : 0 < x.cps.size) : Sre.forSearch cw x.cps 0 0 x.cps.size false = (m00 x).attemptFrom 0 true := by
  unfold Sre.forSearch
  generalize hn : x.cps.size = n at *
  cases n with
  | zero => cases h
  | succ n => rw [m00, hn]; rfl
theorem search_0 (x : Str) (h : x.cps.size = 0) : ((Sre.forSearch cw x.cps 0 0 x.cps.size false).runFor 4).outcome = some .failed := by
  rw [h]; rfl
theorem attempt_eq (x : Str) : (m00 x).attemptFrom 0 true = match Sre.M.admitted (m00 x) (x.cps.size + 1 - 0) 0 (m00 x).seen with
  | .ok (some s, seen) => { m00 x with mustAdvance := false, seen }.attemptAt s true
  | .ok (none, seen) => { m00 x with seen }.say false
  | .error why => (m00 x).stick why := rfl
theorem search_bare (x : Str) (h : safeT x = true) : ((Sre.forSearch cw x.cps 0 0 x.cps.size false).runFor 4).outcome = some .failed := by
  rcases Nat.eq_zero_or_pos x.cps.size with h0 | h0
  · exact search_0 x h0
  · rw [search_eq x h0, attempt_eq]
    rcases admitted_of (m00 x) rfl (x.cps.size + 1 - 0) 0 (m00 x).seen (by show x.cps.size + 1 ≤ _; omega) with ⟨z, e, _⟩ | ⟨j, z, e, _, hj, hb⟩
    · rw [e]; rfl
    · exfalso
      have : bare1 (x.cps.getD j 0) = true := by
        have hj' : j < x.cps.size := hj
        have := List.all_eq_true.mp h (x.cps[j]) (by unfold L; exact Array.mem_toList_iff.mpr (Array.getElem_mem hj'))
        rw [Array.getD_eq_getD_getElem?, Array.getElem?_eq_getElem hj']; exact this
      rw [show bare1 (x.cps.getD j 0) = false from hb] at this; cases this
/-- where a sign is found -/
noncomputable def m1 (x : Str) (j : Nat) (z : Sre.Seen) : Sre.M := { m00 x with start := j, pos := j, handed := j, seen := z, weight := 1, frames := [{ wait := .nextStart, pc := 18, pos := j, outermost := true }] }
noncomputable def m2 (x : Str) (j : Nat) (z : Sre.Seen) : Sre.M := { m1 x j z with pc := 33, pos := j + 1 }
theorem step_1 (x : Str) (j : Nat) (z : Sre.Seen) (hj : j < x.cps.size) (hb : bare1 (x.cps.getD j 0) = false) : ∃ z', (m1 x j z).step = m2 x j z' := by
  obtain ⟨z', e⟩ := inSet20 (x.cps.getD j 0) (z.add 13)
  rw [hb] at e
  refine ⟨z', ?_⟩
  have e1 : (m1 x j z).step = (if j ≥ x.cps.size then ({ m1 x j z with seen := z.add 13 }).say false else
    match Sre.inSet cw (x.cps.getD j 0) cw.size 20 true (z.add 13) with
    | .error why => ({ m1 x j z with seen := z.add 13 }).stick why
    | .ok (false, seen) => { { m1 x j z with seen := z.add 13 } with seen }.say false
    | .ok (true, seen) => { { m1 x j z with seen := z.add 13 } with seen, pc := 18 + Sre.itemWidth cw 18, pos := j + 1 }) := rfl
  rw [e1, if_neg (by omega), e]
  rfl
theorem rest_3 (x : Str) (j : Nat) (z : Sre.Seen) : ∃ m, ((m2 x j z).runFor 3) = m ∧ m.outcome = some .matched ∧ m.start = j ∧ m.handed = j + 1 ∧ m.lastindex = -1 ∧ m.marks = #[] ∧ m.lastmark = -1 := ⟨_, rfl, rfl, rfl, rfl, rfl, rfl, rfl⟩
theorem search_found (x : Str) (h : safeT x = false) : ∃ m, (Sre.forSearch cw x.cps 0 0 x.cps.size false).runFor 4 = m ∧ m.outcome = some .matched := by
  have h0 : 0 < x.cps.size := by
    rcases Nat.eq_zero_or_pos x.cps.size with h0 | h0
    · exfalso
      have : L x = [] := by unfold L; rw [Array.toList_eq_nil_iff]; exact Array.eq_empty_of_size_eq_zero h0
      unfold safeT at h; rw [this] at h; cases h
    · exact h0
  rw [search_eq x h0, attempt_eq]
  rcases admitted_of (m00 x) rfl (x.cps.size + 1 - 0) 0 (m00 x).seen (by show x.cps.size + 1 ≤ _; omega) with ⟨z, e, hall⟩ | ⟨j, z, e, _, hj, hb⟩
  · exfalso
    have : safeT x = true := by
      refine List.all_eq_true.mpr fun c hc => ?_
      obtain ⟨i, hi, rfl⟩ := List.mem_iff_getElem.mp (show c ∈ x.cps.toList from hc)
      have hi' : i < x.cps.size := by simpa using hi
      have := hall i (Nat.zero_le _) hi'
      rw [show (m00 x).text = x.cps from rfl, Array.getD_eq_getD_getElem?, Array.getElem?_eq_getElem hi'] at this
      simpa using this
    rw [h] at this; cases this
  · rw [e]
    have e2 : ({ m00 x with mustAdvance := false, seen := z }).attemptAt j true = m1 x j z := rfl
    show ∃ m, (Sre.M.runFor 4 (({ m00 x with mustAdvance := false, seen := z }).attemptAt j true)) = m ∧ _
    rw [e2]
    obtain ⟨z', e3⟩ := step_1 x j z hj hb
    have e4 : (m1 x j z).runFor 4 = ((m1 x j z).step).runFor 3 := rfl
    rw [e4, e3]
    obtain ⟨m, h1, h2, _⟩ := rest_3 x j z'
    exact ⟨m, h1, h2⟩
end
section
open PySem PySem.W PySem.Spec PySem.Calls PyProof.Rows PySem.Builtin PySem.Builtin.Re
set_option maxHeartbeats 1000000
section
variable {M : Model} {A : Around} {E : Value → Shared → Prop} {s : Shared}
theorem forIn_quiet {body : Nat → PUnit → Sem (ForInStep PUnit)} {Q : PUnit → Shared → Prop} (hb : ∀ i r (Q' : ForInStep PUnit → Shared → Prop), Q' (.yield PUnit.unit) s → wpAny M A (body i r) Q' E s) (h : Q PUnit.unit s) :
    ∀ l : List Nat, wpAny M A (forIn l PUnit.unit body) Q E s
  | [] => by rw [List.forIn_nil]; exact wpAny_pure h
  | a :: l => by
    rw [List.forIn_cons]
    refine wpAny_bind (hb a _ _ ?_)
    exact forIn_quiet hb h l
theorem run_end {m : Sre.M} {Q : Option Sre.M → Shared → Prop} (hs : (m.runFor 4).outcome.isSome = true)
    (h : (∀ (e : (m.runFor 4).outcome = some .matched), Q (some (m.runFor 4)) s) ) (hf : ((m.runFor 4).outcome = some .failed) → Q none s) (ho : (m.runFor 4).outcome = some .matched ∨ (m.runFor 4).outcome = some .failed) : wpAny M A (reRunToEnd m) Q E s := by
  unfold reRunToEnd
  refine wpAny_bind (wpAny_of_eq (drive_now m hs) ?_)
  refine wpAny_bind (forIn_quiet (fun i r Q' hq => ?_) ?_ _)
  · split
    · exact wpAny_bind (wpAny_rule (wpAny_pure hq))
    · exact wpAny_pure hq
  · rcases ho with ho | ho
    · rw [ho]; exact wpAny_pure (h ho)
    · rw [ho]; exact wpAny_pure (hf ho)
end
section
variable {prog : Program} {w : World} {A : Around} {E : Value → Shared → Prop} {s : Shared} {h₀ : Heap} {L : Addr} {m : Str → Option Value} {news : List (Addr × Obj)}
theorem entry_search : entryFor table "re.Pattern.search" = some Builtin.«re.Pattern.search» := entryFor_of_tree (by kernel_rfl)
theorem quiet_search {as : Args} : (Code.builtin "re.Pattern.search" as).quiet = true := Code.quiet_builtin _ (by decide +kernel)
theorem kind_search : builtinKind "re.Pattern.search" = some .method := by decide +kernel
theorem named_search (x : Str) (t : Tok) : reNamed "re.Pattern.search" "search" ["string", "pos", "endpos"] 1 [.str x t] [] = pure [some (.str x t), none, none] := by kernel_rfl
theorem items_search (a : Array Nat) : True := trivial
theorem tree_search {P : Params} {x : Str} {t : Tok} {Q : Fin → Shared → Prop} (hx : x.length ≤ 16777216) (h95 : s.heap.get? 95 = some (o95 P)) (h94 : s.heap.get? 94 = some (o94 P))
    (hn : safeT x = true → Q (.done (.ret .none)) s)
    (hf : safeT x = false → ∀ o1 o2, Q (.done (.ret (.ref (s.heap.objs.size + 1)))) { s with heap := (s.heap.push o1).push o2 }) :
    wpAny (model prog w) A (Builtin.«re.Pattern.search» ⟨[.ref 95, .str x t], []⟩) Q E s := by
  unfold Builtin.«re.Pattern.search» reTarget
  dsimp only
  refine wpAny_bind (wpAny_bind (wpAny_of_eq (named_search x t) ?_))
  dsimp only
  refine wpAny_bind (wpAny_pure (wpAny_bind (wpAny_pure ?_)))
  refine wpAny_bind (wpAny_fieldsOf h95 rfl ?_)
  refine wpAny_bind (wpAny_of_eq (a := (x.cps, 0)) rfl ?_)
  refine wpAny_bind (wpAny_pure ?_)
  refine wpAny_bind ?_
  refine wpAny_bind ?_
  refine wpAny_bind (wpAny_load h94 ?_)
  refine wpAny_pure (wpAny_pure (wpAny_pure ?_))
  dsimp only
  have hlim : min (2 ^ 63 - 1 : Int).toNat x.cps.size = x.cps.size := by
    have : x.cps.size ≤ 16777216 := hx
    have e : (2 ^ 63 - 1 : Int).toNat = 9223372036854775807 := by decide
    rw [e]; lia
  have hcode : Array.map (fun (x : Int) => x.toNat) (Array.map reRawOf ((some [(.int (14) 0), (.int (17) 0), (.int (4) 0), (.int (1) 0), (.int (1) 0), (.int (21) 0), (.int (9) 0), (.int (0) 0), (.int (604043296) 0), (.int (1) 0), (.int (0) 0), (.int (0) 0), (.int (0) 0), (.int (0) 0), (.int (0) 0), (.int (8) 0), (.int (4) 0), (.int (0) 0), (.int (13) 0), (.int (14) 0), (.int (21) 0), (.int (9) 0), (.int (0) 0), (.int (604043296) 0), (.int (1) 0), (.int (0) 0), (.int (0) 0), (.int (0) 0), (.int (0) 0), (.int (0) 0), (.int (8) 0), (.int (4) 0), (.int (0) 0), (.int (1) 0)].toArray).getD #[])) = cw := by decide +kernel
  rw [hcode, hlim, show min (Int.toNat 0) x.cps.size = 0 from Nat.zero_min _]
  unfold reAnswer
  refine wpAny_bind ?_
  show wpAny _ _ (reRunToEnd (Sre.forSearch cw x.cps 0 0 x.cps.size false)) _ _ _
  cases hb : safeT x with
  | true =>
    have h1 := search_bare x hb
    refine run_end (by rw [h1]; rfl) (fun e => ?_) (fun e => ?_) (.inr h1)
    · rw [h1] at e; cases e
    · exact wpAny_pure (hn hb)
  | false =>
    obtain ⟨mm, hm, h1⟩ := search_found x hb
    rw [← hm] at h1
    refine run_end (by rw [h1]; rfl) (fun e => ?_) (fun e => ?_) (.inl h1)
    · refine wpAny_bind ?_
      unfold reNewMatch
      dsimp only
      split
      · rename_i h; exact absurd (show false = true from h) Bool.false_ne_true
      · refine wpAny_bind (wpAny_newTuple ?_ (by show (2:Nat) ≤ sizeLine; rw [sizeLine_eq]; decide))
        refine wpAny_newObj_type ?_ (by show (6:Nat) ≤ _; rw [sizeLine_eq]; decide)
        refine wpAny_pure ?_
        show Q (Fin.done (.ret (.ref (s.heap.push _).objs.size))) _
        rw [Heap.size_push]
        exact hf hb _ _
    · rw [h1] at e; cases e
theorem check_search (x : Str) (t : Tok) {Q : Unit → Shared → Prop} {P : Params} (h95 : s.heap.get? 95 = some (o95 P)) (h : Q () s) : wpAny (model prog w) A (checkBoundCall "re.Pattern.search" ⟨[.ref 95, .str x t], []⟩) Q E s := by
  have e : (Manifest.signature? "re.Pattern.search").map (fun sig => Bind.checkArgs "re.Pattern.search" { sig with full := s!"{Bind.lastOf "re.Pattern"}.{Bind.lastOf "re.Pattern.search"}" } ⟨[.ref 95, .str x t], []⟩) = some (pure ()) := by kernel_rfl
  unfold checkBoundCall
  cases hsig : Manifest.signature? "re.Pattern.search" with
  | none => exact wpAny_pure h
  | some sig =>
    rw [hsig] at e
    have e2 := Option.some.inj e
    simp only [kind_search]
    rw [if_neg (by decide)]
    refine wpAny_bind (wpAny_isInstance (T := "re.Pattern") (b := false) ⟨_, h95, rfl⟩ (by rw [isSubtype_type]; kernel_rfl) ?_)
    rw [if_neg (by rw [Bool.or_false]; decide +kernel)]
    have ht : wpAny (model prog w) A (isType (.ref 95)) (fun b s' => b = false ∧ s' = s) E s := by
      unfold isType loadHead
      exact wpAny_bind (wpAny_loadPart h95 (wpAny_pure ⟨rfl, rfl⟩))
    refine wpAny_bind (wpAny_mono ht (fun b s' z => ?_) fun _ _ e => e)
    obtain ⟨rfl, rfl⟩ := z
    rw [if_neg (by decide)]
    refine wpAny_bind (wpAny_typeOf (T := "re.Pattern") ⟨_, h95, rfl⟩ ?_)
    dsimp only
    dsimp only at e2
    rw [e2]
    exact wpAny_pure h
theorem call_find {P : Params} {x : Str} {t : Tok} {Q : Value → Shared → Prop} (X : (K P).In h₀) (F : Fr h₀ L s.heap m) (N : News h₀ L s.heap news) (hx : x.length ≤ 100000)
    (hn : safeT x = true → Q .none s)
    (hf : safeT x = false → ∀ a h', Fr h₀ L h' m → News h₀ L h' news → Q (.ref a) { s with heap := h' }) :
    wpAny (model prog w) A (call (.ref 798) [.str x t]) Q E s := by
  have h798 : s.heap.get? 798 = some (o798 P) := F.keep _ _ (X _ _ (by rfl))
  have h95 : s.heap.get? 95 = some (o95 P) := F.keep _ _ (X _ _ (by rfl))
  have h94 : s.heap.get? 94 = some (o94 P) := F.keep _ _ (X _ _ (by rfl))
  refine wpAny_call (codeAny_of_tree ?_)
  show wpAny _ A.in1 (callAny (.ref 798) ⟨[.str x t], []⟩) _ _ s
  simp only [callAny]
  refine wpAny_bind (wpAny_load h798 ?_)
  rw [show o798 P = ⟨(.type "builtin_function_or_method"), none, (.fields [(.builtin "re.Pattern.search"), (.ref 95)].toArray), #[]⟩ from rfl]
  dsimp only
  rw [if_pos (by decide)]
  show wpAny _ _ (if (Value.type "builtin_function_or_method" != Value.type "method") = true then _ else _) _ _ _
  rw [if_pos (by decide)]
  refine wpAny_bind (check_search x t h95 ?_)
  refine wpAny_bind (wpAny_pure (wpAny_pure ?_))
  refine ⟨quiet_search, codeAny_builtin entry_search (tree_search (by lia) h95 h94 hn fun e o1 o2 => ?_)⟩
  exact hf e _ _ ((F.push _).push _) (by
    have k : ∀ b o', s.heap.get? b = some o' → ((s.heap.push o1).push o2).get? b = some o' := fun _ _ z => Heap.get?_push_of_some _ (Heap.get?_push_of_some _ z)
    exact N.grown k)
end
end
section
open PySem PySem.W PySem.Spec PySem.Calls PyProof.Rows
set_option maxHeartbeats 4000000
section
variable {M : Model} {A : Around} {E : Value → Shared → Prop} {s : Shared}
theorem callWith_find {P : Params} {h₀ : Heap} {pos : Pos} {first : List Value} {env : Env} {e : Expr} {rest : List Expr} {Q : Value → Shared → Prop} (_X : (K P).In h₀)
    (h : wpAny M A (spliced (backTo pos (starEach (e :: rest) env))) (fun vs s₁ => (K P).In s₁.heap ∧ wpAny M A (call (.ref 798) (first ++ vs)) Q E s₁) E s)
    (he : starEach (e :: rest) env = (false, eval e env) :: starEach rest env) (hplain : (backTo pos (starEach rest env)).any (·.1) = false) :
    wpAny M A (callWith pos (.ref 798) first (backTo pos (starEach (e :: rest) env)) []) Q E s := by
  rw [he] at h ⊢
  have hp : ((backTo pos ((false, eval e env) :: starEach rest env)).any (·.1)) = false := by show (false || (backTo pos (starEach rest env)).any (·.1)) = false; rw [hplain]; rfl
  unfold callWith
  refine wpAny_bind (wpAny_holding (wpAny_mono (evalArgs_plain (Q := fun x s₁ => (K P).In s₁.heap ∧ wpAny M A (call (.ref 798) (first ++ x.pos) x.kw) Q E s₁) h) (fun x s₁ h₁ => wpAny_bind (wpAny_standAt ?_)) fun _ _ x => x))
  obtain ⟨X, hcall⟩ := h₁
  simp only [hp, List.any_nil, Bool.or_false]
  refine wpAny_bind (m := keeperOf (.ref 798)) ?_
  unfold keeperOf
  refine wpAny_bind (wpAny_load (X 798 (o798 P) (by rfl)) ?_)
  rw [show o798 P = ⟨(.type "builtin_function_or_method"), none, (.fields [(.builtin "re.Pattern.search"), (.ref 95)].toArray), #[]⟩ from rfl]
  simp only [show (Value.type "builtin_function_or_method" != Value.type "method") = true by decide, show (Value.type "builtin_function_or_method" == Value.type "builtin_function_or_method" || Value.type "builtin_function_or_method" == Value.type "method-wrapper") = true by decide, if_true]
  refine wpAny_pure ?_
  exact wpAny_bind (wpAny_mono hcall (fun r s₂ hr => wpAny_bind (wpAny_holding (wpAny_point (wpAny_pure hr)))) fun _ _ x => x)
end
section
variable {prog : Program} {w : World} {A : Around} {E : Value → Shared → Prop} {heap : Heap} {gens : Array GenState} {drawn : Drawn} {T : Nat} {os : OsState} {x y : Str} {t u : Tok} {Q : Value → Shared → Prop}
theorem addStr (hsz : x.length + y.length ≤ 16777216) (h : ∀ t' T', Q (.str (x ++ y) t') ⟨heap, gens, drawn, T', os⟩) : wpAny (model prog w) A (binaryOp .Add (.str x t) (.str y u)) Q E ⟨heap, gens, drawn, T, os⟩ :=
  SBL.add (fun t' k _ => h t' k) (by rw [sizeLine_eq]; exact hsz)
end
theorem len_app (x y : Str) : (x ++ y).length = x.length + y.length := by rw [← L_length, ← L_length, ← L_length, L_append, List.length_append]
theorem len_lit (s : String) : (Str.ofString s).length = s.toList.length := by rw [Str.ofString_eq_toList]; simp [PySem.Str.length]
noncomputable def QT : Tbl := [(39, [39, 34, 39, 34, 39])]
theorem rep_QT (x : Str) : Txt.replace x (Str.ofString "'") (Str.ofString "'\"'\"'") = Esc QT x := by
  have := Esc_snoc [] x (Str.ofString "'\"'\"'") (Str.ofString "'") 39 (by decide +kernel) (by decide +kernel)
  rw [Esc_nil] at this
  rw [this]; rfl
theorem QT_len (x : Str) : (Txt.replace x (Str.ofString "'") (Str.ofString "'\"'\"'")).length ≤ 5 * x.length := by
  rw [rep_QT]; exact Esc_len QT x 5 (by decide) (by decide +kernel)
noncomputable def quo (x : Str) : Str := if x.length = 0 then Str.ofString "''" else if safeT x = true then x else Str.ofString "'" ++ Esc QT x ++ Str.ofString "'"
end
section
open PySem PySem.W PySem.Spec PySem.Calls PyProof.Rows PySem.Builtin
/-- an empty deque -/
noncomputable abbrev deq : Obj := { cls := .type "collections.deque", data := .fields #[.none, .int 0 0] }
theorem slot_dq_init : Slot "collections.deque" "__init__" "collections.deque.__init__" :=
  Slot.of (owner := "collections.deque") (n := "__init__") (by rw [typeLookup_type, builtinLookup_eq_fast]; kernel_rfl) (by decide +kernel) (by decide +kernel) (by decide +kernel) (.inl (by decide +kernel)) (by rw [isSubtype_type]; kernel_rfl)
theorem mro_dq : mroOf (.type "collections.deque") = pure [.type "collections.deque", .type "object"] := by rw [mroOf_type]; kernel_rfl
theorem lookup_dq_new : typeLookup (.type "collections.deque") "__new__" = pure (some (.builtin "collections.deque.__new__")) := by rw [typeLookup_type, builtinLookup_eq_fast]; kernel_rfl
theorem called_dq : TypeCalled "collections.deque" "collections.deque.__new__" "collections.deque.__init__" :=
  ⟨by decide +kernel, by decide +kernel, ⟨_, _, mro_dq⟩, madeBy_type mro_dq lookup_dq_new (by decide +kernel), by decide +kernel, by rw [isSubtype_type]; kernel_rfl, slot_dq_init⟩
theorem typeCall_dq : checkTypeCall "collections.deque" ⟨[], []⟩ = pure () := by kernel_rfl
theorem newCall_dq : checkBuiltinCall "collections.deque.__new__" ⟨[.type "collections.deque"], []⟩ = pure () := by kernel_rfl
theorem entry_dq_new : entryFor table "collections.deque.__new__" = some Builtin.«collections.deque.__new__» := entryFor_of_tree (by kernel_rfl)
theorem entry_dq_init : entryFor table "collections.deque.__init__" = some Builtin.«collections.deque.__init__» := entryFor_of_tree (by kernel_rfl)
theorem initArgs_dq (obj : Value) : argsOk "collections.deque.__init__" ⟨[obj], []⟩ := by unfold argsOk; kernel_rfl
theorem new_dq : Meets (Builtin.«collections.deque.__new__» ⟨[.type "collections.deque"], []⟩) (fun _ R s => R (.ok (.ret (.ref s.heap.objs.size))) { s with heap := s.heap.push deq }) := by
  refine Meets.of_wp fun prog w A R s hs => ?_
  have e1 : Deque.newArgs Deque.ty ⟨[.type "collections.deque"], []⟩ = pure (.type "collections.deque", []) := by kernel_rfl
  unfold Builtin.«collections.deque.__new__»
  refine wpAny_bind (wpAny_of_eq e1 ?_)
  dsimp only
  refine wpAny_bind ?_
  unfold Deque.new
  dsimp only
  rw [if_neg (show ¬ (#[] : Array Value).size > sizeLine from Nat.not_lt_zero _)]
  have e2 : typeHasDict (.type "collections.deque") = false := by decide +kernel
  simp only [e2]
  rw [if_neg Bool.false_ne_true]
  refine wpAny_bind (wpAny_pure ?_)
  refine wpAny_newObj_type ?_ (by show (2:Nat) ≤ _; rw [sizeLine_eq]; decide)
  exact wpAny_pure ⟨_, rfl, hs⟩
theorem init_dq (a : Addr) : Meets (Builtin.«collections.deque.__init__» ⟨[.ref a], []⟩) (fun _ R s => s.heap.get? a = some deq ∧ ∀ h', Heap.SameBut a s.heap h' → h'.get? a = some deq → R (.ok (.ret .none)) { s with heap := h' }) := by
  refine Meets.of_wp fun prog w A R s hs => ?_
  obtain ⟨ha, hr⟩ := hs
  unfold Builtin.«collections.deque.__init__»
  show wpAny _ _ (setField (.ref a) 0 .none >>= fun _ => Deque.clear (.ref a) >>= fun _ => ret .none) _ _ _
  have hg : (s.heap.update a (Obj.mapFields (·.setIfInBounds 0 .none))).get? a = some deq := by
    exact Heap.get?_update_self _ ha rfl
  refine wpAny_bind (wpAny_setField ha rfl (by decide) ?_)
  refine wpAny_bind ?_
  unfold Deque.clear Deque.items
  refine wpAny_bind (wpAny_bind (wpAny_fieldsOf hg rfl (wpAny_pure ?_)))
  rw [if_neg (by decide)]
  refine wpAny_pure (wpAny_pure ⟨_, rfl, hr _ (Heap.SameBut.update _ _ _) hg⟩)
section
variable {prog : Program} {w : World} {A : Around} {E : Value → Shared → Prop} {s : Shared} {h₀ : Heap} {L : Addr} {m : Str → Option Value} {news : List (Addr × Obj)} {Q : Value → Shared → Prop}
theorem call_deque (F : Fr h₀ L s.heap m) (N : News h₀ L s.heap news) (h : ∀ d h', Fr h₀ L h' m → News h₀ L h' ((d, deq) :: news) → (∀ p ∈ news, p.1 < d) → Q (.ref d) { s with heap := h' }) :
    wpAny (model prog w) A (call (.type "collections.deque") []) Q E s := by
  refine callType_meets (Q₁ := fun obj s₁ => obj = .ref s.heap.objs.size ∧ s₁ = { s with heap := s.heap.push deq }) called_dq typeCall_dq newCall_dq entry_dq_new entry_dq_init new_dq ⟨rfl, rfl⟩ ?_
  rintro obj s₁ ⟨rfl, rfl⟩
  have hg : (s.heap.push deq).get? s.heap.objs.size = some deq := Heap.get?_push_size _ rfl
  refine ⟨⟨_, hg, rfl⟩, initArgs_dq _, _, init_dq _, hg, fun h' hs' hg' => ⟨rfl, ?_⟩⟩
  have F2 := F.push deq
  have N2 := N.push F deq
  have hL : @Ne Nat s.heap.objs.size L := Nat.ne_of_gt F.ns.lt
  have hn : h₀.get? s.heap.objs.size = none := next_is_new F
  refine h _ _ (F2.change hs' hL hn) (fun p hp => ?_) (fun p hp => Heap.lt_size (N p hp).1)
  rcases List.mem_cons.mp hp with rfl | hp
  · exact ⟨hg', hL, hn⟩
  · have z := N2 p (List.mem_cons_of_mem _ hp)
    exact ⟨hs'.extBut _ _ (Nat.ne_of_lt (Heap.lt_size (N p hp).1)) z.1, z.2⟩
end
end
section
open PySem PySem.W PySem.Spec PySem.Calls PyProof.Rows PySem.Builtin
theorem noBool_dq : typeLookup (.type "collections.deque") "__bool__" = pure none := by rw [typeLookup_type, builtinLookup_eq_fast]; kernel_rfl
theorem slot_dq_len : Slot "collections.deque" "__len__" "collections.deque.__len__" :=
  Slot.of (owner := "collections.deque") (n := "__len__") (by rw [typeLookup_type, builtinLookup_eq_fast]; kernel_rfl) (by decide +kernel) (by decide +kernel) (by decide +kernel) (.inl (by decide +kernel)) (by rw [isSubtype_type]; kernel_rfl)
theorem entry_dq_len : entryFor table "collections.deque.__len__" = some Builtin.«collections.deque.__len__» := entryFor_of_tree (by kernel_rfl)
theorem args_dq_len (a : Value) : argsOk "collections.deque.__len__" ⟨[a], []⟩ := by unfold argsOk; kernel_rfl
section
variable {prog : Program} {w : World} {A : Around} {E : Value → Shared → Prop} {s : Shared}
theorem dq_len_body {d : Addr} {Q : Value → Shared → Prop} (ho : s.heap.get? d = some deq)
    (h : ∀ t k, Q (.int 0 t) { s with toks := k }) : wpAny (model prog w) A (Builtin.«len» ⟨[.ref d], []⟩) (fun fin s' => ∃ r, fin = .done (.ret r) ∧ Q r s') E s := by
  have hT : s.TypeIs (.ref d) "collections.deque" := ⟨_, ho, rfl⟩
  unfold Builtin.«len»
  refine wpAny_bind (m := oneArg "len" _) (wpAny_pure ?_)
  refine wpAny_bind (m := callSpecial? (.ref d) (Str.ofString "__len__")) (wpAny_callSpecial?_slot (name := Str.ofString "__len__") hT slot_dq_len
    (wpAny_call_entry slot_dq_len hT entry_dq_len ?_ (args_dq_len _)))
  unfold Builtin.«collections.deque.__len__»
  have e1 : slotArgs "__len__" 0 ⟨[.ref d], []⟩ = pure (.ref d, []) := by kernel_rfl
  refine wpAny_bind (wpAny_of_eq e1 ?_)
  unfold Deque.size
  refine wpAny_bind (wpAny_bind (wpAny_fieldsOf ho rfl (wpAny_pure ?_)))
  refine wpAny_bind (wpAny_mkInt (wpAny_pure ⟨_, rfl, ?_⟩))
  refine wpAny_bind (wpAny_holding (wpAny_pure ?_))
  refine wpAny_bind (wpAny_letGo ?_)
  show wpAny _ _ (if (0 : Int) < 0 then _ else _) _ _ _
  rw [if_neg (by omega)]
  show wpAny _ _ (if (0 : Int) ≥ 2 ^ 63 then _ else _) _ _ _
  rw [if_neg (by omega)]
  exact wpAny_bind (wpAny_mkInt (wpAny_pure ⟨_, rfl, h _ _⟩))
theorem truthy_deq {d : Addr} {Q : Bool → Shared → Prop} (ho : s.heap.get? d = some deq) (h : ∀ k, Q false { s with toks := k }) : wpAny (model prog w) A (truthy (.ref d)) Q E s := by
  have hT : s.TypeIs (.ref d) "collections.deque" := ⟨_, ho, rfl⟩
  have key : wpAny (model prog w) A (runValue (.builtin "len" ⟨[.ref d], []⟩)) (fun r s' => (∃ t, r = .int 0 t) ∧ Q false s') E s := by
    refine wpAny_runValue (codeAny_builtin entry_len ?_)
    rw [Around.under_plainId plain_len _]
    exact wpAny_mono (dq_len_body (Q := fun r s' => (∃ t, r = .int 0 t) ∧ Q false s') ho fun t k => ⟨⟨t, rfl⟩, h k⟩)
      (fun fin s' h' => by obtain ⟨r, rfl, hq⟩ := h'; exact hq) fun _ _ e => e
  unfold truthy
  first
    | refine wpAny_bind (wpAny_callSpecial?_none (name := Str.ofString "__bool__") hT noBool_dq ?_)
    | refine wpAny_bind (wpAny_pure (wpAny_bind (wpAny_callSpecial?_none (name := Str.ofString "__bool__") hT noBool_dq ?_)))
  first
    | refine wpAny_bind (wpAny_specialOf (name := Str.ofString "__len__") hT slot_dq_len.lookup ?_)
    | refine wpAny_bind (wpAny_pure (wpAny_bind (wpAny_specialOf (name := Str.ofString "__len__") hT slot_dq_len.lookup ?_)))
  first
    | exact wpAny_bind (wpAny_mono key (fun r s' h' => by obtain ⟨⟨t, rfl⟩, hq⟩ := h'; exact wpAny_pure hq) fun _ _ e => e)
    | exact wpAny_bind (wpAny_pure (wpAny_bind (wpAny_mono key (fun r s' h' => by obtain ⟨⟨t, rfl⟩, hq⟩ := h'; exact wpAny_pure hq) fun _ _ e => e)))
end
end
section
open PySem PySem.W PySem.Spec PySem.Calls PyProof.Rows PySem.Builtin
section
variable {prog : Program} {w : World} {h : Heap}
theorem lk_made643 (X : (K w.params).In h) : Looks (model prog w) h (Bind.madeBy (.ref 643)) none := Looks.of_peek X (by kernel_rfl)
theorem lk_base643 (X : (K w.params).In h) : Looks (model prog w) h (Bind.staticBase (.ref 643)) (.type "object") := Looks.of_peek X (by kernel_rfl)
theorem lk_here643 (X : (K w.params).In h) : Looks (model prog w) h (Bind.madeHere "object.__new__" (.ref 643)) () := Looks.of_peek X (by kernel_rfl)
theorem lk_sub643 (X : (K w.params).In h) : Looks (model prog w) h (isSubtype (.ref 643) (.ref 643)) true := Looks.of_peek X (by kernel_rfl)
theorem lk_sub643o (X : (K w.params).In h) : Looks (model prog w) h (isSubtype (.ref 643) (.type "object")) true := Looks.of_peek X (by kernel_rfl)
theorem lk_call643 (X : (K w.params).In h) : Looks (model prog w) h (specialOf (.ref 643) "__call__") (some (.builtin "type.__call__")) := Looks.of_peek X (by kernel_rfl)
theorem lk_type643 (X : (K w.params).In h) : Looks (model prog w) h (isInstance (.ref 643) (.type "type")) true := Looks.of_peek X (by kernel_rfl)
theorem lk_isT643 (X : (K w.params).In h) : Looks (model prog w) h (isType (.ref 643)) true := Looks.of_peek X (by kernel_rfl)
theorem lk_init643 (X : (K w.params).In h) : Looks (model prog w) h (typeLookup (.ref 643) "__init__") (some (.ref 413)) := Looks.of_peek X (by kernel_rfl)
theorem lk_check643 (X : (K w.params).In h) : Looks (model prog w) h (checkBuiltinCall "object.__new__" ⟨[.ref 643], []⟩) () := Looks.of_peek X (by kernel_rfl)
end
section
variable {prog : Program} {w : World} {A : Around} {R : Result → Shared → Prop} {h : Heap} {g : Array GenState} {d : Drawn} {t : Nat} {os : OsState}
theorem new_sio (X : (K w.params).In h) (hq : R (.ok (.ret (.ref (h.objs.size + 1)))) ⟨(h.push emptyDict).push (instObj 643 h.objs.size), g, d, t, os⟩) :
    codeAny (model prog w) A (.call (.builtin "object.__new__") ⟨[.ref 643], []⟩) R ⟨h, g, d, t, os⟩ := by
  have F := PySem.F.objNew
  refine codeAny_call_builtin_code (Code.quiet_builtin _ F.quiet) ?_
  refine (lk_check643 X).at ?_
  refine codeAny_builtin F.entry ?_
  have h643 : h.get? 643 = some (o643 w.params) := X _ _ (by rfl)
  have l1 := lk_isT643 (prog := prog) X
  have l2 := lk_here643 (prog := prog) X
  unfold Builtin.«object.__new__»
  have fin : ∀ A', wpAny (model prog w) A' (do
      let d ← if typeHasDict (.ref 643) then some <$> alloc { cls := .type "dict", data := .dict #[] } else pure none
      ret (← newObj (.ref 643) .plain d)) (fun fin s' => match fin with | .done f => R (.ok f) s' | .again c' => c'.quiet = true ∧ codeAny (model prog w) A c' R s') (fun e s' => R (.error e) s') ⟨h, g, d, t, os⟩ := by
    intro A'
    show wpAny _ _ ((alloc emptyDict >>= fun x => pure (some x)) >>= _) _ _ _
    refine wpAny_bind (wpAny_bind (wpAny_alloc (wpAny_pure (wpAny_bind ?_))))
    show wpAny _ _ (newObjAsIs _ _ _) _ _ _
    unfold newObjAsIs classHasDel
    refine wpAny_bind (wpAny_alloc (wpAny_bind (wpAny_bind (wpAny_load (Heap.get?_push_of_some _ (Heap.get?_push_of_some _ h643)) (wpAny_pure ?_)))))
    show wpAny _ _ (if false = true then _ else _) _ _ _
    refine wpAny_pure (wpAny_pure ?_)
    show R _ _
    rw [Heap.size_push]
    exact hq
  dsimp only
  refine wpAny_bind (l1.at ?_)
  rw [if_neg (by decide)]
  refine wpAny_bind (l2.at ?_)
  rw [if_neg (by decide)]
  refine wpAny_bind ((looks_clsIn X (C := 643) rfl).at ?_)
  rw [if_neg (by exact Bool.false_ne_true)]
  exact fin _
end
end
section
open PySem PySem.W PySem.Spec PySem.Calls PyProof.Rows PySem.Builtin
section
variable {prog : Program} {w : World} {A : Around} {R : Result → Shared → Prop} {h : Heap} {g : Array GenState} {d : Drawn} {t : Nat} {os : OsState}
theorem lk_mro643 (X : (K w.params).In h) : Looks (model prog w) h (mroOf (.ref 643)) [Value.ref 643, .ref 166, .ref 139, .type "object"] := Looks.of_peek X (by kernel_rfl)
theorem get_new643 {E : Value → Shared → Prop} {Q : Value → Shared → Prop} {s : Shared} {expr : Bool} (X : (K w.params).In s.heap) (hq : Q (.ref 136) { s with toks := s.toks + 1 }) : wpAny (model prog w) A (getAttr (.ref 643) "__new__" expr) Q E s := by
  have e : findCls (K w.params) (.ref 643) (.type "type") "__new__" = some (.get (.builtin "staticmethod.__get__") (.ref 140) .none (.ref 643)) := by kernel_rfl
  exact cls_bind X (by kernel_rfl) e (wpAny_call (sm_get (s := { s with toks := s.toks + 1 }) X (f := .ref 136) (rest := []) (by kernel_rfl) (handed_on (by kernel_rfl) hq)))
theorem make_sio {rest : List Value} (X : (K w.params).In h) (Qn : Value → Shared → Prop)
    (hn : ∀ t', codeAny (model prog w) (A.under (.builtin "type.__call__" ⟨.ref 643 :: rest, []⟩)) (.call (.ref 136) ⟨.ref 643 :: rest, []⟩) (fun r s' => match r with | .ok (.ret v) => Qn v s' | .ok _ => False | .error e => R (.error e) s') ⟨h, g, d, t', os⟩)
    (hi : ∀ v s', Qn v s' → ∃ x dx, v = .ref x ∧ (K w.params).In s'.heap ∧ s'.heap.get? x = some (instObj 643 dx) ∧ codeAny (model prog w) (A.under (.builtin "type.__call__" ⟨.ref 643 :: rest, []⟩)) (.call (.ref 413) ⟨.ref x :: rest, []⟩) (InitBack x R) s') :
    codeAny (model prog w) A (.call (.ref 643) ⟨rest, []⟩) R ⟨h, g, d, t, os⟩ := by
  have h643 : h.get? 643 = some (o643 w.params) := X _ _ (by rfl)
  have call := lk_call643 (prog := prog) X
  have typ := lk_type643 (prog := prog) X
  refine codeAny_of_tree ?_
  show wpAny _ _ (callAny (.ref 643) _) _ _ _
  refine nd_load h643 ?_
  show wpAny _ _ (callAny.viaDunder (.ref 643) _) _ _ _
  unfold callAny.viaDunder
  refine wpAny_bind (call.at ?_)
  dsimp only
  rw [tc_bind]
  refine wpAny_bind (wpAny_pure (wpAny_bind (wpAny_pure ?_)))
  refine wpAny_pure (a := Fin.again (.call (.builtin "type.__call__") ⟨.ref 643 :: rest, []⟩)) (And.intro rfl ?_)
  refine codeAny_call_builtin_at (Code.quiet_builtin _ (by decide +kernel)) entry_typeCall (check_slot tc_kind tc_split typ (tc_args _ _ _) ?_)
  unfold Builtin.«type.__call__»
  have hm := lk_mro643 (prog := prog) X
  have made := lk_made643 (prog := prog) X
  dsimp only
  rw [if_neg (by decide)]
  refine wpAny_bind (hm.at ?_)
  rw [if_neg (by decide)]
  refine wpAny_bind (made.at ?_)
  dsimp only
  refine wpAny_bind ?_
  refine get_new643 X ?_
  refine wpAny_bind (wpAny_holding (wpAny_call (codeAny_mono (hn _) fun r s' hr => ?_)))
  rcases r with e | (v | _ | _ | _) <;> first | exact hr | exact hr.elim | skip
  obtain ⟨x, dx, rfl, X', hx, hin⟩ := hi _ _ hr
  have t1 : Looks (model prog w) s'.heap (typeOf (.ref x)) (.ref 643) := (Looks.ld hx).andThen .now
  have s1 : Looks (model prog w) s'.heap (isSubtype (.ref 643) (.ref 643)) true := lk_sub643 X'
  have i1 : Looks (model prog w) s'.heap (typeLookup (.ref 643) "__init__") (some (.ref 413)) := lk_init643 X'
  have b1 : Looks (model prog w) s'.heap (bindSpecial (.ref 413) (.ref x)) (.ref 413, [.ref x]) := bind_fn X' _ (by kernel_rfl)
  dsimp only
  obtain ⟨hh, gg, dd, tt, oo⟩ := s'
  unfold isInstance callSpecial? specialOf
  repeat (first | with_reducible refine wpAny_call ?_ | lk)
  refine codeAny_mono hin fun r s'' z => ?_
  rcases r with e | (v | _ | _ | _) <;> first | exact z | exact z.elim | skip
  obtain ⟨rfl, z⟩ := z
  exact wpAny_pure (wpAny_pure z)
end
end
section
open PySem PySem.W
example {M : Model} {A : Around} {v : Value} {Q : Bool → Shared → Prop} {E : Value → Shared → Prop} {s : Shared} (h : wpAny M A (truthy v) Q E s) : wpAny M A (truthy v) Q E s := by first | (walk1; fail) | exact h
end
section
open PySem PySem.W PySem.Spec PySem.Calls PyProof.Rows
set_option maxHeartbeats 4000000
/-- contracts of functions that change one object of the ledger -/
noncomputable def SpecU (w : World) (f : Addr) (D U : Nat) (args : List Value) (sd : Addr) (o : Obj) (pre : List (Addr × Obj) → Prop) (o' : Tok → Obj) (V : Tok → Value) : Prop :=
  ∀ (dp un : Nat) (gd : Option (List Code)) (cn : Str) (cs : Scope) (a : Addr) (ccd : Value) (cl : List (Str × Addr)) (outer : List Env) (A₀ : Around) (base h₀ : Heap) (L : Addr) (m mg mb : Str → Option Value) (mean : ExcName → Option Value) (rest : List (Addr × Obj)) (s : Shared)
    (Q E : Value → Shared → Prop),
    Below A₀ base outer h₀ → Fr h₀ L s.heap m → (K w.params).In h₀ → News h₀ L s.heap ((sd, o) :: rest) → (∀ p ∈ rest, p.1 ≠ sd) → Top q (looseW q loose) mean mg mb h₀ → cs.kind = .function → dp + D < recursionLimit → un + U < cLine → pre rest →
    (∀ (t t2 : Tok) h' tk', Fr h₀ L h' m → News h₀ L h' ((sd, o' t2) :: rest) → Q (V t) { s with heap := h', toks := tk' }) →
    wpAny (model PySem.Challenge.pw_kt0081_01 w) (ktrTop dp un gd cn cs L a ccd cl outer) (call (.ref f) args) Q E s
section
variable {w : World} {name qual : Str} {params : Arguments} {body : List Stmt} {scope : Scope} {dV kV pm cdv : Value} {f : Addr} {args : List Value} {kw : List (Str × Value)} {binds : List (Str × Value)} {src : Option (Arguments × List Stmt × Scope)} {D U : Nat}
theorem enterU {pre : List (Addr × Obj) → Prop} {V : Tok → Value} {sd : Addr} {o : Obj} {o' : Tok → Obj} (ho : (K w.params).lookup f = some (foOf src name qual dV kV pm cdv)) (hsrc : src = some (params, body, scope)) (hcd : codeIn (K w.params) cdv qual = true)
    (hbind : ∀ s' : Shared, (K w.params).In s'.heap → BindsTo s' (fnOf name qual params body scope dV kV .none pm none cdv .none) ⟨args, []⟩ binds) (hloc : ∀ y ∈ binds, scope.names.lookup y.1 = some .local)
    (hco : scope.isCoroutine = false) (hgen : scope.isGenerator = false) (hkf : scope.kind = .function) (hcell : ∀ x ∈ scope.names, x.2 ≠ .cell)
    (h : ∀ (dp un : Nat) (gd : Option (List Code)) (cn : Str) (cs : Scope) (a : Addr) (ccd : Value) (cl : List (Str × Addr)) (outer : List Env) (base g : Heap) (L L' : Addr) (mg mb : Str → Option Value) (mean : ExcName → Option Value) (news : List (Addr × Obj)) (gens : Array GenState) (drawn : Drawn) (os : OsState) (h' : Heap) (tk : Nat) (WQ : Flow → Shared → Prop) (WE : Value → Shared → Prop),
      Below (ktrTop dp un gd cn cs L a ccd cl outer) base (envX cn cs L a ccd cl :: outer) g → Fr g L' h' (fun y => binds.reverse.lookup y) → (K w.params).In g → News g L' h' ((sd, o) :: news) → (∀ p ∈ news, p.1 ≠ sd) → Top q (looseW q loose) mean mg mb g → dp + D < recursionLimit → un + U < cLine → pre news →
      (∀ (t t2 : Tok) h' tk' {m'}, Fr g L' h' m' → News g L' h' ((sd, o' t2) :: news) → WQ (.ret (V t)) ⟨h', gens, drawn, tk', os⟩) → binds.length ≤ tk → PassesOwn (model PySem.Challenge.pw_kt0081_01 w) ((ktrTop dp un gd cn cs L a ccd cl outer).deeper (envOf qual scope L' f cdv)) (envOf qual scope L' f cdv) WE →
      wpAny (model PySem.Challenge.pw_kt0081_01 w) ((ktrTop dp un gd cn cs L a ccd cl outer).deeper (envOf qual scope L' f cdv)) (execs body (envOf qual scope L' f cdv)) WQ WE ⟨h', gens, drawn, tk, os⟩) : SpecU w f D U args sd o pre o' V := by
  intro dp un gd cn cs a ccd cl outer A₀ base h₀ L m mg mb mean news s Q E B F X N hn T hk hd hu hp ret
  exact enterQ ho hsrc hcd hbind hloc hco hgen hkf hcell B F X N T hk (Nat.lt_of_le_of_lt (Nat.le_add_right _ _) hd) fun g h' L' tk WQ WE B' F' X' N' T' hr ht hPO => h _ _ _ _ _ _ _ _ _ _ _ _ _ _ _ _ _ _ _ _ _ _ _ _ B' F' X' N' hn T' hd hu hp (fun t t2 h' tk' m' F N => hr (fun F N => ret t t2 _ _ F N) F N) ht hPO
end
section
variable {h₀ h : Heap} {L : Addr} {p a b c d e : Addr × Obj} {r : List (Addr × Obj)}
theorem front0 (N : News h₀ L h (p :: r)) : News h₀ L h (p :: r) := N
theorem front1 (N : News h₀ L h (a :: p :: r)) : News h₀ L h (p :: a :: r) := newsPick (want := [p, a]) [a, p] [1, 0] N rfl
theorem front2 (N : News h₀ L h (a :: b :: p :: r)) : News h₀ L h (p :: a :: b :: r) := newsPick (want := [p, a, b]) [a, b, p] [2, 0, 1] N rfl
theorem front3 (N : News h₀ L h (a :: b :: c :: p :: r)) : News h₀ L h (p :: a :: b :: c :: r) := newsPick (want := [p, a, b, c]) [a, b, c, p] [3, 0, 1, 2] N rfl
theorem front4 (N : News h₀ L h (a :: b :: c :: d :: p :: r)) : News h₀ L h (p :: a :: b :: c :: d :: r) := newsPick (want := [p, a, b, c, d]) [a, b, c, d, p] [4, 0, 1, 2, 3] N rfl
end
section
variable {w : World} {f : Addr} {D U : Nat} {args : List Value} {sd : Addr} {o : Obj} {pre : List (Addr × Obj) → Prop} {o' : Tok → Obj} {V : Tok → Value}
  {dp un : Nat} {gd : Option (List Code)} {cn : Str} {cs : Scope} {a : Addr} {ccd : Value} {cl : List (Str × Addr)} {outer : List Env} {A₀ : Around} {base h₀ : Heap} {L : Addr} {m mg mb : Str → Option Value} {mean : ExcName → Option Value} {rest : List (Addr × Obj)} {s : Shared} {Q E : Value → Shared → Prop}
theorem SpecU.use (h : SpecU w f D U args sd o pre o' V) (B : Below A₀ base outer h₀) (F : Fr h₀ L s.heap m) (X : (K w.params).In h₀) (N : News h₀ L s.heap ((sd, o) :: rest)) (hne : ∀ p ∈ rest, p.1 ≠ sd) (T : Top q (looseW q loose) mean mg mb h₀) (hk : cs.kind = .function) (hd : dp + D < recursionLimit) (hu : un + U < cLine) (hp : pre rest)
    (ret : ∀ (t t2 : Tok) h' tk', Fr h₀ L h' m → News h₀ L h' ((sd, o' t2) :: rest) → Q (V t) { s with heap := h', toks := tk' }) :
    wpAny (model PySem.Challenge.pw_kt0081_01 w) (ktrTop dp un gd cn cs L a ccd cl outer) (call (.ref f) args) Q E s := h _ _ _ _ _ _ _ _ _ _ _ _ _ _ _ _ _ _ _ _ _ B F X N hne T hk hd hu hp ret
theorem SpecU.go {heap : Heap} {gens : Array GenState} {drawn : Drawn} {T₀ : Nat} {os : OsState} (h : SpecU w f D U args sd o pre o' V)
    (ret : ∀ (t t2 : Tok) h' tk', Fr h₀ L h' m → News h₀ L h' ((sd, o' t2) :: rest) → Q (V t) ⟨h', gens, drawn, tk', os⟩) (B : Below A₀ base outer h₀ := by k_asm) (F : Fr h₀ L heap m := by k_asm) (X : (K w.params).In h₀ := by k_asm) (N : News h₀ L heap ((sd, o) :: rest) := by first | with_reducible exact front0 (by with_reducible assumption) | with_reducible exact front1 (by with_reducible assumption) | with_reducible exact front2 (by with_reducible assumption) | with_reducible exact front3 (by with_reducible assumption) | with_reducible exact front4 (by with_reducible assumption)) (hne : ∀ p ∈ rest, p.1 ≠ sd := by k_all) (T : Top q (looseW q loose) mean mg mb h₀ := by k_asm) (hk : cs.kind = .function := by exact rfl) (hd : dp + D < recursionLimit := by first | exact room_any (by assumption) rfl | exact room_same (by assumption) rfl | decide +kernel) (hu : un + U < cLine := by first | exact room_any (by assumption) rfl | exact room_same (by assumption) rfl | decide +kernel) (hp : pre rest := by first | trivial | k_mem) :
    wpAny (model PySem.Challenge.pw_kt0081_01 w) (ktrTop dp un gd cn cs L a ccd cl outer) (call (.ref f) args) Q E ⟨heap, gens, drawn, T₀, os⟩ := SpecU.use (s := ⟨heap, gens, drawn, T₀, os⟩) h B F X N hne T hk hd hu hp ret
end

open PySem.Builtin PySem.Builtin.Str in
theorem gives_find4 (x y : Str) (p : Nat) (t u v z : Tok) : Gives (Builtin.«str.find» ⟨[.str x t, .str y u, .int (p : Int) v, .int (x.length : Int) z], []⟩) (.int (match occurrences x y p x.length 1 with | k :: _ => (k : Int) | [] => -1)) := by
  show Gives (match occurrences x y (fromIndex x.length (p : Int)) (min (fromIndex x.length (x.length : Int)) x.length) 1 with | k :: _ => retInt k | [] => (do rule "str.find.not-found"; retInt (-1))) _
  have e0 : ∀ n : Nat, fromIndex x.length (n : Int) = n := fun n => by unfold fromIndex; rw [if_neg (Int.not_lt.mpr (Int.natCast_nonneg n)), Int.max_eq_right (Int.natCast_nonneg n)]; rfl
  have e1 : fromIndex x.length (p : Int) = p := e0 p
  have e2 : min (fromIndex x.length (x.length : Int)) x.length = x.length := by rw [e0, Nat.min_self]
  rw [e1, e2]
  cases occurrences x y p x.length 1 with
  | nil => exact .rule (.of_eq rfl)
  | cons k _ => exact .of_eq rfl
section
variable {prog : Program} {w : World} {A : Around} {E : Value → Shared → Prop} {heap : Heap} {gens : Array GenState} {drawn : Drawn} {T : Nat} {os : OsState} {x : Str} {p : Nat} {t u v z : Tok} {Q : Value → Shared → Prop}
theorem find4 (hq : ∀ t' T', Q (.int (nlAt x p) t') ⟨heap, gens, drawn, T', os⟩) : wpAny (model prog w) A (call (.builtin "str.find") [.str x t, .str (Str.ofString "\n") u, .int (p : Int) v, .int (x.length : Int) z]) Q E ⟨heap, gens, drawn, T, os⟩ :=
  call_gives F.slot_str_find (typeIs_str _ _ _) F.entry_str_find (F.args_str_find_4 _ _ _ _) (gives_find4 x _ p t u v z) (hq _ _)
end
theorem turnS {prog : Program} {w : World} {A : Around} {E : Value → Shared → Prop} {s : Shared} {value slice : PySem.Expr} {o i : Value} {Q : Value → Shared → Prop} (h : wpAny (model prog w) A (subscriptTail (PySem.Expr.Name (PySem.Str.ofString "_") ⟨0, 0, 0, 0⟩) slice o i) Q E s) : wpAny (model prog w) A (subscriptTail value slice o i) Q E s := kba_turn (fun _ => rfl) h
local macro_rules | `(tactic| walk_at "subscriptTail Attribute") => `(tactic| with_reducible refine turnS ?_)
local macro_rules | `(tactic| walk_at "subscriptTail BinOp") => `(tactic| with_reducible refine turnS ?_)
theorem sp_index (w : World) (i : Int) (u ty : Tok) (y : Str) (h0 : -1000 ≤ i) (h1 : i ≤ 1000) : SpecV w 109 1 8 [.int i u, .str y ty] (fun t => .int i u) := by
  refine' enterP (binds := [("n", .int i u), ("what", .str y ty)]) ?k6 ?ks ?k7 ?k9 ?kB ?c2 ?c3 ?c4 ?c5 ?_
  case k6 => k_dflt k_is
  case ks => exact rfl
  case k7 => k_dflt k_is
  case k9 => intro s X; exact BindsTo.of_eq rfl
  case c5 => decide
  case kB => exact locs rfl
  case c2 => exact rfl
  case c3 => exact rfl
  case c4 => exact rfl
  intro dp un gd cn cs a ccd cl outer base g' L L' mg mb mean news gens drawn os h' tk' WQ WE B' F' X' N' T' hd hu hpre hret htk' hPO
  simp only [List.reverse_cons, List.reverse_nil, List.nil_append, List.cons_append, lookF, lookE] at F'
  show (let zV := _; let zA := _; wpAny _ zA (execs _ zV) _ _ _)
  intro zV zA
  k_steps
  all_goals first | (exfalso; omega) | skip
  all_goals exact hret 0 _ _ (by with_reducible assumption) (by with_reducible assumption)
theorem sp_check (w : World) (sx sd : Addr) (a0 a1 a2 : Int) (t0 t1 t2 v0 tx v2 : Tok) (x : Str) (p : Nat) : SpecP w 427 1 8 [.ref sx] (fun news => (sx, instObj 643 sd) ∈ news ∧ (sd, (dictOf [⟨a0, .str "_StringIO__newline" t0, .str (Str.ofString "\n") v0⟩, ⟨a1, .str "_StringIO__buf" t1, .str x tx⟩, ⟨a2, .str "_StringIO__pos" t2, .int p v2⟩] (nat_lit 3))) ∈ news) (fun t => .none) := by
  refine' enterN (binds := [("self", .ref sx)]) ?k6 ?ks ?k7 ?k9 ?kB ?c2 ?c3 ?c4 ?c5 ?_
  case k6 => k_dflt k_is
  case ks => exact rfl
  case k7 => k_dflt k_is
  case k9 => intro s X; exact BindsTo.of_eq rfl
  case c5 => decide
  case kB => exact locs rfl
  case c2 => exact rfl
  case c3 => exact rfl
  case c4 => exact rfl
  intro dp un gd cn cs a ccd cl outer base g' L L' mg mb mean news gens drawn os h' tk' WQ WE B' F' X' N' T' hd hu hpre hret htk' hPO
  simp only [List.reverse_cons, List.reverse_nil, List.nil_append, List.cons_append, lookF, lookE] at F'
  show (let zV := _; let zA := _; wpAny _ zA (execs _ zV) _ _ _)
  intro zV zA
  obtain ⟨hp1, hp2⟩ := hpre
  k_steps
  all_goals exact hret _ _ (by with_reducible assumption) (by with_reducible assumption)
local macro_rules | `(tactic| k_all) => `(tactic| with_reducible assumption)
theorem sp_read (w : World) (sx sd : Addr) (u : Tok) (a0 a1 a2 : Int) (t0 t1 t2 v0 tx v2 : Tok) (x : Str) (p : Nat) (hx : x.length ≤ 100000) (hp : p < x.length) : SpecU w 589 4 20 [.ref sx, .int 1 u] sd (dictOf [⟨a0, .str "_StringIO__newline" t0, .str (Str.ofString "\n") v0⟩, ⟨a1, .str "_StringIO__buf" t1, .str x tx⟩, ⟨a2, .str "_StringIO__pos" t2, .int p v2⟩] (nat_lit 3)) (fun rest => (sx, instObj 643 sd) ∈ rest) (fun v2 => (dictOf [⟨a0, .str "_StringIO__newline" t0, .str (Str.ofString "\n") v0⟩, ⟨a1, .str "_StringIO__buf" t1, .str x tx⟩, ⟨a2, .str "_StringIO__pos" t2, .int ((p + 1 : Nat) : Int) v2⟩] (nat_lit 3))) (fun t => .str (one x p) t) := by
  refine' enterU (binds := [("self", .ref sx), ("size", .int 1 u)]) ?k6 ?ks ?k7 ?k9 ?kB ?c2 ?c3 ?c4 ?c5 ?_
  case k6 => k_dflt k_is
  case ks => exact rfl
  case k7 => k_dflt k_is
  case k9 => intro s X; exact binds_K (by k_in) rfl (by k_dflt k_is) rfl rfl rfl
  case c5 => decide
  case kB => exact locs rfl
  case c2 => exact rfl
  case c3 => exact rfl
  case c4 => exact rfl
  intro dp un gd cn cs a ccd cl outer base g' L L' mg mb mean rest gens drawn os h' tk' WQ WE B' F' X' N' hne T' hd hu hpre hret htk' hPO
  simp only [List.reverse_cons, List.reverse_nil, List.nil_append, List.cons_append, lookF, lookE] at F'
  show (let zV := _; let zA := _; wpAny _ zA (execs _ zV) _ _ _)
  intro zV zA
  (k_steps; repeat' (first | (((with_reducible show wpAny _ _ (call (Value.ref 109) _) _ _ _); k_dflt (refine' SpecP.go (sp_index _ _ _ _ _ (by decide) (by decide)) ?_); intro z9t' z9h' z9tk' z9F' z9N'; (try dsimp only); (try k_sweep)); all_goals (try k_steps)) | (((with_reducible show wpAny _ _ (call (Value.ref 427) _) _ _ _); k_dflt (refine' SpecP.go (sp_check _ _ _ _ _ _ _ _ _ _ _ _ _ _) ?_); intro z9t' z9h' z9tk' z9F' z9N'; (try dsimp only); (try k_sweep)); all_goals (try k_steps))))
  all_goals first | (exfalso; omega) | skip
  · (with_reducible rename News g' L' _ _ => zN)
    have e : ((p : Int) + 1) = ((p + 1 : Nat) : Int) := by omega
    rw [e] at zN ⊢
    rw [slice_one x hp]
    exact hret _ _ _ _ (by with_reducible assumption) zN
  · (with_reducible rename News g' L' _ _ => zN)
    have e : (x.length : Int) = ((p + 1 : Nat) : Int) := by omega
    rw [e] at zN ⊢
    rw [slice_one x hp]
    exact hret _ _ _ _ (by with_reducible assumption) zN
theorem sp_read_end (w : World) (sx sd : Addr) (u : Tok) (a0 a1 a2 : Int) (t0 t1 t2 v0 tx v2 : Tok) (x : Str) (p : Nat) (hx : x.length ≤ 100000) (hp : x.length ≤ p) : SpecU w 589 4 20 [.ref sx, .int 1 u] sd (dictOf [⟨a0, .str "_StringIO__newline" t0, .str (Str.ofString "\n") v0⟩, ⟨a1, .str "_StringIO__buf" t1, .str x tx⟩, ⟨a2, .str "_StringIO__pos" t2, .int p v2⟩] (nat_lit 3)) (fun rest => (sx, instObj 643 sd) ∈ rest) (fun v2 => (dictOf [⟨a0, .str "_StringIO__newline" t0, .str (Str.ofString "\n") v0⟩, ⟨a1, .str "_StringIO__buf" t1, .str x tx⟩, ⟨a2, .str "_StringIO__pos" t2, .int p v2⟩] (nat_lit 3))) (fun t => .str (Str.ofString "") t) := by
  refine' enterU (binds := [("self", .ref sx), ("size", .int 1 u)]) ?k6 ?ks ?k7 ?k9 ?kB ?c2 ?c3 ?c4 ?c5 ?_
  case k6 => k_dflt k_is
  case ks => exact rfl
  case k7 => k_dflt k_is
  case k9 => intro s X; exact binds_K (by k_in) rfl (by k_dflt k_is) rfl rfl rfl
  case c5 => decide
  case kB => exact locs rfl
  case c2 => exact rfl
  case c3 => exact rfl
  case c4 => exact rfl
  intro dp un gd cn cs a ccd cl outer base g' L L' mg mb mean rest gens drawn os h' tk' WQ WE B' F' X' N' hne T' hd hu hpre hret htk' hPO
  simp only [List.reverse_cons, List.reverse_nil, List.nil_append, List.cons_append, lookF, lookE] at F'
  show (let zV := _; let zA := _; wpAny _ zA (execs _ zV) _ _ _)
  intro zV zA
  (k_steps; repeat' (first | (((with_reducible show wpAny _ _ (call (Value.ref 109) _) _ _ _); k_dflt (refine' SpecP.go (sp_index _ _ _ _ _ (by decide) (by decide)) ?_); intro z9t' z9h' z9tk' z9F' z9N'; (try dsimp only); (try k_sweep)); all_goals (try k_steps)) | (((with_reducible show wpAny _ _ (call (Value.ref 427) _) _ _ _); k_dflt (refine' SpecP.go (sp_check _ _ _ _ _ _ _ _ _ _ _ _ _ _) ?_); intro z9t' z9h' z9tk' z9F' z9N'; (try dsimp only); (try k_sweep)); all_goals (try k_steps))))
  all_goals first | (exfalso; omega) | skip
  all_goals exact hret _ v2 _ _ (by with_reducible assumption) (by with_reducible assumption)
theorem sp_line_found (w : World) (sx sd : Addr) (u : Tok) (a0 a1 a2 : Int) (t0 t1 t2 v0 tx v2 : Tok) (x : Str) (p : Nat) (q : Nat) (hx : x.length ≤ 100000) (hp : p < x.length) (hq : nlAt x p = (q : Int)) : SpecU w 441 1 8 [.ref sx, .int (-1) u] sd (dictOf [⟨a0, .str "_StringIO__newline" t0, .str (Str.ofString "\n") v0⟩, ⟨a1, .str "_StringIO__buf" t1, .str x tx⟩, ⟨a2, .str "_StringIO__pos" t2, .int p v2⟩] (nat_lit 3)) (fun rest => (sx, instObj 643 sd) ∈ rest) (fun v2 => (dictOf [⟨a0, .str "_StringIO__newline" t0, .str (Str.ofString "\n") v0⟩, ⟨a1, .str "_StringIO__buf" t1, .str x tx⟩, ⟨a2, .str "_StringIO__pos" t2, .int ((q + 1 : Nat) : Int) v2⟩] (nat_lit 3))) (fun t => .str (Txt.slice (Txt.slice x (some (p : Int)) (some ((q + 1 : Nat) : Int)) ++ Str.ofString " ") none (some (-1))) t) := by
  refine' enterU (binds := [("self", .ref sx), ("limit", .int (-1) u)]) ?k6 ?ks ?k7 ?k9 ?kB ?c2 ?c3 ?c4 ?c5 ?_
  case k6 => k_dflt k_is
  case ks => exact rfl
  case k7 => k_dflt k_is
  case k9 => intro s X; exact BindsTo.of_eq rfl
  case c5 => decide
  case kB => exact locs rfl
  case c2 => exact rfl
  case c3 => exact rfl
  case c4 => exact rfl
  intro dp un gd cn cs a ccd cl outer base g' L L' mg mb mean rest gens drawn os h' tk' WQ WE B' F' X' N' hne T' hd hu hpre hret htk' hPO
  simp only [List.reverse_cons, List.reverse_nil, List.nil_append, List.cons_append, lookF, lookE] at F'
  show (let zV := _; let zA := _; wpAny _ zA (execs _ zV) _ _ _)
  intro zV zA
  (k_steps; repeat' ((k_dflt (refine find4 ?_); intro z9tt' z9tk'; (try dsimp only)); all_goals (try k_steps)))
  all_goals first | (exfalso; omega) | skip
  all_goals (with_reducible rename News g' L' _ _ => zN)
  all_goals have e : nlAt x p + ((1 : Nat) : Int) = ((q + 1 : Nat) : Int) := by omega
  all_goals rw [e] at zN ⊢
  all_goals exact hret _ _ _ _ (by with_reducible assumption) zN
theorem sp_line_none (w : World) (sx sd : Addr) (u : Tok) (a0 a1 a2 : Int) (t0 t1 t2 v0 tx v2 : Tok) (x : Str) (p : Nat) (hx : x.length ≤ 100000) (hp : p < x.length) (hq : nlAt x p = -1) : SpecU w 441 1 8 [.ref sx, .int (-1) u] sd (dictOf [⟨a0, .str "_StringIO__newline" t0, .str (Str.ofString "\n") v0⟩, ⟨a1, .str "_StringIO__buf" t1, .str x tx⟩, ⟨a2, .str "_StringIO__pos" t2, .int p v2⟩] (nat_lit 3)) (fun rest => (sx, instObj 643 sd) ∈ rest) (fun v2 => (dictOf [⟨a0, .str "_StringIO__newline" t0, .str (Str.ofString "\n") v0⟩, ⟨a1, .str "_StringIO__buf" t1, .str x tx⟩, ⟨a2, .str "_StringIO__pos" t2, .int (x.length : Int) v2⟩] (nat_lit 3))) (fun t => .str (Txt.slice (Txt.slice x (some (p : Int)) (some (x.length : Int)) ++ Str.ofString " ") none (some (-1))) t) := by
  refine' enterU (binds := [("self", .ref sx), ("limit", .int (-1) u)]) ?k6 ?ks ?k7 ?k9 ?kB ?c2 ?c3 ?c4 ?c5 ?_
  case k6 => k_dflt k_is
  case ks => exact rfl
  case k7 => k_dflt k_is
  case k9 => intro s X; exact BindsTo.of_eq rfl
  case c5 => decide
  case kB => exact locs rfl
  case c2 => exact rfl
  case c3 => exact rfl
  case c4 => exact rfl
  intro dp un gd cn cs a ccd cl outer base g' L L' mg mb mean rest gens drawn os h' tk' WQ WE B' F' X' N' hne T' hd hu hpre hret htk' hPO
  simp only [List.reverse_cons, List.reverse_nil, List.nil_append, List.cons_append, lookF, lookE] at F'
  show (let zV := _; let zA := _; wpAny _ zA (execs _ zV) _ _ _)
  intro zV zA
  (k_steps; repeat' ((k_dflt (refine find4 ?_); intro z9tt' z9tk'; (try dsimp only)); all_goals (try k_steps)))
  all_goals first | (exfalso; omega) | skip
  all_goals exact hret _ _ _ _ (by with_reducible assumption) (by with_reducible assumption)
end
section
open PySem PySem.W
example {M : Model} {A : Around} {v : Value} {Q : Bool → Shared → Prop} {E : Value → Shared → Prop} {s : Shared} (h : wpAny M A (truthy v) Q E s) : wpAny M A (truthy v) Q E s := by first | (walk1; fail) | exact h
end
section
open PySem PySem.W PySem.Spec PySem.Calls PyProof.Rows
set_option maxHeartbeats 4000000
/-- a contract of what makes objects: led tells what the ledger gets in front -/
noncomputable def SpecM (w : World) (f : Value) (D U : Nat) (args : List Value) (kw : List (Str × Value)) (led : List (Addr × Obj) → Value → Prop) : Prop :=
  ∀ (dp un : Nat) (gd : Option (List Code)) (cn : Str) (cs : Scope) (a : Addr) (ccd : Value) (cl : List (Str × Addr)) (outer : List Env) (A₀ : Around) (base h₀ : Heap) (L : Addr) (m mg mb : Str → Option Value) (mean : ExcName → Option Value) (news : List (Addr × Obj)) (s : Shared)
    (Q E : Value → Shared → Prop),
    Below A₀ base outer h₀ → Fr h₀ L s.heap m → (K w.params).In h₀ → News h₀ L s.heap news → Top q (looseW q loose) mean mg mb h₀ → cs.kind = .function → dp + D < recursionLimit → un + U < cLine →
    (∀ (pre : List (Addr × Obj)) (v : Value) h' tk', led pre v → Fr h₀ L h' m → News h₀ L h' (pre ++ news) → (∀ p ∈ pre, ∀ p' ∈ news, p'.1 < p.1) → Q v { s with heap := h', toks := tk' }) →
    wpAny (model PySem.Challenge.pw_kt0081_01 w) (ktrTop dp un gd cn cs L a ccd cl outer) (call f args kw) Q E s
theorem roomX {dp b : Nat} (h : dp + 5 < b) : dp + 3 < b := by omega
theorem unitX {un b : Nat} (h : un + 20 < b) : un + 12 < b := by omega
theorem sp_translated (w : World) (sx sd : Addr) (y : Str) (ty : Tok) (a0 a1 a2 : Int) (t0 t1 t2 v0 tx v2 : Tok) (x : Str) (p : Int) : SpecP w 420 1 8 [.ref sx, .str y ty] (fun news => (sx, instObj 643 sd) ∈ news ∧ (sd, (dictOf [⟨a0, .str "_StringIO__newline" t0, .str (Str.ofString "\n") v0⟩, ⟨a1, .str "_StringIO__buf" t1, .str x tx⟩, ⟨a2, .str "_StringIO__pos" t2, .int p v2⟩] (nat_lit 3))) ∈ news) (fun t => .str y ty) := by
  refine' enterP (binds := [("self", .ref sx), ("s", .str y ty)]) ?k6 ?ks ?k7 ?k9 ?kB ?c2 ?c3 ?c4 ?c5 ?_
  case k6 => k_dflt k_is
  case ks => exact rfl
  case k7 => k_dflt k_is
  case k9 => intro s X; exact BindsTo.of_eq rfl
  case c5 => decide
  case kB => exact locs rfl
  case c2 => exact rfl
  case c3 => exact rfl
  case c4 => exact rfl
  intro dp un gd cn cs a ccd cl outer base g' L L' mg mb mean news gens drawn os h' tk' WQ WE B' F' X' N' T' hd hu hpre hret htk' hPO
  simp only [List.reverse_cons, List.reverse_nil, List.nil_append, List.cons_append, lookF, lookE] at F'
  show (let zV := _; let zA := _; wpAny _ zA (execs _ zV) _ _ _)
  intro zV zA
  obtain ⟨hp1, hp2⟩ := hpre
  k_steps
  all_goals exact hret 0 _ _ (by with_reducible assumption) (by with_reducible assumption)
section
variable {prog : Program} {w : World} {A : Around} {E : Value → Shared → Prop} {s : Shared} {h₀ : Heap} {L : Addr} {m : Str → Option Value} {news : List (Addr × Obj)} {Q : Value → Shared → Prop}
theorem call_new_sio (X : (K w.params).In h₀) (F : Fr h₀ L s.heap m) (N : News h₀ L s.heap news) (h : ∀ y dx h', Fr h₀ L h' m → News h₀ L h' ((y, instObj 643 dx) :: (dx, emptyDict) :: news) → (∀ p ∈ news, p.1 < dx) → dx < y → Q (.ref y) { s with heap := h' }) :
    wpAny (model prog w) A (call (.builtin "object.__new__") [.ref 643]) Q E s := by
  obtain ⟨hh, g, d, t, os⟩ := s
  refine wpAny_call (new_sio (X.keeps F.keep) (h _ hh.objs.size _ ((F.push _).push _) ?_ (fun p hp => Heap.lt_size (N p hp).1) (Nat.lt_succ_self _)))
  have := (N.push F emptyDict).push (F.push _) (instObj 643 hh.objs.size)
  rwa [Heap.size_push] at this
end
noncomputable def MadeSio (h₀ : Heap) (L : Addr) (m : Str → Option Value) (news : List (Addr × Obj)) (gg : Array GenState) (dd : Drawn) (oo : OsState) (v : Value) (s' : Shared) : Prop :=
  ∃ y dx h' t', v = .ref y ∧ s' = ⟨h', gg, dd, t', oo⟩ ∧ Fr h₀ L h' m ∧ News h₀ L h' ((y, instObj 643 dx) :: (dx, emptyDict) :: news) ∧ (∀ p ∈ news, p.1 < dx) ∧ dx < y
theorem madeSio_of {h₀ h' : Heap} {L : Addr} {m : Str → Option Value} {news : List (Addr × Obj)} {gg : Array GenState} {dd : Drawn} {oo : OsState} {y dx : Addr} {b c : Addr × Obj} {t' : Nat} (F : Fr h₀ L h' m) (N : News h₀ L h' ((y, instObj 643 dx) :: (dx, emptyDict) :: b :: c :: news)) (l1 : ∀ p ∈ news, p.1 < dx) (l2 : dx < y) :
    MadeSio h₀ L m news gg dd oo (.ref y) ⟨h', gg, dd, t', oo⟩ :=
  ⟨_, _, _, _, rfl, rfl, F, newsPick (want := [_, _]) [_, _, b, c] [0, 1] N rfl, l1, l2⟩
/-- what a new StringIO is -/
inductive SioMade (x : Str) (tx : Tok) : List (Addr × Obj) → Value → Prop
  | mk (sx sd : Addr) (a0 a1 a2 : Int) (t0 t1 t2 v0 v2 : Tok) (h : sd < sx) : SioMade x tx [(sx, instObj 643 sd), (sd, (dictOf [⟨a0, .str "_StringIO__newline" t0, .str (Str.ofString "\n") v0⟩, ⟨a1, .str "_StringIO__buf" t1, .str x tx⟩, ⟨a2, .str "_StringIO__pos" t2, .int ((0 : Nat) : Int) v2⟩] (nat_lit 3)))] (.ref sx)
theorem sp_sio (w : World) (x : Str) (tx : Tok) : SpecM w (.ref 643) 5 20 [.str x tx] [] (SioMade x tx) := by
  unfold SpecM
  intro dp un gd cn cs a ccd cl outer A₀ base h₀ L m mg mb mean news s Q E B F X N T hk hd hu hret
  obtain ⟨hh, gg, dd, tt, oo⟩ := s
  refine wpAny_call (make_sio (X.keeps F.keep) (MadeSio h₀ L m news gg dd oo) ?hn ?hi)
  case hn =>
    intro t'
    refine' kp_both ?k1 ?k2 ?k3 ?k4 ?k5 ?kA ?kF ?kK ?k6 ?k7 ?k8 ?kV ?kX ?kQ ?kM ?kN ?kD ?kR ?kP ?kS ?kT ?kB ?_ ?c2 ?c3 ?c4 ?c5
    case kA => exact rfl
    case kF => exact rfl
    case kK => assumption
    case k1 => assumption
    case k2 => assumption
    case k3 => assumption
    case k4 => assumption
    case k5 => assumption
    case k6 => k_dflt k_is
    case k7 => k_dflt k_is
    case k8 => exact Nat.lt_of_le_of_lt (Nat.add_le_add_left (Nat.le_of_ble_eq_true (by with_unfolding_all rfl)) dp) hd
    case kV => kp_lit
    case kX => kp_lit
    case kQ => exact rfl
    case kM => exact rfl
    case kN => exact rfl
    case kD => kp_flats
    case kR => exact rfl
    case kP => exact rfl
    case kS => exact fun _ => rfl
    case kT => exact fun _ _ => rfl
    case kB => exact fun _ _ => locs rfl
    case c5 => decide
    case c2 => exact rfl
    case c3 => exact rfl
    case c4 => exact rfl
    intro C' D' o' g' L' h' tk' l1 l2 lo' hs' fs' FG' F' N' B' X' T'
    (try k_lt l1)
    (try k_lt2 l2)
    (try dsimp only)
    (try k_lift B')
    (try k_fold)
    (k_steps; repeat' (((with_reducible show wpAny _ _ (call _ [Value.ref 643]) _ _ _); k_dflt (refine' call_new_sio ?zX ?zF ?zN ?_; (case zX => k_asm); (case zF => k_asm); (case zN => k_asm)); intro y' dx' h' F' N' l1 l2; (try k_lt l1); (try k_lt2 l2); (try dsimp only)); all_goals (try k_steps)))
    refine' madeSio_of ?zF ?zN ?zl ?zm
    case zF => with_reducible assumption
    case zN => with_reducible assumption
    case zl => first | with_reducible assumption | exact kst_ltOf (by with_reducible assumption) | exact kst_ltOf (And.right (by with_reducible assumption)) | exact kst_ltOf (And.right (And.right (by with_reducible assumption))) | exact kst_ltOf (And.right (And.right (And.right (by with_reducible assumption)))) | exact kst_ltOf (And.right (And.right (And.right (And.right (by with_reducible assumption))))) | exact kst_ltOf (And.right (And.right (And.right (And.right (And.right (by with_reducible assumption)))))) | exact kst_ltOf (And.right (And.right (And.right (And.right (And.right (And.right (by with_reducible assumption))))))) | exact kst_ltOf (And.right (And.right (And.right (And.right (And.right (And.right (And.right (by with_reducible assumption)))))))) | exact kst_ltOf (And.right (And.right (And.right (And.right (And.right (And.right (And.right (And.right (by with_reducible assumption))))))))) | exact kst_ltOf (And.right (And.right (And.right (And.right (And.right (And.right (And.right (And.right (And.right (by with_reducible assumption)))))))))) | exact kst_ltOf (And.right (And.right (And.right (And.right (And.right (And.right (And.right (And.right (And.right (And.right (by with_reducible assumption))))))))))) | exact kst_ltOf (And.right (And.right (And.right (And.right (And.right (And.right (And.right (And.right (And.right (And.right (And.right (by with_reducible assumption))))))))))))
    case zm => with_reducible assumption
  case hi =>
    rintro v s' ⟨y, dx, h', t', rfl, rfl, F', N', l1, l2⟩
    replace N' : News h₀ L h' ((y, instObj 643 dx) :: (dx, dictOf [] (nat_lit 0)) :: news) := N'
    have lxy : ∀ p ∈ news, p.1 < y := fun p hp => Nat.lt_trans (l1 p hp) l2
    have hxy : @Ne Nat y dx := Nat.ne_of_gt l2
    refine ⟨y, dx, rfl, X.keeps F'.keep, (N' _ List.mem_cons_self).1, ?_⟩
    refine' enterA (binds := [("self", .ref y), ("initial_value", .str x tx), ("newline", .str (Str.ofString "\n") 821)]) ?k6 ?ks ?k7 ?k9 ?kB ?c2 ?c3 ?c4 ?c5 ?k1 ?k2 ?k3 ?k4 ?k5 ?kK ?k8 ?_
    case k1 => assumption
    case k2 => assumption
    case k3 => assumption
    case k4 => assumption
    case k5 => assumption
    case kK => assumption
    case k6 => k_dflt k_is
    case ks => exact rfl
    case k7 => k_dflt k_is
    case k8 => exact Nat.lt_of_le_of_lt (Nat.add_le_add_left (Nat.le_of_ble_eq_true (by with_unfolding_all rfl)) dp) hd
    case k9 => intro s X; exact binds_K (by k_in) rfl (by k_dflt k_is) rfl rfl rfl
    case c5 => decide
    case kB => exact locs rfl
    case c2 => exact rfl
    case c3 => exact rfl
    case c4 => exact rfl
    intro g' h' L' tk' WQ WE B' F' X' N' T' hR' htk' hPO
    simp only [List.reverse_cons, List.reverse_nil, List.nil_append, List.cons_append, lookF, lookE] at F'
    show (let zV := _; let zA := _; wpAny _ zA (execs _ zV) _ _ _)
    intro zV zA

    (k_steps; repeat' (((with_reducible show wpAny _ _ (call (Value.ref 420) _) _ _ _); k_dflt (refine' SpecP.go (hd := roomX (by assumption)) (hu := unitX (by assumption)) (sp_translated _ _ _ _ _ _ _ _ _ _ _ _ _ _ _ _) ?_); intro t' h' tk' F' N'; (try dsimp only); (try k_sweep)); all_goals (try k_steps)))
    (with_reducible rename News g' L' _ _ => zN)
    refine hR' (fun F N => ⟨rfl, hret _ _ _ _ (.mk y dx _ _ _ _ _ _ _ _ l2) F N ?_⟩) (by with_reducible assumption) zN
    intro p hp p' hp'
    simp only [List.mem_cons, List.not_mem_nil, or_false] at hp
    rcases hp with rfl | rfl
    · exact lxy p' hp'
    · exact l1 p' hp'
end
section
open PySem PySem.W
example {M : Model} {A : Around} {v : Value} {Q : Bool → Shared → Prop} {E : Value → Shared → Prop} {s : Shared} (h : wpAny M A (truthy v) Q E s) : wpAny M A (truthy v) Q E s := by first | (walk1; fail) | exact h
end
section
open PySem PySem.W PySem.Spec PySem.Calls PyProof.Rows
set_option maxHeartbeats 4000000
section
variable {w : World} {f : Value} {D U : Nat} {args : List Value} {kw : List (Str × Value)} {led : List (Addr × Obj) → Value → Prop}
  {dp un : Nat} {gd : Option (List Code)} {cn : Str} {cs : Scope} {a : Addr} {ccd : Value} {cl : List (Str × Addr)} {outer : List Env} {A₀ : Around} {base h₀ : Heap} {L : Addr} {m mg mb : Str → Option Value} {mean : ExcName → Option Value} {news : List (Addr × Obj)} {s : Shared} {Q E : Value → Shared → Prop}
theorem SpecM.use (h : SpecM w f D U args kw led) (B : Below A₀ base outer h₀) (F : Fr h₀ L s.heap m) (X : (K w.params).In h₀) (N : News h₀ L s.heap news) (T : Top q (looseW q loose) mean mg mb h₀) (hk : cs.kind = .function) (hd : dp + D < recursionLimit) (hu : un + U < cLine)
    (ret : ∀ (pre : List (Addr × Obj)) (v : Value) h' tk', led pre v → Fr h₀ L h' m → News h₀ L h' (pre ++ news) → (∀ p ∈ pre, ∀ p' ∈ news, p'.1 < p.1) → Q v { s with heap := h', toks := tk' }) :
    wpAny (model PySem.Challenge.pw_kt0081_01 w) (ktrTop dp un gd cn cs L a ccd cl outer) (call f args kw) Q E s := h _ _ _ _ _ _ _ _ _ _ _ _ _ _ _ _ _ _ _ _ _ B F X N T hk hd hu ret
theorem SpecM.go {heap : Heap} {gens : Array GenState} {drawn : Drawn} {T₀ : Nat} {os : OsState} (h : SpecM w f D U args kw led)
    (ret : ∀ (pre : List (Addr × Obj)) (v : Value) h' tk', led pre v → Fr h₀ L h' m → News h₀ L h' (pre ++ news) → (∀ p ∈ pre, ∀ p' ∈ news, p'.1 < p.1) → Q v ⟨h', gens, drawn, tk', os⟩) (B : Below A₀ base outer h₀ := by k_asm) (F : Fr h₀ L heap m := by k_asm) (X : (K w.params).In h₀ := by k_asm) (N : News h₀ L heap news := by k_asm) (T : Top q (looseW q loose) mean mg mb h₀ := by k_asm) (hk : cs.kind = .function := by exact rfl) (hd : dp + D < recursionLimit := by first | exact room_any (by assumption) rfl | exact room_same (by assumption) rfl | decide +kernel) (hu : un + U < cLine := by first | exact room_any (by assumption) rfl | exact room_same (by assumption) rfl | decide +kernel)  :
    wpAny (model PySem.Challenge.pw_kt0081_01 w) (ktrTop dp un gd cn cs L a ccd cl outer) (call f args kw) Q E ⟨heap, gens, drawn, T₀, os⟩ := SpecM.use (s := ⟨heap, gens, drawn, T₀, os⟩) h B F X N T hk hd hu ret
end
theorem pre6 {news : List (Addr × Obj)} {a1 a2 a3 a4 a5 a6 : Addr} {o1 o2 o3 o4 o5 o6 : Obj} (h1 : ∀ p' ∈ news, p'.1 < a1) (h2 : ∀ p' ∈ news, p'.1 < a2) (h3 : ∀ p' ∈ news, p'.1 < a3) (h4 : ∀ p' ∈ news, p'.1 < a4) (h5 : ∀ p' ∈ news, p'.1 < a5) (h6 : ∀ p' ∈ news, p'.1 < a6) :
    ∀ p ∈ [(a1, o1), (a2, o2), (a3, o3), (a4, o4), (a5, o5), (a6, o6)], ∀ p' ∈ news, p'.1 < p.1 := by
  intro p hp
  simp only [List.mem_cons, List.not_mem_nil, or_false] at hp
  rcases hp with rfl | rfl | rfl | rfl | rfl | rfl <;> assumption
theorem roomM {dp b : Nat} (h : dp + 20 < b) : dp + 2 + 5 < b := by omega
theorem unitM {un b : Nat} (h : un + 100 < b) : un + 4 + 20 < b := by omega
theorem deq_at {h₀ h : Heap} {L d : Addr} {news : List (Addr × Obj)} (N : News h₀ L h news) (hm : (d, deq) ∈ news) : h.get? d = some deq := (N _ hm).1
local macro_rules | `(tactic| k_all) => `(tactic| with_reducible assumption)
theorem sp_readline_found (w : World) (sx sd : Addr) (a0 a1 a2 : Int) (t0 t1 t2 v0 tx v2 : Tok) (x : Str) (p : Nat) (q : Nat) (hx : x.length ≤ 100000) (hp : p < x.length) (hq : nlAt x p = (q : Int)) : SpecU w 597 4 20 [.ref sx] sd (dictOf [⟨a0, .str "_StringIO__newline" t0, .str (Str.ofString "\n") v0⟩, ⟨a1, .str "_StringIO__buf" t1, .str x tx⟩, ⟨a2, .str "_StringIO__pos" t2, .int p v2⟩] (nat_lit 3)) (fun rest => (sx, instObj 643 sd) ∈ rest) (fun v2 => (dictOf [⟨a0, .str "_StringIO__newline" t0, .str (Str.ofString "\n") v0⟩, ⟨a1, .str "_StringIO__buf" t1, .str x tx⟩, ⟨a2, .str "_StringIO__pos" t2, .int ((q + 1 : Nat) : Int) v2⟩] (nat_lit 3))) (fun t => .str (Txt.slice (Txt.slice x (some (p : Int)) (some ((q + 1 : Nat) : Int)) ++ Str.ofString " ") none (some (-1))) t) := by
  refine' enterU (binds := [("self", .ref sx), ("size", .int (-1) 1025)]) ?k6 ?ks ?k7 ?k9 ?kB ?c2 ?c3 ?c4 ?c5 ?_
  case k6 => k_dflt k_is
  case ks => exact rfl
  case k7 => k_dflt k_is
  case k9 => intro s X; exact binds_K (by k_in) rfl (by k_dflt k_is) rfl rfl rfl
  case c5 => decide
  case kB => exact locs rfl
  case c2 => exact rfl
  case c3 => exact rfl
  case c4 => exact rfl
  intro dp un gd cn cs a ccd cl outer base g' L L' mg mb mean rest gens drawn os h' tk' WQ WE B' F' X' N' hne T' hd hu hpre hret htk' hPO
  simp only [List.reverse_cons, List.reverse_nil, List.nil_append, List.cons_append, lookF, lookE] at F'
  show (let zV := _; let zA := _; wpAny _ zA (execs _ zV) _ _ _)
  intro zV zA
  (k_steps; repeat' (first | (((with_reducible show wpAny _ _ (call (Value.ref 109) _) _ _ _); k_dflt (refine' SpecP.go (sp_index _ _ _ _ _ (by decide) (by decide)) ?_); intro z9t' z9h' z9tk' z9F' z9N'; (try dsimp only); (try k_sweep)); all_goals (try k_steps)) | (((with_reducible show wpAny _ _ (call (Value.ref 427) _) _ _ _); k_dflt (refine' SpecP.go (sp_check _ _ _ _ _ _ _ _ _ _ _ _ _ _) ?_); intro z9t' z9h' z9tk' z9F' z9N'; (try dsimp only); (try k_sweep)); all_goals (try k_steps)) | (((with_reducible show wpAny _ _ (call (Value.ref 441) _) _ _ _); k_dflt (refine' SpecU.go (sp_line_found _ _ _ _ _ _ _ _ _ _ _ _ _ _ _ _ (by assumption) (by assumption) (by assumption)) ?_); intro z9t' z9t2' z9h' z9tk' z9F' z9N'; (try dsimp only); (try k_sweep)); all_goals (try k_steps))))
  all_goals exact hret _ _ _ _ (by with_reducible assumption) (by with_reducible assumption)
theorem sp_readline_none (w : World) (sx sd : Addr) (a0 a1 a2 : Int) (t0 t1 t2 v0 tx v2 : Tok) (x : Str) (p : Nat) (hx : x.length ≤ 100000) (hp : p < x.length) (hq : nlAt x p = -1) : SpecU w 597 4 20 [.ref sx] sd (dictOf [⟨a0, .str "_StringIO__newline" t0, .str (Str.ofString "\n") v0⟩, ⟨a1, .str "_StringIO__buf" t1, .str x tx⟩, ⟨a2, .str "_StringIO__pos" t2, .int p v2⟩] (nat_lit 3)) (fun rest => (sx, instObj 643 sd) ∈ rest) (fun v2 => (dictOf [⟨a0, .str "_StringIO__newline" t0, .str (Str.ofString "\n") v0⟩, ⟨a1, .str "_StringIO__buf" t1, .str x tx⟩, ⟨a2, .str "_StringIO__pos" t2, .int (x.length : Int) v2⟩] (nat_lit 3))) (fun t => .str (Txt.slice (Txt.slice x (some (p : Int)) (some (x.length : Int)) ++ Str.ofString " ") none (some (-1))) t) := by
  refine' enterU (binds := [("self", .ref sx), ("size", .int (-1) 1025)]) ?k6 ?ks ?k7 ?k9 ?kB ?c2 ?c3 ?c4 ?c5 ?_
  case k6 => k_dflt k_is
  case ks => exact rfl
  case k7 => k_dflt k_is
  case k9 => intro s X; exact binds_K (by k_in) rfl (by k_dflt k_is) rfl rfl rfl
  case c5 => decide
  case kB => exact locs rfl
  case c2 => exact rfl
  case c3 => exact rfl
  case c4 => exact rfl
  intro dp un gd cn cs a ccd cl outer base g' L L' mg mb mean rest gens drawn os h' tk' WQ WE B' F' X' N' hne T' hd hu hpre hret htk' hPO
  simp only [List.reverse_cons, List.reverse_nil, List.nil_append, List.cons_append, lookF, lookE] at F'
  show (let zV := _; let zA := _; wpAny _ zA (execs _ zV) _ _ _)
  intro zV zA
  (k_steps; repeat' (first | (((with_reducible show wpAny _ _ (call (Value.ref 109) _) _ _ _); k_dflt (refine' SpecP.go (sp_index _ _ _ _ _ (by decide) (by decide)) ?_); intro z9t' z9h' z9tk' z9F' z9N'; (try dsimp only); (try k_sweep)); all_goals (try k_steps)) | (((with_reducible show wpAny _ _ (call (Value.ref 427) _) _ _ _); k_dflt (refine' SpecP.go (sp_check _ _ _ _ _ _ _ _ _ _ _ _ _ _) ?_); intro z9t' z9h' z9tk' z9F' z9N'; (try dsimp only); (try k_sweep)); all_goals (try k_steps)) | (((with_reducible show wpAny _ _ (call (Value.ref 441) _) _ _ _); k_dflt (refine' SpecU.go (sp_line_none _ _ _ _ _ _ _ _ _ _ _ _ _ _ _ (by assumption) (by assumption) (by assumption)) ?_); intro z9t' z9t2' z9h' z9tk' z9F' z9N'; (try dsimp only); (try k_sweep)); all_goals (try k_steps))))
  all_goals exact hret _ _ _ _ (by with_reducible assumption) (by with_reducible assumption)
/-- the dict of a shlex -/
noncomputable def lexO (P : Params) (sx q1 q2 : Addr) (at_ vt : Nat → Tok) (wc : Str) (cm : Value) (ws : Bool) (st tok ln : Value) : Obj := (dictOf [⟨PyData.keyHash P (Str.ofString "instream"), .str (Str.ofString "instream") (at_ 0), (.ref sx)⟩, ⟨PyData.keyHash P (Str.ofString "infile"), .str (Str.ofString "infile") (at_ 1), .none⟩, ⟨PyData.keyHash P (Str.ofString "posix"), .str (Str.ofString "posix") (at_ 2), (.bool true)⟩, ⟨PyData.keyHash P (Str.ofString "eof"), .str (Str.ofString "eof") (at_ 3), .none⟩, ⟨PyData.keyHash P (Str.ofString "commenters"), .str (Str.ofString "commenters") (at_ 4), cm⟩, ⟨PyData.keyHash P (Str.ofString "wordchars"), .str (Str.ofString "wordchars") (at_ 5), (.str wc (vt 5))⟩, ⟨PyData.keyHash P (Str.ofString "whitespace"), .str (Str.ofString "whitespace") (at_ 6), (.str (Str.ofString " \t\r\n") (vt 6))⟩, ⟨PyData.keyHash P (Str.ofString "whitespace_split"), .str (Str.ofString "whitespace_split") (at_ 7), (.bool ws)⟩, ⟨PyData.keyHash P (Str.ofString "quotes"), .str (Str.ofString "quotes") (at_ 8), (.str (Str.ofString "'\"") (vt 8))⟩, ⟨PyData.keyHash P (Str.ofString "escape"), .str (Str.ofString "escape") (at_ 9), (.str (Str.ofString "\\") (vt 9))⟩, ⟨PyData.keyHash P (Str.ofString "escapedquotes"), .str (Str.ofString "escapedquotes") (at_ 10), (.str (Str.ofString "\"") (vt 10))⟩, ⟨PyData.keyHash P (Str.ofString "state"), .str (Str.ofString "state") (at_ 11), st⟩, ⟨PyData.keyHash P (Str.ofString "pushback"), .str (Str.ofString "pushback") (at_ 12), (.ref q1)⟩, ⟨PyData.keyHash P (Str.ofString "lineno"), .str (Str.ofString "lineno") (at_ 13), ln⟩, ⟨PyData.keyHash P (Str.ofString "debug"), .str (Str.ofString "debug") (at_ 14), (.int 0 (vt 14))⟩, ⟨PyData.keyHash P (Str.ofString "token"), .str (Str.ofString "token") (at_ 15), tok⟩, ⟨PyData.keyHash P (Str.ofString "filestack"), .str (Str.ofString "filestack") (at_ 16), (.ref q2)⟩, ⟨PyData.keyHash P (Str.ofString "source"), .str (Str.ofString "source") (at_ 17), .none⟩, ⟨PyData.keyHash P (Str.ofString "_punctuation_chars"), .str (Str.ofString "_punctuation_chars") (at_ 18), (.str (Str.ofString "") (vt 18))⟩] (nat_lit 19))
/-- what its names stand for -/
inductive LexHas (sx q1 q2 : Addr) (vt : Nat → Tok) (wc : Str) (cm : Value) (ws : Bool) (st tok ln : Value) : Str → Value → Prop
  | g0 : LexHas sx q1 q2 vt wc cm ws st tok ln (Str.ofString "instream") (.ref sx)
  | g1 : LexHas sx q1 q2 vt wc cm ws st tok ln (Str.ofString "infile") .none
  | g2 : LexHas sx q1 q2 vt wc cm ws st tok ln (Str.ofString "posix") (.bool true)
  | g3 : LexHas sx q1 q2 vt wc cm ws st tok ln (Str.ofString "eof") .none
  | g4 : LexHas sx q1 q2 vt wc cm ws st tok ln (Str.ofString "commenters") cm
  | g5 : LexHas sx q1 q2 vt wc cm ws st tok ln (Str.ofString "wordchars") (.str wc (vt 5))
  | g6 : LexHas sx q1 q2 vt wc cm ws st tok ln (Str.ofString "whitespace") (.str (Str.ofString " \t\r\n") (vt 6))
  | g7 : LexHas sx q1 q2 vt wc cm ws st tok ln (Str.ofString "whitespace_split") (.bool ws)
  | g8 : LexHas sx q1 q2 vt wc cm ws st tok ln (Str.ofString "quotes") (.str (Str.ofString "'\"") (vt 8))
  | g9 : LexHas sx q1 q2 vt wc cm ws st tok ln (Str.ofString "escape") (.str (Str.ofString "\\") (vt 9))
  | g10 : LexHas sx q1 q2 vt wc cm ws st tok ln (Str.ofString "escapedquotes") (.str (Str.ofString "\"") (vt 10))
  | g11 : LexHas sx q1 q2 vt wc cm ws st tok ln (Str.ofString "state") st
  | g12 : LexHas sx q1 q2 vt wc cm ws st tok ln (Str.ofString "pushback") (.ref q1)
  | g13 : LexHas sx q1 q2 vt wc cm ws st tok ln (Str.ofString "lineno") ln
  | g14 : LexHas sx q1 q2 vt wc cm ws st tok ln (Str.ofString "debug") (.int 0 (vt 14))
  | g15 : LexHas sx q1 q2 vt wc cm ws st tok ln (Str.ofString "token") tok
  | g16 : LexHas sx q1 q2 vt wc cm ws st tok ln (Str.ofString "filestack") (.ref q2)
  | g17 : LexHas sx q1 q2 vt wc cm ws st tok ln (Str.ofString "source") .none
  | g18 : LexHas sx q1 q2 vt wc cm ws st tok ln (Str.ofString "_punctuation_chars") (.str (Str.ofString "") (vt 18))
/-- what it is where a name is set -/
inductive LexPut (P : Params) (sx q1 q2 : Addr) (at_ vt : Nat → Tok) (wc : Str) (cm : Value) (ws : Bool) (st tok ln : Value) : Str → Value → Obj → Prop
  | st (v : Value) : LexPut P sx q1 q2 at_ vt wc cm ws st tok ln (Str.ofString "state") v (lexO P sx q1 q2 at_ vt wc cm ws v tok ln)
  | tok (v : Value) : LexPut P sx q1 q2 at_ vt wc cm ws st tok ln (Str.ofString "token") v (lexO P sx q1 q2 at_ vt wc cm ws st v ln)
  | ln (v : Value) : LexPut P sx q1 q2 at_ vt wc cm ws st tok ln (Str.ofString "lineno") v (lexO P sx q1 q2 at_ vt wc cm ws st tok v)
  | ws (b : Bool) : LexPut P sx q1 q2 at_ vt wc cm ws st tok ln (Str.ofString "whitespace_split") (.bool b) (lexO P sx q1 q2 at_ vt wc cm b st tok ln)
  | cm (v : Value) : LexPut P sx q1 q2 at_ vt wc cm ws st tok ln (Str.ofString "commenters") v (lexO P sx q1 q2 at_ vt wc v ws st tok ln)
section
variable {w : World} {A : Around} {E : Value → Shared → Prop} {heap : Heap} {gens : Array GenState} {drawn : Drawn} {T : Nat} {os : OsState} {h₀ : Heap} {L : Addr} {m : Str → Option Value} {news news' : List (Addr × Obj)}
  {sx q1 q2 lx ld : Addr} {at_ vt : Nat → Tok} {wc : Str} {cm st tok ln v : Value} {ws : Bool} {name : Str} {expr : Bool} {o : Obj}
theorem lex_get {Q : Value → Shared → Prop} (h : Q v ⟨heap, gens, drawn, T + 1, os⟩) (F : Fr h₀ L heap m := by k_asm) (X : (K w.params).In h₀ := by k_asm) (N : News h₀ L heap news := by k_asm) (h1 : (lx, instObj 778 ld) ∈ news := by k_mem) (h2 : (ld, lexO w.params sx q1 q2 at_ vt wc cm ws st tok ln) ∈ news := by k_mem)
    (hv : LexHas sx q1 q2 vt wc cm ws st tok ln name v := by first | exact .g11 | exact .g15 | exact .g14 | exact .g0 | exact .g2 | exact .g4 | exact .g5 | exact .g6 | exact .g7 | exact .g8 | exact .g9 | exact .g10 | exact .g13 | exact .g12 | exact .g3 | exact .g16 | exact .g17 | exact .g18) (hh : handedIn v = true := by k_handed) :
    wpAny (model PySem.Challenge.pw_kt0081_01 w) A (getAttr (.ref lx) name expr) Q E ⟨heap, gens, drawn, T, os⟩ := by
  unfold lexO at h2
  cases hv
  all_goals exact get_own (s := ⟨heap, gens, drawn, T, os⟩) F X (InstAt.of_news N h1 h2) (by k_dflt k_is) (by k_dflt k_is) (by k_dflt k_is) (by k_dflt k_is) (by k_get) hh h
theorem lex_set {Q : Unit → Shared → Prop} (h : ∀ h' tk', Fr h₀ L h' m → News h₀ L h' news' → Q () ⟨h', gens, drawn, tk', os⟩) (F : Fr h₀ L heap m := by k_asm) (X : (K w.params).In h₀ := by k_asm) (N : News h₀ L heap news := by k_asm) (h1 : (lx, instObj 778 ld) ∈ news := by k_mem) (h2 : (ld, lexO w.params sx q1 q2 at_ vt wc cm ws st tok ln) ∈ news := by k_mem)
    (hv : LexPut w.params sx q1 q2 at_ vt wc cm ws st tok ln name v o := by first | exact .st _ | exact .tok _ | exact .ln _ | exact .ws _ | exact .cm _) (U : Upd ld (lexO w.params sx q1 q2 at_ vt wc cm ws st tok ln) o news news' := by k_upd) :
    wpAny (model PySem.Challenge.pw_kt0081_01 w) A (setAttr (.ref lx) name v) Q E ⟨heap, gens, drawn, T, os⟩ := by
  have h3 := h2
  unfold lexO at h3 U
  cases hv
  all_goals exact set_dict (s := ⟨heap, gens, drawn, T, os⟩) F X N (InstAt.of_news N h1 h3) rfl (by k_dflt k_is) (by k_dflt k_is) (by k_dflt k_is) (by k_dflt k_is) (by k_get) (by k_put) U (Nat.le_of_ble_eq_true rfl) fun h' F' N' => h h' _ F' N'
end
/-- what a new shlex is -/
inductive LexMade (w : World) (x : Str) (tx : Tok) : List (Addr × Obj) → Value → Prop
  | mk (lx ld sx sd q1 q2 : Addr) (a0 a1 a2 : Int) (t0 t1 t2 v0 v2 : Tok) (wc : Str) (at_ vt : Nat → Tok) (h1 : ld < lx) (h2 : lx < sd) (h3 : sd < sx) (h4 : sx < q1) (h5 : q1 < q2) (hw : Txt.contains wc (Str.ofString "'") = false) :
    LexMade w x tx [(q2, deq), (q1, deq), (sx, instObj 643 sd), (sd, (dictOf [⟨a0, .str "_StringIO__newline" t0, .str (Str.ofString "\n") v0⟩, ⟨a1, .str "_StringIO__buf" t1, .str x tx⟩, ⟨a2, .str "_StringIO__pos" t2, .int ((0 : Nat) : Int) v2⟩] (nat_lit 3))), (lx, instObj 778 ld), (ld, (lexO w.params sx q1 q2 at_ vt wc (.str (Str.ofString "#") (vt 4)) false (.str (Str.ofString " ") (vt 11)) (.str (Str.ofString "") (vt 15)) (.int 1 (vt 13))))] (.ref lx)
local macro_rules | `(tactic| walk_at "execs cons") => `(tactic| (k_dflt (with_reducible (first | refine execs_one ?_ | refine execs_g ?_)); (try ((with_reducible rename News _ _ _ _ => zN'); dsimp only at zN')); intro tk'; (try dsimp only)))
theorem sp_shlex (w : World) (x : Str) (tx : Tok) : SpecM w (.ref 778) 20 100 [.str x tx] [("posix", .bool true)] (LexMade w x tx) := by
  unfold SpecM
  intro dp un gd cn cs a ccd cl outer A₀ base h₀ L m mg mb mean news s Q E B F X N T hk hd hu hret
  refine wpAny_call (make_K F N (X.keeps F.keep) (by k_dflt k_is) (fI := 702) (by k_dflt k_is) (by k_dflt k_is) ?_)
  intro y dx h' F' N' l1 l2
  have lxy : ∀ p ∈ news, p.1 < y := fun p hp => Nat.lt_trans (l1 p hp) l2
  have hxy : @Ne Nat y dx := Nat.ne_of_gt l2
  replace N' : News h₀ L h' ((y, instObj 778 dx) :: (dx, dictOf [] (nat_lit 0)) :: news) := N'
  refine' enterA (binds := [("self", .ref y), ("instream", .str x tx), ("infile", .none), ("posix", .bool true), ("punctuation_chars", .bool false)]) ?k6 ?ks ?k7 ?k9 ?kB ?c2 ?c3 ?c4 ?c5 ?k1 ?k2 ?k3 ?k4 ?k5 ?kK ?k8 ?_
  case k1 => assumption
  case k2 => assumption
  case k3 => assumption
  case k4 => assumption
  case k5 => assumption
  case kK => assumption
  case k6 => k_dflt k_is
  case ks => exact rfl
  case k7 => k_dflt k_is
  case k8 => exact Nat.lt_of_le_of_lt (Nat.add_le_add_left (Nat.le_of_ble_eq_true (by with_unfolding_all rfl)) dp) hd
  case k9 => intro s X; exact binds_K (by k_in) rfl (by k_dflt k_is) rfl rfl rfl
  case c5 => decide
  case kB => exact locs rfl
  case c2 => exact rfl
  case c3 => exact rfl
  case c4 => exact rfl
  intro g' h' L' tk' WQ WE B' F' X' N' T' hR' htk' hPO
  simp only [List.reverse_cons, List.reverse_nil, List.nil_append, List.cons_append, lookF, lookE] at F'
  show (let zV := _; let zA := _; wpAny _ zA (execs _ zV) _ _ _)
  intro zV zA

  (k_steps; repeat' (first | ((k_dflt (refine' call_deque ?zF ?zN ?_; (case zF => k_asm); (case zN => k_asm)); intro z9d' z9h' z9F' z9N' z9l1; (try k_lt z9l1); (try dsimp only)); all_goals (try k_steps)) | (((with_reducible show wpAny _ _ (call (Value.ref 643) _ _) _ _ _); k_dflt (refine' SpecM.go (hd := roomM (by assumption)) (hu := unitM (by assumption)) (sp_sio _ _ _) ?_); intro z9pre' z9v' z9h' z9tk' z9hled' z9F' z9N' z9l1; (obtain ⟨z9sx, z9sd, z9b0, z9b1, z9b2, z9u0, z9u1, z9u2, z9w0, z9w2, z9e3'⟩ := z9hled'); (simp only [List.cons_append, List.nil_append] at z9N'); (have z9l2 := z9l1 _ (List.mem_cons_of_mem _ List.mem_cons_self)); (have z9l3 := z9l1 _ List.mem_cons_self); (dsimp only at z9l2 z9l3); (try k_lt z9l2); (try k_lt z9l3); (try dsimp only); (try k_sweep)); all_goals (try k_steps))))
  (with_reducible rename News g' L' _ _ => zN)
  refine hR' (fun F N => ⟨rfl, hret _ _ _ _ (.mk _ _ _ _ _ _ _ _ _ _ _ _ _ _ _ (fun i => [_, _, _, _, _, _, _, _, _, _, _, _, _, _, _, _, _, _, _].getD i 0) (fun i => [0, 0, 0, 0, _, _, _, 0, _, _, _, _, 0, _, _, _, 0, 0, _].getD i 0) ?_ ?_ ?_ ?_ ?_ ?_) F N ?_⟩) (by with_reducible assumption) zN
  · exact l2
  · first | with_reducible assumption | exact And.left (by with_reducible assumption) | exact (And.left (And.right (by with_reducible assumption)))
  · with_reducible assumption
  · exact And.left (by with_reducible assumption)
  · exact And.left (by with_reducible assumption)
  · decide +kernel
  · refine pre6 ?_ ?_ ?_ ?_ lxy l1
    all_goals (first | with_reducible assumption | exact kst_ltOf (by with_reducible assumption) | exact kst_ltOf (And.right (by with_reducible assumption)) | exact kst_ltOf (And.right (And.right (by with_reducible assumption))) | exact kst_ltOf (And.right (And.right (And.right (by with_reducible assumption)))) | exact kst_ltOf (And.right (And.right (And.right (And.right (by with_reducible assumption))))) | exact kst_ltOf (And.right (And.right (And.right (And.right (And.right (by with_reducible assumption)))))) | exact kst_ltOf (And.right (And.right (And.right (And.right (And.right (And.right (by with_reducible assumption))))))) | exact kst_ltOf (And.right (And.right (And.right (And.right (And.right (And.right (And.right (by with_reducible assumption)))))))) | exact kst_ltOf (And.right (And.right (And.right (And.right (And.right (And.right (And.right (And.right (by with_reducible assumption))))))))) | exact kst_ltOf (And.right (And.right (And.right (And.right (And.right (And.right (And.right (And.right (And.right (by with_reducible assumption)))))))))) | exact kst_ltOf (And.right (And.right (And.right (And.right (And.right (And.right (And.right (And.right (And.right (And.right (by with_reducible assumption))))))))))) | exact kst_ltOf (And.right (And.right (And.right (And.right (And.right (And.right (And.right (And.right (And.right (And.right (And.right (by with_reducible assumption)))))))))))))
end
section
open PySem PySem.W
example {M : Model} {A : Around} {v : Value} {Q : Bool → Shared → Prop} {E : Value → Shared → Prop} {s : Shared} (h : wpAny M A (truthy v) Q E s) : wpAny M A (truthy v) Q E s := by first | (walk1; fail) | exact h
end
section
open PySem PySem.W PySem.Spec PySem.Calls PyProof.Rows
set_option maxHeartbeats 4000000
theorem roomP {dp b : Nat} (h : dp + 20 < b) : dp + 1 + 3 < b := by omega
theorem unitP {un b : Nat} (h : un + 100 < b) : un + 3 + 20 < b := by omega
theorem get_pc (w : World) (sx q1 q2 lx ld : Addr) (at_ vt : Nat → Tok) (wc : Str) (cm : Value) (ws : Bool) (st tok ln : Value) {dp un : Nat} {gd : Option (List Code)} {cn : Str} {cs : Scope} {a : Addr} {ccd : Value} {cl : List (Str × Addr)} {outer : List Env} {A₀ : Around} {base h₀ : Heap} {L : Addr} {m mg mb : Str → Option Value} {mean : ExcName → Option Value} {news : List (Addr × Obj)} {s : Shared} {Q E : Value → Shared → Prop} {expr : Bool}
    (B : Below A₀ base outer h₀) (F : Fr h₀ L s.heap m) (X : (K w.params).In h₀) (N : News h₀ L s.heap news) (T : Top q (looseW q loose) mean mg mb h₀) (hk : cs.kind = .function) (hd : dp + 3 < recursionLimit) (hu : un + 20 < cLine)
    (h1 : (lx, instObj 778 ld) ∈ news) (h2 : (ld, (lexO w.params sx q1 q2 at_ vt wc cm ws st tok ln)) ∈ news)
    (hret : ∀ h' tk', Fr h₀ L h' m → News h₀ L h' news → Q (.str (Str.ofString "") (vt 18)) { s with heap := h', toks := tk' }) :
    wpAny (model PySem.Challenge.pw_kt0081_01 w) (ktrTop dp un gd cn cs L a ccd cl outer) (getAttr (.ref lx) "punctuation_chars" expr) Q E s := by
  unfold lexO at h2
  refine' get_prop ?k1 ?k2 ?k3 ?k4 ?k5 ?k6 ?k7 ?k8 ?k9 ?_
  case k1 => k_asm
  case k2 => k_asm
  case k3 => k_inst
  case k4 => k_dflt k_is
  case k5 => k_dflt k_is
  case k6 => k_dflt k_is
  case k7 => k_dflt k_is
  case k8 => k_dflt k_is
  case k9 => k_dflt k_is
  refine' fn_enter (binds := [("self", .ref lx)]) ?k1 ?k2 ?k3 ?k4 ?k5 ?kA ?kF ?kK ?k6 ?ks ?k7 ?k8 ?k9 ?kB ?_ ?c2 ?c3 ?c4 ?c5
  case kA => exact rfl
  case kF => exact rfl
  case kK => assumption
  case k1 => assumption
  case k2 => assumption
  case k3 => assumption
  case k4 => assumption
  case k5 => assumption
  case k6 => k_dflt k_is
  case ks => exact rfl
  case k7 => k_dflt k_is
  case k8 => exact Nat.lt_of_le_of_lt (Nat.add_le_add_left (Nat.zero_le 3) dp) hd
  case k9 => exact BindsTo.of_eq rfl
  case c5 => decide
  case kB => exact locs rfl
  case c2 => exact rfl
  case c3 => exact rfl
  case c4 => exact rfl
  intro g' L' h' FG' F' N' B' X' T'
  simp only [List.reverse_cons, List.reverse_nil, List.nil_append, List.cons_append, lookF, lookE] at F'
  try dsimp only
  try k_lift B'
  try k_fold
  show (let zV := _; let zA := _; wpAny _ zA (execs _ zV) _ _ _)
  intro zV zA
  k_steps
  exact hret _ _ (by with_reducible assumption) (by with_reducible assumption)
/-- the states of shlex that the law reaches -/
inductive St | S | A | Q1 | Q2 | N
noncomputable def stV : St → Tok → Value
  | .S, t => .str (Str.ofString " ") t
  | .A, t => .str (Str.ofString "a") t
  | .Q1, t => .str (Str.ofString "'") t
  | .Q2, t => .str (Str.ofString "\"") t
  | .N, _ => .none
noncomputable def isWs (c : Nat) : Bool := c == 32 || c == 9 || c == 13 || c == 10
/-- one call of read_token, as far as the law needs it: none where it leaves what we tell -/
noncomputable def run : Nat → Bool → St → Str → Bool → List Nat → Option (Str × Bool × St × List Nat)
  | 0, _, _, _, _, _ => none
  | n + 1, cm, .S, tok, qd, [] => some (tok, qd, .N, [])
  | n + 1, cm, .S, tok, qd, c :: r =>
    if isWs c = true ∨ c = 92 ∨ c = 34 then none
    else if c = 35 ∧ cm = true then (match r with | c0 :: 10 :: r2 => if c0 = 10 then none else run n cm .S tok qd r2 | _ => none)
    else if c = 39 then run n cm .Q1 tok qd r else run n cm .A ⟨#[c]⟩ qd r
  | n + 1, cm, .A, tok, qd, [] => some (tok, qd, .N, [])
  | n + 1, cm, .A, tok, qd, c :: r =>
    if c = 32 ∨ c = 10 then (if tok.length ≠ 0 ∨ qd = true then some (tok, qd, .S, r) else none)
    else if isWs c = true ∨ c = 92 then none
    else if c = 35 ∧ cm = true then (if tok.length ≠ 0 ∧ r ≠ [] ∧ 10 ∉ r then some (tok, qd, .S, []) else none)
    else if c = 39 then run n cm .Q1 tok qd r else if c = 34 then run n cm .Q2 tok qd r
    else run n cm .A (tok ++ ⟨#[c]⟩) qd r
  | n + 1, cm, .Q1, tok, qd, [] => none
  | n + 1, cm, .Q1, tok, qd, c :: r => if c = 39 then run n cm .A tok true r else run n cm .Q1 (tok ++ ⟨#[c]⟩) true r
  | n + 1, cm, .Q2, tok, qd, [] => none
  | n + 1, cm, .Q2, tok, qd, c :: r => if c = 34 then run n cm .A tok true r else if c = 39 then run n cm .Q2 (tok ++ ⟨#[c]⟩) true r else none
  | n + 1, cm, .N, tok, qd, [] => some (Str.ofString "", qd, .N, [])
  | n + 1, cm, .N, tok, qd, _ :: _ => none
end
section
open PySem PySem.W
example {M : Model} {A : Around} {v : Value} {Q : Bool → Shared → Prop} {E : Value → Shared → Prop} {s : Shared} (h : wpAny M A (truthy v) Q E s) : wpAny M A (truthy v) Q E s := by first | (walk1; fail) | exact h
end
section
open PySem PySem.W PySem.Spec PySem.Calls PyProof.Rows
set_option maxHeartbeats 4000000
local macro_rules | `(tactic| walk_at "getAttr ref") => `(tactic| (k_dflt (refine' lex_get ?_)))
local macro_rules | `(tactic| walk_at "setAttr ref") => `(tactic| (k_dflt (refine' lex_set ?_); intro h' tk' F' N'; (try k_sweep)))
section
variable {prog : Program} {w : World} {A : Around} {E : Value → Shared → Prop} {s : Shared} {x z : Str} {t u : Tok} {b : Bool} {Q : Value → Shared → Prop}
theorem inF (h : Txt.contains x z = b) (hq : Q (.bool b) s) : wpAny (model prog w) A (compareOp .In (.str z u) (.str x t)) Q E s := in_str (by subst h; exact hq)
theorem notInF (h : Txt.contains x z = b) (hq : Q (.bool (!b)) s) : wpAny (model prog w) A (compareOp .NotIn (.str z u) (.str x t)) Q E s := notIn_str (by subst h; exact hq)
end
local macro_rules | `(tactic| walk_at "compareOp In str str") => `(tactic| ((refine' inF (by with_reducible assumption) ?_); (try dsimp only)))
local macro_rules | `(tactic| walk_at "compareOp NotIn str str") => `(tactic| ((refine' notInF (by with_reducible assumption) ?_); (try dsimp only)))
local macro_rules | `(tactic| k_all) => `(tactic| with_reducible assumption)
local macro_rules | `(tactic| walk_at "getAttr ref") => `(tactic| ((with_reducible show wpAny _ _ (getAttr _ (Str.ofString "punctuation_chars") _) _ _ _); refine of_hold ?_))
theorem roomR {dp b : Nat} (h : dp + 20 < b) : dp + 1 + 4 < b := by omega
theorem unitR {un b : Nat} (h : un + 100 < b) : un + 3 + 20 < b := by omega
section
variable {prog : Program} {w : World} {A : Around} {E : Value → Shared → Prop} {heap : Heap} {gens : Array GenState} {drawn : Drawn} {T : Nat} {os : OsState} {x z : Str} {t u : Tok} {b : Bool} {Q : Value → Shared → Prop} {i j : Int}
theorem eqStrF (h : (z == x) = b) (hq : Q (.bool b) ⟨heap, gens, drawn, T, os⟩) : wpAny (model prog w) A (compareOp .Eq (.str z t) (.str x u)) Q E ⟨heap, gens, drawn, T, os⟩ := eq_str (by rw [h]; exact hq)
theorem truthyF {Q : Bool → Shared → Prop} (h63 : x.length ≤ 200000) (h : ((x.length : Int) != 0) = b) (hq : ∀ T', Q b ⟨heap, gens, drawn, T', os⟩) : wpAny (model prog w) A (truthy (.str x t)) Q E ⟨heap, gens, drawn, T, os⟩ := P.truthy_str (by omega) (by rw [h]; exact hq _)
theorem iaddStrF (hsz : x.length + z.length ≤ 16777216) (h : ∀ t' T', Q (.str (x ++ z) t') ⟨heap, gens, drawn, T', os⟩) : wpAny (model prog w) A (inplaceOp .Add (.str x t) (.str z u)) Q E ⟨heap, gens, drawn, T, os⟩ :=
  SB.iadd (fun t' k => h t' k) (by rw [sizeLine_eq]; exact hsz)
theorem iaddIntF (h : ∀ t' T', Q (.int (i + j) t') ⟨heap, gens, drawn, T', os⟩) : wpAny (model prog w) A (inplaceOp .Add (.int i t) (.int j u)) Q E ⟨heap, gens, drawn, T, os⟩ := iadd_int (h _ _)
end
noncomputable def WhileHere (p : Prop) : Prop := p
theorem WhileHere.out {p : Prop} (h : WhileHere p) : p := h
local macro_rules | `(tactic| walk_at "exec While") => `(tactic| ((with_reducible refine WhileHere.out ?_)))
local macro_rules | `(tactic| walk_at "compareOp Eq str str") => `(tactic| ((with_reducible show wpAny _ _ (compareOp _ (Value.str _ _) (Value.str _ _)) _ _ _); refine of_hold ?_))
local macro_rules | `(tactic| walk_at "truthy str") => `(tactic| ((refine' truthyF (by first | with_reducible assumption | omega) (by with_reducible assumption) ?_); intro tk'; (try dsimp only)))
theorem sp_readz (w : World) (sx sd : Addr) (u : Tok) (a0 a1 a2 : Int) (t0 t1 t2 v0 tx v2 : Tok) (x : Str) (p : Nat) (z : Str) (hx : x.length ≤ 100000) (hp : p < x.length) (hz : one x p = z) : SpecU w 589 4 20 [.ref sx, .int 1 u] sd (dictOf [⟨a0, .str "_StringIO__newline" t0, .str (Str.ofString "\n") v0⟩, ⟨a1, .str "_StringIO__buf" t1, .str x tx⟩, ⟨a2, .str "_StringIO__pos" t2, .int p v2⟩] (nat_lit 3)) (fun rest => (sx, instObj 643 sd) ∈ rest) (fun v2 => (dictOf [⟨a0, .str "_StringIO__newline" t0, .str (Str.ofString "\n") v0⟩, ⟨a1, .str "_StringIO__buf" t1, .str x tx⟩, ⟨a2, .str "_StringIO__pos" t2, .int ((p + 1 : Nat) : Int) v2⟩] (nat_lit 3))) (fun t => .str z t) := hz ▸ sp_read w sx sd u a0 a1 a2 t0 t1 t2 v0 tx v2 x p hx hp
theorem sp_readz2 (w : World) (sx sd : Addr) (u : Tok) (a0 a1 a2 : Int) (t0 t1 t2 v0 tx v2 : Tok) (x : Str) (p : Nat) (z : Str) (hz : one x p = z) (hx : x.length ≤ 100000) (hp : p < x.length) : SpecU w 589 4 20 [.ref sx, .int 1 u] sd (dictOf [⟨a0, .str "_StringIO__newline" t0, .str (Str.ofString "\n") v0⟩, ⟨a1, .str "_StringIO__buf" t1, .str x tx⟩, ⟨a2, .str "_StringIO__pos" t2, .int p v2⟩] (nat_lit 3)) (fun rest => (sx, instObj 643 sd) ∈ rest) (fun v2 => (dictOf [⟨a0, .str "_StringIO__newline" t0, .str (Str.ofString "\n") v0⟩, ⟨a1, .str "_StringIO__buf" t1, .str x tx⟩, ⟨a2, .str "_StringIO__pos" t2, .int ((p + 1 : Nat) : Int) v2⟩] (nat_lit 3))) (fun t => .str z t) := sp_readz w sx sd u a0 a1 a2 t0 t1 t2 v0 tx v2 x p z hx hp hz
theorem sp_rl_found (w : World) (sx sd : Addr) (a0 a1 a2 : Int) (t0 t1 t2 v0 tx v2 : Tok) (x : Str) (p : Nat) (q : Nat) (hq : nlAt x p = (q : Int)) (hx : x.length ≤ 100000) (hp : p < x.length) : SpecU w 597 4 20 [.ref sx] sd (dictOf [⟨a0, .str "_StringIO__newline" t0, .str (Str.ofString "\n") v0⟩, ⟨a1, .str "_StringIO__buf" t1, .str x tx⟩, ⟨a2, .str "_StringIO__pos" t2, .int p v2⟩] (nat_lit 3)) (fun rest => (sx, instObj 643 sd) ∈ rest) (fun v2 => (dictOf [⟨a0, .str "_StringIO__newline" t0, .str (Str.ofString "\n") v0⟩, ⟨a1, .str "_StringIO__buf" t1, .str x tx⟩, ⟨a2, .str "_StringIO__pos" t2, .int ((q + 1 : Nat) : Int) v2⟩] (nat_lit 3))) (fun t => .str (Txt.slice (Txt.slice x (some (p : Int)) (some ((q + 1 : Nat) : Int)) ++ Str.ofString " ") none (some (-1))) t) := sp_readline_found w sx sd a0 a1 a2 t0 t1 t2 v0 tx v2 x p q hx hp hq
theorem sp_rl_none (w : World) (sx sd : Addr) (a0 a1 a2 : Int) (t0 t1 t2 v0 tx v2 : Tok) (x : Str) (p : Nat) (hq : nlAt x p = -1) (hx : x.length ≤ 100000) (hp : p < x.length) : SpecU w 597 4 20 [.ref sx] sd (dictOf [⟨a0, .str "_StringIO__newline" t0, .str (Str.ofString "\n") v0⟩, ⟨a1, .str "_StringIO__buf" t1, .str x tx⟩, ⟨a2, .str "_StringIO__pos" t2, .int p v2⟩] (nat_lit 3)) (fun rest => (sx, instObj 643 sd) ∈ rest) (fun v2 => (dictOf [⟨a0, .str "_StringIO__newline" t0, .str (Str.ofString "\n") v0⟩, ⟨a1, .str "_StringIO__buf" t1, .str x tx⟩, ⟨a2, .str "_StringIO__pos" t2, .int (x.length : Int) v2⟩] (nat_lit 3))) (fun t => .str (Txt.slice (Txt.slice x (some (p : Int)) (some (x.length : Int)) ++ Str.ofString " ") none (some (-1))) t) := sp_readline_none w sx sd a0 a1 a2 t0 t1 t2 v0 tx v2 x p hx hp hq
noncomputable def cmS (cm : Bool) : Str := if cm = true then Str.ofString "#" else Str.ofString ""
theorem newsTail {h₀ h : Heap} {L : Addr} {p : Addr × Obj} {r : List (Addr × Obj)} (N : News h₀ L h (p :: r)) : News h₀ L h r := fun q hq => N q (List.mem_cons_of_mem _ hq)
theorem mid3 {h₀ h : Heap} {L : Addr} {a b c : Addr × Obj} {r : List (Addr × Obj)} (N : News h₀ L h (a :: b :: c :: r)) : News h₀ L h (c :: a :: r) := newsPick (want := [c, a]) [a, b, c] [2, 0] N rfl
theorem sign_at (x : Str) {p : Nat} (h : p < x.length) : ∃ c r, (L x).drop p = c :: r ∧ one x p = ⟨#[c]⟩ ∧ (L x).drop (p + 1) = r ∧ r.length + p + 1 = x.length := by
  have h' : p < (L x).length := by rw [L_length]; exact h
  refine ⟨(L x)[p], (L x).drop (p + 1), List.drop_eq_getElem_cons h', ?_, rfl, ?_⟩
  · unfold one; rw [List.getD_eq_getElem?_getD, List.getElem?_eq_getElem h']; rfl
  · rw [List.length_drop, L_length]; omega
theorem in1 (s : Str) (c : Nat) (l : List Nat) (hl : L s = l) : Txt.contains s ⟨#[c]⟩ = decide (c ∈ l) := by rw [contains_one, hl]
theorem eq1 (c d : Nat) (s : Str) (hs : s = ⟨#[d]⟩) : ((⟨#[c]⟩ : Str) == s) = decide (c = d) := by
  subst hs
  by_cases h : c = d
  · subst h; simp
  · rw [decide_eq_false h]
    apply beq_eq_false_iff_ne.mpr
    intro e
    exact h (List.cons.inj (congrArg L e : [c] = [d])).1
theorem L_ws : L (Str.ofString " \t\r\n") = [32, 9, 13, 10] := by rw [L_lit]; decide
theorem L_q2 : L (Str.ofString "'\"") = [39, 34] := by rw [L_lit]; decide
theorem L_bs : L (Str.ofString "\\") = [92] := by rw [L_lit]; decide
theorem L_dq : L (Str.ofString "\"") = [34] := by rw [L_lit]; decide
theorem L_no : L (Str.ofString "") = [] := by rw [L_lit]; decide
theorem L_cm (cm : Bool) : L (cmS cm) = if cm = true then [35] else [] := by
  cases cm
  · exact L_no
  · show L (Str.ofString "#") = [35]; rw [L_lit]; decide
theorem nl_is : Str.ofString "\n" = ⟨#[10]⟩ := by apply L_inj; rw [L_lit]; rfl
theorem q_is : Str.ofString "'" = ⟨#[39]⟩ := by apply L_inj; rw [L_lit]; rfl
theorem dq_is : Str.ofString "\"" = ⟨#[34]⟩ := by apply L_inj; rw [L_lit]; rfl
theorem hash_is : Str.ofString "#" = ⟨#[35]⟩ := by apply L_inj; rw [L_lit]; rfl
theorem blank_is : Str.ofString " " = ⟨#[32]⟩ := by apply L_inj; rw [L_lit]; rfl
theorem stp {p n : Nat} (h : p < n) : n - (p + 1) + 1 < n - p + 1 := by omega
theorem stp3 {p n : Nat} (h : p + 3 ≤ n) : n - (p + 1 + 1 + 1) + 1 < n - p + 1 := by omega
theorem le3 {a p : Nat} (h : a ≤ p) : a ≤ p + 1 + 1 + 1 := Nat.le_trans h (Nat.le_add_right p 3)
theorem ep1 {n r p : Nat} (h : r + p + 1 = n) : ((p + 1 : Nat) : Int) = ((n - r : Nat) : Int) := by subst h; congr 1; omega
theorem app1_le {t : Str} {c p : Nat} (h : t.length ≤ p) : (t ++ ⟨#[c]⟩ : Str).length ≤ p + 1 := by rw [len_app]; exact Nat.add_le_add_right h 1
theorem lt1 {r p n : Nat} (h : r + p + 1 = n) (h0 : r ≠ 0) : p + 1 < n := by omega
theorem ge3 {a b p n : Nat} {r : List Nat} (h : (a :: b :: r).length + p + 1 = n) : p + 3 ≤ n := by simp only [List.length_cons] at h; omega
theorem ne0 {n : Nat} (h : n ≠ 0) : ((n : Int) != 0) = true := by simp; omega
theorem While_inv3 {prog : Program} {w : World} {A : Around} {E : Value → Shared → Prop} {s : Shared} {env : Env} {h₀ : Heap} {L : Addr} {Q : Flow → Shared → Prop} {test : Expr} {body : List Stmt} {pos : Pos} {m : Str → Option Value} {news : List (Addr × Obj)} (J : Nat → (Str → Option Value) → List (Addr × Obj) → Prop) {n₀ : Nat}
    (F : Fr h₀ L s.heap m) (N : News h₀ L s.heap news) (hJ : J n₀ m news)
    (turn : ∀ n m₁ news₁ h₁ tk₁ (WS : Flow → Shared → Prop) (WN : Shared → Prop), (∀ f s', WhileStep2 h₀ L s J Q n f s' → WS f s') → Fr h₀ L h₁ m₁ → News h₀ L h₁ news₁ → J n m₁ news₁ →
      wpAny (model prog w) A (isTrue test env (eval test env)) (fun b s₂ =>
        if b = true then wpAny (model prog w) A (execs body env) WS E s₂ else WN s₂) E { s with heap := h₁, toks := tk₁ })
    (hE : PassesOwn (model prog w) A env E := by passes_own) :
    wpAny (model prog w) A (exec (.While test body [] pos) env) Q E s :=
  While_inv2 J F N hJ (fun n m₁ news₁ h₁ tk₁ a b c => turn n m₁ news₁ h₁ tk₁ _ (fun s₂ => Q .next s₂) (fun _ _ h => h) a b c) hE
section
variable {k : Nat} {cm : Bool} {tk : Str} {qd : Bool} {c : Nat} {r : List Nat} {R : Str × Bool × St × List Nat}
/-- what run says of a sign, state by state -/
theorem S_no (h : run (k + 1) cm .S tk qd (c :: r) = some R) : ¬ (isWs c = true ∨ c = 92 ∨ c = 34) := fun b => by
  have h : (if isWs c = true ∨ c = 92 ∨ c = 34 then none else _) = some R := h
  rw [if_pos b] at h; cases h
theorem S_go (h : run (k + 1) cm .S tk qd (c :: r) = some R) : (if c = 35 ∧ cm = true then (match (generalizing := false) r with | c0 :: 10 :: r2 => if c0 = 10 then none else run k cm .S tk qd r2 | _ => none) else if c = 39 then run k cm .Q1 tk qd r else run k cm .A ⟨#[c]⟩ qd r) = some R :=
  (if_neg (S_no h)).symm.trans h
theorem S_cm (h : run (k + 1) cm .S tk qd (c :: r) = some R) (z : c = 35 ∧ cm = true) : ∃ c0 r2, r = c0 :: 10 :: r2 ∧ c0 ≠ 10 ∧ run k cm .S tk qd r2 = some R := by
  have h := (if_pos z).symm.trans (S_go h)
  split at h
  · split at h
    · cases h
    · exact ⟨_, _, rfl, by assumption, h⟩
  · cases h
theorem S_q (h : run (k + 1) cm .S tk qd (c :: r) = some R) (z : c = 39) : run k cm .Q1 tk qd r = some R :=
  (if_pos z).symm.trans ((if_neg (fun y => absurd (z.symm.trans y.1) (by decide))).symm.trans (S_go h))
theorem S_a (h : run (k + 1) cm .S tk qd (c :: r) = some R) (z : ¬ (c = 35 ∧ cm = true)) (y : ¬ c = 39) : run k cm .A ⟨#[c]⟩ qd r = some R :=
  (if_neg y).symm.trans ((if_neg z).symm.trans (S_go h))
theorem S_ws (h : run (k + 1) cm .S tk qd (c :: r) = some R) : c ≠ 32 ∧ c ≠ 9 ∧ c ≠ 13 ∧ c ≠ 10 := by
  have hw : ¬ isWs c = true := fun z => S_no h (.inl z)
  simpa [isWs, and_assoc] using hw
theorem A_end (h : run (k + 1) cm .A tk qd (c :: r) = some R) (z : c = 32 ∨ c = 10) : (tk.length ≠ 0 ∨ qd = true) ∧ some (tk, qd, St.S, r) = some R := by
  have h := (if_pos z).symm.trans (show (if c = 32 ∨ c = 10 then (if tk.length ≠ 0 ∨ qd = true then some (tk, qd, St.S, r) else none) else _) = some R from h)
  by_cases y : tk.length ≠ 0 ∨ qd = true
  · exact ⟨y, (if_pos y).symm.trans h⟩
  · rw [if_neg y] at h; cases h
theorem A_no (h : run (k + 1) cm .A tk qd (c :: r) = some R) (z : ¬ (c = 32 ∨ c = 10)) : ¬ (isWs c = true ∨ c = 92) := fun b => by
  have h := (if_neg z).symm.trans (show (if c = 32 ∨ c = 10 then _ else if isWs c = true ∨ c = 92 then none else _) = some R from h)
  rw [if_pos b] at h; cases h
theorem A_go (h : run (k + 1) cm .A tk qd (c :: r) = some R) (z : ¬ (c = 32 ∨ c = 10)) : (if c = 35 ∧ cm = true then (if tk.length ≠ 0 ∧ r ≠ [] ∧ 10 ∉ r then some (tk, qd, St.S, []) else none) else if c = 39 then run k cm .Q1 tk qd r else if c = 34 then run k cm .Q2 tk qd r else run k cm .A (tk ++ ⟨#[c]⟩) qd r) = some R :=
  (if_neg (A_no h z)).symm.trans ((if_neg z).symm.trans h)
theorem A_cm (h : run (k + 1) cm .A tk qd (c :: r) = some R) (z : ¬ (c = 32 ∨ c = 10)) (y : c = 35 ∧ cm = true) : (tk.length ≠ 0 ∧ r ≠ [] ∧ 10 ∉ r) ∧ some (tk, qd, St.S, []) = some R := by
  have h := (if_pos y).symm.trans (A_go h z)
  by_cases b : tk.length ≠ 0 ∧ r ≠ [] ∧ 10 ∉ r
  · exact ⟨b, (if_pos b).symm.trans h⟩
  · rw [if_neg b] at h; cases h
theorem A_q1 (h : run (k + 1) cm .A tk qd (c :: r) = some R) (y : c = 39) : run k cm .Q1 tk qd r = some R := by
  subst y; exact h
theorem A_q2 (h : run (k + 1) cm .A tk qd (c :: r) = some R) (y : c = 34) : run k cm .Q2 tk qd r = some R := by
  subst y; exact h
theorem A_a (h : run (k + 1) cm .A tk qd (c :: r) = some R) (z : ¬ (c = 32 ∨ c = 10)) (y : ¬ (c = 35 ∧ cm = true)) (u : ¬ (c = 39 ∨ c = 34)) : run k cm .A (tk ++ ⟨#[c]⟩) qd r = some R :=
  (if_neg fun x => u (.inr x)).symm.trans ((if_neg fun x => u (.inl x)).symm.trans ((if_neg y).symm.trans (A_go h z)))
theorem A_ws (h : run (k + 1) cm .A tk qd (c :: r) = some R) (z10 : ¬ c = 10) : c ≠ 92 ∧ (c = 32 ∨ c = 9 ∨ c = 13 ∨ c = 10 ↔ c = 32) := by
  by_cases z : c = 32
  · subst z; exact ⟨by decide, by simp⟩
  · have n := A_no h fun y => y.elim z z10
    refine ⟨fun y => n (.inr y), ?_⟩
    have hw : ¬ isWs c = true := fun y => n (.inl y)
    simp [isWs] at hw; simp [hw, z10]
theorem Q1_q (h : run (k + 1) cm .Q1 tk qd (c :: r) = some R) (y : c = 39) : run k cm .A tk true r = some R := (if_pos y).symm.trans h
theorem Q1_a (h : run (k + 1) cm .Q1 tk qd (c :: r) = some R) (y : ¬ c = 39) : run k cm .Q1 (tk ++ ⟨#[c]⟩) true r = some R := (if_neg y).symm.trans h
theorem Q2_q (h : run (k + 1) cm .Q2 tk qd (c :: r) = some R) (y : c = 34) : run k cm .A tk true r = some R := (if_pos y).symm.trans h
theorem Q2_a (h : run (k + 1) cm .Q2 tk qd (c :: r) = some R) (y : ¬ c = 34) : c = 39 ∧ run k cm .Q2 (tk ++ ⟨#[c]⟩) true r = some R := by
  have h := (if_neg y).symm.trans (show (if c = 34 then _ else if c = 39 then run k cm .Q2 (tk ++ ⟨#[c]⟩) true r else none) = some R from h)
  by_cases b : c = 39
  · exact ⟨b, (if_pos b).symm.trans h⟩
  · rw [if_neg b] at h; cases h
theorem Q2_c (h : run (k + 1) cm .Q2 tk qd (c :: r) = some R) : c ≠ 92 := fun z => by subst z; exact absurd h (fun z => nomatch (show (none : Option (Str × Bool × St × List Nat)) = some R from z))
theorem sgn_eq {d : Nat} {s : Str} (z : c = d) (h : s = ⟨#[d]⟩) : (⟨#[c]⟩ : Str) = s := by subst z; exact h.symm
end
/-- what holds at each turn of read_token -/
noncomputable def RTJ (w : World) (sx q1 q2 lx ld sd : Addr) (at_ vt : Nat → Tok) (wc : Str) (a0 a1 a2 : Int) (t0 t1 t2 v0 tx : Tok) (x : Str) (cm : Bool) (rest : List (Addr × Obj)) (R : Str × Bool × St × List Nat) (n : Nat) (m : Str → Option Value) (nw : List (Addr × Obj)) : Prop :=
  ∃ (st : St) (tk : Str) (qd : Bool) (p k : Nat) (ts tt tl v2 : Tok) (ln : Int), m (Str.ofString "self") = some (.ref lx) ∧ m (Str.ofString "quoted") = some (.bool qd) ∧ nw = (ld, (lexO w.params sx q1 q2 at_ vt wc (.str (cmS cm) (vt 4)) true (stV st ts) (.str tk tt) (.int ln tl))) :: (sd, (dictOf [⟨a0, .str "_StringIO__newline" t0, .str (Str.ofString "\n") v0⟩, ⟨a1, .str "_StringIO__buf" t1, .str x tx⟩, ⟨a2, .str "_StringIO__pos" t2, .int (p : Int) v2⟩] (nat_lit 3))) :: rest ∧ p ≤ x.length ∧ n = x.length - p + 1 ∧ tk.length ≤ p ∧ run k cm st tk qd ((Mine.L x).drop p) = some R
/-- what holds where the loop is left -/
noncomputable def RTM (w : World) (sx q1 q2 lx ld sd : Addr) (at_ vt : Nat → Tok) (wc : Str) (a0 a1 a2 : Int) (t0 t1 t2 v0 tx : Tok) (x : Str) (cm : Bool) (rest : List (Addr × Obj)) (R : Str × Bool × St × List Nat) (g' : Heap) (L' : Addr) (s : Shared) (f : Flow) (s' : Shared) : Prop :=
  f = .next ∧ ∃ (h' : Heap) (T' : Nat) (m' : Str → Option Value) (ts tt tl v2 : Tok) (ln : Int), s' = ⟨h', s.gens, s.drawn, T', s.os⟩ ∧ Fr g' L' h' m' ∧ News g' L' h' ((ld, (lexO w.params sx q1 q2 at_ vt wc (.str (cmS cm) (vt 4)) true (stV R.2.2.1 ts) (.str R.1 tt) (.int ln tl))) :: (sd, (dictOf [⟨a0, .str "_StringIO__newline" t0, .str (Str.ofString "\n") v0⟩, ⟨a1, .str "_StringIO__buf" t1, .str x tx⟩, ⟨a2, .str "_StringIO__pos" t2, .int ((x.length - R.2.2.2.length : Nat) : Int) v2⟩] (nat_lit 3))) :: rest) ∧ m' (Str.ofString "self") = some (.ref lx) ∧ m' (Str.ofString "quoted") = some (.bool R.2.1)
theorem rt_next {w : World} {sx q1 q2 lx ld sd : Addr} {at_ vt : Nat → Tok} {wc : Str} {a0 a1 a2 : Int} {t0 t1 t2 v0 tx : Tok} {x : Str} {cm : Bool} {rest : List (Addr × Obj)} {R : Str × Bool × St × List Nat} {g' : Heap} {L' : Addr} {s s1 : Shared} {Q : Flow → Shared → Prop} {n : Nat} {WS : Flow → Shared → Prop} 
    (hWS : ∀ f s', WhileStep2 g' L' s1 (RTJ w sx q1 q2 lx ld sd at_ vt wc a0 a1 a2 t0 t1 t2 v0 tx x cm rest R) Q n f s' → WS f s') ⦃f : Flow⦄ ⦃h' : Heap⦄ ⦃tk' : Nat⦄ ⦃m' : Str → Option Value⦄ ⦃ts tt tl v2 : Tok⦄ ⦃ln : Int⦄ (st : St) (tk : Str) (qd : Bool) (p k : Nat) (hf : f = .next ∨ f = .cont) (F : Fr g' L' h' m') (N : News g' L' h' ((ld, (lexO w.params sx q1 q2 at_ vt wc (.str (cmS cm) (vt 4)) true (stV st ts) (.str tk tt) (.int ln tl))) :: (sd, (dictOf [⟨a0, .str "_StringIO__newline" t0, .str (Str.ofString "\n") v0⟩, ⟨a1, .str "_StringIO__buf" t1, .str x tx⟩, ⟨a2, .str "_StringIO__pos" t2, .int (p : Int) v2⟩] (nat_lit 3))) :: rest)) (hs : m' (Str.ofString "self") = some (.ref lx)) (hq : m' (Str.ofString "quoted") = some (.bool qd))
    (hp : p ≤ x.length) (hn : x.length - p + 1 < n) (htk : tk.length ≤ p) (hrun : run k cm st tk qd ((Mine.L x).drop p) = some R) (hg : s1.gens = s.gens := by rfl) (hd : s1.drawn = s.drawn := by rfl) (ho : s1.os = s.os := by rfl) : WS f ⟨h', s.gens, s.drawn, tk', s.os⟩ := by
  rw [← hg, ← hd, ← ho]
  refine hWS _ _ ?_
  have : WhileStep2 g' L' s1 (RTJ w sx q1 q2 lx ld sd at_ vt wc a0 a1 a2 t0 t1 t2 v0 tx x cm rest R) Q n .next ⟨h', s1.gens, s1.drawn, tk', s1.os⟩ := ⟨_, _, _, _, _, rfl, F, N, hn, st, tk, qd, p, k, ts, tt, tl, v2, ln, hs, hq, rfl, hp, rfl, htk, hrun⟩
  rcases hf with rfl | rfl <;> exact this
theorem rt_brk {w : World} {sx q1 q2 lx ld sd : Addr} {at_ vt : Nat → Tok} {wc : Str} {a0 a1 a2 : Int} {t0 t1 t2 v0 tx : Tok} {x : Str} {cm : Bool} {rest : List (Addr × Obj)} {R : Str × Bool × St × List Nat} {g' : Heap} {L' : Addr} {s s1 : Shared} {J : Nat → (Str → Option Value) → List (Addr × Obj) → Prop} {n : Nat} {WS : Flow → Shared → Prop} {h' : Heap} {tk' : Nat} {m' : Str → Option Value} {ts tt tl v2 : Tok} {ln : Int} {e : Int}
    (hWS : ∀ f s', WhileStep2 g' L' s1 J (RTM w sx q1 q2 lx ld sd at_ vt wc a0 a1 a2 t0 t1 t2 v0 tx x cm rest R g' L' s) n f s' → WS f s') (F : Fr g' L' h' m') (he : e = ((x.length - R.2.2.2.length : Nat) : Int)) (N : News g' L' h' ((ld, (lexO w.params sx q1 q2 at_ vt wc (.str (cmS cm) (vt 4)) true (stV R.2.2.1 ts) (.str R.1 tt) (.int ln tl))) :: (sd, (dictOf [⟨a0, .str "_StringIO__newline" t0, .str (Str.ofString "\n") v0⟩, ⟨a1, .str "_StringIO__buf" t1, .str x tx⟩, ⟨a2, .str "_StringIO__pos" t2, .int e v2⟩] (nat_lit 3))) :: rest)) (hs : m' (Str.ofString "self") = some (.ref lx)) (hq : m' (Str.ofString "quoted") = some (.bool R.2.1)) : WS .brk ⟨h', s.gens, s.drawn, tk', s.os⟩ :=
  hWS _ _ ⟨rfl, h', tk', m', ts, tt, tl, v2, ln, rfl, F, he ▸ N, hs, hq⟩
theorem rt_end {w : World} {sx q1 q2 lx ld sd : Addr} {at_ vt : Nat → Tok} {wc : Str} {a0 a1 a2 : Int} {t0 t1 t2 v0 tx : Tok} {x : Str} {cm : Bool} {rest : List (Addr × Obj)} {R : Str × Bool × St × List Nat} {g' : Heap} {L' : Addr} {s s1 : Shared} {J : Nat → (Str → Option Value) → List (Addr × Obj) → Prop} {n : Nat} {WS : Flow → Shared → Prop} 
    (hWS : ∀ f s', WhileStep2 g' L' s1 J (RTM w sx q1 q2 lx ld sd at_ vt wc a0 a1 a2 t0 t1 t2 v0 tx x cm rest R g' L' s) n f s' → WS f s') ⦃h' : Heap⦄ ⦃tk' : Nat⦄ ⦃m' : Str → Option Value⦄ ⦃ts tt tl v2 : Tok⦄ ⦃ln : Int⦄ ⦃e : Int⦄ ⦃T : Str⦄ ⦃qz : Bool⦄ ⦃sz : St⦄ ⦃rm : List Nat⦄ (hR : some (T, qz, sz, rm) = some R) (F : Fr g' L' h' m') (he : e = ((x.length - rm.length : Nat) : Int)) (N : News g' L' h' ((ld, (lexO w.params sx q1 q2 at_ vt wc (.str (cmS cm) (vt 4)) true (stV sz ts) (.str T tt) (.int ln tl))) :: (sd, (dictOf [⟨a0, .str "_StringIO__newline" t0, .str (Str.ofString "\n") v0⟩, ⟨a1, .str "_StringIO__buf" t1, .str x tx⟩, ⟨a2, .str "_StringIO__pos" t2, .int e v2⟩] (nat_lit 3))) :: rest)) (hs : m' (Str.ofString "self") = some (.ref lx)) (hq : m' (Str.ofString "quoted") = some (.bool qz)) : WS .brk ⟨h', s.gens, s.drawn, tk', s.os⟩ := by
  cases hR; exact rt_brk hWS F he N hs hq
noncomputable def SpecT (w : World) : Prop := ∀ (sx q1 q2 lx ld sd : Addr) (at_ vt : Nat → Tok) (wc : Str) (a0 a1 a2 : Int) (t0 t1 t2 v0 tx : Tok) (x : Str) (p : Nat) (cm : Bool) (st : St) (k : Nat) (ts tt tl v2 : Tok) (ln : Int) (R : Str × Bool × St × List Nat) (hx : x.length ≤ 100000) (hp : p ≤ x.length) (hwc : Txt.contains wc (Str.ofString "'") = false) (hrun : run k cm st (Str.ofString "") false ((Mine.L x).drop p) = some R)
    {dp un : Nat} {gd : Option (List Code)} {cn : Str} {cs : Scope} {a : Addr} {ccd : Value} {cl : List (Str × Addr)} {outer : List Env} {A₀ : Around} {base h₀ : Heap} {L : Addr} {m mg mb : Str → Option Value} {mean : ExcName → Option Value} {rest : List (Addr × Obj)} {s : Shared} {Q E : Value → Shared → Prop}
    (B : Below A₀ base outer h₀) (F : Fr h₀ L s.heap m) (X : (K w.params).In h₀) (N : News h₀ L s.heap ((ld, (lexO w.params sx q1 q2 at_ vt wc (.str (cmS cm) (vt 4)) true (stV st ts) (.str (Str.ofString "") tt) (.int ln tl))) :: (sd, (dictOf [⟨a0, .str "_StringIO__newline" t0, .str (Str.ofString "\n") v0⟩, ⟨a1, .str "_StringIO__buf" t1, .str x tx⟩, ⟨a2, .str "_StringIO__pos" t2, .int (p : Int) v2⟩] (nat_lit 3))) :: rest)) (T : Top q (looseW q loose) mean mg mb h₀) (hk : cs.kind = .function) (hd : dp + 20 < recursionLimit) (hu : un + 100 < cLine)
    (h1 : (lx, instObj 778 ld) ∈ rest) (h2 : (sx, instObj 643 sd) ∈ rest) (hn1 : ∀ p ∈ rest, p.1 ≠ ld) (hn2 : ∀ p ∈ rest, p.1 ≠ sd) (hls : @Ne Nat ld sd)
    (hret : ∀ (t ts' tt' tl' v2' : Tok) (ln' : Int) h' tk', Fr h₀ L h' m → News h₀ L h' ((ld, (lexO w.params sx q1 q2 at_ vt wc (.str (cmS cm) (vt 4)) true (stV R.2.2.1 ts') (.str (Str.ofString "") tt') (.int ln' tl'))) :: (sd, (dictOf [⟨a0, .str "_StringIO__newline" t0, .str (Str.ofString "\n") v0⟩, ⟨a1, .str "_StringIO__buf" t1, .str x tx⟩, ⟨a2, .str "_StringIO__pos" t2, .int ((x.length - R.2.2.2.length : Nat) : Int) v2'⟩] (nat_lit 3))) :: rest) → Q (if R.1.length = 0 ∧ R.2.1 = false then .none else .str R.1 t) { s with heap := h', toks := tk' }),
    wpAny (model PySem.Challenge.pw_kt0081_01 w) (ktrTop dp un gd cn cs L a ccd cl outer) (call (.ref 746) [.ref lx]) Q E s
theorem sp_read_token (w : World) : SpecT w := by
  unfold SpecT
  intro sx q1 q2 lx ld sd at_ vt wc a0 a1 a2 t0 t1 t2 v0 tx x p cm st k ts tt tl v2 ln R hx hp hwc hrun dp un gd cn cs a ccd cl outer A₀ base h₀ L m mg mb mean rest s Q E B F X N T hk hd hu h1 h2 hn1 hn2 hls hret
  refine wpAny_call ?_
  refine' enterA (binds := [("self", .ref lx)]) ?k6 ?ks ?k7 ?k9 ?kB ?c2 ?c3 ?c4 ?c5 ?k1 ?k2 ?k3 ?k4 ?k5 ?kK ?k8 ?_
  case k1 => assumption
  case k2 => assumption
  case k3 => assumption
  case k4 => assumption
  case k5 => assumption
  case kK => assumption
  case k6 => k_dflt k_is
  case ks => exact rfl
  case k7 => k_dflt k_is
  case k8 => exact Nat.lt_of_le_of_lt (Nat.le_add_right _ _) hd
  case k9 => intro s X; exact BindsTo.of_eq rfl
  case c5 => decide
  case kB => exact locs rfl
  case c2 => exact rfl
  case c3 => exact rfl
  case c4 => exact rfl
  intro g' h' L' tk' WQ WE B' F' X' N' T' hR' htk' hPO
  simp only [List.reverse_cons, List.reverse_nil, List.nil_append, List.cons_append, lookF, lookE] at F'
  show (let zV := _; let zA := _; wpAny _ zA (execs _ zV) _ _ _)
  intro zV zA
  k_steps
  unfold WhileHere
  (with_reducible rename Fr _ _ _ _ => zF); (with_reducible rename News _ _ _ _ => zN)
  have hsl : @Ne Nat sd ld := fun z => hls z.symm
  have hsl2 : @Ne Addr sd ld := fun z => hls z.symm
  have hls2 : @Ne Addr ld sd := hls
  refine wpAny_mono (While_inv3 (n₀ := x.length - p + 1) (Q := RTM w sx q1 q2 lx ld sd at_ vt wc a0 a1 a2 t0 t1 t2 v0 tx x cm rest R g' L' s) (RTJ w sx q1 q2 lx ld sd at_ vt wc a0 a1 a2 t0 t1 t2 v0 tx x cm rest R) zF zN ?hj ?turn) (fun f s' hm => ?after) (fun _ _ e => e)
  case hj => exact ⟨st, _, false, p, k, ts, tt, tl, v2, ln, by (first | (simp only [upd, noFr, ↓lookA, ↓reduceIte, ofString_eq, String.reduceEq]; rfl) | rfl), by (first | (simp only [upd, noFr, ↓lookA, ↓reduceIte, ofString_eq, String.reduceEq]; rfl) | rfl), rfl, hp, rfl, Nat.zero_le _, hrun⟩
  case after =>
    obtain ⟨tok, qd, st', rem⟩ := R
    obtain ⟨rfl, h', T', m', ts', tt', tl', v2', ln', rfl, F', N', hms, hmq⟩ := hm
    dsimp only at N' hret F' hmq ⊢
    cases qd with
    | true =>
      k_steps
      (with_reducible rename News g' L' _ _ => zN)
      have e : ∀ t, (if tok.length = 0 ∧ true = false then Value.none else .str tok t) = .str tok t := fun t => if_neg (fun z => nomatch z.2)
      simp only [↓e] at hret
      exact hR' (fun F N => hret tt' ts' _ tl' v2' ln' _ _ F N) (by with_reducible assumption) zN
    | false =>
      by_cases hl : tok.length = 0
      · have ht : (tok == Str.ofString "") = true := by
          have : tok = Str.ofString "" := by
            apply L_inj
            rw [L_no]
            exact List.length_eq_zero_iff.mp (by rw [L_length]; exact hl)
          rw [this]; simp
        (k_steps; repeat' (((with_reducible refine hold_in ?_); ((with_reducible show wpAny _ _ (compareOp _ (Value.str _ _) (Value.str _ _)) _ _ _); (with_reducible refine' eqStrF (by with_reducible assumption) ?_); (try dsimp only))); (all_goals (try k_steps))))
        (with_reducible rename News g' L' _ _ => zN)
        have e : ∀ t, (if tok.length = 0 ∧ false = false then Value.none else .str tok t) = .none := fun t => if_pos ⟨hl, rfl⟩
        simp only [↓e] at hret
        exact hR' (fun F N => hret 0 ts' _ tl' v2' ln' _ _ F N) (by with_reducible assumption) zN
      · have ht : (tok == Str.ofString "") = false := beq_eq_false_iff_ne.mpr (fun e => hl (by rw [e]; rfl))
        (k_steps; repeat' (((with_reducible refine hold_in ?_); ((with_reducible show wpAny _ _ (compareOp _ (Value.str _ _) (Value.str _ _)) _ _ _); (with_reducible refine' eqStrF (by with_reducible assumption) ?_); (try dsimp only))); (all_goals (try k_steps))))
        (with_reducible rename News g' L' _ _ => zN)
        have e : ∀ t, (if tok.length = 0 ∧ false = false then Value.none else .str tok t) = .str tok t := fun t => if_neg (fun z => hl z.1)
        simp only [↓e] at hret
        exact hR' (fun F N => hret tt' ts' _ tl' v2' ln' _ _ F N) (by with_reducible assumption) zN
  case turn =>
    clear hret hrun hp
    intro n m₁ nw h tk0 WS WN hWS F' N' hJ
    have hnx := rt_next (s := s) hWS
    have hbk := rt_end hWS
    clear hWS
    obtain ⟨st, tkz, qdz, pz, kz, ts, tt, tl, v2, ln, hms, hmq, rfl, hp, rfl, htk, hrun⟩ := hJ
    cases kz with
    | zero => cases hrun
    | succ kz =>
      rcases Nat.lt_or_ge pz x.length with hlt | hge
      · obtain ⟨c, r, hdrop, hone, hdrop', hlen⟩ := sign_at x hlt
        rw [hdrop] at hrun
        have e1 : ((⟨#[c]⟩ : Str) == Str.ofString "\n") = decide (c = 10) := eq1 c 10 _ nl_is
        have e7 : ((((⟨#[c]⟩ : Str).length : Nat) : Int) != 0) = true := rfl
        have e8 : (⟨#[c]⟩ : Str).length = 1 := rfl
        have hs1 : tkz.length ≤ 200000 := Nat.le_trans htk (Nat.le_trans hp (Nat.le_trans hx (by decide)))
        have hs2 : tkz.length + (⟨#[c]⟩ : Str).length ≤ 16777216 := Nat.le_trans (Nat.add_le_add_right hs1 1) (by decide)
        (k_steps; repeat' (first | (((with_reducible refine hold_in ?_); ((with_reducible show wpAny _ _ (compareOp _ (Value.str _ _) (Value.str _ _)) _ _ _); (with_reducible refine' eqStrF (by with_reducible assumption) ?_); (try dsimp only))); (all_goals (try k_steps))) | (((with_reducible refine hold_in ?_); ((with_reducible show wpAny _ _ (getAttr _ (Str.ofString "punctuation_chars") _) _ _ _); k_dflt (refine' get_pc _ _ _ _ _ _ _ _ _ _ _ _ _ _ (by k_asm) (by k_asm) (by k_asm) (by k_asm) (by k_asm) (by exact rfl) (by exact roomP (by assumption)) (by exact unitP (by assumption)) (by k_mem) (by k_mem) ?_); intro h' tk' F' N'; (try dsimp only))); (all_goals (try k_steps))) | (((with_reducible show wpAny _ _ (call (Value.ref 589) _) _ _ _); k_dflt (refine' SpecU.go (sp_readz2 _ _ _ _ _ _ _ _ _ _ _ _ _ _ _ _ (by assumption) (by assumption) (by assumption)) ?_); intro z9t' z9t2' z9h' z9tk' z9F' z9N'; (try dsimp only); (try k_sweep)); all_goals (try k_steps))))
        · rename c = 10 => z10
          subst z10
          cases st with
          | S =>
            exact absurd hrun (fun z => nomatch (show (none : Option (Str × Bool × St × List Nat)) = some R from z))
          | A =>
            (with_reducible rename News g' L' _ _ => zN1)
            dsimp only [stV] at zN1 ⊢
            have g1 : ((Str.ofString "a") == Str.ofString " ") = false := by decide +kernel
            have g2 : Txt.contains (Str.ofString "'\"") (Str.ofString "a") = false := by decide +kernel
            have g3 : Txt.contains (Str.ofString "\\") (Str.ofString "a") = false := by decide +kernel
            have g4 : Txt.contains (Str.ofString "\"") (Str.ofString "a") = false := by decide +kernel
            have g5 : ((Str.ofString "a") == Str.ofString "c") = false := by decide +kernel
            have e2 : Txt.contains (Str.ofString " \t\r\n") ⟨#[10]⟩ = true := (in1 _ 10 _ L_ws).trans rfl
            obtain ⟨hz, hR⟩ := A_end hrun (.inr rfl)
            (k_steps; repeat' (((with_reducible refine hold_in ?_); ((with_reducible show wpAny _ _ (compareOp _ (Value.str _ _) (Value.str _ _)) _ _ _); (with_reducible refine' eqStrF (by with_reducible assumption) ?_); (try dsimp only))); (all_goals (try k_steps))))
            · rename (((tkz.length : Nat) : Int) ≠ 0) => z1
              (try dsimp only)
              (with_reducible rename Fr g' L' _ _ => zF2); (with_reducible rename News g' L' _ _ => zN2)
              refine' hbk hR zF2 ?ze1 ?zN1 ?zs1 ?zq1
              case zN1 => first | exact front1 zN2 | exact front1 (newsTail zN2) | exact mid3 zN2 | exact zN2
              case ze1 => exact ep1 hlen
              case zs1 => (first | (simp only [upd, noFr, ↓lookA, ↓reduceIte, ofString_eq, String.reduceEq]; first | rfl | with_reducible assumption) | rfl | with_reducible assumption)
              case zq1 => (first | (simp only [upd, noFr, ↓lookA, ↓reduceIte, ofString_eq, String.reduceEq]; first | rfl | with_reducible assumption) | rfl | with_reducible assumption)
            · rename qdz = true => z1
              (try dsimp only)
              (with_reducible rename Fr g' L' _ _ => zF2); (with_reducible rename News g' L' _ _ => zN2)
              refine' hbk hR zF2 ?ze2 ?zN2 ?zs2 ?zq2
              case zN2 => first | exact front1 zN2 | exact front1 (newsTail zN2) | exact mid3 zN2 | exact zN2
              case ze2 => exact ep1 hlen
              case zs2 => (first | (simp only [upd, noFr, ↓lookA, ↓reduceIte, ofString_eq, String.reduceEq]; first | rfl | with_reducible assumption) | rfl | with_reducible assumption)
              case zq2 => (first | (simp only [upd, noFr, ↓lookA, ↓reduceIte, ofString_eq, String.reduceEq]; first | rfl | with_reducible assumption) | rfl | with_reducible assumption)
            · rename qdz = false => z1
              rename (((tkz.length : Nat) : Int) = 0) => z2
              exfalso
              exact hz.elim (fun y => y (Int.ofNat.inj z2)) (fun y => nomatch y.symm.trans z1)
          | Q1 =>
            (with_reducible rename News g' L' _ _ => zN1)
            dsimp only [stV] at zN1 ⊢
            have g1 : ((Str.ofString "'") == Str.ofString " ") = false := by decide +kernel
            have g2 : Txt.contains (Str.ofString "'\"") (Str.ofString "'") = true := by decide +kernel
            have g3 : Txt.contains (Str.ofString "\\") (Str.ofString "'") = false := by decide +kernel
            have g4 : Txt.contains (Str.ofString "\"") (Str.ofString "'") = false := by decide +kernel
            have g5 : ((Str.ofString "'") == Str.ofString "c") = false := by decide +kernel
            have e4 : Txt.contains (Str.ofString "\\") ⟨#[10]⟩ = false := (in1 _ 10 _ L_bs).trans rfl
            have f1 : ((⟨#[10]⟩ : Str) == Str.ofString "'") = false := by rw [eq1 10 39 _ q_is]; rfl
            replace hrun : run kz cm .Q1 (tkz ++ ⟨#[10]⟩) true r = some R := hrun
            (k_steps; repeat' (((with_reducible refine hold_in ?_); ((with_reducible show wpAny _ _ (compareOp _ (Value.str _ _) (Value.str _ _)) _ _ _); (with_reducible refine' eqStrF (by with_reducible assumption) ?_); (try dsimp only))); (all_goals (try k_steps))))
            (with_reducible rename Fr g' L' _ _ => zF2); (with_reducible rename News g' L' _ _ => zN2)
            refine' hnx .Q1 (tkz ++ ⟨#[10]⟩) true (pz + 1) kz ?zf3 zF2 ?zN3 ?zs3 ?zq3 ?za3 ?zb3 ?zc3 ?zr3
            case zf3 => first | exact .inl rfl | exact .inr rfl
            case zN3 => first | exact front1 zN2 | exact front1 (newsTail zN2) | exact zN2
            case zs3 => (first | (simp only [upd, noFr, ↓lookA, ↓reduceIte, ofString_eq, String.reduceEq]; first | rfl | with_reducible assumption) | rfl | with_reducible assumption)
            case zq3 => (first | (simp only [upd, noFr, ↓lookA, ↓reduceIte, ofString_eq, String.reduceEq]; first | rfl | with_reducible assumption) | rfl | with_reducible assumption)
            case za3 => exact hlt
            case zb3 => exact stp hlt
            case zc3 => exact (app1_le htk)
            case zr3 => exact by rw [hdrop']; exact hrun
          | Q2 =>
            exact absurd hrun (fun z => nomatch (show (none : Option (Str × Bool × St × List Nat)) = some R from z))
          | N =>
            exact absurd hrun (fun z => nomatch (show (none : Option (Str × Bool × St × List Nat)) = some R from z))
        · rename ¬ (c = 10) => z10
          cases st with
          | S =>
            (with_reducible rename News g' L' _ _ => zN1)
            dsimp only [stV] at zN1 ⊢
            have g1 : ((Str.ofString " ") == Str.ofString " ") = true := by decide +kernel
            have g2 : Txt.contains (Str.ofString "'\"") (Str.ofString " ") = false := by decide +kernel
            have g3 : Txt.contains (Str.ofString "\\") (Str.ofString " ") = false := by decide +kernel
            have g4 : Txt.contains (Str.ofString "\"") (Str.ofString " ") = false := by decide +kernel
            have g5 : ((Str.ofString " ") == Str.ofString "c") = false := by decide +kernel
            have b1 := S_no hrun
            have w1 := S_ws hrun
            have w2 : c ≠ 92 := fun z => b1 (.inr (.inl z))
            have w4 : c ≠ 34 := fun z => b1 (.inr (.inr z))
            have e2 : Txt.contains (Str.ofString " \t\r\n") ⟨#[c]⟩ = false := (in1 _ c _ L_ws).trans (decide_eq_false (by simp [w1.1, w1.2.1, w1.2.2.1, w1.2.2.2]))
            have e3 : Txt.contains (cmS cm) ⟨#[c]⟩ = decide (c = 35 ∧ cm = true) := (in1 _ c _ (L_cm cm)).trans (by cases cm <;> simp)
            have e4 : Txt.contains (Str.ofString "\\") ⟨#[c]⟩ = false := (in1 _ c _ L_bs).trans (decide_eq_false (by simp [w2]))
            have e5 : Txt.contains (Str.ofString "'\"") ⟨#[c]⟩ = decide (c = 39) := (in1 _ c _ L_q2).trans (by simp [w4])
            have e6 : Txt.contains (Str.ofString "") ⟨#[c]⟩ = false := in1 _ c _ L_no
            have e9 : Txt.contains wc ⟨#[c]⟩ = decide (Txt.contains wc ⟨#[c]⟩ = true) := by cases Txt.contains wc ⟨#[c]⟩ <;> rfl
            (k_steps; repeat' (first | (((with_reducible refine hold_in ?_); ((with_reducible show wpAny _ _ (compareOp _ (Value.str _ _) (Value.str _ _)) _ _ _); (with_reducible refine' eqStrF (by with_reducible assumption) ?_); (try dsimp only))); (all_goals (try k_steps))) | (((with_reducible refine hold_in ?_); ((with_reducible show wpAny _ _ (getAttr _ (Str.ofString "punctuation_chars") _) _ _ _); k_dflt (refine' get_pc _ _ _ _ _ _ _ _ _ _ _ _ _ _ (by k_asm) (by k_asm) (by k_asm) (by k_asm) (by k_asm) (by exact rfl) (by exact roomP (by assumption)) (by exact unitP (by assumption)) (by k_mem) (by k_mem) ?_); intro h' tk' F' N'; (try dsimp only))); (all_goals (try k_steps)))))
            · rename c = 35 ∧ cm = true => z35
              obtain ⟨c0, r2, hr, h0, hrun2⟩ := S_cm hrun z35
              have hlen3 : pz + 3 ≤ x.length := ge3 (hr ▸ hlen)
              have hp1 : pz + 1 < x.length := Nat.le_of_succ_le hlen3
              have hnl : nlAt x (pz + 1) = ((pz + 1 + 1 : Nat) : Int) := nl_next x (pz + 1) c0 r2 h0 (hdrop'.trans hr)
              have hd3 : (Mine.L x).drop (pz + 1 + 1 + 1) = r2 := by rw [show pz + 1 + 1 + 1 = pz + 1 + 2 from rfl, ← List.drop_drop, hdrop', hr]; rfl
              (k_steps; repeat' (((with_reducible show wpAny _ _ (call (Value.ref 597) _) _ _ _); k_dflt (refine' SpecU.go (sp_rl_found _ _ _ _ _ _ _ _ _ _ _ _ _ _ _ (by assumption) (by assumption) (by assumption)) ?_); intro z9t' z9t2' z9h' z9tk' z9F' z9N'; (try dsimp only); (try k_sweep)); all_goals (try k_steps)))
              (with_reducible rename Fr g' L' _ _ => zF2); (with_reducible rename News g' L' _ _ => zN2)
              refine' hnx .S tkz qdz (pz + 1 + 1 + 1) kz ?zf8 zF2 ?zN8 ?zs8 ?zq8 ?za8 ?zb8 ?zc8 ?zr8
              case zf8 => first | exact .inl rfl | exact .inr rfl
              case zN8 => first | exact front1 zN2 | exact front1 (newsTail zN2) | exact zN2
              case zs8 => (first | (simp only [upd, noFr, ↓lookA, ↓reduceIte, ofString_eq, String.reduceEq]; first | rfl | with_reducible assumption) | rfl | with_reducible assumption)
              case zq8 => (first | (simp only [upd, noFr, ↓lookA, ↓reduceIte, ofString_eq, String.reduceEq]; first | rfl | with_reducible assumption) | rfl | with_reducible assumption)
              case za8 => exact hlen3
              case zb8 => exact stp3 hlen3
              case zc8 => exact (le3 htk)
              case zr8 => exact by rw [hd3]; exact hrun2
            all_goals rename ¬ (c = 35 ∧ cm = true) => z35
            · rename Txt.contains wc ⟨#[c]⟩ = true => zw
              have z39 : c ≠ 39 := fun z => by rw [z, ← q_is, hwc] at zw; cases zw
              replace hrun := S_a hrun z35 z39
              (with_reducible rename Fr g' L' _ _ => zF2); (with_reducible rename News g' L' _ _ => zN2)
              refine' hnx .A (⟨#[c]⟩) qdz (pz + 1) kz ?zf9 zF2 ?zN9 ?zs9 ?zq9 ?za9 ?zb9 ?zc9 ?zr9
              case zf9 => first | exact .inl rfl | exact .inr rfl
              case zN9 => first | exact front1 zN2 | exact front1 (newsTail zN2) | exact zN2
              case zs9 => (first | (simp only [upd, noFr, ↓lookA, ↓reduceIte, ofString_eq, String.reduceEq]; first | rfl | with_reducible assumption) | rfl | with_reducible assumption)
              case zq9 => (first | (simp only [upd, noFr, ↓lookA, ↓reduceIte, ofString_eq, String.reduceEq]; first | rfl | with_reducible assumption) | rfl | with_reducible assumption)
              case za9 => exact hlt
              case zb9 => exact stp hlt
              case zc9 => exact (Nat.le_add_left 1 pz)
              case zr9 => exact by rw [hdrop']; exact hrun
            · rename c = 39 => z39
              replace hrun := S_q hrun z39
              (with_reducible rename News g' L' _ _ => zN2)
              rw [sgn_eq z39 q_is] at zN2
              (with_reducible rename Fr g' L' _ _ => zF2); (with_reducible rename News g' L' _ _ => zN2)
              refine' hnx .Q1 tkz qdz (pz + 1) kz ?zf10 zF2 ?zN10 ?zs10 ?zq10 ?za10 ?zb10 ?zc10 ?zr10
              case zf10 => first | exact .inl rfl | exact .inr rfl
              case zN10 => first | exact front1 zN2 | exact front1 (newsTail zN2) | exact zN2
              case zs10 => (first | (simp only [upd, noFr, ↓lookA, ↓reduceIte, ofString_eq, String.reduceEq]; first | rfl | with_reducible assumption) | rfl | with_reducible assumption)
              case zq10 => (first | (simp only [upd, noFr, ↓lookA, ↓reduceIte, ofString_eq, String.reduceEq]; first | rfl | with_reducible assumption) | rfl | with_reducible assumption)
              case za10 => exact hlt
              case zb10 => exact stp hlt
              case zc10 => exact (Nat.le_succ_of_le htk)
              case zr10 => exact by rw [hdrop']; exact hrun
            · rename ¬ (c = 39) => z39
              replace hrun := S_a hrun z35 z39
              (with_reducible rename Fr g' L' _ _ => zF2); (with_reducible rename News g' L' _ _ => zN2)
              refine' hnx .A (⟨#[c]⟩) qdz (pz + 1) kz ?zf11 zF2 ?zN11 ?zs11 ?zq11 ?za11 ?zb11 ?zc11 ?zr11
              case zf11 => first | exact .inl rfl | exact .inr rfl
              case zN11 => first | exact front1 zN2 | exact front1 (newsTail zN2) | exact zN2
              case zs11 => (first | (simp only [upd, noFr, ↓lookA, ↓reduceIte, ofString_eq, String.reduceEq]; first | rfl | with_reducible assumption) | rfl | with_reducible assumption)
              case zq11 => (first | (simp only [upd, noFr, ↓lookA, ↓reduceIte, ofString_eq, String.reduceEq]; first | rfl | with_reducible assumption) | rfl | with_reducible assumption)
              case za11 => exact hlt
              case zb11 => exact stp hlt
              case zc11 => exact (Nat.le_add_left 1 pz)
              case zr11 => exact by rw [hdrop']; exact hrun
          | A =>
            (with_reducible rename News g' L' _ _ => zN1)
            dsimp only [stV] at zN1 ⊢
            have g1 : ((Str.ofString "a") == Str.ofString " ") = false := by decide +kernel
            have g2 : Txt.contains (Str.ofString "'\"") (Str.ofString "a") = false := by decide +kernel
            have g3 : Txt.contains (Str.ofString "\\") (Str.ofString "a") = false := by decide +kernel
            have g4 : Txt.contains (Str.ofString "\"") (Str.ofString "a") = false := by decide +kernel
            have g5 : ((Str.ofString "a") == Str.ofString "c") = false := by decide +kernel
            have w2 := (A_ws hrun z10).1
            have e2 : Txt.contains (Str.ofString " \t\r\n") ⟨#[c]⟩ = decide (c = 32) := (in1 _ c _ L_ws).trans (by
              have h2 := (A_ws hrun z10).2
              simp only [List.mem_cons, List.not_mem_nil, or_false]; exact decide_eq_decide.mpr h2)
            have e3 : Txt.contains (cmS cm) ⟨#[c]⟩ = decide (c = 35 ∧ cm = true) := (in1 _ c _ (L_cm cm)).trans (by cases cm <;> simp)
            have e4 : Txt.contains (Str.ofString "\\") ⟨#[c]⟩ = false := (in1 _ c _ L_bs).trans (decide_eq_false (by simp [w2]))
            have e5 : Txt.contains (Str.ofString "'\"") ⟨#[c]⟩ = decide (c = 39 ∨ c = 34) := (in1 _ c _ L_q2).trans (by simp)
            have e6 : Txt.contains (Str.ofString "") ⟨#[c]⟩ = false := in1 _ c _ L_no
            have e9 : Txt.contains wc ⟨#[c]⟩ = decide (Txt.contains wc ⟨#[c]⟩ = true) := by cases Txt.contains wc ⟨#[c]⟩ <;> rfl
            (k_steps; repeat' (first | (((with_reducible refine hold_in ?_); ((with_reducible show wpAny _ _ (compareOp _ (Value.str _ _) (Value.str _ _)) _ _ _); (with_reducible refine' eqStrF (by with_reducible assumption) ?_); (try dsimp only))); (all_goals (try k_steps))) | (((with_reducible refine hold_in ?_); ((with_reducible show wpAny _ _ (getAttr _ (Str.ofString "punctuation_chars") _) _ _ _); k_dflt (refine' get_pc _ _ _ _ _ _ _ _ _ _ _ _ _ _ (by k_asm) (by k_asm) (by k_asm) (by k_asm) (by k_asm) (by exact rfl) (by exact roomP (by assumption)) (by exact unitP (by assumption)) (by k_mem) (by k_mem) ?_); intro h' tk' F' N'; (try dsimp only))); (all_goals (try k_steps)))))
            · rename (((tkz.length : Nat) : Int) ≠ 0) => z1
              rename c = 32 => z32
              have hR := (A_end hrun (.inl z32)).2
              (try dsimp only)
              (with_reducible rename Fr g' L' _ _ => zF2); (with_reducible rename News g' L' _ _ => zN2)
              refine' hbk hR zF2 ?ze12 ?zN12 ?zs12 ?zq12
              case zN12 => first | exact front1 zN2 | exact front1 (newsTail zN2) | exact mid3 zN2 | exact zN2
              case ze12 => exact ep1 hlen
              case zs12 => (first | (simp only [upd, noFr, ↓lookA, ↓reduceIte, ofString_eq, String.reduceEq]; first | rfl | with_reducible assumption) | rfl | with_reducible assumption)
              case zq12 => (first | (simp only [upd, noFr, ↓lookA, ↓reduceIte, ofString_eq, String.reduceEq]; first | rfl | with_reducible assumption) | rfl | with_reducible assumption)
            · rename qdz = true => z1
              rename c = 32 => z32
              have hR := (A_end hrun (.inl z32)).2
              (try dsimp only)
              (with_reducible rename Fr g' L' _ _ => zF2); (with_reducible rename News g' L' _ _ => zN2)
              refine' hbk hR zF2 ?ze13 ?zN13 ?zs13 ?zq13
              case zN13 => first | exact front1 zN2 | exact front1 (newsTail zN2) | exact mid3 zN2 | exact zN2
              case ze13 => exact ep1 hlen
              case zs13 => (first | (simp only [upd, noFr, ↓lookA, ↓reduceIte, ofString_eq, String.reduceEq]; first | rfl | with_reducible assumption) | rfl | with_reducible assumption)
              case zq13 => (first | (simp only [upd, noFr, ↓lookA, ↓reduceIte, ofString_eq, String.reduceEq]; first | rfl | with_reducible assumption) | rfl | with_reducible assumption)
            · rename qdz = false => z1
              rename (((tkz.length : Nat) : Int) = 0) => z2
              exfalso
              rename c = 32 => z32
              exact (A_end hrun (.inl z32)).1.elim (fun y => y (Int.ofNat.inj z2)) (fun y => nomatch y.symm.trans z1)
            all_goals rename ¬ (c = 32) => z32
            all_goals have z0 : ¬ (c = 32 ∨ c = 10) := fun z => z.elim z32 z10
            · rename c = 35 ∧ cm = true => z35
              obtain ⟨b4, hR⟩ := A_cm hrun z0 z35
              have hp1 : pz + 1 < x.length := lt1 hlen (fun z => b4.2.1 (List.length_eq_zero_iff.mp z))
              have hnl : nlAt x (pz + 1) = -1 := nl_none x (pz + 1) (by rw [hdrop']; intro c hc e; subst e; exact b4.2.2 hc)
              have hT : (((tkz.length : Nat) : Int) != 0) = true := ne0 b4.1
              (k_steps; repeat' (((with_reducible show wpAny _ _ (call (Value.ref 597) _) _ _ _); k_dflt (refine' SpecU.go (sp_rl_none _ _ _ _ _ _ _ _ _ _ _ _ _ _ (by assumption) (by assumption) (by assumption)) ?_); intro z9t' z9t2' z9h' z9tk' z9F' z9N'; (try dsimp only); (try k_sweep)); all_goals (try k_steps)))
              (try dsimp only)
              (with_reducible rename Fr g' L' _ _ => zF2); (with_reducible rename News g' L' _ _ => zN2)
              refine' hbk hR zF2 ?ze14 ?zN14 ?zs14 ?zq14
              case zN14 => first | exact front1 zN2 | exact front1 (newsTail zN2) | exact mid3 zN2 | exact zN2
              case ze14 => rfl
              case zs14 => (first | (simp only [upd, noFr, ↓lookA, ↓reduceIte, ofString_eq, String.reduceEq]; first | rfl | with_reducible assumption) | rfl | with_reducible assumption)
              case zq14 => (first | (simp only [upd, noFr, ↓lookA, ↓reduceIte, ofString_eq, String.reduceEq]; first | rfl | with_reducible assumption) | rfl | with_reducible assumption)
            all_goals rename ¬ (c = 35 ∧ cm = true) => z35
            · rename c = 39 ∨ c = 34 => zq0
              by_cases z39 : c = 39
              · replace hrun := A_q1 hrun z39
                (with_reducible rename News g' L' _ _ => zN2)
                rw [sgn_eq z39 q_is] at zN2
                (with_reducible rename Fr g' L' _ _ => zF2); (with_reducible rename News g' L' _ _ => zN2)
                refine' hnx .Q1 tkz qdz (pz + 1) kz ?zf15 zF2 ?zN15 ?zs15 ?zq15 ?za15 ?zb15 ?zc15 ?zr15
                case zf15 => first | exact .inl rfl | exact .inr rfl
                case zN15 => first | exact front1 zN2 | exact front1 (newsTail zN2) | exact zN2
                case zs15 => (first | (simp only [upd, noFr, ↓lookA, ↓reduceIte, ofString_eq, String.reduceEq]; first | rfl | with_reducible assumption) | rfl | with_reducible assumption)
                case zq15 => (first | (simp only [upd, noFr, ↓lookA, ↓reduceIte, ofString_eq, String.reduceEq]; first | rfl | with_reducible assumption) | rfl | with_reducible assumption)
                case za15 => exact hlt
                case zb15 => exact stp hlt
                case zc15 => exact (Nat.le_succ_of_le htk)
                case zr15 => exact by rw [hdrop']; exact hrun
              · have z34 : c = 34 := zq0.elim (fun z => absurd z z39) id
                replace hrun := A_q2 hrun z34
                (with_reducible rename News g' L' _ _ => zN2)
                rw [sgn_eq z34 dq_is] at zN2
                (with_reducible rename Fr g' L' _ _ => zF2); (with_reducible rename News g' L' _ _ => zN2)
                refine' hnx .Q2 tkz qdz (pz + 1) kz ?zf16 zF2 ?zN16 ?zs16 ?zq16 ?za16 ?zb16 ?zc16 ?zr16
                case zf16 => first | exact .inl rfl | exact .inr rfl
                case zN16 => first | exact front1 zN2 | exact front1 (newsTail zN2) | exact zN2
                case zs16 => (first | (simp only [upd, noFr, ↓lookA, ↓reduceIte, ofString_eq, String.reduceEq]; first | rfl | with_reducible assumption) | rfl | with_reducible assumption)
                case zq16 => (first | (simp only [upd, noFr, ↓lookA, ↓reduceIte, ofString_eq, String.reduceEq]; first | rfl | with_reducible assumption) | rfl | with_reducible assumption)
                case za16 => exact hlt
                case zb16 => exact stp hlt
                case zc16 => exact (Nat.le_succ_of_le htk)
                case zr16 => exact by rw [hdrop']; exact hrun
            all_goals rename ¬ (c = 39 ∨ c = 34) => zq0
            all_goals replace hrun := A_a hrun z0 z35 zq0
            · (with_reducible rename Fr g' L' _ _ => zF2); (with_reducible rename News g' L' _ _ => zN2)
              refine' hnx .A (tkz ++ ⟨#[c]⟩) qdz (pz + 1) kz ?zf17 zF2 ?zN17 ?zs17 ?zq17 ?za17 ?zb17 ?zc17 ?zr17
              case zf17 => first | exact .inl rfl | exact .inr rfl
              case zN17 => first | exact front1 zN2 | exact front1 (newsTail zN2) | exact zN2
              case zs17 => (first | (simp only [upd, noFr, ↓lookA, ↓reduceIte, ofString_eq, String.reduceEq]; first | rfl | with_reducible assumption) | rfl | with_reducible assumption)
              case zq17 => (first | (simp only [upd, noFr, ↓lookA, ↓reduceIte, ofString_eq, String.reduceEq]; first | rfl | with_reducible assumption) | rfl | with_reducible assumption)
              case za17 => exact hlt
              case zb17 => exact stp hlt
              case zc17 => exact (app1_le htk)
              case zr17 => exact by rw [hdrop']; exact hrun
            · (with_reducible rename Fr g' L' _ _ => zF2); (with_reducible rename News g' L' _ _ => zN2)
              refine' hnx .A (tkz ++ ⟨#[c]⟩) qdz (pz + 1) kz ?zf18 zF2 ?zN18 ?zs18 ?zq18 ?za18 ?zb18 ?zc18 ?zr18
              case zf18 => first | exact .inl rfl | exact .inr rfl
              case zN18 => first | exact front1 zN2 | exact front1 (newsTail zN2) | exact zN2
              case zs18 => (first | (simp only [upd, noFr, ↓lookA, ↓reduceIte, ofString_eq, String.reduceEq]; first | rfl | with_reducible assumption) | rfl | with_reducible assumption)
              case zq18 => (first | (simp only [upd, noFr, ↓lookA, ↓reduceIte, ofString_eq, String.reduceEq]; first | rfl | with_reducible assumption) | rfl | with_reducible assumption)
              case za18 => exact hlt
              case zb18 => exact stp hlt
              case zc18 => exact (app1_le htk)
              case zr18 => exact by rw [hdrop']; exact hrun
          | Q1 =>
            (with_reducible rename News g' L' _ _ => zN1)
            dsimp only [stV] at zN1 ⊢
            have g1 : ((Str.ofString "'") == Str.ofString " ") = false := by decide +kernel
            have g2 : Txt.contains (Str.ofString "'\"") (Str.ofString "'") = true := by decide +kernel
            have g3 : Txt.contains (Str.ofString "\\") (Str.ofString "'") = false := by decide +kernel
            have g4 : Txt.contains (Str.ofString "\"") (Str.ofString "'") = false := by decide +kernel
            have g5 : ((Str.ofString "'") == Str.ofString "c") = false := by decide +kernel
            have e4 : Txt.contains (Str.ofString "\\") ⟨#[c]⟩ = decide (c ∈ [92]) := in1 _ c _ L_bs
            have f1 : ((⟨#[c]⟩ : Str) == Str.ofString "'") = decide (c = 39) := eq1 c 39 _ q_is
            (k_steps; repeat' (((with_reducible refine hold_in ?_); ((with_reducible show wpAny _ _ (compareOp _ (Value.str _ _) (Value.str _ _)) _ _ _); (with_reducible refine' eqStrF (by with_reducible assumption) ?_); (try dsimp only))); (all_goals (try k_steps))))
            · rename c = 39 => z39
              replace hrun := Q1_q hrun z39
              (with_reducible rename Fr g' L' _ _ => zF2); (with_reducible rename News g' L' _ _ => zN2)
              refine' hnx .A tkz true (pz + 1) kz ?zf4 zF2 ?zN4 ?zs4 ?zq4 ?za4 ?zb4 ?zc4 ?zr4
              case zf4 => first | exact .inl rfl | exact .inr rfl
              case zN4 => first | exact front1 zN2 | exact front1 (newsTail zN2) | exact zN2
              case zs4 => (first | (simp only [upd, noFr, ↓lookA, ↓reduceIte, ofString_eq, String.reduceEq]; first | rfl | with_reducible assumption) | rfl | with_reducible assumption)
              case zq4 => (first | (simp only [upd, noFr, ↓lookA, ↓reduceIte, ofString_eq, String.reduceEq]; first | rfl | with_reducible assumption) | rfl | with_reducible assumption)
              case za4 => exact hlt
              case zb4 => exact stp hlt
              case zc4 => exact (Nat.le_succ_of_le htk)
              case zr4 => exact by rw [hdrop']; exact hrun
            all_goals rename ¬ (c = 39) => z39
            all_goals replace hrun := Q1_a hrun z39
            · (with_reducible rename Fr g' L' _ _ => zF2); (with_reducible rename News g' L' _ _ => zN2)
              refine' hnx .Q1 (tkz ++ ⟨#[c]⟩) true (pz + 1) kz ?zf5 zF2 ?zN5 ?zs5 ?zq5 ?za5 ?zb5 ?zc5 ?zr5
              case zf5 => first | exact .inl rfl | exact .inr rfl
              case zN5 => first | exact front1 zN2 | exact front1 (newsTail zN2) | exact zN2
              case zs5 => (first | (simp only [upd, noFr, ↓lookA, ↓reduceIte, ofString_eq, String.reduceEq]; first | rfl | with_reducible assumption) | rfl | with_reducible assumption)
              case zq5 => (first | (simp only [upd, noFr, ↓lookA, ↓reduceIte, ofString_eq, String.reduceEq]; first | rfl | with_reducible assumption) | rfl | with_reducible assumption)
              case za5 => exact hlt
              case zb5 => exact stp hlt
              case zc5 => exact (app1_le htk)
              case zr5 => exact by rw [hdrop']; exact hrun
            · (with_reducible rename Fr g' L' _ _ => zF2); (with_reducible rename News g' L' _ _ => zN2)
              refine' hnx .Q1 (tkz ++ ⟨#[c]⟩) true (pz + 1) kz ?zf5 zF2 ?zN5 ?zs5 ?zq5 ?za5 ?zb5 ?zc5 ?zr5
              case zf5 => first | exact .inl rfl | exact .inr rfl
              case zN5 => first | exact front1 zN2 | exact front1 (newsTail zN2) | exact zN2
              case zs5 => (first | (simp only [upd, noFr, ↓lookA, ↓reduceIte, ofString_eq, String.reduceEq]; first | rfl | with_reducible assumption) | rfl | with_reducible assumption)
              case zq5 => (first | (simp only [upd, noFr, ↓lookA, ↓reduceIte, ofString_eq, String.reduceEq]; first | rfl | with_reducible assumption) | rfl | with_reducible assumption)
              case za5 => exact hlt
              case zb5 => exact stp hlt
              case zc5 => exact (app1_le htk)
              case zr5 => exact by rw [hdrop']; exact hrun
          | Q2 =>
            (with_reducible rename News g' L' _ _ => zN1)
            dsimp only [stV] at zN1 ⊢
            have g1 : ((Str.ofString "\"") == Str.ofString " ") = false := by decide +kernel
            have g2 : Txt.contains (Str.ofString "'\"") (Str.ofString "\"") = true := by decide +kernel
            have g3 : Txt.contains (Str.ofString "\\") (Str.ofString "\"") = false := by decide +kernel
            have g4 : Txt.contains (Str.ofString "\"") (Str.ofString "\"") = true := by decide +kernel
            have g5 : ((Str.ofString "\"") == Str.ofString "c") = false := by decide +kernel
            have e4 : Txt.contains (Str.ofString "\\") ⟨#[c]⟩ = false := (in1 _ c _ L_bs).trans (decide_eq_false (by simp [Q2_c hrun]))
            have f1 : ((⟨#[c]⟩ : Str) == Str.ofString "\"") = decide (c = 34) := eq1 c 34 _ dq_is
            (k_steps; repeat' (((with_reducible refine hold_in ?_); ((with_reducible show wpAny _ _ (compareOp _ (Value.str _ _) (Value.str _ _)) _ _ _); (with_reducible refine' eqStrF (by with_reducible assumption) ?_); (try dsimp only))); (all_goals (try k_steps))))
            · rename c = 34 => z34
              replace hrun := Q2_q hrun z34
              (with_reducible rename Fr g' L' _ _ => zF2); (with_reducible rename News g' L' _ _ => zN2)
              refine' hnx .A tkz true (pz + 1) kz ?zf6 zF2 ?zN6 ?zs6 ?zq6 ?za6 ?zb6 ?zc6 ?zr6
              case zf6 => first | exact .inl rfl | exact .inr rfl
              case zN6 => first | exact front1 zN2 | exact front1 (newsTail zN2) | exact zN2
              case zs6 => (first | (simp only [upd, noFr, ↓lookA, ↓reduceIte, ofString_eq, String.reduceEq]; first | rfl | with_reducible assumption) | rfl | with_reducible assumption)
              case zq6 => (first | (simp only [upd, noFr, ↓lookA, ↓reduceIte, ofString_eq, String.reduceEq]; first | rfl | with_reducible assumption) | rfl | with_reducible assumption)
              case za6 => exact hlt
              case zb6 => exact stp hlt
              case zc6 => exact (Nat.le_succ_of_le htk)
              case zr6 => exact by rw [hdrop']; exact hrun
            · rename ¬ (c = 34) => z34
              obtain ⟨z39, hrun⟩ := Q2_a hrun z34
              (with_reducible rename Fr g' L' _ _ => zF2); (with_reducible rename News g' L' _ _ => zN2)
              refine' hnx .Q2 (tkz ++ ⟨#[c]⟩) true (pz + 1) kz ?zf7 zF2 ?zN7 ?zs7 ?zq7 ?za7 ?zb7 ?zc7 ?zr7
              case zf7 => first | exact .inl rfl | exact .inr rfl
              case zN7 => first | exact front1 zN2 | exact front1 (newsTail zN2) | exact zN2
              case zs7 => (first | (simp only [upd, noFr, ↓lookA, ↓reduceIte, ofString_eq, String.reduceEq]; first | rfl | with_reducible assumption) | rfl | with_reducible assumption)
              case zq7 => (first | (simp only [upd, noFr, ↓lookA, ↓reduceIte, ofString_eq, String.reduceEq]; first | rfl | with_reducible assumption) | rfl | with_reducible assumption)
              case za7 => exact hlt
              case zb7 => exact stp hlt
              case zc7 => exact (app1_le htk)
              case zr7 => exact by rw [hdrop']; exact hrun
          | N =>
            exact absurd hrun (fun z => nomatch (show (none : Option (Str × Bool × St × List Nat)) = some R from z))
      · skip
        have hdrop : (Mine.L x).drop pz = [] := List.drop_eq_nil_of_le (by rw [L_length]; exact hge)
        rw [hdrop] at hrun
        have e1 : ((Str.ofString "") == Str.ofString "\n") = false := by decide +kernel
        have e7 : ((((Str.ofString "").length : Nat) : Int) != 0) = false := by decide +kernel
        (k_steps; repeat' (first | (((with_reducible refine hold_in ?_); ((with_reducible show wpAny _ _ (compareOp _ (Value.str _ _) (Value.str _ _)) _ _ _); (with_reducible refine' eqStrF (by with_reducible assumption) ?_); (try dsimp only))); (all_goals (try k_steps))) | (((with_reducible refine hold_in ?_); ((with_reducible show wpAny _ _ (getAttr _ (Str.ofString "punctuation_chars") _) _ _ _); k_dflt (refine' get_pc _ _ _ _ _ _ _ _ _ _ _ _ _ _ (by k_asm) (by k_asm) (by k_asm) (by k_asm) (by k_asm) (by exact rfl) (by exact roomP (by assumption)) (by exact unitP (by assumption)) (by k_mem) (by k_mem) ?_); intro h' tk' F' N'; (try dsimp only))); (all_goals (try k_steps))) | (((with_reducible show wpAny _ _ (call (Value.ref 589) _) _ _ _); k_dflt (refine' SpecU.go (sp_read_end _ _ _ _ _ _ _ _ _ _ _ _ _ _ _ (by assumption) (by assumption)) ?_); intro z9t' z9t2' z9h' z9tk' z9F' z9N'; (try dsimp only); (try k_sweep)); all_goals (try k_steps))))
        cases st with
        | S =>
          (with_reducible rename News g' L' _ _ => zN1)
          dsimp only [stV] at zN1 ⊢
          have g1 : ((Str.ofString " ") == Str.ofString " ") = true := by decide +kernel
          have g2 : Txt.contains (Str.ofString "'\"") (Str.ofString " ") = false := by decide +kernel
          have g3 : Txt.contains (Str.ofString "\\") (Str.ofString " ") = false := by decide +kernel
          have g4 : Txt.contains (Str.ofString "\"") (Str.ofString " ") = false := by decide +kernel
          have g5 : ((Str.ofString " ") == Str.ofString "c") = false := by decide +kernel
          have hR : some _ = some R := hrun
          (k_steps; repeat' (((with_reducible refine hold_in ?_); ((with_reducible show wpAny _ _ (compareOp _ (Value.str _ _) (Value.str _ _)) _ _ _); (with_reducible refine' eqStrF (by with_reducible assumption) ?_); (try dsimp only))); (all_goals (try k_steps))))
          (try dsimp only)
          (with_reducible rename Fr g' L' _ _ => zF2); (with_reducible rename News g' L' _ _ => zN2)
          refine' hbk (ts := 0) hR zF2 ?ze19 ?zN19 ?zs19 ?zq19
          case zN19 => first | exact front1 zN2 | exact front1 (newsTail zN2) | exact mid3 zN2 | exact zN2
          case ze19 => exact congrArg Int.ofNat (Nat.le_antisymm hp hge)
          case zs19 => (first | (simp only [upd, noFr, ↓lookA, ↓reduceIte, ofString_eq, String.reduceEq]; first | rfl | with_reducible assumption) | rfl | with_reducible assumption)
          case zq19 => (first | (simp only [upd, noFr, ↓lookA, ↓reduceIte, ofString_eq, String.reduceEq]; first | rfl | with_reducible assumption) | rfl | with_reducible assumption)
        | A =>
          (with_reducible rename News g' L' _ _ => zN1)
          dsimp only [stV] at zN1 ⊢
          have g1 : ((Str.ofString "a") == Str.ofString " ") = false := by decide +kernel
          have g2 : Txt.contains (Str.ofString "'\"") (Str.ofString "a") = false := by decide +kernel
          have g3 : Txt.contains (Str.ofString "\\") (Str.ofString "a") = false := by decide +kernel
          have g4 : Txt.contains (Str.ofString "\"") (Str.ofString "a") = false := by decide +kernel
          have g5 : ((Str.ofString "a") == Str.ofString "c") = false := by decide +kernel
          have hR : some _ = some R := hrun
          (k_steps; repeat' (((with_reducible refine hold_in ?_); ((with_reducible show wpAny _ _ (compareOp _ (Value.str _ _) (Value.str _ _)) _ _ _); (with_reducible refine' eqStrF (by with_reducible assumption) ?_); (try dsimp only))); (all_goals (try k_steps))))
          (try dsimp only)
          (with_reducible rename Fr g' L' _ _ => zF2); (with_reducible rename News g' L' _ _ => zN2)
          refine' hbk (ts := 0) hR zF2 ?ze20 ?zN20 ?zs20 ?zq20
          case zN20 => first | exact front1 zN2 | exact front1 (newsTail zN2) | exact mid3 zN2 | exact zN2
          case ze20 => exact congrArg Int.ofNat (Nat.le_antisymm hp hge)
          case zs20 => (first | (simp only [upd, noFr, ↓lookA, ↓reduceIte, ofString_eq, String.reduceEq]; first | rfl | with_reducible assumption) | rfl | with_reducible assumption)
          case zq20 => (first | (simp only [upd, noFr, ↓lookA, ↓reduceIte, ofString_eq, String.reduceEq]; first | rfl | with_reducible assumption) | rfl | with_reducible assumption)
        | Q1 =>
          exact absurd hrun (fun z => nomatch (show (none : Option (Str × Bool × St × List Nat)) = some R from z))
        | Q2 =>
          exact absurd hrun (fun z => nomatch (show (none : Option (Str × Bool × St × List Nat)) = some R from z))
        | N =>
          (with_reducible rename News g' L' _ _ => zN1)
          dsimp only [stV] at zN1 ⊢
          have hR : some _ = some R := hrun
          k_steps
          (try dsimp only)
          (with_reducible rename Fr g' L' _ _ => zF2); (with_reducible rename News g' L' _ _ => zN2)
          refine' hbk (ts := 0) hR zF2 ?ze21 ?zN21 ?zs21 ?zq21
          case zN21 => first | exact front1 zN2 | exact front1 (newsTail zN2) | exact mid3 zN2 | exact zN2
          case ze21 => exact congrArg Int.ofNat (Nat.le_antisymm hp hge)
          case zs21 => (first | (simp only [upd, noFr, ↓lookA, ↓reduceIte, ofString_eq, String.reduceEq]; first | rfl | with_reducible assumption) | rfl | with_reducible assumption)
          case zq21 => (first | (simp only [upd, noFr, ↓lookA, ↓reduceIte, ofString_eq, String.reduceEq]; first | rfl | with_reducible assumption) | rfl | with_reducible assumption)
end
section
open PySem PySem.W
example {M : Model} {A : Around} {v : Value} {Q : Bool → Shared → Prop} {E : Value → Shared → Prop} {s : Shared} (h : wpAny M A (truthy v) Q E s) : wpAny M A (truthy v) Q E s := by first | (walk1; fail) | exact h
end
section
open PySem PySem.W PySem.Spec PySem.Calls PyProof.Rows
set_option maxHeartbeats 4000000
local macro_rules | `(tactic| walk_at "getAttr ref") => `(tactic| (k_dflt (refine' lex_get ?_)))
noncomputable def SpecG (w : World) : Prop := ∀ (sx q1 q2 lx ld sd : Addr) (at_ vt : Nat → Tok) (wc : Str) (a0 a1 a2 : Int) (t0 t1 t2 v0 tx : Tok) (x : Str) (p : Nat) (cm : Bool) (st : St) (k : Nat) (ts tt tl v2 : Tok) (ln : Int) (R : Str × Bool × St × List Nat) (hx : x.length ≤ 100000) (hp : p ≤ x.length) (hwc : Txt.contains wc (Str.ofString "'") = false) (hrun : run k cm st (Str.ofString "") false ((Mine.L x).drop p) = some R)
    {dp un : Nat} {gd : Option (List Code)} {cn : Str} {cs : Scope} {a : Addr} {ccd : Value} {cl : List (Str × Addr)} {outer : List Env} {A₀ : Around} {base h₀ : Heap} {L : Addr} {m mg mb : Str → Option Value} {mean : ExcName → Option Value} {rest : List (Addr × Obj)} {s : Shared} {Q E : Value → Shared → Prop}
    (B : Below A₀ base outer h₀) (F : Fr h₀ L s.heap m) (X : (K w.params).In h₀) (N : News h₀ L s.heap ((ld, (lexO w.params sx q1 q2 at_ vt wc (.str (cmS cm) (vt 4)) true (stV st ts) (.str (Str.ofString "") tt) (.int ln tl))) :: (sd, (dictOf [⟨a0, .str "_StringIO__newline" t0, .str (Str.ofString "\n") v0⟩, ⟨a1, .str "_StringIO__buf" t1, .str x tx⟩, ⟨a2, .str "_StringIO__pos" t2, .int (p : Int) v2⟩] (nat_lit 3))) :: rest)) (T : Top q (looseW q loose) mean mg mb h₀) (hk : cs.kind = .function) (hd : dp + 25 < recursionLimit) (hu : un + 150 < cLine)
    (h1 : (lx, instObj 778 ld) ∈ rest) (h2 : (sx, instObj 643 sd) ∈ rest) (h3 : (q1, deq) ∈ rest) (h4 : (q2, deq) ∈ rest) (hn1 : ∀ p ∈ rest, p.1 ≠ ld) (hn2 : ∀ p ∈ rest, p.1 ≠ sd) (hls : @Ne Nat ld sd)
    (hret : ∀ (t ts' tt' tl' v2' : Tok) (ln' : Int) h' tk', Fr h₀ L h' m → News h₀ L h' ((ld, (lexO w.params sx q1 q2 at_ vt wc (.str (cmS cm) (vt 4)) true (stV R.2.2.1 ts') (.str (Str.ofString "") tt') (.int ln' tl'))) :: (sd, (dictOf [⟨a0, .str "_StringIO__newline" t0, .str (Str.ofString "\n") v0⟩, ⟨a1, .str "_StringIO__buf" t1, .str x tx⟩, ⟨a2, .str "_StringIO__pos" t2, .int ((x.length - R.2.2.2.length : Nat) : Int) v2'⟩] (nat_lit 3))) :: rest) → Q (if R.1.length = 0 ∧ R.2.1 = false then .none else .str R.1 t) { s with heap := h', toks := tk' }),
    wpAny (model PySem.Challenge.pw_kt0081_01 w) (ktrTop dp un gd cn cs L a ccd cl outer) (call (.ref 739) [.ref lx]) Q E s
theorem roomT {dp b : Nat} (h : dp + 25 < b) : dp + 1 + 20 < b := by omega
theorem unitT {un b : Nat} (h : un + 150 < b) : un + 3 + 100 < b := by omega
theorem sp_get_token (w : World) : SpecG w := by
  unfold SpecG
  intro sx q1 q2 lx ld sd at_ vt wc a0 a1 a2 t0 t1 t2 v0 tx x p cm st k ts tt tl v2 ln R hx hp hwc hrun dp un gd cn cs a ccd cl outer A₀ base h₀ L m mg mb mean rest s Q E B F X N T hk hd hu h1 h2 h3 h4 hn1 hn2 hls hret
  refine wpAny_call ?_
  refine' enterA (binds := [("self", .ref lx)]) ?k6 ?ks ?k7 ?k9 ?kB ?c2 ?c3 ?c4 ?c5 ?k1 ?k2 ?k3 ?k4 ?k5 ?kK ?k8 ?_
  case k1 => assumption
  case k2 => assumption
  case k3 => assumption
  case k4 => assumption
  case k5 => assumption
  case kK => assumption
  case k6 => k_dflt k_is
  case ks => exact rfl
  case k7 => k_dflt k_is
  case k8 => exact Nat.lt_of_le_of_lt (Nat.le_add_right _ _) hd
  case k9 => intro s X; exact BindsTo.of_eq rfl
  case c5 => decide
  case kB => exact locs rfl
  case c2 => exact rfl
  case c3 => exact rfl
  case c4 => exact rfl
  intro g' h' L' tk' WQ WE B' F' X' N' T' hR' htk' hPO
  simp only [List.reverse_cons, List.reverse_nil, List.nil_append, List.cons_append, lookF, lookE] at F'
  show (let zV := _; let zA := _; wpAny _ zA (execs _ zV) _ _ _)
  intro zV zA
  by_cases hv : R.1.length = 0 ∧ R.2.1 = false
  · (k_steps; repeat' (first | ((k_dflt (refine truthy_deq (deq_at (by k_asm) (by k_mem)) ?_); intro tk'; (try dsimp only)); all_goals (try k_steps)) | (((with_reducible show wpAny _ _ (call (Value.ref 746) _ _) _ _ _); k_dflt (refine' sp_read_token _ _ _ _ _ _ _ _ _ _ _ _ _ _ _ _ _ _ _ _ _ _ _ _ _ _ _ _ _ ?sx ?sp ?sw ?sr ?sB ?sF ?sX ?sN ?sT ?sk ?sd ?su ?s1 ?s2 ?s3 ?s4 ?s5 ?_; (case sr => with_reducible assumption); (case sx => with_reducible assumption); (case sp => with_reducible assumption); (case sw => with_reducible assumption); (case sB => k_asm); (case sF => k_asm); (case sX => k_asm); (case sN => k_asm); (case sT => k_asm); (case sk => exact rfl); (case sd => exact roomT (by assumption)); (case su => exact unitT (by assumption)); (case s1 => k_mem); (case s2 => k_mem); (case s3 => with_reducible assumption); (case s4 => with_reducible assumption); (case s5 => with_reducible assumption)); intro t' ts' tt' tl' v2' ln' h' tk' F' N'; (try dsimp only); (try rw [if_pos (by with_reducible assumption)]); (try rw [if_neg (by with_reducible assumption)])); all_goals (try k_steps))))
    (with_reducible rename News g' L' _ _ => zN)
    have e : ∀ t, (if R.1.length = 0 ∧ R.2.1 = false then Value.none else .str R.1 t) = .none := fun t => if_pos hv
    simp only [↓e] at hret
    exact hR' (fun F N => hret 0 _ _ _ _ _ _ _ F N) (by with_reducible assumption) zN
  · (k_steps; repeat' (first | ((k_dflt (refine truthy_deq (deq_at (by k_asm) (by k_mem)) ?_); intro tk'; (try dsimp only)); all_goals (try k_steps)) | (((with_reducible show wpAny _ _ (call (Value.ref 746) _ _) _ _ _); k_dflt (refine' sp_read_token _ _ _ _ _ _ _ _ _ _ _ _ _ _ _ _ _ _ _ _ _ _ _ _ _ _ _ _ _ ?sx ?sp ?sw ?sr ?sB ?sF ?sX ?sN ?sT ?sk ?sd ?su ?s1 ?s2 ?s3 ?s4 ?s5 ?_; (case sr => with_reducible assumption); (case sx => with_reducible assumption); (case sp => with_reducible assumption); (case sw => with_reducible assumption); (case sB => k_asm); (case sF => k_asm); (case sX => k_asm); (case sN => k_asm); (case sT => k_asm); (case sk => exact rfl); (case sd => exact roomT (by assumption)); (case su => exact unitT (by assumption)); (case s1 => k_mem); (case s2 => k_mem); (case s3 => with_reducible assumption); (case s4 => with_reducible assumption); (case s5 => with_reducible assumption)); intro t' ts' tt' tl' v2' ln' h' tk' F' N'; (try dsimp only); (try rw [if_pos (by with_reducible assumption)]); (try rw [if_neg (by with_reducible assumption)])); all_goals (try k_steps))))
    (with_reducible rename News g' L' _ _ => zN)
    have e : ∀ t, (if R.1.length = 0 ∧ R.2.1 = false then Value.none else .str R.1 t) = .str R.1 t := fun t => if_neg hv
    simp only [↓e] at hret
    exact hR' (fun F N => hret _ _ _ _ _ _ _ _ F N) (by with_reducible assumption) zN
end
section
open PySem PySem.W
example {M : Model} {A : Around} {v : Value} {Q : Bool → Shared → Prop} {E : Value → Shared → Prop} {s : Shared} (h : wpAny M A (truthy v) Q E s) : wpAny M A (truthy v) Q E s := by first | (walk1; fail) | exact h
end
section
open PySem PySem.W PySem.Spec PySem.Calls PyProof.Rows
set_option maxHeartbeats 4000000
noncomputable def SpecNx (w : World) : Prop := ∀ (sx q1 q2 lx ld sd : Addr) (at_ vt : Nat → Tok) (wc : Str) (a0 a1 a2 : Int) (t0 t1 t2 v0 tx : Tok) (x : Str) (p : Nat) (cm : Bool) (st : St) (k : Nat) (ts tt tl v2 : Tok) (ln : Int) (R : Str × Bool × St × List Nat) (hx : x.length ≤ 100000) (hp : p ≤ x.length) (hwc : Txt.contains wc (Str.ofString "'") = false) (hrun : run k cm st (Str.ofString "") false ((Mine.L x).drop p) = some R) (hv : ¬ (R.1.length = 0 ∧ R.2.1 = false))
    {dp un : Nat} {gd : Option (List Code)} {cn : Str} {cs : Scope} {a : Addr} {ccd : Value} {cl : List (Str × Addr)} {outer : List Env} {A₀ : Around} {base h₀ : Heap} {L : Addr} {m mg mb : Str → Option Value} {mean : ExcName → Option Value} {rest : List (Addr × Obj)} {s : Shared} {Q E : Value → Shared → Prop}
    (B : Below A₀ base outer h₀) (F : Fr h₀ L s.heap m) (X : (K w.params).In h₀) (N : News h₀ L s.heap ((ld, (lexO w.params sx q1 q2 at_ vt wc (.str (cmS cm) (vt 4)) true (stV st ts) (.str (Str.ofString "") tt) (.int ln tl))) :: (sd, (dictOf [⟨a0, .str "_StringIO__newline" t0, .str (Str.ofString "\n") v0⟩, ⟨a1, .str "_StringIO__buf" t1, .str x tx⟩, ⟨a2, .str "_StringIO__pos" t2, .int (p : Int) v2⟩] (nat_lit 3))) :: rest)) (T : Top q (looseW q loose) mean mg mb h₀) (hk : cs.kind = .function) (hd : dp + 30 < recursionLimit) (hu : un + 200 < cLine)
    (h1 : (lx, instObj 778 ld) ∈ rest) (h2 : (sx, instObj 643 sd) ∈ rest) (h3 : (q1, deq) ∈ rest) (h4 : (q2, deq) ∈ rest) (hn1 : ∀ p ∈ rest, p.1 ≠ ld) (hn2 : ∀ p ∈ rest, p.1 ≠ sd) (hls : @Ne Nat ld sd)
    (hret : ∀ (t ts' tt' tl' v2' : Tok) (ln' : Int) h' tk', Fr h₀ L h' m → News h₀ L h' ((ld, (lexO w.params sx q1 q2 at_ vt wc (.str (cmS cm) (vt 4)) true (stV R.2.2.1 ts') (.str (Str.ofString "") tt') (.int ln' tl'))) :: (sd, (dictOf [⟨a0, .str "_StringIO__newline" t0, .str (Str.ofString "\n") v0⟩, ⟨a1, .str "_StringIO__buf" t1, .str x tx⟩, ⟨a2, .str "_StringIO__pos" t2, .int ((x.length - R.2.2.2.length : Nat) : Int) v2'⟩] (nat_lit 3))) :: rest) → Q (.str R.1 t) { s with heap := h', toks := tk' }),
    wpAny (model PySem.Challenge.pw_kt0081_01 w) (ktrTop dp un gd cn cs L a ccd cl outer) (call (.ref 775) [.ref lx]) Q E s
theorem roomG {dp b : Nat} (h : dp + 30 < b) : dp + 1 + 25 < b := by omega
theorem unitG {un b : Nat} (h : un + 200 < b) : un + 3 + 150 < b := by omega
theorem sp_next (w : World) : SpecNx w := by
  unfold SpecNx
  intro sx q1 q2 lx ld sd at_ vt wc a0 a1 a2 t0 t1 t2 v0 tx x p cm st k ts tt tl v2 ln R hx hp hwc hrun hv dp un gd cn cs a ccd cl outer A₀ base h₀ L m mg mb mean rest s Q E B F X N T hk hd hu h1 h2 h3 h4 hn1 hn2 hls hret
  refine wpAny_call ?_
  refine' enterA (binds := [("self", .ref lx)]) ?k6 ?ks ?k7 ?k9 ?kB ?c2 ?c3 ?c4 ?c5 ?k1 ?k2 ?k3 ?k4 ?k5 ?kK ?k8 ?_
  case k1 => assumption
  case k2 => assumption
  case k3 => assumption
  case k4 => assumption
  case k5 => assumption
  case kK => assumption
  case k6 => k_dflt k_is
  case ks => exact rfl
  case k7 => k_dflt k_is
  case k8 => exact Nat.lt_of_le_of_lt (Nat.le_add_right _ _) hd
  case k9 => intro s X; exact BindsTo.of_eq rfl
  case c5 => decide
  case kB => exact locs rfl
  case c2 => exact rfl
  case c3 => exact rfl
  case c4 => exact rfl
  intro g' h' L' tk' WQ WE B' F' X' N' T' hR' htk' hPO
  simp only [List.reverse_cons, List.reverse_nil, List.nil_append, List.cons_append, lookF, lookE] at F'
  show (let zV := _; let zA := _; wpAny _ zA (execs _ zV) _ _ _)
  intro zV zA
  (k_steps; repeat' (((try dsimp only [List.nil_append, List.append_nil, List.cons_append]); (with_reducible show wpAny _ _ (call (Value.ref 739) _ _) _ _ _); k_dflt (refine' sp_get_token _ _ _ _ _ _ _ _ _ _ _ _ _ _ _ _ _ _ _ _ _ _ _ _ _ _ _ _ _ ?sx ?sp ?sw ?sr ?sB ?sF ?sX ?sN ?sT ?sk ?sd ?su ?s1 ?s2 ?s6 ?s7 ?s3 ?s4 ?s5 ?_; (case sr => with_reducible assumption); (case sx => with_reducible assumption); (case sp => with_reducible assumption); (case sw => with_reducible assumption); (case sB => k_asm); (case sF => k_asm); (case sX => k_asm); (case sN => k_asm); (case sT => k_asm); (case sk => exact rfl); (case sd => exact roomG (by assumption)); (case su => exact unitG (by assumption)); (case s3 => with_reducible assumption); (case s4 => with_reducible assumption); (case s5 => with_reducible assumption); (case s1 => with_reducible assumption); (case s2 => with_reducible assumption); (case s6 => with_reducible assumption); (case s7 => with_reducible assumption)); intro t' ts' tt' tl' v2' ln' h' tk' F' N'; (try dsimp only); (try rw [if_pos (by with_reducible assumption)]); (try rw [if_neg (by with_reducible assumption)])); all_goals (try k_steps)))
  (with_reducible rename News g' L' _ _ => zN)
  exact hR' (fun F N => hret _ _ _ _ _ _ _ _ F N) (by with_reducible assumption) zN
theorem next_stop (w : World) (sx q1 q2 lx ld sd : Addr) (at_ vt : Nat → Tok) (wc : Str) (a0 a1 a2 : Int) (t0 t1 t2 v0 tx : Tok) (x : Str) (p : Nat) (cm : Bool) (st : St) (k : Nat) (ts tt tl v2 : Tok) (ln : Int) (R : Str × Bool × St × List Nat) (hx : x.length ≤ 100000) (hp : p ≤ x.length) (hwc : Txt.contains wc (Str.ofString "'") = false) (hrun : run k cm st (Str.ofString "") false ((Mine.L x).drop p) = some R) (hv : R.1.length = 0 ∧ R.2.1 = false)
    {dp un : Nat} {gd : Option (List Code)} {cn : Str} {cs : Scope} {a : Addr} {ccd : Value} {cl : List (Str × Addr)} {outer : List Env} {A₀ : Around} {base h₀ : Heap} {L : Addr} {m mg mb : Str → Option Value} {mean : ExcName → Option Value} {rest : List (Addr × Obj)} {s : Shared} {Q : Option Value → Shared → Prop} {E : Value → Shared → Prop}
    (G : Grd w mean mg mb A₀ base outer h₀) (F : Fr h₀ L s.heap m) (N : News h₀ L s.heap ((ld, (lexO w.params sx q1 q2 at_ vt wc (.str (cmS cm) (vt 4)) true (stV st ts) (.str (Str.ofString "") tt) (.int ln tl))) :: (sd, (dictOf [⟨a0, .str "_StringIO__newline" t0, .str (Str.ofString "\n") v0⟩, ⟨a1, .str "_StringIO__buf" t1, .str x tx⟩, ⟨a2, .str "_StringIO__pos" t2, .int (p : Int) v2⟩] (nat_lit 3))) :: rest)) (hk : cs.kind = .function) (hd : dp + 30 < recursionLimit) (hu : un + 200 < cLine)
    (h1 : (lx, instObj 778 ld) ∈ rest) (h2 : (sx, instObj 643 sd) ∈ rest) (h3 : (q1, deq) ∈ rest) (h4 : (q2, deq) ∈ rest) (hn1 : ∀ p ∈ rest, p.1 ≠ ld) (hn2 : ∀ p ∈ rest, p.1 ≠ sd) (hls : @Ne Nat ld sd)
    (hret : ∀ h₀' h' tk', Grd w mean mg mb A₀ base outer h₀' → KtsTurn (outer.filterMap (·.frame)) h₀ h₀' → Fr h₀' L h' m → News h₀' L h' rest → Q none { s with heap := h', toks := tk' }) :
    wpAny (model PySem.Challenge.pw_kt0081_01 w) (ktrTop dp un gd cn cs L a ccd [] outer) (pyNext (.ref lx)) Q E s := by
  refine owit_next (f := 775) F G.X (by k_inst) (by k_dflt k_is) (by k_dflt k_is) ?_
  refine wpAny_call ?_
  refine' fn_enterT (binds := [("self", .ref lx)]) ?k1 ?k2 ?k3 ?kA ?kF ?kK ?k6 ?ks ?k7 ?k8 ?k9 ?kB ?_ ?c2 ?c3 ?c4 ?c5
  case kA => exact rfl
  case kF => exact rfl
  case kK => assumption
  case k1 => assumption
  case k2 => assumption
  case k3 => assumption
  case k6 => k_dflt k_is
  case ks => exact rfl
  case k7 => k_dflt k_is
  case k8 => exact Nat.lt_of_le_of_lt (Nat.le_add_right _ _) hd
  case k9 => exact BindsTo.of_eq rfl
  case c5 => decide
  case kB => exact locs rfl
  case c2 => exact rfl
  case c3 => exact rfl
  case c4 => exact rfl
  intro g' L' h' FG' F' N' B' X' T' D' l1
  try k_lt l1
  simp only [List.reverse_cons, List.reverse_nil, List.nil_append, List.cons_append, lookF, lookE] at F'
  try dsimp only
  try k_lift B'
  try k_fold
  (k_steps; repeat' (((try dsimp only [List.nil_append, List.append_nil, List.cons_append]); (with_reducible show wpAny _ _ (call (Value.ref 739) _ _) _ _ _); k_dflt (refine' sp_get_token _ _ _ _ _ _ _ _ _ _ _ _ _ _ _ _ _ _ _ _ _ _ _ _ _ _ _ _ _ ?sx ?sp ?sw ?sr ?sB ?sF ?sX ?sN ?sT ?sk ?sd ?su ?s1 ?s2 ?s6 ?s7 ?s3 ?s4 ?s5 ?_; (case sr => with_reducible assumption); (case sx => with_reducible assumption); (case sp => with_reducible assumption); (case sw => with_reducible assumption); (case sB => k_asm); (case sF => k_asm); (case sX => k_asm); (case sN => k_asm); (case sT => k_asm); (case sk => exact rfl); (case sd => exact roomG (by assumption)); (case su => exact unitG (by assumption)); (case s3 => with_reducible assumption); (case s4 => with_reducible assumption); (case s5 => with_reducible assumption); (case s1 => with_reducible assumption); (case s2 => with_reducible assumption); (case s6 => with_reducible assumption); (case s7 => with_reducible assumption)); intro t' ts' tt' tl' v2' ln' h' tk' F' N'; (try dsimp only); (try rw [if_pos (by with_reducible assumption)]); (try rw [if_neg (by with_reducible assumption)])); all_goals (try k_steps)))
  (rename RaisedS _ _ _ _ _ _ _ _ _ => rkX)
  refine owit_stopT rkX (by assumption) G (by assumption) (by first | rfl | kernel_rfl | decide) fun g' G' T' F' N' => hret _ _ _ G' T' F' (newsSub N' (fun p hp => by repeat (first | exact hp | apply List.mem_cons_of_mem)))
end
section
open PySem PySem.W
example {M : Model} {A : Around} {v : Value} {Q : Bool → Shared → Prop} {E : Value → Shared → Prop} {s : Shared} (h : wpAny M A (truthy v) Q E s) : wpAny M A (truthy v) Q E s := by first | (walk1; fail) | exact h
end
section
open PySem PySem.W PySem.Spec PySem.Calls PyProof.Rows
set_option maxHeartbeats 4000000
inductive TokS : List Value → List Str → Prop
  | nil : TokS [] []
  | cons {v : List Value} {l : List Str} (x : Str) (t : Tok) : TokS v l → TokS (.str x t :: v) (x :: l)
inductive Runs (cm : Bool) : St → List Nat → List Str → Prop
  | stop {st : St} {l : List Nat} {R : Str × Bool × St × List Nat} {k : Nat} : run k cm st (Str.ofString "") false l = some R → (R.1.length = 0 ∧ R.2.1 = false) → Runs cm st l []
  | next {st : St} {l : List Nat} {R : Str × Bool × St × List Nat} {k : Nat} {ts : List Str} : run k cm st (Str.ofString "") false l = some R → ¬ (R.1.length = 0 ∧ R.2.1 = false) → Runs cm R.2.2.1 R.2.2.2 ts → Runs cm st l (R.1 :: ts)
theorem run_suf (cm : Bool) : ∀ (n : Nat) (st : St) (tok : Str) (qd : Bool) (l : List Nat) (R : Str × Bool × St × List Nat), run n cm st tok qd l = some R → ∃ j, R.2.2.2 = l.drop j ∧ j ≤ l.length := by
  intro n
  induction n with
  | zero => intro st tok qd l R h; unfold run at h; cases h
  | succ n ih =>
    have up : ∀ {st tok qd c r R}, run n cm st tok qd r = some R → ∃ j, R.2.2.2 = (c :: r).drop j ∧ j ≤ (c :: r).length := by
      intro st tok qd c r R h
      obtain ⟨j, e, hj⟩ := ih _ _ _ _ _ h
      exact ⟨j + 1, e, by simp only [List.length_cons]; lia⟩
    intro st tok qd l R h
    cases st <;> cases l with
    | nil => (unfold run at h; first | (cases h; done) | (injection h with h; subst h; exact ⟨0, rfl, Nat.le_refl _⟩))
    | cons c r =>
      unfold run at h
      repeat' split at h
      all_goals first
        | cases h; done
        | exact up h
        | (injection h with h; subst h; first | exact ⟨1, rfl, by simp only [List.length_cons]; lia⟩ | exact ⟨(c :: r).length, by simp, Nat.le_refl _⟩)
        | (obtain ⟨j, e, hj⟩ := ih _ _ _ _ _ h; exact ⟨j + 3, e, by simp only [List.length_cons]; lia⟩)
theorem sp_iter (w : World) (lx ld : Addr) : SpecP w 768 1 8 [.ref lx] (fun news => (lx, instObj 778 ld) ∈ news) (fun _ => .ref lx) := by
  refine' enterP (binds := [("self", .ref lx)]) ?k6 ?ks ?k7 ?k9 ?kB ?c2 ?c3 ?c4 ?c5 ?_
  case k6 => k_dflt k_is
  case ks => exact rfl
  case k7 => k_dflt k_is
  case k9 => intro s X; exact BindsTo.of_eq rfl
  case c5 => decide
  case kB => exact locs rfl
  case c2 => exact rfl
  case c3 => exact rfl
  case c4 => exact rfl
  intro dp un gd cn cs a ccd cl outer base g' L L' mg mb mean news gens drawn os h' tk' WQ WE B' F' X' N' T' hd hu hpre hret htk' hPO
  simp only [List.reverse_cons, List.reverse_nil, List.nil_append, List.cons_append, lookF, lookE] at F'
  show (let zV := _; let zA := _; wpAny _ zA (execs _ zV) _ _ _)
  intro zV zA
  k_steps
  exact hret 0 _ _ (by with_reducible assumption) (by with_reducible assumption)
theorem push_at {h₀ h : Heap} {L S : Addr} {m : Str → Option Value} {p1 p2 : Addr × Obj} {rest : List (Addr × Obj)} {acc : Array Value} {c : Nat} (v : Value) (F : Fr h₀ L h m) (N : News h₀ L h (p1 :: p2 :: (S, { cls := .type "list", data := .seq acc c }) :: rest)) (n1 : p1.1 ≠ S) (n2 : p2.1 ≠ S) (n3 : ∀ p ∈ rest, p.1 ≠ S) :
    Fr h₀ L (h.update S (Obj.mapSeq (·.push v))) m ∧ News h₀ L (h.update S (Obj.mapSeq (·.push v))) (p1 :: p2 :: (S, { cls := .type "list", data := .seq (acc.push v) (c + 1) }) :: rest) := by
  refine news_upd (pre := [p1, p2]) F N (fun p hp => ?_) n3 ?_ rfl
  · rcases List.mem_cons.mp hp with rfl | hp
    · exact n1
    · rcases List.mem_cons.mp hp with rfl | hp
      · exact n2
      · cases hp
  · show Obj.mapSeq _ _ = _
    unfold Obj.mapSeq
    dsimp only
    rw [if_neg (by rw [Array.size_push]; simp)]
theorem unitN {un b : Nat} (h : un + 210 < b) : un + 2 + 200 < b := by lia
theorem list_loop (w : World) (sx q1 q2 lx ld sd : Addr) (at_ vt : Nat → Tok) (wc : Str) (a0 a1 a2 : Int) (t0 t1 t2 v0 tx : Tok) (x : Str) (cm : Bool) (hx : x.length ≤ 100000) (hwc : Txt.contains wc (Str.ofString "'") = false) (S : Addr)
    {dp un : Nat} {gd : Option (List Code)} {cn : Str} {cs : Scope} {a : Addr} {ccd : Value} {outer : List Env} {A₀ : Around} {base h₀ : Heap} {L : Addr} {m mg mb : Str → Option Value} {mean : ExcName → Option Value} {rest : List (Addr × Obj)}   {Rr : Result → Shared → Prop} {toks : List Str} {st : St} {l : List Nat} (hr : Runs cm st l toks) : ∀ (p : Nat) (ts tt tl v2 : Tok) (ln : Int) (acc : Array Value) (c : Nat) (s : Shared), l = (Mine.L x).drop p → p ≤ x.length → acc.size + toks.length ≤ 1000 →
    Grd w mean mg mb A₀ base outer h₀ → Fr h₀ L s.heap m → News h₀ L s.heap ((ld, (lexO w.params sx q1 q2 at_ vt wc (.str (cmS cm) (vt 4)) true (stV st ts) (.str (Str.ofString "") tt) (.int ln tl))) :: (sd, (dictOf [⟨a0, .str "_StringIO__newline" t0, .str (Str.ofString "\n") v0⟩, ⟨a1, .str "_StringIO__buf" t1, .str x tx⟩, ⟨a2, .str "_StringIO__pos" t2, .int (p : Int) v2⟩] (nat_lit 3))) :: (S, { cls := .type "list", data := .seq acc c }) :: rest) → cs.kind = .function → dp + 30 < recursionLimit → un + 210 < cLine →
    (lx, instObj 778 ld) ∈ rest → (sx, instObj 643 sd) ∈ rest → (q1, deq) ∈ rest → (q2, deq) ∈ rest → (∀ p ∈ rest, p.1 ≠ ld) → (∀ p ∈ rest, p.1 ≠ sd) → (@Ne Nat ld sd) → (∀ p ∈ rest, p.1 ≠ S) → (@Ne Nat ld S) → (@Ne Nat sd S) →
    (∀ h₀' h' tk' c' vs, TokS vs toks → Grd w mean mg mb A₀ base outer h₀' → KtsTurn (outer.filterMap (·.frame)) h₀ h₀' → Fr h₀' L h' m → News h₀' L h' ((S, { cls := .type "list", data := .seq (acc ++ vs.toArray) c' }) :: rest) → Rr (.ok (.ret .none)) { s with heap := h', toks := tk' }) →
    codeAny (model PySem.Challenge.pw_kt0081_01 w) (ktrTop dp un gd cn cs L a ccd [] outer).in1 (.builtin "list.extend.loop" ⟨[.ref S, .ref lx, .none], []⟩) Rr s := by
  induction hr with
  | @stop st l R k hrun hv =>
    intro p ts tt tl v2 ln acc c s hl hp hz G F N hk hd hu h1 h2 h3 h4 hn1 hn2 hls hn3 hS1 hS2 hret
    subst hl
    refine codeAny_builtin PySem.F.entry_extend_loop ?_
    rw [Around.under_plainId PySem.F.plain_extend_loop _]
    show wpAny _ _ (pyNext (.ref lx) >>= _) _ _ s
    refine wpAny_bind ?_
    refine next_stop w sx q1 q2 lx ld sd at_ vt wc a0 a1 a2 t0 t1 t2 v0 tx x p cm st k ts tt tl v2 ln R hx hp hwc hrun hv (cl := []) (dp := dp) (un := un + 2) (rest := (S, { cls := .type "list", data := .seq acc c }) :: rest) G F N hk hd (unitN hu) (List.mem_cons_of_mem _ h1) (List.mem_cons_of_mem _ h2) (List.mem_cons_of_mem _ h3) (List.mem_cons_of_mem _ h4) ?_ ?_ hls fun h₀' h' tk' G' T' F' N' => ?_
    · intro p hp; rcases List.mem_cons.mp hp with rfl | hp; exact Ne.symm hS1; exact hn1 _ hp
    · intro p hp; rcases List.mem_cons.mp hp with rfl | hp; exact Ne.symm hS2; exact hn2 _ hp
    · refine wpAny_pure (hret h₀' h' tk' c [] .nil G' T' F' ?_)
      rw [show (acc ++ ([] : List Value).toArray) = acc by simp]
      exact N'
  | @next st l R k ts' hrun hv hrs ih =>
    intro p ts tt tl v2 ln acc c s hl hp hz G F N hk hd hu h1 h2 h3 h4 hn1 hn2 hls hn3 hS1 hS2 hret
    subst hl
    obtain ⟨j, ej, hj⟩ := run_suf cm k st _ _ _ R hrun
    have hpj : x.length - R.2.2.2.length = p + j := by
      rw [ej, List.length_drop, List.length_drop, L_length]
      rw [List.length_drop, L_length] at hj
      rw [Nat.sub_sub, Nat.sub_sub_self (Nat.add_le_of_le_sub' hp hj)]
    refine codeAny_builtin PySem.F.entry_extend_loop ?_
    rw [Around.under_plainId PySem.F.plain_extend_loop _]
    show wpAny _ _ (pyNext (.ref lx) >>= _) _ _ s
    refine wpAny_bind ?_
    refine owit_next (f := 775) F G.X (by k_inst) (by k_dflt k_is) (by k_dflt k_is) ?_
    refine sp_next w sx q1 q2 lx ld sd at_ vt wc a0 a1 a2 t0 t1 t2 v0 tx x p cm st k ts tt tl v2 ln R hx hp hwc hrun hv (dp := dp) (un := un + 2) (rest := (S, { cls := .type "list", data := .seq acc c }) :: rest) G.B F G.X N G.T hk hd (unitN hu) (List.mem_cons_of_mem _ h1) (List.mem_cons_of_mem _ h2) (List.mem_cons_of_mem _ h3) (List.mem_cons_of_mem _ h4) ?_ ?_ hls fun t ts₁ tt₁ tl₁ v₁ ln₁ h' tk' F' N' => ?_
    · intro p hp; rcases List.mem_cons.mp hp with rfl | hp; exact Ne.symm hS1; exact hn1 _ hp
    · intro p hp; rcases List.mem_cons.mp hp with rfl | hp; exact Ne.symm hS2; exact hn2 _ hp
    · show wpAny _ _ (updateSeq S (·.push _) >>= _) _ _ _
      rw [hpj] at N'
      have hS' := (N' (S, { cls := .type "list", data := .seq acc c }) (by simp)).1
      obtain ⟨F₂, N₂⟩ := push_at (.str R.1 t) F' N' hS1 hS2 hn3
      simp only [List.length_cons] at hz
      refine wpAny_bind (wpAny_updateSeq hS' rfl (wpAny_pure ⟨plainId_quiet PySem.F.plain_extend_loop _, ?_⟩) (by rw [sizeLine_eq]; lia) (by rw [sizeLine_eq]; show (acc.push _).size ≤ _; rw [Array.size_push]; lia))
      refine ih (p + j) ts₁ tt₁ tl₁ v₁ ln₁ (acc.push (.str R.1 t)) (c + 1) _ ?_ ?_ ?_ G F₂ N₂ hk hd hu h1 h2 h3 h4 hn1 hn2 hls hn3 hS1 hS2 fun h₀' h'' tk'' c' vs hT G' T' F'' N'' => ?_
      · rw [ej, List.drop_drop]
      · rw [List.length_drop, L_length] at hj; lia
      · rw [Array.size_push]; lia
      · refine hret h₀' h'' tk'' c' (.str R.1 t :: vs) (.cons _ _ hT) G' T' F'' ?_
        rw [show acc ++ (Value.str R.1 t :: vs).toArray = acc.push (Value.str R.1 t) ++ vs.toArray by simp]
        exact N''
section
variable {prog : Program} {w : World} {h : Heap}
theorem lk_len778 (X : (K w.params).In h) : Looks (model prog w) h (typeLookup (.ref 778) "__len__") none := Looks.of_peek X (by kernel_rfl)
theorem lk_hint778 (X : (K w.params).In h) : Looks (model prog w) h (typeLookup (.ref 778) "__length_hint__") none := Looks.of_peek X (by kernel_rfl)
end
theorem hint_lex {w : World} {A : Around} {E : Value → Shared → Prop} {s : Shared} {lx ld : Addr} {Q : Bool → Shared → Prop} (X : (K w.params).In s.heap) (hlx : s.heap.get? lx = some (instObj 778 ld)) (hq : Q true s) : wpAny (model PySem.Challenge.pw_kt0081_01 w) A (Builtin.List.listLengthHint (.ref lx)) Q E s := by
  have t1 : Looks (model PySem.Challenge.pw_kt0081_01 w) s.heap (typeOf (.ref lx)) (.ref 778) := (Looks.ld hlx).andThen .now
  have t2 := lk_len778 (prog := PySem.Challenge.pw_kt0081_01) X
  have t3 := lk_hint778 (prog := PySem.Challenge.pw_kt0081_01) X
  obtain ⟨hh, gg, dd, tt, oo⟩ := s
  unfold Builtin.List.listLengthHint specialOf
  refine wpAny_bind (wpAny_bind (t1.at (t2.at ?_)))
  dsimp only
  refine wpAny_ite_split (fun hab => absurd hab (by decide +kernel)) (fun _ => ?_)
  refine wpAny_ite_split (fun hab => absurd hab (by decide)) (fun _ => ?_)
  refine wpAny_bind (wpAny_bind (t1.at (t3.at ?_)))
  exact wpAny_pure hq
theorem push_obj {h₀ h : Heap} {L : Addr} {m : Str → Option Value} {p1 p2 : Addr × Obj} {rest : List (Addr × Obj)} (o : Obj) (ho : o.isFreed = false) (F : Fr h₀ L h m) (N : News h₀ L h (p1 :: p2 :: rest)) :
    Fr h₀ L (h.push o) m ∧ News h₀ L (h.push o) (p1 :: p2 :: (h.objs.size, o) :: rest) := by
  have hk : ∀ b o', h.get? b = some o' → (h.push o).get? b = some o' := fun b o' e => Heap.get?_push_of_some _ e
  refine ⟨F.keeps hk, fun p hp => ?_⟩
  have old : ∀ p ∈ (p1 :: p2 :: rest), (h.push o).get? p.1 = some p.2 ∧ p.1 ≠ L ∧ h₀.get? p.1 = none := fun p hp => ⟨hk _ _ (N p hp).1, (N p hp).2⟩
  rcases List.mem_cons.mp hp with rfl | hp
  · exact old _ List.mem_cons_self
  rcases List.mem_cons.mp hp with rfl | hp
  · exact old _ (by simp)
  rcases List.mem_cons.mp hp with rfl | hp
  · refine ⟨Heap.get?_push_size _ ho, Nat.ne_of_gt F.ns.lt, ?_⟩
    cases e : h₀.get? h.objs.size with
    | none => rfl
    | some o => exact absurd (Heap.lt_size (F.keep _ _ e)) (Nat.lt_irrefl _)
  · exact old _ (by simp [hp])
theorem upd_at {h₀ h : Heap} {L S : Addr} {m : Str → Option Value} {p1 p2 : Addr × Obj} {rest : List (Addr × Obj)} {o o' : Obj} (f : Obj → Obj) (F : Fr h₀ L h m) (N : News h₀ L h (p1 :: p2 :: (S, o) :: rest)) (n1 : p1.1 ≠ S) (n2 : p2.1 ≠ S) (n3 : ∀ p ∈ rest, p.1 ≠ S) (e : f o = o') (hf : o'.isFreed = false) :
    Fr h₀ L (h.update S f) m ∧ News h₀ L (h.update S f) (p1 :: p2 :: (S, o') :: rest) := by
  refine news_upd (pre := [p1, p2]) F N (fun p hp => ?_) n3 e hf
  rcases List.mem_cons.mp hp with rfl | hp
  · exact n1
  · rcases List.mem_cons.mp hp with rfl | hp
    · exact n2
    · cases hp
theorem list_lex (w : World) (sx q1 q2 lx ld sd : Addr) (at_ vt : Nat → Tok) (wc : Str) (a0 a1 a2 : Int) (t0 t1 t2 v0 tx : Tok) (x : Str) (cm : Bool) (hx : x.length ≤ 100000) (hwc : Txt.contains wc (Str.ofString "'") = false)
    {dp un : Nat} {gd : Option (List Code)} {cn : Str} {cs : Scope} {a : Addr} {ccd : Value} {outer : List Env} {A₀ : Around} {base h₀ : Heap} {L : Addr} {m mg mb : Str → Option Value} {mean : ExcName → Option Value} {rest : List (Addr × Obj)}   {Q E : Value → Shared → Prop} {toks : List Str} {st : St} {l : List Nat} (hr : Runs cm st l toks) (p : Nat) (ts tt tl v2 : Tok) (ln : Int) (s : Shared) (hl : l = (Mine.L x).drop p) (hp : p ≤ x.length) (hz : toks.length ≤ 1000)
    (G : Grd w mean mg mb A₀ base outer h₀) (F : Fr h₀ L s.heap m) (N : News h₀ L s.heap ((ld, (lexO w.params sx q1 q2 at_ vt wc (.str (cmS cm) (vt 4)) true (stV st ts) (.str (Str.ofString "") tt) (.int ln tl))) :: (sd, (dictOf [⟨a0, .str "_StringIO__newline" t0, .str (Str.ofString "\n") v0⟩, ⟨a1, .str "_StringIO__buf" t1, .str x tx⟩, ⟨a2, .str "_StringIO__pos" t2, .int (p : Int) v2⟩] (nat_lit 3))) :: rest)) (hk : cs.kind = .function) (hd : dp + 30 < recursionLimit) (hu : un + 220 < cLine)
    (h1 : (lx, instObj 778 ld) ∈ rest) (h2 : (sx, instObj 643 sd) ∈ rest) (h3 : (q1, deq) ∈ rest) (h4 : (q2, deq) ∈ rest) (hn1 : ∀ p ∈ rest, p.1 ≠ ld) (hn2 : ∀ p ∈ rest, p.1 ≠ sd) (hls : @Ne Nat ld sd)
    (hret : ∀ S h₀' h' tk' c' vs, TokS vs toks → Grd w mean mg mb A₀ base outer h₀' → KtsTurn (outer.filterMap (·.frame)) h₀ h₀' → Fr h₀' L h' m → News h₀' L h' ((S, listObj vs c') :: rest) → (∀ p ∈ rest, p.1 < S) → Q (.ref S) { s with heap := h', toks := tk' }) :
    wpAny (model PySem.Challenge.pw_kt0081_01 w) (ktrTop dp un gd cn cs L a ccd [] outer) (call (.type "list") [.ref lx]) Q E s := by
  refine callType_codes (Q₁ := fun obj s₁ => obj = .ref s.heap.objs.size ∧ s₁ = { s with heap := s.heap.push { cls := .type "list", data := .seq #[] } }) PySem.F.called_list (PySem.F.typeCall_list_1 _) PySem.F.entry_list_init
    (code_list_new _ ⟨rfl, rfl⟩) fun obj s₁ h₁ => ?_
  obtain ⟨rfl, rfl⟩ := h₁
  have hlt : ∀ pp ∈ ((ld, (lexO w.params sx q1 q2 at_ vt wc (.str (cmS cm) (vt 4)) true (stV st ts) (.str (Str.ofString "") tt) (.int ln tl))) :: (sd, (dictOf [⟨a0, .str "_StringIO__newline" t0, .str (Str.ofString "\n") v0⟩, ⟨a1, .str "_StringIO__buf" t1, .str x tx⟩, ⟨a2, .str "_StringIO__pos" t2, .int (p : Int) v2⟩] (nat_lit 3))) :: rest), pp.1 < s.heap.objs.size := fun pp hpp => Heap.lt_size (N pp hpp).1
  have hS1 : @Ne Nat ld s.heap.objs.size := Nat.ne_of_lt (hlt _ List.mem_cons_self)
  have hS2 : @Ne Nat sd s.heap.objs.size := Nat.ne_of_lt (hlt (sd, _) (List.mem_cons_of_mem _ List.mem_cons_self))
  have hlr : ∀ p ∈ rest, p.1 < s.heap.objs.size := fun p hp => hlt _ (List.mem_cons_of_mem _ (List.mem_cons_of_mem _ hp))
  have hn3 : ∀ p ∈ rest, p.1 ≠ s.heap.objs.size := fun p hp => Nat.ne_of_lt (hlr _ hp)
  obtain ⟨F₁, N₁⟩ := push_obj { cls := .type "list", data := .seq #[] } rfl F N
  have hS : (s.heap.push { cls := .type "list", data := .seq #[] }).get? s.heap.objs.size = some { cls := .type "list", data := .seq #[] } := Heap.get?_push_size _ rfl
  refine ⟨⟨_, hS, rfl⟩, PySem.F.args_list_init_2 _ _, ?_⟩
  show wpAny _ _ (do let old ← Builtin.List.listItems (.ref s.heap.objs.size); Builtin.List.listUpdate (.ref s.heap.objs.size) (fun _ => #[]); letGo old.toList.reverse; Builtin.List.listExtendWith (.ref s.heap.objs.size) (.ref lx) .none) _ _ _
  refine wpAny_bind ?_
  unfold Builtin.List.listItems
  refine wpAny_bind (wpAny_seqItems hS rfl (wpAny_pure ?_))
  show wpAny _ _ (updateSeq s.heap.objs.size (fun _ => #[]) >>= fun _ => letGo (#[] : Array Value).toList.reverse >>= fun _ => Builtin.List.listExtendWith (.ref s.heap.objs.size) (.ref lx) .none) _ _ _
  refine wpAny_bind (wpAny_updateSeq hS rfl ?_)
  obtain ⟨F₂, N₂⟩ := upd_at (o' := { cls := .type "list", data := .seq #[] }) (Obj.mapSeq (fun _ => (#[] : Array Value))) F₁ N₁ hS1 hS2 hn3 rfl rfl
  refine wpAny_bind (wpAny_letGo ?_)
  have hlx := (N₂ (lx, instObj 778 ld) (by simp [h1])).1
  have X₂ : (K w.params).In ((s.heap.push { cls := .type "list", data := .seq #[] }).update s.heap.objs.size (Obj.mapSeq (fun _ => (#[] : Array Value)))) := G.X.keeps F₂.keep
  unfold Builtin.List.listExtendWith
  refine wpAny_bind (Looks.at ((Looks.ld hlx).andThen .now) ?_)
  have h1' : Builtin.List.listSameRef (.ref s.heap.objs.size) (.ref lx) = false := by
    have := hn3 _ h1
    simp [Builtin.List.listSameRef, Ne.symm this]
  dsimp only
  simp only [h1', show (Value.ref 778 == Value.type "list") = false from rfl, show (Value.ref 778 == Value.type "tuple") = false from rfl, Bool.or_false, Bool.false_eq_true, if_false]
  refine wpAny_bind (owit_iter (f := 768) F₂ G.X (by k_inst) (by k_dflt k_is) (by k_dflt k_is) ?_)
  refine SpecP.use (sp_iter w lx ld) G.B F₂ G.X N₂ G.T hk (dp := dp) (un := un + 2) (room_in hd (by decide)) (by lia) (by simp [h1]) fun t h' tk' F₃ N₃ => ?_
  refine owit_it (g := .ref 775) F₃ G.X (by k_inst) (by k_dflt k_is) ?_
  have hlx' := (N₃ (lx, instObj 778 ld) (by simp [h1])).1
  refine wpAny_bind (wpAny_holding (hint_lex (G.X.keeps F₃.keep) hlx' ?_))
  simp only [Bool.true_or, if_true]
  have hS₃ := (N₃ (s.heap.objs.size, { cls := .type "list", data := .seq #[] }) (by simp)).1
  refine wpAny_bind (wpAny_rule ?_)
  refine wpAny_bind ?_
  show wpAny _ _ (updateSeq s.heap.objs.size (·.push .none) >>= fun _ => updateSeq s.heap.objs.size (·.pop)) _ _ _
  refine wpAny_bind (wpAny_updateSeq hS₃ rfl ?_)
  obtain ⟨F₄, N₄⟩ := upd_at (o' := { cls := .type "list", data := .seq #[.none] 1 }) (Obj.mapSeq (·.push Value.none)) F₃ N₃ hS1 hS2 hn3 rfl rfl
  have hS₄ := (N₄ (s.heap.objs.size, { cls := .type "list", data := .seq #[.none] 1 }) (by simp)).1
  refine wpAny_updateSeq (hz := by seq_fits) hS₄ rfl ?_
  obtain ⟨F₅, N₅⟩ := upd_at (o' := { cls := .type "list", data := .seq #[] 2 }) (Obj.mapSeq (·.pop)) F₄ N₄ hS1 hS2 hn3 rfl rfl
  refine wpAny_pure ⟨plainId_quiet PySem.F.plain_extend_loop _, ?_⟩
  refine list_loop w sx q1 q2 lx ld sd at_ vt wc a0 a1 a2 t0 t1 t2 v0 tx x cm hx hwc s.heap.objs.size (dp := dp) (un := un) (outer := outer) hr p ts tt tl v2 ln #[] 2 _ hl hp (by simpa using hz) G F₅ N₅ hk hd (by lia) h1 h2 h3 h4 hn1 hn2 hls hn3 hS1 hS2 fun h₀' h'' tk'' c' vs hT G' T' F' N' => ?_
  refine ⟨rfl, hret s.heap.objs.size h₀' h'' tk'' c' vs hT G' T' F' ?_ hlr⟩
  simpa using N'
end
section
open PySem PySem.W
example {M : Model} {A : Around} {v : Value} {Q : Bool → Shared → Prop} {E : Value → Shared → Prop} {s : Shared} (h : wpAny M A (truthy v) Q E s) : wpAny M A (truthy v) Q E s := by first | (walk1; fail) | exact h
end
section
open PySem PySem.W PySem.Spec PySem.Calls PyProof.Rows
set_option maxHeartbeats 4000000
theorem perm6 {h₀ h : Heap} {L : Addr} {a b c d e f : Addr × Obj} {r : List (Addr × Obj)} (N : News h₀ L h (a :: b :: c :: d :: e :: f :: r)) : News h₀ L h (f :: d :: a :: b :: c :: e :: r) := newsPick (want := [f, d, a, b, c, e]) [a, b, c, d, e, f] [5, 3, 0, 1, 2, 4] N rfl
theorem all5 {a b c d e n : Nat} {o1 o2 o3 o4 : Obj} {r : List (Addr × Obj)} (h1 : a ≠ e) (h2 : b ≠ e) (h3 : c ≠ e) (h4 : d ≠ e) (hr : ∀ p ∈ r, p.1 < n) (hn : ∀ k : Nat, k < n → k ≠ e) : ∀ p ∈ (((a : Addr), o1) :: ((b : Addr), o2) :: ((c : Addr), o3) :: ((d : Addr), o4) :: r : List (Addr × Obj)), p.1 ≠ e := by
  intro p hp
  simp only [List.mem_cons] at hp
  rcases hp with rfl | rfl | rfl | rfl | hp
  · exact h1
  · exact h2
  · exact h3
  · exact h4
  · exact hn _ (hr p hp)
theorem sp_split_true (w : World) (x : Str) (tx : Tok) (toks : List Str) (hx : x.length ≤ 100000) (hr : Runs true .S (Mine.L x) toks) (hz : toks.length ≤ 1000) {dp un : Nat} {gd : Option (List Code)} {cn : Str} {cs : Scope} {a : Addr} {ccd : Value} {cl : List (Str × Addr)} {outer : List Env} {A₀ : Around} {base h₀ : Heap} {L : Addr} {m mg mb : Str → Option Value} {mean : ExcName → Option Value} {news : List (Addr × Obj)} {s : Shared} {Q E : Value → Shared → Prop}
    (G : Grd w mean mg mb A₀ base outer h₀) (F : Fr h₀ L s.heap m) (N : News h₀ L s.heap news) (hk : cs.kind = .function) (hd : dp + 40 < recursionLimit) (hu : un + 300 < cLine)
    (hret : (∀ S h₀' h' tk' c' vs, TokS vs toks → Grd w mean mg mb A₀ base outer h₀' → KtsTurn (outer.filterMap (·.frame)) h₀ h₀' → Fr h₀' L h' m → News h₀' L h' ((S, listObj vs c') :: news) → (∀ p ∈ news, p.1 < S) → Q (.ref S) { s with heap := h', toks := tk' })) : wpAny (model PySem.Challenge.pw_kt0081_01 w) (ktrTop dp un gd cn cs L a ccd cl outer) (call (.ref 790) [.str x tx] [("comments", .bool true)]) Q E s := by
  have GX := G.X
  refine wpAny_call ?_
  refine' fn_enterT (binds := [("s", .str x tx), ("comments", .bool true), ("posix", .bool true)]) ?k1 ?k2 ?k3 ?kA ?kF ?kK ?k6 ?ks ?k7 ?k8 ?k9 ?kB ?_ ?c2 ?c3 ?c4 ?c5
  case kA => exact rfl
  case kF => exact rfl
  case kK => assumption
  case k1 => assumption
  case k2 => assumption
  case k3 => assumption
  case k6 => k_dflt k_is
  case ks => exact rfl
  case k7 => k_dflt k_is
  case k8 => exact Nat.lt_of_le_of_lt (Nat.le_add_right _ _) hd
  case k9 => exact binds_K (by k_in) rfl (by k_dflt k_is) rfl rfl rfl
  case c5 => decide
  case kB => exact locs rfl
  case c2 => exact rfl
  case c3 => exact rfl
  case c4 => exact rfl
  intro g' L' h' FG' F' N' B' X' T' D' l1
  try k_lt l1
  simp only [List.reverse_cons, List.reverse_nil, List.nil_append, List.cons_append, lookF, lookE] at F'
  try dsimp only
  try k_lift B'
  try k_fold
  (k_steps; repeat' (((with_reducible show wpAny _ _ (call (Value.ref 778) _ _) _ _ _); k_dflt (refine' SpecM.go (sp_shlex _ _ _) ?_); intro pre' v' h' tk' hled' F' N' l1; (obtain ⟨lx, ld, sx, sd, q1, q2, b0, b1, b2, u0, u1, u2, w0, w2, wc, at_, vt, hl1', hl2', hl3', hl4', hl5', hwc'⟩ := hled'); (replace hl1' : @LT.lt Nat _ ld lx := hl1'); (replace hl2' : @LT.lt Nat _ lx sd := hl2'); (replace hl3' : @LT.lt Nat _ sd sx := hl3'); (replace hl4' : @LT.lt Nat _ sx q1 := hl4'); (replace hl5' : @LT.lt Nat _ q1 q2 := hl5'); (simp only [List.cons_append, List.nil_append] at N'); (have l2 := l1 _ (List.mem_cons_of_mem _ (List.mem_cons_of_mem _ (List.mem_cons_of_mem _ (List.mem_cons_of_mem _ (List.mem_cons_of_mem _ List.mem_cons_self)))))); (dsimp only at l2); (try k_lt l2); (try dsimp only); (try k_sweep)); all_goals (try k_steps)))
  (rename (Nat → Tok) => vtX)
  (rename ∀ p' : Addr × Obj, p' ∈ news → p'.fst < _ => zl)
  (with_reducible rename News _ _ _ _ => zN)
  (with_reducible rename Fr _ _ _ _ => zF)
  (with_reducible rename Grd _ _ _ _ _ _ _ _ => zG)
  (with_reducible rename Txt.contains _ _ = _ => zW)
  (rename Below _ _ _ _ => zB)
  (rename Frag.In _ _ => zX)
  (rename Top _ _ _ _ _ _ => zT)
  (rename KtsDicts _ _ => zD)
  refine list_lex w _ _ _ _ _ _ _ vtX _ _ _ _ _ _ _ _ _ x true hx zW hr 0 _ _ _ _ _ _ rfl (Nat.zero_le _) hz ⟨zB, zX, zT, zD, zG.XB, zG.TB⟩ zF (perm6 zN) ?_ ?_ ?_ ?_ ?_ ?_ ?_ ?_ ?_ ?_ ?_
  · exact rfl
  · show dp + 1 + 30 < recursionLimit; lia
  · show un + 3 + 220 < cLine; lia
  · simp
  · simp
  · simp
  · simp
  · exact all5 (by lia) (by lia) (by lia) (by lia) zl fun k => by lia
  · exact all5 (by lia) (by lia) (by lia) (by lia) zl fun k => by lia
  · show @Ne Nat _ _; lia
  · intro S h₀' h' tk' c' vs hT G' T' F' N' l
    refine leaveT_ F' N' T' fun h₀'' G'' T'' F'' N'' => ?_
    refine hret S h₀'' h' tk' c' vs hT G'' T'' F'' (newsSub N'' fun p hp => ?_) fun p hp => l p (by simp [hp])
    rcases List.mem_cons.mp hp with rfl | hp
    · simp
    · simp [hp]
theorem sp_split_false (w : World) (x : Str) (tx : Tok) (toks : List Str) (hx : x.length ≤ 100000) (hr : Runs false .S (Mine.L x) toks) (hz : toks.length ≤ 1000) {dp un : Nat} {gd : Option (List Code)} {cn : Str} {cs : Scope} {a : Addr} {ccd : Value} {cl : List (Str × Addr)} {outer : List Env} {A₀ : Around} {base h₀ : Heap} {L : Addr} {m mg mb : Str → Option Value} {mean : ExcName → Option Value} {news : List (Addr × Obj)} {s : Shared} {Q E : Value → Shared → Prop}
    (G : Grd w mean mg mb A₀ base outer h₀) (F : Fr h₀ L s.heap m) (N : News h₀ L s.heap news) (hk : cs.kind = .function) (hd : dp + 40 < recursionLimit) (hu : un + 300 < cLine)
    (hret : (∀ S h₀' h' tk' c' vs, TokS vs toks → Grd w mean mg mb A₀ base outer h₀' → KtsTurn (outer.filterMap (·.frame)) h₀ h₀' → Fr h₀' L h' m → News h₀' L h' ((S, listObj vs c') :: news) → (∀ p ∈ news, p.1 < S) → Q (.ref S) { s with heap := h', toks := tk' })) : wpAny (model PySem.Challenge.pw_kt0081_01 w) (ktrTop dp un gd cn cs L a ccd cl outer) (call (.ref 790) [.str x tx] [("comments", .bool false)]) Q E s := by
  have GX := G.X
  refine wpAny_call ?_
  refine' fn_enterT (binds := [("s", .str x tx), ("comments", .bool false), ("posix", .bool true)]) ?k1 ?k2 ?k3 ?kA ?kF ?kK ?k6 ?ks ?k7 ?k8 ?k9 ?kB ?_ ?c2 ?c3 ?c4 ?c5
  case kA => exact rfl
  case kF => exact rfl
  case kK => assumption
  case k1 => assumption
  case k2 => assumption
  case k3 => assumption
  case k6 => k_dflt k_is
  case ks => exact rfl
  case k7 => k_dflt k_is
  case k8 => exact Nat.lt_of_le_of_lt (Nat.le_add_right _ _) hd
  case k9 => exact binds_K (by k_in) rfl (by k_dflt k_is) rfl rfl rfl
  case c5 => decide
  case kB => exact locs rfl
  case c2 => exact rfl
  case c3 => exact rfl
  case c4 => exact rfl
  intro g' L' h' FG' F' N' B' X' T' D' l1
  try k_lt l1
  simp only [List.reverse_cons, List.reverse_nil, List.nil_append, List.cons_append, lookF, lookE] at F'
  try dsimp only
  try k_lift B'
  try k_fold
  (k_steps; repeat' (((with_reducible show wpAny _ _ (call (Value.ref 778) _ _) _ _ _); k_dflt (refine' SpecM.go (sp_shlex _ _ _) ?_); intro pre' v' h' tk' hled' F' N' l1; (obtain ⟨lx, ld, sx, sd, q1, q2, b0, b1, b2, u0, u1, u2, w0, w2, wc, at_, vt, hl1', hl2', hl3', hl4', hl5', hwc'⟩ := hled'); (replace hl1' : @LT.lt Nat _ ld lx := hl1'); (replace hl2' : @LT.lt Nat _ lx sd := hl2'); (replace hl3' : @LT.lt Nat _ sd sx := hl3'); (replace hl4' : @LT.lt Nat _ sx q1 := hl4'); (replace hl5' : @LT.lt Nat _ q1 q2 := hl5'); (simp only [List.cons_append, List.nil_append] at N'); (have l2 := l1 _ (List.mem_cons_of_mem _ (List.mem_cons_of_mem _ (List.mem_cons_of_mem _ (List.mem_cons_of_mem _ (List.mem_cons_of_mem _ List.mem_cons_self)))))); (dsimp only at l2); (try k_lt l2); (try dsimp only); (try k_sweep)); all_goals (try k_steps)))
  (rename (Nat → Tok) => vtX)
  (rename ∀ p' : Addr × Obj, p' ∈ news → p'.fst < _ => zl)
  (with_reducible rename News _ _ _ _ => zN)
  (with_reducible rename Fr _ _ _ _ => zF)
  (with_reducible rename Grd _ _ _ _ _ _ _ _ => zG)
  (with_reducible rename Txt.contains _ _ = _ => zW)
  (rename Below _ _ _ _ => zB)
  (rename Frag.In _ _ => zX)
  (rename Top _ _ _ _ _ _ => zT)
  (rename KtsDicts _ _ => zD)
  refine list_lex w _ _ _ _ _ _ _ (fun i => if i = 4 then _ else vtX i) _ _ _ _ _ _ _ _ _ x false hx zW hr 0 _ _ _ _ _ _ rfl (Nat.zero_le _) hz ⟨zB, zX, zT, zD, zG.XB, zG.TB⟩ zF (perm6 zN) ?_ ?_ ?_ ?_ ?_ ?_ ?_ ?_ ?_ ?_ ?_
  · exact rfl
  · show dp + 1 + 30 < recursionLimit; lia
  · show un + 3 + 220 < cLine; lia
  · simp
  · simp
  · simp
  · simp
  · exact all5 (by lia) (by lia) (by lia) (by lia) zl fun k => by lia
  · exact all5 (by lia) (by lia) (by lia) (by lia) zl fun k => by lia
  · show @Ne Nat _ _; lia
  · intro S h₀' h' tk' c' vs hT G' T' F' N' l
    refine leaveT_ F' N' T' fun h₀'' G'' T'' F'' N'' => ?_
    refine hret S h₀'' h' tk' c' vs hT G'' T'' F'' (newsSub N'' fun p hp => ?_) fun p hp => l p (by simp [hp])
    rcases List.mem_cons.mp hp with rfl | hp
    · simp
    · simp [hp]
end
section
open PySem PySem.W
example {M : Model} {A : Around} {v : Value} {Q : Bool → Shared → Prop} {E : Value → Shared → Prop} {s : Shared} (h : wpAny M A (truthy v) Q E s) : wpAny M A (truthy v) Q E s := by first | (walk1; fail) | exact h
end
section
open PySem PySem.W PySem.Spec PySem.Calls PyProof.Rows
set_option maxHeartbeats 4000000
section
variable {w : World} {mean : ExcName → Option Value} {mg mb : Str → Option Value} {A : Around} {R : Result → Shared → Prop} {s : Shared}
variable {name qual : Str} {params : Arguments} {body : List Stmt} {scope : Scope} {dV kV pm cdv : Value} {f : Addr} {args : Args} {binds : List (Str × Value)} {src : Option (Arguments × List Stmt × Scope)}
/-- the entering of a def whatever the frames around are: its base is the whole heap -/
theorem fn_enterA (X : (K w.params).In s.heap) (T : Top q (looseW q loose) mean mg mb s.heap)
    (ho : (K w.params).lookup f = some (foOf src name qual dV kV pm cdv)) (hsrc : src = some (params, body, scope)) (hcd : codeIn (K w.params) cdv qual = true) (hroom : A.depth < recursionLimit)
    (hbind : BindsTo s (fnOf name qual params body scope dV kV .none pm none cdv .none) args binds) (hloc : ∀ y ∈ binds, scope.names.lookup y.1 = some .local)
    (h : ∀ L' h₁, Fr s.heap L' h₁ (fun y => binds.reverse.lookup y) → News s.heap L' h₁ [] →
      wpAny (model PySem.Challenge.pw_kt0081_01 w) (A.deeper (envOf qual scope L' f cdv)) (execs body (envOf qual scope L' f cdv))
        (fun fl s' => R (.ok (.ret (match fl with | .ret v => v | _ => .none))) s')
        (fun e s' => wpAny (model PySem.Challenge.pw_kt0081_01 w) (A.deeper (envOf qual scope L' f cdv)) (leaving (envOf qual scope L' f cdv) e) (fun _ s'' => R (.error e) s'') (fun e' s'' => R (.error e') s'') s')
        { s with heap := h₁, toks := s.toks + binds.length })
    (hco : scope.isCoroutine = false) (hgen : scope.isGenerator = false) (hk : scope.kind = .function)
    (hcell : ∀ x ∈ scope.names, x.2 ≠ .cell) : codeAny (model PySem.Challenge.pw_kt0081_01 w) A (.call (.ref f) args) R s := by
  subst hsrc
  refine codeAny_call_def (fd := fnOf name qual params body scope dV kV .none pm none cdv .none) (body := body) (binds := binds) hroom (X _ _ ho) rfl T.nolimit (codeRec_of X hcd) rfl hbind hcell hloc (fun h₁ hns hk₁ => ?_) hco hgen hk
  exact h s.heap.objs.size h₁ ⟨hns, hk₁, Nat.le_refl _⟩ (fun p hp => nomatch hp)
end
theorem quote_any (w : World) (x : Str) (tx : Tok) (hx : x.length ≤ 100000) {mean : ExcName → Option Value} {mg mb : Str → Option Value} {A : Around} {Q E : Value → Shared → Prop} {s : Shared} (hd : A.depth < recursionLimit) (X : (K w.params).In s.heap) (T : Top q (looseW q loose) mean mg mb s.heap)
    (hret : ∀ t h' tk', (∀ b o, s.heap.get? b = some o → h'.get? b = some o) → Q (.str (quo x) t) { s with heap := h', toks := tk' }) :
    wpAny (model PySem.Challenge.pw_kt0081_01 w) A (call (.ref 805) [.str x tx]) Q E s := by
  refine wpAny_call ?_
  refine' fn_enterA (binds := [("s", .str x tx)]) ?k3 ?k5 ?k6 ?ks ?k7 ?k8 ?k9 ?kB ?_ ?c2 ?c3 ?c4 ?c5
  case k3 => exact X
  case k5 => exact T
  case k6 => k_dflt k_is
  case ks => exact rfl
  case k7 => k_dflt k_is
  case k8 => exact hd
  case k9 => exact BindsTo.of_eq rfl
  case c5 => decide
  case kB => exact locs rfl
  case c2 => exact rfl
  case c3 => exact rfl
  case c4 => exact rfl
  intro L' h' F' N'
  simp only [List.reverse_cons, List.reverse_nil, List.nil_append, List.cons_append, lookF, lookE] at F'
  try dsimp only
  try k_fold
  show (let zV := _; let zA := _; wpAny _ zA (execs _ zV) _ _ _)
  intro zV zA
  have hq := QT_len x
  (k_steps; repeat' (first | (((with_reducible show wpAny _ _ (callWith _ (Value.ref 798) _ (backTo _ (starEach (_ :: _) _)) []) _ _ _); k_dflt (refine' callWith_find ?zX ?_ ?ze ?zp; (case zX => k_asm); (case ze => rfl); (case zp => rfl); k_whole)); all_goals (try k_steps)) | (((with_reducible show wpAny _ _ (call (Value.ref 798) _) _ _ _); k_dflt (refine' call_find ?zX ?zF ?zN ?zx (fun hsafe => ?_) (fun hsafe a' h' F' N' => ?_); (case zX => k_asm); (case zF => k_asm); (case zN => k_asm); (case zx => assumption)) <;> (try dsimp only)); all_goals (try k_steps))))
  all_goals (with_reducible rename Fr _ _ _ _ => zF)
  · have e : quo x = x := by unfold quo; rw [if_neg (by omega), if_pos (by assumption)]
    simp only [e] at hret
    exact hret _ _ _ zF.keep
  · have e : quo x = Str.ofString "'" ++ Txt.replace x (Str.ofString "'") (Str.ofString "'\"'\"'") ++ Str.ofString "'" := by unfold quo; rw [if_neg (by omega), if_neg (by simp_all only [Bool.false_eq_true, not_false_eq_true]), rep_QT]
    simp only [e] at hret
    exact hret _ _ _ zF.keep
  · have e : quo x = Str.ofString "''" := by unfold quo; rw [if_pos (by omega)]
    simp only [e] at hret
    exact hret _ _ _ zF.keep
end
section
open PySem PySem.W
example {M : Model} {A : Around} {v : Value} {Q : Bool → Shared → Prop} {E : Value → Shared → Prop} {s : Shared} (h : wpAny M A (truthy v) Q E s) : wpAny M A (truthy v) Q E s := by first | (walk1; fail) | exact h
end
section
open PySem PySem.W PySem.Spec PySem.Calls PyProof.Rows
set_option maxHeartbeats 4000000
section
variable {M : Model} {A : Around} {E : Value → Shared → Prop} {s : Shared} {h₀ : Heap} {C bi : Addr} {m mg mb : Str → Option Value} {sc : Scope} {cl : List (Str × Addr)} {code : Value} {env : Env} {x : String} {pos : Pos} {v : Value} {Q : Value → Shared → Prop} {KF : Frag} {p : Program} {lo : List Str} {mean : ExcName → Option Value}
theorem nameGenL (F : Fr h₀ C s.heap m) (hx : List.lookup (Str.ofString x) sc.names = some NameKind.local) (hd : x ≠ "__debug__") (hv : m (Str.ofString x) = some v) (hk : sc.kind = .function) (h : Q v s) :
    wpAny M A (eval (.Name (Str.ofString x) pos) (genEnv sc cl C code bi env)) Q E s := wpAny_Name (wpAny_loadName_local (env := genEnv sc cl C code bi env) hk hx F.ns hv h) (beq_eq_false_iff_ne.mpr fun e => hd (ofString_inj e))
theorem nameGenG (F : Fr h₀ C s.heap m) (hx : List.lookup (Str.ofString x) sc.names = some NameKind.globalImplicit) (X : KF.In h₀) (T : Top p lo mean mg mb h₀) (hg : env.globals = mainGlobals) (hd : x ≠ "__debug__") (e : nsIn KF mainGlobals (Str.ofString x) = some (some v)) (hk : sc.kind = .function) (h : Q v s) :
    wpAny M A (eval (.Name (Str.ofString x) pos) (genEnv sc cl C code bi env)) Q E s := Name_function_global (env := genEnv sc cl C code bi env) hk hx (loadGlobal_global (env := genEnv sc cl C code bi env) (mg := mg) (by show s.heap.Ns env.globals mg; rw [hg]; exact T.g.keeps F.keep) (mg_of X T.g e) h) (beq_eq_false_iff_ne.mpr fun e => hd (ofString_inj e))
end
theorem elt_quote (w : World) (x : Str) (tx : Tok) (hx : x.length ≤ 100000) {mean : ExcName → Option Value} {mg mb m : Str → Option Value} {A : Around} {E : Value → Shared → Prop} {s : Shared} {h₀ : Heap} {C bi : Addr} {cl : List (Str × Addr)} {code : Value} {env : Env} {sc : Scope} {p1 p2 p3 : Pos} (hg : env.globals = mainGlobals) (hd : A.depth < recursionLimit) (F : Fr h₀ C s.heap m) (X : (K w.params).In h₀) (T : Top q (looseW q loose) mean mg mb h₀)
    (hsk : sc.kind = .function) (hs1 : List.lookup (Str.ofString "arg") sc.names = some NameKind.local) (hs2 : List.lookup (Str.ofString "quote") sc.names = some NameKind.globalImplicit) (hm : m (Str.ofString "arg") = some (.str x tx)) :
    wpAny (model PySem.Challenge.pw_kt0081_01 w) A (eval (.Call (.Name (Str.ofString "quote") p1) [.Name (Str.ofString "arg") p2] [] p3) (genEnv sc cl C code bi env)) (fun y s₃ => (∃ u, y = .str (quo x) u) ∧ Keeps s s₃) E s := by
  refine Call_ (nameGenG (x := "quote") (v := .ref 805) F hs2 X T hg (by decide) (by k_is) hsk ?_)
  refine callWith_K (K := K w.params) (X.keeps F.keep) (by k_dflt k_is) (args_cons (nameGenL (x := "arg") F hs1 (by decide) hm hsk (args_nil ?_)))
  refine ⟨X.keeps F.keep, ?_⟩
  exact quote_any w x tx hx hd (X.keeps F.keep) (T.keeps F.keep) fun t h' tk' hk => ⟨⟨t, rfl⟩, _, _, rfl, hk⟩
noncomputable def JT (T : Obj) : Prop := ∃ ps : Array Value, T = { cls := .none, data := .fields ps } ∧ (ps = #[] ∨ ∃ c' : Addr, ps = #[rawInt 797, rawInt 20, .ref c'])
theorem JT_first (P : Params) : JT (o792 P) := ⟨#[], rfl, .inl rfl⟩
theorem code_join {w : World} {M : Model} {A : Around} {E : Value → Shared → Prop} {s : Shared} {T₀ : Obj} {env : Env} {pos : Pos} {qn : Str} {gsc : Scope} {Q : Value → Shared → Prop} (hc : env.code = .ref 796) (X : (K w.params).In s.heap) (hT : JT T₀) (h792 : s.heap.get? 792 = some T₀) (hp1 : pos.line = 797) (hp2 : pos.col = 20)
    (hQ : ∀ code h₃ tk₃ T₁, JT T₁ → (∀ b o, b ≠ 792 → s.heap.get? b = some o → h₃.get? b = some o) → s.heap.objs.size ≤ h₃.objs.size → h₃.get? 792 = some T₁ → Q code { s with heap := h₃, toks := tk₃ }) :
    wpAny M A (genexprCode env pos qn gsc) Q E s := by
  obtain ⟨ps, rfl, h⟩ := hT
  have h796 := X 796 (o796 w.params) (by rfl)
  have tri : TriplesOk ps.toList := by rcases h with rfl | ⟨c', rfl⟩ <;> simp [TriplesOk, rawInt]
  have hok : s.heap.IsCode 796 792 ps := ⟨o796 w.params, _, _, _, _, _, _, _, _, _, h796, rfl, rfl, rfl, rfl, rfl, rfl, h792, rfl, tri, by decide⟩
  have htab : s.heap.TableAt 796 792 ps := ⟨⟨o796 w.params, _, h796, rfl, rfl, rfl⟩, h792⟩
  rcases h with rfl | ⟨c', rfl⟩
  · exact wpAny_genexprCodeX hc hok htab (by rfl) fun c' h' tk hx hge hlt hcode hrec htab' _ => hQ _ _ _ _ ⟨_, rfl, .inr ⟨c', by simp [hp1, hp2]⟩⟩ (fun b o hb e => hx b o hb e) (by lia) htab'.2
  · exact wpAny_genexprCode_hit hc hok (c' := .ref c') (by simp [codeAmong, rawInt, hp1, hp2]) (hQ _ s.heap s.toks _ ⟨_, rfl, .inr ⟨c', rfl⟩⟩ (fun _ _ _ e => e) (Nat.le_refl _) h792)
theorem quo_len (x : Str) (hx : x.length ≤ 100000) : (quo x).length ≤ 500002 := by
  unfold quo
  have h2 : (Str.ofString "''").length = 2 := by rw [len_lit]; rfl
  have h1 : (Str.ofString "'").length = 1 := by rw [len_lit]; rfl
  have h3 : (Esc QT x).length ≤ 5 * x.length := by rw [← rep_QT]; exact QT_len x
  split
  · lia
  · split
    · lia
    · rw [len_app, len_app]; lia
theorem join_gen (w : World) (l : Addr) (x y : Str) (t1 t2 t0 : Tok) (n : Nat) (T₀ : Obj) (hx : x.length ≤ 100000) (hy : y.length ≤ 100000) {A : Around} {env : Env} {gsc : Scope} {cl : List (Str × Addr)} {p1 p2 p3 pos px : Pos} {iter : Expr} {h₀ : Heap} {L : Addr} {m mg mb : Str → Option Value} {mean : ExcName → Option Value} {rest : List (Addr × Obj)} {s : Shared} {Q E : Value → Shared → Prop}
    (hh : A.handled = none) (hg : env.globals = mainGlobals) (hc : env.code = .ref 796) (hco : gsc.isCoroutine = false) (hclos : closureFor gsc env = pure cl) (hcell : ∀ y ∈ gsc.names, y.2 ≠ .cell) (h0 : gsc.names.lookup (".0" : Str) = some NameKind.local)
    (hs1 : gsc.names.lookup (Str.ofString "arg") = some .local) (hs2 : gsc.names.lookup (Str.ofString "quote") = some .globalImplicit) (hkind : gsc.kind = .function) (hroom : A.depth + 1 < recursionLimit) (hp1 : pos.line = 797) (hp2 : pos.col = 20)
    (X : (K w.params).In h₀) (T : Top q (looseW q loose) mean mg mb h₀) (F : Fr h₀ L s.heap m) (N : News h₀ L s.heap ((792, T₀) :: rest)) (hT : JT T₀) (hne : ∀ p ∈ rest, p.1 ≠ 792) (hl : (l, listObj [.str x t1, .str y t2] n) ∈ rest)
    (hit : ∀ Q' : Value → Shared → Prop, Q' (.ref l) s → wpAny (model PySem.Challenge.pw_kt0081_01 w) A (eval iter env) Q' E s) (hs : ∀ x, genFold iter env x = pure x)
    (hret : ∀ t T₁ h' tk' g', (AllBare s.gens → AllBare g') → JT T₁ → Fr h₀ L h' m → News h₀ L h' ((792, T₁) :: rest) → Q (.str (quo x ++ Str.ofString " " ++ quo y) t) { s with heap := h', toks := tk', gens := g' }) :
    wpAny (model PySem.Challenge.pw_kt0081_01 w) A (eval (.GeneratorExp (.Call (.Name (Str.ofString "quote") p1) [.Name (Str.ofString "arg") p2] [] p3) [⟨.Name (Str.ofString "arg") px, iter, [], 0⟩] gsc pos) env)
      (fun v s₁ => wpAny (model PySem.Challenge.pw_kt0081_01 w) A (call (.builtin "str.join") [.str (Str.ofString " ") t0, v]) Q E s₁) E s := by
  refine wpAny_GeneratorExp_walksQD hh hco hclos hcell h0 hs1 hkind (by lia) (hit _ ?_) hs
  have hlo := (N _ (List.mem_cons_of_mem _ hl)).1
  have h792 := (N _ List.mem_cons_self).1
  have hL : s.heap.IsList l #[.str x t1, .str y t2] := ⟨_, hlo, rfl, n, rfl⟩
  have hl792 : l ≠ 792 := by
    intro e
    obtain ⟨ps, rfl, _⟩ := hT
    dsimp only at hlo h792
    rw [e, h792] at hlo
    cases hlo
  have hlt : l < s.heap.objs.size := Heap.lt_size hlo
  have hP : 792 < s.heap.objs.size := Heap.lt_size h792
  refine wpAny_pyIter_list hL ?_
  have F₂ : Fr h₀ L (s.heap.push { cls := .type "list_iterator", data := .fields #[.ref l, .int 0 0] }) m := F.keeps fun _ _ e => Heap.get?_push_of_some _ e
  refine ⟨T.nolimit.keeps F₂.keep, ?_⟩
  refine code_join hc (X.keeps F₂.keep) hT (Heap.get?_push_of_some _ h792) hp1 hp2 fun code h₃ tk₃ T₁ hT₁ hk₃ hsz₃ h792' => ?_
  have hn792 : h₀.get? 792 = none := (N _ List.mem_cons_self).2.2
  have keep₃ : ∀ b o, h₀.get? b = some o → h₃.get? b = some o := fun b o e => hk₃ b o (fun q => by rw [q, hn792] at e; cases e) (F₂.keep b o e)
  have hsz₂ : @LE.le Nat _ (s.heap.objs.size + 1) h₃.objs.size := by have z := hsz₃; rw [Heap.size_push] at z; exact z
  obtain ⟨bm, ob, hb1, hb2, hb3, hb4, hb5, hb6⟩ := T.bmain
  refine wpAny_builtinsFor (m := mg) (by rw [hg]; exact T.g.keeps keep₃) hb1 hb2 (keep₃ _ _ hb3) hb4 hb5 hb6 ?_
  have hcs : cStatics < s.heap.objs.size := by
    obtain ⟨_, hn, _⟩ := T.nolimit.keeps F.keep
    exact hn.lt
  have W₀ : ∀ A' : Around, A'.handled = none → Walks PySem.Challenge.pw_kt0081_01 w A' s.heap.objs.size [s.heap.objs.size, l] [s.heap.objs.size] 2 (fun i v => (#[.str x t1, .str y t2] : Array Value)[i]? = some v) (fun i h => h.IsListIter s.heap.objs.size l i ∧ h.IsList l #[.str x t1, .str y t2]) := fun A' hA => Walks.list hA _ _ (Nat.ne_of_lt hlt) #[.str x t1, .str y t2]
  have old : ∀ b o, b < s.heap.objs.size → b ≠ 792 → s.heap.get? b = some o → h₃.get? b = some o := fun b o _ hb e => hk₃ b o hb (Heap.get?_push_of_some _ e)
  have st₃ : h₃.IsListIter s.heap.objs.size l 0 ∧ h₃.IsList l #[.str x t1, .str y t2] := ⟨⟨_, hk₃ _ _ (Nat.ne_of_gt hP) (Heap.get?_push_size _ rfl), rfl, rfl⟩, ⟨_, old l _ hlt hl792 hlo, rfl, n, rfl⟩⟩
  refine ⟨s.heap.objs.size, [s.heap.objs.size, l], [s.heap.objs.size], 2, _, _, fun _ => true, fun i y' => ∃ u, y' = .str (if i = 0 then quo x else quo y) u, rfl, W₀, st₃, ?_, T.nolimit.keeps keep₃, ?_, ?_, ?_⟩
  · intro b hb
    show b < h₃.objs.size
    rcases List.mem_cons.mp hb with rfl | hb
    · exact hsz₂
    · rcases List.mem_cons.mp hb with rfl | hb
      · exact Nat.lt_trans hlt hsz₂
      · cases hb
  · intro hm
    rcases List.mem_cons.mp hm with e | hb
    · exact absurd (e ▸ hcs) (Nat.lt_irrefl _)
    · cases hb
  · intro href hhref
    refine { tests := fun A' E' i v s₂ m₂ hA _ _ _ _ _ _ => wpAny_pure ⟨rfl, _, _, rfl, fun _ _ e => e⟩, elt := fun A' E' i v s₂ m₂ hA hdep _ hPv _ hn hm hkp => ?_ }
    have keep' : ∀ b o, h₀.get? b = some o → s₂.heap.get? b = some o := fun b o e => hkp b (List.mem_range.mpr (Heap.lt_size (keep₃ b o e))) (fun q => by
      rcases List.mem_cons.mp q with rfl | q
      · exact absurd (Heap.lt_size (F.keep _ _ e)) (Nat.lt_irrefl _)
      · cases q) o (hhref _ _ (keep₃ b o e))
    have FC : Fr h₀ h₃.objs.size s₂.heap m₂ := ⟨hn, keep', Nat.le_trans F.above (Nat.le_of_lt (Nat.lt_trans F.ns.lt hsz₂))⟩
    have hA' : A'.depth < recursionLimit := by lia
    match i, hPv with
    | 0, hPv =>
      obtain rfl : Value.str x t1 = v := by simpa using hPv
      exact elt_quote w x t1 hx hg hA' FC X T hkind hs1 hs2 hm
    | 1, hPv =>
      obtain rfl : Value.str y t2 = v := by simpa using hPv
      exact elt_quote w y t2 hy hg hA' FC X T hkind hs1 hs2 hm
    | i + 2, hPv => simp at hPv
  · intro a h₅ tk gs hgb hag hsz₅ hk₅ W hat
    have hpass : passing (fun _ => true) 2 0 = [0, 1] := by decide
    rw [hpass] at W
    refine SC.joinGen W.in4_2 (fun i s' st => st.1.typeIs) hat ?_ List.mem_cons_self ?_ (fun s' lt hm hacc => ?_) (by rw [sizeLine_eq]; decide)
    · intro b hb
      show b < h₅.objs.size
      rw [hsz₅]
      rcases List.mem_cons.mp hb with rfl | hb
      · exact Nat.lt_succ_self _
      · rcases List.mem_cons.mp hb with rfl | hb
        · exact Nat.lt_succ_of_lt hag
        · exact Nat.lt_succ_of_lt (Nat.lt_trans (List.mem_range.mp hb) hag)
    · rintro j v ⟨i, _, u, rfl⟩
      exact ⟨_, u, rfl⟩
    · have hlm : lt.map (·.1) = [quo x, quo y] := by
        have hsz : lt.length = 2 := by simpa [strValues] using hacc.1
        match lt, hsz with
        | [(z1, u1), (z2, u2)], _ =>
          obtain ⟨i, hi, u, e1⟩ := hacc.2 0 (.str z1 u1) (by simp [strValues])
          obtain ⟨i', hi', u', e2⟩ := hacc.2 1 (.str z2 u2) (by simp [strValues])
          obtain rfl : 0 = i := by simpa using hi
          obtain rfl : 1 = i' := by simpa using hi'
          injection e1 with e1 _
          injection e2 with e2 _
          simp only [if_true, Nat.one_ne_zero, if_false] at e1 e2
          rw [e1, e2]; rfl
      rw [hlm]
      have hq1 := quo_len x hx
      have hq2 := quo_len y hy
      have hsp : (Str.ofString " ").length = 1 := by rw [len_lit]; rfl
      refine ⟨?_, fun t' k => ?_⟩
      · unfold JoinOk Builtin.Str.tooLong
        show (!decide (0 + (quo x).length + (Str.ofString " ").length + (quo y).length + (Str.ofString " ").length > sizeLine)) = true
        rw [hsp, sizeLine_eq, decide_eq_false (by lia)]
        rfl
      · have off : ∀ b, b < s.heap.objs.size → b ∉ h₃.objs.size :: [s.heap.objs.size] := fun b hb q => by
          rcases List.mem_cons.mp q with rfl | q
          · exact absurd (Nat.lt_trans hb hsz₂) (Nat.lt_irrefl _)
          · rcases List.mem_cons.mp q with rfl | q
            · exact absurd hb (Nat.lt_irrefl _)
            · cases q
        have keep₆ : ∀ b o, b < s.heap.objs.size → h₃.get? b = some o → s'.heap.get? b = some o := fun b o hb e => hm.heap b o (off b hb) (hk₅ b o e)
        have F' : Fr h₀ L s'.heap m := ⟨F.ns.at fun o e => keep₆ L o F.ns.lt (old L o F.ns.lt (fun q => (N _ List.mem_cons_self).2.1 q.symm) e), fun b o e => keep₆ b o (Heap.lt_size (F.keep _ _ e)) (keep₃ b o e), F.above⟩
        have N' : News h₀ L s'.heap ((792, T₁) :: rest) := fun p hp => by
          rcases List.mem_cons.mp hp with rfl | hp
          · exact ⟨keep₆ _ _ hP h792', (N _ List.mem_cons_self).2⟩
          · have hp' := N p (List.mem_cons_of_mem _ hp)
            exact ⟨keep₆ _ _ (Heap.lt_size hp'.1) (old _ _ (Heap.lt_size hp'.1) (hne p hp) hp'.1), hp'.2⟩
        have := hret t' T₁ s'.heap k s'.gens (fun hb => AllBare.movedS (hb.push hgb) hm) hT₁ F' N'
        have e : ({ s' with toks := k } : Shared) = { s with heap := s'.heap, toks := k, gens := s'.gens } := by
          obtain ⟨h', g', d', tk', os'⟩ := s'
          have e2 : d' = s.drawn := hm.drawn
          have e3 : os' = s.os := hm.os
          subst e2 e3
          rfl
        rw [e]
        exact this
theorem sp_join (w : World) (l : Addr) (x y : Str) (t1 t2 : Tok) (n : Nat) (T₀ : Obj) (hx : x.length ≤ 100000) (hy : y.length ≤ 100000) {dp un : Nat} {gd : Option (List Code)} {cn : Str} {cs : Scope} {a : Addr} {ccd : Value} {cl : List (Str × Addr)} {outer : List Env} {A₀ : Around} {base h₀ : Heap} {L : Addr} {m mg mb : Str → Option Value} {mean : ExcName → Option Value} {rest : List (Addr × Obj)} {s : Shared} {Q E : Value → Shared → Prop}
    (B : Below A₀ base outer h₀) (F : Fr h₀ L s.heap m) (X : (K w.params).In h₀) (N : News h₀ L s.heap ((792, T₀) :: rest)) (T : Top q (looseW q loose) mean mg mb h₀) (hk : cs.kind = .function) (hd : dp + 30 < recursionLimit)
    (hT : JT T₀) (hne : ∀ p ∈ rest, p.1 ≠ 792) (hl : (l, listObj [.str x t1, .str y t2] n) ∈ rest)
    (hret : ∀ t T₁ h' tk' g', (AllBare s.gens → AllBare g') → JT T₁ → Fr h₀ L h' m → News h₀ L h' ((792, T₁) :: rest) → Q (.str (quo x ++ Str.ofString " " ++ quo y) t) { s with heap := h', toks := tk', gens := g' }) :
    wpAny (model PySem.Challenge.pw_kt0081_01 w) (ktrTop dp un gd cn cs L a ccd cl outer) (call (.ref 797) [.ref l]) Q E s := by
  refine wpAny_call ?_
  refine' enterA (binds := [("split_command", .ref l)]) ?k6 ?ks ?k7 ?k9 ?kB ?c2 ?c3 ?c4 ?c5 ?k1 ?k2 ?k3 ?k4 ?k5 ?kK ?k8 ?_
  case k1 => assumption
  case k2 => assumption
  case k3 => assumption
  case k4 => assumption
  case k5 => assumption
  case kK => assumption
  case k6 => k_dflt k_is
  case ks => exact rfl
  case k7 => k_dflt k_is
  case k8 => exact Nat.lt_of_le_of_lt (Nat.le_add_right _ _) hd
  case k9 => intro s X; exact BindsTo.of_eq rfl
  case c5 => decide
  case kB => exact locs rfl
  case c2 => exact rfl
  case c3 => exact rfl
  case c4 => exact rfl
  intro g' h' L' tk' WQ WE B' F' X' N' T' hR' htk' hPO
  simp only [List.reverse_cons, List.reverse_nil, List.nil_append, List.cons_append, lookF, lookE] at F'
  show (let zV := _; let zA := _; wpAny _ zA (execs _ zV) _ _ _)
  intro zV zA
  k_steps
  (with_reducible rename Fr _ _ _ _ => zF)
  (with_reducible rename News _ _ _ _ => zN)
  refine wpAny_mono (join_gen w l x y t1 t2 _ n T₀ hx hy rfl rfl rfl rfl rfl (by decide) rfl rfl rfl rfl (by show dp + 1 + 1 < recursionLimit; lia) rfl rfl X' T' zF zN hT hne hl (fun Q' hq => by k_steps; exact hq) (by intro _; rfl) fun t T₁ h' tk' g' hgb hT₁ F₁ N₁ => ?_) (fun v s₁ hv => args_nil hv) fun _ _ e => e
  k_steps
  exact hR' (fun F N => hret t T₁ _ _ g' hgb hT₁ F N) (by with_reducible assumption) (by with_reducible assumption)
end
section
open PySem PySem.W
example {M : Model} {A : Around} {v : Value} {Q : Bool → Shared → Prop} {E : Value → Shared → Prop} {s : Shared} (h : wpAny M A (truthy v) Q E s) : wpAny M A (truthy v) Q E s := by first | (walk1; fail) | exact h
end
section
open PySem PySem.W PySem.Spec PySem.Calls PyProof.Rows
set_option maxHeartbeats 4000000
local macro_rules | `(tactic| walk_at "binaryOp Add str str") => `(tactic| refine of_hold ?_)
theorem upB_size (b : Array UInt8) : (upB b).size = b.size := by simp [upB]
theorem sp_put_1 (w : World) (pr x : Str) (tk tp tx : Tok) (hx : x.length ≤ 100000) : SpecV w 868 20 60 [.int 1 tk, .str pr tp, .str x tx] (fun t => .str (Str.ofString "<d>" ++ Esc t_cdata x ++ Str.ofString "</d>") t) := by
  refine' enterP (binds := [("kind", .int 1 tk), ("pair", .str pr tp), ("text", .str x tx)]) ?k6 ?ks ?k7 ?k9 ?kB ?c2 ?c3 ?c4 ?c5 ?_
  case k6 => k_dflt k_is
  case ks => exact rfl
  case k7 => k_dflt k_is
  case k9 => intro s X; exact BindsTo.of_eq rfl
  case c5 => decide
  case kB => exact locs rfl
  case c2 => exact rfl
  case c3 => exact rfl
  case c4 => exact rfl
  intro dp un gd cn cs a ccd cl outer base g' L L' mg mb mean news gens drawn os h' tk' WQ WE B' F' X' N' T' hd hu hpre hret htk' hPO
  simp only [List.reverse_cons, List.reverse_nil, List.nil_append, List.cons_append, lookF, lookE] at F'
  show (let zV := _; let zA := _; wpAny _ zA (execs _ zV) _ _ _)
  intro zV zA
  have hq := Esc_len t_cdata x 6 (by decide) (by decide +kernel)
  (k_steps; repeat' (first | (((with_reducible refine hold_in ?_); ((with_reducible refine' addStr ?zsz ?_); (case zsz => (try simp only [len_app]); first | lia | (simp only [len_lit, String.reduceToList, List.length_cons, List.length_nil]; lia)); intro tt' tk'; (try dsimp only))); (all_goals (try k_steps))) | (((with_reducible show wpAny _ _ (call (Value.ref 819) _) _ _ _); k_dflt (refine' SpecP.go (sp_escape_cdata _ _ _ (by assumption)) ?_); intro t' h' tk' F' N'; (try dsimp only); (try k_sweep)); all_goals (try k_steps))))
  all_goals (refine hret _ _ _ (by with_reducible assumption) ?_; first | with_reducible assumption | (with_reducible rename News g' L' _ _ => zN; exact newsSub zN (fun p hp => by repeat (first | exact hp | apply List.mem_cons_of_mem))))
theorem sp_put_2 (w : World) (pr x : Str) (tk tp tx : Tok) (hx : x.length ≤ 100000) : SpecV w 868 20 60 [.int 2 tk, .str pr tp, .str x tx] (fun t => .str (Str.ofString "<d>" ++ Esc t_cdata_c14n x ++ Str.ofString "</d>") t) := by
  refine' enterP (binds := [("kind", .int 2 tk), ("pair", .str pr tp), ("text", .str x tx)]) ?k6 ?ks ?k7 ?k9 ?kB ?c2 ?c3 ?c4 ?c5 ?_
  case k6 => k_dflt k_is
  case ks => exact rfl
  case k7 => k_dflt k_is
  case k9 => intro s X; exact BindsTo.of_eq rfl
  case c5 => decide
  case kB => exact locs rfl
  case c2 => exact rfl
  case c3 => exact rfl
  case c4 => exact rfl
  intro dp un gd cn cs a ccd cl outer base g' L L' mg mb mean news gens drawn os h' tk' WQ WE B' F' X' N' T' hd hu hpre hret htk' hPO
  simp only [List.reverse_cons, List.reverse_nil, List.nil_append, List.cons_append, lookF, lookE] at F'
  show (let zV := _; let zA := _; wpAny _ zA (execs _ zV) _ _ _)
  intro zV zA
  have hq := Esc_len t_cdata_c14n x 6 (by decide) (by decide +kernel)
  (k_steps; repeat' (first | (((with_reducible refine hold_in ?_); ((with_reducible refine' addStr ?zsz ?_); (case zsz => (try simp only [len_app]); first | lia | (simp only [len_lit, String.reduceToList, List.length_cons, List.length_nil]; lia)); intro tt' tk'; (try dsimp only))); (all_goals (try k_steps))) | (((with_reducible show wpAny _ _ (call (Value.ref 840) _) _ _ _); k_dflt (refine' SpecP.go (sp_escape_cdata_c14n _ _ _ (by assumption)) ?_); intro t' h' tk' F' N'; (try dsimp only); (try k_sweep)); all_goals (try k_steps))))
  all_goals (refine hret _ _ _ (by with_reducible assumption) ?_; first | with_reducible assumption | (with_reducible rename News g' L' _ _ => zN; exact newsSub zN (fun p hp => by repeat (first | exact hp | apply List.mem_cons_of_mem))))
theorem sp_put_3 (w : World) (pr x : Str) (tk tp tx : Tok) (hx : x.length ≤ 100000) : SpecV w 868 20 60 [.int 3 tk, .str pr tp, .str x tx] (fun t => .str (Str.ofString "<d k=\"" ++ Esc t_attrib x ++ Str.ofString "\"/>") t) := by
  refine' enterP (binds := [("kind", .int 3 tk), ("pair", .str pr tp), ("text", .str x tx)]) ?k6 ?ks ?k7 ?k9 ?kB ?c2 ?c3 ?c4 ?c5 ?_
  case k6 => k_dflt k_is
  case ks => exact rfl
  case k7 => k_dflt k_is
  case k9 => intro s X; exact BindsTo.of_eq rfl
  case c5 => decide
  case kB => exact locs rfl
  case c2 => exact rfl
  case c3 => exact rfl
  case c4 => exact rfl
  intro dp un gd cn cs a ccd cl outer base g' L L' mg mb mean news gens drawn os h' tk' WQ WE B' F' X' N' T' hd hu hpre hret htk' hPO
  simp only [List.reverse_cons, List.reverse_nil, List.nil_append, List.cons_append, lookF, lookE] at F'
  show (let zV := _; let zA := _; wpAny _ zA (execs _ zV) _ _ _)
  intro zV zA
  have hq := Esc_len t_attrib x 6 (by decide) (by decide +kernel)
  (k_steps; repeat' (first | (((with_reducible refine hold_in ?_); ((with_reducible refine' addStr ?zsz ?_); (case zsz => (try simp only [len_app]); first | lia | (simp only [len_lit, String.reduceToList, List.length_cons, List.length_nil]; lia)); intro tt' tk'; (try dsimp only))); (all_goals (try k_steps))) | (((with_reducible show wpAny _ _ (call (Value.ref 826) _) _ _ _); k_dflt (refine' SpecP.go (sp_escape_attrib _ _ _ (by assumption)) ?_); intro t' h' tk' F' N'; (try dsimp only); (try k_sweep)); all_goals (try k_steps))))
  all_goals (refine hret _ _ _ (by with_reducible assumption) ?_; first | with_reducible assumption | (with_reducible rename News g' L' _ _ => zN; exact newsSub zN (fun p hp => by repeat (first | exact hp | apply List.mem_cons_of_mem))))
theorem sp_put_4 (w : World) (pr x : Str) (tk tp tx : Tok) (hx : x.length ≤ 100000) : SpecV w 868 20 60 [.int 4 tk, .str pr tp, .str x tx] (fun t => .str (Str.ofString "<d k=\"" ++ Esc t_attrib_c14n x ++ Str.ofString "\"/>") t) := by
  refine' enterP (binds := [("kind", .int 4 tk), ("pair", .str pr tp), ("text", .str x tx)]) ?k6 ?ks ?k7 ?k9 ?kB ?c2 ?c3 ?c4 ?c5 ?_
  case k6 => k_dflt k_is
  case ks => exact rfl
  case k7 => k_dflt k_is
  case k9 => intro s X; exact BindsTo.of_eq rfl
  case c5 => decide
  case kB => exact locs rfl
  case c2 => exact rfl
  case c3 => exact rfl
  case c4 => exact rfl
  intro dp un gd cn cs a ccd cl outer base g' L L' mg mb mean news gens drawn os h' tk' WQ WE B' F' X' N' T' hd hu hpre hret htk' hPO
  simp only [List.reverse_cons, List.reverse_nil, List.nil_append, List.cons_append, lookF, lookE] at F'
  show (let zV := _; let zA := _; wpAny _ zA (execs _ zV) _ _ _)
  intro zV zA
  have hq := Esc_len t_attrib_c14n x 6 (by decide) (by decide +kernel)
  (k_steps; repeat' (first | (((with_reducible refine hold_in ?_); ((with_reducible refine' addStr ?zsz ?_); (case zsz => (try simp only [len_app]); first | lia | (simp only [len_lit, String.reduceToList, List.length_cons, List.length_nil]; lia)); intro tt' tk'; (try dsimp only))); (all_goals (try k_steps))) | (((with_reducible show wpAny _ _ (call (Value.ref 847) _) _ _ _); k_dflt (refine' SpecP.go (sp_escape_attrib_c14n _ _ _ (by assumption)) ?_); intro t' h' tk' F' N'; (try dsimp only); (try k_sweep)); all_goals (try k_steps))))
  all_goals (refine hret _ _ _ (by with_reducible assumption) ?_; first | with_reducible assumption | (with_reducible rename News g' L' _ _ => zN; exact newsSub zN (fun p hp => by repeat (first | exact hp | apply List.mem_cons_of_mem))))
theorem sp_put_5 (w : World) (pr x : Str) (tk tp tx : Tok) (hx : x.length ≤ 100000) : SpecV w 868 20 60 [.int 5 tk, .str pr tp, .str x tx] (fun t => .str (Str.ofString "<d k=\"" ++ Esc t_attrib_html x ++ Str.ofString "\"/>") t) := by
  refine' enterP (binds := [("kind", .int 5 tk), ("pair", .str pr tp), ("text", .str x tx)]) ?k6 ?ks ?k7 ?k9 ?kB ?c2 ?c3 ?c4 ?c5 ?_
  case k6 => k_dflt k_is
  case ks => exact rfl
  case k7 => k_dflt k_is
  case k9 => intro s X; exact BindsTo.of_eq rfl
  case c5 => decide
  case kB => exact locs rfl
  case c2 => exact rfl
  case c3 => exact rfl
  case c4 => exact rfl
  intro dp un gd cn cs a ccd cl outer base g' L L' mg mb mean news gens drawn os h' tk' WQ WE B' F' X' N' T' hd hu hpre hret htk' hPO
  simp only [List.reverse_cons, List.reverse_nil, List.nil_append, List.cons_append, lookF, lookE] at F'
  show (let zV := _; let zA := _; wpAny _ zA (execs _ zV) _ _ _)
  intro zV zA
  have hq := Esc_len t_attrib_html x 6 (by decide) (by decide +kernel)
  (k_steps; repeat' (first | (((with_reducible refine hold_in ?_); ((with_reducible refine' addStr ?zsz ?_); (case zsz => (try simp only [len_app]); first | lia | (simp only [len_lit, String.reduceToList, List.length_cons, List.length_nil]; lia)); intro tt' tk'; (try dsimp only))); (all_goals (try k_steps))) | (((with_reducible show wpAny _ _ (call (Value.ref 833) _) _ _ _); k_dflt (refine' SpecP.go (sp_escape_attrib_html _ _ _ (by assumption)) ?_); intro t' h' tk' F' N'; (try dsimp only); (try k_sweep)); all_goals (try k_steps))))
  all_goals (refine hret _ _ _ (by with_reducible assumption) ?_; first | with_reducible assumption | (with_reducible rename News g' L' _ _ => zN; exact newsSub zN (fun p hp => by repeat (first | exact hp | apply List.mem_cons_of_mem))))
theorem sp_put_6 (w : World) (pr x : Str) (tk tp tx : Tok) (hx : x.length ≤ 100000) (hsur : ∀ c ∈ L x, Str.isSurrogate c = false) (h128 : ∀ c ∈ (b64B (u8 x)).toList, c.toNat < 128) : SpecV w 868 20 60 [.int 6 tk, .str pr tp, .str x tx] (fun t => .str (txt (b64B (u8 x))) t) := by
  refine' enterP (binds := [("kind", .int 6 tk), ("pair", .str pr tp), ("text", .str x tx)]) ?k6 ?ks ?k7 ?k9 ?kB ?c2 ?c3 ?c4 ?c5 ?_
  case k6 => k_dflt k_is
  case ks => exact rfl
  case k7 => k_dflt k_is
  case k9 => intro s X; exact BindsTo.of_eq rfl
  case c5 => decide
  case kB => exact locs rfl
  case c2 => exact rfl
  case c3 => exact rfl
  case c4 => exact rfl
  intro dp un gd cn cs a ccd cl outer base g' L L' mg mb mean news gens drawn os h' tk' WQ WE B' F' X' N' T' hd hu hpre hret htk' hPO
  simp only [List.reverse_cons, List.reverse_nil, List.nil_append, List.cons_append, lookF, lookE] at F'
  show (let zV := _; let zA := _; wpAny _ zA (execs _ zV) _ _ _)
  intro zV zA
  have h8 := u8_size x
  have h9 : (u8 x).size ≤ 400000 := by lia
  have hb := b64B_size (u8 x)
  (k_steps; repeat' (first | (((with_reducible refine call_type_of (typeIs_bytes _ _ _) (by decide) ?_)); (all_goals (try k_steps))) | (((refine' call_decodeA (by assumption) (by omega) ?_; intro tt' tk')); (all_goals (try k_steps))) | (((refine' call_encode8 (by assumption) (by refine Nat.le_trans (u8_size _) ?_; omega) ?_)); (all_goals (try k_steps))) | (((with_reducible show wpAny _ _ (call (Value.ref 83) [_]) _ _ _); k_dflt (refine' SpecP.go (sp_b64encode _ _ _ (by assumption)) ?_); intro t' h' tk' F' N'; (try dsimp only); (try k_sweep)); all_goals (try k_steps))))
  all_goals (refine hret _ _ _ (by with_reducible assumption) ?_; first | with_reducible assumption | (with_reducible rename News g' L' _ _ => zN; exact newsSub zN (fun p hp => by repeat (first | exact hp | apply List.mem_cons_of_mem))))
theorem sp_put_7 (w : World) (pr x : Str) (tk tp tx : Tok) (hx : x.length ≤ 100000) (hsur : ∀ c ∈ L x, Str.isSurrogate c = false) (h128 : ∀ c ∈ (trans (mkt #[43, 47] (asc pr)) (b64B (u8 x))).toList, c.toNat < 128) (hp : ∀ c ∈ L pr, c < 128) (hpl : pr.length = 2) : SpecV w 868 20 60 [.int 7 tk, .str pr tp, .str x tx] (fun t => .str (txt (trans (mkt #[43, 47] (asc pr)) (b64B (u8 x)))) t) := by
  refine' enterP (binds := [("kind", .int 7 tk), ("pair", .str pr tp), ("text", .str x tx)]) ?k6 ?ks ?k7 ?k9 ?kB ?c2 ?c3 ?c4 ?c5 ?_
  case k6 => k_dflt k_is
  case ks => exact rfl
  case k7 => k_dflt k_is
  case k9 => intro s X; exact BindsTo.of_eq rfl
  case c5 => decide
  case kB => exact locs rfl
  case c2 => exact rfl
  case c3 => exact rfl
  case c4 => exact rfl
  intro dp un gd cn cs a ccd cl outer base g' L L' mg mb mean news gens drawn os h' tk' WQ WE B' F' X' N' T' hd hu hpre hret htk' hPO
  simp only [List.reverse_cons, List.reverse_nil, List.nil_append, List.cons_append, lookF, lookE] at F'
  show (let zV := _; let zA := _; wpAny _ zA (execs _ zV) _ _ _)
  intro zV zA
  have h8 := u8_size x
  have h9 : (u8 x).size ≤ 400000 := by lia
  have hb := b64B_size (u8 x)
  have ha2 : (asc pr).size = 2 := by rw [asc_size]; exact hpl
  have htz := trans_size (mkt #[43, 47] (asc pr)) (b64B (u8 x))
  (k_steps; repeat' (first | (((with_reducible refine call_type_of (typeIs_bytes _ _ _) (by decide) ?_)); (all_goals (try k_steps))) | (((refine' call_decodeA (by assumption) (by omega) ?_; intro tt' tk')); (all_goals (try k_steps))) | (((refine' call_encodeA (by assumption) (by rw [asc_size]; omega) ?_)); (all_goals (try k_steps))) | (((refine' call_encode8 (by assumption) (by refine Nat.le_trans (u8_size _) ?_; omega) ?_)); (all_goals (try k_steps))) | (((with_reducible show wpAny _ _ (call (Value.ref 83) [_, _]) _ _ _); k_dflt (refine' SpecP.go (sp_b64encode2 _ _ _ _ _ (by assumption) (by assumption)) ?_); intro t' h' tk' F' N'; (try dsimp only); (try k_sweep)); all_goals (try k_steps))))
  all_goals (refine hret _ _ _ (by with_reducible assumption) ?_; first | with_reducible assumption | (with_reducible rename News g' L' _ _ => zN; exact newsSub zN (fun p hp => by repeat (first | exact hp | apply List.mem_cons_of_mem))))
theorem sp_put_8 (w : World) (pr x : Str) (tk tp tx : Tok) (hx : x.length ≤ 100000) (hsur : ∀ c ∈ L x, Str.isSurrogate c = false) (h128 : ∀ c ∈ (upB (hexB (u8 x))).toList, c.toNat < 128) : SpecV w 868 20 60 [.int 8 tk, .str pr tp, .str x tx] (fun t => .str (txt (upB (hexB (u8 x)))) t) := by
  refine' enterP (binds := [("kind", .int 8 tk), ("pair", .str pr tp), ("text", .str x tx)]) ?k6 ?ks ?k7 ?k9 ?kB ?c2 ?c3 ?c4 ?c5 ?_
  case k6 => k_dflt k_is
  case ks => exact rfl
  case k7 => k_dflt k_is
  case k9 => intro s X; exact BindsTo.of_eq rfl
  case c5 => decide
  case kB => exact locs rfl
  case c2 => exact rfl
  case c3 => exact rfl
  case c4 => exact rfl
  intro dp un gd cn cs a ccd cl outer base g' L L' mg mb mean news gens drawn os h' tk' WQ WE B' F' X' N' T' hd hu hpre hret htk' hPO
  simp only [List.reverse_cons, List.reverse_nil, List.nil_append, List.cons_append, lookF, lookE] at F'
  show (let zV := _; let zA := _; wpAny _ zA (execs _ zV) _ _ _)
  intro zV zA
  have h8 := u8_size x
  have h9 : (u8 x).size ≤ 400000 := by lia
  have hb := b64B_size (u8 x)
  have hz8 : (upB (hexB (u8 x))).size ≤ 800000 := by rw [upB_size, hexB_size]; lia
  (k_steps; repeat' (first | (((with_reducible refine call_type_of (typeIs_bytes _ _ _) (by decide) ?_)); (all_goals (try k_steps))) | (((refine' call_decodeA (by assumption) (by omega) ?_; intro tt' tk')); (all_goals (try k_steps))) | (((refine' call_encode8 (by assumption) (by refine Nat.le_trans (u8_size _) ?_; omega) ?_)); (all_goals (try k_steps))) | (((with_reducible show wpAny _ _ (call (Value.ref 90) _) _ _ _); k_dflt (refine' SpecP.go (sp_b16encode _ _ _ (by assumption)) ?_); intro t' h' tk' F' N'; (try dsimp only); (try k_sweep)); all_goals (try k_steps))))
  all_goals (refine hret _ _ _ (by with_reducible assumption) ?_; first | with_reducible assumption | (with_reducible rename News g' L' _ _ => zN; exact newsSub zN (fun p hp => by repeat (first | exact hp | apply List.mem_cons_of_mem))))
theorem frontK {h₀ h : Heap} {L : Addr} {a b : Addr × Obj} {r : List (Addr × Obj)} (N : News h₀ L h (a :: b :: r)) : News h₀ L h (b :: a :: r) := newsPick (want := [b, a]) [a, b] [1, 0] N rfl
theorem sp_put_0 (w : World) (pr x : Str) (tk tp tx : Tok) (T₀ : Obj) (hx : x.length ≤ 100000) {dp un : Nat} {gd : Option (List Code)} {cn : Str} {cs : Scope} {a : Addr} {ccd : Value} {cl : List (Str × Addr)} {outer : List Env} {A₀ : Around} {base h₀ : Heap} {L : Addr} {m mg mb : Str → Option Value} {mean : ExcName → Option Value} {rest : List (Addr × Obj)} {s : Shared} {Q E : Value → Shared → Prop}
    (B : Below A₀ base outer h₀) (F : Fr h₀ L s.heap m) (X : (K w.params).In h₀) (N : News h₀ L s.heap ((792, T₀) :: rest)) (T : Top q (looseW q loose) mean mg mb h₀) (hk : cs.kind = .function) (hd : dp + 40 < recursionLimit)
    (hT : JT T₀) (hne : ∀ p ∈ rest, p.1 ≠ 792)
    (hret : ∀ t T₁ h' tk' g', (AllBare s.gens → AllBare g') → JT T₁ → Fr h₀ L h' m → News h₀ L h' ((792, T₁) :: rest) → Q (.str (quo (Str.ofString "d") ++ Str.ofString " " ++ quo x) t) { s with heap := h', toks := tk', gens := g' }) :
    wpAny (model PySem.Challenge.pw_kt0081_01 w) (ktrTop dp un gd cn cs L a ccd cl outer) (call (.ref 868) [.int 0 tk, .str pr tp, .str x tx]) Q E s := by
  refine wpAny_call ?_
  refine' enterA (binds := [("kind", .int 0 tk), ("pair", .str pr tp), ("text", .str x tx)]) ?k6 ?ks ?k7 ?k9 ?kB ?c2 ?c3 ?c4 ?c5 ?k1 ?k2 ?k3 ?k4 ?k5 ?kK ?k8 ?_
  case k1 => assumption
  case k2 => assumption
  case k3 => assumption
  case k4 => assumption
  case k5 => assumption
  case kK => assumption
  case k6 => k_dflt k_is
  case ks => exact rfl
  case k7 => k_dflt k_is
  case k8 => exact Nat.lt_of_le_of_lt (Nat.le_add_right _ _) hd
  case k9 => intro s X; exact BindsTo.of_eq rfl
  case c5 => decide
  case kB => exact locs rfl
  case c2 => exact rfl
  case c3 => exact rfl
  case c4 => exact rfl
  intro g' h' L' tk' WQ WE B' F' X' N' T' hR' htk' hPO
  simp only [List.reverse_cons, List.reverse_nil, List.nil_append, List.cons_append, lookF, lookE] at F'
  show (let zV := _; let zA := _; wpAny _ zA (execs _ zV) _ _ _)
  intro zV zA
  k_steps
  (with_reducible rename Fr g' L' _ _ => zF)
  (with_reducible rename News g' L' _ _ => zN)
  (with_reducible rename 792 < _ ∧ AllLt _ _ => zL)
  refine sp_join w _ (Str.ofString "d") x _ _ _ T₀ (by rw [len_lit]; decide) hx B' zF X' (frontK zN) T' rfl (room_in1 hd (by decide)) hT ?_ List.mem_cons_self ?_
  · intro p hp
    rcases List.mem_cons.mp hp with rfl | hp
    · exact Nat.ne_of_gt zL.1
    · exact hne p hp
  · intro t T₁ h' tk' g'' hgb hT₁ F₁ N₁
    k_steps
    (with_reducible rename News g' L' _ _ => zM)
    exact hR' (fun F N => hret t T₁ _ _ _ hgb hT₁ F N) (by with_reducible assumption) (newsSub zM (fun p hp => (List.mem_cons.mp hp).elim (fun e => e ▸ List.mem_cons_self) fun hp => List.mem_cons_of_mem _ (List.mem_cons_of_mem _ hp)))
end
section
open PySem PySem.W PySem.Spec PySem.Calls PyProof.Rows PyProof.Rows.LCg
/-- the end of a turn of a for loop, where the generators are free -/
noncomputable def TurnPostG (h₀ : Heap) (L I : Addr) (oI : Obj) (need : List (Addr × Obj)) (J : (Str → Option Value) → List (Addr × Obj) → Prop) (s₁ : Shared) (Q : Flow → Shared → Prop) (f : Flow) (s₂ : Shared) : Prop :=
  match f with
  | .ret v => Q (.ret v) s₂
  | .brk => Q .next s₂
  | _ => ∃ h' tk g' m' news', s₂ = { s₁ with heap := h', toks := tk, gens := g' } ∧ (AllBare s₁.gens → AllBare g') ∧ Fr h₀ L h' m' ∧ News h₀ L h' ((I, oI) :: news') ∧ (∀ p ∈ news', p.1 ≠ I) ∧ (∀ p ∈ need, p ∈ news') ∧ J m' news'
/-- what holds at each turn of a for loop -/
inductive ForInv (h₀ : Heap) (L I : Addr) (n : Nat) (St : Nat → Heap → Prop) (need : List (Addr × Obj)) (J : Nat → (Str → Option Value) → List (Addr × Obj) → Prop) (s : Shared) : Nat → Shared → Prop
  | mk {h' : Heap} {tk i : Nat} {g' : Array GenState} {m' : Str → Option Value} {news' : List (Addr × Obj)} (hb : AllBare s.gens → AllBare g') (hst : St i h') (F : Fr h₀ L h' m') (N : News h₀ L h' news') (hnw : ∀ p ∈ news', p.1 ≠ I) (hnd : ∀ p ∈ need, p ∈ news') (hJ : J i m' news') (hi : i ≤ n) :
    ForInv h₀ L I n St need J s (n + 1 - i) { s with heap := h', toks := tk, gens := g' }
section
variable {prog : Program} {w : World} {A : Around} {E : Value → Shared → Prop} {s : Shared} {env : Env} {h₀ : Heap} {x : Str} {body : List Stmt} {Q : Flow → Shared → Prop}
noncomputable def LoopG (prog : Program) (w : World) (A : Around) (h₀ : Heap) (env : Env) (x : Str) (body : List Stmt) (Q : Flow → Shared → Prop) (E : Value → Shared → Prop) (xv : Value) (s : Shared) : Prop :=
  ∃ (n : Nat) (P : Nat → Value → Prop) (news need : List (Addr × Obj)) (m₀ : Str → Option Value) (J : Nat → (Str → Option Value) → List (Addr × Obj) → Prop),
    Src prog w A h₀ need xv n P s ∧ Fr h₀ env.locals s.heap m₀ ∧ News h₀ env.locals s.heap news ∧ (∀ p ∈ need, p ∈ news) ∧ J 0 m₀ news ∧
    (∀ i v m₁ news₁ h tk g I oI, i < n → P i v → J i m₁ news₁ → Fr h₀ env.locals h (fun y => if y = x then some v else m₁ y) → News h₀ env.locals h ((I, oI) :: news₁) → (∀ p ∈ news₁, p.1 ≠ I) → (∀ p ∈ need, p ∈ news₁) →
      wpAny (model prog w) A (execs body env) (TurnPostG h₀ env.locals I oI need (J (i + 1)) { s with heap := h, toks := tk, gens := g } Q) E { s with heap := h, toks := tk, gens := g }) ∧
    (∀ m₁ news₁ h tk g, (AllBare s.gens → AllBare g) → J n m₁ news₁ → Fr h₀ env.locals h m₁ → News h₀ env.locals h news₁ → Q .next { s with heap := h, toks := tk, gens := g })
theorem For_G {px pos : Pos} {iter : Expr} (h₀ : Heap) (hx : env.kindOf x = some .local)
    (hp : (env.scope.kind == .class || (env.scope.kind == .module && env.locals != env.globals)) = false)
    (h : wpAny (model prog w) A (eval iter env) (LoopG prog w A h₀ env x body Q E) E s)
    (hs : ∀ x, foldedSetIterable iter env x = pure x := by intro _; rfl)
    (hE : PassesOwn (model prog w) A env E := by passes_own) :
    wpAny (model prog w) A (exec (.For (.Name x px) iter body [] pos) env) Q E s := by
  refine wpAny_For (wpAny_mono h (fun xv s₁ h₁ => ?_) fun _ _ e => e) hs
  obtain ⟨n, P, news, need, m₀, J, S, F, N, hneed, hj, turn, done⟩ := h₁
  refine S _ _ fun o fp St hfree W st0 hfp hIo => ?_
  have hI₀ : h₀.get? s₁.heap.objs.size = none := next_is_new F
  have hpush : ∀ b o', s₁.heap.get? b = some o' → (s₁.heap.push o).get? b = some o' := fun _ _ e => Heap.get?_push_of_some _ e
  have hLf : env.locals ∉ fp := by
    intro hm
    rcases hfp _ hm with e | ⟨o', e⟩ | ⟨o', e⟩
    · exact absurd F.ns.lt (by rw [e]; exact Nat.lt_irrefl _)
    · exact absurd (Nat.lt_of_lt_of_le (Heap.lt_size e) F.above) (Nat.lt_irrefl _)
    · exact absurd rfl (N _ (hneed _ e)).2.1
  have hLI : env.locals ≠ s₁.heap.objs.size := Nat.ne_of_lt F.ns.lt
  have hnI : ∀ p ∈ news, p.1 ≠ s₁.heap.objs.size := fun p hp => Nat.ne_of_lt (Heap.lt_size (N p hp).1)
  refine codeAny_forLoop (R := fun r s' => match r with | .ok f => Q f s' | .error e => cameBackBy (model prog w) A env E e s')
    (ForInv h₀ env.locals s₁.heap.objs.size n St need J s₁) ?_ (n + 1)
    (.mk (i := 0) id st0 (F.push o) (N.grown hpush) hnI hneed hj (Nat.zero_le _))
  rintro k s' ⟨hgb, hst', F', N', hnw', hnd', hJ, hi⟩
  rename_i h' tk i gq m' news'
  have next : ∀ h₁ : Heap, (∀ b o, b ∉ [s₁.heap.objs.size] → h'.get? b = some o → h₁.get? b = some o) → Fr h₀ env.locals h₁ m' ∧ News h₀ env.locals h₁ news' := fun h₁ hk₁ =>
    ⟨⟨F'.ns.at' fun o e => hk₁ _ o (fun q => hLI (List.mem_singleton.mp q)) e, fun b o e => hk₁ b o (fun q => by rw [List.mem_singleton.mp q, hI₀] at e; cases e) (F'.keep b o e), F'.above⟩,
      fun p hp => ⟨hk₁ _ _ (fun q => hnw' p hp (List.mem_singleton.mp q)) (N' p hp).1, (N' p hp).2⟩⟩
  by_cases hlt : i < n
  · refine wpAny_passesOwn hE (W.item i _ _ _ hlt hst' fun v h₁ tk₁ hP hst₁ hk₁ => ?_)
    obtain ⟨F₁, N₁⟩ := next h₁ hk₁
    refine wpAny_passesOwn hE (wpAny_assign_Name (wpAny_storeName_local hx F₁.ns (fun h₂ hn₂ hs₂ => ?_) hp))
    have F₂ := F₁.set hn₂ hs₂
    have hst₂ : St (i + 1) h₂ := W.frame _ _ _ hst₁ fun b hb o e => (hs₂.2 b fun q => hLf (q ▸ hb)).trans e
    obtain ⟨oI, heI⟩ := hIo _ _ hst₂
    have N₂ : News h₀ env.locals h₂ ((s₁.heap.objs.size, oI) :: news') := fun p hp => by
      rcases List.mem_cons.mp hp with rfl | hp
      · exact ⟨heI, Ne.symm hLI, hI₀⟩
      · exact (N₁.set hs₂) p hp
    refine wpAny_passesOwn hE (wpAny_mono (turn i v m' news' h₂ _ gq s₁.heap.objs.size oI hlt hP hJ F₂ N₂ hnw' hnd') (fun f s₃ p => ?_) fun _ _ e => e)
    have fin : (∃ h' tk g' m' news', s₃ = { s₁ with heap := h', toks := tk, gens := g' } ∧ (AllBare gq → AllBare g') ∧ Fr h₀ env.locals h' m' ∧ News h₀ env.locals h' ((s₁.heap.objs.size, oI) :: news') ∧ (∀ p ∈ news', p.1 ≠ s₁.heap.objs.size) ∧ (∀ p ∈ need, p ∈ news') ∧ J (i + 1) m' news') →
        ∃ k', k' < n + 1 - i ∧ ForInv h₀ env.locals s₁.heap.objs.size n St need J s₁ k' s₃ := by
      rintro ⟨h₃, tk₃, g₃, m₃, news₃, rfl, hgb₃, F₃, N₃, off₃, hnd₃, hJ₃⟩
      refine ⟨n + 1 - (i + 1), blk_lt hlt, .mk (fun q => hgb₃ (hgb q)) ?_ F₃ (fun p hp => N₃ p (List.mem_cons_of_mem _ hp)) off₃ hnd₃ hJ₃ hlt⟩
      refine W.frame _ _ _ hst₂ fun b hb o' e => ?_
      rcases hfp b hb with e' | ⟨o₀, e'⟩ | ⟨o₀, e'⟩
      · subst e'
        obtain rfl : oI = o' := Option.some.inj (heI.symm.trans e)
        exact (N₃ _ List.mem_cons_self).1
      · obtain rfl : o₀ = o' := Option.some.inj ((F₂.keep _ _ e').symm.trans e)
        exact F₃.keep _ _ e'
      · have := (N₂ _ (List.mem_cons_of_mem _ (hnd' _ e'))).1
        obtain rfl : o₀ = o' := Option.some.inj (this.symm.trans e)
        exact (N₃ _ (List.mem_cons_of_mem _ (hnd₃ _ e'))).1
    cases f with
    | ret v => exact p
    | brk => exact p
    | next => exact fin p
    | cont => exact fin p
  · have hin : i = n := by lia
    subst hin
    refine wpAny_passesOwn hE (W.done _ _ _ hst' fun h₁ tk₁ hk₁ => wpAny_execs_nil ?_)
    obtain ⟨F₁, N₁⟩ := next h₁ hk₁
    exact done m' news' h₁ tk₁ gq hgb hJ F₁ N₁
theorem For_GF {px pos : Pos} {iter : Expr} {m : Str → Option Value} (_F : Fr h₀ env.locals s.heap m) (hx : env.kindOf x = some .local)
    (hp : (env.scope.kind == .class || (env.scope.kind == .module && env.locals != env.globals)) = false)
    (h : wpAny (model prog w) A (eval iter env) (LoopG prog w A h₀ env x body Q E) E s)
    (hs : ∀ x, foldedSetIterable iter env x = pure x := by intro _; rfl)
    (hE : PassesOwn (model prog w) A env E := by passes_own) :
    wpAny (model prog w) A (exec (.For (.Name x px) iter body [] pos) env) Q E s := For_G h₀ hx hp h hs hE
theorem LoopG.intro {L : Addr} {xv : Value} {n : Nat} {P : Nat → Value → Prop} {news need : List (Addr × Obj)} {m₀ : Str → Option Value} (S : Src prog w A h₀ need xv n P s) (F : Fr h₀ L s.heap m₀) (N : News h₀ L s.heap news) (hneed : ∀ p ∈ need, p ∈ news) (J : Nat → (Str → Option Value) → List (Addr × Obj) → Prop) (hj : J 0 m₀ news)
    (turn : ∀ i v m₁ news₁ h tk g I oI, i < n → P i v → J i m₁ news₁ → Fr h₀ L h (fun y => if y = x then some v else m₁ y) → News h₀ L h ((I, oI) :: news₁) → (∀ p ∈ news₁, p.1 ≠ I) → (∀ p ∈ need, p ∈ news₁) →
      wpAny (model prog w) A (execs body env) (TurnPostG h₀ L I oI need (J (i + 1)) { s with heap := h, toks := tk, gens := g } Q) E { s with heap := h, toks := tk, gens := g })
    (done : ∀ m₁ news₁ h tk g, (AllBare s.gens → AllBare g) → J n m₁ news₁ → Fr h₀ L h m₁ → News h₀ L h news₁ → Q .next { s with heap := h, toks := tk, gens := g }) (hL : env.locals = L := by rfl) : LoopG prog w A h₀ env x body Q E xv s := by
  subst hL
  exact ⟨n, P, news, need, m₀, J, S, F, N, hneed, hj, turn, done⟩
end
end
section
open PySem PySem.W PySem.Spec PySem.Calls PyProof.Rows
noncomputable def octs (l : List Nat) : Nat := (l.flatMap Str.utf8Of).length
theorem octs_nil : octs [] = 0 := rfl
theorem octs_cons (a : Nat) (l : List Nat) : octs (a :: l) = (Str.utf8Of a).length + octs l := by unfold octs; rw [List.flatMap_cons, List.length_append]
theorem octs_append (a b : List Nat) : octs (a ++ b) = octs a + octs b := by unfold octs; rw [List.flatMap_append, List.length_append]
theorem cc (c a : Nat) (l : List Nat) : (a :: l).count c = l.count c + if a = c then 1 else 0 := by rw [List.count_cons]; simp only [beq_iff_eq]
/-- a table's signs, each weighed -/
noncomputable def wt (g : Nat → List Nat → Nat) (l : List Nat) : Tbl → Nat
  | [] => 0
  | (k, r) :: T => g k r * l.count k + wt g l T
theorem wt_cons (g : Nat → List Nat → Nat) (a : Nat) (l : List Nat) : ∀ T : Tbl, wt g (a :: l) T = wt g [a] T + wt g l T
  | [] => rfl
  | (k, r) :: T => by
    simp only [wt, wt_cons g a l T, cc k a l, cc k a [], List.count_nil, Nat.zero_add, Nat.mul_add]
    lia
theorem wt_nil (g : Nat → List Nat → Nat) : ∀ T : Tbl, wt g [] T = 0
  | [] => rfl
  | (k, r) :: T => by simp only [wt, wt_nil g T, List.count_nil, Nat.mul_zero]
theorem wt_out (g : Nat → List Nat → Nat) (a : Nat) : ∀ T : Tbl, a ∉ T.map (·.1) → wt g [a] T = 0
  | [], _ => rfl
  | (k, r) :: T, h => by
    rw [List.map_cons, List.mem_cons, not_or] at h
    rw [wt, wt_out g a T h.2, cc k a [], List.count_nil, if_neg h.1]; rfl
theorem wt_one (f : List Nat → Nat) (a : Nat) : ∀ T : Tbl, (T.map (·.1)).Nodup → f (sub1 T a) + wt (fun k _ => f [k]) [a] T = f [a] + wt (fun _ r => f r) [a] T
  | [], _ => rfl
  | (k, r) :: T, h => by
    rw [List.map_cons, List.nodup_cons] at h
    by_cases e : a = k
    · subst e
      have e1 : sub1 ((a, r) :: T) a = r := by unfold sub1; rw [List.lookup_cons, beq_self_eq_true]
      simp only [wt, wt_out _ a T h.1, e1, cc a a [], List.count_nil, if_true, Nat.zero_add, Nat.mul_one, Nat.add_zero]
      exact Nat.add_comm _ _
    · have e1 : sub1 ((k, r) :: T) a = sub1 T a := by unfold sub1; rw [List.lookup_cons, beq_eq_false_iff_ne.mpr e]
      simp only [wt, e1, cc k a [], List.count_nil, if_neg e, Nat.mul_zero, Nat.zero_add]
      exact wt_one f a T h.2
/-- what adds up over a text, reckoned of the text that a table writes -/
theorem wt_all (f : List Nat → Nat) (f0 : f [] = 0) (fa : ∀ a b, f (a ++ b) = f a + f b) (T : Tbl) (hT : (T.map (·.1)).Nodup) : ∀ l : List Nat, f (l.flatMap (sub1 T)) + wt (fun k _ => f [k]) l T = f l + wt (fun _ r => f r) l T
  | [] => by rw [List.flatMap_nil, wt_nil, wt_nil]
  | a :: l => by
    rw [List.flatMap_cons, fa, wt_cons _ a l, wt_cons _ a l, show a :: l = [a] ++ l from rfl, fa]
    have h1 := wt_one f a T hT
    have h2 := wt_all f f0 fa T hT l
    lia
theorem wt_len (T : Tbl) (hT : (T.map (·.1)).Nodup) (l : List Nat) : (l.flatMap (sub1 T)).length + wt (fun k _ => [k].length) l T = l.length + wt (fun _ r => r.length) l T := wt_all List.length rfl (fun _ _ => List.length_append) T hT l
theorem wt_oct (T : Tbl) (hT : (T.map (·.1)).Nodup) (l : List Nat) : octs (l.flatMap (sub1 T)) + wt (fun k _ => octs [k]) l T = octs l + wt (fun _ r => octs r) l T := wt_all octs rfl octs_append T hT l
theorem wt_cnt (c : Nat) (T : Tbl) (hT : (T.map (·.1)).Nodup) (l : List Nat) : (l.flatMap (sub1 T)).count c + wt (fun k _ => [k].count c) l T = l.count c + wt (fun _ r => r.count c) l T := wt_all (List.count c) rfl (fun _ _ => List.count_append) T hT l
theorem nd_t_cdata : (t_cdata.map (·.1)).Nodup := by decide +kernel
theorem nd_t_attrib_html : (t_attrib_html.map (·.1)).Nodup := by decide +kernel
theorem nd_t_cdata_c14n : (t_cdata_c14n.map (·.1)).Nodup := by decide +kernel
theorem nd_t_attrib_c14n : (t_attrib_c14n.map (·.1)).Nodup := by decide +kernel
noncomputable def QT0 : Tbl := [(39, [39, 34, 39, 34, 39])]
theorem nd_QT0 : (QT0.map (·.1)).Nodup := by decide +kernel
theorem nd_t_attrib : (t_attrib.map (·.1)).Nodup := by decide +kernel
end
section
open PySem PySem.W PySem.Spec PySem.Calls PyProof.Rows
/-- the j-th figure of six bits that b2a_base64 has written -/
noncomputable def dig (l : List UInt8) (j : Nat) : Int := num l / 2 ^ (8 * l.length - 6 * (j + 1)) % 64
theorem pow_split (a b : Nat) : (2:Int) ^ (a + b) = 2 ^ a * 2 ^ b := Int.pow_add 2 a b
theorem third : (n : Nat) → ∃ m, n = 3 * m ∨ n = 3 * m + 1 ∨ n = 3 * m + 2
  | 0 => ⟨0, .inl rfl⟩
  | n + 1 => (third n).elim fun m h => h.elim (fun h => ⟨m, .inr (.inl (congrArg (· + 1) h))⟩) fun h => h.elim (fun h => ⟨m, .inr (.inr (congrArg (· + 1) h))⟩) (fun h => ⟨m + 1, .inl (congrArg (· + 1) h)⟩)
theorem dv6 {a b r : Nat} (e : a = 6 * b + r) (h : Nat.blt r 6 = true) : a / 6 = b ∧ a % 6 = r := by
  have h : r < 6 := Nat.blt_eq.mp h
  subst e
  exact ⟨by rw [Nat.add_comm, Nat.add_mul_div_left _ _ (by decide), Nat.div_eq_of_lt h, Nat.zero_add], by rw [Nat.mul_add_mod, Nat.mod_eq_of_lt h]⟩
theorem lowbits {a b c : Int} (hb : 0 < b) (hc : 0 ≤ c) (h : c < b) : (b * a + c) / b = a := by
  rw [Int.add_comm, Int.add_mul_ediv_left _ _ (Int.ne_of_gt hb), Int.ediv_eq_zero_of_lt hc h, Int.zero_add]
theorem dig_old (l : List UInt8) (c : UInt8) (j : Nat) (h : 6 * (j + 1) ≤ 8 * l.length) : dig (l ++ [c]) j = dig l j := by
  unfold dig
  rw [num_snoc, List.length_append, List.length_singleton, show 8 * (l.length + 1) - 6 * (j + 1) = 8 + (8 * l.length - 6 * (j + 1)) by rw [Nat.mul_add, Nat.add_comm, Nat.add_sub_assoc h], pow_split, ← Int.ediv_ediv_of_nonneg (by decide)]
  rw [show (2:Int) ^ 8 = 256 from rfl, lowbits (b := 256) (by decide) (Int.natCast_nonneg _) (show ((c.toNat : Nat) : Int) < 256 from Int.ofNat_lt.mpr c.toNat_lt)]
/-- sixteen bits hold what is asked of the figures -/
theorem bits {a b d e : Int} (hb : b ≠ 0) : a % (b * (d * e)) / b % d = a / b % d := by
  rw [Int.emod_def a, Int.sub_eq_add_neg, Int.mul_assoc b, ← Int.mul_neg, Int.add_mul_ediv_left _ _ hb, Int.mul_assoc d, ← Int.mul_neg, Int.add_mul_emod_self_left]
theorem bits4 (a : Int) : a % 65536 / 4 % 64 = a / 4 % 64 := bits (b := 4) (d := 64) (e := 256) (by decide)
theorem bits16 (a : Int) : a % 65536 / 16 % 64 = a / 16 % 64 := bits (b := 16) (d := 64) (e := 64) (by decide)
theorem bits64 (a : Int) : a % 65536 / 64 % 64 = a / 64 % 64 := bits (b := 64) (d := 64) (e := 16) (by decide)
theorem bits1 (a : Int) : a % 65536 % 64 = a / 1 % 64 := by rw [Int.emod_emod_of_dvd _ (by decide), Int.ediv_one]
theorem st_is (l : List UInt8) : b64st l = ((List.range (8 * l.length / 6)).map (fun j => b64T (dig l j)), ((8 * l.length % 6 : Nat) : Int), num l % 65536) := by
  induction h : l.length generalizing l with
  | zero => rw [List.length_eq_zero_iff.mp h]; rfl
  | succ n ih =>
    rcases List.eq_nil_or_concat l with rfl | ⟨r, c, rfl⟩
    · cases h
    · rw [List.concat_eq_append] at h ⊢
      have hr : r.length = n := by rw [List.length_append] at h; exact Nat.succ.inj h
      have ir := ih r hr
      have e0 : b64st (r ++ [c]) = b64step (b64st r) c := by unfold b64st; rw [List.foldl_append]; rfl
      rw [e0, ir]
      have hnum : num (r ++ [c]) = 256 * num r + (c.toNat : Int) := num_snoc r c
      have hlc : (num r % 65536 * 256 + (c.toNat : Int)) % 65536 = num (r ++ [c]) % 65536 := by rw [hnum, Int.mul_comm 256, Int.add_emod, Int.mul_emod, Int.emod_emod_of_dvd _ (Int.dvd_refl _), ← Int.mul_emod, ← Int.add_emod]
      have hold : ∀ q, 6 * q ≤ 8 * n → (List.range q).map (fun j => b64T (dig (r ++ [c]) j)) = (List.range q).map (fun j => b64T (dig r j)) := by
        intro q hq
        refine List.map_congr_left fun j hj => ?_
        rw [dig_old r c j (Nat.le_trans (Nat.mul_le_mul_left 6 (List.mem_range.mp hj)) (hr ▸ hq))]
      have hdig : ∀ {q b : Nat}, 8 * (n + 1) = 6 * (q + 1) + b → dig (r ++ [c]) q = num (r ++ [c]) / 2 ^ b % 64 := by
        intro q b e; unfold dig; rw [h, e, Nat.add_sub_cancel_left]
      unfold b64step
      dsimp only
      rw [hlc]
      obtain ⟨m, hm⟩ := third n
      rcases hm with rfl | rfl | rfl
      · have a1 := dv6 (a := 8 * (3 * m)) (b := 4 * m) (r := 0) (by omega) rfl
        have a2 := dv6 (a := 8 * (3 * m + 1)) (b := 4 * m + 1) (r := 2) (by omega) rfl
        rw [a1.1, a1.2, a2.1, a2.2, if_pos (by decide), List.range_succ, List.map_append, hold _ (by omega), List.map_cons, (hdig (q := 4 * m) (b := 2) (by omega)).trans (bits4 _).symm]
        rfl
      · have a1 := dv6 (a := 8 * (3 * m + 1)) (b := 4 * m + 1) (r := 2) (by omega) rfl
        have a2 := dv6 (a := 8 * (3 * m + 1 + 1)) (b := 4 * m + 2) (r := 4) (by omega) rfl
        rw [a1.1, a1.2, a2.1, a2.2, if_neg (by decide), if_pos (by decide), List.range_succ (n := 4 * m + 1), List.map_append, hold _ (by omega), List.map_cons, (hdig (q := 4 * m + 1) (b := 4) (by omega)).trans (bits16 _).symm]
        rfl
      · have a1 := dv6 (a := 8 * (3 * m + 2)) (b := 4 * m + 2) (r := 4) (by omega) rfl
        have a2 := dv6 (a := 8 * (3 * m + 2 + 1)) (b := 4 * m + 4) (r := 0) (by omega) rfl
        rw [a1.1, a1.2, a2.1, a2.2, if_neg (by decide), if_neg (by decide), List.range_succ (n := 4 * m + 3), List.range_succ (n := 4 * m + 2), List.map_append, List.map_append, hold _ (by omega), List.map_cons, List.map_cons, (hdig (q := 4 * m + 2) (b := 6) (by omega)).trans (bits64 _).symm, (hdig (q := 4 * m + 3) (b := 0) (by omega)).trans (bits1 _).symm]
        rfl
/-- the figures as the law reckons them -/
noncomputable def figN (W : Nat) (l : List UInt8) (k : Nat) : Int := num l * 2 ^ (W * ((8 * l.length + W - 1) / W) - 8 * l.length) / 2 ^ (W * ((8 * l.length + W - 1) / W - 1 - k)) % 2 ^ W
theorem ceil6 (n : Nat) : 8 * n ≤ 6 * ((8 * n + 6 - 1) / 6) := Nat.le_of_add_le_add_right (b := 6) (show 8 * n + 5 + 1 ≤ 6 * ((8 * n + 5) / 6 + 1) from Nat.lt_mul_div_succ (8 * n + 5) (by decide))
theorem figN_old (l : List UInt8) (k : Nat) (h : 6 * (k + 1) ≤ 8 * l.length) : figN 6 l k = dig l k := by
  unfold figN dig
  have e : 6 * ((8 * l.length + 6 - 1) / 6 - 1 - k) = (6 * ((8 * l.length + 6 - 1) / 6) - 8 * l.length) + (8 * l.length - 6 * (k + 1)) := by
    rw [Nat.sub_sub, Nat.add_comm 1 k, Nat.mul_sub, Nat.sub_add_sub_cancel (ceil6 _) h]
  rw [e, pow_split, Int.mul_comm (num l), Int.mul_ediv_mul_of_pos _ _ (Int.pow_pos (by decide))]
  rfl
theorem low4 (a : Int) : a * 16 / 1 % 64 = a % 65536 % 4 * 16 := by
  rw [Int.ediv_one, Int.emod_emod_of_dvd a (by decide), Int.mul_comm, Int.mul_comm (a % 4)]; exact Int.mul_emod_mul_of_pos a 4 (by decide)
theorem low16 (a : Int) : a * 4 / 1 % 64 = a % 65536 % 16 * 4 := by
  rw [Int.ediv_one, Int.emod_emod_of_dvd a (by decide), Int.mul_comm, Int.mul_comm (a % 16)]; exact Int.mul_emod_mul_of_pos a 16 (by decide)
theorem b64_list (l : List UInt8) : b64end (b64st l) = ((List.range ((8 * l.length + 5) / 6)).map fun k => b64T (figN 6 l k)) ++ List.replicate ((3 - l.length % 3) % 3) 61 := by
  rw [st_is]
  have hold : ∀ q, 6 * q ≤ 8 * l.length → (List.range q).map (fun j => b64T (figN 6 l j)) = (List.range q).map (fun j => b64T (dig l j)) := by
    intro q hq
    refine List.map_congr_left fun j hj => ?_
    rw [figN_old l j (Nat.le_trans (Nat.mul_le_mul_left 6 (List.mem_range.mp hj)) hq)]
  have hlast : ∀ q b : Nat, (8 * l.length + 5) / 6 = q + 1 → 6 * (q + 1) = 8 * l.length + b → figN 6 l q = num l * 2 ^ b / 1 % 64 := by
    intro q b e1 e2
    unfold figN
    rw [show 8 * l.length + 6 - 1 = 8 * l.length + 5 from rfl, e1, e2, Nat.add_sub_cancel_left, Nat.add_sub_cancel, Nat.sub_self]
    rfl
  unfold b64end
  dsimp only
  obtain ⟨m, hm⟩ := third l.length
  rcases hm with e | e | e
  · have a1 := dv6 (a := 8 * l.length) (b := 4 * m) (r := 0) (by rw [e]; omega) rfl
    have a2 := dv6 (a := 8 * l.length + 5) (b := 4 * m) (r := 5) (by rw [e]; omega) rfl
    rw [a1.1, a1.2, a2.1, if_neg (by decide), if_neg (by decide), hold _ (by rw [e]; omega), e, Nat.mul_mod_right]
    exact (List.append_nil _).symm
  · have a1 := dv6 (a := 8 * l.length) (b := 4 * m + 1) (r := 2) (by rw [e]; omega) rfl
    have a2 := dv6 (a := 8 * l.length + 5) (b := 4 * m + 2) (r := 1) (by rw [e]; omega) rfl
    rw [a1.1, a1.2, a2.1, if_pos (by decide), List.range_succ (n := 4 * m + 1), List.map_append, hold _ (by rw [e]; omega), List.map_cons, hlast (4 * m + 1) 4 a2.1 (by rw [e]; omega), show (2:Int) ^ 4 = 16 from rfl, low4, show l.length % 3 = 1 by rw [e, Nat.mul_add_mod]]
    simp only [List.append_assoc]
    rfl
  · have a1 := dv6 (a := 8 * l.length) (b := 4 * m + 2) (r := 4) (by rw [e]; omega) rfl
    have a2 := dv6 (a := 8 * l.length + 5) (b := 4 * m + 3) (r := 3) (by rw [e]; omega) rfl
    rw [a1.1, a1.2, a2.1, if_neg (by decide), if_pos (by decide), List.range_succ (n := 4 * m + 2), List.map_append, hold _ (by rw [e]; omega), List.map_cons, hlast (4 * m + 2) 2 a2.1 (by rw [e]; omega), show (2:Int) ^ 2 = 4 from rfl, low16, show l.length % 3 = 2 by rw [e, Nat.mul_add_mod]]
    simp only [List.append_assoc]
    rfl
theorem figN_range (W : Nat) (l : List UInt8) (k : Nat) : 0 ≤ figN W l k ∧ figN W l k < 2 ^ W := ⟨Int.emod_nonneg _ (Int.ne_of_gt (Int.pow_pos (by decide))), Int.emod_lt_of_pos _ (Int.pow_pos (by decide))⟩
theorem quads (n : Nat) : (8 * n + 5) / 6 + (3 - n % 3) % 3 = (n + 2) / 3 * 4 := by
  obtain ⟨m, hm⟩ := third n
  rcases hm with e | e | e <;> rw [e]
  · rw [(dv6 (a := 8 * (3 * m) + 5) (b := 4 * m) (r := 5) (by omega) rfl).1, Nat.mul_mod_right, Nat.mul_add_div (by decide)]; show 4 * m + 0 = (m + 0) * 4; omega
  · rw [(dv6 (a := 8 * (3 * m + 1) + 5) (b := 4 * m + 2) (r := 1) (by omega) rfl).1, Nat.mul_add_mod, Nat.add_assoc (3 * m), Nat.mul_add_div (by decide)]; show 4 * m + 2 + 2 = (m + 1) * 4; omega
  · rw [(dv6 (a := 8 * (3 * m + 2) + 5) (b := 4 * m + 3) (r := 3) (by omega) rfl).1, Nat.mul_add_mod, Nat.add_assoc (3 * m), Nat.mul_add_div (by decide)]; show 4 * m + 3 + 1 = (m + 1) * 4; omega
end
section
open PySem PySem.W PySem.Spec PySem.Calls PyProof.Rows
theorem join_onesS (sep : Str) (hs : L sep = []) : ∀ (l : List Str), L (Str.join sep l) = l.flatMap L
  | [] => rfl
  | [x] => by simp [Str.join]
  | x :: y :: r => by
    have h := join_cons_toList sep x y r
    show L (Str.join sep (x :: y :: r)) = _
    unfold L at hs ⊢
    rw [h, hs, List.append_nil, List.flatMap_cons]
    have ih := join_onesS sep hs (y :: r)
    unfold L at ih
    rw [ih]
theorem L_figs (W : Nat) (al : Str) (b : Array UInt8) : L (Txt.join (Str.ofString "") (figs W al b)) = (List.range ((8 * b.size + W - 1) / W)).map fun k => (Txt.charAt al (figN W b.toList k)).getD 0 := by
  unfold Txt.join
  rw [StrLaws.glued_eq_join, join_onesS _ (by rw [L_lit]; rfl)]
  unfold figs
  have key : ∀ l : List Nat, (l.map (figAt W al (num b.toList) b.size ((8 * b.size + W - 1) / W))).flatMap L = l.map fun k => (Txt.charAt al (figN W b.toList k)).getD 0 := by
    intro l
    induction l with
    | nil => rfl
    | cons k l ih =>
      rw [List.map_cons, List.flatMap_cons, ih, List.map_cons]
      have e : L (figAt W al (num b.toList) b.size ((8 * b.size + W - 1) / W) k) = [(Txt.charAt al (figN W b.toList k)).getD 0] := by
        unfold figAt figN Txt.item
        rw [Int.fdiv_eq_ediv_of_nonneg _ (Int.le_of_lt (Int.pow_pos (by decide))), Int.fmod_eq_emod_of_nonneg _ (Int.le_of_lt (Int.pow_pos (by decide)))]
        rw [show b.toList.length = b.size by simp]
      rw [e]
      try rfl
  exact key _
theorem charAt_in (al : Str) (i : Int) (h0 : 0 ≤ i) (h1 : i < (al.length : Int)) : (Txt.charAt al i).getD 0 = (L al).getD i.toNat 0 := by
  unfold Txt.charAt seqIndex?
  have e : ¬ i < 0 := by lia
  simp only [if_neg e]
  rw [if_pos (by simp; omega)]
  simp [L, Option.bind, List.getD]
theorem byteArr_L (ns : List Int) : L (txt (byteArr ns)) = ns.map fun n => n.toNat.toUInt8.toNat := by
  rw [L_txt]; unfold byteArr; simp
theorem b64T_lt (i : Int) : 0 ≤ b64T i ∧ b64T i < 128 := by
  unfold b64T
  have key : ∀ c ∈ b64L, c.toNat < 128 := by decide +kernel
  refine ⟨Int.natCast_nonneg _, ?_⟩
  have : (b64L.getD i.toNat 0).toNat < 128 := by
    rw [List.getD_eq_getElem?_getD]
    cases h : b64L[i.toNat]? with
    | none => decide
    | some c => exact key c (List.mem_of_getElem? h)
  omega
theorem small_u8 {n : Int} (h0 : 0 ≤ n) (h1 : n < 128) : n.toNat.toUInt8.toNat = n.toNat := by
  rw [UInt8.toNat_ofNat']
  lia
/-- what b64encode writes, as signs -/
theorem L_b64 (b : Array UInt8) : L (txt (b64B b)) = ((List.range ((8 * b.size + 5) / 6)).map fun k => (b64T (figN 6 b.toList k)).toNat) ++ List.replicate ((3 - b.size % 3) % 3) 61 := by
  unfold b64B
  rw [byteArr_L, b64_list, List.map_append, List.map_map, show b.toList.length = b.size by simp]
  congr 1
  · refine List.map_congr_left fun k _ => ?_
    exact small_u8 (b64T_lt _).1 (b64T_lt _).2
  · rw [List.map_replicate]; rfl
theorem b64_lt (b : Array UInt8) : ∀ c ∈ (b64B b).toList, c.toNat < 128 := by
  intro c hc
  have : c.toNat ∈ L (txt (b64B b)) := by rw [L_txt]; exact List.mem_map_of_mem hc
  rw [L_b64] at this
  rcases List.mem_append.mp this with h | h
  · obtain ⟨k, _, e⟩ := List.mem_map.mp h
    have := b64T_lt (figN 6 b.toList k)
    omega
  · rw [(List.mem_replicate.mp h).2]; decide
theorem mkt_two (p0 p1 c : UInt8) : (mkt #[43, 47] #[p0, p1]).getD c.toNat c = if c = 47 then p1 else if c = 43 then p0 else c := by
  show ((((Array.range 256).map (·.toUInt8)).setIfInBounds 43 p0).setIfInBounds 47 p1).getD c.toNat c = _
  have hc := c.toNat_lt
  have e1 : ∀ (k : Nat), k < 256 → (c.toNat = k ↔ c = k.toUInt8) := by
    intro k hk
    constructor
    · intro e; rw [← e]; simp
    · intro e; rw [e, UInt8.toNat_ofNat']; lia
  have h47 : (c = 47) ↔ (47 = c.toNat) := by rw [eq_comm (a := 47)]; exact (e1 47 (by decide)).symm
  have h43 : (c = 43) ↔ (43 = c.toNat) := by rw [eq_comm (a := 43)]; exact (e1 43 (by decide)).symm
  simp only [Array.getD_eq_getD_getElem?, Array.getElem?_setIfInBounds, h47, h43, Array.size_setIfInBounds, Array.size_map, Array.size_range]
  by_cases z1 : 47 = c.toNat
  · rw [← z1]; simp
  · by_cases z2 : 43 = c.toNat
    · rw [← z2]; simp
    · simp [z1, z2, hc]
theorem L_trans (p0 p1 : Nat) (h0 : p0 < 128) (h1 : p1 < 128) (pr : Str) (hp : L pr = [p0, p1]) (b : Array UInt8) : L (txt (trans (mkt #[43, 47] (asc pr)) b)) = (L (txt b)).map fun c => if c = 47 then p1 else if c = 43 then p0 else c := by
  have e : asc pr = #[p0.toUInt8, p1.toUInt8] := by
    have : pr = ⟨#[p0, p1]⟩ := L_inj hp
    rw [this]; rfl
  rw [L_txt, L_txt, e, List.map_map]
  unfold trans
  rw [Array.toList_map, List.map_map]
  refine List.map_congr_left fun c _ => ?_
  show ((mkt #[43, 47] #[p0.toUInt8, p1.toUInt8]).getD c.toNat c).toNat = _
  rw [mkt_two]
  have z47 : (c = 47) ↔ (c.toNat = 47) := ⟨fun e => by rw [e]; rfl, fun e => UInt8.toNat_inj.mp (by rw [e]; rfl)⟩
  have z43 : (c = 43) ↔ (c.toNat = 43) := ⟨fun e => by rw [e]; rfl, fun e => UInt8.toNat_inj.mp (by rw [e]; rfl)⟩
  simp only [z47, z43, Function.comp]
  split
  · rw [UInt8.toNat_ofNat']; lia
  · split
    · rw [UInt8.toNat_ofNat']; lia
    · rfl
/-- a half of an octet -/
noncomputable def nib (c : UInt8) : List Nat := [c.toNat / 16, c.toNat % 16]
theorem fig4_is (l : List UInt8) (k : Nat) : figN 4 l k = num l / 2 ^ (4 * (2 * l.length - 1 - k)) % 16 := by
  have e : (8 * l.length + 4 - 1) / 4 = 2 * l.length := by
    rw [show 8 * l.length + 4 - 1 = 3 + 4 * (2 * l.length) by rw [← Nat.mul_assoc, Nat.add_comm 3]; rfl, Nat.add_mul_div_left _ _ (by decide)]; exact Nat.zero_add _
  unfold figN
  rw [e, show 4 * (2 * l.length) - 8 * l.length = 0 from Nat.sub_eq_zero_of_le (Nat.le_of_eq (Nat.mul_assoc 4 2 _).symm), Int.pow_zero, Int.mul_one]
  rfl
theorem hi4 (a : Int) (c : UInt8) : ((256 * a + (c.toNat : Int)) / 16 % 16).toNat = c.toNat / 16 := by
  rw [Int.add_comm, show (256 : Int) * a = 16 * (16 * a) from Int.mul_assoc 16 16 a, Int.add_mul_ediv_left _ _ (by decide), Int.add_mul_emod_self_left]
  have h : c.toNat / 16 < 16 := Nat.div_lt_of_lt_mul c.toNat_lt
  show ((((c.toNat / 16 : Nat) : Int)) % ((16 : Nat) : Int)).toNat = _
  rw [Int.emod_eq_of_lt (Int.natCast_nonneg _) (Int.ofNat_lt.mpr h)]; rfl
theorem lo4 (a : Int) (c : UInt8) : ((256 * a + (c.toNat : Int)) / 1 % 16).toNat = c.toNat % 16 := by
  rw [Int.ediv_one, Int.add_comm, show (256 : Int) * a = 16 * (16 * a) from Int.mul_assoc 16 16 a, Int.add_mul_emod_self_left]; rfl
theorem figN4 (l : List UInt8) : (List.range (2 * l.length)).map (fun k => (figN 4 l k).toNat) = l.flatMap nib := by
  induction h : l.length generalizing l with
  | zero => rw [List.length_eq_zero_iff.mp h]; rfl
  | succ n ih =>
    rcases List.eq_nil_or_concat l with rfl | ⟨r, c, rfl⟩
    · cases h
    · rw [List.concat_eq_append] at h ⊢
      have hr : r.length = n := by rw [List.length_append] at h; exact Nat.succ.inj h
      have key : ∀ {k b : Nat}, 2 * (n + 1) - 1 - k = b → figN 4 (r ++ [c]) k = (256 * num r + (c.toNat : Int)) / 2 ^ (4 * b) % 16 := by
        intro k b e; rw [fig4_is, h, e, num_snoc]
      have hold : ∀ k, k ∈ List.range (2 * n) → (figN 4 (r ++ [c]) k).toNat = (figN 4 r k).toNat := by
        intro k hk
        obtain ⟨d, hd⟩ := Nat.exists_eq_add_of_lt (List.mem_range.mp hk)
        rw [key (k := k) (b := d + 2) (by rw [Nat.mul_add, hd]; show k + d + 1 + 2 - 1 - k = d + 2; rw [show k + d + 1 + 2 - 1 = k + (d + 2) from rfl, Nat.add_sub_cancel_left]), fig4_is, hr, hd, show k + d + 1 - 1 - k = d from Nat.add_sub_cancel_left .., Nat.mul_add, Nat.add_comm (4 * d), pow_split, ← Int.ediv_ediv_of_nonneg (by decide), show (2:Int) ^ (4 * 2) = 256 from rfl, lowbits (b := 256) (by decide) (Int.natCast_nonneg _) (show ((c.toNat : Nat) : Int) < 256 from Int.ofNat_lt.mpr c.toNat_lt)]
      rw [show 2 * (n + 1) = 2 * n + 1 + 1 from rfl, List.range_succ, List.range_succ, List.map_append, List.map_append, List.flatMap_append, ← ih r hr, List.map_congr_left hold, List.map_singleton, List.map_singleton,
        key (k := 2 * n) (b := 1) (by show 2 * n + 1 - 2 * n = 1; exact Nat.add_sub_cancel_left ..), key (k := 2 * n + 1) (b := 0) (Nat.sub_self _), show (2:Int) ^ (4 * 1) = 16 from rfl, show (2:Int) ^ (4 * 0) = 1 from rfl, hi4, lo4, List.append_assoc]
      rfl
noncomputable def hexUp (n : Nat) : Nat := [48, 49, 50, 51, 52, 53, 54, 55, 56, 57, 65, 66, 67, 68, 69, 70].getD n 0
theorem L_hex (b : Array UInt8) : L (txt (upB (hexB b))) = (b.toList.flatMap nib).map hexUp := by
  rw [L_txt]
  unfold upB hexB
  rw [enc_toList]
  have h1 : L ⟨hexes b⟩ = b.toList.flatMap fun c => [Builtin.Bytes.hexDigit (c.toNat / 16), Builtin.Bytes.hexDigit (c.toNat % 16)] := hexes_toList b
  rw [h1]
  have key : ∀ n, n < 16 → (Builtin.Bytes.toUpper (Builtin.Bytes.hexDigit n).toUInt8).toNat = hexUp n := by decide
  generalize b.toList = l
  induction l with
  | nil => rfl
  | cons c l ih =>
    have hc := c.toNat_lt
    simp only [List.flatMap_cons, List.flatMap_append, List.map_append] at ih ⊢
    rw [ih]
    congr 1
    simp only [nib, List.flatMap_cons, List.flatMap_nil, List.map_cons, List.map_nil, List.cons_append, List.nil_append, key _ (show c.toNat / 16 < 16 by omega), key _ (Nat.mod_lt c.toNat (show 0 < 16 by decide))]
theorem hex_lt (b : Array UInt8) : ∀ c ∈ (upB (hexB b)).toList, c.toNat < 128 := by
  intro c hc
  have : c.toNat ∈ L (txt (upB (hexB b))) := by rw [L_txt]; exact List.mem_map_of_mem hc
  rw [L_hex] at this
  obtain ⟨n, hn, e⟩ := List.mem_map.mp this
  obtain ⟨d, _, hd⟩ := List.mem_flatMap.mp hn
  have hd' := d.toNat_lt
  have key : ∀ n, n < 16 → hexUp n < 128 := by decide
  rw [← e]
  simp only [nib, List.mem_cons, List.not_mem_nil, or_false] at hd
  rcases hd with rfl | rfl
  · exact key _ (by omega)
  · exact key _ (by omega)
theorem trans_lt (p0 p1 : Nat) (h0 : p0 < 128) (h1 : p1 < 128) (pr : Str) (hp : L pr = [p0, p1]) (b : Array UInt8) : ∀ c ∈ (trans (mkt #[43, 47] (asc pr)) (b64B b)).toList, c.toNat < 128 := by
  intro c hc
  have : c.toNat ∈ L (txt (trans (mkt #[43, 47] (asc pr)) (b64B b))) := by rw [L_txt]; exact List.mem_map_of_mem hc
  rw [L_trans p0 p1 h0 h1 pr hp] at this
  obtain ⟨n, hn, e⟩ := List.mem_map.mp this
  rw [L_txt] at hn
  obtain ⟨d, hd, rfl⟩ := List.mem_map.mp hn
  have := b64_lt b d hd
  rw [← e]
  split
  · exact h1
  · split
    · exact h0
    · exact this
end
section
open PySem PySem.W PySem.Spec PySem.Calls PyProof.Rows
theorem figs_map (W : Nat) (al : Str) (b : Array UInt8) (hal : (al.length : Int) = 2 ^ W) : L (Txt.join (Str.ofString "") (figs W al b)) = (List.range ((8 * b.size + W - 1) / W)).map fun k => (L al).getD (figN W b.toList k).toNat 0 := by
  rw [L_figs]
  refine List.map_congr_left fun k _ => ?_
  have h := figN_range W b.toList k
  exact charAt_in al _ h.1 (by rw [hal]; exact h.2)
theorem b64_fig (al : Str) (b : Array UInt8) (hal : L al = b64L.map (·.toNat)) : L (txt (b64B b)) = L (Txt.join (Str.ofString "") (figs 6 al b)) ++ List.replicate ((3 - b.size % 3) % 3) 61 := by
  have hl : al.length = 64 := by rw [← L_length, hal]; rfl
  rw [L_b64, figs_map 6 al b (by rw [hl]; rfl)]
  congr 1
  refine List.map_congr_left fun k _ => ?_
  rw [hal]
  unfold b64T
  simp only [Int.toNat_natCast, List.getD_eq_getElem?_getD, List.getElem?_map]
  cases b64L[(figN 6 b.toList k).toNat]? <;> rfl
theorem b64_fig2 (p0 p1 : Nat) (h0 : p0 < 128) (h1 : p1 < 128) (pr al : Str) (hp : L pr = [p0, p1]) (b : Array UInt8) (hal : L al = (b64L.take 62).map (·.toNat) ++ [p0, p1]) :
    L (txt (trans (mkt #[43, 47] (asc pr)) (b64B b))) = L (Txt.join (Str.ofString "") (figs 6 al b)) ++ List.replicate ((3 - b.size % 3) % 3) 61 := by
  have hl : al.length = 64 := by rw [← L_length, hal]; rfl
  rw [L_trans p0 p1 h0 h1 pr hp, L_b64, figs_map 6 al b (by rw [hl]; rfl), List.map_append, List.map_map]
  congr 1
  · refine List.map_congr_left fun k _ => ?_
    have h := figN_range 6 b.toList k
    rw [hal]
    obtain ⟨n, hn⟩ : ∃ n : Nat, figN 6 b.toList k = n := ⟨_, (Int.toNat_of_nonneg h.1).symm⟩
    have hn64 : n < 64 := by have := h.2; rw [hn] at this; omega
    show (if (b64T (figN 6 b.toList k)).toNat = 47 then p1 else if (b64T (figN 6 b.toList k)).toNat = 43 then p0 else (b64T (figN 6 b.toList k)).toNat) = _
    rw [hn]
    unfold b64T
    simp only [Int.toNat_natCast]
    have k1 : ∀ n, n < 62 → (b64L.getD n 0).toNat ≠ 47 ∧ (b64L.getD n 0).toNat ≠ 43 ∧ ((b64L.take 62).map (·.toNat)).getD n 0 = (b64L.getD n 0).toNat := by decide +kernel
    by_cases hlt : n < 62
    · obtain ⟨z1, z2, z3⟩ := k1 n hlt
      rw [if_neg z1, if_neg z2, ← z3]
      rw [List.getD_eq_getElem?_getD, List.getD_eq_getElem?_getD, List.getElem?_append_left (by show n < 62; exact hlt)]
    · rcases (by omega : n = 62 ∨ n = 63) with rfl | rfl
      · rfl
      · rfl
  · rw [List.map_replicate]; rfl
theorem hex_fig (al : Str) (b : Array UInt8) (hal : L al = [48, 49, 50, 51, 52, 53, 54, 55, 56, 57, 65, 66, 67, 68, 69, 70]) : L (txt (upB (hexB b))) = L (Txt.join (Str.ofString "") (figs 4 al b)) := by
  have hl : al.length = 16 := by rw [← L_length, hal]; rfl
  rw [L_hex, figs_map 4 al b (by rw [hl]; rfl), ← figN4, List.map_map, show b.toList.length = b.size by simp, show (8 * b.size + 4 - 1) / 4 = 2 * b.size by omega]
  refine List.map_congr_left fun k _ => ?_
  rw [hal]; rfl
/-- lengths -/
theorem b64_sz (b : Array UInt8) : (txt (b64B b)).length = (b.size + 2) / 3 * 4 := by
  rw [← L_length, L_b64, List.length_append, List.length_map, List.length_range, List.length_replicate]; exact quads _
theorem hex_sz (b : Array UInt8) : (txt (upB (hexB b))).length = 2 * b.size := by
  rw [← L_length, L_hex, List.length_map]
  have : ∀ l : List UInt8, (l.flatMap nib).length = 2 * l.length := by
    intro l
    induction l with
    | nil => rfl
    | cons a l ih => rw [List.flatMap_cons, List.length_append, ih]; show 2 + _ = _; simp; omega
  rw [this]; simp
theorem trans_sz2 (tb b : Array UInt8) : (txt (trans tb b)).length = (txt b).length := by
  rw [← L_length, ← L_length, L_txt, L_txt]; simp [trans]
end
section
open PySem PySem.W PySem.Spec PySem.Calls PyProof.Rows PySem.Builtin PySem.Builtin.Str
theorem split_is (x : PySem.Str) : Txt.split x (PySem.Str.ofString "'") = if (occurrences x (PySem.Str.ofString "'") 0 x.length (x.length + 1)).isEmpty = true then [x] else partsBetween x (occurrences x (PySem.Str.ofString "'") 0 x.length (x.length + 1)) 1 := by
  have hl : (PySem.Str.ofString "'").length = 1 := by rw [← L_length, L_lit]; rfl
  have hk : decide (Builtin.Str.strKind x < Builtin.Str.strKind (PySem.Str.ofString "'")) = false := by
    have h1 : Builtin.Str.strKind (PySem.Str.ofString "'") = 1 := by decide +kernel
    have h2 : 1 ≤ Builtin.Str.strKind x := by unfold Builtin.Str.strKind; (repeat' split) <;> decide
    rw [h1]; exact decide_eq_false (by lia)
  unfold Txt.split
  rw [hk, Bool.or_false, hl]
  by_cases h0 : x.length < 1
  · rw [decide_eq_true h0, if_pos rfl, if_pos]
    have e : x.length = 0 := by lia
    have hx : x = PySem.Str.ofString "" := L_inj (List.length_eq_zero_iff.mp ((L_length x).trans e))
    subst hx
    decide +kernel
  · rw [decide_eq_false h0, if_neg Bool.false_ne_true]
theorem join_split (x z : PySem.Str) : Txt.join z (Txt.split x (PySem.Str.ofString "'")) = Txt.replace x (PySem.Str.ofString "'") z := by
  have hl : (PySem.Str.ofString "'").length = 1 := by rw [← L_length, L_lit]; rfl
  rw [split_is]
  unfold Txt.replace
  rw [hl]
  cases hc : (occurrences x (PySem.Str.ofString "'") 0 x.length (x.length + 1)).isEmpty
  · rw [if_neg Bool.false_ne_true, Bool.false_or]
    rw [show ((1 == 0) && z.length == 0) = false from rfl, if_neg Bool.false_ne_true]
    rfl
  · rw [if_pos rfl, Bool.true_or, if_pos rfl]; rfl
theorem join_QT (x : PySem.Str) : Txt.join (PySem.Str.ofString "'\"'\"'") (Txt.split x (PySem.Str.ofString "'")) = Esc QT x := by rw [join_split, rep_QT]
theorem split_sum (x : PySem.Str) : ((Txt.split x (PySem.Str.ofString "'")).map (·.length)).sum + (Txt.split x (PySem.Str.ofString "'")).length = x.length + 1 := by
  have hl : (PySem.Str.ofString "'").length = 1 := by rw [← L_length, L_lit]; rfl
  rw [split_is]
  cases hc : (occurrences x (PySem.Str.ofString "'") 0 x.length (x.length + 1)).isEmpty
  · rw [if_neg Bool.false_ne_true]
    have h := size_glued (PySem.Str.ofString "'") (partsBetween x (occurrences x (PySem.Str.ofString "'") 0 x.length (x.length + 1)) 1)
    have g := StrLaws.glued_between_self x (PySem.Str.ofString "'") (x.length + 1)
    rw [hl] at h g
    rw [g, length_partsBetween] at h
    rw [length_partsBetween]
    lia
  · rw [if_pos rfl]; simp
end
section
open PySem PySem.W
example {M : Model} {A : Around} {v : Value} {Q : Bool → Shared → Prop} {E : Value → Shared → Prop} {s : Shared} (h : wpAny M A (truthy v) Q E s) : wpAny M A (truthy v) Q E s := by first | (walk1; fail) | exact h
end
section
open PySem PySem.W PySem.Spec PySem.Calls PyProof.Rows
set_option maxHeartbeats 4000000
local macro_rules | `(tactic| walk_at "subscriptTail Name UnaryOp") => `(tactic| refine of_hold ?_)
/-- what the law lays of a text -/
noncomputable def putT (k : Int) (pr x : Str) : Str :=
  if k = 0 then quo (Str.ofString "d") ++ Str.ofString " " ++ quo x
  else if k = 1 then Str.ofString "<d>" ++ Esc t_cdata x ++ Str.ofString "</d>"
  else if k = 2 then Str.ofString "<d>" ++ Esc t_cdata_c14n x ++ Str.ofString "</d>"
  else if k = 3 then Str.ofString "<d k=\"" ++ Esc t_attrib x ++ Str.ofString "\"/>"
  else if k = 4 then Str.ofString "<d k=\"" ++ Esc t_attrib_c14n x ++ Str.ofString "\"/>"
  else if k = 5 then Str.ofString "<d k=\"" ++ Esc t_attrib_html x ++ Str.ofString "\"/>"
  else if k = 6 then txt (b64B (u8 x))
  else if k = 7 then txt (trans (mkt #[43, 47] (asc pr)) (b64B (u8 x)))
  else txt (upB (hexB (u8 x)))
/-- a pair of signs -/
structure Two (pr : Str) (p0 p1 : Nat) : Prop where
  l : L pr = [p0, p1]
  h0 : p0 < 128
  h1 : p1 < 128
theorem Two.asc {pr : Str} {p0 p1 : Nat} (h : Two pr p0 p1) : ∀ c ∈ L pr, c < 128 := by
  intro c hc
  rw [h.l] at hc
  have := h.h0
  have := h.h1
  simp only [List.mem_cons, List.not_mem_nil, or_false] at hc
  rcases hc with rfl | rfl <;> assumption
theorem Two.len {pr : Str} {p0 p1 : Nat} (h : Two pr p0 p1) : pr.length = 2 := by rw [← L_length, h.l]; rfl
theorem sp_put (w : World) (k : Int) (hk0 : 0 ≤ k) (hk8 : k ≤ 8) (pr x : Str) (p0 p1 : Nat) (hp : Two pr p0 p1) (tk tp tx : Tok) (T₀ : Obj) (hx : x.length ≤ 100000) (hsur : ∀ c ∈ L x, Str.isSurrogate c = false) {dp un : Nat} {gd : Option (List Code)} {cn : Str} {cs : Scope} {a : Addr} {ccd : Value} {cl : List (Str × Addr)} {outer : List Env} {A₀ : Around} {base h₀ : Heap} {L : Addr} {m mg mb : Str → Option Value} {mean : ExcName → Option Value} {rest : List (Addr × Obj)} {s : Shared} {Q E : Value → Shared → Prop}
    (B : Below A₀ base outer h₀) (F : Fr h₀ L s.heap m) (X : (K w.params).In h₀) (N : News h₀ L s.heap ((792, T₀) :: rest)) (T : Top q (looseW q loose) mean mg mb h₀) (hk : cs.kind = .function) (hd : dp + 40 < recursionLimit) (hu : un + 60 < cLine)
    (hT : JT T₀) (hne : ∀ p ∈ rest, p.1 ≠ 792)
    (hret : ∀ t T₁ h' tk' g', (AllBare s.gens → AllBare g') → JT T₁ → Fr h₀ L h' m → News h₀ L h' ((792, T₁) :: rest) → Q (.str (putT k pr x) t) { s with heap := h', toks := tk', gens := g' }) :
    wpAny (model PySem.Challenge.pw_kt0081_01 w) (ktrTop dp un gd cn cs L a ccd cl outer) (call (.ref 868) [.int k tk, .str pr tp, .str x tx]) Q E s := by
  rcases nine ⟨hk0, hk8⟩ with rfl | rfl | rfl | rfl | rfl | rfl | rfl | rfl | rfl
  · exact sp_put_0 w pr x tk tp tx T₀ hx B F X N T hk hd hT hne hret
  · exact SpecP.use (sp_put_1 w pr x tk tp tx hx) B F X N T hk (room_in hd (by decide)) hu trivial fun t h' tk' F' N' => hret t T₀ h' tk' s.gens id hT F' N'
  · exact SpecP.use (sp_put_2 w pr x tk tp tx hx) B F X N T hk (room_in hd (by decide)) hu trivial fun t h' tk' F' N' => hret t T₀ h' tk' s.gens id hT F' N'
  · exact SpecP.use (sp_put_3 w pr x tk tp tx hx) B F X N T hk (room_in hd (by decide)) hu trivial fun t h' tk' F' N' => hret t T₀ h' tk' s.gens id hT F' N'
  · exact SpecP.use (sp_put_4 w pr x tk tp tx hx) B F X N T hk (room_in hd (by decide)) hu trivial fun t h' tk' F' N' => hret t T₀ h' tk' s.gens id hT F' N'
  · exact SpecP.use (sp_put_5 w pr x tk tp tx hx) B F X N T hk (room_in hd (by decide)) hu trivial fun t h' tk' F' N' => hret t T₀ h' tk' s.gens id hT F' N'
  · exact SpecP.use (sp_put_6 w pr x tk tp tx hx hsur (b64_lt _)) B F X N T hk (room_in hd (by decide)) hu trivial fun t h' tk' F' N' => hret t T₀ h' tk' s.gens id hT F' N'
  · exact SpecP.use (sp_put_7 w pr x tk tp tx hx hsur (trans_lt p0 p1 hp.h0 hp.h1 pr hp.l _) hp.asc hp.len) B F X N T hk (room_in hd (by decide)) hu trivial fun t h' tk' F' N' => hret t T₀ h' tk' s.gens id hT F' N'
  · exact SpecP.use (sp_put_8 w pr x tk tp tx hx hsur (hex_lt _)) B F X N T hk (room_in hd (by decide)) hu trivial fun t h' tk' F' N' => hret t T₀ h' tk' s.gens id hT F' N'
/-- the i-th text of the mail -/
noncomputable def mailAt (pr x : Str) (ks : List Int) (i : Nat) : Str := (ks.take i).foldl (fun x k => putT k pr x) x
theorem mailAt_succ {pr x : Str} {ks : List Int} {i : Nat} {k : Int} (h : ks[i]? = some k) : mailAt pr x ks (i + 1) = putT k pr (mailAt pr x ks i) := by
  unfold mailAt
  rw [List.take_add_one, h, List.foldl_append]; rfl
noncomputable def mail (pr x : Str) (ks : List Int) (i : Nat) : List Str := (List.range (i + 1)).map (mailAt pr x ks)
theorem mail_succ {pr x : Str} {ks : List Int} {i : Nat} : mail pr x ks (i + 1) = mail pr x ks i ++ [mailAt pr x ks (i + 1)] := by
  unfold mail
  rw [List.range_succ, List.map_append]; rfl
theorem strs_snoc {vs : List Value} {ws : List Str} {x : Str} {t : Tok} (h : StrsAre vs ws) : StrsAre (vs ++ [.str x t]) (ws ++ [x]) := h.append' (.cons _ _ .nil)
local macro_rules | `(tactic| walk_at "exec For Name Name cons nil") => `(tactic| refine of_hold ?_)
theorem seq_last {n i : Nat} (h : n = i + 1) : seqIndex? (-1) n = some i := by
  subst h
  unfold seqIndex?
  have e : (if (-1 : Int) < 0 then (-1 : Int) + ((i + 1 : Nat) : Int) else -1) = (i : Int) := by rw [if_pos (by decide)]; omega
  simp only [e]
  rw [if_pos (by simp; omega)]; rfl
theorem sp_post (w : World) (lk : Addr) (n : Nat) (kvs : List Value) (ks : List Int) (hi : IntsAre kvs ks) (hks : ∀ k ∈ ks, 0 ≤ k ∧ k ≤ 8) (hl : ks.length ≤ 100) (pr x : Str) (p0 p1 : Nat) (hp : Two pr p0 p1) (tp tx : Tok) (T₀ : Obj)
    (hx : ∀ i, i < ks.length → (mailAt pr x ks i).length ≤ 100000) (hsur : ∀ i, i < ks.length → ∀ c ∈ L (mailAt pr x ks i), Str.isSurrogate c = false) {dp un : Nat} {gd : Option (List Code)} {cn : Str} {cs : Scope} {a : Addr} {ccd : Value} {cl : List (Str × Addr)} {outer : List Env} {A₀ : Around} {base h₀ : Heap} {L : Addr} {m mg mb : Str → Option Value} {mean : ExcName → Option Value} {rest : List (Addr × Obj)} {s : Shared} {Q E : Value → Shared → Prop}
    (B : Below A₀ base outer h₀) (F : Fr h₀ L s.heap m) (X : (K w.params).In h₀) (N : News h₀ L s.heap ((792, T₀) :: rest)) (T : Top q (looseW q loose) mean mg mb h₀) (hk : cs.kind = .function) (hd : dp + 50 < recursionLimit) (hu : un + 80 < cLine)
    (hT : JT T₀) (hne : ∀ p ∈ rest, p.1 ≠ 792) (hpre : (lk, listObj kvs n) ∈ rest)
    (hret : ∀ l n' vs T₁ h' tk' g', (AllBare s.gens → AllBare g') → JT T₁ → StrsAre vs (mail pr x ks ks.length) → Fr h₀ L h' m → News h₀ L h' ((l, listObj vs n') :: (792, T₁) :: rest) → 792 < l → (∀ p ∈ rest, p.1 < l) → Q (.ref l) { s with heap := h', toks := tk', gens := g' }) :
    wpAny (model PySem.Challenge.pw_kt0081_01 w) (ktrTop dp un gd cn cs L a ccd cl outer) (call (.ref 875) [.str x tx, .ref lk, .str pr tp]) Q E s := by
  refine wpAny_call ?_
  refine' enterA (binds := [("letter", .str x tx), ("kinds", .ref lk), ("pair", .str pr tp)]) ?k6 ?ks ?k7 ?k9 ?kB ?c2 ?c3 ?c4 ?c5 ?k1 ?k2 ?k3 ?k4 ?k5 ?kK ?k8 ?_
  case k1 => assumption
  case k2 => assumption
  case k3 => assumption
  case k4 => assumption
  case k5 => assumption
  case kK => assumption
  case k6 => k_dflt k_is
  case ks => exact rfl
  case k7 => k_dflt k_is
  case k8 => exact Nat.lt_of_le_of_lt (Nat.le_add_right _ _) hd
  case k9 => intro s X; exact BindsTo.of_eq rfl
  case c5 => decide
  case kB => exact locs rfl
  case c2 => exact rfl
  case c3 => exact rfl
  case c4 => exact rfl
  intro g' h' L' tk' WQ WE B' F' X' N' T' hR' htk' hPO
  simp only [List.reverse_cons, List.reverse_nil, List.nil_append, List.cons_append, lookF, lookE] at F'
  show (let zV := _; let zA := _; wpAny _ zA (execs _ zV) _ _ _)
  intro zV zA
  (k_steps; repeat' (((with_reducible refine hold_in ?_); ((rename Fr _ _ _ _ => lF'); (with_unfolding_all refine' For_GF lF' (by exact rfl) (by exact rfl) ?_; k_whole))); (all_goals (try k_steps))))
  (with_reducible rename Fr g' L' _ _ => zF)
  (with_reducible rename News g' L' _ _ => zN)
  (with_reducible rename _ ∧ AllLt _ _ => zL)
  refine LoopG.intro (src_list rfl zN (List.mem_cons_of_mem _ (List.mem_cons_of_mem _ hpre))) zF zN (fun p hp => by rw [List.mem_singleton.mp hp]; exact List.mem_cons_of_mem _ (List.mem_cons_of_mem _ hpre))
    (fun i m nw => ∃ lt n' vs T₁, JT T₁ ∧ (∃ u, m = fun (y : Str) => if y = "kind" then u else if y = "texts" then some (Value.ref lt) else if y = "pair" then some (.str pr tp) else if y = "kinds" then some (Value.ref lk) else if y = "letter" then some (.str x tx) else none) ∧ nw = (lt, listObj vs n') :: (792, T₁) :: rest ∧ AllLt lt ((792, T₁) :: rest) ∧ StrsAre vs (mail pr x ks i))
    ⟨_, _, _, T₀, hT, ⟨_, frame_at fun y hy => by simp only [List.reverse_cons, List.reverse_nil, List.nil_append, look1, List.lookup_nil]⟩, rfl, zL, .cons _ _ .nil⟩ ?turn ?done
  case turn =>
    clear zF zN zL
    intro i v m₁ nw h tk g I oI hlt hP hJ F' N' off hnd
    obtain ⟨lt, n', vs, T₁, hT₁, ⟨u, rfl⟩, rfl, l2, hS⟩ := hJ
    obtain ⟨k, t, rfl, hn⟩ := hi.at _ _ (by simpa using hP)
    have oI1 : @Ne Nat lt I := off _ List.mem_cons_self
    have hi2 : i < ks.length := (List.getElem?_eq_some_iff.mp hn).1
    have hvl : vs.length = i + 1 := by rw [hS.length]; unfold mail; rw [List.length_map, List.length_range]
    obtain ⟨ti, hv⟩ := hS.get i (mailAt pr x ks i) (by unfold mail; simp)
    have hki := hks k (List.mem_of_getElem? hn)
    (k_steps; repeat' (((with_reducible refine hold_in ?_); (with_unfolding_all refine' kde_neg ?k1 ?k2 ?k3 ?k4 ?k5 ?_ ?k6; (case k2 => decide); (case k3 => decide); (case k1 => is_list); (case k4 => exact seq_last (by with_reducible assumption)); (case k5 => with_reducible assumption); (case k6 => with_unfolding_all rfl); k_whole)); all_goals (try k_steps)))
    (with_reducible rename Fr g' L' _ _ => zF)
    (with_reducible rename News g' L' _ _ => zN)
    have hki := hks k (List.mem_of_getElem? hn)
    have l2' : AllLt lt ((792, T₁) :: rest) := by assumption
    have hlt2 : ∀ p ∈ (792, T₁) :: rest, p.1 < lt := kst_ltOf l2'
    refine sp_put w k hki.1 hki.2 pr _ p0 p1 hp _ _ _ T₁ (hx i hi2) (hsur i hi2) B' zF X' (newsPick (want := [(792, T₁), (I, oI), (lt, listObj vs n')]) [(I, oI), (lt, listObj vs n'), (792, T₁)] [2, 0, 1] zN rfl) T' rfl (room_in1 hd (by decide)) (room_u hu (by decide)) hT₁ ?zne ?zr
    case zne =>
      intro p hp
      rcases List.mem_cons.mp hp with rfl | hp
      · exact fun e => off (792, T₁) (List.mem_cons_of_mem _ List.mem_cons_self) e.symm
      · rcases List.mem_cons.mp hp with rfl | hp
        · exact Nat.ne_of_gt (hlt2 _ List.mem_cons_self)
        · exact hne p hp
    case zr =>
      intro t' T₂ h' tk' g'' hgb2 hT₂ F₂ N₂
      have l3 : AllLt lt ((792, T₂) :: rest) := l2'
      have N₃ : News g' L' h' ((I, oI) :: (lt, listObj vs n') :: (792, T₂) :: rest) := newsPick (want := [(I, oI), (lt, listObj vs n'), (792, T₂)]) [(792, T₂), (I, oI), (lt, listObj vs n')] [1, 2, 0] N₂ rfl
      clear N₂
      (k_steps; repeat' ((k_dflt (first | (refine' app2 ?F ?N ?h1 ?hap ?hsz ?_; (case F => with_reducible assumption); (case N => with_reducible assumption); (case h1 => first | with_reducible assumption | exact Ne.symm (by with_reducible assumption) | k_ne); (case hap => with_reducible assumption); (case hsz => (try simp only [List.length_append, List.length_singleton]); omega)) | (refine' app1 ?F ?N ?hap ?hsz ?_; (case F => with_reducible assumption); (case N => with_reducible assumption); (case hap => with_reducible assumption); (case hsz => (try simp only [List.length_append, List.length_singleton]); omega))); intro z9h' z9F' z9N'; (try dsimp only)); all_goals (try k_steps)))
      refine ⟨_, _, _, _, _, rfl, hgb2, by with_reducible assumption, by with_reducible assumption, ?_, fun p hp => by rw [List.mem_singleton.mp hp]; exact List.mem_cons_of_mem _ (List.mem_cons_of_mem _ hpre), lt, _, _, T₂, hT₂, ⟨_, frame_again⟩, rfl, l3, by rw [mail_succ, mailAt_succ hn]; exact strs_snoc hS⟩
      intro p hp
      rcases List.mem_cons.mp hp with rfl | hp
      · exact oI1
      · rcases List.mem_cons.mp hp with rfl | hp
        · exact off (792, T₁) (List.mem_cons_of_mem _ List.mem_cons_self)
        · exact off p (List.mem_cons_of_mem _ (List.mem_cons_of_mem _ hp))
  case done =>
    clear zF zN zL
    intro m₁ nw h tk g hgb hJ F' N'
    obtain ⟨lt, n', vs, T₁, hT₁, ⟨u, rfl⟩, rfl, l2, hS⟩ := hJ
    k_steps
    (with_reducible rename Fr g' L' _ _ => zF)
    (with_reducible rename News g' L' _ _ => zN)
    have hlt2 : ∀ p ∈ (792, T₁) :: rest, p.1 < lt := kst_ltOf (by assumption)
    refine hR' (fun F N => hret _ _ _ T₁ _ _ _ hgb hT₁ ?_ F N (hlt2 _ List.mem_cons_self) (fun p hp => hlt2 p (List.mem_cons_of_mem _ hp))) zF zN
    rw [show (kvs.toArray).size = ks.length by rw [List.size_toArray]; exact hi.length] at hS
    exact hS
end
section
open PySem PySem.W PySem.Spec PySem.Calls PyProof.Rows PySem.SeqAt
/-- the signs are code points -/
noncomputable def Cps (x : Str) : Prop := ∀ c ∈ x.cps.toList, c < 0x110000
theorem strOk_of {x : Str} (h : Cps x) : PyData.strOk x = true := by
  unfold PyData.strOk
  rw [Array.all_eq_true_iff_forall_mem]
  intro c hc
  exact decide_eq_true (h c (by simpa using hc))
theorem eqvAll_strs : ∀ xs ys : List Str, PyData.eqvAll (xs.map PyData.str) (ys.map PyData.str) = decide (xs = ys)
  | [], [] => by simp [PyData.eqvAll]
  | [], _ :: _ => by simp [PyData.eqvAll]
  | _ :: _, [] => by simp [PyData.eqvAll]
  | a :: r, b :: t => by
    simp only [List.map_cons, PyData.eqvAll, PyData.eqv, eqvAll_strs r t]
    by_cases h : a = b <;> by_cases h' : r = t <;> simp [h, h']
theorem canLay_strs : ∀ {xs : List Str}, (∀ x ∈ xs, Cps x) → PyData.canLayAll0 (xs.map PyData.str) = true
  | [], _ => by simp [PyData.canLayAll0]
  | x :: r, h => by simp [PyData.canLayAll0, PyData.canLay0, strOk_of (h x List.mem_cons_self), canLay_strs fun y hy => h y (List.mem_cons_of_mem _ hy)]
theorem depth_strs : ∀ xs : List Str, PyData.depthAll (xs.map PyData.str) = 0
  | [] => by simp [PyData.depthAll]
  | x :: r => by simp [PyData.depthAll, PyData.depth, depth_strs r]
theorem shaped_strs {xs : List Str} (h : ∀ x ∈ xs, Cps x) : shaped (.list (xs.map PyData.str)) = true := by
  simp [shaped, PyData.canLay0, PyData.depth, canLay_strs h, depth_strs]
theorem reads_strs {h : Heap} : ∀ {vs : List Value} {xs : List Str}, StrsAre vs xs → ReadsAll h vs (xs.map PyData.str) []
  | _, _, .nil => .nil
  | _, _, .cons x t r => by
    have := ReadsAll.cons (Reads.str (h := h) x t) (reads_strs (h := h) r)
    simpa using this
/-- references to lists of ints of a ledger -/
inductive RowsIn (news : List (Addr × Obj)) : List Value → List (List Int) → Prop
  | nil : RowsIn news [] []
  | cons {vs : List Value} {rows : List (List Int)} {cells : List Value} {row : List Int} (a : Addr) (n : Nat) : (a, listObj cells n) ∈ news → IntsAre cells row → RowsIn news vs rows → RowsIn news (.ref a :: vs) (row :: rows)
theorem RowsIn.mono {news news' : List (Addr × Obj)} (h : ∀ p ∈ news, p ∈ news') : ∀ {vs : List Value} {rows : List (List Int)}, RowsIn news vs rows → RowsIn news' vs rows
  | _, _, .nil => .nil
  | _, _, .cons a n hm hi r => .cons a n (h _ hm) hi (r.mono h)
theorem RowsIn.append {news : List (Addr × Obj)} : ∀ {vs us : List Value} {rows rows' : List (List Int)}, RowsIn news vs rows → RowsIn news us rows' → RowsIn news (vs ++ us) (rows ++ rows')
  | _, _, _, _, .nil, h => h
  | _, _, _, _, .cons a n hm hi r, h => .cons a n hm hi (r.append h)
theorem RowsIn.length {news : List (Addr × Obj)} : ∀ {vs : List Value} {rows : List (List Int)}, RowsIn news vs rows → vs.length = rows.length
  | _, _, .nil => rfl
  | _, _, .cons a n hm hi r => by simp [r.length]
noncomputable def rowD (r : List Int) : PyData := .list (r.map .int)
theorem eqvAll_rows : ∀ rs ts : List (List Int), PyData.eqvAll (rs.map rowD) (ts.map rowD) = decide (rs = ts)
  | [], [] => by simp [PyData.eqvAll]
  | [], _ :: _ => by simp [PyData.eqvAll]
  | _ :: _, [] => by simp [PyData.eqvAll]
  | a :: r, b :: t => by
    simp only [List.map_cons, PyData.eqvAll, rowD, PyData.eqv, ked_eqvAll]
    have ih := eqvAll_rows r t
    rw [ih]
    by_cases h : a = b <;> by_cases h' : r = t <;> simp [h, h']
theorem canLay_rows : ∀ rs : List (List Int), PyData.canLayAll0 (rs.map rowD) = true
  | [] => by simp [PyData.canLayAll0]
  | x :: r => by simp [PyData.canLayAll0, PyData.canLay0, rowD, ke_canLayAll0, canLay_rows r]
theorem depth_rows : ∀ rs : List (List Int), PyData.depthAll (rs.map rowD) ≤ 1
  | [] => by simp [PyData.depthAll]
  | x :: r => by
    have := depth_rows r
    simp only [List.map_cons, PyData.depthAll, rowD, PyData.depth, ke_depthAll]
    omega
theorem shaped_rows (rs : List (List Int)) : shaped (.list (rs.map rowD)) = true := by
  have := depth_rows rs
  simp [shaped, PyData.canLay0, PyData.depth, canLay_rows rs]
  omega
theorem reads_rows {h₀ h : Heap} {L : Addr} {news : List (Addr × Obj)} (N : News h₀ L h news) : ∀ {vs : List Value} {rs : List (List Int)}, RowsIn news vs rs → ∃ as, ReadsAll h vs (rs.map rowD) as
  | _, _, .nil => ⟨_, .nil⟩
  | _, _, .cons a n hm hi r => by
    obtain ⟨as, ih⟩ := reads_rows N r
    exact ⟨_, .cons (reads_list_at (N _ hm).1 rfl rfl (by simpa using readsAll_of_ints hi)) ih⟩
section
variable {prog : Program} {w : World} {A : Around} {E : Value → Shared → Prop} {s : Shared} {a b : Addr} {us vs : List Value} {xs ys : List Str} {rs ts : List (List Int)} {Q : Value → Shared → Prop} {h₀ : Heap} {L : Addr} {news : List (Addr × Obj)} {n n' : Nat}
theorem eq_strs (N : News h₀ L s.heap news) (ha : (a, listObj us n) ∈ news) (hb : (b, listObj vs n') ∈ news) (hu : StrsAre us xs) (hv : StrsAre vs ys) (cx : ∀ x ∈ xs, Cps x) (cy : ∀ x ∈ ys, Cps x) (hun : A.units + 64 < cLine)
    (h : Q (.bool (decide (xs = ys))) s) : wpAny (model prog w) A (compareOp .Eq (.ref a) (.ref b)) Q E s :=
  eq_dataH (reads_list_at (N _ ha).1 rfl rfl (by simpa using reads_strs hu)) (reads_list_at (N _ hb).1 rfl rfl (by simpa using reads_strs hv)) (shaped_strs cx) (shaped_strs cy) hun (by simp only [PyData.eqv, eqvAll_strs]; exact h)
theorem ne_rows (N : News h₀ L s.heap news) (ha : (a, listObj us n) ∈ news) (hb : (b, listObj vs n') ∈ news) (hu : RowsIn news us rs) (hv : RowsIn news vs ts) (hun : A.units + 64 < cLine)
    (h : Q (.bool (!decide (rs = ts))) s) : wpAny (model prog w) A (compareOp .NotEq (.ref a) (.ref b)) Q E s := by
  obtain ⟨as, h1⟩ := reads_rows N hu
  obtain ⟨bs, h2⟩ := reads_rows N hv
  exact ne_dataH (reads_list_at (N _ ha).1 rfl rfl (by simpa using h1)) (reads_list_at (N _ hb).1 rfl rfl (by simpa using h2)) (shaped_rows _) (shaped_rows _) hun (by simp only [PyData.eqv, eqvAll_rows]; exact h)
end
end
section
open PySem PySem.W
example {M : Model} {A : Around} {v : Value} {Q : Bool → Shared → Prop} {E : Value → Shared → Prop} {s : Shared} (h : wpAny M A (truthy v) Q E s) : wpAny M A (truthy v) Q E s := by first | (walk1; fail) | exact h
end
section
open PySem PySem.W PySem.Spec PySem.Calls PyProof.Rows
set_option maxHeartbeats 4000000
local macro_rules | `(tactic| k_all) => `(tactic| (refine' all_ne (by with_reducible assumption) (by lia)))
local macro_rules | `(tactic| walk_at "subscriptTail Name UnaryOp") => `(tactic| refine of_hold ?_)
noncomputable def MidR (R : Shared → Prop) (f : Flow) (s' : Shared) : Prop := f = .next ∧ R s'
theorem execs_mid2 {M : Model} {A : Around} {E : Value → Shared → Prop} {env : Env} {s : Shared} {s1 s2 : Stmt} {rest : List Stmt} {Q : Flow → Shared → Prop} (R : Shared → Prop)
    (h1 : wpAny M A (exec s1 env) (fun f s' => match f with | .next => wpAny M A (exec s2 env) (MidR R) E s' | _ => False) E s) (h2 : ∀ s', R s' → wpAny M A (execs rest env) Q E s') : wpAny M A (execs (s1 :: s2 :: rest) env) Q E s :=
  wpAny_execs_cons (wpAny_mono h1 (fun f s' h => by
    cases f with
    | next => exact wpAny_execs_cons (wpAny_mono h (fun f s'' h => by obtain ⟨rfl, h⟩ := h; exact h2 s'' h) fun _ _ e => e)
    | _ => exact h.elim) fun _ _ e => e)
/-- the signs that the law holds for safe -/
noncomputable def SAFE : Str := Str.ofString "ABCDEFGHIJKLMNOPQRSTUVWXYZabcdefghijklmnopqrstuvwxyz0123456789_@%+=:,./-"
noncomputable def isS (c : Nat) : Bool := decide (c ∈ L SAFE)
noncomputable def bareT (x : Str) : Bool := decide (x.length ≠ 0) && (L x).all isS
noncomputable def ten (r : List Int) (f : Int → Int → Int → Int → Int → Int → Int → Int → Int → Int → List Int) : List Int :=
  f (r.getD 0 0) (r.getD 1 0) (r.getD 2 0) (r.getD 3 0) (r.getD 4 0) (r.getD 5 0) (r.getD 6 0) (r.getD 7 0) (r.getD 8 0) (r.getD 9 0)
noncomputable def nextL (k : Int) (b : Bool) (r : List Int) : List Int := ten r (nextRow k b)
theorem one_of {P : Prop} {vs : List Value} {r : List Int} {n : Nat} (h : IntsAre vs r) (hl : r.length = n + 1) (k : ∀ a t vs' r', vs = .int a t :: vs' → r = a :: r' → IntsAre vs' r' → r'.length = n → P) : P := by
  cases h with
  | nil => cases hl
  | cons a t h' => exact k _ _ _ _ rfl rfl h' (Nat.succ.inj hl)
theorem no_more {vs : List Value} {r : List Int} (h : IntsAre vs r) (hl : r.length = 0) : vs = [] ∧ r = [] := by
  cases h with
  | nil => exact ⟨rfl, rfl⟩
  | cons _ _ _ => cases hl
theorem ten_of {vs : List Value} {r : List Int} (h : IntsAre vs r) (hl : r.length = 10) : ∃ a0 a1 a2 a3 a4 a5 a6 a7 a8 a9 t0 t1 t2 t3 t4 t5 t6 t7 t8 t9,
    vs = [.int a0 t0, .int a1 t1, .int a2 t2, .int a3 t3, .int a4 t4, .int a5 t5, .int a6 t6, .int a7 t7, .int a8 t8, .int a9 t9] ∧ r = [a0, a1, a2, a3, a4, a5, a6, a7, a8, a9] :=
  one_of h hl fun a0 t0 v0 r0 e0 f0 i0 h0 =>
  one_of i0 h0 fun a1 t1 v1 r1 e1 f1 i1 h1 =>
  one_of i1 h1 fun a2 t2 v2 r2 e2 f2 i2 h2 =>
  one_of i2 h2 fun a3 t3 v3 r3 e3 f3 i3 h3 =>
  one_of i3 h3 fun a4 t4 v4 r4 e4 f4 i4 h4 =>
  one_of i4 h4 fun a5 t5 v5 r5 e5 f5 i5 h5 =>
  one_of i5 h5 fun a6 t6 v6 r6 e6 f6 i6 h6 =>
  one_of i6 h6 fun a7 t7 v7 r7 e7 f7 i7 h7 =>
  one_of i7 h7 fun a8 t8 v8 r8 e8 f8 i8 h8 =>
  one_of i8 h8 fun a9 t9 v9 r9 e9 f9 i9 h9 =>
  ⟨a0, a1, a2, a3, a4, a5, a6, a7, a8, a9, t0, t1, t2, t3, t4, t5, t6, t7, t8, t9, (e0.trans (congrArg (List.cons _) (e1.trans (congrArg (List.cons _) (e2.trans (congrArg (List.cons _) (e3.trans (congrArg (List.cons _) (e4.trans (congrArg (List.cons _) (e5.trans (congrArg (List.cons _) (e6.trans (congrArg (List.cons _) (e7.trans (congrArg (List.cons _) (e8.trans (congrArg (List.cons _) (e9.trans (congrArg (List.cons _) (no_more i9 h9).1)))))))))))))))))))), (f0.trans (congrArg (List.cons _) (f1.trans (congrArg (List.cons _) (f2.trans (congrArg (List.cons _) (f3.trans (congrArg (List.cons _) (f4.trans (congrArg (List.cons _) (f5.trans (congrArg (List.cons _) (f6.trans (congrArg (List.cons _) (f7.trans (congrArg (List.cons _) (f8.trans (congrArg (List.cons _) (f9.trans (congrArg (List.cons _) (no_more i9 h9).2))))))))))))))))))))⟩
theorem sp_law_next (w : World) (l : Addr) (n : Nat) (k : Int) (hk : 0 ≤ k ∧ k ≤ 8) (b : Bool) (tk1 : Tok) (vs : List Value) (r : List Int) (hi : IntsAre vs r) (hl : r.length = 10) : SpecL w 887 1 8 [.int k tk1, .bool b, .ref l] (fun news => (l, listObj vs n) ∈ news) (fun vs' => IntsAre vs' (nextL k b r)) := by
  obtain ⟨a0, a1, a2, a3, a4, a5, a6, a7, a8, a9, t0, t1, t2, t3, t4, t5, t6, t7, t8, t9, rfl, rfl⟩ := ten_of hi hl
  exact sp_law_next_any w l n tk1 k b a0 a1 a2 a3 a4 a5 a6 a7 a8 a9 t0 t1 t2 t3 t4 t5 t6 t7 t8 t9
/-- the i-th row that the law reckons, and whether the text is then bare -/
noncomputable def rowAt (x : Str) (ks : List Int) : Nat → List Int × Bool
  | 0 => (cnt x, bareT x)
  | i + 1 => (nextL (ks.getD i 0) (rowAt x ks i).2 (rowAt x ks i).1, decide (ks.getD i 0 > 5) && decide ((nextL (ks.getD i 0) (rowAt x ks i).2 (rowAt x ks i).1).getD 0 0 > 0))
theorem nextL_len (k : Int) (b : Bool) (r : List Int) : (nextL k b r).length = 10 := by
  unfold nextL ten nextRow
  split
  · split <;> rfl
  · split
    · split <;> rfl
    · rfl
theorem rowAt_len (x : Str) (ks : List Int) : ∀ i, (rowAt x ks i).1.length = 10
  | 0 => rfl
  | i + 1 => nextL_len _ _ _
theorem bare_empty {x : Str} (h : (x != Str.ofString "") = false) : (x != Str.ofString "") = bareT x := by
  have e : x = Str.ofString "" := by simpa using h
  subst e; rfl
theorem isS_of {c : Nat} {b : Bool} (h : (Builtin.Str.occurrences (Str.ofString "ABCDEFGHIJKLMNOPQRSTUVWXYZabcdefghijklmnopqrstuvwxyz0123456789_@%+=:,./-") ⟨#[c]⟩ 0 (Str.ofString "ABCDEFGHIJKLMNOPQRSTUVWXYZabcdefghijklmnopqrstuvwxyz0123456789_@%+=:,./-").length 1).isEmpty = b) : isS c = !b := by
  have := contains_one SAFE c
  unfold Txt.contains at this
  unfold isS
  rw [← this, ← h]; rfl
noncomputable def bad (l : List Nat) : List Str := (l.filter fun c => !isS c).map fun c => (⟨#[c]⟩ : Str)
theorem bad_in {x : Str} {i c : Nat} (hc : x.cps[i]? = some c) (h : isS c = false) : bad ((Mine.L x).take (i + 1)) = bad ((Mine.L x).take i) ++ [⟨#[c]⟩] := by
  unfold bad
  rw [List.take_add_one, show (Mine.L x)[i]? = some c by simpa [L] using hc, List.filter_append, List.map_append]
  simp [h]
theorem bad_out {x : Str} {i c : Nat} (hc : x.cps[i]? = some c) (h : isS c = true) : bad ((Mine.L x).take (i + 1)) = bad ((Mine.L x).take i) := by
  unfold bad
  rw [List.take_add_one, show (Mine.L x)[i]? = some c by simpa [L] using hc, List.filter_append, List.map_append]
  simp [h]
theorem bad_all {x : Str} : (Mine.L x).take x.cps.size = Mine.L x := List.take_of_length_le (by simp [L])
theorem bad_bare {x : Str} (h : (x != Str.ofString "") = true) : decide (bad (Mine.L x) = []) = bareT x := by
  have e : x.length ≠ 0 := by
    intro e
    have : x = Str.ofString "" := L_inj (by rw [show Mine.L (Str.ofString "") = [] from rfl]; exact List.length_eq_zero_iff.mp (by rw [L_length]; exact e))
    rw [this] at h
    simp at h
  unfold bareT bad
  rw [decide_eq_true e, Bool.true_and]
  generalize Mine.L x = l
  induction l with
  | nil => rfl
  | cons c l ih =>
    cases hc : isS c with
    | true => rw [List.filter_cons, hc]; simpa [hc] using ih
    | false => rw [List.filter_cons, hc]; simp [hc]
theorem bad_cps {x : Str} (h : Cps x) : ∀ y ∈ bad (Mine.L x), Cps y := by
  intro y hy
  obtain ⟨c, hc, rfl⟩ := List.mem_map.mp hy
  have := h c (List.mem_filter.mp hc).1
  intro d hd
  rw [show (⟨#[c]⟩ : Str).cps.toList = [c] from rfl, List.mem_singleton] at hd
  rw [hd]; exact this
theorem RowsIn.at {news : List (Addr × Obj)} : ∀ {vs : List Value} {rows : List (List Int)} {i : Nat} {r : List Int}, RowsIn news vs rows → rows[i]? = some r → ∃ a n cells, vs[i]? = some (.ref a) ∧ (a, listObj cells n) ∈ news ∧ IntsAre cells r
  | _, _, _, _, .nil, h => by simp at h
  | _, _, 0, _, .cons a n hm hi r, h => by
    obtain rfl := Option.some.inj (by simpa using h)
    exact ⟨a, n, _, rfl, hm, hi⟩
  | _, _, i + 1, _, .cons a n hm hi r, h => by
    obtain ⟨a', n', cells, h1, h2, h3⟩ := r.at (i := i) (by simpa using h)
    exact ⟨a', n', cells, by simpa using h1, h2, h3⟩
theorem app3 {prog : Program} {w : World} {A : Around} {E : Value → Shared → Prop} {s : Shared} {h₀ : Heap} {L : Addr} {m : Str → Option Value} {D : Addr} {vs : List Value} {k : Nat} {x : Value} {p₁ p₂ : Addr × Obj} {rest : List (Addr × Obj)} {Q : Value → Shared → Prop}
    (F : Fr h₀ L s.heap m) (N : News h₀ L s.heap (p₁ :: p₂ :: (D, listObj vs k) :: rest)) (h1 : p₁.1 ≠ D) (h2 : p₂.1 ≠ D) (hap : ∀ p ∈ rest, p.1 ≠ D) (hsz : vs.length ≤ 16777216)
    (h : ∀ h', Fr h₀ L h' m → News h₀ L h' (p₁ :: p₂ :: (D, listObj (vs ++ [x]) (k + 1)) :: rest) → (vs ++ [x]).length = vs.length + 1 → (vs ++ [x])[vs.length]? = some x → Q .none { s with heap := h' }) :
    wpAny (model prog w) A (call (.builtin "list.append") [.ref D, x]) Q E s :=
  append_head F (newsPick (want := [(D, listObj vs k), p₁, p₂]) [p₁, p₂, (D, listObj vs k)] [2, 0, 1] N rfl)
    (fun p hp => by
      rcases List.mem_cons.mp hp with rfl | hp
      · exact h1
      · rcases List.mem_cons.mp hp with rfl | hp
        · exact h2
        · exact hap p hp) (fun h' F' N' => h h' F' (newsPick (want := [p₁, p₂, (D, listObj (vs ++ [x]) (k + 1))]) [(D, listObj (vs ++ [x]) (k + 1)), p₁, p₂] [1, 2, 0] (by rw [List.push_toArray] at N'; exact N') rfl) (by simp) (by simp)) (by rw [List.size_toArray, sizeLine_eq]; exact hsz)
noncomputable def rowsTo (x : Str) (ks : List Int) (i : Nat) : List (List Int) := (List.range (i + 1)).map fun j => (rowAt x ks j).1
theorem rowsTo_succ {x : Str} {ks : List Int} {i : Nat} : rowsTo x ks (i + 1) = rowsTo x ks i ++ [(rowAt x ks (i + 1)).1] := by
  unfold rowsTo
  rw [List.range_succ, List.map_append]; rfl
theorem rowsTo_at {x : Str} {ks : List Int} {i : Nat} : (rowsTo x ks i)[i]? = some (rowAt x ks i).1 := by unfold rowsTo; simp
theorem rowsTo_len {x : Str} {ks : List Int} {i : Nat} : (rowsTo x ks i).length = i + 1 := by unfold rowsTo; simp
theorem rot3 {h₀ h : Heap} {L : Addr} {a b c : Addr × Obj} {r : List (Addr × Obj)} (N : News h₀ L h (a :: b :: c :: r)) : News h₀ L h (b :: c :: a :: r) := newsPick (want := [b, c, a]) [a, b, c] [1, 2, 0] N rfl
theorem RowsIn.drop1 {news : List (Addr × Obj)} {vs : List Value} {rows : List (List Int)} (h : RowsIn news vs rows) : RowsIn news (vs.drop 1) (rows.drop 1) := by
  cases h with
  | nil => exact .nil
  | cons a n hm hi r => exact r
theorem slice1 (l : List Value) : kms_pick l (some 1) none = l.drop 1 := by
  unfold kms_pick kms_lo kms_hi
  cases l with
  | nil => rfl
  | cons a l => simp
/-- what holds at each turn of _law_reckoned's loop -/
inductive ReckJ (x : Str) (ks : List Int) (old : List (Addr × Obj)) : Nat → (Str → Option Value) → List (Addr × Obj) → Prop
  | mk {i : Nat} {m : Str → Option Value} {lr : Addr} {n : Nat} {rvs : List Value} {led : List (Addr × Obj)} (h1 : m (Str.ofString "rows") = some (.ref lr)) (h2 : m (Str.ofString "bare") = some (.bool (rowAt x ks i).2)) (h3 : ∀ p ∈ led, p.1 ≠ lr) (hR : RowsIn led rvs (rowsTo x ks i)) (h4 : ∀ p ∈ old, p ∈ led) : ReckJ x ks old i m ((lr, listObj rvs n) :: led)
theorem sp_reck (w : World) (l : Addr) (k : Nat) (vs : List Value) (ks : List Int) (hi : IntsAre vs ks) (hl : ks.length ≤ 100) (hks : ∀ k ∈ ks, 0 ≤ k ∧ k ≤ 8) (x : Str) (tx : Tok) (hx : x.length ≤ 100000) (hsur : ∀ c ∈ L x, Str.isSurrogate c = false) (hcp : Cps x) {dp un : Nat} {gd : Option (List Code)} {cn : Str} {cs : Scope} {a : Addr} {ccd : Value} {cl : List (Str × Addr)} {outer : List Env} {A₀ : Around} {base h₀ : Heap} {L : Addr} {m mg mb : Str → Option Value} {mean : ExcName → Option Value} {news : List (Addr × Obj)} {s : Shared} {Q E : Value → Shared → Prop}
    (B : Below A₀ base outer h₀) (F : Fr h₀ L s.heap m) (X : (K w.params).In h₀) (N : News h₀ L s.heap news) (T : Top q (looseW q loose) mean mg mb h₀) (hk : cs.kind = .function) (hd : dp + 20 < recursionLimit) (hu : un + 100 < cLine)
    (hpre : (l, listObj vs k) ∈ news)
    (hret : ∀ lo n' us led h' tk', RowsIn led us ((rowsTo x ks ks.length).drop 1) → (∀ p ∈ news, p ∈ led) → Fr h₀ L h' m → News h₀ L h' ((lo, listObj us n') :: led) → Q (.ref lo) { s with heap := h', toks := tk' }) :
    wpAny (model PySem.Challenge.pw_kt0081_01 w) (ktrTop dp un gd cn cs L a ccd cl outer) (call (.ref 892) [.str x tx, .ref l]) Q E s := by
  refine wpAny_call ?_
  refine' fn_enterC (binds := [("letter", .str x tx), ("kinds", .ref l)]) ?k1 ?k2 ?k3 ?k4 ?k5 ?kA ?kF ?kK ?k6 ?ks ?k7 ?k8 ?k9 ?kB ?kD ?_ ?c2 ?c3 ?c4
  case kA => exact rfl
  case kF => exact rfl
  case kK => assumption
  case k1 => assumption
  case k2 => assumption
  case k3 => assumption
  case k4 => assumption
  case k5 => assumption
  case k6 => k_dflt k_is
  case ks => exact rfl
  case k7 => k_dflt k_is
  case k8 => exact Nat.lt_of_le_of_lt (Nat.le_add_right _ _) hd
  case k9 => exact BindsTo.of_eq rfl
  case kB => exact rfl
  case kD => decide +kernel
  case c2 => exact rfl
  case c3 => exact rfl
  case c4 => exact rfl
  intro g' L' h' tk' cells' FG' F' N' Y' B' X' T' l1
  try k_lt l1
  k_cells Y'
  try simp only [List.cons_append, List.nil_append] at N'
  try dsimp only
  try k_lift B'
  try k_fold
  show (let zV := _; let zA := _; wpAny _ zA (execs _ zV) _ _ _)
  intro zV zA
  generalize hm0 : bindL _ _ _ = m0 at F'
  have hm1 : m0 = fun y => if y = Str.ofString "kinds" then some (.ref l) else if y = Str.ofString "letter" then some (.str x tx) else none := by rw [← hm0]; rfl
  subst hm1
  clear hm0
  refine execs_mid2 (fun s' => ∃ h₂ tk₂ o₂ u, s' = { s with heap := h₂, toks := tk₂ } ∧ Fr g' L' h₂ (fun y => if y = Str.ofString "bare" then some (.bool (bareT x)) else if y = Str.ofString "kinds" then some (.ref l) else if y = Str.ofString "letter" then some (.str x tx) else none) ∧ News g' L' h₂ ((L' + 1, o₂) :: news) ∧ o₂.data = .cell (some (.str SAFE u))) ?first ?rest
  case first =>
    k_steps
    rotate_left
    · (with_reducible rename (x != _) = false => hb)
      (with_reducible rename Fr g' L' _ _ => zF)
      rw [bare_empty hb] at zF
      exact ⟨rfl, _, _, _, _, rfl, zF, by with_reducible assumption, by assumption⟩
    (with_reducible rename (x != _) = true => hb)
    try dsimp only
    refine' comp_quietH (src_str rfl _ _) ?hz ?F ?N ?hn (fun i ys => StrsAre ys (bad ((Mine.L x).take i))) ?hG ?turn ?fin
    case F => with_reducible assumption
    case N => with_reducible assumption
    case hn => exact fun p hp => nomatch hp
    case hz => show x.length ≤ _; lia
    case hG => exact .nil
    case turn =>
      intro i ys v I oI C oC D m₂ h tk E' WV WF hWV hWF hi hI hP hC hx F' N'
      obtain ⟨c, u, hc, rfl⟩ := hP
      k_steps
      all_goals (rename (Builtin.Str.occurrences _ _ _ _ _).isEmpty = _ => hb1; have hb2 := isS_of hb1)
      · first | refine hWV _ _ _ (by with_reducible assumption) (by with_reducible assumption) ?_ | refine hWF _ _ (by with_reducible assumption) (by with_reducible assumption) ?_
        rw [bad_in hc hb2]; exact strs_snoc hI
      · first | refine hWV _ _ _ (by with_reducible assumption) (by with_reducible assumption) ?_ | refine hWF _ _ (by with_reducible assumption) (by with_reducible assumption) ?_
        rw [bad_out hc hb2]; exact hI
    case fin =>
      intro D h tk ys F' N' o1 hI
      k_steps
      (with_reducible rename News g' L' _ _ => zN)
      rw [bad_all] at hI
      refine eq_strs zN (List.mem_cons_of_mem _ List.mem_cons_self) List.mem_cons_self hI .nil (bad_cps hcp) (fun y hy => nomatch hy) (room_u hu (by decide)) ?_
      rw [bad_bare hb]
      k_steps
      (with_reducible rename News g' L' _ _ => zM)
      exact ⟨rfl, _, _, _, _, rfl, by with_reducible assumption, newsSub zM (fun p hp => List.mem_cons_of_mem _ (List.mem_cons_of_mem _ hp)), by assumption⟩
  case rest =>
    rintro s' ⟨h₂, tk₂, o₂, u, rfl, F₂, N₂, ho₂⟩
    clear F' N'
    (k_steps; repeat' (((with_reducible show wpAny _ _ (call (Value.ref 880) _) _ _ _); k_dflt (refine' SpecL.go (sp_law_counted _ _ _ (by assumption) (by assumption)) ?_); intro l' n' vs' h' tk' hR' F' N' l1; (try k_lt l1);  (try dsimp only); (try k_sweep)); all_goals (try k_steps)))
    (with_reducible rename Fr _ _ _ _ => zF); (with_reducible rename News _ _ _ _ => zN)
    refine' for_srcH (src_list rfl zN (List.mem_cons_of_mem _ (List.mem_cons_of_mem _ (List.mem_cons_of_mem _ hpre)))) zF zN ?hn (ReckJ x ks ((L' + 1, o₂) :: news)) ?hj ?turn ?done
    case hn => exact fun p hp => by rw [List.mem_singleton.mp hp]; exact List.mem_cons_of_mem _ (List.mem_cons_of_mem _ (List.mem_cons_of_mem _ hpre))
    case hj =>
      (rename _ ∧ _ ∧ AllLt _ news => zL)
      (rename IntsAre _ (cnt x) => zI)
      exact .mk (by ((repeat ((with_reducible refine lkN ?_ ?_); (focus (simp only [String.reduceNe]; done)))); (first | with_reducible exact lkY | with_reducible assumption | (simp only [upd, noFr, ↓lookA, ↓reduceIte, ofString_eq, String.reduceEq]; first | rfl | with_reducible assumption) | rfl))) (by ((repeat ((with_reducible refine lkN ?_ ?_); (focus (simp only [String.reduceNe]; done)))); (first | with_reducible exact lkY | with_reducible assumption | (simp only [upd, noFr, ↓lookA, ↓reduceIte, ofString_eq, String.reduceEq]; first | rfl | with_reducible assumption) | rfl))) (fun p hp => (List.mem_cons.mp hp).elim (fun e => e ▸ Nat.ne_of_lt zL.1) fun hp => (List.mem_cons.mp hp).elim (fun e => e ▸ Nat.ne_of_lt zL.2.1) fun hp => Nat.ne_of_lt (kst_ltOf zL.2.2 p hp)) (.cons _ _ List.mem_cons_self zI .nil) (fun p hp => List.mem_cons_of_mem _ hp)
    case turn =>
      clear zF zN
      intro i v m₁ nw h tk I oI WQ hWQ hlt hP hJ F' N' off hnd
      obtain ⟨hm1, hm2, hne, hR, hsub⟩ := hJ
      rename_i lr n' rvs led
      obtain ⟨k, t, rfl, hn⟩ := hi.at _ _ (by simpa using hP)
      obtain ⟨ra, rn, cells, hra, hrm, hri⟩ := hR.at rowsTo_at
      have hrl : rvs.length = i + 1 := by rw [hR.length, rowsTo_len]
      have hki := hks k (List.mem_of_getElem? hn)
      have hk0 := hki.1
      have hk8 := hki.2
      have hr10 := rowAt_len x ks i
      have hl10 := nextL_len k (rowAt x ks i).2 (rowAt x ks i).1
      have hi2 : i < ks.length := (List.getElem?_eq_some_iff.mp hn).1
      have oI1 : @Ne Nat lr I := off _ List.mem_cons_self
      (k_steps; repeat' (first | (((with_reducible refine hold_in ?_); (with_unfolding_all refine' kde_neg ?k1 ?k2 ?k3 ?k4 ?k5 ?_ ?k6; (case k2 => decide); (case k3 => decide); (case k1 => is_list); (case k4 => exact seq_last (by with_reducible assumption)); (case k5 => with_reducible assumption); (case k6 => with_unfolding_all rfl); k_whole)); all_goals (try k_steps)) | (((with_reducible show wpAny _ _ (call (Value.ref 887) _) _ _ _); k_dflt (refine' SpecL.go (sp_law_next _ _ _ _ (by lia) _ _ _ _ (by with_reducible assumption) (by assumption)) ?_); intro l' n' vs' h' tk' hR' F' N' l1; (try k_lt l1);  (try dsimp only); (try k_sweep)); all_goals (try k_steps))))
      (rename _ ∧ _ ∧ AllLt _ led => zL)
      refine app3 (by with_reducible assumption) (by with_reducible assumption) (Nat.ne_of_gt zL.2.1) (Ne.symm oI1) hne (by rw [hrl]; lia) ?_
      intro h'' F'' N'' hvl2 hv2
      (k_steps; repeat' (((with_reducible refine hold_in ?_); (with_unfolding_all refine' kde_neg ?k1 ?k2 ?k3 ?k4 ?k5 ?_ ?k6; (case k2 => decide); (case k3 => decide); (case k1 => is_list); (case k4 => exact seq_last (by with_reducible assumption)); (case k5 => with_reducible assumption); (case k6 => with_unfolding_all rfl); k_whole)); all_goals (try k_steps)))
      all_goals (
        (with_reducible rename Fr g' L' _ _ => zF)
        (with_reducible rename News g' L' _ _ => zN)
        (rename IntsAre _ (nextL _ _ _) => zI)
        have hkd : ks.getD i 0 = k := by rw [List.getD_eq_getElem?_getD, hn]; rfl
        have hrow1 : (rowAt x ks (i + 1)).1 = nextL k (rowAt x ks i).2 (rowAt x ks i).1 := by show nextL (ks.getD i 0) _ _ = _; rw [hkd]
        have hrow2 : (rowAt x ks (i + 1)).2 = (decide (5 < k) && decide (0 < (nextL k (rowAt x ks i).2 (rowAt x ks i).1).getD 0 0)) := by show (decide (ks.getD i 0 > 5) && decide ((nextL (ks.getD i 0) _ _).getD 0 0 > 0)) = _; rw [hkd]
        first
          | (rename 5 < k => h5
             have e2 : decide (0 < (nextL k (rowAt x ks i).2 (rowAt x ks i).1).getD (Int.toNat 0) 0) = (rowAt x ks (i + 1)).2 := by rw [hrow2, decide_eq_true h5]; rfl
             rw [e2] at zF)
          | (rename ¬ 5 < k => h5
             have e2 : decide (5 < k) = (rowAt x ks (i + 1)).2 := by rw [hrow2, decide_eq_false h5]; rfl
             rw [e2] at zF)
        refine' hWQ _ _ _ _ zF (rot3 zN) ?zo ?zd (.mk (by ((repeat ((with_reducible refine lkN ?_ ?_); (focus (simp only [String.reduceNe]; done)))); (first | with_reducible exact lkY | with_reducible assumption | (simp only [upd, noFr, ↓lookA, ↓reduceIte, ofString_eq, String.reduceEq]; first | rfl | with_reducible assumption) | rfl))) (by ((repeat ((with_reducible refine lkN ?_ ?_); (focus (simp only [String.reduceNe]; done)))); (first | with_reducible exact lkY | with_reducible assumption | (simp only [upd, noFr, ↓lookA, ↓reduceIte, ofString_eq, String.reduceEq]; first | rfl | with_reducible assumption) | rfl))) ?zn (by rw [rowsTo_succ]; exact (hR.mono (fun p hp => List.mem_cons_of_mem _ hp)).append (.cons _ _ List.mem_cons_self (hrow1 ▸ zI) .nil)) (fun p hp => List.mem_cons_of_mem _ (hsub p hp)))
        case zd => exact fun p hp => by rw [List.mem_singleton.mp hp]; exact List.mem_cons_of_mem _ (List.mem_cons_of_mem _ (hsub _ (List.mem_cons_of_mem _ hpre)))
        case zn =>
          intro p hp
          rcases List.mem_cons.mp hp with rfl | hp
          · exact Nat.ne_of_gt zL.2.1
          · exact hne p hp
        case zo =>
          intro p hp
          rcases List.mem_cons.mp hp with rfl | hp
          · exact oI1
          · rcases List.mem_cons.mp hp with rfl | hp
            · exact Nat.ne_of_gt zL.1
            · exact off p (List.mem_cons_of_mem _ hp))
    case done =>
      clear zF zN
      intro m₁ nw h tk hJ F' N'
      obtain ⟨hm1, hm2, hne, hR, hsub⟩ := hJ
      rename_i lr n' rvs led
      k_steps
      (with_reducible rename Fr g' L' _ _ => zF)
      (with_reducible rename News g' L' _ _ => zN)
      have hrl := hR.length
      rw [rowsTo_len, List.size_toArray, hi.length] at hrl
      refine' kms_slice_lit (s := ⟨_, _, _, _, _⟩) zF zN (News.isList zN List.mem_cons_self) ?zp ?zq (slice1 _) ?_ ?zs ?zt ?zz
      case zp => kmk_part
      case zq => kmk_part
      case zs => with_unfolding_all rfl
      case zt => kmk_pure
      case zz => rw [List.size_toArray, hrl, sizeLine_eq]; lia
      intro D h' F' N' l1
      k_steps
      (with_reducible rename Fr h₀ L _ _ => zF)
      (with_reducible rename News h₀ L _ _ => zN)
      rw [List.size_toArray, hi.length] at hR
      exact hret _ _ _ _ _ _ ((hR.mono (fun p hp => List.mem_cons_of_mem _ hp)).drop1) (fun p hp => List.mem_cons_of_mem _ (hsub p (List.mem_cons_of_mem _ hp))) zF zN
end
section
open PySem PySem.W
example {M : Model} {A : Around} {v : Value} {Q : Bool → Shared → Prop} {E : Value → Shared → Prop} {s : Shared} (h : wpAny M A (truthy v) Q E s) : wpAny M A (truthy v) Q E s := by first | (walk1; fail) | exact h
end
section
open PySem PySem.W PySem.Spec PySem.Calls PyProof.Rows
set_option maxHeartbeats 4000000
theorem sp_gives_6 (w : World) (pr x y : Str) (tk tp tx ty : Tok) (hx : x.length ≤ 100000) (hsur : ∀ c ∈ L x, Str.isSurrogate c = false) (h8 : (u8 x).size ≤ 20000) (hy : y.length ≤ 600009) (hfin : y = Txt.join (Str.ofString "") (figs 6 (Str.ofString "ABCDEFGHIJKLMNOPQRSTUVWXYZabcdefghijklmnopqrstuvwxyz0123456789" ++ Str.ofString "+/") (u8 x)) ++ Txt.mul (Str.ofString "=") ((-((u8 x).size : Int)).fmod 3)) : SpecV w 904 150 60 [.int 6 tk, .str pr tp, .str x tx, .str y ty] (fun t => .bool true) := by
  refine' enterP (binds := [("kind", .int 6 tk), ("pair", .str pr tp), ("inner", .str x tx), ("outer", .str y ty)]) ?k6 ?ks ?k7 ?k9 ?kB ?c2 ?c3 ?c4 ?c5 ?_
  case k6 => k_dflt k_is
  case ks => exact rfl
  case k7 => k_dflt k_is
  case k9 => intro s X; exact BindsTo.of_eq rfl
  case c5 => decide
  case kB => exact locs rfl
  case c2 => exact rfl
  case c3 => exact rfl
  case c4 => exact rfl
  intro dp un gd cn cs a ccd cl outer base g' L L' mg mb mean news gens drawn os h' tk' WQ WE B' F' X' N' T' hd hu hpre hret htk' hPO
  simp only [List.reverse_cons, List.reverse_nil, List.nil_append, List.cons_append, lookF, lookE] at F'
  show (let zV := _; let zA := _; wpAny _ zA (execs _ zV) _ _ _)
  intro zV zA
  have hal : (Str.ofString "ABCDEFGHIJKLMNOPQRSTUVWXYZabcdefghijklmnopqrstuvwxyz0123456789" ++ Str.ofString "+/").length = 2 ^ 6 := by rw [len_app, len_lit, len_lit]; rfl
  have hjl : (Txt.join (Str.ofString "") (figs 6 (Str.ofString "ABCDEFGHIJKLMNOPQRSTUVWXYZabcdefghijklmnopqrstuvwxyz0123456789" ++ Str.ofString "+/") (u8 x))).length ≤ 40000 := by rw [← L_length, L_figs, List.length_map, List.length_range]; lia
  have hf3 : 0 ≤ (-((u8 x).size : Int)).fmod 3 ∧ (-((u8 x).size : Int)).fmod 3 < 3 := by rw [Int.fmod_eq_emod_of_nonneg _ (by decide)]; lia
  (k_steps; repeat' (first | (((refine' call_encode8 (by assumption) (by refine Nat.le_trans (u8_size _) ?_; omega) ?_)); (all_goals (try k_steps))) | (((with_reducible show wpAny _ _ (call (Value.ref 897) [_, Value.int 6 _, _]) _ _ _); k_dflt (refine' SpecP.go (sp_law_figures6 _ _ _ _ _ _ (by assumption) (by assumption)) ?_); intro t' h' tk' F' N'; (try dsimp only); (try k_sweep)); all_goals (try k_steps))))
  rw [← hfin, beq_self_eq_true]
  refine hret 0 _ _ (by with_reducible assumption) ?_
  first | with_reducible assumption | (with_reducible rename News g' L' _ _ => zN; exact newsSub zN (fun p hp => by repeat (first | exact hp | apply List.mem_cons_of_mem)))
theorem sp_gives_7 (w : World) (pr x y : Str) (tk tp tx ty : Tok) (hx : x.length ≤ 100000) (hsur : ∀ c ∈ L x, Str.isSurrogate c = false) (h8 : (u8 x).size ≤ 20000) (hy : y.length ≤ 600009) (hpl : pr.length = 2) (hfin : y = Txt.join (Str.ofString "") (figs 6 (Str.ofString "ABCDEFGHIJKLMNOPQRSTUVWXYZabcdefghijklmnopqrstuvwxyz0123456789" ++ pr) (u8 x)) ++ Txt.mul (Str.ofString "=") ((-((u8 x).size : Int)).fmod 3)) : SpecV w 904 150 60 [.int 7 tk, .str pr tp, .str x tx, .str y ty] (fun t => .bool true) := by
  refine' enterP (binds := [("kind", .int 7 tk), ("pair", .str pr tp), ("inner", .str x tx), ("outer", .str y ty)]) ?k6 ?ks ?k7 ?k9 ?kB ?c2 ?c3 ?c4 ?c5 ?_
  case k6 => k_dflt k_is
  case ks => exact rfl
  case k7 => k_dflt k_is
  case k9 => intro s X; exact BindsTo.of_eq rfl
  case c5 => decide
  case kB => exact locs rfl
  case c2 => exact rfl
  case c3 => exact rfl
  case c4 => exact rfl
  intro dp un gd cn cs a ccd cl outer base g' L L' mg mb mean news gens drawn os h' tk' WQ WE B' F' X' N' T' hd hu hpre hret htk' hPO
  simp only [List.reverse_cons, List.reverse_nil, List.nil_append, List.cons_append, lookF, lookE] at F'
  show (let zV := _; let zA := _; wpAny _ zA (execs _ zV) _ _ _)
  intro zV zA
  have hal : (Str.ofString "ABCDEFGHIJKLMNOPQRSTUVWXYZabcdefghijklmnopqrstuvwxyz0123456789" ++ pr).length = 2 ^ 6 := by rw [len_app, len_lit, hpl]; rfl
  have hjl : (Txt.join (Str.ofString "") (figs 6 (Str.ofString "ABCDEFGHIJKLMNOPQRSTUVWXYZabcdefghijklmnopqrstuvwxyz0123456789" ++ pr) (u8 x))).length ≤ 40000 := by rw [← L_length, L_figs, List.length_map, List.length_range]; lia
  have hf3 : 0 ≤ (-((u8 x).size : Int)).fmod 3 ∧ (-((u8 x).size : Int)).fmod 3 < 3 := by rw [Int.fmod_eq_emod_of_nonneg _ (by decide)]; lia
  (k_steps; repeat' (first | (((refine' call_encode8 (by assumption) (by refine Nat.le_trans (u8_size _) ?_; omega) ?_)); (all_goals (try k_steps))) | (((with_reducible show wpAny _ _ (call (Value.ref 897) [_, Value.int 6 _, _]) _ _ _); k_dflt (refine' SpecP.go (sp_law_figures6 _ _ _ _ _ _ (by assumption) (by assumption)) ?_); intro t' h' tk' F' N'; (try dsimp only); (try k_sweep)); all_goals (try k_steps))))
  rw [← hfin, beq_self_eq_true]
  refine hret 0 _ _ (by with_reducible assumption) ?_
  first | with_reducible assumption | (with_reducible rename News g' L' _ _ => zN; exact newsSub zN (fun p hp => by repeat (first | exact hp | apply List.mem_cons_of_mem)))
theorem sp_gives_8 (w : World) (pr x y : Str) (tk tp tx ty : Tok) (hx : x.length ≤ 100000) (hsur : ∀ c ∈ L x, Str.isSurrogate c = false) (h8 : (u8 x).size ≤ 20000) (hy : y.length ≤ 600009) (hfin : y = Txt.join (Str.ofString "") (figs 4 (Str.ofString "0123456789ABCDEF") (u8 x))) : SpecV w 904 150 60 [.int 8 tk, .str pr tp, .str x tx, .str y ty] (fun t => .bool true) := by
  refine' enterP (binds := [("kind", .int 8 tk), ("pair", .str pr tp), ("inner", .str x tx), ("outer", .str y ty)]) ?k6 ?ks ?k7 ?k9 ?kB ?c2 ?c3 ?c4 ?c5 ?_
  case k6 => k_dflt k_is
  case ks => exact rfl
  case k7 => k_dflt k_is
  case k9 => intro s X; exact BindsTo.of_eq rfl
  case c5 => decide
  case kB => exact locs rfl
  case c2 => exact rfl
  case c3 => exact rfl
  case c4 => exact rfl
  intro dp un gd cn cs a ccd cl outer base g' L L' mg mb mean news gens drawn os h' tk' WQ WE B' F' X' N' T' hd hu hpre hret htk' hPO
  simp only [List.reverse_cons, List.reverse_nil, List.nil_append, List.cons_append, lookF, lookE] at F'
  show (let zV := _; let zA := _; wpAny _ zA (execs _ zV) _ _ _)
  intro zV zA
  (k_steps; repeat' (first | (((refine' call_encode8 (by assumption) (by refine Nat.le_trans (u8_size _) ?_; omega) ?_)); (all_goals (try k_steps))) | (((with_reducible show wpAny _ _ (call (Value.ref 897) [_, Value.int 4 _, _]) _ _ _); k_dflt (refine' SpecP.go (sp_law_figures4 _ _ _ _ _ _ (by assumption) (by decide +kernel)) ?_); intro t' h' tk' F' N'; (try dsimp only); (try k_sweep)); all_goals (try k_steps))))
  rw [← hfin, beq_self_eq_true]
  refine hret 0 _ _ (by with_reducible assumption) ?_
  first | with_reducible assumption | (with_reducible rename News g' L' _ _ => zN; exact newsSub zN (fun p hp => by repeat (first | exact hp | apply List.mem_cons_of_mem)))
end
section
open PySem PySem.W
example {M : Model} {A : Around} {v : Value} {Q : Bool → Shared → Prop} {E : Value → Shared → Prop} {s : Shared} (h : wpAny M A (truthy v) Q E s) : wpAny M A (truthy v) Q E s := by first | (walk1; fail) | exact h
end
section
open PySem PySem.W PySem.Spec PySem.Calls PyProof.Rows
set_option maxHeartbeats 4000000
local macro_rules | `(tactic| walk_at "binaryOp Add str str") => `(tactic| refine of_hold ?_)
local macro_rules | `(tactic| walk_at "compareOp Eq ref ref") => `(tactic| refine of_hold ?_)
theorem tokS_strs : ∀ {vs : List Value} {xs : List Str}, TokS vs xs → StrsAre vs xs
  | _, _, .nil => .nil
  | _, _, .cons x t h => .cons x t (tokS_strs h)
local macro_rules | `(tactic| walk_at "callWith ref") => `(tactic| (k_dflt (refine' callWith_KW ?k1 ?k2 ?k3 ?_; (case k1 => k_asm); (case k2 => k_is); (case k3 => exact rfl); k_whole)))
theorem sp_gives_0tA (w : World) (pr x y : Str) (tk tp tx ty : Tok) (hx : x.length ≤ 90000) (hy : y.length ≤ 90000) (hfm : ((x.length : Int)).fmod 2 = 1) (hln : (y.length : Int) = (x.length : Int) + 2) (heq : y = Str.ofString "d " ++ x) (hr : Runs true .S (Mine.L (y ++ Str.ofString " #b\nc#e")) [Str.ofString "d", x, Str.ofString "c"]) (hcp : Cps x) {dp un : Nat} {gd : Option (List Code)} {cn : Str} {cs : Scope} {a : Addr} {ccd : Value} {cl : List (Str × Addr)} {outer : List Env} {A₀ : Around} {base h₀ : Heap} {L : Addr} {m mg mb : Str → Option Value} {mean : ExcName → Option Value} {news : List (Addr × Obj)} {s : Shared} {Q E : Value → Shared → Prop}
    (G : Grd w mean mg mb A₀ base outer h₀) (F : Fr h₀ L s.heap m) (N : News h₀ L s.heap news) (hk : cs.kind = .function) (hd : dp + 150 < recursionLimit) (hu : un + 400 < cLine)
    (hret : ∀ h₀' h' tk', Grd w mean mg mb A₀ base outer h₀' → KtsTurn (outer.filterMap (·.frame)) h₀ h₀' → Fr h₀' L h' m → News h₀' L h' news → Q (.bool true) { s with heap := h', toks := tk' }) : wpAny (model PySem.Challenge.pw_kt0081_01 w) (ktrTop dp un gd cn cs L a ccd cl outer) (call (.ref 904) [.int 0 tk, .str pr tp, .str x tx, .str y ty]) Q E s := by
  refine wpAny_call ?_
  refine' fn_enterT (binds := [("kind", .int 0 tk), ("pair", .str pr tp), ("inner", .str x tx), ("outer", .str y ty)]) ?k1 ?k2 ?k3 ?kA ?kF ?kK ?k6 ?ks ?k7 ?k8 ?k9 ?kB ?_ ?c2 ?c3 ?c4 ?c5
  case kA => exact rfl
  case kF => exact rfl
  case kK => assumption
  case k1 => assumption
  case k2 => assumption
  case k3 => assumption
  case k6 => k_dflt k_is
  case ks => exact rfl
  case k7 => k_dflt k_is
  case k8 => exact Nat.lt_of_le_of_lt (Nat.le_add_right _ _) hd
  case k9 => exact BindsTo.of_eq rfl
  case c5 => decide
  case kB => exact locs rfl
  case c2 => exact rfl
  case c3 => exact rfl
  case c4 => exact rfl
  intro g' L' h' FG' F' N' B' X' T' D' l1
  try k_lt l1
  simp only [List.reverse_cons, List.reverse_nil, List.nil_append, List.cons_append, lookF, lookE] at F'
  try dsimp only
  try k_lift B'
  try k_fold
  show (let zV := _; let zA := _; wpAny _ zA (execs _ zV) _ _ _)
  intro zV zA
  have hcpt : ∀ y ∈ [Str.ofString "d", x, Str.ofString "c"], Cps y := by
    intro y hy
    simp only [List.mem_cons, List.not_mem_nil, or_false] at hy
    (repeat' (rcases hy with hy | hy)) <;> first | exact hcp | (unfold Cps; decide +kernel)
  (k_steps; repeat' (((with_reducible refine hold_in ?_); ((with_reducible refine' addStr ?zsz ?_); (case zsz => (try simp only [len_app]); first | omega | (simp only [len_lit, String.reduceToList, List.length_cons, List.length_nil]; omega)); intro tt' tk'; (try dsimp only))); (all_goals (try k_steps))))
  all_goals try first
    | (exact absurd hfm (by with_reducible assumption))
    | (exact absurd (show ((x.length : Int)).fmod 2 = 1 by with_reducible assumption) (by rw [hfm]; decide))
    | (exact absurd hln (by with_reducible assumption))
    | (exact absurd (by with_reducible assumption) hln)
  have e1 : ((x.length : Int).fmod 2 == 1) = true := by rw [hfm]; rfl
  rw [e1]
  (with_reducible rename Fr g' L' _ _ => zF)
  (with_reducible rename News g' L' _ _ => zN)
  refine sp_split_true w _ _ [Str.ofString "d", x, Str.ofString "c"] ?zx hr (by simp) ⟨B', X', T', D', G.XB, G.TB⟩ zF zN rfl (by show dp + 1 + 40 < recursionLimit; omega) (by show un + 3 + 300 < cLine; omega) ?zr
  case zx => rw [len_app, len_lit]; (simp only [String.reduceToList, List.length_cons, List.length_nil]); omega
  case zr =>
    intro S h₂ h3 tk3 c3 vs3 hT3 G3 T3 F3 N3 l3
    obtain ⟨B3, X3, T4, D3, -, -⟩ := G3
    clear zF zN B' X' T' D' FG' N F hr
    have hS3 := tokS_strs hT3
    (k_steps; repeat' (first | (((with_reducible refine hold_in ?_); ((with_reducible refine' addStr ?zsz ?_); (case zsz => (try simp only [len_app]); first | omega | (simp only [len_lit, String.reduceToList, List.length_cons, List.length_nil]; omega)); intro tt' tk'; (try dsimp only))); (all_goals (try k_steps))) | (((with_reducible refine hold_in ?_); (k_dflt (refine' eq_strs (by with_reducible assumption) (by first | exact List.mem_cons_self | exact List.mem_cons_of_mem _ List.mem_cons_self | exact List.mem_cons_of_mem _ (List.mem_cons_of_mem _ List.mem_cons_self) | exact List.mem_cons_of_mem _ (List.mem_cons_of_mem _ (List.mem_cons_of_mem _ List.mem_cons_self))) (by exact List.mem_cons_self) (by with_reducible assumption) (by first | exact .cons _ _ (.cons _ _ (.cons _ _ .nil)) | exact .cons _ _ (.cons _ _ (.cons _ _ (.cons _ _ .nil)))) (by with_reducible assumption) (by with_reducible assumption) (by exact room_u (by assumption) (by decide)) ?_))); (all_goals (try k_steps)))))
    all_goals try first
      | (rename (_ == _) = false => hq; exact absurd (by rw [heq, beq_self_eq_true] : (y == _) = true) (by rw [hq]; exact Bool.false_ne_true))
    (with_reducible rename Fr h₂ L' _ _ => zF)
    (with_reducible rename News h₂ L' _ _ => zN)
    refine leaveT_ zF zN T3 fun h₀'' G'' T'' F'' N'' => ?_
    rw [decide_eq_true rfl]
    exact hret h₀'' _ _ G'' T'' F'' (newsSub N'' (fun p hp => by repeat (first | exact hp | apply List.mem_cons_of_mem)))
theorem sp_gives_0tB (w : World) (pr x y : Str) (tk tp tx ty : Tok) (hx : x.length ≤ 90000) (hy : y.length ≤ 90000) (hfm : ((x.length : Int)).fmod 2 = 1) (hln : ¬ ((y.length : Int) = (x.length : Int) + 2)) (heq : y = Str.ofString "d " ++ (Str.ofString "'" ++ Esc QT x ++ Str.ofString "'")) (hr : Runs true .S (Mine.L (y ++ Str.ofString " #b\nc#e")) [Str.ofString "d", x, Str.ofString "c"]) (hcp : Cps x) {dp un : Nat} {gd : Option (List Code)} {cn : Str} {cs : Scope} {a : Addr} {ccd : Value} {cl : List (Str × Addr)} {outer : List Env} {A₀ : Around} {base h₀ : Heap} {L : Addr} {m mg mb : Str → Option Value} {mean : ExcName → Option Value} {news : List (Addr × Obj)} {s : Shared} {Q E : Value → Shared → Prop}
    (G : Grd w mean mg mb A₀ base outer h₀) (F : Fr h₀ L s.heap m) (N : News h₀ L s.heap news) (hk : cs.kind = .function) (hd : dp + 150 < recursionLimit) (hu : un + 400 < cLine)
    (hret : ∀ h₀' h' tk', Grd w mean mg mb A₀ base outer h₀' → KtsTurn (outer.filterMap (·.frame)) h₀ h₀' → Fr h₀' L h' m → News h₀' L h' news → Q (.bool true) { s with heap := h', toks := tk' }) : wpAny (model PySem.Challenge.pw_kt0081_01 w) (ktrTop dp un gd cn cs L a ccd cl outer) (call (.ref 904) [.int 0 tk, .str pr tp, .str x tx, .str y ty]) Q E s := by
  refine wpAny_call ?_
  refine' fn_enterT (binds := [("kind", .int 0 tk), ("pair", .str pr tp), ("inner", .str x tx), ("outer", .str y ty)]) ?k1 ?k2 ?k3 ?kA ?kF ?kK ?k6 ?ks ?k7 ?k8 ?k9 ?kB ?_ ?c2 ?c3 ?c4 ?c5
  case kA => exact rfl
  case kF => exact rfl
  case kK => assumption
  case k1 => assumption
  case k2 => assumption
  case k3 => assumption
  case k6 => k_dflt k_is
  case ks => exact rfl
  case k7 => k_dflt k_is
  case k8 => exact Nat.lt_of_le_of_lt (Nat.le_add_right _ _) hd
  case k9 => exact BindsTo.of_eq rfl
  case c5 => decide
  case kB => exact locs rfl
  case c2 => exact rfl
  case c3 => exact rfl
  case c4 => exact rfl
  intro g' L' h' FG' F' N' B' X' T' D' l1
  try k_lt l1
  simp only [List.reverse_cons, List.reverse_nil, List.nil_append, List.cons_append, lookF, lookE] at F'
  try dsimp only
  try k_lift B'
  try k_fold
  show (let zV := _; let zA := _; wpAny _ zA (execs _ zV) _ _ _)
  intro zV zA
  have hcpt : ∀ y ∈ [Str.ofString "d", x, Str.ofString "c"], Cps y := by
    intro y hy
    simp only [List.mem_cons, List.not_mem_nil, or_false] at hy
    (repeat' (rcases hy with hy | hy)) <;> first | exact hcp | (unfold Cps; decide +kernel)
  (k_steps; repeat' (((with_reducible refine hold_in ?_); ((with_reducible refine' addStr ?zsz ?_); (case zsz => (try simp only [len_app]); first | omega | (simp only [len_lit, String.reduceToList, List.length_cons, List.length_nil]; omega)); intro tt' tk'; (try dsimp only))); (all_goals (try k_steps))))
  all_goals try first
    | (exact absurd hfm (by with_reducible assumption))
    | (exact absurd (show ((x.length : Int)).fmod 2 = 1 by with_reducible assumption) (by rw [hfm]; decide))
    | (exact absurd hln (by with_reducible assumption))
    | (exact absurd (by with_reducible assumption) hln)
  refine join_listW (by with_reducible assumption) (by with_reducible assumption) (by decide +kernel) ?zj ?_
  case zj => (rename List.map _ _ = Txt.split _ _ => hsp); rw [hsp]; have := split_sum x; omega
  intro tj kj
  (rename List.map _ _ = Txt.split _ _ => hsp)
  rw [hsp, join_QT]
  have hjl := Esc_len QT x 5 (by decide) (by decide +kernel)
  (try dsimp only)
  (k_steps; repeat' (((with_reducible refine hold_in ?_); ((with_reducible refine' addStr ?zsz ?_); (case zsz => (try simp only [len_app]); first | omega | (simp only [len_lit, String.reduceToList, List.length_cons, List.length_nil]; omega)); intro tt' tk'; (try dsimp only))); (all_goals (try k_steps))))
  all_goals try first
    | (exact absurd hfm (by with_reducible assumption))
    | (exact absurd (show ((x.length : Int)).fmod 2 = 1 by with_reducible assumption) (by rw [hfm]; decide))
    | (exact absurd hln (by with_reducible assumption))
    | (exact absurd (by with_reducible assumption) hln)
  have e1 : ((x.length : Int).fmod 2 == 1) = true := by rw [hfm]; rfl
  rw [e1]
  (with_reducible rename Fr g' L' _ _ => zF)
  (with_reducible rename News g' L' _ _ => zN)
  refine sp_split_true w _ _ [Str.ofString "d", x, Str.ofString "c"] ?zx hr (by simp) ⟨B', X', T', D', G.XB, G.TB⟩ zF zN rfl (by show dp + 1 + 40 < recursionLimit; omega) (by show un + 3 + 300 < cLine; omega) ?zr
  case zx => rw [len_app, len_lit]; (simp only [String.reduceToList, List.length_cons, List.length_nil]); omega
  case zr =>
    intro S h₂ h3 tk3 c3 vs3 hT3 G3 T3 F3 N3 l3
    obtain ⟨B3, X3, T4, D3, -, -⟩ := G3
    clear zF zN B' X' T' D' FG' N F hr
    have hS3 := tokS_strs hT3
    (k_steps; repeat' (first | (((with_reducible refine hold_in ?_); ((with_reducible refine' addStr ?zsz ?_); (case zsz => (try simp only [len_app]); first | omega | (simp only [len_lit, String.reduceToList, List.length_cons, List.length_nil]; omega)); intro tt' tk'; (try dsimp only))); (all_goals (try k_steps))) | (((with_reducible refine hold_in ?_); (k_dflt (refine' eq_strs (by with_reducible assumption) (by first | exact List.mem_cons_self | exact List.mem_cons_of_mem _ List.mem_cons_self | exact List.mem_cons_of_mem _ (List.mem_cons_of_mem _ List.mem_cons_self) | exact List.mem_cons_of_mem _ (List.mem_cons_of_mem _ (List.mem_cons_of_mem _ List.mem_cons_self))) (by exact List.mem_cons_self) (by with_reducible assumption) (by first | exact .cons _ _ (.cons _ _ (.cons _ _ .nil)) | exact .cons _ _ (.cons _ _ (.cons _ _ (.cons _ _ .nil)))) (by with_reducible assumption) (by with_reducible assumption) (by exact room_u (by assumption) (by decide)) ?_))); (all_goals (try k_steps)))))
    all_goals try first
      | (rename (_ == _) = false => hq; exact absurd (by rw [heq, beq_self_eq_true] : (y == _) = true) (by rw [hq]; exact Bool.false_ne_true))
    (with_reducible rename Fr h₂ L' _ _ => zF)
    (with_reducible rename News h₂ L' _ _ => zN)
    refine leaveT_ zF zN T3 fun h₀'' G'' T'' F'' N'' => ?_
    rw [decide_eq_true rfl]
    exact hret h₀'' _ _ G'' T'' F'' (newsSub N'' (fun p hp => by repeat (first | exact hp | apply List.mem_cons_of_mem)))
theorem sp_gives_0fA (w : World) (pr x y : Str) (tk tp tx ty : Tok) (hx : x.length ≤ 90000) (hy : y.length ≤ 90000) (hfm : ((x.length : Int)).fmod 2 = 0) (hln : (y.length : Int) = (x.length : Int) + 2) (heq : y = Str.ofString "d " ++ x) (hr : Runs false .S (Mine.L (y ++ Str.ofString " #b\nc#e")) [Str.ofString "d", x, Str.ofString "#b", Str.ofString "c#e"]) (hcp : Cps x) {dp un : Nat} {gd : Option (List Code)} {cn : Str} {cs : Scope} {a : Addr} {ccd : Value} {cl : List (Str × Addr)} {outer : List Env} {A₀ : Around} {base h₀ : Heap} {L : Addr} {m mg mb : Str → Option Value} {mean : ExcName → Option Value} {news : List (Addr × Obj)} {s : Shared} {Q E : Value → Shared → Prop}
    (G : Grd w mean mg mb A₀ base outer h₀) (F : Fr h₀ L s.heap m) (N : News h₀ L s.heap news) (hk : cs.kind = .function) (hd : dp + 150 < recursionLimit) (hu : un + 400 < cLine)
    (hret : ∀ h₀' h' tk', Grd w mean mg mb A₀ base outer h₀' → KtsTurn (outer.filterMap (·.frame)) h₀ h₀' → Fr h₀' L h' m → News h₀' L h' news → Q (.bool true) { s with heap := h', toks := tk' }) : wpAny (model PySem.Challenge.pw_kt0081_01 w) (ktrTop dp un gd cn cs L a ccd cl outer) (call (.ref 904) [.int 0 tk, .str pr tp, .str x tx, .str y ty]) Q E s := by
  refine wpAny_call ?_
  refine' fn_enterT (binds := [("kind", .int 0 tk), ("pair", .str pr tp), ("inner", .str x tx), ("outer", .str y ty)]) ?k1 ?k2 ?k3 ?kA ?kF ?kK ?k6 ?ks ?k7 ?k8 ?k9 ?kB ?_ ?c2 ?c3 ?c4 ?c5
  case kA => exact rfl
  case kF => exact rfl
  case kK => assumption
  case k1 => assumption
  case k2 => assumption
  case k3 => assumption
  case k6 => k_dflt k_is
  case ks => exact rfl
  case k7 => k_dflt k_is
  case k8 => exact Nat.lt_of_le_of_lt (Nat.le_add_right _ _) hd
  case k9 => exact BindsTo.of_eq rfl
  case c5 => decide
  case kB => exact locs rfl
  case c2 => exact rfl
  case c3 => exact rfl
  case c4 => exact rfl
  intro g' L' h' FG' F' N' B' X' T' D' l1
  try k_lt l1
  simp only [List.reverse_cons, List.reverse_nil, List.nil_append, List.cons_append, lookF, lookE] at F'
  try dsimp only
  try k_lift B'
  try k_fold
  show (let zV := _; let zA := _; wpAny _ zA (execs _ zV) _ _ _)
  intro zV zA
  have hcpt : ∀ y ∈ [Str.ofString "d", x, Str.ofString "#b", Str.ofString "c#e"], Cps y := by
    intro y hy
    simp only [List.mem_cons, List.not_mem_nil, or_false] at hy
    (repeat' (rcases hy with hy | hy)) <;> first | exact hcp | (unfold Cps; decide +kernel)
  (k_steps; repeat' (((with_reducible refine hold_in ?_); ((with_reducible refine' addStr ?zsz ?_); (case zsz => (try simp only [len_app]); first | omega | (simp only [len_lit, String.reduceToList, List.length_cons, List.length_nil]; omega)); intro tt' tk'; (try dsimp only))); (all_goals (try k_steps))))
  all_goals try first
    | (exact absurd hfm (by with_reducible assumption))
    | (exact absurd (show ((x.length : Int)).fmod 2 = 1 by with_reducible assumption) (by rw [hfm]; decide))
    | (exact absurd hln (by with_reducible assumption))
    | (exact absurd (by with_reducible assumption) hln)
  have e1 : ((x.length : Int).fmod 2 == 1) = false := by rw [hfm]; rfl
  rw [e1]
  (with_reducible rename Fr g' L' _ _ => zF)
  (with_reducible rename News g' L' _ _ => zN)
  refine sp_split_false w _ _ [Str.ofString "d", x, Str.ofString "#b", Str.ofString "c#e"] ?zx hr (by simp) ⟨B', X', T', D', G.XB, G.TB⟩ zF zN rfl (by show dp + 1 + 40 < recursionLimit; omega) (by show un + 3 + 300 < cLine; omega) ?zr
  case zx => rw [len_app, len_lit]; (simp only [String.reduceToList, List.length_cons, List.length_nil]); omega
  case zr =>
    intro S h₂ h3 tk3 c3 vs3 hT3 G3 T3 F3 N3 l3
    obtain ⟨B3, X3, T4, D3, -, -⟩ := G3
    clear zF zN B' X' T' D' FG' N F hr
    have hS3 := tokS_strs hT3
    (k_steps; repeat' (first | (((with_reducible refine hold_in ?_); ((with_reducible refine' addStr ?zsz ?_); (case zsz => (try simp only [len_app]); first | omega | (simp only [len_lit, String.reduceToList, List.length_cons, List.length_nil]; omega)); intro tt' tk'; (try dsimp only))); (all_goals (try k_steps))) | (((with_reducible refine hold_in ?_); (k_dflt (refine' eq_strs (by with_reducible assumption) (by first | exact List.mem_cons_self | exact List.mem_cons_of_mem _ List.mem_cons_self | exact List.mem_cons_of_mem _ (List.mem_cons_of_mem _ List.mem_cons_self) | exact List.mem_cons_of_mem _ (List.mem_cons_of_mem _ (List.mem_cons_of_mem _ List.mem_cons_self))) (by exact List.mem_cons_self) (by with_reducible assumption) (by first | exact .cons _ _ (.cons _ _ (.cons _ _ .nil)) | exact .cons _ _ (.cons _ _ (.cons _ _ (.cons _ _ .nil)))) (by with_reducible assumption) (by with_reducible assumption) (by exact room_u (by assumption) (by decide)) ?_))); (all_goals (try k_steps)))))
    all_goals try first
      | (rename (_ == _) = false => hq; exact absurd (by rw [heq, beq_self_eq_true] : (y == _) = true) (by rw [hq]; exact Bool.false_ne_true))
    (with_reducible rename Fr h₂ L' _ _ => zF)
    (with_reducible rename News h₂ L' _ _ => zN)
    refine leaveT_ zF zN T3 fun h₀'' G'' T'' F'' N'' => ?_
    rw [decide_eq_true rfl]
    exact hret h₀'' _ _ G'' T'' F'' (newsSub N'' (fun p hp => by repeat (first | exact hp | apply List.mem_cons_of_mem)))
theorem sp_gives_0fB (w : World) (pr x y : Str) (tk tp tx ty : Tok) (hx : x.length ≤ 90000) (hy : y.length ≤ 90000) (hfm : ((x.length : Int)).fmod 2 = 0) (hln : ¬ ((y.length : Int) = (x.length : Int) + 2)) (heq : y = Str.ofString "d " ++ (Str.ofString "'" ++ Esc QT x ++ Str.ofString "'")) (hr : Runs false .S (Mine.L (y ++ Str.ofString " #b\nc#e")) [Str.ofString "d", x, Str.ofString "#b", Str.ofString "c#e"]) (hcp : Cps x) {dp un : Nat} {gd : Option (List Code)} {cn : Str} {cs : Scope} {a : Addr} {ccd : Value} {cl : List (Str × Addr)} {outer : List Env} {A₀ : Around} {base h₀ : Heap} {L : Addr} {m mg mb : Str → Option Value} {mean : ExcName → Option Value} {news : List (Addr × Obj)} {s : Shared} {Q E : Value → Shared → Prop}
    (G : Grd w mean mg mb A₀ base outer h₀) (F : Fr h₀ L s.heap m) (N : News h₀ L s.heap news) (hk : cs.kind = .function) (hd : dp + 150 < recursionLimit) (hu : un + 400 < cLine)
    (hret : ∀ h₀' h' tk', Grd w mean mg mb A₀ base outer h₀' → KtsTurn (outer.filterMap (·.frame)) h₀ h₀' → Fr h₀' L h' m → News h₀' L h' news → Q (.bool true) { s with heap := h', toks := tk' }) : wpAny (model PySem.Challenge.pw_kt0081_01 w) (ktrTop dp un gd cn cs L a ccd cl outer) (call (.ref 904) [.int 0 tk, .str pr tp, .str x tx, .str y ty]) Q E s := by
  refine wpAny_call ?_
  refine' fn_enterT (binds := [("kind", .int 0 tk), ("pair", .str pr tp), ("inner", .str x tx), ("outer", .str y ty)]) ?k1 ?k2 ?k3 ?kA ?kF ?kK ?k6 ?ks ?k7 ?k8 ?k9 ?kB ?_ ?c2 ?c3 ?c4 ?c5
  case kA => exact rfl
  case kF => exact rfl
  case kK => assumption
  case k1 => assumption
  case k2 => assumption
  case k3 => assumption
  case k6 => k_dflt k_is
  case ks => exact rfl
  case k7 => k_dflt k_is
  case k8 => exact Nat.lt_of_le_of_lt (Nat.le_add_right _ _) hd
  case k9 => exact BindsTo.of_eq rfl
  case c5 => decide
  case kB => exact locs rfl
  case c2 => exact rfl
  case c3 => exact rfl
  case c4 => exact rfl
  intro g' L' h' FG' F' N' B' X' T' D' l1
  try k_lt l1
  simp only [List.reverse_cons, List.reverse_nil, List.nil_append, List.cons_append, lookF, lookE] at F'
  try dsimp only
  try k_lift B'
  try k_fold
  show (let zV := _; let zA := _; wpAny _ zA (execs _ zV) _ _ _)
  intro zV zA
  have hcpt : ∀ y ∈ [Str.ofString "d", x, Str.ofString "#b", Str.ofString "c#e"], Cps y := by
    intro y hy
    simp only [List.mem_cons, List.not_mem_nil, or_false] at hy
    (repeat' (rcases hy with hy | hy)) <;> first | exact hcp | (unfold Cps; decide +kernel)
  (k_steps; repeat' (((with_reducible refine hold_in ?_); ((with_reducible refine' addStr ?zsz ?_); (case zsz => (try simp only [len_app]); first | omega | (simp only [len_lit, String.reduceToList, List.length_cons, List.length_nil]; omega)); intro tt' tk'; (try dsimp only))); (all_goals (try k_steps))))
  all_goals try first
    | (exact absurd hfm (by with_reducible assumption))
    | (exact absurd (show ((x.length : Int)).fmod 2 = 1 by with_reducible assumption) (by rw [hfm]; decide))
    | (exact absurd hln (by with_reducible assumption))
    | (exact absurd (by with_reducible assumption) hln)
  refine join_listW (by with_reducible assumption) (by with_reducible assumption) (by decide +kernel) ?zj ?_
  case zj => (rename List.map _ _ = Txt.split _ _ => hsp); rw [hsp]; have := split_sum x; omega
  intro tj kj
  (rename List.map _ _ = Txt.split _ _ => hsp)
  rw [hsp, join_QT]
  have hjl := Esc_len QT x 5 (by decide) (by decide +kernel)
  (try dsimp only)
  (k_steps; repeat' (((with_reducible refine hold_in ?_); ((with_reducible refine' addStr ?zsz ?_); (case zsz => (try simp only [len_app]); first | omega | (simp only [len_lit, String.reduceToList, List.length_cons, List.length_nil]; omega)); intro tt' tk'; (try dsimp only))); (all_goals (try k_steps))))
  all_goals try first
    | (exact absurd hfm (by with_reducible assumption))
    | (exact absurd (show ((x.length : Int)).fmod 2 = 1 by with_reducible assumption) (by rw [hfm]; decide))
    | (exact absurd hln (by with_reducible assumption))
    | (exact absurd (by with_reducible assumption) hln)
  have e1 : ((x.length : Int).fmod 2 == 1) = false := by rw [hfm]; rfl
  rw [e1]
  (with_reducible rename Fr g' L' _ _ => zF)
  (with_reducible rename News g' L' _ _ => zN)
  refine sp_split_false w _ _ [Str.ofString "d", x, Str.ofString "#b", Str.ofString "c#e"] ?zx hr (by simp) ⟨B', X', T', D', G.XB, G.TB⟩ zF zN rfl (by show dp + 1 + 40 < recursionLimit; omega) (by show un + 3 + 300 < cLine; omega) ?zr
  case zx => rw [len_app, len_lit]; (simp only [String.reduceToList, List.length_cons, List.length_nil]); omega
  case zr =>
    intro S h₂ h3 tk3 c3 vs3 hT3 G3 T3 F3 N3 l3
    obtain ⟨B3, X3, T4, D3, -, -⟩ := G3
    clear zF zN B' X' T' D' FG' N F hr
    have hS3 := tokS_strs hT3
    (k_steps; repeat' (first | (((with_reducible refine hold_in ?_); ((with_reducible refine' addStr ?zsz ?_); (case zsz => (try simp only [len_app]); first | omega | (simp only [len_lit, String.reduceToList, List.length_cons, List.length_nil]; omega)); intro tt' tk'; (try dsimp only))); (all_goals (try k_steps))) | (((with_reducible refine hold_in ?_); (k_dflt (refine' eq_strs (by with_reducible assumption) (by first | exact List.mem_cons_self | exact List.mem_cons_of_mem _ List.mem_cons_self | exact List.mem_cons_of_mem _ (List.mem_cons_of_mem _ List.mem_cons_self) | exact List.mem_cons_of_mem _ (List.mem_cons_of_mem _ (List.mem_cons_of_mem _ List.mem_cons_self))) (by exact List.mem_cons_self) (by with_reducible assumption) (by first | exact .cons _ _ (.cons _ _ (.cons _ _ .nil)) | exact .cons _ _ (.cons _ _ (.cons _ _ (.cons _ _ .nil)))) (by with_reducible assumption) (by with_reducible assumption) (by exact room_u (by assumption) (by decide)) ?_))); (all_goals (try k_steps)))))
    all_goals try first
      | (rename (_ == _) = false => hq; exact absurd (by rw [heq, beq_self_eq_true] : (y == _) = true) (by rw [hq]; exact Bool.false_ne_true))
    (with_reducible rename Fr h₂ L' _ _ => zF)
    (with_reducible rename News h₂ L' _ _ => zN)
    refine leaveT_ zF zN T3 fun h₀'' G'' T'' F'' N'' => ?_
    rw [decide_eq_true rfl]
    exact hret h₀'' _ _ G'' T'' F'' (newsSub N'' (fun p hp => by repeat (first | exact hp | apply List.mem_cons_of_mem)))
end
section
open PySem PySem.W
example {M : Model} {A : Around} {v : Value} {Q : Bool → Shared → Prop} {E : Value → Shared → Prop} {s : Shared} (h : wpAny M A (truthy v) Q E s) : wpAny M A (truthy v) Q E s := by first | (walk1; fail) | exact h
end
section
open PySem PySem.W PySem.Spec PySem.Calls PyProof.Rows
set_option maxHeartbeats 4000000
noncomputable def ksOf (ns : List Int) : List Int := kindsOf (ns.take 3) ++ [6 + ns.sum.fmod 2]
noncomputable def twoOf (ns : List Int) : Str := Txt.item (Str.ofString "/+_@%:,.-") ((ns.sum.fdiv 9).fmod 9) ++ Txt.item (Str.ofString "/+_@%:,.-") ((ns.sum.fdiv 81 + 1).fmod 9)
theorem pick5 {h₀ h : Heap} {L : Addr} {a1 a2 a3 a4 a5 a6 a7 a8 a9 a10 a11 a12 : Addr × Obj} (N : News h₀ L h [a1, a2, a3, a4, a5, a6, a7, a8, a9, a10, a11, a12]) : News h₀ L h [a12, a2, a9, a10, a11] :=
  newsPick (want := [a12, a2, a9, a10, a11]) (r := []) [a1, a2, a3, a4, a5, a6, a7, a8, a9, a10, a11, a12] [11, 1, 8, 9, 10] N rfl
local macro_rules | `(tactic| walk_at "compareOp NotEq ref ref") => `(tactic| refine of_hold ?_)
theorem law_go {src : Option (Arguments × List Stmt × Scope)} {params : Arguments} {body : List Stmt} {scope : Scope} (P : List Stmt → Scope → Prop) (hsrc : src = some (params, body, scope)) (h : P body scope) : ∀ p b sc, src = some (p, b, sc) → P b sc := by
  intro p b sc e
  rw [hsrc] at e
  cases e
  exact h
/-- what _law_gives needs, kind by kind -/
inductive GivesOk (pr x y : Str) : Int → Prop
  | tA (hfm : ((x.length : Int)).fmod 2 = 1) (hln : (y.length : Int) = (x.length : Int) + 2) (heq : y = Str.ofString "d " ++ x) (hr : Runs true .S (Mine.L (y ++ Str.ofString " #b\nc#e")) [Str.ofString "d", x, Str.ofString "c"]) : GivesOk pr x y 0
  | tB (hfm : ((x.length : Int)).fmod 2 = 1) (hln : ¬ ((y.length : Int) = (x.length : Int) + 2)) (heq : y = Str.ofString "d " ++ (Str.ofString "'" ++ Esc QT x ++ Str.ofString "'")) (hr : Runs true .S (Mine.L (y ++ Str.ofString " #b\nc#e")) [Str.ofString "d", x, Str.ofString "c"]) : GivesOk pr x y 0
  | fA (hfm : ((x.length : Int)).fmod 2 = 0) (hln : (y.length : Int) = (x.length : Int) + 2) (heq : y = Str.ofString "d " ++ x) (hr : Runs false .S (Mine.L (y ++ Str.ofString " #b\nc#e")) [Str.ofString "d", x, Str.ofString "#b", Str.ofString "c#e"]) : GivesOk pr x y 0
  | fB (hfm : ((x.length : Int)).fmod 2 = 0) (hln : ¬ ((y.length : Int) = (x.length : Int) + 2)) (heq : y = Str.ofString "d " ++ (Str.ofString "'" ++ Esc QT x ++ Str.ofString "'")) (hr : Runs false .S (Mine.L (y ++ Str.ofString " #b\nc#e")) [Str.ofString "d", x, Str.ofString "#b", Str.ofString "c#e"]) : GivesOk pr x y 0
  | e1 (hfin : unesc (pairs 1) (Txt.slice y (some 3) (some (-4))) = x) (hsl : (Txt.slice y (some 3) (some (-4))).length ≤ 600009) : GivesOk pr x y 1
  | e2 (hfin : unesc (pairs 2) (Txt.slice y (some 3) (some (-4))) = x) (hsl : (Txt.slice y (some 3) (some (-4))).length ≤ 600009) : GivesOk pr x y 2
  | e3 (hfin : unesc (pairs 3) (Txt.slice y (some 6) (some (-3))) = x) (hsl : (Txt.slice y (some 6) (some (-3))).length ≤ 600009) : GivesOk pr x y 3
  | e4 (hfin : unesc (pairs 4) (Txt.slice y (some 6) (some (-3))) = x) (hsl : (Txt.slice y (some 6) (some (-3))).length ≤ 600009) : GivesOk pr x y 4
  | e5 (hfin : unesc (pairs 5) (Txt.slice y (some 6) (some (-3))) = x) (hsl : (Txt.slice y (some 6) (some (-3))).length ≤ 600009) : GivesOk pr x y 5
  | c6 (hfin : y = Txt.join (Str.ofString "") (figs 6 (Str.ofString "ABCDEFGHIJKLMNOPQRSTUVWXYZabcdefghijklmnopqrstuvwxyz0123456789" ++ Str.ofString "+/") (u8 x)) ++ Txt.mul (Str.ofString "=") ((-((u8 x).size : Int)).fmod 3)) : GivesOk pr x y 6
  | c7 (hfin : y = Txt.join (Str.ofString "") (figs 6 (Str.ofString "ABCDEFGHIJKLMNOPQRSTUVWXYZabcdefghijklmnopqrstuvwxyz0123456789" ++ pr) (u8 x)) ++ Txt.mul (Str.ofString "=") ((-((u8 x).size : Int)).fmod 3)) : GivesOk pr x y 7
  | c8 (hfin : y = Txt.join (Str.ofString "") (figs 4 (Str.ofString "0123456789ABCDEF") (u8 x))) : GivesOk pr x y 8
theorem sp_gives (w : World) (k : Int) (pr x y : Str) (tk tp tx ty : Tok) (g : GivesOk pr x y k) (hx : x.length ≤ 80000) (hsur : ∀ c ∈ Mine.L x, Str.isSurrogate c = false) (hcp : Cps x) (h8 : (u8 x).size ≤ 20000) (hy : y.length ≤ 80000) (hpl : pr.length = 2)
    {dp un : Nat} {gd : Option (List Code)} {cn : Str} {cs : Scope} {a : Addr} {ccd : Value} {cl : List (Str × Addr)} {A₀ : Around} {base h₀ : Heap} {L : Addr} {m mg mb : Str → Option Value} {mean : ExcName → Option Value} {news : List (Addr × Obj)} {s : Shared} {Q E : Value → Shared → Prop}
    (G : Grd w mean mg mb A₀ base [] h₀) (F : Fr h₀ L s.heap m) (N : News h₀ L s.heap news) (hk : cs.kind = .function) (hd : dp + 150 < recursionLimit) (hu : un + 400 < cLine)
    (hret : ∀ h' tk', Fr h₀ L h' m → News h₀ L h' news → Q (.bool true) { s with heap := h', toks := tk' }) : wpAny (model PySem.Challenge.pw_kt0081_01 w) (ktrTop dp un gd cn cs L a ccd cl []) (call (.ref 904) [.int k tk, .str pr tp, .str x tx, .str y ty]) Q E s := by
  have back : ∀ h₀' h' tk', Grd w mean mg mb A₀ base [] h₀' → KtsTurn (([] : List Env).filterMap (·.frame)) h₀ h₀' → Fr h₀' L h' m → News h₀' L h' news → Q (.bool true) { s with heap := h', toks := tk' } := fun h₀' h' tk' _ T' F' N' =>
    (fun (z : Fr h₀ L h' m ∧ News h₀ L h' news) => hret h' tk' z.1 z.2) (turn_nil (s := { s with heap := h', toks := tk' }) T' F' N')
  have hx' : x.length ≤ 100000 := Nat.le_trans hx (by decide)
  have hx9 : x.length ≤ 90000 := Nat.le_trans hx (by decide)
  have hy9 : y.length ≤ 90000 := Nat.le_trans hy (by decide)
  have hy6 : y.length ≤ 600009 := Nat.le_trans hy (by decide)
  cases g with
  | tA a b c d => exact sp_gives_0tA w pr x y tk tp tx ty hx9 hy9 a b c d hcp G F N hk hd hu back
  | tB a b c d => exact sp_gives_0tB w pr x y tk tp tx ty hx9 hy9 a b c d hcp G F N hk hd hu back
  | fA a b c d => exact sp_gives_0fA w pr x y tk tp tx ty hx9 hy9 a b c d hcp G F N hk hd hu back
  | fB a b c d => exact sp_gives_0fB w pr x y tk tp tx ty hx9 hy9 a b c d hcp G F N hk hd hu back
  | e1 a b => exact SpecP.use (sp_gives_1 w pr x y tk tp tx ty hx' hy6 b a) G.B F G.X N G.T hk (room_in hd (by decide)) (room_in hu (by decide)) trivial fun _ h' tk' F' N' => hret h' tk' F' N'
  | e2 a b => exact SpecP.use (sp_gives_2 w pr x y tk tp tx ty hx' hy6 b a) G.B F G.X N G.T hk (room_in hd (by decide)) (room_in hu (by decide)) trivial fun _ h' tk' F' N' => hret h' tk' F' N'
  | e3 a b => exact SpecP.use (sp_gives_3 w pr x y tk tp tx ty hx' hy6 b a) G.B F G.X N G.T hk (room_in hd (by decide)) (room_in hu (by decide)) trivial fun _ h' tk' F' N' => hret h' tk' F' N'
  | e4 a b => exact SpecP.use (sp_gives_4 w pr x y tk tp tx ty hx' hy6 b a) G.B F G.X N G.T hk (room_in hd (by decide)) (room_in hu (by decide)) trivial fun _ h' tk' F' N' => hret h' tk' F' N'
  | e5 a b => exact SpecP.use (sp_gives_5 w pr x y tk tp tx ty hx' hy6 b a) G.B F G.X N G.T hk (room_in hd (by decide)) (room_in hu (by decide)) trivial fun _ h' tk' F' N' => hret h' tk' F' N'
  | c6 a => exact SpecP.use (sp_gives_6 w pr x y tk tp tx ty hx' hsur h8 hy6 a) G.B F G.X N G.T hk hd (room_in hu (by decide)) trivial fun _ h' tk' F' N' => hret h' tk' F' N'
  | c7 a => exact SpecP.use (sp_gives_7 w pr x y tk tp tx ty hx' hsur h8 hy6 hpl a) G.B F G.X N G.T hk hd (room_in hu (by decide)) trivial fun _ h' tk' F' N' => hret h' tk' F' N'
  | c8 a => exact SpecP.use (sp_gives_8 w pr x y tk tp tx ty hx' hsur h8 hy6 a) G.B F G.X N G.T hk hd (room_in hu (by decide)) trivial fun _ h' tk' F' N' => hret h' tk' F' N'
theorem at_pos {prog : Program} {w : World} {A : Around} {E : Value → Shared → Prop} {s : Shared} {value slice : PySem.Expr} {l : Addr} {vs : List Value} {k : Int} {u : Tok} {v : Value} {Q : Value → Shared → Prop} (hl : s.heap.IsList l vs.toArray) (h0 : 0 ≤ k) (hf : k < 2 ^ 63) (hx : vs[k.toNat]? = some v) (h : Q v s)
    (hs : subscripted slice false (.ref l) (.int k u) = operate [.ref l, .int k u] (getItem (.ref l) (.int k u)) := by with_unfolding_all rfl) :
    wpAny (model prog w) A (subscriptTail value slice (.ref l) (.int k u)) Q E s :=
  tail_any hl.typeIs slot_list_getitem.lookup (wpAny_getItem_list hl h0 hf (by rw [List.getElem?_toArray]; exact hx) h) hs
theorem rot4 {h₀ h : Heap} {L : Addr} {a b c d : Addr × Obj} {r : List (Addr × Obj)} (N : News h₀ L h (a :: b :: c :: d :: r)) : News h₀ L h (b :: c :: d :: a :: r) := newsPick (want := [b, c, d, a]) [a, b, c, d] [1, 2, 3, 0] N rfl
theorem kindsOf_len (l : List Int) : (kindsOf l).length = l.length := by
  have key : ∀ (l acc : List Int), (l.foldl kindStep acc).length = acc.length + l.length := by
    intro l
    induction l with
    | nil => intro acc; rfl
    | cons a l ih => intro acc; rw [List.foldl_cons, ih]; unfold kindStep; simp; lia
  have := key l []
  simpa [kindsOf] using this
theorem sgn_len (n : Int) : (sgn n).length ≤ 1 := by
  unfold sgn
  split
  · have key : ∀ i, i < 17 → (menu.getD i "").length ≤ 1 := by decide +kernel
    have h0 : 0 ≤ n.fmod 1112081 := by rw [Int.fmod_eq_emod_of_nonneg _ (by decide)]; exact Int.emod_nonneg _ (by decide)
    exact key _ (by lia)
  · split <;> exact Nat.le_refl _
noncomputable def letterL (ns : List Int) : List Str := (ns.take 3 ++ [ns.sum]).map fun n => sgn (n.fdiv 9)
noncomputable def letter (ns : List Int) : Str := Txt.join (Str.ofString "") (letterL ns)
theorem letterL_sum (ns : List Int) : ((letterL ns).map (·.length)).sum + (letterL ns).length ≤ 8 := by
  have key : ∀ l : List Int, ((l.map fun n => sgn (n.fdiv 9)).map (·.length)).sum ≤ l.length := by
    intro l
    induction l with
    | nil => exact Nat.le_refl _
    | cons a l ih =>
      have := sgn_len (a.fdiv 9)
      simp only [List.map_cons, List.sum_cons, List.length_cons]
      lia
  have h1 := key (ns.take 3 ++ [ns.sum])
  have h2 : (ns.take 3 ++ [ns.sum]).length ≤ 4 := by rw [List.length_append, List.length_take, List.length_singleton]; lia
  unfold letterL
  rw [List.length_map]
  lia
theorem seeds_map {l : List Int} {i : Nat} {n : Int} (h : l[i]? = some n) : (l.take (i + 1)).map (fun n => sgn (n.fdiv 9)) = (l.take i).map (fun n => sgn (n.fdiv 9)) ++ [sgn (n.fdiv 9)] := by
  rw [List.take_add_one, h, List.map_append]; rfl
structure LawOk (ns : List Int) : Prop where
  ks : ∀ k ∈ ksOf ns, 0 ≤ k ∧ k ≤ 8
  two : ∃ p0 p1, Two (twoOf ns) p0 p1
  len : ∀ i, i ≤ (ksOf ns).length → (mailAt (twoOf ns) (letter ns) (ksOf ns) i).length ≤ 80000
  sur : ∀ i, i ≤ (ksOf ns).length → ∀ c ∈ Mine.L (mailAt (twoOf ns) (letter ns) (ksOf ns) i), Str.isSurrogate c = false
  cps : ∀ i, i ≤ (ksOf ns).length → Cps (mailAt (twoOf ns) (letter ns) (ksOf ns) i)
  u8 : ∀ i, i < (ksOf ns).length → (u8 (mailAt (twoOf ns) (letter ns) (ksOf ns) i)).size ≤ 20000
  gives : ∀ i k, (ksOf ns)[i]? = some k → GivesOk (twoOf ns) (mailAt (twoOf ns) (letter ns) (ksOf ns) i) (mailAt (twoOf ns) (letter ns) (ksOf ns) (i + 1)) k
  rows : ∀ i, i ≤ (ksOf ns).length → cnt (mailAt (twoOf ns) (letter ns) (ksOf ns) i) = (rowAt (letter ns) (ksOf ns) i).1
theorem ksOf_len (ns : List Int) : (ksOf ns).length ≤ 4 := by
  unfold ksOf
  rw [List.length_append, kindsOf_len, List.length_take, List.length_singleton]; lia
theorem rows_eq {ns : List Int} (G : LawOk ns) : (rowsTo (letter ns) (ksOf ns) (ksOf ns).length).drop 1 = (List.range (ksOf ns).length).map fun j => cnt (mailAt (twoOf ns) (letter ns) (ksOf ns) (j + 1)) := by
  unfold rowsTo
  rw [List.range_succ_eq_map, List.map_cons, List.drop_succ_cons, List.drop_zero, List.map_map]
  refine List.map_congr_left fun j hj => ?_
  exact (G.rows (j + 1) (List.mem_range.mp hj)).symm
theorem newsMore {h₀ h : Heap} {L : Addr} {x : Addr × Obj} {as r : List (Addr × Obj)} (N : News h₀ L h (x :: r)) (hs : ∀ p ∈ as, p ∈ r) : News h₀ L h (x :: (as ++ r)) := fun p hp =>
  N p ((List.mem_cons.mp hp).elim (fun e => e ▸ List.mem_cons_self) fun hp => List.mem_cons_of_mem _ ((List.mem_append.mp hp).elim (hs p) id))
local macro_rules | `(tactic| walk_at "call ref") => `(tactic| refine of_hold ?_)
local macro_rules | `(tactic| walk_at "subscriptTail Name Constant ref int") => `(tactic| refine of_hold ?_)
local macro_rules | `(tactic| walk_at "subscriptTail Name Name ref int") => `(tactic| refine of_hold ?_)
local macro_rules | `(tactic| walk_at "subscriptTail Name BinOp ref int") => `(tactic| refine of_hold ?_)
theorem law_tail (w : World) (ns : List Int) (G : LawOk ns) {a lm lc : Addr} {ccd : Value} {h₀ : Heap} {L : Addr} {m mg mb : Str → Option Value} {mean : ExcName → Option Value} {s : Shared} {Q : Flow → Shared → Prop} {E : Value → Shared → Prop} {oc ot om T₁ : Obj} {vm vc : List Value} {nm nc : Nat} {tt : Tok}
    (dc : oc.data = .cell (some (.ref lc))) (dt : ot.data = .cell (some (.str (twoOf ns) tt))) (dm : om.data = .cell (some (.ref lm))) (hvc : IntsAre vc (ksOf ns)) (hvm : StrsAre vm (mail (twoOf ns) (letter ns) (ksOf ns) (ksOf ns).length))
    (B : Below callerA h₀ [] h₀) (X : (K w.params).In h₀) (T : Top q (looseW q loose) mean mg mb h₀) (F : Fr h₀ L s.heap m) (N : News h₀ L s.heap [(lm, listObj vm nm), (792, T₁), (lc, listObj vc nc), (L + 1, oc), (L + 1 + 1, ot), (L + 1 + 1 + 1, om)]) (hT₁ : JT T₁)
    (hret : ∀ m' h' tk' g' T₁, (AllBare s.gens → AllBare g') → JT T₁ → Fr h₀ L h' m' → News h₀ L h' [(792, T₁)] → Q (.ret (.bool true)) { s with heap := h', toks := tk', gens := g' }) :
    ∀ p b sc, partsOf (nth pwBody 56) = some (p, b, sc) → wpAny (model PySem.Challenge.pw_kt0081_01 w) (callerA.deeper (envOfC (Str.ofString "law") sc L a ccd)) (execs (b.drop 5) (envOfC (Str.ofString "law") sc L a ccd)) Q E s := by
  refine law_go (fun b sc => wpAny (model PySem.Challenge.pw_kt0081_01 w) (callerA.deeper (envOfC (Str.ofString "law") sc L a ccd)) (execs (b.drop 5) (envOfC (Str.ofString "law") sc L a ccd)) Q E s) rfl ?_
  have hpl : (twoOf ns).length = 2 := by obtain ⟨p0, p1, hp2⟩ := G.two; exact hp2.len
  dsimp only [List.drop]
  k_steps
  (with_reducible rename Fr h₀ L _ _ => zF)
  (with_reducible rename News h₀ L _ _ => zN)
  have hml : vm.length = (ksOf ns).length + 1 := by rw [hvm.length]; unfold mail; rw [List.length_map, List.length_range]
  have hk4 := ksOf_len ns
  refine' kms_slice_lit (s := ⟨_, _, _, _, _⟩) zF zN (News.isList zN List.mem_cons_self) ?zp ?zq (slice1 _) ?_ ?zs ?zt ?zz
  case zp => kmk_part
  case zq => kmk_part
  case zs => with_unfolding_all rfl
  case zt => kmk_pure
  case zz => rw [List.size_toArray, hml, sizeLine_eq]; lia
  intro D2 h₃ F₃ N₃ l₃
  clear zF zN
  k_steps
  (with_reducible rename Fr h₀ L _ _ => zF)
  (with_reducible rename News h₀ L _ _ => zN)
  refine ⟨_, _, _, _, fun i ys nw => (∀ p ∈ (D2, W.listOf (List.drop 1 vm).toArray 0) :: (lm, listObj vm nm) :: (792, T₁) :: (lc, listObj vc nc) :: (L + 1, oc) :: (L + 1 + 1, ot) :: (L + 1 + 1 + 1, om) :: [], p ∈ nw) ∧ RowsIn nw ys ((List.range i).map fun j => cnt (mailAt (twoOf ns) (letter ns) (ksOf ns) (j + 1))), src_list rfl zN List.mem_cons_self, ?c1, zF, zN, ?c2, ⟨fun p hp => hp, .nil⟩, ?turn, ?fin⟩
  case c1 => rw [List.size_toArray, List.length_drop, hml, sizeLine_eq]; lia
  case c2 => intro p hp; rw [List.mem_singleton.mp hp]; exact List.mem_cons_self
  case turn =>
    rintro i ys nw v I oI C oC D m₂ h tk E' hi' ⟨hsub, hR⟩ hP hC hx F' N' off hnd ⟨ne1, ne2, ne3⟩
    clear zF zN
    obtain ⟨tv, hv⟩ := hvm.get (i + 1) (mailAt (twoOf ns) (letter ns) (ksOf ns) (i + 1)) (by unfold mail; rw [List.getElem?_map, List.getElem?_range (by rw [List.size_toArray, List.length_drop, hml] at hi'; lia)]; rfl)
    obtain rfl : v = .str (mailAt (twoOf ns) (letter ns) (ksOf ns) (i + 1)) tv := by
      have : (List.drop 1 vm).toArray[i]? = some v := hP
      rw [List.getElem?_toArray, List.getElem?_drop, Nat.add_comm, hv] at this
      exact (Option.some.inj this).symm
    have hi2 : i + 1 ≤ (ksOf ns).length := by rw [List.size_toArray, List.length_drop, hml] at hi'; lia
    have hcx := Nat.le_trans (G.len _ hi2) (show 80000 ≤ 100000 by decide)
    have hcs := G.sur _ hi2
    (k_steps; repeat' (((with_reducible refine hold_in ?_); ((with_reducible show wpAny _ _ (call (Value.ref 880) _) _ _ _); k_dflt (refine' SpecL.go (sp_law_counted _ _ _ (by assumption) (by assumption)) ?_); intro l' n' vs' h' tk' hR' F' N' l1; (try k_lt l1);  (try dsimp only); (try k_sweep))); (all_goals (try k_steps))))
    (with_reducible rename Fr h₀ L _ _ => zF)
    (with_reducible rename News h₀ L _ _ => zN)
    (rename IntsAre _ (cnt _) => zI)
    (rename _ ∧ _ ∧ _ ∧ AllLt _ nw => zL)
    refine ⟨_, _, _, rfl, zF, rot4 zN, ?z1, ?z2, fun p hp => List.mem_cons_of_mem _ (hsub p hp), ?z3⟩
    case z1 => exact ⟨⟨Nat.ne_of_gt zL.1, Nat.ne_of_gt zL.2.1, Nat.ne_of_gt zL.2.2.1⟩, off⟩
    case z2 => exact fun p hp => List.mem_cons_of_mem _ (hnd p hp)
    case z3 =>
      rw [List.range_succ, List.map_append]
      exact (hR.mono (fun p hp => List.mem_cons_of_mem _ hp)).append (.cons _ _ List.mem_cons_self zI .nil)
  case fin =>
    rintro D h tk ys nw F' N' o1 ⟨hsub, hR⟩
    clear zF zN
    obtain ⟨tl, hv0⟩ := hvm.get 0 (letter ns) (by unfold mail; rw [List.getElem?_map, List.getElem?_range (Nat.succ_pos _)]; rfl)
    replace hv0 : vm[Int.toNat 0]? = some (.str (letter ns) tl) := hv0
    have hR2 : RowsIn nw ys ((rowsTo (letter ns) (ksOf ns) (ksOf ns).length).drop 1) := by
      rw [rows_eq G]
      rw [List.size_toArray, List.length_drop, hml, Nat.add_sub_cancel] at hR
      exact hR
    have N5 : News h₀ L h ((D, LCg.lst ys) :: (lm, listObj vm nm) :: (792, T₁) :: (lc, listObj vc nc) :: (L + 1, oc) :: (L + 1 + 1, ot) :: (L + 1 + 1 + 1, om) :: nw) := newsMore (as := [(lm, listObj vm nm), (792, T₁), (lc, listObj vc nc), (L + 1, oc), (L + 1 + 1, ot), (L + 1 + 1 + 1, om)]) N' fun p hp => hsub p (List.mem_cons_of_mem _ hp)
    clear N' hsub hR o1
    (k_steps; repeat' (((with_reducible refine hold_in ?_); ((refine' at_pos (by exact News.isList (by with_reducible assumption) (by repeat (first | exact List.mem_cons_self | refine List.mem_cons_of_mem _ ?_))) (by first | decide | lia) (by first | decide | lia) (by with_reducible assumption) ?_ (by with_unfolding_all rfl)); (try dsimp only))); (all_goals (try k_steps))))
    with_reducible refine hold_in ?_
    (with_reducible rename Fr h₀ L _ _ => zF)
    (with_reducible rename News h₀ L _ _ => zN)
    refine sp_reck w lc nc vc (ksOf ns) hvc (Nat.le_trans hk4 (by decide)) G.ks (letter ns) _ (Nat.le_trans (G.len 0 (Nat.zero_le _)) (by decide)) (G.sur 0 (Nat.zero_le _)) (G.cps 0 (Nat.zero_le _)) B zF X zN T rfl (by decide +kernel) (by decide +kernel) ?zp ?zr
    case zp => repeat (first | exact List.mem_cons_self | refine List.mem_cons_of_mem _ ?_)
    case zr =>
      intro lo n' us led h₅ tk₅ hRu hsu F₅ N₅
      have N6 : News h₀ L h₅ ((lo, listObj us n') :: (D, LCg.lst ys) :: (lm, listObj vm nm) :: (792, T₁) :: (lc, listObj vc nc) :: (L + 1, oc) :: (L + 1 + 1, ot) :: (L + 1 + 1 + 1, om) :: (nw ++ led)) := newsMore (as := (D, LCg.lst ys) :: (lm, listObj vm nm) :: (792, T₁) :: (lc, listObj vc nc) :: (L + 1, oc) :: (L + 1 + 1, ot) :: (L + 1 + 1 + 1, om) :: nw) N₅ hsu
      have hA := hR2.mono (news' := (lo, listObj us n') :: (D, LCg.lst ys) :: (lm, listObj vm nm) :: (792, T₁) :: (lc, listObj vc nc) :: (L + 1, oc) :: (L + 1 + 1, ot) :: (L + 1 + 1 + 1, om) :: (nw ++ led)) (fun p hp => List.mem_cons_of_mem _ (List.mem_append_left led (List.mem_append_right [(D, LCg.lst ys), (lm, listObj vm nm), (792, T₁), (lc, listObj vc nc), (L + 1, oc), (L + 1 + 1, ot), (L + 1 + 1 + 1, om)] hp)))
      have hB := hRu.mono (news' := (lo, listObj us n') :: (D, LCg.lst ys) :: (lm, listObj vm nm) :: (792, T₁) :: (lc, listObj vc nc) :: (L + 1, oc) :: (L + 1 + 1, ot) :: (L + 1 + 1 + 1, om) :: (nw ++ led)) (fun p hp => List.mem_cons_of_mem _ (List.mem_append_right ((D, LCg.lst ys) :: (lm, listObj vm nm) :: (792, T₁) :: (lc, listObj vc nc) :: (L + 1, oc) :: (L + 1 + 1, ot) :: (L + 1 + 1 + 1, om) :: nw) hp))
      clear zN zF N₅ hsu
      k_steps
      with_reducible refine hold_in ?_
      refine ne_rows N6 (List.mem_cons_of_mem _ List.mem_cons_self) List.mem_cons_self hA hB (by show 7 + 64 < cLine; decide +kernel) ?_
      rw [decide_eq_true rfl]
      k_steps
      (rename IsRange _ _ _ _ _ _ _ _ => zR)
      refine' comp_quietH (src_range (n := (ksOf ns).length) rfl zR ?zs ?zr) ?hz ?F ?N ?hn (fun i ys => ys = []) ?hG ?turn ?fin
      case zs => exact small_one (by decide) (by decide) (by lia) (by lia)
      case zr => rw [rangeSize_one]; split <;> lia
      case hz => lia
      case F => with_reducible assumption
      case N => with_reducible assumption
      case hn => exact fun p hp => nomatch hp
      case hG => rfl
      case turn =>
        intro i ys v I oI C oC D9 m₂ h tk E' WV WF hWV hWF hi' hI hP hC hx F' N'
        subst hI
        obtain ⟨t9, rfl⟩ := hP
        rw [Int.zero_add] at hx
        obtain ⟨k9, hk9⟩ : ∃ k, (ksOf ns)[i]? = some k := ⟨_, List.getElem?_eq_getElem hi'⟩
        obtain ⟨tk9, hv9⟩ := hvc.get i k9 hk9
        obtain ⟨ta, hva⟩ := hvm.get i (mailAt (twoOf ns) (letter ns) (ksOf ns) i) (by unfold mail; rw [List.getElem?_map, List.getElem?_range (by lia)]; rfl)
        obtain ⟨tb, hvb⟩ := hvm.get (i + 1) (mailAt (twoOf ns) (letter ns) (ksOf ns) (i + 1)) (by unfold mail; rw [List.getElem?_map, List.getElem?_range (by lia)]; rfl)
        replace hv9 : vc[Int.toNat (i : Int)]? = some (.int k9 tk9) := hv9
        replace hva : vm[Int.toNat (i : Int)]? = some (.str (mailAt (twoOf ns) (letter ns) (ksOf ns) i) ta) := hva
        replace hvb : vm[Int.toNat ((i : Int) + 1)]? = some (.str (mailAt (twoOf ns) (letter ns) (ksOf ns) (i + 1)) tb) := hvb
        (k_steps; repeat' (((with_reducible refine hold_in ?_); ((refine' at_pos (by exact News.isList (by with_reducible assumption) (by repeat (first | exact List.mem_cons_self | refine List.mem_cons_of_mem _ ?_))) (by first | decide | lia) (by first | decide | lia) (by with_reducible assumption) ?_ (by with_unfolding_all rfl)); (try dsimp only))); (all_goals (try k_steps))))
        with_reducible refine hold_in ?_
        (with_reducible rename Fr h₀ L _ _ => zF)
        (with_reducible rename News h₀ L _ _ => zN)
        refine sp_gives w k9 _ _ _ _ _ _ _ (G.gives i k9 hk9) (G.len i (Nat.le_of_lt hi')) (G.sur i (Nat.le_of_lt hi')) (G.cps i (Nat.le_of_lt hi')) (G.u8 i hi') (G.len (i + 1) hi') hpl ⟨B, X, T, ktsDicts_nil, X, T⟩ zF zN rfl (by decide +kernel) (by decide +kernel) fun h₉ tk₉ F₉ N₉ => ?_
        clear zF zN
        k_steps
        exact hWF _ _ F₉ N₉ rfl
      case fin =>
        intro D9 h tk ys F' N' o9 hI
        subst hI
        k_steps
        (with_reducible rename Fr h₀ L _ _ => zF)
        (with_reducible rename News h₀ L _ _ => zN)
        exact hret _ _ _ _ T₁ id hT₁ zF (newsSub zN (fun p hp => by rw [List.mem_singleton.mp hp]; repeat (first | exact List.mem_cons_self | refine List.mem_cons_of_mem _ ?_)))
end
section
open PySem PySem.W
example {M : Model} {A : Around} {v : Value} {Q : Bool → Shared → Prop} {E : Value → Shared → Prop} {s : Shared} (h : wpAny M A (truthy v) Q E s) : wpAny M A (truthy v) Q E s := by first | (walk1; fail) | exact h
end
section
open PySem PySem.W PySem.Spec PySem.Calls PyProof.Rows
set_option maxHeartbeats 4000000
local macro_rules | `(tactic| walk_at "call ref") => `(tactic| refine of_hold ?_)
theorem law_walk (w : World) (l : Addr) (vs : List Value) (ns : List Int) (hi : IntsAre vs ns) (hn : ns.length ≤ 63) {a : Addr} {ccd : Value} {h₀ : Heap} {L : Addr} {mg mb : Str → Option Value} {mean : ExcName → Option Value} {s : Shared} {Q : Flow → Shared → Prop} {E : Value → Shared → Prop} {o1 o2 o3 : Obj}
    (B : Below callerA h₀ [] h₀) (X : (K w.params).In h₀) (T : Top q (looseW q loose) mean mg mb h₀) (F : Fr h₀ L s.heap (fun y => if y = Str.ofString "script" then some (.ref l) else none)) (N : News h₀ L s.heap [(L + 1, o1), (L + 2, o2), (L + 3, o3), (792, o792 w.params)])
    {v1 v2 v3 : Option Value} (d1 : o1.data = .cell v1) (d2 : o2.data = .cell v2) (d3 : o3.data = .cell v3) (hl : h₀.IsList l vs.toArray) (hL : 792 < L) (G : LawOk ns)
    (hret : ∀ m' h' tk' g' T₁, (AllBare s.gens → AllBare g') → JT T₁ → Fr h₀ L h' m' → News h₀ L h' [(792, T₁)] → Q (.ret (.bool true)) { s with heap := h', toks := tk', gens := g' }) :
    ∀ p b sc, partsOf (nth pwBody 56) = some (p, b, sc) → wpAny (model PySem.Challenge.pw_kt0081_01 w) (callerA.deeper (envOfC (Str.ofString "law") sc L a ccd)) (execs b (envOfC (Str.ofString "law") sc L a ccd)) Q E s := by
  refine law_go (fun b sc => wpAny (model PySem.Challenge.pw_kt0081_01 w) (callerA.deeper (envOfC (Str.ofString "law") sc L a ccd)) (execs b (envOfC (Str.ofString "law") sc L a ccd)) Q E s) rfl ?_
  try dsimp only
  have hn1 : (792 : Addr) ≠ L + 1 := Nat.ne_of_lt (Nat.lt_add_right _ hL)
  have hn2 : (792 : Addr) ≠ L + 2 := Nat.ne_of_lt (Nat.lt_add_right _ hL)
  have hn3 : (792 : Addr) ≠ L + 3 := Nat.ne_of_lt (Nat.lt_add_right _ hL)
  have hn2' : (792 : Addr) ≠ L + 1 + 1 := hn2
  have hn3' : (792 : Addr) ≠ L + 1 + 1 + 1 := hn3
  have hkl : (kindsOf (List.take 3 ns)).length ≤ 3 := by rw [kindsOf_len, List.length_take]; omega
  (k_steps; repeat' (((with_reducible refine hold_in ?_); ((with_reducible show wpAny _ _ (call (Value.ref 861) _) _ _ _); k_dflt (refine' SpecL.go (sp_law_kinds _ _ _ _ _ (by assumption) (by first | assumption | omega)) ?_); intro l' n' vs' h' tk' hR' F' N' l1; (try k_lt l1);  (try dsimp only); (try k_sweep))); (all_goals (try k_steps))))
  (with_reducible rename IntsAre _ (List.take 3 ns ++ [ns.sum]) => zS)
  (with_reducible rename News h₀ L _ _ => zN)
  refine' comp_quietH (src_list rfl zN ?zm) ?hz ?F ?N ?hn (fun i ys => StrsAre ys (((ns.take 3 ++ [ns.sum]).take i).map fun n => sgn (n.fdiv 9))) ?hG ?turn ?fin
  case zm => repeat (first | exact List.mem_cons_self | refine List.mem_cons_of_mem _ ?_)
  case hz => rw [List.size_toArray, zS.length, List.length_append, List.length_take, List.length_singleton]; omega
  case F => with_reducible assumption
  case N => with_reducible assumption
  case hn => intro p hp; rw [List.mem_singleton.mp hp]; repeat (first | exact List.mem_cons_self | refine List.mem_cons_of_mem _ ?_)
  case hG => exact .nil
  case turn =>
    clear zN
    intro i ys v I oI C oC D m₂ h tk E' WV WF hWV hWF hi' hI hP hC hx F' N'
    obtain ⟨n, t, rfl, hn'⟩ := zS.at _ _ (by simpa using hP)
    (k_steps; repeat' (((with_reducible refine hold_in ?_); ((with_reducible show wpAny _ _ (call (Value.ref 854) _) _ _ _); k_dflt (refine' SpecP.go (sp_law_sign _ _ _) ?_); intro t' h' tk' F' N'; (try dsimp only); (try k_sweep))); (all_goals (try k_steps))))
    first | refine hWV _ _ _ (by with_reducible assumption) (by with_reducible assumption) ?_ | refine hWF _ _ (by with_reducible assumption) (by with_reducible assumption) ?_
    rw [seeds_map hn']
    exact strs_snoc hI
  case fin =>
    clear zN
    intro D h tk ys F' N' o1 hI
    have hI2 : StrsAre ys (letterL ns) := by
      unfold letterL
      rw [List.take_of_length_le (by rw [List.size_toArray, zS.length]; exact Nat.le_refl _)] at hI
      exact hI
    k_steps
    refine join_listW (News.isList (by with_reducible assumption) List.mem_cons_self) hI2 (by decide +kernel) (Nat.le_trans (letterL_sum ns) (by decide)) ?_
    intro t' tk'
    (try dsimp only)
    k_steps
    with_reducible refine hold_in ?_
    (with_reducible rename Fr h₀ L _ _ => zF)
    (with_reducible rename News h₀ L _ _ => zN)
    (with_reducible rename IntsAre _ (kindsOf (List.take 3 ns) ++ _) => zK)
    obtain ⟨p0, p1, hp2⟩ := G.two
    refine sp_post w _ _ _ (ksOf ns) zK G.ks (Nat.le_trans (ksOf_len ns) (by decide)) (twoOf ns) (letter ns) p0 p1 hp2 _ _ (o792 w.params) (fun i hi => Nat.le_trans (G.len i (Nat.le_of_lt hi)) (by decide)) (fun i hi => G.sur i (Nat.le_of_lt hi)) B zF X (pick5 zN) T rfl (by decide +kernel) (by decide +kernel) (JT_first _) ?zne List.mem_cons_self ?zr
    case zne =>
      refine List.forall_mem_cons.mpr ⟨?_, List.forall_mem_cons.mpr ⟨Ne.symm hn1, List.forall_mem_cons.mpr ⟨Ne.symm hn2, List.forall_mem_cons.mpr ⟨Ne.symm hn3, fun p hp => nomatch hp⟩⟩⟩⟩
      exact Nat.ne_of_gt (by omega)
    case zr =>
      intro lm nm vm T₁ h₁ tk₁ g₁ hgb hT₁ hvm F₁ N₁ hlm hlr
      (rename Obj.data _ = Data.cell (some (Value.ref _)) => dz1)
      (rename Obj.data _ = Data.cell (some (Value.str _ _)) => dz2)
      clear zN zF
      rw [List.forall_mem_cons, List.forall_mem_cons, List.forall_mem_cons, List.forall_mem_cons] at hlr
      obtain ⟨e1, e2, e3, e4, _⟩ := hlr
      dsimp only at e1 e2 e3 e4
      refine' storeX_C F₁ N₁ rfl (UpdF.tail (Nat.ne_of_gt e4) (UpdF.tail hn3 (UpdF.tail (by k_ne) (UpdF.tail (by show @Ne Nat (L + 1) (L + 3); omega) (UpdF.tail (by show @Ne Nat (L + 2) (L + 3); omega) (UpdF.head (fun p hp => nomatch hp))))))) d3 ?_ rfl rfl
      intro h₂ o₃ F₂ N₂ d₃
      try dsimp only at N₂
      clear F₁ N₁ d3
      exact law_tail w ns G dz1 dz2 d₃ zK hvm B X T F₂ N₂ hT₁ (by intro m' h' tk' g' T₁ hb; exact hret m' h' tk' g' T₁ (fun q => hb (hgb q))) _ _ _ rfl
end
section
open PySem PySem.W PySem.Spec PySem.Calls PyProof.Rows
set_option maxHeartbeats 0
noncomputable abbrev tb : List (Addr × Addr) := [(796, 792)]
theorem noTabsK (P : Params) : noTabs (K P) = true := by kernel_rfl
theorem tabs_at {P : Params} {h : Heap} (X : (KB P).In h) : TabsAt tb h := by
  intro q hq
  rw [List.mem_singleton.mp hq]
  exact ⟨codeHd_of_K (c := 796) (P := 792) X (by kernel_rfl), X 792 (o792 P) (by kernel_rfl)⟩
theorem K_of_KB {P : Params} {h : Heap} (X : (KB P).In h) : (K P).In h := by
  intro a o e
  refine X a o ?_
  show List.lookup a ((nat_lit 792, o792 P) :: K P) = some o
  rw [List.lookup_cons]
  have : (a == (nat_lit 792)) = false := by
    apply beq_eq_false_iff_ne.mpr
    intro e2
    rw [e2] at e
    have : (K P).lookup (nat_lit 792) = none := by kernel_rfl
    rw [this] at e
    cases e
  rw [this]
  exact e
theorem top_ghost {P : Params} {h : Heap} {mean : ExcName → Option Value} {mg mb : Str → Option Value} (X : (KB P).In h) (T : Top q (looseW q loose) mean mg mb h) : Top q (looseW q loose) mean mg mb (ghostOf h tb) := by
  have hT := tabs_at X
  have XK := K_of_KB X
  have hmg : mg (Str.ofString "law") = some (.ref 909) := mg_of XK T.g (by kernel_rfl)
  have h909 : h.get? 909 = some (o909 P) := XK 909 (o909 P) (by kernel_rfl)
  have h908 : h.get? 908 = some (o908 P) := XK 908 (o908 P) (by kernel_rfl)
  have hrec : ∀ d ∈ recsOf q, d.name = Str.ofString "law" := by
    have e : (recsOf q).map (·.name) = [Str.ofString "law"] := by kernel_rfl
    intro d hd
    have : d.name ∈ (recsOf q).map (·.name) := List.mem_map_of_mem hd
    rw [e] at this
    exact List.mem_singleton.mp this
  have keep : ∀ b o, h.get? b = some o → b ≠ 792 → (ghostOf h tb).get? b = some o := fun b o e hb => hideAll_get _ e (by simpa using hb)
  refine ⟨ghost_ns hT T.g, ghost_ns hT T.b, (let ⟨mc, a, r⟩ := T.nolimit; ⟨mc, ghost_ns hT a, r⟩), (let ⟨mc, a, r⟩ := T.nodigits; ⟨mc, ghost_ns hT a, r⟩), ?fn, ?own, T.const, T.free, T.builtins, ?tab, (let ⟨bm, ob, a1, a2, a3, a4, r⟩ := T.bmain; ⟨bm, ob, a1, a2, ghost_get hT a3 (fun q => by rw [q] at a4; cases a4), a4, r⟩), ?seer⟩
  case fn =>
    intro d hd
    obtain ⟨a, o, pm, code, doc, h1, h2, h3, h4⟩ := T.fn d hd
    refine ⟨a, o, pm, code, doc, h1, ghost_get hT h2 (fun q => by rw [q] at h3; cases h3), h3, ?_⟩
    rw [hrec d hd] at h1
    have ha : a = 909 := by rw [hmg] at h1; cases h1; rfl
    subst ha
    rw [h909] at h2
    cases h2
    have hc : code = .ref 908 := by
      have e1 : (o909 P).data = .func (docDef d.name d.params d.body d.scope pm code doc) := h3
      have e2 : ∃ fd, (o909 P).data = .func fd ∧ fd.code = .ref 908 := by
        show ∃ fd, (foOf (partsOf (nth pwBody 56)) (Str.ofString "law") (Str.ofString "law") .none .none (.str (Str.ofString "law_kt0081_01") 1364) (.ref 908)).data = .func fd ∧ fd.code = .ref 908
        exact ⟨_, rfl, rfl⟩
      obtain ⟨fd, e3, e4⟩ := e2
      rw [e3] at e1
      cases e1
      exact e4
    subst hc
    obtain ⟨c, o, vs, t, e, g, r⟩ := h4
    cases e
    exact ⟨908, o, vs, t, rfl, keep _ _ g (by decide), r⟩
  case own =>
    intro o ho
    have e : ownsOf q = [] := by kernel_rfl
    rw [e] at ho
    cases ho
  case tab =>
    intro d hd
    obtain ⟨a, o, fd, c, P', h1, h2, h3, h4, h5, h6⟩ := T.tab d hd
    have h1' := h1
    rw [hrec d hd] at h1'
    have ha : a = 909 := by rw [hmg] at h1'; cases h1'; rfl
    subst ha
    have ho : o = o909 P := by rw [h909] at h2; exact (Option.some.inj h2).symm
    subst ho
    have hc : c = 908 := by
      have e2 : ∃ fd, (o909 P).data = .func fd ∧ fd.code = .ref 908 := by
        show ∃ fd, (foOf (partsOf (nth pwBody 56)) (Str.ofString "law") (Str.ofString "law") .none .none (.str (Str.ofString "law_kt0081_01") 1364) (.ref 908)).data = .func fd ∧ fd.code = .ref 908
        exact ⟨_, rfl, rfl⟩
      obtain ⟨fd', e3, e4⟩ := e2
      rw [e3] at h3
      cases h3
      rw [e4] at h4
      cases h4; rfl
    subst hc
    obtain ⟨⟨oc, vs, k1, k2, k3, k4⟩, k5⟩ := h6
    have hoc : oc = o908 P := by rw [h908] at k1; exact (Option.some.inj k1).symm
    have hP : P' = 906 := by
      subst hoc
      have : (o908 P).data = .fields vs := k3
      unfold o908 at this
      cases this
      have e : (Value.ref 906) = .ref P' := by simpa using k4
      cases e; rfl
    subst hP
    have h906 := keep _ _ k5 (by decide)
    exact ⟨909, _, fd, 908, 906, h1, keep _ _ h2 (by decide), h3, h4, h5.at2 (fun o e => keep _ _ e (by decide)) (fun o e => keep _ _ e (by decide)), ⟨⟨oc, vs, keep _ _ k1 (by decide), k2, k3, k4⟩, h906⟩⟩
  case seer =>
    intro e
    have z := T.seer e
    exact ⟨let ⟨mc, a, b⟩ := z.statics; ⟨mc, ghost_ns hT a, b⟩, let ⟨mc, a, b⟩ := z.mods; ⟨mc, ghost_ns hT a, b⟩, let ⟨mc, a, b⟩ := z.imp; ⟨mc, ghost_ns hT a, b⟩,
      let ⟨mg, bm, ob, a, b, c, d, e⟩ := z.main; ⟨mg, bm, ob, ghost_ns hT a, b, ghost_get hT c (fun q => by rw [q] at d; cases d), d, e⟩⟩
end
section
open PySem PySem.W PySem.Spec PySem.Calls PyProof.Rows
set_option maxHeartbeats 4000000
/-- what is so of all signs below 128 and of the signs of a text is so of what is laid of it -/
theorem sub1_all {P : Nat → Prop} (h128 : ∀ c, c < 128 → P c) {T : Tbl} (hT : (T.all fun p => p.2.all fun c => decide (c < 128)) = true) {a : Nat} (ha : P a) : ∀ c ∈ sub1 T a, P c := by
  intro c hc
  unfold sub1 at hc
  cases h : T.lookup a with
  | none => rw [h] at hc; rw [List.mem_singleton.mp hc]; exact ha
  | some r =>
    rw [h] at hc
    have := List.all_eq_true.mp (List.all_eq_true.mp hT _ (lookup_mem h)) c hc
    exact h128 c (of_decide_eq_true this)
theorem Esc_all {P : Nat → Prop} (h128 : ∀ c, c < 128 → P c) {T : Tbl} (hT : (T.all fun p => p.2.all fun c => decide (c < 128)) = true) {x : Str} (hx : ∀ c ∈ L x, P c) : ∀ c ∈ L (Esc T x), P c := by
  intro c hc
  rw [L_Esc] at hc
  obtain ⟨a, ha, hc⟩ := List.mem_flatMap.mp hc
  exact sub1_all h128 hT (hx a ha) c hc
theorem app_all {P : Nat → Prop} {x y : Str} (hx : ∀ c ∈ L x, P c) (hy : ∀ c ∈ L y, P c) : ∀ c ∈ L (x ++ y), P c := by
  intro c hc
  rw [L_append] at hc
  rcases List.mem_append.mp hc with h | h
  · exact hx c h
  · exact hy c h
theorem lit_all {P : Nat → Prop} (h128 : ∀ c, c < 128 → P c) (s : String) (h : ((s.toList.map Char.toNat).all fun c => decide (c < 128)) = true) : ∀ c ∈ L (Str.ofString s), P c := by
  intro c hc
  rw [L_lit] at hc
  exact h128 c (of_decide_eq_true (List.all_eq_true.mp h c hc))
theorem txt_all {P : Nat → Prop} (h128 : ∀ c, c < 128 → P c) {b : Array UInt8} (h : ∀ c ∈ b.toList, c.toNat < 128) : ∀ c ∈ L (txt b), P c := by
  intro c hc
  rw [L_txt] at hc
  obtain ⟨d, hd, rfl⟩ := List.mem_map.mp hc
  exact h128 _ (h d hd)
theorem quo_all {P : Nat → Prop} (h128 : ∀ c, c < 128 → P c) {x : Str} (hx : ∀ c ∈ L x, P c) : ∀ c ∈ L (quo x), P c := by
  unfold quo
  split
  · exact lit_all h128 _ (by decide +kernel)
  · split
    · exact hx
    · exact app_all (app_all (lit_all h128 _ (by decide +kernel)) (Esc_all h128 (by decide +kernel) hx)) (lit_all h128 _ (by decide +kernel))
theorem put_all {P : Nat → Prop} (h128 : ∀ c, c < 128 → P c) {pr x : Str} {p0 p1 : Nat} (hp : Two pr p0 p1) (k : Int) (hx : ∀ c ∈ L x, P c) : ∀ c ∈ L (putT k pr x), P c := by
  have lit := @lit_all P h128
  unfold putT
  split
  · exact app_all (app_all (quo_all h128 (lit "d" (by decide +kernel))) (lit " " (by decide +kernel))) (quo_all h128 hx)
  split
  · exact app_all (app_all (lit _ (by decide +kernel)) (Esc_all h128 (by decide +kernel) hx)) (lit _ (by decide +kernel))
  split
  · exact app_all (app_all (lit _ (by decide +kernel)) (Esc_all h128 (by decide +kernel) hx)) (lit _ (by decide +kernel))
  split
  · exact app_all (app_all (lit _ (by decide +kernel)) (Esc_all h128 (by decide +kernel) hx)) (lit _ (by decide +kernel))
  split
  · exact app_all (app_all (lit _ (by decide +kernel)) (Esc_all h128 (by decide +kernel) hx)) (lit _ (by decide +kernel))
  split
  · exact app_all (app_all (lit _ (by decide +kernel)) (Esc_all h128 (by decide +kernel) hx)) (lit _ (by decide +kernel))
  split
  · exact txt_all h128 (b64_lt _)
  split
  · exact txt_all h128 (trans_lt p0 p1 hp.h0 hp.h1 pr hp.l _)
  · exact txt_all h128 (hex_lt _)
theorem quo_len2 (x : Str) : (quo x).length ≤ 5 * x.length + 2 := by
  unfold quo
  have h2 : (Str.ofString "''").length = 2 := by rw [len_lit]; rfl
  have h1 : (Str.ofString "'").length = 1 := by rw [len_lit]; rfl
  have h3 := Esc_len QT x 5 (by decide) (by decide +kernel)
  split
  · omega
  · split
    · lia
    · rw [len_app, len_app]; omega
theorem put_len (k : Int) (pr x : Str) : (putT k pr x).length ≤ 8 * x.length + 9 := by
  have h8 := u8_size x
  have hd : (quo (Str.ofString "d")).length = 1 := by decide +kernel
  unfold putT
  split
  · have := quo_len2 x
    rw [len_app, len_app, hd, len_lit]
    simp only [String.reduceToList, List.length_cons, List.length_nil]; lia
  iterate 5 (
    split
    · rw [len_app, len_app, len_lit, len_lit]
      first
        | (have := Esc_len t_cdata x 6 (by decide) (by decide +kernel); simp only [String.reduceToList, List.length_cons, List.length_nil]; lia)
        | (have := Esc_len t_cdata_c14n x 6 (by decide) (by decide +kernel); simp only [String.reduceToList, List.length_cons, List.length_nil]; lia)
        | (have := Esc_len t_attrib x 6 (by decide) (by decide +kernel); simp only [String.reduceToList, List.length_cons, List.length_nil]; lia)
        | (have := Esc_len t_attrib_c14n x 6 (by decide) (by decide +kernel); simp only [String.reduceToList, List.length_cons, List.length_nil]; lia)
        | (have := Esc_len t_attrib_html x 6 (by decide) (by decide +kernel); simp only [String.reduceToList, List.length_cons, List.length_nil]; lia))
  split
  · rw [b64_sz]; omega
  split
  · rw [trans_sz2, b64_sz]; omega
  · rw [hex_sz]; lia
end
section
open PySem PySem.W PySem.Spec PySem.Calls PyProof.Rows
/-- a sum of weighed measures, told by its weights -/
noncomputable def ev (f : Nat → Int) : Nat → List Int → Int
  | _, [] => 0
  | i, a :: r => f i * a + ev f (i + 1) r
noncomputable def u (n : Nat) : Nat → Int := fun j => if j = n then 1 else 0
noncomputable def fk (c : Int) : Nat → Int := fun j => if j = 0 then c else 0
noncomputable def fadd (f g : Nat → Int) : Nat → Int := fun j => f j + g j
noncomputable def fsub (f g : Nat → Int) : Nat → Int := fun j => f j - g j
noncomputable def fml (k : Int) (f : Nat → Int) : Nat → Int := fun j => k * f j
noncomputable def fmr (f : Nat → Int) (k : Int) : Nat → Int := fun j => f j * k
section
variable {f g : Nat → Int} {k : Int}
theorem ev_fadd : ∀ (i : Nat) (x : List Int), ev (fadd f g) i x = ev f i x + ev g i x
  | _, [] => rfl
  | i, a :: r => by
    show (f i + g i) * a + ev (fadd f g) (i + 1) r = f i * a + ev f (i + 1) r + (g i * a + ev g (i + 1) r)
    rw [ev_fadd, Int.add_mul, Int.add_assoc, Int.add_assoc, Int.add_left_comm (g i * a)]
theorem ev_fml : ∀ (i : Nat) (x : List Int), ev (fml k f) i x = k * ev f i x
  | _, [] => (Int.mul_zero k).symm
  | i, a :: r => by
    show k * f i * a + ev (fml k f) (i + 1) r = k * (f i * a + ev f (i + 1) r)
    rw [ev_fml, Int.mul_add, Int.mul_assoc]
theorem ev_fmr (i : Nat) (x : List Int) : ev (fmr f k) i x = ev f i x * k := by
  rw [show fmr f k = fml k f from funext fun j => Int.mul_comm _ _, ev_fml, Int.mul_comm]
theorem ev_fsub (i : Nat) (x : List Int) : ev (fsub f g) i x = ev f i x - ev g i x := by
  rw [show fsub f g = fadd f (fml (-1) g) from funext fun j => by show f j - g j = f j + -1 * g j; rw [Int.neg_one_mul]; rfl, ev_fadd, ev_fml, Int.neg_one_mul]; rfl
theorem ev_eq : ∀ (i : Nat) (x : List Int), (∀ j, j < x.length → f (i + j) = g (i + j)) → ev f i x = ev g i x
  | _, [], _ => rfl
  | i, a :: r, h => by
    show f i * a + ev f (i + 1) r = g i * a + ev g (i + 1) r
    rw [show f i = g i from h 0 (Nat.succ_pos _), ev_eq (i + 1) r fun j hj => by rw [Nat.add_assoc, Nat.add_comm 1 j]; exact h (j + 1) (Nat.succ_lt_succ hj)]
theorem ev_no (i : Nat) : ∀ (x : List Int) (hf : ∀ j, i ≤ j → f j = 0), ev f i x = 0
  | [], _ => rfl
  | a :: r, hf => by
    show f i * a + ev f (i + 1) r = 0
    rw [hf i (Nat.le_refl i), Int.zero_mul, Int.zero_add, ev_no (i + 1) r fun j hj => hf j (Nat.le_of_succ_le hj)]
theorem ev_u (n : Nat) : ∀ (i : Nat) (x : List Int), i ≤ n → ev (u n) i x = x.getD (n - i) 0
  | i, [], _ => by rw [List.getD_nil]; rfl
  | i, a :: r, h => by
    show (if i = n then (1:Int) else 0) * a + ev (u n) (i + 1) r = _
    by_cases e : i = n
    · subst e
      rw [if_pos rfl, Int.one_mul, ev_no (f := u i) (i + 1) r fun j hj => if_neg (Nat.ne_of_gt hj), Nat.sub_self, Int.add_zero]; rfl
    · rw [if_neg e, Int.zero_mul, Int.zero_add, ev_u n (i + 1) r (Nat.lt_of_le_of_ne h e), show n - i = n - (i + 1) + 1 from (Nat.sub_add_cancel (Nat.sub_pos_of_lt (Nat.lt_of_le_of_ne h e))).symm]; rfl
theorem ev_fk (c : Int) (r : List Int) : ev (fk c) 0 (1 :: r) = c := by
  show c * 1 + ev (fk c) 1 r = c
  rw [Int.mul_one, ev_no (f := fk c) 1 r fun j hj => if_neg (Nat.ne_of_gt hj), Int.add_zero]
end
/-- what is counted of a text -/
noncomputable def mu : List (List Nat → Nat) := [List.length, octs, List.count 38, List.count 60, List.count 62, List.count 34, List.count 39, List.count 13, List.count 10, List.count 9]
noncomputable def cl (l : List Nat) : List Int := [(l.length : Int), (octs l : Int), (l.count 38 : Int), (l.count 60 : Int), (l.count 62 : Int), (l.count 34 : Int), (l.count 39 : Int), (l.count 13 : Int), (l.count 10 : Int), (l.count 9 : Int)]
noncomputable def keys : List Nat := [38, 60, 62, 34, 39, 13, 10, 9]
noncomputable def pos (k : Nat) : Nat := 3 + keys.idxOf k
theorem at_pos1 (l : List Nat) {k : Nat} (h : keys.contains k = true) : ev (u (pos k)) 0 (1 :: cl l) = (l.count k : Int) := by
  rw [ev_u _ _ _ (Nat.zero_le _)]
  have h := List.contains_iff_mem.mp h
  simp only [keys, List.mem_cons, List.not_mem_nil, or_false] at h
  rcases h with rfl | rfl | rfl | rfl | rfl | rfl | rfl | rfl <;> rfl
/-- the weights of what a table writes -/
noncomputable def cf (g : Nat → List Nat → Nat) : Tbl → Nat → Int
  | [] => fk 0
  | (k, r) :: T => fadd (fml (g k r : Int) (u (pos k))) (cf g T)
theorem wt_cf (g : Nat → List Nat → Nat) (l : List Nat) : ∀ T : Tbl, (T.all fun p => keys.contains p.1) = true → (wt g l T : Int) = ev (cf g T) 0 (1 :: cl l)
  | [], _ => (ev_fk 0 _).symm
  | (k, r) :: T, h => by
    rw [List.all_cons, Bool.and_eq_true] at h
    show ((g k r * l.count k + wt g l T : Nat) : Int) = ev (fadd _ _) 0 _
    rw [ev_fadd, ev_fml, at_pos1 l h.1, ← wt_cf g l T h.2, Int.natCast_add, Int.natCast_mul]
/-- the weights of a measure of what stands between two texts, written by a table -/
noncomputable def lhs (T : Tbl) (a b : List Nat) (n : Nat) (f : List Nat → Nat) : Nat → Int := fadd (fk (f a : Int)) (fadd (fsub (fadd (u n) (cf (fun _ r => f r) T)) (cf (fun k _ => f [k]) T)) (fk (f b : Int)))
theorem lhs_is (T : Tbl) (hT : (T.map (·.1)).Nodup) (hk : (T.all fun p => keys.contains p.1) = true) (a b l : List Nat) {n : Nat} {f : List Nat → Nat} (f0 : f [] = 0) (fa : ∀ a b, f (a ++ b) = f a + f b) (hn : ev (u n) 0 (1 :: cl l) = (f l : Int)) :
    (f (a ++ l.flatMap (sub1 T) ++ b) : Int) = ev (lhs T a b n f) 0 (1 :: cl l) := by
  have h := congrArg (Nat.cast (R := Int)) (wt_all f f0 fa T hT l)
  rw [Int.natCast_add, Int.natCast_add, wt_cf _ l T hk, wt_cf _ l T hk] at h
  rw [fa, fa, Int.natCast_add, Int.natCast_add]
  unfold lhs
  rw [ev_fadd, ev_fadd, ev_fsub, ev_fadd, ev_fk, ev_fk, hn, ← h, Int.add_sub_cancel, Int.add_assoc]
/-- the law's own reckoning of a row, by weights -/
noncomputable def nextF (kind : Int) (bare : Bool) : List (Nat → Int) :=
  if kind = 0 then (if bare = true then [fadd (u 1) (fk 2), fadd (u 2) (fk 2), u 3, u 4, u 5, u 6, u 7, u 8, u 9, u 10]
    else [fadd (u 1) (fadd (fk 4) (fml 4 (u 7))), fadd (u 2) (fadd (fk 4) (fml 4 (u 7))), u 3, u 4, u 5, fadd (u 6) (fml 2 (u 7)), fadd (fml 3 (u 7)) (fk 2), u 8, u 9, u 10])
  else
    let less := fmr (u 4) (b01 (kind ≠ 5))
    let more := fmr (u 5) (b01 (kind ≠ 4))
    let quote_v := fmr (u 6) (b01 (2 < kind))
    let cr := fmr (u 8) (b01 (1 < kind ∧ kind < 5))
    let lf := fmr (u 9) (b01 (2 < kind ∧ kind < 5))
    let tab := fmr (u 10) (b01 (2 < kind ∧ kind < 5))
    let sharp : Int := if kind < 3 then 2 else 1
    let laid := fadd (fadd (fadd (fml 4 (fadd (fadd (fadd (u 3) cr) lf) tab)) (fml 3 (fadd less more))) (fml 5 quote_v)) (fk (if kind < 3 then 7 else 9))
    [fadd (u 1) laid, fadd (u 2) laid, fadd (fadd (fadd (fadd (fadd (fadd (u 3) less) more) quote_v) cr) lf) tab, fadd (fsub (u 4) less) (fk sharp), fadd (fsub (u 5) more) (fk sharp), fadd (fsub (u 6) quote_v) (fk (if kind < 3 then 0 else 2)), u 7, fsub (u 8) cr, fsub (u 9) lf, fsub (u 10) tab]
theorem nextF_is (k : Int) (hk : ¬ k > 5) (b : Bool) (l : List Nat) : nextL k b (cl l) = (nextF k b).map fun f => ev f 0 (1 :: cl l) := by
  have e : ∀ n, ev (u n) 0 (1 :: cl l) = (1 :: cl l).getD n 0 := fun n => ev_u n 0 _ (Nat.zero_le n)
  show nextRow k b _ _ _ _ _ _ _ _ _ _ = _
  unfold nextRow nextF
  rw [if_neg hk]
  split
  · split <;> (simp only [List.map_cons, List.map_nil, ev_fadd, ev_fml, ev_fk, e]; rfl)
  · simp only [List.map_cons, List.map_nil, ev_fadd, ev_fsub, ev_fml, ev_fmr, ev_fk, e]; rfl
theorem map_ev (x : List Int) (hx : x.length = 11) : ∀ G F : List (Nat → Int), G.length = F.length → ((G.zip F).all fun z => (List.range 11).all fun i => z.1 i == z.2 i) = true → (G.map fun f => ev f 0 x) = F.map fun f => ev f 0 x
  | [], [], _, _ => rfl
  | a :: G, b :: F, hl, c => by
    rw [List.zip_cons_cons, List.all_cons, Bool.and_eq_true] at c
    rw [List.map_cons, List.map_cons, map_ev x hx G F (Nat.succ.inj hl) c.2]
    refine congrArg (· :: _) (ev_eq (f := a) (g := b) 0 x fun j hj => ?_)
    rw [Nat.zero_add]
    exact eq_of_beq (List.all_eq_true.mp c.1 j (List.mem_range.mpr (hx ▸ hj)))
noncomputable def chk (k : Int) (b : Bool) (T : Tbl) (p q : List Nat) : Bool :=
  (((mu.zipIdx 1).map fun f => lhs T p q f.2 f.1).zip (nextF k b)).all (fun z => (List.range 11).all fun i => z.1 i == z.2 i) && (nextF k b).length == 10
/-- a row of the law, where the weights agree -/
theorem row_of {k : Int} {b : Bool} {T : Tbl} {p q : List Nat} (l : List Nat) (hT : (T.map (·.1)).Nodup) (hK : (T.all fun p => keys.contains p.1) = true) (hk : ¬ k > 5) (c : chk k b T p q = true) : cl (p ++ l.flatMap (sub1 T) ++ q) = nextL k b (cl l) := by
  rw [nextF_is k hk]
  unfold chk at c
  rw [Bool.and_eq_true] at c
  obtain ⟨c1, c2⟩ := c
  generalize nextF k b = F at c1 c2
  have hL : cl (p ++ l.flatMap (sub1 T) ++ q) = ((mu.zipIdx 1).map fun f => lhs T p q f.2 f.1).map fun f => ev f 0 (1 :: cl l) := by
    have g : ∀ n (f : List Nat → Nat), f [] = 0 → (∀ a b, f (a ++ b) = f a + f b) → (1 :: cl l).getD n 0 = (f l : Int) → (f (p ++ l.flatMap (sub1 T) ++ q) : Int) = ev (lhs T p q n f) 0 (1 :: cl l) := fun n f f0 fa hn => lhs_is T hT hK p q l f0 fa ((ev_u n 0 _ (Nat.zero_le n)).trans hn)
    have gc : ∀ n c, (1 :: cl l).getD n 0 = (l.count c : Int) → ((p ++ l.flatMap (sub1 T) ++ q).count c : Int) = ev (lhs T p q n (List.count c)) 0 (1 :: cl l) := fun n c hn => g n (List.count c) rfl (fun a b => List.count_append) hn
    show [_, _, _, _, _, _, _, _, _, _] = [_, _, _, _, _, _, _, _, _, _]
    rw [g 1 List.length rfl (fun _ _ => List.length_append) rfl, g 2 octs rfl octs_append rfl, gc 3 38 rfl, gc 4 60 rfl, gc 5 62 rfl, gc 6 34 rfl, gc 7 39 rfl, gc 8 13 rfl, gc 9 10 rfl, gc 10 9 rfl]
  exact hL.trans (map_ev _ rfl _ _ (by rw [eq_of_beq c2]; rfl) c1)
end
section
open PySem PySem.W PySem.Spec PySem.Calls PyProof.Rows
set_option maxHeartbeats 4000000
theorem u8_octs (x : Str) : (u8 x).size = octs (L x) := by
  rw [← Array.length_toList, enc_toList]; rfl
theorem cnt_cl (x : Str) : cnt x = cl (L x) := by
  unfold cnt cl eight
  rw [u8_octs, ← L_length]; rfl
theorem octs_ascii : ∀ l : List Nat, (∀ c ∈ l, c < 128) → octs l = l.length
  | [], _ => rfl
  | a :: l, h => by
    rw [octs_cons, octs_ascii l (fun c hc => h c (List.mem_cons_of_mem _ hc)), List.length_cons]
    have ha := h a List.mem_cons_self
    have : (Str.utf8Of a).length = 1 := by unfold Str.utf8Of; rw [if_pos (by omega)]; rfl
    lia
theorem isS_lt {c : Nat} (h : isS c = true) : c < 128 := by
  unfold isS at h
  have h := of_decide_eq_true h
  have key : (L SAFE).all (fun c => decide (c < 128)) = true := by decide +kernel
  exact of_decide_eq_true (List.all_eq_true.mp key c h)
theorem isS_no (l : List Nat) (h : ∀ c ∈ l, isS c = true) (d : Nat) (hd : isS d = false) : l.count d = 0 := by
  refine List.count_eq_zero.mpr fun hm => ?_
  have := h d hm
  rw [hd] at this; cases this
theorem cl_safe (l : List Nat) (h : ∀ c ∈ l, isS c = true) : cl l = [(l.length : Int), (l.length : Int), 0, 0, 0, 0, 0, 0, 0, 0] := by
  unfold cl
  rw [octs_ascii l (fun c hc => isS_lt (h c hc)), isS_no l h 38 (by decide +kernel), isS_no l h 60 (by decide +kernel), isS_no l h 62 (by decide +kernel), isS_no l h 34 (by decide +kernel), isS_no l h 39 (by decide +kernel), isS_no l h 13 (by decide +kernel), isS_no l h 10 (by decide +kernel), isS_no l h 9 (by decide +kernel)]
  rfl
theorem b64_safe (b : Array UInt8) : ∀ c ∈ L (txt (b64B b)), isS c = true := by
  intro c hc
  rw [L_b64] at hc
  have key : (b64L.all fun c => isS c.toNat) = true := by decide +kernel
  rcases List.mem_append.mp hc with h | h
  · obtain ⟨k, _, rfl⟩ := List.mem_map.mp h
    have hr := figN_range 6 b.toList k
    unfold b64T
    rw [Int.toNat_natCast]
    have hlt : (figN 6 b.toList k).toNat < b64L.length := by
      have : b64L.length = 64 := by decide
      have h2 : (2:Int) ^ 6 = 64 := by decide
      rw [this]; lia
    rw [List.getD_eq_getElem?_getD, List.getElem?_eq_getElem hlt]
    exact List.all_eq_true.mp key _ (List.getElem_mem hlt)
  · rw [(List.mem_replicate.mp h).2]; decide +kernel
theorem trans_safe (p0 p1 : Nat) (h0 : isS p0 = true) (h1 : isS p1 = true) (pr : Str) (hp : L pr = [p0, p1]) (b : Array UInt8) : ∀ c ∈ L (txt (trans (mkt #[43, 47] (asc pr)) (b64B b))), isS c = true := by
  intro c hc
  rw [L_trans p0 p1 (isS_lt h0) (isS_lt h1) pr hp] at hc
  obtain ⟨d, hd, rfl⟩ := List.mem_map.mp hc
  split
  · exact h1
  · split
    · exact h0
    · exact b64_safe b d hd
theorem hex_safe (b : Array UInt8) : ∀ c ∈ L (txt (upB (hexB b))), isS c = true := by
  intro c hc
  rw [L_hex] at hc
  obtain ⟨n, hn, rfl⟩ := List.mem_map.mp hc
  obtain ⟨d, _, hd⟩ := List.mem_flatMap.mp hn
  have hd' := d.toNat_lt
  have key : ∀ n, n < 16 → isS (hexUp n) = true := by decide +kernel
  simp only [nib, List.mem_cons, List.not_mem_nil, or_false] at hd
  rcases hd with rfl | rfl
  · exact key _ (by lia)
  · exact key _ (by omega)
/-- rows of what is coded -/
theorem cnt_safe {x : Str} (h : ∀ c ∈ L x, isS c = true) : cnt x = [(x.length : Int), (x.length : Int), 0, 0, 0, 0, 0, 0, 0, 0] := by
  rw [cnt_cl, cl_safe _ h, L_length]
theorem bareT_safe {x : Str} (h : ∀ c ∈ L x, isS c = true) : bareT x = decide (x.length ≠ 0) := by
  unfold bareT
  rw [List.all_eq_true.mpr h, Bool.and_true]
theorem bareT_not {x : Str} {c : Nat} (hc : c ∈ L x) (h : isS c = false) : bareT x = false := by
  unfold bareT
  rw [List.all_eq_false.mpr ⟨c, hc, by rw [h]; exact Bool.false_ne_true⟩, Bool.and_false]
theorem nextL_cl (k : Int) (b : Bool) (l : List Nat) : nextL k b (cl l) = nextRow k b l.length (octs l) (l.count 38) (l.count 60) (l.count 62) (l.count 34) (l.count 39) (l.count 13) (l.count 10) (l.count 9) := rfl
theorem row_1 (b : Bool) (pr x : Str) : cnt (putT 1 pr x) = nextL 1 b (cnt x) := by
  have e : L (putT 1 pr x) = [60, 100, 62] ++ (L x).flatMap (sub1 t_cdata) ++ [60, 47, 100, 62] := by
    show L (Str.ofString "<d>" ++ Esc t_cdata x ++ Str.ofString "</d>") = _
    rw [L_append, L_append, L_Esc, L_lit, L_lit]; rfl
  rw [cnt_cl, cnt_cl, e]
  exact row_of (L x) nd_t_cdata (by decide +kernel) (by decide) (by cases b <;> decide +kernel)
theorem row_2 (b : Bool) (pr x : Str) : cnt (putT 2 pr x) = nextL 2 b (cnt x) := by
  have e : L (putT 2 pr x) = [60, 100, 62] ++ (L x).flatMap (sub1 t_cdata_c14n) ++ [60, 47, 100, 62] := by
    show L (Str.ofString "<d>" ++ Esc t_cdata_c14n x ++ Str.ofString "</d>") = _
    rw [L_append, L_append, L_Esc, L_lit, L_lit]; rfl
  rw [cnt_cl, cnt_cl, e]
  exact row_of (L x) nd_t_cdata_c14n (by decide +kernel) (by decide) (by cases b <;> decide +kernel)
theorem row_3 (b : Bool) (pr x : Str) : cnt (putT 3 pr x) = nextL 3 b (cnt x) := by
  have e : L (putT 3 pr x) = [60, 100, 32, 107, 61, 34] ++ (L x).flatMap (sub1 t_attrib) ++ [34, 47, 62] := by
    show L (Str.ofString "<d k=\"" ++ Esc t_attrib x ++ Str.ofString "\"/>") = _
    rw [L_append, L_append, L_Esc, L_lit, L_lit]; rfl
  rw [cnt_cl, cnt_cl, e]
  exact row_of (L x) nd_t_attrib (by decide +kernel) (by decide) (by cases b <;> decide +kernel)
theorem row_4 (b : Bool) (pr x : Str) : cnt (putT 4 pr x) = nextL 4 b (cnt x) := by
  have e : L (putT 4 pr x) = [60, 100, 32, 107, 61, 34] ++ (L x).flatMap (sub1 t_attrib_c14n) ++ [34, 47, 62] := by
    show L (Str.ofString "<d k=\"" ++ Esc t_attrib_c14n x ++ Str.ofString "\"/>") = _
    rw [L_append, L_append, L_Esc, L_lit, L_lit]; rfl
  rw [cnt_cl, cnt_cl, e]
  exact row_of (L x) nd_t_attrib_c14n (by decide +kernel) (by decide) (by cases b <;> decide +kernel)
theorem row_5 (b : Bool) (pr x : Str) : cnt (putT 5 pr x) = nextL 5 b (cnt x) := by
  have e : L (putT 5 pr x) = [60, 100, 32, 107, 61, 34] ++ (L x).flatMap (sub1 t_attrib_html) ++ [34, 47, 62] := by
    show L (Str.ofString "<d k=\"" ++ Esc t_attrib_html x ++ Str.ofString "\"/>") = _
    rw [L_append, L_append, L_Esc, L_lit, L_lit]; rfl
  rw [cnt_cl, cnt_cl, e]
  exact row_of (L x) nd_t_attrib_html (by decide +kernel) (by decide) (by cases b <;> decide +kernel)
theorem isS_bare : ∀ c, isS c = bare1 c := by
  have key : ∀ c, c < 256 → isS c = bare1 c := by decide +kernel
  intro c
  by_cases h : c < 256
  · exact key c h
  · have h1 : isS c = false := by
      cases q : isS c with
      | false => rfl
      | true => exact absurd (isS_lt q) (by omega)
    have h2 : bare1 c = false := by
      unfold bare1 Sre.isWord Sre.isDigit
      simp
      omega
    rw [h1, h2]
theorem quo_bare (x : Str) : quo x = if bareT x = true then x else Str.ofString "'" ++ Esc QT x ++ Str.ofString "'" := by
  have hs : (L x).all isS = safeT x := by
    unfold safeT
    congr 1
    funext c
    exact isS_bare c
  unfold quo bareT
  rw [hs]
  by_cases h0 : x.length = 0
  · have hx : x = Str.ofString "" := L_inj (List.length_eq_zero_iff.mp ((L_length x).trans h0))
    subst hx
    decide +kernel
  · rw [if_neg h0, decide_eq_true h0, Bool.true_and]
theorem QT_same : QT = QT0 := rfl
theorem flat_none : ∀ l : List Nat, l.flatMap (sub1 []) = l
  | [] => rfl
  | a :: l => congrArg (a :: ·) (flat_none l)
theorem row_0t (pr x : Str) (hb : bareT x = true) : cnt (putT 0 pr x) = nextL 0 true (cnt x) := by
  have e : L (putT 0 pr x) = [100, 32] ++ (L x).flatMap (sub1 []) ++ [] := by
    show L (quo (Str.ofString "d") ++ Str.ofString " " ++ quo x) = _
    rw [quo_bare x, if_pos hb, L_append, L_append, show L (quo (Str.ofString "d")) = [100] from by decide +kernel, L_lit, flat_none, List.append_nil]; rfl
  rw [cnt_cl, cnt_cl, e]
  exact row_of (L x) (by decide) (by decide) (by decide) (by decide +kernel)
theorem row_0f (pr x : Str) (hb : bareT x = false) : cnt (putT 0 pr x) = nextL 0 false (cnt x) := by
  have e : L (putT 0 pr x) = [100, 32, 39] ++ (L x).flatMap (sub1 QT0) ++ [39] := by
    show L (quo (Str.ofString "d") ++ Str.ofString " " ++ quo x) = _
    rw [quo_bare x, if_neg (by rw [hb]; exact Bool.false_ne_true), L_append, L_append, L_append, L_append, L_Esc, QT_same, show L (quo (Str.ofString "d")) = [100] from by decide +kernel, L_lit, L_lit]; rfl
  rw [cnt_cl, cnt_cl, e]
  exact row_of (L x) nd_QT0 (by decide +kernel) (by decide) (by decide +kernel)
theorem row_6 (b : Bool) (pr x : Str) : cnt (putT 6 pr x) = nextL 6 b (cnt x) := by
  show cnt (txt (b64B (u8 x))) = _
  rw [cnt_safe (b64_safe _), b64_sz, cnt_cl, nextL_cl, u8_octs]
  simp only [nextRow, Int.reduceGT, Int.reduceEq, if_true, if_false]
  rw [Int.fdiv_eq_ediv_of_nonneg _ (by decide)]
  congr 1
  try omega
theorem row_7 (b : Bool) (pr x : Str) (p0 p1 : Nat) (h0 : isS p0 = true) (h1 : isS p1 = true) (hp : L pr = [p0, p1]) : cnt (putT 7 pr x) = nextL 7 b (cnt x) := by
  show cnt (txt (trans (mkt #[43, 47] (asc pr)) (b64B (u8 x)))) = _
  rw [cnt_safe (trans_safe p0 p1 h0 h1 pr hp _), trans_sz2, b64_sz, cnt_cl, nextL_cl, u8_octs]
  simp only [nextRow, Int.reduceGT, Int.reduceEq, if_true, if_false]
  rw [Int.fdiv_eq_ediv_of_nonneg _ (by decide)]
  congr 1
  try omega
theorem row_8 (b : Bool) (pr x : Str) : cnt (putT 8 pr x) = nextL 8 b (cnt x) := by
  show cnt (txt (upB (hexB (u8 x)))) = _
  rw [cnt_safe (hex_safe _), hex_sz, cnt_cl, nextL_cl, u8_octs]
  simp only [nextRow, Int.reduceGT, Int.reduceEq, if_true]
  congr 1
theorem row_any (k : Int) (hk : 0 ≤ k ∧ k ≤ 8) (pr x : Str) (p0 p1 : Nat) (h0 : isS p0 = true) (h1 : isS p1 = true) (hp : L pr = [p0, p1]) : cnt (putT k pr x) = nextL k (bareT x) (cnt x) := by
  rcases nine hk with rfl | rfl | rfl | rfl | rfl | rfl | rfl | rfl | rfl
  · cases hb : bareT x with
    | true => exact row_0t pr x hb
    | false => exact row_0f pr x hb
  · exact row_1 _ pr x
  · exact row_2 _ pr x
  · exact row_3 _ pr x
  · exact row_4 _ pr x
  · exact row_5 _ pr x
  · exact row_6 _ pr x
  · exact row_7 _ pr x p0 p1 h0 h1 hp
  · exact row_8 _ pr x
theorem bare_any (k : Int) (hk : 0 ≤ k ∧ k ≤ 8) (pr x : Str) (p0 p1 : Nat) (h0 : isS p0 = true) (h1 : isS p1 = true) (hp : L pr = [p0, p1]) : bareT (putT k pr x) = (decide (k > 5) && decide ((cnt (putT k pr x)).getD 0 0 > 0)) := by
  have safe : (∀ c ∈ L (putT k pr x), isS c = true) → k > 5 → bareT (putT k pr x) = (decide (k > 5) && decide ((cnt (putT k pr x)).getD 0 0 > 0)) := by
    intro h hk5
    rw [bareT_safe h, cnt_safe h, decide_eq_true hk5, Bool.true_and]
    show _ = decide (((putT k pr x).length : Int) > 0)
    by_cases z : (putT k pr x).length = 0
    · rw [z]; rfl
    · rw [decide_eq_true z, decide_eq_true (by lia)]
  have inL : ∀ (a b : String) (y : Str) (c : Nat), c ∈ a.toList.map Char.toNat → c ∈ L (Str.ofString a ++ y ++ Str.ofString b) := by
    intro a b y c hc
    rw [L_append, L_append, L_lit]
    exact List.mem_append_left _ (List.mem_append_left _ hc)
  rcases nine hk with rfl | rfl | rfl | rfl | rfl | rfl | rfl | rfl | rfl
  · rw [bareT_not (c := 32) ?_ (by decide +kernel)]; · rfl
    show 32 ∈ L (quo (Str.ofString "d") ++ Str.ofString " " ++ quo x)
    rw [L_append, L_append, L_lit]
    exact List.mem_append_left _ (List.mem_append_right _ (by decide))
  · rw [bareT_not (show 60 ∈ L (putT 1 pr x) from inL "<d>" "</d>" (Esc t_cdata x) 60 (by decide)) (by decide +kernel)]; rfl
  · rw [bareT_not (show 60 ∈ L (putT 2 pr x) from inL "<d>" "</d>" (Esc t_cdata_c14n x) 60 (by decide)) (by decide +kernel)]; rfl
  · rw [bareT_not (show 60 ∈ L (putT 3 pr x) from inL "<d k=\"" "\"/>" (Esc t_attrib x) 60 (by decide)) (by decide +kernel)]; rfl
  · rw [bareT_not (show 60 ∈ L (putT 4 pr x) from inL "<d k=\"" "\"/>" (Esc t_attrib_c14n x) 60 (by decide)) (by decide +kernel)]; rfl
  · rw [bareT_not (show 60 ∈ L (putT 5 pr x) from inL "<d k=\"" "\"/>" (Esc t_attrib_html x) 60 (by decide)) (by decide +kernel)]; rfl
  · exact safe (b64_safe _) (by decide)
  · exact safe (trans_safe p0 p1 h0 h1 pr hp _) (by decide)
  · exact safe (hex_safe _) (by decide)
theorem rows_any (pr x : Str) (p0 p1 : Nat) (h0 : isS p0 = true) (h1 : isS p1 = true) (hp : L pr = [p0, p1]) (ks : List Int) (hks : ∀ k ∈ ks, 0 ≤ k ∧ k ≤ 8) : ∀ i, i ≤ ks.length → cnt (mailAt pr x ks i) = (rowAt x ks i).1 ∧ bareT (mailAt pr x ks i) = (rowAt x ks i).2
  | 0, _ => ⟨rfl, rfl⟩
  | i + 1, hi => by
    obtain ⟨e1, e2⟩ := rows_any pr x p0 p1 h0 h1 hp ks hks i (by omega)
    have hk : ks[i]? = some ks[i] := List.getElem?_eq_getElem (by omega)
    have hkk := hks _ (List.mem_of_getElem? hk)
    have hd : ks.getD i 0 = ks[i] := by rw [List.getD_eq_getElem?_getD, hk]; rfl
    rw [mailAt_succ hk]
    have r := row_any ks[i] hkk pr (mailAt pr x ks i) p0 p1 h0 h1 hp
    refine ⟨?_, ?_⟩
    · show _ = nextL (ks.getD i 0) (rowAt x ks i).2 (rowAt x ks i).1
      rw [r, hd, e1, e2]
    · show _ = (decide (ks.getD i 0 > 5) && decide ((nextL (ks.getD i 0) (rowAt x ks i).2 (rowAt x ks i).1).getD 0 0 > 0))
      rw [bare_any ks[i] hkk pr _ p0 p1 h0 h1 hp, r, hd, e1, e2]
end
section
open PySem PySem.W PySem.Spec PySem.Calls PyProof.Rows
set_option maxHeartbeats 4000000
theorem slice_of (a b y : Str) (na nb : Nat) (ha : a.length = na) (hb : b.length = nb) (h0 : 0 < nb) {z : Str} {i j : Int} (hz : z = a ++ y ++ b) (hi : i = (na : Int)) (hj : j = -(nb : Int)) : L (Txt.slice z (some i) (some j)) = L y := by
  subst hz hi hj
  have hl : (a ++ y ++ b).length = na + y.length + nb := by rw [len_app, len_app, ha, hb]
  rw [L_slice_mid _ h0 (by rw [hl]; lia), hl, L_append, L_append, List.append_assoc, List.drop_append_of_le_length (by rw [L_length, ha]; exact Nat.le_refl _), List.drop_of_length_le (by rw [L_length, ha]; exact Nat.le_refl _), List.nil_append, List.take_append_of_le_length (by rw [L_length]; omega), List.take_of_length_le (by rw [L_length]; omega)]
theorem unesc_1 (pr x : Str) : unesc (pairs 1) (Txt.slice (putT 1 pr x) (some 3) (some (-4))) = x ∧ (Txt.slice (putT 1 pr x) (some 3) (some (-4))).length ≤ 6 * x.length := by
  have hs : L (Txt.slice (putT 1 pr x) (some 3) (some (-4))) = L (Esc t_cdata x) := slice_of (Str.ofString "<d>") (Str.ofString "</d>") (Esc t_cdata x) 3 4 (by rw [len_lit]; decide) (by rw [len_lit]; decide) (by decide) (by kernel_rfl) rfl rfl
  refine ⟨?_, by rw [← L_length, hs, L_length]; exact Esc_len t_cdata x 6 (by decide) (by decide +kernel)⟩
  apply L_inj
  rw [L_unesc _ (by decide +kernel), hs, L_Esc]
  have hp : (pairs 1).map (fun p => (L p.1, p.2)) = ([([38, 108, 116, 59], 60), ([38, 103, 116, 59], 62), ([38, 113, 117, 111, 116, 59], 34), ([38, 35, 120, 57, 59], 9), ([38, 35, 120, 65, 59], 10), ([38, 35, 120, 68, 59], 13)] : List (List Nat × Nat)) ++ [([38, 97, 109, 112, 59], 38)] := by decide +kernel
  rw [hp]
  refine unesc_all t_cdata _ _ ⟨[97, 109, 112], rfl, by decide, by decide⟩ (by rfl) ?_ (by decide) (by decide) ?_ (by decide) (by decide) _
  · intro p hp
    simp only [List.mem_cons, List.not_mem_nil, or_false] at hp
    rcases hp with rfl | rfl | rfl | rfl | rfl | rfl
    · exact ⟨[108, 116], rfl, by decide, by decide⟩
    · exact ⟨[103, 116], rfl, by decide, by decide⟩
    · exact ⟨[113, 117, 111, 116], rfl, by decide, by decide⟩
    · exact ⟨[35, 120, 57], rfl, by decide, by decide⟩
    · exact ⟨[35, 120, 65], rfl, by decide, by decide⟩
    · exact ⟨[35, 120, 68], rfl, by decide, by decide⟩
  · intro p hp
    simp only [t_cdata, List.mem_cons, List.not_mem_nil, or_false] at hp
    rcases hp with rfl | rfl | rfl
    · exact ⟨[97, 109, 112], rfl, by decide, by decide⟩
    · exact ⟨[108, 116], rfl, by decide, by decide⟩
    · exact ⟨[103, 116], rfl, by decide, by decide⟩
theorem unesc_2 (pr x : Str) : unesc (pairs 2) (Txt.slice (putT 2 pr x) (some 3) (some (-4))) = x ∧ (Txt.slice (putT 2 pr x) (some 3) (some (-4))).length ≤ 6 * x.length := by
  have hs : L (Txt.slice (putT 2 pr x) (some 3) (some (-4))) = L (Esc t_cdata_c14n x) := slice_of (Str.ofString "<d>") (Str.ofString "</d>") (Esc t_cdata_c14n x) 3 4 (by rw [len_lit]; decide) (by rw [len_lit]; decide) (by decide) (by kernel_rfl) rfl rfl
  refine ⟨?_, by rw [← L_length, hs, L_length]; exact Esc_len t_cdata_c14n x 6 (by decide) (by decide +kernel)⟩
  apply L_inj
  rw [L_unesc _ (by decide +kernel), hs, L_Esc]
  have hp : (pairs 2).map (fun p => (L p.1, p.2)) = ([([38, 108, 116, 59], 60), ([38, 103, 116, 59], 62), ([38, 113, 117, 111, 116, 59], 34), ([38, 35, 120, 57, 59], 9), ([38, 35, 120, 65, 59], 10), ([38, 35, 120, 68, 59], 13)] : List (List Nat × Nat)) ++ [([38, 97, 109, 112, 59], 38)] := by decide +kernel
  rw [hp]
  refine unesc_all t_cdata_c14n _ _ ⟨[97, 109, 112], rfl, by decide, by decide⟩ (by rfl) ?_ (by decide) (by decide) ?_ (by decide) (by decide) _
  · intro p hp
    simp only [List.mem_cons, List.not_mem_nil, or_false] at hp
    rcases hp with rfl | rfl | rfl | rfl | rfl | rfl
    · exact ⟨[108, 116], rfl, by decide, by decide⟩
    · exact ⟨[103, 116], rfl, by decide, by decide⟩
    · exact ⟨[113, 117, 111, 116], rfl, by decide, by decide⟩
    · exact ⟨[35, 120, 57], rfl, by decide, by decide⟩
    · exact ⟨[35, 120, 65], rfl, by decide, by decide⟩
    · exact ⟨[35, 120, 68], rfl, by decide, by decide⟩
  · intro p hp
    simp only [t_cdata_c14n, List.mem_cons, List.not_mem_nil, or_false] at hp
    rcases hp with rfl | rfl | rfl | rfl
    · exact ⟨[97, 109, 112], rfl, by decide, by decide⟩
    · exact ⟨[108, 116], rfl, by decide, by decide⟩
    · exact ⟨[103, 116], rfl, by decide, by decide⟩
    · exact ⟨[35, 120, 68], rfl, by decide, by decide⟩
theorem unesc_3 (pr x : Str) : unesc (pairs 3) (Txt.slice (putT 3 pr x) (some 6) (some (-3))) = x ∧ (Txt.slice (putT 3 pr x) (some 6) (some (-3))).length ≤ 6 * x.length := by
  have hs : L (Txt.slice (putT 3 pr x) (some 6) (some (-3))) = L (Esc t_attrib x) := slice_of (Str.ofString "<d k=\"") (Str.ofString "\"/>") (Esc t_attrib x) 6 3 (by rw [len_lit]; decide) (by rw [len_lit]; decide) (by decide) (by kernel_rfl) rfl rfl
  refine ⟨?_, by rw [← L_length, hs, L_length]; exact Esc_len t_attrib x 6 (by decide) (by decide +kernel)⟩
  apply L_inj
  rw [L_unesc _ (by decide +kernel), hs, L_Esc]
  have hp : (pairs 3).map (fun p => (L p.1, p.2)) = ([([38, 108, 116, 59], 60), ([38, 103, 116, 59], 62), ([38, 113, 117, 111, 116, 59], 34), ([38, 35, 48, 57, 59], 9), ([38, 35, 49, 48, 59], 10), ([38, 35, 49, 51, 59], 13)] : List (List Nat × Nat)) ++ [([38, 97, 109, 112, 59], 38)] := by decide +kernel
  rw [hp]
  refine unesc_all t_attrib _ _ ⟨[97, 109, 112], rfl, by decide, by decide⟩ (by rfl) ?_ (by decide) (by decide) ?_ (by decide) (by decide) _
  · intro p hp
    simp only [List.mem_cons, List.not_mem_nil, or_false] at hp
    rcases hp with rfl | rfl | rfl | rfl | rfl | rfl
    · exact ⟨[108, 116], rfl, by decide, by decide⟩
    · exact ⟨[103, 116], rfl, by decide, by decide⟩
    · exact ⟨[113, 117, 111, 116], rfl, by decide, by decide⟩
    · exact ⟨[35, 48, 57], rfl, by decide, by decide⟩
    · exact ⟨[35, 49, 48], rfl, by decide, by decide⟩
    · exact ⟨[35, 49, 51], rfl, by decide, by decide⟩
  · intro p hp
    simp only [t_attrib, List.mem_cons, List.not_mem_nil, or_false] at hp
    rcases hp with rfl | rfl | rfl | rfl | rfl | rfl | rfl
    · exact ⟨[97, 109, 112], rfl, by decide, by decide⟩
    · exact ⟨[108, 116], rfl, by decide, by decide⟩
    · exact ⟨[103, 116], rfl, by decide, by decide⟩
    · exact ⟨[113, 117, 111, 116], rfl, by decide, by decide⟩
    · exact ⟨[35, 49, 51], rfl, by decide, by decide⟩
    · exact ⟨[35, 49, 48], rfl, by decide, by decide⟩
    · exact ⟨[35, 48, 57], rfl, by decide, by decide⟩
theorem unesc_4 (pr x : Str) : unesc (pairs 4) (Txt.slice (putT 4 pr x) (some 6) (some (-3))) = x ∧ (Txt.slice (putT 4 pr x) (some 6) (some (-3))).length ≤ 6 * x.length := by
  have hs : L (Txt.slice (putT 4 pr x) (some 6) (some (-3))) = L (Esc t_attrib_c14n x) := slice_of (Str.ofString "<d k=\"") (Str.ofString "\"/>") (Esc t_attrib_c14n x) 6 3 (by rw [len_lit]; decide) (by rw [len_lit]; decide) (by decide) (by kernel_rfl) rfl rfl
  refine ⟨?_, by rw [← L_length, hs, L_length]; exact Esc_len t_attrib_c14n x 6 (by decide) (by decide +kernel)⟩
  apply L_inj
  rw [L_unesc _ (by decide +kernel), hs, L_Esc]
  have hp : (pairs 4).map (fun p => (L p.1, p.2)) = ([([38, 108, 116, 59], 60), ([38, 103, 116, 59], 62), ([38, 113, 117, 111, 116, 59], 34), ([38, 35, 120, 57, 59], 9), ([38, 35, 120, 65, 59], 10), ([38, 35, 120, 68, 59], 13)] : List (List Nat × Nat)) ++ [([38, 97, 109, 112, 59], 38)] := by decide +kernel
  rw [hp]
  refine unesc_all t_attrib_c14n _ _ ⟨[97, 109, 112], rfl, by decide, by decide⟩ (by rfl) ?_ (by decide) (by decide) ?_ (by decide) (by decide) _
  · intro p hp
    simp only [List.mem_cons, List.not_mem_nil, or_false] at hp
    rcases hp with rfl | rfl | rfl | rfl | rfl | rfl
    · exact ⟨[108, 116], rfl, by decide, by decide⟩
    · exact ⟨[103, 116], rfl, by decide, by decide⟩
    · exact ⟨[113, 117, 111, 116], rfl, by decide, by decide⟩
    · exact ⟨[35, 120, 57], rfl, by decide, by decide⟩
    · exact ⟨[35, 120, 65], rfl, by decide, by decide⟩
    · exact ⟨[35, 120, 68], rfl, by decide, by decide⟩
  · intro p hp
    simp only [t_attrib_c14n, List.mem_cons, List.not_mem_nil, or_false] at hp
    rcases hp with rfl | rfl | rfl | rfl | rfl | rfl
    · exact ⟨[97, 109, 112], rfl, by decide, by decide⟩
    · exact ⟨[108, 116], rfl, by decide, by decide⟩
    · exact ⟨[113, 117, 111, 116], rfl, by decide, by decide⟩
    · exact ⟨[35, 120, 57], rfl, by decide, by decide⟩
    · exact ⟨[35, 120, 65], rfl, by decide, by decide⟩
    · exact ⟨[35, 120, 68], rfl, by decide, by decide⟩
theorem unesc_5 (pr x : Str) : unesc (pairs 5) (Txt.slice (putT 5 pr x) (some 6) (some (-3))) = x ∧ (Txt.slice (putT 5 pr x) (some 6) (some (-3))).length ≤ 6 * x.length := by
  have hs : L (Txt.slice (putT 5 pr x) (some 6) (some (-3))) = L (Esc t_attrib_html x) := slice_of (Str.ofString "<d k=\"") (Str.ofString "\"/>") (Esc t_attrib_html x) 6 3 (by rw [len_lit]; decide) (by rw [len_lit]; decide) (by decide) (by kernel_rfl) rfl rfl
  refine ⟨?_, by rw [← L_length, hs, L_length]; exact Esc_len t_attrib_html x 6 (by decide) (by decide +kernel)⟩
  apply L_inj
  rw [L_unesc _ (by decide +kernel), hs, L_Esc]
  have hp : (pairs 5).map (fun p => (L p.1, p.2)) = ([([38, 108, 116, 59], 60), ([38, 103, 116, 59], 62), ([38, 113, 117, 111, 116, 59], 34), ([38, 35, 120, 57, 59], 9), ([38, 35, 120, 65, 59], 10), ([38, 35, 120, 68, 59], 13)] : List (List Nat × Nat)) ++ [([38, 97, 109, 112, 59], 38)] := by decide +kernel
  rw [hp]
  refine unesc_all t_attrib_html _ _ ⟨[97, 109, 112], rfl, by decide, by decide⟩ (by rfl) ?_ (by decide) (by decide) ?_ (by decide) (by decide) _
  · intro p hp
    simp only [List.mem_cons, List.not_mem_nil, or_false] at hp
    rcases hp with rfl | rfl | rfl | rfl | rfl | rfl
    · exact ⟨[108, 116], rfl, by decide, by decide⟩
    · exact ⟨[103, 116], rfl, by decide, by decide⟩
    · exact ⟨[113, 117, 111, 116], rfl, by decide, by decide⟩
    · exact ⟨[35, 120, 57], rfl, by decide, by decide⟩
    · exact ⟨[35, 120, 65], rfl, by decide, by decide⟩
    · exact ⟨[35, 120, 68], rfl, by decide, by decide⟩
  · intro p hp
    simp only [t_attrib_html, List.mem_cons, List.not_mem_nil, or_false] at hp
    rcases hp with rfl | rfl | rfl
    · exact ⟨[97, 109, 112], rfl, by decide, by decide⟩
    · exact ⟨[103, 116], rfl, by decide, by decide⟩
    · exact ⟨[113, 117, 111, 116], rfl, by decide, by decide⟩
theorem L_mul (n : Int) (h0 : 0 ≤ n) (h3 : n < 3) : L (Txt.mul (Str.ofString "=") n) = List.replicate n.toNat 61 := by
  obtain ⟨m, rfl⟩ := Int.eq_ofNat_of_zero_le h0
  exact (by decide +kernel : ∀ j : Nat, j < 3 → L (Txt.mul (Str.ofString "=") (j : Int)) = List.replicate (j : Int).toNat 61) m (Int.ofNat_lt.mp h3)
theorem fill_eq (n : Nat) : (((-(n : Int)).fmod 3)).toNat = (3 - n % 3) % 3 ∧ 0 ≤ (-(n : Int)).fmod 3 ∧ (-(n : Int)).fmod 3 < 3 := by
  rw [Int.fmod_eq_emod_of_nonneg _ (by decide)]
  refine ⟨?_, Int.emod_nonneg _ (by decide), Int.emod_lt_of_pos _ (by decide)⟩
  obtain ⟨m, rfl | rfl | rfl⟩ := third n
  · rw [show -((3 * m : Nat) : Int) = 0 + 3 * -(m : Int) by omega, Int.add_mul_emod_self_left, Nat.mul_mod_right]; rfl
  · rw [show -((3 * m + 1 : Nat) : Int) = 2 + 3 * (-(m : Int) - 1) by omega, Int.add_mul_emod_self_left, Nat.mul_add_mod]; rfl
  · rw [show -((3 * m + 2 : Nat) : Int) = 1 + 3 * (-(m : Int) - 1) by omega, Int.add_mul_emod_self_left, Nat.mul_add_mod]; rfl
theorem coded_6 (pr x : Str) : putT 6 pr x = Txt.join (Str.ofString "") (figs 6 (Str.ofString "ABCDEFGHIJKLMNOPQRSTUVWXYZabcdefghijklmnopqrstuvwxyz0123456789" ++ Str.ofString "+/") (u8 x)) ++ Txt.mul (Str.ofString "=") ((-((u8 x).size : Int)).fmod 3) := by
  apply L_inj
  obtain ⟨e1, e2, e3⟩ := fill_eq (u8 x).size
  rw [L_append, L_mul _ e2 e3, e1]
  exact b64_fig _ _ (by decide +kernel)
theorem coded_7 (pr x : Str) (p0 p1 : Nat) (h0 : p0 < 128) (h1 : p1 < 128) (hp : L pr = [p0, p1]) : putT 7 pr x = Txt.join (Str.ofString "") (figs 6 (Str.ofString "ABCDEFGHIJKLMNOPQRSTUVWXYZabcdefghijklmnopqrstuvwxyz0123456789" ++ pr) (u8 x)) ++ Txt.mul (Str.ofString "=") ((-((u8 x).size : Int)).fmod 3) := by
  apply L_inj
  obtain ⟨e1, e2, e3⟩ := fill_eq (u8 x).size
  rw [L_append, L_mul _ e2 e3, e1]
  refine b64_fig2 p0 p1 h0 h1 pr _ hp _ ?_
  rw [L_append, hp]
  congr 1
  try decide +kernel
theorem coded_8 (pr x : Str) : putT 8 pr x = Txt.join (Str.ofString "") (figs 4 (Str.ofString "0123456789ABCDEF") (u8 x)) := by
  apply L_inj
  exact hex_fig _ _ (by decide +kernel)
theorem str_snoc (tok : Str) (c : Nat) (l : List Nat) : tok ++ (⟨#[c]⟩ : Str) ++ (⟨l.toArray⟩ : Str) = tok ++ (⟨(c :: l).toArray⟩ : Str) := by
  apply L_inj
  simp only [L_append, L_mk]
  rw [List.append_assoc]; rfl
theorem str_nil (tok : Str) : tok ++ (⟨([] : List Nat).toArray⟩ : Str) = tok := by
  apply L_inj
  simp only [L_append, L_mk, List.append_nil]
theorem isS_plain {c : Nat} (h : isS c = true) : isWs c = false ∧ c ≠ 92 ∧ c ≠ 34 ∧ c ≠ 35 ∧ c ≠ 39 ∧ c ≠ 32 ∧ c ≠ 10 := by
  have key : ∀ c, c < 128 → isS c = true → isWs c = false ∧ c ≠ 92 ∧ c ≠ 34 ∧ c ≠ 35 ∧ c ≠ 39 ∧ c ≠ 32 ∧ c ≠ 10 := by decide +kernel
  exact key c (isS_lt h) h
theorem run_A (cm : Bool) (qd : Bool) (rest : List Nat) : ∀ (l : List Nat) (tok : Str) (n : Nat), (∀ c ∈ l, isS c = true) → l.length + 1 ≤ n → tok.length ≠ 0 → run n cm .A tok qd (l ++ 32 :: rest) = some (tok ++ (⟨l.toArray⟩ : Str), qd, .S, rest)
  | [], tok, n + 1, _, _, ht => by
    rw [str_nil, List.nil_append]
    unfold run
    simp [ht]
  | c :: l, tok, n + 1, h, hn, ht => by
    obtain ⟨z1, z2, z3, z4, z5, z6, z7⟩ := isS_plain (h c List.mem_cons_self)
    rw [List.cons_append]
    unfold run
    rw [if_neg (by simp [z6, z7]), if_neg (by simp [z1, z2]), if_neg (by simp [z4]), if_neg z5, if_neg z3]
    rw [run_A cm qd rest l _ n (fun d hd => h d (List.mem_cons_of_mem _ hd)) (by simp at hn; omega) (by rw [len_app]; show tok.length + 1 ≠ 0; lia), str_snoc]
theorem run_Q (cm : Bool) (rest : List Nat) : ∀ (l : List Nat) (tok : Str) (qd : Bool) (n : Nat), 5 * l.length + 2 ≤ n → run n cm .Q1 tok qd (l.flatMap (sub1 QT) ++ 39 :: 32 :: rest) = some (tok ++ (⟨l.toArray⟩ : Str), true, .S, rest)
  | [], tok, qd, n + 2, _ => by
    rw [str_nil, List.flatMap_nil, List.nil_append]
    unfold run
    rw [if_pos rfl]
    unfold run
    simp
  | c :: l, tok, qd, n, hn => by
    rw [List.flatMap_cons, List.append_assoc]
    by_cases h : c = 39
    · subst h
      obtain ⟨m, rfl⟩ : ∃ m, n = m + 5 := ⟨n - 5, by simp at hn; lia⟩
      rw [show sub1 QT 39 = [39, 34, 39, 34, 39] from rfl]
      show run (m + 5) cm .Q1 tok qd (39 :: 34 :: 39 :: 34 :: 39 :: (l.flatMap (sub1 QT) ++ 39 :: 32 :: rest)) = _
      have e1 : run (m + 5) cm .Q1 tok qd (39 :: 34 :: 39 :: 34 :: 39 :: (l.flatMap (sub1 QT) ++ 39 :: 32 :: rest)) = run m cm .Q1 (tok ++ ⟨#[39]⟩) true (l.flatMap (sub1 QT) ++ 39 :: 32 :: rest) := by
        conv => lhs; unfold run
        rw [if_pos rfl]
        conv => lhs; unfold run
        rw [if_neg (by decide), if_neg (by decide), if_neg (by simp), if_neg (by decide), if_pos rfl]
        conv => lhs; unfold run
        rw [if_neg (by decide), if_pos rfl]
        conv => lhs; unfold run
        rw [if_pos rfl]
        conv => lhs; unfold run
        rw [if_neg (by decide), if_neg (by decide), if_neg (by simp), if_pos rfl]
      rw [e1, run_Q cm rest l _ true m (by simp at hn; omega), str_snoc]
    · obtain ⟨m, rfl⟩ : ∃ m, n = m + 1 := ⟨n - 1, by simp at hn; lia⟩
      have e : sub1 QT c = [c] := by
        unfold sub1 QT
        rw [List.lookup_cons, beq_eq_false_iff_ne.mpr h]; rfl
      rw [e, List.singleton_append]
      conv => lhs; unfold run
      rw [if_neg h, run_Q cm rest l _ true m (by simp at hn; omega), str_snoc]
/-- the rest of the line that the law makes -/
noncomputable def tailL : List Nat := [35, 98, 10, 99, 35, 101]
theorem runs_tail_t : Runs true .S tailL [Str.ofString "c"] := by
  refine .next (k := 10) (R := (Str.ofString "c", false, .S, [])) (by rfl) (by decide +kernel) ?_
  exact .stop (k := 10) (R := (Str.ofString "", false, .N, [])) (by rfl) (by decide +kernel)
theorem runs_tail_f : Runs false .S tailL [Str.ofString "#b", Str.ofString "c#e"] := by
  refine .next (k := 10) (R := (Str.ofString "#b", false, .S, [99, 35, 101])) (by rfl) (by decide +kernel) ?_
  refine .next (k := 10) (R := (Str.ofString "c#e", false, .N, [])) (by rfl) (by decide +kernel) ?_
  exact .stop (k := 10) (R := (Str.ofString "", false, .N, [])) (by rfl) (by decide +kernel)
theorem runs_d (cm : Bool) (l : List Nat) (ts : List Str) (h : Runs cm .S l ts) : Runs cm .S (100 :: 32 :: l) (Str.ofString "d" :: ts) := by
  refine .next (k := 3) (R := (Str.ofString "d", false, .S, l)) ?_ (fun q => absurd (show (Str.ofString "d").length = 0 from q.1) (by decide +kernel)) h
  conv => lhs; unfold run
  rw [if_neg (by decide), if_neg (by simp), if_neg (by decide)]
  conv => lhs; unfold run
  rw [if_pos (.inl rfl), if_pos (.inl (by decide))]
  rfl
theorem empty_app (x : Str) : Str.ofString "" ++ x = x := by
  apply L_inj
  rw [L_append, L_lit]; rfl
theorem mk_L (x : Str) : (⟨(L x).toArray⟩ : Str) = x := L_inj rfl
theorem runs_bare (cm : Bool) (x : Str) (hb : bareT x = true) (l : List Nat) (ts : List Str) (h : Runs cm .S l ts) : Runs cm .S (L x ++ 32 :: l) (x :: ts) := by
  unfold bareT at hb
  obtain ⟨h1, h2⟩ := Bool.and_eq_true_iff.mp hb
  have hs := List.all_eq_true.mp h2
  have hl : (L x).length ≠ 0 := by rw [L_length]; exact of_decide_eq_true h1
  refine .next (k := (L x).length + 2) (R := (x, false, .S, l)) ?_ (by rw [← L_length]; exact fun q => hl q.1) h
  cases hx : L x with
  | nil => rw [hx] at hl; exact absurd rfl hl
  | cons c r =>
    obtain ⟨z1, z2, z3, z4, z5, z6, z7⟩ := isS_plain (hs c (by rw [hx]; exact List.mem_cons_self))
    rw [List.cons_append]
    conv => lhs; unfold run
    rw [if_neg (by simp [z1, z2, z3]), if_neg (by simp [z4]), if_neg z5]
    rw [run_A cm false l r _ _ (fun d hd => hs d (by rw [hx]; exact List.mem_cons_of_mem _ hd)) (by simp) (by show (1:Nat) ≠ 0; decide)]
    have : (⟨#[c]⟩ : Str) ++ (⟨r.toArray⟩ : Str) = x := by
      apply L_inj
      rw [L_append, hx]; rfl
    rw [this]
theorem runs_quoted (cm : Bool) (x : Str) (l : List Nat) (ts : List Str) (h : Runs cm .S l ts) : Runs cm .S (39 :: (L (Esc QT x) ++ 39 :: 32 :: l)) (x :: ts) := by
  refine .next (k := 5 * (L x).length + 3) (R := (x, true, .S, l)) ?_ (by simp) h
  conv => lhs; unfold run
  rw [if_neg (by decide), if_neg (by simp), if_pos rfl, L_Esc, run_Q cm l (L x) _ false _ (Nat.le_refl _), mk_L, empty_app]
theorem gives_0 (pr x : Str) (hx : x.length ≤ 80000) : GivesOk pr x (putT 0 pr x) 0 := by
  have e0 : putT 0 pr x = Str.ofString "d " ++ quo x := by
    apply L_inj
    show L (quo (Str.ofString "d") ++ Str.ofString " " ++ quo x) = _
    rw [L_append, L_append, L_append, show L (quo (Str.ofString "d")) = [100] from by decide +kernel, L_lit, L_lit]; rfl
  have ht : L (Str.ofString " #b\nc#e") = 32 :: tailL := by rw [L_lit]; rfl
  have hd : L (Str.ofString "d ") = [100, 32] := by rw [L_lit]; rfl
  have hq : L (Str.ofString "'") = [39] := by rw [L_lit]; rfl
  cases hb : bareT x with
  | true =>
    have hy : putT 0 pr x = Str.ofString "d " ++ x := by rw [e0, quo_bare, if_pos hb]
    have hL : L (putT 0 pr x ++ Str.ofString " #b\nc#e") = 100 :: 32 :: (L x ++ 32 :: tailL) := by rw [hy, L_append, L_append, ht, hd]; simp
    have hln : ((putT 0 pr x).length : Int) = (x.length : Int) + 2 := by rw [hy, len_app, len_lit]; simp; lia
    by_cases hp : ((x.length : Int)).fmod 2 = 1
    · exact .tA hp hln hy (by rw [hL]; exact runs_d _ _ _ (runs_bare _ x hb _ _ runs_tail_t))
    · have hp0 : ((x.length : Int)).fmod 2 = 0 := by rw [Int.fmod_eq_emod_of_nonneg _ (by decide)] at hp ⊢; lia
      exact .fA hp0 hln hy (by rw [hL]; exact runs_d _ _ _ (runs_bare _ x hb _ _ runs_tail_f))
  | false =>
    have hy : putT 0 pr x = Str.ofString "d " ++ (Str.ofString "'" ++ Esc QT x ++ Str.ofString "'") := by rw [e0, quo_bare, if_neg (by rw [hb]; exact Bool.false_ne_true)]
    have hL : L (putT 0 pr x ++ Str.ofString " #b\nc#e") = 100 :: 32 :: 39 :: (L (Esc QT x) ++ 39 :: 32 :: tailL) := by rw [hy, L_append, L_append, L_append, L_append, ht, hd, hq]; simp
    have hge : x.length ≤ (Esc QT x).length := by
      rw [← L_length (Esc QT x), L_Esc, QT_same]
      have h : ((L x).flatMap (sub1 QT0)).length + (1 * (L x).count 39 + 0) = (L x).length + (5 * (L x).count 39 + 0) := wt_len QT0 nd_QT0 (L x)
      rw [L_length] at h; lia
    have hln : ¬ ((putT 0 pr x).length : Int) = (x.length : Int) + 2 := by rw [hy, len_app, len_app, len_app, len_lit, len_lit]; simp; lia
    by_cases hp : ((x.length : Int)).fmod 2 = 1
    · exact .tB hp hln hy (by rw [hL]; exact runs_d _ _ _ (runs_quoted _ x _ _ runs_tail_t))
    · have hp0 : ((x.length : Int)).fmod 2 = 0 := by rw [Int.fmod_eq_emod_of_nonneg _ (by decide)] at hp ⊢; lia
      exact .fB hp0 hln hy (by rw [hL]; exact runs_d _ _ _ (runs_quoted _ x _ _ runs_tail_f))
theorem gives_any (k : Int) (hk : 0 ≤ k ∧ k ≤ 8) (pr x : Str) (p0 p1 : Nat) (hp : Two pr p0 p1) (hx : x.length ≤ 80000) : GivesOk pr x (putT k pr x) k := by
  rcases nine hk with rfl | rfl | rfl | rfl | rfl | rfl | rfl | rfl | rfl
  · exact gives_0 pr x hx
  · exact .e1 (unesc_1 pr x).1 (Nat.le_trans (unesc_1 pr x).2 (by omega))
  · exact .e2 (unesc_2 pr x).1 (Nat.le_trans (unesc_2 pr x).2 (by omega))
  · exact .e3 (unesc_3 pr x).1 (Nat.le_trans (unesc_3 pr x).2 (by omega))
  · exact .e4 (unesc_4 pr x).1 (Nat.le_trans (unesc_4 pr x).2 (by omega))
  · exact .e5 (unesc_5 pr x).1 (Nat.le_trans (unesc_5 pr x).2 (by omega))
  · exact .c6 (coded_6 pr x)
  · exact .c7 (coded_7 pr x p0 p1 hp.h0 hp.h1 hp.l)
  · exact .c8 (coded_8 pr x)
end
section
open PySem PySem.W PySem.Spec PySem.Calls PyProof.Rows
set_option maxHeartbeats 4000000
noncomputable def SIG : Str := Str.ofString "/+_@%:,.-"
theorem item_sig (i : Int) (h0 : 0 ≤ i) (h9 : i < 9) : ∃ p, L (Txt.item SIG i) = [p] ∧ isS p = true := by
  have hl : (SIG.length : Int) = 9 := by decide +kernel
  refine ⟨(L SIG).getD i.toNat 0, ?_, ?_⟩
  · show [(Txt.charAt SIG i).getD 0] = _
    rw [charAt_in SIG i h0 (by omega)]
  · have key : ∀ n, n < 9 → isS ((L SIG).getD n 0) = true := by decide +kernel
    exact key _ (by omega)
theorem two_ok (ns : List Int) : ∃ p0 p1, L (twoOf ns) = [p0, p1] ∧ isS p0 = true ∧ isS p1 = true := by
  have hm : ∀ a : Int, 0 ≤ a.fmod 9 ∧ a.fmod 9 < 9 := fun a => by rw [Int.fmod_eq_emod_of_nonneg _ (by decide)]; omega
  obtain ⟨p0, e0, h0⟩ := item_sig ((ns.sum.fdiv 9).fmod 9) (hm _).1 (hm _).2
  obtain ⟨p1, e1, h1⟩ := item_sig ((ns.sum.fdiv 81 + 1).fmod 9) (hm _).1 (hm _).2
  refine ⟨p0, p1, ?_, h0, h1⟩
  show L (Txt.item SIG _ ++ Txt.item SIG _) = _
  rw [L_append, e0, e1]; rfl
/-- a sign that may stand in a text -/
noncomputable def Sign (c : Nat) : Prop := Str.isSurrogate c = false ∧ c < 0x110000
theorem sign128 (c : Nat) (h : c < 128) : Sign c := by
  unfold Sign Str.isSurrogate
  refine ⟨?_, by omega⟩
  simp
  omega
theorem sgn_all (n : Int) : ∀ c ∈ L (sgn n), Sign c := by
  have h0 : 0 ≤ n.fmod 1112081 := by rw [Int.fmod_eq_emod_of_nonneg _ (by decide)]; exact Int.emod_nonneg _ (by decide)
  have h1 : n.fmod 1112081 < 1112081 := by rw [Int.fmod_eq_emod_of_nonneg _ (by decide)]; exact Int.emod_lt_of_pos _ (by decide)
  unfold sgn
  intro c hc
  split at hc
  · have key : ∀ i, i < 17 → ((L (menu.getD i "")).all fun c => decide (c < 128)) = true := by decide +kernel
    exact sign128 c (of_decide_eq_true (List.all_eq_true.mp (key (n.fmod 1112081).toNat (by omega)) c hc))
  · split at hc
    · have e : c = (n.fmod 1112081 - 17).toNat := List.mem_singleton.mp hc
      unfold Sign Str.isSurrogate
      refine ⟨?_, by omega⟩
      simp
      omega
    · have e : c = (n.fmod 1112081 + 2031).toNat := List.mem_singleton.mp hc
      unfold Sign Str.isSurrogate
      refine ⟨?_, by omega⟩
      simp
      omega
theorem letter_L (ns : List Int) : L (letter ns) = (letterL ns).flatMap L := by
  unfold letter Txt.join
  rw [StrLaws.glued_eq_join, join_onesS _ (by rw [L_lit]; rfl)]
theorem letter_all (ns : List Int) : ∀ c ∈ L (letter ns), Sign c := by
  intro c hc
  rw [letter_L] at hc
  obtain ⟨y, hy, hc⟩ := List.mem_flatMap.mp hc
  unfold letterL at hy
  obtain ⟨n, _, rfl⟩ := List.mem_map.mp hy
  exact sgn_all _ c hc
theorem letter_len (ns : List Int) : (letter ns).length ≤ 4 := by
  rw [← L_length, letter_L]
  unfold letterL
  have key : ∀ l : List Int, ((l.map fun n => sgn (n.fdiv 9)).flatMap L).length ≤ l.length := by
    intro l
    induction l with
    | nil => exact Nat.le_refl _
    | cons a l ih =>
      have := sgn_len (a.fdiv 9)
      rw [List.map_cons, List.flatMap_cons, List.length_append, L_length, List.length_cons]
      omega
  refine Nat.le_trans (key _) ?_
  rw [List.length_append, List.length_take, List.length_singleton]; lia
theorem mail_all (pr x : Str) (p0 p1 : Nat) (hp : Two pr p0 p1) (ks : List Int) (hx : ∀ c ∈ L x, Sign c) : ∀ i, i ≤ ks.length → ∀ c ∈ L (mailAt pr x ks i), Sign c
  | 0, _ => hx
  | i + 1, hi => by
    rw [mailAt_succ (List.getElem?_eq_getElem (by omega))]
    exact put_all sign128 hp _ (mail_all pr x p0 p1 hp ks hx i (by omega))
noncomputable def bnd : Nat → Nat
  | 0 => 4
  | i + 1 => 8 * bnd i + 9
theorem mail_len (pr x : Str) (ks : List Int) (hx : x.length ≤ 4) : ∀ i, i ≤ ks.length → (mailAt pr x ks i).length ≤ bnd i
  | 0, _ => hx
  | i + 1, hi => by
    rw [mailAt_succ (List.getElem?_eq_getElem (by omega))]
    have h1 := put_len ks[i] pr (mailAt pr x ks i)
    have h2 := mail_len pr x ks hx i (by lia)
    show _ ≤ 8 * bnd i + 9
    lia
theorem kinds_ok (ns : List Int) : ∀ k ∈ ksOf ns, 0 ≤ k ∧ k ≤ 8 := by
  have hm : ∀ a : Int, 0 ≤ a.fmod 9 ∧ a.fmod 9 ≤ 8 := fun a => by rw [Int.fmod_eq_emod_of_nonneg _ (by decide)]; omega
  have key : ∀ (l acc : List Int), (∀ k ∈ acc, 0 ≤ k ∧ k ≤ 8) → ∀ k ∈ l.foldl kindStep acc, 0 ≤ k ∧ k ≤ 8 := by
    intro l
    induction l with
    | nil => intro acc h; exact h
    | cons a l ih =>
      intro acc h
      rw [List.foldl_cons]
      refine ih _ fun k hk => ?_
      unfold kindStep at hk
      rcases List.mem_append.mp hk with hk | hk
      · exact h k hk
      · rw [List.mem_singleton.mp hk]
        split
        · decide
        · exact hm a
  intro k hk
  unfold ksOf at hk
  rcases List.mem_append.mp hk with hk | hk
  · exact key _ [] (fun k hk => nomatch hk) k hk
  · rw [List.mem_singleton.mp hk, Int.fmod_eq_emod_of_nonneg _ (by decide)]
    lia
theorem bnd_le (i : Nat) (h : i ≤ 4) : bnd i ≤ 80000 := by
  exact (by decide : ∀ j : Nat, j < 5 → bnd j ≤ 80000) i (Nat.lt_succ_of_le h)
theorem bnd_le3 (i : Nat) (h : i < 4) : bnd i ≤ 5000 := by
  exact (by decide : ∀ j : Nat, j < 4 → bnd j ≤ 5000) i h
theorem lawOk (ns : List Int) (h : ns.length ≤ 63) : LawOk ns := by
  obtain ⟨p0, p1, hp, h0, h1⟩ := two_ok ns
  have hT : Two (twoOf ns) p0 p1 := ⟨hp, isS_lt h0, isS_lt h1⟩
  have hk4 := ksOf_len ns
  have hml := mail_len (twoOf ns) (letter ns) (ksOf ns) (letter_len ns)
  have hma := mail_all (twoOf ns) (letter ns) p0 p1 hT (ksOf ns) (letter_all ns)
  refine ⟨kinds_ok ns, ⟨p0, p1, hT⟩, fun i hi => Nat.le_trans (hml i hi) (bnd_le i (by omega)), fun i hi c hc => (hma i hi c hc).1, fun i hi c hc => (hma i hi c hc).2, fun i hi => ?_, fun i k hk => ?_, fun i hi => (rows_any (twoOf ns) (letter ns) p0 p1 h0 h1 hp (ksOf ns) (kinds_ok ns) i hi).1⟩
  · have h1 := u8_size (mailAt (twoOf ns) (letter ns) (ksOf ns) i)
    have h2 := hml i (Nat.le_of_lt hi)
    have h3 := bnd_le3 i (by omega)
    lia
  · have hi : i < (ksOf ns).length := (List.getElem?_eq_some_iff.mp hk).1
    rw [mailAt_succ hk]
    exact gives_any k (kinds_ok ns k (List.mem_of_getElem? hk)) _ _ p0 p1 hT (Nat.le_trans (hml i (Nat.le_of_lt hi)) (bnd_le i (by omega)))
end
end Mine
open PySem PySem.W PyProof.Rows
set_option maxHeartbeats 0
namespace Mine
theorem asIs (P : Params) : As = (KB P).map (·.1) := by kernel_rfl!
noncomputable abbrev Hk : Hook := kHook KB As asIs
theorem left : LeftO PySem.Challenge.pw_kt0081_01 q loose (XtOf q) (Hook.obs Hk) (Hook.val Hk) 12000 := leftO_of fun w => headBig w
theorem oldK_end {P : Params} {h h' : Heap} {L : Addr} {m : Str → Option Value} {T₁ : Obj} (X : (KB P).In h) (F : Fr (ghostOf h tb) L h' m) (N : News (ghostOf h tb) L h' [(792, T₁)]) (hT : JT T₁) : OldK h h' := by
  have hTt := tabs_at X
  have e792 := (N _ List.mem_cons_self).1
  obtain ⟨ps, rfl, _⟩ := hT
  have ht : h.TableAt 796 792 #[] := (hTt _ List.mem_cons_self).1.tab (hTt _ List.mem_cons_self).2
  have hk : ∀ b o, b ≠ 792 → h.get? b = some o → h'.get? b = some o := fun b o hb e => F.keep b o (hideAll_get _ e (by simpa using hb))
  refine (OldK.refl h).step_table (c₀ := 796) (c := 796) (P := 792) (ps₀ := #[]) (ps := #[]) (more := ps) ht ht ?_ (fun b o hb e => hk b o hb e) (by decide)
  obtain ⟨⟨o, vs, a1, a2, a3, a4⟩, _⟩ := ht
  exact ⟨⟨o, vs, hk _ _ (by decide) a1, a2, a3, a4⟩, by rw [Array.empty_append]; exact e792⟩
theorem rev4 {P : Params} {g h : Heap} {L : Addr} {a b c : Addr × Obj} (N : News g L h ([a, b, c] ++ tabNews tb)) : News g L h [c, b, a, (792, o792 P)] :=
  fun p hp => N p (by
    simp only [List.mem_cons, List.not_mem_nil, or_false, List.mem_append, List.map_cons, List.map_nil, tb] at hp ⊢
    rcases hp with h | h | h | h
    · exact .inl (.inr (.inr h))
    · exact .inl (.inr (.inl h))
    · exact .inl (.inl h)
    · exact .inr h)
theorem law_end (P : Params) {cl : Str → Option Addr} {mean : ExcName → Option Value} {args : List WData} {s₁ s' : Shared} {L : Addr} {m : Str → Option Value} {T₁ : Obj} (X : (KB P).In s₁.heap) (F : Fr (ghostOf s₁.heap tb) L s'.heap m) (N : News (ghostOf s₁.heap tb) L s'.heap [(792, T₁)]) (hT : JT T₁) (hos : s'.os = s₁.os) (hg : AllBare s'.gens) (hp : PySem.Challenge.rw_kt0081_01.row.claim.post args (.bool true) args = true) :
    GoodWG PySem.Challenge.rw_kt0081_01.row.claim cl mean args s₁ (.ok (.ret (.bool true))) s' :=
  ⟨.inl ⟨_, .bool true, [], rfl, fun _ => by rfl, .bool true, hp, fun _ => ⟨.nil, fun _ ha => nomatch ha⟩⟩, oldK_end X F N hT, hos, hg⟩
theorem trial : PySem.Challenge.rw_kt0081_01.Holds := by
  w_on
  refine holds_law said fun said => ?_
  refine holds_open (r := PySem.Challenge.rw_kt0081_01.row) (q := q) (loose := loose) (Xt := XtOf q) (XP := XL q []) (Yf := Hook.obs Hk) (Ya := Hook.val Hk) (YP := Hook.says Hk) (N := 12000) left (Hook.of Hk) (Hook.keeps Hk) (fun s e => xl_of s (Bool.and_eq_true_iff.mp e).1) XL.keeps (by rfl) (by rfl) (by rfl) (fun s e => recFacts_of (Bool.and_eq_true_iff.mp e).2) (by rfl) said (by decide +kernel) ⟨rfl, rfl, rfl, rfl, rfl, tablesOk⟩ ?hw ?hc
  case hw => w_witness2
  w_strict (
    k_fill
    intro w s₀ s₁ mg mb G Y fa o pm cd doc dV kV ho hd hcd hD hmg hg args vals as hpre hlay hrd hwl hlo
    have KX := kIn_of Y
    refine Ground.open G ?_
    intro T B D TE TW
    try (refine guard_noD D (by decide +kernel) ?_; clear D)
    obtain ⟨_, _, M⟩ := bmod_of_top T
    have TA := at_of_top T
    clear hmg
    wrow_args hpre hlay hrd hwl hlo
    all_goals (
      first | refine callC_kw (enter_call ?_) | refine enter_call ?_ | refine callC_kw (enter_callW ?_) | refine enter_callW ?_ | w_how
      w_top on
      have K0 := below_caller (Top.heap T)
      w_call any ho hd hcd hD T F
      clear hd TA
      (rename Fr _ _ _ _ => zF)
      (rename Heap.IsList _ _ _ => zl)
      (rename IntsAre _ _ => zi)
      (rename News _ _ _ _ => zN)
      (rename ¬ (_ < _) => zlt)
      have hTt := tabs_at KX
      have F2 := ghost_fr hTt zF
      have N2 := ghost_news hTt zF zN
      refine law_walk w _ _ _ zi ?hn (ghost_below hTt) (ghost_K hTt (K_of_KB KX) (noTabsK _)) (top_ghost KX T) F2 (rev4 N2) (by with_reducible assumption) (by with_reducible assumption) (by with_reducible assumption) (ghost_list hTt zl) ?hL (lawOk _ ?hn2) ?ret _ _ _ rfl
      case hn => omega
      case hn2 => omega
      case hL => exact Heap.lt_size (KX 792 (o792 w.params) (by kernel_rfl))
      case ret =>
        intro m' h' tk' g' T₁ hb hT₁ F₁ N₁
        exact law_end w.params KX F₁ N₁ hT₁ rfl (hb (by rw [show s₁.gens = #[] from hg]; exact AllBare.empty)) (by wrow_post)))
end Mine
theorem PySem.Challenge.cw_kt0081_01_holds : PySem.Challenge.rw_kt0081_01.Holds :=
  Mine.trial
