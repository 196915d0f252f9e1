import PyProof.Rows.All
import Wide.All
import OpenK.AllK
import Wide.FinOn
import PySem.Challenge.RW_nb0120_01
set_option Elab.async false
section
open PySem PySem.W PyProof.Rows
set_option maxRecDepth 100000
set_option maxHeartbeats 8000000
open_top Mine.hd for PySem.Challenge.rw_nb0120_01
end
section
open PySem PySem.W PyProof.Rows
namespace Mine
/-- every c becomes z -/
def subC (c : Nat) (z : List Nat) (l : List Nat) : List Nat := l.flatMap fun k => if k = c then z else [k]
theorem subC_append (c : Nat) (z a b : List Nat) : subC c z (a ++ b) = subC c z a ++ subC c z b := by simp [subC]
theorem subC_free (c : Nat) (z : List Nat) : ∀ l : List Nat, c ∉ l → subC c z l = l
  | [], _ => rfl
  | k :: r, h => by
    have h1 : ¬ k = c := fun e => h (e ▸ List.mem_cons_self ..)
    have h2 : c ∉ r := fun m => h (List.mem_cons_of_mem _ m)
    have ih := subC_free c z r h2
    unfold subC at ih ⊢
    rw [List.flatMap_cons, ih, if_neg h1]; rfl
theorem subC_one (c : Nat) (z : List Nat) : subC c z [c] = z := by simp [subC]
theorem subC_join (c : Nat) (z : Str) : ∀ parts : List Str, (∀ p ∈ parts, c ∉ p.cps.toList) → subC c z.cps.toList (Str.join ⟨#[c]⟩ parts).cps.toList = (Str.join z parts).cps.toList
  | [], _ => rfl
  | [p], h => subC_free c _ _ (h p (List.mem_singleton.mpr rfl))
  | p :: q :: r, h => by
    have ih := subC_join c z (q :: r) fun a ha => h a (List.mem_cons_of_mem _ ha)
    show subC c z.cps.toList (p ++ ⟨#[c]⟩ ++ Str.join ⟨#[c]⟩ (q :: r)).cps.toList = (p ++ z ++ Str.join z (q :: r)).cps.toList
    simp only [Str.cps_append, Array.toList_append]
    rw [subC_append, subC_append, ih, subC_free c _ _ (h p (List.mem_cons_self ..))]
    show p.cps.toList ++ subC c z.cps.toList [c] ++ _ = _
    rw [subC_one]
theorem replace_sub (x z : Str) (c : Nat) : (Txt.replace x ⟨#[c]⟩ z).cps.toList = subC c z.cps.toList x.cps.toList := by
  rw [StrLaws.replace_one, ← subC_join c z _ (StrLaws.split_free x c), StrLaws.join_split]
theorem str_ext {x y : Str} (h : x.cps.toList = y.cps.toList) : x = y := by
  cases x; cases y; exact congrArg Str.mk (Array.toList_inj.mp h)
theorem replace_none {x z : Str} {c : Nat} (h : (Builtin.Str.occurrences x ⟨#[c]⟩ 0 x.length 1).isEmpty = true) : Txt.replace x ⟨#[c]⟩ z = x := by
  have h1 := StrLaws.found_one x c
  rw [h] at h1
  have h2 : c ∉ x.cps.toList := fun hm => by rw [decide_eq_true hm] at h1; exact Bool.noConfusion h1
  exact str_ext (by rw [replace_sub, subC_free c _ _ h2])
/-- the five tables -/
def tab : Nat → Nat → List Nat
  | 0, k => if k = 38 then [38, 97, 109, 112, 59] else if k = 60 then [38, 108, 116, 59] else if k = 62 then [38, 103, 116, 59] else [k]
  | 1, k => if k = 38 then [38, 97, 109, 112, 59] else if k = 60 then [38, 108, 116, 59] else if k = 62 then [38, 103, 116, 59] else if k = 34 then [38, 113, 117, 111, 116, 59]
      else if k = 13 then [38, 35, 49, 51, 59] else if k = 10 then [38, 35, 49, 48, 59] else if k = 9 then [38, 35, 48, 57, 59] else [k]
  | 2, k => if k = 38 then [38, 97, 109, 112, 59] else if k = 62 then [38, 103, 116, 59] else if k = 34 then [38, 113, 117, 111, 116, 59] else [k]
  | 3, k => if k = 38 then [38, 97, 109, 112, 59] else if k = 60 then [38, 108, 116, 59] else if k = 62 then [38, 103, 116, 59] else if k = 13 then [38, 35, 120, 68, 59] else [k]
  | _, k => if k = 38 then [38, 97, 109, 112, 59] else if k = 60 then [38, 108, 116, 59] else if k = 34 then [38, 113, 117, 111, 116, 59]
      else if k = 9 then [38, 35, 120, 57, 59] else if k = 10 then [38, 35, 120, 65, 59] else if k = 13 then [38, 35, 120, 68, 59] else [k]
/-- a text written by table i -/
def esc (i : Nat) (x : Str) : Str := ⟨(x.cps.toList.flatMap (tab i)).toArray⟩
theorem esc_list (i : Nat) (x : Str) : (esc i x).cps.toList = x.cps.toList.flatMap (tab i) := rfl
theorem flat_len {f : Nat → List Nat} {n : Nat} (h : ∀ k, (f k).length ≤ n) : ∀ l : List Nat, (l.flatMap f).length ≤ n * l.length
  | [] => by simp
  | k :: r => by
    have ih := flat_len h r
    have hk := h k
    rw [List.flatMap_cons, List.length_append, List.length_cons, Nat.mul_succ]; omega
theorem tab_len (i k : Nat) : (tab i k).length ≤ 6 := by
  unfold tab
  split <;> (repeat' split) <;> simp
theorem esc_len (i : Nat) (x : Str) : (esc i x).length ≤ 6 * x.length := by
  have h := flat_len (tab_len i) x.cps.toList
  simpa [esc, Str.length] using h
theorem chain0 (l : List Nat) : subC 62 [38, 103, 116, 59] (subC 60 [38, 108, 116, 59] (subC 38 [38, 97, 109, 112, 59] l)) = l.flatMap (tab 0) := by
  unfold subC
  simp only [List.flatMap_assoc]
  congr 1; funext k; unfold tab
  by_cases h0 : k = 38
  · subst h0; decide
  by_cases h1 : k = 60
  · subst h1; decide
  by_cases h2 : k = 62
  · subst h2; decide
  simp [h0, h1, h2]
theorem chain1 (l : List Nat) : subC 9 [38, 35, 48, 57, 59] (subC 10 [38, 35, 49, 48, 59] (subC 13 [38, 35, 49, 51, 59] (subC 34 [38, 113, 117, 111, 116, 59] (subC 62 [38, 103, 116, 59] (subC 60 [38, 108, 116, 59] (subC 38 [38, 97, 109, 112, 59] l)))))) = l.flatMap (tab 1) := by
  unfold subC
  simp only [List.flatMap_assoc]
  congr 1; funext k; unfold tab
  by_cases h0 : k = 38
  · subst h0; decide
  by_cases h1 : k = 60
  · subst h1; decide
  by_cases h2 : k = 62
  · subst h2; decide
  by_cases h3 : k = 34
  · subst h3; decide
  by_cases h4 : k = 13
  · subst h4; decide
  by_cases h5 : k = 10
  · subst h5; decide
  by_cases h6 : k = 9
  · subst h6; decide
  simp [h0, h1, h2, h3, h4, h5, h6]
theorem chain2 (l : List Nat) : subC 34 [38, 113, 117, 111, 116, 59] (subC 62 [38, 103, 116, 59] (subC 38 [38, 97, 109, 112, 59] l)) = l.flatMap (tab 2) := by
  unfold subC
  simp only [List.flatMap_assoc]
  congr 1; funext k; unfold tab
  by_cases h0 : k = 38
  · subst h0; decide
  by_cases h1 : k = 62
  · subst h1; decide
  by_cases h2 : k = 34
  · subst h2; decide
  simp [h0, h1, h2]
theorem chain3 (l : List Nat) : subC 13 [38, 35, 120, 68, 59] (subC 62 [38, 103, 116, 59] (subC 60 [38, 108, 116, 59] (subC 38 [38, 97, 109, 112, 59] l))) = l.flatMap (tab 3) := by
  unfold subC
  simp only [List.flatMap_assoc]
  congr 1; funext k; unfold tab
  by_cases h0 : k = 38
  · subst h0; decide
  by_cases h1 : k = 60
  · subst h1; decide
  by_cases h2 : k = 62
  · subst h2; decide
  by_cases h3 : k = 13
  · subst h3; decide
  simp [h0, h1, h2, h3]
theorem chain4 (l : List Nat) : subC 13 [38, 35, 120, 68, 59] (subC 10 [38, 35, 120, 65, 59] (subC 9 [38, 35, 120, 57, 59] (subC 34 [38, 113, 117, 111, 116, 59] (subC 60 [38, 108, 116, 59] (subC 38 [38, 97, 109, 112, 59] l))))) = l.flatMap (tab 4) := by
  unfold subC
  simp only [List.flatMap_assoc]
  congr 1; funext k; unfold tab
  by_cases h0 : k = 38
  · subst h0; decide
  by_cases h1 : k = 60
  · subst h1; decide
  by_cases h2 : k = 34
  · subst h2; decide
  by_cases h3 : k = 9
  · subst h3; decide
  by_cases h4 : k = 10
  · subst h4; decide
  by_cases h5 : k = 13
  · subst h5; decide
  simp [h0, h1, h2, h3, h4, h5]
end Mine
end
section
open PySem PySem.W PyProof.Rows
namespace Mine
/-- so far blanks alone -/
def Blank (l : List Nat) (i : Int) : Prop := ∀ k : Nat, (k : Int) ≤ i → l[k]? = some 32
/-- where the law's first loop ends -/
def MarginIs (l : List Nat) (i : Int) : Prop :=
  -1 ≤ i ∧ (∀ k : Nat, (k : Int) < i → l[k]? = some 32) ∧ (i = -1 → l[0]? = none ∨ l[0]? = some 10) ∧
  (0 ≤ i → ∃ c, l[i.toNat]? = some c ∧ c ≠ 10 ∧ (c = 32 → l[i.toNat + 1]? = none ∨ l[i.toNat + 1]? = some 10))
theorem mi_stop {l : List Nat} {i : Int} (hi : -1 ≤ i) (hb : Blank l i) (h : l[(i + 1).toNat]? = none ∨ l[(i + 1).toNat]? = some 10) : MarginIs l i := by
  refine ⟨hi, fun k hk => hb k (by omega), fun e => ?_, fun h0 => ⟨32, hb _ (by omega), by decide, fun _ => ?_⟩⟩
  · have e' : (i + 1).toNat = 0 := by omega
    rwa [e'] at h
  · have e' : (i + 1).toNat = i.toNat + 1 := by omega
    rwa [e'] at h
theorem mi_brk {l : List Nat} {i : Int} {c : Nat} (hi : -1 ≤ i) (hb : Blank l i) (h : l[(i + 1).toNat]? = some c) (h1 : c ≠ 10) (h2 : c ≠ 32) : MarginIs l (i + 1) :=
  ⟨by omega, fun k hk => hb k (by omega), fun e => by omega, fun _ => ⟨c, h, h1, fun e => absurd e h2⟩⟩
theorem blank_next {l : List Nat} {i : Int} (hb : Blank l i) (h : l[(i + 1).toNat]? = some 32) : Blank l (i + 1) := by
  intro k hk
  by_cases e : (k : Int) ≤ i
  · exact hb k e
  · have e' : k = (i + 1).toNat := by omega
    rw [e']; exact h
def firstRow (l : List Nat) : List Nat := l.takeWhile (· != 10)
/-- the first place that is no blank, or the last place -/
def mrg : List Nat → Nat
  | [] => 0
  | [_] => 0
  | k :: r => if k = 32 then mrg r + 1 else 0
theorem firstRow_nil : firstRow [] = [] := rfl
theorem firstRow_lf (r : List Nat) : firstRow (10 :: r) = [] := by simp [firstRow]
theorem firstRow_cons {k : Nat} (r : List Nat) (h : k ≠ 10) : firstRow (k :: r) = k :: firstRow r := by simp [firstRow, h]
theorem firstRow_stop {r : List Nat} (h : r[0]? = none ∨ r[0]? = some 10) : firstRow r = [] := by
  cases r with
  | nil => rfl
  | cons a b =>
    have : a = 10 := by simpa using h
    subst this; exact firstRow_lf b
theorem mrg_one (k : Nat) : mrg [k] = 0 := rfl
theorem mrg_blank {r : List Nat} (h : r ≠ []) : mrg (32 :: r) = mrg r + 1 := by
  cases r with
  | nil => exact absurd rfl h
  | cons a b => simp [mrg]
theorem mrg_other {k : Nat} (r : List Nat) (h : k ≠ 32) : mrg (k :: r) = 0 := by
  cases r with
  | nil => rfl
  | cons a b => simp [mrg, h]
theorem margin_is : ∀ (l : List Nat) (i : Int), MarginIs l i → (i = -1 ∧ firstRow l = []) ∨ (0 ≤ i ∧ firstRow l ≠ [] ∧ i = mrg (firstRow l))
  | [], i, h => by
    obtain ⟨h1, h2, h3, h4⟩ := h
    by_cases h0 : 0 ≤ i
    · obtain ⟨c, hc, _⟩ := h4 h0; simp at hc
    · exact .inl ⟨by omega, rfl⟩
  | k :: r, i, h => by
    obtain ⟨h1, h2, h3, h4⟩ := h
    by_cases h0 : 0 ≤ i
    · refine .inr ⟨h0, ?_⟩
      obtain ⟨c, hc, hc1, hc2⟩ := h4 h0
      clear h4 h3
      by_cases hz : i = 0
      · subst hz
        have hk : k = c := by simpa using hc
        subst hk
        rw [firstRow_cons r hc1]
        refine ⟨by simp, ?_⟩
        by_cases hb : k = 32
        · have := hc2 hb
          rw [firstRow_stop (by simpa using this)]; rfl
        · rw [mrg_other _ hb]; rfl
      · have hk : k = 32 := by simpa using h2 0 (by omega)
        subst hk
        have ih := margin_is r (i - 1) ⟨by omega, fun j hj => by simpa using h2 (j + 1) (by omega), fun e => by omega, fun _ => ⟨c, by
          have e : i.toNat = (i - 1).toNat + 1 := by omega
          rw [e] at hc; simpa using hc, hc1, fun e => by
          have e' : i.toNat = (i - 1).toNat + 1 := by omega
          have := hc2 e
          rw [e'] at this; simpa using this⟩⟩
        rcases ih with ⟨e, _⟩ | ⟨_, hne, e⟩
        · omega
        · rw [firstRow_cons r (by decide), mrg_blank hne]
          exact ⟨by simp, by omega⟩
    · have e : i = -1 := by omega
      exact .inl ⟨e, firstRow_stop (h3 e)⟩
theorem row_mrg : ∀ (l : List Nat) (i c : Nat), (∀ k, k < i → l[k]? = some 32) → l[i]? = some c → (c ≠ 32 ∨ i + 1 = l.length) → i = mrg l
  | [], i, c, _, h, _ => by simp at h
  | k :: r, 0, c, _, h, h3 => by
    have hk : k = c := by simpa using h
    subst hk
    rcases h3 with h3 | h3
    · exact (mrg_other _ h3).symm
    · have : r = [] := by simpa using h3
      rw [this]; rfl
  | k :: r, i + 1, c, h1, h2, h3 => by
    have hk : k = 32 := by simpa using h1 0 (by omega)
    subst hk
    have h2' : r[i]? = some c := by simpa using h2
    have hne : r ≠ [] := by intro e; subst e; simp at h2'
    rw [mrg_blank hne]
    have := row_mrg r i c (fun j hj => by simpa using h1 (j + 1) (by omega)) h2' (by simpa using h3)
    omega
/-- row by row, what stands nearer to the row's beginning than g is dropped -/
def keep (g : Nat) : Nat → List Nat → List Nat
  | _, [] => []
  | n, k :: r => if k = 10 then 10 :: keep g 0 r else if g ≤ n then k :: keep g (n + 1) r else keep g (n + 1) r
theorem keep_row (g : Nat) : ∀ (p : List Nat) (n : Nat) (q : List Nat), 10 ∉ p → keep g n (p ++ q) = p.drop (g - n) ++ keep g (n + p.length) q
  | [], n, q, _ => by simp
  | k :: r, n, q, h => by
    have h1 : k ≠ 10 := fun e => h (e ▸ List.mem_cons_self ..)
    have h2 : 10 ∉ r := fun m => h (List.mem_cons_of_mem _ m)
    have ih := keep_row g r (n + 1) q h2
    rw [List.cons_append, keep, if_neg h1, ih]
    have e : n + (k :: r).length = n + 1 + r.length := by simp; omega
    rw [e]
    by_cases hg : g ≤ n
    · rw [if_pos hg]
      have e1 : g - n = 0 := by omega
      have e2 : g - (n + 1) = 0 := by omega
      rw [e1, e2]; simp
    · rw [if_neg hg]
      have e1 : g - n = (g - (n + 1)) + 1 := by omega
      rw [e1, List.drop_succ_cons]
def cut (g : Nat) (p : Str) : Str := ⟨(p.cps.toList.drop g).toArray⟩
theorem cut_list (g : Nat) (p : Str) : (cut g p).cps.toList = p.cps.toList.drop g := rfl
theorem keep_join (g : Nat) : ∀ parts : List Str, (∀ p ∈ parts, 10 ∉ p.cps.toList) → keep g 0 (Str.join ⟨#[10]⟩ parts).cps.toList = (Str.join ⟨#[10]⟩ (parts.map (cut g))).cps.toList
  | [], _ => rfl
  | [p], h => by
    have := keep_row g p.cps.toList 0 [] (h p (List.mem_singleton.mpr rfl))
    simp only [List.append_nil, Nat.sub_zero] at this
    show keep g 0 p.cps.toList = (cut g p).cps.toList
    rw [this, cut_list]; simp [keep]
  | p :: q :: r, h => by
    have ih := keep_join g (q :: r) fun a ha => h a (List.mem_cons_of_mem _ ha)
    show keep g 0 (p ++ ⟨#[10]⟩ ++ Str.join ⟨#[10]⟩ (q :: r)).cps.toList = (cut g p ++ ⟨#[10]⟩ ++ Str.join ⟨#[10]⟩ ((q :: r).map (cut g))).cps.toList
    simp only [Str.cps_append, Array.toList_append]
    rw [List.append_assoc, keep_row g _ 0 _ (h p (List.mem_cons_self ..))]
    show _ ++ keep g _ (10 :: (Str.join ⟨#[10]⟩ (q :: r)).cps.toList) = _
    rw [keep, if_pos rfl, ih, cut_list, Nat.sub_zero, List.append_assoc]; rfl
/-- what _dedent makes of a text whose first row isn't empty -/
def ded (x : Str) : Str := ⟨(keep (mrg (firstRow x.cps.toList)) 0 x.cps.toList).toArray⟩
def rows (x : Str) : List Str := Txt.split x ⟨#[10]⟩
theorem rows_join (x : Str) : Str.join ⟨#[10]⟩ (rows x) = x := StrLaws.join_split x _
theorem ded_rows (x : Str) : ded x = Str.join ⟨#[10]⟩ ((rows x).map (cut (mrg (firstRow x.cps.toList)))) := by
  refine str_ext ?_
  have e := keep_join (mrg (firstRow x.cps.toList)) (rows x) (StrLaws.split_free x 10)
  rw [← e, rows_join]; rfl
theorem firstRow_join : ∀ (p : Str) (r : List Str), 10 ∉ p.cps.toList → firstRow (Str.join ⟨#[10]⟩ (p :: r)).cps.toList = p.cps.toList
  | p, r, h => by
    have hp : ∀ q : List Nat, (q = [] ∨ ∃ q', q = 10 :: q') → firstRow (p.cps.toList ++ q) = p.cps.toList := by
      intro q hq
      have : ∀ l : List Nat, 10 ∉ l → firstRow (l ++ q) = l := by
        intro l
        induction l with
        | nil =>
          intro _
          rcases hq with rfl | ⟨q', rfl⟩
          · rfl
          · exact firstRow_lf _
        | cons a b ih =>
          intro hl
          rw [List.cons_append, firstRow_cons _ (fun e => hl (e ▸ List.mem_cons_self ..)), ih (fun m => hl (List.mem_cons_of_mem _ m))]
      exact this _ h
    cases r with
    | nil =>
      have := hp [] (.inl rfl)
      rw [List.append_nil] at this; exact this
    | cons a b =>
      show firstRow (p ++ ⟨#[10]⟩ ++ Str.join ⟨#[10]⟩ (a :: b)).cps.toList = _
      simp only [Str.cps_append, Array.toList_append]
      rw [List.append_assoc]
      exact hp _ (.inr ⟨_, rfl⟩)
theorem firstRow_rows (x : Str) {p : Str} {r : List Str} (e : rows x = p :: r) : firstRow x.cps.toList = p.cps.toList := by
  rw [← firstRow_join p r (StrLaws.split_free x 10 p (by show p ∈ rows x; rw [e]; exact List.mem_cons_self ..)), ← e, rows_join]
theorem keep_len (g : Nat) : ∀ (n : Nat) (l : List Nat), (keep g n l).length ≤ l.length
  | _, [] => Nat.le_refl _
  | n, k :: r => by
    have h1 := keep_len g 0 r
    have h2 := keep_len g (n + 1) r
    rw [keep]
    split
    · simp; omega
    · split <;> simp <;> omega
theorem ded_len (x : Str) : (ded x).length ≤ x.length := by
  have := keep_len (mrg (firstRow x.cps.toList)) 0 x.cps.toList
  simpa [ded, Str.length] using this
theorem item_at {x : Str} {k : Int} (h0 : 0 ≤ k) (h1 : k < (x.length : Int)) : ∃ c, x.cps.toList[k.toNat]? = some c ∧ Txt.item x k = ⟨#[c]⟩ := by
  have h2 : k.toNat < x.cps.size := by have : x.length = x.cps.size := rfl; omega
  refine ⟨x.cps[k.toNat], by simp [h2], ?_⟩
  have e : seqIndex? k x.length = some k.toNat := seqIndex_at h0 h1
  show Str.mk #[((seqIndex? k x.length).bind (x.cps[·]?)).getD 0] = _
  rw [e]; simp [h2]
end Mine
end
section
open PySem PySem.W PyProof.Rows
set_option maxRecDepth 100000
set_option maxHeartbeats 8000000
namespace Mine
theorem esc_if {w : World} {A : Around} {nm : Str} {x z : Str} {c : Nat} {t : Tok} {L a : Addr} {cd : Value} {h₀ : Heap} {m : Str → Option Value} {news : List (Addr × Obj)} {s : Shared} {Q : Flow → Shared → Prop} {E : Value → Shared → Prop}
   {p1 p2 p3 p4 p5 p6 p7 p8 p9 p10 p11 : Pos} {cs : Str} {sc : Scope}
   (F : Fr h₀ L s.heap m) (N : News h₀ L s.heap news)
   (hm : m (Str.ofString "text") = some (.str x t)) (hc : cs = ⟨#[c]⟩) (hx : x.length ≤ 1048576) (hz : z.length ≤ 14) (hcz : (cs == z) = false)
   {pl : Sem Bool} (he : eval (.Call (.Attribute (Expr.Name (Str.ofString "text") p5) (Str.ofString "replace") p6) [Expr.Constant (.str cs) 0 p7, Expr.Constant (.str z) 0 p8] [] p9) (envOf nm sc L a cd) = (do
      let ov ← eval (Expr.Name (Str.ofString "text") p5) (envOf nm sc L a cd)
      standAt p6.atName
      let (f, first) ← holding [ov] (getMethod ov (Str.ofString "replace") pl)
      callWith p9 f first (backTo p9 (starEach [Expr.Constant (.str cs) 0 p7, Expr.Constant (.str z) 0 p8] (envOf nm sc L a cd))) []))
   (hk : sc.kind = .function) (hl : (envOf nm sc L a cd).kindOf (Str.ofString "text") = some .local)
   (h : ∀ h' t' tk' (r : Str), r.cps.toList = subC c z.cps.toList x.cps.toList → Fr h₀ L h' (fun y => if y = Str.ofString "text" then some (.str r t') else m y) → News h₀ L h' news → Q .next { s with heap := h', toks := tk' }) :
   wpAny (model Challenge.rw_nb0120_01.row.prog w) A (exec (Stmt.If (Expr.Compare (Expr.Constant (.str cs) 0 p1) [CmpOp.In] [Expr.Name (Str.ofString "text") p2] p3)
      [Stmt.Assign [Expr.Name (Str.ofString "text") p4] (Expr.Call (Expr.Attribute (Expr.Name (Str.ofString "text") p5) (Str.ofString "replace") p6) [Expr.Constant (.str cs) 0 p7, Expr.Constant (.str z) 0 p8] [] p9) p10] [] p11) (envOf nm sc L a cd)) Q E s := by
  subst hc
  refine wpAny_If (wpAny_isTrue_Compare1 ?_)
  refine Calls.Constant_str ?_
  refine ld F hm ?_ hk hl
  refine in_str ?_
  refine wpAny_truthy_bool ?_
  refine split_bool (fun _ => ?_) (fun hn => ?_)
  · refine wpAny_execs_cons (wpAny_Assign_Name (MethodCall_ (pl := pl) ?_ he))
    refine ld F hm ?_ hk hl
    with_reducible refine GM.replace ?_
    refine callWith_method1 ?_
    refine args_cons (Calls.Constant_str (args_cons (Calls.Constant_str (args_nil ?_))))
    simp only [List.cons_append, List.nil_append]
    refine SC.replaceW (by simp) (by simp) (by simp) hcz hx hz ?_
    intro t' k
    refine stN F N (fun h' F' N' => ?_) hk hl
    exact wpAny_execs_nil (h h' t' _ _ (replace_sub x z c) F' N')
  · have e : (Builtin.Str.occurrences x ⟨#[c]⟩ 0 x.length 1).isEmpty = true := by simpa using hn
    refine wpAny_execs_nil (h _ t _ _ (replace_sub x z c) ?_ N)
    rw [replace_none e]
    have : (fun y => if y = Str.ofString "text" then some (Value.str x t) else m y) = m := by
      funext y; split
      · rename_i e; rw [e, hm]
      · rfl
    rw [this]; exact F
theorem subC_ge (c : Nat) (z : List Nat) (hz : 1 ≤ z.length) : ∀ l : List Nat, l.length ≤ (subC c z l).length
  | [] => Nat.le_refl _
  | k :: r => by
    have ih := subC_ge c z hz r
    unfold subC at ih ⊢
    rw [List.flatMap_cons, List.length_append, List.length_cons]
    split
    · omega
    · rw [List.length_singleton]; omega
theorem len_of {y : Str} {l : List Nat} (e : y.cps.toList = l) : y.length = l.length := by rw [← e]; simp [Str.length]
theorem esc0_call {w : World} {mean : ExcName → Option Value} {mg mb : Str → Option Value} (x : Str) (t : Tok) (hx : x.length ≤ 10000)
  {dp un : Nat} {gd : Option (List Code)} {cn : Str} {cs : Scope} {a : Addr} {ccd : Value} {cl : List (Str × Addr)} {outer : List Env} {A₀ : Around} {base h₀ : Heap} {L : Addr} {m : Str → Option Value} {news : List (Addr × Obj)} {s : Shared} {Q E : Value → Shared → Prop}
  (B : Below A₀ base outer h₀) (F : Fr h₀ L s.heap m) (X : (Mine.hd.heap_39 w.params).In h₀) (N : News h₀ L s.heap news) (T : Top Mine.hd.view_39 (looseW Mine.hd.view_39 []) mean mg mb h₀) (hk : cs.kind = .function)
  (hd : dp + 1 < recursionLimit)
  (hret : ∀ (t' : Tok) (h' : Heap) (tk' : Nat), Fr h₀ L h' m → News h₀ L h' news → Q (.str (esc 0 x) t') { s with heap := h', toks := tk' }) :
  wpAny (model Challenge.rw_nb0120_01.row.prog w) (ktrTop dp un gd cn cs L a ccd cl outer) (call (.ref 35) [.str x t]) Q E s := by
  have hfin : (subC 62 [38, 103, 116, 59] (subC 60 [38, 108, 116, 59] (subC 38 [38, 97, 109, 112, 59] x.cps.toList))).length ≤ 60000 := by
    rw [chain0]
    have h := esc_len 0 x
    have h2 := len_of (esc_list 0 x)
    omega
  have b2 : (subC 60 [38, 108, 116, 59] (subC 38 [38, 97, 109, 112, 59] x.cps.toList)).length ≤ 60000 := Nat.le_trans (subC_ge 62 [38, 103, 116, 59] (by decide) _) hfin
  have b1 : (subC 38 [38, 97, 109, 112, 59] x.cps.toList).length ≤ 60000 := Nat.le_trans (subC_ge 60 [38, 108, 116, 59] (by decide) _) b2
  have b0 : x.cps.toList.length ≤ 60000 := Nat.le_trans (subC_ge 38 [38, 97, 109, 112, 59] (by decide) _) b1
  w_on
  revert X; k_fill; intro X
  refine wpAny_call ?_
  k_dflt cell_enter
  refine wpAny_execs_cons ?_
  walk1
  refine wpAny_execs_cons ?_
  refine esc_if (c := 38) (by k_asm) (by k_asm) (by rfl) (by decide) (by omega) (by decide) (by decide) (by rfl) (by rfl) (by rfl) ?_
  intro h1 t1 tk1 y1 e1 F1 N1
  rw [show (Str.ofString _).cps.toList = [38, 97, 109, 112, 59] from by decide] at e1
  dsimp only
  refine wpAny_execs_cons ?_
  refine esc_if (c := 60) (by k_asm) (by k_asm) (by rfl) (by decide) (by rw [len_of e1]; omega) (by decide) (by decide) (by rfl) (by rfl) (by rfl) ?_
  intro h2 t2 tk2 y2 e2 F2 N2
  rw [show (Str.ofString _).cps.toList = [38, 108, 116, 59] from by decide, e1] at e2
  dsimp only
  refine wpAny_execs_cons ?_
  refine esc_if (c := 62) (by k_asm) (by k_asm) (by rfl) (by decide) (by rw [len_of e2]; omega) (by decide) (by decide) (by rfl) (by rfl) (by rfl) ?_
  intro h3 t3 tk3 y3 e3 F3 N3
  rw [show (Str.ofString _).cps.toList = [38, 103, 116, 59] from by decide, e2] at e3
  dsimp only
  have hy : y3 = esc 0 x := str_ext (by rw [e3, chain0]; rfl)
  rw [hy] at F3
  k_steps
  exact hret _ _ _ (by assumption) (by assumption)
theorem esc1_call {w : World} {mean : ExcName → Option Value} {mg mb : Str → Option Value} (x : Str) (t : Tok) (hx : x.length ≤ 10000)
  {dp un : Nat} {gd : Option (List Code)} {cn : Str} {cs : Scope} {a : Addr} {ccd : Value} {cl : List (Str × Addr)} {outer : List Env} {A₀ : Around} {base h₀ : Heap} {L : Addr} {m : Str → Option Value} {news : List (Addr × Obj)} {s : Shared} {Q E : Value → Shared → Prop}
  (B : Below A₀ base outer h₀) (F : Fr h₀ L s.heap m) (X : (Mine.hd.heap_39 w.params).In h₀) (N : News h₀ L s.heap news) (T : Top Mine.hd.view_39 (looseW Mine.hd.view_39 []) mean mg mb h₀) (hk : cs.kind = .function)
  (hd : dp + 1 < recursionLimit)
  (hret : ∀ (t' : Tok) (h' : Heap) (tk' : Nat), Fr h₀ L h' m → News h₀ L h' news → Q (.str (esc 1 x) t') { s with heap := h', toks := tk' }) :
  wpAny (model Challenge.rw_nb0120_01.row.prog w) (ktrTop dp un gd cn cs L a ccd cl outer) (call (.ref 42) [.str x t]) Q E s := by
  have hfin : (subC 9 [38, 35, 48, 57, 59] (subC 10 [38, 35, 49, 48, 59] (subC 13 [38, 35, 49, 51, 59] (subC 34 [38, 113, 117, 111, 116, 59] (subC 62 [38, 103, 116, 59] (subC 60 [38, 108, 116, 59] (subC 38 [38, 97, 109, 112, 59] x.cps.toList))))))).length ≤ 60000 := by
    rw [chain1]
    have h := esc_len 1 x
    have h2 := len_of (esc_list 1 x)
    omega
  have b6 : (subC 10 [38, 35, 49, 48, 59] (subC 13 [38, 35, 49, 51, 59] (subC 34 [38, 113, 117, 111, 116, 59] (subC 62 [38, 103, 116, 59] (subC 60 [38, 108, 116, 59] (subC 38 [38, 97, 109, 112, 59] x.cps.toList)))))).length ≤ 60000 := Nat.le_trans (subC_ge 9 [38, 35, 48, 57, 59] (by decide) _) hfin
  have b5 : (subC 13 [38, 35, 49, 51, 59] (subC 34 [38, 113, 117, 111, 116, 59] (subC 62 [38, 103, 116, 59] (subC 60 [38, 108, 116, 59] (subC 38 [38, 97, 109, 112, 59] x.cps.toList))))).length ≤ 60000 := Nat.le_trans (subC_ge 10 [38, 35, 49, 48, 59] (by decide) _) b6
  have b4 : (subC 34 [38, 113, 117, 111, 116, 59] (subC 62 [38, 103, 116, 59] (subC 60 [38, 108, 116, 59] (subC 38 [38, 97, 109, 112, 59] x.cps.toList)))).length ≤ 60000 := Nat.le_trans (subC_ge 13 [38, 35, 49, 51, 59] (by decide) _) b5
  have b3 : (subC 62 [38, 103, 116, 59] (subC 60 [38, 108, 116, 59] (subC 38 [38, 97, 109, 112, 59] x.cps.toList))).length ≤ 60000 := Nat.le_trans (subC_ge 34 [38, 113, 117, 111, 116, 59] (by decide) _) b4
  have b2 : (subC 60 [38, 108, 116, 59] (subC 38 [38, 97, 109, 112, 59] x.cps.toList)).length ≤ 60000 := Nat.le_trans (subC_ge 62 [38, 103, 116, 59] (by decide) _) b3
  have b1 : (subC 38 [38, 97, 109, 112, 59] x.cps.toList).length ≤ 60000 := Nat.le_trans (subC_ge 60 [38, 108, 116, 59] (by decide) _) b2
  have b0 : x.cps.toList.length ≤ 60000 := Nat.le_trans (subC_ge 38 [38, 97, 109, 112, 59] (by decide) _) b1
  w_on
  revert X; k_fill; intro X
  refine wpAny_call ?_
  k_dflt cell_enter
  refine wpAny_execs_cons ?_
  walk1
  refine wpAny_execs_cons ?_
  refine esc_if (c := 38) (by k_asm) (by k_asm) (by rfl) (by decide) (by omega) (by decide) (by decide) (by rfl) (by rfl) (by rfl) ?_
  intro h1 t1 tk1 y1 e1 F1 N1
  rw [show (Str.ofString _).cps.toList = [38, 97, 109, 112, 59] from by decide] at e1
  dsimp only
  refine wpAny_execs_cons ?_
  refine esc_if (c := 60) (by k_asm) (by k_asm) (by rfl) (by decide) (by rw [len_of e1]; omega) (by decide) (by decide) (by rfl) (by rfl) (by rfl) ?_
  intro h2 t2 tk2 y2 e2 F2 N2
  rw [show (Str.ofString _).cps.toList = [38, 108, 116, 59] from by decide, e1] at e2
  dsimp only
  refine wpAny_execs_cons ?_
  refine esc_if (c := 62) (by k_asm) (by k_asm) (by rfl) (by decide) (by rw [len_of e2]; omega) (by decide) (by decide) (by rfl) (by rfl) (by rfl) ?_
  intro h3 t3 tk3 y3 e3 F3 N3
  rw [show (Str.ofString _).cps.toList = [38, 103, 116, 59] from by decide, e2] at e3
  dsimp only
  refine wpAny_execs_cons ?_
  refine esc_if (c := 34) (by k_asm) (by k_asm) (by rfl) (by decide) (by rw [len_of e3]; omega) (by decide) (by decide) (by rfl) (by rfl) (by rfl) ?_
  intro h4 t4 tk4 y4 e4 F4 N4
  rw [show (Str.ofString _).cps.toList = [38, 113, 117, 111, 116, 59] from by decide, e3] at e4
  dsimp only
  refine wpAny_execs_cons ?_
  refine esc_if (c := 13) (by k_asm) (by k_asm) (by rfl) (by decide) (by rw [len_of e4]; omega) (by decide) (by decide) (by rfl) (by rfl) (by rfl) ?_
  intro h5 t5 tk5 y5 e5 F5 N5
  rw [show (Str.ofString _).cps.toList = [38, 35, 49, 51, 59] from by decide, e4] at e5
  dsimp only
  refine wpAny_execs_cons ?_
  refine esc_if (c := 10) (by k_asm) (by k_asm) (by rfl) (by decide) (by rw [len_of e5]; omega) (by decide) (by decide) (by rfl) (by rfl) (by rfl) ?_
  intro h6 t6 tk6 y6 e6 F6 N6
  rw [show (Str.ofString _).cps.toList = [38, 35, 49, 48, 59] from by decide, e5] at e6
  dsimp only
  refine wpAny_execs_cons ?_
  refine esc_if (c := 9) (by k_asm) (by k_asm) (by rfl) (by decide) (by rw [len_of e6]; omega) (by decide) (by decide) (by rfl) (by rfl) (by rfl) ?_
  intro h7 t7 tk7 y7 e7 F7 N7
  rw [show (Str.ofString _).cps.toList = [38, 35, 48, 57, 59] from by decide, e6] at e7
  dsimp only
  have hy : y7 = esc 1 x := str_ext (by rw [e7, chain1]; rfl)
  rw [hy] at F7
  k_steps
  exact hret _ _ _ (by assumption) (by assumption)
theorem esc2_call {w : World} {mean : ExcName → Option Value} {mg mb : Str → Option Value} (x : Str) (t : Tok) (hx : x.length ≤ 10000)
  {dp un : Nat} {gd : Option (List Code)} {cn : Str} {cs : Scope} {a : Addr} {ccd : Value} {cl : List (Str × Addr)} {outer : List Env} {A₀ : Around} {base h₀ : Heap} {L : Addr} {m : Str → Option Value} {news : List (Addr × Obj)} {s : Shared} {Q E : Value → Shared → Prop}
  (B : Below A₀ base outer h₀) (F : Fr h₀ L s.heap m) (X : (Mine.hd.heap_39 w.params).In h₀) (N : News h₀ L s.heap news) (T : Top Mine.hd.view_39 (looseW Mine.hd.view_39 []) mean mg mb h₀) (hk : cs.kind = .function)
  (hd : dp + 1 < recursionLimit)
  (hret : ∀ (t' : Tok) (h' : Heap) (tk' : Nat), Fr h₀ L h' m → News h₀ L h' news → Q (.str (esc 2 x) t') { s with heap := h', toks := tk' }) :
  wpAny (model Challenge.rw_nb0120_01.row.prog w) (ktrTop dp un gd cn cs L a ccd cl outer) (call (.ref 49) [.str x t]) Q E s := by
  have hfin : (subC 34 [38, 113, 117, 111, 116, 59] (subC 62 [38, 103, 116, 59] (subC 38 [38, 97, 109, 112, 59] x.cps.toList))).length ≤ 60000 := by
    rw [chain2]
    have h := esc_len 2 x
    have h2 := len_of (esc_list 2 x)
    omega
  have b2 : (subC 62 [38, 103, 116, 59] (subC 38 [38, 97, 109, 112, 59] x.cps.toList)).length ≤ 60000 := Nat.le_trans (subC_ge 34 [38, 113, 117, 111, 116, 59] (by decide) _) hfin
  have b1 : (subC 38 [38, 97, 109, 112, 59] x.cps.toList).length ≤ 60000 := Nat.le_trans (subC_ge 62 [38, 103, 116, 59] (by decide) _) b2
  have b0 : x.cps.toList.length ≤ 60000 := Nat.le_trans (subC_ge 38 [38, 97, 109, 112, 59] (by decide) _) b1
  w_on
  revert X; k_fill; intro X
  refine wpAny_call ?_
  k_dflt cell_enter
  refine wpAny_execs_cons ?_
  walk1
  refine wpAny_execs_cons ?_
  refine esc_if (c := 38) (by k_asm) (by k_asm) (by rfl) (by decide) (by omega) (by decide) (by decide) (by rfl) (by rfl) (by rfl) ?_
  intro h1 t1 tk1 y1 e1 F1 N1
  rw [show (Str.ofString _).cps.toList = [38, 97, 109, 112, 59] from by decide] at e1
  dsimp only
  refine wpAny_execs_cons ?_
  refine esc_if (c := 62) (by k_asm) (by k_asm) (by rfl) (by decide) (by rw [len_of e1]; omega) (by decide) (by decide) (by rfl) (by rfl) (by rfl) ?_
  intro h2 t2 tk2 y2 e2 F2 N2
  rw [show (Str.ofString _).cps.toList = [38, 103, 116, 59] from by decide, e1] at e2
  dsimp only
  refine wpAny_execs_cons ?_
  refine esc_if (c := 34) (by k_asm) (by k_asm) (by rfl) (by decide) (by rw [len_of e2]; omega) (by decide) (by decide) (by rfl) (by rfl) (by rfl) ?_
  intro h3 t3 tk3 y3 e3 F3 N3
  rw [show (Str.ofString _).cps.toList = [38, 113, 117, 111, 116, 59] from by decide, e2] at e3
  dsimp only
  have hy : y3 = esc 2 x := str_ext (by rw [e3, chain2]; rfl)
  rw [hy] at F3
  k_steps
  exact hret _ _ _ (by assumption) (by assumption)
theorem esc3_call {w : World} {mean : ExcName → Option Value} {mg mb : Str → Option Value} (x : Str) (t : Tok) (hx : x.length ≤ 10000)
  {dp un : Nat} {gd : Option (List Code)} {cn : Str} {cs : Scope} {a : Addr} {ccd : Value} {cl : List (Str × Addr)} {outer : List Env} {A₀ : Around} {base h₀ : Heap} {L : Addr} {m : Str → Option Value} {news : List (Addr × Obj)} {s : Shared} {Q E : Value → Shared → Prop}
  (B : Below A₀ base outer h₀) (F : Fr h₀ L s.heap m) (X : (Mine.hd.heap_39 w.params).In h₀) (N : News h₀ L s.heap news) (T : Top Mine.hd.view_39 (looseW Mine.hd.view_39 []) mean mg mb h₀) (hk : cs.kind = .function)
  (hd : dp + 1 < recursionLimit)
  (hret : ∀ (t' : Tok) (h' : Heap) (tk' : Nat), Fr h₀ L h' m → News h₀ L h' news → Q (.str (esc 3 x) t') { s with heap := h', toks := tk' }) :
  wpAny (model Challenge.rw_nb0120_01.row.prog w) (ktrTop dp un gd cn cs L a ccd cl outer) (call (.ref 56) [.str x t]) Q E s := by
  have hfin : (subC 13 [38, 35, 120, 68, 59] (subC 62 [38, 103, 116, 59] (subC 60 [38, 108, 116, 59] (subC 38 [38, 97, 109, 112, 59] x.cps.toList)))).length ≤ 60000 := by
    rw [chain3]
    have h := esc_len 3 x
    have h2 := len_of (esc_list 3 x)
    omega
  have b3 : (subC 62 [38, 103, 116, 59] (subC 60 [38, 108, 116, 59] (subC 38 [38, 97, 109, 112, 59] x.cps.toList))).length ≤ 60000 := Nat.le_trans (subC_ge 13 [38, 35, 120, 68, 59] (by decide) _) hfin
  have b2 : (subC 60 [38, 108, 116, 59] (subC 38 [38, 97, 109, 112, 59] x.cps.toList)).length ≤ 60000 := Nat.le_trans (subC_ge 62 [38, 103, 116, 59] (by decide) _) b3
  have b1 : (subC 38 [38, 97, 109, 112, 59] x.cps.toList).length ≤ 60000 := Nat.le_trans (subC_ge 60 [38, 108, 116, 59] (by decide) _) b2
  have b0 : x.cps.toList.length ≤ 60000 := Nat.le_trans (subC_ge 38 [38, 97, 109, 112, 59] (by decide) _) b1
  w_on
  revert X; k_fill; intro X
  refine wpAny_call ?_
  k_dflt cell_enter
  refine wpAny_execs_cons ?_
  walk1
  refine wpAny_execs_cons ?_
  refine esc_if (c := 38) (by k_asm) (by k_asm) (by rfl) (by decide) (by omega) (by decide) (by decide) (by rfl) (by rfl) (by rfl) ?_
  intro h1 t1 tk1 y1 e1 F1 N1
  rw [show (Str.ofString _).cps.toList = [38, 97, 109, 112, 59] from by decide] at e1
  dsimp only
  refine wpAny_execs_cons ?_
  refine esc_if (c := 60) (by k_asm) (by k_asm) (by rfl) (by decide) (by rw [len_of e1]; omega) (by decide) (by decide) (by rfl) (by rfl) (by rfl) ?_
  intro h2 t2 tk2 y2 e2 F2 N2
  rw [show (Str.ofString _).cps.toList = [38, 108, 116, 59] from by decide, e1] at e2
  dsimp only
  refine wpAny_execs_cons ?_
  refine esc_if (c := 62) (by k_asm) (by k_asm) (by rfl) (by decide) (by rw [len_of e2]; omega) (by decide) (by decide) (by rfl) (by rfl) (by rfl) ?_
  intro h3 t3 tk3 y3 e3 F3 N3
  rw [show (Str.ofString _).cps.toList = [38, 103, 116, 59] from by decide, e2] at e3
  dsimp only
  refine wpAny_execs_cons ?_
  refine esc_if (c := 13) (by k_asm) (by k_asm) (by rfl) (by decide) (by rw [len_of e3]; omega) (by decide) (by decide) (by rfl) (by rfl) (by rfl) ?_
  intro h4 t4 tk4 y4 e4 F4 N4
  rw [show (Str.ofString _).cps.toList = [38, 35, 120, 68, 59] from by decide, e3] at e4
  dsimp only
  have hy : y4 = esc 3 x := str_ext (by rw [e4, chain3]; rfl)
  rw [hy] at F4
  k_steps
  exact hret _ _ _ (by assumption) (by assumption)
theorem esc4_call {w : World} {mean : ExcName → Option Value} {mg mb : Str → Option Value} (x : Str) (t : Tok) (hx : x.length ≤ 10000)
  {dp un : Nat} {gd : Option (List Code)} {cn : Str} {cs : Scope} {a : Addr} {ccd : Value} {cl : List (Str × Addr)} {outer : List Env} {A₀ : Around} {base h₀ : Heap} {L : Addr} {m : Str → Option Value} {news : List (Addr × Obj)} {s : Shared} {Q E : Value → Shared → Prop}
  (B : Below A₀ base outer h₀) (F : Fr h₀ L s.heap m) (X : (Mine.hd.heap_39 w.params).In h₀) (N : News h₀ L s.heap news) (T : Top Mine.hd.view_39 (looseW Mine.hd.view_39 []) mean mg mb h₀) (hk : cs.kind = .function)
  (hd : dp + 1 < recursionLimit)
  (hret : ∀ (t' : Tok) (h' : Heap) (tk' : Nat), Fr h₀ L h' m → News h₀ L h' news → Q (.str (esc 4 x) t') { s with heap := h', toks := tk' }) :
  wpAny (model Challenge.rw_nb0120_01.row.prog w) (ktrTop dp un gd cn cs L a ccd cl outer) (call (.ref 63) [.str x t]) Q E s := by
  have hfin : (subC 13 [38, 35, 120, 68, 59] (subC 10 [38, 35, 120, 65, 59] (subC 9 [38, 35, 120, 57, 59] (subC 34 [38, 113, 117, 111, 116, 59] (subC 60 [38, 108, 116, 59] (subC 38 [38, 97, 109, 112, 59] x.cps.toList)))))).length ≤ 60000 := by
    rw [chain4]
    have h := esc_len 4 x
    have h2 := len_of (esc_list 4 x)
    omega
  have b5 : (subC 10 [38, 35, 120, 65, 59] (subC 9 [38, 35, 120, 57, 59] (subC 34 [38, 113, 117, 111, 116, 59] (subC 60 [38, 108, 116, 59] (subC 38 [38, 97, 109, 112, 59] x.cps.toList))))).length ≤ 60000 := Nat.le_trans (subC_ge 13 [38, 35, 120, 68, 59] (by decide) _) hfin
  have b4 : (subC 9 [38, 35, 120, 57, 59] (subC 34 [38, 113, 117, 111, 116, 59] (subC 60 [38, 108, 116, 59] (subC 38 [38, 97, 109, 112, 59] x.cps.toList)))).length ≤ 60000 := Nat.le_trans (subC_ge 10 [38, 35, 120, 65, 59] (by decide) _) b5
  have b3 : (subC 34 [38, 113, 117, 111, 116, 59] (subC 60 [38, 108, 116, 59] (subC 38 [38, 97, 109, 112, 59] x.cps.toList))).length ≤ 60000 := Nat.le_trans (subC_ge 9 [38, 35, 120, 57, 59] (by decide) _) b4
  have b2 : (subC 60 [38, 108, 116, 59] (subC 38 [38, 97, 109, 112, 59] x.cps.toList)).length ≤ 60000 := Nat.le_trans (subC_ge 34 [38, 113, 117, 111, 116, 59] (by decide) _) b3
  have b1 : (subC 38 [38, 97, 109, 112, 59] x.cps.toList).length ≤ 60000 := Nat.le_trans (subC_ge 60 [38, 108, 116, 59] (by decide) _) b2
  have b0 : x.cps.toList.length ≤ 60000 := Nat.le_trans (subC_ge 38 [38, 97, 109, 112, 59] (by decide) _) b1
  w_on
  revert X; k_fill; intro X
  refine wpAny_call ?_
  k_dflt cell_enter
  refine wpAny_execs_cons ?_
  walk1
  refine wpAny_execs_cons ?_
  refine esc_if (c := 38) (by k_asm) (by k_asm) (by rfl) (by decide) (by omega) (by decide) (by decide) (by rfl) (by rfl) (by rfl) ?_
  intro h1 t1 tk1 y1 e1 F1 N1
  rw [show (Str.ofString _).cps.toList = [38, 97, 109, 112, 59] from by decide] at e1
  dsimp only
  refine wpAny_execs_cons ?_
  refine esc_if (c := 60) (by k_asm) (by k_asm) (by rfl) (by decide) (by rw [len_of e1]; omega) (by decide) (by decide) (by rfl) (by rfl) (by rfl) ?_
  intro h2 t2 tk2 y2 e2 F2 N2
  rw [show (Str.ofString _).cps.toList = [38, 108, 116, 59] from by decide, e1] at e2
  dsimp only
  refine wpAny_execs_cons ?_
  refine esc_if (c := 34) (by k_asm) (by k_asm) (by rfl) (by decide) (by rw [len_of e2]; omega) (by decide) (by decide) (by rfl) (by rfl) (by rfl) ?_
  intro h3 t3 tk3 y3 e3 F3 N3
  rw [show (Str.ofString _).cps.toList = [38, 113, 117, 111, 116, 59] from by decide, e2] at e3
  dsimp only
  refine wpAny_execs_cons ?_
  refine esc_if (c := 9) (by k_asm) (by k_asm) (by rfl) (by decide) (by rw [len_of e3]; omega) (by decide) (by decide) (by rfl) (by rfl) (by rfl) ?_
  intro h4 t4 tk4 y4 e4 F4 N4
  rw [show (Str.ofString _).cps.toList = [38, 35, 120, 57, 59] from by decide, e3] at e4
  dsimp only
  refine wpAny_execs_cons ?_
  refine esc_if (c := 10) (by k_asm) (by k_asm) (by rfl) (by decide) (by rw [len_of e4]; omega) (by decide) (by decide) (by rfl) (by rfl) (by rfl) ?_
  intro h5 t5 tk5 y5 e5 F5 N5
  rw [show (Str.ofString _).cps.toList = [38, 35, 120, 65, 59] from by decide, e4] at e5
  dsimp only
  refine wpAny_execs_cons ?_
  refine esc_if (c := 13) (by k_asm) (by k_asm) (by rfl) (by decide) (by rw [len_of e5]; omega) (by decide) (by decide) (by rfl) (by rfl) (by rfl) ?_
  intro h6 t6 tk6 y6 e6 F6 N6
  rw [show (Str.ofString _).cps.toList = [38, 35, 120, 68, 59] from by decide, e5] at e6
  dsimp only
  have hy : y6 = esc 4 x := str_ext (by rw [e6, chain4]; rfl)
  rw [hy] at F6
  k_steps
  exact hret _ _ _ (by assumption) (by assumption)
end Mine
end
section
open PySem PySem.W PyProof.Rows
set_option maxRecDepth 100000
set_option maxHeartbeats 800000
namespace Mine
/-- behind the law's first loop -/
def AfterWhile (g1 : Heap) (L1 : Addr) (s : Shared) (news : List (Addr × Obj)) (x : Str) (t : Tok) (f : Flow) (s' : Shared) : Prop :=
  f = .next ∧ ∃ h' tk i t', s' = { s with heap := h', toks := tk } ∧ Fr g1 L1 h' (fun y => if y = Str.ofString "margin" then some (.int i t') else List.lookup y [(Str.ofString "text", Value.str x t)]) ∧ News g1 L1 h' news ∧ MarginIs x.cps.toList i
theorem upd_twice {m : Str → Option Value} {k : Str} {v w : Option Value} : (fun y => if y = k then v else if y = k then w else m y) = fun y => if y = k then v else m y := by
  funext y; by_cases h : y = k <;> simp [h]
theorem sign_ne {x : Str} {i : Int} {c k : Nat} {s : Str} (h : Txt.item x i = ⟨#[c]⟩) (hs : s = ⟨#[k]⟩) : (Txt.item x i != s) = (c != k) := by
  rw [h, hs, Bool.eq_iff_iff]
  simp [bne_iff_ne]
section
variable {prog : Program} {w : World} {A : Around} {E : Value → Shared → Prop} {s : Shared} {env : Env} {h₀ : Heap} {x : Str} {body : List Stmt} {Q : Flow → Shared → Prop}
/-- a loop over a text's signs, by an invariant over the place, the frame's map and the ledger -/
theorem iter_strN {tx : Str} {t : Tok} {m₀ : Str → Option Value} {news : List (Addr × Obj)} (J : Nat → (Str → Option Value) → List (Addr × Obj) → Prop)
    (hh : A.handled = none) (F : Fr h₀ env.locals s.heap m₀) (N : News h₀ env.locals s.heap news) (hj : J 0 m₀ news)
    (turn : ∀ i c u m₁ news₁ h tk own, tx.cps.toList[i]? = some c → OwnOff own (news.map (·.1)) → J i m₁ news₁ → Fr h₀ env.locals h (fun y => if y = x then some (.str ⟨#[c]⟩ u) else m₁ y) → News h₀ env.locals h (news₁ ++ own) →
      wpAny (model prog w) A (execs body env) (InvPostN h₀ env.locals (J (i + 1)) own (news.map (·.1)) { s with heap := h, toks := tk } Q) E { s with heap := h, toks := tk })
    (done : ∀ m₁ news₁ h tk, J tx.cps.toList.length m₁ news₁ → Fr h₀ env.locals h m₁ → News h₀ env.locals h news₁ → Q .next { s with heap := h, toks := tk }) :
    wpAny (model prog w) A (pyIter (.str tx t)) (fun it s₂ => LoopAtV prog w A h₀ env x body Q E it s₂) E s := by
  refine wpAny_pyIter_str fun o St hW hst => ?_
  refine loop_invN J (hW A hh) ?_ ?_ ?_ ?_ hst (F.push _) (fun p hp => ⟨Heap.get?_push_of_some _ (N p hp).1, (N p hp).2⟩) hj ?_ ?_
  · intro hm
    exact absurd F.ns.lt ((List.mem_singleton.mp hm) ▸ Nat.lt_irrefl _)
  · intro b' hb
    rw [List.mem_singleton.mp hb]
    exact next_is_new F
  · intro p hp hI
    exact absurd (Heap.lt_size (N p hp).1) ((List.mem_singleton.mp hI) ▸ Nat.lt_irrefl _)
  · intro p hp hI
    exact absurd (Heap.lt_size (N p hp).1) ((List.mem_singleton.mp hI) ▸ Nat.lt_irrefl _)
  · rintro i v m₁ nx h tk own hi ⟨n, u, hn, rfl⟩ _ hoff hJ F₁ N₁
    exact turn i n u m₁ nx h tk own (by simpa using hn) hoff hJ F₁ N₁
  · intro m₁ nx h tk hJ F₁ N₁
    exact done m₁ nx h tk (by simpa using hJ) F₁ N₁
end
/-- the signs kept so far -/
def Signs (vs : Array Value) (l : List Nat) : Prop := StrsAre vs.toList (l.map fun c => ⟨#[c]⟩)
theorem Signs.snoc {vs : Array Value} {l : List Nat} (h : Signs vs l) (c : Nat) (u : Tok) : Signs (vs.push (.str ⟨#[c]⟩ u)) (l ++ [c]) := by
  unfold Signs at h ⊢
  rw [Array.toList_push, List.map_append]
  exact KStt.strs_snoc h
/-- the law's second loop: what is kept, and what is still to come -/
def SoJ (g : Nat) (l : List Nat) (D : Addr) (nx : List (Addr × Obj)) (m0 : Str → Option Value) (i : Nat) (m₁ : Str → Option Value) (news₁ : List (Addr × Obj)) : Prop :=
  ∃ (vs : Array Value) (ks : List Nat) (pl : Nat) (tp : Tok) (u : Option Value), news₁ = (D, listOf vs vs.size) :: nx ∧ Signs vs ks ∧ ks ++ keep g pl (l.drop i) = keep g 0 l ∧ i ≤ l.length ∧ ks.length ≤ i ∧ pl ≤ i ∧
    m₁ = fun y => if y = Str.ofString "place" then some (.int pl tp) else if y = Str.ofString "sign" then u else m0 y
theorem so_start {g : Nat} {l : List Nat} {D : Addr} {nx : List (Addr × Obj)} {m0 : Str → Option Value} {tp : Tok} (hs : m0 (Str.ofString "sign") = none) :
    SoJ g l D nx m0 0 (fun y => if y = Str.ofString "place" then some (.int 0 tp) else m0 y) ((D, listOf #[] 0) :: nx) := by
  refine ⟨#[], [], 0, tp, none, rfl, StrsAre.nil, by simp, by simp, by simp, by simp, ?_⟩
  funext y
  by_cases h : y = Str.ofString "place"
  · simp [h]
  · by_cases h2 : y = Str.ofString "sign"
    · simp [h2, hs]
    · simp [h, h2]
theorem so_next {g : Nat} {l : List Nat} {D : Addr} {nx own : List (Addr × Obj)} {m0 : Str → Option Value} {g1 h' : Heap} {L : Addr} {i n' tk pl' : Nat} {o0 : Obj} {s₁ : Shared} {vs' : Array Value} {ks' : List Nat} {P : Int} {tp' : Tok} {sgn w1 w2 : Option Value}
  (hS : Signs vs' ks') (hK : ks' ++ keep g pl' (l.drop (i + 1)) = keep g 0 l) (hil : i + 1 ≤ l.length) (hkl : ks'.length ≤ i + 1) (hpl : pl' ≤ i + 1) (hP : P = pl')
  (F : Fr g1 L h' (fun y => if y = Str.ofString "place" then some (.int P tp') else if y = Str.ofString "sign" then sgn else if y = Str.ofString "place" then w1 else if y = Str.ofString "sign" then w2 else m0 y))
  (N : News g1 L h' ((D, listOf vs' n') :: (nx ++ own))) (hn : n' = vs'.size) :
  InvEndN g1 L (SoJ g l D nx m0 (i + 1)) own (((D, o0) :: nx).map (·.1)) s₁ { s₁ with heap := h', toks := tk } := by
  subst hP; subst hn
  refine InvEndN.intro F N ⟨vs', ks', pl', tp', sgn, rfl, hS, hK, hil, hkl, hpl, ?_⟩ rfl ?_ ?_
  · funext y
    by_cases h : y = Str.ofString "place"
    · simp [h]
    · by_cases h2 : y = Str.ofString "sign"
      · simp [h2]
      · simp [h, h2]
  · intro p hp
    rcases List.mem_cons.mp hp with rfl | hp
    · exact List.mem_cons_self ..
    · exact List.mem_cons_of_mem _ (List.mem_append_left _ hp)
  · intro p hp
    exact List.mem_cons_of_mem _ (List.mem_append_right _ hp)
theorem sgn_eq {c k : Nat} {s : Str} (hs : s = ⟨#[k]⟩) : ((⟨#[c]⟩ : Str) == s) = (c == k) := by
  rw [hs, Bool.eq_iff_iff]; simp
theorem keep_lf {g pl i : Nat} {l ks : List Nat} (hc : l[i]? = some 10) (hK : ks ++ keep g pl (l.drop i) = keep g 0 l) : (ks ++ [10]) ++ keep g 0 (l.drop (i + 1)) = keep g 0 l := by
  obtain ⟨hi, e⟩ := List.getElem?_eq_some_iff.mp hc
  rw [List.drop_eq_getElem_cons hi, e, keep, if_pos rfl] at hK
  simpa using hK
theorem keep_in {g pl i c : Nat} {l ks : List Nat} (hc : l[i]? = some c) (h : c ≠ 10) (hg : g ≤ pl) (hK : ks ++ keep g pl (l.drop i) = keep g 0 l) : (ks ++ [c]) ++ keep g (pl + 1) (l.drop (i + 1)) = keep g 0 l := by
  obtain ⟨hi, e⟩ := List.getElem?_eq_some_iff.mp hc
  rw [List.drop_eq_getElem_cons hi, e, keep, if_neg h, if_pos hg] at hK
  simpa using hK
theorem keep_out {g pl i c : Nat} {l ks : List Nat} (hc : l[i]? = some c) (h : c ≠ 10) (hg : ¬ g ≤ pl) (hK : ks ++ keep g pl (l.drop i) = keep g 0 l) : ks ++ keep g (pl + 1) (l.drop (i + 1)) = keep g 0 l := by
  obtain ⟨hi, e⟩ := List.getElem?_eq_some_iff.mp hc
  rw [List.drop_eq_getElem_cons hi, e, keep, if_neg h, if_neg hg] at hK
  exact hK
theorem join_nil : ∀ l : List Nat, (Txt.join (Str.ofString "") (l.map fun c => (⟨#[c]⟩ : Str))).cps.toList = l := by
  intro l
  show (Builtin.Str.glued _ _).cps.toList = l
  rw [StrLaws.glued_eq_join]
  induction l with
  | nil => rfl
  | cons a r ih =>
    cases r with
    | nil => rfl
    | cons b q =>
      show ((⟨#[a]⟩ : Str) ++ Str.ofString "" ++ Str.join (Str.ofString "") ((b :: q).map fun c => (⟨#[c]⟩ : Str))).cps.toList = _
      simp only [Str.cps_append, Array.toList_append]
      rw [ih]; rfl
local macro_rules | `(tactic| walk_at "call builtin:list.append") => `(tactic| (refine append_K (by k_asm) (by k_asm) (Upd.head (by with_reducible assumption)) ?_ ?z; (case z => (first | omega | (rw [PySem.sizeLine_eq]; omega))); intro h' F' N'; (try k_sweep)))
theorem ones_sum : ∀ ks : List Nat, ((ks.map (fun c => (⟨#[c]⟩ : Str))).map (·.length)).sum = ks.length
  | [] => rfl
  | a :: r => by
    have ih := ones_sum r
    rw [List.map_cons, List.map_cons, List.sum_cons, ih, List.length_cons]
    show 1 + r.length = _
    omega
/-- what _law_set_out hands back -/
def SoRes (x : Str) (v : Value) : Prop := if firstRow x.cps.toList = [] then v = .none else ∃ t, v = .str (ded x) t
theorem so_call {w : World} {mean : ExcName → Option Value} {mg mb : Str → Option Value} (x : Str) (t : Tok) (hx : x.length ≤ 10000)
  {dp un : Nat} {gd : Option (List Code)} {cn : Str} {cs : Scope} {a : Addr} {ccd : Value} {cl : List (Str × Addr)} {outer : List Env} {A₀ : Around} {base h₀ : Heap} {L : Addr} {m : Str → Option Value} {news : List (Addr × Obj)} {s : Shared} {Q E : Value → Shared → Prop}
  (B : Below A₀ base outer h₀) (F : Fr h₀ L s.heap m) (X : (Mine.hd.heap_39 w.params).In h₀) (N : News h₀ L s.heap news) (T : Top Mine.hd.view_39 (looseW Mine.hd.view_39 []) mean mg mb h₀) (hk : cs.kind = .function)
  (hd : dp + 1 < recursionLimit) (hu : un + 8 < cLine)
  (hret : ∀ (v : Value) (h' : Heap) (tk' : Nat), SoRes x v → Fr h₀ L h' m → News h₀ L h' news → Q v { s with heap := h', toks := tk' }) :
  wpAny (model Challenge.rw_nb0120_01.row.prog w) (ktrTop dp un gd cn cs L a ccd cl outer) (call (.ref 77) [.str x t]) Q E s := by
  w_on
  revert X; k_fill; intro X
  refine wpAny_call ?_
  k_dflt (refine' code_def B F X N T ?kA ?kF ?kK ?k6 ?k7 ?k8 ?k9 ?kB ?_ ?c2 ?c3 ?c4 ?c5; (case kA => exact rfl); (case kF => exact rfl); (case kK => assumption); (case k6 => k_is); (case k7 => k_is); (case k8 => ktr_room); (case k9 => exact BindsTo.of_eq rfl); (case c5 => decide); (case kB => exact locs rfl); (case c2 => exact rfl); (case c3 => exact rfl); (case c4 => exact rfl))
  intro g1 L1 h1 FG1 F1 N1 B1 X1 T1
  dsimp only
  k_fold
  iterate 6 walk1
  refine stN F1 N1 (fun h2 F2 N2 => ?_)
  clear F1 N1
  dsimp only
  refine wpAny_execs_cons ?_
  refine wpAny_mono (Q := AfterWhile g1 L1 s news x t) ?wh ?rest (fun _ _ e => e)
  case wh =>
    refine While_inv2 (J := fun n m2 nx => nx = news ∧ ∃ i t', m2 = (fun y => if y = Str.ofString "margin" then some (.int i t') else List.lookup y [(Str.ofString "text", Value.str x t)]) ∧ -1 ≤ i ∧ Blank x.cps.toList i ∧ n = ((x.length : Int) - i).toNat) F2 N2 ⟨rfl, _, _, rfl, by decide, fun k hk => absurd hk (by omega), rfl⟩ ?_
    rintro n m2 nx h3 tk3 F3 N3 ⟨rfl, i, t3, rfl, hi, hb, rfl⟩
    clear F2 N2
    k_fold
    have hlen : x.cps.toList.length = x.length := by simp [Str.length]
    k_steps
    · rename ((i : Int) + 1 < _) => h1
      obtain ⟨c, hc, hi'⟩ := item_at (x := x) (k := i + 1) (by omega) h1
      rename ((Txt.item x (i + 1) != Str.ofString "\n") = true) => e1
      rename ((Txt.item x (i + 1) != Str.ofString " ") = true) => e2
      rw [sign_ne hi' (by decide : _ = (⟨#[10]⟩ : Str))] at e1
      rw [sign_ne hi' (by decide : _ = (⟨#[32]⟩ : Str))] at e2
      rename Fr _ _ _ _ => F9
      rw [upd_twice] at F9
      exact ⟨rfl, _, _, _, _, rfl, F9, by assumption, mi_brk hi hb hc (by simpa using e1) (by simpa using e2)⟩
    · rename ((i : Int) + 1 < _) => h1
      obtain ⟨c, hc, hi'⟩ := item_at (x := x) (k := i + 1) (by omega) h1
      rename ((Txt.item x (i + 1) != Str.ofString " ") = false) => e2
      rw [sign_ne hi' (by decide : _ = (⟨#[32]⟩ : Str))] at e2
      have e3 : c = 32 := by simpa using e2
      rw [e3] at hc
      rename Fr _ _ _ _ => F9
      rw [upd_twice] at F9
      exact ⟨_, _, _, _, _, rfl, F9, by assumption, by omega, rfl, _, _, rfl, by omega, blank_next hb hc, rfl⟩
    · rename ((i : Int) + 1 < _) => h1
      obtain ⟨c, hc, hi'⟩ := item_at (x := x) (k := i + 1) (by omega) h1
      rename ((Txt.item x (i + 1) != Str.ofString "\n") = false) => e1
      rw [sign_ne hi' (by decide : _ = (⟨#[10]⟩ : Str))] at e1
      have e3 : c = 10 := by simpa using e1
      rw [e3] at hc
      exact ⟨rfl, _, _, _, _, rfl, F3, N3, mi_stop hi hb (.inr hc)⟩
    · rename (¬ (i : Int) + 1 < _) => h1
      exact ⟨rfl, _, _, _, _, rfl, F3, N3, mi_stop hi hb (.inl (List.getElem?_eq_none (by omega)))⟩
  case rest =>
    rintro f s2 ⟨rfl, h3, tk3, i, t3, rfl, F3, N3, hM⟩
    clear F2 N2
    dsimp only
    iterate 10 walk1
    · rename ((i : Int) = -1) => e1
      k_steps
      refine hret _ _ _ ?_ (by assumption) (by assumption)
      rcases margin_is _ _ hM with ⟨_, e⟩ | ⟨h0, _, _⟩
      · unfold SoRes; rw [if_pos e]
      · omega
    rename (¬ (i : Int) = -1) => hne
    have hi0 : 0 ≤ i := by have := hM.1; omega
    iterate 5 walk1
    rename Fr _ _ _ _ => F3
    rename News _ _ _ _ => N3
    refine newList_K F3 N3 (fun D h4 F4 N4 hD => ?_)
    refine stN F4 N4 (fun h5 F5 N5 => ?_)
    dsimp only
    iterate 4 walk1
    rename Fr _ _ _ _ => F5
    rename News _ _ _ _ => N5
    refine stN F5 N5 (fun h6 F6 N6 => ?_)
    dsimp only
    clear F5 N5
    refine wpAny_execs_cons ?_
    refine For_invV g1 rfl rfl ?_
    walk1
    obtain ⟨g, rfl⟩ : ∃ g : Nat, i = g := ⟨i.toNat, by omega⟩
    refine iter_strN (SoJ g x.cps.toList D news (fun y => if y = Str.ofString "kept" then some (.ref D) else if y = Str.ofString "margin" then some (.int g t3) else List.lookup y [(Str.ofString "text", Value.str x t)])) rfl F6 N6 (so_start rfl) ?turn ?done
    case turn =>
      rintro i c u m₁ news₁ h7 tk7 own hc hoff ⟨vs, ks, pl, tp, u0, rfl, hS, hK, hil, hkl, hpl, rfl⟩ F7 N7
      clear F6 N6
      rw [List.cons_append] at N7
      have hoffD : ∀ p ∈ news ++ own, p.1 ≠ D := fun p hp => by
        rcases List.mem_append.mp hp with hp | hp
        · exact Nat.ne_of_lt (hD p hp)
        · exact hoff p hp D (List.mem_cons_self ..)
      have hvs : vs.size = ks.length := by have := hS.length; simpa using this
      have hlen : x.cps.toList.length = x.length := by simp [Str.length]
      have hil' : i + 1 ≤ x.cps.toList.length := (List.getElem?_eq_some_iff.mp hc).1
      k_steps
      · rename (((⟨#[c]⟩ : Str) == Str.ofString "\n") = true) => e1
        rw [sgn_eq (by decide : _ = (⟨#[10]⟩ : Str))] at e1
        have e2 : c = 10 := by simpa using e1
        subst e2
        rename Fr _ _ _ _ => F9
        rename News _ _ _ _ => N9
        exact so_next (hS.snoc 10 u) (keep_lf hc hK) hil' (by simp; omega) (Nat.zero_le _) rfl F9 N9 (by simp)
      · rename (((⟨#[c]⟩ : Str) == Str.ofString "\n") = false) => e1
        rw [sgn_eq (by decide : _ = (⟨#[10]⟩ : Str))] at e1
        have e2 : c ≠ 10 := by simpa using e1
        rename ((g : Int) ≤ (pl : Int)) => e3
        rename Fr _ _ _ _ => F9
        rename News _ _ _ _ => N9
        exact so_next (hS.snoc c u) (keep_in hc e2 (by omega) hK) hil' (by simp; omega) (by omega) (by simp) F9 N9 (by simp)
      · rename (((⟨#[c]⟩ : Str) == Str.ofString "\n") = false) => e1
        rw [sgn_eq (by decide : _ = (⟨#[10]⟩ : Str))] at e1
        have e2 : c ≠ 10 := by simpa using e1
        rename (¬ (g : Int) ≤ (pl : Int)) => e3
        rename Fr _ _ _ _ => F9
        rename News _ _ _ _ => N9
        exact so_next hS (keep_out hc e2 (by omega) hK) hil' (by omega) (by omega) (by simp) F9 N9 rfl
    case done =>
      rintro m₁ news₁ h7 tk7 ⟨vs, ks, pl, tp, u0, rfl, hS, hK, hil, hkl, hpl, rfl⟩ F7 N7
      clear F6 N6
      dsimp only
      k_steps
      have hlen : x.cps.toList.length = x.length := by simp [Str.length]
      have hks : (ks.map (fun c => (⟨#[c]⟩ : Str))).length = ks.length := by simp
      have hsum : ((ks.map (fun c => (⟨#[c]⟩ : Str))).map (·.length)).sum = ks.length := by
        exact ones_sum ks
      rename News _ _ _ _ => N9
      refine join_listW (News.isList N9 (List.mem_cons_self ..)) hS (by decide) (by rw [hsum, hks]; omega) ?_
      intro t9 tk9
      rw [show Txt.join (Str.ofString "") (ks.map fun c => (⟨#[c]⟩ : Str)) = ded x from str_ext (by
        rw [join_nil]
        rcases margin_is _ _ hM with ⟨e, _⟩ | ⟨_, _, e⟩
        · omega
        · have e' : g = mrg (firstRow x.cps.toList) := by omega
          rw [List.drop_length] at hK
          have hK' : ks = keep g 0 x.cps.toList := by simpa [keep] using hK
          rw [hK', e']; rfl)]
      k_steps
      rename News h₀ _ _ _ => N8
      refine hret _ _ _ ?_ (by assumption) (fun p hp => N8 p (by first | exact hp | exact List.mem_cons_of_mem _ hp))
      rcases margin_is _ _ hM with ⟨e, _⟩ | ⟨_, e, _⟩
      · omega
      · unfold SoRes; rw [if_neg e]; exact ⟨_, rfl⟩
end Mine
end
section
open PySem PySem.W PyProof.Rows
set_option maxRecDepth 100000
set_option maxHeartbeats 800000
namespace Mine
/-- a turn's end: the iterator's two objects as they stood, the list turned -/
def TurnL (h₀ : Heap) (L : Addr) (s : Shared) (e it D : Addr) (oe oit : Obj) (c n : Nat) (news : List (Addr × Obj)) (Jn : (Str → Option Value) → List Value → Prop) (f : Flow) (s₃ : Shared) : Prop :=
  f = .next ∧ ∃ h' tk' m'' ws', s₃ = { s with heap := h', toks := tk' } ∧ Fr h₀ L h' m'' ∧ News h₀ L h' ((e, oe) :: (it, oit) :: (D, listOf ws'.toArray c) :: news) ∧ ws'.length = n ∧ Jn m'' ws'
section
variable {prog : Program} {w : World} {A : Around} {s : Shared} {env : Env} {h₀ : Heap} {elts : List Expr} {k : Nat} {pos : Pos} {body : List Stmt} {R : Result → Shared → Prop}
/-- a loop over enumerate(lines) whose turns store into lines -/
theorem enum_list_loop {e it D : Addr} {c n : Nat} {m₀ : Str → Option Value} {ws₀ : List Value} {news : List (Addr × Obj)} (hh : A.handled = none) (hei : e ≠ it) (hDe : D ≠ e) (hDi : D ≠ it) (hLe : env.locals ≠ e) (hLi : env.locals ≠ it)
    (he0 : h₀.get? e = none) (hi0 : h₀.get? it = none) (hoff : ∀ p ∈ news, p.1 ≠ e ∧ p.1 ≠ it)
    (hE : ∃ old, IsEnum s.heap e it (0 : Nat) old) (hI : s.heap.IsListIter it D 0) (F : Fr h₀ env.locals s.heap m₀) (N : News h₀ env.locals s.heap ((D, listOf ws₀.toArray c) :: news)) (hn : ws₀.length = n)
    (J : Nat → (Str → Option Value) → List Value → Prop) (hJ : J 0 m₀ ws₀)
    (step : ∀ i m' ws h tk oe oit T tj xv, i < n → J i m' ws → ws.length = n → ws[i]? = some xv → IsTup h T #[.int i tj, xv] → Fr h₀ env.locals h m' → News h₀ env.locals h ((e, oe) :: (it, oit) :: (D, listOf ws.toArray c) :: news) →
      wpAny (model prog w) A (assign (.Tuple elts k pos) env (.ref T)) (fun _ s₂ => wpAny (model prog w) A (execs body env) (TurnL h₀ env.locals s e it D oe oit c n news (J (i + 1)))
        (notedBy (model prog w) A env fun e s' => R (.error e) s') s₂) (notedBy (model prog w) A env fun e s' => R (.error e) s') { s with heap := h, toks := tk })
    (done : ∀ h tk m' ws, J n m' ws → ws.length = n → Fr h₀ env.locals h m' → News h₀ env.locals h ((D, listOf ws.toArray c) :: news) → R (.ok .next) { s with heap := h, toks := tk }) :
    codeAny (model prog w) A (.forLoop (.Tuple elts k pos) (.ref e) body [] env) R s := by
  have hD0 : h₀.get? D = none := (N _ (List.mem_cons_self ..)).2.2
  have keepF : ∀ {h h' : Heap} {m'}, Fr h₀ env.locals h m' → (∀ b o, b ∉ [e, it] → h.get? b = some o → h'.get? b = some o) → Fr h₀ env.locals h' m' := fun F hk =>
    ⟨F.ns.at' fun o x => hk _ o (by simp [hLe, hLi]) x, fun b o x => hk b o (fun hm => by
      rcases List.mem_cons.mp hm with rfl | hm
      · rw [he0] at x; cases x
      · rw [List.mem_singleton.mp hm, hi0] at x; cases x) (F.keep b o x), F.above⟩
  have keepN : ∀ {h h' : Heap} {ws : List Value}, News h₀ env.locals h ((D, listOf ws.toArray c) :: news) → (∀ b o, b ∉ [e, it] → h.get? b = some o → h'.get? b = some o) → News h₀ env.locals h' ((D, listOf ws.toArray c) :: news) := fun N hk p hp => by
    refine ⟨hk _ _ ?_ (N p hp).1, (N p hp).2⟩
    rcases List.mem_cons.mp hp with rfl | hp
    · simp [hDe, hDi]
    · have := hoff p hp; simp [this.1, this.2]
  refine codeAny_forLoop_any
    (fun kk s' => ∃ h' tk i m' ws, s' = { s with heap := h', toks := tk } ∧ i ≤ n ∧ kk = n + 1 - i ∧ (∃ old, IsEnum h' e it (i : Nat) old) ∧ h'.IsListIter it D i ∧ Fr h₀ env.locals h' m' ∧ News h₀ env.locals h' ((D, listOf ws.toArray c) :: news) ∧ ws.length = n ∧ J i m' ws) ?_ (n + 1)
    ⟨s.heap, s.toks, 0, m₀, ws₀, rfl, Nat.zero_le _, rfl, hE, hI, F, N, hn, hJ⟩
  rintro kk s' ⟨h', tk, i, m', ws, rfl, hi, rfl, hE', hI', F', N', hl', hJ'⟩
  have hL' : h'.IsList D ws.toArray := News.isList N' (List.mem_cons_self ..)
  have W := WalksT.enumerate (prog := prog) (w := w) (A := A) hh e it D hei hDe hDi ws.toArray
  by_cases hlt : i < n
  · refine W.item i _ _ _ (by simpa [hl'] using hlt) ⟨hE', hI', hL'⟩ fun T vals h₁ tk₁ hP hTs hT hM hk₁ => ?_
    obtain ⟨tj, xv, hx, rfl⟩ := hP
    have hTw := W.apart i T _ hM
    refine W.go elts k pos i T _ _ _ hM fun h₂ hst hk₂ => ?_
    obtain ⟨⟨old, he₂⟩, ⟨oit, hit₂, hic, hid⟩, hl₂⟩ := hst
    have F₂ := keepF (keepF F' hk₁) hk₂
    have N₂ := keepN (keepN N' hk₁) hk₂
    obtain ⟨oe, hoe⟩ : ∃ oe, h₂.get? e = some oe := ⟨_, he₂⟩
    have N₃ : News h₀ env.locals h₂ ((e, oe) :: (it, oit) :: (D, listOf ws.toArray c) :: news) := fun p hp => by
      rcases List.mem_cons.mp hp with rfl | hp
      · exact ⟨hoe, Ne.symm hLe, he0⟩
      · rcases List.mem_cons.mp hp with rfl | hp
        · exact ⟨hit₂, Ne.symm hLi, hi0⟩
        · exact N₂ p hp
    have hT₂ : IsTup h₂ T #[.int i tj, xv] := by
      obtain ⟨o, ho, r⟩ := hT
      exact ⟨o, hk₂ T o hTw ho, r⟩
    refine wpAny_mono (step i m' ws h₂ tk₁ oe oit T tj xv hlt hJ' hl' (by simpa using hx) hT₂ F₂ N₃) (fun _ s₂ hq => wpAny_mono hq (fun f s₃ h₃ => ?_) fun _ _ x => x) fun _ _ x => x
    obtain ⟨rfl, h₄, tk₄, m₄, ws₄, rfl, F₄, N₄, hl₄, hJ₄⟩ := h₃
    refine ⟨n + 1 - (i + 1), by omega, h₄, tk₄, i + 1, m₄, ws₄, rfl, hlt, rfl, ⟨old, ?_⟩, ⟨oit, (N₄ _ (List.mem_cons_of_mem _ (List.mem_cons_self ..))).1, hic, hid⟩, F₄, fun p hp => N₄ p (List.mem_cons_of_mem _ (List.mem_cons_of_mem _ hp)), hl₄, hJ₄⟩
    have q := (N₄ _ (List.mem_cons_self ..)).1
    have q2 : h₂.get? e = some _ := he₂
    rw [hoe] at q2
    show h₄.get? e = some _
    rw [q]; exact q2
  · have hin : i = n := by omega
    subst hin
    refine W.done _ _ _ (by simpa [hl'] using (⟨hE', hI', hL'⟩ : (∃ old, IsEnum h' e it (i : Nat) old) ∧ h'.IsListIter it D i ∧ h'.IsList D ws.toArray)) fun h₁ tk₁ hk₁ => wpAny_execs_nil ?_
    exact done h₁ tk₁ m' ws hJ' hl' (keepF F' hk₁) (keepN N' hk₁)
theorem enum_list_loopE {Q : Flow → Shared → Prop} {E : Value → Shared → Prop} {e it D : Addr} {c n : Nat} {m₀ : Str → Option Value} {ws₀ : List Value} {news : List (Addr × Obj)} (hh : A.handled = none) (hei : e ≠ it) (hDe : D ≠ e) (hDi : D ≠ it) (hLe : env.locals ≠ e) (hLi : env.locals ≠ it)
    (he0 : h₀.get? e = none) (hi0 : h₀.get? it = none) (hoff : ∀ p ∈ news, p.1 ≠ e ∧ p.1 ≠ it)
    (hE : ∃ old, IsEnum s.heap e it (0 : Nat) old) (hI : s.heap.IsListIter it D 0) (F : Fr h₀ env.locals s.heap m₀) (N : News h₀ env.locals s.heap ((D, listOf ws₀.toArray c) :: news)) (hn : ws₀.length = n)
    (J : Nat → (Str → Option Value) → List Value → Prop) (hJ : J 0 m₀ ws₀)
    (step : ∀ i m' ws h tk oe oit T tj xv, i < n → J i m' ws → ws.length = n → ws[i]? = some xv → IsTup h T #[.int i tj, xv] → Fr h₀ env.locals h m' → News h₀ env.locals h ((e, oe) :: (it, oit) :: (D, listOf ws.toArray c) :: news) →
      wpAny (model prog w) A (assign (.Tuple elts k pos) env (.ref T)) (fun _ s₂ => wpAny (model prog w) A (execs body env) (TurnL h₀ env.locals s e it D oe oit c n news (J (i + 1))) E s₂) E { s with heap := h, toks := tk })
    (done : ∀ h tk m' ws, J n m' ws → ws.length = n → Fr h₀ env.locals h m' → News h₀ env.locals h ((D, listOf ws.toArray c) :: news) → Q .next { s with heap := h, toks := tk })
    (hP : PassesOwn (model prog w) A env E := by passes_own) :
    codeAny (model prog w) A (.forLoop (.Tuple elts k pos) (.ref e) body [] env) (fun r s' => match r with | .ok f => Q f s' | .error e => cameBackBy (model prog w) A env E e s') s :=
  enum_list_loop hh hei hDe hDi hLe hLi he0 hi0 hoff hE hI F N hn J hJ
    (fun i m' ws h tk oe oit T tj xv a1 a2 a3 a4 a5 a6 a7 => wpAny_mono (step i m' ws h tk oe oit T tj xv a1 a2 a3 a4 a5 a6 a7) (fun _ _ x => wpAny_passesOwn hP x) hP) done
end
end Mine
end
section
open PySem PySem.W PyProof.Rows
set_option maxRecDepth 100000
set_option maxHeartbeats 800000
namespace Mine
/-- the frame's map with i and ch bound -/
abbrev IM (m0 : Str → Option Value) (k : Nat) (t : Tok) (v : Option Value) : Str → Option Value := fun y => if y = Str.ofString "ch" then v else if y = Str.ofString "i" then some (.int k t) else m0 y
/-- behind _dedent's first loop -/
def AfterI (g1 : Heap) (L1 : Addr) (s : Shared) (nws : List (Addr × Obj)) (m0 : Str → Option Value) (r0 : List Nat) (f : Flow) (s' : Shared) : Prop :=
  f = .next ∧ ∃ h' tk m', s' = { s with heap := h', toks := tk } ∧ Fr g1 L1 h' m' ∧ News g1 L1 h' nws ∧ ((r0 = [] ∧ m' = m0) ∨ (r0 ≠ [] ∧ ∃ t v, m' = IM m0 (mrg r0) t v))
def DdI (nws : List (Addr × Obj)) (m0 : Str → Option Value) (r0 : List Nat) (i : Nat) (m₁ : Str → Option Value) (news₁ : List (Addr × Obj)) : Prop :=
  news₁ = nws ∧ (∀ k, k < i → r0[k]? = some 32) ∧ ((i = 0 ∧ m₁ = m0) ∨ (∃ j t v, i = j + 1 ∧ m₁ = IM m0 j t v))
theorem im_step {m0 m₁ : Str → Option Value} {i : Nat} {t' : Tok} {v' : Option Value} (hm : (i = 0 ∧ m₁ = m0) ∨ (∃ j t v, i = j + 1 ∧ m₁ = IM m0 j t v)) :
    (fun y => if y = Str.ofString "ch" then v' else if y = Str.ofString "i" then some (.int i t') else m₁ y) = IM m0 i t' v' := by
  rcases hm with ⟨_, rfl⟩ | ⟨j, t, v, _, rfl⟩
  · rfl
  · funext y
    by_cases h : y = Str.ofString "ch"
    · simp [IM, h]
    · by_cases h2 : y = Str.ofString "i"
      · simp [IM, h2]
      · simp [IM, h, h2]
theorem signs_at {p : Str} {i : Nat} {ch : Str} (h : (signs p)[i]? = some ch) : ∃ c, p.cps.toList[i]? = some c ∧ ch = ⟨#[c]⟩ := by
  unfold signs at h
  rw [List.getElem?_map] at h
  cases e : p.cps.toList[i]? with
  | none => rw [e] at h; simp at h
  | some c => rw [e] at h; exact ⟨c, rfl, (Option.some.inj h).symm⟩
theorem sgn_ne {c k : Nat} {s : Str} (hs : s = ⟨#[k]⟩) : ((⟨#[c]⟩ : Str) != s) = (c != k) := by
  rw [hs, Bool.eq_iff_iff]; simp
section
variable {prog : Program} {w : World} {A : Around} {E : Value → Shared → Prop} {s : Shared} {h₀ : Heap} {L D : Addr} {m : Str → Option Value} {news news' : List (Addr × Obj)} {vs : List Value} {n : Nat} {k : Int} {t : Tok} {v : Value}
theorem set_any {Q : Unit → Shared → Prop} (F : Fr h₀ L s.heap m) (N : News h₀ L s.heap news) (U : Upd D (listOf vs.toArray n) (listOf (vs.set k.toNat v).toArray n) news news') (h0 : 0 ≤ k) (h1 : k < vs.length) (hfit : k < 2 ^ 63)
    (h : ∀ h', Fr h₀ L h' m → News h₀ L h' news' → Q () { s with heap := h' }) :
    wpAny (model prog w) A (setItem (.ref D) (.int k t) v) Q E s := by
  obtain ⟨pre, post, rfl, rfl, a, b⟩ := U.split
  have z := N (D, listOf vs.toArray n) (List.mem_append.mpr (.inr (.head _)))
  refine ki_setAt z.1 h0 hfit (by simpa using h1) (h _ (F.change (Heap.SameBut.update ..) z.2.1 z.2.2) (ki_turn _ N a b ?_ ?_))
  · show vs.toArray.setIfInBounds k.toNat v = (vs.set k.toNat v).toArray
    apply Array.toList_inj.mp
    simp
  · simp
end
theorem strs_get : ∀ {ws : List Value} {ys : List Str}, StrsAre ws ys → ∀ {i : Nat} {v : Value}, ws[i]? = some v → ∃ y t, ys[i]? = some y ∧ v = .str y t
  | _, _, .nil, i, v, h => by simp at h
  | _, _, .cons y t r, 0, v, h => ⟨y, t, rfl, by simpa using h.symm⟩
  | _, _, .cons y t r, i + 1, v, h => strs_get r (i := i) (by simpa using h)
theorem strs_set : ∀ {ws : List Value} {ys : List Str}, StrsAre ws ys → ∀ (i : Nat) (y : Str) (t : Tok), StrsAre (ws.set i (.str y t)) (ys.set i y)
  | _, _, .nil, _, _, _ => .nil
  | _, _, .cons _ _ r, 0, y, t => .cons y t r
  | _, _, .cons z u r, i + 1, y, t => .cons z u (strs_set r i y t)
theorem dd_at {g i : Nat} {rs : List Str} {y : Str} (hi : i < rs.length) (h : ((rs.take i).map (cut g) ++ rs.drop i)[i]? = some y) : rs[i]? = some y := by
  rw [List.getElem?_append_right (by simp; omega)] at h
  simp at h
  have e : i - min i rs.length = 0 := by omega
  rw [e] at h
  simpa using h
theorem dd_set {g i : Nat} {rs : List Str} {y : Str} (h : rs[i]? = some y) : ((rs.take i).map (cut g) ++ rs.drop i).set i (cut g y) = (rs.take (i + 1)).map (cut g) ++ rs.drop (i + 1) := by
  obtain ⟨hi, e⟩ := List.getElem?_eq_some_iff.mp h
  rw [List.set_append_right _ _ (by simp; omega)]
  have e1 : i - ((rs.take i).map (cut g)).length = 0 := by simp; omega
  rw [e1, List.drop_eq_getElem_cons hi, List.set_cons_zero, List.take_add_one, h]
  simp
theorem slice_cut (y : Str) (g : Nat) : Txt.slice y (some (g : Int)) none = cut g y := by
  have hl : y.cps.toList.length = y.length := by simp [Str.length]
  by_cases h : (g : Int) ≤ y.length
  · rw [slice_from_eq (b := (y.length : Int)) (by omega) h rfl]
    unfold cut
    rw [Int.toNat_natCast, List.take_of_length_le (by simp [hl])]
  · rw [slice_from_beyond (by omega)]
    unfold cut
    rw [List.drop_eq_nil_of_le (by omega)]
theorem cut_len (g : Nat) (p : Str) : (cut g p).length ≤ p.length := by
  have : (p.cps.toList.drop g).length ≤ p.cps.toList.length := by simp
  simpa [cut, Str.length] using this
theorem cut_sum (g : Nat) : ∀ rs : List Str, ((rs.map (cut g)).map (·.length)).sum ≤ (rs.map (·.length)).sum
  | [] => Nat.le_refl _
  | p :: r => by
    have h1 := cut_len g p
    have h2 := cut_sum g r
    rw [List.map_cons, List.map_cons, List.sum_cons, List.map_cons, List.sum_cons]
    omega
theorem dd_map {m1 : Str → Option Value} {a b vl vj : Option Value} : (fun y => if y = Str.ofString "l" then a else if y = Str.ofString "j" then b else if y = Str.ofString "l" then vl else if y = Str.ofString "j" then vj else m1 y) =
    fun y => if y = Str.ofString "l" then a else if y = Str.ofString "j" then b else m1 y := by
  funext y
  by_cases h : y = Str.ofString "l"
  · simp [h]
  · by_cases h2 : y = Str.ofString "j"
    · simp [h2]
    · simp [h, h2]
/-- _dedent's second loop -/
def DdJ (g : Nat) (rs : List Str) (m1 : Str → Option Value) (i : Nat) (m' : Str → Option Value) (ws : List Value) : Prop :=
  StrsAre ws ((rs.take i).map (cut g) ++ rs.drop i) ∧ ∃ vj vl, m' = fun y => if y = Str.ofString "l" then vl else if y = Str.ofString "j" then vj else m1 y
local macro_rules | `(tactic| walk_at "setItem ref int str") => `(tactic| (refine set_any (by k_asm) (by k_asm) (Upd.tail (by assumption) (Upd.tail (by assumption) (Upd.head (by assumption)))) (by omega) (by omega) (by omega) ?_; intro h' F' N'; (try k_sweep)))
theorem dd_call {w : World} {mean : ExcName → Option Value} {mg mb : Str → Option Value} (x : Str) (t : Tok) (hx : x.length ≤ 10000)
  {dp un : Nat} {gd : Option (List Code)} {cn : Str} {cs : Scope} {a : Addr} {ccd : Value} {cl : List (Str × Addr)} {outer : List Env} {A₀ : Around} {base h₀ : Heap} {L : Addr} {m : Str → Option Value} {news : List (Addr × Obj)} {s : Shared} {Q E : Value → Shared → Prop}
  (B : Below A₀ base outer h₀) (F : Fr h₀ L s.heap m) (X : (Mine.hd.heap_39 w.params).In h₀) (N : News h₀ L s.heap news) (T : Top Mine.hd.view_39 (looseW Mine.hd.view_39 []) mean mg mb h₀) (hk : cs.kind = .function)
  (hd : dp + 1 < recursionLimit) (hfr : firstRow x.cps.toList ≠ [])
  (hret : ∀ (t' : Tok) (h' : Heap) (tk' : Nat), Fr h₀ L h' m → News h₀ L h' news → Q (.str (ded x) t') { s with heap := h', toks := tk' }) :
  wpAny (model Challenge.rw_nb0120_01.row.prog w) (ktrTop dp un gd cn cs L a ccd cl outer) (call (.ref 21) [.str x t]) Q E s := by
  w_on
  revert X; k_fill; intro X
  refine wpAny_call ?_
  k_dflt (refine' code_def B F X N T ?kA ?kF ?kK ?k6 ?k7 ?k8 ?k9 ?kB ?_ ?c2 ?c3 ?c4 ?c5; (case kA => exact rfl); (case kF => exact rfl); (case kK => assumption); (case k6 => k_is); (case k7 => k_is); (case k8 => ktr_room); (case k9 => exact BindsTo.of_eq rfl); (case c5 => decide); (case kB => exact locs rfl); (case c2 => exact rfl); (case c3 => exact rfl); (case c4 => exact rfl))
  intro g1 L1 h1 FG1 F1 N1 B1 X1 T1
  dsimp only
  k_fold
  iterate 10 walk1
  rename Fr _ _ _ _ => F1
  rename News _ _ _ _ => N1
  refine splitN1A F1 N1 (by rfl) ?_ (by rw [PySem.sizeLine_eq]; omega)
  intro lv h2 tk2 hl hS hshort hL F2 N2
  have hD : ∀ p ∈ news, p.1 < h1.objs.size := fun p hp => Heap.lt_size (N1 p hp).1
  dsimp only at F2 N2 hL ⊢
  clear F1 N1
  generalize h1.objs.size = D at F2 N2 hL hD ⊢
  rw [hl] at hS
  rw [hl] at hshort
  generalize strValues lv = vs at hS N2 hL
  clear hl lv
  rw [show Txt.split x (Str.ofString "\n") = rows x from by unfold rows; rw [show Str.ofString "\n" = (⟨#[10]⟩ : Str) from by decide]] at hS hshort
  obtain ⟨p0, pr, hrows⟩ : ∃ p0 pr, rows x = p0 :: pr := by
    have := split_pos x ⟨#[10]⟩
    cases e : rows x with
    | nil => unfold rows at e; rw [e] at this; simp at this
    | cons p0 pr => exact ⟨p0, pr, rfl⟩
  rw [hrows] at hS hshort
  obtain ⟨u0, vr, rfl, hS'⟩ : ∃ u0 vr, vs = .str p0 u0 :: vr ∧ StrsAre vr pr := by cases hS with | cons _ u0 r => exact ⟨u0, _, rfl, r⟩
  refine stN F2 N2 (fun h3 F3 N3 => ?_)
  dsimp only
  clear F2 N2 hL
  refine wpAny_execs_cons ?_
  refine wpAny_mono (Q := AfterI g1 L1 s ((D, listOf (Value.str p0 u0 :: vr).toArray 0) :: news) (fun y => if y = Str.ofString "lines" then some (.ref D) else List.lookup y [(Str.ofString "text", Value.str x t)]) p0.cps.toList) ?l1 ?rest1 (fun _ _ e => e)
  case l1 =>
    refine For_pair3F F3 rfl rfl rfl rfl ?_ (by intro _; rfl)
    iterate 9 walk1
    rename Fr _ _ _ _ => F3
    rename News _ _ _ _ => N3
    refine call_enum_str rfl F3 N3 (fun h4 e F4 N4 S => ?_)
    clear F3 N3
    refine S.at _ rfl (Str.ofString "i") (Str.ofString "ch") _ _ (DdI ((D, listOf (Value.str p0 u0 :: vr).toArray 0) :: news) (fun y => if y = Str.ofString "lines" then some (.ref D) else List.lookup y [(Str.ofString "text", Value.str x t)]) p0.cps.toList) ⟨rfl, fun k hk => absurd hk (Nat.not_lt_zero _), .inl ⟨rfl, rfl⟩⟩ ?step ?done
    case step =>
      rintro i ch t5 v m₁ news₁ s₁ own ⟨h5, tk5, rfl⟩ hc ⟨u5, rfl⟩ ⟨rfl, hb, hm⟩ _ hown F5 N5
      clear F4 N4 S
      obtain ⟨c, hc2, rfl⟩ := signs_at hc
      clear hc
      rename p0.cps.toList[i]? = some c => hc
      dsimp only at F5 N5
      rw [im_step hm] at F5
      have hne : p0.cps.toList ≠ [] := fun e => by rw [e] at hc; simp at hc
      have hbrk : c ≠ 32 → i = mrg p0.cps.toList := fun e2 => row_mrg _ i c hb hc (.inl e2)
      have hnxt : c = 32 → ∀ k, k < i + 1 → p0.cps.toList[k]? = some 32 := fun e2 k hk => by
        by_cases h : k < i
        · exact hb k h
        · have : k = i := by omega
          rw [this, ← e2]; exact hc
      k_steps
      · rename (((⟨#[c]⟩ : Str) != Str.ofString " ") = true) => e1
        rw [sgn_ne (by decide : _ = (⟨#[32]⟩ : Str))] at e1
        have e2 : c ≠ 32 := by simpa using e1
        refine ⟨rfl, _, _, _, rfl, F5, fun p hp => N5 p (List.mem_append_right _ hp), .inr ⟨hne, t5, some (.str ⟨#[c]⟩ u5), ?_⟩⟩
        rw [← hbrk e2]
      · rename (((⟨#[c]⟩ : Str) != Str.ofString " ") = false) => e1
        rw [sgn_ne (by decide : _ = (⟨#[32]⟩ : Str))] at e1
        have e2 : c = 32 := by simpa using e1
        exact ⟨rfl, hnxt e2, .inr ⟨i, t5, _, rfl, rfl⟩⟩
    case done =>
      rintro h' tk' m' news' F' N' _ ⟨rfl, hb, hm⟩
      have hsl : (signs p0).length = p0.cps.toList.length := by unfold signs; simp
      rw [hsl] at hb hm
      refine ⟨rfl, _, _, _, rfl, F', N', ?_⟩
      rcases hm with ⟨h0, rfl⟩ | ⟨j, t6, v, hj, rfl⟩
      · exact .inl ⟨List.length_eq_zero_iff.mp h0, rfl⟩
      · have hne : p0.cps.toList ≠ [] := fun e => by rw [e] at hj; simp at hj
        refine .inr ⟨hne, t6, v, ?_⟩
        rw [← row_mrg _ j 32 (fun k hk => hb k (by omega)) (hb j (by omega)) (.inr hj.symm)]
  case rest1 =>
    rintro f s2 ⟨rfl, h4, tk4, m4, rfl, F4, N4, hcase⟩
    clear F3 N3
    dsimp only
    refine wpAny_execs_cons ?_
    rcases hcase with ⟨hr0, rfl⟩ | ⟨hr0, t4, v4, rfl⟩
    · exact absurd ((firstRow_rows x hrows).trans hr0) hfr
    · refine wpAny_For ?_ (by intro _; rfl)
      iterate 6 walk1
      rename Fr _ _ _ _ => F4
      rename News _ _ _ _ => N4
      refine call_enumerate_list (News.isList N4 (List.mem_cons_self ..)) (fun h5 hE5 hI5 hsz5 hk5 => ?_)
      refine wpAny_pyIter_enum hE5 ?_
      dsimp only at hE5 hI5 hsz5 hk5 ⊢
      have hDs : D < h4.objs.size := Heap.lt_size (N4 _ (List.mem_cons_self ..)).1
      have hLs : L1 < h4.objs.size := F4.ns.lt
      have hab := F4.above
      refine enum_list_loop (D := D) (it := h4.objs.size) (c := 0) (ws₀ := Value.str p0 u0 :: vr) (news := news) rfl (Nat.succ_ne_self _) (Nat.ne_of_lt (Nat.lt_succ_of_lt hDs)) (Nat.ne_of_lt hDs) (Nat.ne_of_lt (Nat.lt_succ_of_lt hLs)) (Nat.ne_of_lt hLs)
        (Heap.get?_none_of_le (Nat.le_trans hab (Nat.le_of_lt (Nat.lt_succ_of_lt hLs)))) (Heap.get?_none_of_le (Nat.le_trans hab (Nat.le_of_lt hLs))) (fun p hp => ⟨Nat.ne_of_lt (Nat.lt_succ_of_lt (Nat.lt_trans (hD p hp) hDs)), Nat.ne_of_lt (Nat.lt_trans (hD p hp) hDs)⟩) ⟨_, hE5⟩ hI5 (F4.keeps hk5) (N4.grown hk5) rfl
        (DdJ (mrg p0.cps.toList) (rows x) (IM (fun y => if y = Str.ofString "lines" then some (.ref D) else List.lookup y [(Str.ofString "text", Value.str x t)]) (mrg p0.cps.toList) t4 v4)) ?j0 ?step ?done
      case j0 =>
        refine ⟨by rw [hrows]; simpa using hS, none, none, ?_⟩
        funext y
        by_cases h1 : y = Str.ofString "l"
        · subst h1; rfl
        · by_cases h2 : y = Str.ofString "j"
          · subst h2; rfl
          · simp [h1, h2]
      case step =>
        rintro i m' ws h6 tk6 oe oit T tj xv hi ⟨hW, vj, vl, rfl⟩ hwl hxv hT F6 N6
        clear F4 N4
        obtain ⟨y, ty, hy, rfl⟩ := strs_get hW hxv
        have hrl : (rows x).length = (Value.str p0 u0 :: vr).length := by rw [hrows]; exact hS.length.symm
        have hi' : i < (rows x).length := by rw [hrl]; exact hi
        have hyr := dd_at hi' hy
        have hyl : y.length ≤ 10000 := Nat.le_trans (hshort y (by rw [← hrows]; exact List.mem_of_getElem? hyr)) hx
        have hne1 : h4.objs.size + 1 ≠ D := Nat.ne_of_gt (Nat.lt_succ_of_lt hDs)
        have hne2 : h4.objs.size ≠ D := Nat.ne_of_gt hDs
        have hne3 : ∀ p ∈ news, p.1 ≠ D := fun p hp => Nat.ne_of_lt (hD p hp)
        have hi2 : i < ws.length := by rw [hwl]; exact hi
        have hxl : ws.length ≤ 20000 := by
          have := split_le x ⟨#[10]⟩
          have h2 : (rows x).length ≤ x.length + 2 := this
          omega
        k_steps
        rename Fr _ _ _ _ => F9
        rename News _ _ _ _ => N9
        rw [slice_cut] at N9
        refine ⟨rfl, _, _, _, _, rfl, F9, N9, by simpa using hwl, ?_, _, _, dd_map⟩
        rw [Int.toNat_natCast, ← dd_set hyr]
        exact strs_set hW i _ _
      case done =>
        rintro h6 tk6 m' ws ⟨hW, vj, vl, rfl⟩ hwl F6 N6
        clear F4 N4
        dsimp only
        k_steps
        rename News _ _ _ _ => N9
        have hrl : (rows x).length = (Value.str p0 u0 :: vr).length := by rw [hrows]; exact hS.length.symm
        rw [← hrl, List.take_length, List.drop_length, List.append_nil] at hW
        have hws := split_weight x ⟨#[10]⟩ (by decide)
        have hws' : ((rows x).map (·.length)).sum + (rows x).length ≤ x.length + 1 := hws
        have hcs := cut_sum (mrg p0.cps.toList) (rows x)
        refine join_listW (News.isList N9 (List.mem_cons_self ..)) hW (by decide) (by rw [List.length_map]; omega) ?_
        intro t9 tk9
        rw [show Txt.join (Str.ofString "\n") ((rows x).map (cut (mrg p0.cps.toList))) = ded x from by
          rw [ded_rows, firstRow_rows x hrows]
          show Builtin.Str.glued _ _ = _
          rw [StrLaws.glued_eq_join, show Str.ofString "\n" = (⟨#[10]⟩ : Str) from by decide]]
        k_steps
        rename News h₀ _ _ _ => N8
        exact hret _ _ _ (by assumption) (fun p hp => N8 p (by first | exact hp | exact List.mem_cons_of_mem _ hp))
end Mine
end
section
open PySem PySem.W PyProof.Rows PySem.Calls
set_option maxRecDepth 100000
set_option maxHeartbeats 800000
namespace Mine
/-- the source of a comprehension is a text -/
def SrcS (prog : Program) (w : World) (A : Around) (h₀ : Heap) (L : Addr) (m : Str → Option Value) (env : Env) (elt : Expr) (x : Str) (scope : Scope) (cl : List (Str × Addr)) (Fin : Shared → List Value → List (Addr × Obj) → Prop) (xv : Value) (s₁ : Shared) : Prop :=
  ∃ tx t news, xv = .str tx t ∧ A.handled = none ∧ Fr h₀ L s₁.heap m ∧ News h₀ L s₁.heap news ∧ tx.cps.size ≤ sizeLine ∧
    ∀ s₂ : Shared, (∃ h, s₂ = { s₁ with heap := h }) → LCg.CompRest prog w A h₀ L m env elt x scope cl s₂ (fun _ => True) (SignAt tx) (Fin s₂) tx.cps.size 0 [] news
section
variable {prog : Program} {w : World} {A : Around} {E : Value → Shared → Prop} {s : Shared} {h₀ : Heap} {L : Addr} {m : Str → Option Value} {env : Env}
theorem pyIter_strI {tx : Str} {t : Tok} {Q : Value → Shared → Prop} (hh : A.handled = none)
    (hQ : ∀ (T : String) (o : Obj), Walks prog w A s.heap.objs.size [s.heap.objs.size] [s.heap.objs.size] tx.cps.size (SignAt tx) (fun i h => h.IsStrIter s.heap.objs.size T tx t i) →
      (s.heap.push o).IsStrIter s.heap.objs.size T tx t 0 → Q (.ref s.heap.objs.size) { s with heap := s.heap.push o }) : wpAny (model prog w) A (pyIter (.str tx t)) Q E s := by
  cases ha : tx.cps.all (· < 128)
  · exact wpAny_pyIter_wide ha (hQ _ _ (Walks.strWide hh _ tx t) ⟨_, Heap.get?_push_size _ rfl, rfl, rfl⟩)
  · exact wpAny_pyIter_ascii ha (hQ _ _ (Walks.strAscii hh _ tx t) ⟨_, Heap.get?_push_size _ rfl, rfl, rfl⟩)
theorem ListComp_S {elt iter : Expr} {x : Str} {px : Pos} {scope : Scope} {cl : List (Str × Addr)} {pos : Pos} {Q : Value → Shared → Prop} (_F₀ : Fr h₀ L s.heap m)
    (hclos : closureFor scope env = pure cl) (hcell : ∀ y ∈ scope.names, y.2 ≠ .cell) (hkind : scope.kind = .function)
    (hnames : ∀ y ∈ scope.names, y.2 = .local → scope.names.lookup y.1 = some .local) (hx : scope.names.lookup x = some .local)
    (h : wpAny (model prog w) A (eval iter env) (SrcS prog w A h₀ L m env elt x scope cl (fun s₂ => LCg.FinE h₀ L m s₂ Q)) E s)
    (hs : ∀ x, foldedSetIterable iter env x = pure x := by intro _; rfl) :
    wpAny (model prog w) A (eval (.ListComp elt [⟨.Name x px, iter, [], 0⟩] scope pos) env) Q E s := by
  rw [eval_ListComp]
  refine wpAny_comprehension_free (use := none) rfl hs hclos hkind hnames (wpAny_mono h (fun xv s₁ h₁ => ?_) fun _ _ e => e)
  obtain ⟨tx, t, news, rfl, hh, F, N, hsz, R⟩ := h₁
  refine pyIter_strI hh fun T o W hst => ?_
  refine LCg.block_U (s₂ := { s₁ with heap := s₁.heap.push o }) (S := fun _ => True) W hsz (fun i h st => by obtain ⟨o, e, _⟩ := st; exact ⟨o, e⟩)
      (fun i h h' o nw st e e' _ _ _ => W.frame i h h' st (fun b hb o₂ e₂ => by rw [List.mem_singleton.mp hb] at e₂ ⊢; rw [e] at e₂; cases e₂; exact e')) hcell hkind hx hst (fun b hb => ?_)
      (F.keeps fun _ _ e => Heap.get?_push_of_some _ e) (N.grown fun _ _ e => Heap.get?_push_of_some _ e) (Nat.ne_of_lt F.ns.lt) (next_is_new F) (fun p hp => Nat.ne_of_lt (Heap.lt_size (N p hp).1)) trivial (R _ ⟨_, rfl⟩) ?_
  · rw [List.mem_singleton.mp hb]
    show s₁.heap.objs.size < (s₁.heap.push _).objs.size
    rw [Heap.size_push]; exact Nat.lt_succ_self _
  · intro D C h tk m' ys news' F' N' o1 hn hC₀ hD₀ hCL hDL hCD offC fin
    refine ⟨m', hn, fun h'' hs'' => fin D h'' tk (F'.change hs'' hCL hC₀) (fun p hp => ?_) o1⟩
    refine ⟨hs''.extBut _ _ ?_ (N' p hp).1, (N' p hp).2⟩
    rcases List.mem_cons.mp hp with rfl | hp
    · exact Ne.symm hCD
    · exact offC p hp
/-- each sign by a function of its own -/
theorem comp_signs {elt : Expr} {x : Str} {scope : Scope} {cl : List (Str × Addr)} {Fin : List Value → List (Addr × Obj) → Prop} {news : List (Addr × Obj)} {tx : Str} (g : Nat → Str)
    (turn : ∀ c t I oI C oC D m₂ ys h tk (E' : Value → Shared → Prop), LCg.NsObj oC m₂ → m₂ x = some (.str ⟨#[c]⟩ t) → Fr h₀ L h m → News h₀ L h ((I, oI) :: (C, oC) :: (D, LCg.lst ys) :: news) → LCg.Off3 I C D news →
      wpAny (model prog w) A (eval elt (compEnvC scope cl C env)) (fun y s₂ => ∃ tk' t', s₂ = { s with heap := h, toks := tk' } ∧ y = .str (g c) t') E' { s with heap := h, toks := tk })
    (fin : ∀ ys, StrsAre ys (tx.cps.toList.map g) → Fin ys news) :
    LCg.CompRest prog w A h₀ L m env elt x scope cl s (fun _ => True) (SignAt tx) Fin tx.cps.size 0 [] news := by
  have key : ∀ (j i : Nat) (ys : List Value), i + j = tx.cps.size → StrsAre ys ((tx.cps.toList.take i).map g) → LCg.CompRest prog w A h₀ L m env elt x scope cl s (fun _ => True) (SignAt tx) Fin j i ys news := by
    intro j
    induction j with
    | zero =>
      intro i ys hi hy
      have e : i = tx.cps.toList.length := by simpa using hi
      subst e
      rw [List.take_length] at hy
      exact LCg.CompRest.zero (fin ys hy)
    | succ j ih =>
      intro i ys hi hy
      refine LCg.CompRest.succ ?_
      intro v I oI C oC D m₂ h tk E' hv hC hx F N off ne
      obtain ⟨c, t, hc, hv'⟩ := hv
      rw [hv'] at hx
      refine wpAny_mono (turn c t I oI C oC D m₂ ys h tk E' hC hx F N off) (fun y s₂ hq => ?_) fun _ _ e => e
      obtain ⟨tk', t', rfl, rfl⟩ := hq
      refine ⟨h, tk', news, rfl, F, N, off, trivial, ?_⟩
      refine ih (i + 1) _ (by omega) ?_
      have hc' : tx.cps.toList[i]? = some c := by simpa using hc
      rw [List.take_add_one, hc', List.map_append]
      exact KStt.strs_snoc hy
  exact key tx.cps.size 0 [] (by omega) (by simp only [List.take_zero, List.map_nil]; exact .nil)
end
end Mine
end
section
open PySem PySem.W PyProof.Rows PySem.Calls
set_option maxRecDepth 100000
set_option maxHeartbeats 800000
namespace Mine
/-- a dict that is table i -/
def TabOk (i : Nat) (kvs : List (Str × Value)) : Prop := ∀ c, match valueAt kvs ⟨#[c]⟩ with
  | none => tab i c = [c]
  | some v => ∃ r t, v = .str r t ∧ r.cps.toList = tab i c
theorem item_any {prog : Program} {w : World} {A : Around} {E : Value → Shared → Prop} {s : Shared} {value slice : PySem.Expr} {l : Addr} {vs : List Value} {k : Int} {u : Tok} {v : Value} {Q : Value → Shared → Prop}
    (hl : s.heap.IsList l vs.toArray) (h0 : 0 ≤ k) (hhi : k < 2 ^ 63) (hx : vs[k.toNat]? = some v) (h : Q v s)
    (hs : subscripted slice false (.ref l) (.int k u) = operate [.ref l, .int k u] (getItem (.ref l) (.int k u)) := by with_unfolding_all rfl) :
    wpAny (model prog w) A (subscriptTail value slice (.ref l) (.int k u)) Q E s :=
  tail_any hl.typeIs slot_list_getitem.lookup (wpAny_getItem_list hl h0 hhi (by simpa using hx) h) hs
theorem join_flat (f : Nat → Str) : ∀ l : List Nat, (Txt.join (Str.ofString "") (l.map f)).cps.toList = l.flatMap fun c => (f c).cps.toList := by
  intro l
  show (Builtin.Str.glued _ _).cps.toList = _
  rw [StrLaws.glued_eq_join]
  induction l with
  | nil => rfl
  | cons a r ih =>
    cases r with
    | nil => simp [Str.join]
    | cons b q =>
      show (f a ++ Str.ofString "" ++ Str.join (Str.ofString "") ((b :: q).map f)).cps.toList = _
      simp only [Str.cps_append, Array.toList_append]
      rw [ih, List.flatMap_cons (x := a)]
      show (f a).cps.toList ++ [] ++ _ = _
      rw [List.append_nil]
theorem tab_sum (i : Nat) : ∀ l : List Nat, ((l.map fun c => (⟨(tab i c).toArray⟩ : Str)).map (·.length)).sum ≤ 6 * l.length
  | [] => Nat.le_refl _
  | a :: r => by
    have ih := tab_sum i r
    have h1 : (⟨(tab i a).toArray⟩ : Str).length ≤ 6 := by have := tab_len i a; simpa [Str.length] using this
    rw [List.map_cons, List.map_cons, List.sum_cons, List.length_cons]
    omega
theorem told_call {w : World} {mean : ExcName → Option Value} {mg mb : Str → Option Value} (i : Nat) (hi : i < 5) (x : Str) (t th : Tok) (hx : x.length ≤ 10000)
  {dp un : Nat} {gd : Option (List Code)} {cn : Str} {cs : Scope} {a : Addr} {ccd : Value} {cl : List (Str × Addr)} {outer : List Env} {A₀ : Around} {base h₀ : Heap} {L : Addr} {m : Str → Option Value} {news : List (Addr × Obj)} {s : Shared} {Q E : Value → Shared → Prop}
  (B : Below A₀ base outer h₀) (F : Fr h₀ L s.heap m) (X : (Mine.hd.heap_39 w.params).In h₀) (N : News h₀ L s.heap news) (T : Top Mine.hd.view_39 (looseW Mine.hd.view_39 []) mean mg mb h₀) (hk : cs.kind = .function)
  (hd : dp + 1 < recursionLimit) {Ta d : Addr} {tl : List Value} {nT : Nat} {o : Obj} {kvs : List (Str × Value)}
  (hT : (Ta, listOf tl.toArray nT) ∈ news) (htl : tl[i]? = some (.ref d)) (hdn : (d, o) ∈ news) (hdo : o.IsDictOf (PySem.strKind Challenge.rw_nb0120_01.row.prog w) kvs) (hlo : (d == sysModules) = false) (hok : TabOk i kvs)
  (hret : ∀ (t' : Tok) (h' : Heap) (tk' : Nat), Fr h₀ L h' m → News h₀ L h' news → Q (.str (esc i x) t') { s with heap := h', toks := tk' }) :
  wpAny (model Challenge.rw_nb0120_01.row.prog w) (ktrTop dp un gd cn cs L a ccd cl outer) (call (.ref 82) [.int i th, .ref Ta, .str x t]) Q E s := by
  w_on
  revert X; k_fill; intro X
  refine wpAny_call ?_
  k_dflt (refine' code_defC B F X N T ?kA ?kF ?kK ?k6 ?k7 ?k8 ?k9 ?kB ?kD ?_ ?c2 ?c3 ?c4; (case kA => exact rfl); (case kF => exact rfl); (case kK => assumption); (case k6 => k_is); (case k7 => k_is); (case k8 => ktr_room); (case k9 => exact BindsTo.of_eq rfl); (case kB => exact rfl); (case kD => decide +kernel); (case c2 => exact rfl); (case c3 => exact rfl); (case c4 => exact rfl))
  intro g1 L1 h1 tk1 cells FG1 F1 N1 Y1 B1 X1 T1 l1
  obtain ⟨oc, hE, dc⟩ := CellsAre.one Y1
  subst hE
  clear Y1
  simp only [List.cons_append, List.nil_append] at N1
  dsimp only
  k_fold
  have hTi : ∀ {h : Heap}, News g1 L1 h ((L1 + 1, oc) :: news) → h.IsList Ta tl.toArray := fun N => News.isList N (List.mem_cons_of_mem _ hT)
  iterate 8 walk1
  · rename ((i : Int) = 5) => e
    exact absurd e (by omega)
  iterate 7 walk1
  rename Fr _ _ _ _ => F1
  rename News _ _ _ _ => N1
  refine item_any (hTi N1) (by omega) (by omega) (by simpa using htl) ?_
  have hoff : ∀ p ∈ news, p.1 ≠ L1 + 1 := fun p hp => Nat.ne_of_lt (Nat.lt_succ_of_lt (l1 p hp))
  refine storeX_C F1 N1 rfl (UpdF.head hoff) dc ?_ rfl rfl
  intro h2 oc2 F2 N2 dc2
  dsimp only at N2 ⊢
  clear F1 N1
  iterate 7 walk1
  rename Fr _ _ _ _ => F2
  rename News _ _ _ _ => N2
  refine ListComp_S F2 (by with_unfolding_all rfl) (by decide) (by rfl) (by decide) (by rfl) ?_
  walk1
  have hsz : x.cps.size = x.length := rfl
  refine ⟨x, t, _, rfl, rfl, F2, N2, by rw [hsz, PySem.sizeLine_eq]; omega, ?_⟩
  rintro s₂ ⟨h3, rfl⟩
  refine comp_signs (fun c => ⟨(tab i c).toArray⟩) ?_ ?_
  · intro c tc I oI C oC D m₂ ys h4 tk4 E' hC hx4 F4 N4 off4
    have hok' := hok c
    refine IfExp_ (wpAny_isTrue_Compare1 ?_)
    refine LCgL.ld_own N4 (.tail _ (.head _)) hC hx4 ?_
    refine kcf_cell N4 rfl (.tail _ (.tail _ (.tail _ (.head _)))) dc2 ?_
    refine kda_in N4 (.tail _ (.tail _ (.tail _ (.tail _ hdn)))) hdo hlo (k := ⟨#[c]⟩) (by simp [PySem.strKind, Value.isStrOf]) _ rfl ?_
    refine wpAny_truthy_bool ?_
    cases hv : valueAt kvs (⟨#[c]⟩ : Str) with
    | none =>
      rw [hv] at hok'
      simp only [Option.isSome_none, Bool.false_eq_true, if_false]
      refine LCgL.ld_own N4 (.tail _ (.head _)) hC hx4 ?_
      exact ⟨_, tc, rfl, by rw [hok']⟩
    | some v =>
      rw [hv] at hok'
      obtain ⟨r, tr, rfl, hr⟩ := hok'
      simp only [Option.isSome_some, if_true]
      refine Subscript_ ?_
      refine kcf_cell N4 rfl (.tail _ (.tail _ (.tail _ (.head _)))) dc2 ?_
      refine LCgL.ld_own N4 (.tail _ (.head _)) hC hx4 ?_
      refine kda_item N4 (.tail _ (.tail _ (.tail _ (.tail _ hdn)))) hdo (k := ⟨#[c]⟩) (by simp [PySem.strKind, Value.isStrOf]) hv ?_
      exact ⟨_, tr, rfl, by rw [show r = (⟨(tab i c).toArray⟩ : Str) from str_ext (by rw [hr])]⟩
  · intro ys hys D h4 tk4 F4 N4 off4
    dsimp only
    iterate 1 walk1
    have hlen : x.cps.toList.length = x.length := by simp [Str.length]
    have hsum := tab_sum i x.cps.toList
    refine join_listW (News.isList N4 (.head _)) hys (by decide) (by rw [List.length_map]; omega) ?_
    intro t9 tk9
    rw [show Txt.join (Str.ofString "") (x.cps.toList.map fun c => (⟨(tab i c).toArray⟩ : Str)) = esc i x from str_ext (by rw [join_flat]; rfl)]
    k_steps
    rename News h₀ _ _ _ => N8
    exact hret _ _ _ (by assumption) (fun p hp => N8 p (by first | exact hp | exact List.mem_cons_of_mem _ (List.mem_cons_of_mem _ hp) | exact List.mem_cons_of_mem _ hp))
theorem told5_call {w : World} {mean : ExcName → Option Value} {mg mb : Str → Option Value} (x : Str) (t th : Tok) (hx : x.length ≤ 10000)
  {dp un : Nat} {gd : Option (List Code)} {cn : Str} {cs : Scope} {a : Addr} {ccd : Value} {cl : List (Str × Addr)} {outer : List Env} {A₀ : Around} {base h₀ : Heap} {L : Addr} {m : Str → Option Value} {news : List (Addr × Obj)} {s : Shared} {Q E : Value → Shared → Prop}
  (B : Below A₀ base outer h₀) (F : Fr h₀ L s.heap m) (X : (Mine.hd.heap_39 w.params).In h₀) (N : News h₀ L s.heap news) (T : Top Mine.hd.view_39 (looseW Mine.hd.view_39 []) mean mg mb h₀) (hk : cs.kind = .function)
  (hd : dp + 2 < recursionLimit) (hu : un + 16 < cLine) {Ta : Addr}
  (hret : ∀ (v : Value) (h' : Heap) (tk' : Nat), SoRes x v → Fr h₀ L h' m → News h₀ L h' news → Q v { s with heap := h', toks := tk' }) :
  wpAny (model Challenge.rw_nb0120_01.row.prog w) (ktrTop dp un gd cn cs L a ccd cl outer) (call (.ref 82) [.int 5 th, .ref Ta, .str x t]) Q E s := by
  w_on
  revert X; k_fill; intro X
  refine wpAny_call ?_
  k_dflt (refine' code_defC B F X N T ?kA ?kF ?kK ?k6 ?k7 ?k8 ?k9 ?kB ?kD ?_ ?c2 ?c3 ?c4; (case kA => exact rfl); (case kF => exact rfl); (case kK => assumption); (case k6 => k_is); (case k7 => k_is); (case k8 => ktr_room); (case k9 => exact BindsTo.of_eq rfl); (case kB => exact rfl); (case kD => decide +kernel); (case c2 => exact rfl); (case c3 => exact rfl); (case c4 => exact rfl))
  intro g1 L1 h1 tk1 cells FG1 F1 N1 Y1 B1 X1 T1 l1
  obtain ⟨oc, hE, dc⟩ := CellsAre.one Y1
  subst hE
  clear Y1
  simp only [List.cons_append, List.nil_append] at N1
  dsimp only
  k_fold
  k_steps
  rename Fr _ _ _ _ => F1
  rename News _ _ _ _ => N1
  k_dflt (refine so_call x t hx B1 F1 X1 N1 T1 rfl ?_ ?_ ?_)
  · show dp + 1 + 1 < recursionLimit
    omega
  · show un + 3 + 8 < cLine
    omega
  · intro v h2 tk2 hv F2 N2
    clear F1 N1
    k_steps
    rename News h₀ _ _ _ => N8
    exact hret _ _ _ hv (by assumption) (fun p hp => N8 p (by first | exact hp | exact List.mem_cons_of_mem _ hp))
end Mine
end
section
open PySem PySem.W PyProof.Rows PySem.Calls
set_option maxRecDepth 100000
set_option maxHeartbeats 800000
namespace Mine
theorem done0_call {w : World} {mean : ExcName → Option Value} {mg mb : Str → Option Value} (x : Str) (t : Tok) (hx : x.length ≤ 10000)
  {dp un : Nat} {gd : Option (List Code)} {cn : Str} {cs : Scope} {a : Addr} {ccd : Value} {cl : List (Str × Addr)} {outer : List Env} {A₀ : Around} {base h₀ : Heap} {L : Addr} {m : Str → Option Value} {news : List (Addr × Obj)} {s : Shared} {Q E : Value → Shared → Prop}
  (B : Below A₀ base outer h₀) (F : Fr h₀ L s.heap m) (X : (Mine.hd.heap_39 w.params).In h₀) (N : News h₀ L s.heap news) (T : Top Mine.hd.view_39 (looseW Mine.hd.view_39 []) mean mg mb h₀) (hk : cs.kind = .function)
  (hd : dp + 2 < recursionLimit)
  (hret : ∀ (t' : Tok) (h' : Heap) (tk' : Nat), Fr h₀ L h' m → News h₀ L h' news → Q (.str (esc 0 x) t') { s with heap := h', toks := tk' }) :
  wpAny (model Challenge.rw_nb0120_01.row.prog w) (ktrTop dp un gd cn cs L a ccd cl outer) (call (.ref 89) [.ref 35, .str x t]) Q E s := by
  w_on
  revert X; k_fill; intro X
  refine wpAny_call ?_
  k_dflt (refine' code_def B F X N T ?kA ?kF ?kK ?k6 ?k7 ?k8 ?k9 ?kB ?_ ?c2 ?c3 ?c4 ?c5; (case kA => exact rfl); (case kF => exact rfl); (case kK => assumption); (case k6 => k_is); (case k7 => k_is); (case k8 => ktr_room); (case k9 => exact BindsTo.of_eq rfl); (case c5 => decide); (case kB => exact locs rfl); (case c2 => exact rfl); (case c3 => exact rfl); (case c4 => exact rfl))
  intro g1 L1 h1 FG1 F1 N1 B1 X1 T1
  dsimp only
  k_fold
  k_steps
  rename Fr _ _ _ _ => F1
  rename News _ _ _ _ => N1
  k_dflt (refine esc0_call x t hx B1 F1 X1 N1 T1 rfl ?_ ?_)
  · show dp + 1 + 1 < recursionLimit
    omega
  · intro t2 h2 tk2 F2 N2
    clear F1 N1
    k_steps
    exact hret _ _ _ (by assumption) (by assumption)
theorem done1_call {w : World} {mean : ExcName → Option Value} {mg mb : Str → Option Value} (x : Str) (t : Tok) (hx : x.length ≤ 10000)
  {dp un : Nat} {gd : Option (List Code)} {cn : Str} {cs : Scope} {a : Addr} {ccd : Value} {cl : List (Str × Addr)} {outer : List Env} {A₀ : Around} {base h₀ : Heap} {L : Addr} {m : Str → Option Value} {news : List (Addr × Obj)} {s : Shared} {Q E : Value → Shared → Prop}
  (B : Below A₀ base outer h₀) (F : Fr h₀ L s.heap m) (X : (Mine.hd.heap_39 w.params).In h₀) (N : News h₀ L s.heap news) (T : Top Mine.hd.view_39 (looseW Mine.hd.view_39 []) mean mg mb h₀) (hk : cs.kind = .function)
  (hd : dp + 2 < recursionLimit)
  (hret : ∀ (t' : Tok) (h' : Heap) (tk' : Nat), Fr h₀ L h' m → News h₀ L h' news → Q (.str (esc 1 x) t') { s with heap := h', toks := tk' }) :
  wpAny (model Challenge.rw_nb0120_01.row.prog w) (ktrTop dp un gd cn cs L a ccd cl outer) (call (.ref 89) [.ref 42, .str x t]) Q E s := by
  w_on
  revert X; k_fill; intro X
  refine wpAny_call ?_
  k_dflt (refine' code_def B F X N T ?kA ?kF ?kK ?k6 ?k7 ?k8 ?k9 ?kB ?_ ?c2 ?c3 ?c4 ?c5; (case kA => exact rfl); (case kF => exact rfl); (case kK => assumption); (case k6 => k_is); (case k7 => k_is); (case k8 => ktr_room); (case k9 => exact BindsTo.of_eq rfl); (case c5 => decide); (case kB => exact locs rfl); (case c2 => exact rfl); (case c3 => exact rfl); (case c4 => exact rfl))
  intro g1 L1 h1 FG1 F1 N1 B1 X1 T1
  dsimp only
  k_fold
  k_steps
  rename Fr _ _ _ _ => F1
  rename News _ _ _ _ => N1
  k_dflt (refine esc1_call x t hx B1 F1 X1 N1 T1 rfl ?_ ?_)
  · show dp + 1 + 1 < recursionLimit
    omega
  · intro t2 h2 tk2 F2 N2
    clear F1 N1
    k_steps
    exact hret _ _ _ (by assumption) (by assumption)
theorem done2_call {w : World} {mean : ExcName → Option Value} {mg mb : Str → Option Value} (x : Str) (t : Tok) (hx : x.length ≤ 10000)
  {dp un : Nat} {gd : Option (List Code)} {cn : Str} {cs : Scope} {a : Addr} {ccd : Value} {cl : List (Str × Addr)} {outer : List Env} {A₀ : Around} {base h₀ : Heap} {L : Addr} {m : Str → Option Value} {news : List (Addr × Obj)} {s : Shared} {Q E : Value → Shared → Prop}
  (B : Below A₀ base outer h₀) (F : Fr h₀ L s.heap m) (X : (Mine.hd.heap_39 w.params).In h₀) (N : News h₀ L s.heap news) (T : Top Mine.hd.view_39 (looseW Mine.hd.view_39 []) mean mg mb h₀) (hk : cs.kind = .function)
  (hd : dp + 2 < recursionLimit)
  (hret : ∀ (t' : Tok) (h' : Heap) (tk' : Nat), Fr h₀ L h' m → News h₀ L h' news → Q (.str (esc 2 x) t') { s with heap := h', toks := tk' }) :
  wpAny (model Challenge.rw_nb0120_01.row.prog w) (ktrTop dp un gd cn cs L a ccd cl outer) (call (.ref 89) [.ref 49, .str x t]) Q E s := by
  w_on
  revert X; k_fill; intro X
  refine wpAny_call ?_
  k_dflt (refine' code_def B F X N T ?kA ?kF ?kK ?k6 ?k7 ?k8 ?k9 ?kB ?_ ?c2 ?c3 ?c4 ?c5; (case kA => exact rfl); (case kF => exact rfl); (case kK => assumption); (case k6 => k_is); (case k7 => k_is); (case k8 => ktr_room); (case k9 => exact BindsTo.of_eq rfl); (case c5 => decide); (case kB => exact locs rfl); (case c2 => exact rfl); (case c3 => exact rfl); (case c4 => exact rfl))
  intro g1 L1 h1 FG1 F1 N1 B1 X1 T1
  dsimp only
  k_fold
  k_steps
  rename Fr _ _ _ _ => F1
  rename News _ _ _ _ => N1
  k_dflt (refine esc2_call x t hx B1 F1 X1 N1 T1 rfl ?_ ?_)
  · show dp + 1 + 1 < recursionLimit
    omega
  · intro t2 h2 tk2 F2 N2
    clear F1 N1
    k_steps
    exact hret _ _ _ (by assumption) (by assumption)
theorem done3_call {w : World} {mean : ExcName → Option Value} {mg mb : Str → Option Value} (x : Str) (t : Tok) (hx : x.length ≤ 10000)
  {dp un : Nat} {gd : Option (List Code)} {cn : Str} {cs : Scope} {a : Addr} {ccd : Value} {cl : List (Str × Addr)} {outer : List Env} {A₀ : Around} {base h₀ : Heap} {L : Addr} {m : Str → Option Value} {news : List (Addr × Obj)} {s : Shared} {Q E : Value → Shared → Prop}
  (B : Below A₀ base outer h₀) (F : Fr h₀ L s.heap m) (X : (Mine.hd.heap_39 w.params).In h₀) (N : News h₀ L s.heap news) (T : Top Mine.hd.view_39 (looseW Mine.hd.view_39 []) mean mg mb h₀) (hk : cs.kind = .function)
  (hd : dp + 2 < recursionLimit)
  (hret : ∀ (t' : Tok) (h' : Heap) (tk' : Nat), Fr h₀ L h' m → News h₀ L h' news → Q (.str (esc 3 x) t') { s with heap := h', toks := tk' }) :
  wpAny (model Challenge.rw_nb0120_01.row.prog w) (ktrTop dp un gd cn cs L a ccd cl outer) (call (.ref 89) [.ref 56, .str x t]) Q E s := by
  w_on
  revert X; k_fill; intro X
  refine wpAny_call ?_
  k_dflt (refine' code_def B F X N T ?kA ?kF ?kK ?k6 ?k7 ?k8 ?k9 ?kB ?_ ?c2 ?c3 ?c4 ?c5; (case kA => exact rfl); (case kF => exact rfl); (case kK => assumption); (case k6 => k_is); (case k7 => k_is); (case k8 => ktr_room); (case k9 => exact BindsTo.of_eq rfl); (case c5 => decide); (case kB => exact locs rfl); (case c2 => exact rfl); (case c3 => exact rfl); (case c4 => exact rfl))
  intro g1 L1 h1 FG1 F1 N1 B1 X1 T1
  dsimp only
  k_fold
  k_steps
  rename Fr _ _ _ _ => F1
  rename News _ _ _ _ => N1
  k_dflt (refine esc3_call x t hx B1 F1 X1 N1 T1 rfl ?_ ?_)
  · show dp + 1 + 1 < recursionLimit
    omega
  · intro t2 h2 tk2 F2 N2
    clear F1 N1
    k_steps
    exact hret _ _ _ (by assumption) (by assumption)
theorem done4_call {w : World} {mean : ExcName → Option Value} {mg mb : Str → Option Value} (x : Str) (t : Tok) (hx : x.length ≤ 10000)
  {dp un : Nat} {gd : Option (List Code)} {cn : Str} {cs : Scope} {a : Addr} {ccd : Value} {cl : List (Str × Addr)} {outer : List Env} {A₀ : Around} {base h₀ : Heap} {L : Addr} {m : Str → Option Value} {news : List (Addr × Obj)} {s : Shared} {Q E : Value → Shared → Prop}
  (B : Below A₀ base outer h₀) (F : Fr h₀ L s.heap m) (X : (Mine.hd.heap_39 w.params).In h₀) (N : News h₀ L s.heap news) (T : Top Mine.hd.view_39 (looseW Mine.hd.view_39 []) mean mg mb h₀) (hk : cs.kind = .function)
  (hd : dp + 2 < recursionLimit)
  (hret : ∀ (t' : Tok) (h' : Heap) (tk' : Nat), Fr h₀ L h' m → News h₀ L h' news → Q (.str (esc 4 x) t') { s with heap := h', toks := tk' }) :
  wpAny (model Challenge.rw_nb0120_01.row.prog w) (ktrTop dp un gd cn cs L a ccd cl outer) (call (.ref 89) [.ref 63, .str x t]) Q E s := by
  w_on
  revert X; k_fill; intro X
  refine wpAny_call ?_
  k_dflt (refine' code_def B F X N T ?kA ?kF ?kK ?k6 ?k7 ?k8 ?k9 ?kB ?_ ?c2 ?c3 ?c4 ?c5; (case kA => exact rfl); (case kF => exact rfl); (case kK => assumption); (case k6 => k_is); (case k7 => k_is); (case k8 => ktr_room); (case k9 => exact BindsTo.of_eq rfl); (case c5 => decide); (case kB => exact locs rfl); (case c2 => exact rfl); (case c3 => exact rfl); (case c4 => exact rfl))
  intro g1 L1 h1 FG1 F1 N1 B1 X1 T1
  dsimp only
  k_fold
  k_steps
  rename Fr _ _ _ _ => F1
  rename News _ _ _ _ => N1
  k_dflt (refine esc4_call x t hx B1 F1 X1 N1 T1 rfl ?_ ?_)
  · show dp + 1 + 1 < recursionLimit
    omega
  · intro t2 h2 tk2 F2 N2
    clear F1 N1
    k_steps
    exact hret _ _ _ (by assumption) (by assumption)
theorem done5_call {w : World} {mean : ExcName → Option Value} {mg mb : Str → Option Value} (x : Str) (t : Tok) (hx : x.length ≤ 10000) (hfr : firstRow x.cps.toList ≠ [])
  {dp un : Nat} {gd : Option (List Code)} {cn : Str} {cs : Scope} {a : Addr} {ccd : Value} {cl : List (Str × Addr)} {outer : List Env} {A₀ : Around} {base h₀ : Heap} {L : Addr} {m : Str → Option Value} {news : List (Addr × Obj)} {s : Shared} {Q E : Value → Shared → Prop}
  (B : Below A₀ base outer h₀) (F : Fr h₀ L s.heap m) (X : (Mine.hd.heap_39 w.params).In h₀) (N : News h₀ L s.heap news) (T : Top Mine.hd.view_39 (looseW Mine.hd.view_39 []) mean mg mb h₀) (hk : cs.kind = .function)
  (hd : dp + 2 < recursionLimit)
  (hret : ∀ (t' : Tok) (h' : Heap) (tk' : Nat), Fr h₀ L h' m → News h₀ L h' news → Q (.str (ded x) t') { s with heap := h', toks := tk' }) :
  wpAny (model Challenge.rw_nb0120_01.row.prog w) (ktrTop dp un gd cn cs L a ccd cl outer) (call (.ref 89) [.none, .str x t]) Q E s := by
  w_on
  revert X; k_fill; intro X
  refine wpAny_call ?_
  k_dflt (refine' code_def B F X N T ?kA ?kF ?kK ?k6 ?k7 ?k8 ?k9 ?kB ?_ ?c2 ?c3 ?c4 ?c5; (case kA => exact rfl); (case kF => exact rfl); (case kK => assumption); (case k6 => k_is); (case k7 => k_is); (case k8 => ktr_room); (case k9 => exact BindsTo.of_eq rfl); (case c5 => decide); (case kB => exact locs rfl); (case c2 => exact rfl); (case c3 => exact rfl); (case c4 => exact rfl))
  intro g1 L1 h1 FG1 F1 N1 B1 X1 T1
  dsimp only
  k_fold
  k_steps
  rename Fr _ _ _ _ => F1
  rename News _ _ _ _ => N1
  k_dflt (refine dd_call x t hx B1 F1 X1 N1 T1 rfl ?_ hfr ?_)
  · show dp + 1 + 1 < recursionLimit
    omega
  · intro t2 h2 tk2 F2 N2
    clear F1 N1
    k_steps
    exact hret _ _ _ (by assumption) (by assumption)
end Mine
end
section
open PySem PySem.W PyProof.Rows PySem.Calls
set_option maxRecDepth 100000
set_option maxHeartbeats 800000
namespace Mine
section
variable {M : Model} {A : Around} {E : Value → Shared → Prop} {s : Shared}
theorem first_field {vs : Array Value} (h1 : vs[1]? = some .none) : ∃ a0, vs[0]? = some a0 := by
  have hs : 1 < vs.size := (Array.getElem?_eq_some_iff.mp h1).1
  exact ⟨vs[0], by simp [Nat.lt_trans Nat.zero_lt_one hs]⟩
/-- a new exception leaves its frame -/
theorem leave_first {base h : Heap} {env : Env} {outer : List Env} {L e : Addr} {cls : String} {Q : Unit → Shared → Prop}
    (hfr : A.frames = some (env :: outer)) (hf : env.frame = some L) (hkb : base.StaysIn h) (hl : h.FunFrames base (env :: outer)) (hx : Heap.NewExcOf h s.heap e cls)
    (hQ : ∀ h' a0, Heap.FlyingW base outer e (.type cls) a0 h' → s.heap.UpToSlots h' → Q () { s with heap := h' }) : wpAny M A (leaving env (.ref e)) Q E s := by
  obtain ⟨oe, vs, he, hc, hd, h1⟩ := hx.there
  obtain ⟨a0, h0⟩ := first_field h1
  have hen : base.get? e = none := fresh_of_stays hkb hx.new
  refine wpAny_leaving_firstW (a0 := a0) hfr (hl.of_keeps fun b o hb _ => ⟨o, hx.keeps b o hb, rfl⟩) hf he (fun b o hb => hx.keeps b o (hkb b o hb)) hen hd h1 h0 fun h' hL => ?_
  obtain ⟨k1, ⟨_, _, k2⟩, k3, k4⟩ := hL
  rw [hc] at k3
  exact hQ h' a0 ⟨k1, hen, k2, k3⟩ k4
/-- a new exception is noted in the frame that catches it -/
theorem note_first {base h : Heap} {env : Env} {outer : List Env} {L e : Addr} {cls : String} {Q : Unit → Shared → Prop}
    (hfr : A.frames = some (env :: outer)) (hf : env.frame = some L) (hkb : base.StaysIn h) (hl : h.FunFrames base (env :: outer)) (hx : Heap.NewExcOf h s.heap e cls)
    (hQ : ∀ h' a0, Heap.HeldW base (env :: outer) e (.type cls) a0 L h' → s.heap.UpToSlots h' → Q () { s with heap := h' }) : wpAny M A (noteFrame (.ref e) env) Q E s := by
  obtain ⟨oe, vs, he, hc, hd, h1⟩ := hx.there
  obtain ⟨a0, h0⟩ := first_field h1
  have hen : base.get? e = none := fresh_of_stays hkb hx.new
  unfold noteFrame
  simp only [hf]
  refine wpAny_bind (wpAny_field he hd h1 ?_)
  rw [if_neg (by decide)]
  refine wpAny_entryW hfr (hl.of_keeps fun b o hb _ => ⟨o, hx.keeps b o hb, rfl⟩) hf he (fun b o hb => hx.keeps b o (hkb b o hb)) hen hd (Array.getElem?_eq_some_iff.mp h1).1 h0 fun h' hN => ?_
  obtain ⟨k1, k2, k3, k4⟩ := hN
  rw [hc] at k3
  exact hQ h' a0 ⟨k1, hen, k2, k3⟩ k4
/-- an exception that stands in the frame: its flight is over -/
theorem lands {base : Heap} {l : List Env} {e : Addr} {cls a0 : Value} {Q : Unit → Shared → Prop} (hh : Heap.FlyingW base l e cls a0 s.heap)
    (hQ : ∀ h', Heap.FlyingW base l e cls a0 h' → s.heap.UpToSlots h' → Q () { s with heap := h' }) : wpAny M A (setFlight (.ref e) none) Q E s := by
  obtain ⟨f1, f2, f3, f4⟩ := hh
  exact wpAny_setFlight_noneW f1 f3 f4.at fun h' k1 k2 k3 k4 => hQ h' ⟨k1, f2, k2, k3⟩ fun b o hb hn => ⟨o.slots, k4 b o hb hn⟩
theorem flying_type {base : Heap} {l : List Env} {e : Addr} {X : String} {a0 : Value} (hh : Heap.FlyingW base l e (.type X) a0 s.heap) : s.TypeIs (.ref e) X := by
  exact hh.there
end
theorem unbound_own (args : List Value) : ownMembersOf (.type "UnboundLocalError") args = #[unsetMember] := rfl
theorem unbound_first : ((Manifest.find? "UnboundLocalError").elim false fun t => t.mro.contains "StopIteration" || t.mro.contains "SystemExit") = false := by decide +kernel
theorem raise_unbound {α : Type} {M : Model} {A : Around} {E : Value → Shared → Prop} {s : Shared} {msg : String} {Q : α → Shared → Prop} (hh : A.handled = none)
    (h : ∀ h' tk e, Heap.NewExcOf s.heap h' e "UnboundLocalError" → E (.ref e) { s with heap := h', toks := tk }) (hm : (msg : Str).length ≤ sizeLine) :
    wpAny M A (raiseErrorMade "UnboundLocalError" msg : Sem α) Q E s := by
  unfold raiseErrorMade
  refine wpAny_bind (wpAny_mkStr (wpAny_bind ?_) hm)
  unfold newExc newTuple
  refine wpAny_bind (wpAny_newObj_type ?_)
  refine wpAny_bind (m := firstArgMember _ _) (wpAny_of_eq (a := Value.none) (by simp only [firstArgMember, unbound_first]; rfl) ?_)
  rw [unbound_own]
  refine wpAny_newObj_type ?_
  unfold raiseNew
  refine wpAny_bind (wpAny_handled ?_)
  rw [hh]
  first
    | refine wpAny_throw ?_
    | refine wpAny_bind (wpAny_pure (wpAny_throw ?_))
  exact h _ _ _ ⟨fun b o hb => Heap.get?_push_of_some _ (Heap.get?_push_of_some _ hb), Heap.get?_none_of_le (by simp), _, _, Heap.get?_push_size _ rfl, rfl, rfl, rfl⟩
theorem loadName_unbound {M : Model} {A : Around} {E : Value → Shared → Prop} {s : Shared} {env : Env} {name : Str} {m : Str → Option Value} {Q : Value → Shared → Prop} (hk : env.scope.kind = .function)
    (hl : env.kindOf name = some .local) (hn : s.heap.Ns env.locals m) (hv : m name = none) (hh : A.handled = none)
    (hm : (Str.ofString s!"cannot access local variable '{name.toString}' where it is not associated with a value").length ≤ sizeLine)
    (h : ∀ h' tk e, Heap.NewExcOf s.heap h' e "UnboundLocalError" → E (.ref e) { s with heap := h', toks := tk }) : wpAny M A (loadName env name) Q E s := by
  have hb : env.blockKind = .function := by
    unfold Env.blockKind
    rw [hk]
    exact if_neg (by decide)
  unfold loadName
  rw [hk, hb, hl]
  show wpAny M A (do let x ← nsGet env.locals name; _) Q E s
  refine wpAny_bind (wpAny_nsGet hn ?_)
  rw [hv]
  exact wpAny_bind (wpAny_rule (raise_unbound hh h hm))
/-- an exception that is new in a called def leaves it: what its caller has -/
theorem leave_call {M : Model} {A A' : Around} {E : Value → Shared → Prop} {s : Shared} {base h₀ g h : Heap} {env env1 : Env} {outer : List Env} {L L1 e : Addr} {m m1 : Str → Option Value} {cls : String} {Q : Unit → Shared → Prop}
    (B1 : Below A' base (env :: outer) g) (hA : A.frames = some (env1 :: env :: outer)) (hf : env.frame = some L) (hf1 : env1.frame = some L1) (hk1 : env1.scope.kind = .function) (hab : h₀.objs.size ≤ L)
    (FG : Fr h₀ L g m) (F1 : Fr g L1 h m1) (hx : Heap.NewExcOf h s.heap e cls)
    (hQ : ∀ h' a0 Bs, Heap.FlyingW Bs (env :: outer) e (.type cls) a0 h' → (∀ b o, h₀.get? b = some o → b ∉ outer.filterMap (·.frame) → Bs.get? b = some o) → h₀.UpToSlots h' → h'.Ns L m → Q () { s with heap := h' }) :
    wpAny M A (leaving env1 (.ref e)) Q E s := by
  have B2 := pushX B1 F1 hf1 hk1
  have hin : ∀ en ∈ (env1 :: env :: outer), ∀ b, en.frame = some b → b ∈ (env1 :: env :: outer).filterMap (·.frame) := fun en he b hb => List.mem_filterMap.mpr ⟨en, he, hb⟩
  refine leave_first (base := hideAll h ((env1 :: env :: outer).filterMap (·.frame))) hA hf1 (fun b o q => of_hideAll _ q) (funFrames_hide B2.frames hin) hx fun h' a0 hfl hsm => ?_
  refine hQ h' a0 _ hfl (fun b o hb hnb => hideAll_get _ (F1.keep b o (FG.keep b o hb)) fun hm => ?_) (fun b o hb hnf => ?_) ?_
  · obtain ⟨en, he, hfb⟩ := List.mem_filterMap.mp hm
    rcases List.mem_cons.mp he with rfl | he
    · have e1 : L1 = b := Option.some.inj (hf1.symm.trans hfb)
      have h1 := Heap.lt_size (FG.keep b o hb)
      rw [← e1] at h1
      exact absurd h1 (Nat.not_lt.mpr F1.above)
    · rcases List.mem_cons.mp he with rfl | he
      · have e1 : L = b := Option.some.inj (hf.symm.trans hfb)
        have h1 := Heap.lt_size hb
        rw [← e1] at h1
        exact absurd h1 (Nat.not_lt.mpr hab)
      · exact hnb (List.mem_filterMap.mpr ⟨en, he, hfb⟩)
  · exact hsm b o (hx.keeps b o (F1.keep b o (FG.keep b o hb))) hnf
  · exact hsm.ns ((FG.ns.keeps F1.keep).keeps hx.keeps)
theorem dd_raise {w : World} {mean : ExcName → Option Value} {mg mb : Str → Option Value} (x : Str) (t : Tok) (hx : x.length ≤ 10000)
  {dp un : Nat} {gd : Option (List Code)} {cn : Str} {cs : Scope} {a : Addr} {ccd : Value} {cl : List (Str × Addr)} {outer : List Env} {A₀ : Around} {base h₀ : Heap} {L : Addr} {m : Str → Option Value} {news : List (Addr × Obj)} {s : Shared} {Q E : Value → Shared → Prop}
  (B : Below A₀ base outer h₀) (F : Fr h₀ L s.heap m) (X : (Mine.hd.heap_39 w.params).In h₀) (N : News h₀ L s.heap news) (T : Top Mine.hd.view_39 (looseW Mine.hd.view_39 []) mean mg mb h₀) (hk : cs.kind = .function)
  (hd : dp + 1 < recursionLimit) (hfr : firstRow x.cps.toList = [])
  (hret : ∀ (e : Addr) (a0 : Value) (Bs h' : Heap) (tk' : Nat), Heap.FlyingW Bs (envX cn cs L a ccd cl :: outer) e (.type "UnboundLocalError") a0 h' → (∀ b o, h₀.get? b = some o → b ∉ outer.filterMap (·.frame) → Bs.get? b = some o) →
    h₀.UpToSlots h' → h'.Ns L m → E (.ref e) { s with heap := h', toks := tk' }) :
  wpAny (model Challenge.rw_nb0120_01.row.prog w) (ktrTop dp un gd cn cs L a ccd cl outer) (call (.ref 21) [.str x t]) Q E s := by
  w_on
  revert X; k_fill; intro X
  refine wpAny_call ?_
  k_dflt (refine' code_def B F X N T ?kA ?kF ?kK ?k6 ?k7 ?k8 ?k9 ?kB ?_ ?c2 ?c3 ?c4 ?c5; (case kA => exact rfl); (case kF => exact rfl); (case kK => assumption); (case k6 => k_is); (case k7 => k_is); (case k8 => ktr_room); (case k9 => exact BindsTo.of_eq rfl); (case c5 => decide); (case kB => exact locs rfl); (case c2 => exact rfl); (case c3 => exact rfl); (case c4 => exact rfl))
  intro g1 L1 h1 FG1 F1 N1 B1 X1 T1
  dsimp only
  k_fold
  iterate 10 walk1
  rename Fr _ _ _ _ => F1
  rename News _ _ _ _ => N1
  refine splitN1A F1 N1 (by rfl) ?_ (by rw [PySem.sizeLine_eq]; omega)
  intro lv h2 tk2 hl hS hshort hL F2 N2
  have hD : ∀ p ∈ news, p.1 < h1.objs.size := fun p hp => Heap.lt_size (N1 p hp).1
  dsimp only at F2 N2 hL ⊢
  clear F1 N1
  generalize h1.objs.size = D at F2 N2 hL hD ⊢
  rw [hl] at hS
  rw [hl] at hshort
  generalize strValues lv = vs at hS N2 hL
  clear hl lv
  rw [show Txt.split x (Str.ofString "\n") = rows x from by unfold rows; rw [show Str.ofString "\n" = (⟨#[10]⟩ : Str) from by decide]] at hS hshort
  obtain ⟨p0, pr, hrows⟩ : ∃ p0 pr, rows x = p0 :: pr := by
    have := split_pos x ⟨#[10]⟩
    cases e : rows x with
    | nil => unfold rows at e; rw [e] at this; simp at this
    | cons p0 pr => exact ⟨p0, pr, rfl⟩
  rw [hrows] at hS hshort
  obtain ⟨u0, vr, rfl, hS'⟩ : ∃ u0 vr, vs = .str p0 u0 :: vr ∧ StrsAre vr pr := by cases hS with | cons _ u0 r => exact ⟨u0, _, rfl, r⟩
  refine stN F2 N2 (fun h3 F3 N3 => ?_)
  dsimp only
  clear F2 N2 hL
  refine wpAny_execs_cons ?_
  refine wpAny_mono (Q := AfterI g1 L1 s ((D, listOf (Value.str p0 u0 :: vr).toArray 0) :: news) (fun y => if y = Str.ofString "lines" then some (.ref D) else List.lookup y [(Str.ofString "text", Value.str x t)]) p0.cps.toList) ?l1 ?rest1 (fun _ _ e => e)
  case l1 =>
    refine For_pair3F F3 rfl rfl rfl rfl ?_ (by intro _; rfl)
    iterate 9 walk1
    rename Fr _ _ _ _ => F3
    rename News _ _ _ _ => N3
    refine call_enum_str rfl F3 N3 (fun h4 e F4 N4 S => ?_)
    clear F3 N3
    refine S.at _ rfl (Str.ofString "i") (Str.ofString "ch") _ _ (DdI ((D, listOf (Value.str p0 u0 :: vr).toArray 0) :: news) (fun y => if y = Str.ofString "lines" then some (.ref D) else List.lookup y [(Str.ofString "text", Value.str x t)]) p0.cps.toList) ⟨rfl, fun k hk => absurd hk (Nat.not_lt_zero _), .inl ⟨rfl, rfl⟩⟩ ?step ?done
    case step =>
      rintro i ch t5 v m₁ news₁ s₁ own ⟨h5, tk5, rfl⟩ hc ⟨u5, rfl⟩ ⟨rfl, hb, hm⟩ _ hown F5 N5
      clear F4 N4 S
      obtain ⟨c, hc2, rfl⟩ := signs_at hc
      clear hc
      rename p0.cps.toList[i]? = some c => hc
      dsimp only at F5 N5
      rw [im_step hm] at F5
      have hne : p0.cps.toList ≠ [] := fun e => by rw [e] at hc; simp at hc
      have hbrk : c ≠ 32 → i = mrg p0.cps.toList := fun e2 => row_mrg _ i c hb hc (.inl e2)
      have hnxt : c = 32 → ∀ k, k < i + 1 → p0.cps.toList[k]? = some 32 := fun e2 k hk => by
        by_cases h : k < i
        · exact hb k h
        · have : k = i := by omega
          rw [this, ← e2]; exact hc
      k_steps
      · rename (((⟨#[c]⟩ : Str) != Str.ofString " ") = true) => e1
        rw [sgn_ne (by decide : _ = (⟨#[32]⟩ : Str))] at e1
        have e2 : c ≠ 32 := by simpa using e1
        refine ⟨rfl, _, _, _, rfl, F5, fun p hp => N5 p (List.mem_append_right _ hp), .inr ⟨hne, t5, some (.str ⟨#[c]⟩ u5), ?_⟩⟩
        rw [← hbrk e2]
      · rename (((⟨#[c]⟩ : Str) != Str.ofString " ") = false) => e1
        rw [sgn_ne (by decide : _ = (⟨#[32]⟩ : Str))] at e1
        have e2 : c = 32 := by simpa using e1
        exact ⟨rfl, hnxt e2, .inr ⟨i, t5, _, rfl, rfl⟩⟩
    case done =>
      rintro h' tk' m' news' F' N' _ ⟨rfl, hb, hm⟩
      have hsl : (signs p0).length = p0.cps.toList.length := by unfold signs; simp
      rw [hsl] at hb hm
      refine ⟨rfl, _, _, _, rfl, F', N', ?_⟩
      rcases hm with ⟨h0, rfl⟩ | ⟨j, t6, v, hj, rfl⟩
      · exact .inl ⟨List.length_eq_zero_iff.mp h0, rfl⟩
      · have hne : p0.cps.toList ≠ [] := fun e => by rw [e] at hj; simp at hj
        refine .inr ⟨hne, t6, v, ?_⟩
        rw [← row_mrg _ j 32 (fun k hk => hb k (by omega)) (hb j (by omega)) (.inr hj.symm)]
  case rest1 =>
    rintro f s2 ⟨rfl, h4, tk4, m4, rfl, F4, N4, hcase⟩
    clear F3 N3
    dsimp only
    refine wpAny_execs_cons ?_
    rcases hcase with ⟨hr0, rfl⟩ | ⟨hr0, t4, v4, rfl⟩
    · refine wpAny_For ?_ (by intro _; rfl)
      iterate 6 walk1
      rename Fr _ _ _ _ => F4
      rename News _ _ _ _ => N4
      refine call_enumerate_list (News.isList N4 (List.mem_cons_self ..)) (fun h5 hE5 hI5 hsz5 hk5 => ?_)
      refine wpAny_pyIter_enum hE5 ?_
      dsimp only at hE5 hI5 hsz5 hk5 ⊢
      have hDs : D < h4.objs.size := Heap.lt_size (N4 _ (List.mem_cons_self ..)).1
      have hLs : L1 < h4.objs.size := F4.ns.lt
      have hab := F4.above
      refine enum_list_loopE (D := D) (it := h4.objs.size) (c := 0) (ws₀ := Value.str p0 u0 :: vr) (news := news) rfl (Nat.succ_ne_self _) (Nat.ne_of_lt (Nat.lt_succ_of_lt hDs)) (Nat.ne_of_lt hDs) (Nat.ne_of_lt (Nat.lt_succ_of_lt hLs)) (Nat.ne_of_lt hLs)
        (Heap.get?_none_of_le (Nat.le_trans hab (Nat.le_of_lt (Nat.lt_succ_of_lt hLs)))) (Heap.get?_none_of_le (Nat.le_trans hab (Nat.le_of_lt hLs))) (fun p hp => ⟨Nat.ne_of_lt (Nat.lt_succ_of_lt (Nat.lt_trans (hD p hp) hDs)), Nat.ne_of_lt (Nat.lt_trans (hD p hp) hDs)⟩) ⟨_, hE5⟩ hI5 (F4.keeps hk5) (N4.grown hk5) rfl
        (fun i m' ws => i = 0 ∧ m' = (fun y => if y = Str.ofString "lines" then some (.ref D) else List.lookup y [(Str.ofString "text", Value.str x t)]) ∧ ws = Value.str p0 u0 :: vr) ⟨rfl, rfl, rfl⟩ ?step ?done
      case step =>
        rintro i m' ws h6 tk6 oe oit T tj xv hi ⟨rfl, rfl, rfl⟩ hwl hxv hT F6 N6
        clear F4 N4
        obtain rfl : Value.str p0 u0 = xv := by simpa using hxv
        k_steps
        rename Fr _ _ _ _ => F9
        rename News _ _ _ _ => N9
        refine wpAny_Name (loadName_unbound (env := envOf _ _ L1 _ _) rfl rfl F9.ns rfl rfl (by decide +kernel) ?_)
        intro h7 tk7 e7 hx7
        refine leave_call B1 rfl rfl rfl rfl F.above FG1 F9 hx7 ?_
        intro h8 a0 Bs hfl hBs hup hns
        exact hret e7 a0 Bs h8 _ hfl hBs hup hns
      case done =>
        rintro h6 tk6 m' ws ⟨h0, _⟩
        simp at h0
    · exact absurd ((firstRow_rows x hrows).symm.trans hfr) hr0
end Mine
end
section
open PySem PySem.W PyProof.Rows PySem.Calls
set_option maxRecDepth 100000
set_option maxHeartbeats 800000
namespace Mine
section
variable {prog : Program} {w : World} {A : Around} {s : Shared} {K : Frag} {L : Addr} {h₀ : Heap} {m mg mb : Str → Option Value} {p : Program} {loose : List Str} {mean : ExcName → Option Value}
/-- entering a def, its ground the whole heap -/
theorem code_def0 {R : Result → Shared → Prop} {name qual : Str} {params : Arguments} {body : List Stmt} {scope : Scope} {dV kV doc pm cdv ct oc : Value} {an od : Option Addr} {osl : Array (Option Value)} {f : Addr} {args : Args} {binds : List (Str × Value)}
    (F : Fr h₀ L s.heap m) (X₀ : K.In h₀) (T : Top p loose mean mg mb h₀)
    (ho : K.lookup f = some ⟨oc, od, .func (fnOf name qual params body scope dV kV doc pm an cdv ct), osl⟩) (hcd : codeIn K cdv qual = true) (hroom : A.depth < recursionLimit)
    (hbind : BindsTo s (fnOf name qual params body scope dV kV doc pm an cdv ct) args binds) (hloc : ∀ y ∈ binds, scope.names.lookup y.1 = some .local)
    (h : ∀ h₁, Fr s.heap s.heap.objs.size h₁ (fun y => binds.reverse.lookup y) →
      wpAny (model prog w) (A.deeper (envOf qual scope s.heap.objs.size f cdv)) (execs body (envOf qual scope s.heap.objs.size f cdv))
        (fun fl s' => R (.ok (.ret (match fl with | .ret v => v | _ => .none))) s')
        (fun e s' => wpAny (model prog w) (A.deeper (envOf qual scope s.heap.objs.size f cdv)) (leaving (envOf qual scope s.heap.objs.size f cdv) e) (fun _ s'' => R (.error e) s'') (fun e' s'' => R (.error e') s'') s')
        { s with heap := h₁, toks := s.toks + binds.length })
    (hco : scope.isCoroutine = false) (hgen : scope.isGenerator = false) (hk : scope.kind = .function)
    (hcell : ∀ x ∈ scope.names, x.2 ≠ .cell) : codeAny (model prog w) A (.call (.ref f) args) R s := by
  have X := X₀.keeps F.keep
  refine codeAny_call_def (fd := fnOf name qual params body scope dV kV doc pm an cdv ct) (body := body) (binds := binds) hroom (X _ _ ho) rfl (T.nolimit.keeps F.keep) (codeRec_of X hcd) rfl hbind hcell hloc (fun h₁ hns hk₁ => ?_) hco hgen hk
  exact h h₁ ⟨hns, hk₁, Nat.le_refl _⟩
end
theorem ule_exc : isSubtype (.type "UnboundLocalError") (.type "BaseException") = pure true := by rw [isSubtype_type]; kernel_rfl
theorem ule_self : isSubtype (.type "UnboundLocalError") (.type "UnboundLocalError") = pure true := by rw [isSubtype_type]; kernel_rfl
theorem ule_nt : isSubtype (.type ((Manifest.find? "UnboundLocalError").elim "type" fun x => x.metatype)) (.type "tuple") = pure false := by
  rw [show ((Manifest.find? "UnboundLocalError").elim "type" fun x => x.metatype) = "type" from by decide +kernel, isSubtype_type]; kernel_rfl
/-- back in the law's own frame behind a caught exception -/
theorem back_home {h₀ H h' Bs : Heap} {L : Addr} {m : Str → Option Value} {news : List (Addr × Obj)} (F : Fr h₀ L H m) (N : News h₀ L H news) (hB : ∀ b o, H.get? b = some o → b ≠ L → Bs.get? b = some o) (hs : Bs.StaysIn h') (hu : H.UpToSlots h') :
    Fr h₀ L h' m ∧ News h₀ L h' news :=
  ⟨⟨hu.ns F.ns, fun b o e => hs b o (hB b o (F.keep b o e) (Nat.ne_of_lt (Nat.lt_of_lt_of_le (Heap.lt_size e) F.above))), F.above⟩, fun p hp => ⟨hs _ _ (hB _ _ (N p hp).1 (N p hp).2.1), (N p hp).2⟩⟩
theorem done5_none {w : World} {mean : ExcName → Option Value} {mg mb : Str → Option Value} (x : Str) (t : Tok) (hx : x.length ≤ 10000) (hfr : firstRow x.cps.toList = [])
  {dp un : Nat} {gd : Option (List Code)} {cn : Str} {cs : Scope} {a : Addr} {ccd : Value} {cl : List (Str × Addr)} {A₀ : Around} {base h₀ : Heap} {L : Addr} {m : Str → Option Value} {news : List (Addr × Obj)} {s : Shared} {Q E : Value → Shared → Prop}
  (B : Below A₀ base [] h₀) (F : Fr h₀ L s.heap m) (X : (Mine.hd.heap_39 w.params).In h₀) (N : News h₀ L s.heap news) (T : Top Mine.hd.view_39 (looseW Mine.hd.view_39 []) mean mg mb h₀) (hk : cs.kind = .function)
  (hd : dp + 2 < recursionLimit)
  (hret : ∀ (h' : Heap) (tk' : Nat), Fr h₀ L h' m → News h₀ L h' news → Q .none { s with heap := h', toks := tk' }) :
  wpAny (model Challenge.rw_nb0120_01.row.prog w) (ktrTop dp un gd cn cs L a ccd cl []) (call (.ref 89) [.none, .str x t]) Q E s := by
  w_on
  revert X; k_fill; intro X
  refine wpAny_call ?_
  k_dflt (refine' code_def0 F X T ?k6 ?k7 ?k8 ?k9 ?kB ?_ ?c2 ?c3 ?c4 ?c5; (case k6 => k_is); (case k7 => k_is); (case k8 => ktr_room); (case k9 => exact BindsTo.of_eq rfl); (case c5 => decide); (case kB => exact locs rfl); (case c2 => exact rfl); (case c3 => exact rfl); (case c4 => exact rfl))
  intro h1 F1
  dsimp only
  k_fold
  have BX := pushX (env := envX cn cs L a ccd cl) B F rfl hk
  have B1 : Below (ktrTop dp un gd cn cs L a ccd cl []) base [envX cn cs L a ccd cl] s.heap := ⟨rfl, BX.stays, BX.frames⟩
  have X1 := X.keeps F.keep
  have T1 := T.keeps F.keep
  have N1 : News s.heap s.heap.objs.size h1 [] := News.nil
  k_steps
  rename Fr s.heap _ _ _ => F1
  rename News s.heap _ _ _ => N1
  k_dflt (refine dd_raise x t hx B1 F1 X1 N1 T1 rfl ?_ hfr ?_)
  · show dp + 1 + 1 < recursionLimit
    omega
  · intro e a0 Bs h2 tk2 hfl hBs hup hns
    have hBs' : ∀ b o, s.heap.get? b = some o → b ≠ L → Bs.get? b = some o := fun b o hb hne => hBs b o hb (by simpa using hne)
    dsimp only
    refine wpAny_looks_onW rfl rfl hfl (fun h3 hh3 hu3 => ?_)
    refine wpAny_landsW hh3 (fun h4 hfl4 hu4 => ?_)
    have F4 : Fr h₀ s.heap.objs.size h4 _ := ⟨hu4.ns (hu3.ns hns), fun b o q => hfl4.1 b o (hBs' b o (F.keep b o q) (Nat.ne_of_lt (Nat.lt_of_lt_of_le (Heap.lt_size q) F.above))), Nat.le_of_lt (Nat.lt_of_le_of_lt F.above F.ns.lt)⟩
    refine wpAny_handleBy_builtin (X := "UnboundLocalError") (T := "UnboundLocalError") (b := true) ule_exc ule_nt ule_self ?_
    clear F1 N1
    walk1
    refine ⟨rfl, flying_type hfl4, ?_⟩
    rw [if_pos rfl]
    refine lands hfl4 (fun h5 hfl5 hu5 => ?_)
    refine wpAny_execs_cons (wpAny_Return_some ?_)
    walk1
    obtain ⟨F5, N5⟩ := back_home F N hBs' hfl5.1 (((hup.trans hu3).trans hu4).trans hu5)
    exact hret h5 _ F5 N5
end Mine
end
section
open PySem PySem.W PyProof.Rows PySem.Calls
set_option maxRecDepth 100000
set_option maxHeartbeats 800000
namespace Mine
theorem entry_unchain : entryFor table "proto.unchain" = some Builtin.«proto.unchain» := entryFor_of_tree (by kernel_rfl)
section
variable {prog : Program} {w : World} {A : Around} {E : Value → Shared → Prop} {s : Shared} {env : Env}
theorem unchain_none {e o : Addr} {oo : Obj} {vs : Array Value} {Q : Value → Shared → Prop} (ho : s.heap.get? o = some oo) (hd : oo.data = .fields vs) (h2 : vs[2]? = some .none) (h : Q .none s) :
    wpAny (model prog w) A (runValue (.builtin "proto.unchain" ⟨[.ref e, .ref o, .ref o, .bool false], []⟩)) Q E s := by
  refine wpAny_runValue (codeAny_builtin entry_unchain ?_)
  show wpAny _ _ (do let context ← field (.ref o) 2; _) _ _ _
  refine wpAny_bind (wpAny_field ho hd h2 ?_)
  exact wpAny_pure h
/-- raise X(..) while another exception is handled -/
theorem raiseStmt_held {cls : String} (F : ExcRaiseFacts cls) {x : Sem Value} {Q : Flow → Shared → Prop} {o : Addr} (hh : A.handled = some (.ref o))
    (h : wpAny (model prog w) A x (fun v s₁ => ∃ e t, v = .ref e ∧ e ≠ o ∧ s₁.heap.get? e = some { cls := .type cls, data := .fields #[.ref t, .none, .none, .none, .bool false, .none] } ∧
      (∃ oo vs, s₁.heap.get? o = some oo ∧ oo.data = .fields vs ∧ vs[2]? = some .none) ∧
      ∀ h', (∀ b ob, b ≠ e → s₁.heap.get? b = some ob → h'.get? b = some ob) → h'.get? e = some { cls := .type cls, data := .fields #[.ref t, .none, .ref o, .none, .bool false, .none] } → E (.ref e) { s₁ with heap := h' }) E s) :
    wpAny (model prog w) A (raiseStmt env (some x) none) Q E s := by
  unfold raiseStmt
  refine wpAny_bind (wpAny_mono h (fun v s₁ h₁ => ?_) fun _ _ x => x)
  obtain ⟨e, t, rfl, hne, he, ⟨oo, vs, ho, hdo, h2⟩, hE⟩ := h₁
  obtain ⟨hp, g, d, tk, os⟩ := s₁
  have hsub := F.isExc
  have hmeta := F.plainMeta
  repeat (first | refine wpAny_loadPart he ?_ | wp_step)
  unfold raiseNew
  refine wpAny_bind (wpAny_handled ?_)
  rw [hh]
  show wpAny (model prog w) A (if ((Value.ref o : Value) != Value.ref e) = true then (do
        let _ ← holding [Value.ref e] (runValue (Code.builtin "proto.unchain" ⟨[.ref e, .ref o, .ref o, .bool false], []⟩))
        updateField e 2 (.ref o)
        throw (Value.ref e)) else throw (Value.ref e)) Q E _
  rw [if_pos (by simp [Ne.symm hne])]
  refine wpAny_bind (wpAny_holding (unchain_none ho hdo h2 ?_))
  have hset : ∀ {Q' : Unit → Shared → Prop}, Q' () ⟨hp.update e (Obj.mapFields (·.setIfInBounds 2 (.ref o))), g, d, tk, os⟩ → wpAny (model prog w) A (updateField e 2 (.ref o)) Q' E ⟨hp, g, d, tk, os⟩ := fun hq => by
    have := wpAny_setField (M := model prog w) (A := A) (E := E) (i := 2) (x := .ref o) he rfl (by simp) hq
    exact this
  refine wpAny_bind (hset ?_)
  refine wpAny_throw (hE _ (fun b ob hb hob => ?_) ?_)
  · rw [Heap.get?_update_other _ _ (Ne.symm hb)]; exact hob
  · exact Heap.get?_update_self _ he (by rfl)
theorem Raise_held {cls newId initId : String} (FC : ExcCallFacts cls newId initId) (FR : ExcRaiseFacts cls) {x : Str} {np cpos pos : Pos} {e₀ : Expr} {rest : List Expr} {Q : Flow → Shared → Prop} {o : Addr} (hh : A.handled = some (.ref o))
    (h : wpAny (model prog w) A (eval (.Name x np) env) (fun f s₁ => f = .type cls ∧ wpAny (model prog w) A (spliced (backTo cpos (starEach (e₀ :: rest) env)))
      (fun vs s₂ => vs.length ≤ sizeLine ∧ (∃ oo ws, s₂.heap.get? o = some oo ∧ oo.data = .fields ws ∧ ws[2]? = some .none) ∧ ∀ h' e, Heap.NewExcOf s₂.heap h' e cls → E (.ref e) { s₂ with heap := h' }) E s₁) E s)
    (he : starEach (e₀ :: rest) env = (false, eval e₀ env) :: starEach rest env := by rfl) (hplain : (backTo cpos (starEach rest env)).any (·.1) = false := by rfl) :
    wpAny (model prog w) A (exec (.Raise (some (.Call (.Name x np) (e₀ :: rest) [] cpos)) none pos) env) Q E s := by
  rw [arm_exec_Raise]
  have hpl : (backTo cpos (starEach (e₀ :: rest) env)).any (·.1) = false := by rw [he]; show (false || (backTo cpos (starEach rest env)).any (·.1)) = false; rw [hplain]; rfl
  have main : wpAny (model prog w) A (eval (.Call (.Name x np) (e₀ :: rest) [] cpos) env) (fun v s₁ => ∃ e t, v = .ref e ∧ e ≠ o ∧ s₁.heap.get? e = some { cls := .type cls, data := .fields #[.ref t, .none, .none, .none, .bool false, .none] } ∧
      (∃ oo vs, s₁.heap.get? o = some oo ∧ oo.data = .fields vs ∧ vs[2]? = some .none) ∧
      ∀ h', (∀ b ob, b ≠ e → s₁.heap.get? b = some ob → h'.get? b = some ob) → h'.get? e = some { cls := .type cls, data := .fields #[.ref t, .none, .ref o, .none, .bool false, .none] } → E (.ref e) { s₁ with heap := h' }) E s := by
    refine wpAny_Call_ofName (wpAny_mono h (fun f s₁ h₁ => ?_) fun _ _ x => x)
    obtain ⟨rfl, h₁⟩ := h₁
    refine callWith_excType hpl ?_
    have h₂ := h₁
    rw [he] at h₂ ⊢
    refine Calls.evalArgs_plain (wpAny_mono h₂ (fun vs s₂ h₃ => ?_) fun _ _ y => y)
    obtain ⟨hlen, ⟨oo, ws, ho, hdo, hw⟩, hE⟩ := h₃
    obtain ⟨hp, g, d, tk, os⟩ := s₂
    refine wpAny_call_exc FC (hrest := hlen) fun h' e hm => ?_
    obtain ⟨t, ht, _, _⟩ := hm.there
    have hne : e ≠ o := fun q => by have := hm.new; rw [q] at this; rw [this] at ho; cases ho
    refine ⟨e, t, rfl, hne, ht, ⟨oo, ws, hm.keeps _ _ ho, hdo, hw⟩, fun h'' hk hx => hE h'' e ⟨fun b ob hb => hk b ob (fun q => by rw [q, hm.new] at hb; cases hb) (hm.keeps b ob hb), hm.new, _, _, hx, rfl, rfl, rfl⟩⟩
  first
    | exact wpAny_bind (wpAny_standAt (raiseStmt_held FR hh (wpAny_bind (wpAny_mono main (fun v s₁ h₁ => wpAny_bind (wpAny_standAt (wpAny_pure h₁))) fun _ _ x => x))))
    | (simp only [evalOpt, Option.map]; exact wpAny_bind (wpAny_standAt (raiseStmt_held FR hh (wpAny_bind (wpAny_mono main (fun v s₁ h₁ => wpAny_bind (wpAny_standAt (wpAny_pure h₁))) fun _ _ x => x)))))
end
end Mine
end
section
open PySem PySem.W PyProof.Rows PySem.Calls
set_option maxRecDepth 100000
set_option maxHeartbeats 800000
namespace Mine
section
variable {prog : Program} {w : World} {A : Around} {E : Value → Shared → Prop} {s : Shared}
theorem newExc_trans {h₁ h₂ h₃ : Heap} {e₁ e : Addr} {c₁ cls : String} (x : Heap.NewExc h₁ h₂ e₁ c₁) (y : Heap.NewExc h₂ h₃ e cls) : Heap.NewExc h₁ h₃ e cls :=
  ⟨fun b o hb => y.keeps b o (x.keeps b o hb), fresh_of_stays x.keeps y.new, y.there⟩
theorem in_noniter {c x : Value} {T : String} {Q : Value → Shared → Prop} (hT : ∀ s : Shared, s.TypeIs c T) (hstd : stdlibNamesSay? c x = none)
    (h1 : typeLookup (.type T) "__contains__" = pure none) (h2 : typeLookup (.type T) "__iter__" = pure none) (h3 : typeLookup (.type T) "__getitem__" = pure none) (hn : (shownName T).length ≤ 1000) (hb : (Value.type T == Value.type "builtin_function_or_method") = false) (hh : A.handled = none)
    (h : ∀ h' tk e, Heap.NewExc s.heap h' e "TypeError" → E (.ref e) { s with heap := h', toks := tk }) : wpAny (model prog w) A (compareOp CmpOp.In x c) Q E s := by
  show wpAny _ A (do return .bool (← contains c x)) Q E s
  refine wpAny_bind ?_
  unfold contains
  refine wpAny_holding ?_
  simp only [hstd]
  refine wpAny_bind (wpAny_specialOf (hT s) h1 ?_)
  rw [if_neg (by decide)]
  unfold callSpecialUnlessNone?
  refine wpAny_bind (wpAny_bind (wpAny_specialOf (hT s) h1 (wpAny_pure ?_)))
  refine wpAny_bind (wpAny_rule ?_)
  refine wpAny_bind ?_
  refine wpAny_tryCatch ?_
  unfold pyIter
  refine wpAny_bind (wpAny_specialOf (hT s) h2 ?_)
  refine wpAny_bind (wpAny_specialOf (hT s) h3 ?_)
  refine wpAny_bind (wpAny_rule ?_)
  have ht : isSubtype (.type "TypeError") (.type "TypeError") = pure true := by rw [isSubtype_type]; kernel_rfl
  have msg : ∀ a b : String, a.length ≤ 100 → b.length ≤ 100 → (Str.ofString (a ++ shownName T ++ b)).length ≤ sizeLine := fun a b ha hb => by
    rw [PySem.ofString_length, PySem.sizeLine_eq, String.length_append, String.length_append]; omega
  refine wpAny_bind (wpAny_typeNameOf' (hT s) hb ?_)
  refine wpAny_raiseTypeError hh (fun h₁ tk₁ e₁ hx₁ => ?_) (msg _ _ (by decide) (by decide))
  refine wpAny_bind (wpAny_isInstance (T := "TypeError") ?_ ht ?_)
  · obtain ⟨ob, t, he, hc, _⟩ := hx₁.there
    exact ⟨ob, he, hc⟩
  rw [if_pos rfl]
  refine wpAny_bind (wpAny_typeNameOf' (hT _) hb ?_)
  refine wpAny_raiseTypeError hh (fun h₂ tk₂ e₂ hx₂ => ?_) (msg _ _ (by decide) (by decide))
  exact h h₂ tk₂ e₂ (newExc_trans hx₁ hx₂)
theorem in_none {x : Str} {t : Tok} {Q : Value → Shared → Prop} (hh : A.handled = none) (h : ∀ h' tk e, Heap.NewExc s.heap h' e "TypeError" → E (.ref e) { s with heap := h', toks := tk }) :
    wpAny (model prog w) A (compareOp CmpOp.In (.str x t) .none) Q E s :=
  in_noniter (T := "NoneType") typeIs_none rfl (by rw [typeLookup_type, builtinLookup_eq_fast]; kernel_rfl) (by rw [typeLookup_type, builtinLookup_eq_fast]; kernel_rfl) (by rw [typeLookup_type, builtinLookup_eq_fast]; kernel_rfl) (by decide +kernel) rfl hh h
theorem in_int {x : Str} {t u : Tok} {k : Int} {Q : Value → Shared → Prop} (hh : A.handled = none) (h : ∀ h' tk e, Heap.NewExc s.heap h' e "TypeError" → E (.ref e) { s with heap := h', toks := tk }) :
    wpAny (model prog w) A (compareOp CmpOp.In (.str x t) (.int k u)) Q E s :=
  in_noniter (T := "int") (fun s => typeIs_int s k u) rfl (by rw [typeLookup_type, builtinLookup_eq_fast]; kernel_rfl) (by rw [typeLookup_type, builtinLookup_eq_fast]; kernel_rfl) (by rw [typeLookup_type, builtinLookup_eq_fast]; kernel_rfl) (by decide +kernel) rfl hh h
theorem slot_bytes_contains : Slot "bytes" "__contains__" "bytes.__contains__" :=
  .of (owner := "bytes") (n := "__contains__") (by rw [typeLookup_type, builtinLookup_eq_fast]; kernel_rfl) (by decide +kernel) (by decide +kernel) (by decide +kernel)
    (by first | exact .inl (by decide +kernel) | exact .inr (by decide +kernel)) (by rw [isSubtype_type]; kernel_rfl)
theorem entry_bytes_contains : entryFor table "bytes.__contains__" = some Builtin.«bytes.__contains__» := entryFor_of_tree (by kernel_rfl)
theorem args_bytes_contains (a b : Value) : argsOk "bytes.__contains__" ⟨[a, b], []⟩ := by
  unfold argsOk; rw [signature?_of (id := "bytes.__contains__") (n := ['_', '_', 's', 'n', 'i', 'a', 't', 'n', 'o', 'c', '_', '_']) (o := ['s', 'e', 't', 'y', 'b']) (by kernel_rfl) FB.owner_bytes]; kernel_rfl
theorem str_no_buffer : typeLookup (.type "str") "__buffer__" = pure none := by rw [typeLookup_type, builtinLookup_eq_fast]; kernel_rfl
theorem str_no_index : typeLookup (.type "str") "__index__" = pure none := by rw [typeLookup_type, builtinLookup_eq_fast]; kernel_rfl
theorem index_str {x : Str} {t : Tok} {Q : Int → Shared → Prop} (hh : A.handled = none) (h : ∀ h' tk e, Heap.NewExc s.heap h' e "TypeError" → E (.ref e) { s with heap := h', toks := tk }) :
    wpAny (model prog w) A (asIndex (.str x t)) Q E s := by
  unfold asIndex
  refine wpAny_bind (wpAny_of_eq (a := none) (by rfl) ?_)
  show wpAny _ A (do let r ← callSpecial? (.str x t) "__index__"; _) Q E s
  unfold callSpecial?
  refine wpAny_bind (wpAny_bind (wpAny_specialOf (typeIs_str s x t) str_no_index (wpAny_pure ?_)))
  show wpAny _ A (do let n ← typeNameOfCut 200 (.str x t); _) Q E s
  unfold typeNameOfCut shownTypeOf
  refine wpAny_bind (wpAny_bind (wpAny_bind (wpAny_typeOf (typeIs_str _ x t) ?_)))
  simp only [show (Value.type "str" == Value.type "builtin_function_or_method") = false by decide, Bool.false_eq_true, if_false]
  refine wpAny_pure ?_
  refine wpAny_of_eq (a := "str") (by rfl) ?_
  exact wpAny_raiseTypeError hh h (by decide +kernel)
theorem in_bytes {x : Str} {t u : Tok} {b : Array UInt8} {Q : Value → Shared → Prop} (hh : A.handled = none) (h : ∀ h' tk e, Heap.NewExc s.heap h' e "TypeError" → E (.ref e) { s with heap := h', toks := tk }) :
    wpAny (model prog w) A (compareOp CmpOp.In (.str x t) (.bytes b u)) Q E s := by
  refine In_slot (typeIs_bytes s b u) slot_bytes_contains (wpAny_call_entry slot_bytes_contains (typeIs_bytes s b u) entry_bytes_contains ?_ (args_bytes_contains _ _))
  show wpAny _ _ (do ret (.bool (← Builtin.Bytes.containsIn "bytes.__contains__" (.bytes b u) (.str x t)))) _ _ s
  refine wpAny_bind ?_
  unfold Builtin.Bytes.containsIn
  refine wpAny_bind (wpAny_attempt (index_str hh fun h₁ tk₁ e₁ hx₁ => ?_))
  refine wpAny_bind (wpAny_of_eq KBy.buffer_eq ?_)
  dsimp only
  refine wpAny_bind ?_
  unfold Builtin.Bytes.buffer?
  refine wpAny_bind (wpAny_specialOf (typeIs_str _ x t) str_no_buffer ?_)
  show wpAny _ _ (do let r ← specialOf (Value.str x t) (Str.ofString "__buffer__"); _) _ _ _
  refine wpAny_bind (wpAny_specialOf (typeIs_str _ x t) str_no_buffer ?_)
  refine wpAny_pure ?_
  refine wpAny_bind (wpAny_rule ?_)
  refine wpAny_bind (wpAny_typeNameOf' (typeIs_str _ x t) (by decide) ?_)
  refine wpAny_raiseTypeError hh (fun h₂ tk₂ e₂ hx₂ => ?_) (by decide +kernel)
  exact h h₂ tk₂ e₂ (newExc_trans hx₁ hx₂)
end
end Mine
end
section
open PySem PySem.W PyProof.Rows PySem.Calls
set_option maxRecDepth 100000
set_option maxHeartbeats 800000
namespace Mine
/-- a new exception whose context is not set -/
structure NewX (h h' : Heap) (e : Addr) (cls : String) : Prop where
  keeps : ∀ b o, h.get? b = some o → h'.get? b = some o
  new : h.get? e = none
  there : ∃ ob vs, h'.get? e = some ob ∧ ob.cls = .type cls ∧ ob.data = .fields vs ∧ vs[1]? = some .none ∧ vs[2]? = some .none
theorem NewX.of {h h' : Heap} {e : Addr} {cls : String} (x : NewX h h' e cls) : Heap.NewExcOf h h' e cls :=
  ⟨x.keeps, x.new, by obtain ⟨ob, vs, a, b, c, d, _⟩ := x.there; exact ⟨ob, vs, a, b, c, d⟩⟩
theorem newX_of {h h' : Heap} {e : Addr} {cls : String} (x : Heap.NewExc h h' e cls) : NewX h h' e cls :=
  ⟨x.keeps, x.new, by obtain ⟨ob, t, a, b, c⟩ := x.there; exact ⟨ob, _, a, b, c, rfl, rfl⟩⟩
theorem newX_attr {h h' : Heap} {e : Addr} {o : Value} {name : Str} (x : Heap.NewAttrErr h h' e o name) : NewX h h' e "AttributeError" :=
  ⟨x.keeps, x.new, by obtain ⟨t, u, he⟩ := x.there; exact ⟨_, _, he, rfl, rfl, rfl, rfl⟩⟩
section
variable {prog : Program} {w : World} {A : Around} {E : Value → Shared → Prop} {s : Shared}
theorem attr_miss_none {name : Str} {Q : Value → Shared → Prop} (hmiss : typeLookup (.type "NoneType") name = pure none) (hA : A.handled = none)
    (h : ∀ h' tk e, NewX s.heap h' e "AttributeError" → E (.ref e) { s with heap := h', toks := tk }) (hsz : name.length + 100 ≤ sizeLine) :
    wpAny (model prog w) A (getAttr (.none) name) Q E s := by
  obtain ⟨hp, g, d, tk, os⟩ := s
  have hT : ∀ s' : Shared, s'.TypeIs (.none) "NoneType" := fun _ => rfl
  have f1 := sub_AttributeError
  have f3 := F.slot_NoneType_getattribute.lookup
  have f4 := F.slot_NoneType_getattribute.bind (.none)
  have f5 := am_none_getattr_none
  unfold getAttr getAttrBy
  repeat (any_goals (first | assumption | ((with_reducible show wpAny _ _ (call (Value.builtin "object.__getattribute__") _ _) _ _ _); refine call_meets F.slot_NoneType_getattribute (hT _) F.entry_object_getattribute (F.args_object_getattribute_2 _ _) (meets_getattribute_miss_none name _ hmiss hsz) ⟨hA, fun h' tk' e hx => ?_⟩) | wp_step))
  obtain ⟨t', u', he⟩ := hx.there
  show wpAny _ _ (getattributeRaised _ _ _ _ _ _ _) _ _ _
  unfold getattributeRaised
  repeat (any_goals (first | assumption | wp_step))
  exact h _ _ _ (newX_attr hx)
theorem attr_miss_int {n : Int} {t : Tok} {name : Str} {Q : Value → Shared → Prop} (hmiss : typeLookup (.type "int") name = pure none) (hA : A.handled = none)
    (h : ∀ h' tk e, NewX s.heap h' e "AttributeError" → E (.ref e) { s with heap := h', toks := tk }) (hsz : name.length + 100 ≤ sizeLine) :
    wpAny (model prog w) A (getAttr (.int n t) name) Q E s := by
  obtain ⟨hp, g, d, tk, os⟩ := s
  have hT : ∀ s' : Shared, s'.TypeIs (.int n t) "int" := fun _ => rfl
  have f1 := sub_AttributeError
  have f3 := F.slot_int_getattribute.lookup
  have f4 := F.slot_int_getattribute.bind (.int n t)
  have f5 := am_int_getattr_none
  unfold getAttr getAttrBy
  repeat (any_goals (first | assumption | ((with_reducible show wpAny _ _ (call (Value.builtin "int.__getattribute__") _ _) _ _ _); refine call_meets F.slot_int_getattribute (hT _) am_entry_int_getattribute (F.args_int_getattribute_2 _ _) (meets_getattribute_miss_int n t name _ hmiss hsz) ⟨hA, fun h' tk' e hx => ?_⟩) | wp_step))
  obtain ⟨t', u', he⟩ := hx.there
  show wpAny _ _ (getattributeRaised _ _ _ _ _ _ _) _ _ _
  unfold getattributeRaised
  repeat (any_goals (first | assumption | wp_step))
  exact h _ _ _ (newX_attr hx)
theorem attr_miss_list {a : Addr} {xs : Array Value} {k : Nat} {name : Str} {Q : Value → Shared → Prop}
    (hx : s.heap.get? a = some (listOf xs k)) (hmiss : typeLookup (.type "list") name = pure none) (hname : (["__module__", "__name__", "__qualname__", "__doc__", "__annotations__"] : List Str).contains name = false) (hA : A.handled = none)
    (h : ∀ h' tk e, NewX s.heap h' e "AttributeError" → E (.ref e) { s with heap := h', toks := tk }) (hsz : name.length + 100 ≤ sizeLine) :
    wpAny (model prog w) A (getAttr (.ref a) name) Q E s := by
  obtain ⟨hp, g, d, tk, os⟩ := s
  have hT : ∀ tk', (⟨hp, g, d, tk', os⟩ : Shared).TypeIs (.ref a) "list" := fun _ => ⟨_, hx, rfl⟩
  have f1 := sub_AttributeError
  have f3 := F.slot_list_getattribute.lookup
  have f4 := F.slot_list_getattribute.bind (.ref a)
  have f5 := am_list_getattr_none
  unfold getAttr getAttrBy
  repeat (any_goals (first | assumption | exact hT _ | ((with_reducible show wpAny _ _ (call (Value.builtin "list.__getattribute__") _ _) _ _ _); refine call_meets F.slot_list_getattribute (hT _) am_entry_list_getattribute (F.args_list_getattribute_2 _ _) (meets_getattribute_miss_list a xs k #[] name _ hmiss hname hsz) ⟨hx, hA, fun h' tk' e hx' => ?_⟩) | wp_step))
  obtain ⟨t', u', he⟩ := hx'.there
  show wpAny _ _ (getattributeRaised _ _ _ _ _ _ _) _ _ _
  unfold getattributeRaised
  repeat (any_goals (first | assumption | wp_step))
  exact h _ _ _ (newX_attr hx')
/-- a method that is not there -/
theorem method_miss {obj : Value} {T ga : String} {name : Str} {pl : Sem Bool} {Q : Value × List Value → Shared → Prop} (hT : s.TypeIs obj T) (h1 : typeLookup (.type T) "__getattribute__" = pure (some (.builtin ga))) (hc : (Manifest.canonical ga != "object.__getattribute__") = false)
    (h2 : typeLookup (.type T) "__getattr__" = pure none) (h3 : typeLookup (.type T) name = pure none) (h : wpAny (model prog w) A (getAttr obj name) (fun v s' => Q (v, []) s') E s) :
    wpAny (model prog w) A (getMethod obj name pl) Q E s := by
  unfold getMethod
  refine wpAny_bind (wpAny_specialOf hT h1 ?_)
  simp only [hc, Bool.false_eq_true, if_false]
  refine wpAny_bind (wpAny_specialOf hT h2 ?_)
  simp only [Option.isSome_none, Bool.false_eq_true, if_false]
  refine wpAny_bind (wpAny_specialOf hT h3 ?_)
  exact wpAny_bind (wpAny_mono h (fun v s' q => wpAny_pure q) fun _ _ x => x)
end
end Mine
end
section
open PySem PySem.W PyProof.Rows PySem.Calls
set_option maxRecDepth 100000
set_option maxHeartbeats 800000
namespace Mine
section
variable {prog : Program} {w : World} {A : Around} {E : Value → Shared → Prop} {s : Shared}
theorem slot_bytes_repr : Slot "bytes" "__repr__" "bytes.__repr__" :=
  .of (owner := "bytes") (n := "__repr__") (by rw [typeLookup_type, builtinLookup_eq_fast]; kernel_rfl) (by decide +kernel) (by decide +kernel) (by decide +kernel)
    (by first | exact .inl (by decide +kernel) | exact .inr (by decide +kernel)) (by rw [isSubtype_type]; kernel_rfl)
theorem entry_bytes_repr : entryFor table "bytes.__repr__" = some Builtin.«bytes.__repr__» := entryFor_of_tree (by kernel_rfl)
theorem args_bytes_repr (a : Value) : argsOk "bytes.__repr__" ⟨[a], []⟩ := by
  unfold argsOk; rw [signature?_of (id := "bytes.__repr__") (n := ['_', '_', 'r', 'p', 'e', 'r', '_', '_']) (o := ['s', 'e', 't', 'y', 'b']) (by kernel_rfl) FB.owner_bytes]; kernel_rfl
theorem repr_bytes {t : Tok} {Q : Value → Shared → Prop} (h : ∀ x, x.length ≤ 10 → Q (.str x s.toks) { s with toks := s.toks + 1 }) : wpAny (model prog w) A (pyReprObj (.bytes #[97, 38] t)) Q E s :=
  wpAny_pyReprObj_gives (x := Builtin.Bytes.literal #[97, 38] false) (typeIs_bytes s _ t) slot_bytes_repr entry_bytes_repr (args_bytes_repr _) (.of_eq (by rfl)) (h _ (by decide +kernel)) (hx := by decide +kernel)
theorem repr_list {a : Addr} {n : Nat} {u : Tok} {Q : Value → Shared → Prop} (ho : s.heap.get? a = some (listOf #[.str (Str.ofString "&") u] n)) (hg : A.guards = some []) (hu : A.units + 8 < cLine)
    (h : ∀ x h' tk t, x.length ≤ 10 → (∀ b o, s.heap.get? b = some o → h'.get? b = some o) → Q (.str x t) { s with heap := h', toks := tk }) : wpAny (model prog w) A (pyReprObj (.ref a)) Q E s :=
  pyReprObj_of_reads (d := .list [.str (Str.ofString "&")]) (Reads.list ho rfl rfl (.cons (.str _ _) .nil)) (by decide +kernel) (by intro q; exact absurd q (by decide +kernel)) hg (Nat.lt_of_le_of_lt (Nat.add_le_add_left (by decide +kernel) _) hu) (fun _ _ e => e)
    (fun h' u' tk hk => h _ h' tk u' (by decide +kernel) hk) (by decide +kernel)
end
end Mine
end
section
open PySem PySem.W PyProof.Rows PySem.Calls
set_option maxRecDepth 100000
set_option maxHeartbeats 800000
namespace Mine
local macro_rules | `(tactic| k_room) => `(tactic| ktr_room)
local macro_rules | `(tactic| k_units) => `(tactic| ktr_units)
section
variable {prog : Program} {w : World} {A : Around} {E : Value → Shared → Prop} {s : Shared} {env : Env}
/-- what stands behind the arguments of the raise -/
def AtRaise (E : Value → Shared → Prop) (o : Addr) (vs : List Value) (s₂ : Shared) : Prop :=
  vs.length ≤ sizeLine ∧ (∃ oo ws, s₂.heap.get? o = some oo ∧ oo.data = .fields ws ∧ ws[2]? = some .none) ∧ ∀ h' e, Heap.NewExcOf s₂.heap h' e "TypeError" → E (.ref e) { s₂ with heap := h' }
theorem AtRaise.one {o : Addr} {v : Value} {oo : Obj} {ws : Array Value} (ho : s.heap.get? o = some oo) (hd : oo.data = .fields ws) (h2 : ws[2]? = some .none) (h : ∀ h' e, Heap.NewExcOf s.heap h' e "TypeError" → E (.ref e) { s with heap := h' }) : AtRaise E o [v] s :=
  ⟨by rw [PySem.sizeLine_eq]; show 1 ≤ _; decide, ⟨oo, ws, ho, hd, h2⟩, h⟩
theorem Raise_held2 {newId initId : String} (FC : ExcCallFacts "TypeError" newId initId) (FR : ExcRaiseFacts "TypeError") {x : Str} {np cpos pos : Pos} {e₀ : Expr} {rest : List Expr} {Q : Flow → Shared → Prop} {o : Addr} (hh : A.handled = some (.ref o))
    (h : wpAny (model prog w) A (eval (.Name x np) env) (fun f s₁ => f = .type "TypeError" ∧ wpAny (model prog w) A (spliced (backTo cpos (starEach (e₀ :: rest) env))) (AtRaise E o) E s₁) E s)
    (he : starEach (e₀ :: rest) env = (false, eval e₀ env) :: starEach rest env := by rfl) (hplain : (backTo cpos (starEach rest env)).any (·.1) = false := by rfl) :
    wpAny (model prog w) A (exec (.Raise (some (.Call (.Name x np) (e₀ :: rest) [] cpos)) none pos) env) Q E s := Raise_held FC FR hh h he hplain
end
/-- leave_call, with the ledger -/
theorem leave_callN {M : Model} {A A' : Around} {E : Value → Shared → Prop} {s : Shared} {base h₀ g h : Heap} {env env1 : Env} {outer : List Env} {L L1 e : Addr} {m m1 : Str → Option Value} {cls : String} {Q : Unit → Shared → Prop} {news : List (Addr × Obj)}
    (B1 : Below A' base (env :: outer) g) (hA : A.frames = some (env1 :: env :: outer)) (hf : env.frame = some L) (hf1 : env1.frame = some L1) (hk1 : env1.scope.kind = .function) (hab : h₀.objs.size ≤ L)
    (FG : Fr h₀ L g m) (F1 : Fr g L1 h m1) (N1 : News g L1 h news) (hx : Heap.NewExcOf h s.heap e cls)
    (hQ : ∀ h' a0 Bs, Heap.FlyingW Bs (env :: outer) e (.type cls) a0 h' → (∀ b o, h₀.get? b = some o → b ∉ outer.filterMap (·.frame) → Bs.get? b = some o) → (∀ p ∈ news, Bs.get? p.1 = some p.2) → h₀.UpToSlots h' → h'.Ns L m → Q () { s with heap := h' }) :
    wpAny M A (leaving env1 (.ref e)) Q E s := by
  have B2 := pushX B1 F1 hf1 hk1
  have hin : ∀ en ∈ (env1 :: env :: outer), ∀ b, en.frame = some b → b ∈ (env1 :: env :: outer).filterMap (·.frame) := fun en he b hb => List.mem_filterMap.mpr ⟨en, he, hb⟩
  refine leave_first (base := hideAll h ((env1 :: env :: outer).filterMap (·.frame))) hA hf1 (fun b o q => of_hideAll _ q) (funFrames_hide B2.frames hin) hx fun h' a0 hfl hsm => ?_
  refine hQ h' a0 _ hfl (fun b o hb hnb => hideAll_get _ (F1.keep b o (FG.keep b o hb)) fun hm => ?_) (fun p hp => hideAll_get _ (N1 p hp).1 fun hm => ?_) (fun b o hb hnf => ?_) ?_
  · obtain ⟨en, he, hfb⟩ := List.mem_filterMap.mp hm
    rcases List.mem_cons.mp he with rfl | he
    · have e1 : L1 = b := Option.some.inj (hf1.symm.trans hfb)
      have h1 := Heap.lt_size (FG.keep b o hb)
      rw [← e1] at h1
      exact absurd h1 (Nat.not_lt.mpr F1.above)
    · rcases List.mem_cons.mp he with rfl | he
      · have e1 : L = b := Option.some.inj (hf.symm.trans hfb)
        have h1 := Heap.lt_size hb
        rw [← e1] at h1
        exact absurd h1 (Nat.not_lt.mpr hab)
      · exact hnb (List.mem_filterMap.mpr ⟨en, he, hfb⟩)
  · obtain ⟨en, he, hfb⟩ := List.mem_filterMap.mp hm
    rcases List.mem_cons.mp he with rfl | he
    · exact (N1 p hp).2.1 (Option.some.inj (hf1.symm.trans hfb)).symm
    · obtain ⟨o, ho, _⟩ := (B1.frames.mem (List.mem_filterMap.mpr ⟨en, he, hfb⟩)).2
      rw [(N1 p hp).2.2] at ho; cases ho
  · exact hsm b o (hx.keeps b o (F1.keep b o (FG.keep b o hb))) hnf
  · exact hsm.ns ((FG.ns.keeps F1.keep).keeps hx.keeps)
theorem rse_none {w : World} {mean : ExcName → Option Value} {mg mb : Str → Option Value} (tq : Tok)
  {dp un : Nat} {cn : Str} {cs : Scope} {a : Addr} {ccd : Value} {cl : List (Str × Addr)} {outer : List Env} {A₀ : Around} {base h₀ : Heap} {L : Addr} {m : Str → Option Value} {news : List (Addr × Obj)} {s : Shared} {Q E : Value → Shared → Prop}
  (B : Below A₀ base outer h₀) (F : Fr h₀ L s.heap m) (X : (Mine.hd.heap_39 w.params).In h₀) (N : News h₀ L s.heap news) (T : Top Mine.hd.view_39 (looseW Mine.hd.view_39 []) mean mg mb h₀) (hk : cs.kind = .function)
  (hd : dp + 5 < recursionLimit) (hu : un + 40 < cLine) {old : Addr} {oo : Obj} {ws : Array Value} (hold : (old, oo) ∈ news) (hod : oo.data = .fields ws) (how : ws[2]? = some .none)
  (hret : ∀ (e : Addr) (a0 : Value) (Bs h' : Heap) (tk' : Nat), Heap.FlyingW Bs (envX cn cs L a ccd cl :: outer) e (.type "TypeError") a0 h' → (∀ b o, h₀.get? b = some o → b ∉ outer.filterMap (·.frame) → Bs.get? b = some o) → (∀ p ∈ news, Bs.get? p.1 = some p.2) →
    h₀.UpToSlots h' → h'.Ns L m → E (.ref e) { s with heap := h', toks := tk' }) :
  wpAny (model Challenge.rw_nb0120_01.row.prog w) ((ktrTop dp un (some []) cn cs L a ccd cl outer).mark (some (.ref old))) (call (.ref 28) [.none]) Q E s := by
  w_on
  revert X; k_fill; intro X
  refine wpAny_call ?_
  k_dflt (refine' code_def B F X N T ?kA ?kF ?kK ?k6 ?k7 ?k8 ?k9 ?kB ?_ ?c2 ?c3 ?c4 ?c5; (case kA => exact rfl); (case kF => exact rfl); (case kK => assumption); (case k6 => k_is); (case k7 => k_is); (case k8 => show dp < recursionLimit; omega); (case k9 => exact BindsTo.of_eq rfl); (case c5 => decide); (case kB => exact locs rfl); (case c2 => exact rfl); (case c3 => exact rfl); (case c4 => exact rfl))
  intro g1 L1 h1 FG1 F1 N1 B1 X1 T1
  dsimp only
  k_fold
  refine wpAny_execs_cons ?_
  refine Raise_held2 PySem.F.excCall_TypeError PySem.F.excRaise_TypeError (o := old) rfl (tp_builtin (v := .type "TypeError") (by assumption) (by assumption) PyProof.Rows.Boot.«TypeError» ⟨rfl, ?_⟩)
  k_steps
  rename Fr g1 _ _ _ => F9
  rename News g1 _ _ _ => N9
  refine AtRaise.one (N9 _ hold).1 hod how fun h' e hx => ?_
  refine leave_callN B1 rfl rfl rfl rfl F.above FG1 F9 N9 hx ?_
  intro h8 a0 Bs hfl hBs hNs hup hns
  exact hret e a0 Bs h8 _ hfl hBs hNs hup hns
theorem rse_int {w : World} {mean : ExcName → Option Value} {mg mb : Str → Option Value} (tq : Tok)
  {dp un : Nat} {cn : Str} {cs : Scope} {a : Addr} {ccd : Value} {cl : List (Str × Addr)} {outer : List Env} {A₀ : Around} {base h₀ : Heap} {L : Addr} {m : Str → Option Value} {news : List (Addr × Obj)} {s : Shared} {Q E : Value → Shared → Prop}
  (B : Below A₀ base outer h₀) (F : Fr h₀ L s.heap m) (X : (Mine.hd.heap_39 w.params).In h₀) (N : News h₀ L s.heap news) (T : Top Mine.hd.view_39 (looseW Mine.hd.view_39 []) mean mg mb h₀) (hk : cs.kind = .function)
  (hd : dp + 5 < recursionLimit) (hu : un + 40 < cLine) {old : Addr} {oo : Obj} {ws : Array Value} (hold : (old, oo) ∈ news) (hod : oo.data = .fields ws) (how : ws[2]? = some .none)
  (hret : ∀ (e : Addr) (a0 : Value) (Bs h' : Heap) (tk' : Nat), Heap.FlyingW Bs (envX cn cs L a ccd cl :: outer) e (.type "TypeError") a0 h' → (∀ b o, h₀.get? b = some o → b ∉ outer.filterMap (·.frame) → Bs.get? b = some o) → (∀ p ∈ news, Bs.get? p.1 = some p.2) →
    h₀.UpToSlots h' → h'.Ns L m → E (.ref e) { s with heap := h', toks := tk' }) :
  wpAny (model Challenge.rw_nb0120_01.row.prog w) ((ktrTop dp un (some []) cn cs L a ccd cl outer).mark (some (.ref old))) (call (.ref 28) [.int 5 tq]) Q E s := by
  w_on
  revert X; k_fill; intro X
  refine wpAny_call ?_
  k_dflt (refine' code_def B F X N T ?kA ?kF ?kK ?k6 ?k7 ?k8 ?k9 ?kB ?_ ?c2 ?c3 ?c4 ?c5; (case kA => exact rfl); (case kF => exact rfl); (case kK => assumption); (case k6 => k_is); (case k7 => k_is); (case k8 => show dp < recursionLimit; omega); (case k9 => exact BindsTo.of_eq rfl); (case c5 => decide); (case kB => exact locs rfl); (case c2 => exact rfl); (case c3 => exact rfl); (case c4 => exact rfl))
  intro g1 L1 h1 FG1 F1 N1 B1 X1 T1
  dsimp only
  k_fold
  refine wpAny_execs_cons ?_
  refine Raise_held2 PySem.F.excCall_TypeError PySem.F.excRaise_TypeError (o := old) rfl (tp_builtin (v := .type "TypeError") (by assumption) (by assumption) PyProof.Rows.Boot.«TypeError» ⟨rfl, ?_⟩)
  k_steps
  rename Fr g1 _ _ _ => F9
  rename News g1 _ _ _ => N9
  refine AtRaise.one (N9 _ hold).1 hod how fun h' e hx => ?_
  refine leave_callN B1 rfl rfl rfl rfl F.above FG1 F9 N9 hx ?_
  intro h8 a0 Bs hfl hBs hNs hup hns
  exact hret e a0 Bs h8 _ hfl hBs hNs hup hns
theorem rse_bytes {w : World} {mean : ExcName → Option Value} {mg mb : Str → Option Value} (tq : Tok)
  {dp un : Nat} {cn : Str} {cs : Scope} {a : Addr} {ccd : Value} {cl : List (Str × Addr)} {outer : List Env} {A₀ : Around} {base h₀ : Heap} {L : Addr} {m : Str → Option Value} {news : List (Addr × Obj)} {s : Shared} {Q E : Value → Shared → Prop}
  (B : Below A₀ base outer h₀) (F : Fr h₀ L s.heap m) (X : (Mine.hd.heap_39 w.params).In h₀) (N : News h₀ L s.heap news) (T : Top Mine.hd.view_39 (looseW Mine.hd.view_39 []) mean mg mb h₀) (hk : cs.kind = .function)
  (hd : dp + 5 < recursionLimit) (hu : un + 40 < cLine) {old : Addr} {oo : Obj} {ws : Array Value} (hold : (old, oo) ∈ news) (hod : oo.data = .fields ws) (how : ws[2]? = some .none)
  (hret : ∀ (e : Addr) (a0 : Value) (Bs h' : Heap) (tk' : Nat), Heap.FlyingW Bs (envX cn cs L a ccd cl :: outer) e (.type "TypeError") a0 h' → (∀ b o, h₀.get? b = some o → b ∉ outer.filterMap (·.frame) → Bs.get? b = some o) → (∀ p ∈ news, Bs.get? p.1 = some p.2) →
    h₀.UpToSlots h' → h'.Ns L m → E (.ref e) { s with heap := h', toks := tk' }) :
  wpAny (model Challenge.rw_nb0120_01.row.prog w) ((ktrTop dp un (some []) cn cs L a ccd cl outer).mark (some (.ref old))) (call (.ref 28) [.bytes #[97, 38] tq]) Q E s := by
  w_on
  revert X; k_fill; intro X
  refine wpAny_call ?_
  k_dflt (refine' code_def B F X N T ?kA ?kF ?kK ?k6 ?k7 ?k8 ?k9 ?kB ?_ ?c2 ?c3 ?c4 ?c5; (case kA => exact rfl); (case kF => exact rfl); (case kK => assumption); (case k6 => k_is); (case k7 => k_is); (case k8 => show dp < recursionLimit; omega); (case k9 => exact BindsTo.of_eq rfl); (case c5 => decide); (case kB => exact locs rfl); (case c2 => exact rfl); (case c3 => exact rfl); (case c4 => exact rfl))
  intro g1 L1 h1 FG1 F1 N1 B1 X1 T1
  dsimp only
  k_fold
  refine wpAny_execs_cons ?_
  refine Raise_held2 PySem.F.excCall_TypeError PySem.F.excRaise_TypeError (o := old) rfl (tp_builtin (v := .type "TypeError") (by assumption) (by assumption) PyProof.Rows.Boot.«TypeError» ⟨rfl, ?_⟩)
  k_steps
  refine repr_bytes (fun x hxl => ?_)
  k_steps
  refine call_type_of (typeIs_bytes _ _ _) (by decide +kernel) ?_
  k_steps
  rename Fr g1 _ _ _ => F9
  rename News g1 _ _ _ => N9
  refine AtRaise.one (N9 _ hold).1 hod how fun h' e hx => ?_
  refine leave_callN B1 rfl rfl rfl rfl F.above FG1 F9 N9 hx ?_
  intro h8 a0 Bs hfl hBs hNs hup hns
  exact hret e a0 Bs h8 _ hfl hBs hNs hup hns
theorem rse_list {w : World} {mean : ExcName → Option Value} {mg mb : Str → Option Value} (tq : Tok)
  {dp un : Nat} {cn : Str} {cs : Scope} {a : Addr} {ccd : Value} {cl : List (Str × Addr)} {outer : List Env} {A₀ : Around} {base h₀ : Heap} {L : Addr} {m : Str → Option Value} {news : List (Addr × Obj)} {s : Shared} {Q E : Value → Shared → Prop}
  (B : Below A₀ base outer h₀) (F : Fr h₀ L s.heap m) (X : (Mine.hd.heap_39 w.params).In h₀) (N : News h₀ L s.heap news) (T : Top Mine.hd.view_39 (looseW Mine.hd.view_39 []) mean mg mb h₀) (hk : cs.kind = .function)
  (hd : dp + 5 < recursionLimit) (hu : un + 40 < cLine) {lq : Addr} {nq : Nat} (hq : (lq, listOf #[.str (Str.ofString "&") tq] nq) ∈ news) {old : Addr} {oo : Obj} {ws : Array Value} (hold : (old, oo) ∈ news) (hod : oo.data = .fields ws) (how : ws[2]? = some .none)
  (hret : ∀ (e : Addr) (a0 : Value) (Bs h' : Heap) (tk' : Nat), Heap.FlyingW Bs (envX cn cs L a ccd cl :: outer) e (.type "TypeError") a0 h' → (∀ b o, h₀.get? b = some o → b ∉ outer.filterMap (·.frame) → Bs.get? b = some o) → (∀ p ∈ news, Bs.get? p.1 = some p.2) →
    h₀.UpToSlots h' → h'.Ns L m → E (.ref e) { s with heap := h', toks := tk' }) :
  wpAny (model Challenge.rw_nb0120_01.row.prog w) ((ktrTop dp un (some []) cn cs L a ccd cl outer).mark (some (.ref old))) (call (.ref 28) [.ref lq]) Q E s := by
  w_on
  revert X; k_fill; intro X
  refine wpAny_call ?_
  k_dflt (refine' code_def B F X N T ?kA ?kF ?kK ?k6 ?k7 ?k8 ?k9 ?kB ?_ ?c2 ?c3 ?c4 ?c5; (case kA => exact rfl); (case kF => exact rfl); (case kK => assumption); (case k6 => k_is); (case k7 => k_is); (case k8 => show dp < recursionLimit; omega); (case k9 => exact BindsTo.of_eq rfl); (case c5 => decide); (case kB => exact locs rfl); (case c2 => exact rfl); (case c3 => exact rfl); (case c4 => exact rfl))
  intro g1 L1 h1 FG1 F1 N1 B1 X1 T1
  dsimp only
  k_fold
  refine wpAny_execs_cons ?_
  refine Raise_held2 PySem.F.excCall_TypeError PySem.F.excRaise_TypeError (o := old) rfl (tp_builtin (v := .type "TypeError") (by assumption) (by assumption) PyProof.Rows.Boot.«TypeError» ⟨rfl, ?_⟩)
  k_steps
  rename Fr g1 _ _ _ => F8
  rename News g1 _ _ _ => N8
  refine repr_list (N8 _ hq).1 rfl (by show un + 3 + 8 < cLine; omega) (fun x h' tk t hxl hkp => ?_)
  replace F8 := F8.keeps hkp
  replace N8 := N8.grown hkp
  k_steps
  rename Fr g1 _ _ _ => F9
  rename News g1 _ _ _ => N9
  refine AtRaise.one (N9 _ hold).1 hod how fun h' e hx => ?_
  refine leave_callN B1 rfl rfl rfl rfl F.above FG1 F9 N9 hx ?_
  intro h8 a0 Bs hfl hBs hNs hup hns
  exact hret e a0 Bs h8 _ hfl hBs hNs hup hns
end Mine
end
section
open PySem PySem.W PyProof.Rows PySem.Calls
set_option maxRecDepth 100000
set_option maxHeartbeats 800000
namespace Mine
/-- an exception without a context -/
def Ctx0 (h : Heap) (e : Addr) : Prop := ∃ oe vs, h.get? e = some oe ∧ oe.data = .fields vs ∧ vs[2]? = some .none
theorem Ctx0.keeps {h h' : Heap} {e : Addr} (x : Ctx0 h e) (k : ∀ b o, h.get? b = some o → h'.get? b = some o) : Ctx0 h' e := by
  obtain ⟨oe, vs, a, b⟩ := x
  exact ⟨oe, vs, k _ _ a, b⟩
section
variable {M : Model} {A : Around} {E : Value → Shared → Prop} {s : Shared}
/-- the flight is over; the context stays unset -/
theorem landsX {base : Heap} {l : List Env} {e : Addr} {cls a0 fl : Value} {Q : Unit → Shared → Prop} (f1 : base.StaysIn s.heap) (f2 : base.get? e = none) (f3 : s.heap.FunFrames base l) (f4 : s.heap.TracedAtW base e cls a0 fl) (hc : Ctx0 s.heap e)
    (hQ : ∀ h', Heap.FlyingW base l e cls a0 h' → s.heap.UpToSlots h' → Ctx0 h' e → Q () { s with heap := h' }) : wpAny M A (setFlight (.ref e) none) Q E s := by
  obtain ⟨oe, vs, T, oT, ts, he, hcls, hd, h1, hnT, hTe, hT, hdT, h3⟩ := f4
  have hlt : 3 < ts.size := (Array.getElem?_eq_some_iff.mp h3).1
  unfold setFlight
  refine wpAny_bind (wpAny_field he hd h1 ?_)
  rw [if_pos (show (Value.ref T != Value.none) = true from by simp)]
  refine wpAny_setField hT hdT hlt ?_
  have away : ∀ b, b ≠ T → (s.heap.update T (Obj.mapFields (·.setIfInBounds 3 ((none : Option Addr).elim Value.none fun f => rawInt f)))).get? b = s.heap.get? b := fun b hb => Heap.get?_update_other _ _ (Ne.symm hb)
  have nf : ∀ b o, s.heap.get? b = some o → (∀ vs, o.data ≠ .fields vs) → b ≠ T := fun b o hb hn q => by
    subst q; rw [hT] at hb; cases hb; exact hn ts hdT
  have nb : ∀ b o, base.get? b = some o → b ≠ T := fun b o hb q => by subst q; rw [hnT] at hb; cases hb
  obtain ⟨oc, vc, hce, hcd, hc2⟩ := hc
  refine hQ _ ⟨fun b o hb => (away b (nb b o hb)).trans (f1 b o hb), f2, f3.of_keeps fun b o hb hn => ⟨o, (away b (nf b o hb hn)).trans hb, rfl⟩, ?_⟩ (fun b o hb hn => ⟨o.slots, (away b (nf b o hb hn)).trans hb⟩) ⟨oc, vc, (away e (Ne.symm hTe)).trans hce, hcd, hc2⟩
  exact ⟨oe, vs, T, _, _, (away e (Ne.symm hTe)).trans he, hcls, hd, h1, hnT, hTe, Heap.get?_update_self _ hT (Obj.isFreed_of_fields (Obj.data_mapFields hdT _)), Obj.data_mapFields hdT _, by simp [hlt]⟩
/-- a new exception is noted in the frame that catches it; the context stays unset -/
theorem note_firstX {base h : Heap} {env : Env} {outer : List Env} {L e : Addr} {cls : String} {Q : Unit → Shared → Prop}
    (hfr : A.frames = some (env :: outer)) (hf : env.frame = some L) (hkb : base.StaysIn h) (hl : h.FunFrames base (env :: outer)) (hx : NewX h s.heap e cls)
    (hQ : ∀ h' a0, Heap.HeldW base (env :: outer) e (.type cls) a0 L h' → s.heap.UpToSlots h' → Ctx0 h' e → Q () { s with heap := h' }) : wpAny M A (noteFrame (.ref e) env) Q E s := by
  obtain ⟨oe, vs, he, hc, hd, h1, h2⟩ := hx.there
  obtain ⟨a0, h0⟩ := first_field h1
  have hsz : 1 < vs.size := (Array.getElem?_eq_some_iff.mp h1).1
  have hen : base.get? e = none := fresh_of_stays hkb hx.new
  have hl' : s.heap.FunFrames base (env :: outer) := hl.of_keeps fun b o hb _ => ⟨o, hx.keeps b o hb, rfl⟩
  have hkb' : base.StaysIn s.heap := fun b o hb => hx.keeps b o (hkb b o hb)
  have hnm : e ∉ (env :: outer).filterMap (·.frame) := fun hm => by
    obtain ⟨_, o, ho, hn⟩ := hl'.mem hm
    rw [he] at ho; cases ho; exact hn vs hd
  unfold noteFrame
  simp only [hf]
  refine wpAny_bind (wpAny_field he hd h1 ?_)
  rw [if_neg (by decide)]
  refine wpAny_bind (wpAny_frameOf_fun hfr hl' hf fun h₁ hs₁ => ?_)
  refine wpAny_bind (wpAny_entryPlaceOf fun pl hpl => ?_)
  unfold EntryCells.newEntry newFields
  refine wpAny_bind (wpAny_newObj_type ?_ (hpl.sizeOk5 _ _ _ _ _))
  have e1 : h₁.get? e = some oe := (hs₁.2.1 e hnm).trans he
  have b1 : base.StaysIn h₁ := fun b o hb => (hs₁.2.1 b fun hm => by rw [(hl'.mem hm).1] at hb; cases hb).trans (hkb' b o hb)
  generalize hO : ({ cls := .type "traceback", dict := none, data := .fields _ } : Obj) = O
  have e2 := Heap.get?_push_of_some (h := h₁) O e1
  refine wpAny_setField e2 hd hsz ?_
  have hne : h₁.objs.size ≠ e := Nat.ne_of_gt (Heap.lt_size e1)
  have hd3 := Obj.data_mapFields hd (·.setIfInBounds 1 (Value.ref h₁.objs.size))
  have e3 := Heap.get?_update_self (Obj.mapFields (·.setIfInBounds 1 (Value.ref h₁.objs.size))) e2 (Obj.isFreed_of_fields hd3)
  have hT : ((h₁.push O).update e (Obj.mapFields (·.setIfInBounds 1 (Value.ref h₁.objs.size)))).get? h₁.objs.size = some O := (Heap.get?_update_other _ _ (Ne.symm hne)).trans (Heap.get?_push_size h₁ (by subst hO; rfl))
  have away : ∀ b o, b ≠ e → h₁.get? b = some o → ((h₁.push O).update e (Obj.mapFields (·.setIfInBounds 1 (Value.ref h₁.objs.size)))).get? b = some o := fun b o hb hq =>
    (Heap.get?_update_other _ _ (Ne.symm hb)).trans (Heap.get?_push_of_some _ hq)
  have nf : ∀ b o, s.heap.get? b = some o → (∀ vs, o.data ≠ .fields vs) → b ≠ e := fun b o hb hn q => by
    subst q; rw [he] at hb; cases hb; exact hn vs hd
  refine hQ _ a0 ⟨fun b o hb => away b o (fun q => by subst q; rw [hen] at hb; cases hb) (b1 b o hb), hen, hl'.of_keeps fun b o hb hn => ?_, ?_⟩ (fun b o hb hn => ?_) ⟨_, _, e3, hd3, by rw [Array.getElem?_setIfInBounds_ne (by decide)]; exact h2⟩
  · obtain ⟨sl, hs⟩ := hs₁.2.2 b o hb
    exact ⟨_, away b _ (nf b o hb hn) hs, rfl⟩
  · subst hO
    exact ⟨_, _, h₁.objs.size, _, _, e3, ⟨(Obj.cls_mapFields _ _).trans hc, by rw [Array.getElem?_setIfInBounds_ne (by decide)]; exact h0⟩, hd3, by simp [hsz], b1.fresh, hne, hT, rfl, by first | (simp; done) | (rcases hpl with rfl | ⟨_, _, _, _, _, _, _, rfl⟩ <;> simp)⟩
  · obtain ⟨sl, hs⟩ := hs₁.2.2 b o hb
    exact ⟨sl, away b _ (nf b o hb hn) hs⟩
end
section
variable {prog : Program} {w : World} {A₀ : Around} {E : Value → Shared → Prop} {s : Shared} {base g G : Heap} {outer : List Env} {L a e : Addr} {m : Str → Option Value} {name : Str} {scope : Scope} {cd : Value} {cls : String}
  {b₀ : Stmt} {suite : List Stmt} {pos : Pos} {rest : List ExceptHandler} {Q : Flow → Shared → Prop} {news : List (Addr × Obj)} {KF : Frag} {tt : Expr}
  {p : Program} {loose : List Str} {mean : ExcName → Option Value} {mg mb : Str → Option Value}
/-- a new exception of the try's own body: the first clause takes it -/
theorem catchX (K : Below A₀ base outer g) (F : Fr g L G m) (N : News g L G news) (hx : NewX G s.heap e cls) (XB : KF.In base) (TB : Top p loose mean mg mb base) (hk : scope.kind = .function)
    (T : KtsTest prog w KF p loose mg mb name scope L a cd (.type cls) tt true)
    (k : ∀ h' g' oe ws, KtsTurn (outer.filterMap (·.frame)) g g' → Fr g' L h' m → News g' L h' ((e, oe) :: news) → oe.data = .fields ws → ws[2]? = some .none → Below A₀ base outer g' → KF.In g' → Top p loose mean mg mb g' →
      wpAny (model prog w) ((A₀.deeper (envOf name scope L a cd)).mark (some (.ref e))) (execs (b₀ :: suite) (envOf name scope L a cd)) Q E { s with heap := h' })
    (hE : PassesOwnAt (model prog w) ((A₀.deeper (envOf name scope L a cd)).mark (some (.ref e))) (A₀.deeper (envOf name scope L a cd)) (envOf name scope L a cd) E) :
    wpAny (model prog w) (A₀.deeper (envOf name scope L a cd)) (noteFrame (.ref e) (envOf name scope L a cd))
      (fun _ s₂ => wpAny (model prog w) (A₀.deeper (envOf name scope L a cd)) (setFlight (.ref e) none) (fun _ s₃ =>
        wpAny (model prog w) (A₀.deeper (envOf name scope L a cd)) (handleBy (.ref e) (envOf name scope L a cd) (.ExceptHandler (some tt) none (b₀ :: suite) pos :: rest)) Q E s₃) E s₂) E s := by
  have K2 := pushX (env := envOf name scope L a cd) K F rfl hk
  have hin : ∀ en ∈ (envOf name scope L a cd :: outer), ∀ b, en.frame = some b → b ∈ (envOf name scope L a cd :: outer).filterMap (·.frame) := fun en he b hb => List.mem_filterMap.mpr ⟨en, he, hb⟩
  have hBG : ∀ b o, G.get? b = some o → b ∉ (envOf name scope L a cd :: outer).filterMap (·.frame) → (hideAll G ((envOf name scope L a cd :: outer).filterMap (·.frame))).get? b = some o := fun b o q n => hideAll_get _ q n
  have hsm0 : G.UpToSlots s.heap := Heap.UpToSlots.of_keeps hx.keeps
  refine note_firstX (base := hideAll G ((envOf name scope L a cd :: outer).filterMap (·.frame))) (Around.frames_deeper K.stack) rfl (fun b o q => of_hideAll _ q) (funFrames_hide K2.frames hin) hx fun h₄ a0 hh₄ hs₄ hc₄ => ?_
  refine landsX hh₄.1 hh₄.2.1 hh₄.2.2.1 hh₄.2.2.2 hc₄ fun h₅ hf₅ hs₅ hc₅ => ?_
  obtain ⟨g₅, T₅, F₅, K₅⟩ := kts_ground K F hBG hf₅.1 ((hsm0.trans hs₄).trans hs₅)
  have hty : Looks (model prog w) h₅ (typeOf (.ref e)) (.type cls) := by
    obtain ⟨ob, hob, hc⟩ := hf₅.there
    rw [← hc]
    exact (Looks.ld hob).andThen .now
  refine wpAny_handleBy_cons (codeAny_handlers_test (T _ _ _ _ g₅ e m F₅ (XB.keeps K₅.stays) (topRead_of (TB.keeps K₅.stays)) hty fun h₆ kp => ?_)) (by intro q; cases q)
  refine codeAny_handlers_suite ?_
  have hf₆ := flying_keeps hf₅ kp
  refine landsX hf₆.1 hf₆.2.1 hf₆.2.2.1 hf₆.2.2.2.at (hc₅.keeps kp) fun h₇ hf₇ hs₇ hc₇ => ?_
  have hsm7 : G.UpToSlots h₇ := (((hsm0.trans hs₄).trans hs₅).trans (Heap.UpToSlots.of_keeps kp)).trans hs₇
  obtain ⟨g₇, T₇, F₇, K₇⟩ := kts_ground K F hBG hf₇.1 hsm7
  obtain ⟨oe, ws, hoe, hod, how⟩ := hc₇
  have hgn : ∀ b, G.get? b = none → g₇.get? b = none := fun b hb => T₇.none_ b (by
    cases q : g.get? b with
    | none => rfl
    | some o => rw [F.keep b o q] at hb; cases hb)
  have N₇ : News g₇ L h₇ news := fun q hq => by
    obtain ⟨n1, n2, n3⟩ := N q hq
    refine ⟨hf₇.1 _ _ (hBG _ _ n1 fun hm => ?_), n2, T₇.none_ _ n3⟩
    obtain ⟨env, he, hf⟩ := List.mem_filterMap.mp hm
    rcases List.mem_cons.mp he with rfl | he
    · exact n2 (Option.some.inj hf).symm
    · obtain ⟨o, ho, _⟩ := (K.frames.mem (List.mem_filterMap.mpr ⟨env, he, hf⟩)).2
      rw [n3] at ho; cases ho
  refine wpAny_passesOwnAt hE (k h₇ g₇ oe ws T₇ F₇ (News.more F₇ N₇ hoe (fun es n q => by rw [hod] at q; cases q) (hgn e hx.new)) hod how K₇ (XB.keeps K₇.stays) (TB.keeps K₇.stays))
end
end Mine
end
section
open PySem PySem.W PyProof.Rows PySem.Calls
set_option maxRecDepth 100000
set_option maxHeartbeats 800000
namespace Mine
/-- an exception of a deeper call leaves this call too -/
theorem out_call {M : Model} {A : Around} {E : Value → Shared → Prop} {s : Shared} {h₀ g1 g3 Bs : Heap} {env env1 : Env} {outer : List Env} {L L1 e : Addr} {m : Str → Option Value} {cls a0 : Value} {Q : Unit → Shared → Prop}
    (FG : Fr h₀ L g1 m) (T3 : KtsTurn ((env :: outer).filterMap (·.frame)) g1 g3) (hf : env.frame = some L) (hA : A.frames = some (env1 :: env :: outer)) (hf1 : env1.frame = some L1)
    (hfl : Heap.FlyingW Bs (env1 :: env :: outer) e cls a0 s.heap) (hBs : ∀ b o, g3.get? b = some o → b ∉ (env :: outer).filterMap (·.frame) → Bs.get? b = some o) (hup : g3.UpToSlots s.heap)
    (hQ : ∀ h', Heap.FlyingW Bs (env :: outer) e cls a0 h' → (∀ b o, h₀.get? b = some o → b ∉ outer.filterMap (·.frame) → Bs.get? b = some o) → h₀.UpToSlots h' → h'.Ns L m → Q () { s with heap := h' }) :
    wpAny M A (leaving env1 (.ref e)) Q E s := by
  refine wpAny_leaves_onW hA hf1 hfl (fun h5 hfl5 hu5 => ?_)
  have hu13 : g1.UpToSlots g3 := fun b o q _ => T3.up q
  have hu := (hu13.trans hup).trans hu5
  refine hQ h5 hfl5 (fun b o hb hnb => ?_) ((Heap.UpToSlots.of_keeps FG.keep).trans hu) (hu.ns FG.ns)
  have hn : b ∉ (env :: outer).filterMap (·.frame) := fun hm => by
    obtain ⟨en, he, hfb⟩ := List.mem_filterMap.mp hm
    rcases List.mem_cons.mp he with rfl | he
    · have e1 : L = b := Option.some.inj (hf.symm.trans hfb)
      have h1 := Heap.lt_size hb
      rw [← e1] at h1
      exact absurd h1 (Nat.not_lt.mpr FG.above)
    · exact hnb (List.mem_filterMap.mpr ⟨en, he, hfb⟩)
  exact hBs b o (T3.other b o (FG.keep b o hb) hn) hn
/-- a list has no replace -/
theorem list_miss {prog : Program} {w : World} {A : Around} {E : Value → Shared → Prop} {s : Shared} {l : Addr} {xs : Array Value} {k : Nat} {pl : Sem Bool} {Q : Value × List Value → Shared → Prop} (ho : s.heap.get? l = some (listOf xs k)) (hA : A.handled = none)
    (h : ∀ h' tk e, NewX s.heap h' e "AttributeError" → E (.ref e) { s with heap := h', toks := tk }) : wpAny (model prog w) A (getMethod (.ref l) (Str.ofString "replace") pl) Q E s := by
  have hno : typeLookup (.type "list") (Str.ofString "replace") = pure none := by rw [typeLookup_type, builtinLookup_eq_fast]; kernel_rfl
  refine method_miss (T := "list") ⟨_, ho, rfl⟩ PySem.F.slot_list_getattribute.lookup (by decide +kernel) am_list_getattr_none hno ?_
  exact attr_miss_list ho hno (by decide +kernel) hA h (by rw [PySem.sizeLine_eq]; decide +kernel)
theorem esc0_none {w : World} {mean : ExcName → Option Value} {mg mb : Str → Option Value} (tq : Tok)
  {dp un : Nat} {cn : Str} {cs : Scope} {a : Addr} {ccd : Value} {cl : List (Str × Addr)} {outer : List Env} {A₀ : Around} {base h₀ : Heap} {L : Addr} {m : Str → Option Value} {s : Shared} {Q E : Value → Shared → Prop}
  (B : Below A₀ base outer h₀) (F : Fr h₀ L s.heap m) (X : (Mine.hd.heap_39 w.params).In h₀) (N : News h₀ L s.heap []) (T : Top Mine.hd.view_39 (looseW Mine.hd.view_39 []) mean mg mb h₀) (hk : cs.kind = .function)
  (XB : (Mine.hd.heap_39 w.params).In base) (TB : Top Mine.hd.view_39 (looseW Mine.hd.view_39 []) mean mg mb base) (hd : dp + 7 < recursionLimit) (hu : un + 60 < cLine)
  (hret : ∀ (e : Addr) (a0 : Value) (Bs h' : Heap) (tk' : Nat), Heap.FlyingW Bs (envX cn cs L a ccd cl :: outer) e (.type "TypeError") a0 h' → (∀ b o, h₀.get? b = some o → b ∉ outer.filterMap (·.frame) → Bs.get? b = some o) → (∀ p ∈ ([] : List (Addr × Obj)), Bs.get? p.1 = some p.2) →
    h₀.UpToSlots h' → h'.Ns L m → E (.ref e) { s with heap := h', toks := tk' }) :
  wpAny (model Challenge.rw_nb0120_01.row.prog w) (ktrTop dp un (some []) cn cs L a ccd cl outer) (call (.ref 35) [.none]) Q E s := by
  w_on
  revert X; k_fill; intro X
  refine wpAny_call ?_
  k_dflt (refine' code_def B F X N T ?kA ?kF ?kK ?k6 ?k7 ?k8 ?k9 ?kB ?_ ?c2 ?c3 ?c4 ?c5; (case kA => exact rfl); (case kF => exact rfl); (case kK => assumption); (case k6 => k_is); (case k7 => k_is); (case k8 => show dp < recursionLimit; omega); (case k9 => exact BindsTo.of_eq rfl); (case c5 => decide); (case kB => exact locs rfl); (case c2 => exact rfl); (case c3 => exact rfl); (case c4 => exact rfl))
  intro g1 L1 h1 FG1 F1 N1 B1 X1 T1
  dsimp only
  refine wpAny_execs_cons ?_
  refine wpAny_Try_except ?_
  k_fold
  iterate 6 walk1
  refine in_none rfl (fun h2 tk2 e2 hx2 => ?_)
  rename Fr g1 _ _ _ => F8
  rename News g1 _ _ _ => N8
  refine catchX B1 F8 N8 (newX_of hx2) XB TB rfl ?t1 ?t2 ?t3
  case t1 => refine' test_tup2 ?n1 ?n2 ?x ?hk ?k1 ?d1 ?k2 ?d2; (case n1 => kts_nm); (case n2 => kts_nm); (case x => kts_exm); (case hk => exact rfl); (case k1 => exact rfl); (case d1 => decide); (case k2 => exact rfl); (case d2 => decide)
  case t3 => passes_own
  case t2 =>
    intro h3 g3 oe ws T3 F3 N3 hod how B3 X3 P3
    clear F8 N8
    k_steps
    rename Fr g3 _ _ _ => F9
    rename News g3 _ _ _ => N9
    k_dflt (refine rse_none tq B3 F9 X3 N9 P3 rfl ?_ ?_ (List.mem_cons_self ..) hod how ?_)
    · show dp + 1 + 5 < recursionLimit
      omega
    · show un + 3 + 40 < cLine
      omega
    · intro e4 a4 Bs h4 tk4 hfl hBs hNs hup hns
      refine out_call FG1 T3 rfl rfl rfl hfl hBs hup ?_
      intro h5 k1 k2 k3 k4
      exact hret e4 a4 Bs h5 _ k1 k2 (fun p hp => hNs p (List.mem_cons_of_mem _ hp)) k3 k4
theorem esc0_int {w : World} {mean : ExcName → Option Value} {mg mb : Str → Option Value} (tq : Tok)
  {dp un : Nat} {cn : Str} {cs : Scope} {a : Addr} {ccd : Value} {cl : List (Str × Addr)} {outer : List Env} {A₀ : Around} {base h₀ : Heap} {L : Addr} {m : Str → Option Value} {s : Shared} {Q E : Value → Shared → Prop}
  (B : Below A₀ base outer h₀) (F : Fr h₀ L s.heap m) (X : (Mine.hd.heap_39 w.params).In h₀) (N : News h₀ L s.heap []) (T : Top Mine.hd.view_39 (looseW Mine.hd.view_39 []) mean mg mb h₀) (hk : cs.kind = .function)
  (XB : (Mine.hd.heap_39 w.params).In base) (TB : Top Mine.hd.view_39 (looseW Mine.hd.view_39 []) mean mg mb base) (hd : dp + 7 < recursionLimit) (hu : un + 60 < cLine)
  (hret : ∀ (e : Addr) (a0 : Value) (Bs h' : Heap) (tk' : Nat), Heap.FlyingW Bs (envX cn cs L a ccd cl :: outer) e (.type "TypeError") a0 h' → (∀ b o, h₀.get? b = some o → b ∉ outer.filterMap (·.frame) → Bs.get? b = some o) → (∀ p ∈ ([] : List (Addr × Obj)), Bs.get? p.1 = some p.2) →
    h₀.UpToSlots h' → h'.Ns L m → E (.ref e) { s with heap := h', toks := tk' }) :
  wpAny (model Challenge.rw_nb0120_01.row.prog w) (ktrTop dp un (some []) cn cs L a ccd cl outer) (call (.ref 35) [.int 5 tq]) Q E s := by
  w_on
  revert X; k_fill; intro X
  refine wpAny_call ?_
  k_dflt (refine' code_def B F X N T ?kA ?kF ?kK ?k6 ?k7 ?k8 ?k9 ?kB ?_ ?c2 ?c3 ?c4 ?c5; (case kA => exact rfl); (case kF => exact rfl); (case kK => assumption); (case k6 => k_is); (case k7 => k_is); (case k8 => show dp < recursionLimit; omega); (case k9 => exact BindsTo.of_eq rfl); (case c5 => decide); (case kB => exact locs rfl); (case c2 => exact rfl); (case c3 => exact rfl); (case c4 => exact rfl))
  intro g1 L1 h1 FG1 F1 N1 B1 X1 T1
  dsimp only
  refine wpAny_execs_cons ?_
  refine wpAny_Try_except ?_
  k_fold
  iterate 6 walk1
  refine in_int rfl (fun h2 tk2 e2 hx2 => ?_)
  rename Fr g1 _ _ _ => F8
  rename News g1 _ _ _ => N8
  refine catchX B1 F8 N8 (newX_of hx2) XB TB rfl ?t1 ?t2 ?t3
  case t1 => refine' test_tup2 ?n1 ?n2 ?x ?hk ?k1 ?d1 ?k2 ?d2; (case n1 => kts_nm); (case n2 => kts_nm); (case x => kts_exm); (case hk => exact rfl); (case k1 => exact rfl); (case d1 => decide); (case k2 => exact rfl); (case d2 => decide)
  case t3 => passes_own
  case t2 =>
    intro h3 g3 oe ws T3 F3 N3 hod how B3 X3 P3
    clear F8 N8
    k_steps
    rename Fr g3 _ _ _ => F9
    rename News g3 _ _ _ => N9
    k_dflt (refine rse_int tq B3 F9 X3 N9 P3 rfl ?_ ?_ (List.mem_cons_self ..) hod how ?_)
    · show dp + 1 + 5 < recursionLimit
      omega
    · show un + 3 + 40 < cLine
      omega
    · intro e4 a4 Bs h4 tk4 hfl hBs hNs hup hns
      refine out_call FG1 T3 rfl rfl rfl hfl hBs hup ?_
      intro h5 k1 k2 k3 k4
      exact hret e4 a4 Bs h5 _ k1 k2 (fun p hp => hNs p (List.mem_cons_of_mem _ hp)) k3 k4
theorem esc0_bytes {w : World} {mean : ExcName → Option Value} {mg mb : Str → Option Value} (tq : Tok)
  {dp un : Nat} {cn : Str} {cs : Scope} {a : Addr} {ccd : Value} {cl : List (Str × Addr)} {outer : List Env} {A₀ : Around} {base h₀ : Heap} {L : Addr} {m : Str → Option Value} {s : Shared} {Q E : Value → Shared → Prop}
  (B : Below A₀ base outer h₀) (F : Fr h₀ L s.heap m) (X : (Mine.hd.heap_39 w.params).In h₀) (N : News h₀ L s.heap []) (T : Top Mine.hd.view_39 (looseW Mine.hd.view_39 []) mean mg mb h₀) (hk : cs.kind = .function)
  (XB : (Mine.hd.heap_39 w.params).In base) (TB : Top Mine.hd.view_39 (looseW Mine.hd.view_39 []) mean mg mb base) (hd : dp + 7 < recursionLimit) (hu : un + 60 < cLine)
  (hret : ∀ (e : Addr) (a0 : Value) (Bs h' : Heap) (tk' : Nat), Heap.FlyingW Bs (envX cn cs L a ccd cl :: outer) e (.type "TypeError") a0 h' → (∀ b o, h₀.get? b = some o → b ∉ outer.filterMap (·.frame) → Bs.get? b = some o) → (∀ p ∈ ([] : List (Addr × Obj)), Bs.get? p.1 = some p.2) →
    h₀.UpToSlots h' → h'.Ns L m → E (.ref e) { s with heap := h', toks := tk' }) :
  wpAny (model Challenge.rw_nb0120_01.row.prog w) (ktrTop dp un (some []) cn cs L a ccd cl outer) (call (.ref 35) [.bytes #[97, 38] tq]) Q E s := by
  w_on
  revert X; k_fill; intro X
  refine wpAny_call ?_
  k_dflt (refine' code_def B F X N T ?kA ?kF ?kK ?k6 ?k7 ?k8 ?k9 ?kB ?_ ?c2 ?c3 ?c4 ?c5; (case kA => exact rfl); (case kF => exact rfl); (case kK => assumption); (case k6 => k_is); (case k7 => k_is); (case k8 => show dp < recursionLimit; omega); (case k9 => exact BindsTo.of_eq rfl); (case c5 => decide); (case kB => exact locs rfl); (case c2 => exact rfl); (case c3 => exact rfl); (case c4 => exact rfl))
  intro g1 L1 h1 FG1 F1 N1 B1 X1 T1
  dsimp only
  refine wpAny_execs_cons ?_
  refine wpAny_Try_except ?_
  k_fold
  iterate 6 walk1
  refine in_bytes rfl (fun h2 tk2 e2 hx2 => ?_)
  rename Fr g1 _ _ _ => F8
  rename News g1 _ _ _ => N8
  refine catchX B1 F8 N8 (newX_of hx2) XB TB rfl ?t1 ?t2 ?t3
  case t1 => refine' test_tup2 ?n1 ?n2 ?x ?hk ?k1 ?d1 ?k2 ?d2; (case n1 => kts_nm); (case n2 => kts_nm); (case x => kts_exm); (case hk => exact rfl); (case k1 => exact rfl); (case d1 => decide); (case k2 => exact rfl); (case d2 => decide)
  case t3 => passes_own
  case t2 =>
    intro h3 g3 oe ws T3 F3 N3 hod how B3 X3 P3
    clear F8 N8
    k_steps
    rename Fr g3 _ _ _ => F9
    rename News g3 _ _ _ => N9
    k_dflt (refine rse_bytes tq B3 F9 X3 N9 P3 rfl ?_ ?_ (List.mem_cons_self ..) hod how ?_)
    · show dp + 1 + 5 < recursionLimit
      omega
    · show un + 3 + 40 < cLine
      omega
    · intro e4 a4 Bs h4 tk4 hfl hBs hNs hup hns
      refine out_call FG1 T3 rfl rfl rfl hfl hBs hup ?_
      intro h5 k1 k2 k3 k4
      exact hret e4 a4 Bs h5 _ k1 k2 (fun p hp => hNs p (List.mem_cons_of_mem _ hp)) k3 k4
theorem esc0_list {w : World} {mean : ExcName → Option Value} {mg mb : Str → Option Value} (tq : Tok)
  {dp un : Nat} {cn : Str} {cs : Scope} {a : Addr} {ccd : Value} {cl : List (Str × Addr)} {outer : List Env} {A₀ : Around} {base h₀ : Heap} {L : Addr} {m : Str → Option Value} {s : Shared} {Q E : Value → Shared → Prop} {lq : Addr} {nq : Nat}
  (B : Below A₀ base outer h₀) (F : Fr h₀ L s.heap m) (X : (Mine.hd.heap_39 w.params).In h₀) (N : News h₀ L s.heap [(lq, listOf #[.str (Str.ofString "&") tq] nq)]) (T : Top Mine.hd.view_39 (looseW Mine.hd.view_39 []) mean mg mb h₀) (hk : cs.kind = .function)
  (XB : (Mine.hd.heap_39 w.params).In base) (TB : Top Mine.hd.view_39 (looseW Mine.hd.view_39 []) mean mg mb base) (hd : dp + 7 < recursionLimit) (hu : un + 60 < cLine)
  (hret : ∀ (e : Addr) (a0 : Value) (Bs h' : Heap) (tk' : Nat), Heap.FlyingW Bs (envX cn cs L a ccd cl :: outer) e (.type "TypeError") a0 h' → (∀ b o, h₀.get? b = some o → b ∉ outer.filterMap (·.frame) → Bs.get? b = some o) → (∀ p ∈ ([(lq, listOf #[.str (Str.ofString "&") tq] nq)] : List (Addr × Obj)), Bs.get? p.1 = some p.2) →
    h₀.UpToSlots h' → h'.Ns L m → E (.ref e) { s with heap := h', toks := tk' }) :
  wpAny (model Challenge.rw_nb0120_01.row.prog w) (ktrTop dp un (some []) cn cs L a ccd cl outer) (call (.ref 35) [.ref lq]) Q E s := by
  w_on
  revert X; k_fill; intro X
  refine wpAny_call ?_
  k_dflt (refine' code_def B F X N T ?kA ?kF ?kK ?k6 ?k7 ?k8 ?k9 ?kB ?_ ?c2 ?c3 ?c4 ?c5; (case kA => exact rfl); (case kF => exact rfl); (case kK => assumption); (case k6 => k_is); (case k7 => k_is); (case k8 => show dp < recursionLimit; omega); (case k9 => exact BindsTo.of_eq rfl); (case c5 => decide); (case kB => exact locs rfl); (case c2 => exact rfl); (case c3 => exact rfl); (case c4 => exact rfl))
  intro g1 L1 h1 FG1 F1 N1 B1 X1 T1
  dsimp only
  refine wpAny_execs_cons ?_
  refine wpAny_Try_except ?_
  k_fold
  iterate 14 walk1
  rename News g1 _ _ _ => N7
  have ho7 := (N7 _ (List.mem_cons_self ..)).1
  refine list_miss ho7 rfl (fun h2 tk2 e2 hx2 => ?_)
  rename Fr g1 _ _ _ => F8
  rename News g1 _ _ _ => N8
  refine catchX B1 F8 N8 hx2 XB TB rfl ?t1 ?t2 ?t3
  case t1 => refine' test_tup2 ?n1 ?n2 ?x ?hk ?k1 ?d1 ?k2 ?d2; (case n1 => kts_nm); (case n2 => kts_nm); (case x => kts_exm); (case hk => exact rfl); (case k1 => exact rfl); (case d1 => decide); (case k2 => exact rfl); (case d2 => decide)
  case t3 => passes_own
  case t2 =>
    intro h3 g3 oe ws T3 F3 N3 hod how B3 X3 P3
    clear F8 N8
    k_steps
    rename Fr g3 _ _ _ => F9
    rename News g3 _ _ _ => N9
    k_dflt (refine rse_list tq B3 F9 X3 N9 P3 rfl ?_ ?_ (List.mem_cons_of_mem _ (List.mem_cons_self ..)) (List.mem_cons_self ..) hod how ?_)
    · show dp + 1 + 5 < recursionLimit
      omega
    · show un + 3 + 40 < cLine
      omega
    · intro e4 a4 Bs h4 tk4 hfl hBs hNs hup hns
      refine out_call FG1 T3 rfl rfl rfl hfl hBs hup ?_
      intro h5 k1 k2 k3 k4
      exact hret e4 a4 Bs h5 _ k1 k2 (fun p hp => hNs p (List.mem_cons_of_mem _ hp)) k3 k4
theorem esc1_none {w : World} {mean : ExcName → Option Value} {mg mb : Str → Option Value} (tq : Tok)
  {dp un : Nat} {cn : Str} {cs : Scope} {a : Addr} {ccd : Value} {cl : List (Str × Addr)} {outer : List Env} {A₀ : Around} {base h₀ : Heap} {L : Addr} {m : Str → Option Value} {s : Shared} {Q E : Value → Shared → Prop}
  (B : Below A₀ base outer h₀) (F : Fr h₀ L s.heap m) (X : (Mine.hd.heap_39 w.params).In h₀) (N : News h₀ L s.heap []) (T : Top Mine.hd.view_39 (looseW Mine.hd.view_39 []) mean mg mb h₀) (hk : cs.kind = .function)
  (XB : (Mine.hd.heap_39 w.params).In base) (TB : Top Mine.hd.view_39 (looseW Mine.hd.view_39 []) mean mg mb base) (hd : dp + 7 < recursionLimit) (hu : un + 60 < cLine)
  (hret : ∀ (e : Addr) (a0 : Value) (Bs h' : Heap) (tk' : Nat), Heap.FlyingW Bs (envX cn cs L a ccd cl :: outer) e (.type "TypeError") a0 h' → (∀ b o, h₀.get? b = some o → b ∉ outer.filterMap (·.frame) → Bs.get? b = some o) → (∀ p ∈ ([] : List (Addr × Obj)), Bs.get? p.1 = some p.2) →
    h₀.UpToSlots h' → h'.Ns L m → E (.ref e) { s with heap := h', toks := tk' }) :
  wpAny (model Challenge.rw_nb0120_01.row.prog w) (ktrTop dp un (some []) cn cs L a ccd cl outer) (call (.ref 42) [.none]) Q E s := by
  w_on
  revert X; k_fill; intro X
  refine wpAny_call ?_
  k_dflt (refine' code_def B F X N T ?kA ?kF ?kK ?k6 ?k7 ?k8 ?k9 ?kB ?_ ?c2 ?c3 ?c4 ?c5; (case kA => exact rfl); (case kF => exact rfl); (case kK => assumption); (case k6 => k_is); (case k7 => k_is); (case k8 => show dp < recursionLimit; omega); (case k9 => exact BindsTo.of_eq rfl); (case c5 => decide); (case kB => exact locs rfl); (case c2 => exact rfl); (case c3 => exact rfl); (case c4 => exact rfl))
  intro g1 L1 h1 FG1 F1 N1 B1 X1 T1
  dsimp only
  refine wpAny_execs_cons ?_
  refine wpAny_Try_except ?_
  k_fold
  iterate 6 walk1
  refine in_none rfl (fun h2 tk2 e2 hx2 => ?_)
  rename Fr g1 _ _ _ => F8
  rename News g1 _ _ _ => N8
  refine catchX B1 F8 N8 (newX_of hx2) XB TB rfl ?t1 ?t2 ?t3
  case t1 => refine' test_tup2 ?n1 ?n2 ?x ?hk ?k1 ?d1 ?k2 ?d2; (case n1 => kts_nm); (case n2 => kts_nm); (case x => kts_exm); (case hk => exact rfl); (case k1 => exact rfl); (case d1 => decide); (case k2 => exact rfl); (case d2 => decide)
  case t3 => passes_own
  case t2 =>
    intro h3 g3 oe ws T3 F3 N3 hod how B3 X3 P3
    clear F8 N8
    k_steps
    rename Fr g3 _ _ _ => F9
    rename News g3 _ _ _ => N9
    k_dflt (refine rse_none tq B3 F9 X3 N9 P3 rfl ?_ ?_ (List.mem_cons_self ..) hod how ?_)
    · show dp + 1 + 5 < recursionLimit
      omega
    · show un + 3 + 40 < cLine
      omega
    · intro e4 a4 Bs h4 tk4 hfl hBs hNs hup hns
      refine out_call FG1 T3 rfl rfl rfl hfl hBs hup ?_
      intro h5 k1 k2 k3 k4
      exact hret e4 a4 Bs h5 _ k1 k2 (fun p hp => hNs p (List.mem_cons_of_mem _ hp)) k3 k4
theorem esc1_int {w : World} {mean : ExcName → Option Value} {mg mb : Str → Option Value} (tq : Tok)
  {dp un : Nat} {cn : Str} {cs : Scope} {a : Addr} {ccd : Value} {cl : List (Str × Addr)} {outer : List Env} {A₀ : Around} {base h₀ : Heap} {L : Addr} {m : Str → Option Value} {s : Shared} {Q E : Value → Shared → Prop}
  (B : Below A₀ base outer h₀) (F : Fr h₀ L s.heap m) (X : (Mine.hd.heap_39 w.params).In h₀) (N : News h₀ L s.heap []) (T : Top Mine.hd.view_39 (looseW Mine.hd.view_39 []) mean mg mb h₀) (hk : cs.kind = .function)
  (XB : (Mine.hd.heap_39 w.params).In base) (TB : Top Mine.hd.view_39 (looseW Mine.hd.view_39 []) mean mg mb base) (hd : dp + 7 < recursionLimit) (hu : un + 60 < cLine)
  (hret : ∀ (e : Addr) (a0 : Value) (Bs h' : Heap) (tk' : Nat), Heap.FlyingW Bs (envX cn cs L a ccd cl :: outer) e (.type "TypeError") a0 h' → (∀ b o, h₀.get? b = some o → b ∉ outer.filterMap (·.frame) → Bs.get? b = some o) → (∀ p ∈ ([] : List (Addr × Obj)), Bs.get? p.1 = some p.2) →
    h₀.UpToSlots h' → h'.Ns L m → E (.ref e) { s with heap := h', toks := tk' }) :
  wpAny (model Challenge.rw_nb0120_01.row.prog w) (ktrTop dp un (some []) cn cs L a ccd cl outer) (call (.ref 42) [.int 5 tq]) Q E s := by
  w_on
  revert X; k_fill; intro X
  refine wpAny_call ?_
  k_dflt (refine' code_def B F X N T ?kA ?kF ?kK ?k6 ?k7 ?k8 ?k9 ?kB ?_ ?c2 ?c3 ?c4 ?c5; (case kA => exact rfl); (case kF => exact rfl); (case kK => assumption); (case k6 => k_is); (case k7 => k_is); (case k8 => show dp < recursionLimit; omega); (case k9 => exact BindsTo.of_eq rfl); (case c5 => decide); (case kB => exact locs rfl); (case c2 => exact rfl); (case c3 => exact rfl); (case c4 => exact rfl))
  intro g1 L1 h1 FG1 F1 N1 B1 X1 T1
  dsimp only
  refine wpAny_execs_cons ?_
  refine wpAny_Try_except ?_
  k_fold
  iterate 6 walk1
  refine in_int rfl (fun h2 tk2 e2 hx2 => ?_)
  rename Fr g1 _ _ _ => F8
  rename News g1 _ _ _ => N8
  refine catchX B1 F8 N8 (newX_of hx2) XB TB rfl ?t1 ?t2 ?t3
  case t1 => refine' test_tup2 ?n1 ?n2 ?x ?hk ?k1 ?d1 ?k2 ?d2; (case n1 => kts_nm); (case n2 => kts_nm); (case x => kts_exm); (case hk => exact rfl); (case k1 => exact rfl); (case d1 => decide); (case k2 => exact rfl); (case d2 => decide)
  case t3 => passes_own
  case t2 =>
    intro h3 g3 oe ws T3 F3 N3 hod how B3 X3 P3
    clear F8 N8
    k_steps
    rename Fr g3 _ _ _ => F9
    rename News g3 _ _ _ => N9
    k_dflt (refine rse_int tq B3 F9 X3 N9 P3 rfl ?_ ?_ (List.mem_cons_self ..) hod how ?_)
    · show dp + 1 + 5 < recursionLimit
      omega
    · show un + 3 + 40 < cLine
      omega
    · intro e4 a4 Bs h4 tk4 hfl hBs hNs hup hns
      refine out_call FG1 T3 rfl rfl rfl hfl hBs hup ?_
      intro h5 k1 k2 k3 k4
      exact hret e4 a4 Bs h5 _ k1 k2 (fun p hp => hNs p (List.mem_cons_of_mem _ hp)) k3 k4
theorem esc1_bytes {w : World} {mean : ExcName → Option Value} {mg mb : Str → Option Value} (tq : Tok)
  {dp un : Nat} {cn : Str} {cs : Scope} {a : Addr} {ccd : Value} {cl : List (Str × Addr)} {outer : List Env} {A₀ : Around} {base h₀ : Heap} {L : Addr} {m : Str → Option Value} {s : Shared} {Q E : Value → Shared → Prop}
  (B : Below A₀ base outer h₀) (F : Fr h₀ L s.heap m) (X : (Mine.hd.heap_39 w.params).In h₀) (N : News h₀ L s.heap []) (T : Top Mine.hd.view_39 (looseW Mine.hd.view_39 []) mean mg mb h₀) (hk : cs.kind = .function)
  (XB : (Mine.hd.heap_39 w.params).In base) (TB : Top Mine.hd.view_39 (looseW Mine.hd.view_39 []) mean mg mb base) (hd : dp + 7 < recursionLimit) (hu : un + 60 < cLine)
  (hret : ∀ (e : Addr) (a0 : Value) (Bs h' : Heap) (tk' : Nat), Heap.FlyingW Bs (envX cn cs L a ccd cl :: outer) e (.type "TypeError") a0 h' → (∀ b o, h₀.get? b = some o → b ∉ outer.filterMap (·.frame) → Bs.get? b = some o) → (∀ p ∈ ([] : List (Addr × Obj)), Bs.get? p.1 = some p.2) →
    h₀.UpToSlots h' → h'.Ns L m → E (.ref e) { s with heap := h', toks := tk' }) :
  wpAny (model Challenge.rw_nb0120_01.row.prog w) (ktrTop dp un (some []) cn cs L a ccd cl outer) (call (.ref 42) [.bytes #[97, 38] tq]) Q E s := by
  w_on
  revert X; k_fill; intro X
  refine wpAny_call ?_
  k_dflt (refine' code_def B F X N T ?kA ?kF ?kK ?k6 ?k7 ?k8 ?k9 ?kB ?_ ?c2 ?c3 ?c4 ?c5; (case kA => exact rfl); (case kF => exact rfl); (case kK => assumption); (case k6 => k_is); (case k7 => k_is); (case k8 => show dp < recursionLimit; omega); (case k9 => exact BindsTo.of_eq rfl); (case c5 => decide); (case kB => exact locs rfl); (case c2 => exact rfl); (case c3 => exact rfl); (case c4 => exact rfl))
  intro g1 L1 h1 FG1 F1 N1 B1 X1 T1
  dsimp only
  refine wpAny_execs_cons ?_
  refine wpAny_Try_except ?_
  k_fold
  iterate 6 walk1
  refine in_bytes rfl (fun h2 tk2 e2 hx2 => ?_)
  rename Fr g1 _ _ _ => F8
  rename News g1 _ _ _ => N8
  refine catchX B1 F8 N8 (newX_of hx2) XB TB rfl ?t1 ?t2 ?t3
  case t1 => refine' test_tup2 ?n1 ?n2 ?x ?hk ?k1 ?d1 ?k2 ?d2; (case n1 => kts_nm); (case n2 => kts_nm); (case x => kts_exm); (case hk => exact rfl); (case k1 => exact rfl); (case d1 => decide); (case k2 => exact rfl); (case d2 => decide)
  case t3 => passes_own
  case t2 =>
    intro h3 g3 oe ws T3 F3 N3 hod how B3 X3 P3
    clear F8 N8
    k_steps
    rename Fr g3 _ _ _ => F9
    rename News g3 _ _ _ => N9
    k_dflt (refine rse_bytes tq B3 F9 X3 N9 P3 rfl ?_ ?_ (List.mem_cons_self ..) hod how ?_)
    · show dp + 1 + 5 < recursionLimit
      omega
    · show un + 3 + 40 < cLine
      omega
    · intro e4 a4 Bs h4 tk4 hfl hBs hNs hup hns
      refine out_call FG1 T3 rfl rfl rfl hfl hBs hup ?_
      intro h5 k1 k2 k3 k4
      exact hret e4 a4 Bs h5 _ k1 k2 (fun p hp => hNs p (List.mem_cons_of_mem _ hp)) k3 k4
theorem esc1_list {w : World} {mean : ExcName → Option Value} {mg mb : Str → Option Value} (tq : Tok)
  {dp un : Nat} {cn : Str} {cs : Scope} {a : Addr} {ccd : Value} {cl : List (Str × Addr)} {outer : List Env} {A₀ : Around} {base h₀ : Heap} {L : Addr} {m : Str → Option Value} {s : Shared} {Q E : Value → Shared → Prop} {lq : Addr} {nq : Nat}
  (B : Below A₀ base outer h₀) (F : Fr h₀ L s.heap m) (X : (Mine.hd.heap_39 w.params).In h₀) (N : News h₀ L s.heap [(lq, listOf #[.str (Str.ofString "&") tq] nq)]) (T : Top Mine.hd.view_39 (looseW Mine.hd.view_39 []) mean mg mb h₀) (hk : cs.kind = .function)
  (XB : (Mine.hd.heap_39 w.params).In base) (TB : Top Mine.hd.view_39 (looseW Mine.hd.view_39 []) mean mg mb base) (hd : dp + 7 < recursionLimit) (hu : un + 60 < cLine)
  (hret : ∀ (e : Addr) (a0 : Value) (Bs h' : Heap) (tk' : Nat), Heap.FlyingW Bs (envX cn cs L a ccd cl :: outer) e (.type "TypeError") a0 h' → (∀ b o, h₀.get? b = some o → b ∉ outer.filterMap (·.frame) → Bs.get? b = some o) → (∀ p ∈ ([(lq, listOf #[.str (Str.ofString "&") tq] nq)] : List (Addr × Obj)), Bs.get? p.1 = some p.2) →
    h₀.UpToSlots h' → h'.Ns L m → E (.ref e) { s with heap := h', toks := tk' }) :
  wpAny (model Challenge.rw_nb0120_01.row.prog w) (ktrTop dp un (some []) cn cs L a ccd cl outer) (call (.ref 42) [.ref lq]) Q E s := by
  w_on
  revert X; k_fill; intro X
  refine wpAny_call ?_
  k_dflt (refine' code_def B F X N T ?kA ?kF ?kK ?k6 ?k7 ?k8 ?k9 ?kB ?_ ?c2 ?c3 ?c4 ?c5; (case kA => exact rfl); (case kF => exact rfl); (case kK => assumption); (case k6 => k_is); (case k7 => k_is); (case k8 => show dp < recursionLimit; omega); (case k9 => exact BindsTo.of_eq rfl); (case c5 => decide); (case kB => exact locs rfl); (case c2 => exact rfl); (case c3 => exact rfl); (case c4 => exact rfl))
  intro g1 L1 h1 FG1 F1 N1 B1 X1 T1
  dsimp only
  refine wpAny_execs_cons ?_
  refine wpAny_Try_except ?_
  k_fold
  iterate 14 walk1
  rename News g1 _ _ _ => N7
  have ho7 := (N7 _ (List.mem_cons_self ..)).1
  refine list_miss ho7 rfl (fun h2 tk2 e2 hx2 => ?_)
  rename Fr g1 _ _ _ => F8
  rename News g1 _ _ _ => N8
  refine catchX B1 F8 N8 hx2 XB TB rfl ?t1 ?t2 ?t3
  case t1 => refine' test_tup2 ?n1 ?n2 ?x ?hk ?k1 ?d1 ?k2 ?d2; (case n1 => kts_nm); (case n2 => kts_nm); (case x => kts_exm); (case hk => exact rfl); (case k1 => exact rfl); (case d1 => decide); (case k2 => exact rfl); (case d2 => decide)
  case t3 => passes_own
  case t2 =>
    intro h3 g3 oe ws T3 F3 N3 hod how B3 X3 P3
    clear F8 N8
    k_steps
    rename Fr g3 _ _ _ => F9
    rename News g3 _ _ _ => N9
    k_dflt (refine rse_list tq B3 F9 X3 N9 P3 rfl ?_ ?_ (List.mem_cons_of_mem _ (List.mem_cons_self ..)) (List.mem_cons_self ..) hod how ?_)
    · show dp + 1 + 5 < recursionLimit
      omega
    · show un + 3 + 40 < cLine
      omega
    · intro e4 a4 Bs h4 tk4 hfl hBs hNs hup hns
      refine out_call FG1 T3 rfl rfl rfl hfl hBs hup ?_
      intro h5 k1 k2 k3 k4
      exact hret e4 a4 Bs h5 _ k1 k2 (fun p hp => hNs p (List.mem_cons_of_mem _ hp)) k3 k4
theorem esc2_none {w : World} {mean : ExcName → Option Value} {mg mb : Str → Option Value} (tq : Tok)
  {dp un : Nat} {cn : Str} {cs : Scope} {a : Addr} {ccd : Value} {cl : List (Str × Addr)} {outer : List Env} {A₀ : Around} {base h₀ : Heap} {L : Addr} {m : Str → Option Value} {s : Shared} {Q E : Value → Shared → Prop}
  (B : Below A₀ base outer h₀) (F : Fr h₀ L s.heap m) (X : (Mine.hd.heap_39 w.params).In h₀) (N : News h₀ L s.heap []) (T : Top Mine.hd.view_39 (looseW Mine.hd.view_39 []) mean mg mb h₀) (hk : cs.kind = .function)
  (XB : (Mine.hd.heap_39 w.params).In base) (TB : Top Mine.hd.view_39 (looseW Mine.hd.view_39 []) mean mg mb base) (hd : dp + 7 < recursionLimit) (hu : un + 60 < cLine)
  (hret : ∀ (e : Addr) (a0 : Value) (Bs h' : Heap) (tk' : Nat), Heap.FlyingW Bs (envX cn cs L a ccd cl :: outer) e (.type "TypeError") a0 h' → (∀ b o, h₀.get? b = some o → b ∉ outer.filterMap (·.frame) → Bs.get? b = some o) → (∀ p ∈ ([] : List (Addr × Obj)), Bs.get? p.1 = some p.2) →
    h₀.UpToSlots h' → h'.Ns L m → E (.ref e) { s with heap := h', toks := tk' }) :
  wpAny (model Challenge.rw_nb0120_01.row.prog w) (ktrTop dp un (some []) cn cs L a ccd cl outer) (call (.ref 49) [.none]) Q E s := by
  w_on
  revert X; k_fill; intro X
  refine wpAny_call ?_
  k_dflt (refine' code_def B F X N T ?kA ?kF ?kK ?k6 ?k7 ?k8 ?k9 ?kB ?_ ?c2 ?c3 ?c4 ?c5; (case kA => exact rfl); (case kF => exact rfl); (case kK => assumption); (case k6 => k_is); (case k7 => k_is); (case k8 => show dp < recursionLimit; omega); (case k9 => exact BindsTo.of_eq rfl); (case c5 => decide); (case kB => exact locs rfl); (case c2 => exact rfl); (case c3 => exact rfl); (case c4 => exact rfl))
  intro g1 L1 h1 FG1 F1 N1 B1 X1 T1
  dsimp only
  refine wpAny_execs_cons ?_
  refine wpAny_Try_except ?_
  k_fold
  iterate 6 walk1
  refine in_none rfl (fun h2 tk2 e2 hx2 => ?_)
  rename Fr g1 _ _ _ => F8
  rename News g1 _ _ _ => N8
  refine catchX B1 F8 N8 (newX_of hx2) XB TB rfl ?t1 ?t2 ?t3
  case t1 => refine' test_tup2 ?n1 ?n2 ?x ?hk ?k1 ?d1 ?k2 ?d2; (case n1 => kts_nm); (case n2 => kts_nm); (case x => kts_exm); (case hk => exact rfl); (case k1 => exact rfl); (case d1 => decide); (case k2 => exact rfl); (case d2 => decide)
  case t3 => passes_own
  case t2 =>
    intro h3 g3 oe ws T3 F3 N3 hod how B3 X3 P3
    clear F8 N8
    k_steps
    rename Fr g3 _ _ _ => F9
    rename News g3 _ _ _ => N9
    k_dflt (refine rse_none tq B3 F9 X3 N9 P3 rfl ?_ ?_ (List.mem_cons_self ..) hod how ?_)
    · show dp + 1 + 5 < recursionLimit
      omega
    · show un + 3 + 40 < cLine
      omega
    · intro e4 a4 Bs h4 tk4 hfl hBs hNs hup hns
      refine out_call FG1 T3 rfl rfl rfl hfl hBs hup ?_
      intro h5 k1 k2 k3 k4
      exact hret e4 a4 Bs h5 _ k1 k2 (fun p hp => hNs p (List.mem_cons_of_mem _ hp)) k3 k4
theorem esc2_int {w : World} {mean : ExcName → Option Value} {mg mb : Str → Option Value} (tq : Tok)
  {dp un : Nat} {cn : Str} {cs : Scope} {a : Addr} {ccd : Value} {cl : List (Str × Addr)} {outer : List Env} {A₀ : Around} {base h₀ : Heap} {L : Addr} {m : Str → Option Value} {s : Shared} {Q E : Value → Shared → Prop}
  (B : Below A₀ base outer h₀) (F : Fr h₀ L s.heap m) (X : (Mine.hd.heap_39 w.params).In h₀) (N : News h₀ L s.heap []) (T : Top Mine.hd.view_39 (looseW Mine.hd.view_39 []) mean mg mb h₀) (hk : cs.kind = .function)
  (XB : (Mine.hd.heap_39 w.params).In base) (TB : Top Mine.hd.view_39 (looseW Mine.hd.view_39 []) mean mg mb base) (hd : dp + 7 < recursionLimit) (hu : un + 60 < cLine)
  (hret : ∀ (e : Addr) (a0 : Value) (Bs h' : Heap) (tk' : Nat), Heap.FlyingW Bs (envX cn cs L a ccd cl :: outer) e (.type "TypeError") a0 h' → (∀ b o, h₀.get? b = some o → b ∉ outer.filterMap (·.frame) → Bs.get? b = some o) → (∀ p ∈ ([] : List (Addr × Obj)), Bs.get? p.1 = some p.2) →
    h₀.UpToSlots h' → h'.Ns L m → E (.ref e) { s with heap := h', toks := tk' }) :
  wpAny (model Challenge.rw_nb0120_01.row.prog w) (ktrTop dp un (some []) cn cs L a ccd cl outer) (call (.ref 49) [.int 5 tq]) Q E s := by
  w_on
  revert X; k_fill; intro X
  refine wpAny_call ?_
  k_dflt (refine' code_def B F X N T ?kA ?kF ?kK ?k6 ?k7 ?k8 ?k9 ?kB ?_ ?c2 ?c3 ?c4 ?c5; (case kA => exact rfl); (case kF => exact rfl); (case kK => assumption); (case k6 => k_is); (case k7 => k_is); (case k8 => show dp < recursionLimit; omega); (case k9 => exact BindsTo.of_eq rfl); (case c5 => decide); (case kB => exact locs rfl); (case c2 => exact rfl); (case c3 => exact rfl); (case c4 => exact rfl))
  intro g1 L1 h1 FG1 F1 N1 B1 X1 T1
  dsimp only
  refine wpAny_execs_cons ?_
  refine wpAny_Try_except ?_
  k_fold
  iterate 6 walk1
  refine in_int rfl (fun h2 tk2 e2 hx2 => ?_)
  rename Fr g1 _ _ _ => F8
  rename News g1 _ _ _ => N8
  refine catchX B1 F8 N8 (newX_of hx2) XB TB rfl ?t1 ?t2 ?t3
  case t1 => refine' test_tup2 ?n1 ?n2 ?x ?hk ?k1 ?d1 ?k2 ?d2; (case n1 => kts_nm); (case n2 => kts_nm); (case x => kts_exm); (case hk => exact rfl); (case k1 => exact rfl); (case d1 => decide); (case k2 => exact rfl); (case d2 => decide)
  case t3 => passes_own
  case t2 =>
    intro h3 g3 oe ws T3 F3 N3 hod how B3 X3 P3
    clear F8 N8
    k_steps
    rename Fr g3 _ _ _ => F9
    rename News g3 _ _ _ => N9
    k_dflt (refine rse_int tq B3 F9 X3 N9 P3 rfl ?_ ?_ (List.mem_cons_self ..) hod how ?_)
    · show dp + 1 + 5 < recursionLimit
      omega
    · show un + 3 + 40 < cLine
      omega
    · intro e4 a4 Bs h4 tk4 hfl hBs hNs hup hns
      refine out_call FG1 T3 rfl rfl rfl hfl hBs hup ?_
      intro h5 k1 k2 k3 k4
      exact hret e4 a4 Bs h5 _ k1 k2 (fun p hp => hNs p (List.mem_cons_of_mem _ hp)) k3 k4
theorem esc2_bytes {w : World} {mean : ExcName → Option Value} {mg mb : Str → Option Value} (tq : Tok)
  {dp un : Nat} {cn : Str} {cs : Scope} {a : Addr} {ccd : Value} {cl : List (Str × Addr)} {outer : List Env} {A₀ : Around} {base h₀ : Heap} {L : Addr} {m : Str → Option Value} {s : Shared} {Q E : Value → Shared → Prop}
  (B : Below A₀ base outer h₀) (F : Fr h₀ L s.heap m) (X : (Mine.hd.heap_39 w.params).In h₀) (N : News h₀ L s.heap []) (T : Top Mine.hd.view_39 (looseW Mine.hd.view_39 []) mean mg mb h₀) (hk : cs.kind = .function)
  (XB : (Mine.hd.heap_39 w.params).In base) (TB : Top Mine.hd.view_39 (looseW Mine.hd.view_39 []) mean mg mb base) (hd : dp + 7 < recursionLimit) (hu : un + 60 < cLine)
  (hret : ∀ (e : Addr) (a0 : Value) (Bs h' : Heap) (tk' : Nat), Heap.FlyingW Bs (envX cn cs L a ccd cl :: outer) e (.type "TypeError") a0 h' → (∀ b o, h₀.get? b = some o → b ∉ outer.filterMap (·.frame) → Bs.get? b = some o) → (∀ p ∈ ([] : List (Addr × Obj)), Bs.get? p.1 = some p.2) →
    h₀.UpToSlots h' → h'.Ns L m → E (.ref e) { s with heap := h', toks := tk' }) :
  wpAny (model Challenge.rw_nb0120_01.row.prog w) (ktrTop dp un (some []) cn cs L a ccd cl outer) (call (.ref 49) [.bytes #[97, 38] tq]) Q E s := by
  w_on
  revert X; k_fill; intro X
  refine wpAny_call ?_
  k_dflt (refine' code_def B F X N T ?kA ?kF ?kK ?k6 ?k7 ?k8 ?k9 ?kB ?_ ?c2 ?c3 ?c4 ?c5; (case kA => exact rfl); (case kF => exact rfl); (case kK => assumption); (case k6 => k_is); (case k7 => k_is); (case k8 => show dp < recursionLimit; omega); (case k9 => exact BindsTo.of_eq rfl); (case c5 => decide); (case kB => exact locs rfl); (case c2 => exact rfl); (case c3 => exact rfl); (case c4 => exact rfl))
  intro g1 L1 h1 FG1 F1 N1 B1 X1 T1
  dsimp only
  refine wpAny_execs_cons ?_
  refine wpAny_Try_except ?_
  k_fold
  iterate 6 walk1
  refine in_bytes rfl (fun h2 tk2 e2 hx2 => ?_)
  rename Fr g1 _ _ _ => F8
  rename News g1 _ _ _ => N8
  refine catchX B1 F8 N8 (newX_of hx2) XB TB rfl ?t1 ?t2 ?t3
  case t1 => refine' test_tup2 ?n1 ?n2 ?x ?hk ?k1 ?d1 ?k2 ?d2; (case n1 => kts_nm); (case n2 => kts_nm); (case x => kts_exm); (case hk => exact rfl); (case k1 => exact rfl); (case d1 => decide); (case k2 => exact rfl); (case d2 => decide)
  case t3 => passes_own
  case t2 =>
    intro h3 g3 oe ws T3 F3 N3 hod how B3 X3 P3
    clear F8 N8
    k_steps
    rename Fr g3 _ _ _ => F9
    rename News g3 _ _ _ => N9
    k_dflt (refine rse_bytes tq B3 F9 X3 N9 P3 rfl ?_ ?_ (List.mem_cons_self ..) hod how ?_)
    · show dp + 1 + 5 < recursionLimit
      omega
    · show un + 3 + 40 < cLine
      omega
    · intro e4 a4 Bs h4 tk4 hfl hBs hNs hup hns
      refine out_call FG1 T3 rfl rfl rfl hfl hBs hup ?_
      intro h5 k1 k2 k3 k4
      exact hret e4 a4 Bs h5 _ k1 k2 (fun p hp => hNs p (List.mem_cons_of_mem _ hp)) k3 k4
theorem esc2_list {w : World} {mean : ExcName → Option Value} {mg mb : Str → Option Value} (tq : Tok)
  {dp un : Nat} {cn : Str} {cs : Scope} {a : Addr} {ccd : Value} {cl : List (Str × Addr)} {outer : List Env} {A₀ : Around} {base h₀ : Heap} {L : Addr} {m : Str → Option Value} {s : Shared} {Q E : Value → Shared → Prop} {lq : Addr} {nq : Nat}
  (B : Below A₀ base outer h₀) (F : Fr h₀ L s.heap m) (X : (Mine.hd.heap_39 w.params).In h₀) (N : News h₀ L s.heap [(lq, listOf #[.str (Str.ofString "&") tq] nq)]) (T : Top Mine.hd.view_39 (looseW Mine.hd.view_39 []) mean mg mb h₀) (hk : cs.kind = .function)
  (XB : (Mine.hd.heap_39 w.params).In base) (TB : Top Mine.hd.view_39 (looseW Mine.hd.view_39 []) mean mg mb base) (hd : dp + 7 < recursionLimit) (hu : un + 60 < cLine)
  (hret : ∀ (e : Addr) (a0 : Value) (Bs h' : Heap) (tk' : Nat), Heap.FlyingW Bs (envX cn cs L a ccd cl :: outer) e (.type "TypeError") a0 h' → (∀ b o, h₀.get? b = some o → b ∉ outer.filterMap (·.frame) → Bs.get? b = some o) → (∀ p ∈ ([(lq, listOf #[.str (Str.ofString "&") tq] nq)] : List (Addr × Obj)), Bs.get? p.1 = some p.2) →
    h₀.UpToSlots h' → h'.Ns L m → E (.ref e) { s with heap := h', toks := tk' }) :
  wpAny (model Challenge.rw_nb0120_01.row.prog w) (ktrTop dp un (some []) cn cs L a ccd cl outer) (call (.ref 49) [.ref lq]) Q E s := by
  w_on
  revert X; k_fill; intro X
  refine wpAny_call ?_
  k_dflt (refine' code_def B F X N T ?kA ?kF ?kK ?k6 ?k7 ?k8 ?k9 ?kB ?_ ?c2 ?c3 ?c4 ?c5; (case kA => exact rfl); (case kF => exact rfl); (case kK => assumption); (case k6 => k_is); (case k7 => k_is); (case k8 => show dp < recursionLimit; omega); (case k9 => exact BindsTo.of_eq rfl); (case c5 => decide); (case kB => exact locs rfl); (case c2 => exact rfl); (case c3 => exact rfl); (case c4 => exact rfl))
  intro g1 L1 h1 FG1 F1 N1 B1 X1 T1
  dsimp only
  refine wpAny_execs_cons ?_
  refine wpAny_Try_except ?_
  k_fold
  iterate 14 walk1
  rename News g1 _ _ _ => N7
  have ho7 := (N7 _ (List.mem_cons_self ..)).1
  refine list_miss ho7 rfl (fun h2 tk2 e2 hx2 => ?_)
  rename Fr g1 _ _ _ => F8
  rename News g1 _ _ _ => N8
  refine catchX B1 F8 N8 hx2 XB TB rfl ?t1 ?t2 ?t3
  case t1 => refine' test_tup2 ?n1 ?n2 ?x ?hk ?k1 ?d1 ?k2 ?d2; (case n1 => kts_nm); (case n2 => kts_nm); (case x => kts_exm); (case hk => exact rfl); (case k1 => exact rfl); (case d1 => decide); (case k2 => exact rfl); (case d2 => decide)
  case t3 => passes_own
  case t2 =>
    intro h3 g3 oe ws T3 F3 N3 hod how B3 X3 P3
    clear F8 N8
    k_steps
    rename Fr g3 _ _ _ => F9
    rename News g3 _ _ _ => N9
    k_dflt (refine rse_list tq B3 F9 X3 N9 P3 rfl ?_ ?_ (List.mem_cons_of_mem _ (List.mem_cons_self ..)) (List.mem_cons_self ..) hod how ?_)
    · show dp + 1 + 5 < recursionLimit
      omega
    · show un + 3 + 40 < cLine
      omega
    · intro e4 a4 Bs h4 tk4 hfl hBs hNs hup hns
      refine out_call FG1 T3 rfl rfl rfl hfl hBs hup ?_
      intro h5 k1 k2 k3 k4
      exact hret e4 a4 Bs h5 _ k1 k2 (fun p hp => hNs p (List.mem_cons_of_mem _ hp)) k3 k4
theorem esc3_none {w : World} {mean : ExcName → Option Value} {mg mb : Str → Option Value} (tq : Tok)
  {dp un : Nat} {cn : Str} {cs : Scope} {a : Addr} {ccd : Value} {cl : List (Str × Addr)} {outer : List Env} {A₀ : Around} {base h₀ : Heap} {L : Addr} {m : Str → Option Value} {s : Shared} {Q E : Value → Shared → Prop}
  (B : Below A₀ base outer h₀) (F : Fr h₀ L s.heap m) (X : (Mine.hd.heap_39 w.params).In h₀) (N : News h₀ L s.heap []) (T : Top Mine.hd.view_39 (looseW Mine.hd.view_39 []) mean mg mb h₀) (hk : cs.kind = .function)
  (XB : (Mine.hd.heap_39 w.params).In base) (TB : Top Mine.hd.view_39 (looseW Mine.hd.view_39 []) mean mg mb base) (hd : dp + 7 < recursionLimit) (hu : un + 60 < cLine)
  (hret : ∀ (e : Addr) (a0 : Value) (Bs h' : Heap) (tk' : Nat), Heap.FlyingW Bs (envX cn cs L a ccd cl :: outer) e (.type "TypeError") a0 h' → (∀ b o, h₀.get? b = some o → b ∉ outer.filterMap (·.frame) → Bs.get? b = some o) → (∀ p ∈ ([] : List (Addr × Obj)), Bs.get? p.1 = some p.2) →
    h₀.UpToSlots h' → h'.Ns L m → E (.ref e) { s with heap := h', toks := tk' }) :
  wpAny (model Challenge.rw_nb0120_01.row.prog w) (ktrTop dp un (some []) cn cs L a ccd cl outer) (call (.ref 56) [.none]) Q E s := by
  w_on
  revert X; k_fill; intro X
  refine wpAny_call ?_
  k_dflt (refine' code_def B F X N T ?kA ?kF ?kK ?k6 ?k7 ?k8 ?k9 ?kB ?_ ?c2 ?c3 ?c4 ?c5; (case kA => exact rfl); (case kF => exact rfl); (case kK => assumption); (case k6 => k_is); (case k7 => k_is); (case k8 => show dp < recursionLimit; omega); (case k9 => exact BindsTo.of_eq rfl); (case c5 => decide); (case kB => exact locs rfl); (case c2 => exact rfl); (case c3 => exact rfl); (case c4 => exact rfl))
  intro g1 L1 h1 FG1 F1 N1 B1 X1 T1
  dsimp only
  refine wpAny_execs_cons ?_
  refine wpAny_Try_except ?_
  k_fold
  iterate 6 walk1
  refine in_none rfl (fun h2 tk2 e2 hx2 => ?_)
  rename Fr g1 _ _ _ => F8
  rename News g1 _ _ _ => N8
  refine catchX B1 F8 N8 (newX_of hx2) XB TB rfl ?t1 ?t2 ?t3
  case t1 => refine' test_tup2 ?n1 ?n2 ?x ?hk ?k1 ?d1 ?k2 ?d2; (case n1 => kts_nm); (case n2 => kts_nm); (case x => kts_exm); (case hk => exact rfl); (case k1 => exact rfl); (case d1 => decide); (case k2 => exact rfl); (case d2 => decide)
  case t3 => passes_own
  case t2 =>
    intro h3 g3 oe ws T3 F3 N3 hod how B3 X3 P3
    clear F8 N8
    k_steps
    rename Fr g3 _ _ _ => F9
    rename News g3 _ _ _ => N9
    k_dflt (refine rse_none tq B3 F9 X3 N9 P3 rfl ?_ ?_ (List.mem_cons_self ..) hod how ?_)
    · show dp + 1 + 5 < recursionLimit
      omega
    · show un + 3 + 40 < cLine
      omega
    · intro e4 a4 Bs h4 tk4 hfl hBs hNs hup hns
      refine out_call FG1 T3 rfl rfl rfl hfl hBs hup ?_
      intro h5 k1 k2 k3 k4
      exact hret e4 a4 Bs h5 _ k1 k2 (fun p hp => hNs p (List.mem_cons_of_mem _ hp)) k3 k4
theorem esc3_int {w : World} {mean : ExcName → Option Value} {mg mb : Str → Option Value} (tq : Tok)
  {dp un : Nat} {cn : Str} {cs : Scope} {a : Addr} {ccd : Value} {cl : List (Str × Addr)} {outer : List Env} {A₀ : Around} {base h₀ : Heap} {L : Addr} {m : Str → Option Value} {s : Shared} {Q E : Value → Shared → Prop}
  (B : Below A₀ base outer h₀) (F : Fr h₀ L s.heap m) (X : (Mine.hd.heap_39 w.params).In h₀) (N : News h₀ L s.heap []) (T : Top Mine.hd.view_39 (looseW Mine.hd.view_39 []) mean mg mb h₀) (hk : cs.kind = .function)
  (XB : (Mine.hd.heap_39 w.params).In base) (TB : Top Mine.hd.view_39 (looseW Mine.hd.view_39 []) mean mg mb base) (hd : dp + 7 < recursionLimit) (hu : un + 60 < cLine)
  (hret : ∀ (e : Addr) (a0 : Value) (Bs h' : Heap) (tk' : Nat), Heap.FlyingW Bs (envX cn cs L a ccd cl :: outer) e (.type "TypeError") a0 h' → (∀ b o, h₀.get? b = some o → b ∉ outer.filterMap (·.frame) → Bs.get? b = some o) → (∀ p ∈ ([] : List (Addr × Obj)), Bs.get? p.1 = some p.2) →
    h₀.UpToSlots h' → h'.Ns L m → E (.ref e) { s with heap := h', toks := tk' }) :
  wpAny (model Challenge.rw_nb0120_01.row.prog w) (ktrTop dp un (some []) cn cs L a ccd cl outer) (call (.ref 56) [.int 5 tq]) Q E s := by
  w_on
  revert X; k_fill; intro X
  refine wpAny_call ?_
  k_dflt (refine' code_def B F X N T ?kA ?kF ?kK ?k6 ?k7 ?k8 ?k9 ?kB ?_ ?c2 ?c3 ?c4 ?c5; (case kA => exact rfl); (case kF => exact rfl); (case kK => assumption); (case k6 => k_is); (case k7 => k_is); (case k8 => show dp < recursionLimit; omega); (case k9 => exact BindsTo.of_eq rfl); (case c5 => decide); (case kB => exact locs rfl); (case c2 => exact rfl); (case c3 => exact rfl); (case c4 => exact rfl))
  intro g1 L1 h1 FG1 F1 N1 B1 X1 T1
  dsimp only
  refine wpAny_execs_cons ?_
  refine wpAny_Try_except ?_
  k_fold
  iterate 6 walk1
  refine in_int rfl (fun h2 tk2 e2 hx2 => ?_)
  rename Fr g1 _ _ _ => F8
  rename News g1 _ _ _ => N8
  refine catchX B1 F8 N8 (newX_of hx2) XB TB rfl ?t1 ?t2 ?t3
  case t1 => refine' test_tup2 ?n1 ?n2 ?x ?hk ?k1 ?d1 ?k2 ?d2; (case n1 => kts_nm); (case n2 => kts_nm); (case x => kts_exm); (case hk => exact rfl); (case k1 => exact rfl); (case d1 => decide); (case k2 => exact rfl); (case d2 => decide)
  case t3 => passes_own
  case t2 =>
    intro h3 g3 oe ws T3 F3 N3 hod how B3 X3 P3
    clear F8 N8
    k_steps
    rename Fr g3 _ _ _ => F9
    rename News g3 _ _ _ => N9
    k_dflt (refine rse_int tq B3 F9 X3 N9 P3 rfl ?_ ?_ (List.mem_cons_self ..) hod how ?_)
    · show dp + 1 + 5 < recursionLimit
      omega
    · show un + 3 + 40 < cLine
      omega
    · intro e4 a4 Bs h4 tk4 hfl hBs hNs hup hns
      refine out_call FG1 T3 rfl rfl rfl hfl hBs hup ?_
      intro h5 k1 k2 k3 k4
      exact hret e4 a4 Bs h5 _ k1 k2 (fun p hp => hNs p (List.mem_cons_of_mem _ hp)) k3 k4
theorem esc3_bytes {w : World} {mean : ExcName → Option Value} {mg mb : Str → Option Value} (tq : Tok)
  {dp un : Nat} {cn : Str} {cs : Scope} {a : Addr} {ccd : Value} {cl : List (Str × Addr)} {outer : List Env} {A₀ : Around} {base h₀ : Heap} {L : Addr} {m : Str → Option Value} {s : Shared} {Q E : Value → Shared → Prop}
  (B : Below A₀ base outer h₀) (F : Fr h₀ L s.heap m) (X : (Mine.hd.heap_39 w.params).In h₀) (N : News h₀ L s.heap []) (T : Top Mine.hd.view_39 (looseW Mine.hd.view_39 []) mean mg mb h₀) (hk : cs.kind = .function)
  (XB : (Mine.hd.heap_39 w.params).In base) (TB : Top Mine.hd.view_39 (looseW Mine.hd.view_39 []) mean mg mb base) (hd : dp + 7 < recursionLimit) (hu : un + 60 < cLine)
  (hret : ∀ (e : Addr) (a0 : Value) (Bs h' : Heap) (tk' : Nat), Heap.FlyingW Bs (envX cn cs L a ccd cl :: outer) e (.type "TypeError") a0 h' → (∀ b o, h₀.get? b = some o → b ∉ outer.filterMap (·.frame) → Bs.get? b = some o) → (∀ p ∈ ([] : List (Addr × Obj)), Bs.get? p.1 = some p.2) →
    h₀.UpToSlots h' → h'.Ns L m → E (.ref e) { s with heap := h', toks := tk' }) :
  wpAny (model Challenge.rw_nb0120_01.row.prog w) (ktrTop dp un (some []) cn cs L a ccd cl outer) (call (.ref 56) [.bytes #[97, 38] tq]) Q E s := by
  w_on
  revert X; k_fill; intro X
  refine wpAny_call ?_
  k_dflt (refine' code_def B F X N T ?kA ?kF ?kK ?k6 ?k7 ?k8 ?k9 ?kB ?_ ?c2 ?c3 ?c4 ?c5; (case kA => exact rfl); (case kF => exact rfl); (case kK => assumption); (case k6 => k_is); (case k7 => k_is); (case k8 => show dp < recursionLimit; omega); (case k9 => exact BindsTo.of_eq rfl); (case c5 => decide); (case kB => exact locs rfl); (case c2 => exact rfl); (case c3 => exact rfl); (case c4 => exact rfl))
  intro g1 L1 h1 FG1 F1 N1 B1 X1 T1
  dsimp only
  refine wpAny_execs_cons ?_
  refine wpAny_Try_except ?_
  k_fold
  iterate 6 walk1
  refine in_bytes rfl (fun h2 tk2 e2 hx2 => ?_)
  rename Fr g1 _ _ _ => F8
  rename News g1 _ _ _ => N8
  refine catchX B1 F8 N8 (newX_of hx2) XB TB rfl ?t1 ?t2 ?t3
  case t1 => refine' test_tup2 ?n1 ?n2 ?x ?hk ?k1 ?d1 ?k2 ?d2; (case n1 => kts_nm); (case n2 => kts_nm); (case x => kts_exm); (case hk => exact rfl); (case k1 => exact rfl); (case d1 => decide); (case k2 => exact rfl); (case d2 => decide)
  case t3 => passes_own
  case t2 =>
    intro h3 g3 oe ws T3 F3 N3 hod how B3 X3 P3
    clear F8 N8
    k_steps
    rename Fr g3 _ _ _ => F9
    rename News g3 _ _ _ => N9
    k_dflt (refine rse_bytes tq B3 F9 X3 N9 P3 rfl ?_ ?_ (List.mem_cons_self ..) hod how ?_)
    · show dp + 1 + 5 < recursionLimit
      omega
    · show un + 3 + 40 < cLine
      omega
    · intro e4 a4 Bs h4 tk4 hfl hBs hNs hup hns
      refine out_call FG1 T3 rfl rfl rfl hfl hBs hup ?_
      intro h5 k1 k2 k3 k4
      exact hret e4 a4 Bs h5 _ k1 k2 (fun p hp => hNs p (List.mem_cons_of_mem _ hp)) k3 k4
theorem esc3_list {w : World} {mean : ExcName → Option Value} {mg mb : Str → Option Value} (tq : Tok)
  {dp un : Nat} {cn : Str} {cs : Scope} {a : Addr} {ccd : Value} {cl : List (Str × Addr)} {outer : List Env} {A₀ : Around} {base h₀ : Heap} {L : Addr} {m : Str → Option Value} {s : Shared} {Q E : Value → Shared → Prop} {lq : Addr} {nq : Nat}
  (B : Below A₀ base outer h₀) (F : Fr h₀ L s.heap m) (X : (Mine.hd.heap_39 w.params).In h₀) (N : News h₀ L s.heap [(lq, listOf #[.str (Str.ofString "&") tq] nq)]) (T : Top Mine.hd.view_39 (looseW Mine.hd.view_39 []) mean mg mb h₀) (hk : cs.kind = .function)
  (XB : (Mine.hd.heap_39 w.params).In base) (TB : Top Mine.hd.view_39 (looseW Mine.hd.view_39 []) mean mg mb base) (hd : dp + 7 < recursionLimit) (hu : un + 60 < cLine)
  (hret : ∀ (e : Addr) (a0 : Value) (Bs h' : Heap) (tk' : Nat), Heap.FlyingW Bs (envX cn cs L a ccd cl :: outer) e (.type "TypeError") a0 h' → (∀ b o, h₀.get? b = some o → b ∉ outer.filterMap (·.frame) → Bs.get? b = some o) → (∀ p ∈ ([(lq, listOf #[.str (Str.ofString "&") tq] nq)] : List (Addr × Obj)), Bs.get? p.1 = some p.2) →
    h₀.UpToSlots h' → h'.Ns L m → E (.ref e) { s with heap := h', toks := tk' }) :
  wpAny (model Challenge.rw_nb0120_01.row.prog w) (ktrTop dp un (some []) cn cs L a ccd cl outer) (call (.ref 56) [.ref lq]) Q E s := by
  w_on
  revert X; k_fill; intro X
  refine wpAny_call ?_
  k_dflt (refine' code_def B F X N T ?kA ?kF ?kK ?k6 ?k7 ?k8 ?k9 ?kB ?_ ?c2 ?c3 ?c4 ?c5; (case kA => exact rfl); (case kF => exact rfl); (case kK => assumption); (case k6 => k_is); (case k7 => k_is); (case k8 => show dp < recursionLimit; omega); (case k9 => exact BindsTo.of_eq rfl); (case c5 => decide); (case kB => exact locs rfl); (case c2 => exact rfl); (case c3 => exact rfl); (case c4 => exact rfl))
  intro g1 L1 h1 FG1 F1 N1 B1 X1 T1
  dsimp only
  refine wpAny_execs_cons ?_
  refine wpAny_Try_except ?_
  k_fold
  iterate 14 walk1
  rename News g1 _ _ _ => N7
  have ho7 := (N7 _ (List.mem_cons_self ..)).1
  refine list_miss ho7 rfl (fun h2 tk2 e2 hx2 => ?_)
  rename Fr g1 _ _ _ => F8
  rename News g1 _ _ _ => N8
  refine catchX B1 F8 N8 hx2 XB TB rfl ?t1 ?t2 ?t3
  case t1 => refine' test_tup2 ?n1 ?n2 ?x ?hk ?k1 ?d1 ?k2 ?d2; (case n1 => kts_nm); (case n2 => kts_nm); (case x => kts_exm); (case hk => exact rfl); (case k1 => exact rfl); (case d1 => decide); (case k2 => exact rfl); (case d2 => decide)
  case t3 => passes_own
  case t2 =>
    intro h3 g3 oe ws T3 F3 N3 hod how B3 X3 P3
    clear F8 N8
    k_steps
    rename Fr g3 _ _ _ => F9
    rename News g3 _ _ _ => N9
    k_dflt (refine rse_list tq B3 F9 X3 N9 P3 rfl ?_ ?_ (List.mem_cons_of_mem _ (List.mem_cons_self ..)) (List.mem_cons_self ..) hod how ?_)
    · show dp + 1 + 5 < recursionLimit
      omega
    · show un + 3 + 40 < cLine
      omega
    · intro e4 a4 Bs h4 tk4 hfl hBs hNs hup hns
      refine out_call FG1 T3 rfl rfl rfl hfl hBs hup ?_
      intro h5 k1 k2 k3 k4
      exact hret e4 a4 Bs h5 _ k1 k2 (fun p hp => hNs p (List.mem_cons_of_mem _ hp)) k3 k4
theorem esc4_none {w : World} {mean : ExcName → Option Value} {mg mb : Str → Option Value} (tq : Tok)
  {dp un : Nat} {cn : Str} {cs : Scope} {a : Addr} {ccd : Value} {cl : List (Str × Addr)} {outer : List Env} {A₀ : Around} {base h₀ : Heap} {L : Addr} {m : Str → Option Value} {s : Shared} {Q E : Value → Shared → Prop}
  (B : Below A₀ base outer h₀) (F : Fr h₀ L s.heap m) (X : (Mine.hd.heap_39 w.params).In h₀) (N : News h₀ L s.heap []) (T : Top Mine.hd.view_39 (looseW Mine.hd.view_39 []) mean mg mb h₀) (hk : cs.kind = .function)
  (XB : (Mine.hd.heap_39 w.params).In base) (TB : Top Mine.hd.view_39 (looseW Mine.hd.view_39 []) mean mg mb base) (hd : dp + 7 < recursionLimit) (hu : un + 60 < cLine)
  (hret : ∀ (e : Addr) (a0 : Value) (Bs h' : Heap) (tk' : Nat), Heap.FlyingW Bs (envX cn cs L a ccd cl :: outer) e (.type "TypeError") a0 h' → (∀ b o, h₀.get? b = some o → b ∉ outer.filterMap (·.frame) → Bs.get? b = some o) → (∀ p ∈ ([] : List (Addr × Obj)), Bs.get? p.1 = some p.2) →
    h₀.UpToSlots h' → h'.Ns L m → E (.ref e) { s with heap := h', toks := tk' }) :
  wpAny (model Challenge.rw_nb0120_01.row.prog w) (ktrTop dp un (some []) cn cs L a ccd cl outer) (call (.ref 63) [.none]) Q E s := by
  w_on
  revert X; k_fill; intro X
  refine wpAny_call ?_
  k_dflt (refine' code_def B F X N T ?kA ?kF ?kK ?k6 ?k7 ?k8 ?k9 ?kB ?_ ?c2 ?c3 ?c4 ?c5; (case kA => exact rfl); (case kF => exact rfl); (case kK => assumption); (case k6 => k_is); (case k7 => k_is); (case k8 => show dp < recursionLimit; omega); (case k9 => exact BindsTo.of_eq rfl); (case c5 => decide); (case kB => exact locs rfl); (case c2 => exact rfl); (case c3 => exact rfl); (case c4 => exact rfl))
  intro g1 L1 h1 FG1 F1 N1 B1 X1 T1
  dsimp only
  refine wpAny_execs_cons ?_
  refine wpAny_Try_except ?_
  k_fold
  iterate 6 walk1
  refine in_none rfl (fun h2 tk2 e2 hx2 => ?_)
  rename Fr g1 _ _ _ => F8
  rename News g1 _ _ _ => N8
  refine catchX B1 F8 N8 (newX_of hx2) XB TB rfl ?t1 ?t2 ?t3
  case t1 => refine' test_tup2 ?n1 ?n2 ?x ?hk ?k1 ?d1 ?k2 ?d2; (case n1 => kts_nm); (case n2 => kts_nm); (case x => kts_exm); (case hk => exact rfl); (case k1 => exact rfl); (case d1 => decide); (case k2 => exact rfl); (case d2 => decide)
  case t3 => passes_own
  case t2 =>
    intro h3 g3 oe ws T3 F3 N3 hod how B3 X3 P3
    clear F8 N8
    k_steps
    rename Fr g3 _ _ _ => F9
    rename News g3 _ _ _ => N9
    k_dflt (refine rse_none tq B3 F9 X3 N9 P3 rfl ?_ ?_ (List.mem_cons_self ..) hod how ?_)
    · show dp + 1 + 5 < recursionLimit
      omega
    · show un + 3 + 40 < cLine
      omega
    · intro e4 a4 Bs h4 tk4 hfl hBs hNs hup hns
      refine out_call FG1 T3 rfl rfl rfl hfl hBs hup ?_
      intro h5 k1 k2 k3 k4
      exact hret e4 a4 Bs h5 _ k1 k2 (fun p hp => hNs p (List.mem_cons_of_mem _ hp)) k3 k4
theorem esc4_int {w : World} {mean : ExcName → Option Value} {mg mb : Str → Option Value} (tq : Tok)
  {dp un : Nat} {cn : Str} {cs : Scope} {a : Addr} {ccd : Value} {cl : List (Str × Addr)} {outer : List Env} {A₀ : Around} {base h₀ : Heap} {L : Addr} {m : Str → Option Value} {s : Shared} {Q E : Value → Shared → Prop}
  (B : Below A₀ base outer h₀) (F : Fr h₀ L s.heap m) (X : (Mine.hd.heap_39 w.params).In h₀) (N : News h₀ L s.heap []) (T : Top Mine.hd.view_39 (looseW Mine.hd.view_39 []) mean mg mb h₀) (hk : cs.kind = .function)
  (XB : (Mine.hd.heap_39 w.params).In base) (TB : Top Mine.hd.view_39 (looseW Mine.hd.view_39 []) mean mg mb base) (hd : dp + 7 < recursionLimit) (hu : un + 60 < cLine)
  (hret : ∀ (e : Addr) (a0 : Value) (Bs h' : Heap) (tk' : Nat), Heap.FlyingW Bs (envX cn cs L a ccd cl :: outer) e (.type "TypeError") a0 h' → (∀ b o, h₀.get? b = some o → b ∉ outer.filterMap (·.frame) → Bs.get? b = some o) → (∀ p ∈ ([] : List (Addr × Obj)), Bs.get? p.1 = some p.2) →
    h₀.UpToSlots h' → h'.Ns L m → E (.ref e) { s with heap := h', toks := tk' }) :
  wpAny (model Challenge.rw_nb0120_01.row.prog w) (ktrTop dp un (some []) cn cs L a ccd cl outer) (call (.ref 63) [.int 5 tq]) Q E s := by
  w_on
  revert X; k_fill; intro X
  refine wpAny_call ?_
  k_dflt (refine' code_def B F X N T ?kA ?kF ?kK ?k6 ?k7 ?k8 ?k9 ?kB ?_ ?c2 ?c3 ?c4 ?c5; (case kA => exact rfl); (case kF => exact rfl); (case kK => assumption); (case k6 => k_is); (case k7 => k_is); (case k8 => show dp < recursionLimit; omega); (case k9 => exact BindsTo.of_eq rfl); (case c5 => decide); (case kB => exact locs rfl); (case c2 => exact rfl); (case c3 => exact rfl); (case c4 => exact rfl))
  intro g1 L1 h1 FG1 F1 N1 B1 X1 T1
  dsimp only
  refine wpAny_execs_cons ?_
  refine wpAny_Try_except ?_
  k_fold
  iterate 6 walk1
  refine in_int rfl (fun h2 tk2 e2 hx2 => ?_)
  rename Fr g1 _ _ _ => F8
  rename News g1 _ _ _ => N8
  refine catchX B1 F8 N8 (newX_of hx2) XB TB rfl ?t1 ?t2 ?t3
  case t1 => refine' test_tup2 ?n1 ?n2 ?x ?hk ?k1 ?d1 ?k2 ?d2; (case n1 => kts_nm); (case n2 => kts_nm); (case x => kts_exm); (case hk => exact rfl); (case k1 => exact rfl); (case d1 => decide); (case k2 => exact rfl); (case d2 => decide)
  case t3 => passes_own
  case t2 =>
    intro h3 g3 oe ws T3 F3 N3 hod how B3 X3 P3
    clear F8 N8
    k_steps
    rename Fr g3 _ _ _ => F9
    rename News g3 _ _ _ => N9
    k_dflt (refine rse_int tq B3 F9 X3 N9 P3 rfl ?_ ?_ (List.mem_cons_self ..) hod how ?_)
    · show dp + 1 + 5 < recursionLimit
      omega
    · show un + 3 + 40 < cLine
      omega
    · intro e4 a4 Bs h4 tk4 hfl hBs hNs hup hns
      refine out_call FG1 T3 rfl rfl rfl hfl hBs hup ?_
      intro h5 k1 k2 k3 k4
      exact hret e4 a4 Bs h5 _ k1 k2 (fun p hp => hNs p (List.mem_cons_of_mem _ hp)) k3 k4
theorem esc4_bytes {w : World} {mean : ExcName → Option Value} {mg mb : Str → Option Value} (tq : Tok)
  {dp un : Nat} {cn : Str} {cs : Scope} {a : Addr} {ccd : Value} {cl : List (Str × Addr)} {outer : List Env} {A₀ : Around} {base h₀ : Heap} {L : Addr} {m : Str → Option Value} {s : Shared} {Q E : Value → Shared → Prop}
  (B : Below A₀ base outer h₀) (F : Fr h₀ L s.heap m) (X : (Mine.hd.heap_39 w.params).In h₀) (N : News h₀ L s.heap []) (T : Top Mine.hd.view_39 (looseW Mine.hd.view_39 []) mean mg mb h₀) (hk : cs.kind = .function)
  (XB : (Mine.hd.heap_39 w.params).In base) (TB : Top Mine.hd.view_39 (looseW Mine.hd.view_39 []) mean mg mb base) (hd : dp + 7 < recursionLimit) (hu : un + 60 < cLine)
  (hret : ∀ (e : Addr) (a0 : Value) (Bs h' : Heap) (tk' : Nat), Heap.FlyingW Bs (envX cn cs L a ccd cl :: outer) e (.type "TypeError") a0 h' → (∀ b o, h₀.get? b = some o → b ∉ outer.filterMap (·.frame) → Bs.get? b = some o) → (∀ p ∈ ([] : List (Addr × Obj)), Bs.get? p.1 = some p.2) →
    h₀.UpToSlots h' → h'.Ns L m → E (.ref e) { s with heap := h', toks := tk' }) :
  wpAny (model Challenge.rw_nb0120_01.row.prog w) (ktrTop dp un (some []) cn cs L a ccd cl outer) (call (.ref 63) [.bytes #[97, 38] tq]) Q E s := by
  w_on
  revert X; k_fill; intro X
  refine wpAny_call ?_
  k_dflt (refine' code_def B F X N T ?kA ?kF ?kK ?k6 ?k7 ?k8 ?k9 ?kB ?_ ?c2 ?c3 ?c4 ?c5; (case kA => exact rfl); (case kF => exact rfl); (case kK => assumption); (case k6 => k_is); (case k7 => k_is); (case k8 => show dp < recursionLimit; omega); (case k9 => exact BindsTo.of_eq rfl); (case c5 => decide); (case kB => exact locs rfl); (case c2 => exact rfl); (case c3 => exact rfl); (case c4 => exact rfl))
  intro g1 L1 h1 FG1 F1 N1 B1 X1 T1
  dsimp only
  refine wpAny_execs_cons ?_
  refine wpAny_Try_except ?_
  k_fold
  iterate 6 walk1
  refine in_bytes rfl (fun h2 tk2 e2 hx2 => ?_)
  rename Fr g1 _ _ _ => F8
  rename News g1 _ _ _ => N8
  refine catchX B1 F8 N8 (newX_of hx2) XB TB rfl ?t1 ?t2 ?t3
  case t1 => refine' test_tup2 ?n1 ?n2 ?x ?hk ?k1 ?d1 ?k2 ?d2; (case n1 => kts_nm); (case n2 => kts_nm); (case x => kts_exm); (case hk => exact rfl); (case k1 => exact rfl); (case d1 => decide); (case k2 => exact rfl); (case d2 => decide)
  case t3 => passes_own
  case t2 =>
    intro h3 g3 oe ws T3 F3 N3 hod how B3 X3 P3
    clear F8 N8
    k_steps
    rename Fr g3 _ _ _ => F9
    rename News g3 _ _ _ => N9
    k_dflt (refine rse_bytes tq B3 F9 X3 N9 P3 rfl ?_ ?_ (List.mem_cons_self ..) hod how ?_)
    · show dp + 1 + 5 < recursionLimit
      omega
    · show un + 3 + 40 < cLine
      omega
    · intro e4 a4 Bs h4 tk4 hfl hBs hNs hup hns
      refine out_call FG1 T3 rfl rfl rfl hfl hBs hup ?_
      intro h5 k1 k2 k3 k4
      exact hret e4 a4 Bs h5 _ k1 k2 (fun p hp => hNs p (List.mem_cons_of_mem _ hp)) k3 k4
theorem esc4_list {w : World} {mean : ExcName → Option Value} {mg mb : Str → Option Value} (tq : Tok)
  {dp un : Nat} {cn : Str} {cs : Scope} {a : Addr} {ccd : Value} {cl : List (Str × Addr)} {outer : List Env} {A₀ : Around} {base h₀ : Heap} {L : Addr} {m : Str → Option Value} {s : Shared} {Q E : Value → Shared → Prop} {lq : Addr} {nq : Nat}
  (B : Below A₀ base outer h₀) (F : Fr h₀ L s.heap m) (X : (Mine.hd.heap_39 w.params).In h₀) (N : News h₀ L s.heap [(lq, listOf #[.str (Str.ofString "&") tq] nq)]) (T : Top Mine.hd.view_39 (looseW Mine.hd.view_39 []) mean mg mb h₀) (hk : cs.kind = .function)
  (XB : (Mine.hd.heap_39 w.params).In base) (TB : Top Mine.hd.view_39 (looseW Mine.hd.view_39 []) mean mg mb base) (hd : dp + 7 < recursionLimit) (hu : un + 60 < cLine)
  (hret : ∀ (e : Addr) (a0 : Value) (Bs h' : Heap) (tk' : Nat), Heap.FlyingW Bs (envX cn cs L a ccd cl :: outer) e (.type "TypeError") a0 h' → (∀ b o, h₀.get? b = some o → b ∉ outer.filterMap (·.frame) → Bs.get? b = some o) → (∀ p ∈ ([(lq, listOf #[.str (Str.ofString "&") tq] nq)] : List (Addr × Obj)), Bs.get? p.1 = some p.2) →
    h₀.UpToSlots h' → h'.Ns L m → E (.ref e) { s with heap := h', toks := tk' }) :
  wpAny (model Challenge.rw_nb0120_01.row.prog w) (ktrTop dp un (some []) cn cs L a ccd cl outer) (call (.ref 63) [.ref lq]) Q E s := by
  w_on
  revert X; k_fill; intro X
  refine wpAny_call ?_
  k_dflt (refine' code_def B F X N T ?kA ?kF ?kK ?k6 ?k7 ?k8 ?k9 ?kB ?_ ?c2 ?c3 ?c4 ?c5; (case kA => exact rfl); (case kF => exact rfl); (case kK => assumption); (case k6 => k_is); (case k7 => k_is); (case k8 => show dp < recursionLimit; omega); (case k9 => exact BindsTo.of_eq rfl); (case c5 => decide); (case kB => exact locs rfl); (case c2 => exact rfl); (case c3 => exact rfl); (case c4 => exact rfl))
  intro g1 L1 h1 FG1 F1 N1 B1 X1 T1
  dsimp only
  refine wpAny_execs_cons ?_
  refine wpAny_Try_except ?_
  k_fold
  iterate 14 walk1
  rename News g1 _ _ _ => N7
  have ho7 := (N7 _ (List.mem_cons_self ..)).1
  refine list_miss ho7 rfl (fun h2 tk2 e2 hx2 => ?_)
  rename Fr g1 _ _ _ => F8
  rename News g1 _ _ _ => N8
  refine catchX B1 F8 N8 hx2 XB TB rfl ?t1 ?t2 ?t3
  case t1 => refine' test_tup2 ?n1 ?n2 ?x ?hk ?k1 ?d1 ?k2 ?d2; (case n1 => kts_nm); (case n2 => kts_nm); (case x => kts_exm); (case hk => exact rfl); (case k1 => exact rfl); (case d1 => decide); (case k2 => exact rfl); (case d2 => decide)
  case t3 => passes_own
  case t2 =>
    intro h3 g3 oe ws T3 F3 N3 hod how B3 X3 P3
    clear F8 N8
    k_steps
    rename Fr g3 _ _ _ => F9
    rename News g3 _ _ _ => N9
    k_dflt (refine rse_list tq B3 F9 X3 N9 P3 rfl ?_ ?_ (List.mem_cons_of_mem _ (List.mem_cons_self ..)) (List.mem_cons_self ..) hod how ?_)
    · show dp + 1 + 5 < recursionLimit
      omega
    · show un + 3 + 40 < cLine
      omega
    · intro e4 a4 Bs h4 tk4 hfl hBs hNs hup hns
      refine out_call FG1 T3 rfl rfl rfl hfl hBs hup ?_
      intro h5 k1 k2 k3 k4
      exact hret e4 a4 Bs h5 _ k1 k2 (fun p hp => hNs p (List.mem_cons_of_mem _ hp)) k3 k4
end Mine
end
section
open PySem PySem.W PyProof.Rows PySem.Calls
set_option maxRecDepth 100000
set_option maxHeartbeats 800000
namespace Mine
section
variable {prog : Program} {w : World} {A A₀ : Around} {s : Shared} {K : Frag} {L : Addr} {h₀ base : Heap} {m mg mb : Str → Option Value} {p : Program} {loose : List Str} {mean : ExcName → Option Value} {news : List (Addr × Obj)} {env : Env} {outer : List Env}
/-- entering a def, its ground the whole heap but for a ledger that it is to know -/
theorem code_def1 {R : Result → Shared → Prop} {name qual : Str} {params : Arguments} {body : List Stmt} {scope : Scope} {dV kV doc pm cdv ct oc : Value} {an od : Option Addr} {osl : Array (Option Value)} {f : Addr} {args : Args} {binds : List (Str × Value)}
    (B : Below A₀ base outer h₀) (F : Fr h₀ L s.heap m) (X₀ : K.In h₀) (N : News h₀ L s.heap news) (T : Top p loose mean mg mb h₀) (hA : A.frames = some (env :: outer)) (hf : env.frame = some L) (hke : env.scope.kind = .function)
    (ho : K.lookup f = some ⟨oc, od, .func (fnOf name qual params body scope dV kV doc pm an cdv ct), osl⟩) (hcd : codeIn K cdv qual = true) (hroom : A.depth < recursionLimit)
    (hbind : BindsTo s (fnOf name qual params body scope dV kV doc pm an cdv ct) args binds) (hloc : ∀ y ∈ binds, scope.names.lookup y.1 = some .local)
    (h : ∀ g L' h₁, (∀ b o, s.heap.get? b = some o → b ∉ news.map (·.1) → g.get? b = some o) → s.heap.UpToSlots h₁ → L < L' → Fr h₀ L g m → Fr g L' h₁ (fun y => binds.reverse.lookup y) → News g L' h₁ news → Below A base (env :: outer) g → K.In g → Top p loose mean mg mb g →
      wpAny (model prog w) (A.deeper (envOf qual scope L' f cdv)) (execs body (envOf qual scope L' f cdv))
        (fun fl s' => R (.ok (.ret (match fl with | .ret v => v | _ => .none))) s')
        (fun e s' => wpAny (model prog w) (A.deeper (envOf qual scope L' f cdv)) (leaving (envOf qual scope L' f cdv) e) (fun _ s'' => R (.error e) s'') (fun e' s'' => R (.error e') s'') s')
        { s with heap := h₁, toks := s.toks + binds.length })
    (hco : scope.isCoroutine = false) (hgen : scope.isGenerator = false) (hk : scope.kind = .function)
    (hcell : ∀ x ∈ scope.names, x.2 ≠ .cell) : codeAny (model prog w) A (.call (.ref f) args) R s := by
  obtain ⟨FG, BG, st, _⟩ := groundX (R := R) B F N hA hf hke
  have X := X₀.keeps F.keep
  refine codeAny_call_def (fd := fnOf name qual params body scope dV kV doc pm an cdv ct) (body := body) (binds := binds) hroom (X _ _ ho) rfl (T.nolimit.keeps F.keep) (codeRec_of X hcd) rfl hbind hcell hloc (fun h₁ hns hk₁ => ?_) hco hgen hk
  refine h _ s.heap.objs.size h₁ (fun b o q n => hideAll_get _ q n) (Heap.UpToSlots.of_keeps hk₁) F.ns.lt FG ⟨hns, fun b o e => hk₁ b o (of_hideAll _ e), Nat.le_of_eq (hideAll_size _ _)⟩ (fun p hp => ⟨hk₁ _ _ (N p hp).1, Nat.ne_of_lt (Heap.lt_size (N p hp).1), hideAll_none _ (List.mem_map.mpr ⟨p, hp, rfl⟩)⟩) BG (X₀.keeps st) (T.keeps st)
end
theorem te_exc : isSubtype (.type "TypeError") (.type "BaseException") = pure true := by rw [isSubtype_type]; kernel_rfl
theorem te_self : isSubtype (.type "TypeError") (.type "TypeError") = pure true := by rw [isSubtype_type]; kernel_rfl
theorem te_nt : isSubtype (.type ((Manifest.find? "TypeError").elim "type" fun x => x.metatype)) (.type "tuple") = pure false := by
  rw [show ((Manifest.find? "TypeError").elim "type" fun x => x.metatype) = "type" from by decide +kernel, isSubtype_type]; kernel_rfl
theorem ref0_none {w : World} {mean : ExcName → Option Value} {mg mb : Str → Option Value} (tq : Tok)
  {dp un : Nat} {cn : Str} {cs : Scope} {a : Addr} {ccd : Value} {cl : List (Str × Addr)} {A₀ : Around} {base h₀ : Heap} {L : Addr} {m : Str → Option Value} {news : List (Addr × Obj)} {s : Shared} {Q E : Value → Shared → Prop}
  (B : Below A₀ base [] h₀) (F : Fr h₀ L s.heap m) (X : (Mine.hd.heap_39 w.params).In h₀) (N : News h₀ L s.heap news) (T : Top Mine.hd.view_39 (looseW Mine.hd.view_39 []) mean mg mb h₀) (hk : cs.kind = .function)
  (hd : dp + 8 < recursionLimit) (hu : un + 70 < cLine)
  (hret : ∀ (h' : Heap) (tk' : Nat), Fr h₀ L h' m → News h₀ L h' news → Q (.bool true) { s with heap := h', toks := tk' }) :
  wpAny (model Challenge.rw_nb0120_01.row.prog w) (ktrTop dp un (some []) cn cs L a ccd cl []) (call (.ref 96) [.ref 35, .none, .type "TypeError"]) Q E s := by
  w_on
  revert X; k_fill; intro X
  refine wpAny_call ?_
  have B0 : Below A₀ h₀ [] h₀ := ⟨B.stack, fun _ _ e => e, trivial⟩
  have N0 : News h₀ L s.heap [] := News.nil
  k_dflt (refine' code_def1 B0 F X N0 T ?kA ?kF ?kK ?k6 ?k7 ?k8 ?k9 ?kB ?_ ?c2 ?c3 ?c4 ?c5; (case kA => exact rfl); (case kF => exact rfl); (case kK => assumption); (case k6 => k_is); (case k7 => k_is); (case k8 => show dp < recursionLimit; omega); (case k9 => exact BindsTo.of_eq rfl); (case c5 => decide); (case kB => exact locs rfl); (case c2 => exact rfl); (case c3 => exact rfl); (case c4 => exact rfl))
  intro g1 L1 h1 hg1 hu1 hLL FG1 F1 N1 B1 X1 T1
  dsimp only
  k_fold
  refine wpAny_execs_cons ?_
  refine wpAny_Try_except ?_
  refine wpAny_execs_cons ?_
  k_steps
  rename Fr g1 _ _ _ => F8
  rename News g1 _ _ _ => N8
  k_dflt (refine esc0_none tq B1 F8 X1 N8 T1 rfl X T ?_ ?_ ?_)
  · show dp + 1 + 7 < recursionLimit
    omega
  · show un + 3 + 60 < cLine
    omega
  · intro e a0 Bs h2 tk2 hfl hBs hNs hup hns
    have hBs' : ∀ b o, s.heap.get? b = some o → b ≠ L → Bs.get? b = some o := fun b o hb hne => hBs b o (hg1 b o hb (by simp)) (by simpa using hne)
    dsimp only
    refine wpAny_looks_onW rfl rfl hfl (fun h3 hh3 hu3 => ?_)
    refine wpAny_landsW hh3 (fun h4 hfl4 hu4 => ?_)
    have F4 : Fr h₀ L1 h4 _ := ⟨hu4.ns (hu3.ns hns), fun b o q => hfl4.1 b o (hBs' b o (F.keep b o q) (Nat.ne_of_lt (Nat.lt_of_lt_of_le (Heap.lt_size q) F.above))), Nat.le_of_lt (Nat.lt_of_le_of_lt F.above hLL)⟩
    refine wpAny_handleBy_builtin (X := "TypeError") (T := "TypeError") (b := true) te_exc te_nt te_self ?_
    clear F8 N8
    walk1
    refine ⟨rfl, flying_type hfl4, ?_⟩
    rw [if_pos rfl]
    refine lands hfl4 (fun h5 hfl5 hu5 => ?_)
    refine wpAny_execs_cons (wpAny_Return_some ?_)
    walk1
    have hup0 : s.heap.UpToSlots h2 := fun b o hb hn => hup b o (hg1 b o hb (by simp)) hn
    obtain ⟨F5, N5⟩ := back_home F N hBs' hfl5.1 (((hup0.trans hu3).trans hu4).trans hu5)
    exact hret h5 _ F5 N5
theorem ref0_int {w : World} {mean : ExcName → Option Value} {mg mb : Str → Option Value} (tq : Tok)
  {dp un : Nat} {cn : Str} {cs : Scope} {a : Addr} {ccd : Value} {cl : List (Str × Addr)} {A₀ : Around} {base h₀ : Heap} {L : Addr} {m : Str → Option Value} {news : List (Addr × Obj)} {s : Shared} {Q E : Value → Shared → Prop}
  (B : Below A₀ base [] h₀) (F : Fr h₀ L s.heap m) (X : (Mine.hd.heap_39 w.params).In h₀) (N : News h₀ L s.heap news) (T : Top Mine.hd.view_39 (looseW Mine.hd.view_39 []) mean mg mb h₀) (hk : cs.kind = .function)
  (hd : dp + 8 < recursionLimit) (hu : un + 70 < cLine)
  (hret : ∀ (h' : Heap) (tk' : Nat), Fr h₀ L h' m → News h₀ L h' news → Q (.bool true) { s with heap := h', toks := tk' }) :
  wpAny (model Challenge.rw_nb0120_01.row.prog w) (ktrTop dp un (some []) cn cs L a ccd cl []) (call (.ref 96) [.ref 35, .int 5 tq, .type "TypeError"]) Q E s := by
  w_on
  revert X; k_fill; intro X
  refine wpAny_call ?_
  have B0 : Below A₀ h₀ [] h₀ := ⟨B.stack, fun _ _ e => e, trivial⟩
  have N0 : News h₀ L s.heap [] := News.nil
  k_dflt (refine' code_def1 B0 F X N0 T ?kA ?kF ?kK ?k6 ?k7 ?k8 ?k9 ?kB ?_ ?c2 ?c3 ?c4 ?c5; (case kA => exact rfl); (case kF => exact rfl); (case kK => assumption); (case k6 => k_is); (case k7 => k_is); (case k8 => show dp < recursionLimit; omega); (case k9 => exact BindsTo.of_eq rfl); (case c5 => decide); (case kB => exact locs rfl); (case c2 => exact rfl); (case c3 => exact rfl); (case c4 => exact rfl))
  intro g1 L1 h1 hg1 hu1 hLL FG1 F1 N1 B1 X1 T1
  dsimp only
  k_fold
  refine wpAny_execs_cons ?_
  refine wpAny_Try_except ?_
  refine wpAny_execs_cons ?_
  k_steps
  rename Fr g1 _ _ _ => F8
  rename News g1 _ _ _ => N8
  k_dflt (refine esc0_int tq B1 F8 X1 N8 T1 rfl X T ?_ ?_ ?_)
  · show dp + 1 + 7 < recursionLimit
    omega
  · show un + 3 + 60 < cLine
    omega
  · intro e a0 Bs h2 tk2 hfl hBs hNs hup hns
    have hBs' : ∀ b o, s.heap.get? b = some o → b ≠ L → Bs.get? b = some o := fun b o hb hne => hBs b o (hg1 b o hb (by simp)) (by simpa using hne)
    dsimp only
    refine wpAny_looks_onW rfl rfl hfl (fun h3 hh3 hu3 => ?_)
    refine wpAny_landsW hh3 (fun h4 hfl4 hu4 => ?_)
    have F4 : Fr h₀ L1 h4 _ := ⟨hu4.ns (hu3.ns hns), fun b o q => hfl4.1 b o (hBs' b o (F.keep b o q) (Nat.ne_of_lt (Nat.lt_of_lt_of_le (Heap.lt_size q) F.above))), Nat.le_of_lt (Nat.lt_of_le_of_lt F.above hLL)⟩
    refine wpAny_handleBy_builtin (X := "TypeError") (T := "TypeError") (b := true) te_exc te_nt te_self ?_
    clear F8 N8
    walk1
    refine ⟨rfl, flying_type hfl4, ?_⟩
    rw [if_pos rfl]
    refine lands hfl4 (fun h5 hfl5 hu5 => ?_)
    refine wpAny_execs_cons (wpAny_Return_some ?_)
    walk1
    have hup0 : s.heap.UpToSlots h2 := fun b o hb hn => hup b o (hg1 b o hb (by simp)) hn
    obtain ⟨F5, N5⟩ := back_home F N hBs' hfl5.1 (((hup0.trans hu3).trans hu4).trans hu5)
    exact hret h5 _ F5 N5
theorem ref0_bytes {w : World} {mean : ExcName → Option Value} {mg mb : Str → Option Value} (tq : Tok)
  {dp un : Nat} {cn : Str} {cs : Scope} {a : Addr} {ccd : Value} {cl : List (Str × Addr)} {A₀ : Around} {base h₀ : Heap} {L : Addr} {m : Str → Option Value} {news : List (Addr × Obj)} {s : Shared} {Q E : Value → Shared → Prop}
  (B : Below A₀ base [] h₀) (F : Fr h₀ L s.heap m) (X : (Mine.hd.heap_39 w.params).In h₀) (N : News h₀ L s.heap news) (T : Top Mine.hd.view_39 (looseW Mine.hd.view_39 []) mean mg mb h₀) (hk : cs.kind = .function)
  (hd : dp + 8 < recursionLimit) (hu : un + 70 < cLine)
  (hret : ∀ (h' : Heap) (tk' : Nat), Fr h₀ L h' m → News h₀ L h' news → Q (.bool true) { s with heap := h', toks := tk' }) :
  wpAny (model Challenge.rw_nb0120_01.row.prog w) (ktrTop dp un (some []) cn cs L a ccd cl []) (call (.ref 96) [.ref 35, .bytes #[97, 38] tq, .type "TypeError"]) Q E s := by
  w_on
  revert X; k_fill; intro X
  refine wpAny_call ?_
  have B0 : Below A₀ h₀ [] h₀ := ⟨B.stack, fun _ _ e => e, trivial⟩
  have N0 : News h₀ L s.heap [] := News.nil
  k_dflt (refine' code_def1 B0 F X N0 T ?kA ?kF ?kK ?k6 ?k7 ?k8 ?k9 ?kB ?_ ?c2 ?c3 ?c4 ?c5; (case kA => exact rfl); (case kF => exact rfl); (case kK => assumption); (case k6 => k_is); (case k7 => k_is); (case k8 => show dp < recursionLimit; omega); (case k9 => exact BindsTo.of_eq rfl); (case c5 => decide); (case kB => exact locs rfl); (case c2 => exact rfl); (case c3 => exact rfl); (case c4 => exact rfl))
  intro g1 L1 h1 hg1 hu1 hLL FG1 F1 N1 B1 X1 T1
  dsimp only
  k_fold
  refine wpAny_execs_cons ?_
  refine wpAny_Try_except ?_
  refine wpAny_execs_cons ?_
  k_steps
  rename Fr g1 _ _ _ => F8
  rename News g1 _ _ _ => N8
  k_dflt (refine esc0_bytes tq B1 F8 X1 N8 T1 rfl X T ?_ ?_ ?_)
  · show dp + 1 + 7 < recursionLimit
    omega
  · show un + 3 + 60 < cLine
    omega
  · intro e a0 Bs h2 tk2 hfl hBs hNs hup hns
    have hBs' : ∀ b o, s.heap.get? b = some o → b ≠ L → Bs.get? b = some o := fun b o hb hne => hBs b o (hg1 b o hb (by simp)) (by simpa using hne)
    dsimp only
    refine wpAny_looks_onW rfl rfl hfl (fun h3 hh3 hu3 => ?_)
    refine wpAny_landsW hh3 (fun h4 hfl4 hu4 => ?_)
    have F4 : Fr h₀ L1 h4 _ := ⟨hu4.ns (hu3.ns hns), fun b o q => hfl4.1 b o (hBs' b o (F.keep b o q) (Nat.ne_of_lt (Nat.lt_of_lt_of_le (Heap.lt_size q) F.above))), Nat.le_of_lt (Nat.lt_of_le_of_lt F.above hLL)⟩
    refine wpAny_handleBy_builtin (X := "TypeError") (T := "TypeError") (b := true) te_exc te_nt te_self ?_
    clear F8 N8
    walk1
    refine ⟨rfl, flying_type hfl4, ?_⟩
    rw [if_pos rfl]
    refine lands hfl4 (fun h5 hfl5 hu5 => ?_)
    refine wpAny_execs_cons (wpAny_Return_some ?_)
    walk1
    have hup0 : s.heap.UpToSlots h2 := fun b o hb hn => hup b o (hg1 b o hb (by simp)) hn
    obtain ⟨F5, N5⟩ := back_home F N hBs' hfl5.1 (((hup0.trans hu3).trans hu4).trans hu5)
    exact hret h5 _ F5 N5
theorem ref0_list {w : World} {mean : ExcName → Option Value} {mg mb : Str → Option Value} (tq : Tok)
  {dp un : Nat} {cn : Str} {cs : Scope} {a : Addr} {ccd : Value} {cl : List (Str × Addr)} {A₀ : Around} {base h₀ : Heap} {L : Addr} {m : Str → Option Value} {news : List (Addr × Obj)} {s : Shared} {Q E : Value → Shared → Prop} {lq : Addr} {nq : Nat}
  (B : Below A₀ base [] h₀) (F : Fr h₀ L s.heap m) (X : (Mine.hd.heap_39 w.params).In h₀) (N : News h₀ L s.heap news) (T : Top Mine.hd.view_39 (looseW Mine.hd.view_39 []) mean mg mb h₀) (hk : cs.kind = .function)
  (hd : dp + 8 < recursionLimit) (hu : un + 70 < cLine) (hq : (lq, listOf #[.str (Str.ofString "&") tq] nq) ∈ news)
  (hret : ∀ (h' : Heap) (tk' : Nat), Fr h₀ L h' m → News h₀ L h' news → Q (.bool true) { s with heap := h', toks := tk' }) :
  wpAny (model Challenge.rw_nb0120_01.row.prog w) (ktrTop dp un (some []) cn cs L a ccd cl []) (call (.ref 96) [.ref 35, .ref lq, .type "TypeError"]) Q E s := by
  w_on
  revert X; k_fill; intro X
  refine wpAny_call ?_
  have B0 : Below A₀ h₀ [] h₀ := ⟨B.stack, fun _ _ e => e, trivial⟩
  have N0 : News h₀ L s.heap [(lq, listOf #[.str (Str.ofString "&") tq] nq)] := fun p hp => N p (by rw [List.mem_singleton.mp hp]; exact hq)
  k_dflt (refine' code_def1 B0 F X N0 T ?kA ?kF ?kK ?k6 ?k7 ?k8 ?k9 ?kB ?_ ?c2 ?c3 ?c4 ?c5; (case kA => exact rfl); (case kF => exact rfl); (case kK => assumption); (case k6 => k_is); (case k7 => k_is); (case k8 => show dp < recursionLimit; omega); (case k9 => exact BindsTo.of_eq rfl); (case c5 => decide); (case kB => exact locs rfl); (case c2 => exact rfl); (case c3 => exact rfl); (case c4 => exact rfl))
  intro g1 L1 h1 hg1 hu1 hLL FG1 F1 N1 B1 X1 T1
  dsimp only
  k_fold
  refine wpAny_execs_cons ?_
  refine wpAny_Try_except ?_
  refine wpAny_execs_cons ?_
  k_steps
  rename Fr g1 _ _ _ => F8
  rename News g1 _ _ _ => N8
  k_dflt (refine esc0_list tq B1 F8 X1 N8 T1 rfl X T ?_ ?_ ?_)
  · show dp + 1 + 7 < recursionLimit
    omega
  · show un + 3 + 60 < cLine
    omega
  · intro e a0 Bs h2 tk2 hfl hBs hNs hup hns
    have hBs' : ∀ b o, s.heap.get? b = some o → b ≠ L → Bs.get? b = some o := fun b o hb hne => by
      by_cases hl : b = lq
      · subst hl
        have e1 := hNs _ (List.mem_cons_self ..)
        rw [show o = _ from Option.some.inj (hb.symm.trans (N _ hq).1)]
        exact e1
      · exact hBs b o (hg1 b o hb (by simpa using hl)) (by simpa using hne)
    dsimp only
    refine wpAny_looks_onW rfl rfl hfl (fun h3 hh3 hu3 => ?_)
    refine wpAny_landsW hh3 (fun h4 hfl4 hu4 => ?_)
    have F4 : Fr h₀ L1 h4 _ := ⟨hu4.ns (hu3.ns hns), fun b o q => hfl4.1 b o (hBs' b o (F.keep b o q) (Nat.ne_of_lt (Nat.lt_of_lt_of_le (Heap.lt_size q) F.above))), Nat.le_of_lt (Nat.lt_of_le_of_lt F.above hLL)⟩
    refine wpAny_handleBy_builtin (X := "TypeError") (T := "TypeError") (b := true) te_exc te_nt te_self ?_
    clear F8 N8
    walk1
    refine ⟨rfl, flying_type hfl4, ?_⟩
    rw [if_pos rfl]
    refine lands hfl4 (fun h5 hfl5 hu5 => ?_)
    refine wpAny_execs_cons (wpAny_Return_some ?_)
    walk1
    have hup0 : s.heap.UpToSlots h2 := fun b o hb hn => by
      by_cases hl : b = lq
      · exact ⟨o.slots, hfl.1 b o (hBs' b o hb (by rw [hl]; exact (N _ hq).2.1))⟩
      · exact hup b o (hg1 b o hb (by simpa using hl)) hn
    obtain ⟨F5, N5⟩ := back_home F N hBs' hfl5.1 (((hup0.trans hu3).trans hu4).trans hu5)
    exact hret h5 _ F5 N5
theorem ref1_none {w : World} {mean : ExcName → Option Value} {mg mb : Str → Option Value} (tq : Tok)
  {dp un : Nat} {cn : Str} {cs : Scope} {a : Addr} {ccd : Value} {cl : List (Str × Addr)} {A₀ : Around} {base h₀ : Heap} {L : Addr} {m : Str → Option Value} {news : List (Addr × Obj)} {s : Shared} {Q E : Value → Shared → Prop}
  (B : Below A₀ base [] h₀) (F : Fr h₀ L s.heap m) (X : (Mine.hd.heap_39 w.params).In h₀) (N : News h₀ L s.heap news) (T : Top Mine.hd.view_39 (looseW Mine.hd.view_39 []) mean mg mb h₀) (hk : cs.kind = .function)
  (hd : dp + 8 < recursionLimit) (hu : un + 70 < cLine)
  (hret : ∀ (h' : Heap) (tk' : Nat), Fr h₀ L h' m → News h₀ L h' news → Q (.bool true) { s with heap := h', toks := tk' }) :
  wpAny (model Challenge.rw_nb0120_01.row.prog w) (ktrTop dp un (some []) cn cs L a ccd cl []) (call (.ref 96) [.ref 42, .none, .type "TypeError"]) Q E s := by
  w_on
  revert X; k_fill; intro X
  refine wpAny_call ?_
  have B0 : Below A₀ h₀ [] h₀ := ⟨B.stack, fun _ _ e => e, trivial⟩
  have N0 : News h₀ L s.heap [] := News.nil
  k_dflt (refine' code_def1 B0 F X N0 T ?kA ?kF ?kK ?k6 ?k7 ?k8 ?k9 ?kB ?_ ?c2 ?c3 ?c4 ?c5; (case kA => exact rfl); (case kF => exact rfl); (case kK => assumption); (case k6 => k_is); (case k7 => k_is); (case k8 => show dp < recursionLimit; omega); (case k9 => exact BindsTo.of_eq rfl); (case c5 => decide); (case kB => exact locs rfl); (case c2 => exact rfl); (case c3 => exact rfl); (case c4 => exact rfl))
  intro g1 L1 h1 hg1 hu1 hLL FG1 F1 N1 B1 X1 T1
  dsimp only
  k_fold
  refine wpAny_execs_cons ?_
  refine wpAny_Try_except ?_
  refine wpAny_execs_cons ?_
  k_steps
  rename Fr g1 _ _ _ => F8
  rename News g1 _ _ _ => N8
  k_dflt (refine esc1_none tq B1 F8 X1 N8 T1 rfl X T ?_ ?_ ?_)
  · show dp + 1 + 7 < recursionLimit
    omega
  · show un + 3 + 60 < cLine
    omega
  · intro e a0 Bs h2 tk2 hfl hBs hNs hup hns
    have hBs' : ∀ b o, s.heap.get? b = some o → b ≠ L → Bs.get? b = some o := fun b o hb hne => hBs b o (hg1 b o hb (by simp)) (by simpa using hne)
    dsimp only
    refine wpAny_looks_onW rfl rfl hfl (fun h3 hh3 hu3 => ?_)
    refine wpAny_landsW hh3 (fun h4 hfl4 hu4 => ?_)
    have F4 : Fr h₀ L1 h4 _ := ⟨hu4.ns (hu3.ns hns), fun b o q => hfl4.1 b o (hBs' b o (F.keep b o q) (Nat.ne_of_lt (Nat.lt_of_lt_of_le (Heap.lt_size q) F.above))), Nat.le_of_lt (Nat.lt_of_le_of_lt F.above hLL)⟩
    refine wpAny_handleBy_builtin (X := "TypeError") (T := "TypeError") (b := true) te_exc te_nt te_self ?_
    clear F8 N8
    walk1
    refine ⟨rfl, flying_type hfl4, ?_⟩
    rw [if_pos rfl]
    refine lands hfl4 (fun h5 hfl5 hu5 => ?_)
    refine wpAny_execs_cons (wpAny_Return_some ?_)
    walk1
    have hup0 : s.heap.UpToSlots h2 := fun b o hb hn => hup b o (hg1 b o hb (by simp)) hn
    obtain ⟨F5, N5⟩ := back_home F N hBs' hfl5.1 (((hup0.trans hu3).trans hu4).trans hu5)
    exact hret h5 _ F5 N5
theorem ref1_int {w : World} {mean : ExcName → Option Value} {mg mb : Str → Option Value} (tq : Tok)
  {dp un : Nat} {cn : Str} {cs : Scope} {a : Addr} {ccd : Value} {cl : List (Str × Addr)} {A₀ : Around} {base h₀ : Heap} {L : Addr} {m : Str → Option Value} {news : List (Addr × Obj)} {s : Shared} {Q E : Value → Shared → Prop}
  (B : Below A₀ base [] h₀) (F : Fr h₀ L s.heap m) (X : (Mine.hd.heap_39 w.params).In h₀) (N : News h₀ L s.heap news) (T : Top Mine.hd.view_39 (looseW Mine.hd.view_39 []) mean mg mb h₀) (hk : cs.kind = .function)
  (hd : dp + 8 < recursionLimit) (hu : un + 70 < cLine)
  (hret : ∀ (h' : Heap) (tk' : Nat), Fr h₀ L h' m → News h₀ L h' news → Q (.bool true) { s with heap := h', toks := tk' }) :
  wpAny (model Challenge.rw_nb0120_01.row.prog w) (ktrTop dp un (some []) cn cs L a ccd cl []) (call (.ref 96) [.ref 42, .int 5 tq, .type "TypeError"]) Q E s := by
  w_on
  revert X; k_fill; intro X
  refine wpAny_call ?_
  have B0 : Below A₀ h₀ [] h₀ := ⟨B.stack, fun _ _ e => e, trivial⟩
  have N0 : News h₀ L s.heap [] := News.nil
  k_dflt (refine' code_def1 B0 F X N0 T ?kA ?kF ?kK ?k6 ?k7 ?k8 ?k9 ?kB ?_ ?c2 ?c3 ?c4 ?c5; (case kA => exact rfl); (case kF => exact rfl); (case kK => assumption); (case k6 => k_is); (case k7 => k_is); (case k8 => show dp < recursionLimit; omega); (case k9 => exact BindsTo.of_eq rfl); (case c5 => decide); (case kB => exact locs rfl); (case c2 => exact rfl); (case c3 => exact rfl); (case c4 => exact rfl))
  intro g1 L1 h1 hg1 hu1 hLL FG1 F1 N1 B1 X1 T1
  dsimp only
  k_fold
  refine wpAny_execs_cons ?_
  refine wpAny_Try_except ?_
  refine wpAny_execs_cons ?_
  k_steps
  rename Fr g1 _ _ _ => F8
  rename News g1 _ _ _ => N8
  k_dflt (refine esc1_int tq B1 F8 X1 N8 T1 rfl X T ?_ ?_ ?_)
  · show dp + 1 + 7 < recursionLimit
    omega
  · show un + 3 + 60 < cLine
    omega
  · intro e a0 Bs h2 tk2 hfl hBs hNs hup hns
    have hBs' : ∀ b o, s.heap.get? b = some o → b ≠ L → Bs.get? b = some o := fun b o hb hne => hBs b o (hg1 b o hb (by simp)) (by simpa using hne)
    dsimp only
    refine wpAny_looks_onW rfl rfl hfl (fun h3 hh3 hu3 => ?_)
    refine wpAny_landsW hh3 (fun h4 hfl4 hu4 => ?_)
    have F4 : Fr h₀ L1 h4 _ := ⟨hu4.ns (hu3.ns hns), fun b o q => hfl4.1 b o (hBs' b o (F.keep b o q) (Nat.ne_of_lt (Nat.lt_of_lt_of_le (Heap.lt_size q) F.above))), Nat.le_of_lt (Nat.lt_of_le_of_lt F.above hLL)⟩
    refine wpAny_handleBy_builtin (X := "TypeError") (T := "TypeError") (b := true) te_exc te_nt te_self ?_
    clear F8 N8
    walk1
    refine ⟨rfl, flying_type hfl4, ?_⟩
    rw [if_pos rfl]
    refine lands hfl4 (fun h5 hfl5 hu5 => ?_)
    refine wpAny_execs_cons (wpAny_Return_some ?_)
    walk1
    have hup0 : s.heap.UpToSlots h2 := fun b o hb hn => hup b o (hg1 b o hb (by simp)) hn
    obtain ⟨F5, N5⟩ := back_home F N hBs' hfl5.1 (((hup0.trans hu3).trans hu4).trans hu5)
    exact hret h5 _ F5 N5
theorem ref1_bytes {w : World} {mean : ExcName → Option Value} {mg mb : Str → Option Value} (tq : Tok)
  {dp un : Nat} {cn : Str} {cs : Scope} {a : Addr} {ccd : Value} {cl : List (Str × Addr)} {A₀ : Around} {base h₀ : Heap} {L : Addr} {m : Str → Option Value} {news : List (Addr × Obj)} {s : Shared} {Q E : Value → Shared → Prop}
  (B : Below A₀ base [] h₀) (F : Fr h₀ L s.heap m) (X : (Mine.hd.heap_39 w.params).In h₀) (N : News h₀ L s.heap news) (T : Top Mine.hd.view_39 (looseW Mine.hd.view_39 []) mean mg mb h₀) (hk : cs.kind = .function)
  (hd : dp + 8 < recursionLimit) (hu : un + 70 < cLine)
  (hret : ∀ (h' : Heap) (tk' : Nat), Fr h₀ L h' m → News h₀ L h' news → Q (.bool true) { s with heap := h', toks := tk' }) :
  wpAny (model Challenge.rw_nb0120_01.row.prog w) (ktrTop dp un (some []) cn cs L a ccd cl []) (call (.ref 96) [.ref 42, .bytes #[97, 38] tq, .type "TypeError"]) Q E s := by
  w_on
  revert X; k_fill; intro X
  refine wpAny_call ?_
  have B0 : Below A₀ h₀ [] h₀ := ⟨B.stack, fun _ _ e => e, trivial⟩
  have N0 : News h₀ L s.heap [] := News.nil
  k_dflt (refine' code_def1 B0 F X N0 T ?kA ?kF ?kK ?k6 ?k7 ?k8 ?k9 ?kB ?_ ?c2 ?c3 ?c4 ?c5; (case kA => exact rfl); (case kF => exact rfl); (case kK => assumption); (case k6 => k_is); (case k7 => k_is); (case k8 => show dp < recursionLimit; omega); (case k9 => exact BindsTo.of_eq rfl); (case c5 => decide); (case kB => exact locs rfl); (case c2 => exact rfl); (case c3 => exact rfl); (case c4 => exact rfl))
  intro g1 L1 h1 hg1 hu1 hLL FG1 F1 N1 B1 X1 T1
  dsimp only
  k_fold
  refine wpAny_execs_cons ?_
  refine wpAny_Try_except ?_
  refine wpAny_execs_cons ?_
  k_steps
  rename Fr g1 _ _ _ => F8
  rename News g1 _ _ _ => N8
  k_dflt (refine esc1_bytes tq B1 F8 X1 N8 T1 rfl X T ?_ ?_ ?_)
  · show dp + 1 + 7 < recursionLimit
    omega
  · show un + 3 + 60 < cLine
    omega
  · intro e a0 Bs h2 tk2 hfl hBs hNs hup hns
    have hBs' : ∀ b o, s.heap.get? b = some o → b ≠ L → Bs.get? b = some o := fun b o hb hne => hBs b o (hg1 b o hb (by simp)) (by simpa using hne)
    dsimp only
    refine wpAny_looks_onW rfl rfl hfl (fun h3 hh3 hu3 => ?_)
    refine wpAny_landsW hh3 (fun h4 hfl4 hu4 => ?_)
    have F4 : Fr h₀ L1 h4 _ := ⟨hu4.ns (hu3.ns hns), fun b o q => hfl4.1 b o (hBs' b o (F.keep b o q) (Nat.ne_of_lt (Nat.lt_of_lt_of_le (Heap.lt_size q) F.above))), Nat.le_of_lt (Nat.lt_of_le_of_lt F.above hLL)⟩
    refine wpAny_handleBy_builtin (X := "TypeError") (T := "TypeError") (b := true) te_exc te_nt te_self ?_
    clear F8 N8
    walk1
    refine ⟨rfl, flying_type hfl4, ?_⟩
    rw [if_pos rfl]
    refine lands hfl4 (fun h5 hfl5 hu5 => ?_)
    refine wpAny_execs_cons (wpAny_Return_some ?_)
    walk1
    have hup0 : s.heap.UpToSlots h2 := fun b o hb hn => hup b o (hg1 b o hb (by simp)) hn
    obtain ⟨F5, N5⟩ := back_home F N hBs' hfl5.1 (((hup0.trans hu3).trans hu4).trans hu5)
    exact hret h5 _ F5 N5
theorem ref1_list {w : World} {mean : ExcName → Option Value} {mg mb : Str → Option Value} (tq : Tok)
  {dp un : Nat} {cn : Str} {cs : Scope} {a : Addr} {ccd : Value} {cl : List (Str × Addr)} {A₀ : Around} {base h₀ : Heap} {L : Addr} {m : Str → Option Value} {news : List (Addr × Obj)} {s : Shared} {Q E : Value → Shared → Prop} {lq : Addr} {nq : Nat}
  (B : Below A₀ base [] h₀) (F : Fr h₀ L s.heap m) (X : (Mine.hd.heap_39 w.params).In h₀) (N : News h₀ L s.heap news) (T : Top Mine.hd.view_39 (looseW Mine.hd.view_39 []) mean mg mb h₀) (hk : cs.kind = .function)
  (hd : dp + 8 < recursionLimit) (hu : un + 70 < cLine) (hq : (lq, listOf #[.str (Str.ofString "&") tq] nq) ∈ news)
  (hret : ∀ (h' : Heap) (tk' : Nat), Fr h₀ L h' m → News h₀ L h' news → Q (.bool true) { s with heap := h', toks := tk' }) :
  wpAny (model Challenge.rw_nb0120_01.row.prog w) (ktrTop dp un (some []) cn cs L a ccd cl []) (call (.ref 96) [.ref 42, .ref lq, .type "TypeError"]) Q E s := by
  w_on
  revert X; k_fill; intro X
  refine wpAny_call ?_
  have B0 : Below A₀ h₀ [] h₀ := ⟨B.stack, fun _ _ e => e, trivial⟩
  have N0 : News h₀ L s.heap [(lq, listOf #[.str (Str.ofString "&") tq] nq)] := fun p hp => N p (by rw [List.mem_singleton.mp hp]; exact hq)
  k_dflt (refine' code_def1 B0 F X N0 T ?kA ?kF ?kK ?k6 ?k7 ?k8 ?k9 ?kB ?_ ?c2 ?c3 ?c4 ?c5; (case kA => exact rfl); (case kF => exact rfl); (case kK => assumption); (case k6 => k_is); (case k7 => k_is); (case k8 => show dp < recursionLimit; omega); (case k9 => exact BindsTo.of_eq rfl); (case c5 => decide); (case kB => exact locs rfl); (case c2 => exact rfl); (case c3 => exact rfl); (case c4 => exact rfl))
  intro g1 L1 h1 hg1 hu1 hLL FG1 F1 N1 B1 X1 T1
  dsimp only
  k_fold
  refine wpAny_execs_cons ?_
  refine wpAny_Try_except ?_
  refine wpAny_execs_cons ?_
  k_steps
  rename Fr g1 _ _ _ => F8
  rename News g1 _ _ _ => N8
  k_dflt (refine esc1_list tq B1 F8 X1 N8 T1 rfl X T ?_ ?_ ?_)
  · show dp + 1 + 7 < recursionLimit
    omega
  · show un + 3 + 60 < cLine
    omega
  · intro e a0 Bs h2 tk2 hfl hBs hNs hup hns
    have hBs' : ∀ b o, s.heap.get? b = some o → b ≠ L → Bs.get? b = some o := fun b o hb hne => by
      by_cases hl : b = lq
      · subst hl
        have e1 := hNs _ (List.mem_cons_self ..)
        rw [show o = _ from Option.some.inj (hb.symm.trans (N _ hq).1)]
        exact e1
      · exact hBs b o (hg1 b o hb (by simpa using hl)) (by simpa using hne)
    dsimp only
    refine wpAny_looks_onW rfl rfl hfl (fun h3 hh3 hu3 => ?_)
    refine wpAny_landsW hh3 (fun h4 hfl4 hu4 => ?_)
    have F4 : Fr h₀ L1 h4 _ := ⟨hu4.ns (hu3.ns hns), fun b o q => hfl4.1 b o (hBs' b o (F.keep b o q) (Nat.ne_of_lt (Nat.lt_of_lt_of_le (Heap.lt_size q) F.above))), Nat.le_of_lt (Nat.lt_of_le_of_lt F.above hLL)⟩
    refine wpAny_handleBy_builtin (X := "TypeError") (T := "TypeError") (b := true) te_exc te_nt te_self ?_
    clear F8 N8
    walk1
    refine ⟨rfl, flying_type hfl4, ?_⟩
    rw [if_pos rfl]
    refine lands hfl4 (fun h5 hfl5 hu5 => ?_)
    refine wpAny_execs_cons (wpAny_Return_some ?_)
    walk1
    have hup0 : s.heap.UpToSlots h2 := fun b o hb hn => by
      by_cases hl : b = lq
      · exact ⟨o.slots, hfl.1 b o (hBs' b o hb (by rw [hl]; exact (N _ hq).2.1))⟩
      · exact hup b o (hg1 b o hb (by simpa using hl)) hn
    obtain ⟨F5, N5⟩ := back_home F N hBs' hfl5.1 (((hup0.trans hu3).trans hu4).trans hu5)
    exact hret h5 _ F5 N5
theorem ref2_none {w : World} {mean : ExcName → Option Value} {mg mb : Str → Option Value} (tq : Tok)
  {dp un : Nat} {cn : Str} {cs : Scope} {a : Addr} {ccd : Value} {cl : List (Str × Addr)} {A₀ : Around} {base h₀ : Heap} {L : Addr} {m : Str → Option Value} {news : List (Addr × Obj)} {s : Shared} {Q E : Value → Shared → Prop}
  (B : Below A₀ base [] h₀) (F : Fr h₀ L s.heap m) (X : (Mine.hd.heap_39 w.params).In h₀) (N : News h₀ L s.heap news) (T : Top Mine.hd.view_39 (looseW Mine.hd.view_39 []) mean mg mb h₀) (hk : cs.kind = .function)
  (hd : dp + 8 < recursionLimit) (hu : un + 70 < cLine)
  (hret : ∀ (h' : Heap) (tk' : Nat), Fr h₀ L h' m → News h₀ L h' news → Q (.bool true) { s with heap := h', toks := tk' }) :
  wpAny (model Challenge.rw_nb0120_01.row.prog w) (ktrTop dp un (some []) cn cs L a ccd cl []) (call (.ref 96) [.ref 49, .none, .type "TypeError"]) Q E s := by
  w_on
  revert X; k_fill; intro X
  refine wpAny_call ?_
  have B0 : Below A₀ h₀ [] h₀ := ⟨B.stack, fun _ _ e => e, trivial⟩
  have N0 : News h₀ L s.heap [] := News.nil
  k_dflt (refine' code_def1 B0 F X N0 T ?kA ?kF ?kK ?k6 ?k7 ?k8 ?k9 ?kB ?_ ?c2 ?c3 ?c4 ?c5; (case kA => exact rfl); (case kF => exact rfl); (case kK => assumption); (case k6 => k_is); (case k7 => k_is); (case k8 => show dp < recursionLimit; omega); (case k9 => exact BindsTo.of_eq rfl); (case c5 => decide); (case kB => exact locs rfl); (case c2 => exact rfl); (case c3 => exact rfl); (case c4 => exact rfl))
  intro g1 L1 h1 hg1 hu1 hLL FG1 F1 N1 B1 X1 T1
  dsimp only
  k_fold
  refine wpAny_execs_cons ?_
  refine wpAny_Try_except ?_
  refine wpAny_execs_cons ?_
  k_steps
  rename Fr g1 _ _ _ => F8
  rename News g1 _ _ _ => N8
  k_dflt (refine esc2_none tq B1 F8 X1 N8 T1 rfl X T ?_ ?_ ?_)
  · show dp + 1 + 7 < recursionLimit
    omega
  · show un + 3 + 60 < cLine
    omega
  · intro e a0 Bs h2 tk2 hfl hBs hNs hup hns
    have hBs' : ∀ b o, s.heap.get? b = some o → b ≠ L → Bs.get? b = some o := fun b o hb hne => hBs b o (hg1 b o hb (by simp)) (by simpa using hne)
    dsimp only
    refine wpAny_looks_onW rfl rfl hfl (fun h3 hh3 hu3 => ?_)
    refine wpAny_landsW hh3 (fun h4 hfl4 hu4 => ?_)
    have F4 : Fr h₀ L1 h4 _ := ⟨hu4.ns (hu3.ns hns), fun b o q => hfl4.1 b o (hBs' b o (F.keep b o q) (Nat.ne_of_lt (Nat.lt_of_lt_of_le (Heap.lt_size q) F.above))), Nat.le_of_lt (Nat.lt_of_le_of_lt F.above hLL)⟩
    refine wpAny_handleBy_builtin (X := "TypeError") (T := "TypeError") (b := true) te_exc te_nt te_self ?_
    clear F8 N8
    walk1
    refine ⟨rfl, flying_type hfl4, ?_⟩
    rw [if_pos rfl]
    refine lands hfl4 (fun h5 hfl5 hu5 => ?_)
    refine wpAny_execs_cons (wpAny_Return_some ?_)
    walk1
    have hup0 : s.heap.UpToSlots h2 := fun b o hb hn => hup b o (hg1 b o hb (by simp)) hn
    obtain ⟨F5, N5⟩ := back_home F N hBs' hfl5.1 (((hup0.trans hu3).trans hu4).trans hu5)
    exact hret h5 _ F5 N5
theorem ref2_int {w : World} {mean : ExcName → Option Value} {mg mb : Str → Option Value} (tq : Tok)
  {dp un : Nat} {cn : Str} {cs : Scope} {a : Addr} {ccd : Value} {cl : List (Str × Addr)} {A₀ : Around} {base h₀ : Heap} {L : Addr} {m : Str → Option Value} {news : List (Addr × Obj)} {s : Shared} {Q E : Value → Shared → Prop}
  (B : Below A₀ base [] h₀) (F : Fr h₀ L s.heap m) (X : (Mine.hd.heap_39 w.params).In h₀) (N : News h₀ L s.heap news) (T : Top Mine.hd.view_39 (looseW Mine.hd.view_39 []) mean mg mb h₀) (hk : cs.kind = .function)
  (hd : dp + 8 < recursionLimit) (hu : un + 70 < cLine)
  (hret : ∀ (h' : Heap) (tk' : Nat), Fr h₀ L h' m → News h₀ L h' news → Q (.bool true) { s with heap := h', toks := tk' }) :
  wpAny (model Challenge.rw_nb0120_01.row.prog w) (ktrTop dp un (some []) cn cs L a ccd cl []) (call (.ref 96) [.ref 49, .int 5 tq, .type "TypeError"]) Q E s := by
  w_on
  revert X; k_fill; intro X
  refine wpAny_call ?_
  have B0 : Below A₀ h₀ [] h₀ := ⟨B.stack, fun _ _ e => e, trivial⟩
  have N0 : News h₀ L s.heap [] := News.nil
  k_dflt (refine' code_def1 B0 F X N0 T ?kA ?kF ?kK ?k6 ?k7 ?k8 ?k9 ?kB ?_ ?c2 ?c3 ?c4 ?c5; (case kA => exact rfl); (case kF => exact rfl); (case kK => assumption); (case k6 => k_is); (case k7 => k_is); (case k8 => show dp < recursionLimit; omega); (case k9 => exact BindsTo.of_eq rfl); (case c5 => decide); (case kB => exact locs rfl); (case c2 => exact rfl); (case c3 => exact rfl); (case c4 => exact rfl))
  intro g1 L1 h1 hg1 hu1 hLL FG1 F1 N1 B1 X1 T1
  dsimp only
  k_fold
  refine wpAny_execs_cons ?_
  refine wpAny_Try_except ?_
  refine wpAny_execs_cons ?_
  k_steps
  rename Fr g1 _ _ _ => F8
  rename News g1 _ _ _ => N8
  k_dflt (refine esc2_int tq B1 F8 X1 N8 T1 rfl X T ?_ ?_ ?_)
  · show dp + 1 + 7 < recursionLimit
    omega
  · show un + 3 + 60 < cLine
    omega
  · intro e a0 Bs h2 tk2 hfl hBs hNs hup hns
    have hBs' : ∀ b o, s.heap.get? b = some o → b ≠ L → Bs.get? b = some o := fun b o hb hne => hBs b o (hg1 b o hb (by simp)) (by simpa using hne)
    dsimp only
    refine wpAny_looks_onW rfl rfl hfl (fun h3 hh3 hu3 => ?_)
    refine wpAny_landsW hh3 (fun h4 hfl4 hu4 => ?_)
    have F4 : Fr h₀ L1 h4 _ := ⟨hu4.ns (hu3.ns hns), fun b o q => hfl4.1 b o (hBs' b o (F.keep b o q) (Nat.ne_of_lt (Nat.lt_of_lt_of_le (Heap.lt_size q) F.above))), Nat.le_of_lt (Nat.lt_of_le_of_lt F.above hLL)⟩
    refine wpAny_handleBy_builtin (X := "TypeError") (T := "TypeError") (b := true) te_exc te_nt te_self ?_
    clear F8 N8
    walk1
    refine ⟨rfl, flying_type hfl4, ?_⟩
    rw [if_pos rfl]
    refine lands hfl4 (fun h5 hfl5 hu5 => ?_)
    refine wpAny_execs_cons (wpAny_Return_some ?_)
    walk1
    have hup0 : s.heap.UpToSlots h2 := fun b o hb hn => hup b o (hg1 b o hb (by simp)) hn
    obtain ⟨F5, N5⟩ := back_home F N hBs' hfl5.1 (((hup0.trans hu3).trans hu4).trans hu5)
    exact hret h5 _ F5 N5
theorem ref2_bytes {w : World} {mean : ExcName → Option Value} {mg mb : Str → Option Value} (tq : Tok)
  {dp un : Nat} {cn : Str} {cs : Scope} {a : Addr} {ccd : Value} {cl : List (Str × Addr)} {A₀ : Around} {base h₀ : Heap} {L : Addr} {m : Str → Option Value} {news : List (Addr × Obj)} {s : Shared} {Q E : Value → Shared → Prop}
  (B : Below A₀ base [] h₀) (F : Fr h₀ L s.heap m) (X : (Mine.hd.heap_39 w.params).In h₀) (N : News h₀ L s.heap news) (T : Top Mine.hd.view_39 (looseW Mine.hd.view_39 []) mean mg mb h₀) (hk : cs.kind = .function)
  (hd : dp + 8 < recursionLimit) (hu : un + 70 < cLine)
  (hret : ∀ (h' : Heap) (tk' : Nat), Fr h₀ L h' m → News h₀ L h' news → Q (.bool true) { s with heap := h', toks := tk' }) :
  wpAny (model Challenge.rw_nb0120_01.row.prog w) (ktrTop dp un (some []) cn cs L a ccd cl []) (call (.ref 96) [.ref 49, .bytes #[97, 38] tq, .type "TypeError"]) Q E s := by
  w_on
  revert X; k_fill; intro X
  refine wpAny_call ?_
  have B0 : Below A₀ h₀ [] h₀ := ⟨B.stack, fun _ _ e => e, trivial⟩
  have N0 : News h₀ L s.heap [] := News.nil
  k_dflt (refine' code_def1 B0 F X N0 T ?kA ?kF ?kK ?k6 ?k7 ?k8 ?k9 ?kB ?_ ?c2 ?c3 ?c4 ?c5; (case kA => exact rfl); (case kF => exact rfl); (case kK => assumption); (case k6 => k_is); (case k7 => k_is); (case k8 => show dp < recursionLimit; omega); (case k9 => exact BindsTo.of_eq rfl); (case c5 => decide); (case kB => exact locs rfl); (case c2 => exact rfl); (case c3 => exact rfl); (case c4 => exact rfl))
  intro g1 L1 h1 hg1 hu1 hLL FG1 F1 N1 B1 X1 T1
  dsimp only
  k_fold
  refine wpAny_execs_cons ?_
  refine wpAny_Try_except ?_
  refine wpAny_execs_cons ?_
  k_steps
  rename Fr g1 _ _ _ => F8
  rename News g1 _ _ _ => N8
  k_dflt (refine esc2_bytes tq B1 F8 X1 N8 T1 rfl X T ?_ ?_ ?_)
  · show dp + 1 + 7 < recursionLimit
    omega
  · show un + 3 + 60 < cLine
    omega
  · intro e a0 Bs h2 tk2 hfl hBs hNs hup hns
    have hBs' : ∀ b o, s.heap.get? b = some o → b ≠ L → Bs.get? b = some o := fun b o hb hne => hBs b o (hg1 b o hb (by simp)) (by simpa using hne)
    dsimp only
    refine wpAny_looks_onW rfl rfl hfl (fun h3 hh3 hu3 => ?_)
    refine wpAny_landsW hh3 (fun h4 hfl4 hu4 => ?_)
    have F4 : Fr h₀ L1 h4 _ := ⟨hu4.ns (hu3.ns hns), fun b o q => hfl4.1 b o (hBs' b o (F.keep b o q) (Nat.ne_of_lt (Nat.lt_of_lt_of_le (Heap.lt_size q) F.above))), Nat.le_of_lt (Nat.lt_of_le_of_lt F.above hLL)⟩
    refine wpAny_handleBy_builtin (X := "TypeError") (T := "TypeError") (b := true) te_exc te_nt te_self ?_
    clear F8 N8
    walk1
    refine ⟨rfl, flying_type hfl4, ?_⟩
    rw [if_pos rfl]
    refine lands hfl4 (fun h5 hfl5 hu5 => ?_)
    refine wpAny_execs_cons (wpAny_Return_some ?_)
    walk1
    have hup0 : s.heap.UpToSlots h2 := fun b o hb hn => hup b o (hg1 b o hb (by simp)) hn
    obtain ⟨F5, N5⟩ := back_home F N hBs' hfl5.1 (((hup0.trans hu3).trans hu4).trans hu5)
    exact hret h5 _ F5 N5
theorem ref2_list {w : World} {mean : ExcName → Option Value} {mg mb : Str → Option Value} (tq : Tok)
  {dp un : Nat} {cn : Str} {cs : Scope} {a : Addr} {ccd : Value} {cl : List (Str × Addr)} {A₀ : Around} {base h₀ : Heap} {L : Addr} {m : Str → Option Value} {news : List (Addr × Obj)} {s : Shared} {Q E : Value → Shared → Prop} {lq : Addr} {nq : Nat}
  (B : Below A₀ base [] h₀) (F : Fr h₀ L s.heap m) (X : (Mine.hd.heap_39 w.params).In h₀) (N : News h₀ L s.heap news) (T : Top Mine.hd.view_39 (looseW Mine.hd.view_39 []) mean mg mb h₀) (hk : cs.kind = .function)
  (hd : dp + 8 < recursionLimit) (hu : un + 70 < cLine) (hq : (lq, listOf #[.str (Str.ofString "&") tq] nq) ∈ news)
  (hret : ∀ (h' : Heap) (tk' : Nat), Fr h₀ L h' m → News h₀ L h' news → Q (.bool true) { s with heap := h', toks := tk' }) :
  wpAny (model Challenge.rw_nb0120_01.row.prog w) (ktrTop dp un (some []) cn cs L a ccd cl []) (call (.ref 96) [.ref 49, .ref lq, .type "TypeError"]) Q E s := by
  w_on
  revert X; k_fill; intro X
  refine wpAny_call ?_
  have B0 : Below A₀ h₀ [] h₀ := ⟨B.stack, fun _ _ e => e, trivial⟩
  have N0 : News h₀ L s.heap [(lq, listOf #[.str (Str.ofString "&") tq] nq)] := fun p hp => N p (by rw [List.mem_singleton.mp hp]; exact hq)
  k_dflt (refine' code_def1 B0 F X N0 T ?kA ?kF ?kK ?k6 ?k7 ?k8 ?k9 ?kB ?_ ?c2 ?c3 ?c4 ?c5; (case kA => exact rfl); (case kF => exact rfl); (case kK => assumption); (case k6 => k_is); (case k7 => k_is); (case k8 => show dp < recursionLimit; omega); (case k9 => exact BindsTo.of_eq rfl); (case c5 => decide); (case kB => exact locs rfl); (case c2 => exact rfl); (case c3 => exact rfl); (case c4 => exact rfl))
  intro g1 L1 h1 hg1 hu1 hLL FG1 F1 N1 B1 X1 T1
  dsimp only
  k_fold
  refine wpAny_execs_cons ?_
  refine wpAny_Try_except ?_
  refine wpAny_execs_cons ?_
  k_steps
  rename Fr g1 _ _ _ => F8
  rename News g1 _ _ _ => N8
  k_dflt (refine esc2_list tq B1 F8 X1 N8 T1 rfl X T ?_ ?_ ?_)
  · show dp + 1 + 7 < recursionLimit
    omega
  · show un + 3 + 60 < cLine
    omega
  · intro e a0 Bs h2 tk2 hfl hBs hNs hup hns
    have hBs' : ∀ b o, s.heap.get? b = some o → b ≠ L → Bs.get? b = some o := fun b o hb hne => by
      by_cases hl : b = lq
      · subst hl
        have e1 := hNs _ (List.mem_cons_self ..)
        rw [show o = _ from Option.some.inj (hb.symm.trans (N _ hq).1)]
        exact e1
      · exact hBs b o (hg1 b o hb (by simpa using hl)) (by simpa using hne)
    dsimp only
    refine wpAny_looks_onW rfl rfl hfl (fun h3 hh3 hu3 => ?_)
    refine wpAny_landsW hh3 (fun h4 hfl4 hu4 => ?_)
    have F4 : Fr h₀ L1 h4 _ := ⟨hu4.ns (hu3.ns hns), fun b o q => hfl4.1 b o (hBs' b o (F.keep b o q) (Nat.ne_of_lt (Nat.lt_of_lt_of_le (Heap.lt_size q) F.above))), Nat.le_of_lt (Nat.lt_of_le_of_lt F.above hLL)⟩
    refine wpAny_handleBy_builtin (X := "TypeError") (T := "TypeError") (b := true) te_exc te_nt te_self ?_
    clear F8 N8
    walk1
    refine ⟨rfl, flying_type hfl4, ?_⟩
    rw [if_pos rfl]
    refine lands hfl4 (fun h5 hfl5 hu5 => ?_)
    refine wpAny_execs_cons (wpAny_Return_some ?_)
    walk1
    have hup0 : s.heap.UpToSlots h2 := fun b o hb hn => by
      by_cases hl : b = lq
      · exact ⟨o.slots, hfl.1 b o (hBs' b o hb (by rw [hl]; exact (N _ hq).2.1))⟩
      · exact hup b o (hg1 b o hb (by simpa using hl)) hn
    obtain ⟨F5, N5⟩ := back_home F N hBs' hfl5.1 (((hup0.trans hu3).trans hu4).trans hu5)
    exact hret h5 _ F5 N5
theorem ref3_none {w : World} {mean : ExcName → Option Value} {mg mb : Str → Option Value} (tq : Tok)
  {dp un : Nat} {cn : Str} {cs : Scope} {a : Addr} {ccd : Value} {cl : List (Str × Addr)} {A₀ : Around} {base h₀ : Heap} {L : Addr} {m : Str → Option Value} {news : List (Addr × Obj)} {s : Shared} {Q E : Value → Shared → Prop}
  (B : Below A₀ base [] h₀) (F : Fr h₀ L s.heap m) (X : (Mine.hd.heap_39 w.params).In h₀) (N : News h₀ L s.heap news) (T : Top Mine.hd.view_39 (looseW Mine.hd.view_39 []) mean mg mb h₀) (hk : cs.kind = .function)
  (hd : dp + 8 < recursionLimit) (hu : un + 70 < cLine)
  (hret : ∀ (h' : Heap) (tk' : Nat), Fr h₀ L h' m → News h₀ L h' news → Q (.bool true) { s with heap := h', toks := tk' }) :
  wpAny (model Challenge.rw_nb0120_01.row.prog w) (ktrTop dp un (some []) cn cs L a ccd cl []) (call (.ref 96) [.ref 56, .none, .type "TypeError"]) Q E s := by
  w_on
  revert X; k_fill; intro X
  refine wpAny_call ?_
  have B0 : Below A₀ h₀ [] h₀ := ⟨B.stack, fun _ _ e => e, trivial⟩
  have N0 : News h₀ L s.heap [] := News.nil
  k_dflt (refine' code_def1 B0 F X N0 T ?kA ?kF ?kK ?k6 ?k7 ?k8 ?k9 ?kB ?_ ?c2 ?c3 ?c4 ?c5; (case kA => exact rfl); (case kF => exact rfl); (case kK => assumption); (case k6 => k_is); (case k7 => k_is); (case k8 => show dp < recursionLimit; omega); (case k9 => exact BindsTo.of_eq rfl); (case c5 => decide); (case kB => exact locs rfl); (case c2 => exact rfl); (case c3 => exact rfl); (case c4 => exact rfl))
  intro g1 L1 h1 hg1 hu1 hLL FG1 F1 N1 B1 X1 T1
  dsimp only
  k_fold
  refine wpAny_execs_cons ?_
  refine wpAny_Try_except ?_
  refine wpAny_execs_cons ?_
  k_steps
  rename Fr g1 _ _ _ => F8
  rename News g1 _ _ _ => N8
  k_dflt (refine esc3_none tq B1 F8 X1 N8 T1 rfl X T ?_ ?_ ?_)
  · show dp + 1 + 7 < recursionLimit
    omega
  · show un + 3 + 60 < cLine
    omega
  · intro e a0 Bs h2 tk2 hfl hBs hNs hup hns
    have hBs' : ∀ b o, s.heap.get? b = some o → b ≠ L → Bs.get? b = some o := fun b o hb hne => hBs b o (hg1 b o hb (by simp)) (by simpa using hne)
    dsimp only
    refine wpAny_looks_onW rfl rfl hfl (fun h3 hh3 hu3 => ?_)
    refine wpAny_landsW hh3 (fun h4 hfl4 hu4 => ?_)
    have F4 : Fr h₀ L1 h4 _ := ⟨hu4.ns (hu3.ns hns), fun b o q => hfl4.1 b o (hBs' b o (F.keep b o q) (Nat.ne_of_lt (Nat.lt_of_lt_of_le (Heap.lt_size q) F.above))), Nat.le_of_lt (Nat.lt_of_le_of_lt F.above hLL)⟩
    refine wpAny_handleBy_builtin (X := "TypeError") (T := "TypeError") (b := true) te_exc te_nt te_self ?_
    clear F8 N8
    walk1
    refine ⟨rfl, flying_type hfl4, ?_⟩
    rw [if_pos rfl]
    refine lands hfl4 (fun h5 hfl5 hu5 => ?_)
    refine wpAny_execs_cons (wpAny_Return_some ?_)
    walk1
    have hup0 : s.heap.UpToSlots h2 := fun b o hb hn => hup b o (hg1 b o hb (by simp)) hn
    obtain ⟨F5, N5⟩ := back_home F N hBs' hfl5.1 (((hup0.trans hu3).trans hu4).trans hu5)
    exact hret h5 _ F5 N5
theorem ref3_int {w : World} {mean : ExcName → Option Value} {mg mb : Str → Option Value} (tq : Tok)
  {dp un : Nat} {cn : Str} {cs : Scope} {a : Addr} {ccd : Value} {cl : List (Str × Addr)} {A₀ : Around} {base h₀ : Heap} {L : Addr} {m : Str → Option Value} {news : List (Addr × Obj)} {s : Shared} {Q E : Value → Shared → Prop}
  (B : Below A₀ base [] h₀) (F : Fr h₀ L s.heap m) (X : (Mine.hd.heap_39 w.params).In h₀) (N : News h₀ L s.heap news) (T : Top Mine.hd.view_39 (looseW Mine.hd.view_39 []) mean mg mb h₀) (hk : cs.kind = .function)
  (hd : dp + 8 < recursionLimit) (hu : un + 70 < cLine)
  (hret : ∀ (h' : Heap) (tk' : Nat), Fr h₀ L h' m → News h₀ L h' news → Q (.bool true) { s with heap := h', toks := tk' }) :
  wpAny (model Challenge.rw_nb0120_01.row.prog w) (ktrTop dp un (some []) cn cs L a ccd cl []) (call (.ref 96) [.ref 56, .int 5 tq, .type "TypeError"]) Q E s := by
  w_on
  revert X; k_fill; intro X
  refine wpAny_call ?_
  have B0 : Below A₀ h₀ [] h₀ := ⟨B.stack, fun _ _ e => e, trivial⟩
  have N0 : News h₀ L s.heap [] := News.nil
  k_dflt (refine' code_def1 B0 F X N0 T ?kA ?kF ?kK ?k6 ?k7 ?k8 ?k9 ?kB ?_ ?c2 ?c3 ?c4 ?c5; (case kA => exact rfl); (case kF => exact rfl); (case kK => assumption); (case k6 => k_is); (case k7 => k_is); (case k8 => show dp < recursionLimit; omega); (case k9 => exact BindsTo.of_eq rfl); (case c5 => decide); (case kB => exact locs rfl); (case c2 => exact rfl); (case c3 => exact rfl); (case c4 => exact rfl))
  intro g1 L1 h1 hg1 hu1 hLL FG1 F1 N1 B1 X1 T1
  dsimp only
  k_fold
  refine wpAny_execs_cons ?_
  refine wpAny_Try_except ?_
  refine wpAny_execs_cons ?_
  k_steps
  rename Fr g1 _ _ _ => F8
  rename News g1 _ _ _ => N8
  k_dflt (refine esc3_int tq B1 F8 X1 N8 T1 rfl X T ?_ ?_ ?_)
  · show dp + 1 + 7 < recursionLimit
    omega
  · show un + 3 + 60 < cLine
    omega
  · intro e a0 Bs h2 tk2 hfl hBs hNs hup hns
    have hBs' : ∀ b o, s.heap.get? b = some o → b ≠ L → Bs.get? b = some o := fun b o hb hne => hBs b o (hg1 b o hb (by simp)) (by simpa using hne)
    dsimp only
    refine wpAny_looks_onW rfl rfl hfl (fun h3 hh3 hu3 => ?_)
    refine wpAny_landsW hh3 (fun h4 hfl4 hu4 => ?_)
    have F4 : Fr h₀ L1 h4 _ := ⟨hu4.ns (hu3.ns hns), fun b o q => hfl4.1 b o (hBs' b o (F.keep b o q) (Nat.ne_of_lt (Nat.lt_of_lt_of_le (Heap.lt_size q) F.above))), Nat.le_of_lt (Nat.lt_of_le_of_lt F.above hLL)⟩
    refine wpAny_handleBy_builtin (X := "TypeError") (T := "TypeError") (b := true) te_exc te_nt te_self ?_
    clear F8 N8
    walk1
    refine ⟨rfl, flying_type hfl4, ?_⟩
    rw [if_pos rfl]
    refine lands hfl4 (fun h5 hfl5 hu5 => ?_)
    refine wpAny_execs_cons (wpAny_Return_some ?_)
    walk1
    have hup0 : s.heap.UpToSlots h2 := fun b o hb hn => hup b o (hg1 b o hb (by simp)) hn
    obtain ⟨F5, N5⟩ := back_home F N hBs' hfl5.1 (((hup0.trans hu3).trans hu4).trans hu5)
    exact hret h5 _ F5 N5
theorem ref3_bytes {w : World} {mean : ExcName → Option Value} {mg mb : Str → Option Value} (tq : Tok)
  {dp un : Nat} {cn : Str} {cs : Scope} {a : Addr} {ccd : Value} {cl : List (Str × Addr)} {A₀ : Around} {base h₀ : Heap} {L : Addr} {m : Str → Option Value} {news : List (Addr × Obj)} {s : Shared} {Q E : Value → Shared → Prop}
  (B : Below A₀ base [] h₀) (F : Fr h₀ L s.heap m) (X : (Mine.hd.heap_39 w.params).In h₀) (N : News h₀ L s.heap news) (T : Top Mine.hd.view_39 (looseW Mine.hd.view_39 []) mean mg mb h₀) (hk : cs.kind = .function)
  (hd : dp + 8 < recursionLimit) (hu : un + 70 < cLine)
  (hret : ∀ (h' : Heap) (tk' : Nat), Fr h₀ L h' m → News h₀ L h' news → Q (.bool true) { s with heap := h', toks := tk' }) :
  wpAny (model Challenge.rw_nb0120_01.row.prog w) (ktrTop dp un (some []) cn cs L a ccd cl []) (call (.ref 96) [.ref 56, .bytes #[97, 38] tq, .type "TypeError"]) Q E s := by
  w_on
  revert X; k_fill; intro X
  refine wpAny_call ?_
  have B0 : Below A₀ h₀ [] h₀ := ⟨B.stack, fun _ _ e => e, trivial⟩
  have N0 : News h₀ L s.heap [] := News.nil
  k_dflt (refine' code_def1 B0 F X N0 T ?kA ?kF ?kK ?k6 ?k7 ?k8 ?k9 ?kB ?_ ?c2 ?c3 ?c4 ?c5; (case kA => exact rfl); (case kF => exact rfl); (case kK => assumption); (case k6 => k_is); (case k7 => k_is); (case k8 => show dp < recursionLimit; omega); (case k9 => exact BindsTo.of_eq rfl); (case c5 => decide); (case kB => exact locs rfl); (case c2 => exact rfl); (case c3 => exact rfl); (case c4 => exact rfl))
  intro g1 L1 h1 hg1 hu1 hLL FG1 F1 N1 B1 X1 T1
  dsimp only
  k_fold
  refine wpAny_execs_cons ?_
  refine wpAny_Try_except ?_
  refine wpAny_execs_cons ?_
  k_steps
  rename Fr g1 _ _ _ => F8
  rename News g1 _ _ _ => N8
  k_dflt (refine esc3_bytes tq B1 F8 X1 N8 T1 rfl X T ?_ ?_ ?_)
  · show dp + 1 + 7 < recursionLimit
    omega
  · show un + 3 + 60 < cLine
    omega
  · intro e a0 Bs h2 tk2 hfl hBs hNs hup hns
    have hBs' : ∀ b o, s.heap.get? b = some o → b ≠ L → Bs.get? b = some o := fun b o hb hne => hBs b o (hg1 b o hb (by simp)) (by simpa using hne)
    dsimp only
    refine wpAny_looks_onW rfl rfl hfl (fun h3 hh3 hu3 => ?_)
    refine wpAny_landsW hh3 (fun h4 hfl4 hu4 => ?_)
    have F4 : Fr h₀ L1 h4 _ := ⟨hu4.ns (hu3.ns hns), fun b o q => hfl4.1 b o (hBs' b o (F.keep b o q) (Nat.ne_of_lt (Nat.lt_of_lt_of_le (Heap.lt_size q) F.above))), Nat.le_of_lt (Nat.lt_of_le_of_lt F.above hLL)⟩
    refine wpAny_handleBy_builtin (X := "TypeError") (T := "TypeError") (b := true) te_exc te_nt te_self ?_
    clear F8 N8
    walk1
    refine ⟨rfl, flying_type hfl4, ?_⟩
    rw [if_pos rfl]
    refine lands hfl4 (fun h5 hfl5 hu5 => ?_)
    refine wpAny_execs_cons (wpAny_Return_some ?_)
    walk1
    have hup0 : s.heap.UpToSlots h2 := fun b o hb hn => hup b o (hg1 b o hb (by simp)) hn
    obtain ⟨F5, N5⟩ := back_home F N hBs' hfl5.1 (((hup0.trans hu3).trans hu4).trans hu5)
    exact hret h5 _ F5 N5
theorem ref3_list {w : World} {mean : ExcName → Option Value} {mg mb : Str → Option Value} (tq : Tok)
  {dp un : Nat} {cn : Str} {cs : Scope} {a : Addr} {ccd : Value} {cl : List (Str × Addr)} {A₀ : Around} {base h₀ : Heap} {L : Addr} {m : Str → Option Value} {news : List (Addr × Obj)} {s : Shared} {Q E : Value → Shared → Prop} {lq : Addr} {nq : Nat}
  (B : Below A₀ base [] h₀) (F : Fr h₀ L s.heap m) (X : (Mine.hd.heap_39 w.params).In h₀) (N : News h₀ L s.heap news) (T : Top Mine.hd.view_39 (looseW Mine.hd.view_39 []) mean mg mb h₀) (hk : cs.kind = .function)
  (hd : dp + 8 < recursionLimit) (hu : un + 70 < cLine) (hq : (lq, listOf #[.str (Str.ofString "&") tq] nq) ∈ news)
  (hret : ∀ (h' : Heap) (tk' : Nat), Fr h₀ L h' m → News h₀ L h' news → Q (.bool true) { s with heap := h', toks := tk' }) :
  wpAny (model Challenge.rw_nb0120_01.row.prog w) (ktrTop dp un (some []) cn cs L a ccd cl []) (call (.ref 96) [.ref 56, .ref lq, .type "TypeError"]) Q E s := by
  w_on
  revert X; k_fill; intro X
  refine wpAny_call ?_
  have B0 : Below A₀ h₀ [] h₀ := ⟨B.stack, fun _ _ e => e, trivial⟩
  have N0 : News h₀ L s.heap [(lq, listOf #[.str (Str.ofString "&") tq] nq)] := fun p hp => N p (by rw [List.mem_singleton.mp hp]; exact hq)
  k_dflt (refine' code_def1 B0 F X N0 T ?kA ?kF ?kK ?k6 ?k7 ?k8 ?k9 ?kB ?_ ?c2 ?c3 ?c4 ?c5; (case kA => exact rfl); (case kF => exact rfl); (case kK => assumption); (case k6 => k_is); (case k7 => k_is); (case k8 => show dp < recursionLimit; omega); (case k9 => exact BindsTo.of_eq rfl); (case c5 => decide); (case kB => exact locs rfl); (case c2 => exact rfl); (case c3 => exact rfl); (case c4 => exact rfl))
  intro g1 L1 h1 hg1 hu1 hLL FG1 F1 N1 B1 X1 T1
  dsimp only
  k_fold
  refine wpAny_execs_cons ?_
  refine wpAny_Try_except ?_
  refine wpAny_execs_cons ?_
  k_steps
  rename Fr g1 _ _ _ => F8
  rename News g1 _ _ _ => N8
  k_dflt (refine esc3_list tq B1 F8 X1 N8 T1 rfl X T ?_ ?_ ?_)
  · show dp + 1 + 7 < recursionLimit
    omega
  · show un + 3 + 60 < cLine
    omega
  · intro e a0 Bs h2 tk2 hfl hBs hNs hup hns
    have hBs' : ∀ b o, s.heap.get? b = some o → b ≠ L → Bs.get? b = some o := fun b o hb hne => by
      by_cases hl : b = lq
      · subst hl
        have e1 := hNs _ (List.mem_cons_self ..)
        rw [show o = _ from Option.some.inj (hb.symm.trans (N _ hq).1)]
        exact e1
      · exact hBs b o (hg1 b o hb (by simpa using hl)) (by simpa using hne)
    dsimp only
    refine wpAny_looks_onW rfl rfl hfl (fun h3 hh3 hu3 => ?_)
    refine wpAny_landsW hh3 (fun h4 hfl4 hu4 => ?_)
    have F4 : Fr h₀ L1 h4 _ := ⟨hu4.ns (hu3.ns hns), fun b o q => hfl4.1 b o (hBs' b o (F.keep b o q) (Nat.ne_of_lt (Nat.lt_of_lt_of_le (Heap.lt_size q) F.above))), Nat.le_of_lt (Nat.lt_of_le_of_lt F.above hLL)⟩
    refine wpAny_handleBy_builtin (X := "TypeError") (T := "TypeError") (b := true) te_exc te_nt te_self ?_
    clear F8 N8
    walk1
    refine ⟨rfl, flying_type hfl4, ?_⟩
    rw [if_pos rfl]
    refine lands hfl4 (fun h5 hfl5 hu5 => ?_)
    refine wpAny_execs_cons (wpAny_Return_some ?_)
    walk1
    have hup0 : s.heap.UpToSlots h2 := fun b o hb hn => by
      by_cases hl : b = lq
      · exact ⟨o.slots, hfl.1 b o (hBs' b o hb (by rw [hl]; exact (N _ hq).2.1))⟩
      · exact hup b o (hg1 b o hb (by simpa using hl)) hn
    obtain ⟨F5, N5⟩ := back_home F N hBs' hfl5.1 (((hup0.trans hu3).trans hu4).trans hu5)
    exact hret h5 _ F5 N5
theorem ref4_none {w : World} {mean : ExcName → Option Value} {mg mb : Str → Option Value} (tq : Tok)
  {dp un : Nat} {cn : Str} {cs : Scope} {a : Addr} {ccd : Value} {cl : List (Str × Addr)} {A₀ : Around} {base h₀ : Heap} {L : Addr} {m : Str → Option Value} {news : List (Addr × Obj)} {s : Shared} {Q E : Value → Shared → Prop}
  (B : Below A₀ base [] h₀) (F : Fr h₀ L s.heap m) (X : (Mine.hd.heap_39 w.params).In h₀) (N : News h₀ L s.heap news) (T : Top Mine.hd.view_39 (looseW Mine.hd.view_39 []) mean mg mb h₀) (hk : cs.kind = .function)
  (hd : dp + 8 < recursionLimit) (hu : un + 70 < cLine)
  (hret : ∀ (h' : Heap) (tk' : Nat), Fr h₀ L h' m → News h₀ L h' news → Q (.bool true) { s with heap := h', toks := tk' }) :
  wpAny (model Challenge.rw_nb0120_01.row.prog w) (ktrTop dp un (some []) cn cs L a ccd cl []) (call (.ref 96) [.ref 63, .none, .type "TypeError"]) Q E s := by
  w_on
  revert X; k_fill; intro X
  refine wpAny_call ?_
  have B0 : Below A₀ h₀ [] h₀ := ⟨B.stack, fun _ _ e => e, trivial⟩
  have N0 : News h₀ L s.heap [] := News.nil
  k_dflt (refine' code_def1 B0 F X N0 T ?kA ?kF ?kK ?k6 ?k7 ?k8 ?k9 ?kB ?_ ?c2 ?c3 ?c4 ?c5; (case kA => exact rfl); (case kF => exact rfl); (case kK => assumption); (case k6 => k_is); (case k7 => k_is); (case k8 => show dp < recursionLimit; omega); (case k9 => exact BindsTo.of_eq rfl); (case c5 => decide); (case kB => exact locs rfl); (case c2 => exact rfl); (case c3 => exact rfl); (case c4 => exact rfl))
  intro g1 L1 h1 hg1 hu1 hLL FG1 F1 N1 B1 X1 T1
  dsimp only
  k_fold
  refine wpAny_execs_cons ?_
  refine wpAny_Try_except ?_
  refine wpAny_execs_cons ?_
  k_steps
  rename Fr g1 _ _ _ => F8
  rename News g1 _ _ _ => N8
  k_dflt (refine esc4_none tq B1 F8 X1 N8 T1 rfl X T ?_ ?_ ?_)
  · show dp + 1 + 7 < recursionLimit
    omega
  · show un + 3 + 60 < cLine
    omega
  · intro e a0 Bs h2 tk2 hfl hBs hNs hup hns
    have hBs' : ∀ b o, s.heap.get? b = some o → b ≠ L → Bs.get? b = some o := fun b o hb hne => hBs b o (hg1 b o hb (by simp)) (by simpa using hne)
    dsimp only
    refine wpAny_looks_onW rfl rfl hfl (fun h3 hh3 hu3 => ?_)
    refine wpAny_landsW hh3 (fun h4 hfl4 hu4 => ?_)
    have F4 : Fr h₀ L1 h4 _ := ⟨hu4.ns (hu3.ns hns), fun b o q => hfl4.1 b o (hBs' b o (F.keep b o q) (Nat.ne_of_lt (Nat.lt_of_lt_of_le (Heap.lt_size q) F.above))), Nat.le_of_lt (Nat.lt_of_le_of_lt F.above hLL)⟩
    refine wpAny_handleBy_builtin (X := "TypeError") (T := "TypeError") (b := true) te_exc te_nt te_self ?_
    clear F8 N8
    walk1
    refine ⟨rfl, flying_type hfl4, ?_⟩
    rw [if_pos rfl]
    refine lands hfl4 (fun h5 hfl5 hu5 => ?_)
    refine wpAny_execs_cons (wpAny_Return_some ?_)
    walk1
    have hup0 : s.heap.UpToSlots h2 := fun b o hb hn => hup b o (hg1 b o hb (by simp)) hn
    obtain ⟨F5, N5⟩ := back_home F N hBs' hfl5.1 (((hup0.trans hu3).trans hu4).trans hu5)
    exact hret h5 _ F5 N5
theorem ref4_int {w : World} {mean : ExcName → Option Value} {mg mb : Str → Option Value} (tq : Tok)
  {dp un : Nat} {cn : Str} {cs : Scope} {a : Addr} {ccd : Value} {cl : List (Str × Addr)} {A₀ : Around} {base h₀ : Heap} {L : Addr} {m : Str → Option Value} {news : List (Addr × Obj)} {s : Shared} {Q E : Value → Shared → Prop}
  (B : Below A₀ base [] h₀) (F : Fr h₀ L s.heap m) (X : (Mine.hd.heap_39 w.params).In h₀) (N : News h₀ L s.heap news) (T : Top Mine.hd.view_39 (looseW Mine.hd.view_39 []) mean mg mb h₀) (hk : cs.kind = .function)
  (hd : dp + 8 < recursionLimit) (hu : un + 70 < cLine)
  (hret : ∀ (h' : Heap) (tk' : Nat), Fr h₀ L h' m → News h₀ L h' news → Q (.bool true) { s with heap := h', toks := tk' }) :
  wpAny (model Challenge.rw_nb0120_01.row.prog w) (ktrTop dp un (some []) cn cs L a ccd cl []) (call (.ref 96) [.ref 63, .int 5 tq, .type "TypeError"]) Q E s := by
  w_on
  revert X; k_fill; intro X
  refine wpAny_call ?_
  have B0 : Below A₀ h₀ [] h₀ := ⟨B.stack, fun _ _ e => e, trivial⟩
  have N0 : News h₀ L s.heap [] := News.nil
  k_dflt (refine' code_def1 B0 F X N0 T ?kA ?kF ?kK ?k6 ?k7 ?k8 ?k9 ?kB ?_ ?c2 ?c3 ?c4 ?c5; (case kA => exact rfl); (case kF => exact rfl); (case kK => assumption); (case k6 => k_is); (case k7 => k_is); (case k8 => show dp < recursionLimit; omega); (case k9 => exact BindsTo.of_eq rfl); (case c5 => decide); (case kB => exact locs rfl); (case c2 => exact rfl); (case c3 => exact rfl); (case c4 => exact rfl))
  intro g1 L1 h1 hg1 hu1 hLL FG1 F1 N1 B1 X1 T1
  dsimp only
  k_fold
  refine wpAny_execs_cons ?_
  refine wpAny_Try_except ?_
  refine wpAny_execs_cons ?_
  k_steps
  rename Fr g1 _ _ _ => F8
  rename News g1 _ _ _ => N8
  k_dflt (refine esc4_int tq B1 F8 X1 N8 T1 rfl X T ?_ ?_ ?_)
  · show dp + 1 + 7 < recursionLimit
    omega
  · show un + 3 + 60 < cLine
    omega
  · intro e a0 Bs h2 tk2 hfl hBs hNs hup hns
    have hBs' : ∀ b o, s.heap.get? b = some o → b ≠ L → Bs.get? b = some o := fun b o hb hne => hBs b o (hg1 b o hb (by simp)) (by simpa using hne)
    dsimp only
    refine wpAny_looks_onW rfl rfl hfl (fun h3 hh3 hu3 => ?_)
    refine wpAny_landsW hh3 (fun h4 hfl4 hu4 => ?_)
    have F4 : Fr h₀ L1 h4 _ := ⟨hu4.ns (hu3.ns hns), fun b o q => hfl4.1 b o (hBs' b o (F.keep b o q) (Nat.ne_of_lt (Nat.lt_of_lt_of_le (Heap.lt_size q) F.above))), Nat.le_of_lt (Nat.lt_of_le_of_lt F.above hLL)⟩
    refine wpAny_handleBy_builtin (X := "TypeError") (T := "TypeError") (b := true) te_exc te_nt te_self ?_
    clear F8 N8
    walk1
    refine ⟨rfl, flying_type hfl4, ?_⟩
    rw [if_pos rfl]
    refine lands hfl4 (fun h5 hfl5 hu5 => ?_)
    refine wpAny_execs_cons (wpAny_Return_some ?_)
    walk1
    have hup0 : s.heap.UpToSlots h2 := fun b o hb hn => hup b o (hg1 b o hb (by simp)) hn
    obtain ⟨F5, N5⟩ := back_home F N hBs' hfl5.1 (((hup0.trans hu3).trans hu4).trans hu5)
    exact hret h5 _ F5 N5
theorem ref4_bytes {w : World} {mean : ExcName → Option Value} {mg mb : Str → Option Value} (tq : Tok)
  {dp un : Nat} {cn : Str} {cs : Scope} {a : Addr} {ccd : Value} {cl : List (Str × Addr)} {A₀ : Around} {base h₀ : Heap} {L : Addr} {m : Str → Option Value} {news : List (Addr × Obj)} {s : Shared} {Q E : Value → Shared → Prop}
  (B : Below A₀ base [] h₀) (F : Fr h₀ L s.heap m) (X : (Mine.hd.heap_39 w.params).In h₀) (N : News h₀ L s.heap news) (T : Top Mine.hd.view_39 (looseW Mine.hd.view_39 []) mean mg mb h₀) (hk : cs.kind = .function)
  (hd : dp + 8 < recursionLimit) (hu : un + 70 < cLine)
  (hret : ∀ (h' : Heap) (tk' : Nat), Fr h₀ L h' m → News h₀ L h' news → Q (.bool true) { s with heap := h', toks := tk' }) :
  wpAny (model Challenge.rw_nb0120_01.row.prog w) (ktrTop dp un (some []) cn cs L a ccd cl []) (call (.ref 96) [.ref 63, .bytes #[97, 38] tq, .type "TypeError"]) Q E s := by
  w_on
  revert X; k_fill; intro X
  refine wpAny_call ?_
  have B0 : Below A₀ h₀ [] h₀ := ⟨B.stack, fun _ _ e => e, trivial⟩
  have N0 : News h₀ L s.heap [] := News.nil
  k_dflt (refine' code_def1 B0 F X N0 T ?kA ?kF ?kK ?k6 ?k7 ?k8 ?k9 ?kB ?_ ?c2 ?c3 ?c4 ?c5; (case kA => exact rfl); (case kF => exact rfl); (case kK => assumption); (case k6 => k_is); (case k7 => k_is); (case k8 => show dp < recursionLimit; omega); (case k9 => exact BindsTo.of_eq rfl); (case c5 => decide); (case kB => exact locs rfl); (case c2 => exact rfl); (case c3 => exact rfl); (case c4 => exact rfl))
  intro g1 L1 h1 hg1 hu1 hLL FG1 F1 N1 B1 X1 T1
  dsimp only
  k_fold
  refine wpAny_execs_cons ?_
  refine wpAny_Try_except ?_
  refine wpAny_execs_cons ?_
  k_steps
  rename Fr g1 _ _ _ => F8
  rename News g1 _ _ _ => N8
  k_dflt (refine esc4_bytes tq B1 F8 X1 N8 T1 rfl X T ?_ ?_ ?_)
  · show dp + 1 + 7 < recursionLimit
    omega
  · show un + 3 + 60 < cLine
    omega
  · intro e a0 Bs h2 tk2 hfl hBs hNs hup hns
    have hBs' : ∀ b o, s.heap.get? b = some o → b ≠ L → Bs.get? b = some o := fun b o hb hne => hBs b o (hg1 b o hb (by simp)) (by simpa using hne)
    dsimp only
    refine wpAny_looks_onW rfl rfl hfl (fun h3 hh3 hu3 => ?_)
    refine wpAny_landsW hh3 (fun h4 hfl4 hu4 => ?_)
    have F4 : Fr h₀ L1 h4 _ := ⟨hu4.ns (hu3.ns hns), fun b o q => hfl4.1 b o (hBs' b o (F.keep b o q) (Nat.ne_of_lt (Nat.lt_of_lt_of_le (Heap.lt_size q) F.above))), Nat.le_of_lt (Nat.lt_of_le_of_lt F.above hLL)⟩
    refine wpAny_handleBy_builtin (X := "TypeError") (T := "TypeError") (b := true) te_exc te_nt te_self ?_
    clear F8 N8
    walk1
    refine ⟨rfl, flying_type hfl4, ?_⟩
    rw [if_pos rfl]
    refine lands hfl4 (fun h5 hfl5 hu5 => ?_)
    refine wpAny_execs_cons (wpAny_Return_some ?_)
    walk1
    have hup0 : s.heap.UpToSlots h2 := fun b o hb hn => hup b o (hg1 b o hb (by simp)) hn
    obtain ⟨F5, N5⟩ := back_home F N hBs' hfl5.1 (((hup0.trans hu3).trans hu4).trans hu5)
    exact hret h5 _ F5 N5
theorem ref4_list {w : World} {mean : ExcName → Option Value} {mg mb : Str → Option Value} (tq : Tok)
  {dp un : Nat} {cn : Str} {cs : Scope} {a : Addr} {ccd : Value} {cl : List (Str × Addr)} {A₀ : Around} {base h₀ : Heap} {L : Addr} {m : Str → Option Value} {news : List (Addr × Obj)} {s : Shared} {Q E : Value → Shared → Prop} {lq : Addr} {nq : Nat}
  (B : Below A₀ base [] h₀) (F : Fr h₀ L s.heap m) (X : (Mine.hd.heap_39 w.params).In h₀) (N : News h₀ L s.heap news) (T : Top Mine.hd.view_39 (looseW Mine.hd.view_39 []) mean mg mb h₀) (hk : cs.kind = .function)
  (hd : dp + 8 < recursionLimit) (hu : un + 70 < cLine) (hq : (lq, listOf #[.str (Str.ofString "&") tq] nq) ∈ news)
  (hret : ∀ (h' : Heap) (tk' : Nat), Fr h₀ L h' m → News h₀ L h' news → Q (.bool true) { s with heap := h', toks := tk' }) :
  wpAny (model Challenge.rw_nb0120_01.row.prog w) (ktrTop dp un (some []) cn cs L a ccd cl []) (call (.ref 96) [.ref 63, .ref lq, .type "TypeError"]) Q E s := by
  w_on
  revert X; k_fill; intro X
  refine wpAny_call ?_
  have B0 : Below A₀ h₀ [] h₀ := ⟨B.stack, fun _ _ e => e, trivial⟩
  have N0 : News h₀ L s.heap [(lq, listOf #[.str (Str.ofString "&") tq] nq)] := fun p hp => N p (by rw [List.mem_singleton.mp hp]; exact hq)
  k_dflt (refine' code_def1 B0 F X N0 T ?kA ?kF ?kK ?k6 ?k7 ?k8 ?k9 ?kB ?_ ?c2 ?c3 ?c4 ?c5; (case kA => exact rfl); (case kF => exact rfl); (case kK => assumption); (case k6 => k_is); (case k7 => k_is); (case k8 => show dp < recursionLimit; omega); (case k9 => exact BindsTo.of_eq rfl); (case c5 => decide); (case kB => exact locs rfl); (case c2 => exact rfl); (case c3 => exact rfl); (case c4 => exact rfl))
  intro g1 L1 h1 hg1 hu1 hLL FG1 F1 N1 B1 X1 T1
  dsimp only
  k_fold
  refine wpAny_execs_cons ?_
  refine wpAny_Try_except ?_
  refine wpAny_execs_cons ?_
  k_steps
  rename Fr g1 _ _ _ => F8
  rename News g1 _ _ _ => N8
  k_dflt (refine esc4_list tq B1 F8 X1 N8 T1 rfl X T ?_ ?_ ?_)
  · show dp + 1 + 7 < recursionLimit
    omega
  · show un + 3 + 60 < cLine
    omega
  · intro e a0 Bs h2 tk2 hfl hBs hNs hup hns
    have hBs' : ∀ b o, s.heap.get? b = some o → b ≠ L → Bs.get? b = some o := fun b o hb hne => by
      by_cases hl : b = lq
      · subst hl
        have e1 := hNs _ (List.mem_cons_self ..)
        rw [show o = _ from Option.some.inj (hb.symm.trans (N _ hq).1)]
        exact e1
      · exact hBs b o (hg1 b o hb (by simpa using hl)) (by simpa using hne)
    dsimp only
    refine wpAny_looks_onW rfl rfl hfl (fun h3 hh3 hu3 => ?_)
    refine wpAny_landsW hh3 (fun h4 hfl4 hu4 => ?_)
    have F4 : Fr h₀ L1 h4 _ := ⟨hu4.ns (hu3.ns hns), fun b o q => hfl4.1 b o (hBs' b o (F.keep b o q) (Nat.ne_of_lt (Nat.lt_of_lt_of_le (Heap.lt_size q) F.above))), Nat.le_of_lt (Nat.lt_of_le_of_lt F.above hLL)⟩
    refine wpAny_handleBy_builtin (X := "TypeError") (T := "TypeError") (b := true) te_exc te_nt te_self ?_
    clear F8 N8
    walk1
    refine ⟨rfl, flying_type hfl4, ?_⟩
    rw [if_pos rfl]
    refine lands hfl4 (fun h5 hfl5 hu5 => ?_)
    refine wpAny_execs_cons (wpAny_Return_some ?_)
    walk1
    have hup0 : s.heap.UpToSlots h2 := fun b o hb hn => by
      by_cases hl : b = lq
      · exact ⟨o.slots, hfl.1 b o (hBs' b o hb (by rw [hl]; exact (N _ hq).2.1))⟩
      · exact hup b o (hg1 b o hb (by simpa using hl)) hn
    obtain ⟨F5, N5⟩ := back_home F N hBs' hfl5.1 (((hup0.trans hu3).trans hu4).trans hu5)
    exact hret h5 _ F5 N5
end Mine
end
section
open PySem PySem.W PyProof.Rows PySem.Calls
set_option maxRecDepth 100000
set_option maxHeartbeats 800000
namespace Mine
theorem slot_bytes_split : Slot "bytes" "split" "bytes.split" :=
  .of (owner := "bytes") (n := "split") (by rw [typeLookup_type, builtinLookup_eq_fast]; kernel_rfl) (by decide +kernel) (by decide +kernel) (by decide +kernel)
    (by first | exact .inl (by decide +kernel) | exact .inr (by decide +kernel)) (by rw [isSubtype_type]; kernel_rfl)
theorem type_bytes_split : typeOf (.builtin "bytes.split") = pure (.type "method_descriptor") := by show builtinType _ = _; rw [builtinType_eq_fast]; kernel_rfl
theorem entry_bytes_split : entryFor table "bytes.split" = some Builtin.«bytes.split» := entryFor_of_tree (by kernel_rfl)
theorem args_bytes_split (a b : Value) : argsOk "bytes.split" ⟨[a, b], []⟩ := by
  unfold argsOk; rw [signature?_of (id := "bytes.split") (n := ['t', 'i', 'l', 'p', 's']) (o := ['s', 'e', 't', 'y', 'b']) (by kernel_rfl) FB.owner_bytes]; kernel_rfl
section
variable {prog : Program} {w : World} {A : Around} {E : Value → Shared → Prop} {s : Shared}
theorem method_bsplit {M : Model} {b : Array UInt8} {t : Tok} {pl : Sem Bool} {Q : Value × List Value → Shared → Prop} (h : Q (.builtin "bytes.split", [.bytes b t]) s) : wpAny M A (getMethod (.bytes b t) "split" pl) Q E s := by
  with_reducible exact KBd.method_of (.bytes b t) (typeIs_bytes _ _ _) slot_bytes_split type_bytes_split KBd.noRef h
theorem bsplit_str {x : Str} {t u : Tok} {b : Array UInt8} {Q : Value → Shared → Prop} (hh : A.handled = none) (h : ∀ h' tk e, Heap.NewExc s.heap h' e "TypeError" → E (.ref e) { s with heap := h', toks := tk }) :
    wpAny (model prog w) A (call (.builtin "bytes.split") [.bytes b u, .str x t]) Q E s := by
  refine wpAny_call_entry slot_bytes_split (typeIs_bytes s b u) entry_bytes_split ?_ (args_bytes_split _ _)
  have e1 : Builtin.Bytes.bindOptional "bytes.split" "split" ["sep", "maxsplit"] [.str x t] [] = pure [some (.str x t), none] := by rfl
  show wpAny _ _ (Builtin.Bytes.splitM .bytes "split" false ⟨[.bytes b u, .str x t], []⟩) _ _ s
  unfold Builtin.Bytes.splitM
  show wpAny _ _ (do let r ← Builtin.Bytes.bindOptional "bytes.split" "split" ["sep", "maxsplit"] [.str x t] []; _) _ _ s
  refine wpAny_bind (wpAny_of_eq e1 ?_)
  try dsimp only
  refine wpAny_bind (wpAny_pure ?_)
  refine wpAny_bind (wpAny_of_eq (a := b) (by rfl) ?_)
  try dsimp only
  refine wpAny_bind ?_
  unfold Builtin.Bytes.bytesLike
  refine wpAny_bind ?_
  unfold Builtin.Bytes.buffer?
  refine wpAny_bind (wpAny_specialOf (typeIs_str _ x t) str_no_buffer ?_)
  show wpAny _ _ (do let r ← specialOf (Value.str x t) (Str.ofString "__buffer__"); _) _ _ _
  refine wpAny_bind (wpAny_specialOf (typeIs_str _ x t) str_no_buffer ?_)
  refine wpAny_pure ?_
  refine wpAny_bind (wpAny_rule ?_)
  refine wpAny_bind (wpAny_typeNameOf' (typeIs_str _ x t) (by decide) ?_)
  exact wpAny_raiseTypeError hh h (by decide +kernel)
end
end Mine
end
section
open PySem PySem.W PyProof.Rows PySem.Calls
set_option maxRecDepth 100000
set_option maxHeartbeats 800000
namespace Mine
theorem dd_none {w : World} {mean : ExcName → Option Value} {mg mb : Str → Option Value} (tq : Tok)
  {dp un : Nat} {gd : Option (List Code)} {cn : Str} {cs : Scope} {a : Addr} {ccd : Value} {cl : List (Str × Addr)} {outer : List Env} {A₀ : Around} {base h₀ : Heap} {L : Addr} {m : Str → Option Value} {news : List (Addr × Obj)} {s : Shared} {Q E : Value → Shared → Prop}
  (B : Below A₀ base outer h₀) (F : Fr h₀ L s.heap m) (X : (Mine.hd.heap_39 w.params).In h₀) (N : News h₀ L s.heap news) (T : Top Mine.hd.view_39 (looseW Mine.hd.view_39 []) mean mg mb h₀) (hk : cs.kind = .function)
  (hd : dp + 1 < recursionLimit)
  (hret : ∀ (e : Addr) (a0 : Value) (Bs h' : Heap) (tk' : Nat), Heap.FlyingW Bs (envX cn cs L a ccd cl :: outer) e (.type "AttributeError") a0 h' → (∀ b o, h₀.get? b = some o → b ∉ outer.filterMap (·.frame) → Bs.get? b = some o) →
    h₀.UpToSlots h' → h'.Ns L m → E (.ref e) { s with heap := h', toks := tk' }) :
  wpAny (model Challenge.rw_nb0120_01.row.prog w) (ktrTop dp un gd cn cs L a ccd cl outer) (call (.ref 21) [.none]) Q E s := by
  w_on
  revert X; k_fill; intro X
  refine wpAny_call ?_
  k_dflt (refine' code_def B F X N T ?kA ?kF ?kK ?k6 ?k7 ?k8 ?k9 ?kB ?_ ?c2 ?c3 ?c4 ?c5; (case kA => exact rfl); (case kF => exact rfl); (case kK => assumption); (case k6 => k_is); (case k7 => k_is); (case k8 => ktr_room); (case k9 => exact BindsTo.of_eq rfl); (case c5 => decide); (case kB => exact locs rfl); (case c2 => exact rfl); (case c3 => exact rfl); (case c4 => exact rfl))
  intro g1 L1 h1 FG1 F1 N1 B1 X1 T1
  dsimp only
  k_fold
  k_steps
  rename Fr g1 _ _ _ => F8
  rename News g1 _ _ _ => N8
  refine method_miss (T := "NoneType") (typeIs_none _) PySem.F.slot_NoneType_getattribute.lookup (by decide +kernel) am_none_getattr_none (by rw [typeLookup_type, builtinLookup_eq_fast]; kernel_rfl) ?_
  refine attr_miss_none (by rw [typeLookup_type, builtinLookup_eq_fast]; kernel_rfl) rfl (fun h7 tk7 e7 hx7 => ?_) (by rw [PySem.sizeLine_eq]; decide +kernel)
  refine leave_call B1 rfl rfl rfl rfl F.above FG1 F8 hx7.of ?_
  intro h8 a0 Bs hfl hBs hup hns
  exact hret e7 a0 Bs h8 _ hfl hBs hup hns
theorem dd_int {w : World} {mean : ExcName → Option Value} {mg mb : Str → Option Value} (tq : Tok)
  {dp un : Nat} {gd : Option (List Code)} {cn : Str} {cs : Scope} {a : Addr} {ccd : Value} {cl : List (Str × Addr)} {outer : List Env} {A₀ : Around} {base h₀ : Heap} {L : Addr} {m : Str → Option Value} {news : List (Addr × Obj)} {s : Shared} {Q E : Value → Shared → Prop}
  (B : Below A₀ base outer h₀) (F : Fr h₀ L s.heap m) (X : (Mine.hd.heap_39 w.params).In h₀) (N : News h₀ L s.heap news) (T : Top Mine.hd.view_39 (looseW Mine.hd.view_39 []) mean mg mb h₀) (hk : cs.kind = .function)
  (hd : dp + 1 < recursionLimit)
  (hret : ∀ (e : Addr) (a0 : Value) (Bs h' : Heap) (tk' : Nat), Heap.FlyingW Bs (envX cn cs L a ccd cl :: outer) e (.type "AttributeError") a0 h' → (∀ b o, h₀.get? b = some o → b ∉ outer.filterMap (·.frame) → Bs.get? b = some o) →
    h₀.UpToSlots h' → h'.Ns L m → E (.ref e) { s with heap := h', toks := tk' }) :
  wpAny (model Challenge.rw_nb0120_01.row.prog w) (ktrTop dp un gd cn cs L a ccd cl outer) (call (.ref 21) [.int 5 tq]) Q E s := by
  w_on
  revert X; k_fill; intro X
  refine wpAny_call ?_
  k_dflt (refine' code_def B F X N T ?kA ?kF ?kK ?k6 ?k7 ?k8 ?k9 ?kB ?_ ?c2 ?c3 ?c4 ?c5; (case kA => exact rfl); (case kF => exact rfl); (case kK => assumption); (case k6 => k_is); (case k7 => k_is); (case k8 => ktr_room); (case k9 => exact BindsTo.of_eq rfl); (case c5 => decide); (case kB => exact locs rfl); (case c2 => exact rfl); (case c3 => exact rfl); (case c4 => exact rfl))
  intro g1 L1 h1 FG1 F1 N1 B1 X1 T1
  dsimp only
  k_fold
  k_steps
  rename Fr g1 _ _ _ => F8
  rename News g1 _ _ _ => N8
  refine method_miss (T := "int") (typeIs_int _ _ _) PySem.F.slot_int_getattribute.lookup (by decide +kernel) am_int_getattr_none (by rw [typeLookup_type, builtinLookup_eq_fast]; kernel_rfl) ?_
  refine attr_miss_int (by rw [typeLookup_type, builtinLookup_eq_fast]; kernel_rfl) rfl (fun h7 tk7 e7 hx7 => ?_) (by rw [PySem.sizeLine_eq]; decide +kernel)
  refine leave_call B1 rfl rfl rfl rfl F.above FG1 F8 hx7.of ?_
  intro h8 a0 Bs hfl hBs hup hns
  exact hret e7 a0 Bs h8 _ hfl hBs hup hns
theorem dd_bytes {w : World} {mean : ExcName → Option Value} {mg mb : Str → Option Value} (tq : Tok)
  {dp un : Nat} {gd : Option (List Code)} {cn : Str} {cs : Scope} {a : Addr} {ccd : Value} {cl : List (Str × Addr)} {outer : List Env} {A₀ : Around} {base h₀ : Heap} {L : Addr} {m : Str → Option Value} {news : List (Addr × Obj)} {s : Shared} {Q E : Value → Shared → Prop}
  (B : Below A₀ base outer h₀) (F : Fr h₀ L s.heap m) (X : (Mine.hd.heap_39 w.params).In h₀) (N : News h₀ L s.heap news) (T : Top Mine.hd.view_39 (looseW Mine.hd.view_39 []) mean mg mb h₀) (hk : cs.kind = .function)
  (hd : dp + 1 < recursionLimit)
  (hret : ∀ (e : Addr) (a0 : Value) (Bs h' : Heap) (tk' : Nat), Heap.FlyingW Bs (envX cn cs L a ccd cl :: outer) e (.type "TypeError") a0 h' → (∀ b o, h₀.get? b = some o → b ∉ outer.filterMap (·.frame) → Bs.get? b = some o) →
    h₀.UpToSlots h' → h'.Ns L m → E (.ref e) { s with heap := h', toks := tk' }) :
  wpAny (model Challenge.rw_nb0120_01.row.prog w) (ktrTop dp un gd cn cs L a ccd cl outer) (call (.ref 21) [.bytes #[32, 97] tq]) Q E s := by
  w_on
  revert X; k_fill; intro X
  refine wpAny_call ?_
  k_dflt (refine' code_def B F X N T ?kA ?kF ?kK ?k6 ?k7 ?k8 ?k9 ?kB ?_ ?c2 ?c3 ?c4 ?c5; (case kA => exact rfl); (case kF => exact rfl); (case kK => assumption); (case k6 => k_is); (case k7 => k_is); (case k8 => ktr_room); (case k9 => exact BindsTo.of_eq rfl); (case c5 => decide); (case kB => exact locs rfl); (case c2 => exact rfl); (case c3 => exact rfl); (case c4 => exact rfl))
  intro g1 L1 h1 FG1 F1 N1 B1 X1 T1
  dsimp only
  k_fold
  k_steps
  rename Fr g1 _ _ _ => F8
  rename News g1 _ _ _ => N8
  refine method_bsplit ?_
  refine callWith_method1 ?_
  refine args_cons (Calls.Constant_str (args_nil ?_))
  simp only [List.cons_append, List.nil_append]
  refine bsplit_str rfl (fun h7 tk7 e7 hx7 => ?_)
  refine leave_call B1 rfl rfl rfl rfl F.above FG1 F8 (newX_of hx7).of ?_
  intro h8 a0 Bs hfl hBs hup hns
  exact hret e7 a0 Bs h8 _ hfl hBs hup hns
end Mine
end
section
open PySem PySem.W PyProof.Rows PySem.Calls
set_option maxRecDepth 100000
set_option maxHeartbeats 800000
namespace Mine
theorem ae_exc : isSubtype (.type "AttributeError") (.type "BaseException") = pure true := by rw [isSubtype_type]; kernel_rfl
theorem ae_self : isSubtype (.type "AttributeError") (.type "AttributeError") = pure true := by rw [isSubtype_type]; kernel_rfl
theorem ae_nt : isSubtype (.type ((Manifest.find? "AttributeError").elim "type" fun x => x.metatype)) (.type "tuple") = pure false := by
  rw [show ((Manifest.find? "AttributeError").elim "type" fun x => x.metatype) = "type" from by decide +kernel, isSubtype_type]; kernel_rfl
theorem ref5_none {w : World} {mean : ExcName → Option Value} {mg mb : Str → Option Value} (tq : Tok)
  {dp un : Nat} {gd : Option (List Code)} {cn : Str} {cs : Scope} {a : Addr} {ccd : Value} {cl : List (Str × Addr)} {A₀ : Around} {base h₀ : Heap} {L : Addr} {m : Str → Option Value} {news : List (Addr × Obj)} {s : Shared} {Q E : Value → Shared → Prop}
  (B : Below A₀ base [] h₀) (F : Fr h₀ L s.heap m) (X : (Mine.hd.heap_39 w.params).In h₀) (N : News h₀ L s.heap news) (T : Top Mine.hd.view_39 (looseW Mine.hd.view_39 []) mean mg mb h₀) (hk : cs.kind = .function)
  (hd : dp + 8 < recursionLimit)
  (hret : ∀ (h' : Heap) (tk' : Nat), Fr h₀ L h' m → News h₀ L h' news → Q (.bool true) { s with heap := h', toks := tk' }) :
  wpAny (model Challenge.rw_nb0120_01.row.prog w) (ktrTop dp un gd cn cs L a ccd cl []) (call (.ref 96) [.ref 21, .none, .type "AttributeError"]) Q E s := by
  w_on
  revert X; k_fill; intro X
  refine wpAny_call ?_
  have B0 : Below A₀ h₀ [] h₀ := ⟨B.stack, fun _ _ e => e, trivial⟩
  have N0 : News h₀ L s.heap [] := News.nil
  k_dflt (refine' code_def1 B0 F X N0 T ?kA ?kF ?kK ?k6 ?k7 ?k8 ?k9 ?kB ?_ ?c2 ?c3 ?c4 ?c5; (case kA => exact rfl); (case kF => exact rfl); (case kK => assumption); (case k6 => k_is); (case k7 => k_is); (case k8 => show dp < recursionLimit; omega); (case k9 => exact BindsTo.of_eq rfl); (case c5 => decide); (case kB => exact locs rfl); (case c2 => exact rfl); (case c3 => exact rfl); (case c4 => exact rfl))
  intro g1 L1 h1 hg1 hu1 hLL FG1 F1 N1 B1 X1 T1
  dsimp only
  k_fold
  refine wpAny_execs_cons ?_
  refine wpAny_Try_except ?_
  refine wpAny_execs_cons ?_
  k_steps
  rename Fr g1 _ _ _ => F8
  rename News g1 _ _ _ => N8
  k_dflt (refine dd_none tq B1 F8 X1 N8 T1 rfl ?_ ?_)
  · show dp + 1 + 1 < recursionLimit
    omega
  · intro e a0 Bs h2 tk2 hfl hBs hup hns
    have hBs' : ∀ b o, s.heap.get? b = some o → b ≠ L → Bs.get? b = some o := fun b o hb hne => hBs b o (hg1 b o hb (by simp)) (by simpa using hne)
    dsimp only
    refine wpAny_looks_onW rfl rfl hfl (fun h3 hh3 hu3 => ?_)
    refine wpAny_landsW hh3 (fun h4 hfl4 hu4 => ?_)
    have F4 : Fr h₀ L1 h4 _ := ⟨hu4.ns (hu3.ns hns), fun b o q => hfl4.1 b o (hBs' b o (F.keep b o q) (Nat.ne_of_lt (Nat.lt_of_lt_of_le (Heap.lt_size q) F.above))), Nat.le_of_lt (Nat.lt_of_le_of_lt F.above hLL)⟩
    refine wpAny_handleBy_builtin (X := "AttributeError") (T := "AttributeError") (b := true) ae_exc ae_nt ae_self ?_
    clear F8 N8
    walk1
    refine ⟨rfl, flying_type hfl4, ?_⟩
    rw [if_pos rfl]
    refine lands hfl4 (fun h5 hfl5 hu5 => ?_)
    refine wpAny_execs_cons (wpAny_Return_some ?_)
    walk1
    have hup0 : s.heap.UpToSlots h2 := fun b o hb hn => hup b o (hg1 b o hb (by simp)) hn
    obtain ⟨F5, N5⟩ := back_home F N hBs' hfl5.1 (((hup0.trans hu3).trans hu4).trans hu5)
    exact hret h5 _ F5 N5
theorem ref5_int {w : World} {mean : ExcName → Option Value} {mg mb : Str → Option Value} (tq : Tok)
  {dp un : Nat} {gd : Option (List Code)} {cn : Str} {cs : Scope} {a : Addr} {ccd : Value} {cl : List (Str × Addr)} {A₀ : Around} {base h₀ : Heap} {L : Addr} {m : Str → Option Value} {news : List (Addr × Obj)} {s : Shared} {Q E : Value → Shared → Prop}
  (B : Below A₀ base [] h₀) (F : Fr h₀ L s.heap m) (X : (Mine.hd.heap_39 w.params).In h₀) (N : News h₀ L s.heap news) (T : Top Mine.hd.view_39 (looseW Mine.hd.view_39 []) mean mg mb h₀) (hk : cs.kind = .function)
  (hd : dp + 8 < recursionLimit)
  (hret : ∀ (h' : Heap) (tk' : Nat), Fr h₀ L h' m → News h₀ L h' news → Q (.bool true) { s with heap := h', toks := tk' }) :
  wpAny (model Challenge.rw_nb0120_01.row.prog w) (ktrTop dp un gd cn cs L a ccd cl []) (call (.ref 96) [.ref 21, .int 5 tq, .type "AttributeError"]) Q E s := by
  w_on
  revert X; k_fill; intro X
  refine wpAny_call ?_
  have B0 : Below A₀ h₀ [] h₀ := ⟨B.stack, fun _ _ e => e, trivial⟩
  have N0 : News h₀ L s.heap [] := News.nil
  k_dflt (refine' code_def1 B0 F X N0 T ?kA ?kF ?kK ?k6 ?k7 ?k8 ?k9 ?kB ?_ ?c2 ?c3 ?c4 ?c5; (case kA => exact rfl); (case kF => exact rfl); (case kK => assumption); (case k6 => k_is); (case k7 => k_is); (case k8 => show dp < recursionLimit; omega); (case k9 => exact BindsTo.of_eq rfl); (case c5 => decide); (case kB => exact locs rfl); (case c2 => exact rfl); (case c3 => exact rfl); (case c4 => exact rfl))
  intro g1 L1 h1 hg1 hu1 hLL FG1 F1 N1 B1 X1 T1
  dsimp only
  k_fold
  refine wpAny_execs_cons ?_
  refine wpAny_Try_except ?_
  refine wpAny_execs_cons ?_
  k_steps
  rename Fr g1 _ _ _ => F8
  rename News g1 _ _ _ => N8
  k_dflt (refine dd_int tq B1 F8 X1 N8 T1 rfl ?_ ?_)
  · show dp + 1 + 1 < recursionLimit
    omega
  · intro e a0 Bs h2 tk2 hfl hBs hup hns
    have hBs' : ∀ b o, s.heap.get? b = some o → b ≠ L → Bs.get? b = some o := fun b o hb hne => hBs b o (hg1 b o hb (by simp)) (by simpa using hne)
    dsimp only
    refine wpAny_looks_onW rfl rfl hfl (fun h3 hh3 hu3 => ?_)
    refine wpAny_landsW hh3 (fun h4 hfl4 hu4 => ?_)
    have F4 : Fr h₀ L1 h4 _ := ⟨hu4.ns (hu3.ns hns), fun b o q => hfl4.1 b o (hBs' b o (F.keep b o q) (Nat.ne_of_lt (Nat.lt_of_lt_of_le (Heap.lt_size q) F.above))), Nat.le_of_lt (Nat.lt_of_le_of_lt F.above hLL)⟩
    refine wpAny_handleBy_builtin (X := "AttributeError") (T := "AttributeError") (b := true) ae_exc ae_nt ae_self ?_
    clear F8 N8
    walk1
    refine ⟨rfl, flying_type hfl4, ?_⟩
    rw [if_pos rfl]
    refine lands hfl4 (fun h5 hfl5 hu5 => ?_)
    refine wpAny_execs_cons (wpAny_Return_some ?_)
    walk1
    have hup0 : s.heap.UpToSlots h2 := fun b o hb hn => hup b o (hg1 b o hb (by simp)) hn
    obtain ⟨F5, N5⟩ := back_home F N hBs' hfl5.1 (((hup0.trans hu3).trans hu4).trans hu5)
    exact hret h5 _ F5 N5
theorem ref5_bytes {w : World} {mean : ExcName → Option Value} {mg mb : Str → Option Value} (tq : Tok)
  {dp un : Nat} {gd : Option (List Code)} {cn : Str} {cs : Scope} {a : Addr} {ccd : Value} {cl : List (Str × Addr)} {A₀ : Around} {base h₀ : Heap} {L : Addr} {m : Str → Option Value} {news : List (Addr × Obj)} {s : Shared} {Q E : Value → Shared → Prop}
  (B : Below A₀ base [] h₀) (F : Fr h₀ L s.heap m) (X : (Mine.hd.heap_39 w.params).In h₀) (N : News h₀ L s.heap news) (T : Top Mine.hd.view_39 (looseW Mine.hd.view_39 []) mean mg mb h₀) (hk : cs.kind = .function)
  (hd : dp + 8 < recursionLimit)
  (hret : ∀ (h' : Heap) (tk' : Nat), Fr h₀ L h' m → News h₀ L h' news → Q (.bool true) { s with heap := h', toks := tk' }) :
  wpAny (model Challenge.rw_nb0120_01.row.prog w) (ktrTop dp un gd cn cs L a ccd cl []) (call (.ref 96) [.ref 21, .bytes #[32, 97] tq, .type "TypeError"]) Q E s := by
  w_on
  revert X; k_fill; intro X
  refine wpAny_call ?_
  have B0 : Below A₀ h₀ [] h₀ := ⟨B.stack, fun _ _ e => e, trivial⟩
  have N0 : News h₀ L s.heap [] := News.nil
  k_dflt (refine' code_def1 B0 F X N0 T ?kA ?kF ?kK ?k6 ?k7 ?k8 ?k9 ?kB ?_ ?c2 ?c3 ?c4 ?c5; (case kA => exact rfl); (case kF => exact rfl); (case kK => assumption); (case k6 => k_is); (case k7 => k_is); (case k8 => show dp < recursionLimit; omega); (case k9 => exact BindsTo.of_eq rfl); (case c5 => decide); (case kB => exact locs rfl); (case c2 => exact rfl); (case c3 => exact rfl); (case c4 => exact rfl))
  intro g1 L1 h1 hg1 hu1 hLL FG1 F1 N1 B1 X1 T1
  dsimp only
  k_fold
  refine wpAny_execs_cons ?_
  refine wpAny_Try_except ?_
  refine wpAny_execs_cons ?_
  k_steps
  rename Fr g1 _ _ _ => F8
  rename News g1 _ _ _ => N8
  k_dflt (refine dd_bytes tq B1 F8 X1 N8 T1 rfl ?_ ?_)
  · show dp + 1 + 1 < recursionLimit
    omega
  · intro e a0 Bs h2 tk2 hfl hBs hup hns
    have hBs' : ∀ b o, s.heap.get? b = some o → b ≠ L → Bs.get? b = some o := fun b o hb hne => hBs b o (hg1 b o hb (by simp)) (by simpa using hne)
    dsimp only
    refine wpAny_looks_onW rfl rfl hfl (fun h3 hh3 hu3 => ?_)
    refine wpAny_landsW hh3 (fun h4 hfl4 hu4 => ?_)
    have F4 : Fr h₀ L1 h4 _ := ⟨hu4.ns (hu3.ns hns), fun b o q => hfl4.1 b o (hBs' b o (F.keep b o q) (Nat.ne_of_lt (Nat.lt_of_lt_of_le (Heap.lt_size q) F.above))), Nat.le_of_lt (Nat.lt_of_le_of_lt F.above hLL)⟩
    refine wpAny_handleBy_builtin (X := "TypeError") (T := "TypeError") (b := true) te_exc te_nt te_self ?_
    clear F8 N8
    walk1
    refine ⟨rfl, flying_type hfl4, ?_⟩
    rw [if_pos rfl]
    refine lands hfl4 (fun h5 hfl5 hu5 => ?_)
    refine wpAny_execs_cons (wpAny_Return_some ?_)
    walk1
    have hup0 : s.heap.UpToSlots h2 := fun b o hb hn => hup b o (hg1 b o hb (by simp)) hn
    obtain ⟨F5, N5⟩ := back_home F N hBs' hfl5.1 (((hup0.trans hu3).trans hu4).trans hu5)
    exact hret h5 _ F5 N5
end Mine
end
section
open PySem PySem.W PyProof.Rows PySem.Calls
set_option maxRecDepth 100000
set_option maxHeartbeats 8000000
namespace Mine
/-- the last def of a module -/
def lastDef : List Stmt → List Stmt × Scope
  | [] => ([], { kind := .function, names := [], isGenerator := false, isCoroutine := false })
  | [.FunctionDef _ _ body _ _ _ sc _ _ _] => (body, sc)
  | _ :: r => lastDef r
def lawBody : List Stmt := (lastDef Challenge.rw_nb0120_01.row.prog.main.body).1
def lawScope : Scope := (lastDef Challenge.rw_nb0120_01.row.prog.main.body).2
end Mine
end
section
open PySem PySem.W PyProof.Rows PySem.Calls
set_option maxRecDepth 100000
set_option maxHeartbeats 800000
namespace Mine
theorem va_cons {ks : Str} {k c : Nat} {v : Value} {r : List (Str × Value)} (h : ks = ⟨#[k]⟩) : valueAt ((ks, v) :: r) (⟨#[c]⟩ : Str) = if c = k then some v else valueAt r ⟨#[c]⟩ := by
  subst h
  unfold valueAt
  by_cases e : c = k
  · subst e; simp
  · have : ¬ (⟨#[k]⟩ : Str) = ⟨#[c]⟩ := fun q => e (by injection q with q; injection q with q; injection q with q _; exact q.symm)
    rw [if_neg e, List.find?_cons, show (decide ((⟨#[k]⟩ : Str) = ⟨#[c]⟩)) = false from decide_eq_false this]
theorem va_nil {c : Nat} : valueAt ([] : List (Str × Value)) (⟨#[c]⟩ : Str) = none := rfl
theorem tabOk0 (t0 t1 t2 t3 t4 t5 : Tok) : TabOk 0 (strPairs [(.str (Str.ofString "&") t0, .str (Str.ofString "&amp;") t1), (.str (Str.ofString "<") t2, .str (Str.ofString "&lt;") t3), (.str (Str.ofString ">") t4, .str (Str.ofString "&gt;") t5)]) := by
  intro c
  simp only [strPairs]
  rw [va_cons (k := 38) (by decide)]
  by_cases h0 : c = 38
  · subst h0; rw [if_pos rfl]; exact ⟨_, _, rfl, by decide⟩
  rw [if_neg h0, va_cons (k := 60) (by decide)]
  by_cases h1 : c = 60
  · subst h1; rw [if_pos rfl]; exact ⟨_, _, rfl, by decide⟩
  rw [if_neg h1, va_cons (k := 62) (by decide)]
  by_cases h2 : c = 62
  · subst h2; rw [if_pos rfl]; exact ⟨_, _, rfl, by decide⟩
  rw [if_neg h2, va_nil]
  simp [tab, h0, h1, h2]
theorem tabOk1 (t0 t1 t2 t3 t4 t5 t6 t7 t8 t9 t10 t11 t12 t13 : Tok) : TabOk 1 (strPairs [(.str (Str.ofString "&") t0, .str (Str.ofString "&amp;") t1), (.str (Str.ofString "<") t2, .str (Str.ofString "&lt;") t3), (.str (Str.ofString ">") t4, .str (Str.ofString "&gt;") t5), (.str (Str.ofString "\"") t6, .str (Str.ofString "&quot;") t7), (.str (Str.ofString "\r") t8, .str (Str.ofString "&#13;") t9), (.str (Str.ofString "\n") t10, .str (Str.ofString "&#10;") t11), (.str (Str.ofString "\t") t12, .str (Str.ofString "&#09;") t13)]) := by
  intro c
  simp only [strPairs]
  rw [va_cons (k := 38) (by decide)]
  by_cases h0 : c = 38
  · subst h0; rw [if_pos rfl]; exact ⟨_, _, rfl, by decide⟩
  rw [if_neg h0, va_cons (k := 60) (by decide)]
  by_cases h1 : c = 60
  · subst h1; rw [if_pos rfl]; exact ⟨_, _, rfl, by decide⟩
  rw [if_neg h1, va_cons (k := 62) (by decide)]
  by_cases h2 : c = 62
  · subst h2; rw [if_pos rfl]; exact ⟨_, _, rfl, by decide⟩
  rw [if_neg h2, va_cons (k := 34) (by decide)]
  by_cases h3 : c = 34
  · subst h3; rw [if_pos rfl]; exact ⟨_, _, rfl, by decide⟩
  rw [if_neg h3, va_cons (k := 13) (by decide)]
  by_cases h4 : c = 13
  · subst h4; rw [if_pos rfl]; exact ⟨_, _, rfl, by decide⟩
  rw [if_neg h4, va_cons (k := 10) (by decide)]
  by_cases h5 : c = 10
  · subst h5; rw [if_pos rfl]; exact ⟨_, _, rfl, by decide⟩
  rw [if_neg h5, va_cons (k := 9) (by decide)]
  by_cases h6 : c = 9
  · subst h6; rw [if_pos rfl]; exact ⟨_, _, rfl, by decide⟩
  rw [if_neg h6, va_nil]
  simp [tab, h0, h1, h2, h3, h4, h5, h6]
theorem tabOk2 (t0 t1 t2 t3 t4 t5 : Tok) : TabOk 2 (strPairs [(.str (Str.ofString "&") t0, .str (Str.ofString "&amp;") t1), (.str (Str.ofString ">") t2, .str (Str.ofString "&gt;") t3), (.str (Str.ofString "\"") t4, .str (Str.ofString "&quot;") t5)]) := by
  intro c
  simp only [strPairs]
  rw [va_cons (k := 38) (by decide)]
  by_cases h0 : c = 38
  · subst h0; rw [if_pos rfl]; exact ⟨_, _, rfl, by decide⟩
  rw [if_neg h0, va_cons (k := 62) (by decide)]
  by_cases h1 : c = 62
  · subst h1; rw [if_pos rfl]; exact ⟨_, _, rfl, by decide⟩
  rw [if_neg h1, va_cons (k := 34) (by decide)]
  by_cases h2 : c = 34
  · subst h2; rw [if_pos rfl]; exact ⟨_, _, rfl, by decide⟩
  rw [if_neg h2, va_nil]
  simp [tab, h0, h1, h2]
theorem tabOk3 (t0 t1 t2 t3 t4 t5 t6 t7 : Tok) : TabOk 3 (strPairs [(.str (Str.ofString "&") t0, .str (Str.ofString "&amp;") t1), (.str (Str.ofString "<") t2, .str (Str.ofString "&lt;") t3), (.str (Str.ofString ">") t4, .str (Str.ofString "&gt;") t5), (.str (Str.ofString "\r") t6, .str (Str.ofString "&#xD;") t7)]) := by
  intro c
  simp only [strPairs]
  rw [va_cons (k := 38) (by decide)]
  by_cases h0 : c = 38
  · subst h0; rw [if_pos rfl]; exact ⟨_, _, rfl, by decide⟩
  rw [if_neg h0, va_cons (k := 60) (by decide)]
  by_cases h1 : c = 60
  · subst h1; rw [if_pos rfl]; exact ⟨_, _, rfl, by decide⟩
  rw [if_neg h1, va_cons (k := 62) (by decide)]
  by_cases h2 : c = 62
  · subst h2; rw [if_pos rfl]; exact ⟨_, _, rfl, by decide⟩
  rw [if_neg h2, va_cons (k := 13) (by decide)]
  by_cases h3 : c = 13
  · subst h3; rw [if_pos rfl]; exact ⟨_, _, rfl, by decide⟩
  rw [if_neg h3, va_nil]
  simp [tab, h0, h1, h2, h3]
theorem tabOk4 (t0 t1 t2 t3 t4 t5 t6 t7 t8 t9 t10 t11 : Tok) : TabOk 4 (strPairs [(.str (Str.ofString "&") t0, .str (Str.ofString "&amp;") t1), (.str (Str.ofString "<") t2, .str (Str.ofString "&lt;") t3), (.str (Str.ofString "\"") t4, .str (Str.ofString "&quot;") t5), (.str (Str.ofString "\t") t6, .str (Str.ofString "&#x9;") t7), (.str (Str.ofString "\n") t8, .str (Str.ofString "&#xA;") t9), (.str (Str.ofString "\r") t10, .str (Str.ofString "&#xD;") t11)]) := by
  intro c
  simp only [strPairs]
  rw [va_cons (k := 38) (by decide)]
  by_cases h0 : c = 38
  · subst h0; rw [if_pos rfl]; exact ⟨_, _, rfl, by decide⟩
  rw [if_neg h0, va_cons (k := 60) (by decide)]
  by_cases h1 : c = 60
  · subst h1; rw [if_pos rfl]; exact ⟨_, _, rfl, by decide⟩
  rw [if_neg h1, va_cons (k := 34) (by decide)]
  by_cases h2 : c = 34
  · subst h2; rw [if_pos rfl]; exact ⟨_, _, rfl, by decide⟩
  rw [if_neg h2, va_cons (k := 9) (by decide)]
  by_cases h3 : c = 9
  · subst h3; rw [if_pos rfl]; exact ⟨_, _, rfl, by decide⟩
  rw [if_neg h3, va_cons (k := 10) (by decide)]
  by_cases h4 : c = 10
  · subst h4; rw [if_pos rfl]; exact ⟨_, _, rfl, by decide⟩
  rw [if_neg h4, va_cons (k := 13) (by decide)]
  by_cases h5 : c = 13
  · subst h5; rw [if_pos rfl]; exact ⟨_, _, rfl, by decide⟩
  rw [if_neg h5, va_nil]
  simp [tab, h0, h1, h2, h3, h4, h5]
end Mine
end
section
open PySem PySem.W PyProof.Rows PySem.Calls
set_option maxRecDepth 100000
set_option maxHeartbeats 8000000
namespace Mine
/-- the law's frame -/
abbrev lawEnv (L fa : Addr) (cd : Value) : Env := envX (Str.ofString "law") lawScope L fa cd [(Str.ofString "signs", L + 1)]
/-- the ledger has the five tables -/
def TabsIn (w : World) (news : List (Addr × Obj)) (Ta : Addr) : Prop :=
  ∃ tl nT, (Ta, listOf (List.toArray tl) nT) ∈ news ∧ ∀ i, i < 5 → ∃ d o kvs, tl[i]? = some (.ref d) ∧ (d, o) ∈ news ∧ Obj.IsDictOf (PySem.strKind Challenge.rw_nb0120_01.row.prog w) o kvs ∧ (d == sysModules) = false ∧ TabOk i kvs
def deedList : List Value := [.ref 35, .ref 42, .ref 49, .ref 56, .ref 63, .none]
/-- the ledger has the tables and the deeds -/
def LawLed (w : World) (news : List (Addr × Obj)) (Ta D : Addr) : Prop := TabsIn w news Ta ∧ ∃ nD, (D, listOf deedList.toArray nD) ∈ news
theorem TabsIn.mono {w : World} {news news' : List (Addr × Obj)} {Ta : Addr} (h : TabsIn w news Ta) (s : ∀ p ∈ news, p ∈ news') : TabsIn w news' Ta := by
  obtain ⟨tl, nT, h1, h2⟩ := h
  refine ⟨tl, nT, s _ h1, fun i hi => ?_⟩
  obtain ⟨d, o, kvs, k1, k2, k3⟩ := h2 i hi
  exact ⟨d, o, kvs, k1, s _ k2, k3⟩
theorem LawLed.mono {w : World} {news news' : List (Addr × Obj)} {Ta D : Addr} (h : LawLed w news Ta D) (s : ∀ p ∈ news, p ∈ news') : LawLed w news' Ta D := by
  obtain ⟨h1, nD, h2⟩ := h
  exact ⟨h1.mono s, nD, s _ h2⟩
/-- behind the fourth statement -/
def AfterTables (w : World) (h₀ : Heap) (L D : Addr) (m : Str → Option Value) (s : Shared) (f : Flow) (s' : Shared) : Prop :=
  f = .next ∧ ∃ h tk Ta news, s' = { s with heap := h, toks := tk } ∧ Fr h₀ L h (fun y => if y = Str.ofString "tables" then some (.ref Ta) else if y = Str.ofString "deeds" then some (.ref D) else m y) ∧ News h₀ L h news ∧ LawLed w news Ta D
theorem tabs_five {w : World} {news : List (Addr × Obj)} {Ta d0 d1 d2 d3 d4 : Addr} {o0 o1 o2 o3 o4 : Obj} {k0 k1 k2 k3 k4 : List (Str × Value)} {nT : Nat} (h : (Ta, listOf #[.ref d0, .ref d1, .ref d2, .ref d3, .ref d4] nT) ∈ news)
    (m0 : (d0, o0) ∈ news) (m1 : (d1, o1) ∈ news) (m2 : (d2, o2) ∈ news) (m3 : (d3, o3) ∈ news) (m4 : (d4, o4) ∈ news)
    (i0 : Obj.IsDictOf (PySem.strKind Challenge.rw_nb0120_01.row.prog w) o0 k0) (i1 : Obj.IsDictOf (PySem.strKind Challenge.rw_nb0120_01.row.prog w) o1 k1) (i2 : Obj.IsDictOf (PySem.strKind Challenge.rw_nb0120_01.row.prog w) o2 k2) (i3 : Obj.IsDictOf (PySem.strKind Challenge.rw_nb0120_01.row.prog w) o3 k3) (i4 : Obj.IsDictOf (PySem.strKind Challenge.rw_nb0120_01.row.prog w) o4 k4)
    (l0 : (d0 == sysModules) = false) (l1 : (d1 == sysModules) = false) (l2 : (d2 == sysModules) = false) (l3 : (d3 == sysModules) = false) (l4 : (d4 == sysModules) = false)
    (t0 : TabOk 0 k0) (t1 : TabOk 1 k1) (t2 : TabOk 2 k2) (t3 : TabOk 3 k3) (t4 : TabOk 4 k4) : TabsIn w news Ta := by
  refine ⟨[.ref d0, .ref d1, .ref d2, .ref d3, .ref d4], nT, h, fun i hi => ?_⟩
  match i, hi with
  | 0, _ => exact ⟨d0, o0, k0, rfl, m0, i0, l0, t0⟩
  | 1, _ => exact ⟨d1, o1, k1, rfl, m1, i1, l1, t1⟩
  | 2, _ => exact ⟨d2, o2, k2, rfl, m2, i2, l2, t2⟩
  | 3, _ => exact ⟨d3, o3, k3, rfl, m3, i3, l3, t3⟩
  | 4, _ => exact ⟨d4, o4, k4, rfl, m4, i4, l4, t4⟩
theorem law_two {w : World} {mean : ExcName → Option Value} {mg mb : Str → Option Value} {h₀ : Heap} {L fa l : Addr} {cd : Value} {s : Shared} {oc : Obj} {Q : Flow → Shared → Prop} {E : Value → Shared → Prop} {x : Str} {t : Tok}
   (F : Fr h₀ L s.heap (fun y => if y = Str.ofString "text" then some (.str x t) else if y = Str.ofString "script" then some (.ref l) else none)) (N : News h₀ L s.heap [(L + 1, oc)])
   (X : (Mine.hd.heap_39 w.params).In h₀) (T : Top Mine.hd.view_39 (looseW Mine.hd.view_39 []) mean mg mb h₀)
   (k : ∀ h tk D Ta news, Fr h₀ L h (fun y => if y = Str.ofString "tables" then some (.ref Ta) else if y = Str.ofString "deeds" then some (.ref D) else if y = Str.ofString "text" then some (.str x t) else if y = Str.ofString "script" then some (.ref l) else none) → News h₀ L h news → LawLed w news Ta D →
     wpAny (model Challenge.rw_nb0120_01.row.prog w) (callerA.deeper (lawEnv L fa cd)) (execs (lawBody.drop 4) (lawEnv L fa cd)) Q E { s with heap := h, toks := tk }) :
   wpAny (model Challenge.rw_nb0120_01.row.prog w) (callerA.deeper (lawEnv L fa cd)) (execs (lawBody.drop 2) (lawEnv L fa cd)) Q E s := by
  unfold lawEnv
  conv in (occs := *) lawScope => all_goals whnf
  conv in List.drop 2 lawBody => whnf
  w_on
  revert X; k_fill; intro X
  have B := below_caller h₀
  iterate 18 walk1
  rename News _ _ _ _ => N1
  rename Fr _ _ _ _ => F1
  rename Addr => D1
  dsimp only
  refine wpAny_execs_cons ?_
  refine wpAny_mono (Q := AfterTables w h₀ L D1 (fun y => if y = Str.ofString "text" then some (.str x t) else if y = Str.ofString "script" then some (.ref l) else none) s) ?_ ?_ (fun _ _ e => e)
  · k_steps
    rename News h₀ _ _ _ => N2
    rename Fr h₀ _ _ _ => F2
    refine ⟨rfl, _, _, _, _, rfl, F2, N2, ?_, 0, by simp [deedList]⟩
    refine tabs_five (k0 := strPairs _) (k1 := strPairs _) (k2 := strPairs _) (k3 := strPairs _) (k4 := strPairs _) (List.mem_cons_self ..) (by k_mem) (by k_mem) (by k_mem) (by k_mem) (by k_mem) (by assumption) (by assumption) (by assumption) (by assumption) (by assumption) (by assumption) (by assumption) (by assumption) (by assumption) (by assumption)
      (tabOk0 _ _ _ _ _ _) (tabOk1 _ _ _ _ _ _ _ _ _ _ _ _ _ _) (tabOk2 _ _ _ _ _ _) (tabOk3 _ _ _ _ _ _ _ _) (tabOk4 _ _ _ _ _ _ _ _ _ _ _ _)
  · rintro f s' ⟨rfl, h, tk, Ta, news, rfl, F2, N2, hL⟩
    exact k h tk _ Ta news F2 N2 hL
end Mine
end
section
open PySem PySem.W PyProof.Rows PySem.Calls
set_option maxRecDepth 100000
set_option maxHeartbeats 8000000
namespace Mine
theorem law_one {w : World} {mean : ExcName → Option Value} {mg mb : Str → Option Value} {h₀ : Heap} {L fa l : Addr} {cd : Value} {vs : List Value} {ns : List Int} {s : Shared} {oc : Obj} {Q : Flow → Shared → Prop} {E : Value → Shared → Prop} {m : Str → Option Value}
   (F : Fr h₀ L s.heap m) (hm : m = fun y => if y = Str.ofString "script" then some (.ref l) else none) (N : News h₀ L s.heap [(L + 1, oc)]) (hoc : oc.data = .cell none)
   (X : (Mine.hd.heap_39 w.params).In h₀) (T : Top Mine.hd.view_39 (looseW Mine.hd.view_39 []) mean mg mb h₀)
   (hl : h₀.IsList l vs.toArray) (hi : IntsAre vs ns) (hns : ns.length ≤ 63)
   (k : ∀ h tk x t oc', x.length ≤ 30 → Fr h₀ L h (fun y => if y = Str.ofString "text" then some (.str x t) else if y = Str.ofString "script" then some (.ref l) else none) → News h₀ L h [(L + 1, oc')] →
     wpAny (model Challenge.rw_nb0120_01.row.prog w) (callerA.deeper (lawEnv L fa cd)) (execs (lawBody.drop 2) (lawEnv L fa cd)) Q E { s with heap := h, toks := tk }) :
   wpAny (model Challenge.rw_nb0120_01.row.prog w) (callerA.deeper (lawEnv L fa cd)) (execs lawBody (lawEnv L fa cd)) Q E s := by
  unfold lawEnv
  conv in (occs := *) lawScope => all_goals whnf
  conv in lawBody => whnf
  w_on
  revert X; k_fill; intro X
  have B := below_caller h₀
  subst hm
  iterate 3 walk1
  refine storeX_C F N rfl (UpdF.head (fun p hp => nomatch hp)) hoc ?_ rfl rfl
  intro h1 oc1 F1 N1 hoc1
  clear F N
  dsimp only
  iterate 8 walk1
  refine args_cons ?_
  k_dflt (refine LCg.ListComp_U (F₀ := F1) (by with_unfolding_all rfl) (by decide) (by rfl) (by decide) (by rfl) ?_)
  iterate 8 walk1
  rename News _ _ _ _ => N2
  rename Fr _ _ _ _ => F2
  rename IntsAre _ (_ : List Int) => hi2
  have hlen2 := hi2.length
  refine LCg.CompSrc.ledger rfl F2 N2 (List.mem_cons_self ..) (by rw [PySem.sizeLine_eq, List.size_toArray]; omega) ?_
  intro g2
  refine kct_list (fun k => Txt.item (Str.ofString "  \n  &<>\"\t\rab\n") (k.fmod 14)) hi2 ?turn ?fin
  case turn =>
    intro k' t' I' oI' C' oC' D' m' ys' h' tk' E' hk' hC' hx' F' N' off' ne' hMark'
    k_steps
    exact LCg.CompEnd.intro F' N' _ (fun p hp => hp) off' (.inr ⟨_, List.mem_cons_self .., rfl, _, rfl⟩) ⟨rfl, _, rfl⟩
  case fin =>
    intro ys hys hl2 D3 h3 tk3 F3 N3 off3
    clear F2 N2
    walk1
    refine KT.join_1 (News.isList N3 (List.mem_cons_self ..)) hys (fun _ _ => rfl) (by omega) ?_
    intro t4 tk4 hlen4
    generalize PySem.Txt.join (PySem.Str.ofString "") (List.map _ (List.take 12 ns)) = x0 at hlen4 ⊢
    have N4 : News h₀ L h3 [(L + 1, oc1)] := fun p hp => N3 p (List.mem_cons_of_mem _ (List.mem_cons_of_mem _ hp))
    clear N3 off3 hys
    walk1
    walk1
    walk1
    rename News _ _ _ _ => N5
    rename Fr _ _ _ _ => F5
    refine k _ _ _ _ _ ?_ F5 N5
    rename (_ ≤ _ ∧ _ ≤ _) => hb
    have h1 := hb.2
    rw [hlen4] at h1
    have h2 : (List.take 12 ns).length ≤ 12 := by simp; omega
    refine Nat.le_trans h1 (Nat.le_trans (Nat.add_le_add_right h2 _) ?_)
    decide
end Mine
end
section
open PySem PySem.W PyProof.Rows PySem.Calls
set_option maxRecDepth 100000
set_option maxHeartbeats 800000
namespace Mine
/-- what hand i makes of a text -/
def res (i : Nat) (x : Str) : Option Str := if i < 5 then some (esc i x) else if firstRow x.cps.toList = [] then none else some (ded x)
def Is (v : Value) : Option Str → Prop
  | none => v = .none
  | some y => ∃ t, v = .str y t
theorem res_len {i : Nat} {x y : Str} (h : res i x = some y) : y.length ≤ 6 * x.length := by
  unfold res at h
  split at h
  · cases h; exact esc_len i x
  · split at h
    · cases h
    · cases h
      have := ded_len x
      omega
theorem told_res {w : World} {mean : ExcName → Option Value} {mg mb : Str → Option Value} (i : Nat) (hi : i < 6) (x : Str) (t th : Tok) (hx : x.length ≤ 10000)
  {dp un : Nat} {gd : Option (List Code)} {cn : Str} {cs : Scope} {a : Addr} {ccd : Value} {cl : List (Str × Addr)} {outer : List Env} {A₀ : Around} {base h₀ : Heap} {L : Addr} {m : Str → Option Value} {news : List (Addr × Obj)} {s : Shared} {Q E : Value → Shared → Prop}
  (B : Below A₀ base outer h₀) (F : Fr h₀ L s.heap m) (X : (Mine.hd.heap_39 w.params).In h₀) (N : News h₀ L s.heap news) (T : Top Mine.hd.view_39 (looseW Mine.hd.view_39 []) mean mg mb h₀) (hk : cs.kind = .function)
  (hd : dp + 2 < recursionLimit) (hu : un + 16 < cLine) {Ta : Addr} (hT : TabsIn w news Ta)
  (hret : ∀ (v : Value) (h' : Heap) (tk' : Nat), Is v (res i x) → Fr h₀ L h' m → News h₀ L h' news → Q v { s with heap := h', toks := tk' }) :
  wpAny (model Challenge.rw_nb0120_01.row.prog w) (ktrTop dp un gd cn cs L a ccd cl outer) (call (.ref 82) [.int i th, .ref Ta, .str x t]) Q E s := by
  by_cases h5 : i < 5
  · obtain ⟨tl, nT, h1, h2⟩ := hT
    obtain ⟨d, o, kvs, k1, k2, k3, k4, k5⟩ := h2 i h5
    refine told_call i h5 x t th hx B F X N T hk (by omega) h1 k1 k2 k3 k4 k5 ?_
    intro t' h' tk' F' N'
    exact hret _ h' tk' (by unfold res; rw [if_pos h5]; exact ⟨_, rfl⟩) F' N'
  · have e : i = 5 := by omega
    subst e
    refine told5_call x t th hx B F X N T hk hd hu ?_
    intro v h' tk' hv F' N'
    refine hret v h' tk' ?_ F' N'
    unfold res SoRes at *
    rw [if_neg h5]
    split at hv
    · rename_i e; rw [if_pos e]; exact hv
    · rename_i e; rw [if_neg e]; exact hv
theorem done_res {w : World} {mean : ExcName → Option Value} {mg mb : Str → Option Value} (i : Nat) (hi : i < 6) (x : Str) (t : Tok) (hx : x.length ≤ 10000) {v : Value} (hv : deedList[i]? = some v)
  {dp un : Nat} {gd : Option (List Code)} {cn : Str} {cs : Scope} {a : Addr} {ccd : Value} {cl : List (Str × Addr)} {A₀ : Around} {base h₀ : Heap} {L : Addr} {m : Str → Option Value} {news : List (Addr × Obj)} {s : Shared} {Q E : Value → Shared → Prop}
  (B : Below A₀ base [] h₀) (F : Fr h₀ L s.heap m) (X : (Mine.hd.heap_39 w.params).In h₀) (N : News h₀ L s.heap news) (T : Top Mine.hd.view_39 (looseW Mine.hd.view_39 []) mean mg mb h₀) (hk : cs.kind = .function)
  (hd : dp + 2 < recursionLimit)
  (hret : ∀ (v : Value) (h' : Heap) (tk' : Nat), Is v (res i x) → Fr h₀ L h' m → News h₀ L h' news → Q v { s with heap := h', toks := tk' }) :
  wpAny (model Challenge.rw_nb0120_01.row.prog w) (ktrTop dp un gd cn cs L a ccd cl []) (call (.ref 89) [v, .str x t]) Q E s := by
  match i, hi, hv with
  | 0, _, hv => cases hv; exact done0_call x t hx B F X N T hk hd fun t' h' tk' F' N' => hret _ h' tk' ⟨_, rfl⟩ F' N'
  | 1, _, hv => cases hv; exact done1_call x t hx B F X N T hk hd fun t' h' tk' F' N' => hret _ h' tk' ⟨_, rfl⟩ F' N'
  | 2, _, hv => cases hv; exact done2_call x t hx B F X N T hk hd fun t' h' tk' F' N' => hret _ h' tk' ⟨_, rfl⟩ F' N'
  | 3, _, hv => cases hv; exact done3_call x t hx B F X N T hk hd fun t' h' tk' F' N' => hret _ h' tk' ⟨_, rfl⟩ F' N'
  | 4, _, hv => cases hv; exact done4_call x t hx B F X N T hk hd fun t' h' tk' F' N' => hret _ h' tk' ⟨_, rfl⟩ F' N'
  | 5, _, hv =>
    cases hv
    by_cases hfr : firstRow x.cps.toList = []
    · exact done5_none x t hx hfr B F X N T hk hd fun h' tk' F' N' => hret _ h' tk' (by unfold res; rw [if_neg (by decide), if_pos hfr]; rfl) F' N'
    · exact done5_call x t hx hfr B F X N T hk hd fun t' h' tk' F' N' => hret _ h' tk' (by unfold res; rw [if_neg (by decide), if_neg hfr]; exact ⟨_, rfl⟩) F' N'
end Mine
end
section
open PySem PySem.W PyProof.Rows PySem.Calls
set_option maxRecDepth 100000
set_option maxHeartbeats 8000000
namespace Mine
theorem deed_get {i : Nat} (h : i < 6) : ∃ v, deedList[i]? = some v := by
  match i, h with
  | 0, _ => exact ⟨_, rfl⟩
  | 1, _ => exact ⟨_, rfl⟩
  | 2, _ => exact ⟨_, rfl⟩
  | 3, _ => exact ⟨_, rfl⟩
  | 4, _ => exact ⟨_, rfl⟩
  | 5, _ => exact ⟨_, rfl⟩
theorem law_three {w : World} {mean : ExcName → Option Value} {mg mb : Str → Option Value} {h₀ : Heap} {L fa l D Ta : Addr} {cd : Value} {s : Shared} {Q : Flow → Shared → Prop} {E : Value → Shared → Prop} {x : Str} {t : Tok} {news : List (Addr × Obj)} (hx : x.length ≤ 30)
   (F : Fr h₀ L s.heap (fun y => if y = Str.ofString "tables" then some (.ref Ta) else if y = Str.ofString "deeds" then some (.ref D) else if y = Str.ofString "text" then some (.str x t) else if y = Str.ofString "script" then some (.ref l) else none)) (N : News h₀ L s.heap news) (hL : LawLed w news Ta D)
   (X : (Mine.hd.heap_39 w.params).In h₀) (T : Top Mine.hd.view_39 (looseW Mine.hd.view_39 []) mean mg mb h₀)
   (hE : PassesOwn (model Challenge.rw_nb0120_01.row.prog w) (callerA.deeper (lawEnv L fa cd)) (lawEnv L fa cd) E)
   (k : ∀ (u : Str → Option Value) h tk, Fr h₀ L h (fun y => if y = Str.ofString "hand" then u y else if [Str.ofString "due", Str.ofString "made", Str.ofString "other"].contains y then u y else if y = Str.ofString "tables" then some (.ref Ta) else if y = Str.ofString "deeds" then some (.ref D) else if y = Str.ofString "text" then some (.str x t) else if y = Str.ofString "script" then some (.ref l) else none) → News h₀ L h news →
     wpAny (model Challenge.rw_nb0120_01.row.prog w) (callerA.deeper (lawEnv L fa cd)) (execs (lawBody.drop 5) (lawEnv L fa cd)) Q E { s with heap := h, toks := tk }) :
   wpAny (model Challenge.rw_nb0120_01.row.prog w) (callerA.deeper (lawEnv L fa cd)) (execs (lawBody.drop 4) (lawEnv L fa cd)) Q E s := by
  unfold lawEnv at hE ⊢
  conv at hE in (occs := *) lawScope => all_goals whnf
  conv in (occs := *) lawScope => all_goals whnf
  conv in List.drop 4 lawBody => whnf
  w_on
  revert X; k_fill; intro X
  have B := below_caller h₀
  refine wpAny_execs_cons ?_
  refine For_invV h₀ rfl rfl ?_ (hE := hE)
  iterate 7 walk1
  rename News _ _ _ _ => N1
  rename Fr _ _ _ _ => F1
  refine iter_rangeLaw (n := 6) [Str.ofString "due", Str.ofString "made", Str.ofString "other"] rfl (by assumption) (by decide) (by decide) F1 N1 ?turn ?done
  case turn =>
    intro k t2 u h2 tk2 own hk0 hk6 F2 N2
    clear F1 N1
    obtain ⟨i, rfl⟩ : ∃ i : Nat, k = i := ⟨k.toNat, by omega⟩
    have hi6 : i < 6 := by omega
    have hL2 : LawLed w (own ++ news) Ta D := hL.mono fun p hp => List.mem_append_right _ hp
    generalize own ++ news = news2 at N2 hL2 ⊢
    obtain ⟨v0, hv0⟩ := deed_get hi6
    iterate 13 walk1
    k_dflt (refine told_res i hi6 x t _ (by omega) B F2 X N2 T rfl ?_ ?_ hL2.1 ?_)
    · decide
    · decide
    intro v1 h3 tk3 hv1 F3 N3
    clear F2 N2
    iterate 11 walk1
    rename News _ _ _ _ => N4
    rename Fr _ _ _ _ => F4
    obtain ⟨nD, hD⟩ := hL2.2
    refine item_any (News.isList N4 hD) (by omega) (by omega) (by simpa using hv0) ?_
    iterate 4 walk1
    k_dflt (refine done_res i hi6 x t (by omega) hv0 B F4 X N4 T rfl ?_ ?_)
    · decide
    intro v2 h5 tk5 hv2 F5 N5
    clear F4 N4
    iterate 3 walk1
    have hlen := @res_len i x
    generalize res i x = r at hv1 hv2 hlen
    cases r with
    | none =>
      have e1 : v1 = .none := hv1
      have e2 : v2 = .none := hv2
      subst e1 e2
      k_steps
    | some y =>
      obtain ⟨u1, rfl⟩ := hv1
      obtain ⟨u2, rfl⟩ := hv2
      have hy : y.length ≤ 180 := by have := hlen rfl; omega
      clear hlen
      iterate 7 walk1
      · rename ((y != y) = true) => e1
        simp at e1
      iterate 10 walk1
      rename News _ _ _ _ => N6
      rename Fr _ _ _ _ => F6
      refine For_invV h₀ rfl rfl ?_ (hE := hE)
      iterate 7 walk1
      rename News _ _ _ _ => N7
      rename Fr _ _ _ _ => F7
      refine iter_rangeLaw (n := 6) [] rfl (by assumption) (by decide) (by decide) F7 N7 ?turn2 ?done2
      case turn2 =>
        intro k t8 u8 h8 tk8 own8 hk0 hk6 F8 N8
        clear F7 N7
        obtain ⟨j, rfl⟩ : ∃ j : Nat, k = j := ⟨k.toNat, by omega⟩
        have hj6 : j < 6 := by omega
        have hL8 : LawLed w (own8 ++ news2) Ta D := hL2.mono fun p hp => List.mem_append_right _ hp
        generalize own8 ++ news2 = news8 at N8 hL8 ⊢
        obtain ⟨v8, hv8⟩ := deed_get hj6
        iterate 10 walk1
        obtain ⟨nD8, hD8⟩ := hL8.2
        refine item_any (News.isList N8 hD8) (by omega) (by omega) (by simpa using hv8) ?_
        iterate 4 walk1
        k_dflt (refine done_res j hj6 y u2 (by omega) hv8 B F8 X N8 T rfl ?_ ?_)
        · decide
        intro v9 h9 tk9 hv9 F9 N9
        clear F8 N8
        iterate 11 walk1
        k_dflt (refine told_res j hj6 y u1 _ (by omega) B F9 X N9 T rfl ?_ ?_ hL8.1 ?_)
        · decide
        · decide
        intro v10 h10 tk10 hv10 F10 N10
        clear F9 N9
        generalize res j y = r at hv9 hv10
        cases r with
        | none =>
          have e1 : v9 = .none := hv9
          have e2 : v10 = .none := hv10
          subst e1 e2
          k_steps
        | some z =>
          obtain ⟨u9, rfl⟩ := hv9
          obtain ⟨u10, rfl⟩ := hv10
          k_steps
          rename ((z != z) = true) => e1
          simp at e1
      case done2 =>
        intro u8 h8 tk8 F8 N8
        clear F7 N7
        k_steps
  case done =>
    intro u h tk F2 N2
    exact k u h tk F2 N2
end Mine
end
section
open PySem PySem.W PyProof.Rows PySem.Calls
set_option maxRecDepth 100000
set_option maxHeartbeats 8000000
namespace Mine
theorem law_four {w : World} {mean : ExcName → Option Value} {mg mb : Str → Option Value} {h₀ : Heap} {L fa : Addr} {cd : Value} {s : Shared} {Q : Flow → Shared → Prop} {E : Value → Shared → Prop} {m : Str → Option Value} {news : List (Addr × Obj)}
   (F : Fr h₀ L s.heap m) (N : News h₀ L s.heap news)
   (X : (Mine.hd.heap_39 w.params).In h₀) (T : Top Mine.hd.view_39 (looseW Mine.hd.view_39 []) mean mg mb h₀)
   (k : ∀ h tk, Fr h₀ L h m → News h₀ L h news →
     wpAny (model Challenge.rw_nb0120_01.row.prog w) (callerA.deeper (lawEnv L fa cd)) (execs (lawBody.drop 6) (lawEnv L fa cd)) Q E { s with heap := h, toks := tk }) :
   wpAny (model Challenge.rw_nb0120_01.row.prog w) (callerA.deeper (lawEnv L fa cd)) (execs (lawBody.drop 5) (lawEnv L fa cd)) Q E s := by
  unfold lawEnv
  conv in (occs := *) lawScope => all_goals whnf
  conv in List.drop 5 lawBody => whnf
  w_on
  revert X; k_fill; intro X
  have B := below_caller h₀
  refine wpAny_execs_cons ?_
  iterate 11 walk1
  k_dflt (refine done5_none _ _ ?_ ?_ B F X N T rfl ?_ ?_)
  · decide
  · decide
  · decide
  intro h1 tk1 F1 N1
  clear F N
  iterate 5 walk1
  exact k h1 _ F1 N1
end Mine
end
section
open PySem PySem.W PyProof.Rows PySem.Calls
set_option maxRecDepth 100000
set_option maxHeartbeats 800000
namespace Mine
section
variable {prog : Program} {w : World} {A : Around} {E : Value → Shared → Prop} {s : Shared} {env : Env} {h₀ : Heap} {x : Str} {body : List Stmt} {Q : Flow → Shared → Prop}
/-- a loop over a list of the ledger, whose turns store the named names alone -/
theorem iter_listLaw {ax : Addr} {lo : Obj} {vs : List Value} {n : Nat} {m₀ : Str → Option Value} {news : List (Addr × Obj)} (stored : List Str)
    (hh : A.handled = none) (F : Fr h₀ env.locals s.heap m₀) (N : News h₀ env.locals s.heap news) (hm : (ax, lo) ∈ news) (hc : lo.cls = .type "list") (hd : lo.data = .seq vs.toArray n)
    (turn : ∀ v (u : Str → Option Value) I it h tk, v ∈ vs → Fr h₀ env.locals h (fun y => if y = x then some v else if stored.contains y then u y else m₀ y) → News h₀ env.locals h ((I, it) :: news) →
      wpAny (model prog w) A (execs body env) (TurnPost h₀ env.locals x stored m₀ ((I, it) :: news) { s with heap := h, toks := tk } Q) E { s with heap := h, toks := tk })
    (done : ∀ (u : Str → Option Value) h tk, Fr h₀ env.locals h (fun y => if y = x then u y else if stored.contains y then u y else m₀ y) → News h₀ env.locals h news → Q .next { s with heap := h, toks := tk }) :
    wpAny (model prog w) A (pyIter (.ref ax)) (fun it s₂ => LoopAtV prog w A h₀ env x body Q E it s₂) E s := by
  refine iter_listUnr hh F N hm hc hd fun I hI => ?_
  have same : ∀ (m : Str → Option Value) (g : Option Value), (∀ y, y ≠ x → stored.contains y = false → m y = m₀ y) → (fun y => if y = x then g else m y) = fun y => if y = x then g else if stored.contains y then m y else m₀ y := fun m g hmm => by
    funext y
    by_cases h1 : y = x
    · simp [h1]
    · simp only [if_neg h1]
      cases h2 : stored.contains y with
      | true => simp
      | false => simp only [Bool.false_eq_true, if_false]; exact hmm y h1 h2
  have same2 : ∀ (m : Str → Option Value), (∀ y, y ≠ x → stored.contains y = false → m y = m₀ y) → m = fun y => if y = x then m y else if stored.contains y then m y else m₀ y := fun m hmm => by
    funext y
    by_cases h1 : y = x
    · simp [h1]
    · simp only [if_neg h1]
      cases h2 : stored.contains y with
      | true => simp
      | false => simp only [Bool.false_eq_true, if_false]; exact hmm y h1 h2
  have key : ∀ (r : List Value) (m : Str → Option Value), (∀ v ∈ r, v ∈ vs) → (∀ y, y ≠ x → stored.contains y = false → m y = m₀ y) → ListRest prog w A E h₀ env x body Q s I (ax, lo) r m news := by
    intro r
    induction r with
    | nil =>
      intro m _ hmm
      refine ListRest.zero fun h tk F' N' => done m h tk ?_ N'
      rw [← same2 m hmm]; exact F'
    | cons v r ih =>
      intro m hv hmm
      refine ListRest.succ fun it h tk _ F' N' => ?_
      rw [same m (some v) hmm] at F'
      refine wpAny_mono (turn v m I it h tk (hv v (List.mem_cons_self ..)) F' N') (fun f s₂ p => ?_) fun _ _ e => e
      have fin : TurnEnd h₀ env.locals x stored m₀ ((I, it) :: news) { s with heap := h, toks := tk } s₂ → UnrEnd h₀ env.locals { s with heap := h, toks := tk } I it (fun m' n' => (ax, lo) ∈ n' ∧ ListRest prog w A E h₀ env x body Q s I (ax, lo) r m' n') s₂ := by
        rintro ⟨h', tk', m', news', e, F'', N'', hn, hm'⟩
        exact ⟨h', tk', m', news, e, F'', fun p hp => N'' p (hn p hp), fun p hp => Nat.ne_of_lt (hI p hp), hm, ih m' (fun v hv' => hv v (List.mem_cons_of_mem _ hv')) hm'⟩
      cases f with
      | ret v => exact p
      | brk => exact p
      | next => exact fin p
      | cont => exact fin p
  exact key vs m₀ (fun v hv => hv) fun _ _ _ => rfl
end
/-- one of the four things -/
def Thing (news : List (Addr × Obj)) (v : Value) : Prop := v = .none ∨ (∃ t, v = .int 5 t) ∨ (∃ t, v = .bytes #[97, 38] t) ∨ ∃ lq t n, v = .ref lq ∧ (lq, listOf #[.str (Str.ofString "&") t] n) ∈ news
theorem ref_any {w : World} {mean : ExcName → Option Value} {mg mb : Str → Option Value}
  {dp un : Nat} {cn : Str} {cs : Scope} {a : Addr} {ccd : Value} {cl : List (Str × Addr)} {A₀ : Around} {base h₀ : Heap} {L : Addr} {m : Str → Option Value} {news : List (Addr × Obj)} {s : Shared} {Q E : Value → Shared → Prop} {f v : Value}
  (hf : f ∈ ([.ref 35, .ref 42, .ref 49, .ref 56, .ref 63] : List Value)) (hv : Thing news v)
  (B : Below A₀ base [] h₀) (F : Fr h₀ L s.heap m) (X : (Mine.hd.heap_39 w.params).In h₀) (N : News h₀ L s.heap news) (T : Top Mine.hd.view_39 (looseW Mine.hd.view_39 []) mean mg mb h₀) (hk : cs.kind = .function)
  (hd : dp + 8 < recursionLimit) (hu : un + 70 < cLine)
  (hret : ∀ (h' : Heap) (tk' : Nat), Fr h₀ L h' m → News h₀ L h' news → Q (.bool true) { s with heap := h', toks := tk' }) :
  wpAny (model Challenge.rw_nb0120_01.row.prog w) (ktrTop dp un (some []) cn cs L a ccd cl []) (call (.ref 96) [f, v, .type "TypeError"]) Q E s := by
  rcases hv with rfl | ⟨t, rfl⟩ | ⟨t, rfl⟩ | ⟨lq, t, n, rfl, hq⟩
  · rcases List.mem_cons.mp hf with rfl | hf
    · exact ref0_none 0 B F X N T hk hd hu hret
    rcases List.mem_cons.mp hf with rfl | hf
    · exact ref1_none 0 B F X N T hk hd hu hret
    rcases List.mem_cons.mp hf with rfl | hf
    · exact ref2_none 0 B F X N T hk hd hu hret
    rcases List.mem_cons.mp hf with rfl | hf
    · exact ref3_none 0 B F X N T hk hd hu hret
    rw [List.mem_singleton.mp hf]
    exact ref4_none 0 B F X N T hk hd hu hret
  · rcases List.mem_cons.mp hf with rfl | hf
    · exact ref0_int t B F X N T hk hd hu hret
    rcases List.mem_cons.mp hf with rfl | hf
    · exact ref1_int t B F X N T hk hd hu hret
    rcases List.mem_cons.mp hf with rfl | hf
    · exact ref2_int t B F X N T hk hd hu hret
    rcases List.mem_cons.mp hf with rfl | hf
    · exact ref3_int t B F X N T hk hd hu hret
    rw [List.mem_singleton.mp hf]
    exact ref4_int t B F X N T hk hd hu hret
  · rcases List.mem_cons.mp hf with rfl | hf
    · exact ref0_bytes t B F X N T hk hd hu hret
    rcases List.mem_cons.mp hf with rfl | hf
    · exact ref1_bytes t B F X N T hk hd hu hret
    rcases List.mem_cons.mp hf with rfl | hf
    · exact ref2_bytes t B F X N T hk hd hu hret
    rcases List.mem_cons.mp hf with rfl | hf
    · exact ref3_bytes t B F X N T hk hd hu hret
    rw [List.mem_singleton.mp hf]
    exact ref4_bytes t B F X N T hk hd hu hret
  · rcases List.mem_cons.mp hf with rfl | hf
    · exact ref0_list t B F X N T hk hd hu hq hret
    rcases List.mem_cons.mp hf with rfl | hf
    · exact ref1_list t B F X N T hk hd hu hq hret
    rcases List.mem_cons.mp hf with rfl | hf
    · exact ref2_list t B F X N T hk hd hu hq hret
    rcases List.mem_cons.mp hf with rfl | hf
    · exact ref3_list t B F X N T hk hd hu hq hret
    rw [List.mem_singleton.mp hf]
    exact ref4_list t B F X N T hk hd hu hq hret
end Mine
end
section
open PySem PySem.W PyProof.Rows PySem.Calls
set_option maxRecDepth 100000
set_option maxHeartbeats 8000000
namespace Mine
theorem law_five {w : World} {mean : ExcName → Option Value} {mg mb : Str → Option Value} {h₀ : Heap} {L fa l D Ta : Addr} {cd : Value} {s : Shared} {Q : Flow → Shared → Prop} {E : Value → Shared → Prop} {x : Str} {t : Tok} {news : List (Addr × Obj)} {u : Str → Option Value}
   (F : Fr h₀ L s.heap (fun y => if y = Str.ofString "hand" then u y else if [Str.ofString "due", Str.ofString "made", Str.ofString "other"].contains y then u y else if y = Str.ofString "tables" then some (.ref Ta) else if y = Str.ofString "deeds" then some (.ref D) else if y = Str.ofString "text" then some (.str x t) else if y = Str.ofString "script" then some (.ref l) else none)) (N : News h₀ L s.heap news) (hL : LawLed w news Ta D)
   (X : (Mine.hd.heap_39 w.params).In h₀) (T : Top Mine.hd.view_39 (looseW Mine.hd.view_39 []) mean mg mb h₀)
   (hE : PassesOwn (model Challenge.rw_nb0120_01.row.prog w) (callerA.deeper (lawEnv L fa cd)) (lawEnv L fa cd) E)
   (k : ∀ m h tk, Fr h₀ L h m → News h₀ L h news →
     wpAny (model Challenge.rw_nb0120_01.row.prog w) (callerA.deeper (lawEnv L fa cd)) (execs (lawBody.drop 7) (lawEnv L fa cd)) Q E { s with heap := h, toks := tk }) :
   wpAny (model Challenge.rw_nb0120_01.row.prog w) (callerA.deeper (lawEnv L fa cd)) (execs (lawBody.drop 6) (lawEnv L fa cd)) Q E s := by
  unfold lawEnv at hE ⊢
  conv at hE in (occs := *) lawScope => all_goals whnf
  conv in (occs := *) lawScope => all_goals whnf
  conv in List.drop 6 lawBody => whnf
  w_on
  revert X; k_fill; intro X
  have B := below_caller h₀
  obtain ⟨nD, hD⟩ := hL.2
  refine wpAny_execs_cons ?_
  refine For_invV h₀ rfl rfl ?_ (hE := hE)
  iterate 7 walk1
  k_dflt (refine' kmk_slice_lit (zs := [.ref 35, .ref 42, .ref 49, .ref 56, .ref 63]) ?F ?N (News.isList ?N hD) .none (.int 5 _) ?e ?_ ?s ?t ?z; (case F => k_asm); (case N => k_asm); (case e => rfl); (case s => with_unfolding_all rfl); (case t => kmk_pure); (case z => rw [PySem.sizeLine_eq]; decide))
  intro D5 h5 F5 N5 l5
  clear F N
  refine iter_listLaw [Str.ofString "thing"] rfl F5 N5 (List.mem_cons_self ..) rfl rfl ?turn ?done
  case turn =>
    intro f u6 I6 it6 h6 tk6 hf F6 N6
    clear F5 N5
    generalize (I6, it6) :: (D5, _) :: news = news6 at N6 ⊢
    refine wpAny_execs_cons ?_
    refine For_invV h₀ rfl rfl ?_ (hE := hE)
    iterate 15 walk1
    rename Fr _ _ _ _ => F7
    rename News _ _ _ _ => N7
    refine iter_listLaw [] rfl F7 N7 (List.mem_cons_self ..) rfl rfl ?turn2 ?done2
    case turn2 =>
      intro v u8 I8 it8 h8 tk8 hv F8 N8
      generalize hn8 : (I8, it8) :: _ = news8 at N8 ⊢
      have hth : Thing news8 v := by
        rw [← hn8]
        rcases List.mem_cons.mp hv with rfl | hv
        · exact .inl rfl
        rcases List.mem_cons.mp hv with rfl | hv
        · exact .inr (.inl ⟨_, rfl⟩)
        rcases List.mem_cons.mp hv with rfl | hv
        · exact .inr (.inr (.inl ⟨_, rfl⟩))
        rw [List.mem_singleton.mp hv]
        exact .inr (.inr (.inr ⟨_, _, _, rfl, List.mem_cons_of_mem _ (List.mem_cons_of_mem _ (List.mem_cons_self ..))⟩))
      clear F7 N7
      clear hn8
      iterate 15 walk1
      k_dflt (refine ref_any hf hth B F8 X N8 T rfl ?_ ?_ ?_)
      · decide
      · decide
      intro h9 tk9 F9 N9
      clear F8 N8
      k_steps
    case done2 =>
      intro u8 h8 tk8 F8 N8
      clear F7 N7
      k_steps
  case done =>
    intro u6 h6 tk6 F6 N6
    exact k _ h6 tk6 F6 fun p hp => N6 p (List.mem_cons_of_mem _ hp)
end Mine
end
section
open PySem PySem.W PyProof.Rows PySem.Calls
set_option maxRecDepth 100000
set_option maxHeartbeats 8000000
namespace Mine
theorem boot_ae : bootBuiltins (Str.ofString "AttributeError") = some (.type "AttributeError") := by decide +kernel
theorem law_six {w : World} {mean : ExcName → Option Value} {mg mb : Str → Option Value} {h₀ : Heap} {L fa : Addr} {cd : Value} {s : Shared} {Q : Flow → Shared → Prop} {E : Value → Shared → Prop} {m : Str → Option Value} {news : List (Addr × Obj)}
   (F : Fr h₀ L s.heap m) (N : News h₀ L s.heap news)
   (X : (Mine.hd.heap_39 w.params).In h₀) (T : Top Mine.hd.view_39 (looseW Mine.hd.view_39 []) mean mg mb h₀)
   (k : ∀ h tk, Fr h₀ L h m → Q (.ret (.bool true)) { s with heap := h, toks := tk }) :
   wpAny (model Challenge.rw_nb0120_01.row.prog w) (callerA.deeper (lawEnv L fa cd)) (execs (lawBody.drop 7) (lawEnv L fa cd)) Q E s := by
  unfold lawEnv
  conv in (occs := *) lawScope => all_goals whnf
  conv in List.drop 7 lawBody => whnf
  w_on
  revert X; k_fill; intro X
  have B := below_caller h₀
  refine wpAny_execs_cons ?_
  iterate 10 walk1
  k_dflt (refine' nameX_B F X (topRead_of T) ?n1 boot_ae ?n2 ?_; (case n1 => k_is); (case n2 => decide))
  iterate 2 walk1
  k_dflt (refine ref5_none 0 B F X N T rfl ?_ ?_)
  · decide
  intro h1 tk1 F1 N1
  clear F N
  iterate 11 walk1
  k_dflt (refine' nameX_B F1 X (topRead_of T) ?n1 boot_ae ?n2 ?_; (case n1 => k_is); (case n2 => decide))
  iterate 2 walk1
  k_dflt (refine ref5_int _ B F1 X N1 T rfl ?_ ?_)
  · decide
  intro h2 tk2 F2 N2
  clear F1 N1
  iterate 14 walk1
  k_dflt (refine ref5_bytes _ B F2 X N2 T rfl ?_ ?_)
  · decide
  intro h3 tk3 F3 N3
  clear F2 N2
  dsimp only
  exact k _ _ F3
end Mine
end
section
open PySem PySem.W PyProof.Rows PySem.Calls
set_option maxRecDepth 100000
set_option maxHeartbeats 8000000
namespace Mine
theorem law_all {w : World} {mean : ExcName → Option Value} {mg mb : Str → Option Value} {h₀ : Heap} {L fa l : Addr} {cd : Value} {vs : List Value} {ns : List Int} {s : Shared} {oc : Obj} {Q : Flow → Shared → Prop} {E : Value → Shared → Prop} {m : Str → Option Value}
   (F : Fr h₀ L s.heap m) (hm : m = fun y => if y = Str.ofString "script" then some (.ref l) else none) (N : News h₀ L s.heap [(L + 1, oc)]) (hoc : oc.data = .cell none)
   (X : (Mine.hd.heap_39 w.params).In h₀) (T : Top Mine.hd.view_39 (looseW Mine.hd.view_39 []) mean mg mb h₀)
   (hl : h₀.IsList l vs.toArray) (hi : IntsAre vs ns) (hns : ns.length ≤ 63)
   (hE : PassesOwn (model Challenge.rw_nb0120_01.row.prog w) (callerA.deeper (lawEnv L fa cd)) (lawEnv L fa cd) E)
   (k : ∀ h tk m, Fr h₀ L h m → Q (.ret (.bool true)) { s with heap := h, toks := tk }) :
   wpAny (model Challenge.rw_nb0120_01.row.prog w) (callerA.deeper (lawEnv L fa cd)) (execs lawBody (lawEnv L fa cd)) Q E s := by
  refine law_one F hm N hoc X T hl hi hns ?_
  intro h1 tk1 x t oc1 hx F1 N1
  refine law_two F1 N1 X T ?_
  intro h2 tk2 D Ta news F2 N2 hL
  refine law_three hx F2 N2 hL X T hE ?_
  intro u h3 tk3 F3 N3
  refine law_four F3 N3 X T ?_
  intro h4 tk4 F4 N4
  refine law_five F4 N4 hL X T hE ?_
  intro m5 h5 tk5 F5 N5
  refine law_six F5 N5 X T ?_
  intro h6 tk6 F6
  exact k h6 tk6 m5 F6
theorem law_env (L fa : Addr) (cd : Value) : envOfC (Str.ofString "law") lawScope L fa cd = lawEnv L fa cd := rfl
end Mine
end
open PySem PySem.W PyProof.Rows PySem.Calls Mine
set_option maxRecDepth 100000 in
set_option maxHeartbeats 8000000 in
theorem PySem.Challenge.cw_nb0120_01_holds : PySem.Challenge.rw_nb0120_01.Holds := by
  refine Mine.hd ?_
  w_on
  w_strict (k_go0; (all_goals try k_fold))
  rename Fr _ _ _ _ => F
  rename News _ _ _ _ => N
  refine law_all F ?g1 N ?g2 (by assumption) (by assumption) (by assumption) (by assumption) ?g3 ?g4 ?g5
  case g1 => with_unfolding_all rfl
  case g2 => with_unfolding_all assumption
  case g3 => omega
  case g4 => passes_own
  case g5 =>
    clear F N
    intro h tk m F
    w_strict k_steps
