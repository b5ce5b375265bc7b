import PyProof.Rows.All
import Wide.All
import OpenK.AllK
import Wide.FinOn
import PySem.Challenge.RW_wb0070_01
set_option Elab.async false
section
open PySem PySem.W PyProof.Rows
set_option maxRecDepth 100000
set_option maxHeartbeats 8000000
namespace Mine
open_top hd for PySem.Challenge.rw_wb0070_01
end Mine
end
section
namespace Mine
section
open PySem PySem.W PyProof.Rows

/-! plain texts -/
def Plain (x : Str) : Prop := ∀ c ∈ x.cps.toList, 32 ≤ c ∧ c < 127 ∧ c ≠ 62

def subst (c : Nat) (z : List Nat) (l : List Nat) : List Nat := l.flatMap fun k => if k = c then z else [k]

theorem subst_append (c : Nat) (z a b : List Nat) : subst c z (a ++ b) = subst c z a ++ subst c z b := by
  simp [subst]
theorem subst_free (c : Nat) (z : List Nat) : ∀ l : List Nat, c ∉ l → subst c z l = l
  | [], _ => rfl
  | k :: r, h => by
    have h1 : ¬ k = c := fun e => h (e ▸ List.mem_cons_self ..)
    have h2 : c ∉ r := fun m => h (List.mem_cons_of_mem _ m)
    have ih := subst_free c z r h2
    unfold subst at ih ⊢
    rw [List.flatMap_cons, if_neg h1, ih]
    rfl
theorem subst_join (c : Nat) (z : Str) : ∀ parts : List Str, (∀ p ∈ parts, c ∉ p.cps.toList) →
    subst c z.cps.toList (Str.join ⟨#[c]⟩ parts).cps.toList = (Str.join z parts).cps.toList
  | [], _ => rfl
  | [p], h => subst_free c _ _ (h p (List.mem_singleton.mpr rfl))
  | p :: q :: r, h => by
    have ih := subst_join c z (q :: r) fun a ha => h a (List.mem_cons_of_mem _ ha)
    show subst c z.cps.toList (p ++ ⟨#[c]⟩ ++ Str.join ⟨#[c]⟩ (q :: r)).cps.toList = (p ++ z ++ Str.join z (q :: r)).cps.toList
    simp only [Str.cps_append, Array.toList_append]
    rw [subst_append, subst_append, ih, subst_free c _ _ (h p (List.mem_cons_self ..))]
    have e : subst c z.cps.toList [c] = z.cps.toList := by simp [subst]
    rw [e]
theorem replace_subst (x z : Str) (c : Nat) : (Txt.replace x ⟨#[c]⟩ z).cps.toList = subst c z.cps.toList x.cps.toList := by
  rw [StrLaws.replace_one, ← subst_join c z _ (StrLaws.split_free x c), StrLaws.join_split]

theorem str_ext {x y : Str} (h : x.cps.toList = y.cps.toList) : x = y := by
  obtain ⟨⟨a⟩⟩ := x
  obtain ⟨⟨b⟩⟩ := y
  simp only at h
  rw [h]

theorem none_of {x : Str} {c : Nat} (h : (Builtin.Str.occurrences x ⟨#[c]⟩ 0 x.length 1).isEmpty = true) : c ∉ x.cps.toList := by
  have q := StrLaws.found_one x c
  rw [h] at q
  simpa using q.symm
theorem replace_none {x z : Str} {c : Nat} (h : c ∉ x.cps.toList) : Txt.replace x ⟨#[c]⟩ z = x := by
  apply str_ext
  rw [replace_subst, subst_free _ _ _ h]
theorem occ_free {x : Str} {c : Nat} (h : c ∉ x.cps.toList) : (Builtin.Str.occurrences x ⟨#[c]⟩ 0 x.length 1).isEmpty = true := by
  have q := StrLaws.found_one x c
  rw [decide_eq_false h] at q
  simpa using q

/-! the deeds, told on lists of signs -/
def spell (d : Nat) (k : Nat) : List Nat :=
  if k = 38 then [38, 97, 109, 112, 59]
  else if k = 60 then [38, 108, 116, 59]
  else if k = 34 then (if d = 0 then [38, 113, 117, 111, 116, 59] else [34])
  else [k]

def ap : Nat → List Nat
  | 0 => []
  | n + 1 => ap ((n + 1) / 16) ++ [65 + (n + 1) % 16]
decreasing_by omega

def plainL (d : Nat) (v : List Nat) (n : Nat) : List Nat :=
  if d < 2 then v.flatMap (spell d)
  else if d = 2 then (if v.head? = some 46 then 46 :: v else v)
  else [46, 38] ++ ap n ++ v

def mkS (l : List Nat) : Str := ⟨l.toArray⟩
@[simp] theorem mkS_list (l : List Nat) : (mkS l).cps.toList = l := rfl
theorem mkS_of (x : Str) : mkS x.cps.toList = x := by obtain ⟨⟨a⟩⟩ := x; rfl

def PlainL (l : List Nat) : Prop := ∀ c ∈ l, 32 ≤ c ∧ c < 127 ∧ c ≠ 62

theorem plain_spell {d k : Nat} (h : 32 ≤ k ∧ k < 127 ∧ k ≠ 62) : PlainL (spell d k) := by
  unfold spell
  split
  · intro c hc; revert c; decide
  · split
    · intro c hc; revert c; decide
    · split
      · split
        · intro c hc; revert c; decide
        · intro c hc; revert c; decide
      · intro c hc
        simp at hc
        rw [hc]; exact h
theorem plain_ap : ∀ n, PlainL (ap n) := by
  intro n
  induction n using ap.induct with
  | case1 => unfold ap; intro c hc; cases hc
  | case2 n ih =>
    unfold ap
    intro c hc
    rcases List.mem_append.mp hc with h | h
    · exact ih c h
    · simp at h
      omega
theorem plain_plainL {d : Nat} {v : List Nat} {n : Nat} (h : PlainL v) : PlainL (plainL d v n) := by
  unfold plainL
  split
  · intro c hc
    obtain ⟨k, hk, hc⟩ := List.mem_flatMap.mp hc
    exact plain_spell (h k hk) c hc
  · split
    · split
      · intro c hc
        rcases List.mem_cons.mp hc with e | hc
        · rw [e]; decide
        · exact h c hc
      · exact h
    · intro c hc
      rcases List.mem_append.mp hc with hc | hc
      · rcases List.mem_append.mp hc with hc | hc
        · have : ∀ c ∈ [46, 38], 32 ≤ c ∧ c < 127 ∧ c ≠ 62 := by decide
          exact this c hc
        · exact plain_ap n c hc
      · exact h c hc

theorem flat_len {f : Nat → List Nat} {b : Nat} (hf : ∀ k, (f k).length ≤ b) : ∀ v : List Nat, (v.flatMap f).length ≤ b * v.length
  | [] => by simp
  | k :: r => by
    have ih := flat_len hf r
    have := hf k
    rw [List.flatMap_cons, List.length_append, List.length_cons, Nat.mul_succ]
    omega
theorem spell_len (d k : Nat) : (spell d k).length ≤ 6 := by
  unfold spell
  split
  · decide
  · split
    · decide
    · split
      · split <;> decide
      · simp
theorem ap_len : ∀ (j n : Nat), n < 16 ^ j → (ap n).length ≤ j
  | 0, n, h => by
    have : n = 0 := by simpa using h
    subst this
    unfold ap; decide
  | j + 1, n, h => by
    cases n with
    | zero => unfold ap; exact Nat.zero_le _
    | succ n =>
      unfold ap
      rw [List.length_append]
      have := ap_len j ((n + 1) / 16) (by rw [Nat.pow_succ] at h; omega)
      simp only [List.length_cons, List.length_nil]
      omega
theorem plainL_len {d : Nat} {v : List Nat} {n : Nat} (hn : n < 16 ^ 6) : (plainL d v n).length ≤ 6 * v.length + 8 := by
  unfold plainL
  split
  · have := flat_len (spell_len d) v
    omega
  · split
    · split
      · simp only [List.length_cons]; omega
      · omega
    · have := ap_len 6 n hn
      simp only [List.length_append, List.length_cons, List.length_nil]
      omega

/-! the escapes are the plain deeds -/
theorem flat_congr {f g : Nat → List Nat} (l : List Nat) (h : ∀ k ∈ l, f k = g k) : l.flatMap f = l.flatMap g := by
  induction l with
  | nil => rfl
  | cons k r ih =>
    rw [List.flatMap_cons, List.flatMap_cons, h k (List.mem_cons_self ..), ih fun q hq => h q (List.mem_cons_of_mem _ hq)]
def escC (x : Str) : Str := Txt.replace (Txt.replace x ⟨#[38]⟩ ⟨#[38, 97, 109, 112, 59]⟩) ⟨#[60]⟩ ⟨#[38, 108, 116, 59]⟩
def escA (x : Str) : Str := Txt.replace (escC x) ⟨#[34]⟩ ⟨#[38, 113, 117, 111, 116, 59]⟩

theorem escC_list (x : Str) : (escC x).cps.toList = x.cps.toList.flatMap (spell 1) := by
  unfold escC
  rw [replace_subst, replace_subst]
  unfold subst
  rw [List.flatMap_assoc]
  apply flat_congr
  intro k _
  unfold spell
  by_cases h1 : k = 38
  · subst h1; decide
  · rw [if_neg h1, if_neg h1]
    by_cases h2 : k = 60
    · subst h2; decide
    · rw [if_neg h2]
      by_cases h3 : k = 34
      · subst h3; decide
      · simp [h2, h3]
theorem escA_list (x : Str) : (escA x).cps.toList = x.cps.toList.flatMap (spell 0) := by
  unfold escA
  rw [replace_subst, escC_list]
  unfold subst
  rw [List.flatMap_assoc]
  apply flat_congr
  intro k _
  unfold spell
  by_cases h1 : k = 38
  · subst h1; decide
  · rw [if_neg h1, if_neg h1]
    by_cases h2 : k = 60
    · subst h2; decide
    · rw [if_neg h2, if_neg h2]
      by_cases h3 : k = 34
      · subst h3; decide
      · simp [h3]
theorem escC_eq (x : Str) (n : Nat) : escC x = mkS (plainL 1 x.cps.toList n) := by
  apply str_ext
  rw [escC_list, mkS_list]
  rfl
theorem escA_eq (x : Str) (n : Nat) : escA x = mkS (plainL 0 x.cps.toList n) := by
  apply str_ext
  rw [escA_list, mkS_list]
  rfl
end
section
set_option linter.unusedSectionVars false
/-! the law without the program: two phases of locking -/
structure Job where
  items : List Nat
  deeds : List Nat
abbrev Job.n (j : Job) : Nat := j.items.length
def pt (j : Job) (k : Nat) : Nat := (j.items ++ j.items.reverse).getD k 0
structure Job.Ok (j : Job) : Prop where
  inc : j.items.Pairwise (· < ·)
  lt3 : ∀ i ∈ j.items, i < 3
  ne : j.items ≠ []
  dlen : j.deeds.length = 2 * j.n
  dlt : ∀ d ∈ j.deeds, d < 4
abbrev Tb := Nat → List Nat
def upd {α : Type} (t : Nat → α) (i : Nat) (x : α) : Nat → α := fun y => if y = i then x else t y
def lenL (v : List (List Nat)) : Nat := (v.getLastD []).length
def sj (j : Job) : Nat → Tb → Tb × List (List Nat)
  | 0, t => (t, [[]])
  | k + 1, t => (upd (sj j k t).1 (pt j k) (plainL (j.deeds.getD k 0) ((sj j k t).1 (pt j k)) (lenL (sj j k t).2)),
      (sj j k t).2 ++ [plainL (j.deeds.getD k 0) ((sj j k t).1 (pt j k)) (lenL (sj j k t).2)])
def ser (js : Nat → Job) (t : Tb) (o : List Nat) : Tb := o.foldl (fun t w => (sj (js w) (2 * (js w).n) t).1) t
set_option genInjectivity false in
structure SS where
  steps : Nat → Nat
  vals : Nat → List (List Nat)
  tab : Tb
  lock : Nat → Option Nat
  ord : List Nat
def ini (t0 : Tb) : SS := ⟨fun _ => 0, fun _ => [[]], t0, fun _ => none, []⟩
def deedOf (js : Nat → Job) (w : Nat) (S : SS) : List Nat := plainL ((js w).deeds.getD (S.steps w) 0) (S.tab (pt (js w) (S.steps w))) (lenL (S.vals w))
def go (js : Nat → Job) (w : Nat) (S : SS) : SS :=
  { steps := upd S.steps w (S.steps w + 1), vals := upd S.vals w (S.vals w ++ [deedOf js w S]), tab := upd S.tab (pt (js w) (S.steps w)) (deedOf js w S),
    lock := upd S.lock (pt (js w) (S.steps w)) (if (js w).n ≤ S.steps w then none else some w), ord := if S.steps w + 1 = (js w).n then S.ord ++ [w] else S.ord }
abbrev may (js : Nat → Job) (w : Nat) (S : SS) : Prop := S.steps w < 2 * (js w).n ∧ (S.lock (pt (js w) (S.steps w)) = none ∨ S.lock (pt (js w) (S.steps w)) = some w)
def turn (js : Nat → Job) (w : Nat) (S : SS) : SS := if may js w S then go js w S else S

theorem upd_eq {α : Type} (t : Nat → α) (i : Nat) (x : α) : upd t i x i = x := if_pos rfl
theorem upd_ne {α : Type} (t : Nat → α) {i y : Nat} (x : α) (h : y ≠ i) : upd t i x y = t y := if_neg h

theorem pt_lo {j : Job} {k : Nat} (h : k < j.n) : pt j k = j.items[k] := by
  unfold pt
  rw [List.getD_eq_getElem?_getD, List.getElem?_append_left h, List.getElem?_eq_getElem h]
  rfl
theorem pt_hi {j : Job} {k : Nat} (h : j.n ≤ k) (h2 : k < 2 * j.n) : pt j k = pt j (2 * j.n - 1 - k) := by
  have h3 : 2 * j.n - 1 - k < j.n := by omega
  rw [pt_lo h3]
  unfold pt
  have h4 : k - j.items.length < j.items.length := by show k - j.n < j.n; omega
  rw [List.getD_eq_getElem?_getD, List.getElem?_append_right h, List.getElem?_reverse h4, List.getElem?_eq_getElem (by omega)]
  show j.items[_] = j.items[_]
  congr 1
  show j.n - 1 - (k - j.n) = _
  omega
section
variable {j : Job} (O : j.Ok)
include O
theorem pt_inc {a b : Nat} (h : a < b) (hb : b < j.n) : pt j a < pt j b := by
  rw [pt_lo hb, pt_lo (by omega)]
  exact List.pairwise_iff_getElem.mp O.inc a b (by show a < j.n; omega) hb h
theorem pt_lt3 {k : Nat} (h : k < 2 * j.n) : pt j k < 3 := by
  by_cases h1 : k < j.n
  · rw [pt_lo h1]; exact O.lt3 _ (List.getElem_mem _)
  · rw [pt_hi (by omega) h, pt_lo (by omega)]; exact O.lt3 _ (List.getElem_mem _)
theorem pt_lo_inj {a b : Nat} (ha : a < j.n) (hb : b < j.n) (e : pt j a = pt j b) : a = b := by
  rcases Nat.lt_trichotomy a b with h | h | h
  · have := pt_inc O h hb; omega
  · exact h
  · have := pt_inc O h ha; omega
theorem pt_inj {a b : Nat} (ha : a < 2 * j.n) (hb : b < 2 * j.n) (e : pt j a = pt j b) : a = b ∨ a + b = 2 * j.n - 1 := by
  by_cases h1 : a < j.n
  · by_cases h2 : b < j.n
    · exact .inl (pt_lo_inj O h1 h2 e)
    · rw [pt_hi (by omega) hb] at e
      have := pt_lo_inj O h1 (by omega) e
      omega
  · by_cases h2 : b < j.n
    · rw [pt_hi (by omega) ha] at e
      have := pt_lo_inj O (by omega) h2 e
      omega
    · rw [pt_hi (by omega) ha, pt_hi (by omega) hb] at e
      have := pt_lo_inj O (by omega) (by omega) e
      omega
end
def Holds (j : Job) (s i : Nat) : Prop := ∃ a, a < j.n ∧ a < s ∧ s + a ≤ 2 * j.n - 1 ∧ pt j a = i

theorem sj_out {j : Job} {t : Tb} {i : Nat} : ∀ k : Nat, (∀ a, a < k → pt j a ≠ i) → (sj j k t).1 i = t i
  | 0, _ => rfl
  | k + 1, h => by
    show upd (sj j k t).1 _ _ i = t i
    rw [upd_ne _ _ (Ne.symm (h k (Nat.lt_succ_self _)))]
    exact sj_out k fun a ha => h a (by omega)
theorem sj_loc {j : Job} {t1 t2 : Tb} : ∀ k : Nat, (∀ a, a < k → t1 (pt j a) = t2 (pt j a)) → (sj j k t1).2 = (sj j k t2).2 ∧ ∀ i, t1 i = t2 i → (sj j k t1).1 i = (sj j k t2).1 i
  | 0, _ => ⟨rfl, fun i h => h⟩
  | k + 1, h => by
    obtain ⟨h1, h2⟩ := sj_loc k fun a ha => h a (by omega)
    have h3 := h2 _ (h k (Nat.lt_succ_self _))
    have e : plainL (j.deeds.getD k 0) ((sj j k t1).1 (pt j k)) (lenL (sj j k t1).2) = plainL (j.deeds.getD k 0) ((sj j k t2).1 (pt j k)) (lenL (sj j k t2).2) := by rw [h1, h3]
    refine ⟨?_, fun i hi => ?_⟩
    · show _ ++ [_] = _ ++ [_]
      rw [e, h1]
    · show upd _ _ _ i = upd _ _ _ i
      rw [e]
      unfold upd
      split
      · rfl
      · exact h2 i hi
theorem ser_snoc (js : Nat → Job) (t : Tb) (o : List Nat) (w : Nat) : ser js t (o ++ [w]) = (sj (js w) (2 * (js w).n) (ser js t o)).1 := by
  unfold ser
  rw [List.foldl_append]
  rfl
theorem ser_out {js : Nat → Job} {i : Nat} : ∀ (o : List Nat) (t : Tb), (∀ u ∈ o, ∀ a, a < 2 * (js u).n → pt (js u) a ≠ i) → ser js t o i = t i
  | [], _, _ => rfl
  | u :: o, t, h => by
    show ser js _ o i = t i
    rw [ser_out o _ fun v hv => h v (List.mem_cons_of_mem _ hv)]
    exact sj_out _ (h u (List.mem_cons_self ..))
def bef (o : List Nat) (w : Nat) : List Nat := o.takeWhile (· != w)
theorem bef_not {o : List Nat} {w : Nat} (h : w ∉ o) : bef o w = o := by
  induction o with
  | nil => rfl
  | cons a o ih =>
    have e : a ≠ w := fun e => h (e ▸ List.mem_cons_self ..)
    have ih := ih fun hm => h (List.mem_cons_of_mem _ hm)
    unfold bef at ih ⊢
    rw [List.takeWhile_cons, if_pos (by simpa using e), ih]
theorem bef_mem {o x : List Nat} {w : Nat} (h : w ∈ o) : bef (o ++ x) w = bef o w := by
  induction o with
  | nil => cases h
  | cons a o ih =>
    unfold bef at ih ⊢
    rw [List.cons_append, List.takeWhile_cons, List.takeWhile_cons]
    by_cases e : a = w
    · subst e; simp
    · have e1 : (a != w) = true := by simpa using e
      rw [e1, if_pos rfl, if_pos rfl]
      rcases List.mem_cons.mp h with h | h
      · exact absurd h.symm e
      · rw [ih h]
theorem bef_at {a b : List Nat} {w : Nat} (h : w ∉ a) : bef (a ++ w :: b) w = a := by
  induction a with
  | nil => unfold bef; simp
  | cons c a ih =>
    have e : c ≠ w := fun e => h (e ▸ List.mem_cons_self ..)
    have ih := ih fun hm => h (List.mem_cons_of_mem _ hm)
    unfold bef at ih ⊢
    rw [List.cons_append, List.takeWhile_cons, if_pos (by simpa using e), ih]

structure Inv (js : Nat → Job) (t0 : Tb) (S : SS) : Prop where
  bnd : ∀ w, w < 3 → S.steps w ≤ 2 * (js w).n
  nd : S.ord.Nodup
  sub : ∀ w ∈ S.ord, w < 3
  mem : ∀ w, w < 3 → (w ∈ S.ord ↔ (js w).n ≤ S.steps w)
  lock : ∀ i, i < 3 → ∀ w, (S.lock i = some w ↔ w < 3 ∧ Holds (js w) (S.steps w) i)
  vals : ∀ w, w < 3 → S.vals w = (sj (js w) (S.steps w) (ser js t0 (bef S.ord w))).2
  tabH : ∀ i, i < 3 → ∀ w, S.lock i = some w → S.tab i = (sj (js w) (S.steps w) (ser js t0 (bef S.ord w))).1 i
  tabF : ∀ i, i < 3 → S.lock i = none → S.tab i = ser js t0 S.ord i
  sep : ∀ a b u w, S.ord = a ++ w :: b → u ∈ b → ∀ i, Holds (js w) (S.steps w) i → ∀ k, k < 2 * (js u).n → pt (js u) k ≠ i

theorem holds_not0 {j : Job} {i : Nat} : ¬ Holds j 0 i := fun ⟨_, _, h, _⟩ => Nat.not_lt_zero _ h
theorem holds_done {j : Job} {i : Nat} : ¬ Holds j (2 * j.n) i := fun ⟨_, h, _, h3, _⟩ => by omega

theorem inv_ini (js : Nat → Job) (t0 : Tb) (O : ∀ w, w < 3 → (js w).Ok) : Inv js t0 (ini t0) where
  bnd := fun _ _ => Nat.zero_le _
  nd := List.nodup_nil
  sub := fun _ h => by cases h
  mem := fun w hw => ⟨fun h => (by cases h), fun h => by
    have : (js w).items ≠ [] := (O w hw).ne
    have h2 : (js w).items.length = 0 := Nat.le_zero.mp h
    exact absurd (List.length_eq_zero_iff.mp h2) this⟩
  lock := fun _ _ _ => ⟨fun h => (by cases h), fun h => absurd h.2 holds_not0⟩
  vals := fun _ _ => rfl
  tabH := fun _ _ _ h => by cases h
  tabF := fun _ _ _ => rfl
  sep := fun a b u w h => by cases a <;> cases h

section
variable {js : Nat → Job} {t0 : Tb} {S : SS} (O : ∀ w, w < 3 → (js w).Ok) (I : Inv js t0 S) {w : Nat} (hw : w < 3)
include O I hw
theorem at_hold (h : (js w).n ≤ S.steps w) (h2 : S.steps w < 2 * (js w).n) : Holds (js w) (S.steps w) (pt (js w) (S.steps w)) := ⟨2 * (js w).n - 1 - S.steps w, by omega, by omega, by omega, (pt_hi h h2).symm⟩
theorem grow_free (h : S.steps w < (js w).n) (hm : may js w S) : S.lock (pt (js w) (S.steps w)) = none := by
  rcases hm.2 with h1 | h1
  · exact h1
  · obtain ⟨_, a, ha, ha2, _, e⟩ := (I.lock _ (pt_lt3 (O w hw) hm.1) w).mp h1
    have := pt_lo_inj (O w hw) ha h e
    omega
theorem shr_own (h : (js w).n ≤ S.steps w) (h2 : S.steps w < 2 * (js w).n) : S.lock (pt (js w) (S.steps w)) = some w :=
  (I.lock _ (pt_lt3 (O w hw) h2) w).mpr ⟨hw, at_hold O I hw h h2⟩
/-- what the job finds on the table is what it would find alone -/
theorem finds (hm : may js w S) : S.tab (pt (js w) (S.steps w)) = (sj (js w) (S.steps w) (ser js t0 (bef S.ord w))).1 (pt (js w) (S.steps w)) := by
  by_cases h : S.steps w < (js w).n
  · have hf := grow_free O I hw h hm
    rw [I.tabF _ (pt_lt3 (O w hw) hm.1) hf, sj_out, bef_not]
    · intro hq; have := (I.mem w hw).mp hq; omega
    · intro a ha e
      have := pt_lo_inj (O w hw) (by omega) h e
      omega
  · exact I.tabH _ (pt_lt3 (O w hw) hm.1) w (shr_own O I hw (by omega) hm.1)
theorem holds_step (hb : S.steps w < 2 * (js w).n) {i : Nat} (hi : i ≠ pt (js w) (S.steps w)) : Holds (js w) (S.steps w + 1) i ↔ Holds (js w) (S.steps w) i := by
  constructor
  · rintro ⟨a, h1, h2, h3, e⟩
    refine ⟨a, h1, ?_, by omega, e⟩
    rcases Nat.lt_or_ge a (S.steps w) with h | h
    · exact h
    · have : a = S.steps w := by omega
      rw [this] at e; exact absurd e.symm hi
  · rintro ⟨a, h1, h2, h3, e⟩
    refine ⟨a, h1, by omega, ?_, e⟩
    rcases Nat.lt_or_ge (S.steps w + a) (2 * (js w).n - 1) with h | h
    · omega
    · have e2 : a = 2 * (js w).n - 1 - S.steps w := by omega
      rw [e2, ← pt_hi (by omega) hb] at e
      exact absurd e.symm hi

theorem inv_grow (hm : may js w S) (h : S.steps w < (js w).n) : Inv js t0 (go js w S) := by
  have hf := grow_free O I hw h hm
  have hp3 := pt_lt3 (O w hw) hm.1
  have hfind := finds O I hw hm
  have hno : w ∉ S.ord := fun hq => by have := (I.mem w hw).mp hq; omega
  -- the own state behind the step
  have hown2 : S.vals w ++ [deedOf js w S] = (sj (js w) (S.steps w + 1) (ser js t0 S.ord)).2 := by
    have hv := I.vals w hw
    unfold deedOf
    rw [hfind, hv, bef_not hno]
    rfl
  have hown1 : upd S.tab (pt (js w) (S.steps w)) (deedOf js w S) (pt (js w) (S.steps w)) = (sj (js w) (S.steps w + 1) (ser js t0 S.ord)).1 (pt (js w) (S.steps w)) := by
    have hv := I.vals w hw
    unfold deedOf
    rw [hfind, hv, bef_not hno, upd_eq]
    show _ = upd _ _ _ _
    rw [upd_eq]
  have hstep : ∀ u, u ≠ w → (go js w S).steps u = S.steps u := fun u hu => upd_ne _ _ hu
  have hsw : (go js w S).steps w = S.steps w + 1 := upd_eq _ _ _
  have hlk : (go js w S).lock (pt (js w) (S.steps w)) = some w := by
    show upd _ _ _ _ = _
    rw [upd_eq, if_neg (by omega)]
  have hlk2 : ∀ i, i ≠ pt (js w) (S.steps w) → (go js w S).lock i = S.lock i := fun i hi => upd_ne _ _ hi
  have hholds : Holds (js w) (S.steps w + 1) (pt (js w) (S.steps w)) := ⟨S.steps w, h, Nat.lt_succ_self _, by omega, rfl⟩
  have hlock : ∀ i, i < 3 → ∀ u, ((go js w S).lock i = some u ↔ u < 3 ∧ Holds (js u) ((go js w S).steps u) i) := by
    intro i hi u
    by_cases e : i = pt (js w) (S.steps w)
    · subst e
      rw [hlk]
      constructor
      · intro e; injection e with e; subst e; rw [hsw]; exact ⟨hw, hholds⟩
      · rintro ⟨h1, h2⟩
        by_cases e : u = w
        · rw [e]
        · rw [hstep u e] at h2
          rw [(I.lock _ hi u).mpr ⟨h1, h2⟩] at hf
          cases hf
    · rw [hlk2 i e, I.lock i hi u]
      by_cases e2 : u = w
      · subst e2; rw [hsw, holds_step O I hw hm.1 e]
      · rw [hstep u e2]
  -- the order behind the step
  by_cases hl : S.steps w + 1 = (js w).n
  · have hord : (go js w S).ord = S.ord ++ [w] := if_pos hl
    have hall : ∀ k, k < 2 * (js w).n → (go js w S).lock (pt (js w) k) = some w := by
      intro k hk
      have aux : ∀ k, k < (js w).n → (go js w S).lock (pt (js w) k) = some w := fun k hk => by
        refine (hlock _ (pt_lt3 (O w hw) (by omega)) w).mpr ⟨hw, k, hk, ?_, ?_, rfl⟩
        · rw [hsw]; omega
        · rw [hsw]; omega
      by_cases hk2 : k < (js w).n
      · exact aux k hk2
      · rw [pt_hi (by omega) hk]; exact aux _ (by omega)
    have hser : ∀ i, (∀ k, k < 2 * (js w).n → pt (js w) k ≠ i) → ser js t0 (S.ord ++ [w]) i = ser js t0 S.ord i := fun i hi => by
      rw [ser_snoc, sj_out _ hi]
    have hother : ∀ i, i < 3 → (go js w S).lock i ≠ some w → ∀ k, k < 2 * (js w).n → pt (js w) k ≠ i := fun i _ hi k hk e => hi (e ▸ hall k hk)
    refine ⟨?_, ?_, ?_, ?_, hlock, ?_, ?_, ?_, ?_⟩
    · intro u hu
      by_cases e : u = w
      · rw [e, hsw]; exact hm.1
      · rw [hstep u e]; exact I.bnd u hu
    · rw [hord]
      refine List.nodup_append.mpr ⟨I.nd, by simp, ?_⟩
      intro a ha b hb e
      rw [List.mem_singleton.mp hb] at e
      exact hno (e ▸ ha)
    · rw [hord]
      intro u hu
      rcases List.mem_append.mp hu with hu | hu
      · exact I.sub u hu
      · rw [List.mem_singleton.mp hu]; exact hw
    · intro u hu
      rw [hord]
      by_cases e : u = w
      · subst e; rw [hsw]; exact ⟨fun _ => by omega, fun _ => by simp⟩
      · rw [hstep u e, ← I.mem u hu]; simp [e]
    · intro u hu
      rw [hord]
      by_cases e : u = w
      · subst e
        rw [hsw, bef_at hno]
        show upd _ _ _ _ = _
        rw [upd_eq]; exact hown2
      · rw [hstep u e]
        show upd _ _ _ _ = _
        rw [upd_ne _ _ e, I.vals u hu]
        by_cases hm2 : u ∈ S.ord
        · rw [bef_mem hm2]
        · rw [bef_not hm2, bef_not (by simp [hm2, e])]
          refine (sj_loc _ fun a ha => ?_).1
          have hst : S.steps u < (js u).n := Nat.lt_of_not_le fun q => hm2 ((I.mem u hu).mpr q)
          have hau : a < (js u).n := by omega
          refine (hser _ (hother _ (pt_lt3 (O u hu) (by omega)) ?_)).symm
          have : (go js w S).lock (pt (js u) a) = some u := (hlock _ (pt_lt3 (O u hu) (by omega)) u).mpr ⟨hu, a, hau, by rw [hstep u e]; exact ha, by rw [hstep u e]; omega, rfl⟩
          rw [this]
          intro h; injection h with h; exact e h
    · intro i hi u hu
      rw [hord]
      by_cases e : u = w
      · subst e
        rw [hsw, bef_at hno]
        by_cases e2 : i = pt (js u) (S.steps u)
        · rw [e2]; exact hown1
        · show upd _ _ _ _ = upd _ _ _ _
          rw [upd_ne _ _ e2, upd_ne _ _ e2]
          rw [hlk2 i e2] at hu
          rw [I.tabH i hi u hu, bef_not hno]
      · have e2 : i ≠ pt (js w) (S.steps w) := fun q => by rw [q, hlk] at hu; injection hu with hu; exact e hu.symm
        rw [hstep u e]
        show upd _ _ _ _ = _
        rw [upd_ne _ _ e2]
        have hu0 := hu
        rw [hlk2 i e2] at hu
        obtain ⟨hu3, hu4⟩ := (I.lock i hi u).mp hu
        rw [I.tabH i hi u hu]
        by_cases hm2 : u ∈ S.ord
        · rw [bef_mem hm2]
        · rw [bef_not hm2, bef_not (by simp [hm2, e])]
          have hst : S.steps u < (js u).n := Nat.lt_of_not_le fun q => hm2 ((I.mem u hu3).mpr q)
          refine (sj_loc _ fun a ha => ?_).2 i ?_
          · have hau : a < (js u).n := by omega
            refine (hser _ (hother _ (pt_lt3 (O u hu3) (by omega)) ?_)).symm
            have : (go js w S).lock (pt (js u) a) = some u := (hlock _ (pt_lt3 (O u hu3) (by omega)) u).mpr ⟨hu3, a, hau, by rw [hstep u e]; exact ha, by rw [hstep u e]; omega, rfl⟩
            rw [this]
            intro h; injection h with h; exact e h
          · refine (hser _ (hother _ hi ?_)).symm
            rw [hu0]
            intro h; injection h with h; exact e h
    · intro i hi hn
      have e2 : i ≠ pt (js w) (S.steps w) := fun q => by rw [q, hlk] at hn; cases hn
      show upd _ _ _ _ = _
      rw [upd_ne _ _ e2, hord, hser i (hother i hi (by rw [hn]; intro h; cases h))]
      rw [hlk2 i e2] at hn
      exact I.tabF i hi hn
    · intro a b u v hab hub i hh k hk
      rw [hord] at hab
      have hv3 : v < 3 := by
        have : v ∈ S.ord ++ [w] := by rw [hab]; simp
        rcases List.mem_append.mp this with q | q
        · exact I.sub v q
        · rw [List.mem_singleton.mp q]; exact hw
      rcases List.eq_nil_or_concat b with hb | ⟨b', x, hb⟩
      · rw [hb] at hub; cases hub
      · rw [List.concat_eq_append] at hb
        have e1 : S.ord ++ [w] = (a ++ v :: b') ++ [x] := by rw [hab, hb]; simp
        obtain ⟨e2, e3⟩ := List.append_inj' e1 rfl
        have hx : x = w := by simpa using e3.symm
        have hvw : v ≠ w := fun q => hno (by rw [e2, q]; simp)
        rw [hstep v hvw] at hh
        rw [hb, hx] at hub
        rcases List.mem_append.mp hub with hu | hu
        · exact I.sep a b' u v e2 hu i hh k hk
        · rw [List.mem_singleton.mp hu] at hk ⊢
          intro q
          have hi3 : i < 3 := q ▸ pt_lt3 (O w hw) hk
          have h1 := (hlock i hi3 v).mpr ⟨hv3, by rw [hstep v hvw]; exact hh⟩
          have h2 := hall k hk
          rw [q, h1] at h2
          injection h2 with h2
          exact hvw h2
  · have hord : (go js w S).ord = S.ord := if_neg hl
    refine ⟨?_, ?_, ?_, ?_, hlock, ?_, ?_, ?_, ?_⟩
    · intro u hu
      by_cases e : u = w
      · rw [e, hsw]; exact hm.1
      · rw [hstep u e]; exact I.bnd u hu
    · rw [hord]; exact I.nd
    · rw [hord]; exact I.sub
    · intro u hu
      rw [hord]
      by_cases e : u = w
      · subst e; rw [hsw, I.mem u hu]; omega
      · rw [hstep u e]; exact I.mem u hu
    · intro u hu
      rw [hord]
      show upd _ _ _ _ = _
      by_cases e : u = w
      · subst e
        rw [hsw, upd_eq, bef_not hno]; exact hown2
      · rw [hstep u e, upd_ne _ _ e]; exact I.vals u hu
    · intro i hi u hu
      rw [hord]
      show upd _ _ _ _ = _
      by_cases e2 : i = pt (js w) (S.steps w)
      · rw [e2, hlk] at hu
        injection hu with hu
        subst hu
        rw [e2, hsw, bef_not hno]; exact hown1
      · rw [upd_ne _ _ e2]
        rw [hlk2 i e2] at hu
        rw [I.tabH i hi u hu]
        by_cases e : u = w
        · subst e
          rw [hsw, bef_not hno]
          exact (upd_ne _ _ e2).symm
        · rw [hstep u e]
    · intro i hi hn
      have e2 : i ≠ pt (js w) (S.steps w) := fun q => by rw [q, hlk] at hn; cases hn
      show upd _ _ _ _ = _
      rw [upd_ne _ _ e2, hord]
      rw [hlk2 i e2] at hn
      exact I.tabF i hi hn
    · intro a b u v hab hub i hh k hk
      rw [hord] at hab
      have hvw : v ≠ w := fun q => hno (by rw [hab, q]; simp)
      rw [hstep v hvw] at hh
      exact I.sep a b u v hab hub i hh k hk
end
end
section
set_option linter.unusedSectionVars false
section
variable {js : Nat → Job} {t0 : Tb} {S : SS} (O : ∀ w, w < 3 → (js w).Ok) (I : Inv js t0 S) {w : Nat} (hw : w < 3)
include O I hw
theorem inv_shrink (hm : may js w S) (h : (js w).n ≤ S.steps w) : Inv js t0 (go js w S) := by
  have hf := shr_own O I hw h hm.1
  have hp3 := pt_lt3 (O w hw) hm.1
  have hfind := finds O I hw hm
  have hin : w ∈ S.ord := (I.mem w hw).mpr h
  have hown2 : S.vals w ++ [deedOf js w S] = (sj (js w) (S.steps w + 1) (ser js t0 (bef S.ord w))).2 := by
    have hv := I.vals w hw
    unfold deedOf
    rw [hfind, hv]
    rfl
  have hown1 : upd S.tab (pt (js w) (S.steps w)) (deedOf js w S) (pt (js w) (S.steps w)) = (sj (js w) (S.steps w + 1) (ser js t0 (bef S.ord w))).1 (pt (js w) (S.steps w)) := by
    have hv := I.vals w hw
    unfold deedOf
    rw [hfind, hv, upd_eq]
    show _ = upd _ _ _ _
    rw [upd_eq]
  have hstep : ∀ u, u ≠ w → (go js w S).steps u = S.steps u := fun u hu => upd_ne _ _ hu
  have hsw : (go js w S).steps w = S.steps w + 1 := upd_eq _ _ _
  have hlk : (go js w S).lock (pt (js w) (S.steps w)) = none := by
    show upd _ _ _ _ = _
    rw [upd_eq, if_pos h]
  have hlk2 : ∀ i, i ≠ pt (js w) (S.steps w) → (go js w S).lock i = S.lock i := fun i hi => upd_ne _ _ hi
  have hnoh : ¬ Holds (js w) (S.steps w + 1) (pt (js w) (S.steps w)) := by
    rintro ⟨a, h1, h2, h3, e⟩
    have hb := hm.1
    rcases pt_inj (O w hw) (by omega) hb e with q | q <;> omega
  have hord : (go js w S).ord = S.ord := if_neg (by omega)
  have hmono : ∀ u, ∀ i, Holds (js u) ((go js w S).steps u) i → Holds (js u) (S.steps u) i := by
    intro u i hh
    by_cases e : u = w
    · subst e
      rw [hsw] at hh
      by_cases e2 : i = pt (js u) (S.steps u)
      · rw [e2] at hh; exact absurd hh hnoh
      · exact (holds_step O I hw hm.1 e2).mp hh
    · rw [hstep u e] at hh; exact hh
  refine ⟨?_, ?_, ?_, ?_, ?_, ?_, ?_, ?_, ?_⟩
  · intro u hu
    by_cases e : u = w
    · rw [e, hsw]; exact hm.1
    · rw [hstep u e]; exact I.bnd u hu
  · rw [hord]; exact I.nd
  · rw [hord]; exact I.sub
  · intro u hu
    rw [hord]
    by_cases e : u = w
    · subst e; rw [hsw, I.mem u hu]; omega
    · rw [hstep u e]; exact I.mem u hu
  · intro i hi u
    by_cases e : i = pt (js w) (S.steps w)
    · subst e
      rw [hlk]
      constructor
      · intro e; cases e
      · rintro ⟨h1, h2⟩
        by_cases e : u = w
        · subst e; rw [hsw] at h2; exact absurd h2 hnoh
        · rw [hstep u e] at h2
          have := (I.lock _ hi u).mpr ⟨h1, h2⟩
          rw [hf] at this
          injection this with this
          exact absurd this.symm e
    · rw [hlk2 i e, I.lock i hi u]
      by_cases e2 : u = w
      · subst e2; rw [hsw, holds_step O I hw hm.1 e]
      · rw [hstep u e2]
  · intro u hu
    rw [hord]
    show upd _ _ _ _ = _
    by_cases e : u = w
    · subst e
      rw [hsw, upd_eq]; exact hown2
    · rw [hstep u e, upd_ne _ _ e]; exact I.vals u hu
  · intro i hi u hu
    rw [hord]
    show upd _ _ _ _ = _
    have e2 : i ≠ pt (js w) (S.steps w) := fun q => by rw [q, hlk] at hu; cases hu
    rw [upd_ne _ _ e2]
    rw [hlk2 i e2] at hu
    rw [I.tabH i hi u hu]
    by_cases e : u = w
    · subst e
      rw [hsw]
      exact (upd_ne _ _ e2).symm
    · rw [hstep u e]
  · intro i hi hn
    show upd _ _ _ _ = _
    by_cases e : i = pt (js w) (S.steps w)
    · subst e
      rw [hown1, hord]
      obtain ⟨a, b, hab⟩ := List.append_of_mem hin
      have hna : w ∉ a := by
        have := I.nd
        rw [hab] at this
        intro q
        exact (List.nodup_append.mp this).2.2 w q w (List.mem_cons_self ..) rfl
      have hb0 : bef S.ord w = a := by rw [hab]; exact bef_at hna
      have e3 : a ++ w :: b = (a ++ [w]) ++ b := by simp
      rw [hb0, hab, e3]
      have e4 : ser js t0 ((a ++ [w]) ++ b) = ser js (ser js t0 (a ++ [w])) b := by unfold ser; rw [List.foldl_append]
      rw [e4, ser_out b _ (fun u hu => I.sep a b u w hab hu _ (at_hold O I hw h hm.1)), ser_snoc]
      have aux : ∀ d, S.steps w + 1 + d ≤ 2 * (js w).n → (sj (js w) (S.steps w + 1) (ser js t0 a)).1 (pt (js w) (S.steps w)) = (sj (js w) (S.steps w + 1 + d) (ser js t0 a)).1 (pt (js w) (S.steps w)) := by
        intro d
        induction d with
        | zero => intro _; rfl
        | succ d ih =>
          intro hd
          rw [ih (by omega)]
          refine (upd_ne _ _ ?_).symm
          show pt (js w) (S.steps w) ≠ pt (js w) (S.steps w + 1 + d)
          intro q
          rcases pt_inj (O w hw) hm.1 (by omega) q with q | q <;> omega
      have hb := hm.1
      have e5 := aux (2 * (js w).n - (S.steps w + 1)) (by omega)
      rw [show S.steps w + 1 + (2 * (js w).n - (S.steps w + 1)) = 2 * (js w).n by omega] at e5
      exact e5
    · rw [upd_ne _ _ e, hord]
      rw [hlk2 i e] at hn
      exact I.tabF i hi hn
  · intro a b u v hab hub i hh k hk
    rw [hord] at hab
    exact I.sep a b u v hab hub i (hmono v i hh) k hk
theorem inv_turn : Inv js t0 (turn js w S) := by
  unfold turn
  split
  · rename_i hm
    rcases Nat.lt_or_ge (S.steps w) (js w).n with h | h
    · exact inv_grow O I hw hm h
    · exact inv_shrink O I hw hm h
  · exact I
end
section
variable {js : Nat → Job} {t0 : Tb} (O : ∀ w, w < 3 → (js w).Ok)
include O
/-- a job that is not done: some job may go on -/
theorem some_may {S : SS} (I : Inv js t0 S) : ∀ d w, w < 3 → S.steps w < 2 * (js w).n → 3 - pt (js w) (S.steps w) ≤ d → ∃ u, u < 3 ∧ may js u S
  | 0, w, hw, hs, hd => by have := pt_lt3 (O w hw) hs; omega
  | d + 1, w, hw, hs, hd => by
    by_cases hm : may js w S
    · exact ⟨w, hw, hm⟩
    · have hp3 := pt_lt3 (O w hw) hs
      have hgrow : S.steps w < (js w).n := by
        rcases Nat.lt_or_ge (S.steps w) (js w).n with h | h
        · exact h
        · exact absurd ⟨hs, .inr (shr_own O I hw h hs)⟩ hm
      have : ∃ u, S.lock (pt (js w) (S.steps w)) = some u := by
        cases hl : S.lock (pt (js w) (S.steps w)) with
        | none => exact absurd ⟨hs, .inl hl⟩ hm
        | some u => exact ⟨u, rfl⟩
      obtain ⟨u, hu⟩ := this
      obtain ⟨hu3, a, ha1, ha2, ha3, ha4⟩ := (I.lock _ hp3 u).mp hu
      have hsu : S.steps u < 2 * (js u).n := by omega
      rcases Nat.lt_or_ge (S.steps u) (js u).n with h | h
      · refine some_may I d u hu3 hsu ?_
        have := pt_inc (O u hu3) ha2 h
        omega
      · exact ⟨u, hu3, hsu, .inr (shr_own O I hu3 h hsu)⟩
def total (S : SS) : Nat := S.steps 0 + S.steps 1 + S.steps 2
def full (js : Nat → Job) : Nat := 2 * (js 0).n + 2 * (js 1).n + 2 * (js 2).n
omit O in
theorem total_go {S : SS} {w : Nat} (hw : w < 3) : total (go js w S) = total S + 1 := by
  have : w = 0 ∨ w = 1 ∨ w = 2 := by omega
  unfold total go
  rcases this with rfl | rfl | rfl <;> simp [upd] <;> omega
omit O in
theorem total_turn {S : SS} {w : Nat} (hw : w < 3) : total S ≤ total (turn js w S) ∧ (may js w S → total (turn js w S) = total S + 1) ∧ (¬ may js w S → turn js w S = S) := by
  unfold turn
  split
  · rename_i h
    have := total_go (js := js) (S := S) hw
    exact ⟨by omega, fun _ => this, fun q => absurd h q⟩
  · rename_i h
    exact ⟨Nat.le_refl _, fun q => absurd q h, fun _ => rfl⟩
def round (js : Nat → Job) (S : SS) : SS := turn js 2 (turn js 1 (turn js 0 S))
theorem inv_round {S : SS} (I : Inv js t0 S) : Inv js t0 (round js S) := inv_turn O (inv_turn O (inv_turn O I (by decide : 0 < 3)) (by decide : 1 < 3)) (by decide : 2 < 3)
omit O in
theorem total_le {S : SS} (I : Inv js t0 S) : total S ≤ full js := by
  have h0 := I.bnd 0 (by decide)
  have h1 := I.bnd 1 (by decide)
  have h2 := I.bnd 2 (by decide)
  unfold total full
  omega
theorem round_goes {S : SS} (I : Inv js t0 S) (h : total S < full js) : total S + 1 ≤ total (round js S) := by
  have h0 := I.bnd 0 (by decide)
  have h1 := I.bnd 1 (by decide)
  have h2 := I.bnd 2 (by decide)
  have : ∃ w, w < 3 ∧ S.steps w < 2 * (js w).n := by
    unfold total full at h
    rcases Nat.lt_or_ge (S.steps 0) (2 * (js 0).n) with q | q
    · exact ⟨0, by decide, q⟩
    · rcases Nat.lt_or_ge (S.steps 1) (2 * (js 1).n) with q | q
      · exact ⟨1, by decide, q⟩
      · exact ⟨2, by decide, by omega⟩
  obtain ⟨w, hw, hs⟩ := this
  obtain ⟨u, hu, hm⟩ := some_may O I _ w hw hs (Nat.le_refl _)
  obtain ⟨a1, a2, a3⟩ := total_turn (js := js) (S := S) (show 0 < 3 by decide)
  obtain ⟨b1, b2, b3⟩ := total_turn (js := js) (S := turn js 0 S) (show 1 < 3 by decide)
  obtain ⟨c1, c2, c3⟩ := total_turn (js := js) (S := turn js 1 (turn js 0 S)) (show 2 < 3 by decide)
  unfold round
  by_cases q0 : may js 0 S
  · have := a2 q0; omega
  · have e0 := a3 q0
    rw [e0] at b1 b2 b3 c1 c2 c3 ⊢
    by_cases q1 : may js 1 S
    · have := b2 q1; omega
    · have e1 := b3 q1
      rw [e1] at c1 c2 c3 ⊢
      have : u = 2 := by
        have : u = 0 ∨ u = 1 ∨ u = 2 := by omega
        rcases this with rfl | rfl | rfl
        · exact absurd hm q0
        · exact absurd hm q1
        · rfl
      subst this
      have := c2 hm
      omega
def rounds (js : Nat → Job) : Nat → SS → SS
  | 0, S => S
  | k + 1, S => rounds js k (round js S)
theorem rounds_end : ∀ (k : Nat) (S : SS), Inv js t0 S → Inv js t0 (rounds js k S) ∧ (full js ≤ total S + k → total (rounds js k S) = full js)
  | 0, S, I => ⟨I, fun h => Nat.le_antisymm (total_le I) h⟩
  | k + 1, S, I => by
    obtain ⟨h1, h2⟩ := rounds_end k (round js S) (inv_round O I)
    refine ⟨h1, fun h => h2 ?_⟩
    rcases Nat.lt_or_ge (total S) (full js) with q | q
    · have := round_goes O I q; omega
    · have h3 := total_le (inv_round O I)
      have h4 : total S ≤ total (round js S) := by
        obtain ⟨a1, _⟩ := total_turn (js := js) (S := S) (show 0 < 3 by decide)
        obtain ⟨b1, _⟩ := total_turn (js := js) (S := turn js 0 S) (show 1 < 3 by decide)
        obtain ⟨c1, _⟩ := total_turn (js := js) (S := turn js 1 (turn js 0 S)) (show 2 < 3 by decide)
        unfold round
        omega
      omega
theorem ok_len {j : Job} (h : j.Ok) : j.n ≤ 3 := by
  rcases Nat.lt_or_ge 3 j.n with q | q
  · have h0 := pt_inc h (a := 0) (b := 1) (by decide) (by omega)
    have h1 := pt_inc h (a := 1) (b := 2) (by decide) (by omega)
    have h2 := pt_inc h (a := 2) (b := 3) (by decide) (by omega)
    have h3 := pt_lt3 h (k := 3) (by omega)
    omega
  · exact q
theorem full_le : full js ≤ 18 := by
  have h0 := ok_len O (O 0 (by decide))
  have h1 := ok_len O (O 1 (by decide))
  have h2 := ok_len O (O 2 (by decide))
  unfold full
  omega
end
end
section
set_option linter.unusedSectionVars false
def cnt (j : Job) : Nat → Nat → Nat
  | 0, _ => 0
  | k + 1, i => cnt j k i + (if pt j k = i then 1 else 0)
def Bd : Nat → Nat
  | 0 => 2
  | k + 1 => 6 * Bd k + 8
theorem Bd_mono {a b : Nat} (h : a ≤ b) : Bd a ≤ Bd b := by
  induction h with
  | refl => exact Nat.le_refl _
  | step _ ih => exact Nat.le_trans ih (show Bd _ ≤ 6 * Bd _ + 8 by omega)
theorem cnt_not {j : Job} {i : Nat} : ∀ k, (∀ a, a < k → pt j a ≠ i) → cnt j k i = 0
  | 0, _ => rfl
  | k + 1, h => by
    unfold cnt
    rw [cnt_not k (fun a ha => h a (by omega)), if_neg (h k (Nat.lt_succ_self _))]
theorem ind_lt {p q : Prop} [Decidable p] [Decidable q] (h : p ↔ q) : (if p then 1 else 0 : Nat) = if q then 1 else 0 := by
  by_cases c : p
  · rw [if_pos c, if_pos (h.mp c)]
  · rw [if_neg c, if_neg fun x => c (h.mpr x)]
theorem lt_grow {a k : Nat} (h : k ≠ a) : a < k ↔ a < k + 1 := by omega
theorem cnt_at {j : Job} (O : j.Ok) {a : Nat} (ha : a < j.n) : ∀ k, k ≤ 2 * j.n → cnt j k (pt j a) = (if a < k then 1 else 0) + (if 2 * j.n - 1 - a < k then 1 else 0)
  | 0, _ => rfl
  | k + 1, h => by
    unfold cnt
    rw [cnt_at O ha k (Nat.le_of_succ_le h)]
    have hb : a ≠ 2 * j.n - 1 - a := by omega
    by_cases e : pt j k = pt j a
    · rw [if_pos e]
      rcases pt_inj O h (by omega) e with q | q
      · subst q
        rw [if_neg (Nat.lt_irrefl k), if_pos (Nat.lt_succ_self k), ind_lt (lt_grow hb)]
        exact Nat.add_comm _ _ |>.trans (by rw [Nat.zero_add])
      · have q2 : 2 * j.n - 1 - a = k := by omega
        rw [q2] at hb ⊢
        rw [if_neg (Nat.lt_irrefl k), if_pos (Nat.lt_succ_self k), ind_lt (lt_grow (Ne.symm hb))]
    · rw [if_neg e]
      have h1 : k ≠ a := fun q => e (by rw [q])
      have h2 : k ≠ 2 * j.n - 1 - a := fun q => e (by rw [pt_hi (show j.n ≤ k by omega) h]; congr 1; omega)
      rw [ind_lt (lt_grow h1), ind_lt (lt_grow h2), Nat.add_zero]
theorem cnt_two {j : Job} (O : j.Ok) (i k : Nat) (h : k ≤ 2 * j.n) : cnt j k i ≤ 2 := by
  by_cases e : ∃ a, a < j.n ∧ pt j a = i
  · obtain ⟨a, ha, rfl⟩ := e
    rw [cnt_at O ha k h]
    split <;> split <;> decide
  · rw [cnt_not k fun a ha q => ?_]
    · exact Nat.zero_le _
    · by_cases h1 : a < j.n
      · exact e ⟨a, h1, q⟩
      · exact e ⟨2 * j.n - 1 - a, by omega, by rw [← pt_hi (by omega) (by omega)]; exact q⟩
theorem cnt_now {j : Job} (O : j.Ok) {k : Nat} (h : k < 2 * j.n) : cnt j k (pt j k) ≤ 1 := by
  have h1 := cnt_two O (pt j k) (k + 1) h
  unfold cnt at h1
  rw [if_pos rfl] at h1
  omega
def tot (js : Nat → Job) (S : SS) (i : Nat) : Nat := cnt (js 0) (S.steps 0) i + cnt (js 1) (S.steps 1) i + cnt (js 2) (S.steps 2) i
structure Fit (js : Nat → Job) (S : SS) : Prop where
  bnd : ∀ w, w < 3 → S.steps w ≤ 2 * (js w).n
  len : ∀ i, i < 3 → (S.tab i).length ≤ Bd (tot js S i)
  pl : ∀ i, i < 3 → PlainL (S.tab i)
  vlen : ∀ w, w < 3 → S.vals w ≠ [] ∧ (S.vals w).length = S.steps w + 1 ∧ ∀ v ∈ S.vals w, v.length ≤ Bd 6 ∧ PlainL v
section
variable {js : Nat → Job} {S : SS} (O : ∀ w, w < 3 → (js w).Ok) (I : Fit js S) {w : Nat} (hw : w < 3) (hs : S.steps w < 2 * (js w).n)
include O I hw hs
theorem tot_five : tot js S (pt (js w) (S.steps w)) ≤ 5 := by
  have h0 := cnt_now (O w hw) hs
  have a0 := cnt_two (O 0 (by decide)) (pt (js w) (S.steps w)) _ (I.bnd 0 (by decide))
  have a1 := cnt_two (O 1 (by decide)) (pt (js w) (S.steps w)) _ (I.bnd 1 (by decide))
  have a2 := cnt_two (O 2 (by decide)) (pt (js w) (S.steps w)) _ (I.bnd 2 (by decide))
  unfold tot
  have : w = 0 ∨ w = 1 ∨ w = 2 := by omega
  rcases this with rfl | rfl | rfl <;> omega
theorem in_len : (S.tab (pt (js w) (S.steps w))).length ≤ 32768 :=
  Nat.le_trans (I.len _ (pt_lt3 (O w hw) hs)) (Nat.le_trans (Bd_mono (tot_five O I hw hs)) (by decide))
theorem in_plain : PlainL (S.tab (pt (js w) (S.steps w))) := I.pl _ (pt_lt3 (O w hw) hs)
theorem lenL_le : lenL (S.vals w) ≤ Bd 6 := by
  obtain ⟨h1, _, h2⟩ := I.vlen w hw
  unfold lenL
  rw [List.getLastD_eq_getLast?, List.getLast?_eq_some_getLast h1]
  exact (h2 _ (List.getLast_mem h1)).1
theorem seen_lt : lenL (S.vals w) < 16777216 := Nat.lt_of_le_of_lt (lenL_le O I hw hs) (by decide)
theorem out_plain : PlainL (deedOf js w S) := plain_plainL (in_plain O I hw hs)
theorem out_len : (deedOf js w S).length ≤ Bd (tot js S (pt (js w) (S.steps w)) + 1) := by
  have h1 := plainL_len (d := (js w).deeds.getD (S.steps w) 0) (v := S.tab (pt (js w) (S.steps w))) (n := lenL (S.vals w)) (Nat.lt_of_lt_of_le (seen_lt O I hw hs) (by decide))
  have h2 := I.len _ (pt_lt3 (O w hw) hs)
  show _ ≤ 6 * Bd _ + 8
  unfold deedOf
  omega
theorem out_len6 : (deedOf js w S).length ≤ Bd 6 := Nat.le_trans (out_len O I hw hs) (Bd_mono (Nat.succ_le_succ (tot_five O I hw hs)))
theorem fit_go : Fit js (go js w S) where
  bnd := fun u hu => by
    show upd _ _ _ _ ≤ _
    unfold upd
    split
    · rename_i e; subst e; exact hs
    · exact I.bnd u hu
  len := fun i hi => by
    show List.length (upd _ _ _ _) ≤ _
    have ht : tot js (go js w S) i = tot js S i + (if pt (js w) (S.steps w) = i then 1 else 0) := by
      unfold tot go
      have : w = 0 ∨ w = 1 ∨ w = 2 := by omega
      rcases this with rfl | rfl | rfl
      · simp only [upd, if_true, if_neg (show ¬ (1 = 0) by decide), if_neg (show ¬ (2 = 0) by decide)]
        show (cnt _ _ _ + _) + _ + _ = _
        omega
      · simp only [upd, if_true, if_neg (show ¬ (0 = 1) by decide), if_neg (show ¬ (2 = 1) by decide)]
        show _ + (cnt _ _ _ + _) + _ = _
        omega
      · simp only [upd, if_true, if_neg (show ¬ (0 = 2) by decide), if_neg (show ¬ (1 = 2) by decide)]
        show _ + _ + (cnt _ _ _ + _) = _
        omega
    rw [ht]
    by_cases e : pt (js w) (S.steps w) = i
    · subst e
      rw [if_pos rfl, upd_eq]
      exact out_len O I hw hs
    · rw [if_neg e, upd_ne _ _ (Ne.symm e)]
      exact I.len i hi
  pl := fun i hi => by
    show PlainL (upd _ _ _ _)
    unfold upd
    split
    · exact out_plain O I hw hs
    · exact I.pl i hi
  vlen := fun u hu => by
    show upd _ _ _ _ ≠ [] ∧ List.length (upd _ _ _ _) = upd _ _ _ _ + 1 ∧ ∀ v ∈ upd _ _ _ _, _
    obtain ⟨h1, h2, h3⟩ := I.vlen u hu
    unfold upd
    by_cases e : u = w
    · subst e
      rw [if_pos rfl, if_pos rfl]
      refine ⟨by simp, by simp [h2], fun v hv => ?_⟩
      rcases List.mem_append.mp hv with q | q
      · exact h3 v q
      · rw [List.mem_singleton.mp q]; exact ⟨out_len6 O I hw hs, out_plain O I hw hs⟩
    · rw [if_neg e, if_neg e]; exact ⟨h1, h2, h3⟩
end
theorem fit_turn {js : Nat → Job} {S : SS} (O : ∀ w, w < 3 → (js w).Ok) (I : Fit js S) {w : Nat} (hw : w < 3) : Fit js (turn js w S) := by
  unfold turn
  split
  · rename_i h; exact fit_go O I hw h.1
  · exact I
theorem fit_ini (js : Nat → Job) (t0 : Tb) (h1 : ∀ i, i < 3 → (t0 i).length ≤ 2) (h2 : ∀ i, i < 3 → PlainL (t0 i)) : Fit js (ini t0) where
  bnd := fun _ _ => Nat.zero_le _
  len := fun i hi => h1 i hi
  pl := h2
  vlen := fun w hw => ⟨by simp [ini], rfl, fun v hv => by
    rw [List.mem_singleton.mp hv]
    exact ⟨Nat.zero_le _, fun c hc => by cases hc⟩⟩
/-! the serial run -/
def many (js : Nat → Job) (w : Nat) : Nat → SS → SS
  | 0, S => S
  | k + 1, S => go js w (many js w k S)
theorem many_is {js : Nat → Job} {w : Nat} {S : SS} (h0 : S.steps w = 0) (hv : S.vals w = [[]]) : ∀ k, (many js w k S).steps = upd S.steps w k ∧ (many js w k S).tab = (sj (js w) k S.tab).1 ∧ (many js w k S).vals = upd S.vals w (sj (js w) k S.tab).2
  | 0 => by
    refine ⟨?_, rfl, ?_⟩
    · funext u
      unfold upd
      split
      · rename_i e; rw [e]; exact h0
      · rfl
    · funext u
      unfold upd
      split
      · rename_i e; rw [e]; exact hv
      · rfl
  | k + 1 => by
    obtain ⟨h1, h2, h3⟩ := many_is (js := js) h0 hv k
    have hd : deedOf js w (many js w k S) = plainL ((js w).deeds.getD k 0) ((sj (js w) k S.tab).1 (pt (js w) k)) (lenL (sj (js w) k S.tab).2) := by
      unfold deedOf
      rw [h1, h2, h3, upd_eq, upd_eq]
    refine ⟨?_, ?_, ?_⟩
    · show upd _ _ _ = _
      rw [h1, upd_eq]
      funext u
      unfold upd
      split <;> rfl
    · show upd _ _ _ = upd _ _ _
      rw [hd, h1, h2, upd_eq]
    · show upd _ _ _ = upd _ _ (_ ++ [_])
      rw [hd, h3, upd_eq]
      funext u
      unfold upd
      split <;> rfl
theorem fit_many {js : Nat → Job} {S : SS} (O : ∀ w, w < 3 → (js w).Ok) (I : Fit js S) {w : Nat} (hw : w < 3) (h0 : S.steps w = 0) (hv : S.vals w = [[]]) : ∀ k, k ≤ 2 * (js w).n → Fit js (many js w k S)
  | 0, _ => I
  | k + 1, h => fit_go O (fit_many O I hw h0 hv k (by omega)) hw (by rw [(many_is h0 hv k).1, upd_eq]; omega)
def serS (js : Nat → Job) (S : SS) (o : List Nat) : SS := o.foldl (fun S w => many js w (2 * (js w).n) S) S
theorem serS_snoc (js : Nat → Job) (S : SS) (o : List Nat) (w : Nat) : serS js S (o ++ [w]) = many js w (2 * (js w).n) (serS js S o) := by
  unfold serS
  rw [List.foldl_append]
  rfl
theorem rev_ind {α : Type} {P : List α → Prop} (o : List α) (nil : P []) (snoc : ∀ o w, P o → P (o ++ [w])) : P o := by
  have : ∀ n (o : List α), o.length = n → P o := by
    intro n
    induction n with
    | zero => intro o h; rw [List.length_eq_zero_iff.mp h]; exact nil
    | succ n ih =>
      intro o h
      rcases List.eq_nil_or_concat o with q | ⟨b, x, q⟩
      · rw [q]; exact nil
      · rw [List.concat_eq_append] at q
        rw [q] at h ⊢
        exact snoc b x (ih b (by simpa using h))
  exact this _ o rfl
theorem serS_is {js : Nat → Job} {t0 : Tb} (O : ∀ w, w < 3 → (js w).Ok) (F0 : Fit js (ini t0)) : ∀ o : List Nat, (∀ w ∈ o, w < 3) → o.Nodup →
    Fit js (serS js (ini t0) o) ∧ (serS js (ini t0) o).tab = ser js t0 o ∧ (∀ w, w ∉ o → (serS js (ini t0) o).steps w = 0 ∧ (serS js (ini t0) o).vals w = [[]]) ∧
      ∀ w, w ∈ o → (serS js (ini t0) o).vals w = (sj (js w) (2 * (js w).n) (ser js t0 (bef o w))).2 := by
  intro o
  induction o using rev_ind with
  | nil => exact fun _ _ => ⟨F0, rfl, fun w _ => ⟨rfl, rfl⟩, fun w h => by cases h⟩
  | snoc o w ih =>
    intro h1 h2
    have hn := List.nodup_append.mp h2
    have hno : w ∉ o := fun q => hn.2.2 w q w (List.mem_singleton.mpr rfl) rfl
    obtain ⟨F, ht, hz, hd⟩ := ih (fun u hu => h1 u (List.mem_append_left _ hu)) hn.1
    have hw : w < 3 := h1 w (by simp)
    obtain ⟨z1, z2⟩ := hz w hno
    obtain ⟨m1, m2, m3⟩ := many_is (js := js) z1 z2 (2 * (js w).n)
    rw [serS_snoc]
    refine ⟨fit_many O F hw z1 z2 _ (Nat.le_refl _), ?_, ?_, ?_⟩
    · rw [m2, ht, ser_snoc]
    · intro u hu
      have hu2 : u ∉ o := fun q => hu (List.mem_append_left _ q)
      have e : u ≠ w := fun q => hu (by rw [q]; simp)
      rw [m1, m3, upd_ne _ _ e, upd_ne _ _ e]
      exact hz u hu2
    · intro u hu
      rw [m3]
      by_cases e : u = w
      · subst e
        rw [upd_eq, bef_at hno, ht]
      · rw [upd_ne _ _ e]
        rcases List.mem_append.mp hu with q | q
        · rw [bef_mem q]; exact hd u q
        · exact absurd (List.mem_singleton.mp q) e
/-- the end: all is done, and as in the serial run -/
theorem at_end {js : Nat → Job} {t0 : Tb} {S : SS} (I : Inv js t0 S) (O : ∀ w, w < 3 → (js w).Ok) (F0 : Fit js (ini t0)) (h : total S = full js) :
    S.ord.Perm [0, 1, 2] ∧ (∀ i, i < 3 → S.tab i = (serS js (ini t0) S.ord).tab i) ∧ ∀ w, w < 3 → S.vals w = (serS js (ini t0) S.ord).vals w := by
  have h0 := I.bnd 0 (by decide)
  have h1 := I.bnd 1 (by decide)
  have h2 := I.bnd 2 (by decide)
  have hst : ∀ w, w < 3 → S.steps w = 2 * (js w).n := by
    intro w hw
    unfold total full at h
    have : w = 0 ∨ w = 1 ∨ w = 2 := by omega
    rcases this with rfl | rfl | rfl <;> omega
  have hin : ∀ w, w < 3 → w ∈ S.ord := fun w hw => (I.mem w hw).mpr (by rw [hst w hw]; omega)
  obtain ⟨_, s1, _, s3⟩ := serS_is O F0 S.ord I.sub I.nd
  refine ⟨?_, ?_, ?_⟩
  · refine (List.perm_ext_iff_of_nodup I.nd (by decide)).mpr fun a => ⟨fun ha => ?_, fun ha => hin a ?_⟩
    · have := I.sub a ha
      have : a = 0 ∨ a = 1 ∨ a = 2 := by omega
      rcases this with rfl | rfl | rfl <;> simp
    · simp at ha
      omega
  · intro i hi
    rw [s1]
    refine I.tabF i hi ?_
    cases hl : S.lock i with
    | none => rfl
    | some u =>
      obtain ⟨hu, hh⟩ := (I.lock i hi u).mp hl
      rw [hst u hu] at hh
      exact absurd hh holds_done
  · intro w hw
    rw [s3 w (hin w hw), I.vals w hw, hst w hw]
end
section
set_option linter.unusedSectionVars false
def who (tv : List Nat) (k : Nat) : Nat := if k < 12 then tv.getD k 0 else k % 3
def st (js : Nat → Job) (tv : List Nat) (t0 : Tb) : Nat → SS
  | 0 => ini t0
  | k + 1 => turn js (who tv k) (st js tv t0 k)
section
variable {js : Nat → Job} {tv : List Nat} {t0 : Tb} (O : ∀ w, w < 3 → (js w).Ok) (hv : tv.length = 12 ∧ ∀ x ∈ tv, x < 3)
include hv
theorem who_lt (k : Nat) : who tv k < 3 := by
  unfold who
  split
  · rename_i h
    rw [List.getD_eq_getElem?_getD, List.getElem?_eq_getElem (by rw [hv.1]; exact h)]
    exact hv.2 _ (List.getElem_mem _)
  · exact Nat.mod_lt _ (by decide)
include O
theorem st_inv : ∀ k, Inv js t0 (st js tv t0 k)
  | 0 => inv_ini js t0 O
  | k + 1 => inv_turn O (st_inv k) (who_lt hv k)
theorem st_fit (F0 : Fit js (ini t0)) : ∀ k, Fit js (st js tv t0 k)
  | 0 => F0
  | k + 1 => fit_turn O (st_fit F0 k) (who_lt hv k)
omit O hv in
theorem rounds_snoc : ∀ (k : Nat) (S : SS), rounds js (k + 1) S = round js (rounds js k S)
  | 0, _ => rfl
  | k + 1, S => by
    show rounds js (k + 1) (round js S) = _
    rw [rounds_snoc k (round js S)]
    rfl
omit O hv in
theorem st_rounds : ∀ r, st js tv t0 (12 + 3 * r) = rounds js r (st js tv t0 12)
  | 0 => rfl
  | r + 1 => by
    have h0 : who tv (12 + 3 * r) = 0 := by unfold who; rw [if_neg (by omega)]; omega
    have h1 : who tv (12 + 3 * r + 1) = 1 := by unfold who; rw [if_neg (by omega)]; omega
    have h2 : who tv (12 + 3 * r + 2) = 2 := by unfold who; rw [if_neg (by omega)]; omega
    have e : st js tv t0 (12 + 3 * (r + 1)) = turn js (who tv (12 + 3 * r + 2)) (turn js (who tv (12 + 3 * r + 1)) (turn js (who tv (12 + 3 * r)) (st js tv t0 (12 + 3 * r)))) := rfl
    rw [e, h0, h1, h2, st_rounds r, rounds_snoc]
    rfl
theorem st_end : total (st js tv t0 66) = full js := by
  have h := st_rounds (js := js) (tv := tv) (t0 := t0) 18
  rw [show 12 + 3 * 18 = 66 by decide] at h
  rw [h]
  refine (rounds_end O 18 _ (st_inv O hv 12)).2 ?_
  have := full_le O
  omega
end
end
open PySem PySem.W PyProof.Rows PySem.Calls
section
open PySem PySem.W PyProof.Rows
set_option maxRecDepth 100000
set_option maxHeartbeats 8000000
noncomputable abbrev pg := PySem.Challenge.rw_wb0070_01.row.prog
noncomputable abbrev Lz : List Str := looseW hd.view_39 [Str.ofString "_name_disallowed_re", Str.ofString "_value_disallowed_re", Str.ofString "_twin_re_1", Str.ofString "_twin_re_2"]

/-- a call of a def of the text that changes nothing it did not make -/
def PC (w : World) (mean : ExcName → Option Value) (mg mb : Str → Option Value) (d : Nat) (f : Addr) (vs : List Value) (R : Tok → Value) : Prop :=
  ∀ (dp un : Nat) (gd : Option (List Code)) (cn : Str) (cs : Scope) (a : Addr) (ccd : Value) (cl : List (Str × Addr)) (outer : List Env) (A₀ : Around) (base h₀ : Heap) (L : Addr) (m : Str → Option Value)
    (news : List (Addr × Obj)) (s : Shared) (Q E : Value → Shared → Prop),
    Below A₀ base outer h₀ → Fr h₀ L s.heap m → (hd.heap_39 w.params).In h₀ → News h₀ L s.heap news → Top hd.view_39 Lz mean mg mb h₀ → cs.kind = .function → 0 < s.toks →
    dp + d < recursionLimit → un + 8 * d < cLine →
    (∀ (t : Tok) (h' : Heap) (tk' : Nat), Fr h₀ L h' m → News h₀ L h' news → 0 < tk' → Q (R t) { s with heap := h', toks := tk' }) →
      wpAny (model pg w) (ktrTop dp un gd cn cs L a ccd cl outer) (call (.ref f) vs) Q E s

theorem gen_toks {α : Type} {M : Model} {A : Around} {t : Sem α} {Q : α → Shared → Prop} {E : Value → Shared → Prop} {h : Heap} {g : Array GenState} {d : Drawn} {os : OsState} {tk : Nat} (hp : 0 < tk)
    (H : ∀ tk', 0 < tk' → wpAny M A t Q E ⟨h, g, d, tk', os⟩) : wpAny M A t Q E ⟨h, g, d, tk, os⟩ := H tk hp

theorem in_no {prog : Program} {w : World} {A : Around} {x y : Str} {t u : Tok} {c : Nat} {Q : Value → Shared → Prop} {E : Value → Shared → Prop} {s : Shared} (hy : y = ⟨#[c]⟩) (hx : c ∉ x.cps.toList) (h : Q (.bool false) s) :
    wpAny (model prog w) A (compareOp .In (.str y u) (.str x t)) Q E s := by
  subst hy
  refine in_str ?_
  rw [occ_free hx]
  exact h

theorem plain_rep {x y z : Str} {c : Nat} (hy : y = ⟨#[c]⟩) (hx : Plain x) (hz : PlainL z.cps.toList) : Plain (Txt.replace x y z) := by
  subst hy
  intro k hk
  rw [replace_subst] at hk
  obtain ⟨q, hq, hk⟩ := List.mem_flatMap.mp hk
  split at hk
  · exact hz k hk
  · simp at hk
    rw [hk]; exact hx q hq
theorem plain_no {x : Str} {c : Nat} (hx : Plain x) (hc : ¬ (32 ≤ c ∧ c < 127 ∧ c ≠ 62)) : c ∉ x.cps.toList := fun h => hc (hx c h)
theorem rep_len {x y z : Str} {c b n : Nat} (hy : y = ⟨#[c]⟩) (hb : 1 ≤ b) (hz : z.length ≤ b) (hx : x.length ≤ n) : (Txt.replace x y z).length ≤ b * n := by
  subst hy
  have e : (Txt.replace x ⟨#[c]⟩ z).length = ((Txt.replace x ⟨#[c]⟩ z).cps.toList).length := by
    show (Txt.replace x ⟨#[c]⟩ z).cps.size = _
    rw [Array.length_toList]
  rw [e, replace_subst]
  have h1 := flat_len (f := fun k => if k = c then z.cps.toList else [k]) (b := b) (fun k => by
    split
    · rw [Array.length_toList]; exact hz
    · exact hb) x.cps.toList
  have h2 : x.cps.toList.length = x.length := Array.length_toList
  rw [h2] at h1
  exact Nat.le_trans h1 (Nat.mul_le_mul_left _ hx)

theorem fin_rep {x y z : Str} {c : Nat} (hy : y = ⟨#[c]⟩) (h : (Builtin.Str.occurrences x y 0 x.length 1).isEmpty = true) : Txt.replace x y z = x := by
  subst hy
  exact replace_none (none_of h)

theorem rep_rule {prog : Program} {w : World} {A : Around} {E : Value → Shared → Prop} {s : Shared} {x y z : Str} {t : Tok} {u : Nat} {Q : Value → Shared → Prop} (n : Nat) (hn : n ≤ 1048576) (hu : 0 < u) (hs : 0 < s.toks) (hyz : (y == z) = false) (hz : z.length ≤ 14) (hx : x.length ≤ n)
    (hq : ∀ t' k, 0 < k → Q (.str (Txt.replace x y z) t') { s with toks := k }) : wpAny (model prog w) A (call (.builtin "str.replace") [.str x t, .str y u, .str z (u + 1)]) Q E s :=
  wpAny_with_toks (n := 1) hs (SC.replaceW (Nat.ne_of_gt hu) (Nat.succ_ne_zero _) (Nat.ne_of_lt (Nat.lt_succ_self _)) hyz (Nat.le_trans hx hn) hz fun t' k hk => hq t' k hk)

theorem s38 : Str.ofString "&" = ⟨#[38]⟩ := by decide +kernel
theorem s60 : Str.ofString "<" = ⟨#[60]⟩ := by decide +kernel
theorem s34 : Str.ofString "\"" = ⟨#[34]⟩ := by decide +kernel
theorem s62 : Str.ofString ">" = ⟨#[62]⟩ := by decide +kernel
theorem s13 : Str.ofString "\r" = ⟨#[13]⟩ := by decide +kernel
theorem s10 : Str.ofString "\n" = ⟨#[10]⟩ := by decide +kernel
theorem s9 : Str.ofString "\t" = ⟨#[9]⟩ := by decide +kernel
theorem samp : Str.ofString "&amp;" = ⟨#[38, 97, 109, 112, 59]⟩ := by decide +kernel
theorem slt : Str.ofString "&lt;" = ⟨#[38, 108, 116, 59]⟩ := by decide +kernel
theorem squot : Str.ofString "&quot;" = ⟨#[38, 113, 117, 111, 116, 59]⟩ := by decide +kernel

theorem pamp : PlainL (Str.ofString "&amp;").cps.toList := by rw [samp]; unfold PlainL; decide
theorem plt : PlainL (Str.ofString "&lt;").cps.toList := by rw [slt]; unfold PlainL; decide
theorem pquot : PlainL (Str.ofString "&quot;").cps.toList := by rw [squot]; unfold PlainL; decide
theorem fin38 {x z : Str} (h : (Builtin.Str.occurrences x (Str.ofString "&") 0 x.length 1).isEmpty = true) : Txt.replace x (Str.ofString "&") z = x := fin_rep s38 h
theorem fin60 {x z : Str} (h : (Builtin.Str.occurrences x (Str.ofString "<") 0 x.length 1).isEmpty = true) : Txt.replace x (Str.ofString "<") z = x := fin_rep s60 h
theorem fin34 {x z : Str} (h : (Builtin.Str.occurrences x (Str.ofString "\"") 0 x.length 1).isEmpty = true) : Txt.replace x (Str.ofString "\"") z = x := fin_rep s34 h
theorem escC_def (x : Str) : escC x = Txt.replace (Txt.replace x (Str.ofString "&") (Str.ofString "&amp;")) (Str.ofString "<") (Str.ofString "&lt;") := by rw [s38, samp, s60, slt]; rfl
theorem escA_def (x : Str) : escA x = Txt.replace (escC x) (Str.ofString "\"") (Str.ofString "&quot;") := by rw [s34, squot]; rfl

theorem lamp {x : Str} {n : Nat} (hx : x.length ≤ n) : (Txt.replace x (Str.ofString "&") (Str.ofString "&amp;")).length ≤ 5 * n := rep_len s38 (by decide) (by decide +kernel) hx
theorem llt {x : Str} {n : Nat} (hx : x.length ≤ n) : (Txt.replace x (Str.ofString "<") (Str.ofString "&lt;")).length ≤ 5 * n := rep_len s60 (by decide) (by decide +kernel) hx
theorem lquot {x : Str} {n : Nat} (hx : x.length ≤ n) : (Txt.replace x (Str.ofString "\"") (Str.ofString "&quot;")).length ≤ 6 * n := rep_len s34 (by decide) (by decide +kernel) hx
def Stop (P : Prop) : Prop := P
theorem stop_in {P : Prop} (h : Stop P) : P := h
local macro_rules | `(tactic| walk_at "execs cons") => `(tactic| (refine gen_toks (by first | assumption | omega) ?_; intro tk' htk'; (with_reducible refine wpAny_execs_cons ?_); try dsimp only))
local macro_rules | `(tactic| walk_at "execs nil") => `(tactic| (refine gen_toks (by first | assumption | omega) ?_; intro tk' htk'; (with_reducible refine wpAny_execs_nil ?_); try dsimp only))
local macro_rules | `(tactic| walk_at "plain") => `(tactic| first | assumption | (with_reducible refine plain_rep s38 ?_ pamp; walk_at "plain") | (with_reducible refine plain_rep s60 ?_ plt; walk_at "plain") | (with_reducible refine plain_rep s34 ?_ pquot; walk_at "plain"))
local macro_rules | `(tactic| walk_at "compareOp In str str") => `(tactic| (first
   | (refine' in_no s62 ?a ?_; (case a => refine' plain_no ?b ?c; (case b => walk_at "plain"); (case c => decide)))
   | (refine' in_no s13 ?a ?_; (case a => refine' plain_no ?b ?c; (case b => walk_at "plain"); (case c => decide)))
   | (refine' in_no s10 ?a ?_; (case a => refine' plain_no ?b ?c; (case b => walk_at "plain"); (case c => decide)))
   | (refine' in_no s9 ?a ?_; (case a => refine' plain_no ?b ?c; (case b => walk_at "plain"); (case c => decide)))))
local macro_rules | `(tactic| walk_at "call builtin:str.replace") => `(tactic| (with_reducible refine stop_in ?_))

/-- both ways of an «if» behind which the text is replaced -/
def TextAt (y : Str) (s : Shared) (h₀ : Heap) (L : Addr) (m : Str → Option Value) (news : List (Addr × Obj)) (f : Flow) (s' : Shared) : Prop :=
  f = .next ∧ ∃ t h' k, s' = { s with heap := h', toks := k } ∧ 0 < k ∧ Fr h₀ L h' (fun z => if z = Str.ofString "text" then some (.str y t) else m z) ∧ News h₀ L h' news
theorem join_text {prog : Program} {w : World} {A : Around} {E : Value → Shared → Prop} {s : Shared} {h₀ : Heap} {L : Addr} {m : Str → Option Value} {news : List (Addr × Obj)} {t : Sem Flow} {Q : Flow → Shared → Prop}
   (_F : Fr h₀ L s.heap m) (_N : News h₀ L s.heap news) (y : Str) (h1 : wpAny (model prog w) A t (TextAt y s h₀ L m news) E s)
   (h2 : ∀ tk h' k, 0 < k → Fr h₀ L h' (fun z => if z = Str.ofString "text" then some (.str y tk) else m z) → News h₀ L h' news → Q .next { s with heap := h', toks := k }) : wpAny (model prog w) A t Q E s := by
  refine wpAny_mono h1 (fun f s' h => ?_) fun _ _ e => e
  obtain ⟨rfl, tk, h', k, rfl, hk, F, N⟩ := h
  exact h2 tk h' k hk F N
theorem fr_same {h₀ h : Heap} {L : Addr} {m : Str → Option Value} {x : Str} {v : Value} (F : Fr h₀ L h m) (hm : m x = some v) : Fr h₀ L h (fun z => if z = x then some v else m z) := by
  have e : (fun z => if z = x then some v else m z) = m := by
    funext z
    by_cases q : z = x
    · rw [if_pos q, q, hm]
    · rw [if_neg q]
  rw [e]
  exact F
theorem text_yes {y : Str} {s : Shared} {h₀ : Heap} {L : Addr} {m : Str → Option Value} {news : List (Addr × Obj)} {t : Tok} {h' : Heap} {k : Nat} (hk : 0 < k) (F : Fr h₀ L h' (fun z => if z = Str.ofString "text" then some (.str y t) else m z)) (N : News h₀ L h' news) :
   TextAt y s h₀ L m news .next { s with heap := h', toks := k } := ⟨rfl, t, h', k, rfl, hk, F, N⟩
theorem text_no {x y : Str} {s : Shared} {h₀ : Heap} {L : Addr} {m : Str → Option Value} {news : List (Addr × Obj)} {t : Tok} {h' : Heap} {k : Nat} (hk : 0 < k) (F : Fr h₀ L h' m) (N : News h₀ L h' news) (hm : m (Str.ofString "text") = some (.str x t)) (e : y = x) :
   TextAt y s h₀ L m news .next { s with heap := h', toks := k } := ⟨rfl, t, h', k, rfl, hk, fr_same F (by rw [e]; exact hm), N⟩
local macro_rules | `(tactic| walk_at "exec If") => `(tactic| ((fail_if_success (with_reducible show wpAny _ _ _ (TextAt _ _ _ _ _ _) _ _)); (with_reducible show wpAny _ _ (exec (Stmt.If _ _ [] _) _) _ _ _); (with_reducible refine stop_in ?_)))
theorem cb_val {x y : Str} {s : Shared} {h₀ L m news} {Q : Value → Shared → Prop}
   (hret : ∀ (t : Tok) (h' : Heap) (tk' : Nat), Fr h₀ L h' m → News h₀ L h' news → 0 < tk' → Q (.str x t) { s with heap := h', toks := tk' }) (e : y = x) :
   ∀ (t : Tok) (h' : Heap) (tk' : Nat), Fr h₀ L h' m → News h₀ L h' news → 0 < tk' → Q (.str y t) { s with heap := h', toks := tk' } := by subst e; exact hret
theorem c_cdata (w : World) (mean : ExcName → Option Value) (mg mb : Str → Option Value) (x : Str) (t : Tok) (hx : Plain x) (hl : x.length ≤ 32768) :
   PC w mean mg mb 1 213 [.str x t] (fun t => .str (escC x) t) := by
  unfold PC
  intro dp un gd cn cs a ccd cl outer A₀ base h₀ L m news s Q E B F X N T hk htk hdp hun hret
  have l0 : x.length ≤ 1048576 := Nat.le_trans hl (by decide)
  have l1 : (Txt.replace x (Str.ofString "&") (Str.ofString "&amp;")).length ≤ 1048576 := Nat.le_trans (lamp hl) (by decide)
  have l3 : (Txt.replace (Txt.replace x (Str.ofString "&") (Str.ofString "&amp;")) (Str.ofString "<") (Str.ofString "&lt;")).length ≤ 1048576 := Nat.le_trans (llt (lamp hl)) (by decide)
  refine wpAny_with_toks (n := 1) htk ?_
  refine wpAny_call ?_
  k_dflt cell_enter
  k_steps
  unfold Stop
  rename Fr _ _ _ _ => F9
  rename News _ _ _ _ => N9
  refine join_text F9 N9 (Txt.replace (x) (Str.ofString "&") (Str.ofString "&amp;")) ?_ ?_
  · (k_steps; repeat' (unfold Stop; ((refine' rep_rule 1048576 ?hn ?hu ?hs ?hyz ?hz ?hx ?_; (case hx => with_reducible assumption); (case hn => decide); (case hu => first | assumption | omega); (case hs => first | exact Nat.succ_pos _ | assumption | omega); (case hyz => decide +kernel); (case hz => decide +kernel)); intro _ k hk); k_steps))
    all_goals
      rename Fr _ _ _ _ => F6
      rename News _ _ _ _ => N6
      first
      | exact text_no (by assumption) F6 N6 (by rfl) (fin38 (by assumption))
      | exact text_yes (by assumption) F6 N6
  intro tq0 hq0 kq0 hkq0 Fq0 Nq0
  clear F9 N9
  try dsimp only
  try k_sweep
  k_steps
  unfold Stop
  rename Fr _ _ _ _ => F9
  rename News _ _ _ _ => N9
  refine join_text F9 N9 (Txt.replace (Txt.replace (x) (Str.ofString "&") (Str.ofString "&amp;")) (Str.ofString "<") (Str.ofString "&lt;")) ?_ ?_
  · (k_steps; repeat' (unfold Stop; ((refine' rep_rule 1048576 ?hn ?hu ?hs ?hyz ?hz ?hx ?_; (case hx => with_reducible assumption); (case hn => decide); (case hu => first | assumption | omega); (case hs => first | exact Nat.succ_pos _ | assumption | omega); (case hyz => decide +kernel); (case hz => decide +kernel)); intro _ k hk); k_steps))
    all_goals
      rename Fr _ _ _ _ => F6
      rename News _ _ _ _ => N6
      first
      | exact text_no (by assumption) F6 N6 (by rfl) (fin60 (by assumption))
      | exact text_yes (by assumption) F6 N6
  intro tq1 hq1 kq1 hkq1 Fq1 Nq1
  clear F9 N9
  try dsimp only
  try k_sweep
  k_steps
  unfold Stop
  rename Fr _ _ _ _ => F9
  rename News _ _ _ _ => N9
  refine join_text F9 N9 (Txt.replace (Txt.replace (x) (Str.ofString "&") (Str.ofString "&amp;")) (Str.ofString "<") (Str.ofString "&lt;")) ?_ ?_
  · (k_steps; repeat' (unfold Stop; ((refine' rep_rule 1048576 ?hn ?hu ?hs ?hyz ?hz ?hx ?_; (case hx => with_reducible assumption); (case hn => decide); (case hu => first | assumption | omega); (case hs => first | exact Nat.succ_pos _ | assumption | omega); (case hyz => decide +kernel); (case hz => decide +kernel)); intro _ k hk); k_steps))
    · rename Fr _ _ _ _ => F6
      rename News _ _ _ _ => N6
      exact text_no (by assumption) F6 N6 (by rfl) rfl
  intro tq2 hq2 kq2 hkq2 Fq2 Nq2
  clear F9 N9
  try dsimp only
  try k_sweep
  k_steps
  refine (cb_val hret ?_) _ _ _ (by k_asm) (by k_asm) (by assumption)
  rw [escC_def]
theorem c_attrib (w : World) (mean : ExcName → Option Value) (mg mb : Str → Option Value) (x : Str) (t : Tok) (hx : Plain x) (hl : x.length ≤ 32768) :
   PC w mean mg mb 1 220 [.str x t] (fun t => .str (escA x) t) := by
  unfold PC
  intro dp un gd cn cs a ccd cl outer A₀ base h₀ L m news s Q E B F X N T hk htk hdp hun hret
  have l0 : x.length ≤ 1048576 := Nat.le_trans hl (by decide)
  have l1 : (Txt.replace x (Str.ofString "&") (Str.ofString "&amp;")).length ≤ 1048576 := Nat.le_trans (lamp hl) (by decide)
  have l3 : (Txt.replace (Txt.replace x (Str.ofString "&") (Str.ofString "&amp;")) (Str.ofString "<") (Str.ofString "&lt;")).length ≤ 1048576 := Nat.le_trans (llt (lamp hl)) (by decide)
  refine wpAny_with_toks (n := 1) htk ?_
  refine wpAny_call ?_
  k_dflt cell_enter
  k_steps
  unfold Stop
  rename Fr _ _ _ _ => F9
  rename News _ _ _ _ => N9
  refine join_text F9 N9 (Txt.replace (x) (Str.ofString "&") (Str.ofString "&amp;")) ?_ ?_
  · (k_steps; repeat' (unfold Stop; ((refine' rep_rule 1048576 ?hn ?hu ?hs ?hyz ?hz ?hx ?_; (case hx => with_reducible assumption); (case hn => decide); (case hu => first | assumption | omega); (case hs => first | exact Nat.succ_pos _ | assumption | omega); (case hyz => decide +kernel); (case hz => decide +kernel)); intro _ k hk); k_steps))
    all_goals
      rename Fr _ _ _ _ => F6
      rename News _ _ _ _ => N6
      first
      | exact text_no (by assumption) F6 N6 (by rfl) (fin38 (by assumption))
      | exact text_yes (by assumption) F6 N6
  intro tq0 hq0 kq0 hkq0 Fq0 Nq0
  clear F9 N9
  try dsimp only
  try k_sweep
  k_steps
  unfold Stop
  rename Fr _ _ _ _ => F9
  rename News _ _ _ _ => N9
  refine join_text F9 N9 (Txt.replace (Txt.replace (x) (Str.ofString "&") (Str.ofString "&amp;")) (Str.ofString "<") (Str.ofString "&lt;")) ?_ ?_
  · (k_steps; repeat' (unfold Stop; ((refine' rep_rule 1048576 ?hn ?hu ?hs ?hyz ?hz ?hx ?_; (case hx => with_reducible assumption); (case hn => decide); (case hu => first | assumption | omega); (case hs => first | exact Nat.succ_pos _ | assumption | omega); (case hyz => decide +kernel); (case hz => decide +kernel)); intro _ k hk); k_steps))
    all_goals
      rename Fr _ _ _ _ => F6
      rename News _ _ _ _ => N6
      first
      | exact text_no (by assumption) F6 N6 (by rfl) (fin60 (by assumption))
      | exact text_yes (by assumption) F6 N6
  intro tq1 hq1 kq1 hkq1 Fq1 Nq1
  clear F9 N9
  try dsimp only
  try k_sweep
  k_steps
  unfold Stop
  rename Fr _ _ _ _ => F9
  rename News _ _ _ _ => N9
  refine join_text F9 N9 (Txt.replace (Txt.replace (x) (Str.ofString "&") (Str.ofString "&amp;")) (Str.ofString "<") (Str.ofString "&lt;")) ?_ ?_
  · (k_steps; repeat' (unfold Stop; ((refine' rep_rule 1048576 ?hn ?hu ?hs ?hyz ?hz ?hx ?_; (case hx => with_reducible assumption); (case hn => decide); (case hu => first | assumption | omega); (case hs => first | exact Nat.succ_pos _ | assumption | omega); (case hyz => decide +kernel); (case hz => decide +kernel)); intro _ k hk); k_steps))
    · rename Fr _ _ _ _ => F6
      rename News _ _ _ _ => N6
      exact text_no (by assumption) F6 N6 (by rfl) rfl
  intro tq2 hq2 kq2 hkq2 Fq2 Nq2
  clear F9 N9
  try dsimp only
  try k_sweep
  k_steps
  unfold Stop
  rename Fr _ _ _ _ => F9
  rename News _ _ _ _ => N9
  refine join_text F9 N9 (Txt.replace (Txt.replace (Txt.replace (x) (Str.ofString "&") (Str.ofString "&amp;")) (Str.ofString "<") (Str.ofString "&lt;")) (Str.ofString "\"") (Str.ofString "&quot;")) ?_ ?_
  · (k_steps; repeat' (unfold Stop; ((refine' rep_rule 1048576 ?hn ?hu ?hs ?hyz ?hz ?hx ?_; (case hx => with_reducible assumption); (case hn => decide); (case hu => first | assumption | omega); (case hs => first | exact Nat.succ_pos _ | assumption | omega); (case hyz => decide +kernel); (case hz => decide +kernel)); intro _ k hk); k_steps))
    all_goals
      rename Fr _ _ _ _ => F6
      rename News _ _ _ _ => N6
      first
      | exact text_no (by assumption) F6 N6 (by rfl) (fin34 (by assumption))
      | exact text_yes (by assumption) F6 N6
  intro tq3 hq3 kq3 hkq3 Fq3 Nq3
  clear F9 N9
  try dsimp only
  try k_sweep
  k_steps
  unfold Stop
  rename Fr _ _ _ _ => F9
  rename News _ _ _ _ => N9
  refine join_text F9 N9 (Txt.replace (Txt.replace (Txt.replace (x) (Str.ofString "&") (Str.ofString "&amp;")) (Str.ofString "<") (Str.ofString "&lt;")) (Str.ofString "\"") (Str.ofString "&quot;")) ?_ ?_
  · (k_steps; repeat' (unfold Stop; ((refine' rep_rule 1048576 ?hn ?hu ?hs ?hyz ?hz ?hx ?_; (case hx => with_reducible assumption); (case hn => decide); (case hu => first | assumption | omega); (case hs => first | exact Nat.succ_pos _ | assumption | omega); (case hyz => decide +kernel); (case hz => decide +kernel)); intro _ k hk); k_steps))
    · rename Fr _ _ _ _ => F6
      rename News _ _ _ _ => N6
      exact text_no (by assumption) F6 N6 (by rfl) rfl
  intro tq4 hq4 kq4 hkq4 Fq4 Nq4
  clear F9 N9
  try dsimp only
  try k_sweep
  k_steps
  unfold Stop
  rename Fr _ _ _ _ => F9
  rename News _ _ _ _ => N9
  refine join_text F9 N9 (Txt.replace (Txt.replace (Txt.replace (x) (Str.ofString "&") (Str.ofString "&amp;")) (Str.ofString "<") (Str.ofString "&lt;")) (Str.ofString "\"") (Str.ofString "&quot;")) ?_ ?_
  · (k_steps; repeat' (unfold Stop; ((refine' rep_rule 1048576 ?hn ?hu ?hs ?hyz ?hz ?hx ?_; (case hx => with_reducible assumption); (case hn => decide); (case hu => first | assumption | omega); (case hs => first | exact Nat.succ_pos _ | assumption | omega); (case hyz => decide +kernel); (case hz => decide +kernel)); intro _ k hk); k_steps))
    · rename Fr _ _ _ _ => F6
      rename News _ _ _ _ => N6
      exact text_no (by assumption) F6 N6 (by rfl) rfl
  intro tq5 hq5 kq5 hkq5 Fq5 Nq5
  clear F9 N9
  try dsimp only
  try k_sweep
  k_steps
  unfold Stop
  rename Fr _ _ _ _ => F9
  rename News _ _ _ _ => N9
  refine join_text F9 N9 (Txt.replace (Txt.replace (Txt.replace (x) (Str.ofString "&") (Str.ofString "&amp;")) (Str.ofString "<") (Str.ofString "&lt;")) (Str.ofString "\"") (Str.ofString "&quot;")) ?_ ?_
  · (k_steps; repeat' (unfold Stop; ((refine' rep_rule 1048576 ?hn ?hu ?hs ?hyz ?hz ?hx ?_; (case hx => with_reducible assumption); (case hn => decide); (case hu => first | assumption | omega); (case hs => first | exact Nat.succ_pos _ | assumption | omega); (case hyz => decide +kernel); (case hz => decide +kernel)); intro _ k hk); k_steps))
    · rename Fr _ _ _ _ => F6
      rename News _ _ _ _ => N6
      exact text_no (by assumption) F6 N6 (by rfl) rfl
  intro tq6 hq6 kq6 hkq6 Fq6 Nq6
  clear F9 N9
  try dsimp only
  try k_sweep
  k_steps
  refine (cb_val hret ?_) _ _ _ (by k_asm) (by k_asm) (by assumption)
  rw [escA_def, escC_def]
end
section
open PySem PySem.W PyProof.Rows
set_option maxRecDepth 100000
set_option maxHeartbeats 8000000
def apB (n : Nat) : Array UInt8 := ((ap n).map UInt8.ofNat).toArray

local macro_rules | `(tactic| walk_at "exec While Name cons nil") => `(tactic| (with_reducible refine stop_in ?_))

theorem fmod16 (k : Nat) : (k : Int).fmod 16 = ((k % 16 : Nat) : Int) := by
  rw [Int.fmod_eq_emod_of_nonneg _ (by decide)]
  omega
theorem fdiv16 (k : Nat) : (k : Int).fdiv 16 = ((k / 16 : Nat) : Int) := by
  rw [Int.fdiv_eq_ediv_of_nonneg _ (by decide)]
  omega
abbrev AP16 : Array UInt8 := #[65, 66, 67, 68, 69, 70, 71, 72, 73, 74, 75, 76, 77, 78, 79, 80]
theorem ap_slice : ∀ q : Nat, q < 16 → KBy.whole #[65, 66, 67, 68, 69, 70, 71, 72, 73, 74, 75, 76, 77, 78, 79, 80] (some (q : Int)) (some ((q : Int) + 1)) = false ∧
   (KBy.picked #[65, 66, 67, 68, 69, 70, 71, 72, 73, 74, 75, 76, 77, 78, 79, 80] (some (q : Int)) (some ((q : Int) + 1))).size ≤ 16777216 ∧
   KBy.picked #[65, 66, 67, 68, 69, 70, 71, 72, 73, 74, 75, 76, 77, 78, 79, 80] (some (q : Int)) (some ((q : Int) + 1)) = ([UInt8.ofNat (65 + q)]).toArray := by decide +kernel
theorem fr_pins {h₀ h : Heap} {L : Addr} {m : Str → Option Value} (F : Fr h₀ L h m) (l : List (Str × Value)) (e : ∀ p ∈ l, m p.1 = some p.2) : Fr h₀ L h (kstB m l) := by
  have : kstB m l = m := funext fun z => kstB_eq e fun _ => rfl
  rw [this]; exact F
theorem all1 {α : Type} {P : α → Prop} {a : α} {l : List α} (h : P a) (hr : ∀ p ∈ l, P p) : ∀ p ∈ a :: l, P p := List.forall_mem_cons.mpr ⟨h, hr⟩
theorem all0 {α : Type} {P : α → Prop} : ∀ p ∈ ([] : List α), P p := fun _ h => nomatch h
local macro_rules | `(tactic| walk_at "binaryOp Add bytes bytes") => `(tactic| (with_reducible refine stop_in ?_))
theorem c_int2ap (w : World) (mean : ExcName → Option Value) (mg mb : Str → Option Value) (n : Nat) (t : Tok) (hn : n < 16 ^ 6) :
   PC w mean mg mb 1 182 [.int n t] (fun t => .bytes (apB n) t) := by
  unfold PC
  intro dp un gd cn cs a ccd cl outer A₀ base h₀ L m news s Q E B F X N T hk htk hdp hun hret
  refine wpAny_with_toks (n := 1) htk ?_
  refine wpAny_call ?_
  k_dflt cell_enter
  k_steps
  unfold Stop
  rename Fr _ _ _ _ => F1
  rename News _ _ _ _ => N1
  have en : (if (n : Int) < 0 then -(n : Int) else n) = n := by rw [if_neg (by omega)]
  rw [en] at F1
  refine While_inv (n₀ := n) (fun k m₁ nx => nx = news ∧ ∃ (b : List Nat) (tb tn tA : Tok), ap n = ap k ++ b ∧ k ≤ n ∧ m₁ (Str.ofString "num") = some (.int k tn) ∧ m₁ (Str.ofString "val") = some (.bytes (b.map UInt8.ofNat).toArray tb) ∧
     m₁ (Str.ofString "AP") = some (.bytes #[65, 66, 67, 68, 69, 70, 71, 72, 73, 74, 75, 76, 77, 78, 79, 80] tA)) F1 N1 ⟨rfl, [], _, _, _, (List.append_nil _).symm, Nat.le_refl _, by rfl, by rfl, by rfl⟩ ?_
  rintro k m₁ nx h₁ tk₁ F2 N2 ⟨rfl, b, tb, tn, tA, hb, hkn, e1, e2, e3⟩
  replace F2 := fr_pins F2 [(_, _), (_, _), (_, _)] (all1 e1 (all1 e2 (all1 e3 all0)))
  dsimp only [kstB] at F2
  clear F1 N1
  show wpAny _ _ _ _ _ _
  k_fold
  k_steps
  · rename Fr _ _ _ _ => F4
    rename News _ _ _ _ => N4
    rename (¬ (k : Int) = 0) => hk0
    rw [fmod16] at F4 ⊢
    obtain ⟨p1, p2, p3⟩ := ap_slice (k % 16) (Nat.mod_lt _ (by decide))
    have hbl : b.length ≤ 6 := by
      have h1 := ap_len 6 n hn
      rw [hb, List.length_append] at h1
      omega
    refine KBy.slice_N (s := ⟨_, _, _, _, _⟩) F4 N4 (by constructor) (by constructor) p1 p2 ?_
    rw [p3]
    intro h5 t5 tk5 F5 N5
    clear F4 N4
    dsimp only
    k_steps
    unfold Stop
    refine KBy.add_bytes ?_ ?_
    · simp only [List.size_toArray, List.length_map]
      show 1 + b.length ≤ _
      omega
    intro t6 tk6
    have ea : #[UInt8.ofNat (65 + k % 16)] ++ (List.map UInt8.ofNat b).toArray = (List.map UInt8.ofNat ((65 + k % 16) :: b)).toArray := by simp
    rw [ea]
    k_steps
    rename Fr _ _ _ _ => F6
    rename News _ _ _ _ => N6
    rw [fdiv16] at F6
    have hk1 : 0 < k := by omega
    have hap : ap k = ap (k / 16) ++ [65 + k % 16] := by
      obtain ⟨j, rfl⟩ : ∃ j, k = j + 1 := ⟨k - 1, by omega⟩
      rw [ap]
    refine WhileStep.intro F6 (cb_drop N6 (fun p hp => .tail _ hp)) (n' := k / 16) (by omega) ⟨rfl, (65 + k % 16) :: b, _, _, _, ?_, by omega, by rfl, by rfl, by rfl⟩
    rw [hb, hap, List.append_assoc]
    rfl
  · rename ((k : Int) = 0) => hk0
    have : k = 0 := by omega
    subst this
    have hb' : (List.map UInt8.ofNat b).toArray = apB n := by
      unfold apB
      rw [hb]
      have e : ap 0 = [] := by unfold ap; rfl
      rw [e]; rfl
    rw [hb']
    exact hret _ _ _ (by k_asm) (by k_asm) (by assumption)
end
section
open PySem PySem.W PyProof.Rows PySem.Calls
theorem room_d {dp a b r : Nat} (h : dp + a < r) (hab : b + 1 ≤ a) : dp + 1 + b < r := by omega
theorem room_u {un c d a r : Nat} (h : un + 8 * a < r) (hc : c + 8 * d ≤ 8 * a) : un + c + 8 * d < r := by omega
theorem nn0 (n : Nat) : (0 : Int) ≤ (n : Int) := Int.natCast_nonneg n
theorem nn3 {n : Nat} (h : n < 3) : (n : Int) < 2 ^ 63 := by omega
theorem nn6 {s n : Nat} (h : s < 2 * n) (h3 : n ≤ 3) : (s : Int) < 2 ^ 63 := by omega
end
local macro_rules | `(tactic| walk_at "tpos") => `(tactic| first | assumption | exact Nat.succ_pos _ | omega)
local macro_rules | `(tactic| walk_at "execs cons") => `(tactic| (refine gen_toks (by first | assumption | omega) ?_; intro tk' htk'; (with_reducible refine wpAny_execs_cons ?_); try dsimp only))
local macro_rules | `(tactic| walk_at "execs nil") => `(tactic| (refine gen_toks (by first | assumption | omega) ?_; intro tk' htk'; (with_reducible refine wpAny_execs_nil ?_); try dsimp only))
local macro_rules | `(tactic| walk_at "side") => `(tactic| first | with_reducible assumption | omega | decide)
local macro_rules | `(tactic| walk_at "ctr") => `(tactic| (((case B => k_asm); (case F => k_asm); (case X => k_asm); (case N => k_asm); (case T => k_asm); (case hk => first | exact rfl | assumption); (case htk => walk_at "tpos"); (case hdp => first | exact room_d (by assumption) (by decide) | ktr_room); (case hun => first | exact room_u (by assumption) (by decide) | ktr_units); k_whole); intro t' h' tk' F' N' htk'; (try dsimp only); (try k_sweep)))
local macro_rules | `(tactic| walk_at "call ref") => `(tactic| (k_here; (with_reducible show wpAny _ _ (call (Value.ref _) _) _ _ _); (with_reducible refine stop_in ?_)))
section
open PySem PySem.W PyProof.Rows
set_option maxRecDepth 100000
open PySem.Sre PySem.Builtin.Re

theorem runFor_done (n : Nat) (m : M) (h : m.outcome.isSome = true) : M.runFor n m = m := by
  cases n with
  | zero => rfl
  | succ n => unfold M.runFor; rw [if_pos h]
theorem runFor_add : ∀ (a b : Nat) (m : M), M.runFor (a + b) m = M.runFor b (M.runFor a m)
  | 0, b, m => by rw [Nat.zero_add]; rfl
  | a + 1, b, m => by
    by_cases h : m.outcome.isSome = true
    · rw [runFor_done _ m h, runFor_done _ m h, runFor_done _ m h]
    · rw [show a + 1 + b = (a + b) + 1 by omega]
      show (if m.outcome.isSome = true then m else M.runFor (a + b) m.step) = M.runFor b (if m.outcome.isSome = true then m else M.runFor a m.step)
      rw [if_neg h, if_neg h]
      exact runFor_add a b m.step
theorem runFor_one (m : M) (h : m.outcome = none) : M.runFor 1 m = m.step := by
  show (if m.outcome.isSome = true then m else m.step) = m.step
  rw [h]; rfl

section
variable {prog : Program} {w : World} {A : Around} {E : Value → Shared → Prop} {s : Shared}
theorem drive_wp {Q : M → Shared → Prop} : ∀ (n k : Nat) (m : M), 0 < n → n ≤ k → (M.runFor (4 * n) m).outcome.isSome = true → Q (M.runFor (4 * n) m) s → wpAny (model prog w) A (reDrive k m) Q E s
  | 0, _, _, h, _, _, _ => absurd h (Nat.lt_irrefl _)
  | n + 1, 0, _, _, h, _, _ => absurd h (Nat.not_succ_le_zero _)
  | n + 1, k + 1, m, _, hk, hm, hQ => by
    unfold reDrive
    have e : M.runFor (4 * (n + 1)) m = M.runFor (4 * n) (M.runFor 4 m) := by
      rw [← runFor_add]; congr 1; omega
    rw [e] at hm hQ
    show wpAny (model prog w) A (if (M.runFor 4 m).outcome.isSome = true then pure (M.runFor 4 m) else _) Q E s
    by_cases h : (M.runFor 4 m).outcome.isSome = true
    · rw [if_pos h]
      rw [runFor_done _ _ h] at hQ
      exact wpAny_pure hQ
    · rw [if_neg h]
      refine wpAny_bind (wpAny_rule ?_)
      cases n with
      | zero => exact absurd hm h
      | succ n => exact drive_wp (n + 1) k _ (Nat.succ_pos _) (Nat.le_of_succ_le_succ hk) hm hQ
theorem rules_wp {Q : PUnit → Shared → Prop} (c : Nat → Bool) (t : Nat → String) (h : Q PUnit.unit s) : ∀ l : List Nat,
   wpAny (model prog w) A (forIn l PUnit.unit fun i _ => do
      if c i then rule (t i)
      pure (ForInStep.yield PUnit.unit)) Q E s
  | [] => wpAny_pure h
  | i :: r => by
    rw [List.forIn_cons]
    refine wpAny_bind ?_
    have ih := rules_wp c t h r
    cases hc : c i with
    | true =>
      simp only [if_true]
      refine wpAny_bind (wpAny_rule (wpAny_pure ?_))
      exact ih
    | false =>
      simp only [Bool.false_eq_true, if_false]
      refine wpAny_bind (wpAny_pure (wpAny_pure ?_))
      exact ih
theorem toEnd_failed {Q : Option M → Shared → Prop} (n : Nat) (m : M) (h0 : 0 < n) (hn : n ≤ 2 ^ 64) (hm : (M.runFor (4 * n) m).outcome = some .failed) (hQ : Q none s) : wpAny (model prog w) A (reRunToEnd m) Q E s := by
  unfold reRunToEnd
  refine wpAny_bind (drive_wp n _ m h0 hn (by rw [hm]; rfl) ?_)
  refine wpAny_bind (rules_wp _ _ ?_ _)
  rw [hm]
  exact wpAny_pure hQ
theorem toEnd_matched {Q : Option M → Shared → Prop} (n : Nat) (m : M) (h0 : 0 < n) (hn : n ≤ 2 ^ 64) (hm : (M.runFor (4 * n) m).outcome = some .matched) (hQ : Q (some (M.runFor (4 * n) m)) s) : wpAny (model prog w) A (reRunToEnd m) Q E s := by
  unfold reRunToEnd
  refine wpAny_bind (drive_wp n _ m h0 hn (by rw [hm]; rfl) ?_)
  refine wpAny_bind (rules_wp _ _ ?_ _)
  rw [hm]
  exact wpAny_pure hQ
end
end
section
open PySem PySem.W PyProof.Rows
set_option maxRecDepth 100000
open PySem.Sre PySem.Builtin.Re

def codeN : Array Nat := #[14, 10, 4, 1, 1, 22, 0, 31, 16, 127, 0, 13, 7, 22, 0, 31, 16, 127, 0, 1]
def codeV : Array Nat := #[14, 14, 4, 1, 1, 9, 4294966783, 0, 0, 2147483648, 0, 0, 0, 0, 0, 13, 11, 9, 4294966783, 0, 0, 2147483648, 0, 0, 0, 0, 0, 1]
def code1 : Array Nat := #[14, 4, 0, 1, 1, 6, 1, 16, 46, 1]
def code2 : Array Nat := #[14, 9, 4, 1, 2, 16, 10, 16, 13, 0, 7, 7, 16, 13, 16, 10, 15, 18, 5, 16, 10, 15, 13, 11, 16, 13, 5, 5, 0, 16, 10, 1, 15, 2, 0, 1]

/-- no sign of the text opens a match -/
def NoSet (code : Array Nat) (P : Nat → Prop) : Prop := ∀ c, P c → ∀ seen, ∃ seen', inSet code c code.size 5 true seen = .ok (false, seen')

theorem noSet_N : NoSet codeN (fun c => 32 ≤ c ∧ c < 127) := by
  intro c hc seen
  refine ⟨((seen.add 22).add 16).add 0, ?_⟩
  have h1 : ¬ c ≤ 31 := by omega
  have h2 : ¬ c = 127 := by omega
  simp [inSet, codeN, ops, h1, h2]
theorem noSet_V : NoSet codeV (fun c => 32 ≤ c ∧ c < 127) := by
  intro c hc seen
  refine ⟨(seen.add 9).add 0, ?_⟩
  have h1 : ∀ c, c < 127 → 32 ≤ c → (codeV.getD (5 + (1 + c / 32)) 0).testBit (c % 32) = false := by decide +kernel
  have h2 := h1 c hc.2 hc.1
  have e : inSet codeV c codeV.size 5 true seen = if c < 256 && (codeV.getD (5 + (1 + c / 32)) 0).testBit (c % 32) then .ok (true, seen.add 9) else inSet codeV c 27 14 true (seen.add 9) := rfl
  rw [e, h2, Bool.and_false]
  rfl
theorem noSet_2 : NoSet code2 (fun c => 32 ≤ c ∧ c < 127) := by
  intro c hc seen
  refine ⟨((seen.add 16).add 16).add 0, ?_⟩
  have h1 : ¬ c = 10 := by omega
  have h2 : ¬ c = 13 := by omega
  simp [inSet, code2, ops, h1, h2]

theorem admitted_none {m : M} {P : Nat → Prop} (hs : NoSet m.code P) (ht : ∀ c ∈ m.text.toList, P c) (hl : m.lim ≤ m.text.size) : ∀ (fuel i : Nat) (seen : Sre.Seen), ∃ seen', M.admitted m fuel i seen = .ok (none, seen')
  | 0, i, seen => ⟨seen, rfl⟩
  | fuel + 1, i, seen => by
    unfold M.admitted
    by_cases h : i ≥ m.lim
    · exact ⟨seen, by rw [if_pos h]⟩
    · rw [if_neg h]
      have hi : i < m.text.size := by omega
      have hc : m.text.getD i 0 ∈ m.text.toList := by
        rw [Array.getD_eq_getD_getElem?, Array.getElem?_eq_getElem hi]
        simp
      obtain ⟨s1, e1⟩ := hs _ (ht _ hc) seen
      obtain ⟨s2, e2⟩ := admitted_none hs ht hl fuel (i + 1) s1
      refine ⟨s2, ?_⟩
      rw [e1]
      exact e2

theorem say_failed (m : M) (hf : m.frames = []) (ho : m.outcome = none) : (M.runFor (4 * 1) (m.say false)).outcome = some .failed := by
  have h1 : (m.say false).outcome = none := ho
  rw [show 4 * 1 = 1 + 3 by rfl, runFor_add, runFor_one _ h1]
  have h2 : (m.say false).step = { m.say false with outcome := some .failed } := by
    unfold M.step
    rw [h1]
    show (match (some false : Option Bool), m.frames with
      | some yes, [] => _
      | some yes, f :: rest => _
      | none, _ => _) = _
    rw [hf]
    rfl
  rw [h2, runFor_done _ _ rfl]

theorem attemptFrom_none (m : M) {P : Nat → Prop} (hc : m.hasFirstSet = true) (hs : NoSet m.code P) (ht : ∀ c ∈ m.text.toList, P c) (hl : m.lim ≤ m.text.size) (hf : m.frames = []) (ho : m.outcome = none) (i : Nat) (b : Bool) :
    (M.runFor (4 * 1) (m.attemptFrom i b)).outcome = some .failed := by
  unfold M.attemptFrom
  rw [if_neg (by rw [hc]; decide)]
  obtain ⟨seen', e⟩ := admitted_none hs ht hl (m.lim + 1 - i) i m.seen
  rw [e]
  exact say_failed _ hf ho
theorem search_none {code text : Array Nat} {P : Nat → Prop} (hc : (∀ m : M, m.code = code → m.hasFirstSet = true)) (hs : NoSet code P) (ht : ∀ c ∈ text.toList, P c) (pos : Nat) (must : Bool) :
    (M.runFor (4 * 1) (forSearch code text 0 pos text.size must)).outcome = some .failed := by
  unfold forSearch
  dsimp only
  split
  · exact say_failed _ rfl rfl
  · exact attemptFrom_none _ (hc _ rfl) hs ht (Nat.le_refl _) rfl rfl _ _
theorem first_N (m : M) (h : m.code = codeN) : m.hasFirstSet = true := by unfold M.hasFirstSet; rw [h]; rfl
theorem first_V (m : M) (h : m.code = codeV) : m.hasFirstSet = true := by unfold M.hasFirstSet; rw [h]; rfl
theorem first_2 (m : M) (h : m.code = code2) : m.hasFirstSet = true := by unfold M.hasFirstSet; rw [h]; rfl
end
section
open PySem PySem.W PyProof.Rows
set_option maxRecDepth 100000
open PySem.Sre PySem.Builtin.Re

def st1 (text : Array Nat) (i : Nat) (first must : Bool) (seen : Sre.Seen) : M :=
  { code := code1, text := text, lim := text.size, start := i, lastStart := text.size, wholeText := false, mustAdvance := must, pc := 5, pos := i, handed := i, outermost := first, marks := #[], lastmark := -1, lastindex := -1, loops := #[], inner := none,
    frames := [{ wait := .nextStart, pc := 5, pos := i, outermost := first }], weight := 1, answer := none, seen := seen, outcome := none }

theorem attemptFrom_st1 (m : M) (text : Array Nat) (h1 : m.code = code1) (h2 : m.text = text) (h3 : m.lim = text.size) (h4 : m.lastStart = text.size) (h5 : m.wholeText = false) (h6 : m.pc = 5) (h7 : m.marks = #[]) (h8 : m.loops = #[]) (h9 : m.inner = none) (h10 : m.frames = []) (h11 : m.weight = 0) (h12 : m.answer = none) (h13 : m.outcome = none) (i : Nat) (first : Bool) :
    m.attemptFrom i first = st1 text i first m.mustAdvance m.seen := by
  obtain ⟨a1, a2, a3, a4, a5, a6, a7, a8, a9, a10, a11, a12, a13, a14, a15, a16, a17, a18, a19, a20, a21⟩ := m
  simp only at h1 h2 h3 h4 h5 h6 h7 h8 h9 h10 h11 h12 h13
  subst h1 h2 h3 h4 h5 h6 h7 h8 h9 h10 h11 h12 h13
  rfl

theorem runFor_two {m m1 m2 : M} (h : m.outcome = none) (e1 : m.step = m1) (h1 : m1.outcome = none) (e2 : m1.step = m2) : M.runFor 2 m = m2 := by
  rw [show 2 = 1 + 1 by rfl, runFor_add, runFor_one _ h, e1, runFor_one _ h1, e2]
theorem runFor_three {m m1 m2 m3 : M} (h : m.outcome = none) (e1 : m.step = m1) (h1 : m1.outcome = none) (e2 : m1.step = m2) (h2 : m2.outcome = none) (e3 : m2.step = m3) : M.runFor 3 m = m3 := by
  rw [show 3 = 2 + 1 by rfl, runFor_add, runFor_two h e1 h1 e2, runFor_one _ h2, e3]
theorem at_false (text : Array Nat) (i : Nat) (first must : Bool) (seen : Sre.Seen) (h0 : 0 < i) (hb : text.getD (i - 1) 0 ≠ 10) :
    M.runFor 2 (st1 text i first must seen) = if i < text.size then st1 text (i + 1) false false ((seen.add 6).add 44) else
      { st1 text i first must ((seen.add 6).add 44) with frames := [], weight := 0, answer := some false } := by
  have e1 : (st1 text i first must seen).step = (if (i == 0 || text.getD (i - 1) 0 == 10) = true then { st1 text i first must ((seen.add 6).add 44) with pc := 7 } else { st1 text i first must ((seen.add 6).add 44) with answer := some false }) := rfl
  have e2 : (i == 0 || text.getD (i - 1) 0 == 10) = false := by
    rw [Bool.or_eq_false_iff]
    exact ⟨by simpa using Nat.ne_of_gt h0, by simpa using hb⟩
  rw [e2] at e1
  simp only [Bool.false_eq_true, if_false] at e1
  have e3 : ({ st1 text i first must ((seen.add 6).add 44) with answer := some false } : M).step =
     (if i < text.size then M.attemptFrom ({ st1 text i first must ((seen.add 6).add 44) with frames := [], weight := 0, mustAdvance := false } : M) (i + 1) false else { st1 text i first must ((seen.add 6).add 44) with frames := [], weight := 0, answer := some false }) := rfl
  rw [runFor_two rfl e1 rfl e3]
  by_cases h : i < text.size
  · rw [if_pos h, if_pos h]
    exact attemptFrom_st1 _ text rfl rfl rfl rfl rfl rfl rfl rfl rfl rfl rfl rfl rfl _ _
  · rw [if_neg h, if_neg h]

theorem st1_fails (text : Array Nat) (hn : ∀ c ∈ text.toList, c ≠ 10) : ∀ (d i : Nat) (first must : Bool) (seen : Sre.Seen), text.size - i = d → i ≤ text.size → 0 < i → (M.runFor (2 * d + 3) (st1 text i first must seen)).outcome = some .failed := by
  intro d
  induction d with
  | zero =>
    intro i first must seen hd hi h0
    have hb : text.getD (i - 1) 0 ≠ 10 := by
      rw [Array.getD_eq_getD_getElem?, Array.getElem?_eq_getElem (by omega)]
      exact hn _ (by simp)
    rw [show 2 * 0 + 3 = 2 + 1 by rfl, runFor_add, at_false text i first must seen h0 hb, if_neg (by omega)]
    rfl
  | succ d ih =>
    intro i first must seen hd hi h0
    have hb : text.getD (i - 1) 0 ≠ 10 := by
      rw [Array.getD_eq_getD_getElem?, Array.getElem?_eq_getElem (by omega)]
      exact hn _ (by simp)
    rw [show 2 * (d + 1) + 3 = 2 + (2 * d + 3) by omega, runFor_add, at_false text i first must seen h0 hb, if_pos (by omega)]
    exact ih (i + 1) _ _ _ (by omega) (by omega) (by omega)

theorem fails_on {m : M} {n k : Nat} (h : (M.runFor n m).outcome = some .failed) (hk : n ≤ k) : (M.runFor k m).outcome = some .failed := by
  rw [show k = n + (k - n) by omega, runFor_add, runFor_done _ _ (by rw [h]; rfl)]
  exact h

theorem forSearch_st1 (text : Array Nat) (i : Nat) (must : Bool) (hi : i < text.size) : ∃ seen, forSearch code1 text 0 i text.size must = st1 text i true must seen := by
  unfold forSearch
  dsimp only
  rw [if_neg (by
    rw [Bool.or_eq_true]
    intro h
    rcases h with h | h
    · have := of_decide_eq_true h; omega
    · have := of_decide_eq_true h
      have e : (header code1).1 = 1 := rfl
      rw [e] at this; omega)]
  exact ⟨_, attemptFrom_st1 _ text rfl rfl rfl rfl rfl rfl rfl rfl rfl rfl rfl rfl rfl _ _⟩

theorem forSearch_short (text : Array Nat) (i : Nat) (must : Bool) (hi : text.size ≤ i) : (M.runFor (4 * 1) (forSearch code1 text 0 i text.size must)).outcome = some .failed := by
  unfold forSearch
  dsimp only
  rw [if_pos (by
    rw [Bool.or_eq_true]
    right
    have e : (header code1).1 = 1 := rfl
    rw [e]
    exact decide_eq_true (by omega))]
  exact say_failed _ rfl rfl

/-- from a place behind the first there is nothing -/
theorem search1_later (text : Array Nat) (hn : ∀ c ∈ text.toList, c ≠ 10) (i : Nat) (must : Bool) (h0 : 0 < i) : (M.runFor (4 * (text.size + 2)) (forSearch code1 text 0 i text.size must)).outcome = some .failed := by
  by_cases hi : i < text.size
  · obtain ⟨seen, e⟩ := forSearch_st1 text i must hi
    rw [e]
    exact fails_on (st1_fails text hn _ i _ _ seen rfl (Nat.le_of_lt hi) h0) (by omega)
  · exact fails_on (forSearch_short text i must (by omega)) (by omega)

theorem search1_nodot (text : Array Nat) (hn : ∀ c ∈ text.toList, c ≠ 10) (hd : text[0]? ≠ some 46) : (M.runFor (4 * (text.size + 2)) (forSearch code1 text 0 0 text.size false)).outcome = some .failed := by
  by_cases hi : 0 < text.size
  · obtain ⟨seen, e⟩ := forSearch_st1 text 0 false hi
    rw [e]
    have hq : ¬ text.getD 0 0 = 46 := by
      intro q
      apply hd
      rw [Array.getElem?_eq_getElem hi]
      rw [Array.getD_eq_getD_getElem?, Array.getElem?_eq_getElem hi] at q
      exact congrArg some q
    have e1 : (st1 text 0 true false seen).step = { st1 text 0 true false ((seen.add 6).add 44) with pc := 7 } := rfl
    have e2 : ({ st1 text 0 true false ((seen.add 6).add 44) with pc := 7 } : M).step = if 0 ≥ text.size then { st1 text 0 true false (((seen.add 6).add 44).add 16) with pc := 7, answer := some false } else
        match (if (text.getD 0 0 == 46) = true then true else false) with
        | false => { st1 text 0 true false (((seen.add 6).add 44).add 16) with pc := 7, answer := some false }
        | true => { st1 text 0 true false (((seen.add 6).add 44).add 16) with pc := 9, pos := 1 } := by
      have hq' : (text.getD 0 0 == 46) = false := by simpa using hq
      show (if 0 ≥ text.size then _ else match (Except.ok ((text.getD 0 0 == 46), ((seen.add 6).add 44).add 16) : Except String (Bool × Sre.Seen)) with
        | .error why => _
        | .ok (false, seen) => _
        | .ok (true, seen) => _) = _
      rw [hq']
      rfl
    have hq' : (text.getD 0 0 == 46) = false := by simpa using hq
    rw [if_neg (by omega), hq'] at e2
    have e3 : ({ st1 text 0 true false (((seen.add 6).add 44).add 16) with pc := 7, answer := some false } : M).step =
      (if 0 < text.size then M.attemptFrom ({ st1 text 0 true false (((seen.add 6).add 44).add 16) with frames := [], weight := 0, mustAdvance := false } : M) 1 false else { st1 text 0 true false (((seen.add 6).add 44).add 16) with frames := [], weight := 0, answer := some false }) := rfl
    rw [if_pos hi] at e3
    refine fails_on (n := 3 + (2 * (text.size - 1) + 3)) ?_ (by omega)
    rw [runFor_add, runFor_three rfl e1 rfl e2 rfl e3, attemptFrom_st1 _ text rfl rfl rfl rfl rfl rfl rfl rfl rfl rfl rfl rfl rfl]
    exact st1_fails text hn _ 1 _ _ _ rfl (by omega) (by omega)
  · exact fails_on (forSearch_short text 0 false (by omega)) (by omega)

theorem search1_dot (text : Array Nat) (hd : text[0]? = some 46) : (M.runFor (4 * 2) (forSearch code1 text 0 0 text.size false)).outcome = some .matched ∧
    (M.runFor (4 * 2) (forSearch code1 text 0 0 text.size false)).start = 0 ∧ (M.runFor (4 * 2) (forSearch code1 text 0 0 text.size false)).handed = 1 := by
  have hi : 0 < text.size := by
    cases h : text.size with
    | zero => rw [Array.getElem?_eq_none (by omega)] at hd; cases hd
    | succ n => omega
  have hq : (text.getD 0 0 == 46) = true := by
    rw [Array.getD_eq_getD_getElem?, hd]; rfl
  obtain ⟨seen, e⟩ := forSearch_st1 text 0 false hi
  rw [e]
  have e1 : (st1 text 0 true false seen).step = { st1 text 0 true false ((seen.add 6).add 44) with pc := 7 } := rfl
  have e2 : ({ st1 text 0 true false ((seen.add 6).add 44) with pc := 7 } : M).step = { st1 text 0 true false (((seen.add 6).add 44).add 16) with pc := 9, pos := 1 } := by
    show (if 0 ≥ text.size then _ else match (Except.ok ((text.getD 0 0 == 46), ((seen.add 6).add 44).add 16) : Except String (Bool × Sre.Seen)) with
        | .error why => _
        | .ok (false, seen) => _
        | .ok (true, seen) => _) = _
    rw [hq, if_neg (by omega)]
    rfl
  have e3 : M.runFor (4 * 2) (st1 text 0 true false seen) = M.runFor 6 { st1 text 0 true false (((seen.add 6).add 44).add 16) with pc := 9, pos := 1 } := by
    rw [show 4 * 2 = 2 + 6 by rfl, runFor_add, runFor_two rfl e1 rfl e2]
  rw [e3]
  exact ⟨rfl, rfl, rfl⟩
end
section
open PySem PySem.W PyProof.Rows
set_option maxRecDepth 100000
open PySem.Sre PySem.Builtin.Re PySem.Builtin PySem.Calls

theorem named_search (v : Value) : reNamed "re.Pattern.search" "search" ["string", "pos", "endpos"] 1 [v] [] = pure [some v, none, none] := by rfl
theorem named_sub (u v : Value) : reNamed "re.Pattern.sub" "sub" ["repl", "string", "count"] 2 [u, v] [] = pure [some u, some v, none] := by rfl

theorem slot_search : Slot "re.Pattern" "search" "re.Pattern.search" :=
  .of (owner := "re.Pattern") (n := "search") (by rw [typeLookup_type, builtinLookup_eq_fast]; kernel_rfl) (by decide +kernel) (by decide +kernel) (by decide +kernel)
    (by first | exact .inl (by decide +kernel) | exact .inr (by decide +kernel)) (by rw [isSubtype_type]; kernel_rfl)
theorem type_search : typeOf (.builtin "re.Pattern.search") = pure (.type "method_descriptor") := by show builtinType _ = _; rw [builtinType_eq_fast]; kernel_rfl
theorem entry_search : entryFor table "re.Pattern.search" = some Builtin.«re.Pattern.search» := entryFor_of_tree (by kernel_rfl)
theorem args_search (a b : Value) : argsOk "re.Pattern.search" ⟨[a, b], []⟩ := by
  unfold argsOk; kernel_rfl
theorem slot_sub : Slot "re.Pattern" "sub" "re.Pattern.sub" :=
  .of (owner := "re.Pattern") (n := "sub") (by rw [typeLookup_type, builtinLookup_eq_fast]; kernel_rfl) (by decide +kernel) (by decide +kernel) (by decide +kernel)
    (by first | exact .inl (by decide +kernel) | exact .inr (by decide +kernel)) (by rw [isSubtype_type]; kernel_rfl)
theorem type_sub : typeOf (.builtin "re.Pattern.sub") = pure (.type "method_descriptor") := by show builtinType _ = _; rw [builtinType_eq_fast]; kernel_rfl
theorem entry_sub : entryFor table "re.Pattern.sub" = some Builtin.«re.Pattern.sub» := entryFor_of_tree (by kernel_rfl)
theorem entry_loop : entryFor table "re.Pattern.sub.loop" = some Builtin.«re.Pattern.sub.loop» := entryFor_of_tree (by kernel_rfl)
theorem args_sub (a b c : Value) : argsOk "re.Pattern.sub" ⟨[a, b, c], []⟩ := by
  unfold argsOk; kernel_rfl
theorem plainAttrs_re : PlainAttrs "re.Pattern" :=
  ⟨⟨"object.__getattribute__", by rw [typeLookup_type, builtinLookup_eq_fast]; kernel_rfl, by decide +kernel⟩, by rw [typeLookup_type, builtinLookup_eq_fast]; kernel_rfl⟩

section
variable {prog : Program} {w : World} {A : Around} {E : Value → Shared → Prop} {s : Shared}

structure IsPat (h : Heap) (a : Addr) (code : Array Nat) : Prop where
  at_ : ∃ (c : Addr) (f0 f1 f2 f3 f4 f6 : Value) (sl : Array (Option Value)) (cl : Value) (dd : Option Addr) (items : Array Value) (n : Nat) (sl2 : Array (Option Value)),
    h.get? a = some ⟨.type "re.Pattern", none, .fields #[f0, f1, f2, f3, f4, .ref c, f6], sl⟩ ∧ reRawNat f6 = 0 ∧ reRawNat f2 = 0 ∧
    h.get? c = some ⟨cl, dd, .seq items n, sl2⟩ ∧ (items.map reRawOf).map (·.toNat) = code

theorem re_method {name : Str} {id : String} {pl : Sem Bool} {a : Addr} {code : Array Nat} {Q : Value × List Value → Shared → Prop} (slot : Slot "re.Pattern" name id) (hty : typeOf (.builtin id) = pure (.type "method_descriptor"))
    (hp : IsPat s.heap a code) (h : Q (.builtin id, [.ref a]) s) : wpAny (model prog w) A (getMethod (.ref a) name pl) Q E s := by
  obtain ⟨c, f0, f1, f2, f3, f4, f6, sl, cl, dd, items, n, sl2, h1, h2, h2', h3, h4⟩ := hp.at_
  exact getMethod_builtin ⟨_, h1, rfl⟩ plainAttrs_re slot hty (fun b e => by cases e; exact ⟨_, h1, rfl⟩) h

theorem items_wp {c : Addr} {cl : Value} {dd : Option Addr} {items : Array Value} {n : Nat} {sl2 : Array (Option Value)} {Q : Array Int → Shared → Prop} (h3 : s.heap.get? c = some ⟨cl, dd, .seq items n, sl2⟩) (h : Q (items.map reRawOf) s) :
    wpAny (model prog w) A (reRawItems (.ref c)) Q E s := by
  unfold reRawItems
  exact wpAny_bind (wpAny_seqItems h3 rfl (wpAny_pure h))

theorem target_search {a : Addr} {x : Str} {t : Tok} {code : Array Nat} {Q : ReTarget → Shared → Prop} (hp : IsPat s.heap a code)
    (hx : x.cps.size < 2 ^ 62) (h : Q ⟨.ref a, .str x t, code, x.cps, 0, 0, 0, x.cps.size⟩ s) : wpAny (model prog w) A (reTarget "re.Pattern.search" "search" ⟨[.ref a, .str x t], []⟩) Q E s := by
  obtain ⟨c, f0, f1, f2, f3, f4, f6, sl, cl, dd, items, n, sl2, h1, h2, h2', h3, h4⟩ := hp.at_
  unfold reTarget
  refine wpAny_bind ?_
  rw [named_search]
  refine wpAny_pure ?_
  refine wpAny_bind (wpAny_pure ?_)
  refine wpAny_bind (wpAny_pure ?_)
  refine wpAny_bind (wpAny_fieldsOf h1 rfl ?_)
  refine wpAny_bind (wpAny_bind (wpAny_pure (wpAny_pure ?_)))
  dsimp only
  have e6 : (#[f0, f1, f2, f3, f4, Value.ref c, f6] : Array Value).getD 6 Value.none = f6 := rfl
  have e5 : (#[f0, f1, f2, f3, f4, Value.ref c, f6] : Array Value).getD 5 Value.none = .ref c := rfl
  have e2 : (#[f0, f1, f2, f3, f4, Value.ref c, f6] : Array Value).getD 2 Value.none = f2 := rfl
  rw [e6, e5, e2, h2]
  rw [if_neg (by decide), if_neg (by decide)]
  refine wpAny_bind (wpAny_pure ?_)
  refine wpAny_bind (items_wp h3 (wpAny_pure ?_))
  have e7 : Min.min (2 ^ 63 - 1 : Int).toNat x.cps.size = x.cps.size := Nat.min_eq_right (by
    have : (2 ^ 63 - 1 : Int).toNat = 2 ^ 63 - 1 := by decide
    rw [this]; omega)
  have e8 : Min.min (Int.toNat 0) x.cps.size = 0 := Nat.min_eq_left (Nat.zero_le _)
  rw [e7, e8, h4, h2']
  exact h

theorem target_whole {a : Addr} {x : Str} {t : Tok} {code : Array Nat} {Q : ReTarget → Shared → Prop} (hp : IsPat s.heap a code)
    (h : Q ⟨.ref a, .str x t, code, x.cps, 0, 0, 0, x.cps.size⟩ s) : wpAny (model prog w) A (reWholeTarget (.ref a) (.str x t)) Q E s := by
  obtain ⟨c, f0, f1, f2, f3, f4, f6, sl, cl, dd, items, n, sl2, h1, h2, h2', h3, h4⟩ := hp.at_
  unfold reWholeTarget
  refine wpAny_bind (wpAny_fieldsOf h1 rfl ?_)
  refine wpAny_bind (wpAny_bind (wpAny_pure (wpAny_pure ?_)))
  dsimp only
  have e6 : (#[f0, f1, f2, f3, f4, Value.ref c, f6] : Array Value).getD 6 Value.none = f6 := rfl
  have e5 : (#[f0, f1, f2, f3, f4, Value.ref c, f6] : Array Value).getD 5 Value.none = .ref c := rfl
  have e2 : (#[f0, f1, f2, f3, f4, Value.ref c, f6] : Array Value).getD 2 Value.none = f2 := rfl
  rw [e6, e5, e2, h2]
  rw [if_neg (by decide), if_neg (by decide)]
  refine wpAny_bind (wpAny_pure ?_)
  refine wpAny_bind (items_wp h3 (wpAny_pure ?_))
  rw [h4, h2']
  exact h

/-- the search that finds nothing -/
theorem call_search_none {a : Addr} {x : Str} {t : Tok} {code : Array Nat} {P : Nat → Prop} {Q : Value → Shared → Prop} (hp : IsPat s.heap a code) (hc : ∀ m : M, m.code = code → m.hasFirstSet = true) (hs : NoSet code P)
    (ht : ∀ c ∈ x.cps.toList, P c) (hx : x.cps.size < 2 ^ 62) (h : Q .none s) : wpAny (model prog w) A (call (.builtin "re.Pattern.search") [.ref a, .str x t]) Q E s := by
  have hT : s.TypeIs (.ref a) "re.Pattern" := by
    obtain ⟨c, f0, f1, f2, f3, f4, f6, sl, cl, dd, items, n, sl2, h1, _⟩ := hp.at_
    exact ⟨_, h1, rfl⟩
  refine wpAny_call (codeAny_call_builtin slot_search.plain entry_search (slot_search.check _ _ _ _ _ _ _ _ hT (args_search _ _) ?_))
  unfold «re.Pattern.search»
  refine wpAny_bind (target_search hp hx ?_)
  unfold reAnswer
  refine wpAny_bind (toEnd_failed 1 _ (by decide) (Nat.one_le_two_pow) (search_none hc hs ht 0 false) ?_)
  exact wpAny_pure h

end
end
section
open PySem PySem.W PyProof.Rows
set_option maxRecDepth 100000
open PySem.Sre PySem.Builtin.Re PySem.Builtin PySem.Calls
section
variable {prog : Program} {w : World} {A : Around} {E : Value → Shared → Prop} {s : Shared}

def cut (x : Str) (i : Nat) : Str := ⟨x.cps.extract i x.cps.size⟩

theorem join_map (l : List (Str × Tok)) : (l.map (·.1)).length = l.length := List.length_map ..
theorem joinOk_small {ts : List Str} (h : (ts.map (·.length)).sum ≤ 2000000) : JoinOk ⟨#[]⟩ ts = true := by
  unfold JoinOk
  rw [List.foldl_toArray]
  have g : ∀ (ts : List Str) (a : Nat), ts.foldl (fun b c => b + c.length + (⟨#[]⟩ : Str).length) a = a + (ts.map (·.length)).sum := by
    intro ts
    induction ts with
    | nil => intro a; simp
    | cons y r ih =>
      intro a
      rw [List.foldl_cons, ih, List.map_cons, List.sum_cons]
      show a + y.length + 0 + _ = _
      omega
  rw [g]
  unfold Builtin.Str.tooLong
  rw [sizeLine_eq]
  simp only [Bool.not_eq_true', decide_eq_false_iff_not]
  omega

theorem tail_wp {l : Addr} {x : Str} {n : Int} {ps : List (Str × Tok)} {ep : Nat} {Q : Fin → Shared → Prop} (hl : s.heap.get? l = some ⟨.type "list", none, .seq (strValues ps).toArray ep, #[]⟩) (hsum : (ps.map (·.1.length)).sum ≤ 2000000)
    (h : ∀ t' tk', Q (.done (.ret (.str (Str.join ⟨#[]⟩ (ps.map (·.1))) t'))) { s with toks := tk' }) :
    wpAny (model prog w) A (do
      let joiner ← reSlice x.cps 0 0 0
      let __do_lift ← seqItems? (Value.ref l)
      if (__do_lift.getD #[]).isEmpty = true then do
          let text ← pure joiner
          if false = true then do
              let __do_lift ←
                holding [text] do
                    let __do_lift ← mkInt n
                    newTuple [text, __do_lift]
              ret __do_lift
            else ret text
        else do
          let text ← call (Value.builtin (if ((0 : Nat) == 0) = true then "str.join" else "bytes.join")) [joiner, Value.ref l]
          if false = true then do
              let __do_lift ←
                holding [text] do
                    let __do_lift ← mkInt n
                    newTuple [text, __do_lift]
              ret __do_lift
            else ret text) Q E s := by
  have e0 : (⟨x.cps.extract 0 0⟩ : Str) = ⟨#[]⟩ := by simp
  refine wpAny_bind ?_
  unfold reSlice
  rw [if_pos (by decide)]
  refine wpAny_mkStr ?_ (by rw [e0]; exact Nat.zero_le _)
  refine wpAny_bind (wpAny_seqItems (o := ⟨.type "list", none, .seq (strValues ps).toArray ep, #[]⟩) hl rfl ?_)
  cases ps with
  | nil =>
    rw [if_pos (by rfl)]
    refine wpAny_bind (wpAny_pure ?_)
    rw [if_neg (by decide), e0]
    exact wpAny_pure (h _ _)
  | cons p r =>
    rw [if_neg (by simp [strValues]), if_pos (by decide)]
    refine wpAny_bind ?_
    rw [e0]
    refine SC.join (l := p :: r) ⟨_, hl, rfl, _, rfl⟩ rfl (joinOk_small (by simpa [Function.comp_def] using hsum)) fun t' k => ?_
    rw [if_neg (by decide)]
    refine wpAny_pure ?_
    have := h t' k
    have e : Txt.join ⟨#[]⟩ ((p :: r).map fun q => q.1) = Str.join ⟨#[]⟩ ((p :: r).map fun q => q.1) := StrLaws.glued_eq_join _ _
    rw [e]
    exact this

theorem loop_none {a l : Addr} {x z : Str} {t u : Tok} {code : Array Nat} {n : Int} {dn st : Nat} {must : Bool} {R : Result → Shared → Prop} (hp : IsPat s.heap a code)
    {k : Nat} (hk0 : 0 < k) (hk : k ≤ 2 ^ 64) (hm : (M.runFor (4 * k) (forSearch code x.cps 0 st x.cps.size must)).outcome = some .failed)
    {ps : List (Str × Tok)} {ep : Nat} (hl : s.heap.get? l = some ⟨.type "list", none, .seq (strValues ps).toArray ep, #[]⟩) (hps : ps.length ≤ 5) (hx : x.cps.size ≤ 1000000) (hsum : (ps.map (·.1.length)).sum ≤ 1000000)
    (h : ∀ t' h' tk', (∀ b o, b ≠ l → s.heap.get? b = some o → h'.get? b = some o) → R (.ok (.ret (.str (Str.join ⟨#[]⟩ (ps.map (·.1) ++ if dn < x.cps.size then [cut x dn] else [])) t'))) { s with heap := h', toks := tk' }) :
    codeAny (model prog w) A (.builtin "re.Pattern.sub.loop" ⟨[.ref a, .str x t, .str z u, rawInt 0, rawInt 0, rawInt n, rawInt dn, rawInt st, .bool must, .ref l, .bool false], []⟩) R s := by
  refine codeAny_builtin entry_loop ?_
  unfold «re.Pattern.sub.loop»
  dsimp only [rawInt]
  refine wpAny_bind (target_whole hp ?_)
  dsimp only
  rw [if_pos (by decide)]
  refine wpAny_bind ?_
  unfold reLiteralCannotBeTurned
  refine wpAny_bind (wpAny_pure ?_)
  rw [if_neg (by simp)]
  refine wpAny_pure ?_
  refine wpAny_bind ?_
  rw [if_neg (by simp)]
  unfold reNextFound
  refine toEnd_failed k _ hk0 hk (by simpa using hm) ?_
  dsimp only
  have en : ((dn : Int)).toNat = dn := Int.toNat_natCast dn
  rw [en]
  by_cases hd : dn < x.cps.size
  · rw [if_pos hd]
    rw [if_pos hd] at h
    refine wpAny_bind ?_
    unfold reSlice
    rw [if_pos (by decide)]
    have hz : (cut x dn).length ≤ 1000000 := by
      show (x.cps.extract dn x.cps.size).size ≤ _
      rw [Array.size_extract]; omega
    refine wpAny_mkStr ?_ (by rw [sizeLine_eq]; exact Nat.le_trans hz (by decide))
    refine wpAny_bind (wpAny_updateSeq (o := ⟨.type "list", none, .seq (strValues ps).toArray ep, #[]⟩) hl rfl ?_ (by rw [sizeLine_eq]; simp [strValues]; omega) (by rw [sizeLine_eq]; simp [strValues]; omega))
    refine tail_wp (ps := ps ++ [(cut x dn, s.toks)]) (ep := ep + 1) ?_ ?_ ?_
    · have e : Obj.mapSeq (fun y => y.push (.str (cut x dn) s.toks)) ⟨.type "list", none, .seq (strValues ps).toArray ep, #[]⟩ = ⟨.type "list", none, .seq (strValues (ps ++ [(cut x dn, s.toks)])).toArray (ep + 1), #[]⟩ := by
        simp [Obj.mapSeq, strValues]
      exact (Heap.get?_update_self (Obj.mapSeq fun y => y.push (.str (cut x dn) s.toks)) hl (by rw [e]; rfl)).trans (congrArg some e)
    · simp only [List.map_append, List.sum_append, List.map_cons, List.map_nil, List.sum_cons, List.sum_nil]
      omega
    · intro t' tk'
      have := h t' (s.heap.update l (Obj.mapSeq fun y => y.push (.str (cut x dn) s.toks))) tk' (fun b o hb e => (Heap.get?_update_ne _ _ _ _ hb).trans e)
      rw [List.map_append]
      exact this
  · rw [if_neg hd]
    rw [if_neg hd] at h
    refine tail_wp hl (by omega) ?_
    intro t' tk'
    have := h t' s.heap tk' (fun b o hb e => e)
    simpa using this

/-- the dot at the head: it is doubled -/
theorem loop_dot {a l : Addr} {x z : Str} {t u : Tok} {R : Result → Shared → Prop} (hp : IsPat s.heap a code1) (hn : ∀ c ∈ x.cps.toList, c ≠ 10) (hd : x.cps[0]? = some 46)
    (hl : s.heap.get? l = some ⟨.type "list", none, .seq #[] 0, #[]⟩) (hx : x.cps.size ≤ 1000000) (hz : z.length ≤ 1000000)
    (h : ∀ t' h' tk', (∀ b o, b ≠ l → s.heap.get? b = some o → h'.get? b = some o) → R (.ok (.ret (.str (Str.join ⟨#[]⟩ ([z] ++ if 1 < x.cps.size then [cut x 1] else [])) t'))) { s with heap := h', toks := tk' }) :
    codeAny (model prog w) A (.builtin "re.Pattern.sub.loop" ⟨[.ref a, .str x t, .str z u, rawInt 0, rawInt 0, rawInt 0, rawInt 0, rawInt 0, .bool false, .ref l, .bool false], []⟩) R s := by
  refine codeAny_builtin entry_loop ?_
  unfold «re.Pattern.sub.loop»
  dsimp only [rawInt]
  refine wpAny_bind (target_whole hp ?_)
  dsimp only
  rw [if_pos (by decide)]
  refine wpAny_bind ?_
  unfold reLiteralCannotBeTurned
  refine wpAny_bind (wpAny_pure ?_)
  rw [if_neg (by simp)]
  refine wpAny_pure ?_
  refine wpAny_bind ?_
  rw [if_neg (by simp)]
  unfold reNextFound
  obtain ⟨hm, hst, hhd⟩ := search1_dot x.cps hd
  refine toEnd_matched 2 _ (by decide) (by decide) hm ?_
  dsimp only
  have e0 : (Int.toNat 0) = 0 := rfl
  rw [e0, hst, hhd, if_neg (by decide), if_pos (by decide)]
  refine wpAny_bind (wpAny_pure ?_)
  rw [if_pos (bne_iff_ne.mpr (by intro q; cases q))]
  refine wpAny_bind (wpAny_updateSeq (o := ⟨.type "list", none, .seq #[] 0, #[]⟩) hl rfl ?_ (by rw [sizeLine_eq]; simp) (by rw [sizeLine_eq]; simp))
  have e : Obj.mapSeq (fun y => y.push (.str z u)) ⟨.type "list", none, .seq #[] 0, #[]⟩ = ⟨.type "list", none, .seq (strValues [(z, u)]).toArray 1, #[]⟩ := by
    simp [Obj.mapSeq, strValues]
  have hl' : (s.heap.update l (Obj.mapSeq fun y => y.push (.str z u))).get? l = some ⟨.type "list", none, .seq (strValues [(z, u)]).toArray 1, #[]⟩ :=
    (Heap.get?_update_self (Obj.mapSeq fun y => y.push (.str z u)) hl (by rw [e]; rfl)).trans (congrArg some e)
  refine wpAny_pure ⟨plainId_quiet (by decide +kernel) _, ?_⟩
  have hk : ∀ b o, b ≠ l → s.heap.get? b = some o → (s.heap.update l (Obj.mapSeq fun y => y.push (.str z u))).get? b = some o := fun b o hb q => (Heap.get?_update_ne _ _ _ _ hb).trans q
  have hp' : IsPat (s.heap.update l (Obj.mapSeq fun y => y.push (.str z u))) a code1 := by
    obtain ⟨c, f0, f1, f2, f3, f4, f6, sl, cl, dd, items, n, sl2, h1, h2, h2', h3, h4⟩ := hp.at_
    refine ⟨c, f0, f1, f2, f3, f4, f6, sl, cl, dd, items, n, sl2, hk _ _ ?_ h1, h2, h2', hk _ _ ?_ h3, h4⟩
    · intro q; rw [q, hl] at h1
      exact absurd (congrArg Obj.cls (Option.some.inj h1)) (by simp)
    · intro q
      rw [q, hl] at h3
      cases h3
      exact absurd h4 (by simp [code1])
  refine loop_none (ps := [(z, u)]) (dn := 1) (st := 1) (n := 0 + 1) (k := x.cps.size + 2) hp' (by omega) (by omega) (search1_later x.cps hn 1 _ (by decide)) hl' (by show 1 ≤ 5; decide) hx (by simpa using hz) ?_
  intro t' h' tk' hk'
  refine h t' h' tk' fun b o hb q => hk' b o hb (hk b o hb q)

theorem sub_code {a : Addr} {x z : Str} {t u : Tok} {code : Array Nat} {Q : Value → Shared → Prop} {y : Str} (hp : IsPat s.heap a code) (hbs : z.cps.contains 92 = false)
    (hloop : ∀ (h' : Heap) (l : Addr) (R : Result → Shared → Prop) (A' : Around), IsPat h' a code → h'.get? l = some ⟨.type "list", none, .seq #[] 0, #[]⟩ →
       (∀ t' h'' tk', (∀ b o, b ≠ l → h'.get? b = some o → h''.get? b = some o) → R (.ok (.ret (.str y t'))) { s with heap := h'', toks := tk' }) →
       codeAny (model prog w) A' (.builtin "re.Pattern.sub.loop" ⟨[.ref a, .str x t, .str z u, rawInt 0, rawInt 0, rawInt 0, rawInt 0, rawInt 0, .bool false, .ref l, .bool false], []⟩) R { s with heap := h' })
    (h : ∀ t' h' tk', (∀ b o, s.heap.get? b = some o → h'.get? b = some o) → Q (.str y t') { s with heap := h', toks := tk' }) :
    wpAny (model prog w) A (call (.builtin "re.Pattern.sub") [.ref a, .str z u, .str x t]) Q E s := by
  have hT : s.TypeIs (.ref a) "re.Pattern" := by
    obtain ⟨c, f0, f1, f2, f3, f4, f6, sl, cl, dd, items, n, sl2, h1, _⟩ := hp.at_
    exact ⟨_, h1, rfl⟩
  have hcall : typeLookup (.type "str") "__call__" = pure none := by rw [typeLookup_type, builtinLookup_eq_fast]; kernel_rfl
  refine wpAny_call (codeAny_call_builtin slot_sub.plain entry_sub (slot_sub.check _ _ _ _ _ _ _ _ hT (args_sub _ _ _) ?_))
  unfold «re.Pattern.sub» reSubstitute
  dsimp only
  refine wpAny_bind ?_
  rw [named_sub]
  refine wpAny_pure ?_
  refine wpAny_bind (wpAny_pure ?_)
  refine wpAny_bind (wpAny_specialOf (typeIs_str _ _ _) hcall ?_)
  refine wpAny_bind (wpAny_pure ?_)
  dsimp only
  refine wpAny_bind (wpAny_pure ?_)
  rw [if_neg (by decide), if_pos (by rw [hbs]; rfl)]
  refine wpAny_bind (wpAny_pure ?_)
  refine wpAny_bind (wpAny_holding (target_whole hp ?_))
  rw [if_neg (by show ¬ ((0 : Int) == 1) = true; decide)]
  refine wpAny_bind (wpAny_newObj_type ?_ (by show 0 ≤ sizeLine; exact Nat.zero_le _))
  refine wpAny_pure ⟨plainId_quiet (by decide +kernel) _, ?_⟩
  have hk : ∀ b o, s.heap.get? b = some o → (s.heap.push { cls := .type "list", data := .seq #[] }).get? b = some o := fun b o q => Heap.get?_push_of_some _ q
  have hp' : IsPat (s.heap.push { cls := .type "list", data := .seq #[] }) a code := by
    obtain ⟨c, f0, f1, f2, f3, f4, f6, sl, cl, dd, items, n, sl2, h1, h2, h2', h3, h4⟩ := hp.at_
    exact ⟨c, f0, f1, f2, f3, f4, f6, sl, cl, dd, items, n, sl2, hk _ _ h1, h2, h2', hk _ _ h3, h4⟩
  refine hloop _ s.heap.objs.size _ _ hp' (Heap.get?_push_size _ rfl) ?_
  intro t' h' tk' hk'
  refine h t' h' tk' fun b o q => hk' b o ?_ (hk b o q)
  exact Nat.ne_of_lt (Heap.lt_size q)

theorem cut_zero (x : Str) : cut x 0 = x := by
  apply str_ext
  unfold cut
  simp
theorem join_one (x : Str) : Str.join ⟨#[]⟩ ([] ++ if 0 < x.cps.size then [cut x 0] else []) = x := by
  by_cases h : 0 < x.cps.size
  · rw [if_pos h, cut_zero]; rfl
  · rw [if_neg h]
    apply str_ext
    have : x.cps.toList = [] := by
      apply List.eq_nil_of_length_eq_zero
      rw [Array.length_toList]; omega
    rw [this]; rfl

/-- a pattern with a first set that the text does not meet leaves the text -/
theorem sub_none {a : Addr} {x z : Str} {t u : Tok} {code : Array Nat} {P : Nat → Prop} {Q : Value → Shared → Prop} (hp : IsPat s.heap a code) (hc : ∀ m : M, m.code = code → m.hasFirstSet = true) (hs : NoSet code P)
    (ht : ∀ c ∈ x.cps.toList, P c) (hx : x.cps.size ≤ 1000000) (hbs : z.cps.contains 92 = false)
    (h : ∀ t' h' tk', (∀ b o, s.heap.get? b = some o → h'.get? b = some o) → Q (.str x t') { s with heap := h', toks := tk' }) :
    wpAny (model prog w) A (call (.builtin "re.Pattern.sub") [.ref a, .str z u, .str x t]) Q E s := by
  refine sub_code (y := x) hp hbs ?_ h
  intro h' l R A' hp' hl hR
  refine loop_none (s := { s with heap := h' }) (ps := []) (dn := 0) (st := 0) (n := 0) (k := 1) hp' (by decide) Nat.one_le_two_pow (search_none hc hs ht 0 false) hl (by simp) hx (by simp) ?_
  intro t' h'' tk' hk
  have e : Str.join ⟨#[]⟩ (([] : List (Str × Tok)).map (·.1) ++ if 0 < x.cps.size then [cut x 0] else []) = x := join_one x
  rw [e]
  exact hR t' h'' tk' hk

theorem dotted_list (x z : Str) (hd : x.cps[0]? = some 46) (hz : z.cps.toList = [46, 46]) : (Str.join ⟨#[]⟩ ([z] ++ if 1 < x.cps.size then [cut x 1] else [])).cps.toList = 46 :: x.cps.toList := by
  obtain ⟨⟨l⟩⟩ := x
  cases l with
  | nil => simp at hd
  | cons c r =>
    have hc : c = 46 := by simpa using hd
    subst hc
    by_cases h : 1 < (46 :: r).length
    · have h' : 1 < (⟨46 :: r⟩ : Array Nat).size := h
      rw [if_pos h']
      show (z ++ ⟨#[]⟩ ++ Str.join ⟨#[]⟩ [cut ⟨⟨46 :: r⟩⟩ 1]).cps.toList = _
      simp only [Str.cps_append, Array.toList_append, hz]
      show [46, 46] ++ [] ++ (cut ⟨⟨46 :: r⟩⟩ 1).cps.toList = _
      unfold cut
      simp
    · have h' : ¬ 1 < (⟨46 :: r⟩ : Array Nat).size := h
      rw [if_neg h']
      have : r = [] := by
        cases r with
        | nil => rfl
        | cons _ _ => simp at h
      subst this
      show z.cps.toList = _
      rw [hz]

/-- the dot at the head -/
theorem sub_dot {a : Addr} {x z : Str} {t u : Tok} {Q : Value → Shared → Prop} (hp : IsPat s.heap a code1) (hn : ∀ c ∈ x.cps.toList, c ≠ 10) (hx : x.cps.size ≤ 1000000) (hz : z.cps.toList = [46, 46])
    (h : ∀ t' h' tk', (∀ b o, s.heap.get? b = some o → h'.get? b = some o) → Q (.str (mkS (plainL 2 x.cps.toList 0)) t') { s with heap := h', toks := tk' }) :
    wpAny (model prog w) A (call (.builtin "re.Pattern.sub") [.ref a, .str z u, .str x t]) Q E s := by
  have hzs : z = ⟨#[46, 46]⟩ := str_ext hz
  refine sub_code (y := mkS (plainL 2 x.cps.toList 0)) hp (by rw [hzs]; decide +kernel) ?_ h
  intro h' l R A' hp' hl hR
  have hh : x.cps.toList.head? = x.cps[0]? := by
    rw [List.head?_eq_getElem?, Array.getElem?_toList]
  by_cases hd : x.cps[0]? = some 46
  · have e : Str.join ⟨#[]⟩ ([z] ++ if 1 < x.cps.size then [cut x 1] else []) = mkS (plainL 2 x.cps.toList 0) := by
      apply str_ext
      rw [dotted_list x z hd hz, mkS_list]
      unfold plainL
      rw [if_neg (by decide), if_pos rfl, if_pos (by rw [hh]; exact hd)]
    refine loop_dot (s := { s with heap := h' }) hp' hn hd hl hx (by rw [hzs]; decide) ?_
    intro t' h'' tk' hk
    rw [e]
    exact hR t' h'' tk' hk
  · have e : mkS (plainL 2 x.cps.toList 0) = x := by
      apply str_ext
      rw [mkS_list]
      unfold plainL
      rw [if_neg (by decide), if_pos rfl, if_neg (by rw [hh]; exact hd)]
    refine loop_none (s := { s with heap := h' }) (ps := []) (dn := 0) (st := 0) (n := 0) (k := x.cps.size + 2) hp' (by omega) (by omega) (search1_nodot x.cps hn hd) hl (by simp) hx (by simp) ?_
    intro t' h'' tk' hk
    have e2 : Str.join ⟨#[]⟩ (([] : List (Str × Tok)).map (·.1) ++ if 0 < x.cps.size then [cut x 0] else []) = x := join_one x
    rw [e2]
    rw [e] at hR
    exact hR t' h'' tk' hk
end
end
section
open PySem PySem.W PyProof.Rows
set_option maxRecDepth 100000
set_option maxHeartbeats 8000000
open PySem.Builtin.Re in
theorem isPat_of {K : Frag} {h : Heap} {a c : Addr} {f0 f1 f2 f3 f4 f6 : Value} {sl sl2 : Array (Option Value)} {cl : Value} {dd : Option Addr} {items : Array Value} {n : Nat} {code : Array Nat} (X : K.In h)
   (h1 : K.lookup a = some ⟨.type "re.Pattern", none, .fields #[f0, f1, f2, f3, f4, .ref c, f6], sl⟩) (h2 : reRawNat f6 = 0) (h3 : reRawNat f2 = 0) (h4 : K.lookup c = some ⟨cl, dd, .seq items n, sl2⟩) (h5 : (items.map reRawOf).map (·.toNat) = code) : IsPat h a code :=
  ⟨⟨c, f0, f1, f2, f3, f4, f6, sl, cl, dd, items, n, sl2, X _ _ h1, h2, h3, X _ _ h4, h5⟩⟩
theorem isPat_N {w : World} {h : Heap} (X : (hd.heap_39 w.params).In h) : IsPat h 43 codeN := by
  refine' isPat_of X ?a ?b ?c ?d ?e
  case a => k_is
  case d => k_is
  case b => rfl
  case c => rfl
  case e => decide +kernel
theorem isPat_V {w : World} {h : Heap} (X : (hd.heap_39 w.params).In h) : IsPat h 48 codeV := by
  refine' isPat_of X ?a ?b ?c ?d ?e
  case a => k_is
  case d => k_is
  case b => rfl
  case c => rfl
  case e => decide +kernel
theorem isPat_1 {w : World} {h : Heap} (X : (hd.heap_39 w.params).In h) : IsPat h 187 code1 := by
  refine' isPat_of X ?a ?b ?c ?d ?e
  case a => k_is
  case d => k_is
  case b => rfl
  case c => rfl
  case e => decide +kernel
theorem isPat_2 {w : World} {h : Heap} (X : (hd.heap_39 w.params).In h) : IsPat h 192 code2 := by
  refine' isPat_of X ?a ?b ?c ?d ?e
  case a => k_is
  case d => k_is
  case b => rfl
  case c => rfl
  case e => decide +kernel

theorem news_keeps {h₀ h h' : Heap} {L : Addr} {news : List (Addr × Obj)} (N : News h₀ L h news) (hk : ∀ b o, h.get? b = some o → h'.get? b = some o) : News h₀ L h' news := fun p hp => ⟨hk _ _ (N p hp).1, (N p hp).2⟩

section
variable {prog : Program} {w : World} {A : Around} {E : Value → Shared → Prop} {s : Shared} {h₀ : Heap} {L : Addr} {m : Str → Option Value} {news : List (Addr × Obj)} {x z : Str} {t u : Tok}
theorem k_sub2 {Q : Value → Shared → Prop} (F : Fr h₀ L s.heap m) (N : News h₀ L s.heap news) (X : (hd.heap_39 w.params).In h₀) (hx : Plain x) (hl : x.length ≤ 1000000) (hs : 0 < s.toks) (hbs : z.cps.contains 92 = false)
    (h : ∀ t' h' tk', Fr h₀ L h' m → News h₀ L h' news → 0 < tk' → Q (.str x t') { s with heap := h', toks := tk' }) :
    wpAny (model prog w) A (call (.builtin "re.Pattern.sub") [.ref 192, .str z u, .str x t]) Q E s :=
  wpAny_with_toks (n := 1) hs (sub_none (isPat_2 (X.keeps F.keep)) first_2 noSet_2 (fun c hc => ⟨(hx c hc).1, (hx c hc).2.1⟩) hl hbs fun t' h' tk' hk q => h t' h' tk' (F.keeps hk) (news_keeps N hk) q)
theorem k_sub1 {Q : Value → Shared → Prop} (F : Fr h₀ L s.heap m) (N : News h₀ L s.heap news) (X : (hd.heap_39 w.params).In h₀) (hx : Plain x) (hl : x.length ≤ 1000000) (hs : 0 < s.toks) (hz : z.cps.toList = [46, 46])
    (h : ∀ t' h' tk', Fr h₀ L h' m → News h₀ L h' news → 0 < tk' → Q (.str (mkS (plainL 2 x.cps.toList 0)) t') { s with heap := h', toks := tk' }) :
    wpAny (model prog w) A (call (.builtin "re.Pattern.sub") [.ref 187, .str z u, .str x t]) Q E s :=
  wpAny_with_toks (n := 1) hs (sub_dot (isPat_1 (X.keeps F.keep)) (fun c hc e => by have := (hx c hc).1; omega) hl hz fun t' h' tk' hk q => h t' h' tk' (F.keeps hk) (news_keeps N hk) q)
theorem k_searchN {Q : Value → Shared → Prop} (F : Fr h₀ L s.heap m) (X : (hd.heap_39 w.params).In h₀) (hx : Plain x) (hl : x.length ≤ 1000000) (h : Q .none s) :
    wpAny (model prog w) A (call (.builtin "re.Pattern.search") [.ref 43, .str x t]) Q E s :=
  call_search_none (isPat_N (X.keeps F.keep)) first_N noSet_N (fun c hc => ⟨(hx c hc).1, (hx c hc).2.1⟩) (Nat.lt_of_le_of_lt hl (by decide)) h
theorem k_searchV {Q : Value → Shared → Prop} (F : Fr h₀ L s.heap m) (X : (hd.heap_39 w.params).In h₀) (hx : Plain x) (hl : x.length ≤ 1000000) (h : Q .none s) :
    wpAny (model prog w) A (call (.builtin "re.Pattern.search") [.ref 48, .str x t]) Q E s :=
  call_search_none (isPat_V (X.keeps F.keep)) first_V noSet_V (fun c hc => ⟨(hx c hc).1, (hx c hc).2.1⟩) (Nat.lt_of_le_of_lt hl (by decide)) h
end
theorem sdd : (Str.ofString "..").cps.toList = [46, 46] := by decide +kernel

/-- the same with keywords -/
def PK (w : World) (mean : ExcName → Option Value) (mg mb : Str → Option Value) (d : Nat) (f : Addr) (vs : List Value) (kw : List (Str × Value)) (R : Tok → Value) : Prop :=
  ∀ (dp un : Nat) (gd : Option (List Code)) (cn : Str) (cs : Scope) (a : Addr) (ccd : Value) (cl : List (Str × Addr)) (outer : List Env) (A₀ : Around) (base h₀ : Heap) (L : Addr) (m : Str → Option Value)
    (news : List (Addr × Obj)) (s : Shared) (Q E : Value → Shared → Prop),
    Below A₀ base outer h₀ → Fr h₀ L s.heap m → (hd.heap_39 w.params).In h₀ → News h₀ L s.heap news → Top hd.view_39 Lz mean mg mb h₀ → cs.kind = .function → 0 < s.toks →
    dp + d < recursionLimit → un + 8 * d < cLine →
    (∀ (t : Tok) (h' : Heap) (tk' : Nat), Fr h₀ L h' m → News h₀ L h' news → 0 < tk' → Q (R t) { s with heap := h', toks := tk' }) →
      wpAny (model pg w) (ktrTop dp un gd cn cs L a ccd cl outer) (call (.ref f) vs kw) Q E s


local macro_rules | `(tactic| walk_at "getMethod ref") => `(tactic| (with_reducible refine stop_in ?_))
local macro_rules | `(tactic| walk_at "call builtin:re.Pattern.sub") => `(tactic| (with_reducible refine stop_in ?_))
local macro_rules | `(tactic| walk_at "call builtin:re.Pattern.search") => `(tactic| (with_reducible refine stop_in ?_))

theorem c_quote (w : World) (mean : ExcName → Option Value) (mg mb : Str → Option Value) (x : Str) (t : Tok) (hx : Plain x) (hl : x.length ≤ 32768) :
   PC w mean mg mb 1 199 [.str x t] (fun t => .str (mkS (plainL 2 x.cps.toList 0)) t) := by
  unfold PC
  intro dp un gd cn cs a ccd cl outer A₀ base h₀ L m news s Q E B F X N T hk htk hdp hun hret
  have l0 : x.length ≤ 1000000 := Nat.le_trans hl (by decide)
  refine wpAny_with_toks (n := 1) htk ?_
  refine wpAny_call ?_
  k_dflt cell_enter
  (k_steps; repeat' (unfold Stop; (first | (k_here; first | ((with_reducible show wpAny _ _ (getMethod (Value.ref 187) _ _) _ _ _); refine re_method slot_sub type_sub (isPat_1 (by k_in)) ?_) | ((with_reducible show wpAny _ _ (getMethod (Value.ref 192) _ _) _ _ _); refine re_method slot_sub type_sub (isPat_2 (by k_in)) ?_) | ((with_reducible show wpAny _ _ (getMethod (Value.ref 43) _ _) _ _ _); refine re_method slot_search type_search (isPat_N (by k_in)) ?_) | ((with_reducible show wpAny _ _ (getMethod (Value.ref 48) _ _) _ _ _); refine re_method slot_search type_search (isPat_V (by k_in)) ?_)) | (k_here; k_dflt (first | (refine' k_sub2 ?F ?N ?X ?hx ?hl ?hs ?hbs ?_; (case F => k_asm); (case N => k_asm); (case X => k_asm); (case hx => assumption); (case hl => assumption); (case hs => walk_at "tpos"); (case hbs => decide +kernel); k_whole; intro t' h' tk' F' N' htk') | (refine' k_sub1 ?F ?N ?X ?hx ?hl ?hs ?hz ?_; (case F => k_asm); (case N => k_asm); (case X => k_asm); (case hx => assumption); (case hl => assumption); (case hs => walk_at "tpos"); (case hz => exact sdd); k_whole; intro t' h' tk' F' N' htk'))) | (k_here; k_dflt (first | (refine' k_searchN ?F ?X ?hx ?hl ?_; (case F => k_asm); (case X => k_asm); (case hx => assumption); (case hl => assumption)) | (refine' k_searchV ?F ?X ?hx ?hl ?_; (case F => k_asm); (case X => k_asm); (case hx => assumption); (case hl => assumption))))); k_steps))
  all_goals first | exact hret _ _ _ (by k_asm) (by k_asm) (by assumption) | exact hret 0 _ _ (by k_asm) (by k_asm) (by assumption)

theorem c_conv_val (w : World) (mean : ExcName → Option Value) (mg mb : Str → Option Value) (x : Str) (t : Tok) (self : Value) (hx : Plain x) (hl : x.length ≤ 1000000) :
   PK w mean mg mb 1 70 [self, .str x t] [(Str.ofString "name", .bool false)] (fun _ => .str x t) := by
  unfold PK
  intro dp un gd cn cs a ccd cl outer A₀ base h₀ L m news s Q E B F X N T hk htk hdp hun hret
  refine wpAny_with_toks (n := 1) htk ?_
  refine wpAny_call ?_
  k_dflt cell_enter
  (k_steps; repeat' (unfold Stop; (first | (k_here; first | ((with_reducible show wpAny _ _ (getMethod (Value.ref 187) _ _) _ _ _); refine re_method slot_sub type_sub (isPat_1 (by k_in)) ?_) | ((with_reducible show wpAny _ _ (getMethod (Value.ref 192) _ _) _ _ _); refine re_method slot_sub type_sub (isPat_2 (by k_in)) ?_) | ((with_reducible show wpAny _ _ (getMethod (Value.ref 43) _ _) _ _ _); refine re_method slot_search type_search (isPat_N (by k_in)) ?_) | ((with_reducible show wpAny _ _ (getMethod (Value.ref 48) _ _) _ _ _); refine re_method slot_search type_search (isPat_V (by k_in)) ?_)) | (k_here; k_dflt (first | (refine' k_sub2 ?F ?N ?X ?hx ?hl ?hs ?hbs ?_; (case F => k_asm); (case N => k_asm); (case X => k_asm); (case hx => assumption); (case hl => assumption); (case hs => walk_at "tpos"); (case hbs => decide +kernel); k_whole; intro t' h' tk' F' N' htk') | (refine' k_sub1 ?F ?N ?X ?hx ?hl ?hs ?hz ?_; (case F => k_asm); (case N => k_asm); (case X => k_asm); (case hx => assumption); (case hl => assumption); (case hs => walk_at "tpos"); (case hz => exact sdd); k_whole; intro t' h' tk' F' N' htk'))) | (k_here; k_dflt (first | (refine' k_searchN ?F ?X ?hx ?hl ?_; (case F => k_asm); (case X => k_asm); (case hx => assumption); (case hl => assumption)) | (refine' k_searchV ?F ?X ?hx ?hl ?_; (case F => k_asm); (case X => k_asm); (case hx => assumption); (case hl => assumption))))); k_steps))
  all_goals first | exact hret _ _ _ (by k_asm) (by k_asm) (by assumption) | exact hret 0 _ _ (by k_asm) (by k_asm) (by assumption)
theorem c_conv_name (w : World) (mean : ExcName → Option Value) (mg mb : Str → Option Value) (x : Str) (t : Tok) (self : Value) (hx : Plain x) (hl : x.length ≤ 1000000) :
   PK w mean mg mb 1 70 [self, .str x t] [(Str.ofString "name", .bool true)] (fun _ => .str x t) := by
  unfold PK
  intro dp un gd cn cs a ccd cl outer A₀ base h₀ L m news s Q E B F X N T hk htk hdp hun hret
  refine wpAny_with_toks (n := 1) htk ?_
  refine wpAny_call ?_
  k_dflt cell_enter
  (k_steps; repeat' (unfold Stop; (first | (k_here; first | ((with_reducible show wpAny _ _ (getMethod (Value.ref 187) _ _) _ _ _); refine re_method slot_sub type_sub (isPat_1 (by k_in)) ?_) | ((with_reducible show wpAny _ _ (getMethod (Value.ref 192) _ _) _ _ _); refine re_method slot_sub type_sub (isPat_2 (by k_in)) ?_) | ((with_reducible show wpAny _ _ (getMethod (Value.ref 43) _ _) _ _ _); refine re_method slot_search type_search (isPat_N (by k_in)) ?_) | ((with_reducible show wpAny _ _ (getMethod (Value.ref 48) _ _) _ _ _); refine re_method slot_search type_search (isPat_V (by k_in)) ?_)) | (k_here; k_dflt (first | (refine' k_sub2 ?F ?N ?X ?hx ?hl ?hs ?hbs ?_; (case F => k_asm); (case N => k_asm); (case X => k_asm); (case hx => assumption); (case hl => assumption); (case hs => walk_at "tpos"); (case hbs => decide +kernel); k_whole; intro t' h' tk' F' N' htk') | (refine' k_sub1 ?F ?N ?X ?hx ?hl ?hs ?hz ?_; (case F => k_asm); (case N => k_asm); (case X => k_asm); (case hx => assumption); (case hl => assumption); (case hs => walk_at "tpos"); (case hz => exact sdd); k_whole; intro t' h' tk' F' N' htk'))) | (k_here; k_dflt (first | (refine' k_searchN ?F ?X ?hx ?hl ?_; (case F => k_asm); (case X => k_asm); (case hx => assumption); (case hl => assumption)) | (refine' k_searchV ?F ?X ?hx ?hl ?_; (case F => k_asm); (case X => k_asm); (case hx => assumption); (case hl => assumption))))); k_steps))
  all_goals first | exact hret _ _ _ (by k_asm) (by k_asm) (by assumption) | exact hret 0 _ _ (by k_asm) (by k_asm) (by assumption)
end
section
open PySem PySem.W PyProof.Rows PySem.Calls
set_option maxRecDepth 100000
set_option maxHeartbeats 8000000

theorem name_cB {w : World} {mean : ExcName → Option Value} {mg mb : Str → Option Value} {M : Model} {A : Around} {E : Value → Shared → Prop} {s : Shared} {x : Str} {pos : Pos} {v : Value} {env : Env} {Q : Value → Shared → Prop} {g : Heap} (X : (hd.heap_39 w.params).In g) (T : Top hd.view_39 Lz mean mg mb g) (kp : ∀ b o, g.get? b = some o → s.heap.get? b = some o)
   (e : nsIn (hd.heap_39 w.params) mainGlobals x = some none) (hv : bootBuiltins x = some v) (hn : x ≠ "__name__") (hg : env.globals = mainGlobals) (hb : env.builtins = builtinsNs) (hk : env.scope.kind = .function) (hx : env.kindOf x = some .globalImplicit)
   (hd : (x == ("__debug__" : Str)) = false) (h : Q v s) : wpAny M A (eval (.Name x pos) env) Q E s := by
  refine Name_function_global hk hx ?_ hd
  refine loadGlobal_builtin (mg := mg) (mb := mb) ?_ (mg_none_of X T.g e) ?_ ((T.builtins x hn).trans hv) h
  · rw [hg]; exact T.g.keeps kp
  · rw [hb]; exact T.b.keeps kp

theorem ap_range : ∀ n, ∀ a ∈ ap n, 65 ≤ a ∧ a < 81 := by
  intro n
  induction n using ap.induct with
  | case1 => unfold ap; intro c hc; cases hc
  | case2 n ih =>
    unfold ap
    intro c hc
    rcases List.mem_append.mp hc with h | h
    · exact ih c h
    · simp at h
      omega
theorem apB_get {n j : Nat} {c : UInt8} (h : (apB n)[j]? = some c) : (ap n)[j]? = some c.toNat := by
  unfold apB at h
  rw [List.getElem?_toArray, List.getElem?_map] at h
  cases e : (ap n)[j]? with
  | none => rw [e] at h; cases h
  | some a =>
    rw [e] at h
    have ha := ap_range n a (List.mem_of_getElem? e)
    have hc : UInt8.ofNat a = c := by simpa using h
    rw [← hc]
    congr 1
    rw [UInt8.toNat_ofNat']
    exact (Nat.mod_eq_of_lt (by omega)).symm

theorem pair_strs {as : List Nat} : ∀ {vs ys : List Value}, Paired (fun v y => ∃ (k : Nat) (u u2 : Tok), v = .int k u ∧ y = .str (mkS [k]) u2) vs ys → vs.length = as.length → (∀ (j : Nat) (v : Value), vs[j]? = some v → ∃ (a : Nat) (u : Tok), as[j]? = some a ∧ v = .int a u) →
    ∃ l : List (Str × Tok), strValues l = ys ∧ l.map (·.1) = as.map fun k => mkS [k] := by
  intro vs ys h
  induction h generalizing as with
  | nil =>
    intro hl _
    cases as with
    | nil => exact ⟨[], rfl, rfl⟩
    | cons _ _ => cases hl
  | cons hab hr ih =>
    intro hl hv
    cases as with
    | nil => cases hl
    | cons a as =>
      obtain ⟨k, u, u2, rfl, rfl⟩ := hab
      obtain ⟨a', u', ha', hk⟩ := hv 0 _ rfl
      have ha : a = a' := by simpa using ha'
      subst ha
      have hka : k = a := by
        injection hk with h1 h2
        omega
      subst hka
      obtain ⟨l, h1, h2⟩ := ih (as := as) (by simpa using hl) (fun j v hj => hv (j + 1) v (by simpa using hj))
      exact ⟨(mkS [k], u2) :: l, by rw [← h1]; rfl, by rw [List.map_cons, h2]; rfl⟩
theorem join_singles : ∀ as : List Nat, Str.join ⟨#[]⟩ (as.map fun k => mkS [k]) = mkS as
  | [] => rfl
  | [a] => rfl
  | a :: b :: r => by
    have ih := join_singles (b :: r)
    show mkS [a] ++ ⟨#[]⟩ ++ Str.join ⟨#[]⟩ ((b :: r).map fun k => mkS [k]) = _
    rw [ih]
    apply str_ext
    simp only [Str.cps_append, Array.toList_append, mkS_list]
    rfl
theorem sempty : Str.ofString "" = ⟨#[]⟩ := by decide +kernel

theorem c_word (w : World) (mean : ExcName → Option Value) (mg mb : Str → Option Value) (n : Nat) (t : Tok) (hn : n < 16 ^ 6) :
   PC w mean mg mb 2 225 [.int n t] (fun t => .str (mkS (ap n)) t) := by
  unfold PC
  intro dp un gd cn cs a ccd cl outer A₀ base h₀ L m news s Q E B F X N T hk htk hdp hun hret
  refine wpAny_with_toks (n := 1) htk ?_
  refine wpAny_call ?_
  k_dflt cell_enter
  (k_steps; repeat' (unfold Stop; (k_here; (with_reducible show wpAny _ _ (call (Value.ref 182) [Value.int _ _] _) _ _ _); k_dflt (refine' (c_int2ap _ _ _ _ _ _ ?hn) _ _ _ _ _ _ _ _ _ _ _ _ _ _ _ _ _ _ ?B ?F ?X ?N ?T ?hk ?htk ?hdp ?hun ?_; (case hn => assumption); walk_at "ctr")); k_steps))
  rename Fr _ _ _ _ => F1
  rename News _ _ _ _ => N1
  rename (hd.heap_39 w.params).In _ => X1
  rename Top _ _ _ _ _ _ => T1
  refine KBw.pyIter_bytes ?_
  refine ⟨fun _ => true, fun v y => ∃ (k : Nat) (u u2 : Tok), v = .int k u ∧ y = .str (mkS [k]) u2, _, _, _, _, _, _, rfl, KBw.walks rfl _ _ _, ?_, ⟨_, Heap.get?_push_size _ rfl, rfl, rfl⟩, ?_, ⟨?_, ?_⟩, ?_⟩
  · unfold apB
    rw [List.size_toArray, List.length_map, sizeLine_eq]
    exact Nat.le_trans (ap_len 6 n hn) (by decide)
  · intro b hb
    rw [List.mem_singleton.mp hb, Heap.size_push]
    exact Nat.lt_succ_self _
  · intro C i v s₃ m₃ E' hP hns hm hk htk3
    exact wpAny_pure ⟨rfl, _, _, rfl, fun _ _ e => e⟩
  · intro C i v s₃ m₃ E' hP _ hns hm hk htk3
    obtain ⟨c, u, hc, rfl⟩ := hP
    have hr := ap_range n _ (List.mem_of_getElem? (apB_get hc))
    have kp := fun b o (e : Heap.get? _ b = some o) => hk b o (fun hb => by
      rw [List.mem_singleton.mp hb] at e
      exact absurd (Heap.lt_size (F1.keep _ _ e)) (Nat.lt_irrefl _)) (Heap.get?_push_of_some _ (F1.keep b o e))
    (k_steps; repeat' (unfold Stop; (k_here; (with_reducible show wpAny _ _ (call (Value.ref 182) [Value.int _ _] _) _ _ _); k_dflt (refine' (c_int2ap _ _ _ _ _ _ ?hn) _ _ _ _ _ _ _ _ _ _ _ _ _ _ _ _ _ _ ?B ?F ?X ?N ?T ?hk ?htk ?hdp ?hun ?_; (case hn => assumption); walk_at "ctr")); k_steps))
    refine' name_cB X1 T1 kp ?e ?hv ?hn rfl rfl rfl rfl ?hd ?_
    case e => k_dflt k_is
    case hv => boot_fast
    case hn => decide
    case hd => decide
    (k_steps; repeat' (unfold Stop; (k_here; (with_reducible show wpAny _ _ (call (Value.ref 182) [Value.int _ _] _) _ _ _); k_dflt (refine' (c_int2ap _ _ _ _ _ _ ?hn) _ _ _ _ _ _ _ _ _ _ _ _ _ _ _ _ _ _ ?B ?F ?X ?N ?T ?hk ?htk ?hdp ?hun ?_; (case hn => assumption); walk_at "ctr")); k_steps))
    exact ⟨_, _, rfl, fun _ _ e => e⟩
  · intro D h' tk ys vs hD hl hpl hlen hP hF hk
    have hf : List.filter (fun _ => true) vs = vs := List.filter_eq_self.mpr fun _ _ => rfl
    rw [hf] at hF
    obtain ⟨l, h1, h2⟩ := pair_strs (as := ap n) hF (by rw [hlen]; unfold apB; simp) (fun j v hj => by
      obtain ⟨c, u, hc, e⟩ := hP j v hj
      exact ⟨c.toNat, u, apB_get hc, e⟩)
    have e0 : ys = (strValues l).toArray := by rw [h1]
    rw [e0] at hl
    have hk2 := fun b o (e : Heap.get? _ b = some o) => hk b o (fun hb => by
      rw [List.mem_singleton.mp hb] at e
      exact absurd (Heap.lt_size e) (Nat.lt_irrefl _)) (Heap.get?_push_of_some _ e)
    have F2 := F1.keeps hk2
    have N2 := news_keeps N1 hk2
    clear F1 N1
    (k_steps; repeat' (unfold Stop; (k_here; (with_reducible show wpAny _ _ (call (Value.ref 182) [Value.int _ _] _) _ _ _); k_dflt (refine' (c_int2ap _ _ _ _ _ _ ?hn) _ _ _ _ _ _ _ _ _ _ _ _ _ _ _ _ _ _ ?B ?F ?X ?N ?T ?hk ?htk ?hdp ?hun ?_; (case hn => assumption); walk_at "ctr")); k_steps))
    refine SC.join hl h2 ?_ ?_
    · rw [sempty]
      refine joinOk_small ?_
      have g : ∀ as : List Nat, (List.map (fun (x : Str) => x.length) (as.map fun k => mkS [k])).sum = as.length := by
        intro as
        induction as with
        | nil => rfl
        | cons a r ih =>
          rw [List.map_cons, List.map_cons, List.sum_cons, ih, List.length_cons]
          show 1 + _ = _
          omega
      rw [g]
      exact Nat.le_trans (ap_len 6 n hn) (by decide)
    rw [sempty]
    have e1 : Txt.join ⟨#[]⟩ ((ap n).map fun k => mkS [k]) = mkS (ap n) := (StrLaws.glued_eq_join _ _).trans (join_singles _)
    rw [e1]
    intro t' k
    (k_steps; repeat' (unfold Stop; (k_here; (with_reducible show wpAny _ _ (call (Value.ref 182) [Value.int _ _] _) _ _ _); k_dflt (refine' (c_int2ap _ _ _ _ _ _ ?hn) _ _ _ _ _ _ _ _ _ _ _ _ _ _ _ _ _ _ ?B ?F ?X ?N ?T ?hk ?htk ?hdp ?hun ?_; (case hn => assumption); walk_at "ctr")); k_steps))
    all_goals exact hret _ _ _ (by k_asm) (by k_asm) (by assumption)
end
section
open PySem PySem.W PyProof.Rows PySem.Calls
set_option maxRecDepth 100000
set_option maxHeartbeats 8000000
theorem c_word_i (w : World) (mean : ExcName → Option Value) (mg mb : Str → Option Value) (i : Int) (t : Tok) (h0 : 0 ≤ i) (hn : i < 16777216) :
   PC w mean mg mb 2 225 [.int i t] (fun t => .str (mkS (ap i.toNat)) t) := by
  obtain ⟨n, rfl⟩ := Int.eq_ofNat_of_zero_le h0
  exact c_word w mean mg mb n t (by omega)


theorem add_T {prog : Program} {w : World} {A : Around} {E : Value → Shared → Prop} {s : Shared} {x y : Str} {t u : Tok} {Q : Value → Shared → Prop} (hsz : x.length + y.length ≤ 16777216) (hs : 0 < s.toks)
   (h : ∀ t' k, 0 < k → Q (.str (x ++ y) t') { s with toks := k }) : wpAny (model prog w) A (binaryOp .Add (.str x t) (.str y u)) Q E s :=
  wpAny_with_toks (n := 1) hs (add_str (fun t' k hk => h t' k hk) (by rw [sizeLine_eq]; exact hsz))
theorem len_mkS (l : List Nat) : (mkS l).length = l.length := by show l.toArray.size = _; rw [List.size_toArray]
theorem sdotamp : Str.ofString ".&" = ⟨#[46, 38]⟩ := by decide +kernel
local macro_rules | `(tactic| walk_at "binaryOp Add str str") => `(tactic| ((refine' add_T ?z ?hs ?_; (case z => (simp only [Str.length_append]; omega)); (case hs => walk_at "tpos")); intro t' k' htk'))
theorem c_done (w : World) (mean : ExcName → Option Value) (mg mb : Str → Option Value) (d i : Int) (x : Str) (t tx ti : Tok) (hx : Plain x) (hl : x.length ≤ 32768) (hd0 : 0 ≤ d) (hd : d < 4) (hi0 : 0 ≤ i) (hi : i < 16777216) :
   PC w mean mg mb 3 232 [.int d t, .str x tx, .int i ti] (fun t => .str (mkS (plainL d.toNat x.cps.toList i.toNat)) t) := by
  unfold PC
  intro dp un gd cn cs a ccd cl outer A₀ base h₀ L m news s Q E B F X N T hk htk hdp hun hret
  have hap : (mkS (ap i.toNat)).length ≤ 6 := by rw [len_mkS]; exact ap_len 6 _ (by omega)
  have hdl : (Str.ofString ".&").length = 2 := by decide +kernel
  refine wpAny_with_toks (n := 1) htk ?_
  refine wpAny_call ?_
  k_dflt cell_enter
  (k_steps; repeat' (unfold Stop; (k_here; first | ((with_reducible show wpAny _ _ (call (Value.ref 220) [Value.str _ _] _) _ _ _); k_dflt (refine' (c_attrib _ _ _ _ _ _ ?h1 ?h2) _ _ _ _ _ _ _ _ _ _ _ _ _ _ _ _ _ _ ?B ?F ?X ?N ?T ?hk ?htk ?hdp ?hun ?_; (case h1 => walk_at "side"); (case h2 => walk_at "side"); walk_at "ctr")) | ((with_reducible show wpAny _ _ (call (Value.ref 213) [Value.str _ _] _) _ _ _); k_dflt (refine' (c_cdata _ _ _ _ _ _ ?h1 ?h2) _ _ _ _ _ _ _ _ _ _ _ _ _ _ _ _ _ _ ?B ?F ?X ?N ?T ?hk ?htk ?hdp ?hun ?_; (case h1 => walk_at "side"); (case h2 => walk_at "side"); walk_at "ctr")) | ((with_reducible show wpAny _ _ (call (Value.ref 199) [Value.str _ _] _) _ _ _); k_dflt (refine' (c_quote _ _ _ _ _ _ ?h1 ?h2) _ _ _ _ _ _ _ _ _ _ _ _ _ _ _ _ _ _ ?B ?F ?X ?N ?T ?hk ?htk ?hdp ?hun ?_; (case h1 => walk_at "side"); (case h2 => walk_at "side"); walk_at "ctr")) | ((with_reducible show wpAny _ _ (call (Value.ref 225) [Value.int _ _] _) _ _ _); k_dflt (refine' (c_word_i _ _ _ _ _ _ ?h1 ?h2) _ _ _ _ _ _ _ _ _ _ _ _ _ _ _ _ _ _ ?B ?F ?X ?N ?T ?hk ?htk ?hdp ?hun ?_; (case h1 => walk_at "side"); (case h2 => walk_at "side"); walk_at "ctr"))); k_steps))
  · rename (d = 0) => e
    subst e
    have e : mkS (plainL 0 x.cps.toList i.toNat) = escA x := (escA_eq x _).symm
    refine cb_val (x := mkS (plainL 0 x.cps.toList i.toNat)) hret e.symm _ _ _ (by k_asm) (by k_asm) (by assumption)
  · rename (d = 1) => e
    subst e
    have e : mkS (plainL 1 x.cps.toList i.toNat) = escC x := (escC_eq x _).symm
    refine cb_val (x := mkS (plainL 1 x.cps.toList i.toNat)) hret e.symm _ _ _ (by k_asm) (by k_asm) (by assumption)
  · rename (d = 2) => e
    subst e
    exact hret _ _ _ (by k_asm) (by k_asm) (by assumption)
  · have e3 : d = 3 := by omega
    subst e3
    have e : mkS (plainL 3 x.cps.toList i.toNat) = Str.ofString ".&" ++ mkS (ap i.toNat) ++ x := by
      apply str_ext
      rw [sdotamp]
      simp only [Str.cps_append, Array.toList_append, mkS_list]
      rfl
    refine cb_val (x := mkS (plainL 3 x.cps.toList i.toNat)) hret e.symm _ _ _ (by k_asm) (by k_asm) (by assumption)
end
section
open PySem PySem.W PyProof.Rows PySem.Calls
set_option maxRecDepth 100000
set_option maxHeartbeats 8000000
theorem add_N {prog : Program} {w : World} {A : Around} {E : Value → Shared → Prop} {s : Shared} {x y : Str} {t u : Tok} {Q : Value → Shared → Prop} (hsz : x.length + y.length ≤ 16777216)
   (h : ∀ t' k, Q (.str (x ++ y) t') { s with toks := k }) : wpAny (model prog w) A (binaryOp .Add (.str x t) (.str y u)) Q E s := add_str (fun t' k => h t' k) (by rw [sizeLine_eq]; exact hsz)
local macro_rules | `(tactic| walk_at "binaryOp Add str str") => `(tactic| first | ((refine' add_T ?z ?hs ?_; (case z => (simp only [Str.length_append]; omega)); (case hs => walk_at "tpos")); intro t' k' htk') | (refine' add_N ?z ?_; (case z => (simp only [Str.length_append]; omega)); intro t' k'))
local macro_rules | `(tactic| walk_at "exec While Name cons nil") => `(tactic| (with_reducible refine stop_in ?_))
local macro_rules | `(tactic| walk_at "pyIter str") => `(tactic| (with_reducible refine stop_in ?_))

theorem ne_above {l : List (Addr × Obj)} {L d : Nat} (h : ∀ p ∈ l, p.1 < L) (hd : L ≤ d) : ∀ p ∈ l, p.1 ≠ d := fun p hp => Nat.ne_of_lt (Nat.lt_of_lt_of_le (h p hp) hd)
local macro_rules | `(tactic| k_all) => `(tactic| (refine ne_above (by assumption) (by omega)))
local macro_rules | `(tactic| walk_at "eval ListComp") => `(tactic| (with_reducible refine stop_in ?_))
theorem beq_one (a c : Nat) : ((⟨#[a]⟩ : Str) == ⟨#[c]⟩) = decide (c = a) := by
  by_cases h : c = a
  · subst h; simp
  · rw [decide_eq_false h]
    have : (⟨#[a]⟩ : Str) ≠ ⟨#[c]⟩ := by
      intro e
      have := congrArg (fun x : Str => x.cps.toList) e
      simp at this
      exact h this.symm
    simpa using this
theorem look3 (c : Nat) (y1 y2 y3 : Str) (t1 t2 t3 u1 u2 u3 : Tok) :
   ((Spec.lookup (PyData.str ⟨#[c]⟩) (strData [(.str (Str.ofString "&") t1, .str y1 u1), (.str (Str.ofString "<") t2, .str y2 u2), (.str (Str.ofString "\"") t3, .str y3 u3)])).getD (.str ⟨#[c]⟩)) =
     .str (if c = 38 then y1 else if c = 60 then y2 else if c = 34 then y3 else ⟨#[c]⟩) := by
  rw [s38, s60, s34]
  show ((if ((⟨#[38]⟩ : Str) == ⟨#[c]⟩) = true then some (PyData.str y1) else if ((⟨#[60]⟩ : Str) == ⟨#[c]⟩) = true then some (PyData.str y2) else if ((⟨#[34]⟩ : Str) == ⟨#[c]⟩) = true then some (PyData.str y3) else none).getD _) = _
  rw [beq_one, beq_one, beq_one]
  by_cases h1 : c = 38
  · simp [h1]
  · by_cases h2 : c = 60
    · simp [h2]
    · by_cases h3 : c = 34
      · simp [h3]
      · simp [h1, h2, h3]
theorem flat_str {v : Value} {y : Str} (h : PyProof.V.Flat v (.str y)) : ∃ t, v = .str y t := by
  have q := h {}
  cases q
  exact ⟨_, rfl⟩
def EltF (d : Nat) (v y : Value) : Prop := ∃ (k : Nat) (u u2 : Tok), v = .str ⟨#[k]⟩ u ∧ y = .str (mkS (spell d k)) u2
theorem elt_1 {v : Value} {c : Nat} {u t1 t2 t3 u1 u2 u3 : Tok} (h : PyProof.V.Flat v ((Spec.lookup (PyData.str ⟨#[c]⟩) (strData [(.str (Str.ofString "&") t1, .str (Str.ofString "&amp;") u1), (.str (Str.ofString "<") t2, .str (Str.ofString "&lt;") u2), (.str (Str.ofString "\"") t3, .str (Str.ofString "\"") u3)])).getD (.str ⟨#[c]⟩))) :
    EltF 1 (.str ⟨#[c]⟩ u) v := by
  rw [look3] at h
  obtain ⟨t, rfl⟩ := flat_str h
  refine ⟨c, u, t, rfl, ?_⟩
  congr 1
  rw [samp, slt, s34]
  unfold spell mkS
  by_cases h1 : c = 38
  · simp [h1]
  · by_cases h2 : c = 60
    · simp [h2]
    · by_cases h3 : c = 34
      · simp [h3]
      · simp [h1, h2, h3]
theorem elt_0 {v : Value} {c : Nat} {u t1 t2 t3 u1 u2 u3 : Tok} (h : PyProof.V.Flat v ((Spec.lookup (PyData.str ⟨#[c]⟩) (strData [(.str (Str.ofString "&") t1, .str (Str.ofString "&amp;") u1), (.str (Str.ofString "<") t2, .str (Str.ofString "&lt;") u2), (.str (Str.ofString "\"") t3, .str (Str.ofString "&quot;") u3)])).getD (.str ⟨#[c]⟩))) :
    EltF 0 (.str ⟨#[c]⟩ u) v := by
  rw [look3] at h
  obtain ⟨t, rfl⟩ := flat_str h
  refine ⟨c, u, t, rfl, ?_⟩
  congr 1
  rw [samp, slt, squot]
  unfold spell mkS
  by_cases h1 : c = 38
  · simp [h1]
  · by_cases h2 : c = 60
    · simp [h2]
    · by_cases h3 : c = 34
      · simp [h3]
      · simp [h1, h2, h3]
theorem pair_spell {d : Nat} {as : List Nat} : ∀ {vs ys : List Value}, Paired (EltF d) vs ys → vs.length = as.length → (∀ (j : Nat) (v : Value), vs[j]? = some v → ∃ (a : Nat) (u : Tok), as[j]? = some a ∧ v = .str ⟨#[a]⟩ u) →
    ∃ l : List (Str × Tok), strValues l = ys ∧ l.map (·.1) = as.map fun k => mkS (spell d k) := by
  intro vs ys h
  induction h generalizing as with
  | nil =>
    intro hl _
    cases as with
    | nil => exact ⟨[], rfl, rfl⟩
    | cons _ _ => cases hl
  | cons hab hr ih =>
    intro hl hv
    cases as with
    | nil => cases hl
    | cons a as =>
      obtain ⟨k, u, u2, rfl, rfl⟩ := hab
      obtain ⟨a', u', ha', hk⟩ := hv 0 _ rfl
      have ha : a = a' := by simpa using ha'
      subst ha
      have hka : k = a := by
        injection hk with h1 h2
        simpa using h1
      subst hka
      obtain ⟨l, h1, h2⟩ := ih (as := as) (by simpa using hl) (fun j v hj => hv (j + 1) v (by simpa using hj))
      exact ⟨(mkS (spell d k), u2) :: l, by rw [← h1]; rfl, by rw [List.map_cons, h2]; rfl⟩
theorem join_lists (f : Nat → List Nat) : ∀ as : List Nat, Str.join ⟨#[]⟩ (as.map fun k => mkS (f k)) = mkS (as.flatMap f)
  | [] => rfl
  | [a] => by
    show mkS (f a) = _
    simp
  | a :: b :: r => by
    have ih := join_lists f (b :: r)
    show mkS (f a) ++ ⟨#[]⟩ ++ Str.join ⟨#[]⟩ ((b :: r).map fun k => mkS (f k)) = _
    rw [ih]
    apply str_ext
    simp only [Str.cps_append, Array.toList_append, mkS_list]
    rw [List.flatMap_cons]
    simp
theorem sum_spell (d : Nat) : ∀ as : List Nat, ((as.map fun k => mkS (spell d k)).map (fun (x : Str) => x.length)).sum ≤ 6 * as.length
  | [] => by simp
  | a :: r => by
    have ih := sum_spell d r
    have := spell_len d a
    rw [List.map_cons, List.map_cons, List.sum_cons, len_mkS, List.length_cons]
    omega
theorem slice1 (x : Str) : (Txt.slice x none (some 1)).cps.toList = x.cps.toList.take 1 := by
  obtain ⟨⟨l⟩⟩ := x
  unfold Txt.slice
  cases l with
  | nil => rfl
  | cons c r =>
    have e : Builtin.Str.strSliceIndices none (some 1) 1 (⟨⟨c :: r⟩⟩ : Str).length = [0] := by
      show sliceRange 0 (max 0 (min 1 (((c :: r).length : Nat) : Int))) 1 = [0]
      have : max 0 (min 1 (((c :: r).length : Nat) : Int)) = 1 := by
        rw [List.length_cons]; omega
      rw [this]
      decide
    rw [e]
    cases r with
    | nil => rfl
    | cons b r =>
      rw [if_neg (by
        show ¬ (1 == 1 && (1 : Nat) == (c :: b :: r).length) = true
        simp)]
      rfl
theorem slice1_dot (x : Str) : (Txt.slice x none (some 1) == Str.ofString ".") = decide (x.cps.toList.head? = some 46) := by
  have sd : Str.ofString "." = ⟨#[46]⟩ := by decide +kernel
  rw [sd]
  have h := slice1 x
  by_cases hd : x.cps.toList.head? = some 46
  · rw [decide_eq_true hd]
    have : Txt.slice x none (some 1) = ⟨#[46]⟩ := by
      apply str_ext
      rw [h]
      obtain ⟨⟨l⟩⟩ := x
      cases l with
      | nil => cases hd
      | cons c r =>
        have hc : c = 46 := by simpa using hd
        subst hc
        rfl
    rw [this]; simp
  · rw [decide_eq_false hd]
    have : Txt.slice x none (some 1) ≠ ⟨#[46]⟩ := by
      intro e
      rw [e] at h
      apply hd
      obtain ⟨⟨l⟩⟩ := x
      cases l with
      | nil => simp at h
      | cons c r =>
        have : [46] = [c] := by simpa using h
        simp at this
        simp [this]
    simpa using this
theorem ap_item : ∀ q : Nat, q < 16 → Txt.item (Str.ofString "ABCDEFGHIJKLMNOP") (q : Int) = mkS [65 + q] := by decide +kernel
theorem mkS_app (a b : List Nat) : mkS a ++ mkS b = mkS (a ++ b) := by
  apply str_ext
  simp only [Str.cps_append, Array.toList_append, mkS_list]
theorem gen_all {α : Type} {M : Model} {A : Around} {t : Sem α} {Q : α → Shared → Prop} {E : Value → Shared → Prop} {s : Shared} (hp : 0 < s.toks)
    (H : ∀ h g d tk' os, 0 < tk' → h = s.heap → g = s.gens → d = s.drawn → os = s.os → wpAny M A t Q E ⟨h, g, d, tk', os⟩) : wpAny M A t Q E s := H _ _ _ _ _ hp rfl rfl rfl rfl
theorem c_plain (w : World) (mean : ExcName → Option Value) (mg mb : Str → Option Value) (d i : Int) (x : Str) (t tx ti : Tok) (hx : Plain x) (hl : x.length ≤ 32768) (hd0 : 0 ≤ d) (hd : d < 4) (hi0 : 0 ≤ i) (hi : i < 16777216) :
   PC w mean mg mb 3 237 [.int d t, .str x tx, .int i ti] (fun t => .str (mkS (plainL d.toNat x.cps.toList i.toNat)) t) := by
  unfold PC
  intro dp un gd cn cs a ccd cl outer A₀ base h₀ L m news s Q E B F X N T hk htk hdp hun hret
  refine wpAny_with_toks (n := 1) htk ?_
  refine wpAny_call ?_
  k_dflt ((refine' code_defC ?k1 ?k2 ?k3 ?k4 ?k5 ?kA ?kF ?kK ?k6 ?k7 ?k8 ?k9 ?kB ?kD ?_ ?c2 ?c3 ?c4; (case kA => exact rfl); (case kF => exact rfl); (case kK => assumption); (case k1 => k_asm); (case k2 => k_asm); (case k3 => k_asm); (case k4 => k_asm); (case k5 => k_asm); (case k6 => k_is); (case k7 => k_is); (case k8 => ktr_room); (case k9 => exact BindsTo.of_eq rfl); (case kB => exact rfl); (case kD => decide +kernel); (case c2 => exact rfl); (case c3 => exact rfl); (case c4 => exact rfl); k_whole; intro gZ LZ hZ tk' cells' FGZ FZ NZ Y' BZ XZ TZ l1; k_cells Y'; (try simp only [List.cons_append, List.nil_append] at NZ); (try dsimp only); (try k_lift BZ); (try k_fold)))
  k_steps
  · unfold Stop
    rename Fr _ _ _ _ => F1
    rename News _ _ _ _ => N1
    rename PyProof.V.FlatPairs _ _ _ => D2
    rename Obj.IsDictOf _ _ (strPairs _) => D1
    have hd1 : d = 1 := by omega
    subst hd1
    refine' wpAny_ListComp_free (fun _ => true) (EltF 1) ?clos ?cell ?kind ?names ?hx ?h ?hs
    case clos => with_unfolding_all rfl
    case cell => decide
    case kind => rfl
    case names => decide
    case hx => rfl
    case hs => intro _; rfl
    case h =>
      k_steps
      unfold Stop
      refine wpAny_pyIter_str fun o St hW hSt => ?_
      refine ⟨_, _, _, _, _, St, rfl, hW _ rfl, ?_, hSt, ?_, ⟨?_, ?_⟩, ?_⟩
      · rw [sizeLine_eq]; exact Nat.le_trans hl (by decide)
      · intro b hb
        rw [List.mem_singleton.mp hb, Heap.size_push]
        exact Nat.lt_succ_self _
      · intro C i v s₃ m₃ E' hC hP hns hm hk htk3
        exact wpAny_pure ⟨rfl, _, _, rfl, fun _ _ e => e⟩
      · intro C i v s₃ m₃ E' hC hP _ hns hm hk htk3
        obtain ⟨c, u, hc, rfl⟩ := hP
        have kp := fun b o (e : Heap.get? _ b = some o) => hk b o (fun hb => by
          rw [List.mem_singleton.mp hb] at e
          exact absurd (Heap.lt_size e) (Nat.lt_irrefl _)) (Heap.get?_push_of_some _ e)
        k_steps
        · rename PyProof.V.Flat _ _ => hv
          exact elt_1 hv
        · exact ⟨_, _, rfl, fun _ _ e => e⟩
      · intro D h' tk ys vs hD hl2 hpl hlen hP hF hk
        have hf : List.filter (fun _ => true) vs = vs := List.filter_eq_self.mpr fun _ _ => rfl
        rw [hf] at hF
        obtain ⟨l, h1, h2⟩ := pair_spell (as := x.cps.toList) hF (by rw [hlen, Array.length_toList]) (fun j v hj => by
          obtain ⟨c, u, hc, e⟩ := hP j v hj
          exact ⟨c, u, by rw [Array.getElem?_toList]; exact hc, e⟩)
        have e0 : ys = (strValues l).toArray := by rw [h1]
        rw [e0] at hl2
        have hk2 := fun b o (e : Heap.get? _ b = some o) => hk b o (fun hb => by
          rw [List.mem_singleton.mp hb] at e
          exact absurd (Heap.lt_size e) (Nat.lt_irrefl _)) (Heap.get?_push_of_some _ e)
        have F2 := F1.keeps hk2
        have N2 := news_keeps N1 hk2
        clear F1 N1
        k_steps
        refine SC.join hl2 h2 ?_ ?_
        · rw [sempty]
          refine joinOk_small (Nat.le_trans (sum_spell _ _) ?_)
          rw [Array.length_toList]
          exact Nat.le_trans (Nat.mul_le_mul_left 6 hl) (by decide)
        rw [sempty]
        have e1 : Txt.join ⟨#[]⟩ (x.cps.toList.map fun k => mkS (spell 1 k)) = mkS (plainL 1 x.cps.toList i.toNat) := (StrLaws.glued_eq_join _ _).trans (join_lists _ _)
        rw [e1]
        intro t' k
        k_steps
        all_goals exact hret _ _ _ (by k_asm) (cb_drop (by assumption) (fun p hp => List.mem_cons_of_mem _ (List.mem_cons_of_mem _ hp))) (by assumption)
  · unfold Stop
    rename Fr _ _ _ _ => F1
    rename News _ _ _ _ => N1
    rename PyProof.V.FlatPairs _ _ _ => D2
    rename Obj.IsDictOf _ _ (strPairs _) => D1
    have hd1 : d = 0 := by omega
    subst hd1
    refine' wpAny_ListComp_free (fun _ => true) (EltF 0) ?closb ?cellb ?kindb ?namesb ?hxb ?hb ?hsb
    case closb => with_unfolding_all rfl
    case cellb => decide
    case kindb => rfl
    case namesb => decide
    case hxb => rfl
    case hsb => intro _; rfl
    case hb =>
      k_steps
      unfold Stop
      refine wpAny_pyIter_str fun o St hW hSt => ?_
      refine ⟨_, _, _, _, _, St, rfl, hW _ rfl, ?_, hSt, ?_, ⟨?_, ?_⟩, ?_⟩
      · rw [sizeLine_eq]; exact Nat.le_trans hl (by decide)
      · intro b hb
        rw [List.mem_singleton.mp hb, Heap.size_push]
        exact Nat.lt_succ_self _
      · intro C i v s₃ m₃ E' hC hP hns hm hk htk3
        exact wpAny_pure ⟨rfl, _, _, rfl, fun _ _ e => e⟩
      · intro C i v s₃ m₃ E' hC hP _ hns hm hk htk3
        obtain ⟨c, u, hc, rfl⟩ := hP
        have kp := fun b o (e : Heap.get? _ b = some o) => hk b o (fun hb => by
          rw [List.mem_singleton.mp hb] at e
          exact absurd (Heap.lt_size e) (Nat.lt_irrefl _)) (Heap.get?_push_of_some _ e)
        k_steps
        · rename PyProof.V.Flat _ _ => hv
          exact elt_0 hv
        · exact ⟨_, _, rfl, fun _ _ e => e⟩
      · intro D h' tk ys vs hD hl2 hpl hlen hP hF hk
        have hf : List.filter (fun _ => true) vs = vs := List.filter_eq_self.mpr fun _ _ => rfl
        rw [hf] at hF
        obtain ⟨l, h1, h2⟩ := pair_spell (as := x.cps.toList) hF (by rw [hlen, Array.length_toList]) (fun j v hj => by
          obtain ⟨c, u, hc, e⟩ := hP j v hj
          exact ⟨c, u, by rw [Array.getElem?_toList]; exact hc, e⟩)
        have e0 : ys = (strValues l).toArray := by rw [h1]
        rw [e0] at hl2
        have hk2 := fun b o (e : Heap.get? _ b = some o) => hk b o (fun hb => by
          rw [List.mem_singleton.mp hb] at e
          exact absurd (Heap.lt_size e) (Nat.lt_irrefl _)) (Heap.get?_push_of_some _ e)
        have F2 := F1.keeps hk2
        have N2 := news_keeps N1 hk2
        clear F1 N1
        k_steps
        refine SC.join hl2 h2 ?_ ?_
        · rw [sempty]
          refine joinOk_small (Nat.le_trans (sum_spell _ _) ?_)
          rw [Array.length_toList]
          exact Nat.le_trans (Nat.mul_le_mul_left 6 hl) (by decide)
        rw [sempty]
        have e1 : Txt.join ⟨#[]⟩ (x.cps.toList.map fun k => mkS (spell 0 k)) = mkS (plainL 0 x.cps.toList i.toNat) := (StrLaws.glued_eq_join _ _).trans (join_lists _ _)
        rw [e1]
        intro t' k
        k_steps
        all_goals exact hret _ _ _ (by k_asm) (cb_drop (by assumption) (fun p hp => List.mem_cons_of_mem _ (List.mem_cons_of_mem _ hp))) (by assumption)
  · rename (d = 2) => e
    subst e
    rename ((Txt.slice x none (some 1) == Str.ofString ".") = true) => hs
    rw [slice1_dot] at hs
    have e : mkS (plainL 2 x.cps.toList i.toNat) = Str.ofString "." ++ x := by
      apply str_ext
      have sd : Str.ofString "." = ⟨#[46]⟩ := by decide +kernel
      rw [sd]
      simp only [Str.cps_append, Array.toList_append, mkS_list]
      unfold plainL
      rw [if_neg (by decide), if_pos rfl, if_pos (of_decide_eq_true hs)]
      rfl
    refine cb_val (x := mkS (plainL 2 x.cps.toList i.toNat)) hret e.symm _ _ _ (by k_asm) (cb_drop (by assumption) (fun p hp => List.mem_cons_of_mem _ hp)) (by assumption)
  · rename (d = 2) => e
    subst e
    rename ((Txt.slice x none (some 1) == Str.ofString ".") = false) => hs
    rw [slice1_dot] at hs
    have e : mkS (plainL 2 x.cps.toList i.toNat) = x := by
      apply str_ext
      rw [mkS_list]
      unfold plainL
      rw [if_neg (by decide), if_pos rfl, if_neg (of_decide_eq_false hs)]
    refine cb_val (x := mkS (plainL 2 x.cps.toList i.toNat)) hret e.symm _ _ _ (by k_asm) (cb_drop (by assumption) (fun p hp => List.mem_cons_of_mem _ hp)) (by assumption)
  · unfold Stop
    have e3 : d = 3 := by omega
    subst e3
    rename Fr _ _ _ _ => F1
    rename News _ _ _ _ => N1
    refine' While_inv (n₀ := i.toNat) (fun k m₁ nx => (∀ p ∈ news, p ∈ nx) ∧ ∃ (b : List Nat) (tb tn : Tok), ap i.toNat = ap k ++ b ∧ k ≤ i.toNat ∧ m₁ (Str.ofString "seen") = some (.int k tn) ∧ m₁ (Str.ofString "letters") = some (.str (mkS b) tb) ∧
       m₁ (Str.ofString "value") = some (.str x tx)) F1 N1 ⟨fun p hp => List.mem_cons_of_mem _ hp, [], _, _, (List.append_nil _).symm, Nat.le_refl _, ?wa, ?wb, ?wc⟩ ?turn
    case wa => exact congrArg (fun z => some (Value.int z ti)) (Int.toNat_of_nonneg hi0).symm
    case wb => exact congrArg (fun z => some (Value.str z _)) sempty
    case wc => rfl
    case turn =>
      rintro k m₁ nx h₁ tk₁ F2 N2 ⟨hnx, b, tb, tn, hb, hkn, e1, e2, e3⟩
      replace F2 := fr_pins F2 [(_, _), (_, _), (_, _)] (all1 e1 (all1 e2 (all1 e3 all0)))
      dsimp only [kstB] at F2
      clear F1 N1
      show wpAny _ _ _ _ _ _
      have hdl : (Str.ofString ".&").length = 2 := by decide +kernel
      have hbl : (mkS b).length ≤ 6 := by
        have h1 := ap_len 6 i.toNat (by omega)
        rw [hb, List.length_append] at h1
        rw [len_mkS]
        omega
      show wpAny _ _ _ _ _ _
      k_fold
      k_steps
      · rename ((k : Int) ≠ 0) => hk0
        rename Fr _ _ _ _ => F6
        rename News _ _ _ _ => N6
        rw [fdiv16, fmod16, ap_item _ (Nat.mod_lt _ (by decide)), mkS_app] at F6
        have hk1 : 0 < k := by omega
        have hap : ap k = ap (k / 16) ++ [65 + k % 16] := by
          obtain ⟨j, rfl⟩ : ∃ j, k = j + 1 := ⟨k - 1, by omega⟩
          rw [ap]
        refine WhileStep.intro F6 N6 (n' := k / 16) (by omega) ⟨hnx, [65 + k % 16] ++ b, _, _, ?_, by omega, by rfl, by rfl, by rfl⟩
        rw [hb, hap, List.append_assoc]
      · rename ((k : Int) = 0) => hk0
        have hk1 : k = 0 := by omega
        subst hk1
        have e0 : ap 0 = [] := by unfold ap; rfl
        rw [e0, List.nil_append] at hb
        have e : mkS (plainL 3 x.cps.toList i.toNat) = Str.ofString ".&" ++ mkS b ++ x := by
          apply str_ext
          rw [sdotamp, ← hb]
          simp only [Str.cps_append, Array.toList_append, mkS_list]
          rfl
        refine cb_val (x := mkS (plainL 3 x.cps.toList i.toNat)) hret e.symm _ _ _ (by k_asm) (cb_drop (by assumption) hnx) (by assumption)
end
local macro_rules | `(tactic| walk_at "exec For") => `(tactic| (with_reducible refine stop_in ?_))
local macro_rules | `(tactic| walk_at "call ref") => `(tactic| (k_here; (with_reducible show wpAny _ _ (call (Value.ref 70) [_, Value.str _ _] _) _ _ _); k_dflt (first
  | (refine' (c_conv_name _ _ _ _ _ _ _ ?h1 ?h2) _ _ _ _ _ _ _ _ _ _ _ _ _ _ _ _ _ _ ?B ?F ?X ?N ?T ?hk ?htk ?hdp ?hun ?_; (case h1 => walk_at "side"); (case h2 => walk_at "side"); walk_at "ctr")
  | (refine' (c_conv_val _ _ _ _ _ _ _ ?h1 ?h2) _ _ _ _ _ _ _ _ _ _ _ _ _ _ _ _ _ _ ?B ?F ?X ?N ?T ?hk ?htk ?hdp ?hun ?_; (case h1 => walk_at "side"); (case h2 => walk_at "side"); walk_at "ctr"))))
section
open PySem PySem.W PyProof.Rows PySem.Calls
set_option maxRecDepth 100000
section
variable {prog : Program} {w : World} {A : Around} {s : Shared} {env : Env} {h₀ : Heap}

/-- the end of a loop's turn -/
def TurnEnd (h₀ : Heap) (L : Addr) (wr : List Addr) (own : List (Addr × Obj)) (s : Shared) (J : (Str → Option Value) → List (Addr × Obj) → Prop) (Q : Flow → Shared → Prop) (f : Flow) (s₃ : Shared) : Prop :=
  match f with
  | .ret v => Q (.ret v) s₃
  | .brk => Q .next s₃
  | _ => ∃ h' tk m₂ news₂, s₃ = { s with heap := h', toks := tk } ∧ Fr h₀ L h' m₂ ∧ News h₀ L h' (own ++ news₂) ∧ (∀ p ∈ news₂, p.1 ∉ wr) ∧ J m₂ news₂

theorem code_for {R : Result → Shared → Prop} {target : Expr} {body : List Stmt} {I : Addr} {fp wr : List Addr} {n : Nat} {P : Nat → Value → Prop} {St : Nat → Heap → Prop} {m : Str → Option Value} {news : List (Addr × Obj)} {Q : Flow → Shared → Prop}
    (W : Walks prog w A I fp wr n P St) (hLf : env.locals ∉ fp) (hwr : ∀ b ∈ wr, h₀.get? b = none) (hnw : ∀ p ∈ news, p.1 ∉ wr) (hst : St 0 s.heap) (hs : 0 < s.toks)
    (F : Fr h₀ env.locals s.heap m) (N : News h₀ env.locals s.heap news) (J : Nat → (Str → Option Value) → List (Addr × Obj) → Prop) (h0 : J 0 m news)
    (go : ∀ i v (s' : Shared) (Q : Unit → Shared → Prop) (E : Value → Shared → Prop), St i s'.heap → Q () s' → wpAny (model prog w) A (letOwnedTupleGo target (.ref I) v) Q E s')
    (hQ : ∀ f s', Q f s' → R (.ok f) s')
    (step : ∀ i v m₁ news₁ own h tk, 0 < tk → i < n → P i v → J i m₁ news₁ → (∀ p ∈ news₁, p.1 ∉ wr) → (∀ p ∈ own, p.1 ∈ fp) → St (i + 1) h → (∀ b ∈ fp, h₀.get? b = none → ∀ o, h.get? b = some o → (b, o) ∈ own) → Fr h₀ env.locals h m₁ → News h₀ env.locals h (own ++ news₁) →
      wpAny (model prog w) A (assign target env v) (fun _ s₂ => wpAny (model prog w) A (execs body env) (TurnEnd h₀ env.locals wr own s (J (i + 1)) Q)
        (notedBy (model prog w) A env fun e s' => R (.error e) s') s₂) (notedBy (model prog w) A env fun e s' => R (.error e) s') { s with heap := h, toks := tk })
    (hR : ∀ h' tk m' news', 0 < tk → Fr h₀ env.locals h' m' → News h₀ env.locals h' news' → J n m' news' → Q .next { s with heap := h', toks := tk }) :
    codeAny (model prog w) A (.forLoop target (.ref I) body [] env) R s := by
  have hLw : env.locals ∉ wr := fun h => hLf (W.sub _ h)
  have old : ∀ b o, h₀.get? b = some o → b ∉ wr := fun b o e hb => by rw [hwr b hb] at e; cases e
  refine codeAny_forLoop_any
    (fun k s' => ∃ h' tk m' news' i, s' = { s with heap := h', toks := tk } ∧ 0 < tk ∧ St i h' ∧ Fr h₀ env.locals h' m' ∧ News h₀ env.locals h' news' ∧ (∀ p ∈ news', p.1 ∉ wr) ∧ J i m' news' ∧ i ≤ n ∧ k = n + 1 - i) ?_ (n + 1)
    ⟨s.heap, s.toks, m, news, 0, rfl, hs, hst, F, N, hnw, h0, Nat.zero_le _, rfl⟩
  rintro k s' ⟨h', tk, m', news', i, rfl, htk, hst', F', N', hnw', hJ, hi, rfl⟩
  have next : ∀ h₁ : Heap, (∀ b o, b ∉ wr → h'.get? b = some o → h₁.get? b = some o) → Fr h₀ env.locals h₁ m' ∧ News h₀ env.locals h₁ news' := fun h₁ hk₁ =>
    ⟨⟨F'.ns.at' fun o e => hk₁ _ o hLw e, fun b o e => hk₁ b o (old b o e) (F'.keep b o e), F'.above⟩, fun p hp => ⟨hk₁ _ _ (hnw' p hp) (N' p hp).1, (N' p hp).2⟩⟩
  refine wpAny_with_toks (n := 1) htk ?_
  by_cases hlt : i < n
  · refine W.item i _ _ _ hlt hst' fun v h₁ tk₁ hP hst₁ hk₁ htk₁ => ?_
    obtain ⟨F₁, N₁⟩ := next h₁ hk₁
    have Nown : News h₀ env.locals h₁ (ownOf h₀ fp h₁) := news_ownOf hLf
    refine go (i + 1) v _ _ _ hst₁ ?_
    refine wpAny_with_toks (n := 1) htk₁ (wpAny_mono (step i v m' news' (ownOf h₀ fp h₁) h₁ tk₁ htk₁ hlt hP hJ hnw' ownOf_sub hst₁ (fun _ hb hn _ e => mem_ownOf hb hn e) F₁ (Nown.append N₁)) (fun _ s₂ h₂ htk₂ => ?_) fun _ _ e _ => e)
    refine wpAny_with_toks (n := 1) htk₂ (wpAny_mono h₂ (fun f s₃ h₃ htk₃ => ?_) fun _ _ e _ => e)
    have fin : (∃ h' tk m₂ news₂, s₃ = { s with heap := h', toks := tk } ∧ Fr h₀ env.locals h' m₂ ∧ News h₀ env.locals h' (ownOf h₀ fp h₁ ++ news₂) ∧ (∀ p ∈ news₂, p.1 ∉ wr) ∧ J (i + 1) m₂ news₂) →
        ∃ k', k' < n + 1 - i ∧ ∃ h' tk m' news' i', s₃ = { s with heap := h', toks := tk } ∧ 0 < tk ∧ St i' h' ∧ Fr h₀ env.locals h' m' ∧ News h₀ env.locals h' news' ∧ (∀ p ∈ news', p.1 ∉ wr) ∧ J i' m' news' ∧ i' ≤ n ∧ k' = n + 1 - i' := by
      rintro ⟨h₃', tk₃, m₂, news₂, rfl, F₃, N₃, ha₃, hJ₃⟩
      refine ⟨n + 1 - (i + 1), by omega, h₃', tk₃, m₂, news₂, i + 1, rfl, htk₃, ?_, F₃, N₃.right, ha₃, hJ₃, hlt, rfl⟩
      refine W.frame _ _ _ hst₁ fun b hb o e => ?_
      cases hn : h₀.get? b with
      | some o₀ =>
        have : o₀ = o := by have := F₁.keep b o₀ hn; rw [e] at this; exact (Option.some.inj this).symm
        exact this ▸ F₃.keep b o₀ hn
      | none => exact (N₃ _ (List.mem_append_left _ (mem_ownOf hb hn e))).1
    cases f with
    | ret v => exact hQ _ _ h₃
    | brk => exact hQ _ _ h₃
    | cont => exact fin h₃
    | next => exact fin h₃
  · have hin : i = n := by omega
    subst hin
    refine W.done _ _ _ hst' fun h₁ tk₁ hk₁ htk₁ => wpAny_execs_nil ?_
    obtain ⟨F₁, N₁⟩ := next h₁ hk₁
    exact hQ _ _ (hR h₁ tk₁ m' news' htk₁ F₁ N₁ hJ)

/-- where a for stands behind its iterator -/
def LoopT (prog : Program) (w : World) (A : Around) (h₀ : Heap) (env : Env) (target : Expr) (body : List Stmt) (Q : Flow → Shared → Prop) (E : Value → Shared → Prop) (it : Value) (s : Shared) : Prop :=
  ∃ (I : Addr) (fp wr : List Addr) (n : Nat) (P : Nat → Value → Prop) (St : Nat → Heap → Prop) (m : Str → Option Value) (news : List (Addr × Obj)) (J : Nat → (Str → Option Value) → List (Addr × Obj) → Prop),
    it = .ref I ∧ Walks prog w A I fp wr n P St ∧ env.locals ∉ fp ∧ (∀ b ∈ wr, h₀.get? b = none) ∧ (∀ p ∈ news, p.1 ∉ wr) ∧ St 0 s.heap ∧ 0 < s.toks ∧ Fr h₀ env.locals s.heap m ∧ News h₀ env.locals s.heap news ∧ J 0 m news ∧
    (∀ i v (s' : Shared) (Q : Unit → Shared → Prop) (E : Value → Shared → Prop), St i s'.heap → Q () s' → wpAny (model prog w) A (letOwnedTupleGo target (.ref I) v) Q E s') ∧
    (∀ i v m₁ news₁ own h tk, 0 < tk → i < n → P i v → J i m₁ news₁ → (∀ p ∈ news₁, p.1 ∉ wr) → (∀ p ∈ own, p.1 ∈ fp) → St (i + 1) h → (∀ b ∈ fp, h₀.get? b = none → ∀ o, h.get? b = some o → (b, o) ∈ own) → Fr h₀ env.locals h m₁ → News h₀ env.locals h (own ++ news₁) →
      wpAny (model prog w) A (assign target env v) (fun _ s₂ => wpAny (model prog w) A (execs body env) (TurnEnd h₀ env.locals wr own s (J (i + 1)) Q) E s₂) E { s with heap := h, toks := tk }) ∧
    (∀ h' tk m' news', 0 < tk → Fr h₀ env.locals h' m' → News h₀ env.locals h' news' → J n m' news' → Q .next { s with heap := h', toks := tk })

theorem For_T {E : Value → Shared → Prop} {Q : Flow → Shared → Prop} {target : Expr} {pos : Pos} {iter : Expr} {body : List Stmt} (h₀ : Heap)
    (h : wpAny (model prog w) A (eval iter env) (fun xv s₁ => wpAny (model prog w) A (pyIter xv) (fun it s₂ => LoopT prog w A h₀ env target body Q E it s₂) E s₁) E s)
    (hs : ∀ x, foldedSetIterable iter env x = pure x := by intro _; rfl)
    (hE : PassesOwn (model prog w) A env E := by passes_own) :
    wpAny (model prog w) A (exec (.For target iter body [] pos) env) Q E s := by
  refine wpAny_For (wpAny_mono h (fun xv s₁ h₁ => wpAny_mono h₁ (fun it s₂ h₂ => ?_) fun _ _ e => e) fun _ _ e => e) hs
  obtain ⟨I, fp, wr, n, P, St, m, news, J, rfl, W, hLf, hwr, hnw, hst, htk, F, N, h0, go, step, hQ⟩ := h₂
  refine code_for (R := fun r s' => match r with | .ok f => Q f s' | .error e => cameBackBy (model prog w) A env E e s') (Q := Q) W hLf hwr hnw hst htk F N J h0 go (fun _ _ q => q) ?_ hQ
  intro i v m₁ news₁ own h tk a b c d e f g k g2 k2
  exact wpAny_passesOwn hE (wpAny_mono (step i v m₁ news₁ own h tk a b c d e f g k g2 k2) (fun _ _ q => wpAny_passesOwn hE q) fun _ _ q => q)
theorem For_TF {E : Value → Shared → Prop} {Q : Flow → Shared → Prop} {target : Expr} {pos : Pos} {iter : Expr} {body : List Stmt} {h₀ h' : Heap} {L : Addr} {m : Str → Option Value} (_F : Fr h₀ L h' m)
    (h : wpAny (model prog w) A (eval iter env) (fun xv s₁ => wpAny (model prog w) A (pyIter xv) (fun it s₂ => LoopT prog w A h₀ env target body Q E it s₂) E s₁) E s)
    (hs : ∀ x, foldedSetIterable iter env x = pure x := by intro _; rfl)
    (hE : PassesOwn (model prog w) A env E := by passes_own) :
    wpAny (model prog w) A (exec (.For target iter body [] pos) env) Q E s := For_T h₀ h hs hE
end

section
variable {prog : Program} {w : World} {A : Around} {E : Value → Shared → Prop} {s : Shared} {env : Env} {h₀ : Heap} {target : Expr} {body : List Stmt} {Q : Flow → Shared → Prop}

theorem go_name {x : Str} {p : Pos} {it v : Value} {s : Shared} {Q : Unit → Shared → Prop} (h : Q () s) : wpAny (model prog w) A (letOwnedTupleGo (.Name x p) it v) Q E s := wpAny_pure h
theorem go_listiter {es : List Expr} {c : Nat} {p : Pos} {I l : Addr} {i : Nat} {v : Value} {s : Shared} {Q : Unit → Shared → Prop} (hi : s.heap.IsListIter I l i) (h : Q () s) : wpAny (model prog w) A (letOwnedTupleGo (.Tuple es c p) (.ref I) v) Q E s := by
  obtain ⟨o, ho, hc, hd⟩ := hi
  unfold letOwnedTupleGo
  cases v <;> first | exact wpAny_pure h | skip
  refine wpAny_bind (wpAny_load ho ?_)
  rw [hc, hd]
  dsimp only
  rw [if_neg (by simp)]
  exact wpAny_pure h

/-- a list that the loop leaves alone -/
theorem loop_list {l : Addr} {items : Array Value} {m : Str → Option Value} {news : List (Addr × Obj)} (J : Nat → (Str → Option Value) → List (Addr × Obj) → Prop)
    (hh : A.handled = none) (hl : s.heap.IsList l items) (hlL : l ≠ env.locals) (hs : 0 < s.toks) (F : Fr h₀ env.locals s.heap m) (N : News h₀ env.locals s.heap news) (h0 : J 0 m news)
    (htup : (∃ x p, target = .Name x p) ∨ ∃ es c p, target = .Tuple es c p)
    (step : ∀ i v m₁ news₁ own h tk, 0 < tk → items[i]? = some v → J i m₁ news₁ → (∀ p ∈ news₁, p.1 ≠ s.heap.objs.size) → (∀ p ∈ own, p.1 = s.heap.objs.size ∨ p.1 = l) → Fr h₀ env.locals h m₁ → News h₀ env.locals h (own ++ news₁) →
      wpAny (model prog w) A (assign target env v) (fun _ s₂ => wpAny (model prog w) A (execs body env) (TurnEnd h₀ env.locals [s.heap.objs.size] own s (J (i + 1)) Q) E s₂) E { s with heap := h, toks := tk })
    (hR : ∀ h' tk m' news', 0 < tk → Fr h₀ env.locals h' m' → News h₀ env.locals h' news' → J items.size m' news' → Q .next { s with heap := h', toks := tk }) :
    wpAny (model prog w) A (pyIter (.ref l)) (fun it s₂ => LoopT prog w A h₀ env target body Q E it s₂) E s := by
  have hlt : l < s.heap.objs.size := by obtain ⟨_, e, _⟩ := hl; exact Heap.lt_size e
  refine wpAny_pyIter_list hl ?_
  refine ⟨_, _, _, _, _, _, m, news, J, rfl, Walks.list hh _ _ (Nat.ne_of_lt hlt) items, ?_, ?_, ?_, ⟨⟨_, Heap.get?_push_size _ rfl, rfl, rfl⟩, hl.push _⟩, hs, F.push _, (fun p hp => ⟨Heap.get?_push_of_some _ (N p hp).1, (N p hp).2⟩), h0, ?_, ?_, ?_⟩
  · intro hm
    rcases List.mem_cons.mp hm with e | hm
    · exact absurd F.ns.lt (e ▸ Nat.lt_irrefl _)
    · exact hlL (List.mem_singleton.mp hm).symm
  · intro b hb
    rw [List.mem_singleton.mp hb]
    exact F.fresh
  · intro p hp hI
    exact absurd (Heap.lt_size (N p hp).1) ((List.mem_singleton.mp hI) ▸ Nat.lt_irrefl _)
  · intro i v s' Q E hSt h
    rcases htup with ⟨x, p, rfl⟩ | ⟨es, c, p, rfl⟩
    · exact go_name h
    · exact go_listiter hSt.1 h
  · intro i v m₁ news₁ own h tk a _ c d e f _ _ g k
    refine step i v m₁ news₁ own h tk a c d (fun p hp q => e p hp (List.mem_singleton.mpr q)) (fun p hp => ?_) g k
    rcases List.mem_cons.mp (f p hp) with q | q
    · exact .inl q
    · exact .inr (List.mem_singleton.mp q)
  · exact hR
end
end
section
open PySem PySem.W PyProof.Rows PySem.Calls
set_option maxRecDepth 100000
section
variable {prog : Program} {w : World} {A : Around} {E : Value → Shared → Prop} {s : Shared} {env : Env} {h₀ : Heap} {target : Expr} {body : List Stmt} {Q : Flow → Shared → Prop}
theorem loop_range {r : Addr} {n : Nat} {t u v : Tok} {m : Str → Option Value} {news : List (Addr × Obj)} (J : Nat → (Str → Option Value) → List (Addr × Obj) → Prop)
    (hh : A.handled = none) (hr : IsRange s.heap r 0 (n : Int) 1 t u v) (hsz : Builtin.Range.rangeSize 0 (n : Int) 1 = (n : Int)) (hsm : Builtin.Range.small 0 (n : Int) 1 = true) (hs : 0 < s.toks) (F : Fr h₀ env.locals s.heap m) (N : News h₀ env.locals s.heap news) (h0 : J 0 m news)
    (htup : ∃ x p, target = .Name x p)
    (step : ∀ i t m₁ news₁ own h tk, 0 < tk → i < n → J i m₁ news₁ → (∀ p ∈ news₁, p.1 ≠ s.heap.objs.size) → (∀ p ∈ own, p.1 = s.heap.objs.size) → (∃ o : Obj, (s.heap.objs.size, o) ∈ own ∧ o.cls = .type "range_iterator") → Fr h₀ env.locals h m₁ → News h₀ env.locals h (own ++ news₁) →
      wpAny (model prog w) A (assign target env (.int (i : Int) t)) (fun _ s₂ => wpAny (model prog w) A (execs body env) (TurnEnd h₀ env.locals [s.heap.objs.size] own s (J (i + 1)) Q) E s₂) E { s with heap := h, toks := tk })
    (hR : ∀ h' tk m' news', 0 < tk → Fr h₀ env.locals h' m' → News h₀ env.locals h' news' → J n m' news' → Q .next { s with heap := h', toks := tk }) :
    wpAny (model prog w) A (pyIter (.ref r)) (fun it s₂ => LoopT prog w A h₀ env target body Q E it s₂) E s := by
  refine wpAny_pyIter_range hr hsm ?_
  refine ⟨_, _, _, _, _, _, m, news, J, rfl, Walks.range hh _ 0 1 n, ?_, ?_, ?_, ?_, hs, F.push _, (fun p hp => ⟨Heap.get?_push_of_some _ (N p hp).1, (N p hp).2⟩), h0, ?_, ?_, ?_⟩
  · intro hm
    exact absurd F.ns.lt ((List.mem_singleton.mp hm) ▸ Nat.lt_irrefl _)
  · intro b hb
    rw [List.mem_singleton.mp hb]
    exact F.fresh
  · intro p hp hI
    exact absurd (Heap.lt_size (N p hp).1) ((List.mem_singleton.mp hI) ▸ Nat.lt_irrefl _)
  · have e1 : (0 : Int) + ((0 : Nat) : Int) * 1 = 0 := by omega
    have e2 : (n : Int) - ((0 : Nat) : Int) = n := by omega
    show IsRangeIter _ _ (0 + ((0 : Nat) : Int) * 1) ((n : Int) - ((0 : Nat) : Int)) 1
    rw [e1, e2]
    have : IsRangeIter (s.heap.push { cls := .type "range_iterator", data := .fields #[rawInt 0, rawInt (Builtin.Range.rangeSize 0 n 1), rawInt 1] }) s.heap.objs.size 0 (Builtin.Range.rangeSize 0 n 1) 1 := Heap.get?_push_size _ rfl
    rw [hsz] at this
    rw [hsz]
    exact this
  · obtain ⟨x, p, rfl⟩ := htup
    intro i v s' Q E _ h
    exact go_name h
  · intro i v m₁ news₁ own h tk a b ⟨t, c⟩ d e f g2 k2 g k
    have e1 : (0 : Int) + (i : Int) * 1 = i := by omega
    rw [e1] at c
    subst c
    exact step i t m₁ news₁ own h tk a b d (fun p hp q => e p hp (List.mem_singleton.mpr q)) (fun p hp => List.mem_singleton.mp (f p hp)) ⟨_, k2 _ (List.mem_singleton.mpr rfl) F.fresh _ g2, rfl⟩ g k
  · exact hR
end
end
section
open PySem PySem.W PyProof.Rows PySem.Calls
set_option maxRecDepth 100000
section
variable {prog : Program} {w : World} {A : Around} {s : Shared} {env : Env} {h₀ : Heap}
theorem code_forZ {R : Result → Shared → Prop} {elts : List Expr} {c : Nat} {pos : Pos} {body : List Stmt} {I : Addr} {fp wr : List Addr} {n : Nat} {Pt : Nat → Array Value → Prop} {St : Nat → Heap → Prop} {Mid : Nat → Addr → Heap → Prop} {m : Str → Option Value} {news : List (Addr × Obj)} {Q : Flow → Shared → Prop}
    (W : WalksT prog w A I fp wr n Pt St Mid) (hLf : env.locals ∉ fp) (hwr : ∀ b ∈ wr, h₀.get? b = none) (hnw : ∀ p ∈ news, p.1 ∉ wr) (hst : St 0 s.heap) (hs : 0 < s.toks)
    (F : Fr h₀ env.locals s.heap m) (N : News h₀ env.locals s.heap news) (J : Nat → (Str → Option Value) → List (Addr × Obj) → Prop) (h0 : J 0 m news)
    (hQ : ∀ f s', Q f s' → R (.ok f) s')
    (step : ∀ i (T : Addr) (o : Obj) (vals : Array Value) (q : Nat) m₁ news₁ own h tk, 0 < tk → i < n → Pt i vals → o.cls = .type "tuple" → o.data = .seq vals q → J i m₁ news₁ → (∀ p ∈ news₁, p.1 ∉ wr) → (∀ p ∈ own, p.1 ∈ fp) → T ∉ wr → Fr h₀ env.locals h m₁ → News h₀ env.locals h ((T, o) :: (own ++ news₁)) →
      wpAny (model prog w) A (assign (.Tuple elts c pos) env (.ref T)) (fun _ s₂ => wpAny (model prog w) A (execs body env) (TurnEnd h₀ env.locals wr own s (J (i + 1)) Q)
        (notedBy (model prog w) A env fun e s' => R (.error e) s') s₂) (notedBy (model prog w) A env fun e s' => R (.error e) s') { s with heap := h, toks := tk })
    (hR : ∀ h' tk m' news', 0 < tk → Fr h₀ env.locals h' m' → News h₀ env.locals h' news' → J n m' news' → Q .next { s with heap := h', toks := tk }) :
    codeAny (model prog w) A (.forLoop (.Tuple elts c pos) (.ref I) body [] env) R s := by
  have hLw : env.locals ∉ wr := fun h => hLf (W.sub _ h)
  have old : ∀ b o, h₀.get? b = some o → b ∉ wr := fun b o e hb => by rw [hwr b hb] at e; cases e
  refine codeAny_forLoop_any
    (fun k s' => ∃ h' tk m' news' i, s' = { s with heap := h', toks := tk } ∧ 0 < tk ∧ St i h' ∧ Fr h₀ env.locals h' m' ∧ News h₀ env.locals h' news' ∧ (∀ p ∈ news', p.1 ∉ wr) ∧ J i m' news' ∧ i ≤ n ∧ k = n + 1 - i) ?_ (n + 1)
    ⟨s.heap, s.toks, m, news, 0, rfl, hs, hst, F, N, hnw, h0, Nat.zero_le _, rfl⟩
  rintro k s' ⟨h', tk, m', news', i, rfl, htk, hst', F', N', hnw', hJ, hi, rfl⟩
  have next : ∀ h₁ : Heap, (∀ b o, b ∉ wr → h'.get? b = some o → h₁.get? b = some o) → Fr h₀ env.locals h₁ m' ∧ News h₀ env.locals h₁ news' := fun h₁ hk₁ =>
    ⟨⟨F'.ns.at' fun o e => hk₁ _ o hLw e, fun b o e => hk₁ b o (old b o e) (F'.keep b o e), F'.above⟩, fun p hp => ⟨hk₁ _ _ (hnw' p hp) (N' p hp).1, (N' p hp).2⟩⟩
  refine wpAny_with_toks (n := 1) htk ?_
  by_cases hlt : i < n
  · refine W.item i _ _ _ hlt hst' fun T vals h₁ tk₁ hP hsz hT hMid hk₁ htk₁ => ?_
    have hTw : T ∉ wr := W.apart _ _ _ hMid
    have hLs : env.locals < h'.objs.size := F'.ns.lt
    have hTs : h'.objs.size ≤ T := hsz
    have hTL : T ≠ env.locals := fun e => Nat.lt_irrefl _ (Nat.lt_of_lt_of_le (e ▸ hLs) hTs)
    have hTn : h₀.get? T = none := Heap.get?_none_of_le (Nat.le_trans F'.above (Nat.le_trans (Nat.le_of_lt hLs) hTs))
    refine W.go _ _ _ i T _ _ _ hMid fun h₂ hst₂ hk₂ => ?_
    have hk3 : ∀ b o, b ∉ wr → h'.get? b = some o → h₂.get? b = some o := fun b o hb e => hk₂ b o hb (hk₁ b o hb e)
    obtain ⟨o, ho, hc, q, hd⟩ := hT
    have ho2 : h₂.get? T = some o := hk₂ T o hTw ho
    obtain ⟨F₁, N₁⟩ := next h₂ hk3
    have Nown : News h₀ env.locals h₂ (ownOf h₀ fp h₂) := news_ownOf hLf
    have Nall : News h₀ env.locals h₂ ((T, o) :: (ownOf h₀ fp h₂ ++ news')) := fun p hp => by
      rcases List.mem_cons.mp hp with e | hp
      · rw [e]; exact ⟨ho2, hTL, hTn⟩
      · exact (Nown.append N₁) p hp
    refine wpAny_with_toks (n := 1) htk₁ (wpAny_mono (step i T o vals q m' news' (ownOf h₀ fp h₂) h₂ tk₁ htk₁ hlt hP hc hd hJ hnw' ownOf_sub hTw F₁ Nall) (fun _ s₂ h₂' htk₂ => ?_) fun _ _ e _ => e)
    refine wpAny_with_toks (n := 1) htk₂ (wpAny_mono h₂' (fun f s₃ h₃ htk₃ => ?_) fun _ _ e _ => e)
    have fin : (∃ h' tk m₂ news₂, s₃ = { s with heap := h', toks := tk } ∧ Fr h₀ env.locals h' m₂ ∧ News h₀ env.locals h' (ownOf h₀ fp h₂ ++ news₂) ∧ (∀ p ∈ news₂, p.1 ∉ wr) ∧ J (i + 1) m₂ news₂) →
        ∃ k', k' < n + 1 - i ∧ ∃ h' tk m' news' i', s₃ = { s with heap := h', toks := tk } ∧ 0 < tk ∧ St i' h' ∧ Fr h₀ env.locals h' m' ∧ News h₀ env.locals h' news' ∧ (∀ p ∈ news', p.1 ∉ wr) ∧ J i' m' news' ∧ i' ≤ n ∧ k' = n + 1 - i' := by
      rintro ⟨h₃', tk₃, m₂, news₂, rfl, F₃, N₃, ha₃, hJ₃⟩
      refine ⟨n + 1 - (i + 1), by omega, h₃', tk₃, m₂, news₂, i + 1, rfl, htk₃, ?_, F₃, N₃.right, ha₃, hJ₃, hlt, rfl⟩
      refine W.frame _ _ _ hst₂ fun b hb o e => ?_
      cases hn : h₀.get? b with
      | some o₀ =>
        have : o₀ = o := by have := F₁.keep b o₀ hn; rw [e] at this; exact (Option.some.inj this).symm
        exact this ▸ F₃.keep b o₀ hn
      | none => exact (N₃ _ (List.mem_append_left _ (mem_ownOf hb hn e))).1
    cases f with
    | ret v => exact hQ _ _ h₃
    | brk => exact hQ _ _ h₃
    | cont => exact fin h₃
    | next => exact fin h₃
  · have hin : i = n := by omega
    subst hin
    refine W.done _ _ _ hst' fun h₁ tk₁ hk₁ htk₁ => wpAny_execs_nil ?_
    obtain ⟨F₁, N₁⟩ := next h₁ hk₁
    exact hQ _ _ (hR h₁ tk₁ m' news' htk₁ F₁ N₁ hJ)

def LoopZ (prog : Program) (w : World) (A : Around) (h₀ : Heap) (env : Env) (elts : List Expr) (c : Nat) (pos : Pos) (body : List Stmt) (Q : Flow → Shared → Prop) (E : Value → Shared → Prop) (it : Value) (s : Shared) : Prop :=
  ∃ (I : Addr) (fp wr : List Addr) (n : Nat) (Pt : Nat → Array Value → Prop) (St : Nat → Heap → Prop) (Mid : Nat → Addr → Heap → Prop) (m : Str → Option Value) (news : List (Addr × Obj)) (J : Nat → (Str → Option Value) → List (Addr × Obj) → Prop),
    it = .ref I ∧ WalksT prog w A I fp wr n Pt St Mid ∧ env.locals ∉ fp ∧ (∀ b ∈ wr, h₀.get? b = none) ∧ (∀ p ∈ news, p.1 ∉ wr) ∧ St 0 s.heap ∧ 0 < s.toks ∧ Fr h₀ env.locals s.heap m ∧ News h₀ env.locals s.heap news ∧ J 0 m news ∧
    (∀ i (T : Addr) (o : Obj) (vals : Array Value) (q : Nat) m₁ news₁ own h tk, 0 < tk → i < n → Pt i vals → o.cls = .type "tuple" → o.data = .seq vals q → J i m₁ news₁ → (∀ p ∈ news₁, p.1 ∉ wr) → (∀ p ∈ own, p.1 ∈ fp) → T ∉ wr → Fr h₀ env.locals h m₁ → News h₀ env.locals h ((T, o) :: (own ++ news₁)) →
      wpAny (model prog w) A (assign (.Tuple elts c pos) env (.ref T)) (fun _ s₂ => wpAny (model prog w) A (execs body env) (TurnEnd h₀ env.locals wr own s (J (i + 1)) Q) E s₂) E { s with heap := h, toks := tk }) ∧
    (∀ h' tk m' news', 0 < tk → Fr h₀ env.locals h' m' → News h₀ env.locals h' news' → J n m' news' → Q .next { s with heap := h', toks := tk })
theorem For_Z {E : Value → Shared → Prop} {Q : Flow → Shared → Prop} {elts : List Expr} {c : Nat} {pos pos' : Pos} {iter : Expr} {body : List Stmt} {h' : Heap} {L : Addr} {m : Str → Option Value} (_F : Fr h₀ L h' m)
    (h : wpAny (model prog w) A (eval iter env) (fun xv s₁ => wpAny (model prog w) A (pyIter xv) (fun it s₂ => LoopZ prog w A h₀ env elts c pos body Q E it s₂) E s₁) E s)
    (hs : ∀ x, foldedSetIterable iter env x = pure x := by intro _; rfl)
    (hE : PassesOwn (model prog w) A env E := by passes_own) :
    wpAny (model prog w) A (exec (.For (.Tuple elts c pos) iter body [] pos') env) Q E s := by
  refine wpAny_For (wpAny_mono h (fun xv s₁ h₁ => wpAny_mono h₁ (fun it s₂ h₂ => ?_) fun _ _ e => e) fun _ _ e => e) hs
  obtain ⟨I, fp, wr, n, Pt, St, Mid, m, news, J, rfl, W, hLf, hwr, hnw, hst, htk, F, N, h0, step, hQ⟩ := h₂
  refine code_forZ (R := fun r s' => match r with | .ok f => Q f s' | .error e => cameBackBy (model prog w) A env E e s') (Q := Q) W hLf hwr hnw hst htk F N J h0 (fun _ _ q => q) ?_ hQ
  intro i T o vals q m₁ news₁ own h tk a1 a2 a3 a4 a5 a6 a7 a8 a9 b1 b2
  exact wpAny_passesOwn hE (wpAny_mono (step i T o vals q m₁ news₁ own h tk a1 a2 a3 a4 a5 a6 a7 a8 a9 b1 b2) (fun _ _ q => wpAny_passesOwn hE q) fun _ _ q => q)
variable {E : Value → Shared → Prop} {body : List Stmt} {Q : Flow → Shared → Prop}
/-- for a, b in zip(list, list) -/
theorem loop_zip {l1 l2 : Addr} {xs ys : Array Value} {elts : List Expr} {c : Nat} {pos : Pos} {m : Str → Option Value} {news : List (Addr × Obj)} (J : Nat → (Str → Option Value) → List (Addr × Obj) → Prop)
    (hh : A.handled = none) (hl1 : s.heap.IsList l1 xs) (hl2 : s.heap.IsList l2 ys) (hn1 : l1 ≠ env.locals) (hn2 : l2 ≠ env.locals) (hs : 0 < s.toks) (F : Fr h₀ env.locals s.heap m) (N : News h₀ env.locals s.heap news) (h0 : J 0 m news)
    (step : ∀ i (T : Addr) (d : Option Addr) (q : Nat) (sl : Array (Option Value)) x y m₁ news₁ own h tk, 0 < tk → xs[i]? = some x → ys[i]? = some y → J i m₁ news₁ → (∀ p ∈ own, s.heap.objs.size ≤ p.1 ∨ p.1 = l1 ∨ p.1 = l2) → (∀ p ∈ news₁, p.1 ∉ [s.heap.objs.size + 4, s.heap.objs.size + 3, s.heap.objs.size, s.heap.objs.size + 1]) →
      T ∉ [s.heap.objs.size + 4, s.heap.objs.size + 3, s.heap.objs.size, s.heap.objs.size + 1] → Fr h₀ env.locals h m₁ → News h₀ env.locals h ((T, { cls := .type "tuple", dict := d, data := .seq #[x, y] q, slots := sl }) :: (own ++ news₁)) →
      wpAny (model prog w) A (assign (.Tuple elts c pos) env (.ref T)) (fun _ s₂ => wpAny (model prog w) A (execs body env) (TurnEnd h₀ env.locals [s.heap.objs.size + 4, s.heap.objs.size + 3, s.heap.objs.size, s.heap.objs.size + 1] own s (J (i + 1)) Q) E s₂) E { s with heap := h, toks := tk })
    (hR : ∀ h' tk m' news', 0 < tk → Fr h₀ env.locals h' m' → News h₀ env.locals h' news' → J (min xs.size ys.size) m' news' → Q .next { s with heap := h', toks := tk }) :
    wpAny (model prog w) A (call (.type "zip") [.ref l1, .ref l2]) (fun xv s₁ => wpAny (model prog w) A (pyIter xv) (fun it s₂ => LoopZ prog w A h₀ env elts c pos body Q E it s₂) E s₁) E s := by
  have hlt1 : l1 < s.heap.objs.size := by obtain ⟨_, e, _⟩ := hl1; exact Heap.lt_size e
  have hlt2 : l2 < s.heap.objs.size := by obtain ⟨_, e, _⟩ := hl2; exact Heap.lt_size e
  have hLs : env.locals < s.heap.objs.size := F.ns.lt
  refine wpAny_with_toks (n := 1) hs ?_
  refine call_zip_2 hl1 hl2 fun h' hz hTI hTO hi1 hi2 hsz hk htk => ?_
  refine wpAny_pyIter_zip hz ?_
  have D : ZipApart (s.heap.objs.size + 4) (s.heap.objs.size + 2) (s.heap.objs.size + 3) s.heap.objs.size (s.heap.objs.size + 1) l1 l2 := zipApart_new hlt1 hlt2
  have hnone : ∀ k : Nat, h₀.get? (s.heap.objs.size + k : Nat) = none := fun k => Heap.get?_none_of_le (Nat.le_trans F.above (Nat.le_trans (Nat.le_of_lt hLs) (Nat.le_add_right _ k)))
  refine ⟨_, _, _, _, _, _, _, m, news, J, rfl, WalksT.zip2 hh _ _ _ _ _ _ _ D xs ys, ?_, ?_, ?_, ⟨hz, hTI, ⟨_, _, hTO⟩, hi1, hi2, hl1.at fun o e => hk l1 o e, hl2.at fun o e => hk l2 o e⟩, htk, F.keeps hk, N.grown hk, h0, ?_, hR⟩
  · intro hm
    simp only [List.mem_cons, List.not_mem_nil, or_false] at hm
    have q : ∀ k : Nat, env.locals ≠ (s.heap.objs.size + k : Nat) := fun k e => Nat.lt_irrefl _ (Nat.lt_of_lt_of_le hLs (e ▸ Nat.le_add_right _ k))
    rcases hm with e | e | e | e | e | e | e
    · exact q 4 e
    · exact q 2 e
    · exact q 3 e
    · exact q 0 e
    · exact q 1 e
    · exact hn1 e.symm
    · exact hn2 e.symm
  · intro b hb
    simp only [List.mem_cons, List.not_mem_nil, or_false] at hb
    rcases hb with rfl | rfl | rfl | rfl
    · exact hnone 4
    · exact hnone 3
    · exact hnone 0
    · exact hnone 1
  · intro p hp hm
    simp only [List.mem_cons, List.not_mem_nil, or_false] at hm
    have hp1 := Heap.lt_size (N p hp).1
    have q : ∀ k : Nat, p.1 ≠ (s.heap.objs.size + k : Nat) := fun k e => Nat.lt_irrefl _ (Nat.lt_of_lt_of_le hp1 (e ▸ Nat.le_add_right _ k))
    rcases hm with e | e | e | e
    · exact q 4 e
    · exact q 3 e
    · exact q 0 e
    · exact q 1 e
  · rintro i T ⟨cl, d, dt, sl⟩ vals q m₁ news₁ own h tk a1 a2 ⟨x, y, hx, hy, rfl⟩ rfl rfl a6 a7 a8 a9 b1 b2
    refine step i T d q sl x y m₁ news₁ own h tk a1 hx hy a6 (fun p hp => ?_) a7 a9 b1 b2
    have := a8 p hp
    simp only [List.mem_cons, List.not_mem_nil, or_false] at this
    rcases this with e | e | e | e | e | e | e
    · exact .inl (e ▸ Nat.le_add_right _ _)
    · exact .inl (e ▸ Nat.le_add_right _ _)
    · exact .inl (e ▸ Nat.le_add_right _ _)
    · exact .inl (e ▸ Nat.le_refl _)
    · exact .inl (e ▸ Nat.le_add_right _ _)
    · exact .inr (.inl e)
    · exact .inr (.inr e)
end
end
section
open PySem PySem.W PyProof.Rows PySem.Calls
set_option maxRecDepth 100000
set_option maxHeartbeats 8000000
structure Ent where
  a : Addr
  i : Nat
  v : Str
  tk : Tok
  tv : Tok
def Ent.obj (e : Ent) : Obj := { cls := .type "tuple", data := .seq [.str (mkS [75 + e.i]) e.tk, .str e.v e.tv].toArray }
def refs (es : List Ent) : List Value := es.map fun e => .ref e.a
structure HdrAt (news : List (Addr × Obj)) (x dx l : Addr) (es : List Ent) (hsh : Int) (tk : Tok) (n nn : Nat) : Prop where
  inst : (x, instObj 171 dx) ∈ news
  dict : (dx, dictOf [⟨hsh, .str (Str.ofString "_headers") tk, .ref l⟩] n) ∈ news
  list : (l, listOf (refs es).toArray nn) ∈ news
  ents : ∀ e ∈ es, (e.a, e.obj) ∈ news ∧ e.i < 3
def getR (es : List Ent) (i : Nat) : Value := match es.find? (fun e => e.i == i) with
  | some e => .str e.v e.tv
  | none => .none

def PN (w : World) (mean : ExcName → Option Value) (mg mb : Str → Option Value) (d : Nat) (f : Addr) (vs : List Value) (kw : List (Str × Value)) (news : List (Addr × Obj)) (R : Tok → Value) : Prop :=
  ∀ (dp un : Nat) (gd : Option (List Code)) (cn : Str) (cs : Scope) (a : Addr) (ccd : Value) (cl : List (Str × Addr)) (outer : List Env) (A₀ : Around) (base h₀ : Heap) (L : Addr) (m : Str → Option Value)
    (s : Shared) (Q E : Value → Shared → Prop),
    Below A₀ base outer h₀ → Fr h₀ L s.heap m → (hd.heap_39 w.params).In h₀ → News h₀ L s.heap news → Top hd.view_39 Lz mean mg mb h₀ → cs.kind = .function → 0 < s.toks →
    dp + d < recursionLimit → un + 8 * d < cLine →
    (∀ (t : Tok) (h' : Heap) (tk' : Nat), Fr h₀ L h' m → News h₀ L h' news → 0 < tk' → Q (R t) { s with heap := h', toks := tk' }) →
      wpAny (model pg w) (ktrTop dp un gd cn cs L a ccd cl outer) (call (.ref f) vs kw) Q E s

open PySem.Builtin.Str in
theorem lower_name : ∀ i, i < 3 → placed (mkS [75 + i]) (fun j _ => Unicode.lowerAt (mkS [75 + i]).cps j) = #[107 + i] := by decide +kernel
section
open PySem.Builtin PySem.Builtin.Str
variable {prog : Program} {w : World} {A : Around} {E : Value → Shared → Prop} {s : Shared} {i : Nat} {t : Tok}
theorem k_lower {Q : Value → Shared → Prop} (hi : i < 3) (hs : 0 < s.toks) (h : ∀ t' k, 0 < k → Q (.str (mkS [107 + i]) t') { s with toks := k }) : wpAny (model prog w) A (call (.builtin "str.lower") [.str (mkS [75 + i]) t]) Q E s := by
  refine call_gives F.slot_str_lower (typeIs_str _ _ _) F.entry_str_lower (F.args_str_lower_1 _) (gives_str_lower _ _ ?_) ?_
  · rw [lower_name i hi]; exact decide_eq_false (by rw [sizeLine_eq]; show ¬ 16777216 < 1; decide)
  · rw [lower_name i hi]
    exact ⟨by rw [sizeLine_eq]; show 1 ≤ _; decide, h _ _ (Nat.succ_pos _)⟩
end
local macro_rules | `(tactic| walk_at "call builtin:str.lower") => `(tactic| (refine' k_lower ?hi ?hs ?_; (case hi => assumption); (case hs => walk_at "tpos"); intro t' k' htk'))
local macro_rules | `(tactic| walk_at "exec For Tuple Attribute cons nil") => `(tactic| (with_reducible refine stop_in ?_))

theorem plain_key {k : Nat} (h : 63 ≤ k) (h2 : k < 127) : Plain (mkS [k]) := by
  intro c hc
  simp at hc
  subst hc
  omega
local macro_rules | `(tactic| walk_at "zz1") => `(tactic| skip)
theorem c_get (w : World) (mean : ExcName → Option Value) (mg mb : Str → Option Value) (news : List (Addr × Obj)) (x dx l : Addr) (es : List Ent) (hsh : Int) (tk0 : Tok) (n nn : Nat) (H : HdrAt news x dx l es hsh tk0 n nn) (i : Nat) (hi : i < 3) (t : Tok) :
   PN w mean mg mb 3 118 [.ref x, .str (mkS [75 + i]) t] [] news (fun _ => getR es i) := by
  unfold PN
  intro dp un gd cn cs a ccd cl outer A₀ base h₀ L m s Q E B F X N T hk htk hdp hun hret
  obtain ⟨hinst, hdict, hlist, hents⟩ := H
  have hpl : Plain (mkS [107 + i]) := plain_key (by omega) (by omega)
  have hll : (mkS [107 + i]).length ≤ 1000000 := by rw [len_mkS]; exact Nat.le_trans (Nat.le_refl 1) (by decide)
  refine wpAny_with_toks (n := 1) htk ?_
  refine wpAny_call ?_
  k_dflt ((refine' code_def ?k1 ?k2 ?k3 ?k4 ?k5 ?kA ?kF ?kK ?k6 ?k7 ?k8 ?k9 ?kB ?_ ?c2 ?c3 ?c4 ?c5; (case kA => exact rfl); (case kF => exact rfl); (case kK => assumption); (case k1 => k_asm); (case k2 => k_asm); (case k3 => k_asm); (case k4 => k_asm); (case k5 => k_asm); (case k6 => k_is); (case k7 => k_is); (case k8 => ktr_room); (case k9 => first | exact BindsTo.of_eq rfl | exact binds_K (by k_in) rfl (by k_is) rfl rfl rfl); (case c5 => decide); (case kB => exact locs rfl); (case c2 => exact rfl); (case c3 => exact rfl); (case c4 => exact rfl); k_whole; intro gZ LZ hZ FGZ FZ NZ BZ XZ TZ; (try dsimp only); (try k_lift BZ); (try k_fold)))
  k_steps
  unfold Stop
  rename Fr _ _ _ _ => F1
  rename News _ _ _ _ => N1
  refine For_TF F1 ?_
  k_steps
  have hL := (N1 _ hlist)
  refine' loop_list (fun j m₁ nx => (∀ p ∈ news, p ∈ nx) ∧ (∀ e ∈ es.take j, e.i ≠ i) ∧ (∃ tn, m₁ (Str.ofString "name") = some (.str (mkS [107 + i]) tn)) ∧ m₁ (Str.ofString "default") = some .none) ?a1 ?a2 ?a3 ?a4 ?a5 ?a6 ?a7 ?a8 ?step ?done
  case a5 => exact F1
  case a6 => exact N1
  case a1 => rfl
  case a2 => exact ⟨_, hL.1, rfl, _, rfl⟩
  case a3 => exact hL.2.1
  case a4 => walk_at "tpos"
  case a7 => exact ⟨fun p hp => hp, by simp, ⟨_, by rfl⟩, by rfl⟩
  case a8 => exact .inr ⟨_, _, _, rfl⟩
  case step =>
    intro j v m₁ nx own h tk htk1 hv ⟨hnx, hes, ⟨tn, e1⟩, e2⟩ hoff hown F2 N2
    dsimp only [envOf] at F2 N2
    replace F2 := fr_pins F2 [(_, _), (_, _)] (all1 e1 (all1 e2 all0))
    dsimp only [kstB] at F2
    have hv' : (refs es)[j]? = some v := by rw [← List.getElem?_toArray]; exact hv
    unfold refs at hv'
    rw [List.getElem?_map] at hv'
    obtain ⟨e, he, rfl⟩ := Option.map_eq_some_iff.mp hv'
    have hem := List.mem_of_getElem? he
    have hmem : (e.a, e.obj) ∈ own ++ nx := List.mem_append_right _ (hnx _ (hents e hem).1)
    unfold Ent.obj at hmem
    have hei := (hents e hem).2
    clear F1 N1 hv hv'
    show wpAny _ _ _ _ _ _
    k_fold
    k_steps
    · rename (_ == _) = true => hq
      unfold TurnEnd
      dsimp only
      have hq' : e.i = i := by
        have := congrArg (fun x : Str => x.cps.toList) (beq_iff_eq.mp hq)
        simp at this
        omega
      have er : getR es i = .str e.v e.tv := by
        unfold getR
        have : es.find? (fun e => e.i == i) = some e := by
          rw [List.find?_eq_some_iff_getElem]
          obtain ⟨hj, hje⟩ := List.getElem?_eq_some_iff.mp he
          refine ⟨by simpa using hq', j, hj, hje, fun q hq2 => ?_⟩
          have := hes (es[q]) (by
            rw [List.mem_iff_getElem?]
            exact ⟨q, by rw [List.getElem?_take_of_lt hq2, List.getElem?_eq_getElem]⟩)
          simpa using this
        rw [this]
      rw [er] at hret
      k_steps
      all_goals exact hret 0 _ _ (by k_asm) (cb_drop (by assumption) fun p hp => List.mem_append_right _ (hnx p hp)) (by assumption)
    · rename (_ == _) = false => hq
      have hq' : e.i ≠ i := by
        intro h
        rw [h] at hq
        simp at hq
      rename Fr _ _ _ _ => F6
      rename News _ _ _ _ => N6
      refine ⟨_, _, _, nx, rfl, F6, N6, fun p hp hq => hoff p hp (List.mem_singleton.mp hq), hnx, ?_, ⟨_, by rfl⟩, by rfl⟩
      intro e' he'
      rw [List.take_add_one, he] at he'
      rcases List.mem_append.mp he' with h1 | h1
      · exact hes e' h1
      · simp at h1
        rw [h1]; exact hq'
  case done =>
    intro h' tk m' nx htk1 F2 N2 ⟨hnx, hes, ⟨tn, e1⟩, e2⟩
    dsimp only [envOf] at F2 N2
    replace F2 := fr_pins F2 [(_, _), (_, _)] (all1 e1 (all1 e2 all0))
    dsimp only [kstB] at F2
    have hsz : (refs es).toArray.size = es.length := by rw [List.size_toArray]; unfold refs; rw [List.length_map]
    rw [hsz, List.take_length] at hes
    clear F1 N1
    dsimp only
    k_steps
    have er : getR es i = .none := by
      unfold getR
      have : es.find? (fun e => e.i == i) = none := by
        rw [List.find?_eq_none]
        intro e he
        simpa using hes e he
      rw [this]
    rw [er] at hret
    exact hret 0 _ _ (by k_asm) (cb_drop (by assumption) hnx) (by assumption)
end
section
open PySem PySem.W PyProof.Rows PySem.Calls
set_option maxRecDepth 100000
set_option maxHeartbeats 8000000
def putA (d : Addr) (o' : Obj) (news : List (Addr × Obj)) : List (Addr × Obj) := news.map fun p => if p.1 = d then (d, o') else p
theorem putA_ne {d b : Addr} {o o' : Obj} {news : List (Addr × Obj)} (hb : b ≠ d) (h : (b, o) ∈ news) : (b, o) ∈ putA d o' news := by
  refine List.mem_map.mpr ⟨(b, o), h, ?_⟩
  rw [if_neg hb]
theorem putA_eq {d : Addr} {o o' : Obj} {news : List (Addr × Obj)} (h : (d, o) ∈ news) : (d, o') ∈ putA d o' news := by
  refine List.mem_map.mpr ⟨(d, o), h, ?_⟩
  rw [if_pos rfl]
theorem putA_addr {d : Addr} {o' : Obj} {news : List (Addr × Obj)} {p : Addr × Obj} (h : p ∈ putA d o' news) : p.1 ∈ news.map (·.1) := by
  obtain ⟨q, hq, rfl⟩ := List.mem_map.mp h
  split
  · rename_i e; exact List.mem_map.mpr ⟨q, hq, e⟩
  · exact List.mem_map_of_mem hq
section
variable {prog : Program} {w : World} {A : Around} {E : Value → Shared → Prop} {s : Shared} {h₀ : Heap} {L D : Addr} {m : Str → Option Value} {news : List (Addr × Obj)}
theorem append_O {its : Array Value} {n : Nat} {x : Value} {Q : Value → Shared → Prop} (F : Fr h₀ L s.heap m) (N : News h₀ L s.heap news) (hm : (D, listOf its n) ∈ news) (hsz : its.size ≤ 16777216)
    (h : ∀ h', Fr h₀ L h' m → News h₀ L h' (putA D (listOf (its.push x) (n + 1)) news) → Q .none { s with heap := h' }) : wpAny (model prog w) A (call (.builtin "list.append") [.ref D, x]) Q E s := by
  have z := N _ hm
  exact append_at (hsz := by rw [sizeLine_eq]; exact hsz) z.1 fun h' hs ho' => h h' (F.change hs z.2.1 z.2.2) (N.replace hs ho')
end
theorem find_getR {es : List Ent} {i : Nat} {e : Ent} (h : es.find? (fun e => e.i == i) = some e) : getR es i = .str e.v e.tv := by unfold getR; rw [h]
theorem find_getR0 {es : List Ent} {i : Nat} (h : es.find? (fun e => e.i == i) = none) : getR es i = .none := by unfold getR; rw [h]

theorem c_get_none (w : World) (mean : ExcName → Option Value) (mg mb : Str → Option Value) (news : List (Addr × Obj)) (x dx l : Addr) (es : List Ent) (hsh : Int) (tk0 : Tok) (n nn : Nat) (H : HdrAt news x dx l es hsh tk0 n nn) (i : Nat) (hi : i < 3) (t : Tok)
   (h : es.find? (fun e => e.i == i) = none) : PN w mean mg mb 3 118 [.ref x, .str (mkS [75 + i]) t] [] news (fun _ => .none) := by
  rw [← find_getR0 h]
  exact c_get w mean mg mb news x dx l es hsh tk0 n nn H i hi t
theorem c_get_some (w : World) (mean : ExcName → Option Value) (mg mb : Str → Option Value) (news : List (Addr × Obj)) (x dx l : Addr) (es : List Ent) (hsh : Int) (tk0 : Tok) (n nn : Nat) (H : HdrAt news x dx l es hsh tk0 n nn) (i : Nat) (hi : i < 3) (t : Tok)
   (e : Ent) (h : es.find? (fun e => e.i == i) = some e) : PN w mean mg mb 3 118 [.ref x, .str (mkS [75 + i]) t] [] news (fun _ => .str e.v e.tv) := by
  rw [← find_getR h]
  exact c_get w mean mg mb news x dx l es hsh tk0 n nn H i hi t

local macro_rules | `(tactic| walk_at "call ref") => `(tactic| (k_here; first
 | ((with_reducible show wpAny _ _ (call (Value.ref 118) _ _) _ _ _); k_dflt (first
  | (refine' (c_get_none _ _ _ _ _ _ _ _ _ _ _ _ _ ?H _ ?hi _ ?hf) _ _ _ _ _ _ _ _ _ _ _ _ _ _ _ _ _ ?B ?F ?X ?N ?T ?hk ?htk ?hdp ?hun ?_; (case H => assumption); (case hi => walk_at "side"); (case hf => assumption); walk_at "ctr")
  | (refine' (c_get_some _ _ _ _ _ _ _ _ _ _ _ _ _ ?H _ ?hi _ _ ?hf) _ _ _ _ _ _ _ _ _ _ _ _ _ _ _ _ _ ?B ?F ?X ?N ?T ?hk ?htk ?hdp ?hun ?_; (case H => assumption); (case hi => walk_at "side"); (case hf => assumption); walk_at "ctr")))))
local macro_rules | `(tactic| walk_at "call builtin:list.append") => `(tactic| (k_here; k_dflt (refine' append_O ?F ?N ?hm ?hz ?_; (case F => k_asm); (case N => k_asm); (case hm => first | assumption | exact List.mem_cons_of_mem _ (by assumption)); (case hz => (simp only [List.size_toArray]; omega)); k_whole; intro h' F' N'; (try k_sweep))))

theorem c_setd_some (w : World) (mean : ExcName → Option Value) (mg mb : Str → Option Value) (news : List (Addr × Obj)) (x dx l : Addr) (es : List Ent) (hsh : Int) (tk0 : Tok) (n nn : Nat) (H : HdrAt news x dx l es hsh tk0 n nn) (i : Nat) (hi : i < 3) (t tv : Tok) (v : Str)
   (e : Ent) (h : es.find? (fun e => e.i == i) = some e) : PN w mean mg mb 5 161 [.ref x, .str (mkS [75 + i]) t, .str v tv] [] news (fun _ => .str e.v e.tv) := by
  unfold PN
  intro dp un gd cn cs a ccd cl outer A₀ base h₀ L m s Q E B F X N T hk htk hdp hun hret
  obtain ⟨hinst, hdict, hlist, hents⟩ := id H
  refine wpAny_with_toks (n := 1) htk ?_
  refine wpAny_call ?_
  k_dflt cell_enter
  k_steps
  all_goals exact hret 0 _ _ (by k_asm) (by k_asm) (by assumption)

theorem news_push_put {h₀ h : Heap} {L D l : Addr} {news : List (Addr × Obj)} {es : List Ent} {i nn : Nat} {v : Str} {t tv : Tok} {o : Obj} (l1 : ∀ p ∈ news, p.1 < D) (hl : (l, o) ∈ news)
   (N : News h₀ L h (putA l (listOf ((refs es).toArray.push (.ref D)) (nn + 1)) ((D, { cls := .type "tuple", data := .seq [.str (mkS [75 + i]) t, .str v tv].toArray }) :: news))) :
   News h₀ L h ((D, Ent.obj ⟨D, i, v, t, tv⟩) :: putA l (listOf (refs (es ++ [⟨D, i, v, t, tv⟩])).toArray (nn + 1)) news) := by
  have e1 : (refs es).toArray.push (.ref D) = (refs (es ++ [⟨D, i, v, t, tv⟩])).toArray := by simp [refs]
  rw [e1] at N
  unfold putA at N ⊢
  rw [List.map_cons, if_neg (Nat.ne_of_gt (l1 _ hl))] at N
  exact N

theorem c_setd_none (w : World) (mean : ExcName → Option Value) (mg mb : Str → Option Value) (news : List (Addr × Obj)) (x dx l : Addr) (es : List Ent) (hsh : Int) (tk0 : Tok) (n nn : Nat) (H : HdrAt news x dx l es hsh tk0 n nn) (i : Nat) (hi : i < 3) (t tv : Tok) (v : Str) (hpv : Plain v) (hlv : v.length ≤ 1000000) (hle : (refs es).length ≤ 1000)
   (h : es.find? (fun e => e.i == i) = none) :
   ∀ (dp un : Nat) (gd : Option (List Code)) (cn : Str) (cs : Scope) (a : Addr) (ccd : Value) (cl : List (Str × Addr)) (outer : List Env) (A₀ : Around) (base h₀ : Heap) (L : Addr) (m : Str → Option Value)
    (s : Shared) (Q E : Value → Shared → Prop),
    Below A₀ base outer h₀ → Fr h₀ L s.heap m → (hd.heap_39 w.params).In h₀ → News h₀ L s.heap news → Top hd.view_39 Lz mean mg mb h₀ → cs.kind = .function → 0 < s.toks →
    dp + 5 < recursionLimit → un + 8 * 5 < cLine →
    (∀ (tn : Addr) (h' : Heap) (tk' : Nat), Fr h₀ L h' m → News h₀ L h' (((tn, Ent.obj ⟨tn, i, v, t, tv⟩)) :: putA l (listOf (refs (es ++ [⟨tn, i, v, t, tv⟩])).toArray (nn + 1)) news) → (∀ p ∈ news, p.1 ≠ tn) → 0 < tk' → Q (.str v tv) { s with heap := h', toks := tk' }) →
      wpAny (model pg w) (ktrTop dp un gd cn cs L a ccd cl outer) (call (.ref 161) [.ref x, .str (mkS [75 + i]) t, .str v tv] []) Q E s := by
  intro dp un gd cn cs a ccd cl outer A₀ base h₀ L m s Q E B F X N T hk htk hdp hun hret
  obtain ⟨hinst, hdict, hlist, hents⟩ := id H
  have hpl : Plain (mkS [75 + i]) := plain_key (by omega) (by omega)
  have hll : (mkS [75 + i]).length ≤ 1000000 := by rw [len_mkS]; exact Nat.le_trans (Nat.le_refl 1) (by decide)
  refine wpAny_with_toks (n := 1) htk ?_
  refine wpAny_call ?_
  k_dflt cell_enter
  k_steps
  rename (∀ p, p ∈ news → p.fst < _) => l1
  rename News h₀ L _ _ => N9
  exact hret _ _ _ (by k_asm) (news_push_put l1 hlist N9) (fun p hp => Nat.ne_of_lt (l1 p hp)) (by assumption)
end
local macro_rules | `(tactic| walk_at "call builtin:list.append") => `(tactic| (k_here; k_dflt (refine' append_O ?F ?N ?hm ?hz ?_; (case F => k_asm); (case N => k_asm); (case hm => first | assumption | exact List.mem_cons_of_mem _ (by assumption)); (case hz => (simp only [List.size_toArray]; omega)); k_whole; intro h' F' N'; (try k_sweep))))
section
open PySem PySem.W PyProof.Rows PySem.Calls
set_option maxRecDepth 100000
set_option maxHeartbeats 8000000
section
variable {prog : Program} {w : World} {A : Around} {E : Value → Shared → Prop} {s : Shared}
theorem setItem_all {l sl nl : Addr} {items new : Array Value} {n : Nat} {Q : Unit → Shared → Prop} (ho : s.heap.get? l = some (listOf items n))
    (hs : s.heap.IsSliceOf sl .none .none .none) (hn : s.heap.IsList nl new) (hne : l ≠ nl) (hsz : items.size + new.size ≤ 16777216)
    (h : ∀ h' n', Heap.SameBut l s.heap h' → h'.get? l = some (listOf new n') → Q () { s with heap := h' }) : wpAny (model prog w) A (setItem (.ref l) (.ref sl) (.ref nl)) Q E s := by
  have hl : s.heap.IsList l items := ⟨_, ho, rfl, n, rfl⟩
  obtain ⟨os, hos, hcs, hds⟩ := id hs
  have hTs : s.TypeIs (.ref sl) "slice" := ⟨os, hos, hcs⟩
  obtain ⟨on, hon, hcn, nn, hdn⟩ := id hn
  unfold setItem
  refine wpAny_holding ?_
  refine wpAny_bind (wpAny_sequenceKey hl.typeIs (by decide) ?_)
  refine wpAny_bind (wpAny_callSpecial?_slot (name := Str.ofString "__setitem__") hl.typeIs slot_list_setitem
    (wpAny_call_entry slot_list_setitem hl.typeIs entry_list_setitem ?_ (args_list_setitem _ _ _)))
  show wpAny _ _ (Builtin.List.listSubscript? (.ref sl) >>= _) _ _ s
  refine wpAny_bind ?_
  unfold Builtin.List.listSubscript?
  refine wpAny_bind (wpAny_specialOf hTs slice_no_index ?_)
  simp only [Option.isNone_none, if_true]
  refine wpAny_pure ?_
  show wpAny _ _ (typeOf (.ref sl) >>= _) _ _ s
  refine wpAny_bind (wpAny_typeOf hTs ?_)
  rw [if_neg (by decide)]
  rw [listSliceParts_eq]
  refine wpAny_bind (wpAny_bind (wpAny_field hos hds (x := .none) rfl (wpAny_bind (wpAny_listPart .none ?_))))
  rw [if_neg (by decide)]
  refine wpAny_bind (wpAny_field hos hds (x := .none) rfl (wpAny_bind (wpAny_listPart .none ?_)))
  refine wpAny_bind (wpAny_field hos hds (x := .none) rfl (wpAny_bind (wpAny_listPart .none (wpAny_pure ?_))))
  have hsr : Builtin.List.listSameRef (.ref l) (.ref nl) = false := by
    show (l == nl) = false
    simpa using hne
  dsimp only
  rw [if_neg (by rw [hsr]; decide)]
  refine wpAny_bind ?_
  unfold Builtin.List.listAllItems
  refine wpAny_bind (wpAny_typeOf hn.typeIs ?_)
  rw [if_pos (by decide)]
  unfold Builtin.List.listItems
  refine wpAny_bind (wpAny_seqItems hon hdn (wpAny_pure ?_))
  refine wpAny_bind ?_
  refine wpAny_bind (wpAny_seqItems (o := listOf items n) ho rfl (wpAny_pure ?_))
  refine wpAny_bind (wpAny_of_eq (sliceIndices_raw none none none items.size (by simp)) ?_)
  have hb : sliceBounds none none none items.size = (0, (items.size : Int), 1) := rfl
  rw [hb]
  dsimp only
  rw [if_pos (by decide)]
  refine wpAny_bind (wpAny_rule ?_)
  rw [if_neg (by
    unfold Builtin.List.listTooLong
    rw [sizeLine_eq]
    simp only [decide_eq_true_eq]
    omega)]
  have e0 : (0 : Int).toNat = 0 := rfl
  have e1 : (max (0 : Int) (items.size : Int)).toNat = items.size := by omega
  rw [e0, e1]
  have hf : ∀ xs : Array Value, xs.size = items.size → xs.extract 0 0 ++ new ++ xs.extract items.size = new := by
    intro xs hx
    simp [← hx]
  refine wpAny_bind ?_
  unfold Builtin.List.listUpdate
  refine wpAny_updateSeq (o := listOf items n) ho rfl ?_ (by rw [sizeLine_eq]; omega) (by rw [sizeLine_eq, hf _ rfl]; omega)
  refine wpAny_bind (wpAny_letGo ?_)
  have e2 : Obj.mapSeq (fun xs => xs.extract 0 0 ++ new ++ xs.extract items.size) (listOf items n) = listOf new (if new.size == items.size then n else n + 1) := by
    show (⟨_, _, .seq (items.extract 0 0 ++ new ++ items.extract items.size) (if (items.extract 0 0 ++ new ++ items.extract items.size).size == items.size then n else n + 1), _⟩ : Obj) = _
    rw [hf items rfl]
  refine wpAny_pure ⟨.none, rfl, wpAny_pure (h _ (if new.size == items.size then n else n + 1) (Heap.SameBut.update ..) ?_)⟩
  exact (Heap.get?_update_self (Obj.mapSeq fun xs => xs.extract 0 0 ++ new ++ xs.extract items.size) ho (by rw [e2]; rfl)).trans (congrArg some e2)
end
end
section
open PySem PySem.W PyProof.Rows PySem.Calls
set_option maxRecDepth 100000
set_option maxHeartbeats 8000000
section
open PySem.Builtin PySem.Builtin.Str
variable {prog : Program} {w : World} {A : Around} {E : Value → Shared → Prop} {s : Shared} {i : Nat} {t : Tok}
theorem k_lower0 {Q : Value → Shared → Prop} (hi : i < 3) (h : ∀ t' k, 0 < k → s.toks ≤ k → Q (.str (mkS [107 + i]) t') { s with toks := k }) : wpAny (model prog w) A (call (.builtin "str.lower") [.str (mkS [75 + i]) t]) Q E s := by
  refine call_gives F.slot_str_lower (typeIs_str _ _ _) F.entry_str_lower (F.args_str_lower_1 _) (gives_str_lower _ _ ?_) ?_
  · rw [lower_name i hi]; exact decide_eq_false (by rw [sizeLine_eq]; show ¬ 16777216 < 1; decide)
  · rw [lower_name i hi]
    exact ⟨by rw [sizeLine_eq]; show 1 ≤ _; decide, h _ _ (Nat.succ_pos _) (Nat.le_succ _)⟩
end
local macro_rules | `(tactic| walk_at "call builtin:str.lower") => `(tactic| (refine' k_lower0 ?hi ?_; (case hi => assumption); intro t' k' htk' htl'))
local macro_rules | `(tactic| k_all) => `(tactic| (refine ne_above (by assumption) (by omega)))
theorem lmem {α : Type} {a : α} {l : List α} (h : a ∈ l) : List.Mem a l := h
local macro_rules | `(tactic| k_mem) => `(tactic| first | assumption | (refine lmem ?_; assumption))
local macro_rules | `(tactic| walk_at "eval ListComp") => `(tactic| (with_reducible refine stop_in ?_))

theorem del_test {es : List Ent} {e : Ent} {i : Nat} (hem : e ∈ es) (huni : ∀ e ∈ es, ∀ e' ∈ es, e.a = e'.a → e.i = e'.i) : (mkS [107 + e.i] != mkS [107 + i]) = es.any fun e1 => e.a == e1.a && e1.i != i := by
  by_cases h : e.i = i
  · rw [h]
    have e0 : (mkS [107 + i] != mkS [107 + i]) = false := by simp
    rw [e0, eq_comm, List.any_eq_false]
    intro e1 he1 hq
    rw [Bool.and_eq_true] at hq
    have h1 := huni e hem e1 he1 (by simpa using hq.1)
    have h2 := hq.2
    rw [← h1, h] at h2
    simp at h2
  · have e0 : (mkS [107 + e.i] != mkS [107 + i]) = true := by
      have : mkS [107 + e.i] ≠ mkS [107 + i] := by
        intro h1
        have := congrArg (fun x : Str => x.cps.toList) h1
        simp at this
        exact h this
      simpa using this
    rw [e0, eq_comm, List.any_eq_true]
    exact ⟨e, hem, by simpa using h⟩
def delP (es : List Ent) (i : Nat) (v : Value) : Bool := es.any fun e => (match v with | .ref a => a == e.a | _ => false) && (e.i != i)
theorem del_filter {es : List Ent} {i : Nat} (huni : ∀ e ∈ es, ∀ e' ∈ es, e.a = e'.a → e.i = e'.i) : (refs es).filter (delP es i) = refs (es.filter fun e => e.i != i) := by
  unfold refs
  rw [List.filter_map]
  congr 1
  refine List.filter_congr fun e he => ?_
  show delP es i (.ref e.a) = _
  unfold delP
  dsimp only
  rw [← del_test he huni]
  by_cases h : e.i = i
  · rw [h]; simp
  · have : mkS [107 + e.i] ≠ mkS [107 + i] := by
        intro h1
        have := congrArg (fun x : Str => x.cps.toList) h1
        simp at this
        exact h this
    have h2 : (e.i != i) = true := by simpa using h
    rw [h2]
    simpa using this
theorem paired_eq {vs ys : List Value} (h : Paired (fun v y => v = y) vs ys) : ys = vs := by
  induction h with
  | nil => rfl
  | cons h1 _ ih => rw [ih, h1]

theorem news_put_tail {h₀ h : Heap} {L D l : Addr} {news : List (Addr × Obj)} {o o' q : Obj} (l1 : ∀ p ∈ news, p.1 < D) (hl : (l, o) ∈ news)
   (N : News h₀ L h (((D + 1, q) :: news).map fun p => if p.1 = l then (l, o') else p)) : News h₀ L h (putA l o' news) := by
  rw [List.map_cons, if_neg (Nat.ne_of_gt (Nat.lt_succ_of_lt (l1 _ hl)))] at N
  exact cb_drop N fun p hp => List.mem_cons_of_mem _ hp
theorem c_del (w : World) (mean : ExcName → Option Value) (mg mb : Str → Option Value) (news : List (Addr × Obj)) (x dx l : Addr) (es : List Ent) (hsh : Int) (tk0 : Tok) (n nn : Nat) (H : HdrAt news x dx l es hsh tk0 n nn) (i : Nat) (hi : i < 3) (t : Tok) (hle : (refs es).length ≤ 1000) :
   ∀ (dp un : Nat) (gd : Option (List Code)) (cn : Str) (cs : Scope) (a : Addr) (ccd : Value) (cl : List (Str × Addr)) (outer : List Env) (A₀ : Around) (base h₀ : Heap) (L : Addr) (m : Str → Option Value)
    (s : Shared) (Q E : Value → Shared → Prop),
    Below A₀ base outer h₀ → Fr h₀ L s.heap m → (hd.heap_39 w.params).In h₀ → News h₀ L s.heap news → Top hd.view_39 Lz mean mg mb h₀ → cs.kind = .function → 0 < s.toks →
    dp + 5 < recursionLimit → un + 8 * 5 < cLine →
    (∀ (nn' : Nat) (h' : Heap) (tk' : Nat), Fr h₀ L h' m → News h₀ L h' (putA l (listOf (refs (es.filter fun e => e.i != i)).toArray nn') news) → 0 < tk' → Q .none { s with heap := h', toks := tk' }) →
      wpAny (model pg w) (ktrTop dp un gd cn cs L a ccd cl outer) (call (.ref 89) [.ref x, .str (mkS [75 + i]) t] []) Q E s := by
  intro dp un gd cn cs a ccd cl outer A₀ base h₀ L m s Q E B F X N T hk htk hdp hun hret
  obtain ⟨hinst, hdict, hlist, hents⟩ := id H
  have hpl : Plain (mkS [107 + i]) := plain_key (by omega) (by omega)
  have hll : (mkS [107 + i]).length ≤ 1000000 := by rw [len_mkS]; exact Nat.le_trans (Nat.le_refl 1) (by decide)
  refine wpAny_with_toks (n := 1) htk ?_
  refine wpAny_call ?_
  k_dflt ((refine' code_defC ?k1 ?k2 ?k3 ?k4 ?k5 ?kA ?kF ?kK ?k6 ?k7 ?k8 ?k9 ?kB ?kD ?_ ?c2 ?c3 ?c4; (case kA => exact rfl); (case kF => exact rfl); (case kK => assumption); (case k1 => k_asm); (case k2 => k_asm); (case k3 => k_asm); (case k4 => k_asm); (case k5 => k_asm); (case k6 => k_is); (case k7 => k_is); (case k8 => ktr_room); (case k9 => exact BindsTo.of_eq rfl); (case kB => exact rfl); (case kD => decide +kernel); (case c2 => exact rfl); (case c3 => exact rfl); (case c4 => exact rfl); k_whole; intro gZ LZ hZ tk' cells' FGZ FZ NZ Y' BZ XZ TZ l1; k_cells Y'; (try simp only [List.cons_append, List.nil_append] at NZ); (try dsimp only); (try k_lift BZ); (try k_fold)))
  k_steps
  unfold Stop
  rename Fr _ _ _ _ => F1
  rename News _ _ _ _ => N1
  have huni : ∀ e ∈ es, ∀ e' ∈ es, e.a = e'.a → e.i = e'.i := by
    intro e he e' he' hae
    have h1 := (N _ (hents e he).1).1
    have h2 := (N _ (hents e' he').1).1
    dsimp only at h1 h2
    rw [hae, h2] at h1
    have h3 : e'.obj = e.obj := Option.some.inj h1
    unfold Ent.obj at h3
    injection h3 with _ _ h4
    injection h4 with h5
    have h6 : Value.str (mkS [75 + e'.i]) e'.tk = Value.str (mkS [75 + e.i]) e.tk := Option.some.inj (congrArg (fun a : Array Value => a.toList.head?) h5)
    injection h6 with h7
    have := congrArg (fun x : Str => x.cps.toList) h7
    simp at this
    omega
  refine' wpAny_ListComp_free (delP es i) (fun v y => v = y) ?clos ?cell ?kind ?names ?hx ?h ?hs
  case clos => with_unfolding_all rfl
  case cell => decide
  case kind => rfl
  case names => decide
  case hx => rfl
  case hs => intro _; rfl
  case h =>
    k_steps
    have hL := (N1 _ (List.mem_cons_of_mem _ hlist)).1
    refine wpAny_pyIter_list (items := (refs es).toArray) ⟨_, hL, rfl, _, rfl⟩ ?_
    have hLi : Heap.IsList _ l (refs es).toArray := ⟨_, hL, rfl, _, rfl⟩
    refine ⟨_, _, _, _, _, _, rfl, Walks.list rfl _ _ (Nat.ne_of_lt (Heap.lt_size hL)) (refs es).toArray, ?_, ⟨⟨_, Heap.get?_push_size _ rfl, rfl, rfl⟩, hLi.push _⟩, ?_, ⟨?_, ?_⟩, ?_⟩
    · rw [sizeLine_eq, List.size_toArray]; omega
    · intro b hb
      rw [Heap.size_push]
      rcases List.mem_cons.mp hb with e | hb
      · rw [e]; exact Nat.lt_succ_self _
      · rw [List.mem_singleton.mp hb]; exact Nat.lt_succ_of_lt (Heap.lt_size hL)
    · intro C i v s₃ m₃ E' hC hP hns hm hk htk3
      have kp := fun b o (e : Heap.get? _ b = some o) => hk b o (fun hb => by
          rw [List.mem_singleton.mp hb] at e
          exact absurd (Heap.lt_size e) (Nat.lt_irrefl _)) (Heap.get?_push_of_some _ e)
      have hv' : (refs es)[i]? = some v := by rw [← List.getElem?_toArray]; exact hP
      unfold refs at hv'
      rw [List.getElem?_map] at hv'
      obtain ⟨e, he, rfl⟩ := Option.map_eq_some_iff.mp hv'
      have hem := List.mem_of_getElem? he
      have hmem := (hents e hem).1
      have hei := (hents e hem).2
      unfold Ent.obj at hmem
      k_steps
      · exact del_test hem huni
      · exact ⟨_, _, rfl, fun _ _ e => e⟩
    · intro C i v s₃ m₃ E' hC hP _ hns hm hk htk3
      have hv' : (refs es)[i]? = some v := by rw [← List.getElem?_toArray]; exact hP
      unfold refs at hv'
      rw [List.getElem?_map] at hv'
      obtain ⟨e, he, rfl⟩ := Option.map_eq_some_iff.mp hv'
      k_steps
      · exact ⟨_, _, rfl, fun _ _ e => e⟩
    · intro D h' tk ys vs hD hl2 hpl hlen hP hF hk
      have hvs : vs = refs es := by
        apply List.ext_getElem?
        intro j
        by_cases hj : j < vs.length
        · have h1 := hP j _ (List.getElem?_eq_getElem hj)
          rw [List.getElem?_toArray] at h1
          rw [List.getElem?_eq_getElem hj, h1]
        · rw [List.getElem?_eq_none (by omega), List.getElem?_eq_none (by rw [hlen, List.size_toArray] at hj; omega)]
      have hy := paired_eq hF
      rw [hvs, del_filter huni] at hy
      have hy2 : ys = (refs (es.filter fun e => e.i != i)).toArray := by rw [← hy]
      subst hy2
      have hk2 := fun b o (e : Heap.get? _ b = some o) => hk b o (fun hb => by
          rw [List.mem_singleton.mp hb] at e
          exact absurd (Heap.lt_size e) (Nat.lt_irrefl _)) (Heap.get?_push_of_some _ e)
      have F2 := F1.keeps hk2
      have N2 := news_keeps N1 hk2
      have hDl : l ≠ D := by
        intro e
        rw [← e] at hD
        rw [Heap.get?_push_of_some _ hL] at hD
        cases hD
      clear F1 N1 hL hLi
      k_steps
      have z := N2 _ (List.mem_cons_of_mem _ hlist)
      refine setItem_all (items := (refs es).toArray) (n := nn) (new := (refs (es.filter fun e => e.i != i)).toArray) (Heap.get?_push_of_some _ z.1) (Heap.IsSliceOf.new _ _ _ _) (hl2.push _) hDl ?_ ?_
      · have := List.length_filter_le (fun e => e.i != i) es
        have e1 : (refs (es.filter fun e => e.i != i)).length = (es.filter fun e => e.i != i).length := List.length_map _
        have e2 : (refs es).length = es.length := List.length_map _
        rw [List.size_toArray, List.size_toArray]
        omega
      · intro h3 n3 hs3 ho3
        have F3 := (F2.push _).change hs3 z.2.1 z.2.2
        have N3 := (News.replace (fun p hp => ⟨Heap.get?_push_of_some _ (N2 p hp).1, (N2 p hp).2⟩) hs3 ho3)
        clear F2 N2 z hl2 hpl
        k_steps
        rename (∀ p, p ∈ news → p.fst < _) => l1
        rename News h₀ L _ _ => N9
        exact hret n3 _ _ (by k_asm) (news_put_tail l1 hlist N9) (Nat.succ_pos _)
end
local macro_rules | `(tactic| k_mem) => `(tactic| first | assumption | (refine lmem ?_; assumption))
local macro_rules | `(tactic| walk_at "call builtin:str.lower") => `(tactic| (refine' k_lower0 ?hi ?_; (case hi => assumption); intro t' k' htk' htl'))
section
open PySem PySem.W PyProof.Rows PySem.Calls
set_option maxRecDepth 100000
set_option maxHeartbeats 8000000
section
variable {M : Model} {A : Around} {E : Value → Shared → Prop} {s : Shared} {K : Frag} {x C L f : Addr} {h₀ : Heap} {m : Str → Option Value} {ox : Obj} {od : Option Obj} {i v : Value}
theorem k_delItem {Q : Unit → Shared → Prop} (F : Fr h₀ L s.heap m) (X₀ : K.In h₀) (I : InstAt s.heap x ox C od) (hq : noSeq K C = true) (hs : findIn K (.ref C) "__delitem__" = some (some (.ref f))) (hf : isFn K (.ref f) = true)
    (h : wpAny M A (call (.ref f) [.ref x, i]) (fun _ s' => Q () s') E s) : wpAny M A (delItem (.ref x) i) Q E s := by
  have X := X₀.keeps F.keep
  unfold delItem sequenceKey
  refine wpAny_holding (wpAny_bind (wpAny_bind (I.type.here ?_)))
  refine wpAny_bind ((anyM_none X hq).here ?_)
  rw [if_pos (show (!false) = true from rfl)]
  exact wpAny_pure (wpAny_bind (special_fn X I hs (beq_iff_eq.mp hf) (wpAny_mono h (fun _ _ z => wpAny_pure z) fun _ _ z => z)))
end
local macro_rules | `(tactic| walk_at "delItem ref str") => `(tactic| (k_here; k_dflt (refine' k_delItem ?k1 ?k2 ?k3 ?k4 ?k5 ?k6 ?_; (case k1 => k_asm); (case k2 => k_asm); (case k3 => k_inst); (case k4 => k_is); (case k5 => k_is); (case k6 => k_is); k_whole)))

theorem HdrAt.sep {h₀ h : Heap} {L : Addr} {news : List (Addr × Obj)} {x dx l : Addr} {es : List Ent} {hsh : Int} {tk : Tok} {n nn : Nat} (H : HdrAt news x dx l es hsh tk n nn) (N : News h₀ L h news) : x ≠ l ∧ dx ≠ l ∧ ∀ e ∈ es, e.a ≠ l := by
  have hl := (N _ H.list).1
  dsimp only at hl
  refine ⟨?_, ?_, ?_⟩
  · intro e
    have h1 := (N _ H.inst).1
    dsimp only at h1
    rw [e, hl] at h1
    exact absurd (congrArg Obj.cls (Option.some.inj h1)) (show ¬ (Value.type "list" = Value.ref 171) by intro h; cases h)
  · intro e
    have h1 := (N _ H.dict).1
    dsimp only at h1
    rw [e, hl] at h1
    exact absurd (congrArg Obj.cls (Option.some.inj h1)) (show ¬ (Value.type "list" = Value.type "dict") by decide)
  · intro e he hq
    have h1 := (N _ (H.ents e he).1).1
    dsimp only at h1
    rw [hq, hl] at h1
    have h2 := Option.some.inj h1
    have h3 := congrArg Obj.cls h2
    revert h3
    show Value.type "list" = Value.type "tuple" → False
    decide
theorem HdrAt.put {h₀ h : Heap} {L : Addr} {news : List (Addr × Obj)} {x dx l : Addr} {es es' : List Ent} {hsh : Int} {tk : Tok} {n nn nn' : Nat} (H : HdrAt news x dx l es hsh tk n nn) (N : News h₀ L h news) (hes : ∀ e ∈ es', e ∈ es) :
   HdrAt (putA l (listOf (refs es').toArray nn') news) x dx l es' hsh tk n nn' := by
  obtain ⟨h1, h2, h3⟩ := H.sep N
  exact ⟨putA_ne h1 H.inst, putA_ne h2 H.dict, putA_eq H.list, fun e he => ⟨putA_ne (h3 e (hes e he)) (H.ents e (hes e he)).1, (H.ents e (hes e he)).2⟩⟩
theorem putA_putA {l : Addr} {o o' : Obj} {news : List (Addr × Obj)} : putA l o' (putA l o news) = putA l o' news := by
  unfold putA
  rw [List.map_map]
  refine List.map_congr_left fun p _ => ?_
  show (if (if p.1 = l then (l, o) else p).1 = l then (l, o') else (if p.1 = l then (l, o) else p)) = _
  by_cases h : p.1 = l
  · simp [h]
  · simp [h]
theorem putA_mem {l : Addr} {o : Obj} {news : List (Addr × Obj)} {p : Addr × Obj} (h : p ∈ news) : ∃ q ∈ putA l o news, q.1 = p.1 := by
  refine ⟨_, List.mem_map.mpr ⟨p, h, rfl⟩, ?_⟩
  split
  · rename_i e; exact e.symm
  · rfl

local macro_rules | `(tactic| walk_at "zz2") => `(tactic| skip)
theorem c_set (w : World) (mean : ExcName → Option Value) (mg mb : Str → Option Value) (news : List (Addr × Obj)) (x dx l : Addr) (es : List Ent) (hsh : Int) (tk0 : Tok) (n nn : Nat) (H : HdrAt news x dx l es hsh tk0 n nn) (i : Nat) (hi : i < 3) (t tv : Tok) (v : Str) (hpv : Plain v) (hlv : v.length ≤ 1000000) (hle : (refs es).length ≤ 1000) :
   ∀ (dp un : Nat) (gd : Option (List Code)) (cn : Str) (cs : Scope) (a : Addr) (ccd : Value) (cl : List (Str × Addr)) (outer : List Env) (A₀ : Around) (base h₀ : Heap) (L : Addr) (m : Str → Option Value)
    (s : Shared) (Q E : Value → Shared → Prop),
    Below A₀ base outer h₀ → Fr h₀ L s.heap m → (hd.heap_39 w.params).In h₀ → News h₀ L s.heap news → Top hd.view_39 Lz mean mg mb h₀ → cs.kind = .function → 0 < s.toks →
    dp + 7 < recursionLimit → un + 8 * 7 < cLine →
    (∀ (tn : Addr) (nn' : Nat) (h' : Heap) (tk' : Nat), Fr h₀ L h' m → News h₀ L h' (((tn, Ent.obj ⟨tn, i, v, t, tv⟩)) :: putA l (listOf (refs ((es.filter fun e => e.i != i) ++ [⟨tn, i, v, t, tv⟩])).toArray nn') news) → (∀ p ∈ news, p.1 ≠ tn) → 0 < tk' → Q .none { s with heap := h', toks := tk' }) →
      wpAny (model pg w) (ktrTop dp un gd cn cs L a ccd cl outer) (call (.ref 84) [.ref x, .str (mkS [75 + i]) t, .str v tv] []) Q E s := by
  intro dp un gd cn cs a ccd cl outer A₀ base h₀ L m s Q E B F X N T hk htk hdp hun hret
  obtain ⟨hinst, hdict, hlist, hents⟩ := id H
  have hpl : Plain (mkS [75 + i]) := plain_key (by omega) (by omega)
  have hll : (mkS [75 + i]).length ≤ 1000000 := by rw [len_mkS]; exact Nat.le_trans (Nat.le_refl 1) (by decide)
  refine wpAny_with_toks (n := 1) htk ?_
  refine wpAny_call ?_
  k_dflt cell_enter
  k_steps
  unfold Stop
  k_dflt (refine' (c_del _ _ _ _ _ _ _ _ _ _ _ _ _ H i hi t hle) _ _ _ _ _ _ _ _ _ _ _ _ _ _ _ _ _ ?B ?F ?X ?N ?T ?hk ?htk ?hdp ?hun ?_; (((case B => k_asm); (case F => k_asm); (case X => k_asm); (case N => k_asm); (case T => k_asm); (case hk => first | exact rfl | assumption); (case htk => walk_at "tpos"); (case hdp => first | exact room_d (by assumption) (by decide) | ktr_room); (case hun => first | exact room_u (by assumption) (by decide) | ktr_units); k_whole)))
  intro nn1 h1 tk1 F2 N2 htk1
  try dsimp only
  try k_sweep
  have H2 := H.put (es' := es.filter fun e => e.i != i) (nn' := nn1) N (fun e he => (List.mem_filter.mp he).1)
  obtain ⟨hinst2, hdict2, hlist2, hents2⟩ := id H2
  have hle2 : (refs (es.filter fun e => e.i != i)).length ≤ 1000 := by
    have := List.length_filter_le (fun e => e.i != i) es
    unfold refs at hle ⊢
    rw [List.length_map] at hle ⊢
    omega
  k_steps
  rename (∀ p, p ∈ putA _ _ news → p.fst < _) => l2
  rename News h₀ L _ _ => N9
  have N10 := news_push_put l2 hlist2 N9
  rw [putA_putA] at N10
  refine hret _ _ _ _ (by k_asm) N10 (fun p hp => ?_) (by assumption)
  obtain ⟨q, hq, e⟩ := putA_mem (l := l) (o := listOf (refs (es.filter fun e => e.i != i)).toArray nn1) hp
  rw [← e]
  exact Nat.ne_of_lt (l2 _ hq)
end
local macro_rules | `(tactic| walk_at "delItem ref str") => `(tactic| (k_here; k_dflt (refine' k_delItem ?k1 ?k2 ?k3 ?k4 ?k5 ?k6 ?_; (case k1 => k_asm); (case k2 => k_asm); (case k3 => k_inst); (case k4 => k_is); (case k5 => k_is); (case k6 => k_is); k_whole)))
section
open PySem PySem.W PyProof.Rows PySem.Calls
set_option maxRecDepth 100000
set_option maxHeartbeats 8000000
local macro_rules | `(tactic| walk_at "exec For Tuple Name cons nil") => `(tactic| (with_reducible refine stop_in ?_))
theorem units_under (A : Around) (args) : (A.under (.builtin "type.__call__" args)).units = A.units + 1 := rfl
local macro_rules | `(tactic| ktr_units) => `(tactic| (have hcL9 := cLine_is; (try simp only [units_deeper, units_under]); (try dsimp only [ktrTop]); omega))
local macro_rules | `(tactic| walk_at "subscriptTail Name Slice ref ref") => `(tactic| (with_reducible refine stop_in ?_))
theorem news_gen {h₀ h : Heap} {L : Addr} {nw : List (Addr × Obj)} (N : News h₀ L h nw) : ∃ nw', nw = nw' ∧ News h₀ L h nw' := ⟨nw, rfl, N⟩

theorem c_items (w : World) (mean : ExcName → Option Value) (mg mb : Str → Option Value) (news : List (Addr × Obj)) (x dx l : Addr) (es : List Ent) (hsh : Int) (tk0 : Tok) (n nn : Nat) (H : HdrAt news x dx l es hsh tk0 n nn) (hle : (refs es).length ≤ 1000) :
   ∀ (dp un : Nat) (gd : Option (List Code)) (cn : Str) (cs : Scope) (a : Addr) (ccd : Value) (cl : List (Str × Addr)) (outer : List Env) (A₀ : Around) (base h₀ : Heap) (L : Addr) (m : Str → Option Value)
    (s : Shared) (Q E : Value → Shared → Prop),
    Below A₀ base outer h₀ → Fr h₀ L s.heap m → (hd.heap_39 w.params).In h₀ → News h₀ L s.heap news → Top hd.view_39 Lz mean mg mb h₀ → cs.kind = .function → 0 < s.toks →
    dp + 3 < recursionLimit → un + 8 * 3 < cLine →
    (∀ (ln nl : Nat) (h' : Heap) (tk' : Nat), Fr h₀ L h' m → News h₀ L h' ((ln, listOf (refs es).toArray nl) :: news) → (∀ p ∈ news, p.1 < ln) → 0 < tk' → Q (.ref ln) { s with heap := h', toks := tk' }) →
      wpAny (model pg w) (ktrTop dp un gd cn cs L a ccd cl outer) (call (.ref 135) [.ref x] []) Q E s := by
  intro dp un gd cn cs a ccd cl outer A₀ base h₀ L m s Q E B F X N T hk htk hdp hun hret
  obtain ⟨hinst, hdict, hlist, hents⟩ := id H
  refine wpAny_with_toks (n := 1) htk ?_
  refine wpAny_call ?_
  k_dflt cell_enter
  k_steps
  unfold Stop
  rename Fr _ _ _ _ => F1
  rename News _ _ _ _ => N1
  refine' kmk_slice_lit (zs := refs es) F1 N1 ⟨_, (N1 _ hlist).1, rfl, _, rfl⟩ IsPart.none IsPart.none ?e ?_ ?s ?t ?z
  case e => rw [slicePick_all]
  case s => with_unfolding_all rfl
  case t => kmk_pure
  case z => rw [sizeLine_eq, List.size_toArray]; omega
  intro D h2 F2 N2 l2
  clear F1 N1
  try k_sweep
  k_steps
  exact hret D 0 _ _ (by k_asm) (by k_asm) l2 (by assumption)

theorem c_init (w : World) (mean : ExcName → Option Value) (mg mb : Str → Option Value) (news : List (Addr × Obj)) (l : Addr) (es : List Ent) (nn : Nat) (hl : (l, listOf (refs es).toArray nn) ∈ news) (hents : ∀ e ∈ es, (e.a, e.obj) ∈ news ∧ e.i < 3) (hpe : ∀ e ∈ es, Plain e.v ∧ e.v.length ≤ 1000000) :
   ∀ (dp un : Nat) (gd : Option (List Code)) (cn : Str) (cs : Scope) (a : Addr) (ccd : Value) (cl : List (Str × Addr)) (outer : List Env) (A₀ : Around) (base h₀ : Heap) (L : Addr) (m : Str → Option Value)
    (s : Shared) (Q E : Value → Shared → Prop),
    Below A₀ base outer h₀ → Fr h₀ L s.heap m → (hd.heap_39 w.params).In h₀ → News h₀ L s.heap news → Top hd.view_39 Lz mean mg mb h₀ → cs.kind = .function → 0 < s.toks →
    dp + 5 < recursionLimit → un + 8 * 5 < cLine →
    (∀ (x dx n: Nat) (hsh : Int) (tk0 : Tok) (h' : Heap) (tk' : Nat), Fr h₀ L h' m → News h₀ L h' ((x, instObj 171 dx) :: (dx, dictOf [⟨hsh, .str (Str.ofString "_headers") tk0, .ref l⟩] n) :: news) → 0 < tk' → Q (.ref x) { s with heap := h', toks := tk' }) →
      wpAny (model pg w) (ktrTop dp un gd cn cs L a ccd cl outer) (call (.ref 171) [.ref l] []) Q E s := by
  intro dp un gd cn cs a ccd cl outer A₀ base h₀ L m s Q E B F X N T hk htk hdp hun hret
  refine wpAny_with_toks (n := 1) htk ?_
  k_dflt (refine' call_cls ?k1 ?k2 ?k3 ?k4 ?k5 ?k6 ?_; (case k1 => k_asm); (case k2 => k_asm); (case k3 => k_asm); (case k4 => k_is); (case k5 => k_is); (case k6 => k_is); k_whole)
  intro x' d' h' F' N' l1 l2
  (try k_lt l1); (try k_lt2 l2); (try k_sweep)
  k_dflt ((refine' code_def ?k1 ?k2 ?k3 ?k4 ?k5 ?kA ?kF ?kK ?k6 ?k7 ?k8 ?k9 ?kB ?_ ?c2 ?c3 ?c4 ?c5; (case kA => exact rfl); (case kF => exact rfl); (case kK => assumption); (case k1 => k_asm); (case k2 => k_asm); (case k3 => k_asm); (case k4 => k_asm); (case k5 => k_asm); (case k6 => k_is); (case k7 => k_is); (case k8 => ktr_room); (case k9 => first | exact BindsTo.of_eq rfl | exact binds_K (by k_in) rfl (by k_is) rfl rfl rfl); (case c5 => decide); (case kB => exact locs rfl); (case c2 => exact rfl); (case c3 => exact rfl); (case c4 => exact rfl); k_whole; intro gZ LZ hZ FGZ FZ NZ BZ XZ TZ; (try dsimp only); (try k_lift BZ); (try k_fold)))
  k_steps
  unfold Stop
  rename Fr _ _ _ _ => F1
  rename News _ _ _ _ => N1
  refine For_TF F1 ?_
  k_steps
  have hL := N1 _ (List.mem_cons_of_mem _ (List.mem_cons_of_mem _ hl))
  obtain ⟨nw, enw, N0⟩ := news_gen N1
  have hi0 := enw ▸ List.Mem.head _
  have hd0 := enw ▸ List.mem_cons_of_mem _ (List.Mem.head _)
  have ht0 : ∀ p ∈ news, p ∈ nw := fun p hp => enw ▸ List.mem_cons_of_mem _ (List.mem_cons_of_mem _ hp)
  refine' loop_list (fun j m₁ nx => (∀ p ∈ nw, p ∈ nx) ∧ m₁ (Str.ofString "self") = some (.ref x')) ?a1 ?a2 ?a3 ?a4 ?a5 ?a6 ?a7 ?a8 ?step ?done
  case a5 => exact F1
  case a6 => exact N0
  case a1 => rfl
  case a2 => exact ⟨_, hL.1, rfl, _, rfl⟩
  case a3 => exact hL.2.1
  case a4 => walk_at "tpos"
  case a7 => exact ⟨fun p hp => hp, by rfl⟩
  case a8 => exact .inr ⟨_, _, _, rfl⟩
  case step =>
    intro j v m₁ nx own h tk htk1 hv ⟨hnx, e1⟩ hoff hown F2 N2
    dsimp only [envOf] at F2 N2
    replace F2 := fr_pins F2 [(_, _)] (all1 e1 all0)
    dsimp only [kstB] at F2
    have hv' : (refs es)[j]? = some v := by rw [← List.getElem?_toArray]; exact hv
    unfold refs at hv'
    rw [List.getElem?_map] at hv'
    obtain ⟨e, he, rfl⟩ := Option.map_eq_some_iff.mp hv'
    have hem := List.mem_of_getElem? he
    have hmem : (e.a, e.obj) ∈ own ++ nx := List.mem_append_right _ (hnx _ (ht0 _ (hents e hem).1))
    unfold Ent.obj at hmem
    have hi3 : (x', instObj 171 d') ∈ own ++ nx := List.mem_append_right _ (hnx _ hi0)
    have hd3 := List.mem_append_right own (hnx _ hd0)
    have hei := (hents e hem).2
    obtain ⟨hpv, hlv⟩ := hpe e hem
    have hpl : Plain (mkS [75 + e.i]) := plain_key (by omega) (by omega)
    have hll : (mkS [75 + e.i]).length ≤ 1000000 := by rw [len_mkS]; exact Nat.le_trans (Nat.le_refl 1) (by decide)
    clear F1 N1 hv hv'
    show wpAny _ _ _ _ _ _
    k_fold
    k_steps
    rename Fr _ _ _ _ => F6
    rename News _ _ _ _ => N6
    refine ⟨_, _, _, nx, rfl, F6, N6, fun p hp hq => hoff p hp (List.mem_singleton.mp hq), hnx, by rfl⟩
  case done =>
    intro h' tk m' nx htk1 F2 N2 ⟨hnx, e1⟩
    dsimp only [envOf] at F2 N2
    replace F2 := fr_pins F2 [(_, _)] (all1 e1 all0)
    dsimp only [kstB] at F2
    clear F1 N1
    dsimp only
    k_steps
    refine hret x' d' 1 _ _ _ _ (by k_asm) (by rw [enw]; exact cb_drop (by assumption) hnx) (by assumption)
end
local macro_rules | `(tactic| ktr_units) => `(tactic| (have hcL9 := cLine_is; (try simp only [units_deeper, units_under]); (try dsimp only [ktrTop]); omega))
section
open PySem PySem.W PyProof.Rows PySem.Calls
set_option maxRecDepth 100000
section
variable {prog : Program} {w : World} {A : Around} {E : Value → Shared → Prop} {s : Shared} {env : Env} {h₀ : Heap} {target : Expr} {body : List Stmt} {Q : Flow → Shared → Prop}
/-- a list that the loop leaves alone; the iterator is among the loop's own -/
theorem loop_listI {l : Addr} {items : Array Value} {m : Str → Option Value} {news : List (Addr × Obj)} (J : Nat → (Str → Option Value) → List (Addr × Obj) → Prop)
    (hh : A.handled = none) (hl : s.heap.IsList l items) (hlL : l ≠ env.locals) (hs : 0 < s.toks) (F : Fr h₀ env.locals s.heap m) (N : News h₀ env.locals s.heap news) (h0 : J 0 m news)
    (htup : ∃ x p, target = .Name x p)
    (step : ∀ i v m₁ news₁ own h tk, 0 < tk → items[i]? = some v → J i m₁ news₁ → (∀ p ∈ news₁, p.1 ≠ s.heap.objs.size) → (∀ p ∈ own, p.1 = s.heap.objs.size ∨ p.1 = l) → (∃ o : Obj, (s.heap.objs.size, o) ∈ own) → Fr h₀ env.locals h m₁ → News h₀ env.locals h (own ++ news₁) →
      wpAny (model prog w) A (assign target env v) (fun _ s₂ => wpAny (model prog w) A (execs body env) (TurnEnd h₀ env.locals [s.heap.objs.size] own s (J (i + 1)) Q) E s₂) E { s with heap := h, toks := tk })
    (hR : ∀ h' tk m' news', 0 < tk → Fr h₀ env.locals h' m' → News h₀ env.locals h' news' → J items.size m' news' → Q .next { s with heap := h', toks := tk }) :
    wpAny (model prog w) A (pyIter (.ref l)) (fun it s₂ => LoopT prog w A h₀ env target body Q E it s₂) E s := by
  have hlt : l < s.heap.objs.size := by obtain ⟨_, e, _⟩ := hl; exact Heap.lt_size e
  refine wpAny_pyIter_list hl ?_
  refine ⟨_, _, _, _, _, _, m, news, J, rfl, Walks.list hh _ _ (Nat.ne_of_lt hlt) items, ?_, ?_, ?_, ⟨⟨_, Heap.get?_push_size _ rfl, rfl, rfl⟩, hl.push _⟩, hs, F.push _, (fun p hp => ⟨Heap.get?_push_of_some _ (N p hp).1, (N p hp).2⟩), h0, ?_, ?_, ?_⟩
  · intro hm
    rcases List.mem_cons.mp hm with e | hm
    · exact absurd F.ns.lt (e ▸ Nat.lt_irrefl _)
    · exact hlL (List.mem_singleton.mp hm).symm
  · intro b hb
    rw [List.mem_singleton.mp hb]
    exact F.fresh
  · intro p hp hI
    exact absurd (Heap.lt_size (N p hp).1) ((List.mem_singleton.mp hI) ▸ Nat.lt_irrefl _)
  · intro i v s' Q E hSt h
    obtain ⟨x, p, rfl⟩ := htup
    exact go_name h
  · intro i v m₁ news₁ own h tk a _ c d e f g2 k2 g k
    refine step i v m₁ news₁ own h tk a c d (fun p hp q => e p hp (List.mem_singleton.mpr q)) (fun p hp => ?_) ?_ g k
    · rcases List.mem_cons.mp (f p hp) with q | q
      · exact .inl q
      · exact .inr (List.mem_singleton.mp q)
    · obtain ⟨o, ho, _⟩ := g2.1
      exact ⟨o, k2 _ (List.mem_cons_self ..) F.fresh _ ho⟩
  · exact hR
end
section
variable {M : Model} {A : Around} {E : Value → Shared → Prop} {s : Shared} {h₀ : Heap} {L a : Addr} {m : Str → Option Value} {cn : Str} {cs : Scope} {ccd : Value} {cl : List (Str × Addr)}
  {x : Str} {v : Value} {Q : Unit → Shared → Prop} {news : List (Addr × Obj)} {c : Addr} {o : Obj} {v₀ : Option Value}
theorem store_O (F : Fr h₀ L s.heap m) (N : News h₀ L s.heap news) (hm : (c, o) ∈ news) (hd : o.data = .cell v₀) (hc : cl.lookup x = some c)
    (h : ∀ h' o', o'.data = .cell (some v) → Fr h₀ L h' m → News h₀ L h' (putA c o' news) → Q () { s with heap := h' })
    (hk : cs.kind = .function) (hx : (envX cn cs L a ccd cl).kindOf x = some .cell) : wpAny M A (storeName (envX cn cs L a ccd cl) x v) Q E s := by
  have hmem := N (c, o) hm
  refine wpAny_storeName_cell hk hx hc ⟨o, hmem.1, hd⟩ fun h' hv hs => ?_
  obtain ⟨o', ho', hd'⟩ := hv
  refine h h' o' hd' ⟨F.ns.sameBut hs (Ne.symm hmem.2.1), fun b ob e => (hs.2 b (fun q => ?_)).trans (F.keep b ob e), F.above⟩ (N.replace hs ho')
  rw [q, hmem.2.2] at e; cases e
end
end
section
open PySem PySem.W PyProof.Rows PySem.Calls
set_option maxRecDepth 100000
set_option maxHeartbeats 8000000
set_option genInjectivity false in
structure RA where
  xl : Addr
  dxl : Addr
  ll : Addr
  xt : Addr
  dxt : Addr
  lt : Addr
  ls : Addr
  lv : Addr
  lo : Addr
  lj : Addr
  l12 : Addr
  va : Nat → Addr
  jt : Nat → Addr
  ji : Nat → Addr
  jd : Nat → Addr
def arr3 (f : Nat → Value) : Array Value := #[f 0, f 1, f 2]
theorem arr3_get (f : Nat → Value) {w : Nat} (h : w < 3) : (arr3 f)[w]? = some (f w) := by
  have : w = 0 ∨ w = 1 ∨ w = 2 := by omega
  rcases this with rfl | rfl | rfl <;> rfl
def fnd (es : List Ent) (i : Nat) : Option Str := (es.find? fun e => e.i == i).map (·.v)
/-- the addresses of lists that the run changes -/
def RA.tg (A : RA) : List Addr := [A.lt, A.ll, A.ls, A.va 0, A.va 1, A.va 2, A.lo]
structure Tie (A : RA) (js : Nat → Job) (tv : List Nat) (P : List (Addr × Obj)) (k : Nat) (S : SS) (news : List (Addr × Obj)) : Prop where
  hP : ∀ p ∈ P, p.1 ∉ A.tg ∧ p ∈ news
  nd : A.tg.Nodup
  off : A.lv ∉ A.tg ∧ A.lj ∉ A.tg ∧ A.l12 ∉ A.tg ∧ ∀ w, w < 3 → A.ji w ∉ A.tg ∧ A.jd w ∉ A.tg
  hlk : ∃ es hsh tk n nn, HdrAt news A.xl A.dxl A.ll es hsh tk n nn ∧ es.length ≤ k ∧ ∀ i, i < 3 → fnd es i = (S.lock i).map fun w => mkS [66 + w]
  htb : ∃ es hsh tk n nn, HdrAt news A.xt A.dxt A.lt es hsh tk n nn ∧ (es.map (·.i)).Perm [0, 1, 2] ∧ ∀ i, i < 3 → fnd es i = some (mkS (S.tab i))
  hst : ∃ (ts : Nat → Tok) (n : Nat), (A.ls, listOf (arr3 fun w => .int (S.steps w) (ts w)) n) ∈ news
  hv : ∃ n, (A.lv, listOf (arr3 fun w => .ref (A.va w)) n) ∈ news
  hvs : ∀ w, w < 3 → ∃ l n, (A.va w, listOf (strValues l).toArray n) ∈ news ∧ l.map (·.1) = (S.vals w).map mkS
  hord : ∃ vs n, (A.lo, listOf vs.toArray n) ∈ news ∧ IntsAre vs (S.ord.map Int.ofNat)
  hj : ∃ n, (A.lj, listOf (arr3 fun w => .ref (A.jt w)) n) ∈ news
  hjt : ∀ w, w < 3 → (A.jt w, { cls := .type "tuple", data := .seq [.ref (A.ji w), .ref (A.jd w)].toArray }) ∈ news
  hji : ∀ w, w < 3 → ∃ vs n, (A.ji w, listOf vs.toArray n) ∈ news ∧ IntsAre vs ((js w).items.map Int.ofNat)
  hjd : ∀ w, w < 3 → ∃ vs n, (A.jd w, listOf vs.toArray n) ∈ news ∧ IntsAre vs ((js w).deeds.map Int.ofNat)
  h12 : ∃ vs n, (A.l12, listOf vs.toArray n) ∈ news ∧ IntsAre vs (tv.map Int.ofNat)

theorem HdrAt.keep {h₀ h : Heap} {L : Addr} {news news' : List (Addr × Obj)} {x dx l d : Addr} {es : List Ent} {hsh : Int} {tk : Tok} {n nn q : Nat} {vs : Array Value} (H : HdrAt news x dx l es hsh tk n nn) (N : News h₀ L h news)
   (hd : (d, listOf vs q) ∈ news) (hne : l ≠ d) (hk : ∀ p ∈ news, p.1 ≠ d → p ∈ news') : HdrAt news' x dx l es hsh tk n nn := by
  have hl := (N _ hd).1
  dsimp only at hl
  refine ⟨hk _ H.inst ?_, hk _ H.dict ?_, hk _ H.list hne, fun e he => ⟨hk _ (H.ents e he).1 ?_, (H.ents e he).2⟩⟩
  · intro e
    have h1 := (N _ H.inst).1
    dsimp only at h1 e
    rw [e, hl] at h1
    exact absurd (congrArg Obj.cls (Option.some.inj h1)) (show ¬ (Value.type "list" = Value.ref 171) by intro h; cases h)
  · intro e
    have h1 := (N _ H.dict).1
    dsimp only at h1 e
    rw [e, hl] at h1
    exact absurd (congrArg Obj.cls (Option.some.inj h1)) (show ¬ (Value.type "list" = Value.type "dict") by decide)
  · intro hq
    have h1 := (N _ (H.ents e he).1).1
    dsimp only at h1 hq
    rw [hq, hl] at h1
    exact absurd (congrArg Obj.cls (Option.some.inj h1)) (show ¬ (Value.type "list" = Value.type "tuple") by decide)
theorem tup_ne {h₀ h : Heap} {L : Addr} {news : List (Addr × Obj)} {a d : Addr} {xs vs : Array Value} {q : Nat} (N : News h₀ L h news) (ha : (a, { cls := .type "tuple", data := .seq xs }) ∈ news) (hd : (d, listOf vs q) ∈ news) : a ≠ d := by
  intro hq
  have hl := (N _ hd).1
  have h1 := (N _ ha).1
  dsimp only at h1 hl
  rw [hq, hl] at h1
  exact absurd (congrArg Obj.cls (Option.some.inj h1)) (show ¬ (Value.type "list" = Value.type "tuple") by decide)

theorem Tie.mono {A : RA} {js : Nat → Job} {tv : List Nat} {P : List (Addr × Obj)} {k : Nat} {S : SS} {news news' : List (Addr × Obj)} (T : Tie A js tv P k S news) (hk : ∀ p ∈ news, p ∈ news') : Tie A js tv P k S news' where
  hP := fun p hp => ⟨(T.hP p hp).1, hk _ (T.hP p hp).2⟩
  nd := T.nd
  off := T.off
  hlk := by obtain ⟨es, hsh, tk, n, nn, H, r⟩ := T.hlk; exact ⟨es, hsh, tk, n, nn, ⟨hk _ H.inst, hk _ H.dict, hk _ H.list, fun e he => ⟨hk _ (H.ents e he).1, (H.ents e he).2⟩⟩, r⟩
  htb := by obtain ⟨es, hsh, tk, n, nn, H, r⟩ := T.htb; exact ⟨es, hsh, tk, n, nn, ⟨hk _ H.inst, hk _ H.dict, hk _ H.list, fun e he => ⟨hk _ (H.ents e he).1, (H.ents e he).2⟩⟩, r⟩
  hst := by obtain ⟨ts, n, h⟩ := T.hst; exact ⟨ts, n, hk _ h⟩
  hv := by obtain ⟨n, h⟩ := T.hv; exact ⟨n, hk _ h⟩
  hvs := fun w hw => by obtain ⟨l, n, h, r⟩ := T.hvs w hw; exact ⟨l, n, hk _ h, r⟩
  hord := by obtain ⟨vs, n, h, r⟩ := T.hord; exact ⟨vs, n, hk _ h, r⟩
  hj := by obtain ⟨n, h⟩ := T.hj; exact ⟨n, hk _ h⟩
  hjt := fun w hw => hk _ (T.hjt w hw)
  hji := fun w hw => by obtain ⟨l, n, h, r⟩ := T.hji w hw; exact ⟨l, n, hk _ h, r⟩
  hjd := fun w hw => by obtain ⟨l, n, h, r⟩ := T.hjd w hw; exact ⟨l, n, hk _ h, r⟩
  h12 := by obtain ⟨vs, n, h, r⟩ := T.h12; exact ⟨vs, n, hk _ h, r⟩
section
variable {h₀ h : Heap} {L : Addr} {A : RA} {js : Nat → Job} {tv : List Nat} {P : List (Addr × Obj)} {k : Nat} {S : SS} {news news' : List (Addr × Obj)} (T : Tie A js tv P k S news) (N : News h₀ L h news)
include T N
/-- what a change of the list at d leaves as it was -/
theorem Tie.rest {d : Addr} (hd : d ∈ A.tg) (hk : ∀ p ∈ news, p.1 ≠ d → p ∈ news') {vs : Array Value} {q : Nat} (hdl : (d, listOf vs q) ∈ news) :
   (∀ p ∈ P, p.1 ∉ A.tg ∧ p ∈ news') ∧ (∃ n, (A.lv, listOf (arr3 fun w => .ref (A.va w)) n) ∈ news') ∧ (∃ n, (A.lj, listOf (arr3 fun w => .ref (A.jt w)) n) ∈ news') ∧
   (∀ w, w < 3 → (A.jt w, { cls := .type "tuple", data := .seq [.ref (A.ji w), .ref (A.jd w)].toArray }) ∈ news') ∧
   (∀ w, w < 3 → ∃ vs n, (A.ji w, listOf vs.toArray n) ∈ news' ∧ IntsAre vs ((js w).items.map Int.ofNat)) ∧
   (∀ w, w < 3 → ∃ vs n, (A.jd w, listOf vs.toArray n) ∈ news' ∧ IntsAre vs ((js w).deeds.map Int.ofNat)) ∧
   (∃ vs n, (A.l12, listOf vs.toArray n) ∈ news' ∧ IntsAre vs (tv.map Int.ofNat)) := by
  obtain ⟨o1, o2, o3, o4⟩ := T.off
  have ne : ∀ {a : Addr}, a ∉ A.tg → a ≠ d := fun h e => h (e ▸ hd)
  refine ⟨fun p hp => ⟨(T.hP p hp).1, hk _ (T.hP p hp).2 (ne (T.hP p hp).1)⟩, ?_, ?_, fun w hw => hk _ (T.hjt w hw) (tup_ne N (T.hjt w hw) hdl), fun w hw => ?_, fun w hw => ?_, ?_⟩
  · obtain ⟨n, h⟩ := T.hv; exact ⟨n, hk _ h (ne o1)⟩
  · obtain ⟨n, h⟩ := T.hj; exact ⟨n, hk _ h (ne o2)⟩
  · obtain ⟨l, n, h, r⟩ := T.hji w hw; exact ⟨l, n, hk _ h (ne (o4 w hw).1), r⟩
  · obtain ⟨l, n, h, r⟩ := T.hjd w hw; exact ⟨l, n, hk _ h (ne (o4 w hw).2), r⟩
  · obtain ⟨l, n, h, r⟩ := T.h12; exact ⟨l, n, hk _ h (ne o3), r⟩
omit N in
theorem Tie.nes : A.lt ≠ A.ll ∧ A.lt ≠ A.ls ∧ A.lt ≠ A.lo ∧ A.ll ≠ A.ls ∧ A.ll ≠ A.lo ∧ A.ls ≠ A.lo ∧ (∀ w, w < 3 → A.va w ≠ A.lt ∧ A.va w ≠ A.ll ∧ A.va w ≠ A.ls ∧ A.va w ≠ A.lo) ∧ (∀ u w, u < 3 → w < 3 → u ≠ w → A.va u ≠ A.va w) := by
  have nd := T.nd
  unfold RA.tg at nd
  simp only [List.nodup_cons, List.mem_cons, List.not_mem_nil, or_false, not_or, List.nodup_nil, and_true, not_false_eq_true] at nd
  obtain ⟨⟨a1, a2, a3, a4, a5, a6⟩, ⟨b1, b2, b3, b4, b5⟩, ⟨c1, c2, c3, c4⟩, ⟨d1, d2, d3⟩, ⟨e1, e2⟩, f1⟩ := nd
  refine ⟨a1, a2, a6, b1, b5, c4, fun w hw => ?_, fun u w hu hw hne => ?_⟩
  · have : w = 0 ∨ w = 1 ∨ w = 2 := by omega
    rcases this with rfl | rfl | rfl
    · exact ⟨Ne.symm a3, Ne.symm b2, Ne.symm c1, d3⟩
    · exact ⟨Ne.symm a4, Ne.symm b3, Ne.symm c2, e2⟩
    · exact ⟨Ne.symm a5, Ne.symm b4, Ne.symm c3, f1⟩
  · have h1 : u = 0 ∨ u = 1 ∨ u = 2 := by omega
    have h2 : w = 0 ∨ w = 1 ∨ w = 2 := by omega
    rcases h1 with rfl | rfl | rfl <;> rcases h2 with rfl | rfl | rfl <;> first | exact absurd rfl hne | assumption | (apply Ne.symm; assumption)
omit T N in
theorem mem_tg {a : Addr} (h : a = A.lt ∨ a = A.ll ∨ a = A.ls ∨ a = A.lo ∨ ∃ w, w < 3 ∧ a = A.va w) : a ∈ A.tg := by
  unfold RA.tg
  rcases h with rfl | rfl | rfl | rfl | ⟨w, hw, rfl⟩
  · simp
  · simp
  · simp
  · simp
  · have : w = 0 ∨ w = 1 ∨ w = 2 := by omega
    rcases this with rfl | rfl | rfl <;> simp
theorem Tie.locks {es' : List Ent} {nn' k' : Nat} {lk' : Nat → Option Nat} {hsh tk n} (hH : HdrAt news' A.xl A.dxl A.ll es' hsh tk n nn') (hk : ∀ p ∈ news, p.1 ≠ A.ll → p ∈ news') (hlen : es'.length ≤ k') (hf : ∀ i, i < 3 → fnd es' i = (lk' i).map fun w => mkS [66 + w]) :
   Tie A js tv P k' { S with lock := lk' } news' := by
  obtain ⟨es, hsh, tk, n, nn, H, r⟩ := T.hlk
  obtain ⟨r0, r1, r2, r3, r4, r5, r6⟩ := T.rest N (mem_tg (.inr (.inl rfl))) hk H.list
  obtain ⟨n1, n2, n3, n4, n5, n6, n7, n8⟩ := T.nes
  refine ⟨r0, T.nd, T.off, ⟨es', _, _, _, nn', hH, hlen, hf⟩, ?_, ?_, r1, fun w hw => ?_, ?_, r2, r3, r4, r5, r6⟩
  · obtain ⟨et, hs2, tk2, n2', nn2, H2, q⟩ := T.htb
    exact ⟨et, hs2, tk2, n2', nn2, H2.keep N H.list n1 hk, q⟩
  · obtain ⟨ts, n, h⟩ := T.hst; exact ⟨ts, n, hk _ h (Ne.symm n4)⟩
  · obtain ⟨l, n, h, q⟩ := T.hvs w hw; exact ⟨l, n, hk _ h (n7 w hw).2.1, q⟩
  · obtain ⟨vs, n, h, q⟩ := T.hord; exact ⟨vs, n, hk _ h (Ne.symm n5), q⟩
theorem Tie.table {es' : List Ent} {nn' : Nat} {t' : Tb} {hsh tk n} (hH : HdrAt news' A.xt A.dxt A.lt es' hsh tk n nn') (hk : ∀ p ∈ news, p.1 ≠ A.lt → p ∈ news') (hp : (es'.map (·.i)).Perm [0, 1, 2]) (hf : ∀ i, i < 3 → fnd es' i = some (mkS (t' i))) :
   Tie A js tv P k { S with tab := t' } news' := by
  obtain ⟨es, hsh, tk, n, nn, H, r⟩ := T.htb
  obtain ⟨r0, r1, r2, r3, r4, r5, r6⟩ := T.rest N (mem_tg (.inl rfl)) hk H.list
  obtain ⟨n1, n2, n3, n4, n5, n6, n7, n8⟩ := T.nes
  refine ⟨r0, T.nd, T.off, ?_, ⟨es', _, _, _, nn', hH, hp, hf⟩, ?_, r1, fun w hw => ?_, ?_, r2, r3, r4, r5, r6⟩
  · obtain ⟨et, hs2, tk2, n2', nn2, H2, q⟩ := T.hlk
    exact ⟨et, hs2, tk2, n2', nn2, H2.keep N H.list (Ne.symm n1) hk, q⟩
  · obtain ⟨ts, n, h⟩ := T.hst; exact ⟨ts, n, hk _ h (Ne.symm n2)⟩
  · obtain ⟨l, n, h, q⟩ := T.hvs w hw; exact ⟨l, n, hk _ h (n7 w hw).1, q⟩
  · obtain ⟨vs, n, h, q⟩ := T.hord; exact ⟨vs, n, hk _ h (Ne.symm n3), q⟩
theorem Tie.stepped {s' : Nat → Nat} {ts' : Nat → Tok} {n' : Nat} (hN : (A.ls, listOf (arr3 fun w => .int (s' w) (ts' w)) n') ∈ news') (hk : ∀ p ∈ news, p.1 ≠ A.ls → p ∈ news') :
   Tie A js tv P k { S with steps := s' } news' := by
  obtain ⟨ts, n, hs⟩ := T.hst
  obtain ⟨r0, r1, r2, r3, r4, r5, r6⟩ := T.rest N (mem_tg (.inr (.inr (.inl rfl)))) hk hs
  obtain ⟨n1, n2, n3, n4, n5, n6, n7, n8⟩ := T.nes
  refine ⟨r0, T.nd, T.off, ?_, ?_, ⟨ts', n', hN⟩, r1, fun w hw => ?_, ?_, r2, r3, r4, r5, r6⟩
  · obtain ⟨et, hs2, tk2, n2', nn2, H2, q⟩ := T.hlk
    exact ⟨et, hs2, tk2, n2', nn2, H2.keep N hs n4 hk, q⟩
  · obtain ⟨et, hs2, tk2, n2', nn2, H2, q⟩ := T.htb
    exact ⟨et, hs2, tk2, n2', nn2, H2.keep N hs n2 hk, q⟩
  · obtain ⟨l, n, h, q⟩ := T.hvs w hw; exact ⟨l, n, hk _ h (n7 w hw).2.2.1, q⟩
  · obtain ⟨vs, n, h, q⟩ := T.hord; exact ⟨vs, n, hk _ h (Ne.symm n6), q⟩
theorem Tie.ordered {vs : List Value} {o' : List Nat} {n' : Nat} (hN : (A.lo, listOf vs.toArray n') ∈ news') (hi : IntsAre vs (o'.map Int.ofNat)) (hk : ∀ p ∈ news, p.1 ≠ A.lo → p ∈ news') :
   Tie A js tv P k { S with ord := o' } news' := by
  obtain ⟨vs0, n, hs, _⟩ := T.hord
  obtain ⟨r0, r1, r2, r3, r4, r5, r6⟩ := T.rest N (mem_tg (.inr (.inr (.inr (.inl rfl))))) hk hs
  obtain ⟨n1, n2, n3, n4, n5, n6, n7, n8⟩ := T.nes
  refine ⟨r0, T.nd, T.off, ?_, ?_, ?_, r1, fun w hw => ?_, ⟨vs, n', hN, hi⟩, r2, r3, r4, r5, r6⟩
  · obtain ⟨et, hs2, tk2, n2', nn2, H2, q⟩ := T.hlk
    exact ⟨et, hs2, tk2, n2', nn2, H2.keep N hs n5 hk, q⟩
  · obtain ⟨et, hs2, tk2, n2', nn2, H2, q⟩ := T.htb
    exact ⟨et, hs2, tk2, n2', nn2, H2.keep N hs n3 hk, q⟩
  · obtain ⟨ts, n, h⟩ := T.hst; exact ⟨ts, n, hk _ h n6⟩
  · obtain ⟨l, n, h, q⟩ := T.hvs w hw; exact ⟨l, n, hk _ h (n7 w hw).2.2.2, q⟩
theorem Tie.valued {w : Nat} (hw : w < 3) {l' : List (Str × Tok)} {x : List Nat} {n' : Nat} (hN : (A.va w, listOf (strValues l').toArray n') ∈ news') (hl : l'.map (·.1) = (S.vals w ++ [x]).map mkS) (hk : ∀ p ∈ news, p.1 ≠ A.va w → p ∈ news') :
   Tie A js tv P k { S with vals := upd S.vals w (S.vals w ++ [x]) } news' := by
  obtain ⟨vs0, n, hs, _⟩ := T.hvs w hw
  obtain ⟨r0, r1, r2, r3, r4, r5, r6⟩ := T.rest N (mem_tg (.inr (.inr (.inr (.inr ⟨w, hw, rfl⟩))))) hk hs
  obtain ⟨n1, n2, n3, n4, n5, n6, n7, n8⟩ := T.nes
  obtain ⟨v1, v2, v3, v4⟩ := n7 w hw
  refine ⟨r0, T.nd, T.off, ?_, ?_, ?_, r1, fun u hu => ?_, ?_, r2, r3, r4, r5, r6⟩
  · obtain ⟨et, hs2, tk2, n2', nn2, H2, q⟩ := T.hlk
    exact ⟨et, hs2, tk2, n2', nn2, H2.keep N hs (Ne.symm v2) hk, q⟩
  · obtain ⟨et, hs2, tk2, n2', nn2, H2, q⟩ := T.htb
    exact ⟨et, hs2, tk2, n2', nn2, H2.keep N hs (Ne.symm v1) hk, q⟩
  · obtain ⟨ts, n, h⟩ := T.hst; exact ⟨ts, n, hk _ h (Ne.symm v3)⟩
  · by_cases e : u = w
    · subst e
      refine ⟨l', n', hN, ?_⟩
      show _ = List.map mkS (upd _ _ _ _)
      rw [upd_eq]; exact hl
    · obtain ⟨l, n, h, q⟩ := T.hvs u hu
      refine ⟨l, n, hk _ h (n8 u w hu hw e), ?_⟩
      show _ = List.map mkS (upd _ _ _ _)
      rw [upd_ne _ _ e]; exact q
  · obtain ⟨vs, n, h, q⟩ := T.hord; exact ⟨vs, n, hk _ h (Ne.symm v4), q⟩
end
theorem fnd_snoc {es : List Ent} {e : Ent} {i : Nat} : fnd (es ++ [e]) i = (fnd es i).or (if e.i = i then some e.v else none) := by
  unfold fnd
  rw [List.find?_append]
  cases h : es.find? (fun e => e.i == i) with
  | some q => simp
  | none =>
    by_cases e1 : e.i = i
    · simp [e1]
    · simp [e1]
theorem fnd_filter {es : List Ent} {i j : Nat} : fnd (es.filter fun e => e.i != i) j = if j = i then none else fnd es j := by
  unfold fnd
  induction es with
  | nil => simp
  | cons a es ih =>
    by_cases h : a.i = i
    · have e1 : (a.i != i) = false := by simp [h]
      rw [List.filter_cons, e1, if_neg (by decide), ih]
      by_cases e : j = i
      · rw [if_pos e, if_pos e]
      · rw [if_neg e, if_neg e, List.find?_cons]
        have e2 : (a.i == j) = false := by rw [h]; simpa using Ne.symm e
        rw [e2]
    · have e1 : (a.i != i) = true := by simpa using h
      rw [List.filter_cons, e1, if_pos rfl, List.find?_cons, List.find?_cons]
      by_cases e2 : a.i = j
      · have e3 : (a.i == j) = true := by simpa using e2
        rw [e3, if_neg (fun q => h (e2.trans q))]
      · have e3 : (a.i == j) = false := by simpa using e2
        rw [e3]; exact ih
theorem fnd_none {es : List Ent} {i : Nat} : fnd es i = none ↔ es.find? (fun e => e.i == i) = none := by
  unfold fnd
  cases es.find? (fun e => e.i == i) <;> simp
theorem fnd_some {es : List Ent} {i : Nat} {v : Str} (h : fnd es i = some v) : ∃ e, es.find? (fun e => e.i == i) = some e ∧ e.v = v := by
  unfold fnd at h
  cases h2 : es.find? (fun e => e.i == i) with
  | none => rw [h2] at h; cases h
  | some e => rw [h2] at h; exact ⟨e, rfl, Option.some.inj h⟩
theorem putA_keep {d : Addr} {o' : Obj} {news : List (Addr × Obj)} : ∀ p ∈ news, p.1 ≠ d → p ∈ putA d o' news := fun _ hp hne => putA_ne hne hp
end
section
open PySem PySem.W PyProof.Rows PySem.Calls
set_option maxRecDepth 100000
set_option maxHeartbeats 8000000
theorem allLt_mem {d : Nat} : ∀ {l : List (Addr × Obj)}, AllLt d l → ∀ p ∈ l, p.1 < d
  | [], _, _, h => by cases h
  | (a, o) :: l, h, p, hp => by
    rcases List.mem_cons.mp hp with e | hp
    · rw [e]; exact h.1
    · exact allLt_mem h.2 p hp
theorem sempty0 : Str.ofString "" = mkS [] := by decide +kernel
theorem nodup7 {a b c d e f g : Nat} (h1 : a < b) (h2 : b < c) (h3 : c < d) (h4 : d < e) (h5 : e < f) (h6 : f < g) : [a, b, c, d, e, f, g].Nodup := by
  have hp : [a, b, c, d, e, f, g].Pairwise (· < ·) := by
    simp only [List.pairwise_cons, List.mem_cons, List.not_mem_nil, or_false, forall_eq_or_imp, forall_eq, List.Pairwise.nil, and_true, false_implies, implies_true]
    refine ⟨?_, ?_, ?_, ?_, ?_, ?_⟩ <;> omega
  exact hp.imp Nat.ne_of_lt
theorem tie_start (js : Nat → Job) (tv : List Nat) (t0 : Tb) {h₀ h : Heap} {L : Addr} {news : List (Addr × Obj)} {P : List (Addr × Obj)} {lj lt xt dxt tl : Nat} {jt ji jd : Nat → Nat}
   {lo lv v2 v1 v0 ls xl dxl l0 : Nat} {a0 a1 a2 b0 b1 b2 tk : Tok} {hsh : Int} {n : Nat}
   (N : News h₀ L h ((lo, listOf #[] 0) :: (lv, listOf #[.ref v0, .ref v1, .ref v2] 0) :: (v2, listOf #[.str (Str.ofString "") a2] 0) :: (v1, listOf #[.str (Str.ofString "") a1] 0) :: (v0, listOf #[.str (Str.ofString "") a0] 0) ::
      (ls, listOf #[.int 0 b0, .int 0 b1, .int 0 b2] 0) :: (xl, instObj 171 dxl) :: (dxl, dictOf [⟨hsh, .str (Str.ofString "_headers") tk, .ref l0⟩] n) :: (l0, listOf #[] 0) :: news))
   (q6 : ∀ (p : Addr × Obj), p ∈ news → p.fst < l0)
   (q5 : xl < ls ∧ dxl < ls ∧ l0 < ls ∧ AllLt ls news)
   (q4 : ls < v0 ∧ xl < v0 ∧ dxl < v0 ∧ l0 < v0 ∧ AllLt v0 news)
   (q3 : v0 < v1 ∧ ls < v1 ∧ xl < v1 ∧ dxl < v1 ∧ l0 < v1 ∧ AllLt v1 news)
   (q2 : v1 < v2 ∧ v0 < v2 ∧ ls < v2 ∧ xl < v2 ∧ dxl < v2 ∧ l0 < v2 ∧ AllLt v2 news)
   (q1 : v2 < lv ∧ v1 < lv ∧ v0 < lv ∧ ls < lv ∧ xl < lv ∧ dxl < lv ∧ l0 < lv ∧ AllLt lv news)
   (q0 : lv < lo ∧ v2 < lo ∧ v1 < lo ∧ v0 < lo ∧ ls < lo ∧ xl < lo ∧ dxl < lo ∧ l0 < lo ∧ AllLt lo news)
   (hPn : ∀ p ∈ P, p.1 ≠ tl ∧ p ∈ news)
   (hsep : tl ≠ lj ∧ tl ≠ lt ∧ ∀ w, w < 3 → tl ≠ ji w ∧ tl ≠ jd w)
   (htb : ∃ es hsh tk n nn, HdrAt news xt dxt tl es hsh tk n nn ∧ (es.map (·.i)).Perm [0, 1, 2] ∧ ∀ i, i < 3 → fnd es i = some (mkS (t0 i)))
   (hj : ∃ n, (lj, listOf (arr3 fun w => .ref (jt w)) n) ∈ news)
   (hjt : ∀ w, w < 3 → (jt w, { cls := .type "tuple", data := .seq [.ref (ji w), .ref (jd w)].toArray }) ∈ news)
   (hji : ∀ w, w < 3 → ∃ vs n, (ji w, listOf vs.toArray n) ∈ news ∧ IntsAre vs ((js w).items.map Int.ofNat))
   (hjd : ∀ w, w < 3 → ∃ vs n, (jd w, listOf vs.toArray n) ∈ news ∧ IntsAre vs ((js w).deeds.map Int.ofNat))
   (h12 : ∃ vs n, (lt, listOf vs.toArray n) ∈ news ∧ IntsAre vs (tv.map Int.ofNat)) :
   ∃ A : RA, A.xl = xl ∧ A.ls = ls ∧ A.lv = lv ∧ A.lo = lo ∧ A.lj = lj ∧ A.l12 = lt ∧ A.xt = xt ∧ A.lt = tl ∧ Tie A js tv P 0 (ini t0) ((lo, listOf #[] 0) :: (lv, listOf #[.ref v0, .ref v1, .ref v2] 0) :: (v2, listOf #[.str (Str.ofString "") a2] 0) :: (v1, listOf #[.str (Str.ofString "") a1] 0) :: (v0, listOf #[.str (Str.ofString "") a0] 0) ::
      (ls, listOf #[.int 0 b0, .int 0 b1, .int 0 b2] 0) :: (xl, instObj 171 dxl) :: (dxl, dictOf [⟨hsh, .str (Str.ofString "_headers") tk, .ref l0⟩] n) :: (l0, listOf #[] 0) :: news) := by
  obtain ⟨est, hsht, tkt, nt, nnt, Ht, hpt, hft⟩ := htb
  obtain ⟨nj, hj⟩ := hj
  obtain ⟨v12, n12, h12, h12i⟩ := h12
  have c1 : @LT.lt Nat _ tl l0 := q6 _ Ht.list
  have c2 : @LT.lt Nat _ lj l0 := q6 _ hj
  have c3 : @LT.lt Nat _ lt l0 := q6 _ h12
  have c4 : ∀ w, w < 3 → ji w < l0 ∧ jd w < l0 := fun w hw => by
    obtain ⟨_, _, h1, _⟩ := hji w hw
    obtain ⟨_, _, h2, _⟩ := hjd w hw
    exact ⟨q6 _ h1, q6 _ h2⟩
  obtain ⟨d1, d2, d3⟩ := hsep
  have up : ∀ p ∈ news, p ∈ ((lo, listOf #[] 0) :: (lv, listOf #[.ref v0, .ref v1, .ref v2] 0) :: (v2, listOf #[.str (Str.ofString "") a2] 0) :: (v1, listOf #[.str (Str.ofString "") a1] 0) :: (v0, listOf #[.str (Str.ofString "") a0] 0) ::
      (ls, listOf #[.int 0 b0, .int 0 b1, .int 0 b2] 0) :: (xl, instObj 171 dxl) :: (dxl, dictOf [⟨hsh, .str (Str.ofString "_headers") tk, .ref l0⟩] n) :: (l0, listOf #[] 0) :: news) := fun p hp => by
    simp only [List.mem_cons]; simp [hp]
  have far : ∀ x : Nat, x < l0 → x ≠ tl → x ∉ ([tl, l0, ls, v0, v1, v2, lo] : List Nat) := fun x hx hxt hm => by
    simp only [List.mem_cons, List.not_mem_nil, or_false] at hm
    rcases hm with h | h | h | h | h | h | h
    · exact hxt h
    all_goals omega
  refine ⟨⟨xl, dxl, l0, xt, dxt, tl, ls, lv, lo, lj, lt, fun w => if w = 0 then v0 else if w = 1 then v1 else v2, jt, ji, jd⟩, rfl, rfl, rfl, rfl, rfl, rfl, rfl, rfl, fun p hp => ⟨far _ (q6 _ (hPn p hp).2) (hPn p hp).1, up _ (hPn p hp).2⟩, ?_, ?_, ⟨[], hsh, tk, n, 0, ?_, Nat.le_refl _, fun i _ => rfl⟩, ?_, ?_, ?_, ?_, ?_, ?_, ?_, ?_, ?_, ?_⟩
  · exact nodup7 c1 q5.2.2.1 q4.1 q3.1 q2.1 q0.2.1
  · show lv ∉ ([tl, l0, ls, v0, v1, v2, lo] : List Nat) ∧ lj ∉ [tl, l0, ls, v0, v1, v2, lo] ∧ lt ∉ [tl, l0, ls, v0, v1, v2, lo] ∧ ∀ w, w < 3 → ji w ∉ [tl, l0, ls, v0, v1, v2, lo] ∧ jd w ∉ [tl, l0, ls, v0, v1, v2, lo]
    refine ⟨fun hm => ?_, far _ c2 (Ne.symm d1), far _ c3 (Ne.symm d2), fun w hw => ⟨far _ (c4 w hw).1 (Ne.symm (d3 w hw).1), far _ (c4 w hw).2 (Ne.symm (d3 w hw).2)⟩⟩
    simp only [List.mem_cons, List.not_mem_nil, or_false] at hm
    rcases hm with h | h | h | h | h | h | h <;> omega
  · exact ⟨by simp, by simp, by simp [refs], fun e he => by cases he⟩
  · exact ⟨est, hsht, tkt, nt, nnt, ⟨up _ Ht.inst, up _ Ht.dict, up _ Ht.list, fun e he => ⟨up _ (Ht.ents e he).1, (Ht.ents e he).2⟩⟩, hpt, hft⟩
  · refine ⟨fun w => if w = 0 then b0 else if w = 1 then b1 else b2, 0, ?_⟩
    have : (arr3 fun w => Value.int (((ini t0).steps w : Nat) : Int) (if w = 0 then b0 else if w = 1 then b1 else b2)) = #[.int 0 b0, .int 0 b1, .int 0 b2] := rfl
    rw [this]
    simp
  · refine ⟨0, ?_⟩
    have : (arr3 fun w => Value.ref (if w = 0 then v0 else if w = 1 then v1 else v2)) = #[.ref v0, .ref v1, .ref v2] := rfl
    show (lv, listOf (arr3 fun w => Value.ref (if w = 0 then v0 else if w = 1 then v1 else v2)) 0) ∈ _
    rw [this]
    simp
  · intro w hw
    have : w = 0 ∨ w = 1 ∨ w = 2 := by omega
    rcases this with rfl | rfl | rfl
    · exact ⟨[(Str.ofString "", a0)], 0, by simp [strValues], by rw [sempty0]; rfl⟩
    · exact ⟨[(Str.ofString "", a1)], 0, by simp [strValues], by rw [sempty0]; rfl⟩
    · exact ⟨[(Str.ofString "", a2)], 0, by simp [strValues], by rw [sempty0]; rfl⟩
  · exact ⟨[], 0, by simp, .nil⟩
  · exact ⟨nj, up _ hj⟩
  · exact fun w hw => up _ (hjt w hw)
  · exact fun w hw => by obtain ⟨vs, n, h1, h2⟩ := hji w hw; exact ⟨vs, n, up _ h1, h2⟩
  · exact fun w hw => by obtain ⟨vs, n, h1, h2⟩ := hjd w hw; exact ⟨vs, n, up _ h1, h2⟩
  · exact ⟨v12, n12, up _ h12, h12i⟩
end
section
open PySem PySem.W PyProof.Rows PySem.Calls
set_option maxRecDepth 100000
set_option maxHeartbeats 8000000
theorem Tie.more {A : RA} {js : Nat → Job} {tv : List Nat} {P : List (Addr × Obj)} {k : Nat} {S : SS} {news : List (Addr × Obj)} (T : Tie A js tv P k S news) : Tie A js tv P (k + 1) S news := by
  obtain ⟨es, hsh, tk, n, nn, H, r1, r2⟩ := T.hlk
  exact { T with hlk := ⟨es, hsh, tk, n, nn, H, Nat.le_succ_of_le r1, r2⟩ }
theorem Tie.wider {A : RA} {js : Nat → Job} {tv : List Nat} {P P' : List (Addr × Obj)} {k : Nat} {S : SS} {news : List (Addr × Obj)} (T : Tie A js tv P k S news) (h : ∀ p ∈ P', p.1 ∉ A.tg ∧ p ∈ news) : Tie A js tv P' k S news := { T with hP := h }
theorem Tie.tg_mem {A : RA} {js : Nat → Job} {tv : List Nat} {P : List (Addr × Obj)} {k : Nat} {S : SS} {news : List (Addr × Obj)} (T : Tie A js tv P k S news) : ∀ a ∈ A.tg, ∃ o, (a, o) ∈ news := by
  intro a ha
  unfold RA.tg at ha
  simp only [List.mem_cons, List.not_mem_nil, or_false] at ha
  rcases ha with rfl | rfl | rfl | rfl | rfl | rfl | rfl
  · obtain ⟨_, _, _, _, _, H, _⟩ := T.htb; exact ⟨_, H.list⟩
  · obtain ⟨_, _, _, _, _, H, _⟩ := T.hlk; exact ⟨_, H.list⟩
  · obtain ⟨_, _, h⟩ := T.hst; exact ⟨_, h⟩
  · obtain ⟨_, _, h, _⟩ := T.hvs 0 (by decide); exact ⟨_, h⟩
  · obtain ⟨_, _, h, _⟩ := T.hvs 1 (by decide); exact ⟨_, h⟩
  · obtain ⟨_, _, h, _⟩ := T.hvs 2 (by decide); exact ⟨_, h⟩
  · obtain ⟨_, _, h, _⟩ := T.hord; exact ⟨_, h⟩
/-- the ledger without the loop's iterator -/
theorem Tie.only {h₀ h : Heap} {L I : Addr} {oI : Obj} {A : RA} {js : Nat → Job} {tv : List Nat} {P P' : List (Addr × Obj)} {k : Nat} {S : SS} {news : List (Addr × Obj)} (T : Tie A js tv P k S news) (N : News h₀ L h news) (hI : (I, oI) ∈ news) (hc : oI.cls = .type "range_iterator")
   (hP : ∀ p ∈ P', p ∈ P ∧ p.1 ≠ I) : Tie A js tv P' k S (news.filter fun p => p.1 != I) := by
  have ne : ∀ {a : Addr} {o : Obj}, (a, o) ∈ news → o.cls ≠ .type "range_iterator" → (a, o) ∈ news.filter fun p => p.1 != I := by
    intro a o hm hcl
    refine List.mem_filter.mpr ⟨hm, ?_⟩
    have : a ≠ I := by
      intro e
      have h1 := (N _ hm).1
      have h2 := (N _ hI).1
      dsimp only at h1 h2
      rw [e, h2] at h1
      exact hcl (Option.some.inj h1 ▸ hc)
    simpa using this
  have hd : ∀ {x dx l : Addr} {es : List Ent} {hsh : Int} {tk : Tok} {n nn : Nat}, HdrAt news x dx l es hsh tk n nn → HdrAt (news.filter fun p => p.1 != I) x dx l es hsh tk n nn := fun H =>
    ⟨ne H.inst (by show ¬ (Value.ref 171 = _); intro h; cases h), ne H.dict (by show ¬ (Value.type "dict" = _); decide), ne H.list (by show ¬ (Value.type "list" = _); decide), fun e he => ⟨ne (H.ents e he).1 (by show ¬ (Value.type "tuple" = _); decide), (H.ents e he).2⟩⟩
  have hl : ¬ (Value.type "list" = Value.type "range_iterator") := by decide
  exact {
    hP := fun p hp => ⟨(T.hP p (hP p hp).1).1, List.mem_filter.mpr ⟨(T.hP p (hP p hp).1).2, by simpa using (hP p hp).2⟩⟩
    nd := T.nd
    off := T.off
    hlk := by obtain ⟨es, hsh, tk, n, nn, H, r⟩ := T.hlk; exact ⟨es, hsh, tk, n, nn, hd H, r⟩
    htb := by obtain ⟨es, hsh, tk, n, nn, H, r⟩ := T.htb; exact ⟨es, hsh, tk, n, nn, hd H, r⟩
    hst := by obtain ⟨ts, n, h⟩ := T.hst; exact ⟨ts, n, ne h hl⟩
    hv := by obtain ⟨n, h⟩ := T.hv; exact ⟨n, ne h hl⟩
    hvs := fun w hw => by obtain ⟨l, n, h, r⟩ := T.hvs w hw; exact ⟨l, n, ne h hl, r⟩
    hord := by obtain ⟨vs, n, h, r⟩ := T.hord; exact ⟨vs, n, ne h hl, r⟩
    hj := by obtain ⟨n, h⟩ := T.hj; exact ⟨n, ne h hl⟩
    hjt := fun w hw => ne (T.hjt w hw) (by show ¬ (Value.type "tuple" = _); decide)
    hji := fun w hw => by obtain ⟨l, n, h, r⟩ := T.hji w hw; exact ⟨l, n, ne h hl, r⟩
    hjd := fun w hw => by obtain ⟨l, n, h, r⟩ := T.hjd w hw; exact ⟨l, n, ne h hl, r⟩
    h12 := by obtain ⟨vs, n, h, r⟩ := T.h12; exact ⟨vs, n, ne h hl, r⟩ }
theorem path_get {vi : List Value} {j : Job} (hii : IntsAre vi (j.items.map Int.ofNat)) {k : Nat} (hk : k < 2 * j.n) : ∃ t, (vi ++ vi.reverse)[k]? = some (.int ((pt j k : Nat) : Int) t) := by
  have hl : vi.length = j.n := by rw [hii.length, List.length_map]
  have lo : ∀ k, k < j.n → ∃ t, vi[k]? = some (.int ((pt j k : Nat) : Int) t) := fun k hk => by
    refine hii.get k _ ?_
    rw [List.getElem?_map, List.getElem?_eq_getElem hk, pt_lo hk]
    rfl
  by_cases h : k < j.n
  · rw [List.getElem?_append_left (by omega)]
    exact lo k h
  · rw [List.getElem?_append_right (by omega), List.getElem?_reverse (by omega), pt_hi (by omega) hk]
    have : vi.length - 1 - (k - vi.length) = 2 * j.n - 1 - k := by omega
    rw [this]
    exact lo _ (by omega)
theorem ap_item10 : ∀ i, i < 3 → ap (10 + i) = [75 + i] := by decide +kernel
theorem ap_own : ∀ i, i < 3 → ap (i + 1) = [66 + i] := by decide +kernel
theorem c_item (w : World) (mean : ExcName → Option Value) (mg mb : Str → Option Value) (i : Nat) (t : Tok) (hi : i < 3) :
   PC w mean mg mb 2 225 [.int (10 + (i : Int)) t] (fun t => .str (mkS [75 + i]) t) := by
  have h := c_word_i w mean mg mb (10 + (i : Int)) t (by omega) (by omega)
  have e : (10 + (i : Int)).toNat = 10 + i := by omega
  rw [e, ap_item10 i hi] at h
  exact h
theorem c_own (w : World) (mean : ExcName → Option Value) (mg mb : Str → Option Value) (i : Nat) (t : Tok) (hi : i < 3) :
   PC w mean mg mb 2 225 [.int ((i : Int) + 1) t] (fun t => .str (mkS [66 + i]) t) := by
  have h := c_word_i w mean mg mb ((i : Int) + 1) t (by omega) (by omega)
  have e : ((i : Int) + 1).toNat = i + 1 := by omega
  rw [e, ap_own i hi] at h
  exact h
theorem c_deed (w : World) (mean : ExcName → Option Value) (mg mb : Str → Option Value) (d : Nat) (v : List Nat) (k : Nat) (t tx ti : Tok) (hx : PlainL v) (hl : v.length ≤ 32768) (hd : d < 4) (hk : k < 16777216) :
   PC w mean mg mb 3 232 [.int (d : Int) t, .str (mkS v) tx, .int (k : Int) ti] (fun t => .str (mkS (plainL d v k)) t) := by
  have h := c_done w mean mg mb (d : Int) (k : Int) (mkS v) t tx ti hx (by rw [len_mkS]; exact hl) (by omega) (by omega) (by omega) (by omega)
  rw [Int.toNat_natCast, Int.toNat_natCast] at h
  exact h
end
section
open PySem PySem.W PyProof.Rows PySem.Calls
set_option maxRecDepth 100000
set_option maxHeartbeats 8000000
def CT (w : World) (mean : ExcName → Option Value) (mg mb : Str → Option Value) (d : Nat) (f : Addr) (vs : List Value) (news : List (Addr × Obj)) (R : Value → List (Addr × Obj) → Prop) : Prop :=
  ∀ (dp un : Nat) (gd : Option (List Code)) (cn : Str) (cs : Scope) (a : Addr) (ccd : Value) (cl : List (Str × Addr)) (outer : List Env) (A₀ : Around) (base h₀ : Heap) (L : Addr) (m : Str → Option Value)
    (s : Shared) (Q E : Value → Shared → Prop),
    Below A₀ base outer h₀ → Fr h₀ L s.heap m → (hd.heap_39 w.params).In h₀ → News h₀ L s.heap news → Top hd.view_39 Lz mean mg mb h₀ → cs.kind = .function → 0 < s.toks →
    dp + d < recursionLimit → un + 8 * d < cLine →
    (∀ (v : Value) (news' : List (Addr × Obj)) (h' : Heap) (tk' : Nat), R v news' → Fr h₀ L h' m → News h₀ L h' news' → 0 < tk' → Q v { s with heap := h', toks := tk' }) →
      wpAny (model pg w) (ktrTop dp un gd cn cs L a ccd cl outer) (call (.ref f) vs []) Q E s
section
variable {w : World} {mean : ExcName → Option Value} {mg mb : Str → Option Value} {A : RA} {js : Nat → Job} {tv : List Nat} {P : List (Addr × Obj)} {k : Nat} {S : SS} {news : List (Addr × Obj)}
theorem refs_len (es : List Ent) : (refs es).length = es.length := List.length_map _
theorem plain66 {W : Nat} (h : W < 3) : Plain (mkS [66 + W]) := plain_key (by omega) (by omega)
theorem Ent.lift {l : Addr} {o : Obj} {news : List (Addr × Obj)} {D : Addr} {q : Obj} : ∀ p ∈ news, p.1 ≠ l → p ∈ (D, q) :: putA l o news := fun p hp hne => List.mem_cons_of_mem _ (putA_keep p hp hne)
theorem HdrAt.snoc {h₀ h : Heap} {L : Addr} {x dx l : Addr} {es es' : List Ent} {hsh : Int} {tk : Tok} {n nn nn' : Nat} {e : Ent} (H : HdrAt news x dx l es hsh tk n nn) (N : News h₀ L h news) (hi : e.i < 3) (hes : ∀ e ∈ es', e ∈ es) :
   HdrAt ((e.a, e.obj) :: putA l (listOf (refs (es' ++ [e])).toArray nn') news) x dx l (es' ++ [e]) hsh tk n nn' := by
  obtain ⟨h1, h2, h3⟩ := H.sep N
  refine ⟨List.mem_cons_of_mem _ (putA_ne h1 H.inst), List.mem_cons_of_mem _ (putA_ne h2 H.dict), List.mem_cons_of_mem _ (putA_eq H.list), fun e' he => ?_⟩
  rcases List.mem_append.mp he with q | q
  · exact ⟨List.mem_cons_of_mem _ (putA_ne (h3 _ (hes _ q)) (H.ents _ (hes _ q)).1), (H.ents _ (hes _ q)).2⟩
  · rw [List.mem_singleton.mp q]
    exact ⟨List.mem_cons_self .., hi⟩
theorem r_setd (T : Tie A js tv P k S news) (hk : k ≤ 66) {i W : Nat} (hi : i < 3) (hW : W < 3) (t tw : Tok) :
   CT w mean mg mb 5 161 [.ref A.xl, .str (mkS [75 + i]) t, .str (mkS [66 + W]) tw] news (fun v news' =>
     ((S.lock i = none ∨ S.lock i = some W) ∧ (∃ t', v = .str (mkS [66 + W]) t') ∧ Tie A js tv P (k + 1) { S with lock := upd S.lock i (some W) } news') ∨
     (∃ u t', S.lock i = some u ∧ u ≠ W ∧ v = .str (mkS [66 + u]) t' ∧ news' = news)) := by
  unfold CT
  intro dp un gd cn cs a ccd cl outer A₀ base h₀ L m s Q E B F X N Tp hkd htk hdp hun hret
  obtain ⟨es, hsh, tk, n, nn, H, hlen, hf⟩ := T.hlk
  have hfi := hf i hi
  cases hl : S.lock i with
  | none =>
    rw [hl] at hfi
    have hnone := fnd_none.mp hfi
    refine c_setd_none w mean mg mb news A.xl A.dxl A.ll es hsh tk n nn H i hi t tw (mkS [66 + W]) (plain66 hW) (by rw [len_mkS]; show 1 ≤ _; decide) (by rw [refs_len]; omega) hnone _ _ _ _ _ _ _ _ _ _ _ _ _ _ _ _ _ B F X N Tp hkd htk hdp hun ?_
    intro tn h' tk' F' N' hne htk'
    refine hret _ _ _ _ (.inl ⟨.inl hl, ⟨_, rfl⟩, ?_⟩) F' N' htk'
    refine T.locks (es' := es ++ [⟨tn, i, mkS [66 + W], t, tw⟩]) N (H.snoc (e := ⟨tn, i, mkS [66 + W], t, tw⟩) N hi fun e he => he) Ent.lift (by rw [List.length_append]; show es.length + 1 ≤ _; omega) fun j hj => ?_
    rw [fnd_snoc, hf j hj]
    unfold upd
    by_cases e : j = i
    · subst e
      rw [hl, if_pos rfl, if_pos rfl]
      rfl
    · rw [if_neg e]
      show ((S.lock j).map _).or (if i = j then _ else _) = _
      rw [if_neg (Ne.symm e)]
      cases S.lock j <;> rfl
  | some u =>
    rw [hl] at hfi
    obtain ⟨e, he, hev⟩ := fnd_some hfi
    refine c_setd_some w mean mg mb news A.xl A.dxl A.ll es hsh tk n nn H i hi t tw (mkS [66 + W]) e he _ _ _ _ _ _ _ _ _ _ _ _ _ _ _ _ _ B F X N Tp hkd htk hdp hun ?_
    intro t' h' tk' F' N' htk'
    by_cases hu : u = W
    · subst hu
      refine hret _ _ _ _ (.inl ⟨.inr hl, ⟨e.tv, by rw [hev]⟩, ?_⟩) F' N' htk'
      have hS : { S with lock := upd S.lock i (some u) } = S := by
        have : upd S.lock i (some u) = S.lock := by
          funext j
          unfold upd
          split
          · rename_i q; rw [q, hl]
          · rfl
        rw [this]
      rw [hS]
      exact T.more
    · exact hret _ _ _ _ (.inr ⟨u, e.tv, hl, hu, by rw [hev], rfl⟩) F' N' htk'
theorem r_get (T : Tie A js tv P k S news) {i : Nat} (hi : i < 3) (t : Tok) :
   CT w mean mg mb 3 118 [.ref A.xt, .str (mkS [75 + i]) t] news (fun v news' => news' = news ∧ ∃ t', v = .str (mkS (S.tab i)) t') := by
  unfold CT
  intro dp un gd cn cs a ccd cl outer A₀ base h₀ L m s Q E B F X N Tp hkd htk hdp hun hret
  obtain ⟨es, hsh, tk, n, nn, H, hp, hf⟩ := T.htb
  obtain ⟨e, he, hev⟩ := fnd_some (hf i hi)
  refine c_get_some w mean mg mb news A.xt A.dxt A.lt es hsh tk n nn H i hi t e he _ _ _ _ _ _ _ _ _ _ _ _ _ _ _ _ _ B F X N Tp hkd htk hdp hun ?_
  intro t' h' tk' F' N' htk'
  exact hret _ _ _ _ ⟨rfl, e.tv, by rw [hev]⟩ F' N' htk'
theorem perm_set {es : List Ent} {i : Nat} (hi : i < 3) (hp : (es.map (·.i)).Perm [0, 1, 2]) (e : Ent) (he : e.i = i) : (((es.filter fun e => e.i != i) ++ [e]).map (·.i)).Perm [0, 1, 2] := by
  rw [List.map_append]
  have h1 : (es.filter fun e => e.i != i).map (·.i) = (es.map (·.i)).filter (· != i) := by rw [List.filter_map]; rfl
  rw [h1]
  have h2 := hp.filter (· != i)
  refine (h2.append_right _).trans ?_
  show List.Perm (_ ++ [e.i]) _
  rw [he]
  have : i = 0 ∨ i = 1 ∨ i = 2 := by omega
  rcases this with rfl | rfl | rfl <;> decide
theorem r_set (T : Tie A js tv P k S news) {i : Nat} (hi : i < 3) (t tw : Tok) (x : List Nat) (hx : PlainL x) (hlx : x.length ≤ 1000000) :
   CT w mean mg mb 7 84 [.ref A.xt, .str (mkS [75 + i]) t, .str (mkS x) tw] news (fun v news' => v = .none ∧ Tie A js tv P k { S with tab := upd S.tab i x } news') := by
  unfold CT
  intro dp un gd cn cs a ccd cl outer A₀ base h₀ L m s Q E B F X N Tp hkd htk hdp hun hret
  obtain ⟨es, hsh, tk, n, nn, H, hp, hf⟩ := T.htb
  have hl3 : es.length = 3 := by have := hp.length_eq; rw [List.length_map] at this; exact this
  refine c_set w mean mg mb news A.xt A.dxt A.lt es hsh tk n nn H i hi t tw (mkS x) hx (by rw [len_mkS]; exact hlx) (by rw [refs_len]; omega) _ _ _ _ _ _ _ _ _ _ _ _ _ _ _ _ _ B F X N Tp hkd htk hdp hun ?_
  intro tn nn' h' tk' F' N' hne htk'
  refine hret _ _ _ _ ⟨rfl, ?_⟩ F' N' htk'
  refine T.table (es' := (es.filter fun e => e.i != i) ++ [⟨tn, i, mkS x, t, tw⟩]) N (H.snoc (e := ⟨tn, i, mkS x, t, tw⟩) N hi fun e he => (List.mem_filter.mp he).1) Ent.lift (perm_set hi hp _ rfl) fun j hj => ?_
  rw [fnd_snoc, fnd_filter]
  unfold upd
  by_cases e : j = i
  · subst e
    rw [if_pos rfl, if_pos rfl, if_pos rfl]
    rfl
  · rw [if_neg e, if_neg e, hf j hj]
    rfl
theorem r_del (T : Tie A js tv P k S news) (hk : k ≤ 67) {i : Nat} (hi : i < 3) (t : Tok) :
   CT w mean mg mb 5 89 [.ref A.xl, .str (mkS [75 + i]) t] news (fun v news' => v = .none ∧ Tie A js tv P k { S with lock := upd S.lock i none } news') := by
  unfold CT
  intro dp un gd cn cs a ccd cl outer A₀ base h₀ L m s Q E B F X N Tp hkd htk hdp hun hret
  obtain ⟨es, hsh, tk, n, nn, H, hlen, hf⟩ := T.hlk
  refine c_del w mean mg mb news A.xl A.dxl A.ll es hsh tk n nn H i hi t (by rw [refs_len]; omega) _ _ _ _ _ _ _ _ _ _ _ _ _ _ _ _ _ B F X N Tp hkd htk hdp hun ?_
  intro nn' h' tk' F' N' htk'
  refine hret _ _ _ _ ⟨rfl, ?_⟩ F' N' htk'
  refine T.locks N (H.put N fun e he => (List.mem_filter.mp he).1) putA_keep (Nat.le_trans (List.length_filter_le ..) hlen) fun j hj => ?_
  rw [fnd_filter]
  unfold upd
  by_cases e : j = i
  · rw [if_pos e, if_pos e]; rfl
  · rw [if_neg e, if_neg e, hf j hj]
end
section
variable {prog : Program} {w : World} {Ar : Around} {E : Value → Shared → Prop} {s : Shared} {h₀ : Heap} {L : Addr} {m : Str → Option Value} {A : RA} {js : Nat → Job} {tv : List Nat} {P : List (Addr × Obj)} {k : Nat} {S : SS} {news : List (Addr × Obj)}
theorem ints_snoc {vs : List Value} {ns : List Int} {n : Int} {t : Tok} (h : IntsAre vs ns) : IntsAre (vs ++ [.int n t]) (ns ++ [n]) := by
  induction h with
  | nil => exact .cons n t .nil
  | cons m u _ ih => exact .cons m u ih
theorem r_app (T : Tie A js tv P k S news) {W : Nat} (hW : W < 3) {x : List Nat} {t : Tok} {Q : Value → Shared → Prop} (F : Fr h₀ L s.heap m) (N : News h₀ L s.heap news) (hz : (S.vals W).length ≤ 1000)
   (h : ∀ h' news', Tie A js tv P k { S with vals := upd S.vals W (S.vals W ++ [x]) } news' → Fr h₀ L h' m → News h₀ L h' news' → Q .none { s with heap := h' }) :
   wpAny (model prog w) Ar (call (.builtin "list.append") [.ref (A.va W), .str (mkS x) t]) Q E s := by
  obtain ⟨l, n, hm, hl⟩ := T.hvs W hW
  have hln : l.length = (S.vals W).length := by have := congrArg List.length hl; rw [List.length_map, List.length_map] at this; exact this
  refine append_O F N hm (by rw [List.size_toArray]; show (List.map _ l).length ≤ _; rw [List.length_map]; omega) fun h' F' N' => ?_
  refine h h' _ ?_ F' N'
  refine T.valued N hW (l' := l ++ [(mkS x, t)]) (n' := n + 1) ?_ ?_ putA_keep
  · have e : (strValues l).toArray.push (.str (mkS x) t) = (strValues (l ++ [(mkS x, t)])).toArray := by simp [strValues]
    rw [e]
    exact putA_eq hm
  · rw [List.map_append, List.map_append, hl]; rfl
theorem r_ord (T : Tie A js tv P k S news) {W : Nat} {t : Tok} {Q : Value → Shared → Prop} (F : Fr h₀ L s.heap m) (N : News h₀ L s.heap news) (hz : S.ord.length ≤ 1000)
   (h : ∀ h' news', Tie A js tv P k { S with ord := S.ord ++ [W] } news' → Fr h₀ L h' m → News h₀ L h' news' → Q .none { s with heap := h' }) :
   wpAny (model prog w) Ar (call (.builtin "list.append") [.ref A.lo, .int (W : Int) t]) Q E s := by
  obtain ⟨l, n, hm, hl⟩ := T.hord
  have hln : l.length = S.ord.length := by rw [hl.length, List.length_map]
  refine append_O F N hm (by rw [List.size_toArray]; omega) fun h' F' N' => ?_
  refine h h' _ ?_ F' N'
  refine T.ordered N (vs := l ++ [.int (W : Int) t]) (n' := n + 1) ?_ ?_ putA_keep
  · have e : l.toArray.push (Value.int (W : Int) t) = (l ++ [Value.int (W : Int) t]).toArray := by simp
    rw [e]
    exact putA_eq hm
  · rw [List.map_append]
    exact ints_snoc hl
theorem arr3_set (f : Nat → Value) {W : Nat} (h : W < 3) (x : Value) : (arr3 f).setIfInBounds W x = arr3 (upd f W x) := by
  have : W = 0 ∨ W = 1 ∨ W = 2 := by omega
  rcases this with rfl | rfl | rfl <;> rfl
theorem r_step (T : Tie A js tv P k S news) {W : Nat} (hW : W < 3) {t u : Tok} {Q : Unit → Shared → Prop} (F : Fr h₀ L s.heap m) (N : News h₀ L s.heap news)
   (h : ∀ h' news', Tie A js tv P k { S with steps := upd S.steps W (S.steps W + 1) } news' → Fr h₀ L h' m → News h₀ L h' news' → Q () { s with heap := h' }) :
   wpAny (model prog w) Ar (setItem (.ref A.ls) (.int (W : Int) t) (.int ((S.steps W : Int) + 1) u)) Q E s := by
  obtain ⟨ts, n, hm⟩ := T.hst
  have z := N _ hm
  dsimp only at z
  have hs3 : (arr3 fun w => Value.int (S.steps w) (ts w)).size = 3 := rfl
  have e0 : (arr3 fun w => Value.int (S.steps w) (ts w)).setIfInBounds W (.int ((S.steps W : Int) + 1) u) = arr3 fun w => Value.int ((upd S.steps W (S.steps W + 1) w : Nat) : Int) (upd ts W u w) := by
    rw [arr3_set _ hW]
    congr 1
    funext w
    unfold upd
    split <;> rfl
  have e2 : Obj.mapSeq (·.setIfInBounds W (.int ((S.steps W : Int) + 1) u)) (listOf (arr3 fun w => Value.int (S.steps w) (ts w)) n) = listOf (arr3 fun w => Value.int ((upd S.steps W (S.steps W + 1) w : Nat) : Int) (upd ts W u w)) n := by
    show (⟨_, _, .seq ((arr3 fun w => Value.int (S.steps w) (ts w)).setIfInBounds W (.int ((S.steps W : Int) + 1) u)) (if ((arr3 fun w => Value.int (S.steps w) (ts w)).setIfInBounds W (.int ((S.steps W : Int) + 1) u)).size == _ then n else n + 1), _⟩ : Obj) = _
    rw [e0]
    rfl
  refine ki_setAt z.1 (by omega) (by omega) (by rw [hs3]; omega) ?_
  rw [Int.toNat_natCast]
  have hsb := Heap.SameBut.update (a := A.ls) (h := s.heap) (f := Obj.mapSeq (·.setIfInBounds W (.int ((S.steps W : Int) + 1) u)))
  have ho' := (Heap.get?_update_self (Obj.mapSeq (·.setIfInBounds W (.int ((S.steps W : Int) + 1) u))) z.1 (by rw [e2]; rfl)).trans (congrArg some e2)
  refine h _ _ (T.stepped N (putA_eq hm) putA_keep) (F.change hsb z.2.1 z.2.2) (N.replace hsb ho')
end
end
local macro_rules | `(tactic| walk_at "call builtin:len") => `(tactic| ((with_reducible show wpAny _ _ (call (Value.builtin "len") [Value.ref _]) _ _ _); (with_reducible refine stop_in ?_)))
local macro_rules | `(tactic| walk_at "binaryOp Add ref ref") => `(tactic| (with_reducible refine stop_in ?_))
local macro_rules | `(tactic| walk_at "subscriptTail Name Slice ref ref") => `(tactic| (with_reducible refine stop_in ?_))
local macro_rules | `(tactic| walk_at "call builtin:list.append") => `(tactic| (with_reducible refine stop_in ?_))
local macro_rules | `(tactic| walk_at "subscriptTail Name Name ref int") => `(tactic| (with_reducible refine stop_in ?_))
local macro_rules | `(tactic| walk_at "setItem ref int") => `(tactic| (with_reducible refine stop_in ?_))
section
open PySem PySem.W PyProof.Rows PySem.Calls
set_option maxRecDepth 100000
set_option maxHeartbeats 8000000
local macro_rules | `(tactic| walk_at "exec For Name Call cons nil") => `(tactic| (with_reducible refine stop_in ?_))

local macro_rules | `(tactic| walk_at "eval IfExp") => `(tactic| (with_reducible refine stop_in ?_))
local macro_rules | `(tactic| walk_at "subscriptTail BinOp Name ref int") => `(tactic| (with_reducible refine stop_in ?_))
theorem Tie.up2 {h₀ h : Heap} {L : Addr} {A : RA} {js : Nat → Job} {tv : List Nat} {P : List (Addr × Obj)} {k : Nat} {S : SS} {news : List (Addr × Obj)} {a b : Addr × Obj} (T : Tie A js tv P k S news) (_N : News h₀ L h (a :: b :: news)) : Tie A js tv P k S (a :: b :: news) :=
  T.mono fun _ hp => List.mem_cons_of_mem _ (List.mem_cons_of_mem _ hp)
theorem seq_last {n : Nat} (h : 0 < n) : seqIndex? (-1) n = some (n - 1) := by
  have := PySem.seqIndex_neg (k := -1) (n := n) (by decide) (by omega)
  rw [this]
  congr 1
  omega
theorem last_get {l : List (Str × Tok)} {xs : List (List Nat)} (hl : l.map (·.1) = xs.map mkS) (hne : xs ≠ []) : ∃ t, (strValues l)[(strValues l).length - 1]? = some (.str (mkS (xs.getLastD [])) t) := by
  have hlen : l.length = xs.length := by have := congrArg List.length hl; rw [List.length_map, List.length_map] at this; exact this
  have hp : 0 < xs.length := List.length_pos_iff.mpr hne
  have e1 : (strValues l).length = l.length := List.length_map _
  rw [e1]
  have h1 : (l.map (·.1))[l.length - 1]? = some (mkS (xs.getLastD [])) := by
    rw [hl, List.getElem?_map, hlen]
    have : xs[xs.length - 1]? = some (xs.getLastD []) := by
      rw [List.getLastD_eq_getLast?, List.getLast?_eq_getElem?, List.getElem?_eq_getElem (by omega)]
      rfl
    rw [this]; rfl
  rw [List.getElem?_map] at h1
  obtain ⟨p, hp, hq⟩ := Option.map_eq_some_iff.mp h1
  refine ⟨p.2, ?_⟩
  unfold strValues
  rw [List.getElem?_map, hp, ← hq]
  rfl
theorem own_news {h₀ h : Heap} {L : Addr} {own nw : List (Addr × Obj)} {f : Addr × Obj → Bool} (N : News h₀ L h nw) (ho : ∀ p ∈ own, p ∈ nw) : News h₀ L h (own ++ nw.filter f) := fun p hp => by
  rcases List.mem_append.mp hp with q | q
  · exact N p (ho p q)
  · exact N p (List.mem_filter.mp q).1
theorem ord_len {js : Nat → Job} {tv : List Nat} {t0 : Tb} : ∀ k, (st js tv t0 k).ord.length ≤ k
  | 0 => Nat.le_refl _
  | k + 1 => by
    have ih := ord_len (js := js) (tv := tv) (t0 := t0) k
    show (turn js (who tv k) (st js tv t0 k)).ord.length ≤ _
    unfold turn
    split
    · unfold go
      dsimp only
      split
      · rw [List.length_append]; show _ + 1 ≤ _; omega
      · omega
    · omega
section
variable {js : Nat → Job} {W i : Nat} {S : SS} {x : List Nat} (hx : deedOf js W S = x) (hi : pt (js W) (S.steps W) = i)
include hx hi
theorem go_eq1 (h : S.steps W + 1 = (js W).n) : (⟨upd S.steps W (S.steps W + 1), upd S.vals W (S.vals W ++ [x]), upd S.tab i x, upd S.lock i (some W), S.ord ++ [W]⟩ : SS) = go js W S := by
  unfold go
  rw [hx, hi, if_neg (by omega), if_pos h]
theorem go_eq2 (h : S.steps W + 1 ≠ (js W).n) (h2 : S.steps W < (js W).n) : (⟨upd S.steps W (S.steps W + 1), upd S.vals W (S.vals W ++ [x]), upd S.tab i x, upd S.lock i (some W), S.ord⟩ : SS) = go js W S := by
  unfold go
  rw [hx, hi, if_neg (by omega), if_neg h]
theorem go_eq3 (h : (js W).n ≤ S.steps W) : (⟨upd S.steps W (S.steps W + 1), upd S.vals W (S.vals W ++ [x]), upd S.tab i x, upd (upd S.lock i (some W)) i none, S.ord⟩ : SS) = go js W S := by
  unfold go
  rw [hx, hi, if_pos h, if_neg (by omega)]
  congr 1
  funext y
  unfold upd
  split <;> rfl
end
theorem len_at {prog : Program} {w : World} {A : Around} {E : Value → Shared → Prop} {s : Shared} {h₀ : Heap} {L l : Addr} {news : List (Addr × Obj)} {vs : List Value} {n q : Nat} {Q : Value → Shared → Prop}
   (N : News h₀ L s.heap news) (hm : (l, listOf vs.toArray q) ∈ news) (hn : vs.length = n) (hb : n ≤ 16777216) (h : ∀ t k, 0 < k → Q (.int (n : Int) t) { s with toks := k }) : wpAny (model prog w) A (call (.builtin "len") [.ref l]) Q E s := by
  have e : vs.toArray.size = n := by rw [List.size_toArray, hn]
  refine call_len_list (items := vs.toArray) ⟨_, (N _ hm).1, rfl, _, rfl⟩ (by rw [e]; omega) ?_
  rw [e]
  exact h _ _ (Nat.succ_pos _)
def IntAt (n : Int) (s : Shared) (h₀ : Heap) (L : Addr) (m : Str → Option Value) (news : List (Addr × Obj)) (v : Value) (s' : Shared) : Prop :=
  ∃ tk h' k, v = .int n tk ∧ s' = { s with heap := h', toks := k } ∧ 0 < k ∧ Fr h₀ L h' m ∧ News h₀ L h' news
theorem join_int {prog : Program} {w : World} {A : Around} {E : Value → Shared → Prop} {s : Shared} {h₀ : Heap} {L : Addr} {m : Str → Option Value} {news : List (Addr × Obj)} {t : Sem Value} {Q : Value → Shared → Prop}
   (_F : Fr h₀ L s.heap m) (_N : News h₀ L s.heap news) (n : Int) (h1 : wpAny (model prog w) A t (IntAt n s h₀ L m news) E s)
   (h2 : ∀ tk h' k, 0 < k → Fr h₀ L h' m → News h₀ L h' news → Q (.int n tk) { s with heap := h', toks := k }) : wpAny (model prog w) A t Q E s := by
  refine wpAny_mono h1 (fun v s' h => ?_) fun _ _ e => e
  obtain ⟨tk, h', k, rfl, rfl, hk, F, N⟩ := h
  exact h2 tk h' k hk F N
theorem c_run (w : World) (mean : ExcName → Option Value) (mg mb : Str → Option Value) (news : List (Addr × Obj)) (P : List (Addr × Obj)) (js : Nat → Job) (tv : List Nat) (t0 : Tb) (O : ∀ w, w < 3 → (js w).Ok) (hv : tv.length = 12 ∧ ∀ x ∈ tv, x < 3) (F0 : Fit js (ini t0))
   (lj lt xt dxt tl : Nat) (jt ji jd : Nat → Nat) (hsep : tl ≠ lj ∧ tl ≠ lt ∧ ∀ w, w < 3 → tl ≠ ji w ∧ tl ≠ jd w)
   (hPn : ∀ p ∈ P, p.1 ≠ tl ∧ p ∈ news)
   (htb : ∃ es hsh tk n nn, HdrAt news xt dxt tl es hsh tk n nn ∧ (es.map (·.i)).Perm [0, 1, 2] ∧ ∀ i, i < 3 → fnd es i = some (mkS (t0 i)))
   (hj : ∃ n, (lj, listOf (arr3 fun w => .ref (jt w)) n) ∈ news)
   (hjt : ∀ w, w < 3 → (jt w, { cls := .type "tuple", data := .seq [.ref (ji w), .ref (jd w)].toArray }) ∈ news)
   (hji : ∀ w, w < 3 → ∃ vs n, (ji w, listOf vs.toArray n) ∈ news ∧ IntsAre vs ((js w).items.map Int.ofNat))
   (hjd : ∀ w, w < 3 → ∃ vs n, (jd w, listOf vs.toArray n) ∈ news ∧ IntsAre vs ((js w).deeds.map Int.ofNat))
   (h12 : ∃ vs n, (lt, listOf vs.toArray n) ∈ news ∧ IntsAre vs (tv.map Int.ofNat)) :
   ∀ (dp un : Nat) (gd : Option (List Code)) (cn : Str) (cs : Scope) (a : Addr) (ccd : Value) (cl : List (Str × Addr)) (outer : List Env) (A₀ : Around) (base h₀ : Heap) (L : Addr) (m : Str → Option Value)
    (s : Shared) (Q E : Value → Shared → Prop),
    Below A₀ base outer h₀ → Fr h₀ L s.heap m → (hd.heap_39 w.params).In h₀ → News h₀ L s.heap news → Top hd.view_39 Lz mean mg mb h₀ → cs.kind = .function → 0 < s.toks →
    dp + 9 < recursionLimit → un + 8 * 9 < cLine →
    (∀ (D : Addr) (A : RA) (nx : List (Addr × Obj)) (h' : Heap) (tk' : Nat), A.lj = lj → A.l12 = lt → A.xt = xt → Tie A js tv P 66 (st js tv t0 66) nx → Fr h₀ L h' m → News h₀ L h' ((D, { cls := .type "tuple", data := .seq #[.ref A.lv, .ref A.lo] }) :: nx) → 0 < tk' → Q (.ref D) { s with heap := h', toks := tk' }) →
      wpAny (model pg w) (ktrTop dp un gd cn cs L a ccd cl outer) (call (.ref 244) [.ref lj, .ref lt, .ref xt] []) Q E s := by
  intro dp un gd cn cs a ccd cl outer A₀ base h₀ L m s Q E B F X N T hk htk hdp hun hret
  refine wpAny_with_toks (n := 1) htk ?_
  refine wpAny_call ?_
  k_dflt cell_enter
  k_steps
  unfold Stop
  rename News _ _ _ _ => N5
  k_dflt (refine' (c_init _ _ _ _ _ _ [] 0 ?hl ?hents ?hpe) _ _ _ _ _ _ _ _ _ _ _ _ _ _ _ _ _ ?B ?F ?X N5 ?T ?hk ?htk ?hdp ?hun ?_; (case hl => exact List.Mem.head _); (case hents => intro e he; cases he); (case hpe => intro e he; cases he); (case B => k_asm); (case F => k_asm); (case X => k_asm); (case T => k_asm); (case hk => first | exact rfl | assumption); (case htk => walk_at "tpos"); (case hdp => first | exact room_d (by assumption) (by decide) | ktr_room); (case hun => first | exact room_u (by assumption) (by decide) | ktr_units); k_whole)
  intro xl dxl n hsh tk0 h1 tk1 F1 N1 htk1
  try dsimp only
  try k_sweep
  k_steps
  unfold Stop
  rename Fr _ _ _ _ => F9
  rename News _ _ _ _ => N9
  obtain ⟨A, e1, e2, e3, e4, e5, e6, e7, e8, T0⟩ := tie_start js tv t0 N9 (by assumption) (by assumption) (by assumption) (by assumption) (by assumption) (by assumption) (by assumption) hPn hsep htb hj hjt hji hjd h12
  obtain ⟨nw, enw, N0⟩ := news_gen N9
  rw [enw] at T0
  have hsub : ∀ p ∈ news, p ∈ nw := fun p hp => by rw [← enw]; simp [hp]
  clear N9 enw
  refine For_TF F9 ?_
  refine wpAny_with_toks (n := 1) (by assumption) ?_
  k_steps
  rename Fr _ _ _ _ => F8
  rename News _ _ _ _ => N8
  rename IsRange _ _ _ _ _ _ _ _ => R8
  refine' loop_range (n := 66) (fun j m₁ nx => Tie A js tv P j (st js tv t0 j) nx ∧ m₁ (Str.ofString "jobs") = some (.ref A.lj) ∧ m₁ (Str.ofString "turns") = some (.ref A.l12) ∧ m₁ (Str.ofString "table") = some (.ref A.xt) ∧ m₁ (Str.ofString "locks") = some (.ref A.xl) ∧
     m₁ (Str.ofString "steps") = some (.ref A.ls) ∧ m₁ (Str.ofString "values") = some (.ref A.lv) ∧ m₁ (Str.ofString "order") = some (.ref A.lo)) ?a1 ?r8 ?hsz ?hsm ?a4 ?f8 ?n8 ?a7 ?a8 ?step ?done
  case r8 => exact R8
  case f8 => exact F8
  case n8 => exact N8
  case a1 => rfl
  case hsz => decide
  case hsm => decide
  case a4 => walk_at "tpos"
  case a7 =>
    refine ⟨T0, ?_, ?_, ?_, ?_, ?_, ?_, ?_⟩
    · rw [e5]; rfl
    · rw [e6]; rfl
    · rw [e7]; rfl
    · rw [e1]; rfl
    · rw [e2]; rfl
    · rw [e3]; rfl
    · rw [e4]; rfl
  case a8 => exact ⟨_, _, rfl⟩
  case step =>
    intro j t m₁ nx own h tk htk1 hj66 ⟨T, p1, p2, p3, p4, p5, p6, p7⟩ hoff hown hrI F2 N2
    dsimp only [envOf] at F2 N2
    replace F2 := fr_pins F2 [(_, _), (_, _), (_, _), (_, _), (_, _), (_, _), (_, _)] (all1 p1 (all1 p2 (all1 p3 (all1 p4 (all1 p5 (all1 p6 (all1 p7 all0)))))))
    dsimp only [kstB] at F2
    clear F8 N8 R8 T0
    show wpAny _ _ _ _ _ _
    k_fold
    k_steps
    unfold Stop
    rename Fr _ _ _ _ => F3
    rename News _ _ _ _ => N3
    refine join_int F3 N3 ((who tv j : Nat) : Int) ?_ ?_
    · refine wpAny_IfExp ?_
      k_steps
      · unfold Stop
        obtain ⟨v12, n12, hm12, hi12⟩ := T.h12
        have hz := (N3 _ (List.mem_append_right own hm12)).1
        have hj12 : j < 12 := by omega
        have hgx : (tv.map Int.ofNat)[j]? = some ((who tv j : Nat) : Int) := by
          have hl := hv.1
          unfold who
          rw [if_pos hj12, List.getElem?_map, List.getD_eq_getElem?_getD, List.getElem?_eq_getElem (by omega)]
          rfl
        obtain ⟨t', ht'⟩ := hi12.get j _ hgx
        refine item_listL ⟨_, hz, rfl, _, rfl⟩ (by omega) (by omega) ht' ?_
        exact ⟨_, _, _, rfl, rfl, by walk_at "tpos", F3, N3⟩
      · have e3 : ((j : Int)).fmod 3 = ((who tv j : Nat) : Int) := by
          unfold who
          rw [if_neg (by omega), Int.fmod_eq_emod_of_nonneg _ (by decide)]
          omega
        rename Fr _ _ _ _ => F3
        rename News _ _ _ _ => N3
        rw [e3]
        exact ⟨_, _, _, rfl, rfl, by walk_at "tpos", F3, N3⟩
    intro tw h3 k3 hk3 F4 N4
    clear F3 N3
    have hW := who_lt hv j
    generalize hWe : who tv j = W at hW F4
    k_steps
    unfold Stop
    rename Fr _ _ _ _ => F3
    rename News _ _ _ _ => N3
    obtain ⟨nj, hmj⟩ := T.hj
    have hmt := List.mem_append_right own (T.hjt W hW)
    obtain ⟨vi, ni, hmi, hii⟩ := T.hji W hW
    obtain ⟨vd, nd, hmd, hid⟩ := T.hjd W hW
    have hmi2 := List.mem_append_right own hmi
    have hmd2 := List.mem_append_right own hmd
    refine item_list (x := .ref (A.jt W)) ⟨_, (N3 _ (List.mem_append_right own hmj)).1, rfl, _, rfl⟩ (nn0 _) (nn3 hW) (by rw [Int.toNat_natCast]; exact arr3_get _ hW) ?_
    k_steps
    unfold Stop
    rename Fr _ _ _ _ => F3
    rename News _ _ _ _ => N3
    obtain ⟨ts, ns, hms⟩ := T.hst
    refine item_list (x := .int ((st js tv t0 j).steps W) (ts W)) ⟨_, (N3 _ (List.mem_append_right own hms)).1, rfl, _, rfl⟩ (nn0 _) (nn3 hW) (by rw [Int.toNat_natCast]; exact arr3_get _ hW) ?_
    k_steps
    unfold Stop
    rename Fr _ _ _ _ => F3
    rename News _ _ _ _ => N3
    have hvn : vi.length = (js W).n := by rw [hii.length, List.length_map]
    have hn3 := ok_len O (O W hW)
    refine len_at N3 hmi2 hvn (by omega) ?_
    intro tn kn hkn
    k_steps
    · unfold Stop
      rename Fr _ _ _ _ => F3
      rename News _ _ _ _ => N3
      have hs2 : (st js tv t0 j).steps W < 2 * (js W).n := by omega
      refine' krv_lit (zs := vi.reverse) F3 N3 ⟨_, (N3 _ hmi2).1, rfl, _, rfl⟩ (IsPart.int _ _) ?e ?_ ?s ?t ?z
      case e => rfl
      case s => with_unfolding_all rfl
      case t => kmk_pure
      case z => rw [sizeLine_eq, List.size_toArray]; omega
      intro D1 h4 F4 N4 l4
      clear F3 N3
      try k_sweep
      k_steps
      unfold Stop
      rename Fr _ _ _ _ => F3
      rename News _ _ _ _ => N3
      refine add_lists F3 N3 ⟨_, (N3 _ (List.mem_cons_of_mem _ hmi2)).1, rfl, _, rfl⟩ ⟨_, (N3 _ (List.mem_cons_self ..)).1, rfl, _, rfl⟩ ?_ (by rw [sizeLine_eq, List.length_reverse]; omega)
      intro h5 F5 N5
      clear F3 N3
      try k_sweep
      k_steps
      unfold Stop
      rename Fr _ _ _ _ => F3
      rename News _ _ _ _ => N3
      obtain ⟨tp, htp⟩ := path_get hii hs2
      refine item_listL ⟨_, (N3 _ (List.mem_cons_self ..)).1, rfl, _, rfl⟩ (nn0 _) (nn6 hs2 hn3) (by rw [Int.toNat_natCast]; exact htp) ?_
      k_steps
      unfold Stop
      have hi3 := pt_lt3 (O W hW) hs2
      have hdeed : (js W).deeds.getD ((st js tv t0 j).steps W) 0 < 4 := by
        have hdl := (O W hW).dlen
        rw [List.getD_eq_getElem?_getD, List.getElem?_eq_getElem (by omega)]
        exact (O W hW).dlt _ (List.getElem_mem _)
      have hfit := st_fit O hv F0 j
      have hinv := st_inv O hv j (t0 := t0)
      clear hmi hmd hmt hmi2 htp hii
      generalize hie : pt (js W) ((st js tv t0 j).steps W) = i at hi3 ⊢
      (refine' (c_item _ _ _ _ _ _ hi3) _ _ _ _ _ _ _ _ _ _ _ _ _ _ _ _ _ _ ?B ?F ?X ?N ?T ?hk ?htk ?hdp ?hun ?_; (((case B => k_asm); (case F => k_asm); (case X => k_asm); (case N => k_asm); (case T => k_asm); (case hk => first | exact rfl | assumption); (case htk => walk_at "tpos"); (case hdp => first | exact room_d (by assumption) (by decide) | ktr_room); (case hun => first | exact room_u (by assumption) (by decide) | ktr_units); k_whole)))
      intro tn h6 k6 F6 N6 hk6
      clear F3 N3
      try dsimp only
      try k_sweep
      k_steps
      unfold Stop
      (refine' (c_own _ _ _ _ _ _ hW) _ _ _ _ _ _ _ _ _ _ _ _ _ _ _ _ _ _ ?B ?F ?X ?N ?T ?hk ?htk ?hdp ?hun ?_; (((case B => k_asm); (case F => k_asm); (case X => k_asm); (case N => k_asm); (case T => k_asm); (case hk => first | exact rfl | assumption); (case htk => walk_at "tpos"); (case hdp => first | exact room_d (by assumption) (by decide) | ktr_room); (case hun => first | exact room_u (by assumption) (by decide) | ktr_units); k_whole)))
      intro tw2 h7 k7 F7 N7 hk7
      try dsimp only
      try k_sweep
      obtain ⟨esl, hshl, tkl, nl, nnl, Hl, hel, hfl⟩ := T.hlk
      have hxl := List.mem_append_right own Hl.inst
      have hdl := List.mem_append_right own Hl.dict
      clear hel hfl
      k_steps
      unfold Stop
      rename Fr _ _ _ _ => F3
      rename News _ _ _ _ => N3
      have hI : ∀ a ∈ A.tg, ∀ p ∈ own, p.1 ≠ a := by
        intro a ha p hp e
        obtain ⟨o, ho⟩ := T.tg_mem a ha
        exact hoff _ ho (e.symm.trans (hown p hp))
      have T1 : Tie A js tv (own ++ P) j (st js tv t0 j) _ := (T.mono (fun p hp => List.mem_append_right own hp)).wider (P' := own ++ P) (fun p hp => by
        rcases List.mem_append.mp hp with q | q
        · exact ⟨fun hm => hI _ hm p q rfl, List.mem_append_left _ q⟩
        · exact ⟨(T.hP p q).1, List.mem_append_right _ (T.hP p q).2⟩)
      have T2 := T1.up2 N3
      refine' (r_setd T2 (by omega) hi3 hW _ _) _ _ _ _ _ _ _ _ _ _ _ _ _ _ _ _ _ ?B ?F ?X N3 ?T ?hk ?htk ?hdp ?hun ?_
      (((case B => k_asm); (case F => k_asm); (case X => k_asm); (case T => k_asm); (case hk => first | exact rfl | assumption); (case htk => walk_at "tpos"); (case hdp => first | exact room_d (by assumption) (by decide) | ktr_room); (case hun => first | exact room_u (by assumption) (by decide) | ktr_units); k_whole))
      rintro v nw2 h8 k8 (⟨hfr, ⟨t', rfl⟩, T3⟩ | ⟨u, t', hu, hne, rfl, rfl⟩) F8 N8 hk8
      · clear F3 N3 T2 T1 hxl hdl Hl
        try dsimp only
        try k_sweep
        obtain ⟨est, hsht, tkt, nt, nnt, Ht, _⟩ := T3.htb
        have hxt := Ht.inst
        have hdt := Ht.dict
        k_steps
        · unfold Stop
          rename Fr _ _ _ _ => F3
          rename News _ _ _ _ => N3
          obtain ⟨vd, nd, hmd, hid⟩ := T3.hjd W hW
          obtain ⟨td, htd⟩ := hid.get ((st js tv t0 j).steps W) (((js W).deeds.getD ((st js tv t0 j).steps W) 0 : Nat) : Int) (by
            have hdl := (O W hW).dlen
            rw [List.getElem?_map, List.getD_eq_getElem?_getD, List.getElem?_eq_getElem (by omega)]
            rfl)
          refine item_listL ⟨_, (N3 _ hmd).1, rfl, _, rfl⟩ (nn0 _) (nn6 hs2 hn3) (by rw [Int.toNat_natCast]; exact htd) ?_
          k_steps
          unfold Stop
          refine' (r_get T3 hi3 _) _ _ _ _ _ _ _ _ _ _ _ _ _ _ _ _ _ ?B ?F ?X N3 ?T ?hk ?htk ?hdp ?hun ?_
          (((case B => k_asm); (case F => k_asm); (case X => k_asm); (case T => k_asm); (case hk => first | exact rfl | assumption); (case htk => walk_at "tpos"); (case hdp => first | exact room_d (by assumption) (by decide) | ktr_room); (case hun => first | exact room_u (by assumption) (by decide) | ktr_units); k_whole))
          rintro v nw3 h9 k9 ⟨rfl, t9, rfl⟩ F9 N9 hk9
          clear F3 N3
          try dsimp only
          try k_sweep
          k_steps
          unfold Stop
          rename Fr _ _ _ _ => F3
          rename News _ _ _ _ => N3
          obtain ⟨nv, hmv⟩ := T3.hv
          refine item_list (x := .ref (A.va W)) ⟨_, (N3 _ hmv).1, rfl, _, rfl⟩ (nn0 _) (nn3 hW) (by rw [Int.toNat_natCast]; exact arr3_get _ hW) ?_
          k_steps
          obtain ⟨lv0, nv0, hmw, hlw⟩ := T3.hvs W hW
          obtain ⟨hfv1, hfv2, hfv3⟩ := hfit.vlen W hW
          obtain ⟨tl0, htl⟩ := last_get (xs := (st js tv t0 j).vals W) hlw hfv1
          have hll0 : 0 < (strValues lv0).length := by
            rcases Nat.eq_zero_or_pos (strValues lv0).length with q | q
            · rw [List.getElem?_eq_none (by omega)] at htl; cases htl
            · exact q
          refine kde_neg ⟨_, (N3 _ hmw).1, rfl, _, rfl⟩ (by decide) (by decide) (seq_last hll0) htl ?_
          k_steps
          have hsl := seen_lt O hfit hW hs2
          unfold lenL at hsl
          refine len_str (by rw [len_mkS]; omega) ?_
          rw [len_mkS]
          k_steps
          unfold Stop
          have hil := in_len O hfit hW hs2
          have hip := in_plain O hfit hW hs2
          have hop := out_plain O hfit hW hs2
          have hol := out_len6 O hfit hW hs2
          have hde : deedOf js W (st js tv t0 j) = plainL ((js W).deeds.getD ((st js tv t0 j).steps W) 0) ((st js tv t0 j).tab i) ((((st js tv t0 j).vals W).getLastD []).length) := by unfold deedOf lenL; rw [hie]
          rw [hie] at hil hip
          rw [hde] at hop hol
          (refine' (c_deed _ _ _ _ _ _ _ _ _ _ hip hil hdeed hsl) _ _ _ _ _ _ _ _ _ _ _ _ _ _ _ _ _ _ ?B ?F ?X ?N ?T ?hk ?htk ?hdp ?hun ?_; (((case B => k_asm); (case F => k_asm); (case X => k_asm); (case N => k_asm); (case T => k_asm); (case hk => first | exact rfl | assumption); (case htk => walk_at "tpos"); (case hdp => first | exact room_d (by assumption) (by decide) | ktr_room); (case hun => first | exact room_u (by assumption) (by decide) | ktr_units); k_whole)))
          rw [← hde] at hop hol ⊢
          generalize hxe : deedOf js W (st js tv t0 j) = x at hop hol ⊢
          intro tx h10 k10 F10 N10 hk10
          clear F3 N3
          try dsimp only
          try k_sweep
          k_steps
          unfold Stop
          clear hmd hid hmv hmw hlw hxt hdt Ht
          refine' (r_set T3 hi3 _ _ x hop (Nat.le_trans hol (by decide))) _ _ _ _ _ _ _ _ _ _ _ _ _ _ _ _ _ ?B ?F ?X N10 ?T ?hk ?htk ?hdp ?hun ?_
          (((case B => k_asm); (case F => k_asm); (case X => k_asm); (case T => k_asm); (case hk => first | exact rfl | assumption); (case htk => walk_at "tpos"); (case hdp => first | exact room_d (by assumption) (by decide) | ktr_room); (case hun => first | exact room_u (by assumption) (by decide) | ktr_units); k_whole))
          rintro v nw4 h11 k11 ⟨rfl, T4⟩ F11 N11 hk11
          clear F10 N10 T3
          try dsimp only
          try k_sweep
          obtain ⟨est4, hsht4, tkt4, nt4, nnt4, Ht4, _⟩ := T4.htb
          have hxt4 := Ht4.inst
          have hdt4 := Ht4.dict
          obtain ⟨nv4, hmv4⟩ := T4.hv
          obtain ⟨lv4, nw4', hmw4, hlw4⟩ := T4.hvs W hW
          k_steps
          unfold Stop
          refine item_list (x := .ref (A.va W)) ⟨_, (N11 _ hmv4).1, rfl, _, rfl⟩ (nn0 _) (nn3 hW) (by rw [Int.toNat_natCast]; exact arr3_get _ hW) ?_
          k_steps
          unfold Stop
          refine' (r_get T4 hi3 _) _ _ _ _ _ _ _ _ _ _ _ _ _ _ _ _ _ ?B ?F ?X N11 ?T ?hk ?htk ?hdp ?hun ?_
          (((case B => k_asm); (case F => k_asm); (case X => k_asm); (case T => k_asm); (case hk => first | exact rfl | assumption); (case htk => walk_at "tpos"); (case hdp => first | exact room_d (by assumption) (by decide) | ktr_room); (case hun => first | exact room_u (by assumption) (by decide) | ktr_units); k_whole))
          rintro v nw5 h12 k12 ⟨rfl, t12, rfl⟩ F12 N12 hk12
          clear F11 N11
          try dsimp only
          try k_sweep
          k_steps
          unfold Stop
          rw [upd_eq]
          refine r_app T4 hW F12 N12 (by rw [show _ = _ from hfv2]; omega) ?_
          intro h13 nw6 T5 F13 N13
          clear F12 N12 T4 hmv4 hmw4 hlw4 hxt4 hdt4 Ht4
          try dsimp only
          try k_sweep
          k_steps
          obtain ⟨ts5, ns5, hms5⟩ := T5.hst
          refine wpAny_getItem_list (x := .int ((st js tv t0 j).steps W) (ts5 W)) ⟨_, (N13 _ hms5).1, rfl, _, rfl⟩ (nn0 _) (nn3 hW) (by rw [Int.toNat_natCast]; exact arr3_get _ hW) ?_
          k_steps
          unfold Stop
          rename Fr _ _ _ _ => F3
          rename News _ _ _ _ => N3
          refine r_step T5 hW F3 N3 ?_
          intro h14 nw7 T6 F14 N14
          clear F3 N3 T5 hms5
          try dsimp only
          try k_sweep
          obtain ⟨vo6, no6, hmo6, hio6⟩ := T6.hord
          obtain ⟨vi6, ni6, hmi6, hii6⟩ := T6.hji W hW
          obtain ⟨esl6, hshl6, tkl6, nl6, nnl6, Hl6, _⟩ := T6.hlk
          have hxl6 := Hl6.inst
          have hdl6 := Hl6.dict
          have hvn6 : vi6.length = (js W).n := by rw [hii6.length, List.length_map]
          k_steps
          unfold Stop
          rename Fr _ _ _ _ => F3
          rename News _ _ _ _ => N3
          refine len_at N3 hmi6 hvn6 (by omega) ?_
          intro tq kq hkq
          have hst1 : st js tv t0 (j + 1) = go js W (st js tv t0 j) := by
            show turn js (who tv j) (st js tv t0 j) = _
            rw [hWe]
            unfold turn
            rw [if_pos ⟨hs2, by rw [hie]; exact hfr⟩]
          obtain ⟨oI, hI1, hI2⟩ := id hrI
          k_steps
          · unfold Stop
            rename Fr _ _ _ _ => F3
            rename News _ _ _ _ => N3
            refine r_ord T6 F3 N3 (Nat.le_trans (ord_len j) (by omega)) ?_
            intro h15 nw8 T7 F15 N15
            clear F3 N3 T6 hmi6 hmo6 hxl6 hdl6 Hl6
            try dsimp only
            try k_sweep
            obtain ⟨vi7, ni7, hmi7, hii7⟩ := T7.hji W hW
            have hvn7 : vi7.length = (js W).n := by rw [hii7.length, List.length_map]
            k_steps
            unfold Stop
            rename Fr _ _ _ _ => F3
            rename News _ _ _ _ => N3
            refine len_at N3 hmi7 hvn7 (by omega) ?_
            intro tq2 kq2 hkq2
            k_steps
            all_goals first
            | (exfalso; omega)
            | skip
            · rename Fr _ _ _ _ => F6
              rename News _ _ _ _ => N6
              rw [go_eq1 (js := js) (S := st js tv t0 j) hxe hie (by omega)] at T7
              have T8 := T7.only N6 (T7.hP _ (List.mem_append_left _ hI1)).2 hI2 (P' := P) (fun p hp => ⟨List.mem_append_right _ hp, hoff p (T.hP p hp).2⟩)
              rw [← hst1] at T8
              exact ⟨_, _, _, _, rfl, F6, own_news N6 (fun p hp => (T7.hP p (List.mem_append_left _ hp)).2), (fun p hp hq => by have := (List.mem_filter.mp hp).2; rw [List.mem_singleton.mp hq] at this; simp at this), T8, rfl, rfl, rfl, rfl, rfl, rfl, rfl⟩
          · unfold Stop
            rename Fr _ _ _ _ => F3
            rename News _ _ _ _ => N3
            refine len_at N3 hmi6 hvn6 (by omega) ?_
            intro tq2 kq2 hkq2
            k_steps
            · unfold Stop
              refine' (r_del T6 (by omega) hi3 _) _ _ _ _ _ _ _ _ _ _ _ _ _ _ _ _ _ ?B ?F ?X N3 ?T ?hk ?htk ?hdp ?hun ?_
              (((case B => k_asm); (case F => k_asm); (case X => k_asm); (case T => k_asm); (case hk => first | exact rfl | assumption); (case htk => walk_at "tpos"); (case hdp => first | exact room_d (by assumption) (by decide) | ktr_room); (case hun => first | exact room_u (by assumption) (by decide) | ktr_units); k_whole))
              rintro v nw8 h15 k15 ⟨rfl, T7⟩ F15 N15 hk15
              clear F3 N3
              try dsimp only
              try k_sweep
              k_steps
              rename Fr _ _ _ _ => F6
              rename News _ _ _ _ => N6
              rw [go_eq3 (js := js) (S := st js tv t0 j) hxe hie (by omega)] at T7
              have T8 := T7.only N6 (T7.hP _ (List.mem_append_left _ hI1)).2 hI2 (P' := P) (fun p hp => ⟨List.mem_append_right _ hp, hoff p (T.hP p hp).2⟩)
              rw [← hst1] at T8
              exact ⟨_, _, _, _, rfl, F6, own_news N6 (fun p hp => (T7.hP p (List.mem_append_left _ hp)).2), (fun p hp hq => by have := (List.mem_filter.mp hp).2; rw [List.mem_singleton.mp hq] at this; simp at this), T8, rfl, rfl, rfl, rfl, rfl, rfl, rfl⟩
            · rename Fr _ _ _ _ => F6
              rename News _ _ _ _ => N6
              rw [go_eq2 (js := js) (S := st js tv t0 j) hxe hie (by omega) (by omega)] at T6
              have T8 := T6.only N6 (T6.hP _ (List.mem_append_left _ hI1)).2 hI2 (P' := P) (fun p hp => ⟨List.mem_append_right _ hp, hoff p (T.hP p hp).2⟩)
              rw [← hst1] at T8
              exact ⟨_, _, _, _, rfl, F6, own_news N6 (fun p hp => (T6.hP p (List.mem_append_left _ hp)).2), (fun p hp hq => by have := (List.mem_filter.mp hp).2; rw [List.mem_singleton.mp hq] at this; simp at this), T8, rfl, rfl, rfl, rfl, rfl, rfl, rfl⟩
        · rename ((_ == _) = false) => hq
          simp at hq
      · clear F3 N3
        try dsimp only
        try k_sweep
        k_steps
        · rename ((_ == _) = true) => hq
          have := congrArg (fun x : Str => x.cps.toList) (beq_iff_eq.mp hq)
          simp at this
          exact absurd this hne
        · rename Fr _ _ _ _ => F6
          rename News _ _ _ _ => N6
          refine ⟨_, _, _, nx, rfl, F6, cb_drop N6 (fun p hp => List.mem_cons_of_mem _ (List.mem_cons_of_mem _ hp)), fun p hp hq => hoff p hp (List.mem_singleton.mp hq), ?_, ?_, ?_, ?_, ?_, ?_, ?_, ?_⟩
          · have hne : ¬ may js (who tv j) (st js tv t0 j) := by
              rw [hWe]
              rintro ⟨h1, h2⟩
              rw [hie, hu] at h2
              rcases h2 with h2 | h2
              · cases h2
              · injection h2 with h2; exact hne h2
            show Tie A js tv P (j + 1) (turn js (who tv j) (st js tv t0 j)) nx
            unfold turn
            rw [if_neg hne]
            exact T.more
          all_goals rfl
    · rename Fr _ _ _ _ => F6
      rename News _ _ _ _ => N6
      refine ⟨_, _, _, nx, rfl, F6, N6, fun p hp hq => hoff p hp (List.mem_singleton.mp hq), ?_, ?_, ?_, ?_, ?_, ?_, ?_, ?_⟩
      · have hne : ¬ may js (who tv j) (st js tv t0 j) := by
          rw [hWe]
          rintro ⟨h1, _⟩
          omega
        show Tie A js tv P (j + 1) (turn js (who tv j) (st js tv t0 j)) nx
        unfold turn
        rw [if_neg hne]
        exact T.more
      all_goals rfl
  case done =>
    intro h' tk m' nx htk1 F2 N2 ⟨T, p1, p2, p3, p4, p5, p6, p7⟩
    dsimp only [envOf] at F2 N2
    replace F2 := fr_pins F2 [(_, _), (_, _), (_, _), (_, _), (_, _), (_, _), (_, _)] (all1 p1 (all1 p2 (all1 p3 (all1 p4 (all1 p5 (all1 p6 (all1 p7 all0)))))))
    dsimp only [kstB] at F2
    clear F8 N8 R8 T0
    dsimp only
    k_steps
    exact hret _ A nx _ _ e5 e6 e7 T (by k_asm) (by k_asm) (by assumption)
end
section
open PySem PySem.W PyProof.Rows PySem.Calls
set_option maxRecDepth 100000
set_option maxHeartbeats 8000000
set_option genInjectivity false in
structure SA where
  lh : Addr
  lv : Addr
  lj : Addr
  lo : Addr
  va : Nat → Addr
  jt : Nat → Addr
  ji : Nat → Addr
  jd : Nat → Addr
/-- the addresses of lists that the serial run changes -/
def SA.tg (A : SA) : List Addr := [A.lh, A.va 0, A.va 1, A.va 2]
structure TieS (A : SA) (js : Nat → Job) (od : List Nat) (P : List (Addr × Obj)) (S : SS) (news : List (Addr × Obj)) : Prop where
  hP : ∀ p ∈ P, p.1 ∉ A.tg ∧ p ∈ news
  nd : A.tg.Nodup
  off : A.lv ∉ A.tg ∧ A.lj ∉ A.tg ∧ A.lo ∉ A.tg ∧ ∀ w, w < 3 → A.ji w ∉ A.tg ∧ A.jd w ∉ A.tg
  hh : ∃ (ts : Nat → Tok) (n : Nat), (A.lh, listOf (arr3 fun i => .str (mkS (S.tab i)) (ts i)) n) ∈ news
  hv : ∃ n, (A.lv, listOf (arr3 fun w => .ref (A.va w)) n) ∈ news
  hvs : ∀ w, w < 3 → ∃ l n, (A.va w, listOf (strValues l).toArray n) ∈ news ∧ l.map (·.1) = (S.vals w).map mkS
  hord : ∃ vs n, (A.lo, listOf vs.toArray n) ∈ news ∧ IntsAre vs (od.map Int.ofNat)
  hj : ∃ n, (A.lj, listOf (arr3 fun w => .ref (A.jt w)) n) ∈ news
  hjt : ∀ w, w < 3 → (A.jt w, { cls := .type "tuple", data := .seq [.ref (A.ji w), .ref (A.jd w)].toArray }) ∈ news
  hji : ∀ w, w < 3 → ∃ vs n, (A.ji w, listOf vs.toArray n) ∈ news ∧ IntsAre vs ((js w).items.map Int.ofNat)
  hjd : ∀ w, w < 3 → ∃ vs n, (A.jd w, listOf vs.toArray n) ∈ news ∧ IntsAre vs ((js w).deeds.map Int.ofNat)
section
variable {A : SA} {js : Nat → Job} {od : List Nat} {P P' : List (Addr × Obj)} {S S' : SS} {news news' : List (Addr × Obj)}
theorem TieS.mono (T : TieS A js od P S news) (hk : ∀ p ∈ news, p ∈ news') : TieS A js od P S news' where
  hP := fun p hp => ⟨(T.hP p hp).1, hk _ (T.hP p hp).2⟩
  nd := T.nd
  off := T.off
  hh := by obtain ⟨ts, n, h⟩ := T.hh; exact ⟨ts, n, hk _ h⟩
  hv := by obtain ⟨n, h⟩ := T.hv; exact ⟨n, hk _ h⟩
  hvs := fun w hw => by obtain ⟨l, n, h, r⟩ := T.hvs w hw; exact ⟨l, n, hk _ h, r⟩
  hord := by obtain ⟨vs, n, h, r⟩ := T.hord; exact ⟨vs, n, hk _ h, r⟩
  hj := by obtain ⟨n, h⟩ := T.hj; exact ⟨n, hk _ h⟩
  hjt := fun w hw => hk _ (T.hjt w hw)
  hji := fun w hw => by obtain ⟨l, n, h, r⟩ := T.hji w hw; exact ⟨l, n, hk _ h, r⟩
  hjd := fun w hw => by obtain ⟨l, n, h, r⟩ := T.hjd w hw; exact ⟨l, n, hk _ h, r⟩
theorem TieS.wider (T : TieS A js od P S news) (h : ∀ p ∈ P', p.1 ∉ A.tg ∧ p ∈ news) : TieS A js od P' S news := { T with hP := h }
theorem TieS.same (T : TieS A js od P S news) (h1 : S'.tab = S.tab) (h2 : S'.vals = S.vals) : TieS A js od P S' news := { T with
  hh := by rw [h1]; exact T.hh
  hvs := by rw [h2]; exact T.hvs }
theorem TieS.tg_mem (T : TieS A js od P S news) : ∀ a ∈ A.tg, ∃ o, (a, o) ∈ news := by
  intro a ha
  unfold SA.tg at ha
  simp only [List.mem_cons, List.not_mem_nil, or_false] at ha
  rcases ha with rfl | rfl | rfl | rfl
  · obtain ⟨_, _, h⟩ := T.hh; exact ⟨_, h⟩
  · obtain ⟨_, _, h, _⟩ := T.hvs 0 (by decide); exact ⟨_, h⟩
  · obtain ⟨_, _, h, _⟩ := T.hvs 1 (by decide); exact ⟨_, h⟩
  · obtain ⟨_, _, h, _⟩ := T.hvs 2 (by decide); exact ⟨_, h⟩
theorem mem_tgS {a : Addr} (h : a = A.lh ∨ ∃ w, w < 3 ∧ a = A.va w) : a ∈ A.tg := by
  unfold SA.tg
  rcases h with rfl | ⟨w, hw, rfl⟩
  · simp
  · have : w = 0 ∨ w = 1 ∨ w = 2 := by omega
    rcases this with rfl | rfl | rfl <;> simp
theorem TieS.nes (T : TieS A js od P S news) : (∀ w, w < 3 → A.va w ≠ A.lh) ∧ (∀ u w, u < 3 → w < 3 → u ≠ w → A.va u ≠ A.va w) := by
  have nd := T.nd
  unfold SA.tg at nd
  simp only [List.nodup_cons, List.mem_cons, List.not_mem_nil, or_false, not_or, List.nodup_nil, and_true, not_false_eq_true] at nd
  obtain ⟨⟨a1, a2, a3⟩, ⟨b1, b2⟩, c1⟩ := nd
  refine ⟨fun w hw => ?_, fun u w hu hw hne => ?_⟩
  · have : w = 0 ∨ w = 1 ∨ w = 2 := by omega
    rcases this with rfl | rfl | rfl <;> (apply Ne.symm; assumption)
  · have h1 : u = 0 ∨ u = 1 ∨ u = 2 := by omega
    have h2 : w = 0 ∨ w = 1 ∨ w = 2 := by omega
    rcases h1 with rfl | rfl | rfl <;> rcases h2 with rfl | rfl | rfl <;> first | exact absurd rfl hne | assumption | (apply Ne.symm; assumption)
variable {h₀ h : Heap} {L : Addr} (T : TieS A js od P S news) (N : News h₀ L h news)
include T N
theorem TieS.rest {d : Addr} (hd : d ∈ A.tg) (hk : ∀ p ∈ news, p.1 ≠ d → p ∈ news') {vs : Array Value} {q : Nat} (hdl : (d, listOf vs q) ∈ news) :
   (∀ p ∈ P, p.1 ∉ A.tg ∧ p ∈ news') ∧ (∃ n, (A.lv, listOf (arr3 fun w => .ref (A.va w)) n) ∈ news') ∧ (∃ n, (A.lj, listOf (arr3 fun w => .ref (A.jt w)) n) ∈ news') ∧
   (∀ w, w < 3 → (A.jt w, { cls := .type "tuple", data := .seq [.ref (A.ji w), .ref (A.jd w)].toArray }) ∈ news') ∧
   (∀ w, w < 3 → ∃ vs n, (A.ji w, listOf vs.toArray n) ∈ news' ∧ IntsAre vs ((js w).items.map Int.ofNat)) ∧
   (∀ w, w < 3 → ∃ vs n, (A.jd w, listOf vs.toArray n) ∈ news' ∧ IntsAre vs ((js w).deeds.map Int.ofNat)) ∧
   (∃ vs n, (A.lo, listOf vs.toArray n) ∈ news' ∧ IntsAre vs (od.map Int.ofNat)) := by
  obtain ⟨o1, o2, o3, o4⟩ := T.off
  have ne : ∀ {a : Addr}, a ∉ A.tg → a ≠ d := fun h e => h (e ▸ hd)
  refine ⟨fun p hp => ⟨(T.hP p hp).1, hk _ (T.hP p hp).2 (ne (T.hP p hp).1)⟩, ?_, ?_, fun w hw => hk _ (T.hjt w hw) (tup_ne N (T.hjt w hw) hdl), fun w hw => ?_, fun w hw => ?_, ?_⟩
  · obtain ⟨n, h⟩ := T.hv; exact ⟨n, hk _ h (ne o1)⟩
  · obtain ⟨n, h⟩ := T.hj; exact ⟨n, hk _ h (ne o2)⟩
  · obtain ⟨l, n, h, r⟩ := T.hji w hw; exact ⟨l, n, hk _ h (ne (o4 w hw).1), r⟩
  · obtain ⟨l, n, h, r⟩ := T.hjd w hw; exact ⟨l, n, hk _ h (ne (o4 w hw).2), r⟩
  · obtain ⟨l, n, h, r⟩ := T.hord; exact ⟨l, n, hk _ h (ne o3), r⟩
theorem TieS.held {t' : Tb} {ts' : Nat → Tok} {n' : Nat} (hN : (A.lh, listOf (arr3 fun i => .str (mkS (t' i)) (ts' i)) n') ∈ news') (hk : ∀ p ∈ news, p.1 ≠ A.lh → p ∈ news') :
   TieS A js od P { S with tab := t' } news' := by
  obtain ⟨ts, n, hs⟩ := T.hh
  obtain ⟨r0, r1, r2, r3, r4, r5, r6⟩ := T.rest N (mem_tgS (.inl rfl)) hk hs
  obtain ⟨n1, n2⟩ := T.nes
  refine ⟨r0, T.nd, T.off, ⟨ts', n', hN⟩, r1, fun w hw => ?_, r6, r2, r3, r4, r5⟩
  obtain ⟨l, n, h, q⟩ := T.hvs w hw; exact ⟨l, n, hk _ h (n1 w hw), q⟩
theorem TieS.valued {w : Nat} (hw : w < 3) {l' : List (Str × Tok)} {x : List Nat} {n' : Nat} (hN : (A.va w, listOf (strValues l').toArray n') ∈ news') (hl : l'.map (·.1) = (S.vals w ++ [x]).map mkS) (hk : ∀ p ∈ news, p.1 ≠ A.va w → p ∈ news') :
   TieS A js od P { S with vals := upd S.vals w (S.vals w ++ [x]) } news' := by
  obtain ⟨vs0, n, hs, _⟩ := T.hvs w hw
  obtain ⟨r0, r1, r2, r3, r4, r5, r6⟩ := T.rest N (mem_tgS (.inr ⟨w, hw, rfl⟩)) hk hs
  obtain ⟨n1, n2⟩ := T.nes
  refine ⟨r0, T.nd, T.off, ?_, r1, fun u hu => ?_, r6, r2, r3, r4, r5⟩
  · obtain ⟨ts, n, h⟩ := T.hh; exact ⟨ts, n, hk _ h (Ne.symm (n1 w hw))⟩
  · by_cases e : u = w
    · subst e
      refine ⟨l', n', hN, ?_⟩
      show _ = List.map mkS (upd _ _ _ _)
      rw [upd_eq]; exact hl
    · obtain ⟨l, n, h, q⟩ := T.hvs u hu
      refine ⟨l, n, hk _ h (n2 u w hu hw e), ?_⟩
      show _ = List.map mkS (upd _ _ _ _)
      rw [upd_ne _ _ e]; exact q
end
section
variable {prog : Program} {w : World} {Ar : Around} {E : Value → Shared → Prop} {s : Shared} {h₀ : Heap} {L : Addr} {m : Str → Option Value} {A : SA} {js : Nat → Job} {od : List Nat} {P : List (Addr × Obj)} {S : SS} {news : List (Addr × Obj)}
theorem z_app (T : TieS A js od P S news) {W : Nat} (hW : W < 3) {x : List Nat} {t : Tok} {Q : Value → Shared → Prop} (F : Fr h₀ L s.heap m) (N : News h₀ L s.heap news) (hz : (S.vals W).length ≤ 1000)
   (h : ∀ h' news', TieS A js od P { S with vals := upd S.vals W (S.vals W ++ [x]) } news' → Fr h₀ L h' m → News h₀ L h' news' → Q .none { s with heap := h' }) :
   wpAny (model prog w) Ar (call (.builtin "list.append") [.ref (A.va W), .str (mkS x) t]) Q E s := by
  obtain ⟨l, n, hm, hl⟩ := T.hvs W hW
  have hln : l.length = (S.vals W).length := by have := congrArg List.length hl; rw [List.length_map, List.length_map] at this; exact this
  refine append_O F N hm (by rw [List.size_toArray]; show (List.map _ l).length ≤ _; rw [List.length_map]; omega) fun h' F' N' => ?_
  refine h h' _ ?_ F' N'
  refine T.valued N hW (l' := l ++ [(mkS x, t)]) (n' := n + 1) ?_ ?_ putA_keep
  · have e : (strValues l).toArray.push (.str (mkS x) t) = (strValues (l ++ [(mkS x, t)])).toArray := by simp [strValues]
    rw [e]
    exact putA_eq hm
  · rw [List.map_append, List.map_append, hl]; rfl
theorem z_set (T : TieS A js od P S news) {i : Nat} (hi : i < 3) {x : List Nat} {t u : Tok} {Q : Unit → Shared → Prop} (F : Fr h₀ L s.heap m) (N : News h₀ L s.heap news)
   (h : ∀ h' news', TieS A js od P { S with tab := upd S.tab i x } news' → Fr h₀ L h' m → News h₀ L h' news' → Q () { s with heap := h' }) :
   wpAny (model prog w) Ar (setItem (.ref A.lh) (.int (i : Int) t) (.str (mkS x) u)) Q E s := by
  obtain ⟨ts, n, hm⟩ := T.hh
  have z := N _ hm
  dsimp only at z
  have hs3 : (arr3 fun i => Value.str (mkS (S.tab i)) (ts i)).size = 3 := rfl
  have e0 : (arr3 fun i => Value.str (mkS (S.tab i)) (ts i)).setIfInBounds i (.str (mkS x) u) = arr3 fun j => Value.str (mkS (upd S.tab i x j)) (upd ts i u j) := by
    rw [arr3_set _ hi]
    congr 1
    funext w
    unfold upd
    split <;> rfl
  have e2 : Obj.mapSeq (·.setIfInBounds i (.str (mkS x) u)) (listOf (arr3 fun i => Value.str (mkS (S.tab i)) (ts i)) n) = listOf (arr3 fun j => Value.str (mkS (upd S.tab i x j)) (upd ts i u j)) n := by
    show (⟨_, _, .seq ((arr3 fun i => Value.str (mkS (S.tab i)) (ts i)).setIfInBounds i (.str (mkS x) u)) (if ((arr3 fun i => Value.str (mkS (S.tab i)) (ts i)).setIfInBounds i (.str (mkS x) u)).size == _ then n else n + 1), _⟩ : Obj) = _
    rw [e0]
    rfl
  refine ki_setAt z.1 (by omega) (by omega) (by rw [hs3]; omega) ?_
  rw [Int.toNat_natCast]
  have hsb := Heap.SameBut.update (a := A.lh) (h := s.heap) (f := Obj.mapSeq (·.setIfInBounds i (.str (mkS x) u)))
  have ho' := (Heap.get?_update_self (Obj.mapSeq (·.setIfInBounds i (.str (mkS x) u))) z.1 (by rw [e2]; rfl)).trans (congrArg some e2)
  refine h _ _ (T.held N (putA_eq hm) putA_keep) (F.change hsb z.2.1 z.2.2) (N.replace hsb ho')
end
/-- the ledger without the loop's own objects -/
theorem TieS.only {A : SA} {js : Nat → Job} {od : List Nat} {P P' P₀ : List (Addr × Obj)} {S S₀ : SS} {news nx : List (Addr × Obj)} (T : TieS A js od P S news) (T₀ : TieS A js od P₀ S₀ nx) (wr : List Addr) (hoff : ∀ p ∈ nx, p.1 ∉ wr)
   (hP : ∀ p ∈ P', p ∈ P ∧ p.1 ∉ wr) : TieS A js od P' S (news.filter fun p => decide (p.1 ∉ wr)) := by
  have ne : ∀ {a : Addr} {o o' : Obj}, (a, o) ∈ news → (a, o') ∈ nx → (a, o) ∈ news.filter fun p => decide (p.1 ∉ wr) := fun {a o o'} hm h0 => List.mem_filter.mpr ⟨hm, decide_eq_true (show a ∉ wr from hoff (a, o') h0)⟩
  exact {
    hP := fun p hp => ⟨(T.hP p (hP p hp).1).1, List.mem_filter.mpr ⟨(T.hP p (hP p hp).1).2, decide_eq_true (hP p hp).2⟩⟩
    nd := T.nd
    off := T.off
    hh := by obtain ⟨ts, n, h⟩ := T.hh; obtain ⟨_, _, h0⟩ := T₀.hh; exact ⟨ts, n, ne h h0⟩
    hv := by obtain ⟨n, h⟩ := T.hv; obtain ⟨_, h0⟩ := T₀.hv; exact ⟨n, ne h h0⟩
    hvs := fun w hw => by obtain ⟨l, n, h, r⟩ := T.hvs w hw; obtain ⟨_, _, h0, _⟩ := T₀.hvs w hw; exact ⟨l, n, ne h h0, r⟩
    hord := by obtain ⟨vs, n, h, r⟩ := T.hord; obtain ⟨_, _, h0, _⟩ := T₀.hord; exact ⟨vs, n, ne h h0, r⟩
    hj := by obtain ⟨n, h⟩ := T.hj; obtain ⟨_, h0⟩ := T₀.hj; exact ⟨n, ne h h0⟩
    hjt := fun w hw => ne (T.hjt w hw) (T₀.hjt w hw)
    hji := fun w hw => by obtain ⟨l, n, h, r⟩ := T.hji w hw; obtain ⟨_, _, h0, _⟩ := T₀.hji w hw; exact ⟨l, n, ne h h0, r⟩
    hjd := fun w hw => by obtain ⟨l, n, h, r⟩ := T.hjd w hw; obtain ⟨_, _, h0, _⟩ := T₀.hjd w hw; exact ⟨l, n, ne h h0, r⟩ }
theorem nodup4 {a b c d : Nat} (h1 : a < b) (h2 : b < c) (h3 : c < d) : [a, b, c, d].Nodup := by
  have hp : [a, b, c, d].Pairwise (· < ·) := by
    simp only [List.pairwise_cons, List.mem_cons, List.not_mem_nil, or_false, forall_eq_or_imp, forall_eq, List.Pairwise.nil, and_true, false_implies, implies_true]
    refine ⟨?_, ?_, ?_⟩ <;> omega
  exact hp.imp Nat.ne_of_lt
theorem tieS_start (js : Nat → Job) (od : List Nat) (t0 : Tb) {h₀ h : Heap} {L : Addr} {news P : List (Addr × Obj)} {lj lo lh : Nat} {jt ji jd : Nat → Nat} {lv v2 v1 v0 : Nat} {a0 a1 a2 : Tok}
   (_N : News h₀ L h ((lv, listOf #[.ref v0, .ref v1, .ref v2] 0) :: (v2, listOf #[.str (Str.ofString "") a2] 0) :: (v1, listOf #[.str (Str.ofString "") a1] 0) :: (v0, listOf #[.str (Str.ofString "") a0] 0) :: news))
   (q4 : ∀ (p : Addr × Obj), p ∈ news → p.fst < v0)
   (q3 : v0 < v1 ∧ AllLt v1 news)
   (q2 : v1 < v2 ∧ v0 < v2 ∧ AllLt v2 news)
   (q1 : v2 < lv ∧ v1 < lv ∧ v0 < lv ∧ AllLt lv news)
   (hPn : ∀ p ∈ P, p.1 ≠ lh ∧ p ∈ news)
   (hsep : lh ≠ lj ∧ lh ≠ lo ∧ ∀ w, w < 3 → lh ≠ ji w ∧ lh ≠ jd w)
   (hh : ∃ (ts : Nat → Tok) (n : Nat), (lh, listOf (arr3 fun i => .str (mkS (t0 i)) (ts i)) n) ∈ news)
   (hj : ∃ n, (lj, listOf (arr3 fun w => .ref (jt w)) n) ∈ news)
   (hjt : ∀ w, w < 3 → (jt w, { cls := .type "tuple", data := .seq [.ref (ji w), .ref (jd w)].toArray }) ∈ news)
   (hji : ∀ w, w < 3 → ∃ vs n, (ji w, listOf vs.toArray n) ∈ news ∧ IntsAre vs ((js w).items.map Int.ofNat))
   (hjd : ∀ w, w < 3 → ∃ vs n, (jd w, listOf vs.toArray n) ∈ news ∧ IntsAre vs ((js w).deeds.map Int.ofNat))
   (hord : ∃ vs n, (lo, listOf vs.toArray n) ∈ news ∧ IntsAre vs (od.map Int.ofNat)) :
   ∃ A : SA, A.lh = lh ∧ A.lv = lv ∧ A.lj = lj ∧ A.lo = lo ∧ TieS A js od P (ini t0) ((lv, listOf #[.ref v0, .ref v1, .ref v2] 0) :: (v2, listOf #[.str (Str.ofString "") a2] 0) :: (v1, listOf #[.str (Str.ofString "") a1] 0) :: (v0, listOf #[.str (Str.ofString "") a0] 0) :: news) := by
  obtain ⟨tsh, nh, hh⟩ := hh
  obtain ⟨nj, hj⟩ := hj
  obtain ⟨vo, no, ho, hoi⟩ := hord
  have c1 : @LT.lt Nat _ lh v0 := q4 _ hh
  have c2 : @LT.lt Nat _ lj v0 := q4 _ hj
  have c3 : @LT.lt Nat _ lo v0 := q4 _ ho
  have c4 : ∀ w, w < 3 → ji w < v0 ∧ jd w < v0 := fun w hw => by
    obtain ⟨_, _, h1, _⟩ := hji w hw
    obtain ⟨_, _, h2, _⟩ := hjd w hw
    exact ⟨q4 _ h1, q4 _ h2⟩
  obtain ⟨d1, d2, d3⟩ := hsep
  have up : ∀ p ∈ news, p ∈ ((lv, listOf #[.ref v0, .ref v1, .ref v2] 0) :: (v2, listOf #[.str (Str.ofString "") a2] 0) :: (v1, listOf #[.str (Str.ofString "") a1] 0) :: (v0, listOf #[.str (Str.ofString "") a0] 0) :: news) := fun p hp => by
    simp only [List.mem_cons]; simp [hp]
  have far : ∀ x : Nat, x < v0 → x ≠ lh → x ∉ ([lh, v0, v1, v2] : List Nat) := fun x hx hxt hm => by
    simp only [List.mem_cons, List.not_mem_nil, or_false] at hm
    rcases hm with h | h | h | h
    · exact hxt h
    all_goals omega
  refine ⟨⟨lh, lv, lj, lo, fun w => if w = 0 then v0 else if w = 1 then v1 else v2, jt, ji, jd⟩, rfl, rfl, rfl, rfl, fun p hp => ⟨far _ (q4 _ (hPn p hp).2) (hPn p hp).1, up _ (hPn p hp).2⟩, ?_, ?_, ⟨tsh, nh, up _ hh⟩, ?_, ?_, ?_, ?_, ?_, ?_, ?_⟩
  · exact nodup4 c1 q3.1 q2.1
  · show lv ∉ ([lh, v0, v1, v2] : List Nat) ∧ lj ∉ [lh, v0, v1, v2] ∧ lo ∉ [lh, v0, v1, v2] ∧ ∀ w, w < 3 → ji w ∉ [lh, v0, v1, v2] ∧ jd w ∉ [lh, v0, v1, v2]
    refine ⟨fun hm => ?_, far _ c2 (Ne.symm d1), far _ c3 (Ne.symm d2), fun w hw => ⟨far _ (c4 w hw).1 (Ne.symm (d3 w hw).1), far _ (c4 w hw).2 (Ne.symm (d3 w hw).2)⟩⟩
    simp only [List.mem_cons, List.not_mem_nil, or_false] at hm
    rcases hm with h | h | h | h <;> omega
  · refine ⟨0, ?_⟩
    have : (arr3 fun w => Value.ref (if w = 0 then v0 else if w = 1 then v1 else v2)) = #[.ref v0, .ref v1, .ref v2] := rfl
    show (lv, listOf (arr3 fun w => Value.ref (if w = 0 then v0 else if w = 1 then v1 else v2)) 0) ∈ _
    rw [this]
    simp
  · intro w hw
    have : w = 0 ∨ w = 1 ∨ w = 2 := by omega
    rcases this with rfl | rfl | rfl
    · exact ⟨[(Str.ofString "", a0)], 0, by simp [strValues], by rw [sempty0]; rfl⟩
    · exact ⟨[(Str.ofString "", a1)], 0, by simp [strValues], by rw [sempty0]; rfl⟩
    · exact ⟨[(Str.ofString "", a2)], 0, by simp [strValues], by rw [sempty0]; rfl⟩
  · exact ⟨vo, no, up _ ho, hoi⟩
  · exact ⟨nj, up _ hj⟩
  · exact fun w hw => up _ (hjt w hw)
  · exact fun w hw => by obtain ⟨vs, n, h1, h2⟩ := hji w hw; exact ⟨vs, n, up _ h1, h2⟩
  · exact fun w hw => by obtain ⟨vs, n, h1, h2⟩ := hjd w hw; exact ⟨vs, n, up _ h1, h2⟩
end
section
open PySem PySem.W PyProof.Rows PySem.Calls
set_option maxRecDepth 100000
set_option maxHeartbeats 8000000
local macro_rules | `(tactic| walk_at "exec For Name Name cons nil") => `(tactic| (with_reducible refine stop_in ?_))
local macro_rules | `(tactic| walk_at "exec For Tuple Call cons nil") => `(tactic| (with_reducible refine stop_in ?_))
theorem c_plainN (w : World) (mean : ExcName → Option Value) (mg mb : Str → Option Value) (d : Nat) (v : List Nat) (k : Nat) (t tx ti : Tok) (hx : PlainL v) (hl : v.length ≤ 32768) (hd : d < 4) (hk : k < 16777216) :
   PC w mean mg mb 3 237 [.int (d : Int) t, .str (mkS v) tx, .int (k : Int) ti] (fun t => .str (mkS (plainL d v k)) t) := by
  have h := c_plain w mean mg mb (d : Int) (k : Int) (mkS v) t tx ti hx (by rw [len_mkS]; exact hl) (by omega) (by omega) (by omega) (by omega)
  rw [Int.toNat_natCast, Int.toNat_natCast] at h
  exact h
theorem TieS.up1 {A : SA} {js : Nat → Job} {od : List Nat} {P : List (Addr × Obj)} {S : SS} {news : List (Addr × Obj)} (a : Addr × Obj) (T : TieS A js od P S news) : TieS A js od P S (a :: news) :=
  T.mono fun _ hp => List.mem_cons_of_mem _ hp
theorem TieS.at {h₀ h : Heap} {L : Addr} {A : SA} {js : Nat → Job} {od : List Nat} {P : List (Addr × Obj)} {S : SS} {news : List (Addr × Obj)} {a : Addr × Obj} (T : TieS A js od P S news) (_N : News h₀ L h (a :: news)) : TieS A js od P S (a :: news) := T.up1 a
theorem c_serial (w : World) (mean : ExcName → Option Value) (mg mb : Str → Option Value) (news : List (Addr × Obj)) (P : List (Addr × Obj)) (js : Nat → Job) (od : List Nat) (t0 : Tb) (O : ∀ w, w < 3 → (js w).Ok) (hod : od.Nodup ∧ ∀ x ∈ od, x < 3) (F0 : Fit js (ini t0))
   (lj lo lh : Nat) (jt ji jd : Nat → Nat) (hsep : lh ≠ lj ∧ lh ≠ lo ∧ ∀ w, w < 3 → lh ≠ ji w ∧ lh ≠ jd w)
   (hPn : ∀ p ∈ P, p.1 ≠ lh ∧ p ∈ news)
   (hh : ∃ (ts : Nat → Tok) (n : Nat), (lh, listOf (arr3 fun i => .str (mkS (t0 i)) (ts i)) n) ∈ news)
   (hj : ∃ n, (lj, listOf (arr3 fun w => .ref (jt w)) n) ∈ news)
   (hjt : ∀ w, w < 3 → (jt w, { cls := .type "tuple", data := .seq [.ref (ji w), .ref (jd w)].toArray }) ∈ news)
   (hji : ∀ w, w < 3 → ∃ vs n, (ji w, listOf vs.toArray n) ∈ news ∧ IntsAre vs ((js w).items.map Int.ofNat))
   (hjd : ∀ w, w < 3 → ∃ vs n, (jd w, listOf vs.toArray n) ∈ news ∧ IntsAre vs ((js w).deeds.map Int.ofNat))
   (hord : ∃ vs n, (lo, listOf vs.toArray n) ∈ news ∧ IntsAre vs (od.map Int.ofNat)) :
   ∀ (dp un : Nat) (gd : Option (List Code)) (cn : Str) (cs : Scope) (a : Addr) (ccd : Value) (cl : List (Str × Addr)) (outer : List Env) (A₀ : Around) (base h₀ : Heap) (L : Addr) (m : Str → Option Value)
    (s : Shared) (Q E : Value → Shared → Prop),
    Below A₀ base outer h₀ → Fr h₀ L s.heap m → (hd.heap_39 w.params).In h₀ → News h₀ L s.heap news → Top hd.view_39 Lz mean mg mb h₀ → cs.kind = .function → 0 < s.toks →
    dp + 4 < recursionLimit → un + 8 * 4 < cLine →
    (∀ (A : SA) (nx : List (Addr × Obj)) (h' : Heap) (tk' : Nat), A.lh = lh → A.lj = lj → A.lo = lo → TieS A js od P (serS js (ini t0) od) nx → Fr h₀ L h' m → News h₀ L h' nx → 0 < tk' → Q (.ref A.lv) { s with heap := h', toks := tk' }) →
      wpAny (model pg w) (ktrTop dp un gd cn cs L a ccd cl outer) (call (.ref 251) [.ref lj, .ref lo, .ref lh] []) Q E s := by
  intro dp un gd cn cs a ccd cl outer A₀ base h₀ L m s Q E B F X N T hk htk hdp hun hret
  refine wpAny_with_toks (n := 1) htk ?_
  refine wpAny_call ?_
  k_dflt cell_enter
  k_steps
  unfold Stop
  rename Fr _ _ _ _ => F9
  rename News _ _ _ _ => N9
  obtain ⟨A, e1, e2, e3, e4, T0⟩ := tieS_start js od t0 N9 (by assumption) (by assumption) (by assumption) (by assumption) hPn hsep hh hj hjt hji hjd hord
  obtain ⟨nw, enw, N0⟩ := news_gen N9
  rw [enw] at T0
  clear N9 enw
  refine For_TF F9 ?_
  refine wpAny_with_toks (n := 1) (by assumption) ?_
  k_steps
  rename Fr _ _ _ _ => F8
  rename News _ _ _ _ => N8
  have hsz : ∀ p ∈ nw, @LT.lt Nat _ p.1 _ := fun p hp => Heap.lt_size (N8 p hp).1
  obtain ⟨vo, no, hmo, hio⟩ := T0.hord
  have hlo : lo = A.lo := e4.symm
  subst hlo
  have hol : vo.length = od.length := by rw [hio.length, List.length_map]
  refine' loop_list (items := vo.toArray) (fun j m₁ nx => TieS A js od P (serS js (ini t0) (od.take j)) nx ∧ m₁ (Str.ofString "jobs") = some (.ref A.lj) ∧ m₁ (Str.ofString "held") = some (.ref A.lh) ∧ m₁ (Str.ofString "values") = some (.ref A.lv)) ?a1 ?a2 ?a3 ?a4 ?a5 ?a6 ?a7 ?a8 ?step ?done
  case a1 => rfl
  case a2 => exact ⟨_, (N8 _ hmo).1, rfl, _, rfl⟩
  case a3 => exact (N8 _ hmo).2.1
  case a4 => walk_at "tpos"
  case a5 => exact F8
  case a6 => exact N8
  case a7 =>
    refine ⟨T0, ?_, ?_, ?_⟩
    · rw [e3]; rfl
    · rw [e1]; rfl
    · rw [e2]; rfl
  case a8 => exact .inl ⟨_, _, rfl⟩
  case step =>
    intro j v m₁ nx own h tk htk1 hv ⟨T, p1, p2, p3⟩ hoff hown F2 N2
    dsimp only [envOf] at F2 N2
    replace F2 := fr_pins F2 [(_, _), (_, _), (_, _)] (all1 p1 (all1 p2 (all1 p3 all0)))
    dsimp only [kstB] at F2
    have hv' : vo[j]? = some v := by rw [← List.getElem?_toArray]; exact hv
    have hjl : j < od.length := by
      rw [← hol]
      rcases Nat.lt_or_ge j vo.length with q | q
      · exact q
      · rw [List.getElem?_eq_none q] at hv'; cases hv'
    obtain ⟨tw, htw⟩ := hio.get j ((od[j] : Nat) : Int) (by rw [List.getElem?_map, List.getElem?_eq_getElem hjl]; rfl)
    rw [htw] at hv'
    obtain rfl := Option.some.inj hv'
    have hW : od[j] < 3 := hod.2 _ (List.getElem_mem _)
    have hser := serS_is O F0 (od.take j) (fun x hx => hod.2 x (List.mem_of_mem_take hx)) (hod.1.sublist (List.take_sublist ..))
    have hnin : od[j] ∉ od.take j := by
      intro hm
      obtain ⟨i, hi, hie⟩ := List.getElem_of_mem hm
      rw [List.getElem_take] at hie
      have h1 : i < j := by simpa using (by rw [List.length_take] at hi; omega : i < j)
      have := (List.getElem_inj hod.1).mp hie
      omega
    have hnext : serS js (ini t0) (od.take (j + 1)) = many js od[j] (2 * (js od[j]).n) (serS js (ini t0) (od.take j)) := by
      rw [← serS_snoc, List.take_append_getElem hjl]
    obtain ⟨hF, _, hz, _⟩ := hser
    obtain ⟨hz1, hz2⟩ := hz _ hnin
    generalize serS js (ini t0) (od.take j) = S at T hF hz1 hz2 hnext
    generalize od[j] = W at hW hnin hnext hz1 hz2 F2 htw
    clear F8 N8 hz
    show wpAny _ _ _ _ _ _
    k_fold
    k_steps
    unfold Stop
    rename Fr _ _ _ _ => F3
    rename News _ _ _ _ => N3
    obtain ⟨nj, hmj⟩ := T.hj
    have hmt := List.mem_append_right own (T.hjt W hW)
    obtain ⟨vi, ni, hmi, hii⟩ := T.hji W hW
    obtain ⟨vd, nd, hmd, hid⟩ := T.hjd W hW
    have hmi2 := List.mem_append_right own hmi
    have hmd2 := List.mem_append_right own hmd
    refine item_list (x := .ref (A.jt W)) ⟨_, (N3 _ (List.mem_append_right own hmj)).1, rfl, _, rfl⟩ (nn0 _) (nn3 hW) (by rw [Int.toNat_natCast]; exact arr3_get _ hW) ?_
    k_steps
    unfold Stop
    rename Fr _ _ _ _ => F4
    refine For_Z F4 ?_
    have hvn : vi.length = (js W).n := by rw [hii.length, List.length_map]
    have hn3 := ok_len O (O W hW)
    k_steps
    unfold Stop
    rename Fr _ _ _ _ => F3
    rename News _ _ _ _ => N3
    refine' krv_lit (zs := vi.reverse) F3 N3 ⟨_, (N3 _ hmi2).1, rfl, _, rfl⟩ (IsPart.int _ _) ?e ?_ ?s ?t ?z
    case e => rfl
    case s => with_unfolding_all rfl
    case t => kmk_pure
    case z => rw [sizeLine_eq, List.size_toArray]; omega
    intro D1 h4 F4 N4 l4
    clear F3 N3
    try k_sweep
    k_steps
    unfold Stop
    rename Fr _ _ _ _ => F3
    rename News _ _ _ _ => N3
    refine add_lists F3 N3 ⟨_, (N3 _ (List.mem_cons_of_mem _ hmi2)).1, rfl, _, rfl⟩ ⟨_, (N3 _ (List.mem_cons_self ..)).1, rfl, _, rfl⟩ ?_ (by rw [sizeLine_eq, List.length_reverse]; omega)
    intro h5 F5 N5
    have hlt4 : ∀ a ∈ A.tg, @LT.lt Nat _ a h4.objs.size := fun a ha => by
      obtain ⟨o, ho⟩ := T.tg_mem a ha
      exact Heap.lt_size (N3 _ (List.mem_cons_of_mem _ (List.mem_append_right _ ho))).1
    clear F3 N3
    try k_sweep
    k_steps
    have hI : ∀ a ∈ A.tg, ∀ p ∈ own, p.1 ≠ a := by
      intro a ha p hp e
      obtain ⟨o, ho⟩ := T.tg_mem a ha
      rcases hown p hp with q | q
      · exact hoff _ ho (e.symm.trans q)
      · exact T.off.2.2.1 (q ▸ e ▸ ha)
    have hAll : ∀ p ∈ own ++ nx, p ∈ own ++ nx := fun p hp => hp
    obtain ⟨nz, enz, N6⟩ := news_gen N5
    have hDz := enz ▸ List.mem_cons_self ..
    have hup : ∀ p ∈ own ++ nx, p ∈ nz := fun p hp => enz ▸ List.mem_cons_of_mem _ (List.mem_cons_of_mem _ hp)
    have T5 : TieS A js od (own ++ P) S nz := ((T.mono (fun p hp => List.mem_append_right own hp)).wider (P' := own ++ P) (fun p hp => by
      rcases List.mem_append.mp hp with q | q
      · exact ⟨fun hm => hI _ hm p q rfl, List.mem_append_left _ q⟩
      · exact ⟨(T.hP p q).1, List.mem_append_right _ (T.hP p q).2⟩)).mono hup
    have hmd5 := hup _ hmd2
    clear enz N5 hmt hmi2 hmd2 l4
    have hvl : (vi ++ vi.reverse).length = 2 * (js W).n := by rw [List.length_append, List.length_reverse, hvn]; omega
    have hdl : (js W).deeds.length = 2 * (js W).n := (O W hW).dlen
    have hvd : vd.length = 2 * (js W).n := by rw [hid.length, List.length_map, hdl]
    refine loop_zip (xs := (vi ++ vi.reverse).toArray) (ys := vd.toArray) (fun j m₂ nx₂ => TieS A js od (own ++ P) (many js W j S) nx₂ ∧ m₂ (Str.ofString "jobs") = some (.ref A.lj) ∧ m₂ (Str.ofString "held") = some (.ref A.lh) ∧ m₂ (Str.ofString "values") = some (.ref A.lv) ∧ m₂ (Str.ofString "who") = some (.int (W : Int) tw))
      rfl ⟨_, (N6 _ hDz).1, rfl, _, rfl⟩ ⟨_, (N6 _ hmd5).1, rfl, _, rfl⟩ (N6 _ hDz).2.1 (N6 _ hmd5).2.1 (Nat.succ_pos _) F5 N6 ⟨T5, by rfl, by rfl, by rfl, by rfl⟩ ?stp ?dn
    case stp =>
      intro i T' d q sl x y m₂ nx₂ own₂ h6 tk6 htk6 hx hy ⟨T6, p1, p2, p3, p4⟩ hown2 hoff2 hT2 F7 N7
      dsimp only [envOf] at F7 N7
      replace F7 := fr_pins F7 [(_, _), (_, _), (_, _), (_, _)] (all1 p1 (all1 p2 (all1 p3 (all1 p4 all0))))
      dsimp only [kstB] at F7
      have hx' : (vi ++ vi.reverse)[i]? = some x := by rw [← List.getElem?_toArray]; exact hx
      have hy' : vd[i]? = some y := by rw [← List.getElem?_toArray]; exact hy
      have hi2 : i < 2 * (js W).n := by
        rw [← hvd]
        rcases Nat.lt_or_ge i vd.length with q | q
        · exact q
        · rw [List.getElem?_eq_none q] at hy'; cases hy'
      obtain ⟨tx, htx⟩ := path_get hii hi2
      rw [htx] at hx'
      obtain rfl := Option.some.inj hx'
      obtain ⟨ty, hty⟩ := hid.get i (((js W).deeds.getD i 0 : Nat) : Int) (by
        rw [List.getElem?_map, List.getD_eq_getElem?_getD, List.getElem?_eq_getElem (by omega)]
        rfl)
      rw [hty] at hy'
      obtain rfl := Option.some.inj hy'
      have hFi := fit_many O hF hW hz1 hz2 i (by omega)
      have hst : (many js W i S).steps W = i := by rw [(many_is hz1 hz2 i).1, upd_eq]
      have hgo : many js W (i + 1) S = go js W (many js W i S) := rfl
      have hlt5 : ∀ a ∈ A.tg, @LT.lt Nat _ a h5.objs.size := fun a ha => by
        obtain ⟨o, ho⟩ := T5.tg_mem a ha
        exact Heap.lt_size (N6 _ ho).1
      have hI2 : ∀ a ∈ A.tg, ∀ p ∈ own₂, p.1 ≠ a := by
        intro a ha p hp e
        rcases hown2 p hp with q | q | q
        · have := hlt5 a ha; exact Nat.lt_irrefl _ (Nat.lt_of_lt_of_le this (e ▸ q))
        · have := hlt4 a ha; exact Nat.lt_irrefl _ (q ▸ e ▸ this)
        · exact (T.off.2.2.2 W hW).2 (q ▸ e ▸ ha)
      have T7 : TieS A js od (own₂ ++ (own ++ P)) (many js W i S) (own₂ ++ nx₂) := ((T6.mono (fun p hp => List.mem_append_right own₂ hp)).wider (P' := own₂ ++ (own ++ P)) (fun p hp => by
        rcases List.mem_append.mp hp with q | q
        · exact ⟨fun hm => hI2 _ hm p q rfl, List.mem_append_left _ q⟩
        · exact ⟨(T6.hP p q).1, List.mem_append_right _ (T6.hP p q).2⟩))
      have hs2 : (many js W i S).steps W < 2 * (js W).n := by rw [hst]; exact hi2
      have hi3 := pt_lt3 (O W hW) hi2
      have hil := in_len O hFi hW hs2
      have hip := in_plain O hFi hW hs2
      have hsl := seen_lt O hFi hW hs2
      have hde : deedOf js W (many js W i S) = plainL ((js W).deeds.getD i 0) ((many js W i S).tab (pt (js W) i)) ((((many js W i S).vals W).getLastD []).length) := by unfold deedOf lenL; rw [hst]
      rw [hst] at hil hip
      unfold lenL at hsl
      obtain ⟨hfv1, hfv2, hfv3⟩ := hFi.vlen W hW
      rw [hst] at hfv2
      have hgt : (go js W (many js W i S)).tab = upd (many js W i S).tab (pt (js W) i) (deedOf js W (many js W i S)) := by unfold go; dsimp only; rw [hst]
      have hgv : (go js W (many js W i S)).vals = upd (many js W i S).vals W ((many js W i S).vals W ++ [deedOf js W (many js W i S)]) := rfl
      have hdeed : (js W).deeds.getD i 0 < 4 := by
        rw [List.getD_eq_getElem?_getD, List.getElem?_eq_getElem (by omega)]
        exact (O W hW).dlt _ (List.getElem_mem _)
      clear F5 N6 hx hy htx hty hmi hmd hmd5 hDz
      generalize hxe : deedOf js W (many js W i S) = z at hgt hgv hde
      generalize hie : pt (js W) i = I at F7 N7 T7 hi3 hil hip hde hgt
      generalize hSe : many js W i S = Si at *
      show wpAny _ _ _ _ _ _
      k_fold
      k_steps
      unfold Stop
      rename Fr _ _ _ _ => F3
      rename News _ _ _ _ => N3
      obtain ⟨tsh, nh0, hmh⟩ := T7.hh
      refine item_list (x := .str (mkS (Si.tab I)) (tsh I)) ⟨_, (N3 _ (List.mem_cons_of_mem _ hmh)).1, rfl, _, rfl⟩ (nn0 _) (nn3 hi3) (by rw [Int.toNat_natCast]; exact arr3_get _ hi3) ?_
      k_steps
      unfold Stop
      rename Fr _ _ _ _ => F3
      rename News _ _ _ _ => N3
      obtain ⟨nv, hmv⟩ := T7.hv
      refine item_list (x := .ref (A.va W)) ⟨_, (N3 _ (List.mem_cons_of_mem _ hmv)).1, rfl, _, rfl⟩ (nn0 _) (nn3 hW) (by rw [Int.toNat_natCast]; exact arr3_get _ hW) ?_
      k_steps
      obtain ⟨lv0, nv0, hmw, hlw⟩ := T7.hvs W hW
      obtain ⟨tl0, htl⟩ := last_get (xs := Si.vals W) hlw hfv1
      have hll0 : 0 < (strValues lv0).length := by
        rcases Nat.eq_zero_or_pos (strValues lv0).length with q | q
        · rw [List.getElem?_eq_none (by omega)] at htl; cases htl
        · exact q
      refine kde_neg ⟨_, (N3 _ (List.mem_cons_of_mem _ hmw)).1, rfl, _, rfl⟩ (by decide) (by decide) (seq_last hll0) htl ?_
      k_steps
      refine len_str (by rw [len_mkS]; omega) ?_
      rw [len_mkS]
      k_steps
      unfold Stop
      (refine' (c_plainN _ _ _ _ _ _ _ _ _ _ hip hil hdeed hsl) _ _ _ _ _ _ _ _ _ _ _ _ _ _ _ _ _ _ ?B ?F ?X ?N ?T ?hk ?htk ?hdp ?hun ?_; (((case B => k_asm); (case F => k_asm); (case X => k_asm); (case N => k_asm); (case T => k_asm); (case hk => first | exact rfl | assumption); (case htk => walk_at "tpos"); (case hdp => first | exact room_d (by assumption) (by decide) | ktr_room); (case hun => first | exact room_u (by assumption) (by decide) | ktr_units); k_whole)))
      rw [← hde]
      intro tz h8 k8 F8 N8 hk8
      clear F3 N3
      try dsimp only
      try k_sweep
      k_steps
      unfold Stop
      rename Fr _ _ _ _ => F3
      rename News _ _ _ _ => N3
      refine z_set (T7.at N3) hi3 F3 N3 ?_
      intro h9 nw9 T9 F9 N9
      clear F3 N3 hmh hmv hmw hlw
      try dsimp only
      try k_sweep
      k_steps
      unfold Stop
      rename Fr _ _ _ _ => F3
      rename News _ _ _ _ => N3
      obtain ⟨nv, hmv⟩ := T9.hv
      obtain ⟨tsh, nh0, hmh⟩ := T9.hh
      refine item_list (x := .ref (A.va W)) ⟨_, (N3 _ hmv).1, rfl, _, rfl⟩ (nn0 _) (nn3 hW) (by rw [Int.toNat_natCast]; exact arr3_get _ hW) ?_
      clear htl hll0
      obtain ⟨lv0, nv0, hmw, hlw⟩ := T9.hvs W hW
      k_steps
      unfold Stop
      rename Fr _ _ _ _ => F3
      rename News _ _ _ _ => N3
      refine item_list (x := .str (mkS (upd Si.tab I z I)) (tsh I)) ⟨_, (N3 _ hmh).1, rfl, _, rfl⟩ (nn0 _) (nn3 hi3) (by rw [Int.toNat_natCast]; exact arr3_get _ hi3) ?_
      rw [upd_eq]
      k_steps
      unfold Stop
      rename Fr _ _ _ _ => F3
      rename News _ _ _ _ => N3
      refine z_app T9 hW F3 N3 (by show (Si.vals W).length ≤ _; omega) ?_
      intro h10 nw10 T10 F10 N10
      clear F3 N3 T9 hmv hmh hmw
      try dsimp only
      try k_sweep
      k_steps
      rename Fr _ _ _ _ => F6
      rename News _ _ _ _ => N6
      have T11 := T10.same (S' := go js W Si) hgt hgv
      rw [← hgo] at T11
      have T12 := T11.only T6 _ hoff2 (P' := own ++ P) (fun p hp => ⟨List.mem_append_right _ hp, hoff2 p (T6.hP p hp).2⟩)
      exact ⟨_, _, _, _, rfl, F6, own_news N6 (fun p hp => (T11.hP p (List.mem_append_left _ hp)).2), (fun p hp => of_decide_eq_true (List.mem_filter.mp hp).2), T12, rfl, rfl, rfl, rfl⟩
    case dn =>
      intro h6 tk6 m₂ nx₂ htk6 F7 N7 ⟨T6, p1, p2, p3, p4⟩
      have hmin : min (vi ++ vi.reverse).toArray.size vd.toArray.size = 2 * (js W).n := by
        rw [List.size_toArray, List.size_toArray, hvl, hvd, Nat.min_self]
      rw [hmin, ← hnext] at T6
      dsimp only [envOf] at F7 N7
      replace F7 := fr_pins F7 [(_, _), (_, _), (_, _)] (all1 p1 (all1 p2 (all1 p3 all0)))
      dsimp only [kstB] at F7
      clear F5 N6
      dsimp only
      k_steps
      rename Fr _ _ _ _ => F6
      rename News _ _ _ _ => N6
      have hoff3 : ∀ p ∈ nx, p.1 ∉ [_] := fun p hp hq => hoff p hp (List.mem_singleton.mp hq)
      have T12 := T6.only T _ hoff3 (P' := P) (fun p hp => ⟨List.mem_append_right _ hp, hoff3 p (T.hP p hp).2⟩)
      exact ⟨_, _, _, _, rfl, F6, own_news N6 (fun p hp => (T6.hP p (List.mem_append_left _ hp)).2), (fun p hp => of_decide_eq_true (List.mem_filter.mp hp).2), T12, rfl, rfl, rfl⟩
  case done =>
    intro h' tk m' nx htk1 F2 N2 ⟨T, p1, p2, p3⟩
    have hsz : vo.toArray.size = od.length := by rw [List.size_toArray, hol]
    rw [hsz, List.take_length] at T
    dsimp only [envOf] at F2 N2
    replace F2 := fr_pins F2 [(_, _), (_, _), (_, _)] (all1 p1 (all1 p2 (all1 p3 all0)))
    dsimp only [kstB] at F2
    clear F8 N8
    dsimp only
    k_steps
    exact hret A nx _ _ e1 e3 rfl T (by k_asm) (by k_asm) (by assumption)
end
section
open PySem PySem.W PyProof.Rows PySem.Calls
set_option maxRecDepth 100000
set_option maxHeartbeats 8000000
theorem pick_upto (items : Array Value) (b : Nat) : (slicePick items none (some (b : Int)) none).toList = items.toList.take b := by
  rcases Nat.le_total b items.size with hb | hb
  · rw [slicePick_upto items b hb, List.toList_toArray]
  · have e : sliceBounds none (some (b : Int)) none items.size = (((0 : Nat) : Int), (items.size : Int), 1) := by
      simp only [sliceBounds, Option.getD_none]
      have h2 : ¬ ((b : Int) < 0) := by omega
      simp only [h2, if_false, show (1 : Int) > 0 by decide, if_true]
      congr 1
      congr 1; omega
    have e2 : slicePick items none (some (b : Int)) none = slicePick items none (some (items.size : Int)) none := by
      unfold slicePick
      rw [e]
      have e3 : sliceBounds none (some (items.size : Int)) none items.size = (((0 : Nat) : Int), (items.size : Int), 1) := by
        simp only [sliceBounds, Option.getD_none]
        have h2 : ¬ ((items.size : Int) < 0) := by omega
        simp only [h2, if_false, show (1 : Int) > 0 by decide, if_true]
        congr 1
        congr 1; omega
      rw [e3]
    rw [e2, slicePick_upto items items.size (Nat.le_refl _), List.toList_toArray]
    rw [List.take_of_length_le (by simp), List.take_of_length_le (by simpa using hb)]
theorem pick_from (items : Array Value) (a : Nat) : (slicePick items (some (a : Int)) none none).toList = items.toList.drop a := by
  rcases Nat.le_total a items.size with ha | ha
  · rw [slicePick_from items a ha, List.toList_toArray]
  · have e : ∀ a : Nat, items.size ≤ a → sliceBounds (some (a : Int)) none none items.size = ((items.size : Int), (items.size : Int), 1) := by
      intro a ha
      simp only [sliceBounds, Option.getD_none]
      have h1 : ¬ ((a : Int) < 0) := by omega
      simp only [h1, if_false, show (1 : Int) > 0 by decide, if_true]
      congr 1
      omega
    have e2 : slicePick items (some (a : Int)) none none = slicePick items (some (items.size : Int)) none none := by
      unfold slicePick
      rw [e a ha, e items.size (Nat.le_refl _)]
    rw [e2, slicePick_from items items.size (Nat.le_refl _), List.toList_toArray]
    rw [List.drop_eq_nil_of_le (by simp), List.drop_eq_nil_of_le (by simpa using ha)]
theorem ints_take {vs : List Value} {ns : List Int} (h : IntsAre vs ns) (k : Nat) : IntsAre (vs.take k) (ns.take k) := by
  induction h generalizing k with
  | nil => simp only [List.take_nil]; exact .nil
  | cons n t _ ih =>
    cases k with
    | zero => exact .nil
    | succ k => exact .cons n t (ih k)
theorem ints_drop {vs : List Value} {ns : List Int} (h : IntsAre vs ns) (k : Nat) : IntsAre (vs.drop k) (ns.drop k) := by
  induction h generalizing k with
  | nil => simp only [List.drop_nil]; exact .nil
  | cons n t h ih =>
    cases k with
    | zero => exact .cons n t h
    | succ k => exact ih k
/-- what the law draws: four ints -/
theorem drawn_four {vs : List Value} {ns : List Int} (h : IntsAre vs ns) (t0 t1 t2 t3 : Tok) : ∃ (d0 d1 d2 d3 : Int) (u0 u1 u2 u3 : Tok), vs.take 4 ++ ([Value.int 1255 t0, .int 551 t1, .int 1579 t2, .int 396226 t3] : List Value).drop ns.length = [.int d0 u0, .int d1 u1, .int d2 u2, .int d3 u3] := by
  have hd : IntsAre ([Value.int 1255 t0, .int 551 t1, .int 1579 t2, .int 396226 t3] : List Value) [1255, 551, 1579, 396226] := .cons _ _ (.cons _ _ (.cons _ _ (.cons _ _ .nil)))
  have h2 := (ints_take h 4).append (ints_drop hd ns.length)
  have hl : (ns.take 4 ++ ([1255, 551, 1579, 396226] : List Int).drop ns.length).length = 4 := by
    rw [List.length_append, List.length_take, List.length_drop]
    show min 4 ns.length + (4 - ns.length) = 4
    omega
  generalize ns.take 4 ++ ([1255, 551, 1579, 396226] : List Int).drop ns.length = q at h2 hl
  generalize vs.take 4 ++ ([Value.int 1255 t0, .int 551 t1, .int 1579 t2, .int 396226 t3] : List Value).drop ns.length = p at h2
  match q, hl with
  | [a, b, c, d], _ =>
    cases h2 with
    | cons _ u0 h2 =>
      cases h2 with
      | cons _ u1 h2 =>
        cases h2 with
        | cons _ u2 h2 =>
          cases h2 with
          | cons _ u3 h2 =>
            cases h2
            exact ⟨a, b, c, d, u0, u1, u2, u3, rfl⟩
theorem len_is {prog : Program} {w : World} {A : Around} {E : Value → Shared → Prop} {s : Shared} {l : Addr} {vs : List Value} {n : Nat} {Q : Value → Shared → Prop}
   (hl : s.heap.IsList l vs.toArray) (hn : vs.length = n) (hb : n ≤ 16777216) (h : ∀ t k, 0 < k → Q (.int (n : Int) t) { s with toks := k }) : wpAny (model prog w) A (call (.builtin "len") [.ref l]) Q E s := by
  have e : vs.toArray.size = n := by rw [List.size_toArray, hn]
  refine call_len_list (items := vs.toArray) hl (by rw [e]; omega) ?_
  rw [e]
  exact h _ _ (Nat.succ_pos _)
theorem add_listsD {prog : Program} {w : World} {A : Around} {E : Value → Shared → Prop} {s : Shared} {h₀ : Heap} {L l b : Addr} {m : Str → Option Value} {news : List (Addr × Obj)} {vs ws zs : List Value} {Q : Value → Shared → Prop} (F : Fr h₀ L s.heap m) (N : News h₀ L s.heap news) (hl : s.heap.IsList l vs.toArray) (hb : s.heap.IsList b ws.toArray) (hz : vs ++ ws = zs)
    (h : ∀ D h', Fr h₀ L h' m → News h₀ L h' ((D, listOf zs.toArray 0) :: news) → (∀ p ∈ news, p.1 < D) → Q (.ref D) { s with heap := h' })
    (hsz : vs.length + ws.length ≤ sizeLine) :
    wpAny (model prog w) A (binaryOp .Add (.ref l) (.ref b)) Q E s := by
  subst hz
  refine add_lists (hsz := hsz) F N hl hb fun h' F' N' => h _ h' F' N' fun p hp => Heap.lt_size (N p hp).1
/-! what a job is made of -/
def itemsOf (d : Int) : List Nat := (List.range 3).filter fun k => ((d.fmod 7 + 1).toNat >>> k) % 2 == 1
def deedsOf (d : Int) : List Nat := (List.range (2 * (itemsOf d).length)).map fun k => (((d.fdiv 7).fdiv (4 ^ k)).fmod 4).toNat
def jobOf (d : Int) : Job := ⟨itemsOf d, deedsOf d⟩
def turnsOf (d : Int) : List Nat := (List.range 12).map fun k => ((d.fdiv (3 ^ k)).fmod 3).toNat
def G1 (d : Int) (l : List Int) (k : Int) : List Int := if ((d.fmod 7 + 1).toNat >>> k.toNat) % 2 == 1 then l ++ [k] else l
def g2 (d : Int) (k : Int) : Int := ((d.fdiv 7).fdiv (4 ^ k.toNat)).fmod 4
def g3 (d : Int) (k : Int) : Int := (d.fdiv (3 ^ k.toNat)).fmod 3
theorem fm_lo (d : Int) {k : Int} (hk : 0 < k) : 0 ≤ d.fmod k := Int.fmod_nonneg_of_pos _ hk
theorem fm_hi (d : Int) {k : Int} (hk : 0 < k) : d.fmod k < k := Int.fmod_lt_of_pos _ hk
theorem items_cases (d : Int) : ∃ r, r < 7 ∧ (d.fmod 7 + 1).toNat = r + 1 := ⟨(d.fmod 7).toNat, by have := fm_lo d (k := 7) (by decide); have := fm_hi d (k := 7) (by decide); omega, by have := fm_lo d (k := 7) (by decide); omega⟩
theorem items_is (d : Int) : (rangeKs 0 3).foldl (G1 d) [] = (itemsOf d).map Int.ofNat := by
  obtain ⟨r, hr, e⟩ := items_cases d
  unfold itemsOf G1
  rw [e]
  have : ∀ r, r < 7 → (rangeKs 0 3).foldl (fun l k => if ((r + 1) >>> k.toNat) % 2 == 1 then l ++ [k] else l) [] = ((List.range 3).filter fun k => ((r + 1) >>> k) % 2 == 1).map Int.ofNat := by decide +kernel
  exact this r hr
theorem items_ok (d : Int) : (itemsOf d).Pairwise (· < ·) ∧ (∀ i ∈ itemsOf d, i < 3) ∧ itemsOf d ≠ [] ∧ (itemsOf d).length ≤ 3 := by
  obtain ⟨r, hr, e⟩ := items_cases d
  unfold itemsOf
  rw [e]
  have : ∀ r, r < 7 → ((List.range 3).filter fun k => ((r + 1) >>> k) % 2 == 1).Pairwise (· < ·) ∧ (∀ i ∈ ((List.range 3).filter fun k => ((r + 1) >>> k) % 2 == 1), i < 3) ∧ ((List.range 3).filter fun k => ((r + 1) >>> k) % 2 == 1) ≠ [] ∧ ((List.range 3).filter fun k => ((r + 1) >>> k) % 2 == 1).length ≤ 3 := by decide +kernel
  exact this r hr
theorem job_ok (d : Int) : (jobOf d).Ok where
  inc := (items_ok d).1
  lt3 := (items_ok d).2.1
  ne := (items_ok d).2.2.1
  dlen := by
    show (deedsOf d).length = _
    unfold deedsOf
    rw [List.length_map, List.length_range]
    rfl
  dlt := fun x hx => by
    obtain ⟨k, _, rfl⟩ := List.mem_map.mp hx
    have := fm_hi ((d.fdiv 7).fdiv (4 ^ k)) (k := 4) (by decide)
    omega
theorem deeds_is (d : Int) : (rangeKs 0 (2 * (itemsOf d).length)).map (g2 d) = (deedsOf d).map Int.ofNat := by
  unfold deedsOf rangeKs
  rw [List.map_map, List.map_map]
  refine List.map_congr_left fun k _ => ?_
  show g2 d (0 + (k : Int)) = Int.ofNat (((d.fdiv 7).fdiv (4 ^ k)).fmod 4).toNat
  unfold g2
  have e : (0 + (k : Int)).toNat = k := by omega
  rw [e]
  have := fm_lo ((d.fdiv 7).fdiv (4 ^ k)) (k := 4) (by decide)
  show _ = (((((d.fdiv 7).fdiv (4 ^ k)).fmod 4).toNat : Nat) : Int)
  omega
theorem turns_is (d : Int) : (rangeKs 0 12).map (g3 d) = (turnsOf d).map Int.ofNat := by
  unfold turnsOf rangeKs
  rw [List.map_map, List.map_map]
  refine List.map_congr_left fun k _ => ?_
  show g3 d (0 + (k : Int)) = Int.ofNat ((d.fdiv (3 ^ k)).fmod 3).toNat
  unfold g3
  have e : (0 + (k : Int)).toNat = k := by omega
  rw [e]
  have := fm_lo (d.fdiv (3 ^ k)) (k := 3) (by decide)
  show _ = ((((d.fdiv (3 ^ k)).fmod 3).toNat : Nat) : Int)
  omega
theorem turns_ok (d : Int) : (turnsOf d).length = 12 ∧ ∀ x ∈ turnsOf d, x < 3 := by
  refine ⟨by unfold turnsOf; rw [List.length_map, List.length_range], fun x hx => ?_⟩
  obtain ⟨k, _, rfl⟩ := List.mem_map.mp hx
  have := fm_hi (d.fdiv (3 ^ k)) (k := 3) (by decide)
  omega
theorem bit_is (d k : Int) (h0 : 0 ≤ k) (h1 : k < 3) : (Builtin.bitAnd ((d.fmod 7 + 1).fdiv (2 ^ k.toNat)) 1 ≠ 0) ↔ ((d.fmod 7 + 1).toNat >>> k.toNat) % 2 == 1 := by
  obtain ⟨r, hr, e⟩ := items_cases d
  have e2 : d.fmod 7 + 1 = ((r + 1 : Nat) : Int) := by
    have := fm_lo d (k := 7) (by decide)
    omega
  rw [e, e2]
  have : ∀ r, r < 7 → ∀ k, k < 3 → ((Builtin.bitAnd ((((r + 1 : Nat) : Int)).fdiv (2 ^ k)) 1 ≠ 0) ↔ ((r + 1) >>> k) % 2 == 1) := by decide +kernel
  exact this r hr k.toNat (by omega)
theorem g1_yes {d k : Int} {l : List Int} (h0 : 0 ≤ k) (h1 : k < 0 + ((3 : Nat) : Int)) (h : Builtin.bitAnd ((d.fmod 7 + 1).fdiv (2 ^ k.toNat)) 1 ≠ 0) : G1 d l k = l ++ [k] := by
  unfold G1
  rw [if_pos ((bit_is d k h0 (by omega)).mp h)]
theorem g1_no {d k : Int} {l : List Int} (h0 : 0 ≤ k) (h1 : k < 0 + ((3 : Nat) : Int)) (h : Builtin.bitAnd ((d.fmod 7 + 1).fdiv (2 ^ k.toNat)) 1 = 0) : G1 d l k = l := by
  unfold G1
  rw [if_neg fun q => (bit_is d k h0 (by omega)).mpr q h]
theorem g1_grows (d : Int) : KPfGrows (G1 d) := fun l k => by
  unfold G1
  split
  · rw [List.length_append]; exact Nat.le_refl _
  · exact Nat.le_succ _
theorem ci_end {h₀ : Heap} {L I C D : Addr} {m : Str → Option Value} {s₁ : Shared} {oI oC oD : Obj} {rest : Value → List (Addr × Obj) → Prop} {y : Value} {h' : Heap} {tk : Nat} {news : List (Addr × Obj)}
    (F : Fr h₀ L h' m) (N : News h₀ L h' ((I, oI) :: (C, oC) :: (D, oD) :: news)) (off : LCg.Off3 I C D news) (r : rest y news) :
    LCg.CompEnd h₀ L m s₁ I oI C oC D oD (fun _ => True) rest y { s₁ with heap := h', toks := tk } := ⟨h', tk, news, rfl, F, N, off, True.intro, r⟩
theorem pow4_ne (k : Nat) : ((4 : Int) ^ k) ≠ 0 := Int.pow_ne_zero (by decide)
theorem pow3_ne (k : Nat) : ((3 : Int) ^ k) ≠ 0 := Int.pow_ne_zero (by decide)
theorem g2_is (d k : Int) : g2 d k = ((d.fdiv 7).fdiv (4 ^ k.toNat)).fmod 4 := rfl
theorem g3_is (d k : Int) : g3 d k = (d.fdiv (3 ^ k.toNat)).fmod 3 := rfl
/-! the jobs' list while it is filled -/
structure JobsAt (lj : Addr) (ds : Nat → Int) (i : Nat) (jt ji jd : Nat → Addr) (nx : List (Addr × Obj)) : Prop where
  hj : ∃ n, (lj, listOf ((List.range i).map fun w => Value.ref (jt w)).toArray n) ∈ nx
  hjt : ∀ w, w < i → (jt w, { cls := .type "tuple", data := .seq [.ref (ji w), .ref (jd w)].toArray }) ∈ nx
  hji : ∀ w, w < i → ∃ vs n, (ji w, listOf vs.toArray n) ∈ nx ∧ IntsAre vs ((jobOf (ds w)).items.map Int.ofNat)
  hjd : ∀ w, w < i → ∃ vs n, (jd w, listOf vs.toArray n) ∈ nx ∧ IntsAre vs ((jobOf (ds w)).deeds.map Int.ofNat)
  hne : ∀ w, w < i → ji w ≠ lj ∧ jd w ≠ lj
theorem JobsAt.mono {lj : Addr} {ds : Nat → Int} {i : Nat} {jt ji jd : Nat → Addr} {nx nx' : List (Addr × Obj)} (J : JobsAt lj ds i jt ji jd nx) (hk : ∀ p ∈ nx, p ∈ nx') : JobsAt lj ds i jt ji jd nx' where
  hj := by obtain ⟨n, h⟩ := J.hj; exact ⟨n, hk _ h⟩
  hjt := fun w hw => hk _ (J.hjt w hw)
  hji := fun w hw => by obtain ⟨l, n, h, r⟩ := J.hji w hw; exact ⟨l, n, hk _ h, r⟩
  hjd := fun w hw => by obtain ⟨l, n, h, r⟩ := J.hjd w hw; exact ⟨l, n, hk _ h, r⟩
  hne := J.hne
theorem cell_ne {h₀ h : Heap} {L : Addr} {nx : List (Addr × Obj)} {cv a : Addr} {oc o : Obj} {v₀ : Option Value} {xs : Array Value} {n : Nat} (N : News h₀ L h nx) (hcv : (cv, oc) ∈ nx) (hoc : oc.data = .cell v₀) (ha : (a, o) ∈ nx) (ho : o.data = .seq xs n) : a ≠ cv := by
  intro e
  have h1 := (N _ hcv).1
  have h2 := (N _ ha).1
  dsimp only at h1 h2
  rw [e, h1] at h2
  have := Option.some.inj h2
  rw [← this, hoc] at ho
  cases ho
theorem JobsAt.step {lj cv : Addr} {ds : Nat → Int} {i : Nat} {jt ji jd : Nat → Addr} {nx nx' : List (Addr × Obj)} {T Di Dd : Addr} {ys zs : List Value} {n' ny nz : Nat}
   (J : JobsAt lj ds i jt ji jd nx) (hc : ∀ (a : Addr) (o : Obj) (xs : Array Value) (n : Nat), (a, o) ∈ nx → o.data = .seq xs n → a ≠ cv) (hl : ∀ (a : Addr) (xs : Array Value), (a, { cls := .type "tuple", data := .seq xs }) ∈ nx → a ≠ lj) (hk : ∀ p ∈ nx, p.1 ≠ cv → p.1 ≠ lj → p ∈ nx')
   (h1 : (T, { cls := .type "tuple", data := .seq [.ref Di, .ref Dd].toArray }) ∈ nx') (h2 : (Di, listOf ys.toArray ny) ∈ nx') (h3 : (Dd, listOf zs.toArray nz) ∈ nx')
   (hi : IntsAre ys ((itemsOf (ds i)).map Int.ofNat)) (hd : IntsAre zs ((deedsOf (ds i)).map Int.ofNat)) (n1 : Di ≠ lj) (n2 : Dd ≠ lj)
   (hlj : (lj, listOf (((List.range i).map fun w => Value.ref (jt w)).toArray.push (.ref T)) n') ∈ nx') :
   JobsAt lj ds (i + 1) (upd jt i T) (upd ji i Di) (upd jd i Dd) nx' where
  hj := by
    refine ⟨n', ?_⟩
    have e : ((List.range (i + 1)).map fun w => Value.ref (upd jt i T w)).toArray = ((List.range i).map fun w => Value.ref (jt w)).toArray.push (.ref T) := by
      rw [List.range_succ, List.map_append, List.push_toArray]
      congr 1
      congr 1
      · refine List.map_congr_left fun w hw => ?_
        rw [upd_ne _ _ (Nat.ne_of_lt (List.mem_range.mp hw))]
      · show [Value.ref (upd jt i T i)] = _
        rw [upd_eq]
    rw [e]
    exact hlj
  hjt := fun w hw => by
    by_cases e : w = i
    · subst e
      rw [upd_eq, upd_eq, upd_eq]
      exact h1
    · rw [upd_ne _ _ e, upd_ne _ _ e, upd_ne _ _ e]
      have hm := J.hjt w (by omega)
      exact hk _ hm (hc _ _ _ _ hm rfl) (hl _ _ hm)
  hji := fun w hw => by
    by_cases e : w = i
    · subst e
      rw [upd_eq]
      exact ⟨ys, ny, h2, hi⟩
    · rw [upd_ne _ _ e]
      obtain ⟨vs, n, hm, hr⟩ := J.hji w (by omega)
      exact ⟨vs, n, hk _ hm (hc _ _ _ _ hm rfl) (J.hne w (by omega)).1, hr⟩
  hjd := fun w hw => by
    by_cases e : w = i
    · subst e
      rw [upd_eq]
      exact ⟨zs, nz, h3, hd⟩
    · rw [upd_ne _ _ e]
      obtain ⟨vs, n, hm, hr⟩ := J.hjd w (by omega)
      exact ⟨vs, n, hk _ hm (hc _ _ _ _ hm rfl) (J.hne w (by omega)).2, hr⟩
  hne := fun w hw => by
    by_cases e : w = i
    · subst e
      rw [upd_eq, upd_eq]
      exact ⟨n1, n2⟩
    · rw [upd_ne _ _ e, upd_ne _ _ e]
      exact J.hne w (by omega)
theorem ent_addr {a : Addr} {o : Obj} {nx : List (Addr × Obj)} (h : (a, o) ∈ nx) : ∃ b : Addr, b = a ∧ (b, o) ∈ nx := ⟨a, rfl, h⟩
theorem ent_obj {a : Addr} {o : Obj} {nx : List (Addr × Obj)} (h : (a, o) ∈ nx) : ∃ q : Obj, q = o ∧ (a, q) ∈ nx := ⟨o, rfl, h⟩
def three {α : Type} (a b c : α) : Nat → α := fun w => if w = 0 then a else if w = 1 then b else c
theorem three_at {d0 d1 d2 : Int} {u0 u1 u2 : Tok} {j : Nat} {v : Value} (h : (#[Value.int d0 u0, .int d1 u1, .int d2 u2] : Array Value)[j]? = some v) : j < 3 ∧ ∃ d t, three d0 d1 d2 j = d ∧ v = .int d t := by
  match j, h with
  | 0, h => exact ⟨by decide, d0, u0, rfl, (Option.some.inj h).symm⟩
  | 1, h => exact ⟨by decide, d1, u1, rfl, (Option.some.inj h).symm⟩
  | 2, h => exact ⟨by decide, d2, u2, rfl, (Option.some.inj h).symm⟩
  | k + 3, h => cases h
theorem off1_mem {D : Addr} : ∀ {l : List (Addr × Obj)}, LCg.Off1 D l → ∀ p ∈ l, p.1 ≠ D
  | [], _, _, h => by cases h
  | (a, o) :: l, h, p, hp => by
    unfold LCg.Off1 at h
    rcases List.mem_cons.mp hp with e | hp
    · rw [e]; exact h.1
    · exact off1_mem h.2 p hp
/-- what a turn of the jobs' loop leaves -/
theorem jobs_turn {lj cv cd D3 I T Di Dd : Nat} {ds : Nat → Int} {j : Nat} {jt ji jd : Nat → Addr} {own nx nb : List (Addr × Obj)} {oc o3 od oD : Obj} {ys zs : List Value} {nlj : Nat}
   (J : JobsAt lj ds j jt ji jd nx) (hoc : ((cv : Addr), oc) ∈ nx) (hod : ((cd : Addr), od) ∈ nx) (hD3 : ((D3 : Addr), oD) ∈ nx) (enb : putA cv o3 (own ++ nx) = nb)
   (hcne : ∀ (a : Addr) (o : Obj) (xs : Array Value) (n : Nat), (a, o) ∈ own ++ nx → o.data = .seq xs n → a ≠ cv) (htne : ∀ (a : Addr) (xs : Array Value), (a, { cls := .type "tuple", data := .seq xs }) ∈ own ++ nx → a ≠ lj)
   (hown : ∀ p ∈ own, p.1 ≠ cv ∧ p.1 ≠ lj) (hI : ∃ o, ((I : Addr), o) ∈ own) (hoff : ∀ p ∈ nx, p.1 ≠ I) (hcv : cv ≠ lj) (hcd : cd ≠ cv ∧ cd ≠ lj) (hd3 : D3 ≠ cv ∧ D3 ≠ lj)
   (hlj : ((lj : Addr), listOf ((List.range j).map fun w => Value.ref (jt w)).toArray nlj) ∈ nb) (hoI : LCg.Off1 Di nb) (hoD : LCg.Off1 Dd nb) (hlT : AllLt T nb)
   (hi : IntsAre ys ((itemsOf (ds j)).map Int.ofNat)) (hd : IntsAre zs ((deedsOf (ds j)).map Int.ofNat)) :
   let nf := putA lj (listOf (((List.range j).map fun w => Value.ref (jt w)).toArray.push (.ref T)) (nlj + 1)) (((T : Addr), { cls := .type "tuple", data := .seq #[.ref Di, .ref Dd] }) :: ((Dd : Addr), LCg.lst zs) :: ((Di : Addr), LCg.lst ys) :: nb)
   (∀ p ∈ own, p ∈ nf) ∧ ((cv : Addr), o3) ∈ nf.filter (fun p => p.1 != I) ∧ ((cd : Addr), od) ∈ nf.filter (fun p => p.1 != I) ∧ ((D3 : Addr), oD) ∈ nf.filter (fun p => p.1 != I) ∧
     JobsAt lj ds (j + 1) (upd jt j T) (upd ji j Di) (upd jd j Dd) (nf.filter (fun p => p.1 != I)) := by
  intro nf
  have old : ∀ {a : Nat} {o : Obj}, ((a : Addr), o) ∈ own ++ nx → a ≠ cv → a ≠ lj → ((a : Addr), o) ∈ nf := fun hm h1 h2 =>
    putA_ne h2 (List.mem_cons_of_mem _ (List.mem_cons_of_mem _ (List.mem_cons_of_mem _ (enb ▸ putA_ne h1 hm))))
  have flt : ∀ {a : Nat} {o : Obj}, ((a : Addr), o) ∈ nf → a ≠ I → ((a : Addr), o) ∈ nf.filter (fun p => p.1 != I) := fun hm h1 => List.mem_filter.mpr ⟨hm, by simpa using h1⟩
  have nI : ∀ {a : Nat} {o : Obj}, ((a : Addr), o) ∈ nx → a ≠ I := fun hm => hoff _ hm
  obtain ⟨oI, hI⟩ := hI
  have hIb : ∃ q, ((I : Addr), q) ∈ nb := ⟨oI, enb ▸ putA_ne (hown _ hI).1 (List.mem_append_left _ hI)⟩
  obtain ⟨qI, hIb⟩ := hIb
  have d1 : I ≠ Di := off1_mem hoI _ hIb
  have d2 : I ≠ Dd := off1_mem hoD _ hIb
  have d3 : I < T := allLt_mem hlT _ hIb
  have l1 : lj ≠ Di := off1_mem hoI _ hlj
  have l2 : lj ≠ Dd := off1_mem hoD _ hlj
  have l3 : lj < T := allLt_mem hlT _ hlj
  refine ⟨fun p hp => old (List.mem_append_left _ hp) (hown p hp).1 (hown p hp).2, ?_, flt (old (List.mem_append_right _ hod) hcd.1 hcd.2) (nI hod), flt (old (List.mem_append_right _ hD3) hd3.1 hd3.2) (nI hD3), ?_⟩
  · refine flt (putA_ne hcv (List.mem_cons_of_mem _ (List.mem_cons_of_mem _ (List.mem_cons_of_mem _ (enb ▸ putA_eq (List.mem_append_right _ hoc)))))) (nI hoc)
  · refine J.step (cv := cv) (fun a o xs n hm ho => hcne a o xs n (List.mem_append_right _ hm) ho) (fun a xs hm => htne a xs (List.mem_append_right _ hm)) (fun p hp h1 h2 => flt (old (List.mem_append_right _ hp) h1 h2) (nI hp)) ?_ (ny := ys.length) ?_ (nz := zs.length) ?_ hi hd (Ne.symm l1) (Ne.symm l2) (n' := nlj + 1) ?_
    · exact flt (putA_ne (Nat.ne_of_gt l3) (List.mem_cons_self ..)) (Nat.ne_of_gt d3)
    · exact flt (putA_ne (Ne.symm l1) (List.mem_cons_of_mem _ (List.mem_cons_of_mem _ (List.mem_cons_self ..)))) (Ne.symm d1)
    · exact flt (putA_ne (Ne.symm l2) (List.mem_cons_of_mem _ (List.mem_cons_self ..))) (Ne.symm d2)
    · exact flt (putA_eq (List.mem_cons_of_mem _ (List.mem_cons_of_mem _ (List.mem_cons_of_mem _ hlj)))) (Ne.symm (fun e => (hown _ hI).2 e))
theorem sK : Str.ofString "K" = mkS [75] := by decide +kernel
theorem sL : Str.ofString "L" = mkS [76] := by decide +kernel
theorem sM : Str.ofString "M" = mkS [77] := by decide +kernel
theorem sa : Str.ofString ".<" = mkS [46, 60] := by decide +kernel
theorem sb : Str.ofString "\"&" = mkS [34, 38] := by decide +kernel
theorem sc : Str.ofString "b" = mkS [98] := by decide +kernel
def t0f : Tb := three [46, 60] [34, 38] [98]
theorem fit0 (js : Nat → Job) : Fit js (ini t0f) := by
  refine fit_ini js t0f ?_ ?_
  · have : ∀ i, i < 3 → (t0f i).length ≤ 2 := by decide
    exact this
  · intro i hi c hc
    have : ∀ i, i < 3 → ∀ c ∈ t0f i, 32 ≤ c ∧ c < 127 ∧ c ≠ 62 := by decide
    exact this i hi c hc
def es0 (a0 a1 a2 : Addr) (k0 k1 k2 v0 v1 v2 : Tok) : List Ent := [⟨a0, 0, mkS [46, 60], k0, v0⟩, ⟨a1, 1, mkS [34, 38], k1, v1⟩, ⟨a2, 2, mkS [98], k2, v2⟩]
theorem es0_plain {a0 a1 a2 : Addr} {k0 k1 k2 v0 v1 v2 : Tok} : ∀ e ∈ es0 a0 a1 a2 k0 k1 k2 v0 v1 v2, Plain e.v ∧ e.v.length ≤ 1000000 := by
  intro e he
  unfold es0 at he
  simp only [List.mem_cons, List.not_mem_nil, or_false] at he
  rcases he with rfl | rfl | rfl
  · exact ⟨(by decide : ∀ c ∈ [46, 60], 32 ≤ c ∧ c < 127 ∧ c ≠ 62), (by decide : 2 ≤ 1000000)⟩
  · exact ⟨(by decide : ∀ c ∈ [34, 38], 32 ≤ c ∧ c < 127 ∧ c ≠ 62), (by decide : 2 ≤ 1000000)⟩
  · exact ⟨(by decide : ∀ c ∈ [98], 32 ≤ c ∧ c < 127 ∧ c ≠ 62), (by decide : 1 ≤ 1000000)⟩
theorem es0_mem {a0 a1 a2 : Addr} {k0 k1 k2 v0 v1 v2 : Tok} {news : List (Addr × Obj)}
   (h0 : (a0, { cls := .type "tuple", data := .seq #[.str (mkS [75]) k0, .str (mkS [46, 60]) v0] }) ∈ news) (h1 : (a1, { cls := .type "tuple", data := .seq #[.str (mkS [76]) k1, .str (mkS [34, 38]) v1] }) ∈ news)
   (h2 : (a2, { cls := .type "tuple", data := .seq #[.str (mkS [77]) k2, .str (mkS [98]) v2] }) ∈ news) : ∀ e ∈ es0 a0 a1 a2 k0 k1 k2 v0 v1 v2, (e.a, e.obj) ∈ news ∧ e.i < 3 := by
  intro e he
  unfold es0 at he
  simp only [List.mem_cons, List.not_mem_nil, or_false] at he
  rcases he with rfl | rfl | rfl
  · exact ⟨h0, (by decide : 0 < 3)⟩
  · exact ⟨h1, (by decide : 1 < 3)⟩
  · exact ⟨h2, (by decide : 2 < 3)⟩
theorem es0_perm {a0 a1 a2 : Addr} {k0 k1 k2 v0 v1 v2 : Tok} : ((es0 a0 a1 a2 k0 k1 k2 v0 v1 v2).map (·.i)).Perm [0, 1, 2] := List.Perm.refl _
theorem es0_fnd {a0 a1 a2 : Addr} {k0 k1 k2 v0 v1 v2 : Tok} : ∀ i, i < 3 → fnd (es0 a0 a1 a2 k0 k1 k2 v0 v1 v2) i = some (mkS (t0f i)) := by
  intro i hi
  have : i = 0 ∨ i = 1 ∨ i = 2 := by omega
  rcases this with rfl | rfl | rfl <;> rfl
theorem c_table (w : World) (mean : ExcName → Option Value) (mg mb : Str → Option Value) (l e0 e1 e2 : Addr) (k0 k1 k2 v0 v1 v2 : Tok) (rest : List (Addr × Obj)) :
   ∀ (dp un : Nat) (gd : Option (List Code)) (cn : Str) (cs : Scope) (a : Addr) (ccd : Value) (cl : List (Str × Addr)) (outer : List Env) (A₀ : Around) (base h₀ : Heap) (L : Addr) (m : Str → Option Value)
    (s : Shared) (Q E : Value → Shared → Prop),
    Below A₀ base outer h₀ → Fr h₀ L s.heap m → (hd.heap_39 w.params).In h₀ →
    News h₀ L s.heap ((l, listOf #[.ref e0, .ref e1, .ref e2] 0) :: (e2, { cls := .type "tuple", data := .seq #[.str (mkS [77]) k2, .str (mkS [98]) v2] }) :: (e1, { cls := .type "tuple", data := .seq #[.str (mkS [76]) k1, .str (mkS [34, 38]) v1] }) :: (e0, { cls := .type "tuple", data := .seq #[.str (mkS [75]) k0, .str (mkS [46, 60]) v0] }) :: rest) →
    Top hd.view_39 Lz mean mg mb h₀ → cs.kind = .function → 0 < s.toks →
    dp + 5 < recursionLimit → un + 8 * 5 < cLine →
    (∀ (x dx n: Nat) (hsh : Int) (tk0 : Tok) (nt : List (Addr × Obj)) (h' : Heap) (tk' : Nat), Fr h₀ L h' m → News h₀ L h' nt → HdrAt nt x dx l (es0 e0 e1 e2 k0 k1 k2 v0 v1 v2) hsh tk0 n 0 → (∀ p ∈ rest, p ∈ nt) → 0 < tk' → Q (.ref x) { s with heap := h', toks := tk' }) →
      wpAny (model pg w) (ktrTop dp un gd cn cs L a ccd cl outer) (call (.ref 171) [.ref l] []) Q E s := by
  intro dp un gd cn cs a ccd cl outer A₀ base h₀ L m s Q E B F X N T hk htk hdp hun hret
  have h0 : ∀ e ∈ es0 e0 e1 e2 k0 k1 k2 v0 v1 v2, (e.a, e.obj) ∈ ((l, listOf #[.ref e0, .ref e1, .ref e2] 0) :: (e2, { cls := .type "tuple", data := .seq #[.str (mkS [77]) k2, .str (mkS [98]) v2] }) :: (e1, { cls := .type "tuple", data := .seq #[.str (mkS [76]) k1, .str (mkS [34, 38]) v1] }) :: (e0, { cls := .type "tuple", data := .seq #[.str (mkS [75]) k0, .str (mkS [46, 60]) v0] }) :: rest) ∧ e.i < 3 :=
    es0_mem (List.mem_cons_of_mem _ (List.mem_cons_of_mem _ (List.mem_cons_of_mem _ (List.mem_cons_self ..)))) (List.mem_cons_of_mem _ (List.mem_cons_of_mem _ (List.mem_cons_self ..))) (List.mem_cons_of_mem _ (List.mem_cons_self ..))
  refine c_init w mean mg mb _ l (es0 e0 e1 e2 k0 k1 k2 v0 v1 v2) 0 (List.mem_cons_self ..) h0 es0_plain _ _ _ _ _ _ _ _ _ _ _ _ _ _ _ _ _ B F X N T hk htk hdp hun ?_
  intro x dx n hsh tk0 h' tk' F' N' htk'
  refine hret x dx n hsh tk0 _ h' tk' F' N' ⟨List.mem_cons_self .., List.mem_cons_of_mem _ (List.mem_cons_self ..), List.mem_cons_of_mem _ (List.mem_cons_of_mem _ (List.mem_cons_self ..)), fun e he => ⟨List.mem_cons_of_mem _ (List.mem_cons_of_mem _ (h0 e he).1), (h0 e he).2⟩⟩ (fun p hp => ?_) htk'
  exact List.mem_cons_of_mem _ (List.mem_cons_of_mem _ (List.mem_cons_of_mem _ (List.mem_cons_of_mem _ (List.mem_cons_of_mem _ (List.mem_cons_of_mem _ hp)))))
theorem ord_list {o : List Nat} {ns : List Int} {vs : List Value} (ho : o.Perm [0, 1, 2]) (hp : ns.Perm (o.map Int.ofNat)) (hs : ns.Pairwise (· ≤ ·)) (hi : IntsAre vs ns) : ns = [0, 1, 2] ∧ ∃ a b c : Tok, vs = [.int 0 a, .int 1 b, .int 2 c] := by
  have e : ns = [0, 1, 2] := ksm_same (hp.trans (ho.map Int.ofNat)) hs (by decide)
  subst e
  cases hi with
  | cons _ a hi =>
    cases hi with
    | cons _ b hi =>
      cases hi with
      | cons _ c hi =>
        cases hi
        exact ⟨rfl, a, b, c, rfl⟩
end
section
open PySem PySem.W PyProof.Rows PySem.Calls
set_option maxRecDepth 100000
set_option maxHeartbeats 8000000
theorem plain_ok {l : List Nat} (h : PlainL l) : PyData.canLay0 (.str (mkS l)) = true := by
  simp only [PyData.canLay0, PyData.strOk, mkS, List.all_toArray, List.all_eq_true, decide_eq_true_eq]
  intro x hx
  have := h x hx
  omega
def sD (V : List (List Nat)) : List PyData := V.map fun x => .str (mkS x)
theorem sD_ok : ∀ {V : List (List Nat)}, (∀ x ∈ V, PlainL x) → PyData.canLayAll0 (sD V) = true
  | [], _ => rfl
  | x :: V, h => by
    show (PyData.canLay0 (.str (mkS x)) && PyData.canLayAll0 (sD V)) = true
    rw [plain_ok (h x (List.mem_cons_self ..)), sD_ok fun y hy => h y (List.mem_cons_of_mem _ hy)]
    rfl
theorem sD_depth : ∀ {V : List (List Nat)}, PyData.depthAll (sD V) = 0
  | [] => rfl
  | x :: V => by
    show max (PyData.depth (.str (mkS x))) (PyData.depthAll (sD V)) = 0
    rw [sD_depth]
    rfl
theorem sD_eqv : ∀ {V : List (List Nat)}, PyData.eqvAll (sD V) (sD V) = true
  | [] => rfl
  | x :: V => by
    show (PyData.eqv (.str (mkS x)) (.str (mkS x)) && PyData.eqvAll (sD V) (sD V)) = true
    rw [sD_eqv]
    show ((mkS x == mkS x) && true) = true
    simp
theorem sD_reads {h : Heap} : ∀ {V : List (List Nat)} {l : List (Str × Tok)}, l.map (·.1) = V.map mkS → ∃ as, ReadsAll h (strValues l) (sD V) as
  | [], [], _ => ⟨_, .nil⟩
  | [], _ :: _, e => by cases e
  | _ :: _, [], e => by cases e
  | x :: V, (y, t) :: l, e => by
    injection e with e1 e2
    obtain ⟨as, r⟩ := sD_reads (h := h) (V := V) (l := l) e2
    dsimp only at e1
    subst e1
    exact ⟨_, .cons (.str (mkS x) t) r⟩
def vD (V : Nat → List (List Nat)) : PyData := .list [.list (sD (V 0)), .list (sD (V 1)), .list (sD (V 2))]
theorem vD_shaped {V : Nat → List (List Nat)} (h : ∀ w, w < 3 → ∀ x ∈ V w, PlainL x) : SeqAt.shaped (vD V) = true := by
  have h0 := sD_ok (h 0 (by decide))
  have h1 := sD_ok (h 1 (by decide))
  have h2 := sD_ok (h 2 (by decide))
  simp [SeqAt.shaped, vD, PyData.canLay0, PyData.canLayAll0, PyData.depth, PyData.depthAll, h0, h1, h2, sD_depth]
theorem vD_eqv {V : Nat → List (List Nat)} : PyData.eqv (vD V) (vD V) = true := by
  show (PyData.eqvAll (sD (V 0)) (sD (V 0)) && (PyData.eqvAll (sD (V 1)) (sD (V 1)) && (PyData.eqvAll (sD (V 2)) (sD (V 2)) && true))) = true
  rw [sD_eqv, sD_eqv, sD_eqv]
  rfl
theorem vD_reads {h₀ h : Heap} {L : Addr} {news : List (Addr × Obj)} {V : Nat → List (List Nat)} {a : Addr} {va : Nat → Addr} {n : Nat} (N : News h₀ L h news) (ha : (a, listOf (arr3 fun w => .ref (va w)) n) ∈ news)
   (hv : ∀ w, w < 3 → ∃ l n, (va w, listOf (strValues l).toArray n) ∈ news ∧ l.map (·.1) = (V w).map mkS) : ∃ as, Reads h (.ref a) (vD V) as := by
  have one : ∀ w, w < 3 → ∃ as, Reads h (.ref (va w)) (.list (sD (V w))) as := fun w hw => by
    obtain ⟨l, n, hm, hl⟩ := hv w hw
    obtain ⟨as, r⟩ := sD_reads (h := h) hl
    exact ⟨_, .list (N _ hm).1 rfl rfl (by rw [List.toList_toArray]; exact r)⟩
  obtain ⟨a0, r0⟩ := one 0 (by decide)
  obtain ⟨a1, r1⟩ := one 1 (by decide)
  obtain ⟨a2, r2⟩ := one 2 (by decide)
  exact ⟨_, .list (N _ ha).1 rfl rfl (.cons r0 (.cons r1 (.cons r2 .nil)))⟩
theorem vals_ne {prog : Program} {w : World} {A : Around} {E : Value → Shared → Prop} {s : Shared} {h₀ : Heap} {L : Addr} {news : List (Addr × Obj)} {V : Nat → List (List Nat)} {a b : Addr} {va vb : Nat → Addr} {n m : Nat} {Q : Value → Shared → Prop} (N : News h₀ L s.heap news)
   (ha : (a, listOf (arr3 fun w => .ref (va w)) n) ∈ news) (hva : ∀ w, w < 3 → ∃ l n, (va w, listOf (strValues l).toArray n) ∈ news ∧ l.map (·.1) = (V w).map mkS)
   (hb : (b, listOf (arr3 fun w => .ref (vb w)) m) ∈ news) (hvb : ∀ w, w < 3 → ∃ l n, (vb w, listOf (strValues l).toArray n) ∈ news ∧ l.map (·.1) = (V w).map mkS)
   (hV : ∀ w, w < 3 → ∀ x ∈ V w, PlainL x) (hu : A.units + 64 < cLine) (h : Q (.bool false) s) : wpAny (model prog w) A (compareOp .NotEq (.ref a) (.ref b)) Q E s := by
  obtain ⟨as, ra⟩ := vD_reads N ha hva
  obtain ⟨bs, rb⟩ := vD_reads N hb hvb
  refine ne_dataH ra rb (vD_shaped hV) (vD_shaped hV) hu ?_
  rw [vD_eqv]
  exact h
theorem held_ints {h₀ h : Heap} {L : Addr} {news : List (Addr × Obj)} {hl a : Addr} {f : Nat → Str} {ts : Nat → Tok} {n m : Nat} {vs : List Value} {ns : List Int} (N : News h₀ L h news) (h1 : (hl, listOf (arr3 fun i => .str (f i) (ts i)) n) ∈ news) (h2 : (a, listOf vs.toArray m) ∈ news) (hi : IntsAre vs ns) : hl ≠ a := by
  intro e
  have z1 := (N _ h1).1
  have z2 := (N _ h2).1
  dsimp only at z1 z2
  rw [e, z2] at z1
  have := congrArg Obj.data (Option.some.inj z1)
  have h3 : vs.toArray = (arr3 fun i => Value.str (f i) (ts i)) := by injection this
  have h4 : vs = [Value.str (f 0) (ts 0), .str (f 1) (ts 1), .str (f 2) (ts 2)] := by
    have := congrArg Array.toList h3
    rw [List.toList_toArray] at this
    exact this
  rw [h4] at hi
  cases hi
theorem held_refs {h₀ h : Heap} {L : Addr} {news : List (Addr × Obj)} {hl a : Addr} {f : Nat → Str} {ts : Nat → Tok} {g : Nat → Addr} {n m : Nat} (N : News h₀ L h news) (h1 : (hl, listOf (arr3 fun i => .str (f i) (ts i)) n) ∈ news) (h2 : (a, listOf (arr3 fun w => .ref (g w)) m) ∈ news) : hl ≠ a := by
  intro e
  have z1 := (N _ h1).1
  have z2 := (N _ h2).1
  dsimp only at z1 z2
  rw [e, z2] at z1
  have := congrArg Obj.data (Option.some.inj z1)
  have h3 : (arr3 fun w => Value.ref (g w)) = (arr3 fun i => Value.str (f i) (ts i)) := by injection this
  have := congrArg (fun x : Array Value => x.toList.head?) h3
  cases this
theorem ord_ok {o : List Nat} (ho : o.Perm [0, 1, 2]) : o.Nodup ∧ ∀ x ∈ o, x < 3 := by
  refine ⟨ho.nodup_iff.mpr (by decide), fun x hx => ?_⟩
  have := ho.mem_iff.mp hx
  simp at this
  omega
end
section
open PySem PySem.W PyProof.Rows PySem.Calls
set_option maxRecDepth 100000
set_option maxHeartbeats 8000000
section
variable {w : World} {A₁ : Around} {E : Value → Shared → Prop} {s : Shared} {h₀ : Heap} {L : Addr} {m : Str → Option Value} {rest : List (Addr × Obj)} {Q : Value → Shared → Prop} {ln a b c : Addr} {nl : Nat} {x y z : Str} {t1 t2 t3 t4 t5 t6 : Tok}
theorem sort012 (X : (hd.heap_39 w.params).In h₀) (F : Fr h₀ L s.heap m) (N : News h₀ L s.heap ((ln, listOf #[.ref a, .ref b, .ref c] nl) :: (a, { cls := .type "tuple", data := .seq #[.str (mkS [75 + 0]) t1, .str x t2] }) :: (b, { cls := .type "tuple", data := .seq #[.str (mkS [75 + 1]) t3, .str y t4] }) :: (c, { cls := .type "tuple", data := .seq #[.str (mkS [75 + 2]) t5, .str z t6] }) :: rest))
   (hret : ∀ D k h', Fr h₀ L h' m → News h₀ L h' ((D, listOf #[.ref a, .ref b, .ref c] k) :: rest) → Q (.ref D) { s with heap := h' }) :
   wpAny (model pg w) A₁ (call (.builtin "sorted") [.ref ln]) Q E s := by
  refine kat_sorted (vs := [.ref a, .ref b, .ref c]) F N ⟨_, (N _ (List.mem_cons_self ..)).1, rfl, _, rfl⟩ (Nat.le_of_ble_eq_true rfl) (Nat.le_of_ble_eq_true rfl) ?_
  intro D' e' h' F' N' l1
  k_lt l1
  clear F N
  show wpAny _ _ _ _ _ _
  k_steps
  rename Fr _ _ _ _ => F3
  rename News _ _ _ _ => N3
  exact hret _ _ _ F3 (cb_drop N3 (fun p hp => by
    rcases List.mem_cons.mp hp with e | hp
    · rw [e]; exact List.mem_cons_self ..
    · exact List.mem_cons_of_mem _ (List.mem_cons_of_mem _ (List.mem_cons_of_mem _ (List.mem_cons_of_mem _ (List.mem_cons_of_mem _ hp))))))
theorem sort021 (X : (hd.heap_39 w.params).In h₀) (F : Fr h₀ L s.heap m) (N : News h₀ L s.heap ((ln, listOf #[.ref a, .ref b, .ref c] nl) :: (a, { cls := .type "tuple", data := .seq #[.str (mkS [75 + 0]) t1, .str x t2] }) :: (b, { cls := .type "tuple", data := .seq #[.str (mkS [75 + 2]) t3, .str y t4] }) :: (c, { cls := .type "tuple", data := .seq #[.str (mkS [75 + 1]) t5, .str z t6] }) :: rest))
   (hret : ∀ D k h', Fr h₀ L h' m → News h₀ L h' ((D, listOf #[.ref a, .ref c, .ref b] k) :: rest) → Q (.ref D) { s with heap := h' }) :
   wpAny (model pg w) A₁ (call (.builtin "sorted") [.ref ln]) Q E s := by
  refine kat_sorted (vs := [.ref a, .ref b, .ref c]) F N ⟨_, (N _ (List.mem_cons_self ..)).1, rfl, _, rfl⟩ (Nat.le_of_ble_eq_true rfl) (Nat.le_of_ble_eq_true rfl) ?_
  intro D' e' h' F' N' l1
  k_lt l1
  clear F N
  show wpAny _ _ _ _ _ _
  k_steps
  rename Fr _ _ _ _ => F3
  rename News _ _ _ _ => N3
  exact hret _ _ _ F3 (cb_drop N3 (fun p hp => by
    rcases List.mem_cons.mp hp with e | hp
    · rw [e]; exact List.mem_cons_self ..
    · exact List.mem_cons_of_mem _ (List.mem_cons_of_mem _ (List.mem_cons_of_mem _ (List.mem_cons_of_mem _ (List.mem_cons_of_mem _ hp))))))
theorem sort102 (X : (hd.heap_39 w.params).In h₀) (F : Fr h₀ L s.heap m) (N : News h₀ L s.heap ((ln, listOf #[.ref a, .ref b, .ref c] nl) :: (a, { cls := .type "tuple", data := .seq #[.str (mkS [75 + 1]) t1, .str x t2] }) :: (b, { cls := .type "tuple", data := .seq #[.str (mkS [75 + 0]) t3, .str y t4] }) :: (c, { cls := .type "tuple", data := .seq #[.str (mkS [75 + 2]) t5, .str z t6] }) :: rest))
   (hret : ∀ D k h', Fr h₀ L h' m → News h₀ L h' ((D, listOf #[.ref b, .ref a, .ref c] k) :: rest) → Q (.ref D) { s with heap := h' }) :
   wpAny (model pg w) A₁ (call (.builtin "sorted") [.ref ln]) Q E s := by
  refine kat_sorted (vs := [.ref a, .ref b, .ref c]) F N ⟨_, (N _ (List.mem_cons_self ..)).1, rfl, _, rfl⟩ (Nat.le_of_ble_eq_true rfl) (Nat.le_of_ble_eq_true rfl) ?_
  intro D' e' h' F' N' l1
  k_lt l1
  clear F N
  show wpAny _ _ _ _ _ _
  k_steps
  rename Fr _ _ _ _ => F3
  rename News _ _ _ _ => N3
  exact hret _ _ _ F3 (cb_drop N3 (fun p hp => by
    rcases List.mem_cons.mp hp with e | hp
    · rw [e]; exact List.mem_cons_self ..
    · exact List.mem_cons_of_mem _ (List.mem_cons_of_mem _ (List.mem_cons_of_mem _ (List.mem_cons_of_mem _ (List.mem_cons_of_mem _ hp))))))
theorem sort120 (X : (hd.heap_39 w.params).In h₀) (F : Fr h₀ L s.heap m) (N : News h₀ L s.heap ((ln, listOf #[.ref a, .ref b, .ref c] nl) :: (a, { cls := .type "tuple", data := .seq #[.str (mkS [75 + 1]) t1, .str x t2] }) :: (b, { cls := .type "tuple", data := .seq #[.str (mkS [75 + 2]) t3, .str y t4] }) :: (c, { cls := .type "tuple", data := .seq #[.str (mkS [75 + 0]) t5, .str z t6] }) :: rest))
   (hret : ∀ D k h', Fr h₀ L h' m → News h₀ L h' ((D, listOf #[.ref c, .ref a, .ref b] k) :: rest) → Q (.ref D) { s with heap := h' }) :
   wpAny (model pg w) A₁ (call (.builtin "sorted") [.ref ln]) Q E s := by
  refine kat_sorted (vs := [.ref a, .ref b, .ref c]) F N ⟨_, (N _ (List.mem_cons_self ..)).1, rfl, _, rfl⟩ (Nat.le_of_ble_eq_true rfl) (Nat.le_of_ble_eq_true rfl) ?_
  intro D' e' h' F' N' l1
  k_lt l1
  clear F N
  show wpAny _ _ _ _ _ _
  k_steps
  rename Fr _ _ _ _ => F3
  rename News _ _ _ _ => N3
  exact hret _ _ _ F3 (cb_drop N3 (fun p hp => by
    rcases List.mem_cons.mp hp with e | hp
    · rw [e]; exact List.mem_cons_self ..
    · exact List.mem_cons_of_mem _ (List.mem_cons_of_mem _ (List.mem_cons_of_mem _ (List.mem_cons_of_mem _ (List.mem_cons_of_mem _ hp))))))
theorem sort201 (X : (hd.heap_39 w.params).In h₀) (F : Fr h₀ L s.heap m) (N : News h₀ L s.heap ((ln, listOf #[.ref a, .ref b, .ref c] nl) :: (a, { cls := .type "tuple", data := .seq #[.str (mkS [75 + 2]) t1, .str x t2] }) :: (b, { cls := .type "tuple", data := .seq #[.str (mkS [75 + 0]) t3, .str y t4] }) :: (c, { cls := .type "tuple", data := .seq #[.str (mkS [75 + 1]) t5, .str z t6] }) :: rest))
   (hret : ∀ D k h', Fr h₀ L h' m → News h₀ L h' ((D, listOf #[.ref b, .ref c, .ref a] k) :: rest) → Q (.ref D) { s with heap := h' }) :
   wpAny (model pg w) A₁ (call (.builtin "sorted") [.ref ln]) Q E s := by
  refine kat_sorted (vs := [.ref a, .ref b, .ref c]) F N ⟨_, (N _ (List.mem_cons_self ..)).1, rfl, _, rfl⟩ (Nat.le_of_ble_eq_true rfl) (Nat.le_of_ble_eq_true rfl) ?_
  intro D' e' h' F' N' l1
  k_lt l1
  clear F N
  show wpAny _ _ _ _ _ _
  k_steps
  rename Fr _ _ _ _ => F3
  rename News _ _ _ _ => N3
  exact hret _ _ _ F3 (cb_drop N3 (fun p hp => by
    rcases List.mem_cons.mp hp with e | hp
    · rw [e]; exact List.mem_cons_self ..
    · exact List.mem_cons_of_mem _ (List.mem_cons_of_mem _ (List.mem_cons_of_mem _ (List.mem_cons_of_mem _ (List.mem_cons_of_mem _ hp))))))
theorem sort210 (X : (hd.heap_39 w.params).In h₀) (F : Fr h₀ L s.heap m) (N : News h₀ L s.heap ((ln, listOf #[.ref a, .ref b, .ref c] nl) :: (a, { cls := .type "tuple", data := .seq #[.str (mkS [75 + 2]) t1, .str x t2] }) :: (b, { cls := .type "tuple", data := .seq #[.str (mkS [75 + 1]) t3, .str y t4] }) :: (c, { cls := .type "tuple", data := .seq #[.str (mkS [75 + 0]) t5, .str z t6] }) :: rest))
   (hret : ∀ D k h', Fr h₀ L h' m → News h₀ L h' ((D, listOf #[.ref c, .ref b, .ref a] k) :: rest) → Q (.ref D) { s with heap := h' }) :
   wpAny (model pg w) A₁ (call (.builtin "sorted") [.ref ln]) Q E s := by
  refine kat_sorted (vs := [.ref a, .ref b, .ref c]) F N ⟨_, (N _ (List.mem_cons_self ..)).1, rfl, _, rfl⟩ (Nat.le_of_ble_eq_true rfl) (Nat.le_of_ble_eq_true rfl) ?_
  intro D' e' h' F' N' l1
  k_lt l1
  clear F N
  show wpAny _ _ _ _ _ _
  k_steps
  rename Fr _ _ _ _ => F3
  rename News _ _ _ _ => N3
  exact hret _ _ _ F3 (cb_drop N3 (fun p hp => by
    rcases List.mem_cons.mp hp with e | hp
    · rw [e]; exact List.mem_cons_self ..
    · exact List.mem_cons_of_mem _ (List.mem_cons_of_mem _ (List.mem_cons_of_mem _ (List.mem_cons_of_mem _ (List.mem_cons_of_mem _ hp))))))
end
theorem perm3 {x y z : Nat} (h : [x, y, z].Perm [0, 1, 2]) : (x = 0 ∧ y = 1 ∧ z = 2) ∨ (x = 0 ∧ y = 2 ∧ z = 1) ∨ (x = 1 ∧ y = 0 ∧ z = 2) ∨ (x = 1 ∧ y = 2 ∧ z = 0) ∨ (x = 2 ∧ y = 0 ∧ z = 1) ∨ (x = 2 ∧ y = 1 ∧ z = 0) := by
  have nd := h.nodup_iff.mpr (by decide)
  have l3 : ∀ a ∈ [0, 1, 2], a = 0 ∨ a = 1 ∨ a = 2 := by decide
  have hx := l3 _ (h.mem_iff.mp (List.mem_cons_self ..))
  have hy := l3 _ (h.mem_iff.mp (List.mem_cons_of_mem _ (List.mem_cons_self ..)))
  have hz := l3 _ (h.mem_iff.mp (List.mem_cons_of_mem _ (List.mem_cons_of_mem _ (List.mem_cons_self ..))))
  clear h l3
  rcases hx with rfl | rfl | rfl <;> rcases hy with rfl | rfl | rfl <;> rcases hz with rfl | rfl | rfl <;> first | (exfalso; revert nd; decide) | decide
theorem fnd_at {es : List Ent} {e : Ent} {i : Nat} {v : Str} (h : fnd es i = some v) (he : es.find? (fun e => e.i == i) = some e) : e.v = v := by
  unfold fnd at h
  rw [he] at h
  exact Option.some.inj h
theorem sort_tab {w : World} {A₁ : Around} {E : Value → Shared → Prop} {s : Shared} {h₀ : Heap} {L : Addr} {m : Str → Option Value} {nx : List (Addr × Obj)} {Q : Value → Shared → Prop} {ln : Addr} {nl : Nat} {es : List Ent} {t : Tb}
   (X : (hd.heap_39 w.params).In h₀) (hp : (es.map (·.i)).Perm [0, 1, 2]) (hf : ∀ i, i < 3 → fnd es i = some (mkS (t i))) (he : ∀ e ∈ es, (e.a, e.obj) ∈ nx) (F : Fr h₀ L s.heap m) (N : News h₀ L s.heap ((ln, listOf (refs es).toArray nl) :: nx))
   (hret : ∀ D k h' (a0 a1 a2 : Addr) (k0 k1 k2 v0 v1 v2 : Tok), Fr h₀ L h' m → (a0, { cls := .type "tuple", data := .seq #[.str (mkS [75]) k0, .str (mkS (t 0)) v0] }) ∈ nx → (a1, { cls := .type "tuple", data := .seq #[.str (mkS [76]) k1, .str (mkS (t 1)) v1] }) ∈ nx →
      (a2, { cls := .type "tuple", data := .seq #[.str (mkS [77]) k2, .str (mkS (t 2)) v2] }) ∈ nx → News h₀ L h' ((D, listOf #[.ref a0, .ref a1, .ref a2] k) :: nx) → Q (.ref D) { s with heap := h' }) :
   wpAny (model pg w) A₁ (call (.builtin "sorted") [.ref ln]) Q E s := by
  have hl : es.length = 3 := by have := hp.length_eq; rw [List.length_map] at this; exact this
  match es, hl with
  | [x, y, z], _ =>
    have hx := he x (by simp)
    have hy := he y (by simp)
    have hz := he z (by simp)
    obtain ⟨xa, xi, xv, xk, xt⟩ := x
    obtain ⟨ya, yi, yv, yk, yt⟩ := y
    obtain ⟨za, zi, zv, zk, zt⟩ := z
    have hc := perm3 hp
    dsimp only at hc
    unfold Ent.obj at hx hy hz
    dsimp only at hx hy hz
    have N2 : News h₀ L s.heap ((ln, listOf #[.ref xa, .ref ya, .ref za] nl) :: (xa, { cls := .type "tuple", data := .seq #[.str (mkS [75 + xi]) xk, .str xv xt] }) :: (ya, { cls := .type "tuple", data := .seq #[.str (mkS [75 + yi]) yk, .str yv yt] }) :: (za, { cls := .type "tuple", data := .seq #[.str (mkS [75 + zi]) zk, .str zv zt] }) :: nx) := fun p hp => by
      rcases List.mem_cons.mp hp with e | hp
      · rw [e]; exact N _ (List.mem_cons_self ..)
      rcases List.mem_cons.mp hp with e | hp
      · rw [e]; exact N _ (List.mem_cons_of_mem _ hx)
      rcases List.mem_cons.mp hp with e | hp
      · rw [e]; exact N _ (List.mem_cons_of_mem _ hy)
      rcases List.mem_cons.mp hp with e | hp
      · rw [e]; exact N _ (List.mem_cons_of_mem _ hz)
      exact N _ (List.mem_cons_of_mem _ hp)
    rcases hc with ⟨rfl, rfl, rfl⟩ | ⟨rfl, rfl, rfl⟩ | ⟨rfl, rfl, rfl⟩ | ⟨rfl, rfl, rfl⟩ | ⟨rfl, rfl, rfl⟩ | ⟨rfl, rfl, rfl⟩
    · have f0 := fnd_at (hf 0 (by decide)) rfl
      have f1 := fnd_at (hf 1 (by decide)) rfl
      have f2 := fnd_at (hf 2 (by decide)) rfl
      dsimp only at f0 f1 f2
      subst f0 f1 f2
      exact sort012 X F N2 fun D k h' F' N' => hret D k h' _ _ _ _ _ _ _ _ _ F' hx hy hz N'
    · have f0 := fnd_at (hf 0 (by decide)) rfl
      have f1 := fnd_at (hf 1 (by decide)) rfl
      have f2 := fnd_at (hf 2 (by decide)) rfl
      dsimp only at f0 f1 f2
      subst f0 f1 f2
      exact sort021 X F N2 fun D k h' F' N' => hret D k h' _ _ _ _ _ _ _ _ _ F' hx hz hy N'
    · have f0 := fnd_at (hf 0 (by decide)) rfl
      have f1 := fnd_at (hf 1 (by decide)) rfl
      have f2 := fnd_at (hf 2 (by decide)) rfl
      dsimp only at f0 f1 f2
      subst f0 f1 f2
      exact sort102 X F N2 fun D k h' F' N' => hret D k h' _ _ _ _ _ _ _ _ _ F' hy hx hz N'
    · have f0 := fnd_at (hf 0 (by decide)) rfl
      have f1 := fnd_at (hf 1 (by decide)) rfl
      have f2 := fnd_at (hf 2 (by decide)) rfl
      dsimp only at f0 f1 f2
      subst f0 f1 f2
      exact sort120 X F N2 fun D k h' F' N' => hret D k h' _ _ _ _ _ _ _ _ _ F' hz hx hy N'
    · have f0 := fnd_at (hf 0 (by decide)) rfl
      have f1 := fnd_at (hf 1 (by decide)) rfl
      have f2 := fnd_at (hf 2 (by decide)) rfl
      dsimp only at f0 f1 f2
      subst f0 f1 f2
      exact sort201 X F N2 fun D k h' F' N' => hret D k h' _ _ _ _ _ _ _ _ _ F' hy hz hx N'
    · have f0 := fnd_at (hf 0 (by decide)) rfl
      have f1 := fnd_at (hf 1 (by decide)) rfl
      have f2 := fnd_at (hf 2 (by decide)) rfl
      dsimp only at f0 f1 f2
      subst f0 f1 f2
      exact sort210 X F N2 fun D k h' F' N' => hret D k h' _ _ _ _ _ _ _ _ _ F' hz hy hx N'
end
section
open PySem PySem.W PyProof.Rows PySem.Calls
set_option maxRecDepth 100000
set_option maxHeartbeats 8000000
def kD (k : List Nat) (x : List Nat) : PyData := .tuple [.str (mkS k), .str (mkS x)]
def tD (t : Tb) : PyData := .list [kD [75] (t 0), kD [76] (t 1), kD [77] (t 2)]
theorem kD_ok {k x : List Nat} (hk : PlainL k) (hx : PlainL x) : PyData.canLay0 (kD k x) = true := by
  show (PyData.canLay0 (.str (mkS k)) && (PyData.canLay0 (.str (mkS x)) && true)) = true
  rw [plain_ok hk, plain_ok hx]
  rfl
theorem kD_eqv {k x : List Nat} : PyData.eqv (kD k x) (kD k x) = true := by
  show ((mkS k == mkS k) && ((mkS x == mkS x) && true)) = true
  simp
theorem tD_shaped {t : Tb} (h : ∀ i, i < 3 → PlainL (t i)) : SeqAt.shaped (tD t) = true := by
  have k0 : PlainL [75] := by unfold PlainL; decide
  have k1 : PlainL [76] := by unfold PlainL; decide
  have k2 : PlainL [77] := by unfold PlainL; decide
  have h0 := kD_ok k0 (h 0 (by decide))
  have h1 := kD_ok k1 (h 1 (by decide))
  have h2 := kD_ok k2 (h 2 (by decide))
  have e : PyData.canLay0 (tD t) = true := by
    show (PyData.canLay0 (kD [75] (t 0)) && (PyData.canLay0 (kD [76] (t 1)) && (PyData.canLay0 (kD [77] (t 2)) && true))) = true
    rw [h0, h1, h2]
    rfl
  unfold SeqAt.shaped
  rw [e]
  rfl
theorem tD_eqv {t : Tb} : PyData.eqv (tD t) (tD t) = true := by
  show (PyData.eqv (kD [75] (t 0)) (kD [75] (t 0)) && (PyData.eqv (kD [76] (t 1)) (kD [76] (t 1)) && (PyData.eqv (kD [77] (t 2)) (kD [77] (t 2)) && true))) = true
  rw [kD_eqv, kD_eqv, kD_eqv]
  rfl
theorem tD_reads {h₀ h : Heap} {L : Addr} {news : List (Addr × Obj)} {t : Tb} {D a0 a1 a2 : Addr} {k : Nat} {k0 k1 k2 v0 v1 v2 : Tok} (N : News h₀ L h news) (hD : (D, listOf #[.ref a0, .ref a1, .ref a2] k) ∈ news)
   (h0 : (a0, { cls := .type "tuple", data := .seq #[.str (mkS [75]) k0, .str (mkS (t 0)) v0] }) ∈ news) (h1 : (a1, { cls := .type "tuple", data := .seq #[.str (mkS [76]) k1, .str (mkS (t 1)) v1] }) ∈ news)
   (h2 : (a2, { cls := .type "tuple", data := .seq #[.str (mkS [77]) k2, .str (mkS (t 2)) v2] }) ∈ news) : ∃ as, Reads h (.ref D) (tD t) as := by
  have r0 : Reads h (.ref a0) (kD [75] (t 0)) _ := .tuple (N _ h0).1 rfl rfl (.cons (.str _ _) (.cons (.str _ _) .nil))
  have r1 : Reads h (.ref a1) (kD [76] (t 1)) _ := .tuple (N _ h1).1 rfl rfl (.cons (.str _ _) (.cons (.str _ _) .nil))
  have r2 : Reads h (.ref a2) (kD [77] (t 2)) _ := .tuple (N _ h2).1 rfl rfl (.cons (.str _ _) (.cons (.str _ _) .nil))
  exact ⟨_, .list (N _ hD).1 rfl rfl (.cons r0 (.cons r1 (.cons r2 .nil)))⟩
theorem tab_eq {prog : Program} {w : World} {A : Around} {E : Value → Shared → Prop} {s : Shared} {h₀ : Heap} {L : Addr} {news : List (Addr × Obj)} {t : Tb} {D D' a0 a1 a2 b0 b1 b2 : Addr} {k k' : Nat} {k0 k1 k2 v0 v1 v2 l0 l1 l2 u0 u1 u2 : Tok} {Q : Value → Shared → Prop} (N : News h₀ L s.heap news) (hD : (D, listOf #[.ref a0, .ref a1, .ref a2] k) ∈ news)
   (h0 : (a0, { cls := .type "tuple", data := .seq #[.str (mkS [75]) k0, .str (mkS (t 0)) v0] }) ∈ news) (h1 : (a1, { cls := .type "tuple", data := .seq #[.str (mkS [76]) k1, .str (mkS (t 1)) v1] }) ∈ news)
   (h2 : (a2, { cls := .type "tuple", data := .seq #[.str (mkS [77]) k2, .str (mkS (t 2)) v2] }) ∈ news) (hD' : (D', listOf #[.ref b0, .ref b1, .ref b2] k') ∈ news)
   (g0 : (b0, { cls := .type "tuple", data := .seq #[.str (mkS [75]) l0, .str (mkS (t 0)) u0] }) ∈ news) (g1 : (b1, { cls := .type "tuple", data := .seq #[.str (mkS [76]) l1, .str (mkS (t 1)) u1] }) ∈ news)
   (g2 : (b2, { cls := .type "tuple", data := .seq #[.str (mkS [77]) l2, .str (mkS (t 2)) u2] }) ∈ news) (ht : ∀ i, i < 3 → PlainL (t i)) (hu : A.units + 64 < cLine) (h : Q (.bool true) s) : wpAny (model prog w) A (compareOp .Eq (.ref D) (.ref D')) Q E s := by
  obtain ⟨as, ra⟩ := tD_reads N hD h0 h1 h2
  obtain ⟨bs, rb⟩ := tD_reads N hD' g0 g1 g2
  refine eq_dataH ra rb (tD_shaped ht) (tD_shaped ht) hu ?_
  rw [tD_eqv]
  exact h
theorem held_now {B : SA} {js : Nat → Job} {od : List Nat} {P : List (Addr × Obj)} {S S' : SS} {nx : List (Addr × Obj)} {hl : Addr} (T : TieS B js od P S' nx) (e : B.lh = hl) (ht : ∀ i, i < 3 → S.tab i = S'.tab i) : ∃ (ts : Nat → Tok) (n : Nat), (hl, listOf (arr3 fun i => Value.str (mkS (S.tab i)) (ts i)) n) ∈ nx := by
  obtain ⟨ts, n, h⟩ := T.hh
  rw [e] at h
  refine ⟨ts, n, ?_⟩
  have e2 : (arr3 fun i => Value.str (mkS (S.tab i)) (ts i)) = (arr3 fun i => Value.str (mkS (S'.tab i)) (ts i)) := by
    unfold arr3
    dsimp only
    rw [ht 0 (by decide), ht 1 (by decide), ht 2 (by decide)]
  rw [e2]
  exact h
end
section
open PySem PySem.W PyProof.Rows PySem.Calls
set_option maxRecDepth 100000
set_option maxHeartbeats 8000000
local macro_rules | `(tactic| walk_at "subscriptTail") => `(tactic| ((with_reducible show wpAny _ _ (subscriptTail (PySem.Expr.List _ _) _ (Value.ref _) (Value.ref _)) _ _ _); refine kba_turn (value' := PySem.Expr.Name (PySem.Str.ofString "_") ⟨0, 0, 0, 0⟩) (fun _ => rfl) ?_; (with_reducible refine stop_in ?_)))
local macro_rules | `(tactic| walk_at "exec For Name Subscript cons nil") => `(tactic| (with_reducible refine stop_in ?_))
local macro_rules | `(tactic| walk_at "CompSrcT") => `(tactic| (refine stop_in ?_))
local macro_rules | `(tactic| walk_at "CompSrc") => `(tactic| (refine stop_in ?_))
local macro_rules | `(tactic| walk_at "KCiEl") => `(tactic| (refine kci_el ?kce (by with_unfolding_all rfl) (by with_unfolding_all rfl); (case kce => exact g1_yes (by assumption) (by assumption) (by assumption))))
local macro_rules | `(tactic| walk_at "KCiNo") => `(tactic| (refine kci_no ?kce (by with_unfolding_all rfl); (case kce => exact g1_no (by assumption) (by assumption) (by assumption))))
local macro_rules | `(tactic| walk_at "CompEnd") => `(tactic| (refine ci_end (by assumption) (by assumption) (by assumption) ?_))
local macro_rules | `(tactic| walk_at "KCfEl") => `(tactic| (refine kcf_el ?kce (by with_unfolding_all rfl) (by with_unfolding_all rfl); (case kce => first | exact g2_is _ _ | exact g3_is _ _)))
local macro_rules | `(tactic| walk_at "storeName") => `(tactic| ((with_reducible show wpAny _ _ (storeName _ (PySem.Str.ofString "v") _) _ _ _); (with_reducible refine stop_in ?_)))
local macro_rules | `(tactic| walk_at "subscriptTail Name Constant ref int") => `(tactic| ((with_reducible show wpAny _ _ (subscriptTail (PySem.Expr.Name (PySem.Str.ofString "drawn") _) _ _ _) _ _ _); (with_reducible refine stop_in ?_)))
local macro_rules | `(tactic| walk_at "eval ListComp") => `(tactic| ((with_reducible show wpAny _ _ (eval (PySem.Expr.ListComp (PySem.Expr.BinOp (PySem.Expr.BinOp (PySem.Expr.Subscript _ _ _) _ _ _) _ _ _) _ _ _) _) _ _ _); (with_reducible refine stop_in ?_)))
local macro_rules | `(tactic| walk_at "subscriptTail Name Constant ref int") => `(tactic| ((with_reducible show wpAny _ _ (subscriptTail (PySem.Expr.Name (PySem.Str.ofString "held") _) _ _ _) _ _ _); (rename TieS _ _ _ _ _ _ => hq9); (with_reducible refine stop_in ?_)))
local macro_rules | `(tactic| walk_at "call builtin:sorted") => `(tactic| ((rename TieS _ _ _ _ _ _ => hq9); (with_reducible refine stop_in ?_)))
local macro_rules | `(tactic| k_qdec) => `(tactic| decide +kernel)
theorem whole : PySem.Challenge.rw_wb0070_01.Holds := hd (by
  w_strict (
    k_go0
    (all_goals try k_fold)
    rename List Value => vs
    rename List Int => ns
    rename Heap.IsList _ _ _ => hLs
    rename IntsAre _ _ => hIs
    rename (¬ (_ : Int) < _) => h63
    have hn63 : ns.length ≤ 63 := by omega
    have hvl : vs.length = ns.length := hIs.length
    k_steps
    unfold Stop
    rename Fr _ _ _ _ => F1
    rename News _ _ _ _ => N1
    refine' kmk_slice_lit (zs := vs.take 4) F1 N1 (hLs.at fun o e => F1.keep _ o e) IsPart.none (IsPart.int _ _) ?y1 ?_ ?y2 ?y3 ?y4
    case y1 => exact pick_upto vs.toArray 4
    case y2 => with_unfolding_all rfl
    case y3 => kmk_pure
    case y4 => rw [sizeLine_eq, List.size_toArray]; omega
    intro D1 h4 F4 N4 l4
    clear F1 N1
    try k_sweep
    k_steps
    unfold Stop
    rename Fr _ _ _ _ => F1
    rename News _ _ _ _ => N1
    refine len_is (hLs.at fun o e => F1.keep _ o e) hvl (by omega) ?_
    intro tn kn hkn
    k_steps
    unfold Stop
    rename Fr _ _ _ _ => F1
    rename News _ _ _ _ => N1
    refine' kmk_slice_lit (zs := List.drop ns.length _) F1 N1 ⟨_, (N1 _ (List.mem_cons_self ..)).1, rfl, _, rfl⟩ (IsPart.int _ _) IsPart.none ?y1 ?_ ?y2 ?y3 ?y4
    case y1 => exact pick_from _ ns.length
    case y2 => with_unfolding_all rfl
    case y3 => kmk_pure
    case y4 => (show 4 ≤ sizeLine; decide)
    intro D2 h5 F5 N5 l5
    clear F1 N1
    try k_sweep
    k_steps
    unfold Stop
    rename Fr _ _ _ _ => F1
    rename News _ _ _ _ => N1
    obtain ⟨d0, d1, d2, d3, u0, u1, u2, u3, hdr⟩ := drawn_four hIs _ _ _ _
    have hdl : (vs.take 4).length ≤ 4 := by rw [List.length_take]; omega
    refine add_listsD (hsz := ?y5) F1 N1 ⟨_, (N1 _ (List.mem_cons_of_mem _ (List.mem_cons_of_mem _ (List.mem_cons_self ..)))).1, rfl, _, rfl⟩ ⟨_, (N1 _ (List.mem_cons_self ..)).1, rfl, _, rfl⟩ hdr ?_
    case y5 =>
      refine Nat.le_trans (Nat.add_le_add hdl (by rw [List.length_drop]; exact Nat.sub_le 4 _)) ?_
      decide
    intro D3 h6 F6 N6 l6
    (try k_lt l4)
    (try k_lt l5)
    (try k_lt l6)
    clear F1 N1 hdr hdl
    try k_sweep
    k_steps
    unfold Stop
    rename Fr _ _ _ _ => F1
    refine For_TF F1 ?_
    k_steps
    unfold Stop
    rename Fr _ _ _ _ => F1
    rename News _ _ _ _ => N1
    refine' kmk_slice_lit (zs := [.int d0 u0, .int d1 u1, .int d2 u2]) F1 N1 ⟨_, (N1 _ (List.mem_cons_of_mem _ (List.mem_cons_self ..))).1, rfl, _, rfl⟩ IsPart.none (IsPart.int _ _) ?y1 ?_ ?y2 ?y3 ?y4
    case y1 => exact pick_upto _ 3
    case y2 => with_unfolding_all rfl
    case y3 => kmk_pure
    case y4 => (show 4 ≤ sizeLine; decide)
    intro D4 h7 F7 N7 l7
    clear F1 N1
    try k_sweep
    k_steps
    rename Fr _ _ _ _ => F8
    rename News _ _ _ _ => N8
    obtain ⟨nw, enw, N0⟩ := news_gen N8
    have hall : ∀ p ∈ _, p ∈ nw := fun p hp => enw ▸ hp
    simp only [List.forall_mem_cons] at hall
    obtain ⟨hD4, hlj, hD3, _, _, _, hcv, hcd, _⟩ := hall
    simp only [List.forall_mem_cons] at l7
    obtain ⟨m1, _, _, _, _, m2, m3, _⟩ := l7
    obtain ⟨lj, rfl, hlj⟩ := ent_addr hlj
    obtain ⟨od, rfl, hcd⟩ := ent_obj hcd
    rename Shared => s1
    rename (@LT.lt Nat _ D3 lj ∧ _) => hq3
    have hD3lj : D3 ≠ lj := Nat.ne_of_lt hq3.1
    rename Obj.data od = _ => hodd
    refine' loop_listI (items := #[.int d0 u0, .int d1 u1, .int d2 u2]) (fun j m₁ nx => m₁ (Str.ofString "jobs") = some (.ref lj) ∧ (∃ oc v₀, (s1.heap.objs.size + 1 + 1, oc) ∈ nx ∧ oc.data = .cell v₀) ∧ (s1.heap.objs.size + 1, od) ∈ nx ∧ (D3, listOf #[.int d0 u0, .int d1 u1, .int d2 u2, .int d3 u3] 0) ∈ nx ∧ ∃ jt ji jd, JobsAt lj (three d0 d1 d2) j jt ji jd nx) ?a1 ?a2 ?a3 ?a4 ?a5 ?a6 ?a7 ?a8 ?step ?done
    case a5 => exact F8
    case a6 => exact N0
    case a1 => rfl
    case a2 => exact ⟨_, (N0 _ hD4).1, rfl, _, rfl⟩
    case a3 => exact (N0 _ hD4).2.1
    case a4 => walk_at "tpos"
    case a7 =>
      refine ⟨by rfl, ⟨_, _, hcv, by assumption⟩, hcd, hD3, fun _ => 0, fun _ => 0, fun _ => 0, ⟨⟨_, hlj⟩, ?_, ?_, ?_, ?_⟩⟩ <;> (intro w hw; exact absurd hw (Nat.not_lt_zero _))
    case a8 => exact ⟨_, _, rfl⟩
    case step =>
      intro j v m₁ nx own h tk htk1 hv ⟨p1, ⟨oc, v₀, hoc, hocd⟩, hod, hD3', jt, ji, jd, J⟩ hoff hown hI F2 N2
      obtain ⟨hj3, d, td, hde, rfl⟩ := three_at hv
      dsimp only [envOfC] at F2 N2
      replace F2 := fr_pins F2 [(_, _)] (all1 p1 all0)
      dsimp only [kstB] at F2
      have hocN := List.mem_append_right own hoc
      obtain ⟨nlj, hlj0⟩ := J.hj
      have hljN := List.mem_append_right own hlj0
      have hcne : ∀ (a : Addr) (o : Obj) (xs : Array Value) (n : Nat), (a, o) ∈ own ++ nx → o.data = .seq xs n → a ≠ s1.heap.objs.size + 1 + 1 := fun a o xs n hm ho => cell_ne N2 hocN hocd hm ho
      have htne : ∀ (a : Addr) (xs : Array Value), (a, { cls := .type "tuple", data := .seq xs }) ∈ own ++ nx → a ≠ lj := fun a xs hm => tup_ne N2 hm hljN
      have hcdl : lj ≠ s1.heap.objs.size + 1 := cell_ne N2 (List.mem_append_right own hod) hodd hljN rfl
      clear F8 N8 N0 enw hv
      show wpAny _ _ _ _ _ _
      k_fold
      k_steps
      unfold Stop
      rename Fr _ _ _ _ => F3
      rename News _ _ _ _ => N3
      refine store_O F3 N3 hocN hocd (by rfl) ?_ (by rfl) (by rfl)
      intro h3 o3 ho3 F4 N4
      have hc3 := putA_eq (o' := o3) hocN
      have hl3 := putA_ne (o' := o3) (hcne _ _ _ _ hljN rfl) hljN
      obtain ⟨nb, enb, N5⟩ := news_gen N4
      rw [enb] at hc3 hl3
      clear F3 N3 N4
      try k_sweep
      k_steps
      unfold Stop
      refine LCt.CompSrcT.range (by rfl) (by k_asm) (by k_asm) (by assumption) (by decide) (by rfl : _ = ((3 : Nat) : Int)) (by exact Nat.le_of_ble_eq_true rfl) ?_
      intro g'
      refine' kci_range (G1 d) (fun k' t' I' oI' C' oC' D' m' ys' l' h' tk' E' hlo' hhi' hI' hC' hx' F' N' off' ne' => ?_) ?_ (g1_grows _)
      · (show KPfMark → _)
        intro hMark'
        k_fold
        k_steps
      intro ys hy hl
      rw [items_is] at hy
      k_steps
      unfold Stop
      rename News _ _ _ _ => N1
      have hit := items_ok d
      have hil : ys.length = (itemsOf d).length := by rw [hy.length, List.length_map]
      refine len_is ⟨_, (N1 _ (List.mem_cons_self ..)).1, rfl, _, rfl⟩ hil (by omega) ?_
      intro tn kn hkn
      k_steps
      unfold Stop
      refine LCg.CompSrc.range (n := 2 * (itemsOf d).length) (by rfl) (by k_asm) (by k_asm) (by assumption) (small_one (by omega) (by omega) (by omega) (by omega)) (by exact rangeSize_nat _ _) (by rw [PySem.sizeLine_eq]; omega) ?_
      intro g'
      refine' kcf_range (g2 d) (fun k' t' I' oI' C' oC' D' m' ys' h' tk' E' hlo' hhi' hC' hx' F' N' off' ne' hMark' => ?_) ?_
      · k_fold
        k_steps
        all_goals (exfalso; exact pow4_ne _ (by assumption))
      intro zs hz
      rw [deeds_is] at hz
      k_steps
      unfold Stop
      rename Fr _ _ _ _ => F3
      rename News _ _ _ _ => N3
      rename (_ ≠ _ ∧ LCg.Off1 _ _) => hoD
      rename (LCg.Off1 _ nb) => hoI
      rename (_ < _ ∧ _ < _ ∧ AllLt _ nb) => hlT
      obtain ⟨hneD, hoD⟩ := hoD
      obtain ⟨_, _, hlT⟩ := hlT
      refine append_O F3 N3 (List.mem_cons_of_mem _ (List.mem_cons_of_mem _ (List.mem_cons_of_mem _ hl3))) (by rw [List.size_toArray, List.length_map, List.length_range]; omega) ?_
      intro h8 F8 N8
      clear F3 N3
      try k_sweep
      k_steps
      have hownk : ∀ p ∈ own, p.1 ≠ s1.heap.objs.size + 1 + 1 ∧ p.1 ≠ lj := fun p hp => by
        rcases hown p hp with q | q
        · exact ⟨fun e => hoff _ hoc (e.symm.trans q), fun e => hoff _ hlj0 (e.symm.trans q)⟩
        · exact ⟨fun e => absurd m2 (by rw [← q, e]; exact Nat.lt_irrefl _), fun e => absurd m1 (by rw [← q, e]; exact Nat.lt_irrefl _)⟩
      have r := jobs_turn J hoc hod hD3' enb hcne htne hownk hI hoff (Ne.symm (hcne _ _ _ _ hljN rfl)) ⟨Nat.ne_of_lt (Nat.lt_succ_self _), Ne.symm hcdl⟩ ⟨hcne _ _ _ _ (List.mem_append_right own hD3') rfl, hD3lj⟩ hl3 hoI hoD hlT (by rw [hde]; exact hy) (by rw [hde]; exact hz)
      dsimp only at r
      obtain ⟨r1, r2, r3, r4, r5⟩ := r
      exact ⟨_, _, _, _, rfl, F8, own_news N8 r1, (fun p hp hq => by have := (List.mem_filter.mp hp).2; rw [List.mem_singleton.mp hq] at this; simp at this), rfl, ⟨_, _, r2, ho3⟩, r3, r4, _, _, _, r5⟩
    case done =>
      intro h' tk m' nx htk1 F2 N2 ⟨p1, ⟨oc, v₀, hoc, hocd⟩, hod, hD3', jt, ji, jd, J⟩
      dsimp only [envOfC] at F2 N2
      replace F2 := fr_pins F2 [(_, _)] (all1 p1 all0)
      dsimp only [kstB] at F2
      clear F8 N8 N0 enw
      dsimp only
      k_steps
      unfold Stop
      rename Fr _ _ _ _ => F3
      rename News _ _ _ _ => N3
      rw [sK, sL, sM, sa, sb, sc] at N3
      rename (_ < _ ∧ _ < _ ∧ _ < _ ∧ _ < _ ∧ AllLt _ nx) => hq9
      obtain ⟨_, _, _, hq9a, hq9b⟩ := hq9
      refine' (c_table _ _ _ _ _ _ _ _ _ _ _ _ _ _ _) _ _ _ _ _ _ _ _ _ _ _ _ _ _ _ _ _ ?B ?F ?X N3 ?T ?hk ?htk ?hdp ?hun ?_
      (((case B => k_asm); (case F => k_asm); (case X => k_asm); (case T => k_asm); (case hk => first | exact rfl | assumption); (case htk => walk_at "tpos"); (case hdp => first | exact room_d (by assumption) (by decide) | ktr_room); (case hun => first | exact room_u (by assumption) (by decide) | ktr_units); k_whole))
      intro xt dxt nt hsht tkt nw9 h9 tk9 F9 N9 H9 hsub9 htk9
      have hod9 := hsub9 _ (List.mem_cons_of_mem _ hod)
      have hD39 := hsub9 _ (List.mem_cons_of_mem _ hD3')
      have hhl9 := hsub9 _ (List.mem_cons_self ..)
      obtain ⟨hl, rfl, hhl9⟩ := ent_addr hhl9
      have hhl8 : ∃ ts : Nat → Tok, (hl, listOf (arr3 fun i => Value.str (mkS (t0f i)) (ts i)) 0) ∈ nw9 := ⟨three _ _ _, hhl9⟩
      obtain ⟨tsh, hhl8⟩ := hhl8
      obtain ⟨tl, rfl, _⟩ := ent_addr H9.list
      have J9 := J.mono (fun p hp => hsub9 p (List.mem_cons_of_mem _ hp))
      clear F3 N3
      try dsimp only
      try k_sweep
      k_steps
      unfold Stop
      refine wpAny_with_toks (n := 1) (by walk_at "tpos") ?_
      k_dflt (refine LCg.ListComp_U (F₀ := by k_asm) (by with_unfolding_all rfl) (by decide) (by rfl) (by decide) (by rfl) ?_)
      k_steps
      unfold Stop
      refine LCg.CompSrc.range (n := 12) (by rfl) (by k_asm) (by k_asm) (by assumption) (by decide) (by rfl) (by exact Nat.le_of_ble_eq_true rfl) ?_
      intro g'
      refine' kcf_range (g3 d3) (fun k' t' I' oI' C' oC' D' m' ys' h' tk' E' hlo' hhi' hC' hx' F' N' off' ne' hMark' => ?_) ?_
      · k_fold
        k_steps
        unfold Stop
        rename News _ _ _ _ => N1
        refine item_list (x := .int d3 u3) ⟨_, (N1 _ (List.mem_cons_of_mem _ (List.mem_cons_of_mem _ (List.mem_cons_of_mem _ hD39)))).1, rfl, _, rfl⟩ (by decide) (by decide) (by rfl) ?_
        k_steps
        all_goals (exfalso; exact pow3_ne _ (by assumption))
      intro ts hts
      rw [turns_is] at hts
      unfold LCg.FinE
      intro lt h10 k10 F10 N10 o10 hk10
      try dsimp only
      try k_sweep
      k_steps
      unfold Stop
      rename Fr _ _ _ _ => F3
      rename News _ _ _ _ => N3
      refine' (c_run _ _ _ _ _ [(hl, listOf (arr3 fun i => Value.str (mkS (t0f i)) (tsh i)) 0)] (fun w => jobOf (three d0 d1 d2 w)) (turnsOf d3) t0f (fun w _ => job_ok _) (turns_ok d3) (fit0 _) lj lt xt dxt tl jt ji jd ?hsep ?hPn ?htb ?hj ?hjt ?hji ?hjd ?h12) _ _ _ _ _ _ _ _ _ _ _ _ _ _ _ _ _ ?B ?F ?X N3 ?T ?hk ?htk ?hdp ?hun ?_
      case htb => exact ⟨_, _, _, _, _, ⟨List.mem_cons_of_mem _ H9.inst, List.mem_cons_of_mem _ H9.dict, List.mem_cons_of_mem _ H9.list, fun e he => ⟨List.mem_cons_of_mem _ (H9.ents e he).1, (H9.ents e he).2⟩⟩, es0_perm, es0_fnd⟩
      case h12 => exact ⟨_, _, List.mem_cons_self .., hts⟩
      case hj => obtain ⟨n, h⟩ := J9.hj; exact ⟨n, List.mem_cons_of_mem _ h⟩
      case hjt => exact fun w hw => List.mem_cons_of_mem _ (J9.hjt w hw)
      case hji => exact fun w hw => by obtain ⟨l, n, h, r⟩ := J9.hji w hw; exact ⟨l, n, List.mem_cons_of_mem _ h, r⟩
      case hjd => exact fun w hw => by obtain ⟨l, n, h, r⟩ := J9.hjd w hw; exact ⟨l, n, List.mem_cons_of_mem _ h, r⟩
      case hPn =>
        intro p hp
        rw [List.mem_singleton.mp hp]
        exact ⟨Nat.ne_of_lt hq9a, List.mem_cons_of_mem _ hhl8⟩
      case hsep =>
        have q : ∀ a : Addr, (∃ o, (a, o) ∈ nx) → @LT.lt Nat _ a _ := fun a ⟨o, h⟩ => allLt_mem hq9b _ h
        refine ⟨?_, ?_, fun w hw => ⟨?_, ?_⟩⟩
        · obtain ⟨n, h⟩ := J.hj; exact Nat.ne_of_gt (q _ ⟨_, h⟩)
        · exact off1_mem o10 _ H9.list
        · obtain ⟨l, n, h, _⟩ := J.hji w hw; exact Nat.ne_of_gt (q _ ⟨_, h⟩)
        · obtain ⟨l, n, h, _⟩ := J.hjd w hw; exact Nat.ne_of_gt (q _ ⟨_, h⟩)
      (((case B => k_asm); (case F => k_asm); (case X => k_asm); (case T => k_asm); (case hk => first | exact rfl | assumption); (case htk => walk_at "tpos"); (case hdp => first | exact room_d (by assumption) (by decide) | ktr_room); (case hun => first | exact room_u (by assumption) (by decide) | ktr_units); k_whole))
      intro D A nx2 h11 tk11 eA1 eA2 eA3 TA F11 N11 htk11
      clear F3 N3
      try dsimp only
      try k_sweep
      k_steps
      have hO : ∀ w, w < 3 → (jobOf (three d0 d1 d2 w)).Ok := fun w _ => job_ok _
      have hend := at_end (st_inv hO (turns_ok d3) 66) hO (fit0 _) (st_end (t0 := t0f) hO (turns_ok d3))
      have hfit := st_fit hO (turns_ok d3) (fit0 _) 66
      generalize st (fun w => jobOf (three d0 d1 d2 w)) (turnsOf d3) t0f 66 = S at TA hend hfit
      obtain ⟨ho, ht, hvv⟩ := hend
      obtain ⟨vo, no, hmo, hio⟩ := TA.hord
      rename Fr _ _ _ _ => F3
      rename News _ _ _ _ => N3
      refine kso_sorted F3 N3 ⟨_, (N3 _ (List.mem_cons_of_mem _ hmo)).1, rfl, _, rfl⟩ hio (by rw [List.length_map, ho.length_eq]; decide) ?_
      intro D5 vs5 ns5 c5 h12 F12 N12 l12 hi5 _ hp5 hs5 _
      obtain ⟨rfl, w0, w1, w2, rfl⟩ := ord_list ho hp5 hs5 hi5
      clear F3 N3
      try dsimp only
      try k_sweep
      k_steps
      all_goals first
      | (exfalso; rename (¬ _ = _) => hq; exact hq rfl)
      | skip
      unfold Stop
      rename Fr _ _ _ _ => F3
      rename News _ _ _ _ => N3
      have hhl2 := (TA.hP _ (List.mem_singleton.mpr rfl)).2
      have N4 := cb_drop N3 (fun p (hp : p ∈ nx2) => List.mem_cons_of_mem _ (List.mem_cons_of_mem _ (List.mem_cons_of_mem _ hp)))
      have hjA := TA.hj
      rw [eA1] at hjA
      have hlvne : hl ≠ A.lv := by obtain ⟨n, h⟩ := TA.hv; exact held_refs N4 hhl2 h
      refine' (c_serial _ _ _ _ nx2 (nx2.filter fun p => p.1 != hl) (fun w => jobOf (three d0 d1 d2 w)) S.ord t0f hO (ord_ok ho) (fit0 _) lj A.lo hl A.jt A.ji A.jd ?hsep ?hPn ?hh ?hj ?hjt ?hji ?hjd ?hord) _ _ _ _ _ _ _ _ _ _ _ _ _ _ _ _ _ ?B ?F ?X N4 ?T ?hk ?htk ?hdp ?hun ?_
      case hPn => exact fun p hp => ⟨by have := (List.mem_filter.mp hp).2; simpa using this, (List.mem_filter.mp hp).1⟩
      case hh => exact ⟨_, _, hhl2⟩
      case hj => exact hjA
      case hjt => exact TA.hjt
      case hji => exact TA.hji
      case hjd => exact TA.hjd
      case hord => exact TA.hord
      case hsep =>
        refine ⟨?_, ?_, fun w hw => ⟨?_, ?_⟩⟩
        · obtain ⟨n, h⟩ := hjA; exact held_refs N4 hhl2 h
        · exact held_ints N4 hhl2 hmo hio
        · obtain ⟨l, n, h, r⟩ := TA.hji w hw; exact held_ints N4 hhl2 h r
        · obtain ⟨l, n, h, r⟩ := TA.hjd w hw; exact held_ints N4 hhl2 h r
      (((case B => k_asm); (case F => k_asm); (case X => k_asm); (case T => k_asm); (case hk => first | exact rfl | assumption); (case htk => walk_at "tpos"); (case hdp => first | exact room_d (by assumption) (by decide) | ktr_room); (case hun => first | exact room_u (by assumption) (by decide) | ktr_units); k_whole))
      have hhlt := (TA.hP _ (List.mem_singleton.mpr rfl)).1
      obtain ⟨est, hsht2, tkt2, nt2, nnt2, Ht, hpt, hft⟩ := TA.htb
      rw [eA3] at Ht
      have Ht3f : ∀ nx' : List (Addr × Obj), (∀ p ∈ nx2, p.1 ≠ hl → p ∈ nx') → HdrAt nx' xt A.dxt A.lt est hsht2 tkt2 nt2 nnt2 := fun nx' hk => Ht.keep N4 hhl2 (fun e => hhlt (e ▸ mem_tg (.inl rfl))) hk
      intro B nx3 h13 tk13 eB1 eB2 eB3 TB F13 N13 htk13
      clear F3 N3 N4
      try dsimp only
      try k_sweep
      k_steps
      have hcarry : ∀ p ∈ nx2, p.1 ≠ hl → p ∈ nx3 := fun p hp hne => (TB.hP p (List.mem_filter.mpr ⟨hp, by simpa using hne⟩)).2
      obtain ⟨tsn, nhn, hh3⟩ := held_now TB eB1 ht
      have Ht3 := Ht3f nx3 hcarry
      have hxt3 := Ht3.inst
      have hdt3 := Ht3.dict
      obtain ⟨nlv, hlv2⟩ := TA.hv
      have hlv3 := hcarry _ hlv2 (fun e => hlvne e.symm)
      obtain ⟨nlw, hlw3⟩ := TB.hv
      refine vals_ne (V := S.vals) N13 hlv3 ?va hlw3 ?vb ?vp ?vu ?_
      case va =>
        intro w hw
        obtain ⟨l, n, h, r⟩ := TA.hvs w hw
        exact ⟨l, n, hcarry _ h (fun e => hhlt (e ▸ mem_tg (.inr (.inr (.inr (.inr ⟨w, hw, rfl⟩)))))), r⟩
      case vb =>
        intro w hw
        obtain ⟨l, n, h, r⟩ := TB.hvs w hw
        exact ⟨l, n, h, by rw [hvv w hw]; exact r⟩
      case vp => exact fun w hw x hx => ((hfit.vlen w hw).2.2 x hx).2
      case vu => ktr_units
      k_steps
      unfold Stop
      rename Fr _ _ _ _ => F3
      rename News _ _ _ _ => N3
      have hle3 : est.length = 3 := by have := hpt.length_eq; rw [List.length_map] at this; exact this
      refine' (c_items _ _ _ _ nx3 xt A.dxt A.lt est hsht2 tkt2 nt2 nnt2 Ht3 (by rw [refs_len]; omega)) _ _ _ _ _ _ _ _ _ _ _ _ _ _ _ _ _ ?B ?F ?X N3 ?T ?hk ?htk ?hdp ?hun ?_
      (((case B => k_asm); (case F => k_asm); (case X => k_asm); (case T => k_asm); (case hk => first | exact rfl | assumption); (case htk => walk_at "tpos"); (case hdp => first | exact room_d (by assumption) (by decide) | ktr_room); (case hun => first | exact room_u (by assumption) (by decide) | ktr_units); k_whole))
      intro ln nl h14 tk14 F14 N14 l14 htk14
      clear F3 N3
      try dsimp only
      try k_sweep
      k_steps
      unfold Stop
      rename TieS _ _ _ _ _ _ => TB
      rename Fr _ _ _ _ => F3
      rename News _ _ _ _ => N3
      refine sort_tab (by assumption) hpt hft (fun e he => (Ht3.ents e he).1) F3 N3 ?_
      intro D6 c6 h15 a0 a1 a2 k0 k1 k2 v0 v1 v2 F15 ha0 ha1 ha2 N15
      clear F3 N3
      try dsimp only
      try k_sweep
      k_steps
      unfold Stop
      rename News _ _ _ _ => N3
      refine item_list (x := .str (mkS (S.tab 0)) (tsn 0)) ⟨_, (N3 _ (List.mem_cons_of_mem _ hh3)).1, rfl, _, rfl⟩ (by decide) (by decide) (by rfl) ?_
      k_steps
      unfold Stop
      rename News _ _ _ _ => N3
      refine item_list (x := .str (mkS (S.tab 1)) (tsn 1)) ⟨_, (N3 _ (List.mem_cons_of_mem _ (List.mem_cons_of_mem _ hh3))).1, rfl, _, rfl⟩ (by decide) (by decide) (by rfl) ?_
      k_steps
      unfold Stop
      rename News _ _ _ _ => N3
      refine item_list (x := .str (mkS (S.tab 2)) (tsn 2)) ⟨_, (N3 _ (List.mem_cons_of_mem _ (List.mem_cons_of_mem _ (List.mem_cons_of_mem _ hh3)))).1, rfl, _, rfl⟩ (by decide) (by decide) (by rfl) ?_
      k_steps
      rename News _ _ _ _ => N3
      rw [sK, sL, sM] at N3
      refine tab_eq (t := S.tab) N3 (List.mem_cons_of_mem _ (List.mem_cons_of_mem _ (List.mem_cons_of_mem _ (List.mem_cons_of_mem _ (List.mem_cons_self ..))))) (List.mem_cons_of_mem _ (List.mem_cons_of_mem _ (List.mem_cons_of_mem _ (List.mem_cons_of_mem _ (List.mem_cons_of_mem _ ha0))))) (List.mem_cons_of_mem _ (List.mem_cons_of_mem _ (List.mem_cons_of_mem _ (List.mem_cons_of_mem _ (List.mem_cons_of_mem _ ha1))))) (List.mem_cons_of_mem _ (List.mem_cons_of_mem _ (List.mem_cons_of_mem _ (List.mem_cons_of_mem _ (List.mem_cons_of_mem _ ha2))))) (List.mem_cons_self ..) (List.mem_cons_of_mem _ (List.mem_cons_of_mem _ (List.mem_cons_of_mem _ (List.mem_cons_self ..)))) (List.mem_cons_of_mem _ (List.mem_cons_of_mem _ (List.mem_cons_self ..))) (List.mem_cons_of_mem _ (List.mem_cons_self ..)) hfit.pl ?vu ?_
      case vu => ktr_units
      k_steps
    ))
end
end Mine
end
set_option maxRecDepth 100000 in
set_option maxHeartbeats 8000000 in
theorem PySem.Challenge.cw_wb0070_01_holds : PySem.Challenge.rw_wb0070_01.Holds := by
  exact Mine.whole
