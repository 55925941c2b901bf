import PyProof.Rows.All
import Wide.All
import OpenK.AllK
import Wide.FinOn
import PySem.Challenge.RW_mq0473_01
open PySem PySem.W PyProof.Rows PySem.Calls
set_option Elab.async false

namespace Mine
/-! ## The plain law: words, cuts, borders (no program in sight) -/
/-- a repeat by r about the cut c of w -/
def Ok (w : List Int) (c r : Nat) : Prop := ∀ k, c ≤ k + r → k < c → k + r < w.length → w[k]? = w[k + r]?
def Per (w : List Int) (p : Nat) : Prop := ∀ k, k + p < w.length → w[k]? = w[k + p]?

def Lt (g : Bool) (a b : Int) : Prop := if g then a < b else b < a
def Le (g : Bool) : List Int → List Int → Prop
  | [], _ => True
  | _ :: _, [] => False
  | a :: x, b :: y => Lt g a b ∨ (a = b ∧ Le g x y)

theorem Le.refl (g : Bool) : ∀ x, Le g x x
  | [] => trivial
  | _ :: x => .inr ⟨rfl, Le.refl g x⟩
theorem Lt.trans {g : Bool} {a b c : Int} (h : Lt g a b) (h' : Lt g b c) : Lt g a c := by
  cases g <;> simp [Lt] at * <;> omega
theorem Lt.irrefl {g : Bool} {a : Int} (h : Lt g a a) : False := by
  cases g <;> simp [Lt] at *
theorem Le.total (g : Bool) : ∀ x y, Le g x y ∨ Le g y x
  | [], _ => .inl trivial
  | _ :: _, [] => .inr trivial
  | a :: x, b :: y => by
    rcases Int.lt_trichotomy a b with h | h | h
    · cases g
      · exact .inr (.inl (by simpa [Lt] using h))
      · exact .inl (.inl (by simpa [Lt] using h))
    · rcases Le.total g x y with q | q
      · exact .inl (.inr ⟨h, q⟩)
      · exact .inr (.inr ⟨h.symm, q⟩)
    · cases g
      · exact .inl (.inl (by simpa [Lt] using h))
      · exact .inr (.inl (by simpa [Lt] using h))
theorem Le.trans {g : Bool} : ∀ {x y z}, Le g x y → Le g y z → Le g x z
  | [], _, _, _, _ => trivial
  | _ :: _, [], _, h, _ => nomatch h
  | _ :: _, _ :: _, [], _, h => nomatch h
  | a :: x, b :: y, c :: z, h, h' => by
    rcases h with h | ⟨rfl, h⟩ <;> rcases h' with h' | ⟨rfl, h'⟩
    · exact .inl (h.trans h')
    · exact .inl h
    · exact .inl h'
    · exact .inr ⟨rfl, Le.trans h h'⟩
theorem Le.antisymm {g : Bool} : ∀ {x y}, Le g x y → Le g y x → x = y
  | [], [], _, _ => rfl
  | [], _ :: _, _, h => nomatch h
  | _ :: _, [], h, _ => nomatch h
  | a :: x, b :: y, h, h' => by
    rcases h with h | ⟨rfl, h⟩ <;> rcases h' with h' | ⟨e, h'⟩
    · exact (h.trans h').irrefl.elim
    · subst e; exact h.irrefl.elim
    · exact h'.irrefl.elim
    · rw [Le.antisymm h h']
theorem Le.app {g : Bool} {x y : List Int} : ∀ {z : List Int}, Le g (z ++ x) (z ++ y) → Le g x y
  | [], h => h
  | a :: z, h => by
    rcases h with h | ⟨_, h⟩
    · exact h.irrefl.elim
    · exact Le.app (z := z) h
theorem Le.pre (g : Bool) (x y : List Int) : Le g x (x ++ y) := by
  induction x with
  | nil => trivial
  | cons a x ih => exact .inr ⟨rfl, ih⟩
theorem Le.both {g : Bool} : ∀ {x y}, Le g x y → Le (!g) x y → ∃ t, y = x ++ t
  | [], y, _, _ => ⟨y, rfl⟩
  | _ :: _, [], h, _ => nomatch h
  | a :: x, b :: y, h, h' => by
    rcases h with h | ⟨rfl, h⟩ <;> rcases h' with h' | ⟨e, h'⟩
    · exfalso
      cases g <;> simp [Lt] at * <;> omega
    · subst e; exact h.irrefl.elim
    · exact h'.irrefl.elim
    · obtain ⟨t, rfl⟩ := Le.both h h'
      exact ⟨t, rfl⟩

theorem exMax (g : Bool) (f : Nat → List Int) : ∀ m, 1 ≤ m → ∃ i, i < m ∧ ∀ j, j < m → Le g (f j) (f i)
  | 0, h => by omega
  | 1, _ => ⟨0, by omega, fun j hj => by
      have : j = 0 := by omega
      subst this; exact Le.refl g _⟩
  | m + 2, _ => by
    obtain ⟨i, hi, h⟩ := exMax g f (m + 1) (by omega)
    rcases Le.total g (f (m + 1)) (f i) with q | q
    · refine ⟨i, by omega, fun j hj => ?_⟩
      by_cases e : j = m + 1
      · subst e; exact q
      · exact h j (by omega)
    · refine ⟨m + 1, by omega, fun j hj => ?_⟩
      by_cases e : j = m + 1
      · subst e; exact Le.refl g _
      · exact (h j (by omega)).trans q

def Top (g : Bool) (w : List Int) (i : Nat) : Prop := i < w.length ∧ ∀ j, j < w.length → Le g (w.drop j) (w.drop i)
theorem Top.le {g : Bool} {w : List Int} {i : Nat} (h : Top g w i) (j : Nat) : Le g (w.drop j) (w.drop i) := by
  by_cases q : j < w.length
  · exact h.2 j q
  · rw [List.drop_eq_nil_of_le (by omega)]; trivial
theorem exTop (g : Bool) {w : List Int} (h : 1 ≤ w.length) : ∃ i, Top g w i :=
  exMax g (fun j => w.drop j) w.length h

/-- two cuts of w that agree for m places -/
theorem drop_split {w : List Int} {a b m : Nat} (h : ∀ k, k < m → w[a + k]? = w[b + k]?) : (w.drop a).take m = (w.drop b).take m := by
  apply List.ext_getElem?
  intro k
  rw [List.getElem?_take, List.getElem?_take]
  by_cases q : k < m
  · rw [if_pos q, if_pos q, List.getElem?_drop, List.getElem?_drop]; exact h k q
  · rw [if_neg q, if_neg q]
theorem drop_at {w : List Int} (a m : Nat) : w.drop a = (w.drop a).take m ++ w.drop (a + m) := by
  rw [← List.drop_drop, List.take_append_drop]

theorem top_lt {g : Bool} {w : List Int} {i r : Nat} (h : Top g w i) (hr : 1 ≤ r) (ho : Ok w i r) : i < r := by
  by_cases q : i < r
  · exact q
  exfalso
  have hi := h.1
  by_cases q2 : i + r ≤ w.length
  · have e : (w.drop (i - r)).take r = (w.drop i).take r := by
      refine drop_split fun k hk => ?_
      have := ho (i - r + k) (by omega) (by omega) (by omega)
      rw [this]; congr 1; omega
    have l1 := h.le (i - r)
    rw [drop_at (w := w) (i - r) r, e, show i - r + r = i by omega] at l1
    rw [drop_at (w := w) i r] at l1
    have l1' : Le g ((w.drop i).take r ++ w.drop i) ((w.drop i).take r ++ w.drop (i + r)) := by
      have e2 : w.drop i = (w.drop i).take r ++ w.drop (i + r) := drop_at i r
      rw [← e2]
      have l0 := h.le (i - r)
      rw [drop_at (w := w) (i - r) r, e, show i - r + r = i by omega] at l0
      exact l0
    have l2 := l1'.app
    have l3 := h.le (i + r)
    have e3 := congrArg List.length (l2.antisymm l3)
    simp only [List.length_drop] at e3
    omega
  · have e : (w.drop (i - r)).take (w.length - i) = (w.drop i).take (w.length - i) := by
      refine drop_split fun k hk => ?_
      have := ho (i - r + k) (by omega) (by omega) (by omega)
      rw [this]; congr 1; omega
    have e2 : (w.drop i).take (w.length - i) = w.drop i := List.take_of_length_le (by simp)
    have l1 := h.le (i - r)
    have e3 : w.drop (i - r) = w.drop i ++ w.drop (i - r + (w.length - i)) := by
      have := drop_at (w := w) (i - r) (w.length - i)
      rw [e, e2] at this
      exact this
    have l2 : Le g (w.drop i) (w.drop (i - r)) := by rw [e3]; exact Le.pre g _ _
    have e4 := congrArg List.length (l1.antisymm l2)
    simp only [List.length_drop] at e4
    omega

theorem top_per {g : Bool} {w : List Int} {i i' r : Nat} (h : Top g w i) (h' : Top (!g) w i') (hii : i' ≤ i) (hr : 1 ≤ r) (ho : Ok w i r) : Per w r := by
  have hlt := top_lt h hr ho
  intro k hk
  by_cases q : w.length ≤ i + r
  · exact ho k (by omega) (by omega) hk
  by_cases q2 : k < i
  · exact ho k (by omega) q2 hk
  have e : (w.drop i').take (i - i') = (w.drop (i' + r)).take (i - i') := by
    refine drop_split fun k hk => ?_
    have := ho (i' + k) (by omega) (by omega) (by omega)
    rw [this]; congr 1; omega
  have l1 := h.le (i + r)
  have l2 := h'.le (i' + r)
  rw [drop_at (w := w) (i' + r) (i - i'), drop_at (w := w) i' (i - i'), e, show i' + (i - i') = i by omega, show i' + r + (i - i') = i + r by omega] at l2
  obtain ⟨t, ht⟩ := l1.both l2.app
  have e5 : (w.drop i)[k - i]? = (w.drop (i + r))[k - i]? := by
    rw [ht, List.getElem?_append_left (by simp only [List.length_drop]; omega)]
  rw [List.getElem?_drop, List.getElem?_drop] at e5
  rw [show i + (k - i) = k by omega, show i + r + (k - i) = k + r by omega] at e5
  exact e5

theorem Per.ok {w : List Int} {p : Nat} (h : Per w p) (c : Nat) : Ok w c p := fun k _ _ hk => h k hk

/-- the theorem of Cesari, Vincent and Duval -/
theorem critical {w : List Int} {p : Nat} (hn : 2 ≤ w.length) (hp : 1 ≤ p) (hP : Per w p) (hmin : ∀ q, 1 ≤ q → Per w q → p ≤ q) :
    ∃ c, 1 ≤ c ∧ c < w.length ∧ (c ≤ p - 1 ∨ c = 1) ∧ ∀ r, 1 ≤ r → Ok w c r → p ≤ r := by
  obtain ⟨i, hi⟩ := exTop true (w := w) (by omega)
  obtain ⟨j, hj⟩ := exTop false (w := w) (by omega)
  have key : ∀ (g : Bool) (i i' : Nat), Top g w i → Top (!g) w i' → i' ≤ i → ∃ c, 1 ≤ c ∧ c < w.length ∧ (c ≤ p - 1 ∨ c = 1) ∧ ∀ r, 1 ≤ r → Ok w c r → p ≤ r := by
    intro g i i' h h' hii
    by_cases q : i = 0
    · subst q
      have := hmin 1 (by omega) (top_per h h' hii (by omega) (fun k _ hk _ => by omega))
      exact ⟨1, by omega, by omega, .inr rfl, fun r hr _ => by omega⟩
    · have := top_lt h hp (hP.ok i)
      exact ⟨i, by omega, h.1, .inl (by omega), fun r hr ho => hmin r hr (top_per h h' hii hr ho)⟩
  by_cases q : j ≤ i
  · exact key true i j hi hj q
  · exact key false j i hj hi (by omega)

/-- borders -/
def Bd (w : List Int) (i b : Nat) : Prop := b < i ∧ ∀ k, k < b → w[k]? = w[k + (i - b)]?
def MaxBd (w : List Int) (i b : Nat) : Prop := Bd w i b ∧ ∀ b', Bd w i b' → b' ≤ b

theorem bd_zero (w : List Int) {i : Nat} (h : 1 ≤ i) : Bd w i 0 := ⟨h, fun k hk => by omega⟩
theorem maxBd_one (w : List Int) : MaxBd w 1 0 := ⟨bd_zero w (by omega), fun b h => by have := h.1; omega⟩
theorem bd_succ {w : List Int} {i b : Nat} (h : Bd w i b) (e : w[b]? = w[i]?) : Bd w (i + 1) (b + 1) := by
  refine ⟨by have := h.1; omega, fun k hk => ?_⟩
  have := h.1
  by_cases q : k = b
  · subst q; rw [e]; congr 1; omega
  · rw [h.2 k (by omega)]; congr 1; omega
theorem bd_pred {w : List Int} {i b : Nat} (h : Bd w (i + 1) (b + 1)) : Bd w i b ∧ w[b]? = w[i]? := by
  have h1 := h.1
  refine ⟨⟨by omega, fun k hk => ?_⟩, ?_⟩
  · rw [h.2 k (by omega)]; congr 1; omega
  · rw [h.2 b (by omega)]; congr 1; omega
/-- what the inner loop keeps -/
def Inner (w : List Int) (i idx : Nat) : Prop := Bd w i idx ∧ ∀ b, Bd w i b → w[b]? = w[i]? → b ≤ idx
theorem inner_start {w : List Int} {i idx : Nat} (h : MaxBd w i idx) : Inner w i idx := ⟨h.1, fun b hb _ => h.2 b hb⟩
theorem inner_hit {w : List Int} {i idx : Nat} (h : Inner w i idx) (e : w[i]? = w[idx]?) : MaxBd w (i + 1) (idx + 1) := by
  refine ⟨bd_succ h.1 e.symm, fun b hb => ?_⟩
  cases b with
  | zero => omega
  | succ b => have ⟨h1, h2⟩ := bd_pred hb; have := h.2 b h1 h2; omega
theorem inner_none {w : List Int} {i : Nat} (h : Inner w i 0) (e : w[i]? ≠ w[0]?) : MaxBd w (i + 1) 0 := by
  refine ⟨bd_zero w (by omega), fun b hb => ?_⟩
  cases b with
  | zero => omega
  | succ b =>
    have ⟨h1, h2⟩ := bd_pred hb
    have := h.2 b h1 h2
    have e0 : b = 0 := by omega
    subst e0
    exact absurd h2.symm e
theorem inner_next {w : List Int} {i idx t : Nat} (h : Inner w i idx) (e : w[i]? ≠ w[idx]?) (ht : MaxBd w idx t) : Inner w i t := by
  have a1 := h.1.1
  have a2 := ht.1.1
  refine ⟨⟨by omega, fun k hk => ?_⟩, fun b hb eb => ?_⟩
  · rw [ht.1.2 k hk, h.1.2 _ (by omega)]; congr 1; omega
  · have l := h.2 b hb eb
    have ne : b ≠ idx := fun q => e (q ▸ eb.symm)
    have a3 := hb.1
    refine ht.2 b ⟨by omega, fun k hk => ?_⟩
    rw [hb.2 k hk, h.1.2 (k + (idx - b)) (by omega)]; congr 1; omega

theorem bd_take {w : List Int} {i b : Nat} (hi : i ≤ w.length) (hb : b < i) : Bd w i b ↔ Per (w.take i) (i - b) := by
  have e : (w.take i).length = i := by rw [List.length_take]; omega
  constructor
  · rintro ⟨_, h⟩ k hk
    rw [e] at hk
    rw [List.getElem?_take, List.getElem?_take, if_pos (by omega), if_pos (by omega)]
    exact h k (by omega)
  · intro h
    refine ⟨hb, fun k hk => ?_⟩
    have := h k (by omega)
    rw [List.getElem?_take, List.getElem?_take, if_pos (by omega), if_pos (by omega)] at this
    exact this
theorem maxBd_per {w : List Int} {i t : Nat} (hi : i ≤ w.length) (h : MaxBd w i t) : 1 ≤ i - t ∧ Per (w.take i) (i - t) ∧ ∀ q, 1 ≤ q → Per (w.take i) q → i - t ≤ q := by
  have h1 := h.1.1
  refine ⟨by omega, (bd_take hi h1).1 h.1, fun q hq hP => ?_⟩
  by_cases c : i ≤ q
  · omega
  · have := h.2 (i - q) ((bd_take hi (by omega)).2 (by rw [show i - (i - q) = q by omega]; exact hP))
    omega
/-- the local period -/
def IsLp (w : List Int) (c r : Nat) : Prop := 1 ≤ r ∧ Ok w c r ∧ ∀ q, 1 ≤ q → Ok w c q → r ≤ q
theorem least_of {P : Nat → Prop} : ∀ n, P n → ∃ r, P r ∧ ∀ q, P q → r ≤ q := by
  intro n
  induction n using Nat.strongRecOn with
  | ind n ih =>
    intro h
    by_cases q : ∃ k, k < n ∧ P k
    · obtain ⟨k, hk, hP⟩ := q
      exact ih k hk hP
    · exact ⟨n, h, fun k hk => Nat.le_of_not_lt fun z => q ⟨k, z, hk⟩⟩
theorem ok_long {w : List Int} {c r : Nat} (h : w.length ≤ r) : Ok w c r := fun k _ _ hk => by omega
theorem exLp (w : List Int) (c : Nat) : ∃ r, IsLp w c r := by
  obtain ⟨r, ⟨h1, h2⟩, h3⟩ := least_of (P := fun r => 1 ≤ r ∧ Ok w c r) (w.length + 1) ⟨by omega, ok_long (by omega)⟩
  exact ⟨r, h1, h2, fun q hq ho => h3 q ⟨hq, ho⟩⟩
noncomputable def lp (w : List Int) (c : Nat) : Nat := Classical.choose (exLp w c)
theorem lp_spec (w : List Int) (c : Nat) : IsLp w c (lp w c) := Classical.choose_spec (exLp w c)
theorem lp_eq {w : List Int} {c r : Nat} (h : IsLp w c r) : lp w c = r := by
  have h' := lp_spec w c
  have a := h'.2.2 r h.1 h.2.1
  have b := h.2.2 _ h'.1 h'.2.1
  omega
/-- behind r - 1 turns of the search -/
def Seek (w : List Int) (c r : Nat) : Prop := 1 ≤ r ∧ ∀ q, 1 ≤ q → q < r → ¬ Ok w c q
theorem seek_hit {w : List Int} {c r : Nat} (h : Seek w c r) (ho : Ok w c r) : lp w c = r :=
  lp_eq ⟨h.1, ho, fun q hq hk => Nat.le_of_not_lt fun z => h.2 q hq z hk⟩
theorem seek_next {w : List Int} {c r : Nat} (h : Seek w c r) (ho : ¬ Ok w c r) : Seek w c (r + 1) ∧ r < w.length := by
  refine ⟨⟨by omega, fun q hq hk => ?_⟩, Nat.lt_of_not_le fun z => ho (ok_long z)⟩
  by_cases e : q = r
  · subst e; exact ho
  · exact h.2 q hq (by omega)
/-! ## The table's plain law -/
def TabInv (w : List Int) (pre tbl : List Int) : Prop := ∀ j, j < pre.length + 1 → j < w.length → ∃ t : Nat, tbl[j]? = some (t : Int) ∧ MaxBd w (j + 1) t
theorem getD_iff {w : List Int} {a b : Nat} (ha : a < w.length) (hb : b < w.length) : w.getD a 0 = w.getD b 0 ↔ w[a]? = w[b]? := by
  rw [List.getD_eq_getElem?_getD, List.getD_eq_getElem?_getD, List.getElem?_eq_getElem ha, List.getElem?_eq_getElem hb]
  simp
theorem getD_some {w : List Int} {a : Nat} {t : Int} (h : w[a]? = some t) : w.getD a 0 = t := by
  rw [List.getD_eq_getElem?_getD, h]; rfl
theorem tabInv_start {w : List Int} {k : Int} (hk : k = w.length) : (List.replicate k.toNat [(0 : Int)]).flatten.length = w.length ∧ TabInv w [] (List.replicate k.toNat [(0 : Int)]).flatten := by
  subst hk
  have e : ∀ n : Nat, (List.replicate n [(0 : Int)]).flatten = List.replicate n 0 := by
    intro n
    induction n with
    | zero => rfl
    | succ n ih => rw [List.replicate_succ, List.flatten_cons, ih]; rfl
  rw [Int.toNat_natCast, e]
  refine ⟨List.length_replicate, fun j h1 h2 => ⟨0, ?_, ?_⟩⟩
  · rw [List.getElem?_replicate, if_pos h2]; rfl
  · have : j = 0 := by simpa using h1
    subst this
    exact maxBd_one w
theorem tab_set {w tbl pre : List Int} {i : Int} {t : Nat} {v : Int} (hl : tbl.length = w.length) (hT : TabInv w pre tbl) (hi : i = 1 + pre.length) (hv : v = t) (hM : MaxBd w (i.toNat + 1) t) :
    (tbl.set i.toNat v).length = w.length ∧ TabInv w (pre ++ [i]) (tbl.set i.toNat v) := by
  refine ⟨by rw [List.length_set]; exact hl, fun j h1 h2 => ?_⟩
  have h1' : j < pre.length + 1 + 1 := by simpa using h1
  by_cases q : j = i.toNat
  · subst q
    exact ⟨t, by rw [List.getElem?_set_self (by omega), hv], hM⟩
  · obtain ⟨t', e, m⟩ := hT j (by omega) h2
    exact ⟨t', by rw [List.getElem?_set_ne (fun z => q z.symm)]; exact e, m⟩
theorem tab_none {w tbl pre : List Int} {i k : Int} (hl : tbl.length = w.length) (hT : TabInv w pre tbl) (hi : i = 1 + pre.length) (hlt : pre.length < ((w.length : Int) - 1).toNat) (hP : Inner w i.toNat k.toNat) (hne : w.getD i.toNat 0 ≠ w.getD k.toNat 0) (hk : k = 0) :
    (tbl.set i.toNat 0).length = w.length ∧ TabInv w (pre ++ [i]) (tbl.set i.toNat 0) := by
  subst hk
  refine tab_set (t := 0) hl hT hi rfl (inner_none hP fun e => hne ((getD_iff (by omega) (by simp; omega)).2 e))
theorem tab_hit {w tbl pre : List Int} {i k : Int} (hl : tbl.length = w.length) (hT : TabInv w pre tbl) (hi : i = 1 + pre.length) (hlt : pre.length < ((w.length : Int) - 1).toNat) (h0 : 0 ≤ k) (h1 : k < i) (hP : Inner w i.toNat k.toNat) (he : w.getD i.toNat 0 = w.getD k.toNat 0) :
    (tbl.set i.toNat (k + 1)).length = w.length ∧ TabInv w (pre ++ [i]) (tbl.set i.toNat (k + 1)) :=
  tab_set (t := k.toNat + 1) hl hT hi (by omega) (inner_hit hP ((getD_iff (by omega) (by omega)).1 he))
theorem tab_first {w tbl pre : List Int} {i : Int} (hT : TabInv w pre tbl) (hi : i = 1 + pre.length) (hlt : pre.length < ((w.length : Int) - 1).toNat) :
    0 ≤ tbl.getD (i - 1).toNat 0 ∧ tbl.getD (i - 1).toNat 0 < i ∧ Inner w i.toNat (tbl.getD (i - 1).toNat 0).toNat := by
  obtain ⟨t, e, m⟩ := hT (i - 1).toNat (by omega) (by omega)
  rw [getD_some e, Int.toNat_natCast]
  rw [show (i - 1).toNat + 1 = i.toNat by omega] at m
  have := m.1.1
  exact ⟨by omega, by omega, inner_start m⟩
theorem tab_next {w tbl pre : List Int} {i k : Int} (hT : TabInv w pre tbl) (hi : i = 1 + pre.length) (hlt : pre.length < ((w.length : Int) - 1).toNat) (h0 : 0 ≤ k) (h1 : k < i) (hP : Inner w i.toNat k.toNat) (hne : w.getD i.toNat 0 ≠ w.getD k.toNat 0) (hk : k ≠ 0) :
    (0 ≤ tbl.getD (k - 1).toNat 0 ∧ tbl.getD (k - 1).toNat 0 < i ∧ Inner w i.toNat (tbl.getD (k - 1).toNat 0).toNat) ∧ (tbl.getD (k - 1).toNat 0).toNat < k.toNat := by
  obtain ⟨t, e, m⟩ := hT (k - 1).toNat (by omega) (by omega)
  rw [getD_some e, Int.toNat_natCast]
  rw [show (k - 1).toNat + 1 = k.toNat by omega] at m
  have := m.1.1
  exact ⟨⟨by omega, by omega, inner_next hP (fun z => hne ((getD_iff (by omega) (by omega)).2 z)) m⟩, by omega⟩
/-- the table's word -/
def IsTab (w tbl : List Int) : Prop := tbl.length = w.length ∧ ∀ j, j < w.length → ∃ t : Nat, tbl[j]? = some (t : Int) ∧ MaxBd w (j + 1) t
theorem tab_done {w tbl pre : List Int} (hl : tbl.length = w.length) (hp : pre.length = ((w.length : Int) - 1).toNat) (hT : TabInv w pre tbl) : IsTab w tbl :=
  ⟨hl, fun j h => hT j (by omega) h⟩
/-! ## Rules for the walk -/
section
variable {prog : Program} {w : World} {A : Around} {E : Value → Shared → Prop} {Q : Flow → Shared → Prop} {s : Shared} {env : Env} {h₀ : Heap} {L : Addr}
/-- a turn's end of a while that turns one int of the frame -/
def OneEnd (h₀ : Heap) (L : Addr) (x : Str) (m₀ : Str → Option Value) (news : List (Addr × Obj)) (P : Int → Prop) (μ : Int → Nat) (s : Shared) (k : Int) (s₃ : Shared) : Prop :=
  ∃ (k' : Int) (t' : Tok) (h' : Heap) (tk' : Nat) (m' : Str → Option Value), s₃ = { s with heap := h', toks := tk' } ∧ Fr h₀ L h' m' ∧ News h₀ L h' news ∧ m' x = some (.int k' t') ∧ (∀ y, y ≠ x → m' y = m₀ y) ∧ P k' ∧ μ k' < μ k
def OnePost (h₀ : Heap) (L : Addr) (x : Str) (m₀ : Str → Option Value) (news : List (Addr × Obj)) (P : Int → Prop) (μ : Int → Nat) (s : Shared) (Q : Flow → Shared → Prop) (k : Int) (f : Flow) (s₃ : Shared) : Prop :=
  match f with
  | .ret v => Q (.ret v) s₃
  | .brk => Q .next s₃
  | _ => OneEnd h₀ L x m₀ news P μ s k s₃
theorem one_while {x : Str} {test : Expr} {body orelse : List Stmt} {pos : Pos} {m₀ : Str → Option Value} {news : List (Addr × Obj)} {k₀ : Int} {t₀ : Tok} (P : Int → Prop) (μ : Int → Nat)
    (F : Fr h₀ L s.heap m₀) (N : News h₀ L s.heap news) (hx : m₀ x = some (.int k₀ t₀)) (hP : P k₀)
    (turn : ∀ (k : Int) (t : Tok) (h : Heap) (tk : Nat), P k → Fr h₀ L h (fun y => if y = x then some (.int k t) else m₀ y) → News h₀ L h news →
      wpAny (model prog w) A (isTrue test env (eval test env)) (fun b s₂ =>
        if b = true then wpAny (model prog w) A (execs body env) (OnePost h₀ L x m₀ news P μ s Q k) E s₂ else wpAny (model prog w) A (execs orelse env) Q E s₂) E { s with heap := h, toks := tk })
    (hE : PassesOwn (model prog w) A env E := by passes_own) :
    wpAny (model prog w) A (exec (.While test body orelse pos) env) Q E s := by
  refine wpAny_While (codeAny_whileLoop (fun n s' => ∃ (k : Int) (t : Tok) (h₁ : Heap) (tk₁ : Nat) (m₁ : Str → Option Value), s' = { s with heap := h₁, toks := tk₁ } ∧ Fr h₀ L h₁ m₁ ∧ News h₀ L h₁ news ∧ m₁ x = some (.int k t) ∧ (∀ y, y ≠ x → m₁ y = m₀ y) ∧ P k ∧ μ k = n) ?_ (μ k₀) ⟨k₀, t₀, s.heap, s.toks, m₀, rfl, F, N, hx, fun _ _ => rfl, hP, rfl⟩)
  rintro n s' ⟨k, t, h₁, tk₁, m₁, rfl, F₁, N₁, hk, hr, hp, rfl⟩
  have em : m₁ = fun y => if y = x then some (.int k t) else m₀ y := by
    funext y
    by_cases q : y = x
    · rw [if_pos q, q, hk]
    · rw [if_neg q, hr y q]
  rw [em] at F₁
  refine wpAny_mono (turn k t h₁ tk₁ hp F₁ N₁) (fun b s₂ h₂ => ?_) hE
  cases b with
  | false =>
    simp only [Bool.false_eq_true, if_false] at h₂ ⊢
    exact wpAny_mono h₂ (fun _ _ z => z) hE
  | true =>
    simp only [if_true] at h₂ ⊢
    refine wpAny_mono h₂ (fun f s₃ h₃ => ?_) hE
    cases f with
    | next =>
      obtain ⟨k', t', h', tk', m', rfl, F', N', hk', hr', hp', hm⟩ := h₃
      exact ⟨μ k', hm, k', t', h', tk', m', rfl, F', N', hk', hr', hp', rfl⟩
    | cont =>
      obtain ⟨k', t', h', tk', m', rfl, F', N', hk', hr', hp', hm⟩ := h₃
      exact ⟨μ k', hm, k', t', h', tk', m', rfl, F', N', hk', hr', hp', rfl⟩
    | brk => exact h₃
    | ret v => exact h₃
theorem one_end {x : Str} {m₀ m' : Str → Option Value} {news : List (Addr × Obj)} {P : Int → Prop} {μ : Int → Nat} {k : Int} {h' : Heap} {tk' : Nat} (k' : Int) {t' : Tok} {news' : List (Addr × Obj)}
    (F : Fr h₀ L h' m') (N : News h₀ L h' news') (hn : ∀ p ∈ news, p ∈ news') (hx : m' x = some (.int k' t')) (hr : ∀ y, y ≠ x → m' y = m₀ y) (hp : P k') (hm : μ k' < μ k) : OneEnd h₀ L x m₀ news P μ s k { s with heap := h', toks := tk' } :=
  ⟨k', t', h', tk', m', rfl, F, fun p hp => N p (hn p hp), hx, hr, hp, hm⟩
end
theorem cut3 {M : Model} {A : Around} {E : Value → Shared → Prop} {Q : Flow → Shared → Prop} {s : Shared} {env : Env} {x y z : Stmt} {b : List Stmt} (P : Shared → Shared → Prop)
    (h2 : ∀ s', P s s' → wpAny M A (execs b env) Q E s') (h1 : (∀ s', P s s' → wpAny M A (execs b env) Q E s') → wpAny M A (execs (x :: y :: z :: b) env) Q E s) : wpAny M A (execs (x :: y :: z :: b) env) Q E s := h1 h2
/-- behind the first three statements: the row is made -/
def RowAt {h₀ h : Heap} {L : Addr} {m : Str → Option Value} (_F : Fr h₀ L h m) (s s' : Shared) : Prop :=
  ∃ (h' : Heap) (tk' : Nat) (D : Addr) (ys : List Value) (nn : Nat) (ns : List Int) (o1 o2 : Obj), s' = { s with heap := h', toks := tk' } ∧ Fr h₀ L h' m ∧ News h₀ L h' [(D, listOf ys.toArray nn), (L + 1 + 1 + 1, o2), (L + 1, o1)] ∧
    o1.data = .cell (some (.ref D)) ∧ o2.data = .cell none ∧ (@Ne Nat D (L + 1 + 1 + 1)) ∧ IntsAre ys ns ∧ 6 ≤ ns.length ∧ ns.length ≤ 12
theorem rowAt_intro {h₀ h h' : Heap} {L D : Addr} {m : Str → Option Value} (F₀ : Fr h₀ L h m) {s : Shared} {tk' : Nat} {news' : List (Addr × Obj)} {ys : List Value} {nn : Nat} {ns : List Int} {o1 o2 : Obj} (F : Fr h₀ L h' m) (N : News h₀ L h' news')
    (m1 : (L + 1, o1) ∈ news') (dr : o1.data = .cell (some (.ref D))) (m2 : (D, listOf ys.toArray nn) ∈ news') (hI : IntsAre ys ns) (m3 : (L + 1 + 1 + 1, o2) ∈ news') (ds : o2.data = .cell none) (hne : @Ne Nat D (L + 1 + 1 + 1)) (h6 : 6 ≤ ns.length) (h12 : ns.length ≤ 12) :
    RowAt F₀ s { s with heap := h', toks := tk' } := by
  refine ⟨h', tk', D, ys, nn, ns, o1, o2, rfl, F, fun p hp => ?_, dr, ds, hne, hI, h6, h12⟩
  simp only [List.mem_cons, List.not_mem_nil, or_false] at hp
  rcases hp with rfl | rfl | rfl
  · exact N _ m2
  · exact N _ m3
  · exact N _ m1
theorem news_drop2 {h₀ h : Heap} {L : Addr} {a b : Addr × Obj} {r : List (Addr × Obj)} (N : News h₀ L h (a :: b :: r)) : News h₀ L h (a :: r) := fun p hp => N p (by
  rcases List.mem_cons.mp hp with e | e
  · rw [e]; exact .head _
  · exact .tail _ (.tail _ e))
section
variable {prog : Program} {w : World} {A : Around} {E : Value → Shared → Prop} {Q : Flow → Shared → Prop} {s : Shared} {env : Env} {h₀ : Heap} {L : Addr}
def ForAt (prog : Program) (w : World) (A : Around) (env : Env) (target : Expr) (body : List Stmt) (Q : Flow → Shared → Prop) (E : Value → Shared → Prop) (xv : Value) (s₁ : Shared) : Prop :=
  wpAny (model prog w) A (pyIter xv) (fun it s₂ => codeAny (model prog w) A (.forLoop target it body [] env) (fun r s' => match r with | .ok f => Q f s' | .error e => cameBackBy (model prog w) A env E e s') s₂) E s₁
theorem for_start {target iter : Expr} {body : List Stmt} {pos : Pos} (h : wpAny (model prog w) A (eval iter env) (fun xv s₁ => ForAt prog w A env target body Q E xv s₁) E s)
    (hs : ∀ x, foldedSetIterable iter env x = pure x := by intro _; rfl) : wpAny (model prog w) A (exec (.For target iter body [] pos) env) Q E s := wpAny_For h hs
/-- the iterator behind i items -/
abbrev itAt (a : Int) (n i : Nat) : Obj := { cls := .type "range_iterator", dict := none, data := .fields #[rawInt (a + (i : Nat)), rawInt ((n : Int) - (i : Nat)), rawInt 1], slots := #[] }
def ForEnd (h₀ : Heap) (L : Addr) (stored : List Str) (m₀ : Str → Option Value) (J : Nat → List (Addr × Obj) → Prop) (I : Addr) (it : Obj) (s : Shared) (i : Nat) (s₃ : Shared) : Prop :=
  ∃ (h' : Heap) (tk' : Nat) (m' : Str → Option Value) (nx news' : List (Addr × Obj)), s₃ = { s with heap := h', toks := tk' } ∧ Fr h₀ L h' m' ∧ News h₀ L h' news' ∧ (∀ p ∈ (I, it) :: nx, p ∈ news') ∧ (∀ z, stored.contains z = false → m' z = m₀ z) ∧ J (i + 1) nx
def ForPost (h₀ : Heap) (L : Addr) (stored : List Str) (m₀ : Str → Option Value) (J : Nat → List (Addr × Obj) → Prop) (I : Addr) (it : Obj) (s : Shared) (Q : Flow → Shared → Prop) (i : Nat) (f : Flow) (s₃ : Shared) : Prop :=
  match f with
  | .ret v => Q (.ret v) s₃
  | .brk => Q .next s₃
  | _ => ForEnd h₀ L stored m₀ J I it s i s₃
theorem for_range {x : Str} {px : Pos} {body : List Stmt} {r : Addr} {a b : Int} {t u v : Tok} {n : Nat} {m₀ : Str → Option Value} {news : List (Addr × Obj)} (stored : List Str) (J : Nat → List (Addr × Obj) → Prop)
    (hh : A.handled = none) (hr : IsRange s.heap r a b 1 t u v) (hsmall : Builtin.Range.small a b 1 = true) (hn : Builtin.Range.rangeSize a b 1 = (n : Int))
    (F : Fr h₀ L s.heap m₀) (N : News h₀ L s.heap news) (h0 : J 0 news) (hJ : ∀ i nx, J i nx → ∀ p ∈ nx, p.1 < s.heap.objs.size)
    (turn : ∀ (I : Addr) (i : Nat) (u : Str → Option Value) (nx : List (Addr × Obj)) (h : Heap) (tk t : Nat), i < n → J i nx → (∀ p ∈ nx, @LT.lt Nat _ p.1 I) → Fr h₀ L h (fun y => if stored.contains y = true then u y else m₀ y) → News h₀ L h ((I, itAt a n (i + 1)) :: nx) →
      wpAny (model prog w) A (storeName env x (.int (a + (i : Nat)) t)) (fun _ s₂ => wpAny (model prog w) A (execs body env) (ForPost h₀ L stored m₀ J I (itAt a n (i + 1)) s Q i) E s₂) E { s with heap := h, toks := tk })
    (done : ∀ (u : Str → Option Value) (nx : List (Addr × Obj)) (h : Heap) (tk : Nat), J n nx → Fr h₀ L h (fun y => if stored.contains y = true then u y else m₀ y) → News h₀ L h nx → Q .next { s with heap := h, toks := tk })
    (hE : PassesOwn (model prog w) A env E := by passes_own) :
    ForAt prog w A env (.Name x px) body Q E (.ref r) s := by
  have fix : ∀ {h : Heap} {m' : Str → Option Value}, Fr h₀ L h m' → (∀ z, stored.contains z = false → m' z = m₀ z) → Fr h₀ L h (fun y => if stored.contains y = true then m' y else m₀ y) := by
    intro h m' F' hm
    have em : (fun y => if stored.contains y = true then m' y else m₀ y) = m' := by
      funext y
      cases q : stored.contains y with
      | true => simp
      | false => simp [hm y q]
    rw [em]; exact F'
  have hIL : s.heap.objs.size ≠ L := Nat.ne_of_gt F.ns.lt
  have hIn : h₀.get? s.heap.objs.size = none := next_is_new F
  refine wpAny_pyIter_range hr hsmall ?_
  refine codeAny_forLoop (fun k s' => ∃ (h' : Heap) (tk : Nat) (m' : Str → Option Value) (nx : List (Addr × Obj)) (i : Nat), s' = { s with heap := h', toks := tk } ∧ Fr h₀ L h' m' ∧ News h₀ L h' ((s.heap.objs.size, itAt a n i) :: nx) ∧ (∀ z, stored.contains z = false → m' z = m₀ z) ∧ J i nx ∧ i ≤ n ∧ k = n + 1 - i) ?_ (n + 1)
    ⟨_, _, m₀, news, 0, rfl, F.push _, ?_, fun _ _ => rfl, h0, Nat.zero_le _, rfl⟩
  · rintro k s' ⟨h', tk, m', nx, i, rfl, F', N', hm, hJi, hi, rfl⟩
    have hit := (N' _ (.head _)).1
    have off : ∀ h₁ : Heap, Heap.ExtBut s.heap.objs.size h' h₁ → News h₀ L h₁ nx := fun h₁ hs p hp =>
      ⟨hs p.1 p.2 (Nat.ne_of_lt (hJ i nx hJi p hp)) (N' p (.tail _ hp)).1, (N' p (.tail _ hp)).2⟩
    by_cases hlt : i < n
    · refine wpAny_pyNext_range_item hit (by omega) fun h₁ hit₁ hs₁ => ?_
      have F₁ := F'.change hs₁ hIL hIn
      have N₁ := off h₁ hs₁.extBut
      have hit₂ : h₁.get? s.heap.objs.size = some (itAt a n (i + 1)) := by
        have e1 : a + ((i + 1 : Nat) : Int) = a + (i : Int) + 1 := by push_cast; omega
        have e2 : (n : Int) - ((i + 1 : Nat) : Int) = (n : Int) - (i : Int) - 1 := by push_cast; omega
        show h₁.get? s.heap.objs.size = some { cls := .type "range_iterator", dict := none, data := .fields #[rawInt (a + ((i + 1 : Nat) : Int)), rawInt ((n : Int) - ((i + 1 : Nat) : Int)), rawInt 1], slots := #[] }
        rw [e1, e2]
        exact hit₁
      refine wpAny_assign_Name (wpAny_passesOwn hE ?_)
      refine wpAny_mono (turn _ i m' nx h₁ _ _ hlt hJi (hJ i nx hJi) (fix F₁ hm) (fun p hp => ?_)) (fun _ s₂ h₂ => ?_) fun _ _ e => e
      · rcases List.mem_cons.mp hp with rfl | hp
        · exact ⟨hit₂, hIL, hIn⟩
        · exact N₁ p hp
      · refine wpAny_passesOwn hE (wpAny_mono h₂ (fun f s₃ h₃ => ?_) fun _ _ e => e)
        cases f with
        | ret v => exact h₃
        | brk => exact h₃
        | next =>
          obtain ⟨h₄, tk₄, m₄, nx₄, news₄, rfl, F₄, N₄, hin, hm₄, hJ₄⟩ := h₃
          exact ⟨n + 1 - (i + 1), by omega, h₄, tk₄, m₄, nx₄, i + 1, rfl, F₄, fun p hp => N₄ p (hin p hp), hm₄, hJ₄, hlt, rfl⟩
        | cont =>
          obtain ⟨h₄, tk₄, m₄, nx₄, news₄, rfl, F₄, N₄, hin, hm₄, hJ₄⟩ := h₃
          exact ⟨n + 1 - (i + 1), by omega, h₄, tk₄, m₄, nx₄, i + 1, rfl, F₄, fun p hp => N₄ p (hin p hp), hm₄, hJ₄, hlt, rfl⟩
    · have hin : i = n := by omega
      subst hin
      refine wpAny_pyNext_range_end hh hit (by omega) fun h₁ he₁ => wpAny_execs_nil ?_
      refine done m' nx h₁ _ hJi (fix ⟨F'.ns.extBut he₁ hIL.symm, fun b o e => he₁ b o (fun q => ?_) (F'.keep b o e), F'.above⟩ hm) (off h₁ he₁)
      rw [q, hIn] at e; cases e
  · intro p hp
    rcases List.mem_cons.mp hp with rfl | hp
    · refine ⟨?_, hIL, hIn⟩
      show (s.heap.push _).get? s.heap.objs.size = some (itAt a n 0)
      rw [hn]
      have e : itAt a n 0 = { cls := .type "range_iterator", data := .fields #[rawInt a, rawInt (n : Int), rawInt 1] } := by simp [itAt]
      rw [e]
      exact Heap.get?_push_size s.heap rfl
    · exact ⟨Heap.get?_push_of_some _ (N p hp).1, (N p hp).2⟩
theorem for_end {stored : List Str} {m₀ m' : Str → Option Value} {J : Nat → List (Addr × Obj) → Prop} {I : Addr} {it : Obj} {i : Nat} {h' : Heap} {tk' : Nat} (nx : List (Addr × Obj)) {news' : List (Addr × Obj)}
    (F : Fr h₀ L h' m') (N : News h₀ L h' news') (hn : ∀ p ∈ (I, it) :: nx, p ∈ news') (hm : ∀ z, stored.contains z = false → m' z = m₀ z) (hJ : J (i + 1) nx) : ForEnd h₀ L stored m₀ J I it s i { s with heap := h', toks := tk' } :=
  ⟨h', tk', m', nx, news', rfl, F, N, hn, hm, hJ⟩
def WhEnd (h₀ : Heap) (L : Addr) (stored : List Str) (m₀ : Str → Option Value) (J : Nat → List (Addr × Obj) → Prop) (s : Shared) (n : Nat) (s₃ : Shared) : Prop :=
  ∃ (n' : Nat) (h' : Heap) (tk' : Nat) (m' : Str → Option Value) (nx news' : List (Addr × Obj)), s₃ = { s with heap := h', toks := tk' } ∧ Fr h₀ L h' m' ∧ News h₀ L h' news' ∧ (∀ p ∈ nx, p ∈ news') ∧ (∀ z, stored.contains z = false → m' z = m₀ z) ∧ J n' nx ∧ n' < n
def WhPost (h₀ : Heap) (L : Addr) (stored : List Str) (m₀ : Str → Option Value) (J : Nat → List (Addr × Obj) → Prop) (s : Shared) (Q : Flow → Shared → Prop) (n : Nat) (f : Flow) (s₃ : Shared) : Prop :=
  match f with
  | .ret v => Q (.ret v) s₃
  | .brk => Q .next s₃
  | _ => WhEnd h₀ L stored m₀ J s n s₃
theorem wh_loop {test : Expr} {body : List Stmt} {pos : Pos} {m₀ : Str → Option Value} {news : List (Addr × Obj)} (stored : List Str) (J : Nat → List (Addr × Obj) → Prop) (n₀ : Nat)
    (F : Fr h₀ L s.heap m₀) (N : News h₀ L s.heap news) (h0 : J n₀ news)
    (turn : ∀ (n : Nat) (u : Str → Option Value) (nx : List (Addr × Obj)) (h : Heap) (tk : Nat), J n nx → Fr h₀ L h (fun y => if stored.contains y = true then u y else m₀ y) → News h₀ L h nx →
      wpAny (model prog w) A (isTrue test env (eval test env)) (fun b s₂ =>
        if b = true then wpAny (model prog w) A (execs body env) (WhPost h₀ L stored m₀ J s Q n) E s₂ else Q .next s₂) E { s with heap := h, toks := tk })
    (hE : PassesOwn (model prog w) A env E := by passes_own) :
    wpAny (model prog w) A (exec (.While test body [] pos) env) Q E s := by
  refine While_inv2 (fun n m nx => (∀ z, stored.contains z = false → m z = m₀ z) ∧ J n nx) F N ⟨fun _ _ => rfl, h0⟩ ?_ hE
  rintro n m₁ nx h tk F₁ N₁ ⟨hm, hJ⟩
  have em : (fun y => if stored.contains y = true then m₁ y else m₀ y) = m₁ := by
    funext y
    cases q : stored.contains y with
    | true => simp
    | false => simp [hm y q]
  refine wpAny_mono (turn n m₁ nx h tk hJ (em.symm ▸ F₁) N₁) (fun b s₂ p => ?_) fun _ _ x => x
  cases b with
  | false => simpa using p
  | true =>
    simp only [if_true] at p ⊢
    refine wpAny_mono p (fun f s₃ q => ?_) fun _ _ x => x
    cases f with
    | ret v => exact q
    | brk => exact q
    | next =>
      obtain ⟨n', h', tk', m', nx', news', rfl, F', N', hn, hr, hJ', hlt⟩ := q
      exact ⟨h', tk', m', nx', n', rfl, F', fun p hp => N' p (hn p hp), hlt, hr, hJ'⟩
    | cont =>
      obtain ⟨n', h', tk', m', nx', news', rfl, F', N', hn, hr, hJ', hlt⟩ := q
      exact ⟨h', tk', m', nx', n', rfl, F', fun p hp => N' p (hn p hp), hlt, hr, hJ'⟩
theorem wh_end {stored : List Str} {m₀ m' : Str → Option Value} {J : Nat → List (Addr × Obj) → Prop} {n : Nat} {h' : Heap} {tk' : Nat} (n' : Nat) (nx : List (Addr × Obj)) {news' : List (Addr × Obj)}
    (F : Fr h₀ L h' m') (N : News h₀ L h' news') (hn : ∀ p ∈ nx, p ∈ news') (hm : ∀ z, stored.contains z = false → m' z = m₀ z) (hJ : J n' nx) (hlt : n' < n) : WhEnd h₀ L stored m₀ J s n { s with heap := h', toks := tk' } :=
  ⟨n', h', tk', m', nx, news', rfl, F, N, hn, hm, hJ, hlt⟩
end
section
variable {prog : Program} {w : World} {A : Around} {E : Value → Shared → Prop} {s : Shared} {h₀ : Heap} {L : Addr} {m : Str → Option Value}
abbrev rangeObj (a b : Int) (t u v : Tok) : Obj := { cls := .type "range", dict := none, data := .fields #[.int a t, .int b u, .int 1 v], slots := #[] }
/-- a range goes onto the ledger -/
theorem range_K {Q : Value → Shared → Prop} {a b : Int} {t u : Tok} {news : List (Addr × Obj)} (F : Fr h₀ L s.heap m) (N : News h₀ L s.heap news)
    (h : ∀ (r : Addr) (h' : Heap) (tk : Nat) (t₁ u₁ v₁ : Tok) (a' b' : Int), a' = a → b' = b → Fr h₀ L h' m → News h₀ L h' ((r, rangeObj a' b' t₁ u₁ v₁) :: news) → (∀ p ∈ news, p.1 < r) → Q (.ref r) { s with heap := h', toks := tk }) :
    wpAny (model prog w) A (call (.type "range") [.int a t, .int b u]) Q E s := by
  refine range2_rows F N fun h' tk t₁ u₁ v₁ hR F' N' _ => h _ h' tk t₁ u₁ v₁ a b rfl rfl F' (fun p hp => ?_) fun p hp => Heap.lt_size (N p hp).1
  rcases List.mem_cons.mp hp with rfl | hp
  · exact ⟨hR, Nat.ne_of_gt F.ns.lt, next_is_new F⟩
  · exact N' p hp
theorem max_facts {a x : Int} (h : a = if x > 0 then x else 0) : 0 ≤ a ∧ x ≤ a ∧ (a = 0 ∨ a = x) := by
  split at h <;> omega
theorem min_facts {b x y : Int} (h : b = if x < y then x else y) : b ≤ x ∧ b ≤ y ∧ (b = x ∨ b = y) := by
  split at h <;> omega
end
/-! ## The search's plain law, the end's plain law -/
theorem fold_keep {P : Int → Prop} [DecidablePred P] : ∀ (ks l : List Int), ks.foldl (fun l k => if P k then l ++ [k] else l) l = l ++ ks.filter (fun k => decide (P k)) := by
  intro ks
  induction ks with
  | nil => intro l; simp
  | cons k r ih =>
    intro l
    rw [List.foldl_cons, ih, List.filter_cons]
    by_cases q : P k
    · simp [q]
    · simp [q]
theorem fold_nil {P : Int → Prop} [DecidablePred P] (ks : List Int) : ks.foldl (fun l k => if P k then l ++ [k] else l) [] = [] ↔ ∀ k ∈ ks, ¬ P k := by
  rw [fold_keep, List.nil_append, List.filter_eq_nil_iff]
  simp
theorem in_rangeKs {a k : Int} {n : Nat} (h1 : a ≤ k) (h2 : k < a + n) : k ∈ rangeKs a n := by
  unfold rangeKs
  rw [List.mem_map]
  exact ⟨(k - a).toNat, by rw [List.mem_range]; omega, by omega⟩
section
variable {ns : List Int} {c a b : Int} {r : Nat}
theorem seen_ok (hc0 : 1 ≤ c) (hc1 : c < ns.length) (hr0 : 1 ≤ r) (hr : r ≤ ns.length) (hA0 : 0 ≤ a) (hA1 : c - (r : Int) ≤ a) (hA2 : a = 0 ∨ a = c - (r : Int)) (hB0 : b ≤ (ns.length : Int) - (r : Int)) (hB1 : b ≤ c) (hB2 : b = (ns.length : Int) - (r : Int) ∨ b = c) :
    (rangeKs a (b - a).toNat).foldl (fun l k => if ns.getD k.toNat 0 ≠ ns.getD (k + (r : Int)).toNat 0 then l ++ [k] else l) [] = [] ↔ Ok ns c.toNat r := by
  rw [fold_nil]
  constructor
  · intro h k h1 h2 h3
    have := h (k : Int) (in_rangeKs (by omega) (by omega))
    have e : ns.getD (k : Int).toNat 0 = ns.getD ((k : Int) + (r : Int)).toNat 0 := Decidable.not_not.mp this
    have e1 : ((k : Int) + (r : Int)).toNat = k + r := by omega
    rw [e1, Int.toNat_natCast] at e
    exact (getD_iff (by omega) (by omega)).1 e
  · intro h k hk
    have hm := mem_rangeKs hk
    have := h k.toNat (by omega) (by omega) (by omega)
    have e1 : (k + (r : Int)).toNat = k.toNat + r := by omega
    rw [e1]
    exact fun z => z ((getD_iff (by omega) (by omega)).2 this)
end
noncomputable def seenL (w : List Int) : List Int := (rangeKs 1 (w.length - 1)).map fun k => ((lp w k.toNat : Nat) : Int)
theorem seenL_length (w : List Int) : (seenL w).length = w.length - 1 := by
  unfold seenL
  rw [List.length_map, rangeKs_length]
theorem seenL_of {ys : List Value} {w ns : List Int} {z n : Nat} (hw : w.length = min z ns.length) (hL : w.length ≤ ns.length) (hn : n = w.length - 1)
    (h : IntsAre ys ((rangeKs 1 n).map fun k => if w.length = min z ns.length ∧ w.length ≤ ns.length then ((lp w k.toNat : Nat) : Int) else k)) : IntsAre ys (seenL w) := by
  subst hn
  have e : ((rangeKs 1 (w.length - 1)).map fun k => if w.length = min z ns.length ∧ w.length ≤ ns.length then ((lp w k.toNat : Nat) : Int) else k) = seenL w := by
    unfold seenL
    refine List.map_congr_left fun k _ => ?_
    rw [if_pos ⟨hw, hL⟩]
  rw [← e]
  exact h
theorem seenL_at {w : List Int} {c : Nat} (h1 : 1 ≤ c) (h2 : c < w.length) : (seenL w)[c - 1]? = some ((lp w c : Nat) : Int) := by
  unfold seenL rangeKs
  rw [List.getElem?_map, List.getElem?_map, List.getElem?_range (by omega)]
  simp only [Option.map_some]
  have e : ((1 : Int) + ((c - 1 : Nat) : Int)).toNat = c := by omega
  rw [e]
theorem seenL_le {w : List Int} {p : Nat} (hp : 1 ≤ p) (hP : Per w p) : ∀ a ∈ seenL w, a ≤ (p : Int) := by
  intro a ha
  unfold seenL at ha
  obtain ⟨k, _, rfl⟩ := List.mem_map.mp ha
  have := (lp_spec w k.toNat).2.2 p hp (hP.ok _)
  omega
/-- the period that the table tells, and a cut that shows it -/
theorem law_cut {ns ts : List Int} {i : Nat} (hT : IsTab ns ts) (hi : i + 1 < ns.length) : ∃ (p c : Nat), 2 + (i : Int) - ts.getD (2 + (i : Int) - 1).toNat 0 = (p : Int) ∧ 1 ≤ c ∧ (c ≤ p - 1 ∨ c = 1) ∧ c - 1 < (seenL (ns.take (2 + (i : Int)).toNat)).length ∧
    (seenL (ns.take (2 + (i : Int)).toNat))[c - 1]? = some (p : Int) ∧ ∀ a ∈ seenL (ns.take (2 + (i : Int)).toNat), a ≤ (p : Int) := by
  have e1 : (2 + (i : Int) - 1).toNat = i + 1 := by omega
  have e2 : (2 + (i : Int)).toNat = i + 2 := by omega
  rw [e1, e2]
  obtain ⟨t, et, m⟩ := hT.2 (i + 1) hi
  obtain ⟨h1, hP, hmin⟩ := maxBd_per (by omega) m
  have ht := m.1.1
  rw [getD_some et]
  have hl : (ns.take (i + 2)).length = i + 2 := by rw [List.length_take]; omega
  obtain ⟨c, hc1, hc2, hc3, hc4⟩ := critical (w := ns.take (i + 2)) (p := i + 1 + 1 - t) (by omega) h1 hP hmin
  have hlp : lp (ns.take (i + 2)) c = i + 1 + 1 - t := by
    have hs := lp_spec (ns.take (i + 2)) c
    have a := hs.2.2 _ h1 (hP.ok c)
    have b := hc4 _ hs.1 hs.2.1
    omega
  refine ⟨i + 1 + 1 - t, c, by omega, hc1, hc3, by rw [seenL_length, hl]; omega, ?_, seenL_le h1 hP⟩
  rw [seenL_at hc1 hc2, hlp]
theorem law_max {ns ts sn : List Int} {i : Nat} {M : Int} (hT : IsTab ns ts) (hi : i < ((ns.length : Int) + 1 - 2).toNat) (hsn : seenL (ns.take (2 + (i : Int)).toNat) = sn) (hM : M ∈ sn) (hm : ∀ a, a ∈ sn → a ≤ M) : 2 + (i : Int) - ts.getD (2 + (i : Int) - 1).toNat 0 = M := by
  obtain ⟨p, c, e, h1, h2, h3, h4, h5⟩ := law_cut (i := i) hT (by omega)
  rw [hsn] at h4 h5
  have a := h5 M hM
  have b := hm p (List.mem_of_getElem? h4)
  omega
theorem law_in {ns ts sn : List Int} {i : Nat} {q : Int} (hT : IsTab ns ts) (hi : i < ((ns.length : Int) + 1 - 2).toNat) (hsn : seenL (ns.take (2 + (i : Int)).toNat) = sn)
    (hq : q = if 2 + (i : Int) - ts.getD (2 + (i : Int) - 1).toNat 0 - 1 > 1 then 2 + (i : Int) - ts.getD (2 + (i : Int) - 1).toNat 0 - 1 else 1) : ((sn.take q.toNat).any fun x => x == 2 + (i : Int) - ts.getD (2 + (i : Int) - 1).toNat 0) = true := by
  obtain ⟨p, c, e, h1, h2, h3, h4, h5⟩ := law_cut (i := i) hT (by omega)
  rw [hsn] at h4 h3
  rw [e] at hq ⊢
  rw [List.any_eq_true]
  refine ⟨(p : Int), ?_, by simp⟩
  have hc : c - 1 < q.toNat := by
    split at hq <;> omega
  refine List.mem_of_getElem? (i := c - 1) ?_
  rw [List.getElem?_take, if_pos hc, h4]
/-! ## The head -/
set_option maxRecDepth 100000 in
set_option maxHeartbeats 8000000 in
open_top hd for PySem.Challenge.rw_mq0473_01
/-! ## The walk of _generate_overlap_table -/
section
local macro_rules | `(tactic| walk_at "mine tab") => `(tactic| repeat' ((fail_if_success (with_reducible show wpAny _ _ (pyIter (Value.ref _)) _ _ _)); (fail_if_success (with_reducible show wpAny _ _ (exec (Stmt.While _ _ _ _) _) _ _ _)); first | (k_unfold; (try dsimp only)) | (k_end; wrow_close) | walk1 | (dsimp only; walk1) | (leave1; walk_say "STEP leave1"; try dsimp only) | fail "no step"))
local macro_rules | `(tactic| walk_at "OnePost") => `(tactic| (dsimp only [OnePost]))
set_option maxRecDepth 100000 in
set_option maxHeartbeats 8000000 in
theorem tab_call {w : World} {mean : ExcName → Option Value} {mg mb : Str → Option Value}
    {dp un : Nat} {gd : Option (List Code)} {cn : Str} {cs : Scope} {a : Addr} {ccd : Value} {cl : List (Str × Addr)} {outer : List Env} {A₀ : Around} {base h₀ : Heap} {L : Addr} {m : Str → Option Value} {l d1 d2 : Addr} {o1 o2 : Obj} {s : Shared} {vs : List Value} {ns : List Int} {nn : Nat} {Q E : Value → Shared → Prop}
    (B : Below A₀ base outer h₀) (F : Fr h₀ L s.heap m) (X : (hd.heap_39 w.params).In h₀) (N : News h₀ L s.heap [(l, listOf vs.toArray nn), (d1, o1), (d2, o2)]) (T : PyProof.Rows.Top hd.view_39 (looseW hd.view_39 []) mean mg mb h₀) (hk : cs.kind = .function)
    (hI : IntsAre vs ns) (hn1 : 1 ≤ ns.length) (hn2 : ns.length ≤ 12) (hdp : dp + 1 < recursionLimit) (hun : un + 8 < cLine)
    (hret : ∀ (D : Addr) (tvs : List Value) (tn : Nat) (ts : List Int) (h' : Heap) (tk' : Nat), Fr h₀ L h' m → News h₀ L h' [(D, listOf tvs.toArray tn), (l, listOf vs.toArray nn), (d1, o1), (d2, o2)] → (@LT.lt Nat _ l D ∧ @LT.lt Nat _ d1 D ∧ @LT.lt Nat _ d2 D) → IntsAre tvs ts → IsTab ns ts → Q (.ref D) { s with heap := h', toks := tk' }) :
    wpAny (model Challenge.rw_mq0473_01.row.prog w) (ktrTop dp un gd cn cs L a ccd cl outer) (call (.ref 21) [.ref l]) Q E s := by
  revert X; k_fill; intro X
  refine wpAny_call ?_
  k_dflt cell_enter
  walk_at "mine tab"
  k_with "state" => exact tabInv_start rfl
  k_with "state" => exact tab_none (by assumption) (by assumption) kEq kLt hP2 (by assumption) (by assumption)
  k_with "state" => exact tab_hit (by assumption) (by assumption) kEq kLt hP0 hP1 hP2 (by assumption)
  k_state_given ["prefix"] (fun pfx pre tbl => tbl.length = pfx.length ∧ TabInv pfx pre tbl) "table"
  · walk_at "mine tab"
    rename_i F' N'
    refine one_while (x := Str.ofString "idx") (fun k => 0 ≤ k ∧ k < kN ∧ Inner ns kN.toNat k.toNat) Int.toNat F' N' rfl ?_ ?_
    · exact tab_first (by assumption) kEq kLt
    · intro k t h tk hP F' N'
      obtain ⟨hP0, hP1, hP2⟩ := hP
      walk_at "mine tab"
      rename_i F' N'
      have hX := tab_next (by assumption) kEq kLt hP0 hP1 hP2 (by assumption) (by assumption)
      refine one_end _ F' N' (fun p hp => hp) rfl ?_ hX.1 hX.2
      intro y hy
      simp only [if_neg hy]
  · walk_at "mine tab"
    rename_i kF kN _ _
    refine hret _ _ _ _ _ _ kF (news_drop2 kN) ?_ kFacts ?_
    · omega
    · exact tab_done (by assumption) (rangeKs_length _ _) (by assumption)
end
/-! ## The walk of _law_seen -/
section
local macro_rules | `(tactic| walk_at "mine seen") => `(tactic| repeat' ((fail_if_success (with_reducible show wpAny _ _ (exec (Stmt.While _ _ _ _) _) _ _ _)); (fail_if_success (with_reducible show wpAny _ _ (eval (Expr.ListComp _ _ _ _) _) _ _ _)); first | (k_unfold; (try dsimp only)) | (k_end; wrow_close) | walk1 | (dsimp only; walk1) | (leave1; walk_say "STEP leave1"; try dsimp only) | fail "no step"))
local macro_rules | `(tactic| walk_at "mine seen2") => `(tactic| repeat' (first | (k_unfold; (try dsimp only)) | (k_end; wrow_close) | walk1 | (dsimp only; walk1) | (leave1; walk_say "STEP leave1"; try dsimp only) | fail "no step"))
local macro_rules | `(tactic| walk_at "WhPost") => `(tactic| (dsimp only [WhPost]))
theorem off_all {d k : Nat} {l : List (Addr × Obj)} (h : AllLt d l) (hk : d ≤ k) : ∀ p ∈ l, p.1 ≠ k := fun p hp => Nat.ne_of_lt (Nat.lt_of_lt_of_le (kst_ltOf h p hp) hk)
local macro_rules | `(tactic| k_all) => `(tactic| exact off_all (by with_reducible assumption) (by omega))
local macro_rules | `(tactic| walk_at "call type:range") => `(tactic| (k_here; (with_reducible show wpAny _ _ (call _ [_, _]) _ _ _); k_dflt (refine' range_K ?k1 ?k2 ?_; (case k1 => k_asm); (case k2 => k_asm); k_whole); intro r' h' tk' t₁' u₁' v₁' a' b' ha' hb' F' N' l1; (try k_lt l1)))
set_option maxRecDepth 100000 in
set_option maxHeartbeats 8000000 in
theorem seen_call {w : World} {mean : ExcName → Option Value} {mg mb : Str → Option Value}
    {dp un : Nat} {gd : Option (List Code)} {cn : Str} {cs : Scope} {a : Addr} {ccd : Value} {cl : List (Str × Addr)} {outer : List Env} {A₀ : Around} {base h₀ : Heap} {L : Addr} {m : Str → Option Value} {l : Addr} {rest : List (Addr × Obj)} {s : Shared} {vs : List Value} {ns : List Int} {nn : Nat} {c : Int} {tc : Tok} {Q E : Value → Shared → Prop}
    (B : Below A₀ base outer h₀) (F : Fr h₀ L s.heap m) (X : (hd.heap_39 w.params).In h₀) (N : News h₀ L s.heap ((l, listOf vs.toArray nn) :: rest)) (T : PyProof.Rows.Top hd.view_39 (looseW hd.view_39 []) mean mg mb h₀) (hk : cs.kind = .function)
    (hI : IntsAre vs ns) (hn2 : ns.length ≤ 12) (hc0 : 1 ≤ c) (hc1 : c < ns.length) (hdp : dp + 1 < recursionLimit) (hun : un + 100 < cLine)
    (hret : ∀ (t : Tok) (h' : Heap) (tk' : Nat), Fr h₀ L h' m → News h₀ L h' ((l, listOf vs.toArray nn) :: rest) → Q (.int (lp ns c.toNat : Nat) t) { s with heap := h', toks := tk' }) :
    wpAny (model Challenge.rw_mq0473_01.row.prog w) (ktrTop dp un gd cn cs L a ccd cl outer) (call (.ref 26) [.ref l, .int c tc]) Q E s := by
  revert X; k_fill; intro X
  refine wpAny_call ?_
  k_dflt (refine' code_defC ?k1 ?k2 ?k3 ?k4 ?k5 ?kA ?kF ?kK ?k6 ?k7 ?k8 ?k9 ?kB ?kD ?_ ?c2 ?c3 ?c4; (case kA => exact rfl); (case kF => exact rfl); (case kK => assumption); (case k1 => k_asm); (case k2 => k_asm); (case k3 => k_asm); (case k4 => k_asm); (case k5 => k_asm); (case k6 => k_is); (case k7 => k_is); (case k8 => ktr_room); (case k9 => exact BindsTo.of_eq rfl); (case kB => exact rfl); (case kD => decide +kernel); (case c2 => exact rfl); (case c3 => exact rfl); (case c4 => exact rfl); k_whole; intro g' L' h' tk' cells' FG' F' N' Y' B' X' T' l1; (try k_lt l1); obtain ⟨oRep, oRow, hE', dRep, dRow⟩ := CellsAre.two Y'; subst hE'; clear Y'; (try simp only [List.cons_append, List.nil_append] at N'); (try dsimp only); (try k_fold))
  obtain ⟨hl1, hR⟩ := l1
  walk_at "mine seen"
  rename_i F' N' dRep
  refine wh_loop [Str.ofString "about"] (fun n nx => ∃ (r : Nat) (t : Tok) (o : Obj), nx = (L' + 1 + 1, o) :: (L' + 1, oRow) :: (l, listOf vs.toArray nn) :: rest ∧ o.data = .cell (some (.int (r : Nat) t)) ∧ Seek ns c.toNat r ∧ r ≤ ns.length ∧ n = ns.length - r) (ns.length - 1) F' N' ⟨1, _, _, rfl, dRep, ⟨by omega, fun q _ _ => by omega⟩, by omega, rfl⟩ ?_
  rintro n u nx h4 tk4 ⟨r, t, o, rfl, dR, hS, hr, rfl⟩ F4 N4
  have hr0 : 1 ≤ r := hS.1
  clear F' N'
  walk_at "mine seen"
  rename News _ _ _ _ => N5
  rename (_ = if _ > 0 then _ else _) => ha
  rename (_ = if _ < _ then _ else _) => hb
  obtain ⟨hA0, hA1, hA2⟩ := max_facts ha
  obtain ⟨hB0, hB1, hB2⟩ := min_facts hb
  clear ha hb
  have hRg : IsRange _ _ _ _ _ _ _ _ := N5.get (.head _)
  refine LCt.ListComp_T (F₀ := by k_asm) (by with_unfolding_all rfl) (by decide) (by rfl) (by decide) (by rfl) ?_
  walk1
  refine LCt.CompSrcT.range (by rfl) (by k_asm) (by k_asm) hRg (small_one (by omega) (by omega) (by omega) (by omega)) (rangeSize_nat _ _) (by rw [PySem.sizeLine_eq]; omega) ?_
  intro g6
  refine kci_range (fun l k => if ns.getD k.toNat 0 ≠ ns.getD (k + (r : Int)).toNat 0 then l ++ [k] else l) ?_ ?_ ?_
  · intro k' t' I' oI' C' oC' D' m' ys' l' h' tk' E' hlo' hhi' hI' hC' hx' F' N' off' ne' mk'
    walk_at "mine seen2"
    · rename_i hne
      exact LCg.CompEnd.intro F' N' _ (fun p hp => hp) off' trivial (kci_el (if_pos hne) rfl rfl)
    · rename_i he
      exact LCg.CompEnd.intro F' N' _ (fun p hp => hp) off' trivial (kci_no (if_neg (fun z => z he)) rfl)
  · unfold KPfDone
    intro ys hys hle D' h' tk' F' N' o1'
    simp only [LCg.Off1] at o1'
    have hiff := seen_ok hc0 hc1 hr0 hr hA0 hA1 hA2 hB0 hB1 hB2
    walk_at "mine seen2"
    · rename_i hdt kF kN _ _
      have e := seek_hit hS (hiff.1 (of_decide_eq_true hdt))
      rw [← e]
      exact hret t _ _ kF (fun p hp => kN p (.tail _ (.tail _ (.tail _ (.tail _ (.tail _ hp))))))
    · rename_i hdf h9 o9 F9 N9 dR9
      obtain ⟨hS', hlt⟩ := seek_next hS (fun z => of_decide_eq_false hdf (hiff.2 z))
      refine wh_end (ns.length - (r + 1)) _ F9 N9 (fun p hp => .tail _ (.tail _ (.tail _ hp))) ?_ ⟨r + 1, _, _, rfl, dR9, hS', by omega, rfl⟩ (by omega)
      intro z hz
      have hz' : z ≠ Str.ofString "about" := fun q => by subst q; simp at hz
      show (if z = _ then _ else if _ then _ else _) = _
      rw [if_neg hz', if_neg (by rw [hz]; exact Bool.false_ne_true)]
  · intro l k
    dsimp only
    split
    · simp
    · omega
end
theorem tab_head {w tbl : List Int} (h : 1 ≤ w.length) (hT : IsTab w tbl) : tbl.getD (Int.toNat 0) 0 = 0 := by
  obtain ⟨t, e, m⟩ := hT.2 0 (by omega)
  have := m.1.1
  have e0 : t = 0 := by omega
  subst e0
  exact getD_some e
end Mine

/-! ## The walk of the law -/
open Mine
local macro_rules | `(tactic| walk_at "mine law") => `(tactic| repeat' ((fail_if_success (with_reducible show wpAny _ _ (pyIter (Value.ref _)) _ _ _)); (fail_if_success (with_reducible show wpAny _ _ (exec (Stmt.For _ _ _ _ _) _) _ _ _)); (fail_if_success (with_reducible show wpAny _ _ (call (Value.ref _) _) _ _ _)); (fail_if_success (with_reducible show wpAny _ _ (exec (Stmt.While _ _ _ _) _) _ _ _)); first | (k_unfold; (try dsimp only)) | (k_end; wrow_close) | walk1 | (dsimp only; walk1) | (leave1; walk_say "STEP leave1"; try dsimp only) | fail "no step"))
local macro_rules | `(tactic| walk_at "mine law3") => `(tactic| repeat' ((fail_if_success (with_reducible show wpAny _ _ (call (Value.builtin "max") [Value.ref _]) _ _ _)); first | (k_unfold; (try dsimp only)) | (k_end; wrow_close) | walk1 | (dsimp only; walk1) | (leave1; walk_say "STEP leave1"; try dsimp only) | fail "no step"))
local macro_rules | `(tactic| walk_at "call ref") => `(tactic| (k_here; (with_reducible show wpAny _ _ (call (Value.ref 26) [Value.ref _, Value.int _ _]) _ _ _); k_dflt (refine' seen_call ?k1 ?k2 ?k3 ?k4 ?k5 ?k6 ?k7 ?k8 ?k9 ?k10 ?k11 ?k12 ?_; (case k1 => k_asm); (case k2 => k_asm); (case k3 => k_asm); (case k4 => k_asm); (case k5 => k_asm); (case k6 => rfl); (case k7 => assumption); (case k8 => omega); (case k9 => omega); (case k10 => omega); (case k11 => ktr_room); (case k12 => ktr_units); k_whole); intro t9 h9 tk9 F9 N9; (try dsimp only)))
local macro_rules | `(tactic| walk_at "mine law4") => `(tactic| repeat' ((fail_if_success (with_reducible show wpAny _ _ (execs (Stmt.Assign [Expr.Name (Str.ofString "table") _] _ _ :: _) _) _ _ _)); first | (k_unfold; (try dsimp only)) | (k_end; wrow_close) | walk1 | (dsimp only; walk1) | (leave1; walk_say "STEP leave1"; try dsimp only) | fail "no step"))
local macro_rules | `(tactic| walk_at "mine none") => `(tactic| skip)
set_option maxRecDepth 100000 in
set_option maxHeartbeats 8000000 in
theorem PySem.Challenge.cw_mq0473_01_holds : PySem.Challenge.rw_mq0473_01.Holds := by
  refine Mine.hd ?_
  k_with_none
  k_go0
  (all_goals try k_fold)
  rename Fr _ _ _ _ => F0
  refine cut3 (RowAt F0) ?_ ?_
  · rintro s' ⟨h', tk', D, ys, nn, ns, o1, o2, rfl, F', N', dr, ds, hlt, hI, h6, h12⟩
    walk_at "mine law"
    refine' tab_call ?k1 ?k2 ?k3 ?k4 ?k5 ?k6 ?k7 ?k8 ?k9 ?k10 ?k11 ?_
    (case k1 => k_asm); (case k2 => k_asm); (case k3 => k_asm); (case k4 => k_asm); (case k5 => k_asm); (case k6 => rfl); (case k7 => exact hI); (case k8 => omega); (case k9 => omega); (case k10 => ktr_room); (case k11 => ktr_units)
    intro D2 tvs tn ts h2 tk2 F2 N2 hl2 hI2 hT2
    have hTl := hT2.1
    have hT0 := tab_head (by omega) hT2
    clear F' N'
    walk_at "mine law"
    refine for_start ?_
    walk_at "mine law"
    rename IsRange _ _ _ _ _ _ _ _ => hR
    rename Fr _ _ _ _ => F3
    rename News _ _ _ _ => N3
    refine for_range [Str.ofString "seen", Str.ofString "period"] (fun _ nx => ∃ o2 ov, nx = [(D2, PySem.W.listOf tvs.toArray tn), (D, PySem.W.listOf ys.toArray nn), (_, o2), (_, o1)] ∧ o2.data = Data.cell ov) rfl hR (small_one (by omega) (by omega) (by omega) (by omega)) (rangeSize_nat _ _) F3 N3 ⟨o2, none, rfl, ds⟩ ?_ ?_ ?_
    · rintro i nx ⟨o3, ov, rfl, _⟩ p hp
      simp only [List.mem_cons, List.not_mem_nil, or_false] at hp
      rcases hp with rfl | rfl | rfl | rfl
      case inr.inr.inl => exact Heap.lt_size (N3 (_, o2) (.tail _ (.tail _ (.head _)))).1
      all_goals exact Heap.lt_size (N3 _ (by first | exact .head _ | exact .tail _ (.head _) | exact .tail _ (.tail _ (.tail _ (.head _))))).1
    · rintro I i u nx h3 tk3 t3 hi ⟨o3, ov, rfl, hov⟩ hlt3 F4 N4
      have hlt3 := allLt_of hlt3
      simp only [AllLt, and_true] at hlt3
      clear F3 N3 hR
      walk_at "mine law3"
      rename IntsAre _ _ => hI8
      rename (List.length _ = List.length _) => hL8
      have hwl : (List.take (2 + (i : Int)).toNat ns).length = min (2 + (i : Int)).toNat ns.length := List.length_take
      have hI9 := seenL_of hwl (by omega) (by omega) hI8
      have hS9 := seenL_length (List.take (2 + (i : Int)).toNat ns)
      generalize hsn : seenL (List.take (2 + (i : Int)).toNat ns) = sn at hI9 hS9
      clear hI8 hL8
      have hS9' : sn.length = 1 + i := by omega
      have hyl := hI9.length
      walk_at "mine law"
      · rename_i hM hm hne
        exact absurd (law_max hT2 hi hsn hM hm) hne
      · rename_i F9 N9 _ _ _ _ _ _ _
        rename (Obj.data _ = Data.cell (some (Value.int _ _))) => dS
        dsimp only [ForPost]
        refine for_end _ F9 N9 (fun p hp => .tail _ (.tail _ hp)) ?_ ⟨_, _, rfl, dS⟩
        intro z hz
        have hz1 : z ≠ Str.ofString "period" := fun q => by subst q; simp at hz
        have hz2 : z ≠ Str.ofString "seen" := fun q => by subst q; simp at hz
        show (if z = _ then _ else if z = _ then _ else if _ then _ else _) = _
        rw [if_neg hz1, if_neg hz2, if_neg (by rw [hz]; exact Bool.false_ne_true)]
      · rename_i hf
        exact absurd (law_in hT2 hi hsn rfl) (by rw [hf]; exact Bool.false_ne_true)
    · intro u nx h9 tk9 hJ F9 N9
      walk_at "mine law"
  · intro hrest
    walk_at "mine law4"
    all_goals (rename News _ _ _ _ => N8; rename Fr _ _ _ _ => F8; refine' hrest _ (rowAt_intro F0 F8 N8 ?m1 ?dr ?m2 ?hI ?m3 ?ds ?hne ?h6 ?h12); (case m1 => k_mem); (case dr => assumption); (case m2 => k_mem); (case hI => assumption); (case m3 => k_mem); (case ds => assumption); (case hne => omega); (case h6 => (simp only [List.length_map, List.length_append, List.length_take, List.length_cons, List.length_nil]; omega)); (case h12 => (simp only [List.length_map, List.length_append, List.length_take, List.length_cons, List.length_nil]; omega)))
