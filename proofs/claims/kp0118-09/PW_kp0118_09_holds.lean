import PyProof.Rows.All
import Wide.All
import OpenK.AllK
import Wide.FinOn
import Lean
import PySem.Challenge.RW_kp0118_09
set_option Elab.async false
set_option maxRecDepth 100000
set_option compiler.extract_closed false
set_option genSizeOf false
section
open PySem PySem.W PyProof.Rows
set_option linter.unusedVariables false
set_option Elab.async false
set_option maxRecDepth 100000
namespace Sx
/-! ## sorting: the merges of a long list -/
noncomputable def gallop' : Bool → Keyed → Array Keyed → Nat → Nat → Nat → StateT SortSt Sem (Option Nat) := sortPriv% PySem.Builtin.gallop
noncomputable def mergeLo' : Array Keyed → Array Keyed → StateT SortSt Sem (Array Keyed) := sortPriv% PySem.Builtin.mergeLo
noncomputable def mergeHi' : Array Keyed → Array Keyed → StateT SortSt Sem (Array Keyed) := sortPriv% PySem.Builtin.mergeHi
/-- one run's comparisons: L tells for all things of dom -/
structure LtOk (prog : Program) (w : World) (A : Around) (s : Shared) (dom : Keyed → Prop) (L : Keyed → Keyed → Bool) : Prop where
  lt : ∀ (E : Value → Shared → Prop) (st : SortSt) (p q : Keyed) (Q : Option Bool → SortSt → Prop), dom p → dom q → kindOf st = oneType' → Q (some (L p q)) st → wpS (model prog w) A E s (lt' p q) Q st
  irrefl : ∀ a, L a a = false
  trans : ∀ a b c, L a b = true → L b c = true → L a c = true
  neg : ∀ a b c, L a c = true → L a b = true ∨ L b c = true
section
variable {prog : Program} {w : World} {A : Around} {E : Value → Shared → Prop} {s : Shared} {dom : Keyed → Prop} {L : Keyed → Keyed → Bool}
theorem wpS_elem {arr : Array Keyed} {i : Nat} {p : Keyed} {st : SortSt} {Q : Keyed → SortSt → Prop} (h : arr[i]? = some p) (hQ : Q p st) : wpS (model prog w) A E s (elem' arr i) Q st := by
  rw [elem'_eq, h]; exact wpS_pure hQ
theorem gallop_bin {n c : Nat} {st : SortSt} {F : Nat → Option (Option Nat) × Nat × Nat → StateT SortSt Sem (ForInStep (Option (Option Nat) × Nat × Nat))}
    (h1 : ∀ x lo hi (Q' : ForInStep (Option (Option Nat) × Nat × Nat) → SortSt → Prop), hi ≤ lo → Q' (.done (none, lo, hi)) st → wpS (model prog w) A E s (F x (none, lo, hi)) Q' st)
    (h2 : ∀ x lo hi (Q' : ForInStep (Option (Option Nat) × Nat × Nat) → SortSt → Prop), lo < hi → hi ≤ n → (lo + (hi - lo) / 2 < c → Q' (.yield (none, lo + (hi - lo) / 2 + 1, hi)) st) → (c ≤ lo + (hi - lo) / 2 → Q' (.yield (none, lo, lo + (hi - lo) / 2)) st) → wpS (model prog w) A E s (F x (none, lo, hi)) Q' st)
    {lo hi : Nat} (hl : lo ≤ c) (hr : c ≤ hi) (hn : hi ≤ n) : wpS (model prog w) A E s (forIn [:n] (none, lo, hi) F) (fun r st' => st' = st ∧ ∃ l, r = (none, l, c)) st := by
  refine wpS_forRange (I := fun x r st' => st' = st ∧ ∃ lo hi, r = (none, lo, hi) ∧ lo ≤ c ∧ c ≤ hi ∧ hi ≤ n ∧ hi - lo ≤ n - x) ?_ ?_ ⟨rfl, lo, hi, rfl, hl, hr, hn, by omega⟩
  · rintro x _ _ _ hx ⟨rfl, lo, hi, rfl, a1, a2, a3, a4⟩
    rcases Nat.lt_or_ge lo hi with h | h
    · refine h2 x lo hi _ h a3 (fun hm => ⟨rfl, _, _, rfl, hm, a2, a3, ?_⟩) (fun hm => ⟨rfl, _, _, rfl, a1, hm, ?_, ?_⟩) <;> omega
    · refine h1 x lo hi _ h ⟨rfl, lo, ?_⟩
      rw [show hi = c by omega]
  · rintro _ _ ⟨rfl, lo, hi, rfl, a1, a2, a3, a4⟩
    refine ⟨rfl, lo, ?_⟩
    rw [show hi = c by omega]
theorem gallop_ok (O : LtOk prog w A s dom L) {left : Bool} {key : Keyed} {arr : Array Keyed} {base n hint c : Nat} {st : SortSt} {Q : Option Nat → SortSt → Prop} (hk : kindOf st = oneType')
    (hkey : dom key) (hdom : ∀ i, i < n → ∃ p, arr[base + i]? = some p ∧ dom p ∧ (if left then L p key else !L key p) = decide (i < c)) (hc : c ≤ n) (hh : hint < n) (hQ : Q (some c) st) :
    wpS (model prog w) A E s (gallop' left key arr base n hint) Q st := by
  unfold gallop'
  have beyond : ∀ (i : Nat) (Q' : Option Bool → SortSt → Prop), i < n → Q' (some (decide (i < c))) st → wpS (model prog w) A E s (do
      let x ← elem' arr (base + i)
      if left then lt' x key else return (← lt' key x).map (!·)) Q' st := by
    intro i Q' hi hq
    obtain ⟨p, hp, hd, he⟩ := hdom i hi
    refine wpS_bind (wpS_elem hp ?_)
    cases left with
    | true => exact O.lt _ _ _ _ _ hd hkey hk (by rw [show L p key = _ from he]; exact hq)
    | false =>
      refine wpS_bind (O.lt _ _ _ _ _ hkey hd hk (wpS_pure ?_))
      show Q' (some (!L key p)) st
      rw [show (!L key p) = _ from he]; exact hq
  refine wpS_bind (beyond hint _ hh ?_)
  rcases Nat.lt_or_ge hint c with hhc | hhc
  · rw [decide_eq_true hhc]
    dsimp only
    rw [if_pos rfl]
    refine wpS_bind (wpS_mono (wpS_forRange (I := fun x r st' => st' = st ∧ ∃ la ofs, r = (none, la, ofs) ∧ hint + la < c ∧ la < ofs ∧ x + 1 ≤ ofs)
      (Q := fun r st' => st' = st ∧ ∃ la ofs, r = (none, la, ofs) ∧ hint + la < c ∧ (n - hint ≤ ofs ∨ c ≤ hint + ofs)) ?_ ?_ ⟨rfl, 0, 1, rfl, by omega, by omega, by omega⟩) ?_)
    · rintro x _ _ _ hx ⟨rfl, la, ofs, rfl, a1, a2, a3⟩
      dsimp only
      by_cases ho : ofs ≥ n - hint
      · rw [if_pos ho]; exact wpS_pure ⟨rfl, la, ofs, rfl, a1, .inl ho⟩
      · rw [if_neg ho]
        refine wpS_bind (beyond (hint + ofs) _ (by omega) ?_)
        rcases Nat.lt_or_ge (hint + ofs) c with h | h
        · rw [decide_eq_true h]; exact wpS_pure ⟨rfl, _, _, rfl, h, by omega, by omega⟩
        · rw [decide_eq_false (by omega)]; exact wpS_pure ⟨rfl, la, ofs, rfl, a1, .inr h⟩
    · rintro _ _ ⟨rfl, la, ofs, rfl, a1, a2, a3⟩
      exact ⟨rfl, la, ofs, rfl, a1, .inl (by omega)⟩
    · rintro _ _ ⟨rfl, la, ofs, rfl, a1, a2⟩
      dsimp only
      refine wpS_bind (wpS_mono (gallop_bin (c := c) ?_ ?_ (by omega) (by omega) (by omega)) ?_)
      · intro x lo hi Q' h hq
        dsimp only
        rw [if_pos h]; exact wpS_pure hq
      · intro x lo hi Q' h hn q1 q2
        dsimp only
        rw [if_neg (by omega)]
        refine wpS_bind (beyond (lo + (hi - lo) / 2) _ (by omega) ?_)
        rcases Nat.lt_or_ge (lo + (hi - lo) / 2) c with h | h
        · rw [decide_eq_true h]; exact wpS_pure (q1 h)
        · rw [decide_eq_false (by omega)]; exact wpS_pure (q2 h)
      · rintro _ _ ⟨rfl, l, rfl⟩
        exact wpS_pure hQ
  · rw [decide_eq_false (by omega)]
    dsimp only
    rw [if_neg (by decide)]
    refine wpS_bind (wpS_mono (wpS_forRange (I := fun x r st' => st' = st ∧ ∃ la ofs, r = (none, la, ofs) ∧ c ≤ hint - la ∧ la ≤ hint ∧ la < ofs ∧ x + 1 ≤ ofs)
      (Q := fun r st' => st' = st ∧ ∃ la ofs, r = (none, la, ofs) ∧ c ≤ hint - la ∧ la ≤ hint ∧ (hint + 1 ≤ ofs ∨ hint - ofs < c)) ?_ ?_ ⟨rfl, 0, 1, rfl, by omega, by omega, by omega, by omega⟩) ?_)
    · rintro x _ _ _ hx ⟨rfl, la, ofs, rfl, a1, a2, a3, a4⟩
      dsimp only
      by_cases ho : ofs ≥ hint + 1
      · rw [if_pos ho]; exact wpS_pure ⟨rfl, la, ofs, rfl, a1, a2, .inl ho⟩
      · rw [if_neg ho]
        refine wpS_bind (beyond (hint - ofs) _ (by omega) ?_)
        rcases Nat.lt_or_ge (hint - ofs) c with h | h
        · rw [decide_eq_true h]; exact wpS_pure ⟨rfl, la, ofs, rfl, a1, a2, .inr h⟩
        · rw [decide_eq_false (by omega)]; exact wpS_pure ⟨rfl, _, _, rfl, h, by omega, by omega, by omega⟩
    · rintro _ _ ⟨rfl, la, ofs, rfl, a1, a2, a3, a4⟩
      exact ⟨rfl, la, ofs, rfl, a1, a2, .inl (by omega)⟩
    · rintro _ _ ⟨rfl, la, ofs, rfl, a1, a2, a3⟩
      dsimp only
      refine wpS_bind (wpS_mono (gallop_bin (c := c) ?_ ?_ (by omega) (by omega) (by omega)) ?_)
      · intro x lo hi Q' h hq
        dsimp only
        rw [if_pos h]; exact wpS_pure hq
      · intro x lo hi Q' h hn q1 q2
        dsimp only
        rw [if_neg (by omega)]
        refine wpS_bind (beyond (lo + (hi - lo) / 2) _ (by omega) ?_)
        rcases Nat.lt_or_ge (lo + (hi - lo) / 2) c with h | h
        · rw [decide_eq_true h]; exact wpS_pure (q1 h)
        · rw [decide_eq_false (by omega)]; exact wpS_pure (q2 h)
      · rintro _ _ ⟨rfl, l, rfl⟩
        exact wpS_pure hQ
end
end Sx
end
section
open PySem PySem.W PyProof.Rows
set_option linter.unusedVariables false
set_option Elab.async false
set_option maxRecDepth 100000
namespace Sx
noncomputable def mrg (L : Keyed → Keyed → Bool) (xs ys : List Keyed) : List Keyed := List.merge xs ys (fun a b => !L b a)
section
variable {L : Keyed → Keyed → Bool}
theorem mrg_nil (xs : List Keyed) : mrg L xs [] = xs := by unfold mrg; cases xs <;> simp
theorem nil_mrg (ys : List Keyed) : mrg L [] ys = ys := by unfold mrg; cases ys <;> simp
theorem mrg_b {a b : Keyed} {xs ys : List Keyed} (h : L b a = true) : mrg L (a :: xs) (b :: ys) = b :: mrg L (a :: xs) ys := by
  unfold mrg; rw [List.cons_merge_cons]; simp [h]
theorem mrg_a {a b : Keyed} {xs ys : List Keyed} (h : L b a = false) : mrg L (a :: xs) (b :: ys) = a :: mrg L xs (b :: ys) := by
  unfold mrg; rw [List.cons_merge_cons]; simp [h]
theorem mrg_ga {b : Keyed} {ys : List Keyed} : ∀ (k : Nat) (xs : List Keyed), (∀ x ∈ xs.take k, L b x = false) → mrg L xs (b :: ys) = xs.take k ++ mrg L (xs.drop k) (b :: ys)
  | 0, xs, _ => rfl
  | k + 1, [], _ => rfl
  | k + 1, x :: xs, h => by
    rw [mrg_a (h x List.mem_cons_self), mrg_ga k xs fun y hy => h y (List.mem_cons_of_mem _ hy)]; rfl
theorem mrg_gb {a : Keyed} {xs : List Keyed} : ∀ (k : Nat) (ys : List Keyed), (∀ y ∈ ys.take k, L y a = true) → mrg L (a :: xs) ys = ys.take k ++ mrg L (a :: xs) (ys.drop k)
  | 0, ys, _ => rfl
  | k + 1, [], _ => rfl
  | k + 1, y :: ys, h => by
    rw [mrg_b (h y List.mem_cons_self), mrg_gb k ys fun z hz => h z (List.mem_cons_of_mem _ hz)]; rfl
theorem mrg_last {a : Keyed} {ys : List Keyed} (h : ∀ y ∈ ys, L y a = true) : mrg L [a] ys = ys ++ [a] := by
  rw [mrg_gb ys.length ys (by rw [List.take_length]; exact h), List.take_length, List.drop_length, mrg_nil]
theorem drop_at {α : Type} {xs : Array α} {i : Nat} {p : α} (h : xs[i]? = some p) : xs.toList.drop i = p :: xs.toList.drop (i + 1) := by
  obtain ⟨hi, rfl⟩ := Array.getElem?_eq_some_iff.mp h
  exact List.drop_eq_getElem_cons (by simpa using hi)
theorem ext_take {α : Type} (xs : Array α) (i j : Nat) : (xs.extract i j).toList = (xs.toList.drop i).take (j - i) := by
  exact Array.toList_extract
theorem ext_drop {α : Type} (xs : Array α) (i : Nat) : (xs.extract i).toList = xs.toList.drop i := by
  rw [ext_take]; exact List.take_of_length_le (Nat.le_of_eq List.length_drop)
/-- a falling truth has a place where it falls -/
theorem cut_at : ∀ (n : Nat) (f : Nat → Bool), (∀ i j, i ≤ j → j < n → f j = true → f i = true) → ∃ c, c ≤ n ∧ ∀ i, i < n → f i = decide (i < c)
  | 0, f, _ => ⟨0, Nat.le_refl _, fun i h => absurd h (Nat.not_lt_zero i)⟩
  | n + 1, f, h => by
    obtain ⟨c, hc, he⟩ := cut_at n f fun i j hij hj => h i j hij (Nat.lt_succ_of_lt hj)
    cases hn : f n with
    | true => exact ⟨n + 1, Nat.le_refl _, fun i hi => by rw [h i n (Nat.le_of_lt_succ hi) (Nat.lt_succ_self n) hn, decide_eq_true hi]⟩
    | false =>
      refine ⟨c, Nat.le_succ_of_le hc, fun i hi => ?_⟩
      rcases Nat.lt_or_ge i n with hlt | hge
      · exact he i hlt
      · have : i = n := Nat.le_antisymm (Nat.le_of_lt_succ hi) hge
        subst this
        rw [hn, decide_eq_false (Nat.not_lt.mpr hc)]
noncomputable def SortedA (L : Keyed → Keyed → Bool) (xs : Array Keyed) : Prop := ∀ (i j : Nat) (p q : Keyed), i ≤ j → xs[i]? = some p → xs[j]? = some q → L q p = false
end
section
variable {prog : Program} {w : World} {A : Around} {E : Value → Shared → Prop} {s : Shared} {dom : Keyed → Prop} {L : Keyed → Keyed → Bool}
noncomputable def atD (xs : Array Keyed) (i : Nat) : Keyed := (xs[i]?).getD (.none, .none)
theorem atD_get {xs : Array Keyed} {i : Nat} (h : i < xs.size) : xs[i]? = some (atD xs i) := by unfold atD; rw [getElem?_pos xs i h]; rfl
/-- how many of a sorted stretch do not come after key -/
theorem cut_right (O : LtOk prog w A s dom L) {xs : Array Keyed} (hs : SortedA L xs) (key : Keyed) (base n : Nat) (hn : base + n ≤ xs.size) :
    ∃ c, c ≤ n ∧ ∀ i, i < n → (!L key (atD xs (base + i))) = decide (i < c) := cut_at n _ fun i j hij hj h => by
  have h1 := hs (base + i) (base + j) _ _ (Nat.add_le_add_left hij _) (atD_get (by omega)) (atD_get (by omega))
  cases hk : L key (atD xs (base + i)) with
  | false => rfl
  | true =>
    rcases O.neg _ (atD xs (base + j)) _ hk with h2 | h2
    · rw [h2] at h; cases h
    · rw [h2] at h1; cases h1
theorem cut_left (O : LtOk prog w A s dom L) {xs : Array Keyed} (hs : SortedA L xs) (key : Keyed) (base n : Nat) (hn : base + n ≤ xs.size) :
    ∃ c, c ≤ n ∧ ∀ i, i < n → L (atD xs (base + i)) key = decide (i < c) := cut_at n _ fun i j hij hj h => by
  have h1 := hs (base + i) (base + j) _ _ (Nat.add_le_add_left hij _) (atD_get (by omega)) (atD_get (by omega))
  rcases O.neg _ (atD xs (base + i)) _ h with h2 | h2
  · rw [h2] at h1; cases h1
  · exact h2
theorem gallop_r (O : LtOk prog w A s dom L) {key : Keyed} {xs : Array Keyed} {base n hint : Nat} {st : SortSt} {Q : Option Nat → SortSt → Prop} (hk : kindOf st = oneType') (hs : SortedA L xs) (hd : ∀ i < xs.size, dom (atD xs i)) (hkey : dom key) (hn : base + n ≤ xs.size) (hh : hint < n)
    (hQ : ∀ c, c ≤ n → (∀ i, i < c → L key (atD xs (base + i)) = false) → (∀ i, c ≤ i → i < n → L key (atD xs (base + i)) = true) → Q (some c) st) : wpS (model prog w) A E s (gallop' false key xs base n hint) Q st := by
  obtain ⟨c, hc, he⟩ := cut_right O hs key base n hn
  refine gallop_ok O hk hkey (c := c) (fun i hi => ⟨_, atD_get (by omega), hd _ (by omega), he i hi⟩) hc hh (hQ c hc (fun i hi => ?_) (fun i h1 h2 => ?_))
  · have := he i (by omega); rw [decide_eq_true hi] at this; simpa using this
  · have := he i h2; rw [decide_eq_false (by omega)] at this; simpa using this
theorem gallop_l (O : LtOk prog w A s dom L) {key : Keyed} {xs : Array Keyed} {base n hint : Nat} {st : SortSt} {Q : Option Nat → SortSt → Prop} (hk : kindOf st = oneType') (hs : SortedA L xs) (hd : ∀ i < xs.size, dom (atD xs i)) (hkey : dom key) (hn : base + n ≤ xs.size) (hh : hint < n)
    (hQ : ∀ c, c ≤ n → (∀ i, i < c → L (atD xs (base + i)) key = true) → (∀ i, c ≤ i → i < n → L (atD xs (base + i)) key = false) → Q (some c) st) : wpS (model prog w) A E s (gallop' true key xs base n hint) Q st := by
  obtain ⟨c, hc, he⟩ := cut_left O hs key base n hn
  refine gallop_ok O hk hkey (c := c) (fun i hi => ⟨_, atD_get (by omega), hd _ (by omega), he i hi⟩) hc hh (hQ c hc (fun i hi => ?_) (fun i h1 h2 => ?_))
  · have := he i (by omega); rwa [decide_eq_true hi] at this
  · have := he i h2; rwa [decide_eq_false (by omega)] at this
end
end Sx
end
section
open PySem PySem.W PyProof.Rows
set_option linter.unusedVariables false
set_option Elab.async false
set_option maxRecDepth 100000
namespace Sx
/-- the two to be merged, and what the merge gives -/
structure Two {prog : Program} {w : World} {A : Around} {s : Shared} {dom : Keyed → Prop} {L : Keyed → Keyed → Bool} (O : LtOk prog w A s dom L) (a b : Array Keyed) : Prop where
  sa : SortedA L a
  sb : SortedA L b
  da : ∀ i < a.size, dom (atD a i)
  db : ∀ i < b.size, dom (atD b i)
  pa : 0 < a.size
  pb : 0 < b.size
  first : L (atD b 0) (atD a 0) = true
  last : ∀ i < b.size, L (atD b i) (atD a (a.size - 1)) = true
noncomputable def mOf (L : Keyed → Keyed → Bool) (a b : Array Keyed) : List Keyed := mrg L a.toList b.toList
noncomputable def MI (L : Keyed → Keyed → Bool) (a b : Array Keyed) (out : Array Keyed) (ia ib : Nat) : Prop := out.toList ++ mrg L (a.toList.drop ia) (b.toList.drop ib) = mOf L a b
section
variable {prog : Program} {w : World} {A : Around} {E : Value → Shared → Prop} {s : Shared} {dom : Keyed → Prop} {L : Keyed → Keyed → Bool} {O : LtOk prog w A s dom L} {a b : Array Keyed}
theorem dropD {xs : Array Keyed} {i : Nat} (h : i < xs.size) : xs.toList.drop i = atD xs i :: xs.toList.drop (i + 1) := drop_at (atD_get h)
theorem drop_end {xs : Array Keyed} {i : Nat} (h : xs.size ≤ i) : xs.toList.drop i = [] := List.drop_eq_nil_of_le (by simpa using h)
theorem mem_takeD {xs : Array Keyed} {i k : Nat} {p : Keyed} (h : p ∈ (xs.toList.drop i).take k) : ∃ j, j < k ∧ i + j < xs.size ∧ p = atD xs (i + j) := by
  obtain ⟨j, hj, e⟩ := List.getElem_of_mem h
  rw [List.length_take, List.length_drop] at hj
  have hs : i + j < xs.size := by have : xs.toList.length = xs.size := Array.length_toList; omega
  refine ⟨j, by omega, hs, ?_⟩
  rw [List.getElem_take, List.getElem_drop] at e
  have := atD_get hs
  rw [getElem?_pos xs _ hs] at this
  rw [← e, Array.getElem_toList]; exact Option.some.inj this
theorem MI.done (T : Two O a b) {out : Array Keyed} {ia ib : Nat} (h : MI L a b out ia ib) (hb : ib = b.size ∨ ia = a.size) : (out ++ a.extract ia ++ b.extract ib).toList = mOf L a b := by
  rw [Array.toList_append, Array.toList_append, ext_drop, ext_drop, ← h, List.append_assoc]
  rcases hb with rfl | rfl
  · rw [drop_end (Nat.le_refl _), mrg_nil, List.append_nil]
  · rw [drop_end (Nat.le_refl a.size), nil_mrg]; rfl
theorem MI.lastA (T : Two O a b) {out : Array Keyed} {ia ib : Nat} (h : MI L a b out ia ib) (ha : ia + 1 = a.size) : (out ++ b.extract ib ++ a.extract ia).toList = mOf L a b := by
  rw [Array.toList_append, Array.toList_append, ext_drop, ext_drop, ← h, List.append_assoc, dropD (by omega : ia < a.size), drop_end (Nat.le_of_eq ha.symm)]
  rw [mrg_last fun y hy => ?_]
  obtain ⟨j, _, hj, rfl⟩ := mem_takeD (k := (b.toList.drop ib).length) (by rw [List.take_length]; exact hy)
  have := T.last _ hj
  rwa [show a.size - 1 = ia by omega] at this
theorem MI.start (T : Two O a b) : MI L a b #[atD b 0] 0 1 := by
  unfold MI mOf
  have e1 := dropD T.pa
  have e2 := dropD T.pb
  rw [List.drop_zero] at e1 e2
  rw [List.drop_zero, e1, e2, mrg_b T.first]; rfl
theorem MI.pushB {out : Array Keyed} {ia ib : Nat} (h : MI L a b out ia ib) (ha : ia < a.size) (hb : ib < b.size) (hl : L (atD b ib) (atD a ia) = true) : MI L a b (out.push (atD b ib)) ia (ib + 1) := by
  unfold MI at h ⊢
  rw [dropD ha, dropD hb, mrg_b hl] at h
  rw [Array.toList_push, List.append_assoc, dropD ha]; exact h
theorem MI.pushA {out : Array Keyed} {ia ib : Nat} (h : MI L a b out ia ib) (ha : ia < a.size) (hb : ib < b.size) (hl : L (atD b ib) (atD a ia) = false) : MI L a b (out.push (atD a ia)) (ia + 1) ib := by
  unfold MI at h ⊢
  rw [dropD ha, dropD hb, mrg_a hl] at h
  rw [Array.toList_push, List.append_assoc, dropD hb]; exact h
theorem MI.galA {out : Array Keyed} {ia ib k : Nat} (h : MI L a b out ia ib) (hb : ib < b.size) (hl : ∀ j, j < k → L (atD b ib) (atD a (ia + j)) = false) : MI L a b (out ++ a.extract ia (ia + k)) (ia + k) ib := by
  unfold MI at h ⊢
  rw [dropD hb, mrg_ga k _ fun x hx => ?_] at h
  · rw [Array.toList_append, ext_take, Nat.add_sub_cancel_left, List.append_assoc, dropD hb, ← List.drop_drop]; exact h
  · obtain ⟨j, hj, _, rfl⟩ := mem_takeD hx
    exact hl j hj
theorem MI.galB {out : Array Keyed} {ia ib k : Nat} (h : MI L a b out ia ib) (ha : ia < a.size) (hl : ∀ j, j < k → L (atD b (ib + j)) (atD a ia) = true) : MI L a b (out ++ b.extract ib (ib + k)) ia (ib + k) := by
  unfold MI at h ⊢
  rw [dropD ha, mrg_gb k _ fun x hx => ?_, List.drop_drop] at h
  · rw [Array.toList_append, ext_take, Nat.add_sub_cancel_left, List.append_assoc, dropD ha]; exact h
  · obtain ⟨j, hj, _, rfl⟩ := mem_takeD hx
    exact hl j hj
/-- the state but for the gallop's threshold -/
noncomputable def Same (st st' : SortSt) : Prop := kindOf st' = kindOf st ∧ arrOf st' = arrOf st ∧ pendingOf st' = pendingOf st ∧ failedOf st' = failedOf st
theorem Same.refl (st : SortSt) : Same st st := ⟨rfl, rfl, rfl, rfl⟩
theorem Same.trans {a b c : SortSt} (h : Same a b) (k : Same b c) : Same a c := ⟨k.1.trans h.1, k.2.1.trans h.2.1, k.2.2.1.trans h.2.2.1, k.2.2.2.trans h.2.2.2⟩
noncomputable def setMG' : Nat → StateT SortSt Sem Unit := sortPriv% PySem.Builtin.setMinGallop
theorem wpS_setMG {g : Nat} {st : SortSt} {Q : Unit → SortSt → Prop} (h : ∀ st', Same st st' → Q () st') : wpS (model prog w) A E s (setMG' g) Q st := by
  unfold setMG'
  exact wpS_modify (h _ ⟨rfl, rfl, rfl, rfl⟩)
theorem beqT {a b : Nat} (h : a = b) : (a == b) = true := by rw [h]; exact beq_self_eq_true b
theorem beqF {a b : Nat} (h : ¬ a = b) : ¬ (a == b) = true := fun q => h (eq_of_beq q)
noncomputable abbrev R7 := Option (Array Keyed) × Array Keyed × Nat × Nat × Nat × Nat × Nat
noncomputable abbrev R3 := Option (Array Keyed) × Array Keyed × Nat × Nat × Nat
noncomputable abbrev R5 := Option (Array Keyed) × Array Keyed × Nat × Nat × Nat × Nat
structure LoI (L : Keyed → Keyed → Bool) (a b : Array Keyed) (n : Nat) (out : Array Keyed) (ia ib : Nat) : Prop where
  m : MI L a b out ia ib
  ha : ia + 1 < a.size
  hb : ib < b.size
  hn : n ≤ ia + ib
/-- what stands when a part of the merge is over: it is done, or it goes on further along -/
noncomputable def Got (L : Keyed → Keyed → Bool) (a b : Array Keyed) (n : Nat) (r : Option (Array Keyed)) (out : Array Keyed) (ia ib : Nat) : Prop :=
  (∃ o, r = some o ∧ o.toList = mOf L a b) ∨ (r = none ∧ LoI L a b n out ia ib)
theorem got_some {n : Nat} {o out : Array Keyed} {ia ib : Nat} (h : o.toList = mOf L a b) : Got L a b n (some o) out ia ib := .inl ⟨o, rfl, h⟩
theorem got_none {n : Nat} {out : Array Keyed} {ia ib : Nat} (h : LoI L a b n out ia ib) : Got L a b n none out ia ib := .inr ⟨rfl, h⟩
theorem LoI.end {n : Nat} {out : Array Keyed} {ia ib : Nat} (h : LoI L a b n out ia ib) (hn : a.size + b.size ≤ n) : False := by
  have h1 := h.ha; have h2 := h.hb; have h3 := h.hn
  omega
theorem LoI.ha' {n : Nat} {out : Array Keyed} {ia ib : Nat} (h : LoI L a b n out ia ib) : ia < a.size := Nat.lt_of_succ_lt h.ha
theorem LoI.weak {n m : Nat} {out : Array Keyed} {ia ib : Nat} (h : LoI L a b n out ia ib) (hm : m ≤ n) : LoI L a b m out ia ib := ⟨h.m, h.ha, h.hb, Nat.le_trans hm h.hn⟩
theorem lo_start {i n : Nat} (h : i < n) (h2 : ¬ i + 1 = n) : i + 1 < n := Nat.lt_of_le_of_ne h h2
theorem lo_le (x y : Nat) : x + 2 ≤ x + 1 + y + 1 := Nat.succ_le_succ (Nat.le_add_right _ _)
theorem LoI.moveA {n : Nat} {out out' : Array Keyed} {ia ib : Nat} (h : LoI L a b n out ia ib) (hm : MI L a b out' (ia + 1) ib) (h2 : ¬ ia + 1 + 1 = a.size) : LoI L a b (n + 1) out' (ia + 1) ib :=
  ⟨hm, lo_start h.ha h2, h.hb, by have := h.hn; omega⟩
theorem LoI.moveB {n : Nat} {out out' : Array Keyed} {ia ib : Nat} (h : LoI L a b n out ia ib) (hm : MI L a b out' ia (ib + 1)) (h2 : ¬ ib + 1 = b.size) : LoI L a b (n + 1) out' ia (ib + 1) :=
  ⟨hm, h.ha, lo_start h.hb h2, by have := h.hn; omega⟩
theorem wpS_ite {β : Type} {c : Prop} [Decidable c] {p q : StateT SortSt Sem β} {Q : β → SortSt → Prop} {st : SortSt} (h2 : ¬ c → wpS (model prog w) A E s q Q st) (h1 : c → wpS (model prog w) A E s p Q st) : wpS (model prog w) A E s (if c then p else q) Q st := by
  by_cases h : c
  · rw [if_pos h]; exact h1 h
  · rw [if_neg h]; exact h2 h
theorem wpS_eq {β : Type} {x y : Nat} {p q : StateT SortSt Sem β} {Q : β → SortSt → Prop} {st : SortSt} (h1 : x = y → wpS (model prog w) A E s p Q st) (h2 : ¬ x = y → wpS (model prog w) A E s q Q st) : wpS (model prog w) A E s (if (x == y) = true then p else q) Q st :=
  wpS_ite (fun h => h2 fun e => h (beqT e)) fun h => h1 (eq_of_beq h)
/-- what comes behind two ways is walked once -/
theorem wpS_jp1 {ρ γ β : Type} {st : SortSt} {Q : β → SortSt → Prop} {m : StateT SortSt Sem β} {v : ρ → γ → StateT SortSt Sem β} (tail : ∀ u z, wpS (model prog w) A E s (v u z) Q st) (main : (∀ u z, wpS (model prog w) A E s (v u z) Q st) → wpS (model prog w) A E s m Q st) : wpS (model prog w) A E s m Q st := main tail
theorem wpS_jp2 {ρ γ δ β : Type} {st : SortSt} {Q : β → SortSt → Prop} {m : StateT SortSt Sem β} (P : γ → δ → Prop) {v : ρ → γ → δ → StateT SortSt Sem β} (tail : ∀ u z y, P z y → wpS (model prog w) A E s (v u z y) Q st) (main : (∀ u z y, P z y → wpS (model prog w) A E s (v u z y) Q st) → wpS (model prog w) A E s m Q st) : wpS (model prog w) A E s m Q st := main tail
theorem add_sub_le {i n : Nat} (h : i < n) : i + (n - i) ≤ n := Nat.le_of_eq (Nat.add_sub_cancel' (Nat.le_of_lt h))
theorem mergeLo_ok (T : Two O a b) {st : SortSt} {Q : Array Keyed → SortSt → Prop} (hk : kindOf st = oneType') (hQ : ∀ o st', Same st st' → o.toList = mOf L a b → Q o st') :
    wpS (model prog w) A E s (mergeLo' a b) Q st := by
  have pa := T.pa
  have pb := T.pb
  have h0 := MI.start T
  unfold mergeLo'
  refine wpS_bind (wpS_lift (wpAny_rule ⟨rfl, ?_⟩))
  refine wpS_bind (wpS_elem (atD_get pb) ?_)
  refine wpS_eq (fun c1 => wpS_pure (hQ _ _ (.refl _) (h0.done T (.inl c1)))) fun c1 => ?_
  refine wpS_eq (fun c2 => wpS_pure (hQ _ _ (.refl _) (h0.lastA T c2))) fun c2 => ?_
  refine wpS_bind (wpS_get ?_)
  refine wpS_bind (wpS_mono (wpS_forRange (I := fun x (r : R3) st' => Same st st' ∧ LoI L a b (x + 1) r.2.1 r.2.2.1 r.2.2.2.1)
    (Q := fun (r : R3) st' => Same st st' ∧ Got L a b (a.size + b.size) r.1 r.2.1 r.2.2.1 r.2.2.2.1) ?step (fun r st' h => (h.2.end (Nat.le_succ_of_le (Nat.le_max_right _ _))).elim) ⟨.refl _, h0, lo_start pa c2, lo_start pb (fun e => c1 (by rw [← e])), Nat.le_refl 1⟩) ?post)
  case post =>
    intro r st' h
    rcases h.2 with ⟨o, e, ho⟩ | ⟨_, h2⟩
    · dsimp only
      rw [e]
      exact wpS_pure (hQ _ _ h.1 ho)
    · exact (h2.end (Nat.le_refl _)).elim
  case step =>
    intro x r st1 _ hx h
    refine wpS_bind (wpS_mono (wpS_forRange (I := fun y (r : R5) st' => Same st st' ∧ LoI L a b (x + 1 + y) r.2.1 r.2.2.1 r.2.2.2.1)
      (Q := fun (r : R5) st' => Same st st' ∧ Got L a b (x + 2) r.1 r.2.1 r.2.2.1 r.2.2.2.1) ?s1 (fun r st' h => (h.2.end (Nat.le_trans (Nat.le_max_right _ _) (Nat.le_add_left _ _))).elim) h) ?p1)
    case s1 =>
      intro y q st2 _ hy h2
      have ha := h2.2.ha'
      have hb := h2.2.hb
      refine wpS_bind (wpS_elem (atD_get hb) (wpS_bind (wpS_elem (atD_get ha) (wpS_bind (O.lt _ _ _ _ _ (T.db _ hb) (T.da _ ha) (h2.1.1.trans hk) ?_)))))
      refine wpS_ite (fun hl => ?_) (fun hl => ?_)
      · have hM' := h2.2.m.pushA ha hb (Bool.eq_false_iff.mpr hl)
        refine wpS_bind (wpS_elem (atD_get ha) ?_)
        refine wpS_eq (fun c3 => wpS_pure ⟨h2.1, got_some (hM'.lastA T c3)⟩) fun c3 => ?_
        have hI := h2.2.moveA hM' c3
        exact wpS_ite (fun _ => wpS_pure ⟨h2.1, hI⟩) (fun _ => wpS_pure ⟨h2.1, got_none (hI.weak (lo_le x y))⟩)
      · have hM' := h2.2.m.pushB ha hb hl
        refine wpS_bind (wpS_elem (atD_get hb) ?_)
        refine wpS_eq (fun c3 => wpS_pure ⟨h2.1, got_some (hM'.done T (.inl c3))⟩) fun c3 => ?_
        have hI := h2.2.moveB hM' c3
        exact wpS_ite (fun _ => wpS_pure ⟨h2.1, hI⟩) (fun _ => wpS_pure ⟨h2.1, got_none (hI.weak (lo_le x y))⟩)
    case p1 =>
      intro q st2 h2
      rcases h2.2 with ⟨o, e, ho⟩ | ⟨e, hI⟩
      · obtain ⟨z, q⟩ := q
        have e : z = some o := e
        subst e
        exact wpS_pure ⟨h2.1, got_some ho⟩
      obtain ⟨z, q⟩ := q
      have e : z = none := e
      subst e
      refine wpS_bind (wpS_lift (wpAny_rule ⟨rfl, ?_⟩))
      refine wpS_bind (wpS_mono (wpS_forRange (I := fun y (r : R7) st' => Same st st' ∧ LoI L a b (x + 2 + y) r.2.1 r.2.2.1 r.2.2.2.1)
        (Q := fun (r : R7) st' => Same st st' ∧ Got L a b (x + 2) r.1 r.2.1 r.2.2.1 r.2.2.2.1) ?s2 (fun r st' h => (h.2.end (Nat.le_trans (Nat.le_max_right _ _) (Nat.le_add_left _ _))).elim) ⟨h2.1, hI⟩) ?p2)
      case p2 =>
        intro q st3 h3
        rcases h3.2 with ⟨o, e, ho⟩ | ⟨e, hI⟩
        · obtain ⟨z, q⟩ := q
          have e : z = some o := e
          subst e
          exact wpS_pure ⟨h3.1, got_some ho⟩
        obtain ⟨z, q⟩ := q
        have e : z = none := e
        subst e
        exact wpS_bind (wpS_setMG fun st4 hS4 => wpS_pure ⟨h3.1.trans hS4, hI⟩)
      case s2 =>
        intro y q st3 _ hy h3
        extract_lets -underBinder _s1 out _s2 ia _s3 ib _s4 g _s5 ac bc jp g1
        have hM : MI L a b out ia ib := h3.2.m
        have ha : ia < a.size := h3.2.ha'
        have hb : ib < b.size := h3.2.hb
        have hn : x + 2 + y ≤ ia + ib := h3.2.hn
        refine wpS_jp1 (v := jp) (fun _ g => ?_) fun hj => wpS_ite (fun _ => hj () g) fun _ => hj () g1
        refine wpS_bind (wpS_setMG fun st4 hS4 => ?_)
        have hS := h3.1.trans hS4
        have hk4 := hS.1.trans hk
        refine wpS_bind (wpS_elem (atD_get hb) ?_)
        refine wpS_bind (gallop_r O hk4 T.sa T.da (T.db _ hb) (add_sub_le ha) (Nat.sub_pos_of_lt ha) fun k hk1 q1 q2 => ?_)
        dsimp -zeta only
        extract_lets -underBinder ac2 jp2 out2 ia2
        refine wpS_jp2 (v := jp2) (fun out ia => LoI L a b (x + 2 + y) out ia ib ∧ L (atD b ib) (atD a ia) = true) (fun _ out ia h => ?_) fun hj => wpS_ite (fun hk0 => hj () _ _ ⟨h3.2, q2 0 (Nat.not_lt.mp hk0) (Nat.sub_pos_of_lt ha)⟩) fun hk0 => ?_
        case' refine_2 =>
          have hM1 : MI L a b out2 ia2 ib := hM.galA hb q1
          refine wpS_eq (fun e1 => wpS_pure ⟨hS, got_some (hM1.lastA T e1)⟩) fun e1 => wpS_eq (fun e2 => wpS_pure ⟨hS, got_some (hM1.done T (.inr e2))⟩) fun e2 => ?_
          have e3 : ia2 < a.size := Nat.lt_of_le_of_ne (Nat.le_trans (Nat.add_le_add_left hk1 ia) (Nat.le_of_eq (Nat.add_sub_cancel' (Nat.le_of_lt ha)))) e2
          exact hj () _ _ ⟨⟨hM1, lo_start e3 e1, hb, Nat.le_trans hn (Nat.add_le_add_right (Nat.le_add_right _ _) _)⟩, q2 k (Nat.le_refl k) (Nat.lt_sub_of_add_lt (by rw [Nat.add_comm]; exact e3))⟩
        have ha := h.1.ha'
        refine wpS_bind (wpS_elem (atD_get hb) ?_)
        extract_lets -underBinder out3 ib3
        have hM2 : MI L a b out3 ia ib3 := h.1.m.pushB ha hb h.2
        refine wpS_eq (fun e3 => wpS_pure ⟨hS, got_some (hM2.done T (.inl e3))⟩) fun e3 => ?_
        have hI := h.1.moveB hM2 e3
        refine wpS_bind (wpS_elem (atD_get ha) ?_)
        refine wpS_bind (gallop_l O hk4 T.sb T.db (T.da _ ha) (add_sub_le hI.hb) (Nat.sub_pos_of_lt hI.hb) fun k hk1 q1 q2 => ?_)
        dsimp -zeta only
        extract_lets -underBinder bc2 jp3 out4 ib4
        refine wpS_jp2 (v := jp3) (fun out ib => LoI L a b (x + 2 + y) out ia ib ∧ L (atD b ib) (atD a ia) = false) (fun _ out ib h => ?_) fun hj => wpS_ite (fun hk0 => hj () _ _ ⟨hI.weak (Nat.le_succ _), q2 0 (Nat.not_lt.mp hk0) (Nat.sub_pos_of_lt hI.hb)⟩) fun hk0 => ?_
        case' refine_2 =>
          have hM1 : MI L a b out4 ia ib4 := hM2.galB ha q1
          refine wpS_eq (fun e1 => wpS_pure ⟨hS, got_some (hM1.done T (.inl e1))⟩) fun e1 => ?_
          have e3 : ib4 < b.size := Nat.lt_of_le_of_ne (Nat.le_trans (Nat.add_le_add_left hk1 ib3) (Nat.le_of_eq (Nat.add_sub_cancel' (Nat.le_of_lt hI.hb)))) e1
          exact hj () _ _ ⟨⟨hM1, hI.ha, e3, Nat.le_trans (Nat.le_of_succ_le hI.hn) (Nat.add_le_add_left (Nat.le_add_right _ _) _)⟩, q2 k (Nat.le_refl k) (Nat.lt_sub_of_add_lt (by rw [Nat.add_comm]; exact e3))⟩
        refine wpS_bind (wpS_elem (atD_get ha) ?_)
        extract_lets -underBinder out5 ia5
        have hM4 : MI L a b out5 ia5 ib := h.1.m.pushA ha h.1.hb h.2
        refine wpS_eq (fun e5 => wpS_pure ⟨hS, got_some (hM4.lastA T e5)⟩) fun e5 => ?_
        have hI := h.1.moveA hM4 e5
        exact wpS_ite (fun _ => wpS_pure ⟨hS, hI⟩) (fun _ => wpS_pure ⟨hS, got_none (hI.weak (Nat.le_succ_of_le (Nat.le_add_right _ _)))⟩)
end
end Sx
end
section
open PySem PySem.W PyProof.Rows
set_option linter.unusedVariables false
set_option Elab.async false
set_option maxRecDepth 100000
namespace Sx
section
variable {L : Keyed → Keyed → Bool}
theorem mrg_snoc_a {a : Keyed} : ∀ (xs ys : List Keyed), (∀ y ∈ ys, L y a = true) → mrg L (xs ++ [a]) ys = mrg L xs ys ++ [a]
  | [], ys, h => by rw [List.nil_append, mrg_last h, nil_mrg]
  | x :: xs, [], _ => by rw [mrg_nil, mrg_nil]
  | x :: xs, y :: ys, h => by
    have h' : ∀ z ∈ ys, L z a = true := fun z hz => h z (List.mem_cons_of_mem _ hz)
    rw [List.cons_append]
    cases hl : L y x with
    | true => rw [mrg_b hl, mrg_b hl, ← List.cons_append, mrg_snoc_a (x :: xs) ys h']; rfl
    | false => rw [mrg_a hl, mrg_a hl, mrg_snoc_a xs (y :: ys) h]; rfl
termination_by xs ys => xs.length + ys.length
theorem mrg_snoc_b {b : Keyed} : ∀ (xs ys : List Keyed), (∀ x ∈ xs, L b x = false) → mrg L xs (ys ++ [b]) = mrg L xs ys ++ [b]
  | xs, [], h => by rw [List.nil_append, mrg_nil, mrg_ga xs.length xs (by rw [List.take_length]; exact h), List.take_length, List.drop_length, nil_mrg]
  | [], y :: ys, _ => by rw [nil_mrg, nil_mrg]
  | x :: xs, y :: ys, h => by
    have h' : ∀ z ∈ xs, L b z = false := fun z hz => h z (List.mem_cons_of_mem _ hz)
    rw [List.cons_append]
    cases hl : L y x with
    | true => rw [mrg_b hl, mrg_b hl, mrg_snoc_b (x :: xs) ys h]; rfl
    | false => rw [mrg_a hl, mrg_a hl, ← List.cons_append, mrg_snoc_b xs (y :: ys) h']; rfl
termination_by xs ys => xs.length + ys.length
theorem mrg_tail_a : ∀ (zs xs ys : List Keyed), (∀ z ∈ zs, ∀ y ∈ ys, L y z = true) → mrg L (xs ++ zs) ys = mrg L xs ys ++ zs
  | [], xs, ys, _ => by rw [List.append_nil, List.append_nil]
  | z :: zs, xs, ys, h => by
    rw [List.append_cons xs z zs, mrg_tail_a zs _ ys fun w hw => h w (List.mem_cons_of_mem _ hw), mrg_snoc_a xs ys (h z List.mem_cons_self), ← List.append_cons]
theorem mrg_tail_b : ∀ (zs xs ys : List Keyed), (∀ z ∈ zs, ∀ x ∈ xs, L z x = false) → mrg L xs (ys ++ zs) = mrg L xs ys ++ zs
  | [], xs, ys, _ => by rw [List.append_nil, List.append_nil]
  | z :: zs, xs, ys, h => by
    rw [List.append_cons ys z zs, mrg_tail_b zs xs _ fun w hw => h w (List.mem_cons_of_mem _ hw), mrg_snoc_b xs ys (h z List.mem_cons_self), ← List.append_cons]
end
theorem take_to {α : Type} {xs : List α} {c n : Nat} (h : c ≤ n) : xs.take n = xs.take c ++ (xs.drop c).take (n - c) := by
  rw [← List.take_add, Nat.add_sub_cancel' h]
noncomputable def MH (L : Keyed → Keyed → Bool) (a b : Array Keyed) (out : Array Keyed) (na nb : Nat) : Prop := mrg L (a.toList.take na) (b.toList.take nb) ++ out.toList.reverse = mOf L a b
section
variable {prog : Program} {w : World} {A : Around} {E : Value → Shared → Prop} {s : Shared} {dom : Keyed → Prop} {L : Keyed → Keyed → Bool} {O : LtOk prog w A s dom L} {a b : Array Keyed}
theorem takeD {xs : Array Keyed} {i : Nat} (h : i < xs.size) : xs.toList.take (i + 1) = xs.toList.take i ++ [atD xs i] := by
  rw [List.take_add_one]
  have : xs.toList[i]? = some (atD xs i) := by rw [Array.getElem?_toList]; exact atD_get h
  rw [this]; rfl
theorem ext_head {α : Type} (xs : Array α) (j : Nat) : (xs.extract 0 j).toList = xs.toList.take j := by rw [ext_take]; rfl
theorem mem_take0 {xs : Array Keyed} {k : Nat} {p : Keyed} (h : p ∈ xs.toList.take k) : ∃ j, j < k ∧ j < xs.size ∧ p = atD xs j := by
  obtain ⟨j, h1, h2, e⟩ := mem_takeD (i := 0) (by rw [List.drop_zero]; exact h)
  rw [Nat.zero_add] at h2 e
  exact ⟨j, h1, h2, e⟩
theorem SortedA.le {xs : Array Keyed} (h : SortedA L xs) {i j : Nat} (hij : i ≤ j) (hj : j < xs.size) : L (atD xs j) (atD xs i) = false := h i j _ _ hij (atD_get (Nat.lt_of_le_of_lt hij hj)) (atD_get hj)
theorem MH.done {out : Array Keyed} {na nb : Nat} (h : MH L a b out na nb) (hz : na = 0 ∨ nb = 0) : (a.extract 0 na ++ b.extract 0 nb ++ out.reverse).toList = mOf L a b := by
  rw [Array.toList_append, Array.toList_append, ext_head, ext_head, Array.toList_reverse, ← h]
  rcases hz with rfl | rfl
  · rw [List.take_zero, nil_mrg]; rfl
  · rw [List.take_zero, mrg_nil, List.append_nil]
theorem MH.firstB (T : Two O a b) {out : Array Keyed} {na nb : Nat} (h : MH L a b out na nb) (hz : nb = 1) : (b.extract 0 nb ++ a.extract 0 na ++ out.reverse).toList = mOf L a b := by
  subst hz
  rw [Array.toList_append, Array.toList_append, ext_head, ext_head, Array.toList_reverse, ← h]
  have e : b.toList.take 1 = [atD b 0] := takeD T.pb
  rw [e]
  have hl : ∀ x ∈ a.toList.take na, L (atD b 0) x = true := fun x hx => by
    obtain ⟨j, _, hj, rfl⟩ := mem_take0 hx
    rcases O.neg _ (atD a j) _ T.first with q | q
    · exact q
    · rw [T.sa.le (Nat.zero_le j) hj] at q; cases q
  generalize a.toList.take na = xs at hl
  cases xs with
  | nil => rw [nil_mrg]; rfl
  | cons x xs => rw [mrg_b (hl x List.mem_cons_self), mrg_nil]; rfl
theorem MH.start (T : Two O a b) : MH L a b #[atD a (a.size - 1)] (a.size - 1) b.size := by
  unfold MH mOf
  have e : a.toList = a.toList.take (a.size - 1) ++ [atD a (a.size - 1)] := by
    rw [← takeD (Nat.sub_lt T.pa Nat.zero_lt_one), Nat.sub_add_cancel T.pa]
    exact (List.take_of_length_le (Nat.le_of_eq Array.length_toList)).symm
  have eb : b.toList.take b.size = b.toList := List.take_of_length_le (Nat.le_of_eq Array.length_toList)
  rw [eb]
  conv => rhs; rw [e]
  rw [mrg_snoc_a _ _ fun y hy => ?_]
  · rfl
  · obtain ⟨j, _, hj, rfl⟩ := mem_take0 (k := b.size) (by rw [eb]; exact hy)
    exact T.last j hj
theorem MH.pushA (T : Two O a b) {out : Array Keyed} {na nb : Nat} (h : MH L a b out (na + 1) nb) (ha : na < a.size) (hb : 0 < nb) (hbs : nb ≤ b.size) (hl : L (atD b (nb - 1)) (atD a na) = true) : MH L a b (out.push (atD a na)) na nb := by
  unfold MH at h ⊢
  rw [takeD ha, mrg_snoc_a _ _ fun y hy => ?_] at h
  · rw [Array.toList_push, List.reverse_append, ← h, List.append_assoc]; rfl
  · obtain ⟨j, hj, hjs, rfl⟩ := mem_take0 hy
    rcases O.neg _ (atD b j) _ hl with q | q
    · rw [T.sb.le (by omega) (by omega)] at q; cases q
    · exact q
theorem MH.pushB (T : Two O a b) {out : Array Keyed} {na nb : Nat} (h : MH L a b out na (nb + 1)) (hb : nb < b.size) (ha : 0 < na) (has : na ≤ a.size) (hl : L (atD b nb) (atD a (na - 1)) = false) : MH L a b (out.push (atD b nb)) na nb := by
  unfold MH at h ⊢
  rw [takeD hb, mrg_snoc_b _ _ fun x hx => ?_] at h
  · rw [Array.toList_push, List.reverse_append, ← h, List.append_assoc]; rfl
  · obtain ⟨j, hj, hjs, rfl⟩ := mem_take0 hx
    cases q : L (atD b nb) (atD a j) with
    | false => rfl
    | true =>
      rcases O.neg _ (atD a (na - 1)) _ q with q | q
      · rw [hl] at q; cases q
      · rw [T.sa.le (by omega) (by omega)] at q; cases q
theorem MH.galA (T : Two O a b) {out : Array Keyed} {na nb c : Nat} (h : MH L a b out na nb) (hc : c ≤ na) (has : na ≤ a.size) (hbs : nb ≤ b.size) (hl : ∀ i, c ≤ i → i < na → L (atD b (nb - 1)) (atD a i) = true) : MH L a b (out ++ (a.extract c na).reverse) c nb := by
  unfold MH at h ⊢
  rw [take_to hc, mrg_tail_a _ _ _ fun z hz y hy => ?_] at h
  · rw [Array.toList_append, Array.toList_reverse, List.reverse_append, List.reverse_reverse, ext_take, ← h, List.append_assoc]
  · obtain ⟨i, hi, his, rfl⟩ := mem_takeD hz
    obtain ⟨j, hj, hjs, rfl⟩ := mem_take0 hy
    rcases O.neg _ (atD b j) _ (hl (c + i) (by omega) (by omega)) with q | q
    · rw [T.sb.le (by omega) (by omega)] at q; cases q
    · exact q
theorem MH.galB (T : Two O a b) {out : Array Keyed} {na nb c : Nat} (h : MH L a b out na nb) (hc : c ≤ nb) (has : na ≤ a.size) (hbs : nb ≤ b.size) (hl : ∀ i, c ≤ i → i < nb → L (atD b i) (atD a (na - 1)) = false) : MH L a b (out ++ (b.extract c nb).reverse) na c := by
  unfold MH at h ⊢
  rw [take_to hc, mrg_tail_b _ _ _ fun z hz x hx => ?_] at h
  · rw [Array.toList_append, Array.toList_reverse, List.reverse_append, List.reverse_reverse, ext_take, ← h, List.append_assoc]
  · obtain ⟨i, hi, his, rfl⟩ := mem_takeD hz
    obtain ⟨j, hj, hjs, rfl⟩ := mem_take0 hx
    have hl := hl (c + i) (by omega) (by omega)
    cases q : L (atD b (c + i)) (atD a j) with
    | false => rfl
    | true =>
      rcases O.neg _ (atD a (na - 1)) _ q with q | q
      · rw [hl] at q; cases q
      · rw [T.sa.le (by omega) (by omega)] at q; cases q
theorem hi_start {n m : Nat} (h : 0 < n) : n - 1 + m + (0 + 1) ≤ n + m := by omega
structure HiI (L : Keyed → Keyed → Bool) (a b : Array Keyed) (n : Nat) (out : Array Keyed) (na nb : Nat) : Prop where
  m : MH L a b out na nb
  ha : 0 < na
  hb : 1 < nb
  has : na ≤ a.size
  hbs : nb ≤ b.size
  hn : na + nb + n ≤ a.size + b.size
noncomputable def Gh (L : Keyed → Keyed → Bool) (a b : Array Keyed) (n : Nat) (r : Option (Array Keyed)) (out : Array Keyed) (na nb : Nat) : Prop :=
  (∃ o, r = some o ∧ o.toList = mOf L a b) ∨ (r = none ∧ HiI L a b n out na nb)
theorem gh_some {n : Nat} {o out : Array Keyed} {na nb : Nat} (h : o.toList = mOf L a b) : Gh L a b n (some o) out na nb := .inl ⟨o, rfl, h⟩
theorem gh_none {n : Nat} {out : Array Keyed} {na nb : Nat} (h : HiI L a b n out na nb) : Gh L a b n none out na nb := .inr ⟨rfl, h⟩
theorem HiI.end {n : Nat} {out : Array Keyed} {na nb : Nat} (h : HiI L a b n out na nb) (hn : a.size + b.size ≤ n) : False := by
  have h1 := h.ha; have h3 := h.hn
  omega
theorem HiI.weak {n m : Nat} {out : Array Keyed} {na nb : Nat} (h : HiI L a b n out na nb) (hm : m ≤ n) : HiI L a b m out na nb := ⟨h.m, h.ha, h.hb, h.has, h.hbs, Nat.le_trans (Nat.add_le_add_left hm _) h.hn⟩
theorem HiI.pushA (T : Two O a b) {n : Nat} {out : Array Keyed} {na nb : Nat} (h : HiI L a b n out na nb) (hl : L (atD b (nb - 1)) (atD a (na - 1)) = true) : MH L a b (out.push (atD a (na - 1))) (na - 1) nb := by
  obtain ⟨m, rfl⟩ : ∃ m, na = m + 1 := ⟨na - 1, (Nat.sub_add_cancel h.ha).symm⟩
  exact h.m.pushA T h.has (Nat.lt_trans Nat.zero_lt_one h.hb) h.hbs hl
theorem HiI.pushB (T : Two O a b) {n : Nat} {out : Array Keyed} {na nb : Nat} (h : HiI L a b n out na nb) (hl : L (atD b (nb - 1)) (atD a (na - 1)) = false) : MH L a b (out.push (atD b (nb - 1))) na (nb - 1) := by
  obtain ⟨m, rfl⟩ : ∃ m, nb = m + 1 := ⟨nb - 1, (Nat.sub_add_cancel (Nat.lt_trans Nat.zero_lt_one h.hb)).symm⟩
  exact h.m.pushB T h.hbs h.ha h.has hl
theorem HiI.moveA {n : Nat} {out out' : Array Keyed} {na nb : Nat} (h : HiI L a b n out na nb) (hm : MH L a b out' (na - 1) nb) (h2 : ¬ na - 1 = 0) : HiI L a b (n + 1) out' (na - 1) nb :=
  ⟨hm, Nat.pos_of_ne_zero h2, h.hb, Nat.le_trans (Nat.sub_le _ _) h.has, h.hbs, by have := h.hn; have := h.ha; omega⟩
theorem HiI.moveB {n : Nat} {out out' : Array Keyed} {na nb : Nat} (h : HiI L a b n out na nb) (hm : MH L a b out' na (nb - 1)) (h2 : ¬ nb - 1 = 1) : HiI L a b (n + 1) out' na (nb - 1) :=
  ⟨hm, h.ha, by have := h.hb; omega, h.has, Nat.le_trans (Nat.sub_le _ _) h.hbs, by have := h.hn; have := h.hb; omega⟩
theorem HiI.la {n : Nat} {out : Array Keyed} {na nb : Nat} (h : HiI L a b n out na nb) : na - 1 < a.size := Nat.lt_of_lt_of_le (Nat.sub_lt h.ha Nat.zero_lt_one) h.has
theorem HiI.lb {n : Nat} {out : Array Keyed} {na nb : Nat} (h : HiI L a b n out na nb) : nb - 1 < b.size := Nat.lt_of_lt_of_le (Nat.sub_lt (Nat.lt_trans Nat.zero_lt_one h.hb) Nat.zero_lt_one) h.hbs
theorem zero_add1 (P : Nat → Prop) {i : Nat} (h : P (0 + i)) : P i := by rwa [Nat.zero_add] at h
theorem pred_lt {n c : Nat} (h : 0 < n) (hc : n ≤ c) : n - 1 < c := Nat.lt_of_lt_of_le (Nat.sub_lt h Nat.zero_lt_one) hc
noncomputable abbrev H5 := Option (Array Keyed) × Nat × Nat × Array Keyed × Nat × Nat
noncomputable abbrev H7 := Option (Array Keyed) × Nat × Nat × Array Keyed × Nat × Nat × Nat
noncomputable abbrev H3 := Option (Array Keyed) × Nat × Nat × Array Keyed × Nat
theorem mergeHi_ok (T : Two O a b) {st : SortSt} {Q : Array Keyed → SortSt → Prop} (hk : kindOf st = oneType') (hQ : ∀ o st', Same st st' → o.toList = mOf L a b → Q o st') :
    wpS (model prog w) A E s (mergeHi' a b) Q st := by
  have pa := T.pa
  have pb := T.pb
  have h0 := MH.start T
  unfold mergeHi'
  refine wpS_bind (wpS_lift (wpAny_rule ⟨rfl, ?_⟩))
  refine wpS_bind (wpS_elem (atD_get (Nat.sub_lt pa Nat.zero_lt_one)) ?_)
  refine wpS_eq (fun c1 => wpS_pure (hQ _ _ (.refl _) (h0.done (.inl c1)))) fun c1 => ?_
  refine wpS_eq (fun c2 => wpS_pure (hQ _ _ (.refl _) (h0.firstB T c2))) fun c2 => ?_
  refine wpS_bind (wpS_get ?_)
  refine wpS_bind (wpS_mono (wpS_forRange (I := fun x (r : H3) st' => Same st st' ∧ HiI L a b (x + 1) r.2.2.2.1 r.2.1 r.2.2.1)
    (Q := fun (r : H3) st' => Same st st' ∧ Gh L a b (a.size + b.size) r.1 r.2.2.2.1 r.2.1 r.2.2.1) ?step (fun r st' h => (h.2.end (Nat.le_succ_of_le (Nat.le_max_right _ _))).elim) ⟨.refl _, h0, Nat.pos_of_ne_zero c1, Nat.lt_of_le_of_ne pb (Ne.symm c2), Nat.sub_le _ _, Nat.le_refl _, hi_start pa⟩) ?post)
  case post =>
    intro r st' h
    rcases h.2 with ⟨o, e, ho⟩ | ⟨_, h2⟩
    · dsimp only
      rw [e]
      exact wpS_pure (hQ _ _ h.1 ho)
    · exact (h2.end (Nat.le_refl _)).elim
  case step =>
    intro x r st1 _ hx h
    refine wpS_bind (wpS_mono (wpS_forRange (I := fun y (r : H5) st' => Same st st' ∧ HiI L a b (x + 1 + y) r.2.2.2.1 r.2.1 r.2.2.1)
      (Q := fun (r : H5) st' => Same st st' ∧ Gh L a b (x + 2) r.1 r.2.2.2.1 r.2.1 r.2.2.1) ?s1 (fun r st' h => (h.2.end (Nat.le_trans (Nat.le_max_right _ _) (Nat.le_add_left _ _))).elim) h) ?p1)
    case s1 =>
      intro y q st2 _ hy h2
      have hI := h2.2
      have ha := hI.la
      have hb := hI.lb
      refine wpS_bind (wpS_elem (atD_get hb) (wpS_bind (wpS_elem (atD_get ha) (wpS_bind (O.lt _ _ _ _ _ (T.db _ hb) (T.da _ ha) (h2.1.1.trans hk) ?_)))))
      refine wpS_ite (fun hl => ?_) (fun hl => ?_)
      · have hM' := hI.pushB T (Bool.eq_false_iff.mpr hl)
        refine wpS_bind (wpS_elem (atD_get hb) ?_)
        refine wpS_eq (fun c3 => wpS_pure ⟨h2.1, gh_some (hM'.firstB T c3)⟩) fun c3 => ?_
        have hJ := hI.moveB hM' c3
        exact wpS_ite (fun _ => wpS_pure ⟨h2.1, hJ⟩) (fun _ => wpS_pure ⟨h2.1, gh_none (hJ.weak (lo_le x y))⟩)
      · have hM' := hI.pushA T hl
        refine wpS_bind (wpS_elem (atD_get ha) ?_)
        refine wpS_eq (fun c3 => wpS_pure ⟨h2.1, gh_some (hM'.done (.inl c3))⟩) fun c3 => ?_
        have hJ := hI.moveA hM' c3
        exact wpS_ite (fun _ => wpS_pure ⟨h2.1, hJ⟩) (fun _ => wpS_pure ⟨h2.1, gh_none (hJ.weak (lo_le x y))⟩)
    case p1 =>
      intro q st2 h2
      rcases h2.2 with ⟨o, e, ho⟩ | ⟨e, hI⟩
      · obtain ⟨z, q⟩ := q
        have e : z = some o := e
        subst e
        exact wpS_pure ⟨h2.1, gh_some ho⟩
      obtain ⟨z, q⟩ := q
      have e : z = none := e
      subst e
      refine wpS_bind (wpS_lift (wpAny_rule ⟨rfl, ?_⟩))
      refine wpS_bind (wpS_mono (wpS_forRange (I := fun y (r : H7) st' => Same st st' ∧ HiI L a b (x + 2 + y) r.2.2.2.1 r.2.1 r.2.2.1)
        (Q := fun (r : H7) st' => Same st st' ∧ Gh L a b (x + 2) r.1 r.2.2.2.1 r.2.1 r.2.2.1) ?s2 (fun r st' h => (h.2.end (Nat.le_trans (Nat.le_max_right _ _) (Nat.le_add_left _ _))).elim) ⟨h2.1, hI⟩) ?p2)
      case p2 =>
        intro q st3 h3
        rcases h3.2 with ⟨o, e, ho⟩ | ⟨e, hI⟩
        · obtain ⟨z, q⟩ := q
          have e : z = some o := e
          subst e
          exact wpS_pure ⟨h3.1, gh_some ho⟩
        obtain ⟨z, q⟩ := q
        have e : z = none := e
        subst e
        exact wpS_bind (wpS_setMG fun st4 hS4 => wpS_pure ⟨h3.1.trans hS4, hI⟩)
      case s2 =>
        intro y q st3 _ hy h3
        extract_lets -underBinder _s1 na _s2 nb _s3 out _s4 g _s5 ac bc jp g1
        have hI : HiI L a b (x + 2 + y) out na nb := h3.2
        have hb : nb - 1 < b.size := hI.lb
        refine wpS_jp1 (v := jp) (fun _ g => ?_) fun hj => wpS_ite (fun _ => hj () g) fun _ => hj () g1
        refine wpS_bind (wpS_setMG fun st4 hS4 => ?_)
        have hS := h3.1.trans hS4
        have hk4 := hS.1.trans hk
        refine wpS_bind (wpS_elem (atD_get hb) ?_)
        refine wpS_bind (gallop_r O hk4 T.sa T.da (T.db _ hb) (Nat.le_trans (Nat.le_of_eq (Nat.zero_add _)) hI.has) (Nat.sub_lt hI.ha Nat.zero_lt_one) fun c hc q1 q2 => ?_)
        dsimp -zeta only
        extract_lets -underBinder k ac2 jp2 out2 na2
        refine wpS_jp2 (v := jp2) (fun na out => HiI L a b (x + 2 + y) out na nb ∧ L (atD b (nb - 1)) (atD a (na - 1)) = false) (fun _ na out h => ?_) fun hj => wpS_ite (fun hk0 => hj () _ _ ⟨hI, zero_add1 (fun i => L (atD b (nb - 1)) (atD a i) = false) (q1 _ (pred_lt hI.ha (Nat.sub_eq_zero_iff_le.mp (Nat.eq_zero_of_not_pos hk0))))⟩) fun hk0 => ?_
        case' refine_2 =>
          have hM1 : MH L a b out2 na2 nb := hI.m.galA T hc hI.has hI.hbs fun i h1 h2 => zero_add1 (fun i => L (atD b (nb - 1)) (atD a i) = true) (q2 i h1 h2)
          refine wpS_eq (fun e1 => wpS_pure ⟨hS, gh_some (hM1.done (.inl e1))⟩) fun e1 => ?_
          exact hj () _ _ ⟨⟨hM1, Nat.pos_of_ne_zero e1, hI.hb, Nat.le_trans hc hI.has, hI.hbs, Nat.le_trans (Nat.add_le_add_right (Nat.add_le_add_right hc _) _) hI.hn⟩, zero_add1 (fun i => L (atD b (nb - 1)) (atD a i) = false) (q1 _ (Nat.sub_lt (Nat.pos_of_ne_zero e1) Nat.zero_lt_one))⟩
        refine wpS_bind (wpS_elem (atD_get hb) ?_)
        extract_lets -underBinder out3
        have hM2 : MH L a b out3 na (nb - 1) := h.1.pushB T h.2
        refine wpS_eq (fun e3 => wpS_pure ⟨hS, gh_some (hM2.firstB T e3)⟩) fun e3 => ?_
        have hJ := h.1.moveB hM2 e3
        have ha := hJ.la
        refine wpS_bind (wpS_elem (atD_get ha) ?_)
        refine wpS_bind (gallop_l O hk4 T.sb T.db (T.da _ ha) (Nat.le_trans (Nat.le_of_eq (Nat.zero_add _)) hJ.hbs) (Nat.sub_lt (Nat.lt_trans Nat.zero_lt_one hJ.hb) Nat.zero_lt_one) fun d hd q1 q2 => ?_)
        dsimp -zeta only
        extract_lets -underBinder k2 bc2 jp3 out4 nb4
        refine wpS_jp2 (v := jp3) (fun nb out => HiI L a b (x + 2 + y) out na nb ∧ L (atD b (nb - 1)) (atD a (na - 1)) = true) (fun _ nb out h => ?_) fun hj => wpS_ite (fun hk0 => hj () _ _ ⟨hJ.weak (Nat.le_succ _), zero_add1 (fun i => L (atD b i) (atD a (na - 1)) = true) (q1 _ (pred_lt (Nat.lt_trans Nat.zero_lt_one hJ.hb) (Nat.sub_eq_zero_iff_le.mp (Nat.eq_zero_of_not_pos hk0))))⟩) fun hk0 => ?_
        case' refine_2 =>
          have hM1 : MH L a b out4 na nb4 := hM2.galB T hd hJ.has hJ.hbs fun i h1 h2 => zero_add1 (fun i => L (atD b i) (atD a (na - 1)) = false) (q2 i h1 h2)
          refine wpS_eq (fun e1 => wpS_pure ⟨hS, gh_some (hM1.firstB T e1)⟩) fun e1 => wpS_eq (fun e2 => wpS_pure ⟨hS, gh_some (hM1.done (.inr e2))⟩) fun e2 => ?_
          have hd1 : 1 < d := Nat.lt_of_le_of_ne (Nat.pos_of_ne_zero e2) (Ne.symm e1)
          exact hj () _ _ ⟨⟨hM1, hJ.ha, hd1, hJ.has, Nat.le_trans hd hJ.hbs, Nat.le_trans (Nat.add_le_add (Nat.add_le_add_left hd _) (Nat.le_succ _)) hJ.hn⟩, zero_add1 (fun i => L (atD b i) (atD a (na - 1)) = true) (q1 _ (Nat.sub_lt (Nat.pos_of_ne_zero e2) Nat.zero_lt_one))⟩
        refine wpS_bind (wpS_elem (atD_get ha) ?_)
        extract_lets -underBinder out5
        have hM4 : MH L a b out5 (na - 1) nb := h.1.pushA T h.2
        refine wpS_eq (fun e5 => wpS_pure ⟨hS, gh_some (hM4.done (.inl e5))⟩) fun e5 => ?_
        have hK := h.1.moveA hM4 e5
        exact wpS_ite (fun _ => wpS_pure ⟨hS, hK⟩) (fun _ => wpS_pure ⟨hS, gh_none (hK.weak (Nat.le_succ_of_le (Nat.le_add_right _ _)))⟩)
end
end Sx
end
section
open PySem PySem.W PyProof.Rows
set_option linter.unusedVariables false
set_option Elab.async false
set_option maxRecDepth 100000
namespace Sx
/-- from lo on sorted, up to hi -/
noncomputable def SortedR (L : Keyed → Keyed → Bool) (xs : Array Keyed) (lo hi : Nat) : Prop := ∀ i j, lo ≤ i → i ≤ j → j < hi → L (atD xs j) (atD xs i) = false
noncomputable def NonIncR (L : Keyed → Keyed → Bool) (xs : Array Keyed) (lo hi : Nat) : Prop := ∀ i j, lo ≤ i → i ≤ j → j < hi → L (atD xs i) (atD xs j) = false
/-- the things turned about from lo on, all else as it stood -/
structure Turn (lo : Nat) (st st' : SortSt) : Prop where
  kind : kindOf st' = kindOf st
  pend : pendingOf st' = pendingOf st
  failed : failedOf st' = failedOf st
  perm : (arrOf st').Perm (arrOf st)
  low : ∀ i < lo, (arrOf st')[i]? = (arrOf st)[i]?
theorem Turn.refl (lo : Nat) (st : SortSt) : Turn lo st st := ⟨rfl, rfl, rfl, .refl _, fun _ _ => rfl⟩
theorem Turn.trans {lo : Nat} {a b c : SortSt} (h : Turn lo a b) (k : Turn lo b c) : Turn lo a c := ⟨k.kind.trans h.kind, k.pend.trans h.pend, k.failed.trans h.failed, k.perm.trans h.perm, fun i hi => (k.low i hi).trans (h.low i hi)⟩
theorem Turn.size {lo : Nat} {a b : SortSt} (h : Turn lo a b) : (arrOf b).size = (arrOf a).size := h.perm.size_eq
section
variable {prog : Program} {w : World} {A : Around} {E : Value → Shared → Prop} {s : Shared} {dom : Keyed → Prop} {L : Keyed → Keyed → Bool}
theorem atD_congr {xs ys : Array Keyed} {i j : Nat} (h : xs[i]? = ys[j]?) : atD xs i = atD ys j := by unfold atD; rw [h]
theorem atD_mirror {xs : Array Keyed} {i j : Nat} (hj : j ≤ xs.size) (k : Nat) : atD (mirror xs i j ((j - i) / 2)) k = if i ≤ k ∧ k < j then atD xs (i + j - 1 - k) else atD xs k := by
  have e := getElem?_mirror_all (i := i) hj k
  by_cases h : i ≤ k ∧ k < j
  · rw [if_pos h] at e ⊢; exact atD_congr e
  · rw [if_neg h] at e ⊢; exact atD_congr e
theorem Turn.mirror {lo i j : Nat} {st : SortSt} (hi : lo ≤ i) (hj : j ≤ (arrOf st).size) : Turn lo st (setArr st (mirror (arrOf st) i j ((j - i) / 2))) where
  kind := rfl
  pend := rfl
  failed := rfl
  perm := mirror_perm _ _ _ _
  low k hk := by
    show (PyProof.Rows.mirror (arrOf st) i j ((j - i) / 2))[k]? = _
    rw [getElem?_mirror_all hj, if_neg (by omega)]
theorem wpS_rev {i j : Nat} {st : SortSt} {Q : Unit → SortSt → Prop} (h : Q () (setArr st (mirror (arrOf st) i j ((j - i) / 2)))) : wpS (model prog w) A E s (reverseSlice' i j) Q st := by
  rw [reverseSlice'_eq]; exact wpS_modify h
noncomputable def AllDom (dom : Keyed → Prop) (xs : Array Keyed) : Prop := ∀ p ∈ xs.toList, dom p
theorem AllDom.at {xs : Array Keyed} (h : AllDom dom xs) {i : Nat} (hi : i < xs.size) : dom (atD xs i) := by
  refine h _ ?_
  have := atD_get hi
  rw [← Array.getElem?_toList] at this
  exact List.mem_of_getElem? this
theorem AllDom.perm {xs ys : Array Keyed} (h : AllDom dom xs) (p : ys.Perm xs) : AllDom dom ys := fun q hq => h q ((Array.perm_iff_toList_perm.mp p).mem_iff.mp hq)
theorem wpS_ltD (O : LtOk prog w A s dom L) {st : SortSt} {i j : Nat} {Q : Option Bool → SortSt → Prop} (hk : kindOf st = oneType') (hd : AllDom dom (arrOf st)) (hi : i < (arrOf st).size) (hj : j < (arrOf st).size)
    (h : Q (some (L (atD (arrOf st) i) (atD (arrOf st) j))) st) : wpS (model prog w) A E s (ltAt' i j) Q st := by
  rw [ltAt'_eq]
  refine wpS_bind (wpS_get ?_)
  exact wpS_bind (wpS_elem (atD_get hi) (wpS_bind (wpS_elem (atD_get hj) (O.lt _ _ _ _ _ (hd.at hi) (hd.at hj) hk h))))
theorem LtOk.le_trans (O : LtOk prog w A s dom L) {a b c : Keyed} (h1 : L b a = false) (h2 : L c b = false) : L c a = false := by
  cases h : L c a with
  | false => rfl
  | true =>
    rcases O.neg _ b _ h with q | q
    · rw [h2] at q; cases q
    · rw [h1] at q; cases q
theorem LtOk.asymm (O : LtOk prog w A s dom L) {a b : Keyed} (h : L a b = true) : L b a = false := by
  cases q : L b a with
  | false => rfl
  | true => have := O.trans _ _ _ h q; rw [O.irrefl] at this; cases this
theorem SortedR.snoc (O : LtOk prog w A s dom L) {xs : Array Keyed} {lo n : Nat} (h : SortedR L xs lo (lo + n)) (hl : n = 0 ∨ L (atD xs (lo + n)) (atD xs (lo + n - 1)) = false) : SortedR L xs lo (lo + (n + 1)) := by
  intro i j h1 h2 h3
  rcases Nat.lt_or_ge j (lo + n) with h4 | h4
  · exact h i j h1 h2 h4
  · obtain rfl : j = lo + n := by omega
    rcases Nat.eq_or_lt_of_le h2 with rfl | h5
    · exact O.irrefl _
    · rcases hl with rfl | hl
      · omega
      · exact O.le_trans (h i (lo + n - 1) h1 (by omega) (by omega)) hl
theorem NonIncR.snoc (O : LtOk prog w A s dom L) {xs : Array Keyed} {lo n : Nat} (h : NonIncR L xs lo (lo + n)) (hl : n = 0 ∨ L (atD xs (lo + n - 1)) (atD xs (lo + n)) = false) : NonIncR L xs lo (lo + (n + 1)) := by
  intro i j h1 h2 h3
  rcases Nat.lt_or_ge j (lo + n) with h4 | h4
  · exact h i j h1 h2 h4
  · obtain rfl : j = lo + n := by omega
    rcases Nat.eq_or_lt_of_le h2 with rfl | h5
    · exact O.irrefl _
    · rcases hl with rfl | hl
      · omega
      · exact O.le_trans hl (h i (lo + n - 1) h1 (by omega) (by omega))
theorem wpS_asc (O : LtOk prog w A s dom L) {lo nrem a : Nat} {st : SortSt} {F : Nat → AscSt → StateT SortSt Sem (ForInStep AscSt)} {Q : AscSt → SortSt → Prop}
    (hF : ∀ x n (Q' : ForInStep AscSt → SortSt → Prop), a ≤ n → n < nrem → (L (atD (arrOf st) (lo + n)) (atD (arrOf st) (lo + n - 1)) = true → Q' (.done (none, n)) st) → (L (atD (arrOf st) (lo + n)) (atD (arrOf st) (lo + n - 1)) = false → Q' (.yield (none, n + 1)) st) → wpS (model prog w) A E s (F x (none, n)) Q' st)
    (h1 : a ≤ nrem) (hs : SortedR L (arrOf st) lo (lo + a))
    (h : ∀ n, a ≤ n → n ≤ nrem → SortedR L (arrOf st) lo (lo + n) → (n = nrem ∨ L (atD (arrOf st) (lo + n)) (atD (arrOf st) (lo + n - 1)) = true) → Q (none, n) st) : wpS (model prog w) A E s (forIn [a:nrem] (none, a) F) Q st := by
  refine wpS_forRange (I := fun x (r : AscSt) st' => st' = st ∧ r = (none, x) ∧ SortedR L (arrOf st) lo (lo + x)) ?_ ?_ ⟨rfl, rfl, hs⟩
  · rintro x _ _ ha hx ⟨rfl, rfl, hs⟩
    exact hF x x _ ha hx (fun hl => h x ha (Nat.le_of_lt hx) hs (.inr hl)) (fun hl => ⟨rfl, rfl, hs.snoc O (.inr hl)⟩)
  · rintro _ _ ⟨rfl, rfl, hs⟩
    rw [Nat.max_eq_right h1] at hs ⊢
    exact h nrem h1 (Nat.le_refl _) hs (.inl rfl)
/-- the last q + 1 things are equal to the one at the end -/
noncomputable def EqTail (L : Keyed → Keyed → Bool) (xs : Array Keyed) (lo n q : Nat) : Prop := ∀ i, lo + n - (q + 1) ≤ i → i < lo + n → L (atD xs i) (atD xs (lo + n - 1)) = false ∧ L (atD xs (lo + n - 1)) (atD xs i) = false
theorem eqTail_any (O : LtOk prog w A s dom L) {xs : Array Keyed} {lo n q : Nat} (h : EqTail L xs lo n q) {i j : Nat} (hi : lo + n - (q + 1) ≤ i) (hi' : i < lo + n) (hj : lo + n - (q + 1) ≤ j) (hj' : j < lo + n) : L (atD xs i) (atD xs j) = false :=
  O.le_trans (h j hj hj').2 (h i hi hi').1
/-- turning about things that are equal changes no order -/
theorem eq_mirror (O : LtOk prog w A s dom L) {xs : Array Keyed} {lo n q : Nat} (hq : q + 1 ≤ n) (hn : lo + n ≤ xs.size) (he : EqTail L xs lo n q) (k : Nat) :
    ∃ k', atD (mirror xs (lo + n - (q + 1)) (lo + n) ((lo + n - (lo + n - (q + 1))) / 2)) k = atD xs k' ∧ (k' = k ∨ ((lo + n - (q + 1) ≤ k ∧ k < lo + n) ∧ lo + n - (q + 1) ≤ k' ∧ k' < lo + n)) := by
  rw [atD_mirror hn]
  by_cases h : lo + n - (q + 1) ≤ k ∧ k < lo + n
  · rw [if_pos h]; exact ⟨_, rfl, .inr ⟨h, by omega, by omega⟩⟩
  · rw [if_neg h]; exact ⟨_, rfl, .inl rfl⟩
theorem nonInc_mirror (O : LtOk prog w A s dom L) {xs : Array Keyed} {lo n q : Nat} (hq : q + 1 ≤ n) (hn : lo + n ≤ xs.size) (he : EqTail L xs lo n q) (h : NonIncR L xs lo (lo + n)) :
    NonIncR L (mirror xs (lo + n - (q + 1)) (lo + n) ((lo + n - (lo + n - (q + 1))) / 2)) lo (lo + n) := by
  intro i j h1 h2 h3
  obtain ⟨i', ei, ci⟩ := eq_mirror O hq hn he i
  obtain ⟨j', ej, cj⟩ := eq_mirror O hq hn he j
  rw [ei, ej]
  rcases ci with rfl | ⟨ci, ci1, ci2⟩
  · rcases cj with rfl | ⟨cj, cj1, cj2⟩
    · exact h i' j' h1 h2 h3
    · rcases Nat.lt_or_ge i' (lo + n - (q + 1)) with hlt | hge
      · exact h i' j' h1 (by omega) cj2
      · exact eqTail_any O he hge (by omega) cj1 cj2
  · rcases cj with rfl | ⟨cj, cj1, cj2⟩
    · exact eqTail_any O he ci1 ci2 (by omega) h3
    · exact eqTail_any O he ci1 ci2 cj1 cj2
theorem countRun_ok (O : LtOk prog w A s dom L) {lo nrem : Nat} {st : SortSt} {Q : Option Nat → SortSt → Prop} (hk : kindOf st = oneType') (hd : AllDom dom (arrOf st)) (hn : lo + nrem ≤ (arrOf st).size) (h1 : 1 ≤ nrem)
    (hQ : ∀ m st', Turn lo st st' → 1 ≤ m → m ≤ nrem → SortedR L (arrOf st') lo (lo + m) → Q (some m) st') : wpS (model prog w) A E s (countRun' lo nrem) Q st := by
  unfold countRun'
  refine wpS_bind (wpS_asc O (lo := lo) (a := 1) ?F1 h1 (fun i j a1 a2 a3 => ?i1) fun n n1 n2 hs hend => ?p1)
  case i1 =>
    obtain rfl : i = j := by omega
    exact O.irrefl _
  case F1 =>
    intro x n Q' a1 a2 q1 q2
    dsimp only
    refine wpS_bind (wpS_ltD O hk hd (by omega) (by omega) ?_)
    cases hl : L (atD (arrOf st) (lo + n)) (atD (arrOf st) (lo + n - 1)) with
    | true => exact wpS_pure (q1 hl)
    | false => exact wpS_pure (q2 hl)
  case p1 =>
  dsimp only
  by_cases e1 : n = nrem
  · rw [if_pos (beqT e1)]
    exact wpS_pure (hQ n st (.refl _ _) n1 n2 hs)
  rw [if_neg (beqF e1)]
  have hlast : L (atD (arrOf st) (lo + n)) (atD (arrOf st) (lo + n - 1)) = true := hend.resolve_left e1
  have hlt : n < nrem := by omega
  clear hend e1 n2
  by_cases c1 : n > 1
  case' pos =>
    rw [if_pos c1]
    refine wpS_bind (wpS_ltD O hk hd (by omega) (by omega) ?_)
    cases hr : L (atD (arrOf st) lo) (atD (arrOf st) (lo + n - 1)) with
    | true => exact wpS_pure (hQ n st (.refl _ _) n1 (Nat.le_of_lt hlt) hs)
    | false => ?_
    dsimp only
    rw [if_neg (by decide)]
    refine wpS_bind (wpS_rev ?_)
    obtain ⟨st2, hst2⟩ : ∃ st2, setArr st (mirror (arrOf st) lo (lo + n) ((lo + n - lo) / 2)) = st2 := ⟨_, rfl⟩
    have hT : Turn lo st st2 := hst2 ▸ Turn.mirror (Nat.le_refl lo) (by omega)
    have ha : arrOf st2 = mirror (arrOf st) lo (lo + n) ((lo + n - lo) / 2) := by rw [← hst2]
    have hD : NonIncR L (arrOf st2) lo (lo + (n + 1)) := by
      have hall : ∀ p q, lo ≤ p → p < lo + n → lo ≤ q → q < lo + n → L (atD (arrOf st) p) (atD (arrOf st) q) = false := fun p q p1 p2 q1 q2 =>
        O.le_trans (O.le_trans (hs q (lo + n - 1) q1 (by omega) (by omega)) hr) (hs lo p (Nat.le_refl _) p1 p2)
      refine NonIncR.snoc O (fun i j a1 a2 a3 => ?_) (.inr ?_)
      · rw [ha, atD_mirror (by omega), atD_mirror (by omega), if_pos (show lo ≤ i ∧ i < lo + n by omega), if_pos (show lo ≤ j ∧ j < lo + n by omega)]
        exact hall _ _ (by omega) (by omega) (by omega) (by omega)
      · rw [ha, atD_mirror (by omega), atD_mirror (by omega), if_pos (show lo ≤ lo + n - 1 ∧ lo + n - 1 < lo + n by omega), if_neg (show ¬ (lo ≤ lo + n ∧ lo + n < lo + n) by omega)]
        rcases O.neg _ (atD (arrOf st) lo) _ hlast with q | q
        · rw [show lo + (lo + n) - 1 - (lo + n - 1) = lo by omega]; exact O.asymm q
        · rw [hr] at q; cases q
    rw [hst2]
  case' neg =>
    rw [if_neg c1]
    obtain ⟨st2, hst2⟩ : ∃ st2, st = st2 := ⟨_, rfl⟩
    have hT : Turn lo st st2 := hst2 ▸ Turn.refl lo st
    have hD : NonIncR L (arrOf st2) lo (lo + (n + 1)) := by
      subst hst2
      obtain rfl : n = 1 := by omega
      refine NonIncR.snoc O (fun i j a1 a2 a3 => ?_) (.inr (O.asymm hlast))
      obtain rfl : i = j := by omega
      exact O.irrefl _
    rw [hst2]
  all_goals
    have hk2 : kindOf st2 = oneType' := hT.kind.trans hk
    refine wpS_bind (wpS_lift (wpAny_rule ⟨rfl, ?_⟩))
    refine wpS_bind (wpS_mono (wpS_forRange (I := fun x (r : DescSt) st' => ∃ q, r = (none, x, q) ∧ Turn lo st st' ∧ NonIncR L (arrOf st') lo (lo + x) ∧ q + 1 ≤ x ∧ EqTail L (arrOf st') lo x q)
      (Q := fun (r : DescSt) st' => ∃ x q, r = (none, x, q) ∧ n < x ∧ x ≤ nrem ∧ Turn lo st st' ∧ NonIncR L (arrOf st') lo (lo + x) ∧ q + 1 ≤ x ∧ EqTail L (arrOf st') lo x q) ?_ ?_ ⟨0, rfl, hT, hD, by omega, ?_⟩) ?_)
    · rintro x _ st3 hx1 hx2 ⟨q, rfl, hT3, hD3, hq, he⟩
      have hk3 : kindOf st3 = oneType' := hT3.kind.trans hk
      have hd3 := hd.perm hT3.perm
      have hz := hT3.size
      have hxs : lo + x < (arrOf st3).size := by omega
      dsimp only
      refine wpS_bind (wpS_ltD O hk3 hd3 hxs (by omega) ?_)
      cases hl : L (atD (arrOf st3) (lo + x)) (atD (arrOf st3) (lo + x - 1)) with
      | true =>
        dsimp only
        rw [if_pos rfl]
        by_cases cq : q > 0
        · rw [if_pos cq]
          refine wpS_bind (wpS_rev (wpS_pure ⟨0, rfl, hT3.trans (Turn.mirror (by omega) (by omega)), ?_, by omega, ?_⟩))
          · refine (nonInc_mirror O hq (by omega) he hD3).snoc O (.inr ?_)
            show L (atD (PyProof.Rows.mirror _ _ _ _) _) (atD (PyProof.Rows.mirror _ _ _ _) _) = false
            rw [atD_mirror (by omega), atD_mirror (by omega), if_pos (show lo + x - (q + 1) ≤ lo + x - 1 ∧ lo + x - 1 < lo + x by omega), if_neg (show ¬ (lo + x - (q + 1) ≤ lo + x ∧ lo + x < lo + x) by omega)]
            refine O.asymm ?_
            rcases O.neg _ (atD (arrOf st3) (lo + x - (q + 1) + (lo + x) - 1 - (lo + x - 1))) _ hl with p | p
            · exact p
            · rw [eqTail_any O he (by omega) (by omega) (by omega) (by omega)] at p; cases p
          · intro i i1 i2
            obtain rfl : i = lo + (x + 1) - 1 := by omega
            exact ⟨O.irrefl _, O.irrefl _⟩
        · rw [if_neg cq]
          refine wpS_pure ⟨0, rfl, hT3, hD3.snoc O (.inr (O.asymm hl)), by omega, ?_⟩
          intro i i1 i2
          obtain rfl : i = lo + (x + 1) - 1 := by omega
          exact ⟨O.irrefl _, O.irrefl _⟩
      | false =>
        dsimp only
        rw [if_neg (by decide)]
        refine wpS_bind (wpS_ltD O hk3 hd3 (by omega) hxs ?_)
        cases hl2 : L (atD (arrOf st3) (lo + x - 1)) (atD (arrOf st3) (lo + x)) with
        | true => exact wpS_pure ⟨x, q, rfl, by omega, by omega, hT3, hD3, hq, he⟩
        | false =>
          refine wpS_pure ⟨q + 1, rfl, hT3, hD3.snoc O (.inr hl2), by omega, fun i i1 i2 => ?_⟩
          rw [show lo + (x + 1) - 1 = lo + x by omega]
          rcases Nat.lt_or_ge i (lo + x) with h | h
          · obtain ⟨b1, b2⟩ := he i (by omega) h
            exact ⟨O.le_trans hl2 b1, O.le_trans b2 hl⟩
          · obtain rfl : i = lo + x := by omega
            exact ⟨O.irrefl _, O.irrefl _⟩
    · rintro _ st3 ⟨q, rfl, hT3, hD3, hq, he⟩
      rw [Nat.max_eq_right (by omega : n + 1 ≤ nrem)] at hD3 hq he ⊢
      exact ⟨nrem, q, rfl, hlt, Nat.le_refl _, hT3, hD3, hq, he⟩
    · intro i i1 i2
      obtain rfl : i = lo + (n + 1) - 1 := by omega
      exact ⟨O.irrefl _, O.irrefl _⟩
    rintro _ st3 ⟨x, q, rfl, hx1, hx2, hT3, hD3, hq, he⟩
    have hz := hT3.size
    dsimp only
    by_cases cq : q > 0
    case' pos =>
      rw [if_pos cq]
      refine wpS_bind (wpS_rev ?_)
      have hD4 := nonInc_mirror O hq (by omega) he hD3
      have hT4 := hT3.trans (Turn.mirror (st := st3) (i := lo + x - (q + 1)) (j := lo + x) (by omega) (by omega))
      have hD4 : NonIncR L (arrOf (setArr st3 (mirror (arrOf st3) (lo + x - (q + 1)) (lo + x) ((lo + x - (lo + x - (q + 1))) / 2)))) lo (lo + x) := hD4
      generalize setArr st3 (mirror (arrOf st3) (lo + x - (q + 1)) (lo + x) ((lo + x - (lo + x - (q + 1))) / 2)) = st4 at hD4 hT4 ⊢
    case' neg =>
      rw [if_neg cq]
      have hD4 := hD3
      have hT4 := hT3
      obtain ⟨st4, hst4⟩ : ∃ st4, st3 = st4 := ⟨_, rfl⟩
      rw [hst4] at hD4 hT4 ⊢
    all_goals
      clear hD3 he cq
      have hz4 := hT4.size
      refine wpS_bind (wpS_rev ?_)
      have hT5 := hT4.trans (Turn.mirror (st := st4) (i := lo) (j := lo + x) (Nat.le_refl _) (by omega))
      have hS5 : SortedR L (arrOf (setArr st4 (mirror (arrOf st4) lo (lo + x) ((lo + x - lo) / 2)))) lo (lo + x) := by
        intro i j i1 i2 i3
        show L (atD (PyProof.Rows.mirror _ _ _ _) _) (atD (PyProof.Rows.mirror _ _ _ _) _) = false
        rw [atD_mirror (by omega), atD_mirror (by omega), if_pos (show lo ≤ j ∧ j < lo + x by omega), if_pos (show lo ≤ i ∧ i < lo + x by omega)]
        exact hD4 _ _ (by omega) (by omega) (by omega)
      generalize setArr st4 (mirror (arrOf st4) lo (lo + x) ((lo + x - lo) / 2)) = st5 at hT5 hS5 ⊢
      have hk5 : kindOf st5 = oneType' := hT5.kind.trans hk
      have hd5 := hd.perm hT5.perm
      have hz5 := hT5.size
      refine wpS_bind (wpS_asc O (lo := lo) (a := x) (fun y n' Q' a1 a2 q1 q2 => ?_) hx2 hS5 fun m m1 m2 hs5 _ => wpS_pure (hQ m st5 hT5 (by omega) m2 hs5))
      dsimp only
      refine wpS_bind (wpS_ltD O hk5 hd5 (by omega) (by omega) ?_)
      cases hl : L (atD (arrOf st5) (lo + n')) (atD (arrOf st5) (lo + n' - 1)) with
      | true => exact wpS_pure (q1 hl)
      | false => exact wpS_pure (q2 hl)
end
end Sx
end
section
open PySem PySem.W PyProof.Rows
set_option linter.unusedVariables false
set_option Elab.async false
set_option maxRecDepth 100000
namespace Sx
section
variable {prog : Program} {w : World} {A : Around} {E : Value → Shared → Prop} {s : Shared} {dom : Keyed → Prop} {L : Keyed → Keyed → Bool}
theorem atD_bubble {xs : Array Keyed} {src d : Nat} (hs : src < xs.size) (hd : d ≤ src) (k : Nat) :
    atD (bubble xs src d) k = if k = src - d then atD xs src else if src - d < k ∧ k ≤ src then atD xs (k - 1) else atD xs k := by
  have e := getElem?_bubble hs d hd k
  by_cases h1 : k = src - d
  · rw [if_pos h1] at e ⊢; exact atD_congr e
  · rw [if_neg h1] at e ⊢
    by_cases h2 : src - d < k ∧ k ≤ src
    · rw [if_pos h2] at e ⊢; exact atD_congr e
    · rw [if_neg h2] at e ⊢; exact atD_congr e
theorem Turn.bubble {lo src d : Nat} {st : SortSt} (hs : src < (arrOf st).size) (hd : lo + d ≤ src) : Turn lo st (setArr st (bubble (arrOf st) src d)) where
  kind := rfl
  pend := rfl
  failed := rfl
  perm := bubble_perm _ _ _
  low k hk := by
    show (PyProof.Rows.bubble (arrOf st) src d)[k]? = _
    rw [getElem?_bubble hs d (by omega), if_neg (by omega), if_neg (by omega)]
noncomputable abbrev B2 := Option Bool × Nat × Nat
theorem binarySort_ok (O : LtOk prog w A s dom L) {lo n k : Nat} {st : SortSt} {Q : Bool → SortSt → Prop} (hk : kindOf st = oneType') (hd : AllDom dom (arrOf st)) (hn : lo + n ≤ (arrOf st).size) (h1 : 1 ≤ k) (h2 : k ≤ n)
    (hs : SortedR L (arrOf st) lo (lo + k)) (hQ : ∀ st', Turn lo st st' → SortedR L (arrOf st') lo (lo + n) → Q true st') : wpS (model prog w) A E s (binarySort' lo n k) Q st := by
  unfold binarySort'
  refine wpS_bind (wpS_mono (wpS_forRange (I := fun x (c : Option Bool × Unit) st' => c = (none, ()) ∧ Turn lo st st' ∧ SortedR L (arrOf st') lo (lo + x))
    (Q := fun (c : Option Bool × Unit) st' => c = (none, ()) ∧ Turn lo st st' ∧ SortedR L (arrOf st') lo (lo + n)) ?_ ?_ ⟨rfl, .refl _ _, ?_⟩) ?_)
  · rintro x _ st1 hx1 hx2 ⟨rfl, hT, hs1⟩
    have hk1 : kindOf st1 = oneType' := hT.kind.trans hk
    have hd1 := hd.perm hT.perm
    have hz := hT.size
    have hx0 : 1 ≤ x := by omega
    dsimp only
    have hxs : lo + x < (arrOf st1).size := by omega
    refine wpS_bind (wpS_mono (wpS_forRange (I := fun y (c : B2) st' => st' = st1 ∧ ∃ l r, c = (none, l, r) ∧ l ≤ r ∧ r ≤ x ∧ r - l ≤ x - y ∧
        (∀ i, i < l → L (atD (arrOf st1) (lo + x)) (atD (arrOf st1) (lo + i)) = false) ∧ (∀ i, r ≤ i → i < x → L (atD (arrOf st1) (lo + x)) (atD (arrOf st1) (lo + i)) = true))
      (Q := fun (c : B2) st' => st' = st1 ∧ ∃ l r, c = (none, l, r) ∧ l ≤ x ∧
        (∀ i, i < l → L (atD (arrOf st1) (lo + x)) (atD (arrOf st1) (lo + i)) = false) ∧ (∀ i, l ≤ i → i < x → L (atD (arrOf st1) (lo + x)) (atD (arrOf st1) (lo + i)) = true)) ?_ ?_ ⟨rfl, 0, x, rfl, by omega, by omega, by omega, fun i hi => by omega, fun i a1 a2 => by omega⟩) ?_)
    · rintro y _ st2 _ hy ⟨rfl, l, r, rfl, hlr, hrx, hm, hlo, hhi⟩
      dsimp only
      by_cases hge : l ≥ r
      · rw [if_pos hge]
        obtain rfl : l = r := by omega
        exact wpS_pure ⟨rfl, l, l, rfl, hrx, hlo, hhi⟩
      · rw [if_neg hge]
        refine wpS_bind (wpS_ltD O hk1 hd1 hxs (by omega) ?_)
        cases hl : L (atD (arrOf st2) (lo + x)) (atD (arrOf st2) (lo + (l + r) / 2)) with
        | true =>
          refine wpS_pure ⟨rfl, l, (l + r) / 2, rfl, by omega, by omega, by omega, hlo, fun i a1 a2 => ?_⟩
          rcases O.neg _ (atD (arrOf st2) (lo + i)) _ hl with q | q
          · exact q
          · rw [hs1 _ _ (by omega) (by omega) (by omega)] at q; cases q
        | false =>
          refine wpS_pure ⟨rfl, (l + r) / 2 + 1, r, rfl, by omega, by omega, by omega, fun i a1 => ?_, hhi⟩
          exact O.le_trans (hs1 (lo + i) (lo + (l + r) / 2) (by omega) (by omega) (by omega)) hl
    · rintro _ st2 ⟨rfl, l, r, rfl, hlr, hrx, hm, hlo, hhi⟩
      obtain rfl : l = r := by omega
      exact ⟨rfl, l, l, rfl, hrx, hlo, hhi⟩
    · rintro _ st2 ⟨rfl, l, r, rfl, hlx, hlo, hhi⟩
      show wpS (model prog w) A E s (do moveDown' (lo + x) (lo + l); pure (ForInStep.yield (none, ()))) _ _
      rw [moveDown'_eq]
      refine wpS_bind (wpS_modify (wpS_pure ⟨rfl, hT.trans (Turn.bubble hxs (by omega)), ?_⟩))
      intro i j i1 i2 i3
      show L (atD (bubble (arrOf st2) (lo + x) (lo + x - (lo + l))) j) (atD (bubble (arrOf st2) (lo + x) (lo + x - (lo + l))) i) = false
      rw [atD_bubble hxs (by omega), atD_bubble hxs (by omega), show lo + x - (lo + x - (lo + l)) = lo + l by omega]
      -- where the two came from
      by_cases ci : i < lo + l
      · rw [if_neg (show ¬ i = lo + l by omega), if_neg (show ¬ (lo + l < i ∧ i ≤ lo + x) by omega)]
        by_cases cj : j = lo + l
        · rw [if_pos cj]
          have := hlo (i - lo) (by omega)
          rwa [show lo + (i - lo) = i by omega] at this
        · rw [if_neg cj]
          split
          · exact hs1 _ _ i1 (by omega) (by omega)
          · exact hs1 _ _ i1 (by omega) (by omega)
      · by_cases cj : j = lo + l
        · rw [if_pos cj, if_pos (show i = lo + l by omega)]; exact O.irrefl _
        · rw [if_neg cj, if_pos (show lo + l < j ∧ j ≤ lo + x by omega)]
          by_cases ci2 : i = lo + l
          · rw [if_pos ci2]
            have := hhi (j - 1 - lo) (by omega) (by omega)
            rw [show lo + (j - 1 - lo) = j - 1 by omega] at this
            exact O.asymm this
          · rw [if_neg ci2, if_pos (show lo + l < i ∧ i ≤ lo + x by omega)]
            exact hs1 _ _ (by omega) (by omega) (by omega)
  · rintro _ st1 ⟨rfl, hT, hs1⟩
    rw [Nat.max_eq_left h1, Nat.max_eq_right h2] at hs1
    exact ⟨rfl, hT, hs1⟩
  · rw [Nat.max_eq_left h1]; exact hs
  · rintro _ st1 ⟨rfl, hT, hs1⟩
    exact wpS_pure (hQ st1 hT hs1)
end
end Sx
end
section
open PySem PySem.W PyProof.Rows
set_option linter.unusedVariables false
set_option Elab.async false
set_option maxRecDepth 100000
namespace Sx
theorem set_all (sa : Nat) : ∀ (l : List Keyed) (n : Nat) (a : Array Keyed), sa + n + l.length ≤ a.size →
    ((l.zipIdx n).foldl (fun a (x : Keyed × Nat) => a.setIfInBounds (sa + x.2) x.1) a).toList = a.toList.take (sa + n) ++ l ++ a.toList.drop (sa + n + l.length)
  | [], n, a, _ => by simp
  | p :: l, n, a, h => by
    rw [List.length_cons] at h
    rw [List.zipIdx_cons, List.foldl_cons]
    have hlen : a.toList.length = a.size := Array.length_toList
    have e : (a.setIfInBounds (sa + n) p).toList = a.toList.take (sa + n) ++ p :: a.toList.drop (sa + n + 1) := by
      rw [Array.toList_setIfInBounds, List.set_eq_take_append_cons_drop, if_pos (by omega)]
    rw [set_all sa l (n + 1) _ (by rw [Array.size_setIfInBounds]; omega), e]
    have ht : (a.toList.take (sa + n)).length = sa + n := by rw [List.length_take]; omega
    rw [List.append_cons (a.toList.take (sa + n)) p, List.take_left' (by rw [List.length_append, ht]; rfl), List.drop_append, List.length_append, ht, List.drop_eq_nil_of_le (by rw [List.length_append, ht]; show sa + n + 1 ≤ _; omega), List.drop_drop, List.nil_append]
    show _ ++ l ++ _ = _
    rw [List.append_assoc, List.append_assoc, List.append_assoc]
    refine congrArg (fun z => a.toList.take (sa + n) ++ (p :: (l ++ z))) ?_
    refine congrArg (fun k => a.toList.drop k) ?_
    rw [List.length_cons, List.length_cons, List.length_nil]
    omega
section
variable {prog : Program} {w : World} {A : Around} {E : Value → Shared → Prop} {s : Shared} {dom : Keyed → Prop} {L : Keyed → Keyed → Bool}
noncomputable abbrev Rises (L : Keyed → Keyed → Bool) (l : List Keyed) : Prop := l.Pairwise fun x y => L y x = false
theorem mrg_perm (xs ys : List Keyed) : (mrg L xs ys).Perm (xs ++ ys) := List.merge_perm_append _
theorem mrg_rises (O : LtOk prog w A s dom L) : ∀ (xs ys : List Keyed), Rises L xs → Rises L ys → Rises L (mrg L xs ys)
  | xs, [], h, _ => by rw [mrg_nil]; exact h
  | [], y :: ys, _, h => by rw [nil_mrg]; exact h
  | x :: xs, y :: ys, h1, h2 => by
    have a1 := List.pairwise_cons.mp h1
    have a2 := List.pairwise_cons.mp h2
    cases hl : L y x with
    | true =>
      rw [mrg_b hl]
      refine List.pairwise_cons.mpr ⟨fun z hz => ?_, mrg_rises O (x :: xs) ys h1 a2.2⟩
      rcases List.mem_append.mp ((mrg_perm _ _).mem_iff.mp hz) with hz | hz
      · have hyx := O.asymm hl
        rcases List.mem_cons.mp hz with rfl | hz
        · exact hyx
        · exact O.le_trans hyx (a1.1 z hz)
      · exact a2.1 z hz
    | false =>
      rw [mrg_a hl]
      refine List.pairwise_cons.mpr ⟨fun z hz => ?_, mrg_rises O xs (y :: ys) a1.2 h2⟩
      rcases List.mem_append.mp ((mrg_perm _ _).mem_iff.mp hz) with hz | hz
      · exact a1.1 z hz
      · rcases List.mem_cons.mp hz with rfl | hz
        · exact hl
        · exact O.le_trans hl (a2.1 z hz)
termination_by xs ys => xs.length + ys.length
theorem rises_of {xs : Array Keyed} {lo n : Nat} (h : SortedR L xs lo (lo + n)) (hn : lo + n ≤ xs.size) (O : LtOk prog w A s dom L) : Rises L ((xs.toList.drop lo).take n) := by
  have hlen : xs.toList.length = xs.size := Array.length_toList
  rw [Rises, List.pairwise_iff_getElem]
  intro i j hi hj hij
  rw [List.length_take, List.length_drop] at hi hj
  rw [List.getElem_take, List.getElem_take, List.getElem_drop, List.getElem_drop]
  have e : ∀ k (hk : lo + k < xs.size), xs.toList[lo + k] = atD xs (lo + k) := fun k hk => by
    have := atD_get hk
    rw [getElem?_pos xs _ hk] at this
    rw [Array.getElem_toList]; exact Option.some.inj this
  rw [e i (by omega), e j (by omega)]
  exact h _ _ (by omega) (by omega) (by omega)
theorem gallopR_r (O : LtOk prog w A s dom L) {key : Keyed} {xs : Array Keyed} {base n hint : Nat} {st : SortSt} {Q : Option Nat → SortSt → Prop} (hk : kindOf st = oneType') (hs : SortedR L xs base (base + n)) (hd : AllDom dom xs) (hkey : dom key) (hn : base + n ≤ xs.size) (hh : hint < n)
    (hQ : ∀ c, c ≤ n → (∀ i, i < c → L key (atD xs (base + i)) = false) → (∀ i, c ≤ i → i < n → L key (atD xs (base + i)) = true) → Q (some c) st) : wpS (model prog w) A E s (gallop' false key xs base n hint) Q st := by
  obtain ⟨c, hc, he⟩ : ∃ c, c ≤ n ∧ ∀ i, i < n → (!L key (atD xs (base + i))) = decide (i < c) := cut_at n _ fun i j hij hj h => by
    have h1 := hs (base + i) (base + j) (by omega) (by omega) (by omega)
    cases hk : L key (atD xs (base + i)) with
    | false => rfl
    | true =>
      rcases O.neg _ (atD xs (base + j)) _ hk with h2 | h2
      · rw [h2] at h; cases h
      · rw [h2] at h1; cases h1
  refine gallop_ok O hk hkey (c := c) (fun i hi => ⟨_, atD_get (by omega), hd.at (by omega), he i hi⟩) hc hh (hQ c hc (fun i hi => ?_) (fun i h1 h2 => ?_))
  · have := he i (by omega); rw [decide_eq_true hi] at this; simpa using this
  · have := he i h2; rw [decide_eq_false (by omega)] at this; simpa using this
theorem gallopR_l (O : LtOk prog w A s dom L) {key : Keyed} {xs : Array Keyed} {base n hint : Nat} {st : SortSt} {Q : Option Nat → SortSt → Prop} (hk : kindOf st = oneType') (hs : SortedR L xs base (base + n)) (hd : AllDom dom xs) (hkey : dom key) (hn : base + n ≤ xs.size) (hh : hint < n)
    (hQ : ∀ c, c ≤ n → (∀ i, i < c → L (atD xs (base + i)) key = true) → (∀ i, c ≤ i → i < n → L (atD xs (base + i)) key = false) → Q (some c) st) : wpS (model prog w) A E s (gallop' true key xs base n hint) Q st := by
  obtain ⟨c, hc, he⟩ : ∃ c, c ≤ n ∧ ∀ i, i < n → L (atD xs (base + i)) key = decide (i < c) := cut_at n _ fun i j hij hj h => by
    have h1 := hs (base + i) (base + j) (by omega) (by omega) (by omega)
    rcases O.neg _ (atD xs (base + i)) _ h with h2 | h2
    · rw [h2] at h1; cases h1
    · exact h2
  refine gallop_ok O hk hkey (c := c) (fun i hi => ⟨_, atD_get (by omega), hd.at (by omega), he i hi⟩) hc hh (hQ c hc (fun i hi => ?_) (fun i h1 h2 => ?_))
  · have := he i (by omega); rwa [decide_eq_true hi] at this
  · have := he i h2; rwa [decide_eq_false (by omega)] at this
end
end Sx
end
section
open PySem PySem.W PyProof.Rows
set_option linter.unusedVariables false
set_option Elab.async false
set_option maxRecDepth 100000
namespace Sx
section
variable {prog : Program} {w : World} {A : Around} {E : Value → Shared → Prop} {s : Shared} {dom : Keyed → Prop} {L : Keyed → Keyed → Bool}
theorem erase_one (a b c : Nat × Nat × Nat) : (#[a, b].setIfInBounds 0 c).eraseIdxIfInBounds (0 + 1) = #[c] := by
  apply Array.toList_inj.mp
  rw [Array.toList_eraseIdxIfInBounds]
  simp
theorem wpS_set {σ : Type} {M : Model} {st st' : σ} {Q : PUnit → σ → Prop} (h : Q ⟨⟩ st') : wpS M A E s (set st' : StateT σ Sem PUnit) Q st := by
  unfold wpS; rw [StateT.run_set]; exact wpAny_pure ⟨rfl, h⟩
theorem atD_ext {xs : Array Keyed} {a b i : Nat} (hb : b ≤ xs.size) (h : i < b - a) : atD (xs.extract a b) i = atD xs (a + i) := by
  refine atD_congr ?_
  rw [Array.getElem?_extract, if_pos (by rw [Nat.min_eq_left hb]; exact h)]
theorem size_ext {xs : Array Keyed} {a b : Nat} (hb : b ≤ xs.size) : (xs.extract a b).size = b - a := by rw [Array.size_extract, Nat.min_eq_left hb]
theorem rises_all (O : LtOk prog w A s dom L) {xs : Array Keyed} (h : SortedR L xs 0 xs.size) : Rises L xs.toList := by
  have := rises_of (lo := 0) (n := xs.size) (by rwa [Nat.zero_add]) (Nat.le_of_eq (Nat.zero_add _)) O
  rwa [List.drop_zero, List.take_of_length_le (Nat.le_of_eq Array.length_toList)] at this
theorem sortedA_ext {xs : Array Keyed} {a b lo hi : Nat} (hb : b ≤ xs.size) (ha : lo ≤ a) (hh : b ≤ hi) (h : SortedR L xs lo hi) : SortedA L (xs.extract a b) := by
  intro i j p q hij hi hj
  have hjs : j < (xs.extract a b).size := (Array.getElem?_eq_some_iff.mp hj).1
  rw [size_ext hb] at hjs
  have e1 : p = atD xs (a + i) := by rw [← atD_ext hb (by omega)]; unfold atD; rw [hi]; rfl
  have e2 : q = atD xs (a + j) := by rw [← atD_ext hb hjs]; unfold atD; rw [hj]; rfl
  rw [e1, e2]
  exact h _ _ (by omega) (by omega) (by omega)
/-- what stands about the merged part -/
theorem rises_mid (O : LtOk prog w A s dom L) {xs : Array Keyed} {n1 n2 k m : Nat} (hz : xs.size = n1 + n2) (hk : k < n1) (hm0 : 0 < m) (hm : m ≤ n2) (hs1 : SortedR L xs 0 n1) (hs2 : SortedR L xs n1 (n1 + n2))
    (q1 : ∀ i, i < k → L (atD xs n1) (atD xs i) = false) (q4 : ∀ i, m ≤ i → i < n2 → L (atD xs (n1 + i)) (atD xs (n1 - 1)) = false) :
    Rises L (xs.toList.take k ++ mrg L (xs.extract k n1).toList (xs.extract n1 (n1 + m)).toList ++ xs.toList.drop (n1 + m)) ∧
    (xs.toList.take k ++ mrg L (xs.extract k n1).toList (xs.extract n1 (n1 + m)).toList ++ xs.toList.drop (n1 + m)).Perm xs.toList := by
  have hx : (xs.extract k n1).toList = (xs.toList.drop k).take (n1 - k) := ext_take _ _ _
  have hy : (xs.extract n1 (n1 + m)).toList = (xs.toList.drop n1).take m := by rw [ext_take, Nat.add_sub_cancel_left]
  have hA : ∀ p ∈ xs.toList.take k, ∃ i, i < k ∧ p = atD xs i := fun p hp => by
    obtain ⟨i, h1, _, e⟩ := mem_take0 hp; exact ⟨i, h1, e⟩
  have hX : ∀ p ∈ (xs.extract k n1).toList, ∃ i, k ≤ i ∧ i < n1 ∧ p = atD xs i := fun p hp => by
    rw [hx] at hp
    obtain ⟨i, h1, _, e⟩ := mem_takeD hp; exact ⟨k + i, by omega, by omega, e⟩
  have hY : ∀ p ∈ (xs.extract n1 (n1 + m)).toList, ∃ i, n1 ≤ i ∧ i < n1 + m ∧ p = atD xs i := fun p hp => by
    rw [hy] at hp
    obtain ⟨i, h1, _, e⟩ := mem_takeD hp; exact ⟨n1 + i, by omega, by omega, e⟩
  have hlen : xs.toList.length = n1 + n2 := by rw [Array.length_toList, hz]
  have hB : ∀ p ∈ xs.toList.drop (n1 + m), ∃ i, n1 + m ≤ i ∧ i < n1 + n2 ∧ p = atD xs i := fun p hp => by
    obtain ⟨i, h1, h2, e⟩ := mem_takeD (k := (xs.toList.drop (n1 + m)).length) (by rw [List.take_length]; exact hp)
    exact ⟨n1 + m + i, by omega, by omega, e⟩
  refine ⟨?_, ?_⟩
  · refine List.pairwise_append.mpr ⟨List.pairwise_append.mpr ⟨?_, ?_, ?_⟩, ?_, ?_⟩
    · have := rises_of (lo := 0) (n := k) (fun i j a b c => hs1 i j a b (by omega)) (by omega) O
      rwa [List.drop_zero] at this
    · refine mrg_rises O _ _ ?_ ?_
      · rw [hx]; exact rises_of (fun i j a b c => hs1 i j (Nat.zero_le _) b (by omega)) (by omega) O
      · rw [hy]; exact rises_of (fun i j a b c => hs2 i j a b (by omega)) (by omega) O
    · intro p hp q hq
      obtain ⟨i, hi, rfl⟩ := hA p hp
      rcases List.mem_append.mp ((mrg_perm _ _).mem_iff.mp hq) with hq | hq
      · obtain ⟨j, j1, j2, rfl⟩ := hX q hq
        exact hs1 _ _ (Nat.zero_le _) (by omega) j2
      · obtain ⟨j, j1, j2, rfl⟩ := hY q hq
        exact O.le_trans (q1 i hi) (hs2 n1 j (Nat.le_refl _) j1 (by omega))
    · have := rises_of (lo := n1 + m) (n := n2 - m) (fun i j a b c => hs2 i j (by omega) b (by omega)) (by omega) O
      rwa [List.take_of_length_le (by rw [List.length_drop]; omega)] at this
    · intro p hp q hq
      obtain ⟨j, j1, j2, rfl⟩ := hB q hq
      rcases List.mem_append.mp hp with hp | hp
      · obtain ⟨i, hi, rfl⟩ := hA p hp
        exact O.le_trans (q1 i hi) (hs2 n1 j (Nat.le_refl _) (by omega) j2)
      · rcases List.mem_append.mp ((mrg_perm _ _).mem_iff.mp hp) with hp | hp
        · obtain ⟨i, i1, i2, rfl⟩ := hX p hp
          have := q4 (j - n1) (by omega) (by omega)
          rw [show n1 + (j - n1) = j by omega] at this
          exact O.le_trans (hs1 i (n1 - 1) (Nat.zero_le _) (by omega) (by omega)) this
        · obtain ⟨i, i1, i2, rfl⟩ := hY p hp
          exact hs2 i j i1 (by omega) j2
  · have e : xs.toList = xs.toList.take k ++ ((xs.extract k n1).toList ++ (xs.extract n1 (n1 + m)).toList) ++ xs.toList.drop (n1 + m) := by
      rw [hx, hy]
      conv => lhs; rw [← List.take_append_drop (n1 + m) xs.toList]
      congr 1
      rw [List.take_add, take_to (Nat.le_of_lt hk), List.append_assoc]
    conv => rhs; rw [e]
    exact ((mrg_perm _ _).append_left _).append_right _
theorem mergeAt_ok (O : LtOk prog w A s dom L) {n1 n2 pw : Nat} {st : SortSt} {Q : Bool → SortSt → Prop} (hk : kindOf st = oneType') (hd : AllDom dom (arrOf st)) (hp : pendingOf st = #[(0, n1, pw), (n1, n2, 0)]) (hf : failedOf st = none) (hz : (arrOf st).size = n1 + n2) (h1 : 1 ≤ n1) (h2 : 1 ≤ n2)
    (hs1 : SortedR L (arrOf st) 0 n1) (hs2 : SortedR L (arrOf st) n1 (n1 + n2))
    (hQ : ∀ st', pendingOf st' = #[(0, n1 + n2, pw)] → failedOf st' = none → (arrOf st').Perm (arrOf st) → kindOf st' = oneType' → Rises L (arrOf st').toList → Q true st') : wpS (model prog w) A E s (mergeAt' 0) Q st := by
  unfold mergeAt'
  refine wpS_bind (wpS_get ?_)
  dsimp only
  have e0 : (pendingOf st)[0]? = some (0, n1, pw) := by rw [hp]; rfl
  have e1 : (pendingOf st)[0 + 1]? = some (n1, n2, 0) := by rw [hp]; rfl
  rw [e0, e1]
  dsimp only
  refine wpS_bind (wpS_set ?_)
  obtain ⟨st2, hst2⟩ : ∃ st2, SortSt.mk' (kindOf st) (arrOf st) (((pendingOf st).setIfInBounds 0 (0, n1 + n2, pw)).eraseIdxIfInBounds (0 + 1)) (gallopOf st) (failedOf st) = st2 := ⟨_, rfl⟩
  have k2 : kindOf st2 = oneType' := by rw [← hst2]; exact hk
  have a2 : arrOf st2 = arrOf st := by rw [← hst2]
  have p2 : pendingOf st2 = #[(0, n1 + n2, pw)] := by rw [← hst2]; show ((pendingOf st).setIfInBounds 0 _).eraseIdxIfInBounds _ = _; rw [hp]; exact erase_one _ _ _
  have f2 : failedOf st2 = none := by rw [← hst2]; exact hf
  show wpS (model prog w) A E s _ Q (SortSt.mk' (kindOf st) (arrOf st) (((pendingOf st).setIfInBounds 0 (0, n1 + n2, pw)).eraseIdxIfInBounds (0 + 1)) (gallopOf st) (failedOf st))
  rw [hst2]
  have hb0 : n1 < (arrOf st).size := by omega
  refine wpS_bind (wpS_elem (atD_get hb0) ?_)
  refine wpS_bind (gallopR_r (xs := arrOf st) O k2 (by rw [Nat.zero_add]; exact hs1) hd (hd.at hb0) (by omega) h1 fun k hkn q1 q2 => ?_)
  simp only [Nat.zero_add] at q1 q2
  dsimp only
  by_cases ek : n1 - k = 0
  · rw [if_pos (beqT ek)]
    refine wpS_pure (hQ st2 p2 f2 (by rw [a2]) k2 ?_)
    rw [a2]
    refine rises_all O fun i j i1 i2 i3 => ?_
    rcases Nat.lt_or_ge j n1 with hj | hj
    · exact hs1 i j i1 i2 hj
    · rcases Nat.lt_or_ge i n1 with hi | hi
      · exact O.le_trans (q1 i (by omega)) (hs2 n1 j (Nat.le_refl _) hj (by omega))
      · exact hs2 i j hi i2 (by omega)
  rw [if_neg (beqF ek)]
  have hkl : k < n1 := by omega
  have elast : 0 + k + (n1 - k) - 1 = n1 - 1 := by omega
  have hl : n1 - 1 < (arrOf st).size := by omega
  refine wpS_bind (wpS_elem (p := atD (arrOf st) (n1 - 1)) (by rw [elast]; exact atD_get hl) ?_)
  refine wpS_bind (gallopR_l (xs := arrOf st) O k2 hs2 hd (hd.at hl) (by omega) (by omega) fun m hm q3 q4 => ?_)
  dsimp only
  by_cases em : m = 0
  · rw [if_pos (beqT em)]
    refine wpS_pure (hQ st2 p2 f2 (by rw [a2]) k2 ?_)
    rw [a2]
    refine rises_all O fun i j i1 i2 i3 => ?_
    rcases Nat.lt_or_ge j n1 with hj | hj
    · exact hs1 i j i1 i2 hj
    · rcases Nat.lt_or_ge i n1 with hi | hi
      · have := q4 (j - n1) (by omega) (by omega)
        rw [show n1 + (j - n1) = j by omega] at this
        exact O.le_trans (hs1 i (n1 - 1) i1 (by omega) (by omega)) this
      · exact hs2 i j hi i2 (by omega)
  rw [if_neg (beqF em)]
  have T : Two O ((arrOf st).extract k n1) ((arrOf st).extract n1 (n1 + m)) := by
    have z1 : ((arrOf st).extract k n1).size = n1 - k := size_ext (by omega)
    have z2 : ((arrOf st).extract n1 (n1 + m)).size = m := by rw [size_ext (by omega)]; omega
    refine ⟨sortedA_ext (by omega) (Nat.zero_le _) (Nat.le_refl _) hs1, sortedA_ext (by omega) (Nat.le_refl _) (by omega) hs2, fun i hi => ?_, fun i hi => ?_, by omega, by omega, ?_, fun i hi => ?_⟩
    · rw [z1] at hi; rw [atD_ext (by omega) hi]; exact hd.at (by omega)
    · rw [z2] at hi; rw [atD_ext (by omega) (by omega)]; exact hd.at (by omega)
    · rw [atD_ext (by omega) (by omega), atD_ext (by omega) (by omega)]; exact q2 k (Nat.le_refl _) hkl
    · rw [z2] at hi
      rw [atD_ext (by omega) (by omega), z1, atD_ext (by omega) (by omega), show k + (n1 - k - 1) = n1 - 1 by omega]
      exact q3 i hi
  obtain ⟨R1, R2⟩ := rises_mid O hz hkl (by omega) hm hs1 hs2 q1 q4
  have fin : ∀ (o : Array Keyed) (st3 : SortSt), Same st2 st3 → o.toList = mOf L ((arrOf st).extract k n1) ((arrOf st).extract n1 (n1 + m)) →
      wpS (model prog w) A E s (do
        modify fun (t : SortSt) => setArr t (o.toList.zipIdx.foldl (fun a (x : Keyed × Nat) => a.setIfInBounds (0 + k + x.2) x.1) (arrOf t))
        let t ← get
        pure (failedOf t).isNone) Q st3 := by
    intro o st3 hS ho
    refine wpS_bind (wpS_modify (wpS_bind (wpS_get (wpS_pure ?_))))
    have hf3 : failedOf st3 = none := hS.2.2.2.trans f2
    show Q (failedOf st3).isNone _
    rw [hf3]
    have ha3 : arrOf st3 = arrOf st := hS.2.1.trans a2
    have hol : o.toList.length = n1 - k + m := by
      rw [ho]; unfold mOf
      rw [(mrg_perm _ _).length_eq, List.length_append, Array.length_toList, Array.length_toList, size_ext (by omega), size_ext (by omega)]; omega
    have key : (o.toList.zipIdx.foldl (fun a (x : Keyed × Nat) => a.setIfInBounds (0 + k + x.2) x.1) (arrOf st3)).toList = (arrOf st).toList.take k ++ mrg L ((arrOf st).extract k n1).toList ((arrOf st).extract n1 (n1 + m)).toList ++ (arrOf st).toList.drop (n1 + m) := by
      rw [set_all (0 + k) o.toList 0 _ (by rw [ha3, hol]; omega), ha3, hol, ho, show 0 + k + 0 = k by omega, show k + (n1 - k + m) = n1 + m by omega]; rfl
    refine hQ _ (hS.2.2.1.trans p2) hf3 ?_ (hS.1.trans k2) ?_
    · refine Array.perm_iff_toList_perm.mpr ?_
      show (_ : Array Keyed).toList.Perm _
      rw [key]; exact R2
    · show Rises L (_ : Array Keyed).toList
      rw [key]; exact R1
  by_cases hle : n1 - k ≤ m
  · rw [if_pos hle]
    refine wpS_bind (mergeLo_ok (a := (arrOf st).extract (0 + k) n1) (by rw [Nat.zero_add]; exact T) k2 fun o st3 hS ho => ?_)
    exact fin o st3 hS (by rw [Nat.zero_add] at ho; exact ho)
  · rw [if_neg hle]
    refine wpS_bind (mergeHi_ok (a := (arrOf st).extract (0 + k) n1) (by rw [Nat.zero_add]; exact T) k2 fun o st3 hS ho => ?_)
    exact fin o st3 hS (by rw [Nat.zero_add] at ho; exact ho)
end
end Sx
end
section
open PySem PySem.W PyProof.Rows
set_option linter.unusedVariables false
set_option Elab.async false
set_option maxRecDepth 100000
namespace Sx
theorem minRun_half {n : Nat} (h : n < 128) : ∃ r, minRun' n n 0 = r ∧ n ≤ 2 * r := by
  match n with
  | 0 => exact ⟨0, rfl, Nat.le_refl _⟩
  | m + 1 =>
    rw [minRun'_succ]
    by_cases h1 : m + 1 < 64
    · rw [if_pos h1]; exact ⟨_, rfl, by omega⟩
    · rw [if_neg h1]
      obtain ⟨k, rfl⟩ : ∃ k, m = k + 1 := ⟨m - 1, by omega⟩
      rw [minRun'_succ, if_pos (by omega)]
      exact ⟨_, rfl, by omega⟩
structure Go (a₀ : Array Keyed) (st : SortSt) : Prop where
  kind : kindOf st = oneType'
  failed : failedOf st = none
  perm : (arrOf st).Perm a₀
theorem Go.turn {a₀ : Array Keyed} {st st' : SortSt} {lo : Nat} (h : Go a₀ st) (t : Turn lo st st') : Go a₀ st' := ⟨t.kind.trans h.kind, t.failed.trans h.failed, t.perm.trans h.perm⟩
theorem Go.pend {a₀ : Array Keyed} {st : SortSt} (h : Go a₀ st) (p : Array (Nat × Nat × Nat)) : Go a₀ (setPending st p) := ⟨h.kind, h.failed, h.perm⟩
section
variable {prog : Program} {w : World} {A : Around} {E : Value → Shared → Prop} {s : Shared} {dom : Keyed → Prop} {L : Keyed → Keyed → Bool}
theorem run_ok (O : LtOk prog w A s dom L) {a₀ : Array Keyed} (hd : AllDom dom a₀) {lo r : Nat} {st : SortSt} (hG : Go a₀ st) (hlo : lo < a₀.size)
    {K : Nat → StateT SortSt Sem (ForInStep (Option PUnit × Nat))} {Q' : ForInStep (Option PUnit × Nat) → SortSt → Prop}
    (hK : ∀ n st', Turn lo st st' → 1 ≤ n → lo + n ≤ a₀.size → (r ≤ n ∨ lo + n = a₀.size) → SortedR L (arrOf st') lo (lo + n) → wpS (model prog w) A E s (K n) Q' st') :
    wpS (model prog w) A E s (do
      let __x ← countRun' lo (a₀.size - lo)
      match __x with
      | some found =>
        if found < r then do
          liftM (rule "list.sort.binary-insertion")
          let b ← binarySort' lo (min (a₀.size - lo) r) found
          if (!b) = true then pure (ForInStep.done (some PUnit.unit, lo)) else K (min (a₀.size - lo) r)
        else K found
      | _ => pure (ForInStep.done (some PUnit.unit, lo))) Q' st := by
  have hz : (arrOf st).size = a₀.size := hG.perm.size_eq
  refine wpS_bind (countRun_ok O hG.kind (hd.perm hG.perm) (by omega) (by omega) fun m st1 hT hm1 hm2 hs => ?_)
  have hz1 := hT.size
  dsimp only
  by_cases hlt : m < r
  · rw [if_pos hlt]
    refine wpS_bind (wpS_lift (wpAny_rule ⟨rfl, ?_⟩))
    refine wpS_bind (binarySort_ok O (hT.kind.trans hG.kind) (hd.perm (hT.perm.trans hG.perm)) (by omega) hm1 (by omega) hs fun st2 hT2 hs2 => ?_)
    rw [if_neg (by decide)]
    exact hK _ st2 (hT.trans hT2) (by omega) (by omega) (by omega) hs2
  · rw [if_neg hlt]
    exact hK m st1 hT hm1 (by omega) (.inl (by omega)) hs
theorem sortRuns_ok (O : LtOk prog w A s dom L) {a₀ : Array Keyed} (hd : AllDom dom a₀) {st : SortSt} {Q : Unit → SortSt → Prop} (hG : Go a₀ st) (hp : pendingOf st = #[]) (h2 : 2 ≤ a₀.size) (h128 : a₀.size < 128)
    (hQ : ∀ st', Go a₀ st' → Rises L (arrOf st').toList → Q () st') : wpS (model prog w) A E s sortRuns' Q st := by
  rw [sortRuns'_eq]
  refine wpS_bind (wpS_get ?_)
  dsimp only
  have hz : (arrOf st).size = a₀.size := hG.perm.size_eq
  rw [hz]
  obtain ⟨r, hr, hrr⟩ := minRun_half h128
  rw [hr]
  refine wpS_bind (wpS_mono (wpS_forRange (I := fun x (c : Option PUnit × Nat) st' => Go a₀ st' ∧ ((x = 0 ∧ c = (none, 0) ∧ pendingOf st' = #[]) ∨
      (x = 1 ∧ ∃ n1, c = (none, n1) ∧ pendingOf st' = #[(0, n1, 0)] ∧ 1 ≤ n1 ∧ n1 ≤ a₀.size ∧ (r ≤ n1 ∨ n1 = a₀.size) ∧ SortedR L (arrOf st') 0 n1) ∨
      (2 ≤ x ∧ c = (none, a₀.size) ∧ ∃ n1 n2 pw, pendingOf st' = #[(0, n1, pw), (n1, n2, 0)] ∧ n1 + n2 = a₀.size ∧ 1 ≤ n1 ∧ 1 ≤ n2 ∧ SortedR L (arrOf st') 0 n1 ∧ SortedR L (arrOf st') n1 (n1 + n2))))
    (Q := fun (c : Option PUnit × Nat) st' => Go a₀ st' ∧ c = (none, a₀.size) ∧ ((pendingOf st' = #[(0, a₀.size, 0)] ∧ SortedR L (arrOf st') 0 a₀.size) ∨
      ∃ n1 n2 pw, pendingOf st' = #[(0, n1, pw), (n1, n2, 0)] ∧ n1 + n2 = a₀.size ∧ 1 ≤ n1 ∧ 1 ≤ n2 ∧ SortedR L (arrOf st') 0 n1 ∧ SortedR L (arrOf st') n1 (n1 + n2))) ?_ ?_ ⟨hG, .inl ⟨rfl, rfl, hp⟩⟩) ?_)
  · rintro x _ st1 _ hx ⟨hG1, ⟨rfl, rfl, hp1⟩ | ⟨rfl, n1, rfl, hp1, b1, b2, b3, b4⟩ | ⟨hx2, rfl, hp1⟩⟩
    · dsimp only
      rw [if_neg (by omega)]
      refine run_ok O hd (lo := 0) (r := r) hG1 (by omega) fun n st2 hT c1 c2 c3 c4 => ?_
      have hp2 : pendingOf st2 = #[] := hT.pend.trans hp1
      rw [Nat.zero_add] at c2 c3 c4
      refine wpS_bind (wpS_get ?_)
      rw [show (pendingOf st2).back? = none by rw [hp2]; rfl]
      refine wpS_bind (wpS_modify (wpS_pure ⟨(hG1.turn hT).pend _, .inr (.inl ⟨rfl, n, by rw [Nat.zero_add], ?_, c1, c2, c3, c4⟩)⟩))
      show (pendingOf st2).push _ = _
      rw [hp2]; rfl
    · dsimp only
      by_cases e : n1 ≥ a₀.size
      · rw [if_pos e]
        obtain rfl : n1 = a₀.size := Nat.le_antisymm b2 e
        exact wpS_pure ⟨hG1, rfl, .inl ⟨hp1, b4⟩⟩
      rw [if_neg e]
      refine run_ok O hd (lo := n1) (r := r) hG1 (by omega) fun n st2 hT c1 c2 c3 c4 => ?_
      have hp2 : pendingOf st2 = #[(0, n1, 0)] := hT.pend.trans hp1
      have hn : n1 + n = a₀.size := by omega
      refine wpS_bind (wpS_get ?_)
      rw [show (pendingOf st2).back? = some (0, n1, 0) by rw [hp2]; rfl]
      dsimp only
      refine wpS_bind (wpS_mono (wpS_forRange (I := fun _ (c : Option PUnit × Unit) st' => st' = st2 ∧ c = (none, ())) (Q := fun c st' => st' = st2 ∧ c = (none, ())) ?_ (fun _ _ h => h) ⟨rfl, rfl⟩) ?_)
      · rintro y _ _ _ _ ⟨rfl, rfl⟩
        refine wpS_bind (wpS_get ?_)
        rw [if_neg (by rw [hp2]; exact Nat.lt_irrefl 1)]
        exact wpS_pure ⟨rfl, rfl⟩
      · rintro _ _ ⟨rfl, rfl⟩
        rename_i st2
        dsimp only
        refine wpS_bind (wpS_modify (wpS_bind (wpS_modify (wpS_pure ⟨((hG1.turn hT).pend _).pend _, .inr (.inr ⟨Nat.le_refl 2, by rw [hn], n1, n, power' a₀.size (2 * 0 + n1) (2 * 0 + n1 + n1 + n) a₀.size, ?_, hn, b1, c1, ?_, c4⟩)⟩))))
        · show ((pendingOf st2).modify _ _).push _ = _
          rw [hp2]; rfl
        · intro i j i1 i2 i3
          have hl := hT.low
          show L (atD (arrOf st2) j) (atD (arrOf st2) i) = false
          rw [atD_congr (hl i (by omega)), atD_congr (hl j (by omega))]
          exact b4 i j i1 i2 i3
    · dsimp only
      rw [if_pos (Nat.le_refl _)]
      exact wpS_pure ⟨hG1, rfl, .inr hp1⟩
  · rintro c st1 ⟨hG1, ⟨hx, _, _⟩ | ⟨hx, _⟩ | ⟨_, rfl, hp1⟩⟩
    · omega
    · omega
    · exact ⟨hG1, rfl, .inr hp1⟩
  · rintro _ st1 ⟨hG1, rfl, hfin⟩
    dsimp only
    refine wpS_bind (wpS_mono (wpS_forRange (I := fun x (c : Option PUnit × Unit) st' => Go a₀ st' ∧ c = (none, ()) ∧ (((pendingOf st').size = 1 ∧ Rises L (arrOf st').toList) ∨
        (x = 0 ∧ ∃ n1 n2 pw, pendingOf st' = #[(0, n1, pw), (n1, n2, 0)] ∧ n1 + n2 = a₀.size ∧ 1 ≤ n1 ∧ 1 ≤ n2 ∧ SortedR L (arrOf st') 0 n1 ∧ SortedR L (arrOf st') n1 (n1 + n2))))
      (Q := fun (c : Option PUnit × Unit) st' => Go a₀ st' ∧ c = (none, ()) ∧ Rises L (arrOf st').toList) ?_ ?_ ⟨hG1, rfl, ?_⟩) ?_)
    · rintro x _ st2 _ hx ⟨hG2, rfl, ⟨hp2, hR⟩ | ⟨rfl, n1, n2, pw, hp2, b1, b2, b3, b4, b5⟩⟩
      · refine wpS_bind (wpS_get ?_)
        rw [if_pos (by rw [hp2]; exact Nat.le_refl 1)]
        exact wpS_pure ⟨hG2, rfl, hR⟩
      · refine wpS_bind (wpS_get ?_)
        rw [hp2, if_neg (by show ¬ 2 ≤ 1; omega)]
        have hz2 : (arrOf st2).size = n1 + n2 := by rw [b1]; exact hG2.perm.size_eq
        show wpS (model prog w) A E s (do
          let b ← mergeAt' 0
          if (!b) = true then pure (ForInStep.done (some (), ())) else pure (ForInStep.yield (none, ()))) _ _
        refine wpS_bind (mergeAt_ok O hG2.kind (hd.perm hG2.perm) hp2 hG2.failed hz2 b2 b3 b4 b5 fun st3 p3 f3 m3 k3 r3 => ?_)
        rw [if_neg (by decide)]
        exact wpS_pure ⟨⟨k3, f3, m3.trans hG2.perm⟩, rfl, .inl ⟨by rw [p3]; rfl, r3⟩⟩
    · rintro _ st2 ⟨hG2, rfl, ⟨_, hR⟩ | ⟨hx, _⟩⟩
      · exact ⟨hG2, rfl, hR⟩
      · omega
    · rcases hfin with ⟨hp1, hs⟩ | hp1
      · refine .inl ⟨by rw [hp1]; rfl, rises_all O ?_⟩
        rw [hG1.perm.size_eq]; exact hs
      · exact .inr ⟨rfl, hp1⟩
    · rintro _ st2 ⟨hG2, rfl, hR⟩
      exact wpS_pure (hQ st2 hG2 hR)
end
end Sx
end
section
open PySem PySem.W PyProof.Rows
set_option Elab.async false
set_option maxRecDepth 100000
namespace Sx

/-! ## values -/
noncomputable abbrev S := List Nat
noncomputable abbrev lit (s : String) : S := s.toList.map Char.toNat
noncomputable def mkS (l : S) : Str := ⟨l.toArray⟩

inductive Key where
  | s (l : S)
  | i (n : Int)
  deriving DecidableEq

inductive V where
  | none
  | bool (b : Bool)
  | int (i : Int)
  | str (l : S)
  | txt (l : S)
  | bytes (b : Array UInt8)
  | tup (vs : List V)
  | lst (vs : List V)
  | dct (es : List (Key × V))
  | rng (a b : Int)
  | items (es : List (Key × V))
  | val (v : Value)

noncomputable def Key.v : Key → V
  | .s l => .str l
  | .i n => .int n

noncomputable abbrev TM := Tok → Option S
structure PH where
  ob : Addr → Option Obj
  tk : TM

theorem mkS_inj {a b : S} (h : mkS a = mkS b) : a = b := by
  unfold mkS at h; injection h with h; exact congrArg Array.toList h
@[simp] theorem mkS_cps (l : S) : (mkS l).cps.toList = l := rfl

noncomputable def Key.is : Key → Value → Bool
  | .s l, .str x _ => decide (x = mkS l)
  | .i n, .int m _ => decide (m = n)
  | _, _ => false

theorem Key.is_s {l : S} {v : Value} (h : (Key.s l).is v = true) : ∃ t, v = .str (mkS l) t := by
  cases v <;> simp_all [Key.is]
theorem Key.is_i {n : Int} {v : Value} (h : (Key.i n).is v = true) : ∃ t, v = .int n t := by
  cases v <;> simp_all [Key.is]
theorem Key.is_inj (v : Value) (a b : Key) (ha : a.is v = true) (hb : b.is v = true) : a = b := by
  cases a with
  | s l =>
    obtain ⟨t, rfl⟩ := Key.is_s ha
    cases b with
    | s l' => obtain ⟨t', e⟩ := Key.is_s hb; injection e with e; rw [mkS_inj e]
    | i n => obtain ⟨t', e⟩ := Key.is_i hb; cases e
  | i n =>
    obtain ⟨t, rfl⟩ := Key.is_i ha
    cases b with
    | s l' => obtain ⟨t', e⟩ := Key.is_s hb; cases e
    | i n' => obtain ⟨t', e⟩ := Key.is_i hb; injection e with e; rw [e]

section
variable {prog : Program} {w : World} {A : Around} {E : Value → Shared → Prop} {s : Shared}
theorem eqBool_str_int {a : Str} {t : Tok} {b : Int} {u : Tok} {Q : Bool → Shared → Prop} (h : Q false s) : wpAny (model prog w) A (eqBool (.str a t) (.int b u)) Q E s := by
  unfold eqBool
  refine wpAny_holding ?_
  show wpAny _ _ (if (Value.str a t == Value.int b u) = true then _ else _) Q E s
  rw [if_neg (by simp)]
  exact wpAny_bind (EqMixed.eq_str_int (wpAny_truthy_bool h))
theorem eqBool_int_str {b : Str} {u : Tok} {a : Int} {t : Tok} {Q : Bool → Shared → Prop} (h : Q false s) : wpAny (model prog w) A (eqBool (.int a t) (.str b u)) Q E s := by
  unfold eqBool
  refine wpAny_holding ?_
  show wpAny _ _ (if (Value.int a t == Value.str b u) = true then _ else _) Q E s
  rw [if_neg (by simp)]
  exact wpAny_bind (EqMixed.eq_int_str (wpAny_truthy_bool h))
end

theorem key_eqBool {prog : Program} {w : World} {A : Around} {E : Value → Shared → Prop} {s : Shared} {a b : Key} {u v : Value} {Q : Bool → Shared → Prop} (hu : a.is u = true) (hv : b.is v = true) (h : Q (decide (a = b)) s) :
    wpAny (model prog w) A (eqBool u v) Q E s := by
  cases a with
  | s l =>
    obtain ⟨t, rfl⟩ := Key.is_s hu
    cases b with
    | s l' =>
      obtain ⟨t', rfl⟩ := Key.is_s hv
      refine wpAny_eqBool_str ?_
      have e : decide (mkS l = mkS l') = decide (Key.s l = Key.s l') := by
        by_cases q : l = l'
        · subst q; simp
        · rw [decide_eq_false (fun x => q (mkS_inj x)), decide_eq_false (fun x => q (by injection x))]
      rw [e]; exact h
    | i n => obtain ⟨t', rfl⟩ := Key.is_i hv; exact eqBool_str_int (by simpa using h)
  | i n =>
    obtain ⟨t, rfl⟩ := Key.is_i hu
    cases b with
    | s l' => obtain ⟨t', rfl⟩ := Key.is_s hv; exact eqBool_int_str (by simpa using h)
    | i n' =>
      obtain ⟨t', rfl⟩ := Key.is_i hv
      refine wpAny_eqBool_int ?_
      have e : (n == n') = decide (Key.i n = Key.i n') := by
        by_cases q : n = n'
        · subst q; simp
        · rw [decide_eq_false (fun x => q (by injection x))]; simp [q]
      rw [e]; exact h
theorem key_strs (k : Key) (x : Str) (t : Tok) (v : Value) (h : k.is (.str x t) = true) : k.is v = v.isStr x := by
  cases k with
  | s l =>
    obtain ⟨u, hu⟩ := Key.is_s h
    injection hu with hx
    subst hx
    cases v with
    | str y u' =>
      show decide (y = mkS l) = (y == mkS l)
      by_cases e : y = mkS l <;> simp [e]
    | _ => rfl
  | i n => obtain ⟨u, hu⟩ := Key.is_i h; cases hu

noncomputable def keyHash (w : World) : Key → Int
  | .s l => hashStr w (mkS l)
  | .i n => hashInt n

theorem key_pyHash {prog : Program} {w : World} {A : Around} {E : Value → Shared → Prop} {s : Shared} {k : Key} {v : Value} {Q : Int → Shared → Prop} (hv : k.is v = true) (h : Q (keyHash w k) { s with toks := s.toks + 1 }) :
    wpAny (model prog w) A (pyHash v) Q E s := by
  cases k with
  | s l => obtain ⟨t, rfl⟩ := Key.is_s hv; exact wpAny_pyHash_str h
  | i n => obtain ⟨t, rfl⟩ := Key.is_i hv; exact wpAny_pyHash_int h

noncomputable def mixKind (prog : Program) (w : World) : KeyKind prog w Key where
  is := Key.is
  hash := keyHash w
  inj := Key.is_inj
  byValue := fun k v h => by
    cases k with
    | s l => obtain ⟨t, rfl⟩ := Key.is_s h; rfl
    | i n => obtain ⟨t, rfl⟩ := Key.is_i h; rfl
  pyHash := key_pyHash
  eqBool := key_eqBool
  «strs» := key_strs

/-- what all frames of the run share -/
structure Wd where
  prog : Program
  w : World
  h₀ : Heap
  gls : List (String × Value)

noncomputable abbrev Wd.knd (W : Wd) : KeyKind W.prog W.w Key := mixKind W.prog W.w

mutual
inductive Rep (W : Wd) (g : PH) : V → Value → Prop
  | none : Rep W g .none .none
  | bool (b : Bool) : Rep W g (.bool b) (.bool b)
  | int (i : Int) (t : Tok) : Rep W g (.int i) (.int i t)
  | str {l : S} {t : Tok} : g.tk t = some l → Rep W g (.str l) (.str (mkS l) t)
  | txt (l : S) (t : Tok) : Rep W g (.txt l) (.str (mkS l) t)
  | bytes (b : Array UInt8) (t : Tok) : Rep W g (.bytes b) (.bytes b t)
  | tup {a : Addr} {o : Obj} {vs : List V} {ws : List Value} {n : Nat} : g.ob a = some o → o.cls = .type "tuple" → o.data = .seq ws.toArray n → RepL W g vs ws → Rep W g (.tup vs) (.ref a)
  | lst {a : Addr} {o : Obj} {vs : List V} {ws : List Value} {n : Nat} : g.ob a = some o → o.cls = .type "list" → o.dict = none → o.data = .seq ws.toArray n → RepL W g vs ws → Rep W g (.lst vs) (.ref a)
  | dct {a : Addr} {o : Obj} {es : List (Key × V)} {ds : List DictEntry} {kvs : List (Key × Value)} {n : Nat} : g.ob a = some o → (a == sysModules) = false → o.ExactDict → o.data = .dict ds.toArray n → RepD W g es ds kvs → (es.map (·.1)).Nodup → Rep W g (.dct es) (.ref a)
  | rng {r : Addr} {a b : Int} {t u v : Tok} : g.ob r = some { cls := .type "range", dict := none, data := .fields #[.int a t, .int b u, .int 1 v], slots := #[] } → Rep W g (.rng a b) (.ref r)
  | itm {v d : Addr} {o : Obj} {es : List (Key × V)} : g.ob v = some o → o.cls = .type "dict_items" → o.data = .fields #[.ref d] → Rep W g (.dct es) (.ref d) → Rep W g (.items es) (.ref v)
  | val (v : Value) : Rep W g (.val v) v
inductive RepL (W : Wd) (g : PH) : List V → List Value → Prop
  | nil : RepL W g [] []
  | cons {v : V} {w : Value} {vs : List V} {ws : List Value} : Rep W g v w → RepL W g vs ws → RepL W g (v :: vs) (w :: ws)
inductive RepD (W : Wd) (g : PH) : List (Key × V) → List DictEntry → List (Key × Value) → Prop
  | nil : RepD W g [] [] []
  | cons {k : Key} {v : V} {d : DictEntry} {es : List (Key × V)} {ds : List DictEntry} {kvs : List (Key × Value)} : Rep W g k.v d.key → d.hash = W.knd.hash k → Rep W g v d.val → RepD W g es ds kvs → RepD W g ((k, v) :: es) (d :: ds) ((k, d.val) :: kvs)
end

section
variable {W : Wd} {g : PH}
theorem Rep.int_inv {i : Int} {v : Value} (h : Rep W g (.int i) v) : ∃ t, v = .int i t := by cases h; exact ⟨_, rfl⟩
theorem Rep.bool_inv {i : Bool} {v : Value} (h : Rep W g (.bool i) v) : v = .bool i := by cases h; rfl
theorem Rep.str_inv {l : S} {v : Value} (h : Rep W g (.str l) v) : ∃ t, v = .str (mkS l) t ∧ g.tk t = some l := by cases h; exact ⟨_, rfl, by assumption⟩
theorem Rep.lst_inv {vs : List V} {v : Value} (h : Rep W g (.lst vs) v) : ∃ a o ws n, v = .ref a ∧ g.ob a = some o ∧ o.cls = .type "list" ∧ o.dict = Option.none ∧ o.data = .seq ws.toArray n ∧ RepL W g vs ws := by
  cases h with
  | lst h1 h2 h3 h4 r => exact ⟨_, _, _, _, rfl, h1, h2, h3, h4, r⟩
theorem Rep.tup_inv {vs : List V} {v : Value} (h : Rep W g (.tup vs) v) : ∃ a o ws n, v = .ref a ∧ g.ob a = some o ∧ o.cls = .type "tuple" ∧ o.data = .seq ws.toArray n ∧ RepL W g vs ws := by
  cases h with
  | tup h1 h2 h3 r => exact ⟨_, _, _, _, rfl, h1, h2, h3, r⟩
theorem Rep.dct_inv {es : List (Key × V)} {v : Value} (h : Rep W g (.dct es) v) : ∃ a o ds kvs n, v = .ref a ∧ g.ob a = some o ∧ (a == sysModules) = false ∧ o.ExactDict ∧ o.data = .dict ds.toArray n ∧ RepD W g es ds kvs ∧ (es.map (·.1)).Nodup := by
  cases h with
  | dct h1 h0 h2 h3 r hn => exact ⟨_, _, _, _, _, rfl, h1, h0, h2, h3, r, hn⟩
theorem Rep.itm_inv {es : List (Key × V)} {v : Value} (h : Rep W g (.items es) v) : ∃ a d o, v = .ref a ∧ g.ob a = some o ∧ o.cls = .type "dict_items" ∧ o.data = .fields #[.ref d] ∧ Rep W g (.dct es) (.ref d) := by
  cases h with
  | itm h1 h2 h3 r => exact ⟨_, _, _, rfl, h1, h2, h3, r⟩
theorem RepL.nil_inv {ws : List Value} (h : RepL W g [] ws) : ws = [] := by cases h; rfl
theorem RepL.cons_inv {v : V} {vs : List V} {ws : List Value} (h : RepL W g (v :: vs) ws) : ∃ w r, ws = w :: r ∧ Rep W g v w ∧ RepL W g vs r := by
  cases h with
  | cons h1 h2 => exact ⟨_, _, rfl, h1, h2⟩
end

structure Le (g g' : PH) : Prop where
  ob : ∀ a o, g.ob a = some o → g'.ob a = some o
  tk : ∀ t l, g.tk t = some l → g'.tk t = some l
theorem Le.refl (g : PH) : Le g g := ⟨fun _ _ e => e, fun _ _ e => e⟩
theorem Le.trans {g g' g'' : PH} (x : Le g g') (y : Le g' g'') : Le g g'' := ⟨fun a o e => y.ob a o (x.ob a o e), fun a o e => y.tk a o (x.tk a o e)⟩

theorem Rep.mono {W : Wd} {g g' : PH} (hs : Le g g') {v : V} {w : Value} (h : Rep W g v w) : Rep W g' v w :=
  Rep.rec (motive_1 := fun v w _ => Rep W g' v w) (motive_2 := fun v w _ => RepL W g' v w) (motive_3 := fun v w k _ => RepD W g' v w k)
    .none .bool .int (fun h => .str (hs.tk _ _ h)) .txt .bytes (fun h1 h2 h3 _ r => .tup (hs.ob _ _ h1) h2 h3 r) (fun h1 h2 h3 h4 _ r => .lst (hs.ob _ _ h1) h2 h3 h4 r) (fun h1 h2 h3 h4 _ h5 r => .dct (hs.ob _ _ h1) h2 h3 h4 r h5)
    (fun h => .rng (hs.ob _ _ h)) (fun h1 h2 h3 _ r => .itm (hs.ob _ _ h1) h2 h3 r) .val .nil (fun _ _ h r => .cons h r) .nil (fun _ e _ _ h k r => .cons h e k r) h
theorem RepL.mono {W : Wd} {g g' : PH} (hs : Le g g') {v : List V} {w : List Value} (h : RepL W g v w) : RepL W g' v w := by
  induction v generalizing w with
  | nil => rw [h.nil_inv]; exact .nil
  | cons v vs ih => obtain ⟨w, r, rfl, h1, h2⟩ := h.cons_inv; exact .cons (h1.mono hs) (ih h2)
theorem RepD.mono {W : Wd} {g g' : PH} (hs : Le g g') {v : List (Key × V)} {w : List DictEntry} {kvs : List (Key × Value)} (h : RepD W g v w kvs) : RepD W g' v w kvs :=
  RepD.rec (motive_1 := fun v w _ => Rep W g' v w) (motive_2 := fun v w _ => RepL W g' v w) (motive_3 := fun v w k _ => RepD W g' v w k)
    .none .bool .int (fun h => .str (hs.tk _ _ h)) .txt .bytes (fun h1 h2 h3 _ r => .tup (hs.ob _ _ h1) h2 h3 r) (fun h1 h2 h3 h4 _ r => .lst (hs.ob _ _ h1) h2 h3 h4 r) (fun h1 h2 h3 h4 _ h5 r => .dct (hs.ob _ _ h1) h2 h3 h4 r h5)
    (fun h => .rng (hs.ob _ _ h)) (fun h1 h2 h3 _ r => .itm (hs.ob _ _ h1) h2 h3 r) .val .nil (fun _ _ h r => .cons h r) .nil (fun _ e _ _ h k r => .cons h e k r) h

section
variable {W : Wd} {g : PH}
theorem RepL.length {vs : List V} {ws : List Value} (h : RepL W g vs ws) : ws.length = vs.length := by
  induction ws generalizing vs with
  | nil => cases h; rfl
  | cons w ws ih => cases h with | cons h r => simp [ih r]
theorem RepL.append {vs vs' : List V} {ws ws' : List Value} (h : RepL W g vs ws) (k : RepL W g vs' ws') : RepL W g (vs ++ vs') (ws ++ ws') := by
  induction ws generalizing vs with
  | nil => cases h; exact k
  | cons w ws ih => cases h with | cons h r => exact .cons h (ih r)
theorem RepL.get {vs : List V} {ws : List Value} (h : RepL W g vs ws) {k : Nat} {v : V} (hk : vs[k]? = some v) : ∃ w, ws[k]? = some w ∧ Rep W g v w := by
  induction ws generalizing vs k with
  | nil => cases h; cases hk
  | cons w ws ih =>
    cases h with
    | cons h r =>
      cases k with
      | zero => cases hk; exact ⟨w, rfl, h⟩
      | succ k => exact ih r (by simpa using hk)
theorem RepL.take {vs : List V} {ws : List Value} (h : RepL W g vs ws) (k : Nat) : RepL W g (vs.take k) (ws.take k) := by
  induction ws generalizing vs k with
  | nil => cases h; simp; exact .nil
  | cons w ws ih => cases h with | cons h r => cases k with | zero => exact .nil | succ k => exact .cons h (ih r k)
theorem RepL.drop {vs : List V} {ws : List Value} (h : RepL W g vs ws) (k : Nat) : RepL W g (vs.drop k) (ws.drop k) := by
  induction ws generalizing vs k with
  | nil => cases h; simp; exact .nil
  | cons w ws ih => cases h with | cons h r => cases k with | zero => exact .cons h r | succ k => exact ih r k
theorem RepL.set {vs : List V} {ws : List Value} (h : RepL W g vs ws) {v : V} {w : Value} (hv : Rep W g v w) (k : Nat) : RepL W g (vs.set k v) (ws.set k w) := by
  induction ws generalizing vs k with
  | nil => cases h; exact .nil
  | cons w' ws ih => cases h with | cons h r => cases k with | zero => exact .cons hv r | succ k => exact .cons h (ih r k)
end

section
variable {W : Wd} {g : PH}
theorem Key.is_of_rep {k : Key} {v : Value} (h : Rep W g k.v v) : k.is v = true := by
  cases k with
  | s l => cases h; simp [Key.is]
  | i n => cases h; simp [Key.is]
theorem RepD.keysOf {es : List (Key × V)} {ds : List DictEntry} {kvs : List (Key × Value)} (h : RepD W g es ds kvs) : KeysOf W.knd ds.toArray := by
  intro e he
  have he : e ∈ ds := by simpa using he
  induction ds generalizing es kvs with
  | nil => cases he
  | cons d ds ih =>
    cases h with
    | cons h1 h2 h3 r =>
      rcases List.mem_cons.mp he with rfl | he
      · exact ⟨_, Key.is_of_rep h1, h2⟩
      · exact ih r (by simpa using he) he
theorem RepD.pairs {es : List (Key × V)} {ds : List DictEntry} {kvs : List (Key × Value)} (h : RepD W g es ds kvs) : Pairs W.knd ds kvs := by
  induction ds generalizing es kvs with
  | nil => cases h; exact .nil
  | cons d ds ih =>
    cases h with
    | cons h1 h2 h3 r => exact .cons (Key.is_of_rep h1) rfl (ih r)
theorem RepD.keys {es : List (Key × V)} {ds : List DictEntry} {kvs : List (Key × Value)} (h : RepD W g es ds kvs) : kvs.map (·.1) = es.map (·.1) := by
  induction ds generalizing es kvs with
  | nil => cases h; rfl
  | cons d ds ih =>
    cases h with
    | cons h1 h2 h3 r => simp [ih r]
theorem RepD.length {es : List (Key × V)} {ds : List DictEntry} {kvs : List (Key × Value)} (h : RepD W g es ds kvs) : ds.length = es.length ∧ kvs.length = es.length := by
  induction ds generalizing es kvs with
  | nil => cases h; exact ⟨rfl, rfl⟩
  | cons d ds ih =>
    cases h with
    | cons h1 h2 h3 r => simp [ih r]
theorem RepD.get {es : List (Key × V)} {ds : List DictEntry} {kvs : List (Key × Value)} (h : RepD W g es ds kvs) {i : Nat} {k : Key} {v : V} (hi : es[i]? = some (k, v)) :
    ∃ d, ds[i]? = some d ∧ kvs[i]? = some (k, d.val) ∧ Rep W g k.v d.key ∧ Rep W g v d.val := by
  induction ds generalizing es kvs i with
  | nil => cases h; cases hi
  | cons d ds ih =>
    cases h with
    | cons h1 h2 h3 r =>
      cases i with
      | zero => cases hi; exact ⟨d, rfl, rfl, h1, h3⟩
      | succ i => exact ih r (by simpa using hi)

/-- the first entry under a key -/
noncomputable def dget (es : List (Key × V)) (k : Key) : Option V := (es.find? fun p => p.1 = k).map (·.2)
theorem RepD.dictOf {es : List (Key × V)} {ds : List DictEntry} {kvs : List (Key × Value)} {h : Heap} {a : Addr} {o : Obj} {n : Nat} (r : RepD W g es ds kvs) (ho : h.get? a = some o) (hx : o.ExactDict) (hd : o.data = .dict ds.toArray n) (hn : (es.map (·.1)).Nodup) :
    h.DictOf W.knd a kvs := ⟨o, _, n, ho, hx, hd, r.keysOf, by simpa using r.pairs, r.keys ▸ hn⟩
theorem RepD.dictAt {es : List (Key × V)} {ds : List DictEntry} {kvs : List (Key × Value)} {h : Heap} {a : Addr} {o : Obj} {n : Nat} (r : RepD W g es ds kvs) (ho : h.get? a = some o) (hx : o.ExactDict) (hd : o.data = .dict ds.toArray n) (hn : (es.map (·.1)).Nodup) :
    h.DictAt W.knd a kvs n := ⟨o, _, ho, hx, hd, r.keysOf, by simpa using r.pairs, r.keys ▸ hn⟩
end

/-! ## the state -/
/-- what stands for good: all but what is somebody's own -/
noncomputable def view (own : List Addr) (T : TM) (s : Shared) : PH := ⟨fun a => if a ∈ own then none else s.heap.get? a, T⟩
theorem view_of {own : List Addr} {T : TM} {s : Shared} {a : Addr} {o : Obj} (e : (view own T s).ob a = some o) : s.heap.get? a = some o := by
  unfold view at e; dsimp only at e; split at e
  · cases e
  · exact e
theorem view_not {own : List Addr} {T : TM} {s : Shared} {a : Addr} {o : Obj} (e : (view own T s).ob a = some o) : a ∉ own := by
  intro hm; unfold view at e; dsimp only at e; rw [if_pos hm] at e; cases e
theorem view_mk {own : List Addr} {T : TM} {s : Shared} {a : Addr} {o : Obj} (hn : a ∉ own) (e : s.heap.get? a = some o) : (view own T s).ob a = some o := by
  unfold view; dsimp only; rw [if_neg hn]; exact e

noncomputable abbrev TLe (T T' : TM) : Prop := ∀ t l, T t = some l → T' t = some l
structure TOk (T : TM) (n : Nat) : Prop where
  pos : 0 < n
  lt : ∀ t l, T t = some l → 0 < t ∧ t < n
theorem TOk.mono {T : TM} {n n' : Nat} (x : TOk T n) (h : n ≤ n') : TOk T n' := ⟨Nat.lt_of_lt_of_le x.pos h, fun t l e => ⟨(x.lt t l e).1, Nat.lt_of_lt_of_le (x.lt t l e).2 h⟩⟩
noncomputable def TM.upd (T : TM) (n : Nat) (l : S) : TM := fun t => if t = n then some l else T t
theorem TOk.upd {T : TM} {n : Nat} (x : TOk T n) (l : S) : TOk (T.upd n l) (n + 1) := ⟨Nat.succ_pos _, fun t l' e => by
  unfold TM.upd at e
  by_cases h : t = n
  · subst h; exact ⟨x.pos, Nat.lt_succ_self _⟩
  · rw [if_neg h] at e; exact ⟨(x.lt t l' e).1, Nat.lt_succ_of_lt (x.lt t l' e).2⟩⟩
theorem TOk.updLe {T : TM} {n : Nat} (x : TOk T n) (l : S) : TLe T (T.upd n l) := fun t l' e => by
  unfold TM.upd
  rw [if_neg (Nat.ne_of_lt (x.lt t l' e).2)]; exact e
theorem TM.upd_self {T : TM} {n : Nat} {l : S} : T.upd n l n = some l := by simp [TM.upd]

inductive Slot where
  | val (v : V)
  | list (a : Addr) (vs : List V)
  | dict (a : Addr) (es : List (Key × V))

/-- the address of what is the frame's own -/
noncomputable def Slot.adr : Slot → Option Addr
  | .val _ => none
  | .list a _ => some a
  | .dict a _ => some a
noncomputable def Slot.owned (sl : Slot) : Bool := sl.adr.isSome

noncomputable abbrev St := List (String × Slot)

noncomputable def find : St → Str → Option Slot
  | [], _ => none
  | (y, sl) :: r, x => if Str.ofString y = x then some sl else find r x
noncomputable def put : St → Str → String → Slot → St
  | [], _, y, sl => [(y, sl)]
  | (z, sl') :: r, x, y, sl => if Str.ofString z = x then (z, sl) :: r else (z, sl') :: put r x y sl

theorem map_toNat_inj : ∀ {a b : List Char}, a.map Char.toNat = b.map Char.toNat → a = b
  | [], [], _ => rfl
  | [], _ :: _, h => by cases h
  | _ :: _, [], h => by cases h
  | x :: a, y :: b, h => by
    simp only [List.map_cons, List.cons.injEq] at h
    rw [map_toNat_inj h.2]
    have : x = y := by
      apply Char.ext
      apply UInt32.toNat_inj.mp
      exact h.1
    rw [this]
theorem ofString_inj {a b : String} : Str.ofString a = Str.ofString b ↔ a = b := by
  refine ⟨fun h => ?_, fun h => by rw [h]⟩
  rw [Str.ofString_eq_toList, Str.ofString_eq_toList] at h
  injection h with h
  have h := congrArg Array.toList h
  simp only at h
  exact String.toList_inj.mp (map_toNat_inj h)

theorem find_cons (y x : String) (sl : Slot) (r : St) : find ((y, sl) :: r) (Str.ofString x) = if y = x then some sl else find r (Str.ofString x) := by
  simp only [find, ofString_inj]
theorem put_cons (z x y : String) (sl sl' : Slot) (r : St) : put ((z, sl') :: r) (Str.ofString x) y sl = if z = x then (z, sl) :: r else (z, sl') :: put r (Str.ofString x) y sl := by
  simp only [put, ofString_inj]
theorem put_nil (x : Str) (y : String) (sl : Slot) : put [] x y sl = [(y, sl)] := rfl

theorem find_put {σ : St} {y : String} {sl : Slot} (z : Str) : find (put σ (Str.ofString y) y sl) z = if Str.ofString y = z then some sl else find σ z := by
  induction σ with
  | nil => simp [put, find]
  | cons p r ih =>
    obtain ⟨w, sl'⟩ := p
    unfold put
    by_cases hw : Str.ofString w = Str.ofString y
    · rw [if_pos hw]
      simp only [find, hw]
      by_cases hz : Str.ofString y = z
      · rw [if_pos hz, if_pos hz]
      · rw [if_neg hz, if_neg hz, if_neg hz]
    · rw [if_neg hw]
      simp only [find]
      by_cases hz : Str.ofString w = z
      · rw [if_pos hz, if_pos hz, if_neg (fun e => hw (hz.trans e.symm))]
      · rw [if_neg hz, if_neg hz, ih]

structure Cx where
  W : Wd
  A : Around
  env : Env
  ownC : Bool
  X : Value → Shared → Prop
  an : Option Addr

noncomputable abbrev Cx.M (C : Cx) : Model := model C.W.prog C.W.w

structure Wd.Ok (W : Wd) : Prop where
  sysm : (W.h₀.get? sysModules).isSome = true
  nolimit : W.h₀.NoLimit
  gl : ∃ mg mb, W.h₀.Ns mainGlobals mg ∧ W.h₀.Ns builtinsNs mb ∧ ∀ x v, W.gls.lookup x = some v → mg (Str.ofString x) = some v ∨ (mg (Str.ofString x) = none ∧ mb (Str.ofString x) = some v)

structure Cx.Ok (C : Cx) (n : Nat) : Prop where
  W : C.W.Ok
  hh : C.A.handled = none
  hu : C.A.units + 3 * n + 100 ≤ 9000
  hd : C.A.depth + n + 10 ≤ 900
  hk : C.env.scope.kind = .function
  hg : C.env.globals = mainGlobals
  hb : C.env.builtins = builtinsNs
  hx : PassesOwn C.M C.A C.env C.X

noncomputable def valAt (env : Env) (m cm : Str → Option Value) (x : Str) : Option Value := match env.kindOf x with
  | some .local => m x
  | some .cell => cm x
  | some .free => cm x
  | _ => none

noncomputable def IsL (h : Heap) (a : Addr) (ws : List Value) : Prop := ∃ n, h.get? a = some { cls := .type "list", data := .seq ws.toArray n }
noncomputable def IsD (h : Heap) (a : Addr) (ds : List DictEntry) : Prop := (a == sysModules) = false ∧ ∃ o n, h.get? a = some o ∧ o.ExactDict ∧ o.data = .dict ds.toArray n

noncomputable def SlotRep (W : Wd) (g : PH) (h : Heap) : Slot → Value → Prop
  | .val u, v => Rep W g u v
  | .list a vs, v => v = .ref a ∧ ∃ ws, IsL h a ws ∧ RepL W g vs ws
  | .dict a es, v => v = .ref a ∧ ∃ ds kvs, IsD h a ds ∧ RepD W g es ds kvs ∧ (es.map (·.1)).Nodup

/-- the name under which a comprehension's own list or dict goes -/
noncomputable abbrev anonS : Str := Str.ofString "#"
noncomputable def Bound (C : Cx) (m cm : Str → Option Value) (x : Str) (sl : Slot) (v : Value) : Prop := valAt C.env m cm x = some v ∨ (x = anonS ∧ sl.owned = true ∧ ∃ a : Addr, True ∧ v = .ref a)
theorem Bound.real {C : Cx} {m cm : Str → Option Value} {x : Str} {sl : Slot} {v : Value} (h : Bound C m cm x sl v) (hx : x ≠ anonS) : valAt C.env m cm x = some v := h.resolve_right fun q => hx q.1
theorem Bound.val {C : Cx} {m cm : Str → Option Value} {x : Str} {u : V} {v : Value} (h : Bound C m cm x (.val u) v) : valAt C.env m cm x = some v := h.resolve_right fun q => by cases q.2.1

/-- the frame's names and what they hold -/
structure Frm (C : Cx) (F mine : List Addr) (T : TM) (σ : St) (s : Shared) (m cm : Str → Option Value) : Prop where
  ns : s.heap.Ns C.env.locals m
  cells : ∀ x c, C.env.cells.lookup x = some c → s.heap.IsCell c (cm x)
  apart : ∀ x y c, C.env.cells.lookup x = some c → C.env.cells.lookup y = some c → x = y
  lc : ∀ x c, C.env.cells.lookup x = some c → c ≠ C.env.locals
  has : ∀ x, C.env.kindOf x = some .cell ∨ C.env.kindOf x = some .free → ∃ c, C.env.cells.lookup x = some c
  lm : C.env.locals ∈ mine
  cown : ∀ x c, C.env.cells.lookup x = some c → c ∈ F ++ mine
  cmine : C.ownC = true → ∀ x c, C.env.cells.lookup x = some c → c ∈ mine
  slots : ∀ x sl, find σ x = some sl → ∃ v, Bound C m cm x sl v ∧ SlotRep C.W (view (F ++ mine) T s) s.heap sl v
  own : ∀ x sl a, find σ x = some sl → sl.adr = some a → a ∈ mine ∧ a ≠ C.env.locals ∧ (∀ y c, C.env.cells.lookup y = some c → c ≠ a)
  dis : ∀ x y sl sl' a, find σ x = some sl → find σ y = some sl' → sl.adr = some a → sl'.adr = some a → x = y

structure Abs (C : Cx) (F mine : List Addr) (T : TM) (σ : St) (s : Shared) : Prop where
  base : ∀ b o, C.W.h₀.get? b = some o → (view (F ++ mine) T s).ob b = some o
  live : ∀ a ∈ F ++ mine, (s.heap.get? a).isSome = true
  nin : ∀ a ∈ mine, a ∉ F
  tok : TOk T s.toks
  frm : ∃ m cm, Frm C F mine T σ s m cm

structure Post (F mine : List Addr) (T : TM) (s : Shared) (mine' : List Addr) (T' : TM) (s' : Shared) : Prop where
  same : ∃ h' tk, s' = { s with heap := h', toks := tk }
  le : Le (view (F ++ mine) T s) (view (F ++ mine') T' s')
  far : ∀ a ∈ F, s'.heap.get? a = s.heap.get? a

theorem Post.refl (F mine : List Addr) (T : TM) (s : Shared) : Post F mine T s mine T s := ⟨⟨_, _, rfl⟩, .refl _, fun _ _ => rfl⟩
theorem Post.trans {F m1 m2 m3 : List Addr} {T1 T2 T3 : TM} {s1 s2 s3 : Shared} (x : Post F m1 T1 s1 m2 T2 s2) (y : Post F m2 T2 s2 m3 T3 s3) : Post F m1 T1 s1 m3 T3 s3 := by
  obtain ⟨h, t, rfl⟩ := x.same
  obtain ⟨h', t', rfl⟩ := y.same
  exact ⟨⟨h', t', rfl⟩, x.le.trans y.le, fun a ha => (y.far a ha).trans (x.far a ha)⟩

/-- nothing that stood is turned; the texts' marks grow -/
structure Kp (T : TM) (s : Shared) (T' : TM) (s' : Shared) : Prop where
  same : ∃ h' tk, s' = { s with heap := h', toks := tk }
  keep : ∀ b o, s.heap.get? b = some o → s'.heap.get? b = some o
  tle : TLe T T'
  tok : TOk T' s'.toks
theorem Kp.trans {T T' T'' : TM} {s s' s'' : Shared} (x : Kp T s T' s') (y : Kp T' s' T'' s'') : Kp T s T'' s'' := by
  obtain ⟨h, t, rfl⟩ := x.same
  obtain ⟨h', t', rfl⟩ := y.same
  exact ⟨⟨h', t', rfl⟩, fun b o e => y.keep b o (x.keep b o e), fun t l e => y.tle t l (x.tle t l e), y.tok⟩
theorem Kp.view {T T' : TM} {own : List Addr} {s s' : Shared} (k : Kp T s T' s') : Le (view own T s) (view own T' s') :=
  ⟨fun _ _ e => view_mk (view_not e) (k.keep _ _ (view_of e)), k.tle⟩
theorem Kp.post {F mine : List Addr} {T T' : TM} {s s' : Shared} (k : Kp T s T' s') (l : ∀ a ∈ F ++ mine, (s.heap.get? a).isSome = true) : Post F mine T s mine T' s' := by
  refine ⟨k.same, k.view, fun a ha => ?_⟩
  obtain ⟨o, ho⟩ := Option.isSome_iff_exists.mp (l a (List.mem_append_left _ ha))
  rw [ho]; exact k.keep _ _ ho
theorem Kp.live {own : List Addr} {T T' : TM} {s s' : Shared} (k : Kp T s T' s') (l : ∀ a ∈ own, (s.heap.get? a).isSome = true) : ∀ a ∈ own, (s'.heap.get? a).isSome = true := fun a ha => by
  obtain ⟨o, ho⟩ := Option.isSome_iff_exists.mp (l a ha)
  rw [k.keep _ _ ho]; rfl

theorem SlotRep.mono {W : Wd} {g g' : PH} {h h' : Heap} {sl : Slot} {v : Value} (hg : Le g g') (hh : ∀ a, sl.adr = some a → ∀ o, h.get? a = some o → h'.get? a = some o) (x : SlotRep W g h sl v) : SlotRep W g' h' sl v := by
  cases sl with
  | val u => exact Rep.mono hg x
  | list a vs =>
    obtain ⟨e, ws, ⟨n, h1⟩, r⟩ := x
    exact ⟨e, ws, ⟨n, hh a rfl _ h1⟩, r.mono hg⟩
  | dict a es =>
    obtain ⟨e, ws, kvs, ⟨h0, o, n, h1, h2⟩, r, nd⟩ := x
    exact ⟨e, ws, kvs, ⟨h0, o, n, hh a rfl _ h1, h2⟩, r.mono hg, nd⟩
theorem SlotRep.ref {W : Wd} {g : PH} {h : Heap} {sl : Slot} {v : Value} {a : Addr} (x : SlotRep W g h sl v) (ha : sl.adr = some a) : v = .ref a := by
  cases sl with
  | val u => cases ha
  | list a vs => cases ha; exact x.1
  | dict a es => cases ha; exact x.1

theorem Frm.keeps {C : Cx} {F mine : List Addr} {T T' : TM} {σ : St} {s s' : Shared} {m cm : Str → Option Value} (x : Frm C F mine T σ s m cm) (k : Kp T s T' s') : Frm C F mine T' σ s' m cm :=
  { ns := x.ns.keeps k.keep, cells := fun y c e => (x.cells y c e).keeps k.keep, apart := x.apart, lc := x.lc, has := x.has, lm := x.lm, cown := x.cown, cmine := x.cmine
    slots := fun y sl e => let ⟨v, h1, h2⟩ := x.slots y sl e; ⟨v, h1, h2.mono k.view fun _ _ o e => k.keep _ o e⟩
    own := x.own, dis := x.dis }
theorem Abs.keeps {C : Cx} {F mine : List Addr} {T T' : TM} {σ : St} {s s' : Shared} (x : Abs C F mine T σ s) (k : Kp T s T' s') : Abs C F mine T' σ s' :=
  { base := fun b o e => k.view.ob b o (x.base b o e)
    live := k.live x.live
    nin := x.nin
    tok := k.tok
    frm := let ⟨m, cm, f⟩ := x.frm; ⟨m, cm, f.keeps k⟩ }

end Sx
end
section
open PySem PySem.W PyProof.Rows PySem.Calls
set_option linter.unusedVariables false
set_option Elab.async false
set_option maxRecDepth 100000
namespace Sx

inductive Fl where
  | next | brk | cont
  | ret (v : V)

inductive FlRep (W : Wd) (g : PH) : Fl → Flow → Prop
  | next : FlRep W g .next .next
  | brk : FlRep W g .brk .brk
  | cont : FlRep W g .cont .cont
  | ret {v : V} {w : Value} : Rep W g v w → FlRep W g (.ret v) (.ret w)

/-- a tree run from a state: what comes out stands in R to an abstract result -/
noncomputable def Tr {α β : Type} (C : Cx) (σ : St) (R : PH → β → α → Prop) (t : Sem α) (Q : β → St → Prop) : Prop :=
  ∀ F mine T s, Abs C F mine T σ s → wpAny C.M C.A t (fun x s' => ∃ b σ' mine' T', Q b σ' ∧ Post F mine T s mine' T' s' ∧ Abs C F mine' T' σ' s' ∧ R (view (F ++ mine') T' s') b x) C.X s

noncomputable abbrev RU : PH → Unit → Unit → Prop := fun _ _ _ => True
noncomputable abbrev RB : PH → Bool → Bool → Prop := fun _ a b => a = b
noncomputable abbrev Ev (C : Cx) (σ : St) (e : Expr) (Q : V → St → Prop) : Prop := Tr C σ (Rep C.W) (eval e C.env) Q
noncomputable abbrev EvT (C : Cx) (σ : St) (t : Sem Value) (Q : V → St → Prop) : Prop := Tr C σ (Rep C.W) t Q
noncomputable abbrev Tst (C : Cx) (σ : St) (e : Expr) (Q : Bool → St → Prop) : Prop := Tr C σ RB (isTrue e C.env (eval e C.env)) Q
noncomputable abbrev Ex (C : Cx) (σ : St) (e : Stmt) (Q : Fl → St → Prop) : Prop := Tr C σ (FlRep C.W) (exec e C.env) Q
noncomputable abbrev Exs (C : Cx) (σ : St) (e : List Stmt) (Q : Fl → St → Prop) : Prop := Tr C σ (FlRep C.W) (execs e C.env) Q
noncomputable abbrev EvL (C : Cx) (σ : St) (pos : Pos) (es : List Expr) (Q : List V → St → Prop) : Prop := Tr C σ (RepL C.W) (spliced (backTo pos (starEach es C.env))) Q

theorem Tr.mono {α β : Type} {C : Cx} {σ : St} {R : PH → β → α → Prop} {t : Sem α} {Q Q' : β → St → Prop} (h : Tr C σ R t Q) (hq : ∀ b σ, Q b σ → Q' b σ) : Tr C σ R t Q' :=
  fun F mine T s hA => wpAny_mono (h F mine T s hA) (fun _ _ ⟨b, σ', m', T', q, r⟩ => ⟨b, σ', m', T', hq _ _ q, r⟩) fun _ _ x => x

theorem Tr.then {α β : Type} {C : Cx} {σ : St} {R : PH → β → α → Prop} {t : Sem α} {Q : β → St → Prop} (h : Tr C σ R t Q) {F mine : List Addr} {T : TM} {s : Shared} (hA : Abs C F mine T σ s) {P : α → Shared → Prop}
    (k : ∀ x s' b σ' mine' T', Q b σ' → Post F mine T s mine' T' s' → Abs C F mine' T' σ' s' → R (view (F ++ mine') T' s') b x → P x s') : wpAny C.M C.A t P C.X s :=
  wpAny_mono (h F mine T s hA) (fun _ _ ⟨_, _, _, _, a, b, c, d⟩ => k _ _ _ _ _ _ a b c d) fun _ _ x => x
theorem Tr.intro' {α β : Type} {C : Cx} {σ : St} {R : PH → β → α → Prop} {t : Sem α} {Q : β → St → Prop}
    (h : ∀ F mine T s (QQ : α → Shared → Prop), (∀ x s' b σ' mine' T', Q b σ' → Post F mine T s mine' T' s' → Abs C F mine' T' σ' s' → R (view (F ++ mine') T' s') b x → QQ x s') → Abs C F mine T σ s → wpAny C.M C.A t QQ C.X s) : Tr C σ R t Q :=
  fun F mine T s hA => h F mine T s _ (fun _ _ b σ' m' T' x y z w => ⟨b, σ', m', T', x, y, z, w⟩) hA
structure OwnOk (C : Cx) (own : List Addr) (T : TM) (s : Shared) : Prop where
  base : ∀ b o, C.W.h₀.get? b = some o → (view own T s).ob b = some o
  live : ∀ a ∈ own, (s.heap.get? a).isSome = true
  tok : TOk T s.toks
theorem Abs.ownOk {C : Cx} {F mine : List Addr} {T : TM} {σ : St} {s : Shared} (x : Abs C F mine T σ s) : OwnOk C (F ++ mine) T s := ⟨x.base, x.live, x.tok⟩
theorem OwnOk.fresh {C : Cx} {own : List Addr} {T : TM} {s : Shared} (x : OwnOk C own T s) {a : Addr} (h : s.heap.get? a = none) : a ∉ own := fun hm => by
  have := x.live a hm; rw [h] at this; cases this
theorem OwnOk.keeps {C : Cx} {own : List Addr} {T T' : TM} {s s' : Shared} (x : OwnOk C own T s) (k : Kp T s T' s') : OwnOk C own T' s' :=
  ⟨fun b o e => k.view.ob b o (x.base b o e), k.live x.live, k.tok⟩
theorem OwnOk.kb {C : Cx} {own : List Addr} {T : TM} {s : Shared} (x : OwnOk C own T s) : ∀ b o, C.W.h₀.get? b = some o → s.heap.get? b = some o := fun b o e => view_of (x.base b o e)

theorem fresh_size (h : Heap) : h.get? h.objs.size = none := by
  cases e : h.get? h.objs.size with
  | none => rfl
  | some o => exact absurd (Heap.lt_size e) (Nat.lt_irrefl _)

/-- what a primitive step leaves -/
noncomputable def Out {α β : Type} (own : List Addr) (T : TM) (s : Shared) (R : PH → β → α → Prop) (K : β → Prop) (x : α) (s' : Shared) : Prop :=
  ∃ b T', K b ∧ Kp T s T' s' ∧ R (view own T' s') b x
/-- a primitive step: nothing that stood before is turned -/
noncomputable def PrimR {α β : Type} (C : Cx) (own : List Addr) (T : TM) (s : Shared) (R : PH → β → α → Prop) (t : Sem α) (K : β → Prop) : Prop :=
  wpAny C.M C.A t (Out own T s R K) C.X s
theorem PrimR.then {α β : Type} {C : Cx} {own : List Addr} {T : TM} {s : Shared} {R : PH → β → α → Prop} {t : Sem α} {K : β → Prop} (h : PrimR C own T s R t K) {P : α → Shared → Prop}
    (k : ∀ x s' b T', K b → Kp T s T' s' → R (view own T' s') b x → P x s') : wpAny C.M C.A t P C.X s :=
  wpAny_mono h (fun _ _ ⟨_, _, a, b, c⟩ => k _ _ _ _ a b c) fun _ _ x => x
noncomputable abbrev Prim (C : Cx) (own : List Addr) (T : TM) (s : Shared) (t : Sem Value) (K : V → Prop) : Prop := PrimR C own T s (Rep C.W) t K
noncomputable abbrev PrimB (C : Cx) (own : List Addr) (T : TM) (s : Shared) (t : Sem Bool) (K : Bool → Prop) : Prop := PrimR C own T s RB t K
/-- .. and what comes out is a new object -/
noncomputable def OutF (C : Cx) (own : List Addr) (T : TM) (s : Shared) (K : Slot → Prop) (v : Value) (s' : Shared) : Prop :=
  ∃ sl T' a, K sl ∧ sl.adr = some a ∧ Kp T s T' s' ∧ s.heap.get? a = none ∧ (s'.heap.get? a).isSome = true ∧ SlotRep C.W (view (a :: own) T' s') s'.heap sl v
noncomputable def PrimF (C : Cx) (own : List Addr) (T : TM) (s : Shared) (t : Sem Value) (K : Slot → Prop) : Prop := wpAny C.M C.A t (OutF C own T s K) C.X s

section
variable {α β : Type} {own : List Addr} {T : TM} {s : Shared} {R : PH → β → α → Prop} {K : β → Prop} {x : α} {b : β}
/-- the ways a step ends -/
theorem Kp.refl (k : TOk T s.toks) : Kp T s T s := ⟨⟨_, _, rfl⟩, fun _ _ e => e, fun _ _ e => e, k⟩
theorem Kp.at {h' : Heap} {tk : Nat} (k : TOk T s.toks) (hk : ∀ b o, s.heap.get? b = some o → h'.get? b = some o) (ht : s.toks ≤ tk) : Kp T s T { s with heap := h', toks := tk } := ⟨⟨_, _, rfl⟩, hk, fun _ _ e => e, k.mono ht⟩
theorem Kp.toks {tk : Nat} (k : TOk T s.toks) (ht : s.toks ≤ tk) : Kp T s T { s with toks := tk } := Kp.at (h' := s.heap) k (fun _ _ e => e) ht
theorem Kp.push {o : Obj} {tk : Nat} (k : TOk T s.toks) (ht : s.toks ≤ tk) : Kp T s T { s with heap := s.heap.push o, toks := tk } := Kp.at (h' := s.heap.push o) k (fun _ _ e => Heap.get?_push_of_some _ e) ht
theorem Kp.str {h' : Heap} {l : S} (k : TOk T s.toks) (hk : ∀ b o, s.heap.get? b = some o → h'.get? b = some o) : Kp T s (T.upd s.toks l) { s with heap := h', toks := s.toks + 1 } := ⟨⟨_, _, rfl⟩, hk, k.updLe l, k.upd l⟩
theorem Out.same (k : TOk T s.toks) (q : K b) (r : R (view own T s) b x) : Out own T s R K x s := ⟨b, T, q, .refl k, r⟩
theorem Out.mono {K' : β → Prop} {s' : Shared} (h : Out own T s R K x s') (hk : ∀ b, K b → K' b) : Out own T s R K' x s' := let ⟨b, T', q, r⟩ := h; ⟨b, T', hk _ q, r⟩
end
theorem Out.strNew {W : Wd} {own : List Addr} {T : TM} {s : Shared} {K : V → Prop} {l : S} (k : TOk T s.toks) (q : K (.str l)) : Out own T s (Rep W) K (.str (mkS l) s.toks) { s with toks := s.toks + 1 } :=
  ⟨_, _, q, .str (h' := s.heap) k fun _ _ e => e, .str TM.upd_self⟩
theorem Out.int {W : Wd} {own : List Addr} {T : TM} {s : Shared} {K : V → Prop} {i : Int} {t : Tok} {tk : Nat} (k : TOk T s.toks) (q : K (.int i)) (ht : s.toks ≤ tk) : Out own T s (Rep W) K (.int i t) { s with toks := tk } :=
  ⟨_, T, q, .toks k ht, .int _ _⟩
theorem Out.bool {W : Wd} {own : List Addr} {T : TM} {s : Shared} {K : V → Prop} {i : Bool} {tk : Nat} (k : TOk T s.toks) (q : K (.bool i)) (ht : s.toks ≤ tk) : Out own T s (Rep W) K (.bool i) { s with toks := tk } :=
  ⟨_, T, q, .toks k ht, .bool _⟩

theorem Tr.prim {α β : Type} {C : Cx} {σ : St} {R : PH → β → α → Prop} {t : Sem α} {Q : β → St → Prop} (h : ∀ own T s, OwnOk C own T s → PrimR C own T s R t (fun b => Q b σ)) : Tr C σ R t Q :=
  fun F mine T s hA => wpAny_mono (h (F ++ mine) T s hA.ownOk) (fun _ _ ⟨b, T', q, k, r⟩ => ⟨b, σ, mine, T', q, k.post hA.live, hA.keeps k, r⟩) fun _ _ x => x

theorem PrimR.mono {α β : Type} {C : Cx} {own : List Addr} {T : TM} {s : Shared} {R : PH → β → α → Prop} {t : Sem α} {K K' : β → Prop} (h : PrimR C own T s R t K) (hk : ∀ b, K b → K' b) : PrimR C own T s R t K' :=
  wpAny_mono h (fun _ _ x => x.mono hk) fun _ _ x => x
theorem PrimF.mono {C : Cx} {own : List Addr} {T : TM} {s : Shared} {t : Sem Value} {K K' : Slot → Prop} (h : PrimF C own T s t K) (hk : ∀ b, K b → K' b) : PrimF C own T s t K' :=
  wpAny_mono h (fun _ _ ⟨b, T', a, q, r⟩ => ⟨b, T', a, hk _ q, r⟩) fun _ _ x => x

noncomputable def Slot.v : Slot → V
  | .val v => v
  | .list _ vs => .lst vs
  | .dict _ es => .dct es

theorem view_sub {own own' : List Addr} {T : TM} {s : Shared} (hs : ∀ a ∈ own', a ∈ own) : Le (view own T s) (view own' T s) :=
  ⟨fun _ _ e => view_mk (fun hb => view_not e (hs _ hb)) (view_of e), fun _ _ e => e⟩
theorem app_sub {F mine mine' : List Addr} (hs : ∀ a ∈ mine', a ∈ mine) : ∀ a ∈ F ++ mine', a ∈ F ++ mine := fun a ha => by
  rcases List.mem_append.mp ha with ha | ha
  · exact List.mem_append_left _ ha
  · exact List.mem_append_right _ (hs a ha)

theorem SlotRep.freeze {W : Wd} {own own' : List Addr} {T : TM} {s : Shared} {a : Addr} {sl : Slot} {v : Value} (ho : sl.adr = some a) (x : SlotRep W (view own T s) s.heap sl v) (hs : ∀ b ∈ own', b ∈ own) (ha : a ∉ own') :
    Rep W (view own' T s) sl.v v := by
  have le : Le (view own T s) (view own' T s) := view_sub hs
  cases sl with
  | val u => cases ho
  | list a vs =>
    cases ho
    obtain ⟨rfl, ws, ⟨n, h1⟩, r⟩ := x
    exact .lst (view_mk ha h1) rfl rfl rfl (r.mono le)
  | dict a es =>
    cases ho
    obtain ⟨rfl, ws, kvs, ⟨h0, o, n, h1, h2, h3⟩, r, nd⟩ := x
    exact .dct (view_mk ha h1) h0 h2 h3 (r.mono le) nd

theorem PrimF.prim {C : Cx} {own : List Addr} {T : TM} {s : Shared} {t : Sem Value} {K : V → Prop} (hO : OwnOk C own T s) (h : PrimF C own T s t (fun sl => K sl.v)) : Prim C own T s t K := by
  refine wpAny_mono h (fun v s' ⟨sl, T', a, q, ho, k, hn, hs, r⟩ => ⟨sl.v, T', q, k, ?_⟩) fun _ _ x => x
  exact r.freeze ho (fun b hb => List.mem_cons_of_mem _ hb) (hO.fresh hn)

section
variable {C : Cx} {σ : St}

theorem ev_prim {e : Expr} {Q : V → St → Prop} (h : ∀ own T s, OwnOk C own T s → Prim C own T s (eval e C.env) (fun v => Q v σ)) : Ev C σ e Q := Tr.prim h

theorem ofString_lit (x : String) : Str.ofString x = mkS (lit x) := by rw [Str.ofString_eq_toList]; rfl

theorem ev_str {x : String} {k pos} {Q : V → St → Prop} (h : Q (.str (lit x)) σ) : Ev C σ (.Constant (.str (Str.ofString x)) k pos) Q :=
  ev_prim fun own T s hO => Constant_str (by rw [ofString_lit]; exact .strNew hO.tok h)
theorem ev_int {i : Int} {k pos} {Q : V → St → Prop} (h : Q (.int i) σ) : Ev C σ (.Constant (.int i) k pos) Q :=
  ev_prim fun own T s hO => wpAny_Constant_int (.int hO.tok h (Nat.le_succ _))
theorem ev_bool {b : Bool} {k pos} {Q : V → St → Prop} (h : Q (.bool b) σ) : Ev C σ (.Constant (.bool b) k pos) Q :=
  ev_prim fun own T s hO => wpAny_Constant_bool (.same hO.tok h (.bool _))
/-! ### names -/
theorem load_local {F mine : List Addr} {T : TM} {s : Shared} {n : Nat} (ok : C.Ok n) {x : Str} {m cm : Str → Option Value} (f : Frm C F mine T σ s m cm) {v : Value} (hv : valAt C.env m cm x = some v)
    (hn : (x == ("__classdict__" : Str)) = false) {M : Model} {A : Around} {E : Value → Shared → Prop} {Q : Value → Shared → Prop} (h : Q v s) : wpAny M A (loadName C.env x) Q E s := by
  unfold valAt at hv
  cases hk : C.env.kindOf x with
  | none => rw [hk] at hv; cases hv
  | some k =>
    rw [hk] at hv
    cases k with
    | «local» => exact wpAny_loadName_local ok.hk hk f.ns hv h
    | cell =>
      obtain ⟨c, hc⟩ := f.has x (.inl hk)
      exact wpAny_loadName_cell ok.hk hk hc (hv ▸ f.cells x c hc) h
    | free =>
      obtain ⟨c, hc⟩ := f.has x (.inr hk)
      exact wpAny_loadName_free ok.hk hk hc (hv ▸ f.cells x c hc) h hn
    | _ => cases hv

theorem tr_load {n : Nat} (ok : C.Ok n) {x : String} {v : V} {Q : V → St → Prop} (hf : find σ (Str.ofString x) = some (.val v)) (h : Q v σ) (hn : (Str.ofString x == ("__classdict__" : Str)) = false) : EvT C σ (loadName C.env (Str.ofString x)) Q := by
  intro F mine T s hA
  obtain ⟨m, cm, f⟩ := hA.frm
  obtain ⟨w, hw, hr⟩ := f.slots _ _ hf
  exact load_local ok f hw.val hn ⟨v, σ, mine, T, h, .refl _ _ _ _, hA, hr⟩

theorem ev_of_load {x : Str} {pos} {Q : V → St → Prop} (h : EvT C σ (loadName C.env x) Q) (hd : (x == ("__debug__" : Str)) = false) : Ev C σ (.Name x pos) Q :=
  fun F mine T s hA => wpAny_Name (h F mine T s hA) hd

theorem ev_name {n : Nat} (ok : C.Ok n) {x : String} {pos} {v : V} {Q : V → St → Prop} (hf : find σ (Str.ofString x) = some (.val v)) (h : Q v σ)
    (hn : (Str.ofString x == ("__classdict__" : Str)) = false := by decide) (hd : (Str.ofString x == ("__debug__" : Str)) = false := by decide) : Ev C σ (.Name (Str.ofString x) pos) Q :=
  ev_of_load (tr_load ok hf h hn) hd

/-- what is a frame's own may be let go: it stands for good -/
theorem Abs.freeze {F mine : List Addr} {T : TM} {s : Shared} (hA : Abs C F mine T σ s) {x : String} {sl : Slot} {a : Addr} (hf : find σ (Str.ofString x) = some sl) (ho : sl.adr = some a) (hxa : Str.ofString x ≠ anonS) :
    ∃ mine', (∀ a ∈ mine', a ∈ mine) ∧ Abs C F mine' T (put σ (Str.ofString x) x (.val sl.v)) s := by
  obtain ⟨m, cm, f⟩ := hA.frm
  obtain ⟨v, hv, hr⟩ := f.slots _ _ hf
  have hv := hv.real hxa
  obtain ⟨o1, o2, o3⟩ := f.own _ _ _ hf ho
  have sub : ∀ b ∈ mine.filter (· ≠ a), b ∈ mine := fun a ha => (List.mem_filter.mp ha).1
  have le : Le (view (F ++ mine) T s) (view (F ++ mine.filter (· ≠ a)) T s) := view_sub (app_sub sub)
  have hnF : a ∉ F ++ mine.filter (· ≠ a) := fun hm => by
    rcases List.mem_append.mp hm with hm | hm
    · exact hA.nin _ o1 hm
    · have := (List.mem_filter.mp hm).2; simp at this
  have hrep : Rep C.W (view (F ++ mine.filter (· ≠ a)) T s) sl.v v := hr.freeze ho (app_sub sub) hnF
  refine ⟨mine.filter (· ≠ a), sub, ⟨fun b o e => le.ob b o (hA.base b o e), fun a ha => hA.live a (app_sub sub a ha), fun a ha => hA.nin a (sub a ha), hA.tok, m, cm, ?_⟩⟩
  refine { ns := f.ns, cells := f.cells, apart := f.apart, lc := f.lc, has := f.has, lm := ?_, cown := ?_, cmine := ?_, slots := ?_, own := ?_, dis := ?_ }
  · exact List.mem_filter.mpr ⟨f.lm, by simpa using Ne.symm o2⟩
  · intro y c hc
    rcases List.mem_append.mp (f.cown y c hc) with hm | hm
    · exact List.mem_append_left _ hm
    · exact List.mem_append_right _ (List.mem_filter.mpr ⟨hm, by simpa using o3 y c hc⟩)
  · intro hc y c hyc
    exact List.mem_filter.mpr ⟨f.cmine hc y c hyc, by simpa using o3 y c hyc⟩
  · intro y sl' hy
    rw [find_put] at hy
    by_cases hxy : Str.ofString x = y
    · rw [if_pos hxy] at hy
      cases hy
      subst hxy
      exact ⟨v, .inl hv, hrep⟩
    · rw [if_neg hxy] at hy
      obtain ⟨v', hv', hr'⟩ := f.slots y sl' hy
      exact ⟨v', hv', hr'.mono le fun _ _ _ e => e⟩
  · intro y sl' b hy hb
    rw [find_put] at hy
    by_cases hxy : Str.ofString x = y
    · rw [if_pos hxy] at hy; cases hy; cases hb
    · rw [if_neg hxy] at hy
      obtain ⟨q1, q2, q3⟩ := f.own y sl' b hy hb
      have hne : b ≠ a := fun e => hxy (f.dis y _ sl' sl b hy hf hb (e ▸ ho)).symm
      exact ⟨List.mem_filter.mpr ⟨q1, by simpa using hne⟩, q2, q3⟩
  · intro y z sl1 sl2 b hy hz h1 h2
    rw [find_put] at hy hz
    by_cases hxy : Str.ofString x = y
    · rw [if_pos hxy] at hy; cases hy; cases h1
    · rw [if_neg hxy] at hy
      by_cases hxz : Str.ofString x = z
      · rw [if_pos hxz] at hz; cases hz; cases h2
      · rw [if_neg hxz] at hz
        exact f.dis y z sl1 sl2 b hy hz h1 h2

/-- a name's list or dict, the frame's own, stands from here on -/
theorem Tr.freeze {α β : Type} {R : PH → β → α → Prop} {t : Sem α} {Q : β → St → Prop} {x : String} {sl : Slot} {a : Addr} (hf : find σ (Str.ofString x) = some sl) (ho : sl.adr = some a)
    (h : Tr C (put σ (Str.ofString x) x (.val sl.v)) R t Q) (hxa : Str.ofString x ≠ anonS) : Tr C σ R t Q := by
  refine Tr.intro' fun F mine T s QQ fin hA => ?_
  obtain ⟨mine', sub, hA'⟩ := hA.freeze hf ho hxa
  have hp : Post F mine T s mine' T s := ⟨⟨_, _, rfl⟩, view_sub (app_sub sub), fun _ _ => rfl⟩
  refine Tr.then h hA' fun v s1 b σ1 m1 T1 q p1 a1 r => ?_
  exact fin _ _ b σ1 m1 T1 q (hp.trans p1) a1 r

theorem ev_glob {n : Nat} (ok : C.Ok n) {x : String} {pos} {v : Value} {Q : V → St → Prop} (hk : C.env.kindOf (Str.ofString x) = some .globalImplicit) (hg : C.W.gls.lookup x = some v) (h : Q (.val v) σ)
    (hd : (Str.ofString x == ("__debug__" : Str)) = false := by decide) : Ev C σ (.Name (Str.ofString x) pos) Q := by
  refine ev_prim fun own T s hO => ?_
  obtain ⟨mg, mb, h1, h2, h3⟩ := ok.W.gl
  have k := hO.kb
  rcases h3 x v hg with e | ⟨e1, e2⟩
  · exact Name_function_global ok.hk hk (loadGlobal_global (env := C.env) (ok.hg ▸ h1.keeps k) e (.same hO.tok h (.val _))) hd
  · exact Name_function_global ok.hk hk (loadGlobal_builtin (env := C.env) (ok.hg ▸ h1.keeps k) e1 (ok.hb ▸ h2.keeps k) e2 (.same hO.tok h (.val _))) hd

/-! ### storing a name -/
theorem valAt_local {env : Env} {m cm : Str → Option Value} {x y : Str} {v : Value} (hk : env.kindOf x = some .local) :
    valAt env (fun z => if z = x then some v else m z) cm y = if y = x then some v else valAt env m cm y := by
  unfold valAt
  by_cases h : y = x
  · subst h; rw [hk]; try simp
  · simp only [if_neg h]
theorem valAt_cell {env : Env} {m cm : Str → Option Value} {x y : Str} {v : Value} (hk : env.kindOf x = some .cell) :
    valAt env m (fun z => if z = x then some v else cm z) y = if y = x then some v else valAt env m cm y := by
  unfold valAt
  by_cases h : y = x
  · subst h; rw [hk]; try simp
  · simp only [if_neg h]

noncomputable def isHere (C : Cx) (x : Str) : Bool := C.env.kindOf x == some .local || (C.ownC && C.env.kindOf x == some .cell)

/-- the name x is bound to v; what v stands for is one slot more -/
theorem store_frm {n : Nat} (ok : C.Ok n) {F mine : List Addr} {T : TM} {s : Shared} (hA : Abs C F mine T σ s) {x : String} (hx : isHere C (Str.ofString x) = true) {v : Value} {sl : Slot}
    (hr : SlotRep C.W (view (F ++ mine) T s) s.heap sl v) {m cm : Str → Option Value} (f : Frm C F mine T σ s m cm)
    (hown : ∀ a, sl.adr = some a → a ∈ mine ∧ a ≠ C.env.locals ∧ (∀ y c, C.env.cells.lookup y = some c → c ≠ a) ∧ ∀ y sl', find σ y = some sl' → sl'.adr = some a → y = Str.ofString x)
    {M : Model} {A : Around} {E : Value → Shared → Prop} {Q : Unit → Shared → Prop} (h : ∀ s', Post F mine T s mine T s' → Abs C F mine T (put σ (Str.ofString x) x sl) s' → Q () s') : wpAny M A (storeName C.env (Str.ofString x) v) Q E s := by
  have hp : (C.env.scope.kind == .class || (C.env.scope.kind == .module && C.env.locals != C.env.globals)) = false := by rw [ok.hk]; rfl
  -- both roads turn one object L of the frame's own
  have fin : ∀ (L : Addr) (h' : Heap) (tk : Nat) (m' cm' : Str → Option Value), s.toks ≤ tk → L ∈ mine → (∀ a, sl.adr = some a → a ≠ L) → (∀ y sl' a, find σ y = some sl' → sl'.adr = some a → a ≠ L) → Heap.SameBut L s.heap h' → h'.Ns C.env.locals m' → (∀ y c, C.env.cells.lookup y = some c → h'.IsCell c (cm' y)) →
      (∀ y, valAt C.env m' cm' y = if y = Str.ofString x then some v else valAt C.env m cm y) → (h'.get? L).isSome = true → Q () { s with heap := h', toks := tk } := by
    intro L h' tk m' cm' htk hL haL hoL hs hns hcs hva hLs
    have le : Le (view (F ++ mine) T s) (view (F ++ mine) T { s with heap := h', toks := tk }) := ⟨fun b o e => view_mk (view_not e) ((hs.2 b (fun q => view_not e (q ▸ List.mem_append_right _ hL))).trans (view_of e)), fun _ _ e => e⟩
    have far : ∀ b ∈ F, h'.get? b = s.heap.get? b := fun b hb => hs.2 b (fun q => hA.nin L hL (q ▸ hb))
    refine h _ ⟨⟨_, _, rfl⟩, le, far⟩ ⟨fun b o e => le.ob b o (hA.base b o e), fun b hb => ?_, hA.nin, hA.tok.mono htk, m', cm', ?_⟩
    · by_cases hbL : b = L
      · subst hbL; exact hLs
      · show (h'.get? b).isSome = true
        rw [hs.2 b hbL]; exact hA.live b hb
    · refine { ns := hns, cells := hcs, apart := f.apart, lc := f.lc, has := f.has, lm := f.lm, cown := f.cown, cmine := f.cmine, slots := ?_, own := ?_, dis := ?_ }
      · intro y sl' hy
        rw [find_put] at hy
        unfold Bound
        rw [hva]
        by_cases hxy : Str.ofString x = y
        · rw [if_pos hxy] at hy
          cases hy
          subst hxy
          rw [if_pos rfl]
          exact ⟨v, .inl rfl, hr.mono le fun a ho o e => (hs.2 _ (haL a ho)).trans e⟩
        · rw [if_neg hxy] at hy
          rw [if_neg (Ne.symm hxy)]
          obtain ⟨v', hv', hr'⟩ := f.slots y sl' hy
          exact ⟨v', hv', hr'.mono le fun a ho o e => (hs.2 _ (hoL y sl' a hy ho)).trans e⟩
      · intro y sl' a hy ho
        rw [find_put] at hy
        by_cases hxy : Str.ofString x = y
        · rw [if_pos hxy] at hy
          cases hy
          obtain ⟨q1, q2, q3, _⟩ := hown a ho
          exact ⟨q1, q2, q3⟩
        · rw [if_neg hxy] at hy
          exact f.own y sl' a hy ho
      · intro y z sl1 sl2 a hy hz h1 h2
        rw [find_put] at hy hz
        by_cases hxy : Str.ofString x = y
        · rw [if_pos hxy] at hy
          cases hy
          by_cases hxz : Str.ofString x = z
          · exact hxy.symm.trans hxz
          · rw [if_neg hxz] at hz
            exact hxy.symm.trans ((hown a h1).2.2.2 z sl2 hz h2).symm
        · rw [if_neg hxy] at hy
          by_cases hxz : Str.ofString x = z
          · rw [if_pos hxz] at hz
            cases hz
            exact ((hown a h2).2.2.2 y sl1 hy h1).trans hxz
          · rw [if_neg hxz] at hz
            exact f.dis y z sl1 sl2 a hy hz h1 h2
  unfold isHere at hx
  cases hk : C.env.kindOf (Str.ofString x) with
  | none => rw [hk] at hx; simp at hx
  | some k =>
    cases k with
    | «local» =>
      refine wpAny_storeName_local hk f.ns (fun h' hn hs => ?_) hp
      refine fin C.env.locals h' _ _ cm (Nat.le_succ _) f.lm (fun a ho => (hown a ho).2.1) (fun y sl' a hy ho => (f.own y sl' a hy ho).2.1) hs hn (fun y c e => (f.cells y c e).sameBut hs (f.lc y c e)) (fun y => valAt_local hk) ?_
      obtain ⟨o, _, _, ho, _⟩ := hn
      rw [ho]; rfl
    | cell =>
      rw [hk] at hx
      have hoc : C.ownC = true := by simpa using hx
      obtain ⟨c, hc⟩ := f.has _ (.inl hk)
      refine wpAny_storeName_cell ok.hk hk hc (f.cells _ c hc) fun h' hv hs => ?_
      refine fin c h' s.toks m (fun z => if z = Str.ofString x then some v else cm z) (Nat.le_refl _) (f.cmine hoc _ c hc) (fun a ho => Ne.symm ((hown a ho).2.2.1 _ c hc)) (fun y sl' a hy ho => Ne.symm ((f.own y sl' a hy ho).2.2 _ c hc)) hs (f.ns.sameBut hs (Ne.symm (f.lc _ c hc)))
        (fun y c' e => ?_) (fun y => valAt_cell hk) ?_
      · by_cases hyx : y = Str.ofString x
        · subst hyx
          rw [hc] at e
          cases e
          simpa using hv
        · simp only [if_neg hyx]
          exact (f.cells y c' e).sameBut hs fun q => hyx (f.apart y _ c' e (q ▸ hc))
      · obtain ⟨o, ho, _⟩ := hv
        rw [ho]; rfl
    | _ => rw [hk] at hx; simp at hx

theorem store_val {n : Nat} (ok : C.Ok n) {F mine : List Addr} {T : TM} {s : Shared} (hA : Abs C F mine T σ s) {x : String} (hx : isHere C (Str.ofString x) = true) {v : Value} {u : V} (hr : Rep C.W (view (F ++ mine) T s) u v)
    {M : Model} {A : Around} {E : Value → Shared → Prop} {Q : Unit → Shared → Prop} (h : ∀ s', Post F mine T s mine T s' → Abs C F mine T (put σ (Str.ofString x) x (.val u)) s' → Q () s') : wpAny M A (storeName C.env (Str.ofString x) v) Q E s :=
  let ⟨_, _, f⟩ := hA.frm
  store_frm ok hA hx (sl := .val u) hr f (fun _ e => by cases e) h

/-! ### blocks -/
theorem exs_nil {Q : Fl → St → Prop} (h : Q .next σ) : Exs C σ [] Q :=
  fun F mine T s hA => wpAny_execs_nil ⟨.next, σ, mine, T, h, .refl _ _ _ _, hA, .next⟩

theorem exs_cons {st : Stmt} {rest : List Stmt} {Q : Fl → St → Prop} (h : Ex C σ st (fun fl σ' => match fl with | .next => Exs C σ' rest Q | fl => Q fl σ')) : Exs C σ (st :: rest) Q := by
  refine Tr.intro' fun F mine T s QQ fin hA => ?_
  refine wpAny_execs_cons (Tr.then h hA fun f s1 fl σ1 m1 T1 q p1 a1 r => ?_)
  cases r with
  | next =>
    refine Tr.then q a1 fun f2 s2 fl2 σ2 m2 T2 q2 p2 a2 r2 => ?_
    exact fin _ _ fl2 σ2 m2 T2 q2 (p1.trans p2) a2 r2
  | brk => exact fin _ _ _ σ1 m1 T1 q p1 a1 .brk
  | cont => exact fin _ _ _ σ1 m1 T1 q p1 a1 .cont
  | ret r => exact fin _ _ _ σ1 m1 T1 q p1 a1 (.ret r)

theorem ex_return {e : Expr} {pos} {Q : Fl → St → Prop} (h : Ev C σ e (fun v σ' => Q (.ret v) σ')) : Ex C σ (.Return (some e) pos) Q := by
  refine Tr.intro' fun F mine T s QQ fin hA => ?_
  refine wpAny_Return_some (Tr.then h hA fun f s1 v σ1 m1 T1 q p1 a1 r => ?_)
  exact fin _ _ (.ret v) σ1 m1 T1 q p1 a1 (.ret r)
theorem ex_if {test : Expr} {body orelse : List Stmt} {pos} {Q : Fl → St → Prop} (h : Tst C σ test (fun b σ' => (b = true → Exs C σ' body Q) ∧ (b = false → Exs C σ' orelse Q))) : Ex C σ (.If test body orelse pos) Q := by
  refine Tr.intro' fun F mine T s QQ fin hA => ?_
  refine wpAny_If (Tr.then h hA fun b s1 b' σ1 m1 T1 q p1 a1 r => ?_)
  have r : b' = b := r
  subst r
  cases b' with
  | true =>
    refine Tr.then (q.1 rfl) a1 fun f2 s2 fl2 σ2 m2 T2 q2 p2 a2 r2 => ?_
    exact fin _ _ fl2 σ2 m2 T2 q2 (p1.trans p2) a2 r2
  | false =>
    refine Tr.then (q.2 rfl) a1 fun f2 s2 fl2 σ2 m2 T2 q2 p2 a2 r2 => ?_
    exact fin _ _ fl2 σ2 m2 T2 q2 (p1.trans p2) a2 r2

/-- x = e, what e gives stands -/
theorem ex_assign {n : Nat} (ok : C.Ok n) {x : String} {p' e pos} {Q : Fl → St → Prop} (hx : isHere C (Str.ofString x) = true) (hs : swapsWith e (some (.Name (Str.ofString x) p')) pos.line C.env = pure false)
    (h : Ev C σ e (fun v σ' => Q .next (put σ' (Str.ofString x) x (.val v)))) : Ex C σ (.Assign [.Name (Str.ofString x) p'] e pos) Q := by
  refine Tr.intro' fun F mine T s QQ fin hA => ?_
  refine wpAny_Assign_Name (Tr.then h hA fun v s1 u σ1 m1 T1 q p1 a1 r => ?_) hs
  refine store_val ok a1 hx r fun s2 p2 a2 => fin _ _ .next _ m1 T1 q (p1.trans p2) a2 .next

structure AbsN (C : Cx) (F mine : List Addr) (a : Addr) (T : TM) (σ : St) (s : Shared) : Prop where
  base : ∀ b o, C.W.h₀.get? b = some o → (view (F ++ (a :: mine)) T s).ob b = some o
  live : ∀ b ∈ F ++ (a :: mine), (s.heap.get? b).isSome = true
  nin : ∀ b ∈ a :: mine, b ∉ F
  tok : TOk T s.toks
  frm : ∃ m cm, Frm C F (a :: mine) T σ s m cm ∧ a ≠ C.env.locals ∧ (∀ y c, C.env.cells.lookup y = some c → c ≠ a) ∧ ∀ y sl, find σ y = some sl → sl.adr ≠ some a

theorem AbsN.abs {F mine : List Addr} {a : Addr} {T : TM} {s : Shared} (x : AbsN C F mine a T σ s) : Abs C F (a :: mine) T σ s :=
  ⟨x.base, x.live, x.nin, x.tok, let ⟨m, cm, f, _⟩ := x.frm; ⟨m, cm, f⟩⟩

/-- the new object stands for good -/
theorem AbsN.drop {F mine : List Addr} {a : Addr} {T : TM} {s : Shared} (hn : a ∉ mine) (x : AbsN C F mine a T σ s) : Abs C F mine T σ s := by
  obtain ⟨m, cm, f, h1, h2, h3⟩ := x.frm
  have sub : ∀ b ∈ F ++ mine, b ∈ F ++ (a :: mine) := app_sub fun b hb => List.mem_cons_of_mem _ hb
  have le := view_sub (T := T) (s := s) sub
  have mm : ∀ b, b ∈ a :: mine → b ≠ a → b ∈ mine := fun b hb hne => (List.mem_cons.mp hb).resolve_left hne
  refine ⟨fun b o e => le.ob b o (x.base b o e), fun b hb => x.live b (sub b hb), fun b hb => x.nin b (List.mem_cons_of_mem _ hb), x.tok, m, cm, ?_⟩
  refine { ns := f.ns, cells := f.cells, apart := f.apart, lc := f.lc, has := f.has, lm := mm _ f.lm (Ne.symm h1), cown := ?_, cmine := fun hc y c e => mm _ (f.cmine hc y c e) (h2 y c e), slots := ?_, own := ?_, dis := f.dis }
  · intro y c e
    rcases List.mem_append.mp (f.cown y c e) with hm | hm
    · exact List.mem_append_left _ hm
    · exact List.mem_append_right _ (mm _ hm (h2 y c e))
  · intro y sl e
    obtain ⟨v, hv, hr⟩ := f.slots y sl e
    exact ⟨v, hv, hr.mono le fun _ _ _ e => e⟩
  · intro y sl b e ho
    obtain ⟨q1, q2, q3⟩ := f.own y sl b e ho
    exact ⟨mm _ q1 (fun q => h3 y sl e (q ▸ ho)), q2, q3⟩

/-- a tree that gives a new object -/
noncomputable def EvF (C : Cx) (σ : St) (t : Sem Value) (Q : Slot → St → Prop) : Prop :=
  ∀ F mine T s, Abs C F mine T σ s → wpAny C.M C.A t (fun v s' => ∃ sl σ' mine' a T', Q sl σ' ∧ sl.adr = some a ∧ Post F mine T s (a :: mine') T' s' ∧ a ∉ mine' ∧ AbsN C F mine' a T' σ' s' ∧ SlotRep C.W (view (F ++ (a :: mine')) T' s') s'.heap sl v) C.X s

theorem EvF.intro' {C : Cx} {σ : St} {t : Sem Value} {Q : Slot → St → Prop}
    (h : ∀ F mine T s (QQ : Value → Shared → Prop), (∀ v s' sl σ' mine' a T', Q sl σ' → sl.adr = some a → Post F mine T s (a :: mine') T' s' → a ∉ mine' → AbsN C F mine' a T' σ' s' → SlotRep C.W (view (F ++ (a :: mine')) T' s') s'.heap sl v → QQ v s') → Abs C F mine T σ s → wpAny C.M C.A t QQ C.X s) : EvF C σ t Q :=
  fun F mine T s hA => h F mine T s _ (fun _ _ sl σ' m' a T' x y z w u v => ⟨sl, σ', m', a, T', x, y, z, w, u, v⟩) hA
theorem EvF.mono {t : Sem Value} {Q Q' : Slot → St → Prop} (h : EvF C σ t Q) (hq : ∀ b σ, Q b σ → Q' b σ) : EvF C σ t Q' :=
  fun F mine T s hA => wpAny_mono (h F mine T s hA) (fun _ _ ⟨b, σ', m', a, T', q, r⟩ => ⟨b, σ', m', a, T', hq _ _ q, r⟩) fun _ _ x => x

theorem EvF.ev {t : Sem Value} {Q : V → St → Prop} (h : EvF C σ t (fun sl σ' => Q sl.v σ')) : EvT C σ t Q := by
  intro F mine T s hA
  refine wpAny_mono (h F mine T s hA) ?_ fun _ _ x => x
  rintro v s1 ⟨sl, σ1, m1, a, T1, q, ho, p1, hn, a1, r⟩
  have a2 := a1.drop hn
  have sub : ∀ b ∈ F ++ m1, b ∈ F ++ (a :: m1) := app_sub fun b hb => List.mem_cons_of_mem _ hb
  refine ⟨sl.v, σ1, m1, T1, q, ⟨p1.same, p1.le.trans (view_sub sub), p1.far⟩, a2, r.freeze ho sub fun hm => ?_⟩
  rcases List.mem_append.mp hm with hm | hm
  · exact a1.nin a List.mem_cons_self hm
  · exact hn hm

/-- one object more, and it is new -/
theorem Abs.new {F mine : List Addr} {T T' : TM} {s s' : Shared} (hA : Abs C F mine T σ s) (k : Kp T s T' s') {a : Addr} (hn : s.heap.get? a = none) (hs : (s'.heap.get? a).isSome = true) :
    Post F mine T s (a :: mine) T' s' ∧ a ∉ mine ∧ AbsN C F mine a T' σ s' ∧ Le (view (a :: (F ++ mine)) T' s') (view (F ++ (a :: mine)) T' s') := by
  have hnew : ∀ b ∈ F ++ mine, b ≠ a := fun b hb e => hA.ownOk.fresh hn (e ▸ hb)
  have hA1 := hA.keeps k
  have le : Le (view (F ++ mine) T s) (view (F ++ (a :: mine)) T' s') := ⟨fun b o e => by
    have e1 := k.view.ob b o e
    refine view_mk (fun hm => ?_) (view_of e1)
    rcases List.mem_append.mp hm with hm | hm
    · exact view_not e1 (List.mem_append_left _ hm)
    · rcases List.mem_cons.mp hm with rfl | hm
      · rw [view_of e] at hn; cases hn
      · exact view_not e1 (List.mem_append_right _ hm), k.tle⟩
  have pk := k.post hA.live
  have eqv : Le (view (a :: (F ++ mine)) T' s') (view (F ++ (a :: mine)) T' s') := view_sub fun b hb => by
    rcases List.mem_append.mp hb with hb | hb
    · exact List.mem_cons_of_mem _ (List.mem_append_left _ hb)
    · rcases List.mem_cons.mp hb with rfl | hb
      · exact List.mem_cons_self
      · exact List.mem_cons_of_mem _ (List.mem_append_right _ hb)
  refine ⟨⟨pk.same, le, pk.far⟩, fun hm => hnew a (List.mem_append_right _ hm) rfl, ?_, eqv⟩
  obtain ⟨m, cm, f⟩ := hA.frm
  have f1 : Frm C F mine T' σ s' m cm := f.keeps k
  refine ⟨fun b o e => le.ob b o (hA.base b o e), fun b hb => ?_, fun b hb => ?_, k.tok, m, cm, ?_, fun e => hnew _ (List.mem_append_right _ f.lm) e.symm, fun y c e => hnew c (f.cown y c e), fun y sl' e ho' => hnew _ (List.mem_append_right _ (f.own y sl' a e ho').1) rfl⟩
  · rcases List.mem_append.mp hb with hb | hb
    · exact hA1.live b (List.mem_append_left _ hb)
    · rcases List.mem_cons.mp hb with rfl | hb
      · exact hs
      · exact hA1.live b (List.mem_append_right _ hb)
  · rcases List.mem_cons.mp hb with rfl | hb
    · exact fun hF => hnew _ (List.mem_append_left _ hF) rfl
    · exact hA.nin b hb
  · refine { ns := f1.ns, cells := f1.cells, apart := f1.apart, lc := f1.lc, has := f1.has, lm := List.mem_cons_of_mem _ f1.lm, cown := ?_, cmine := fun hc y c e => List.mem_cons_of_mem _ (f1.cmine hc y c e), slots := ?_, own := ?_, dis := f1.dis }
    · intro y c e
      rcases List.mem_append.mp (f1.cown y c e) with hm | hm
      · exact List.mem_append_left _ hm
      · exact List.mem_append_right _ (List.mem_cons_of_mem _ hm)
    · intro y sl' e
      obtain ⟨v, hv, hr⟩ := f.slots y sl' e
      exact ⟨v, hv, hr.mono le fun _ _ o e => k.keep _ o e⟩
    · intro y sl' b e ho'
      obtain ⟨q1, q2, q3⟩ := f1.own y sl' b e ho'
      exact ⟨List.mem_cons_of_mem _ q1, q2, q3⟩

theorem EvF.prim {t : Sem Value} {Q : Slot → St → Prop} (h : ∀ own T s, OwnOk C own T s → PrimF C own T s t (fun sl => Q sl σ)) : EvF C σ t Q := by
  refine EvF.intro' fun F mine T s QQ fin hA => ?_
  refine wpAny_mono (h (F ++ mine) T s hA.ownOk) ?_ fun _ _ x => x
  rintro v s1 ⟨sl, T1, a, q, ho, k, hn, hs, r⟩
  obtain ⟨p1, hm, a1, le⟩ := hA.new k hn hs
  exact fin _ _ sl σ mine a T1 q ho p1 hm a1 (r.mono le fun _ _ _ e => e)

/-- x = e, what e gives is new and the frame's own -/
theorem ex_assignN {n : Nat} (ok : C.Ok n) {x : String} {p' e pos} {Q : Fl → St → Prop} (hx : isHere C (Str.ofString x) = true) (hs : swapsWith e (some (.Name (Str.ofString x) p')) pos.line C.env = pure false)
    (h : EvF C σ (eval e C.env) (fun sl σ' => Q .next (put σ' (Str.ofString x) x sl))) : Ex C σ (.Assign [.Name (Str.ofString x) p'] e pos) Q := by
  intro F mine T s hA
  refine wpAny_Assign_Name (wpAny_mono (h F mine T s hA) ?_ fun _ _ x => x) hs
  rintro v s1 ⟨sl, σ1, m1, a, T1, q, ho, p1, hn, a1, r⟩
  obtain ⟨m, cm, f, h1, h2, h3⟩ := a1.frm
  refine store_frm ok a1.abs hx r f (fun b hb => ?_) fun s2 p2 a2 => ⟨.next, _, _, T1, q, p1.trans p2, a2, .next⟩
  rw [ho] at hb
  cases hb
  exact ⟨List.mem_cons_self, h1, h2, fun y sl' e1 e2 => absurd e2 (h3 y sl' e1)⟩

/-- a list or dict of the frame's own turns -/
theorem Abs.mutate {F mine : List Addr} {T T' : TM} {s s' : Shared} (hA : Abs C F mine T σ s) {x : String} {sl sl' : Slot} {a : Addr} (hf : find σ (Str.ofString x) = some sl) (ho : sl.adr = some a) (ho' : sl'.adr = some a)
    (hsame : ∃ h' tk, s' = { s with heap := h', toks := tk }) (hs : ∀ b o, b ≠ a → s.heap.get? b = some o → s'.heap.get? b = some o) (hl : (s'.heap.get? a).isSome = true) (hT : TLe T T') (ht : TOk T' s'.toks)
    (hr : ∀ g', Le (view (F ++ mine) T s) g' → Le g' (view (F ++ mine) T' s') → SlotRep C.W (view (F ++ mine) T' s') s'.heap sl' (.ref a)) : Post F mine T s mine T' s' ∧ Abs C F mine T' (put σ (Str.ofString x) x sl') s' := by
  obtain ⟨m, cm, f⟩ := hA.frm
  obtain ⟨v, hv, hr0⟩ := f.slots _ _ hf
  obtain ⟨o1, o2, o3⟩ := f.own _ _ _ hf ho
  have hva := hr0.ref ho
  have le : Le (view (F ++ mine) T s) (view (F ++ mine) T' s') := ⟨fun b o e => view_mk (view_not e) (hs b o (fun q => view_not e (q ▸ List.mem_append_right _ o1)) (view_of e)), hT⟩
  have hr := hr _ le (.refl _)
  have far : ∀ b ∈ F, s'.heap.get? b = s.heap.get? b := fun b hb => by
    obtain ⟨o, ho⟩ := Option.isSome_iff_exists.mp (hA.live b (List.mem_append_left _ hb))
    rw [ho]; exact hs b o (fun q => hA.nin a o1 (q ▸ hb)) ho
  refine ⟨⟨hsame, le, far⟩, fun b o e => le.ob b o (hA.base b o e), fun b hb => ?_, hA.nin, ht, m, cm, ?_⟩
  · by_cases q : b = a
    · subst q; exact hl
    · obtain ⟨o, ho⟩ := Option.isSome_iff_exists.mp (hA.live b hb)
      rw [hs b o q ho]; rfl
  · refine { ns := f.ns.at' fun o e => hs _ o (Ne.symm o2) e, cells := fun y c e => ?_, apart := f.apart, lc := f.lc, has := f.has, lm := f.lm, cown := f.cown, cmine := f.cmine, slots := ?_, own := ?_, dis := ?_ }
    · obtain ⟨o, ho, hd⟩ := f.cells y c e
      exact ⟨o, hs c o (o3 y c e) ho, hd⟩
    · intro y sl1 hy
      rw [find_put] at hy
      by_cases hxy : Str.ofString x = y
      · rw [if_pos hxy] at hy
        cases hy
        subst hxy
        refine ⟨.ref a, ?_, hr⟩
        rcases hv with hv | ⟨h1, _, b, h2, h3⟩
        · exact .inl (hva ▸ hv)
        · rw [hva] at h3
          cases h3
          exact .inr ⟨h1, by unfold Slot.owned; rw [ho']; rfl, a, h2, rfl⟩
      · rw [if_neg hxy] at hy
        obtain ⟨v', hv', hr'⟩ := f.slots y sl1 hy
        exact ⟨v', hv', hr'.mono le fun b hb o e => hs b o (fun q => hxy (f.dis _ y sl sl1 a hf hy ho (q ▸ hb))) e⟩
    · intro y sl1 b hy hb
      rw [find_put] at hy
      by_cases hxy : Str.ofString x = y
      · rw [if_pos hxy] at hy
        cases hy
        rw [ho'] at hb
        cases hb
        exact ⟨o1, o2, o3⟩
      · rw [if_neg hxy] at hy
        exact f.own y sl1 b hy hb
    · intro y z sl1 sl2 b hy hz h1 h2
      rw [find_put] at hy hz
      by_cases hxy : Str.ofString x = y
      · rw [if_pos hxy] at hy
        cases hy
        rw [ho'] at h1
        cases h1
        by_cases hxz : Str.ofString x = z
        · exact hxy.symm.trans hxz
        · rw [if_neg hxz] at hz
          exact hxy.symm.trans (f.dis _ z sl sl2 a hf hz ho h2)
      · rw [if_neg hxy] at hy
        by_cases hxz : Str.ofString x = z
        · rw [if_pos hxz] at hz
          cases hz
          rw [ho'] at h2
          cases h2
          exact (f.dis y _ sl1 sl a hy hf h1 ho).trans hxz
        · rw [if_neg hxz] at hz
          exact f.dis y z sl1 sl2 b hy hz h1 h2

end
end Sx
end
section
open PySem PySem.W PyProof.Rows PySem.Calls
set_option linter.unusedVariables false
set_option Elab.async false
set_option maxRecDepth 100000
namespace Sx

/-- a step on two values -/
noncomputable def Op2 {α β : Type} (C : Cx) (R : PH → β → α → Prop) (f : Value → Value → Sem α) (a b : V) (K : β → Prop) : Prop :=
  ∀ own T s va vb, OwnOk C own T s → Rep C.W (view own T s) a va → Rep C.W (view own T s) b vb → PrimR C own T s R (f va vb) K
noncomputable def Op1 {α β : Type} (C : Cx) (R : PH → β → α → Prop) (f : Value → Sem α) (a : V) (K : β → Prop) : Prop :=
  ∀ own T s va, OwnOk C own T s → Rep C.W (view own T s) a va → PrimR C own T s R (f va) K
noncomputable def OpL {α β : Type} (C : Cx) (R : PH → β → α → Prop) (f : List Value → Sem α) (as : List V) (K : β → Prop) : Prop :=
  ∀ own T s vs, OwnOk C own T s → RepL C.W (view own T s) as vs → PrimR C own T s R (f vs) K
noncomputable def Op2F (C : Cx) (f : Value → Value → Sem Value) (a b : V) (K : Slot → Prop) : Prop :=
  ∀ own T s va vb, OwnOk C own T s → Rep C.W (view own T s) a va → Rep C.W (view own T s) b vb → PrimF C own T s (f va vb) K
noncomputable def OpLF (C : Cx) (f : List Value → Sem Value) (as : List V) (K : Slot → Prop) : Prop :=
  ∀ own T s vs, OwnOk C own T s → RepL C.W (view own T s) as vs → PrimF C own T s (f vs) K

noncomputable def IsTy (W : Wd) (a : V) (T : String) : Prop := ∀ (g : PH) (s : Shared) (va : Value), Rep W g a va → (∀ c o, g.ob c = some o → s.heap.get? c = some o) → s.TypeIs va T

section
variable {C : Cx} {σ : St}

theorem Tr.ofRep {α β : Type} {R : PH → β → α → Prop} {f : Value → Sem α} {Q : β → St → Prop} {a : V} (h : Op1 C R f a (fun b => Q b σ)) : ∀ F mine T s va, Abs C F mine T σ s → Rep C.W (view (F ++ mine) T s) a va →
    wpAny C.M C.A (f va) (fun x s' => ∃ b σ' mine' T', Q b σ' ∧ Post F mine T s mine' T' s' ∧ Abs C F mine' T' σ' s' ∧ R (view (F ++ mine') T' s') b x) C.X s :=
  fun F mine T s va hA r => wpAny_mono (h _ T s va hA.ownOk r) (fun _ _ ⟨b, T', q, k, r⟩ => ⟨b, σ, mine, T', q, k.post hA.live, hA.keeps k, r⟩) fun _ _ x => x

theorem ev_bin {l r : Expr} {op : Operator} {p : Pos} {Q : V → St → Prop} (h : Ev C σ l (fun a σ1 => Ev C σ1 r (fun b σ2 => Op2 C (Rep C.W) (binaryOp op) a b (fun v => Q v σ2)))) : Ev C σ (.BinOp l op r p) Q := by
  refine Tr.intro' fun F mine T s QQ fin hA => ?_
  refine wpAny_BinOp (Tr.then h hA fun va s1 a σ1 m1 T1 hQ p1 a1 r1 => ?_)
  refine Tr.then hQ a1 fun vb s2 b σ2 m2 T2 hQ2 p2 a2 r2 => ?_
  refine PrimR.then (hQ2 _ T2 s2 va vb a2.ownOk (r1.mono p2.le) r2) fun vc s3 c T3 q k r3 => ?_
  exact fin _ _ c σ2 m2 T3 q ((p1.trans p2).trans (k.post a2.live)) (a2.keeps k) r3

/-- a comparison in a test: its value is a bool -/
theorem tst_cmp {l r : Expr} {op : CmpOp} {p : Pos} {Q : Bool → St → Prop} (h : Ev C σ l (fun a σ1 => Ev C σ1 r (fun b σ2 => Op2 C (Rep C.W) (compareOp op) a b (fun v => ∃ b, v = .bool b ∧ Q b σ2))))
    (hm : behindInMarks op r = false := by with_unfolding_all rfl) : Tst C σ (.Compare l [op] [r] p) Q := by
  refine Tr.intro' fun F mine T s QQ fin hA => ?_
  refine wpAny_isTrue_Compare1 (Tr.then h hA fun va s1 a σ1 m1 T1 hQ p1 a1 r1 => ?_) hm
  refine Tr.then hQ a1 fun vb s2 b σ2 m2 T2 hQ2 p2 a2 r2 => ?_
  refine wpAny_mono (hQ2 _ T2 s2 va vb a2.ownOk (r1.mono p2.le) r2) ?_ fun _ _ x => x
  rintro vc s3 ⟨c, T3, ⟨b, rfl, q⟩, k, r3⟩
  cases r3
  exact wpAny_truthy_bool (fin _ _ b σ2 m2 T3 q ((p1.trans p2).trans (k.post a2.live)) (a2.keeps k) rfl)

/-- a test that is just a value -/
theorem tst_val {e : Expr} {Q : Bool → St → Prop} (h : Ev C σ e (fun a σ1 => Op1 C RB truthy a (fun b => Q b σ1))) (he : isTrue e C.env (eval e C.env) = (do let v ← eval e C.env; standAt e.pos; holding [v] (truthy v)) := by rfl) : Tst C σ e Q := by
  refine Tr.intro' fun F mine T s QQ fin hA => ?_
  rw [he]
  refine wpAny_bind (Tr.then h hA fun va s1 a σ1 m1 T1 hQ p1 a1 r1 => ?_)
  refine wpAny_bind (wpAny_standAt (wpAny_holding (wpAny_mono (Tr.ofRep (Q := Q) hQ F m1 T1 s1 va a1 r1) ?_ fun _ _ x => x)))
  rintro b s2 ⟨b', σ2, m2, T2, q, p2, a2, r2⟩
  exact fin _ _ b' σ2 m2 T2 q (p1.trans p2) a2 r2

noncomputable abbrev AllT (C : Cx) (σ : St) (op : BoolOp) (es : List Expr) (Q : Bool → St → Prop) : Prop := Tr C σ RB (allTrue op es C.env) Q
theorem tst_bool {op : BoolOp} {es : List Expr} {p : Pos} {Q : Bool → St → Prop} (h : AllT C σ op es Q) : Tst C σ (.BoolOp op es p) Q :=
  fun F mine T s hA => wpAny_isTrue_BoolOp (h F mine T s hA)
theorem allT_and_nil {Q : Bool → St → Prop} (h : Q true σ) : AllT C σ .And [] Q := fun F mine T s hA => wpAny_allTrue_And_nil ⟨_, _, _, T, h, .refl _ _ _ _, hA, rfl⟩
theorem allT_or_nil {Q : Bool → St → Prop} (h : Q false σ) : AllT C σ .Or [] Q := fun F mine T s hA => wpAny_allTrue_Or_nil ⟨_, _, _, T, h, .refl _ _ _ _, hA, rfl⟩
theorem allT_and {e : Expr} {es : List Expr} {Q : Bool → St → Prop} (h : Tst C σ e (fun b σ' => (b = true → AllT C σ' .And es Q) ∧ (b = false → Q false σ'))) : AllT C σ .And (e :: es) Q := by
  refine Tr.intro' fun F mine T s QQ fin hA => ?_
  rw [arm_allTrue_cons]
  refine wpAny_bind (Tr.then h hA fun b s1 b' σ1 m1 T1 q p1 a1 r => ?_)
  have r : b' = b := r
  subst r
  cases b' with
  | true =>
    refine Tr.then (q.1 rfl) a1 fun b2 s2 b2' σ2 m2 T2 q2 p2 a2 r2 => ?_
    exact fin _ _ b2' σ2 m2 T2 q2 (p1.trans p2) a2 r2
  | false => exact wpAny_pure (fin _ _ false σ1 m1 T1 (q.2 rfl) p1 a1 rfl)
theorem allT_or {e : Expr} {es : List Expr} {Q : Bool → St → Prop} (h : Tst C σ e (fun b σ' => (b = false → AllT C σ' .Or es Q) ∧ (b = true → Q true σ'))) : AllT C σ .Or (e :: es) Q := by
  refine Tr.intro' fun F mine T s QQ fin hA => ?_
  rw [arm_allTrue_cons]
  refine wpAny_bind (Tr.then h hA fun b s1 b' σ1 m1 T1 q p1 a1 r => ?_)
  have r : b' = b := r
  subst r
  cases b' with
  | false =>
    refine Tr.then (q.1 rfl) a1 fun b2 s2 b2' σ2 m2 T2 q2 p2 a2 r2 => ?_
    exact fin _ _ b2' σ2 m2 T2 q2 (p1.trans p2) a2 r2
  | true => exact wpAny_pure (fin _ _ true σ1 m1 T1 (q.2 rfl) p1 a1 rfl)

theorem ev_ifexp {t a b : Expr} {p : Pos} {Q : V → St → Prop} (h : Tst C σ t (fun c σ' => (c = true → Ev C σ' a Q) ∧ (c = false → Ev C σ' b Q))) : Ev C σ (.IfExp t a b p) Q := by
  refine Tr.intro' fun F mine T s QQ fin hA => ?_
  rw [arm_eval_IfExp]
  refine wpAny_bind (Tr.then h hA fun c s1 b' σ1 m1 T1 q p1 a1 r => ?_)
  have r : b' = c := r
  subst r
  cases b' with
  | true =>
    refine Tr.then (q.1 rfl) a1 fun b2 s2 b2' σ2 m2 T2 q2 p2 a2 r2 => ?_
    exact fin _ _ b2' σ2 m2 T2 q2 (p1.trans p2) a2 r2
  | false =>
    refine Tr.then (q.2 rfl) a1 fun b2 s2 b2' σ2 m2 T2 q2 p2 a2 r2 => ?_
    exact fin _ _ b2' σ2 m2 T2 q2 (p1.trans p2) a2 r2

/-- not e, as a value -/
theorem ev_un {op : UnaryOp} {e : Expr} {p : Pos} {Q : V → St → Prop} (h : Ev C σ e (fun a σ1 => Op1 C (Rep C.W) (unaryOp op) a (fun b => Q b σ1))) : Ev C σ (.UnaryOp op e p) Q := by
  refine Tr.intro' fun F mine T s QQ fin hA => ?_
  refine wpAny_UnaryOp (Tr.then h hA fun va s1 a σ1 m1 T1 hQ p1 a1 r1 => ?_)
  refine wpAny_mono (Tr.ofRep (Q := Q) hQ F m1 T1 s1 va a1 r1) ?_ fun _ _ x => x
  rintro b s2 ⟨b', σ2, m2, T2, q, p2, a2, r2⟩
  exact fin _ _ b' σ2 m2 T2 q (p1.trans p2) a2 r2

/-! ### rows of items -/
theorem evL_nil {pos : Pos} {Q : List V → St → Prop} (h : Q [] σ) : EvL C σ pos [] Q := fun F mine T s hA => wpAny_items_nil ⟨[], σ, mine, T, h, .refl _ _ _ _, hA, .nil⟩
theorem backTo_cons {pos : Pos} {e : Expr} {rest : List Expr} (hs : starEach (e :: rest) C.env = (false, eval e C.env) :: starEach rest C.env) :
    backTo pos (starEach (e :: rest) C.env) = (false, eval e C.env) :: backTo pos (starEach rest C.env) := by rw [hs]; rfl
theorem evL_cons {pos : Pos} {e : Expr} {rest : List Expr} {Q : List V → St → Prop} (h : Ev C σ e (fun v σ1 => EvL C σ1 pos rest (fun vs σ2 => Q (v :: vs) σ2)))
    (hs : starEach (e :: rest) C.env = (false, eval e C.env) :: starEach rest C.env := by rfl) : EvL C σ pos (e :: rest) Q := by
  refine Tr.intro' fun F mine T s QQ fin hA => ?_
  rw [backTo_cons hs]
  refine spliced_cons (Tr.then h hA fun va s1 a σ1 m1 T1 hQ p1 a1 r1 => ?_)
  refine Tr.then hQ a1 fun vb s2 vs σ2 m2 T2 hQ2 p2 a2 r2 => ?_
  exact fin _ _ (a :: vs) σ2 m2 T2 hQ2 (p1.trans p2) a2 (.cons (r1.mono p2.le) r2)

theorem evF_ofL {pos : Pos} {es : List Expr} {f : List Value → Sem Value} {Q : Slot → St → Prop} (h : EvL C σ pos es (fun vs σ1 => OpLF C f vs (fun sl => Q sl σ1))) :
    EvF C σ (do f (← spliced (backTo pos (starEach es C.env)))) Q := by
  intro F mine T s hA
  refine wpAny_bind (Tr.then h hA fun vs s1 as σ1 m1 T1 hQ p1 a1 r1 => ?_)
  refine wpAny_mono (hQ _ T1 s1 vs a1.ownOk r1) ?_ fun _ _ x => x
  rintro v s2 ⟨sl, T2, a, q, ho, k, hn, hs, r2⟩
  obtain ⟨p2, hm, a2, le⟩ := a1.new k hn hs
  exact ⟨sl, σ1, m1, a, T2, q, ho, p1.trans p2, hm, a2, r2.mono le fun _ _ _ e => e⟩
theorem Tr.standAt {α β : Type} {R : PH → β → α → Prop} {pos : Pos} {t : Sem α} {Q : β → St → Prop} (h : Tr C σ R t Q) : Tr C σ R (do standAt pos; t) Q := fun F mine T s hA => wpAny_bind (wpAny_standAt (h F mine T s hA))
theorem EvF.standAt {pos : Pos} {t : Sem Value} {Q : Slot → St → Prop} (h : EvF C σ t Q) : EvF C σ (do standAt pos; t) Q := fun F mine T s hA => wpAny_bind (wpAny_standAt (h F mine T s hA))

theorem newList_op {vs : List V} {K : Slot → Prop} (h : ∀ a, K (.list a vs)) (hl : vs.length ≤ sizeLine) : OpLF C newList vs K := by
  intro own T s ws hO hr
  refine wpAny_newObj_type ?_ (by show ws.toArray.size ≤ sizeLine; rw [List.size_toArray, hr.length]; exact hl)
  have hk : Kp T s T { s with heap := s.heap.push { cls := .type "list", data := .seq ws.toArray } } := .push hO.tok (Nat.le_refl _)
  have hn := fresh_size s.heap
  refine ⟨.list s.heap.objs.size vs, T, s.heap.objs.size, h _, rfl, hk, hn, by rw [Heap.get?_push_size _ rfl]; rfl, rfl, ws, ⟨0, Heap.get?_push_size _ rfl⟩, ?_⟩
  refine hr.mono ⟨fun b o e => view_mk (fun hm => ?_) (hk.keep b o (view_of e)), fun _ _ e => e⟩
  rcases List.mem_cons.mp hm with rfl | hm
  · rw [view_of e] at hn; cases hn
  · exact view_not e hm
theorem evF_list {es : List Expr} {pos : Pos} {Q : Slot → St → Prop} (h : EvL C σ pos es (fun vs σ1 => vs.length ≤ sizeLine ∧ ∀ a, Q (.list a vs) σ1)) : EvF C σ (eval (.List es pos) C.env) Q := by
  rw [arm_eval_List]
  exact EvF.standAt (evF_ofL (h.mono fun vs σ1 hq => newList_op hq.2 hq.1))
/-! ### items -/
theorem ev_sub {value slice : Expr} {pos : Pos} {Q : V → St → Prop}
    (h : Ev C σ value (fun a σ1 => Ev C σ1 slice (fun b σ2 => Op2 C (Rep C.W) getItem a b (fun v => Q v σ2) ∧ ∃ T id, typeLookup (.type T) "__getitem__" = pure (some (.builtin id)) ∧ IsTy C.W a T)))
    (hs : ∀ o i, subscripted slice false o i = operate [o, i] (getItem o i) := by intro _ _; rfl) : Ev C σ (.Subscript value slice pos) Q := by
  refine Tr.intro' fun F mine T s QQ fin hA => ?_
  rw [arm_eval_Subscript]
  refine wpAny_bind (Tr.then h hA fun va s1 a σ1 m1 T1 hQ p1 a1 r1 => ?_)
  refine wpAny_bind (wpAny_holding (Tr.then hQ a1 fun vb s2 b σ2 m2 T2 hq_ p2 a2 r2 => ?_))
  obtain ⟨hQ2, Ty, id, hl, hT⟩ := hq_
  have hT := hT _ s2 va (r1.mono p2.le) fun c o e => view_of e
  refine wpAny_bind (wpAny_standAt ?_)
  refine wpAny_bind ?_
  rw [getitemInPython_of_ne hT.not_modules]
  refine wpAny_bind (wpAny_specialOf hT hl (wpAny_pure ?_))
  rw [hs]
  refine wpAny_bind (wpAny_operating (PrimR.then (hQ2 _ T2 s2 va vb a2.ownOk (r1.mono p2.le) r2) fun vc s3 c T3 q k r3 => ?_))
  exact wpAny_bind (wpAny_letTemporaryGo (wpAny_pure (fin _ _ c σ2 m2 T3 q ((p1.trans p2).trans (k.post a2.live)) (a2.keeps k) r3)))

/-! ### calls -/
/-- what may be called by name: a function of the base or a built-in -/
inductive Callee (C : Cx) : Value → Prop
  | fn {a : Addr} {o : Obj} {fd : FuncData} : C.W.h₀.get? a = some o → o.data = .func fd → Callee C (.ref a)
  | bi {id : String} : Callee C (.builtin id)
  | ty {T : String} : Callee C (.type T)

theorem evalArgs_list {M : Model} {A : Around} {E : Value → Shared → Prop} {s : Shared} {f : Value} {pos : Pos} {env : Env} {es : List Expr} {Q : Args → Shared → Prop} (hst : (starEach es env).all (fun x => !x.1) = true)
    (h : wpAny M A (spliced (backTo pos (starEach es env))) (fun vs s' => Q ⟨vs, []⟩ s') E s) : wpAny M A (evalArgs f true (backTo pos (starEach es env)) []) Q E s := by
  cases hx : starEach es env with
  | nil =>
    rw [hx] at h
    unfold evalArgs
    show wpAny M A (spliced [] >>= _) Q E s
    refine wpAny_bind (wpAny_mono h (fun vs s' h' => ?_) fun _ _ x => x)
    refine wpAny_holding ?_
    exact wpAny_bind (wpAny_pure (wpAny_bind (wpAny_pure (wpAny_pure h'))))
  | cons p r =>
    obtain ⟨st, t⟩ := p
    rw [hx] at hst h
    simp only [List.all_cons, Bool.and_eq_true, Bool.not_eq_true'] at hst
    have : st = false := by simpa using hst.1
    subst this
    exact evalArgs_plain h

theorem any_backTo {pos : Pos} {l : List (Bool × Sem Value)} (h : l.all (fun x => !x.1) = true) : (backTo pos l).any (·.1) = false := by
  induction l with
  | nil => rfl
  | cons p r ih =>
    obtain ⟨st, t⟩ := p
    simp only [List.all_cons, Bool.and_eq_true, Bool.not_eq_true'] at h
    have h1 : st = false := by simpa using h.1
    subst h1
    show (false || (backTo pos r).any (·.1)) = false
    rw [ih h.2]; rfl

theorem callWith_any {M : Model} {A : Around} {E : Value → Shared → Prop} {s : Shared} {pos : Pos} {f : Value} {first : List Value} {args : List (Bool × Sem Value)} {Q : Value → Shared → Prop} (hplain : args.any (·.1) = false) (hc : Callee C f)
    (h : wpAny M A (evalArgs f true args []) (fun a s₁ => a.kw = [] ∧ (∀ b o, C.W.h₀.get? b = some o → s₁.heap.get? b = some o) ∧ wpAny M A (call f (first ++ a.pos) []) Q E s₁) E s) : wpAny M A (callWith pos f first args []) Q E s := by
  cases hc with
  | fn ho hd => exact callWith_function (wpAny_mono h (fun a s1 h1 => by rw [h1.1]; exact ⟨⟨h1.2.1 _ _ ho, hd⟩, h1.2.2⟩) fun _ _ x => x)
  | bi => exact callWith_builtin hplain (wpAny_mono h (fun a s1 h1 => by rw [h1.1]; exact h1.2.2) fun _ _ x => x)
  | ty => exact PySem.callWith_type hplain (wpAny_mono h (fun a s1 h1 => by rw [h1.1]; exact h1.2.2) fun _ _ x => x)

/-- f(e, ..): f a name -/
theorem ev_call {f : Expr} {es : List Expr} {pos : Pos} {Q : V → St → Prop} (h : Ev C σ f (fun fv σ1 => ∃ w, fv = .val w ∧ Callee C w ∧ EvL C σ1 pos es (fun vs σ2 => OpL C (Rep C.W) (fun ws => call w ws) vs (fun v => Q v σ2))))
    (hst : (starEach es C.env).all (fun x => !x.1) = true := by rfl)
    (he : eval (.Call f es [] pos) C.env = (do callWith pos (← eval f C.env) [] (backTo pos (starEach es C.env)) (backToKw pos (keywordEach [] C.env))) := by rfl) : Ev C σ (.Call f es [] pos) Q := by
  refine Tr.intro' fun F mine T s QQ fin hA => ?_
  rw [he]
  refine wpAny_bind (Tr.then h hA fun vf s1 fv σ1 m1 T1 hq_ p1 a1 r1 => ?_)
  obtain ⟨w, rfl, hc, hQ⟩ := hq_
  cases r1
  refine callWith_any (any_backTo hst) hc (evalArgs_list hst (Tr.then hQ a1 fun ws s2 vs σ2 m2 T2 hQ2 p2 a2 r2 => ?_))
  refine ⟨rfl, a2.ownOk.kb, wpAny_mono (hQ2 _ T2 s2 ws a2.ownOk r2) ?_ fun _ _ x => x⟩
  rintro v s3 ⟨b, T3, q, k, r3⟩
  exact fin _ _ b σ2 m2 T3 q ((p1.trans p2).trans (k.post a2.live)) (a2.keeps k) r3
theorem evF_call {f : Expr} {es : List Expr} {pos : Pos} {Q : Slot → St → Prop} (h : Ev C σ f (fun fv σ1 => ∃ w, fv = .val w ∧ Callee C w ∧ EvL C σ1 pos es (fun vs σ2 => OpLF C (fun ws => call w ws) vs (fun v => Q v σ2))))
    (hst : (starEach es C.env).all (fun x => !x.1) = true := by rfl)
    (he : eval (.Call f es [] pos) C.env = (do callWith pos (← eval f C.env) [] (backTo pos (starEach es C.env)) (backToKw pos (keywordEach [] C.env))) := by rfl) : EvF C σ (eval (.Call f es [] pos) C.env) Q := by
  refine EvF.intro' fun F mine T s QQ fin hA => ?_
  rw [he]
  refine wpAny_bind (Tr.then h hA fun vf s1 fv σ1 m1 T1 hq_ p1 a1 r1 => ?_)
  obtain ⟨w, rfl, hc, hQ⟩ := hq_
  cases r1
  refine callWith_any (any_backTo hst) hc (evalArgs_list hst (Tr.then hQ a1 fun ws s2 vs σ2 m2 T2 hQ2 p2 a2 r2 => ?_))
  refine ⟨rfl, a2.ownOk.kb, wpAny_mono (hQ2 _ T2 s2 ws a2.ownOk r2) ?_ fun _ _ x => x⟩
  rintro v s3 ⟨sl, T3, a, q, ho, k, hn, hs, r3⟩
  obtain ⟨p3, hm, a3, le⟩ := a2.new k hn hs
  exact fin _ _ sl σ2 m2 a T3 q ho ((p1.trans p2).trans p3) hm a3 (r3.mono le fun _ _ _ e => e)

/-- a built-in type's method, found -/
structure MethOk (W : Wd) (a : V) (name : Str) (T id : String) : Prop where
  pa : PlainAttrs T
  slot : PySem.Slot T name id
  hty : typeOf (.builtin id) = pure (.type "method_descriptor")
  is : ∀ (g : PH) (s : Shared) (va : Value), Rep W g a va → (∀ c o, g.ob c = some o → s.heap.get? c = some o) → s.TypeIs va T ∧ ∀ x, va = .ref x → ∃ ob, s.heap.get? x = some ob ∧ ob.dict = none

/-- o.name(e, ..) -/
theorem ev_meth {o : Expr} {name : Str} {apos pos : Pos} {es : List Expr} {Q : V → St → Prop}
    (h : Ev C σ o (fun a σ1 => ∃ T id, MethOk C.W a name T id ∧ EvL C σ1 pos es (fun vs σ2 => OpL C (Rep C.W) (fun ws => call (.builtin id) ws) (a :: vs) (fun v => Q v σ2))))
    (hbase : attributeBase o name C.env (eval o C.env) = eval o C.env) (hst : (starEach es C.env).all (fun x => !x.1) = true) (hline : (apos.endLine == pos.line) = true) (hlen : decide (es.length < 30) = true) :
    Ev C σ (.Call (.Attribute o name apos) es [] pos) Q := by
  refine Tr.intro' fun F mine T s QQ fin hA => ?_
  rw [arm_eval_Call, hbase]
  refine wpAny_bind (Tr.then h hA fun va s1 a σ1 m1 T1 hq_ p1 a1 r1 => ?_)
  obtain ⟨Ty, id, ⟨pa, slot, hty, his⟩, hQ⟩ := hq_
  refine wpAny_bind (wpAny_standAt ?_)
  have hform : methodCallForm (es.length + ([] : List Keyword).length) (backTo pos (starEach es C.env)) (backToKw pos (keywordEach [] C.env)) = true := by
    have h1 : (backTo pos (starEach es C.env)).all (fun x => !x.1) = true := by
      have h2 := any_backTo (pos := pos) hst
      rw [List.any_eq_false] at h2
      exact List.all_eq_true.mpr fun x hx => by simpa using h2 x hx
    unfold methodCallForm
    simp only [h1, Bool.true_and, List.length_nil, Nat.add_zero, List.isEmpty_nil, if_true]
    exact hlen
  have hpos : methodCallPos true o C.env apos pos = pure pos := by unfold methodCallPos; simp [hline]
  obtain ⟨hT, hd⟩ := his _ s1 va r1 fun c o e => view_of e
  unfold methodCall
  rw [hform]
  refine wpAny_bind (wpAny_holding (getMethod_builtin hT pa slot hty hd ?_))
  refine wpAny_bind (wpAny_of_eq hpos ?_)
  refine callWith_builtin (any_backTo hst) (evalArgs_list hst (Tr.then hQ a1 fun ws s2 vs σ2 m2 T2 hQ2 p2 a2 r2 => ?_))
  refine PrimR.then (hQ2 _ T2 s2 (va :: ws) a2.ownOk (.cons (r1.mono p2.le) r2)) fun v s3 b T3 q k r3 => ?_
  exact fin _ _ b σ2 m2 T3 q ((p1.trans p2).trans (k.post a2.live)) (a2.keeps k) r3
/-- x op= e -/
theorem ex_aug {n : Nat} (ok : C.Ok n) {x : String} {p' pos : Pos} {op : Operator} {e : Expr} {Q : Fl → St → Prop} (hx : isHere C (Str.ofString x) = true)
    (h : EvT C σ (loadName C.env (Str.ofString x)) (fun a σ1 => Ev C σ1 e (fun b σ2 => Op2 C (Rep C.W) (inplaceOp op) a b (fun v => Q .next (put σ2 (Str.ofString x) x (.val v)))))) : Ex C σ (.AugAssign (.Name (Str.ofString x) p') op e pos) Q := by
  refine Tr.intro' fun F mine T s QQ fin hA => ?_
  refine wpAny_AugAssign_Name (Tr.then h hA fun va s1 a σ1 m1 T1 hQ p1 a1 r1 => ?_)
  refine Tr.then hQ a1 fun vb s2 b σ2 m2 T2 hQ2 p2 a2 r2 => ?_
  refine PrimR.then (hQ2 _ T2 s2 va vb a2.ownOk (r1.mono p2.le) r2) fun vc s3 c T3 q k r3 => ?_
  exact store_val ok (a2.keeps k) hx r3 fun s4 p4 a4 => fin _ _ .next _ m2 T3 q (((p1.trans p2).trans (k.post a2.live)).trans p4) a4 .next

end
end Sx
end
section
open PySem PySem.W PyProof.Rows PySem.Calls
set_option linter.unusedVariables false
set_option Elab.async false
set_option maxRecDepth 100000
namespace Sx

/-! ## a call of one of the text's own defs -/
noncomputable def fnEnv (scope : Scope) (L a : Addr) (q : Str) (cd : Value) : Env :=
  { scope := scope, locals := L, globals := mainGlobals, cells := cellsFrom (L + 1) scope.names [], qual := q, func := some a, code := cd, frame := some L, builtins := builtinsNs }
noncomputable def fnCx (W : Wd) (A : Around) (scope : Scope) (L a : Addr) (q : Str) (cd : Value) : Cx := { W := W, A := A, env := fnEnv scope L a q cd, ownC := true, X := fun _ _ => False, an := none }

noncomputable def Fl.v : Fl → V
  | .ret v => v
  | _ => .none

theorem cellsFrom_keeps {x : Str} : ∀ (names : List (Str × NameKind)) (n : Nat) (acc : List (Str × Addr)), (acc.lookup x).isSome = true → ((cellsFrom n names acc).lookup x).isSome = true
  | [], _, _, h => h
  | (name, kind) :: r, n, acc, h => by
    unfold cellsFrom
    split
    · refine cellsFrom_keeps r _ _ ?_
      rw [List.lookup_cons]
      cases x == name <;> simp [h]
    · exact cellsFrom_keeps r _ _ h
theorem cellsFrom_has {x : Str} : ∀ (names : List (Str × NameKind)) (n : Nat) (acc : List (Str × Addr)), names.lookup x = some .cell → ((cellsFrom n names acc).lookup x).isSome = true
  | [], _, _, h => by simp at h
  | (name, kind) :: r, n, acc, h => by
    rw [List.lookup_cons] at h
    unfold cellsFrom
    cases hx : x == name with
    | true =>
      rw [hx] at h
      have h : kind = .cell := by simpa using h
      subst h
      show ((cellsFrom (n + 1) r ((name, n) :: acc)).lookup x).isSome = true
      refine cellsFrom_keeps r _ _ ?_
      rw [List.lookup_cons, hx]; rfl
    | false =>
      rw [hx] at h
      split
      · exact cellsFrom_has r _ _ h
      · exact cellsFrom_has r _ _ h

noncomputable def bindV : List (Str × Value) → Option Value → Str → Option Value
  | [], b, _ => b
  | (n, v) :: r, b, x => bindV r (if x = n then some v else b) x

theorem valAt_bind {env : Env} {x : Str} : ∀ (binds : List (Str × Value)) (m cm : Str → Option Value), (∀ y ∈ binds, env.kindOf y.1 = some .local ∨ env.kindOf y.1 = some .cell) →
    valAt env (bindL env.kindOf binds m) (bindC env.kindOf binds cm) x = bindV binds (valAt env m cm x) x
  | [], m, cm, _ => rfl
  | (n, v) :: r, m, cm, h => by
    unfold bindL bindC bindV
    rw [valAt_bind r _ _ fun y hy => h y (List.mem_cons_of_mem _ hy)]
    congr 1
    rcases h (n, v) List.mem_cons_self with hk | hk
    · have hk : env.kindOf n = some .local := hk
      rw [if_pos hk, if_pos hk]; exact valAt_local hk
    · have hk : env.kindOf n = some .cell := hk
      rw [if_neg (by rw [hk]; decide), if_neg (by rw [hk]; decide)]; exact valAt_cell hk

theorem bindV_not {x : Str} : ∀ (binds : List (Str × Value)) (b : Option Value), (∀ p ∈ binds, p.1 ≠ x) → bindV binds b x = b
  | [], _, _ => rfl
  | (n, v) :: r, b, h => by
    unfold bindV
    rw [if_neg (fun e => h (n, v) List.mem_cons_self e.symm)]
    exact bindV_not r b fun p hp => h p (List.mem_cons_of_mem _ hp)

noncomputable def mkSt (ps : List String) (vs : List V) : St := (ps.zip vs).map fun p => (p.1, .val p.2)

theorem find_mkSt {W : Wd} {g : PH} : ∀ (ps : List String) (vs : List V) (ws : List Value) (b : Option Value) (x : Str) (sl : Slot), ps.Nodup → RepL W g vs ws → find (mkSt ps vs) x = some sl →
    ∃ u w, sl = .val u ∧ bindV ((ps.map Str.ofString).zip ws) b x = some w ∧ Rep W g u w
  | [], vs, ws, b, x, sl, _, _, h => by simp [mkSt, find] at h
  | p :: ps, vs, ws, b, x, sl, hn, hr, h => by
    cases hr with
    | nil => simp [mkSt, find] at h
    | @cons v w vs ws h1 h2 =>
      have hn' := List.nodup_cons.mp hn
      simp only [mkSt, List.zip_cons_cons, List.map_cons, find] at h
      simp only [List.map_cons, List.zip_cons_cons, bindV]
      by_cases hx : Str.ofString p = x
      · rw [if_pos hx] at h
        cases h
        refine ⟨v, w, rfl, ?_, h1⟩
        rw [if_pos hx.symm]
        refine bindV_not _ _ fun q hq e => ?_
        obtain ⟨q1, q2⟩ := q
        have := List.of_mem_zip hq
        obtain ⟨p', hp', e'⟩ := List.mem_map.mp this.1
        have : p' = p := ofString_inj.mp (e'.trans (e.trans hx.symm))
        exact hn'.1 (this ▸ hp')
      · rw [if_neg hx] at h
        rw [if_neg (fun e => hx e.symm)]
        exact find_mkSt ps vs ws b x sl hn'.2 h2 h

theorem get_ge {h : Heap} {a : Addr} (e : h.objs.size ≤ a) : h.get? a = none := by
  cases q : h.get? a with
  | none => rfl
  | some o => exact absurd (Heap.lt_size q) (Nat.not_lt.mpr e)

theorem fnCx_ok {W : Wd} {A : Around} {n : Nat} {scope : Scope} {L a : Addr} {q : Str} {cd : Value} (hW : W.Ok) (hh : A.handled = none) (hu : A.units + 3 * n + 100 ≤ 9000) (hd : A.depth + n + 10 ≤ 900) (hk : scope.kind = .function) : (fnCx W A scope L a q cd).Ok n :=
  { W := hW, hh := hh, hu := hu, hd := hd, hk := hk, hg := rfl, hb := rfl, hx := PassesOwn.never }

/-- a def of the text's own, as it stands in the base -/
structure FnAt (W : Wd) (a : Addr) (fd : FuncData) (body : List Stmt) : Prop where
  at_ : ∃ o, W.h₀.get? a = some o ∧ o.data = .func fd
  hbody : fd.body = .stmts body
  hgl : fd.globals = mainGlobals
  hcl : fd.closure = []
  hbn : fd.builtins = builtinsNs
  hcd : W.h₀.CodeRec fd.code fd.qualname
  hco : fd.scope.isCoroutine = false
  hgen : fd.scope.isGenerator = false
  hk : fd.scope.kind = .function

noncomputable def namesOk (scope : Scope) (ps : List String) : Bool :=
  (ps.all fun p => scope.names.lookup (Str.ofString p) == some .local || scope.names.lookup (Str.ofString p) == some .cell) && scope.names.all fun x => x.2 != .free

theorem fn_call {C : Cx} {n : Nat} (ok : C.Ok (n + 1)) {a : Addr} {fd : FuncData} {body : List Stmt} (fn : FnAt C.W a fd body) {ps : List String} {vs dvs : List V} {ds : List Value}
    (hb : ∀ (s : Shared) (ws : List Value), (∀ b o, C.W.h₀.get? b = some o → s.heap.get? b = some o) → ws.length = vs.length → BindsTo s fd ⟨ws, []⟩ ((ps.map Str.ofString).zip (ws ++ ds)))
    (hds : ∀ own T s, OwnOk C own T s → RepL C.W (view own T s) dvs ds)
    (hnd : ps.Nodup) (hnm : namesOk fd.scope ps = true) {K : V → Prop}
    (walk : ∀ A L q cd, (fnCx C.W A fd.scope L a q cd).Ok n → Exs (fnCx C.W A fd.scope L a q cd) (mkSt ps (vs ++ dvs)) body (fun fl _ => K fl.v)) :
    OpL C (Rep C.W) (fun ws => call (.ref a) ws) vs K := by
  intro own T s ws hO hr
  obtain ⟨o, ho, hd⟩ := fn.at_
  have kb := hO.kb
  have hlim : s.heap.NoLimit := ok.W.nolimit.keeps kb
  unfold namesOk at hnm
  rw [Bool.and_eq_true, List.all_eq_true, List.all_eq_true] at hnm
  have hps : ∀ x ∈ (ps.map Str.ofString).zip (ws ++ ds), fd.scope.names.lookup x.1 = some .local ∨ fd.scope.names.lookup x.1 = some .cell := by
    intro x hx
    obtain ⟨x1, x2⟩ := x
    obtain ⟨p, hp, rfl⟩ := List.mem_map.mp (List.of_mem_zip hx).1
    have := hnm.1 p hp
    rw [Bool.or_eq_true, beq_iff_eq, beq_iff_eq] at this
    exact this
  refine wpAny_call (codeAny_call_function (by have := ok.hd; unfold recursionLimit; omega) (kb _ _ ho) hd fn.hco fn.hgen fn.hbody (fn.hcd.keeps kb) (hb s ws kb hr.length _ _ _ _ ?_))
  rw [fn.hgl, fn.hcl, fn.hbn]
  refine wpAny_with_toks (n := s.toks) (Nat.le_refl _) (wpAny_newFunctionEnv_cells fn.hk (fun x hx => ?_) fun env' he s' x htk => ?_)
  · rcases hps x hx with h | h
    · exact .inl h
    · exact .inr ⟨h, cellsFrom_has _ _ _ h⟩
  subst he
  obtain ⟨h₁, tk, rfl, hk₁⟩ := x.done
  refine ⟨hlim.keeps hk₁, codeAny_func ?_⟩
  have okn : (fnCx C.W (C.A.deeper (fnEnv fd.scope s.heap.objs.size a (fd.qualname ++ ".<locals>.") fd.code)) fd.scope s.heap.objs.size a (fd.qualname ++ ".<locals>.") fd.code).Ok n :=
    fnCx_ok ok.W (by exact ok.hh) (by have := ok.hu; show C.A.units + 3 + 3 * n + 100 ≤ 9000; omega) (by have := ok.hd; show C.A.depth + 1 + n + 10 ≤ 900; omega) fn.hk
  obtain ⟨cs, hcs⟩ : ∃ cs, cellsFrom (s.heap.objs.size + 1) fd.scope.names [] = cs := ⟨_, rfl⟩
  have hcs' : (fnEnv fd.scope s.heap.objs.size a (fd.qualname ++ ".<locals>.") fd.code).cells = cs := hcs
  have hcell : ∀ z c, cs.lookup z = some c → h₁.IsCell c (bindC (fnEnv fd.scope s.heap.objs.size a (fd.qualname ++ ".<locals>.") fd.code).kindOf ((ps.map Str.ofString).zip (ws ++ ds)) (fun _ => none) z) := fun z c e => x.cell z c (hcs ▸ e)
  have hab : ∀ z c, (z, c) ∈ cs → s.heap.objs.size < c := fun z c e => x.above z c (hcs ▸ e)
  have hap : cs.Pairwise fun x y => x.2 ≠ y.2 := by have := x.apart; exact hcs ▸ this
  have hns : h₁.Ns s.heap.objs.size (bindL (fnEnv fd.scope s.heap.objs.size a (fd.qualname ++ ".<locals>.") fd.code).kindOf ((ps.map Str.ofString).zip (ws ++ ds)) (fun _ => none)) := x.toInCall.ns
  have hmm : ∀ b ∈ s.heap.objs.size :: cs.filterMap (fun p => cs.lookup p.1), b = s.heap.objs.size ∨ ∃ z, cs.lookup z = some b := by
    intro b hb
    rcases List.mem_cons.mp hb with rfl | hb
    · exact .inl rfl
    · obtain ⟨p, hp, e⟩ := List.mem_filterMap.mp hb
      exact .inr ⟨p.1, e⟩
  have hmine : ∀ b ∈ s.heap.objs.size :: cs.filterMap (fun p => cs.lookup p.1), s.heap.get? b = none := by
    intro b hb
    rcases hmm b hb with rfl | ⟨z, hz⟩
    · exact fresh_size _
    · exact get_ge (Nat.le_of_lt (hab z b (mem_of_lookup hz)))
  have hcm : ∀ z c, cs.lookup z = some c → c ∈ s.heap.objs.size :: cs.filterMap (fun p => cs.lookup p.1) := fun z c e =>
    List.mem_cons_of_mem _ (List.mem_filterMap.mpr ⟨(z, c), mem_of_lookup e, e⟩)
  have le0 : Le (view own T s) (view (own ++ (s.heap.objs.size :: cs.filterMap (fun p => cs.lookup p.1))) T { s with heap := h₁, toks := tk }) := by
    refine ⟨fun b o e => view_mk (fun hm => ?_) (hk₁ b o (view_of e)), fun _ _ e => e⟩
    rcases List.mem_append.mp hm with hm | hm
    · exact view_not e hm
    · have := hmine b hm; rw [view_of e] at this; cases this
  have habs : Abs (fnCx C.W (C.A.deeper (fnEnv fd.scope s.heap.objs.size a (fd.qualname ++ ".<locals>.") fd.code)) fd.scope s.heap.objs.size a (fd.qualname ++ ".<locals>.") fd.code) own
      (s.heap.objs.size :: cs.filterMap (fun p => cs.lookup p.1)) T (mkSt ps (vs ++ dvs)) { s with heap := h₁, toks := tk } := by
    refine ⟨fun b o e => le0.ob b o (hO.base b o e), fun b hb => ?_, fun b hb hF => ?_, hO.tok.mono htk,
      bindL (fnEnv fd.scope s.heap.objs.size a (fd.qualname ++ ".<locals>.") fd.code).kindOf ((ps.map Str.ofString).zip (ws ++ ds)) (fun _ => none), bindC (fnEnv fd.scope s.heap.objs.size a (fd.qualname ++ ".<locals>.") fd.code).kindOf ((ps.map Str.ofString).zip (ws ++ ds)) (fun _ => none), ?_⟩
    · rcases List.mem_append.mp hb with hb | hb
      · obtain ⟨o, ho⟩ := Option.isSome_iff_exists.mp (hO.live b hb)
        show (h₁.get? b).isSome = true
        rw [hk₁ _ _ ho]; rfl
      · rcases hmm b hb with rfl | ⟨z, hz⟩
        · obtain ⟨o, _, _, ho, _⟩ := hns
          show (h₁.get? s.heap.objs.size).isSome = true
          rw [ho]; rfl
        · obtain ⟨o, ho, _⟩ := hcell z b hz
          show (h₁.get? b).isSome = true
          rw [ho]; rfl
    · have := hmine b hb
      have h2 := hO.live b hF
      rw [this] at h2; cases h2
    · refine { ns := hns, cells := fun z c e => hcell z c (hcs' ▸ e), apart := fun z y c e1 e2 => ?_, lc := fun z c e => ?_, has := fun z hz => ?_, lm := List.mem_cons_self, cown := fun z c e => List.mem_append_right _ (hcm z c (hcs' ▸ e)), cmine := fun _ z c e => hcm z c (hcs' ▸ e), slots := ?_, own := ?_, dis := ?_ }
      · exact name_of_addr hap (mem_of_lookup (hcs' ▸ e1)) (mem_of_lookup (hcs' ▸ e2))
      · exact Nat.ne_of_gt (hab z c (mem_of_lookup (hcs' ▸ e)))
      · rcases hz with hz | hz
        · have := cellsFrom_has fd.scope.names (s.heap.objs.size + 1) [] hz
          exact Option.isSome_iff_exists.mp this
        · have hz : fd.scope.names.lookup z = some .free := hz
          have := hnm.2 _ (mem_of_lookup hz)
          simp at this
      · intro z sl hz
        obtain ⟨u, v, rfl, e1, e2⟩ := find_mkSt ps (vs ++ dvs) (ws ++ ds) none z sl hnd (hr.append (hds own T s hO)) hz
        refine ⟨v, .inl ?_, e2.mono le0⟩
        refine (valAt_bind (env := fnEnv fd.scope s.heap.objs.size a (fd.qualname ++ ".<locals>.") fd.code) _ _ _ hps).trans ?_
        have : valAt (fnEnv fd.scope s.heap.objs.size a (fd.qualname ++ ".<locals>.") fd.code) (fun _ => none) (fun _ => none) z = none := by unfold valAt; split <;> rfl
        rw [this]
        exact e1
      · intro z sl b hz ho
        obtain ⟨u, v, rfl, _⟩ := find_mkSt ps (vs ++ dvs) (ws ++ ds) none z sl hnd (hr.append (hds own T s hO)) hz
        cases ho
      · intro z y sl sl' b hz _ ho
        obtain ⟨u, v, rfl, _⟩ := find_mkSt ps (vs ++ dvs) (ws ++ ds) none z sl hnd (hr.append (hds own T s hO)) hz
        cases ho
  refine wpAny_mono (walk _ _ _ _ okn own _ T _ habs) ?_ fun _ _ x => x.elim
  rintro f s2 ⟨fl, σ2, m2, T2, hK, p2, a2, r2⟩
  refine ⟨fl.v, T2, hK, ⟨?_, fun b o e => ?_, fun t l e => p2.le.tk t l e, a2.tok⟩, ?_⟩
  · obtain ⟨h', tk', rfl⟩ := p2.same
    exact ⟨h', tk', rfl⟩
  · by_cases hb : b ∈ own
    · exact (p2.far b hb).trans (hk₁ b o e)
    · exact view_of (p2.le.ob b o (le0.ob b o (view_mk hb e)))
  · have sub : Le (view (own ++ m2) T2 s2) (view own T2 s2) := view_sub fun b hb => List.mem_append_left _ hb
    cases r2 with
    | next => exact .none
    | brk => exact .none
    | cont => exact .none
    | ret r => exact r.mono sub

/-- the usual bindings: a def without defaults, all arguments given by place -/
theorem binds_plain {fd : FuncData} {ps : List String} {n : Nat} (h : ∀ ws : List Value, ws.length = n → bindArgs fd ⟨ws, []⟩ = pure ((ps.map Str.ofString).zip ws)) (s : Shared) (ws : List Value) (hl : ws.length = n) :
    BindsTo s fd ⟨ws, []⟩ ((ps.map Str.ofString).zip (ws ++ [])) := by
  rw [List.append_nil]
  exact .of_eq (h ws hl)

end Sx
end
section
open PySem PySem.W PyProof.Rows PySem.Calls
set_option linter.unusedVariables false
set_option Elab.async false
set_option maxRecDepth 100000
namespace Sx

/-! ## what may be run through -/
noncomputable def seqOf : V → Option (List V)
  | .lst vs => some vs
  | .tup vs => some vs
  | .str l => some (l.map fun c => .str [c])
  | .dct es => some (es.map fun p => p.1.v)
  | .rng a b => some ((List.range (b - a).toNat).map fun (i : Nat) => V.int (a + (i : Int)))
  | .items es => some (es.map fun p => .tup [p.1.v, p.2])
  | _ => none

section
variable {prog : Program} {w : World} {A : Around} {E : Value → Shared → Prop} {s : Shared}

/-- the key iterator hands out the very key of the entry -/
theorem next_key {it d : Addr} {i ep : Nat} {od : Obj} {ds : List DictEntry} {e : DictEntry} {Q : Option Value → Shared → Prop} (hit : s.heap.IsKeyIter it d i ds.length ep)
    (hod : s.heap.get? d = some od) (hdd : od.data = .dict ds.toArray ep) (hx : ds[i]? = some e)
    (hQ : ∀ h', h'.IsKeyIter it d (i + 1) ds.length ep → Heap.SameBut it s.heap h' → Q (some e.key) { s with heap := h' }) : wpAny (model prog w) A (pyNext (.ref it)) Q E s := by
  have tn : ∀ {A' : Around} {E' : Value → Shared → Prop} {Q' : String → Shared → Prop}, Q' "dict_keyiterator" s → wpAny (model prog w) A' (typeNameOfWhole (.ref it)) Q' E' s := fun h => wpAny_typeNameOfWhole_keyiter hit.typeIs h
  obtain ⟨o, ho, hc, hd⟩ := id hit
  unfold pyNext
  refine wpAny_bind (wpAny_attempt (wpAny_callSpecial?_slot (name := Str.ofString "__next__") hit.typeIs F.slot_dict_keyiterator_next
    (wpAny_call_entry F.slot_dict_keyiterator_next hit.typeIs F.entry_dict_keyiterator_next ?_ (F.args_dict_keyiterator_next_1 _))))
  refine wpAny_bind (wpAny_pure (wpAny_bind (wpAny_bind (wpAny_bind (tn (wpAny_pure (wpAny_bind ?_)))))))
  refine wpAny_fieldsOf ho hd ?_
  rw [show Builtin.Dict_items.ownsTuple "dict_keyiterator" = false from by decide]
  show wpAny _ _ (if (Value.ref d == Value.none) = true then _ else _) _ _ s
  rw [if_neg (show ¬ ((Value.ref d == Value.none) = true) from Bool.false_ne_true)]
  refine wpAny_bind (wpAny_pure (wpAny_bind (wpAny_dictEntries hod hdd ?_)))
  rw [if_neg (by simp)]
  refine wpAny_bind (wpAny_pure (wpAny_bind (wpAny_dictEpoch hod hdd ?_)))
  rw [if_neg (by simp)]
  refine wpAny_pure ?_
  have hx' : (ds.toArray)[i]? = some e := by simpa using hx
  simp only [show ¬ ((i : Int) < 0) from by omega, if_false, Int.toNat_natCast, hx']
  refine wpAny_bind (wpAny_bind (tn (wpAny_pure (wpAny_bind (wpAny_isOneOf_keyiter hit.typeIs ?_)))))
  show wpAny _ _ (setField (.ref it) 1 (rawInt ((i : Int) + 1)) >>= _) _ _ s
  refine wpAny_bind (wpAny_setField ho hd (by simp) ?_)
  have hit' : (s.heap.update it (Obj.mapFields (·.setIfInBounds 1 (rawInt ((i : Int) + 1))))).IsKeyIter it d (i + 1) ds.length ep :=
    ⟨_, Heap.get?_update_self _ ho (Obj.isFreed_of_fields (Obj.data_mapFields hd _)), (Obj.cls_mapFields ..).trans hc, by rw [Obj.data_mapFields hd]; simp [rawInt]⟩
  refine wpAny_bind (wpAny_holding (wpAny_bind (wpAny_isOneOf_keyiter (s := { s with heap := s.heap.update it (Obj.mapFields (·.setIfInBounds 1 (rawInt ((i : Int) + 1)))) }) hit'.typeIs ?_)))
  show wpAny _ _ (pure e.key) _ _ _
  exact wpAny_pure (wpAny_pure ⟨_, rfl, wpAny_pure (hQ _ hit' (Heap.SameBut.update ..))⟩)

/-- the items' iterator hands out a new pair of the very key and value -/
theorem next_item {it d : Addr} {i ep : Nat} {ok ov : Value} {od : Obj} {ds : List DictEntry} {e : DictEntry} {Q : Option Value → Shared → Prop} (hit : IsItemIter s.heap it d i ds.length ep ok ov)
    (hod : s.heap.get? d = some od) (hdd : od.data = .dict ds.toArray ep) (hx : ds[i]? = some e)
    (hQ : ∀ h', IsItemIterOut h' it d (i + 1) ds.length ep e.key e.val s.heap.objs.size → h'.get? s.heap.objs.size = some { cls := .type "tuple", data := .seq #[e.key, e.val] } →
      (∀ b o, b ≠ it → s.heap.get? b = some o → h'.get? b = some o) → Q (some (.ref s.heap.objs.size)) { s with heap := h' }) : wpAny (model prog w) A (pyNext (.ref it)) Q E s := by
  have hT : s.TypeIs (.ref it) "dict_itemiterator" := ⟨_, hit, rfl⟩
  have tn : ∀ {A' : Around} {E' : Value → Shared → Prop} {Q' : String → Shared → Prop}, Q' "dict_itemiterator" s → wpAny (model prog w) A' (typeNameOfWhole (.ref it)) Q' E' s := fun h => wpAny_typeNameOfWhole_itemiter hT h
  unfold pyNext
  refine wpAny_bind (wpAny_attempt (wpAny_callSpecial?_slot (name := Str.ofString "__next__") hT F.slot_dict_itemiterator_next
    (wpAny_call_entry F.slot_dict_itemiterator_next hT F.entry_dict_itemiterator_next ?_ (F.args_dict_itemiterator_next_1 _))))
  refine wpAny_bind (wpAny_pure (wpAny_bind (wpAny_bind (wpAny_bind (tn (wpAny_pure (wpAny_bind ?_)))))))
  refine wpAny_fieldsOf hit rfl ?_
  rw [show Builtin.Dict_items.ownsTuple "dict_itemiterator" = true from by decide]
  show wpAny _ _ (if (Value.ref d == Value.none) = true then _ else _) _ _ s
  rw [if_neg (show ¬ ((Value.ref d == Value.none) = true) from Bool.false_ne_true)]
  refine wpAny_bind (wpAny_pure (wpAny_bind (wpAny_dictEntries hod hdd ?_)))
  rw [if_neg (by simp)]
  refine wpAny_bind (wpAny_pure (wpAny_bind (wpAny_dictEpoch hod hdd ?_)))
  rw [if_neg (by simp)]
  refine wpAny_pure ?_
  have hx' : (ds.toArray)[i]? = some e := by simpa using hx
  simp only [show ¬ ((i : Int) < 0) from by omega, if_false, Int.toNat_natCast, hx']
  refine wpAny_bind (wpAny_bind (tn (wpAny_pure (wpAny_bind (wpAny_isOneOf_itemiter hT ?_)))))
  show wpAny _ _ (setField (.ref it) 3 (rawInt ((i : Int) + 1)) >>= _) _ _ s
  have hil : it < s.heap.objs.size := Heap.lt_size hit
  refine wpAny_bind (wpAny_setField_rec hit (by simp) fun h₁ he₁ hs₁ => ?_)
  replace he₁ : IsItemIter h₁ it d (i + 1) ds.length ep ok ov := by
    have e : ((i + 1 : Nat) : Int) = (i : Int) + 1 := by omega
    unfold IsItemIter; rw [e]; simpa [rawInt] using he₁
  have hT₁ : Shared.TypeIs { s with heap := h₁ } (.ref it) "dict_itemiterator" := ⟨_, he₁, rfl⟩
  refine wpAny_bind (wpAny_holding (wpAny_bind (wpAny_isOneOf_itemiter hT₁ (wpAny_bind (wpAny_isOneOf_itemiter hT₁ ?_)))))
  show wpAny _ _ (Builtin.Dict_items.pairFromOwner (.ref it) 6 e.key e.val) _ _ { s with heap := h₁ }
  have hz : h₁.objs.size = s.heap.objs.size := hs₁.1
  refine wpAny_bind (wpAny_newTuple ?_)
  have he₂ : IsItemIter (h₁.push { cls := .type "tuple", data := .seq #[e.key, e.val] }) it d (i + 1) ds.length ep ok ov := Heap.get?_push_of_some _ he₁
  obtain ⟨h₂, hh₂⟩ : ∃ h₂, h₁.push { cls := .type "tuple", data := .seq #[e.key, e.val] } = h₂ := ⟨_, rfl⟩
  have ht₂ : h₂.get? s.heap.objs.size = some { cls := .type "tuple", data := .seq #[e.key, e.val] } := by rw [← hh₂, ← hz]; exact Heap.get?_push_size _ rfl
  have hk₂ : ∀ b o, b ≠ it → s.heap.get? b = some o → h₂.get? b = some o := fun b o hb e => by rw [← hh₂]; exact Heap.get?_push_of_some _ (hs₁.extBut b o hb e)
  rw [hh₂] at he₂
  show wpAny _ _ (Builtin.Dict_items.ownedTupleIsFree (.ref it) >>= _) _ _ { s with heap := h₁.push { cls := .type "tuple", data := .seq #[e.key, e.val] } }
  rw [hh₂, hz]
  refine wpAny_bind (wpAny_bind (wpAny_field he₂ rfl (x := .none) rfl (wpAny_pure ?_)))
  rw [if_pos rfl]
  refine wpAny_bind (wpAny_field he₂ rfl (x := ok) rfl (wpAny_bind (wpAny_field he₂ rfl (x := ov) rfl ?_)))
  refine wpAny_bind (wpAny_setField_rec he₂ (by simp) fun h₃ he₃ hs₃ => ?_)
  refine wpAny_bind (wpAny_setField_rec he₃ (by simp) fun h₄ he₄ hs₄ => ?_)
  refine wpAny_bind (wpAny_setField_rec he₄ (by simp) fun h₅ he₅ hs₅ => ?_)
  refine wpAny_bind (wpAny_setField_rec he₅ (by simp) fun h₆ he₆ hs₆ => ?_)
  have up : ∀ b o, b ≠ it → h₂.get? b = some o → h₆.get? b = some o := fun b o hb e => hs₆.extBut b o hb (hs₅.extBut b o hb (hs₄.extBut b o hb (hs₃.extBut b o hb e)))
  exact wpAny_bind (wpAny_letGo (wpAny_pure (wpAny_pure ⟨_, rfl, wpAny_pure (hQ h₆ he₆ (up _ _ (Nat.ne_of_gt hil) ht₂) fun b o hb e => up b o hb (hk₂ b o hb e))⟩)))

theorem letGo_plain {target : Expr} {I : Addr} {v : Value} {o : Obj} {n : String} {Q : Unit → Shared → Prop} (ho : s.heap.get? I = some o) (hc : o.cls = .type n)
    (hn : ["enumerate", "zip", "dict_itemiterator", "dict_reverseitemiterator", "odict_iterator", "itertools.zip_longest", "itertools.pairwise"].contains n = false) (h : Q () s) : wpAny (model prog w) A (letOwnedTupleGo target (.ref I) v) Q E s := by
  have core : ∀ a, wpAny (model prog w) A (do
      let o ← load I
      match o.cls, o.data with
      | .type n, .fields vs =>
        if (["enumerate", "zip", "dict_itemiterator", "dict_reverseitemiterator", "odict_iterator", "itertools.zip_longest", "itertools.pairwise"].contains n && vs[0]? == some (rawInt a)) = true then do
          rule "for.unpacks-the-owned-tuple"
          updateField I 0 .none
        else pure ()
      | _, _ => pure ()) Q E s := by
    intro a
    refine wpAny_bind (wpAny_load ho ?_)
    rw [hc]
    cases o.data with
    | fields vs =>
      show wpAny _ _ (if (["enumerate", "zip", "dict_itemiterator", "dict_reverseitemiterator", "odict_iterator", "itertools.zip_longest", "itertools.pairwise"].contains n && vs[0]? == some (rawInt a)) = true then _ else _) _ _ _
      rw [hn, Bool.false_and, if_neg Bool.false_ne_true]
      exact wpAny_pure h
    | _ => exact wpAny_pure h
  unfold letOwnedTupleGo
  cases target with
  | Tuple es k p =>
    cases v with
    | ref a => exact core a
    | _ => exact wpAny_pure h
  | List es p =>
    cases v with
    | ref a => exact core a
    | _ => exact wpAny_pure h
  | _ => exact wpAny_pure h
end

/-- an iterator at I over what stands for the items xs -/
structure Itr (W : Wd) (A : Around) (target : Expr) (I : Addr) (g0 : PH) (xs : List V) (fp : List Addr) (St : Nat → Heap → Prop) (Mid : Nat → Value → Heap → Prop) : Prop where
  self : I ∈ fp
  live : ∀ i h, St i h → (h.get? I).isSome = true
  frame : ∀ i h h', St i h → (∀ b ∈ fp, ∀ o, h.get? b = some o → h'.get? b = some o) → St i h'
  item : ∀ i x own T (s : Shared) (Q : Option Value → Shared → Prop) (E : Value → Shared → Prop), xs[i]? = some x → St i s.heap → I ∈ own → TOk T s.toks → (∀ a ∈ own, (s.heap.get? a).isSome = true) → Le g0 (view own T s) →
    (∀ v h' tk T', s.toks ≤ tk → Mid i v h' → (∀ b o, b ≠ I → s.heap.get? b = some o → h'.get? b = some o) → TLe T T' → TOk T' tk → (∀ T'' s'', TLe T' T'' → (∀ b o, b ∉ own → h'.get? b = some o → s''.heap.get? b = some o) → Rep W (view own T'' s'') x v) → Q (some v) { s with heap := h', toks := tk }) →
    wpAny (model W.prog W.w) A (pyNext (.ref I)) Q E s
  go : ∀ i v (s : Shared) (Q : Unit → Shared → Prop) (E : Value → Shared → Prop), Mid i v s.heap → (∀ h', St (i + 1) h' → (∀ b o, b ≠ I → s.heap.get? b = some o → h'.get? b = some o) → Q () { s with heap := h' }) →
    wpAny (model W.prog W.w) A (letOwnedTupleGo target (.ref I) v) Q E s
  iter : ∀ i (s : Shared) (Q : Value → Shared → Prop) (E : Value → Shared → Prop), St i s.heap → Q (.ref I) s → wpAny (model W.prog W.w) A (pyIter (.ref I)) Q E s
  done : ∀ (s : Shared) (Q : Option Value → Shared → Prop) (E : Value → Shared → Prop), St xs.length s.heap → (∀ h', (∀ b o, b ≠ I → s.heap.get? b = some o → h'.get? b = some o) → Q none { s with heap := h' }) →
    wpAny (model W.prog W.w) A (pyNext (.ref I)) Q E s

noncomputable def isPair : Expr → Bool
  | .Tuple _ _ _ => true
  | _ => false

section
variable {W : Wd} {A : Around} {target : Expr} {E : Value → Shared → Prop}

theorem itr_list {own : List Addr} {T : TM} {s : Shared} {vs : List V} {v : Value} (hh : A.handled = none) (hr : Rep W (view own T s) (.lst vs) v) {Q : Value → Shared → Prop}
    (hQ : ∀ I h' fp St Mid, s.heap.get? I = none → (∀ b o, s.heap.get? b = some o → h'.get? b = some o) → Itr W A target I (view own T s) vs fp St Mid → St 0 h' → (∀ b ∈ fp, b ≠ I → ∃ o, (view own T s).ob b = some o) → Q (.ref I) { s with heap := h' }) :
    wpAny (model W.prog W.w) A (pyIter v) Q E s := by
  cases hr with
  | @lst a o _ ws n h1 h2 h3 h4 r =>
    have hl : s.heap.IsList a ws.toArray := ⟨o, view_of h1, h2, n, h4⟩
    have hne : a ≠ s.heap.objs.size := Nat.ne_of_lt (Heap.lt_size (view_of h1))
    refine wpAny_pyIter_list hl (hQ s.heap.objs.size _ [s.heap.objs.size, a] (fun i h => h.IsListIter s.heap.objs.size a i ∧ h.IsList a ws.toArray) (fun i _ h => h.IsListIter s.heap.objs.size a (i + 1) ∧ h.IsList a ws.toArray)
      (fresh_size _) (fun b o e => Heap.get?_push_of_some _ e) ?_ ⟨⟨_, Heap.get?_push_size _ rfl, rfl, rfl⟩, hl.push _⟩ ?_)
    · refine { self := by simp, live := fun i h st => let ⟨o, ho, _⟩ := st.1; by rw [ho]; rfl, frame := fun i h h' st k => ⟨st.1.at fun o e => k _ (by simp) o e, st.2.at fun o e => k _ (by simp) o e⟩, item := ?_, go := ?_, iter := fun i s' Q' E' st h => wpAny_pyIter_listiter st.1 h, done := ?_ }
      · intro i x own' T' s' Q' E' hx st hI ht hlv hle hQ'
        obtain ⟨w, hw, hxw⟩ := r.get hx
        refine wpAny_pyNext_list_item st.1 st.2 (x := w) (by simpa using hw) fun h' hit' hs' => ?_
        refine hQ' w h' s'.toks T' (Nat.le_refl _) ⟨hit', st.2.extBut hs'.extBut hne⟩ (fun b o hb e => hs'.extBut b o hb e) (fun _ _ e => e) ht fun T'' s'' hT k => ?_
        refine hxw.mono (hle.trans ⟨fun b o e => view_mk (view_not e) (k b o (view_not e) (hs'.extBut b o (fun q => view_not e (q ▸ hI)) (view_of e))), hT⟩)
      · intro i v s' Q' E' hm hQ'
        obtain ⟨o, ho, hc, hd⟩ := id hm.1
        exact letGo_plain ho hc (by decide) (hQ' s'.heap hm fun _ _ _ e => e)
      · intro s' Q' E' st hQ'
        exact wpAny_pyNext_list_end hh st.1 st.2 (by simp [r.length]) fun h' he' => hQ' h' fun b o hb e => he' b o hb e
    · intro b hb hne
      simp at hb
      rcases hb with rfl | rfl
      · exact absurd rfl hne
      · exact ⟨o, h1⟩

theorem itr_str {own : List Addr} {T : TM} {s : Shared} {l : S} {v : Value} (hh : A.handled = none) (hr : Rep W (view own T s) (.str l) v) {Q : Value → Shared → Prop}
    (hQ : ∀ I h' fp St Mid, s.heap.get? I = none → (∀ b o, s.heap.get? b = some o → h'.get? b = some o) → Itr W A target I (view own T s) (l.map fun c => V.str [c]) fp St Mid → St 0 h' → (∀ b ∈ fp, b ≠ I → ∃ o, (view own T s).ob b = some o) → (I = s.heap.objs.size ∧ fp = [I] ∧ (∀ i v h, Mid i v h → St (i + 1) h) ∧ ∃ ty, (ty = "str_ascii_iterator" ∨ ty = "str_iterator") ∧ ∀ i h, St i h → ∃ o, h.get? I = some o ∧ o.cls = .type ty) → Q (.ref I) { s with heap := h' }) :
    wpAny (model W.prog W.w) A (pyIter v) Q E s := by
  cases hr with
  | @str _ t htk =>
    have go : ∀ (ty : String), ["enumerate", "zip", "dict_itemiterator", "dict_reverseitemiterator", "odict_iterator", "itertools.zip_longest", "itertools.pairwise"].contains ty = false →
        (∀ {A : Around} {E : Value → Shared → Prop} {s : Shared} {it : Addr} {i c : Nat} {Q : Option Value → Shared → Prop}, s.heap.IsStrIter it ty (mkS l) t i → (mkS l).cps[i]? = some c →
          (∀ h', h'.IsStrIter it ty (mkS l) t (i + 1) → Heap.SameBut it s.heap h' → Q (some (.str ⟨#[c]⟩ s.toks)) { s with heap := h', toks := s.toks + 1 }) → wpAny (model W.prog W.w) A (pyNext (.ref it)) Q E s) →
        (∀ {A : Around} {E : Value → Shared → Prop} {s : Shared} {it : Addr} {i : Nat} {Q : Value → Shared → Prop}, s.heap.IsStrIter it ty (mkS l) t i → Q (.ref it) s → wpAny (model W.prog W.w) A (pyIter (.ref it)) Q E s) →
        (∀ {A : Around} {E : Value → Shared → Prop} {s : Shared} {it : Addr} {i : Nat} {Q : Option Value → Shared → Prop}, A.handled = none → s.heap.IsStrIter it ty (mkS l) t i → (mkS l).cps[i]? = none →
          (∀ h', Heap.ExtBut it s.heap h' → Q none { s with heap := h' }) → wpAny (model W.prog W.w) A (pyNext (.ref it)) Q E s) →
        ∀ I, Itr W A target I (view own T s) (l.map fun c => V.str [c]) [I] (fun i h => h.IsStrIter I ty (mkS l) t i) (fun i _ h => h.IsStrIter I ty (mkS l) t (i + 1)) := by
      intro ty hty hitem hiter hdone I
      refine { self := by simp, live := fun i h st => let ⟨o, ho, _⟩ := st; by rw [ho]; rfl, frame := fun i h h' st k => let ⟨o, ho, r⟩ := st; ⟨o, k _ (by simp) o ho, r⟩, item := ?_, go := ?_, iter := fun i s' Q' E' st h => hiter st h, done := ?_ }
      · intro i x own' T' s' Q' E' hx st hI ht hlv hle hQ'
        rw [List.getElem?_map] at hx
        obtain ⟨c, hc, rfl⟩ := Option.map_eq_some_iff.mp hx
        refine hitem st (c := c) (by simpa [mkS] using hc) fun h' hit' hs' => ?_
        refine hQ' _ h' (s'.toks + 1) (T'.upd s'.toks [c]) (Nat.le_succ _) hit' (fun b o hb e => hs'.extBut b o hb e) (ht.updLe _) (ht.upd _) fun T'' s'' hT k => ?_
        exact .str (hT _ _ TM.upd_self)
      · intro i v s' Q' E' hm hQ'
        obtain ⟨o, ho, hc, hd⟩ := id hm
        exact letGo_plain ho hc hty (hQ' s'.heap hm fun _ _ _ e => e)
      · intro s' Q' E' st hQ'
        exact hdone hh st (by simp [mkS]) fun h' he' => hQ' h' fun b o hb e => he' b o hb e
    have fin : ∀ b ∈ [s.heap.objs.size], b ≠ s.heap.objs.size → ∃ o, (view own T s).ob b = some o := fun b hb hne => absurd (by simpa using hb) hne
    cases ha : (mkS l).cps.all (· < 128) with
    | false => exact wpAny_pyIter_wide ha (hQ _ _ _ _ _ (fresh_size _) (fun b o e => Heap.get?_push_of_some _ e) (go "str_iterator" (by decide) (fun st hx h => wpAny_pyNext_wide_item st hx h) (fun st h => wpAny_pyIter_striter_wide st h) (fun hh st hx h => wpAny_pyNext_wide_end hh st hx h) _) ⟨_, Heap.get?_push_size _ rfl, rfl, rfl⟩ fin ⟨rfl, rfl, fun _ _ _ h => h, _, .inr rfl, fun i h st => let ⟨o, ho, hc, _⟩ := st; ⟨o, ho, hc⟩⟩)
    | true => exact wpAny_pyIter_ascii ha (hQ _ _ _ _ _ (fresh_size _) (fun b o e => Heap.get?_push_of_some _ e) (go "str_ascii_iterator" (by decide) (fun st hx h => wpAny_pyNext_ascii_item st hx h) (fun st h => wpAny_pyIter_striter_ascii st h) (fun hh st hx h => wpAny_pyNext_ascii_end hh st hx h) _) ⟨_, Heap.get?_push_size _ rfl, rfl, rfl⟩ fin ⟨rfl, rfl, fun _ _ _ h => h, _, .inl rfl, fun i h st => let ⟨o, ho, hc, _⟩ := st; ⟨o, ho, hc⟩⟩)

theorem itr_rng {own : List Addr} {T : TM} {s : Shared} {a b : Int} {v : Value} (hh : A.handled = none) (hsm : Builtin.Range.small a b 1 = true) (hr : Rep W (view own T s) (.rng a b) v) {Q : Value → Shared → Prop}
    (hQ : ∀ I h' fp St Mid, s.heap.get? I = none → (∀ b o, s.heap.get? b = some o → h'.get? b = some o) → Itr W A target I (view own T s) ((List.range (b - a).toNat).map fun (i : Nat) => V.int (a + (i : Int))) fp St Mid → St 0 h' → (∀ b ∈ fp, b ≠ I → ∃ o, (view own T s).ob b = some o) → Q (.ref I) { s with heap := h' }) :
    wpAny (model W.prog W.w) A (pyIter v) Q E s := by
  cases hr with
  | @rng r _ _ t u v' h1 =>
    have hsz : Builtin.Range.rangeSize a b 1 = ((b - a).toNat : Int) := by
      unfold Builtin.Range.rangeSize
      rw [if_pos (by decide)]
      by_cases h : a < b
      · rw [if_pos h, Int.ediv_one]; omega
      · rw [if_neg h]; omega
    refine wpAny_pyIter_range (view_of h1) hsm ?_
    rw [hsz]
    refine hQ s.heap.objs.size _ [s.heap.objs.size] (fun i h => IsRangeIter h s.heap.objs.size (a + (i : Nat)) (((b - a).toNat : Int) - (i : Nat)) 1) (fun i _ h => IsRangeIter h s.heap.objs.size (a + ((i + 1 : Nat) : Int)) (((b - a).toNat : Int) - ((i + 1 : Nat) : Int)) 1)
      (fresh_size _) (fun b o e => Heap.get?_push_of_some _ e) ?_ (by
        have e1 : a + ((0 : Nat) : Int) = a := by omega
        have e2 : ((b - a).toNat : Int) - ((0 : Nat) : Int) = ((b - a).toNat : Int) := by omega
        rw [e1, e2]; exact Heap.get?_push_size _ rfl) (fun b hb hne => absurd (by simpa using hb) hne)
    refine { self := by simp, live := fun i h st => by rw [st]; rfl, frame := fun i h h' st k => k _ (by simp) _ st, item := ?_, go := ?_, iter := fun i s' Q' E' st h => wpAny_pyIter_rangeiter st h, done := ?_ }
    · intro i x own' T' s' Q' E' hx st hI ht hlv hle hQ'
      have hi := (List.getElem?_eq_some_iff.mp hx).1
      rw [List.length_map, List.length_range] at hi
      rw [List.getElem?_map, List.getElem?_range hi] at hx
      cases hx
      obtain ⟨c, rfl⟩ : ∃ c, c = i := ⟨i, rfl⟩
      refine wpAny_pyNext_range_item st (by omega) fun h' hit' hs' => ?_
      refine hQ' _ h' (s'.toks + 1) T' (Nat.le_succ _) ?_ (fun b o hb e => hs'.extBut b o hb e) (fun _ _ e => e) (ht.mono (Nat.le_succ _)) fun T'' s'' hT k => .int _ _
      have e1 : a + (c : Int) + 1 = a + ((c + 1 : Nat) : Int) := by omega
      have e2 : (((b - a).toNat : Int) - (c : Int)) - 1 = ((b - a).toNat : Int) - ((c + 1 : Nat) : Int) := by omega
      rw [← e1, ← e2]; exact hit'
    · intro i v s' Q' E' hm hQ'
      exact letGo_plain hm rfl (by decide) (hQ' s'.heap hm fun _ _ _ e => e)
    · intro s' Q' E' st hQ'
      exact wpAny_pyNext_range_end hh st (by simp) fun h' he' => hQ' h' fun b o hb e => he' b o hb e

theorem itr_keys {own : List Addr} {T : TM} {s : Shared} {es : List (Key × V)} {v : Value} (hh : A.handled = none) (hr : Rep W (view own T s) (.dct es) v) {Q : Value → Shared → Prop}
    (hQ : ∀ I h' fp St Mid, s.heap.get? I = none → (∀ b o, s.heap.get? b = some o → h'.get? b = some o) → Itr W A target I (view own T s) (es.map fun p => p.1.v) fp St Mid → St 0 h' → (∀ b ∈ fp, b ≠ I → ∃ o, (view own T s).ob b = some o) → Q (.ref I) { s with heap := h' }) :
    wpAny (model W.prog W.w) A (pyIter v) Q E s := by
  cases hr with
  | @dct a o _ ds kvs n h1 h0 h2 h3 r hn =>
    have hl := r.dictAt (view_of h1) h2 h3 hn
    have hne : a ≠ s.heap.objs.size := Nat.ne_of_lt (Heap.lt_size (view_of h1))
    have hlen := r.length
    have hkl : kvs.length = ds.length := by rw [hlen.1, hlen.2]
    refine wpAny_pyIter_dict h0 hl ?_
    rw [hkl]
    refine hQ s.heap.objs.size _ [s.heap.objs.size, a] (fun i h => h.IsKeyIter s.heap.objs.size a i ds.length n ∧ h.get? a = some o) (fun i _ h => h.IsKeyIter s.heap.objs.size a (i + 1) ds.length n ∧ h.get? a = some o)
      (fresh_size _) (fun b o e => Heap.get?_push_of_some _ e) ?_ ⟨⟨_, Heap.get?_push_size _ rfl, rfl, rfl⟩, Heap.get?_push_of_some _ (view_of h1)⟩ ?_
    · refine { self := by simp, live := fun i h st => let ⟨o, ho, _⟩ := st.1; by rw [ho]; rfl, frame := fun i h h' st k => ⟨st.1.at fun o e => k _ (by simp) o e, k _ (by simp) _ st.2⟩, item := ?_, go := ?_, iter := fun i s' Q' E' st h => wpAny_pyIter_keyiter st.1 h, done := ?_ }
      · intro i x own' T' s' Q' E' hx st hI ht hlv hle hQ'
        rw [List.getElem?_map] at hx
        obtain ⟨⟨k, u⟩, hc, rfl⟩ := Option.map_eq_some_iff.mp hx
        obtain ⟨d, e1, e2, e3, e4⟩ := r.get hc
        refine next_key st.1 st.2 h3 e1 fun h' hit' hs' => ?_
        refine hQ' _ h' s'.toks T' (Nat.le_refl _) ⟨hit', (hs'.2 a hne).trans st.2⟩ (fun b o hb e => hs'.extBut b o hb e) (fun _ _ e => e) ht fun T'' s'' hT k => ?_
        exact e3.mono (hle.trans ⟨fun b o e => view_mk (view_not e) (k b o (view_not e) (hs'.extBut b o (fun q => view_not e (q ▸ hI)) (view_of e))), hT⟩)
      · intro i v s' Q' E' hm hQ'
        obtain ⟨o, ho, hc, hd⟩ := id hm.1
        exact letGo_plain ho hc (by decide) (hQ' s'.heap hm fun _ _ _ e => e)
      · intro s' Q' E' st hQ'
        have hl' := r.dictAt (h := s'.heap) st.2 h2 h3 hn
        have h4 := st.1
        rw [← hkl] at h4
        exact wpAny_pyNext_dict_end hh h4 hl' (by rw [List.length_map]; exact List.getElem?_eq_none (by omega)) fun h' he' => hQ' h' fun b o hb e => he' b o hb e
    · intro b hb hne
      simp at hb
      rcases hb with rfl | rfl
      · exact absurd rfl hne
      · exact ⟨o, h1⟩

theorem itr_items {own : List Addr} {T : TM} {s : Shared} {es : List (Key × V)} {v : Value} (hh : A.handled = none) (htg : isPair target = true) (hr : Rep W (view own T s) (.items es) v) {Q : Value → Shared → Prop}
    (hQ : ∀ I h' fp St Mid, s.heap.get? I = none → (∀ b o, s.heap.get? b = some o → h'.get? b = some o) → Itr W A target I (view own T s) (es.map fun p => V.tup [p.1.v, p.2]) fp St Mid → St 0 h' → (∀ b ∈ fp, b ≠ I → ∃ o, (view own T s).ob b = some o) → Q (.ref I) { s with heap := h' }) :
    wpAny (model W.prog W.w) A (pyIter v) Q E s := by
  cases hr with
  | @itm vw a ov _ hv1 hv2 hv3 hrd =>
   cases hrd with
   | @dct _ o _ ds kvs n h1 h0 h2 h3 r hn =>
    have hl := r.dictAt (view_of h1) h2 h3 hn
    have hne : a ≠ s.heap.objs.size := Nat.ne_of_lt (Heap.lt_size (view_of h1))
    have hlen := r.length
    have hkl : kvs.length = ds.length := by rw [hlen.1, hlen.2]
    refine wpAny_pyIter_items ⟨ov, view_of hv1, hv2, hv3⟩ hl ?_
    rw [hkl]
    refine hQ s.heap.objs.size _ [s.heap.objs.size, a] (fun i h => (∃ ok ov, IsItemIter h s.heap.objs.size a i ds.length n ok ov) ∧ h.get? a = some o)
      (fun i v h => (∃ ok ov x, v = .ref x ∧ IsItemIterOut h s.heap.objs.size a (i + 1) ds.length n ok ov x) ∧ h.get? a = some o)
      (fresh_size _) (fun b o e => Heap.get?_push_of_some _ e) ?_ ⟨⟨.none, .none, Heap.get?_push_size _ rfl⟩, Heap.get?_push_of_some _ (view_of h1)⟩ ?_
    · refine { self := by simp, live := fun i h st => let ⟨_, _, ho⟩ := st.1; by rw [ho]; rfl, frame := fun i h h' st k => ⟨let ⟨x, y, ho⟩ := st.1; ⟨x, y, k _ (by simp) _ ho⟩, k _ (by simp) _ st.2⟩, item := ?_, go := ?_, iter := fun i s' Q' E' st h => let ⟨_, _, h1⟩ := st.1; kcp_self h1 h, done := ?_ }
      · intro i x own' T' s' Q' E' hx st hI ht hlv hle hQ'
        rw [List.getElem?_map] at hx
        obtain ⟨⟨k, u⟩, hc, rfl⟩ := Option.map_eq_some_iff.mp hx
        obtain ⟨d, e1, e2, e3, e4⟩ := r.get hc
        obtain ⟨⟨ok, ov', hit⟩, hao⟩ := st
        have hai : a ≠ s.heap.objs.size := hne
        refine next_item hit hao h3 e1 fun h' hit' ht' hk' => ?_
        refine hQ' _ h' s'.toks T' (Nat.le_refl _) ⟨⟨_, _, _, rfl, hit'⟩, hk' a o hne hao⟩ hk' (fun _ _ e => e) ht fun T'' s'' hT k => ?_
        have hle' : Le (view own T s) (view own' T'' s'') := hle.trans ⟨fun b o e => view_mk (view_not e) (k b o (view_not e) (hk' b o (fun q => view_not e (q ▸ hI)) (view_of e))), hT⟩
        have hnew : s'.heap.objs.size ∉ own' := fun hm => by have := hlv _ hm; rw [fresh_size] at this; cases this
        refine .tup (view_mk hnew (k _ _ hnew ht')) rfl (ws := [d.key, d.val]) (n := 0) rfl (.cons (e3.mono hle') (.cons (e4.mono hle') .nil))
      · intro i v s' Q' E' hm hQ'
        obtain ⟨⟨ok, ov', x, rfl, hit⟩, hao⟩ := hm
        cases target with
        | Tuple es k p => exact wpAny_letOwnedTupleGo_items hit fun h' hit' hs' => hQ' h' ⟨⟨_, _, hit'⟩, (hs'.2 a hne).trans hao⟩ fun b o hb e => hs'.extBut b o hb e
        | _ => cases htg
      · intro s' Q' E' st hQ'
        obtain ⟨⟨ok, ov', hit⟩, hao⟩ := st
        have hl' := r.dictAt (h := s'.heap) hao h2 h3 hn
        rw [← hkl] at hit
        exact wpAny_pyNext_items_end hh hit hl' (by rw [List.length_map]; exact List.getElem?_eq_none (by omega)) fun h' he' => hQ' h' fun b o hb e => he' b o hb e
    · intro b hb hne
      simp at hb
      rcases hb with rfl | rfl
      · exact absurd rfl hne
      · exact ⟨o, h1⟩

/-- what the loops ask of a value that is run through -/
noncomputable def RunOk (target : Expr) : V → Prop
  | .rng a b => Builtin.Range.small a b 1 = true
  | .items _ => isPair target = true
  | .tup _ => False
  | _ => True

theorem itr_of {own : List Addr} {T : TM} {s : Shared} {a : V} {xs : List V} {v : Value} (hh : A.handled = none) (hx : seqOf a = some xs) (hok : RunOk target a) (hr : Rep W (view own T s) a v) {Q : Value → Shared → Prop}
    (hQ : ∀ I h' fp St Mid, s.heap.get? I = none → (∀ b o, s.heap.get? b = some o → h'.get? b = some o) → Itr W A target I (view own T s) xs fp St Mid → St 0 h' → (∀ b ∈ fp, b ≠ I → ∃ o, (view own T s).ob b = some o) → Q (.ref I) { s with heap := h' }) :
    wpAny (model W.prog W.w) A (pyIter v) Q E s := by
  cases a with
  | lst vs => cases hx; exact itr_list hh hr hQ
  | str l => cases hx; exact itr_str hh hr fun I h' fp St Mid x1 x2 x3 x4 x5 _ => hQ I h' fp St Mid x1 x2 x3 x4 x5
  | dct es => cases hx; exact itr_keys hh hr hQ
  | rng a b => cases hx; exact itr_rng hh hok hr hQ
  | items es => cases hx; exact itr_items hh hok hr hQ
  | tup vs => exact hok.elim
  | _ => cases hx
end

end Sx
end
section
open PySem PySem.W PyProof.Rows PySem.Calls
set_option linter.unusedVariables false
set_option Elab.async false
set_option maxRecDepth 100000
namespace Sx

/-- binding a target to a value -/
noncomputable def Asg (C : Cx) (σ : St) (target : Expr) (x : V) (Q : St → Prop) : Prop :=
  ∀ F mine T s v, Abs C F mine T σ s → Rep C.W (view (F ++ mine) T s) x v → wpAny C.M C.A (assign target C.env v) (fun _ s' => ∃ σ' mine' T', Q σ' ∧ Post F mine T s mine' T' s' ∧ Abs C F mine' T' σ' s') C.X s
noncomputable def AsgL (C : Cx) (σ : St) (ts : List Expr) (xs : List V) (Q : St → Prop) : Prop :=
  ∀ F mine T s vs, Abs C F mine T σ s → RepL C.W (view (F ++ mine) T s) xs vs → wpAny C.M C.A (assignInOrder ((assignEach ts C.env).map (·.2)) vs) (fun _ s' => ∃ σ' mine' T', Q σ' ∧ Post F mine T s mine' T' s' ∧ Abs C F mine' T' σ' s') C.X s

section
variable {C : Cx} {σ : St}

theorem asg_name {n : Nat} (ok : C.Ok n) {x : String} {p : Pos} {u : V} {Q : St → Prop} (hx : isHere C (Str.ofString x) = true) (h : Q (put σ (Str.ofString x) x (.val u))) : Asg C σ (.Name (Str.ofString x) p) u Q := by
  intro F mine T s v hA hr
  exact wpAny_assign_Name (store_val ok hA hx hr fun s' p' a' => ⟨_, mine, T, h, p', a'⟩)

theorem asgL_nil {Q : St → Prop} (h : Q σ) : AsgL C σ [] [] Q := fun F mine T s vs hA hr => by
  cases hr
  exact wpAny_assignInOrder_none ⟨σ, mine, T, h, .refl _ _ _ _, hA⟩
theorem asgL_cons {t : Expr} {ts : List Expr} {x : V} {xs : List V} {Q : St → Prop} (h : Asg C σ t x (fun σ1 => AsgL C σ1 ts xs Q)) (ht : assignEach (t :: ts) C.env = (false, assign t C.env) :: assignEach ts C.env := by rfl) : AsgL C σ (t :: ts) (x :: xs) Q := by
  intro F mine T s vs hA hr
  cases hr with
  | @cons _ v _ vs hv hr =>
    rw [ht]
    refine wpAny_assignInOrder_more (wpAny_mono (h F mine T s v hA hv) ?_ fun _ _ x => x)
    rintro _ s1 ⟨σ1, m1, T1, q, p1, a1⟩
    refine wpAny_mono (q F m1 T1 s1 vs a1 (hr.mono p1.le)) ?_ fun _ _ x => x
    rintro _ s2 ⟨σ2, m2, T2, q2, p2, a2⟩
    exact ⟨σ2, m2, T2, q2, p1.trans p2, a2⟩

theorem asg_tuple {n : Nat} (ok : C.Ok n) {ts : List Expr} {k : Nat} {p : Pos} {xs : List V} {Q : St → Prop} (h : AsgL C σ ts xs Q) (hn : (assignEach ts C.env).length = xs.length) (hstar : (assignEach ts C.env).findIdx? (·.1) = none) : Asg C σ (.Tuple ts k p) (.tup xs) Q := by
  intro F mine T s v hA hr
  cases hr with
  | @tup a o _ ws n h1 h2 h3 r =>
    refine wpAny_assign_Tuple ok.hh (t := a) (items := ws.toArray) ⟨o, view_of h1, h2, n, h3⟩ (by rw [hn, List.size_toArray, r.length]) hstar fun h' he => ?_
    have hk : Kp T s T { s with heap := h' } := Kp.at (tk := s.toks) hA.tok (fun b o e => he b o (Nat.ne_of_lt (Heap.lt_size e)) e) (Nat.le_refl _)
    refine wpAny_mono (h F mine T { s with heap := h' } ws (hA.keeps hk) (r.mono hk.view)) ?_ fun _ _ x => x
    rintro _ s2 ⟨σ2, m2, T2, q2, p2, a2⟩
    exact ⟨σ2, m2, T2, q2, (hk.post hA.live).trans p2, a2⟩

/-! ## for -/
noncomputable def Loop (C : Cx) (target : Expr) (body orelse : List Stmt) (Q : Fl → St → Prop) : List V → St → Prop
  | [], σ => Exs C σ orelse Q
  | x :: xs, σ => Asg C σ target x (fun σ1 => Exs C σ1 body (fun fl σ2 => match fl with
      | .next => Loop C target body orelse Q xs σ2
      | .cont => Loop C target body orelse Q xs σ2
      | .brk => Q .next σ2
      | .ret v => Q (.ret v) σ2))

/-- a frame more (or less) of what is somebody else's -/
theorem Abs.other {F F' mine : List Addr} {T T' : TM} {s s' : Shared} (hA : Abs C F mine T σ s) (le : Le (view (F ++ mine) T s) (view (F' ++ mine) T' s')) (hm : ∀ b o, b ∈ mine → s.heap.get? b = some o → s'.heap.get? b = some o)
    (hc : ∀ x c, C.env.cells.lookup x = some c → c ∈ F' ++ mine ∧ ∀ o, s.heap.get? c = some o → s'.heap.get? c = some o) (hl : ∀ b ∈ F' ++ mine, (s'.heap.get? b).isSome = true) (hn : ∀ b ∈ mine, b ∉ F') (ht : TOk T' s'.toks) : Abs C F' mine T' σ s' := by
  obtain ⟨m, cm, f⟩ := hA.frm
  refine ⟨fun b o e => le.ob b o (hA.base b o e), hl, hn, ht, m, cm, ?_⟩
  refine { ns := f.ns.at' fun o e => hm _ o f.lm e, cells := fun x c e => ?_, apart := f.apart, lc := f.lc, has := f.has, lm := f.lm, cown := fun x c e => (hc x c e).1, cmine := f.cmine, slots := fun x sl e => ?_, own := f.own, dis := f.dis }
  · obtain ⟨o, ho, hd⟩ := f.cells x c e
    exact ⟨o, (hc x c e).2 o ho, hd⟩
  · obtain ⟨v, hv, hr⟩ := f.slots x sl e
    exact ⟨v, hv, hr.mono le fun a ho o e' => hm _ o (f.own x sl a e ho).1 e'⟩

theorem Abs.dropI {F mine : List Addr} {I : Addr} {T : TM} {s : Shared} (hA : Abs C (F ++ [I]) mine T σ s) (cI : ∀ x c, C.env.cells.lookup x = some c → c ≠ I) : Abs C F mine T σ s := by
  have sub : ∀ b ∈ F ++ mine, b ∈ (F ++ [I]) ++ mine := fun b hb => by
    simp only [List.mem_append, List.mem_singleton] at hb ⊢
    rcases hb with hb | hb
    · exact .inl (.inl hb)
    · exact .inr hb
  refine hA.other (view_sub sub) (fun b o _ e => e) (fun x c e => ⟨?_, fun o e' => e'⟩) (fun b hb => hA.live b (sub b hb)) (fun b hb hF => hA.nin b hb (List.mem_append_left _ hF)) hA.tok
  obtain ⟨m, cm, f⟩ := hA.frm
  have := f.cown x c e
  simp only [List.mem_append, List.mem_singleton] at this ⊢
  rcases this with (h | h) | h
  · exact .inl h
  · exact absurd h (cI x c e)
  · exact .inr h

theorem ex_for {n : Nat} (ok : C.Ok n) {target iter : Expr} {body orelse : List Stmt} {pos : Pos} {Q : Fl → St → Prop}
    (h : Ev C σ iter (fun a σ1 => ∃ xs, seqOf a = some xs ∧ RunOk target a ∧ Loop C target body orelse Q xs σ1)) (hs : ∀ x, foldedSetIterable iter C.env x = pure x := by intro _; rfl) : Ex C σ (.For target iter body orelse pos) Q := by
  refine Tr.intro' fun F mine T s QQ fin hA => ?_
  refine wpAny_For (Tr.then h hA fun v s1 a σ1 m1 T1 hq_ p1 a1 r1 => ?_) hs
  obtain ⟨xs, hxs, hok, hL⟩ := hq_
  refine itr_of (target := target) ok.hh hxs hok r1 fun I h2 fp St Mid hnew hk hI hst hfp => ?_
  -- the loop itself: from s1 on, the iterator is somebody else's
  have cI : ∀ x c, C.env.cells.lookup x = some c → c ≠ I := fun x c e q => by
    obtain ⟨m, cm, f⟩ := a1.frm
    obtain ⟨o, ho, _⟩ := f.cells x c e
    rw [q, hnew] at ho; cases ho
  have kp : Kp T1 s1 T1 { s1 with heap := h2 } := Kp.at (tk := s1.toks) a1.tok hk (Nat.le_refl _)
  have nI : ∀ b ∈ F ++ m1, b ≠ I := fun b hb q => by have := a1.live b hb; rw [q, hnew] at this; cases this
  have IF : I ∉ F := fun hm => nI I (List.mem_append_left _ hm) rfl
  have a2 : Abs C (F ++ [I]) m1 T1 σ1 { s1 with heap := h2 } := by
    refine a1.other ⟨fun b o e => view_mk (fun hb => ?_) (hk b o (view_of e)), fun _ _ e => e⟩ (fun b o _ e => hk b o e) (fun x c e => ⟨?_, fun o e' => hk c o e'⟩) (fun b hb => ?_) (fun b hb hF => ?_) a1.tok
    · have hne : b ≠ I := fun q => by have := view_of e; rw [q, hnew] at this; cases this
      simp only [List.mem_append, List.mem_singleton] at hb
      rcases hb with (hb | hb) | hb
      · exact view_not e (List.mem_append_left _ hb)
      · exact hne hb
      · exact view_not e (List.mem_append_right _ hb)
    · obtain ⟨m, cm, f⟩ := a1.frm
      rcases List.mem_append.mp (f.cown x c e) with hm | hm
      · exact List.mem_append_left _ (List.mem_append_left _ hm)
      · exact List.mem_append_right _ hm
    · simp only [List.mem_append, List.mem_singleton] at hb
      rcases hb with (hb | hb) | hb
      · exact kp.live a1.live b (List.mem_append_left _ hb)
      · subst hb; exact hI.live 0 _ hst
      · exact kp.live a1.live b (List.mem_append_right _ hb)
    · simp only [List.mem_append, List.mem_singleton] at hF
      rcases hF with hF | hF
      · exact a1.nin b hb hF
      · exact nI b (List.mem_append_right _ hb) hF
  have hfp' : ∀ b ∈ fp, b ≠ I → b ∉ F ++ m1 := fun b hb hne => let ⟨o, ho⟩ := hfp b hb hne; view_not ho
  refine codeAny_forLoop_any (fun k s' => ∃ i σ' m' T', k = xs.length + 1 - i ∧ i ≤ xs.length ∧ Loop C target body orelse Q (xs.drop i) σ' ∧ Post F m1 T1 s1 m' T' s' ∧ Abs C (F ++ [I]) m' T' σ' s' ∧ St i s'.heap) ?_ (xs.length + 1)
    ⟨0, σ1, m1, T1, rfl, Nat.zero_le _, by simpa using hL, kp.post a1.live, a2, hst⟩
  rintro k s' ⟨i, σ', m', T', rfl, hi, hL', p', a', st'⟩
  have leg : Le (view (F ++ m1) T1 s1) (view ((F ++ [I]) ++ m') T' s') := ⟨fun b o e => by
    have e' := p'.le.ob b o e
    have hne : b ≠ I := fun q => by have := view_of e; rw [q, hnew] at this; cases this
    refine view_mk (fun hb => ?_) (view_of e')
    simp only [List.mem_append, List.mem_singleton] at hb
    rcases hb with (hb | hb) | hb
    · exact view_not e' (List.mem_append_left _ hb)
    · exact hne hb
    · exact view_not e' (List.mem_append_right _ hb), p'.le.tk⟩
  have Imem : I ∈ (F ++ [I]) ++ m' := by simp
  -- a step that turns the iterator alone
  have onlyI : ∀ (h' : Heap) (tk : Nat) (T'' : TM), (∀ b o, b ≠ I → s'.heap.get? b = some o → h'.get? b = some o) → TLe T' T'' → TOk T'' tk → Post F m1 T1 s1 m' T'' { s' with heap := h', toks := tk } ∧ Le (view ((F ++ [I]) ++ m') T' s') (view ((F ++ [I]) ++ m') T'' { s' with heap := h', toks := tk }) ∧
      ((h'.get? I).isSome = true → Abs C (F ++ [I]) m' T'' σ' { s' with heap := h', toks := tk }) := by
    intro h' tk T'' hk' hT htk
    have le : Le (view ((F ++ [I]) ++ m') T' s') (view ((F ++ [I]) ++ m') T'' { s' with heap := h', toks := tk }) := ⟨fun b o e => view_mk (view_not e) (hk' b o (fun q => view_not e (q ▸ Imem)) (view_of e)), hT⟩
    refine ⟨⟨?_, ⟨fun b o e => ?_, fun t l e => hT t l (p'.le.tk t l e)⟩, fun b hb => ?_⟩, le, fun hlv => ?_⟩
    · obtain ⟨h0, t0, rfl⟩ := p'.same
      exact ⟨h', tk, rfl⟩
    · have e' := p'.le.ob b o e
      have hne : b ≠ I := fun q => by have := view_of e; rw [q, hnew] at this; cases this
      exact view_mk (view_not e') (hk' b o hne (view_of e'))
    · have hbI : b ≠ I := fun q => IF (q ▸ hb)
      obtain ⟨o, ho⟩ := Option.isSome_iff_exists.mp (a1.live b (List.mem_append_left _ hb))
      have e1 := p'.far b hb
      rw [ho] at e1
      rw [ho]
      exact hk' b o hbI e1
    · have Im' : ∀ b ∈ m', b ≠ I := fun b hb q => a'.nin b hb (by rw [q]; simp)
      refine a'.other le (fun b o hb e => hk' b o (Im' b hb) e) (fun x c e => ⟨?_, fun o e' => hk' c o (cI x c e) e'⟩) (fun b hb => ?_) a'.nin htk
      · obtain ⟨m, cm, f⟩ := a'.frm
        exact f.cown x c e
      · by_cases q : b = I
        · subst q; exact hlv
        · obtain ⟨o, ho⟩ := Option.isSome_iff_exists.mp (a'.live b hb)
          show (h'.get? b).isSome = true
          rw [hk' b o q ho]; rfl
  cases hx : xs[i]? with
  | none =>
    have hlen : xs.length ≤ i := List.getElem?_eq_none_iff.mp hx
    have hie : i = xs.length := Nat.le_antisymm hi hlen
    subst hie
    refine hI.done s' _ _ st' fun h' hk' => ?_
    obtain ⟨p3, le3, _⟩ := onlyI h' s'.toks T' hk' (fun _ _ e => e) a'.tok
    rw [List.drop_length] at hL'
    have a3 : Abs C F m' T' σ' { s' with heap := h' } := by
      have Im' : ∀ b ∈ m', b ≠ I := fun b hb q => a'.nin b hb (by rw [q]; simp)
      refine a'.other (le3.trans (view_sub fun b hb => ?_)) (fun b o hb e => hk' b o (Im' b hb) e) (fun x c e => ⟨?_, fun o e' => hk' c o (cI x c e) e'⟩) (fun b hb => ?_) (fun b hb hF => a'.nin b hb (List.mem_append_left _ hF)) a'.tok
      · simp only [List.mem_append, List.mem_singleton] at hb ⊢
        rcases hb with hb | hb
        · exact .inl (.inl hb)
        · exact .inr hb
      · obtain ⟨m, cm, f⟩ := a'.frm
        have := f.cown x c e
        simp only [List.mem_append, List.mem_singleton] at this ⊢
        rcases this with (h | h) | h
        · exact .inl h
        · exact absurd h (cI x c e)
        · exact .inr h
      · have hb' : b ∈ (F ++ [I]) ++ m' := by
          simp only [List.mem_append, List.mem_singleton] at hb ⊢
          rcases hb with hb | hb
          · exact .inl (.inl hb)
          · exact .inr hb
        have q : b ≠ I := fun q => by
          rcases List.mem_append.mp hb with hb | hb
          · exact IF (q ▸ hb)
          · exact Im' b hb q
        obtain ⟨o, ho⟩ := Option.isSome_iff_exists.mp (a'.live b hb')
        show (h'.get? b).isSome = true
        rw [hk' b o q ho]; rfl
    refine wpAny_passesOwn ok.hx (Tr.then hL' a3 fun f s4 fl σ4 m4 T4 q4 p4 a4 r4 => ?_)
    exact fin _ _ fl σ4 m4 T4 q4 ((p1.trans p3).trans p4) a4 r4
  | some x =>
    have hlt : i < xs.length := (List.getElem?_eq_some_iff.mp hx).1
    have hdrop : xs.drop i = x :: xs.drop (i + 1) := by
      rw [List.drop_eq_getElem_cons hlt]
      congr 1
      have := List.getElem?_eq_getElem hlt
      rw [hx] at this; exact (Option.some.inj this).symm
    rw [hdrop] at hL'
    refine hI.item i x _ T' s' _ _ hx st' Imem a'.tok a'.live leg fun v h3 tk3 T3 htk3 hm3 hk3 hT3 htok3 hrep => ?_
    refine hI.go i v _ _ _ hm3 fun h4 hst4 hk4 => ?_
    have hk34 : ∀ b o, b ≠ I → s'.heap.get? b = some o → h4.get? b = some o := fun b o hb e => hk4 b o hb (hk3 b o hb e)
    obtain ⟨p4, le4, a4⟩ := onlyI h4 tk3 T3 hk34 hT3 htok3
    have a4 := a4 (hI.live _ _ hst4)
    have r4 : Rep C.W (view ((F ++ [I]) ++ m') T3 { s' with heap := h4, toks := tk3 }) x v := hrep T3 _ (fun _ _ e => e) fun b o hb e => hk4 b o (fun q => hb (q ▸ Imem)) e
    refine wpAny_passesOwn ok.hx (wpAny_mono (hL' (F ++ [I]) m' T3 _ v a4 r4) ?_ fun _ _ x => x)
    rintro _ s5 ⟨σ5, m5, T5, q5, p5, a5⟩
    refine wpAny_passesOwn ok.hx (wpAny_mono (q5 (F ++ [I]) m5 T5 s5 a5) ?_ fun _ _ x => x)
    rintro f s6 ⟨fl, σ6, m6, T6, q6, p6, a6, r6⟩
    have p56 := p5.trans p6
    have vis : ∀ b o, (view (F ++ m1) T1 s1).ob b = some o → (view ((F ++ [I]) ++ m') T3 { s' with heap := h4, toks := tk3 }).ob b = some o := fun b o e => le4.ob b o (leg.ob b o e)
    have p6' : Post F m1 T1 s1 m6 T6 s6 := by
      refine ⟨?_, ⟨fun b o e => ?_, fun t l e => p56.le.tk t l (p4.le.tk t l e)⟩, fun b hb => (p56.far b (List.mem_append_left _ hb)).trans (p4.far b hb)⟩
      · obtain ⟨h0, t0, e0⟩ := p4.same
        obtain ⟨h1, t1, rfl⟩ := p56.same
        exact ⟨h1, t1, by rw [e0]⟩
      · have e6 := p56.le.ob b o (vis b o e)
        exact (view_sub (T := T6) (s := s6) fun c hc => by
          simp only [List.mem_append, List.mem_singleton] at hc ⊢
          rcases hc with hc | hc
          · exact .inl (.inl hc)
          · exact .inr hc).ob b o e6
    have st6 : St (i + 1) s6.heap := by
      refine hI.frame (i + 1) h4 s6.heap hst4 fun b hb o e => ?_
      by_cases q : b = I
      · subst q
        exact (p56.far b (by simp)).trans e
      · obtain ⟨o', ho'⟩ := hfp b hb q
        have e1 := vis b o' ho'
        have e2 : h4.get? b = some o' := view_of e1
        rw [e] at e2
        cases e2
        exact view_of (p56.le.ob b o e1)
    have leave : ∀ v, FlRep C.W (view ((F ++ [I]) ++ m6) T6 s6) (.ret v) f → FlRep C.W (view (F ++ m6) T6 s6) (.ret v) f := by
      intro v h
      cases h with
      | ret r =>
        exact .ret (r.mono (view_sub fun c hc => by
          simp only [List.mem_append, List.mem_singleton] at hc ⊢
          rcases hc with hc | hc
          · exact .inl (.inl hc)
          · exact .inr hc))
    cases r6 with
    | next => exact ⟨xs.length + 1 - (i + 1), by omega, i + 1, σ6, m6, T6, rfl, hlt, q6, p6', a6, st6⟩
    | cont => exact ⟨xs.length + 1 - (i + 1), by omega, i + 1, σ6, m6, T6, rfl, hlt, q6, p6', a6, st6⟩
    | brk => exact fin _ _ .next σ6 m6 T6 q6 (p1.trans p6') (a6.dropI cI) .next
    | ret r => exact fin _ _ (.ret _) σ6 m6 T6 q6 (p1.trans p6') (a6.dropI cI) (leave _ (.ret r))
end
end Sx
end
section
open PySem PySem.W PyProof.Rows PySem.Calls
set_option linter.unusedVariables false
set_option Elab.async false
set_option maxRecDepth 100000
namespace Sx

/-! ## what turns a list or a dict of the frame's own -/
structure KpB (a : Addr) (T : TM) (s : Shared) (T' : TM) (s' : Shared) : Prop where
  same : ∃ h' tk, s' = { s with heap := h', toks := tk }
  keep : ∀ b o, b ≠ a → s.heap.get? b = some o → s'.heap.get? b = some o
  live : (s'.heap.get? a).isSome = true
  tle : TLe T T'
  tok : TOk T' s'.toks
theorem KpB.view {a : Addr} {T T' : TM} {own : List Addr} {s s' : Shared} (k : KpB a T s T' s') (ha : a ∈ own) : Le (view own T s) (view own T' s') :=
  ⟨fun b o e => view_mk (view_not e) (k.keep b o (fun q => view_not e (q ▸ ha)) (view_of e)), k.tle⟩

noncomputable def OpM {α : Type} (C : Cx) (sl : Slot) (vs : List V) (t : Value → List Value → Sem α) (P : α → Prop) (K : Slot → Prop) : Prop :=
  ∀ own T s a ws, OwnOk C own T s → a ∈ own → sl.adr = some a → SlotRep C.W (view own T s) s.heap sl (.ref a) → RepL C.W (view own T s) vs ws →
    wpAny C.M C.A (t (.ref a) ws) (fun r s' => P r ∧ ∃ sl' T', K sl' ∧ sl'.adr = some a ∧ KpB a T s T' s' ∧ SlotRep C.W (view own T' s') s'.heap sl' (.ref a)) C.X s

theorem OpM.abs {α : Type} {C : Cx} {σ : St} {F mine : List Addr} {T : TM} {s : Shared} {sl : Slot} {vs : List V} {t : Value → List Value → Sem α} {P : α → Prop} {K : Slot → Prop} (h : OpM C sl vs t P K) (hA : Abs C F mine T σ s) {x : String} {a : Addr}
    (hf : find σ (Str.ofString x) = some sl) (ho : sl.adr = some a) {ws : List Value} (hr : RepL C.W (view (F ++ mine) T s) vs ws) {Q : α → Shared → Prop}
    (hQ : ∀ r s' sl' T', P r → K sl' → sl'.adr = some a → Post F mine T s mine T' s' → Abs C F mine T' (put σ (Str.ofString x) x sl') s' → Q r s') : wpAny C.M C.A (t (.ref a) ws) Q C.X s := by
  obtain ⟨m, cm, f⟩ := hA.frm
  obtain ⟨v, hv, hr0⟩ := f.slots _ _ hf
  have hva := hr0.ref ho
  subst hva
  have hm := (f.own _ _ _ hf ho).1
  refine wpAny_mono (h (F ++ mine) T s a ws hA.ownOk (List.mem_append_right _ hm) ho hr0 hr) ?_ fun _ _ x => x
  rintro r s' ⟨hP, sl', T', hK, ho', k, hr'⟩
  obtain ⟨p1, a1⟩ := hA.mutate hf ho ho' k.same k.keep k.live k.tle k.tok (fun _ _ _ => hr')
  exact hQ r s' sl' T' hP hK ho' p1 a1

section
variable {C : Cx} {σ : St}

theorem opM_append {a : Addr} {vs : List V} {v : V} {K : Slot → Prop} (hl : vs.length ≤ sizeLine) (h : K (.list a (vs ++ [v]))) : OpM C (.list a vs) [v] (fun l ws => call (.builtin "list.append") (l :: ws)) (fun r => r = .none) K := by
  intro own T s b ws hO hb ho hs hr
  cases ho
  obtain ⟨_, xs, hx, hxr⟩ := hs
  obtain ⟨w, _, rfl, hw, hr⟩ := hr.cons_inv
  obtain rfl := hr.nil_inv
  refine wpAny_list_append_plain (items := xs.toArray) hx (fun h' hp hs' => ?_) (by simpa [hxr.length] using hl)
  have k : KpB a T s T { s with heap := h' } := ⟨⟨h', s.toks, rfl⟩, fun b o hb e => hs'.extBut b o hb e, by obtain ⟨n, e⟩ := hp; show (h'.get? a).isSome = true; rw [e]; rfl, fun _ _ e => e, hO.tok⟩
  refine ⟨rfl, _, T, h, rfl, k, rfl, xs ++ [w], ?_, ?_⟩
  · obtain ⟨n, e⟩ := hp
    exact ⟨n, by rw [e]; simp⟩
  · exact (hxr.append (.cons hw .nil)).mono (k.view hb)

end
end Sx
end
section
open PySem PySem.W PyProof.Rows PySem.Calls
set_option linter.unusedVariables false
set_option Elab.async false
set_option maxRecDepth 100000
namespace Sx

/-! ## dicts turn -/
noncomputable def dset : List (Key × V) → Key → V → List (Key × V)
  | [], k, v => [(k, v)]
  | (k', v') :: r, k, v => if k' = k then (k', v) :: r else (k', v') :: dset r k v

theorem dset_keys (es : List (Key × V)) (k : Key) (v : V) : (dset es k v).map (·.1) = if k ∈ es.map (·.1) then es.map (·.1) else es.map (·.1) ++ [k] := by
  induction es with
  | nil => simp [dset]
  | cons p r ih =>
    obtain ⟨k', v'⟩ := p
    unfold dset
    by_cases h : k' = k
    · subst h; simp
    · rw [if_neg h]
      simp only [List.map_cons, ih, List.mem_cons]
      by_cases hm : k ∈ r.map (·.1)
      · simp [hm]
      · simp [hm, Ne.symm h]
theorem dset_nodup {es : List (Key × V)} (h : (es.map (·.1)).Nodup) (k : Key) (v : V) : ((dset es k v).map (·.1)).Nodup := by
  rw [dset_keys]
  split
  · exact h
  · rename_i hn
    rw [List.nodup_append]
    exact ⟨h, by simp, fun a ha b hb => by rw [List.mem_singleton] at hb; subst hb; exact fun e => hn (e ▸ ha)⟩
theorem dset_length (es : List (Key × V)) (k : Key) (v : V) : (dset es k v).length ≤ es.length + 1 := by
  induction es with
  | nil => simp [dset]
  | cons p r ih =>
    obtain ⟨k', v'⟩ := p
    unfold dset
    split
    · simp
    · simp only [List.length_cons]; omega

theorem RepD.dset {W : Wd} {g : PH} {es : List (Key × V)} {ds : List DictEntry} {kvs : List (Key × Value)} (h : RepD W g es ds kvs) {k : Key} {v : V} {kw w : Value} (hk : Rep W g k.v kw) (hv : Rep W g v w) :
    ∃ ds' kvs', RepD W g (dset es k v) ds' kvs' ∧ ((∃ i, ds.findIdx? (fun e => W.knd.is k e.key) = some i ∧ ds' = ds.modify i fun e => { e with val := w }) ∨ (ds.findIdx? (fun e => W.knd.is k e.key) = none ∧ ds' = ds ++ [⟨W.knd.hash k, kw, w⟩])) := by
  induction ds generalizing es kvs with
  | nil =>
    cases h
    exact ⟨_, _, .cons hk rfl hv .nil, .inr ⟨rfl, rfl⟩⟩
  | cons d ds ih =>
    cases h with
    | @cons k' v' _ es _ kvs h1 h2 h3 r =>
      have his : W.knd.is k d.key = decide (k = k') := KeyKind.is_eq_decide (knd := W.knd) (Key.is_of_rep h1) k
      by_cases e : k' = k
      · subst e
        refine ⟨{ d with val := w } :: ds, (k', w) :: kvs, ?_, .inl ⟨0, ?_, rfl⟩⟩
        · unfold Sx.dset
          rw [if_pos rfl]
          exact .cons (d := { d with val := w }) h1 h2 hv r
        · rw [List.findIdx?_cons, his]; simp
      · obtain ⟨ds', kvs', r', q⟩ := ih r
        refine ⟨d :: ds', (k', d.val) :: kvs', ?_, ?_⟩
        · unfold Sx.dset
          rw [if_neg e]
          exact .cons h1 h2 h3 r'
        · have hf : W.knd.is k d.key = false := by rw [his]; exact decide_eq_false fun q => e q.symm
          rcases q with ⟨i, q1, q2⟩ | ⟨q1, q2⟩
          · refine .inl ⟨i + 1, ?_, ?_⟩
            · rw [List.findIdx?_cons, hf, q1]; rfl
            · rw [q2]; rfl
          · refine .inr ⟨?_, ?_⟩
            · rw [List.findIdx?_cons, hf, q1]; rfl
            · rw [q2]; rfl

section
variable {C : Cx} {σ : St}

theorem opM_dictSet {a : Addr} {es : List (Key × V)} {k : Key} {v : V} {K : Slot → Prop} (hl : es.length ≤ sizeLine) (h : K (.dict a (dset es k v))) :
    OpM C (.dict a es) [k.v, v] (fun d ws => match d, ws with | .ref d, [k, v] => dictSet d k v | _, _ => pure ()) (fun _ => True) K := by
  intro own T s b ws hO hb ho hs hr
  cases ho
  obtain ⟨_, ds, kvs, ⟨h0, o, n, ho, hx, hd⟩, hrd, hn⟩ := hs
  obtain ⟨kw, _, rfl, hkw, hr⟩ := hr.cons_inv
  obtain ⟨w, _, rfl, hw, hr⟩ := hr.cons_inv
  obtain rfl := hr.nil_inv
  have hkey : C.W.knd.is k kw = true := Key.is_of_rep hkw
  show wpAny C.M C.A (dictSet a kw w) _ _ s
  unfold dictSet
  try with_reducible refine wpAny_holding ?_
  refine wpAny_bind (C.W.knd.pyHash hkey ?_)
  unfold dictSetHashed
  try with_reducible refine wpAny_holding ?_
  refine wpAny_bind (wpAny_dictFind_of (s := { s with toks := s.toks + 1 }) hkey ho hd hrd.keysOf ?_)
  have hidx : (ds.toArray.findIdx? fun e => C.W.knd.is k e.key) = ds.findIdx? fun e => C.W.knd.is k e.key := by simp
  have hsz : ds.toArray.size ≤ sizeLine := by rw [List.size_toArray, hrd.length.1]; exact hl
  obtain ⟨ds', kvs', r', q⟩ := hrd.dset hkw hw
  rw [hidx]
  rcases q with ⟨i, q1, q2⟩ | ⟨q1, q2⟩
  · rw [q1]
    refine wpAny_bind (wpAny_rule (wpAny_bind (wpAny_updateDict (s := { s with toks := s.toks + 1 }) ho hd (wpAny_point ⟨trivial, _, T, h, rfl, ⟨⟨_, _, rfl⟩, fun b o hb e => (Heap.get?_update_other _ _ (Ne.symm hb)).trans e, ?_, fun _ _ e => e, hO.tok.mono (Nat.le_succ _)⟩, rfl, ds', kvs', ?_, ?_, dset_nodup hn _ _⟩))))
    · show ((s.heap.update a _).get? a).isSome = true
      rw [Heap.get?_update_self _ ho (Obj.isFreed_of_dict (Obj.data_mapDict hd _))]; rfl
    · refine ⟨h0, _, n, Heap.get?_update_self _ ho (Obj.isFreed_of_dict (Obj.data_mapDict hd _)), hx.mapDict _, ?_⟩
      rw [Obj.data_mapDict hd, q2]
      simp
    · refine RepD.mono (g := view own T s) ?_ r'
      exact ⟨fun b o e => view_mk (view_not e) ((Heap.get?_update_other _ _ (fun q => view_not e (by rw [← q]; exact hb))).trans (view_of e)), fun _ _ e => e⟩
  · rw [q1]
    refine wpAny_bind (wpAny_rule (wpAny_updateDictKeys (hz := hsz) (s := { s with toks := s.toks + 1 }) ho hd ⟨trivial, _, T, h, rfl, ⟨⟨_, _, rfl⟩, fun b o hb e => (Heap.get?_update_other _ _ (Ne.symm hb)).trans e, ?_, fun _ _ e => e, hO.tok.mono (Nat.le_succ _)⟩, rfl, ds', kvs', ?_, ?_, dset_nodup hn _ _⟩))
    · show ((s.heap.update a _).get? a).isSome = true
      rw [Heap.get?_update_self _ ho (Obj.isFreed_of_dict (Obj.data_mapDictKeys hd _))]; rfl
    · refine ⟨h0, _, n + 1, Heap.get?_update_self _ ho (Obj.isFreed_of_dict (Obj.data_mapDictKeys hd _)), hx.mapDictKeys _, ?_⟩
      rw [Obj.data_mapDictKeys hd, q2]
      simp
    · refine RepD.mono (g := view own T s) ?_ r'
      exact ⟨fun b o e => view_mk (view_not e) ((Heap.get?_update_other _ _ (fun q => view_not e (by rw [← q]; exact hb))).trans (view_of e)), fun _ _ e => e⟩

/-! ## statements that turn what is the frame's own -/
theorem tr_loadO {n : Nat} (ok : C.Ok n) {F mine : List Addr} {T : TM} {s : Shared} (hA : Abs C F mine T σ s) {x : String} {sl : Slot} {a : Addr} (hf : find σ (Str.ofString x) = some sl) (ho : sl.adr = some a) (hxa : Str.ofString x ≠ anonS)
    (hn : (Str.ofString x == ("__classdict__" : Str)) = false) {Q : Value → Shared → Prop} (h : SlotRep C.W (view (F ++ mine) T s) s.heap sl (.ref a) → Q (.ref a) s) : wpAny C.M C.A (loadName C.env (Str.ofString x)) Q C.X s := by
  obtain ⟨m, cm, f⟩ := hA.frm
  obtain ⟨v, hv, hr⟩ := f.slots _ _ hf
  have e := hr.ref ho
  subst e
  exact load_local ok f (hv.real hxa) hn (h hr)

/-- the type of what is the frame's own -/
noncomputable def Slot.ty : Slot → String
  | .val _ => ""
  | .list _ _ => "list"
  | .dict _ _ => "dict"
theorem SlotRep.typeIs {W : Wd} {g : PH} {s : Shared} {sl : Slot} {a : Addr} (ho : sl.adr = some a) (x : SlotRep W g s.heap sl (.ref a)) : s.TypeIs (.ref a) sl.ty ∧ ∃ o, s.heap.get? a = some o ∧ o.dict = none := by
  cases sl with
  | val u => cases ho
  | list b vs =>
    cases ho
    obtain ⟨_, ws, ⟨n, h1⟩, r⟩ := x
    exact ⟨⟨_, h1, rfl⟩, _, h1, rfl⟩
  | dict b es =>
    cases ho
    obtain ⟨_, ds, kvs, ⟨h0, o, n, h1, h2, h3⟩, r⟩ := x
    exact ⟨⟨_, h1, h2.1⟩, _, h1, h2.2.1⟩

/-- x.name(e) as a statement, x a list or dict of the frame's own -/
theorem ex_methO {n : Nat} (ok : C.Ok n) {x : String} {xp : Pos} {name : Str} {id : String} {apos pos epos : Pos} {e : Expr} {sl : Slot} {a : Addr} {P : Value → Prop} {Q : Fl → St → Prop}
    (hf : find σ (Str.ofString x) = some sl) (ho : sl.adr = some a) (pa : PlainAttrs sl.ty) (slot : PySem.Slot sl.ty name id) (hty : typeOf (.builtin id) = pure (.type "method_descriptor"))
    (h : Ev C σ e (fun v σ1 => ∃ sl1, find σ1 (Str.ofString x) = some sl1 ∧ sl1.adr = some a ∧ OpM C sl1 [v] (fun l ws => call (.builtin id) (l :: ws)) P (fun sl2 => Q .next (put σ1 (Str.ofString x) x sl2))))
    (hxa : Str.ofString x ≠ anonS) (hn : (Str.ofString x == ("__classdict__" : Str)) = false) (hd : (Str.ofString x == ("__debug__" : Str)) = false)
    (hbase : attributeBase (.Name (Str.ofString x) xp) name C.env (eval (.Name (Str.ofString x) xp) C.env) = eval (.Name (Str.ofString x) xp) C.env) (hline : (apos.endLine == pos.line) = true)
    (hs : starEach [e] C.env = (false, eval e C.env) :: starEach [] C.env) (hint : interactive C.env = false) (hsw : swapsWith (.Call (.Attribute (.Name (Str.ofString x) xp) name apos) [e] [] pos) none epos.line C.env = pure false) :
    Ex C σ (.Expr (.Call (.Attribute (.Name (Str.ofString x) xp) name apos) [e] [] pos) epos) Q := by
  intro F mine T s hA
  refine wpAny_Expr_any ?_ hint hsw
  rw [arm_eval_Call, hbase]
  refine wpAny_bind (wpAny_Name (tr_loadO ok hA hf ho hxa hn fun hr => ?_) hd)
  refine wpAny_bind (wpAny_standAt ?_)
  have hst : (starEach [e] C.env).all (fun x => !x.1) = true := by rw [hs]; rfl
  have hform : methodCallForm ([e].length + ([] : List Keyword).length) (backTo pos (starEach [e] C.env)) (backToKw pos (keywordEach [] C.env)) = true := by rw [hs]; rfl
  have hpos : methodCallPos true (.Name (Str.ofString x) xp) C.env apos pos = pure pos := by unfold methodCallPos; simp [hline]
  obtain ⟨hT, o, hob, hod⟩ := hr.typeIs ho
  unfold methodCall
  rw [hform]
  refine wpAny_bind (wpAny_holding (getMethod_builtin hT pa slot hty (fun x hx => by cases hx; exact ⟨o, hob, hod⟩) ?_))
  refine wpAny_bind (wpAny_of_eq hpos ?_)
  refine callWith_builtin (any_backTo hst) (evalArgs_list hst ?_)
  rw [backTo_cons hs]
  refine spliced_cons (Tr.then h hA fun w s1 v σ1 m1 T1 hq_ p1 a1 r1 => ?_)
  obtain ⟨sl1, hf1, ho1, hop⟩ := hq_
  refine wpAny_items_nil ?_
  refine OpM.abs hop a1 hf1 ho1 (.cons r1 .nil) fun r s2 sl2 T2 hP hK ho2 p2 a2 => ?_
  exact ⟨.next, _, m1, T2, hK, p1.trans p2, a2, .next⟩

/-! ## while -/
theorem ex_while {n : Nat} (ok : C.Ok n) {test : Expr} {body orelse : List Stmt} {pos : Pos} {Q : Fl → St → Prop} (I : Nat → St → Prop)
    (step : ∀ k σ, I k σ → Tst C σ test (fun b σ1 => (b = false → Exs C σ1 orelse Q) ∧ (b = true → Exs C σ1 body (fun fl σ2 => match fl with
      | .next => ∃ k', k' < k ∧ I k' σ2
      | .cont => ∃ k', k' < k ∧ I k' σ2
      | .brk => Q .next σ2
      | .ret v => Q (.ret v) σ2)))) (k : Nat) (h : I k σ) : Ex C σ (.While test body orelse pos) Q := by
  refine Tr.intro' fun F mine T s QQ fin hA => ?_
  refine wpAny_While (codeAny_whileLoop (I := fun k' s' => ∃ σ' m' T', I k' σ' ∧ Post F mine T s m' T' s' ∧ Abs C F m' T' σ' s') ?_ k ⟨σ, mine, T, h, .refl _ _ _ _, hA⟩)
  rintro k' s' ⟨σ', m', T', hI, p', a'⟩
  refine wpAny_passesOwn ok.hx (Tr.then (step k' σ' hI) a' fun b s1 b' σ1 m1 T1 q p1 a1 r => ?_)
  have r : b' = b := r
  subst r
  cases b' with
  | false =>
    refine wpAny_passesOwn ok.hx (Tr.then (q.1 rfl) a1 fun f s2 fl2 σ2 m2 T2 q2 p2 a2 r2 => ?_)
    exact fin _ _ fl2 σ2 m2 T2 q2 ((p'.trans p1).trans p2) a2 r2
  | true =>
    refine wpAny_passesOwn ok.hx (Tr.then (q.2 rfl) a1 fun f s2 fl2 σ2 m2 T2 q2 p2 a2 r2 => ?_)
    cases r2 with
    | next => obtain ⟨k2, hk2, hI2⟩ := q2; exact ⟨k2, hk2, σ2, m2, T2, hI2, (p'.trans p1).trans p2, a2⟩
    | cont => obtain ⟨k2, hk2, hI2⟩ := q2; exact ⟨k2, hk2, σ2, m2, T2, hI2, (p'.trans p1).trans p2, a2⟩
    | brk => exact fin _ _ .next σ2 m2 T2 q2 ((p'.trans p1).trans p2) a2 .next
    | ret r => exact fin _ _ (.ret _) σ2 m2 T2 q2 ((p'.trans p1).trans p2) a2 (.ret r)
end
end Sx
end
section
open PySem PySem.W PyProof.Rows PySem.Calls
set_option linter.unusedVariables false
set_option Elab.async false
set_option maxRecDepth 100000
namespace Sx

/-! ## comprehensions -/
structure PostX (ex F mine : List Addr) (T : TM) (s : Shared) (mine' : List Addr) (T' : TM) (s' : Shared) : Prop where
  same : ∃ h' tk, s' = { s with heap := h', toks := tk }
  le : Le (view (F ++ mine) T s) (view (F ++ mine') T' s')
  far : ∀ a ∈ F, a ∉ ex → s'.heap.get? a = s.heap.get? a
theorem PostX.trans {ex F m1 m2 m3 : List Addr} {T1 T2 T3 : TM} {s1 s2 s3 : Shared} (x : PostX ex F m1 T1 s1 m2 T2 s2) (y : PostX ex F m2 T2 s2 m3 T3 s3) : PostX ex F m1 T1 s1 m3 T3 s3 := by
  obtain ⟨h, t, rfl⟩ := x.same
  obtain ⟨h', t', rfl⟩ := y.same
  exact ⟨⟨h', t', rfl⟩, x.le.trans y.le, fun a ha hx => (y.far a ha hx).trans (x.far a ha hx)⟩
theorem PostX.refl (ex F mine : List Addr) (T : TM) (s : Shared) : PostX ex F mine T s mine T s := ⟨⟨_, _, rfl⟩, .refl _, fun _ _ _ => rfl⟩
theorem Post.x {F mine mine' : List Addr} {T T' : TM} {s s' : Shared} (p : Post F mine T s mine' T' s') (ex : List Addr) : PostX ex F mine T s mine' T' s' := ⟨p.same, p.le, fun a ha _ => p.far a ha⟩
theorem PostX.mono {ex ex' F mine mine' : List Addr} {T T' : TM} {s s' : Shared} (p : PostX ex F mine T s mine' T' s') (h : ∀ a ∈ ex, a ∈ ex') : PostX ex' F mine T s mine' T' s' := ⟨p.same, p.le, fun a ha hx => p.far a ha fun q => hx (h a q)⟩

/-- a step that turns somebody else's things alone -/
theorem Abs.turnF {C : Cx} {σ : St} {F mine ex : List Addr} {T T' : TM} {s s' : Shared} (hA : Abs C F mine T σ s) (same : ∃ h' tk, s' = { s with heap := h', toks := tk }) (keep : ∀ b o, b ∉ ex → s.heap.get? b = some o → s'.heap.get? b = some o)
    (live : ∀ b ∈ ex, (s'.heap.get? b).isSome = true) (sub : ∀ b ∈ ex, b ∈ F) (cx : ∀ x c, C.env.cells.lookup x = some c → c ∉ ex) (hT : TLe T T') (tok : TOk T' s'.toks) : PostX ex F mine T s mine T' s' ∧ Abs C F mine T' σ s' := by
  have le : Le (view (F ++ mine) T s) (view (F ++ mine) T' s') := ⟨fun b o e => view_mk (view_not e) (keep b o (fun q => view_not e (List.mem_append_left _ (sub b q))) (view_of e)), hT⟩
  have hm : ∀ b ∈ mine, b ∉ ex := fun b hb q => hA.nin b hb (sub b q)
  refine ⟨⟨same, le, fun b hb hx => ?_⟩, hA.other le (fun b o hb e => keep b o (hm b hb) e) (fun x c e => ⟨?_, fun o e' => keep c o (cx x c e) e'⟩) (fun b hb => ?_) hA.nin tok⟩
  · obtain ⟨o, ho⟩ := Option.isSome_iff_exists.mp (hA.live b (List.mem_append_left _ hb))
    rw [ho]; exact keep b o hx ho
  · obtain ⟨m, cm, f⟩ := hA.frm
    exact f.cown x c e
  · by_cases q : b ∈ ex
    · exact live b q
    · obtain ⟨o, ho⟩ := Option.isSome_iff_exists.mp (hA.live b hb)
      rw [keep b o q ho]; rfl

noncomputable abbrev Tsts (C : Cx) (σ : St) (ifs : List Expr) (Q : Bool → St → Prop) : Prop :=
  Tr C σ RB (forIn ifs true fun c r => if r = true then do let ok ← isTrue c C.env (eval c C.env); pure (ForInStep.yield ok) else pure (ForInStep.yield r)) Q

/-- a step of a comprehension: what is under way, at D, turns from sl to another -/
noncomputable def TrA {α : Type} (C : Cx) (σ : St) (D : Addr) (sl : Slot) (t : Sem α) (Q : Slot → St → Prop) : Prop :=
  ∀ F mine T s, D ∈ F → (∀ x c, C.env.cells.lookup x = some c → c ≠ D) → Abs C F mine T σ s → sl.adr = some D → SlotRep C.W (view (F ++ mine) T s) s.heap sl (.ref D) →
    wpAny C.M C.A t (fun _ s' => ∃ sl' σ' mine' T', Q sl' σ' ∧ sl'.adr = some D ∧ PostX [D] F mine T s mine' T' s' ∧ Abs C F mine' T' σ' s' ∧ SlotRep C.W (view (F ++ mine') T' s') s'.heap sl' (.ref D)) C.X s

noncomputable def CLoop (C : Cx) (D : Addr) (target : Expr) (ifs : List Expr) (tail : Sem Unit) (K : Slot → St → Prop) : List V → Slot → St → Prop
  | [], sl, σ => K sl σ
  | x :: xs, sl, σ => Asg C σ target x (fun σ1 => Tsts C σ1 ifs (fun ok σ2 => (ok = true → TrA C σ2 D sl tail (fun sl' σ3 => CLoop C D target ifs tail K xs sl' σ3)) ∧ (ok = false → CLoop C D target ifs tail K xs sl σ2)))

noncomputable def turnT (ip : Pos) (target : Expr) (ifs : List Expr) (it : Value) (env : Env) (tail : Sem Unit) (c : Code) : Sem Fin := do
  standAt ip
  match ← pyNext it with
  | none => pure (.done .next)
  | some v =>
    letOwnedTupleGo target it v
    assign target env v
    let mut ok := true
    for c in ifs do
      if ok then ok ← isTrue c env (eval c env)
    if ok then tail
    again c

section
variable {C : Cx} {σ : St}

theorem tsts_nil {Q : Bool → St → Prop} (h : Q true σ) : Tsts C σ [] Q := fun F mine T s hA => wpAny_pure ⟨true, σ, mine, T, h, .refl _ _ _ _, hA, rfl⟩
theorem trA_list {elt : Expr} {D : Addr} {sl : Slot} {Q : Slot → St → Prop} (h : Ev C σ elt (fun y σ1 => OpM C sl [y] (fun l ws => call (.builtin "list.append") (l :: ws)) (fun r => r = .none) (fun sl' => Q sl' σ1))) :
    TrA C σ D sl (do let _ ← call (.builtin "list.append") [.ref D, ← eval elt C.env]) Q := by
  intro F mine T s hD hcD hA ho hs
  refine wpAny_bind (Tr.then h hA fun w s1 y σ1 m1 T1 hop p1 a1 r1 => ?_)
  have hs1 : SlotRep C.W (view (F ++ m1) T1 s1) s1.heap sl (.ref D) := hs.mono p1.le fun b hb o e => by rw [ho] at hb; cases hb; exact (p1.far D hD).trans e
  refine wpAny_bind (wpAny_mono (hop (F ++ m1) T1 s1 D [w] a1.ownOk (List.mem_append_left _ hD) ho hs1 (.cons r1 .nil)) ?_ fun _ _ x => x)
  rintro r s2 ⟨_, sl2, T2, hQ, ho2, k, hs2⟩
  obtain ⟨p2, a2⟩ := a1.turnF (ex := [D]) k.same (fun b o hb e => k.keep b o (by simpa using hb) e) (fun b hb => by rw [List.mem_singleton.mp hb]; exact k.live) (fun b hb => by rw [List.mem_singleton.mp hb]; exact hD)
    (fun x c e q => hcD x c e (List.mem_singleton.mp q)) k.tle k.tok
  exact wpAny_pure ⟨sl2, σ1, m1, T2, hQ, ho2, (p1.x _).trans p2, a2, hs2⟩

theorem trA_dict {kx vx : Expr} {p : Pos} {D : Addr} {sl : Slot} {Q : Slot → St → Prop} (h : Ev C σ kx (fun k σ1 => Ev C σ1 vx (fun v σ2 => OpM C sl [k, v] (fun d ws => match d, ws with | .ref d, [k, v] => dictSet d k v | _, _ => pure ()) (fun _ => True) (fun sl' => Q sl' σ2)))) :
    TrA C σ D sl (do
        let kv ← eval kx C.env
        let vv ← holding [kv] (eval vx C.env)
        standAt p
        holding [kv, vv] (dictSet D kv vv)) Q := by
  intro F mine T s hD hcD hA ho hs
  refine wpAny_bind (Tr.then h hA fun kw s1 k σ1 m1 T1 hq p1 a1 r1 => ?_)
  refine wpAny_bind (wpAny_holding (Tr.then hq a1 fun w s2 v σ2 m2 T2 hop p2 a2 r2 => ?_))
  have p12 := p1.trans p2
  have hs2 : SlotRep C.W (view (F ++ m2) T2 s2) s2.heap sl (.ref D) := hs.mono p12.le fun b hb o e => by rw [ho] at hb; cases hb; exact (p12.far D hD).trans e
  refine wpAny_bind (wpAny_standAt (wpAny_holding (wpAny_mono (hop (F ++ m2) T2 s2 D [kw, w] a2.ownOk (List.mem_append_left _ hD) ho hs2 (.cons (r1.mono p2.le) (.cons r2 .nil))) ?_ fun _ _ x => x)))
  rintro r s3 ⟨_, sl3, T3, hQ, ho3, k, hs3⟩
  obtain ⟨p3, a3⟩ := a2.turnF (ex := [D]) k.same (fun b o hb e => k.keep b o (by simpa using hb) e) (fun b hb => by rw [List.mem_singleton.mp hb]; exact k.live) (fun b hb => by rw [List.mem_singleton.mp hb]; exact hD)
    (fun x c e q => hcD x c e (List.mem_singleton.mp q)) k.tle k.tok
  exact ⟨sl3, σ2, m2, T3, hQ, ho3, (p12.x _).trans p3, a3, hs3⟩

theorem comp_loop {ip : Pos} {target : Expr} {ifs : List Expr} {tail : Sem Unit} {c : Code} {I D : Addr} {F₀ : List Addr} {g0 : PH} {xs : List V} {fp : List Addr} {St' : Nat → Heap → Prop} {Mid : Nat → Value → Heap → Prop} {R : Result → Shared → Prop} {K : Slot → St → Prop}
    (hX : ∀ v s, C.X v s → False) (hq : c.quiet = true) (hden : C.M.den c = (turnT ip target ifs (.ref I) C.env tail c).onRaise (fun x => do noteFrame x C.env; theTreesLotGoes x)) (hunder : C.A.under c = C.A)
    (hI : Itr C.W C.A target I g0 xs fp St' Mid) (hIF₀ : I ∉ F₀) (hDF₀ : D ∈ F₀) (hDI : D ≠ I) (hDf : D ∉ fp) (hcI : ∀ x c, C.env.cells.lookup x = some c → c ≠ I) (hcD : ∀ x c, C.env.cells.lookup x = some c → c ≠ D)
    {m0 : List Addr} {T0 : TM} {s0 : Shared} {σ0 : St} {sl0 : Slot} (hfp : ∀ b ∈ fp, b ≠ I → ∃ o, (view ((F₀ ++ [I]) ++ m0) T0 s0).ob b = some o) (hg : Le g0 (view ((F₀ ++ [I]) ++ m0) T0 s0)) (hA : Abs C (F₀ ++ [I]) m0 T0 σ0 s0) (hst : St' 0 s0.heap) (ho : sl0.adr = some D) (hs : SlotRep C.W (view ((F₀ ++ [I]) ++ m0) T0 s0) s0.heap sl0 (.ref D))
    (hL : CLoop C D target ifs tail K xs sl0 σ0)
    (hR : ∀ s' sl' σ' m' T', K sl' σ' → sl'.adr = some D → (∃ h' tk, s' = { s0 with heap := h', toks := tk }) → Le (view ((F₀ ++ [I]) ++ m0) T0 s0) (view (F₀ ++ m') T' s') → (∀ a ∈ F₀, a ≠ D → s'.heap.get? a = s0.heap.get? a) → Abs C F₀ m' T' σ' s' → SlotRep C.W (view (F₀ ++ m') T' s') s'.heap sl' (.ref D) → R (.ok .next) s') : codeAny C.M C.A c R s0 := by
  obtain ⟨F, hF⟩ : ∃ F, F₀ ++ [I] = F := ⟨_, rfl⟩
  have hIF : I ∈ F := by rw [← hF]; simp
  have hDF : D ∈ F := by rw [← hF]; exact List.mem_append_left _ hDF₀
  rw [hF] at hfp hg hA hs hR
  refine codeAny_loop hq (fun k s' => ∃ i sl' σ' m' T', k = xs.length + 1 - i ∧ i ≤ xs.length ∧ CLoop C D target ifs tail K (xs.drop i) sl' σ' ∧ sl'.adr = some D ∧ PostX [D, I] F m0 T0 s0 m' T' s' ∧ Abs C F m' T' σ' s' ∧ St' i s'.heap ∧ SlotRep C.W (view (F ++ m') T' s') s'.heap sl' (.ref D)) ?_ (xs.length + 1)
    ⟨0, sl0, σ0, m0, T0, rfl, Nat.zero_le _, by simpa using hL, ho, .refl _ _ _ _ _, hA, hst, hs⟩
  rintro k s' ⟨i, sl', σ', m', T', rfl, hi, hL', ho', p', a', st', hs'⟩
  rw [hunder, hden]
  refine wpAny_noted ?_
  unfold turnT
  refine wpAny_bind (wpAny_standAt (wpAny_bind ?_))
  have leg := hg.trans p'.le
  cases hx : xs[i]? with
  | none =>
    have hlen : xs.length ≤ i := List.getElem?_eq_none_iff.mp hx
    have hie : i = xs.length := Nat.le_antisymm hi hlen
    subst hie
    rw [List.drop_length] at hL'
    refine hI.done s' _ _ st' fun h' hk' => wpAny_pure ?_
    have sub : ∀ m, ∀ b ∈ F₀ ++ m, b ∈ F ++ m := fun m b hb => by
      rcases List.mem_append.mp hb with hb | hb
      · exact List.mem_append_left _ (by rw [← hF]; exact List.mem_append_left _ hb)
      · exact List.mem_append_right _ hb
    have nI : ∀ b ∈ F₀ ++ m', b ≠ I := fun b hb q => by
      rcases List.mem_append.mp hb with hb | hb
      · exact hIF₀ (q ▸ hb)
      · exact a'.nin b hb (q ▸ hIF)
    have leI : Le (view (F ++ m') T' s') (view (F₀ ++ m') T' { s' with heap := h' }) := ⟨fun b o e => view_mk (fun q => view_not e (sub _ b q)) (hk' b o (fun q => view_not e (q ▸ List.mem_append_left _ hIF)) (view_of e)), fun _ _ e => e⟩
    have a3 : Abs C F₀ m' T' σ' { s' with heap := h' } := by
      refine a'.other leI (fun b o hb e => hk' b o (nI b (List.mem_append_right _ hb)) e) (fun x c e => ⟨?_, fun o e' => hk' c o (hcI x c e) e'⟩) (fun b hb => ?_) (fun b hb hF' => a'.nin b hb (by rw [← hF]; exact List.mem_append_left _ hF')) a'.tok
      · obtain ⟨m, cm, f⟩ := a'.frm
        have := f.cown x c e
        rw [← hF] at this
        simp only [List.mem_append, List.mem_singleton] at this ⊢
        rcases this with (h | h) | h
        · exact .inl h
        · exact absurd h (hcI x c e)
        · exact .inr h
      · obtain ⟨o, ho⟩ := Option.isSome_iff_exists.mp (a'.live b (sub _ b hb))
        show (h'.get? b).isSome = true
        rw [hk' b o (nI b hb) ho]; rfl
    refine hR _ sl' σ' m' T' hL' ho' ?_ (p'.le.trans leI) (fun b hb hbD => ?_) a3 (hs'.mono leI fun b hb o e => by rw [ho'] at hb; cases hb; exact hk' _ o hDI e)
    · obtain ⟨h0, t0, rfl⟩ := p'.same
      exact ⟨h', _, rfl⟩
    · have hbI : b ≠ I := fun q => hIF₀ (q ▸ hb)
      have hbF : b ∈ F := by rw [← hF]; exact List.mem_append_left _ hb
      obtain ⟨o, ho⟩ := Option.isSome_iff_exists.mp (hA.live b (List.mem_append_left _ hbF))
      have e1 := p'.far b hbF (by simp [hbD, hbI])
      rw [ho] at e1 ⊢
      exact hk' b o hbI e1
  | some x =>
    have hlt : i < xs.length := (List.getElem?_eq_some_iff.mp hx).1
    have hdrop : xs.drop i = x :: xs.drop (i + 1) := by
      rw [List.drop_eq_getElem_cons hlt]
      congr 1
      have := List.getElem?_eq_getElem hlt
      rw [hx] at this; exact (Option.some.inj this).symm
    rw [hdrop] at hL'
    have IF : I ∈ F ++ m' := List.mem_append_left _ hIF
    refine hI.item i x _ T' s' _ _ hx st' IF a'.tok a'.live leg fun v h3 tk3 T3 htk3 hm3 hk3 hT3 htok3 hrep => ?_
    refine wpAny_bind (hI.go i v _ _ _ hm3 fun h4 hst4 hk4 => ?_)
    have hk34 : ∀ b o, b ≠ I → s'.heap.get? b = some o → h4.get? b = some o := fun b o hb e => hk4 b o hb (hk3 b o hb e)
    obtain ⟨p4, a4⟩ := a'.turnF (ex := [I]) (T' := T3) (s' := { s' with heap := h4, toks := tk3 }) ⟨h4, tk3, rfl⟩ (fun b o hb e => hk34 b o (by simpa using hb) e) (fun b hb => by rw [List.mem_singleton.mp hb]; exact hI.live _ _ hst4) (fun b hb => by rw [List.mem_singleton.mp hb]; exact hIF)
      (fun x c e q => hcI x c e (List.mem_singleton.mp q)) hT3 htok3
    have r4 : Rep C.W (view (F ++ m') T3 { s' with heap := h4, toks := tk3 }) x v := hrep T3 _ (fun _ _ e => e) fun b o hb e => hk4 b o (fun q => hb (q ▸ IF)) e
    have hs4 : SlotRep C.W (view (F ++ m') T3 { s' with heap := h4, toks := tk3 }) h4 sl' (.ref D) := hs'.mono p4.le fun b hb o e => by rw [ho'] at hb; cases hb; exact hk34 _ o hDI e
    have hst4' : St' (i + 1) { s' with heap := h4, toks := tk3 }.heap := hst4
    obtain ⟨s4, es4⟩ : ∃ s4 : Shared, s4 = { s' with heap := h4, toks := tk3 } := ⟨_, rfl⟩
    rw [← es4] at p4 a4 r4 hst4' ⊢
    have hs4 : SlotRep C.W (view (F ++ m') T3 s4) s4.heap sl' (.ref D) := by rw [es4]; exact hs4
    -- the frame of the iterator through a step that leaves what stands
    have stk : ∀ m5 T5 s5, PostX [D] F m' T3 s4 m5 T5 s5 → St' (i + 1) s5.heap := by
      intro m5 T5 s5 p5
      refine hI.frame (i + 1) s4.heap s5.heap hst4' fun b hb o e => ?_
      by_cases q : b = I
      · subst q
        exact (p5.far b hIF (by simpa using Ne.symm hDI)).trans e
      · obtain ⟨o', ho'⟩ := hfp b hb q
        have e1 := p4.le.ob b o' (p'.le.ob b o' ho')
        have e2 := view_of e1
        rw [e] at e2
        cases e2
        exact view_of (p5.le.ob b o e1)
    refine wpAny_bind (wpAny_mono (hL' F m' T3 s4 v a4 r4) ?_ fun v s x => (hX v s x).elim)
    rintro _ s5 ⟨σ5, m5, T5, q5, p5, a5⟩
    refine wpAny_bind (wpAny_mono (q5 F m5 T5 s5 a5) ?_ fun v s x => (hX v s x).elim)
    rintro ok s6 ⟨ok', σ6, m6, T6, q6, p6, a6, r6⟩
    have r6 : ok' = ok := r6
    subst r6
    have p56 := p5.trans p6
    have hs6 : SlotRep C.W (view (F ++ m6) T6 s6) s6.heap sl' (.ref D) := hs4.mono p56.le fun b hb o e => by rw [ho'] at hb; cases hb; exact (p56.far D hDF).trans e
    have p06 : PostX [D, I] F m0 T0 s0 m6 T6 s6 := (p'.trans (p4.mono (by simp))).trans (p56.x _)
    cases ok' with
    | false =>
      refine wpAny_pure ⟨rfl, xs.length + 1 - (i + 1), by omega, i + 1, sl', σ6, m6, T6, rfl, hlt, q6.2 rfl, ho', p06, a6, stk _ _ _ (p56.x _), hs6⟩
    | true =>
      refine wpAny_bind (wpAny_mono (q6.1 rfl F m6 T6 s6 hDF hcD a6 ho' hs6) ?_ fun v s x => (hX v s x).elim)
      rintro _ s7 ⟨sl7, σ7, m7, T7, q7, ho7, p7, a7, hs7⟩
      exact wpAny_pure ⟨rfl, xs.length + 1 - (i + 1), by omega, i + 1, sl7, σ7, m7, T7, rfl, hlt, q7, ho7, p06.trans (p7.mono (by simp)), a7, stk _ _ _ ((p56.x _).trans p7), hs7⟩
end
end Sx
end
section
open PySem PySem.W PyProof.Rows PySem.Calls
set_option linter.unusedVariables false
set_option Elab.async false
set_option maxRecDepth 100000
namespace Sx

/-! ## a whole comprehension -/
noncomputable def closGo (cells : List (Str × Addr)) : List (Str × NameKind) → List (Str × Addr) → List (Str × Addr)
  | [], cs => cs
  | (n, k) :: r, cs => if k == .free then closGo cells r ((n, (cells.lookup n).getD 0) :: cs) else closGo cells r cs

theorem closGo_eq {env : Env} : ∀ (names : List (Str × NameKind)) (cs : List (Str × Addr)), (∀ x ∈ names, x.2 = .free → (env.cells.lookup x.1).isSome = true) →
    (forIn names cs fun x (r : List (Str × Addr)) => if x.2 == .free then do let a ← cellOf env x.1; pure (ForInStep.yield ((x.1, a) :: r)) else pure (ForInStep.yield r) : Sem _) = pure (closGo env.cells names cs)
  | [], cs, _ => rfl
  | (n, k) :: r, cs, h => by
    have ih := fun cs => closGo_eq (env := env) r cs fun x hx => h x (List.mem_cons_of_mem _ hx)
    simp only [List.forIn_cons, closGo]
    by_cases hk : (k == NameKind.free) = true
    · rw [if_pos hk, if_pos hk]
      have hs := h (n, k) List.mem_cons_self (by simpa using hk)
      obtain ⟨a, ha⟩ := Option.isSome_iff_exists.mp hs
      have ha : env.cells.lookup n = some a := ha
      have e : cellOf env n = pure a := by unfold cellOf; rw [ha]
      rw [e, ha]
      exact ih _
    · rw [if_neg hk, if_neg hk]
      exact ih _
theorem closureFor_eq {scope : Scope} {env : Env} (h : ∀ x ∈ scope.names, x.2 = .free → (env.cells.lookup x.1).isSome = true) : closureFor scope env = pure (closGo env.cells scope.names []) := by
  have := closGo_eq (env := env) scope.names [] h
  unfold closureFor
  show (forIn scope.names [] fun (x : Str × NameKind) (r : List (Str × Addr)) => if x.2 == .free then do let a ← cellOf env x.1; pure (ForInStep.yield ((x.1, a) :: r)) else pure (ForInStep.yield r)) >>= _ = _
  rw [this]; rfl

theorem closGo_lookup {cells : List (Str × Addr)} {x : Str} {c : Addr} : ∀ (names : List (Str × NameKind)) (cs : List (Str × Addr)), (closGo cells names cs).lookup x = some c → cs.lookup x = some c ∨ ((x, NameKind.free) ∈ names ∧ c = (cells.lookup x).getD 0)
  | [], cs, h => .inl h
  | (n, k) :: r, cs, h => by
    unfold closGo at h
    by_cases hk : (k == NameKind.free) = true
    · rw [if_pos hk] at h
      rcases closGo_lookup r _ h with h | ⟨h1, h2⟩
      · rw [List.lookup_cons] at h
        cases hx : x == n with
        | true =>
          rw [hx] at h
          have e : x = n := by simpa using hx
          have : k = .free := by simpa using hk
          subst e; subst this
          exact .inr ⟨List.mem_cons_self, by simpa using h.symm⟩
        | false => rw [hx] at h; exact .inl h
      · exact .inr ⟨List.mem_cons_of_mem _ h1, h2⟩
    · rw [if_neg hk] at h
      rcases closGo_lookup r _ h with h | ⟨h1, h2⟩
      · exact .inl h
      · exact .inr ⟨List.mem_cons_of_mem _ h1, h2⟩
theorem closGo_keeps {cells : List (Str × Addr)} {x : Str} : ∀ (names : List (Str × NameKind)) (cs : List (Str × Addr)), (cs.lookup x).isSome = true → ((closGo cells names cs).lookup x).isSome = true
  | [], cs, h => h
  | (n, k) :: r, cs, h => by
    unfold closGo
    split
    · refine closGo_keeps r _ ?_
      rw [List.lookup_cons]; cases x == n <;> simp [h]
    · exact closGo_keeps r _ h
theorem closGo_has {cells : List (Str × Addr)} {x : Str} : ∀ (names : List (Str × NameKind)) (cs : List (Str × Addr)), (x, NameKind.free) ∈ names → ((closGo cells names cs).lookup x).isSome = true
  | [], cs, h => by cases h
  | (n, k) :: r, cs, h => by
    unfold closGo
    rcases List.mem_cons.mp h with e | h
    · injection e with e1 e2
      subst e1; subst e2
      rw [if_pos (show (NameKind.free == NameKind.free) = true from rfl)]
      exact closGo_keeps r _ (by rw [List.lookup_cons]; simp)
    · split
      · exact closGo_has r _ h
      · exact closGo_has r _ h

theorem relabel_lookup {env : Env} : ∀ {names : List (Str × NameKind)} {x : Str} {k : NameKind},
    (names.map fun (n, k) => if (k == NameKind.free && env.scope.kind == .function && env.kindOf n == some .cell) then (n, NameKind.cell) else (n, k)).lookup x = some k → (x, k) ∈ names ∨ (k = .cell ∧ (x, NameKind.free) ∈ names)
  | [], _, _, h => by simp at h
  | (n, k') :: r, x, k, h => by
    rw [List.map_cons] at h
    by_cases hc : (k' == NameKind.free && env.scope.kind == .function && env.kindOf n == some .cell) = true
    · simp only [hc, if_true, List.lookup_cons] at h
      have hk' : k' = .free := by
        rw [Bool.and_eq_true, Bool.and_eq_true] at hc
        simpa using hc.1.1
      cases hx : x == n with
      | true =>
        rw [hx] at h
        have e : x = n := by simpa using hx
        subst e; subst hk'
        exact .inr ⟨by simpa using h.symm, List.mem_cons_self⟩
      | false =>
        rw [hx] at h
        rcases relabel_lookup h with h | ⟨h1, h2⟩
        · exact .inl (List.mem_cons_of_mem _ h)
        · exact .inr ⟨h1, List.mem_cons_of_mem _ h2⟩
    · simp only [hc, Bool.false_eq_true, if_false, List.lookup_cons] at h
      cases hx : x == n with
      | true =>
        rw [hx] at h
        have e : x = n := by simpa using hx
        subst e
        have h : k' = k := by simpa using h
        subst h
        exact .inl List.mem_cons_self
      | false =>
        rw [hx] at h
        rcases relabel_lookup (by simpa using h) with h | ⟨h1, h2⟩
        · exact .inl (List.mem_cons_of_mem _ h)
        · exact .inr ⟨h1, List.mem_cons_of_mem _ h2⟩

noncomputable def compCx (C : Cx) (scope : Scope) (cl : List (Str × Addr)) (L : Addr) : Cx := { W := C.W, A := C.A, env := compEnvC scope cl L C.env, ownC := false, X := fun _ _ => False, an := none }
theorem compCx_ok {C : Cx} {n : Nat} {scope : Scope} {cl : List (Str × Addr)} {L : Addr} (ok : C.Ok n) (hk : scope.kind = .function) : (compCx C scope cl L).Ok n :=
  { W := ok.W, hh := ok.hh, hu := ok.hu, hd := ok.hd, hk := hk, hg := ok.hg, hb := ok.hb, hx := PassesOwn.never }

/-- what a comprehension sees of the frame around it -/
noncomputable def capSt (fv : List String) (σ : St) : St := fv.filterMap fun x => match find σ (Str.ofString x) with | some (.val u) => some (x, .val u) | _ => none
theorem find_capSt {fv : List String} {σ : St} {y : Str} {sl : Slot} (h : find (capSt fv σ) y = some sl) : ∃ x ∈ fv, y = Str.ofString x ∧ find σ y = some sl ∧ ∃ u, sl = .val u := by
  unfold capSt at h
  induction fv with
  | nil => simp [find] at h
  | cons x r ih =>
    rw [List.filterMap_cons] at h
    split at h
    · obtain ⟨z, h1, h2⟩ := ih h; exact ⟨z, List.mem_cons_of_mem _ h1, h2⟩
    · rename_i p hp
      split at hp
      · rename_i u hu
        cases hp
        simp only [find] at h
        by_cases e : Str.ofString x = y
        · rw [if_pos e] at h
          cases h
          exact ⟨x, List.mem_cons_self, e.symm, e ▸ hu, u, rfl⟩
        · rw [if_neg e] at h
          obtain ⟨z, h1, h2⟩ := ih h; exact ⟨z, List.mem_cons_of_mem _ h1, h2⟩
      · cases hp

/-- a scope is a comprehension's: what the walk asks of it -/
structure CompOk (C : Cx) (scope : Scope) (fv : List String) : Prop where
  hkind : scope.kind = .function
  hcell : ∀ y ∈ scope.names, y.2 ≠ .cell
  hnames : ∀ y ∈ scope.names, y.2 = .local → scope.names.lookup y.1 = some .local
  hfree : ∀ y ∈ scope.names, y.2 = .free → C.env.kindOf y.1 = some .cell ∨ C.env.kindOf y.1 = some .free
  hfv : ∀ x ∈ fv, (C.env.kindOf (Str.ofString x) = some .cell ∨ C.env.kindOf (Str.ofString x) = some .free) ∧ ((relabel scope C.env).names.lookup (Str.ofString x) = some .cell ∨ (relabel scope C.env).names.lookup (Str.ofString x) = some .free)

theorem comp_core {C : Cx} {n : Nat} (ok : C.Ok n) {σ : St} {F mine : List Addr} {T : TM} {s₁ : Shared} (hA : Abs C F mine T σ s₁) {e : Expr} {scope : Scope} {fv : List String} (hc : CompOk C scope fv) {target : Expr} {ifs : List Expr} {ip : Pos} {a : V} {xs : List V} {va : Value}
    (hr : Rep C.W (view (F ++ mine) T s₁) a va) (hxs : seqOf a = some xs) (hrun : RunOk target a) {newAcc : Sem Value} {o0 : Obj} {sl0 : Addr → Slot} {tail : Value → Env → Sem Unit} {K : Slot → St → Prop} {E : Value → Shared → Prop} {RR : Value → Addr → Result → Shared → Prop}
    (hnew : ∀ (s : Shared) (Q : Value → Shared → Prop), Q (.ref s.heap.objs.size) { s with heap := s.heap.push o0 } → wpAny C.M C.A newAcc Q E s) (hfr : o0.isFreed = false)
    (hsl : ∀ g (h : Heap) D, (D == sysModules) = false → h.get? D = some o0 → SlotRep C.W g h (sl0 D) (.ref D) ∧ (sl0 D).adr = some D)
    (hstart : ∀ I D env R (s : Shared), codeAny C.M C.A (.compLoop e 0 (.ref I) (.ref D) env) R s → wpAny C.M C.A (pyIter (.ref I)) (fun it' s' => codeAny C.M C.A (.compLoop e 0 it' (.ref D) env) R s') (notedBy C.M C.A env fun x s' => R (.error x) s') s → codeAny C.M C.A (.compStart e 0 (.ref I) (.ref D) env) R s)
    (hturn : ∀ I D env, compTurn e 0 (.ref I) (.ref D) env = turnT ip target ifs (.ref I) env (tail (.ref D) env) (.compLoop e 0 (.ref I) (.ref D) env)) (hframe : ∀ I D env, (Code.compLoop e 0 (.ref I) (.ref D) env).isFrame = false) (hquiet : ∀ I D env, (Code.compLoop e 0 (.ref I) (.ref D) env).quiet = true) (hunder : ∀ I D env, C.A.under (.compLoop e 0 (.ref I) (.ref D) env) = C.A)
    (hL : ∀ cl D L, (compCx C scope cl L).Ok n → CLoop (compCx C scope cl L) D target ifs (tail (.ref D) (compCx C scope cl L).env) K xs (sl0 D) (capSt fv σ))
    (hRR : ∀ D L s' T' sl σ', s₁.heap.get? D = none → s₁.heap.get? L = none → D ≠ L → (∃ m, s'.heap.Ns L m) → Kp T s₁ T' s' → K sl σ' → sl.adr = some D → (s'.heap.get? D).isSome = true → SlotRep C.W (view (D :: L :: (F ++ mine)) T' s') s'.heap sl (.ref D) → RR (.ref D) L (.ok .next) s') :
    wpAny C.M C.A (pyIter va) (fun it s₂ => wpAny C.M C.A newAcc (fun acc s₃ =>
      wpAny C.M C.A (newFunctionEnv scope C.env.globals (closGo C.env.cells scope.names []) [] C.env.qual none .none (some C.env)) (fun cenv s₄ =>
        codeAny C.M C.A (.compStart e 0 it acc { cenv with scope := relabel scope C.env }) (RR acc cenv.locals) s₄) E s₃) E s₂) E s₁ := by
  refine itr_of (target := target) ok.hh hxs hrun hr fun I h2 fp St Mid hnew1 hk2 hI hst hfp => ?_
  refine hnew _ _ ?_
  obtain ⟨D, hD⟩ : ∃ D, h2.objs.size = D := ⟨_, rfl⟩
  show wpAny C.M C.A (newFunctionEnv scope C.env.globals (closGo C.env.cells scope.names []) [] C.env.qual none .none (some C.env)) (fun cenv s₄ => codeAny C.M C.A (.compStart e 0 (.ref I) (.ref h2.objs.size) { cenv with scope := relabel scope C.env }) (RR (.ref h2.objs.size) cenv.locals) s₄) E { s₁ with heap := h2.push o0 }
  obtain ⟨h3, hh3⟩ : ∃ h3, h2.push o0 = h3 := ⟨_, rfl⟩
  have hD3 : h3.get? D = some o0 := by rw [← hh3, ← hD]; exact Heap.get?_push_size _ hfr
  have hk3 : ∀ b o, h2.get? b = some o → h3.get? b = some o := fun b o e => by rw [← hh3]; exact Heap.get?_push_of_some _ e
  rw [hh3, hD]
  refine wpAny_newFunctionEnv hc.hcell (by intro y hy; simp at hy) (fun h4 hns hsb => ?_) hc.hkind
  obtain ⟨L, hLe⟩ : ∃ L, h3.objs.size = L := ⟨_, rfl⟩
  have hns : h4.Ns L (fun x => ([] : List (Str × Value)).reverse.lookup x) := hLe ▸ hns
  have hsb : Heap.SameBut L (h3.push { cls := .type "dict", data := .dict #[] }) h4 := hLe ▸ hsb
  show codeAny C.M C.A (.compStart e 0 (.ref I) (.ref D) (compEnvC scope (closGo C.env.cells scope.names []) h3.objs.size C.env)) (RR (.ref D) h3.objs.size) { s₁ with heap := h4, toks := s₁.toks + 0 }
  rw [hLe, Nat.add_zero]
  obtain ⟨cl, hcl⟩ : ∃ cl, closGo C.env.cells scope.names [] = cl := ⟨_, rfl⟩
  rw [hcl]
  have hL3 : h3.get? L = none := hLe ▸ fresh_size h3
  have hk4 : ∀ b o, h3.get? b = some o → h4.get? b = some o := fun b o e => hsb.extBut b o (fun q => by rw [q, hL3] at e; cases e) (Heap.get?_push_of_some _ e)
  have hk14 : ∀ b o, s₁.heap.get? b = some o → h4.get? b = some o := fun b o e => hk4 b o (hk3 b o (hk2 b o e))
  have hD1 : s₁.heap.get? D = none := by
    cases q : s₁.heap.get? D with
    | none => rfl
    | some o => have := Heap.lt_size (hk2 _ _ q); rw [hD] at this; exact absurd this (Nat.lt_irrefl _)
  have hL1 : s₁.heap.get? L = none := by
    cases q : s₁.heap.get? L with
    | none => rfl
    | some o => rw [hk3 _ _ (hk2 _ _ q)] at hL3; cases hL3
  have hDL : D ≠ L := fun q => by rw [q, hL3] at hD3; cases hD3
  have hIl : (h2.get? I).isSome = true := hI.live 0 _ hst
  have hDI : D ≠ I := fun q => by
    obtain ⟨o, ho⟩ := Option.isSome_iff_exists.mp hIl
    have := Heap.lt_size ho; rw [← q, ← hD] at this; exact absurd this (Nat.lt_irrefl _)
  have hIL : I ≠ L := fun q => by
    obtain ⟨o, ho⟩ := Option.isSome_iff_exists.mp hIl
    have := hk3 _ _ ho; rw [q, hL3] at this; cases this
  have nF : ∀ b ∈ F ++ mine, b ≠ I ∧ b ≠ D ∧ b ≠ L := fun b hb => ⟨fun q => (by have := hA.live b hb; rw [q, hnew1] at this; cases this), fun q => (by have := hA.live b hb; rw [q, hD1] at this; cases this), fun q => (by have := hA.live b hb; rw [q, hL1] at this; cases this)⟩
  obtain ⟨mo, cmo, fo⟩ := hA.frm
  have hcl1 : ∀ x c, cl.lookup x = some c → C.env.cells.lookup x = some c := by
    intro x c hx
    rw [← hcl] at hx
    rcases closGo_lookup _ _ hx with h | ⟨h1, h2⟩
    · cases h
    · obtain ⟨c', hc'⟩ := fo.has x (hc.hfree _ h1 rfl)
      rw [hc'] at h2
      rw [hc', h2]; rfl
  have hcN : ∀ x c, cl.lookup x = some c → c ≠ I ∧ c ≠ D ∧ c ≠ L := fun x c hx => nF c (fo.cown x c (hcl1 x c hx))
  have s4k : Kp T s₁ T { s₁ with heap := h4 } := Kp.at (tk := s₁.toks) hA.tok hk14 (Nat.le_refl _)
  obtain ⟨F₀, hF₀⟩ : ∃ F₀, (F ++ mine) ++ [D] = F₀ := ⟨_, rfl⟩
  have mF₀ : ∀ b, b ∈ F₀ ↔ (b ∈ F ++ mine ∨ b = D) := fun b => by rw [← hF₀]; simp only [List.mem_append, List.mem_singleton]
  have mFa : ∀ b, b ∈ (F₀ ++ [I]) ++ [L] ↔ (b ∈ F ++ mine ∨ b = D ∨ b = I ∨ b = L) := fun b => by
    simp only [List.mem_append, List.mem_singleton, mF₀]
    constructor
    · rintro (((h | h) | h) | h)
      · exact .inl h
      · exact .inr (.inl h)
      · exact .inr (.inr (.inl h))
      · exact .inr (.inr (.inr h))
    · rintro (h | h | h | h)
      · exact .inl (.inl (.inl h))
      · exact .inl (.inl (.inr h))
      · exact .inl (.inr h)
      · exact .inr h
  have le4 : Le (view (F ++ mine) T s₁) (view ((F₀ ++ [I]) ++ [L]) T { s₁ with heap := h4 }) := ⟨fun b o e => view_mk (fun hm => by
    have e1 := view_of e
    rcases (mFa b).mp hm with h | h | h | h
    · exact view_not e h
    · rw [h, hD1] at e1; cases e1
    · rw [h, hnew1] at e1; cases e1
    · rw [h, hL1] at e1; cases e1) (hk14 b o (view_of e)), fun _ _ e => e⟩
  have hDs : (D == sysModules) = false := by
    have h1 := ok.W.sysm
    obtain ⟨o, ho⟩ := Option.isSome_iff_exists.mp h1
    have := hA.ownOk.kb _ _ ho
    cases q : D == sysModules with
    | false => rfl
    | true => rw [show D = sysModules by simpa using q, this] at hD1; cases hD1
  obtain ⟨hsl4, had⟩ := hsl (view ((F₀ ++ [I]) ++ [L]) T { s₁ with heap := h4 }) h4 D hDs (hk4 _ _ hD3)
  have okC : (compCx C scope cl L).Ok n := compCx_ok ok hc.hkind
  have habs : Abs (compCx C scope cl L) (F₀ ++ [I]) [L] T (capSt fv σ) { s₁ with heap := h4 } := by
    refine ⟨fun b o e => le4.ob b o (hA.base b o e), fun b hb => ?_, fun b hb hF => ?_, hA.tok, fun x => ([] : List (Str × Value)).reverse.lookup x, cmo, ?_⟩
    · rcases (mFa b).mp hb with h | h | h | h
      · exact s4k.live hA.live b h
      · subst h; show (h4.get? b).isSome = true; rw [hk4 _ _ hD3]; rfl
      · subst h
        obtain ⟨o, ho⟩ := Option.isSome_iff_exists.mp hIl
        show (h4.get? b).isSome = true
        rw [hk4 _ _ (hk3 _ _ ho)]; rfl
      · subst h
        obtain ⟨o, _, _, ho, _⟩ := hns
        show (h4.get? b).isSome = true
        rw [ho]; rfl
    · rw [List.mem_singleton.mp hb] at hF
      rcases List.mem_append.mp hF with h | h
      · rcases (mF₀ L).mp h with h | h
        · exact (nF L h).2.2 rfl
        · exact hDL h.symm
      · exact hIL (List.mem_singleton.mp h).symm
    · refine { ns := hns, cells := fun x c e => (fo.cells x c (hcl1 x c e)).keeps hk14, apart := fun x y c e1 e2 => fo.apart x y c (hcl1 x c e1) (hcl1 y c e2), lc := fun x c e => (hcN x c e).2.2, has := fun x hx => ?_, lm := List.mem_singleton.mpr rfl,
               cown := fun x c e => List.mem_append_left _ (List.mem_append_left _ ((mF₀ c).mpr (.inl (fo.cown x c (hcl1 x c e))))), cmine := fun h => (by cases h), slots := fun x sl hx => ?_, own := fun x sl b hx hb => ?_, dis := fun x y sl sl' b hx _ hb _ => ?_ }
      · have hm : (x, NameKind.free) ∈ scope.names := by
          rcases hx with hx | hx
          · rcases relabel_lookup (env := C.env) hx with h | h
            · exact absurd rfl (hc.hcell _ h)
            · exact h.2
          · rcases relabel_lookup (env := C.env) hx with h | h
            · exact h
            · exact h.2
        have := closGo_has (cells := C.env.cells) scope.names [] hm
        rw [hcl] at this
        exact Option.isSome_iff_exists.mp this
      · obtain ⟨y, hy, rfl, hf, u, rfl⟩ := find_capSt hx
        obtain ⟨v, hv, hrv⟩ := fo.slots _ _ hf
        refine ⟨v, .inl ?_, hrv.mono le4 fun b hb => by cases hb⟩
        have hv := hv.val
        obtain ⟨h1, h2⟩ := hc.hfv y hy
        have e1 : cmo (Str.ofString y) = some v := by
          unfold valAt at hv
          rcases h1 with h1 | h1 <;> rw [h1] at hv <;> exact hv
        have h2 : (compCx C scope cl L).env.kindOf (Str.ofString y) = some .cell ∨ (compCx C scope cl L).env.kindOf (Str.ofString y) = some .free := h2
        unfold valAt
        rcases h2 with h2 | h2 <;> rw [h2] <;> exact e1
      · obtain ⟨y, hy, rfl, hf, u, rfl⟩ := find_capSt hx
        cases hb
      · obtain ⟨y, hy, rfl, hf, u, rfl⟩ := find_capSt hx
        cases hb
  have hIF₀ : I ∉ F₀ := fun q => by
    rcases (mF₀ I).mp q with h | h
    · exact (nF I h).1 rfl
    · exact hDI h.symm
  have hDF₀ : D ∈ F₀ := (mF₀ D).mpr (.inr rfl)
  have hDf : D ∉ fp := fun q => by
    obtain ⟨o, ho⟩ := hfp D q hDI
    have := view_of ho; rw [hD1] at this; cases this
  have key : ∀ (s : Shared), s = { s₁ with heap := h4 } → codeAny C.M C.A (.compLoop e 0 (.ref I) (.ref D) (compEnvC scope cl L C.env)) (RR (.ref D) L) s := by
    rintro s rfl
    have hst4 : St 0 h4 := hI.frame 0 h2 h4 hst fun b _ o e => hk4 b o (hk3 b o e)
    refine comp_loop (C := compCx C scope cl L) (c := .compLoop e 0 (.ref I) (.ref D) (compEnvC scope cl L C.env)) (ip := ip) (tail := tail (.ref D) (compEnvC scope cl L C.env)) (K := K) (fun v s h => h) (hquiet _ _ _) ?_ ?_ hI hIF₀ hDF₀ hDI hDf (fun x c e => (hcN x c e).1) (fun x c e => (hcN x c e).2.1) (fun b hb hne => ?_) le4 habs hst4 had hsl4 (hL cl D L okC) ?_
    · show (if (Code.compLoop e 0 (.ref I) (.ref D) (compEnvC scope cl L C.env)).isFrame then _ else _) = _
      rw [hframe, hturn]; rfl
    · exact hunder _ _ _
    · obtain ⟨o, ho⟩ := hfp b hb hne
      exact ⟨o, le4.ob b o ho⟩
    · intro s' sl' σ' m' T' hK ho' same le far a' hs'
      have hkp : Kp T s₁ T' s' := by
        refine ⟨?_, fun b o e => ?_, fun t l e => le.tk t l e, a'.tok⟩
        · obtain ⟨h', tk, rfl⟩ := same
          exact ⟨h', tk, rfl⟩
        · by_cases hb : b ∈ F ++ mine
          · exact (far b ((mF₀ b).mpr (.inl hb)) (nF b hb).2.1).trans (hk14 b o e)
          · exact view_of (le.ob b o (le4.ob b o (view_mk hb e)))
      have hLm : L ∈ m' := by obtain ⟨m, cm, f⟩ := a'.frm; exact f.lm
      refine hRR D L s' T' sl' σ' hD1 hL1 hDL ?_ hkp hK ho' (a'.live D (List.mem_append_left _ hDF₀)) (hs'.mono (view_sub fun b hb => ?_) fun _ _ _ e => e)
      · obtain ⟨m, cm, f⟩ := a'.frm
        exact ⟨m, f.ns⟩
      · rcases List.mem_cons.mp hb with rfl | hb
        · exact List.mem_append_left _ hDF₀
        · rcases List.mem_cons.mp hb with rfl | hb
          · exact List.mem_append_right _ hLm
          · exact List.mem_append_left _ ((mF₀ b).mpr (.inl hb))
  refine hstart I D _ _ _ (key _ rfl) (hI.iter 0 _ _ _ ?_ (key _ rfl))
  exact hI.frame 0 h2 h4 hst fun b _ o e => hk4 b o (hk3 b o e)
end Sx
end
section
open PySem PySem.W PyProof.Rows PySem.Calls
set_option linter.unusedVariables false
set_option Elab.async false
set_option maxRecDepth 100000
namespace Sx

structure CompForm (C : Cx) (e : Expr) (scope : Scope) (iter target : Expr) (ifs : List Expr) (ip : Pos) (newAcc : Sem Value) (o0 : Obj) (sl0 : Addr → Slot) (tail : Value → Env → Sem Unit) : Prop where
  hcl : ∃ g gs, clausesOf e = g :: gs ∧ g.iter = iter
  hnew : ∀ (E : Value → Shared → Prop) (s : Shared) (Q : Value → Shared → Prop), Q (.ref s.heap.objs.size) { s with heap := s.heap.push o0 } → wpAny C.M C.A newAcc Q E s
  hfr : o0.isFreed = false
  hsl : ∀ g (h : Heap) D, (D == sysModules) = false → h.get? D = some o0 → SlotRep C.W g h (sl0 D) (.ref D) ∧ (sl0 D).adr = some D
  hstart : ∀ I D env R (s : Shared), codeAny C.M C.A (.compLoop e 0 (.ref I) (.ref D) env) R s → wpAny C.M C.A (pyIter (.ref I)) (fun it' s' => codeAny C.M C.A (.compLoop e 0 it' (.ref D) env) R s') (notedBy C.M C.A env fun x s' => R (.error x) s') s → codeAny C.M C.A (.compStart e 0 (.ref I) (.ref D) env) R s
  hturn : ∀ I D env, compTurn e 0 (.ref I) (.ref D) env = turnT ip target ifs (.ref I) env (tail (.ref D) env) (.compLoop e 0 (.ref I) (.ref D) env)
  hframe : ∀ I D env, (Code.compLoop e 0 (.ref I) (.ref D) env).isFrame = false
  hquiet : ∀ I D env, (Code.compLoop e 0 (.ref I) (.ref D) env).quiet = true
  hunder : ∀ I D env, C.A.under (.compLoop e 0 (.ref I) (.ref D) env) = C.A

theorem compForm_list {C : Cx} {elt iter target : Expr} {ifs : List Expr} {scope : Scope} {pos : Pos} :
    CompForm C (.ListComp elt [⟨target, iter, ifs, 0⟩] scope pos) scope iter target ifs iter.pos (newList []) { cls := .type "list", data := .seq #[] } (fun D => .list D []) (fun acc env => do let _ ← call (.builtin "list.append") [acc, ← eval elt env]) where
  hcl := ⟨_, _, rfl, rfl⟩
  hnew := fun E s Q h => wpAny_newObj_type h
  hfr := rfl
  hsl := fun g h D _ e => ⟨⟨rfl, [], ⟨0, e⟩, .nil⟩, rfl⟩
  hstart := fun I D env R s h0 h => codeAny_compStart_list h0 h
  hturn := fun I D env => by rfl
  hframe := fun I D env => rfl
  hquiet := fun I D env => rfl
  hunder := fun I D env => rfl

theorem hclos_of {C : Cx} {σ : St} {F mine : List Addr} {T : TM} {s : Shared} (hA : Abs C F mine T σ s) {scope : Scope} {fv : List String} (hc : CompOk C scope fv) : closureFor scope C.env = pure (closGo C.env.cells scope.names []) := by
  obtain ⟨m, cm, f⟩ := hA.frm
  exact closureFor_eq fun x hx hk => by
    obtain ⟨c, e⟩ := f.has x.1 (hc.hfree x hx hk)
    rw [e]; rfl

section
variable {C : Cx} {σ : St}
/-- a comprehension as an expression -/
theorem comp_ev {n : Nat} (ok : C.Ok n) {e : Expr} {scope : Scope} {iter target : Expr} {ifs : List Expr} {ip pos : Pos} {newAcc : Sem Value} {o0 : Obj} {sl0 : Addr → Slot} {tail : Value → Env → Sem Unit} (cf : CompForm C e scope iter target ifs ip newAcc o0 sl0 tail)
    {fv : List String} (hc : CompOk C scope fv) {Q : Slot → St → Prop}
    (h : Ev C σ iter (fun a σ1 => ∃ xs, seqOf a = some xs ∧ RunOk target a ∧ ∀ cl D L, (compCx C scope cl L).Ok n → CLoop (compCx C scope cl L) D target ifs (tail (.ref D) (compCx C scope cl L).env) (fun sl _ => Q sl σ1) xs (sl0 D) (capSt fv σ1)))
    (hs : ∀ x, foldedSetIterable iter C.env x = pure x := by intro _; rfl) : EvF C σ (comprehension e scope C.env pos newAcc false (eval iter C.env) none) Q := by
  intro F mine T s hA
  obtain ⟨g, gs, hg, rfl⟩ := cf.hcl
  refine wpAny_comprehension_free (use := none) hg hs (hclos_of hA hc) hc.hkind hc.hnames (Tr.then h hA fun va s1 a σ1 m1 T1 hq_ p1 a1 r1 => ?_)
  obtain ⟨xs, hxs, hrun, hL⟩ := hq_
  refine comp_core ok a1 hc r1 hxs hrun (cf.hnew _) cf.hfr cf.hsl cf.hstart cf.hturn cf.hframe cf.hquiet cf.hunder hL ?_ (RR := fun acc L => compPost C.M C.A C.X none (fun v s' => ∃ sl σ' mine' a T', Q sl σ' ∧ sl.adr = some a ∧ Post F mine T s (a :: mine') T' s' ∧ a ∉ mine' ∧ AbsN C F mine' a T' σ' s' ∧ SlotRep C.W (view (F ++ (a :: mine')) T' s') s'.heap sl v) acc L)
  rintro D L s' T' sl σ' hD hL hDL ⟨m, hns⟩ hk hK ho hlv hsl
  refine ⟨m, hns, fun h' hs' => ?_⟩
  have k2 : Kp T1 s1 T' { s' with heap := h' } := by
    obtain ⟨h0, t0, rfl⟩ := hk.same
    exact ⟨⟨h', t0, rfl⟩, fun b o e => hs'.extBut b o (fun q => by rw [q, hL] at e; cases e) (hk.keep b o e), hk.tle, hk.tok⟩
  have hlv' : (h'.get? D).isSome = true := by
    obtain ⟨o, hoo⟩ := Option.isSome_iff_exists.mp hlv
    rw [hs'.extBut D o hDL hoo]; rfl
  obtain ⟨p2, hm, a2, le⟩ := a1.new k2 hD hlv'
  refine ⟨sl, σ1, m1, D, T', hK, ho, p1.trans p2, hm, a2, ?_⟩
  have s1' : SlotRep C.W (view (D :: L :: (F ++ m1)) T' { s' with heap := h' }) h' sl (.ref D) := by
    refine hsl.mono ⟨fun b o e => view_mk (view_not e) (hs'.extBut b o (fun q => view_not e (by rw [q]; exact List.mem_cons_of_mem _ List.mem_cons_self)) (view_of e)), fun _ _ e => e⟩ fun b hb o e => ?_
    rw [ho] at hb
    cases hb
    exact hs'.extBut D o hDL e
  refine s1'.mono ((view_sub fun b hb => ?_).trans le) fun _ _ _ e => e
  rcases List.mem_cons.mp hb with rfl | hb
  · exact List.mem_cons_self
  · exact List.mem_cons_of_mem _ (List.mem_cons_of_mem _ hb)

/-- a new object beside which another stands that is soon let go -/
theorem Abs.new2 {F mine : List Addr} {T T' : TM} {s s' : Shared} (hA : Abs C F mine T σ s) (k : Kp T s T' s') {a L : Addr} (hn : s.heap.get? a = none) (hnL : s.heap.get? L = none) (haL : a ≠ L) (hs : (s'.heap.get? a).isSome = true) (hsL : (s'.heap.get? L).isSome = true) :
    Abs C (F ++ [L]) (a :: mine) T' σ s' ∧ a ≠ C.env.locals ∧ (∀ y c, C.env.cells.lookup y = some c → c ≠ a ∧ c ≠ L) ∧ (∀ y sl', find σ y = some sl' → sl'.adr ≠ some a) ∧ L ∉ F ++ (a :: mine) ∧ Le (view (F ++ mine) T s) (view ((F ++ [L]) ++ (a :: mine)) T' s') ∧
      Le (view (a :: L :: (F ++ mine)) T' s') (view ((F ++ [L]) ++ (a :: mine)) T' s') := by
  have hnew : ∀ b ∈ F ++ mine, b ≠ a ∧ b ≠ L := fun b hb => ⟨fun e => hA.ownOk.fresh hn (e ▸ hb), fun e => hA.ownOk.fresh hnL (e ▸ hb)⟩
  have hA1 := hA.keeps k
  have mm : ∀ b, b ∈ (F ++ [L]) ++ (a :: mine) ↔ (b ∈ F ++ mine ∨ b = a ∨ b = L) := fun b => by
    simp only [List.mem_append, List.mem_cons, List.not_mem_nil, or_false]
    constructor
    · rintro ((h | h) | h | h)
      · exact .inl (.inl h)
      · exact .inr (.inr h)
      · exact .inr (.inl h)
      · exact .inl (.inr h)
    · rintro ((h | h) | h | h)
      · exact .inl (.inl h)
      · exact .inr (.inr h)
      · exact .inr (.inl h)
      · exact .inl (.inr h)
  have le : Le (view (F ++ mine) T s) (view ((F ++ [L]) ++ (a :: mine)) T' s') := ⟨fun b o e => by
    refine view_mk (fun hm => ?_) (k.keep b o (view_of e))
    have e1 := view_of e
    rcases (mm b).mp hm with hm | rfl | rfl
    · exact view_not e hm
    · rw [hn] at e1
      exact nomatch e1
    · rw [hnL] at e1
      exact (nomatch e1), k.tle⟩
  have eqv : Le (view (a :: L :: (F ++ mine)) T' s') (view ((F ++ [L]) ++ (a :: mine)) T' s') := view_sub fun b hb => by
    rcases (mm b).mp hb with hb | rfl | rfl
    · exact List.mem_cons_of_mem _ (List.mem_cons_of_mem _ hb)
    · exact List.mem_cons_self
    · exact List.mem_cons_of_mem _ List.mem_cons_self
  obtain ⟨m, cm, f⟩ := hA.frm
  have f1 : Frm C F mine T' σ s' m cm := f.keeps k
  refine ⟨⟨fun b o e => le.ob b o (hA.base b o e), fun b hb => ?_, fun b hb hF => ?_, k.tok, m, cm, ?_⟩, fun e => (hnew _ (List.mem_append_right _ f.lm)).1 e.symm, fun y c e => hnew c (f.cown y c e), fun y sl' e ho' => (hnew _ (List.mem_append_right _ (f.own y sl' a e ho').1)).1 rfl, fun hm => ?_, le, eqv⟩
  · rcases (mm b).mp hb with hb | rfl | rfl
    · exact hA1.live b hb
    · exact hs
    · exact hsL
  · rcases List.mem_append.mp hF with hF | hF
    · rcases List.mem_cons.mp hb with rfl | hb
      · exact (hnew b (List.mem_append_left _ hF)).1 rfl
      · exact hA.nin b hb hF
    · have := List.mem_singleton.mp hF
      subst this
      rcases List.mem_cons.mp hb with rfl | hb
      · exact haL rfl
      · exact (hnew b (List.mem_append_right _ hb)).2 rfl
  · refine { ns := f1.ns, cells := f1.cells, apart := f1.apart, lc := f1.lc, has := f1.has, lm := List.mem_cons_of_mem _ f1.lm, cown := ?_, cmine := fun hc y c e => List.mem_cons_of_mem _ (f1.cmine hc y c e), slots := ?_, own := ?_, dis := f1.dis }
    · intro y c e
      exact (mm c).mpr (.inl (f1.cown y c e))
    · intro y sl' e
      obtain ⟨v, hv, hr⟩ := f.slots y sl' e
      exact ⟨v, hv, hr.mono le fun _ _ o e => k.keep _ o e⟩
    · intro y sl' b e ho'
      obtain ⟨q1, q2, q3⟩ := f1.own y sl' b e ho'
      exact ⟨List.mem_cons_of_mem _ q1, q2, q3⟩
  · rcases List.mem_append.mp hm with hm | hm
    · exact (hnew L (List.mem_append_left _ hm)).2 rfl
    · rcases List.mem_cons.mp hm with h | hm
      · exact haL h.symm
      · exact (hnew L (List.mem_append_right _ hm)).2 rfl

/-- x = [..], the road on which the name is bound before the comprehension's own names go -/
theorem comp_use {n : Nat} (ok : C.Ok n) {e : Expr} {scope : Scope} {iter target : Expr} {ifs : List Expr} {ip pos cpos p' : Pos} {newAcc : Sem Value} {o0 : Obj} {sl0 : Addr → Slot} {tail : Value → Env → Sem Unit} (cf : CompForm C e scope iter target ifs ip newAcc o0 sl0 tail)
    {fv : List String} (hc : CompOk C scope fv) {x : String} (hx : isHere C (Str.ofString x) = true) {Q : Fl → St → Prop}
    (h : Ev C σ iter (fun a σ1 => ∃ xs, seqOf a = some xs ∧ RunOk target a ∧ ∀ cl D L, (compCx C scope cl L).Ok n → CLoop (compCx C scope cl L) D target ifs (tail (.ref D) (compCx C scope cl L).env) (fun sl _ => Q .next (put σ1 (Str.ofString x) x sl)) xs (sl0 D) (capSt fv σ1)))
    (hsw : swapsWith e (some (.Name (Str.ofString x) p')) pos.line C.env = pure true)
    (huse : evalThenUse e C.env (assign (.Name (Str.ofString x) p') C.env) = (do let _ ← comprehension e scope C.env cpos newAcc false (eval iter C.env) (some (assign (.Name (Str.ofString x) p') C.env))))
    (hs : ∀ x, foldedSetIterable iter C.env x = pure x := by intro _; rfl) : Ex C σ (.Assign [.Name (Str.ofString x) p'] e pos) Q := by
  intro F mine T s hA
  obtain ⟨g, gs, hg, rfl⟩ := cf.hcl
  rw [exec_Assign_Name_used _ _ _ _ hsw]
  refine wpAny_bind (wpAny_standAt (wpAny_bind ?_))
  rw [huse]
  refine wpAny_bind (wpAny_mono (wpAny_comprehension_free (use := some (assign (.Name (Str.ofString x) p') C.env)) (Q := fun _ s' => ∃ b σ' mine' T', Q b σ' ∧ Post F mine T s mine' T' s' ∧ Abs C F mine' T' σ' s' ∧ FlRep C.W (view (F ++ mine') T' s') b .next) hg hs (hclos_of hA hc) hc.hkind hc.hnames
    (Tr.then h hA fun va s1 a σ1 m1 T1 hq_ p1 a1 r1 => ?_)) (fun _ s' hq => wpAny_pure (wpAny_pure hq)) fun _ _ e => e)
  obtain ⟨xs, hxs, hrun, hL⟩ := hq_
  refine comp_core ok a1 hc r1 hxs hrun (cf.hnew _) cf.hfr cf.hsl cf.hstart cf.hturn cf.hframe cf.hquiet cf.hunder hL ?_ (RR := fun acc L => compPost C.M C.A C.X (some (assign (.Name (Str.ofString x) p') C.env)) (fun _ s' => ∃ b σ' mine' T', Q b σ' ∧ Post F mine T s mine' T' s' ∧ Abs C F mine' T' σ' s' ∧ FlRep C.W (view (F ++ mine') T' s') b .next) acc L)
  rintro D L s' T' sl σ' hD hL hDL ⟨m, hns⟩ hk hK ho hlv hsl
  have hLl : (s'.heap.get? L).isSome = true := by obtain ⟨o, _, _, e, _⟩ := hns; rw [e]; rfl
  obtain ⟨a2, q1, q2, q3, q4, le2, le3⟩ := a1.new2 hk hD hL hDL hlv hLl
  obtain ⟨m2, cm2, f2⟩ := a2.frm
  show wpAny _ _ (assign (.Name (Str.ofString x) p') C.env (.ref D)) _ _ _
  refine wpAny_assign_Name (store_frm ok a2 hx (hsl.mono le3 fun _ _ _ e => e) f2 (fun b hb => ?_) fun s3 p3 a3 => ?_)
  · rw [ho] at hb
    cases hb
    exact ⟨List.mem_cons_self, q1, fun y c e => (q2 y c e).1, fun y sl' e1 e2 => absurd e2 (q3 y sl' e1)⟩
  · have hL3 : s3.heap.get? L = s'.heap.get? L := p3.far L (by simp)
    refine ⟨m, hns.at' fun o e => hL3.trans e, fun h' hs' => ?_⟩
    have sub : ∀ b ∈ F ++ (D :: m1), b ∈ (F ++ [L]) ++ (D :: m1) := fun b hb => by
      rcases List.mem_append.mp hb with hb | hb
      · exact List.mem_append_left _ (List.mem_append_left _ hb)
      · exact List.mem_append_right _ hb
    have nL : ∀ b ∈ F ++ (D :: m1), b ≠ L := fun b hb q => q4 (q ▸ hb)
    have le4 : Le (view ((F ++ [L]) ++ (D :: m1)) T' s3) (view (F ++ (D :: m1)) T' { s3 with heap := h' }) :=
      ⟨fun b o e => view_mk (fun q => view_not e (sub b q)) (hs'.extBut b o (fun q => view_not e (by rw [q]; simp)) (view_of e)), fun _ _ e => e⟩
    have a4 : Abs C F (D :: m1) T' (put σ1 (Str.ofString x) x sl) { s3 with heap := h' } := by
      refine a3.other le4 (fun b o hb e => hs'.extBut b o (nL b (List.mem_append_right _ hb)) e) (fun y c e => ⟨?_, fun o e' => hs'.extBut c o (q2 y c e).2 e'⟩) (fun b hb => ?_) (fun b hb hF => a3.nin b hb (List.mem_append_left _ hF)) a3.tok
      · obtain ⟨m, cm, f⟩ := a3.frm
        have := f.cown y c e
        simp only [List.mem_append, List.mem_singleton] at this ⊢
        rcases this with (h | h) | h
        · exact .inl h
        · exact absurd h (q2 y c e).2
        · exact .inr h
      · obtain ⟨o, ho⟩ := Option.isSome_iff_exists.mp (a3.live b (sub b hb))
        show (h'.get? b).isSome = true
        rw [hs'.extBut b o (nL b hb) ho]; rfl
    have p4 : Post F m1 T1 s1 (D :: m1) T' { s3 with heap := h' } := by
      refine ⟨?_, (le2.trans p3.le).trans le4, fun b hb => ?_⟩
      · obtain ⟨h0, t0, e0⟩ := hk.same
        obtain ⟨h1, t1, rfl⟩ := p3.same
        exact ⟨h', t1, by rw [e0]⟩
      · obtain ⟨o, ho⟩ := Option.isSome_iff_exists.mp (a1.live b (List.mem_append_left _ hb))
        rw [ho]
        exact hs'.extBut b o (nL b (List.mem_append_left _ hb)) ((p3.far b (List.mem_append_left _ hb)).trans (hk.keep b o ho))
    exact ⟨.next, _, _, T', hK, p1.trans p4, a4, .next⟩
end
end Sx
end
section
open PySem PySem.W PyProof.Rows PySem.Calls
set_option linter.unusedVariables false
set_option Elab.async false
set_option maxRecDepth 100000
namespace Sx

noncomputable def LLoop (C : Cx) (target : Expr) (ifs : List Expr) (elt : Expr) (K : List V → Prop) : List V → List V → St → Prop
  | [], ys, σ => K ys
  | x :: xs, ys, σ => Asg C σ target x (fun σ1 => Tsts C σ1 ifs (fun ok σ2 => (ok = true → Ev C σ2 elt (fun y σ3 => LLoop C target ifs elt K xs (ys ++ [y]) σ3)) ∧ (ok = false → LLoop C target ifs elt K xs ys σ2)))
noncomputable def DLoop (C : Cx) (target : Expr) (ifs : List Expr) (kx vx : Expr) (K : List (Key × V) → Prop) : List V → List (Key × V) → St → Prop
  | [], es, σ => K es
  | x :: xs, es, σ => Asg C σ target x (fun σ1 => Tsts C σ1 ifs (fun ok σ2 => (ok = true → Ev C σ2 kx (fun kv σ3 => ∃ k : Key, kv = k.v ∧ Ev C σ3 vx (fun y σ4 => DLoop C target ifs kx vx K xs (dset es k y) σ4))) ∧ (ok = false → DLoop C target ifs kx vx K xs es σ2)))

theorem Asg.mono {C : Cx} {σ : St} {t : Expr} {x : V} {Q Q' : St → Prop} (h : Asg C σ t x Q) (hq : ∀ σ, Q σ → Q' σ) : Asg C σ t x Q' :=
  fun F mine T s v hA hr => wpAny_mono (h F mine T s v hA hr) (fun _ _ ⟨σ', m', T', q, r⟩ => ⟨σ', m', T', hq _ q, r⟩) fun _ _ x => x

theorem LLoop.c {C : Cx} {D : Addr} {target : Expr} {ifs : List Expr} {elt : Expr} {K : List V → Prop} {K' : Slot → St → Prop} (hK : ∀ ys σ, K ys → K' (.list D ys) σ) : ∀ (xs ys : List V) (σ : St), ys.length + xs.length ≤ sizeLine → LLoop C target ifs elt K xs ys σ →
    CLoop C D target ifs (do let _ ← call (.builtin "list.append") [.ref D, ← eval elt C.env]) K' xs (.list D ys) σ
  | [], ys, σ, _, h => hK _ _ h
  | x :: xs, ys, σ, hl, h => by
    rw [List.length_cons] at hl
    refine Asg.mono h fun σ1 h1 => Tr.mono h1 fun ok σ2 h2 => ⟨fun hok => ?_, fun hok => LLoop.c hK xs ys σ2 (by omega) (h2.2 hok)⟩
    refine trA_list (Tr.mono (h2.1 hok) fun y σ3 h3 => opM_append (by omega) ?_)
    exact LLoop.c hK xs (ys ++ [y]) σ3 (by rw [List.length_append, List.length_singleton]; omega) h3
theorem DLoop.c {C : Cx} {D : Addr} {target : Expr} {ifs : List Expr} {kx vx : Expr} {p : Pos} {K : List (Key × V) → Prop} {K' : Slot → St → Prop} (hK : ∀ ys σ, K ys → K' (.dict D ys) σ) : ∀ (xs : List V) (es : List (Key × V)) (σ : St), es.length + xs.length ≤ sizeLine → DLoop C target ifs kx vx K xs es σ →
    CLoop C D target ifs (do
        let kv ← eval kx C.env
        let vv ← holding [kv] (eval vx C.env)
        standAt p
        holding [kv, vv] (dictSet D kv vv)) K' xs (.dict D es) σ
  | [], es, σ, _, h => hK _ _ h
  | x :: xs, es, σ, hl, h => by
    rw [List.length_cons] at hl
    refine Asg.mono h fun σ1 h1 => Tr.mono h1 fun ok σ2 h2 => ⟨fun hok => ?_, fun hok => DLoop.c hK xs es σ2 (by omega) (h2.2 hok)⟩
    refine trA_dict (Tr.mono (h2.1 hok) fun kv σ3 h3 => ?_)
    obtain ⟨k, rfl, h3⟩ := h3
    refine Tr.mono h3 fun y σ4 h4 => opM_dictSet (by omega) ?_
    exact DLoop.c hK xs (dset es k y) σ4 (by have := dset_length es k y; omega) h4

section
variable {C : Cx} {σ : St}
theorem evF_listComp {n : Nat} (ok : C.Ok n) {elt iter target : Expr} {ifs : List Expr} {scope : Scope} {pos : Pos} {fv : List String} (hc : CompOk C scope fv) {Q : Slot → St → Prop}
    (h : Ev C σ iter (fun a σ1 => ∃ xs, seqOf a = some xs ∧ RunOk target a ∧ xs.length ≤ sizeLine ∧ ∀ cl L, (compCx C scope cl L).Ok n → LLoop (compCx C scope cl L) target ifs elt (fun ys => ∀ D, Q (.list D ys) σ1) xs [] (capSt fv σ1)))
    (hs : ∀ x, foldedSetIterable iter C.env x = pure x := by intro _; rfl) : EvF C σ (eval (.ListComp elt [⟨target, iter, ifs, 0⟩] scope pos) C.env) Q := by
  rw [eval_ListComp]
  refine comp_ev ok compForm_list hc (h.mono ?_) hs
  rintro a σ1 ⟨xs, h1, h2, h3, h4⟩
  exact ⟨xs, h1, h2, fun cl D L okC => (h4 cl L okC).c (fun ys _ hk => hk D) xs [] _ (by simpa using h3)⟩
theorem ex_assignListComp {n : Nat} (ok : C.Ok n) {elt iter target : Expr} {ifs : List Expr} {scope : Scope} {cpos pos p' : Pos} {fv : List String} (hc : CompOk C scope fv) {x : String} (hx : isHere C (Str.ofString x) = true) {Q : Fl → St → Prop}
    (h : Ev C σ iter (fun a σ1 => ∃ xs, seqOf a = some xs ∧ RunOk target a ∧ xs.length ≤ sizeLine ∧ ∀ cl L, (compCx C scope cl L).Ok n → LLoop (compCx C scope cl L) target ifs elt (fun ys => ∀ D, Q .next (put σ1 (Str.ofString x) x (.list D ys))) xs [] (capSt fv σ1)))
    (hsw : swapsWith (.ListComp elt [⟨target, iter, ifs, 0⟩] scope cpos) (some (.Name (Str.ofString x) p')) pos.line C.env = pure true)
    (hs : ∀ x, foldedSetIterable iter C.env x = pure x := by intro _; rfl) : Ex C σ (.Assign [.Name (Str.ofString x) p'] (.ListComp elt [⟨target, iter, ifs, 0⟩] scope cpos) pos) Q := by
  refine comp_use ok compForm_list hc hx (h.mono ?_) hsw (by rfl) hs
  rintro a σ1 ⟨xs, h1, h2, h3, h4⟩
  exact ⟨xs, h1, h2, fun cl D L okC => (h4 cl L okC).c (fun ys _ hk => hk D) xs [] _ (by simpa using h3)⟩
end
end Sx
end
section
open PySem PySem.W PyProof.Rows PySem.Calls
set_option linter.unusedVariables false
set_option Elab.async false
set_option maxRecDepth 100000
namespace Sx

noncomputable def dsets (es : List (Key × V)) (more : List (Key × V)) : List (Key × V) := more.foldl (fun es p => dset es p.1 p.2) es
theorem KpB.trans {a : Addr} {T T' T'' : TM} {s s' s'' : Shared} (x : KpB a T s T' s') (y : KpB a T' s' T'' s'') : KpB a T s T'' s'' := by
  obtain ⟨h, t, rfl⟩ := x.same
  obtain ⟨h', t', rfl⟩ := y.same
  exact ⟨⟨h', t', rfl⟩, fun b o hb e => y.keep b o hb (x.keep b o hb e), y.live, fun t l e => y.tle t l (x.tle t l e), y.tok⟩
theorem KpB.own {C : Cx} {a : Addr} {T T' : TM} {own : List Addr} {s s' : Shared} (k : KpB a T s T' s') (ha : a ∈ own) (hO : OwnOk C own T s) : OwnOk C own T' s' := by
  refine ⟨fun b o e => (k.view ha).ob b o (hO.base b o e), fun b hb => ?_, k.tok⟩
  by_cases q : b = a
  · subst q; exact k.live
  · obtain ⟨o, ho⟩ := Option.isSome_iff_exists.mp (hO.live b hb)
    rw [k.keep b o q ho]; rfl

section
variable {C : Cx} {σ : St}

end
end Sx
end
section
open PySem PySem.W PyProof.Rows PySem.Calls
set_option linter.unusedVariables false
set_option Elab.async false
set_option maxRecDepth 100000
namespace Sx

/-! ## dict displays -/
noncomputable def EvK (C : Cx) : List (Sem Value × Sem Value) → List (Key × V) → St → (List (Key × V) → St → Prop) → Prop
  | [], acc, σ, Q => Q acc σ
  | (k, v) :: r, acc, σ, Q => EvT C σ k (fun kv σ1 => ∃ key : Key, kv = key.v ∧ EvT C σ1 v (fun vv σ2 => EvK C r (acc ++ [(key, vv)]) σ2 Q))

noncomputable def RepP (W : Wd) (g : PH) : List (Key × V) → List (Value × Value) → Prop
  | [], [] => True
  | (k, v) :: kvs, (kw, w) :: vs => Rep W g k.v kw ∧ Rep W g v w ∧ RepP W g kvs vs
  | _, _ => False
theorem RepP.mono {W : Wd} {g g' : PH} (h : Le g g') : ∀ {kvs : List (Key × V)} {vs : List (Value × Value)}, RepP W g kvs vs → RepP W g' kvs vs
  | [], [], _ => trivial
  | (k, v) :: kvs, (kw, w) :: vs, hr => ⟨hr.1.mono h, hr.2.1.mono h, RepP.mono h hr.2.2⟩
  | [], _ :: _, hr => hr.elim
  | _ :: _, [], hr => hr.elim
theorem RepP.length {W : Wd} {g : PH} : ∀ {kvs : List (Key × V)} {vs : List (Value × Value)}, RepP W g kvs vs → vs.length = kvs.length
  | [], [], _ => rfl
  | (k, v) :: kvs, (kw, w) :: vs, hr => by rw [List.length_cons, List.length_cons, RepP.length hr.2.2]
  | [], _ :: _, hr => hr.elim
  | _ :: _, [], hr => hr.elim

section
variable {C : Cx} {σ : St}

theorem evK_pairs : ∀ (pairs : List (Sem Value × Sem Value)) (acc : List (Key × V)) (σ : St) (Q : List (Key × V) → St → Prop), EvK C pairs acc σ Q → ∀ F mine T s, Abs C F mine T σ s →
    wpAny C.M C.A (evalPairs pairs) (fun vs s' => ∃ kvs σ' mine' T', Q (acc ++ kvs) σ' ∧ Post F mine T s mine' T' s' ∧ Abs C F mine' T' σ' s' ∧ RepP C.W (view (F ++ mine') T' s') kvs vs ∧ kvs.length = pairs.length) C.X s
  | [], acc, σ, Q, h, F, mine, T, s, hA => evalPairs_nil ⟨[], σ, mine, T, by rw [List.append_nil]; exact h, .refl _ _ _ _, hA, trivial, rfl⟩
  | (k, v) :: r, acc, σ, Q, h, F, mine, T, s, hA => by
    refine evalPairs_cons (Tr.then h hA fun kw s1 _ σ1 m1 T1 hq_ p1 a1 r1 => ?_)
    obtain ⟨key, rfl, hv⟩ := hq_
    refine Tr.then hv a1 fun w s2 vv σ2 m2 T2 hr p2 a2 r2 => ?_
    refine wpAny_mono (evK_pairs r _ σ2 Q hr F m2 T2 s2 a2) ?_ fun _ _ x => x
    rintro vs s3 ⟨kvs, σ3, m3, T3, hq, p3, a3, r3, hlen⟩
    exact ⟨(key, vv) :: kvs, σ3, m3, T3, by rw [List.append_assoc] at hq; exact hq, (p1.trans p2).trans p3, a3, ⟨(r1.mono p2.le).mono p3.le, r2.mono p3.le, r3⟩, by rw [List.length_cons, List.length_cons, hlen]⟩

theorem store_all {own : List Addr} {D : Addr} (hD : D ∈ own) : ∀ (vs : List (Value × Value)) (kvs es : List (Key × V)) (T : TM) (s : Shared) (Q : PUnit → Shared → Prop), OwnOk C own T s → SlotRep C.W (view own T s) s.heap (.dict D es) (.ref D) → RepP C.W (view own T s) kvs vs → es.length + kvs.length ≤ sizeLine →
    (∀ s' T', KpB D T s T' s' → SlotRep C.W (view own T' s') s'.heap (.dict D (dsets es kvs)) (.ref D) → Q PUnit.unit s') →
    wpAny C.M C.A (forIn vs PUnit.unit fun (x : Value × Value) (_ : PUnit) => (do dictSet D x.1 x.2; pure (ForInStep.yield PUnit.unit) : Sem (ForInStep PUnit))) Q C.X s
  | [], [], es, T, s, Q, hO, hs, hr, hl, h => by
    rw [List.forIn_nil]
    exact wpAny_pure (h s T ⟨⟨_, _, rfl⟩, fun _ _ _ e => e, hO.live D hD, fun _ _ e => e, hO.tok⟩ hs)
  | (kw, w) :: vs, (k, v) :: kvs, es, T, s, Q, hO, hs, hr, hl, h => by
    rw [List.length_cons] at hl
    rw [List.forIn_cons]
    refine wpAny_bind (wpAny_bind ?_)
    have := opM_dictSet (C := C) (a := D) (K := fun sl => sl = .dict D (dset es k v)) (by omega) rfl own T s D [kw, w] hO hD rfl hs (.cons hr.1 (.cons hr.2.1 .nil))
    have this : wpAny C.M C.A (dictSet D kw w) _ C.X s := this
    refine wpAny_mono this ?_ fun _ _ x => x
    rintro _ s2 ⟨_, sl2, T2, rfl, _, k2, hs2⟩
    refine wpAny_pure (store_all hD vs kvs (dset es k v) T2 s2 Q (k2.own hD hO) hs2 (hr.2.2.mono (k2.view hD)) (by have := dset_length es k v; omega) fun s' T' k3 hs3 => h s' T' (k2.trans k3) hs3)
  | [], _ :: _, _, _, _, _, _, _, hr, _, _ => hr.elim
  | _ :: _, [], _, _, _, _, _, _, hr, _, _ => hr.elim

/-- a new object, somebody else's for now -/
theorem Abs.lend {F mine : List Addr} {T T' : TM} {s s' : Shared} (hA : Abs C F mine T σ s) (k : Kp T s T' s') {d : Addr} (hn : s.heap.get? d = none) (hl : (s'.heap.get? d).isSome = true) :
    Abs C (F ++ [d]) mine T' σ s' ∧ Le (view (F ++ mine) T s) (view ((F ++ [d]) ++ mine) T' s') ∧ (∀ x c, C.env.cells.lookup x = some c → c ≠ d) ∧ d ∉ F ++ mine := by
  have hnew : ∀ b ∈ F ++ mine, b ≠ d := fun b hb e => hA.ownOk.fresh hn (e ▸ hb)
  have mm : ∀ b, b ∈ (F ++ [d]) ++ mine → b ∈ F ++ mine ∨ b = d := fun b hb => by
    simp only [List.mem_append, List.mem_singleton] at hb ⊢
    rcases hb with (h | h) | h
    · exact .inl (.inl h)
    · exact .inr h
    · exact .inl (.inr h)
  have le : Le (view (F ++ mine) T s) (view ((F ++ [d]) ++ mine) T' s') := ⟨fun b o e => by
    refine view_mk (fun hm => ?_) (k.keep b o (view_of e))
    rcases mm b hm with h | h
    · exact view_not e h
    · have := view_of e
      rw [h, hn] at this
      exact (nomatch this), k.tle⟩
  have hcd : ∀ x c, C.env.cells.lookup x = some c → c ≠ d := fun x c e => by
    obtain ⟨m, cm, f⟩ := hA.frm
    exact hnew c (f.cown x c e)
  refine ⟨hA.other le (fun b o _ e => k.keep b o e) (fun x c e => ⟨?_, fun o e' => k.keep c o e'⟩) (fun b hb => ?_) (fun b hb hF => ?_) k.tok, le, hcd, fun hm => hnew d hm rfl⟩
  · obtain ⟨m, cm, f⟩ := hA.frm
    rcases List.mem_append.mp (f.cown x c e) with h | h
    · exact List.mem_append_left _ (List.mem_append_left _ h)
    · exact List.mem_append_right _ h
  · rcases mm b hb with h | h
    · exact k.live hA.live b h
    · subst h; exact hl
  · rcases List.mem_append.mp hF with h | h
    · exact hA.nin b hb h
    · exact hnew b (List.mem_append_right _ hb) (List.mem_singleton.mp h)

/-- .. and then the frame's own -/
theorem Abs.adopt {F mine : List Addr} {T : TM} {s : Shared} {d : Addr} (hA : Abs C (F ++ [d]) mine T σ s) (hdF : d ∉ F) (hcd : ∀ x c, C.env.cells.lookup x = some c → c ≠ d) :
    AbsN C F mine d T σ s ∧ d ∉ mine ∧ Le (view ((F ++ [d]) ++ mine) T s) (view (F ++ (d :: mine)) T s) := by
  have mm : ∀ b, b ∈ F ++ (d :: mine) ↔ b ∈ (F ++ [d]) ++ mine := fun b => by simp
  have le : Le (view ((F ++ [d]) ++ mine) T s) (view (F ++ (d :: mine)) T s) := view_sub fun b hb => (mm b).mp hb
  have hdm : d ∉ mine := fun h => hA.nin d h (by simp)
  obtain ⟨m, cm, f⟩ := hA.frm
  refine ⟨⟨fun b o e => le.ob b o (hA.base b o e), fun b hb => hA.live b ((mm b).mp hb), fun b hb hF => ?_, hA.tok, m, cm, ?_, fun e => hdm (e ▸ f.lm), hcd, fun y sl e ho => hdm (f.own y sl d e ho).1⟩, hdm, le⟩
  · rcases List.mem_cons.mp hb with rfl | hb
    · exact hdF hF
    · exact hA.nin b hb (List.mem_append_left _ hF)
  · refine { ns := f.ns, cells := f.cells, apart := f.apart, lc := f.lc, has := f.has, lm := List.mem_cons_of_mem _ f.lm, cown := fun x c e => (mm c).mpr (f.cown x c e), cmine := fun hc x c e => List.mem_cons_of_mem _ (f.cmine hc x c e),
             slots := fun x sl e => ?_, own := fun x sl b e ho => ?_, dis := f.dis }
    · obtain ⟨v, hv, hr⟩ := f.slots x sl e
      exact ⟨v, hv, hr.mono le fun _ _ _ e => e⟩
    · obtain ⟨q1, q2, q3⟩ := f.own x sl b e ho
      exact ⟨List.mem_cons_of_mem _ q1, q2, q3⟩

theorem sub_dict {pairs : List (Sem Value × Sem Value)} {Q : List (Key × V) → St → Prop} (hlen : pairs.length ≤ 15) (h : EvK C pairs [] σ Q) (hW : C.W.Ok) {F mine : List Addr} {T : TM} {s : Shared} (hA : Abs C F mine T σ s) :
    wpAny C.M C.A (subDict pairs) (fun d s' => ∃ kvs σ' mine' T', Q kvs σ' ∧ kvs.length = pairs.length ∧ s.heap.get? d = none ∧ d ∉ F ++ mine ∧ (∃ h' tk, s' = { s with heap := h', toks := tk }) ∧ Le (view (F ++ mine) T s) (view ((F ++ [d]) ++ mine') T' s') ∧ (∀ b ∈ F, s'.heap.get? b = s.heap.get? b) ∧
      Abs C (F ++ [d]) mine' T' σ' s' ∧ (∀ x c, C.env.cells.lookup x = some c → c ≠ d) ∧ SlotRep C.W (view ((F ++ [d]) ++ mine') T' s') s'.heap (.dict d (dsets [] kvs)) (.ref d)) C.X s := by
  unfold subDict
  obtain ⟨d, hd⟩ : ∃ d, s.heap.objs.size = d := ⟨_, rfl⟩
  refine wpAny_bind (wpAny_alloc (wpAny_bind (wpAny_holding ?_)))
  rw [if_pos hlen, hd]
  have hn : s.heap.get? d = none := hd ▸ fresh_size _
  have k0 : Kp T s T { s with heap := s.heap.push { cls := .type "dict", data := .dict #[] } } := .push hA.tok (Nat.le_refl _)
  have hd0 : (s.heap.push { cls := .type "dict", data := .dict #[] }).get? d = some { cls := .type "dict", data := .dict #[] } := by rw [← hd]; exact Heap.get?_push_size _ rfl
  obtain ⟨h0, hh0⟩ : ∃ h0, s.heap.push { cls := .type "dict", data := .dict #[] } = h0 := ⟨_, rfl⟩
  rw [hh0] at hd0 k0 ⊢
  obtain ⟨a0, le0, hcd, hdm⟩ := hA.lend k0 hn (by show (h0.get? d).isSome = true; rw [hd0]; rfl)
  have hdF : d ∈ F ++ [d] := by simp
  have hds : (d == sysModules) = false := by
    obtain ⟨o, ho⟩ := Option.isSome_iff_exists.mp hW.sysm
    have := hA.ownOk.kb _ _ ho
    cases q : d == sysModules with
    | false => rfl
    | true => rw [show d = sysModules by simpa using q, this] at hn; cases hn
  refine wpAny_bind (wpAny_mono (evK_pairs pairs [] σ Q h _ _ _ _ a0) ?_ fun _ _ x => x)
  rintro vs s1 ⟨kvs, σ1, m1, T1, hq, p1, a1, r1, hkl⟩
  have hd1 : s1.heap.get? d = some { cls := .type "dict", data := .dict #[] } := (p1.far d hdF).trans hd0
  have hs1 : SlotRep C.W (view ((F ++ [d]) ++ m1) T1 s1) s1.heap (.dict d []) (.ref d) := ⟨rfl, [], [], ⟨hds, _, 0, hd1, ⟨rfl, rfl, rfl⟩, rfl⟩, .nil, List.nodup_nil⟩
  have hsz : ([] : List (Key × V)).length + kvs.length ≤ sizeLine := by rw [sizeLine_eq, List.length_nil, hkl]; omega
  refine wpAny_holding (wpAny_bind (store_all (List.mem_append_left _ hdF) vs kvs [] T1 s1 _ a1.ownOk hs1 r1 hsz fun s2 T2 k2 hs2 => wpAny_pure (wpAny_pure ?_)))
  obtain ⟨p2, a2⟩ := a1.turnF (ex := [d]) k2.same (fun b o hb e => k2.keep b o (by simpa using hb) e) (fun b hb => by rw [List.mem_singleton.mp hb]; exact k2.live) (fun b hb => by rw [List.mem_singleton.mp hb]; exact hdF)
    (fun x c e q => hcd x c e (List.mem_singleton.mp q)) k2.tle k2.tok
  refine ⟨kvs, σ1, m1, T2, by simpa using hq, hkl, hn, hdm, ?_, (le0.trans p1.le).trans p2.le, fun b hb => ?_, a2, hcd, hs2⟩
  · obtain ⟨h1, t1, rfl⟩ := p1.same
    obtain ⟨h2, t2, rfl⟩ := p2.same
    exact ⟨h2, t2, rfl⟩
  · have hbd : b ≠ d := fun q => hdm (by rw [← q]; exact List.mem_append_left _ hb)
    obtain ⟨o, ho⟩ := Option.isSome_iff_exists.mp (hA.live b (List.mem_append_left _ hb))
    rw [ho]
    exact k2.keep b o hbd ((p1.far b (List.mem_append_left _ hb)).trans (k0.keep b o ho))

/-- {k: v, ..} -/
theorem evF_dict {n : Nat} (ok : C.Ok n) {keys : List (Option Expr)} {values : List Expr} {pos : Pos} {pairs : List (Sem Value × Sem Value)} {Q : Slot → St → Prop} (h : EvK C pairs [] σ (fun kvs σ1 => ∀ a, Q (.dict a (dsets [] kvs)) σ1))
    (hshape : (evalEachOpt keys C.env).zip ((evalEach values C.env).map fun v => do let x ← v; standAt pos; pure x) = pairs.map fun p => (some p.1, p.2)) (h0 : pairs ≠ []) (hlen : pairs.length ≤ 15) : EvF C σ (eval (.Dict keys values pos) C.env) Q := by
  refine EvF.intro' fun F mine T s QQ fin hA => ?_
  rw [arm_eval_Dict, hshape, dictDisplay_pairs pairs h0 (by omega)]
  refine wpAny_bind (wpAny_standAt (wpAny_bind (wpAny_mono (sub_dict hlen h ok.W hA) ?_ fun _ _ x => x)))
  rintro d s1 ⟨kvs, σ1, m1, T1, hq, hkl, hn, hdm, same, le, far, a1, hcd, hs1⟩
  obtain ⟨a2, hdm1, le2⟩ := a1.adopt (fun q => hdm (List.mem_append_left _ q)) hcd
  exact wpAny_pure (fin _ _ (.dict d (dsets [] kvs)) σ1 m1 d T1 (hq d) rfl ⟨same, le.trans le2, far⟩ hdm1 a2 (hs1.mono le2 fun _ _ _ e => e))

theorem evF_dict0 {n : Nat} (ok : C.Ok n) {pos : Pos} {Q : Slot → St → Prop} (h : ∀ a, Q (.dict a []) σ) : EvF C σ (eval (.Dict [] [] pos) C.env) Q := by
  refine EvF.prim fun own T s hO => wpAny_Dict_empty ?_
  have hn := fresh_size s.heap
  have hds : (s.heap.objs.size == sysModules) = false := by
    obtain ⟨o, ho⟩ := Option.isSome_iff_exists.mp ok.W.sysm
    have := hO.kb _ _ ho
    cases q : s.heap.objs.size == sysModules with
    | false => rfl
    | true => rw [show s.heap.objs.size = sysModules by simpa using q, this] at hn; cases hn
  exact ⟨.dict s.heap.objs.size [], T, s.heap.objs.size, h _, rfl, .push hO.tok (Nat.le_refl _), hn, by rw [Heap.get?_push_size _ rfl]; rfl, rfl, [], [], ⟨hds, _, 0, Heap.get?_push_size _ rfl, ⟨rfl, rfl, rfl⟩, rfl⟩, .nil, List.nodup_nil⟩
end
end Sx
end
section
open PySem PySem.W PyProof.Rows PySem.Calls
set_option linter.unusedVariables false
set_option Elab.async false
set_option maxRecDepth 100000
namespace Sx

section
variable {C : Cx} {σ : St}
theorem evT_stand {e : Expr} {pos : Pos} {Q : V → St → Prop} (h : Ev C σ e Q) : EvT C σ (do let x ← eval e C.env; standAt pos; pure x) Q :=
  fun F mine T s hA => wpAny_bind (wpAny_mono (h F mine T s hA) (fun v s' h' => wpAny_bind (wpAny_standAt (wpAny_pure h'))) fun _ _ x => x)
end
end Sx
end
section
open PySem PySem.W PyProof.Rows PySem.Calls
set_option linter.unusedVariables false
set_option Elab.async false
set_option maxRecDepth 100000
namespace Sx
open Builtin.Str StrLaws

/-! ## texts, in plain Lean -/
/-- where y begins, from place i on, the next k places being taken -/
noncomputable def occR (y : S) : Nat → Nat → S → List Nat
  | i, 0, [] => if y = [] then [i] else []
  | i, _ + 1, [] => []
  | i, k + 1, _ :: r => occR y (i + 1) k r
  | i, 0, c :: r => if y.isPrefixOf (c :: r) then i :: occR y (i + 1) (y.length - 1) r else occR y (i + 1) 0 r

/-- all y by z, y not empty -/
noncomputable def replK (y z : S) : Nat → S → S
  | _, [] => []
  | k + 1, _ :: r => replK y z k r
  | 0, c :: r => if y.isPrefixOf (c :: r) then z ++ replK y z (y.length - 1) r else c :: replK y z 0 r
noncomputable def replE (z : S) (x : S) : S := z ++ x.flatMap fun c => c :: z
noncomputable def repl (y z x : S) : S := if y = [] then replE z x else replK y z 0 x

theorem occR_0 {y : S} {i c : Nat} {r : S} : occR y i 0 (c :: r) = if y.isPrefixOf (c :: r) then i :: occR y (i + 1) (y.length - 1) r else occR y (i + 1) 0 r := by rw [occR]
theorem replK_0 {y z : S} {c : Nat} {r : S} : replK y z 0 (c :: r) = if y.isPrefixOf (c :: r) then z ++ replK y z (y.length - 1) r else c :: replK y z 0 r := by rw [replK]

theorem isPrefixOf_take {y x : S} : y.isPrefixOf x = (decide (y.length ≤ x.length) && (x.take y.length == y)) := by
  rw [Bool.eq_iff_iff, Bool.and_eq_true, decide_eq_true_iff, beq_iff_eq, List.isPrefixOf_iff_prefix]
  constructor
  · intro h
    exact ⟨h.length_le, (List.prefix_iff_eq_take.mp h).symm⟩
  · rintro ⟨h1, h2⟩
    exact List.prefix_iff_eq_take.mpr h2.symm

theorem mkS_length (l : S) : (mkS l).length = l.length := by simp [mkS, Str.length]

theorem prefix_at {x y : S} (i : Nat) (hi : i ≤ x.length) : y.isPrefixOf (x.drop i) = (decide (i + y.length ≤ x.length) && subAt (mkS x) (mkS y) i) := by
  rw [isPrefixOf_take, subAt_eq]
  simp only [mkS_cps, mkS_length, List.length_drop]
  congr 1
  rw [decide_eq_decide]; omega

theorem drop_cons {x : S} {i : Nat} {c : Nat} {r : S} (hx : x.drop i = c :: r) : i < x.length ∧ x.drop (i + 1) = r := by
  constructor
  · have := congrArg List.length hx
    simp at this; omega
  · rw [← List.tail_drop, hx]; rfl

noncomputable def scan (x y : S) : List Nat → Nat → List Nat
  | [], _ => []
  | i :: l, free => if free ≤ i ∧ y.isPrefixOf (x.drop i) = true then i :: scan x y l (i + y.length) else scan x y l free
theorem occ_cond {x y : S} {i : Nat} (hi : i ≤ x.length) : (i + (mkS y).length ≤ x.length ∧ subAt (mkS x) (mkS y) i = true) ↔ y.isPrefixOf (x.drop i) = true := by
  rw [prefix_at i hi, Bool.and_eq_true, decide_eq_true_iff, mkS_length]
theorem occ_scan (x y : S) (limit : Nat) (l : List Nat) : ∀ (found : Array Nat) (free : Nat), (∀ i ∈ l, i ≤ x.length) → found.size + l.length ≤ limit →
    (forIn (m := Id) l (found, free) (occBody (mkS x) (mkS y) x.length limit)).run.fst.toList = found.toList ++ scan x y l free := by
  induction l with
  | nil => intro found free _ _; exact (List.append_nil _).symm
  | cons i l ih =>
    intro found free hl hs
    have hi := occ_cond (y := y) (hl i List.mem_cons_self)
    have hl' := fun j hj => hl j (List.mem_cons_of_mem i hj)
    rw [List.length_cons] at hs
    rw [List.forIn_cons]
    unfold occBody scan
    by_cases c : free ≤ i ∧ y.isPrefixOf (x.drop i) = true
    · rw [if_pos c, if_pos ⟨⟨⟨Nat.lt_of_lt_of_le (Nat.lt_add_of_pos_right (Nat.succ_pos _)) hs, c.1⟩, (hi.mpr c.2).1⟩, (hi.mpr c.2).2⟩]
      refine (ih (found.push i) (i + (mkS y).length) hl' (by rw [Array.size_push, Nat.add_right_comm]; exact hs)).trans ?_
      rw [Array.toList_push, List.append_assoc, mkS_length]; rfl
    · rw [if_neg c, if_neg fun q => c ⟨q.1.1.2, hi.mp ⟨q.1.2, q.2⟩⟩]
      exact ih found free hl' (Nat.le_trans (Nat.add_le_add_left (Nat.le_succ _) _) hs)
theorem scan_occR (x y : S) (r : S) : ∀ (i free : Nat), x.drop i = r → (y = [] → free ≤ i) → scan x y (List.range' i (r.length + 1)) free = occR y i (free - i) r := by
  induction r with
  | nil =>
    intro i free hx hy
    show scan x y [i] free = _
    unfold scan scan
    rw [hx]
    cases hk : free - i with
    | zero =>
      cases y with
      | nil => rw [if_pos ⟨Nat.sub_eq_zero_iff_le.mp hk, rfl⟩]; rfl
      | cons c y => rw [if_neg (fun q => by cases q.2)]; rfl
    | succ k => rw [if_neg (fun q => by rw [Nat.sub_eq_zero_of_le q.1] at hk; cases hk)]; rfl
  | cons c r ih =>
    intro i free hx hy
    have h2 := (drop_cons hx).2
    show scan x y (i :: List.range' (i + 1) (r.length + 1)) free = _
    unfold scan
    rw [hx]
    cases hk : free - i with
    | zero =>
      have hf : free ≤ i := Nat.sub_eq_zero_iff_le.mp hk
      rw [occR_0]
      by_cases hp : y.isPrefixOf (c :: r) = true
      · rw [if_pos ⟨hf, hp⟩, if_pos hp, ih (i + 1) _ h2 (fun e => by rw [e]; exact Nat.le_succ _), Nat.add_sub_add_left]
      · rw [if_neg (fun q => hp q.2), if_neg hp, ih (i + 1) free h2 (fun e => Nat.le_succ_of_le hf), Nat.sub_eq_zero_of_le (Nat.le_succ_of_le hf)]
    | succ k =>
      rw [if_neg (fun q => by rw [Nat.sub_eq_zero_of_le q.1] at hk; cases hk), ih (i + 1) free h2 (fun e => Nat.le_succ_of_le (hy e)), Nat.sub_add_eq, hk]; rfl
theorem occ_all (x y : S) : occurrences (mkS x) (mkS y) 0 (mkS x).length ((mkS x).length + 1) = occR y 0 0 x := by
  rw [occ_eq, mkS_length, Nat.sub_zero]
  refine (occ_scan x y _ (List.range' 0 (x.length + 1)) #[] 0 (fun i hi => Nat.le_of_lt_succ (Nat.lt_of_lt_of_le (List.mem_range'_1.mp hi).2 (Nat.le_of_eq (Nat.zero_add _)))) (by rw [List.length_range']; exact Nat.le_of_eq (Nat.zero_add _))).trans ?_
  exact scan_occR x y x 0 0 rfl fun _ => Nat.le_refl _
theorem sub_S (x : S) (i j : Nat) : strSub (mkS x) i j = mkS ((x.drop i).take (j - i)) := by
  apply Str.ext'
  apply Array.toList_inj.mp
  rw [strSub_toList]
  simp
theorem app_S (a b : S) : mkS a ++ mkS b = mkS (a ++ b) := by
  apply Str.ext'
  rw [Str.cps_append]
  simp [mkS]

theorem parts_go (X y z : S) (l : S) : ∀ (i a : Nat), X.drop i = l → i ≤ X.length → (y = [] → a ≤ i) →
    Str.join (mkS z) (partsFrom (mkS X) y.length a (occR y i (a - i) l)) = mkS ((X.drop a).take (i - a) ++ (if y = [] then z ++ l.flatMap (fun c => c :: z) else replK y z (a - i) l)) := by
  induction l with
  | nil =>
    intro i a hx hi hy
    have hie : i = X.length := Nat.le_antisymm hi (List.drop_eq_nil_iff.mp hx)
    by_cases he : y = []
    · subst he
      rw [if_pos rfl, Nat.sub_eq_zero_of_le (hy rfl)]
      show strSub (mkS X) a i ++ mkS z ++ strSub (mkS X) (i + 0) (mkS X).length = _
      rw [sub_S, sub_S, app_S, app_S, mkS_length, hie, Nat.add_zero, List.drop_length, List.take_nil, List.append_assoc]; rfl
    · have e : occR y i (a - i) [] = [] := by
        cases a - i with
        | zero => exact if_neg he
        | succ k => rfl
      have e2 : replK y z (a - i) [] = [] := by cases a - i <;> rfl
      rw [e, if_neg he, e2, List.append_nil]
      show strSub (mkS X) a (mkS X).length = _
      rw [sub_S, mkS_length, hie]
  | cons c r ih =>
    intro i a hx hi hy
    obtain ⟨h1, h2⟩ := drop_cons hx
    cases hk : a - i with
    | succ k =>
      have hia : i < a := Nat.lt_of_sub_pos (by rw [hk]; exact Nat.succ_pos _)
      have he : y ≠ [] := fun e => Nat.not_le.mpr hia (hy e)
      have ih := ih (i + 1) a h2 h1 (fun e => absurd e he)
      rw [Nat.sub_add_eq, hk] at ih
      rw [if_neg he, Nat.sub_eq_zero_of_le hia] at ih
      rw [if_neg he, Nat.sub_eq_zero_of_le (Nat.le_of_lt hia)]
      exact ih
    | zero =>
      have hai : a ≤ i := Nat.sub_eq_zero_iff_le.mp hk
      by_cases hp : y.isPrefixOf (c :: r) = true
      · have ih := ih (i + 1) (i + y.length) h2 h1 (fun e => by rw [e]; exact Nat.le_succ _)
        rw [Nat.add_sub_add_left] at ih
        rw [occR_0, if_pos hp]
        obtain ⟨p, q, e⟩ := partsFrom_ne (mkS X) y.length (i + y.length) (occR y (i + 1) (y.length - 1) r)
        unfold partsFrom
        rw [e] at ih ⊢
        show strSub (mkS X) a i ++ mkS z ++ Str.join (mkS z) (p :: q) = _
        rw [ih, sub_S, app_S, app_S, List.append_assoc]
        refine congrArg (fun w => mkS ((X.drop a).take (i - a) ++ w)) ?_
        by_cases he : y = []
        · subst he
          rw [if_pos rfl, if_pos rfl]
          show z ++ ((X.drop i).take (i + 1 - i) ++ (z ++ _)) = _
          rw [hx, Nat.add_sub_cancel_left, List.flatMap_cons]; rfl
        · rw [if_neg he, if_neg he, replK_0, if_pos hp, Nat.sub_eq_zero_of_le (Nat.add_le_add_left (List.length_pos_iff.mpr he) i)]; rfl
      · have hne : y ≠ [] := fun e => by rw [e] at hp; exact hp rfl
        have ih := ih (i + 1) a h2 h1 (fun e => absurd e hne)
        rw [Nat.sub_eq_zero_of_le (Nat.le_succ_of_le hai), if_neg hne, Nat.succ_sub hai] at ih
        rw [occR_0, if_neg hp, ih, if_neg hne, replK_0, if_neg hp, List.take_add_one, List.getElem?_drop, Nat.add_sub_cancel' hai, show X[i]? = some c by rw [← List.head?_drop, hx]; rfl, List.append_assoc]; rfl
theorem replK_none {y z : S} (hy : y ≠ []) : ∀ (l : S) (i k : Nat), occR y i k l = [] → replK y z k l = l.drop k
  | [], i, k, h => by simp [replK]
  | c :: r, i, k + 1, h => by
    simp only [occR] at h
    simp only [replK, List.drop_succ_cons]
    exact replK_none hy r (i + 1) k h
  | c :: r, i, 0, h => by
    rw [occR_0] at h
    rw [replK_0]
    by_cases hp : y.isPrefixOf (c :: r) = true
    · rw [if_pos hp] at h; cases h
    · rw [if_neg hp] at h ⊢
      rw [replK_none hy r (i + 1) 0 h]; rfl

theorem replace_S (x y z : S) : Txt.replace (mkS x) (mkS y) (mkS z) = mkS (repl y z x) := by
  unfold Txt.replace
  rw [occ_all, mkS_length, mkS_length]
  by_cases h : ((occR y 0 0 x).isEmpty || (y.length == 0 && z.length == 0)) = true
  · rw [if_pos h]
    congr 1
    unfold repl
    by_cases hy : y = []
    · subst hy
      rw [if_pos rfl]
      rcases Bool.or_eq_true_iff.mp h with h | h
      · cases x with
        | nil => simp [occR] at h
        | cons c r => rw [occR_0] at h; simp at h
      · have hz : z = [] := by simpa using h
        subst hz
        simp [replE]
    · rw [if_neg hy]
      rcases Bool.or_eq_true_iff.mp h with h | h
      · have := replK_none (z := z) hy x 0 0 (by simpa using h)
        simpa using this.symm
      · simp [hy] at h
  · rw [if_neg h, glued_eq_join, partsBetween_eq, show Str.join (mkS z) (partsFrom (mkS x) y.length 0 (occR y 0 0 x)) = _ from parts_go x y z x 0 0 rfl (Nat.zero_le _) (fun _ => Nat.le_refl _), Nat.sub_self]
    unfold repl replE
    by_cases hy : y = []
    · simp [hy]
    · simp [hy]
end Sx
end
section
open PySem PySem.W PyProof.Rows PySem.Calls
set_option linter.unusedVariables false
set_option Elab.async false
set_option maxRecDepth 100000
namespace Sx

/-! ## slices -/
noncomputable def clp (n : Nat) (i : Int) : Nat := if i < 0 then (i + n).toNat else min i.toNat n
noncomputable def slc {α : Type} (lo hi : Option Int) (l : List α) : List α := (l.drop (match lo with | none => 0 | some i => clp l.length i)).take ((match hi with | none => l.length | some i => clp l.length i) - (match lo with | none => 0 | some i => clp l.length i))

theorem clp_nat (n i : Nat) : clp n (i : Int) = min i n := if_neg (Int.not_lt.mpr (Int.natCast_nonneg i))
theorem clp_neg {n : Nat} {i : Int} (h : i < 0) : clp n i = (i + n).toNat := if_pos h
theorem clp_le (n : Nat) (i : Int) : clp n i ≤ n := by
  rcases Int.lt_or_le i 0 with h | h
  · rw [clp_neg h]; exact Int.toNat_le.mpr (Int.le_trans (Int.add_le_add_right (Int.le_of_lt h) _) (Int.le_of_eq (Int.zero_add _)))
  · obtain ⟨m, rfl⟩ := Int.eq_ofNat_of_zero_le h
    rw [clp_nat]; exact Nat.min_le_right _ _
theorem clip_eq (n : Nat) (i : Int) : max (0 : Int) (min (if i < 0 then i + n else i) n) = (clp n i : Int) := by
  rcases Int.lt_or_le i 0 with h | h
  · rw [clp_neg h, if_pos h, Int.min_eq_left (Int.le_trans (Int.add_le_add_right (Int.le_of_lt h) _) (Int.le_of_eq (Int.zero_add _))), Int.max_comm, Int.ofNat_toNat]
  · obtain ⟨m, rfl⟩ := Int.eq_ofNat_of_zero_le h
    rw [clp_nat, if_neg (Int.not_lt.mpr h), Int.max_eq_right (Int.le_min.mpr ⟨h, Int.natCast_nonneg n⟩)]
    rcases Nat.le_total m n with k | k
    · rw [Nat.min_eq_left k]; exact Int.min_eq_left (Int.ofNat_le.mpr k)
    · rw [Nat.min_eq_right k]; exact Int.min_eq_right (Int.ofNat_le.mpr k)
theorem rng_len {a b : Nat} : (((b : Int) - a + 1 - 1) / 1).toNat = b - a := by rw [Int.ediv_one, Int.add_sub_cancel]; exact Int.toNat_sub b a
theorem sliceRange_eq (a b : Nat) : sliceRange (a : Int) (b : Int) 1 = (List.range (b - a)).map (fun (i : Nat) => ((a : Int) + 1 * (i : Int)).toNat) := by
  unfold sliceRange
  by_cases h : (a : Int) < b
  · rw [if_pos (by decide), if_pos h]; exact congrArg (fun n => (List.range n).map fun (k : Nat) => ((a : Int) + 1 * (k : Int)).toNat) rng_len
  · rw [if_pos (by decide), if_neg h, Nat.sub_eq_zero_of_le (Int.ofNat_le.mp (Int.not_lt.mp h))]; rfl
theorem picks_any {α : Type} (l : List α) (a b : Nat) (hb : b ≤ l.length) : ((sliceRange a b 1).filterMap (l[·]?)) = (l.drop a).take (b - a) := by
  rw [sliceRange_eq]
  rcases Nat.le_total a b with h | h
  · rw [← StrLaws.picks l (b - a) a (by rw [Nat.add_sub_cancel' h]; exact hb)]
    congr 1
    refine List.map_congr_left fun k _ => ?_
    rw [Int.one_mul]; rfl
  · rw [Nat.sub_eq_zero_of_le h]; rfl
theorem slc_str (x : S) (lo hi : Option Int) : (Builtin.Str.strSliceIndices lo hi 1 x.length).filterMap (x[·]?) = slc lo hi x := by
  have key : ∀ a b : Nat, b ≤ x.length → (sliceRange (a : Int) (b : Int) 1).filterMap (x[·]?) = (x.drop a).take (b - a) := fun a b hb => picks_any x a b hb
  unfold Builtin.Str.strSliceIndices slc
  simp only [show ((1 : Int) > 0) = True from by simp, if_true]
  cases lo with
  | none => cases hi with
    | none => exact key 0 x.length (Nat.le_refl _)
    | some j => simp only [clip_eq]; exact key 0 _ (clp_le _ _)
  | some i => cases hi with
    | none => simp only [clip_eq]; exact key _ x.length (Nat.le_refl _)
    | some j => simp only [clip_eq]; exact key _ _ (clp_le _ _)
theorem range_len {α : Type} (l : List α) (a b : Nat) (hb : b ≤ l.length) : (sliceRange a b 1).length = ((l.drop a).take (b - a)).length := by
  rw [sliceRange_eq, List.length_map, List.length_range, List.length_take, List.length_drop, Nat.min_eq_left (Nat.sub_le_sub_right hb a)]
theorem slc_str_len (x : S) (lo hi : Option Int) : (Builtin.Str.strSliceIndices lo hi 1 x.length).length = (slc lo hi x).length := by
  have key : ∀ a b : Nat, b ≤ x.length → (sliceRange (a : Int) (b : Int) 1).length = ((x.drop a).take (b - a)).length := fun a b hb => range_len x a b hb
  unfold Builtin.Str.strSliceIndices slc
  simp only [show ((1 : Int) > 0) = True from by simp, if_true]
  cases lo with
  | none => cases hi with
    | none => exact key 0 x.length (Nat.le_refl _)
    | some j => simp only [clip_eq]; exact key 0 _ (clp_le _ _)
  | some i => cases hi with
    | none => simp only [clip_eq]; exact key _ x.length (Nat.le_refl _)
    | some j => simp only [clip_eq]; exact key _ _ (clp_le _ _)
theorem slc_whole {α : Type} (x : List α) (lo hi : Option Int) (h : (slc lo hi x).length = x.length) : slc lo hi x = x := by
  have hs : List.Sublist (slc lo hi x) x := by unfold slc; exact (List.take_sublist _ _).trans (List.drop_sublist _ _)
  exact hs.eq_of_length h
theorem slc_length {α : Type} (lo hi : Option Int) (x : List α) : (slc lo hi x).length ≤ x.length := by
  unfold slc; rw [List.length_take]; exact Nat.le_trans (Nat.min_le_right _ _) (by rw [List.length_drop]; exact Nat.sub_le _ _)
theorem RepL.slc {W : Wd} {g : PH} {vs : List V} {ws : List Value} (h : RepL W g vs ws) (lo hi : Option Int) : RepL W g (Sx.slc lo hi vs) (Sx.slc lo hi ws) := by
  unfold Sx.slc
  rw [h.length]
  exact (h.drop _).take _

section
variable {C : Cx} {σ : St}

noncomputable def EvP (C : Cx) (σ : St) (e : Option Expr) (Q : Option Int → St → Prop) : Prop := match e with
  | none => Q none σ
  | some e => Ev C σ e (fun v σ1 => ∃ i, v = .int i ∧ Q (some i) σ1)

theorem evP_run {e : Option Expr} {Q : Option Int → St → Prop} (h : EvP C σ e Q) {F mine : List Addr} {T : TM} {s : Shared} (hA : Abs C F mine T σ s) :
    wpAny C.M C.A (evalPart e C.env) (fun v s' => ∃ p σ' mine' T', Q (p.map (·.1)) σ' ∧ v = partValue p ∧ Post F mine T s mine' T' s' ∧ Abs C F mine' T' σ' s') C.X s := by
  cases e with
  | none => exact wpAny_evalPart_none ⟨none, σ, mine, T, h, rfl, .refl _ _ _ _, hA⟩
  | some e =>
    refine wpAny_evalPart_some (Tr.then h hA fun v s1 _ σ1 m1 T1 hq_ p1 a1 r1 => ?_)
    obtain ⟨i, rfl, hq⟩ := hq_
    cases r1
    rename_i t
    exact ⟨some (i, t), σ1, m1, T1, hq, rfl, p1, a1⟩

theorem slice_made {own : List Addr} {T : TM} {s : Shared} {l : S} {t : Tok} {lo hi : Option (Int × Tok)} {K : V → Prop} (hO : OwnOk C own T s) (ht : T t = some l) (hl : l.length ≤ sizeLine) (h : K (.str (slc (lo.map (·.1)) (hi.map (·.1)) l))) {s0 : Shared} {T0 : TM} (hk : Kp T0 s0 T s)
    {Q : Value → Shared → Prop} (hQ : ∀ v s', Out own T0 s0 (Rep C.W) K v s' → Q v s') : (sliceMade (mkS l) t lo hi none).post Q s := by
  have e1 : (slicePicked (mkS l) lo hi none).filterMap ((mkS l).cps[·]?) = slc (lo.map (·.1)) (hi.map (·.1)) l := by
    rw [← slc_str]
    unfold slicePicked
    rw [mkS_length]
    simp [mkS]
  have hlen : (slicePicked (mkS l) lo hi none).length = (slc (lo.map (·.1)) (hi.map (·.1)) l).length := by
    rw [← slc_str_len]
    unfold slicePicked
    rw [mkS_length]; rfl
  unfold sliceMade
  by_cases hc : (((none : Option (Int × Tok)).map (·.1)).getD 1 == 1 && (slicePicked (mkS l) lo hi none).length == (mkS l).length) = true
  · rw [if_pos hc]
    have h2 : (slc (lo.map (·.1)) (hi.map (·.1)) l).length = l.length := by
      rw [← hlen]
      have := (Bool.and_eq_true _ _ ▸ hc).2
      rw [mkS_length] at this
      simpa using this
    have h3 := slc_whole l _ _ h2
    exact hQ _ _ ⟨_, T, h, hk, by rw [h3]; exact .str ht⟩
  · rw [if_neg hc, e1]
    refine ⟨by show (mkS _).length ≤ sizeLine; rw [mkS_length]; exact Nat.le_trans (slc_length _ _ _) hl, hQ _ _ ⟨_, _, h, hk.trans (.str (h' := s.heap) hO.tok fun _ _ e => e), .str TM.upd_self⟩⟩

end
end Sx
end
section
open PySem PySem.W PyProof.Rows PySem.Calls
set_option linter.unusedVariables false
set_option Elab.async false
set_option maxRecDepth 100000
namespace Sx

section
variable {C : Cx}
/-! ## numbers -/
theorem op_add_int {a b : Int} {K : V → Prop} (h : K (.int (a + b))) : Op2 C (Rep C.W) (binaryOp .Add) (.int a) (.int b) K := fun own T s va vb hO ra rb => by
  obtain ⟨_, rfl⟩ := ra.int_inv; obtain ⟨_, rfl⟩ := rb.int_inv; exact PyProof.Rows.add_int (.int hO.tok h (Nat.le_succ _))
theorem op_sub_int {a b : Int} {K : V → Prop} (h : K (.int (a - b))) : Op2 C (Rep C.W) (binaryOp .Sub) (.int a) (.int b) K := fun own T s va vb hO ra rb => by
  obtain ⟨_, rfl⟩ := ra.int_inv; obtain ⟨_, rfl⟩ := rb.int_inv; exact PyProof.Rows.sub_int' (.int hO.tok h (Nat.le_succ _))
theorem op_iadd_int {a b : Int} {K : V → Prop} (h : K (.int (a + b))) : Op2 C (Rep C.W) (inplaceOp .Add) (.int a) (.int b) K := fun own T s va vb hO ra rb => by
  obtain ⟨_, rfl⟩ := ra.int_inv; obtain ⟨_, rfl⟩ := rb.int_inv; exact PySem.P.iadd_int (.int hO.tok h (Nat.le_succ _))
theorem op_mod_int {a b : Int} {K : V → Prop} (hb : b ≠ 0) (h : K (.int (a.fmod b))) : Op2 C (Rep C.W) (binaryOp .Mod) (.int a) (.int b) K := fun own T s va vb hO ra rb => by
  obtain ⟨_, rfl⟩ := ra.int_inv; obtain ⟨_, rfl⟩ := rb.int_inv; exact PyProof.Rows.mod_int' hb (.int hO.tok h (Nat.le_succ _))
theorem op_div_int {a b : Int} {K : V → Prop} (hb : b ≠ 0) (hs : Builtin.divisionGoesByPylong a b = false) (h : K (.int (a.fdiv b))) : Op2 C (Rep C.W) (binaryOp .FloorDiv) (.int a) (.int b) K := fun own T s va vb hO ra rb => by
  obtain ⟨_, rfl⟩ := ra.int_inv; obtain ⟨_, rfl⟩ := rb.int_inv; exact PyProof.Rows.floordiv_int hb (.int hO.tok h (Nat.le_succ _)) (.inl hs)
theorem op_mul_int {a b : Int} {K : V → Prop} (hm : IntMulOk a b) (h : K (.int (a * b))) : Op2 C (Rep C.W) (binaryOp .Mult) (.int a) (.int b) K := fun own T s va vb hO ra rb => by
  obtain ⟨_, rfl⟩ := ra.int_inv; obtain ⟨_, rfl⟩ := rb.int_inv; exact PySem.P.mul_int (.int hO.tok h (Nat.le_succ _)) hm
theorem op_eq_int {a b : Int} {K : V → Prop} (h : K (.bool (a == b))) : Op2 C (Rep C.W) (compareOp .Eq) (.int a) (.int b) K := fun own T s va vb hO ra rb => by
  obtain ⟨_, rfl⟩ := ra.int_inv; obtain ⟨_, rfl⟩ := rb.int_inv; exact PySem.P.eq_int (.same hO.tok h (.bool _))
theorem op_ne_int {a b : Int} {K : V → Prop} (h : K (.bool (a != b))) : Op2 C (Rep C.W) (compareOp .NotEq) (.int a) (.int b) K := fun own T s va vb hO ra rb => by
  obtain ⟨_, rfl⟩ := ra.int_inv; obtain ⟨_, rfl⟩ := rb.int_inv; exact PySem.P.ne_int (.same hO.tok h (.bool _))
theorem op_lt_int {a b : Int} {K : V → Prop} (h : K (.bool (decide (a < b)))) : Op2 C (Rep C.W) (compareOp .Lt) (.int a) (.int b) K := fun own T s va vb hO ra rb => by
  obtain ⟨_, rfl⟩ := ra.int_inv; obtain ⟨_, rfl⟩ := rb.int_inv; exact PySem.P.lt_int (.same hO.tok h (.bool _))
/-! ## texts -/
theorem op_eq_str {a b : S} {K : V → Prop} (h : K (.bool (decide (a = b)))) : Op2 C (Rep C.W) (compareOp .Eq) (.str a) (.str b) K := fun own T s va vb hO ra rb => by
  obtain ⟨_, rfl, _⟩ := ra.str_inv; obtain ⟨_, rfl, _⟩ := rb.str_inv
  refine PySem.P.eq_str (.same hO.tok h ?_)
  have e : ((mkS a).cps.toList == (mkS b).cps.toList) = decide (a = b) := by rw [Bool.eq_iff_iff]; simp
  rw [e]; exact .bool _
theorem add_made {own : List Addr} {T : TM} {s : Shared} {a b : S} {t u : Tok} {K : V → Prop} (hO : OwnOk C own T s) (ha : T t = some a) (hb : T u = some b) (hl : a.length + b.length ≤ sizeLine) (h : K (.str (a ++ b))) :
    (if (mkS a).length == 0 then Made.val (.str (mkS b) u) else if (mkS b).length == 0 then Made.val (.str (mkS a) t) else Made.str (mkS a ++ mkS b)).post (Out own T s (Rep C.W) K) s := by
  rw [mkS_length, mkS_length]
  by_cases h1 : (a.length == 0) = true
  · rw [if_pos h1]
    have : a = [] := by simpa using h1
    subst this
    exact .same hO.tok h (.str hb)
  · rw [if_neg h1]
    by_cases h2 : (b.length == 0) = true
    · rw [if_pos h2]
      have : b = [] := by simpa using h2
      subst this
      rw [List.append_nil] at h
      exact .same hO.tok h (.str ha)
    · rw [if_neg h2, app_S]
      exact ⟨by show (mkS _).length ≤ sizeLine; rw [mkS_length, List.length_append]; exact hl, .strNew hO.tok h⟩
theorem op_iadd_str {a b : S} {K : V → Prop} (hl : a.length + b.length ≤ sizeLine) (h : K (.str (a ++ b))) : Op2 C (Rep C.W) (inplaceOp .Add) (.str a) (.str b) K := fun own T s va vb hO ra rb => by
  obtain ⟨_, rfl, _⟩ := ra.str_inv; obtain ⟨_, rfl, _⟩ := rb.str_inv; rename_i t ht u hu
  exact PySem.P.iadd_str (add_made hO ht hu hl h)

/-- y somewhere in x -/
noncomputable def hasSub (y : S) : S → Bool
  | [] => y.isEmpty
  | c :: r => y.isPrefixOf (c :: r) || hasSub y r
theorem hasSub_iff (y x : S) : hasSub y x = true ↔ ∃ i, i ≤ x.length ∧ y.isPrefixOf (x.drop i) = true := by
  induction x with
  | nil => cases y <;> simp [hasSub]
  | cons c r ih =>
    simp only [hasSub, Bool.or_eq_true, ih]
    constructor
    · rintro (h | ⟨i, h1, h2⟩)
      · exact ⟨0, Nat.zero_le _, h⟩
      · exact ⟨i + 1, by simp; omega, h2⟩
    · rintro ⟨i, h1, h2⟩
      cases i with
      | zero => exact .inl h2
      | succ i => exact .inr ⟨i, by simpa using h1, h2⟩
theorem hasSub_S (y x : S) : (!(Builtin.Str.occurrences (mkS x) (mkS y) 0 (mkS x).length 1).isEmpty) = hasSub y x := by
  rw [Bool.eq_iff_iff, StrLaws.found_iff, hasSub_iff]
  constructor
  · rintro ⟨i, h1, h2⟩
    rw [mkS_length, mkS_length] at h1
    refine ⟨i, by omega, ?_⟩
    rw [prefix_at i (by omega), h2, decide_eq_true h1]; rfl
  · rintro ⟨i, h1, h2⟩
    rw [prefix_at i h1, Bool.and_eq_true, decide_eq_true_iff] at h2
    exact ⟨i, by rw [mkS_length, mkS_length]; exact h2.1, h2.2⟩
theorem op_in_str {a b : S} {K : V → Prop} (h : K (.bool (hasSub a b))) : Op2 C (Rep C.W) (compareOp .In) (.str a) (.str b) K := fun own T s va vb hO ra rb => by
  obtain ⟨_, rfl, _⟩ := ra.str_inv; obtain ⟨_, rfl, _⟩ := rb.str_inv
  refine PySem.P.in_str (.same hO.tok h ?_)
  rw [hasSub_S]; exact .bool _
theorem opL_len_str {l : S} {K : V → Prop} (hl : l.length ≤ sizeLine) (h : K (.int l.length)) : OpL C (Rep C.W) (fun ws => call (.builtin "len") ws) [.str l] K := fun own T s vs hO hr => by
  obtain ⟨_, _, rfl, r, hr⟩ := hr.cons_inv
  obtain rfl := hr.nil_inv; obtain ⟨_, rfl, _⟩ := r.str_inv
  refine PySem.P.len_str (by rw [mkS_length]; have : sizeLine = 2 ^ 24 := by rw [sizeLine_eq]
                             omega) ?_
  rw [mkS_length]
  exact .int hO.tok h (by omega)

theorem op_item_str {l : S} {i : Int} {c : Nat} {K : V → Prop} (h0 : -(l.length : Int) ≤ i) (hi : i < l.length) (hl : l.length ≤ sizeLine) (hc : l[(if i < 0 then i + l.length else i).toNat]? = some c) (h : K (.str [c])) : Op2 C (Rep C.W) getItem (.str l) (.int i) K := fun own T s va vb hO ra rb => by
  obtain ⟨_, rfl, _⟩ := ra.str_inv; obtain ⟨_, rfl⟩ := rb.int_inv
  have hsz : sizeLine = 2 ^ 24 := by rw [sizeLine_eq]
  refine PySem.P.getItem_str (c := c) ?_ ?_ (.strNew (l := [c]) hO.tok h)
  · rw [Bool.or_eq_false_iff]; exact ⟨decide_eq_false (by omega), decide_eq_false (by omega)⟩
  · rw [mkS_length]
    by_cases hn : i < 0
    · rw [StrLaws.seqIndex_neg hn h0]
      rw [if_pos hn] at hc
      show (mkS l).cps[(i + l.length).toNat]? = some c
      simpa [mkS] using hc
    · rw [StrLaws.seqIndex_nonneg (by omega) hi]
      rw [if_neg hn] at hc
      show (mkS l).cps[i.toNat]? = some c
      simpa [mkS] using hc

/-- data.replace(old, new) -/
theorem opL_replace {x y z : S} {K : V → Prop} (hyz : y ≠ z ∨ (y = [] ∧ z = [])) (hl : x.length + (x.length + 1) * z.length ≤ sizeLine) (h : K (.str (repl y z x))) :
    OpL C (Rep C.W) (fun ws => call (.builtin "str.replace") ws) [.str x, .str y, .str z] K := fun own T s vs hO hr => by
  obtain ⟨_, _, rfl, r1, hr⟩ := hr.cons_inv
  obtain ⟨_, _, rfl, r2, hr⟩ := hr.cons_inv
  obtain ⟨_, _, rfl, r3, hr⟩ := hr.cons_inv
  obtain rfl := hr.nil_inv; obtain ⟨t, rfl, ht⟩ := r1.str_inv; obtain ⟨u, rfl, hu⟩ := r2.str_inv; obtain ⟨v, rfl, hv⟩ := r3.str_inv
  have hu0 := (hO.tok.lt u y hu).1
  have hv0 := (hO.tok.lt v z hv).1
  rcases hyz with hyz | ⟨rfl, rfl⟩
  · have huv : u ≠ v := fun e => hyz (by
      have hu : T u = some y := hu
      have hv : T v = some z := hv
      rw [e, hv] at hu; injection hu with hu; exact hu.symm)
    refine call_gives PySem.F.slot_str_replace (typeIs_str _ _ _) PySem.F.entry_str_replace (PySem.F.args_str_replace_3 _ _ _)
      (gives_str_replace (mkS x) (mkS y) (mkS z) t u v fun _ => ⟨?_, by simpa using huv, ?_, ?_⟩) ?_
    · rw [Bool.or_eq_false_iff]; exact ⟨beq_eq_false_iff_ne.mpr (Nat.ne_of_gt hu0), beq_eq_false_iff_ne.mpr (Nat.ne_of_gt hv0)⟩
    · simp only [beq_eq_false_iff_ne]; exact fun e => hyz (mkS_inj e)
    · have h1 := StrLaws.occ_length_le (mkS x) (mkS y) 0 (mkS x).length ((mkS x).length + 1)
      have h2 : (Builtin.Str.occurrences (mkS x) (mkS y) 0 (mkS x).length ((mkS x).length + 1)).length * z.length ≤ ((mkS x).length + 1) * z.length := Nat.mul_le_mul_right _ h1
      rw [mkS_length] at h2
      unfold Builtin.Str.tooLong
      rw [mkS_length, mkS_length]
      exact decide_eq_false (by omega)
    · have e := replace_S x y z
      unfold Txt.replace at e
      by_cases hc : ((Builtin.Str.occurrences (mkS x) (mkS y) 0 (mkS x).length ((mkS x).length + 1)).isEmpty || ((mkS y).length == 0 && (mkS z).length == 0)) = true
      · rw [if_pos hc] at e ⊢
        have := mkS_inj e
        exact ⟨_, T, h, .refl hO.tok, by rw [← this]; exact .str ht⟩
      · rw [if_neg hc] at e ⊢
        refine ⟨?_, ?_⟩
        · rw [e]
          have hf := fits_replaced (x := mkS x) (z := mkS z) (mkS y) (by rw [mkS_length, mkS_length]; have : sizeLine = 16777216 := sizeLine_eq
                                                                         omega)
          rw [e] at hf; exact hf
        · rw [e]; exact .strNew hO.tok h
  · refine call_gives PySem.F.slot_str_replace (typeIs_str _ _ _) PySem.F.entry_str_replace (PySem.F.args_str_replace_3 _ _ _)
      (gives_str_replace (mkS x) (mkS []) (mkS []) t u v fun hc => ?_) ?_
    · rw [Bool.or_eq_false_iff] at hc
      exact absurd hc.2 (by rw [mkS_length]; decide)
    · rw [if_pos (by rw [Bool.or_eq_true]; exact .inr rfl)]
      refine ⟨_, T, h, .refl hO.tok, ?_⟩
      have e : repl [] [] x = x := by simp [repl, replE]
      rw [e]; exact .str ht
end
end Sx
end
section
open PySem PySem.W PyProof.Rows PySem.Calls
set_option linter.unusedVariables false
set_option Elab.async false
set_option maxRecDepth 100000
namespace Sx
open Builtin.Str

noncomputable def joinS (sep : S) : List S → S
  | [] => []
  | [x] => x
  | x :: y :: r => x ++ sep ++ joinS sep (y :: r)
section
variable {C : Cx}
end
end Sx
end
section
open PySem PySem.W PyProof.Rows PySem.Calls
set_option linter.unusedVariables false
set_option Elab.async false
set_option maxRecDepth 100000
namespace Sx
open Builtin Builtin.Str

end Sx
end
section
open PySem PySem.W PyProof.Rows PySem.Calls
set_option linter.unusedVariables false
set_option Elab.async false
set_option maxRecDepth 100000
namespace Sx
open PySem.SeqAt

/-! ## equal things compare equal -/
mutual
inductive Alike : Nat → V → V → Prop
  | none (n : Nat) : Alike n .none .none
  | bool (n : Nat) (b : Bool) : Alike n (.bool b) (.bool b)
  | int (n : Nat) (i : Int) : Alike n (.int i) (.int i)
  | ss (n : Nat) (l : S) : Alike n (.str l) (.str l)
  | st (n : Nat) (l : S) : Alike n (.str l) (.txt l)
  | ts (n : Nat) (l : S) : Alike n (.txt l) (.str l)
  | tt (n : Nat) (l : S) : Alike n (.txt l) (.txt l)
  | tup {n : Nat} {vs us : List V} : AlikeL n vs us → Alike (n + 1) (.tup vs) (.tup us)
  | lst {n : Nat} {vs us : List V} : AlikeL n vs us → Alike (n + 1) (.lst vs) (.lst us)
inductive AlikeL : Nat → List V → List V → Prop
  | nil (n : Nat) : AlikeL n [] []
  | cons {n : Nat} {v u : V} {vs us : List V} : Alike n v u → AlikeL n vs us → AlikeL n (v :: vs) (u :: us)
end

theorem eqAt_str {A : Around} {s : Shared} {x : PySem.Str} {t u : Tok} : EqAt A s (.str x t) (.str x u) true := fun prog w E Q hq => wpAny_eqBool_str (by simpa using hq)
theorem eqAt_int {A : Around} {s : Shared} {x : Int} {t u : Tok} : EqAt A s (.int x t) (.int x u) true := fun prog w E Q hq => wpAny_eqBool_int (by simpa using hq)

theorem Rep.txt_inv {W : Wd} {g : PH} {l : S} {v : Value} (h : Rep W g (.txt l) v) : ∃ t, v = .str (mkS l) t := by cases h; exact ⟨_, rfl⟩
theorem Rep.none_inv {W : Wd} {g : PH} {v : Value} (h : Rep W g .none v) : v = .none := by cases h; rfl
theorem eq_tups {A : Around} {s : Shared} {x y : Addr} {ox oy : Obj} {wx wy : List Value} {nx ny : Nat} (h1 : s.heap.get? x = some ox) (h2 : ox.cls = .type "tuple") (h3 : ox.data = .seq wx.toArray nx) (k1 : s.heap.get? y = some oy) (k2 : oy.cls = .type "tuple") (k3 : oy.data = .seq wy.toArray ny)
    (hu : A.units + 1 < cLine) (hl : wx.length = wy.length ∧ ∀ j (h1 : j < wx.length) (h2 : j < wy.length), EqAt A.in1 s wx[j] wy[j] true) : EqAt A s (.ref x) (.ref y) true := by
  by_cases hxy : x = y
  · subst hxy; exact .same _
  · refine .of_refs hxy ?_
    have hs := hl.1
    have := RcAt.tuples (A := A) (s := s) (items := wx.toArray) (items2 := wy.toArray) (e := fun _ => true) ⟨ox, h1, h2, nx, h3⟩ ⟨oy, k1, k2, ny, k3⟩ (by omega) (fun j h1 h2 => hl.2 j (by simpa using h1) (by simpa using h2))
    have e : ((List.range (min wx.toArray.size wy.toArray.size)).all (fun _ => true) && wx.toArray.size == wy.toArray.size) = true := by simp [hs]
    rw [e] at this; exact this
theorem eq_lsts {A : Around} {s : Shared} {x y : Addr} {ox oy : Obj} {wx wy : List Value} {nx ny : Nat} (h1 : s.heap.get? x = some ox) (h2 : ox.cls = .type "list") (h3 : ox.data = .seq wx.toArray nx) (k1 : s.heap.get? y = some oy) (k2 : oy.cls = .type "list") (k3 : oy.data = .seq wy.toArray ny)
    (hu : A.units + 1 < cLine) (hl : wx.length = wy.length ∧ ∀ j (h1 : j < wx.length) (h2 : j < wy.length), EqAt A.in1 s wx[j] wy[j] true) : EqAt A s (.ref x) (.ref y) true := by
  by_cases hxy : x = y
  · subst hxy; exact .same _
  · refine .of_refs hxy ?_
    have hs := hl.1
    have := RcAt.lists (A := A) (s := s) (items := wx.toArray) (items2 := wy.toArray) (e := fun _ => true) ⟨ox, h1, h2, nx, h3⟩ ⟨oy, k1, k2, ny, k3⟩ (by simp [hs]) (by omega) (fun j h1 h2 => hl.2 j (by simpa using h1) (by simpa using h2))
    have e : ((List.range wx.toArray.size).all (fun _ => true)) = true := by simp
    rw [e] at this; exact this
noncomputable def EqM (W : Wd) (g : PH) (s : Shared) (n : Nat) (a b : V) : Prop := ∀ (A : Around) (va vb : Value), A.units + n < cLine → Rep W g a va → Rep W g b vb → EqAt A s va vb true
noncomputable def EqML (W : Wd) (g : PH) (s : Shared) (n : Nat) (a b : List V) : Prop := ∀ (A : Around) (va vb : List Value), A.units + n < cLine → RepL W g a va → RepL W g b vb → va.length = vb.length ∧ ∀ j (h1 : j < va.length) (h2 : j < vb.length), EqAt A s va[j] vb[j] true
theorem eqM_tup {W : Wd} {g : PH} {s : Shared} (hg : ∀ a o, g.ob a = some o → s.heap.get? a = some o) {n : Nat} {a b : List V} (h : EqML W g s n a b) : EqM W g s (n + 1) (.tup a) (.tup b) := fun A va vb hu r q => by
  obtain ⟨x, ox, wx, nx, rfl, h1, h2, h3, r⟩ := r.tup_inv
  obtain ⟨y, oy, wy, ny, rfl, k1, k2, k3, q⟩ := q.tup_inv
  exact eq_tups (hg _ _ h1) h2 h3 (hg _ _ k1) k2 k3 (Nat.lt_of_le_of_lt (Nat.add_le_add_left (Nat.succ_le_succ (Nat.zero_le _)) _) hu) (h A.in1 _ _ (by show A.units + 1 + n < cLine; rwa [Nat.add_assoc, Nat.add_comm 1]) r q)
theorem eqM_lst {W : Wd} {g : PH} {s : Shared} (hg : ∀ a o, g.ob a = some o → s.heap.get? a = some o) {n : Nat} {a b : List V} (h : EqML W g s n a b) : EqM W g s (n + 1) (.lst a) (.lst b) := fun A va vb hu r q => by
  obtain ⟨x, ox, wx, nx, rfl, h1, h2, _, h3, r⟩ := r.lst_inv
  obtain ⟨y, oy, wy, ny, rfl, k1, k2, _, k3, q⟩ := q.lst_inv
  exact eq_lsts (hg _ _ h1) h2 h3 (hg _ _ k1) k2 k3 (Nat.lt_of_le_of_lt (Nat.add_le_add_left (Nat.succ_le_succ (Nat.zero_le _)) _) hu) (h A.in1 _ _ (by show A.units + 1 + n < cLine; rwa [Nat.add_assoc, Nat.add_comm 1]) r q)
theorem eqML_cons {W : Wd} {g : PH} {s : Shared} {n : Nat} {a b : V} {as bs : List V} (h1 : EqM W g s n a b) (h2 : EqML W g s n as bs) : EqML W g s n (a :: as) (b :: bs) := fun A va vb hu r q => by
  obtain ⟨_, _, rfl, r1, r2⟩ := r.cons_inv
  obtain ⟨_, _, rfl, q1, q2⟩ := q.cons_inv
  have i2 := h2 A _ _ hu r2 q2
  refine ⟨congrArg (· + 1) i2.1, fun j k1 k2 => ?_⟩
  cases j with
  | zero => exact h1 A _ _ hu r1 q1
  | succ j => exact i2.2 j (Nat.lt_of_succ_lt_succ k1) (Nat.lt_of_succ_lt_succ k2)
theorem eqML_of {W : Wd} {g : PH} {s : Shared} (hg : ∀ a o, g.ob a = some o → s.heap.get? a = some o) {n : Nat} {a b : List V} (h : AlikeL n a b) : EqML W g s n a b :=
  AlikeL.rec (motive_1 := fun n a b _ => EqM W g s n a b) (motive_2 := fun n a b _ => EqML W g s n a b)
    (fun _ _ _ _ _ r q => by obtain rfl := r.none_inv; obtain rfl := q.none_inv; exact .same _) (fun _ _ _ _ _ _ r q => by obtain rfl := r.bool_inv; obtain rfl := q.bool_inv; exact .same _) (fun _ _ _ _ _ _ r q => by obtain ⟨_, rfl⟩ := r.int_inv; obtain ⟨_, rfl⟩ := q.int_inv; exact eqAt_int)
    (fun _ _ _ _ _ _ r q => by obtain ⟨_, rfl, _⟩ := r.str_inv; obtain ⟨_, rfl, _⟩ := q.str_inv; exact eqAt_str) (fun _ _ _ _ _ _ r q => by obtain ⟨_, rfl, _⟩ := r.str_inv; obtain ⟨_, rfl⟩ := q.txt_inv; exact eqAt_str)
    (fun _ _ _ _ _ _ r q => by obtain ⟨_, rfl⟩ := r.txt_inv; obtain ⟨_, rfl, _⟩ := q.str_inv; exact eqAt_str) (fun _ _ _ _ _ _ r q => by obtain ⟨_, rfl⟩ := r.txt_inv; obtain ⟨_, rfl⟩ := q.txt_inv; exact eqAt_str)
    (fun _ h => eqM_tup hg h) (fun _ h => eqM_lst hg h) (fun _ _ _ _ _ r q => by obtain rfl := r.nil_inv; obtain rfl := q.nil_inv; exact ⟨rfl, fun j h1 _ => absurd h1 (Nat.not_lt_zero _)⟩) (fun _ _ h1 h2 => eqML_cons h1 h2) h
theorem eqAtL_alike {W : Wd} {g : PH} {s : Shared} (hg : ∀ a o, g.ob a = some o → s.heap.get? a = some o) {n : Nat} {a b : List V} {va vb : List Value} {A : Around} (h : AlikeL n a b) (hu : A.units + n < cLine) (r : RepL W g a va) (q : RepL W g b vb) : va.length = vb.length ∧ ∀ j (h1 : j < va.length) (h2 : j < vb.length), EqAt A s va[j] vb[j] true :=
  eqML_of hg h A _ _ hu r q
open AutoSeq1 (wpAny_loadPart') in
section
variable {C : Cx}
theorem cLine_ge : 9900 ≤ cLine := by decide
theorem op_ne_alike {n m : Nat} (ok : C.Ok m) (hn : n ≤ 50) {vs us : List V} (h : AlikeL n vs us) {K : V → Prop} (hK : K (.bool false)) : Op2 C (Rep C.W) (compareOp .NotEq) (.lst vs) (.lst us) K := fun own T s va vb hO ra rb => by
  obtain ⟨x, ox, wx, nx, rfl, h1, h2, h3, h4, r⟩ := ra.lst_inv
  obtain ⟨y, oy, wy, ny, rfl, k1, k2, k3, k4, q⟩ := rb.lst_inv
  have hu := ok.hu
  have hc := cLine_ge
  have hl := eqAtL_alike (A := C.A.in1) (s := s) (W := C.W) (g := view own T s) (fun a o e => view_of e) h (by show C.A.units + 1 + n < cLine; omega) r q
  have := RcNeAt.lists (A := C.A) (s := s) (items := wx.toArray) (items2 := wy.toArray) (e := fun _ => true) ⟨ox, view_of h1, h2, nx, h4⟩ ⟨oy, view_of k1, k2, ny, k4⟩ (by simp [hl.1]) (by omega) (fun j h1 h2 => hl.2 j (by simpa using h1) (by simpa using h2))
  have e : ((List.range wx.toArray.size).all (fun _ => true)) = true := by simp
  rw [e] at this
  exact this C.W.prog C.W.w C.X _ (.same hO.tok hK (.bool _))

/-! ## lists -/
theorem fits63 {n : Nat} (h : n ≤ sizeLine) : (n : Int) < 2 ^ 63 := by
  have : sizeLine = 16777216 := sizeLine_eq
  omega
theorem op_item_list {vs : List V} {i : Int} {v : V} {K : V → Prop} (h0 : -(vs.length : Int) ≤ i) (hi : i < vs.length) (hl : vs.length ≤ sizeLine) (hv : vs[(if i < 0 then i + vs.length else i).toNat]? = some v) (h : K v) : Op2 C (Rep C.W) getItem (.lst vs) (.int i) K := fun own T s va vb hO ra rb => by
  obtain ⟨_, rfl⟩ := rb.int_inv
  obtain ⟨x, ox, wx, nx, rfl, h1, h2, h3, h4, r⟩ := ra.lst_inv
  have hsz := fits63 hl
  have hL : s.heap.IsList x wx.toArray := ⟨ox, view_of h1, h2, nx, h4⟩
  obtain ⟨w, hw, hr⟩ := r.get hv
  by_cases hn : i < 0
  · rw [if_pos hn] at hw
    exact wpAny_getItem_list_neg hL hn (by rw [List.size_toArray, r.length]; exact h0) (by omega) (by rw [List.size_toArray, r.length]; simpa using hw) (.same hO.tok h hr)
  · rw [if_neg hn] at hw
    exact wpAny_getItem_list hL (by omega) (by omega) (by simpa using hw) (.same hO.tok h hr)

theorem opL_len_list {vs : List V} {K : V → Prop} (hl : vs.length ≤ sizeLine) (h : K (.int vs.length)) : OpL C (Rep C.W) (fun ws => call (.builtin "len") ws) [.lst vs] K := fun own T s ws hO hr => by
  obtain ⟨_, _, rfl, r1, hr⟩ := hr.cons_inv
  obtain rfl := hr.nil_inv
  obtain ⟨x, ox, wx, nx, rfl, h1, h2, h3, h4, r⟩ := r1.lst_inv
  refine call_len_list (items := wx.toArray) ⟨ox, view_of h1, h2, nx, h4⟩ (by rw [List.size_toArray, r.length]; exact fits63 hl) ?_
  rw [List.size_toArray, r.length]
  exact .int hO.tok h (by omega)

/-! ## dicts -/
theorem truthy_dict {es : List (Key × V)} {K : Bool → Prop} (hl : es.length ≤ sizeLine) (h : K (!es.isEmpty)) : Op1 C RB truthy (.dct es) K := fun own T s va hO ra => by
  obtain ⟨x, ox, ds, kvs, nx, rfl, h1, h0, h2, h3, r, hn⟩ := ra.dct_inv
  have hd := r.dictOf (h := s.heap) (view_of h1) h2 h3 hn
  refine wpAny_truthy_dict h0 hd (by rw [r.length.2]; exact fits63 hl) ⟨_, T, h, .toks hO.tok (by omega), ?_⟩
  show (!es.isEmpty) = !kvs.isEmpty
  have := r.length.2
  cases es <;> cases kvs <;> simp_all
theorem opL_items {es : List (Key × V)} {K : V → Prop} (h : K (.items es)) : OpL C (Rep C.W) (fun ws => call (.builtin "dict.items") ws) [.dct es] K := fun own T s ws hO hr => by
  obtain ⟨_, _, rfl, r1, hr⟩ := hr.cons_inv
  obtain rfl := hr.nil_inv
  have r1' := r1
  obtain ⟨x, ox, ds, kvs, nx, rfl, h1, h0, h2, h3, r, hn⟩ := r1.dct_inv
  have hd := r.dictOf (h := s.heap) (view_of h1) h2 h3 hn
  refine call_meetsIn PySem.F.slot_dict_items hd.typeIs PySem.F.entry_dict_items (PySem.F.args_dict_items_1 _) (meets_dict_items C.W.knd x h0) ⟨⟨kvs, hd⟩, ?_⟩
  have k0 : Kp T s T { s with heap := s.heap.push { cls := .type "dict_items", data := .fields #[.ref x] } } := .push hO.tok (Nat.le_refl _)
  exact ⟨_, T, h, k0, .itm (view_mk (hO.fresh (fresh_size _)) (Heap.get?_push_size _ rfl)) rfl rfl (r1'.mono k0.view)⟩
/-! ## '"%s"' % t, t.count(u) -/
end
end Sx
end
section
open PySem PySem.W PyProof.Rows PySem.Calls
set_option linter.unusedVariables false
set_option Elab.async false
set_option maxRecDepth 100000
namespace Sx

theorem ints_of {W : Wd} {g : PH} : ∀ (is : List Int) (ws : List Value), RepL W g (is.map V.int) ws → ∃ xs : List (Int × Tok), ws = xs.map (fun p => Value.int p.1 p.2) ∧ xs.map (·.1) = is
  | [], ws, h => by obtain rfl := h.nil_inv; exact ⟨[], rfl, rfl⟩
  | i :: is, ws, h => by
    obtain ⟨_, _, rfl, h1, h2⟩ := h.cons_inv
    obtain ⟨t, rfl⟩ := h1.int_inv
    obtain ⟨xs, rfl, e⟩ := ints_of is _ h2
    exact ⟨(i, t) :: xs, rfl, by simp [e]⟩

/-- a text's mark forgotten -/
noncomputable def Key.tv : Key → V
  | .s l => .txt l
  | .i n => .int n

section
variable {C : Cx}
theorem opL_sum {n : Nat} (ok : C.Ok n) {is : List Int} {K : V → Prop} (h : K (.int is.sum)) : OpL C (Rep C.W) (fun ws => call (.builtin "sum") ws) [.lst (is.map V.int)] K := fun own T s vs hO hr => by
  obtain ⟨_, _, rfl, r1, hr⟩ := hr.cons_inv
  obtain rfl := hr.nil_inv
  obtain ⟨x, ox, wx, nx, rfl, h1, h2, h3, h4, r⟩ := r1.lst_inv
  obtain ⟨xs, rfl, e⟩ := ints_of _ _ r
  refine wpAny_with_toks (n := s.toks) (Nat.le_refl _) (sum_intListG (xs := xs.toArray) ok.hh ⟨ox, view_of h1, h2, nx, by rw [h4]; simp [intItems]⟩ fun h' tk t' hk htk => ?_)
  rw [preSum_eq]
  have e2 : ((xs.toArray.toList.map (·.1)).take xs.toArray.size).sum = is.sum := by
    rw [List.take_of_length_le (by simp)]
    simp [e]
  rw [e2]
  exact ⟨_, T, h, .at hO.tok hk htk, .int _ _⟩

theorem opF_listItems {n : Nat} (ok : C.Ok n) {es : List (Key × V)} {K : Slot → Prop} (hl : es.length ≤ sizeLine) (h : ∀ a, K (.list a (es.map fun p => .tup [p.1.tv, p.2]))) : OpLF C (fun ws => call (.type "list") ws) [.items es] K := fun own T s vs hO hr => by
  obtain ⟨_, _, rfl, r1, hr⟩ := hr.cons_inv
  obtain rfl := hr.nil_inv
  obtain ⟨vw, a, ov, rfl, hv1, hv2, hv3, hrd⟩ := r1.itm_inv
  obtain ⟨_, o, ds, kvs, nn, he, h1, h0, h2, h3, r, hn⟩ := hrd.dct_inv
  cases he
  have hm := r.dictAt (view_of h1) h2 h3 hn
  have hlen : kvs.length = es.length := r.length.2
  refine wpAny_with_toks (n := s.toks) (Nat.le_refl _) (kdx_call (knd := C.W.knd) ok.hh ⟨ov, view_of hv1, hv2, hv3⟩ hm (by rw [hlen]; exact hl) fun h' tk acc c as hk hS hal hG hacc htk => ?_)
  have k : Kp T s T { s with heap := h', toks := tk } := .at hO.tok hk htk
  have hnew := fresh_size s.heap
  refine ⟨.list s.heap.objs.size (es.map fun p => .tup [p.1.tv, p.2]), T, s.heap.objs.size, h _, rfl, k, hnew, by show (h'.get? _).isSome = true; rw [hS]; rfl, rfl, acc.toList, ⟨c, by rw [Array.toArray_toList]; exact hS⟩, ?_⟩
  rw [hacc]
  have le : Le (view own T s) (view (s.heap.objs.size :: own) T { s with heap := h', toks := tk }) := ⟨fun b o e => view_mk (fun hm => by
    rcases List.mem_cons.mp hm with rfl | hm
    · rw [view_of e] at hnew; cases hnew
    · exact view_not e hm) (hk b o (view_of e)), fun _ _ e => e⟩
  -- one by one
  have go : ∀ (j : Nat) (es' : List (Key × V)) (ds' : List DictEntry) (kvs' : List (Key × Value)) (as' : List Addr), RepD C.W (view own T s) es' ds' kvs' → as'.length = kvs'.length → (∀ i a, as'[i]? = some a → as[j + i]? = some a) → (∀ i, kvs'[i]? = kvs[j + i]?) →
      RepL C.W (view (s.heap.objs.size :: own) T { s with heap := h', toks := tk }) (es'.map fun p => .tup [p.1.tv, p.2]) (as'.map Value.ref) := by
    intro j es' ds' kvs' as' hr' hl' ha hkv
    induction as' generalizing j es' ds' kvs' with
    | nil =>
      cases hr' with
      | nil => exact .nil
      | cons => simp at hl'
    | cons b as' ih =>
      cases hr' with
      | nil => simp at hl'
      | @cons k v d es' ds' kvs' q1 q2 q3 q4 =>
        refine .cons ?_ (ih (j + 1) es' ds' kvs' q4 (by simpa using hl') (fun i a e => by have := ha (i + 1) a (by simpa using e); rw [← this]; congr 1; omega) (fun i => by have := hkv (i + 1); rw [List.getElem?_cons_succ] at this; rw [this]; congr 1; omega))
        obtain ⟨key, k', x, e1, e2, e3⟩ := hG.pairs j b (by have := ha 0 b rfl; simpa using this)
        have e4 := hkv 0
        rw [List.getElem?_cons_zero, Nat.add_zero, e1] at e4
        injection e4 with e4
        injection e4 with e5 e6
        subst e5
        subst e6
        have hb : b ∉ s.heap.objs.size :: own := fun hm => by
          have hgt := hG.above b (List.mem_of_getElem? (by have := ha 0 b rfl; simpa using this))
          rcases List.mem_cons.mp hm with rfl | hm
          · exact Nat.lt_irrefl _ hgt
          · obtain ⟨o, ho⟩ := Option.isSome_iff_exists.mp (hO.live b hm)
            exact Nat.lt_irrefl _ (Nat.lt_trans hgt (Heap.lt_size ho))
        refine .tup (o := { cls := .type "tuple", data := .seq #[key, d.val] }) (ws := [key, d.val]) (n := 0) (view_mk hb e3) rfl rfl (.cons ?_ (.cons (q3.mono le) .nil))
        cases k with
        | s l => obtain ⟨t, rfl⟩ := Key.is_s e2; exact .txt _ _
        | i n => obtain ⟨t, rfl⟩ := Key.is_i e2; exact .int _ _
  exact go 0 es ds kvs as r (by rw [hal]) (fun i a e => by rw [Nat.zero_add]; exact e) (fun i => by rw [Nat.zero_add])
end
end Sx
end
section
open PySem PySem.W PyProof.Rows PySem.Calls
set_option linter.unusedVariables false
set_option Elab.async false
set_option maxRecDepth 100000
namespace Sx
theorem nlt_neg (a b c : List Nat) (h : a < c) : a < b ∨ b < c := by
  by_cases hab : a < b
  · exact .inl hab
  · exact .inr (List.lt_of_le_of_lt (List.not_lt.mp hab) h)
section
variable {prog : Program} {w : World} {A : Around} {E : Value → Shared → Prop} {s : Shared} {dom : Keyed → Prop} {L : Keyed → Keyed → Bool}
theorem ltOk_of (κ : Keyed → List Nat)
    (h : ∀ (E : Value → Shared → Prop) (p q : Keyed) (Q : Bool → Shared → Prop), dom p → dom q → Q (decide (κ p < κ q)) s → wpAny (model prog w) A (oneLt' true p.1 q.1) Q E s) :
    LtOk prog w A s dom fun p q => decide (κ p < κ q) where
  lt E st p q Q hp hq hk hQ := by
    rw [lt'_eq]
    refine wpS_bind (wpS_get ?_)
    rw [hk, keyLt'_oneType]
    refine wpS_bind (wpS_lift (wpAny_attempt (h _ p q _ hp hq ⟨rfl, ?_⟩)))
    exact wpS_pure hQ
  irrefl a := by simpa using List.lt_irrefl (κ a)
  trans a b c h1 h2 := by
    simp only [decide_eq_true_eq] at *; exact List.lt_trans h1 h2
  neg a b c h1 := by
    simp only [decide_eq_true_eq] at *; exact nlt_neg _ _ _ h1

theorem list_sort_any (O : ∀ s, LtOk prog w A s dom L) {a : Addr} {vs : List Value} {n : Nat} {P : PySem.Fin → Shared → Prop} (ho : s.heap.get? a = some (seqObj "list" vs.toArray n))
    (h0 : AllDom dom (pairsOf vs)) (hkk : ∀ v₁ v₂ rest, vs = v₁ :: v₂ :: rest → keyKind' (v₁ :: v₂ :: rest).toArray = pure oneType') (h128 : vs.length < 128)
    (h : ∀ xs : Array Keyed, xs.Perm (pairsOf vs) → Rises L xs.toList → P (.done (.ret .none)) { s with heap := sortedHeap s.heap a vs (xs.map (·.2)) }) :
    wpAny (model prog w) A (Builtin.«list.sort» ⟨[.ref a], []⟩) P E s := by
  rw [list_sort_plain]
  have ha : a < s.heap.objs.size := Heap.lt_size ho
  have hv : vs.length ≤ sizeLine := by rw [sizeLine_eq]; omega
  refine wpAny_bind (listItems_at ho rfl ?_)
  refine wpAny_bind (listUpdate_at ho rfl ?_ (by rw [List.size_toArray]; exact hv) (Nat.zero_le _))
  obtain ⟨e1, ho1⟩ : ∃ e1, (s.heap.update a (Obj.mapSeq fun _ => #[])).get? a = some (seqObj "list" #[] e1) := ⟨_, get?_update_seq ho (fun _ => #[])⟩
  refine wpAny_bind (seqEpoch_at ho1 rfl ?_)
  refine wpAny_bind (wpAny_newTuple ?_)
  refine wpAny_bind (wpAny_newList ?_)
  refine wpAny_holding ?_
  have ho6 : (((s.heap.update a (Obj.mapSeq fun _ => #[])).push (seqObj "tuple" vs.toArray 0)).push (seqObj "list" #[] 0)).get? a = some (seqObj "list" #[] e1) := by
    rw [Heap.get?_push_ne _ _ _ (by rw [size_push', Heap.size_update]; exact Nat.ne_of_lt (Nat.lt_succ_of_lt ha)), Heap.get?_push_ne _ _ _ (by rw [Heap.size_update]; exact Nat.ne_of_lt ha)]
    exact ho1
  show wpAny (model prog w) A _ P E { s with heap := ((s.heap.update a (Obj.mapSeq fun _ => #[])).push (seqObj "tuple" vs.toArray 0)).push (seqObj "list" #[] 0) }
  dsimp only
  have hsz : vs.toArray.size = vs.length := by simp
  by_cases h2 : vs.toArray.size < 2
  · rw [if_pos h2, if_pos h2]
    refine wpAny_bind (wpAny_pure ?_)
    rw [StateT.run_pure]
    refine wpAny_bind (wpAny_pure ?_)
    dsimp only
    refine wpAny_bind (seqEpoch_at ho6 rfl ?_)
    refine wpAny_bind (listUpdate_at ho6 rfl ?_ (Nat.zero_le _) (hsz2 := by rw [Array.size_map]; show (pairsOf vs).size ≤ _; rw [pairsOf_size, sizeLine_eq]; omega))
    simp only [bne_self_eq_false, Bool.false_eq_true, if_false]
    refine wpAny_pure (h (pairsOf vs) (Array.Perm.refl _) ?_)
    rw [Rises, List.pairwise_iff_getElem]
    intro i j hi hj hij
    have : (pairsOf vs).toList.length = vs.length := by rw [Array.length_toList, pairsOf_size]
    omega
  · rw [if_neg h2, if_neg h2]
    obtain ⟨v₁, v₂, rest, rfl⟩ : ∃ v₁ v₂ rest, vs = v₁ :: v₂ :: rest := by
      match vs, hsz, h2 with
      | [], _, h2 => simp at h2
      | [_], _, h2 => simp at h2
      | v₁ :: v₂ :: rest, _, _ => exact ⟨v₁, v₂, rest, rfl⟩
    rw [hkk _ _ _ rfl]
    refine wpAny_bind (wpAny_pure ?_)
    refine wpAny_bind (wpAny_mono (sortRuns_ok (O _) (a₀ := pairsOf (v₁ :: v₂ :: rest)) h0 (st := SortSt.mk' oneType' ((v₁ :: v₂ :: rest).toArray.zip (v₁ :: v₂ :: rest).toArray) #[] 7 none)
      (Q := fun _ st' => (arrOf st').Perm (pairsOf (v₁ :: v₂ :: rest)) ∧ failedOf st' = none ∧ Rises L (arrOf st').toList)
      ⟨rfl, rfl, Array.Perm.refl _⟩ rfl (by rw [pairsOf_size]; simp) (by rw [pairsOf_size]; exact h128) fun st' g r => ⟨g.perm, g.failed, r⟩) ?_ fun _ _ e => e)
    rintro ⟨⟨⟩, st'⟩ s' ⟨rfl, hp, hf, hs⟩
    dsimp only
    refine wpAny_bind (seqEpoch_at ho6 rfl ?_)
    refine wpAny_bind (listUpdate_at ho6 rfl ?_ (Nat.zero_le _) (hsz2 := by refine Nat.le_trans (Nat.le_of_eq ((Array.size_map ..).trans (hp.size_eq.trans (pairsOf_size _)))) ?_; rw [sizeLine_eq]; omega))
    rw [hf]
    simp only [bne_self_eq_false, Bool.false_eq_true, if_false]
    exact wpAny_pure (h _ hp hs)

theorem sorted_any (O : ∀ A s, LtOk prog w A s dom L) {l : Addr} {vs : List Value} {Q : Value → Shared → Prop} (hl : s.heap.IsList l vs.toArray) (h0 : AllDom dom (pairsOf vs)) (hkk : ∀ v₁ v₂ rest, vs = v₁ :: v₂ :: rest → keyKind' (v₁ :: v₂ :: rest).toArray = pure oneType') (h128 : vs.length < 128)
    (h : ∀ xs : Array Keyed, xs.Perm (pairsOf vs) → Rises L xs.toList → Q (.ref (s.heap.objs.size + 1)) { s with heap := sortedAll s.heap vs (xs.map (·.2)) }) :
    wpAny (model prog w) A (call (.builtin "sorted") [.ref l]) Q E s := by
  have hv : vs.length ≤ sizeLine := by rw [sizeLine_eq]; omega
  refine Calls.call_function_entry kind_sorted plain_sorted entry_sorted (args_sorted1 _) ?_
  unfold Builtin.«sorted»
  refine wpAny_bind (m := checkCount "sorted" 1 1 _) (wpAny_pure ?_)
  refine wpAny_bind (collect_list hl ?_ hv)
  refine wpAny_bind (wpAny_newList ?_ (by rw [sizeLine_eq]; omega))
  have hsz : ((s.heap.push (seqObj "list" #[] 0)).update s.heap.objs.size (Obj.mapSeq (· ++ vs.toArray))).objs.size = s.heap.objs.size + 1 := by
    rw [Heap.size_update, size_push']
  have hoL : (((s.heap.push (seqObj "list" #[] 0)).update s.heap.objs.size (Obj.mapSeq (· ++ vs.toArray))).push (seqObj "list" vs.toArray 0)).get? (s.heap.objs.size + 1) = some (seqObj "list" vs.toArray 0) := by
    rw [← hsz]; exact Heap.get?_push_size _ rfl
  show wpAny _ _ _ _ _ { s with heap := ((s.heap.push (seqObj "list" #[] 0)).update s.heap.objs.size (Obj.mapSeq (· ++ vs.toArray))).push (seqObj "list" vs.toArray 0) }
  rw [hsz]
  refine wpAny_bind (wpAny_holding (wpAny_call_entry slot_list_sort ⟨_, hoL, rfl⟩ entry_list_sort (list_sort_any (O _) hoL h0 hkk h128 fun st' a1 a2 => ⟨_, rfl, ?_⟩) (args_list_sort _)))
  exact wpAny_pure ⟨_, rfl, h st' a1 a2⟩
end
end Sx
end
section
open PySem PySem.W PyProof.Rows PySem.Calls
set_option linter.unusedVariables false
set_option Elab.async false
set_option maxRecDepth 100000
namespace Sx
noncomputable def cpsOf (v : Value) : List Nat := match v with | .str x _ => x.cps.toList | _ => []
noncomputable def IsText (p : Keyed) : Prop := ∃ x t, p.1 = .str x t
theorem ltOk_text {prog : Program} {w : World} {A : Around} {s : Shared} : LtOk prog w A s IsText fun p q => decide (cpsOf p.1 < cpsOf q.1) :=
  ltOk_of (fun p => cpsOf p.1) fun E p q Q hp hq hQ => by
    obtain ⟨p1, p2⟩ := p
    obtain ⟨q1, q2⟩ := q
    obtain ⟨x, t, e⟩ := hp
    obtain ⟨y, u, e'⟩ := hq
    dsimp only at e e' ⊢ hQ
    subst e e'
    exact oneLt_str hQ

section
variable {W : Wd} {g : PH}
theorem texts_of : ∀ {ss : List S} {ws : List Value}, RepL W g (ss.map V.str) ws → ∃ ts : List (S × Tok), ws = ts.map (fun p => Value.str (mkS p.1) p.2) ∧ ts.map (·.1) = ss ∧ ∀ p ∈ ts, g.tk p.2 = some p.1
  | [], ws, h => by obtain rfl := h.nil_inv; exact ⟨[], rfl, rfl, nofun⟩
  | x :: ss, ws, h => by
    obtain ⟨_, _, rfl, h1, h2⟩ := h.cons_inv
    obtain ⟨t, rfl, ht⟩ := h1.str_inv
    obtain ⟨ts, rfl, e, hh⟩ := texts_of h2
    exact ⟨(x, t) :: ts, rfl, by simp [e], fun p hp => by rcases List.mem_cons.mp hp with rfl | hp; exact ht; exact hh p hp⟩
theorem texts_to : ∀ (ts : List (S × Tok)), (∀ p ∈ ts, g.tk p.2 = some p.1) → RepL W g ((ts.map (·.1)).map V.str) (ts.map (fun p => Value.str (mkS p.1) p.2))
  | [], _ => .nil
  | p :: ts, h => .cons (.str (h p (.head _))) (texts_to ts fun q hq => h q (.tail _ hq))
theorem perm_map_inv {α β : Type} {f : α → β} : ∀ {l : List α} {r : List β}, r.Perm (l.map f) → ∃ l' : List α, l'.Perm l ∧ r = l'.map f
  | [], r, h => ⟨[], .refl _, List.Perm.eq_nil h⟩
  | a :: l, r, h => by
    have hm : f a ∈ r := h.symm.subset (.head _)
    obtain ⟨r1, r2, rfl⟩ := List.append_of_mem hm
    have h2 : (r1 ++ r2).Perm (l.map f) := by
      have := (List.perm_middle (a := f a) (l₁ := r1) (l₂ := r2)).symm.trans h
      exact (List.perm_cons _).mp this
    obtain ⟨l', p, e⟩ := perm_map_inv h2
    obtain ⟨l1, l2, rfl, rfl, rfl⟩ := List.map_eq_append_iff.mp e.symm
    exact ⟨l1 ++ a :: l2, List.perm_middle.trans (p.cons a), by simp⟩
end

section
variable {C : Cx}
theorem keyKind_texts (ts : List (S × Tok)) (v₁ v₂ : Value) (rest : List Value) (e : ts.map (fun p => Value.str (mkS p.1) p.2) = v₁ :: v₂ :: rest) : keyKind' (v₁ :: v₂ :: rest).toArray = pure oneType' :=
  keyKind_strs (strsAre_map _ fun v hv => by
    rw [← e] at hv
    obtain ⟨p, _, rfl⟩ := List.mem_map.mp hv
    exact ⟨_, _, rfl⟩)
theorem opF_sorted {n : Nat} (ok : C.Ok n) {ss : List S} {K : Slot → Prop} (h128 : ss.length < 128)
    (h : ∀ (a : Addr) (out : List S), out.Perm ss → out.Pairwise (fun x y => ¬ y < x) → K (.list a (out.map V.str))) : OpLF C (fun ws => call (.builtin "sorted") ws) [.lst (ss.map V.str)] K := fun own T s vs hO hr => by
  obtain ⟨_, _, rfl, r1, hr⟩ := hr.cons_inv
  obtain rfl := hr.nil_inv
  obtain ⟨x, ox, wx, nx, rfl, h1, h2, h3, h4, r⟩ := r1.lst_inv
  obtain ⟨ts, rfl, e, ht⟩ := texts_of r
  have hlen : (ts.map fun p => Value.str (mkS p.1) p.2).length < 128 := by
    have : (ts.map (·.1)).length = ss.length := congrArg List.length e
    simp only [List.length_map] at this ⊢
    omega
  refine sorted_any (fun _ _ => ltOk_text) ⟨ox, view_of h1, h2, nx, h4⟩ (fun p hp => ?_) (fun v₁ v₂ rest e => keyKind_texts ts _ _ _ e) hlen fun xs hp hs => ?_
  · rw [pairsOf_toList] at hp
    obtain ⟨q, _, e⟩ := List.mem_map.mp (mem_zip_self hp).2
    exact ⟨_, _, e.symm⟩
  have hp2 : (xs.map (·.2)).toList.Perm (ts.map fun p => Value.str (mkS p.1) p.2) := by
    have := (Array.perm_iff_toList_perm.mp hp).map (·.2)
    rw [Array.toList_map]
    refine this.trans (.of_eq ?_)
    rw [pairsOf_toList, List.map_snd_zip (Nat.le_refl _)]
  obtain ⟨ts', q1, q2⟩ := perm_map_inv hp2
  have k : Kp T s T { s with heap := sortedAll s.heap (ts.map fun p => Value.str (mkS p.1) p.2) (xs.map (·.2)) } := .at hO.tok (fun _ _ => sortedAll_old) (Nat.le_refl _)
  have hrise : (ts'.map (·.1)).Pairwise (fun x y => ¬ y < x) := by
    have d : ∀ p ∈ xs.toList, p.1 = p.2 := fun p hp' => by
      have := (Array.perm_iff_toList_perm.mp hp).subset hp'
      rw [pairsOf_toList] at this
      exact (mem_zip_self this).1
    have h5 : ((xs.map (·.2)).toList).Pairwise (fun x y => ¬ cpsOf y < cpsOf x) := by
      rw [Array.toList_map, List.pairwise_map]
      refine List.Pairwise.imp_of_mem (fun {a b} ha hb hab => ?_) hs
      rw [← d a ha, ← d b hb]
      simpa using hab
    rw [q2, List.pairwise_map] at h5
    rw [List.pairwise_map]
    exact h5
  obtain ⟨e', he'⟩ := sortedAll_at s.heap (ts.map fun p => Value.str (mkS p.1) p.2) (xs.map (·.2))
  refine ⟨.list (s.heap.objs.size + 1) ((ts'.map (·.1)).map V.str), T, s.heap.objs.size + 1, h _ _ (by rw [← e]; exact q1.map _) hrise, rfl, k, ?_, ?_, rfl, (xs.map (·.2)).toList, ⟨e', by rw [Array.toArray_toList]; exact he'⟩, ?_⟩
  · exact Heap.get?_none_of_le (Nat.le_succ _)
  · show ((sortedAll _ _ _).get? _).isSome = true
    rw [he']; rfl
  rw [q2]
  exact texts_to ts' fun p hp => ht p (q1.subset hp)
end
end Sx
end
section
open PySem PySem.W PyProof.Rows PySem.Calls PySem.SeqAt
open AutoSeq1 (wpAny_loadPart')
open MeetsSeq MeetsSeq2 MeetsSeq3
set_option linter.unusedVariables false
set_option Elab.async false
set_option maxRecDepth 100000
namespace Sx
theorem rc_lt_int {prog : Program} {w : World} {A : Around} {E : Value → Shared → Prop} {s : Shared} {a b : Int} {t u : Tok} {Q : Value → Shared → Prop} (h : Q (.bool (decide (a < b))) s) :
    wpAny (model prog w) A (richCompare .Lt (.int a t) (.int b u)) Q E s := wpAny_lt_int h
theorem lt_same (x : Int) (a b : List Int) : decide (x :: a < x :: b) = decide (a < b) := by
  rw [decide_eq_decide, List.cons_lt_cons_iff]
  exact ⟨fun h => h.elim (fun h => absurd h (Int.lt_irrefl _)) (·.2), fun h => .inr ⟨rfl, h⟩⟩
theorem lt_ne {x y : Int} (h : x ≠ y) (a b : List Int) : decide (x :: a < y :: b) = decide (x < y) := by
  rw [decide_eq_decide, List.cons_lt_cons_iff]
  exact ⟨fun h' => h'.elim id fun q => absurd q.1 h, .inl⟩
theorem list_lt_loop (l b : Addr) (items items2 : Array Value) (n n2 : Nat) (dd dd2 : Option Addr) (sl sl2 : Array (Option Value)) (is js : List Int) (h1 : items.size = is.length) (h2 : items2.size = js.length)
    (g1 : ∀ (j : Nat) (x : Int), is[j]? = some x → ∃ t, items[j]? = some (Value.int x t)) (g2 : ∀ (j : Nat) (x : Int), js[j]? = some x → ∃ t, items2[j]? = some (Value.int x t)) (k : Nat) :
    ∀ i : Nat, items.size - i = k → i ≤ items.size → i ≤ items2.size → Meets (Builtin.«list.__eq__.loop» ⟨[.ref l, .ref b, rawInt i, rawInt 0], []⟩)
      (fun A R s => s.heap.get? l = some { cls := .type "list", dict := dd, data := .seq items n, slots := sl } ∧ s.heap.get? b = some { cls := .type "list", dict := dd2, data := .seq items2 n2, slots := sl2 } ∧
        R (.ok (.ret (.bool (decide (is.drop i < js.drop i))))) s) := by
  induction k with
  | zero =>
    intro i hk q1 q2 prog w A R s h
    obtain ⟨hp, g, d, tk, os⟩ := s; obtain ⟨hl, hb, h⟩ := h
    wp_walk using wpAny_loadPart' hl, wpAny_loadPart' hb
    have hi1 : items[((i : Nat) : Int).toNat]? = none := by simp; omega
    rw [hi1]
    wp_walk using wpAny_loadPart' hl, wpAny_loadPart' hb
    show R (.ok (.ret (.bool (decide (items.size < items2.size))))) _
    have e1 : is.drop i = [] := by simp; omega
    rw [e1] at h
    have e2 : decide (items.size < items2.size) = decide (([] : List Int) < js.drop i) := by
      rw [decide_eq_decide]
      cases hj : js.drop i with
      | nil =>
        have : js.length ≤ i := by simpa using hj
        simp; omega
      | cons x r =>
        have : i < js.length := by
          rcases Nat.lt_or_ge i js.length with h | h
          · exact h
          · rw [List.drop_eq_nil_of_le h] at hj; cases hj
        simp; omega
    rw [e2]; exact h
  | succ k ih =>
    intro i hk q1 q2 prog w A R s h
    obtain ⟨hp, g, d, tk, os⟩ := s; obtain ⟨hl, hb, h⟩ := h
    wp_walk using wpAny_loadPart' hl, wpAny_loadPart' hb
    have hlt : i < is.length := by omega
    obtain ⟨t, ht⟩ := g1 i is[i] (List.getElem?_eq_getElem hlt)
    have hi1 : items[((i : Nat) : Int).toNat]? = some (Value.int is[i] t) := ht
    have hd : is.drop i = is[i] :: is.drop (i + 1) := List.drop_eq_getElem_cons hlt
    rw [hd] at h
    rw [hi1]
    rcases Nat.lt_or_ge i js.length with hlt2 | hge
    · obtain ⟨u, hu⟩ := g2 i js[i] (List.getElem?_eq_getElem hlt2)
      have hi2 : items2[((i : Nat) : Int).toNat]? = some (Value.int js[i] u) := hu
      have hd2 : js.drop i = js[i] :: js.drop (i + 1) := List.drop_eq_getElem_cons hlt2
      have hc : ((i : Int) + 1) = ((i + 1 : Nat) : Int) := by push_cast; rfl
      rw [hd2] at h
      rw [hi2]
      refine wpAny_bind (wpAny_eqBool_int ?_)
      by_cases e : is[i] = js[i]
      · rw [show (is[i] == js[i]) = true from beq_iff_eq.mpr e]
        have h' : R (.ok (.ret (.bool (decide (is.drop (i + 1) < js.drop (i + 1)))))) ⟨hp, g, d, tk, os⟩ := by
          rw [e, lt_same] at h; exact h
        wp_walk
        rw [hc]
        exact ⟨plainId_quiet plain_eq_loop _, codeAny_builtin entry_eq_loop (by
          rw [Around.under_plainId plain_eq_loop _]
          exact ih (i + 1) (by omega) (by omega) (by omega) prog w A R _ ⟨hl, hb, h'⟩)⟩
      · rw [show (is[i] == js[i]) = false from beq_eq_false_iff_ne.mpr e]
        have h' : R (.ok (.ret (.bool (decide (is[i] < js[i]))))) ⟨hp, g, d, tk, os⟩ := by
          rw [lt_ne e] at h; exact h
        wp_walk using wpAny_loadPart' hl, wpAny_loadPart' hb
        rw [hi1, hi2]
        refine wpAny_bind (rc_lt_int ?_)
        wp_walk
        exact h'
    · have hi2 : items2[((i : Nat) : Int).toNat]? = none := Array.getElem?_eq_none (by show items2.size ≤ i; omega)
      rw [hi2]
      wp_walk using wpAny_loadPart' hl, wpAny_loadPart' hb
      show R (.ok (.ret (.bool (decide (items.size < items2.size))))) _
      rw [List.drop_eq_nil_of_le hge] at h
      have e2 : decide (items.size < items2.size) = decide (is[i] :: is.drop (i + 1) < ([] : List Int)) := by
        rw [decide_eq_false (Nat.not_lt.mpr (by omega)), decide_eq_false (List.not_lt_nil _)]
      rw [e2]; exact h
end Sx
end
section
open PySem PySem.W PyProof.Rows PySem.Calls PySem.SeqAt
open AutoSeq1 (wpAny_loadPart')
open MeetsSeq MeetsSeq2 MeetsSeq3
set_option linter.unusedVariables false
set_option Elab.async false
set_option maxRecDepth 100000
namespace Sx
theorem ints_get {vs : List Value} {is : List Int} (h : IntsAre vs is) : ∀ (j : Nat) (x : Int), is[j]? = some x → ∃ t, vs[j]? = some (Value.int x t) := by
  induction h with
  | nil => intro j x e; simp at e
  | cons n t _ ih =>
    intro j x e
    cases j with
    | zero => simp at e; subst e; exact ⟨t, rfl⟩
    | succ j => exact ih j x (by simpa using e)
theorem list_lt_at (l b : Addr) (items items2 : Array Value) (n n2 : Nat) (dd dd2 : Option Addr) (sl sl2 : Array (Option Value)) (is js : List Int) (h1 : IntsAre items.toList is) (h2 : IntsAre items2.toList js) :
    Meets (Builtin.«list.__lt__» ⟨[.ref l, .ref b], []⟩)
      (fun A R s => s.heap.get? l = some { cls := .type "list", dict := dd, data := .seq items n, slots := sl } ∧ s.heap.get? b = some { cls := .type "list", dict := dd2, data := .seq items2 n2, slots := sl2 } ∧
        R (.ok (.ret (.bool (decide (is < js))))) s) := by
  intro prog w A R s h
  obtain ⟨hp, g, d, tk, os⟩ := s; obtain ⟨hl, hb, h⟩ := h
  have f3 := AutoSeq1.sub_list_list
  wp_walk using wpAny_loadPart' hl, wpAny_loadPart' hb
  exact ⟨plainId_quiet plain_eq_loop _, codeAny_builtin entry_eq_loop (by
    rw [Around.under_plainId plain_eq_loop _]
    exact list_lt_loop l b items items2 n n2 dd dd2 sl sl2 is js (by rw [← Array.length_toList, h1.length]) (by rw [← Array.length_toList, h2.length]) (fun j x e => by rw [← Array.getElem?_toList]; exact ints_get h1 j x e) (fun j x e => by rw [← Array.getElem?_toList]; exact ints_get h2 j x e) _ 0 rfl (Nat.zero_le _) (Nat.zero_le _) prog w A R _ ⟨hl, hb, h⟩)⟩

noncomputable def IntsAt (h : Heap) (v : Value) (is : List Int) : Prop := ∃ a items n, v = .ref a ∧ h.get? a = some { cls := .type "list", dict := none, data := .seq items n, slots := #[] } ∧ IntsAre items.toList is
noncomputable def keyL (h : Heap) (v : Value) : List Int := match v with
  | .ref a => (match h.get? a with
    | some o => (match o.data with
      | .seq items _ => items.toList.map numOf
      | _ => [])
    | none => [])
  | _ => []
theorem IntsAt.key {h : Heap} {v : Value} {is : List Int} (x : IntsAt h v is) : keyL h v = is := by
  obtain ⟨a, items, n, rfl, e, hI⟩ := x
  unfold keyL
  dsimp only
  rw [e]
  exact hI.nums
theorem IntsAt.keep {h h' : Heap} {v : Value} {is : List Int} (x : IntsAt h v is) (k : ∀ b o, h.get? b = some o → h'.get? b = some o) : IntsAt h' v is :=
  let ⟨a, items, n, e1, e2, e3⟩ := x; ⟨a, items, n, e1, k _ _ e2, e3⟩
section
variable {prog : Program} {w : World} {A : Around} {E : Value → Shared → Prop} {s : Shared}
theorem oneLt_ints {x y : Value} {is js : List Int} (hu : A.units < cLine) (hx : IntsAt s.heap x is) (hy : IntsAt s.heap y js) {Q : Bool → Shared → Prop} (h : Q (decide (is < js)) s) : wpAny (model prog w) A (oneLt' true x y) Q E s := by
  obtain ⟨a, items, n, rfl, e1, h1⟩ := hx
  obtain ⟨b, items2, n2, rfl, e2, h2⟩ := hy
  rw [oneLt'_eq]
  simp only [if_true]
  refine wpAny_bind (wpAny_cRoomFor hu ?_)
  refine wpAny_bind (wpAny_callSpecialIfBound?_slot (T := "list") ⟨_, e1, rfl⟩ F.slot_list_lt (call_meets F.slot_list_lt ⟨_, e1, rfl⟩ F.entry_list_lt (F.args_list_lt_2 _ _) (list_lt_at a b items items2 n n2 none none #[] #[] is js h1 h2) ⟨e1, e2, ?_⟩))
  exact wpAny_truthy_bool h
noncomputable def IsKey (h : Heap) (p : Keyed) : Prop := ∃ is, IntsAt h p.1 is
theorem ilt_neg (a b c : List Int) (h : a < c) : a < b ∨ b < c := by
  by_cases hab : a < b
  · exact .inl hab
  · exact .inr (List.lt_of_le_of_lt (List.not_lt.mp hab) h)
theorem ltOk_ints (hu : A.units < cLine) : LtOk prog w A s (IsKey s.heap) fun p q => decide (keyL s.heap p.1 < keyL s.heap q.1) where
  lt E st p q Q hp hq hk hQ := by
    obtain ⟨is, hp⟩ := hp
    obtain ⟨js, hq⟩ := hq
    rw [lt'_eq]
    refine wpS_bind (wpS_get ?_)
    rw [hk, keyLt'_oneType]
    refine wpS_bind (wpS_lift (wpAny_attempt (oneLt_ints hu hp hq ⟨rfl, ?_⟩)))
    rw [← hp.key, ← hq.key]
    exact wpS_pure hQ
  irrefl a := by simp [List.lt_irrefl]
  trans a b c h1 h2 := by
    simp only [decide_eq_true_eq] at *; exact List.lt_trans h1 h2
  neg a b c h1 := by
    simp only [decide_eq_true_eq] at *; exact ilt_neg _ _ _ h1
end
end Sx
end
section
open PySem PySem.W PyProof.Rows PySem.Calls
set_option linter.unusedVariables false
set_option Elab.async false
set_option maxRecDepth 100000
namespace Sx
inductive KeysUp (h : Heap) (kS : Addr) : List Value → List (List Int) → Prop
  | nil : KeysUp h kS [] []
  | cons {b : Addr} {is : List Int} {vs : List Value} {iss : List (List Int)} : b ≠ kS → IntsAt h (.ref b) is → KeysUp h kS vs iss → KeysUp h kS (.ref b :: vs) (is :: iss)
theorem IntsAt.move {h h' : Heap} {kS b : Addr} {is : List Int} (x : IntsAt h (.ref b) is) (hb : b ≠ kS) (k : ∀ c o, c ≠ kS → h.get? c = some o → h'.get? c = some o) : IntsAt h' (.ref b) is := by
  obtain ⟨a, items, n, e1, e2, e3⟩ := x
  cases e1
  exact ⟨b, items, n, rfl, k _ _ hb e2, e3⟩
theorem KeysUp.move {h h' : Heap} {kS : Addr} {vs : List Value} {iss : List (List Int)} (x : KeysUp h kS vs iss) (k : ∀ c o, c ≠ kS → h.get? c = some o → h'.get? c = some o) : KeysUp h' kS vs iss := by
  induction x with
  | nil => exact .nil
  | cons hb x _ ih => exact .cons hb (x.move hb k) ih
theorem KeysUp.snoc {h : Heap} {kS b : Addr} {is : List Int} {vs : List Value} {iss : List (List Int)} (x : KeysUp h kS vs iss) (hb : b ≠ kS) (y : IntsAt h (.ref b) is) : KeysUp h kS (vs ++ [.ref b]) (iss ++ [is]) := by
  induction x with
  | nil => exact .cons hb y .nil
  | cons hb' x _ ih => exact .cons hb' x ih
theorem KeysUp.length {h : Heap} {kS : Addr} {vs : List Value} {iss : List (List Int)} (x : KeysUp h kS vs iss) : vs.length = iss.length := by
  induction x with
  | nil => rfl
  | cons _ _ _ ih => simp [ih]
theorem KeysUp.all {h : Heap} {kS : Addr} {vs : List Value} {iss : List (List Int)} (x : KeysUp h kS vs iss) : ∀ v ∈ vs, ∃ b is, v = .ref b ∧ IntsAt h (.ref b) is := by
  induction x with
  | nil => nofun
  | cons _ x _ ih =>
    intro v hv
    rcases List.mem_cons.mp hv with rfl | hv
    · exact ⟨_, _, rfl, x⟩
    · exact ih v hv
theorem KeysUp.keys {h : Heap} {kS : Addr} {vs : List Value} {iss : List (List Int)} (x : KeysUp h kS vs iss) : vs.map (keyL h) = iss := by
  induction x with
  | nil => rfl
  | cons _ x _ ih => rw [List.map_cons, ih, x.key]

section
variable {prog : Program} {w : World} {A : Around} {E : Value → Shared → Prop} {s : Shared} {a kS : Addr} {keys : Array Value} {e e1 : Nat} {P : PySem.Fin → Shared → Prop} {vs : List Value} {iss : List (List Int)}
theorem key_tail {st : SortSt} (hka : kS ≠ a) (hk : s.heap.get? kS = some (seqObj "list" keys e)) (ha : s.heap.get? a = some (seqObj "list" #[] e1)) (hks : keys.size ≤ 127) (hsz : (arrOf st).size ≤ 127) (hf : failedOf st = none)
    (h : ∀ h' c, (∀ b o, b ≠ kS → b ≠ a → s.heap.get? b = some o → h'.get? b = some o) → h'.get? a = some (seqObj "list" ((arrOf st).map (·.2)) c) → P (.done (.ret .none)) { s with heap := h' }) :
    wpAny (model prog w) A (ksk_tail a false e1 (.ref kS) st) P E s := by
  have hl : 127 ≤ sizeLine := by rw [sizeLine_eq]; decide
  unfold ksk_tail
  dsimp only
  have hout : ((arrOf st).map (·.2)).size ≤ 127 := Nat.le_trans (Nat.le_of_eq (Array.size_map ..)) hsz
  generalize (arrOf st).map (·.2) = out at h hout ⊢
  have s1 := Heap.SameBut.update s.heap kS (Obj.mapSeq fun _ => (#[] : Array Value))
  have na1 : (s.heap.update kS (Obj.mapSeq fun _ => (#[] : Array Value))).get? a = some (seqObj "list" #[] e1) := (s1.2 a hka.symm).trans ha
  have s2 := Heap.SameBut.update (s.heap.update kS (Obj.mapSeq fun _ => (#[] : Array Value))) a (Obj.mapSeq fun _ => out)
  obtain ⟨c2, hc2⟩ : ∃ c2, ((s.heap.update kS (Obj.mapSeq fun _ => (#[] : Array Value))).update a (Obj.mapSeq fun _ => out)).get? a = some (seqObj "list" out c2) := ⟨_, get?_update_seq na1 fun _ => out⟩
  refine wpAny_bind (listUpdate_at hk rfl ?_ (Nat.le_trans hks hl) (Nat.zero_le _))
  refine wpAny_bind (wpAny_letGo ?_)
  refine wpAny_bind (seqEpoch_at na1 rfl ?_)
  refine wpAny_bind (listUpdate_at na1 rfl ?_ (Nat.zero_le _) (Nat.le_trans hout (Nat.le_trans hl (Nat.le_succ _))))
  rw [hf]
  simp only [bne_self_eq_false, Bool.false_eq_true, if_false]
  exact wpAny_pure (h _ c2 (fun b o n1 n2 x => (s2.2 b n2).trans ((s1.2 b n1).trans x)) hc2)

theorem keyKind_keys {s : Shared} {vs : List Value} {Q : SortKind → Shared → Prop} (h2 : 2 ≤ vs.length) (hk : KeysUp s.heap kS vs iss) (h : Q oneType' s) : wpAny (model prog w) A (keyKind' vs.toArray) Q E s :=
  kas_kind (T := .type "list") h2 (fun v hv A Q E s' k q => by
    obtain ⟨b, is, rfl, x⟩ := hk.all v hv
    obtain ⟨a, items, n, e1, e2, e3⟩ := x
    cases e1
    exact wpAny_typeOf ⟨_, k _ _ e2, rfl⟩ q) (by decide +kernel) (by decide +kernel) h

theorem key_end (hu : A.units < cLine) (hka : kS ≠ a) (hk : s.heap.get? kS = some (seqObj "list" keys e)) (ha : s.heap.get? a = some (seqObj "list" #[] e1)) (hU : KeysUp s.heap kS keys.toList iss) (hlen : iss.length = vs.length) (h128 : vs.length < 128)
    (h : ∀ xs : Array Keyed, xs.Perm (keys.zip vs.toArray) → xs.toList.Pairwise (fun p q => ¬ keyL s.heap q.1 < keyL s.heap p.1) → ∀ h' c, (∀ b o, b ≠ kS → b ≠ a → s.heap.get? b = some o → h'.get? b = some o) → h'.get? a = some (seqObj "list" (xs.map (·.2)) c) →
      P (.done (.ret .none)) { s with heap := h' }) : wpAny (model prog w) A (ksk_end a false vs.toArray e1 (.ref kS) keys) P E s := by
  have hks : keys.size = vs.length := by rw [← Array.length_toList, hU.length, hlen]
  have hzs : (keys.zip vs.toArray).size = vs.length := by rw [Array.size_zip, hks, List.size_toArray, Nat.min_self]
  unfold ksk_end
  try dsimp only
  show wpAny (model prog w) A (do
    let kind ← if vs.toArray.size < 2 then pure general' else keyKind' keys
    let ((), s) ← (if vs.toArray.size < 2 then pure () else sortRuns').run (SortSt.mk' kind (keys.zip vs.toArray) #[] 7 none)
    ksk_tail a false e1 (.ref kS) s) P E s
  by_cases h2 : vs.toArray.size < 2
  · rw [if_pos h2, if_pos h2]
    refine wpAny_bind (wpAny_pure ?_)
    dsimp only
    rw [StateT.run_pure]
    refine wpAny_bind (wpAny_pure ?_)
    try dsimp only
    refine key_tail (st := SortSt.mk' general' (keys.zip vs.toArray) #[] 7 none) hka hk ha (by omega) (by show (keys.zip vs.toArray).size ≤ 127; omega) rfl fun h' c k1 k2 => h _ (.refl _) ?_ h' c k1 k2
    rw [List.pairwise_iff_getElem]
    intro i j hi hj hij
    have hj2 : j < (keys.zip vs.toArray).size := by rw [← Array.length_toList]; exact hj
    rw [List.size_toArray] at h2
    omega
  · rw [if_neg h2, if_neg h2]
    rw [List.size_toArray] at h2
    have ek : keys = keys.toList.toArray := by rw [Array.toArray_toList]
    refine wpAny_bind ?_
    rw [ek]
    refine keyKind_keys (by rw [hU.length]; omega) hU ?_
    rw [Array.toArray_toList]
    refine wpAny_bind (wpAny_mono (sortRuns_ok (ltOk_ints hu) (a₀ := keys.zip vs.toArray) (fun p hp => ?_) (st := SortSt.mk' oneType' (keys.zip vs.toArray) #[] 7 none)
      (Q := fun _ st' => (arrOf st').Perm (keys.zip vs.toArray) ∧ failedOf st' = none ∧ Rises (fun p q => decide (keyL s.heap p.1 < keyL s.heap q.1)) (arrOf st').toList)
      ⟨rfl, rfl, .refl _⟩ rfl (by rw [hzs]; omega) (by rw [hzs]; exact h128) fun st' g r => ⟨g.perm, g.failed, r⟩) ?_ fun _ _ e => e)
    · rw [ksk_zip] at hp
      obtain ⟨b, is, e, x⟩ := hU.all _ (List.of_mem_zip hp).1
      exact ⟨is, e ▸ x⟩
    · rintro ⟨⟨⟩, st'⟩ s' ⟨rfl, hp, hf, hs⟩
      try dsimp only
      refine key_tail hka hk ha (by omega) (by rw [hp.size_eq]; omega) hf fun h' c k1 k2 => h _ hp ?_ h' c k1 k2
      refine List.Pairwise.imp (fun {p q} x => ?_) hs
      simpa using x
end
end Sx
end
section
open PySem PySem.W PyProof.Rows PySem.Calls
set_option linter.unusedVariables false
set_option Elab.async false
set_option maxRecDepth 100000
namespace Sx
noncomputable abbrev tval (p : S × Tok) : Value := .str (mkS p.1) p.2
theorem zip_keys {H : Value → List Int} {κ : S → List Int} : ∀ {keys : List Value} {ts : List (S × Tok)}, keys.map H = ts.map (fun p => κ p.1) → ∀ q ∈ keys.zip ts, H q.1 = κ q.2.1
  | [], ts, _, q, hq => by simp at hq
  | k :: keys, [], h, q, hq => by simp at hq
  | k :: keys, t :: ts, h, q, hq => by
    rw [List.map_cons, List.map_cons] at h
    injection h with h1 h2
    rcases List.mem_cons.mp (by simpa using hq) with rfl | hq
    · exact h1
    · exact zip_keys h2 q hq
theorem key_out {H : Value → List Int} {keys : List Value} {ts : List (S × Tok)} {κ : S → List Int} (hk : keys.map H = ts.map fun p => κ p.1) {xs : List Keyed} (hp : xs.Perm (keys.zip (ts.map tval))) (hr : xs.Pairwise fun p q => ¬ H q.1 < H p.1) :
    ∃ ts' : List (S × Tok), ts'.Perm ts ∧ xs.map (·.2) = ts'.map tval ∧ ts'.Pairwise fun p q => ¬ κ q.1 < κ p.1 := by
  rw [List.zip_map_right] at hp
  obtain ⟨l', p1, rfl⟩ := perm_map_inv hp
  have hl : keys.length = ts.length := by have := congrArg List.length hk; simpa using this
  refine ⟨l'.map (·.2), (p1.map _).trans (.of_eq (List.map_snd_zip (Nat.le_of_eq hl.symm))), by simp [List.map_map], ?_⟩
  rw [List.pairwise_map] at hr ⊢
  refine List.Pairwise.imp_of_mem (fun {a b} ha hb h => ?_) hr
  have e1 := zip_keys hk a (p1.subset ha)
  have e2 := zip_keys hk b (p1.subset hb)
  rw [← e1, ← e2]
  exact h
theorem ints_are {W : Wd} {g : PH} : ∀ {is : List Int} {ws : List Value}, RepL W g (is.map V.int) ws → IntsAre ws is
  | [], ws, h => by obtain rfl := h.nil_inv; exact .nil
  | i :: is, ws, h => by
    obtain ⟨_, _, rfl, h1, h2⟩ := h.cons_inv
    obtain ⟨t, rfl⟩ := h1.int_inv
    exact .cons i t (ints_are h2)
theorem Kp.upd {T T' : TM} {s s' : Shared} {a : Addr} {h : Heap} (k : Kp T s T' s') (ha : s.heap.get? a = none) (hs : ∀ b o, b ≠ a → s'.heap.get? b = some o → h.get? b = some o) : Kp T s T' { s' with heap := h } := by
  obtain ⟨⟨h1, t1, rfl⟩, k2, k3, k4⟩ := k
  exact ⟨⟨h, t1, rfl⟩, fun b o e => hs b o (fun q => by rw [q, ha] at e; cases e) (k2 b o e), k3, k4⟩
theorem OwnOk.two {C : Cx} {own : List Addr} {T T' : TM} {s s' : Shared} {a b : Addr} (x : OwnOk C own T s) (k : Kp T s T' s') (ha : s.heap.get? a = none) (hb : s.heap.get? b = none) (la : (s'.heap.get? a).isSome = true) (lb : (s'.heap.get? b).isSome = true) : OwnOk C (a :: b :: own) T' s' where
  base c o e := by
    have e1 := x.base c o e
    have e2 := view_of e1
    refine view_mk (fun hm => ?_) (k.keep c o e2)
    rcases List.mem_cons.mp hm with rfl | hm
    · rw [ha] at e2; cases e2
    · rcases List.mem_cons.mp hm with rfl | hm
      · rw [hb] at e2; cases e2
      · exact view_not e1 hm
  live c hc := by
    rcases List.mem_cons.mp hc with rfl | hc
    · exact la
    · rcases List.mem_cons.mp hc with rfl | hc
      · exact lb
      · exact k.live x.live c hc
  tok := k.tok

/-- what the key's call gives: a new list of ints -/
noncomputable def KeyTurn (C : Cx) (A : Around) (f : Value) (κ : S → List Int) (own : List Addr) (T₀ : TM) (s₀ : Shared) (ts : List (S × Tok)) (kS a : Addr) : Prop :=
  ∀ T s, OwnOk C (kS :: a :: own) T s → Kp T₀ s₀ T s → ∀ p ∈ ts, T p.2 = some p.1 →
    wpAny C.M A (call f [tval p]) (OutF C (kS :: a :: own) T s fun sl => ∃ b, sl = .list b ((κ p.1).map V.int)) (fun _ _ => False) s
section
variable {C : Cx} {A : Around} {E : Value → Shared → Prop} {own : List Addr} {T₀ T : TM} {s₀ s : Shared} {a kS : Addr} {e1 : Nat} {P : PySem.Fin → Shared → Prop} {ts : List (S × Tok)} {κ : S → List Int} {f : Value}
theorem key_rest (hu : A.units < cLine) (hO : OwnOk C own T₀ s₀) (hK : Kp T₀ s₀ T s) (fk : s₀.heap.get? kS = none) (fa : s₀.heap.get? a = none) (hka : kS ≠ a) (hk : s.heap.get? kS = some (seqObj "list" #[] 0)) (ha : s.heap.get? a = some (seqObj "list" #[] e1))
    (hts : ∀ p ∈ ts, T₀ p.2 = some p.1) (h128 : ts.length < 128) (turn : KeyTurn C A f κ own T₀ s₀ ts kS a)
    (h : ∀ ts' : List (S × Tok), ts'.Perm ts → (ts'.Pairwise fun p q => ¬ κ q.1 < κ p.1) → ∀ T' s' c, Kp T₀ s₀ T' s' → s'.heap.get? a = some (seqObj "list" (ts'.map tval).toArray c) → P (.done (.ret .none)) s') :
    wpAny C.M A (ksk_rest a f false (ts.map tval).toArray e1 (.ref kS)) P E s := by
  unfold ksk_rest
  refine wpAny_bind (wpAny_rule ?_)
  rw [List.forIn_toArray]
  refine wpAny_bind (ksk_fold (fun i s' => ∃ T' kA e, Kp T₀ s₀ T' s' ∧ s'.heap.get? kS = some (seqObj "list" kA e) ∧ s'.heap.get? a = some (seqObj "list" #[] e1) ∧ KeysUp s'.heap kS kA.toList ((ts.take i).map fun p => κ p.1)) (ts.map tval) 0 s
    ⟨T, #[], 0, hK, hk, ha, by simpa using KeysUp.nil⟩ ?step ?done)
  case step =>
    rintro j x s' hx ⟨T', kA, e, hK', hk', ha', hU⟩
    simp only [Nat.zero_add] at hU ⊢
    have hj : j < ts.length := by have := (List.getElem?_eq_some_iff.mp hx).1; simpa using this
    rw [List.getElem?_map, List.getElem?_eq_getElem hj] at hx
    obtain rfl : tval ts[j] = x := by simpa using hx
    have hz : kA.size ≤ 127 := by
      have := hU.length
      rw [Array.length_toList, List.length_map, List.length_take] at this
      omega
    have hl : 127 ≤ sizeLine := by rw [sizeLine_eq]; decide
    have hm : ts[j] ∈ ts := List.getElem_mem hj
    refine wpAny_bind (wpAny_attempt (wpAny_mono (turn T' s' (hO.two hK' fk fa (by rw [hk']; rfl) (by rw [ha']; rfl)) hK' ts[j] hm (hK'.tle _ _ (hts _ hm))) (fun v s'' he => ?_) fun _ _ hF => hF.elim))
    obtain ⟨sl, T'', a', ⟨b, rfl⟩, hadr, k2, hn, _, rfl, ws, ⟨nn, hw⟩, hr⟩ := he
    obtain rfl : b = a' := by injection hadr
    have hbk : b ≠ kS := fun q => by rw [q, hk'] at hn; cases hn
    have hba : b ≠ a := fun q => by rw [q, ha'] at hn; cases hn
    have hI : IntsAt s''.heap (.ref b) (κ ts[j].1) := ⟨b, ws.toArray, nn, rfl, hw, by simpa using ints_are hr⟩
    have hk2 := k2.keep _ _ hk'
    have ha2 := k2.keep _ _ ha'
    have s1 := Heap.SameBut.update s''.heap kS (Obj.mapSeq (·.push (.ref b)))
    obtain ⟨c2, hc2⟩ : ∃ c2, (s''.heap.update kS (Obj.mapSeq (·.push (.ref b)))).get? kS = some (seqObj "list" (kA.push (.ref b)) c2) := ⟨_, get?_update_seq hk2 (·.push (.ref b))⟩
    have mv : ∀ c o, c ≠ kS → s''.heap.get? c = some o → (s''.heap.update kS (Obj.mapSeq (·.push (.ref b)))).get? c = some o := fun c o q x => (s1.2 c q).trans x
    refine wpAny_bind (listUpdate_at hk2 rfl ?_ (Nat.le_trans hz hl) (Nat.le_trans (Nat.le_of_eq (Array.size_push ..)) (Nat.succ_le_succ (Nat.le_trans hz hl))))
    refine wpAny_pure ⟨rfl, T'', kA.push (.ref b), c2, (hK'.trans k2).upd fk mv, hc2, mv _ _ hka.symm ha2, ?_⟩
    have ek : (ts.take (j + 1)).map (fun p => κ p.1) = (ts.take j).map (fun p => κ p.1) ++ [κ ts[j].1] := by
      rw [List.take_add_one, List.getElem?_eq_getElem hj, List.map_append]; rfl
    rw [ek, Array.toList_push]
    exact KeysUp.snoc ((hU.move fun c o _ x => k2.keep c o x).move mv) hbk (hI.move hbk mv)
  case done =>
    rintro s' ⟨T', kA, e, hK', hk', ha', hU⟩
    have et : ts.take (0 + (ts.map tval).length) = ts := List.take_of_length_le (by simp)
    rw [et] at hU
    try dsimp only
    refine wpAny_bind (listItems_at hk' rfl ?_)
    refine key_end hu hka hk' ha' hU (by simp) (by simpa using h128) fun xs hp hs h' c mv hc => ?_
    have hp2 : xs.toList.Perm (kA.toList.zip (ts.map tval)) := by rw [← ksk_zip]; exact Array.perm_iff_toList_perm.mp hp
    obtain ⟨ts', q1, q2, q3⟩ := key_out hU.keys hp2 hs
    have hxs : xs.map (·.2) = (ts'.map tval).toArray := by
      rw [← q2, ← Array.toList_map, Array.toArray_toList]
    rw [hxs] at hc
    refine h ts' q1 q3 T' _ c ?_ hc
    obtain ⟨⟨h1, t1, rfl⟩, k2, k3, k4⟩ := hK'
    exact ⟨⟨h', t1, rfl⟩, fun b o x => mv b o (fun q => by rw [q, fk] at x; cases x) (fun q => by rw [q, fa] at x; cases x) (k2 b o x), k3, k4⟩
end
end Sx
end
section
open PySem PySem.W PyProof.Rows PySem.Calls
set_option linter.unusedVariables false
set_option Elab.async false
set_option maxRecDepth 100000
namespace Sx
section
variable {C : Cx} {n : Nat} {own : List Addr} {T₀ : TM} {s₀ : Shared} {ss : List S} {κ : S → List Int} {q : Addr}
theorem sorted_key (ok : C.Ok n) (hO : OwnOk C own T₀ s₀) {v : Value} (hv : Rep C.W (view own T₀ s₀) (.lst (ss.map V.str)) v) (h128 : ss.length < 128)
    (turn : ∀ ts kS a, (∀ p ∈ ts, p.1 ∈ ss) → s₀.heap.get? kS = none → s₀.heap.get? a = none → KeyTurn C C.A.in1.in1 (.ref q) κ own T₀ s₀ ts kS a) :
    PrimF C own T₀ s₀ (call (.builtin "sorted") [v] [(Str.ofString "key", .ref q)]) fun sl => ∃ (a : Addr) (out : List S), sl = .list a (out.map V.str) ∧ out.Perm ss ∧ out.Pairwise fun x y => ¬ κ y < κ x := by
  obtain ⟨l, ox, wx, nx, rfl, h1, h2, h3, h4, r⟩ := hv.lst_inv
  obtain ⟨ts, rfl, e, ht⟩ := texts_of r
  have ht' : ∀ p ∈ ts, T₀ p.2 = some p.1 := ht
  have hl : s₀.heap.IsList l (ts.map tval).toArray := ⟨ox, view_of h1, h2, nx, h4⟩
  have hlen : ts.length < 128 := by rw [← e] at h128; simpa using h128
  have hmem : ∀ p ∈ ts, p.1 ∈ ss := fun p hp => e ▸ List.mem_map_of_mem hp
  have hz : (ts.map tval).length ≤ sizeLine := by rw [sizeLine_eq, List.length_map]; omega
  have hu := ok.hu
  have hu2 : C.A.in1.in1.units < cLine := by show C.A.units + 1 + 1 < cLine; unfold cLine; omega
  unfold PrimF
  refine call_function_entry_kw kind_sorted plain_sorted entry_sorted (ksk_s1 _ _) ?_
  unfold Builtin.«sorted»
  refine wpAny_bind (m := checkCount "sorted" 1 1 _) (wpAny_pure ?_)
  refine wpAny_bind (collect_list (vs := ts.map tval) hl ?_ hz)
  refine wpAny_bind (wpAny_newList ?_ hz)
  have hsz : ((s₀.heap.push (seqObj "list" #[] 0)).update s₀.heap.objs.size (Obj.mapSeq (· ++ (ts.map tval).toArray))).objs.size = s₀.heap.objs.size + 1 := by
    rw [Heap.size_update, size_push']
  have hoL : (((s₀.heap.push (seqObj "list" #[] 0)).update s₀.heap.objs.size (Obj.mapSeq (· ++ (ts.map tval).toArray))).push (seqObj "list" (ts.map tval).toArray 0)).get? (s₀.heap.objs.size + 1) = some (seqObj "list" (ts.map tval).toArray 0) := by
    rw [← hsz]; exact Heap.get?_push_size _ rfl
  have keep : ∀ b o, s₀.heap.get? b = some o → (((s₀.heap.push (seqObj "list" #[] 0)).update s₀.heap.objs.size (Obj.mapSeq (· ++ (ts.map tval).toArray))).push (seqObj "list" (ts.map tval).toArray 0)).get? b = some o := fun b o q => by
    have hlt : b < s₀.heap.objs.size := Heap.lt_size q
    rw [Heap.get?_push_ne _ _ _ (by rw [hsz]; exact Nat.ne_of_lt (Nat.lt_succ_of_lt hlt)), Heap.get?_update_ne _ _ _ _ (Nat.ne_of_lt hlt), Heap.get?_push_ne _ _ _ (Nat.ne_of_lt hlt)]
    exact q
  show wpAny _ _ _ _ _ { s₀ with heap := ((s₀.heap.push (seqObj "list" #[] 0)).update s₀.heap.objs.size (Obj.mapSeq (· ++ (ts.map tval).toArray))).push (seqObj "list" (ts.map tval).toArray 0) }
  rw [hsz]
  have hsz2 : (((s₀.heap.push (seqObj "list" #[] 0)).update s₀.heap.objs.size (Obj.mapSeq (· ++ (ts.map tval).toArray))).push (seqObj "list" (ts.map tval).toArray 0)).objs.size = s₀.heap.objs.size + 1 + 1 := by rw [size_push', hsz]
  obtain ⟨H, eH⟩ : ∃ H, ((s₀.heap.push (seqObj "list" #[] 0)).update s₀.heap.objs.size (Obj.mapSeq (· ++ (ts.map tval).toArray))).push (seqObj "list" (ts.map tval).toArray 0) = H := ⟨_, rfl⟩
  rw [eH] at hoL keep hsz2 ⊢
  clear eH hsz
  refine wpAny_bind (wpAny_holding (wpAny_call_entry_kw slot_list_sort ⟨_, hoL, rfl⟩ entry_list_sort ?body (ksk_l1 _ _)))
  case body =>
    have fa : s₀.heap.get? (s₀.heap.objs.size + 1) = none := Heap.get?_none_of_le (Nat.le_succ _)
    obtain ⟨a, ea⟩ : ∃ a, s₀.heap.objs.size + 1 = a := ⟨_, rfl⟩
    rw [ea] at fa hoL hsz2 ⊢
    show wpAny (model C.W.prog C.W.w) C.A.in1.in1 (Builtin.«list.sort» ⟨[.ref a], [(Str.ofString "key", .ref q)]⟩) _ _ _
    rw [ksk_t1]
    obtain ⟨e1, ho1⟩ : ∃ e1, (H.update a (Obj.mapSeq fun _ => (#[] : Array Value))).get? a = some (seqObj "list" #[] e1) := ⟨_, get?_update_seq hoL fun _ => #[]⟩
    unfold ksk_tree
    refine wpAny_bind (listItems_at hoL rfl ?_)
    refine wpAny_bind (listUpdate_at hoL rfl ?_ (by rw [List.size_toArray]; exact hz) (Nat.zero_le _))
    refine wpAny_bind (seqEpoch_at ho1 rfl ?_)
    refine wpAny_bind (wpAny_newTuple ?_ hz)
    refine wpAny_bind (wpAny_newList ?_ (Nat.zero_le _))
    refine wpAny_holding ?_
    have hkS : ((H.update a (Obj.mapSeq fun _ => (#[] : Array Value))).push (seqObj "tuple" (ts.map tval).toArray 0)).objs.size = H.objs.size + 1 := by rw [size_push', Heap.size_update]
    have k0 : Kp T₀ s₀ T₀ { s₀ with heap := ((H.update a (Obj.mapSeq fun _ => (#[] : Array Value))).push (seqObj "tuple" (ts.map tval).toArray 0)).push (seqObj "list" #[] 0) } :=
      .at (h' := ((H.update a (Obj.mapSeq fun _ => (#[] : Array Value))).push (seqObj "tuple" (ts.map tval).toArray 0)).push (seqObj "list" #[] 0)) hO.tok (fun b o x => by
        have hb : b ≠ a := fun q => by rw [q, fa] at x; cases x
        exact Heap.get?_push_of_some _ (Heap.get?_push_of_some _ (by rw [Heap.get?_update_ne _ _ _ _ hb]; exact keep b o x))) (Nat.le_refl _)
    have fk : s₀.heap.get? (((H.update a (Obj.mapSeq fun _ => (#[] : Array Value))).push (seqObj "tuple" (ts.map tval).toArray 0)).objs.size) = none := by
      refine Heap.get?_none_of_le ?_
      rw [hkS]; omega
    refine key_rest (s := { s₀ with heap := ((H.update a (Obj.mapSeq fun _ => (#[] : Array Value))).push (seqObj "tuple" (ts.map tval).toArray 0)).push (seqObj "list" #[] 0) })
      (kS := ((H.update a (Obj.mapSeq fun _ => (#[] : Array Value))).push (seqObj "tuple" (ts.map tval).toArray 0)).objs.size) hu2 hO k0 fk fa (by rw [hkS]; exact Nat.ne_of_gt (by omega)) (Heap.get?_push_size _ rfl)
      (Heap.get?_push_of_some _ (Heap.get?_push_of_some _ ho1)) ht' hlen (turn ts _ _ hmem fk fa) fun ts' p1 p2 T' s' c k hc => ⟨_, rfl, ?_⟩
    refine wpAny_pure ⟨_, rfl, .list a ((ts'.map (·.1)).map V.str), T', a, ⟨a, ts'.map (·.1), rfl, by rw [← e]; exact p1.map _, by rw [List.pairwise_map]; exact p2⟩, rfl, k, fa, by rw [hc]; rfl, rfl, ts'.map tval, ⟨c, hc⟩, ?_⟩
    exact texts_to ts' fun p hp => k.tle _ _ (ht' p (p1.subset hp))
end
end Sx
end
section
open PySem PySem.W PyProof.Rows PySem.Calls
set_option linter.unusedVariables false
set_option Elab.async false
set_option maxRecDepth 100000
namespace Sx

/-! ## the functions as they stand in the base -/
noncomputable def fdAt (F : Frag) (a : Addr) : FuncData := match F.lookup a with
  | some ⟨_, _, .func fd, _⟩ => fd
  | _ => default
noncomputable def bdAt (F : Frag) (a : Addr) : List Stmt := match (fdAt F a).body with
  | .stmts b => b
  | _ => []
noncomputable def isFn (F : Frag) (a : Addr) : Bool := match F.lookup a with
  | some ⟨_, _, .func _, _⟩ => true
  | _ => false
noncomputable def isStmts (F : Frag) (a : Addr) : Bool := match (fdAt F a).body with
  | .stmts _ => true
  | _ => false
noncomputable def codeOk (F : Frag) (a : Addr) : Bool := match (fdAt F a).code with
  | .ref c => (match F.lookup c with
      | some ⟨_, _, .fields vs, _⟩ => (match (vs[1]? : Option Value) with
        | some (Value.str q _) => q == (fdAt F a).qualname
        | _ => false)
      | _ => false)
  | _ => false

theorem fnAt_of {W : Wd} {F : Frag} (hF : F.In W.h₀) {a : Addr} (h1 : isFn F a = true) (h2 : isStmts F a = true) (h3 : codeOk F a = true) (hgl : (fdAt F a).globals = mainGlobals) (hcl : (fdAt F a).closure = []) (hbn : (fdAt F a).builtins = builtinsNs)
    (hco : (fdAt F a).scope.isCoroutine = false) (hgen : (fdAt F a).scope.isGenerator = false) (hk : (fdAt F a).scope.kind = .function) : FnAt W a (fdAt F a) (bdAt F a) where
  at_ := by
    unfold isFn at h1
    split at h1
    · rename_i c d fd sl e
      refine ⟨_, hF _ _ e, ?_⟩
      unfold fdAt; rw [e]
    · cases h1
  hbody := by
    unfold isStmts at h2
    unfold bdAt
    split at h2
    · rename_i b e; rw [e]
    · cases h2
  hgl := hgl
  hcl := hcl
  hbn := hbn
  hcd := by
    unfold codeOk at h3
    split at h3
    · rename_i c e
      split at h3
      · rename_i cl d vs sl e2
        split at h3
        · rename_i q t e3
          have : q = (fdAt F a).qualname := by simpa using h3
          subst this
          exact ⟨c, _, vs, t, e, hF _ _ e2, rfl, e3⟩
        · cases h3
      · cases h3
    · cases h3
  hco := hco
  hgen := hgen
  hk := hk

theorem newEnv_pos {M : Model} {A : Around} {E : Value → Shared → Prop} {s : Shared} {scope : Scope} {globals : Addr} {n : Str} {v : Value} {binds : List (Str × Value)} {qual : Str} {func : Option Addr} {code : Value} {builtins : Addr} {Q : Env → Shared → Prop}
    (hk : scope.kind = .function) (hn : scope.names.lookup n = some .local)
    (hkind : ∀ x ∈ binds, scope.names.lookup x.1 = some .local ∨ (scope.names.lookup x.1 = some .cell ∧ ((cellsFrom (s.heap.objs.size + 1) scope.names []).lookup x.1).isSome = true))
    (hQ : ∀ env, env = newEnv scope s.heap.objs.size globals (cellsFrom (s.heap.objs.size + 1) scope.names []) qual func code none builtins →
      ∀ s', InCallC s env.locals (bindL env.kindOf ((n, v) :: binds) fun _ => none) env.cells (bindC env.kindOf ((n, v) :: binds) fun _ => none) s' → 0 < s'.toks → Q env s') :
    wpAny M A (newFunctionEnv scope globals [] ((n, v) :: binds) qual func code none builtins) Q E s := by
  simp only [newFunctionEnv, Option.isSome_none, Bool.false_eq_true, if_false]
  refine wpAny_bind (wpAny_alloc ?_)
  refine wpAny_bind (wpAny_layCells _ (fun name kind cells => by cases hkc : kind == NameKind.cell <;> simp [hkc]) _ _ _ _ ?_)
  have ok := cellsFrom_ok scope.names (s.heap.push { cls := .type "frame", data := .dict #[] }) (s.heap.objs.size + 1) [] ⟨fun _ _ hm => (nomatch hm), List.Pairwise.nil⟩ (by rw [Heap.size_push]; exact Nat.le_refl _)
  rw [Heap.size_push] at ok
  rw [show ({ s with heap := s.heap.push { cls := .type "frame", data := .dict #[] } } : Shared).heap.objs.size = s.heap.objs.size + 1 from Heap.size_push ..]
  obtain ⟨env, henv⟩ : ∃ env, env = newEnv scope s.heap.objs.size globals (cellsFrom (s.heap.objs.size + 1) scope.names []) qual func code none builtins := ⟨_, rfl⟩
  have x0 : InCallC s env.locals (fun _ => none) env.cells (fun _ => none) { s with heap := (pushCells (s.heap.push { cls := .type "frame", data := .dict #[] }) scope.names) } := by
    subst henv
    exact ⟨⟨⟨_, _, rfl⟩, (Heap.Ns.new s.heap (.type "frame")).keeps (pushCells_keeps _ _), fun b o e => pushCells_keeps _ _ b o (Heap.get?_push_of_some _ e), Nat.le_refl _⟩,
      fun n c hc => (ok.empty n c (mem_of_lookup hc)).1, ok.apart, fun n c hm => (ok.empty n c hm).2⟩
  have hke : env.scope.kind = .function := by rw [henv]; exact hk
  have hkn : env.kindOf n = some .local := by rw [henv]; exact hn
  have hkb : ∀ y ∈ binds, env.kindOf y.1 = some .local ∨ (env.kindOf y.1 = some .cell ∧ (env.cells.lookup y.1).isSome = true) := by rw [henv]; exact hkind
  have hp : (env.scope.kind == .class || (env.scope.kind == .module && env.locals != env.globals)) = false := by rw [hke]; rfl
  have hQ := hQ env henv
  have step : wpAny M A (storeName env n v) (fun _ s1 => s1.toks = s.toks + 1 ∧ InCallC s env.locals (fun y => if y = n then some v else none) env.cells (fun _ => none) s1) E { s with heap := (pushCells (s.heap.push { cls := .type "frame", data := .dict #[] }) scope.names) } := by
    refine wpAny_storeName_local hkn x0.toInCall.ns (fun h' hn' hs' => ⟨rfl, ⟨⟨_, _, rfl⟩, hn', fun b o e => ?_, x0.toInCall.fresh⟩, fun k c hc => ?_, x0.apart, x0.above⟩) hp
    · exact hs'.extBut b o (Nat.ne_of_lt (Nat.lt_of_lt_of_le (Heap.lt_size e) x0.toInCall.fresh)) (x0.toInCall.keep b o e)
    · exact (x0.cell k c hc).sameBut hs' (Nat.ne_of_gt (x0.above k c (mem_of_lookup hc)))
  show wpAny M A (forIn ((n, v) :: binds) PUnit.unit (fun x (_ : PUnit) => do storeName (newEnv scope s.heap.objs.size globals (cellsFrom (s.heap.objs.size + 1) scope.names []) qual func code none builtins) x.1 x.2; pure (ForInStep.yield PUnit.unit)) >>= fun _ => pure (newEnv scope s.heap.objs.size globals (cellsFrom (s.heap.objs.size + 1) scope.names []) qual func code none builtins)) Q E _
  rw [← henv]
  refine wpAny_bind ?_
  rw [List.forIn_cons]
  refine wpAny_bind (wpAny_bind (wpAny_mono step ?_ fun _ _ x => x))
  rintro _ s1 ⟨ht, x1⟩
  refine wpAny_pure (wpAny_with_toks (n := s.toks + 1) (Nat.le_of_eq ht.symm) (wpAny_bindParams (s₀ := s) (env := env) _ (fun _ _ _ => rfl) hke binds _ _ s1 _ x1 hkb fun s2 x2 ht2 => wpAny_pure (hQ s2 ?_ (Nat.lt_of_lt_of_le (Nat.succ_pos _) ht2))))
  unfold bindL bindC
  rw [if_pos hkn, if_pos hkn]; exact x2

theorem len1 {ws : List Value} (h : ws.length = 1) : ∃ a, ws = [a] := List.length_eq_one_iff.mp h
theorem len2 {ws : List Value} (h : ws.length = 2) : ∃ a b, ws = [a, b] := by
  cases ws with
  | nil => cases h
  | cons a t => obtain ⟨b, rfl⟩ := len1 (Nat.succ.inj h); exact ⟨a, b, rfl⟩
end Sx
end
section
open PySem PySem.W PyProof.Rows PySem.Calls
set_option linter.unusedVariables false
set_option Elab.async false
set_option maxRecDepth 100000
namespace Sx
noncomputable def lamEnv (scope : Scope) (L f : Addr) (q : Str) (cd : Value) (cl : List (Str × Addr)) : Env := newEnv scope L mainGlobals cl q (some f) cd none builtinsNs
noncomputable def lamCx (W : Wd) (A : Around) (env : Env) : Cx := { W := W, A := A, env := env, ownC := false, X := fun _ _ => False, an := none }
section
variable {C : Cx} {n : Nat} {A : Around} {own : List Addr} {T : TM} {s : Shared} {K : Slot → Prop}
theorem lam_call (okW : C.W.Ok) (hh : A.handled = none) (hu : A.units + 3 + 3 * n + 100 ≤ 9000) (hdp : A.depth + 1 + n + 10 ≤ 900) (hO : OwnOk C own T s) {f c' c : Addr} {nm qual : Str} {params : Arguments} {body : Expr} {scope : Scope} {pm ctv : Value} {x y : String} {u v : V} {w rv : Value}
    (hf : s.heap.get? f = some (kla_obj nm qual params body scope [(Str.ofString y, c)] pm c' ctv)) (hcd : s.heap.CodeRec (.ref c') qual) (hbind : bindArgs (kla_fn nm qual params body scope [(Str.ofString y, c)] pm (.ref c') ctv) ⟨[w], []⟩ = pure [(Str.ofString x, w)])
    (hxy : x ≠ y) (hx : scope.names.lookup (Str.ofString x) = some .local) (hy : scope.names.lookup (Str.ofString y) = some .free) (hk : scope.kind = .function) (hco : scope.isCoroutine = false) (hgen : scope.isGenerator = false)
    (hcell : ∀ z ∈ scope.names, z.2 ≠ .cell) (hfree : ∀ z, scope.names.lookup z = some .free → z = Str.ofString y)
    (hc : s.heap.IsCell c (some rv)) (hown : c ∈ own) (hrv : Rep C.W (view own T s) u rv) (hw : Rep C.W (view own T s) v w)
    (walk : ∀ L, (lamCx C.W (A.deeper (lamEnv scope L f (qual ++ ".<locals>.") (.ref c') [(Str.ofString y, c)])) (lamEnv scope L f (qual ++ ".<locals>.") (.ref c') [(Str.ofString y, c)])).Ok n →
      EvF (lamCx C.W (A.deeper (lamEnv scope L f (qual ++ ".<locals>.") (.ref c') [(Str.ofString y, c)])) (lamEnv scope L f (qual ++ ".<locals>.") (.ref c') [(Str.ofString y, c)])) [(x, .val v), (y, .val u)]
        (eval body (lamEnv scope L f (qual ++ ".<locals>.") (.ref c') [(Str.ofString y, c)])) (fun sl _ => K sl)) :
    wpAny C.M A (call (.ref f) [w]) (OutF C own T s K) (fun _ _ => False) s := by
  refine wpAny_call (kla_callFunE (by unfold recursionLimit; omega) hf rfl hco hgen rfl hcd ?_)
  rw [hbind]
  refine wpAny_pure (wpAny_newFunctionEnv hcell (fun z hz => by obtain rfl := List.mem_singleton.mp hz; exact hx) (fun h₁ hns hsb => ⟨(okW.nolimit.keeps hO.kb).fresh _ hsb, ?_⟩) hk)
  have hk₁ : ∀ b o, s.heap.get? b = some o → h₁.get? b = some o := fun b o e => hsb.extBut b o (Nat.ne_of_lt (Heap.lt_size e)) (Heap.get?_push_of_some _ e)
  refine kla_codeExpr ?_
  obtain ⟨L, hL⟩ : ∃ L, s.heap.objs.size = L := ⟨_, rfl⟩
  have hLn : s.heap.get? L = none := hL ▸ fresh_size _
  show wpAny C.M (A.deeper (lamEnv scope s.heap.objs.size f (qual ++ ".<locals>.") (.ref c') [(Str.ofString y, c)])) (eval body (lamEnv scope s.heap.objs.size f (qual ++ ".<locals>.") (.ref c') [(Str.ofString y, c)])) _ _ _
  rw [hL] at hns ⊢
  have okC : (lamCx C.W (A.deeper (lamEnv scope L f (qual ++ ".<locals>.") (.ref c') [(Str.ofString y, c)])) (lamEnv scope L f (qual ++ ".<locals>.") (.ref c') [(Str.ofString y, c)])).Ok n :=
    { W := okW, hh := hh, hu := by show A.units + 3 + 3 * n + 100 ≤ 9000; exact hu, hd := by show A.depth + 1 + n + 10 ≤ 900; exact hdp, hk := hk, hg := rfl, hb := rfl, hx := PassesOwn.never }
  have le0 : Le (view own T s) (view (own ++ [L]) T { s with heap := h₁, toks := s.toks + 1 }) := by
    refine ⟨fun b o e => view_mk (fun hm => ?_) (hk₁ b o (view_of e)), fun _ _ e => e⟩
    rcases List.mem_append.mp hm with hm | hm
    · exact view_not e hm
    · obtain rfl := List.mem_singleton.mp hm; rw [view_of e] at hLn; cases hLn
  have hcs : ∀ z k, (lamEnv scope L f (qual ++ ".<locals>.") (.ref c') [(Str.ofString y, c)]).cells.lookup z = some k → z = Str.ofString y ∧ k = c := fun z k e => by
    have e : (if z == Str.ofString y then some c else none) = some k := by
      have e' : [(Str.ofString y, c)].lookup z = some k := e
      rw [List.lookup_cons] at e'
      cases hz : z == Str.ofString y <;> rw [hz] at e' <;> simp_all
    split at e
    · rename_i hz; exact ⟨eq_of_beq hz, by injection e with e; exact e.symm⟩
    · cases e
  have hcL : c ≠ L := fun q => by
    obtain ⟨o, ho, _⟩ := hc
    rw [q, hLn] at ho; cases ho
  have habs : Abs (lamCx C.W (A.deeper (lamEnv scope L f (qual ++ ".<locals>.") (.ref c') [(Str.ofString y, c)])) (lamEnv scope L f (qual ++ ".<locals>.") (.ref c') [(Str.ofString y, c)])) own [L] T [(x, .val v), (y, .val u)] { s with heap := h₁, toks := s.toks + 1 } := by
    refine ⟨fun b o e => le0.ob b o (hO.base b o e), fun b hb => ?_, fun b hb hF => ?_, hO.tok.mono (Nat.le_succ _), fun z => ([(Str.ofString x, w)] : List (Str × Value)).reverse.lookup z, fun z => if z = Str.ofString y then some rv else none, ?_⟩
    · rcases List.mem_append.mp hb with hb | hb
      · obtain ⟨o, ho⟩ := Option.isSome_iff_exists.mp (hO.live b hb)
        show (h₁.get? b).isSome = true
        rw [hk₁ _ _ ho]; rfl
      · obtain rfl := List.mem_singleton.mp hb
        obtain ⟨o, _, _, ho, _⟩ := hns
        show (h₁.get? _).isSome = true
        rw [ho]; rfl
    · obtain rfl := List.mem_singleton.mp hb
      have h2 := hO.live _ hF
      rw [hLn] at h2; cases h2
    · refine { ns := hns, cells := fun z k e => ?_, apart := fun z z' k e1 e2 => (hcs z k e1).1.trans (hcs z' k e2).1.symm, lc := fun z k e => (hcs z k e).2 ▸ hcL, has := fun z hz => ?_, lm := List.mem_cons_self, cown := fun z k e => List.mem_append_left _ ((hcs z k e).2 ▸ hown), cmine := fun q => (by cases q), slots := fun z sl hz => ?_, own := fun z sl b hz ho => ?_, dis := fun z z' sl sl' b hz _ ho => ?_ }
      · obtain ⟨rfl, rfl⟩ := hcs z k e
        dsimp only
        rw [if_pos rfl]
        exact hc.keeps hk₁
      · rcases hz with hz | hz
        · have hz : scope.names.lookup z = some .cell := hz
          exact absurd rfl (hcell _ (mem_of_lookup hz))
        · have hz : scope.names.lookup z = some .free := hz
          obtain rfl := hfree z hz
          exact ⟨c, by show [(Str.ofString y, c)].lookup (Str.ofString y) = some c; rw [List.lookup_cons]; simp⟩
      · simp only [find] at hz
        split at hz
        · rename_i e
          cases hz
          subst e
          refine ⟨w, .inl ?_, hw.mono le0⟩
          unfold valAt
          have : (lamCx C.W (A.deeper (lamEnv scope L f (qual ++ ".<locals>.") (.ref c') [(Str.ofString y, c)])) (lamEnv scope L f (qual ++ ".<locals>.") (.ref c') [(Str.ofString y, c)])).env.kindOf (Str.ofString x) = some .local := hx
          rw [this]
          simp
        · split at hz
          · rename_i e
            cases hz
            subst e
            refine ⟨rv, .inl ?_, hrv.mono le0⟩
            unfold valAt
            have : (lamCx C.W (A.deeper (lamEnv scope L f (qual ++ ".<locals>.") (.ref c') [(Str.ofString y, c)])) (lamEnv scope L f (qual ++ ".<locals>.") (.ref c') [(Str.ofString y, c)])).env.kindOf (Str.ofString y) = some .free := hy
            rw [this]
            simp
          · cases hz
      · simp only [find] at hz
        split at hz
        · cases hz; cases ho
        · split at hz
          · cases hz; cases ho
          · cases hz
      · simp only [find] at hz
        split at hz
        · cases hz; cases ho
        · split at hz
          · cases hz; cases ho
          · cases hz
  refine wpAny_mono (walk L okC own _ T _ habs) ?_ fun _ _ x => x.elim
  rintro r s2 ⟨sl, σ2, m2, a, T2, hK, hadr, p2, hnm, a2, r2⟩
  have keep : ∀ b o, s.heap.get? b = some o → b ∉ own → (view (own ++ (a :: m2)) T2 s2).ob b = some o := fun b o e hb => p2.le.ob b o (le0.ob b o (view_mk hb e))
  have ha : s.heap.get? a = none := by
    cases e : s.heap.get? a with
    | none => rfl
    | some o => exact absurd (List.mem_append_right _ (List.mem_cons_self)) (view_not (keep a o e (a2.nin a List.mem_cons_self)))
  refine ⟨sl, T2, a, hK, hadr, ⟨?_, fun b o e => ?_, fun t l e => p2.le.tk t l e, a2.tok⟩, ha, a2.live a (List.mem_append_right _ List.mem_cons_self), r2.mono (view_sub fun b hb => ?_) fun _ _ _ e => e⟩
  · obtain ⟨h', tk', rfl⟩ := p2.same
    exact ⟨h', tk', rfl⟩
  · by_cases hb : b ∈ own
    · exact (p2.far b hb).trans (hk₁ b o e)
    · exact view_of (keep b o e hb)
  · rcases List.mem_cons.mp hb with rfl | hb
    · exact List.mem_append_right _ List.mem_cons_self
    · exact List.mem_append_left _ hb
end
end Sx
end
section
open PySem PySem.W PyProof.Rows PySem.Calls
set_option linter.unusedVariables false
set_option Elab.async false
set_option maxRecDepth 100000
namespace Sx
structure LamAt (W : Wd) (c P : Addr) : Prop where
  hd : CodeHd W.h₀ c P
  bm : ∃ mg bm ob, W.h₀.Ns mainGlobals mg ∧ mg "__builtins__" = some (.ref bm) ∧ bm ≠ builtinsNs ∧ W.h₀.get? bm = some ob ∧ ob.cls = .type "module" ∧ ob.dict = some builtinsNs ∧ ob.data = .plain
noncomputable def PostP (P : Addr) (mine : List Addr) (T : TM) (s : Shared) (mine' : List Addr) (T' : TM) (s' : Shared) : Prop :=
  (∃ h' tk, s' = { s with heap := h', toks := tk }) ∧ Le (view ([P] ++ mine) T s) (view ([P] ++ mine') T' s') ∧ ∃ ps, s'.heap.get? P = some (tabObj ps)
theorem PostP.left {P : Addr} {m1 m2 m3 : List Addr} {T1 T2 T3 : TM} {s1 s2 s3 : Shared} (x : Post [P] m1 T1 s1 m2 T2 s2) (y : PostP P m2 T2 s2 m3 T3 s3) : PostP P m1 T1 s1 m3 T3 s3 := by
  obtain ⟨h, t, rfl⟩ := x.same
  obtain ⟨⟨h', t', rfl⟩, y2, y3⟩ := y
  exact ⟨⟨h', t', rfl⟩, x.le.trans y2, y3⟩
theorem PostP.right {P : Addr} {m1 m2 m3 : List Addr} {T1 T2 T3 : TM} {s1 s2 s3 : Shared} (x : PostP P m1 T1 s1 m2 T2 s2) (y : Post [P] m2 T2 s2 m3 T3 s3) : PostP P m1 T1 s1 m3 T3 s3 := by
  obtain ⟨⟨h, t, rfl⟩, x2, ps, x3⟩ := x
  obtain ⟨h', t', rfl⟩ := y.same
  exact ⟨⟨h', t', rfl⟩, x2.trans y.le, ps, (y.far P (.head _)).trans x3⟩
/-- a walk in a frame whose code's places are empty at the start and may be written once -/
noncomputable def ExsP (C : Cx) (P : Addr) (σ : St) (ss : List Stmt) (Q : Fl → St → Prop) : Prop :=
  ∀ mine T s, s.heap.get? P = some (tabObj #[]) → Abs C [P] mine T σ s → wpAny C.M C.A (execs ss C.env) (fun f s' => ∃ fl σ' mine' T', Q fl σ' ∧ PostP P mine T s mine' T' s' ∧ Abs C [P] mine' T' σ' s' ∧ FlRep C.W (view ([P] ++ mine') T' s') fl f) C.X s
theorem execs_append : ∀ (l r : List Stmt) (env : Env), execs (l ++ r) env = (do match ← execs l env with | .next => execs r env | f => pure f)
  | [], r, env => by
    show execs r env = (pure Flow.next >>= _)
    rw [pure_bind]
  | st :: l, r, env => by
    show execs (st :: (l ++ r)) env = _
    rw [execs_cons, execs_cons, bind_assoc]
    congr 1
    funext f
    cases f with
    | next => exact execs_append l r env
    | _ => rfl
section
variable {C : Cx} {P : Addr} {σ : St} {Q : Fl → St → Prop}
theorem exsP_append {pre rest : List Stmt} (h : Exs C σ pre (fun fl σ' => match fl with | .next => ExsP C P σ' rest Q | fl => Q fl σ')) : ExsP C P σ (pre ++ rest) Q := by
  intro mine T s hP hA
  rw [execs_append]
  refine wpAny_bind (Tr.then h hA fun f s1 fl σ1 m1 T1 q p1 a1 r => ?_)
  have hP1 := (p1.far P (.head _)).trans hP
  cases r with
  | next =>
    refine wpAny_mono (q m1 T1 s1 hP1 a1) ?_ fun _ _ x => x
    rintro f2 s2 ⟨fl2, σ2, m2, T2, q2, p2, a2, r2⟩
    exact ⟨fl2, σ2, m2, T2, q2, .left p1 p2, a2, r2⟩
  | brk => exact wpAny_pure ⟨_, σ1, m1, T1, q, ⟨p1.same, p1.le, _, hP1⟩, a1, .brk⟩
  | cont => exact wpAny_pure ⟨_, σ1, m1, T1, q, ⟨p1.same, p1.le, _, hP1⟩, a1, .cont⟩
  | ret r => exact wpAny_pure ⟨_, σ1, m1, T1, q, ⟨p1.same, p1.le, _, hP1⟩, a1, .ret r⟩
theorem Abs.but (hoC : C.ownC = true) {mine : List Addr} {T : TM} {s : Shared} {h' : Heap} {tk : Nat} (hA : Abs C [P] mine T σ s) (hk : ∀ b o, b ≠ P → s.heap.get? b = some o → h'.get? b = some o) (ht : s.toks ≤ tk) (hP : (h'.get? P).isSome = true) :
    Abs C [P] mine T σ { s with heap := h', toks := tk } ∧ Le (view ([P] ++ mine) T s) (view ([P] ++ mine) T { s with heap := h', toks := tk }) := by
  have le : Le (view ([P] ++ mine) T s) (view ([P] ++ mine) T { s with heap := h', toks := tk }) :=
    ⟨fun b o e => view_mk (view_not e) (hk b o (fun q => view_not e (q ▸ List.mem_cons_self)) (view_of e)), fun _ _ e => e⟩
  have ne : ∀ b ∈ mine, b ≠ P := fun b hb q => hA.nin b hb (q ▸ List.mem_cons_self)
  refine ⟨⟨fun b o e => le.ob b o (hA.base b o e), fun b hb => ?_, hA.nin, hA.tok.mono ht, ?_⟩, le⟩
  · by_cases hb' : b = P
    · rw [hb']; exact hP
    · obtain ⟨o, ho⟩ := Option.isSome_iff_exists.mp (hA.live b hb)
      show (h'.get? b).isSome = true
      rw [hk b o hb' ho]; rfl
  · obtain ⟨m, cm, f⟩ := hA.frm
    refine ⟨m, cm, { ns := f.ns.extBut hk (ne _ f.lm), cells := fun y c e => ?_, apart := f.apart, lc := f.lc, has := f.has, lm := f.lm, cown := f.cown, cmine := f.cmine, slots := fun y sl e => ?_, own := f.own, dis := f.dis }⟩
    · obtain ⟨o, ho, hd⟩ := f.cells y c e
      exact ⟨o, hk c o (ne c (f.cmine hoC y c e)) ho, hd⟩
    · obtain ⟨v, h1, h2⟩ := f.slots y sl e
      exact ⟨v, h1, h2.mono le fun a ha o x => hk a o (ne a (f.own y sl a e ha).1) x⟩
end
end Sx
end
section
open PySem PySem.W PyProof.Rows PySem.Calls
set_option linter.unusedVariables false
set_option Elab.async false
set_option maxRecDepth 100000
namespace Sx

theorem methOk_str {W : Wd} {l : S} {name : Str} {id : String} (slot : PySem.Slot "str" name id) (hty : typeOf (.builtin id) = pure (.type "method_descriptor")) : MethOk W (.str l) name "str" id :=
  ⟨PySem.F.plainAttrs_str, slot, hty, fun g s va r _ => by cases r; exact ⟨rfl, fun x e => nomatch e⟩⟩
theorem methOk_dct {W : Wd} {es : List (Key × V)} {name : Str} {id : String} (slot : PySem.Slot "dict" name id) (hty : typeOf (.builtin id) = pure (.type "method_descriptor")) : MethOk W (.dct es) name "dict" id :=
  ⟨PySem.F.plainAttrs_dict, slot, hty, fun g s va r k => by
    cases r with
    | @dct x ox _ ds kvs nx h1 h0 h2 h3 r hn => exact ⟨⟨ox, k _ _ h1, h2.1⟩, fun y e => by cases e; exact ⟨ox, k _ _ h1, h2.2.1⟩⟩⟩
theorem isTy_str {W : Wd} {l : S} : IsTy W (.str l) "str" := fun g s va r _ => by cases r; rfl
theorem isTy_lst {W : Wd} {vs : List V} : IsTy W (.lst vs) "list" := fun g s va r k => by
  cases r with
  | @lst x ox _ ws nx h1 h2 h3 h4 r => exact ⟨ox, k _ _ h1, h2⟩
/-- one text after the other, each key by its value -/
noncomputable def reps : List (S × S) → S → S
  | [], x => x
  | (y, z) :: r, x => reps r (repl y z x)
noncomputable def RepOk : List (S × S) → S → Prop
  | [], _ => True
  | (y, z) :: r, x => (y ≠ z ∨ (y = [] ∧ z = [])) ∧ x.length + (x.length + 1) * z.length ≤ sizeLine ∧ RepOk r (repl y z x)
noncomputable def tabV (es : List (S × S)) : List (Key × V) := es.map fun p => (Key.s p.1, V.str p.2)

end Sx
end
section
open PySem PySem.W PyProof.Rows PySem.Calls
set_option linter.unusedVariables false
set_option Elab.async false
set_option maxRecDepth 100000
namespace Sx

theorem loop_inv {C : Cx} {target : Expr} {body orelse : List Stmt} {Q : Fl → St → Prop} (I : List V → St → Prop)
    (step : ∀ x xs σ, I (x :: xs) σ → Asg C σ target x (fun σ1 => Exs C σ1 body (fun fl σ2 => match fl with | .next => I xs σ2 | .cont => I xs σ2 | .brk => Q .next σ2 | .ret v => Q (.ret v) σ2)))
    (done : ∀ σ, I [] σ → Exs C σ orelse Q) : ∀ (xs : List V) (σ : St), I xs σ → Loop C target body orelse Q xs σ
  | [], σ, h => done σ h
  | x :: xs, σ, h => by
    refine Asg.mono (step x xs σ h) fun σ1 h1 => Tr.mono h1 fun fl σ2 h2 => ?_
    cases fl with
    | next => exact loop_inv I step done xs σ2 h2
    | cont => exact loop_inv I step done xs σ2 h2
    | brk => exact h2
    | ret v => exact h2
theorem find_putS {σ : St} {y : String} {sl : Slot} (x : String) : find (put σ (Str.ofString y) y sl) (Str.ofString x) = if y = x then some sl else find σ (Str.ofString x) := by
  rw [find_put]; simp only [ofString_inj]

/-- a known function, by its contract -/
theorem OpL.mono {C : Cx} {α β : Type} {R : PH → β → α → Prop} {vs : List V} {K K' : β → Prop} {f : List Value → Sem α} (h : OpL C R f vs K) (hk : ∀ b, K b → K' b) : OpL C R f vs K' :=
  fun own T s ws hO hr => (h own T s ws hO hr).mono hk
theorem OpL.eq {C : Cx} {f : List Value → Sem Value} {vs : List V} {b : V} {K : V → Prop} (h : OpL C (Rep C.W) f vs (fun v => v = b)) (hk : K b) : OpL C (Rep C.W) f vs K := h.mono fun _ e => e ▸ hk
end Sx
end
section
open PySem PySem.W PyProof.Rows PySem.Calls
set_option linter.unusedVariables false
set_option Elab.async false
set_option maxRecDepth 100000
namespace Sx

section
variable {C : Cx} {σ : St}
theorem FnAt.callee {a : Addr} {fd : FuncData} {body : List Stmt} (f : FnAt C.W a fd body) : Callee C (.ref a) := let ⟨o, ho, hd⟩ := f.at_; .fn ho hd

theorem callee_of {W : Wd} {a : Addr} {fd : FuncData} {body : List Stmt} (f : FnAt W a fd body) (e : C.W = W := by rfl) : Callee C (.ref a) := by
  subst e; exact f.callee
/-- a call of a def by its name -/
theorem ev_fn {n : Nat} (ok : C.Ok n) {L : List (String × Value)} (hG : C.W.gls = L) {f : String} {fp pos : Pos} {es : List Expr} {w : Value} {Q : V → St → Prop} (hk : C.env.kindOf (Str.ofString f) = some .globalImplicit) (hl : L.lookup f = some w) (hc : Callee C w)
    (h : EvL C σ pos es (fun vs σ2 => OpL C (Rep C.W) (fun ws => call w ws) vs (fun v => Q v σ2)))
    (hst : (starEach es C.env).all (fun x => !x.1) = true)
    (he : eval (.Call (.Name (Str.ofString f) fp) es [] pos) C.env = (do callWith pos (← eval (.Name (Str.ofString f) fp) C.env) [] (backTo pos (starEach es C.env)) (backToKw pos (keywordEach [] C.env))))
    (hd : (Str.ofString f == ("__debug__" : Str)) = false) : Ev C σ (.Call (.Name (Str.ofString f) fp) es [] pos) Q :=
  ev_call (ev_glob ok hk (v := w) (by rw [hG]; exact hl) ⟨w, rfl, hc, h⟩ hd) hst he
theorem evF_fn {n : Nat} (ok : C.Ok n) {L : List (String × Value)} (hG : C.W.gls = L) {f : String} {fp pos : Pos} {es : List Expr} {w : Value} {Q : Slot → St → Prop} (hk : C.env.kindOf (Str.ofString f) = some .globalImplicit) (hl : L.lookup f = some w) (hc : Callee C w)
    (h : EvL C σ pos es (fun vs σ2 => OpLF C (fun ws => call w ws) vs (fun v => Q v σ2)))
    (hst : (starEach es C.env).all (fun x => !x.1) = true)
    (he : eval (.Call (.Name (Str.ofString f) fp) es [] pos) C.env = (do callWith pos (← eval (.Name (Str.ofString f) fp) C.env) [] (backTo pos (starEach es C.env)) (backToKw pos (keywordEach [] C.env))))
    (hd : (Str.ofString f == ("__debug__" : Str)) = false) : EvF C σ (eval (.Call (.Name (Str.ofString f) fp) es [] pos) C.env) Q :=
  evF_call (ev_glob ok hk (v := w) (by rw [hG]; exact hl) ⟨w, rfl, hc, h⟩ hd) hst he

/-! ### displays of dicts, by their expressions -/
noncomputable def dpairs (env : Env) (pos : Pos) : List (Option Expr) → List Expr → List (Sem Value × Sem Value)
  | some k :: ks, v :: vs => (eval k env, do let x ← eval v env; standAt pos; pure x) :: dpairs env pos ks vs
  | _, _ => []
theorem dpairs_shape {env : Env} {pos : Pos} : ∀ (ks : List (Option Expr)) (vs : List Expr), ks.all (·.isSome) = true → ks.length = vs.length →
    (evalEachOpt ks env).zip ((evalEach vs env).map fun v => do let x ← v; standAt pos; pure x) = (dpairs env pos ks vs).map fun p => (some p.1, p.2)
  | [], [], _, _ => rfl
  | [], _ :: _, _, h => by simp at h
  | _ :: _, [], _, h => by simp at h
  | none :: _, _, h, _ => by simp at h
  | some k :: ks, v :: vs, h, hl => by
    have ih := dpairs_shape (env := env) (pos := pos) ks vs (by simpa using h) (by simpa using hl)
    exact congrArg (fun r => (some (eval k env), (do let x ← eval v env; standAt pos; pure x)) :: r) ih
noncomputable abbrev EvD (C : Cx) (σ : St) (pos : Pos) (ks : List (Option Expr)) (vs : List Expr) (acc : List (Key × V)) (Q : List (Key × V) → St → Prop) : Prop := EvK C (dpairs C.env pos ks vs) acc σ Q
theorem evD_nil {pos : Pos} {acc : List (Key × V)} {Q : List (Key × V) → St → Prop} (h : Q acc σ) : EvD C σ pos [] [] acc Q := h
theorem evD_cons {pos : Pos} {k v : Expr} {ks : List (Option Expr)} {vs : List Expr} {acc : List (Key × V)} {Q : List (Key × V) → St → Prop}
    (h : Ev C σ k (fun kv σ1 => ∃ key : Key, kv = key.v ∧ Ev C σ1 v (fun vv σ2 => EvD C σ2 pos ks vs (acc ++ [(key, vv)]) Q))) : EvD C σ pos (some k :: ks) (v :: vs) acc Q :=
  Tr.mono h fun kv σ1 ⟨key, e, h2⟩ => ⟨key, e, evT_stand h2⟩
theorem evF_dictE {n : Nat} (ok : C.Ok n) {keys : List (Option Expr)} {values : List Expr} {pos : Pos} {Q : Slot → St → Prop} (h : EvD C σ pos keys values [] (fun kvs σ1 => ∀ a, Q (.dict a (dsets [] kvs)) σ1))
    (h1 : keys.all (·.isSome) = true) (h2 : keys.length = values.length) (h0 : (dpairs C.env pos keys values).isEmpty = false) (hlen : (dpairs C.env pos keys values).length ≤ 15) : EvF C σ (eval (.Dict keys values pos) C.env) Q :=
  evF_dict ok h (dpairs_shape keys values h1 h2) (fun e => by rw [e] at h0; cases h0) hlen
/-- what gives a new list or dict, where a value is asked -/
theorem ev_ofF {e : Expr} {Q : V → St → Prop} (h : EvF C σ (eval e C.env) (fun sl σ1 => Q sl.v σ1)) : Ev C σ e Q := h.ev
end
end Sx
end
section
open PySem PySem.W PyProof.Rows PySem.Calls
set_option linter.unusedVariables false
set_option Elab.async false
set_option maxRecDepth 100000
namespace Sx

noncomputable def isCF : Option NameKind → Bool
  | some .cell => true
  | some .free => true
  | _ => false
noncomputable def compB (env : Env) (scope : Scope) (fv : List String) : Bool :=
  (scope.kind == .function) && (scope.names.all fun y => (y.2 != .cell) && (y.2 != .local || scope.names.lookup y.1 == some .local) && (y.2 != .free || isCF (env.kindOf y.1))) && fv.all fun x => isCF (env.kindOf (Str.ofString x)) && isCF ((relabel scope env).names.lookup (Str.ofString x))
theorem isCF_or {k : Option NameKind} (h : isCF k = true) : k = some .cell ∨ k = some .free := by
  unfold isCF at h
  split at h
  · exact .inl rfl
  · exact .inr rfl
  · cases h
theorem compOk_of {C : Cx} {scope : Scope} {fv : List String} (h : compB C.env scope fv = true) : CompOk C scope fv := by
  unfold compB at h
  rw [Bool.and_eq_true, Bool.and_eq_true, List.all_eq_true, List.all_eq_true] at h
  obtain ⟨⟨h1, h2⟩, h3⟩ := h
  refine ⟨by simpa using h1, fun y hy => ?_, fun y hy hl => ?_, fun y hy hf => ?_, fun x hx => ?_⟩
  · have := h2 y hy
    simp only [Bool.and_eq_true] at this
    simpa using this.1.1
  · have := h2 y hy
    simp only [Bool.and_eq_true, Bool.or_eq_true] at this
    have h4 := this.1.2
    rw [hl] at h4
    simpa using h4
  · have := h2 y hy
    simp only [Bool.and_eq_true, Bool.or_eq_true] at this
    have h4 := this.2
    rw [hf] at h4
    exact isCF_or (by simpa using h4)
  · have := h3 x hx
    rw [Bool.and_eq_true] at this
    exact ⟨isCF_or this.1, isCF_or this.2⟩

section
variable {C : Cx}
theorem lloop_map {target elt : Expr} {K : List V → Prop} (J : St → Prop) (f : V → V) : ∀ (xs ys : List V) (σ : St), J σ → (∀ x ∈ xs, ∀ σ, J σ → Asg C σ target x (fun σ1 => Ev C σ1 elt (fun y σ2 => y = f x ∧ J σ2))) → K (ys ++ xs.map f) → LLoop C target [] elt K xs ys σ
  | [], ys, σ, hJ, hs, hd => by rw [List.map_nil, List.append_nil] at hd; exact hd
  | x :: xs, ys, σ, hJ, hs, hd => by
    refine Asg.mono (hs x List.mem_cons_self σ hJ) fun σ1 h1 => tsts_nil ⟨fun _ => Tr.mono h1 fun y σ2 h2 => ?_, fun h => nomatch h⟩
    obtain ⟨rfl, h2⟩ := h2
    exact lloop_map J f xs _ σ2 h2 (fun z hz => hs z (List.mem_cons_of_mem _ hz)) (by rw [List.append_assoc]; exact hd)
end
end Sx
end
section
open PySem PySem.W PyProof.Rows PySem.Calls
set_option linter.unusedVariables false
set_option Elab.async false
set_option maxRecDepth 100000
namespace Sx

noncomputable def isComp : Expr → Bool
  | .ListComp _ _ _ _ => true
  | .SetComp _ _ _ _ => true
  | .DictComp _ _ _ _ _ => true
  | _ => false
theorem swaps_no {e : Expr} {t : Option Expr} {line : Nat} {env : Env} (h : isComp e = false) : swapsWith e t line env = pure false := by
  cases e <;> first | rfl | cases h
noncomputable def swB (env : Env) (scope : Scope) (x : Str) (l1 l2 : Nat) : Bool := env.blockKind == .function && env.kindOf x == some .local && l1 == l2 && !(scope.names.any fun (n, k) => n == x && (k == .local || k == .cell))
theorem swaps_list {elt : Expr} {gens : List Comprehension} {scope : Scope} {cpos p' : Pos} {x : Str} {line : Nat} {env : Env} {b : Bool} (h : swB env scope x p'.line cpos.line = b) : swapsWith (.ListComp elt gens scope cpos) (some (.Name x p')) line env = pure b := by subst h; rfl
end Sx
end
section
open PySem PySem.W PyProof.Rows PySem.Calls
set_option linter.unusedVariables false
set_option Elab.async false
set_option maxRecDepth 100000
namespace Sx

section
variable {C : Cx}
theorem opL_range2 {a b : Int} {K : V → Prop} (h : K (.rng a b)) : OpL C (Rep C.W) (fun ws => call (.type "range") ws) [.int a, .int b] K := by
  intro own T s ws hO hr
  obtain ⟨_, _, rfl, r1, hr⟩ := hr.cons_inv
  obtain ⟨_, _, rfl, r2, hr⟩ := hr.cons_inv
  obtain rfl := hr.nil_inv
  obtain ⟨_, rfl⟩ := r1.int_inv
  obtain ⟨_, rfl⟩ := r2.int_inv
  refine call_range_2 ?_
  have hnew := fresh_size s.heap
  refine ⟨_, T, h, .push hO.tok (by show s.toks ≤ s.toks + 1; omega), .rng (view_mk (fun hm => hO.fresh hnew hm) (Heap.get?_push_size _ rfl))⟩

/-! two tables with the same entries are equal -/
noncomputable def AlikeD : List (Key × V) → List (Key × V) → Prop
  | [], [] => True
  | (k, v) :: r, (k', v') :: r' => k = k' ∧ Alike 0 v v' ∧ AlikeD r r'
  | _, _ => False
end
end Sx
end
section
open PySem PySem.W PyProof.Rows PySem.Calls
set_option linter.unusedVariables false
set_option Elab.async false
set_option maxRecDepth 100000
namespace Sx
/-! loops by a counter -/
theorem loop_list {C : Cx} {target : Expr} {body orelse : List Stmt} {Q : Fl → St → Prop} {α : Type} (f : α → V) (l : List α) (I : Nat → St → Prop)
    (step : ∀ i x σ, l[i]? = some x → I i σ → Asg C σ target (f x) (fun σ1 => Exs C σ1 body (fun fl σ2 => match fl with | .next => I (i + 1) σ2 | .cont => I (i + 1) σ2 | .brk => Q .next σ2 | .ret v => Q (.ret v) σ2)))
    (done : ∀ σ, I l.length σ → Exs C σ orelse Q) {σ : St} (h : I 0 σ) {xs : List V} (hx : xs = l.map f) : Loop C target body orelse Q xs σ := by
  subst hx
  refine loop_inv (fun xs σ => ∃ i, xs = (l.drop i).map f ∧ i ≤ l.length ∧ I i σ) ?_ ?_ _ _ ⟨0, by rw [List.drop_zero], Nat.zero_le _, h⟩
  · rintro x xs σ ⟨i, hx, hi, hI⟩
    have hlt : i < l.length := by
      rcases Nat.lt_or_ge i l.length with h | h
      · exact h
      · rw [List.drop_eq_nil_of_le h] at hx; cases hx
    rw [List.drop_eq_getElem_cons hlt, List.map_cons] at hx
    injection hx with h1 h2
    subst h1; subst h2
    refine Asg.mono (step i l[i] σ (List.getElem?_eq_getElem hlt) hI) fun σ1 h1 => Tr.mono h1 fun fl σ2 h2 => ?_
    cases fl with
    | next => exact ⟨i + 1, rfl, hlt, h2⟩
    | cont => exact ⟨i + 1, rfl, hlt, h2⟩
    | brk => exact h2
    | ret v => exact h2
  · rintro σ ⟨i, hx, hi, hI⟩
    have : i = l.length := by
      rcases Nat.lt_or_ge i l.length with h | h
      · rw [List.drop_eq_getElem_cons h] at hx; cases hx
      · omega
    subst this
    exact done σ hI
theorem loop_range {C : Cx} {target : Expr} {body orelse : List Stmt} {Q : Fl → St → Prop} (a b : Int) (n : Nat) (hn : (b - a).toNat = n) (I : Nat → St → Prop)
    (step : ∀ i σ, i < n → I i σ → Asg C σ target (.int (a + i)) (fun σ1 => Exs C σ1 body (fun fl σ2 => match fl with | .next => I (i + 1) σ2 | .cont => I (i + 1) σ2 | .brk => Q .next σ2 | .ret v => Q (.ret v) σ2)))
    (done : ∀ σ, I n σ → Exs C σ orelse Q) {σ : St} (h : I 0 σ) : Loop C target body orelse Q ((List.range (b - a).toNat).map fun (i : Nat) => V.int (a + (i : Int))) σ := by
  subst hn
  refine loop_list (fun (i : Nat) => V.int (a + (i : Int))) (List.range (b - a).toNat) I ?_ ?_ h rfl
  · intro i x σ hx hI
    have hlt : i < (b - a).toNat := by
      have := List.getElem?_eq_some_iff.mp hx
      obtain ⟨h, _⟩ := this
      simpa using h
    have : x = i := by
      rw [List.getElem?_range hlt] at hx
      injection hx with hx
      exact hx.symm
    subst this
    exact step x σ hlt hI
  · intro σ hI
    rw [List.length_range] at hI
    exact done σ hI
theorem run_rng {a b : Int} (h1 : -1000000 ≤ a) (h2 : a ≤ 1000000) (h3 : -1000000 ≤ b) (h4 : b ≤ 100000000) (t : Expr) : RunOk t (.rng a b) := small_one (by omega) (by omega) (by omega) (by omega)
theorem evP_none {C : Cx} {σ : St} {Q : Option Int → St → Prop} (h : Q none σ) : EvP C σ none Q := h
theorem evP_some {C : Cx} {σ : St} {e : Expr} {Q : Option Int → St → Prop} (h : Ev C σ e (fun v σ1 => ∃ i, v = .int i ∧ Q (some i) σ1)) : EvP C σ (some e) Q := h
theorem item_str {C : Cx} {l : S} {i : Nat} {c : Nat} {K : V → Prop} (hl : l.length ≤ sizeLine) (hc : l[i]? = some c) (h : K (.str [c])) :
    Op2 C (Rep C.W) getItem (.str l) (.int i) K ∧ ∃ T id, typeLookup (.type T) "__getitem__" = pure (some (.builtin id)) ∧ IsTy C.W (.str l) T :=
  have hi : i < l.length := (List.getElem?_eq_some_iff.mp hc).1
  ⟨op_item_str (by omega) (by omega) hl (by rw [if_neg (by omega)]; simpa using hc) h, _, _, PySem.F.slot_str_getitem.lookup, isTy_str⟩
theorem item_list {C : Cx} {l : List V} {i : Nat} {v : V} {K : V → Prop} (hl : l.length ≤ sizeLine) (hc : l[i]? = some v) (h : K v) :
    Op2 C (Rep C.W) getItem (.lst l) (.int i) K ∧ ∃ T id, typeLookup (.type T) "__getitem__" = pure (some (.builtin id)) ∧ IsTy C.W (.lst l) T :=
  have hi : i < l.length := (List.getElem?_eq_some_iff.mp hc).1
  ⟨op_item_list (by omega) (by omega) hl (by rw [if_neg (by omega)]; simpa using hc) h, _, _, PySem.F.slot_list_getitem.lookup, isTy_lst⟩
theorem slc_hi (x : S) (i : Nat) : slc none (some (i : Int)) x = x.take i := by
  unfold slc
  have e1 : clp x.length (i : Int) = min i x.length := by unfold clp; rw [if_neg (by omega)]; omega
  simp only [e1, List.drop_zero, Nat.sub_zero]
  rw [List.take_eq_take_iff]; omega
/-- the entry of a sign, or the sign itself -/
noncomputable def rf (rs : List (S × S)) (c : Nat) : S := ((rs.find? fun p => p.1 = [c]).map (·.2)).getD [c]
end Sx
end
section
open PySem PySem.W PyProof.Rows PySem.Calls
set_option linter.unusedVariables false
set_option Elab.async false
set_option maxRecDepth 100000
namespace Sx
noncomputable def tset1 : List (S × S) → S → S → List (S × S)
  | [], k, v => [(k, v)]
  | (k', v') :: r, k, v => if k' = k then (k', v) :: r else (k', v') :: tset1 r k v
noncomputable def tput (es more : List (S × S)) : List (S × S) := more.foldl (fun es p => tset1 es p.1 p.2) es
theorem tabV_length (es : List (S × S)) : (tabV es).length = es.length := by simp [tabV]
theorem find_cap1 {fv : List String} {σ : St} {x : String} {u : V} (hx : x ∈ fv) (h : find σ (Str.ofString x) = some (.val u)) : find (capSt fv σ) (Str.ofString x) = some (.val u) := by
  induction fv with
  | nil => cases hx
  | cons y r ih =>
    by_cases hy : Str.ofString y = Str.ofString x
    · have : capSt (y :: r) σ = (y, .val u) :: capSt r σ := by unfold capSt; rw [List.filterMap_cons]; simp only [hy, h]
      rw [this]
      show (if Str.ofString y = Str.ofString x then some (Slot.val u) else _) = _
      rw [if_pos hy]
    · have hx' : x ∈ r := by
        rcases List.mem_cons.mp hx with e | e
        · exact absurd (by rw [e]) hy
        · exact e
      have := ih hx'
      unfold capSt at this ⊢
      rw [List.filterMap_cons]
      split
      · exact this
      · rename_i p hp
        have : p.1 = y := by
          split at hp
          · injection hp with hp; rw [← hp]
          · cases hp
        obtain ⟨p1, p2⟩ := p
        simp only at this
        subst this
        show (if Str.ofString p1 = Str.ofString x then _ else _) = _
        rw [if_neg hy]
        assumption
section
variable {C : Cx} {σ : St}
theorem ex_append {n : Nat} (ok : C.Ok n) {x : String} {xp apos pos epos : Pos} {e : Expr} {a : Addr} {vs : List V} {Q : Fl → St → Prop}
    (hf : find σ (Str.ofString x) = some (.list a vs))
    (h : Ev C σ e (fun v σ1 => ∃ vs1, find σ1 (Str.ofString x) = some (.list a vs1) ∧ vs1.length ≤ sizeLine ∧ Q .next (put σ1 (Str.ofString x) x (.list a (vs1 ++ [v])))))
    (hxa : Str.ofString x ≠ anonS) (hn : (Str.ofString x == ("__classdict__" : Str)) = false) (hd : (Str.ofString x == ("__debug__" : Str)) = false)
    (hbase : attributeBase (.Name (Str.ofString x) xp) (Str.ofString "append") C.env (eval (.Name (Str.ofString x) xp) C.env) = eval (.Name (Str.ofString x) xp) C.env) (hline : (apos.endLine == pos.line) = true)
    (hs : starEach [e] C.env = (false, eval e C.env) :: starEach [] C.env) (hint : interactive C.env = false) (hsw : swapsWith (.Call (.Attribute (.Name (Str.ofString x) xp) (Str.ofString "append") apos) [e] [] pos) none epos.line C.env = pure false) :
    Ex C σ (.Expr (.Call (.Attribute (.Name (Str.ofString x) xp) (Str.ofString "append") apos) [e] [] pos) epos) Q :=
  ex_methO ok (sl := .list a vs) (a := a) (P := fun r => r = .none) hf rfl PySem.F.plainAttrs_list PySem.F.slot_list_append PySem.F.type_list_append
    (Tr.mono h fun v σ1 ⟨vs1, h1, h2, h3⟩ => ⟨.list a vs1, h1, rfl, opM_append h2 h3⟩) hxa hn hd hbase hline hs hint hsw
end
theorem exB {b : Bool} {P : Bool → Prop} (h : P b) : ∃ b', V.bool b = V.bool b' ∧ P b' := ⟨_, rfl, h⟩
theorem exI {i : Int} {P : Int → Prop} (h : P i) : ∃ i', V.int i = V.int i' ∧ P i' := ⟨_, rfl, h⟩
theorem exS {l : S} {P : S → Prop} (hl : l.length ≤ sizeLine) (h : P l) : ∃ l', V.str l = V.str l' ∧ l'.length ≤ sizeLine ∧ P l' := ⟨_, rfl, hl, h⟩
end Sx
end
section
open PySem PySem.W PyProof.Rows PySem.Calls
set_option linter.unusedVariables false
set_option Elab.async false
set_option maxRecDepth 100000
namespace Sx
section
variable {C : Cx} {σ : St}
theorem opU_neg {a : Int} {K : V → Prop} (h : K (.int (-a))) : Op1 C (Rep C.W) (unaryOp .USub) (.int a) K := fun own T s va hO ra => by
  obtain ⟨_, rfl⟩ := ra.int_inv; exact PySem.P.neg_int (.int hO.tok h (Nat.le_succ _))
noncomputable def srep (n : Nat) (x : S) : S := (List.replicate n x).flatten
theorem wp_slice_str {prog : Program} {w : World} {A : Around} {E : Value → Shared → Prop} {s : Shared} {env : Env} {value : Expr} {lower upper : Option Expr} {p pos : Pos} {Q : Value → Shared → Prop}
    (h : wpAny (model prog w) A (eval value env) (fun o s₁ => wpAny (model prog w) A (eval (.Slice lower upper none p) env) (fun i s₂ => (∃ x t, o = .str x t) ∧ wpAny (model prog w) A (getItem o i) Q E s₂) E s₁) E s) :
    wpAny (model prog w) A (eval (.Subscript value (.Slice lower upper none p) pos) env) Q E s := by
  rw [eval_Subscript]
  refine wpAny_bind (wpAny_mono h (fun o s₁ h₁ => wpAny_bind (wpAny_holding (wpAny_mono h₁ (fun i s₂ h₂ => wpAny_bind (wpAny_standAt ?_)) fun _ _ x => x)))
    fun _ _ x => x)
  obtain ⟨⟨x, t, rfl⟩, h₂⟩ := h₂
  have ht : ∀ r, letTemporaryGo value (.str x t) r = pure () := fun r => by cases value <;> rfl
  have hT := typeIs_str s₂ x t
  have fin : wpAny (model prog w) A (operate [i, .str x t] (getItem (.str x t) i)) (fun r s₃ => wpAny (model prog w) A (letTemporaryGo value (.str x t) r >>= fun _ => pure r) Q E s₃) E s₂ :=
    wpAny_operating (wpAny_mono h₂ (fun r s₃ h₃ => wpAny_bind (wpAny_of_eq (ht r) (wpAny_pure h₃))) fun _ _ x => x)
  first
    | (refine wpAny_bind ?_
       rw [getitemInPython_of_ne hT.not_modules]
       refine wpAny_bind (wpAny_specialOf hT PySem.F.slot_str_getitem.lookup ?_)
       first
         | exact wpAny_pure (wpAny_bind fin)
         | exact wpAny_bind (wpAny_pure (wpAny_bind fin))
         | exact wpAny_bind fin)
    | (refine wpAny_bind (wpAny_specialOf hT PySem.F.slot_str_getitem.lookup ?_)
       first
         | exact wpAny_bind (wpAny_pure (wpAny_bind fin))
         | exact wpAny_bind fin)
/-- t[lo:hi], a text, whatever stands ahead of the brackets -/
theorem ev_sliceT {value : Expr} {lower upper : Option Expr} {p pos : Pos} {Q : V → St → Prop}
    (h : Ev C σ value (fun a σ1 => ∃ l, a = .str l ∧ l.length ≤ sizeLine ∧ EvP C σ1 lower (fun lo σ2 => EvP C σ2 upper (fun hi σ3 => Q (.str (slc lo hi l)) σ3)))) : Ev C σ (.Subscript value (.Slice lower upper none p) pos) Q := by
  intro F mine T s hA
  refine wp_slice_str (Tr.then h hA fun va s1 a σ1 m1 T1 hq p1 a1 r1 => ?_)
  obtain ⟨l, rfl, hl, hlo⟩ := hq
  obtain ⟨t, rfl, ht1⟩ := r1.str_inv
  refine wpAny_Slice (wpAny_mono (evP_run hlo a1) ?_ fun _ _ x => x)
  rintro vl s2 ⟨lo, σ2, m2, T2, hhi, rfl, p2, a2⟩
  refine wpAny_mono (evP_run hhi a2) ?_ fun _ _ x => x
  rintro vu s3 ⟨hi, σ3, m3, T3, hq, rfl, p3, a3⟩
  rw [evalPart_none]
  refine wpAny_pure ⟨⟨_, _, rfl⟩, wpAny_getItem_str_slice (l := lo) (u := hi) (st := none) ⟨_, Heap.get?_push_size _ rfl, rfl, rfl⟩ rfl ?_⟩
  have k3 : Kp T3 s3 T3 { s3 with heap := s3.heap.push { cls := .type "slice", data := .fields #[partValue lo, partValue hi, .none] } } := .push a3.tok (Nat.le_refl _)
  refine slice_made (C := C) (own := F ++ m3) (K := fun v => Q v σ3) (a3.ownOk.keeps k3) (p3.le.tk _ _ (p2.le.tk _ _ ht1)) hl hq k3 ?_
  rintro v s4 ⟨b, T4, hq, k4, r4⟩
  exact ⟨b, σ3, m3, T4, hq, (p1.trans (p2.trans p3)).trans (k4.post a3.live), a3.keeps k4, r4⟩
theorem Rep.val_inv {W : Wd} {g : PH} {u v : Value} (h : Rep W g (.val u) v) : v = u := by cases h; rfl
end
end Sx
end
section
open PySem PySem.W PyProof.Rows PySem.Calls PySem.SeqAt
set_option linter.unusedVariables false
set_option Elab.async false
set_option maxRecDepth 100000
namespace Sx
section
variable {C : Cx} {σ : St}
end
end Sx
end
section
open PySem PySem.W PyProof.Rows PySem.Calls
set_option linter.unusedVariables false
set_option Elab.async false
set_option maxRecDepth 100000
namespace Sx

/-! ## a comprehension with two generators -/
noncomputable def genTail (e it2 : Expr) (acc : Value) (env : Env) : Sem Unit := do
  let x ← eval it2 env
  standAt it2.pos
  let x ← foldedSetIterable it2 env x
  let _ ← runOwn (.compStart e 1 (← holding [x] (pyIter x)) acc env) env
noncomputable abbrev emitL (elt : Expr) (acc : Value) (env : Env) : Sem Unit := do let _ ← call (.builtin "list.append") [acc, ← eval elt env]

section
variable {C : Cx} {σ : St}
end
end Sx
end
section
open PySem PySem.W PyProof.Rows PySem.Calls PySem.SeqAt
set_option linter.unusedVariables false
set_option Elab.async false
set_option maxRecDepth 100000
namespace Sx
section
variable {C : Cx} {σ : St}
theorem alikeL_strs : ∀ ls : List S, AlikeL 0 (ls.map V.str) (ls.map V.str)
  | [] => .nil _
  | l :: ls => .cons (.ss _ _) (alikeL_strs ls)

noncomputable def maxI : List Int → Int
  | [] => 0
  | [a] => a
  | a :: b :: r => max a (maxI (b :: r))
end
end Sx
end
section
open PySem PySem.W PyProof.Rows PySem.Calls PySem.SeqAt
set_option linter.unusedVariables false
set_option Elab.async false
set_option maxRecDepth 100000
namespace Sx

/-! ## a call that turns two lists of the caller's own -/
section
variable {C : Cx} {σ : St}
end

structure Kp2 (a b : Addr) (T : TM) (s : Shared) (T' : TM) (s' : Shared) : Prop where
  same : ∃ h' tk, s' = { s with heap := h', toks := tk }
  keep : ∀ c o, c ≠ a → c ≠ b → s.heap.get? c = some o → s'.heap.get? c = some o
  tle : TLe T T'
  tok : TOk T' s'.toks

/-- f(.., x, y): x and y lists that f turns; f's answer is None -/
noncomputable def OpX (C : Cx) (vs : List V) (a b : Addr) (hv tv : List V) (t : List Value → Sem Value) (K : List V → List V → Prop) : Prop :=
  ∀ own T s ws, a ≠ b → OwnOk C own T s → a ∈ own → b ∈ own → SlotRep C.W (view own T s) s.heap (.list a hv) (.ref a) → SlotRep C.W (view own T s) s.heap (.list b tv) (.ref b) → RepL C.W (view own T s) vs ws →
    wpAny C.M C.A (t (ws ++ [.ref a, .ref b])) (fun r s' => r = .none ∧ ∃ hv' tv' T', K hv' tv' ∧ Kp2 a b T s T' s' ∧ SlotRep C.W (view own T' s') s'.heap (.list a hv') (.ref a) ∧ SlotRep C.W (view own T' s') s'.heap (.list b tv') (.ref b)) C.X s

end Sx
end
section
open PySem PySem.W PyProof.Rows PySem.Calls PySem.SeqAt
set_option linter.unusedVariables false
set_option Elab.async false
set_option maxRecDepth 100000
namespace Sx
section
variable {C : Cx} {σ : St}

/-- what looks at a thing of the frame's own, the answer a text -/
theorem op2O {F m : List Addr} {T : TM} {s : Shared} (hA : Abs C F m T σ s) {x : String} {sl : Slot} {a : Addr} (hf : find σ (Str.ofString x) = some sl) (ho : sl.adr = some a) {f : Value → Value → Sem Value} {b : V} {vb : Value} (rb : Rep C.W (view (F ++ m) T s) b vb) {K : S → Prop}
    (hop : Op2 C (Rep C.W) f sl.v b (fun v => ∃ l, v = .str l ∧ K l)) {P : Value → Shared → Prop} (fin : ∀ r s2 l T2, K l → Kp T s T2 s2 → Rep C.W (view (F ++ m) T2 s2) (.str l) r → P r s2) : wpAny C.M C.A (f (.ref a) vb) P C.X s := by
  obtain ⟨m', cm, fr⟩ := hA.frm
  obtain ⟨v, hv, hr1⟩ := fr.slots _ _ hf
  have hva := hr1.ref ho
  subst hva
  have hsub : ∀ b ∈ (F ++ m).filter (fun b => decide (b ≠ a)), b ∈ F ++ m := fun b hb => (List.mem_filter.mp hb).1
  have hna : a ∉ (F ++ m).filter (fun b => decide (b ≠ a)) := fun hb => by have := (List.mem_filter.mp hb).2; simp at this
  have hO' : OwnOk C ((F ++ m).filter fun b => decide (b ≠ a)) T s := ⟨fun b o e => (view_sub hsub).ob b o (hA.base b o e), fun b hb => hA.live b (hsub b hb), hA.tok⟩
  refine PrimR.then (hop _ T s (.ref a) vb hO' (SlotRep.freeze ho hr1 hsub hna) (rb.mono (view_sub hsub))) fun r s2 c T2 hq k rr => ?_
  obtain ⟨l, rfl, hq⟩ := hq
  obtain ⟨t, rfl, ht⟩ := rr.str_inv
  exact fin _ _ l T2 hq k (.str ht)

/-- x[i] op= e, x a list of the frame's own, the item a text -/
theorem ex_augItemO {n : Nat} (ok : C.Ok n) {x : String} {xp tp pos : Pos} {i e : Expr} {op : Operator} {a : Addr} {vs : List V} {Q : Fl → St → Prop} (hf : find σ (Str.ofString x) = some (.list a vs))
    (h : Ev C σ i (fun v σ1 => ∃ vs1, find σ1 (Str.ofString x) = some (.list a vs1) ∧ Op2 C (Rep C.W) getItem (.lst vs1) v (fun r => ∃ l, r = .str l ∧ Ev C σ1 e (fun b σ2 => Op2 C (Rep C.W) (inplaceOp op) (.str l) b (fun c => ∃ vs2, find σ2 (Str.ofString x) = some (.list a vs2) ∧
      OpM C (.list a vs2) [v, c] (fun d ws => match ws with | [k, v] => setItem d k v | _ => pure ()) (fun _ => True) (fun sl3 => Q .next (put σ2 (Str.ofString x) x sl3)))))))
    (hxa : Str.ofString x ≠ anonS) (hn : (Str.ofString x == ("__classdict__" : Str)) = false) (hd : (Str.ofString x == ("__debug__" : Str)) = false)
    (ha : ∀ ov iv new, augStore i ov iv new = (do holding [new, ov, iv] (setItem ov iv new); release [new, ov, iv] []; pure .next)) :
    Ex C σ (.AugAssign (.Subscript (.Name (Str.ofString x) xp) i tp) op e pos) Q := by
  refine Tr.intro' fun F mine T s QQ fin hA => ?_
  refine wpAny_AugAssign_Subscript_any (wpAny_Name (tr_loadO ok hA hf rfl hxa hn fun hr => ?_) hd) ha
  refine Tr.then h hA fun vb s2 b σ2 m2 T2 hq_ p2 a2 r2 => ?_
  obtain ⟨vs1, hf1, hop⟩ := hq_
  refine op2O a2 hf1 rfl r2 hop fun vc s3 l T3 q k r3 => ?_
  have a3 := a2.keeps k
  refine Tr.then q a3 fun vd s4 d σ4 m4 T4 hop2 p4 a4 r4 => ?_
  refine PrimR.then (hop2 _ T4 s4 vc vd a4.ownOk (r3.mono p4.le) r4) fun ve s5 c T5 hq2 k5 r5 => ?_
  obtain ⟨vs2, hf2, hop3⟩ := hq2
  have a5 := a4.keeps k5
  have p5 := k5.post a4.live
  refine OpM.abs hop3 a5 hf2 rfl (.cons (((r2.mono k.view).mono p4.le).mono p5.le) (.cons r5 .nil)) fun r s6 sl3 T6 hP hK ho3 p6 a6 => ?_
  exact fin _ _ .next _ m4 T6 hK ((((p2.trans (k.post a2.live)).trans p4).trans p5).trans p6) a6 .next

end
end Sx
end
section
open PySem PySem.W PyProof.Rows PySem.Calls PySem.SeqAt
set_option linter.unusedVariables false
set_option Elab.async false
set_option maxRecDepth 100000
namespace Sx

/-! ## dict(pairs) -/
noncomputable def prV (p : S × S) : V := .tup [.str p.1, .str p.2]
section
variable {C : Cx} {σ : St}
end
end Sx
end
section
open PySem PySem.W PyProof.Rows PySem.Calls PySem.SeqAt PySem.Builtin PySem.Builtin.Str
set_option linter.unusedVariables false
set_option Elab.async false
set_option maxRecDepth 100000
namespace Sx
theorem repl_self (y x : S) : repl y y x = x := by
  have := replace_S x y y
  rw [Txt.replace_self] at this
  exact (mkS_inj this).symm

theorem gives_repl_self (x y : PySem.Str) (t u v : Tok) (h0 : (u == 0 || v == 0) = false) (hl : tooLong (x.length + (occurrences x y 0 x.length (x.length + 1)).length * y.length) = false) :
    GivesAt (fun s => NoneBooked s.heap) («str.replace» ⟨[.str x t, .str y u, .str y v], []⟩) (.either (.val (.str x t)) (.str x)) := by
  show GivesAt _ (if ((occurrences x y 0 x.length (x.length + 1)).isEmpty || (y.length == 0 && y.length == 0)) = true then (do rule "str.replace.nothing"; ret (.str x t)) else
          (do let same ← isSame (.str y u) (.str y v)
              if same = true then (do rule "str.replace.old-is-new"; ret (.str x t)) else
              if tooLong (x.length + (occurrences x y 0 x.length (x.length + 1)).length * y.length) = true then unsupported "str.replace:memory" else
              retStr (glued y (partsBetween x (occurrences x y 0 x.length (x.length + 1)) y.length)))) _
  intro prog w A R s hb hq
  split
  · exact wpAny_bind (wpAny_rule (wpAny_pure hq.1))
  · refine wpAny_bind (wpAny_isSame_str h0 hb fun b => ?_)
    cases b
    · rw [hl, StrLaws.glued_between_self]
      exact wpAny_bind (wpAny_mkStr (wpAny_pure hq.2.2) hq.2.1)
    · exact wpAny_bind (wpAny_rule (wpAny_pure hq.1))

section
variable {C : Cx} {σ : St}
theorem opL_replaceG (hb : NoneBooked C.W.h₀) {x y z : S} {K : V → Prop} (hl : x.length + (x.length + 1) * z.length ≤ sizeLine) (h : K (.str (repl y z x))) :
    OpL C (Rep C.W) (fun ws => call (.builtin "str.replace") ws) [.str x, .str y, .str z] K := by
  by_cases hyz : y = z
  · subst hyz
    rw [repl_self] at h
    intro own T s vs hO hr
    obtain ⟨_, _, rfl, r1, hr⟩ := hr.cons_inv
    obtain ⟨_, _, rfl, r2, hr⟩ := hr.cons_inv
    obtain ⟨_, _, rfl, r3, hr⟩ := hr.cons_inv
    obtain rfl := hr.nil_inv; obtain ⟨t, rfl, ht⟩ := r1.str_inv; obtain ⟨u, rfl, hu⟩ := r2.str_inv; obtain ⟨v, rfl, hv⟩ := r3.str_inv
    have hu0 := (hO.tok.lt u y hu).1
    have hv0 := (hO.tok.lt v y hv).1
    have hnb : NoneBooked s.heap := let ⟨mc, h1, h2⟩ := hb; ⟨mc, h1.keeps hO.kb, h2⟩
    have hlt : tooLong ((mkS x).length + (occurrences (mkS x) (mkS y) 0 (mkS x).length ((mkS x).length + 1)).length * (mkS y).length) = false := by
      have h1 := StrLaws.occ_length_le (mkS x) (mkS y) 0 (mkS x).length ((mkS x).length + 1)
      have h2 : (Builtin.Str.occurrences (mkS x) (mkS y) 0 (mkS x).length ((mkS x).length + 1)).length * y.length ≤ ((mkS x).length + 1) * y.length := Nat.mul_le_mul_right _ h1
      rw [mkS_length] at h2
      unfold Builtin.Str.tooLong
      rw [mkS_length, mkS_length]
      exact decide_eq_false (by omega)
    refine call_givesAt PySem.F.slot_str_replace (typeIs_str _ _ _) PySem.F.entry_str_replace (PySem.F.args_str_replace_3 _ _ _) (gives_repl_self (mkS x) (mkS y) t u v (by rw [Bool.or_eq_false_iff]; exact ⟨beq_eq_false_iff_ne.mpr (Nat.ne_of_gt hu0), beq_eq_false_iff_ne.mpr (Nat.ne_of_gt hv0)⟩) hlt) hnb ?_
    exact ⟨.same hO.tok h (.str ht), by show (mkS x).length ≤ sizeLine; rw [mkS_length]; omega, .strNew hO.tok h⟩
  · exact opL_replace (.inl hyz) hl h

/-- key by key, whatever they are -/
noncomputable def RepOkG : List (S × S) → S → Prop
  | [], _ => True
  | (y, z) :: r, x => x.length + (x.length + 1) * z.length ≤ sizeLine ∧ RepOkG r (repl y z x)
theorem RepL.strs {W : Wd} {g g' : PH} (hg : ∀ t l, g.tk t = some l → g'.tk t = some l) : ∀ (ls : List S) (ws : List Value), RepL W g (ls.map V.str) ws → RepL W g' (ls.map V.str) ws
  | [], ws, h => by obtain rfl := h.nil_inv; exact .nil
  | l :: ls, ws, h => by
    obtain ⟨_, _, rfl, h1, h2⟩ := h.cons_inv
    obtain ⟨t, rfl, ht⟩ := h1.str_inv
    exact .cons (.str (hg t l ht)) (RepL.strs hg ls _ h2)

end
end Sx
end
section
open PySem PySem.W PyProof.Rows PySem.Calls PySem.SeqAt
set_option linter.unusedVariables false
set_option Elab.async false
set_option maxRecDepth 100000
namespace Sx

/-! ## a list of lists whose last one is still being made: it goes under the name "#" -/
noncomputable def delA (σ : St) : St := σ.filter fun p => decide (Str.ofString p.1 ≠ anonS)
section
variable {C : Cx} {σ : St}
end
end Sx
end
section
open PySem PySem.W PyProof.Rows PySem.Calls PySem.SeqAt
set_option linter.unusedVariables false
set_option Elab.async false
set_option maxRecDepth 100000
namespace Sx
noncomputable def Flat : V → Prop
  | .str _ => True
  | .val _ => True
  | .int _ => True
  | .bool _ => True
  | _ => False
theorem Rep.flat {W : Wd} {g g' : PH} (ht : ∀ t l, g.tk t = some l → g'.tk t = some l) {u : V} {v : Value} (hf : Flat u) (h : Rep W g u v) : Rep W g' u v := by
  cases u with
  | str l => obtain ⟨t, rfl, hs⟩ := h.str_inv; exact .str (ht _ _ hs)
  | val w => obtain rfl := h.val_inv; exact .val _
  | int i => obtain ⟨t, rfl⟩ := h.int_inv; exact .int _ _
  | bool b => obtain rfl := h.bool_inv; exact .bool _
  | _ => exact hf.elim
section
variable {C : Cx} {σ : St}
theorem opM_listSetNeg {a : Addr} {vs : List V} {i : Int} {v : V} {K : Slot → Prop} (h0 : i < 0) (hi : -(vs.length : Int) ≤ i) (hl : vs.length ≤ sizeLine) (h : K (.list a (vs.set (i + vs.length).toNat v))) :
    OpM C (.list a vs) [.int i, v] (fun d ws => match ws with | [k, v] => setItem d k v | _ => pure ()) (fun _ => True) K := by
  intro own T s b ws hO hb ho hs hr
  cases ho
  obtain ⟨_, xs, ⟨n, hx⟩, hxr⟩ := hs
  obtain ⟨kw, _, rfl, hkw, hr⟩ := hr.cons_inv
  obtain ⟨w, _, rfl, hw, hr⟩ := hr.cons_inv
  obtain rfl := hr.nil_inv
  obtain ⟨_, rfl⟩ := hkw.int_inv
  rename_i t
  have hlen : xs.toArray.size = vs.length := by rw [List.size_toArray, hxr.length]
  have hsz : (vs.length : Int) < 2 ^ 63 := fits63 hl
  have hT : s.TypeIs (.ref a) "list" := ⟨_, hx, rfl⟩
  show wpAny C.M C.A (setItem (.ref a) (.int i t) w) _ _ s
  unfold setItem
  try with_reducible refine wpAny_holding ?_
  refine wpAny_bind (wpAny_sequenceKey hT (by decide) ?_)
  refine wpAny_bind (wpAny_callSpecial?_slot (name := Str.ofString "__setitem__") hT slot_list_setitem
    (wpAny_call_entry slot_list_setitem hT entry_list_setitem ?_ (args_list_setitem _ _ _)))
  show wpAny _ _ (Builtin.List.listSubscript? (.int i t) >>= _) _ _ s
  refine wpAny_bind (wpAny_listSubscript_int (by
    unfold Builtin.List.listFitsIndex
    simp only [Bool.and_eq_true, decide_eq_true_eq]
    omega) ?_)
  have hidx := seqIndex_neg (n := xs.toArray.size) h0 (by rw [hlen]; exact hi)
  obtain ⟨j, hj⟩ : ∃ j, (i + xs.toArray.size).toNat = j := ⟨_, rfl⟩
  rw [hj] at hidx
  rw [← hlen, hj] at h
  have hjl : j < xs.toArray.size := by omega
  obtain ⟨m, rfl⟩ : ∃ m : Nat, i = Int.negSucc m := by
    cases i with
    | ofNat n => exact absurd h0 (Int.not_lt.mpr (Int.natCast_nonneg n))
    | negSucc n => exact ⟨n, rfl⟩
  show wpAny _ _ ((Builtin.List.listItems (.ref a) >>= fun xs => pure ((seqIndex? (Int.negSucc m) xs.size).bind fun i => xs[i]?.map (i, ·))) >>= _) _ _ s
  refine wpAny_bind (wpAny_bind ?_)
  show wpAny _ _ (seqItems? (.ref a) >>= _) _ _ s
  refine wpAny_bind (wpAny_seqItems hx rfl (wpAny_pure (wpAny_pure ?_)))
  rw [hidx]
  have hx' : xs.toArray[j]? = some xs.toArray[j] := Array.getElem?_eq_getElem hjl
  simp only [Option.bind_some, hx', Option.map_some]
  show wpAny _ _ (setSeqItemAt a j w >>= _) _ _ s
  have fin : ∀ n', s.heap.update a (Obj.mapSeq (·.setIfInBounds j w)) = n' → (True ∧ ∃ sl' T', K sl' ∧ sl'.adr = some a ∧ KpB a T s T' { s with heap := n' } ∧ SlotRep C.W (view own T' { s with heap := n' }) n' sl' (.ref a)) := by
    rintro n' rfl
    have e2 : (s.heap.update a (Obj.mapSeq (·.setIfInBounds j w))).get? a = some (Obj.mapSeq (·.setIfInBounds j w) { cls := .type "list", data := .seq xs.toArray n }) := by
      obtain ⟨n', hd⟩ := Obj.data_mapSeq (o := { cls := .type "list", data := .seq xs.toArray n }) rfl (·.setIfInBounds j w)
      exact Heap.get?_update_self _ hx (Obj.isFreed_of_seq hd)
    have k2 : ∀ b o, b ≠ a → s.heap.get? b = some o → (s.heap.update a (Obj.mapSeq (·.setIfInBounds j w))).get? b = some o := fun b o hb e => (Heap.get?_update_other _ _ (Ne.symm hb)).trans e
    have k : KpB a T s T { s with heap := s.heap.update a (Obj.mapSeq (·.setIfInBounds j w)) } := ⟨⟨_, s.toks, rfl⟩, k2, by show ((s.heap.update a _).get? a).isSome = true; rw [e2]; rfl, fun _ _ e => e, hO.tok⟩
    refine ⟨trivial, _, T, h, rfl, k, rfl, xs.set j w, ?_, ?_⟩
    · refine ⟨n, e2.trans ?_⟩
      simp [Obj.mapSeq]
    · exact (hxr.set hw j).mono (k.view hb)
  refine wpAny_bind (wpAny_setSeqItemAt hx rfl ?_)
  first
    | exact wpAny_bind (wpAny_pure (wpAny_pure ⟨.none, rfl, wpAny_pure (fin _ rfl)⟩))
    | exact wpAny_pure ⟨.none, rfl, wpAny_pure (fin _ rfl)⟩
end
end Sx
end
section
open PySem PySem.W PyProof.Rows PySem.Calls PySem.SeqAt PySem.Builtin PySem.Builtin.Str
set_option linter.unusedVariables false
set_option Elab.async false
set_option maxRecDepth 100000
namespace Sx
section
variable {C : Cx} {σ : St}
open Classical in
end
end Sx
end
section
open PySem PySem.W PyProof.Rows PySem.Calls PySem.SeqAt PySem.Builtin PySem.Builtin.Str
set_option linter.unusedVariables false
set_option Elab.async false
set_option maxRecDepth 100000
namespace Sx
noncomputable def TM.upds (T : TM) : Nat → List S → TM
  | _, [] => T
  | n, l :: ls => TM.upds (T.upd n l) (n + 1) ls
theorem Kp.strs : ∀ (ls : List S) {T : TM} {s : Shared}, TOk T s.toks → Kp T s (T.upds s.toks ls) { s with toks := s.toks + ls.length }
  | [], T, s, h => .refl h
  | l :: ls, T, s, h => by
    have k1 : Kp T s (T.upd s.toks l) { s with toks := s.toks + 1 } := .str (h' := s.heap) h fun _ _ e => e
    have k2 := Kp.strs ls (s := { s with toks := s.toks + 1 }) k1.tok
    have e : s.toks + (l :: ls).length = s.toks + 1 + ls.length := by rw [List.length_cons]; omega
    rw [e]
    exact k1.trans k2
section
variable {C : Cx} {σ : St}
end
end Sx
end
section
open PySem PySem.W PyProof.Rows PySem.Calls
set_option linter.unusedVariables false
set_option Elab.async false
set_option maxRecDepth 100000
namespace Sx
section
variable {C : Cx} {σ : St}
end
section
variable {C : Cx} {σ : St}
end
end Sx
end
section
open PySem PySem.W PyProof.Rows PySem.Calls PySem.SeqAt PySem.Builtin PySem.Builtin.Str
set_option linter.unusedVariables false
set_option Elab.async false
set_option maxRecDepth 100000
namespace Sx
/-! ## texts whose mark is not known -/
noncomputable def Tx : V → S → Prop
  | .str a, l => a = l
  | .txt a, l => a = l
  | _, _ => False
noncomputable def Weak (v u : V) : Prop := ∀ (W : Wd) (g : PH) (x : Value), Rep W g v x → Rep W g u x
section
variable {C : Cx} {σ : St}
theorem Tr.weak {t : Sem Value} {Q : V → St → Prop} (h : Tr C σ (Rep C.W) t (fun v σ' => ∃ u, Weak v u ∧ Q u σ')) : Tr C σ (Rep C.W) t Q := by
  refine Tr.intro' fun F mine T s QQ fin hA => ?_
  refine Tr.then h hA fun x s1 v σ1 m1 T1 q p1 a1 r => ?_
  obtain ⟨u, hw, q⟩ := q
  exact fin _ _ u σ1 m1 T1 q p1 a1 (hw _ _ _ r)
end
/-! pairs: rules have the mark of the second text, parts of the first -/
noncomputable def prR (p : S × S) : V := .tup [.txt p.1, .str p.2]
noncomputable def prK (p : S × S) : V := .tup [.str p.1, .txt p.2]
section
variable {C : Cx} {σ : St}
open Classical in
end
noncomputable def tabT (es : List (S × S)) : List (Key × V) := es.map fun p => (Key.s p.1, V.txt p.2)
end Sx
end
section
open PySem PySem.W PyProof.Rows PySem.Calls
set_option linter.unusedVariables false
set_option Elab.async false
set_option maxRecDepth 100000
namespace Sx
theorem find_hit {σ : St} {y : String} {sl : Slot} : find (put σ (Str.ofString y) y sl) (Str.ofString y) = some sl := by rw [find_putS, if_pos rfl]
theorem find_miss {σ : St} {y x : String} {sl : Slot} {o : Option Slot} (h : decide (y = x) = false) (hf : find σ (Str.ofString x) = o) : find (put σ (Str.ofString y) y sl) (Str.ofString x) = o := by
  rw [find_putS, if_neg (of_decide_eq_false h)]; exact hf
end Sx
end
section
open PySem PySem.W PyProof.Rows PySem.Calls
set_option linter.unusedVariables false
set_option Elab.async false
set_option maxRecDepth 100000
namespace Sx
/-! what comes after goes by a name: terms stay small -/
section
variable {C : Cx} {σ : St}
theorem exs_K {body : List Stmt} (K : V → Prop) (h : ∀ Q : Fl → St → Prop, (∀ v σ', K v → Q (.ret v) σ') → Exs C σ body Q) : Exs C σ body (fun fl _ => K fl.v) := h _ fun _ _ hk => hk
theorem exs_split {st : Stmt} {rest : List Stmt} {Q : Fl → St → Prop} (P : St → Prop) (h1 : ∀ Q' : Fl → St → Prop, (∀ σ', P σ' → Q' Fl.next σ') → Ex C σ st Q') (h2 : ∀ σ', P σ' → Exs C σ' rest Q) : Exs C σ (st :: rest) Q :=
  exs_cons (h1 _ h2)
theorem loop_listQ {target : Expr} {body orelse : List Stmt} {Q : Fl → St → Prop} {α : Type} (f : α → V) (l : List α) (I : Nat → St → Prop)
    (step : ∀ i x σ (Q' : Fl → St → Prop), (∀ σ', I (i + 1) σ' → Q' .next σ') → l[i]? = some x → I i σ → Asg C σ target (f x) (fun σ1 => Exs C σ1 body Q'))
    (done : ∀ σ, I l.length σ → Exs C σ orelse Q) {σ : St} (h : I 0 σ) {xs : List V} (hx : xs = l.map f) : Loop C target body orelse Q xs σ :=
  loop_list f l I (fun i x σ hx hI => step i x σ _ (fun _ h => h) hx hI) done h hx
theorem loop_rangeQ {target : Expr} {body orelse : List Stmt} {Q : Fl → St → Prop} (a b : Int) (n : Nat) (hn : (b - a).toNat = n) (I : Nat → St → Prop)
    (step : ∀ i σ (Q' : Fl → St → Prop), (∀ σ', I (i + 1) σ' → Q' .next σ') → i < n → I i σ → Asg C σ target (.int (a + i)) (fun σ1 => Exs C σ1 body Q'))
    (done : ∀ σ, I n σ → Exs C σ orelse Q) {σ : St} (h : I 0 σ) : Loop C target body orelse Q ((List.range (b - a).toNat).map fun (i : Nat) => V.int (a + (i : Int))) σ :=
  loop_range a b n hn I (fun i σ hi hI => step i σ _ (fun _ h => h) hi hI) done h
theorem ex_whileQ {n : Nat} (ok : C.Ok n) {test : Expr} {body orelse : List Stmt} {pos : Pos} {Q : Fl → St → Prop} (I : Nat → St → Prop)
    (step : ∀ k σ (Q1 Q' : Fl → St → Prop), (∀ σ', Exs C σ' orelse Q → Exs C σ' orelse Q1) → (∀ k' σ', k' < k → I k' σ' → Q' .next σ') → I k σ → Tst C σ test (fun b σ1 => (b = false → Exs C σ1 orelse Q1) ∧ (b = true → Exs C σ1 body Q'))) (k : Nat) (h : I k σ) : Ex C σ (.While test body orelse pos) Q :=
  ex_while ok I (fun k σ hI => step k σ _ _ (fun _ h => h) (fun k' σ' h1 h2 => ⟨k', h1, h2⟩) hI) k h
theorem fn_callQ {C : Cx} {n : Nat} (ok : C.Ok (n + 1)) {a : Addr} {fd : FuncData} {body : List Stmt} (fn : FnAt C.W a fd body) {ps : List String} {vs dvs : List V} {ds : List Value}
    (hb : ∀ (s : Shared) (ws : List Value), (∀ b o, C.W.h₀.get? b = some o → s.heap.get? b = some o) → ws.length = vs.length → BindsTo s fd ⟨ws, []⟩ ((ps.map Str.ofString).zip (ws ++ ds)))
    (hds : ∀ own T s, OwnOk C own T s → RepL C.W (view own T s) dvs ds)
    (hnd : ps.Nodup) (hnm : namesOk fd.scope ps = true) {K : V → Prop}
    (walk : ∀ A L q cd (Q : Fl → St → Prop), (∀ v σ', K v → Q (.ret v) σ') → (fnCx C.W A fd.scope L a q cd).Ok n → Exs (fnCx C.W A fd.scope L a q cd) (mkSt ps (vs ++ dvs)) body Q) :
    OpL C (Rep C.W) (fun ws => call (.ref a) ws) vs K := fn_call ok fn hb hds hnd hnm fun A L q cd okn => exs_K K fun Q hQ => walk A L q cd Q hQ okn
theorem neg1_le {n : Nat} (h : 0 < n) : -(n : Int) ≤ -1 := by omega
theorem op_item_lastm {C : Cx} {vs : List V} {v : V} {m : Nat} {K : V → Prop} (hm : vs.length = m + 1) (hv : vs[m]? = some v) (hl : vs.length ≤ sizeLine) (h : K v) : Op2 C (Rep C.W) getItem (.lst vs) (.int (-1)) K :=
  op_item_list (neg1_le (by rw [hm]; exact Nat.succ_pos m)) (Int.lt_of_lt_of_le (by decide) (Int.natCast_nonneg _)) hl (by
    rw [if_pos (by decide), show ((-1 : Int) + (vs.length : Int)).toNat = m by rw [hm]; omega]; exact hv) h
theorem mle {a b k : Nat} (h : b ≤ k) : min a b ≤ k := Nat.le_trans (Nat.min_le_right _ _) h
theorem take_le {α : Type} (l : List α) (i : Nat) {k : Nat} (h : l.length ≤ k) : (l.take i).length ≤ k := by rw [List.length_take]; exact mle h
theorem szc (n : Nat) (h : Nat.ble n 16777216 = true := by rfl) : n ≤ sizeLine := by
  rw [sizeLine_eq]; exact Nat.le_of_ble_eq_true h
theorem line {n : Nat} (k : Nat) (h : n ≤ k) (hk : Nat.ble k 16777216 = true := by rfl) : n ≤ sizeLine := by
  rw [sizeLine_eq]; exact Nat.le_trans h (Nat.le_of_ble_eq_true hk)
end
end Sx
end
section
open PySem PySem.W PyProof.Rows PySem.Calls
set_option linter.unusedVariables false
set_option Elab.async false
set_option maxRecDepth 100000
namespace Sx
theorem exsP_sortKey {C : Cx} {n : Nat} (ok : C.Ok (n + 2)) (hoC : C.ownC = true) {P c : Addr} (hL : LamAt C.W c P) (hcode : C.env.code = .ref c) {σ : St} {Q : Fl → St → Prop}
    {x words y prm : String} {p1 p2 p3 lpos kpos cpos apos : Pos} {params : Arguments} {body : Expr} {scope : Scope} {rest : List Stmt} {ss : List S} {row : S} {κ : S → List Int}
    (hx : isHere C (Str.ofString x) = true) (hk : C.env.kindOf (Str.ofString "sorted") = some .globalImplicit) (hl : C.W.gls.lookup "sorted" = some (.builtin "sorted"))
    (hw : find σ (Str.ofString words) = some (.val (.lst (ss.map V.str)))) (hwn : (Str.ofString words == ("__classdict__" : Str)) = false) (hwd : (Str.ofString words == ("__debug__" : Str)) = false) (h128 : ss.length < 128)
    (hy : find σ (Str.ofString y) = some (.val (.str row))) (hyc : C.env.kindOf (Str.ofString y) = some .cell)
    (hclo : closGo C.env.cells scope.names [] = [(Str.ofString y, (C.env.cells.lookup (Str.ofString y)).getD 0)]) (hfree : ∀ z ∈ scope.names, z.2 = .free → z.1 = Str.ofString y)
    (hbind : ∀ nm qual cl pm cv ctv w, bindArgs (kla_fn nm qual params body scope cl pm cv ctv) ⟨[w], []⟩ = pure [(Str.ofString prm, w)])
    (hdef : defaultsOf params C.env = ([], [])) (hpy : prm ≠ y) (hsx : scope.names.lookup (Str.ofString prm) = some .local) (hsy : scope.names.lookup (Str.ofString y) = some .free)
    (hsk : scope.kind = .function) (hco : scope.isCoroutine = false) (hgen : scope.isGenerator = false) (hcell : ∀ z ∈ scope.names, z.2 ≠ .cell)
    (walk : ∀ l ∈ ss, ∀ A L f q cd cl, (lamCx C.W A (lamEnv scope L f q cd cl)).Ok n →
      EvF (lamCx C.W A (lamEnv scope L f q cd cl)) [(prm, .val (.str l)), (y, .val (.str row))] (eval body (lamEnv scope L f q cd cl)) (fun sl _ => ∃ b, sl = .list b ((κ l).map V.int)))
    (next : ∀ (a : Addr) (out : List S), out.Perm ss → (out.Pairwise fun x y => ¬ κ y < κ x) → Exs C (put σ (Str.ofString x) x (.list a (out.map V.str))) rest Q) :
    ExsP C P σ (.Assign [.Name (Str.ofString x) p1] (.Call (.Name (Str.ofString "sorted") p2) [.Name (Str.ofString words) p3] [⟨some (Str.ofString "key"), .Lambda params body scope lpos, kpos⟩] cpos) apos :: rest) Q := by
  intro mine T s hP hA
  refine wpAny_execs_cons (wpAny_Assign_Name ?_ (swaps_no rfl))
  show wpAny C.M C.A (do callWith cpos (← eval (.Name (Str.ofString "sorted") p2) C.env) [] (backTo cpos (starEach [.Name (Str.ofString words) p3] C.env)) (backToKw cpos (keywordEach [⟨some (Str.ofString "key"), .Lambda params body scope lpos, kpos⟩] C.env))) _ C.X s
  refine wpAny_bind (Tr.then (ev_glob ok hk hl (Q := fun v σ' => v = .val (.builtin "sorted") ∧ σ' = σ) ⟨rfl, rfl⟩) hA fun vf s1 fv σ1 m1 T1 q1 P1 a1 r1 => ?_)
  obtain ⟨rfl, e⟩ := q1
  subst e
  cases r1
  refine callWith_kw (Tr.then (evL_cons (Q := fun vs σ2 => vs = [.lst (ss.map V.str)] ∧ σ2 = σ1) (ev_name ok hw (evL_nil ⟨rfl, rfl⟩) hwn hwd)) a1 fun vs s2 us σ2 m2 T2 q2 P2 a2 r2 => ?_)
  obtain ⟨rfl, e⟩ := q2
  subst e
  obtain ⟨wv, _, rfl, rw1, r2⟩ := r2.cons_inv
  obtain rfl := r2.nil_inv
  have hP2 : s2.heap.get? P = some (tabObj #[]) := (P2.far P (.head _)).trans ((P1.far P (.head _)).trans hP)
  show wpAny C.M C.A (evalAll [do let v ← eval (.Lambda params body scope lpos) C.env; standAt cpos; pure v]) (fun kvs s₂ => wpAny C.M C.A (call (.builtin "sorted") [wv] ([Str.ofString "key"].zip kvs)) _ C.X s₂) C.X s2
  refine evalAll_cons (wpAny_bind (wpAny_with_toks (n := s2.toks) (Nat.le_refl _) (kla_eval hdef ?_)))
  obtain ⟨mg, bm, ob, b0, b1, b2, b3, b4, b5, b6⟩ := hL.bm
  have kb := a2.ownOk.kb
  have hgs := b0.keeps kb
  have hgP : mainGlobals ≠ P := fun q => by
    obtain ⟨o, es, ep, e, hd, _⟩ := hgs
    rw [q, hP2] at e; cases e; cases hd
  have hbP : bm ≠ P := fun q => by
    have e := kb _ _ b3
    rw [q, hP2] at e; cases e; cases b4
  have hbG : bm ≠ mainGlobals := fun q => by
    obtain ⟨o, es, ep, e, hd, _⟩ := b0
    rw [q, e] at b3; cases b3; rw [hd] at b6; cases b6
  obtain ⟨m, cm, fr⟩ := a2.frm
  obtain ⟨cr, hcr⟩ := fr.has (Str.ofString y) (.inl hyc)
  have hclo' : closureFor scope C.env = pure [(Str.ofString y, cr)] := by
    rw [closureFor_eq (fun z hz hzf => by rw [hfree z hz hzf, hcr]; rfl), hclo, hcr]; rfl
  refine kla_makeFunction (mg := mg) (ps := #[]) (c := c) (P := P) hclo' ok.hg hgs hcode (hL.hd.keeps kb) hP2 trivial rfl hgP ⟨bm, ob, b1, b2, hbG, hbP, kb _ _ b3, b4, b5, b6⟩ fun c' ctv h' tk hxt hge hlt hrec htb => ?_
  intro htk
  obtain ⟨fo, efo⟩ : ∃ fo, kla_obj (Str.ofString "<lambda>") (C.env.qual ++ Str.ofString "<lambda>") params body scope [(Str.ofString y, cr)] ((mg (Str.ofString "__name__")).getD Value.none) c' ctv = fo := ⟨_, rfl⟩
  rw [efo] at htk ⊢
  have hk3 : ∀ b o, b ≠ P → s2.heap.get? b = some o → (h'.push fo).get? b = some o := fun b o hb e => Heap.get?_push_of_some _ (hxt b o hb e)
  have hP3 : (h'.push fo).get? P = some (tabObj (#[] ++ #[rawInt lpos.line, rawInt lpos.col, .ref c'])) := Heap.get?_push_of_some _ htb
  have hf3 : (h'.push fo).get? h'.objs.size = some fo := Heap.get?_push_size _ (by rw [← efo]; rfl)
  have hr3 : (h'.push fo).CodeRec (.ref c') (C.env.qual ++ Str.ofString "<lambda>") := hrec.keeps fun b o e => Heap.get?_push_of_some _ e
  obtain ⟨a3, le3⟩ := a2.but hoC (h' := h'.push fo) (tk := tk) hk3 htk (by rw [hP3]; rfl)
  obtain ⟨s3, es3⟩ : ∃ s3, s3 = ({ s2 with heap := h'.push fo, toks := tk } : Shared) := ⟨_, rfl⟩
  have es3h : s3.heap = h'.push fo := by rw [es3]
  rw [← es3h] at hP3 hf3 hr3
  have P3 : PostP P m2 T2 s2 m2 T2 s3 := ⟨⟨_, _, es3⟩, es3 ▸ le3, _, hP3⟩
  rw [← es3] at a3 le3
  show wpAny C.M C.A _ _ C.X ({ s2 with heap := h'.push fo, toks := tk } : Shared)
  rw [← es3]
  generalize h'.objs.size = f at hf3 ⊢
  clear hk3 hxt hge hlt hrec htb htk es3h es3 hgs kb
  refine wpAny_bind (wpAny_standAt (wpAny_pure (evalAll_nil ?_)))
  show wpAny C.M C.A (call (.builtin "sorted") [wv] [(Str.ofString "key", .ref f)]) _ C.X s3
  obtain ⟨m3, cm3, fr3⟩ := a3.frm
  obtain ⟨rv, hrv, hrr⟩ := fr3.slots _ _ hy
  have hrv := hrv.val
  have hcm : cm3 (Str.ofString y) = some rv := by unfold valAt at hrv; rw [hyc] at hrv; exact hrv
  have hcell3 := fr3.cells _ _ hcr
  rw [hcm] at hcell3
  obtain ⟨rt, rfl, hrt⟩ := Rep.str_inv hrr
  have hcown := fr3.cown _ _ hcr
  have hu := ok.hu
  have hdp := ok.hd
  refine wpAny_mono (sorted_key (κ := κ) ok a3.ownOk (rw1.mono le3) h128 fun ts kS a hmem fk fa T' s' hO' k' p hp ht => ?_) ?_ fun _ _ x => x
  · subst efo
    exact lam_call (A := C.A.in1.in1) (n := n) ok.W ok.hh (by show C.A.units + 1 + 1 + 3 + 3 * n + 100 ≤ 9000; omega) (by show C.A.depth + 1 + n + 10 ≤ 900; omega) hO' (k'.keep _ _ hf3) (hr3.keeps k'.keep) (hbind _ _ _ _ _ _ _) hpy hsx hsy hsk hco hgen hcell
      (fun z hz => hfree _ (mem_of_lookup hz) rfl) (hcell3.keeps k'.keep) (List.mem_cons_of_mem _ (List.mem_cons_of_mem _ hcown)) (.str (k'.tle _ _ hrt)) (.str ht) fun L okL => walk _ (hmem p hp) _ _ _ _ _ _ okL
  · rintro v s4 ⟨sl, T4, a, ⟨a', out, rfl, hp, hs⟩, hadr, k4, hn, hsome, r4⟩
    obtain rfl : a' = a := by injection hadr
    obtain ⟨P4, hm, a4, le4⟩ := a3.new k4 hn hsome
    obtain ⟨m5, cm5, f5, h1, h2, h3⟩ := a4.frm
    refine store_frm ok a4.abs hx (r4.mono le4 fun _ _ _ e => e) f5 (fun b hb => ?_) fun s5 P5 a5 => ?_
    · cases hb
      exact ⟨List.mem_cons_self, h1, h2, fun y sl' e1 e2 => absurd e2 (h3 y sl' e1)⟩
    · refine Tr.then (next a' out hp hs) a5 fun fl' s6 fl σ6 m6 T6 q6 P6 a6 r6 => ?_
      exact ⟨fl, σ6, m6, T6, q6, .left P1 (.left P2 (((P3.right P4).right P5).right P6)), a6, r6⟩
end Sx
end
section
open PySem PySem.W PyProof.Rows PySem.Calls
set_option linter.unusedVariables false
set_option Elab.async false
set_option maxRecDepth 100000
namespace Sx
/-- the very first call of all, in a frame whose code's places may be written -/
theorem fn_callP {W : Wd} {A : Around} {E : Value → Shared → Prop} {n : Nat} (hW : W.Ok) (hh : A.handled = none) (hu : A.units + 3 + 3 * n + 100 ≤ 9000) (hdp : A.depth + 1 + n + 10 ≤ 900) {a : Addr} {fd : FuncData} {body : List Stmt} (fn : FnAt W a fd body) {p : String} {v : V} {w : Value} {s : Shared}
    {P : Addr} (hbase : ∀ b o, W.h₀.get? b = some o → b ≠ P ∧ s.heap.get? b = some o) (hP : s.heap.get? P = some (tabObj #[])) (hb : BindsTo s fd ⟨[w], []⟩ [(Str.ofString p, w)]) (hr : Rep W (view [P] (fun _ => none) s) v w) (hpl : fd.scope.names.lookup (Str.ofString p) = some .local) (hnf : (fd.scope.names.all fun x => x.2 != .free) = true) {Q : Value → Shared → Prop}
    (walk : ∀ A L q, (fnCx W A fd.scope L a q fd.code).Ok n → ExsP (fnCx W A fd.scope L a q fd.code) P [(p, .val v)] body (fun fl _ => fl.v = .bool true))
    (hQ : ∀ s', (∃ h' tk, s' = { s with heap := h', toks := tk }) → (∀ b o, b ≠ P → s.heap.get? b = some o → s'.heap.get? b = some o) → (∃ ps, s'.heap.get? P = some (tabObj ps)) → Q (.bool true) s') : wpAny (model W.prog W.w) A (call (.ref a) [w]) Q E s := by
  obtain ⟨o, ho, hd⟩ := fn.at_
  have kb : ∀ b o, W.h₀.get? b = some o → s.heap.get? b = some o := fun b o e => (hbase b o e).2
  have ho := kb _ _ ho
  have hlim : s.heap.NoLimit := hW.nolimit.keeps kb
  refine wpAny_call (codeAny_call_function (by unfold recursionLimit; omega) ho hd fn.hco fn.hgen fn.hbody (fn.hcd.keeps kb) (hb _ _ _ _ ?_))
  rw [fn.hgl, fn.hcl, fn.hbn]
  refine newEnv_pos fn.hk hpl (fun x hx => nomatch hx) fun env' he s' x htk => ?_
  subst he
  obtain ⟨h₁, tk, rfl, hk₁⟩ := x.done
  refine ⟨hlim.keeps hk₁, codeAny_func ?_⟩
  have okn : (fnCx W (A.deeper (fnEnv fd.scope s.heap.objs.size a (fd.qualname ++ ".<locals>.") fd.code)) fd.scope s.heap.objs.size a (fd.qualname ++ ".<locals>.") fd.code).Ok n :=
    fnCx_ok hW (by exact hh) (by show A.units + 3 + 3 * n + 100 ≤ 9000; omega) (by show A.depth + 1 + n + 10 ≤ 900; omega) fn.hk
  obtain ⟨cs, hcs⟩ : ∃ cs, cellsFrom (s.heap.objs.size + 1) fd.scope.names [] = cs := ⟨_, rfl⟩
  have hcs' : (fnEnv fd.scope s.heap.objs.size a (fd.qualname ++ ".<locals>.") fd.code).cells = cs := hcs
  have hcell : ∀ z c, cs.lookup z = some c → h₁.IsCell c (bindC (fnEnv fd.scope s.heap.objs.size a (fd.qualname ++ ".<locals>.") fd.code).kindOf [(Str.ofString p, w)] (fun _ => none) z) := fun z c e => x.cell z c (hcs ▸ e)
  have hab : ∀ z c, (z, c) ∈ cs → s.heap.objs.size < c := fun z c e => x.above z c (hcs ▸ e)
  have hap : cs.Pairwise fun x y => x.2 ≠ y.2 := by have := x.apart; exact hcs ▸ this
  have hns : h₁.Ns s.heap.objs.size (bindL (fnEnv fd.scope s.heap.objs.size a (fd.qualname ++ ".<locals>.") fd.code).kindOf [(Str.ofString p, w)] (fun _ => none)) := x.toInCall.ns
  have hmm : ∀ b ∈ s.heap.objs.size :: cs.filterMap (fun p => cs.lookup p.1), b = s.heap.objs.size ∨ ∃ z, cs.lookup z = some b := by
    intro b hb
    rcases List.mem_cons.mp hb with rfl | hb
    · exact .inl rfl
    · obtain ⟨p, hp, e⟩ := List.mem_filterMap.mp hb
      exact .inr ⟨p.1, e⟩
  have hmine : ∀ b ∈ s.heap.objs.size :: cs.filterMap (fun p => cs.lookup p.1), s.heap.get? b = none := by
    intro b hb
    rcases hmm b hb with rfl | ⟨z, hz⟩
    · exact fresh_size _
    · exact get_ge (Nat.le_of_lt (hab z b (mem_of_lookup hz)))
  have hcm : ∀ z c, cs.lookup z = some c → c ∈ s.heap.objs.size :: cs.filterMap (fun p => cs.lookup p.1) := fun z c e =>
    List.mem_cons_of_mem _ (List.mem_filterMap.mpr ⟨(z, c), mem_of_lookup e, e⟩)
  have le0 : Le (view [P] (fun _ => none) s) (view ([P] ++ (s.heap.objs.size :: cs.filterMap (fun p => cs.lookup p.1))) (fun _ => none) { s with heap := h₁, toks := tk }) := by
    refine ⟨fun b o e => view_mk (fun hm => ?_) (hk₁ b o (view_of e)), fun _ _ e => by cases e⟩
    rcases List.mem_append.mp hm with hm | hm
    · exact view_not e hm
    · have := hmine b hm
      rw [view_of e] at this; cases this
  have hP1 : h₁.get? P = some (tabObj #[]) := hk₁ _ _ hP
  have hkp : (fnEnv fd.scope s.heap.objs.size a (fd.qualname ++ ".<locals>.") fd.code).kindOf (Str.ofString p) = some .local := hpl
  have habs : Abs (fnCx W (A.deeper (fnEnv fd.scope s.heap.objs.size a (fd.qualname ++ ".<locals>.") fd.code)) fd.scope s.heap.objs.size a (fd.qualname ++ ".<locals>.") fd.code) [P]
      (s.heap.objs.size :: cs.filterMap (fun p => cs.lookup p.1)) (fun _ => none) [(p, .val v)] { s with heap := h₁, toks := tk } := by
    refine ⟨fun b o e => le0.ob b o (view_mk (fun hm => (hbase b o e).1 (List.mem_singleton.mp hm)) (kb b o e)), fun b hb => ?_, fun b hb hF => ?_, ⟨htk, fun _ _ e => by cases e⟩,
      bindL (fnEnv fd.scope s.heap.objs.size a (fd.qualname ++ ".<locals>.") fd.code).kindOf [(Str.ofString p, w)] (fun _ => none), bindC (fnEnv fd.scope s.heap.objs.size a (fd.qualname ++ ".<locals>.") fd.code).kindOf [(Str.ofString p, w)] (fun _ => none), ?_⟩
    · rcases List.mem_append.mp hb with hb | hb
      · obtain rfl := List.mem_singleton.mp hb
        show (h₁.get? b).isSome = true
        rw [hP1]; rfl
      · rcases hmm b hb with rfl | ⟨z, hz⟩
        · obtain ⟨o, _, _, ho, _⟩ := hns
          show (h₁.get? s.heap.objs.size).isSome = true
          rw [ho]; rfl
        · obtain ⟨o, ho, _⟩ := hcell z b hz
          show (h₁.get? b).isSome = true
          rw [ho]; rfl
    · obtain rfl := List.mem_singleton.mp hF
      have := hmine b hb
      rw [hP] at this; cases this
    · refine { ns := hns, cells := fun z c e => hcell z c (hcs' ▸ e), apart := fun z y c e1 e2 => ?_, lc := fun z c e => ?_, has := fun z hz => ?_, lm := List.mem_cons_self, cown := fun z c e => List.mem_append_right _ (hcm z c (hcs' ▸ e)), cmine := fun _ z c e => hcm z c (hcs' ▸ e), slots := ?_, own := ?_, dis := ?_ }
      · exact name_of_addr hap (mem_of_lookup (hcs' ▸ e1)) (mem_of_lookup (hcs' ▸ e2))
      · exact Nat.ne_of_gt (hab z c (mem_of_lookup (hcs' ▸ e)))
      · rcases hz with hz | hz
        · have := cellsFrom_has fd.scope.names (s.heap.objs.size + 1) [] hz
          exact Option.isSome_iff_exists.mp this
        · have hz : fd.scope.names.lookup z = some .free := hz
          have := List.all_eq_true.mp hnf _ (mem_of_lookup hz)
          simp at this
      · intro z sl hz
        simp only [find] at hz
        by_cases hzp : Str.ofString p = z
        · rw [if_pos hzp] at hz
          cases hz
          subst hzp
          refine ⟨w, .inl ?_, hr.mono le0⟩
          unfold valAt
          have hkp' : (fnCx W (A.deeper (fnEnv fd.scope s.heap.objs.size a (fd.qualname ++ ".<locals>.") fd.code)) fd.scope s.heap.objs.size a (fd.qualname ++ ".<locals>.") fd.code).env.kindOf (Str.ofString p) = some .local := hpl
          rw [hkp']
          show bindL _ [(Str.ofString p, w)] _ (Str.ofString p) = some w
          unfold bindL bindL
          rw [if_pos hkp]; simp
        · rw [if_neg hzp] at hz; cases hz
      · intro z sl b hz ho
        simp only [find] at hz
        split at hz
        · cases hz; cases ho
        · cases hz
      · intro z y sl sl' b hz _ ho
        simp only [find] at hz
        split at hz
        · cases hz; cases ho
        · cases hz
  refine wpAny_mono (walk _ _ _ okn _ _ _ hP1 habs) ?_ fun _ _ x => x.elim
  rintro f s2 ⟨fl, σ2, m2, T2, hK, ⟨p1, p2, p3⟩, a2, r2⟩
  have hs2 : ∃ h' tk, s2 = { s with heap := h', toks := tk } := by
    obtain ⟨h', tk', rfl⟩ := p1
    exact ⟨h', tk', rfl⟩
  have hkeep : ∀ b o, b ≠ P → s.heap.get? b = some o → s2.heap.get? b = some o := fun b o hb e => view_of (p2.ob b o (le0.ob b o (view_mk (fun hm => hb (List.mem_singleton.mp hm)) e)))
  cases r2 with
  | next => cases hK
  | brk => cases hK
  | cont => cases hK
  | ret r =>
    have hK : _ = V.bool true := hK
    subst hK
    cases r
    exact hQ s2 hs2 hkeep p3
end Sx
end
section
open PySem PySem.W PyProof.Rows PySem.Calls
set_option Elab.async false
set_option maxRecDepth 100000
set_option maxHeartbeats 8000000
set_option compiler.extract_closed false
set_option linter.unusedVariables false
namespace Sx
/-- what stands behind a proof of its own texts gets no twin -/
def gate {p : Prop} (_ : p) (s : Stmt) : Stmt := s
def s09_0 : Stmt := by
  refine (?f : (s : Stmt) → ((PySem.Challenge.pw_kp0118_09.main.body.drop 0).head? = some s) → Stmt) _ rfl
  exact fun s _ => gate (p := (Str.ofString "q").cps.size = 1) rfl s
def s09_1 : Stmt := by
  refine (?f : (s : Stmt) → ((PySem.Challenge.pw_kp0118_09.main.body.drop 1).head? = some s) → Stmt) _ rfl
  exact fun s _ => gate (p := (Str.ofString "q").cps.size = 1) rfl s
def s09_2 : Stmt := by
  refine (?f : (s : Stmt) → ((PySem.Challenge.pw_kp0118_09.main.body.drop 2).head? = some s) → Stmt) _ rfl
  exact fun s _ => gate (p := (Str.ofString "q").cps.size = 1) rfl s
def s09_3 : Stmt := by
  refine (?f : (s : Stmt) → ((PySem.Challenge.pw_kp0118_09.main.body.drop 3).head? = some s) → Stmt) _ rfl
  exact fun s _ => gate (p := (Str.ofString "q").cps.size = 1) rfl s
def s09_4 : Stmt := by
  refine (?f : (s : Stmt) → ((PySem.Challenge.pw_kp0118_09.main.body.drop 4).head? = some s) → Stmt) _ rfl
  exact fun s _ => gate (p := (Str.ofString "q").cps.size = 1) rfl s
def s09_5 : Stmt := by
  refine (?f : (s : Stmt) → ((PySem.Challenge.pw_kp0118_09.main.body.drop 5).head? = some s) → Stmt) _ rfl
  exact fun s _ => gate (p := (Str.ofString "q").cps.size = 1) rfl s
def s09_6 : Stmt := by
  refine (?f : (s : Stmt) → ((PySem.Challenge.pw_kp0118_09.main.body.drop 6).head? = some s) → Stmt) _ rfl
  exact fun s _ => gate (p := (Str.ofString "q").cps.size = 1) rfl s
def p09 : Program := by
  refine (?f : (sc : Scope) → (fl : Str) → (gv : Given) → (PySem.Challenge.pw_kp0118_09 = ⟨⟨[s09_0, s09_1, s09_2, s09_3, s09_4, s09_5, s09_6], sc, false, fl, []⟩, [], [], [], [], gv⟩) → Program) _ _ _ rfl
  exact fun sc fl gv _ => ⟨⟨[s09_0, s09_1, s09_2, s09_3, s09_4, s09_5, s09_6], sc, false, fl, []⟩, [], [], [], [], gv⟩
def r09 : OpenLaw := by
  refine (?f : (nm : Str) → (ab : List Str) → (ft : Nat) → (ms bd : Option Nat) → (wr : Bool) → (PySem.Challenge.rw_kp0118_09 = ⟨p09, nm, ab, ft, ms, bd, wr⟩) → OpenLaw) _ _ _ _ _ _ rfl
  exact fun nm ab ft ms bd wr _ => ⟨p09, nm, ab, ft, ms, bd, wr⟩
noncomputable def mkFn09 (s : Stmt) (df : Value) (md : Str) (tk : Nat) (c : Addr) : Obj := match s with
  | .FunctionDef nm args body _ _ _ sc _ _ _ => { cls := Value.type "function", data := Data.func { name := nm, qualname := nm, params := args, body := FuncBody.stmts body, scope := sc, globals := 3, closure := [], defaults := df, kwdefaults := Value.none, pyModule := Value.str md tk, code := Value.ref c } }
  | _ => default
noncomputable def o09_2 (P : Params) : Obj := { cls := Value.none, data := Data.dict #[] }
noncomputable def o09_3 (P : Params) : Obj := { cls := Value.type "dict", data := Data.dict #[{ hash := PyData.keyHash P (Str.ofString "__name__"), key := Value.str (Str.ofString "__name__") 165, val := Value.str (Str.ofString "law_kp0118_09") 207 }, { hash := PyData.keyHash P (Str.ofString "__doc__"), key := Value.str (Str.ofString "__doc__") 166, val := Value.none }, { hash := PyData.keyHash P (Str.ofString "__package__"), key := Value.str (Str.ofString "__package__") 167, val := Value.none }, { hash := PyData.keyHash P (Str.ofString "__loader__"), key := Value.str (Str.ofString "__loader__") 168, val := Value.builtin "__main__.__loader__#opaque" }, { hash := PyData.keyHash P (Str.ofString "__spec__"), key := Value.str (Str.ofString "__spec__") 169, val := Value.none }, { hash := PyData.keyHash P (Str.ofString "__annotations__"), key := Value.str (Str.ofString "__annotations__") 170, val := Value.ref 6 }, { hash := PyData.keyHash P (Str.ofString "__builtins__"), key := Value.str (Str.ofString "__builtins__") 171, val := Value.ref 4 }, { hash := PyData.keyHash P (Str.ofString "__file__"), key := Value.str (Str.ofString "__file__") 173, val := Value.str (Str.ofString "/claim/cut.py") 172 }, { hash := PyData.keyHash P (Str.ofString "__cached__"), key := Value.str (Str.ofString "__cached__") 174, val := Value.none }, { hash := PyData.keyHash P (Str.ofString "dict_replace_saxutils"), key := Value.str (Str.ofString "dict_replace_saxutils") 198, val := Value.ref 21 }, { hash := PyData.keyHash P (Str.ofString "escape"), key := Value.str (Str.ofString "escape") 206, val := Value.ref 30 }, { hash := PyData.keyHash P (Str.ofString "_law_words"), key := Value.str (Str.ofString "_law_words") 218, val := Value.ref 37 }, { hash := PyData.keyHash P (Str.ofString "_law_alike"), key := Value.str (Str.ofString "_law_alike") 227, val := Value.ref 44 }, { hash := PyData.keyHash P (Str.ofString "law"), key := Value.str (Str.ofString "law") 233, val := Value.ref 49 }] 14 }
noncomputable def o09_20 (P : Params) : Obj := { cls := Value.type "code", data := Data.fields #[Value.str (Str.ofString "dict_replace_saxutils") 189, Value.str (Str.ofString "dict_replace_saxutils") 190, Value.str (Str.ofString "/claim/cut.py") 191, Value.int 2 0, Value.int 2 0, Value.int 0 0, Value.int 0 0, Value.int 3 0, Value.ref 15, Value.bool true, Value.int 181 0, Value.ref 16, Value.none, Value.ref 17, Value.ref 18, Value.ref 19, Value.int 196 0, Value.int 2 0, Value.str (Str.ofString "/claim/cut.py") 197] }
noncomputable def o09_21 (P : Params) : Obj := mkFn09 s09_1 (Value.none) (Str.ofString "cpy313.xml.sax.saxutils") 187 20
noncomputable def o09_22 (P : Params) : Obj := { cls := Value.type "dict", data := Data.dict #[] }
noncomputable def o09_23 (P : Params) : Obj := { cls := Value.type "tuple", data := Data.seq #[Value.ref 22] }
noncomputable def o09_29 (P : Params) : Obj := { cls := Value.type "code", data := Data.fields #[Value.str (Str.ofString "escape") 199, Value.str (Str.ofString "escape") 200, Value.str (Str.ofString "/claim/cut.py") 201, Value.int 6 0, Value.int 2 0, Value.int 0 0, Value.int 0 0, Value.int 3 0, Value.ref 24, Value.bool true, Value.int 181 0, Value.ref 25, Value.none, Value.ref 26, Value.ref 27, Value.ref 28, Value.int 204 0, Value.int 6 0, Value.str (Str.ofString "/claim/cut.py") 205] }
noncomputable def o09_30 (P : Params) : Obj := mkFn09 s09_2 (Value.ref 23) (Str.ofString "cpy313.xml.sax.saxutils") 187 29
noncomputable def o09_36 (P : Params) : Obj := { cls := Value.type "code", data := Data.fields #[Value.str (Str.ofString "_law_words") 209, Value.str (Str.ofString "_law_words") 210, Value.str (Str.ofString "/claim/cut.py") 211, Value.int 14 0, Value.int 1 0, Value.int 0 0, Value.int 0 0, Value.int 3 0, Value.ref 31, Value.bool true, Value.int 181 0, Value.ref 32, Value.none, Value.ref 33, Value.ref 34, Value.ref 35, Value.int 216 0, Value.int 14 0, Value.str (Str.ofString "/claim/cut.py") 217] }
noncomputable def o09_37 (P : Params) : Obj := mkFn09 s09_4 (Value.none) (Str.ofString "law_kp0118_09") 207 36
noncomputable def o09_43 (P : Params) : Obj := { cls := Value.type "code", data := Data.fields #[Value.str (Str.ofString "_law_alike") 219, Value.str (Str.ofString "_law_alike") 220, Value.str (Str.ofString "/claim/cut.py") 221, Value.int 23 0, Value.int 2 0, Value.int 0 0, Value.int 0 0, Value.int 3 0, Value.ref 38, Value.bool true, Value.int 181 0, Value.ref 39, Value.none, Value.ref 40, Value.ref 41, Value.ref 42, Value.int 225 0, Value.int 23 0, Value.str (Str.ofString "/claim/cut.py") 226] }
noncomputable def o09_44 (P : Params) : Obj := mkFn09 s09_5 (Value.none) (Str.ofString "law_kp0118_09") 207 43
noncomputable def o09_48 (P : Params) : Obj := { cls := Value.type "code", data := Data.fields #[Value.str (Str.ofString "law") 228, Value.str (Str.ofString "law") 229, Value.str (Str.ofString "/claim/cut.py") 230, Value.int 28 0, Value.int 1 0, Value.int 0 0, Value.int 0 0, Value.int 3 0, Value.ref 45, Value.bool true, Value.int 181 0, Value.ref 46, Value.none, Value.none, Value.none, Value.ref 47, Value.int 231 0, Value.int 28 0, Value.str (Str.ofString "/claim/cut.py") 232] }
noncomputable def o09_49 (P : Params) : Obj := mkFn09 s09_6 (Value.none) (Str.ofString "law_kp0118_09") 207 48
noncomputable def K09 : Params → Frag := fun P =>
  [(2, o09_2 P), (3, o09_3 P), (20, o09_20 P), (21, o09_21 P), (22, o09_22 P), (23, o09_23 P), (29, o09_29 P), (30, o09_30 P), (36, o09_36 P), (37, o09_37 P), (43, o09_43 P), (44, o09_44 P), (48, o09_48 P), (49, o09_49 P)]
set_option maxRecDepth 100000 in
theorem rw_eq09 : PySem.Challenge.rw_kp0118_09 = r09 := rfl
/-! addresses: [2, 3, 20, 21, 22, 23, 29, 30, 36, 37, 43, 44, 48, 49] -/
end Sx
end
section
open PySem PySem.W PyProof.Rows
set_option linter.unusedVariables false
set_option Elab.async false
set_option maxRecDepth 100000
namespace Sx
noncomputable def alike : S → S → Nat
  | a :: x, b :: y => if a = b then alike x y + 1 else 0
  | _, _ => 0
theorem alike_nil (y : S) : alike [] y = 0 := by unfold alike; rfl
theorem alike_nil' (x : S) : alike x [] = 0 := by cases x <;> rfl
theorem alike_cons (a b : Nat) (x y : S) : alike (a :: x) (b :: y) = if a = b then alike x y + 1 else 0 := rfl
noncomputable def sgn09 : S := lit " &<>\"'%(\n\t;a#zlé!"
noncomputable def base09 : List S := [lit "&", lit "'", lit "%", lit "<<", lit "<&", lit "&lt;", lit ""]
noncomputable def step09 (ws : List S) (k : Nat) : List S := if k = 0 then ws ++ [[]] else ws.set (ws.length - 1) (ws.getD (ws.length - 1) [] ++ [sgn09.getD k 0])
noncomputable def words09 (xs : List Int) : List S := xs.foldl (fun ws x => step09 ws (x.fmod 17).toNat) base09
theorem step09_len (ws : List S) (k : Nat) : ws.length ≤ (step09 ws k).length ∧ (step09 ws k).length ≤ ws.length + 1 := by
  unfold step09; split
  · simp
  · simp
theorem words09_snoc (xs : List Int) (x : Int) : words09 (xs ++ [x]) = step09 (words09 xs) (x.fmod 17).toNat := by simp [words09]
theorem sgn09_get {k : Nat} (h : k < 17) : sgn09[k]? = some (sgn09.getD k 0) := by
  have hl : sgn09.length = 17 := by rfl
  rw [List.getD_eq_getElem?_getD, List.getElem?_eq_getElem (by omega)]; rfl
end Sx
namespace Sx
noncomputable def idx09 (row : S) (c : Nat) : Nat := row.idxOf c
noncomputable def key1 (row : S) (c : Nat) : Int := if c ∈ row then 304 + (row.idxOf c : Int) else 8 * (c : Int)
noncomputable def key09 (row l : S) : List Int := l.map (key1 row)
noncomputable def row09 (q : Nat) : S := [lit "&><", lit "'&><\"", lit "&><\n\"\t"].getD q []
noncomputable def tab09 (q : Nat) : List (S × S) := [[], [(lit "'", lit "&#x27;"), (lit "\"", lit "&quot;"), (lit "<", lit "&less;")], [(lit "\n", lit "&nl;"), (lit "\t", lit "&tab;"), (lit "\"", lit "&quot;"), (lit "<", lit "&less;")]].getD q []
noncomputable def siz09 (q : Nat) : List Int := [[5, 4, 4], [6, 5, 4, 4, 6], [5, 4, 4, 4, 6, 5]].getD q []
noncomputable def q09 (xs : List Int) : Nat := ((xs.map fun x : Int => x.fdiv 17).sum.fmod 3).toNat
theorem hasSub_one (d : Nat) : ∀ x : S, hasSub [d] x = decide (d ∈ x)
  | [] => rfl
  | c :: r => by
    have ih := hasSub_one d r
    rw [Bool.eq_iff_iff, hasSub_iff, decide_eq_true_eq]
    rw [Bool.eq_iff_iff, hasSub_iff, decide_eq_true_eq] at ih
    constructor
    · rintro ⟨i, hi, hp⟩
      cases i with
      | zero =>
        have : (d == c && true) = true := hp
        rw [Bool.and_true, beq_iff_eq] at this
        rw [this]; exact List.mem_cons_self
      | succ i => exact List.mem_cons_of_mem _ (ih.mp ⟨i, by simpa using hi, by simpa using hp⟩)
    · intro hm
      rcases List.mem_cons.mp hm with rfl | hm
      · exact ⟨0, Nat.zero_le _, by simp⟩
      · obtain ⟨i, hi, hp⟩ := ih.mpr hm
        exact ⟨i + 1, by simpa using hi, by simpa using hp⟩
end Sx
end
section
open PySem PySem.W PyProof.Rows PySem.Calls
set_option linter.unusedVariables false
set_option Elab.async false
set_option maxRecDepth 100000
namespace Sx
open Builtin.Str StrLaws
theorem occ_done (x y : S) (l : List Nat) : ∀ (found : Array Nat) (free : Nat), found.size = 1 →
    (forIn (m := Id) l (found, free) (occBody (mkS x) (mkS y) x.length 1)).run.fst.toList = found.toList := by
  induction l with
  | nil => intro found free _; rfl
  | cons i l ih =>
    intro found free hs
    rw [List.forIn_cons]
    unfold occBody
    rw [if_neg (fun q => by have h : found.size < 1 := q.1.1.1; omega)]
    exact ih found free hs
theorem occ_first (x y : S) (l : List Nat) : ∀ (free : Nat), (∀ i ∈ l, i ≤ x.length) →
    (forIn (m := Id) l (#[], free) (occBody (mkS x) (mkS y) x.length 1)).run.fst.toList = (scan x y l free).take 1 := by
  induction l with
  | nil => intro free _; rfl
  | cons i l ih =>
    intro free hl
    have hi := occ_cond (y := y) (hl i List.mem_cons_self)
    have hl' := fun j hj => hl j (List.mem_cons_of_mem i hj)
    rw [List.forIn_cons]
    unfold occBody scan
    by_cases c : free ≤ i ∧ y.isPrefixOf (x.drop i) = true
    · rw [if_pos c, if_pos ⟨⟨⟨Nat.zero_lt_one, c.1⟩, (hi.mpr c.2).1⟩, (hi.mpr c.2).2⟩]
      exact occ_done x y l _ _ rfl
    · rw [if_neg c, if_neg fun q => c ⟨q.1.1.2, hi.mp ⟨q.1.2, q.2⟩⟩]
      exact ih free hl'
theorem scan_first {x : S} {c : Nat} : ∀ (r : S) (i : Nat), x.drop i = r → c ∈ r → (scan x [c] (List.range' i (r.length + 1)) 0).take 1 = [i + r.idxOf c]
  | [], i, hx, hc => by cases hc
  | d :: r, i, hx, hc => by
    have h2 := (drop_cons hx).2
    show (scan x [c] (i :: List.range' (i + 1) (r.length + 1)) 0).take 1 = _
    unfold scan
    rw [hx]
    by_cases e : c = d
    · subst e
      rw [if_pos ⟨Nat.zero_le _, by simp⟩]
      simp
    · rw [if_neg (fun q => e (by have := q.2; simpa using this)), scan_first r (i + 1) h2 (by rcases List.mem_cons.mp hc with h | h; exact absurd h e; exact h)]
      rw [List.idxOf_cons, show (d == c) = false from beq_eq_false_iff_ne.mpr (Ne.symm e)]
      simp; omega
theorem occ1 {x : S} {c : Nat} (hc : c ∈ x) : occurrences (mkS x) (mkS [c]) 0 (mkS x).length 1 = [x.idxOf c] := by
  rw [occ_eq, mkS_length, Nat.sub_zero]
  refine (occ_first x [c] (List.range' 0 (x.length + 1)) 0 (fun i hi => Nat.le_of_lt_succ (Nat.lt_of_lt_of_le (List.mem_range'_1.mp hi).2 (Nat.le_of_eq (Nat.zero_add _))))).trans ?_
  rw [scan_first x 0 rfl hc, Nat.zero_add]
section
variable {C : Cx}
theorem opL_index {x : S} {c : Nat} (hc : c ∈ x) {K : V → Prop} (h : K (.int (x.idxOf c))) : OpL C (Rep C.W) (fun ws => call (.builtin "str.index") ws) [.str x, .str [c]] K := fun own T s vs hO hr => by
  obtain ⟨_, _, rfl, r1, hr⟩ := hr.cons_inv
  obtain ⟨_, _, rfl, r2, hr⟩ := hr.cons_inv
  obtain rfl := hr.nil_inv
  obtain ⟨t, rfl, _⟩ := r1.str_inv
  obtain ⟨u, rfl, _⟩ := r2.str_inv
  exact PySem.SC.index (occ1 hc) (.int hO.tok h (Nat.le_succ _))
theorem opL_ord {c : Nat} {K : V → Prop} (h : K (.int c)) : OpL C (Rep C.W) (fun ws => call (.builtin "ord") ws) [.str [c]] K := fun own T s vs hO hr => by
  obtain ⟨_, _, rfl, r, hr⟩ := hr.cons_inv
  obtain rfl := hr.nil_inv
  obtain ⟨t, rfl, _⟩ := r.str_inv
  exact PySem.P.ord_of_char (.int hO.tok h (Nat.le_succ _))
end
end Sx
end
section
open PySem PySem.W PyProof.Rows PySem.Calls
set_option linter.unusedVariables false
set_option Elab.async false
set_option maxRecDepth 100000
namespace Sx
/-! plain Lean: one text after the other, keys of one sign -/
theorem flatMap_congrN {α β : Type} {f g : α → List β} {l : List α} (h : ∀ x ∈ l, f x = g x) : l.flatMap f = l.flatMap g := by
  induction l with
  | nil => rfl
  | cons a r ih => rw [List.flatMap_cons, List.flatMap_cons, h a List.mem_cons_self, ih fun x hx => h x (List.mem_cons_of_mem _ hx)]
theorem replK_1 (k : Nat) (z : S) : ∀ x : S, replK [k] z 0 x = x.flatMap fun c => if c = k then z else [c]
  | [] => by simp [replK]
  | c :: r => by
    rw [replK_0, List.flatMap_cons]
    have e : [k].isPrefixOf (c :: r) = decide (c = k) := by
      show (k == c && true) = _
      rw [Bool.and_true, Bool.eq_iff_iff]; simp; exact eq_comm
    rw [e]
    by_cases h : c = k
    · rw [if_pos (by simpa using h), if_pos h]
      show z ++ replK [k] z 0 r = _
      rw [replK_1 k z r]
    · rw [if_neg (by simpa using h), if_neg h, replK_1 k z r]; rfl
theorem repl_1 (k : Nat) (z x : S) : repl [k] z x = x.flatMap fun c => if c = k then z else [c] := by
  unfold repl; rw [if_neg (by simp)]; exact replK_1 k z x
theorem flatM_le {f : Nat → S} {k : Nat} (h : ∀ c, (f c).length ≤ k) : ∀ x : S, (x.flatMap f).length ≤ x.length * k
  | [] => by simp
  | c :: r => by
    have h1 := flatM_le h r
    have h2 := h c
    rw [List.flatMap_cons, List.length_append, List.length_cons, Nat.succ_mul]
    omega
theorem repl_1_le (c : Nat) {z : S} {k : Nat} (h1 : 1 ≤ k) (hz : z.length ≤ k) (x : S) : (repl [c] z x).length ≤ x.length * k := by
  rw [repl_1]
  have h : ∀ d, (if d = c then z else [d]).length ≤ k := by
    intro d
    by_cases h : d = c
    · rw [if_pos h]; exact hz
    · rw [if_neg h]; exact h1
  exact flatM_le h x
noncomputable def One (p : S × S) : Prop := ∃ c, p.1 = [c]
theorem reps_flatMap : ∀ (ws : List (S × S)), (∀ w ∈ ws, One w) → ∀ x : S, reps ws x = x.flatMap fun c => reps ws [c]
  | [], _, x => by
    show x = x.flatMap fun c => [c]
    induction x with
    | nil => rfl
    | cons c r ih => rw [List.flatMap_cons, ← ih]; rfl
  | (k, z) :: r, h, x => by
    obtain ⟨c, hc⟩ := h (k, z) List.mem_cons_self
    have hc : k = [c] := hc
    subst hc
    have ih := reps_flatMap r fun w hw => h w (List.mem_cons_of_mem _ hw)
    show reps r (repl [c] z x) = _
    rw [ih, repl_1, List.flatMap_assoc]
    refine flatMap_congrN fun d _ => ?_
    show _ = reps r (repl [c] z [d])
    rw [repl_1, ih]
    simp
theorem reps_inert : ∀ (ws : List (S × S)) (c : Nat), (∀ w ∈ ws, One w ∧ w.1 ≠ [c]) → reps ws [c] = [c]
  | [], _, _ => rfl
  | (k, z) :: r, c, h => by
    obtain ⟨⟨d, hd⟩, hn⟩ := h (k, z) List.mem_cons_self
    have hd : k = [d] := hd
    subst hd
    have hn : c ≠ d := fun e => hn (by rw [e])
    show reps r (repl [d] z [c]) = [c]
    rw [repl_1]
    simp only [List.flatMap_cons, List.flatMap_nil, if_neg hn, List.append_nil]
    exact reps_inert r c fun w hw => h w (List.mem_cons_of_mem _ hw)
/-! signs and references -/
structure Code (E : Nat → S) (sp : Nat → Prop) : Prop where
  ref : ∀ c, sp c → ∃ w, E c = 38 :: w ∧ w ≠ [] ∧ ∀ d ∈ w, ¬ sp d
  bare : ∀ c, ¬ sp c → E c = [c]
  amp : sp 38
  pre : ∀ c d, sp c → sp d → E c <+: E d → c = d
theorem Code.ne {E : Nat → S} {sp : Nat → Prop} (h : Code E sp) (c : Nat) : E c ≠ [] := by
  by_cases hc : sp c
  · obtain ⟨w, e, _⟩ := h.ref c hc
    rw [e]; simp
  · rw [h.bare c hc]; simp
theorem Code.inj {E : Nat → S} {sp : Nat → Prop} (h : Code E sp) {c d : Nat} (hp : E c <+: E d) : c = d := by
  by_cases hc : sp c <;> by_cases hd : sp d
  · exact h.pre c d hc hd hp
  · obtain ⟨w, e, hw, _⟩ := h.ref c hc
    rw [e, h.bare d hd] at hp
    obtain ⟨v, hv⟩ := hp
    injection hv with _ hv
    exact absurd (List.append_eq_nil_iff.mp hv).1 hw
  · obtain ⟨w, e, hw, _⟩ := h.ref d hd
    rw [e, h.bare c hc] at hp
    obtain ⟨v, hv⟩ := hp
    injection hv with hv _
    exact absurd (by rw [hv]; exact h.amp) hc
  · rw [h.bare c hc, h.bare d hd] at hp
    obtain ⟨v, hv⟩ := hp
    injection hv with hv _
theorem Code.prefix {E : Nat → S} {sp : Nat → Prop} (h : Code E sp) : ∀ (p t : S), p.flatMap E <+: t.flatMap E ↔ p <+: t
  | [], t => by simp
  | c :: p, [] => by
    simp only [List.flatMap_cons, List.flatMap_nil, List.prefix_nil, List.append_eq_nil_iff]
    constructor
    · intro e; exact absurd e.1 (h.ne c)
    · intro e; cases e
  | c :: p, d :: t => by
    rw [List.flatMap_cons, List.flatMap_cons, List.cons_prefix_cons]
    constructor
    · intro hp
      have h1 : E c <+: E d ++ t.flatMap E := (List.prefix_append _ _).trans hp
      have h2 : E d <+: E d ++ t.flatMap E := List.prefix_append _ _
      have hcd : c = d := by
        rcases List.prefix_or_prefix_of_prefix h1 h2 with h3 | h3
        · exact h.inj h3
        · exact (h.inj h3).symm
      subst hcd
      exact ⟨rfl, (h.prefix p t).mp ((List.prefix_append_right_inj (E c)).mp hp)⟩
    · rintro ⟨rfl, hp⟩
      exact (List.prefix_append_right_inj (E c)).mpr ((h.prefix p t).mpr hp)
/-- behind a row of bare signs -/
theorem Code.rest {E : Nat → S} {sp : Nat → Prop} (h : Code E sp) (t : S) : ∀ (w p : S), (∀ d ∈ w, ¬ sp d) →
    (p.flatMap E <+: w ++ t.flatMap E ↔ w.take p.length = p.take w.length ∧ t.take (p.drop w.length).length = p.drop w.length)
  | [], p, _ => by
    rw [List.nil_append, h.prefix]
    simp only [List.take_nil, List.length_nil, List.take_zero, List.drop_zero, true_and]
    rw [List.prefix_iff_eq_take]; exact eq_comm
  | x :: w, [], _ => by simp
  | x :: w, c :: p, hw => by
    have ih := h.rest t w p fun d hd => hw d (List.mem_cons_of_mem _ hd)
    have hx := hw x List.mem_cons_self
    simp only [List.flatMap_cons, List.cons_append, List.length_cons, List.take_succ_cons, List.drop_succ_cons, List.cons.injEq]
    by_cases hc : sp c
    · obtain ⟨v, e, _, _⟩ := h.ref c hc
      rw [e, List.cons_append, List.cons_prefix_cons]
      constructor
      · rintro ⟨e, _⟩; exact absurd (by rw [← e]; exact h.amp) hx
      · rintro ⟨⟨e, _⟩, _⟩; exact absurd (by rw [e]; exact hc) hx
    · rw [h.bare c hc, List.cons_append, List.nil_append, List.cons_prefix_cons, ih]
      constructor
      · rintro ⟨rfl, a, b⟩; exact ⟨⟨rfl, a⟩, b⟩
      · rintro ⟨⟨rfl, a⟩, b⟩; exact ⟨rfl, a, b⟩
end Sx
end
section
open PySem PySem.W PyProof.Rows
set_option linter.unusedVariables false
set_option Elab.async false
set_option maxRecDepth 100000
namespace Sx
noncomputable def escL09 (k : Nat) : List (S × S) := (lit "&", lit "&amp;") :: (lit ">", lit "&gt;") :: (lit "<", lit "&lt;") :: tab09 k
noncomputable def esc09 (k : Nat) (x : S) : S := reps (escL09 k) x
/-- what the signs of a row come out as: the & and a first letter of its own, rising with the row -/
structure Rise (row : S) (E : Nat → S) : Prop where
  bare : ∀ c, c ∉ row → E c = [c]
  ref : ∀ c, c ∈ row → ∃ a r, E c = 38 :: a :: r
  up : ∀ c d, c ∈ row → d ∈ row → row.idxOf c < row.idxOf d → (E c).getD 1 0 < (E d).getD 1 0
  amp : 38 ∈ row
  short : row.length ≤ 8
theorem alike_app {a b : Nat} (h : a ≠ b) (r s : S) : ∀ p : S, alike (p ++ a :: r) (p ++ b :: s) = p.length
  | [] => by rw [List.nil_append, List.nil_append, alike_cons, if_neg h]; rfl
  | c :: p => by rw [List.cons_append, List.cons_append, alike_cons, if_pos rfl, alike_app h r s p]; rfl
theorem alike_pre (u v : S) : ∀ p : S, alike (p ++ u) (p ++ v) = p.length + alike u v
  | [] => by rw [List.nil_append, List.nil_append, List.length_nil, Nat.zero_add]
  | c :: p => by rw [List.cons_append, List.cons_append, alike_cons, if_pos rfl, alike_pre u v p, List.length_cons]; omega
theorem app_lt (u v : S) : ∀ p : S, p ++ u < p ++ v ↔ u < v
  | [] => Iff.rfl
  | c :: p => by
    rw [List.cons_append, List.cons_append, List.cons_lt_cons_iff]
    exact ⟨fun h => h.elim (fun q => absurd q (Nat.lt_irrefl _)) fun q => (app_lt u v p).mp q.2, fun h => .inr ⟨rfl, (app_lt u v p).mpr h⟩⟩
theorem idx_inj {row : S} {c d : Nat} (hc : c ∈ row) (h : row.idxOf c = row.idxOf d) : c = d := by
  have h1 := List.idxOf_lt_length_of_mem hc
  have h2 := List.getElem_idxOf h1
  have h3 := List.getElem_idxOf (show row.idxOf d < row.length from h ▸ h1)
  rw [← h2, ← h3]; congr 1
section
variable {row : S} {E : Nat → S} (R : Rise row E)
include R
theorem Rise.key_ne {c d : Nat} (h : c ≠ d) : key1 row c ≠ key1 row d := by
  have hs := R.short
  unfold key1
  by_cases hc : c ∈ row <;> by_cases hd : d ∈ row
  · rw [if_pos hc, if_pos hd]
    exact fun q => h (idx_inj hc (by omega))
  · have h1 := List.idxOf_lt_length_of_mem hc
    have h2 : d ≠ 38 := fun e => hd (e ▸ R.amp)
    rw [if_pos hc, if_neg hd]; omega
  · have h1 := List.idxOf_lt_length_of_mem hd
    have h2 : c ≠ 38 := fun e => hc (e ▸ R.amp)
    rw [if_neg hc, if_pos hd]; omega
  · rw [if_neg hc, if_neg hd]; omega
/-- where two signs part -/
theorem Rise.part {c d : Nat} (h : key1 row c < key1 row d) : ∃ p a b r s, E c = p ++ a :: r ∧ E d = p ++ b :: s ∧ a < b ∧ p.length = if c ∈ row ∧ d ∈ row then 1 else 0 := by
  have hs := R.short
  unfold key1 at h
  by_cases hc : c ∈ row <;> by_cases hd : d ∈ row
  · rw [if_pos hc, if_pos hd] at h
    obtain ⟨a, r, e1⟩ := R.ref c hc
    obtain ⟨b, s, e2⟩ := R.ref d hd
    have h3 := R.up c d hc hd (by omega)
    rw [e1, e2] at h3
    exact ⟨[38], a, b, r, s, e1, e2, h3, by rw [if_pos ⟨hc, hd⟩]; rfl⟩
  · rw [if_pos hc, if_neg hd] at h
    have h1 := List.idxOf_lt_length_of_mem hc
    have h2 : d ≠ 38 := fun e => hd (e ▸ R.amp)
    obtain ⟨a, r, e1⟩ := R.ref c hc
    exact ⟨[], 38, d, a :: r, [], e1, R.bare d hd, by omega, by rw [if_neg fun q => hd q.2]; rfl⟩
  · rw [if_neg hc, if_pos hd] at h
    have h1 := List.idxOf_lt_length_of_mem hd
    have h2 : c ≠ 38 := fun e => hc (e ▸ R.amp)
    obtain ⟨a, r, e1⟩ := R.ref d hd
    exact ⟨[], c, 38, [], a :: r, R.bare c hc, e1, by omega, by rw [if_neg fun q => hc q.1]; rfl⟩
  · rw [if_neg hc, if_neg hd] at h
    exact ⟨[], c, d, [], [], R.bare c hc, R.bare d hd, by omega, by rw [if_neg fun q => hc q.1]; rfl⟩
theorem Rise.mono : ∀ x y : S, ¬ key09 row y < key09 row x → ¬ y.flatMap E < x.flatMap E
  | [], y, _ => List.not_lt_nil _
  | c :: x, [], h => absurd (List.nil_lt_cons _ _) h
  | c :: x, d :: y, h => by
    have h : ¬ (key1 row d :: key09 row y < key1 row c :: key09 row x) := h
    rw [List.cons_lt_cons_iff] at h
    rw [List.flatMap_cons, List.flatMap_cons]
    by_cases e : c = d
    · subst e
      have ih := Rise.mono x y fun q => h (.inr ⟨rfl, q⟩)
      intro q
      exact ih ((app_lt _ _ _).mp q)
    · have hlt : key1 row c < key1 row d := by
        have := R.key_ne e
        have : ¬ key1 row d < key1 row c := fun q => h (.inl q)
        omega
      obtain ⟨p, a, b, r, s, e1, e2, hab, _⟩ := R.part hlt
      rw [e1, e2, List.append_assoc, List.append_assoc, app_lt, List.cons_append, List.cons_append, List.cons_lt_cons_iff]
      omega
theorem Rise.alike : ∀ x y : S, Sx.alike (x.flatMap E) (y.flatMap E) = ((y.take (Sx.alike x y)).map fun c => (E c).length).sum + (match x[Sx.alike x y]?, y[Sx.alike x y]? with | some c, some d => if c ∈ row ∧ d ∈ row then 1 else 0 | _, _ => 0)
  | [], y => by rw [List.flatMap_nil, alike_nil, alike_nil]; rfl
  | c :: x, [] => by rw [List.flatMap_nil, alike_nil', alike_nil']; rfl
  | c :: x, d :: y => by
    rw [List.flatMap_cons, List.flatMap_cons, alike_cons]
    by_cases e : c = d
    · subst e
      rw [if_pos rfl, alike_pre, Rise.alike x y, List.take_succ_cons, List.map_cons, List.sum_cons, List.getElem?_cons_succ, List.getElem?_cons_succ, Nat.add_assoc]
    · rw [if_neg e, List.take_zero, List.map_nil, List.sum_nil, Nat.zero_add, List.getElem?_cons_zero, List.getElem?_cons_zero]
      show _ = if c ∈ row ∧ d ∈ row then 1 else 0
      have := R.key_ne e
      by_cases hlt : key1 row c < key1 row d
      · obtain ⟨p, a, b, r, s, e1, e2, hab, hp⟩ := R.part hlt
        rw [e1, e2, List.append_assoc, List.append_assoc, List.cons_append, List.cons_append, alike_app (Nat.ne_of_lt hab), hp]
      · obtain ⟨p, a, b, r, s, e1, e2, hab, hp⟩ := R.part (show key1 row d < key1 row c by omega)
        rw [e1, e2, List.append_assoc, List.append_assoc, List.cons_append, List.cons_append, alike_app (Nat.ne_of_gt hab), hp]
        by_cases hc : c ∈ row <;> by_cases hd : d ∈ row <;> simp [hc, hd]
end
theorem alike_le : ∀ x y : S, alike x y ≤ x.length ∧ alike x y ≤ y.length
  | [], y => by rw [alike_nil]; exact ⟨Nat.zero_le _, Nat.zero_le _⟩
  | c :: x, [] => by rw [alike_nil']; exact ⟨Nat.zero_le _, Nat.zero_le _⟩
  | c :: x, d :: y => by
    rw [alike_cons]
    have := alike_le x y
    split
    · exact ⟨Nat.succ_le_succ this.1, Nat.succ_le_succ this.2⟩
    · exact ⟨Nat.zero_le _, Nat.zero_le _⟩
theorem alike_in {row : S} : ∀ x y : S, ¬ key09 row y < key09 row x → alike x y < x.length → alike x y < y.length
  | [], y, _, h => absurd h (Nat.not_lt_zero _)
  | c :: x, [], h, _ => absurd (List.nil_lt_cons _ _) h
  | c :: x, d :: y, h, hl => by
    have h : ¬ (key1 row d :: key09 row y < key1 row c :: key09 row x) := h
    rw [List.cons_lt_cons_iff] at h
    rw [alike_cons] at hl ⊢
    split
    · rename_i e
      subst e
      rw [if_pos rfl] at hl
      exact Nat.succ_lt_succ (alike_in x y (fun q => h (.inr ⟨rfl, q⟩)) (Nat.lt_of_succ_lt_succ hl))
    · exact Nat.succ_pos _
/-! the three tables -/
noncomputable def E09 (k : Nat) (c : Nat) : S := esc09 k [c]
theorem one09 : ∀ {k : Nat}, k < 3 → ∀ w ∈ escL09 k, One w := by
  intro k hk
  have : (escL09 k).all (fun w => w.1.length == 1) = true := by match k, hk with | 0, _ => decide +kernel | 1, _ => decide +kernel | 2, _ => decide +kernel
  intro w hw
  have h := List.all_eq_true.mp this w hw
  exact List.length_eq_one_iff.mp (by simpa using h)
theorem esc09_flat {k : Nat} (hk : k < 3) (x : S) : esc09 k x = x.flatMap (E09 k) := reps_flatMap _ (one09 hk) x
theorem rise09 {k : Nat} (hk : k < 3) : Rise (row09 k) (E09 k) := by
  have h1 : (escL09 k).all (fun w => (row09 k).any fun c => w.1 == [c]) = true := by match k, hk with | 0, _ => decide +kernel | 1, _ => decide +kernel | 2, _ => decide +kernel
  have h2 : (row09 k).all (fun c => (E09 k c).take 1 == [38] && decide (2 ≤ (E09 k c).length) && (row09 k).all fun d => decide ((row09 k).idxOf c < (row09 k).idxOf d → (E09 k c).getD 1 0 < (E09 k d).getD 1 0)) = true := by match k, hk with | 0, _ => decide +kernel | 1, _ => decide +kernel | 2, _ => decide +kernel
  rw [List.all_eq_true] at h1 h2
  refine ⟨fun c hc => reps_inert _ c fun w hw => ⟨one09 hk w hw, fun e => ?_⟩, fun c hc => ?_, fun c d hc hd hlt => ?_, ?_, ?_⟩
  · obtain ⟨d, hd, e2⟩ := List.any_eq_true.mp (h1 w hw)
    have e2 := eq_of_beq e2
    rw [e] at e2
    injection e2 with e2
    exact hc (e2 ▸ hd)
  · have := h2 c hc
    simp only [Bool.and_eq_true, beq_iff_eq, decide_eq_true_eq] at this
    obtain ⟨⟨h3, h4⟩, _⟩ := this
    match E09 k c, h3, h4 with
    | a :: b :: r, h3, _ => injection h3 with h3; exact ⟨b, r, by rw [h3]⟩
  · have := h2 c hc
    simp only [Bool.and_eq_true, beq_iff_eq, decide_eq_true_eq] at this
    exact of_decide_eq_true (List.all_eq_true.mp this.2 d hd) hlt
  · match k, hk with | 0, _ => decide +kernel | 1, _ => decide +kernel | 2, _ => decide +kernel
  · match k, hk with | 0, _ => decide +kernel | 1, _ => decide +kernel | 2, _ => decide +kernel
theorem size09 {k : Nat} (hk : k < 3) {c : Nat} (hc : c ∈ row09 k) : ∃ i, (row09 k).idxOf c = i ∧ (siz09 k)[i]? = some ((E09 k c).length : Int) := by
  have h : (row09 k).all (fun c => decide ((siz09 k)[(row09 k).idxOf c]? = some ((E09 k c).length : Int))) = true := by match k, hk with | 0, _ => decide +kernel | 1, _ => decide +kernel | 2, _ => decide +kernel
  exact ⟨_, rfl, of_decide_eq_true (List.all_eq_true.mp h c hc)⟩
theorem size09' {k : Nat} (hk : k < 3) {c : Nat} (hc : c ∉ row09 k) : (E09 k c).length = 1 := by rw [(rise09 hk).bare c hc]; rfl
/-- a row put in order is one row alone -/
theorem sorted_one {out due : List S} (hp : out.Perm due) (h1 : out.Pairwise fun x y => ¬ y < x) (h2 : due.Pairwise fun x y => ¬ y < x) : out = due :=
  hp.eq_of_pairwise (le := fun x y => ¬ y < x) (fun a b _ _ hab hba => List.le_antisymm hab hba) h1 h2
end Sx
end
section
open PySem PySem.W PyProof.Rows PySem.Calls
set_option linter.unusedVariables false
set_option Elab.async false
set_option maxRecDepth 100000
namespace Sx
local macro_rules | `(tactic| walk_at "sxf") => `(tactic| first | with_reducible assumption | with_reducible exact find_hit | ((with_reducible refine find_miss ?hm ?_); (case hm => rfl); walk_at "sxf") | rfl | (simp only [mkSt, List.zip_cons_cons, List.zip_nil_right, List.map_cons, List.map_nil, List.cons_append, List.nil_append, put_cons, put_nil, find_putS, find_cons, String.reduceEq, if_true, if_false] <;> first | rfl | assumption))
local macro_rules | `(tactic| walk_at "sxg") => `(tactic| first | assumption | decide | omega)
noncomputable abbrev F09 (w : World) : Frag := K09 w.params

structure In09 (C : Cx) : Prop where
  hF : (F09 C.W.w).In C.W.h₀
  hG : C.W.gls = [("dict_replace_saxutils", .ref 21), ("escape", .ref 30), ("_law_words", .ref 37), ("_law_alike", .ref 44), ("sum", .builtin "sum"), ("ord", .builtin "ord"), ("len", .builtin "len"), ("sorted", .builtin "sorted"), ("range", .type "range"), ("list", .type "list")]


theorem nb09 {C : Cx} (I : In09 C) : NoneBooked C.W.h₀ := ⟨fun _ => none, ⟨_, #[], _, I.hF 2 _ rfl, rfl, (by intro i h; simp at h), fun _ => rfl⟩, rfl⟩
theorem tabV_items (es : List (S × S)) : seqOf (.items (tabV es)) = some (es.map fun p => V.tup [.str p.1, .str p.2]) := by
  simp [seqOf, tabV, Key.v]

theorem c_dictrep {C : Cx} {n : Nat} (ok : C.Ok (n + 1)) (I : In09 C) {x : S} {es : List (S × S)} (h : RepOkG es x) :
    OpL C (Rep C.W) (fun ws => call (.ref 21) ws) [.str x, .dct (tabV es)] (fun v => v = .str (reps es x)) := by
  refine fn_call ok (fnAt_of (a := 21) I.hF (by rfl) (by rfl) (by rfl) (by rfl) (by rfl) (by rfl) (by rfl) (by rfl) (by rfl)) (ps := ["s", "d"]) (dvs := []) (ds := []) ?_ (fun _ _ _ _ => .nil) (by decide) (by rfl) fun A L q cd okn => ?_
  · exact fun s ws _ hl => binds_plain (n := 2) (fun ws hl => by
      obtain ⟨a, b, rfl⟩ := len2 hl
      rfl) s ws hl
  · refine exs_cons (ex_for okn ?_)
    refine ev_meth (ev_name okn (by walk_at "sxf") ?_) (by rfl) (by rfl) (by rfl) (by rfl)
    refine ⟨_, _, methOk_dct PySem.F.slot_dict_items PySem.F.type_dict_items, evL_nil (opL_items ⟨_, tabV_items es, rfl, ?_⟩)⟩
    refine loop_inv (fun xs σ => ∃ es' y, xs = es'.map (fun p => V.tup [.str p.1, .str p.2]) ∧ RepOkG es' y ∧ reps es' y = reps es x ∧ find σ (Str.ofString "s") = some (.val (.str y))) ?_ ?_ _ _ ⟨es, x, rfl, h, rfl, by walk_at "sxf"⟩
    · rintro v xs σ ⟨es', y, hxs, hr, he, hs⟩
      match es', hxs with
      | (k, z) :: es', hxs =>
        simp only [List.map_cons, List.cons.injEq] at hxs
        obtain ⟨rfl, rfl⟩ := hxs
        refine asg_tuple okn (asgL_cons (asg_name okn (by rfl) (asgL_cons (asg_name okn (by rfl) (asgL_nil ?_))))) (by rfl) (by rfl)
        refine exs_cons (ex_assign okn (by rfl) (by rfl) ?_)
        refine ev_meth (ev_name okn (by walk_at "sxf") ?_) (by rfl) (by rfl) (by rfl) (by rfl)
        refine ⟨_, _, methOk_str PySem.F.slot_str_replace PySem.F.type_str_replace, evL_cons (ev_name okn (by walk_at "sxf") ?_)⟩
        refine evL_cons (ev_name okn (by walk_at "sxf") (evL_nil (opL_replaceG (by exact nb09 ⟨I.hF, I.hG⟩) hr.1 ?_)))
        refine exs_nil ⟨es', _, rfl, hr.2, he, by walk_at "sxf"⟩
    · rintro σ ⟨es', y, hxs, hr, he, hs⟩
      have : es' = [] := by simpa using hxs.symm
      subst this
      have he : y = reps es x := he
      subst he
      refine exs_nil (exs_cons (ex_return (ev_name okn hs rfl)))


theorem esc_body {W : Wd} {A : Around} {L : Addr} {q : Str} {cd : Value} {n : Nat} (okn : (fnCx W A (fdAt (F09 W.w) 30).scope L 30 q cd).Ok (n + 1)) (I : In09 (fnCx W A (fdAt (F09 W.w) 30).scope L 30 q cd)) {x : S} {es : List (S × S)} (h : RepOkG (((lit "&"), lit "&amp;") :: (lit ">", lit "&gt;") :: (lit "<", lit "&lt;") :: es) x) (hl : es.length ≤ sizeLine) :
    Exs (fnCx W A (fdAt (F09 W.w) 30).scope L 30 q cd) (mkSt ["data", "entities"] [.str x, .dct (tabV es)]) (bdAt (F09 W.w) 30) (fun fl _ => fl.v = .str (reps (((lit "&"), lit "&amp;") :: (lit ">", lit "&gt;") :: (lit "<", lit "&lt;") :: es) x)) := by
  obtain ⟨a2, b2, c2, h4⟩ := h
  refine exs_cons (ex_assign okn (by rfl) (by rfl) ?_)
  ((with_reducible refine ev_meth ?_ ?h1_1 ?h2_1 ?h3_1 ?h4_1); (case h1_1 => rfl); (case h2_1 => rfl); (case h3_1 => rfl); (case h4_1 => rfl)); ((with_reducible refine ev_name (v := ?vv_2) (by assumption) ?hf_2 ?_ ?hn_2 ?hd_2); (case hf_2 => walk_at "sxf"); (case hn_2 => decide); (case hd_2 => decide))
  refine ⟨_, _, methOk_str PySem.F.slot_str_replace PySem.F.type_str_replace, ?_⟩
  ((with_reducible refine evL_cons ?_ ?hs_3); (case hs_3 => rfl)); ((with_reducible refine ev_str ?_)); ((with_reducible refine evL_cons ?_ ?hs_5); (case hs_5 => rfl)); ((with_reducible refine ev_str ?_)); ((with_reducible refine evL_nil ?_))
  refine opL_replaceG (by exact nb09 ⟨I.hF, I.hG⟩) a2 ?_
  refine exs_cons (ex_assign okn (by rfl) (by rfl) ?_)
  ((with_reducible refine ev_meth ?_ ?h1_8 ?h2_8 ?h3_8 ?h4_8); (case h1_8 => rfl); (case h2_8 => rfl); (case h3_8 => rfl); (case h4_8 => rfl)); ((with_reducible refine ev_name (v := ?vv_9) (by assumption) ?hf_9 ?_ ?hn_9 ?hd_9); (case hf_9 => walk_at "sxf"); (case hn_9 => decide); (case hd_9 => decide))
  refine ⟨_, _, methOk_str PySem.F.slot_str_replace PySem.F.type_str_replace, ?_⟩
  ((with_reducible refine evL_cons ?_ ?hs_10); (case hs_10 => rfl)); ((with_reducible refine ev_str ?_)); ((with_reducible refine evL_cons ?_ ?hs_12); (case hs_12 => rfl)); ((with_reducible refine ev_str ?_)); ((with_reducible refine evL_nil ?_))
  refine opL_replaceG (by exact nb09 ⟨I.hF, I.hG⟩) b2 ?_
  refine exs_cons (ex_assign okn (by rfl) (by rfl) ?_)
  ((with_reducible refine ev_meth ?_ ?h1_15 ?h2_15 ?h3_15 ?h4_15); (case h1_15 => rfl); (case h2_15 => rfl); (case h3_15 => rfl); (case h4_15 => rfl)); ((with_reducible refine ev_name (v := ?vv_16) (by assumption) ?hf_16 ?_ ?hn_16 ?hd_16); (case hf_16 => walk_at "sxf"); (case hn_16 => decide); (case hd_16 => decide))
  refine ⟨_, _, methOk_str PySem.F.slot_str_replace PySem.F.type_str_replace, ?_⟩
  ((with_reducible refine evL_cons ?_ ?hs_17); (case hs_17 => rfl)); ((with_reducible refine ev_str ?_)); ((with_reducible refine evL_cons ?_ ?hs_19); (case hs_19 => rfl)); ((with_reducible refine ev_str ?_)); ((with_reducible refine evL_nil ?_))
  refine opL_replaceG (by exact nb09 ⟨I.hF, I.hG⟩) c2 ?_
  refine exs_cons (ex_if (tst_val ?_))
  ((with_reducible refine ev_name (v := ?vv_22) (by assumption) ?hf_22 ?_ ?hn_22 ?hd_22); (case hf_22 => walk_at "sxf"); (case hn_22 => decide); (case hd_22 => decide))
  refine truthy_dict (by simpa [tabV] using hl) ⟨fun _ => ?_, fun he => ?_⟩
  · refine exs_cons (ex_assign okn (by rfl) (by rfl) ?_)
    refine ev_fn okn I.hG (by rfl) (by rfl) (callee_of (fnAt_of (a := 21) I.hF (by rfl) (by rfl) (by rfl) (by rfl) (by rfl) (by rfl) (by rfl) (by rfl) (by rfl))) ?_ (by rfl) (by rfl) (by decide)
    ((with_reducible refine evL_cons ?_ ?hs_23); (case hs_23 => rfl)); ((with_reducible refine ev_name (v := ?vv_24) (by assumption) ?hf_24 ?_ ?hn_24 ?hd_24); (case hf_24 => walk_at "sxf"); (case hn_24 => decide); (case hd_24 => decide)); ((with_reducible refine evL_cons ?_ ?hs_25); (case hs_25 => rfl)); ((with_reducible refine ev_name (v := ?vv_26) (by assumption) ?hf_26 ?_ ?hn_26 ?hd_26); (case hf_26 => walk_at "sxf"); (case hn_26 => decide); (case hd_26 => decide)); ((with_reducible refine evL_nil ?_))
    refine OpL.eq (c_dictrep okn ⟨I.hF, I.hG⟩ h4) ?_
    refine exs_nil (exs_cons (ex_return ?_))
    ((with_reducible refine ev_name (v := ?vv_28) (by assumption) ?hf_28 ?_ ?hn_28 ?hd_28); (case hf_28 => walk_at "sxf"); (case hn_28 => decide); (case hd_28 => decide)); rfl
  · refine exs_nil (exs_cons (ex_return ?_))
    ((with_reducible refine ev_name (v := ?vv_29) (by assumption) ?hf_29 ?_ ?hn_29 ?hd_29); (case hf_29 => walk_at "sxf"); (case hn_29 => decide); (case hd_29 => decide))
    have : es = [] := by
      cases es with
      | nil => rfl
      | cons => simp [tabV] at he
    subst this; rfl
theorem c_escape {C : Cx} {n : Nat} (ok : C.Ok (n + 2)) (I : In09 C) {x : S} {es : List (S × S)} (h : RepOkG (((lit "&"), lit "&amp;") :: (lit ">", lit "&gt;") :: (lit "<", lit "&lt;") :: es) x) (hl : es.length ≤ sizeLine) :
    OpL C (Rep C.W) (fun ws => call (.ref 30) ws) [.str x, .dct (tabV es)] (fun v => v = .str (reps (((lit "&"), lit "&amp;") :: (lit ">", lit "&gt;") :: (lit "<", lit "&lt;") :: es) x)) := by
  refine fn_call ok (fnAt_of (a := 30) I.hF (by rfl) (by rfl) (by rfl) (by rfl) (by rfl) (by rfl) (by rfl) (by rfl) (by rfl)) (ps := ["data", "entities"]) (dvs := []) (ds := []) ?_ (fun _ _ _ _ => .nil) (by decide) (by rfl) fun A L q cd okn => ?_
  · intro s ws hk hl
    rw [List.append_nil]
    obtain ⟨a, b, rfl⟩ := len2 hl
    exact BindsTo.of_defaults (T := 23) rfl (hk _ _ (I.hF 23 _ rfl)) rfl rfl rfl
  · exact esc_body okn ⟨I.hF, I.hG⟩ h hl

theorem c_alike {C : Cx} {n : Nat} (ok : C.Ok (n + 1)) (I : In09 C) {x y : S} (hx : x.length ≤ 100000) (hy : y.length ≤ 100000) :
    OpL C (Rep C.W) (fun ws => call (.ref 44) ws) [.str x, .str y] (fun v => v = .int (alike x y)) := by
  refine fn_callQ ok (fnAt_of (a := 44) I.hF (by rfl) (by rfl) (by rfl) (by rfl) (by rfl) (by rfl) (by rfl) (by rfl) (by rfl)) (ps := ["one", "other"]) (dvs := []) (ds := []) ?_ (fun _ _ _ _ => .nil) (by decide) (by rfl) fun A L q cd Q hQ okn => ?_
  · exact fun s ws _ hl => binds_plain (n := 2) (fun ws hl => by
      obtain ⟨a, b, rfl⟩ := len2 hl
      rfl) s ws hl
  have hG : (fnCx C.W A (fdAt (F09 C.W.w) 44).scope L 44 q cd).W.gls = _ := I.hG
  have hsz : sizeLine = 16777216 := sizeLine_eq
  ((refine exs_cons ?_); (with_reducible refine ex_assign (by assumption) ?hx_1 ?hs_1 ?_); (case hx_1 => kernel_rfl); (case hs_1 => exact swaps_no (by rfl)))
  ((with_reducible refine ev_int ?_))
  refine exs_cons ?_
  refine ex_whileQ okn (fun m σ => ∃ i : Nat, m = x.length - i ∧ i ≤ x.length ∧ i ≤ y.length ∧ alike x y = i + alike (x.drop i) (y.drop i) ∧ find σ (Str.ofString "k") = some (.val (.int i)) ∧ find σ (Str.ofString "one") = some (.val (.str x)) ∧ find σ (Str.ofString "other") = some (.val (.str y))) ?_ _ ⟨0, rfl, Nat.zero_le _, Nat.zero_le _, by simp, by walk_at "sxf", by walk_at "sxf", by walk_at "sxf"⟩
  rintro m σ Q1 Q2 hQ1 hQ2 ⟨i, rfl, h1, h2, h3, f1, f2, f3⟩
  ((with_reducible refine tst_bool ?_))
  have e1 : ∀ {h : i < x.length}, x[i]? = some x[i] := fun {h} => List.getElem?_eq_getElem h
  have out : alike (x.drop i) (y.drop i) = 0 → Exs (fnCx C.W A (fdAt (F09 C.W.w) 44).scope L 44 q cd) σ [] Q1 := fun h0 => by
    refine hQ1 _ (exs_nil ?_)
    ((refine exs_cons ?_); (with_reducible refine ex_return ?_))
    ((with_reducible refine ev_name (v := ?vv_5) (by assumption) ?hf_5 ?_ ?hn_5 ?hd_5); (case hf_5 => walk_at "sxf"); (case hn_5 => decide); (case hd_5 => decide))
    exact hQ _ _ (by rw [h3, h0, Nat.add_zero])
  refine allT_and ?_
  ((with_reducible refine tst_cmp ?_ ?hs_6); (case hs_6 => with_unfolding_all rfl); (with_reducible refine ev_name (v := ?vv_7) (by assumption) ?hf_7 ?_ ?hn_7 ?hd_7); (case hf_7 => walk_at "sxf"); (case hn_7 => decide); (case hd_7 => decide); (with_reducible refine ev_fn (w := ?ww_8) (L := ?LL_8) (by assumption) ?hGG_8 ?h1_8 ?h2_8 ?hc_8 ?_ ?h3_8 ?h4_8 ?h5_8); (case hGG_8 => assumption); (case h1_8 => kernel_rfl); (case h2_8 => rfl); (case hc_8 => exact .bi); (case h3_8 => rfl); (case h4_8 => rfl); (case h5_8 => decide); (with_reducible refine evL_cons ?_ ?hs_9); (case hs_9 => rfl); (with_reducible refine ev_name (v := ?vv_10) (by assumption) ?hf_10 ?_ ?hn_10 ?hd_10); (case hf_10 => walk_at "sxf"); (case hn_10 => decide); (case hd_10 => decide); (with_reducible refine evL_nil ?_); (with_reducible refine opL_len_str ?hg_12 ?_); (case hg_12 => walk_at "sxg"); (with_reducible refine op_lt_int ?_); (with_reducible refine exB ?_))
  refine ⟨fun hb => ?_, fun hb => ⟨fun _ => out ?_, fun hb => by cases hb⟩⟩
  · have hb1 : i < x.length := by have := of_decide_eq_true hb; omega
    refine allT_and ?_
    ((with_reducible refine tst_cmp ?_ ?hs_15); (case hs_15 => with_unfolding_all rfl); (with_reducible refine ev_name (v := ?vv_16) (by assumption) ?hf_16 ?_ ?hn_16 ?hd_16); (case hf_16 => walk_at "sxf"); (case hn_16 => decide); (case hd_16 => decide); (with_reducible refine ev_fn (w := ?ww_17) (L := ?LL_17) (by assumption) ?hGG_17 ?h1_17 ?h2_17 ?hc_17 ?_ ?h3_17 ?h4_17 ?h5_17); (case hGG_17 => assumption); (case h1_17 => kernel_rfl); (case h2_17 => rfl); (case hc_17 => exact .bi); (case h3_17 => rfl); (case h4_17 => rfl); (case h5_17 => decide); (with_reducible refine evL_cons ?_ ?hs_18); (case hs_18 => rfl); (with_reducible refine ev_name (v := ?vv_19) (by assumption) ?hf_19 ?_ ?hn_19 ?hd_19); (case hf_19 => walk_at "sxf"); (case hn_19 => decide); (case hd_19 => decide); (with_reducible refine evL_nil ?_); (with_reducible refine opL_len_str ?hg_21 ?_); (case hg_21 => walk_at "sxg"); (with_reducible refine op_lt_int ?_); (with_reducible refine exB ?_))
    refine ⟨fun hb => ?_, fun hb => ⟨fun _ => out ?_, fun hb => by cases hb⟩⟩
    · have hb2 : i < y.length := by have := of_decide_eq_true hb; omega
      have g1 : x[i]? = some x[i] := List.getElem?_eq_getElem hb1
      have g2 : y[i]? = some y[i] := List.getElem?_eq_getElem hb2
      refine allT_and ?_
      ((with_reducible refine tst_cmp ?_ ?hs_24); (case hs_24 => with_unfolding_all rfl); (with_reducible refine ev_sub ?_ ?hs_25); (case hs_25 => (intro _ _; rfl)); (with_reducible refine ev_name (v := ?vv_26) (by assumption) ?hf_26 ?_ ?hn_26 ?hd_26); (case hf_26 => walk_at "sxf"); (case hn_26 => decide); (case hd_26 => decide); (with_reducible refine ev_name (v := ?vv_27) (by assumption) ?hf_27 ?_ ?hn_27 ?hd_27); (case hf_27 => walk_at "sxf"); (case hn_27 => decide); (case hd_27 => decide); (with_reducible refine item_str (c := ?cc_28) ?hg_28 ?hi_28 ?_); (case hi_28 => assumption); (case hg_28 => walk_at "sxg"); (with_reducible refine ev_sub ?_ ?hs_29); (case hs_29 => (intro _ _; rfl)); (with_reducible refine ev_name (v := ?vv_30) (by assumption) ?hf_30 ?_ ?hn_30 ?hd_30); (case hf_30 => walk_at "sxf"); (case hn_30 => decide); (case hd_30 => decide); (with_reducible refine ev_name (v := ?vv_31) (by assumption) ?hf_31 ?_ ?hn_31 ?hd_31); (case hf_31 => walk_at "sxf"); (case hn_31 => decide); (case hd_31 => decide); (with_reducible refine item_str (c := ?cc_32) ?hg_32 ?hi_32 ?_); (case hi_32 => assumption); (case hg_32 => walk_at "sxg"); (with_reducible refine op_eq_str ?_); (with_reducible refine exB ?_))
      refine ⟨fun hb => ?_, fun hb => ⟨fun _ => out ?_, fun hb => by cases hb⟩⟩
      · have hb3 : x[i] = y[i] := by simpa using hb
        refine allT_and_nil ⟨fun q => (nomatch q), fun _ => ?_⟩
        refine exs_cons (ex_aug okn (by rfl) (tr_load okn f1 ?_ (by decide)))
        ((with_reducible refine ev_int ?_); (with_reducible refine op_iadd_int ?_))
        refine exs_nil (hQ2 _ _ ?_ ⟨i + 1, rfl, hb1, hb2, ?_, by walk_at "sxf", by walk_at "sxf", by walk_at "sxf"⟩)
        · omega
        · rw [h3, List.drop_eq_getElem_cons hb1, List.drop_eq_getElem_cons hb2, alike_cons, if_pos hb3]; omega
      · have hb3 : x[i] ≠ y[i] := by simpa using hb
        rw [List.drop_eq_getElem_cons hb1, List.drop_eq_getElem_cons hb2, alike_cons, if_neg hb3]
    · have hb2 : y.length ≤ i := by have := of_decide_eq_false hb; omega
      rw [List.drop_eq_nil_of_le hb2, alike_nil']
  · have hb1 : x.length ≤ i := by have := of_decide_eq_false hb; omega
    rw [List.drop_eq_nil_of_le hb1, alike_nil]
theorem words09_pos (xs : List Int) : 7 ≤ (words09 xs).length ∧ (words09 xs).length ≤ 7 + xs.length := by
  suffices h : ∀ (xs : List Int) (ws : List S), ws.length ≤ (xs.foldl (fun ws x => step09 ws (x.fmod 17).toNat) ws).length ∧ (xs.foldl (fun ws x => step09 ws (x.fmod 17).toNat) ws).length ≤ ws.length + xs.length from h xs base09
  intro xs
  induction xs with
  | nil => intro ws; exact ⟨Nat.le_refl _, Nat.le_refl _⟩
  | cons x xs ih =>
    intro ws
    have h1 := ih (step09 ws (x.fmod 17).toNat)
    have h2 := step09_len ws (x.fmod 17).toNat
    rw [List.foldl_cons, List.length_cons]
    omega
theorem step09_le {ws : List S} {k m : Nat} (h : ∀ w ∈ ws, w.length ≤ m) : ∀ w ∈ step09 ws k, w.length ≤ m + 1 := by
  intro w hw
  unfold step09 at hw
  split at hw
  · rcases List.mem_append.mp hw with hw | hw
    · exact Nat.le_succ_of_le (h w hw)
    · rw [List.mem_singleton.mp hw]; exact Nat.zero_le _
  · rcases List.mem_or_eq_of_mem_set hw with hw | rfl
    · exact Nat.le_succ_of_le (h w hw)
    · rw [List.length_append, List.length_singleton]
      refine Nat.succ_le_succ ?_
      rw [List.getD_eq_getElem?_getD]
      cases e : ws[ws.length - 1]? with
      | none => exact Nat.zero_le _
      | some v => exact h v (List.mem_of_getElem? e)
theorem words09_le (xs : List Int) : ∀ w ∈ words09 xs, w.length ≤ 4 + xs.length := by
  suffices h : ∀ (xs : List Int) (ws : List S) (m : Nat), (∀ w ∈ ws, w.length ≤ m) → ∀ w ∈ xs.foldl (fun ws x => step09 ws (x.fmod 17).toNat) ws, w.length ≤ m + xs.length from h xs base09 4 (by decide)
  intro xs
  induction xs with
  | nil => intro ws m h; exact h
  | cons x xs ih =>
    intro ws m h
    have := ih (step09 ws (x.fmod 17).toNat) (m + 1) (step09_le h)
    intro w hw
    have := this w hw
    rw [List.length_cons]; omega
theorem c_words {C : Cx} {n : Nat} (ok : C.Ok (n + 1)) (I : In09 C) {xs : List Int} (hx : xs.length ≤ 63) :
    OpL C (Rep C.W) (fun ws => call (.ref 37) ws) [.lst (xs.map V.int)] (fun v => v = .lst ((words09 xs).map V.str)) := by
  refine fn_callQ ok (fnAt_of (a := 37) I.hF (by rfl) (by rfl) (by rfl) (by rfl) (by rfl) (by rfl) (by rfl) (by rfl) (by rfl)) (ps := ["script"]) (dvs := []) (ds := []) ?_ (fun _ _ _ _ => .nil) (by decide) (by rfl) fun A L q cd Q hQ okn => ?_
  · exact fun s ws _ hl => binds_plain (n := 1) (fun ws hl => by
      obtain ⟨a, rfl⟩ := len1 hl
      rfl) s ws hl
  have hG : (fnCx C.W A (fdAt (F09 C.W.w) 37).scope L 37 q cd).W.gls = _ := I.hG
  have hsz : sizeLine = 16777216 := sizeLine_eq
  ((refine exs_cons ?_); (with_reducible refine ex_assignN (by assumption) ?hx_2 ?hs_2 ?_); (case hx_2 => kernel_rfl); (case hs_2 => exact swaps_no (by rfl)))
  refine evF_list ?_
  ((with_reducible refine evL_cons ?_ ?hs_6); (case hs_6 => rfl); (with_reducible refine ev_str ?_); (with_reducible refine evL_cons ?_ ?hs_8); (case hs_8 => rfl); (with_reducible refine ev_str ?_); (with_reducible refine evL_cons ?_ ?hs_10); (case hs_10 => rfl); (with_reducible refine ev_str ?_); (with_reducible refine evL_cons ?_ ?hs_12); (case hs_12 => rfl); (with_reducible refine ev_str ?_); (with_reducible refine evL_cons ?_ ?hs_14); (case hs_14 => rfl); (with_reducible refine ev_str ?_); (with_reducible refine evL_cons ?_ ?hs_16); (case hs_16 => rfl); (with_reducible refine ev_str ?_); (with_reducible refine evL_cons ?_ ?hs_18); (case hs_18 => rfl); (with_reducible refine ev_str ?_); (with_reducible refine evL_nil ?_))
  refine ⟨szc 7, fun aW => ?_⟩
  refine exs_cons ?_
  refine ex_for okn ?_
  ((with_reducible refine ev_name (v := ?vv_21) (by assumption) ?hf_21 ?_ ?hn_21 ?hd_21); (case hf_21 => walk_at "sxf"); (case hn_21 => decide); (case hd_21 => decide))
  refine ⟨_, rfl, trivial, ?_⟩
  refine loop_listQ V.int xs (fun i σ => find σ (Str.ofString "words") = some (.list aW ((words09 (xs.take i)).map V.str))) ?_ ?_ (by walk_at "sxf") rfl
  · rintro i x σ Q1 hQ1 hx1 f1
    have hi : i < xs.length := (List.getElem?_eq_some_iff.mp hx1).1
    have hstep : words09 (xs.take (i + 1)) = step09 (words09 (xs.take i)) (x.fmod 17).toNat := by
      rw [List.take_add_one, hx1, ← words09_snoc]; rfl
    have hl := words09_pos (xs.take i)
    have hli : (xs.take i).length ≤ 63 := take_le xs i hx
    refine asg_name okn (by kernel_rfl) ?_
    ((refine exs_cons ?_); (with_reducible refine ex_assign (by assumption) ?hx_1 ?hs_1 ?_); (case hx_1 => kernel_rfl); (case hs_1 => exact swaps_no (by rfl)))
    ((with_reducible refine ev_bin ?_); (with_reducible refine ev_name (v := ?vv_23) (by assumption) ?hf_23 ?_ ?hn_23 ?hd_23); (case hf_23 => walk_at "sxf"); (case hn_23 => decide); (case hd_23 => decide); (with_reducible refine ev_int ?_); (with_reducible refine op_mod_int ?hg_25 ?_); (case hg_25 => walk_at "sxg"))
    obtain ⟨k, hk, hk17⟩ : ∃ k : Nat, x.fmod 17 = (k : Int) ∧ k < 17 := ⟨(x.fmod 17).toNat, by
      have h1 := Int.fmod_nonneg_of_pos x (b := 17) (by decide)
      have h2 := Int.fmod_lt_of_pos x (b := 17) (by decide)
      omega, by
      have h1 := Int.fmod_nonneg_of_pos x (b := 17) (by decide)
      have h2 := Int.fmod_lt_of_pos x (b := 17) (by decide)
      omega⟩
    rw [hk] at hstep ⊢
    ((refine exs_cons ?_); (with_reducible refine ex_if ?_))
    ((with_reducible refine tst_cmp ?_ ?hs_26); (case hs_26 => with_unfolding_all rfl); (with_reducible refine ev_name (v := ?vv_27) (by assumption) ?hf_27 ?_ ?hn_27 ?hd_27); (case hf_27 => walk_at "sxf"); (case hn_27 => decide); (case hd_27 => decide); (with_reducible refine ev_int ?_); (with_reducible refine op_eq_int ?_); (with_reducible refine exB ?_))
    refine ⟨fun hb => ?_, fun hb => ?_⟩
    · have hk0 : k = 0 := by simpa using hb
      ((refine exs_cons ?_); (with_reducible refine ex_append (a := ?aa_5) (vs := ?vs_5) (by assumption) ?hf_5 ?_ ?d1_5 ?d2_5 ?d3_5 ?r1_5 ?r2_5 ?r3_5 ?r4_5 ?r5_5); (case hf_5 => walk_at "sxf"); (case d1_5 => decide); (case d2_5 => decide); (case d3_5 => decide); (case r1_5 => rfl); (case r2_5 => rfl); (case r3_5 => rfl); (case r4_5 => rfl); (case r5_5 => rfl))
      ((with_reducible refine ev_str ?_))
      have hs : step09 (words09 (xs.take i)) (k : Int).toNat = words09 (xs.take i) ++ [[]] := by rw [hk0]; rfl
      refine ⟨_, by walk_at "sxf", by rw [List.length_map]; omega, exs_nil (exs_nil (hQ1 _ ?_))⟩
      rw [hstep, hs, List.map_append]
      walk_at "sxf"
    · have hk0 : k ≠ 0 := by simpa using hb
      obtain ⟨m, hm⟩ : ∃ m, (words09 (xs.take i)).length = m + 1 := ⟨(words09 (xs.take i)).length - 1, by omega⟩
      obtain ⟨l, hl2⟩ : ∃ l, (words09 (xs.take i))[m]? = some l := ⟨_, List.getElem?_eq_getElem (by omega)⟩
      have hll := words09_le _ l (List.mem_of_getElem? hl2)
      have hs : step09 (words09 (xs.take i)) (k : Int).toNat = (words09 (xs.take i)).set m (l ++ [sgn09.getD k 0]) := by
        unfold step09
        rw [if_neg (by omega), hm, Nat.add_sub_cancel, List.getD_eq_getElem?_getD, hl2]; rfl
      have hg := sgn09_get hk17
      refine exs_cons ?_
      refine ex_augItemO okn (a := aW) (vs := (words09 (xs.take i)).map V.str) (by walk_at "sxf") ?_ (by decide) (by decide) (by decide) (by intro _ _ _; rfl)
      ((with_reducible refine ev_un ?_); (with_reducible refine ev_int ?_))
      refine opU_neg ?_
      refine ⟨_, by walk_at "sxf", op_item_lastm (m := m) (v := .str l) (by rw [List.length_map]; exact hm) (by rw [List.getElem?_map, hl2]; rfl) (by rw [List.length_map]; omega) ⟨l, rfl, ?_⟩⟩
      ((with_reducible refine ev_sub ?_ ?hs_34); (case hs_34 => (intro _ _; rfl)); (with_reducible refine ev_str ?_); (with_reducible refine ev_name (v := ?vv_36) (by assumption) ?hf_36 ?_ ?hn_36 ?hd_36); (case hf_36 => walk_at "sxf"); (case hn_36 => decide); (case hd_36 => decide); (with_reducible refine item_str (c := ?cc_37) ?hg_37 ?hi_37 ?_); (case hi_37 => assumption); (case hg_37 => walk_at "sxg"))
      refine op_iadd_str (by rw [List.length_singleton]; omega) ?_
      refine ⟨_, by walk_at "sxf", opM_listSetNeg (by decide) (neg1_le (by rw [List.length_map]; omega)) (by rw [List.length_map]; omega) ?_⟩
      have e6 : ((words09 (xs.take i)).map V.str).set ((-1 : Int) + (((words09 (xs.take i)).map V.str).length : Int)).toNat (V.str (l ++ [sgn09.getD k 0])) = (words09 (xs.take (i + 1))).map V.str := by
        rw [hstep, hs, List.map_set, List.length_map, hm, show ((-1 : Int) + ((m + 1 : Nat) : Int)).toNat = m by omega]
      rw [e6]
      exact exs_nil (exs_nil (hQ1 _ (by walk_at "sxf")))
  · intro σ f1
    rw [List.take_length] at f1
    refine exs_nil ?_
    refine Tr.freeze (x := "words") f1 rfl ?_ (by decide)
    ((refine exs_cons ?_); (with_reducible refine ex_return ?_))
    ((with_reducible refine ev_name (v := ?vv_38) (by assumption) ?hf_38 ?_ ?hn_38 ?hd_38); (case hf_38 => walk_at "sxf"); (case hn_38 => decide); (case hd_38 => decide))
    exact hQ _ _ rfl
theorem repOkG_one (hsz : sizeLine = 16777216) : ∀ (ws : List (S × S)) (x : S) (B : Nat), (∀ w ∈ ws, One w ∧ 1 ≤ w.2.length ∧ w.2.length ≤ 6) → x.length ≤ B → B * (ws.map fun w => w.2.length).foldr (· * ·) 1 ≤ 8000000 → RepOkG ws x
  | [], _, _, _, _, _ => trivial
  | (y, z) :: r, x, B, h, hx, hb => by
    obtain ⟨⟨c, hc⟩, hz1, hz⟩ := h (y, z) List.mem_cons_self
    have hc : y = [c] := hc
    have hz : z.length ≤ 6 := hz
    have hz1 : 1 ≤ z.length := hz1
    subst hc
    have hb : B * (z.length * (r.map fun w => w.2.length).foldr (· * ·) 1) ≤ 8000000 := hb
    have hr : ∀ r : List (S × S), (∀ w ∈ r, 1 ≤ w.2.length) → 1 ≤ (r.map fun w => w.2.length).foldr (· * ·) 1 := by
      intro r
      induction r with
      | nil => exact fun _ => Nat.le_refl _
      | cons w r ih => exact fun h => Nat.le_trans (Nat.mul_le_mul (h w List.mem_cons_self) (ih fun v hv => h v (List.mem_cons_of_mem _ hv))) (Nat.le_refl _)
    have h0 := hr r fun w hw => (h w (List.mem_cons_of_mem _ hw)).2.1
    rw [← Nat.mul_assoc] at hb
    have h1 : B * z.length ≤ 8000000 := Nat.le_trans (Nat.le_mul_of_pos_right _ h0) hb
    have h2 : B ≤ 8000000 := Nat.le_trans (Nat.le_mul_of_pos_right _ hz1) h1
    have h3 : x.length * z.length ≤ B * z.length := Nat.mul_le_mul_right _ hx
    refine ⟨?_, repOkG_one hsz r _ (B * z.length) (fun w hw => h w (List.mem_cons_of_mem _ hw)) (Nat.le_trans (repl_1_le c hz1 (Nat.le_refl _) x) h3) hb⟩
    rw [Nat.succ_mul]
    omega
theorem escL09_6 {k : Nat} (hk : k < 3) : (∀ w ∈ escL09 k, 1 ≤ w.2.length ∧ w.2.length ≤ 6) ∧ 67 * ((escL09 k).map fun w => w.2.length).foldr (· * ·) 1 ≤ 8000000 := by
  have : (escL09 k).all (fun w => decide (1 ≤ w.2.length ∧ w.2.length ≤ 6)) = true ∧ 67 * ((escL09 k).map fun w => w.2.length).foldr (· * ·) 1 ≤ 8000000 := by match k, hk with | 0, _ => decide +kernel | 1, _ => decide +kernel | 2, _ => decide +kernel
  exact ⟨fun w hw => of_decide_eq_true (List.all_eq_true.mp this.1 w hw), this.2⟩
theorem esc09_ok (hsz : sizeLine = 16777216) {k : Nat} (hk : k < 3) {x : S} (hx : x.length ≤ 67) : RepOkG (escL09 k) x :=
  repOkG_one hsz _ x 67 (fun w hw => ⟨one09 hk w hw, (escL09_6 hk).1 w hw⟩) hx (escL09_6 hk).2
theorem E09_6 {k : Nat} (hk : k < 3) (c : Nat) : (E09 k c).length ≤ 6 := by
  by_cases hc : c ∈ row09 k
  · have h : (row09 k).all (fun c => decide ((E09 k c).length ≤ 6)) = true := by match k, hk with | 0, _ => decide +kernel | 1, _ => decide +kernel | 2, _ => decide +kernel
    exact of_decide_eq_true (List.all_eq_true.mp h c hc)
  · rw [size09' hk hc]; decide
theorem esc09_le {k : Nat} (hk : k < 3) {x : S} (hx : x.length ≤ 67) : (esc09 k x).length ≤ 100000 := by
  rw [esc09_flat hk]
  exact Nat.le_trans (flatM_le (E09_6 hk) x) (Nat.le_trans (Nat.mul_le_mul_right _ hx) (by decide))
theorem siz09_le {k : Nat} (hk : k < 3) : (siz09 k).length ≤ 6 := by match k, hk with | 0, _ => decide | 1, _ => decide | 2, _ => decide
theorem alike_tab : ∀ T : List (S × S), AlikeL 1 ((tabV T).map fun p => V.tup [p.1.tv, p.2]) ((tabV T).map fun p => V.tup [p.1.tv, p.2])
  | [] => .nil 1
  | p :: r => .cons (.tup (.cons (.tt 0 _) (.cons (.ss 0 _) (.nil 0)))) (alike_tab r)
noncomputable def bon09 (k : Nat) (x y : S) : Nat := match x[alike x y]?, y[alike x y]? with | some c, some d => if c ∈ row09 k ∧ d ∈ row09 k then 1 else 0 | _, _ => 0
theorem alike09 {k : Nat} (hk : k < 3) (x y : S) : ((alike (esc09 k x) (esc09 k y) : Nat) : Int) = (((y.take (alike x y)).map fun c => ((E09 k c).length : Int)).sum) + (bon09 k x y : Nat) := by
  rw [esc09_flat hk, esc09_flat hk, (rise09 hk).alike x y, Int.natCast_add]
  congr 1
  generalize y.take (alike x y) = l
  induction l with
  | nil => rfl
  | cons c l ih => rw [List.map_cons, List.map_cons, List.sum_cons, List.sum_cons, Int.natCast_add, ih]
set_option maxHeartbeats 8000000 in
theorem end09 {W : Wd} {A : Around} {L : Addr} {q' : Str} {cd : Value} {n : Nat} (okn : (fnCx W A (fdAt (F09 W.w) 49).scope L 49 q' cd).Ok (n + 8)) (I : In09 (fnCx W A (fdAt (F09 W.w) 49).scope L 49 q' cd)) {k : Nat} (hk3 : k < 3) {ws due : List S} (hw0 : 7 ≤ ws.length) (hw1 : ws.length ≤ 70) (hw2 : ∀ w ∈ ws, w.length ≤ 67)
    (hp : due.Perm ws) (hs : due.Pairwise fun x y => ¬ key09 (row09 k) y < key09 (row09 k) x) {σ : St} {Q : Fl → St → Prop}
    (f1 : find σ (Str.ofString "words") = some (.val (.lst (ws.map V.str)))) (f2 : find σ (Str.ofString "table") = some (.val (.dct (tabV (tab09 k))))) (f3 : find σ (Str.ofString "before") = some (.val (.lst ((tabV (tab09 k)).map fun p => .tup [p.1.tv, p.2]))))
    (f4 : find σ (Str.ofString "row") = some (.val (.str (row09 k)))) (f5 : find σ (Str.ofString "sizes") = some (.val (.lst ((siz09 k).map V.int)))) (f6 : find σ (Str.ofString "due") = some (.val (.lst (due.map V.str)))) (hQ : ∀ σ', Q (.ret (.bool true)) σ') :
    Exs (fnCx W A (fdAt (F09 W.w) 49).scope L 49 q' cd) σ ((bdAt (F09 W.w) 49).drop 7) Q := by
  have hG : (fnCx W A (fdAt (F09 W.w) 49).scope L 49 q' cd).W.gls = _ := I.hG
  have hsz : sizeLine = 16777216 := sizeLine_eq
  have htl : (tabV (tab09 k)).length ≤ 4 := by match k, hk3 with | 0, _ => decide | 1, _ => decide | 2, _ => decide
  have hdl : due.length = ws.length := hp.length_eq
  have hd2 : ∀ w ∈ due, w.length ≤ 67 := fun w hw => hw2 w (hp.subset hw)
  refine exs_cons ?_
  refine ex_assignListComp (fv := ["table"]) okn (compOk_of (by kernel_rfl)) (by kernel_rfl) ?_ (swaps_list (by kernel_rfl))
  ((with_reducible refine ev_name (v := ?vv_6) (by assumption) ?hf_6 ?_ ?hn_6 ?hd_6); (case hf_6 => walk_at "sxf"); (case hn_6 => decide); (case hd_6 => decide))
  refine ⟨_, rfl, trivial, by rw [List.length_map]; omega, fun cl L' okc => ?_⟩
  refine lloop_map (fun σ => find σ (Str.ofString "table") = some (.val (.dct (tabV (tab09 k))))) (fun v => match v with | .str w => .str (esc09 k w) | _ => .none) _ _ _ (find_cap1 List.mem_cons_self f2) ?_ ?_
  · intro v hv σ hJ
    obtain ⟨w, hw, rfl⟩ := List.mem_map.mp hv
    refine asg_name okc (by kernel_rfl) ?_
    refine ev_fn okc hG (by kernel_rfl) (by rfl) (callee_of (fnAt_of (a := 30) I.hF (by rfl) (by rfl) (by rfl) (by rfl) (by rfl) (by rfl) (by rfl) (by rfl) (by rfl))) ?_ (by rfl) (by rfl) (by decide)
    ((with_reducible refine evL_cons ?_ ?hs_7); (case hs_7 => rfl); (with_reducible refine ev_name (v := ?vv_8) (by assumption) ?hf_8 ?_ ?hn_8 ?hd_8); (case hf_8 => walk_at "sxf"); (case hn_8 => decide); (case hd_8 => decide); (with_reducible refine evL_cons ?_ ?hs_9); (case hs_9 => rfl); (with_reducible refine ev_name (v := ?vv_10) (by assumption) ?hf_10 ?_ ?hn_10 ?hd_10); (case hf_10 => walk_at "sxf"); (case hn_10 => decide); (case hd_10 => decide); (with_reducible refine evL_nil ?_))
    exact OpL.eq (c_escape (n := n + 6) okc ⟨I.hF, I.hG⟩ (esc09_ok hsz hk3 (hd2 w hw)) (Nat.le_trans (by rw [tabV_length] at htl; exact htl) (szc 4))) ⟨rfl, by walk_at "sxf"⟩
  intro D
  rw [List.nil_append, show (due.map V.str).map (fun v => match v with | .str w => V.str (esc09 k w) | _ => .none) = (due.map (esc09 k)).map V.str by rw [List.map_map, List.map_map]; rfl]
  refine Tr.freeze (x := "told") (by walk_at "sxf") rfl ?_ (by decide)
  ((refine exs_cons ?_); (with_reducible refine ex_if ?_))
  refine allT_or ?_
  refine tst_cmp ?_ (by with_unfolding_all rfl)
  refine ev_ofF ?_
  refine evF_fn okn hG (by kernel_rfl) (by rfl) .bi ?_ (by rfl) (by rfl) (by decide)
  ((with_reducible refine evL_cons ?_ ?hs_12); (case hs_12 => rfl))
  refine ev_ofF ?_
  refine evF_listComp (fv := ["table"]) okn (compOk_of (by kernel_rfl)) ?_
  ((with_reducible refine ev_name (v := ?vv_13) (by assumption) ?hf_13 ?_ ?hn_13 ?hd_13); (case hf_13 => walk_at "sxf"); (case hn_13 => decide); (case hd_13 => decide))
  refine ⟨_, rfl, trivial, by rw [List.length_map]; omega, fun cl L' okc => ?_⟩
  refine lloop_map (fun σ => find σ (Str.ofString "table") = some (.val (.dct (tabV (tab09 k))))) (fun v => match v with | .str w => .str (esc09 k w) | _ => .none) _ _ _ (find_cap1 List.mem_cons_self (by walk_at "sxf")) ?_ ?_
  · intro v hv σ hJ
    obtain ⟨w, hw, rfl⟩ := List.mem_map.mp hv
    refine asg_name okc (by kernel_rfl) ?_
    refine ev_fn okc hG (by kernel_rfl) (by rfl) (callee_of (fnAt_of (a := 30) I.hF (by rfl) (by rfl) (by rfl) (by rfl) (by rfl) (by rfl) (by rfl) (by rfl) (by rfl))) ?_ (by rfl) (by rfl) (by decide)
    ((with_reducible refine evL_cons ?_ ?hs_14); (case hs_14 => rfl); (with_reducible refine ev_name (v := ?vv_15) (by assumption) ?hf_15 ?_ ?hn_15 ?hd_15); (case hf_15 => walk_at "sxf"); (case hn_15 => decide); (case hd_15 => decide); (with_reducible refine evL_cons ?_ ?hs_16); (case hs_16 => rfl); (with_reducible refine ev_name (v := ?vv_17) (by assumption) ?hf_17 ?_ ?hn_17 ?hd_17); (case hf_17 => walk_at "sxf"); (case hn_17 => decide); (case hd_17 => decide); (with_reducible refine evL_nil ?_))
    exact OpL.eq (c_escape (n := n + 6) okc ⟨I.hF, I.hG⟩ (esc09_ok hsz hk3 (hw2 w hw)) (Nat.le_trans (by rw [tabV_length] at htl; exact htl) (szc 4))) ⟨rfl, by walk_at "sxf"⟩
  intro D2
  rw [List.nil_append, show (ws.map V.str).map (fun v => match v with | .str w => V.str (esc09 k w) | _ => .none) = (ws.map (esc09 k)).map V.str by rw [List.map_map, List.map_map]; rfl]
  ((with_reducible refine evL_nil ?_))
  refine opF_sorted okn (by rw [List.length_map]; omega) fun a3 out hpo hso => ?_
  have hout : out = due.map (esc09 k) := by
    refine sorted_one (hpo.trans (hp.symm.map _)) hso ?_
    rw [List.pairwise_map]
    exact hs.imp fun {x y} h => by rw [esc09_flat hk3, esc09_flat hk3]; exact (rise09 hk3).mono x y h
  rw [hout]
  ((with_reducible refine ev_name (v := ?vv_20) (by assumption) ?hf_20 ?_ ?hn_20 ?hd_20); (case hf_20 => walk_at "sxf"); (case hn_20 => decide); (case hd_20 => decide))
  show Op2 _ _ _ (V.lst ((due.map (esc09 k)).map V.str)) (V.lst ((due.map (esc09 k)).map V.str)) _
  refine op_ne_alike okn (n := 0) (by decide) (alikeL_strs _) (exB ⟨fun _ => ?_, fun h => (nomatch h)⟩)
  refine allT_or ?_
  refine tst_cmp ?_ (by with_unfolding_all rfl)
  refine ev_ofF ?_
  refine evF_fn okn hG (by kernel_rfl) (by rfl) .ty ?_ (by rfl) (by rfl) (by decide)
  ((with_reducible refine evL_cons ?_ ?hs_21); (case hs_21 => rfl); (with_reducible refine ev_meth ?_ ?h1_22 ?h2_22 ?h3_22 ?h4_22); (case h1_22 => rfl); (case h2_22 => rfl); (case h3_22 => rfl); (case h4_22 => rfl); (with_reducible refine ev_name (v := ?vv_23) (by assumption) ?hf_23 ?_ ?hn_23 ?hd_23); (case hf_23 => walk_at "sxf"); (case hn_23 => decide); (case hd_23 => decide); (with_reducible refine ⟨_, _, methOk_dct PySem.F.slot_dict_items PySem.F.type_dict_items, ?_⟩); (with_reducible refine evL_nil ?_); (with_reducible refine opL_items ?_); (with_reducible refine evL_nil ?_))
  refine opF_listItems okn (Nat.le_trans htl (szc 4)) fun a6 => ?_
  show Ev _ _ _ (fun b σ2 => Op2 _ _ _ (V.lst ((tabV (tab09 k)).map fun p => .tup [p.1.tv, p.2])) b _)
  ((with_reducible refine ev_name (v := ?vv_28) (by assumption) ?hf_28 ?_ ?hn_28 ?hd_28); (case hf_28 => walk_at "sxf"); (case hn_28 => decide); (case hd_28 => decide))
  refine op_ne_alike okn (n := 1) (by decide) (alike_tab _) (exB ⟨fun _ => ?_, fun h => (nomatch h)⟩)
  refine allT_or_nil ⟨fun h => (nomatch h), fun _ => ?_⟩
  refine exs_nil ?_
  refine exs_cons ?_
  refine ex_for okn ?_
  ((with_reducible refine ev_fn (w := ?ww_29) (L := ?LL_29) (by assumption) ?hGG_29 ?h1_29 ?h2_29 ?hc_29 ?_ ?h3_29 ?h4_29 ?h5_29); (case hGG_29 => assumption); (case h1_29 => kernel_rfl); (case h2_29 => rfl); (case hc_29 => exact .ty); (case h3_29 => rfl); (case h4_29 => rfl); (case h5_29 => decide); (with_reducible refine evL_cons ?_ ?hs_30); (case hs_30 => rfl); (with_reducible refine ev_int ?_); (with_reducible refine evL_cons ?_ ?hs_32); (case hs_32 => rfl); (with_reducible refine ev_fn (w := ?ww_33) (L := ?LL_33) (by assumption) ?hGG_33 ?h1_33 ?h2_33 ?hc_33 ?_ ?h3_33 ?h4_33 ?h5_33); (case hGG_33 => assumption); (case h1_33 => kernel_rfl); (case h2_33 => rfl); (case hc_33 => exact .bi); (case h3_33 => rfl); (case h4_33 => rfl); (case h5_33 => decide); (with_reducible refine evL_cons ?_ ?hs_34); (case hs_34 => rfl); (with_reducible refine ev_name (v := ?vv_35) (by assumption) ?hf_35 ?_ ?hn_35 ?hd_35); (case hf_35 => walk_at "sxf"); (case hn_35 => decide); (case hd_35 => decide); (with_reducible refine evL_nil ?_))
  refine opL_len_list (by rw [List.length_map]; omega) ?_
  ((with_reducible refine evL_nil ?_); (with_reducible refine opL_range2 ?_))
  refine ⟨_, rfl, run_rng (by decide) (by decide) (by omega) (by rw [List.length_map]; omega) _, ?_⟩
  refine loop_rangeQ (target := _) 1 _ (due.length - 1) (by rw [List.length_map]; omega) (fun i σ => find σ (Str.ofString "told") = some (.val (.lst ((due.map (esc09 k)).map V.str))) ∧ find σ (Str.ofString "row") = some (.val (.str (row09 k))) ∧ find σ (Str.ofString "sizes") = some (.val (.lst ((siz09 k).map V.int))) ∧ find σ (Str.ofString "due") = some (.val (.lst (due.map V.str)))) ?_ ?_ ⟨by walk_at "sxf", by walk_at "sxf", by walk_at "sxf", by walk_at "sxf"⟩
  · rintro i σ1 Q1 hQ1 hi ⟨g1, g2, g3, g4⟩
    have hi1 : i + 1 < due.length := by omega
    obtain ⟨x, hx⟩ : ∃ x, due[i]? = some x := ⟨_, List.getElem?_eq_getElem (Nat.lt_of_succ_lt hi1)⟩
    obtain ⟨y, hy⟩ : ∃ y, due[i + 1]? = some y := ⟨_, List.getElem?_eq_getElem hi1⟩
    have hx67 := hd2 x (List.mem_of_getElem? hx)
    have hy67 := hd2 y (List.mem_of_getElem? hy)
    have hxy : ¬ key09 (row09 k) y < key09 (row09 k) x := by
      have := List.pairwise_iff_getElem.mp hs i (i + 1) (Nat.lt_of_succ_lt hi1) hi1 (Nat.lt_succ_self i)
      rw [List.getElem?_eq_getElem (Nat.lt_of_succ_lt hi1)] at hx
      rw [List.getElem?_eq_getElem hi1] at hy
      injection hx with hx
      injection hy with hy
      rw [hx, hy] at this
      exact this
    have hvx : (due.map V.str)[i]? = some (V.str x) := by rw [List.getElem?_map, hx]; rfl
    have hvy : (due.map V.str)[i + 1]? = some (V.str y) := by rw [List.getElem?_map, hy]; rfl
    have hex : ((due.map (esc09 k)).map V.str)[i]? = some (V.str (esc09 k x)) := by rw [List.getElem?_map, List.getElem?_map, hx]; rfl
    have hey : ((due.map (esc09 k)).map V.str)[i + 1]? = some (V.str (esc09 k y)) := by rw [List.getElem?_map, List.getElem?_map, hy]; rfl
    have hD1 : (due.map V.str).length ≤ sizeLine := by rw [List.length_map]; omega
    have hD2 : ((due.map (esc09 k)).map V.str).length ≤ sizeLine := by rw [List.length_map, List.length_map]; omega
    have e0 : (1 : Int) + (i : Int) = ((i + 1 : Nat) : Int) := by omega
    have e1 : ((i + 1 : Nat) : Int) - 1 = (i : Int) := by omega
    rw [e0]
    refine asg_name okn (by kernel_rfl) ?_
    ((refine exs_cons ?_); (with_reducible refine ex_assign (by assumption) ?hx_1 ?hs_1 ?_); (case hx_1 => kernel_rfl); (case hs_1 => exact swaps_no (by rfl)))
    refine ev_fn okn hG (by kernel_rfl) (by rfl) (callee_of (fnAt_of (a := 44) I.hF (by rfl) (by rfl) (by rfl) (by rfl) (by rfl) (by rfl) (by rfl) (by rfl) (by rfl))) ?_ (by rfl) (by rfl) (by decide)
    ((with_reducible refine evL_cons ?_ ?hs_39); (case hs_39 => rfl); (with_reducible refine ev_sub ?_ ?hs_40); (case hs_40 => (intro _ _; rfl)); (with_reducible refine ev_name (v := ?vv_41) (by assumption) ?hf_41 ?_ ?hn_41 ?hd_41); (case hf_41 => walk_at "sxf"); (case hn_41 => decide); (case hd_41 => decide); (with_reducible refine ev_bin ?_); (with_reducible refine ev_name (v := ?vv_43) (by assumption) ?hf_43 ?_ ?hn_43 ?hd_43); (case hf_43 => walk_at "sxf"); (case hn_43 => decide); (case hd_43 => decide); (with_reducible refine ev_int ?_); (with_reducible refine op_sub_int ?_))
    rw [e1]
    refine item_list hD1 hvx ?_
    ((with_reducible refine evL_cons ?_ ?hs_46); (case hs_46 => rfl); (with_reducible refine ev_sub ?_ ?hs_47); (case hs_47 => (intro _ _; rfl)); (with_reducible refine ev_name (v := ?vv_48) (by assumption) ?hf_48 ?_ ?hn_48 ?hd_48); (case hf_48 => walk_at "sxf"); (case hn_48 => decide); (case hd_48 => decide); (with_reducible refine ev_name (v := ?vv_49) (by assumption) ?hf_49 ?_ ?hn_49 ?hd_49); (case hf_49 => walk_at "sxf"); (case hn_49 => decide); (case hd_49 => decide))
    refine item_list hD1 hvy ?_
    ((with_reducible refine evL_nil ?_))
    refine OpL.eq (c_alike (n := n + 7) okn ⟨I.hF, I.hG⟩ (Nat.le_trans hx67 (by decide)) (Nat.le_trans hy67 (by decide))) ?_
    have hal := alike_le x y
    have hin := alike_in x y hxy
    have hE := alike09 hk3 x y
    unfold bon09 at hE
    generalize alike x y = a at hal hin hE ⊢
    ((refine exs_cons ?_); (with_reducible refine ex_assign (by assumption) ?hx_2 ?hs_2 ?_); (case hx_2 => kernel_rfl); (case hs_2 => exact swaps_no (by rfl)))
    refine ev_fn okn hG (by kernel_rfl) (by rfl) .bi ?_ (by rfl) (by rfl) (by decide)
    ((with_reducible refine evL_cons ?_ ?hs_51); (case hs_51 => rfl))
    refine ev_ofF ?_
    refine evF_listComp (fv := ["row", "sizes"]) okn (compOk_of (by kernel_rfl)) ?_
    ((with_reducible refine ev_sliceT ?_); (with_reducible refine ev_sub ?_ ?hs_53); (case hs_53 => (intro _ _; rfl)); (with_reducible refine ev_name (v := ?vv_54) (by assumption) ?hf_54 ?_ ?hn_54 ?hd_54); (case hf_54 => walk_at "sxf"); (case hn_54 => decide); (case hd_54 => decide); (with_reducible refine ev_name (v := ?vv_55) (by assumption) ?hf_55 ?_ ?hn_55 ?hd_55); (case hf_55 => walk_at "sxf"); (case hn_55 => decide); (case hd_55 => decide))
    refine item_list hD1 hvy ?_
    ((with_reducible refine exS ?hg_56 ?_); (case hg_56 => walk_at "sxg"); (with_reducible refine evP_none ?_); (with_reducible refine evP_some ?_); (with_reducible refine ev_name (v := ?vv_59) (by assumption) ?hf_59 ?_ ?hn_59 ?hd_59); (case hf_59 => walk_at "sxf"); (case hn_59 => decide); (case hd_59 => decide); (with_reducible refine exI ?_))
    rw [slc_hi]
    refine ⟨_, rfl, trivial, by rw [List.length_map]; exact line 67 (by rw [List.length_take]; exact mle hy67), fun cl L' okc => ?_⟩
    refine lloop_map (fun σ => find σ (Str.ofString "row") = some (.val (.str (row09 k))) ∧ find σ (Str.ofString "sizes") = some (.val (.lst ((siz09 k).map V.int)))) (fun v => match v with | .str [c] => .int ((E09 k c).length) | _ => .none) _ _ _ ⟨find_cap1 (by simp) (by walk_at "sxf"), find_cap1 (by simp) (by walk_at "sxf")⟩ ?_ ?_
    · rintro v hv σ2 ⟨j1, j2⟩
      obtain ⟨c, hc, rfl⟩ := List.mem_map.mp hv
      refine asg_name okc (by kernel_rfl) ?_
      ((with_reducible refine ev_ifexp ?_); (with_reducible refine tst_cmp ?_ ?hs_62); (case hs_62 => with_unfolding_all rfl); (with_reducible refine ev_name (v := ?vv_63) (by assumption) ?hf_63 ?_ ?hn_63 ?hd_63); (case hf_63 => walk_at "sxf"); (case hn_63 => decide); (case hd_63 => decide); (with_reducible refine ev_name (v := ?vv_64) (by assumption) ?hf_64 ?_ ?hn_64 ?hd_64); (case hf_64 => walk_at "sxf"); (case hn_64 => decide); (case hd_64 => decide); (with_reducible refine op_in_str ?_); (with_reducible refine exB ?_))
      rw [hasSub_one]
      refine ⟨fun hb => ?_, fun hb => ?_⟩
      · have hin : c ∈ row09 k := of_decide_eq_true hb
        obtain ⟨m, hm, hm2⟩ := size09 hk3 hin
        ((with_reducible refine ev_sub ?_ ?hs_67); (case hs_67 => (intro _ _; rfl)); (with_reducible refine ev_name (v := ?vv_68) (by assumption) ?hf_68 ?_ ?hn_68 ?hd_68); (case hf_68 => walk_at "sxf"); (case hn_68 => decide); (case hd_68 => decide); (with_reducible refine ev_meth ?_ ?h1_69 ?h2_69 ?h3_69 ?h4_69); (case h1_69 => rfl); (case h2_69 => rfl); (case h3_69 => rfl); (case h4_69 => rfl); (with_reducible refine ev_name (v := ?vv_70) (by assumption) ?hf_70 ?_ ?hn_70 ?hd_70); (case hf_70 => walk_at "sxf"); (case hn_70 => decide); (case hd_70 => decide))
        refine ⟨_, _, methOk_str PySem.F.slot_str_index PySem.F.type_str_index, ?_⟩
        ((with_reducible refine evL_cons ?_ ?hs_71); (case hs_71 => rfl); (with_reducible refine ev_name (v := ?vv_72) (by assumption) ?hf_72 ?_ ?hn_72 ?hd_72); (case hf_72 => walk_at "sxf"); (case hn_72 => decide); (case hd_72 => decide); (with_reducible refine evL_nil ?_))
        refine opL_index hin ?_
        rw [hm]
        refine item_list (v := .int ((E09 k c).length)) (by rw [List.length_map]; exact line 6 (siz09_le hk3)) (by rw [List.getElem?_map, hm2]; rfl) ?_
        exact ⟨rfl, by walk_at "sxf", by walk_at "sxf"⟩
      · have hin : c ∉ row09 k := of_decide_eq_false hb
        ((with_reducible refine ev_int ?_))
        exact ⟨by show _ = V.int ((E09 k c).length); rw [size09' hk3 hin]; rfl, by walk_at "sxf", by walk_at "sxf"⟩
    intro D3
    ((with_reducible refine evL_nil ?_))
    rw [List.nil_append, show ((y.take a).map fun c => V.str [c]).map (fun v => match v with | .str [c] => V.int ((E09 k c).length) | _ => .none) = ((y.take a).map fun c => ((E09 k c).length : Int)).map V.int by rw [List.map_map, List.map_map]; rfl]
    show OpL _ _ _ [V.lst (((y.take a).map fun c => ((E09 k c).length : Int)).map V.int)] _
    refine opL_sum okn ?_
    generalize ((y.take a).map fun c => ((E09 k c).length : Int)).sum = z at hE ⊢
    refine exs_split (fun σ2 => find σ2 (Str.ofString "told") = some (.val (.lst ((due.map (esc09 k)).map V.str))) ∧ find σ2 (Str.ofString "row") = some (.val (.str (row09 k))) ∧ find σ2 (Str.ofString "sizes") = some (.val (.lst ((siz09 k).map V.int))) ∧ find σ2 (Str.ofString "due") = some (.val (.lst (due.map V.str))) ∧
      find σ2 (Str.ofString "k") = some (.val (.int ((i + 1 : Nat) : Int))) ∧ find σ2 (Str.ofString "size") = some (.val (.int ((Sx.alike (esc09 k x) (esc09 k y) : Nat) : Int)))) ?_ ?_
    · intro Q2 hQ2
      have out : z = ((Sx.alike (esc09 k x) (esc09 k y) : Nat) : Int) → Exs (fnCx W A (fdAt (F09 W.w) 49).scope L 49 q' cd) (put (put (put σ1 (Str.ofString "k") "k" (Slot.val (V.int ↑(i + 1)))) (Str.ofString "alike") "alike" (Slot.val (V.int ↑a))) (Str.ofString "size") "size" (Slot.val (V.int z))) [] Q2 := fun h0 => by
        subst h0
        exact exs_nil (hQ2 _ ⟨by walk_at "sxf", by walk_at "sxf", by walk_at "sxf", by walk_at "sxf", by walk_at "sxf", by walk_at "sxf"⟩)
      refine ex_if ?_
      refine allT_and ?_
      ((with_reducible refine tst_cmp ?_ ?hs_76); (case hs_76 => with_unfolding_all rfl); (with_reducible refine ev_name (v := ?vv_77) (by assumption) ?hf_77 ?_ ?hn_77 ?hd_77); (case hf_77 => walk_at "sxf"); (case hn_77 => decide); (case hd_77 => decide); (with_reducible refine ev_fn (w := ?ww_78) (L := ?LL_78) (by assumption) ?hGG_78 ?h1_78 ?h2_78 ?hc_78 ?_ ?h3_78 ?h4_78 ?h5_78); (case hGG_78 => assumption); (case h1_78 => kernel_rfl); (case h2_78 => rfl); (case hc_78 => exact .bi); (case h3_78 => rfl); (case h4_78 => rfl); (case h5_78 => decide); (with_reducible refine evL_cons ?_ ?hs_79); (case hs_79 => rfl); (with_reducible refine ev_sub ?_ ?hs_80); (case hs_80 => (intro _ _; rfl)); (with_reducible refine ev_name (v := ?vv_81) (by assumption) ?hf_81 ?_ ?hn_81 ?hd_81); (case hf_81 => walk_at "sxf"); (case hn_81 => decide); (case hd_81 => decide); (with_reducible refine ev_bin ?_); (with_reducible refine ev_name (v := ?vv_83) (by assumption) ?hf_83 ?_ ?hn_83 ?hd_83); (case hf_83 => walk_at "sxf"); (case hn_83 => decide); (case hd_83 => decide); (with_reducible refine ev_int ?_); (with_reducible refine op_sub_int ?_))
      rw [e1]
      refine item_list hD1 hvx ?_
      ((with_reducible refine evL_nil ?_); (with_reducible refine opL_len_str ?hg_87 ?_); (case hg_87 => walk_at "sxg"); (with_reducible refine op_lt_int ?_); (with_reducible refine exB ?_))
      refine ⟨fun hb => ?_, fun hb => ⟨fun h => (nomatch h), fun _ => out ?_⟩⟩
      · have hb1 : a < x.length := Int.ofNat_lt.mp (of_decide_eq_true hb)
        have hb2 := hin hb1
        have q1 : x[a]? = some x[a] := List.getElem?_eq_getElem hb1
        have q2 : y[a]? = some y[a] := List.getElem?_eq_getElem hb2
        rw [q1, q2] at hE
        refine allT_and ?_
        ((with_reducible refine tst_cmp ?_ ?hs_90); (case hs_90 => with_unfolding_all rfl); (with_reducible refine ev_sub ?_ ?hs_91); (case hs_91 => (intro _ _; rfl)); (with_reducible refine ev_sub ?_ ?hs_92); (case hs_92 => (intro _ _; rfl)); (with_reducible refine ev_name (v := ?vv_93) (by assumption) ?hf_93 ?_ ?hn_93 ?hd_93); (case hf_93 => walk_at "sxf"); (case hn_93 => decide); (case hd_93 => decide); (with_reducible refine ev_bin ?_); (with_reducible refine ev_name (v := ?vv_95) (by assumption) ?hf_95 ?_ ?hn_95 ?hd_95); (case hf_95 => walk_at "sxf"); (case hn_95 => decide); (case hd_95 => decide); (with_reducible refine ev_int ?_); (with_reducible refine op_sub_int ?_))
        rw [e1]
        refine item_list hD1 hvx ?_
        ((with_reducible refine ev_name (v := ?vv_98) (by assumption) ?hf_98 ?_ ?hn_98 ?hd_98); (case hf_98 => walk_at "sxf"); (case hn_98 => decide); (case hd_98 => decide); (with_reducible refine item_str (c := ?cc_99) ?hg_99 ?hi_99 ?_); (case hi_99 => assumption); (case hg_99 => walk_at "sxg"); (with_reducible refine ev_name (v := ?vv_100) (by assumption) ?hf_100 ?_ ?hn_100 ?hd_100); (case hf_100 => walk_at "sxf"); (case hn_100 => decide); (case hd_100 => decide); (with_reducible refine op_in_str ?_); (with_reducible refine exB ?_))
        rw [hasSub_one]
        refine ⟨fun hb => ?_, fun hb => ⟨fun h => (nomatch h), fun _ => out ?_⟩⟩
        · have hin1 := of_decide_eq_true hb
          refine allT_and ?_
          ((with_reducible refine tst_cmp ?_ ?hs_103); (case hs_103 => with_unfolding_all rfl); (with_reducible refine ev_sub ?_ ?hs_104); (case hs_104 => (intro _ _; rfl)); (with_reducible refine ev_sub ?_ ?hs_105); (case hs_105 => (intro _ _; rfl)); (with_reducible refine ev_name (v := ?vv_106) (by assumption) ?hf_106 ?_ ?hn_106 ?hd_106); (case hf_106 => walk_at "sxf"); (case hn_106 => decide); (case hd_106 => decide); (with_reducible refine ev_name (v := ?vv_107) (by assumption) ?hf_107 ?_ ?hn_107 ?hd_107); (case hf_107 => walk_at "sxf"); (case hn_107 => decide); (case hd_107 => decide))
          refine item_list hD1 hvy ?_
          ((with_reducible refine ev_name (v := ?vv_108) (by assumption) ?hf_108 ?_ ?hn_108 ?hd_108); (case hf_108 => walk_at "sxf"); (case hn_108 => decide); (case hd_108 => decide); (with_reducible refine item_str (c := ?cc_109) ?hg_109 ?hi_109 ?_); (case hi_109 => assumption); (case hg_109 => walk_at "sxg"); (with_reducible refine ev_name (v := ?vv_110) (by assumption) ?hf_110 ?_ ?hn_110 ?hd_110); (case hf_110 => walk_at "sxf"); (case hn_110 => decide); (case hd_110 => decide); (with_reducible refine op_in_str ?_); (with_reducible refine exB ?_))
          rw [hasSub_one]
          refine ⟨fun hb => ?_, fun hb => ⟨fun h => (nomatch h), fun _ => out ?_⟩⟩
          · have hin2 := of_decide_eq_true hb
            refine allT_and_nil ⟨fun _ => ?_, fun h => (nomatch h)⟩
            refine exs_cons (ex_aug okn (by rfl) (tr_load okn (by walk_at "sxf") ?_ (by decide)))
            ((with_reducible refine ev_int ?_); (with_reducible refine op_iadd_int ?_))
            have hz : z + 1 = ((Sx.alike (esc09 k x) (esc09 k y) : Nat) : Int) := by rw [hE]; show z + 1 = z + ((if x[a] ∈ row09 k ∧ y[a] ∈ row09 k then 1 else 0 : Nat) : Int); rw [if_pos ⟨hin1, hin2⟩]; rfl
            rw [hz]
            exact exs_nil (hQ2 _ ⟨by walk_at "sxf", by walk_at "sxf", by walk_at "sxf", by walk_at "sxf", by walk_at "sxf", by walk_at "sxf"⟩)
          · rw [hE]; show z = z + ((if x[a] ∈ row09 k ∧ y[a] ∈ row09 k then 1 else 0 : Nat) : Int); rw [if_neg fun h => of_decide_eq_false hb h.2]; exact (Int.add_zero z).symm
        · rw [hE]; show z = z + ((if x[a] ∈ row09 k ∧ y[a] ∈ row09 k then 1 else 0 : Nat) : Int); rw [if_neg fun h => of_decide_eq_false hb h.1]; exact (Int.add_zero z).symm
      · have hb1 : x.length ≤ a := Nat.not_lt.mp fun h => of_decide_eq_false hb (Int.ofNat_lt.mpr h)
        rw [hE, List.getElem?_eq_none hb1]; exact (Int.add_zero z).symm
    · rintro σ2 ⟨k1, k2, k3, k4, k5, k6⟩
      ((refine exs_cons ?_); (with_reducible refine ex_if ?_))
      refine tst_cmp ?_ (by with_unfolding_all rfl)
      refine ev_fn okn hG (by kernel_rfl) (by rfl) (callee_of (fnAt_of (a := 44) I.hF (by rfl) (by rfl) (by rfl) (by rfl) (by rfl) (by rfl) (by rfl) (by rfl) (by rfl))) ?_ (by rfl) (by rfl) (by decide)
      ((with_reducible refine evL_cons ?_ ?hs_115); (case hs_115 => rfl); (with_reducible refine ev_sub ?_ ?hs_116); (case hs_116 => (intro _ _; rfl)); (with_reducible refine ev_name (v := ?vv_117) (by assumption) ?hf_117 ?_ ?hn_117 ?hd_117); (case hf_117 => walk_at "sxf"); (case hn_117 => decide); (case hd_117 => decide); (with_reducible refine ev_bin ?_); (with_reducible refine ev_name (v := ?vv_119) (by assumption) ?hf_119 ?_ ?hn_119 ?hd_119); (case hf_119 => walk_at "sxf"); (case hn_119 => decide); (case hd_119 => decide); (with_reducible refine ev_int ?_); (with_reducible refine op_sub_int ?_))
      rw [e1]
      refine item_list hD2 hex ?_
      ((with_reducible refine evL_cons ?_ ?hs_122); (case hs_122 => rfl); (with_reducible refine ev_sub ?_ ?hs_123); (case hs_123 => (intro _ _; rfl)); (with_reducible refine ev_name (v := ?vv_124) (by assumption) ?hf_124 ?_ ?hn_124 ?hd_124); (case hf_124 => walk_at "sxf"); (case hn_124 => decide); (case hd_124 => decide); (with_reducible refine ev_name (v := ?vv_125) (by assumption) ?hf_125 ?_ ?hn_125 ?hd_125); (case hf_125 => walk_at "sxf"); (case hn_125 => decide); (case hd_125 => decide))
      refine item_list hD2 hey ?_
      ((with_reducible refine evL_nil ?_))
      refine OpL.eq (c_alike (n := n + 7) okn ⟨I.hF, I.hG⟩ (esc09_le hk3 hx67) (esc09_le hk3 hy67)) ?_
      ((with_reducible refine ev_name (v := ?vv_127) (by assumption) ?hf_127 ?_ ?hn_127 ?hd_127); (case hf_127 => walk_at "sxf"); (case hn_127 => decide); (case hd_127 => decide); (with_reducible refine op_ne_int ?_); (with_reducible refine exB ?_))
      refine ⟨fun hb => ?_, fun _ => ?_⟩
      · simp at hb
      · exact exs_nil (exs_nil (hQ1 _ ⟨k1, k2, k3, k4⟩))
  · rintro σ1 ⟨g1, g2, g3, g4⟩
    refine exs_nil ?_
    ((refine exs_cons ?_); (with_reducible refine ex_return ?_))
    ((with_reducible refine ev_bool ?_))
    exact hQ _
set_option maxHeartbeats 8000000 in
theorem walk09 {W : Wd} {A : Around} {L : Addr} {q : Str} {n : Nat} (okn : (fnCx W A (fdAt (F09 W.w) 49).scope L 49 q (fdAt (F09 W.w) 49).code).Ok (n + 8)) (I : In09 (fnCx W A (fdAt (F09 W.w) 49).scope L 49 q (fdAt (F09 W.w) 49).code)) (hL : LamAt W 48 46) {xs : List Int} (hx : xs.length ≤ 63) :
    ExsP (fnCx W A (fdAt (F09 W.w) 49).scope L 49 q (fdAt (F09 W.w) 49).code) 46 [("script", .val (.lst (xs.map V.int)))] (bdAt (F09 W.w) 49) (fun fl _ => fl.v = .bool true) := by
  have hG : (fnCx W A (fdAt (F09 W.w) 49).scope L 49 q (fdAt (F09 W.w) 49).code).W.gls = _ := I.hG
  have hsz : sizeLine = 16777216 := sizeLine_eq
  refine exsP_append (pre := [_, _, _, _, _, _]) (rest := _) ?_
  ((refine exs_cons ?_); (with_reducible refine ex_assign (by assumption) ?hx_1 ?hs_1 ?_); (case hx_1 => kernel_rfl); (case hs_1 => exact swaps_no (by rfl)))
  refine ev_fn okn hG (by kernel_rfl) (by rfl) (callee_of (fnAt_of (a := 37) I.hF (by rfl) (by rfl) (by rfl) (by rfl) (by rfl) (by rfl) (by rfl) (by rfl) (by rfl))) ?_ (by rfl) (by rfl) (by decide)
  ((with_reducible refine evL_cons ?_ ?hs_11); (case hs_11 => rfl); (with_reducible refine ev_name (v := ?vv_12) (by assumption) ?hf_12 ?_ ?hn_12 ?hd_12); (case hf_12 => walk_at "sxf"); (case hn_12 => decide); (case hd_12 => decide); (with_reducible refine evL_nil ?_))
  refine OpL.eq (c_words (n := n + 7) okn ⟨I.hF, I.hG⟩ hx) ?_
  ((refine exs_cons ?_); (with_reducible refine ex_assign (by assumption) ?hx_2 ?hs_2 ?_); (case hx_2 => kernel_rfl); (case hs_2 => exact swaps_no (by rfl)))
  ((with_reducible refine ev_bin ?_); (with_reducible refine ev_fn (w := ?ww_15) (L := ?LL_15) (by assumption) ?hGG_15 ?h1_15 ?h2_15 ?hc_15 ?_ ?h3_15 ?h4_15 ?h5_15); (case hGG_15 => assumption); (case h1_15 => kernel_rfl); (case h2_15 => rfl); (case hc_15 => exact .bi); (case h3_15 => rfl); (case h4_15 => rfl); (case h5_15 => decide); (with_reducible refine evL_cons ?_ ?hs_16); (case hs_16 => rfl))
  refine ev_ofF ?_
  refine evF_listComp (fv := []) okn (compOk_of (by kernel_rfl)) ?_
  ((with_reducible refine ev_name (v := ?vv_17) (by assumption) ?hf_17 ?_ ?hn_17 ?hd_17); (case hf_17 => walk_at "sxf"); (case hn_17 => decide); (case hd_17 => decide))
  refine ⟨_, rfl, trivial, by rw [List.length_map]; omega, fun cl L' okc => ?_⟩
  refine lloop_map (fun σ => True) (fun v => match v with | .int i => .int (i.fdiv 17) | _ => .none) _ _ _ trivial ?_ ?_
  · intro x hx σ hJ
    obtain ⟨i, hi, rfl⟩ := List.mem_map.mp hx
    refine asg_name okc (by kernel_rfl) ?_
    ((with_reducible refine ev_bin ?_); (with_reducible refine ev_name (v := ?vv_19) (by assumption) ?hf_19 ?_ ?hn_19 ?hd_19); (case hf_19 => walk_at "sxf"); (case hn_19 => decide); (case hd_19 => decide); (with_reducible refine ev_int ?_); (with_reducible refine op_div_int ?hg_21 ?hp_21 ?_); (case hg_21 => walk_at "sxg"); (case hp_21 => exact PyProof.noPylong_of_log2 (by decide +kernel)))
    exact ⟨rfl, trivial⟩
  intro D
  ((with_reducible refine evL_nil ?_))
  have e3 : [] ++ List.map (fun v => match v with | V.int i => V.int (i.fdiv 17) | _ => V.none) (xs.map V.int) = (xs.map fun x : Int => x.fdiv 17).map V.int := by simp
  show OpL _ _ _ [V.lst ([] ++ List.map (fun v => match v with | V.int i => V.int (i.fdiv 17) | _ => V.none) (xs.map V.int))] _
  rw [e3]
  refine opL_sum okn ?_
  ((with_reducible refine ev_int ?_); (with_reducible refine op_mod_int ?hg_24 ?_); (case hg_24 => walk_at "sxg"))
  obtain ⟨k, hk, hk3⟩ : ∃ k : Nat, (xs.map fun x : Int => x.fdiv 17).sum.fmod 3 = (k : Int) ∧ k < 3 := ⟨q09 xs, by
    have h1 := Int.fmod_nonneg_of_pos (xs.map fun x : Int => x.fdiv 17).sum (b := 3) (by decide)
    unfold q09; omega, by
    have h1 := Int.fmod_nonneg_of_pos (xs.map fun x : Int => x.fdiv 17).sum (b := 3) (by decide)
    have h2 := Int.fmod_lt_of_pos (xs.map fun x : Int => x.fdiv 17).sum (b := 3) (by decide)
    unfold q09; omega⟩
  rw [hk]
  have hw1 := words09_pos xs
  have hw2 := words09_le xs
  generalize words09 xs = ws at hw1 hw2 ⊢
  ((refine exs_cons ?_); (with_reducible refine ex_assign (by assumption) ?hx_3 ?hs_3 ?_); (case hx_3 => kernel_rfl); (case hs_3 => exact swaps_no (by rfl)))
  ((with_reducible refine ev_sub ?_ ?hs_25); (case hs_25 => (intro _ _; rfl)))
  refine ev_ofF ?_
  refine evF_list ?_
  ((with_reducible refine evL_cons ?_ ?hs_26); (case hs_26 => rfl))
  refine ev_ofF ?_
  refine evF_dict0 okn fun a1 => ?_
  ((with_reducible refine evL_cons ?_ ?hs_27); (case hs_27 => rfl))
  ((with_reducible refine ev_ofF ?_); (with_reducible refine evF_dictE (by assumption) ?_ ?h1_7 ?h2_7 ?h3_7 ?h4_7); (case h1_7 => rfl); (case h2_7 => rfl); (case h3_7 => rfl); (case h4_7 => exact Nat.le_of_ble_eq_true (by rfl)))
  iterate 3 ((with_reducible refine evD_cons ?_); (with_reducible refine ev_str ?_); (refine ⟨.s _, rfl, ?_⟩); (with_reducible refine ev_str ?_))
  refine evD_nil fun a2 => ?_
  ((with_reducible refine evL_cons ?_ ?hs_28); (case hs_28 => rfl))
  ((with_reducible refine ev_ofF ?_); (with_reducible refine evF_dictE (by assumption) ?_ ?h1_8 ?h2_8 ?h3_8 ?h4_8); (case h1_8 => rfl); (case h2_8 => rfl); (case h3_8 => rfl); (case h4_8 => exact Nat.le_of_ble_eq_true (by rfl)))
  iterate 4 ((with_reducible refine evD_cons ?_); (with_reducible refine ev_str ?_); (refine ⟨.s _, rfl, ?_⟩); (with_reducible refine ev_str ?_))
  refine evD_nil fun a3 => ?_
  ((with_reducible refine evL_nil ?_))
  refine ⟨szc 3, fun a4 => ?_⟩
  ((with_reducible refine ev_name (v := ?vv_30) (by assumption) ?hf_30 ?_ ?hn_30 ?hd_30); (case hf_30 => walk_at "sxf"); (case hn_30 => decide); (case hd_30 => decide))
  refine item_list (l := [V.dct (tabV (tab09 0)), V.dct (tabV (tab09 1)), V.dct (tabV (tab09 2))]) (i := k) (v := .dct (tabV (tab09 k))) (szc 3) (by match k, hk3 with | 0, _ => rfl | 1, _ => rfl | 2, _ => rfl) ?_
  ((refine exs_cons ?_); (with_reducible refine ex_assignN (by assumption) ?hx_6 ?hs_6 ?_); (case hx_6 => kernel_rfl); (case hs_6 => exact swaps_no (by rfl)))
  refine evF_fn okn hG (by kernel_rfl) (by rfl) .ty ?_ (by rfl) (by rfl) (by decide)
  ((with_reducible refine evL_cons ?_ ?hs_31); (case hs_31 => rfl); (with_reducible refine ev_meth ?_ ?h1_32 ?h2_32 ?h3_32 ?h4_32); (case h1_32 => rfl); (case h2_32 => rfl); (case h3_32 => rfl); (case h4_32 => rfl); (with_reducible refine ev_name (v := ?vv_33) (by assumption) ?hf_33 ?_ ?hn_33 ?hd_33); (case hf_33 => walk_at "sxf"); (case hn_33 => decide); (case hd_33 => decide); (with_reducible refine ⟨_, _, methOk_dct PySem.F.slot_dict_items PySem.F.type_dict_items, ?_⟩); (with_reducible refine evL_nil ?_); (with_reducible refine opL_items ?_); (with_reducible refine evL_nil ?_))
  have htl : (tabV (tab09 k)).length ≤ 4 := by match k, hk3 with | 0, _ => decide | 1, _ => decide | 2, _ => decide
  refine opF_listItems okn (Nat.le_trans htl (szc 4)) fun aB => ?_
  ((refine exs_cons ?_); (with_reducible refine ex_assign (by assumption) ?hx_4 ?hs_4 ?_); (case hx_4 => kernel_rfl); (case hs_4 => exact swaps_no (by rfl)))
  ((with_reducible refine ev_sub ?_ ?hs_38); (case hs_38 => (intro _ _; rfl)))
  refine ev_ofF ?_
  refine evF_list ?_
  ((with_reducible refine evL_cons ?_ ?hs_39); (case hs_39 => rfl); (with_reducible refine ev_str ?_); (with_reducible refine evL_cons ?_ ?hs_41); (case hs_41 => rfl); (with_reducible refine ev_str ?_); (with_reducible refine evL_cons ?_ ?hs_43); (case hs_43 => rfl); (with_reducible refine ev_str ?_); (with_reducible refine evL_nil ?_))
  refine ⟨szc 3, fun a5 => ?_⟩
  ((with_reducible refine ev_name (v := ?vv_46) (by assumption) ?hf_46 ?_ ?hn_46 ?hd_46); (case hf_46 => walk_at "sxf"); (case hn_46 => decide); (case hd_46 => decide))
  refine item_list (l := [V.str (row09 0), V.str (row09 1), V.str (row09 2)]) (i := k) (v := .str (row09 k)) (szc 3) (by match k, hk3 with | 0, _ => rfl | 1, _ => rfl | 2, _ => rfl) ?_
  ((refine exs_cons ?_); (with_reducible refine ex_assign (by assumption) ?hx_5 ?hs_5 ?_); (case hx_5 => kernel_rfl); (case hs_5 => exact swaps_no (by rfl)))
  ((with_reducible refine ev_sub ?_ ?hs_47); (case hs_47 => (intro _ _; rfl)))
  refine ev_ofF ?_
  refine evF_list ?_
  ((with_reducible refine evL_cons ?_ ?hs_48); (case hs_48 => rfl))
  refine ev_ofF ?_
  refine evF_list ?_
  ((with_reducible refine evL_cons ?_ ?hs_49); (case hs_49 => rfl); (with_reducible refine ev_int ?_); (with_reducible refine evL_cons ?_ ?hs_51); (case hs_51 => rfl); (with_reducible refine ev_int ?_); (with_reducible refine evL_cons ?_ ?hs_53); (case hs_53 => rfl); (with_reducible refine ev_int ?_); (with_reducible refine evL_nil ?_))
  refine ⟨szc 3, fun a6 => ?_⟩
  ((with_reducible refine evL_cons ?_ ?hs_56); (case hs_56 => rfl))
  refine ev_ofF ?_
  refine evF_list ?_
  ((with_reducible refine evL_cons ?_ ?hs_57); (case hs_57 => rfl); (with_reducible refine ev_int ?_); (with_reducible refine evL_cons ?_ ?hs_59); (case hs_59 => rfl); (with_reducible refine ev_int ?_); (with_reducible refine evL_cons ?_ ?hs_61); (case hs_61 => rfl); (with_reducible refine ev_int ?_); (with_reducible refine evL_cons ?_ ?hs_63); (case hs_63 => rfl); (with_reducible refine ev_int ?_); (with_reducible refine evL_cons ?_ ?hs_65); (case hs_65 => rfl); (with_reducible refine ev_int ?_); (with_reducible refine evL_nil ?_))
  refine ⟨szc 5, fun a7 => ?_⟩
  ((with_reducible refine evL_cons ?_ ?hs_68); (case hs_68 => rfl))
  refine ev_ofF ?_
  refine evF_list ?_
  ((with_reducible refine evL_cons ?_ ?hs_69); (case hs_69 => rfl); (with_reducible refine ev_int ?_); (with_reducible refine evL_cons ?_ ?hs_71); (case hs_71 => rfl); (with_reducible refine ev_int ?_); (with_reducible refine evL_cons ?_ ?hs_73); (case hs_73 => rfl); (with_reducible refine ev_int ?_); (with_reducible refine evL_cons ?_ ?hs_75); (case hs_75 => rfl); (with_reducible refine ev_int ?_); (with_reducible refine evL_cons ?_ ?hs_77); (case hs_77 => rfl); (with_reducible refine ev_int ?_); (with_reducible refine evL_cons ?_ ?hs_79); (case hs_79 => rfl); (with_reducible refine ev_int ?_); (with_reducible refine evL_nil ?_))
  refine ⟨szc 6, fun a8 => ?_⟩
  ((with_reducible refine evL_nil ?_))
  refine ⟨szc 3, fun a9 => ?_⟩
  ((with_reducible refine ev_name (v := ?vv_83) (by assumption) ?hf_83 ?_ ?hn_83 ?hd_83); (case hf_83 => walk_at "sxf"); (case hn_83 => decide); (case hd_83 => decide))
  refine item_list (l := [V.lst ((siz09 0).map V.int), V.lst ((siz09 1).map V.int), V.lst ((siz09 2).map V.int)]) (i := k) (v := .lst ((siz09 k).map V.int)) (szc 3) (by match k, hk3 with | 0, _ => rfl | 1, _ => rfl | 2, _ => rfl) ?_
  refine exs_nil ?_
  show ExsP _ _ _ _ _
  refine exsP_sortKey (n := n + 6) (y := "row") (prm := "word") (ss := ws) (row := row09 k) (κ := key09 (row09 k)) okn rfl hL rfl (by kernel_rfl) (by kernel_rfl) (by rw [hG]; rfl) (by walk_at "sxf") (by decide) (by decide) (by omega) (by walk_at "sxf") (by kernel_rfl)
    (by rfl) (by decide) (fun _ _ _ _ _ _ _ => rfl) (by rfl) (by decide) (by rfl) (by rfl) (by rfl) (by rfl) (by rfl) (by decide) ?_ ?_
  · intro l hl A' L' f' q' cd' cl' okl
    refine evF_listComp (fv := ["row"]) okl (compOk_of (by kernel_rfl)) ?_
    ((with_reducible refine ev_name (v := ?vv_84) (by assumption) ?hf_84 ?_ ?hn_84 ?hd_84); (case hf_84 => walk_at "sxf"); (case hn_84 => decide); (case hd_84 => decide))
    refine ⟨_, rfl, trivial, by rw [List.length_map]; have := hw2 l hl; omega, fun cl L' okc => ?_⟩
    refine lloop_map (fun σ => find σ (Str.ofString "row") = some (.val (.str (row09 k)))) (fun v => match v with | .str [c] => .int (key1 (row09 k) c) | _ => .none) _ _ _ (by walk_at "sxf") ?_ ?_
    · intro v hv σ hJ
      obtain ⟨c, hc, rfl⟩ := List.mem_map.mp hv
      refine asg_name okc (by kernel_rfl) ?_
      ((with_reducible refine ev_ifexp ?_); (with_reducible refine tst_cmp ?_ ?hs_86); (case hs_86 => with_unfolding_all rfl); (with_reducible refine ev_name (v := ?vv_87) (by assumption) ?hf_87 ?_ ?hn_87 ?hd_87); (case hf_87 => walk_at "sxf"); (case hn_87 => decide); (case hd_87 => decide); (with_reducible refine ev_name (v := ?vv_88) (by assumption) ?hf_88 ?_ ?hn_88 ?hd_88); (case hf_88 => walk_at "sxf"); (case hn_88 => decide); (case hd_88 => decide); (with_reducible refine op_in_str ?_); (with_reducible refine exB ?_))
      rw [hasSub_one]
      refine ⟨fun hb => ?_, fun hb => ?_⟩
      · have hin : c ∈ row09 k := of_decide_eq_true hb
        ((with_reducible refine ev_bin ?_); (with_reducible refine ev_int ?_); (with_reducible refine ev_meth ?_ ?h1_93 ?h2_93 ?h3_93 ?h4_93); (case h1_93 => rfl); (case h2_93 => rfl); (case h3_93 => rfl); (case h4_93 => rfl); (with_reducible refine ev_name (v := ?vv_94) (by assumption) ?hf_94 ?_ ?hn_94 ?hd_94); (case hf_94 => walk_at "sxf"); (case hn_94 => decide); (case hd_94 => decide))
        refine ⟨_, _, methOk_str PySem.F.slot_str_index PySem.F.type_str_index, ?_⟩
        ((with_reducible refine evL_cons ?_ ?hs_95); (case hs_95 => rfl); (with_reducible refine ev_name (v := ?vv_96) (by assumption) ?hf_96 ?_ ?hn_96 ?hd_96); (case hf_96 => walk_at "sxf"); (case hn_96 => decide); (case hd_96 => decide); (with_reducible refine evL_nil ?_))
        refine opL_index hin ?_
        ((with_reducible refine op_add_int ?_))
        exact ⟨by show _ = V.int (key1 (row09 k) c); unfold key1; rw [if_pos hin], by walk_at "sxf"⟩
      · have hin : c ∉ row09 k := of_decide_eq_false hb
        ((with_reducible refine ev_bin ?_); (with_reducible refine ev_int ?_); (with_reducible refine ev_fn (w := ?ww_101) (L := ?LL_101) (by assumption) ?hGG_101 ?h1_101 ?h2_101 ?hc_101 ?_ ?h3_101 ?h4_101 ?h5_101); (case hGG_101 => assumption); (case h1_101 => kernel_rfl); (case h2_101 => rfl); (case hc_101 => exact .bi); (case h3_101 => rfl); (case h4_101 => rfl); (case h5_101 => decide); (with_reducible refine evL_cons ?_ ?hs_102); (case hs_102 => rfl); (with_reducible refine ev_name (v := ?vv_103) (by assumption) ?hf_103 ?_ ?hn_103 ?hd_103); (case hf_103 => walk_at "sxf"); (case hn_103 => decide); (case hd_103 => decide); (with_reducible refine evL_nil ?_))
        refine opL_ord ?_
        refine op_mul_int (.of_left (by decide)) ?_
        exact ⟨by show _ = V.int (key1 (row09 k) c); unfold key1; rw [if_neg hin], by walk_at "sxf"⟩
    · exact fun D => ⟨D, by rw [List.nil_append, List.map_map, key09, List.map_map]; rfl⟩
  · intro aD due hp hs
    refine Tr.freeze (x := "due") (by walk_at "sxf") rfl ?_ (by decide)
    refine Tr.freeze (x := "before") (by walk_at "sxf") rfl ?_ (by decide)
    exact end09 (n := n) okn I hk3 hw1.1 (Nat.le_trans hw1.2 (by omega)) (fun w hw => Nat.le_trans (hw2 w hw) (by omega)) hp hs (by walk_at "sxf") (by walk_at "sxf") (by walk_at "sxf") (by walk_at "sxf") (by walk_at "sxf") (by walk_at "sxf") (fun _ => rfl)
theorem lookup_mem {l : List (String × Value)} {x : String} {v : Value} (h : l.lookup x = some v) : (x, v) ∈ l := by
  induction l with
  | nil => cases h
  | cons p r ih =>
    obtain ⟨y, u⟩ := p
    rw [List.lookup_cons] at h
    split at h
    · rename_i hb
      have hb := eq_of_beq hb
      injection h with h
      subst hb; subst h
      exact List.mem_cons_self
    · exact List.mem_cons_of_mem _ (ih h)
theorem ints_rep {W : Wd} {g : PH} {vs : List Value} {ns : List Int} (h : IntsAre vs ns) : RepL W g (ns.map V.int) vs := by
  induction h with
  | nil => exact .nil
  | cons n t _ ih => exact .cons (.int n t) ih
theorem oldK_one {h h' : Heap} {c P : Addr} (hd : CodeHd h c P) (hP : h.get? P = some (tabObj #[])) (hk : ∀ b o, b ≠ P → h.get? b = some o → h'.get? b = some o) (hg : ∃ ps, h'.get? P = some (tabObj ps)) : OldK h h' := by
  obtain ⟨ps, hg⟩ := hg
  refine ⟨fun b o e => ?_, fun b o e => ?_⟩
  · by_cases hb : b = P
    · subst hb
      rw [hP] at e
      injection e with e
      subst e
      exact .inr (.inl ⟨(hd.tab hP).isCodeTable, rfl, #[], ps, rfl, by rw [Array.empty_append]; exact hg⟩)
    · exact .inl (hk b o hb e)
  · by_cases hb : b = P
    · subst hb
      exact ⟨_, hg⟩
    · exact ⟨o, hk b o hb e⟩
set_option maxHeartbeats 8000000 in
theorem join09 : PySem.Challenge.rw_kp0118_09.Holds := by
  rw [rw_eq09]
  w_on
  o_law
  o_head (kHook K09 [2, 3, 20, 21, 22, 23, 29, 30, 36, 37, 43, 44, 48, 49] (fun _ => by kernel_rfl))
  (case hw => w_witness2)
  intro w s₀ s₁ mg mb G Y fa o pm cd doc dV kV ho hd hcd hD hmg hg args vals as hpre hlay hrd hwl hlo
  have KX := kIn_of Y
  refine Ground.open G ?_
  intro T B D TE TW
  have h1 : mg "law" = some (.ref 49) := mg_of KX T.g (by kernel_rfl)
  have hfa : fa = 49 := by
    have h2 := h1.symm.trans hmg
    injection h2 with h2; injection h2 with h2; exact h2.symm
  clear hd hmg hD hcd
  subst hfa
  have hT0 : CodeHd s₁.heap 48 46 ∧ s₁.heap.get? 46 = some (tabObj #[]) := tab_of (x := Str.ofString "law") (c := 48) (P := 46) T KX rfl (by kernel_rfl)
  have hT : TabsAt [(48, 46)] s₁.heap := List.forall_mem_cons.mpr ⟨hT0, fun _ h => nomatch h⟩
  have KX' := ghost_K hT KX (by kernel_rfl)
  have T' := ghost_top hT T
  have C' := ghost_code hT
  obtain ⟨W, hW0⟩ : ∃ W, W = Wd.mk r09.row.prog w (ghostOf s₁.heap [(48, 46)]) [("dict_replace_saxutils", .ref 21), ("escape", .ref 30), ("_law_words", .ref 37), ("_law_alike", .ref 44), ("sum", .builtin "sum"), ("ord", .builtin "ord"), ("len", .builtin "len"), ("sorted", .builtin "sorted"), ("range", .type "range"), ("list", .type "list")] := ⟨_, rfl⟩
  have hdo : W.Ok := by
    rw [hW0]
    refine ⟨?_, T'.nolimit, mg, mb, T'.g, T'.b, ?_⟩
    · obtain ⟨mm, hm, _⟩ := (T.seer (by rfl)).mods
      obtain ⟨o, es, ep, ho, hd, _⟩ := hm
      show ((ghostOf s₁.heap [(48, 46)]).get? sysModules).isSome = true
      rw [ghost_get hT ho (fun q => by rw [q] at hd; cases hd)]; rfl
    · intro x v hx
      have hx := lookup_mem hx
      simp only [List.mem_cons, List.not_mem_nil, or_false, Prod.mk.injEq] at hx
      rcases hx with ⟨rfl, rfl⟩ | ⟨rfl, rfl⟩ | ⟨rfl, rfl⟩ | ⟨rfl, rfl⟩ | ⟨rfl, rfl⟩ | ⟨rfl, rfl⟩ | ⟨rfl, rfl⟩ | ⟨rfl, rfl⟩ | ⟨rfl, rfl⟩ | ⟨rfl, rfl⟩
      iterate 4 (exact .inl (mg_of KX T.g (by kernel_rfl)))
      iterate 6 (exact .inr ⟨mg_none_of KX T.g (by kernel_rfl), by rw [T.builtins _ (by decide)]; rfl⟩)
  have hL : LamAt W 48 46 := by
    rw [hW0]
    obtain ⟨bm, ob, a1, a2, a3, a4, r⟩ := T'.bmain
    exact ⟨C'.1, mg, bm, ob, T'.g, a1, a2, a3, a4, r⟩
  have hI : (F09 w).In W.h₀ := by rw [hW0]; exact KX'
  have hGl : W.gls = [("dict_replace_saxutils", .ref 21), ("escape", .ref 30), ("_law_words", .ref 37), ("_law_alike", .ref 44), ("sum", .builtin "sum"), ("ord", .builtin "ord"), ("len", .builtin "len"), ("sorted", .builtin "sorted"), ("range", .type "range"), ("list", .type "list")] := by rw [hW0]
  have hWw : W.w = w := by rw [hW0]
  have hWp : W.prog = r09.row.prog := by rw [hW0]
  have hbase : ∀ b o, W.h₀.get? b = some o → b ≠ 46 ∧ s₁.heap.get? b = some o := fun b o e => by
    rw [hW0] at e
    refine ⟨fun q => ?_, of_hideAll _ e⟩
    subst q
    have e2 : (ghostOf s₁.heap [(48, 46)]).get? 46 = none := hideAll_none [46] List.mem_cons_self
    cases e2.symm.trans e
  clear T B D TE TW Y G T' C' KX' KX h1 ho hW0
  wrow_args hpre hlay hrd hwl hlo
  rename_i sc _ _ _ _ _ _ _ a xs _ hLs _ w1 r0 hIs _ hc _
  have hsc : sc.length ≤ 63 := by omega
  subst hWw
  rw [← hWp]
  have fn : FnAt W 49 (fdAt (F09 W.w) 49) (bdAt (F09 W.w) 49) :=
    fnAt_of (a := 49) hI (by rfl) (by rfl) (by rfl) (by rfl) (by rfl) (by rfl) (by rfl) (by rfl) (by rfl)
  refine fn_callP (n := 14) (p := "script") (v := .lst (sc.map V.int)) (P := 46) hdo rfl (by decide) (by decide) fn hbase hT0.2 ?_ ?_ (by rfl) (by rfl) ?_ ?_
  · have hb : BindsTo s₁ (fdAt (F09 W.w) 49) ⟨[Value.ref a], []⟩ ((["script"].map Str.ofString).zip ([Value.ref a] ++ [])) := binds_plain (fd := fdAt (F09 W.w) 49) (ps := ["script"]) (n := 1) (fun ws hl => by
      obtain ⟨a, rfl⟩ := len1 hl
      rfl) s₁ [Value.ref a] rfl
    exact hb
  · obtain ⟨o2, ho2, hc2, n2, hd2⟩ := hLs
    cases w1 with
    | list hw _ =>
      have e := ho2.symm.trans hw
      injection e with e
      subst e
      refine .lst (view_mk (fun hm => ?_) ho2) hc2 rfl hd2 (ints_rep hIs)
      have hm := List.mem_singleton.mp hm
      rw [hm, hT0.2] at ho2
      cases ho2
  · intro A L q okn
    exact walk09 (n := 6) okn ⟨hI, hGl⟩ hL hsc
  · rintro s' ⟨h', tk, rfl⟩ hk hP'
    refine ⟨.inl ⟨.bool true, .bool true, [], rfl, raisesW_false ?_, .bool true, ?_, unshared_nil⟩, oldK_one hT0.1 hT0.2 hk hP', rfl, .of_eq hg⟩
    · wrow_none_raised
    · wrow_post
end Sx
end
theorem PySem.Challenge.cw_kp0118_09_holds : PySem.Challenge.rw_kp0118_09.Holds := by
  exact Sx.join09
