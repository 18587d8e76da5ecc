import PyProof.Rows.All
import Wide.All
import OpenK.AllK
import Wide.FinOn
import Lean
import PySem.Challenge.RW_kp0118_05
set_option Elab.async false
set_option maxRecDepth 100000
set_option compiler.extract_closed false
set_option genSizeOf false
section
open PySem PySem.W PyProof.Rows
set_option Elab.async false
set_option maxRecDepth 100000
namespace Sx

/-! ## values -/
noncomputable abbrev S := List Nat
noncomputable abbrev lit (s : String) : S := s.toList.map Char.toNat
noncomputable def mkS (l : S) : Str := ⟨l.toArray⟩

inductive Key where
  | s (l : S)
  | i (n : Int)
  deriving DecidableEq

inductive V where
  | none
  | bool (b : Bool)
  | int (i : Int)
  | str (l : S)
  | txt (l : S)
  | bytes (b : Array UInt8)
  | tup (vs : List V)
  | lst (vs : List V)
  | dct (es : List (Key × V))
  | rng (a b : Int)
  | items (es : List (Key × V))
  | val (v : Value)

noncomputable def Key.v : Key → V
  | .s l => .str l
  | .i n => .int n

noncomputable abbrev TM := Tok → Option S
structure PH where
  ob : Addr → Option Obj
  tk : TM

theorem mkS_inj {a b : S} (h : mkS a = mkS b) : a = b := by
  unfold mkS at h; injection h with h; exact congrArg Array.toList h
theorem mkS_toList (x : Str) : mkS x.cps.toList = x := by cases x; rfl
@[simp] theorem mkS_cps (l : S) : (mkS l).cps.toList = l := rfl

noncomputable def Key.is : Key → Value → Bool
  | .s l, .str x _ => decide (x = mkS l)
  | .i n, .int m _ => decide (m = n)
  | _, _ => false

theorem Key.is_s {l : S} {v : Value} (h : (Key.s l).is v = true) : ∃ t, v = .str (mkS l) t := by
  cases v <;> simp_all [Key.is]
theorem Key.is_i {n : Int} {v : Value} (h : (Key.i n).is v = true) : ∃ t, v = .int n t := by
  cases v <;> simp_all [Key.is]
theorem Key.is_inj (v : Value) (a b : Key) (ha : a.is v = true) (hb : b.is v = true) : a = b := by
  cases a with
  | s l =>
    obtain ⟨t, rfl⟩ := Key.is_s ha
    cases b with
    | s l' => obtain ⟨t', e⟩ := Key.is_s hb; injection e with e; rw [mkS_inj e]
    | i n => obtain ⟨t', e⟩ := Key.is_i hb; cases e
  | i n =>
    obtain ⟨t, rfl⟩ := Key.is_i ha
    cases b with
    | s l' => obtain ⟨t', e⟩ := Key.is_s hb; cases e
    | i n' => obtain ⟨t', e⟩ := Key.is_i hb; injection e with e; rw [e]

section
variable {prog : Program} {w : World} {A : Around} {E : Value → Shared → Prop} {s : Shared}
theorem eqBool_str_int {a : Str} {t : Tok} {b : Int} {u : Tok} {Q : Bool → Shared → Prop} (h : Q false s) : wpAny (model prog w) A (eqBool (.str a t) (.int b u)) Q E s := by
  unfold eqBool
  refine wpAny_holding ?_
  show wpAny _ _ (if (Value.str a t == Value.int b u) = true then _ else _) Q E s
  rw [if_neg (by simp)]
  exact wpAny_bind (EqMixed.eq_str_int (wpAny_truthy_bool h))
theorem eqBool_int_str {b : Str} {u : Tok} {a : Int} {t : Tok} {Q : Bool → Shared → Prop} (h : Q false s) : wpAny (model prog w) A (eqBool (.int a t) (.str b u)) Q E s := by
  unfold eqBool
  refine wpAny_holding ?_
  show wpAny _ _ (if (Value.int a t == Value.str b u) = true then _ else _) Q E s
  rw [if_neg (by simp)]
  exact wpAny_bind (EqMixed.eq_int_str (wpAny_truthy_bool h))
end

theorem key_eqBool {prog : Program} {w : World} {A : Around} {E : Value → Shared → Prop} {s : Shared} {a b : Key} {u v : Value} {Q : Bool → Shared → Prop} (hu : a.is u = true) (hv : b.is v = true) (h : Q (decide (a = b)) s) :
    wpAny (model prog w) A (eqBool u v) Q E s := by
  cases a with
  | s l =>
    obtain ⟨t, rfl⟩ := Key.is_s hu
    cases b with
    | s l' =>
      obtain ⟨t', rfl⟩ := Key.is_s hv
      refine wpAny_eqBool_str ?_
      have e : decide (mkS l = mkS l') = decide (Key.s l = Key.s l') := by
        by_cases q : l = l'
        · subst q; simp
        · rw [decide_eq_false (fun x => q (mkS_inj x)), decide_eq_false (fun x => q (by injection x))]
      rw [e]; exact h
    | i n => obtain ⟨t', rfl⟩ := Key.is_i hv; exact eqBool_str_int (by simpa using h)
  | i n =>
    obtain ⟨t, rfl⟩ := Key.is_i hu
    cases b with
    | s l' => obtain ⟨t', rfl⟩ := Key.is_s hv; exact eqBool_int_str (by simpa using h)
    | i n' =>
      obtain ⟨t', rfl⟩ := Key.is_i hv
      refine wpAny_eqBool_int ?_
      have e : (n == n') = decide (Key.i n = Key.i n') := by
        by_cases q : n = n'
        · subst q; simp
        · rw [decide_eq_false (fun x => q (by injection x))]; simp [q]
      rw [e]; exact h
theorem key_strs (k : Key) (x : Str) (t : Tok) (v : Value) (h : k.is (.str x t) = true) : k.is v = v.isStr x := by
  cases k with
  | s l =>
    obtain ⟨u, hu⟩ := Key.is_s h
    injection hu with hx
    subst hx
    cases v with
    | str y u' =>
      show decide (y = mkS l) = (y == mkS l)
      by_cases e : y = mkS l <;> simp [e]
    | _ => rfl
  | i n => obtain ⟨u, hu⟩ := Key.is_i h; cases hu

noncomputable def keyHash (w : World) : Key → Int
  | .s l => hashStr w (mkS l)
  | .i n => hashInt n

theorem key_pyHash {prog : Program} {w : World} {A : Around} {E : Value → Shared → Prop} {s : Shared} {k : Key} {v : Value} {Q : Int → Shared → Prop} (hv : k.is v = true) (h : Q (keyHash w k) { s with toks := s.toks + 1 }) :
    wpAny (model prog w) A (pyHash v) Q E s := by
  cases k with
  | s l => obtain ⟨t, rfl⟩ := Key.is_s hv; exact wpAny_pyHash_str h
  | i n => obtain ⟨t, rfl⟩ := Key.is_i hv; exact wpAny_pyHash_int h

noncomputable def mixKind (prog : Program) (w : World) : KeyKind prog w Key where
  is := Key.is
  hash := keyHash w
  inj := Key.is_inj
  byValue := fun k v h => by
    cases k with
    | s l => obtain ⟨t, rfl⟩ := Key.is_s h; rfl
    | i n => obtain ⟨t, rfl⟩ := Key.is_i h; rfl
  pyHash := key_pyHash
  eqBool := key_eqBool
  «strs» := key_strs

/-- what all frames of the run share -/
structure Wd where
  prog : Program
  w : World
  h₀ : Heap
  gls : List (String × Value)

noncomputable abbrev Wd.knd (W : Wd) : KeyKind W.prog W.w Key := mixKind W.prog W.w

mutual
inductive Rep (W : Wd) (g : PH) : V → Value → Prop
  | none : Rep W g .none .none
  | bool (b : Bool) : Rep W g (.bool b) (.bool b)
  | int (i : Int) (t : Tok) : Rep W g (.int i) (.int i t)
  | str {l : S} {t : Tok} : g.tk t = some l → Rep W g (.str l) (.str (mkS l) t)
  | txt (l : S) (t : Tok) : Rep W g (.txt l) (.str (mkS l) t)
  | bytes (b : Array UInt8) (t : Tok) : Rep W g (.bytes b) (.bytes b t)
  | tup {a : Addr} {o : Obj} {vs : List V} {ws : List Value} {n : Nat} : g.ob a = some o → o.cls = .type "tuple" → o.dict = Option.none → o.data = .seq ws.toArray n → RepL W g vs ws → Rep W g (.tup vs) (.ref a)
  | lst {a : Addr} {o : Obj} {vs : List V} {ws : List Value} {n : Nat} : g.ob a = some o → o.cls = .type "list" → o.dict = none → o.data = .seq ws.toArray n → RepL W g vs ws → Rep W g (.lst vs) (.ref a)
  | dct {a : Addr} {o : Obj} {es : List (Key × V)} {ds : List DictEntry} {kvs : List (Key × Value)} {n : Nat} : g.ob a = some o → (a == sysModules) = false → o.ExactDict → o.data = .dict ds.toArray n → RepD W g es ds kvs → (es.map (·.1)).Nodup → Rep W g (.dct es) (.ref a)
  | rng {r : Addr} {a b : Int} {t u v : Tok} : g.ob r = some { cls := .type "range", dict := none, data := .fields #[.int a t, .int b u, .int 1 v], slots := #[] } → Rep W g (.rng a b) (.ref r)
  | itm {v d : Addr} {o : Obj} {es : List (Key × V)} : g.ob v = some o → o.cls = .type "dict_items" → o.data = .fields #[.ref d] → Rep W g (.dct es) (.ref d) → Rep W g (.items es) (.ref v)
  | val (v : Value) : Rep W g (.val v) v
inductive RepL (W : Wd) (g : PH) : List V → List Value → Prop
  | nil : RepL W g [] []
  | cons {v : V} {w : Value} {vs : List V} {ws : List Value} : Rep W g v w → RepL W g vs ws → RepL W g (v :: vs) (w :: ws)
inductive RepD (W : Wd) (g : PH) : List (Key × V) → List DictEntry → List (Key × Value) → Prop
  | nil : RepD W g [] [] []
  | cons {k : Key} {v : V} {d : DictEntry} {es : List (Key × V)} {ds : List DictEntry} {kvs : List (Key × Value)} : Rep W g k.v d.key → d.hash = W.knd.hash k → Rep W g v d.val → RepD W g es ds kvs → RepD W g ((k, v) :: es) (d :: ds) ((k, d.val) :: kvs)
end

section
variable {W : Wd} {g : PH}
theorem Rep.int_inv {i : Int} {v : Value} (h : Rep W g (.int i) v) : ∃ t, v = .int i t := by cases h; exact ⟨_, rfl⟩
theorem Rep.bool_inv {i : Bool} {v : Value} (h : Rep W g (.bool i) v) : v = .bool i := by cases h; rfl
theorem Rep.str_inv {l : S} {v : Value} (h : Rep W g (.str l) v) : ∃ t, v = .str (mkS l) t ∧ g.tk t = some l := by cases h; exact ⟨_, rfl, by assumption⟩
theorem Rep.lst_inv {vs : List V} {v : Value} (h : Rep W g (.lst vs) v) : ∃ a o ws n, v = .ref a ∧ g.ob a = some o ∧ o.cls = .type "list" ∧ o.dict = Option.none ∧ o.data = .seq ws.toArray n ∧ RepL W g vs ws := by
  cases h with
  | lst h1 h2 h3 h4 r => exact ⟨_, _, _, _, rfl, h1, h2, h3, h4, r⟩
theorem Rep.tup_inv {vs : List V} {v : Value} (h : Rep W g (.tup vs) v) : ∃ a o ws n, v = .ref a ∧ g.ob a = some o ∧ o.cls = .type "tuple" ∧ o.data = .seq ws.toArray n ∧ RepL W g vs ws := by
  cases h with
  | tup h1 h2 hd h3 r => exact ⟨_, _, _, _, rfl, h1, h2, h3, r⟩
theorem Rep.tup_inv' {vs : List V} {v : Value} (h : Rep W g (.tup vs) v) : ∃ a o ws n, v = .ref a ∧ g.ob a = some o ∧ o.cls = .type "tuple" ∧ o.dict = Option.none ∧ o.data = .seq ws.toArray n ∧ RepL W g vs ws := by
  cases h with
  | tup h1 h2 hd h3 r => exact ⟨_, _, _, _, rfl, h1, h2, hd, h3, r⟩
theorem Rep.dct_inv {es : List (Key × V)} {v : Value} (h : Rep W g (.dct es) v) : ∃ a o ds kvs n, v = .ref a ∧ g.ob a = some o ∧ (a == sysModules) = false ∧ o.ExactDict ∧ o.data = .dict ds.toArray n ∧ RepD W g es ds kvs ∧ (es.map (·.1)).Nodup := by
  cases h with
  | dct h1 h0 h2 h3 r hn => exact ⟨_, _, _, _, _, rfl, h1, h0, h2, h3, r, hn⟩
theorem Rep.itm_inv {es : List (Key × V)} {v : Value} (h : Rep W g (.items es) v) : ∃ a d o, v = .ref a ∧ g.ob a = some o ∧ o.cls = .type "dict_items" ∧ o.data = .fields #[.ref d] ∧ Rep W g (.dct es) (.ref d) := by
  cases h with
  | itm h1 h2 h3 r => exact ⟨_, _, _, rfl, h1, h2, h3, r⟩
theorem RepL.nil_inv {ws : List Value} (h : RepL W g [] ws) : ws = [] := by cases h; rfl
theorem RepL.cons_inv {v : V} {vs : List V} {ws : List Value} (h : RepL W g (v :: vs) ws) : ∃ w r, ws = w :: r ∧ Rep W g v w ∧ RepL W g vs r := by
  cases h with
  | cons h1 h2 => exact ⟨_, _, rfl, h1, h2⟩
end

structure Le (g g' : PH) : Prop where
  ob : ∀ a o, g.ob a = some o → g'.ob a = some o
  tk : ∀ t l, g.tk t = some l → g'.tk t = some l
theorem Le.refl (g : PH) : Le g g := ⟨fun _ _ e => e, fun _ _ e => e⟩
theorem Le.trans {g g' g'' : PH} (x : Le g g') (y : Le g' g'') : Le g g'' := ⟨fun a o e => y.ob a o (x.ob a o e), fun a o e => y.tk a o (x.tk a o e)⟩

theorem Rep.mono {W : Wd} {g g' : PH} (hs : Le g g') {v : V} {w : Value} (h : Rep W g v w) : Rep W g' v w :=
  Rep.rec (motive_1 := fun v w _ => Rep W g' v w) (motive_2 := fun v w _ => RepL W g' v w) (motive_3 := fun v w k _ => RepD W g' v w k)
    .none .bool .int (fun h => .str (hs.tk _ _ h)) .txt .bytes (fun h1 h2 hd h3 _ r => .tup (hs.ob _ _ h1) h2 hd h3 r) (fun h1 h2 h3 h4 _ r => .lst (hs.ob _ _ h1) h2 h3 h4 r) (fun h1 h2 h3 h4 _ h5 r => .dct (hs.ob _ _ h1) h2 h3 h4 r h5)
    (fun h => .rng (hs.ob _ _ h)) (fun h1 h2 h3 _ r => .itm (hs.ob _ _ h1) h2 h3 r) .val .nil (fun _ _ h r => .cons h r) .nil (fun _ e _ _ h k r => .cons h e k r) h
theorem RepL.mono {W : Wd} {g g' : PH} (hs : Le g g') {v : List V} {w : List Value} (h : RepL W g v w) : RepL W g' v w := by
  induction v generalizing w with
  | nil => rw [h.nil_inv]; exact .nil
  | cons v vs ih => obtain ⟨w, r, rfl, h1, h2⟩ := h.cons_inv; exact .cons (h1.mono hs) (ih h2)
theorem RepD.mono {W : Wd} {g g' : PH} (hs : Le g g') {v : List (Key × V)} {w : List DictEntry} {kvs : List (Key × Value)} (h : RepD W g v w kvs) : RepD W g' v w kvs :=
  RepD.rec (motive_1 := fun v w _ => Rep W g' v w) (motive_2 := fun v w _ => RepL W g' v w) (motive_3 := fun v w k _ => RepD W g' v w k)
    .none .bool .int (fun h => .str (hs.tk _ _ h)) .txt .bytes (fun h1 h2 hd h3 _ r => .tup (hs.ob _ _ h1) h2 hd h3 r) (fun h1 h2 h3 h4 _ r => .lst (hs.ob _ _ h1) h2 h3 h4 r) (fun h1 h2 h3 h4 _ h5 r => .dct (hs.ob _ _ h1) h2 h3 h4 r h5)
    (fun h => .rng (hs.ob _ _ h)) (fun h1 h2 h3 _ r => .itm (hs.ob _ _ h1) h2 h3 r) .val .nil (fun _ _ h r => .cons h r) .nil (fun _ e _ _ h k r => .cons h e k r) h

section
variable {W : Wd} {g : PH}
theorem RepL.length {vs : List V} {ws : List Value} (h : RepL W g vs ws) : ws.length = vs.length := by
  induction ws generalizing vs with
  | nil => cases h; rfl
  | cons w ws ih => cases h with | cons h r => simp [ih r]
theorem RepL.append {vs vs' : List V} {ws ws' : List Value} (h : RepL W g vs ws) (k : RepL W g vs' ws') : RepL W g (vs ++ vs') (ws ++ ws') := by
  induction ws generalizing vs with
  | nil => cases h; exact k
  | cons w ws ih => cases h with | cons h r => exact .cons h (ih r)
theorem RepL.get {vs : List V} {ws : List Value} (h : RepL W g vs ws) {k : Nat} {v : V} (hk : vs[k]? = some v) : ∃ w, ws[k]? = some w ∧ Rep W g v w := by
  induction ws generalizing vs k with
  | nil => cases h; cases hk
  | cons w ws ih =>
    cases h with
    | cons h r =>
      cases k with
      | zero => cases hk; exact ⟨w, rfl, h⟩
      | succ k => exact ih r (by simpa using hk)
theorem RepL.take {vs : List V} {ws : List Value} (h : RepL W g vs ws) (k : Nat) : RepL W g (vs.take k) (ws.take k) := by
  induction ws generalizing vs k with
  | nil => cases h; simp; exact .nil
  | cons w ws ih => cases h with | cons h r => cases k with | zero => exact .nil | succ k => exact .cons h (ih r k)
theorem RepL.drop {vs : List V} {ws : List Value} (h : RepL W g vs ws) (k : Nat) : RepL W g (vs.drop k) (ws.drop k) := by
  induction ws generalizing vs k with
  | nil => cases h; simp; exact .nil
  | cons w ws ih => cases h with | cons h r => cases k with | zero => exact .cons h r | succ k => exact ih r k
end

section
variable {W : Wd} {g : PH}
theorem Key.is_of_rep {k : Key} {v : Value} (h : Rep W g k.v v) : k.is v = true := by
  cases k with
  | s l => cases h; simp [Key.is]
  | i n => cases h; simp [Key.is]
theorem RepD.keysOf {es : List (Key × V)} {ds : List DictEntry} {kvs : List (Key × Value)} (h : RepD W g es ds kvs) : KeysOf W.knd ds.toArray := by
  intro e he
  have he : e ∈ ds := by simpa using he
  induction ds generalizing es kvs with
  | nil => cases he
  | cons d ds ih =>
    cases h with
    | cons h1 h2 h3 r =>
      rcases List.mem_cons.mp he with rfl | he
      · exact ⟨_, Key.is_of_rep h1, h2⟩
      · exact ih r (by simpa using he) he
theorem RepD.pairs {es : List (Key × V)} {ds : List DictEntry} {kvs : List (Key × Value)} (h : RepD W g es ds kvs) : Pairs W.knd ds kvs := by
  induction ds generalizing es kvs with
  | nil => cases h; exact .nil
  | cons d ds ih =>
    cases h with
    | cons h1 h2 h3 r => exact .cons (Key.is_of_rep h1) rfl (ih r)
theorem RepD.keys {es : List (Key × V)} {ds : List DictEntry} {kvs : List (Key × Value)} (h : RepD W g es ds kvs) : kvs.map (·.1) = es.map (·.1) := by
  induction ds generalizing es kvs with
  | nil => cases h; rfl
  | cons d ds ih =>
    cases h with
    | cons h1 h2 h3 r => simp [ih r]
theorem RepD.length {es : List (Key × V)} {ds : List DictEntry} {kvs : List (Key × Value)} (h : RepD W g es ds kvs) : ds.length = es.length ∧ kvs.length = es.length := by
  induction ds generalizing es kvs with
  | nil => cases h; exact ⟨rfl, rfl⟩
  | cons d ds ih =>
    cases h with
    | cons h1 h2 h3 r => simp [ih r]
theorem RepD.get {es : List (Key × V)} {ds : List DictEntry} {kvs : List (Key × Value)} (h : RepD W g es ds kvs) {i : Nat} {k : Key} {v : V} (hi : es[i]? = some (k, v)) :
    ∃ d, ds[i]? = some d ∧ kvs[i]? = some (k, d.val) ∧ Rep W g k.v d.key ∧ Rep W g v d.val := by
  induction ds generalizing es kvs i with
  | nil => cases h; cases hi
  | cons d ds ih =>
    cases h with
    | cons h1 h2 h3 r =>
      cases i with
      | zero => cases hi; exact ⟨d, rfl, rfl, h1, h3⟩
      | succ i => exact ih r (by simpa using hi)

/-- the first entry under a key -/
noncomputable def dget (es : List (Key × V)) (k : Key) : Option V := (es.find? fun p => p.1 = k).map (·.2)
theorem RepD.valueAt {es : List (Key × V)} {ds : List DictEntry} {kvs : List (Key × Value)} (h : RepD W g es ds kvs) (k : Key) :
    match dget es k with | some v => ∃ w, PySem.valueAt kvs k = some w ∧ Rep W g v w | none => PySem.valueAt kvs k = none := by
  induction ds generalizing es kvs with
  | nil => cases h; rfl
  | cons d ds ih =>
    cases h with
    | @cons k' v _ es _ kvs h1 h2 h3 r =>
      have := ih r
      unfold dget PySem.valueAt at this ⊢
      by_cases e : k' = k
      · subst e
        simp only [List.find?_cons, decide_true, Option.map_some]
        exact ⟨_, rfl, h3⟩
      · simp only [List.find?_cons, decide_eq_false e]
        exact this

theorem RepD.dictOf {es : List (Key × V)} {ds : List DictEntry} {kvs : List (Key × Value)} {h : Heap} {a : Addr} {o : Obj} {n : Nat} (r : RepD W g es ds kvs) (ho : h.get? a = some o) (hx : o.ExactDict) (hd : o.data = .dict ds.toArray n) (hn : (es.map (·.1)).Nodup) :
    h.DictOf W.knd a kvs := ⟨o, _, n, ho, hx, hd, r.keysOf, by simpa using r.pairs, r.keys ▸ hn⟩
theorem RepD.dictAt {es : List (Key × V)} {ds : List DictEntry} {kvs : List (Key × Value)} {h : Heap} {a : Addr} {o : Obj} {n : Nat} (r : RepD W g es ds kvs) (ho : h.get? a = some o) (hx : o.ExactDict) (hd : o.data = .dict ds.toArray n) (hn : (es.map (·.1)).Nodup) :
    h.DictAt W.knd a kvs n := ⟨o, _, ho, hx, hd, r.keysOf, by simpa using r.pairs, r.keys ▸ hn⟩
end

/-! ## the state -/
/-- what stands for good: all but what is somebody's own -/
noncomputable def view (own : List Addr) (T : TM) (s : Shared) : PH := ⟨fun a => if a ∈ own then none else s.heap.get? a, T⟩
theorem view_of {own : List Addr} {T : TM} {s : Shared} {a : Addr} {o : Obj} (e : (view own T s).ob a = some o) : s.heap.get? a = some o := by
  unfold view at e; dsimp only at e; split at e
  · cases e
  · exact e
theorem view_not {own : List Addr} {T : TM} {s : Shared} {a : Addr} {o : Obj} (e : (view own T s).ob a = some o) : a ∉ own := by
  intro hm; unfold view at e; dsimp only at e; rw [if_pos hm] at e; cases e
theorem view_mk {own : List Addr} {T : TM} {s : Shared} {a : Addr} {o : Obj} (hn : a ∉ own) (e : s.heap.get? a = some o) : (view own T s).ob a = some o := by
  unfold view; dsimp only; rw [if_neg hn]; exact e

noncomputable abbrev TLe (T T' : TM) : Prop := ∀ t l, T t = some l → T' t = some l
structure TOk (T : TM) (n : Nat) : Prop where
  pos : 0 < n
  lt : ∀ t l, T t = some l → 0 < t ∧ t < n
theorem TOk.mono {T : TM} {n n' : Nat} (x : TOk T n) (h : n ≤ n') : TOk T n' := ⟨Nat.lt_of_lt_of_le x.pos h, fun t l e => ⟨(x.lt t l e).1, Nat.lt_of_lt_of_le (x.lt t l e).2 h⟩⟩
noncomputable def TM.upd (T : TM) (n : Nat) (l : S) : TM := fun t => if t = n then some l else T t
theorem TOk.upd {T : TM} {n : Nat} (x : TOk T n) (l : S) : TOk (T.upd n l) (n + 1) := ⟨Nat.succ_pos _, fun t l' e => by
  unfold TM.upd at e
  by_cases h : t = n
  · subst h; exact ⟨x.pos, Nat.lt_succ_self _⟩
  · rw [if_neg h] at e; exact ⟨(x.lt t l' e).1, Nat.lt_succ_of_lt (x.lt t l' e).2⟩⟩
theorem TOk.updLe {T : TM} {n : Nat} (x : TOk T n) (l : S) : TLe T (T.upd n l) := fun t l' e => by
  unfold TM.upd
  rw [if_neg (Nat.ne_of_lt (x.lt t l' e).2)]; exact e
theorem TM.upd_self {T : TM} {n : Nat} {l : S} : T.upd n l n = some l := by simp [TM.upd]

inductive Slot where
  | val (v : V)
  | list (a : Addr) (vs : List V)
  | dict (a : Addr) (es : List (Key × V))

/-- the address of what is the frame's own -/
noncomputable def Slot.adr : Slot → Option Addr
  | .val _ => none
  | .list a _ => some a
  | .dict a _ => some a
noncomputable def Slot.owned (sl : Slot) : Bool := sl.adr.isSome

noncomputable abbrev St := List (String × Slot)

noncomputable def find : St → Str → Option Slot
  | [], _ => none
  | (y, sl) :: r, x => if Str.ofString y = x then some sl else find r x
noncomputable def put : St → Str → String → Slot → St
  | [], _, y, sl => [(y, sl)]
  | (z, sl') :: r, x, y, sl => if Str.ofString z = x then (z, sl) :: r else (z, sl') :: put r x y sl

theorem map_toNat_inj : ∀ {a b : List Char}, a.map Char.toNat = b.map Char.toNat → a = b
  | [], [], _ => rfl
  | [], _ :: _, h => by cases h
  | _ :: _, [], h => by cases h
  | x :: a, y :: b, h => by
    simp only [List.map_cons, List.cons.injEq] at h
    rw [map_toNat_inj h.2]
    have : x = y := by
      apply Char.ext
      apply UInt32.toNat_inj.mp
      exact h.1
    rw [this]
theorem ofString_inj {a b : String} : Str.ofString a = Str.ofString b ↔ a = b := by
  refine ⟨fun h => ?_, fun h => by rw [h]⟩
  rw [Str.ofString_eq_toList, Str.ofString_eq_toList] at h
  injection h with h
  have h := congrArg Array.toList h
  simp only at h
  exact String.toList_inj.mp (map_toNat_inj h)

theorem find_cons (y x : String) (sl : Slot) (r : St) : find ((y, sl) :: r) (Str.ofString x) = if y = x then some sl else find r (Str.ofString x) := by
  simp only [find, ofString_inj]
theorem put_cons (z x y : String) (sl sl' : Slot) (r : St) : put ((z, sl') :: r) (Str.ofString x) y sl = if z = x then (z, sl) :: r else (z, sl') :: put r (Str.ofString x) y sl := by
  simp only [put, ofString_inj]
theorem put_nil (x : Str) (y : String) (sl : Slot) : put [] x y sl = [(y, sl)] := rfl

theorem find_put {σ : St} {y : String} {sl : Slot} (z : Str) : find (put σ (Str.ofString y) y sl) z = if Str.ofString y = z then some sl else find σ z := by
  induction σ with
  | nil => simp [put, find]
  | cons p r ih =>
    obtain ⟨w, sl'⟩ := p
    unfold put
    by_cases hw : Str.ofString w = Str.ofString y
    · rw [if_pos hw]
      simp only [find, hw]
      by_cases hz : Str.ofString y = z
      · rw [if_pos hz, if_pos hz]
      · rw [if_neg hz, if_neg hz, if_neg hz]
    · rw [if_neg hw]
      simp only [find]
      by_cases hz : Str.ofString w = z
      · rw [if_pos hz, if_pos hz, if_neg (fun e => hw (hz.trans e.symm))]
      · rw [if_neg hz, if_neg hz, ih]

structure Cx where
  W : Wd
  A : Around
  env : Env
  ownC : Bool
  X : Value → Shared → Prop
  an : Option Addr
  /-- the state that this frame began in, and the texts' marks then, where a raise must tell of them -/
  st : Option (Shared × TM) := none

noncomputable abbrev Cx.M (C : Cx) : Model := model C.W.prog C.W.w

structure Wd.Ok (W : Wd) : Prop where
  sysm : (W.h₀.get? sysModules).isSome = true
  nolimit : W.h₀.NoLimit
  gl : ∃ mg mb, W.h₀.Ns mainGlobals mg ∧ W.h₀.Ns builtinsNs mb ∧ ∀ x v, W.gls.lookup x = some v → mg (Str.ofString x) = some v ∨ (mg (Str.ofString x) = none ∧ mb (Str.ofString x) = some v)

structure Cx.Ok (C : Cx) (n : Nat) : Prop where
  W : C.W.Ok
  hh : C.A.handled = none
  hu : C.A.units + 3 * n + 100 ≤ 9000
  hd : C.A.depth + n + 10 ≤ 900
  hk : C.env.scope.kind = .function
  hg : C.env.globals = mainGlobals
  hb : C.env.builtins = builtinsNs
  hx : PassesOwn C.M C.A C.env C.X

noncomputable def valAt (env : Env) (m cm : Str → Option Value) (x : Str) : Option Value := match env.kindOf x with
  | some .local => m x
  | some .cell => cm x
  | some .free => cm x
  | _ => none

noncomputable def IsL (h : Heap) (a : Addr) (ws : List Value) : Prop := ∃ n, h.get? a = some { cls := .type "list", data := .seq ws.toArray n }
noncomputable def IsD (h : Heap) (a : Addr) (ds : List DictEntry) : Prop := (a == sysModules) = false ∧ ∃ o n, h.get? a = some o ∧ o.ExactDict ∧ o.data = .dict ds.toArray n

noncomputable def SlotRep (W : Wd) (g : PH) (h : Heap) : Slot → Value → Prop
  | .val u, v => Rep W g u v
  | .list a vs, v => v = .ref a ∧ ∃ ws, IsL h a ws ∧ RepL W g vs ws
  | .dict a es, v => v = .ref a ∧ ∃ ds kvs, IsD h a ds ∧ RepD W g es ds kvs ∧ (es.map (·.1)).Nodup

/-- the name under which a comprehension's own list or dict goes -/
noncomputable abbrev anonS : Str := Str.ofString "#"
noncomputable def Bound (C : Cx) (m cm : Str → Option Value) (x : Str) (sl : Slot) (v : Value) : Prop := valAt C.env m cm x = some v ∨ (x = anonS ∧ sl.owned = true ∧ ∃ a : Addr, True ∧ v = .ref a)
theorem Bound.real {C : Cx} {m cm : Str → Option Value} {x : Str} {sl : Slot} {v : Value} (h : Bound C m cm x sl v) (hx : x ≠ anonS) : valAt C.env m cm x = some v := h.resolve_right fun q => hx q.1
theorem Bound.val {C : Cx} {m cm : Str → Option Value} {x : Str} {u : V} {v : Value} (h : Bound C m cm x (.val u) v) : valAt C.env m cm x = some v := h.resolve_right fun q => by cases q.2.1

/-- the frame's names and what they hold -/
structure Frm (C : Cx) (F mine : List Addr) (T : TM) (σ : St) (s : Shared) (m cm : Str → Option Value) : Prop where
  ns : s.heap.Ns C.env.locals m
  cells : ∀ x c, C.env.cells.lookup x = some c → s.heap.IsCell c (cm x)
  apart : ∀ x y c, C.env.cells.lookup x = some c → C.env.cells.lookup y = some c → x = y
  lc : ∀ x c, C.env.cells.lookup x = some c → c ≠ C.env.locals
  has : ∀ x, C.env.kindOf x = some .cell ∨ C.env.kindOf x = some .free → ∃ c, C.env.cells.lookup x = some c
  lm : C.env.locals ∈ mine
  cown : ∀ x c, C.env.cells.lookup x = some c → c ∈ F ++ mine
  cmine : C.ownC = true → ∀ x c, C.env.cells.lookup x = some c → c ∈ mine
  slots : ∀ x sl, find σ x = some sl → ∃ v, Bound C m cm x sl v ∧ SlotRep C.W (view (F ++ mine) T s) s.heap sl v
  own : ∀ x sl a, find σ x = some sl → sl.adr = some a → a ∈ mine ∧ a ≠ C.env.locals ∧ (∀ y c, C.env.cells.lookup y = some c → c ≠ a)
  dis : ∀ x y sl sl' a, find σ x = some sl → find σ y = some sl' → sl.adr = some a → sl'.adr = some a → x = y

/-- the state goes on from the frame's first one -/
noncomputable def Sm (C : Cx) (T : TM) (s : Shared) : Prop := ∀ p, C.st = some p → TLe p.2 T ∧ ∃ h tk, s = { p.1 with heap := h, toks := tk }
theorem Sm.step {C : Cx} {T T' : TM} {s s' : Shared} (x : Sm C T s) (le : TLe T T') (h : ∃ h' tk, s' = { s with heap := h', toks := tk }) : Sm C T' s' := fun p e => by
  obtain ⟨h1, h2, tk, e2⟩ := x p e
  obtain ⟨h', t', e3⟩ := h
  subst e2
  subst e3
  exact ⟨fun t l q => le t l (h1 t l q), h', t', rfl⟩
theorem Sm.none {C : Cx} {T : TM} {s : Shared} (h : C.st = Option.none) : Sm C T s := fun p e => by rw [h] at e; cases e
structure Abs (C : Cx) (F mine : List Addr) (T : TM) (σ : St) (s : Shared) : Prop where
  base : ∀ b o, C.W.h₀.get? b = some o → (view (F ++ mine) T s).ob b = some o
  live : ∀ a ∈ F ++ mine, (s.heap.get? a).isSome = true
  nin : ∀ a ∈ mine, a ∉ F
  tok : TOk T s.toks
  sm : Sm C T s
  frm : ∃ m cm, Frm C F mine T σ s m cm

structure Post (F mine : List Addr) (T : TM) (s : Shared) (mine' : List Addr) (T' : TM) (s' : Shared) : Prop where
  same : ∃ h' tk, s' = { s with heap := h', toks := tk }
  le : Le (view (F ++ mine) T s) (view (F ++ mine') T' s')
  far : ∀ a ∈ F, s'.heap.get? a = s.heap.get? a

theorem Post.refl (F mine : List Addr) (T : TM) (s : Shared) : Post F mine T s mine T s := ⟨⟨_, _, rfl⟩, .refl _, fun _ _ => rfl⟩
theorem Post.trans {F m1 m2 m3 : List Addr} {T1 T2 T3 : TM} {s1 s2 s3 : Shared} (x : Post F m1 T1 s1 m2 T2 s2) (y : Post F m2 T2 s2 m3 T3 s3) : Post F m1 T1 s1 m3 T3 s3 := by
  obtain ⟨h, t, rfl⟩ := x.same
  obtain ⟨h', t', rfl⟩ := y.same
  exact ⟨⟨h', t', rfl⟩, x.le.trans y.le, fun a ha => (y.far a ha).trans (x.far a ha)⟩

/-- nothing that stood is turned; the texts' marks grow -/
structure Kp (T : TM) (s : Shared) (T' : TM) (s' : Shared) : Prop where
  same : ∃ h' tk, s' = { s with heap := h', toks := tk }
  keep : ∀ b o, s.heap.get? b = some o → s'.heap.get? b = some o
  tle : TLe T T'
  tok : TOk T' s'.toks
theorem Kp.trans {T T' T'' : TM} {s s' s'' : Shared} (x : Kp T s T' s') (y : Kp T' s' T'' s'') : Kp T s T'' s'' := by
  obtain ⟨h, t, rfl⟩ := x.same
  obtain ⟨h', t', rfl⟩ := y.same
  exact ⟨⟨h', t', rfl⟩, fun b o e => y.keep b o (x.keep b o e), fun t l e => y.tle t l (x.tle t l e), y.tok⟩
theorem Kp.view {T T' : TM} {own : List Addr} {s s' : Shared} (k : Kp T s T' s') : Le (view own T s) (view own T' s') :=
  ⟨fun _ _ e => view_mk (view_not e) (k.keep _ _ (view_of e)), k.tle⟩
theorem Kp.post {F mine : List Addr} {T T' : TM} {s s' : Shared} (k : Kp T s T' s') (l : ∀ a ∈ F ++ mine, (s.heap.get? a).isSome = true) : Post F mine T s mine T' s' := by
  refine ⟨k.same, k.view, fun a ha => ?_⟩
  obtain ⟨o, ho⟩ := Option.isSome_iff_exists.mp (l a (List.mem_append_left _ ha))
  rw [ho]; exact k.keep _ _ ho
theorem Kp.live {own : List Addr} {T T' : TM} {s s' : Shared} (k : Kp T s T' s') (l : ∀ a ∈ own, (s.heap.get? a).isSome = true) : ∀ a ∈ own, (s'.heap.get? a).isSome = true := fun a ha => by
  obtain ⟨o, ho⟩ := Option.isSome_iff_exists.mp (l a ha)
  rw [k.keep _ _ ho]; rfl

theorem SlotRep.mono {W : Wd} {g g' : PH} {h h' : Heap} {sl : Slot} {v : Value} (hg : Le g g') (hh : ∀ a, sl.adr = some a → ∀ o, h.get? a = some o → h'.get? a = some o) (x : SlotRep W g h sl v) : SlotRep W g' h' sl v := by
  cases sl with
  | val u => exact Rep.mono hg x
  | list a vs =>
    obtain ⟨e, ws, ⟨n, h1⟩, r⟩ := x
    exact ⟨e, ws, ⟨n, hh a rfl _ h1⟩, r.mono hg⟩
  | dict a es =>
    obtain ⟨e, ws, kvs, ⟨h0, o, n, h1, h2⟩, r, nd⟩ := x
    exact ⟨e, ws, kvs, ⟨h0, o, n, hh a rfl _ h1, h2⟩, r.mono hg, nd⟩
theorem SlotRep.ref {W : Wd} {g : PH} {h : Heap} {sl : Slot} {v : Value} {a : Addr} (x : SlotRep W g h sl v) (ha : sl.adr = some a) : v = .ref a := by
  cases sl with
  | val u => cases ha
  | list a vs => cases ha; exact x.1
  | dict a es => cases ha; exact x.1

theorem Frm.keeps {C : Cx} {F mine : List Addr} {T T' : TM} {σ : St} {s s' : Shared} {m cm : Str → Option Value} (x : Frm C F mine T σ s m cm) (k : Kp T s T' s') : Frm C F mine T' σ s' m cm :=
  { ns := x.ns.keeps k.keep, cells := fun y c e => (x.cells y c e).keeps k.keep, apart := x.apart, lc := x.lc, has := x.has, lm := x.lm, cown := x.cown, cmine := x.cmine
    slots := fun y sl e => let ⟨v, h1, h2⟩ := x.slots y sl e; ⟨v, h1, h2.mono k.view fun _ _ o e => k.keep _ o e⟩
    own := x.own, dis := x.dis }
theorem Abs.keeps {C : Cx} {F mine : List Addr} {T T' : TM} {σ : St} {s s' : Shared} (x : Abs C F mine T σ s) (k : Kp T s T' s') : Abs C F mine T' σ s' :=
  { base := fun b o e => k.view.ob b o (x.base b o e)
    live := k.live x.live
    nin := x.nin
    tok := k.tok
    sm := x.sm.step k.tle k.same
    frm := let ⟨m, cm, f⟩ := x.frm; ⟨m, cm, f.keeps k⟩ }

end Sx
end
section
open PySem PySem.W PyProof.Rows PySem.Calls
set_option linter.unusedVariables false
set_option Elab.async false
set_option maxRecDepth 100000
namespace Sx

inductive Fl where
  | next | brk | cont
  | ret (v : V)

inductive FlRep (W : Wd) (g : PH) : Fl → Flow → Prop
  | next : FlRep W g .next .next
  | brk : FlRep W g .brk .brk
  | cont : FlRep W g .cont .cont
  | ret {v : V} {w : Value} : Rep W g v w → FlRep W g (.ret v) (.ret w)

/-- a tree run from a state: what comes out stands in R to an abstract result -/
noncomputable def Tr {α β : Type} (C : Cx) (σ : St) (R : PH → β → α → Prop) (t : Sem α) (Q : β → St → Prop) : Prop :=
  ∀ F mine T s, Abs C F mine T σ s → wpAny C.M C.A t (fun x s' => ∃ b σ' mine' T', Q b σ' ∧ Post F mine T s mine' T' s' ∧ Abs C F mine' T' σ' s' ∧ R (view (F ++ mine') T' s') b x) C.X s

noncomputable abbrev RU : PH → Unit → Unit → Prop := fun _ _ _ => True
noncomputable abbrev RB : PH → Bool → Bool → Prop := fun _ a b => a = b
noncomputable abbrev Ev (C : Cx) (σ : St) (e : Expr) (Q : V → St → Prop) : Prop := Tr C σ (Rep C.W) (eval e C.env) Q
noncomputable abbrev EvT (C : Cx) (σ : St) (t : Sem Value) (Q : V → St → Prop) : Prop := Tr C σ (Rep C.W) t Q
noncomputable abbrev Tst (C : Cx) (σ : St) (e : Expr) (Q : Bool → St → Prop) : Prop := Tr C σ RB (isTrue e C.env (eval e C.env)) Q
noncomputable abbrev Ex (C : Cx) (σ : St) (e : Stmt) (Q : Fl → St → Prop) : Prop := Tr C σ (FlRep C.W) (exec e C.env) Q
noncomputable abbrev Exs (C : Cx) (σ : St) (e : List Stmt) (Q : Fl → St → Prop) : Prop := Tr C σ (FlRep C.W) (execs e C.env) Q
noncomputable abbrev EvL (C : Cx) (σ : St) (pos : Pos) (es : List Expr) (Q : List V → St → Prop) : Prop := Tr C σ (RepL C.W) (spliced (backTo pos (starEach es C.env))) Q

theorem Tr.mono {α β : Type} {C : Cx} {σ : St} {R : PH → β → α → Prop} {t : Sem α} {Q Q' : β → St → Prop} (h : Tr C σ R t Q) (hq : ∀ b σ, Q b σ → Q' b σ) : Tr C σ R t Q' :=
  fun F mine T s hA => wpAny_mono (h F mine T s hA) (fun _ _ ⟨b, σ', m', T', q, r⟩ => ⟨b, σ', m', T', hq _ _ q, r⟩) fun _ _ x => x

theorem Tr.then {α β : Type} {C : Cx} {σ : St} {R : PH → β → α → Prop} {t : Sem α} {Q : β → St → Prop} (h : Tr C σ R t Q) {F mine : List Addr} {T : TM} {s : Shared} (hA : Abs C F mine T σ s) {P : α → Shared → Prop}
    (k : ∀ x s' b σ' mine' T', Q b σ' → Post F mine T s mine' T' s' → Abs C F mine' T' σ' s' → R (view (F ++ mine') T' s') b x → P x s') : wpAny C.M C.A t P C.X s :=
  wpAny_mono (h F mine T s hA) (fun _ _ ⟨_, _, _, _, a, b, c, d⟩ => k _ _ _ _ _ _ a b c d) fun _ _ x => x
theorem Tr.intro' {α β : Type} {C : Cx} {σ : St} {R : PH → β → α → Prop} {t : Sem α} {Q : β → St → Prop}
    (h : ∀ F mine T s (QQ : α → Shared → Prop), (∀ x s' b σ' mine' T', Q b σ' → Post F mine T s mine' T' s' → Abs C F mine' T' σ' s' → R (view (F ++ mine') T' s') b x → QQ x s') → Abs C F mine T σ s → wpAny C.M C.A t QQ C.X s) : Tr C σ R t Q :=
  fun F mine T s hA => h F mine T s _ (fun _ _ b σ' m' T' x y z w => ⟨b, σ', m', T', x, y, z, w⟩) hA
structure OwnOk (C : Cx) (own : List Addr) (T : TM) (s : Shared) : Prop where
  base : ∀ b o, C.W.h₀.get? b = some o → (view own T s).ob b = some o
  live : ∀ a ∈ own, (s.heap.get? a).isSome = true
  tok : TOk T s.toks
theorem Abs.ownOk {C : Cx} {F mine : List Addr} {T : TM} {σ : St} {s : Shared} (x : Abs C F mine T σ s) : OwnOk C (F ++ mine) T s := ⟨x.base, x.live, x.tok⟩
theorem OwnOk.fresh {C : Cx} {own : List Addr} {T : TM} {s : Shared} (x : OwnOk C own T s) {a : Addr} (h : s.heap.get? a = none) : a ∉ own := fun hm => by
  have := x.live a hm; rw [h] at this; cases this
theorem OwnOk.keeps {C : Cx} {own : List Addr} {T T' : TM} {s s' : Shared} (x : OwnOk C own T s) (k : Kp T s T' s') : OwnOk C own T' s' :=
  ⟨fun b o e => k.view.ob b o (x.base b o e), k.live x.live, k.tok⟩
theorem OwnOk.kb {C : Cx} {own : List Addr} {T : TM} {s : Shared} (x : OwnOk C own T s) : ∀ b o, C.W.h₀.get? b = some o → s.heap.get? b = some o := fun b o e => view_of (x.base b o e)

theorem fresh_size (h : Heap) : h.get? h.objs.size = none := by
  cases e : h.get? h.objs.size with
  | none => rfl
  | some o => exact absurd (Heap.lt_size e) (Nat.lt_irrefl _)

/-- what a primitive step leaves -/
noncomputable def Out {α β : Type} (own : List Addr) (T : TM) (s : Shared) (R : PH → β → α → Prop) (K : β → Prop) (x : α) (s' : Shared) : Prop :=
  ∃ b T', K b ∧ Kp T s T' s' ∧ R (view own T' s') b x
/-- a primitive step: nothing that stood before is turned -/
noncomputable def PrimR {α β : Type} (C : Cx) (own : List Addr) (T : TM) (s : Shared) (R : PH → β → α → Prop) (t : Sem α) (K : β → Prop) : Prop :=
  wpAny C.M C.A t (Out own T s R K) C.X s
theorem PrimR.then {α β : Type} {C : Cx} {own : List Addr} {T : TM} {s : Shared} {R : PH → β → α → Prop} {t : Sem α} {K : β → Prop} (h : PrimR C own T s R t K) {P : α → Shared → Prop}
    (k : ∀ x s' b T', K b → Kp T s T' s' → R (view own T' s') b x → P x s') : wpAny C.M C.A t P C.X s :=
  wpAny_mono h (fun _ _ ⟨_, _, a, b, c⟩ => k _ _ _ _ a b c) fun _ _ x => x
noncomputable abbrev Prim (C : Cx) (own : List Addr) (T : TM) (s : Shared) (t : Sem Value) (K : V → Prop) : Prop := PrimR C own T s (Rep C.W) t K
noncomputable abbrev PrimB (C : Cx) (own : List Addr) (T : TM) (s : Shared) (t : Sem Bool) (K : Bool → Prop) : Prop := PrimR C own T s RB t K
/-- .. and what comes out is a new object -/
noncomputable def OutF (C : Cx) (own : List Addr) (T : TM) (s : Shared) (K : Slot → Prop) (v : Value) (s' : Shared) : Prop :=
  ∃ sl T' a, K sl ∧ sl.adr = some a ∧ Kp T s T' s' ∧ s.heap.get? a = none ∧ (s'.heap.get? a).isSome = true ∧ SlotRep C.W (view (a :: own) T' s') s'.heap sl v
noncomputable def PrimF (C : Cx) (own : List Addr) (T : TM) (s : Shared) (t : Sem Value) (K : Slot → Prop) : Prop := wpAny C.M C.A t (OutF C own T s K) C.X s

section
variable {α β : Type} {own : List Addr} {T : TM} {s : Shared} {R : PH → β → α → Prop} {K : β → Prop} {x : α} {b : β}
/-- the ways a step ends -/
theorem Kp.refl (k : TOk T s.toks) : Kp T s T s := ⟨⟨_, _, rfl⟩, fun _ _ e => e, fun _ _ e => e, k⟩
theorem Kp.at {h' : Heap} {tk : Nat} (k : TOk T s.toks) (hk : ∀ b o, s.heap.get? b = some o → h'.get? b = some o) (ht : s.toks ≤ tk) : Kp T s T { s with heap := h', toks := tk } := ⟨⟨_, _, rfl⟩, hk, fun _ _ e => e, k.mono ht⟩
theorem Kp.toks {tk : Nat} (k : TOk T s.toks) (ht : s.toks ≤ tk) : Kp T s T { s with toks := tk } := Kp.at (h' := s.heap) k (fun _ _ e => e) ht
theorem Kp.push {o : Obj} {tk : Nat} (k : TOk T s.toks) (ht : s.toks ≤ tk) : Kp T s T { s with heap := s.heap.push o, toks := tk } := Kp.at (h' := s.heap.push o) k (fun _ _ e => Heap.get?_push_of_some _ e) ht
theorem Kp.str {h' : Heap} {l : S} (k : TOk T s.toks) (hk : ∀ b o, s.heap.get? b = some o → h'.get? b = some o) : Kp T s (T.upd s.toks l) { s with heap := h', toks := s.toks + 1 } := ⟨⟨_, _, rfl⟩, hk, k.updLe l, k.upd l⟩
theorem Out.same (k : TOk T s.toks) (q : K b) (r : R (view own T s) b x) : Out own T s R K x s := ⟨b, T, q, .refl k, r⟩
theorem Out.mono {K' : β → Prop} {s' : Shared} (h : Out own T s R K x s') (hk : ∀ b, K b → K' b) : Out own T s R K' x s' := let ⟨b, T', q, r⟩ := h; ⟨b, T', hk _ q, r⟩
end
theorem Out.strNew {W : Wd} {own : List Addr} {T : TM} {s : Shared} {K : V → Prop} {l : S} (k : TOk T s.toks) (q : K (.str l)) : Out own T s (Rep W) K (.str (mkS l) s.toks) { s with toks := s.toks + 1 } :=
  ⟨_, _, q, .str (h' := s.heap) k fun _ _ e => e, .str TM.upd_self⟩
theorem Out.int {W : Wd} {own : List Addr} {T : TM} {s : Shared} {K : V → Prop} {i : Int} {t : Tok} {tk : Nat} (k : TOk T s.toks) (q : K (.int i)) (ht : s.toks ≤ tk) : Out own T s (Rep W) K (.int i t) { s with toks := tk } :=
  ⟨_, T, q, .toks k ht, .int _ _⟩
theorem Out.bool {W : Wd} {own : List Addr} {T : TM} {s : Shared} {K : V → Prop} {i : Bool} {tk : Nat} (k : TOk T s.toks) (q : K (.bool i)) (ht : s.toks ≤ tk) : Out own T s (Rep W) K (.bool i) { s with toks := tk } :=
  ⟨_, T, q, .toks k ht, .bool _⟩

theorem Tr.prim {α β : Type} {C : Cx} {σ : St} {R : PH → β → α → Prop} {t : Sem α} {Q : β → St → Prop} (h : ∀ own T s, OwnOk C own T s → PrimR C own T s R t (fun b => Q b σ)) : Tr C σ R t Q :=
  fun F mine T s hA => wpAny_mono (h (F ++ mine) T s hA.ownOk) (fun _ _ ⟨b, T', q, k, r⟩ => ⟨b, σ, mine, T', q, k.post hA.live, hA.keeps k, r⟩) fun _ _ x => x

theorem PrimR.mono {α β : Type} {C : Cx} {own : List Addr} {T : TM} {s : Shared} {R : PH → β → α → Prop} {t : Sem α} {K K' : β → Prop} (h : PrimR C own T s R t K) (hk : ∀ b, K b → K' b) : PrimR C own T s R t K' :=
  wpAny_mono h (fun _ _ x => x.mono hk) fun _ _ x => x
theorem PrimF.mono {C : Cx} {own : List Addr} {T : TM} {s : Shared} {t : Sem Value} {K K' : Slot → Prop} (h : PrimF C own T s t K) (hk : ∀ b, K b → K' b) : PrimF C own T s t K' :=
  wpAny_mono h (fun _ _ ⟨b, T', a, q, r⟩ => ⟨b, T', a, hk _ q, r⟩) fun _ _ x => x

noncomputable def Slot.v : Slot → V
  | .val v => v
  | .list _ vs => .lst vs
  | .dict _ es => .dct es

theorem view_sub {own own' : List Addr} {T : TM} {s : Shared} (hs : ∀ a ∈ own', a ∈ own) : Le (view own T s) (view own' T s) :=
  ⟨fun _ _ e => view_mk (fun hb => view_not e (hs _ hb)) (view_of e), fun _ _ e => e⟩
theorem app_sub {F mine mine' : List Addr} (hs : ∀ a ∈ mine', a ∈ mine) : ∀ a ∈ F ++ mine', a ∈ F ++ mine := fun a ha => by
  rcases List.mem_append.mp ha with ha | ha
  · exact List.mem_append_left _ ha
  · exact List.mem_append_right _ (hs a ha)

theorem SlotRep.freeze {W : Wd} {own own' : List Addr} {T : TM} {s : Shared} {a : Addr} {sl : Slot} {v : Value} (ho : sl.adr = some a) (x : SlotRep W (view own T s) s.heap sl v) (hs : ∀ b ∈ own', b ∈ own) (ha : a ∉ own') :
    Rep W (view own' T s) sl.v v := by
  have le : Le (view own T s) (view own' T s) := view_sub hs
  cases sl with
  | val u => cases ho
  | list a vs =>
    cases ho
    obtain ⟨rfl, ws, ⟨n, h1⟩, r⟩ := x
    exact .lst (view_mk ha h1) rfl rfl rfl (r.mono le)
  | dict a es =>
    cases ho
    obtain ⟨rfl, ws, kvs, ⟨h0, o, n, h1, h2, h3⟩, r, nd⟩ := x
    exact .dct (view_mk ha h1) h0 h2 h3 (r.mono le) nd

theorem PrimF.prim {C : Cx} {own : List Addr} {T : TM} {s : Shared} {t : Sem Value} {K : V → Prop} (hO : OwnOk C own T s) (h : PrimF C own T s t (fun sl => K sl.v)) : Prim C own T s t K := by
  refine wpAny_mono h (fun v s' ⟨sl, T', a, q, ho, k, hn, hs, r⟩ => ⟨sl.v, T', q, k, ?_⟩) fun _ _ x => x
  exact r.freeze ho (fun b hb => List.mem_cons_of_mem _ hb) (hO.fresh hn)

section
variable {C : Cx} {σ : St}

theorem ev_prim {e : Expr} {Q : V → St → Prop} (h : ∀ own T s, OwnOk C own T s → Prim C own T s (eval e C.env) (fun v => Q v σ)) : Ev C σ e Q := Tr.prim h

theorem ofString_lit (x : String) : Str.ofString x = mkS (lit x) := by rw [Str.ofString_eq_toList]; rfl

theorem ev_str {x : String} {k pos} {Q : V → St → Prop} (h : Q (.str (lit x)) σ) : Ev C σ (.Constant (.str (Str.ofString x)) k pos) Q :=
  ev_prim fun own T s hO => Constant_str (by rw [ofString_lit]; exact .strNew hO.tok h)
theorem ev_int {i : Int} {k pos} {Q : V → St → Prop} (h : Q (.int i) σ) : Ev C σ (.Constant (.int i) k pos) Q :=
  ev_prim fun own T s hO => wpAny_Constant_int (.int hO.tok h (Nat.le_succ _))
theorem ev_bool {b : Bool} {k pos} {Q : V → St → Prop} (h : Q (.bool b) σ) : Ev C σ (.Constant (.bool b) k pos) Q :=
  ev_prim fun own T s hO => wpAny_Constant_bool (.same hO.tok h (.bool _))
theorem ev_none {k pos} {Q : V → St → Prop} (h : Q .none σ) : Ev C σ (.Constant .none k pos) Q :=
  ev_prim fun own T s hO => wpAny_Constant_none (.same hO.tok h .none)

/-! ### names -/
theorem load_local {F mine : List Addr} {T : TM} {s : Shared} {n : Nat} (ok : C.Ok n) {x : Str} {m cm : Str → Option Value} (f : Frm C F mine T σ s m cm) {v : Value} (hv : valAt C.env m cm x = some v)
    (hn : (x == ("__classdict__" : Str)) = false) {M : Model} {A : Around} {E : Value → Shared → Prop} {Q : Value → Shared → Prop} (h : Q v s) : wpAny M A (loadName C.env x) Q E s := by
  unfold valAt at hv
  cases hk : C.env.kindOf x with
  | none => rw [hk] at hv; cases hv
  | some k =>
    rw [hk] at hv
    cases k with
    | «local» => exact wpAny_loadName_local ok.hk hk f.ns hv h
    | cell =>
      obtain ⟨c, hc⟩ := f.has x (.inl hk)
      exact wpAny_loadName_cell ok.hk hk hc (hv ▸ f.cells x c hc) h
    | free =>
      obtain ⟨c, hc⟩ := f.has x (.inr hk)
      exact wpAny_loadName_free ok.hk hk hc (hv ▸ f.cells x c hc) h hn
    | _ => cases hv

theorem tr_load {n : Nat} (ok : C.Ok n) {x : String} {v : V} {Q : V → St → Prop} (hf : find σ (Str.ofString x) = some (.val v)) (h : Q v σ) (hn : (Str.ofString x == ("__classdict__" : Str)) = false) : EvT C σ (loadName C.env (Str.ofString x)) Q := by
  intro F mine T s hA
  obtain ⟨m, cm, f⟩ := hA.frm
  obtain ⟨w, hw, hr⟩ := f.slots _ _ hf
  exact load_local ok f hw.val hn ⟨v, σ, mine, T, h, .refl _ _ _ _, hA, hr⟩

theorem ev_of_load {x : Str} {pos} {Q : V → St → Prop} (h : EvT C σ (loadName C.env x) Q) (hd : (x == ("__debug__" : Str)) = false) : Ev C σ (.Name x pos) Q :=
  fun F mine T s hA => wpAny_Name (h F mine T s hA) hd

theorem ev_name {n : Nat} (ok : C.Ok n) {x : String} {pos} {v : V} {Q : V → St → Prop} (hf : find σ (Str.ofString x) = some (.val v)) (h : Q v σ)
    (hn : (Str.ofString x == ("__classdict__" : Str)) = false := by decide) (hd : (Str.ofString x == ("__debug__" : Str)) = false := by decide) : Ev C σ (.Name (Str.ofString x) pos) Q :=
  ev_of_load (tr_load ok hf h hn) hd

/-- what is a frame's own may be let go: it stands for good -/
theorem Abs.freeze {F mine : List Addr} {T : TM} {s : Shared} (hA : Abs C F mine T σ s) {x : String} {sl : Slot} {a : Addr} (hf : find σ (Str.ofString x) = some sl) (ho : sl.adr = some a) (hxa : Str.ofString x ≠ anonS) :
    ∃ mine', (∀ a ∈ mine', a ∈ mine) ∧ Abs C F mine' T (put σ (Str.ofString x) x (.val sl.v)) s := by
  obtain ⟨m, cm, f⟩ := hA.frm
  obtain ⟨v, hv, hr⟩ := f.slots _ _ hf
  have hv := hv.real hxa
  obtain ⟨o1, o2, o3⟩ := f.own _ _ _ hf ho
  have sub : ∀ b ∈ mine.filter (· ≠ a), b ∈ mine := fun a ha => (List.mem_filter.mp ha).1
  have le : Le (view (F ++ mine) T s) (view (F ++ mine.filter (· ≠ a)) T s) := view_sub (app_sub sub)
  have hnF : a ∉ F ++ mine.filter (· ≠ a) := fun hm => by
    rcases List.mem_append.mp hm with hm | hm
    · exact hA.nin _ o1 hm
    · have := (List.mem_filter.mp hm).2; simp at this
  have hrep : Rep C.W (view (F ++ mine.filter (· ≠ a)) T s) sl.v v := hr.freeze ho (app_sub sub) hnF
  refine ⟨mine.filter (· ≠ a), sub, ⟨fun b o e => le.ob b o (hA.base b o e), fun a ha => hA.live a (app_sub sub a ha), fun a ha => hA.nin a (sub a ha), hA.tok, hA.sm, m, cm, ?_⟩⟩
  refine { ns := f.ns, cells := f.cells, apart := f.apart, lc := f.lc, has := f.has, lm := ?_, cown := ?_, cmine := ?_, slots := ?_, own := ?_, dis := ?_ }
  · exact List.mem_filter.mpr ⟨f.lm, by simpa using Ne.symm o2⟩
  · intro y c hc
    rcases List.mem_append.mp (f.cown y c hc) with hm | hm
    · exact List.mem_append_left _ hm
    · exact List.mem_append_right _ (List.mem_filter.mpr ⟨hm, by simpa using o3 y c hc⟩)
  · intro hc y c hyc
    exact List.mem_filter.mpr ⟨f.cmine hc y c hyc, by simpa using o3 y c hyc⟩
  · intro y sl' hy
    rw [find_put] at hy
    by_cases hxy : Str.ofString x = y
    · rw [if_pos hxy] at hy
      cases hy
      subst hxy
      exact ⟨v, .inl hv, hrep⟩
    · rw [if_neg hxy] at hy
      obtain ⟨v', hv', hr'⟩ := f.slots y sl' hy
      exact ⟨v', hv', hr'.mono le fun _ _ _ e => e⟩
  · intro y sl' b hy hb
    rw [find_put] at hy
    by_cases hxy : Str.ofString x = y
    · rw [if_pos hxy] at hy; cases hy; cases hb
    · rw [if_neg hxy] at hy
      obtain ⟨q1, q2, q3⟩ := f.own y sl' b hy hb
      have hne : b ≠ a := fun e => hxy (f.dis y _ sl' sl b hy hf hb (e ▸ ho)).symm
      exact ⟨List.mem_filter.mpr ⟨q1, by simpa using hne⟩, q2, q3⟩
  · intro y z sl1 sl2 b hy hz h1 h2
    rw [find_put] at hy hz
    by_cases hxy : Str.ofString x = y
    · rw [if_pos hxy] at hy; cases hy; cases h1
    · rw [if_neg hxy] at hy
      by_cases hxz : Str.ofString x = z
      · rw [if_pos hxz] at hz; cases hz; cases h2
      · rw [if_neg hxz] at hz
        exact f.dis y z sl1 sl2 b hy hz h1 h2

/-- a name's list or dict, the frame's own, stands from here on -/
theorem Tr.freeze {α β : Type} {R : PH → β → α → Prop} {t : Sem α} {Q : β → St → Prop} {x : String} {sl : Slot} {a : Addr} (hf : find σ (Str.ofString x) = some sl) (ho : sl.adr = some a)
    (h : Tr C (put σ (Str.ofString x) x (.val sl.v)) R t Q) (hxa : Str.ofString x ≠ anonS) : Tr C σ R t Q := by
  refine Tr.intro' fun F mine T s QQ fin hA => ?_
  obtain ⟨mine', sub, hA'⟩ := hA.freeze hf ho hxa
  have hp : Post F mine T s mine' T s := ⟨⟨_, _, rfl⟩, view_sub (app_sub sub), fun _ _ => rfl⟩
  refine Tr.then h hA' fun v s1 b σ1 m1 T1 q p1 a1 r => ?_
  exact fin _ _ b σ1 m1 T1 q (hp.trans p1) a1 r

theorem ev_glob {n : Nat} (ok : C.Ok n) {x : String} {pos} {v : Value} {Q : V → St → Prop} (hk : C.env.kindOf (Str.ofString x) = some .globalImplicit) (hg : C.W.gls.lookup x = some v) (h : Q (.val v) σ)
    (hd : (Str.ofString x == ("__debug__" : Str)) = false := by decide) : Ev C σ (.Name (Str.ofString x) pos) Q := by
  refine ev_prim fun own T s hO => ?_
  obtain ⟨mg, mb, h1, h2, h3⟩ := ok.W.gl
  have k := hO.kb
  rcases h3 x v hg with e | ⟨e1, e2⟩
  · exact Name_function_global ok.hk hk (loadGlobal_global (env := C.env) (ok.hg ▸ h1.keeps k) e (.same hO.tok h (.val _))) hd
  · exact Name_function_global ok.hk hk (loadGlobal_builtin (env := C.env) (ok.hg ▸ h1.keeps k) e1 (ok.hb ▸ h2.keeps k) e2 (.same hO.tok h (.val _))) hd

/-! ### storing a name -/
theorem valAt_local {env : Env} {m cm : Str → Option Value} {x y : Str} {v : Value} (hk : env.kindOf x = some .local) :
    valAt env (fun z => if z = x then some v else m z) cm y = if y = x then some v else valAt env m cm y := by
  unfold valAt
  by_cases h : y = x
  · subst h; rw [hk]; try simp
  · simp only [if_neg h]
theorem valAt_cell {env : Env} {m cm : Str → Option Value} {x y : Str} {v : Value} (hk : env.kindOf x = some .cell) :
    valAt env m (fun z => if z = x then some v else cm z) y = if y = x then some v else valAt env m cm y := by
  unfold valAt
  by_cases h : y = x
  · subst h; rw [hk]; try simp
  · simp only [if_neg h]

noncomputable def isHere (C : Cx) (x : Str) : Bool := C.env.kindOf x == some .local || (C.ownC && C.env.kindOf x == some .cell)

/-- the name x is bound to v; what v stands for is one slot more -/
theorem store_frm {n : Nat} (ok : C.Ok n) {F mine : List Addr} {T : TM} {s : Shared} (hA : Abs C F mine T σ s) {x : String} (hx : isHere C (Str.ofString x) = true) {v : Value} {sl : Slot}
    (hr : SlotRep C.W (view (F ++ mine) T s) s.heap sl v) {m cm : Str → Option Value} (f : Frm C F mine T σ s m cm)
    (hown : ∀ a, sl.adr = some a → a ∈ mine ∧ a ≠ C.env.locals ∧ (∀ y c, C.env.cells.lookup y = some c → c ≠ a) ∧ ∀ y sl', find σ y = some sl' → sl'.adr = some a → y = Str.ofString x)
    {M : Model} {A : Around} {E : Value → Shared → Prop} {Q : Unit → Shared → Prop} (h : ∀ s', Post F mine T s mine T s' → Abs C F mine T (put σ (Str.ofString x) x sl) s' → Q () s') : wpAny M A (storeName C.env (Str.ofString x) v) Q E s := by
  have hp : (C.env.scope.kind == .class || (C.env.scope.kind == .module && C.env.locals != C.env.globals)) = false := by rw [ok.hk]; rfl
  -- both roads turn one object L of the frame's own
  have fin : ∀ (L : Addr) (h' : Heap) (tk : Nat) (m' cm' : Str → Option Value), s.toks ≤ tk → L ∈ mine → (∀ a, sl.adr = some a → a ≠ L) → (∀ y sl' a, find σ y = some sl' → sl'.adr = some a → a ≠ L) → Heap.SameBut L s.heap h' → h'.Ns C.env.locals m' → (∀ y c, C.env.cells.lookup y = some c → h'.IsCell c (cm' y)) →
      (∀ y, valAt C.env m' cm' y = if y = Str.ofString x then some v else valAt C.env m cm y) → (h'.get? L).isSome = true → Q () { s with heap := h', toks := tk } := by
    intro L h' tk m' cm' htk hL haL hoL hs hns hcs hva hLs
    have le : Le (view (F ++ mine) T s) (view (F ++ mine) T { s with heap := h', toks := tk }) := ⟨fun b o e => view_mk (view_not e) ((hs.2 b (fun q => view_not e (q ▸ List.mem_append_right _ hL))).trans (view_of e)), fun _ _ e => e⟩
    have far : ∀ b ∈ F, h'.get? b = s.heap.get? b := fun b hb => hs.2 b (fun q => hA.nin L hL (q ▸ hb))
    refine h _ ⟨⟨_, _, rfl⟩, le, far⟩ ⟨fun b o e => le.ob b o (hA.base b o e), fun b hb => ?_, hA.nin, hA.tok.mono htk, hA.sm.step (fun _ _ e => e) ⟨_, _, rfl⟩, m', cm', ?_⟩
    · by_cases hbL : b = L
      · subst hbL; exact hLs
      · show (h'.get? b).isSome = true
        rw [hs.2 b hbL]; exact hA.live b hb
    · refine { ns := hns, cells := hcs, apart := f.apart, lc := f.lc, has := f.has, lm := f.lm, cown := f.cown, cmine := f.cmine, slots := ?_, own := ?_, dis := ?_ }
      · intro y sl' hy
        rw [find_put] at hy
        unfold Bound
        rw [hva]
        by_cases hxy : Str.ofString x = y
        · rw [if_pos hxy] at hy
          cases hy
          subst hxy
          rw [if_pos rfl]
          exact ⟨v, .inl rfl, hr.mono le fun a ho o e => (hs.2 _ (haL a ho)).trans e⟩
        · rw [if_neg hxy] at hy
          rw [if_neg (Ne.symm hxy)]
          obtain ⟨v', hv', hr'⟩ := f.slots y sl' hy
          exact ⟨v', hv', hr'.mono le fun a ho o e => (hs.2 _ (hoL y sl' a hy ho)).trans e⟩
      · intro y sl' a hy ho
        rw [find_put] at hy
        by_cases hxy : Str.ofString x = y
        · rw [if_pos hxy] at hy
          cases hy
          obtain ⟨q1, q2, q3, _⟩ := hown a ho
          exact ⟨q1, q2, q3⟩
        · rw [if_neg hxy] at hy
          exact f.own y sl' a hy ho
      · intro y z sl1 sl2 a hy hz h1 h2
        rw [find_put] at hy hz
        by_cases hxy : Str.ofString x = y
        · rw [if_pos hxy] at hy
          cases hy
          by_cases hxz : Str.ofString x = z
          · exact hxy.symm.trans hxz
          · rw [if_neg hxz] at hz
            exact hxy.symm.trans ((hown a h1).2.2.2 z sl2 hz h2).symm
        · rw [if_neg hxy] at hy
          by_cases hxz : Str.ofString x = z
          · rw [if_pos hxz] at hz
            cases hz
            exact ((hown a h2).2.2.2 y sl1 hy h1).trans hxz
          · rw [if_neg hxz] at hz
            exact f.dis y z sl1 sl2 a hy hz h1 h2
  unfold isHere at hx
  cases hk : C.env.kindOf (Str.ofString x) with
  | none => rw [hk] at hx; simp at hx
  | some k =>
    cases k with
    | «local» =>
      refine wpAny_storeName_local hk f.ns (fun h' hn hs => ?_) hp
      refine fin C.env.locals h' _ _ cm (Nat.le_succ _) f.lm (fun a ho => (hown a ho).2.1) (fun y sl' a hy ho => (f.own y sl' a hy ho).2.1) hs hn (fun y c e => (f.cells y c e).sameBut hs (f.lc y c e)) (fun y => valAt_local hk) ?_
      obtain ⟨o, _, _, ho, _⟩ := hn
      rw [ho]; rfl
    | cell =>
      rw [hk] at hx
      have hoc : C.ownC = true := by simpa using hx
      obtain ⟨c, hc⟩ := f.has _ (.inl hk)
      refine wpAny_storeName_cell ok.hk hk hc (f.cells _ c hc) fun h' hv hs => ?_
      refine fin c h' s.toks m (fun z => if z = Str.ofString x then some v else cm z) (Nat.le_refl _) (f.cmine hoc _ c hc) (fun a ho => Ne.symm ((hown a ho).2.2.1 _ c hc)) (fun y sl' a hy ho => Ne.symm ((f.own y sl' a hy ho).2.2 _ c hc)) hs (f.ns.sameBut hs (Ne.symm (f.lc _ c hc)))
        (fun y c' e => ?_) (fun y => valAt_cell hk) ?_
      · by_cases hyx : y = Str.ofString x
        · subst hyx
          rw [hc] at e
          cases e
          simpa using hv
        · simp only [if_neg hyx]
          exact (f.cells y c' e).sameBut hs fun q => hyx (f.apart y _ c' e (q ▸ hc))
      · obtain ⟨o, ho, _⟩ := hv
        rw [ho]; rfl
    | _ => rw [hk] at hx; simp at hx

theorem store_val {n : Nat} (ok : C.Ok n) {F mine : List Addr} {T : TM} {s : Shared} (hA : Abs C F mine T σ s) {x : String} (hx : isHere C (Str.ofString x) = true) {v : Value} {u : V} (hr : Rep C.W (view (F ++ mine) T s) u v)
    {M : Model} {A : Around} {E : Value → Shared → Prop} {Q : Unit → Shared → Prop} (h : ∀ s', Post F mine T s mine T s' → Abs C F mine T (put σ (Str.ofString x) x (.val u)) s' → Q () s') : wpAny M A (storeName C.env (Str.ofString x) v) Q E s :=
  let ⟨_, _, f⟩ := hA.frm
  store_frm ok hA hx (sl := .val u) hr f (fun _ e => by cases e) h

/-! ### blocks -/
theorem exs_nil {Q : Fl → St → Prop} (h : Q .next σ) : Exs C σ [] Q :=
  fun F mine T s hA => wpAny_execs_nil ⟨.next, σ, mine, T, h, .refl _ _ _ _, hA, .next⟩

theorem exs_cons {st : Stmt} {rest : List Stmt} {Q : Fl → St → Prop} (h : Ex C σ st (fun fl σ' => match fl with | .next => Exs C σ' rest Q | fl => Q fl σ')) : Exs C σ (st :: rest) Q := by
  refine Tr.intro' fun F mine T s QQ fin hA => ?_
  refine wpAny_execs_cons (Tr.then h hA fun f s1 fl σ1 m1 T1 q p1 a1 r => ?_)
  cases r with
  | next =>
    refine Tr.then q a1 fun f2 s2 fl2 σ2 m2 T2 q2 p2 a2 r2 => ?_
    exact fin _ _ fl2 σ2 m2 T2 q2 (p1.trans p2) a2 r2
  | brk => exact fin _ _ _ σ1 m1 T1 q p1 a1 .brk
  | cont => exact fin _ _ _ σ1 m1 T1 q p1 a1 .cont
  | ret r => exact fin _ _ _ σ1 m1 T1 q p1 a1 (.ret r)

theorem ex_return {e : Expr} {pos} {Q : Fl → St → Prop} (h : Ev C σ e (fun v σ' => Q (.ret v) σ')) : Ex C σ (.Return (some e) pos) Q := by
  refine Tr.intro' fun F mine T s QQ fin hA => ?_
  refine wpAny_Return_some (Tr.then h hA fun f s1 v σ1 m1 T1 q p1 a1 r => ?_)
  exact fin _ _ (.ret v) σ1 m1 T1 q p1 a1 (.ret r)
theorem ex_if {test : Expr} {body orelse : List Stmt} {pos} {Q : Fl → St → Prop} (h : Tst C σ test (fun b σ' => (b = true → Exs C σ' body Q) ∧ (b = false → Exs C σ' orelse Q))) : Ex C σ (.If test body orelse pos) Q := by
  refine Tr.intro' fun F mine T s QQ fin hA => ?_
  refine wpAny_If (Tr.then h hA fun b s1 b' σ1 m1 T1 q p1 a1 r => ?_)
  have r : b' = b := r
  subst r
  cases b' with
  | true =>
    refine Tr.then (q.1 rfl) a1 fun f2 s2 fl2 σ2 m2 T2 q2 p2 a2 r2 => ?_
    exact fin _ _ fl2 σ2 m2 T2 q2 (p1.trans p2) a2 r2
  | false =>
    refine Tr.then (q.2 rfl) a1 fun f2 s2 fl2 σ2 m2 T2 q2 p2 a2 r2 => ?_
    exact fin _ _ fl2 σ2 m2 T2 q2 (p1.trans p2) a2 r2

/-- x = e, what e gives stands -/
theorem ex_assign {n : Nat} (ok : C.Ok n) {x : String} {p' e pos} {Q : Fl → St → Prop} (hx : isHere C (Str.ofString x) = true) (hs : swapsWith e (some (.Name (Str.ofString x) p')) pos.line C.env = pure false)
    (h : Ev C σ e (fun v σ' => Q .next (put σ' (Str.ofString x) x (.val v)))) : Ex C σ (.Assign [.Name (Str.ofString x) p'] e pos) Q := by
  refine Tr.intro' fun F mine T s QQ fin hA => ?_
  refine wpAny_Assign_Name (Tr.then h hA fun v s1 u σ1 m1 T1 q p1 a1 r => ?_) hs
  refine store_val ok a1 hx r fun s2 p2 a2 => fin _ _ .next _ m1 T1 q (p1.trans p2) a2 .next

structure AbsN (C : Cx) (F mine : List Addr) (a : Addr) (T : TM) (σ : St) (s : Shared) : Prop where
  base : ∀ b o, C.W.h₀.get? b = some o → (view (F ++ (a :: mine)) T s).ob b = some o
  live : ∀ b ∈ F ++ (a :: mine), (s.heap.get? b).isSome = true
  nin : ∀ b ∈ a :: mine, b ∉ F
  tok : TOk T s.toks
  sm : Sm C T s
  frm : ∃ m cm, Frm C F (a :: mine) T σ s m cm ∧ a ≠ C.env.locals ∧ (∀ y c, C.env.cells.lookup y = some c → c ≠ a) ∧ ∀ y sl, find σ y = some sl → sl.adr ≠ some a

theorem AbsN.abs {F mine : List Addr} {a : Addr} {T : TM} {s : Shared} (x : AbsN C F mine a T σ s) : Abs C F (a :: mine) T σ s :=
  ⟨x.base, x.live, x.nin, x.tok, x.sm, let ⟨m, cm, f, _⟩ := x.frm; ⟨m, cm, f⟩⟩

/-- the new object stands for good -/
theorem AbsN.drop {F mine : List Addr} {a : Addr} {T : TM} {s : Shared} (hn : a ∉ mine) (x : AbsN C F mine a T σ s) : Abs C F mine T σ s := by
  obtain ⟨m, cm, f, h1, h2, h3⟩ := x.frm
  have sub : ∀ b ∈ F ++ mine, b ∈ F ++ (a :: mine) := app_sub fun b hb => List.mem_cons_of_mem _ hb
  have le := view_sub (T := T) (s := s) sub
  have mm : ∀ b, b ∈ a :: mine → b ≠ a → b ∈ mine := fun b hb hne => (List.mem_cons.mp hb).resolve_left hne
  refine ⟨fun b o e => le.ob b o (x.base b o e), fun b hb => x.live b (sub b hb), fun b hb => x.nin b (List.mem_cons_of_mem _ hb), x.tok, x.sm, m, cm, ?_⟩
  refine { ns := f.ns, cells := f.cells, apart := f.apart, lc := f.lc, has := f.has, lm := mm _ f.lm (Ne.symm h1), cown := ?_, cmine := fun hc y c e => mm _ (f.cmine hc y c e) (h2 y c e), slots := ?_, own := ?_, dis := f.dis }
  · intro y c e
    rcases List.mem_append.mp (f.cown y c e) with hm | hm
    · exact List.mem_append_left _ hm
    · exact List.mem_append_right _ (mm _ hm (h2 y c e))
  · intro y sl e
    obtain ⟨v, hv, hr⟩ := f.slots y sl e
    exact ⟨v, hv, hr.mono le fun _ _ _ e => e⟩
  · intro y sl b e ho
    obtain ⟨q1, q2, q3⟩ := f.own y sl b e ho
    exact ⟨mm _ q1 (fun q => h3 y sl e (q ▸ ho)), q2, q3⟩

/-- a tree that gives a new object -/
noncomputable def EvF (C : Cx) (σ : St) (t : Sem Value) (Q : Slot → St → Prop) : Prop :=
  ∀ F mine T s, Abs C F mine T σ s → wpAny C.M C.A t (fun v s' => ∃ sl σ' mine' a T', Q sl σ' ∧ sl.adr = some a ∧ Post F mine T s (a :: mine') T' s' ∧ a ∉ mine' ∧ AbsN C F mine' a T' σ' s' ∧ SlotRep C.W (view (F ++ (a :: mine')) T' s') s'.heap sl v) C.X s

theorem EvF.intro' {C : Cx} {σ : St} {t : Sem Value} {Q : Slot → St → Prop}
    (h : ∀ F mine T s (QQ : Value → Shared → Prop), (∀ v s' sl σ' mine' a T', Q sl σ' → sl.adr = some a → Post F mine T s (a :: mine') T' s' → a ∉ mine' → AbsN C F mine' a T' σ' s' → SlotRep C.W (view (F ++ (a :: mine')) T' s') s'.heap sl v → QQ v s') → Abs C F mine T σ s → wpAny C.M C.A t QQ C.X s) : EvF C σ t Q :=
  fun F mine T s hA => h F mine T s _ (fun _ _ sl σ' m' a T' x y z w u v => ⟨sl, σ', m', a, T', x, y, z, w, u, v⟩) hA
theorem EvF.mono {t : Sem Value} {Q Q' : Slot → St → Prop} (h : EvF C σ t Q) (hq : ∀ b σ, Q b σ → Q' b σ) : EvF C σ t Q' :=
  fun F mine T s hA => wpAny_mono (h F mine T s hA) (fun _ _ ⟨b, σ', m', a, T', q, r⟩ => ⟨b, σ', m', a, T', hq _ _ q, r⟩) fun _ _ x => x

theorem EvF.ev {t : Sem Value} {Q : V → St → Prop} (h : EvF C σ t (fun sl σ' => Q sl.v σ')) : EvT C σ t Q := by
  intro F mine T s hA
  refine wpAny_mono (h F mine T s hA) ?_ fun _ _ x => x
  rintro v s1 ⟨sl, σ1, m1, a, T1, q, ho, p1, hn, a1, r⟩
  have a2 := a1.drop hn
  have sub : ∀ b ∈ F ++ m1, b ∈ F ++ (a :: m1) := app_sub fun b hb => List.mem_cons_of_mem _ hb
  refine ⟨sl.v, σ1, m1, T1, q, ⟨p1.same, p1.le.trans (view_sub sub), p1.far⟩, a2, r.freeze ho sub fun hm => ?_⟩
  rcases List.mem_append.mp hm with hm | hm
  · exact a1.nin a List.mem_cons_self hm
  · exact hn hm

/-- one object more, and it is new -/
theorem Abs.new {F mine : List Addr} {T T' : TM} {s s' : Shared} (hA : Abs C F mine T σ s) (k : Kp T s T' s') {a : Addr} (hn : s.heap.get? a = none) (hs : (s'.heap.get? a).isSome = true) :
    Post F mine T s (a :: mine) T' s' ∧ a ∉ mine ∧ AbsN C F mine a T' σ s' ∧ Le (view (a :: (F ++ mine)) T' s') (view (F ++ (a :: mine)) T' s') := by
  have hnew : ∀ b ∈ F ++ mine, b ≠ a := fun b hb e => hA.ownOk.fresh hn (e ▸ hb)
  have hA1 := hA.keeps k
  have le : Le (view (F ++ mine) T s) (view (F ++ (a :: mine)) T' s') := ⟨fun b o e => by
    have e1 := k.view.ob b o e
    refine view_mk (fun hm => ?_) (view_of e1)
    rcases List.mem_append.mp hm with hm | hm
    · exact view_not e1 (List.mem_append_left _ hm)
    · rcases List.mem_cons.mp hm with rfl | hm
      · rw [view_of e] at hn; cases hn
      · exact view_not e1 (List.mem_append_right _ hm), k.tle⟩
  have pk := k.post hA.live
  have eqv : Le (view (a :: (F ++ mine)) T' s') (view (F ++ (a :: mine)) T' s') := view_sub fun b hb => by
    rcases List.mem_append.mp hb with hb | hb
    · exact List.mem_cons_of_mem _ (List.mem_append_left _ hb)
    · rcases List.mem_cons.mp hb with rfl | hb
      · exact List.mem_cons_self
      · exact List.mem_cons_of_mem _ (List.mem_append_right _ hb)
  refine ⟨⟨pk.same, le, pk.far⟩, fun hm => hnew a (List.mem_append_right _ hm) rfl, ?_, eqv⟩
  obtain ⟨m, cm, f⟩ := hA.frm
  have f1 : Frm C F mine T' σ s' m cm := f.keeps k
  refine ⟨fun b o e => le.ob b o (hA.base b o e), fun b hb => ?_, fun b hb => ?_, k.tok, hA.sm.step k.tle k.same, m, cm, ?_, fun e => hnew _ (List.mem_append_right _ f.lm) e.symm, fun y c e => hnew c (f.cown y c e), fun y sl' e ho' => hnew _ (List.mem_append_right _ (f.own y sl' a e ho').1) rfl⟩
  · rcases List.mem_append.mp hb with hb | hb
    · exact hA1.live b (List.mem_append_left _ hb)
    · rcases List.mem_cons.mp hb with rfl | hb
      · exact hs
      · exact hA1.live b (List.mem_append_right _ hb)
  · rcases List.mem_cons.mp hb with rfl | hb
    · exact fun hF => hnew _ (List.mem_append_left _ hF) rfl
    · exact hA.nin b hb
  · refine { ns := f1.ns, cells := f1.cells, apart := f1.apart, lc := f1.lc, has := f1.has, lm := List.mem_cons_of_mem _ f1.lm, cown := ?_, cmine := fun hc y c e => List.mem_cons_of_mem _ (f1.cmine hc y c e), slots := ?_, own := ?_, dis := f1.dis }
    · intro y c e
      rcases List.mem_append.mp (f1.cown y c e) with hm | hm
      · exact List.mem_append_left _ hm
      · exact List.mem_append_right _ (List.mem_cons_of_mem _ hm)
    · intro y sl' e
      obtain ⟨v, hv, hr⟩ := f.slots y sl' e
      exact ⟨v, hv, hr.mono le fun _ _ o e => k.keep _ o e⟩
    · intro y sl' b e ho'
      obtain ⟨q1, q2, q3⟩ := f1.own y sl' b e ho'
      exact ⟨List.mem_cons_of_mem _ q1, q2, q3⟩

theorem EvF.prim {t : Sem Value} {Q : Slot → St → Prop} (h : ∀ own T s, OwnOk C own T s → PrimF C own T s t (fun sl => Q sl σ)) : EvF C σ t Q := by
  refine EvF.intro' fun F mine T s QQ fin hA => ?_
  refine wpAny_mono (h (F ++ mine) T s hA.ownOk) ?_ fun _ _ x => x
  rintro v s1 ⟨sl, T1, a, q, ho, k, hn, hs, r⟩
  obtain ⟨p1, hm, a1, le⟩ := hA.new k hn hs
  exact fin _ _ sl σ mine a T1 q ho p1 hm a1 (r.mono le fun _ _ _ e => e)

/-- x = e, what e gives is new and the frame's own -/
theorem ex_assignN {n : Nat} (ok : C.Ok n) {x : String} {p' e pos} {Q : Fl → St → Prop} (hx : isHere C (Str.ofString x) = true) (hs : swapsWith e (some (.Name (Str.ofString x) p')) pos.line C.env = pure false)
    (h : EvF C σ (eval e C.env) (fun sl σ' => Q .next (put σ' (Str.ofString x) x sl))) : Ex C σ (.Assign [.Name (Str.ofString x) p'] e pos) Q := by
  intro F mine T s hA
  refine wpAny_Assign_Name (wpAny_mono (h F mine T s hA) ?_ fun _ _ x => x) hs
  rintro v s1 ⟨sl, σ1, m1, a, T1, q, ho, p1, hn, a1, r⟩
  obtain ⟨m, cm, f, h1, h2, h3⟩ := a1.frm
  refine store_frm ok a1.abs hx r f (fun b hb => ?_) fun s2 p2 a2 => ⟨.next, _, _, T1, q, p1.trans p2, a2, .next⟩
  rw [ho] at hb
  cases hb
  exact ⟨List.mem_cons_self, h1, h2, fun y sl' e1 e2 => absurd e2 (h3 y sl' e1)⟩

/-- a list or dict of the frame's own turns -/
theorem Abs.mutate {F mine : List Addr} {T T' : TM} {s s' : Shared} (hA : Abs C F mine T σ s) {x : String} {sl sl' : Slot} {a : Addr} (hf : find σ (Str.ofString x) = some sl) (ho : sl.adr = some a) (ho' : sl'.adr = some a)
    (hsame : ∃ h' tk, s' = { s with heap := h', toks := tk }) (hs : ∀ b o, b ≠ a → s.heap.get? b = some o → s'.heap.get? b = some o) (hl : (s'.heap.get? a).isSome = true) (hT : TLe T T') (ht : TOk T' s'.toks)
    (hr : ∀ g', Le (view (F ++ mine) T s) g' → Le g' (view (F ++ mine) T' s') → SlotRep C.W (view (F ++ mine) T' s') s'.heap sl' (.ref a)) : Post F mine T s mine T' s' ∧ Abs C F mine T' (put σ (Str.ofString x) x sl') s' := by
  obtain ⟨m, cm, f⟩ := hA.frm
  obtain ⟨v, hv, hr0⟩ := f.slots _ _ hf
  obtain ⟨o1, o2, o3⟩ := f.own _ _ _ hf ho
  have hva := hr0.ref ho
  have le : Le (view (F ++ mine) T s) (view (F ++ mine) T' s') := ⟨fun b o e => view_mk (view_not e) (hs b o (fun q => view_not e (q ▸ List.mem_append_right _ o1)) (view_of e)), hT⟩
  have hr := hr _ le (.refl _)
  have far : ∀ b ∈ F, s'.heap.get? b = s.heap.get? b := fun b hb => by
    obtain ⟨o, ho⟩ := Option.isSome_iff_exists.mp (hA.live b (List.mem_append_left _ hb))
    rw [ho]; exact hs b o (fun q => hA.nin a o1 (q ▸ hb)) ho
  refine ⟨⟨hsame, le, far⟩, fun b o e => le.ob b o (hA.base b o e), fun b hb => ?_, hA.nin, ht, hA.sm.step hT hsame, m, cm, ?_⟩
  · by_cases q : b = a
    · subst q; exact hl
    · obtain ⟨o, ho⟩ := Option.isSome_iff_exists.mp (hA.live b hb)
      rw [hs b o q ho]; rfl
  · refine { ns := f.ns.at' fun o e => hs _ o (Ne.symm o2) e, cells := fun y c e => ?_, apart := f.apart, lc := f.lc, has := f.has, lm := f.lm, cown := f.cown, cmine := f.cmine, slots := ?_, own := ?_, dis := ?_ }
    · obtain ⟨o, ho, hd⟩ := f.cells y c e
      exact ⟨o, hs c o (o3 y c e) ho, hd⟩
    · intro y sl1 hy
      rw [find_put] at hy
      by_cases hxy : Str.ofString x = y
      · rw [if_pos hxy] at hy
        cases hy
        subst hxy
        refine ⟨.ref a, ?_, hr⟩
        rcases hv with hv | ⟨h1, _, b, h2, h3⟩
        · exact .inl (hva ▸ hv)
        · rw [hva] at h3
          cases h3
          exact .inr ⟨h1, by unfold Slot.owned; rw [ho']; rfl, a, h2, rfl⟩
      · rw [if_neg hxy] at hy
        obtain ⟨v', hv', hr'⟩ := f.slots y sl1 hy
        exact ⟨v', hv', hr'.mono le fun b hb o e => hs b o (fun q => hxy (f.dis _ y sl sl1 a hf hy ho (q ▸ hb))) e⟩
    · intro y sl1 b hy hb
      rw [find_put] at hy
      by_cases hxy : Str.ofString x = y
      · rw [if_pos hxy] at hy
        cases hy
        rw [ho'] at hb
        cases hb
        exact ⟨o1, o2, o3⟩
      · rw [if_neg hxy] at hy
        exact f.own y sl1 b hy hb
    · intro y z sl1 sl2 b hy hz h1 h2
      rw [find_put] at hy hz
      by_cases hxy : Str.ofString x = y
      · rw [if_pos hxy] at hy
        cases hy
        rw [ho'] at h1
        cases h1
        by_cases hxz : Str.ofString x = z
        · exact hxy.symm.trans hxz
        · rw [if_neg hxz] at hz
          exact hxy.symm.trans (f.dis _ z sl sl2 a hf hz ho h2)
      · rw [if_neg hxy] at hy
        by_cases hxz : Str.ofString x = z
        · rw [if_pos hxz] at hz
          cases hz
          rw [ho'] at h2
          cases h2
          exact (f.dis y _ sl1 sl a hy hf h1 ho).trans hxz
        · rw [if_neg hxz] at hz
          exact f.dis y z sl1 sl2 b hy hz h1 h2

end
end Sx
end
section
open PySem PySem.W PyProof.Rows PySem.Calls
set_option linter.unusedVariables false
set_option Elab.async false
set_option maxRecDepth 100000
namespace Sx

/-- a step on two values -/
noncomputable def Op2 {α β : Type} (C : Cx) (R : PH → β → α → Prop) (f : Value → Value → Sem α) (a b : V) (K : β → Prop) : Prop :=
  ∀ own T s va vb, OwnOk C own T s → Rep C.W (view own T s) a va → Rep C.W (view own T s) b vb → PrimR C own T s R (f va vb) K
noncomputable def Op1 {α β : Type} (C : Cx) (R : PH → β → α → Prop) (f : Value → Sem α) (a : V) (K : β → Prop) : Prop :=
  ∀ own T s va, OwnOk C own T s → Rep C.W (view own T s) a va → PrimR C own T s R (f va) K
noncomputable def OpL {α β : Type} (C : Cx) (R : PH → β → α → Prop) (f : List Value → Sem α) (as : List V) (K : β → Prop) : Prop :=
  ∀ own T s vs, OwnOk C own T s → RepL C.W (view own T s) as vs → PrimR C own T s R (f vs) K
noncomputable def Op2F (C : Cx) (f : Value → Value → Sem Value) (a b : V) (K : Slot → Prop) : Prop :=
  ∀ own T s va vb, OwnOk C own T s → Rep C.W (view own T s) a va → Rep C.W (view own T s) b vb → PrimF C own T s (f va vb) K
noncomputable def OpLF (C : Cx) (f : List Value → Sem Value) (as : List V) (K : Slot → Prop) : Prop :=
  ∀ own T s vs, OwnOk C own T s → RepL C.W (view own T s) as vs → PrimF C own T s (f vs) K

noncomputable def IsTy (W : Wd) (a : V) (T : String) : Prop := ∀ (g : PH) (s : Shared) (va : Value), Rep W g a va → (∀ c o, g.ob c = some o → s.heap.get? c = some o) → s.TypeIs va T

section
variable {C : Cx} {σ : St}

theorem Tr.ofRep {α β : Type} {R : PH → β → α → Prop} {f : Value → Sem α} {Q : β → St → Prop} {a : V} (h : Op1 C R f a (fun b => Q b σ)) : ∀ F mine T s va, Abs C F mine T σ s → Rep C.W (view (F ++ mine) T s) a va →
    wpAny C.M C.A (f va) (fun x s' => ∃ b σ' mine' T', Q b σ' ∧ Post F mine T s mine' T' s' ∧ Abs C F mine' T' σ' s' ∧ R (view (F ++ mine') T' s') b x) C.X s :=
  fun F mine T s va hA r => wpAny_mono (h _ T s va hA.ownOk r) (fun _ _ ⟨b, T', q, k, r⟩ => ⟨b, σ, mine, T', q, k.post hA.live, hA.keeps k, r⟩) fun _ _ x => x

theorem ev_bin {l r : Expr} {op : Operator} {p : Pos} {Q : V → St → Prop} (h : Ev C σ l (fun a σ1 => Ev C σ1 r (fun b σ2 => Op2 C (Rep C.W) (binaryOp op) a b (fun v => Q v σ2)))) : Ev C σ (.BinOp l op r p) Q := by
  refine Tr.intro' fun F mine T s QQ fin hA => ?_
  refine wpAny_BinOp (Tr.then h hA fun va s1 a σ1 m1 T1 hQ p1 a1 r1 => ?_)
  refine Tr.then hQ a1 fun vb s2 b σ2 m2 T2 hQ2 p2 a2 r2 => ?_
  refine PrimR.then (hQ2 _ T2 s2 va vb a2.ownOk (r1.mono p2.le) r2) fun vc s3 c T3 q k r3 => ?_
  exact fin _ _ c σ2 m2 T3 q ((p1.trans p2).trans (k.post a2.live)) (a2.keeps k) r3

theorem ev_cmp {l r : Expr} {op : CmpOp} {p : Pos} {Q : V → St → Prop} (h : Ev C σ l (fun a σ1 => Ev C σ1 r (fun b σ2 => Op2 C (Rep C.W) (compareOp op) a b (fun v => Q v σ2))))
    (hm : behindInMarks op r = false := by with_unfolding_all rfl) : Ev C σ (.Compare l [op] [r] p) Q := by
  refine Tr.intro' fun F mine T s QQ fin hA => ?_
  refine wpAny_Compare1 (Tr.then h hA fun va s1 a σ1 m1 T1 hQ p1 a1 r1 => ?_) hm
  refine Tr.then hQ a1 fun vb s2 b σ2 m2 T2 hQ2 p2 a2 r2 => ?_
  refine PrimR.then (hQ2 _ T2 s2 va vb a2.ownOk (r1.mono p2.le) r2) fun vc s3 c T3 q k r3 => ?_
  exact fin _ _ c σ2 m2 T3 q ((p1.trans p2).trans (k.post a2.live)) (a2.keeps k) r3

/-- a comparison in a test: its value is a bool -/
theorem tst_cmp {l r : Expr} {op : CmpOp} {p : Pos} {Q : Bool → St → Prop} (h : Ev C σ l (fun a σ1 => Ev C σ1 r (fun b σ2 => Op2 C (Rep C.W) (compareOp op) a b (fun v => ∃ b, v = .bool b ∧ Q b σ2))))
    (hm : behindInMarks op r = false := by with_unfolding_all rfl) : Tst C σ (.Compare l [op] [r] p) Q := by
  refine Tr.intro' fun F mine T s QQ fin hA => ?_
  refine wpAny_isTrue_Compare1 (Tr.then h hA fun va s1 a σ1 m1 T1 hQ p1 a1 r1 => ?_) hm
  refine Tr.then hQ a1 fun vb s2 b σ2 m2 T2 hQ2 p2 a2 r2 => ?_
  refine wpAny_mono (hQ2 _ T2 s2 va vb a2.ownOk (r1.mono p2.le) r2) ?_ fun _ _ x => x
  rintro vc s3 ⟨c, T3, ⟨b, rfl, q⟩, k, r3⟩
  cases r3
  exact wpAny_truthy_bool (fin _ _ b σ2 m2 T3 q ((p1.trans p2).trans (k.post a2.live)) (a2.keeps k) rfl)

/-- a test that is just a value -/
theorem tst_val {e : Expr} {Q : Bool → St → Prop} (h : Ev C σ e (fun a σ1 => Op1 C RB truthy a (fun b => Q b σ1))) (he : isTrue e C.env (eval e C.env) = (do let v ← eval e C.env; standAt e.pos; holding [v] (truthy v)) := by rfl) : Tst C σ e Q := by
  refine Tr.intro' fun F mine T s QQ fin hA => ?_
  rw [he]
  refine wpAny_bind (Tr.then h hA fun va s1 a σ1 m1 T1 hQ p1 a1 r1 => ?_)
  refine wpAny_bind (wpAny_standAt (wpAny_holding (wpAny_mono (Tr.ofRep (Q := Q) hQ F m1 T1 s1 va a1 r1) ?_ fun _ _ x => x)))
  rintro b s2 ⟨b', σ2, m2, T2, q, p2, a2, r2⟩
  exact fin _ _ b' σ2 m2 T2 q (p1.trans p2) a2 r2

theorem tst_not {e : Expr} {p : Pos} {Q : Bool → St → Prop} (h : Tst C σ e (fun b σ' => Q (!b) σ')) : Tst C σ (.UnaryOp .Not e p) Q := by
  refine Tr.intro' fun F mine T s QQ fin hA => ?_
  refine wpAny_isTrue_Not (Tr.then h hA fun b s1 b' σ1 m1 T1 q p1 a1 r => ?_)
  have r : b' = b := r
  subst r
  exact fin _ _ _ σ1 m1 T1 q p1 a1 rfl

noncomputable abbrev AllT (C : Cx) (σ : St) (op : BoolOp) (es : List Expr) (Q : Bool → St → Prop) : Prop := Tr C σ RB (allTrue op es C.env) Q
theorem tst_bool {op : BoolOp} {es : List Expr} {p : Pos} {Q : Bool → St → Prop} (h : AllT C σ op es Q) : Tst C σ (.BoolOp op es p) Q :=
  fun F mine T s hA => wpAny_isTrue_BoolOp (h F mine T s hA)
theorem allT_and_nil {Q : Bool → St → Prop} (h : Q true σ) : AllT C σ .And [] Q := fun F mine T s hA => wpAny_allTrue_And_nil ⟨_, _, _, T, h, .refl _ _ _ _, hA, rfl⟩
theorem allT_or_nil {Q : Bool → St → Prop} (h : Q false σ) : AllT C σ .Or [] Q := fun F mine T s hA => wpAny_allTrue_Or_nil ⟨_, _, _, T, h, .refl _ _ _ _, hA, rfl⟩
theorem allT_and {e : Expr} {es : List Expr} {Q : Bool → St → Prop} (h : Tst C σ e (fun b σ' => (b = true → AllT C σ' .And es Q) ∧ (b = false → Q false σ'))) : AllT C σ .And (e :: es) Q := by
  refine Tr.intro' fun F mine T s QQ fin hA => ?_
  rw [arm_allTrue_cons]
  refine wpAny_bind (Tr.then h hA fun b s1 b' σ1 m1 T1 q p1 a1 r => ?_)
  have r : b' = b := r
  subst r
  cases b' with
  | true =>
    refine Tr.then (q.1 rfl) a1 fun b2 s2 b2' σ2 m2 T2 q2 p2 a2 r2 => ?_
    exact fin _ _ b2' σ2 m2 T2 q2 (p1.trans p2) a2 r2
  | false => exact wpAny_pure (fin _ _ false σ1 m1 T1 (q.2 rfl) p1 a1 rfl)
theorem allT_or {e : Expr} {es : List Expr} {Q : Bool → St → Prop} (h : Tst C σ e (fun b σ' => (b = false → AllT C σ' .Or es Q) ∧ (b = true → Q true σ'))) : AllT C σ .Or (e :: es) Q := by
  refine Tr.intro' fun F mine T s QQ fin hA => ?_
  rw [arm_allTrue_cons]
  refine wpAny_bind (Tr.then h hA fun b s1 b' σ1 m1 T1 q p1 a1 r => ?_)
  have r : b' = b := r
  subst r
  cases b' with
  | false =>
    refine Tr.then (q.1 rfl) a1 fun b2 s2 b2' σ2 m2 T2 q2 p2 a2 r2 => ?_
    exact fin _ _ b2' σ2 m2 T2 q2 (p1.trans p2) a2 r2
  | true => exact wpAny_pure (fin _ _ true σ1 m1 T1 (q.2 rfl) p1 a1 rfl)

theorem ev_ifexp {t a b : Expr} {p : Pos} {Q : V → St → Prop} (h : Tst C σ t (fun c σ' => (c = true → Ev C σ' a Q) ∧ (c = false → Ev C σ' b Q))) : Ev C σ (.IfExp t a b p) Q := by
  refine Tr.intro' fun F mine T s QQ fin hA => ?_
  rw [arm_eval_IfExp]
  refine wpAny_bind (Tr.then h hA fun c s1 b' σ1 m1 T1 q p1 a1 r => ?_)
  have r : b' = c := r
  subst r
  cases b' with
  | true =>
    refine Tr.then (q.1 rfl) a1 fun b2 s2 b2' σ2 m2 T2 q2 p2 a2 r2 => ?_
    exact fin _ _ b2' σ2 m2 T2 q2 (p1.trans p2) a2 r2
  | false =>
    refine Tr.then (q.2 rfl) a1 fun b2 s2 b2' σ2 m2 T2 q2 p2 a2 r2 => ?_
    exact fin _ _ b2' σ2 m2 T2 q2 (p1.trans p2) a2 r2

/-! ### rows of items -/
theorem evL_nil {pos : Pos} {Q : List V → St → Prop} (h : Q [] σ) : EvL C σ pos [] Q := fun F mine T s hA => wpAny_items_nil ⟨[], σ, mine, T, h, .refl _ _ _ _, hA, .nil⟩
theorem backTo_cons {pos : Pos} {e : Expr} {rest : List Expr} (hs : starEach (e :: rest) C.env = (false, eval e C.env) :: starEach rest C.env) :
    backTo pos (starEach (e :: rest) C.env) = (false, eval e C.env) :: backTo pos (starEach rest C.env) := by rw [hs]; rfl
theorem evL_cons {pos : Pos} {e : Expr} {rest : List Expr} {Q : List V → St → Prop} (h : Ev C σ e (fun v σ1 => EvL C σ1 pos rest (fun vs σ2 => Q (v :: vs) σ2)))
    (hs : starEach (e :: rest) C.env = (false, eval e C.env) :: starEach rest C.env := by rfl) : EvL C σ pos (e :: rest) Q := by
  refine Tr.intro' fun F mine T s QQ fin hA => ?_
  rw [backTo_cons hs]
  refine spliced_cons (Tr.then h hA fun va s1 a σ1 m1 T1 hQ p1 a1 r1 => ?_)
  refine Tr.then hQ a1 fun vb s2 vs σ2 m2 T2 hQ2 p2 a2 r2 => ?_
  exact fin _ _ (a :: vs) σ2 m2 T2 hQ2 (p1.trans p2) a2 (.cons (r1.mono p2.le) r2)

theorem evF_ofL {pos : Pos} {es : List Expr} {f : List Value → Sem Value} {Q : Slot → St → Prop} (h : EvL C σ pos es (fun vs σ1 => OpLF C f vs (fun sl => Q sl σ1))) :
    EvF C σ (do f (← spliced (backTo pos (starEach es C.env)))) Q := by
  intro F mine T s hA
  refine wpAny_bind (Tr.then h hA fun vs s1 as σ1 m1 T1 hQ p1 a1 r1 => ?_)
  refine wpAny_mono (hQ _ T1 s1 vs a1.ownOk r1) ?_ fun _ _ x => x
  rintro v s2 ⟨sl, T2, a, q, ho, k, hn, hs, r2⟩
  obtain ⟨p2, hm, a2, le⟩ := a1.new k hn hs
  exact ⟨sl, σ1, m1, a, T2, q, ho, p1.trans p2, hm, a2, r2.mono le fun _ _ _ e => e⟩
theorem ev_ofL {pos : Pos} {es : List Expr} {f : List Value → Sem Value} {Q : V → St → Prop} (h : EvL C σ pos es (fun vs σ1 => OpL C (Rep C.W) f vs (fun sl => Q sl σ1))) :
    EvT C σ (do f (← spliced (backTo pos (starEach es C.env)))) Q := by
  refine Tr.intro' fun F mine T s QQ fin hA => ?_
  refine wpAny_bind (Tr.then h hA fun vs s1 as σ1 m1 T1 hQ p1 a1 r1 => ?_)
  refine PrimR.then (hQ _ T1 s1 vs a1.ownOk r1) fun v s2 b T2 q k r2 => ?_
  exact fin _ _ b σ1 m1 T2 q (p1.trans (k.post a1.live)) (a1.keeps k) r2

theorem Tr.standAt {α β : Type} {R : PH → β → α → Prop} {pos : Pos} {t : Sem α} {Q : β → St → Prop} (h : Tr C σ R t Q) : Tr C σ R (do standAt pos; t) Q := fun F mine T s hA => wpAny_bind (wpAny_standAt (h F mine T s hA))
theorem EvF.standAt {pos : Pos} {t : Sem Value} {Q : Slot → St → Prop} (h : EvF C σ t Q) : EvF C σ (do standAt pos; t) Q := fun F mine T s hA => wpAny_bind (wpAny_standAt (h F mine T s hA))

theorem newList_op {vs : List V} {K : Slot → Prop} (h : ∀ a, K (.list a vs)) (hl : vs.length ≤ sizeLine) : OpLF C newList vs K := by
  intro own T s ws hO hr
  refine wpAny_newObj_type ?_ (by show ws.toArray.size ≤ sizeLine; rw [List.size_toArray, hr.length]; exact hl)
  have hk : Kp T s T { s with heap := s.heap.push { cls := .type "list", data := .seq ws.toArray } } := .push hO.tok (Nat.le_refl _)
  have hn := fresh_size s.heap
  refine ⟨.list s.heap.objs.size vs, T, s.heap.objs.size, h _, rfl, hk, hn, by rw [Heap.get?_push_size _ rfl]; rfl, rfl, ws, ⟨0, Heap.get?_push_size _ rfl⟩, ?_⟩
  refine hr.mono ⟨fun b o e => view_mk (fun hm => ?_) (hk.keep b o (view_of e)), fun _ _ e => e⟩
  rcases List.mem_cons.mp hm with rfl | hm
  · rw [view_of e] at hn; cases hn
  · exact view_not e hm
theorem newTuple_op {vs : List V} {K : V → Prop} (h : K (.tup vs)) (hl : vs.length ≤ sizeLine) : OpL C (Rep C.W) newTuple vs K := by
  intro own T s ws hO hr
  refine wpAny_newObj_type ?_ (by show ws.toArray.size ≤ sizeLine; rw [List.size_toArray, hr.length]; exact hl)
  have hk : Kp T s T { s with heap := s.heap.push { cls := .type "tuple", data := .seq ws.toArray } } := .push hO.tok (Nat.le_refl _)
  have hn := fresh_size s.heap
  exact ⟨_, T, h, hk, .tup (view_mk (hO.fresh hn) (Heap.get?_push_size _ rfl)) rfl rfl rfl (hr.mono hk.view)⟩

theorem evF_list {es : List Expr} {pos : Pos} {Q : Slot → St → Prop} (h : EvL C σ pos es (fun vs σ1 => vs.length ≤ sizeLine ∧ ∀ a, Q (.list a vs) σ1)) : EvF C σ (eval (.List es pos) C.env) Q := by
  rw [arm_eval_List]
  exact EvF.standAt (evF_ofL (h.mono fun vs σ1 hq => newList_op hq.2 hq.1))
theorem ev_list {es : List Expr} {pos : Pos} {Q : V → St → Prop} (h : EvL C σ pos es (fun vs σ1 => vs.length ≤ sizeLine ∧ Q (.lst vs) σ1)) : Ev C σ (.List es pos) Q := (evF_list (Q := fun sl σ => Q sl.v σ) (h.mono fun vs σ1 hq => ⟨hq.1, fun _ => hq.2⟩)).ev
theorem ev_tuple {es : List Expr} {k : Nat} {pos : Pos} {Q : V → St → Prop} (h : EvL C σ pos es (fun vs σ1 => vs.length ≤ sizeLine ∧ Q (.tup vs) σ1)) : Ev C σ (.Tuple es k pos) Q := by
  rw [Ev, arm_eval_Tuple]
  exact Tr.standAt (ev_ofL (h.mono fun vs σ1 hq => newTuple_op hq.2 hq.1))

/-! ### items -/
theorem ev_sub {value slice : Expr} {pos : Pos} {Q : V → St → Prop}
    (h : Ev C σ value (fun a σ1 => Ev C σ1 slice (fun b σ2 => Op2 C (Rep C.W) getItem a b (fun v => Q v σ2) ∧ ∃ T id, typeLookup (.type T) "__getitem__" = pure (some (.builtin id)) ∧ IsTy C.W a T)))
    (hs : ∀ o i, subscripted slice false o i = operate [o, i] (getItem o i) := by intro _ _; rfl) : Ev C σ (.Subscript value slice pos) Q := by
  refine Tr.intro' fun F mine T s QQ fin hA => ?_
  rw [arm_eval_Subscript]
  refine wpAny_bind (Tr.then h hA fun va s1 a σ1 m1 T1 hQ p1 a1 r1 => ?_)
  refine wpAny_bind (wpAny_holding (Tr.then hQ a1 fun vb s2 b σ2 m2 T2 hq_ p2 a2 r2 => ?_))
  obtain ⟨hQ2, Ty, id, hl, hT⟩ := hq_
  have hT := hT _ s2 va (r1.mono p2.le) fun c o e => view_of e
  refine wpAny_bind (wpAny_standAt ?_)
  refine wpAny_bind ?_
  rw [getitemInPython_of_ne hT.not_modules]
  refine wpAny_bind (wpAny_specialOf hT hl (wpAny_pure ?_))
  rw [hs]
  refine wpAny_bind (wpAny_operating (PrimR.then (hQ2 _ T2 s2 va vb a2.ownOk (r1.mono p2.le) r2) fun vc s3 c T3 q k r3 => ?_))
  exact wpAny_bind (wpAny_letTemporaryGo (wpAny_pure (fin _ _ c σ2 m2 T3 q ((p1.trans p2).trans (k.post a2.live)) (a2.keeps k) r3)))

/-! ### calls -/
/-- what may be called by name: a function of the base or a built-in -/
inductive Callee (C : Cx) : Value → Prop
  | fn {a : Addr} {o : Obj} {fd : FuncData} : C.W.h₀.get? a = some o → o.data = .func fd → Callee C (.ref a)
  | bi {id : String} : Callee C (.builtin id)
  | ty {T : String} : Callee C (.type T)

theorem evalArgs_list {M : Model} {A : Around} {E : Value → Shared → Prop} {s : Shared} {f : Value} {pos : Pos} {env : Env} {es : List Expr} {Q : Args → Shared → Prop} (hst : (starEach es env).all (fun x => !x.1) = true)
    (h : wpAny M A (spliced (backTo pos (starEach es env))) (fun vs s' => Q ⟨vs, []⟩ s') E s) : wpAny M A (evalArgs f true (backTo pos (starEach es env)) []) Q E s := by
  cases hx : starEach es env with
  | nil =>
    rw [hx] at h
    unfold evalArgs
    show wpAny M A (spliced [] >>= _) Q E s
    refine wpAny_bind (wpAny_mono h (fun vs s' h' => ?_) fun _ _ x => x)
    refine wpAny_holding ?_
    exact wpAny_bind (wpAny_pure (wpAny_bind (wpAny_pure (wpAny_pure h'))))
  | cons p r =>
    obtain ⟨st, t⟩ := p
    rw [hx] at hst h
    simp only [List.all_cons, Bool.and_eq_true, Bool.not_eq_true'] at hst
    have : st = false := by simpa using hst.1
    subst this
    exact evalArgs_plain h

theorem any_backTo {pos : Pos} {l : List (Bool × Sem Value)} (h : l.all (fun x => !x.1) = true) : (backTo pos l).any (·.1) = false := by
  induction l with
  | nil => rfl
  | cons p r ih =>
    obtain ⟨st, t⟩ := p
    simp only [List.all_cons, Bool.and_eq_true, Bool.not_eq_true'] at h
    have h1 : st = false := by simpa using h.1
    subst h1
    show (false || (backTo pos r).any (·.1)) = false
    rw [ih h.2]; rfl

theorem callWith_any {M : Model} {A : Around} {E : Value → Shared → Prop} {s : Shared} {pos : Pos} {f : Value} {first : List Value} {args : List (Bool × Sem Value)} {Q : Value → Shared → Prop} (hplain : args.any (·.1) = false) (hc : Callee C f)
    (h : wpAny M A (evalArgs f true args []) (fun a s₁ => a.kw = [] ∧ (∀ b o, C.W.h₀.get? b = some o → s₁.heap.get? b = some o) ∧ wpAny M A (call f (first ++ a.pos) []) Q E s₁) E s) : wpAny M A (callWith pos f first args []) Q E s := by
  cases hc with
  | fn ho hd => exact callWith_function (wpAny_mono h (fun a s1 h1 => by rw [h1.1]; exact ⟨⟨h1.2.1 _ _ ho, hd⟩, h1.2.2⟩) fun _ _ x => x)
  | bi => exact callWith_builtin hplain (wpAny_mono h (fun a s1 h1 => by rw [h1.1]; exact h1.2.2) fun _ _ x => x)
  | ty => exact PySem.callWith_type hplain (wpAny_mono h (fun a s1 h1 => by rw [h1.1]; exact h1.2.2) fun _ _ x => x)

/-- f(e, ..): f a name -/
theorem ev_call {f : Expr} {es : List Expr} {pos : Pos} {Q : V → St → Prop} (h : Ev C σ f (fun fv σ1 => ∃ w, fv = .val w ∧ Callee C w ∧ EvL C σ1 pos es (fun vs σ2 => OpL C (Rep C.W) (fun ws => call w ws) vs (fun v => Q v σ2))))
    (hst : (starEach es C.env).all (fun x => !x.1) = true := by rfl)
    (he : eval (.Call f es [] pos) C.env = (do callWith pos (← eval f C.env) [] (backTo pos (starEach es C.env)) (backToKw pos (keywordEach [] C.env))) := by rfl) : Ev C σ (.Call f es [] pos) Q := by
  refine Tr.intro' fun F mine T s QQ fin hA => ?_
  rw [he]
  refine wpAny_bind (Tr.then h hA fun vf s1 fv σ1 m1 T1 hq_ p1 a1 r1 => ?_)
  obtain ⟨w, rfl, hc, hQ⟩ := hq_
  cases r1
  refine callWith_any (any_backTo hst) hc (evalArgs_list hst (Tr.then hQ a1 fun ws s2 vs σ2 m2 T2 hQ2 p2 a2 r2 => ?_))
  refine ⟨rfl, a2.ownOk.kb, wpAny_mono (hQ2 _ T2 s2 ws a2.ownOk r2) ?_ fun _ _ x => x⟩
  rintro v s3 ⟨b, T3, q, k, r3⟩
  exact fin _ _ b σ2 m2 T3 q ((p1.trans p2).trans (k.post a2.live)) (a2.keeps k) r3
theorem evF_call {f : Expr} {es : List Expr} {pos : Pos} {Q : Slot → St → Prop} (h : Ev C σ f (fun fv σ1 => ∃ w, fv = .val w ∧ Callee C w ∧ EvL C σ1 pos es (fun vs σ2 => OpLF C (fun ws => call w ws) vs (fun v => Q v σ2))))
    (hst : (starEach es C.env).all (fun x => !x.1) = true := by rfl)
    (he : eval (.Call f es [] pos) C.env = (do callWith pos (← eval f C.env) [] (backTo pos (starEach es C.env)) (backToKw pos (keywordEach [] C.env))) := by rfl) : EvF C σ (eval (.Call f es [] pos) C.env) Q := by
  refine EvF.intro' fun F mine T s QQ fin hA => ?_
  rw [he]
  refine wpAny_bind (Tr.then h hA fun vf s1 fv σ1 m1 T1 hq_ p1 a1 r1 => ?_)
  obtain ⟨w, rfl, hc, hQ⟩ := hq_
  cases r1
  refine callWith_any (any_backTo hst) hc (evalArgs_list hst (Tr.then hQ a1 fun ws s2 vs σ2 m2 T2 hQ2 p2 a2 r2 => ?_))
  refine ⟨rfl, a2.ownOk.kb, wpAny_mono (hQ2 _ T2 s2 ws a2.ownOk r2) ?_ fun _ _ x => x⟩
  rintro v s3 ⟨sl, T3, a, q, ho, k, hn, hs, r3⟩
  obtain ⟨p3, hm, a3, le⟩ := a2.new k hn hs
  exact fin _ _ sl σ2 m2 a T3 q ho ((p1.trans p2).trans p3) hm a3 (r3.mono le fun _ _ _ e => e)

/-- a built-in type's method, found -/
structure MethOk (W : Wd) (a : V) (name : Str) (T id : String) : Prop where
  pa : PlainAttrs T
  slot : PySem.Slot T name id
  hty : typeOf (.builtin id) = pure (.type "method_descriptor")
  is : ∀ (g : PH) (s : Shared) (va : Value), Rep W g a va → (∀ c o, g.ob c = some o → s.heap.get? c = some o) → s.TypeIs va T ∧ ∀ x, va = .ref x → ∃ ob, s.heap.get? x = some ob ∧ ob.dict = none

/-- o.name(e, ..) -/
theorem ev_meth {o : Expr} {name : Str} {apos pos : Pos} {es : List Expr} {Q : V → St → Prop}
    (h : Ev C σ o (fun a σ1 => ∃ T id, MethOk C.W a name T id ∧ EvL C σ1 pos es (fun vs σ2 => OpL C (Rep C.W) (fun ws => call (.builtin id) ws) (a :: vs) (fun v => Q v σ2))))
    (hbase : attributeBase o name C.env (eval o C.env) = eval o C.env) (hst : (starEach es C.env).all (fun x => !x.1) = true) (hline : (apos.endLine == pos.line) = true) (hlen : decide (es.length < 30) = true) :
    Ev C σ (.Call (.Attribute o name apos) es [] pos) Q := by
  refine Tr.intro' fun F mine T s QQ fin hA => ?_
  rw [arm_eval_Call, hbase]
  refine wpAny_bind (Tr.then h hA fun va s1 a σ1 m1 T1 hq_ p1 a1 r1 => ?_)
  obtain ⟨Ty, id, ⟨pa, slot, hty, his⟩, hQ⟩ := hq_
  refine wpAny_bind (wpAny_standAt ?_)
  have hform : methodCallForm (es.length + ([] : List Keyword).length) (backTo pos (starEach es C.env)) (backToKw pos (keywordEach [] C.env)) = true := by
    have h1 : (backTo pos (starEach es C.env)).all (fun x => !x.1) = true := by
      have h2 := any_backTo (pos := pos) hst
      rw [List.any_eq_false] at h2
      exact List.all_eq_true.mpr fun x hx => by simpa using h2 x hx
    unfold methodCallForm
    simp only [h1, Bool.true_and, List.length_nil, Nat.add_zero, List.isEmpty_nil, if_true]
    exact hlen
  have hpos : methodCallPos true o C.env apos pos = pure pos := by unfold methodCallPos; simp [hline]
  obtain ⟨hT, hd⟩ := his _ s1 va r1 fun c o e => view_of e
  unfold methodCall
  rw [hform]
  refine wpAny_bind (wpAny_holding (getMethod_builtin hT pa slot hty hd ?_))
  refine wpAny_bind (wpAny_of_eq hpos ?_)
  refine callWith_builtin (any_backTo hst) (evalArgs_list hst (Tr.then hQ a1 fun ws s2 vs σ2 m2 T2 hQ2 p2 a2 r2 => ?_))
  refine PrimR.then (hQ2 _ T2 s2 (va :: ws) a2.ownOk (.cons (r1.mono p2.le) r2)) fun v s3 b T3 q k r3 => ?_
  exact fin _ _ b σ2 m2 T3 q ((p1.trans p2).trans (k.post a2.live)) (a2.keeps k) r3
/-- x op= e -/
theorem ex_aug {n : Nat} (ok : C.Ok n) {x : String} {p' pos : Pos} {op : Operator} {e : Expr} {Q : Fl → St → Prop} (hx : isHere C (Str.ofString x) = true)
    (h : EvT C σ (loadName C.env (Str.ofString x)) (fun a σ1 => Ev C σ1 e (fun b σ2 => Op2 C (Rep C.W) (inplaceOp op) a b (fun v => Q .next (put σ2 (Str.ofString x) x (.val v)))))) : Ex C σ (.AugAssign (.Name (Str.ofString x) p') op e pos) Q := by
  refine Tr.intro' fun F mine T s QQ fin hA => ?_
  refine wpAny_AugAssign_Name (Tr.then h hA fun va s1 a σ1 m1 T1 hQ p1 a1 r1 => ?_)
  refine Tr.then hQ a1 fun vb s2 b σ2 m2 T2 hQ2 p2 a2 r2 => ?_
  refine PrimR.then (hQ2 _ T2 s2 va vb a2.ownOk (r1.mono p2.le) r2) fun vc s3 c T3 q k r3 => ?_
  exact store_val ok (a2.keeps k) hx r3 fun s4 p4 a4 => fin _ _ .next _ m2 T3 q (((p1.trans p2).trans (k.post a2.live)).trans p4) a4 .next

end
end Sx
end
section
open PySem PySem.W PyProof.Rows PySem.Calls
set_option linter.unusedVariables false
set_option Elab.async false
set_option maxRecDepth 100000
namespace Sx

/-! ## a call of one of the text's own defs -/
noncomputable def fnEnv (scope : Scope) (L a : Addr) (q : Str) (cd : Value) : Env :=
  { scope := scope, locals := L, globals := mainGlobals, cells := cellsFrom (L + 1) scope.names [], qual := q, func := some a, code := cd, frame := some L, builtins := builtinsNs }
noncomputable def fnCx (W : Wd) (A : Around) (scope : Scope) (L a : Addr) (q : Str) (cd : Value) : Cx := { W := W, A := A, env := fnEnv scope L a q cd, ownC := true, X := fun _ _ => False, an := none }

noncomputable def Fl.v : Fl → V
  | .ret v => v
  | _ => .none

theorem cellsFrom_keeps {x : Str} : ∀ (names : List (Str × NameKind)) (n : Nat) (acc : List (Str × Addr)), (acc.lookup x).isSome = true → ((cellsFrom n names acc).lookup x).isSome = true
  | [], _, _, h => h
  | (name, kind) :: r, n, acc, h => by
    unfold cellsFrom
    split
    · refine cellsFrom_keeps r _ _ ?_
      rw [List.lookup_cons]
      cases x == name <;> simp [h]
    · exact cellsFrom_keeps r _ _ h
theorem cellsFrom_has {x : Str} : ∀ (names : List (Str × NameKind)) (n : Nat) (acc : List (Str × Addr)), names.lookup x = some .cell → ((cellsFrom n names acc).lookup x).isSome = true
  | [], _, _, h => by simp at h
  | (name, kind) :: r, n, acc, h => by
    rw [List.lookup_cons] at h
    unfold cellsFrom
    cases hx : x == name with
    | true =>
      rw [hx] at h
      have h : kind = .cell := by simpa using h
      subst h
      show ((cellsFrom (n + 1) r ((name, n) :: acc)).lookup x).isSome = true
      refine cellsFrom_keeps r _ _ ?_
      rw [List.lookup_cons, hx]; rfl
    | false =>
      rw [hx] at h
      split
      · exact cellsFrom_has r _ _ h
      · exact cellsFrom_has r _ _ h

noncomputable def bindV : List (Str × Value) → Option Value → Str → Option Value
  | [], b, _ => b
  | (n, v) :: r, b, x => bindV r (if x = n then some v else b) x

theorem valAt_bind {env : Env} {x : Str} : ∀ (binds : List (Str × Value)) (m cm : Str → Option Value), (∀ y ∈ binds, env.kindOf y.1 = some .local ∨ env.kindOf y.1 = some .cell) →
    valAt env (bindL env.kindOf binds m) (bindC env.kindOf binds cm) x = bindV binds (valAt env m cm x) x
  | [], m, cm, _ => rfl
  | (n, v) :: r, m, cm, h => by
    unfold bindL bindC bindV
    rw [valAt_bind r _ _ fun y hy => h y (List.mem_cons_of_mem _ hy)]
    congr 1
    rcases h (n, v) List.mem_cons_self with hk | hk
    · have hk : env.kindOf n = some .local := hk
      rw [if_pos hk, if_pos hk]; exact valAt_local hk
    · have hk : env.kindOf n = some .cell := hk
      rw [if_neg (by rw [hk]; decide), if_neg (by rw [hk]; decide)]; exact valAt_cell hk

theorem bindV_not {x : Str} : ∀ (binds : List (Str × Value)) (b : Option Value), (∀ p ∈ binds, p.1 ≠ x) → bindV binds b x = b
  | [], _, _ => rfl
  | (n, v) :: r, b, h => by
    unfold bindV
    rw [if_neg (fun e => h (n, v) List.mem_cons_self e.symm)]
    exact bindV_not r b fun p hp => h p (List.mem_cons_of_mem _ hp)

noncomputable def mkSt (ps : List String) (vs : List V) : St := (ps.zip vs).map fun p => (p.1, .val p.2)

theorem find_mkSt {W : Wd} {g : PH} : ∀ (ps : List String) (vs : List V) (ws : List Value) (b : Option Value) (x : Str) (sl : Slot), ps.Nodup → RepL W g vs ws → find (mkSt ps vs) x = some sl →
    ∃ u w, sl = .val u ∧ bindV ((ps.map Str.ofString).zip ws) b x = some w ∧ Rep W g u w
  | [], vs, ws, b, x, sl, _, _, h => by simp [mkSt, find] at h
  | p :: ps, vs, ws, b, x, sl, hn, hr, h => by
    cases hr with
    | nil => simp [mkSt, find] at h
    | @cons v w vs ws h1 h2 =>
      have hn' := List.nodup_cons.mp hn
      simp only [mkSt, List.zip_cons_cons, List.map_cons, find] at h
      simp only [List.map_cons, List.zip_cons_cons, bindV]
      by_cases hx : Str.ofString p = x
      · rw [if_pos hx] at h
        cases h
        refine ⟨v, w, rfl, ?_, h1⟩
        rw [if_pos hx.symm]
        refine bindV_not _ _ fun q hq e => ?_
        obtain ⟨q1, q2⟩ := q
        have := List.of_mem_zip hq
        obtain ⟨p', hp', e'⟩ := List.mem_map.mp this.1
        have : p' = p := ofString_inj.mp (e'.trans (e.trans hx.symm))
        exact hn'.1 (this ▸ hp')
      · rw [if_neg hx] at h
        rw [if_neg (fun e => hx e.symm)]
        exact find_mkSt ps vs ws b x sl hn'.2 h2 h

theorem get_ge {h : Heap} {a : Addr} (e : h.objs.size ≤ a) : h.get? a = none := by
  cases q : h.get? a with
  | none => rfl
  | some o => exact absurd (Heap.lt_size q) (Nat.not_lt.mpr e)

theorem fnCx_ok {W : Wd} {A : Around} {n : Nat} {scope : Scope} {L a : Addr} {q : Str} {cd : Value} (hW : W.Ok) (hh : A.handled = none) (hu : A.units + 3 * n + 100 ≤ 9000) (hd : A.depth + n + 10 ≤ 900) (hk : scope.kind = .function) : (fnCx W A scope L a q cd).Ok n :=
  { W := hW, hh := hh, hu := hu, hd := hd, hk := hk, hg := rfl, hb := rfl, hx := PassesOwn.never }

/-- a def of the text's own, as it stands in the base -/
structure FnAt (W : Wd) (a : Addr) (fd : FuncData) (body : List Stmt) : Prop where
  at_ : ∃ o, W.h₀.get? a = some o ∧ o.data = .func fd
  hbody : fd.body = .stmts body
  hgl : fd.globals = mainGlobals
  hcl : fd.closure = []
  hbn : fd.builtins = builtinsNs
  hcd : W.h₀.CodeRec fd.code fd.qualname
  hco : fd.scope.isCoroutine = false
  hgen : fd.scope.isGenerator = false
  hk : fd.scope.kind = .function

noncomputable def namesOk (scope : Scope) (ps : List String) : Bool :=
  (ps.all fun p => scope.names.lookup (Str.ofString p) == some .local || scope.names.lookup (Str.ofString p) == some .cell) && scope.names.all fun x => x.2 != .free

theorem fn_call {C : Cx} {n : Nat} (ok : C.Ok (n + 1)) {a : Addr} {fd : FuncData} {body : List Stmt} (fn : FnAt C.W a fd body) {ps : List String} {vs dvs : List V} {ds : List Value}
    (hb : ∀ (s : Shared) (ws : List Value), (∀ b o, C.W.h₀.get? b = some o → s.heap.get? b = some o) → ws.length = vs.length → BindsTo s fd ⟨ws, []⟩ ((ps.map Str.ofString).zip (ws ++ ds)))
    (hds : ∀ own T s, OwnOk C own T s → RepL C.W (view own T s) dvs ds)
    (hnd : ps.Nodup) (hnm : namesOk fd.scope ps = true) {K : V → Prop}
    (walk : ∀ A L q cd, (fnCx C.W A fd.scope L a q cd).Ok n → Exs (fnCx C.W A fd.scope L a q cd) (mkSt ps (vs ++ dvs)) body (fun fl _ => K fl.v)) :
    OpL C (Rep C.W) (fun ws => call (.ref a) ws) vs K := by
  intro own T s ws hO hr
  obtain ⟨o, ho, hd⟩ := fn.at_
  have kb := hO.kb
  have hlim : s.heap.NoLimit := ok.W.nolimit.keeps kb
  unfold namesOk at hnm
  rw [Bool.and_eq_true, List.all_eq_true, List.all_eq_true] at hnm
  have hps : ∀ x ∈ (ps.map Str.ofString).zip (ws ++ ds), fd.scope.names.lookup x.1 = some .local ∨ fd.scope.names.lookup x.1 = some .cell := by
    intro x hx
    obtain ⟨x1, x2⟩ := x
    obtain ⟨p, hp, rfl⟩ := List.mem_map.mp (List.of_mem_zip hx).1
    have := hnm.1 p hp
    rw [Bool.or_eq_true, beq_iff_eq, beq_iff_eq] at this
    exact this
  refine wpAny_call (codeAny_call_function (by have := ok.hd; unfold recursionLimit; omega) (kb _ _ ho) hd fn.hco fn.hgen fn.hbody (fn.hcd.keeps kb) (hb s ws kb hr.length _ _ _ _ ?_))
  rw [fn.hgl, fn.hcl, fn.hbn]
  refine wpAny_with_toks (n := s.toks) (Nat.le_refl _) (wpAny_newFunctionEnv_cells fn.hk (fun x hx => ?_) fun env' he s' x htk => ?_)
  · rcases hps x hx with h | h
    · exact .inl h
    · exact .inr ⟨h, cellsFrom_has _ _ _ h⟩
  subst he
  obtain ⟨h₁, tk, rfl, hk₁⟩ := x.done
  refine ⟨hlim.keeps hk₁, codeAny_func ?_⟩
  have okn : (fnCx C.W (C.A.deeper (fnEnv fd.scope s.heap.objs.size a (fd.qualname ++ ".<locals>.") fd.code)) fd.scope s.heap.objs.size a (fd.qualname ++ ".<locals>.") fd.code).Ok n :=
    fnCx_ok ok.W (by exact ok.hh) (by have := ok.hu; show C.A.units + 3 + 3 * n + 100 ≤ 9000; omega) (by have := ok.hd; show C.A.depth + 1 + n + 10 ≤ 900; omega) fn.hk
  obtain ⟨cs, hcs⟩ : ∃ cs, cellsFrom (s.heap.objs.size + 1) fd.scope.names [] = cs := ⟨_, rfl⟩
  have hcs' : (fnEnv fd.scope s.heap.objs.size a (fd.qualname ++ ".<locals>.") fd.code).cells = cs := hcs
  have hcell : ∀ z c, cs.lookup z = some c → h₁.IsCell c (bindC (fnEnv fd.scope s.heap.objs.size a (fd.qualname ++ ".<locals>.") fd.code).kindOf ((ps.map Str.ofString).zip (ws ++ ds)) (fun _ => none) z) := fun z c e => x.cell z c (hcs ▸ e)
  have hab : ∀ z c, (z, c) ∈ cs → s.heap.objs.size < c := fun z c e => x.above z c (hcs ▸ e)
  have hap : cs.Pairwise fun x y => x.2 ≠ y.2 := by have := x.apart; exact hcs ▸ this
  have hns : h₁.Ns s.heap.objs.size (bindL (fnEnv fd.scope s.heap.objs.size a (fd.qualname ++ ".<locals>.") fd.code).kindOf ((ps.map Str.ofString).zip (ws ++ ds)) (fun _ => none)) := x.toInCall.ns
  have hmm : ∀ b ∈ s.heap.objs.size :: cs.filterMap (fun p => cs.lookup p.1), b = s.heap.objs.size ∨ ∃ z, cs.lookup z = some b := by
    intro b hb
    rcases List.mem_cons.mp hb with rfl | hb
    · exact .inl rfl
    · obtain ⟨p, hp, e⟩ := List.mem_filterMap.mp hb
      exact .inr ⟨p.1, e⟩
  have hmine : ∀ b ∈ s.heap.objs.size :: cs.filterMap (fun p => cs.lookup p.1), s.heap.get? b = none := by
    intro b hb
    rcases hmm b hb with rfl | ⟨z, hz⟩
    · exact fresh_size _
    · exact get_ge (Nat.le_of_lt (hab z b (mem_of_lookup hz)))
  have hcm : ∀ z c, cs.lookup z = some c → c ∈ s.heap.objs.size :: cs.filterMap (fun p => cs.lookup p.1) := fun z c e =>
    List.mem_cons_of_mem _ (List.mem_filterMap.mpr ⟨(z, c), mem_of_lookup e, e⟩)
  have le0 : Le (view own T s) (view (own ++ (s.heap.objs.size :: cs.filterMap (fun p => cs.lookup p.1))) T { s with heap := h₁, toks := tk }) := by
    refine ⟨fun b o e => view_mk (fun hm => ?_) (hk₁ b o (view_of e)), fun _ _ e => e⟩
    rcases List.mem_append.mp hm with hm | hm
    · exact view_not e hm
    · have := hmine b hm; rw [view_of e] at this; cases this
  have habs : Abs (fnCx C.W (C.A.deeper (fnEnv fd.scope s.heap.objs.size a (fd.qualname ++ ".<locals>.") fd.code)) fd.scope s.heap.objs.size a (fd.qualname ++ ".<locals>.") fd.code) own
      (s.heap.objs.size :: cs.filterMap (fun p => cs.lookup p.1)) T (mkSt ps (vs ++ dvs)) { s with heap := h₁, toks := tk } := by
    refine ⟨fun b o e => le0.ob b o (hO.base b o e), fun b hb => ?_, fun b hb hF => ?_, hO.tok.mono htk, .none rfl,
      bindL (fnEnv fd.scope s.heap.objs.size a (fd.qualname ++ ".<locals>.") fd.code).kindOf ((ps.map Str.ofString).zip (ws ++ ds)) (fun _ => none), bindC (fnEnv fd.scope s.heap.objs.size a (fd.qualname ++ ".<locals>.") fd.code).kindOf ((ps.map Str.ofString).zip (ws ++ ds)) (fun _ => none), ?_⟩
    · rcases List.mem_append.mp hb with hb | hb
      · obtain ⟨o, ho⟩ := Option.isSome_iff_exists.mp (hO.live b hb)
        show (h₁.get? b).isSome = true
        rw [hk₁ _ _ ho]; rfl
      · rcases hmm b hb with rfl | ⟨z, hz⟩
        · obtain ⟨o, _, _, ho, _⟩ := hns
          show (h₁.get? s.heap.objs.size).isSome = true
          rw [ho]; rfl
        · obtain ⟨o, ho, _⟩ := hcell z b hz
          show (h₁.get? b).isSome = true
          rw [ho]; rfl
    · have := hmine b hb
      have h2 := hO.live b hF
      rw [this] at h2; cases h2
    · refine { ns := hns, cells := fun z c e => hcell z c (hcs' ▸ e), apart := fun z y c e1 e2 => ?_, lc := fun z c e => ?_, has := fun z hz => ?_, lm := List.mem_cons_self, cown := fun z c e => List.mem_append_right _ (hcm z c (hcs' ▸ e)), cmine := fun _ z c e => hcm z c (hcs' ▸ e), slots := ?_, own := ?_, dis := ?_ }
      · exact name_of_addr hap (mem_of_lookup (hcs' ▸ e1)) (mem_of_lookup (hcs' ▸ e2))
      · exact Nat.ne_of_gt (hab z c (mem_of_lookup (hcs' ▸ e)))
      · rcases hz with hz | hz
        · have := cellsFrom_has fd.scope.names (s.heap.objs.size + 1) [] hz
          exact Option.isSome_iff_exists.mp this
        · have hz : fd.scope.names.lookup z = some .free := hz
          have := hnm.2 _ (mem_of_lookup hz)
          simp at this
      · intro z sl hz
        obtain ⟨u, v, rfl, e1, e2⟩ := find_mkSt ps (vs ++ dvs) (ws ++ ds) none z sl hnd (hr.append (hds own T s hO)) hz
        refine ⟨v, .inl ?_, e2.mono le0⟩
        refine (valAt_bind (env := fnEnv fd.scope s.heap.objs.size a (fd.qualname ++ ".<locals>.") fd.code) _ _ _ hps).trans ?_
        have : valAt (fnEnv fd.scope s.heap.objs.size a (fd.qualname ++ ".<locals>.") fd.code) (fun _ => none) (fun _ => none) z = none := by unfold valAt; split <;> rfl
        rw [this]
        exact e1
      · intro z sl b hz ho
        obtain ⟨u, v, rfl, _⟩ := find_mkSt ps (vs ++ dvs) (ws ++ ds) none z sl hnd (hr.append (hds own T s hO)) hz
        cases ho
      · intro z y sl sl' b hz _ ho
        obtain ⟨u, v, rfl, _⟩ := find_mkSt ps (vs ++ dvs) (ws ++ ds) none z sl hnd (hr.append (hds own T s hO)) hz
        cases ho
  refine wpAny_mono (walk _ _ _ _ okn own _ T _ habs) ?_ fun _ _ x => x.elim
  rintro f s2 ⟨fl, σ2, m2, T2, hK, p2, a2, r2⟩
  refine ⟨fl.v, T2, hK, ⟨?_, fun b o e => ?_, fun t l e => p2.le.tk t l e, a2.tok⟩, ?_⟩
  · obtain ⟨h', tk', rfl⟩ := p2.same
    exact ⟨h', tk', rfl⟩
  · by_cases hb : b ∈ own
    · exact (p2.far b hb).trans (hk₁ b o e)
    · exact view_of (p2.le.ob b o (le0.ob b o (view_mk hb e)))
  · have sub : Le (view (own ++ m2) T2 s2) (view own T2 s2) := view_sub fun b hb => List.mem_append_left _ hb
    cases r2 with
    | next => exact .none
    | brk => exact .none
    | cont => exact .none
    | ret r => exact r.mono sub

/-- the usual bindings: a def without defaults, all arguments given by place -/
theorem binds_plain {fd : FuncData} {ps : List String} {n : Nat} (h : ∀ ws : List Value, ws.length = n → bindArgs fd ⟨ws, []⟩ = pure ((ps.map Str.ofString).zip ws)) (s : Shared) (ws : List Value) (hl : ws.length = n) :
    BindsTo s fd ⟨ws, []⟩ ((ps.map Str.ofString).zip (ws ++ [])) := by
  rw [List.append_nil]
  exact .of_eq (h ws hl)

end Sx
end
section
open PySem PySem.W PyProof.Rows PySem.Calls
set_option linter.unusedVariables false
set_option Elab.async false
set_option maxRecDepth 100000
namespace Sx

/-! ## what may be run through -/
noncomputable def seqOf : V → Option (List V)
  | .lst vs => some vs
  | .tup vs => some vs
  | .str l => some (l.map fun c => .str [c])
  | .dct es => some (es.map fun p => p.1.v)
  | .rng a b => some ((List.range (b - a).toNat).map fun (i : Nat) => V.int (a + (i : Int)))
  | .items es => some (es.map fun p => .tup [p.1.v, p.2])
  | _ => none

section
variable {prog : Program} {w : World} {A : Around} {E : Value → Shared → Prop} {s : Shared}

/-- the key iterator hands out the very key of the entry -/
theorem next_key {it d : Addr} {i ep : Nat} {od : Obj} {ds : List DictEntry} {e : DictEntry} {Q : Option Value → Shared → Prop} (hit : s.heap.IsKeyIter it d i ds.length ep)
    (hod : s.heap.get? d = some od) (hdd : od.data = .dict ds.toArray ep) (hx : ds[i]? = some e)
    (hQ : ∀ h', h'.IsKeyIter it d (i + 1) ds.length ep → Heap.SameBut it s.heap h' → Q (some e.key) { s with heap := h' }) : wpAny (model prog w) A (pyNext (.ref it)) Q E s := by
  have tn : ∀ {A' : Around} {E' : Value → Shared → Prop} {Q' : String → Shared → Prop}, Q' "dict_keyiterator" s → wpAny (model prog w) A' (typeNameOfWhole (.ref it)) Q' E' s := fun h => wpAny_typeNameOfWhole_keyiter hit.typeIs h
  obtain ⟨o, ho, hc, hd⟩ := id hit
  unfold pyNext
  refine wpAny_bind (wpAny_attempt (wpAny_callSpecial?_slot (name := Str.ofString "__next__") hit.typeIs F.slot_dict_keyiterator_next
    (wpAny_call_entry F.slot_dict_keyiterator_next hit.typeIs F.entry_dict_keyiterator_next ?_ (F.args_dict_keyiterator_next_1 _))))
  refine wpAny_bind (wpAny_pure (wpAny_bind (wpAny_bind (wpAny_bind (tn (wpAny_pure (wpAny_bind ?_)))))))
  refine wpAny_fieldsOf ho hd ?_
  rw [show Builtin.Dict_items.ownsTuple "dict_keyiterator" = false from by decide]
  show wpAny _ _ (if (Value.ref d == Value.none) = true then _ else _) _ _ s
  rw [if_neg (show ¬ ((Value.ref d == Value.none) = true) from Bool.false_ne_true)]
  refine wpAny_bind (wpAny_pure (wpAny_bind (wpAny_dictEntries hod hdd ?_)))
  rw [if_neg (by simp)]
  refine wpAny_bind (wpAny_pure (wpAny_bind (wpAny_dictEpoch hod hdd ?_)))
  rw [if_neg (by simp)]
  refine wpAny_pure ?_
  have hx' : (ds.toArray)[i]? = some e := by simpa using hx
  simp only [show ¬ ((i : Int) < 0) from by omega, if_false, Int.toNat_natCast, hx']
  refine wpAny_bind (wpAny_bind (tn (wpAny_pure (wpAny_bind (wpAny_isOneOf_keyiter hit.typeIs ?_)))))
  show wpAny _ _ (setField (.ref it) 1 (rawInt ((i : Int) + 1)) >>= _) _ _ s
  refine wpAny_bind (wpAny_setField ho hd (by simp) ?_)
  have hit' : (s.heap.update it (Obj.mapFields (·.setIfInBounds 1 (rawInt ((i : Int) + 1))))).IsKeyIter it d (i + 1) ds.length ep :=
    ⟨_, Heap.get?_update_self _ ho (Obj.isFreed_of_fields (Obj.data_mapFields hd _)), (Obj.cls_mapFields ..).trans hc, by rw [Obj.data_mapFields hd]; simp [rawInt]⟩
  refine wpAny_bind (wpAny_holding (wpAny_bind (wpAny_isOneOf_keyiter (s := { s with heap := s.heap.update it (Obj.mapFields (·.setIfInBounds 1 (rawInt ((i : Int) + 1)))) }) hit'.typeIs ?_)))
  show wpAny _ _ (pure e.key) _ _ _
  exact wpAny_pure (wpAny_pure ⟨_, rfl, wpAny_pure (hQ _ hit' (Heap.SameBut.update ..))⟩)

/-- the items' iterator hands out a new pair of the very key and value -/
theorem next_item {it d : Addr} {i ep : Nat} {ok ov : Value} {od : Obj} {ds : List DictEntry} {e : DictEntry} {Q : Option Value → Shared → Prop} (hit : IsItemIter s.heap it d i ds.length ep ok ov)
    (hod : s.heap.get? d = some od) (hdd : od.data = .dict ds.toArray ep) (hx : ds[i]? = some e)
    (hQ : ∀ h', IsItemIterOut h' it d (i + 1) ds.length ep e.key e.val s.heap.objs.size → h'.get? s.heap.objs.size = some { cls := .type "tuple", data := .seq #[e.key, e.val] } →
      (∀ b o, b ≠ it → s.heap.get? b = some o → h'.get? b = some o) → Q (some (.ref s.heap.objs.size)) { s with heap := h' }) : wpAny (model prog w) A (pyNext (.ref it)) Q E s := by
  have hT : s.TypeIs (.ref it) "dict_itemiterator" := ⟨_, hit, rfl⟩
  have tn : ∀ {A' : Around} {E' : Value → Shared → Prop} {Q' : String → Shared → Prop}, Q' "dict_itemiterator" s → wpAny (model prog w) A' (typeNameOfWhole (.ref it)) Q' E' s := fun h => wpAny_typeNameOfWhole_itemiter hT h
  unfold pyNext
  refine wpAny_bind (wpAny_attempt (wpAny_callSpecial?_slot (name := Str.ofString "__next__") hT F.slot_dict_itemiterator_next
    (wpAny_call_entry F.slot_dict_itemiterator_next hT F.entry_dict_itemiterator_next ?_ (F.args_dict_itemiterator_next_1 _))))
  refine wpAny_bind (wpAny_pure (wpAny_bind (wpAny_bind (wpAny_bind (tn (wpAny_pure (wpAny_bind ?_)))))))
  refine wpAny_fieldsOf hit rfl ?_
  rw [show Builtin.Dict_items.ownsTuple "dict_itemiterator" = true from by decide]
  show wpAny _ _ (if (Value.ref d == Value.none) = true then _ else _) _ _ s
  rw [if_neg (show ¬ ((Value.ref d == Value.none) = true) from Bool.false_ne_true)]
  refine wpAny_bind (wpAny_pure (wpAny_bind (wpAny_dictEntries hod hdd ?_)))
  rw [if_neg (by simp)]
  refine wpAny_bind (wpAny_pure (wpAny_bind (wpAny_dictEpoch hod hdd ?_)))
  rw [if_neg (by simp)]
  refine wpAny_pure ?_
  have hx' : (ds.toArray)[i]? = some e := by simpa using hx
  simp only [show ¬ ((i : Int) < 0) from by omega, if_false, Int.toNat_natCast, hx']
  refine wpAny_bind (wpAny_bind (tn (wpAny_pure (wpAny_bind (wpAny_isOneOf_itemiter hT ?_)))))
  show wpAny _ _ (setField (.ref it) 3 (rawInt ((i : Int) + 1)) >>= _) _ _ s
  have hil : it < s.heap.objs.size := Heap.lt_size hit
  refine wpAny_bind (wpAny_setField_rec hit (by simp) fun h₁ he₁ hs₁ => ?_)
  replace he₁ : IsItemIter h₁ it d (i + 1) ds.length ep ok ov := by
    have e : ((i + 1 : Nat) : Int) = (i : Int) + 1 := by omega
    unfold IsItemIter; rw [e]; simpa [rawInt] using he₁
  have hT₁ : Shared.TypeIs { s with heap := h₁ } (.ref it) "dict_itemiterator" := ⟨_, he₁, rfl⟩
  refine wpAny_bind (wpAny_holding (wpAny_bind (wpAny_isOneOf_itemiter hT₁ (wpAny_bind (wpAny_isOneOf_itemiter hT₁ ?_)))))
  show wpAny _ _ (Builtin.Dict_items.pairFromOwner (.ref it) 6 e.key e.val) _ _ { s with heap := h₁ }
  have hz : h₁.objs.size = s.heap.objs.size := hs₁.1
  refine wpAny_bind (wpAny_newTuple ?_)
  have he₂ : IsItemIter (h₁.push { cls := .type "tuple", data := .seq #[e.key, e.val] }) it d (i + 1) ds.length ep ok ov := Heap.get?_push_of_some _ he₁
  obtain ⟨h₂, hh₂⟩ : ∃ h₂, h₁.push { cls := .type "tuple", data := .seq #[e.key, e.val] } = h₂ := ⟨_, rfl⟩
  have ht₂ : h₂.get? s.heap.objs.size = some { cls := .type "tuple", data := .seq #[e.key, e.val] } := by rw [← hh₂, ← hz]; exact Heap.get?_push_size _ rfl
  have hk₂ : ∀ b o, b ≠ it → s.heap.get? b = some o → h₂.get? b = some o := fun b o hb e => by rw [← hh₂]; exact Heap.get?_push_of_some _ (hs₁.extBut b o hb e)
  rw [hh₂] at he₂
  show wpAny _ _ (Builtin.Dict_items.ownedTupleIsFree (.ref it) >>= _) _ _ { s with heap := h₁.push { cls := .type "tuple", data := .seq #[e.key, e.val] } }
  rw [hh₂, hz]
  refine wpAny_bind (wpAny_bind (wpAny_field he₂ rfl (x := .none) rfl (wpAny_pure ?_)))
  rw [if_pos rfl]
  refine wpAny_bind (wpAny_field he₂ rfl (x := ok) rfl (wpAny_bind (wpAny_field he₂ rfl (x := ov) rfl ?_)))
  refine wpAny_bind (wpAny_setField_rec he₂ (by simp) fun h₃ he₃ hs₃ => ?_)
  refine wpAny_bind (wpAny_setField_rec he₃ (by simp) fun h₄ he₄ hs₄ => ?_)
  refine wpAny_bind (wpAny_setField_rec he₄ (by simp) fun h₅ he₅ hs₅ => ?_)
  refine wpAny_bind (wpAny_setField_rec he₅ (by simp) fun h₆ he₆ hs₆ => ?_)
  have up : ∀ b o, b ≠ it → h₂.get? b = some o → h₆.get? b = some o := fun b o hb e => hs₆.extBut b o hb (hs₅.extBut b o hb (hs₄.extBut b o hb (hs₃.extBut b o hb e)))
  exact wpAny_bind (wpAny_letGo (wpAny_pure (wpAny_pure ⟨_, rfl, wpAny_pure (hQ h₆ he₆ (up _ _ (Nat.ne_of_gt hil) ht₂) fun b o hb e => up b o hb (hk₂ b o hb e))⟩)))

theorem letGo_plain {target : Expr} {I : Addr} {v : Value} {o : Obj} {n : String} {Q : Unit → Shared → Prop} (ho : s.heap.get? I = some o) (hc : o.cls = .type n)
    (hn : ["enumerate", "zip", "dict_itemiterator", "dict_reverseitemiterator", "odict_iterator", "itertools.zip_longest", "itertools.pairwise"].contains n = false) (h : Q () s) : wpAny (model prog w) A (letOwnedTupleGo target (.ref I) v) Q E s := by
  have core : ∀ a, wpAny (model prog w) A (do
      let o ← load I
      match o.cls, o.data with
      | .type n, .fields vs =>
        if (["enumerate", "zip", "dict_itemiterator", "dict_reverseitemiterator", "odict_iterator", "itertools.zip_longest", "itertools.pairwise"].contains n && vs[0]? == some (rawInt a)) = true then do
          rule "for.unpacks-the-owned-tuple"
          updateField I 0 .none
        else pure ()
      | _, _ => pure ()) Q E s := by
    intro a
    refine wpAny_bind (wpAny_load ho ?_)
    rw [hc]
    cases o.data with
    | fields vs =>
      show wpAny _ _ (if (["enumerate", "zip", "dict_itemiterator", "dict_reverseitemiterator", "odict_iterator", "itertools.zip_longest", "itertools.pairwise"].contains n && vs[0]? == some (rawInt a)) = true then _ else _) _ _ _
      rw [hn, Bool.false_and, if_neg Bool.false_ne_true]
      exact wpAny_pure h
    | _ => exact wpAny_pure h
  unfold letOwnedTupleGo
  cases target with
  | Tuple es k p =>
    cases v with
    | ref a => exact core a
    | _ => exact wpAny_pure h
  | List es p =>
    cases v with
    | ref a => exact core a
    | _ => exact wpAny_pure h
  | _ => exact wpAny_pure h
end

/-- an iterator at I over what stands for the items xs -/
structure Itr (W : Wd) (A : Around) (target : Expr) (I : Addr) (g0 : PH) (xs : List V) (fp : List Addr) (St : Nat → Heap → Prop) (Mid : Nat → Value → Heap → Prop) : Prop where
  self : I ∈ fp
  live : ∀ i h, St i h → (h.get? I).isSome = true
  frame : ∀ i h h', St i h → (∀ b ∈ fp, ∀ o, h.get? b = some o → h'.get? b = some o) → St i h'
  item : ∀ i x own T (s : Shared) (Q : Option Value → Shared → Prop) (E : Value → Shared → Prop), xs[i]? = some x → St i s.heap → I ∈ own → TOk T s.toks → (∀ a ∈ own, (s.heap.get? a).isSome = true) → Le g0 (view own T s) →
    (∀ v h' tk T', s.toks ≤ tk → Mid i v h' → (∀ b o, b ≠ I → s.heap.get? b = some o → h'.get? b = some o) → TLe T T' → TOk T' tk → (∀ T'' s'', TLe T' T'' → (∀ b o, b ∉ own → h'.get? b = some o → s''.heap.get? b = some o) → Rep W (view own T'' s'') x v) → Q (some v) { s with heap := h', toks := tk }) →
    wpAny (model W.prog W.w) A (pyNext (.ref I)) Q E s
  go : ∀ i v (s : Shared) (Q : Unit → Shared → Prop) (E : Value → Shared → Prop), Mid i v s.heap → (∀ h', St (i + 1) h' → (∀ b o, b ≠ I → s.heap.get? b = some o → h'.get? b = some o) → Q () { s with heap := h' }) →
    wpAny (model W.prog W.w) A (letOwnedTupleGo target (.ref I) v) Q E s
  iter : ∀ i (s : Shared) (Q : Value → Shared → Prop) (E : Value → Shared → Prop), St i s.heap → Q (.ref I) s → wpAny (model W.prog W.w) A (pyIter (.ref I)) Q E s
  done : ∀ (s : Shared) (Q : Option Value → Shared → Prop) (E : Value → Shared → Prop), St xs.length s.heap → (∀ h', (∀ b o, b ≠ I → s.heap.get? b = some o → h'.get? b = some o) → Q none { s with heap := h' }) →
    wpAny (model W.prog W.w) A (pyNext (.ref I)) Q E s

noncomputable def isPair : Expr → Bool
  | .Tuple _ _ _ => true
  | _ => false

section
variable {W : Wd} {A : Around} {target : Expr} {E : Value → Shared → Prop}

theorem itr_list {own : List Addr} {T : TM} {s : Shared} {vs : List V} {v : Value} (hh : A.handled = none) (hr : Rep W (view own T s) (.lst vs) v) {Q : Value → Shared → Prop}
    (hQ : ∀ I h' fp St Mid, s.heap.get? I = none → (∀ b o, s.heap.get? b = some o → h'.get? b = some o) → Itr W A target I (view own T s) vs fp St Mid → St 0 h' → (∀ b ∈ fp, b ≠ I → ∃ o, (view own T s).ob b = some o) → Q (.ref I) { s with heap := h' }) :
    wpAny (model W.prog W.w) A (pyIter v) Q E s := by
  cases hr with
  | @lst a o _ ws n h1 h2 h3 h4 r =>
    have hl : s.heap.IsList a ws.toArray := ⟨o, view_of h1, h2, n, h4⟩
    have hne : a ≠ s.heap.objs.size := Nat.ne_of_lt (Heap.lt_size (view_of h1))
    refine wpAny_pyIter_list hl (hQ s.heap.objs.size _ [s.heap.objs.size, a] (fun i h => h.IsListIter s.heap.objs.size a i ∧ h.IsList a ws.toArray) (fun i _ h => h.IsListIter s.heap.objs.size a (i + 1) ∧ h.IsList a ws.toArray)
      (fresh_size _) (fun b o e => Heap.get?_push_of_some _ e) ?_ ⟨⟨_, Heap.get?_push_size _ rfl, rfl, rfl⟩, hl.push _⟩ ?_)
    · refine { self := by simp, live := fun i h st => let ⟨o, ho, _⟩ := st.1; by rw [ho]; rfl, frame := fun i h h' st k => ⟨st.1.at fun o e => k _ (by simp) o e, st.2.at fun o e => k _ (by simp) o e⟩, item := ?_, go := ?_, iter := fun i s' Q' E' st h => wpAny_pyIter_listiter st.1 h, done := ?_ }
      · intro i x own' T' s' Q' E' hx st hI ht hlv hle hQ'
        obtain ⟨w, hw, hxw⟩ := r.get hx
        refine wpAny_pyNext_list_item st.1 st.2 (x := w) (by simpa using hw) fun h' hit' hs' => ?_
        refine hQ' w h' s'.toks T' (Nat.le_refl _) ⟨hit', st.2.extBut hs'.extBut hne⟩ (fun b o hb e => hs'.extBut b o hb e) (fun _ _ e => e) ht fun T'' s'' hT k => ?_
        refine hxw.mono (hle.trans ⟨fun b o e => view_mk (view_not e) (k b o (view_not e) (hs'.extBut b o (fun q => view_not e (q ▸ hI)) (view_of e))), hT⟩)
      · intro i v s' Q' E' hm hQ'
        obtain ⟨o, ho, hc, hd⟩ := id hm.1
        exact letGo_plain ho hc (by decide) (hQ' s'.heap hm fun _ _ _ e => e)
      · intro s' Q' E' st hQ'
        exact wpAny_pyNext_list_end hh st.1 st.2 (by simp [r.length]) fun h' he' => hQ' h' fun b o hb e => he' b o hb e
    · intro b hb hne
      simp at hb
      rcases hb with rfl | rfl
      · exact absurd rfl hne
      · exact ⟨o, h1⟩

theorem itr_str {own : List Addr} {T : TM} {s : Shared} {l : S} {v : Value} (hh : A.handled = none) (hr : Rep W (view own T s) (.str l) v) {Q : Value → Shared → Prop}
    (hQ : ∀ I h' fp St Mid, s.heap.get? I = none → (∀ b o, s.heap.get? b = some o → h'.get? b = some o) → Itr W A target I (view own T s) (l.map fun c => V.str [c]) fp St Mid → St 0 h' → (∀ b ∈ fp, b ≠ I → ∃ o, (view own T s).ob b = some o) → (I = s.heap.objs.size ∧ fp = [I] ∧ (∀ i v h, Mid i v h → St (i + 1) h) ∧ ∃ ty, (ty = "str_ascii_iterator" ∨ ty = "str_iterator") ∧ ∀ i h, St i h → ∃ o, h.get? I = some o ∧ o.cls = .type ty) → Q (.ref I) { s with heap := h' }) :
    wpAny (model W.prog W.w) A (pyIter v) Q E s := by
  cases hr with
  | @str _ t htk =>
    have go : ∀ (ty : String), ["enumerate", "zip", "dict_itemiterator", "dict_reverseitemiterator", "odict_iterator", "itertools.zip_longest", "itertools.pairwise"].contains ty = false →
        (∀ {A : Around} {E : Value → Shared → Prop} {s : Shared} {it : Addr} {i c : Nat} {Q : Option Value → Shared → Prop}, s.heap.IsStrIter it ty (mkS l) t i → (mkS l).cps[i]? = some c →
          (∀ h', h'.IsStrIter it ty (mkS l) t (i + 1) → Heap.SameBut it s.heap h' → Q (some (.str ⟨#[c]⟩ s.toks)) { s with heap := h', toks := s.toks + 1 }) → wpAny (model W.prog W.w) A (pyNext (.ref it)) Q E s) →
        (∀ {A : Around} {E : Value → Shared → Prop} {s : Shared} {it : Addr} {i : Nat} {Q : Value → Shared → Prop}, s.heap.IsStrIter it ty (mkS l) t i → Q (.ref it) s → wpAny (model W.prog W.w) A (pyIter (.ref it)) Q E s) →
        (∀ {A : Around} {E : Value → Shared → Prop} {s : Shared} {it : Addr} {i : Nat} {Q : Option Value → Shared → Prop}, A.handled = none → s.heap.IsStrIter it ty (mkS l) t i → (mkS l).cps[i]? = none →
          (∀ h', Heap.ExtBut it s.heap h' → Q none { s with heap := h' }) → wpAny (model W.prog W.w) A (pyNext (.ref it)) Q E s) →
        ∀ I, Itr W A target I (view own T s) (l.map fun c => V.str [c]) [I] (fun i h => h.IsStrIter I ty (mkS l) t i) (fun i _ h => h.IsStrIter I ty (mkS l) t (i + 1)) := by
      intro ty hty hitem hiter hdone I
      refine { self := by simp, live := fun i h st => let ⟨o, ho, _⟩ := st; by rw [ho]; rfl, frame := fun i h h' st k => let ⟨o, ho, r⟩ := st; ⟨o, k _ (by simp) o ho, r⟩, item := ?_, go := ?_, iter := fun i s' Q' E' st h => hiter st h, done := ?_ }
      · intro i x own' T' s' Q' E' hx st hI ht hlv hle hQ'
        rw [List.getElem?_map] at hx
        obtain ⟨c, hc, rfl⟩ := Option.map_eq_some_iff.mp hx
        refine hitem st (c := c) (by simpa [mkS] using hc) fun h' hit' hs' => ?_
        refine hQ' _ h' (s'.toks + 1) (T'.upd s'.toks [c]) (Nat.le_succ _) hit' (fun b o hb e => hs'.extBut b o hb e) (ht.updLe _) (ht.upd _) fun T'' s'' hT k => ?_
        exact .str (hT _ _ TM.upd_self)
      · intro i v s' Q' E' hm hQ'
        obtain ⟨o, ho, hc, hd⟩ := id hm
        exact letGo_plain ho hc hty (hQ' s'.heap hm fun _ _ _ e => e)
      · intro s' Q' E' st hQ'
        exact hdone hh st (by simp [mkS]) fun h' he' => hQ' h' fun b o hb e => he' b o hb e
    have fin : ∀ b ∈ [s.heap.objs.size], b ≠ s.heap.objs.size → ∃ o, (view own T s).ob b = some o := fun b hb hne => absurd (by simpa using hb) hne
    cases ha : (mkS l).cps.all (· < 128) with
    | false => exact wpAny_pyIter_wide ha (hQ _ _ _ _ _ (fresh_size _) (fun b o e => Heap.get?_push_of_some _ e) (go "str_iterator" (by decide) (fun st hx h => wpAny_pyNext_wide_item st hx h) (fun st h => wpAny_pyIter_striter_wide st h) (fun hh st hx h => wpAny_pyNext_wide_end hh st hx h) _) ⟨_, Heap.get?_push_size _ rfl, rfl, rfl⟩ fin ⟨rfl, rfl, fun _ _ _ h => h, _, .inr rfl, fun i h st => let ⟨o, ho, hc, _⟩ := st; ⟨o, ho, hc⟩⟩)
    | true => exact wpAny_pyIter_ascii ha (hQ _ _ _ _ _ (fresh_size _) (fun b o e => Heap.get?_push_of_some _ e) (go "str_ascii_iterator" (by decide) (fun st hx h => wpAny_pyNext_ascii_item st hx h) (fun st h => wpAny_pyIter_striter_ascii st h) (fun hh st hx h => wpAny_pyNext_ascii_end hh st hx h) _) ⟨_, Heap.get?_push_size _ rfl, rfl, rfl⟩ fin ⟨rfl, rfl, fun _ _ _ h => h, _, .inl rfl, fun i h st => let ⟨o, ho, hc, _⟩ := st; ⟨o, ho, hc⟩⟩)

theorem itr_rng {own : List Addr} {T : TM} {s : Shared} {a b : Int} {v : Value} (hh : A.handled = none) (hsm : Builtin.Range.small a b 1 = true) (hr : Rep W (view own T s) (.rng a b) v) {Q : Value → Shared → Prop}
    (hQ : ∀ I h' fp St Mid, s.heap.get? I = none → (∀ b o, s.heap.get? b = some o → h'.get? b = some o) → Itr W A target I (view own T s) ((List.range (b - a).toNat).map fun (i : Nat) => V.int (a + (i : Int))) fp St Mid → St 0 h' → (∀ b ∈ fp, b ≠ I → ∃ o, (view own T s).ob b = some o) → Q (.ref I) { s with heap := h' }) :
    wpAny (model W.prog W.w) A (pyIter v) Q E s := by
  cases hr with
  | @rng r _ _ t u v' h1 =>
    have hsz : Builtin.Range.rangeSize a b 1 = ((b - a).toNat : Int) := by
      unfold Builtin.Range.rangeSize
      rw [if_pos (by decide)]
      by_cases h : a < b
      · rw [if_pos h, Int.ediv_one]; omega
      · rw [if_neg h]; omega
    refine wpAny_pyIter_range (view_of h1) hsm ?_
    rw [hsz]
    refine hQ s.heap.objs.size _ [s.heap.objs.size] (fun i h => IsRangeIter h s.heap.objs.size (a + (i : Nat)) (((b - a).toNat : Int) - (i : Nat)) 1) (fun i _ h => IsRangeIter h s.heap.objs.size (a + ((i + 1 : Nat) : Int)) (((b - a).toNat : Int) - ((i + 1 : Nat) : Int)) 1)
      (fresh_size _) (fun b o e => Heap.get?_push_of_some _ e) ?_ (by
        have e1 : a + ((0 : Nat) : Int) = a := by omega
        have e2 : ((b - a).toNat : Int) - ((0 : Nat) : Int) = ((b - a).toNat : Int) := by omega
        rw [e1, e2]; exact Heap.get?_push_size _ rfl) (fun b hb hne => absurd (by simpa using hb) hne)
    refine { self := by simp, live := fun i h st => by rw [st]; rfl, frame := fun i h h' st k => k _ (by simp) _ st, item := ?_, go := ?_, iter := fun i s' Q' E' st h => wpAny_pyIter_rangeiter st h, done := ?_ }
    · intro i x own' T' s' Q' E' hx st hI ht hlv hle hQ'
      have hi := (List.getElem?_eq_some_iff.mp hx).1
      rw [List.length_map, List.length_range] at hi
      rw [List.getElem?_map, List.getElem?_range hi] at hx
      cases hx
      obtain ⟨c, rfl⟩ : ∃ c, c = i := ⟨i, rfl⟩
      refine wpAny_pyNext_range_item st (by omega) fun h' hit' hs' => ?_
      refine hQ' _ h' (s'.toks + 1) T' (Nat.le_succ _) ?_ (fun b o hb e => hs'.extBut b o hb e) (fun _ _ e => e) (ht.mono (Nat.le_succ _)) fun T'' s'' hT k => .int _ _
      have e1 : a + (c : Int) + 1 = a + ((c + 1 : Nat) : Int) := by omega
      have e2 : (((b - a).toNat : Int) - (c : Int)) - 1 = ((b - a).toNat : Int) - ((c + 1 : Nat) : Int) := by omega
      rw [← e1, ← e2]; exact hit'
    · intro i v s' Q' E' hm hQ'
      exact letGo_plain hm rfl (by decide) (hQ' s'.heap hm fun _ _ _ e => e)
    · intro s' Q' E' st hQ'
      exact wpAny_pyNext_range_end hh st (by simp) fun h' he' => hQ' h' fun b o hb e => he' b o hb e

theorem itr_keys {own : List Addr} {T : TM} {s : Shared} {es : List (Key × V)} {v : Value} (hh : A.handled = none) (hr : Rep W (view own T s) (.dct es) v) {Q : Value → Shared → Prop}
    (hQ : ∀ I h' fp St Mid, s.heap.get? I = none → (∀ b o, s.heap.get? b = some o → h'.get? b = some o) → Itr W A target I (view own T s) (es.map fun p => p.1.v) fp St Mid → St 0 h' → (∀ b ∈ fp, b ≠ I → ∃ o, (view own T s).ob b = some o) → Q (.ref I) { s with heap := h' }) :
    wpAny (model W.prog W.w) A (pyIter v) Q E s := by
  cases hr with
  | @dct a o _ ds kvs n h1 h0 h2 h3 r hn =>
    have hl := r.dictAt (view_of h1) h2 h3 hn
    have hne : a ≠ s.heap.objs.size := Nat.ne_of_lt (Heap.lt_size (view_of h1))
    have hlen := r.length
    have hkl : kvs.length = ds.length := by rw [hlen.1, hlen.2]
    refine wpAny_pyIter_dict h0 hl ?_
    rw [hkl]
    refine hQ s.heap.objs.size _ [s.heap.objs.size, a] (fun i h => h.IsKeyIter s.heap.objs.size a i ds.length n ∧ h.get? a = some o) (fun i _ h => h.IsKeyIter s.heap.objs.size a (i + 1) ds.length n ∧ h.get? a = some o)
      (fresh_size _) (fun b o e => Heap.get?_push_of_some _ e) ?_ ⟨⟨_, Heap.get?_push_size _ rfl, rfl, rfl⟩, Heap.get?_push_of_some _ (view_of h1)⟩ ?_
    · refine { self := by simp, live := fun i h st => let ⟨o, ho, _⟩ := st.1; by rw [ho]; rfl, frame := fun i h h' st k => ⟨st.1.at fun o e => k _ (by simp) o e, k _ (by simp) _ st.2⟩, item := ?_, go := ?_, iter := fun i s' Q' E' st h => wpAny_pyIter_keyiter st.1 h, done := ?_ }
      · intro i x own' T' s' Q' E' hx st hI ht hlv hle hQ'
        rw [List.getElem?_map] at hx
        obtain ⟨⟨k, u⟩, hc, rfl⟩ := Option.map_eq_some_iff.mp hx
        obtain ⟨d, e1, e2, e3, e4⟩ := r.get hc
        refine next_key st.1 st.2 h3 e1 fun h' hit' hs' => ?_
        refine hQ' _ h' s'.toks T' (Nat.le_refl _) ⟨hit', (hs'.2 a hne).trans st.2⟩ (fun b o hb e => hs'.extBut b o hb e) (fun _ _ e => e) ht fun T'' s'' hT k => ?_
        exact e3.mono (hle.trans ⟨fun b o e => view_mk (view_not e) (k b o (view_not e) (hs'.extBut b o (fun q => view_not e (q ▸ hI)) (view_of e))), hT⟩)
      · intro i v s' Q' E' hm hQ'
        obtain ⟨o, ho, hc, hd⟩ := id hm.1
        exact letGo_plain ho hc (by decide) (hQ' s'.heap hm fun _ _ _ e => e)
      · intro s' Q' E' st hQ'
        have hl' := r.dictAt (h := s'.heap) st.2 h2 h3 hn
        have h4 := st.1
        rw [← hkl] at h4
        exact wpAny_pyNext_dict_end hh h4 hl' (by rw [List.length_map]; exact List.getElem?_eq_none (by omega)) fun h' he' => hQ' h' fun b o hb e => he' b o hb e
    · intro b hb hne
      simp at hb
      rcases hb with rfl | rfl
      · exact absurd rfl hne
      · exact ⟨o, h1⟩

theorem itr_items {own : List Addr} {T : TM} {s : Shared} {es : List (Key × V)} {v : Value} (hh : A.handled = none) (htg : isPair target = true) (hr : Rep W (view own T s) (.items es) v) {Q : Value → Shared → Prop}
    (hQ : ∀ I h' fp St Mid, s.heap.get? I = none → (∀ b o, s.heap.get? b = some o → h'.get? b = some o) → Itr W A target I (view own T s) (es.map fun p => V.tup [p.1.v, p.2]) fp St Mid → St 0 h' → (∀ b ∈ fp, b ≠ I → ∃ o, (view own T s).ob b = some o) → Q (.ref I) { s with heap := h' }) :
    wpAny (model W.prog W.w) A (pyIter v) Q E s := by
  cases hr with
  | @itm vw a ov _ hv1 hv2 hv3 hrd =>
   cases hrd with
   | @dct _ o _ ds kvs n h1 h0 h2 h3 r hn =>
    have hl := r.dictAt (view_of h1) h2 h3 hn
    have hne : a ≠ s.heap.objs.size := Nat.ne_of_lt (Heap.lt_size (view_of h1))
    have hlen := r.length
    have hkl : kvs.length = ds.length := by rw [hlen.1, hlen.2]
    refine wpAny_pyIter_items ⟨ov, view_of hv1, hv2, hv3⟩ hl ?_
    rw [hkl]
    refine hQ s.heap.objs.size _ [s.heap.objs.size, a] (fun i h => (∃ ok ov, IsItemIter h s.heap.objs.size a i ds.length n ok ov) ∧ h.get? a = some o)
      (fun i v h => (∃ ok ov x, v = .ref x ∧ IsItemIterOut h s.heap.objs.size a (i + 1) ds.length n ok ov x) ∧ h.get? a = some o)
      (fresh_size _) (fun b o e => Heap.get?_push_of_some _ e) ?_ ⟨⟨.none, .none, Heap.get?_push_size _ rfl⟩, Heap.get?_push_of_some _ (view_of h1)⟩ ?_
    · refine { self := by simp, live := fun i h st => let ⟨_, _, ho⟩ := st.1; by rw [ho]; rfl, frame := fun i h h' st k => ⟨let ⟨x, y, ho⟩ := st.1; ⟨x, y, k _ (by simp) _ ho⟩, k _ (by simp) _ st.2⟩, item := ?_, go := ?_, iter := fun i s' Q' E' st h => let ⟨_, _, h1⟩ := st.1; kcp_self h1 h, done := ?_ }
      · intro i x own' T' s' Q' E' hx st hI ht hlv hle hQ'
        rw [List.getElem?_map] at hx
        obtain ⟨⟨k, u⟩, hc, rfl⟩ := Option.map_eq_some_iff.mp hx
        obtain ⟨d, e1, e2, e3, e4⟩ := r.get hc
        obtain ⟨⟨ok, ov', hit⟩, hao⟩ := st
        have hai : a ≠ s.heap.objs.size := hne
        refine next_item hit hao h3 e1 fun h' hit' ht' hk' => ?_
        refine hQ' _ h' s'.toks T' (Nat.le_refl _) ⟨⟨_, _, _, rfl, hit'⟩, hk' a o hne hao⟩ hk' (fun _ _ e => e) ht fun T'' s'' hT k => ?_
        have hle' : Le (view own T s) (view own' T'' s'') := hle.trans ⟨fun b o e => view_mk (view_not e) (k b o (view_not e) (hk' b o (fun q => view_not e (q ▸ hI)) (view_of e))), hT⟩
        have hnew : s'.heap.objs.size ∉ own' := fun hm => by have := hlv _ hm; rw [fresh_size] at this; cases this
        refine .tup (view_mk hnew (k _ _ hnew ht')) rfl rfl (ws := [d.key, d.val]) (n := 0) rfl (.cons (e3.mono hle') (.cons (e4.mono hle') .nil))
      · intro i v s' Q' E' hm hQ'
        obtain ⟨⟨ok, ov', x, rfl, hit⟩, hao⟩ := hm
        cases target with
        | Tuple es k p => exact wpAny_letOwnedTupleGo_items hit fun h' hit' hs' => hQ' h' ⟨⟨_, _, hit'⟩, (hs'.2 a hne).trans hao⟩ fun b o hb e => hs'.extBut b o hb e
        | _ => cases htg
      · intro s' Q' E' st hQ'
        obtain ⟨⟨ok, ov', hit⟩, hao⟩ := st
        have hl' := r.dictAt (h := s'.heap) hao h2 h3 hn
        rw [← hkl] at hit
        exact wpAny_pyNext_items_end hh hit hl' (by rw [List.length_map]; exact List.getElem?_eq_none (by omega)) fun h' he' => hQ' h' fun b o hb e => he' b o hb e
    · intro b hb hne
      simp at hb
      rcases hb with rfl | rfl
      · exact absurd rfl hne
      · exact ⟨o, h1⟩

/-- what the loops ask of a value that is run through -/
noncomputable def RunOk (target : Expr) : V → Prop
  | .rng a b => Builtin.Range.small a b 1 = true
  | .items _ => isPair target = true
  | .tup _ => False
  | _ => True

theorem itr_of {own : List Addr} {T : TM} {s : Shared} {a : V} {xs : List V} {v : Value} (hh : A.handled = none) (hx : seqOf a = some xs) (hok : RunOk target a) (hr : Rep W (view own T s) a v) {Q : Value → Shared → Prop}
    (hQ : ∀ I h' fp St Mid, s.heap.get? I = none → (∀ b o, s.heap.get? b = some o → h'.get? b = some o) → Itr W A target I (view own T s) xs fp St Mid → St 0 h' → (∀ b ∈ fp, b ≠ I → ∃ o, (view own T s).ob b = some o) → Q (.ref I) { s with heap := h' }) :
    wpAny (model W.prog W.w) A (pyIter v) Q E s := by
  cases a with
  | lst vs => cases hx; exact itr_list hh hr hQ
  | str l => cases hx; exact itr_str hh hr fun I h' fp St Mid x1 x2 x3 x4 x5 _ => hQ I h' fp St Mid x1 x2 x3 x4 x5
  | dct es => cases hx; exact itr_keys hh hr hQ
  | rng a b => cases hx; exact itr_rng hh hok hr hQ
  | items es => cases hx; exact itr_items hh hok hr hQ
  | tup vs => exact hok.elim
  | _ => cases hx
end

end Sx
end
section
open PySem PySem.W PyProof.Rows PySem.Calls
set_option linter.unusedVariables false
set_option Elab.async false
set_option maxRecDepth 100000
namespace Sx

/-- binding a target to a value -/
noncomputable def Asg (C : Cx) (σ : St) (target : Expr) (x : V) (Q : St → Prop) : Prop :=
  ∀ F mine T s v, Abs C F mine T σ s → Rep C.W (view (F ++ mine) T s) x v → wpAny C.M C.A (assign target C.env v) (fun _ s' => ∃ σ' mine' T', Q σ' ∧ Post F mine T s mine' T' s' ∧ Abs C F mine' T' σ' s') C.X s
noncomputable def AsgL (C : Cx) (σ : St) (ts : List Expr) (xs : List V) (Q : St → Prop) : Prop :=
  ∀ F mine T s vs, Abs C F mine T σ s → RepL C.W (view (F ++ mine) T s) xs vs → wpAny C.M C.A (assignInOrder ((assignEach ts C.env).map (·.2)) vs) (fun _ s' => ∃ σ' mine' T', Q σ' ∧ Post F mine T s mine' T' s' ∧ Abs C F mine' T' σ' s') C.X s

section
variable {C : Cx} {σ : St}

theorem asg_name {n : Nat} (ok : C.Ok n) {x : String} {p : Pos} {u : V} {Q : St → Prop} (hx : isHere C (Str.ofString x) = true) (h : Q (put σ (Str.ofString x) x (.val u))) : Asg C σ (.Name (Str.ofString x) p) u Q := by
  intro F mine T s v hA hr
  exact wpAny_assign_Name (store_val ok hA hx hr fun s' p' a' => ⟨_, mine, T, h, p', a'⟩)

theorem asgL_nil {Q : St → Prop} (h : Q σ) : AsgL C σ [] [] Q := fun F mine T s vs hA hr => by
  cases hr
  exact wpAny_assignInOrder_none ⟨σ, mine, T, h, .refl _ _ _ _, hA⟩
theorem asgL_cons {t : Expr} {ts : List Expr} {x : V} {xs : List V} {Q : St → Prop} (h : Asg C σ t x (fun σ1 => AsgL C σ1 ts xs Q)) (ht : assignEach (t :: ts) C.env = (false, assign t C.env) :: assignEach ts C.env := by rfl) : AsgL C σ (t :: ts) (x :: xs) Q := by
  intro F mine T s vs hA hr
  cases hr with
  | @cons _ v _ vs hv hr =>
    rw [ht]
    refine wpAny_assignInOrder_more (wpAny_mono (h F mine T s v hA hv) ?_ fun _ _ x => x)
    rintro _ s1 ⟨σ1, m1, T1, q, p1, a1⟩
    refine wpAny_mono (q F m1 T1 s1 vs a1 (hr.mono p1.le)) ?_ fun _ _ x => x
    rintro _ s2 ⟨σ2, m2, T2, q2, p2, a2⟩
    exact ⟨σ2, m2, T2, q2, p1.trans p2, a2⟩

theorem asg_tuple {n : Nat} (ok : C.Ok n) {ts : List Expr} {k : Nat} {p : Pos} {xs : List V} {Q : St → Prop} (h : AsgL C σ ts xs Q) (hn : (assignEach ts C.env).length = xs.length) (hstar : (assignEach ts C.env).findIdx? (·.1) = none) : Asg C σ (.Tuple ts k p) (.tup xs) Q := by
  intro F mine T s v hA hr
  cases hr with
  | @tup a o _ ws n h1 h2 hd0 h3 r =>
    refine wpAny_assign_Tuple ok.hh (t := a) (items := ws.toArray) ⟨o, view_of h1, h2, n, h3⟩ (by rw [hn, List.size_toArray, r.length]) hstar fun h' he => ?_
    have hk : Kp T s T { s with heap := h' } := Kp.at (tk := s.toks) hA.tok (fun b o e => he b o (Nat.ne_of_lt (Heap.lt_size e)) e) (Nat.le_refl _)
    refine wpAny_mono (h F mine T { s with heap := h' } ws (hA.keeps hk) (r.mono hk.view)) ?_ fun _ _ x => x
    rintro _ s2 ⟨σ2, m2, T2, q2, p2, a2⟩
    exact ⟨σ2, m2, T2, q2, (hk.post hA.live).trans p2, a2⟩

/-- a, b = e -/
theorem ex_unpack {n : Nat} (ok : C.Ok n) {ts : List Expr} {k : Nat} {tp : Pos} {e : Expr} {pos : Pos} {Q : Fl → St → Prop} (h : Ev C σ e (fun v σ1 => Asg C σ1 (.Tuple ts k tp) v (fun σ2 => Q .next σ2)))
    (hs : swapsWithSole [.Tuple ts k tp] e pos.line C.env = pure false) (hw : swappedStores [.Tuple ts k tp] e C.env = pure none) : Ex C σ (.Assign [.Tuple ts k tp] e pos) Q := by
  refine Tr.intro' fun F mine T s QQ fin hA => ?_
  refine Assign_Tuple (Tr.then h hA fun v s1 u σ1 m1 T1 q p1 a1 r => ?_) hs hw
  refine wpAny_mono (q F m1 T1 s1 v a1 r) ?_ fun _ _ x => x
  rintro _ s2 ⟨σ2, m2, T2, q2, p2, a2⟩
  exact fin _ _ .next σ2 m2 T2 q2 (p1.trans p2) a2 .next

/-! ## for -/
noncomputable def Loop (C : Cx) (target : Expr) (body orelse : List Stmt) (Q : Fl → St → Prop) : List V → St → Prop
  | [], σ => Exs C σ orelse Q
  | x :: xs, σ => Asg C σ target x (fun σ1 => Exs C σ1 body (fun fl σ2 => match fl with
      | .next => Loop C target body orelse Q xs σ2
      | .cont => Loop C target body orelse Q xs σ2
      | .brk => Q .next σ2
      | .ret v => Q (.ret v) σ2))

/-- a frame more (or less) of what is somebody else's -/
theorem Abs.other {F F' mine : List Addr} {T T' : TM} {s s' : Shared} (hA : Abs C F mine T σ s) (le : Le (view (F ++ mine) T s) (view (F' ++ mine) T' s')) (hm : ∀ b o, b ∈ mine → s.heap.get? b = some o → s'.heap.get? b = some o)
    (hc : ∀ x c, C.env.cells.lookup x = some c → c ∈ F' ++ mine ∧ ∀ o, s.heap.get? c = some o → s'.heap.get? c = some o) (hl : ∀ b ∈ F' ++ mine, (s'.heap.get? b).isSome = true) (hn : ∀ b ∈ mine, b ∉ F') (ht : TOk T' s'.toks) (same : ∃ h' tk, s' = { s with heap := h', toks := tk } := by exact ⟨_, _, rfl⟩) : Abs C F' mine T' σ s' := by
  obtain ⟨m, cm, f⟩ := hA.frm
  refine ⟨fun b o e => le.ob b o (hA.base b o e), hl, hn, ht, hA.sm.step le.tk same, m, cm, ?_⟩
  refine { ns := f.ns.at' fun o e => hm _ o f.lm e, cells := fun x c e => ?_, apart := f.apart, lc := f.lc, has := f.has, lm := f.lm, cown := fun x c e => (hc x c e).1, cmine := f.cmine, slots := fun x sl e => ?_, own := f.own, dis := f.dis }
  · obtain ⟨o, ho, hd⟩ := f.cells x c e
    exact ⟨o, (hc x c e).2 o ho, hd⟩
  · obtain ⟨v, hv, hr⟩ := f.slots x sl e
    exact ⟨v, hv, hr.mono le fun a ho o e' => hm _ o (f.own x sl a e ho).1 e'⟩

theorem Abs.dropI {F mine : List Addr} {I : Addr} {T : TM} {s : Shared} (hA : Abs C (F ++ [I]) mine T σ s) (cI : ∀ x c, C.env.cells.lookup x = some c → c ≠ I) : Abs C F mine T σ s := by
  have sub : ∀ b ∈ F ++ mine, b ∈ (F ++ [I]) ++ mine := fun b hb => by
    simp only [List.mem_append, List.mem_singleton] at hb ⊢
    rcases hb with hb | hb
    · exact .inl (.inl hb)
    · exact .inr hb
  refine hA.other (view_sub sub) (fun b o _ e => e) (fun x c e => ⟨?_, fun o e' => e'⟩) (fun b hb => hA.live b (sub b hb)) (fun b hb hF => hA.nin b hb (List.mem_append_left _ hF)) hA.tok
  obtain ⟨m, cm, f⟩ := hA.frm
  have := f.cown x c e
  simp only [List.mem_append, List.mem_singleton] at this ⊢
  rcases this with (h | h) | h
  · exact .inl h
  · exact absurd h (cI x c e)
  · exact .inr h

theorem ex_for {n : Nat} (ok : C.Ok n) {target iter : Expr} {body orelse : List Stmt} {pos : Pos} {Q : Fl → St → Prop}
    (h : Ev C σ iter (fun a σ1 => ∃ xs, seqOf a = some xs ∧ RunOk target a ∧ Loop C target body orelse Q xs σ1)) (hs : ∀ x, foldedSetIterable iter C.env x = pure x := by intro _; rfl) : Ex C σ (.For target iter body orelse pos) Q := by
  refine Tr.intro' fun F mine T s QQ fin hA => ?_
  refine wpAny_For (Tr.then h hA fun v s1 a σ1 m1 T1 hq_ p1 a1 r1 => ?_) hs
  obtain ⟨xs, hxs, hok, hL⟩ := hq_
  refine itr_of (target := target) ok.hh hxs hok r1 fun I h2 fp St Mid hnew hk hI hst hfp => ?_
  -- the loop itself: from s1 on, the iterator is somebody else's
  have cI : ∀ x c, C.env.cells.lookup x = some c → c ≠ I := fun x c e q => by
    obtain ⟨m, cm, f⟩ := a1.frm
    obtain ⟨o, ho, _⟩ := f.cells x c e
    rw [q, hnew] at ho; cases ho
  have kp : Kp T1 s1 T1 { s1 with heap := h2 } := Kp.at (tk := s1.toks) a1.tok hk (Nat.le_refl _)
  have nI : ∀ b ∈ F ++ m1, b ≠ I := fun b hb q => by have := a1.live b hb; rw [q, hnew] at this; cases this
  have IF : I ∉ F := fun hm => nI I (List.mem_append_left _ hm) rfl
  have a2 : Abs C (F ++ [I]) m1 T1 σ1 { s1 with heap := h2 } := by
    refine a1.other ⟨fun b o e => view_mk (fun hb => ?_) (hk b o (view_of e)), fun _ _ e => e⟩ (fun b o _ e => hk b o e) (fun x c e => ⟨?_, fun o e' => hk c o e'⟩) (fun b hb => ?_) (fun b hb hF => ?_) a1.tok
    · have hne : b ≠ I := fun q => by have := view_of e; rw [q, hnew] at this; cases this
      simp only [List.mem_append, List.mem_singleton] at hb
      rcases hb with (hb | hb) | hb
      · exact view_not e (List.mem_append_left _ hb)
      · exact hne hb
      · exact view_not e (List.mem_append_right _ hb)
    · obtain ⟨m, cm, f⟩ := a1.frm
      rcases List.mem_append.mp (f.cown x c e) with hm | hm
      · exact List.mem_append_left _ (List.mem_append_left _ hm)
      · exact List.mem_append_right _ hm
    · simp only [List.mem_append, List.mem_singleton] at hb
      rcases hb with (hb | hb) | hb
      · exact kp.live a1.live b (List.mem_append_left _ hb)
      · subst hb; exact hI.live 0 _ hst
      · exact kp.live a1.live b (List.mem_append_right _ hb)
    · simp only [List.mem_append, List.mem_singleton] at hF
      rcases hF with hF | hF
      · exact a1.nin b hb hF
      · exact nI b (List.mem_append_right _ hb) hF
  have hfp' : ∀ b ∈ fp, b ≠ I → b ∉ F ++ m1 := fun b hb hne => let ⟨o, ho⟩ := hfp b hb hne; view_not ho
  refine codeAny_forLoop_any (fun k s' => ∃ i σ' m' T', k = xs.length + 1 - i ∧ i ≤ xs.length ∧ Loop C target body orelse Q (xs.drop i) σ' ∧ Post F m1 T1 s1 m' T' s' ∧ Abs C (F ++ [I]) m' T' σ' s' ∧ St i s'.heap) ?_ (xs.length + 1)
    ⟨0, σ1, m1, T1, rfl, Nat.zero_le _, by simpa using hL, kp.post a1.live, a2, hst⟩
  rintro k s' ⟨i, σ', m', T', rfl, hi, hL', p', a', st'⟩
  have leg : Le (view (F ++ m1) T1 s1) (view ((F ++ [I]) ++ m') T' s') := ⟨fun b o e => by
    have e' := p'.le.ob b o e
    have hne : b ≠ I := fun q => by have := view_of e; rw [q, hnew] at this; cases this
    refine view_mk (fun hb => ?_) (view_of e')
    simp only [List.mem_append, List.mem_singleton] at hb
    rcases hb with (hb | hb) | hb
    · exact view_not e' (List.mem_append_left _ hb)
    · exact hne hb
    · exact view_not e' (List.mem_append_right _ hb), p'.le.tk⟩
  have Imem : I ∈ (F ++ [I]) ++ m' := by simp
  -- a step that turns the iterator alone
  have onlyI : ∀ (h' : Heap) (tk : Nat) (T'' : TM), (∀ b o, b ≠ I → s'.heap.get? b = some o → h'.get? b = some o) → TLe T' T'' → TOk T'' tk → Post F m1 T1 s1 m' T'' { s' with heap := h', toks := tk } ∧ Le (view ((F ++ [I]) ++ m') T' s') (view ((F ++ [I]) ++ m') T'' { s' with heap := h', toks := tk }) ∧
      ((h'.get? I).isSome = true → Abs C (F ++ [I]) m' T'' σ' { s' with heap := h', toks := tk }) := by
    intro h' tk T'' hk' hT htk
    have le : Le (view ((F ++ [I]) ++ m') T' s') (view ((F ++ [I]) ++ m') T'' { s' with heap := h', toks := tk }) := ⟨fun b o e => view_mk (view_not e) (hk' b o (fun q => view_not e (q ▸ Imem)) (view_of e)), hT⟩
    refine ⟨⟨?_, ⟨fun b o e => ?_, fun t l e => hT t l (p'.le.tk t l e)⟩, fun b hb => ?_⟩, le, fun hlv => ?_⟩
    · obtain ⟨h0, t0, rfl⟩ := p'.same
      exact ⟨h', tk, rfl⟩
    · have e' := p'.le.ob b o e
      have hne : b ≠ I := fun q => by have := view_of e; rw [q, hnew] at this; cases this
      exact view_mk (view_not e') (hk' b o hne (view_of e'))
    · have hbI : b ≠ I := fun q => IF (q ▸ hb)
      obtain ⟨o, ho⟩ := Option.isSome_iff_exists.mp (a1.live b (List.mem_append_left _ hb))
      have e1 := p'.far b hb
      rw [ho] at e1
      rw [ho]
      exact hk' b o hbI e1
    · have Im' : ∀ b ∈ m', b ≠ I := fun b hb q => a'.nin b hb (by rw [q]; simp)
      refine a'.other le (fun b o hb e => hk' b o (Im' b hb) e) (fun x c e => ⟨?_, fun o e' => hk' c o (cI x c e) e'⟩) (fun b hb => ?_) a'.nin htk
      · obtain ⟨m, cm, f⟩ := a'.frm
        exact f.cown x c e
      · by_cases q : b = I
        · subst q; exact hlv
        · obtain ⟨o, ho⟩ := Option.isSome_iff_exists.mp (a'.live b hb)
          show (h'.get? b).isSome = true
          rw [hk' b o q ho]; rfl
  cases hx : xs[i]? with
  | none =>
    have hlen : xs.length ≤ i := List.getElem?_eq_none_iff.mp hx
    have hie : i = xs.length := Nat.le_antisymm hi hlen
    subst hie
    refine hI.done s' _ _ st' fun h' hk' => ?_
    obtain ⟨p3, le3, _⟩ := onlyI h' s'.toks T' hk' (fun _ _ e => e) a'.tok
    rw [List.drop_length] at hL'
    have a3 : Abs C F m' T' σ' { s' with heap := h' } := by
      have Im' : ∀ b ∈ m', b ≠ I := fun b hb q => a'.nin b hb (by rw [q]; simp)
      refine a'.other (le3.trans (view_sub fun b hb => ?_)) (fun b o hb e => hk' b o (Im' b hb) e) (fun x c e => ⟨?_, fun o e' => hk' c o (cI x c e) e'⟩) (fun b hb => ?_) (fun b hb hF => a'.nin b hb (List.mem_append_left _ hF)) a'.tok
      · simp only [List.mem_append, List.mem_singleton] at hb ⊢
        rcases hb with hb | hb
        · exact .inl (.inl hb)
        · exact .inr hb
      · obtain ⟨m, cm, f⟩ := a'.frm
        have := f.cown x c e
        simp only [List.mem_append, List.mem_singleton] at this ⊢
        rcases this with (h | h) | h
        · exact .inl h
        · exact absurd h (cI x c e)
        · exact .inr h
      · have hb' : b ∈ (F ++ [I]) ++ m' := by
          simp only [List.mem_append, List.mem_singleton] at hb ⊢
          rcases hb with hb | hb
          · exact .inl (.inl hb)
          · exact .inr hb
        have q : b ≠ I := fun q => by
          rcases List.mem_append.mp hb with hb | hb
          · exact IF (q ▸ hb)
          · exact Im' b hb q
        obtain ⟨o, ho⟩ := Option.isSome_iff_exists.mp (a'.live b hb')
        show (h'.get? b).isSome = true
        rw [hk' b o q ho]; rfl
    refine wpAny_passesOwn ok.hx (Tr.then hL' a3 fun f s4 fl σ4 m4 T4 q4 p4 a4 r4 => ?_)
    exact fin _ _ fl σ4 m4 T4 q4 ((p1.trans p3).trans p4) a4 r4
  | some x =>
    have hlt : i < xs.length := (List.getElem?_eq_some_iff.mp hx).1
    have hdrop : xs.drop i = x :: xs.drop (i + 1) := by
      rw [List.drop_eq_getElem_cons hlt]
      congr 1
      have := List.getElem?_eq_getElem hlt
      rw [hx] at this; exact (Option.some.inj this).symm
    rw [hdrop] at hL'
    refine hI.item i x _ T' s' _ _ hx st' Imem a'.tok a'.live leg fun v h3 tk3 T3 htk3 hm3 hk3 hT3 htok3 hrep => ?_
    refine hI.go i v _ _ _ hm3 fun h4 hst4 hk4 => ?_
    have hk34 : ∀ b o, b ≠ I → s'.heap.get? b = some o → h4.get? b = some o := fun b o hb e => hk4 b o hb (hk3 b o hb e)
    obtain ⟨p4, le4, a4⟩ := onlyI h4 tk3 T3 hk34 hT3 htok3
    have a4 := a4 (hI.live _ _ hst4)
    have r4 : Rep C.W (view ((F ++ [I]) ++ m') T3 { s' with heap := h4, toks := tk3 }) x v := hrep T3 _ (fun _ _ e => e) fun b o hb e => hk4 b o (fun q => hb (q ▸ Imem)) e
    refine wpAny_passesOwn ok.hx (wpAny_mono (hL' (F ++ [I]) m' T3 _ v a4 r4) ?_ fun _ _ x => x)
    rintro _ s5 ⟨σ5, m5, T5, q5, p5, a5⟩
    refine wpAny_passesOwn ok.hx (wpAny_mono (q5 (F ++ [I]) m5 T5 s5 a5) ?_ fun _ _ x => x)
    rintro f s6 ⟨fl, σ6, m6, T6, q6, p6, a6, r6⟩
    have p56 := p5.trans p6
    have vis : ∀ b o, (view (F ++ m1) T1 s1).ob b = some o → (view ((F ++ [I]) ++ m') T3 { s' with heap := h4, toks := tk3 }).ob b = some o := fun b o e => le4.ob b o (leg.ob b o e)
    have p6' : Post F m1 T1 s1 m6 T6 s6 := by
      refine ⟨?_, ⟨fun b o e => ?_, fun t l e => p56.le.tk t l (p4.le.tk t l e)⟩, fun b hb => (p56.far b (List.mem_append_left _ hb)).trans (p4.far b hb)⟩
      · obtain ⟨h0, t0, e0⟩ := p4.same
        obtain ⟨h1, t1, rfl⟩ := p56.same
        exact ⟨h1, t1, by rw [e0]⟩
      · have e6 := p56.le.ob b o (vis b o e)
        exact (view_sub (T := T6) (s := s6) fun c hc => by
          simp only [List.mem_append, List.mem_singleton] at hc ⊢
          rcases hc with hc | hc
          · exact .inl (.inl hc)
          · exact .inr hc).ob b o e6
    have st6 : St (i + 1) s6.heap := by
      refine hI.frame (i + 1) h4 s6.heap hst4 fun b hb o e => ?_
      by_cases q : b = I
      · subst q
        exact (p56.far b (by simp)).trans e
      · obtain ⟨o', ho'⟩ := hfp b hb q
        have e1 := vis b o' ho'
        have e2 : h4.get? b = some o' := view_of e1
        rw [e] at e2
        cases e2
        exact view_of (p56.le.ob b o e1)
    have leave : ∀ v, FlRep C.W (view ((F ++ [I]) ++ m6) T6 s6) (.ret v) f → FlRep C.W (view (F ++ m6) T6 s6) (.ret v) f := by
      intro v h
      cases h with
      | ret r =>
        exact .ret (r.mono (view_sub fun c hc => by
          simp only [List.mem_append, List.mem_singleton] at hc ⊢
          rcases hc with hc | hc
          · exact .inl (.inl hc)
          · exact .inr hc))
    cases r6 with
    | next => exact ⟨xs.length + 1 - (i + 1), by omega, i + 1, σ6, m6, T6, rfl, hlt, q6, p6', a6, st6⟩
    | cont => exact ⟨xs.length + 1 - (i + 1), by omega, i + 1, σ6, m6, T6, rfl, hlt, q6, p6', a6, st6⟩
    | brk => exact fin _ _ .next σ6 m6 T6 q6 (p1.trans p6') (a6.dropI cI) .next
    | ret r => exact fin _ _ (.ret _) σ6 m6 T6 q6 (p1.trans p6') (a6.dropI cI) (leave _ (.ret r))
end
end Sx
end
section
open PySem PySem.W PyProof.Rows PySem.Calls
set_option linter.unusedVariables false
set_option Elab.async false
set_option maxRecDepth 100000
namespace Sx

/-! ## what turns a list or a dict of the frame's own -/
structure KpB (a : Addr) (T : TM) (s : Shared) (T' : TM) (s' : Shared) : Prop where
  same : ∃ h' tk, s' = { s with heap := h', toks := tk }
  keep : ∀ b o, b ≠ a → s.heap.get? b = some o → s'.heap.get? b = some o
  live : (s'.heap.get? a).isSome = true
  tle : TLe T T'
  tok : TOk T' s'.toks
theorem KpB.view {a : Addr} {T T' : TM} {own : List Addr} {s s' : Shared} (k : KpB a T s T' s') (ha : a ∈ own) : Le (view own T s) (view own T' s') :=
  ⟨fun b o e => view_mk (view_not e) (k.keep b o (fun q => view_not e (q ▸ ha)) (view_of e)), k.tle⟩

noncomputable def OpM {α : Type} (C : Cx) (sl : Slot) (vs : List V) (t : Value → List Value → Sem α) (P : α → Prop) (K : Slot → Prop) : Prop :=
  ∀ own T s a ws, OwnOk C own T s → a ∈ own → sl.adr = some a → SlotRep C.W (view own T s) s.heap sl (.ref a) → RepL C.W (view own T s) vs ws →
    wpAny C.M C.A (t (.ref a) ws) (fun r s' => P r ∧ ∃ sl' T', K sl' ∧ sl'.adr = some a ∧ KpB a T s T' s' ∧ SlotRep C.W (view own T' s') s'.heap sl' (.ref a)) C.X s

theorem OpM.abs {α : Type} {C : Cx} {σ : St} {F mine : List Addr} {T : TM} {s : Shared} {sl : Slot} {vs : List V} {t : Value → List Value → Sem α} {P : α → Prop} {K : Slot → Prop} (h : OpM C sl vs t P K) (hA : Abs C F mine T σ s) {x : String} {a : Addr}
    (hf : find σ (Str.ofString x) = some sl) (ho : sl.adr = some a) {ws : List Value} (hr : RepL C.W (view (F ++ mine) T s) vs ws) {Q : α → Shared → Prop}
    (hQ : ∀ r s' sl' T', P r → K sl' → sl'.adr = some a → Post F mine T s mine T' s' → Abs C F mine T' (put σ (Str.ofString x) x sl') s' → Q r s') : wpAny C.M C.A (t (.ref a) ws) Q C.X s := by
  obtain ⟨m, cm, f⟩ := hA.frm
  obtain ⟨v, hv, hr0⟩ := f.slots _ _ hf
  have hva := hr0.ref ho
  subst hva
  have hm := (f.own _ _ _ hf ho).1
  refine wpAny_mono (h (F ++ mine) T s a ws hA.ownOk (List.mem_append_right _ hm) ho hr0 hr) ?_ fun _ _ x => x
  rintro r s' ⟨hP, sl', T', hK, ho', k, hr'⟩
  obtain ⟨p1, a1⟩ := hA.mutate hf ho ho' k.same k.keep k.live k.tle k.tok (fun _ _ _ => hr')
  exact hQ r s' sl' T' hP hK ho' p1 a1

section
variable {C : Cx} {σ : St}

theorem opM_append {a : Addr} {vs : List V} {v : V} {K : Slot → Prop} (hl : vs.length ≤ sizeLine) (h : K (.list a (vs ++ [v]))) : OpM C (.list a vs) [v] (fun l ws => call (.builtin "list.append") (l :: ws)) (fun r => r = .none) K := by
  intro own T s b ws hO hb ho hs hr
  cases ho
  obtain ⟨_, xs, hx, hxr⟩ := hs
  obtain ⟨w, _, rfl, hw, hr⟩ := hr.cons_inv
  obtain rfl := hr.nil_inv
  refine wpAny_list_append_plain (items := xs.toArray) hx (fun h' hp hs' => ?_) (by simpa [hxr.length] using hl)
  have k : KpB a T s T { s with heap := h' } := ⟨⟨h', s.toks, rfl⟩, fun b o hb e => hs'.extBut b o hb e, by obtain ⟨n, e⟩ := hp; show (h'.get? a).isSome = true; rw [e]; rfl, fun _ _ e => e, hO.tok⟩
  refine ⟨rfl, _, T, h, rfl, k, rfl, xs ++ [w], ?_, ?_⟩
  · obtain ⟨n, e⟩ := hp
    exact ⟨n, by rw [e]; simp⟩
  · exact (hxr.append (.cons hw .nil)).mono (k.view hb)

end
end Sx
end
section
open PySem PySem.W PyProof.Rows PySem.Calls
set_option linter.unusedVariables false
set_option Elab.async false
set_option maxRecDepth 100000
namespace Sx

/-! ## dicts turn -/
noncomputable def dset : List (Key × V) → Key → V → List (Key × V)
  | [], k, v => [(k, v)]
  | (k', v') :: r, k, v => if k' = k then (k', v) :: r else (k', v') :: dset r k v

theorem dset_keys (es : List (Key × V)) (k : Key) (v : V) : (dset es k v).map (·.1) = if k ∈ es.map (·.1) then es.map (·.1) else es.map (·.1) ++ [k] := by
  induction es with
  | nil => simp [dset]
  | cons p r ih =>
    obtain ⟨k', v'⟩ := p
    unfold dset
    by_cases h : k' = k
    · subst h; simp
    · rw [if_neg h]
      simp only [List.map_cons, ih, List.mem_cons]
      by_cases hm : k ∈ r.map (·.1)
      · simp [hm]
      · simp [hm, Ne.symm h]
theorem dset_nodup {es : List (Key × V)} (h : (es.map (·.1)).Nodup) (k : Key) (v : V) : ((dset es k v).map (·.1)).Nodup := by
  rw [dset_keys]
  split
  · exact h
  · rename_i hn
    rw [List.nodup_append]
    exact ⟨h, by simp, fun a ha b hb => by rw [List.mem_singleton] at hb; subst hb; exact fun e => hn (e ▸ ha)⟩
theorem dset_length (es : List (Key × V)) (k : Key) (v : V) : (dset es k v).length ≤ es.length + 1 := by
  induction es with
  | nil => simp [dset]
  | cons p r ih =>
    obtain ⟨k', v'⟩ := p
    unfold dset
    split
    · simp
    · simp only [List.length_cons]; omega

theorem RepD.dset {W : Wd} {g : PH} {es : List (Key × V)} {ds : List DictEntry} {kvs : List (Key × Value)} (h : RepD W g es ds kvs) {k : Key} {v : V} {kw w : Value} (hk : Rep W g k.v kw) (hv : Rep W g v w) :
    ∃ ds' kvs', RepD W g (dset es k v) ds' kvs' ∧ ((∃ i, ds.findIdx? (fun e => W.knd.is k e.key) = some i ∧ ds' = ds.modify i fun e => { e with val := w }) ∨ (ds.findIdx? (fun e => W.knd.is k e.key) = none ∧ ds' = ds ++ [⟨W.knd.hash k, kw, w⟩])) := by
  induction ds generalizing es kvs with
  | nil =>
    cases h
    exact ⟨_, _, .cons hk rfl hv .nil, .inr ⟨rfl, rfl⟩⟩
  | cons d ds ih =>
    cases h with
    | @cons k' v' _ es _ kvs h1 h2 h3 r =>
      have his : W.knd.is k d.key = decide (k = k') := KeyKind.is_eq_decide (knd := W.knd) (Key.is_of_rep h1) k
      by_cases e : k' = k
      · subst e
        refine ⟨{ d with val := w } :: ds, (k', w) :: kvs, ?_, .inl ⟨0, ?_, rfl⟩⟩
        · unfold Sx.dset
          rw [if_pos rfl]
          exact .cons (d := { d with val := w }) h1 h2 hv r
        · rw [List.findIdx?_cons, his]; simp
      · obtain ⟨ds', kvs', r', q⟩ := ih r
        refine ⟨d :: ds', (k', d.val) :: kvs', ?_, ?_⟩
        · unfold Sx.dset
          rw [if_neg e]
          exact .cons h1 h2 h3 r'
        · have hf : W.knd.is k d.key = false := by rw [his]; exact decide_eq_false fun q => e q.symm
          rcases q with ⟨i, q1, q2⟩ | ⟨q1, q2⟩
          · refine .inl ⟨i + 1, ?_, ?_⟩
            · rw [List.findIdx?_cons, hf, q1]; rfl
            · rw [q2]; rfl
          · refine .inr ⟨?_, ?_⟩
            · rw [List.findIdx?_cons, hf, q1]; rfl
            · rw [q2]; rfl

section
variable {C : Cx} {σ : St}

theorem opM_dictSet {a : Addr} {es : List (Key × V)} {k : Key} {v : V} {K : Slot → Prop} (hl : es.length ≤ sizeLine) (h : K (.dict a (dset es k v))) :
    OpM C (.dict a es) [k.v, v] (fun d ws => match d, ws with | .ref d, [k, v] => dictSet d k v | _, _ => pure ()) (fun _ => True) K := by
  intro own T s b ws hO hb ho hs hr
  cases ho
  obtain ⟨_, ds, kvs, ⟨h0, o, n, ho, hx, hd⟩, hrd, hn⟩ := hs
  obtain ⟨kw, _, rfl, hkw, hr⟩ := hr.cons_inv
  obtain ⟨w, _, rfl, hw, hr⟩ := hr.cons_inv
  obtain rfl := hr.nil_inv
  have hkey : C.W.knd.is k kw = true := Key.is_of_rep hkw
  show wpAny C.M C.A (dictSet a kw w) _ _ s
  unfold dictSet
  try with_reducible refine wpAny_holding ?_
  refine wpAny_bind (C.W.knd.pyHash hkey ?_)
  unfold dictSetHashed
  try with_reducible refine wpAny_holding ?_
  refine wpAny_bind (wpAny_dictFind_of (s := { s with toks := s.toks + 1 }) hkey ho hd hrd.keysOf ?_)
  have hidx : (ds.toArray.findIdx? fun e => C.W.knd.is k e.key) = ds.findIdx? fun e => C.W.knd.is k e.key := by simp
  have hsz : ds.toArray.size ≤ sizeLine := by rw [List.size_toArray, hrd.length.1]; exact hl
  obtain ⟨ds', kvs', r', q⟩ := hrd.dset hkw hw
  rw [hidx]
  rcases q with ⟨i, q1, q2⟩ | ⟨q1, q2⟩
  · rw [q1]
    refine wpAny_bind (wpAny_rule (wpAny_bind (wpAny_updateDict (s := { s with toks := s.toks + 1 }) ho hd (wpAny_point ⟨trivial, _, T, h, rfl, ⟨⟨_, _, rfl⟩, fun b o hb e => (Heap.get?_update_other _ _ (Ne.symm hb)).trans e, ?_, fun _ _ e => e, hO.tok.mono (Nat.le_succ _)⟩, rfl, ds', kvs', ?_, ?_, dset_nodup hn _ _⟩))))
    · show ((s.heap.update a _).get? a).isSome = true
      rw [Heap.get?_update_self _ ho (Obj.isFreed_of_dict (Obj.data_mapDict hd _))]; rfl
    · refine ⟨h0, _, n, Heap.get?_update_self _ ho (Obj.isFreed_of_dict (Obj.data_mapDict hd _)), hx.mapDict _, ?_⟩
      rw [Obj.data_mapDict hd, q2]
      simp
    · refine RepD.mono (g := view own T s) ?_ r'
      exact ⟨fun b o e => view_mk (view_not e) ((Heap.get?_update_other _ _ (fun q => view_not e (by rw [← q]; exact hb))).trans (view_of e)), fun _ _ e => e⟩
  · rw [q1]
    refine wpAny_bind (wpAny_rule (wpAny_updateDictKeys (hz := hsz) (s := { s with toks := s.toks + 1 }) ho hd ⟨trivial, _, T, h, rfl, ⟨⟨_, _, rfl⟩, fun b o hb e => (Heap.get?_update_other _ _ (Ne.symm hb)).trans e, ?_, fun _ _ e => e, hO.tok.mono (Nat.le_succ _)⟩, rfl, ds', kvs', ?_, ?_, dset_nodup hn _ _⟩))
    · show ((s.heap.update a _).get? a).isSome = true
      rw [Heap.get?_update_self _ ho (Obj.isFreed_of_dict (Obj.data_mapDictKeys hd _))]; rfl
    · refine ⟨h0, _, n + 1, Heap.get?_update_self _ ho (Obj.isFreed_of_dict (Obj.data_mapDictKeys hd _)), hx.mapDictKeys _, ?_⟩
      rw [Obj.data_mapDictKeys hd, q2]
      simp
    · refine RepD.mono (g := view own T s) ?_ r'
      exact ⟨fun b o e => view_mk (view_not e) ((Heap.get?_update_other _ _ (fun q => view_not e (by rw [← q]; exact hb))).trans (view_of e)), fun _ _ e => e⟩

theorem opM_setItem {a : Addr} {es : List (Key × V)} {k : Key} {v : V} {K : Slot → Prop} (hl : es.length ≤ sizeLine) (h : K (.dict a (dset es k v))) :
    OpM C (.dict a es) [k.v, v] (fun d ws => match ws with | [k, v] => setItem d k v | _ => pure ()) (fun _ => True) K := by
  intro own T s b ws hO hb ho hs hr
  have key := opM_dictSet (C := C) hl h own T s b ws hO hb ho hs hr
  cases ho
  obtain ⟨_, ds, kvs, ⟨h0, o, n, ho, hx, hd⟩, hrd, hn⟩ := hs
  have hT : s.TypeIs (.ref a) "dict" := ⟨o, ho, hx.1⟩
  obtain ⟨kw, _, rfl, hkw, hr⟩ := hr.cons_inv
  obtain ⟨w, _, rfl, hw, hr⟩ := hr.cons_inv
  obtain rfl := hr.nil_inv
  show wpAny C.M C.A (setItem (.ref a) kw w) _ _ s
  have key : wpAny C.M C.A.in1 (dictSet a kw w) (fun r s' => True ∧ ∃ sl' T', K sl' ∧ sl'.adr = some a ∧ KpB a T s T' s' ∧ SlotRep C.W (view own T' s') s'.heap sl' (.ref a)) C.X s :=
    opM_dictSet (C := { C with A := C.A.in1 }) (K := K) hl h own T s a [kw, w] ⟨hO.base, hO.live, hO.tok⟩ hb rfl ⟨rfl, ds, kvs, ⟨h0, o, n, ho, hx, hd⟩, hrd, hn⟩ (.cons hkw (.cons hw .nil))
  unfold setItem
  try with_reducible refine wpAny_holding ?_
  refine wpAny_bind (wpAny_sequenceKey hT (by decide) ?_)
  refine wpAny_bind (wpAny_callSpecial?_slot (name := Str.ofString "__setitem__") hT slot_dict_setitem
    (wpAny_call_entry slot_dict_setitem hT entry_dict_setitem ?_ (args_dict_setitem _ _ _)))
  show wpAny _ _ (Builtin.Dict.notOrdered "__setitem__" ⟨[.ref a, kw, w], []⟩ >>= _) _ _ s
  refine wpAny_bind (wpAny_notOrdered_dict hT ?_)
  show wpAny _ _ (dictSet a kw w >>= _) _ _ s
  exact wpAny_bind (wpAny_mono key (fun r s' h' => wpAny_pure ⟨.none, rfl, wpAny_pure h'⟩) fun _ _ x => x)

/-! ## statements that turn what is the frame's own -/
theorem tr_loadO {n : Nat} (ok : C.Ok n) {F mine : List Addr} {T : TM} {s : Shared} (hA : Abs C F mine T σ s) {x : String} {sl : Slot} {a : Addr} (hf : find σ (Str.ofString x) = some sl) (ho : sl.adr = some a) (hxa : Str.ofString x ≠ anonS)
    (hn : (Str.ofString x == ("__classdict__" : Str)) = false) {Q : Value → Shared → Prop} (h : SlotRep C.W (view (F ++ mine) T s) s.heap sl (.ref a) → Q (.ref a) s) : wpAny C.M C.A (loadName C.env (Str.ofString x)) Q C.X s := by
  obtain ⟨m, cm, f⟩ := hA.frm
  obtain ⟨v, hv, hr⟩ := f.slots _ _ hf
  have e := hr.ref ho
  subst e
  exact load_local ok f (hv.real hxa) hn (h hr)

/-- the type of what is the frame's own -/
noncomputable def Slot.ty : Slot → String
  | .val _ => ""
  | .list _ _ => "list"
  | .dict _ _ => "dict"
theorem SlotRep.typeIs {W : Wd} {g : PH} {s : Shared} {sl : Slot} {a : Addr} (ho : sl.adr = some a) (x : SlotRep W g s.heap sl (.ref a)) : s.TypeIs (.ref a) sl.ty ∧ ∃ o, s.heap.get? a = some o ∧ o.dict = none := by
  cases sl with
  | val u => cases ho
  | list b vs =>
    cases ho
    obtain ⟨_, ws, ⟨n, h1⟩, r⟩ := x
    exact ⟨⟨_, h1, rfl⟩, _, h1, rfl⟩
  | dict b es =>
    cases ho
    obtain ⟨_, ds, kvs, ⟨h0, o, n, h1, h2, h3⟩, r⟩ := x
    exact ⟨⟨_, h1, h2.1⟩, _, h1, h2.2.1⟩

/-- x.name(e) as a statement, x a list or dict of the frame's own -/
theorem ex_methO {n : Nat} (ok : C.Ok n) {x : String} {xp : Pos} {name : Str} {id : String} {apos pos epos : Pos} {e : Expr} {sl : Slot} {a : Addr} {P : Value → Prop} {Q : Fl → St → Prop}
    (hf : find σ (Str.ofString x) = some sl) (ho : sl.adr = some a) (pa : PlainAttrs sl.ty) (slot : PySem.Slot sl.ty name id) (hty : typeOf (.builtin id) = pure (.type "method_descriptor"))
    (h : Ev C σ e (fun v σ1 => ∃ sl1, find σ1 (Str.ofString x) = some sl1 ∧ sl1.adr = some a ∧ OpM C sl1 [v] (fun l ws => call (.builtin id) (l :: ws)) P (fun sl2 => Q .next (put σ1 (Str.ofString x) x sl2))))
    (hxa : Str.ofString x ≠ anonS) (hn : (Str.ofString x == ("__classdict__" : Str)) = false) (hd : (Str.ofString x == ("__debug__" : Str)) = false)
    (hbase : attributeBase (.Name (Str.ofString x) xp) name C.env (eval (.Name (Str.ofString x) xp) C.env) = eval (.Name (Str.ofString x) xp) C.env) (hline : (apos.endLine == pos.line) = true)
    (hs : starEach [e] C.env = (false, eval e C.env) :: starEach [] C.env) (hint : interactive C.env = false) (hsw : swapsWith (.Call (.Attribute (.Name (Str.ofString x) xp) name apos) [e] [] pos) none epos.line C.env = pure false) :
    Ex C σ (.Expr (.Call (.Attribute (.Name (Str.ofString x) xp) name apos) [e] [] pos) epos) Q := by
  intro F mine T s hA
  refine wpAny_Expr_any ?_ hint hsw
  rw [arm_eval_Call, hbase]
  refine wpAny_bind (wpAny_Name (tr_loadO ok hA hf ho hxa hn fun hr => ?_) hd)
  refine wpAny_bind (wpAny_standAt ?_)
  have hst : (starEach [e] C.env).all (fun x => !x.1) = true := by rw [hs]; rfl
  have hform : methodCallForm ([e].length + ([] : List Keyword).length) (backTo pos (starEach [e] C.env)) (backToKw pos (keywordEach [] C.env)) = true := by rw [hs]; rfl
  have hpos : methodCallPos true (.Name (Str.ofString x) xp) C.env apos pos = pure pos := by unfold methodCallPos; simp [hline]
  obtain ⟨hT, o, hob, hod⟩ := hr.typeIs ho
  unfold methodCall
  rw [hform]
  refine wpAny_bind (wpAny_holding (getMethod_builtin hT pa slot hty (fun x hx => by cases hx; exact ⟨o, hob, hod⟩) ?_))
  refine wpAny_bind (wpAny_of_eq hpos ?_)
  refine callWith_builtin (any_backTo hst) (evalArgs_list hst ?_)
  rw [backTo_cons hs]
  refine spliced_cons (Tr.then h hA fun w s1 v σ1 m1 T1 hq_ p1 a1 r1 => ?_)
  obtain ⟨sl1, hf1, ho1, hop⟩ := hq_
  refine wpAny_items_nil ?_
  refine OpM.abs hop a1 hf1 ho1 (.cons r1 .nil) fun r s2 sl2 T2 hP hK ho2 p2 a2 => ?_
  exact ⟨.next, _, m1, T2, hK, p1.trans p2, a2, .next⟩

/-- x[k] = e, x a list or dict of the frame's own -/
theorem ex_setItemO {n : Nat} (ok : C.Ok n) {x : String} {xp tp pos : Pos} {k e : Expr} {a : Addr} {P : Unit → Prop} {Q : Fl → St → Prop}
    (h : Ev C σ e (fun v σ1 => ∃ sl, find σ1 (Str.ofString x) = some sl ∧ sl.adr = some a ∧ Ev C σ1 k (fun i σ2 => ∃ sl2, find σ2 (Str.ofString x) = some sl2 ∧ sl2.adr = some a ∧ OpM C sl2 [i, v] (fun d ws => match ws with | [k, v] => setItem d k v | _ => pure ()) P (fun sl3 => Q .next (put σ2 (Str.ofString x) x sl3)))))
    (hxa : Str.ofString x ≠ anonS) (hn : (Str.ofString x == ("__classdict__" : Str)) = false) (hd : (Str.ofString x == ("__debug__" : Str)) = false)
    (hsw : swapsWith e (some (.Subscript (.Name (Str.ofString x) xp) k tp)) pos.line C.env = pure false) :
    Ex C σ (.Assign [.Subscript (.Name (Str.ofString x) xp) k tp] e pos) Q := by
  refine Tr.intro' fun F mine T s QQ fin hA => ?_
  refine wpAny_Assign_Subscript (Tr.then h hA fun w s1 v σ1 m1 T1 hq_ p1 a1 r1 => ?_) hsw
  obtain ⟨sl, hf1, ho1, hk⟩ := hq_
  refine wpAny_Name (tr_loadO ok a1 hf1 ho1 hxa hn fun _ => ?_) hd
  refine Tr.then hk a1 fun kw s2 i σ2 m2 T2 hq_ p2 a2 r2 => ?_
  obtain ⟨sl2, hf2, ho2, hop⟩ := hq_
  refine OpM.abs hop a2 hf2 ho2 (.cons r2 (.cons (r1.mono p2.le) .nil)) fun r s3 sl3 T3 hP hK ho3 p3 a3 => ?_
  exact fin _ _ .next _ m2 T3 hK ((p1.trans p2).trans p3) a3 .next

/-! ## while -/
theorem ex_while {n : Nat} (ok : C.Ok n) {test : Expr} {body orelse : List Stmt} {pos : Pos} {Q : Fl → St → Prop} (I : Nat → St → Prop)
    (step : ∀ k σ, I k σ → Tst C σ test (fun b σ1 => (b = false → Exs C σ1 orelse Q) ∧ (b = true → Exs C σ1 body (fun fl σ2 => match fl with
      | .next => ∃ k', k' < k ∧ I k' σ2
      | .cont => ∃ k', k' < k ∧ I k' σ2
      | .brk => Q .next σ2
      | .ret v => Q (.ret v) σ2)))) (k : Nat) (h : I k σ) : Ex C σ (.While test body orelse pos) Q := by
  refine Tr.intro' fun F mine T s QQ fin hA => ?_
  refine wpAny_While (codeAny_whileLoop (I := fun k' s' => ∃ σ' m' T', I k' σ' ∧ Post F mine T s m' T' s' ∧ Abs C F m' T' σ' s') ?_ k ⟨σ, mine, T, h, .refl _ _ _ _, hA⟩)
  rintro k' s' ⟨σ', m', T', hI, p', a'⟩
  refine wpAny_passesOwn ok.hx (Tr.then (step k' σ' hI) a' fun b s1 b' σ1 m1 T1 q p1 a1 r => ?_)
  have r : b' = b := r
  subst r
  cases b' with
  | false =>
    refine wpAny_passesOwn ok.hx (Tr.then (q.1 rfl) a1 fun f s2 fl2 σ2 m2 T2 q2 p2 a2 r2 => ?_)
    exact fin _ _ fl2 σ2 m2 T2 q2 ((p'.trans p1).trans p2) a2 r2
  | true =>
    refine wpAny_passesOwn ok.hx (Tr.then (q.2 rfl) a1 fun f s2 fl2 σ2 m2 T2 q2 p2 a2 r2 => ?_)
    cases r2 with
    | next => obtain ⟨k2, hk2, hI2⟩ := q2; exact ⟨k2, hk2, σ2, m2, T2, hI2, (p'.trans p1).trans p2, a2⟩
    | cont => obtain ⟨k2, hk2, hI2⟩ := q2; exact ⟨k2, hk2, σ2, m2, T2, hI2, (p'.trans p1).trans p2, a2⟩
    | brk => exact fin _ _ .next σ2 m2 T2 q2 ((p'.trans p1).trans p2) a2 .next
    | ret r => exact fin _ _ (.ret _) σ2 m2 T2 q2 ((p'.trans p1).trans p2) a2 (.ret r)
end
end Sx
end
section
open PySem PySem.W PyProof.Rows PySem.Calls
set_option linter.unusedVariables false
set_option Elab.async false
set_option maxRecDepth 100000
namespace Sx

/-! ## comprehensions -/
structure PostX (ex F mine : List Addr) (T : TM) (s : Shared) (mine' : List Addr) (T' : TM) (s' : Shared) : Prop where
  same : ∃ h' tk, s' = { s with heap := h', toks := tk }
  le : Le (view (F ++ mine) T s) (view (F ++ mine') T' s')
  far : ∀ a ∈ F, a ∉ ex → s'.heap.get? a = s.heap.get? a
theorem PostX.trans {ex F m1 m2 m3 : List Addr} {T1 T2 T3 : TM} {s1 s2 s3 : Shared} (x : PostX ex F m1 T1 s1 m2 T2 s2) (y : PostX ex F m2 T2 s2 m3 T3 s3) : PostX ex F m1 T1 s1 m3 T3 s3 := by
  obtain ⟨h, t, rfl⟩ := x.same
  obtain ⟨h', t', rfl⟩ := y.same
  exact ⟨⟨h', t', rfl⟩, x.le.trans y.le, fun a ha hx => (y.far a ha hx).trans (x.far a ha hx)⟩
theorem PostX.refl (ex F mine : List Addr) (T : TM) (s : Shared) : PostX ex F mine T s mine T s := ⟨⟨_, _, rfl⟩, .refl _, fun _ _ _ => rfl⟩
theorem Post.x {F mine mine' : List Addr} {T T' : TM} {s s' : Shared} (p : Post F mine T s mine' T' s') (ex : List Addr) : PostX ex F mine T s mine' T' s' := ⟨p.same, p.le, fun a ha _ => p.far a ha⟩
theorem PostX.mono {ex ex' F mine mine' : List Addr} {T T' : TM} {s s' : Shared} (p : PostX ex F mine T s mine' T' s') (h : ∀ a ∈ ex, a ∈ ex') : PostX ex' F mine T s mine' T' s' := ⟨p.same, p.le, fun a ha hx => p.far a ha fun q => hx (h a q)⟩

/-- a step that turns somebody else's things alone -/
theorem Abs.turnF {C : Cx} {σ : St} {F mine ex : List Addr} {T T' : TM} {s s' : Shared} (hA : Abs C F mine T σ s) (same : ∃ h' tk, s' = { s with heap := h', toks := tk }) (keep : ∀ b o, b ∉ ex → s.heap.get? b = some o → s'.heap.get? b = some o)
    (live : ∀ b ∈ ex, (s'.heap.get? b).isSome = true) (sub : ∀ b ∈ ex, b ∈ F) (cx : ∀ x c, C.env.cells.lookup x = some c → c ∉ ex) (hT : TLe T T') (tok : TOk T' s'.toks) : PostX ex F mine T s mine T' s' ∧ Abs C F mine T' σ s' := by
  have le : Le (view (F ++ mine) T s) (view (F ++ mine) T' s') := ⟨fun b o e => view_mk (view_not e) (keep b o (fun q => view_not e (List.mem_append_left _ (sub b q))) (view_of e)), hT⟩
  have hm : ∀ b ∈ mine, b ∉ ex := fun b hb q => hA.nin b hb (sub b q)
  refine ⟨⟨same, le, fun b hb hx => ?_⟩, hA.other le (fun b o hb e => keep b o (hm b hb) e) (fun x c e => ⟨?_, fun o e' => keep c o (cx x c e) e'⟩) (fun b hb => ?_) hA.nin tok same⟩
  · obtain ⟨o, ho⟩ := Option.isSome_iff_exists.mp (hA.live b (List.mem_append_left _ hb))
    rw [ho]; exact keep b o hx ho
  · obtain ⟨m, cm, f⟩ := hA.frm
    exact f.cown x c e
  · by_cases q : b ∈ ex
    · exact live b q
    · obtain ⟨o, ho⟩ := Option.isSome_iff_exists.mp (hA.live b hb)
      rw [keep b o q ho]; rfl

noncomputable abbrev Tsts (C : Cx) (σ : St) (ifs : List Expr) (Q : Bool → St → Prop) : Prop :=
  Tr C σ RB (forIn ifs true fun c r => if r = true then do let ok ← isTrue c C.env (eval c C.env); pure (ForInStep.yield ok) else pure (ForInStep.yield r)) Q

/-- a step of a comprehension: what is under way, at D, turns from sl to another -/
noncomputable def TrA {α : Type} (C : Cx) (σ : St) (D : Addr) (sl : Slot) (t : Sem α) (Q : Slot → St → Prop) : Prop :=
  ∀ F mine T s, D ∈ F → (∀ x c, C.env.cells.lookup x = some c → c ≠ D) → Abs C F mine T σ s → sl.adr = some D → SlotRep C.W (view (F ++ mine) T s) s.heap sl (.ref D) →
    wpAny C.M C.A t (fun _ s' => ∃ sl' σ' mine' T', Q sl' σ' ∧ sl'.adr = some D ∧ PostX [D] F mine T s mine' T' s' ∧ Abs C F mine' T' σ' s' ∧ SlotRep C.W (view (F ++ mine') T' s') s'.heap sl' (.ref D)) C.X s

noncomputable def CLoop (C : Cx) (D : Addr) (target : Expr) (ifs : List Expr) (tail : Sem Unit) (K : Slot → St → Prop) : List V → Slot → St → Prop
  | [], sl, σ => K sl σ
  | x :: xs, sl, σ => Asg C σ target x (fun σ1 => Tsts C σ1 ifs (fun ok σ2 => (ok = true → TrA C σ2 D sl tail (fun sl' σ3 => CLoop C D target ifs tail K xs sl' σ3)) ∧ (ok = false → CLoop C D target ifs tail K xs sl σ2)))

noncomputable def turnT (ip : Pos) (target : Expr) (ifs : List Expr) (it : Value) (env : Env) (tail : Sem Unit) (c : Code) : Sem Fin := do
  standAt ip
  match ← pyNext it with
  | none => pure (.done .next)
  | some v =>
    letOwnedTupleGo target it v
    assign target env v
    let mut ok := true
    for c in ifs do
      if ok then ok ← isTrue c env (eval c env)
    if ok then tail
    again c

section
variable {C : Cx} {σ : St}

theorem tsts_nil {Q : Bool → St → Prop} (h : Q true σ) : Tsts C σ [] Q := fun F mine T s hA => wpAny_pure ⟨true, σ, mine, T, h, .refl _ _ _ _, hA, rfl⟩
theorem trA_list {elt : Expr} {D : Addr} {sl : Slot} {Q : Slot → St → Prop} (h : Ev C σ elt (fun y σ1 => OpM C sl [y] (fun l ws => call (.builtin "list.append") (l :: ws)) (fun r => r = .none) (fun sl' => Q sl' σ1))) :
    TrA C σ D sl (do let _ ← call (.builtin "list.append") [.ref D, ← eval elt C.env]) Q := by
  intro F mine T s hD hcD hA ho hs
  refine wpAny_bind (Tr.then h hA fun w s1 y σ1 m1 T1 hop p1 a1 r1 => ?_)
  have hs1 : SlotRep C.W (view (F ++ m1) T1 s1) s1.heap sl (.ref D) := hs.mono p1.le fun b hb o e => by rw [ho] at hb; cases hb; exact (p1.far D hD).trans e
  refine wpAny_bind (wpAny_mono (hop (F ++ m1) T1 s1 D [w] a1.ownOk (List.mem_append_left _ hD) ho hs1 (.cons r1 .nil)) ?_ fun _ _ x => x)
  rintro r s2 ⟨_, sl2, T2, hQ, ho2, k, hs2⟩
  obtain ⟨p2, a2⟩ := a1.turnF (ex := [D]) k.same (fun b o hb e => k.keep b o (by simpa using hb) e) (fun b hb => by rw [List.mem_singleton.mp hb]; exact k.live) (fun b hb => by rw [List.mem_singleton.mp hb]; exact hD)
    (fun x c e q => hcD x c e (List.mem_singleton.mp q)) k.tle k.tok
  exact wpAny_pure ⟨sl2, σ1, m1, T2, hQ, ho2, (p1.x _).trans p2, a2, hs2⟩

theorem trA_dict {kx vx : Expr} {p : Pos} {D : Addr} {sl : Slot} {Q : Slot → St → Prop} (h : Ev C σ kx (fun k σ1 => Ev C σ1 vx (fun v σ2 => OpM C sl [k, v] (fun d ws => match d, ws with | .ref d, [k, v] => dictSet d k v | _, _ => pure ()) (fun _ => True) (fun sl' => Q sl' σ2)))) :
    TrA C σ D sl (do
        let kv ← eval kx C.env
        let vv ← holding [kv] (eval vx C.env)
        standAt p
        holding [kv, vv] (dictSet D kv vv)) Q := by
  intro F mine T s hD hcD hA ho hs
  refine wpAny_bind (Tr.then h hA fun kw s1 k σ1 m1 T1 hq p1 a1 r1 => ?_)
  refine wpAny_bind (wpAny_holding (Tr.then hq a1 fun w s2 v σ2 m2 T2 hop p2 a2 r2 => ?_))
  have p12 := p1.trans p2
  have hs2 : SlotRep C.W (view (F ++ m2) T2 s2) s2.heap sl (.ref D) := hs.mono p12.le fun b hb o e => by rw [ho] at hb; cases hb; exact (p12.far D hD).trans e
  refine wpAny_bind (wpAny_standAt (wpAny_holding (wpAny_mono (hop (F ++ m2) T2 s2 D [kw, w] a2.ownOk (List.mem_append_left _ hD) ho hs2 (.cons (r1.mono p2.le) (.cons r2 .nil))) ?_ fun _ _ x => x)))
  rintro r s3 ⟨_, sl3, T3, hQ, ho3, k, hs3⟩
  obtain ⟨p3, a3⟩ := a2.turnF (ex := [D]) k.same (fun b o hb e => k.keep b o (by simpa using hb) e) (fun b hb => by rw [List.mem_singleton.mp hb]; exact k.live) (fun b hb => by rw [List.mem_singleton.mp hb]; exact hD)
    (fun x c e q => hcD x c e (List.mem_singleton.mp q)) k.tle k.tok
  exact ⟨sl3, σ2, m2, T3, hQ, ho3, (p12.x _).trans p3, a3, hs3⟩

theorem comp_loop {ip : Pos} {target : Expr} {ifs : List Expr} {tail : Sem Unit} {c : Code} {I D : Addr} {F₀ : List Addr} {g0 : PH} {xs : List V} {fp : List Addr} {St' : Nat → Heap → Prop} {Mid : Nat → Value → Heap → Prop} {R : Result → Shared → Prop} {K : Slot → St → Prop}
    (hX : ∀ v s, C.X v s → False) (hq : c.quiet = true) (hden : C.M.den c = (turnT ip target ifs (.ref I) C.env tail c).onRaise (fun x => do noteFrame x C.env; theTreesLotGoes x)) (hunder : C.A.under c = C.A)
    (hI : Itr C.W C.A target I g0 xs fp St' Mid) (hIF₀ : I ∉ F₀) (hDF₀ : D ∈ F₀) (hDI : D ≠ I) (hDf : D ∉ fp) (hcI : ∀ x c, C.env.cells.lookup x = some c → c ≠ I) (hcD : ∀ x c, C.env.cells.lookup x = some c → c ≠ D)
    {m0 : List Addr} {T0 : TM} {s0 : Shared} {σ0 : St} {sl0 : Slot} (hfp : ∀ b ∈ fp, b ≠ I → ∃ o, (view ((F₀ ++ [I]) ++ m0) T0 s0).ob b = some o) (hg : Le g0 (view ((F₀ ++ [I]) ++ m0) T0 s0)) (hA : Abs C (F₀ ++ [I]) m0 T0 σ0 s0) (hst : St' 0 s0.heap) (ho : sl0.adr = some D) (hs : SlotRep C.W (view ((F₀ ++ [I]) ++ m0) T0 s0) s0.heap sl0 (.ref D))
    (hL : CLoop C D target ifs tail K xs sl0 σ0)
    (hR : ∀ s' sl' σ' m' T', K sl' σ' → sl'.adr = some D → (∃ h' tk, s' = { s0 with heap := h', toks := tk }) → Le (view ((F₀ ++ [I]) ++ m0) T0 s0) (view (F₀ ++ m') T' s') → (∀ a ∈ F₀, a ≠ D → s'.heap.get? a = s0.heap.get? a) → Abs C F₀ m' T' σ' s' → SlotRep C.W (view (F₀ ++ m') T' s') s'.heap sl' (.ref D) → R (.ok .next) s') : codeAny C.M C.A c R s0 := by
  obtain ⟨F, hF⟩ : ∃ F, F₀ ++ [I] = F := ⟨_, rfl⟩
  have hIF : I ∈ F := by rw [← hF]; simp
  have hDF : D ∈ F := by rw [← hF]; exact List.mem_append_left _ hDF₀
  rw [hF] at hfp hg hA hs hR
  refine codeAny_loop hq (fun k s' => ∃ i sl' σ' m' T', k = xs.length + 1 - i ∧ i ≤ xs.length ∧ CLoop C D target ifs tail K (xs.drop i) sl' σ' ∧ sl'.adr = some D ∧ PostX [D, I] F m0 T0 s0 m' T' s' ∧ Abs C F m' T' σ' s' ∧ St' i s'.heap ∧ SlotRep C.W (view (F ++ m') T' s') s'.heap sl' (.ref D)) ?_ (xs.length + 1)
    ⟨0, sl0, σ0, m0, T0, rfl, Nat.zero_le _, by simpa using hL, ho, .refl _ _ _ _ _, hA, hst, hs⟩
  rintro k s' ⟨i, sl', σ', m', T', rfl, hi, hL', ho', p', a', st', hs'⟩
  rw [hunder, hden]
  refine wpAny_noted ?_
  unfold turnT
  refine wpAny_bind (wpAny_standAt (wpAny_bind ?_))
  have leg := hg.trans p'.le
  cases hx : xs[i]? with
  | none =>
    have hlen : xs.length ≤ i := List.getElem?_eq_none_iff.mp hx
    have hie : i = xs.length := Nat.le_antisymm hi hlen
    subst hie
    rw [List.drop_length] at hL'
    refine hI.done s' _ _ st' fun h' hk' => wpAny_pure ?_
    have sub : ∀ m, ∀ b ∈ F₀ ++ m, b ∈ F ++ m := fun m b hb => by
      rcases List.mem_append.mp hb with hb | hb
      · exact List.mem_append_left _ (by rw [← hF]; exact List.mem_append_left _ hb)
      · exact List.mem_append_right _ hb
    have nI : ∀ b ∈ F₀ ++ m', b ≠ I := fun b hb q => by
      rcases List.mem_append.mp hb with hb | hb
      · exact hIF₀ (q ▸ hb)
      · exact a'.nin b hb (q ▸ hIF)
    have leI : Le (view (F ++ m') T' s') (view (F₀ ++ m') T' { s' with heap := h' }) := ⟨fun b o e => view_mk (fun q => view_not e (sub _ b q)) (hk' b o (fun q => view_not e (q ▸ List.mem_append_left _ hIF)) (view_of e)), fun _ _ e => e⟩
    have a3 : Abs C F₀ m' T' σ' { s' with heap := h' } := by
      refine a'.other leI (fun b o hb e => hk' b o (nI b (List.mem_append_right _ hb)) e) (fun x c e => ⟨?_, fun o e' => hk' c o (hcI x c e) e'⟩) (fun b hb => ?_) (fun b hb hF' => a'.nin b hb (by rw [← hF]; exact List.mem_append_left _ hF')) a'.tok
      · obtain ⟨m, cm, f⟩ := a'.frm
        have := f.cown x c e
        rw [← hF] at this
        simp only [List.mem_append, List.mem_singleton] at this ⊢
        rcases this with (h | h) | h
        · exact .inl h
        · exact absurd h (hcI x c e)
        · exact .inr h
      · obtain ⟨o, ho⟩ := Option.isSome_iff_exists.mp (a'.live b (sub _ b hb))
        show (h'.get? b).isSome = true
        rw [hk' b o (nI b hb) ho]; rfl
    refine hR _ sl' σ' m' T' hL' ho' ?_ (p'.le.trans leI) (fun b hb hbD => ?_) a3 (hs'.mono leI fun b hb o e => by rw [ho'] at hb; cases hb; exact hk' _ o hDI e)
    · obtain ⟨h0, t0, rfl⟩ := p'.same
      exact ⟨h', _, rfl⟩
    · have hbI : b ≠ I := fun q => hIF₀ (q ▸ hb)
      have hbF : b ∈ F := by rw [← hF]; exact List.mem_append_left _ hb
      obtain ⟨o, ho⟩ := Option.isSome_iff_exists.mp (hA.live b (List.mem_append_left _ hbF))
      have e1 := p'.far b hbF (by simp [hbD, hbI])
      rw [ho] at e1 ⊢
      exact hk' b o hbI e1
  | some x =>
    have hlt : i < xs.length := (List.getElem?_eq_some_iff.mp hx).1
    have hdrop : xs.drop i = x :: xs.drop (i + 1) := by
      rw [List.drop_eq_getElem_cons hlt]
      congr 1
      have := List.getElem?_eq_getElem hlt
      rw [hx] at this; exact (Option.some.inj this).symm
    rw [hdrop] at hL'
    have IF : I ∈ F ++ m' := List.mem_append_left _ hIF
    refine hI.item i x _ T' s' _ _ hx st' IF a'.tok a'.live leg fun v h3 tk3 T3 htk3 hm3 hk3 hT3 htok3 hrep => ?_
    refine wpAny_bind (hI.go i v _ _ _ hm3 fun h4 hst4 hk4 => ?_)
    have hk34 : ∀ b o, b ≠ I → s'.heap.get? b = some o → h4.get? b = some o := fun b o hb e => hk4 b o hb (hk3 b o hb e)
    obtain ⟨p4, a4⟩ := a'.turnF (ex := [I]) (T' := T3) (s' := { s' with heap := h4, toks := tk3 }) ⟨h4, tk3, rfl⟩ (fun b o hb e => hk34 b o (by simpa using hb) e) (fun b hb => by rw [List.mem_singleton.mp hb]; exact hI.live _ _ hst4) (fun b hb => by rw [List.mem_singleton.mp hb]; exact hIF)
      (fun x c e q => hcI x c e (List.mem_singleton.mp q)) hT3 htok3
    have r4 : Rep C.W (view (F ++ m') T3 { s' with heap := h4, toks := tk3 }) x v := hrep T3 _ (fun _ _ e => e) fun b o hb e => hk4 b o (fun q => hb (q ▸ IF)) e
    have hs4 : SlotRep C.W (view (F ++ m') T3 { s' with heap := h4, toks := tk3 }) h4 sl' (.ref D) := hs'.mono p4.le fun b hb o e => by rw [ho'] at hb; cases hb; exact hk34 _ o hDI e
    have hst4' : St' (i + 1) { s' with heap := h4, toks := tk3 }.heap := hst4
    obtain ⟨s4, es4⟩ : ∃ s4 : Shared, s4 = { s' with heap := h4, toks := tk3 } := ⟨_, rfl⟩
    rw [← es4] at p4 a4 r4 hst4' ⊢
    have hs4 : SlotRep C.W (view (F ++ m') T3 s4) s4.heap sl' (.ref D) := by rw [es4]; exact hs4
    -- the frame of the iterator through a step that leaves what stands
    have stk : ∀ m5 T5 s5, PostX [D] F m' T3 s4 m5 T5 s5 → St' (i + 1) s5.heap := by
      intro m5 T5 s5 p5
      refine hI.frame (i + 1) s4.heap s5.heap hst4' fun b hb o e => ?_
      by_cases q : b = I
      · subst q
        exact (p5.far b hIF (by simpa using Ne.symm hDI)).trans e
      · obtain ⟨o', ho'⟩ := hfp b hb q
        have e1 := p4.le.ob b o' (p'.le.ob b o' ho')
        have e2 := view_of e1
        rw [e] at e2
        cases e2
        exact view_of (p5.le.ob b o e1)
    refine wpAny_bind (wpAny_mono (hL' F m' T3 s4 v a4 r4) ?_ fun v s x => (hX v s x).elim)
    rintro _ s5 ⟨σ5, m5, T5, q5, p5, a5⟩
    refine wpAny_bind (wpAny_mono (q5 F m5 T5 s5 a5) ?_ fun v s x => (hX v s x).elim)
    rintro ok s6 ⟨ok', σ6, m6, T6, q6, p6, a6, r6⟩
    have r6 : ok' = ok := r6
    subst r6
    have p56 := p5.trans p6
    have hs6 : SlotRep C.W (view (F ++ m6) T6 s6) s6.heap sl' (.ref D) := hs4.mono p56.le fun b hb o e => by rw [ho'] at hb; cases hb; exact (p56.far D hDF).trans e
    have p06 : PostX [D, I] F m0 T0 s0 m6 T6 s6 := (p'.trans (p4.mono (by simp))).trans (p56.x _)
    cases ok' with
    | false =>
      refine wpAny_pure ⟨rfl, xs.length + 1 - (i + 1), by omega, i + 1, sl', σ6, m6, T6, rfl, hlt, q6.2 rfl, ho', p06, a6, stk _ _ _ (p56.x _), hs6⟩
    | true =>
      refine wpAny_bind (wpAny_mono (q6.1 rfl F m6 T6 s6 hDF hcD a6 ho' hs6) ?_ fun v s x => (hX v s x).elim)
      rintro _ s7 ⟨sl7, σ7, m7, T7, q7, ho7, p7, a7, hs7⟩
      exact wpAny_pure ⟨rfl, xs.length + 1 - (i + 1), by omega, i + 1, sl7, σ7, m7, T7, rfl, hlt, q7, ho7, p06.trans (p7.mono (by simp)), a7, stk _ _ _ ((p56.x _).trans p7), hs7⟩
end
end Sx
end
section
open PySem PySem.W PyProof.Rows PySem.Calls
set_option linter.unusedVariables false
set_option Elab.async false
set_option maxRecDepth 100000
namespace Sx

/-! ## a whole comprehension -/
noncomputable def closGo (cells : List (Str × Addr)) : List (Str × NameKind) → List (Str × Addr) → List (Str × Addr)
  | [], cs => cs
  | (n, k) :: r, cs => if k == .free then closGo cells r ((n, (cells.lookup n).getD 0) :: cs) else closGo cells r cs

theorem closGo_eq {env : Env} : ∀ (names : List (Str × NameKind)) (cs : List (Str × Addr)), (∀ x ∈ names, x.2 = .free → (env.cells.lookup x.1).isSome = true) →
    (forIn names cs fun x (r : List (Str × Addr)) => if x.2 == .free then do let a ← cellOf env x.1; pure (ForInStep.yield ((x.1, a) :: r)) else pure (ForInStep.yield r) : Sem _) = pure (closGo env.cells names cs)
  | [], cs, _ => rfl
  | (n, k) :: r, cs, h => by
    have ih := fun cs => closGo_eq (env := env) r cs fun x hx => h x (List.mem_cons_of_mem _ hx)
    simp only [List.forIn_cons, closGo]
    by_cases hk : (k == NameKind.free) = true
    · rw [if_pos hk, if_pos hk]
      have hs := h (n, k) List.mem_cons_self (by simpa using hk)
      obtain ⟨a, ha⟩ := Option.isSome_iff_exists.mp hs
      have ha : env.cells.lookup n = some a := ha
      have e : cellOf env n = pure a := by unfold cellOf; rw [ha]
      rw [e, ha]
      exact ih _
    · rw [if_neg hk, if_neg hk]
      exact ih _
theorem closureFor_eq {scope : Scope} {env : Env} (h : ∀ x ∈ scope.names, x.2 = .free → (env.cells.lookup x.1).isSome = true) : closureFor scope env = pure (closGo env.cells scope.names []) := by
  have := closGo_eq (env := env) scope.names [] h
  unfold closureFor
  show (forIn scope.names [] fun (x : Str × NameKind) (r : List (Str × Addr)) => if x.2 == .free then do let a ← cellOf env x.1; pure (ForInStep.yield ((x.1, a) :: r)) else pure (ForInStep.yield r)) >>= _ = _
  rw [this]; rfl

theorem closGo_lookup {cells : List (Str × Addr)} {x : Str} {c : Addr} : ∀ (names : List (Str × NameKind)) (cs : List (Str × Addr)), (closGo cells names cs).lookup x = some c → cs.lookup x = some c ∨ ((x, NameKind.free) ∈ names ∧ c = (cells.lookup x).getD 0)
  | [], cs, h => .inl h
  | (n, k) :: r, cs, h => by
    unfold closGo at h
    by_cases hk : (k == NameKind.free) = true
    · rw [if_pos hk] at h
      rcases closGo_lookup r _ h with h | ⟨h1, h2⟩
      · rw [List.lookup_cons] at h
        cases hx : x == n with
        | true =>
          rw [hx] at h
          have e : x = n := by simpa using hx
          have : k = .free := by simpa using hk
          subst e; subst this
          exact .inr ⟨List.mem_cons_self, by simpa using h.symm⟩
        | false => rw [hx] at h; exact .inl h
      · exact .inr ⟨List.mem_cons_of_mem _ h1, h2⟩
    · rw [if_neg hk] at h
      rcases closGo_lookup r _ h with h | ⟨h1, h2⟩
      · exact .inl h
      · exact .inr ⟨List.mem_cons_of_mem _ h1, h2⟩
theorem closGo_keeps {cells : List (Str × Addr)} {x : Str} : ∀ (names : List (Str × NameKind)) (cs : List (Str × Addr)), (cs.lookup x).isSome = true → ((closGo cells names cs).lookup x).isSome = true
  | [], cs, h => h
  | (n, k) :: r, cs, h => by
    unfold closGo
    split
    · refine closGo_keeps r _ ?_
      rw [List.lookup_cons]; cases x == n <;> simp [h]
    · exact closGo_keeps r _ h
theorem closGo_has {cells : List (Str × Addr)} {x : Str} : ∀ (names : List (Str × NameKind)) (cs : List (Str × Addr)), (x, NameKind.free) ∈ names → ((closGo cells names cs).lookup x).isSome = true
  | [], cs, h => by cases h
  | (n, k) :: r, cs, h => by
    unfold closGo
    rcases List.mem_cons.mp h with e | h
    · injection e with e1 e2
      subst e1; subst e2
      rw [if_pos (show (NameKind.free == NameKind.free) = true from rfl)]
      exact closGo_keeps r _ (by rw [List.lookup_cons]; simp)
    · split
      · exact closGo_has r _ h
      · exact closGo_has r _ h

theorem relabel_lookup {env : Env} : ∀ {names : List (Str × NameKind)} {x : Str} {k : NameKind},
    (names.map fun (n, k) => if (k == NameKind.free && env.scope.kind == .function && env.kindOf n == some .cell) then (n, NameKind.cell) else (n, k)).lookup x = some k → (x, k) ∈ names ∨ (k = .cell ∧ (x, NameKind.free) ∈ names)
  | [], _, _, h => by simp at h
  | (n, k') :: r, x, k, h => by
    rw [List.map_cons] at h
    by_cases hc : (k' == NameKind.free && env.scope.kind == .function && env.kindOf n == some .cell) = true
    · simp only [hc, if_true, List.lookup_cons] at h
      have hk' : k' = .free := by
        rw [Bool.and_eq_true, Bool.and_eq_true] at hc
        simpa using hc.1.1
      cases hx : x == n with
      | true =>
        rw [hx] at h
        have e : x = n := by simpa using hx
        subst e; subst hk'
        exact .inr ⟨by simpa using h.symm, List.mem_cons_self⟩
      | false =>
        rw [hx] at h
        rcases relabel_lookup h with h | ⟨h1, h2⟩
        · exact .inl (List.mem_cons_of_mem _ h)
        · exact .inr ⟨h1, List.mem_cons_of_mem _ h2⟩
    · simp only [hc, Bool.false_eq_true, if_false, List.lookup_cons] at h
      cases hx : x == n with
      | true =>
        rw [hx] at h
        have e : x = n := by simpa using hx
        subst e
        have h : k' = k := by simpa using h
        subst h
        exact .inl List.mem_cons_self
      | false =>
        rw [hx] at h
        rcases relabel_lookup (by simpa using h) with h | ⟨h1, h2⟩
        · exact .inl (List.mem_cons_of_mem _ h)
        · exact .inr ⟨h1, List.mem_cons_of_mem _ h2⟩

noncomputable def compCx (C : Cx) (scope : Scope) (cl : List (Str × Addr)) (L : Addr) : Cx := { W := C.W, A := C.A, env := compEnvC scope cl L C.env, ownC := false, X := fun _ _ => False, an := none }
theorem compCx_ok {C : Cx} {n : Nat} {scope : Scope} {cl : List (Str × Addr)} {L : Addr} (ok : C.Ok n) (hk : scope.kind = .function) : (compCx C scope cl L).Ok n :=
  { W := ok.W, hh := ok.hh, hu := ok.hu, hd := ok.hd, hk := hk, hg := ok.hg, hb := ok.hb, hx := PassesOwn.never }

/-- what a comprehension sees of the frame around it -/
noncomputable def capSt (fv : List String) (σ : St) : St := fv.filterMap fun x => match find σ (Str.ofString x) with | some (.val u) => some (x, .val u) | _ => none
theorem find_capSt {fv : List String} {σ : St} {y : Str} {sl : Slot} (h : find (capSt fv σ) y = some sl) : ∃ x ∈ fv, y = Str.ofString x ∧ find σ y = some sl ∧ ∃ u, sl = .val u := by
  unfold capSt at h
  induction fv with
  | nil => simp [find] at h
  | cons x r ih =>
    rw [List.filterMap_cons] at h
    split at h
    · obtain ⟨z, h1, h2⟩ := ih h; exact ⟨z, List.mem_cons_of_mem _ h1, h2⟩
    · rename_i p hp
      split at hp
      · rename_i u hu
        cases hp
        simp only [find] at h
        by_cases e : Str.ofString x = y
        · rw [if_pos e] at h
          cases h
          exact ⟨x, List.mem_cons_self, e.symm, e ▸ hu, u, rfl⟩
        · rw [if_neg e] at h
          obtain ⟨z, h1, h2⟩ := ih h; exact ⟨z, List.mem_cons_of_mem _ h1, h2⟩
      · cases hp

/-- a scope is a comprehension's: what the walk asks of it -/
structure CompOk (C : Cx) (scope : Scope) (fv : List String) : Prop where
  hkind : scope.kind = .function
  hcell : ∀ y ∈ scope.names, y.2 ≠ .cell
  hnames : ∀ y ∈ scope.names, y.2 = .local → scope.names.lookup y.1 = some .local
  hfree : ∀ y ∈ scope.names, y.2 = .free → C.env.kindOf y.1 = some .cell ∨ C.env.kindOf y.1 = some .free
  hfv : ∀ x ∈ fv, (C.env.kindOf (Str.ofString x) = some .cell ∨ C.env.kindOf (Str.ofString x) = some .free) ∧ ((relabel scope C.env).names.lookup (Str.ofString x) = some .cell ∨ (relabel scope C.env).names.lookup (Str.ofString x) = some .free)

theorem comp_core {C : Cx} {n : Nat} (ok : C.Ok n) {σ : St} {F mine : List Addr} {T : TM} {s₁ : Shared} (hA : Abs C F mine T σ s₁) {e : Expr} {scope : Scope} {fv : List String} (hc : CompOk C scope fv) {target : Expr} {ifs : List Expr} {ip : Pos} {a : V} {xs : List V} {va : Value}
    (hr : Rep C.W (view (F ++ mine) T s₁) a va) (hxs : seqOf a = some xs) (hrun : RunOk target a) {newAcc : Sem Value} {o0 : Obj} {sl0 : Addr → Slot} {tail : Value → Env → Sem Unit} {K : Slot → St → Prop} {E : Value → Shared → Prop} {RR : Value → Addr → Result → Shared → Prop}
    (hnew : ∀ (s : Shared) (Q : Value → Shared → Prop), Q (.ref s.heap.objs.size) { s with heap := s.heap.push o0 } → wpAny C.M C.A newAcc Q E s) (hfr : o0.isFreed = false)
    (hsl : ∀ g (h : Heap) D, (D == sysModules) = false → h.get? D = some o0 → SlotRep C.W g h (sl0 D) (.ref D) ∧ (sl0 D).adr = some D)
    (hstart : ∀ I D env R (s : Shared), codeAny C.M C.A (.compLoop e 0 (.ref I) (.ref D) env) R s → wpAny C.M C.A (pyIter (.ref I)) (fun it' s' => codeAny C.M C.A (.compLoop e 0 it' (.ref D) env) R s') (notedBy C.M C.A env fun x s' => R (.error x) s') s → codeAny C.M C.A (.compStart e 0 (.ref I) (.ref D) env) R s)
    (hturn : ∀ I D env, compTurn e 0 (.ref I) (.ref D) env = turnT ip target ifs (.ref I) env (tail (.ref D) env) (.compLoop e 0 (.ref I) (.ref D) env)) (hframe : ∀ I D env, (Code.compLoop e 0 (.ref I) (.ref D) env).isFrame = false) (hquiet : ∀ I D env, (Code.compLoop e 0 (.ref I) (.ref D) env).quiet = true) (hunder : ∀ I D env, C.A.under (.compLoop e 0 (.ref I) (.ref D) env) = C.A)
    (hL : ∀ cl D L, (compCx C scope cl L).Ok n → CLoop (compCx C scope cl L) D target ifs (tail (.ref D) (compCx C scope cl L).env) K xs (sl0 D) (capSt fv σ))
    (hRR : ∀ D L s' T' sl σ', s₁.heap.get? D = none → s₁.heap.get? L = none → D ≠ L → (∃ m, s'.heap.Ns L m) → Kp T s₁ T' s' → K sl σ' → sl.adr = some D → (s'.heap.get? D).isSome = true → SlotRep C.W (view (D :: L :: (F ++ mine)) T' s') s'.heap sl (.ref D) → RR (.ref D) L (.ok .next) s') :
    wpAny C.M C.A (pyIter va) (fun it s₂ => wpAny C.M C.A newAcc (fun acc s₃ =>
      wpAny C.M C.A (newFunctionEnv scope C.env.globals (closGo C.env.cells scope.names []) [] C.env.qual none .none (some C.env)) (fun cenv s₄ =>
        codeAny C.M C.A (.compStart e 0 it acc { cenv with scope := relabel scope C.env }) (RR acc cenv.locals) s₄) E s₃) E s₂) E s₁ := by
  refine itr_of (target := target) ok.hh hxs hrun hr fun I h2 fp St Mid hnew1 hk2 hI hst hfp => ?_
  refine hnew _ _ ?_
  obtain ⟨D, hD⟩ : ∃ D, h2.objs.size = D := ⟨_, rfl⟩
  show wpAny C.M C.A (newFunctionEnv scope C.env.globals (closGo C.env.cells scope.names []) [] C.env.qual none .none (some C.env)) (fun cenv s₄ => codeAny C.M C.A (.compStart e 0 (.ref I) (.ref h2.objs.size) { cenv with scope := relabel scope C.env }) (RR (.ref h2.objs.size) cenv.locals) s₄) E { s₁ with heap := h2.push o0 }
  obtain ⟨h3, hh3⟩ : ∃ h3, h2.push o0 = h3 := ⟨_, rfl⟩
  have hD3 : h3.get? D = some o0 := by rw [← hh3, ← hD]; exact Heap.get?_push_size _ hfr
  have hk3 : ∀ b o, h2.get? b = some o → h3.get? b = some o := fun b o e => by rw [← hh3]; exact Heap.get?_push_of_some _ e
  rw [hh3, hD]
  refine wpAny_newFunctionEnv hc.hcell (by intro y hy; simp at hy) (fun h4 hns hsb => ?_) hc.hkind
  obtain ⟨L, hLe⟩ : ∃ L, h3.objs.size = L := ⟨_, rfl⟩
  have hns : h4.Ns L (fun x => ([] : List (Str × Value)).reverse.lookup x) := hLe ▸ hns
  have hsb : Heap.SameBut L (h3.push { cls := .type "dict", data := .dict #[] }) h4 := hLe ▸ hsb
  show codeAny C.M C.A (.compStart e 0 (.ref I) (.ref D) (compEnvC scope (closGo C.env.cells scope.names []) h3.objs.size C.env)) (RR (.ref D) h3.objs.size) { s₁ with heap := h4, toks := s₁.toks + 0 }
  rw [hLe, Nat.add_zero]
  obtain ⟨cl, hcl⟩ : ∃ cl, closGo C.env.cells scope.names [] = cl := ⟨_, rfl⟩
  rw [hcl]
  have hL3 : h3.get? L = none := hLe ▸ fresh_size h3
  have hk4 : ∀ b o, h3.get? b = some o → h4.get? b = some o := fun b o e => hsb.extBut b o (fun q => by rw [q, hL3] at e; cases e) (Heap.get?_push_of_some _ e)
  have hk14 : ∀ b o, s₁.heap.get? b = some o → h4.get? b = some o := fun b o e => hk4 b o (hk3 b o (hk2 b o e))
  have hD1 : s₁.heap.get? D = none := by
    cases q : s₁.heap.get? D with
    | none => rfl
    | some o => have := Heap.lt_size (hk2 _ _ q); rw [hD] at this; exact absurd this (Nat.lt_irrefl _)
  have hL1 : s₁.heap.get? L = none := by
    cases q : s₁.heap.get? L with
    | none => rfl
    | some o => rw [hk3 _ _ (hk2 _ _ q)] at hL3; cases hL3
  have hDL : D ≠ L := fun q => by rw [q, hL3] at hD3; cases hD3
  have hIl : (h2.get? I).isSome = true := hI.live 0 _ hst
  have hDI : D ≠ I := fun q => by
    obtain ⟨o, ho⟩ := Option.isSome_iff_exists.mp hIl
    have := Heap.lt_size ho; rw [← q, ← hD] at this; exact absurd this (Nat.lt_irrefl _)
  have hIL : I ≠ L := fun q => by
    obtain ⟨o, ho⟩ := Option.isSome_iff_exists.mp hIl
    have := hk3 _ _ ho; rw [q, hL3] at this; cases this
  have nF : ∀ b ∈ F ++ mine, b ≠ I ∧ b ≠ D ∧ b ≠ L := fun b hb => ⟨fun q => (by have := hA.live b hb; rw [q, hnew1] at this; cases this), fun q => (by have := hA.live b hb; rw [q, hD1] at this; cases this), fun q => (by have := hA.live b hb; rw [q, hL1] at this; cases this)⟩
  obtain ⟨mo, cmo, fo⟩ := hA.frm
  have hcl1 : ∀ x c, cl.lookup x = some c → C.env.cells.lookup x = some c := by
    intro x c hx
    rw [← hcl] at hx
    rcases closGo_lookup _ _ hx with h | ⟨h1, h2⟩
    · cases h
    · obtain ⟨c', hc'⟩ := fo.has x (hc.hfree _ h1 rfl)
      rw [hc'] at h2
      rw [hc', h2]; rfl
  have hcN : ∀ x c, cl.lookup x = some c → c ≠ I ∧ c ≠ D ∧ c ≠ L := fun x c hx => nF c (fo.cown x c (hcl1 x c hx))
  have s4k : Kp T s₁ T { s₁ with heap := h4 } := Kp.at (tk := s₁.toks) hA.tok hk14 (Nat.le_refl _)
  obtain ⟨F₀, hF₀⟩ : ∃ F₀, (F ++ mine) ++ [D] = F₀ := ⟨_, rfl⟩
  have mF₀ : ∀ b, b ∈ F₀ ↔ (b ∈ F ++ mine ∨ b = D) := fun b => by rw [← hF₀]; simp only [List.mem_append, List.mem_singleton]
  have mFa : ∀ b, b ∈ (F₀ ++ [I]) ++ [L] ↔ (b ∈ F ++ mine ∨ b = D ∨ b = I ∨ b = L) := fun b => by
    simp only [List.mem_append, List.mem_singleton, mF₀]
    constructor
    · rintro (((h | h) | h) | h)
      · exact .inl h
      · exact .inr (.inl h)
      · exact .inr (.inr (.inl h))
      · exact .inr (.inr (.inr h))
    · rintro (h | h | h | h)
      · exact .inl (.inl (.inl h))
      · exact .inl (.inl (.inr h))
      · exact .inl (.inr h)
      · exact .inr h
  have le4 : Le (view (F ++ mine) T s₁) (view ((F₀ ++ [I]) ++ [L]) T { s₁ with heap := h4 }) := ⟨fun b o e => view_mk (fun hm => by
    have e1 := view_of e
    rcases (mFa b).mp hm with h | h | h | h
    · exact view_not e h
    · rw [h, hD1] at e1; cases e1
    · rw [h, hnew1] at e1; cases e1
    · rw [h, hL1] at e1; cases e1) (hk14 b o (view_of e)), fun _ _ e => e⟩
  have hDs : (D == sysModules) = false := by
    have h1 := ok.W.sysm
    obtain ⟨o, ho⟩ := Option.isSome_iff_exists.mp h1
    have := hA.ownOk.kb _ _ ho
    cases q : D == sysModules with
    | false => rfl
    | true => rw [show D = sysModules by simpa using q, this] at hD1; cases hD1
  obtain ⟨hsl4, had⟩ := hsl (view ((F₀ ++ [I]) ++ [L]) T { s₁ with heap := h4 }) h4 D hDs (hk4 _ _ hD3)
  have okC : (compCx C scope cl L).Ok n := compCx_ok ok hc.hkind
  have habs : Abs (compCx C scope cl L) (F₀ ++ [I]) [L] T (capSt fv σ) { s₁ with heap := h4 } := by
    refine ⟨fun b o e => le4.ob b o (hA.base b o e), fun b hb => ?_, fun b hb hF => ?_, hA.tok, .none rfl, fun x => ([] : List (Str × Value)).reverse.lookup x, cmo, ?_⟩
    · rcases (mFa b).mp hb with h | h | h | h
      · exact s4k.live hA.live b h
      · subst h; show (h4.get? b).isSome = true; rw [hk4 _ _ hD3]; rfl
      · subst h
        obtain ⟨o, ho⟩ := Option.isSome_iff_exists.mp hIl
        show (h4.get? b).isSome = true
        rw [hk4 _ _ (hk3 _ _ ho)]; rfl
      · subst h
        obtain ⟨o, _, _, ho, _⟩ := hns
        show (h4.get? b).isSome = true
        rw [ho]; rfl
    · rw [List.mem_singleton.mp hb] at hF
      rcases List.mem_append.mp hF with h | h
      · rcases (mF₀ L).mp h with h | h
        · exact (nF L h).2.2 rfl
        · exact hDL h.symm
      · exact hIL (List.mem_singleton.mp h).symm
    · refine { ns := hns, cells := fun x c e => (fo.cells x c (hcl1 x c e)).keeps hk14, apart := fun x y c e1 e2 => fo.apart x y c (hcl1 x c e1) (hcl1 y c e2), lc := fun x c e => (hcN x c e).2.2, has := fun x hx => ?_, lm := List.mem_singleton.mpr rfl,
               cown := fun x c e => List.mem_append_left _ (List.mem_append_left _ ((mF₀ c).mpr (.inl (fo.cown x c (hcl1 x c e))))), cmine := fun h => (by cases h), slots := fun x sl hx => ?_, own := fun x sl b hx hb => ?_, dis := fun x y sl sl' b hx _ hb _ => ?_ }
      · have hm : (x, NameKind.free) ∈ scope.names := by
          rcases hx with hx | hx
          · rcases relabel_lookup (env := C.env) hx with h | h
            · exact absurd rfl (hc.hcell _ h)
            · exact h.2
          · rcases relabel_lookup (env := C.env) hx with h | h
            · exact h
            · exact h.2
        have := closGo_has (cells := C.env.cells) scope.names [] hm
        rw [hcl] at this
        exact Option.isSome_iff_exists.mp this
      · obtain ⟨y, hy, rfl, hf, u, rfl⟩ := find_capSt hx
        obtain ⟨v, hv, hrv⟩ := fo.slots _ _ hf
        refine ⟨v, .inl ?_, hrv.mono le4 fun b hb => by cases hb⟩
        have hv := hv.val
        obtain ⟨h1, h2⟩ := hc.hfv y hy
        have e1 : cmo (Str.ofString y) = some v := by
          unfold valAt at hv
          rcases h1 with h1 | h1 <;> rw [h1] at hv <;> exact hv
        have h2 : (compCx C scope cl L).env.kindOf (Str.ofString y) = some .cell ∨ (compCx C scope cl L).env.kindOf (Str.ofString y) = some .free := h2
        unfold valAt
        rcases h2 with h2 | h2 <;> rw [h2] <;> exact e1
      · obtain ⟨y, hy, rfl, hf, u, rfl⟩ := find_capSt hx
        cases hb
      · obtain ⟨y, hy, rfl, hf, u, rfl⟩ := find_capSt hx
        cases hb
  have hIF₀ : I ∉ F₀ := fun q => by
    rcases (mF₀ I).mp q with h | h
    · exact (nF I h).1 rfl
    · exact hDI h.symm
  have hDF₀ : D ∈ F₀ := (mF₀ D).mpr (.inr rfl)
  have hDf : D ∉ fp := fun q => by
    obtain ⟨o, ho⟩ := hfp D q hDI
    have := view_of ho; rw [hD1] at this; cases this
  have key : ∀ (s : Shared), s = { s₁ with heap := h4 } → codeAny C.M C.A (.compLoop e 0 (.ref I) (.ref D) (compEnvC scope cl L C.env)) (RR (.ref D) L) s := by
    rintro s rfl
    have hst4 : St 0 h4 := hI.frame 0 h2 h4 hst fun b _ o e => hk4 b o (hk3 b o e)
    refine comp_loop (C := compCx C scope cl L) (c := .compLoop e 0 (.ref I) (.ref D) (compEnvC scope cl L C.env)) (ip := ip) (tail := tail (.ref D) (compEnvC scope cl L C.env)) (K := K) (fun v s h => h) (hquiet _ _ _) ?_ ?_ hI hIF₀ hDF₀ hDI hDf (fun x c e => (hcN x c e).1) (fun x c e => (hcN x c e).2.1) (fun b hb hne => ?_) le4 habs hst4 had hsl4 (hL cl D L okC) ?_
    · show (if (Code.compLoop e 0 (.ref I) (.ref D) (compEnvC scope cl L C.env)).isFrame then _ else _) = _
      rw [hframe, hturn]; rfl
    · exact hunder _ _ _
    · obtain ⟨o, ho⟩ := hfp b hb hne
      exact ⟨o, le4.ob b o ho⟩
    · intro s' sl' σ' m' T' hK ho' same le far a' hs'
      have hkp : Kp T s₁ T' s' := by
        refine ⟨?_, fun b o e => ?_, fun t l e => le.tk t l e, a'.tok⟩
        · obtain ⟨h', tk, rfl⟩ := same
          exact ⟨h', tk, rfl⟩
        · by_cases hb : b ∈ F ++ mine
          · exact (far b ((mF₀ b).mpr (.inl hb)) (nF b hb).2.1).trans (hk14 b o e)
          · exact view_of (le.ob b o (le4.ob b o (view_mk hb e)))
      have hLm : L ∈ m' := by obtain ⟨m, cm, f⟩ := a'.frm; exact f.lm
      refine hRR D L s' T' sl' σ' hD1 hL1 hDL ?_ hkp hK ho' (a'.live D (List.mem_append_left _ hDF₀)) (hs'.mono (view_sub fun b hb => ?_) fun _ _ _ e => e)
      · obtain ⟨m, cm, f⟩ := a'.frm
        exact ⟨m, f.ns⟩
      · rcases List.mem_cons.mp hb with rfl | hb
        · exact List.mem_append_left _ hDF₀
        · rcases List.mem_cons.mp hb with rfl | hb
          · exact List.mem_append_right _ hLm
          · exact List.mem_append_left _ ((mF₀ b).mpr (.inl hb))
  refine hstart I D _ _ _ (key _ rfl) (hI.iter 0 _ _ _ ?_ (key _ rfl))
  exact hI.frame 0 h2 h4 hst fun b _ o e => hk4 b o (hk3 b o e)
end Sx
end
section
open PySem PySem.W PyProof.Rows PySem.Calls
set_option linter.unusedVariables false
set_option Elab.async false
set_option maxRecDepth 100000
namespace Sx

structure CompForm (C : Cx) (e : Expr) (scope : Scope) (iter target : Expr) (ifs : List Expr) (ip : Pos) (newAcc : Sem Value) (o0 : Obj) (sl0 : Addr → Slot) (tail : Value → Env → Sem Unit) : Prop where
  hcl : ∃ g gs, clausesOf e = g :: gs ∧ g.iter = iter
  hnew : ∀ (E : Value → Shared → Prop) (s : Shared) (Q : Value → Shared → Prop), Q (.ref s.heap.objs.size) { s with heap := s.heap.push o0 } → wpAny C.M C.A newAcc Q E s
  hfr : o0.isFreed = false
  hsl : ∀ g (h : Heap) D, (D == sysModules) = false → h.get? D = some o0 → SlotRep C.W g h (sl0 D) (.ref D) ∧ (sl0 D).adr = some D
  hstart : ∀ I D env R (s : Shared), codeAny C.M C.A (.compLoop e 0 (.ref I) (.ref D) env) R s → wpAny C.M C.A (pyIter (.ref I)) (fun it' s' => codeAny C.M C.A (.compLoop e 0 it' (.ref D) env) R s') (notedBy C.M C.A env fun x s' => R (.error x) s') s → codeAny C.M C.A (.compStart e 0 (.ref I) (.ref D) env) R s
  hturn : ∀ I D env, compTurn e 0 (.ref I) (.ref D) env = turnT ip target ifs (.ref I) env (tail (.ref D) env) (.compLoop e 0 (.ref I) (.ref D) env)
  hframe : ∀ I D env, (Code.compLoop e 0 (.ref I) (.ref D) env).isFrame = false
  hquiet : ∀ I D env, (Code.compLoop e 0 (.ref I) (.ref D) env).quiet = true
  hunder : ∀ I D env, C.A.under (.compLoop e 0 (.ref I) (.ref D) env) = C.A

theorem compForm_list {C : Cx} {elt iter target : Expr} {ifs : List Expr} {scope : Scope} {pos : Pos} :
    CompForm C (.ListComp elt [⟨target, iter, ifs, 0⟩] scope pos) scope iter target ifs iter.pos (newList []) { cls := .type "list", data := .seq #[] } (fun D => .list D []) (fun acc env => do let _ ← call (.builtin "list.append") [acc, ← eval elt env]) where
  hcl := ⟨_, _, rfl, rfl⟩
  hnew := fun E s Q h => wpAny_newObj_type h
  hfr := rfl
  hsl := fun g h D _ e => ⟨⟨rfl, [], ⟨0, e⟩, .nil⟩, rfl⟩
  hstart := fun I D env R s h0 h => codeAny_compStart_list h0 h
  hturn := fun I D env => by rfl
  hframe := fun I D env => rfl
  hquiet := fun I D env => rfl
  hunder := fun I D env => rfl

theorem hclos_of {C : Cx} {σ : St} {F mine : List Addr} {T : TM} {s : Shared} (hA : Abs C F mine T σ s) {scope : Scope} {fv : List String} (hc : CompOk C scope fv) : closureFor scope C.env = pure (closGo C.env.cells scope.names []) := by
  obtain ⟨m, cm, f⟩ := hA.frm
  exact closureFor_eq fun x hx hk => by
    obtain ⟨c, e⟩ := f.has x.1 (hc.hfree x hx hk)
    rw [e]; rfl

section
variable {C : Cx} {σ : St}
/-- a comprehension as an expression -/
theorem comp_ev {n : Nat} (ok : C.Ok n) {e : Expr} {scope : Scope} {iter target : Expr} {ifs : List Expr} {ip pos : Pos} {newAcc : Sem Value} {o0 : Obj} {sl0 : Addr → Slot} {tail : Value → Env → Sem Unit} (cf : CompForm C e scope iter target ifs ip newAcc o0 sl0 tail)
    {fv : List String} (hc : CompOk C scope fv) {Q : Slot → St → Prop}
    (h : Ev C σ iter (fun a σ1 => ∃ xs, seqOf a = some xs ∧ RunOk target a ∧ ∀ cl D L, (compCx C scope cl L).Ok n → CLoop (compCx C scope cl L) D target ifs (tail (.ref D) (compCx C scope cl L).env) (fun sl _ => Q sl σ1) xs (sl0 D) (capSt fv σ1)))
    (hs : ∀ x, foldedSetIterable iter C.env x = pure x := by intro _; rfl) : EvF C σ (comprehension e scope C.env pos newAcc false (eval iter C.env) none) Q := by
  intro F mine T s hA
  obtain ⟨g, gs, hg, rfl⟩ := cf.hcl
  refine wpAny_comprehension_free (use := none) hg hs (hclos_of hA hc) hc.hkind hc.hnames (Tr.then h hA fun va s1 a σ1 m1 T1 hq_ p1 a1 r1 => ?_)
  obtain ⟨xs, hxs, hrun, hL⟩ := hq_
  refine comp_core ok a1 hc r1 hxs hrun (cf.hnew _) cf.hfr cf.hsl cf.hstart cf.hturn cf.hframe cf.hquiet cf.hunder hL ?_ (RR := fun acc L => compPost C.M C.A C.X none (fun v s' => ∃ sl σ' mine' a T', Q sl σ' ∧ sl.adr = some a ∧ Post F mine T s (a :: mine') T' s' ∧ a ∉ mine' ∧ AbsN C F mine' a T' σ' s' ∧ SlotRep C.W (view (F ++ (a :: mine')) T' s') s'.heap sl v) acc L)
  rintro D L s' T' sl σ' hD hL hDL ⟨m, hns⟩ hk hK ho hlv hsl
  refine ⟨m, hns, fun h' hs' => ?_⟩
  have k2 : Kp T1 s1 T' { s' with heap := h' } := by
    obtain ⟨h0, t0, rfl⟩ := hk.same
    exact ⟨⟨h', t0, rfl⟩, fun b o e => hs'.extBut b o (fun q => by rw [q, hL] at e; cases e) (hk.keep b o e), hk.tle, hk.tok⟩
  have hlv' : (h'.get? D).isSome = true := by
    obtain ⟨o, hoo⟩ := Option.isSome_iff_exists.mp hlv
    rw [hs'.extBut D o hDL hoo]; rfl
  obtain ⟨p2, hm, a2, le⟩ := a1.new k2 hD hlv'
  refine ⟨sl, σ1, m1, D, T', hK, ho, p1.trans p2, hm, a2, ?_⟩
  have s1' : SlotRep C.W (view (D :: L :: (F ++ m1)) T' { s' with heap := h' }) h' sl (.ref D) := by
    refine hsl.mono ⟨fun b o e => view_mk (view_not e) (hs'.extBut b o (fun q => view_not e (by rw [q]; exact List.mem_cons_of_mem _ List.mem_cons_self)) (view_of e)), fun _ _ e => e⟩ fun b hb o e => ?_
    rw [ho] at hb
    cases hb
    exact hs'.extBut D o hDL e
  refine s1'.mono ((view_sub fun b hb => ?_).trans le) fun _ _ _ e => e
  rcases List.mem_cons.mp hb with rfl | hb
  · exact List.mem_cons_self
  · exact List.mem_cons_of_mem _ (List.mem_cons_of_mem _ hb)

end
end Sx
end
section
open PySem PySem.W PyProof.Rows PySem.Calls
set_option linter.unusedVariables false
set_option Elab.async false
set_option maxRecDepth 100000
namespace Sx

noncomputable def LLoop (C : Cx) (target : Expr) (ifs : List Expr) (elt : Expr) (K : List V → Prop) : List V → List V → St → Prop
  | [], ys, σ => K ys
  | x :: xs, ys, σ => Asg C σ target x (fun σ1 => Tsts C σ1 ifs (fun ok σ2 => (ok = true → Ev C σ2 elt (fun y σ3 => LLoop C target ifs elt K xs (ys ++ [y]) σ3)) ∧ (ok = false → LLoop C target ifs elt K xs ys σ2)))
noncomputable def DLoop (C : Cx) (target : Expr) (ifs : List Expr) (kx vx : Expr) (K : List (Key × V) → Prop) : List V → List (Key × V) → St → Prop
  | [], es, σ => K es
  | x :: xs, es, σ => Asg C σ target x (fun σ1 => Tsts C σ1 ifs (fun ok σ2 => (ok = true → Ev C σ2 kx (fun kv σ3 => ∃ k : Key, kv = k.v ∧ Ev C σ3 vx (fun y σ4 => DLoop C target ifs kx vx K xs (dset es k y) σ4))) ∧ (ok = false → DLoop C target ifs kx vx K xs es σ2)))

theorem Asg.mono {C : Cx} {σ : St} {t : Expr} {x : V} {Q Q' : St → Prop} (h : Asg C σ t x Q) (hq : ∀ σ, Q σ → Q' σ) : Asg C σ t x Q' :=
  fun F mine T s v hA hr => wpAny_mono (h F mine T s v hA hr) (fun _ _ ⟨σ', m', T', q, r⟩ => ⟨σ', m', T', hq _ q, r⟩) fun _ _ x => x

theorem LLoop.c {C : Cx} {D : Addr} {target : Expr} {ifs : List Expr} {elt : Expr} {K : List V → Prop} {K' : Slot → St → Prop} (hK : ∀ ys σ, K ys → K' (.list D ys) σ) : ∀ (xs ys : List V) (σ : St), ys.length + xs.length ≤ sizeLine → LLoop C target ifs elt K xs ys σ →
    CLoop C D target ifs (do let _ ← call (.builtin "list.append") [.ref D, ← eval elt C.env]) K' xs (.list D ys) σ
  | [], ys, σ, _, h => hK _ _ h
  | x :: xs, ys, σ, hl, h => by
    rw [List.length_cons] at hl
    refine Asg.mono h fun σ1 h1 => Tr.mono h1 fun ok σ2 h2 => ⟨fun hok => ?_, fun hok => LLoop.c hK xs ys σ2 (by omega) (h2.2 hok)⟩
    refine trA_list (Tr.mono (h2.1 hok) fun y σ3 h3 => opM_append (by omega) ?_)
    exact LLoop.c hK xs (ys ++ [y]) σ3 (by rw [List.length_append, List.length_singleton]; omega) h3
theorem DLoop.c {C : Cx} {D : Addr} {target : Expr} {ifs : List Expr} {kx vx : Expr} {p : Pos} {K : List (Key × V) → Prop} {K' : Slot → St → Prop} (hK : ∀ ys σ, K ys → K' (.dict D ys) σ) : ∀ (xs : List V) (es : List (Key × V)) (σ : St), es.length + xs.length ≤ sizeLine → DLoop C target ifs kx vx K xs es σ →
    CLoop C D target ifs (do
        let kv ← eval kx C.env
        let vv ← holding [kv] (eval vx C.env)
        standAt p
        holding [kv, vv] (dictSet D kv vv)) K' xs (.dict D es) σ
  | [], es, σ, _, h => hK _ _ h
  | x :: xs, es, σ, hl, h => by
    rw [List.length_cons] at hl
    refine Asg.mono h fun σ1 h1 => Tr.mono h1 fun ok σ2 h2 => ⟨fun hok => ?_, fun hok => DLoop.c hK xs es σ2 (by omega) (h2.2 hok)⟩
    refine trA_dict (Tr.mono (h2.1 hok) fun kv σ3 h3 => ?_)
    obtain ⟨k, rfl, h3⟩ := h3
    refine Tr.mono h3 fun y σ4 h4 => opM_dictSet (by omega) ?_
    exact DLoop.c hK xs (dset es k y) σ4 (by have := dset_length es k y; omega) h4

section
variable {C : Cx} {σ : St}
theorem evF_listComp {n : Nat} (ok : C.Ok n) {elt iter target : Expr} {ifs : List Expr} {scope : Scope} {pos : Pos} {fv : List String} (hc : CompOk C scope fv) {Q : Slot → St → Prop}
    (h : Ev C σ iter (fun a σ1 => ∃ xs, seqOf a = some xs ∧ RunOk target a ∧ xs.length ≤ sizeLine ∧ ∀ cl L, (compCx C scope cl L).Ok n → LLoop (compCx C scope cl L) target ifs elt (fun ys => ∀ D, Q (.list D ys) σ1) xs [] (capSt fv σ1)))
    (hs : ∀ x, foldedSetIterable iter C.env x = pure x := by intro _; rfl) : EvF C σ (eval (.ListComp elt [⟨target, iter, ifs, 0⟩] scope pos) C.env) Q := by
  rw [eval_ListComp]
  refine comp_ev ok compForm_list hc (h.mono ?_) hs
  rintro a σ1 ⟨xs, h1, h2, h3, h4⟩
  exact ⟨xs, h1, h2, fun cl D L okC => (h4 cl L okC).c (fun ys _ hk => hk D) xs [] _ (by simpa using h3)⟩
end
end Sx
end
section
open PySem PySem.W PyProof.Rows PySem.Calls
set_option linter.unusedVariables false
set_option Elab.async false
set_option maxRecDepth 100000
namespace Sx

noncomputable def dsets (es : List (Key × V)) (more : List (Key × V)) : List (Key × V) := more.foldl (fun es p => dset es p.1 p.2) es
theorem dsets_length (es more : List (Key × V)) : (dsets es more).length ≤ es.length + more.length := by
  induction more generalizing es with
  | nil => simp [dsets]
  | cons p r ih =>
    have := ih (dset es p.1 p.2)
    have e := dset_length es p.1 p.2
    simp only [dsets, List.foldl_cons, List.length_cons] at this ⊢
    omega

theorem KpB.trans {a : Addr} {T T' T'' : TM} {s s' s'' : Shared} (x : KpB a T s T' s') (y : KpB a T' s' T'' s'') : KpB a T s T'' s'' := by
  obtain ⟨h, t, rfl⟩ := x.same
  obtain ⟨h', t', rfl⟩ := y.same
  exact ⟨⟨h', t', rfl⟩, fun b o hb e => y.keep b o hb (x.keep b o hb e), y.live, fun t l e => y.tle t l (x.tle t l e), y.tok⟩
theorem KpB.own {C : Cx} {a : Addr} {T T' : TM} {own : List Addr} {s s' : Shared} (k : KpB a T s T' s') (ha : a ∈ own) (hO : OwnOk C own T s) : OwnOk C own T' s' := by
  refine ⟨fun b o e => (k.view ha).ob b o (hO.base b o e), fun b hb => ?_, k.tok⟩
  by_cases q : b = a
  · subst q; exact k.live
  · obtain ⟨o, ho⟩ := Option.isSome_iff_exists.mp (hO.live b hb)
    rw [k.keep b o q ho]; rfl

section
variable {C : Cx} {σ : St}

theorem opM_dictPut {a : Addr} {es : List (Key × V)} {k : Key} {v : V} {K : Slot → Prop} (hl : es.length ≤ sizeLine) (h : K (.dict a (dset es k v))) :
    OpM C (.dict a es) [k.v, v] (fun d ws => match d, ws with | .ref d, [kw, w] => dictPut d (C.W.knd.hash k) kw w | _, _ => pure ()) (fun _ => True) K := by
  intro own T s b ws hO hb ho hs hr
  cases ho
  obtain ⟨_, ds, kvs, ⟨h0, o, n, ho, hx, hd⟩, hrd, hn⟩ := hs
  obtain ⟨kw, _, rfl, hkw, hr⟩ := hr.cons_inv
  obtain ⟨w, _, rfl, hw, hr⟩ := hr.cons_inv
  obtain rfl := hr.nil_inv
  have hkey : C.W.knd.is k kw = true := Key.is_of_rep hkw
  show wpAny C.M C.A (dictPut a (C.W.knd.hash k) kw w) _ _ s
  unfold dictPut
  refine wpAny_bind (wpAny_dictFind_of hkey ho hd hrd.keysOf ?_)
  have hidx : (ds.toArray.findIdx? fun e => C.W.knd.is k e.key) = ds.findIdx? fun e => C.W.knd.is k e.key := by simp
  have hsz : ds.toArray.size ≤ sizeLine := by rw [List.size_toArray, hrd.length.1]; exact hl
  obtain ⟨ds', kvs', r', q⟩ := hrd.dset hkw hw
  rw [hidx]
  rcases q with ⟨i, q1, q2⟩ | ⟨q1, q2⟩
  · rw [q1]
    refine wpAny_updateDict ho hd ⟨trivial, _, T, h, rfl, ⟨⟨_, s.toks, rfl⟩, fun b o hb e => (Heap.get?_update_other _ _ (Ne.symm hb)).trans e, ?_, fun _ _ e => e, hO.tok⟩, rfl, ds', kvs', ?_, ?_, dset_nodup hn _ _⟩
    · show ((s.heap.update a _).get? a).isSome = true
      rw [Heap.get?_update_self _ ho (Obj.isFreed_of_dict (Obj.data_mapDict hd _))]; rfl
    · refine ⟨h0, _, n, Heap.get?_update_self _ ho (Obj.isFreed_of_dict (Obj.data_mapDict hd _)), hx.mapDict _, ?_⟩
      rw [Obj.data_mapDict hd, q2]
      simp
    · refine RepD.mono (g := view own T s) ?_ r'
      exact ⟨fun b o e => view_mk (view_not e) ((Heap.get?_update_other _ _ (fun q => view_not e (by rw [← q]; exact hb))).trans (view_of e)), fun _ _ e => e⟩
  · rw [q1]
    refine wpAny_updateDictKeys (hz := hsz) ho hd ⟨trivial, _, T, h, rfl, ⟨⟨_, s.toks, rfl⟩, fun b o hb e => (Heap.get?_update_other _ _ (Ne.symm hb)).trans e, ?_, fun _ _ e => e, hO.tok⟩, rfl, ds', kvs', ?_, ?_, dset_nodup hn _ _⟩
    · show ((s.heap.update a _).get? a).isSome = true
      rw [Heap.get?_update_self _ ho (Obj.isFreed_of_dict (Obj.data_mapDictKeys hd _))]; rfl
    · refine ⟨h0, _, n + 1, Heap.get?_update_self _ ho (Obj.isFreed_of_dict (Obj.data_mapDictKeys hd _)), hx.mapDictKeys _, ?_⟩
      rw [Obj.data_mapDictKeys hd, q2]
      simp
    · refine RepD.mono (g := view own T s) ?_ r'
      exact ⟨fun b o e => view_mk (view_not e) ((Heap.get?_update_other _ _ (fun q => view_not e (by rw [← q]; exact hb))).trans (view_of e)), fun _ _ e => e⟩

/-- all entries of a dict, put into another -/
theorem merge_into {own : List Addr} {D a : Addr} {T : TM} {s : Shared} {es es2 : List (Key × V)} {o2 : Obj} {n2 : Nat} {ds2 : List DictEntry} {kvs2 : List (Key × Value)} (hO : OwnOk C own T s) (hD : D ∈ own) (hs : SlotRep C.W (view own T s) s.heap (.dict D es) (.ref D))
    (haD : a ≠ D) (ho2 : s.heap.get? a = some o2) (has : (a == sysModules) = false) (hx2 : o2.ExactDict) (hd2 : o2.data = .dict ds2.toArray n2) (r2 : RepD C.W (view own T s) es2 ds2 kvs2) (hsz : es.length + es2.length ≤ sizeLine)
    {E : Value → Shared → Prop} {Q : Unit → Shared → Prop} (h : ∀ s' T', KpB D T s T' s' → SlotRep C.W (view own T' s') s'.heap (.dict D (dsets es es2)) (.ref D) → Q () s') : wpAny C.M C.A (mergeMapping D (.ref a) false) Q E s := by
  have hT2 : s.TypeIs (.ref a) "dict" := ⟨o2, ho2, hx2.1⟩
  obtain ⟨_, ds, kvs, ⟨h0, o, n, ho, hx, hd⟩, hrd, hn⟩ := id hs
  unfold mergeMapping
  refine wpAny_bind (wpAny_isInstance (T := "dict") (b := true) hT2 (by rw [isSubtype_type]; kernel_rfl) ?_)
  dsimp only
  rw [if_pos rfl]
  refine wpAny_bind (wpAny_specialOf hT2 PySem.F.slot_dict_iter.lookup ?_)
  refine wpAny_bind (wpAny_pure ?_)
  show wpAny _ _ (if (a == sysModules) = true then _ else _) _ _ _
  rw [if_neg (by rw [has]; decide)]
  refine wpAny_bind (wpAny_dictEntries ho hd ?_)
  have hlen2 : ds2.toArray.size = es2.length := by rw [List.size_toArray, r2.length.1]
  have main : wpAny C.M C.A (do
      let es ← dictEntries a
      let epoch ← dictEpoch a
      forIn (List.range es.size) PUnit.unit fun i (_ : PUnit) => do
        let es ← dictEntries a
        match es[i]? with
        | some e => do
          holding [e.key, e.val]
              (if false = true then do
                let r ← dictFind D e.key e.hash
                if r.isSome = true then do
                    rule "dict.merge.duplicate-key"
                    let x ← newExc (Value.type "KeyError") [e.key]
                    raiseNew x
                    dictPut D e.hash e.key e.val
                  else dictPut D e.hash e.key e.val
              else dictPut D e.hash e.key e.val)
          let ep ← dictEpoch a
          if (ep != epoch) = true then do
              unsupported "dict.changed-during-merge"
              pure (ForInStep.yield PUnit.unit)
            else pure (ForInStep.yield PUnit.unit)
        | x => do
          unsupported "dict.changed-during-merge"
          pure (ForInStep.yield PUnit.unit)
      pure ()) Q E s := by
    refine wpAny_bind (wpAny_dictEntries ho2 hd2 (wpAny_bind (wpAny_dictEpoch ho2 hd2 (wpAny_bind ?_))))
    rw [hlen2, List.range_eq_range']
    refine wpAny_forIn_list _ (fun rest _ s' => ∃ i T', rest = List.range' i (es2.length - i) ∧ i ≤ es2.length ∧ KpB D T s T' s' ∧ SlotRep C.W (view own T' s') s'.heap (.dict D (dsets es (es2.take i))) (.ref D)) _ ?_ ?_ _ _
      ⟨0, T, by simp, Nat.zero_le _, ⟨⟨_, _, rfl⟩, fun _ _ _ e => e, by rw [ho]; rfl, fun _ _ e => e, hO.tok⟩, by simpa [dsets] using hs⟩
    · rintro i rest _ s' ⟨j, T', hr, hj, k, hs'⟩
      have hlt : j < es2.length := by
        rcases Nat.lt_or_ge j es2.length with h | h
        · exact h
        · rw [Nat.sub_eq_zero_of_le h] at hr; cases hr
      rw [show es2.length - j = (es2.length - (j + 1)) + 1 by omega, List.range'_succ] at hr
      injection hr with hi hr
      subst hi
      have hoi := k.keep a o2 haD ho2
      have hx' : ∃ k v, es2[i]? = some (k, v) := ⟨es2[i].1, es2[i].2, List.getElem?_eq_getElem hlt⟩
      obtain ⟨key, v, hkv⟩ := hx'
      obtain ⟨d, e1, e2, e3, e4⟩ := r2.get hkv
      have hdh : d.hash = C.W.knd.hash key := by
        have := r2.keysOf d (by have := List.mem_of_getElem? e1; simpa using this)
        obtain ⟨k', h1, h2⟩ := this
        have := C.W.knd.inj _ _ _ h1 (Key.is_of_rep e3)
        rw [h2, this]
      refine wpAny_bind (wpAny_dictEntries hoi hd2 ?_)
      have e1' : ds2.toArray[i]? = some d := by simpa using e1
      rw [e1']
      dsimp only
      have hl' : (dsets es (es2.take i)).length ≤ sizeLine := by have := dsets_length es (es2.take i); rw [List.length_take] at this; omega
      have lev := k.view hD
      refine wpAny_bind (wpAny_holding ?_)
      rw [if_neg (by decide)]
      have := opM_dictPut (C := { C with X := E }) (a := D) (K := fun sl => sl = .dict D (dset (dsets es (es2.take i)) key v)) hl' rfl own T' s' D [d.key, d.val] (k.own hD ⟨hO.base, hO.live, hO.tok⟩) hD rfl hs' (.cons (e3.mono lev) (.cons (e4.mono lev) .nil))
      have this : wpAny C.M C.A (dictPut D (C.W.knd.hash key) d.key d.val) _ E s' := this
      rw [← hdh] at this
      refine wpAny_mono this ?_ fun _ _ x => x
      rintro _ s2 ⟨_, sl2, T2, rfl, _, k2, hs2⟩
      have hoi2 := k2.keep a o2 haD hoi
      refine wpAny_bind (wpAny_dictEpoch hoi2 hd2 ?_)
      rw [if_neg (by simp)]
      refine wpAny_pure ⟨i + 1, T2, hr, hlt, k.trans k2, ?_⟩
      have e : dsets es (es2.take (i + 1)) = dset (dsets es (es2.take i)) key v := by
        rw [List.take_add_one, hkv]; simp [dsets, List.foldl_append]
      rw [e]; exact hs2
    · rintro _ s' ⟨i, T', hr, hi, k, hs'⟩
      have : es2.length ≤ i := by
        rcases Nat.lt_or_ge i es2.length with h | h
        · rw [show es2.length - i = (es2.length - (i + 1)) + 1 by omega, List.range'_succ] at hr; cases hr
        · exact h
      rw [List.take_of_length_le this] at hs'
      exact wpAny_pure (h s' T' k hs')
  by_cases hem : ds.toArray.isEmpty = true
  · rw [if_pos hem]
    refine wpAny_bind (wpAny_dictEntries ho2 hd2 (wpAny_bind ?_))
    rw [List.forIn_toArray]
    refine wpAny_forIn_list _ (fun rest _ s' => s' = s ∧ ∀ e ∈ rest, e ∈ ds2) _ ?_ ?_ _ _ ⟨rfl, fun e he => he⟩
    · rintro e rest _ s' ⟨rfl, hm⟩
      obtain ⟨k, h1, h2⟩ := r2.keysOf e (by simpa using hm e List.mem_cons_self)
      have nr : ∀ x, e.key ≠ .ref x := fun x hx => by
        cases k with
        | s l => obtain ⟨t, ht⟩ := Key.is_s h1; rw [hx] at ht; cases ht
        | i n => obtain ⟨t, ht⟩ := Key.is_i h1; rw [hx] at ht; cases ht
      split
      · rename_i x hx; exact absurd hx (nr x)
      · exact wpAny_pure ⟨rfl, fun e he => hm e (List.mem_cons_of_mem _ he)⟩
    · rintro _ s' ⟨rfl, _⟩
      exact main
  · rw [if_neg hem]
    exact main
end
end Sx
end
section
open PySem PySem.W PyProof.Rows PySem.Calls
set_option linter.unusedVariables false
set_option Elab.async false
set_option maxRecDepth 100000
namespace Sx

/-! ## dict displays -/
noncomputable def EvK (C : Cx) : List (Sem Value × Sem Value) → List (Key × V) → St → (List (Key × V) → St → Prop) → Prop
  | [], acc, σ, Q => Q acc σ
  | (k, v) :: r, acc, σ, Q => EvT C σ k (fun kv σ1 => ∃ key : Key, kv = key.v ∧ EvT C σ1 v (fun vv σ2 => EvK C r (acc ++ [(key, vv)]) σ2 Q))

noncomputable def RepP (W : Wd) (g : PH) : List (Key × V) → List (Value × Value) → Prop
  | [], [] => True
  | (k, v) :: kvs, (kw, w) :: vs => Rep W g k.v kw ∧ Rep W g v w ∧ RepP W g kvs vs
  | _, _ => False
theorem RepP.mono {W : Wd} {g g' : PH} (h : Le g g') : ∀ {kvs : List (Key × V)} {vs : List (Value × Value)}, RepP W g kvs vs → RepP W g' kvs vs
  | [], [], _ => trivial
  | (k, v) :: kvs, (kw, w) :: vs, hr => ⟨hr.1.mono h, hr.2.1.mono h, RepP.mono h hr.2.2⟩
  | [], _ :: _, hr => hr.elim
  | _ :: _, [], hr => hr.elim
theorem RepP.length {W : Wd} {g : PH} : ∀ {kvs : List (Key × V)} {vs : List (Value × Value)}, RepP W g kvs vs → vs.length = kvs.length
  | [], [], _ => rfl
  | (k, v) :: kvs, (kw, w) :: vs, hr => by rw [List.length_cons, List.length_cons, RepP.length hr.2.2]
  | [], _ :: _, hr => hr.elim
  | _ :: _, [], hr => hr.elim

section
variable {C : Cx} {σ : St}

theorem evK_pairs : ∀ (pairs : List (Sem Value × Sem Value)) (acc : List (Key × V)) (σ : St) (Q : List (Key × V) → St → Prop), EvK C pairs acc σ Q → ∀ F mine T s, Abs C F mine T σ s →
    wpAny C.M C.A (evalPairs pairs) (fun vs s' => ∃ kvs σ' mine' T', Q (acc ++ kvs) σ' ∧ Post F mine T s mine' T' s' ∧ Abs C F mine' T' σ' s' ∧ RepP C.W (view (F ++ mine') T' s') kvs vs ∧ kvs.length = pairs.length) C.X s
  | [], acc, σ, Q, h, F, mine, T, s, hA => evalPairs_nil ⟨[], σ, mine, T, by rw [List.append_nil]; exact h, .refl _ _ _ _, hA, trivial, rfl⟩
  | (k, v) :: r, acc, σ, Q, h, F, mine, T, s, hA => by
    refine evalPairs_cons (Tr.then h hA fun kw s1 _ σ1 m1 T1 hq_ p1 a1 r1 => ?_)
    obtain ⟨key, rfl, hv⟩ := hq_
    refine Tr.then hv a1 fun w s2 vv σ2 m2 T2 hr p2 a2 r2 => ?_
    refine wpAny_mono (evK_pairs r _ σ2 Q hr F m2 T2 s2 a2) ?_ fun _ _ x => x
    rintro vs s3 ⟨kvs, σ3, m3, T3, hq, p3, a3, r3, hlen⟩
    exact ⟨(key, vv) :: kvs, σ3, m3, T3, by rw [List.append_assoc] at hq; exact hq, (p1.trans p2).trans p3, a3, ⟨(r1.mono p2.le).mono p3.le, r2.mono p3.le, r3⟩, by rw [List.length_cons, List.length_cons, hlen]⟩

theorem store_all {own : List Addr} {D : Addr} (hD : D ∈ own) : ∀ (vs : List (Value × Value)) (kvs es : List (Key × V)) (T : TM) (s : Shared) (Q : PUnit → Shared → Prop), OwnOk C own T s → SlotRep C.W (view own T s) s.heap (.dict D es) (.ref D) → RepP C.W (view own T s) kvs vs → es.length + kvs.length ≤ sizeLine →
    (∀ s' T', KpB D T s T' s' → SlotRep C.W (view own T' s') s'.heap (.dict D (dsets es kvs)) (.ref D) → Q PUnit.unit s') →
    wpAny C.M C.A (forIn vs PUnit.unit fun (x : Value × Value) (_ : PUnit) => (do dictSet D x.1 x.2; pure (ForInStep.yield PUnit.unit) : Sem (ForInStep PUnit))) Q C.X s
  | [], [], es, T, s, Q, hO, hs, hr, hl, h => by
    rw [List.forIn_nil]
    exact wpAny_pure (h s T ⟨⟨_, _, rfl⟩, fun _ _ _ e => e, hO.live D hD, fun _ _ e => e, hO.tok⟩ hs)
  | (kw, w) :: vs, (k, v) :: kvs, es, T, s, Q, hO, hs, hr, hl, h => by
    rw [List.length_cons] at hl
    rw [List.forIn_cons]
    refine wpAny_bind (wpAny_bind ?_)
    have := opM_dictSet (C := C) (a := D) (K := fun sl => sl = .dict D (dset es k v)) (by omega) rfl own T s D [kw, w] hO hD rfl hs (.cons hr.1 (.cons hr.2.1 .nil))
    have this : wpAny C.M C.A (dictSet D kw w) _ C.X s := this
    refine wpAny_mono this ?_ fun _ _ x => x
    rintro _ s2 ⟨_, sl2, T2, rfl, _, k2, hs2⟩
    refine wpAny_pure (store_all hD vs kvs (dset es k v) T2 s2 Q (k2.own hD hO) hs2 (hr.2.2.mono (k2.view hD)) (by have := dset_length es k v; omega) fun s' T' k3 hs3 => h s' T' (k2.trans k3) hs3)
  | [], _ :: _, _, _, _, _, _, _, hr, _, _ => hr.elim
  | _ :: _, [], _, _, _, _, _, _, hr, _, _ => hr.elim

/-- a new object, somebody else's for now -/
theorem Abs.lend {F mine : List Addr} {T T' : TM} {s s' : Shared} (hA : Abs C F mine T σ s) (k : Kp T s T' s') {d : Addr} (hn : s.heap.get? d = none) (hl : (s'.heap.get? d).isSome = true) :
    Abs C (F ++ [d]) mine T' σ s' ∧ Le (view (F ++ mine) T s) (view ((F ++ [d]) ++ mine) T' s') ∧ (∀ x c, C.env.cells.lookup x = some c → c ≠ d) ∧ d ∉ F ++ mine := by
  have hnew : ∀ b ∈ F ++ mine, b ≠ d := fun b hb e => hA.ownOk.fresh hn (e ▸ hb)
  have mm : ∀ b, b ∈ (F ++ [d]) ++ mine → b ∈ F ++ mine ∨ b = d := fun b hb => by
    simp only [List.mem_append, List.mem_singleton] at hb ⊢
    rcases hb with (h | h) | h
    · exact .inl (.inl h)
    · exact .inr h
    · exact .inl (.inr h)
  have le : Le (view (F ++ mine) T s) (view ((F ++ [d]) ++ mine) T' s') := ⟨fun b o e => by
    refine view_mk (fun hm => ?_) (k.keep b o (view_of e))
    rcases mm b hm with h | h
    · exact view_not e h
    · have := view_of e
      rw [h, hn] at this
      exact (nomatch this), k.tle⟩
  have hcd : ∀ x c, C.env.cells.lookup x = some c → c ≠ d := fun x c e => by
    obtain ⟨m, cm, f⟩ := hA.frm
    exact hnew c (f.cown x c e)
  refine ⟨hA.other le (fun b o _ e => k.keep b o e) (fun x c e => ⟨?_, fun o e' => k.keep c o e'⟩) (fun b hb => ?_) (fun b hb hF => ?_) k.tok k.same, le, hcd, fun hm => hnew d hm rfl⟩
  · obtain ⟨m, cm, f⟩ := hA.frm
    rcases List.mem_append.mp (f.cown x c e) with h | h
    · exact List.mem_append_left _ (List.mem_append_left _ h)
    · exact List.mem_append_right _ h
  · rcases mm b hb with h | h
    · exact k.live hA.live b h
    · subst h; exact hl
  · rcases List.mem_append.mp hF with h | h
    · exact hA.nin b hb h
    · exact hnew b (List.mem_append_right _ hb) (List.mem_singleton.mp h)

/-- .. and then the frame's own -/
theorem Abs.adopt {F mine : List Addr} {T : TM} {s : Shared} {d : Addr} (hA : Abs C (F ++ [d]) mine T σ s) (hdF : d ∉ F) (hcd : ∀ x c, C.env.cells.lookup x = some c → c ≠ d) :
    AbsN C F mine d T σ s ∧ d ∉ mine ∧ Le (view ((F ++ [d]) ++ mine) T s) (view (F ++ (d :: mine)) T s) := by
  have mm : ∀ b, b ∈ F ++ (d :: mine) ↔ b ∈ (F ++ [d]) ++ mine := fun b => by simp
  have le : Le (view ((F ++ [d]) ++ mine) T s) (view (F ++ (d :: mine)) T s) := view_sub fun b hb => (mm b).mp hb
  have hdm : d ∉ mine := fun h => hA.nin d h (by simp)
  obtain ⟨m, cm, f⟩ := hA.frm
  refine ⟨⟨fun b o e => le.ob b o (hA.base b o e), fun b hb => hA.live b ((mm b).mp hb), fun b hb hF => ?_, hA.tok, hA.sm, m, cm, ?_, fun e => hdm (e ▸ f.lm), hcd, fun y sl e ho => hdm (f.own y sl d e ho).1⟩, hdm, le⟩
  · rcases List.mem_cons.mp hb with rfl | hb
    · exact hdF hF
    · exact hA.nin b hb (List.mem_append_left _ hF)
  · refine { ns := f.ns, cells := f.cells, apart := f.apart, lc := f.lc, has := f.has, lm := List.mem_cons_of_mem _ f.lm, cown := fun x c e => (mm c).mpr (f.cown x c e), cmine := fun hc x c e => List.mem_cons_of_mem _ (f.cmine hc x c e),
             slots := fun x sl e => ?_, own := fun x sl b e ho => ?_, dis := f.dis }
    · obtain ⟨v, hv, hr⟩ := f.slots x sl e
      exact ⟨v, hv, hr.mono le fun _ _ _ e => e⟩
    · obtain ⟨q1, q2, q3⟩ := f.own x sl b e ho
      exact ⟨List.mem_cons_of_mem _ q1, q2, q3⟩

theorem sub_dict {pairs : List (Sem Value × Sem Value)} {Q : List (Key × V) → St → Prop} (hlen : pairs.length ≤ 15) (h : EvK C pairs [] σ Q) (hW : C.W.Ok) {F mine : List Addr} {T : TM} {s : Shared} (hA : Abs C F mine T σ s) :
    wpAny C.M C.A (subDict pairs) (fun d s' => ∃ kvs σ' mine' T', Q kvs σ' ∧ kvs.length = pairs.length ∧ s.heap.get? d = none ∧ d ∉ F ++ mine ∧ (∃ h' tk, s' = { s with heap := h', toks := tk }) ∧ Le (view (F ++ mine) T s) (view ((F ++ [d]) ++ mine') T' s') ∧ (∀ b ∈ F, s'.heap.get? b = s.heap.get? b) ∧
      Abs C (F ++ [d]) mine' T' σ' s' ∧ (∀ x c, C.env.cells.lookup x = some c → c ≠ d) ∧ SlotRep C.W (view ((F ++ [d]) ++ mine') T' s') s'.heap (.dict d (dsets [] kvs)) (.ref d)) C.X s := by
  unfold subDict
  obtain ⟨d, hd⟩ : ∃ d, s.heap.objs.size = d := ⟨_, rfl⟩
  refine wpAny_bind (wpAny_alloc (wpAny_bind (wpAny_holding ?_)))
  rw [if_pos hlen, hd]
  have hn : s.heap.get? d = none := hd ▸ fresh_size _
  have k0 : Kp T s T { s with heap := s.heap.push { cls := .type "dict", data := .dict #[] } } := .push hA.tok (Nat.le_refl _)
  have hd0 : (s.heap.push { cls := .type "dict", data := .dict #[] }).get? d = some { cls := .type "dict", data := .dict #[] } := by rw [← hd]; exact Heap.get?_push_size _ rfl
  obtain ⟨h0, hh0⟩ : ∃ h0, s.heap.push { cls := .type "dict", data := .dict #[] } = h0 := ⟨_, rfl⟩
  rw [hh0] at hd0 k0 ⊢
  obtain ⟨a0, le0, hcd, hdm⟩ := hA.lend k0 hn (by show (h0.get? d).isSome = true; rw [hd0]; rfl)
  have hdF : d ∈ F ++ [d] := by simp
  have hds : (d == sysModules) = false := by
    obtain ⟨o, ho⟩ := Option.isSome_iff_exists.mp hW.sysm
    have := hA.ownOk.kb _ _ ho
    cases q : d == sysModules with
    | false => rfl
    | true => rw [show d = sysModules by simpa using q, this] at hn; cases hn
  refine wpAny_bind (wpAny_mono (evK_pairs pairs [] σ Q h _ _ _ _ a0) ?_ fun _ _ x => x)
  rintro vs s1 ⟨kvs, σ1, m1, T1, hq, p1, a1, r1, hkl⟩
  have hd1 : s1.heap.get? d = some { cls := .type "dict", data := .dict #[] } := (p1.far d hdF).trans hd0
  have hs1 : SlotRep C.W (view ((F ++ [d]) ++ m1) T1 s1) s1.heap (.dict d []) (.ref d) := ⟨rfl, [], [], ⟨hds, _, 0, hd1, ⟨rfl, rfl, rfl⟩, rfl⟩, .nil, List.nodup_nil⟩
  have hsz : ([] : List (Key × V)).length + kvs.length ≤ sizeLine := by rw [sizeLine_eq, List.length_nil, hkl]; omega
  refine wpAny_holding (wpAny_bind (store_all (List.mem_append_left _ hdF) vs kvs [] T1 s1 _ a1.ownOk hs1 r1 hsz fun s2 T2 k2 hs2 => wpAny_pure (wpAny_pure ?_)))
  obtain ⟨p2, a2⟩ := a1.turnF (ex := [d]) k2.same (fun b o hb e => k2.keep b o (by simpa using hb) e) (fun b hb => by rw [List.mem_singleton.mp hb]; exact k2.live) (fun b hb => by rw [List.mem_singleton.mp hb]; exact hdF)
    (fun x c e q => hcd x c e (List.mem_singleton.mp q)) k2.tle k2.tok
  refine ⟨kvs, σ1, m1, T2, by simpa using hq, hkl, hn, hdm, ?_, (le0.trans p1.le).trans p2.le, fun b hb => ?_, a2, hcd, hs2⟩
  · obtain ⟨h1, t1, rfl⟩ := p1.same
    obtain ⟨h2, t2, rfl⟩ := p2.same
    exact ⟨h2, t2, rfl⟩
  · have hbd : b ≠ d := fun q => hdm (by rw [← q]; exact List.mem_append_left _ hb)
    obtain ⟨o, ho⟩ := Option.isSome_iff_exists.mp (hA.live b (List.mem_append_left _ hb))
    rw [ho]
    exact k2.keep b o hbd ((p1.far b (List.mem_append_left _ hb)).trans (k0.keep b o ho))

/-- {k: v, ..} -/
theorem evF_dict {n : Nat} (ok : C.Ok n) {keys : List (Option Expr)} {values : List Expr} {pos : Pos} {pairs : List (Sem Value × Sem Value)} {Q : Slot → St → Prop} (h : EvK C pairs [] σ (fun kvs σ1 => ∀ a, Q (.dict a (dsets [] kvs)) σ1))
    (hshape : (evalEachOpt keys C.env).zip ((evalEach values C.env).map fun v => do let x ← v; standAt pos; pure x) = pairs.map fun p => (some p.1, p.2)) (h0 : pairs ≠ []) (hlen : pairs.length ≤ 15) : EvF C σ (eval (.Dict keys values pos) C.env) Q := by
  refine EvF.intro' fun F mine T s QQ fin hA => ?_
  rw [arm_eval_Dict, hshape, dictDisplay_pairs pairs h0 (by omega)]
  refine wpAny_bind (wpAny_standAt (wpAny_bind (wpAny_mono (sub_dict hlen h ok.W hA) ?_ fun _ _ x => x)))
  rintro d s1 ⟨kvs, σ1, m1, T1, hq, hkl, hn, hdm, same, le, far, a1, hcd, hs1⟩
  obtain ⟨a2, hdm1, le2⟩ := a1.adopt (fun q => hdm (List.mem_append_left _ q)) hcd
  exact wpAny_pure (fin _ _ (.dict d (dsets [] kvs)) σ1 m1 d T1 (hq d) rfl ⟨same, le.trans le2, far⟩ hdm1 a2 (hs1.mono le2 fun _ _ _ e => e))

theorem evF_dict0 {n : Nat} (ok : C.Ok n) {pos : Pos} {Q : Slot → St → Prop} (h : ∀ a, Q (.dict a []) σ) : EvF C σ (eval (.Dict [] [] pos) C.env) Q := by
  refine EvF.prim fun own T s hO => wpAny_Dict_empty ?_
  have hn := fresh_size s.heap
  have hds : (s.heap.objs.size == sysModules) = false := by
    obtain ⟨o, ho⟩ := Option.isSome_iff_exists.mp ok.W.sysm
    have := hO.kb _ _ ho
    cases q : s.heap.objs.size == sysModules with
    | false => rfl
    | true => rw [show s.heap.objs.size = sysModules by simpa using q, this] at hn; cases hn
  exact ⟨.dict s.heap.objs.size [], T, s.heap.objs.size, h _, rfl, .push hO.tok (Nat.le_refl _), hn, by rw [Heap.get?_push_size _ rfl]; rfl, rfl, [], [], ⟨hds, _, 0, Heap.get?_push_size _ rfl, ⟨rfl, rfl, rfl⟩, rfl⟩, .nil, List.nodup_nil⟩
end
end Sx
end
section
open PySem PySem.W PyProof.Rows PySem.Calls
set_option linter.unusedVariables false
set_option Elab.async false
set_option maxRecDepth 100000
namespace Sx

theorem forIn_gatherS (d : Option Addr) (f : (Option (Sem Value) × Sem Value) → (Option Addr × List (Sem Value × Sem Value)) → Sem (ForInStep (Option Addr × List (Sem Value × Sem Value))))
    (hf : ∀ (p : Sem Value × Sem Value) (run : List (Sem Value × Sem Value)), run.length + 1 < 17 → f (some p.1, p.2) (d, run) = pure (.yield (d, run ++ [p]))) :
    ∀ (items run : List (Sem Value × Sem Value)), run.length + items.length < 17 → forIn (items.map fun p => (some p.1, p.2)) (d, run) f = pure (d, run ++ items)
  | [], run, _ => by simp
  | p :: rest, run, h => by
    rw [List.map_cons, List.forIn_cons, hf p run (by simp at h; omega), pure_bind]
    have := forIn_gatherS d f hf rest (run ++ [p]) (by simp at h ⊢; omega)
    simpa using this

section
variable {C : Cx} {σ : St}
theorem evF_dictStar {n : Nat} (ok : C.Ok n) {keys : List (Option Expr)} {values : List Expr} {pos : Pos} {m : Sem Value} {pairs : List (Sem Value × Sem Value)} {Q : Slot → St → Prop}
    (h : EvT C σ m (fun v σ1 => ∃ es, v = .dct es ∧ es.length + pairs.length ≤ sizeLine ∧ EvK C pairs [] σ1 (fun kvs σ2 => ∀ a, Q (.dict a (dsets (dsets [] es) (dsets [] kvs))) σ2)))
    (hshape : (evalEachOpt keys C.env).zip ((evalEach values C.env).map fun v => do let x ← v; standAt pos; pure x) = (none, m) :: pairs.map fun p => (some p.1, p.2)) (h0 : pairs ≠ []) (hlen : pairs.length ≤ 15) : EvF C σ (eval (.Dict keys values pos) C.env) Q := by
  refine EvF.intro' fun F mine T s QQ fin hA => ?_
  rw [arm_eval_Dict, hshape]
  refine wpAny_bind (wpAny_standAt ?_)
  unfold dictDisplay
  dsimp only
  rw [List.forIn_cons]
  refine wpAny_bind (wpAny_bind ?_)
  obtain ⟨d, hd⟩ : ∃ d, s.heap.objs.size = d := ⟨_, rfl⟩
  refine wpAny_bind (wpAny_pure (wpAny_bind (wpAny_alloc (wpAny_bind (wpAny_holding ?_)))))
  rw [hd]
  have hn : s.heap.get? d = none := hd ▸ fresh_size _
  have k0 : Kp T s T { s with heap := s.heap.push { cls := .type "dict", data := .dict #[] } } := .push hA.tok (Nat.le_refl _)
  have hd0 : (s.heap.push { cls := .type "dict", data := .dict #[] }).get? d = some { cls := .type "dict", data := .dict #[] } := by rw [← hd]; exact Heap.get?_push_size _ rfl
  obtain ⟨hh, hh0⟩ : ∃ hh, s.heap.push { cls := .type "dict", data := .dict #[] } = hh := ⟨_, rfl⟩
  rw [hh0] at hd0 k0 ⊢
  obtain ⟨a0, le0, hcd, hdm⟩ := hA.lend k0 hn (by show (hh.get? d).isSome = true; rw [hd0]; rfl)
  have hdF : d ∈ F ++ [d] := by simp
  have hds : (d == sysModules) = false := by
    obtain ⟨o, ho⟩ := Option.isSome_iff_exists.mp ok.W.sysm
    have := hA.ownOk.kb _ _ ho
    cases q : d == sysModules with
    | false => rfl
    | true => rw [show d = sysModules by simpa using q, this] at hn; cases hn
  refine Tr.then h a0 fun vm s1 _ σ1 m1 T1 hq_ p1 a1 r1 => ?_
  obtain ⟨es, rfl, hsz, hK⟩ := hq_
  have hd1 : s1.heap.get? d = some { cls := .type "dict", data := .dict #[] } := (p1.far d hdF).trans hd0
  have hs1 : SlotRep C.W (view ((F ++ [d]) ++ m1) T1 s1) s1.heap (.dict d []) (.ref d) := ⟨rfl, [], [], ⟨hds, _, 0, hd1, ⟨rfl, rfl, rfl⟩, rfl⟩, .nil, List.nodup_nil⟩
  cases r1 with
  | @dct a o2 _ ds2 kvs2 n2 h1 h0' h2 h3 r2 hnd =>
  have had : a ≠ d := fun q => view_not h1 (by rw [q]; exact List.mem_append_left _ hdF)
  refine wpAny_bind (wpAny_onRaise (wpAny_tryCatch (wpAny_onRaise (wpAny_holding ?_))))
  refine merge_into (own := (F ++ [d]) ++ m1) (D := d) (es := []) a1.ownOk (List.mem_append_left _ hdF) hs1 had (view_of h1) h0' h2 h3 r2 (by rw [List.length_nil]; omega) fun s2 T2 k2 hs2 => ?_
  obtain ⟨p2, a2⟩ := a1.turnF (ex := [d]) k2.same (fun b o hb e => k2.keep b o (by simpa using hb) e) (fun b hb => by rw [List.mem_singleton.mp hb]; exact k2.live) (fun b hb => by rw [List.mem_singleton.mp hb]; exact hdF)
    (fun x c e q => hcd x c e (List.mem_singleton.mp q)) k2.tle k2.tok
  refine wpAny_pure ?_
  dsimp only
  rw [forIn_gatherS (some d) _ (fun p run h => by
    have hne : ((run ++ [(p.1, p.2)]).length == 17) = false := by simp; omega
    simp only [hne, Bool.false_eq_true, if_false]) pairs [] (by simp; omega)]
  refine wpAny_pure ?_
  rw [List.nil_append]
  have hpe : pairs.isEmpty = false := by cases pairs with | nil => exact absurd rfl h0 | cons => rfl
  simp only [hpe, Bool.false_eq_true, if_false]
  refine wpAny_bind (wpAny_bind (wpAny_holding (wpAny_mono (sub_dict hlen hK ok.W a2) ?_ fun _ _ x => x)))
  rintro b s3 ⟨kvs, σ3, m3, T3, hq, hkl, hnb, hbm, same3, le3, far3, a3, hcb, hs3⟩
  have hbd : b ≠ d := fun q => hbm (by rw [q]; exact List.mem_append_left _ hdF)
  have hs2' : SlotRep C.W (view (((F ++ [d]) ++ [b]) ++ m3) T3 s3) s3.heap (.dict d (dsets [] es)) (.ref d) := hs2.mono le3 fun c hc o e => by cases hc; exact (far3 d hdF).trans e
  obtain ⟨_, ds3, kvs3, ⟨hbs, o3, n3, ho3, hx3, hd3⟩, r3, hnd3⟩ := hs3
  have hl3 : (dsets [] es).length + (dsets [] kvs).length ≤ sizeLine := by
    have e1 := dsets_length [] es
    have e2 := dsets_length [] kvs
    rw [List.length_nil] at e1 e2
    omega
  refine wpAny_bind (wpAny_onRaise (wpAny_holding ?_))
  refine merge_into (own := ((F ++ [d]) ++ [b]) ++ m3) (D := d) a3.ownOk (by simp) hs2' hbd ho3 hbs hx3 hd3 r3 hl3 fun s4 T4 k4 hs4 => ?_
  obtain ⟨p4, a4⟩ := a3.turnF (ex := [d]) k4.same (fun b o hb e => k4.keep b o (by simpa using hb) e) (fun b hb => by rw [List.mem_singleton.mp hb]; exact k4.live) (fun b hb => by rw [List.mem_singleton.mp hb]; simp)
    (fun x c e q => hcd x c e (List.mem_singleton.mp q)) k4.tle k4.tok
  have a5 := a4.dropI hcb
  have sub5 : ∀ c ∈ (F ++ [d]) ++ m3, c ∈ ((F ++ [d]) ++ [b]) ++ m3 := fun c hc => by
    simp only [List.mem_append, List.mem_singleton] at hc ⊢
    rcases hc with h | h
    · exact .inl (.inl h)
    · exact .inr h
  have le5 := view_sub (T := T4) (s := s4) sub5
  obtain ⟨a6, hdm6, le6⟩ := a5.adopt (fun q => hdm (List.mem_append_left _ q)) hcd
  refine wpAny_pure (wpAny_pure (fin _ _ (.dict d (dsets (dsets [] es) (dsets [] kvs))) σ3 m3 d T4 (hq d) rfl ⟨?_, ((((le0.trans p1.le).trans p2.le).trans (le3.trans p4.le)).trans le5).trans le6, fun c hc => ?_⟩ hdm6 a6 (hs4.mono (le5.trans le6) fun _ _ _ e => e)))
  · obtain ⟨h1, t1, rfl⟩ := p1.same
    obtain ⟨h2, t2, rfl⟩ := p2.same
    obtain ⟨h3, t3, rfl⟩ := same3
    obtain ⟨h4, t4, rfl⟩ := p4.same
    exact ⟨h4, t4, rfl⟩
  · have hcd' : c ≠ d := fun q => hdm (by rw [← q]; exact List.mem_append_left _ hc)
    obtain ⟨o, ho⟩ := Option.isSome_iff_exists.mp (hA.live c (List.mem_append_left _ hc))
    rw [ho]
    exact k4.keep c o hcd' ((far3 c (List.mem_append_left _ hc)).trans (k2.keep c o hcd' ((p1.far c (List.mem_append_left _ hc)).trans (k0.keep c o ho))))

theorem evT_stand {e : Expr} {pos : Pos} {Q : V → St → Prop} (h : Ev C σ e Q) : EvT C σ (do let x ← eval e C.env; standAt pos; pure x) Q :=
  fun F mine T s hA => wpAny_bind (wpAny_mono (h F mine T s hA) (fun v s' h' => wpAny_bind (wpAny_standAt (wpAny_pure h'))) fun _ _ x => x)
end
end Sx
end
section
open PySem PySem.W PyProof.Rows PySem.Calls
set_option linter.unusedVariables false
set_option Elab.async false
set_option maxRecDepth 100000
namespace Sx
open Builtin.Str StrLaws

/-! ## texts, in plain Lean -/
/-- where y begins, from place i on, the next k places being taken -/
noncomputable def occR (y : S) : Nat → Nat → S → List Nat
  | i, 0, [] => if y = [] then [i] else []
  | i, _ + 1, [] => []
  | i, k + 1, _ :: r => occR y (i + 1) k r
  | i, 0, c :: r => if y.isPrefixOf (c :: r) then i :: occR y (i + 1) (y.length - 1) r else occR y (i + 1) 0 r

/-- all y by z, y not empty -/
noncomputable def replK (y z : S) : Nat → S → S
  | _, [] => []
  | k + 1, _ :: r => replK y z k r
  | 0, c :: r => if y.isPrefixOf (c :: r) then z ++ replK y z (y.length - 1) r else c :: replK y z 0 r
noncomputable def replE (z : S) (x : S) : S := z ++ x.flatMap fun c => c :: z
noncomputable def repl (y z x : S) : S := if y = [] then replE z x else replK y z 0 x

theorem occR_0 {y : S} {i c : Nat} {r : S} : occR y i 0 (c :: r) = if y.isPrefixOf (c :: r) then i :: occR y (i + 1) (y.length - 1) r else occR y (i + 1) 0 r := by rw [occR]
theorem replK_0 {y z : S} {c : Nat} {r : S} : replK y z 0 (c :: r) = if y.isPrefixOf (c :: r) then z ++ replK y z (y.length - 1) r else c :: replK y z 0 r := by rw [replK]

theorem isPrefixOf_take {y x : S} : y.isPrefixOf x = (decide (y.length ≤ x.length) && (x.take y.length == y)) := by
  rw [Bool.eq_iff_iff, Bool.and_eq_true, decide_eq_true_iff, beq_iff_eq, List.isPrefixOf_iff_prefix]
  constructor
  · intro h
    exact ⟨h.length_le, (List.prefix_iff_eq_take.mp h).symm⟩
  · rintro ⟨h1, h2⟩
    exact List.prefix_iff_eq_take.mpr h2.symm

theorem mkS_length (l : S) : (mkS l).length = l.length := by simp [mkS, Str.length]

theorem prefix_at {x y : S} (i : Nat) (hi : i ≤ x.length) : y.isPrefixOf (x.drop i) = (decide (i + y.length ≤ x.length) && subAt (mkS x) (mkS y) i) := by
  rw [isPrefixOf_take, subAt_eq]
  simp only [mkS_cps, mkS_length, List.length_drop]
  congr 1
  rw [decide_eq_decide]; omega

theorem drop_cons {x : S} {i : Nat} {c : Nat} {r : S} (hx : x.drop i = c :: r) : i < x.length ∧ x.drop (i + 1) = r := by
  constructor
  · have := congrArg List.length hx
    simp at this; omega
  · rw [← List.tail_drop, hx]; rfl

noncomputable def scan (x y : S) : List Nat → Nat → List Nat
  | [], _ => []
  | i :: l, free => if free ≤ i ∧ y.isPrefixOf (x.drop i) = true then i :: scan x y l (i + y.length) else scan x y l free
theorem occ_cond {x y : S} {i : Nat} (hi : i ≤ x.length) : (i + (mkS y).length ≤ x.length ∧ subAt (mkS x) (mkS y) i = true) ↔ y.isPrefixOf (x.drop i) = true := by
  rw [prefix_at i hi, Bool.and_eq_true, decide_eq_true_iff, mkS_length]
theorem occ_scan (x y : S) (limit : Nat) (l : List Nat) : ∀ (found : Array Nat) (free : Nat), (∀ i ∈ l, i ≤ x.length) → found.size + l.length ≤ limit →
    (forIn (m := Id) l (found, free) (occBody (mkS x) (mkS y) x.length limit)).run.fst.toList = found.toList ++ scan x y l free := by
  induction l with
  | nil => intro found free _ _; exact (List.append_nil _).symm
  | cons i l ih =>
    intro found free hl hs
    have hi := occ_cond (y := y) (hl i List.mem_cons_self)
    have hl' := fun j hj => hl j (List.mem_cons_of_mem i hj)
    rw [List.length_cons] at hs
    rw [List.forIn_cons]
    unfold occBody scan
    by_cases c : free ≤ i ∧ y.isPrefixOf (x.drop i) = true
    · rw [if_pos c, if_pos ⟨⟨⟨Nat.lt_of_lt_of_le (Nat.lt_add_of_pos_right (Nat.succ_pos _)) hs, c.1⟩, (hi.mpr c.2).1⟩, (hi.mpr c.2).2⟩]
      refine (ih (found.push i) (i + (mkS y).length) hl' (by rw [Array.size_push, Nat.add_right_comm]; exact hs)).trans ?_
      rw [Array.toList_push, List.append_assoc, mkS_length]; rfl
    · rw [if_neg c, if_neg fun q => c ⟨q.1.1.2, hi.mp ⟨q.1.2, q.2⟩⟩]
      exact ih found free hl' (Nat.le_trans (Nat.add_le_add_left (Nat.le_succ _) _) hs)
theorem scan_occR (x y : S) (r : S) : ∀ (i free : Nat), x.drop i = r → (y = [] → free ≤ i) → scan x y (List.range' i (r.length + 1)) free = occR y i (free - i) r := by
  induction r with
  | nil =>
    intro i free hx hy
    show scan x y [i] free = _
    unfold scan scan
    rw [hx]
    cases hk : free - i with
    | zero =>
      cases y with
      | nil => rw [if_pos ⟨Nat.sub_eq_zero_iff_le.mp hk, rfl⟩]; rfl
      | cons c y => rw [if_neg (fun q => by cases q.2)]; rfl
    | succ k => rw [if_neg (fun q => by rw [Nat.sub_eq_zero_of_le q.1] at hk; cases hk)]; rfl
  | cons c r ih =>
    intro i free hx hy
    have h2 := (drop_cons hx).2
    show scan x y (i :: List.range' (i + 1) (r.length + 1)) free = _
    unfold scan
    rw [hx]
    cases hk : free - i with
    | zero =>
      have hf : free ≤ i := Nat.sub_eq_zero_iff_le.mp hk
      rw [occR_0]
      by_cases hp : y.isPrefixOf (c :: r) = true
      · rw [if_pos ⟨hf, hp⟩, if_pos hp, ih (i + 1) _ h2 (fun e => by rw [e]; exact Nat.le_succ _), Nat.add_sub_add_left]
      · rw [if_neg (fun q => hp q.2), if_neg hp, ih (i + 1) free h2 (fun e => Nat.le_succ_of_le hf), Nat.sub_eq_zero_of_le (Nat.le_succ_of_le hf)]
    | succ k =>
      rw [if_neg (fun q => by rw [Nat.sub_eq_zero_of_le q.1] at hk; cases hk), ih (i + 1) free h2 (fun e => Nat.le_succ_of_le (hy e)), Nat.sub_add_eq, hk]; rfl
theorem occ_all (x y : S) : occurrences (mkS x) (mkS y) 0 (mkS x).length ((mkS x).length + 1) = occR y 0 0 x := by
  rw [occ_eq, mkS_length, Nat.sub_zero]
  refine (occ_scan x y _ (List.range' 0 (x.length + 1)) #[] 0 (fun i hi => Nat.le_of_lt_succ (Nat.lt_of_lt_of_le (List.mem_range'_1.mp hi).2 (Nat.le_of_eq (Nat.zero_add _)))) (by rw [List.length_range']; exact Nat.le_of_eq (Nat.zero_add _))).trans ?_
  exact scan_occR x y x 0 0 rfl fun _ => Nat.le_refl _
theorem sub_S (x : S) (i j : Nat) : strSub (mkS x) i j = mkS ((x.drop i).take (j - i)) := by
  apply Str.ext'
  apply Array.toList_inj.mp
  rw [strSub_toList]
  simp
theorem app_S (a b : S) : mkS a ++ mkS b = mkS (a ++ b) := by
  apply Str.ext'
  rw [Str.cps_append]
  simp [mkS]

theorem parts_go (X y z : S) (l : S) : ∀ (i a : Nat), X.drop i = l → i ≤ X.length → (y = [] → a ≤ i) →
    Str.join (mkS z) (partsFrom (mkS X) y.length a (occR y i (a - i) l)) = mkS ((X.drop a).take (i - a) ++ (if y = [] then z ++ l.flatMap (fun c => c :: z) else replK y z (a - i) l)) := by
  induction l with
  | nil =>
    intro i a hx hi hy
    have hie : i = X.length := Nat.le_antisymm hi (List.drop_eq_nil_iff.mp hx)
    by_cases he : y = []
    · subst he
      rw [if_pos rfl, Nat.sub_eq_zero_of_le (hy rfl)]
      show strSub (mkS X) a i ++ mkS z ++ strSub (mkS X) (i + 0) (mkS X).length = _
      rw [sub_S, sub_S, app_S, app_S, mkS_length, hie, Nat.add_zero, List.drop_length, List.take_nil, List.append_assoc]; rfl
    · have e : occR y i (a - i) [] = [] := by
        cases a - i with
        | zero => exact if_neg he
        | succ k => rfl
      have e2 : replK y z (a - i) [] = [] := by cases a - i <;> rfl
      rw [e, if_neg he, e2, List.append_nil]
      show strSub (mkS X) a (mkS X).length = _
      rw [sub_S, mkS_length, hie]
  | cons c r ih =>
    intro i a hx hi hy
    obtain ⟨h1, h2⟩ := drop_cons hx
    cases hk : a - i with
    | succ k =>
      have hia : i < a := Nat.lt_of_sub_pos (by rw [hk]; exact Nat.succ_pos _)
      have he : y ≠ [] := fun e => Nat.not_le.mpr hia (hy e)
      have ih := ih (i + 1) a h2 h1 (fun e => absurd e he)
      rw [Nat.sub_add_eq, hk] at ih
      rw [if_neg he, Nat.sub_eq_zero_of_le hia] at ih
      rw [if_neg he, Nat.sub_eq_zero_of_le (Nat.le_of_lt hia)]
      exact ih
    | zero =>
      have hai : a ≤ i := Nat.sub_eq_zero_iff_le.mp hk
      by_cases hp : y.isPrefixOf (c :: r) = true
      · have ih := ih (i + 1) (i + y.length) h2 h1 (fun e => by rw [e]; exact Nat.le_succ _)
        rw [Nat.add_sub_add_left] at ih
        rw [occR_0, if_pos hp]
        obtain ⟨p, q, e⟩ := partsFrom_ne (mkS X) y.length (i + y.length) (occR y (i + 1) (y.length - 1) r)
        unfold partsFrom
        rw [e] at ih ⊢
        show strSub (mkS X) a i ++ mkS z ++ Str.join (mkS z) (p :: q) = _
        rw [ih, sub_S, app_S, app_S, List.append_assoc]
        refine congrArg (fun w => mkS ((X.drop a).take (i - a) ++ w)) ?_
        by_cases he : y = []
        · subst he
          rw [if_pos rfl, if_pos rfl]
          show z ++ ((X.drop i).take (i + 1 - i) ++ (z ++ _)) = _
          rw [hx, Nat.add_sub_cancel_left, List.flatMap_cons]; rfl
        · rw [if_neg he, if_neg he, replK_0, if_pos hp, Nat.sub_eq_zero_of_le (Nat.add_le_add_left (List.length_pos_iff.mpr he) i)]; rfl
      · have hne : y ≠ [] := fun e => by rw [e] at hp; exact hp rfl
        have ih := ih (i + 1) a h2 h1 (fun e => absurd e hne)
        rw [Nat.sub_eq_zero_of_le (Nat.le_succ_of_le hai), if_neg hne, Nat.succ_sub hai] at ih
        rw [occR_0, if_neg hp, ih, if_neg hne, replK_0, if_neg hp, List.take_add_one, List.getElem?_drop, Nat.add_sub_cancel' hai, show X[i]? = some c by rw [← List.head?_drop, hx]; rfl, List.append_assoc]; rfl
theorem replK_none {y z : S} (hy : y ≠ []) : ∀ (l : S) (i k : Nat), occR y i k l = [] → replK y z k l = l.drop k
  | [], i, k, h => by simp [replK]
  | c :: r, i, k + 1, h => by
    simp only [occR] at h
    simp only [replK, List.drop_succ_cons]
    exact replK_none hy r (i + 1) k h
  | c :: r, i, 0, h => by
    rw [occR_0] at h
    rw [replK_0]
    by_cases hp : y.isPrefixOf (c :: r) = true
    · rw [if_pos hp] at h; cases h
    · rw [if_neg hp] at h ⊢
      rw [replK_none hy r (i + 1) 0 h]; rfl

theorem replace_S (x y z : S) : Txt.replace (mkS x) (mkS y) (mkS z) = mkS (repl y z x) := by
  unfold Txt.replace
  rw [occ_all, mkS_length, mkS_length]
  by_cases h : ((occR y 0 0 x).isEmpty || (y.length == 0 && z.length == 0)) = true
  · rw [if_pos h]
    congr 1
    unfold repl
    by_cases hy : y = []
    · subst hy
      rw [if_pos rfl]
      rcases Bool.or_eq_true_iff.mp h with h | h
      · cases x with
        | nil => simp [occR] at h
        | cons c r => rw [occR_0] at h; simp at h
      · have hz : z = [] := by simpa using h
        subst hz
        simp [replE]
    · rw [if_neg hy]
      rcases Bool.or_eq_true_iff.mp h with h | h
      · have := replK_none (z := z) hy x 0 0 (by simpa using h)
        simpa using this.symm
      · simp [hy] at h
  · rw [if_neg h, glued_eq_join, partsBetween_eq, show Str.join (mkS z) (partsFrom (mkS x) y.length 0 (occR y 0 0 x)) = _ from parts_go x y z x 0 0 rfl (Nat.zero_le _) (fun _ => Nat.le_refl _), Nat.sub_self]
    unfold repl replE
    by_cases hy : y = []
    · simp [hy]
    · simp [hy]
end Sx
end
section
open PySem PySem.W PyProof.Rows PySem.Calls
set_option linter.unusedVariables false
set_option Elab.async false
set_option maxRecDepth 100000
namespace Sx

/-! ## slices -/
noncomputable def clp (n : Nat) (i : Int) : Nat := if i < 0 then (i + n).toNat else min i.toNat n
noncomputable def slc {α : Type} (lo hi : Option Int) (l : List α) : List α := (l.drop (match lo with | none => 0 | some i => clp l.length i)).take ((match hi with | none => l.length | some i => clp l.length i) - (match lo with | none => 0 | some i => clp l.length i))

theorem clp_nat (n i : Nat) : clp n (i : Int) = min i n := if_neg (Int.not_lt.mpr (Int.natCast_nonneg i))
theorem clp_neg {n : Nat} {i : Int} (h : i < 0) : clp n i = (i + n).toNat := if_pos h
theorem clp_le (n : Nat) (i : Int) : clp n i ≤ n := by
  rcases Int.lt_or_le i 0 with h | h
  · rw [clp_neg h]; exact Int.toNat_le.mpr (Int.le_trans (Int.add_le_add_right (Int.le_of_lt h) _) (Int.le_of_eq (Int.zero_add _)))
  · obtain ⟨m, rfl⟩ := Int.eq_ofNat_of_zero_le h
    rw [clp_nat]; exact Nat.min_le_right _ _
theorem clip_eq (n : Nat) (i : Int) : max (0 : Int) (min (if i < 0 then i + n else i) n) = (clp n i : Int) := by
  rcases Int.lt_or_le i 0 with h | h
  · rw [clp_neg h, if_pos h, Int.min_eq_left (Int.le_trans (Int.add_le_add_right (Int.le_of_lt h) _) (Int.le_of_eq (Int.zero_add _))), Int.max_comm, Int.ofNat_toNat]
  · obtain ⟨m, rfl⟩ := Int.eq_ofNat_of_zero_le h
    rw [clp_nat, if_neg (Int.not_lt.mpr h), Int.max_eq_right (Int.le_min.mpr ⟨h, Int.natCast_nonneg n⟩)]
    rcases Nat.le_total m n with k | k
    · rw [Nat.min_eq_left k]; exact Int.min_eq_left (Int.ofNat_le.mpr k)
    · rw [Nat.min_eq_right k]; exact Int.min_eq_right (Int.ofNat_le.mpr k)
theorem rng_len {a b : Nat} : (((b : Int) - a + 1 - 1) / 1).toNat = b - a := by rw [Int.ediv_one, Int.add_sub_cancel]; exact Int.toNat_sub b a
theorem sliceRange_eq (a b : Nat) : sliceRange (a : Int) (b : Int) 1 = (List.range (b - a)).map (fun (i : Nat) => ((a : Int) + 1 * (i : Int)).toNat) := by
  unfold sliceRange
  by_cases h : (a : Int) < b
  · rw [if_pos (by decide), if_pos h]; exact congrArg (fun n => (List.range n).map fun (k : Nat) => ((a : Int) + 1 * (k : Int)).toNat) rng_len
  · rw [if_pos (by decide), if_neg h, Nat.sub_eq_zero_of_le (Int.ofNat_le.mp (Int.not_lt.mp h))]; rfl
theorem picks_any {α : Type} (l : List α) (a b : Nat) (hb : b ≤ l.length) : ((sliceRange a b 1).filterMap (l[·]?)) = (l.drop a).take (b - a) := by
  rw [sliceRange_eq]
  rcases Nat.le_total a b with h | h
  · rw [← StrLaws.picks l (b - a) a (by rw [Nat.add_sub_cancel' h]; exact hb)]
    congr 1
    refine List.map_congr_left fun k _ => ?_
    rw [Int.one_mul]; rfl
  · rw [Nat.sub_eq_zero_of_le h]; rfl
theorem slc_str (x : S) (lo hi : Option Int) : (Builtin.Str.strSliceIndices lo hi 1 x.length).filterMap (x[·]?) = slc lo hi x := by
  have key : ∀ a b : Nat, b ≤ x.length → (sliceRange (a : Int) (b : Int) 1).filterMap (x[·]?) = (x.drop a).take (b - a) := fun a b hb => picks_any x a b hb
  unfold Builtin.Str.strSliceIndices slc
  simp only [show ((1 : Int) > 0) = True from by simp, if_true]
  cases lo with
  | none => cases hi with
    | none => exact key 0 x.length (Nat.le_refl _)
    | some j => simp only [clip_eq]; exact key 0 _ (clp_le _ _)
  | some i => cases hi with
    | none => simp only [clip_eq]; exact key _ x.length (Nat.le_refl _)
    | some j => simp only [clip_eq]; exact key _ _ (clp_le _ _)
theorem range_len {α : Type} (l : List α) (a b : Nat) (hb : b ≤ l.length) : (sliceRange a b 1).length = ((l.drop a).take (b - a)).length := by
  rw [sliceRange_eq, List.length_map, List.length_range, List.length_take, List.length_drop, Nat.min_eq_left (Nat.sub_le_sub_right hb a)]
theorem slc_str_len (x : S) (lo hi : Option Int) : (Builtin.Str.strSliceIndices lo hi 1 x.length).length = (slc lo hi x).length := by
  have key : ∀ a b : Nat, b ≤ x.length → (sliceRange (a : Int) (b : Int) 1).length = ((x.drop a).take (b - a)).length := fun a b hb => range_len x a b hb
  unfold Builtin.Str.strSliceIndices slc
  simp only [show ((1 : Int) > 0) = True from by simp, if_true]
  cases lo with
  | none => cases hi with
    | none => exact key 0 x.length (Nat.le_refl _)
    | some j => simp only [clip_eq]; exact key 0 _ (clp_le _ _)
  | some i => cases hi with
    | none => simp only [clip_eq]; exact key _ x.length (Nat.le_refl _)
    | some j => simp only [clip_eq]; exact key _ _ (clp_le _ _)
theorem slc_whole {α : Type} (x : List α) (lo hi : Option Int) (h : (slc lo hi x).length = x.length) : slc lo hi x = x := by
  have hs : List.Sublist (slc lo hi x) x := by unfold slc; exact (List.take_sublist _ _).trans (List.drop_sublist _ _)
  exact hs.eq_of_length h
theorem slc_list (ws : List Value) (lo hi : Option Int) : slicePick ws.toArray lo hi none = (slc lo hi ws).toArray := by
  unfold slicePick sliceBounds slc
  simp only [Option.getD_none, show ((1 : Int) > 0) = True from by simp, if_true, List.size_toArray, List.getElem?_toArray]
  cases lo with
  | none => cases hi with
    | none => rw [← picks_any ws 0 ws.length (Nat.le_refl _)]; rfl
    | some j => simp only [clip_eq]; rw [← picks_any ws 0 _ (clp_le _ _)]; rfl
  | some i => cases hi with
    | none => simp only [clip_eq]; rw [← picks_any ws _ ws.length (Nat.le_refl _)]
    | some j => simp only [clip_eq]; rw [← picks_any ws _ _ (clp_le _ _)]
theorem slc_length {α : Type} (lo hi : Option Int) (x : List α) : (slc lo hi x).length ≤ x.length := by
  unfold slc; rw [List.length_take]; exact Nat.le_trans (Nat.min_le_right _ _) (by rw [List.length_drop]; exact Nat.sub_le _ _)
theorem RepL.slc {W : Wd} {g : PH} {vs : List V} {ws : List Value} (h : RepL W g vs ws) (lo hi : Option Int) : RepL W g (Sx.slc lo hi vs) (Sx.slc lo hi ws) := by
  unfold Sx.slc
  rw [h.length]
  exact (h.drop _).take _

section
variable {C : Cx} {σ : St}

noncomputable def EvP (C : Cx) (σ : St) (e : Option Expr) (Q : Option Int → St → Prop) : Prop := match e with
  | none => Q none σ
  | some e => Ev C σ e (fun v σ1 => ∃ i, v = .int i ∧ Q (some i) σ1)

theorem evP_run {e : Option Expr} {Q : Option Int → St → Prop} (h : EvP C σ e Q) {F mine : List Addr} {T : TM} {s : Shared} (hA : Abs C F mine T σ s) :
    wpAny C.M C.A (evalPart e C.env) (fun v s' => ∃ p σ' mine' T', Q (p.map (·.1)) σ' ∧ v = partValue p ∧ Post F mine T s mine' T' s' ∧ Abs C F mine' T' σ' s') C.X s := by
  cases e with
  | none => exact wpAny_evalPart_none ⟨none, σ, mine, T, h, rfl, .refl _ _ _ _, hA⟩
  | some e =>
    refine wpAny_evalPart_some (Tr.then h hA fun v s1 _ σ1 m1 T1 hq_ p1 a1 r1 => ?_)
    obtain ⟨i, rfl, hq⟩ := hq_
    cases r1
    rename_i t
    exact ⟨some (i, t), σ1, m1, T1, hq, rfl, p1, a1⟩

theorem slice_made {own : List Addr} {T : TM} {s : Shared} {l : S} {t : Tok} {lo hi : Option (Int × Tok)} {K : V → Prop} (hO : OwnOk C own T s) (ht : T t = some l) (hl : l.length ≤ sizeLine) (h : K (.str (slc (lo.map (·.1)) (hi.map (·.1)) l))) {s0 : Shared} {T0 : TM} (hk : Kp T0 s0 T s)
    {Q : Value → Shared → Prop} (hQ : ∀ v s', Out own T0 s0 (Rep C.W) K v s' → Q v s') : (sliceMade (mkS l) t lo hi none).post Q s := by
  have e1 : (slicePicked (mkS l) lo hi none).filterMap ((mkS l).cps[·]?) = slc (lo.map (·.1)) (hi.map (·.1)) l := by
    rw [← slc_str]
    unfold slicePicked
    rw [mkS_length]
    simp [mkS]
  have hlen : (slicePicked (mkS l) lo hi none).length = (slc (lo.map (·.1)) (hi.map (·.1)) l).length := by
    rw [← slc_str_len]
    unfold slicePicked
    rw [mkS_length]; rfl
  unfold sliceMade
  by_cases hc : (((none : Option (Int × Tok)).map (·.1)).getD 1 == 1 && (slicePicked (mkS l) lo hi none).length == (mkS l).length) = true
  · rw [if_pos hc]
    have h2 : (slc (lo.map (·.1)) (hi.map (·.1)) l).length = l.length := by
      rw [← hlen]
      have := (Bool.and_eq_true _ _ ▸ hc).2
      rw [mkS_length] at this
      simpa using this
    have h3 := slc_whole l _ _ h2
    exact hQ _ _ ⟨_, T, h, hk, by rw [h3]; exact .str ht⟩
  · rw [if_neg hc, e1]
    refine ⟨by show (mkS _).length ≤ sizeLine; rw [mkS_length]; exact Nat.le_trans (slc_length _ _ _) hl, hQ _ _ ⟨_, _, h, hk.trans (.str (h' := s.heap) hO.tok fun _ _ e => e), .str TM.upd_self⟩⟩

theorem isPart_of (p : Option (Int × Tok)) : IsPart (partValue p) (p.map (·.1)) := by
  cases p with
  | none => exact .none
  | some x => obtain ⟨i, t⟩ := x; exact .int i t

/-- l[lo:hi], a list: a new one -/
theorem evF_slice_list {value : Expr} {lower upper : Option Expr} {p pos : Pos} {Q : Slot → St → Prop}
    (h : Ev C σ value (fun a σ1 => ∃ l, a = .lst l ∧ l.length ≤ sizeLine ∧ EvP C σ1 lower (fun lo σ2 => EvP C σ2 upper (fun hi σ3 => ∀ a, Q (.list a (slc lo hi l)) σ3))))
    (ht : ∀ o r, letTemporaryGo value o r = pure () := by intro _ _; rfl) : EvF C σ (eval (.Subscript value (.Slice lower upper none p) pos) C.env) Q := by
  intro F mine T s hA
  refine wpAny_Subscript_list_slice (Tr.then h hA fun va s1 _ σ1 m1 T1 hq_ p1 a1 r1 => ?_) ht
  obtain ⟨l, rfl, hl, hlo⟩ := hq_
  refine wpAny_mono (evP_run hlo a1) ?_ fun _ _ x => x
  rintro vl s2 ⟨lo, σ2, m2, T2, hhi, rfl, p2, a2⟩
  refine wpAny_mono (evP_run hhi a2) ?_ fun _ _ x => x
  rintro vu s3 ⟨hi, σ3, m3, T3, hq, rfl, p3, a3⟩
  cases r1.mono (p2.le.trans p3.le) with
  | @lst a o _ ws n h1 h2 h3 h4 r =>
  refine ⟨a, ws.toArray, lo.map (·.1), hi.map (·.1), rfl, ⟨o, view_of h1, h2, n, h4⟩, by rw [List.size_toArray, r.length]; exact hl, isPart_of lo, isPart_of hi, ?_⟩
  rw [slc_list]
  have k1 : Kp T3 s3 T3 { s3 with heap := s3.heap.push { cls := .type "slice", data := .fields #[partValue lo, partValue hi, .none] } } := .push a3.tok (Nat.le_refl _)
  obtain ⟨h1', hh1⟩ : ∃ h1', s3.heap.push { cls := .type "slice", data := .fields #[partValue lo, partValue hi, .none] } = h1' := ⟨_, rfl⟩
  have hz : s3.heap.objs.size + 1 = h1'.objs.size := by rw [← hh1, Heap.size_push]
  rw [hh1] at k1 ⊢
  rw [hz]
  have k2 : Kp T3 { s3 with heap := h1' } T3 { s3 with heap := h1'.push { cls := .type "list", data := .seq (slc (lo.map (·.1)) (hi.map (·.1)) ws).toArray } } := Kp.push (s := { s3 with heap := h1' }) (tk := s3.toks) k1.tok (Nat.le_refl _)
  have hn : s3.heap.get? h1'.objs.size = none := get_ge (by omega)
  have k12 := k1.trans k2
  obtain ⟨p4, hm, a4, le⟩ := a3.new k12 hn (by show ((h1'.push _).get? h1'.objs.size).isSome = true; rw [Heap.get?_push_size _ rfl]; rfl)
  refine ⟨.list h1'.objs.size (slc (lo.map (·.1)) (hi.map (·.1)) l), σ3, m3, h1'.objs.size, T3, hq _, rfl, (p1.trans (p2.trans p3)).trans p4, hm, a4, rfl, _, ⟨0, Heap.get?_push_size _ rfl⟩, ?_⟩
  exact (r.slc _ _).mono p4.le
end
end Sx
end
section
open PySem PySem.W PyProof.Rows PySem.Calls
set_option linter.unusedVariables false
set_option Elab.async false
set_option maxRecDepth 100000
namespace Sx

section
variable {C : Cx}
/-! ## numbers -/
theorem op_add_int {a b : Int} {K : V → Prop} (h : K (.int (a + b))) : Op2 C (Rep C.W) (binaryOp .Add) (.int a) (.int b) K := fun own T s va vb hO ra rb => by
  obtain ⟨_, rfl⟩ := ra.int_inv; obtain ⟨_, rfl⟩ := rb.int_inv; exact PyProof.Rows.add_int (.int hO.tok h (Nat.le_succ _))
theorem op_sub_int {a b : Int} {K : V → Prop} (h : K (.int (a - b))) : Op2 C (Rep C.W) (binaryOp .Sub) (.int a) (.int b) K := fun own T s va vb hO ra rb => by
  obtain ⟨_, rfl⟩ := ra.int_inv; obtain ⟨_, rfl⟩ := rb.int_inv; exact PyProof.Rows.sub_int' (.int hO.tok h (Nat.le_succ _))
theorem op_iadd_int {a b : Int} {K : V → Prop} (h : K (.int (a + b))) : Op2 C (Rep C.W) (inplaceOp .Add) (.int a) (.int b) K := fun own T s va vb hO ra rb => by
  obtain ⟨_, rfl⟩ := ra.int_inv; obtain ⟨_, rfl⟩ := rb.int_inv; exact PySem.P.iadd_int (.int hO.tok h (Nat.le_succ _))
theorem op_mod_int {a b : Int} {K : V → Prop} (hb : b ≠ 0) (h : K (.int (a.fmod b))) : Op2 C (Rep C.W) (binaryOp .Mod) (.int a) (.int b) K := fun own T s va vb hO ra rb => by
  obtain ⟨_, rfl⟩ := ra.int_inv; obtain ⟨_, rfl⟩ := rb.int_inv; exact PyProof.Rows.mod_int' hb (.int hO.tok h (Nat.le_succ _))
theorem op_div_int {a b : Int} {K : V → Prop} (hb : b ≠ 0) (hs : Builtin.divisionGoesByPylong a b = false) (h : K (.int (a.fdiv b))) : Op2 C (Rep C.W) (binaryOp .FloorDiv) (.int a) (.int b) K := fun own T s va vb hO ra rb => by
  obtain ⟨_, rfl⟩ := ra.int_inv; obtain ⟨_, rfl⟩ := rb.int_inv; exact PyProof.Rows.floordiv_int hb (.int hO.tok h (Nat.le_succ _)) (.inl hs)
theorem op_eq_int {a b : Int} {K : V → Prop} (h : K (.bool (a == b))) : Op2 C (Rep C.W) (compareOp .Eq) (.int a) (.int b) K := fun own T s va vb hO ra rb => by
  obtain ⟨_, rfl⟩ := ra.int_inv; obtain ⟨_, rfl⟩ := rb.int_inv; exact PySem.P.eq_int (.same hO.tok h (.bool _))
theorem op_ne_int {a b : Int} {K : V → Prop} (h : K (.bool (a != b))) : Op2 C (Rep C.W) (compareOp .NotEq) (.int a) (.int b) K := fun own T s va vb hO ra rb => by
  obtain ⟨_, rfl⟩ := ra.int_inv; obtain ⟨_, rfl⟩ := rb.int_inv; exact PySem.P.ne_int (.same hO.tok h (.bool _))
theorem op_lt_int {a b : Int} {K : V → Prop} (h : K (.bool (decide (a < b)))) : Op2 C (Rep C.W) (compareOp .Lt) (.int a) (.int b) K := fun own T s va vb hO ra rb => by
  obtain ⟨_, rfl⟩ := ra.int_inv; obtain ⟨_, rfl⟩ := rb.int_inv; exact PySem.P.lt_int (.same hO.tok h (.bool _))
/-! ## texts -/
theorem op_eq_str {a b : S} {K : V → Prop} (h : K (.bool (decide (a = b)))) : Op2 C (Rep C.W) (compareOp .Eq) (.str a) (.str b) K := fun own T s va vb hO ra rb => by
  obtain ⟨_, rfl, _⟩ := ra.str_inv; obtain ⟨_, rfl, _⟩ := rb.str_inv
  refine PySem.P.eq_str (.same hO.tok h ?_)
  have e : ((mkS a).cps.toList == (mkS b).cps.toList) = decide (a = b) := by rw [Bool.eq_iff_iff]; simp
  rw [e]; exact .bool _
theorem op_ne_str {a b : S} {K : V → Prop} (h : K (.bool (!decide (a = b)))) : Op2 C (Rep C.W) (compareOp .NotEq) (.str a) (.str b) K := fun own T s va vb hO ra rb => by
  obtain ⟨_, rfl, _⟩ := ra.str_inv; obtain ⟨_, rfl, _⟩ := rb.str_inv
  refine PySem.P.ne_str (.same hO.tok h ?_)
  have e : ((mkS a).cps.toList != (mkS b).cps.toList) = !decide (a = b) := by rw [Bool.eq_iff_iff]; simp
  rw [e]; exact .bool _
theorem add_made {own : List Addr} {T : TM} {s : Shared} {a b : S} {t u : Tok} {K : V → Prop} (hO : OwnOk C own T s) (ha : T t = some a) (hb : T u = some b) (hl : a.length + b.length ≤ sizeLine) (h : K (.str (a ++ b))) :
    (if (mkS a).length == 0 then Made.val (.str (mkS b) u) else if (mkS b).length == 0 then Made.val (.str (mkS a) t) else Made.str (mkS a ++ mkS b)).post (Out own T s (Rep C.W) K) s := by
  rw [mkS_length, mkS_length]
  by_cases h1 : (a.length == 0) = true
  · rw [if_pos h1]
    have : a = [] := by simpa using h1
    subst this
    exact .same hO.tok h (.str hb)
  · rw [if_neg h1]
    by_cases h2 : (b.length == 0) = true
    · rw [if_pos h2]
      have : b = [] := by simpa using h2
      subst this
      rw [List.append_nil] at h
      exact .same hO.tok h (.str ha)
    · rw [if_neg h2, app_S]
      exact ⟨by show (mkS _).length ≤ sizeLine; rw [mkS_length, List.length_append]; exact hl, .strNew hO.tok h⟩
theorem op_add_str {a b : S} {K : V → Prop} (hl : a.length + b.length ≤ sizeLine) (h : K (.str (a ++ b))) : Op2 C (Rep C.W) (binaryOp .Add) (.str a) (.str b) K := fun own T s va vb hO ra rb => by
  obtain ⟨_, rfl, _⟩ := ra.str_inv; obtain ⟨_, rfl, _⟩ := rb.str_inv; rename_i t ht u hu
  exact PySem.P.add_str (add_made hO ht hu hl h)
theorem op_iadd_str {a b : S} {K : V → Prop} (hl : a.length + b.length ≤ sizeLine) (h : K (.str (a ++ b))) : Op2 C (Rep C.W) (inplaceOp .Add) (.str a) (.str b) K := fun own T s va vb hO ra rb => by
  obtain ⟨_, rfl, _⟩ := ra.str_inv; obtain ⟨_, rfl, _⟩ := rb.str_inv; rename_i t ht u hu
  exact PySem.P.iadd_str (add_made hO ht hu hl h)

/-- y somewhere in x -/
noncomputable def hasSub (y : S) : S → Bool
  | [] => y.isEmpty
  | c :: r => y.isPrefixOf (c :: r) || hasSub y r
theorem hasSub_iff (y x : S) : hasSub y x = true ↔ ∃ i, i ≤ x.length ∧ y.isPrefixOf (x.drop i) = true := by
  induction x with
  | nil => cases y <;> simp [hasSub]
  | cons c r ih =>
    simp only [hasSub, Bool.or_eq_true, ih]
    constructor
    · rintro (h | ⟨i, h1, h2⟩)
      · exact ⟨0, Nat.zero_le _, h⟩
      · exact ⟨i + 1, by simp; omega, h2⟩
    · rintro ⟨i, h1, h2⟩
      cases i with
      | zero => exact .inl h2
      | succ i => exact .inr ⟨i, by simpa using h1, h2⟩
theorem hasSub_S (y x : S) : (!(Builtin.Str.occurrences (mkS x) (mkS y) 0 (mkS x).length 1).isEmpty) = hasSub y x := by
  rw [Bool.eq_iff_iff, StrLaws.found_iff, hasSub_iff]
  constructor
  · rintro ⟨i, h1, h2⟩
    rw [mkS_length, mkS_length] at h1
    refine ⟨i, by omega, ?_⟩
    rw [prefix_at i (by omega), h2, decide_eq_true h1]; rfl
  · rintro ⟨i, h1, h2⟩
    rw [prefix_at i h1, Bool.and_eq_true, decide_eq_true_iff] at h2
    exact ⟨i, by rw [mkS_length, mkS_length]; exact h2.1, h2.2⟩
theorem op_in_str {a b : S} {K : V → Prop} (h : K (.bool (hasSub a b))) : Op2 C (Rep C.W) (compareOp .In) (.str a) (.str b) K := fun own T s va vb hO ra rb => by
  obtain ⟨_, rfl, _⟩ := ra.str_inv; obtain ⟨_, rfl, _⟩ := rb.str_inv
  refine PySem.P.in_str (.same hO.tok h ?_)
  rw [hasSub_S]; exact .bool _
theorem op_notIn_str {a b : S} {K : V → Prop} (h : K (.bool (!hasSub a b))) : Op2 C (Rep C.W) (compareOp .NotIn) (.str a) (.str b) K := fun own T s va vb hO ra rb => by
  obtain ⟨_, rfl, _⟩ := ra.str_inv; obtain ⟨_, rfl, _⟩ := rb.str_inv
  refine PySem.P.notIn_str (.same hO.tok h ?_)
  rw [hasSub_S]; exact .bool _

theorem opL_len_str {l : S} {K : V → Prop} (hl : l.length ≤ sizeLine) (h : K (.int l.length)) : OpL C (Rep C.W) (fun ws => call (.builtin "len") ws) [.str l] K := fun own T s vs hO hr => by
  obtain ⟨_, _, rfl, r, hr⟩ := hr.cons_inv
  obtain rfl := hr.nil_inv; obtain ⟨_, rfl, _⟩ := r.str_inv
  refine PySem.P.len_str (by rw [mkS_length]; have : sizeLine = 2 ^ 24 := by rw [sizeLine_eq]
                             omega) ?_
  rw [mkS_length]
  exact .int hO.tok h (by omega)

theorem op_item_str {l : S} {i : Int} {c : Nat} {K : V → Prop} (h0 : -(l.length : Int) ≤ i) (hi : i < l.length) (hl : l.length ≤ sizeLine) (hc : l[(if i < 0 then i + l.length else i).toNat]? = some c) (h : K (.str [c])) : Op2 C (Rep C.W) getItem (.str l) (.int i) K := fun own T s va vb hO ra rb => by
  obtain ⟨_, rfl, _⟩ := ra.str_inv; obtain ⟨_, rfl⟩ := rb.int_inv
  have hsz : sizeLine = 2 ^ 24 := by rw [sizeLine_eq]
  refine PySem.P.getItem_str (c := c) ?_ ?_ (.strNew (l := [c]) hO.tok h)
  · rw [Bool.or_eq_false_iff]; exact ⟨decide_eq_false (by omega), decide_eq_false (by omega)⟩
  · rw [mkS_length]
    by_cases hn : i < 0
    · rw [StrLaws.seqIndex_neg hn h0]
      rw [if_pos hn] at hc
      show (mkS l).cps[(i + l.length).toNat]? = some c
      simpa [mkS] using hc
    · rw [StrLaws.seqIndex_nonneg (by omega) hi]
      rw [if_neg hn] at hc
      show (mkS l).cps[i.toNat]? = some c
      simpa [mkS] using hc

/-- data.replace(old, new) -/
theorem opL_replace {x y z : S} {K : V → Prop} (hyz : y ≠ z ∨ (y = [] ∧ z = [])) (hl : x.length + (x.length + 1) * z.length ≤ sizeLine) (h : K (.str (repl y z x))) :
    OpL C (Rep C.W) (fun ws => call (.builtin "str.replace") ws) [.str x, .str y, .str z] K := fun own T s vs hO hr => by
  obtain ⟨_, _, rfl, r1, hr⟩ := hr.cons_inv
  obtain ⟨_, _, rfl, r2, hr⟩ := hr.cons_inv
  obtain ⟨_, _, rfl, r3, hr⟩ := hr.cons_inv
  obtain rfl := hr.nil_inv; obtain ⟨t, rfl, ht⟩ := r1.str_inv; obtain ⟨u, rfl, hu⟩ := r2.str_inv; obtain ⟨v, rfl, hv⟩ := r3.str_inv
  have hu0 := (hO.tok.lt u y hu).1
  have hv0 := (hO.tok.lt v z hv).1
  rcases hyz with hyz | ⟨rfl, rfl⟩
  · have huv : u ≠ v := fun e => hyz (by
      have hu : T u = some y := hu
      have hv : T v = some z := hv
      rw [e, hv] at hu; injection hu with hu; exact hu.symm)
    refine call_gives PySem.F.slot_str_replace (typeIs_str _ _ _) PySem.F.entry_str_replace (PySem.F.args_str_replace_3 _ _ _)
      (gives_str_replace (mkS x) (mkS y) (mkS z) t u v fun _ => ⟨?_, by simpa using huv, ?_, ?_⟩) ?_
    · rw [Bool.or_eq_false_iff]; exact ⟨beq_eq_false_iff_ne.mpr (Nat.ne_of_gt hu0), beq_eq_false_iff_ne.mpr (Nat.ne_of_gt hv0)⟩
    · simp only [beq_eq_false_iff_ne]; exact fun e => hyz (mkS_inj e)
    · have h1 := StrLaws.occ_length_le (mkS x) (mkS y) 0 (mkS x).length ((mkS x).length + 1)
      have h2 : (Builtin.Str.occurrences (mkS x) (mkS y) 0 (mkS x).length ((mkS x).length + 1)).length * z.length ≤ ((mkS x).length + 1) * z.length := Nat.mul_le_mul_right _ h1
      rw [mkS_length] at h2
      unfold Builtin.Str.tooLong
      rw [mkS_length, mkS_length]
      exact decide_eq_false (by omega)
    · have e := replace_S x y z
      unfold Txt.replace at e
      by_cases hc : ((Builtin.Str.occurrences (mkS x) (mkS y) 0 (mkS x).length ((mkS x).length + 1)).isEmpty || ((mkS y).length == 0 && (mkS z).length == 0)) = true
      · rw [if_pos hc] at e ⊢
        have := mkS_inj e
        exact ⟨_, T, h, .refl hO.tok, by rw [← this]; exact .str ht⟩
      · rw [if_neg hc] at e ⊢
        refine ⟨?_, ?_⟩
        · rw [e]
          have hf := fits_replaced (x := mkS x) (z := mkS z) (mkS y) (by rw [mkS_length, mkS_length]; have : sizeLine = 16777216 := sizeLine_eq
                                                                         omega)
          rw [e] at hf; exact hf
        · rw [e]; exact .strNew hO.tok h
  · refine call_gives PySem.F.slot_str_replace (typeIs_str _ _ _) PySem.F.entry_str_replace (PySem.F.args_str_replace_3 _ _ _)
      (gives_str_replace (mkS x) (mkS []) (mkS []) t u v fun hc => ?_) ?_
    · rw [Bool.or_eq_false_iff] at hc
      exact absurd hc.2 (by rw [mkS_length]; decide)
    · rw [if_pos (by rw [Bool.or_eq_true]; exact .inr rfl)]
      refine ⟨_, T, h, .refl hO.tok, ?_⟩
      have e : repl [] [] x = x := by simp [repl, replE]
      rw [e]; exact .str ht
end
end Sx
end
section
open PySem PySem.W PyProof.Rows PySem.Calls
set_option linter.unusedVariables false
set_option Elab.async false
set_option maxRecDepth 100000
namespace Sx
open Builtin.Str

noncomputable def joinS (sep : S) : List S → S
  | [] => []
  | [x] => x
  | x :: y :: r => x ++ sep ++ joinS sep (y :: r)
theorem joinS_nil : ∀ ls : List S, joinS [] ls = ls.flatten
  | [] => rfl
  | [x] => by simp [joinS]
  | x :: y :: r => by rw [joinS, joinS_nil (y :: r)]; simp
theorem join_S (sep : S) : ∀ ls : List S, Str.join (mkS sep) (ls.map mkS) = mkS (joinS sep ls)
  | [] => rfl
  | [x] => rfl
  | x :: y :: r => by
    show mkS x ++ mkS sep ++ Str.join (mkS sep) ((y :: r).map mkS) = _
    rw [join_S sep (y :: r), app_S, app_S]; rfl

theorem strs_of {W : Wd} {g : PH} : ∀ (ls : List S) (ws : List Value), RepL W g (ls.map V.str) ws → ∃ l : List (Str × Tok), ws = strValues l ∧ l.map (·.1) = ls.map mkS ∧ ∀ x ∈ l, ∃ s, x.1 = mkS s ∧ g.tk x.2 = some s
  | [], ws, h => by obtain rfl := h.nil_inv; exact ⟨[], rfl, rfl, fun x hx => by cases hx⟩
  | s :: ls, ws, h => by
    obtain ⟨_, _, rfl, h1, h2⟩ := h.cons_inv
    obtain ⟨t, rfl, ht⟩ := h1.str_inv
    obtain ⟨l, rfl, e, h3⟩ := strs_of ls _ h2
    refine ⟨(mkS s, t) :: l, rfl, by simp [e], fun x hx => ?_⟩
    rcases List.mem_cons.mp hx with rfl | hx
    · exact ⟨s, rfl, ht⟩
    · exact h3 x hx

section
variable {C : Cx}
theorem join_post {own : List Addr} {T : TM} {s : Shared} {s0 : Shared} {T0 : TM} (hO : OwnOk C own T s) (hk : Kp T0 s0 T s) {sep : S} {ls : List S} {l : List (Str × Tok)} (he : l.map (·.1) = ls.map mkS) (ht : ∀ x ∈ l, ∃ s, x.1 = mkS s ∧ T x.2 = some s)
    (hl : (ls.map List.length).sum + ls.length * sep.length ≤ sizeLine) {K : V → Prop} (h : K (.str (joinS sep ls))) {Q : Value → Shared → Prop} (hQ : ∀ v s', Out own T0 s0 (Rep C.W) K v s' → Q v s') : (joinMade (mkS sep) l).post Q s := by
  have hlen : ∀ ls : List S, (joinS sep ls).length ≤ (ls.map List.length).sum + ls.length * sep.length := by
    intro ls
    induction ls with
    | nil => simp [joinS]
    | cons a r ih =>
      cases r with
      | nil => simp [joinS]
      | cons b r =>
        simp only [joinS, List.length_append, List.map_cons, List.sum_cons, List.length_cons] at ih ⊢
        have : (r.length + 1 + 1) * sep.length = (r.length + 1) * sep.length + sep.length := by rw [Nat.succ_mul]
        omega
  have big : ∀ l : List (Str × Tok), l.map (·.1) = ls.map mkS → (Made.str (glued (mkS sep) (l.map (·.1)))).post Q s := by
    intro l he
    rw [he, StrLaws.glued_eq_join, join_S]
    exact ⟨by show (mkS _).length ≤ sizeLine; rw [mkS_length]; exact Nat.le_trans (hlen ls) hl, hQ _ _ ⟨_, _, h, hk.trans (.str (h' := s.heap) hO.tok fun _ _ e => e), .str TM.upd_self⟩⟩
  match l, he, ht with
  | [], he, ht => exact big [] he
  | [p], he, ht =>
    obtain ⟨x, t⟩ := p
    obtain ⟨s1, h1, h2⟩ := ht _ List.mem_cons_self
    match ls, he, h with
    | [y], he, h =>
      have hx : x = mkS y := by simpa using he
      have h1 : x = mkS s1 := h1
      have : s1 = y := mkS_inj (h1.symm.trans hx)
      subst this
      subst hx
      exact hQ _ _ ⟨_, T, h, hk, .str h2⟩
    | [], he, h => simp at he
    | _ :: _ :: _, he, h => simp at he
  | p :: q :: r, he, ht => exact big (p :: q :: r) he

theorem join_fits {sep : S} {ls : List S} {l : List (Str × Tok)} (he : l.map (·.1) = ls.map mkS) (hl : (ls.map List.length).sum + ls.length * sep.length ≤ sizeLine) : tooLong ((l.map (·.1)).toArray.foldl (· + ·.length + (mkS sep).length) 0) = false := by
  rw [StrLaws.joinTotal, he]
  have e1 : ((ls.map mkS).map Str.length).sum = (ls.map List.length).sum := by rw [List.map_map]; exact congrArg List.sum (List.map_congr_left fun a _ => mkS_length a)
  unfold tooLong
  rw [e1, List.length_map, mkS_length]
  exact decide_eq_false (by omega)

theorem opL_join_list {sep : S} {ls : List S} {K : V → Prop} (hl : (ls.map List.length).sum + ls.length * sep.length ≤ sizeLine) (h : K (.str (joinS sep ls))) :
    OpL C (Rep C.W) (fun ws => call (.builtin "str.join") ws) [.str sep, .lst (ls.map V.str)] K := fun own T s vs hO hr => by
  obtain ⟨_, _, rfl, r1, hr⟩ := hr.cons_inv
  obtain ⟨_, _, rfl, r2, hr⟩ := hr.cons_inv
  obtain rfl := hr.nil_inv; obtain ⟨t, rfl, ht⟩ := r1.str_inv
  obtain ⟨a, o, ws, n, rfl, h1, h2, h3, h4, r⟩ := r2.lst_inv
  obtain ⟨l, rfl, he, hT⟩ := strs_of ls ws r
  exact call_meets PySem.F.slot_str_join (typeIs_str _ _ _) PySem.F.entry_str_join (PySem.F.args_str_join_2 _ _) (meets_str_join_list (mkS sep) t a l (join_fits he hl)) ⟨⟨o, view_of h1, h2, n, h4⟩, join_post hO (.refl hO.tok) he hT hl h fun v s' x => x⟩

end
end Sx
end
section
open PySem PySem.W PyProof.Rows PySem.Calls
set_option linter.unusedVariables false
set_option Elab.async false
set_option maxRecDepth 100000
namespace Sx
open Builtin Builtin.Str

theorem add_text (wr : Writer) (y : PySem.Str) (o : Option Value) : (wr.add y o).text = wr.text ++ y ∧ (wr.add y o).total = wr.total + y.length := by
  unfold Writer.add
  by_cases h : (y.length == 0) = true
  · rw [if_pos h]
    have hz : y.cps = #[] := Array.size_eq_zero_iff.mp (by simpa [PySem.Str.length] using h)
    have hl : y.length = 0 := by simpa using h
    refine ⟨?_, by omega⟩
    apply PySem.Str.ext'
    rw [PySem.Str.cps_append, hz]; simp
  · rw [if_neg h]
    refine ⟨?_, rfl⟩
    apply PySem.Str.ext'
    rw [PySem.Str.cps_append]
    unfold Writer.text
    simp [List.foldl_append]

theorem hideF {M : Model} {A : Around} {E : Value → Shared → Prop} {s : Shared} {β : Type} {l : List Nat} {p : β} {f : Nat → β → Sem (ForInStep β)} {Q : β → Shared → Prop}
    (h : ∀ f', f' = f → wpAny M A (forIn l p f') Q E s) : wpAny M A (forIn l p f) Q E s := h f rfl
theorem turnY {M : Model} {A : Around} {E : Value → Shared → Prop} {s : Shared} {β : Type} {x : Nat} {l : List Nat} {p p' : β} {f : Nat → β → Sem (ForInStep β)} {Q : β → Shared → Prop}
    (e : f x p = pure (.yield p')) (h : wpAny M A (forIn l p' f) Q E s) : wpAny M A (forIn (x :: l) p f) Q E s := KPc.turn (by rw [e]; exact wpAny_pure h)
theorem turnD {M : Model} {A : Around} {E : Value → Shared → Prop} {s : Shared} {β : Type} {x : Nat} {l : List Nat} {p p' : β} {f : Nat → β → Sem (ForInStep β)} {Q : β → Shared → Prop}
    (e : f x p = pure (.done p')) (h : Q p' s) : wpAny M A (forIn (x :: l) p f) Q E s := KPc.turn (by rw [e]; exact wpAny_pure h)

theorem mod_walk (c : Nat) (hc : c = 34 ∨ c = 39) (y : PySem.Str) (t u : Tok) (hy : y.length ≤ 16000000) :
    Meets («str.__mod__» ⟨[.str (mkS [c, 37, 115, c]) t, .str y u], []⟩) (fun _ R s => R (.ok (.ret (.str (mkS (c :: (y.cps.toList ++ [c]))) s.toks))) { s with toks := s.toks + 1 }) := by
  refine Meets.of_wp fun prog w A R s hS => ?_
  have fin : ∀ (Q : Fin → Shared → Prop) (E : Value → Shared → Prop), Q (.done (.ret (.str (mkS (c :: (y.cps.toList ++ [c]))) s.toks))) { s with toks := s.toks + 1 } → wpAny (model prog w) A.in1 («str.__mod__» ⟨[.str (mkS [c, 37, 115, c]) t, .str y u], []⟩) Q E s := by
    intro Q E h
    have eb : (⟨y.cps.toList.toArray⟩ : PySem.Str) = y := congrArg PySem.Str.mk (Array.toArray_toList ..)
    -- what is written at the end
    obtain ⟨w1, hw1⟩ : ∃ w1 : Writer, w1 = { pieces := [mkS [c]], total := 1, whole := none } := ⟨_, rfl⟩
    obtain ⟨e1, e2⟩ := add_text w1 y (none : Option Value)
    obtain ⟨w2, hw2⟩ : ∃ w2 : Writer, w2 = w1.add y none := ⟨_, rfl⟩
    rw [← hw2] at e1 e2
    obtain ⟨e3, e4⟩ := add_text w2 (mkS [c]) (none : Option Value)
    have ht1 : w1.text = mkS [c] := by rw [hw1]; apply PySem.Str.ext'; simp [Writer.text]
    have tot1 : w1.total = 1 := by rw [hw1]
    have tot2 : w2.total ≤ 16777216 := by rw [e2, tot1]; omega
    have hT : (w2.add (mkS [c]) none).text = mkS (c :: (y.cps.toList ++ [c])) := by
      rw [e3, e1, ht1]
      have : y = mkS y.cps.toList := (mkS_toList y).symm
      rw [this, app_S, app_S]; rfl
    have hN : (w2.add (mkS [c]) none).total ≤ 16777216 := by rw [e4, e2, tot1, mkS_length]; show 1 + y.length + 1 ≤ _; omega
    have hwh : ∀ o, (w2.add (mkS [c]) o).whole = none := by
      intro o
      have hne : w2.pieces.isEmpty = false := by
        rw [hw2, hw1]; unfold Writer.add; split <;> rfl
      unfold Writer.add
      rw [if_neg (by rw [mkS_length]; simp), hne]; rfl
    have hlen : (mkS (c :: (y.cps.toList ++ [c]))).length ≤ sizeLine := by
      rw [mkS_length, sizeLine_eq]
      have : y.cps.toList.length = y.length := by simp [PySem.Str.length]
      simp [this]; omega
    have hfin : ∀ o, wpAny (model prog w) A.in1 ((w2.add (mkS [c]) o).finish "str.__mod__") Q E s := by
      intro o
      have et : (w2.add (mkS [c]) o).text = mkS (c :: (y.cps.toList ++ [c])) ∧ (w2.add (mkS [c]) o).total ≤ 16777216 := by
        obtain ⟨a1, a2⟩ := add_text w2 (mkS [c]) o
        exact ⟨by rw [a1, ← e3]; exact hT, by rw [a2, ← e4]; exact hN⟩
      unfold Writer.finish
      rw [hwh o]
      refine wpAny_ite (KPc.ite_no (KPc.short et.2) ?_)
      rw [et.1]
      exact wpAny_bind (wpAny_mkStr (wpAny_pure h) hlen)
    have ht2 : ¬ (tooLong w2.total = true) := KPc.short tot2
    have ht3 : ¬ (tooLong (w2.add (mkS [c]) none).total = true) := KPc.short hN
    have tw : w1.add ⟨y.cps.toList.toArray⟩ none = w2 := by rw [eb, hw2]
    rw [KPc.entry_is_s]
    unfold Builtin.Str.percentFormat
    refine wpAny_bind (wpAny_isInstance (typeIs_str _ _ _) F.sub_str_tuple ?_)
    refine wpAny_bind (wpAny_of_eq (a := some _) rfl ?_)
    refine wpAny_bind (KPc.wp_fills_str ?_)
    intro bb
    kpc_if
    refine wpAny_bind (wpAny_pure ?_)
    refine wpAny_bind ?_
    rw [KPc.range_list]
    refine hideF fun f hf => ?_
    have t1 : f 0 ([Value.str y u], {}, [c, 37, 115, c]) = pure (.yield ([Value.str y u], w1, [37, 115, c])) := by
      rw [hw1]
      rcases hc with rfl | rfl
      · subst hf; kernel_rfl
      · subst hf; kernel_rfl
    have t2 : f 1 ([Value.str y u], w1, [37, 115, c]) = pure (.yield ([], w2, [c])) := by
      rw [← tw, hw1]
      rcases hc with rfl | rfl
      · subst hf; kernel_rfl
      · subst hf; kernel_rfl
    have t3 : f 2 ([], w2, [c]) = pure (.yield ([], w2.add (mkS [c]) none, [])) := by
      rcases hc with rfl | rfl
      · subst hf
        show (ite (tooLong w2.total = true) _ _) = _
        rw [if_neg ht2]
        kernel_rfl
      · subst hf
        show (ite (tooLong w2.total = true) _ _) = _
        rw [if_neg ht2]
        kernel_rfl
    have t4 : f 3 ([], w2.add (mkS [c]) none, []) = pure (.done ([], w2.add (mkS [c]) none, [])) := by
      subst hf
      show (ite (tooLong (w2.add (mkS [c]) none).total = true) _ _) = _
      rw [if_neg ht3]
      kernel_rfl
    clear hf
    refine turnY t1 (turnY t2 (turnY t3 (turnD t4 ?_)))
    kpc_if
    exact hfin _
  exact fin _ _ ⟨_, rfl, hS⟩
end Sx
end
section
open PySem PySem.W PyProof.Rows PySem.Calls
set_option linter.unusedVariables false
set_option Elab.async false
set_option maxRecDepth 100000
namespace Sx
open PySem.SeqAt

/-! ## equal things compare equal -/
mutual
inductive Alike : Nat → V → V → Prop
  | none (n : Nat) : Alike n .none .none
  | bool (n : Nat) (b : Bool) : Alike n (.bool b) (.bool b)
  | int (n : Nat) (i : Int) : Alike n (.int i) (.int i)
  | ss (n : Nat) (l : S) : Alike n (.str l) (.str l)
  | st (n : Nat) (l : S) : Alike n (.str l) (.txt l)
  | ts (n : Nat) (l : S) : Alike n (.txt l) (.str l)
  | tt (n : Nat) (l : S) : Alike n (.txt l) (.txt l)
  | tup {n : Nat} {vs us : List V} : AlikeL n vs us → Alike (n + 1) (.tup vs) (.tup us)
  | lst {n : Nat} {vs us : List V} : AlikeL n vs us → Alike (n + 1) (.lst vs) (.lst us)
inductive AlikeL : Nat → List V → List V → Prop
  | nil (n : Nat) : AlikeL n [] []
  | cons {n : Nat} {v u : V} {vs us : List V} : Alike n v u → AlikeL n vs us → AlikeL n (v :: vs) (u :: us)
end

theorem eqAt_str {A : Around} {s : Shared} {x : PySem.Str} {t u : Tok} : EqAt A s (.str x t) (.str x u) true := fun prog w E Q hq => wpAny_eqBool_str (by simpa using hq)
theorem eqAt_int {A : Around} {s : Shared} {x : Int} {t u : Tok} : EqAt A s (.int x t) (.int x u) true := fun prog w E Q hq => wpAny_eqBool_int (by simpa using hq)

theorem Rep.txt_inv {W : Wd} {g : PH} {l : S} {v : Value} (h : Rep W g (.txt l) v) : ∃ t, v = .str (mkS l) t := by cases h; exact ⟨_, rfl⟩
theorem Rep.none_inv {W : Wd} {g : PH} {v : Value} (h : Rep W g .none v) : v = .none := by cases h; rfl
theorem eq_tups {A : Around} {s : Shared} {x y : Addr} {ox oy : Obj} {wx wy : List Value} {nx ny : Nat} (h1 : s.heap.get? x = some ox) (h2 : ox.cls = .type "tuple") (h3 : ox.data = .seq wx.toArray nx) (k1 : s.heap.get? y = some oy) (k2 : oy.cls = .type "tuple") (k3 : oy.data = .seq wy.toArray ny)
    (hu : A.units + 1 < cLine) (hl : wx.length = wy.length ∧ ∀ j (h1 : j < wx.length) (h2 : j < wy.length), EqAt A.in1 s wx[j] wy[j] true) : EqAt A s (.ref x) (.ref y) true := by
  by_cases hxy : x = y
  · subst hxy; exact .same _
  · refine .of_refs hxy ?_
    have hs := hl.1
    have := RcAt.tuples (A := A) (s := s) (items := wx.toArray) (items2 := wy.toArray) (e := fun _ => true) ⟨ox, h1, h2, nx, h3⟩ ⟨oy, k1, k2, ny, k3⟩ (by omega) (fun j h1 h2 => hl.2 j (by simpa using h1) (by simpa using h2))
    have e : ((List.range (min wx.toArray.size wy.toArray.size)).all (fun _ => true) && wx.toArray.size == wy.toArray.size) = true := by simp [hs]
    rw [e] at this; exact this
theorem eq_lsts {A : Around} {s : Shared} {x y : Addr} {ox oy : Obj} {wx wy : List Value} {nx ny : Nat} (h1 : s.heap.get? x = some ox) (h2 : ox.cls = .type "list") (h3 : ox.data = .seq wx.toArray nx) (k1 : s.heap.get? y = some oy) (k2 : oy.cls = .type "list") (k3 : oy.data = .seq wy.toArray ny)
    (hu : A.units + 1 < cLine) (hl : wx.length = wy.length ∧ ∀ j (h1 : j < wx.length) (h2 : j < wy.length), EqAt A.in1 s wx[j] wy[j] true) : EqAt A s (.ref x) (.ref y) true := by
  by_cases hxy : x = y
  · subst hxy; exact .same _
  · refine .of_refs hxy ?_
    have hs := hl.1
    have := RcAt.lists (A := A) (s := s) (items := wx.toArray) (items2 := wy.toArray) (e := fun _ => true) ⟨ox, h1, h2, nx, h3⟩ ⟨oy, k1, k2, ny, k3⟩ (by simp [hs]) (by omega) (fun j h1 h2 => hl.2 j (by simpa using h1) (by simpa using h2))
    have e : ((List.range wx.toArray.size).all (fun _ => true)) = true := by simp
    rw [e] at this; exact this
noncomputable def EqM (W : Wd) (g : PH) (s : Shared) (n : Nat) (a b : V) : Prop := ∀ (A : Around) (va vb : Value), A.units + n < cLine → Rep W g a va → Rep W g b vb → EqAt A s va vb true
noncomputable def EqML (W : Wd) (g : PH) (s : Shared) (n : Nat) (a b : List V) : Prop := ∀ (A : Around) (va vb : List Value), A.units + n < cLine → RepL W g a va → RepL W g b vb → va.length = vb.length ∧ ∀ j (h1 : j < va.length) (h2 : j < vb.length), EqAt A s va[j] vb[j] true
theorem eqM_tup {W : Wd} {g : PH} {s : Shared} (hg : ∀ a o, g.ob a = some o → s.heap.get? a = some o) {n : Nat} {a b : List V} (h : EqML W g s n a b) : EqM W g s (n + 1) (.tup a) (.tup b) := fun A va vb hu r q => by
  obtain ⟨x, ox, wx, nx, rfl, h1, h2, h3, r⟩ := r.tup_inv
  obtain ⟨y, oy, wy, ny, rfl, k1, k2, k3, q⟩ := q.tup_inv
  exact eq_tups (hg _ _ h1) h2 h3 (hg _ _ k1) k2 k3 (Nat.lt_of_le_of_lt (Nat.add_le_add_left (Nat.succ_le_succ (Nat.zero_le _)) _) hu) (h A.in1 _ _ (by show A.units + 1 + n < cLine; rwa [Nat.add_assoc, Nat.add_comm 1]) r q)
theorem eqM_lst {W : Wd} {g : PH} {s : Shared} (hg : ∀ a o, g.ob a = some o → s.heap.get? a = some o) {n : Nat} {a b : List V} (h : EqML W g s n a b) : EqM W g s (n + 1) (.lst a) (.lst b) := fun A va vb hu r q => by
  obtain ⟨x, ox, wx, nx, rfl, h1, h2, _, h3, r⟩ := r.lst_inv
  obtain ⟨y, oy, wy, ny, rfl, k1, k2, _, k3, q⟩ := q.lst_inv
  exact eq_lsts (hg _ _ h1) h2 h3 (hg _ _ k1) k2 k3 (Nat.lt_of_le_of_lt (Nat.add_le_add_left (Nat.succ_le_succ (Nat.zero_le _)) _) hu) (h A.in1 _ _ (by show A.units + 1 + n < cLine; rwa [Nat.add_assoc, Nat.add_comm 1]) r q)
theorem eqML_cons {W : Wd} {g : PH} {s : Shared} {n : Nat} {a b : V} {as bs : List V} (h1 : EqM W g s n a b) (h2 : EqML W g s n as bs) : EqML W g s n (a :: as) (b :: bs) := fun A va vb hu r q => by
  obtain ⟨_, _, rfl, r1, r2⟩ := r.cons_inv
  obtain ⟨_, _, rfl, q1, q2⟩ := q.cons_inv
  have i2 := h2 A _ _ hu r2 q2
  refine ⟨congrArg (· + 1) i2.1, fun j k1 k2 => ?_⟩
  cases j with
  | zero => exact h1 A _ _ hu r1 q1
  | succ j => exact i2.2 j (Nat.lt_of_succ_lt_succ k1) (Nat.lt_of_succ_lt_succ k2)
theorem eqML_of {W : Wd} {g : PH} {s : Shared} (hg : ∀ a o, g.ob a = some o → s.heap.get? a = some o) {n : Nat} {a b : List V} (h : AlikeL n a b) : EqML W g s n a b :=
  AlikeL.rec (motive_1 := fun n a b _ => EqM W g s n a b) (motive_2 := fun n a b _ => EqML W g s n a b)
    (fun _ _ _ _ _ r q => by obtain rfl := r.none_inv; obtain rfl := q.none_inv; exact .same _) (fun _ _ _ _ _ _ r q => by obtain rfl := r.bool_inv; obtain rfl := q.bool_inv; exact .same _) (fun _ _ _ _ _ _ r q => by obtain ⟨_, rfl⟩ := r.int_inv; obtain ⟨_, rfl⟩ := q.int_inv; exact eqAt_int)
    (fun _ _ _ _ _ _ r q => by obtain ⟨_, rfl, _⟩ := r.str_inv; obtain ⟨_, rfl, _⟩ := q.str_inv; exact eqAt_str) (fun _ _ _ _ _ _ r q => by obtain ⟨_, rfl, _⟩ := r.str_inv; obtain ⟨_, rfl⟩ := q.txt_inv; exact eqAt_str)
    (fun _ _ _ _ _ _ r q => by obtain ⟨_, rfl⟩ := r.txt_inv; obtain ⟨_, rfl, _⟩ := q.str_inv; exact eqAt_str) (fun _ _ _ _ _ _ r q => by obtain ⟨_, rfl⟩ := r.txt_inv; obtain ⟨_, rfl⟩ := q.txt_inv; exact eqAt_str)
    (fun _ h => eqM_tup hg h) (fun _ h => eqM_lst hg h) (fun _ _ _ _ _ r q => by obtain rfl := r.nil_inv; obtain rfl := q.nil_inv; exact ⟨rfl, fun j h1 _ => absurd h1 (Nat.not_lt_zero _)⟩) (fun _ _ h1 h2 => eqML_cons h1 h2) h
theorem eqAtL_alike {W : Wd} {g : PH} {s : Shared} (hg : ∀ a o, g.ob a = some o → s.heap.get? a = some o) {n : Nat} {a b : List V} {va vb : List Value} {A : Around} (h : AlikeL n a b) (hu : A.units + n < cLine) (r : RepL W g a va) (q : RepL W g b vb) : va.length = vb.length ∧ ∀ j (h1 : j < va.length) (h2 : j < vb.length), EqAt A s va[j] vb[j] true :=
  eqML_of hg h A _ _ hu r q
open AutoSeq1 (wpAny_loadPart') in
section
variable {C : Cx}
theorem cLine_ge : 9900 ≤ cLine := by decide
theorem op_ne_alike {n m : Nat} (ok : C.Ok m) (hn : n ≤ 50) {vs us : List V} (h : AlikeL n vs us) {K : V → Prop} (hK : K (.bool false)) : Op2 C (Rep C.W) (compareOp .NotEq) (.lst vs) (.lst us) K := fun own T s va vb hO ra rb => by
  obtain ⟨x, ox, wx, nx, rfl, h1, h2, h3, h4, r⟩ := ra.lst_inv
  obtain ⟨y, oy, wy, ny, rfl, k1, k2, k3, k4, q⟩ := rb.lst_inv
  have hu := ok.hu
  have hc := cLine_ge
  have hl := eqAtL_alike (A := C.A.in1) (s := s) (W := C.W) (g := view own T s) (fun a o e => view_of e) h (by show C.A.units + 1 + n < cLine; omega) r q
  have := RcNeAt.lists (A := C.A) (s := s) (items := wx.toArray) (items2 := wy.toArray) (e := fun _ => true) ⟨ox, view_of h1, h2, nx, h4⟩ ⟨oy, view_of k1, k2, ny, k4⟩ (by simp [hl.1]) (by omega) (fun j h1 h2 => hl.2 j (by simpa using h1) (by simpa using h2))
  have e : ((List.range wx.toArray.size).all (fun _ => true)) = true := by simp
  rw [e] at this
  exact this C.W.prog C.W.w C.X _ (.same hO.tok hK (.bool _))

/-! ## lists -/
theorem fits63 {n : Nat} (h : n ≤ sizeLine) : (n : Int) < 2 ^ 63 := by
  have : sizeLine = 16777216 := sizeLine_eq
  omega
theorem op_item_list {vs : List V} {i : Int} {v : V} {K : V → Prop} (h0 : -(vs.length : Int) ≤ i) (hi : i < vs.length) (hl : vs.length ≤ sizeLine) (hv : vs[(if i < 0 then i + vs.length else i).toNat]? = some v) (h : K v) : Op2 C (Rep C.W) getItem (.lst vs) (.int i) K := fun own T s va vb hO ra rb => by
  obtain ⟨_, rfl⟩ := rb.int_inv
  obtain ⟨x, ox, wx, nx, rfl, h1, h2, h3, h4, r⟩ := ra.lst_inv
  have hsz := fits63 hl
  have hL : s.heap.IsList x wx.toArray := ⟨ox, view_of h1, h2, nx, h4⟩
  obtain ⟨w, hw, hr⟩ := r.get hv
  by_cases hn : i < 0
  · rw [if_pos hn] at hw
    exact wpAny_getItem_list_neg hL hn (by rw [List.size_toArray, r.length]; exact h0) (by omega) (by rw [List.size_toArray, r.length]; simpa using hw) (.same hO.tok h hr)
  · rw [if_neg hn] at hw
    exact wpAny_getItem_list hL (by omega) (by omega) (by simpa using hw) (.same hO.tok h hr)

theorem truthy_list {vs : List V} {K : Bool → Prop} (hl : vs.length ≤ sizeLine) (h : K (!vs.isEmpty)) : Op1 C RB truthy (.lst vs) K := fun own T s va hO ra => by
  obtain ⟨x, ox, wx, nx, rfl, h1, h2, h3, h4, r⟩ := ra.lst_inv
  refine wpAny_truthy_list (items := wx.toArray) ⟨ox, view_of h1, h2, nx, h4⟩ (by rw [List.size_toArray, r.length]; exact fits63 hl) ⟨_, T, h, .toks hO.tok (by omega), ?_⟩
  show (!vs.isEmpty) = !wx.toArray.isEmpty
  have := r.length
  cases vs <;> cases wx <;> simp_all
theorem opL_len_list {vs : List V} {K : V → Prop} (hl : vs.length ≤ sizeLine) (h : K (.int vs.length)) : OpL C (Rep C.W) (fun ws => call (.builtin "len") ws) [.lst vs] K := fun own T s ws hO hr => by
  obtain ⟨_, _, rfl, r1, hr⟩ := hr.cons_inv
  obtain rfl := hr.nil_inv
  obtain ⟨x, ox, wx, nx, rfl, h1, h2, h3, h4, r⟩ := r1.lst_inv
  refine call_len_list (items := wx.toArray) ⟨ox, view_of h1, h2, nx, h4⟩ (by rw [List.size_toArray, r.length]; exact fits63 hl) ?_
  rw [List.size_toArray, r.length]
  exact .int hO.tok h (by omega)

/-! ## dicts -/
theorem truthy_dict {es : List (Key × V)} {K : Bool → Prop} (hl : es.length ≤ sizeLine) (h : K (!es.isEmpty)) : Op1 C RB truthy (.dct es) K := fun own T s va hO ra => by
  obtain ⟨x, ox, ds, kvs, nx, rfl, h1, h0, h2, h3, r, hn⟩ := ra.dct_inv
  have hd := r.dictOf (h := s.heap) (view_of h1) h2 h3 hn
  refine wpAny_truthy_dict h0 hd (by rw [r.length.2]; exact fits63 hl) ⟨_, T, h, .toks hO.tok (by omega), ?_⟩
  show (!es.isEmpty) = !kvs.isEmpty
  have := r.length.2
  cases es <;> cases kvs <;> simp_all
theorem op_item_dict {es : List (Key × V)} {k : Key} {v : V} {K : V → Prop} (hv : dget es k = some v) (h : K v) : Op2 C (Rep C.W) getItem (.dct es) k.v K := fun own T s va vb hO ra rb => by
  obtain ⟨x, ox, ds, kvs, nx, rfl, h1, h0, h2, h3, r, hn⟩ := ra.dct_inv
  have hd := r.dictOf (h := s.heap) (view_of h1) h2 h3 hn
  have hv' := r.valueAt k
  rw [hv] at hv'
  obtain ⟨w, e, hr⟩ := hv'
  exact wpAny_getItem_of (Key.is_of_rep rb) hd.mapOf e ⟨_, T, h, .toks hO.tok (Nat.le_succ _), hr⟩
theorem opL_get2 {es : List (Key × V)} {k : Key} {d : V} {K : V → Prop} (h : K ((dget es k).getD d)) : OpL C (Rep C.W) (fun ws => call (.builtin "dict.get") ws) [.dct es, k.v, d] K := fun own T s ws hO hr => by
  obtain ⟨_, _, rfl, r1, hr⟩ := hr.cons_inv
  obtain ⟨_, _, rfl, r2, hr⟩ := hr.cons_inv
  obtain ⟨_, _, rfl, r3, hr⟩ := hr.cons_inv
  obtain rfl := hr.nil_inv
  obtain ⟨x, ox, ds, kvs, nx, rfl, h1, h0, h2, h3, r, hn⟩ := r1.dct_inv
  have hd := r.dictOf (h := s.heap) (view_of h1) h2 h3 hn
  refine call_meetsIn PySem.F.slot_dict_get hd.typeIs PySem.F.entry_dict_get (PySem.F.args_dict_get_3 _ _ _) (meets_dict_get_default C.W.knd x (Key.is_of_rep r2) h0 _) ⟨_, hd.mapOf, ?_⟩
  have hv' := r.valueAt k
  refine ⟨_, T, h, .toks hO.tok (Nat.le_succ _), ?_⟩
  cases hg : dget es k with
  | none => rw [hg] at hv'; simp only at hv'; rw [hv']; exact r3
  | some v => rw [hg] at hv'; obtain ⟨w, e, hr⟩ := hv'; rw [e]; exact hr
theorem opL_items {es : List (Key × V)} {K : V → Prop} (h : K (.items es)) : OpL C (Rep C.W) (fun ws => call (.builtin "dict.items") ws) [.dct es] K := fun own T s ws hO hr => by
  obtain ⟨_, _, rfl, r1, hr⟩ := hr.cons_inv
  obtain rfl := hr.nil_inv
  have r1' := r1
  obtain ⟨x, ox, ds, kvs, nx, rfl, h1, h0, h2, h3, r, hn⟩ := r1.dct_inv
  have hd := r.dictOf (h := s.heap) (view_of h1) h2 h3 hn
  refine call_meetsIn PySem.F.slot_dict_items hd.typeIs PySem.F.entry_dict_items (PySem.F.args_dict_items_1 _) (meets_dict_items C.W.knd x h0) ⟨⟨kvs, hd⟩, ?_⟩
  have k0 : Kp T s T { s with heap := s.heap.push { cls := .type "dict_items", data := .fields #[.ref x] } } := .push hO.tok (Nat.le_refl _)
  exact ⟨_, T, h, k0, .itm (view_mk (hO.fresh (fresh_size _)) (Heap.get?_push_size _ rfl)) rfl rfl (r1'.mono k0.view)⟩
/-! ## '"%s"' % t, t.count(u) -/
theorem op_mod_str {c : Nat} {l : S} {K : V → Prop} (hc : c = 34 ∨ c = 39) (hl : l.length ≤ 16000000) (h : K (.str (c :: (l ++ [c])))) : Op2 C (Rep C.W) (binaryOp .Mod) (.str [c, 37, 115, c]) (.str l) K := fun own T s va vb hO ra rb => by
  obtain ⟨t, rfl, ht⟩ := ra.str_inv; obtain ⟨u, rfl, hu⟩ := rb.str_inv
  refine binaryOp_meets (T := "str") (op := .Mod) (typeIs_str s _ t) (typeIs_str s _ u) PySem.F.fills_str_mod PySem.F.slot_str_mod PySem.F.entry_str_mod (PySem.F.args_str_mod_2 _ _) (mod_walk c hc (mkS l) t u (by rw [mkS_length]; exact hl)) ⟨(fun e => nomatch e), ?_⟩
  exact .strNew (l := c :: (l ++ [c])) hO.tok h
end
end Sx
end
section
open PySem PySem.W PyProof.Rows PySem.Calls
set_option linter.unusedVariables false
set_option Elab.async false
set_option maxRecDepth 100000
namespace Sx

theorem ints_of {W : Wd} {g : PH} : ∀ (is : List Int) (ws : List Value), RepL W g (is.map V.int) ws → ∃ xs : List (Int × Tok), ws = xs.map (fun p => Value.int p.1 p.2) ∧ xs.map (·.1) = is
  | [], ws, h => by obtain rfl := h.nil_inv; exact ⟨[], rfl, rfl⟩
  | i :: is, ws, h => by
    obtain ⟨_, _, rfl, h1, h2⟩ := h.cons_inv
    obtain ⟨t, rfl⟩ := h1.int_inv
    obtain ⟨xs, rfl, e⟩ := ints_of is _ h2
    exact ⟨(i, t) :: xs, rfl, by simp [e]⟩

/-- a text's mark forgotten -/
noncomputable def Key.tv : Key → V
  | .s l => .txt l
  | .i n => .int n

section
variable {C : Cx}
theorem opL_sum {n : Nat} (ok : C.Ok n) {is : List Int} {K : V → Prop} (h : K (.int is.sum)) : OpL C (Rep C.W) (fun ws => call (.builtin "sum") ws) [.lst (is.map V.int)] K := fun own T s vs hO hr => by
  obtain ⟨_, _, rfl, r1, hr⟩ := hr.cons_inv
  obtain rfl := hr.nil_inv
  obtain ⟨x, ox, wx, nx, rfl, h1, h2, h3, h4, r⟩ := r1.lst_inv
  obtain ⟨xs, rfl, e⟩ := ints_of _ _ r
  refine wpAny_with_toks (n := s.toks) (Nat.le_refl _) (sum_intListG (xs := xs.toArray) ok.hh ⟨ox, view_of h1, h2, nx, by rw [h4]; simp [intItems]⟩ fun h' tk t' hk htk => ?_)
  rw [preSum_eq]
  have e2 : ((xs.toArray.toList.map (·.1)).take xs.toArray.size).sum = is.sum := by
    rw [List.take_of_length_le (by simp)]
    simp [e]
  rw [e2]
  exact ⟨_, T, h, .at hO.tok hk htk, .int _ _⟩

theorem opF_listItems {n : Nat} (ok : C.Ok n) {es : List (Key × V)} {K : Slot → Prop} (hl : es.length ≤ sizeLine) (h : ∀ a, K (.list a (es.map fun p => .tup [p.1.tv, p.2]))) : OpLF C (fun ws => call (.type "list") ws) [.items es] K := fun own T s vs hO hr => by
  obtain ⟨_, _, rfl, r1, hr⟩ := hr.cons_inv
  obtain rfl := hr.nil_inv
  obtain ⟨vw, a, ov, rfl, hv1, hv2, hv3, hrd⟩ := r1.itm_inv
  obtain ⟨_, o, ds, kvs, nn, he, h1, h0, h2, h3, r, hn⟩ := hrd.dct_inv
  cases he
  have hm := r.dictAt (view_of h1) h2 h3 hn
  have hlen : kvs.length = es.length := r.length.2
  refine wpAny_with_toks (n := s.toks) (Nat.le_refl _) (kdx_call (knd := C.W.knd) ok.hh ⟨ov, view_of hv1, hv2, hv3⟩ hm (by rw [hlen]; exact hl) fun h' tk acc c as hk hS hal hG hacc htk => ?_)
  have k : Kp T s T { s with heap := h', toks := tk } := .at hO.tok hk htk
  have hnew := fresh_size s.heap
  refine ⟨.list s.heap.objs.size (es.map fun p => .tup [p.1.tv, p.2]), T, s.heap.objs.size, h _, rfl, k, hnew, by show (h'.get? _).isSome = true; rw [hS]; rfl, rfl, acc.toList, ⟨c, by rw [Array.toArray_toList]; exact hS⟩, ?_⟩
  rw [hacc]
  have le : Le (view own T s) (view (s.heap.objs.size :: own) T { s with heap := h', toks := tk }) := ⟨fun b o e => view_mk (fun hm => by
    rcases List.mem_cons.mp hm with rfl | hm
    · rw [view_of e] at hnew; cases hnew
    · exact view_not e hm) (hk b o (view_of e)), fun _ _ e => e⟩
  -- one by one
  have go : ∀ (j : Nat) (es' : List (Key × V)) (ds' : List DictEntry) (kvs' : List (Key × Value)) (as' : List Addr), RepD C.W (view own T s) es' ds' kvs' → as'.length = kvs'.length → (∀ i a, as'[i]? = some a → as[j + i]? = some a) → (∀ i, kvs'[i]? = kvs[j + i]?) →
      RepL C.W (view (s.heap.objs.size :: own) T { s with heap := h', toks := tk }) (es'.map fun p => .tup [p.1.tv, p.2]) (as'.map Value.ref) := by
    intro j es' ds' kvs' as' hr' hl' ha hkv
    induction as' generalizing j es' ds' kvs' with
    | nil =>
      cases hr' with
      | nil => exact .nil
      | cons => simp at hl'
    | cons b as' ih =>
      cases hr' with
      | nil => simp at hl'
      | @cons k v d es' ds' kvs' q1 q2 q3 q4 =>
        refine .cons ?_ (ih (j + 1) es' ds' kvs' q4 (by simpa using hl') (fun i a e => by have := ha (i + 1) a (by simpa using e); rw [← this]; congr 1; omega) (fun i => by have := hkv (i + 1); rw [List.getElem?_cons_succ] at this; rw [this]; congr 1; omega))
        obtain ⟨key, k', x, e1, e2, e3⟩ := hG.pairs j b (by have := ha 0 b rfl; simpa using this)
        have e4 := hkv 0
        rw [List.getElem?_cons_zero, Nat.add_zero, e1] at e4
        injection e4 with e4
        injection e4 with e5 e6
        subst e5
        subst e6
        have hb : b ∉ s.heap.objs.size :: own := fun hm => by
          have hgt := hG.above b (List.mem_of_getElem? (by have := ha 0 b rfl; simpa using this))
          rcases List.mem_cons.mp hm with rfl | hm
          · exact Nat.lt_irrefl _ hgt
          · obtain ⟨o, ho⟩ := Option.isSome_iff_exists.mp (hO.live b hm)
            exact Nat.lt_irrefl _ (Nat.lt_trans hgt (Heap.lt_size ho))
        refine .tup (o := { cls := .type "tuple", data := .seq #[key, d.val] }) (ws := [key, d.val]) (n := 0) (view_mk hb e3) rfl rfl rfl (.cons ?_ (.cons (q3.mono le) .nil))
        cases k with
        | s l => obtain ⟨t, rfl⟩ := Key.is_s e2; exact .txt _ _
        | i n => obtain ⟨t, rfl⟩ := Key.is_i e2; exact .int _ _
  exact go 0 es ds kvs as r (by rw [hal]) (fun i a e => by rw [Nat.zero_add]; exact e) (fun i => by rw [Nat.zero_add])
end
end Sx
end
section
open PySem PySem.W PyProof.Rows PySem.Calls
set_option linter.unusedVariables false
set_option Elab.async false
set_option maxRecDepth 100000
namespace Sx

/-! ## the functions as they stand in the base -/
noncomputable def fdAt (F : Frag) (a : Addr) : FuncData := match F.lookup a with
  | some ⟨_, _, .func fd, _⟩ => fd
  | _ => default
noncomputable def bdAt (F : Frag) (a : Addr) : List Stmt := match (fdAt F a).body with
  | .stmts b => b
  | _ => []
noncomputable def isFn (F : Frag) (a : Addr) : Bool := match F.lookup a with
  | some ⟨_, _, .func _, _⟩ => true
  | _ => false
noncomputable def isStmts (F : Frag) (a : Addr) : Bool := match (fdAt F a).body with
  | .stmts _ => true
  | _ => false
noncomputable def codeOk (F : Frag) (a : Addr) : Bool := match (fdAt F a).code with
  | .ref c => (match F.lookup c with
      | some ⟨_, _, .fields vs, _⟩ => (match (vs[1]? : Option Value) with
        | some (Value.str q _) => q == (fdAt F a).qualname
        | _ => false)
      | _ => false)
  | _ => false

theorem fnAt_of {W : Wd} {F : Frag} (hF : F.In W.h₀) {a : Addr} (h1 : isFn F a = true) (h2 : isStmts F a = true) (h3 : codeOk F a = true) (hgl : (fdAt F a).globals = mainGlobals) (hcl : (fdAt F a).closure = []) (hbn : (fdAt F a).builtins = builtinsNs)
    (hco : (fdAt F a).scope.isCoroutine = false) (hgen : (fdAt F a).scope.isGenerator = false) (hk : (fdAt F a).scope.kind = .function) : FnAt W a (fdAt F a) (bdAt F a) where
  at_ := by
    unfold isFn at h1
    split at h1
    · rename_i c d fd sl e
      refine ⟨_, hF _ _ e, ?_⟩
      unfold fdAt; rw [e]
    · cases h1
  hbody := by
    unfold isStmts at h2
    unfold bdAt
    split at h2
    · rename_i b e; rw [e]
    · cases h2
  hgl := hgl
  hcl := hcl
  hbn := hbn
  hcd := by
    unfold codeOk at h3
    split at h3
    · rename_i c e
      split at h3
      · rename_i cl d vs sl e2
        split at h3
        · rename_i q t e3
          have : q = (fdAt F a).qualname := by simpa using h3
          subst this
          exact ⟨c, _, vs, t, e, hF _ _ e2, rfl, e3⟩
        · cases h3
      · cases h3
    · cases h3
  hco := hco
  hgen := hgen
  hk := hk

theorem newEnv_pos {M : Model} {A : Around} {E : Value → Shared → Prop} {s : Shared} {scope : Scope} {globals : Addr} {n : Str} {v : Value} {binds : List (Str × Value)} {qual : Str} {func : Option Addr} {code : Value} {builtins : Addr} {Q : Env → Shared → Prop}
    (hk : scope.kind = .function) (hn : scope.names.lookup n = some .local)
    (hkind : ∀ x ∈ binds, scope.names.lookup x.1 = some .local ∨ (scope.names.lookup x.1 = some .cell ∧ ((cellsFrom (s.heap.objs.size + 1) scope.names []).lookup x.1).isSome = true))
    (hQ : ∀ env, env = newEnv scope s.heap.objs.size globals (cellsFrom (s.heap.objs.size + 1) scope.names []) qual func code none builtins →
      ∀ s', InCallC s env.locals (bindL env.kindOf ((n, v) :: binds) fun _ => none) env.cells (bindC env.kindOf ((n, v) :: binds) fun _ => none) s' → 0 < s'.toks → Q env s') :
    wpAny M A (newFunctionEnv scope globals [] ((n, v) :: binds) qual func code none builtins) Q E s := by
  simp only [newFunctionEnv, Option.isSome_none, Bool.false_eq_true, if_false]
  refine wpAny_bind (wpAny_alloc ?_)
  refine wpAny_bind (wpAny_layCells _ (fun name kind cells => by cases hkc : kind == NameKind.cell <;> simp [hkc]) _ _ _ _ ?_)
  have ok := cellsFrom_ok scope.names (s.heap.push { cls := .type "frame", data := .dict #[] }) (s.heap.objs.size + 1) [] ⟨fun _ _ hm => (nomatch hm), List.Pairwise.nil⟩ (by rw [Heap.size_push]; exact Nat.le_refl _)
  rw [Heap.size_push] at ok
  rw [show ({ s with heap := s.heap.push { cls := .type "frame", data := .dict #[] } } : Shared).heap.objs.size = s.heap.objs.size + 1 from Heap.size_push ..]
  obtain ⟨env, henv⟩ : ∃ env, env = newEnv scope s.heap.objs.size globals (cellsFrom (s.heap.objs.size + 1) scope.names []) qual func code none builtins := ⟨_, rfl⟩
  have x0 : InCallC s env.locals (fun _ => none) env.cells (fun _ => none) { s with heap := (pushCells (s.heap.push { cls := .type "frame", data := .dict #[] }) scope.names) } := by
    subst henv
    exact ⟨⟨⟨_, _, rfl⟩, (Heap.Ns.new s.heap (.type "frame")).keeps (pushCells_keeps _ _), fun b o e => pushCells_keeps _ _ b o (Heap.get?_push_of_some _ e), Nat.le_refl _⟩,
      fun n c hc => (ok.empty n c (mem_of_lookup hc)).1, ok.apart, fun n c hm => (ok.empty n c hm).2⟩
  have hke : env.scope.kind = .function := by rw [henv]; exact hk
  have hkn : env.kindOf n = some .local := by rw [henv]; exact hn
  have hkb : ∀ y ∈ binds, env.kindOf y.1 = some .local ∨ (env.kindOf y.1 = some .cell ∧ (env.cells.lookup y.1).isSome = true) := by rw [henv]; exact hkind
  have hp : (env.scope.kind == .class || (env.scope.kind == .module && env.locals != env.globals)) = false := by rw [hke]; rfl
  have hQ := hQ env henv
  have step : wpAny M A (storeName env n v) (fun _ s1 => s1.toks = s.toks + 1 ∧ InCallC s env.locals (fun y => if y = n then some v else none) env.cells (fun _ => none) s1) E { s with heap := (pushCells (s.heap.push { cls := .type "frame", data := .dict #[] }) scope.names) } := by
    refine wpAny_storeName_local hkn x0.toInCall.ns (fun h' hn' hs' => ⟨rfl, ⟨⟨_, _, rfl⟩, hn', fun b o e => ?_, x0.toInCall.fresh⟩, fun k c hc => ?_, x0.apart, x0.above⟩) hp
    · exact hs'.extBut b o (Nat.ne_of_lt (Nat.lt_of_lt_of_le (Heap.lt_size e) x0.toInCall.fresh)) (x0.toInCall.keep b o e)
    · exact (x0.cell k c hc).sameBut hs' (Nat.ne_of_gt (x0.above k c (mem_of_lookup hc)))
  show wpAny M A (forIn ((n, v) :: binds) PUnit.unit (fun x (_ : PUnit) => do storeName (newEnv scope s.heap.objs.size globals (cellsFrom (s.heap.objs.size + 1) scope.names []) qual func code none builtins) x.1 x.2; pure (ForInStep.yield PUnit.unit)) >>= fun _ => pure (newEnv scope s.heap.objs.size globals (cellsFrom (s.heap.objs.size + 1) scope.names []) qual func code none builtins)) Q E _
  rw [← henv]
  refine wpAny_bind ?_
  rw [List.forIn_cons]
  refine wpAny_bind (wpAny_bind (wpAny_mono step ?_ fun _ _ x => x))
  rintro _ s1 ⟨ht, x1⟩
  refine wpAny_pure (wpAny_with_toks (n := s.toks + 1) (Nat.le_of_eq ht.symm) (wpAny_bindParams (s₀ := s) (env := env) _ (fun _ _ _ => rfl) hke binds _ _ s1 _ x1 hkb fun s2 x2 ht2 => wpAny_pure (hQ s2 ?_ (Nat.lt_of_lt_of_le (Nat.succ_pos _) ht2))))
  unfold bindL bindC
  rw [if_pos hkn, if_pos hkn]; exact x2

theorem len1 {ws : List Value} (h : ws.length = 1) : ∃ a, ws = [a] := List.length_eq_one_iff.mp h
theorem len2 {ws : List Value} (h : ws.length = 2) : ∃ a b, ws = [a, b] := by
  cases ws with
  | nil => cases h
  | cons a t => obtain ⟨b, rfl⟩ := len1 (Nat.succ.inj h); exact ⟨a, b, rfl⟩
theorem len3 {ws : List Value} (h : ws.length = 3) : ∃ a b c, ws = [a, b, c] := by
  cases ws with
  | nil => cases h
  | cons a t => obtain ⟨b, c, rfl⟩ := len2 (Nat.succ.inj h); exact ⟨a, b, c, rfl⟩
end Sx
end
section
open PySem PySem.W PyProof.Rows PySem.Calls
set_option linter.unusedVariables false
set_option Elab.async false
set_option maxRecDepth 100000
namespace Sx

theorem methOk_str {W : Wd} {l : S} {name : Str} {id : String} (slot : PySem.Slot "str" name id) (hty : typeOf (.builtin id) = pure (.type "method_descriptor")) : MethOk W (.str l) name "str" id :=
  ⟨PySem.F.plainAttrs_str, slot, hty, fun g s va r _ => by cases r; exact ⟨rfl, fun x e => nomatch e⟩⟩
theorem methOk_dct {W : Wd} {es : List (Key × V)} {name : Str} {id : String} (slot : PySem.Slot "dict" name id) (hty : typeOf (.builtin id) = pure (.type "method_descriptor")) : MethOk W (.dct es) name "dict" id :=
  ⟨PySem.F.plainAttrs_dict, slot, hty, fun g s va r k => by
    cases r with
    | @dct x ox _ ds kvs nx h1 h0 h2 h3 r hn => exact ⟨⟨ox, k _ _ h1, h2.1⟩, fun y e => by cases e; exact ⟨ox, k _ _ h1, h2.2.1⟩⟩⟩
theorem isTy_str {W : Wd} {l : S} : IsTy W (.str l) "str" := fun g s va r _ => by cases r; rfl
theorem isTy_lst {W : Wd} {vs : List V} : IsTy W (.lst vs) "list" := fun g s va r k => by
  cases r with
  | @lst x ox _ ws nx h1 h2 h3 h4 r => exact ⟨ox, k _ _ h1, h2⟩
theorem isTy_dct {W : Wd} {es : List (Key × V)} : IsTy W (.dct es) "dict" := fun g s va r k => by
  cases r with
  | @dct x ox _ ds kvs nx h1 h0 h2 h3 r hn => exact ⟨ox, k _ _ h1, h2.1⟩

/-- one text after the other, each key by its value -/
noncomputable def reps : List (S × S) → S → S
  | [], x => x
  | (y, z) :: r, x => reps r (repl y z x)
noncomputable def RepOk : List (S × S) → S → Prop
  | [], _ => True
  | (y, z) :: r, x => (y ≠ z ∨ (y = [] ∧ z = [])) ∧ x.length + (x.length + 1) * z.length ≤ sizeLine ∧ RepOk r (repl y z x)
noncomputable def tabV (es : List (S × S)) : List (Key × V) := es.map fun p => (Key.s p.1, V.str p.2)

end Sx
end
section
open PySem PySem.W PyProof.Rows PySem.Calls
set_option linter.unusedVariables false
set_option Elab.async false
set_option maxRecDepth 100000
namespace Sx

theorem loop_inv {C : Cx} {target : Expr} {body orelse : List Stmt} {Q : Fl → St → Prop} (I : List V → St → Prop)
    (step : ∀ x xs σ, I (x :: xs) σ → Asg C σ target x (fun σ1 => Exs C σ1 body (fun fl σ2 => match fl with | .next => I xs σ2 | .cont => I xs σ2 | .brk => Q .next σ2 | .ret v => Q (.ret v) σ2)))
    (done : ∀ σ, I [] σ → Exs C σ orelse Q) : ∀ (xs : List V) (σ : St), I xs σ → Loop C target body orelse Q xs σ
  | [], σ, h => done σ h
  | x :: xs, σ, h => by
    refine Asg.mono (step x xs σ h) fun σ1 h1 => Tr.mono h1 fun fl σ2 h2 => ?_
    cases fl with
    | next => exact loop_inv I step done xs σ2 h2
    | cont => exact loop_inv I step done xs σ2 h2
    | brk => exact h2
    | ret v => exact h2
theorem find_putS {σ : St} {y : String} {sl : Slot} (x : String) : find (put σ (Str.ofString y) y sl) (Str.ofString x) = if y = x then some sl else find σ (Str.ofString x) := by
  rw [find_put]; simp only [ofString_inj]

/-- a known function, by its contract -/
theorem OpL.mono {C : Cx} {α β : Type} {R : PH → β → α → Prop} {vs : List V} {K K' : β → Prop} {f : List Value → Sem α} (h : OpL C R f vs K) (hk : ∀ b, K b → K' b) : OpL C R f vs K' :=
  fun own T s ws hO hr => (h own T s ws hO hr).mono hk
theorem OpL.eq {C : Cx} {f : List Value → Sem Value} {vs : List V} {b : V} {K : V → Prop} (h : OpL C (Rep C.W) f vs (fun v => v = b)) (hk : K b) : OpL C (Rep C.W) f vs K := h.mono fun _ e => e ▸ hk
end Sx
end
section
open PySem PySem.W PyProof.Rows PySem.Calls
set_option linter.unusedVariables false
set_option Elab.async false
set_option maxRecDepth 100000
namespace Sx

theorem reps_append : ∀ (a b : List (S × S)) (x : S), reps (a ++ b) x = reps b (reps a x)
  | [], _, _ => rfl
  | (y, z) :: r, b, x => reps_append r b (repl y z x)
theorem replK_len (y z : S) (hy : y ≠ []) : ∀ (x : S) (k : Nat), (replK y z k x).length ≤ x.length + x.length * z.length
  | [], k => by simp [replK]
  | c :: r, k + 1 => by
    have ih := replK_len y z hy r k
    have e : (r.length + 1) * z.length = r.length * z.length + z.length := Nat.succ_mul _ _
    simp only [replK, List.length_cons, e]; omega
  | c :: r, 0 => by
    have e : (r.length + 1) * z.length = r.length * z.length + z.length := Nat.succ_mul _ _
    rw [replK_0]
    split
    · have ih := replK_len y z hy r (y.length - 1)
      simp only [List.length_append, List.length_cons, e]; omega
    · have ih := replK_len y z hy r 0
      simp only [List.length_cons, e]; omega
theorem repl_len (y z x : S) : (repl y z x).length ≤ x.length + (x.length + 1) * z.length := by
  have e : (x.length + 1) * z.length = x.length * z.length + z.length := Nat.succ_mul _ _
  unfold repl
  split
  · unfold replE
    have : (x.flatMap fun c => c :: z).length = x.length * (z.length + 1) := by
      induction x with
      | nil => simp
      | cons c r ih =>
        have ih := ih (Nat.succ_mul _ _)
        simp only [List.flatMap_cons, List.length_append, ih, List.length_cons, Nat.succ_mul]; omega
    rw [List.length_append, this, Nat.mul_add, Nat.mul_one]; omega
  · rename_i h
    have := replK_len y z h x 0
    omega

section
variable {C : Cx} {σ : St}
theorem FnAt.callee {a : Addr} {fd : FuncData} {body : List Stmt} (f : FnAt C.W a fd body) : Callee C (.ref a) := let ⟨o, ho, hd⟩ := f.at_; .fn ho hd

theorem callee_of {W : Wd} {a : Addr} {fd : FuncData} {body : List Stmt} (f : FnAt W a fd body) (e : C.W = W := by rfl) : Callee C (.ref a) := by
  subst e; exact f.callee
/-- a call of a def by its name -/
theorem ev_fn {n : Nat} (ok : C.Ok n) {L : List (String × Value)} (hG : C.W.gls = L) {f : String} {fp pos : Pos} {es : List Expr} {w : Value} {Q : V → St → Prop} (hk : C.env.kindOf (Str.ofString f) = some .globalImplicit) (hl : L.lookup f = some w) (hc : Callee C w)
    (h : EvL C σ pos es (fun vs σ2 => OpL C (Rep C.W) (fun ws => call w ws) vs (fun v => Q v σ2)))
    (hst : (starEach es C.env).all (fun x => !x.1) = true)
    (he : eval (.Call (.Name (Str.ofString f) fp) es [] pos) C.env = (do callWith pos (← eval (.Name (Str.ofString f) fp) C.env) [] (backTo pos (starEach es C.env)) (backToKw pos (keywordEach [] C.env))))
    (hd : (Str.ofString f == ("__debug__" : Str)) = false) : Ev C σ (.Call (.Name (Str.ofString f) fp) es [] pos) Q :=
  ev_call (ev_glob ok hk (v := w) (by rw [hG]; exact hl) ⟨w, rfl, hc, h⟩ hd) hst he
theorem evF_fn {n : Nat} (ok : C.Ok n) {L : List (String × Value)} (hG : C.W.gls = L) {f : String} {fp pos : Pos} {es : List Expr} {w : Value} {Q : Slot → St → Prop} (hk : C.env.kindOf (Str.ofString f) = some .globalImplicit) (hl : L.lookup f = some w) (hc : Callee C w)
    (h : EvL C σ pos es (fun vs σ2 => OpLF C (fun ws => call w ws) vs (fun v => Q v σ2)))
    (hst : (starEach es C.env).all (fun x => !x.1) = true)
    (he : eval (.Call (.Name (Str.ofString f) fp) es [] pos) C.env = (do callWith pos (← eval (.Name (Str.ofString f) fp) C.env) [] (backTo pos (starEach es C.env)) (backToKw pos (keywordEach [] C.env))))
    (hd : (Str.ofString f == ("__debug__" : Str)) = false) : EvF C σ (eval (.Call (.Name (Str.ofString f) fp) es [] pos) C.env) Q :=
  evF_call (ev_glob ok hk (v := w) (by rw [hG]; exact hl) ⟨w, rfl, hc, h⟩ hd) hst he

/-! ### displays of dicts, by their expressions -/
noncomputable def dpairs (env : Env) (pos : Pos) : List (Option Expr) → List Expr → List (Sem Value × Sem Value)
  | some k :: ks, v :: vs => (eval k env, do let x ← eval v env; standAt pos; pure x) :: dpairs env pos ks vs
  | _, _ => []
theorem dpairs_shape {env : Env} {pos : Pos} : ∀ (ks : List (Option Expr)) (vs : List Expr), ks.all (·.isSome) = true → ks.length = vs.length →
    (evalEachOpt ks env).zip ((evalEach vs env).map fun v => do let x ← v; standAt pos; pure x) = (dpairs env pos ks vs).map fun p => (some p.1, p.2)
  | [], [], _, _ => rfl
  | [], _ :: _, _, h => by simp at h
  | _ :: _, [], _, h => by simp at h
  | none :: _, _, h, _ => by simp at h
  | some k :: ks, v :: vs, h, hl => by
    have ih := dpairs_shape (env := env) (pos := pos) ks vs (by simpa using h) (by simpa using hl)
    exact congrArg (fun r => (some (eval k env), (do let x ← eval v env; standAt pos; pure x)) :: r) ih
noncomputable abbrev EvD (C : Cx) (σ : St) (pos : Pos) (ks : List (Option Expr)) (vs : List Expr) (acc : List (Key × V)) (Q : List (Key × V) → St → Prop) : Prop := EvK C (dpairs C.env pos ks vs) acc σ Q
theorem evD_nil {pos : Pos} {acc : List (Key × V)} {Q : List (Key × V) → St → Prop} (h : Q acc σ) : EvD C σ pos [] [] acc Q := h
theorem evD_cons {pos : Pos} {k v : Expr} {ks : List (Option Expr)} {vs : List Expr} {acc : List (Key × V)} {Q : List (Key × V) → St → Prop}
    (h : Ev C σ k (fun kv σ1 => ∃ key : Key, kv = key.v ∧ Ev C σ1 v (fun vv σ2 => EvD C σ2 pos ks vs (acc ++ [(key, vv)]) Q))) : EvD C σ pos (some k :: ks) (v :: vs) acc Q :=
  Tr.mono h fun kv σ1 ⟨key, e, h2⟩ => ⟨key, e, evT_stand h2⟩
theorem evF_dictE {n : Nat} (ok : C.Ok n) {keys : List (Option Expr)} {values : List Expr} {pos : Pos} {Q : Slot → St → Prop} (h : EvD C σ pos keys values [] (fun kvs σ1 => ∀ a, Q (.dict a (dsets [] kvs)) σ1))
    (h1 : keys.all (·.isSome) = true) (h2 : keys.length = values.length) (h0 : (dpairs C.env pos keys values).isEmpty = false) (hlen : (dpairs C.env pos keys values).length ≤ 15) : EvF C σ (eval (.Dict keys values pos) C.env) Q :=
  evF_dict ok h (dpairs_shape keys values h1 h2) (fun e => by rw [e] at h0; cases h0) hlen
theorem evF_dictStarE {n : Nat} (ok : C.Ok n) {keys : List (Option Expr)} {v0 : Expr} {values : List Expr} {pos : Pos} {Q : Slot → St → Prop}
    (h : Ev C σ v0 (fun v σ1 => ∃ es, v = .dct es ∧ es.length + (dpairs C.env pos keys values).length ≤ sizeLine ∧ EvD C σ1 pos keys values [] (fun kvs σ2 => ∀ a, Q (.dict a (dsets (dsets [] es) (dsets [] kvs))) σ2)))
    (h1 : keys.all (·.isSome) = true) (h2 : keys.length = values.length) (h0 : (dpairs C.env pos keys values).isEmpty = false) (hlen : (dpairs C.env pos keys values).length ≤ 15) : EvF C σ (eval (.Dict (none :: keys) (v0 :: values) pos) C.env) Q := by
  refine evF_dictStar ok (m := do let x ← eval v0 C.env; standAt pos; pure x) (pairs := dpairs C.env pos keys values) (evT_stand h) ?_ (fun e => by rw [e] at h0; cases h0) hlen
  exact congrArg (fun r => (none, (do let x ← eval v0 C.env; standAt pos; pure x)) :: r) (dpairs_shape keys values h1 h2)

/-- what gives a new list or dict, where a value is asked -/
theorem ev_ofF {e : Expr} {Q : V → St → Prop} (h : EvF C σ (eval e C.env) (fun sl σ1 => Q sl.v σ1)) : Ev C σ e Q := h.ev
end
end Sx
end
section
open PySem PySem.W PyProof.Rows PySem.Calls
set_option linter.unusedVariables false
set_option Elab.async false
set_option maxRecDepth 100000
namespace Sx

noncomputable def isCF : Option NameKind → Bool
  | some .cell => true
  | some .free => true
  | _ => false
noncomputable def compB (env : Env) (scope : Scope) (fv : List String) : Bool :=
  (scope.kind == .function) && (scope.names.all fun y => (y.2 != .cell) && (y.2 != .local || scope.names.lookup y.1 == some .local) && (y.2 != .free || isCF (env.kindOf y.1))) && fv.all fun x => isCF (env.kindOf (Str.ofString x)) && isCF ((relabel scope env).names.lookup (Str.ofString x))
theorem isCF_or {k : Option NameKind} (h : isCF k = true) : k = some .cell ∨ k = some .free := by
  unfold isCF at h
  split at h
  · exact .inl rfl
  · exact .inr rfl
  · cases h
theorem compOk_of {C : Cx} {scope : Scope} {fv : List String} (h : compB C.env scope fv = true) : CompOk C scope fv := by
  unfold compB at h
  rw [Bool.and_eq_true, Bool.and_eq_true, List.all_eq_true, List.all_eq_true] at h
  obtain ⟨⟨h1, h2⟩, h3⟩ := h
  refine ⟨by simpa using h1, fun y hy => ?_, fun y hy hl => ?_, fun y hy hf => ?_, fun x hx => ?_⟩
  · have := h2 y hy
    simp only [Bool.and_eq_true] at this
    simpa using this.1.1
  · have := h2 y hy
    simp only [Bool.and_eq_true, Bool.or_eq_true] at this
    have h4 := this.1.2
    rw [hl] at h4
    simpa using h4
  · have := h2 y hy
    simp only [Bool.and_eq_true, Bool.or_eq_true] at this
    have h4 := this.2
    rw [hf] at h4
    exact isCF_or (by simpa using h4)
  · have := h3 x hx
    rw [Bool.and_eq_true] at this
    exact ⟨isCF_or this.1, isCF_or this.2⟩

section
variable {C : Cx}
theorem lloop_map {target elt : Expr} {K : List V → Prop} (J : St → Prop) (f : V → V) : ∀ (xs ys : List V) (σ : St), J σ → (∀ x ∈ xs, ∀ σ, J σ → Asg C σ target x (fun σ1 => Ev C σ1 elt (fun y σ2 => y = f x ∧ J σ2))) → K (ys ++ xs.map f) → LLoop C target [] elt K xs ys σ
  | [], ys, σ, hJ, hs, hd => by rw [List.map_nil, List.append_nil] at hd; exact hd
  | x :: xs, ys, σ, hJ, hs, hd => by
    refine Asg.mono (hs x List.mem_cons_self σ hJ) fun σ1 h1 => tsts_nil ⟨fun _ => Tr.mono h1 fun y σ2 h2 => ?_, fun h => nomatch h⟩
    obtain ⟨rfl, h2⟩ := h2
    exact lloop_map J f xs _ σ2 h2 (fun z hz => hs z (List.mem_cons_of_mem _ hz)) (by rw [List.append_assoc]; exact hd)
end
end Sx
end
section
open PySem PySem.W PyProof.Rows PySem.Calls
set_option linter.unusedVariables false
set_option Elab.async false
set_option maxRecDepth 100000
namespace Sx

noncomputable def isComp : Expr → Bool
  | .ListComp _ _ _ _ => true
  | .SetComp _ _ _ _ => true
  | .DictComp _ _ _ _ _ => true
  | _ => false
theorem swaps_no {e : Expr} {t : Option Expr} {line : Nat} {env : Env} (h : isComp e = false) : swapsWith e t line env = pure false := by
  cases e <;> first | rfl | cases h
noncomputable def swB (env : Env) (scope : Scope) (x : Str) (l1 l2 : Nat) : Bool := env.blockKind == .function && env.kindOf x == some .local && l1 == l2 && !(scope.names.any fun (n, k) => n == x && (k == .local || k == .cell))
end Sx
end
section
open PySem PySem.W PyProof.Rows PySem.Calls
set_option linter.unusedVariables false
set_option Elab.async false
set_option maxRecDepth 100000
namespace Sx

section
variable {C : Cx}
theorem opM_setHashed {a : Addr} {es : List (Key × V)} {k : Key} {v : V} {K : Slot → Prop} (hl : es.length ≤ sizeLine) (h : K (.dict a (dset es k v))) :
    OpM C (.dict a es) [k.v, v] (fun d ws => match d, ws with | .ref d, [kw, w] => dictSetHashed d kw (C.W.knd.hash k) w | _, _ => pure ()) (fun _ => True) K := by
  intro own T s b ws hO hb ho hs hr
  cases ho
  obtain ⟨_, ds, kvs, ⟨h0, o, n, ho, hx, hd⟩, hrd, hn⟩ := hs
  obtain ⟨kw, _, rfl, hkw, hr⟩ := hr.cons_inv
  obtain ⟨w, _, rfl, hw, hr⟩ := hr.cons_inv
  obtain rfl := hr.nil_inv
  have hkey : C.W.knd.is k kw = true := Key.is_of_rep hkw
  show wpAny C.M C.A (dictSetHashed a kw (C.W.knd.hash k) w) _ _ s
  unfold dictSetHashed
  refine wpAny_holding ?_
  refine wpAny_bind (wpAny_dictFind_of hkey ho hd hrd.keysOf ?_)
  have hidx : (ds.toArray.findIdx? fun e => C.W.knd.is k e.key) = ds.findIdx? fun e => C.W.knd.is k e.key := by simp
  have hsz : ds.toArray.size ≤ sizeLine := by rw [List.size_toArray, hrd.length.1]; exact hl
  obtain ⟨ds', kvs', r', q⟩ := hrd.dset hkw hw
  rw [hidx]
  rcases q with ⟨i, q1, q2⟩ | ⟨q1, q2⟩
  · rw [q1]
    refine wpAny_bind (wpAny_rule (wpAny_bind (wpAny_updateDict ho hd (wpAny_point ⟨trivial, _, T, h, rfl, ⟨⟨_, s.toks, rfl⟩, fun b o hb e => (Heap.get?_update_other _ _ (Ne.symm hb)).trans e, ?_, fun _ _ e => e, hO.tok⟩, rfl, ds', kvs', ?_, ?_, dset_nodup hn _ _⟩))))
    · show ((s.heap.update a _).get? a).isSome = true
      rw [Heap.get?_update_self _ ho (Obj.isFreed_of_dict (Obj.data_mapDict hd _))]; rfl
    · refine ⟨h0, _, n, Heap.get?_update_self _ ho (Obj.isFreed_of_dict (Obj.data_mapDict hd _)), hx.mapDict _, ?_⟩
      rw [Obj.data_mapDict hd, q2]
      simp
    · refine RepD.mono (g := view own T s) ?_ r'
      exact ⟨fun b o e => view_mk (view_not e) ((Heap.get?_update_other _ _ (fun q => view_not e (by rw [← q]; exact hb))).trans (view_of e)), fun _ _ e => e⟩
  · rw [q1]
    refine wpAny_bind (wpAny_rule (wpAny_updateDictKeys (hz := hsz) ho hd ⟨trivial, _, T, h, rfl, ⟨⟨_, s.toks, rfl⟩, fun b o hb e => (Heap.get?_update_other _ _ (Ne.symm hb)).trans e, ?_, fun _ _ e => e, hO.tok⟩, rfl, ds', kvs', ?_, ?_, dset_nodup hn _ _⟩))
    · show ((s.heap.update a _).get? a).isSome = true
      rw [Heap.get?_update_self _ ho (Obj.isFreed_of_dict (Obj.data_mapDictKeys hd _))]; rfl
    · refine ⟨h0, _, n + 1, Heap.get?_update_self _ ho (Obj.isFreed_of_dict (Obj.data_mapDictKeys hd _)), hx.mapDictKeys _, ?_⟩
      rw [Obj.data_mapDictKeys hd, q2]
      simp
    · refine RepD.mono (g := view own T s) ?_ r'
      exact ⟨fun b o e => view_mk (view_not e) ((Heap.get?_update_other _ _ (fun q => view_not e (by rw [← q]; exact hb))).trans (view_of e)), fun _ _ e => e⟩

theorem dset_new {es : List (Key × V)} {k : Key} {v : V} (h : k ∉ es.map (·.1)) : dset es k v = es ++ [(k, v)] := by
  induction es with
  | nil => rfl
  | cons p r ih =>
    obtain ⟨k', v'⟩ := p
    unfold dset
    rw [List.map_cons, List.mem_cons, not_or] at h
    rw [if_neg (fun e => h.1 e.symm), ih h.2]; rfl
theorem dsets_new : ∀ (more es : List (Key × V)), ((es ++ more).map (·.1)).Nodup → dsets es more = es ++ more
  | [], es, _ => by simp [dsets]
  | (k, v) :: r, es, h => by
    have hk : k ∉ es.map (·.1) := by
      rw [List.map_append, List.nodup_append] at h
      intro hm
      exact h.2.2 k hm k (by simp) rfl
    show dsets (dset es k v) r = _
    rw [dset_new hk, dsets_new r (es ++ [(k, v)]) (by rw [List.append_assoc]; exact h), List.append_assoc]; rfl
theorem dsets_nil {more : List (Key × V)} (h : (more.map (·.1)).Nodup) : dsets [] more = more := dsets_new more [] h

/-- dict.update and dict(..): all entries of a dict, put into another -/
theorem merge_dict {nm : String} {A : Around} {own : List Addr} {D a : Addr} {T : TM} {s : Shared} {es es2 : List (Key × V)} {o2 : Obj} {n2 : Nat} {ds2 : List DictEntry} {kvs2 : List (Key × Value)} (hO : OwnOk C own T s) (hD : D ∈ own) (hs : SlotRep C.W (view own T s) s.heap (.dict D es) (.ref D))
    (haD : a ≠ D) (ho2 : s.heap.get? a = some o2) (has : (a == sysModules) = false) (hx2 : o2.ExactDict) (hd2 : o2.data = .dict ds2.toArray n2) (r2 : RepD C.W (view own T s) es2 ds2 kvs2) (hn2 : (es2.map (·.1)).Nodup) (hsz : es.length + es2.length ≤ sizeLine)
    {E : Value → Shared → Prop} {Q : Unit → Shared → Prop} (h : ∀ s' T', KpB D T s T' s' → SlotRep C.W (view own T' s') s'.heap (.dict D (dsets es es2)) (.ref D) → Q () s') : wpAny C.M A (Builtin.Dict.mergeDict nm D a) Q E s := by
  obtain ⟨_, ds, kvs, ⟨h0, o, n, ho, hx, hd⟩, hrd, hn⟩ := id hs
  unfold Builtin.Dict.mergeDict
  rw [if_neg (by simpa using Ne.symm haD)]
  unfold Builtin.Dict.showsAll
  rw [if_neg (by rw [has]; exact Bool.false_ne_true)]
  refine wpAny_bind (wpAny_pure ?_)
  refine wpAny_bind (wpAny_dictEntries ho2 hd2 ?_)
  have hlen2 : ds2.toArray.size = es2.length := by rw [List.size_toArray, r2.length.1]
  have loop : wpAny C.M A (do
      let epoch ← dictEpoch a
      let l ← dictEntries a
      forIn [:l.size] PUnit.unit fun i (_ : PUnit) => (do
          let l' ← dictEntries a
          match l'[i]? with
            | some e => do
              holding [e.key, e.val] (dictSetHashed D e.key e.hash e.val)
              let ep' ← dictEpoch a
              if (ep' != epoch) = true then do
                  (unsupported (toString nm ++ toString ":source-changed-during-callback") : Sem PUnit)
                  pure (ForInStep.yield PUnit.unit)
                else pure (ForInStep.yield PUnit.unit)
            | _ => do
              (unsupported "internal:dict-merge" : Sem PUnit)
              pure (ForInStep.yield PUnit.unit) : Sem (ForInStep PUnit))
      pure ()) Q E s := by
    refine wpAny_bind (wpAny_dictEpoch ho2 hd2 (wpAny_bind (wpAny_dictEntries ho2 hd2 (wpAny_bind ?_))))
    rw [Std.Legacy.Range.forIn_eq_forIn_range']
    simp only [Std.Legacy.Range.size, Nat.sub_zero, Nat.add_sub_cancel, Nat.div_one]
    rw [hlen2]
    refine wpAny_forIn_list _ (fun rest _ s' => ∃ i T', rest = List.range' i (es2.length - i) ∧ i ≤ es2.length ∧ KpB D T s T' s' ∧ SlotRep C.W (view own T' s') s'.heap (.dict D (dsets es (es2.take i))) (.ref D)) _ ?_ ?_ _ _
      ⟨0, T, by simp, Nat.zero_le _, ⟨⟨_, _, rfl⟩, fun _ _ _ e => e, by rw [ho]; rfl, fun _ _ e => e, hO.tok⟩, by simpa [dsets] using hs⟩
    · rintro i rest _ s' ⟨j, T', hr, hj, k, hs'⟩
      have hlt : j < es2.length := by
        rcases Nat.lt_or_ge j es2.length with h | h
        · exact h
        · rw [Nat.sub_eq_zero_of_le h] at hr; cases hr
      rw [show es2.length - j = (es2.length - (j + 1)) + 1 by omega, List.range'_succ] at hr
      injection hr with hi hr
      subst hi
      have hoi := k.keep a o2 haD ho2
      have hx' : ∃ k v, es2[i]? = some (k, v) := ⟨es2[i].1, es2[i].2, List.getElem?_eq_getElem hlt⟩
      obtain ⟨key, v, hkv⟩ := hx'
      obtain ⟨d, e1, e2, e3, e4⟩ := r2.get hkv
      have hdh : d.hash = C.W.knd.hash key := by
        have := r2.keysOf d (by have := List.mem_of_getElem? e1; simpa using this)
        obtain ⟨k', h1, h2⟩ := this
        have := C.W.knd.inj _ _ _ h1 (Key.is_of_rep e3)
        rw [h2, this]
      refine wpAny_bind (wpAny_dictEntries hoi hd2 ?_)
      have e1' : ds2.toArray[i]? = some d := by simpa using e1
      rw [e1']
      dsimp only
      have hl' : (dsets es (es2.take i)).length ≤ sizeLine := by have := dsets_length es (es2.take i); rw [List.length_take] at this; omega
      have lev := k.view hD
      refine wpAny_bind (wpAny_holding ?_)
      have := opM_setHashed (C := { C with A := A, X := E }) (a := D) (K := fun sl => sl = .dict D (dset (dsets es (es2.take i)) key v)) hl' rfl own T' s' D [d.key, d.val] (k.own hD ⟨hO.base, hO.live, hO.tok⟩) hD rfl hs' (.cons (e3.mono lev) (.cons (e4.mono lev) .nil))
      have this : wpAny C.M A (dictSetHashed D d.key (C.W.knd.hash key) d.val) _ E s' := this
      rw [← hdh] at this
      refine wpAny_mono this ?_ fun _ _ x => x
      rintro _ s2 ⟨_, sl2, T2, rfl, _, k2, hs2⟩
      have hoi2 := k2.keep a o2 haD hoi
      refine wpAny_bind (wpAny_dictEpoch hoi2 hd2 ?_)
      rw [if_neg (by simp)]
      refine wpAny_pure ⟨i + 1, T2, hr, hlt, k.trans k2, ?_⟩
      have e : dsets es (es2.take (i + 1)) = dset (dsets es (es2.take i)) key v := by
        rw [List.take_add_one, hkv]; simp [dsets, List.foldl_append]
      rw [e]; exact hs2
    · rintro _ s' ⟨i, T', hr, hi, k, hs'⟩
      have : es2.length ≤ i := by
        rcases Nat.lt_or_ge i es2.length with h | h
        · rw [show es2.length - i = (es2.length - (i + 1)) + 1 by omega, List.range'_succ] at hr; cases hr
        · exact h
      rw [List.take_of_length_le this] at hs'
      exact wpAny_pure (h s' T' k hs')
  dsimp only
  split
  · refine wpAny_bind (wpAny_dictEntries ho hd ?_)
    split
    · rename_i hemp
      have hes : es = [] := by
        have h0 : ds = [] := by simpa using hemp
        have := hrd.length.1; rw [h0] at this; exact List.length_eq_zero_iff.mp this.symm
      subst hes
      refine wpAny_bind (wpAny_entriesForEmpty (knd := C.W.knd) ho2 hd2 r2.keysOf ?_)
      rw [dsets_nil hn2] at h
      split
      · have hto : ds2.toArray.size ≤ sizeLine + 1 := by
          rw [hlen2]; simp only [List.length_nil, Nat.zero_add] at hsz; omega
        refine wpAny_bind (wpAny_updateDictKeysTo ho hd (wpAny_pure (h _ T ⟨⟨_, s.toks, rfl⟩, fun b o hb e => (Heap.get?_update_other _ _ (Ne.symm hb)).trans e, ?_, fun _ _ e => e, hO.tok⟩ ⟨rfl, ds2, kvs2, ?_, ?_, hn2⟩)) hto)
        · show ((s.heap.update D _).get? D).isSome = true
          rw [Heap.get?_update_self _ ho (Obj.isFreed_of_dict (Obj.data_mapDictKeys hd _))]; rfl
        · exact ⟨h0, _, n + 1, Heap.get?_update_self _ ho (Obj.isFreed_of_dict (Obj.data_mapDictKeys hd _)), hx.mapDictKeys _, Obj.data_mapDictKeys hd _⟩
        · refine RepD.mono (g := view own T s) ?_ r2
          exact ⟨fun b o e => view_mk (view_not e) ((Heap.get?_update_other _ _ (fun q => view_not e (by rw [← q]; exact hD))).trans (view_of e)), fun _ _ e => e⟩
      · rename_i hne
        have hz : ds2 = [] := by
          have h0 : ds2.toArray = #[] := Array.isEmpty_iff.mp (by simpa using hne)
          simpa using h0
        have hm0 : es2 = [] := by
          have := r2.length.1; rw [hz] at this; exact List.length_eq_zero_iff.mp this.symm
        subst hm0
        exact wpAny_pure (h s T ⟨⟨_, _, rfl⟩, fun _ _ _ e => e, by rw [ho]; rfl, fun _ _ e => e, hO.tok⟩ hs)
    · exact loop
  · exact loop

theorem opM_update {a : Addr} {es es2 : List (Key × V)} {K : Slot → Prop} (hl : es.length + es2.length ≤ sizeLine) (h : K (.dict a (dsets es es2))) :
    OpM C (.dict a es) [.dct es2] (fun l ws => call (.builtin "dict.update") (l :: ws)) (fun r => r = .none) K := by
  intro own T s b ws hO hb ho hs hr
  cases ho
  obtain ⟨_, _, rfl, r1, hr⟩ := hr.cons_inv
  obtain rfl := hr.nil_inv
  obtain ⟨y, o2, ds2, kvs2, n2, rfl, k1, k0, k2, k3, q2, qn⟩ := r1.dct_inv
  obtain ⟨_, ds, kvs, ⟨h0, o, n, ho, hx, hd⟩, hrd, hn⟩ := id hs
  have hT : s.TypeIs (.ref a) "dict" := ⟨o, ho, hx.1⟩
  have hT2 : s.TypeIs (.ref y) "dict" := ⟨o2, view_of k1, k2.1⟩
  refine wpAny_call_entry PySem.F.slot_dict_update hT PySem.F.entry_dict_update ?_ (PySem.F.args_dict_update_2 _ _)
  unfold Builtin.«dict.update»
  refine wpAny_bind ?_
  unfold Builtin.Dict.selfAndRest
  refine wpAny_bind (wpAny_notOrdered_dict hT ?_)
  show wpAny _ _ (pure (a, [Value.ref y])) _ _ s
  refine wpAny_pure ?_
  show wpAny _ _ (Builtin.Dict.updateFrom "dict.update" a (.ref y) [] .none) _ _ s
  unfold Builtin.Dict.updateFrom
  refine wpAny_bind (wpAny_typeOf hT2 ?_)
  rw [if_neg (by decide)]
  refine wpAny_bind ?_
  unfold Builtin.Dict.merge
  refine wpAny_bind ?_
  unfold Builtin.Dict.readDirectly
  refine wpAny_bind (wpAny_isInstance hT2 isSubtype_dict_dict ?_)
  simp only [Bool.not_true, Bool.false_eq_true, if_false]
  refine wpAny_bind (wpAny_specialOf hT2 F.slot_dict_iter.lookup (wpAny_pure ?_))
  simp only [beq_self_eq_true, if_true]
  refine wpAny_bind (wpAny_pure ?_)
  refine merge_dict (C := C) (own := own) (T := T) hO hb hs (fun e => view_not k1 (by rw [e]; exact hb)) (view_of k1) k0 k2 k3 q2 qn hl fun s' T' kb hs' => ?_
  show wpAny _ _ (Builtin.Dict.addKeywords a [] >>= _) _ _ _
  exact wpAny_bind (wpAny_pure (wpAny_pure ⟨.none, rfl, rfl, _, T', h, rfl, kb, hs'⟩))

/-- dict(d) -/
theorem opF_dictOf {n : Nat} (ok : C.Ok n) {es : List (Key × V)} {K : Slot → Prop} (hl : es.length ≤ sizeLine) (h : ∀ a, K (.dict a es)) : OpLF C (fun ws => call (.type "dict") ws) [.dct es] K := by
  intro own T s ws hO hr
  obtain ⟨_, _, rfl, r1, hr⟩ := hr.cons_inv
  obtain rfl := hr.nil_inv
  obtain ⟨y, o2, ds2, kvs2, n2, rfl, k1, k0, k2, k3, q2, qn⟩ := r1.dct_inv
  have hnew := fresh_size s.heap
  have hns : (s.heap.objs.size == sysModules) = false := by
    obtain ⟨o, ho⟩ := Option.isSome_iff_exists.mp ok.W.sysm
    have ho := hO.kb _ _ ho
    by_cases e : s.heap.objs.size = sysModules
    · rw [e] at hnew; rw [hnew] at ho; cases ho
    · simpa using e
  refine callType_codes (Q₁ := fun obj s₁ => obj = .ref s.heap.objs.size ∧ s₁ = { s with heap := s.heap.push { cls := .type "dict", data := .dict #[] } }) F.kt_called_dict (F.kt_typeCall_dict_1 _) F.entry_dict_init (kt_code_dict_new _ ⟨rfl, rfl⟩) ?_
  rintro obj s₁ ⟨rfl, rfl⟩
  have hD : (s.heap.push { cls := .type "dict", data := .dict #[] }).get? s.heap.objs.size = some { cls := .type "dict", data := .dict #[] } := Heap.get?_push_size _ rfl
  have hT : Shared.TypeIs { s with heap := s.heap.push { cls := .type "dict", data := .dict #[] } } (.ref s.heap.objs.size) "dict" := ⟨_, hD, rfl⟩
  have k : Kp T s T { s with heap := s.heap.push { cls := .type "dict", data := .dict #[] } } := .push hO.tok (Nat.le_refl _)
  have le : Le (view own T s) (view (s.heap.objs.size :: own) T { s with heap := s.heap.push { cls := .type "dict", data := .dict #[] } }) := ⟨fun b o e => view_mk (fun hm => by
    rcases List.mem_cons.mp hm with rfl | hm
    · rw [view_of e] at hnew; cases hnew
    · exact view_not e hm) (k.keep b o (view_of e)), fun _ _ e => e⟩
  have hO' : OwnOk C (s.heap.objs.size :: own) T { s with heap := s.heap.push { cls := .type "dict", data := .dict #[] } } := ⟨fun b o e => le.ob b o (hO.base b o e), fun b hb => by
    rcases List.mem_cons.mp hb with rfl | hb
    · show ((s.heap.push _).get? _).isSome = true
      rw [hD]; rfl
    · obtain ⟨o, ho⟩ := Option.isSome_iff_exists.mp (hO.live b hb)
      show ((s.heap.push _).get? _).isSome = true
      rw [k.keep b o ho]; rfl, hO.tok⟩
  have hy : y ≠ s.heap.objs.size := fun e => by rw [e] at k1; rw [view_of k1] at hnew; cases hnew
  have ho2 := le.ob y o2 k1
  have hT2 : Shared.TypeIs { s with heap := s.heap.push { cls := .type "dict", data := .dict #[] } } (.ref y) "dict" := ⟨o2, view_of ho2, k2.1⟩
  refine ⟨hT, F.args_dict_init_2 _ _, ?_⟩
  unfold Builtin.«dict.__init__»
  refine wpAny_bind ?_
  unfold Builtin.Dict.selfAndRest
  refine wpAny_bind (wpAny_notOrdered_dict hT ?_)
  show wpAny _ _ (pure (s.heap.objs.size, [Value.ref y])) _ _ _
  refine wpAny_pure ?_
  show wpAny _ _ (Builtin.Dict.updateFrom "dict.__init__" s.heap.objs.size (.ref y) [] .none) _ _ _
  unfold Builtin.Dict.updateFrom
  refine wpAny_bind (wpAny_typeOf hT2 ?_)
  rw [if_neg (by decide)]
  refine wpAny_bind ?_
  unfold Builtin.Dict.merge
  refine wpAny_bind ?_
  unfold Builtin.Dict.readDirectly
  refine wpAny_bind (wpAny_isInstance hT2 isSubtype_dict_dict ?_)
  simp only [Bool.not_true, Bool.false_eq_true, if_false]
  refine wpAny_bind (wpAny_specialOf hT2 F.slot_dict_iter.lookup (wpAny_pure ?_))
  simp only [beq_self_eq_true, if_true]
  refine wpAny_bind (wpAny_pure ?_)
  refine merge_dict (C := C) (own := s.heap.objs.size :: own) (T := T) (es := []) hO' List.mem_cons_self ⟨rfl, [], [], ⟨hns, _, 0, hD, ⟨rfl, rfl, rfl⟩, rfl⟩, .nil, List.nodup_nil⟩ hy (view_of ho2) k0 k2 k3 (q2.mono le) qn (by simpa using hl) fun s' T' kb hs' => ?_
  show wpAny _ _ (Builtin.Dict.addKeywords s.heap.objs.size [] >>= _) _ _ _
  rw [dsets_nil qn] at hs'
  refine wpAny_bind (wpAny_pure (wpAny_pure ⟨rfl, ?_⟩))
  have kb' : Kp T s T' s' := ⟨let ⟨h', tk, e⟩ := kb.same; ⟨h', tk, e⟩, fun b o e => kb.keep b o (fun q => by rw [q] at e; rw [e] at hnew; cases hnew) (k.keep b o e), kb.tle, kb.tok⟩
  exact ⟨.dict s.heap.objs.size es, T', _, h _, rfl, kb', hnew, kb.live, hs'⟩

/-! two tables with the same entries are equal -/
noncomputable def AlikeD : List (Key × V) → List (Key × V) → Prop
  | [], [] => True
  | (k, v) :: r, (k', v') :: r' => k = k' ∧ Alike 0 v v' ∧ AlikeD r r'
  | _, _ => False
end
end Sx
end
section
open PySem PySem.W PyProof.Rows PySem.Calls
set_option linter.unusedVariables false
set_option Elab.async false
set_option maxRecDepth 100000
namespace Sx
/-! loops by a counter -/
theorem loop_list {C : Cx} {target : Expr} {body orelse : List Stmt} {Q : Fl → St → Prop} {α : Type} (f : α → V) (l : List α) (I : Nat → St → Prop)
    (step : ∀ i x σ, l[i]? = some x → I i σ → Asg C σ target (f x) (fun σ1 => Exs C σ1 body (fun fl σ2 => match fl with | .next => I (i + 1) σ2 | .cont => I (i + 1) σ2 | .brk => Q .next σ2 | .ret v => Q (.ret v) σ2)))
    (done : ∀ σ, I l.length σ → Exs C σ orelse Q) {σ : St} (h : I 0 σ) {xs : List V} (hx : xs = l.map f) : Loop C target body orelse Q xs σ := by
  subst hx
  refine loop_inv (fun xs σ => ∃ i, xs = (l.drop i).map f ∧ i ≤ l.length ∧ I i σ) ?_ ?_ _ _ ⟨0, by rw [List.drop_zero], Nat.zero_le _, h⟩
  · rintro x xs σ ⟨i, hx, hi, hI⟩
    have hlt : i < l.length := by
      rcases Nat.lt_or_ge i l.length with h | h
      · exact h
      · rw [List.drop_eq_nil_of_le h] at hx; cases hx
    rw [List.drop_eq_getElem_cons hlt, List.map_cons] at hx
    injection hx with h1 h2
    subst h1; subst h2
    refine Asg.mono (step i l[i] σ (List.getElem?_eq_getElem hlt) hI) fun σ1 h1 => Tr.mono h1 fun fl σ2 h2 => ?_
    cases fl with
    | next => exact ⟨i + 1, rfl, hlt, h2⟩
    | cont => exact ⟨i + 1, rfl, hlt, h2⟩
    | brk => exact h2
    | ret v => exact h2
  · rintro σ ⟨i, hx, hi, hI⟩
    have : i = l.length := by
      rcases Nat.lt_or_ge i l.length with h | h
      · rw [List.drop_eq_getElem_cons h] at hx; cases hx
      · omega
    subst this
    exact done σ hI
theorem evP_none {C : Cx} {σ : St} {Q : Option Int → St → Prop} (h : Q none σ) : EvP C σ none Q := h
theorem evP_some {C : Cx} {σ : St} {e : Expr} {Q : Option Int → St → Prop} (h : Ev C σ e (fun v σ1 => ∃ i, v = .int i ∧ Q (some i) σ1)) : EvP C σ (some e) Q := h
theorem item_str {C : Cx} {l : S} {i : Nat} {c : Nat} {K : V → Prop} (hl : l.length ≤ sizeLine) (hc : l[i]? = some c) (h : K (.str [c])) :
    Op2 C (Rep C.W) getItem (.str l) (.int i) K ∧ ∃ T id, typeLookup (.type T) "__getitem__" = pure (some (.builtin id)) ∧ IsTy C.W (.str l) T :=
  have hi : i < l.length := (List.getElem?_eq_some_iff.mp hc).1
  ⟨op_item_str (by omega) (by omega) hl (by rw [if_neg (by omega)]; simpa using hc) h, _, _, PySem.F.slot_str_getitem.lookup, isTy_str⟩
theorem item_list {C : Cx} {l : List V} {i : Nat} {v : V} {K : V → Prop} (hl : l.length ≤ sizeLine) (hc : l[i]? = some v) (h : K v) :
    Op2 C (Rep C.W) getItem (.lst l) (.int i) K ∧ ∃ T id, typeLookup (.type T) "__getitem__" = pure (some (.builtin id)) ∧ IsTy C.W (.lst l) T :=
  have hi : i < l.length := (List.getElem?_eq_some_iff.mp hc).1
  ⟨op_item_list (by omega) (by omega) hl (by rw [if_neg (by omega)]; simpa using hc) h, _, _, PySem.F.slot_list_getitem.lookup, isTy_lst⟩
theorem item_dict {C : Cx} {es : List (Key × V)} {k : Key} {v : V} {K : V → Prop} (hc : dget es k = some v) (h : K v) :
    Op2 C (Rep C.W) getItem (.dct es) k.v K ∧ ∃ T id, typeLookup (.type T) "__getitem__" = pure (some (.builtin id)) ∧ IsTy C.W (.dct es) T :=
  ⟨op_item_dict hc h, _, _, PySem.F.slot_dict_getitem.lookup, isTy_dct⟩
theorem slc_lohi (x : S) (i n : Nat) : slc (some (i : Int)) (some ((i : Int) + (n : Int))) x = (x.drop i).take n := by
  rcases Nat.le_total i x.length with h | h
  · unfold slc
    have e1 : clp x.length (i : Int) = i := by unfold clp; rw [if_neg (by omega)]; omega
    have e2 : clp x.length ((i : Int) + (n : Int)) = min (i + n) x.length := by unfold clp; rw [if_neg (by omega)]; omega
    simp only [e1, e2]
    rw [List.take_eq_take_iff, List.length_drop]; omega
  · rw [List.drop_eq_nil_of_le h]
    unfold slc
    have e1 : clp x.length (i : Int) = x.length := by unfold clp; rw [if_neg (by omega)]; omega
    simp only [e1]
    simp
theorem fmodR (i : Int) {m : Int} (hm : 0 < m) : 0 ≤ i.fmod m ∧ i.fmod m < m := ⟨Int.fmod_nonneg_of_pos i (by omega), Int.fmod_lt_of_pos i (by omega)⟩
theorem fmodN (i : Int) {m : Nat} (hm : 0 < m) : ∃ k : Nat, i.fmod m = (k : Int) ∧ k < m := by
  obtain ⟨h0, h1⟩ := fmodR i (m := m) (by omega)
  exact ⟨(i.fmod m).toNat, by omega, by omega⟩
/-- the entry of a sign, or the sign itself -/
noncomputable def rf (rs : List (S × S)) (c : Nat) : S := ((rs.find? fun p => p.1 = [c]).map (·.2)).getD [c]
theorem get_str {C : Cx} {es : List (Key × V)} {k : S} {d : V} {K : V → Prop} (h : K ((dget es (.s k)).getD d)) : OpL C (Rep C.W) (fun ws => call (.builtin "dict.get") ws) [.dct es, .str k, d] K :=
  opL_get2 (k := .s k) h
end Sx
end
section
open PySem PySem.W PyProof.Rows PySem.Calls
set_option linter.unusedVariables false
set_option Elab.async false
set_option maxRecDepth 100000
namespace Sx
noncomputable def tset1 : List (S × S) → S → S → List (S × S)
  | [], k, v => [(k, v)]
  | (k', v') :: r, k, v => if k' = k then (k', v) :: r else (k', v') :: tset1 r k v
noncomputable def tput (es more : List (S × S)) : List (S × S) := more.foldl (fun es p => tset1 es p.1 p.2) es
theorem tabV_length (es : List (S × S)) : (tabV es).length = es.length := by simp [tabV]
theorem find_cap1 {fv : List String} {σ : St} {x : String} {u : V} (hx : x ∈ fv) (h : find σ (Str.ofString x) = some (.val u)) : find (capSt fv σ) (Str.ofString x) = some (.val u) := by
  induction fv with
  | nil => cases hx
  | cons y r ih =>
    by_cases hy : Str.ofString y = Str.ofString x
    · have : capSt (y :: r) σ = (y, .val u) :: capSt r σ := by unfold capSt; rw [List.filterMap_cons]; simp only [hy, h]
      rw [this]
      show (if Str.ofString y = Str.ofString x then some (Slot.val u) else _) = _
      rw [if_pos hy]
    · have hx' : x ∈ r := by
        rcases List.mem_cons.mp hx with e | e
        · exact absurd (by rw [e]) hy
        · exact e
      have := ih hx'
      unfold capSt at this ⊢
      rw [List.filterMap_cons]
      split
      · exact this
      · rename_i p hp
        have : p.1 = y := by
          split at hp
          · injection hp with hp; rw [← hp]
          · cases hp
        obtain ⟨p1, p2⟩ := p
        simp only at this
        subst this
        show (if Str.ofString p1 = Str.ofString x then _ else _) = _
        rw [if_neg hy]
        assumption
section
variable {C : Cx} {σ : St}
end
theorem exB {b : Bool} {P : Bool → Prop} (h : P b) : ∃ b', V.bool b = V.bool b' ∧ P b' := ⟨_, rfl, h⟩
theorem exI {i : Int} {P : Int → Prop} (h : P i) : ∃ i', V.int i = V.int i' ∧ P i' := ⟨_, rfl, h⟩
theorem exS {l : S} {P : S → Prop} (hl : l.length ≤ sizeLine) (h : P l) : ∃ l', V.str l = V.str l' ∧ l'.length ≤ sizeLine ∧ P l' := ⟨_, rfl, hl, h⟩
theorem exL {l : List V} {P : List V → Prop} (hl : l.length ≤ sizeLine) (h : P l) : ∃ l', V.lst l = V.lst l' ∧ l'.length ≤ sizeLine ∧ P l' := ⟨_, rfl, hl, h⟩
end Sx
end
section
open PySem PySem.W PyProof.Rows PySem.Calls
set_option linter.unusedVariables false
set_option Elab.async false
set_option maxRecDepth 100000
namespace Sx
section
variable {C : Cx} {σ : St}
noncomputable def srep (n : Nat) (x : S) : S := (List.replicate n x).flatten
theorem wp_slice_str {prog : Program} {w : World} {A : Around} {E : Value → Shared → Prop} {s : Shared} {env : Env} {value : Expr} {lower upper : Option Expr} {p pos : Pos} {Q : Value → Shared → Prop}
    (h : wpAny (model prog w) A (eval value env) (fun o s₁ => wpAny (model prog w) A (eval (.Slice lower upper none p) env) (fun i s₂ => (∃ x t, o = .str x t) ∧ wpAny (model prog w) A (getItem o i) Q E s₂) E s₁) E s) :
    wpAny (model prog w) A (eval (.Subscript value (.Slice lower upper none p) pos) env) Q E s := by
  rw [eval_Subscript]
  refine wpAny_bind (wpAny_mono h (fun o s₁ h₁ => wpAny_bind (wpAny_holding (wpAny_mono h₁ (fun i s₂ h₂ => wpAny_bind (wpAny_standAt ?_)) fun _ _ x => x)))
    fun _ _ x => x)
  obtain ⟨⟨x, t, rfl⟩, h₂⟩ := h₂
  have ht : ∀ r, letTemporaryGo value (.str x t) r = pure () := fun r => by cases value <;> rfl
  have hT := typeIs_str s₂ x t
  have fin : wpAny (model prog w) A (operate [i, .str x t] (getItem (.str x t) i)) (fun r s₃ => wpAny (model prog w) A (letTemporaryGo value (.str x t) r >>= fun _ => pure r) Q E s₃) E s₂ :=
    wpAny_operating (wpAny_mono h₂ (fun r s₃ h₃ => wpAny_bind (wpAny_of_eq (ht r) (wpAny_pure h₃))) fun _ _ x => x)
  first
    | (refine wpAny_bind ?_
       rw [getitemInPython_of_ne hT.not_modules]
       refine wpAny_bind (wpAny_specialOf hT PySem.F.slot_str_getitem.lookup ?_)
       first
         | exact wpAny_pure (wpAny_bind fin)
         | exact wpAny_bind (wpAny_pure (wpAny_bind fin))
         | exact wpAny_bind fin)
    | (refine wpAny_bind (wpAny_specialOf hT PySem.F.slot_str_getitem.lookup ?_)
       first
         | exact wpAny_bind (wpAny_pure (wpAny_bind fin))
         | exact wpAny_bind fin)
/-- t[lo:hi], a text, whatever stands ahead of the brackets -/
theorem ev_sliceT {value : Expr} {lower upper : Option Expr} {p pos : Pos} {Q : V → St → Prop}
    (h : Ev C σ value (fun a σ1 => ∃ l, a = .str l ∧ l.length ≤ sizeLine ∧ EvP C σ1 lower (fun lo σ2 => EvP C σ2 upper (fun hi σ3 => Q (.str (slc lo hi l)) σ3)))) : Ev C σ (.Subscript value (.Slice lower upper none p) pos) Q := by
  intro F mine T s hA
  refine wp_slice_str (Tr.then h hA fun va s1 a σ1 m1 T1 hq p1 a1 r1 => ?_)
  obtain ⟨l, rfl, hl, hlo⟩ := hq
  obtain ⟨t, rfl, ht1⟩ := r1.str_inv
  refine wpAny_Slice (wpAny_mono (evP_run hlo a1) ?_ fun _ _ x => x)
  rintro vl s2 ⟨lo, σ2, m2, T2, hhi, rfl, p2, a2⟩
  refine wpAny_mono (evP_run hhi a2) ?_ fun _ _ x => x
  rintro vu s3 ⟨hi, σ3, m3, T3, hq, rfl, p3, a3⟩
  rw [evalPart_none]
  refine wpAny_pure ⟨⟨_, _, rfl⟩, wpAny_getItem_str_slice (l := lo) (u := hi) (st := none) ⟨_, Heap.get?_push_size _ rfl, rfl, rfl⟩ rfl ?_⟩
  have k3 : Kp T3 s3 T3 { s3 with heap := s3.heap.push { cls := .type "slice", data := .fields #[partValue lo, partValue hi, .none] } } := .push a3.tok (Nat.le_refl _)
  refine slice_made (C := C) (own := F ++ m3) (K := fun v => Q v σ3) (a3.ownOk.keeps k3) (p3.le.tk _ _ (p2.le.tk _ _ ht1)) hl hq k3 ?_
  rintro v s4 ⟨b, T4, hq, k4, r4⟩
  exact ⟨b, σ3, m3, T4, hq, (p1.trans (p2.trans p3)).trans (k4.post a3.live), a3.keeps k4, r4⟩
theorem Rep.val_inv {W : Wd} {g : PH} {u v : Value} (h : Rep W g (.val u) v) : v = u := by cases h; rfl
end
end Sx
end
section
open PySem PySem.W PyProof.Rows PySem.Calls PySem.SeqAt
set_option linter.unusedVariables false
set_option Elab.async false
set_option maxRecDepth 100000
namespace Sx
section
variable {C : Cx} {σ : St}
end
end Sx
end
section
open PySem PySem.W PyProof.Rows PySem.Calls
set_option linter.unusedVariables false
set_option Elab.async false
set_option maxRecDepth 100000
namespace Sx

/-! ## a comprehension with two generators -/
noncomputable def genTail (e it2 : Expr) (acc : Value) (env : Env) : Sem Unit := do
  let x ← eval it2 env
  standAt it2.pos
  let x ← foldedSetIterable it2 env x
  let _ ← runOwn (.compStart e 1 (← holding [x] (pyIter x)) acc env) env
noncomputable abbrev emitL (elt : Expr) (acc : Value) (env : Env) : Sem Unit := do let _ ← call (.builtin "list.append") [acc, ← eval elt env]

section
variable {C : Cx} {σ : St}
end
end Sx
end
section
open PySem PySem.W PyProof.Rows PySem.Calls PySem.SeqAt
set_option linter.unusedVariables false
set_option Elab.async false
set_option maxRecDepth 100000
namespace Sx
section
variable {C : Cx} {σ : St}
noncomputable def maxI : List Int → Int
  | [] => 0
  | [a] => a
  | a :: b :: r => max a (maxI (b :: r))
end
end Sx
end
section
open PySem PySem.W PyProof.Rows PySem.Calls PySem.SeqAt
set_option linter.unusedVariables false
set_option Elab.async false
set_option maxRecDepth 100000
namespace Sx

/-! ## a call that turns two lists of the caller's own -/
section
variable {C : Cx} {σ : St}
end

structure Kp2 (a b : Addr) (T : TM) (s : Shared) (T' : TM) (s' : Shared) : Prop where
  same : ∃ h' tk, s' = { s with heap := h', toks := tk }
  keep : ∀ c o, c ≠ a → c ≠ b → s.heap.get? c = some o → s'.heap.get? c = some o
  tle : TLe T T'
  tok : TOk T' s'.toks

/-- f(.., x, y): x and y lists that f turns; f's answer is None -/
noncomputable def OpX (C : Cx) (vs : List V) (a b : Addr) (hv tv : List V) (t : List Value → Sem Value) (K : List V → List V → Prop) : Prop :=
  ∀ own T s ws, a ≠ b → OwnOk C own T s → a ∈ own → b ∈ own → SlotRep C.W (view own T s) s.heap (.list a hv) (.ref a) → SlotRep C.W (view own T s) s.heap (.list b tv) (.ref b) → RepL C.W (view own T s) vs ws →
    wpAny C.M C.A (t (ws ++ [.ref a, .ref b])) (fun r s' => r = .none ∧ ∃ hv' tv' T', K hv' tv' ∧ Kp2 a b T s T' s' ∧ SlotRep C.W (view own T' s') s'.heap (.list a hv') (.ref a) ∧ SlotRep C.W (view own T' s') s'.heap (.list b tv') (.ref b)) C.X s

end Sx
end
section
open PySem PySem.W PyProof.Rows PySem.Calls PySem.SeqAt
set_option linter.unusedVariables false
set_option Elab.async false
set_option maxRecDepth 100000
namespace Sx
section
variable {C : Cx} {σ : St}

end
end Sx
end
section
open PySem PySem.W PyProof.Rows PySem.Calls PySem.SeqAt
set_option linter.unusedVariables false
set_option Elab.async false
set_option maxRecDepth 100000
namespace Sx

/-! ## dict(pairs) -/
noncomputable def prV (p : S × S) : V := .tup [.str p.1, .str p.2]
section
variable {C : Cx} {σ : St}
end
end Sx
end
section
open PySem PySem.W PyProof.Rows PySem.Calls PySem.SeqAt PySem.Builtin PySem.Builtin.Str
set_option linter.unusedVariables false
set_option Elab.async false
set_option maxRecDepth 100000
namespace Sx
theorem repl_self (y x : S) : repl y y x = x := by
  have := replace_S x y y
  rw [Txt.replace_self] at this
  exact (mkS_inj this).symm

theorem gives_repl_self (x y : PySem.Str) (t u v : Tok) (h0 : (u == 0 || v == 0) = false) (hl : tooLong (x.length + (occurrences x y 0 x.length (x.length + 1)).length * y.length) = false) :
    GivesAt (fun s => NoneBooked s.heap) («str.replace» ⟨[.str x t, .str y u, .str y v], []⟩) (.either (.val (.str x t)) (.str x)) := by
  show GivesAt _ (if ((occurrences x y 0 x.length (x.length + 1)).isEmpty || (y.length == 0 && y.length == 0)) = true then (do rule "str.replace.nothing"; ret (.str x t)) else
          (do let same ← isSame (.str y u) (.str y v)
              if same = true then (do rule "str.replace.old-is-new"; ret (.str x t)) else
              if tooLong (x.length + (occurrences x y 0 x.length (x.length + 1)).length * y.length) = true then unsupported "str.replace:memory" else
              retStr (glued y (partsBetween x (occurrences x y 0 x.length (x.length + 1)) y.length)))) _
  intro prog w A R s hb hq
  split
  · exact wpAny_bind (wpAny_rule (wpAny_pure hq.1))
  · refine wpAny_bind (wpAny_isSame_str h0 hb fun b => ?_)
    cases b
    · rw [hl, StrLaws.glued_between_self]
      exact wpAny_bind (wpAny_mkStr (wpAny_pure hq.2.2) hq.2.1)
    · exact wpAny_bind (wpAny_rule (wpAny_pure hq.1))

section
variable {C : Cx} {σ : St}
theorem opL_replaceG (hb : NoneBooked C.W.h₀) {x y z : S} {K : V → Prop} (hl : x.length + (x.length + 1) * z.length ≤ sizeLine) (h : K (.str (repl y z x))) :
    OpL C (Rep C.W) (fun ws => call (.builtin "str.replace") ws) [.str x, .str y, .str z] K := by
  by_cases hyz : y = z
  · subst hyz
    rw [repl_self] at h
    intro own T s vs hO hr
    obtain ⟨_, _, rfl, r1, hr⟩ := hr.cons_inv
    obtain ⟨_, _, rfl, r2, hr⟩ := hr.cons_inv
    obtain ⟨_, _, rfl, r3, hr⟩ := hr.cons_inv
    obtain rfl := hr.nil_inv; obtain ⟨t, rfl, ht⟩ := r1.str_inv; obtain ⟨u, rfl, hu⟩ := r2.str_inv; obtain ⟨v, rfl, hv⟩ := r3.str_inv
    have hu0 := (hO.tok.lt u y hu).1
    have hv0 := (hO.tok.lt v y hv).1
    have hnb : NoneBooked s.heap := let ⟨mc, h1, h2⟩ := hb; ⟨mc, h1.keeps hO.kb, h2⟩
    have hlt : tooLong ((mkS x).length + (occurrences (mkS x) (mkS y) 0 (mkS x).length ((mkS x).length + 1)).length * (mkS y).length) = false := by
      have h1 := StrLaws.occ_length_le (mkS x) (mkS y) 0 (mkS x).length ((mkS x).length + 1)
      have h2 : (Builtin.Str.occurrences (mkS x) (mkS y) 0 (mkS x).length ((mkS x).length + 1)).length * y.length ≤ ((mkS x).length + 1) * y.length := Nat.mul_le_mul_right _ h1
      rw [mkS_length] at h2
      unfold Builtin.Str.tooLong
      rw [mkS_length, mkS_length]
      exact decide_eq_false (by omega)
    refine call_givesAt PySem.F.slot_str_replace (typeIs_str _ _ _) PySem.F.entry_str_replace (PySem.F.args_str_replace_3 _ _ _) (gives_repl_self (mkS x) (mkS y) t u v (by rw [Bool.or_eq_false_iff]; exact ⟨beq_eq_false_iff_ne.mpr (Nat.ne_of_gt hu0), beq_eq_false_iff_ne.mpr (Nat.ne_of_gt hv0)⟩) hlt) hnb ?_
    exact ⟨.same hO.tok h (.str ht), by show (mkS x).length ≤ sizeLine; rw [mkS_length]; omega, .strNew hO.tok h⟩
  · exact opL_replace (.inl hyz) hl h

/-- key by key, whatever they are -/
noncomputable def RepOkG : List (S × S) → S → Prop
  | [], _ => True
  | (y, z) :: r, x => x.length + (x.length + 1) * z.length ≤ sizeLine ∧ RepOkG r (repl y z x)
theorem repOkG_append : ∀ (a b : List (S × S)) (x : S), RepOkG (a ++ b) x ↔ RepOkG a x ∧ RepOkG b (reps a x)
  | [], b, x => ⟨fun h => ⟨trivial, h⟩, fun h => h.2⟩
  | (y, z) :: a, b, x => by
    have := repOkG_append a b (repl y z x)
    exact ⟨fun h => ⟨⟨h.1, (this.mp h.2).1⟩, (this.mp h.2).2⟩, fun h => ⟨h.1.1, this.mpr ⟨h.1.2, h.2⟩⟩⟩

theorem RepL.strs {W : Wd} {g g' : PH} (hg : ∀ t l, g.tk t = some l → g'.tk t = some l) : ∀ (ls : List S) (ws : List Value), RepL W g (ls.map V.str) ws → RepL W g' (ls.map V.str) ws
  | [], ws, h => by obtain rfl := h.nil_inv; exact .nil
  | l :: ls, ws, h => by
    obtain ⟨_, _, rfl, h1, h2⟩ := h.cons_inv
    obtain ⟨t, rfl, ht⟩ := h1.str_inv
    exact .cons (.str (hg t l ht)) (RepL.strs hg ls _ h2)

end
end Sx
end
section
open PySem PySem.W PyProof.Rows PySem.Calls PySem.SeqAt
set_option linter.unusedVariables false
set_option Elab.async false
set_option maxRecDepth 100000
namespace Sx

/-! ## a list of lists whose last one is still being made: it goes under the name "#" -/
noncomputable def delA (σ : St) : St := σ.filter fun p => decide (Str.ofString p.1 ≠ anonS)
section
variable {C : Cx} {σ : St}
end
end Sx
end
section
open PySem PySem.W PyProof.Rows PySem.Calls PySem.SeqAt
set_option linter.unusedVariables false
set_option Elab.async false
set_option maxRecDepth 100000
namespace Sx
noncomputable def Flat : V → Prop
  | .str _ => True
  | .val _ => True
  | .int _ => True
  | .bool _ => True
  | _ => False
theorem Rep.flat {W : Wd} {g g' : PH} (ht : ∀ t l, g.tk t = some l → g'.tk t = some l) {u : V} {v : Value} (hf : Flat u) (h : Rep W g u v) : Rep W g' u v := by
  cases u with
  | str l => obtain ⟨t, rfl, hs⟩ := h.str_inv; exact .str (ht _ _ hs)
  | val w => obtain rfl := h.val_inv; exact .val _
  | int i => obtain ⟨t, rfl⟩ := h.int_inv; exact .int _ _
  | bool b => obtain rfl := h.bool_inv; exact .bool _
  | _ => exact hf.elim
section
variable {C : Cx} {σ : St}
end
end Sx
end
section
open PySem PySem.W PyProof.Rows PySem.Calls PySem.SeqAt PySem.Builtin PySem.Builtin.Str
set_option linter.unusedVariables false
set_option Elab.async false
set_option maxRecDepth 100000
namespace Sx
section
variable {C : Cx} {σ : St}
open Classical in
end
end Sx
end
section
open PySem PySem.W PyProof.Rows PySem.Calls PySem.SeqAt PySem.Builtin PySem.Builtin.Str
set_option linter.unusedVariables false
set_option Elab.async false
set_option maxRecDepth 100000
namespace Sx
noncomputable def TM.upds (T : TM) : Nat → List S → TM
  | _, [] => T
  | n, l :: ls => TM.upds (T.upd n l) (n + 1) ls
theorem Kp.strs : ∀ (ls : List S) {T : TM} {s : Shared}, TOk T s.toks → Kp T s (T.upds s.toks ls) { s with toks := s.toks + ls.length }
  | [], T, s, h => .refl h
  | l :: ls, T, s, h => by
    have k1 : Kp T s (T.upd s.toks l) { s with toks := s.toks + 1 } := .str (h' := s.heap) h fun _ _ e => e
    have k2 := Kp.strs ls (s := { s with toks := s.toks + 1 }) k1.tok
    have e : s.toks + (l :: ls).length = s.toks + 1 + ls.length := by rw [List.length_cons]; omega
    rw [e]
    exact k1.trans k2
section
variable {C : Cx} {σ : St}
end
end Sx
end
section
open PySem PySem.W PyProof.Rows PySem.Calls
set_option linter.unusedVariables false
set_option Elab.async false
set_option maxRecDepth 100000
namespace Sx
section
variable {C : Cx} {σ : St}
end
section
variable {C : Cx} {σ : St}
end
end Sx
end
section
open PySem PySem.W PyProof.Rows PySem.Calls PySem.SeqAt PySem.Builtin PySem.Builtin.Str
set_option linter.unusedVariables false
set_option Elab.async false
set_option maxRecDepth 100000
namespace Sx
/-! ## texts whose mark is not known -/
noncomputable def Tx : V → S → Prop
  | .str a, l => a = l
  | .txt a, l => a = l
  | _, _ => False
noncomputable def Weak (v u : V) : Prop := ∀ (W : Wd) (g : PH) (x : Value), Rep W g v x → Rep W g u x
section
variable {C : Cx} {σ : St}
end
/-! pairs: rules have the mark of the second text, parts of the first -/
noncomputable def prR (p : S × S) : V := .tup [.txt p.1, .str p.2]
noncomputable def prK (p : S × S) : V := .tup [.str p.1, .txt p.2]
section
variable {C : Cx} {σ : St}
open Classical in
end
noncomputable def tabT (es : List (S × S)) : List (Key × V) := es.map fun p => (Key.s p.1, V.txt p.2)
end Sx
end
section
open PySem PySem.W PyProof.Rows PySem.Calls
set_option linter.unusedVariables false
set_option Elab.async false
set_option maxRecDepth 100000
namespace Sx
theorem find_hit {σ : St} {y : String} {sl : Slot} : find (put σ (Str.ofString y) y sl) (Str.ofString y) = some sl := by rw [find_putS, if_pos rfl]
theorem find_miss {σ : St} {y x : String} {sl : Slot} {o : Option Slot} (h : decide (y = x) = false) (hf : find σ (Str.ofString x) = o) : find (put σ (Str.ofString y) y sl) (Str.ofString x) = o := by
  rw [find_putS, if_neg (of_decide_eq_false h)]; exact hf
end Sx
end
section
open PySem PySem.W PyProof.Rows PySem.Calls
set_option linter.unusedVariables false
set_option Elab.async false
set_option maxRecDepth 100000
namespace Sx
/-! what comes after goes by a name: terms stay small -/
section
variable {C : Cx} {σ : St}
theorem exs_eq {body : List Stmt} {X : V} (h : ∀ Q : Fl → St → Prop, (∀ σ', Q (.ret X) σ') → Exs C σ body Q) : Exs C σ body (fun fl _ => fl.v = X) := h _ fun _ => rfl
theorem exs_K {body : List Stmt} (K : V → Prop) (h : ∀ Q : Fl → St → Prop, (∀ v σ', K v → Q (.ret v) σ') → Exs C σ body Q) : Exs C σ body (fun fl _ => K fl.v) := h _ fun _ _ hk => hk
theorem exs_split {st : Stmt} {rest : List Stmt} {Q : Fl → St → Prop} (P : St → Prop) (h1 : ∀ Q' : Fl → St → Prop, (∀ σ', P σ' → Q' Fl.next σ') → Ex C σ st Q') (h2 : ∀ σ', P σ' → Exs C σ' rest Q) : Exs C σ (st :: rest) Q :=
  exs_cons (h1 _ h2)
theorem loop_listQ {target : Expr} {body orelse : List Stmt} {Q : Fl → St → Prop} {α : Type} (f : α → V) (l : List α) (I : Nat → St → Prop)
    (step : ∀ i x σ (Q' : Fl → St → Prop), (∀ σ', I (i + 1) σ' → Q' .next σ') → l[i]? = some x → I i σ → Asg C σ target (f x) (fun σ1 => Exs C σ1 body Q'))
    (done : ∀ σ, I l.length σ → Exs C σ orelse Q) {σ : St} (h : I 0 σ) {xs : List V} (hx : xs = l.map f) : Loop C target body orelse Q xs σ :=
  loop_list f l I (fun i x σ hx hI => step i x σ _ (fun _ h => h) hx hI) done h hx
theorem ex_whileQ {n : Nat} (ok : C.Ok n) {test : Expr} {body orelse : List Stmt} {pos : Pos} {Q : Fl → St → Prop} (I : Nat → St → Prop)
    (step : ∀ k σ (Q1 Q' : Fl → St → Prop), (∀ σ', Exs C σ' orelse Q → Exs C σ' orelse Q1) → (∀ k' σ', k' < k → I k' σ' → Q' .next σ') → I k σ → Tst C σ test (fun b σ1 => (b = false → Exs C σ1 orelse Q1) ∧ (b = true → Exs C σ1 body Q'))) (k : Nat) (h : I k σ) : Ex C σ (.While test body orelse pos) Q :=
  ex_while ok I (fun k σ hI => step k σ _ _ (fun _ h => h) (fun k' σ' h1 h2 => ⟨k', h1, h2⟩) hI) k h
theorem fn_callQ {C : Cx} {n : Nat} (ok : C.Ok (n + 1)) {a : Addr} {fd : FuncData} {body : List Stmt} (fn : FnAt C.W a fd body) {ps : List String} {vs dvs : List V} {ds : List Value}
    (hb : ∀ (s : Shared) (ws : List Value), (∀ b o, C.W.h₀.get? b = some o → s.heap.get? b = some o) → ws.length = vs.length → BindsTo s fd ⟨ws, []⟩ ((ps.map Str.ofString).zip (ws ++ ds)))
    (hds : ∀ own T s, OwnOk C own T s → RepL C.W (view own T s) dvs ds)
    (hnd : ps.Nodup) (hnm : namesOk fd.scope ps = true) {K : V → Prop}
    (walk : ∀ A L q cd (Q : Fl → St → Prop), (∀ v σ', K v → Q (.ret v) σ') → (fnCx C.W A fd.scope L a q cd).Ok n → Exs (fnCx C.W A fd.scope L a q cd) (mkSt ps (vs ++ dvs)) body Q) :
    OpL C (Rep C.W) (fun ws => call (.ref a) ws) vs K := fn_call ok fn hb hds hnd hnm fun A L q cd okn => exs_K K fun Q hQ => walk A L q cd Q hQ okn
theorem mle {a b k : Nat} (h : b ≤ k) : min a b ≤ k := Nat.le_trans (Nat.min_le_right _ _) h
theorem take_le {α : Type} (l : List α) (i : Nat) {k : Nat} (h : l.length ≤ k) : (l.take i).length ≤ k := by rw [List.length_take]; exact mle h
theorem szc (n : Nat) (h : Nat.ble n 16777216 = true := by rfl) : n ≤ sizeLine := by
  rw [sizeLine_eq]; exact Nat.le_of_ble_eq_true h
theorem line {n : Nat} (k : Nat) (h : n ≤ k) (hk : Nat.ble k 16777216 = true := by rfl) : n ≤ sizeLine := by
  rw [sizeLine_eq]; exact Nat.le_trans h (Nat.le_of_ble_eq_true hk)
end
end Sx
end
section
open PySem PySem.W PyProof.Rows PySem.Calls
set_option linter.unusedVariables false
set_option Elab.async false
set_option maxRecDepth 100000
namespace Sx
/-! ## what raises: the frames of the callers are filled, all else stands -/
noncomputable abbrev fsOf (l : List Env) : List Addr := l.filterMap (·.frame)
noncomputable abbrev bs (s : Shared) (l : List Env) : Heap := hideAll s.heap (fsOf l)
structure FrOk (A : Around) (l : List Env) (s : Shared) : Prop where
  fr : A.frames = some l
  ff : s.heap.FunFrames (bs s l) l
noncomputable def Rz (l : List Env) (T : TM) (s : Shared) (cls : String) (e : Value) (s' : Shared) : Prop :=
  ∃ a a0 h' tk, e = .ref a ∧ s' = { s with heap := h', toks := tk } ∧ TOk T tk ∧ Heap.FlyingW (bs s l) l a (.type cls) a0 h' ∧ s.heap.UpToSlots h'
theorem ff_base {h b b' : Heap} (k : ∀ a, b'.get? a = none → b.get? a = none) : ∀ {l : List Env}, h.FunFrames b' l → h.FunFrames b l
  | [], _ => trivial
  | _ :: _, ⟨hk, ⟨L, o, hf, hn, ho, hd⟩, hr⟩ => ⟨hk, ⟨L, o, hf, k L hn, ho, hd⟩, ff_base k hr⟩
theorem flyingW_base {b b' : Heap} (k : ∀ a o, b.get? a = some o → b'.get? a = some o) {l : List Env} {e : Addr} {cls a0 : Value} {h : Heap} (x : Heap.FlyingW b' l e cls a0 h) : Heap.FlyingW b l e cls a0 h := by
  have kn : ∀ a, b'.get? a = none → b.get? a = none := fun a e => by
    cases q : b.get? a with
    | none => rfl
    | some o => rw [k a o q] at e; cases e
  obtain ⟨f1, f2, f3, oe, vs, Tb, oT, ts, g1, g2, g3, g4, g5, g6⟩ := x
  exact ⟨fun a o e => f1 a o (k a o e), kn _ f2, ff_base kn f3, oe, vs, Tb, oT, ts, g1, g2, g3, g4, kn _ g5, g6⟩
/-- a frame at its start: s is the state at the call -/
structure RxOk (A : Around) (env : Env) (L : Addr) (l : List Env) (s : Shared) : Prop where
  fr : A.frames = some (env :: l)
  ff : s.heap.FunFrames (bs s l) l
  hf : env.frame = some L
  new : s.heap.get? L = none
  hk : env.scope.kind ≠ .module
section
variable {A : Around} {env : Env} {L : Addr} {l : List Env} {s s1 : Shared} (R : RxOk A env L l s)
include R
theorem RxOk.base1 (keep : ∀ b o, s.heap.get? b = some o → s1.heap.get? b = some o) : ∀ a o, (bs s l).get? a = some o → (bs s1 (env :: l)).get? a = some o := fun a o e => by
  have e1 := of_hideAll _ e
  refine hideAll_get _ (keep a o e1) fun hm => ?_
  rw [fsOf, List.filterMap_cons, R.hf] at hm
  rcases List.mem_cons.mp hm with q | hm
  · rw [q, R.new] at e1; cases e1
  · have : (bs s l).get? a = none := hideAll_none _ hm
    rw [this] at e; cases e
theorem RxOk.ff1 {h : Heap} (keep : ∀ b o, s.heap.get? b = some o → h.get? b = some o) {oL : Obj} (hL : h.get? L = some oL) (hd : ∀ vs, oL.data ≠ .fields vs) : h.FunFrames (bs s l) (env :: l) := by
  refine ⟨R.hk, ⟨L, oL, R.hf, ?_, hL, hd⟩, R.ff.of_keeps fun b o e _ => ⟨o, keep b o e, rfl⟩⟩
  cases q : (bs s l).get? L with
  | none => rfl
  | some o => have := of_hideAll _ q; rw [R.new] at this; cases this
/-- the frame is left by what was raised in it -/
theorem leave_new {M : Model} {T : TM} {E : Value → Shared → Prop} {cls : String} (keep : ∀ b o, s.heap.get? b = some o → s1.heap.get? b = some o) {oL : Obj} (hL : s1.heap.get? L = some oL) (hd : ∀ vs, oL.data ≠ .fields vs)
    (same : ∃ h tk, s1 = { s with heap := h, toks := tk }) (tok : TOk T s1.toks) {h : Heap} {tk : Nat} {e : Addr} (hx : Heap.NewExcOf s1.heap h e cls) (ht : s1.toks ≤ tk) :
    wpAny M A (leaving env (.ref e)) (fun _ s'' => Rz l T s cls (.ref e) s'') E { s1 with heap := h, toks := tk } := by
  obtain ⟨oe, vs, he, hc, hv, h1⟩ := hx.there
  have hsz := (Array.getElem?_eq_some_iff.mp h1).1
  have h0 : vs[0]? = some vs[0] := Array.getElem?_eq_getElem (by omega)
  have kb : (bs s l).StaysIn h := fun b o q => hx.keeps b o (keep b o (of_hideAll _ q))
  have hen : (bs s l).get? e = none := by
    cases q : (bs s l).get? e with
    | none => rfl
    | some o => have := keep _ _ (of_hideAll _ q); rw [hx.new] at this; cases this
  refine wpAny_leaving_firstW (base := bs s l) R.fr (R.ff1 (fun b o q => hx.keeps b o (keep b o q)) (hx.keeps _ _ hL) hd) R.hf he kb hen hv h1 h0 fun h' hl => ?_
  obtain ⟨k1, ⟨_, _, k2⟩, k3, k4⟩ := hl
  obtain ⟨hh, tt, rfl⟩ := same
  rw [hc] at k3
  exact ⟨e, vs[0], h', tk, rfl, rfl, tok.mono ht, ⟨k1, hen, k2, k3⟩, (Heap.UpToSlots.of_keeps fun b o q => hx.keeps b o (keep b o q)).trans k4⟩
/-- the frame is left by what came out of a call in it -/
theorem leave_on {M : Model} {T T' : TM} {E : Value → Shared → Prop} {cls : String} (keep : ∀ b o, s.heap.get? b = some o → s1.heap.get? b = some o)
    (same : ∃ h tk, s1 = { s with heap := h, toks := tk }) (le : TLe T T') {e : Value} {s' : Shared} (hr : Rz (env :: l) T' s1 cls e s') :
    wpAny M A (leaving env e) (fun _ s'' => Rz l T s cls e s'') E s' := by
  obtain ⟨a, a0, h', tk, rfl, rfl, tok, hf, up⟩ := hr
  refine wpAny_leaves_onW (base := bs s l) R.fr R.hf (flyingW_base (R.base1 keep) hf) fun h'' hf2 up2 => ?_
  obtain ⟨hh, tt, rfl⟩ := same
  exact ⟨a, a0, h'', tk, rfl, rfl, ⟨tok.pos, fun t y q => tok.lt t y (le t y q)⟩, hf2, ((Heap.UpToSlots.of_keeps keep).trans up).trans up2⟩
end
/-- a frame that is to be left by a raise -/
noncomputable def rxCx (W : Wd) (A : Around) (scope : Scope) (L a : Addr) (q : Str) (cd : Value) (l : List Env) (T : TM) (s : Shared) (cls : String) : Cx :=
  { W := { W with h₀ := s.heap }, A := A, env := fnEnv scope L a q cd, ownC := true, X := fun e s' => wpAny (model W.prog W.w) A (leaving (fnEnv scope L a q cd) e) (fun _ s'' => Rz l T s cls e s'') (fun _ _ => False) s', an := none, st := some (s, T) }
theorem Wd.Ok.up {W : Wd} (h : W.Ok) {g : Heap} (k : ∀ b o, W.h₀.get? b = some o → g.get? b = some o) : ({ W with h₀ := g } : Wd).Ok := by
  obtain ⟨h1, h2, mg, mb, h3, h4, h5⟩ := h
  refine ⟨?_, h2.keeps k, mg, mb, h3.keeps k, h4.keeps k, h5⟩
  obtain ⟨o, ho⟩ := Option.isSome_iff_exists.mp h1
  show (g.get? sysModules).isSome = true
  rw [k _ _ ho]; rfl
theorem Rep.toW {W W' : Wd} (hp : W.prog = W'.prog) (hw : W.w = W'.w) {g : PH} {v : V} {x : Value} (h : Rep W g v x) : Rep W' g v x := by
  obtain ⟨prog, w, h0, gls⟩ := W
  obtain ⟨prog', w', h0', gls'⟩ := W'
  have hp : prog = prog' := hp
  have hw : w = w' := hw
  subst hp hw
  exact Rep.rec (W := ⟨prog, w, h0, gls⟩) (g := g) (motive_1 := fun v x _ => Rep ⟨prog, w, h0', gls'⟩ g v x) (motive_2 := fun v x _ => RepL ⟨prog, w, h0', gls'⟩ g v x) (motive_3 := fun v x k _ => RepD ⟨prog, w, h0', gls'⟩ g v x k)
    .none .bool .int (fun h => .str h) .txt .bytes (fun h1 h2 hd h3 _ r => .tup h1 h2 hd h3 r) (fun h1 h2 h3 h4 _ r => .lst h1 h2 h3 h4 r) (fun h1 h2 h3 h4 _ h5 r => .dct h1 h2 h3 h4 r h5)
    (fun h => .rng h) (fun h1 h2 h3 _ r => .itm h1 h2 h3 r) .val .nil (fun _ _ h r => .cons h r) .nil (fun _ e _ _ h k r => .cons h e k r) h
theorem RepL.toW {W W' : Wd} (hp : W.prog = W'.prog) (hw : W.w = W'.w) {g : PH} : ∀ {vs : List V} {ws : List Value}, RepL W g vs ws → RepL W' g vs ws
  | [], ws, h => by rw [h.nil_inv]; exact .nil
  | v :: vs, ws, h => by
    obtain ⟨w, r, rfl, h1, h2⟩ := h.cons_inv
    exact .cons (h1.toW hp hw) (RepL.toW hp hw h2)
section
variable {W : Wd} {A : Around} {scope : Scope} {L a : Addr} {q : Str} {cd : Value} {l : List Env} {T : TM} {s : Shared} {cls : String}
theorem rxCx_ok {n : Nat} (hW : W.Ok) (k : ∀ b o, W.h₀.get? b = some o → s.heap.get? b = some o) (hh : A.handled = none) (hu : A.units + 3 * n + 100 ≤ 9000) (hd : A.depth + n + 10 ≤ 900) (hk : scope.kind = .function) : (rxCx W A scope L a q cd l T s cls).Ok n :=
  { W := hW.up k, hh := hh, hu := hu, hd := hd, hk := hk, hg := rfl, hb := rfl, hx := PassesOwn.leaving }
/-- what is raised, seen from where it is raised -/
noncomputable def Rs (l : List Env) (T : TM) (s : Shared) (cls : String) (e : Value) (s' : Shared) : Prop :=
  (∃ a h' tk, e = .ref a ∧ s' = { s with heap := h', toks := tk } ∧ s.toks ≤ tk ∧ Heap.NewExcOf s.heap h' a cls) ∨ Rz l T s cls e s'
end
end Sx
end
section
open PySem PySem.W PyProof.Rows PySem.Calls
set_option linter.unusedVariables false
set_option Elab.async false
set_option maxRecDepth 100000
namespace Sx
/-- a call of one of the text's own defs that raises -/
theorem fn_callR {C : Cx} {n : Nat} (ok : C.Ok (n + 1)) {a : Addr} {fd : FuncData} {body : List Stmt} (fn : FnAt C.W a fd body) {ps : List String} {vs : List V} {l : List Env} {cls : String}
    (hb : ∀ (s : Shared) (ws : List Value), (∀ b o, C.W.h₀.get? b = some o → s.heap.get? b = some o) → ws.length = vs.length → BindsTo s fd ⟨ws, []⟩ ((ps.map Str.ofString).zip ws))
    (hnd : ps.Nodup) (hnm : namesOk fd.scope ps = true)
    (walk : ∀ A L q cd T s, (∀ b o, C.W.h₀.get? b = some o → s.heap.get? b = some o) → RxOk A (fnEnv fd.scope L a q cd) L l s → (rxCx C.W A fd.scope L a q cd l T s cls).Ok n → Exs (rxCx C.W A fd.scope L a q cd l T s cls) (mkSt ps vs) body (fun _ _ => False))
    {own : List Addr} {T : TM} {s : Shared} {ws : List Value} (hO : OwnOk C own T s) (hr : RepL C.W (view own T s) vs ws) (hf : FrOk C.A l s) :
    wpAny C.M C.A (call (.ref a) ws) (fun _ _ => False) (fun e s' => Rz l T s cls e s') s := by
  obtain ⟨o, ho, hd⟩ := fn.at_
  have kb := hO.kb
  have hlim : s.heap.NoLimit := ok.W.nolimit.keeps kb
  unfold namesOk at hnm
  rw [Bool.and_eq_true, List.all_eq_true, List.all_eq_true] at hnm
  have hps : ∀ x ∈ (ps.map Str.ofString).zip ws, fd.scope.names.lookup x.1 = some .local ∨ fd.scope.names.lookup x.1 = some .cell := by
    intro x hx
    obtain ⟨x1, x2⟩ := x
    obtain ⟨p, hp, rfl⟩ := List.mem_map.mp (List.of_mem_zip hx).1
    have := hnm.1 p hp
    rw [Bool.or_eq_true, beq_iff_eq, beq_iff_eq] at this
    exact this
  refine wpAny_call (codeAny_call_function (by have := ok.hd; unfold recursionLimit; omega) (kb _ _ ho) hd fn.hco fn.hgen fn.hbody (fn.hcd.keeps kb) (hb s ws kb hr.length _ _ _ _ ?_))
  rw [fn.hgl, fn.hcl, fn.hbn]
  refine wpAny_with_toks (n := s.toks) (Nat.le_refl _) (wpAny_newFunctionEnv_cells fn.hk (fun x hx => ?_) fun env' he s' x htk => ?_)
  · rcases hps x hx with h | h
    · exact .inl h
    · exact .inr ⟨h, cellsFrom_has _ _ _ h⟩
  subst he
  obtain ⟨h₁, tk, rfl, hk₁⟩ := x.done
  refine ⟨hlim.keeps hk₁, codeAny_func ?_⟩
  have RX : RxOk (C.A.deeper (fnEnv fd.scope s.heap.objs.size a (fd.qualname ++ ".<locals>.") fd.code)) (fnEnv fd.scope s.heap.objs.size a (fd.qualname ++ ".<locals>.") fd.code) s.heap.objs.size l s :=
    ⟨Around.frames_deeper hf.fr, hf.ff, rfl, fresh_size _, by show fd.scope.kind ≠ .module; rw [fn.hk]; decide⟩
  have okn : (rxCx C.W (C.A.deeper (fnEnv fd.scope s.heap.objs.size a (fd.qualname ++ ".<locals>.") fd.code)) fd.scope s.heap.objs.size a (fd.qualname ++ ".<locals>.") fd.code l T s cls).Ok n :=
    rxCx_ok ok.W kb (by exact ok.hh) (by have := ok.hu; show C.A.units + 3 + 3 * n + 100 ≤ 9000; omega) (by have := ok.hd; show C.A.depth + 1 + n + 10 ≤ 900; omega) fn.hk
  obtain ⟨cs, hcs⟩ : ∃ cs, cellsFrom (s.heap.objs.size + 1) fd.scope.names [] = cs := ⟨_, rfl⟩
  have hcs' : (fnEnv fd.scope s.heap.objs.size a (fd.qualname ++ ".<locals>.") fd.code).cells = cs := hcs
  have hcell : ∀ z c, cs.lookup z = some c → h₁.IsCell c (bindC (fnEnv fd.scope s.heap.objs.size a (fd.qualname ++ ".<locals>.") fd.code).kindOf ((ps.map Str.ofString).zip ws) (fun _ => none) z) := fun z c e => x.cell z c (hcs ▸ e)
  have hab : ∀ z c, (z, c) ∈ cs → s.heap.objs.size < c := fun z c e => x.above z c (hcs ▸ e)
  have hap : cs.Pairwise fun x y => x.2 ≠ y.2 := by have := x.apart; exact hcs ▸ this
  have hns : h₁.Ns s.heap.objs.size (bindL (fnEnv fd.scope s.heap.objs.size a (fd.qualname ++ ".<locals>.") fd.code).kindOf ((ps.map Str.ofString).zip ws) (fun _ => none)) := x.toInCall.ns
  have hmm : ∀ b ∈ s.heap.objs.size :: cs.filterMap (fun p => cs.lookup p.1), b = s.heap.objs.size ∨ ∃ z, cs.lookup z = some b := by
    intro b hb
    rcases List.mem_cons.mp hb with rfl | hb
    · exact .inl rfl
    · obtain ⟨p, hp, e⟩ := List.mem_filterMap.mp hb
      exact .inr ⟨p.1, e⟩
  have hmine : ∀ b ∈ s.heap.objs.size :: cs.filterMap (fun p => cs.lookup p.1), s.heap.get? b = none := by
    intro b hb
    rcases hmm b hb with rfl | ⟨z, hz⟩
    · exact fresh_size _
    · exact get_ge (Nat.le_of_lt (hab z b (mem_of_lookup hz)))
  have hcm : ∀ z c, cs.lookup z = some c → c ∈ s.heap.objs.size :: cs.filterMap (fun p => cs.lookup p.1) := fun z c e =>
    List.mem_cons_of_mem _ (List.mem_filterMap.mpr ⟨(z, c), mem_of_lookup e, e⟩)
  have le0 : Le (view own T s) (view ([] ++ (s.heap.objs.size :: cs.filterMap (fun p => cs.lookup p.1))) T { s with heap := h₁, toks := tk }) := by
    refine ⟨fun b o e => view_mk (fun hm => ?_) (hk₁ b o (view_of e)), fun _ _ e => e⟩
    have := hmine b hm; rw [view_of e] at this; cases this
  have habs : Abs (rxCx C.W (C.A.deeper (fnEnv fd.scope s.heap.objs.size a (fd.qualname ++ ".<locals>.") fd.code)) fd.scope s.heap.objs.size a (fd.qualname ++ ".<locals>.") fd.code l T s cls) []
      (s.heap.objs.size :: cs.filterMap (fun p => cs.lookup p.1)) T (mkSt ps vs) { s with heap := h₁, toks := tk } := by
    refine ⟨fun b o e => view_mk (fun hm => ?_) (hk₁ b o e), fun b hb => ?_, fun b hb hF => (by cases hF), hO.tok.mono htk, fun p e => ?_,
      bindL (fnEnv fd.scope s.heap.objs.size a (fd.qualname ++ ".<locals>.") fd.code).kindOf ((ps.map Str.ofString).zip ws) (fun _ => none), bindC (fnEnv fd.scope s.heap.objs.size a (fd.qualname ++ ".<locals>.") fd.code).kindOf ((ps.map Str.ofString).zip ws) (fun _ => none), ?_⟩
    · have e : s.heap.get? b = some o := e
      have := hmine b hm; rw [e] at this; cases this
    · rcases hmm b hb with rfl | ⟨z, hz⟩
      · obtain ⟨o, _, _, ho, _⟩ := hns
        show (h₁.get? s.heap.objs.size).isSome = true
        rw [ho]; rfl
      · obtain ⟨o, ho, _⟩ := hcell z b hz
        show (h₁.get? b).isSome = true
        rw [ho]; rfl
    · cases e
      exact ⟨fun _ _ e => e, h₁, tk, rfl⟩
    · refine { ns := hns, cells := fun z c e => hcell z c (hcs' ▸ e), apart := fun z y c e1 e2 => ?_, lc := fun z c e => ?_, has := fun z hz => ?_, lm := List.mem_cons_self, cown := fun z c e => List.mem_append_right _ (hcm z c (hcs' ▸ e)), cmine := fun _ z c e => hcm z c (hcs' ▸ e), slots := ?_, own := ?_, dis := ?_ }
      · exact name_of_addr hap (mem_of_lookup (hcs' ▸ e1)) (mem_of_lookup (hcs' ▸ e2))
      · exact Nat.ne_of_gt (hab z c (mem_of_lookup (hcs' ▸ e)))
      · rcases hz with hz | hz
        · have := cellsFrom_has fd.scope.names (s.heap.objs.size + 1) [] hz
          exact Option.isSome_iff_exists.mp this
        · have hz : fd.scope.names.lookup z = some .free := hz
          have := hnm.2 _ (mem_of_lookup hz)
          simp at this
      · intro z sl hz
        obtain ⟨u, v, rfl, e1, e2⟩ := find_mkSt ps vs ws none z sl hnd hr hz
        refine ⟨v, .inl ?_, by show Rep _ _ u v; exact Rep.toW (by rfl) (by rfl) (e2.mono le0)⟩
        refine (valAt_bind (env := fnEnv fd.scope s.heap.objs.size a (fd.qualname ++ ".<locals>.") fd.code) _ _ _ hps).trans ?_
        have : valAt (fnEnv fd.scope s.heap.objs.size a (fd.qualname ++ ".<locals>.") fd.code) (fun _ => none) (fun _ => none) z = none := by unfold valAt; split <;> rfl
        rw [this]
        exact e1
      · intro z sl b hz ho
        obtain ⟨u, v, rfl, _⟩ := find_mkSt ps vs ws none z sl hnd hr hz
        cases ho
      · intro z y sl sl' b hz _ ho
        obtain ⟨u, v, rfl, _⟩ := find_mkSt ps vs ws none z sl hnd hr hz
        cases ho
  refine wpAny_mono (walk _ _ _ _ T s kb RX okn [] _ T _ habs) ?_ fun e s' x => ?_
  · rintro f s2 ⟨fl, σ2, m2, T2, hK, _⟩
    exact hK.elim
  · exact wpAny_mono x (fun _ _ y => y) fun _ _ y => y.elim
end Sx
end
section
open PySem PySem.W PyProof.Rows PySem.Calls
set_option linter.unusedVariables false
set_option Elab.async false
set_option maxRecDepth 100000
namespace Sx
/-- a step on values that may look at the frames -/
noncomputable def OpA (C : Cx) (σ : St) (f : List Value → Sem Value) (vs : List V) (Q : V → St → Prop) : Prop :=
  ∀ F mine T s ws, Abs C F mine T σ s → RepL C.W (view (F ++ mine) T s) vs ws → wpAny C.M C.A (f ws) (fun x s' => ∃ v σ' mine' T', Q v σ' ∧ Post F mine T s mine' T' s' ∧ Abs C F mine' T' σ' s' ∧ Rep C.W (view (F ++ mine') T' s') v x) C.X s
section
variable {C : Cx} {σ : St}
theorem ev_callA {f : Expr} {es : List Expr} {pos : Pos} {Q : V → St → Prop} (h : Ev C σ f (fun fv σ1 => ∃ w, fv = .val w ∧ Callee C w ∧ EvL C σ1 pos es (fun vs σ2 => OpA C σ2 (fun ws => call w ws) vs Q)))
    (hst : (starEach es C.env).all (fun x => !x.1) = true := by rfl)
    (he : eval (.Call f es [] pos) C.env = (do callWith pos (← eval f C.env) [] (backTo pos (starEach es C.env)) (backToKw pos (keywordEach [] C.env))) := by rfl) : Ev C σ (.Call f es [] pos) Q := by
  refine Tr.intro' fun F mine T s QQ fin hA => ?_
  rw [he]
  refine wpAny_bind (Tr.then h hA fun vf s1 fv σ1 m1 T1 hq_ p1 a1 r1 => ?_)
  obtain ⟨w, rfl, hc, hQ⟩ := hq_
  cases r1
  refine callWith_any (any_backTo hst) hc (evalArgs_list hst (Tr.then hQ a1 fun ws s2 vs σ2 m2 T2 hQ2 p2 a2 r2 => ?_))
  refine ⟨rfl, a2.ownOk.kb, wpAny_mono (hQ2 _ _ T2 s2 ws a2 r2) ?_ fun _ _ x => x⟩
  rintro v s3 ⟨b, σ3, m3, T3, q, p3, a3, r3⟩
  exact fin _ _ b σ3 m3 T3 q ((p1.trans p2).trans p3) a3 r3
theorem ev_fnA {n : Nat} (ok : C.Ok n) {L : List (String × Value)} (hG : C.W.gls = L) {f : String} {fp pos : Pos} {es : List Expr} {w : Value} {Q : V → St → Prop} (hk : C.env.kindOf (Str.ofString f) = some .globalImplicit) (hl : L.lookup f = some w) (hc : Callee C w)
    (h : EvL C σ pos es (fun vs σ2 => OpA C σ2 (fun ws => call w ws) vs Q))
    (hst : (starEach es C.env).all (fun x => !x.1) = true)
    (he : eval (.Call (.Name (Str.ofString f) fp) es [] pos) C.env = (do callWith pos (← eval (.Name (Str.ofString f) fp) C.env) [] (backTo pos (starEach es C.env)) (backToKw pos (keywordEach [] C.env))))
    (hd : (Str.ofString f == ("__debug__" : Str)) = false) : Ev C σ (.Call (.Name (Str.ofString f) fp) es [] pos) Q :=
  ev_callA (ev_glob ok hk (v := w) (by rw [hG]; exact hl) ⟨w, rfl, hc, h⟩ hd) hst he
/-- a call of what a name of the frame's own holds -/
theorem ev_fnV {n : Nat} (ok : C.Ok n) {f : String} {fp pos : Pos} {es : List Expr} {w : Value} {Q : V → St → Prop} (hf : find σ (Str.ofString f) = some (.val (.val w))) (hc : Callee C w)
    (h : EvL C σ pos es (fun vs σ2 => OpL C (Rep C.W) (fun ws => call w ws) vs (fun v => Q v σ2)))
    (hst : (starEach es C.env).all (fun x => !x.1) = true)
    (he : eval (.Call (.Name (Str.ofString f) fp) es [] pos) C.env = (do callWith pos (← eval (.Name (Str.ofString f) fp) C.env) [] (backTo pos (starEach es C.env)) (backToKw pos (keywordEach [] C.env))))
    (hn : (Str.ofString f == ("__classdict__" : Str)) = false) (hd : (Str.ofString f == ("__debug__" : Str)) = false) : Ev C σ (.Call (.Name (Str.ofString f) fp) es [] pos) Q :=
  ev_call (ev_name ok hf ⟨w, rfl, hc, h⟩ hn hd) hst he
theorem ev_fnVA {n : Nat} (ok : C.Ok n) {f : String} {fp pos : Pos} {es : List Expr} {w : Value} {Q : V → St → Prop} (hf : find σ (Str.ofString f) = some (.val (.val w))) (hc : Callee C w)
    (h : EvL C σ pos es (fun vs σ2 => OpA C σ2 (fun ws => call w ws) vs Q))
    (hst : (starEach es C.env).all (fun x => !x.1) = true)
    (he : eval (.Call (.Name (Str.ofString f) fp) es [] pos) C.env = (do callWith pos (← eval (.Name (Str.ofString f) fp) C.env) [] (backTo pos (starEach es C.env)) (backToKw pos (keywordEach [] C.env))))
    (hn : (Str.ofString f == ("__classdict__" : Str)) = false) (hd : (Str.ofString f == ("__debug__" : Str)) = false) : Ev C σ (.Call (.Name (Str.ofString f) fp) es [] pos) Q :=
  ev_callA (ev_name ok hf ⟨w, rfl, hc, h⟩ hn hd) hst he
/-- o.name(e, ..), the method found, the call looking at the frames -/
theorem ev_methA {o : Expr} {name : Str} {apos pos : Pos} {es : List Expr} {Q : V → St → Prop}
    (h : Ev C σ o (fun a σ1 => ∃ T id, MethOk C.W a name T id ∧ EvL C σ1 pos es (fun vs σ2 => OpA C σ2 (fun ws => call (.builtin id) ws) (a :: vs) Q)))
    (hbase : attributeBase o name C.env (eval o C.env) = eval o C.env) (hst : (starEach es C.env).all (fun x => !x.1) = true) (hline : (apos.endLine == pos.line) = true) (hlen : decide (es.length < 30) = true) :
    Ev C σ (.Call (.Attribute o name apos) es [] pos) Q := by
  refine Tr.intro' fun F mine T s QQ fin hA => ?_
  rw [arm_eval_Call, hbase]
  refine wpAny_bind (Tr.then h hA fun va s1 a σ1 m1 T1 hq_ p1 a1 r1 => ?_)
  obtain ⟨Ty, id, ⟨pa, slot, hty, his⟩, hQ⟩ := hq_
  refine wpAny_bind (wpAny_standAt ?_)
  have hform : methodCallForm (es.length + ([] : List Keyword).length) (backTo pos (starEach es C.env)) (backToKw pos (keywordEach [] C.env)) = true := by
    have h1 : (backTo pos (starEach es C.env)).all (fun x => !x.1) = true := by
      have h2 := any_backTo (pos := pos) hst
      rw [List.any_eq_false] at h2
      exact List.all_eq_true.mpr fun x hx => by simpa using h2 x hx
    unfold methodCallForm
    simp only [h1, Bool.true_and, List.length_nil, Nat.add_zero, List.isEmpty_nil, if_true]
    exact hlen
  have hpos : methodCallPos true o C.env apos pos = pure pos := by unfold methodCallPos; simp [hline]
  obtain ⟨hT, hd⟩ := his _ s1 va r1 fun c o e => view_of e
  unfold methodCall
  rw [hform]
  refine wpAny_bind (wpAny_holding (getMethod_builtin hT pa slot hty hd ?_))
  refine wpAny_bind (wpAny_of_eq hpos ?_)
  refine callWith_builtin (any_backTo hst) (evalArgs_list hst (Tr.then hQ a1 fun ws s2 vs σ2 m2 T2 hQ2 p2 a2 r2 => ?_))
  refine wpAny_mono (hQ2 _ _ T2 s2 (va :: ws) a2 (.cons (r1.mono p2.le) r2)) ?_ fun _ _ x => x
  rintro v s3 ⟨b, σ3, m3, T3, q, p3, a3, r3⟩
  exact fin _ _ b σ3 m3 T3 q ((p1.trans p2).trans p3) a3 r3
/-- o.name(..), where there is no such name -/
theorem ev_methMiss {o : Expr} {name : Str} {apos pos : Pos} {es : List Expr} {Q : V → St → Prop}
    (h : Ev C σ o (fun a σ1 => ∀ F mine T s va, Abs C F mine T σ1 s → Rep C.W (view (F ++ mine) T s) a va → ∀ pl, wpAny C.M C.A (getMethod va name pl) (fun _ _ => False) C.X s))
    (hbase : attributeBase o name C.env (eval o C.env) = eval o C.env) (hst : (starEach es C.env).all (fun x => !x.1) = true) (hlen : decide (es.length < 30) = true) :
    Ev C σ (.Call (.Attribute o name apos) es [] pos) Q := by
  refine Tr.intro' fun F mine T s QQ fin hA => ?_
  rw [arm_eval_Call, hbase]
  refine wpAny_bind (Tr.then h hA fun va s1 a σ1 m1 T1 hQ p1 a1 r1 => ?_)
  refine wpAny_bind (wpAny_standAt ?_)
  have hform : methodCallForm (es.length + ([] : List Keyword).length) (backTo pos (starEach es C.env)) (backToKw pos (keywordEach [] C.env)) = true := by
    have h1 : (backTo pos (starEach es C.env)).all (fun x => !x.1) = true := by
      have h2 := any_backTo (pos := pos) hst
      rw [List.any_eq_false] at h2
      exact List.all_eq_true.mpr fun x hx => by simpa using h2 x hx
    unfold methodCallForm
    simp only [h1, Bool.true_and, List.length_nil, Nat.add_zero, List.isEmpty_nil, if_true]
    exact hlen
  unfold methodCall
  rw [hform]
  refine wpAny_bind (wpAny_holding (wpAny_mono (hQ _ _ T1 s1 va a1 r1 _) (fun _ _ x => x.elim) fun _ _ x => x))
end
section
variable {W : Wd} {A : Around} {scope : Scope} {L a : Addr} {q : Str} {cd : Value} {l : List Env} {T : TM} {s : Shared} {cls : String}
/-- what is raised in a frame is what the frame waits for -/
theorem raise_X (R : RxOk A (fnEnv scope L a q cd) L l s) {σ : St} {F mine : List Addr} {T' : TM} {s1 : Shared} (hA : Abs (rxCx W A scope L a q cd l T s cls) F mine T' σ s1) {e : Value} {s' : Shared}
    (x : Rs (fnEnv scope L a q cd :: l) T' s1 cls e s') : (rxCx W A scope L a q cd l T s cls).X e s' := by
  have keep : ∀ b o, s.heap.get? b = some o → s1.heap.get? b = some o := fun b o e => view_of (hA.base b o e)
  obtain ⟨le, same⟩ := hA.sm _ rfl
  have tok : TOk T s1.toks := ⟨hA.tok.pos, fun t y q => hA.tok.lt t y (le t y q)⟩
  rcases x with ⟨a, h', tk, rfl, rfl, ht, hx⟩ | x
  · obtain ⟨m, cm, f⟩ := hA.frm
    obtain ⟨o, es, ep, ho, hd, _⟩ := f.ns
    exact leave_new R keep ho (fun vs q => by rw [hd] at q; cases q) same tok hx ht
  · exact leave_on R keep same le x
/-- the frames stand, seen from within the frame -/
theorem rx_frames (R : RxOk A (fnEnv scope L a q cd) L l s) {σ : St} {F mine : List Addr} {T' : TM} {s1 : Shared} (hA : Abs (rxCx W A scope L a q cd l T s cls) F mine T' σ s1) : FrOk A (fnEnv scope L a q cd :: l) s1 := by
  have keep : ∀ b o, s.heap.get? b = some o → s1.heap.get? b = some o := fun b o e => view_of (hA.base b o e)
  obtain ⟨m, cm, f⟩ := hA.frm
  obtain ⟨o, es, ep, ho, hd, _⟩ := f.ns
  refine ⟨R.fr, R.hk, ⟨L, o, rfl, hideAll_none _ ?_, ho, fun vs q => by rw [hd] at q; cases q⟩, ?_⟩
  · exact List.mem_cons_self
  · have : ∀ l', (∀ b ∈ fsOf l', b ∈ fsOf l) → s.heap.FunFrames (bs s l) l' → s1.heap.FunFrames (bs s1 (fnEnv scope L a q cd :: l)) l' := by
      intro l'
      induction l' with
      | nil => intro _ _; trivial
      | cons env r ih =>
        rintro hm ⟨h1, ⟨L', o', h2, h3, h4, h5⟩, h6⟩
        refine ⟨h1, ⟨L', o', h2, hideAll_none _ (List.mem_cons_of_mem _ (hm L' ?_)), keep _ _ h4, h5⟩, ih (fun b hb => hm b ?_) h6⟩
        · rw [fsOf, List.filterMap_cons, h2]; exact List.mem_cons_self
        · rw [fsOf, List.filterMap_cons, h2]; exact List.mem_cons_of_mem _ hb
    exact this l (fun _ h => h) R.ff
theorem opA_raise (R : RxOk A (fnEnv scope L a q cd) L l s) {σ : St} {f : List Value → Sem Value} {vs : List V} {Q : V → St → Prop}
    (h : ∀ F mine T' s1 ws, Abs (rxCx W A scope L a q cd l T s cls) F mine T' σ s1 → RepL (rxCx W A scope L a q cd l T s cls).W (view (F ++ mine) T' s1) vs ws → wpAny (model W.prog W.w) A (f ws) (fun _ _ => False) (fun e s' => Rs (fnEnv scope L a q cd :: l) T' s1 cls e s') s1) : OpA (rxCx W A scope L a q cd l T s cls) σ f vs Q :=
  fun F mine T' s1 ws hA hr => wpAny_mono (h F mine T' s1 ws hA hr) (fun _ _ x => x.elim) fun e s' x => raise_X R hA x
end
end Sx
end
section
open PySem PySem.W PyProof.Rows PySem.Calls
set_option linter.unusedVariables false
set_option Elab.async false
set_option maxRecDepth 100000
namespace Sx
section
variable {M : Model} {A : Around} {E : Value → Shared → Prop} {s : Shared}
theorem getMethod_attr {v : Value} {T : String} {name : Str} {pl : Sem Bool} {Q : Value × List Value → Shared → Prop} (hT : s.TypeIs v T) (pa : PlainAttrs T) (hmiss : typeLookup (.type T) name = pure none)
    (h : wpAny M A (getAttr v name) (fun x s' => Q (x, []) s') E s) : wpAny M A (getMethod v name pl) Q E s := by
  obtain ⟨g, hg, hcan⟩ := pa.ga
  unfold getMethod
  refine wpAny_bind (wpAny_specialOf hT hg ?_)
  show wpAny M A (if (Manifest.canonical g != "object.__getattribute__") = true then _ else _) Q E s
  rw [hcan, if_neg Bool.false_ne_true]
  refine wpAny_bind (wpAny_specialOf hT pa.noGetattr ?_)
  refine wpAny_bind (wpAny_specialOf hT hmiss ?_)
  exact wpAny_bind (wpAny_mono h (fun _ _ x => wpAny_pure x) fun _ _ x => x)
end
section
variable {prog : Program} {w : World} {A : Around} {E : Value → Shared → Prop} {s : Shared} {name : Str} {Q : Value → Shared → Prop}
set_option maxRecDepth 8000 in
theorem miss_none (hmiss : typeLookup (.type "NoneType") name = pure none) (hA : A.handled = none) (h : ∀ h' tk e, Heap.NewExcOf s.heap h' e "AttributeError" → E (.ref e) { s with heap := h', toks := tk }) (hsz : name.length + 100 ≤ sizeLine) :
    wpAny (model prog w) A (getAttr .none name) Q E s := by
  obtain ⟨hp, g, d, tk, os⟩ := s
  have hT : ∀ s' : Shared, s'.TypeIs .none "NoneType" := fun _ => rfl
  have f1 := sub_AttributeError
  have f3 := F.slot_NoneType_getattribute.lookup
  have f4 := F.slot_NoneType_getattribute.bind .none
  have f5 := am_none_getattr_none
  unfold getAttr getAttrBy
  repeat (any_goals (first | assumption | exact hT _ | ((with_reducible show wpAny _ _ (call (Value.builtin "object.__getattribute__") _ _) _ _ _); refine call_meets F.slot_NoneType_getattribute (hT _) F.entry_object_getattribute (F.args_object_getattribute_2 _ _) (meets_getattribute_miss_none  name _ hmiss hsz) ⟨hA, fun h' tk' e hx => ?_⟩) | wp_step))
  obtain ⟨t', u', he⟩ := hx.there
  show wpAny _ _ (getattributeRaised _ _ _ _ _ _ _) _ _ _
  unfold getattributeRaised
  repeat (any_goals (first | assumption | wp_step))
  exact h _ _ _ hx.of
set_option maxRecDepth 8000 in
theorem miss_int {n : Int} {t : Tok} (hmiss : typeLookup (.type "int") name = pure none) (hA : A.handled = none) (h : ∀ h' tk e, Heap.NewExcOf s.heap h' e "AttributeError" → E (.ref e) { s with heap := h', toks := tk }) (hsz : name.length + 100 ≤ sizeLine) :
    wpAny (model prog w) A (getAttr (.int n t) name) Q E s := by
  obtain ⟨hp, g, d, tk, os⟩ := s
  have hT : ∀ s' : Shared, s'.TypeIs (.int n t) "int" := fun _ => rfl
  have f1 := sub_AttributeError
  have f3 := F.slot_int_getattribute.lookup
  have f4 := F.slot_int_getattribute.bind (.int n t)
  have f5 := am_int_getattr_none
  unfold getAttr getAttrBy
  repeat (any_goals (first | assumption | exact hT _ | ((with_reducible show wpAny _ _ (call (Value.builtin "int.__getattribute__") _ _) _ _ _); refine call_meets F.slot_int_getattribute (hT _) am_entry_int_getattribute (F.args_int_getattribute_2 _ _) (meets_getattribute_miss_int n t name _ hmiss hsz) ⟨hA, fun h' tk' e hx => ?_⟩) | wp_step))
  obtain ⟨t', u', he⟩ := hx.there
  show wpAny _ _ (getattributeRaised _ _ _ _ _ _ _) _ _ _
  unfold getattributeRaised
  repeat (any_goals (first | assumption | wp_step))
  exact h _ _ _ hx.of
set_option maxRecDepth 8000 in
theorem miss_str {x : Str} {t : Tok} (hmiss : typeLookup (.type "str") name = pure none) (hA : A.handled = none) (h : ∀ h' tk e, Heap.NewExcOf s.heap h' e "AttributeError" → E (.ref e) { s with heap := h', toks := tk }) (hsz : name.length + 100 ≤ sizeLine) :
    wpAny (model prog w) A (getAttr (.str x t) name) Q E s := by
  obtain ⟨hp, g, d, tk, os⟩ := s
  have hT : ∀ s' : Shared, s'.TypeIs (.str x t) "str" := fun _ => rfl
  have f1 := sub_AttributeError
  have f3 := F.slot_str_getattribute.lookup
  have f4 := F.slot_str_getattribute.bind (.str x t)
  have f5 := am_str_getattr_none
  unfold getAttr getAttrBy
  repeat (any_goals (first | assumption | exact hT _ | ((with_reducible show wpAny _ _ (call (Value.builtin "object.__getattribute__") _ _) _ _ _); refine call_meets F.slot_str_getattribute (hT _) F.entry_object_getattribute (F.args_object_getattribute_2 _ _) (meets_getattribute_miss_str x t name _ hmiss hsz) ⟨hA, fun h' tk' e hx => ?_⟩) | wp_step))
  obtain ⟨t', u', he⟩ := hx.there
  show wpAny _ _ (getattributeRaised _ _ _ _ _ _ _) _ _ _
  unfold getattributeRaised
  repeat (any_goals (first | assumption | wp_step))
  exact h _ _ _ hx.of
set_option maxRecDepth 8000 in
theorem miss_list {a : Addr} {o : Obj} {xs : Array Value} {k : Nat} (hx0 : s.heap.get? a = some o) (hc : o.cls = .type "list") (hdat : o.data = .seq xs k) (hd : o.dict = none) (hmiss : typeLookup (.type "list") name = pure none) (hname : (["__module__", "__name__", "__qualname__", "__doc__", "__annotations__"] : List Str).contains name = false) (hA : A.handled = none) (h : ∀ h' tk e, Heap.NewExcOf s.heap h' e "AttributeError" → E (.ref e) { s with heap := h', toks := tk }) (hsz : name.length + 100 ≤ sizeLine) :
    wpAny (model prog w) A (getAttr (.ref a) name) Q E s := by
  obtain ⟨c, dct, dat, sl⟩ := o
  simp only at hc hdat hd
  subst hc hdat hd
  obtain ⟨hp, g, d, tk, os⟩ := s
  have hT : ∀ tk', (⟨hp, g, d, tk', os⟩ : Shared).TypeIs (.ref a) "list" := fun _ => ⟨_, hx0, rfl⟩
  have f1 := sub_AttributeError
  have f3 := F.slot_list_getattribute.lookup
  have f4 := F.slot_list_getattribute.bind (.ref a)
  have f5 := am_list_getattr_none
  unfold getAttr getAttrBy
  repeat (any_goals (first | assumption | exact hT _ | ((with_reducible show wpAny _ _ (call (Value.builtin "list.__getattribute__") _ _) _ _ _); refine call_meets F.slot_list_getattribute (hT _) am_entry_list_getattribute (F.args_list_getattribute_2 _ _) (meets_getattribute_miss_list a xs k sl name _ hmiss hname hsz) ⟨hx0, hA, fun h' tk' e hx => ?_⟩) | wp_step))
  obtain ⟨t', u', he⟩ := hx.there
  show wpAny _ _ (getattributeRaised _ _ _ _ _ _ _) _ _ _
  unfold getattributeRaised
  repeat (any_goals (first | assumption | wp_step))
  exact h _ _ _ hx.of
set_option maxRecDepth 8000 in
theorem miss_tuple {a : Addr} {o : Obj} {xs : Array Value} {k : Nat} (hx0 : s.heap.get? a = some o) (hc : o.cls = .type "tuple") (hdat : o.data = .seq xs k) (hd : o.dict = none) (hmiss : typeLookup (.type "tuple") name = pure none) (hname : (["__module__", "__name__", "__qualname__", "__doc__", "__annotations__"] : List Str).contains name = false) (hA : A.handled = none) (h : ∀ h' tk e, Heap.NewExcOf s.heap h' e "AttributeError" → E (.ref e) { s with heap := h', toks := tk }) (hsz : name.length + 100 ≤ sizeLine) :
    wpAny (model prog w) A (getAttr (.ref a) name) Q E s := by
  obtain ⟨c, dct, dat, sl⟩ := o
  simp only at hc hdat hd
  subst hc hdat hd
  obtain ⟨hp, g, d, tk, os⟩ := s
  have hT : ∀ tk', (⟨hp, g, d, tk', os⟩ : Shared).TypeIs (.ref a) "tuple" := fun _ => ⟨_, hx0, rfl⟩
  have f1 := sub_AttributeError
  have f3 := F.slot_tuple_getattribute.lookup
  have f4 := F.slot_tuple_getattribute.bind (.ref a)
  have f5 := am_tuple_getattr_none
  unfold getAttr getAttrBy
  repeat (any_goals (first | assumption | exact hT _ | ((with_reducible show wpAny _ _ (call (Value.builtin "tuple.__getattribute__") _ _) _ _ _); refine call_meets F.slot_tuple_getattribute (hT _) am_entry_tuple_getattribute (F.args_tuple_getattribute_2 _ _) (meets_getattribute_miss_tuple a xs k sl name _ hmiss hname hsz) ⟨hx0, hA, fun h' tk' e hx => ?_⟩) | wp_step))
  obtain ⟨t', u', he⟩ := hx.there
  show wpAny _ _ (getattributeRaised _ _ _ _ _ _ _) _ _ _
  unfold getattributeRaised
  repeat (any_goals (first | assumption | wp_step))
  exact h _ _ _ hx.of
set_option maxRecDepth 8000 in
theorem miss_dict {a : Addr} {o : Obj} {es : Array DictEntry} {k : Nat} (hx0 : s.heap.get? a = some o) (hc : o.cls = .type "dict") (hdat : o.data = .dict es k) (hd : o.dict = none) (hmiss : typeLookup (.type "dict") name = pure none) (hname : (["__module__", "__name__", "__qualname__", "__doc__", "__annotations__"] : List Str).contains name = false) (hA : A.handled = none) (h : ∀ h' tk e, Heap.NewExcOf s.heap h' e "AttributeError" → E (.ref e) { s with heap := h', toks := tk }) (hsz : name.length + 100 ≤ sizeLine) :
    wpAny (model prog w) A (getAttr (.ref a) name) Q E s := by
  obtain ⟨c, dct, dat, sl⟩ := o
  simp only at hc hdat hd
  subst hc hdat hd
  obtain ⟨hp, g, d, tk, os⟩ := s
  have hT : ∀ tk', (⟨hp, g, d, tk', os⟩ : Shared).TypeIs (.ref a) "dict" := fun _ => ⟨_, hx0, rfl⟩
  have f1 := sub_AttributeError
  have f3 := F.slot_dict_getattribute.lookup
  have f4 := F.slot_dict_getattribute.bind (.ref a)
  have f5 := am_dict_getattr_none
  unfold getAttr getAttrBy
  repeat (any_goals (first | assumption | exact hT _ | ((with_reducible show wpAny _ _ (call (Value.builtin "dict.__getattribute__") _ _) _ _ _); refine call_meets F.slot_dict_getattribute (hT _) am_entry_dict_getattribute (F.args_dict_getattribute_2 _ _) (meets_getattribute_miss_dict a es k sl name _ hmiss hname hsz) ⟨hx0, hA, fun h' tk' e hx => ?_⟩) | wp_step))
  obtain ⟨t', u', he⟩ := hx.there
  show wpAny _ _ (getattributeRaised _ _ _ _ _ _ _) _ _ _
  unfold getattributeRaised
  repeat (any_goals (first | assumption | wp_step))
  exact h _ _ _ hx.of
end
end Sx
end
section
open PySem PySem.W PyProof.Rows PySem.Calls
set_option linter.unusedVariables false
set_option Elab.async false
set_option maxRecDepth 100000
namespace Sx
theorem rs_of {M : Model} {A : Around} {α : Type} {t : Sem α} {l : List Env} {T : TM} {s : Shared} {cls : String} (h : ∀ E : Value → Shared → Prop, (∀ h' tk e, Heap.NewExcOf s.heap h' e cls → E (.ref e) { s with heap := h', toks := tk }) → wpAny M A t (fun _ _ => False) E s) :
    wpAny M A t (fun _ _ => False) (fun e s' => Rs l T s cls e s') s :=
  wpAny_with_toks (n := s.toks) (Nat.le_refl _) (wpAny_mono (h (fun e s' => s.toks ≤ s'.toks → Rs l T s cls e s') fun h' tk e hx ht => .inl ⟨e, h', tk, rfl, rfl, ht, hx⟩) (fun _ _ x => x.elim) fun _ _ x => x)
/-- what is no text -/
noncomputable def NoText : Value → Prop
  | .none => True
  | .int _ _ => True
  | .bytes _ _ => True
  | _ => False
section
variable {prog : Program} {w : World} {A : Around} {E : Value → Shared → Prop} {s : Shared} {Q : Value → Shared → Prop}
set_option maxHeartbeats 2000000 in
theorem strArg_bad {id which : String} {v : Value} (hA : A.handled = none) (hv : NoText v) {Q : Str → Shared → Prop} (h : ∀ h' tk e, Heap.NewExcOf s.heap h' e "TypeError" → E (.ref e) { s with heap := h', toks := tk }) (hw : which = "1" ∨ which = "2") : wpAny (model prog w) A (Builtin.Str.strArg id "replace" which v) Q E s := by
  unfold Builtin.Str.strArg
  rcases hw with rfl | rfl
  all_goals
    cases v with
    | none =>
      repeat (any_goals (first | assumption | wp_step))
      exact wpAny_raiseTypeError hA (fun h' tk e hx => h h' tk e hx.of)
    | int n t =>
      repeat (any_goals (first | assumption | wp_step))
      exact wpAny_raiseTypeError hA (fun h' tk e hx => h h' tk e hx.of)
    | bytes b t =>
      repeat (any_goals (first | assumption | wp_step))
      exact wpAny_raiseTypeError hA (fun h' tk e hx => h h' tk e hx.of)
    | _ => exact hv.elim
end
end Sx
end
section
open PySem PySem.W PyProof.Rows PySem.Calls
set_option linter.unusedVariables false
set_option Elab.async false
set_option maxRecDepth 100000
namespace Sx
section
variable {prog : Program} {w : World} {A : Around} {E : Value → Shared → Prop} {s : Shared} {Q : Value → Shared → Prop}
theorem bindOpt2 (k v : Value) : Builtin.Str.bindOptional "str.replace" "replace" 2 ["count"] [k, v] [] = pure [some k, some v, none] := by rfl
theorem strArg_str {id f which : String} {y : Str} {u : Tok} {Q : Str → Shared → Prop} (h : Q y s) : wpAny (model prog w) A (Builtin.Str.strArg id f which (.str y u)) Q E s := by
  unfold Builtin.Str.strArg
  exact wpAny_bind (wpAny_pure (wpAny_pure h))
theorem replace_bad {x : Str} {t : Tok} {k v : Value} (hA : A.handled = none) (hb : NoText k ∨ ((∃ y u, k = .str y u) ∧ NoText v)) (h : ∀ h' tk e, Heap.NewExcOf s.heap h' e "TypeError" → E (.ref e) { s with heap := h', toks := tk }) :
    wpAny (model prog w) A (call (.builtin "str.replace") [.str x t, k, v]) Q E s := by
  refine wpAny_call_entry PySem.F.slot_str_replace (typeIs_str _ _ _) PySem.F.entry_str_replace ?_ (PySem.F.args_str_replace_3 _ _ _)
  unfold Builtin.«str.replace»
  refine wpAny_bind ?_
  unfold Builtin.Str.strSelf
  refine wpAny_bind (wpAny_pure (wpAny_pure ?_))
  refine wpAny_bind (wpAny_of_eq (bindOpt2 k v) ?_)
  rcases hb with hb | ⟨⟨y, u, rfl⟩, hb⟩
  · exact wpAny_bind (strArg_bad (A := A.in1) hA hb h (.inl rfl))
  · refine wpAny_bind (strArg_str ?_)
    exact wpAny_bind (strArg_bad (A := A.in1) hA hb h (.inr rfl))
theorem slot_bytes_replace : PySem.Slot "bytes" "replace" "bytes.replace" :=
  .of (owner := "bytes") (n := "replace") (by rw [typeLookup_type, builtinLookup_eq_fast]; kernel_rfl) (by decide +kernel) (by decide +kernel) (by decide +kernel) (by first | exact .inl rfl | exact .inr rfl | decide +kernel) (by rw [isSubtype_type]; kernel_rfl)
theorem type_bytes_replace : typeOf (.builtin "bytes.replace") = pure (.type "method_descriptor") := by show builtinType _ = _; rw [builtinType_eq_fast]; kernel_rfl
theorem entry_bytes_replace : entryFor table "bytes.replace" = some Builtin.«bytes.replace» := entryFor_of_tree (by kernel_rfl)
theorem args_bytes_replace_3 (a b c : Value) : argsOk "bytes.replace" ⟨[a, b, c], []⟩ := by
  unfold argsOk; rw [signature?_of (id := "bytes.replace") (n := ['e', 'c', 'a', 'l', 'p', 'e', 'r']) (o := ['s', 'e', 't', 'y', 'b']) (by kernel_rfl) FB.owner_bytes]; kernel_rfl
theorem str_no_buffer : typeLookup (.type "str") "__buffer__" = pure none := am_miss_of_fast (by decide +kernel)
set_option maxHeartbeats 2000000 in
theorem bytes_bad {b : Array UInt8} {t u v : Tok} {x y : Str} (hA : A.handled = none) (h : ∀ h' tk e, Heap.NewExcOf s.heap h' e "TypeError" → E (.ref e) { s with heap := h', toks := tk }) :
    wpAny (model prog w) A (call (.builtin "bytes.replace") [.bytes b t, .str x u, .str y v]) Q E s := by
  refine wpAny_call_entry slot_bytes_replace (show s.TypeIs (.bytes b t) "bytes" from rfl) entry_bytes_replace ?_ (args_bytes_replace_3 _ _ _)
  unfold Builtin.«bytes.replace» Builtin.Bytes.replaceM
  refine wpAny_bind ?_
  have hk : selfAndSome (toString Builtin.Bytes.Kind.bytes.name ++ toString ".replace") "replace" 2 3 { pos := [.bytes b t, .str x u, .str y v] } = pure (.bytes b t, [.str x u, .str y v]) := by rfl
  rw [hk]
  refine wpAny_pure ?_
  refine wpAny_bind ?_
  unfold Builtin.Bytes.bytesLike Builtin.Bytes.buffer?
  refine wpAny_bind (wpAny_bind (wpAny_specialOf (typeIs_str _ _ _) str_no_buffer ?_))
  refine wpAny_bind (wpAny_specialOf (typeIs_str _ _ _) str_no_buffer (wpAny_pure ?_))
  repeat (any_goals (first | assumption | wp_step))
  exact wpAny_raiseTypeError hA fun h' tk e hx => h h' tk e hx.of
end
end Sx
end
section
open PySem PySem.W PyProof.Rows PySem.Calls
set_option linter.unusedVariables false
set_option Elab.async false
set_option maxRecDepth 100000
namespace Sx
section
variable {prog : Program} {w : World} {A : Around} {E : Value → Shared → Prop} {s : Shared}
theorem run_let_go {M : Model} {A : Around} {E : Value → Shared → Prop} {s : Shared} {l : List Value} {Q : Unit → Shared → Prop} (hM : ∃ p w, M = model p w) (h : Q () s) : wpAny M A (do let _ ← holding l (runValue (.builtin "proto.let_go" {})); pure ()) Q E s := by
  obtain ⟨p, w, rfl⟩ := hM
  exact wpAny_bind (wpAny_holding (wpAny_runValue (codeAny_builtin entry_let_go (show wpAny _ _ (ret .none) _ _ s from wpAny_pure (wpAny_pure h)))))
theorem newExc_then {h0 h1 h2 : Heap} {e1 e2 : Addr} {c1 c2 : String} (x : Heap.NewExcOf h0 h1 e1 c1) (y : Heap.NewExcOf h1 h2 e2 c2) : Heap.NewExcOf h0 h2 e2 c2 := by
  refine ⟨fun b o e => y.keeps b o (x.keeps b o e), ?_, y.there⟩
  cases q : h0.get? e2 with
  | none => rfl
  | some o => have := x.keeps _ _ q; rw [y.new] at this; cases this
/-- what is no mapping -/
structure NoMap (A : Around) (s : Shared) (m : Value) (T : String) : Prop where
  ty : ∀ s' : Shared, (∀ b o, s.heap.get? b = some o → s'.heap.get? b = some o) → s'.TypeIs m T
  sub : isSubtype (.type T) (.type "dict") = pure false
  miss : ∀ (prog : Program) (w : World) (E : Value → Shared → Prop) (Q : Value → Shared → Prop), (∀ h' tk e, Heap.NewExcOf s.heap h' e "AttributeError" → E (.ref e) { s with heap := h', toks := tk }) → wpAny (model prog w) A (getAttr m "keys") Q E s
  nb : (Value.type T == Value.type "builtin_function_or_method") = false
  short : (shownName T).length ≤ 100
theorem merge_bad {d : Addr} {m : Value} {T : String} (N : NoMap A s m T) {Q : Unit → Shared → Prop} (h : ∀ h' tk e, Heap.NewExcOf s.heap h' e "AttributeError" → E (.ref e) { s with heap := h', toks := tk }) :
    wpAny (model prog w) A (mergeMapping d m false) Q E s := by
  unfold mergeMapping
  refine wpAny_bind (wpAny_isInstance (N.ty s fun _ _ e => e) N.sub ?_)
  refine wpAny_bind (wpAny_pure ?_)
  exact wpAny_bind (N.miss _ _ _ _ h)
theorem star_bad {d : Addr} {m : Value} {T : String} (N : NoMap A s m T) (hA : A.handled = none) {Q : Unit → Shared → Prop} (h : ∀ h' tk e, Heap.NewExcOf s.heap h' e "TypeError" → E (.ref e) { s with heap := h', toks := tk }) :
    wpAny (model prog w) A ((((holding [.ref d, m] (mergeMapping d m false)).onRaise fun x => do let _ ← holding [.ref d, m, x] (runValue (.builtin "proto.let_go" {}))).tryCatch fun e => do
        if ← isInstance e (.type "AttributeError") then
          rule "dict.display.not-a-mapping"; raiseError "TypeError" s!"'{← typeNameOf m}' object is not a mapping"
        throw e).onRaise fun x => do let _ ← holding [.ref d, x] (runValue (.builtin "proto.let_go" {}))) Q E s := by
  refine wpAny_onRaise (wpAny_tryCatch (wpAny_onRaise (wpAny_holding (merge_bad N fun h' tk e hx => ?_))))
  refine run_let_go ⟨_, _, rfl⟩ ?_
  obtain ⟨ob, vs, he, hc, hv, _⟩ := hx.there
  refine wpAny_bind (wpAny_isInstance (T := "AttributeError") (show Shared.TypeIs _ (.ref e) _ from ⟨ob, he, hc⟩) sub_AttributeError ?_)
  rw [if_pos rfl]
  refine wpAny_bind (wpAny_rule ?_)
  refine wpAny_bind (wpAny_typeNameOf' (N.ty { s with heap := h', toks := tk } fun b o q => hx.keeps b o q) N.nb ?_)
  refine wpAny_bind (wpAny_raiseTypeError hA (fun h2 tk2 e2 hx2 => ?_) ?_)
  · refine run_let_go ⟨_, _, rfl⟩ ?_
    exact h h2 tk2 e2 (newExc_then hx hx2.of)
  · have h1 := N.short
    rw [PySem.ofString_length, sizeLine_eq]
    simp only [String.length_append, toString]
    have e1 : "'".length ≤ 100 := by decide
    have e2 : "' object is not a mapping".length ≤ 100 := by decide
    omega
end
section
variable {prog : Program} {w : World} {A : Around} {E : Value → Shared → Prop} {s : Shared} {name : Str} {Q : Value → Shared → Prop}
set_option maxRecDepth 8000 in
theorem miss_bool {b : Bool} (hmiss : typeLookup (.type "bool") name = pure none) (hA : A.handled = none) (h : ∀ h' tk e, Heap.NewExcOf s.heap h' e "AttributeError" → E (.ref e) { s with heap := h', toks := tk }) (hsz : name.length + 100 ≤ sizeLine) :
    wpAny (model prog w) A (getAttr (.bool b) name) Q E s := by
  obtain ⟨hp, g, d, tk, os⟩ := s
  have hT : ∀ s' : Shared, s'.TypeIs (.bool b) "bool" := fun _ => rfl
  have f1 := sub_AttributeError
  have f3 := F.slot_bool_getattribute.lookup
  have f4 := F.slot_bool_getattribute.bind (.bool b)
  have f5 := am_bool_getattr_none
  unfold getAttr getAttrBy
  repeat (any_goals (first | assumption | exact hT _ | ((with_reducible show wpAny _ _ (call (Value.builtin "int.__getattribute__") _ _) _ _ _); refine call_meets F.slot_bool_getattribute (hT _) am_entry_int_getattribute (F.args_int_getattribute_2 _ _) (meets_getattribute_miss_bool b name _ hmiss hsz) ⟨hA, fun h' tk' e hx => ?_⟩) | wp_step))
  obtain ⟨t', u', he⟩ := hx.there
  show wpAny _ _ (getattributeRaised _ _ _ _ _ _ _) _ _ _
  unfold getattributeRaised
  repeat (any_goals (first | assumption | wp_step))
  exact h _ _ _ hx.of
end
section
variable {W : Wd} {A : Around} {g : PH} {s : Shared}
/-- values that are no mappings -/
inductive NoMapV : V → Prop
  | none : NoMapV .none
  | bool (b : Bool) : NoMapV (.bool b)
  | int (i : Int) : NoMapV (.int i)
  | str (l : S) : NoMapV (.str l)
  | lst (vs : List V) : NoMapV (.lst vs)
  | tup (vs : List V) : NoMapV (.tup vs)
theorem keys_len : (Str.ofString "keys").length + 100 ≤ sizeLine := by rw [PySem.ofString_length, sizeLine_eq]; decide
theorem noMap_of {v : V} (hv : NoMapV v) {m : Value} (hA : A.handled = Option.none) (hg : ∀ c o, g.ob c = some o → s.heap.get? c = some o) (r : Rep W g v m) : ∃ T, NoMap A s m T := by
  cases hv with
  | none => cases r; exact ⟨"NoneType", fun _ _ => rfl, by rw [isSubtype_type]; kernel_rfl, fun _ _ _ _ h => miss_none (am_miss_of_fast (by decide +kernel)) hA h keys_len, by decide, by decide⟩
  | bool b => cases r; exact ⟨"bool", fun _ _ => rfl, by rw [isSubtype_type]; kernel_rfl, fun _ _ _ _ h => miss_bool (am_miss_of_fast (by decide +kernel)) hA h keys_len, by decide, by decide⟩
  | int i => obtain ⟨t, rfl⟩ := r.int_inv; exact ⟨"int", fun _ _ => rfl, by rw [isSubtype_type]; kernel_rfl, fun _ _ _ _ h => miss_int (am_miss_of_fast (by decide +kernel)) hA h keys_len, by decide, by decide⟩
  | str l => obtain ⟨t, rfl, _⟩ := r.str_inv; exact ⟨"str", fun _ _ => rfl, by rw [isSubtype_type]; kernel_rfl, fun _ _ _ _ h => miss_str (am_miss_of_fast (by decide +kernel)) hA h keys_len, by decide, by decide⟩
  | lst vs =>
    obtain ⟨a, o, ws, n, rfl, h1, h2, h3, h4, _⟩ := r.lst_inv
    exact ⟨"list", fun s' k => ⟨o, k _ _ (hg _ _ h1), h2⟩, by rw [isSubtype_type]; kernel_rfl, fun _ _ _ _ h => miss_list (hg _ _ h1) h2 h4 h3 (am_miss_of_fast (by decide +kernel)) (by decide +kernel) hA h keys_len, by decide, by decide⟩
  | tup vs =>
    obtain ⟨a, o, ws, n, rfl, h1, h2, h3, h4, _⟩ := r.tup_inv'
    exact ⟨"tuple", fun s' k => ⟨o, k _ _ (hg _ _ h1), h2⟩, by rw [isSubtype_type]; kernel_rfl, fun _ _ _ _ h => miss_tuple (hg _ _ h1) h2 h4 h3 (am_miss_of_fast (by decide +kernel)) (by decide +kernel) hA h keys_len, by decide, by decide⟩
end
end Sx
end
section
open PySem PySem.W PyProof.Rows PySem.Calls
set_option linter.unusedVariables false
set_option Elab.async false
set_option maxRecDepth 100000
namespace Sx
noncomputable def tyV : V → String
  | .none => "NoneType"
  | .bool _ => "bool"
  | .int _ => "int"
  | .str _ => "str"
  | .bytes _ => "bytes"
  | .lst _ => "list"
  | .tup _ => "tuple"
  | .dct _ => "dict"
  | _ => ""
/-- values whose missing names are known -/
inductive MissV : V → Prop
  | none : MissV .none
  | int (i : Int) : MissV (.int i)
  | str (l : S) : MissV (.str l)
  | lst (vs : List V) : MissV (.lst vs)
  | tup (vs : List V) : MissV (.tup vs)
  | dct (es : List (Key × V)) : MissV (.dct es)
section
variable {W : Wd} {A : Around} {E : Value → Shared → Prop} {g : PH} {s : Shared}
theorem getMethod_missV {v : V} (hv : MissV v) {name : Str} (hmiss : typeLookup (.type (tyV v)) name = pure Option.none) (hname : (["__module__", "__name__", "__qualname__", "__doc__", "__annotations__"] : List Str).contains name = false) (hsz : name.length + 100 ≤ sizeLine) (hA : A.handled = Option.none)
    (hg : ∀ c o, g.ob c = some o → s.heap.get? c = some o) {m : Value} (r : Rep W g v m) {pl : Sem Bool} {Q : Value × List Value → Shared → Prop} (h : ∀ h' tk e, Heap.NewExcOf s.heap h' e "AttributeError" → E (.ref e) { s with heap := h', toks := tk }) :
    wpAny (model W.prog W.w) A (getMethod m name pl) Q E s := by
  cases hv with
  | none => cases r; exact getMethod_attr (T := "NoneType") rfl PySem.F.plainAttrs_NoneType hmiss (miss_none hmiss hA h hsz)
  | int i => obtain ⟨t, rfl⟩ := r.int_inv; exact getMethod_attr (T := "int") rfl PySem.F.plainAttrs_int hmiss (miss_int hmiss hA h hsz)
  | str l => obtain ⟨t, rfl, _⟩ := r.str_inv; exact getMethod_attr (T := "str") rfl PySem.F.plainAttrs_str hmiss (miss_str hmiss hA h hsz)
  | lst vs =>
    obtain ⟨a, o, ws, n, rfl, h1, h2, h3, h4, _⟩ := r.lst_inv
    exact getMethod_attr (T := "list") ⟨o, hg _ _ h1, h2⟩ PySem.F.plainAttrs_list hmiss (miss_list (hg _ _ h1) h2 h4 h3 hmiss hname hA h hsz)
  | tup vs =>
    obtain ⟨a, o, ws, n, rfl, h1, h2, h3, h4, _⟩ := r.tup_inv'
    exact getMethod_attr (T := "tuple") ⟨o, hg _ _ h1, h2⟩ PySem.F.plainAttrs_tuple hmiss (miss_tuple (hg _ _ h1) h2 h4 h3 hmiss hname hA h hsz)
  | dct es =>
    obtain ⟨a, o, ds, kvs, n, rfl, h1, h0, h2, h3, _⟩ := r.dct_inv
    exact getMethod_attr (T := "dict") ⟨o, hg _ _ h1, h2.1⟩ PySem.F.plainAttrs_dict hmiss (miss_dict (hg _ _ h1) h2.1 h3 h2.2.1 hmiss hname hA h hsz)
end
inductive NoTextV : V → Prop
  | none : NoTextV .none
  | int (i : Int) : NoTextV (.int i)
  | bytes (b : Array UInt8) : NoTextV (.bytes b)
theorem noText_of {W : Wd} {g : PH} {v : V} (hv : NoTextV v) {m : Value} (r : Rep W g v m) : NoText m := by
  cases hv with
  | none => cases r; trivial
  | int i => obtain ⟨t, rfl⟩ := r.int_inv; trivial
  | bytes b => cases r; trivial
theorem methOk_bytes {W : Wd} {b : Array UInt8} {name : Str} {id : String} (slot : PySem.Slot "bytes" name id) (hty : typeOf (.builtin id) = pure (.type "method_descriptor")) : MethOk W (.bytes b) name "bytes" id :=
  ⟨FB.plainAttrs_bytes, slot, hty, fun g s va r _ => by cases r; exact ⟨rfl, fun x e => nomatch e⟩⟩
section
variable {W : Wd} {A : Around} {scope : Scope} {L a : Addr} {q : Str} {cd : Value} {l : List Env} {T : TM} {s : Shared} {cls : String} {σ : St}
theorem ev_missR (R : RxOk A (fnEnv scope L a q cd) L l s) (hA : A.handled = none) {o : Expr} {name : Str} {apos pos : Pos} {es : List Expr} {Q : V → St → Prop}
    (h : Ev (rxCx W A scope L a q cd l T s "AttributeError") σ o (fun v σ1 => MissV v ∧ typeLookup (.type (tyV v)) name = pure none))
    (hname : (["__module__", "__name__", "__qualname__", "__doc__", "__annotations__"] : List Str).contains name = false) (hsz : name.length + 100 ≤ sizeLine)
    (hbase : attributeBase o name (fnEnv scope L a q cd) (eval o (fnEnv scope L a q cd)) = eval o (fnEnv scope L a q cd)) (hst : (starEach es (fnEnv scope L a q cd)).all (fun x => !x.1) = true) (hlen : decide (es.length < 30) = true) :
    Ev (rxCx W A scope L a q cd l T s "AttributeError") σ (.Call (.Attribute o name apos) es [] pos) Q := by
  refine ev_methMiss (h.mono fun v σ1 hv F mine T' s1 va hAb r pl => ?_) hbase hst hlen
  refine wpAny_mono (rs_of (cls := "AttributeError") (l := fnEnv scope L a q cd :: l) (T := T') fun E hE => getMethod_missV hv.1 hv.2 hname hsz hA (fun c o e => view_of e) r hE) (fun _ _ x => x) fun e s' x => raise_X R hAb x
theorem opA_replace (R : RxOk A (fnEnv scope L a q cd) L l s) (hA : A.handled = none) {x : S} {k v : V} (hb : NoTextV k ∨ ((∃ y, k = .str y) ∧ NoTextV v)) {Q : V → St → Prop} : OpA (rxCx W A scope L a q cd l T s "TypeError") σ (fun ws => call (.builtin "str.replace") ws) [.str x, k, v] Q := by
  refine opA_raise R fun F mine T' s1 ws hAb hr => ?_
  obtain ⟨_, _, rfl, r1, hr⟩ := hr.cons_inv
  obtain ⟨_, _, rfl, r2, hr⟩ := hr.cons_inv
  obtain ⟨_, _, rfl, r3, hr⟩ := hr.cons_inv
  obtain rfl := hr.nil_inv
  obtain ⟨t, rfl, _⟩ := r1.str_inv
  refine rs_of fun E hE => replace_bad hA ?_ hE
  rcases hb with hb | ⟨⟨y, rfl⟩, hb⟩
  · exact .inl (noText_of hb r2)
  · obtain ⟨u, rfl, _⟩ := r2.str_inv
    exact .inr ⟨⟨_, _, rfl⟩, noText_of hb r3⟩
theorem opA_bytes (R : RxOk A (fnEnv scope L a q cd) L l s) (hA : A.handled = none) {b : Array UInt8} {x y : S} {Q : V → St → Prop} : OpA (rxCx W A scope L a q cd l T s "TypeError") σ (fun ws => call (.builtin "bytes.replace") ws) [.bytes b, .str x, .str y] Q := by
  refine opA_raise R fun F mine T' s1 ws hAb hr => ?_
  obtain ⟨_, _, rfl, r1, hr⟩ := hr.cons_inv
  obtain ⟨_, _, rfl, r2, hr⟩ := hr.cons_inv
  obtain ⟨_, _, rfl, r3, hr⟩ := hr.cons_inv
  obtain rfl := hr.nil_inv
  obtain ⟨t, rfl, _⟩ := r2.str_inv
  obtain ⟨u, rfl, _⟩ := r3.str_inv
  cases r1
  exact rs_of fun E hE => bytes_bad hA hE
end
end Sx
end
section
open PySem PySem.W PyProof.Rows PySem.Calls
set_option linter.unusedVariables false
set_option Elab.async false
set_option maxRecDepth 100000
namespace Sx
section
variable {W : Wd} {A : Around} {scope : Scope} {L a : Addr} {q : Str} {cd : Value} {l : List Env} {T : TM} {s : Shared} {σ : St}
/-- {**x, ..}, where x is no mapping -/
theorem evF_starR (R : RxOk A (fnEnv scope L a q cd) L l s) (hAh : A.handled = none) {keys : List (Option Expr)} {v0 : Expr} {values : List Expr} {pos : Pos} {Q : Slot → St → Prop}
    (h : Ev (rxCx W A scope L a q cd l T s "TypeError") σ v0 (fun v σ1 => NoMapV v))
    (h1 : keys.all (·.isSome) = true) (h2 : keys.length = values.length) : EvF (rxCx W A scope L a q cd l T s "TypeError") σ (eval (.Dict (none :: keys) (v0 :: values) pos) (fnEnv scope L a q cd)) Q := by
  refine EvF.intro' fun F mine T' s1 QQ fin hA => ?_
  have hshape : (evalEachOpt (none :: keys) (fnEnv scope L a q cd)).zip ((evalEach (v0 :: values) (fnEnv scope L a q cd)).map fun v => do let x ← v; standAt pos; pure x) = (none, (do let x ← eval v0 (fnEnv scope L a q cd); standAt pos; pure x)) :: (dpairs (fnEnv scope L a q cd) pos keys values).map fun p => (some p.1, p.2) := by
    exact congrArg (fun r => ((none, (do let x ← eval v0 (fnEnv scope L a q cd); standAt pos; pure x)) : Option (Sem Value) × Sem Value) :: r) (dpairs_shape (env := fnEnv scope L a q cd) (pos := pos) keys values h1 h2)
  rw [arm_eval_Dict, hshape]
  refine wpAny_bind (wpAny_standAt ?_)
  unfold dictDisplay
  dsimp only
  rw [List.forIn_cons]
  refine wpAny_bind (wpAny_bind ?_)
  obtain ⟨d, hd⟩ : ∃ d, s1.heap.objs.size = d := ⟨_, rfl⟩
  refine wpAny_bind (wpAny_pure (wpAny_bind (wpAny_alloc (wpAny_bind (wpAny_holding ?_)))))
  rw [hd]
  have hn : s1.heap.get? d = none := hd ▸ fresh_size _
  have k0 : Kp T' s1 T' { s1 with heap := s1.heap.push { cls := .type "dict", data := .dict #[] } } := .push hA.tok (Nat.le_refl _)
  have hd0 : (s1.heap.push { cls := .type "dict", data := .dict #[] }).get? d = some { cls := .type "dict", data := .dict #[] } := by rw [← hd]; exact Heap.get?_push_size _ rfl
  obtain ⟨hh, hh0⟩ : ∃ hh, s1.heap.push { cls := .type "dict", data := .dict #[] } = hh := ⟨_, rfl⟩
  rw [hh0] at hd0 k0 ⊢
  obtain ⟨a0, le0, hcd, hdm⟩ := hA.lend k0 hn (by show (hh.get? d).isSome = true; rw [hd0]; rfl)
  refine Tr.then (evT_stand (C := rxCx W A scope L a q cd l T s "TypeError") h) a0 fun vm s2 v σ1 m1 T1 hv p1 a1 r1 => ?_
  obtain ⟨Ty, N⟩ := noMap_of hv hAh (fun c o e => view_of e) r1
  exact wpAny_bind (wpAny_mono (rs_of (cls := "TypeError") (l := fnEnv scope L a q cd :: l) (T := T1) fun E hE => star_bad N hAh hE) (fun _ _ x => x.elim) fun e s' x => raise_X R a1 x)
end
end Sx
end
section
open PySem PySem.W PyProof.Rows PySem.Calls
set_option linter.unusedVariables false
set_option Elab.async false
set_option maxRecDepth 100000
namespace Sx
/-- a frame of an own def, whatever is waited for -/
noncomputable def rzCx (W : Wd) (A : Around) (scope : Scope) (L a : Addr) (q : Str) (cd : Value) (T : TM) (s : Shared) (X : Value → Shared → Prop) : Cx :=
  { W := { W with h₀ := s.heap }, A := A, env := fnEnv scope L a q cd, ownC := true, X := X, an := none, st := some (s, T) }
/-- into a def's frame -/
theorem fn_enter {C : Cx} {n : Nat} (ok : C.Ok (n + 1)) {a : Addr} {fd : FuncData} {body : List Stmt} (fn : FnAt C.W a fd body) {ps : List String} {vs : List V} {l : List Env} {Q E : Value → Shared → Prop}
    (hb : ∀ (s : Shared) (ws : List Value), (∀ b o, C.W.h₀.get? b = some o → s.heap.get? b = some o) → ws.length = vs.length → BindsTo s fd ⟨ws, []⟩ ((ps.map Str.ofString).zip ws))
    (hnd : ps.Nodup) (hnm : namesOk fd.scope ps = true)
    {own : List Addr} {T : TM} {s : Shared} {ws : List Value} (hO : OwnOk C own T s) (hr : RepL C.W (view own T s) vs ws) (hf : FrOk C.A l s)
    (walk : ∀ A L q cd s₀ mine, RxOk A (fnEnv fd.scope L a q cd) L l s → (∀ X, PassesOwn C.M A (fnEnv fd.scope L a q cd) X → (rzCx C.W A fd.scope L a q cd T s X).Ok n) → (∀ X, Abs (rzCx C.W A fd.scope L a q cd T s X) [] mine T (mkSt ps vs) s₀) →
      wpAny C.M A (execs body (fnEnv fd.scope L a q cd)) (fun f s' => Q (match f with | .ret v => v | _ => .none) s') (fun e s' => wpAny C.M A (leaving (fnEnv fd.scope L a q cd) e) (fun _ s'' => E e s'') (fun e' s'' => E e' s'') s') s₀) :
    wpAny C.M C.A (call (.ref a) ws) Q E s := by
  obtain ⟨o, ho, hd⟩ := fn.at_
  have kb := hO.kb
  have hlim : s.heap.NoLimit := ok.W.nolimit.keeps kb
  unfold namesOk at hnm
  rw [Bool.and_eq_true, List.all_eq_true, List.all_eq_true] at hnm
  have hps : ∀ x ∈ (ps.map Str.ofString).zip ws, fd.scope.names.lookup x.1 = some .local ∨ fd.scope.names.lookup x.1 = some .cell := by
    intro x hx
    obtain ⟨x1, x2⟩ := x
    obtain ⟨p, hp, rfl⟩ := List.mem_map.mp (List.of_mem_zip hx).1
    have := hnm.1 p hp
    rw [Bool.or_eq_true, beq_iff_eq, beq_iff_eq] at this
    exact this
  refine wpAny_call (codeAny_call_function (by have := ok.hd; unfold recursionLimit; omega) (kb _ _ ho) hd fn.hco fn.hgen fn.hbody (fn.hcd.keeps kb) (hb s ws kb hr.length _ _ _ _ ?_))
  rw [fn.hgl, fn.hcl, fn.hbn]
  refine wpAny_with_toks (n := s.toks) (Nat.le_refl _) (wpAny_newFunctionEnv_cells fn.hk (fun x hx => ?_) fun env' he s' x htk => ?_)
  · rcases hps x hx with h | h
    · exact .inl h
    · exact .inr ⟨h, cellsFrom_has _ _ _ h⟩
  subst he
  obtain ⟨h₁, tk, rfl, hk₁⟩ := x.done
  refine ⟨hlim.keeps hk₁, codeAny_func ?_⟩
  have RX : RxOk (C.A.deeper (fnEnv fd.scope s.heap.objs.size a (fd.qualname ++ ".<locals>.") fd.code)) (fnEnv fd.scope s.heap.objs.size a (fd.qualname ++ ".<locals>.") fd.code) s.heap.objs.size l s :=
    ⟨Around.frames_deeper hf.fr, hf.ff, rfl, fresh_size _, by show fd.scope.kind ≠ .module; rw [fn.hk]; decide⟩
  have okn : ∀ X, PassesOwn C.M (C.A.deeper (fnEnv fd.scope s.heap.objs.size a (fd.qualname ++ ".<locals>.") fd.code)) (fnEnv fd.scope s.heap.objs.size a (fd.qualname ++ ".<locals>.") fd.code) X → (rzCx C.W (C.A.deeper (fnEnv fd.scope s.heap.objs.size a (fd.qualname ++ ".<locals>.") fd.code)) fd.scope s.heap.objs.size a (fd.qualname ++ ".<locals>.") fd.code T s X).Ok n := fun X hX =>
    { W := ok.W.up kb, hh := ok.hh, hu := by have := ok.hu; show C.A.units + 3 + 3 * n + 100 ≤ 9000; omega, hd := by have := ok.hd; show C.A.depth + 1 + n + 10 ≤ 900; omega, hk := fn.hk, hg := rfl, hb := rfl, hx := hX }
  obtain ⟨cs, hcs⟩ : ∃ cs, cellsFrom (s.heap.objs.size + 1) fd.scope.names [] = cs := ⟨_, rfl⟩
  have hcs' : (fnEnv fd.scope s.heap.objs.size a (fd.qualname ++ ".<locals>.") fd.code).cells = cs := hcs
  have hcell : ∀ z c, cs.lookup z = some c → h₁.IsCell c (bindC (fnEnv fd.scope s.heap.objs.size a (fd.qualname ++ ".<locals>.") fd.code).kindOf ((ps.map Str.ofString).zip ws) (fun _ => none) z) := fun z c e => x.cell z c (hcs ▸ e)
  have hab : ∀ z c, (z, c) ∈ cs → s.heap.objs.size < c := fun z c e => x.above z c (hcs ▸ e)
  have hap : cs.Pairwise fun x y => x.2 ≠ y.2 := by have := x.apart; exact hcs ▸ this
  have hns : h₁.Ns s.heap.objs.size (bindL (fnEnv fd.scope s.heap.objs.size a (fd.qualname ++ ".<locals>.") fd.code).kindOf ((ps.map Str.ofString).zip ws) (fun _ => none)) := x.toInCall.ns
  have hmm : ∀ b ∈ s.heap.objs.size :: cs.filterMap (fun p => cs.lookup p.1), b = s.heap.objs.size ∨ ∃ z, cs.lookup z = some b := by
    intro b hb
    rcases List.mem_cons.mp hb with rfl | hb
    · exact .inl rfl
    · obtain ⟨p, hp, e⟩ := List.mem_filterMap.mp hb
      exact .inr ⟨p.1, e⟩
  have hmine : ∀ b ∈ s.heap.objs.size :: cs.filterMap (fun p => cs.lookup p.1), s.heap.get? b = none := by
    intro b hb
    rcases hmm b hb with rfl | ⟨z, hz⟩
    · exact fresh_size _
    · exact get_ge (Nat.le_of_lt (hab z b (mem_of_lookup hz)))
  have hcm : ∀ z c, cs.lookup z = some c → c ∈ s.heap.objs.size :: cs.filterMap (fun p => cs.lookup p.1) := fun z c e =>
    List.mem_cons_of_mem _ (List.mem_filterMap.mpr ⟨(z, c), mem_of_lookup e, e⟩)
  have le0 : Le (view own T s) (view ([] ++ (s.heap.objs.size :: cs.filterMap (fun p => cs.lookup p.1))) T { s with heap := h₁, toks := tk }) := by
    refine ⟨fun b o e => view_mk (fun hm => ?_) (hk₁ b o (view_of e)), fun _ _ e => e⟩
    have := hmine b hm; rw [view_of e] at this; cases this
  have habs : ∀ X, Abs (rzCx C.W (C.A.deeper (fnEnv fd.scope s.heap.objs.size a (fd.qualname ++ ".<locals>.") fd.code)) fd.scope s.heap.objs.size a (fd.qualname ++ ".<locals>.") fd.code T s X) []
      (s.heap.objs.size :: cs.filterMap (fun p => cs.lookup p.1)) T (mkSt ps vs) { s with heap := h₁, toks := tk } := by
    intro X
    refine ⟨fun b o e => view_mk (fun hm => ?_) (hk₁ b o e), fun b hb => ?_, fun b hb hF => (by cases hF), hO.tok.mono htk, fun p e => ?_,
      bindL (fnEnv fd.scope s.heap.objs.size a (fd.qualname ++ ".<locals>.") fd.code).kindOf ((ps.map Str.ofString).zip ws) (fun _ => none), bindC (fnEnv fd.scope s.heap.objs.size a (fd.qualname ++ ".<locals>.") fd.code).kindOf ((ps.map Str.ofString).zip ws) (fun _ => none), ?_⟩
    · have e : s.heap.get? b = some o := e
      have := hmine b hm; rw [e] at this; cases this
    · rcases hmm b hb with rfl | ⟨z, hz⟩
      · obtain ⟨o, _, _, ho, _⟩ := hns
        show (h₁.get? s.heap.objs.size).isSome = true
        rw [ho]; rfl
      · obtain ⟨o, ho, _⟩ := hcell z b hz
        show (h₁.get? b).isSome = true
        rw [ho]; rfl
    · cases e
      exact ⟨fun _ _ e => e, h₁, tk, rfl⟩
    · refine { ns := hns, cells := fun z c e => hcell z c (hcs' ▸ e), apart := fun z y c e1 e2 => ?_, lc := fun z c e => ?_, has := fun z hz => ?_, lm := List.mem_cons_self, cown := fun z c e => List.mem_append_right _ (hcm z c (hcs' ▸ e)), cmine := fun _ z c e => hcm z c (hcs' ▸ e), slots := ?_, own := ?_, dis := ?_ }
      · exact name_of_addr hap (mem_of_lookup (hcs' ▸ e1)) (mem_of_lookup (hcs' ▸ e2))
      · exact Nat.ne_of_gt (hab z c (mem_of_lookup (hcs' ▸ e)))
      · rcases hz with hz | hz
        · have := cellsFrom_has fd.scope.names (s.heap.objs.size + 1) [] hz
          exact Option.isSome_iff_exists.mp this
        · have hz : fd.scope.names.lookup z = some .free := hz
          have := hnm.2 _ (mem_of_lookup hz)
          simp at this
      · intro z sl hz
        obtain ⟨u, v, rfl, e1, e2⟩ := find_mkSt ps vs ws none z sl hnd hr hz
        refine ⟨v, .inl ?_, by show Rep _ _ u v; exact Rep.toW (by rfl) (by rfl) (e2.mono le0)⟩
        refine (valAt_bind (env := fnEnv fd.scope s.heap.objs.size a (fd.qualname ++ ".<locals>.") fd.code) _ _ _ hps).trans ?_
        have : valAt (fnEnv fd.scope s.heap.objs.size a (fd.qualname ++ ".<locals>.") fd.code) (fun _ => none) (fun _ => none) z = none := by unfold valAt; split <;> rfl
        rw [this]
        exact e1
      · intro z sl b hz ho
        obtain ⟨u, v, rfl, _⟩ := find_mkSt ps vs ws none z sl hnd hr hz
        cases ho
      · intro z y sl sl' b hz _ ho
        obtain ⟨u, v, rfl, _⟩ := find_mkSt ps vs ws none z sl hnd hr hz
        cases ho
  exact walk _ _ _ _ _ _ RX okn habs
end Sx
end
section
open PySem PySem.W PyProof.Rows PySem.Calls
set_option linter.unusedVariables false
set_option Elab.async false
set_option maxRecDepth 100000
namespace Sx
section
variable {C : Cx} {σ : St}
/-- the frame's own object is turned in its slots alone -/
theorem Abs.slots {F mine : List Addr} {T T' : TM} {s s' : Shared} (hA : Abs C F mine T σ s) (same : ∃ h' tk, s' = { s with heap := h', toks := tk }) (keep : ∀ b o, b ≠ C.env.locals → s.heap.get? b = some o → s'.heap.get? b = some o)
    (slot : ∀ o, s.heap.get? C.env.locals = some o → ∃ sl, s'.heap.get? C.env.locals = some { o with slots := sl }) (hT : TLe T T') (ht : TOk T' s'.toks) : Post F mine T s mine T' s' ∧ Abs C F mine T' σ s' := by
  obtain ⟨m, cm, f⟩ := hA.frm
  have le : Le (view (F ++ mine) T s) (view (F ++ mine) T' s') := ⟨fun b o e => view_mk (view_not e) (keep b o (fun q => view_not e (q ▸ List.mem_append_right _ f.lm)) (view_of e)), hT⟩
  have far : ∀ b ∈ F, s'.heap.get? b = s.heap.get? b := fun b hb => by
    obtain ⟨o, ho⟩ := Option.isSome_iff_exists.mp (hA.live b (List.mem_append_left _ hb))
    rw [ho]; exact keep b o (fun q => hA.nin _ f.lm (q ▸ hb)) ho
  refine ⟨⟨same, le, far⟩, fun b o e => le.ob b o (hA.base b o e), fun b hb => ?_, hA.nin, ht, hA.sm.step hT same, m, cm, ?_⟩
  · obtain ⟨o, ho⟩ := Option.isSome_iff_exists.mp (hA.live b hb)
    by_cases q : b = C.env.locals
    · subst q
      obtain ⟨sl, hs⟩ := slot o ho
      rw [hs]; rfl
    · rw [keep b o q ho]; rfl
  · refine { ns := ?_, cells := fun x c e => ?_, apart := f.apart, lc := f.lc, has := f.has, lm := f.lm, cown := f.cown, cmine := f.cmine, slots := fun x sl e => ?_, own := f.own, dis := f.dis }
    · obtain ⟨o, es, ep, ho, hd, r⟩ := f.ns
      obtain ⟨sl, hs⟩ := slot o ho
      exact ⟨_, es, ep, hs, hd, r⟩
    · obtain ⟨o, ho, hd⟩ := f.cells x c e
      exact ⟨o, keep c o (f.lc x c e) ho, hd⟩
    · obtain ⟨v, hv, hr⟩ := f.slots x sl e
      exact ⟨v, hv, hr.mono le fun a ha o e' => keep a o (f.own x sl a e ha).2.1 e'⟩
end
section
variable {A : Around} {env : Env} {s : Shared} {E : Value → Shared → Prop}
theorem glob_at {W : Wd} (hW : W.Ok) (hk : env.scope.kind = .function) (hg : env.globals = mainGlobals) (hb : env.builtins = builtinsNs) (k : ∀ b o, W.h₀.get? b = some o → s.heap.get? b = some o) {x : String} {v : Value} {pos : Pos} {Q : Value → Shared → Prop}
    (hkk : env.kindOf (Str.ofString x) = some .globalImplicit) (hl : W.gls.lookup x = some v) (hd : (Str.ofString x == ("__debug__" : Str)) = false) (h : Q v s) : wpAny (model W.prog W.w) A (eval (.Name (Str.ofString x) pos) env) Q E s := by
  obtain ⟨mg, mb, h1, h2, h3⟩ := hW.gl
  rcases h3 x v hl with e | ⟨e1, e2⟩
  · exact Name_function_global hk hkk (loadGlobal_global (env := env) (hg ▸ h1.keeps k) e h) hd
  · exact Name_function_global hk hkk (loadGlobal_builtin (env := env) (hg ▸ h1.keeps k) e1 (hb ▸ h2.keeps k) e2 h) hd
/-- a clause that takes what is raised, or does not -/
theorem clause_hit {W : Wd} (hW : W.Ok) (hk : env.scope.kind = .function) (hg : env.globals = mainGlobals) (hb : env.builtins = builtinsNs) (k : ∀ b o, W.h₀.get? b = some o → s.heap.get? b = some o) {l : List Env} {base : Heap} {a : Addr} {X T : String} {b : Bool} {a0 : Value} {np pos : Pos} {b₀ : Stmt} {suite : List Stmt} {rest : List ExceptHandler} {Q : Flow → Shared → Prop}
    (hkk : env.kindOf (Str.ofString T) = some .globalImplicit) (hl : W.gls.lookup T = some (.type T)) (hd : (Str.ofString T == ("__debug__" : Str)) = false)
    (hexc : isSubtype (.type T) (.type "BaseException") = pure true) (hnt : isSubtype (.type ((Manifest.find? T).elim "type" fun x => x.metatype)) (.type "tuple") = pure false) (hsub : isSubtype (.type X) (.type T) = pure b)
    (hf : Heap.FlyingW base l a (.type X) a0 s.heap)
    (h : if b then wpAny (model W.prog W.w) (A.mark (some (.ref a))) (setFlight (.ref a) none) (fun _ s₂ => wpAny (model W.prog W.w) (A.mark (some (.ref a))) (execs (b₀ :: suite) env) Q (notedBy (model W.prog W.w) (A.mark (some (.ref a))) env (cameBackBy (model W.prog W.w) A env E)) s₂) (notedBy (model W.prog W.w) (A.mark (some (.ref a))) env (cameBackBy (model W.prog W.w) A env E)) s
      else wpAny (model W.prog W.w) A (handleBy (.ref a) env rest) Q E s) :
    wpAny (model W.prog W.w) A (handleBy (.ref a) env (.ExceptHandler (some (.Name (Str.ofString T) np)) none (b₀ :: suite) pos :: rest)) Q E s := by
  obtain ⟨oe, he, hc⟩ := hf.there
  exact wpAny_handleBy_builtin hexc hnt hsub (glob_at hW hk hg hb k hkk hl hd ⟨rfl, ⟨oe, he, hc⟩, h⟩)
end
end Sx
end
section
open PySem PySem.W PyProof.Rows PySem.Calls
set_option linter.unusedVariables false
set_option Elab.async false
set_option maxRecDepth 100000
namespace Sx
noncomputable def lookX (M : Model) (A : Around) (env : Env) (hs : List ExceptHandler) (Q : Flow → Shared → Prop) (E : Value → Shared → Prop) : Value → Shared → Prop :=
  fun e s₁ => wpAny M A (noteFrame e env) (fun _ s₂ => wpAny M A (setFlight e none) (fun _ s₃ => wpAny M A (handleBy e env hs) Q E s₃) E s₂) E s₁
theorem lookX_passes {M : Model} {A : Around} {env : Env} {hs : List ExceptHandler} {Q : Flow → Shared → Prop} {E : Value → Shared → Prop} : PassesOwn M A env (lookX M A env hs Q E) :=
  PassesOwn.looking (K := fun e s₂ => wpAny M A (setFlight e none) (fun _ s₃ => wpAny M A (handleBy e env hs) Q E s₃) E s₂)
theorem try_raised {prog : Program} {w : World} {A : Around} {env : Env} {tb : List Stmt} {h₀ : ExceptHandler} {hs : List ExceptHandler} {pos : Pos} {Q : Flow → Shared → Prop} {E : Value → Shared → Prop} {s : Shared}
    (h : wpAny (model prog w) A (execs tb env) (fun _ _ => False) (lookX (model prog w) A env (h₀ :: hs) Q E) s) : wpAny (model prog w) A (exec (.Try tb (h₀ :: hs) [] [] pos) env) Q E s :=
  wpAny_Try_except (wpAny_mono h (fun _ _ x => x.elim) fun _ _ x => x)
noncomputable def clause (x : String) (np cp lp rp hp : Pos) : ExceptHandler := .ExceptHandler (some (.Name (Str.ofString x) np)) none [.Return (some (.List [.Constant (.str (Str.ofString x)) 0 cp] lp)) rp] hp
/-- the suite of a clause: what its frame gives back -/
theorem suite_lst {C : Cx} {x : String} {cp lp rp : Pos} {σ : St} : Exs C σ [.Return (some (.List [.Constant (.str (Str.ofString x)) 0 cp] lp)) rp] (fun fl _ => fl = .ret (.lst [.str (lit x)])) := by
  refine exs_cons (ex_return (ev_list ?_))
  refine evL_cons (ev_str ?_) (by rfl)
  refine evL_nil ⟨?_, rfl⟩
  exact szc 1
section
variable {C : Cx} {n : Nat} {σ : St} {a : Addr} {fd : FuncData} {tb : List Stmt} {tpos : Pos} {ps : List String} {vs : List V} {cls : String}
theorem told_raise (ok : C.Ok (n + 2)) (hfr : C.A.frames = some [C.env]) (hlf : C.env.frame = some C.env.locals)
    {n1 c1 l1 r1 p1 n2 c2 l2 r2 p2 : Pos} (fn : FnAt C.W a fd [.Try tb [clause "TypeError" n1 c1 l1 r1 p1, clause "AttributeError" n2 c2 l2 r2 p2] [] [] tpos])
    (hb : ∀ (s : Shared) (ws : List Value), (∀ b o, C.W.h₀.get? b = some o → s.heap.get? b = some o) → ws.length = vs.length → BindsTo s fd ⟨ws, []⟩ ((ps.map Str.ofString).zip ws))
    (hnd : ps.Nodup) (hnm : namesOk fd.scope ps = true) (hcells : ∀ L, cellsFrom (L + 1) fd.scope.names [] = []) (hcls : cls = "TypeError" ∨ cls = "AttributeError")
    (hk1 : fd.scope.names.lookup (Str.ofString "TypeError") = some .globalImplicit) (hk2 : fd.scope.names.lookup (Str.ofString "AttributeError") = some .globalImplicit)
    (hl1 : C.W.gls.lookup "TypeError" = some (.type "TypeError")) (hl2 : C.W.gls.lookup "AttributeError" = some (.type "AttributeError"))
    (walk : ∀ A L q cd T s X, (∀ b o, C.W.h₀.get? b = some o → s.heap.get? b = some o) → (rzCx C.W A fd.scope L a q cd T s X).Ok (n + 1) →
      (∀ σ F mine T' s1 e s', Abs (rzCx C.W A fd.scope L a q cd T s X) F mine T' σ s1 → Rz [fnEnv fd.scope L a q cd, C.env] T' s1 cls e s' → X e s') →
      (∀ σ F mine T' s1, Abs (rzCx C.W A fd.scope L a q cd T s X) F mine T' σ s1 → FrOk A [fnEnv fd.scope L a q cd, C.env] s1) →
      Exs (rzCx C.W A fd.scope L a q cd T s X) (mkSt ps vs) tb (fun _ _ => False)) {Q : V → St → Prop} (hQ : Q (.lst [.str (lit cls)]) σ) :
    OpA C σ (fun ws => call (.ref a) ws) vs Q := by
  intro F mine T s ws hA hr
  obtain ⟨m, cm, f⟩ := hA.frm
  obtain ⟨o0, es, ep, ho0, hd0, hns0⟩ := f.ns
  have kb := hA.ownOk.kb
  have notL : ∀ b o, C.W.h₀.get? b = some o → b ≠ C.env.locals := fun b o e q => view_not (hA.base b o e) (q ▸ List.mem_append_right _ f.lm)
  have FR : FrOk C.A [C.env] s := ⟨hfr, by rw [ok.hk]; decide, ⟨_, o0, hlf, hideAll_none _ (by rw [fsOf, List.filterMap_cons, hlf]; exact List.mem_cons_self), ho0, fun vs q => by rw [hd0] at q; cases q⟩, trivial⟩
  refine fn_enter (C := C) (n := n + 1) ok fn hb hnd hnm hA.ownOk hr FR fun A L q cd s₀ mine₀ R okX hAX => ?_
  refine wpAny_execs_cons (try_raised ?_)
  refine wpAny_mono (walk A L q cd T s _ kb (okX _ lookX_passes) ?look ?frames [] mine₀ T s₀ (hAX _)) ?_ fun _ _ x => x
  case frames =>
    intro σ' F' mine' T' s1 hA1
    have keep : ∀ b o, s.heap.get? b = some o → s1.heap.get? b = some o := fun b o e => view_of (hA1.base b o e)
    obtain ⟨m1, cm1, f1⟩ := hA1.frm
    obtain ⟨o1, es1, ep1, ho1, hd1, _⟩ := f1.ns
    refine ⟨R.fr, R.hk, ⟨L, o1, rfl, hideAll_none _ List.mem_cons_self, ho1, fun vs q => by rw [hd1] at q; cases q⟩, by rw [ok.hk]; decide, ⟨_, o0, hlf, hideAll_none _ ?_, keep _ _ ho0, fun vs q => by rw [hd0] at q; cases q⟩, trivial⟩
    rw [fsOf, List.filterMap_cons, R.hf, List.filterMap_cons, hlf]
    exact List.mem_cons_of_mem _ List.mem_cons_self
  case look =>
    intro σ' F' mine' T' s1 e s' hA1 hz
    have keep : ∀ b o, s.heap.get? b = some o → s1.heap.get? b = some o := fun b o e => view_of (hA1.base b o e)
    obtain ⟨le1, same1⟩ := hA1.sm _ rfl
    obtain ⟨m1, cm1, f1⟩ := hA1.frm
    obtain ⟨o1, es1, ep1, ho1, hd1, hns1⟩ := f1.ns
    obtain ⟨x, a0, h', tk, rfl, rfl, tok, hfly, up⟩ := hz
    obtain ⟨hh1, tk1, rfl⟩ := same1
    have ho1 : hh1.get? L = some o1 := ho1
    refine wpAny_looks_onW R.fr R.hf (flyingW_base (R.base1 keep) hfly) fun h2 held up2 => ?_
    refine wpAny_landsW held fun h3 fly3 up3 => ?_
    have upT := (up.trans up2).trans up3
    -- the suite's end
    have fin : ∀ (h4 : Heap) (E' : Value → Shared → Prop) (cp lp rp : Pos), (bs s [C.env]).StaysIn h4 → h3.UpToSlots h4 →
        wpAny C.M (A.mark (some (.ref x))) (execs [.Return (some (.List [.Constant (.str (Str.ofString cls)) 0 cp] lp)) rp] (fnEnv fd.scope L a q cd)) (fun f s' => match f with
          | .next => wpAny C.M A (execs [] (fnEnv fd.scope L a q cd)) (fun f s' => (fun x s' => ∃ v σ' mine' T', Q v σ' ∧ Post F mine T s mine' T' s' ∧ Abs C F mine' T' σ' s' ∧ Rep C.W (view (F ++ mine') T' s') v x) (match f with | .ret v => v | _ => .none) s') (fun e s' => wpAny C.M A (leaving (fnEnv fd.scope L a q cd) e) (fun _ s'' => C.X e s'') (fun e' s'' => C.X e' s'') s') s'
          | f => (fun x s' => ∃ v σ' mine' T', Q v σ' ∧ Post F mine T s mine' T' s' ∧ Abs C F mine' T' σ' s' ∧ Rep C.W (view (F ++ mine') T' s') v x) (match f with | .ret v => v | _ => .none) s') E' { s with heap := h4, toks := tk } := by
      intro h4 E' cp lp rp hst up4
      have upA : hh1.UpToSlots h4 := upT.trans up4
      have keep4 : ∀ b o, b ≠ C.env.locals → s.heap.get? b = some o → h4.get? b = some o := fun b o hne e => hst b o (hideAll_get _ e fun hm => by
        rw [fsOf, List.filterMap_cons, hlf] at hm
        exact hne (List.mem_singleton.mp hm))
      obtain ⟨sl0, hs0⟩ := upA _ _ (keep _ _ ho0) fun vs q => by rw [hd0] at q; cases q
      obtain ⟨slL, hsL⟩ := upA _ _ ho1 fun vs q => by rw [hd1] at q; cases q
      have LF : L ∉ F ++ mine := fun hm => by
        have := hA.live L hm
        rw [R.new] at this; cases this
      have liveF : ∀ b ∈ F ++ mine, (h4.get? b).isSome = true := fun b hb => by
        by_cases q : b = C.env.locals
        · rw [q, hs0]; rfl
        · obtain ⟨o, ho⟩ := Option.isSome_iff_exists.mp (hA.live b hb)
          rw [keep4 b o q ho]; rfl
      obtain ⟨Cm, hCm⟩ : ∃ Cm : Cx, Cm = { W := C.W, A := A.mark (some (.ref x)), env := fnEnv fd.scope L a q cd, ownC := false, X := E', an := none } := ⟨_, rfl⟩
      have habs : Abs Cm (F ++ mine) [L] T' [] { s with heap := h4, toks := tk } := by
        subst hCm
        refine ⟨fun b o e => view_mk (fun hm => ?_) (keep4 b o (notL b o e) (kb b o e)), fun b hb => ?_, fun b hb => by rw [List.mem_singleton.mp hb]; exact LF, tok, .none rfl, m1, cm1, ?_⟩
        · rcases List.mem_append.mp hm with hm | hm
          · exact view_not (hA.base b o e) hm
          · rw [List.mem_singleton.mp hm] at e
            have := kb _ _ e
            rw [R.new] at this; cases this
        · rcases List.mem_append.mp hb with hb | hb
          · exact liveF b hb
          · rw [List.mem_singleton.mp hb]
            show (h4.get? L).isSome = true
            rw [hsL]; rfl
        · have hc : ∀ y c, (fnEnv fd.scope L a q cd).cells.lookup y = some c → False := fun y c e => by
            have : (fnEnv fd.scope L a q cd).cells = [] := hcells L
            rw [this] at e; cases e
          refine { ns := ⟨_, es1, ep1, hsL, hd1, hns1⟩, cells := fun y c e => (hc y c e).elim, apart := fun y z c e _ => (hc y c e).elim, lc := fun y c e => (hc y c e).elim, has := fun y hy => ?_, lm := List.mem_singleton.mpr rfl, cown := fun y c e => (hc y c e).elim, cmine := fun h => (nomatch h), slots := fun y sl e => (nomatch e), own := fun y sl b e => (nomatch e), dis := fun y z sl sl' b e => (nomatch e) }
          exact f1.has y hy
      have run := suite_lst (C := Cm) (x := cls) (cp := cp) (lp := lp) (rp := rp) _ _ _ _ habs
      subst hCm
      refine wpAny_mono run ?_ fun _ _ x => x
      rintro fl s5 ⟨fa, σ5, m5, T5, rfl, p5, a5, r5⟩
      cases r5 with
      | ret r5 =>
        obtain ⟨h5, tk5, rfl⟩ := p5.same
        have keep5 : ∀ b o, b ≠ L → h4.get? b = some o → h5.get? b = some o := fun b o hb e => by
          by_cases hF : b ∈ F ++ mine
          · exact (p5.far b hF).trans e
          · exact view_of (p5.le.ob b o (view_mk (fun hm => (List.mem_append.mp hm).elim hF fun h => hb (List.mem_singleton.mp h)) e))
        have hT : TLe T T5 := fun t l e => p5.le.tk t l (le1 t l e)
        have neL : ∀ b o, s.heap.get? b = some o → b ≠ L := fun b o e q => by rw [q, R.new] at e; cases e
        obtain ⟨pA, aA⟩ := hA.slots (s' := { s with heap := h5, toks := tk5 }) (T' := T5) ⟨_, _, rfl⟩ (fun b o hb e => keep5 b o (neL b o e) (keep4 b o hb e)) (fun o e => by
          rw [ho0] at e
          cases e
          exact ⟨sl0, keep5 _ _ (neL _ _ ho0) hs0⟩) hT a5.tok
        exact ⟨_, σ, mine, T5, hQ, pA, aA, r5.mono (view_sub fun b hb => List.mem_append_left _ hb)⟩
    have kW : ∀ b o, C.W.h₀.get? b = some o → h3.get? b = some o := fun b o e => fly3.1 b o (hideAll_get _ (kb b o e) fun hm => by
      rw [fsOf, List.filterMap_cons, hlf] at hm
      exact notL b o e (List.mem_singleton.mp hm))
    have okk : (fnEnv fd.scope L a q cd).scope.kind = .function := (okX _ (lookX_passes (hs := []) (Q := fun _ _ => True) (E := fun _ _ => True))).hk
    have land : ∀ (E' : Value → Shared → Prop) (P : Flow → Shared → Prop) (AA : Around) (EE : Value → Shared → Prop) (st : List Stmt), (∀ h4, (bs s [C.env]).StaysIn h4 → h3.UpToSlots h4 → wpAny C.M AA (execs st (fnEnv fd.scope L a q cd)) P E' { s with heap := h4, toks := tk }) → wpAny C.M AA (setFlight (.ref x) none) (fun _ s₂ => wpAny C.M AA (execs st (fnEnv fd.scope L a q cd)) P E' s₂) EE { s with heap := h3, toks := tk } := fun E' P AA EE st h =>
      wpAny_setFlight_noneW (s := { s with heap := h3, toks := tk }) fly3.1 fly3.2.2.1 fly3.2.2.2.at fun h4 k1 k2 k3 k4 => h h4 k1 fun b o e hn => ⟨o.slots, k4 b o e hn⟩
    rcases hcls with rfl | rfl
    · refine clause_hit (b := true) ok.W okk rfl rfl kW hk1 hl1 (by decide) (by rw [isSubtype_type]; kernel_rfl) (by rw [isSubtype_type]; kernel_rfl) (by rw [isSubtype_type]; kernel_rfl) fly3 ?_
      rw [if_pos rfl]
      exact land _ _ _ _ _ fun h4 k1 k2 => fin h4 _ _ _ _ k1 k2
    · refine clause_hit (b := false) ok.W okk rfl rfl kW hk1 hl1 (by decide) (by rw [isSubtype_type]; kernel_rfl) (by rw [isSubtype_type]; kernel_rfl) (by rw [isSubtype_type]; kernel_rfl) fly3 ?_
      rw [if_neg Bool.false_ne_true]
      refine clause_hit (b := true) ok.W okk rfl rfl kW hk2 hl2 (by decide) (by rw [isSubtype_type]; kernel_rfl) (by rw [isSubtype_type]; kernel_rfl) (by rw [isSubtype_type]; kernel_rfl) fly3 ?_
      rw [if_pos rfl]
      exact land _ _ _ _ _ fun h4 k1 k2 => fin h4 _ _ _ _ k1 k2
  · rintro f s' ⟨_, _, _, _, h, _⟩
    exact h.elim
end
end Sx
end
section
open PySem PySem.W PyProof.Rows PySem.Calls
set_option linter.unusedVariables false
set_option Elab.async false
set_option maxRecDepth 100000
namespace Sx
inductive IsiT : String → Prop
  | d : IsiT "dict"
  | b : IsiT "bytes"
  | s : IsiT "str"
inductive IsiV : V → Prop
  | none : IsiV .none
  | bool (b : Bool) : IsiV (.bool b)
  | int (i : Int) : IsiV (.int i)
  | str (l : S) : IsiV (.str l)
  | bytes (b : Array UInt8) : IsiV (.bytes b)
  | lst (vs : List V) : IsiV (.lst vs)
  | tup (vs : List V) : IsiV (.tup vs)
  | dct (es : List (Key × V)) : IsiV (.dct es)
section
variable {C : Cx}
theorem opL_isi {v : V} {T : String} (hv : IsiV v) (hT : IsiT T) {K : V → Prop} (h : K (.bool (decide (tyV v = T)))) : OpL C (Rep C.W) (fun ws => call (.builtin "isinstance") ws) [v, .val (.type T)] K := fun own T0 s vs hO hr => by
  obtain ⟨m, _, rfl, r1, hr⟩ := hr.cons_inv
  obtain ⟨_, _, rfl, r2, hr⟩ := hr.cons_inv
  obtain rfl := hr.nil_inv
  cases r2
  have yes : K (.bool true) → Out own T0 s (Rep C.W) K (.bool true) s := fun h => .same hO.tok h (.bool _)
  have no : K (.bool false) → Out own T0 s (Rep C.W) K (.bool false) { s with toks := s.toks + 1 } := fun h => ⟨.bool false, T0, h, .toks hO.tok (Nat.le_succ _), .bool _⟩
  cases hv with
  | int i =>
    obtain ⟨t, rfl⟩ := r1.int_inv
    cases hT with
    | d => exact IsiPair.int_dict  (no h)
    | b => exact IsiPair.int_bytes  (no h)
    | s => exact IsiPair.int_str  (no h)
  | str l =>
    obtain ⟨t, rfl, _⟩ := r1.str_inv
    cases hT with
    | d => exact IsiPair.str_dict  (no h)
    | b => exact IsiPair.str_bytes  (no h)
    | s => exact IsiPair.str_str  (yes h)
  | bool b =>
    cases r1
    cases hT with
    | d => exact IsiPair.bool_dict  (no h)
    | b => exact IsiPair.bool_bytes  (no h)
    | s => exact IsiPair.bool_str  (no h)
  | lst vs =>
    obtain ⟨a, o, ws, n, rfl, h1, h2, h3, h4, _⟩ := r1.lst_inv
    cases hT with
    | d => exact IsiPair.list_dict (view_of h1) h2 (no h)
    | b => exact IsiPair.list_bytes (view_of h1) h2 (no h)
    | s => exact IsiPair.list_str (view_of h1) h2 (no h)
  | tup vs =>
    obtain ⟨a, o, ws, n, rfl, h1, h2, _⟩ := r1.tup_inv
    cases hT with
    | d => exact IsiPair.tuple_dict (view_of h1) h2 (no h)
    | b => exact IsiPair.tuple_bytes (view_of h1) h2 (no h)
    | s => exact IsiPair.tuple_str (view_of h1) h2 (no h)
  | dct es =>
    obtain ⟨a, o, ds, kvs, n, rfl, h1, h0, h2, h3, _⟩ := r1.dct_inv
    cases hT with
    | d => exact IsiPair.dict_dict (view_of h1) h2.1 (yes h)
    | b => exact IsiPair.dict_bytes (view_of h1) h2.1 (no h)
    | s => exact IsiPair.dict_str (view_of h1) h2.1 (no h)
  | none =>
    cases r1
    cases hT with
    | d => exact wpAny_with_toks (n := s.toks) (Nat.le_refl _) (kia_one (K := []) (b := false) kitx_none (fun _ _ e => nomatch e) trivial (by kernel_rfl) (fun e => nomatch e) fun tk ht => ⟨.bool false, T0, h, .toks hO.tok ht, .bool _⟩)
    | b => exact wpAny_with_toks (n := s.toks) (Nat.le_refl _) (kia_one (K := []) (b := false) kitx_none (fun _ _ e => nomatch e) trivial (by kernel_rfl) (fun e => nomatch e) fun tk ht => ⟨.bool false, T0, h, .toks hO.tok ht, .bool _⟩)
    | s => exact wpAny_with_toks (n := s.toks) (Nat.le_refl _) (kia_one (K := []) (b := false) kitx_none (fun _ _ e => nomatch e) trivial (by kernel_rfl) (fun e => nomatch e) fun tk ht => ⟨.bool false, T0, h, .toks hO.tok ht, .bool _⟩)
  | bytes b =>
    cases r1
    cases hT with
    | d => exact wpAny_with_toks (n := s.toks) (Nat.le_refl _) (kia_one (K := []) (b := false) kitx_bytes (fun _ _ e => nomatch e) trivial (by kernel_rfl) (fun e => nomatch e) fun tk ht => ⟨.bool false, T0, h, .toks hO.tok ht, .bool _⟩)
    | b => exact wpAny_with_toks (n := s.toks) (Nat.le_refl _) (kia_one (K := []) (b := true) kitx_bytes (fun _ _ e => nomatch e) trivial (by kernel_rfl) (fun e => nomatch e) fun tk ht => ⟨.bool true, T0, h, .toks hO.tok ht, .bool _⟩)
    | s => exact wpAny_with_toks (n := s.toks) (Nat.le_refl _) (kia_one (K := []) (b := false) kitx_bytes (fun _ _ e => nomatch e) trivial (by kernel_rfl) (fun e => nomatch e) fun tk ht => ⟨.bool false, T0, h, .toks hO.tok ht, .bool _⟩)
end
end Sx
end
section
open PySem PySem.W PyProof.Rows PySem.Calls
set_option linter.unusedVariables false
set_option Elab.async false
set_option maxRecDepth 100000
namespace Sx
noncomputable def truV : V → Bool
  | .bool b => b
  | .int i => i != 0
  | .str l => !l.isEmpty
  | .lst l => !l.isEmpty
  | .tup l => !l.isEmpty
  | .dct l => !l.isEmpty
  | _ => false
inductive TruV : V → Prop
  | none : TruV .none
  | bool (b : Bool) : TruV (.bool b)
  | int (i : Int) : TruV (.int i)
  | str (l : S) (h : l.length ≤ sizeLine) : TruV (.str l)
  | lst (l : List V) (h : l.length ≤ sizeLine) : TruV (.lst l)
  | tup (l : List V) (h : l.length ≤ sizeLine) : TruV (.tup l)
  | dct (l : List (Key × V)) (h : l.length ≤ sizeLine) : TruV (.dct l)
section
variable {C : Cx}
theorem truthy_V {v : V} (hv : TruV v) {K : Bool → Prop} (h : K (truV v)) : Op1 C RB truthy v K := by
  cases hv with
  | none => exact fun own T s va hO ra => by cases ra; exact wpAny_pure ⟨false, T, h, .refl hO.tok, rfl⟩
  | bool b => exact fun own T s va hO ra => by cases ra; exact wpAny_truthy_bool ⟨b, T, h, .refl hO.tok, rfl⟩
  | int i =>
    refine fun own T s va hO ra => ?_
    obtain ⟨t, rfl⟩ := ra.int_inv
    exact PySem.P.truthy_int ⟨_, T, h, .refl hO.tok, rfl⟩
  | str l hl =>
    refine fun own T s va hO ra => ?_
    obtain ⟨t, rfl, _⟩ := ra.str_inv
    refine PySem.P.truthy_str (by rw [mkS_length]; have := fits63 hl; omega) ⟨_, T, h, .toks hO.tok (by omega), ?_⟩
    rw [mkS_length]
    show (!l.isEmpty) = _
    cases l with
    | nil => rfl
    | cons a r => symm; exact bne_iff_ne.mpr (by rw [List.length_cons]; omega)
  | lst l hl => exact truthy_list hl h
  | tup l hl =>
    refine fun own T s va hO ra => ?_
    obtain ⟨x, ox, wx, nx, rfl, h1, h2, h3, h4, r⟩ := ra.tup_inv'
    refine PyProof.Rows.truthy_tuple (items := wx.toArray) ⟨ox, view_of h1, h2, nx, h4⟩ (by rw [List.size_toArray, r.length]; exact fits63 hl) ⟨_, T, h, .toks hO.tok (by omega), ?_⟩
    show (!l.isEmpty) = !wx.toArray.isEmpty
    have := r.length
    cases l <;> cases wx <;> simp_all
  | dct l hl => exact truthy_dict hl h
end
end Sx
end
section
open PySem PySem.W PyProof.Rows PySem.Calls
set_option Elab.async false
set_option maxRecDepth 100000
set_option maxHeartbeats 8000000
set_option compiler.extract_closed false
set_option linter.unusedVariables false
namespace Sx
/-- what stands behind a proof of its own texts gets no twin -/
def gate {p : Prop} (_ : p) (s : Stmt) : Stmt := s
def s05_0 : Stmt := by
  refine (?f : (s : Stmt) → ((PySem.Challenge.pw_kp0118_05.main.body.drop 0).head? = some s) → Stmt) _ rfl
  exact fun s _ => gate (p := (Str.ofString "q").cps.size = 1) rfl s
def s05_1 : Stmt := by
  refine (?f : (s : Stmt) → ((PySem.Challenge.pw_kp0118_05.main.body.drop 1).head? = some s) → Stmt) _ rfl
  exact fun s _ => gate (p := (Str.ofString "q").cps.size = 1) rfl s
def s05_2 : Stmt := by
  refine (?f : (s : Stmt) → ((PySem.Challenge.pw_kp0118_05.main.body.drop 2).head? = some s) → Stmt) _ rfl
  exact fun s _ => gate (p := (Str.ofString "q").cps.size = 1) rfl s
def s05_3 : Stmt := by
  refine (?f : (s : Stmt) → ((PySem.Challenge.pw_kp0118_05.main.body.drop 3).head? = some s) → Stmt) _ rfl
  exact fun s _ => gate (p := (Str.ofString "q").cps.size = 1) rfl s
def s05_4 : Stmt := by
  refine (?f : (s : Stmt) → ((PySem.Challenge.pw_kp0118_05.main.body.drop 4).head? = some s) → Stmt) _ rfl
  exact fun s _ => gate (p := (Str.ofString "q").cps.size = 1) rfl s
def s05_5 : Stmt := by
  refine (?f : (s : Stmt) → ((PySem.Challenge.pw_kp0118_05.main.body.drop 5).head? = some s) → Stmt) _ rfl
  exact fun s _ => gate (p := (Str.ofString "q").cps.size = 1) rfl s
def s05_6 : Stmt := by
  refine (?f : (s : Stmt) → ((PySem.Challenge.pw_kp0118_05.main.body.drop 6).head? = some s) → Stmt) _ rfl
  exact fun s _ => gate (p := (Str.ofString "q").cps.size = 1) rfl s
def s05_7 : Stmt := by
  refine (?f : (s : Stmt) → ((PySem.Challenge.pw_kp0118_05.main.body.drop 7).head? = some s) → Stmt) _ rfl
  exact fun s _ => gate (p := (Str.ofString "q").cps.size = 1) rfl s
def s05_8 : Stmt := by
  refine (?f : (s : Stmt) → ((PySem.Challenge.pw_kp0118_05.main.body.drop 8).head? = some s) → Stmt) _ rfl
  exact fun s _ => gate (p := (Str.ofString "q").cps.size = 1) rfl s
def s05_9 : Stmt := by
  refine (?f : (s : Stmt) → ((PySem.Challenge.pw_kp0118_05.main.body.drop 9).head? = some s) → Stmt) _ rfl
  exact fun s _ => gate (p := (Str.ofString "q").cps.size = 1) rfl s
def s05_10 : Stmt := by
  refine (?f : (s : Stmt) → ((PySem.Challenge.pw_kp0118_05.main.body.drop 10).head? = some s) → Stmt) _ rfl
  exact fun s _ => gate (p := (Str.ofString "q").cps.size = 1) rfl s
def s05_11 : Stmt := by
  refine (?f : (s : Stmt) → ((PySem.Challenge.pw_kp0118_05.main.body.drop 11).head? = some s) → Stmt) _ rfl
  exact fun s _ => gate (p := (Str.ofString "q").cps.size = 1) rfl s
def s05_12 : Stmt := by
  refine (?f : (s : Stmt) → ((PySem.Challenge.pw_kp0118_05.main.body.drop 12).head? = some s) → Stmt) _ rfl
  exact fun s _ => gate (p := (Str.ofString "q").cps.size = 1) rfl s
def p05 : Program := by
  refine (?f : (sc : Scope) → (fl : Str) → (gv : Given) → (PySem.Challenge.pw_kp0118_05 = ⟨⟨[s05_0, s05_1, s05_2, s05_3, s05_4, s05_5, s05_6, s05_7, s05_8, s05_9, s05_10, s05_11, s05_12], sc, false, fl, []⟩, [], [], [], [], gv⟩) → Program) _ _ _ rfl
  exact fun sc fl gv _ => ⟨⟨[s05_0, s05_1, s05_2, s05_3, s05_4, s05_5, s05_6, s05_7, s05_8, s05_9, s05_10, s05_11, s05_12], sc, false, fl, []⟩, [], [], [], [], gv⟩
def r05 : OpenLaw := by
  refine (?f : (nm : Str) → (ab : List Str) → (ft : Nat) → (ms bd : Option Nat) → (wr : Bool) → (PySem.Challenge.rw_kp0118_05 = ⟨p05, nm, ab, ft, ms, bd, wr⟩) → OpenLaw) _ _ _ _ _ _ rfl
  exact fun nm ab ft ms bd wr _ => ⟨p05, nm, ab, ft, ms, bd, wr⟩
noncomputable def mkFn05 (s : Stmt) (df : Value) (md : Str) (tk : Nat) (c : Addr) : Obj := match s with
  | .FunctionDef nm args body _ _ _ sc _ _ _ => { cls := Value.type "function", data := Data.func { name := nm, qualname := nm, params := args, body := FuncBody.stmts body, scope := sc, globals := 3, closure := [], defaults := df, kwdefaults := Value.none, pyModule := Value.str md tk, code := Value.ref c } }
  | _ => default
noncomputable def o05_2 (P : Params) : Obj := { cls := Value.none, data := Data.dict #[] }
noncomputable def o05_3 (P : Params) : Obj := { cls := Value.type "dict", data := Data.dict #[{ hash := PyData.keyHash P (Str.ofString "__name__"), key := Value.str (Str.ofString "__name__") 165, val := Value.str (Str.ofString "law_kp0118_05") 223 }, { hash := PyData.keyHash P (Str.ofString "__doc__"), key := Value.str (Str.ofString "__doc__") 166, val := Value.none }, { hash := PyData.keyHash P (Str.ofString "__package__"), key := Value.str (Str.ofString "__package__") 167, val := Value.none }, { hash := PyData.keyHash P (Str.ofString "__loader__"), key := Value.str (Str.ofString "__loader__") 168, val := Value.builtin "__main__.__loader__#opaque" }, { hash := PyData.keyHash P (Str.ofString "__spec__"), key := Value.str (Str.ofString "__spec__") 169, val := Value.none }, { hash := PyData.keyHash P (Str.ofString "__annotations__"), key := Value.str (Str.ofString "__annotations__") 170, val := Value.ref 6 }, { hash := PyData.keyHash P (Str.ofString "__builtins__"), key := Value.str (Str.ofString "__builtins__") 171, val := Value.ref 4 }, { hash := PyData.keyHash P (Str.ofString "__file__"), key := Value.str (Str.ofString "__file__") 173, val := Value.str (Str.ofString "/claim/cut.py") 172 }, { hash := PyData.keyHash P (Str.ofString "__cached__"), key := Value.str (Str.ofString "__cached__") 174, val := Value.none }, { hash := PyData.keyHash P (Str.ofString "dict_replace_saxutils"), key := Value.str (Str.ofString "dict_replace_saxutils") 198, val := Value.ref 21 }, { hash := PyData.keyHash P (Str.ofString "escape"), key := Value.str (Str.ofString "escape") 206, val := Value.ref 30 }, { hash := PyData.keyHash P (Str.ofString "unescape"), key := Value.str (Str.ofString "unescape") 214, val := Value.ref 39 }, { hash := PyData.keyHash P (Str.ofString "quoteattr"), key := Value.str (Str.ofString "quoteattr") 222, val := Value.ref 48 }, { hash := PyData.keyHash P (Str.ofString "_law_table"), key := Value.str (Str.ofString "_law_table") 238, val := Value.ref 55 }, { hash := PyData.keyHash P (Str.ofString "_law_refused"), key := Value.str (Str.ofString "_law_refused") 248, val := Value.ref 62 }, { hash := PyData.keyHash P (Str.ofString "_law_read"), key := Value.str (Str.ofString "_law_read") 262, val := Value.ref 69 }, { hash := PyData.keyHash P (Str.ofString "_law_written"), key := Value.str (Str.ofString "_law_written") 268, val := Value.ref 74 }, { hash := PyData.keyHash P (Str.ofString "_law_quoted"), key := Value.str (Str.ofString "_law_quoted") 278, val := Value.ref 81 }, { hash := PyData.keyHash P (Str.ofString "_law_told"), key := Value.str (Str.ofString "_law_told") 287, val := Value.ref 88 }, { hash := PyData.keyHash P (Str.ofString "law"), key := Value.str (Str.ofString "law") 293, val := Value.ref 93 }] 20 }
noncomputable def o05_20 (P : Params) : Obj := { cls := Value.type "code", data := Data.fields #[Value.str (Str.ofString "dict_replace_saxutils") 189, Value.str (Str.ofString "dict_replace_saxutils") 190, Value.str (Str.ofString "/claim/cut.py") 191, Value.int 2 0, Value.int 2 0, Value.int 0 0, Value.int 0 0, Value.int 3 0, Value.ref 15, Value.bool true, Value.int 181 0, Value.ref 16, Value.none, Value.ref 17, Value.ref 18, Value.ref 19, Value.int 196 0, Value.int 2 0, Value.str (Str.ofString "/claim/cut.py") 197] }
noncomputable def o05_21 (P : Params) : Obj := mkFn05 s05_1 (Value.none) (Str.ofString "cpy313.xml.sax.saxutils") 187 20
noncomputable def o05_22 (P : Params) : Obj := { cls := Value.type "dict", data := Data.dict #[] }
noncomputable def o05_23 (P : Params) : Obj := { cls := Value.type "tuple", data := Data.seq #[Value.ref 22] }
noncomputable def o05_29 (P : Params) : Obj := { cls := Value.type "code", data := Data.fields #[Value.str (Str.ofString "escape") 199, Value.str (Str.ofString "escape") 200, Value.str (Str.ofString "/claim/cut.py") 201, Value.int 6 0, Value.int 2 0, Value.int 0 0, Value.int 0 0, Value.int 3 0, Value.ref 24, Value.bool true, Value.int 181 0, Value.ref 25, Value.none, Value.ref 26, Value.ref 27, Value.ref 28, Value.int 204 0, Value.int 6 0, Value.str (Str.ofString "/claim/cut.py") 205] }
noncomputable def o05_30 (P : Params) : Obj := mkFn05 s05_2 (Value.ref 23) (Str.ofString "cpy313.xml.sax.saxutils") 187 29
noncomputable def o05_31 (P : Params) : Obj := { cls := Value.type "dict", data := Data.dict #[] }
noncomputable def o05_32 (P : Params) : Obj := { cls := Value.type "tuple", data := Data.seq #[Value.ref 31] }
noncomputable def o05_38 (P : Params) : Obj := { cls := Value.type "code", data := Data.fields #[Value.str (Str.ofString "unescape") 207, Value.str (Str.ofString "unescape") 208, Value.str (Str.ofString "/claim/cut.py") 209, Value.int 13 0, Value.int 2 0, Value.int 0 0, Value.int 0 0, Value.int 3 0, Value.ref 33, Value.bool true, Value.int 181 0, Value.ref 34, Value.none, Value.ref 35, Value.ref 36, Value.ref 37, Value.int 212 0, Value.int 13 0, Value.str (Str.ofString "/claim/cut.py") 213] }
noncomputable def o05_39 (P : Params) : Obj := mkFn05 s05_3 (Value.ref 32) (Str.ofString "cpy313.xml.sax.saxutils") 187 38
noncomputable def o05_40 (P : Params) : Obj := { cls := Value.type "dict", data := Data.dict #[] }
noncomputable def o05_41 (P : Params) : Obj := { cls := Value.type "tuple", data := Data.seq #[Value.ref 40] }
noncomputable def o05_47 (P : Params) : Obj := { cls := Value.type "code", data := Data.fields #[Value.str (Str.ofString "quoteattr") 215, Value.str (Str.ofString "quoteattr") 216, Value.str (Str.ofString "/claim/cut.py") 217, Value.int 19 0, Value.int 2 0, Value.int 0 0, Value.int 0 0, Value.int 3 0, Value.ref 42, Value.bool true, Value.int 181 0, Value.ref 43, Value.none, Value.ref 44, Value.ref 45, Value.ref 46, Value.int 220 0, Value.int 19 0, Value.str (Str.ofString "/claim/cut.py") 221] }
noncomputable def o05_48 (P : Params) : Obj := mkFn05 s05_4 (Value.ref 41) (Str.ofString "cpy313.xml.sax.saxutils") 187 47
noncomputable def o05_54 (P : Params) : Obj := { cls := Value.type "code", data := Data.fields #[Value.str (Str.ofString "_law_table") 225, Value.str (Str.ofString "_law_table") 226, Value.str (Str.ofString "/claim/cut.py") 227, Value.int 31 0, Value.int 1 0, Value.int 0 0, Value.int 0 0, Value.int 3 0, Value.ref 49, Value.bool true, Value.int 181 0, Value.ref 50, Value.none, Value.ref 51, Value.ref 52, Value.ref 53, Value.int 236 0, Value.int 31 0, Value.str (Str.ofString "/claim/cut.py") 237] }
noncomputable def o05_55 (P : Params) : Obj := mkFn05 s05_6 (Value.none) (Str.ofString "law_kp0118_05") 223 54
noncomputable def o05_61 (P : Params) : Obj := { cls := Value.type "code", data := Data.fields #[Value.str (Str.ofString "_law_refused") 239, Value.str (Str.ofString "_law_refused") 240, Value.str (Str.ofString "/claim/cut.py") 241, Value.int 41 0, Value.int 3 0, Value.int 0 0, Value.int 0 0, Value.int 3 0, Value.ref 56, Value.bool true, Value.int 181 0, Value.ref 57, Value.none, Value.ref 58, Value.ref 59, Value.ref 60, Value.int 246 0, Value.int 41 0, Value.str (Str.ofString "/claim/cut.py") 247] }
noncomputable def o05_62 (P : Params) : Obj := mkFn05 s05_7 (Value.none) (Str.ofString "law_kp0118_05") 223 61
noncomputable def o05_68 (P : Params) : Obj := { cls := Value.type "code", data := Data.fields #[Value.str (Str.ofString "_law_read") 249, Value.str (Str.ofString "_law_read") 250, Value.str (Str.ofString "/claim/cut.py") 251, Value.int 55 0, Value.int 2 0, Value.int 0 0, Value.int 0 0, Value.int 3 0, Value.ref 63, Value.bool true, Value.int 181 0, Value.ref 64, Value.none, Value.ref 65, Value.ref 66, Value.ref 67, Value.int 260 0, Value.int 55 0, Value.str (Str.ofString "/claim/cut.py") 261] }
noncomputable def o05_69 (P : Params) : Obj := mkFn05 s05_8 (Value.none) (Str.ofString "law_kp0118_05") 223 68
noncomputable def o05_73 (P : Params) : Obj := { cls := Value.type "code", data := Data.fields #[Value.str (Str.ofString "_law_written") 263, Value.str (Str.ofString "_law_written") 264, Value.str (Str.ofString "/claim/cut.py") 265, Value.int 68 0, Value.int 2 0, Value.int 0 0, Value.int 0 0, Value.int 3 0, Value.ref 70, Value.bool true, Value.int 181 0, Value.ref 71, Value.none, Value.none, Value.none, Value.ref 72, Value.int 266 0, Value.int 68 0, Value.str (Str.ofString "/claim/cut.py") 267] }
noncomputable def o05_74 (P : Params) : Obj := mkFn05 s05_9 (Value.none) (Str.ofString "law_kp0118_05") 223 73
noncomputable def o05_80 (P : Params) : Obj := { cls := Value.type "code", data := Data.fields #[Value.str (Str.ofString "_law_quoted") 269, Value.str (Str.ofString "_law_quoted") 270, Value.str (Str.ofString "/claim/cut.py") 271, Value.int 72 0, Value.int 2 0, Value.int 0 0, Value.int 0 0, Value.int 3 0, Value.ref 75, Value.bool true, Value.int 181 0, Value.ref 76, Value.none, Value.ref 77, Value.ref 78, Value.ref 79, Value.int 276 0, Value.int 72 0, Value.str (Str.ofString "/claim/cut.py") 277] }
noncomputable def o05_81 (P : Params) : Obj := mkFn05 s05_10 (Value.none) (Str.ofString "law_kp0118_05") 223 80
noncomputable def o05_87 (P : Params) : Obj := { cls := Value.type "code", data := Data.fields #[Value.str (Str.ofString "_law_told") 279, Value.str (Str.ofString "_law_told") 280, Value.str (Str.ofString "/claim/cut.py") 281, Value.int 79 0, Value.int 3 0, Value.int 0 0, Value.int 0 0, Value.int 3 0, Value.ref 82, Value.bool true, Value.int 181 0, Value.ref 83, Value.none, Value.ref 84, Value.ref 85, Value.ref 86, Value.int 285 0, Value.int 79 0, Value.str (Str.ofString "/claim/cut.py") 286] }
noncomputable def o05_88 (P : Params) : Obj := mkFn05 s05_11 (Value.none) (Str.ofString "law_kp0118_05") 223 87
noncomputable def o05_92 (P : Params) : Obj := { cls := Value.type "code", data := Data.fields #[Value.str (Str.ofString "law") 288, Value.str (Str.ofString "law") 289, Value.str (Str.ofString "/claim/cut.py") 290, Value.int 86 0, Value.int 1 0, Value.int 0 0, Value.int 0 0, Value.int 3 0, Value.ref 89, Value.bool true, Value.int 181 0, Value.ref 90, Value.none, Value.none, Value.none, Value.ref 91, Value.int 291 0, Value.int 86 0, Value.str (Str.ofString "/claim/cut.py") 292] }
noncomputable def o05_93 (P : Params) : Obj := mkFn05 s05_12 (Value.none) (Str.ofString "law_kp0118_05") 223 92
noncomputable def K05 : Params → Frag := fun P =>
  [(2, o05_2 P), (3, o05_3 P), (20, o05_20 P), (21, o05_21 P), (22, o05_22 P), (23, o05_23 P), (29, o05_29 P), (30, o05_30 P), (31, o05_31 P), (32, o05_32 P), (38, o05_38 P), (39, o05_39 P), (40, o05_40 P), (41, o05_41 P), (47, o05_47 P), (48, o05_48 P), (54, o05_54 P), (55, o05_55 P), (61, o05_61 P), (62, o05_62 P), (68, o05_68 P), (69, o05_69 P), (73, o05_73 P), (74, o05_74 P), (80, o05_80 P), (81, o05_81 P), (87, o05_87 P), (88, o05_88 P), (92, o05_92 P), (93, o05_93 P)]
set_option maxRecDepth 100000 in
theorem rw_eq05 : PySem.Challenge.rw_kp0118_05 = r05 := rfl
/-! addresses: [2, 3, 20, 21, 22, 23, 29, 30, 31, 32, 38, 39, 40, 41, 47, 48, 54, 55, 61, 62, 68, 69, 73, 74, 80, 81, 87, 88, 92, 93] -/
end Sx
end
section
open PySem PySem.W PyProof.Rows
set_option linter.unusedVariables false
set_option Elab.async false
set_option maxRecDepth 100000
namespace Sx
noncomputable abbrev esc5 : List (S × S) := [(lit "&", lit "&amp;"), (lit ">", lit "&gt;"), (lit "<", lit "&lt;")]
noncomputable abbrev un5 : List (S × S) := [(lit "&lt;", lit "<"), (lit "&gt;", lit ">")]
noncomputable abbrev amp5 : List (S × S) := [(lit "&amp;", lit "&")]
noncomputable def own5 : List (S × S) := [(lit "\n", lit "&#10;"), (lit "\r", lit "&#13;"), (lit "\t", lit "&#9;")]
noncomputable def quo5 (b : S) : S := if hasSub [34] b = true then (if hasSub [39] b = true then lit "\"" ++ repl (lit "\"") (lit "&quot;") b ++ lit "\"" else lit "'" ++ b ++ lit "'") else lit "\"" ++ b ++ lit "\""
noncomputable def refs5 : List (S × S) := [(lit "\"", lit "&quot;"), (lit "'", lit "&apos;"), (lit "\n", lit "&nl;"), (lit "\t", lit "&tab;"), (lit "\r", lit "&cr;"), (lit "é", lit "&eacute;")]
noncomputable def key5 (e : Int) : Key × S := match refs5[((e.fdiv 3).fmod 7).toNat]? with | some p => (.s p.1, p.2) | none => (.i e, lit "&n;")
noncomputable def val5 (e : Int) (ref : S) : V := if ((e.fdiv 21).fmod 12).toNat < 9 then .str ref else if ((e.fdiv 21).fmod 12).toNat = 9 then .none else if ((e.fdiv 21).fmod 12).toNat = 10 then .int e else .bytes [120].toArray
noncomputable def step5 (t : List (Key × V)) (x : Int) : List (Key × V) := if (x.fdiv 11).fmod 3 = 0 then t else dset t (key5 (x.fdiv 11)).1 (val5 (x.fdiv 11) (key5 (x.fdiv 11)).2)
noncomputable def table5 (xs : List Int) : List (Key × V) := xs.foldl step5 []
theorem table5_snoc (xs : List Int) (x : Int) : table5 (xs ++ [x]) = step5 (table5 xs) x := by simp [table5]
theorem step5_len (t : List (Key × V)) (x : Int) : (step5 t x).length ≤ t.length + 1 := by
  unfold step5; split
  · exact Nat.le_succ _
  · exact dset_length _ _ _
theorem table5_len (xs : List Int) : (table5 xs).length ≤ xs.length := by
  suffices h : ∀ (xs : List Int) (t : List (Key × V)), (xs.foldl step5 t).length ≤ t.length + xs.length by
    have := h xs []
    rwa [List.length_nil, Nat.zero_add] at this
  intro xs
  induction xs with
  | nil => intro t; exact Nat.le_refl _
  | cons x xs ih =>
    intro t
    have h1 := ih (step5 t x)
    have h2 := step5_len t x
    rw [List.foldl_cons, List.length_cons]
    omega
end Sx
end
section
open PySem PySem.W PyProof.Rows PySem.Calls
set_option linter.unusedVariables false
set_option Elab.async false
set_option maxRecDepth 100000
namespace Sx
open PySem.SeqAt
section
variable {C : Cx} {σ : St}
theorem ev_bytes {x : List UInt8} {k pos} {Q : V → St → Prop} (h : Q (.bytes x.toArray) σ) : Ev C σ (.Constant (.bytes x) k pos) Q :=
  ev_prim fun own T s hO => Constant_bytes ⟨.bytes x.toArray, T, h, .toks hO.tok (Nat.le_succ _), .bytes _ _⟩
/-- a key of a dict among texts -/
theorem op_in_keys {n : Nat} (ok : C.Ok n) {k : Key} {ls : List S} {K : V → Prop} (hK : K (.bool (ls.any fun l => decide (k = .s l)))) : Op2 C (Rep C.W) (compareOp .In) k.v (.lst (ls.map V.str)) K := fun own T s va vb hO ra rb => by
  obtain ⟨y, oy, wy, ny, rfl, k1, k2, k3, k4, q⟩ := rb.lst_inv
  obtain ⟨l, hl, hm, hs⟩ := strs_of ls _ q
  let e : Value → Bool := fun v => match v with | .str z _ => decide (k = .s z.cps.toList) | _ => false
  have hk := Key.is_of_rep ra
  refine in_listAt (items := wy.toArray) e ⟨oy, view_of k1, k2, ny, k4⟩ (fun v hv => ?_) ?_
  · have hv : v ∈ wy := by simpa using hv
    rw [hl] at hv
    obtain ⟨p, hp, rfl⟩ : ∃ p ∈ l, v = .str p.1 p.2 := by
      simp only [strValues, List.mem_map] at hv
      obtain ⟨p, hp, e⟩ := hv
      exact ⟨p, hp, e.symm⟩
    obtain ⟨z, hz, _⟩ := hs p hp
    intro prog w E Q hq
    have he : e (.str p.1 p.2) = decide (Key.s z = k) := by
      show decide (k = .s p.1.cps.toList) = _
      rw [hz]
      show decide (k = .s z) = _
      by_cases h : k = .s z
      · rw [decide_eq_true h, decide_eq_true h.symm]
      · rw [decide_eq_false h, decide_eq_false (fun q => h q.symm)]
    rw [he] at hq
    exact key_eqBool (a := .s z) (b := k) (by rw [hz]; simp [Key.is]) hk hq
  · have : wy.toArray.any e = ls.any fun l => decide (k = .s l) := by
      rw [List.any_toArray, hl]
      have : (strValues l).any e = (l.map (·.1)).any fun x => decide (k = .s x.cps.toList) := by
        rw [List.any_map]
        unfold strValues
        rw [List.any_map]; rfl
      rw [this, hm, List.any_map]; rfl
    rw [this]
    exact .same hO.tok hK (.bool _)
theorem op_ne_eqML {n m : Nat} (ok : C.Ok m) (hn : n ≤ 50) {vs us : List V} (h : ∀ (g : PH) (s : Shared), (∀ a o, g.ob a = some o → s.heap.get? a = some o) → EqML C.W g s n vs us) {K : V → Prop} (hK : K (.bool false)) : Op2 C (Rep C.W) (compareOp .NotEq) (.lst vs) (.lst us) K := fun own T s va vb hO ra rb => by
  obtain ⟨x, ox, wx, nx, rfl, h1, h2, h3, h4, r⟩ := ra.lst_inv
  obtain ⟨y, oy, wy, ny, rfl, k1, k2, k3, k4, q⟩ := rb.lst_inv
  have hu := ok.hu
  have hc := cLine_ge
  have hl := h (view own T s) s (fun a o e => view_of e) C.A.in1 _ _ (by show C.A.units + 1 + n < cLine; omega) r q
  have := RcNeAt.lists (A := C.A) (s := s) (items := wx.toArray) (items2 := wy.toArray) (e := fun _ => true) ⟨ox, view_of h1, h2, nx, h4⟩ ⟨oy, view_of k1, k2, ny, k4⟩ (by simp [hl.1]) (by omega) (fun j h1 h2 => hl.2 j (by simpa using h1) (by simpa using h2))
  have e : ((List.range wx.toArray.size).all (fun _ => true)) = true := by simp
  rw [e] at this
  exact this C.W.prog C.W.w C.X _ (.same hO.tok hK (.bool _))
end
end Sx
end
section
open PySem PySem.W PyProof.Rows PySem.Calls
set_option linter.unusedVariables false
set_option Elab.async false
set_option maxRecDepth 100000
namespace Sx
open PySem.SeqAt
theorem eqAt_bytes {A : Around} {s : Shared} {b : Array UInt8} {t u : Tok} : EqAt A s (.bytes b t) (.bytes b u) true := fun prog w E Q hq => by
  unfold eqBool
  refine wpAny_holding ?_
  show wpAny _ _ (if (Value.bytes b t == Value.bytes b u) = true then _ else _) Q E s
  by_cases h : (Value.bytes b t == Value.bytes b u) = true
  · rw [if_pos h]; exact wpAny_pure (M := model prog w) (E := E) hq
  · rw [if_neg h]
    refine wpAny_bind (show wpAny _ _ (compareOp .Eq (.bytes b t) (.bytes b u)) _ E s from PySem.W.eq_bytes ?_)
    have : (b.toList == b.toList) = true := beq_self_eq_true _
    rw [this]
    exact wpAny_truthy_bool hq
/-- values that stand by themselves -/
inductive AtomV : V → Prop
  | none : AtomV .none
  | int (i : Int) : AtomV (.int i)
  | str (l : S) : AtomV (.str l)
  | bytes (b : Array UInt8) : AtomV (.bytes b)
theorem eqM_atom {W : Wd} {g : PH} {s : Shared} {n : Nat} {v : V} (hv : AtomV v) : EqM W g s n v v := fun A va vb _ r q => by
  cases hv with
  | none => obtain rfl := r.none_inv; obtain rfl := q.none_inv; exact .same _
  | int i => obtain ⟨_, rfl⟩ := r.int_inv; obtain ⟨_, rfl⟩ := q.int_inv; exact eqAt_int
  | str l => obtain ⟨_, rfl, _⟩ := r.str_inv; obtain ⟨_, rfl, _⟩ := q.str_inv; exact eqAt_str
  | bytes b => cases r; cases q; exact eqAt_bytes
theorem eqM_key {W : Wd} {g : PH} {s : Shared} {n : Nat} (k : Key) : EqM W g s n k.tv k.tv := fun A va vb _ r q => by
  cases k with
  | s l => obtain ⟨_, rfl⟩ := Rep.txt_inv r; obtain ⟨_, rfl⟩ := Rep.txt_inv q; exact eqAt_str
  | i i => obtain ⟨_, rfl⟩ := Rep.int_inv r; obtain ⟨_, rfl⟩ := Rep.int_inv q; exact eqAt_int
theorem eqML_nil {W : Wd} {g : PH} {s : Shared} {n : Nat} : EqML W g s n [] [] := fun A va vb _ r q => by
  obtain rfl := r.nil_inv; obtain rfl := q.nil_inv
  exact ⟨rfl, fun j h => nomatch h⟩
theorem eqML_items {W : Wd} {g : PH} {s : Shared} (hg : ∀ a o, g.ob a = some o → s.heap.get? a = some o) : ∀ (es : List (Key × V)), (∀ p ∈ es, AtomV p.2) → EqML W g s 1 (es.map fun p => V.tup [p.1.tv, p.2]) (es.map fun p => V.tup [p.1.tv, p.2])
  | [], _ => eqML_nil
  | p :: r, h => eqML_cons (eqM_tup hg (eqML_cons (eqM_key p.1) (eqML_cons (eqM_atom (h p List.mem_cons_self)) eqML_nil))) (eqML_items hg r fun q hq => h q (List.mem_cons_of_mem _ hq))
end Sx
end
section
open PySem PySem.W PyProof.Rows
set_option linter.unusedVariables false
set_option Elab.async false
set_option maxRecDepth 100000
namespace Sx
noncomputable def white5 : List S := [lit "\n", lit "\r", lit "\t"]
noncomputable def skip5 (q : Bool) (k : Key) : Bool := q && white5.any fun l => decide (k = .s l)
noncomputable def badE (q : Bool) (p : Key × V) : Bool := !(skip5 q p.1) && !(decide (tyV p.1.v = "str") && decide (tyV p.2 = "str"))
noncomputable def dctOf : V → List (Key × V) | .dct es => es | _ => []
noncomputable def refused5 (data given : V) (q : Bool) : S :=
  if (q && !decide (tyV given = "dict")) = true then lit "TypeError"
  else if tyV data = "bytes" then lit "TypeError"
  else if tyV data ≠ "str" then lit "AttributeError"
  else if tyV given ≠ "dict" then (if truV given = true then lit "AttributeError" else [])
  else if (dctOf given).any (badE q) = true then lit "TypeError" else []
end Sx
end
section
open PySem PySem.W PyProof.Rows
set_option linter.unusedVariables false
set_option Elab.async false
set_option maxRecDepth 100000
namespace Sx
/-- what a table writes a sign as -/
noncomputable def rf5 (es : List (Key × V)) (c : Nat) : S := match (dget es (.s [c])).getD (.str [c]) with | .str z => z | _ => []
noncomputable def Good5 (es : List (Key × V)) (t : S) : Prop := ∀ c ∈ t, (dget es (.s [c])).getD (.str [c]) = .str (rf5 es c) ∧ (rf5 es c).length ≤ 8
noncomputable def mks5 : List (S × S) := [(lit "&", lit "&amp;"), (lit "<", lit "&lt;"), (lit ">", lit "&gt;")]
noncomputable def written5 (t : S) (es : List (Key × V)) : S := t.flatMap (rf5 (dsets es (tabV mks5)))
noncomputable def quoB (b : S) : S := if hasSub [34] b = true ∧ hasSub [39] b = false then lit "'" ++ b ++ lit "'" else lit "\"" ++ repl (lit "\"") (lit "&quot;") b ++ lit "\""
noncomputable def quoted5 (t : S) (es : List (Key × V)) : S := quoB (written5 t (dsets es (tabV own5)))
noncomputable def rd5 : List (S × S) := [(lit "&lt;", lit "<"), (lit "&gt;", lit ">"), (lit "&amp;", lit "&")]
noncomputable def sel5 (r : S) (l : List (S × S)) (a : Nat × S) : Nat × S := l.foldl (fun a p => if r.take p.1.length = p.1 then (p.1.length, p.2) else a) a
theorem sel5_le (r : S) : ∀ (l : List (S × S)) (a : Nat × S), (∀ p ∈ l, 1 ≤ p.1.length ∧ p.1.length ≤ 5 ∧ p.2.length ≤ 8) → 1 ≤ a.1 ∧ a.1 ≤ 5 ∧ a.2.length ≤ 8 → 1 ≤ (sel5 r l a).1 ∧ (sel5 r l a).1 ≤ 5 ∧ (sel5 r l a).2.length ≤ 8
  | [], _, _, h => h
  | p :: l, a, hl, h => by
    unfold sel5
    rw [List.foldl_cons]
    split
    · exact sel5_le r l _ (fun q hq => hl q (List.mem_cons_of_mem _ hq)) (hl p List.mem_cons_self)
    · exact sel5_le r l _ (fun q hq => hl q (List.mem_cons_of_mem _ hq)) h
theorem rd5_le : ∀ p ∈ rd5, 1 ≤ p.1.length ∧ p.1.length ≤ 5 ∧ p.2.length ≤ 8 := by decide
noncomputable def read5 (es : List (Key × V)) : S → S
  | [] => []
  | c :: r => (sel5 (c :: r) rd5 (1, rf5 es c)).2 ++ read5 es (r.drop ((sel5 (c :: r) rd5 (1, rf5 es c)).1 - 1))
termination_by t => t.length
decreasing_by simp only [List.length_drop, List.length_cons]; omega
theorem read5_len (es : List (Key × V)) : ∀ (n : Nat) (t : S), t.length ≤ n → (∀ c ∈ t, (rf5 es c).length ≤ 8) → (read5 es t).length ≤ 8 * t.length
  | _, [], _, _ => by rw [read5]; exact Nat.zero_le _
  | 0, _ :: _, h, _ => absurd h (Nat.not_succ_le_zero _)
  | n + 1, c :: r, h, hg => by
    have h1 := sel5_le (c :: r) rd5 (1, rf5 es c) rd5_le ⟨Nat.le_refl 1, Nat.le_add_left 1 4, hg c List.mem_cons_self⟩
    rw [read5]
    have h2 := read5_len es n (r.drop ((sel5 (c :: r) rd5 (1, rf5 es c)).1 - 1)) (by rw [List.length_drop]; rw [List.length_cons] at h; omega) (fun d hd => hg d (List.mem_cons_of_mem _ (List.mem_of_mem_drop hd)))
    rw [List.length_append, List.length_cons]
    rw [List.length_drop] at h2
    omega
theorem flat_len {f : Nat → S} : ∀ (t : S), (∀ c ∈ t, (f c).length ≤ 8) → (t.flatMap f).length ≤ 8 * t.length
  | [], _ => Nat.zero_le _
  | c :: r, h => by
    rw [List.flatMap_cons, List.length_append, List.length_cons]
    have := h c List.mem_cons_self
    have := flat_len r fun d hd => h d (List.mem_cons_of_mem _ hd)
    omega
end Sx
end
section
open PySem PySem.W PyProof.Rows
set_option linter.unusedVariables false
set_option Elab.async false
set_option maxRecDepth 100000
namespace Sx
noncomputable def pieces5 : List S := [lit "&", lit "<", lit ">", lit "\"", lit "'", lit "\n", lit "\t", lit "\r", lit "&lt;&gt;", lit "&amp;lt;&quot;&apos;", lit "é"]
noncomputable def pc5 (x : Int) : S := pieces5.getD (x.fmod 11).toNat []
noncomputable def text5 (xs : List Int) : S := lit "&lt;&" ++ (xs.map pc5).flatten
noncomputable def gl5 : List V := [.none, .tup [], .lst [], .str [], .int 0, .bool false, .int 5, .str (lit "ab"), .lst [.int 1], .tup [.str (lit "a")]]
noncomputable def given5 (n : Int) (tb : List (Key × V)) : V := if n.fmod 5 = 4 then gl5.getD ((n.fdiv 5).fmod 10).toNat .none else .dct tb
noncomputable def dl5 (n : Int) (t : S) : List V := [.none, .int n, .lst [.str t], .dct [(.s (lit "a"), .str t)]]
noncomputable def data5 (n : Int) (t : S) (l : Nat) : V := if (n.fdiv 50).fmod 6 = 5 then .bytes [38, 60].toArray else if (n.fdiv 50).fmod 6 = 4 then (dl5 n t).getD ((l : Int).fmod 4).toNat .none else .str t
theorem pc5_len (x : Int) : (pc5 x).length ≤ 21 := by
  unfold pc5
  have h : ∀ y ∈ pieces5, y.length ≤ 21 := by decide
  rw [List.getD_eq_getElem?_getD]
  cases e : pieces5[(x.fmod 11).toNat]? with
  | none => exact Nat.zero_le _
  | some y => exact h y (List.mem_of_getElem? e)
theorem flat5_len : ∀ xs : List Int, (xs.map pc5).flatten.length ≤ 21 * xs.length
  | [] => Nat.zero_le _
  | x :: xs => by
    rw [List.map_cons, List.flatten_cons, List.length_append, List.length_cons]
    have := pc5_len x
    have := flat5_len xs
    omega
theorem text5_len {xs : List Int} (h : xs.length ≤ 63) : (text5 xs).length ≤ 1400 := by
  unfold text5
  rw [List.length_append]
  have := flat5_len xs
  show 5 + _ ≤ _
  omega
theorem gl5_isi : ∀ v ∈ gl5, IsiV v := by
  intro v hv
  simp only [gl5, List.mem_cons, List.not_mem_nil, or_false] at hv
  rcases hv with rfl | rfl | rfl | rfl | rfl | rfl | rfl | rfl | rfl | rfl
  · exact .none
  · exact .tup _
  · exact .lst _
  · exact .str _
  · exact .int _
  · exact .bool _
  · exact .int _
  · exact .str _
  · exact .lst _
  · exact .tup _
theorem gl5_tru : ∀ v ∈ gl5, TruV v := by
  intro v hv
  simp only [gl5, List.mem_cons, List.not_mem_nil, or_false] at hv
  rcases hv with rfl | rfl | rfl | rfl | rfl | rfl | rfl | rfl | rfl | rfl
  · exact .none
  · exact .tup _ (szc 0)
  · exact .lst _ (szc 0)
  · exact .str _ (szc 0)
  · exact .int _
  · exact .bool _
  · exact .int _
  · exact .str _ (szc 2)
  · exact .lst _ (szc 1)
  · exact .tup _ (szc 1)
theorem given5_cases (n : Int) (tb : List (Key × V)) : (given5 n tb ∈ gl5) ∨ given5 n tb = .dct tb := by
  unfold given5
  split
  · refine .inl ?_
    have h0 := Int.fmod_nonneg_of_pos (n.fdiv 5) (b := 10) (by decide)
    have h1 := Int.fmod_lt_of_pos (n.fdiv 5) (b := 10) (by decide)
    have h2 : ((n.fdiv 5).fmod 10).toNat < gl5.length := by show _ < 10; omega
    rw [List.getD_eq_getElem?_getD, List.getElem?_eq_getElem h2]
    exact List.getElem_mem _
  · exact .inr rfl
theorem gl5_nod : ∀ v ∈ gl5, tyV v ≠ "dict" ∧ dctOf v = [] := by decide
theorem data5_cases (n : Int) (t : S) (l : Nat) : data5 n t l = .bytes [38, 60].toArray ∨ data5 n t l ∈ dl5 n t ∨ data5 n t l = .str t := by
  unfold data5
  split
  · exact .inl rfl
  · split
    · refine .inr (.inl ?_)
      have h0 := Int.fmod_nonneg_of_pos (l : Int) (b := 4) (by decide)
      have h1 := Int.fmod_lt_of_pos (l : Int) (b := 4) (by decide)
      have h2 : ((l : Int).fmod 4).toNat < (dl5 n t).length := by show _ < 4; omega
      rw [List.getD_eq_getElem?_getD, List.getElem?_eq_getElem h2]
      exact List.getElem_mem _
    · exact .inr (.inr rfl)
theorem data5_isi (n : Int) (t : S) (l : Nat) : IsiV (data5 n t l) := by
  rcases data5_cases n t l with h | h | h
  · rw [h]; exact .bytes _
  · simp only [dl5, List.mem_cons, List.not_mem_nil, or_false] at h
    rcases h with h | h | h | h <;> rw [h]
    · exact .none
    · exact .int _
    · exact .lst _
    · exact .dct _
  · rw [h]; exact .str _
end Sx
end
section
open PySem PySem.W PyProof.Rows PySem.Calls
set_option linter.unusedVariables false
set_option Elab.async false
set_option maxRecDepth 100000
namespace Sx
/-! plain Lean: one text after the other, keys of one sign -/
theorem flatMap_congrN {α β : Type} {f g : α → List β} {l : List α} (h : ∀ x ∈ l, f x = g x) : l.flatMap f = l.flatMap g := by
  induction l with
  | nil => rfl
  | cons a r ih => rw [List.flatMap_cons, List.flatMap_cons, h a List.mem_cons_self, ih fun x hx => h x (List.mem_cons_of_mem _ hx)]
theorem replK_1 (k : Nat) (z : S) : ∀ x : S, replK [k] z 0 x = x.flatMap fun c => if c = k then z else [c]
  | [] => by simp [replK]
  | c :: r => by
    rw [replK_0, List.flatMap_cons]
    have e : [k].isPrefixOf (c :: r) = decide (c = k) := by
      show (k == c && true) = _
      rw [Bool.and_true, Bool.eq_iff_iff]; simp; exact eq_comm
    rw [e]
    by_cases h : c = k
    · rw [if_pos (by simpa using h), if_pos h]
      show z ++ replK [k] z 0 r = _
      rw [replK_1 k z r]
    · rw [if_neg (by simpa using h), if_neg h, replK_1 k z r]; rfl
theorem repl_1 (k : Nat) (z x : S) : repl [k] z x = x.flatMap fun c => if c = k then z else [c] := by
  unfold repl; rw [if_neg (by simp)]; exact replK_1 k z x
noncomputable def One (p : S × S) : Prop := ∃ c, p.1 = [c]
theorem reps_flatMap : ∀ (ws : List (S × S)), (∀ w ∈ ws, One w) → ∀ x : S, reps ws x = x.flatMap fun c => reps ws [c]
  | [], _, x => by
    show x = x.flatMap fun c => [c]
    induction x with
    | nil => rfl
    | cons c r ih => rw [List.flatMap_cons, ← ih]; rfl
  | (k, z) :: r, h, x => by
    obtain ⟨c, hc⟩ := h (k, z) List.mem_cons_self
    have hc : k = [c] := hc
    subst hc
    have ih := reps_flatMap r fun w hw => h w (List.mem_cons_of_mem _ hw)
    show reps r (repl [c] z x) = _
    rw [ih, repl_1, List.flatMap_assoc]
    refine flatMap_congrN fun d _ => ?_
    show _ = reps r (repl [c] z [d])
    rw [repl_1, ih]
    simp
theorem reps_inert : ∀ (ws : List (S × S)) (c : Nat), (∀ w ∈ ws, One w ∧ w.1 ≠ [c]) → reps ws [c] = [c]
  | [], _, _ => rfl
  | (k, z) :: r, c, h => by
    obtain ⟨⟨d, hd⟩, hn⟩ := h (k, z) List.mem_cons_self
    have hd : k = [d] := hd
    subst hd
    have hn : c ≠ d := fun e => hn (by rw [e])
    show reps r (repl [d] z [c]) = [c]
    rw [repl_1]
    simp only [List.flatMap_cons, List.flatMap_nil, if_neg hn, List.append_nil]
    exact reps_inert r c fun w hw => h w (List.mem_cons_of_mem _ hw)
/-! signs and references -/
structure Code (E : Nat → S) (sp : Nat → Prop) : Prop where
  ref : ∀ c, sp c → ∃ w, E c = 38 :: w ∧ w ≠ [] ∧ ∀ d ∈ w, ¬ sp d
  bare : ∀ c, ¬ sp c → E c = [c]
  amp : sp 38
  pre : ∀ c d, sp c → sp d → E c <+: E d → c = d
theorem Code.ne {E : Nat → S} {sp : Nat → Prop} (h : Code E sp) (c : Nat) : E c ≠ [] := by
  by_cases hc : sp c
  · obtain ⟨w, e, _⟩ := h.ref c hc
    rw [e]; simp
  · rw [h.bare c hc]; simp
theorem Code.inj {E : Nat → S} {sp : Nat → Prop} (h : Code E sp) {c d : Nat} (hp : E c <+: E d) : c = d := by
  by_cases hc : sp c <;> by_cases hd : sp d
  · exact h.pre c d hc hd hp
  · obtain ⟨w, e, hw, _⟩ := h.ref c hc
    rw [e, h.bare d hd] at hp
    obtain ⟨v, hv⟩ := hp
    injection hv with _ hv
    exact absurd (List.append_eq_nil_iff.mp hv).1 hw
  · obtain ⟨w, e, hw, _⟩ := h.ref d hd
    rw [e, h.bare c hc] at hp
    obtain ⟨v, hv⟩ := hp
    injection hv with hv _
    exact absurd (by rw [hv]; exact h.amp) hc
  · rw [h.bare c hc, h.bare d hd] at hp
    obtain ⟨v, hv⟩ := hp
    injection hv with hv _
theorem Code.prefix {E : Nat → S} {sp : Nat → Prop} (h : Code E sp) : ∀ (p t : S), p.flatMap E <+: t.flatMap E ↔ p <+: t
  | [], t => by simp
  | c :: p, [] => by
    simp only [List.flatMap_cons, List.flatMap_nil, List.prefix_nil, List.append_eq_nil_iff]
    constructor
    · intro e; exact absurd e.1 (h.ne c)
    · intro e; cases e
  | c :: p, d :: t => by
    rw [List.flatMap_cons, List.flatMap_cons, List.cons_prefix_cons]
    constructor
    · intro hp
      have h1 : E c <+: E d ++ t.flatMap E := (List.prefix_append _ _).trans hp
      have h2 : E d <+: E d ++ t.flatMap E := List.prefix_append _ _
      have hcd : c = d := by
        rcases List.prefix_or_prefix_of_prefix h1 h2 with h3 | h3
        · exact h.inj h3
        · exact (h.inj h3).symm
      subst hcd
      exact ⟨rfl, (h.prefix p t).mp ((List.prefix_append_right_inj (E c)).mp hp)⟩
    · rintro ⟨rfl, hp⟩
      exact (List.prefix_append_right_inj (E c)).mpr ((h.prefix p t).mpr hp)
/-- behind a row of bare signs -/
theorem Code.rest {E : Nat → S} {sp : Nat → Prop} (h : Code E sp) (t : S) : ∀ (w p : S), (∀ d ∈ w, ¬ sp d) →
    (p.flatMap E <+: w ++ t.flatMap E ↔ w.take p.length = p.take w.length ∧ t.take (p.drop w.length).length = p.drop w.length)
  | [], p, _ => by
    rw [List.nil_append, h.prefix]
    simp only [List.take_nil, List.length_nil, List.take_zero, List.drop_zero, true_and]
    rw [List.prefix_iff_eq_take]; exact eq_comm
  | x :: w, [], _ => by simp
  | x :: w, c :: p, hw => by
    have ih := h.rest t w p fun d hd => hw d (List.mem_cons_of_mem _ hd)
    have hx := hw x List.mem_cons_self
    simp only [List.flatMap_cons, List.cons_append, List.length_cons, List.take_succ_cons, List.drop_succ_cons, List.cons.injEq]
    by_cases hc : sp c
    · obtain ⟨v, e, _, _⟩ := h.ref c hc
      rw [e, List.cons_append, List.cons_prefix_cons]
      constructor
      · rintro ⟨e, _⟩; exact absurd (by rw [← e]; exact h.amp) hx
      · rintro ⟨⟨e, _⟩, _⟩; exact absurd (by rw [e]; exact hc) hx
    · rw [h.bare c hc, List.cons_append, List.nil_append, List.cons_prefix_cons, ih]
      constructor
      · rintro ⟨rfl, a, b⟩; exact ⟨⟨rfl, a⟩, b⟩
      · rintro ⟨⟨rfl, a⟩, b⟩; exact ⟨rfl, a, b⟩
end Sx
end
section
open PySem PySem.W PyProof.Rows PySem.Calls
set_option linter.unusedVariables false
set_option Elab.async false
set_option maxRecDepth 100000
namespace Sx
/-! plain: the passes, sign by sign -/
noncomputable def allow5 : List (S × S) := refs5 ++ own5
/-- a table of texts whose references hold none of the keys -/
noncomputable def Tab5 (es : List (S × S)) : Prop := ∀ w ∈ es, w ∈ allow5
noncomputable def keyB (ws : List (S × S)) (c : Nat) : Bool := ws.any fun w => decide (w.1 = [c])
theorem allow5_one : ∀ w ∈ allow5, One w := by
  have h : ∀ w ∈ allow5, w.1.length = 1 := by decide
  intro w hw
  have := h w hw
  match e : w.1, this with
  | [c], _ => exact ⟨c, e⟩
theorem allow5_in : ∀ w ∈ allow5, (∀ d ∈ w.2, keyB allow5 d = false) ∧ w.2.length ≤ 8 := by decide
theorem keyB_sub {es : List (S × S)} (h : Tab5 es) {c : Nat} (hc : keyB allow5 c = false) : keyB es c = false := by
  unfold keyB at *
  rw [List.any_eq_false] at *
  exact fun w hw => hc w (h w hw)
theorem inert_of {es : List (S × S)} (h : Tab5 es) {c : Nat} (hc : keyB es c = false) : reps es [c] = [c] := by
  refine reps_inert es c fun w hw => ⟨allow5_one w (h w hw), fun e => ?_⟩
  unfold keyB at hc
  rw [List.any_eq_false] at hc
  exact hc w hw (decide_eq_true e)
theorem one_of {es : List (S × S)} (h : Tab5 es) : ∀ w ∈ es, One w := fun w hw => allow5_one w (h w hw)
theorem inerts {es : List (S × S)} (h : Tab5 es) : ∀ z : S, (∀ d ∈ z, keyB es d = false) → reps es z = z := by
  intro z hz
  rw [reps_flatMap es (one_of h)]
  have : (z.flatMap fun c => reps es [c]) = z.flatMap fun c => [c] := flatMap_congrN fun c hc => inert_of h (hz c hc)
  rw [this]
  induction z with
  | nil => rfl
  | cons c r ih =>
    rw [List.flatMap_cons, ih (fun d hd => hz d (List.mem_cons_of_mem _ hd)) (flatMap_congrN fun c hc => inert_of h (hz c (List.mem_cons_of_mem _ hc)))]; rfl
theorem dget_cons (k : Key) (v : V) (es : List (Key × V)) (q : Key) : dget ((k, v) :: es) q = if k = q then some v else dget es q := by
  unfold dget
  rw [List.find?_cons]
  by_cases h : k = q
  · rw [if_pos h]; simp [h]
  · rw [if_neg h]; simp [h]
theorem rf5_cons (k z : S) (es : List (S × S)) (c : Nat) : rf5 (tabV ((k, z) :: es)) c = if k = [c] then z else rf5 (tabV es) c := by
  unfold rf5
  show (match (dget ((Key.s k, V.str z) :: tabV es) (.s [c])).getD (.str [c]) with | .str z => z | _ => []) = _
  rw [dget_cons]
  by_cases h : k = [c]
  · rw [if_pos (by rw [h]), if_pos h]; rfl
  · rw [if_neg (fun q => h (by injection q)), if_neg h] <;> rfl
theorem rep1 : ∀ {es : List (S × S)}, Tab5 es → ∀ c, reps es [c] = rf5 (tabV es) c
  | [], _, c => rfl
  | (k, z) :: r, h, c => by
    have hr : Tab5 r := fun w hw => h w (List.mem_cons_of_mem _ hw)
    obtain ⟨d, hd⟩ := allow5_one (k, z) (h _ List.mem_cons_self)
    have hd : k = [d] := hd
    subst hd
    rw [rf5_cons]
    show reps r (repl [d] z [c]) = _
    rw [repl_1]
    by_cases e : c = d
    · subst e
      rw [if_pos rfl]
      simp only [List.flatMap_cons, List.flatMap_nil, if_true, List.append_nil]
      exact inerts hr z fun d hd => keyB_sub hr ((allow5_in _ (h _ List.mem_cons_self)).1 d hd)
    · rw [if_neg (fun q => e (by injection q with q; exact q.symm))]
      simp only [List.flatMap_cons, List.flatMap_nil, if_neg e, List.append_nil]
      exact rep1 hr c
theorem rf5_le {es : List (S × S)} (h : Tab5 es) (c : Nat) : (rf5 (tabV es) c).length ≤ 8 := by
  induction es with
  | nil => exact Nat.le_add_left 1 7
  | cons w r ih =>
    obtain ⟨k, z⟩ := w
    rw [rf5_cons]
    split
    · exact (allow5_in _ (h _ List.mem_cons_self)).2
    · exact ih fun w hw => h w (List.mem_cons_of_mem _ hw)
theorem dget_dset (es : List (Key × V)) (k : Key) (v : V) (q : Key) : dget (dset es k v) q = if k = q then some v else dget es q := by
  induction es with
  | nil => exact dget_cons k v [] q
  | cons p r ih =>
    obtain ⟨k', v'⟩ := p
    unfold dset
    by_cases h : k' = k
    · rw [if_pos h, dget_cons, dget_cons, h]
      by_cases e : k = q
      · rw [if_pos e, if_pos e]
      · rw [if_neg e, if_neg e, if_neg e]
    · rw [if_neg h, dget_cons, dget_cons, ih]
      by_cases e : k' = q
      · rw [if_pos e, if_pos e, if_neg (fun x => h (e.trans x.symm))]
      · rw [if_neg e, if_neg e]
theorem dget_mks (es : List (Key × V)) (q : Key) : dget (dsets es (tabV mks5)) q = if Key.s (lit ">") = q then some (.str (lit "&gt;")) else if Key.s (lit "<") = q then some (.str (lit "&lt;")) else if Key.s (lit "&") = q then some (.str (lit "&amp;")) else dget es q := by
  show dget (dset (dset (dset es (.s (lit "&")) (.str (lit "&amp;"))) (.s (lit "<")) (.str (lit "&lt;"))) (.s (lit ">")) (.str (lit "&gt;"))) q = _
  rw [dget_dset, dget_dset, dget_dset]
theorem rf5_mks (es : List (Key × V)) (c : Nat) : rf5 (dsets es (tabV mks5)) c = if c = 62 then lit "&gt;" else if c = 60 then lit "&lt;" else if c = 38 then lit "&amp;" else rf5 es c := by
  unfold rf5
  rw [dget_mks]
  by_cases h1 : c = 62
  · subst h1; rfl
  rw [if_neg h1, if_neg (fun q => h1 (by injection q with q; injection q with q; exact q.symm))]
  by_cases h2 : c = 60
  · subst h2; rfl
  rw [if_neg h2, if_neg (fun q => h2 (by injection q with q; injection q with q; exact q.symm))]
  by_cases h3 : c = 38
  · subst h3; rfl
  rw [if_neg h3, if_neg (fun q => h3 (by injection q with q; injection q with q; exact q.symm))]
theorem esc1 {es : List (S × S)} (h : Tab5 es) (c : Nat) : reps (esc5 ++ es) [c] = rf5 (dsets (tabV es) (tabV mks5)) c := by
  rw [reps_append, rf5_mks]
  by_cases h1 : c = 62
  · subst h1; exact inerts h (lit "&gt;") (fun d hd => keyB_sub h ((by decide : ∀ d ∈ lit "&gt;", keyB allow5 d = false) d hd))
  by_cases h2 : c = 60
  · subst h2; exact inerts h (lit "&lt;") (fun d hd => keyB_sub h ((by decide : ∀ d ∈ lit "&lt;", keyB allow5 d = false) d hd))
  by_cases h3 : c = 38
  · subst h3; exact inerts h (lit "&amp;") (fun d hd => keyB_sub h ((by decide : ∀ d ∈ lit "&amp;", keyB allow5 d = false) d hd))
  rw [if_neg h1, if_neg h2, if_neg h3]
  have : reps esc5 [c] = [c] := by
    refine reps_inert esc5 c fun w hw => ?_
    simp only [esc5, List.mem_cons, List.not_mem_nil, or_false] at hw
    rcases hw with rfl | rfl | rfl
    · exact ⟨⟨38, rfl⟩, fun e => h3 (by injection e with e; exact e.symm)⟩
    · exact ⟨⟨62, rfl⟩, fun e => h1 (by injection e with e; exact e.symm)⟩
    · exact ⟨⟨60, rfl⟩, fun e => h2 (by injection e with e; exact e.symm)⟩
  rw [this]
  exact rep1 h c
theorem esc_one {es : List (S × S)} (h : Tab5 es) : ∀ w ∈ esc5 ++ es, One w := by
  intro w hw
  rcases List.mem_append.mp hw with hw | hw
  · simp only [esc5, List.mem_cons, List.not_mem_nil, or_false] at hw
    rcases hw with rfl | rfl | rfl
    · exact ⟨38, rfl⟩
    · exact ⟨62, rfl⟩
    · exact ⟨60, rfl⟩
  · exact one_of h w hw
/-- what escape makes of a text -/
theorem esc_written {es : List (S × S)} (h : Tab5 es) (t : S) : reps (esc5 ++ es) t = written5 t (tabV es) := by
  rw [reps_flatMap _ (esc_one h)]
  exact flatMap_congrN fun c _ => esc1 h c
theorem mks_le {es : List (S × S)} (h : Tab5 es) (c : Nat) : (rf5 (dsets (tabV es) (tabV mks5)) c).length ≤ 8 := by
  rw [rf5_mks]
  split
  · decide
  split
  · decide
  split
  · decide
  exact rf5_le h c
/-- quotation marks -/
theorem hasSub_one (d : Nat) : ∀ x : S, hasSub [d] x = decide (d ∈ x)
  | [] => rfl
  | c :: r => by
    have ih := hasSub_one d r
    rw [Bool.eq_iff_iff, hasSub_iff, decide_eq_true_eq]
    rw [Bool.eq_iff_iff, hasSub_iff, decide_eq_true_eq] at ih
    constructor
    · rintro ⟨i, hi, hp⟩
      cases i with
      | zero =>
        have : (d == c && true) = true := hp
        rw [Bool.and_true, beq_iff_eq] at this
        rw [this]; exact List.mem_cons_self
      | succ i => exact List.mem_cons_of_mem _ (ih.mp ⟨i, by simpa using hi, by simpa using hp⟩)
    · intro hm
      rcases List.mem_cons.mp hm with rfl | hm
      · exact ⟨0, Nat.zero_le _, by simp⟩
      · obtain ⟨i, hi, hp⟩ := ih.mpr hm
        exact ⟨i + 1, by simpa using hi, by simpa using hp⟩
theorem repl_none {k : Nat} {z : S} : ∀ {x : S}, k ∉ x → repl [k] z x = x := by
  intro x h
  rw [repl_1]
  induction x with
  | nil => rfl
  | cons c r ih => rw [List.flatMap_cons, ih fun q => h (List.mem_cons_of_mem _ q), if_neg (fun e => h (by rw [e]; exact List.mem_cons_self))]; rfl
theorem quo_quoB (b : S) : quo5 b = quoB b := by
  unfold quo5 quoB
  rw [hasSub_one, hasSub_one]
  by_cases h1 : 34 ∈ b
  · by_cases h2 : 39 ∈ b
    · rw [decide_eq_true h1, decide_eq_true h2]; rfl
    · rw [decide_eq_true h1, decide_eq_false h2]; rfl
  · rw [decide_eq_false h1, if_neg (by decide), if_neg (fun q => by cases q.1)]
    rw [show repl (lit "\"") (lit "&quot;") b = b from repl_none h1]
end Sx
end
section
open PySem PySem.W PyProof.Rows PySem.Calls
set_option linter.unusedVariables false
set_option Elab.async false
set_option maxRecDepth 100000
namespace Sx
/-! plain: unescape in one go -/
theorem replK_skip (y z : S) : ∀ (n : Nat) (x : S), replK y z n x = replK y z 0 (x.drop n)
  | 0, x => rfl
  | n + 1, [] => by rw [replK, List.drop_nil, replK]
  | n + 1, c :: r => by rw [replK, replK_skip y z n r, List.drop_succ_cons]
theorem repl_nil {k z : S} (hk : k ≠ []) : repl k z [] = [] := by unfold repl; rw [if_neg hk, replK]
theorem repl_hit {k z : S} (hk : k ≠ []) (r : S) : repl k z (k ++ r) = z ++ repl k z r := by
  unfold repl
  rw [if_neg hk, if_neg hk]
  cases k with
  | nil => exact absurd rfl hk
  | cons a k =>
    rw [List.cons_append, replK_0, if_pos (by rw [List.isPrefixOf_iff_prefix]; exact ⟨r, rfl⟩), replK_skip]
    congr 2
    show (k ++ r).drop (k.length + 1 - 1) = r
    rw [Nat.add_sub_cancel, List.drop_left]
theorem repl_miss {k z : S} (hk : k ≠ []) {c : Nat} {r : S} (h : ¬ k <+: c :: r) : repl k z (c :: r) = c :: repl k z r := by
  unfold repl
  rw [if_neg hk, if_neg hk, replK_0, if_neg (by rw [List.isPrefixOf_iff_prefix]; exact h)]
theorem repl_pass {z : S} {a : Nat} {k : S} : ∀ (w r : S), (∀ d ∈ w, d ≠ a) → repl (a :: k) z (w ++ r) = w ++ repl (a :: k) z r
  | [], r, _ => rfl
  | c :: w, r, h => by
    rw [List.cons_append, repl_miss (by simp) (fun q => h c List.mem_cons_self (List.cons_prefix_cons.mp q).1.symm), repl_pass w r fun d hd => h d (List.mem_cons_of_mem _ hd)]; rfl
/-- a word that the pass can't have written -/
theorem repl_pre {a b : Nat} {k : S} : ∀ (n x : S), b ∉ n → n <+: repl (a :: k) [b] x → n <+: x
  | [], x, _, _ => List.nil_prefix
  | d :: n, [], _, h => by rw [repl_nil (by simp)] at h; exact h
  | d :: n, c :: r, hb, h => by
    by_cases hp : (a :: k) <+: c :: r
    · obtain ⟨v, hv⟩ := hp
      rw [← hv, repl_hit (by simp)] at h
      have := (List.cons_prefix_cons.mp h).1
      exact absurd (by rw [this]; exact List.mem_cons_self) hb
    · rw [repl_miss (by simp) hp] at h
      obtain ⟨h1, h2⟩ := List.cons_prefix_cons.mp h
      rw [h1]
      exact List.cons_prefix_cons.mpr ⟨rfl, repl_pre n r (fun q => hb (List.mem_cons_of_mem _ q)) h2⟩
theorem flat_pre {f : Nat → S} (hf : ∀ c, f c = [c] ∨ ∃ w, f c = 38 :: w) : ∀ (n x : S), 38 ∉ n → n <+: x.flatMap f → n <+: x
  | [], x, _, _ => List.nil_prefix
  | d :: n, [], _, h => h
  | d :: n, c :: r, hb, h => by
    rw [List.flatMap_cons] at h
    rcases hf c with e | ⟨w, e⟩
    · rw [e] at h
      obtain ⟨h1, h2⟩ := List.cons_prefix_cons.mp h
      rw [h1]
      exact List.cons_prefix_cons.mpr ⟨rfl, flat_pre hf n r (fun q => hb (List.mem_cons_of_mem _ q)) h2⟩
    · rw [e] at h
      exact absurd (by rw [(List.cons_prefix_cons.mp h).1]; exact List.mem_cons_self) hb
theorem allow5_ref : ∀ w ∈ allow5, w.2.head? = some 38 ∧ (∀ d ∈ w.2.tail, d ≠ 38) ∧ w.2.tail.take 2 ≠ [97, 109] ∧ 2 ≤ w.2.tail.length := by decide
theorem rf5_or {es : List (S × S)} (h : Tab5 es) (c : Nat) : rf5 (tabV es) c = [c] ∨ ∃ a b w, rf5 (tabV es) c = 38 :: a :: b :: w ∧ [a, b] ≠ [97, 109] ∧ ∀ d ∈ a :: b :: w, d ≠ 38 := by
  induction es with
  | nil => exact .inl rfl
  | cons p r ih =>
    obtain ⟨k, z⟩ := p
    rw [rf5_cons]
    split
    · refine .inr ?_
      obtain ⟨h1, h2, h3, h4⟩ := allow5_ref _ (h _ List.mem_cons_self)
      have h1 : z.head? = some 38 := h1
      have h2 : ∀ d ∈ z.tail, d ≠ 38 := h2
      have h3 : z.tail.take 2 ≠ [97, 109] := h3
      have h4 : 2 ≤ z.tail.length := h4
      match z, h1, h2, h3, h4 with
      | x :: a :: b :: w, h1, h2, h3, h4 =>
        injection h1 with h1
        subst h1
        exact ⟨a, b, w, rfl, h3, h2⟩
      | [x], _, _, _, h4 => exact absurd h4 (by decide : ¬ 2 ≤ 0)
      | [x, a], _, _, _, h4 => exact absurd h4 (by decide : ¬ 2 ≤ 1)
    · exact ih fun w hw => h w (List.mem_cons_of_mem _ hw)
theorem rf5_bare {es : List (S × S)} (h : Tab5 es) {c : Nat} (hc : keyB allow5 c = false) : rf5 (tabV es) c = [c] := by
  rw [← rep1 h]; exact inert_of h (keyB_sub h hc)
noncomputable def un4 (es : List (S × S)) (t : S) : S := repl (lit "&amp;") (lit "&") ((repl (lit "&gt;") (lit ">") (repl (lit "&lt;") (lit "<") t)).flatMap (rf5 (tabV es)))
theorem un4_eq {es : List (S × S)} (h : Tab5 es) (t : S) : reps (un5 ++ (es ++ amp5)) t = un4 es t := by
  rw [reps_append, reps_append]
  show repl (lit "&amp;") (lit "&") (reps es (repl (lit "&gt;") (lit ">") (repl (lit "&lt;") (lit "<") t))) = _
  rw [reps_flatMap es (one_of h)]
  unfold un4
  congr 1
  exact flatMap_congrN fun c _ => rep1 h c
theorem lt_cons : lit "&lt;" = 38 :: lit "lt;" := rfl
theorem gt_cons : lit "&gt;" = 38 :: lit "gt;" := rfl
theorem amp_cons : lit "&amp;" = 38 :: lit "amp;" := rfl
theorem un4_lt {es : List (S × S)} (h : Tab5 es) (r : S) : un4 es (lit "&lt;" ++ r) = lit "<" ++ un4 es r := by
  unfold un4
  rw [repl_hit (by decide)]
  show repl (lit "&amp;") (lit "&") ((repl (38 :: lit "gt;") (lit ">") (lit "<" ++ _)).flatMap (rf5 (tabV es))) = _
  rw [repl_pass (lit "<") _ (by decide)]
  show repl (lit "&amp;") (lit "&") (rf5 (tabV es) 60 ++ _) = _
  rw [rf5_bare h (by decide)]
  show repl (38 :: lit "amp;") (lit "&") (lit "<" ++ _) = _
  rw [repl_pass (lit "<") _ (by decide)]; rfl
theorem un4_gt {es : List (S × S)} (h : Tab5 es) (r : S) : un4 es (lit "&gt;" ++ r) = lit ">" ++ un4 es r := by
  unfold un4
  have e1 : repl (lit "&lt;") (lit "<") (lit "&gt;" ++ r) = lit "&gt;" ++ repl (lit "&lt;") (lit "<") r := by
    show repl (lit "&lt;") (lit "<") (38 :: (lit "gt;" ++ r)) = _
    rw [repl_miss (by decide) (fun q => by
      rw [lt_cons] at q
      have := (List.cons_prefix_cons.mp q).2
      have := (List.cons_prefix_cons.mp this).1
      exact absurd this (by decide))]
    show 38 :: repl (38 :: lit "lt;") (lit "<") (lit "gt;" ++ r) = _
    rw [repl_pass (lit "gt;") _ (by decide)]; rfl
  rw [e1, repl_hit (by decide)]
  show repl (lit "&amp;") (lit "&") (rf5 (tabV es) 62 ++ _) = _
  rw [rf5_bare h (by decide)]
  show repl (38 :: lit "amp;") (lit "&") (lit ">" ++ _) = _
  rw [repl_pass (lit ">") _ (by decide)]; rfl
theorem un4_amp {es : List (S × S)} (h : Tab5 es) (r : S) : un4 es (lit "&amp;" ++ r) = lit "&" ++ un4 es r := by
  unfold un4
  have e1 : repl (lit "&lt;") (lit "<") (lit "&amp;" ++ r) = lit "&amp;" ++ repl (lit "&lt;") (lit "<") r := by
    show repl (lit "&lt;") (lit "<") (38 :: (lit "amp;" ++ r)) = _
    rw [repl_miss (by decide) (fun q => by
      rw [lt_cons] at q
      have := (List.cons_prefix_cons.mp q).2
      have := (List.cons_prefix_cons.mp this).1
      exact absurd this (by decide))]
    show 38 :: repl (38 :: lit "lt;") (lit "<") (lit "amp;" ++ r) = _
    rw [repl_pass (lit "amp;") _ (by decide)]; rfl
  have e2 : ∀ x : S, repl (lit "&gt;") (lit ">") (lit "&amp;" ++ x) = lit "&amp;" ++ repl (lit "&gt;") (lit ">") x := by
    intro x
    show repl (lit "&gt;") (lit ">") (38 :: (lit "amp;" ++ x)) = _
    rw [repl_miss (by decide) (fun q => by
      rw [gt_cons] at q
      have := (List.cons_prefix_cons.mp q).2
      have := (List.cons_prefix_cons.mp this).1
      exact absurd this (by decide))]
    show 38 :: repl (38 :: lit "gt;") (lit ">") (lit "amp;" ++ x) = _
    rw [repl_pass (lit "amp;") _ (by decide)]; rfl
  rw [e1, e2, List.flatMap_append]
  have e3 : (lit "&amp;").flatMap (rf5 (tabV es)) = lit "&amp;" := by
    show rf5 (tabV es) 38 ++ (rf5 (tabV es) 97 ++ (rf5 (tabV es) 109 ++ (rf5 (tabV es) 112 ++ (rf5 (tabV es) 59 ++ [])))) = _
    rw [rf5_bare h (by decide), rf5_bare h (by decide), rf5_bare h (by decide), rf5_bare h (by decide), rf5_bare h (by decide)]; rfl
  rw [e3, repl_hit (by decide)]
theorem un4_nil (es : List (S × S)) : un4 es [] = [] := by
  unfold un4
  rw [repl_nil (by decide), repl_nil (by decide), List.flatMap_nil, repl_nil (by decide)]
theorem un4_bare {es : List (S × S)} (h : Tab5 es) {c : Nat} {r : S} (h1 : ¬ lit "&lt;" <+: c :: r) (h2 : ¬ lit "&gt;" <+: c :: r) (h3 : ¬ lit "&amp;" <+: c :: r) : un4 es (c :: r) = rf5 (tabV es) c ++ un4 es r := by
  unfold un4
  have hfr : ∀ c, rf5 (tabV es) c = [c] ∨ ∃ w, rf5 (tabV es) c = 38 :: w := fun c => by
    rcases rf5_or h c with e | ⟨a, b, w, e, _⟩
    · exact .inl e
    · exact .inr ⟨_, e⟩
  rw [repl_miss (by decide) h1]
  have g2 : ¬ lit "&gt;" <+: c :: repl (lit "&lt;") (lit "<") r := fun q => by
    rw [gt_cons] at q h2
    obtain ⟨q1, q2⟩ := List.cons_prefix_cons.mp q
    exact h2 (List.cons_prefix_cons.mpr ⟨q1, repl_pre (k := lit "lt;") (lit "gt;") r (by decide) q2⟩)
  rw [repl_miss (by decide) g2, List.flatMap_cons]
  generalize hu : repl (lit "&gt;") (lit ">") (repl (lit "&lt;") (lit "<") r) = u
  have g3 : c = 38 → ¬ lit "amp;" <+: u.flatMap (rf5 (tabV es)) := fun e q => by
    have q := flat_pre hfr _ _ (by decide) q
    rw [← hu] at q
    have q := repl_pre (k := lit "gt;") (lit "amp;") _ (by decide) q
    have q := repl_pre (k := lit "lt;") (lit "amp;") _ (by decide) q
    rw [amp_cons, e] at h3
    exact h3 (List.cons_prefix_cons.mpr ⟨rfl, q⟩)
  rcases rf5_or h c with e | ⟨a, b, w, e, ha, hw⟩
  · rw [e]
    show repl (lit "&amp;") (lit "&") (c :: u.flatMap (rf5 (tabV es))) = c :: _
    rw [repl_miss (by decide) (fun q => by
      rw [amp_cons] at q
      obtain ⟨q1, q2⟩ := List.cons_prefix_cons.mp q
      exact g3 q1.symm q2)]
    rfl
  · rw [e]
    show repl (lit "&amp;") (lit "&") (38 :: ((a :: b :: w) ++ u.flatMap (rf5 (tabV es)))) = 38 :: ((a :: b :: w) ++ _)
    rw [repl_miss (by decide) (fun q => by
      rw [amp_cons] at q
      obtain ⟨_, q2⟩ := List.cons_prefix_cons.mp q
      obtain ⟨q3, q4⟩ := List.cons_prefix_cons.mp q2
      obtain ⟨q5, _⟩ := List.cons_prefix_cons.mp q4
      exact ha (by rw [← q3, ← q5]; rfl))]
    show 38 :: repl (38 :: lit "amp;") (lit "&") ((a :: b :: w) ++ u.flatMap (rf5 (tabV es))) = _
    rw [repl_pass (a :: b :: w) _ hw]
    rfl
theorem pre_take (n x : S) : x.take n.length = n ↔ n <+: x := by rw [List.prefix_iff_eq_take]; exact eq_comm
/-- what unescape makes of a text -/
theorem un_read {es : List (S × S)} (h : Tab5 es) : ∀ (n : Nat) (t : S), t.length ≤ n → un4 es t = read5 (tabV es) t
  | _, [], _ => by rw [read5, un4_nil]
  | 0, _ :: _, h => absurd h (Nat.not_succ_le_zero _)
  | n + 1, c :: r, hl => by
    have hl : r.length ≤ n := Nat.le_of_succ_le_succ hl
    rw [read5]
    have hsel : sel5 (c :: r) rd5 (1, rf5 (tabV es) c) = if (c :: r).take 5 = lit "&amp;" then (5, lit "&") else if (c :: r).take 4 = lit "&gt;" then (4, lit ">") else if (c :: r).take 4 = lit "&lt;" then (4, lit "<") else (1, rf5 (tabV es) c) := rfl
    have hd : ∀ m, (r.drop m).length ≤ n := fun m => by rw [List.length_drop]; omega
    have q3 : (c :: r).take 5 = lit "&amp;" ↔ lit "&amp;" <+: c :: r := pre_take (lit "&amp;") _
    have q2 : (c :: r).take 4 = lit "&gt;" ↔ lit "&gt;" <+: c :: r := pre_take (lit "&gt;") _
    have q1 : (c :: r).take 4 = lit "&lt;" ↔ lit "&lt;" <+: c :: r := pre_take (lit "&lt;") _
    by_cases h3 : lit "&amp;" <+: c :: r
    · rw [hsel, if_pos (q3.mpr h3)]
      obtain ⟨v, hv⟩ := h3
      have e : r.drop 4 = v := by
        have : (c :: r).drop 5 = v := by rw [← hv]; rfl
        rw [← this]; rfl
      rw [← hv, un4_amp h]
      show lit "&" ++ un4 es v = lit "&" ++ read5 (tabV es) (r.drop 4)
      rw [e, un_read h n v (by rw [← e]; exact hd 4)]
    rw [if_neg (fun q => h3 (q3.mp q))] at hsel
    by_cases h2 : lit "&gt;" <+: c :: r
    · rw [hsel, if_pos (q2.mpr h2)]
      obtain ⟨v, hv⟩ := h2
      have e : r.drop 3 = v := by
        have : (c :: r).drop 4 = v := by rw [← hv]; rfl
        rw [← this]; rfl
      rw [← hv, un4_gt h]
      show lit ">" ++ un4 es v = lit ">" ++ read5 (tabV es) (r.drop 3)
      rw [e, un_read h n v (by rw [← e]; exact hd 3)]
    rw [if_neg (fun q => h2 (q2.mp q))] at hsel
    by_cases h1 : lit "&lt;" <+: c :: r
    · rw [hsel, if_pos (q1.mpr h1)]
      obtain ⟨v, hv⟩ := h1
      have e : r.drop 3 = v := by
        have : (c :: r).drop 4 = v := by rw [← hv]; rfl
        rw [← this]; rfl
      rw [← hv, un4_lt h]
      show lit "<" ++ un4 es v = lit "<" ++ read5 (tabV es) (r.drop 3)
      rw [e, un_read h n v (by rw [← e]; exact hd 3)]
    rw [if_neg (fun q => h1 (q1.mp q))] at hsel
    rw [hsel, un4_bare h h1 h2 h3]
    show rf5 (tabV es) c ++ un4 es r = rf5 (tabV es) c ++ read5 (tabV es) r
    rw [un_read h n r hl]
/-! bounds -/
noncomputable def wt (ws : List (S × S)) (c : Nat) : Nat := if keyB ws c then 8 else 1
noncomputable def wts (ws : List (S × S)) (x : S) : Nat := (x.map (wt ws)).sum
theorem wts_append (ws : List (S × S)) (a b : S) : wts ws (a ++ b) = wts ws a + wts ws b := by unfold wts; rw [List.map_append, List.sum_append]
theorem wts_ge (ws : List (S × S)) : ∀ x : S, x.length ≤ wts ws x ∧ wts ws x ≤ 8 * x.length
  | [] => ⟨Nat.le_refl _, Nat.le_refl _⟩
  | c :: r => by
    have ih := wts_ge ws r
    have e : wts ws (c :: r) = wt ws c + wts ws r := by unfold wts; rw [List.map_cons, List.sum_cons]
    have : 1 ≤ wt ws c ∧ wt ws c ≤ 8 := by unfold wt; split <;> decide
    rw [e, List.length_cons]
    omega
theorem wts_plain {ws : List (S × S)} : ∀ {z : S}, (∀ d ∈ z, keyB ws d = false) → wts ws z = z.length
  | [], _ => rfl
  | c :: r, h => by
    have e : wts ws (c :: r) = wt ws c + wts ws r := by unfold wts; rw [List.map_cons, List.sum_cons]
    rw [e, wts_plain fun d hd => h d (List.mem_cons_of_mem _ hd), List.length_cons]
    unfold wt
    rw [h c List.mem_cons_self]
    exact Nat.add_comm _ _
/-- each reference holds no key that is still to come -/
noncomputable def Calm : List (S × S) → Prop
  | [] => True
  | w :: r => One w ∧ w.2.length ≤ 8 ∧ (∀ d ∈ w.2, keyB r d = false) ∧ Calm r
theorem wts_repl {d : Nat} {z : S} {r : List (S × S)} (hz : z.length ≤ 8) (hk : ∀ c ∈ z, keyB r c = false) : ∀ x : S, wts r (repl [d] z x) ≤ wts (([d], z) :: r) x
  | [] => by rw [repl_nil (by simp)]; exact Nat.le_refl _
  | c :: x => by
    have ih := wts_repl (d := d) hz hk x
    have e : wts (([d], z) :: r) (c :: x) = wt (([d], z) :: r) c + wts (([d], z) :: r) x := by unfold wts; rw [List.map_cons, List.sum_cons]
    have e2 : repl [d] z (c :: x) = (if c = d then z else [c]) ++ repl [d] z x := by rw [repl_1, repl_1, List.flatMap_cons]
    rw [e, e2, wts_append]
    have : wts r (if c = d then z else [c]) ≤ wt (([d], z) :: r) c := by
      by_cases h : c = d
      · rw [if_pos h, wts_plain hk]
        have : wt (([d], z) :: r) c = 8 := by unfold wt keyB; rw [h]; simp
        rw [this]; exact hz
      · rw [if_neg h]
        have e3 : wts r [c] = wt r c := by unfold wts; simp
        have : keyB (([d], z) :: r) c = keyB r c := by
          unfold keyB
          rw [List.any_cons, decide_eq_false (fun q => h (by injection q with q; exact q.symm))]; rfl
        rw [e3]; unfold wt; rw [this]; exact Nat.le_refl _
    omega
theorem calm_ok : ∀ (ws : List (S × S)) (x : S), Calm ws → wts ws x ≤ 200000 → RepOkG ws x
  | [], _, _, _ => trivial
  | (k, z) :: r, x, ⟨⟨d, hd⟩, hz, hk, hr⟩, hb => by
    have hd : k = [d] := hd
    subst hd
    have hz : z.length ≤ 8 := hz
    have h1 := (wts_ge (([d], z) :: r) x).1
    have hsz : sizeLine = 16777216 := sizeLine_eq
    refine ⟨?_, calm_ok r _ hr (Nat.le_trans (wts_repl hz hk x) hb)⟩
    have h2 : (x.length + 1) * z.length ≤ (x.length + 1) * 8 := Nat.mul_le_mul_left _ hz
    omega
theorem calm_tab : ∀ {es : List (S × S)}, Tab5 es → Calm es
  | [], _ => trivial
  | w :: r, h => by
    have hr : Tab5 r := fun w hw => h w (List.mem_cons_of_mem _ hw)
    have := allow5_in w (h w List.mem_cons_self)
    exact ⟨allow5_one w (h w List.mem_cons_self), this.2, fun d hd => keyB_sub hr (this.1 d hd), calm_tab hr⟩
theorem calm_esc {es : List (S × S)} (h : Tab5 es) : Calm (esc5 ++ es) := by
  have hk : ∀ {c : Nat}, keyB allow5 c = false → keyB es c = false := fun hc => keyB_sub h hc
  have hc : ∀ (a : List (S × S)) (c : Nat), keyB (a ++ es) c = (keyB a c || keyB es c) := fun a c => by unfold keyB; rw [List.any_append]
  refine ⟨⟨38, rfl⟩, by decide, fun d hd => ?_, ⟨62, rfl⟩, by decide, fun d hd => ?_, ⟨60, rfl⟩, by decide, fun d hd => ?_, calm_tab h⟩
  · show keyB ([(lit ">", lit "&gt;"), (lit "<", lit "&lt;")] ++ es) d = false
    rw [hc, hk ((by decide : ∀ d ∈ lit "&amp;", keyB allow5 d = false) d hd), (by decide : ∀ d ∈ lit "&amp;", keyB [(lit ">", lit "&gt;"), (lit "<", lit "&lt;")] d = false) d hd]; rfl
  · show keyB ([(lit "<", lit "&lt;")] ++ es) d = false
    rw [hc, hk ((by decide : ∀ d ∈ lit "&gt;", keyB allow5 d = false) d hd), (by decide : ∀ d ∈ lit "&gt;", keyB [(lit "<", lit "&lt;")] d = false) d hd]; rfl
  · exact hk ((by decide : ∀ d ∈ lit "&lt;", keyB allow5 d = false) d hd)
end Sx
end
section
open PySem PySem.W PyProof.Rows PySem.Calls
set_option linter.unusedVariables false
set_option Elab.async false
set_option maxRecDepth 100000
namespace Sx
theorem un_ok {es : List (S × S)} (h : Tab5 es) {t : S} (ht : t.length ≤ 1400) : RepOkG un5 t ∧ RepOkG es (reps un5 t) ∧ RepOkG (un5 ++ (es ++ amp5)) t := by
  have hsz : sizeLine = 16777216 := sizeLine_eq
  have h1 : (repl (lit "&lt;") (lit "<") t).length ≤ t.length + (t.length + 1) * 1 := repl_len _ _ _
  have h2 : (repl (lit "&gt;") (lit ">") (repl (lit "&lt;") (lit "<") t)).length ≤ (repl (lit "&lt;") (lit "<") t).length + ((repl (lit "&lt;") (lit "<") t).length + 1) * 1 := repl_len _ _ _
  have a : RepOkG un5 t := ⟨by show _ + _ * 1 ≤ _; omega, by show _ + _ * 1 ≤ _; omega, trivial⟩
  have hx : (reps un5 t).length ≤ 6000 := by show (repl (lit "&gt;") (lit ">") (repl (lit "&lt;") (lit "<") t)).length ≤ _; omega
  have b : RepOkG es (reps un5 t) := calm_ok es _ (calm_tab h) (Nat.le_trans (wts_ge es _).2 (by omega))
  refine ⟨a, b, (repOkG_append _ _ _).mpr ⟨a, (repOkG_append _ _ _).mpr ⟨b, ?_, trivial⟩⟩⟩
  have : (reps es (reps un5 t)).length ≤ 8 * (reps un5 t).length := by
    rw [reps_flatMap es (one_of h)]
    refine flat_len _ fun c _ => ?_
    rw [rep1 h]; exact rf5_le h c
  show _ + _ * 1 ≤ _
  omega
theorem esc_ok {es : List (S × S)} (h : Tab5 es) {t : S} (ht : t.length ≤ 1400) : RepOkG esc5 t ∧ RepOkG es (reps esc5 t) ∧ RepOkG (esc5 ++ es) t ∧ (reps (esc5 ++ es) t).length ≤ 2000000 := by
  have c : RepOkG (esc5 ++ es) t := calm_ok _ _ (calm_esc h) (Nat.le_trans (wts_ge _ _).2 (by omega))
  have d := (repOkG_append _ _ _).mp c
  refine ⟨d.1, d.2, c, ?_⟩
  rw [esc_written h]
  have := flat_len (f := rf5 (dsets (tabV es) (tabV mks5))) t fun c _ => mks_le h c
  show (t.flatMap _).length ≤ _
  omega
/-! the table that the law builds -/
noncomputable def Ent5 (p : Key × V) : Prop := (∃ q ∈ allow5, p.1 = .s q.1 ∧ (p.2 = .str q.2 ∨ NoTextV p.2)) ∨ (∃ e, p.1 = .i e ∧ ((∃ y, p.2 = .str y) ∨ NoTextV p.2))
theorem val5_or (e : Int) (ref : S) : val5 e ref = .str ref ∨ NoTextV (val5 e ref) := by
  unfold val5
  split
  · exact .inl rfl
  split
  · exact .inr .none
  split
  · exact .inr (.int _)
  · exact .inr (.bytes _)
theorem mem_dset {p : Key × V} {k : Key} {v : V} : ∀ {t : List (Key × V)}, p ∈ dset t k v → p = (k, v) ∨ p ∈ t
  | [], h => .inl (List.mem_singleton.mp h)
  | (k', v') :: r, h => by
    unfold dset at h
    split at h
    · rename_i e
      rcases List.mem_cons.mp h with h | h
      · rw [e] at h; exact .inl h
      · exact .inr (List.mem_cons_of_mem _ h)
    · rcases List.mem_cons.mp h with h | h
      · exact .inr (by rw [h]; exact List.mem_cons_self)
      · rcases mem_dset h with h | h
        · exact .inl h
        · exact .inr (List.mem_cons_of_mem _ h)
structure Tb5 (t : List (Key × V)) : Prop where
  ent : ∀ p ∈ t, Ent5 p
  nd : (t.map (·.1)).Nodup
theorem Tb5.dset {t : List (Key × V)} (h : Tb5 t) {k : Key} {v : V} (he : Ent5 (k, v)) : Tb5 (Sx.dset t k v) :=
  ⟨fun p hp => by
    rcases mem_dset hp with rfl | hp
    · exact he
    · exact h.ent p hp, dset_nodup h.nd k v⟩
theorem tb5_step {t : List (Key × V)} (h : Tb5 t) (x : Int) : Tb5 (step5 t x) := by
  unfold step5
  split
  · exact h
  · refine h.dset ?_
    generalize x.fdiv 11 = e
    unfold key5
    cases hr : refs5[((e.fdiv 3).fmod 7).toNat]? with
    | some q =>
      refine .inl ⟨q, List.mem_append_left _ (List.mem_of_getElem? hr), rfl, ?_⟩
      exact val5_or e q.2
    | none =>
      refine .inr ⟨e, rfl, ?_⟩
      rcases val5_or e (lit "&n;") with h | h
      · exact .inl ⟨_, h⟩
      · exact .inr h
theorem tb5_table (xs : List Int) : Tb5 (table5 xs) := by
  suffices h : ∀ (xs : List Int) (t : List (Key × V)), Tb5 t → Tb5 (xs.foldl step5 t) from h xs [] ⟨fun p h => (nomatch h), List.nodup_nil⟩
  intro xs
  induction xs with
  | nil => exact fun t h => h
  | cons x xs ih => exact fun t h => ih _ (tb5_step h x)
theorem Tb5.own {t : List (Key × V)} (h : Tb5 t) : Tb5 (dsets t (tabV own5)) := by
  have h1 : ∀ q ∈ own5, Ent5 (.s q.1, .str q.2) := fun q hq => .inl ⟨q, List.mem_append_right _ hq, rfl, .inl rfl⟩
  show Tb5 (Sx.dset (Sx.dset (Sx.dset t (.s (lit "\n")) (.str (lit "&#10;"))) (.s (lit "\r")) (.str (lit "&#13;"))) (.s (lit "\t")) (.str (lit "&#9;")))
  exact ((h.dset (h1 (lit "\n", lit "&#10;") (by decide))).dset (h1 (lit "\r", lit "&#13;") (by decide))).dset (h1 (lit "\t", lit "&#9;") (by decide))
theorem atom_of {p : Key × V} (h : Ent5 p) : AtomV p.2 ∧ IsiV p.2 := by
  have hn : NoTextV p.2 → AtomV p.2 ∧ IsiV p.2 := fun h => by
    cases e : p.2 with
    | none => exact ⟨.none, .none⟩
    | int i => exact ⟨.int i, .int i⟩
    | bytes b => exact ⟨.bytes b, .bytes b⟩
    | _ => rw [e] at h; cases h
  rcases h with ⟨q, _, _, h | h⟩ | ⟨e, _, ⟨y, h⟩ | h⟩
  · rw [h]; exact ⟨.str _, .str _⟩
  · exact hn h
  · rw [h]; exact ⟨.str _, .str _⟩
  · exact hn h
theorem dget_of {t : List (Key × V)} (h : (t.map (·.1)).Nodup) {p : Key × V} (hp : p ∈ t) : dget t p.1 = some p.2 := by
  induction t with
  | nil => cases hp
  | cons a r ih =>
    obtain ⟨k, v⟩ := a
    rw [dget_cons]
    rw [List.map_cons, List.nodup_cons] at h
    rcases List.mem_cons.mp hp with rfl | hp
    · rw [if_pos rfl]
    · have : ¬ k = p.1 := fun e => h.1 (by rw [e]; exact List.mem_map.mpr ⟨p, hp, rfl⟩)
      rw [if_neg this]; exact ih h.2 hp
theorem noText_ty {v : V} (h : NoTextV v) : tyV v ≠ "str" := by
  cases h with
  | none => exact (by decide : ("NoneType" : String) ≠ "str")
  | int i => exact (by decide : ("int" : String) ≠ "str")
  | bytes b => exact (by decide : ("bytes" : String) ≠ "str")
/-- all texts, or a first entry that is none -/
theorem split5 : ∀ t : List (Key × V), (∀ p ∈ t, Ent5 p) → (t.any (badE false) = false ∧ ∃ es, t = tabV es ∧ Tab5 es) ∨ (t.any (badE false) = true ∧ ∃ es k v post, t = tabV es ++ (k, v) :: post ∧ Tab5 es ∧ (NoTextV k.v ∨ ((∃ y, k.v = .str y) ∧ NoTextV v)))
  | [], _ => .inl ⟨rfl, [], rfl, fun w h => (nomatch h)⟩
  | (k, v) :: r, h => by
    rw [List.any_cons]
    have hbe : badE false (k, v) = !(decide (tyV k.v = "str") && decide (tyV v = "str")) := rfl
    rcases h _ List.mem_cons_self with ⟨q, hq, hk, hv⟩ | ⟨e, hk, hv⟩
    · have hk : k = .s q.1 := hk
      have hks : tyV k.v = "str" := by rw [hk]; rfl
      rcases hv with hv | hv
      · have hv : v = .str q.2 := hv
        have hb : badE false (k, v) = false := by rw [hbe, hk, hv]; rfl
        rw [hb, Bool.false_or]
        rcases split5 r (fun p hp => h p (List.mem_cons_of_mem _ hp)) with ⟨h1, es, h2, h3⟩ | ⟨h1, es, k', v', post, h2, h3, h4⟩
        · refine .inl ⟨h1, q :: es, by rw [h2, hk, hv]; rfl, fun w hw => ?_⟩
          rcases List.mem_cons.mp hw with rfl | hw
          · exact hq
          · exact h3 w hw
        · refine .inr ⟨h1, q :: es, k', v', post, by rw [h2, hk, hv]; rfl, fun w hw => ?_, h4⟩
          rcases List.mem_cons.mp hw with rfl | hw
          · exact hq
          · exact h3 w hw
      · have hv : NoTextV v := hv
        have hb : badE false (k, v) = true := by rw [hbe, decide_eq_true hks, decide_eq_false (noText_ty hv)]; rfl
        exact .inr ⟨by rw [hb]; rfl, [], k, v, r, rfl, fun w h => (nomatch h), .inr ⟨⟨q.1, by rw [hk]; rfl⟩, hv⟩⟩
    · have hk : k = .i e := hk
      have hb : badE false (k, v) = true := by rw [hbe, hk]; rfl
      exact .inr ⟨by rw [hb]; rfl, [], k, v, r, rfl, fun w h => (nomatch h), .inl (by rw [hk]; exact .int e)⟩
theorem any_eqP {α : Type} {P Q : α → Bool} : ∀ {l : List α}, (∀ x ∈ l, P x = Q x) → l.any P = l.any Q
  | [], _ => rfl
  | a :: r, h => by rw [List.any_cons, List.any_cons, h a List.mem_cons_self, any_eqP fun x hx => h x (List.mem_cons_of_mem _ hx)]
theorem any_dset {P : Key × V → Bool} {k : Key} {v : V} (hP : P (k, v) = false) : ∀ {t : List (Key × V)}, (t.map (·.1)).Nodup → (dset t k v).any P = t.any fun p => !(decide (p.1 = k)) && P p
  | [], _ => by show (P (k, v) || false) = false; rw [hP]; rfl
  | (k', v') :: r, h => by
    rw [List.map_cons, List.nodup_cons] at h
    unfold dset
    by_cases e : k' = k
    · rw [if_pos e, List.any_cons, List.any_cons, e, hP, decide_eq_true rfl]
      show r.any P = r.any _
      refine any_eqP fun p hp => ?_
      have : ¬ p.1 = k := fun q => h.1 (by rw [e, ← q]; exact List.mem_map.mpr ⟨p, hp, rfl⟩)
      rw [decide_eq_false this]; rfl
    · rw [if_neg e, List.any_cons, List.any_cons, decide_eq_false e, any_dset hP h.2]; rfl
/-- quoteattr's own three stand in for whatever the table says of the white signs -/
theorem any_own {t : List (Key × V)} (h : Tb5 t) : (dsets t (tabV own5)).any (badE false) = t.any (badE true) := by
  have e1 : badE false (.s (lit "\t"), .str (lit "&#9;")) = false := rfl
  show (dset (dset (dset t (.s (lit "\n")) (.str (lit "&#10;"))) (.s (lit "\r")) (.str (lit "&#13;"))) (.s (lit "\t")) (.str (lit "&#9;"))).any (badE false) = _
  rw [any_dset (by rfl) (dset_nodup (dset_nodup h.nd _ _) _ _), any_dset (by rfl) (dset_nodup h.nd _ _), any_dset (by rfl) h.nd]
  refine any_eqP fun p hp => ?_
  unfold badE skip5 white5
  simp only [List.any_cons, List.any_nil, Bool.or_false, Bool.true_and, Bool.false_and, Bool.not_or]
  cases decide (p.1 = Key.s (lit "\n")) <;> cases decide (p.1 = Key.s (lit "\r")) <;> cases decide (p.1 = Key.s (lit "\t")) <;> rfl
end Sx
end
section
open PySem PySem.W PyProof.Rows PySem.Calls
set_option linter.unusedVariables false
set_option Elab.async false
set_option maxRecDepth 100000
namespace Sx
/-- the very first call of all: no marks yet -/
theorem fn_call0F {W : Wd} {A : Around} {E : Value → Shared → Prop} {n : Nat} (hW : W.Ok) (hh : A.handled = none) (hu : A.units + 3 + 3 * n + 100 ≤ 9000) (hdp : A.depth + 1 + n + 10 ≤ 900) {a : Addr} {fd : FuncData} {body : List Stmt} (fn : FnAt W a fd body) {p : String} {v : V} {w : Value} {s : Shared}
    (hbase : W.h₀ = s.heap) (hb : BindsTo s fd ⟨[w], []⟩ [(Str.ofString p, w)]) (hr : Rep W ⟨s.heap.get?, fun _ => none⟩ v w) (hpl : fd.scope.names.lookup (Str.ofString p) = some .local) (hnf : (fd.scope.names.all fun x => x.2 != .free) = true) {Q : Value → Shared → Prop}
    (walk : ∀ A' L q cd, A' = A.deeper (fnEnv fd.scope L a q cd) → (fnCx W A' fd.scope L a q cd).Ok n → Exs (fnCx W A' fd.scope L a q cd) [(p, .val v)] body (fun fl _ => fl.v = .bool true))
    (hQ : ∀ s', (∃ h' tk, s' = { s with heap := h', toks := tk }) → (∀ b o, s.heap.get? b = some o → s'.heap.get? b = some o) → Q (.bool true) s') : wpAny (model W.prog W.w) A (call (.ref a) [w]) Q E s := by
  obtain ⟨o, ho, hd⟩ := fn.at_
  rw [hbase] at ho
  have hlim : s.heap.NoLimit := hbase ▸ hW.nolimit
  refine wpAny_call (codeAny_call_function (by unfold recursionLimit; omega) ho hd fn.hco fn.hgen fn.hbody (hbase ▸ fn.hcd) (hb _ _ _ _ ?_))
  rw [fn.hgl, fn.hcl, fn.hbn]
  refine newEnv_pos fn.hk hpl (fun x hx => nomatch hx) fun env' he s' x htk => ?_
  subst he
  obtain ⟨h₁, tk, rfl, hk₁⟩ := x.done
  refine ⟨hlim.keeps hk₁, codeAny_func ?_⟩
  have okn : (fnCx W (A.deeper (fnEnv fd.scope s.heap.objs.size a (fd.qualname ++ ".<locals>.") fd.code)) fd.scope s.heap.objs.size a (fd.qualname ++ ".<locals>.") fd.code).Ok n :=
    fnCx_ok hW (by exact hh) (by show A.units + 3 + 3 * n + 100 ≤ 9000; omega) (by show A.depth + 1 + n + 10 ≤ 900; omega) fn.hk
  obtain ⟨cs, hcs⟩ : ∃ cs, cellsFrom (s.heap.objs.size + 1) fd.scope.names [] = cs := ⟨_, rfl⟩
  have hcs' : (fnEnv fd.scope s.heap.objs.size a (fd.qualname ++ ".<locals>.") fd.code).cells = cs := hcs
  have hcell : ∀ z c, cs.lookup z = some c → h₁.IsCell c (bindC (fnEnv fd.scope s.heap.objs.size a (fd.qualname ++ ".<locals>.") fd.code).kindOf [(Str.ofString p, w)] (fun _ => none) z) := fun z c e => x.cell z c (hcs ▸ e)
  have hab : ∀ z c, (z, c) ∈ cs → s.heap.objs.size < c := fun z c e => x.above z c (hcs ▸ e)
  have hap : cs.Pairwise fun x y => x.2 ≠ y.2 := by have := x.apart; exact hcs ▸ this
  have hns : h₁.Ns s.heap.objs.size (bindL (fnEnv fd.scope s.heap.objs.size a (fd.qualname ++ ".<locals>.") fd.code).kindOf [(Str.ofString p, w)] (fun _ => none)) := x.toInCall.ns
  have hmm : ∀ b ∈ s.heap.objs.size :: cs.filterMap (fun p => cs.lookup p.1), b = s.heap.objs.size ∨ ∃ z, cs.lookup z = some b := by
    intro b hb
    rcases List.mem_cons.mp hb with rfl | hb
    · exact .inl rfl
    · obtain ⟨p, hp, e⟩ := List.mem_filterMap.mp hb
      exact .inr ⟨p.1, e⟩
  have hmine : ∀ b ∈ s.heap.objs.size :: cs.filterMap (fun p => cs.lookup p.1), s.heap.get? b = none := by
    intro b hb
    rcases hmm b hb with rfl | ⟨z, hz⟩
    · exact fresh_size _
    · exact get_ge (Nat.le_of_lt (hab z b (mem_of_lookup hz)))
  have hcm : ∀ z c, cs.lookup z = some c → c ∈ s.heap.objs.size :: cs.filterMap (fun p => cs.lookup p.1) := fun z c e =>
    List.mem_cons_of_mem _ (List.mem_filterMap.mpr ⟨(z, c), mem_of_lookup e, e⟩)
  have le0 : Le ⟨s.heap.get?, fun _ => none⟩ (view ([] ++ (s.heap.objs.size :: cs.filterMap (fun p => cs.lookup p.1))) (fun _ => none) { s with heap := h₁, toks := tk }) := by
    refine ⟨fun b o e => view_mk (fun hm => ?_) (hk₁ b o e), fun _ _ e => by cases e⟩
    have := hmine b hm
    have e : s.heap.get? b = some o := e
    rw [e] at this; cases this
  have hkp : (fnEnv fd.scope s.heap.objs.size a (fd.qualname ++ ".<locals>.") fd.code).kindOf (Str.ofString p) = some .local := hpl
  have habs : Abs (fnCx W (A.deeper (fnEnv fd.scope s.heap.objs.size a (fd.qualname ++ ".<locals>.") fd.code)) fd.scope s.heap.objs.size a (fd.qualname ++ ".<locals>.") fd.code) []
      (s.heap.objs.size :: cs.filterMap (fun p => cs.lookup p.1)) (fun _ => none) [(p, .val v)] { s with heap := h₁, toks := tk } := by
    refine ⟨fun b o e => le0.ob b o (by rw [← hbase]; exact e), fun b hb => ?_, fun b hb hF => (by cases hF), ⟨htk, fun _ _ e => by cases e⟩, .none rfl,
      bindL (fnEnv fd.scope s.heap.objs.size a (fd.qualname ++ ".<locals>.") fd.code).kindOf [(Str.ofString p, w)] (fun _ => none), bindC (fnEnv fd.scope s.heap.objs.size a (fd.qualname ++ ".<locals>.") fd.code).kindOf [(Str.ofString p, w)] (fun _ => none), ?_⟩
    · rcases hmm b hb with rfl | ⟨z, hz⟩
      · obtain ⟨o, _, _, ho, _⟩ := hns
        show (h₁.get? s.heap.objs.size).isSome = true
        rw [ho]; rfl
      · obtain ⟨o, ho, _⟩ := hcell z b hz
        show (h₁.get? b).isSome = true
        rw [ho]; rfl
    · refine { ns := hns, cells := fun z c e => hcell z c (hcs' ▸ e), apart := fun z y c e1 e2 => ?_, lc := fun z c e => ?_, has := fun z hz => ?_, lm := List.mem_cons_self, cown := fun z c e => hcm z c (hcs' ▸ e), cmine := fun _ z c e => hcm z c (hcs' ▸ e), slots := ?_, own := ?_, dis := ?_ }
      · exact name_of_addr hap (mem_of_lookup (hcs' ▸ e1)) (mem_of_lookup (hcs' ▸ e2))
      · exact Nat.ne_of_gt (hab z c (mem_of_lookup (hcs' ▸ e)))
      · rcases hz with hz | hz
        · have := cellsFrom_has fd.scope.names (s.heap.objs.size + 1) [] hz
          exact Option.isSome_iff_exists.mp this
        · have hz : fd.scope.names.lookup z = some .free := hz
          have := List.all_eq_true.mp hnf _ (mem_of_lookup hz)
          simp at this
      · intro z sl hz
        simp only [find] at hz
        by_cases hzp : Str.ofString p = z
        · rw [if_pos hzp] at hz
          cases hz
          subst hzp
          refine ⟨w, .inl ?_, hr.mono le0⟩
          unfold valAt
          have hkp' : (fnCx W (A.deeper (fnEnv fd.scope s.heap.objs.size a (fd.qualname ++ ".<locals>.") fd.code)) fd.scope s.heap.objs.size a (fd.qualname ++ ".<locals>.") fd.code).env.kindOf (Str.ofString p) = some .local := hpl
          rw [hkp']
          show bindL _ [(Str.ofString p, w)] _ (Str.ofString p) = some w
          unfold bindL bindL
          rw [if_pos hkp]; simp
        · rw [if_neg hzp] at hz; cases hz
      · intro z sl b hz ho
        simp only [find] at hz
        split at hz
        · cases hz; cases ho
        · cases hz
      · intro z y sl sl' b hz _ ho
        simp only [find] at hz
        split at hz
        · cases hz; cases ho
        · cases hz
  refine wpAny_mono (walk _ _ _ _ rfl okn [] _ _ _ habs) ?_ fun _ _ x => x.elim
  rintro f s2 ⟨fl, σ2, m2, T2, hK, p2, a2, r2⟩
  have hs2 : ∃ h' tk, s2 = { s with heap := h', toks := tk } := by
    obtain ⟨h', tk', rfl⟩ := p2.same
    exact ⟨h', tk', rfl⟩
  have hkeep : ∀ b o, s.heap.get? b = some o → s2.heap.get? b = some o := fun b o e => view_of (p2.le.ob b o (le0.ob b o e))
  cases r2 with
  | next => cases hK
  | brk => cases hK
  | cont => cases hK
  | ret r =>
    have hK : _ = V.bool true := hK
    subst hK
    cases r
    exact hQ s2 hs2 hkeep
end Sx
end
section
open PySem PySem.W PyProof.Rows PySem.Calls
set_option linter.unusedVariables false
set_option Elab.async false
set_option maxRecDepth 100000
namespace Sx
local macro_rules | `(tactic| walk_at "sxf") => `(tactic| first | with_reducible assumption | with_reducible exact find_hit | ((with_reducible refine find_miss ?hm ?_); (case hm => rfl); walk_at "sxf") | rfl | (simp only [mkSt, List.zip_cons_cons, List.zip_nil_right, List.map_cons, List.map_nil, List.cons_append, List.nil_append, put_cons, put_nil, find_putS, find_cons, String.reduceEq, if_true, if_false] <;> first | rfl | assumption))
local macro_rules | `(tactic| walk_at "sxg") => `(tactic| first | assumption | decide | omega)
noncomputable abbrev F05 (w : World) : Frag := K05 w.params
structure In05 (C : Cx) : Prop where
  hF : (F05 C.W.w).In C.W.h₀
  hG : C.W.gls = [("dict_replace_saxutils", .ref 21), ("escape", .ref 30), ("unescape", .ref 39), ("quoteattr", .ref 48), ("_law_table", .ref 55), ("_law_refused", .ref 62), ("_law_read", .ref 69), ("_law_written", .ref 74), ("_law_quoted", .ref 81), ("_law_told", .ref 88), ("isinstance", .builtin "isinstance"), ("len", .builtin "len"), ("sum", .builtin "sum"), ("dict", .type "dict"), ("bytes", .type "bytes"), ("str", .type "str"), ("list", .type "list"), ("TypeError", .type "TypeError"), ("AttributeError", .type "AttributeError")]
theorem nb05 {C : Cx} (I : In05 C) : NoneBooked C.W.h₀ := ⟨fun _ => none, ⟨_, #[], _, I.hF 2 _ rfl, rfl, (by intro i h; simp at h), fun _ => rfl⟩, rfl⟩
theorem tabV_items (es : List (S × S)) : seqOf (.items (tabV es)) = some (es.map fun p => V.tup [.str p.1, .str p.2]) := by
  simp [seqOf, tabV, Key.v]
theorem c_dictrep {C : Cx} {n : Nat} (ok : C.Ok (n + 1)) (I : In05 C) {x : S} {es : List (S × S)} (h : RepOkG es x) :
    OpL C (Rep C.W) (fun ws => call (.ref 21) ws) [.str x, .dct (tabV es)] (fun v => v = .str (reps es x)) := by
  refine fn_callQ ok (fnAt_of (a := 21) I.hF (by rfl) (by rfl) (by rfl) (by rfl) (by rfl) (by rfl) (by rfl) (by rfl) (by rfl)) (ps := ["s", "d"]) (dvs := []) (ds := []) ?_ (fun _ _ _ _ => .nil) (by decide) (by rfl) fun A L q cd Q hQ okn => ?_
  · exact fun s ws _ hl => binds_plain (n := 2) (fun ws hl => by
      obtain ⟨a, b, rfl⟩ := len2 hl
      rfl) s ws hl
  refine exs_cons (ex_for okn ?_)
  ((with_reducible refine ev_meth ?_ ?h1_14 ?h2_14 ?h3_14 ?h4_14); (case h1_14 => rfl); (case h2_14 => rfl); (case h3_14 => rfl); (case h4_14 => rfl); (with_reducible refine ev_name (v := ?vv_15) (by assumption) ?hf_15 ?_ ?hn_15 ?hd_15); (case hf_15 => walk_at "sxf"); (case hn_15 => decide); (case hd_15 => decide); (with_reducible refine ⟨_, _, methOk_dct PySem.F.slot_dict_items PySem.F.type_dict_items, ?_⟩); (with_reducible refine evL_nil ?_); (with_reducible refine opL_items ?_))
  refine ⟨_, tabV_items es, rfl, ?_⟩
  refine loop_listQ (fun p : S × S => V.tup [.str p.1, .str p.2]) es (fun i σ => RepOkG (es.drop i) (reps (es.take i) x) ∧ find σ (Str.ofString "s") = some (.val (.str (reps (es.take i) x)))) ?_ ?_ ⟨h, by walk_at "sxf"⟩ rfl
  · rintro i ⟨k, z⟩ σ Q1 hQ1 hx ⟨hr, f1⟩
    have hi := (List.getElem?_eq_some_iff.mp hx).1
    have e := List.drop_eq_getElem_cons hi
    have e2 : es[i] = (k, z) := (List.getElem?_eq_some_iff.mp hx).2
    rw [e, e2] at hr
    have e3 : reps (es.take (i + 1)) x = repl k z (reps (es.take i) x) := by
      rw [List.take_add_one, hx, reps_append]; rfl
    refine asg_tuple okn (asgL_cons (asg_name okn (by rfl) (asgL_cons (asg_name okn (by rfl) (asgL_nil ?_))))) (by rfl) (by rfl)
    ((refine exs_cons ?_); (with_reducible refine ex_assign (by assumption) ?hx_1 ?hs_1 ?_); (case hx_1 => kernel_rfl); (case hs_1 => exact swaps_no (by rfl)))
    ((with_reducible refine ev_meth ?_ ?h1_19 ?h2_19 ?h3_19 ?h4_19); (case h1_19 => rfl); (case h2_19 => rfl); (case h3_19 => rfl); (case h4_19 => rfl); (with_reducible refine ev_name (v := ?vv_20) (by assumption) ?hf_20 ?_ ?hn_20 ?hd_20); (case hf_20 => walk_at "sxf"); (case hn_20 => decide); (case hd_20 => decide); (with_reducible refine ⟨_, _, methOk_str PySem.F.slot_str_replace PySem.F.type_str_replace, ?_⟩); (with_reducible refine evL_cons ?_ ?hs_22); (case hs_22 => rfl); (with_reducible refine ev_name (v := ?vv_23) (by assumption) ?hf_23 ?_ ?hn_23 ?hd_23); (case hf_23 => walk_at "sxf"); (case hn_23 => decide); (case hd_23 => decide); (with_reducible refine evL_cons ?_ ?hs_24); (case hs_24 => rfl); (with_reducible refine ev_name (v := ?vv_25) (by assumption) ?hf_25 ?_ ?hn_25 ?hd_25); (case hf_25 => walk_at "sxf"); (case hn_25 => decide); (case hd_25 => decide); (with_reducible refine evL_nil ?_))
    refine opL_replaceG (by exact nb05 ⟨I.hF, I.hG⟩) hr.1 ?_
    refine exs_nil (hQ1 _ ⟨?_, ?_⟩)
    · rw [e3]; exact hr.2
    · rw [e3]; walk_at "sxf"
  · rintro σ ⟨_, f1⟩
    rw [List.take_length] at f1
    refine exs_nil ?_
    ((refine exs_cons ?_); (with_reducible refine ex_return ?_))
    ((with_reducible refine ev_name (v := ?vv_27) (by assumption) ?hf_27 ?_ ?hn_27 ?hd_27); (case hf_27 => walk_at "sxf"); (case hn_27 => decide); (case hd_27 => decide))
    exact hQ _ _ rfl
theorem esc_body {W : Wd} {A : Around} {L : Addr} {q : Str} {cd : Value} {n : Nat} (okn : (fnCx W A (fdAt (F05 W.w) 30).scope L 30 q cd).Ok (n + 1)) (I : In05 (fnCx W A (fdAt (F05 W.w) 30).scope L 30 q cd)) {x : S} {v : V} {es : List (S × S)} (hv : v = .dct (tabV es) ∨ (es = [] ∧ truV v = false)) (hv2 : TruV v) (h : RepOkG (esc5 ++ es) x) {Q : Fl → St → Prop} (hQ : ∀ σ', Q (.ret (.str (reps (esc5 ++ es) x))) σ') :
    Exs (fnCx W A (fdAt (F05 W.w) 30).scope L 30 q cd) (mkSt ["data", "entities"] [.str x, v]) (bdAt (F05 W.w) 30) Q := by
  have hG : (fnCx W A (fdAt (F05 W.w) 30).scope L 30 q cd).W.gls = _ := I.hG
  obtain ⟨a2, b2, c2, h4⟩ := h
  ((refine exs_cons ?_); (with_reducible refine ex_assign (by assumption) ?hx_2 ?hs_2 ?_); (case hx_2 => kernel_rfl); (case hs_2 => exact swaps_no (by rfl)))
  ((with_reducible refine ev_meth ?_ ?h1_28 ?h2_28 ?h3_28 ?h4_28); (case h1_28 => rfl); (case h2_28 => rfl); (case h3_28 => rfl); (case h4_28 => rfl); (with_reducible refine ev_name (v := ?vv_29) (by assumption) ?hf_29 ?_ ?hn_29 ?hd_29); (case hf_29 => walk_at "sxf"); (case hn_29 => decide); (case hd_29 => decide); (with_reducible refine ⟨_, _, methOk_str PySem.F.slot_str_replace PySem.F.type_str_replace, ?_⟩); (with_reducible refine evL_cons ?_ ?hs_31); (case hs_31 => rfl); (with_reducible refine ev_str ?_); (with_reducible refine evL_cons ?_ ?hs_33); (case hs_33 => rfl); (with_reducible refine ev_str ?_); (with_reducible refine evL_nil ?_))
  refine opL_replaceG (by exact nb05 ⟨I.hF, I.hG⟩) a2 ?_
  ((refine exs_cons ?_); (with_reducible refine ex_assign (by assumption) ?hx_3 ?hs_3 ?_); (case hx_3 => kernel_rfl); (case hs_3 => exact swaps_no (by rfl)))
  ((with_reducible refine ev_meth ?_ ?h1_36 ?h2_36 ?h3_36 ?h4_36); (case h1_36 => rfl); (case h2_36 => rfl); (case h3_36 => rfl); (case h4_36 => rfl); (with_reducible refine ev_name (v := ?vv_37) (by assumption) ?hf_37 ?_ ?hn_37 ?hd_37); (case hf_37 => walk_at "sxf"); (case hn_37 => decide); (case hd_37 => decide); (with_reducible refine ⟨_, _, methOk_str PySem.F.slot_str_replace PySem.F.type_str_replace, ?_⟩); (with_reducible refine evL_cons ?_ ?hs_39); (case hs_39 => rfl); (with_reducible refine ev_str ?_); (with_reducible refine evL_cons ?_ ?hs_41); (case hs_41 => rfl); (with_reducible refine ev_str ?_); (with_reducible refine evL_nil ?_))
  refine opL_replaceG (by exact nb05 ⟨I.hF, I.hG⟩) b2 ?_
  ((refine exs_cons ?_); (with_reducible refine ex_assign (by assumption) ?hx_4 ?hs_4 ?_); (case hx_4 => kernel_rfl); (case hs_4 => exact swaps_no (by rfl)))
  ((with_reducible refine ev_meth ?_ ?h1_44 ?h2_44 ?h3_44 ?h4_44); (case h1_44 => rfl); (case h2_44 => rfl); (case h3_44 => rfl); (case h4_44 => rfl); (with_reducible refine ev_name (v := ?vv_45) (by assumption) ?hf_45 ?_ ?hn_45 ?hd_45); (case hf_45 => walk_at "sxf"); (case hn_45 => decide); (case hd_45 => decide); (with_reducible refine ⟨_, _, methOk_str PySem.F.slot_str_replace PySem.F.type_str_replace, ?_⟩); (with_reducible refine evL_cons ?_ ?hs_47); (case hs_47 => rfl); (with_reducible refine ev_str ?_); (with_reducible refine evL_cons ?_ ?hs_49); (case hs_49 => rfl); (with_reducible refine ev_str ?_); (with_reducible refine evL_nil ?_))
  refine opL_replaceG (by exact nb05 ⟨I.hF, I.hG⟩) c2 ?_
  refine exs_cons (ex_if (tst_val ?_))
  ((with_reducible refine ev_name (v := ?vv_52) (by assumption) ?hf_52 ?_ ?hn_52 ?hd_52); (case hf_52 => walk_at "sxf"); (case hn_52 => decide); (case hd_52 => decide))
  refine truthy_V hv2 ⟨fun ht => ?_, fun hf => ?_⟩
  · rcases hv with rfl | ⟨_, hv⟩
    · ((refine exs_cons ?_); (with_reducible refine ex_assign (by assumption) ?hx_5 ?hs_5 ?_); (case hx_5 => kernel_rfl); (case hs_5 => exact swaps_no (by rfl)))
      refine ev_fn okn hG (by kernel_rfl) (by rfl) (callee_of (fnAt_of (a := 21) I.hF (by rfl) (by rfl) (by rfl) (by rfl) (by rfl) (by rfl) (by rfl) (by rfl) (by rfl))) ?_ (by rfl) (by rfl) (by decide)
      ((with_reducible refine evL_cons ?_ ?hs_53); (case hs_53 => rfl); (with_reducible refine ev_name (v := ?vv_54) (by assumption) ?hf_54 ?_ ?hn_54 ?hd_54); (case hf_54 => walk_at "sxf"); (case hn_54 => decide); (case hd_54 => decide); (with_reducible refine evL_cons ?_ ?hs_55); (case hs_55 => rfl); (with_reducible refine ev_name (v := ?vv_56) (by assumption) ?hf_56 ?_ ?hn_56 ?hd_56); (case hf_56 => walk_at "sxf"); (case hn_56 => decide); (case hd_56 => decide); (with_reducible refine evL_nil ?_))
      refine OpL.eq (c_dictrep okn ⟨I.hF, I.hG⟩ h4) ?_
      refine exs_nil ?_
      ((refine exs_cons ?_); (with_reducible refine ex_return ?_))
      ((with_reducible refine ev_name (v := ?vv_58) (by assumption) ?hf_58 ?_ ?hn_58 ?hd_58); (case hf_58 => walk_at "sxf"); (case hn_58 => decide); (case hd_58 => decide))
      exact hQ _
    · rw [hv] at ht; cases ht
  · have he : es = [] := by
      rcases hv with rfl | ⟨he, _⟩
      · cases es with
        | nil => rfl
        | cons => cases hf
      · exact he
    subst he
    refine exs_nil ?_
    ((refine exs_cons ?_); (with_reducible refine ex_return ?_))
    ((with_reducible refine ev_name (v := ?vv_59) (by assumption) ?hf_59 ?_ ?hn_59 ?hd_59); (case hf_59 => walk_at "sxf"); (case hn_59 => decide); (case hd_59 => decide))
    exact hQ _
theorem c_escape {C : Cx} {n : Nat} (ok : C.Ok (n + 2)) (I : In05 C) {x : S} {v : V} {es : List (S × S)} (hv : v = .dct (tabV es) ∨ (es = [] ∧ truV v = false)) (hv2 : TruV v) (h : RepOkG (esc5 ++ es) x) :
    OpL C (Rep C.W) (fun ws => call (.ref 30) ws) [.str x, v] (fun v => v = .str (reps (esc5 ++ es) x)) := by
  refine fn_callQ ok (fnAt_of (a := 30) I.hF (by rfl) (by rfl) (by rfl) (by rfl) (by rfl) (by rfl) (by rfl) (by rfl) (by rfl)) (ps := ["data", "entities"]) (dvs := []) (ds := []) ?_ (fun _ _ _ _ => .nil) (by decide) (by rfl) fun A L q cd Q hQ okn => ?_
  · intro s ws hk hl
    rw [List.append_nil]
    obtain ⟨a, b, rfl⟩ := len2 hl
    exact BindsTo.of_defaults (T := 23) rfl (hk _ _ (I.hF 23 _ rfl)) rfl rfl rfl
  · exact esc_body okn ⟨I.hF, I.hG⟩ hv hv2 h fun σ' => hQ _ _ rfl
theorem c_escape1 {C : Cx} {n : Nat} (ok : C.Ok (n + 2)) (I : In05 C) {x : S} (h : RepOkG (esc5 ++ []) x) :
    OpL C (Rep C.W) (fun ws => call (.ref 30) ws) [.str x] (fun v => v = .str (reps (esc5 ++ []) x)) := by
  refine fn_callQ ok (fnAt_of (a := 30) I.hF (by rfl) (by rfl) (by rfl) (by rfl) (by rfl) (by rfl) (by rfl) (by rfl) (by rfl)) (ps := ["data", "entities"]) (dvs := [.dct []]) (ds := [.ref 22]) ?_ ?_ (by decide) (by rfl) fun A L q cd Q hQ okn => ?_
  · intro s ws hk hl
    obtain ⟨a, rfl⟩ := len1 hl
    exact BindsTo.of_defaults (T := 23) rfl (hk _ _ (I.hF 23 _ rfl)) rfl rfl rfl
  · intro own T s hO
    exact .cons (.dct (ds := []) (kvs := []) (n := 0) (hO.base 22 _ (I.hF 22 _ rfl)) (by decide) ⟨rfl, rfl, rfl⟩ rfl .nil List.nodup_nil) .nil
  · exact esc_body (es := []) okn ⟨I.hF, I.hG⟩ (.inl rfl) (.dct _ (Nat.zero_le _)) h fun σ' => hQ _ _ rfl
theorem un_body {W : Wd} {A : Around} {L : Addr} {q : Str} {cd : Value} {n : Nat} (okn : (fnCx W A (fdAt (F05 W.w) 39).scope L 39 q cd).Ok (n + 1)) (I : In05 (fnCx W A (fdAt (F05 W.w) 39).scope L 39 q cd)) {x : S} {v : V} {es : List (S × S)} (hv : v = .dct (tabV es) ∨ (es = [] ∧ truV v = false)) (hv2 : TruV v) (h : RepOkG (un5 ++ (es ++ amp5)) x) {Q : Fl → St → Prop} (hQ : ∀ σ', Q (.ret (.str (reps (un5 ++ (es ++ amp5)) x))) σ') :
    Exs (fnCx W A (fdAt (F05 W.w) 39).scope L 39 q cd) (mkSt ["data", "entities"] [.str x, v]) (bdAt (F05 W.w) 39) Q := by
  have hG : (fnCx W A (fdAt (F05 W.w) 39).scope L 39 q cd).W.gls = _ := I.hG
  obtain ⟨a2, b2, h4⟩ := h
  have h4 : RepOkG (es ++ amp5) _ := h4
  obtain ⟨h5, h6⟩ := (repOkG_append es amp5 _).mp h4
  have h7 := h6.1
  ((refine exs_cons ?_); (with_reducible refine ex_assign (by assumption) ?hx_6 ?hs_6 ?_); (case hx_6 => kernel_rfl); (case hs_6 => exact swaps_no (by rfl)))
  ((with_reducible refine ev_meth ?_ ?h1_60 ?h2_60 ?h3_60 ?h4_60); (case h1_60 => rfl); (case h2_60 => rfl); (case h3_60 => rfl); (case h4_60 => rfl); (with_reducible refine ev_name (v := ?vv_61) (by assumption) ?hf_61 ?_ ?hn_61 ?hd_61); (case hf_61 => walk_at "sxf"); (case hn_61 => decide); (case hd_61 => decide); (with_reducible refine ⟨_, _, methOk_str PySem.F.slot_str_replace PySem.F.type_str_replace, ?_⟩); (with_reducible refine evL_cons ?_ ?hs_63); (case hs_63 => rfl); (with_reducible refine ev_str ?_); (with_reducible refine evL_cons ?_ ?hs_65); (case hs_65 => rfl); (with_reducible refine ev_str ?_); (with_reducible refine evL_nil ?_))
  refine opL_replaceG (by exact nb05 ⟨I.hF, I.hG⟩) a2 ?_
  ((refine exs_cons ?_); (with_reducible refine ex_assign (by assumption) ?hx_7 ?hs_7 ?_); (case hx_7 => kernel_rfl); (case hs_7 => exact swaps_no (by rfl)))
  ((with_reducible refine ev_meth ?_ ?h1_68 ?h2_68 ?h3_68 ?h4_68); (case h1_68 => rfl); (case h2_68 => rfl); (case h3_68 => rfl); (case h4_68 => rfl); (with_reducible refine ev_name (v := ?vv_69) (by assumption) ?hf_69 ?_ ?hn_69 ?hd_69); (case hf_69 => walk_at "sxf"); (case hn_69 => decide); (case hd_69 => decide); (with_reducible refine ⟨_, _, methOk_str PySem.F.slot_str_replace PySem.F.type_str_replace, ?_⟩); (with_reducible refine evL_cons ?_ ?hs_71); (case hs_71 => rfl); (with_reducible refine ev_str ?_); (with_reducible refine evL_cons ?_ ?hs_73); (case hs_73 => rfl); (with_reducible refine ev_str ?_); (with_reducible refine evL_nil ?_))
  refine opL_replaceG (by exact nb05 ⟨I.hF, I.hG⟩) b2 ?_
  refine exs_cons (ex_if (tst_val ?_))
  ((with_reducible refine ev_name (v := ?vv_76) (by assumption) ?hf_76 ?_ ?hn_76 ?hd_76); (case hf_76 => walk_at "sxf"); (case hn_76 => decide); (case hd_76 => decide))
  refine truthy_V hv2 ⟨fun ht => ?_, fun hf => ?_⟩
  · rcases hv with rfl | ⟨_, hv⟩
    · ((refine exs_cons ?_); (with_reducible refine ex_assign (by assumption) ?hx_8 ?hs_8 ?_); (case hx_8 => kernel_rfl); (case hs_8 => exact swaps_no (by rfl)))
      refine ev_fn okn hG (by kernel_rfl) (by rfl) (callee_of (fnAt_of (a := 21) I.hF (by rfl) (by rfl) (by rfl) (by rfl) (by rfl) (by rfl) (by rfl) (by rfl) (by rfl))) ?_ (by rfl) (by rfl) (by decide)
      ((with_reducible refine evL_cons ?_ ?hs_77); (case hs_77 => rfl); (with_reducible refine ev_name (v := ?vv_78) (by assumption) ?hf_78 ?_ ?hn_78 ?hd_78); (case hf_78 => walk_at "sxf"); (case hn_78 => decide); (case hd_78 => decide); (with_reducible refine evL_cons ?_ ?hs_79); (case hs_79 => rfl); (with_reducible refine ev_name (v := ?vv_80) (by assumption) ?hf_80 ?_ ?hn_80 ?hd_80); (case hf_80 => walk_at "sxf"); (case hn_80 => decide); (case hd_80 => decide); (with_reducible refine evL_nil ?_))
      refine OpL.eq (c_dictrep okn ⟨I.hF, I.hG⟩ h5) ?_
      refine exs_nil ?_
      ((refine exs_cons ?_); (with_reducible refine ex_return ?_))
      ((with_reducible refine ev_meth ?_ ?h1_82 ?h2_82 ?h3_82 ?h4_82); (case h1_82 => rfl); (case h2_82 => rfl); (case h3_82 => rfl); (case h4_82 => rfl); (with_reducible refine ev_name (v := ?vv_83) (by assumption) ?hf_83 ?_ ?hn_83 ?hd_83); (case hf_83 => walk_at "sxf"); (case hn_83 => decide); (case hd_83 => decide); (with_reducible refine ⟨_, _, methOk_str PySem.F.slot_str_replace PySem.F.type_str_replace, ?_⟩); (with_reducible refine evL_cons ?_ ?hs_85); (case hs_85 => rfl); (with_reducible refine ev_str ?_); (with_reducible refine evL_cons ?_ ?hs_87); (case hs_87 => rfl); (with_reducible refine ev_str ?_); (with_reducible refine evL_nil ?_))
      refine opL_replaceG (by exact nb05 ⟨I.hF, I.hG⟩) h7 ?_
      have := hQ
      rw [reps_append, reps_append] at this
      exact this _
    · rw [hv] at ht; cases ht
  · have he : es = [] := by
      rcases hv with rfl | ⟨he, _⟩
      · cases es with
        | nil => rfl
        | cons => cases hf
      · exact he
    subst he
    refine exs_nil ?_
    ((refine exs_cons ?_); (with_reducible refine ex_return ?_))
    ((with_reducible refine ev_meth ?_ ?h1_90 ?h2_90 ?h3_90 ?h4_90); (case h1_90 => rfl); (case h2_90 => rfl); (case h3_90 => rfl); (case h4_90 => rfl); (with_reducible refine ev_name (v := ?vv_91) (by assumption) ?hf_91 ?_ ?hn_91 ?hd_91); (case hf_91 => walk_at "sxf"); (case hn_91 => decide); (case hd_91 => decide); (with_reducible refine ⟨_, _, methOk_str PySem.F.slot_str_replace PySem.F.type_str_replace, ?_⟩); (with_reducible refine evL_cons ?_ ?hs_93); (case hs_93 => rfl); (with_reducible refine ev_str ?_); (with_reducible refine evL_cons ?_ ?hs_95); (case hs_95 => rfl); (with_reducible refine ev_str ?_); (with_reducible refine evL_nil ?_))
    exact opL_replaceG (by exact nb05 ⟨I.hF, I.hG⟩) h7 (hQ _)
theorem c_unescape {C : Cx} {n : Nat} (ok : C.Ok (n + 2)) (I : In05 C) {x : S} {v : V} {es : List (S × S)} (hv : v = .dct (tabV es) ∨ (es = [] ∧ truV v = false)) (hv2 : TruV v) (h : RepOkG (un5 ++ (es ++ amp5)) x) :
    OpL C (Rep C.W) (fun ws => call (.ref 39) ws) [.str x, v] (fun v => v = .str (reps (un5 ++ (es ++ amp5)) x)) := by
  refine fn_callQ ok (fnAt_of (a := 39) I.hF (by rfl) (by rfl) (by rfl) (by rfl) (by rfl) (by rfl) (by rfl) (by rfl) (by rfl)) (ps := ["data", "entities"]) (dvs := []) (ds := []) ?_ (fun _ _ _ _ => .nil) (by decide) (by rfl) fun A L q cd Q hQ okn => ?_
  · intro s ws hk hl
    rw [List.append_nil]
    obtain ⟨a, b, rfl⟩ := len2 hl
    exact BindsTo.of_defaults (T := 32) rfl (hk _ _ (I.hF 32 _ rfl)) rfl rfl rfl
  · exact un_body okn ⟨I.hF, I.hG⟩ hv hv2 h fun σ' => hQ _ _ rfl
theorem c_unescape1 {C : Cx} {n : Nat} (ok : C.Ok (n + 2)) (I : In05 C) {x : S} (h : RepOkG (un5 ++ ([] ++ amp5)) x) :
    OpL C (Rep C.W) (fun ws => call (.ref 39) ws) [.str x] (fun v => v = .str (reps (un5 ++ ([] ++ amp5)) x)) := by
  refine fn_callQ ok (fnAt_of (a := 39) I.hF (by rfl) (by rfl) (by rfl) (by rfl) (by rfl) (by rfl) (by rfl) (by rfl) (by rfl)) (ps := ["data", "entities"]) (dvs := [.dct []]) (ds := [.ref 31]) ?_ ?_ (by decide) (by rfl) fun A L q cd Q hQ okn => ?_
  · intro s ws hk hl
    obtain ⟨a, rfl⟩ := len1 hl
    exact BindsTo.of_defaults (T := 32) rfl (hk _ _ (I.hF 32 _ rfl)) rfl rfl rfl
  · intro own T s hO
    exact .cons (.dct (ds := []) (kvs := []) (n := 0) (hO.base 31 _ (I.hF 31 _ rfl)) (by decide) ⟨rfl, rfl, rfl⟩ rfl .nil List.nodup_nil) .nil
  · exact un_body (es := []) okn ⟨I.hF, I.hG⟩ (.inl rfl) (.dct _ (Nat.zero_le _)) h fun σ' => hQ _ _ rfl
theorem quo_body {W : Wd} {A : Around} {L : Addr} {q : Str} {cd : Value} {n : Nat} (okn : (fnCx W A (fdAt (F05 W.w) 48).scope L 48 q cd).Ok (n + 2)) (I : In05 (fnCx W A (fdAt (F05 W.w) 48).scope L 48 q cd)) {x : S} {ev : List (Key × V)} {es : List (S × S)} (hev : dsets (dsets [] ev) (tabV own5) = tabV es) (hl : ev.length ≤ 1000) (hel : es.length ≤ 1000) (h : RepOkG (esc5 ++ es) x)
    {b : S} (hb : b = reps (esc5 ++ es) x) (hbl : b.length ≤ 2000000) {Q : Fl → St → Prop} (hQ : ∀ σ', Q (.ret (.str (quo5 b))) σ') :
    Exs (fnCx W A (fdAt (F05 W.w) 48).scope L 48 q cd) (mkSt ["data", "entities"] [.str x, .dct ev]) (bdAt (F05 W.w) 48) Q := by
  have hG : (fnCx W A (fdAt (F05 W.w) 48).scope L 48 q cd).W.gls = _ := I.hG
  have hsz : sizeLine = 16777216 := sizeLine_eq
  refine exs_cons (ex_assignN okn (by rfl) (by rfl) (evF_dictStarE okn ?_ (by rfl) (by rfl) (by rfl) (by exact (by decide : 3 ≤ 15))))
  ((with_reducible refine ev_name (v := ?vv_9) (by assumption) ?hf_9 ?_ ?hn_9 ?hd_9); (case hf_9 => walk_at "sxf"); (case hn_9 => decide); (case hd_9 => decide))
  refine ⟨_, rfl, by show ev.length + 3 ≤ _; omega, ?_⟩
  iterate 3 ((with_reducible refine evD_cons ?_); (with_reducible refine ev_str ?_); (refine ⟨.s _, rfl, ?_⟩); (with_reducible refine ev_str ?_))
  refine evD_nil fun a => ?_
  rw [show dsets [] ([] ++ [(Key.s (lit "\n"), V.str (lit "&#10;"))] ++ [(Key.s (lit "\r"), V.str (lit "&#13;"))] ++ [(Key.s (lit "\t"), V.str (lit "&#9;"))]) = tabV own5 from rfl, hev]
  refine Tr.freeze (x := "entities") (by walk_at "sxf") rfl ?_ (by decide)
  ((refine exs_cons ?_); (with_reducible refine ex_assign (by assumption) ?hx_1 ?hs_1 ?_); (case hx_1 => kernel_rfl); (case hs_1 => exact swaps_no (by rfl)))
  refine ev_fn okn hG (by kernel_rfl) (by rfl) (callee_of (fnAt_of (a := 30) I.hF (by rfl) (by rfl) (by rfl) (by rfl) (by rfl) (by rfl) (by rfl) (by rfl) (by rfl))) ?_ (by rfl) (by rfl) (by decide)
  ((with_reducible refine evL_cons ?_ ?hs_10); (case hs_10 => rfl); (with_reducible refine ev_name (v := ?vv_11) (by assumption) ?hf_11 ?_ ?hn_11 ?hd_11); (case hf_11 => walk_at "sxf"); (case hn_11 => decide); (case hd_11 => decide); (with_reducible refine evL_cons ?_ ?hs_12); (case hs_12 => rfl); (with_reducible refine ev_name (v := ?vv_13) (by assumption) ?hf_13 ?_ ?hn_13 ?hd_13); (case hf_13 => walk_at "sxf"); (case hn_13 => decide); (case hd_13 => decide); (with_reducible refine evL_nil ?_))
  refine OpL.eq (c_escape okn ⟨I.hF, I.hG⟩ (.inl rfl) (.dct _ (by rw [tabV_length]; omega)) h) ?_
  rw [← hb]
  refine exs_cons (ex_if (tst_cmp ?_ (by with_unfolding_all rfl)))
  ((with_reducible refine ev_str ?_); (with_reducible refine ev_name (v := ?vv_16) (by assumption) ?hf_16 ?_ ?hn_16 ?hd_16); (case hf_16 => walk_at "sxf"); (case hn_16 => decide); (case hd_16 => decide); (with_reducible refine op_in_str ?_); (with_reducible refine exB ?_))
  refine ⟨fun h1 => ?_, fun h1 => ?_⟩
  · refine exs_cons (ex_if (tst_cmp ?_ (by with_unfolding_all rfl)))
    ((with_reducible refine ev_str ?_); (with_reducible refine ev_name (v := ?vv_20) (by assumption) ?hf_20 ?_ ?hn_20 ?hd_20); (case hf_20 => walk_at "sxf"); (case hn_20 => decide); (case hd_20 => decide); (with_reducible refine op_in_str ?_); (with_reducible refine exB ?_))
    refine ⟨fun h2 => ?_, fun h2 => ?_⟩
    · ((refine exs_cons ?_); (with_reducible refine ex_assign (by assumption) ?hx_2 ?hs_2 ?_); (case hx_2 => kernel_rfl); (case hs_2 => exact swaps_no (by rfl)))
      ((with_reducible refine ev_bin ?_); (with_reducible refine ev_str ?_); (with_reducible refine ev_meth ?_ ?h1_25 ?h2_25 ?h3_25 ?h4_25); (case h1_25 => rfl); (case h2_25 => rfl); (case h3_25 => rfl); (case h4_25 => rfl); (with_reducible refine ev_name (v := ?vv_26) (by assumption) ?hf_26 ?_ ?hn_26 ?hd_26); (case hf_26 => walk_at "sxf"); (case hn_26 => decide); (case hd_26 => decide); (with_reducible refine ⟨_, _, methOk_str PySem.F.slot_str_replace PySem.F.type_str_replace, ?_⟩); (with_reducible refine evL_cons ?_ ?hs_28); (case hs_28 => rfl); (with_reducible refine ev_str ?_); (with_reducible refine evL_cons ?_ ?hs_30); (case hs_30 => rfl); (with_reducible refine ev_str ?_); (with_reducible refine evL_nil ?_))
      have hq := repl_len (lit "\"") (lit "&quot;") b
      have hq6 : (lit "&quot;").length = 6 := rfl
      rw [hq6] at hq
      refine opL_replaceG (by exact nb05 ⟨I.hF, I.hG⟩) (by rw [hq6]; omega) ?_
      refine op_mod_str (c := 34) (.inl rfl) (by omega) ?_
      refine exs_nil (exs_nil ?_)
      ((refine exs_cons ?_); (with_reducible refine ex_return ?_))
      ((with_reducible refine ev_name (v := ?vv_33) (by assumption) ?hf_33 ?_ ?hn_33 ?hd_33); (case hf_33 => walk_at "sxf"); (case hn_33 => decide); (case hd_33 => decide))
      have := hQ
      unfold quo5 at this
      rw [if_pos (show hasSub [34] b = true from h1), if_pos (show hasSub [39] b = true from h2)] at this
      exact this _
    · ((refine exs_cons ?_); (with_reducible refine ex_assign (by assumption) ?hx_3 ?hs_3 ?_); (case hx_3 => kernel_rfl); (case hs_3 => exact swaps_no (by rfl)))
      ((with_reducible refine ev_bin ?_); (with_reducible refine ev_str ?_); (with_reducible refine ev_name (v := ?vv_36) (by assumption) ?hf_36 ?_ ?hn_36 ?hd_36); (case hf_36 => walk_at "sxf"); (case hn_36 => decide); (case hd_36 => decide))
      refine op_mod_str (c := 39) (.inr rfl) (by omega) ?_
      refine exs_nil (exs_nil ?_)
      ((refine exs_cons ?_); (with_reducible refine ex_return ?_))
      ((with_reducible refine ev_name (v := ?vv_37) (by assumption) ?hf_37 ?_ ?hn_37 ?hd_37); (case hf_37 => walk_at "sxf"); (case hn_37 => decide); (case hd_37 => decide))
      have := hQ
      unfold quo5 at this
      rw [if_pos (show hasSub [34] b = true from h1), if_neg (by rw [show hasSub [39] b = false from h2]; decide)] at this
      exact this _
  · ((refine exs_cons ?_); (with_reducible refine ex_assign (by assumption) ?hx_4 ?hs_4 ?_); (case hx_4 => kernel_rfl); (case hs_4 => exact swaps_no (by rfl)))
    ((with_reducible refine ev_bin ?_); (with_reducible refine ev_str ?_); (with_reducible refine ev_name (v := ?vv_40) (by assumption) ?hf_40 ?_ ?hn_40 ?hd_40); (case hf_40 => walk_at "sxf"); (case hn_40 => decide); (case hd_40 => decide))
    refine op_mod_str (c := 34) (.inl rfl) (by omega) ?_
    refine exs_nil ?_
    ((refine exs_cons ?_); (with_reducible refine ex_return ?_))
    ((with_reducible refine ev_name (v := ?vv_41) (by assumption) ?hf_41 ?_ ?hn_41 ?hd_41); (case hf_41 => walk_at "sxf"); (case hn_41 => decide); (case hd_41 => decide))
    have := hQ
    unfold quo5 at this
    rw [if_neg (by rw [show hasSub [34] b = false from h1]; decide)] at this
    exact this _
theorem c_quoteattr {C : Cx} {n : Nat} (ok : C.Ok (n + 3)) (I : In05 C) {x : S} {ev : List (Key × V)} {es : List (S × S)} (hev : dsets (dsets [] ev) (tabV own5) = tabV es) (hl : ev.length ≤ 1000) (hel : es.length ≤ 1000) (h : RepOkG (esc5 ++ es) x) (hbl : (reps (esc5 ++ es) x).length ≤ 2000000) :
    OpL C (Rep C.W) (fun ws => call (.ref 48) ws) [.str x, .dct ev] (fun v => v = .str (quo5 (reps (esc5 ++ es) x))) := by
  refine fn_callQ ok (fnAt_of (a := 48) I.hF (by rfl) (by rfl) (by rfl) (by rfl) (by rfl) (by rfl) (by rfl) (by rfl) (by rfl)) (ps := ["data", "entities"]) (dvs := []) (ds := []) ?_ (fun _ _ _ _ => .nil) (by decide) (by rfl) fun A L q cd Q hQ okn => ?_
  · intro s ws hk hl
    rw [List.append_nil]
    obtain ⟨a, b, rfl⟩ := len2 hl
    exact BindsTo.of_defaults (T := 41) rfl (hk _ _ (I.hF 41 _ rfl)) rfl rfl rfl
  · exact quo_body okn ⟨I.hF, I.hG⟩ hev hl hel h rfl hbl fun σ' => hQ _ _ rfl
theorem c_quoteattr1 {C : Cx} {n : Nat} (ok : C.Ok (n + 3)) (I : In05 C) {x : S} (h : RepOkG (esc5 ++ own5) x) (hbl : (reps (esc5 ++ own5) x).length ≤ 2000000) :
    OpL C (Rep C.W) (fun ws => call (.ref 48) ws) [.str x] (fun v => v = .str (quo5 (reps (esc5 ++ own5) x))) := by
  refine fn_callQ ok (fnAt_of (a := 48) I.hF (by rfl) (by rfl) (by rfl) (by rfl) (by rfl) (by rfl) (by rfl) (by rfl) (by rfl)) (ps := ["data", "entities"]) (dvs := [.dct []]) (ds := [.ref 40]) ?_ ?_ (by decide) (by rfl) fun A L q cd Q hQ okn => ?_
  · intro s ws hk hl
    obtain ⟨a, rfl⟩ := len1 hl
    exact BindsTo.of_defaults (T := 41) rfl (hk _ _ (I.hF 41 _ rfl)) rfl rfl rfl
  · intro own T s hO
    exact .cons (.dct (ds := []) (kvs := []) (n := 0) (hO.base 40 _ (I.hF 40 _ rfl)) (by decide) ⟨rfl, rfl, rfl⟩ rfl .nil List.nodup_nil) .nil
  · exact quo_body (ev := []) okn ⟨I.hF, I.hG⟩ rfl (Nat.zero_le _) (by decide) h rfl hbl fun σ' => hQ _ _ rfl
/-- a def's call raises -/
noncomputable def RaisesF (C : Cx) (l : List Env) (a : Addr) (vs : List V) (cls : String) : Prop :=
  ∀ own T s ws, OwnOk C own T s → RepL C.W (view own T s) vs ws → FrOk C.A l s → wpAny C.M C.A (call (.ref a) ws) (fun _ _ => False) (fun e s' => Rz l T s cls e s') s
theorem opA_ofR {W : Wd} {A : Around} {scope : Scope} {L a : Addr} {q : Str} {cd : Value} {l : List Env} {T : TM} {s : Shared} {cls : String} (R : RxOk A (fnEnv scope L a q cd) L l s) {b : Addr} {vs : List V} (h : RaisesF (rxCx W A scope L a q cd l T s cls) (fnEnv scope L a q cd :: l) b vs cls) {σ : St} {Q : V → St → Prop} :
    OpA (rxCx W A scope L a q cd l T s cls) σ (fun ws => call (.ref b) ws) vs Q :=
  opA_raise R fun F mine T' s1 ws hAb hr => wpAny_mono (h _ T' s1 ws hAb.ownOk hr (rx_frames R hAb)) (fun _ _ x => x) fun e s' x => .inr x
theorem In05.rx {C : Cx} (I : In05 C) {A : Around} {scope : Scope} {L a : Addr} {q : Str} {cd : Value} {l : List Env} {T : TM} {s : Shared} {cls : String} (k : ∀ b o, C.W.h₀.get? b = some o → s.heap.get? b = some o) : In05 (rxCx C.W A scope L a q cd l T s cls) :=
  ⟨fun a o e => k _ _ (I.hF a o e), I.hG⟩
theorem rep_len : (Str.ofString "replace").length + 100 ≤ sizeLine := by rw [PySem.ofString_length, sizeLine_eq]; decide
theorem items_len : (Str.ofString "items").length + 100 ≤ sizeLine := by rw [PySem.ofString_length, sizeLine_eq]; decide
/-- what has no items -/
theorem r_dictrepA {C : Cx} {n : Nat} (ok : C.Ok (n + 1)) (I : In05 C) {l : List Env} {x d : V} (hd : MissV d) (hm : typeLookup (.type (tyV d)) (Str.ofString "items") = pure none) : RaisesF C l 21 [x, d] "AttributeError" := fun own T s ws hO hr hf => by
  refine fn_callR ok (fnAt_of (a := 21) I.hF (by rfl) (by rfl) (by rfl) (by rfl) (by rfl) (by rfl) (by rfl) (by rfl) (by rfl)) (ps := ["s", "d"]) (vs := [x, d]) ?_ (by decide) (by rfl) (fun A L q cd T s k R okn => ?_) hO hr hf
  · exact fun s ws _ hl => by
      have := binds_plain (fd := fdAt (F05 C.W.w) 21) (ps := ["s", "d"]) (n := 2) (fun ws hl => by
        obtain ⟨a, b, rfl⟩ := len2 hl
        rfl) s ws hl
      rwa [List.append_nil] at this
  refine exs_cons (ex_for okn ?_)
  exact ev_missR R okn.hh (ev_name okn (by walk_at "sxf") ⟨hd, hm⟩ (by decide) (by decide)) (by decide +kernel) items_len (by rfl) (by rfl) (by rfl)
theorem items_all (es : List (Key × V)) : seqOf (.items es) = some (es.map fun p => V.tup [p.1.v, p.2]) := by
  simp [seqOf]
/-- an entry that is no text -/
theorem r_dictrepB {C : Cx} {n : Nat} (ok : C.Ok (n + 1)) (I : In05 C) {l : List Env} {x : S} {es : List (S × S)} {k : Key} {v : V} {post : List (Key × V)} (h : RepOkG es x) (hb : NoTextV k.v ∨ ((∃ y, k.v = .str y) ∧ NoTextV v)) :
    RaisesF C l 21 [.str x, .dct (tabV es ++ (k, v) :: post)] "TypeError" := fun own T s ws hO hr hf => by
  refine fn_callR ok (fnAt_of (a := 21) I.hF (by rfl) (by rfl) (by rfl) (by rfl) (by rfl) (by rfl) (by rfl) (by rfl) (by rfl)) (ps := ["s", "d"]) (vs := [.str x, .dct (tabV es ++ (k, v) :: post)]) ?_ (by decide) (by rfl) (fun A L q cd T s kb R okn => ?_) hO hr hf
  · exact fun s ws _ hl => by
      have := binds_plain (fd := fdAt (F05 C.W.w) 21) (ps := ["s", "d"]) (n := 2) (fun ws hl => by
        obtain ⟨a, b, rfl⟩ := len2 hl
        rfl) s ws hl
      rwa [List.append_nil] at this
  have I' : In05 (rxCx C.W A (fdAt (F05 C.W.w) 21).scope L 21 q cd l T s "TypeError") := I.rx kb
  have hlen : (tabV es).length = es.length := tabV_length es
  refine exs_cons (ex_for okn ?_)
  ((with_reducible refine ev_meth ?_ ?h1_3 ?h2_3 ?h3_3 ?h4_3); (case h1_3 => rfl); (case h2_3 => rfl); (case h3_3 => rfl); (case h4_3 => rfl); (with_reducible refine ev_name (v := ?vv_4) (by assumption) ?hf_4 ?_ ?hn_4 ?hd_4); (case hf_4 => walk_at "sxf"); (case hn_4 => decide); (case hd_4 => decide); (with_reducible refine ⟨_, _, methOk_dct PySem.F.slot_dict_items PySem.F.type_dict_items, ?_⟩); (with_reducible refine evL_nil ?_); (with_reducible refine opL_items ?_))
  refine ⟨_, items_all _, rfl, ?_⟩
  refine loop_listQ (fun p : Key × V => V.tup [p.1.v, p.2]) (tabV es ++ (k, v) :: post) (fun i σ => i ≤ es.length ∧ RepOkG (es.drop i) (reps (es.take i) x) ∧ find σ (Str.ofString "s") = some (.val (.str (reps (es.take i) x)))) ?_ ?_ ⟨Nat.zero_le _, h, by walk_at "sxf"⟩ rfl
  · rintro i ⟨k', z'⟩ σ Q1 hQ1 hx ⟨hi0, hr, f1⟩
    by_cases hi : i < es.length
    · have e := List.drop_eq_getElem_cons hi
      obtain ⟨⟨k1, z1⟩, e2⟩ : ∃ p, es[i] = p := ⟨_, rfl⟩
      rw [e, e2] at hr
      have e0 : es[i]? = some (k1, z1) := by rw [List.getElem?_eq_getElem hi, e2]
      have e3 : reps (es.take (i + 1)) x = repl k1 z1 (reps (es.take i) x) := by
        rw [List.take_add_one, e0, reps_append]; rfl
      have e4 : (tabV es ++ (k, v) :: post)[i]? = some (.s k1, .str z1) := by
        rw [List.getElem?_append_left (by rw [hlen]; exact hi)]
        unfold tabV
        rw [List.getElem?_map, e0]; rfl
      rw [e4] at hx
      injection hx with hx
      injection hx with h1 h2
      subst h1; subst h2
      refine asg_tuple okn (asgL_cons (asg_name okn (by rfl) (asgL_cons (asg_name okn (by rfl) (asgL_nil ?_))))) (by rfl) (by rfl)
      ((refine exs_cons ?_); (with_reducible refine ex_assign (by assumption) ?hx_1 ?hs_1 ?_); (case hx_1 => kernel_rfl); (case hs_1 => exact swaps_no (by rfl)))
      ((with_reducible refine ev_meth ?_ ?h1_8 ?h2_8 ?h3_8 ?h4_8); (case h1_8 => rfl); (case h2_8 => rfl); (case h3_8 => rfl); (case h4_8 => rfl); (with_reducible refine ev_name (v := ?vv_9) (by assumption) ?hf_9 ?_ ?hn_9 ?hd_9); (case hf_9 => walk_at "sxf"); (case hn_9 => decide); (case hd_9 => decide); (with_reducible refine ⟨_, _, methOk_str PySem.F.slot_str_replace PySem.F.type_str_replace, ?_⟩); (with_reducible refine evL_cons ?_ ?hs_11); (case hs_11 => rfl); (with_reducible refine ev_name (v := ?vv_12) (by assumption) ?hf_12 ?_ ?hn_12 ?hd_12); (case hf_12 => walk_at "sxf"); (case hn_12 => decide); (case hd_12 => decide); (with_reducible refine evL_cons ?_ ?hs_13); (case hs_13 => rfl); (with_reducible refine ev_name (v := ?vv_14) (by assumption) ?hf_14 ?_ ?hn_14 ?hd_14); (case hf_14 => walk_at "sxf"); (case hn_14 => decide); (case hd_14 => decide); (with_reducible refine evL_nil ?_))
      refine opL_replaceG (by exact nb05 I') hr.1 ?_
      refine exs_nil (hQ1 _ ⟨hi, ?_, ?_⟩)
      · rw [e3]; exact hr.2
      · rw [e3]; walk_at "sxf"
    · have hie : i = es.length := Nat.le_antisymm hi0 (Nat.not_lt.mp hi)
      have e4 : (tabV es ++ (k, v) :: post)[i]? = some (k, v) := by
        rw [hie, ← hlen, List.getElem?_append_right (Nat.le_refl _), Nat.sub_self]; rfl
      rw [e4] at hx
      injection hx with hx
      injection hx with h1 h2
      subst h1; subst h2
      refine asg_tuple okn (asgL_cons (asg_name okn (by rfl) (asgL_cons (asg_name okn (by rfl) (asgL_nil ?_))))) (by rfl) (by rfl)
      ((refine exs_cons ?_); (with_reducible refine ex_assign (by assumption) ?hx_2 ?hs_2 ?_); (case hx_2 => kernel_rfl); (case hs_2 => exact swaps_no (by rfl)))
      refine ev_methA ?_ (by rfl) (by rfl) (by rfl) (by rfl)
      ((with_reducible refine ev_name (v := ?vv_16) (by assumption) ?hf_16 ?_ ?hn_16 ?hd_16); (case hf_16 => walk_at "sxf"); (case hn_16 => decide); (case hd_16 => decide))
      refine ⟨_, _, methOk_str PySem.F.slot_str_replace PySem.F.type_str_replace, ?_⟩
      ((with_reducible refine evL_cons ?_ ?hs_17); (case hs_17 => rfl); (with_reducible refine ev_name (v := ?vv_18) (by assumption) ?hf_18 ?_ ?hn_18 ?hd_18); (case hf_18 => walk_at "sxf"); (case hn_18 => decide); (case hd_18 => decide); (with_reducible refine evL_cons ?_ ?hs_19); (case hs_19 => rfl); (with_reducible refine ev_name (v := ?vv_20) (by assumption) ?hf_20 ?_ ?hn_20 ?hd_20); (case hf_20 => walk_at "sxf"); (case hn_20 => decide); (case hd_20 => decide); (with_reducible refine evL_nil ?_))
      exact opA_replace R okn.hh hb
  · rintro σ ⟨hi, _⟩
    exfalso
    rw [List.length_append, hlen, List.length_cons] at hi
    omega
/-- escape of what has no replace -/
theorem r_escapeM {C : Cx} {n : Nat} (ok : C.Ok (n + 1)) (I : In05 C) {l : List Env} {d v2 : V} (hd : MissV d) (hm : typeLookup (.type (tyV d)) (Str.ofString "replace") = pure none) : RaisesF C l 30 [d, v2] "AttributeError" := fun own T s ws hO hr hf => by
  refine fn_callR ok (fnAt_of (a := 30) I.hF (by rfl) (by rfl) (by rfl) (by rfl) (by rfl) (by rfl) (by rfl) (by rfl) (by rfl)) (ps := ["data", "entities"]) (vs := [d, v2]) ?_ (by decide) (by rfl) (fun A L q cd T s k R okn => ?_) hO hr hf
  · intro s ws hk hl
    obtain ⟨a, b, rfl⟩ := len2 hl
    exact BindsTo.of_defaults (T := 23) rfl (hk _ _ (I.hF 23 _ rfl)) rfl rfl rfl
  ((refine exs_cons ?_); (with_reducible refine ex_assign (by assumption) ?hx_1 ?hs_1 ?_); (case hx_1 => kernel_rfl); (case hs_1 => exact swaps_no (by rfl)))
  exact ev_missR R okn.hh (ev_name okn (by walk_at "sxf") ⟨hd, hm⟩ (by decide) (by decide)) (by decide +kernel) rep_len (by rfl) (by rfl) (by rfl)
theorem r_escapeB {C : Cx} {n : Nat} (ok : C.Ok (n + 1)) (I : In05 C) {l : List Env} {b : Array UInt8} {v2 : V} : RaisesF C l 30 [.bytes b, v2] "TypeError" := fun own T s ws hO hr hf => by
  refine fn_callR ok (fnAt_of (a := 30) I.hF (by rfl) (by rfl) (by rfl) (by rfl) (by rfl) (by rfl) (by rfl) (by rfl) (by rfl)) (ps := ["data", "entities"]) (vs := [.bytes b, v2]) ?_ (by decide) (by rfl) (fun A L q cd T s k R okn => ?_) hO hr hf
  · intro s ws hk hl
    obtain ⟨a, b, rfl⟩ := len2 hl
    exact BindsTo.of_defaults (T := 23) rfl (hk _ _ (I.hF 23 _ rfl)) rfl rfl rfl
  ((refine exs_cons ?_); (with_reducible refine ex_assign (by assumption) ?hx_2 ?hs_2 ?_); (case hx_2 => kernel_rfl); (case hs_2 => exact swaps_no (by rfl)))
  refine ev_methA ?_ (by rfl) (by rfl) (by rfl) (by rfl)
  ((with_reducible refine ev_name (v := ?vv_14) (by assumption) ?hf_14 ?_ ?hn_14 ?hd_14); (case hf_14 => walk_at "sxf"); (case hn_14 => decide); (case hd_14 => decide))
  refine ⟨_, _, methOk_bytes slot_bytes_replace type_bytes_replace, ?_⟩
  ((with_reducible refine evL_cons ?_ ?hs_15); (case hs_15 => rfl); (with_reducible refine ev_str ?_); (with_reducible refine evL_cons ?_ ?hs_17); (case hs_17 => rfl); (with_reducible refine ev_str ?_); (with_reducible refine evL_nil ?_))
  exact opA_bytes R okn.hh
theorem r_escapeD {C : Cx} {n : Nat} (ok : C.Ok (n + 2)) (I : In05 C) {l : List Env} {x : S} {v2 : V} {cls : String} (ht : TruV v2) (htr : truV v2 = true) (h : RepOkG esc5 x) (hdr : ∀ {C' : Cx} (l' : List Env), C'.Ok (n + 1) → In05 C' → RaisesF C' l' 21 [.str (reps esc5 x), v2] cls) : RaisesF C l 30 [.str x, v2] cls := fun own T s ws hO hr hf => by
  refine fn_callR ok (fnAt_of (a := 30) I.hF (by rfl) (by rfl) (by rfl) (by rfl) (by rfl) (by rfl) (by rfl) (by rfl) (by rfl)) (ps := ["data", "entities"]) (vs := [.str x, v2]) ?_ (by decide) (by rfl) (fun A L q cd T s k R okn => ?_) hO hr hf
  · intro s ws hk hl
    obtain ⟨a, b, rfl⟩ := len2 hl
    exact BindsTo.of_defaults (T := 23) rfl (hk _ _ (I.hF 23 _ rfl)) rfl rfl rfl
  have I' : In05 (rxCx C.W A (fdAt (F05 C.W.w) 30).scope L 30 q cd l T s cls) := I.rx k
  have hG : (rxCx C.W A (fdAt (F05 C.W.w) 30).scope L 30 q cd l T s cls).W.gls = _ := I'.hG
  obtain ⟨q0, q1, q2, _⟩ := h
  ((refine exs_cons ?_); (with_reducible refine ex_assign (by assumption) ?hx_3 ?hs_3 ?_); (case hx_3 => kernel_rfl); (case hs_3 => exact swaps_no (by rfl)))
  ((with_reducible refine ev_meth ?_ ?h1_20 ?h2_20 ?h3_20 ?h4_20); (case h1_20 => rfl); (case h2_20 => rfl); (case h3_20 => rfl); (case h4_20 => rfl); (with_reducible refine ev_name (v := ?vv_21) (by assumption) ?hf_21 ?_ ?hn_21 ?hd_21); (case hf_21 => walk_at "sxf"); (case hn_21 => decide); (case hd_21 => decide); (with_reducible refine ⟨_, _, methOk_str PySem.F.slot_str_replace PySem.F.type_str_replace, ?_⟩); (with_reducible refine evL_cons ?_ ?hs_23); (case hs_23 => rfl); (with_reducible refine ev_str ?_); (with_reducible refine evL_cons ?_ ?hs_25); (case hs_25 => rfl); (with_reducible refine ev_str ?_); (with_reducible refine evL_nil ?_))
  refine opL_replaceG (by exact nb05 I') q0 ?_
  ((refine exs_cons ?_); (with_reducible refine ex_assign (by assumption) ?hx_4 ?hs_4 ?_); (case hx_4 => kernel_rfl); (case hs_4 => exact swaps_no (by rfl)))
  ((with_reducible refine ev_meth ?_ ?h1_28 ?h2_28 ?h3_28 ?h4_28); (case h1_28 => rfl); (case h2_28 => rfl); (case h3_28 => rfl); (case h4_28 => rfl); (with_reducible refine ev_name (v := ?vv_29) (by assumption) ?hf_29 ?_ ?hn_29 ?hd_29); (case hf_29 => walk_at "sxf"); (case hn_29 => decide); (case hd_29 => decide); (with_reducible refine ⟨_, _, methOk_str PySem.F.slot_str_replace PySem.F.type_str_replace, ?_⟩); (with_reducible refine evL_cons ?_ ?hs_31); (case hs_31 => rfl); (with_reducible refine ev_str ?_); (with_reducible refine evL_cons ?_ ?hs_33); (case hs_33 => rfl); (with_reducible refine ev_str ?_); (with_reducible refine evL_nil ?_))
  refine opL_replaceG (by exact nb05 I') q1 ?_
  ((refine exs_cons ?_); (with_reducible refine ex_assign (by assumption) ?hx_5 ?hs_5 ?_); (case hx_5 => kernel_rfl); (case hs_5 => exact swaps_no (by rfl)))
  ((with_reducible refine ev_meth ?_ ?h1_36 ?h2_36 ?h3_36 ?h4_36); (case h1_36 => rfl); (case h2_36 => rfl); (case h3_36 => rfl); (case h4_36 => rfl); (with_reducible refine ev_name (v := ?vv_37) (by assumption) ?hf_37 ?_ ?hn_37 ?hd_37); (case hf_37 => walk_at "sxf"); (case hn_37 => decide); (case hd_37 => decide); (with_reducible refine ⟨_, _, methOk_str PySem.F.slot_str_replace PySem.F.type_str_replace, ?_⟩); (with_reducible refine evL_cons ?_ ?hs_39); (case hs_39 => rfl); (with_reducible refine ev_str ?_); (with_reducible refine evL_cons ?_ ?hs_41); (case hs_41 => rfl); (with_reducible refine ev_str ?_); (with_reducible refine evL_nil ?_))
  refine opL_replaceG (by exact nb05 I') q2 ?_
  refine exs_cons (ex_if (tst_val ?_))
  ((with_reducible refine ev_name (v := ?vv_44) (by assumption) ?hf_44 ?_ ?hn_44 ?hd_44); (case hf_44 => walk_at "sxf"); (case hn_44 => decide); (case hd_44 => decide))
  refine truthy_V ht ⟨fun _ => ?_, fun hf => ?_⟩
  · ((refine exs_cons ?_); (with_reducible refine ex_assign (by assumption) ?hx_6 ?hs_6 ?_); (case hx_6 => kernel_rfl); (case hs_6 => exact swaps_no (by rfl)))
    refine ev_fnA okn hG (by kernel_rfl) (by rfl) (callee_of (fnAt_of (a := 21) I'.hF (by rfl) (by rfl) (by rfl) (by rfl) (by rfl) (by rfl) (by rfl) (by rfl) (by rfl))) ?_ (by rfl) (by rfl) (by decide)
    ((with_reducible refine evL_cons ?_ ?hs_45); (case hs_45 => rfl); (with_reducible refine ev_name (v := ?vv_46) (by assumption) ?hf_46 ?_ ?hn_46 ?hd_46); (case hf_46 => walk_at "sxf"); (case hn_46 => decide); (case hd_46 => decide); (with_reducible refine evL_cons ?_ ?hs_47); (case hs_47 => rfl); (with_reducible refine ev_name (v := ?vv_48) (by assumption) ?hf_48 ?_ ?hn_48 ?hd_48); (case hf_48 => walk_at "sxf"); (case hn_48 => decide); (case hd_48 => decide); (with_reducible refine evL_nil ?_))
    exact opA_ofR R (hdr _ okn I')
  · rw [htr] at hf; cases hf
/-- unescape of what has no replace -/
theorem r_unescapeM {C : Cx} {n : Nat} (ok : C.Ok (n + 1)) (I : In05 C) {l : List Env} {d v2 : V} (hd : MissV d) (hm : typeLookup (.type (tyV d)) (Str.ofString "replace") = pure none) : RaisesF C l 39 [d, v2] "AttributeError" := fun own T s ws hO hr hf => by
  refine fn_callR ok (fnAt_of (a := 39) I.hF (by rfl) (by rfl) (by rfl) (by rfl) (by rfl) (by rfl) (by rfl) (by rfl) (by rfl)) (ps := ["data", "entities"]) (vs := [d, v2]) ?_ (by decide) (by rfl) (fun A L q cd T s k R okn => ?_) hO hr hf
  · intro s ws hk hl
    obtain ⟨a, b, rfl⟩ := len2 hl
    exact BindsTo.of_defaults (T := 32) rfl (hk _ _ (I.hF 32 _ rfl)) rfl rfl rfl
  ((refine exs_cons ?_); (with_reducible refine ex_assign (by assumption) ?hx_7 ?hs_7 ?_); (case hx_7 => kernel_rfl); (case hs_7 => exact swaps_no (by rfl)))
  exact ev_missR R okn.hh (ev_name okn (by walk_at "sxf") ⟨hd, hm⟩ (by decide) (by decide)) (by decide +kernel) rep_len (by rfl) (by rfl) (by rfl)
theorem r_unescapeB {C : Cx} {n : Nat} (ok : C.Ok (n + 1)) (I : In05 C) {l : List Env} {b : Array UInt8} {v2 : V} : RaisesF C l 39 [.bytes b, v2] "TypeError" := fun own T s ws hO hr hf => by
  refine fn_callR ok (fnAt_of (a := 39) I.hF (by rfl) (by rfl) (by rfl) (by rfl) (by rfl) (by rfl) (by rfl) (by rfl) (by rfl)) (ps := ["data", "entities"]) (vs := [.bytes b, v2]) ?_ (by decide) (by rfl) (fun A L q cd T s k R okn => ?_) hO hr hf
  · intro s ws hk hl
    obtain ⟨a, b, rfl⟩ := len2 hl
    exact BindsTo.of_defaults (T := 32) rfl (hk _ _ (I.hF 32 _ rfl)) rfl rfl rfl
  ((refine exs_cons ?_); (with_reducible refine ex_assign (by assumption) ?hx_8 ?hs_8 ?_); (case hx_8 => kernel_rfl); (case hs_8 => exact swaps_no (by rfl)))
  refine ev_methA ?_ (by rfl) (by rfl) (by rfl) (by rfl)
  ((with_reducible refine ev_name (v := ?vv_50) (by assumption) ?hf_50 ?_ ?hn_50 ?hd_50); (case hf_50 => walk_at "sxf"); (case hn_50 => decide); (case hd_50 => decide))
  refine ⟨_, _, methOk_bytes slot_bytes_replace type_bytes_replace, ?_⟩
  ((with_reducible refine evL_cons ?_ ?hs_51); (case hs_51 => rfl); (with_reducible refine ev_str ?_); (with_reducible refine evL_cons ?_ ?hs_53); (case hs_53 => rfl); (with_reducible refine ev_str ?_); (with_reducible refine evL_nil ?_))
  exact opA_bytes R okn.hh
theorem r_unescapeD {C : Cx} {n : Nat} (ok : C.Ok (n + 2)) (I : In05 C) {l : List Env} {x : S} {v2 : V} {cls : String} (ht : TruV v2) (htr : truV v2 = true) (h : RepOkG un5 x) (hdr : ∀ {C' : Cx} (l' : List Env), C'.Ok (n + 1) → In05 C' → RaisesF C' l' 21 [.str (reps un5 x), v2] cls) : RaisesF C l 39 [.str x, v2] cls := fun own T s ws hO hr hf => by
  refine fn_callR ok (fnAt_of (a := 39) I.hF (by rfl) (by rfl) (by rfl) (by rfl) (by rfl) (by rfl) (by rfl) (by rfl) (by rfl)) (ps := ["data", "entities"]) (vs := [.str x, v2]) ?_ (by decide) (by rfl) (fun A L q cd T s k R okn => ?_) hO hr hf
  · intro s ws hk hl
    obtain ⟨a, b, rfl⟩ := len2 hl
    exact BindsTo.of_defaults (T := 32) rfl (hk _ _ (I.hF 32 _ rfl)) rfl rfl rfl
  have I' : In05 (rxCx C.W A (fdAt (F05 C.W.w) 39).scope L 39 q cd l T s cls) := I.rx k
  have hG : (rxCx C.W A (fdAt (F05 C.W.w) 39).scope L 39 q cd l T s cls).W.gls = _ := I'.hG
  obtain ⟨q0, q1, _⟩ := h
  ((refine exs_cons ?_); (with_reducible refine ex_assign (by assumption) ?hx_9 ?hs_9 ?_); (case hx_9 => kernel_rfl); (case hs_9 => exact swaps_no (by rfl)))
  ((with_reducible refine ev_meth ?_ ?h1_56 ?h2_56 ?h3_56 ?h4_56); (case h1_56 => rfl); (case h2_56 => rfl); (case h3_56 => rfl); (case h4_56 => rfl); (with_reducible refine ev_name (v := ?vv_57) (by assumption) ?hf_57 ?_ ?hn_57 ?hd_57); (case hf_57 => walk_at "sxf"); (case hn_57 => decide); (case hd_57 => decide); (with_reducible refine ⟨_, _, methOk_str PySem.F.slot_str_replace PySem.F.type_str_replace, ?_⟩); (with_reducible refine evL_cons ?_ ?hs_59); (case hs_59 => rfl); (with_reducible refine ev_str ?_); (with_reducible refine evL_cons ?_ ?hs_61); (case hs_61 => rfl); (with_reducible refine ev_str ?_); (with_reducible refine evL_nil ?_))
  refine opL_replaceG (by exact nb05 I') q0 ?_
  ((refine exs_cons ?_); (with_reducible refine ex_assign (by assumption) ?hx_10 ?hs_10 ?_); (case hx_10 => kernel_rfl); (case hs_10 => exact swaps_no (by rfl)))
  ((with_reducible refine ev_meth ?_ ?h1_64 ?h2_64 ?h3_64 ?h4_64); (case h1_64 => rfl); (case h2_64 => rfl); (case h3_64 => rfl); (case h4_64 => rfl); (with_reducible refine ev_name (v := ?vv_65) (by assumption) ?hf_65 ?_ ?hn_65 ?hd_65); (case hf_65 => walk_at "sxf"); (case hn_65 => decide); (case hd_65 => decide); (with_reducible refine ⟨_, _, methOk_str PySem.F.slot_str_replace PySem.F.type_str_replace, ?_⟩); (with_reducible refine evL_cons ?_ ?hs_67); (case hs_67 => rfl); (with_reducible refine ev_str ?_); (with_reducible refine evL_cons ?_ ?hs_69); (case hs_69 => rfl); (with_reducible refine ev_str ?_); (with_reducible refine evL_nil ?_))
  refine opL_replaceG (by exact nb05 I') q1 ?_
  refine exs_cons (ex_if (tst_val ?_))
  ((with_reducible refine ev_name (v := ?vv_72) (by assumption) ?hf_72 ?_ ?hn_72 ?hd_72); (case hf_72 => walk_at "sxf"); (case hn_72 => decide); (case hd_72 => decide))
  refine truthy_V ht ⟨fun _ => ?_, fun hf => ?_⟩
  · ((refine exs_cons ?_); (with_reducible refine ex_assign (by assumption) ?hx_11 ?hs_11 ?_); (case hx_11 => kernel_rfl); (case hs_11 => exact swaps_no (by rfl)))
    refine ev_fnA okn hG (by kernel_rfl) (by rfl) (callee_of (fnAt_of (a := 21) I'.hF (by rfl) (by rfl) (by rfl) (by rfl) (by rfl) (by rfl) (by rfl) (by rfl) (by rfl))) ?_ (by rfl) (by rfl) (by decide)
    ((with_reducible refine evL_cons ?_ ?hs_73); (case hs_73 => rfl); (with_reducible refine ev_name (v := ?vv_74) (by assumption) ?hf_74 ?_ ?hn_74 ?hd_74); (case hf_74 => walk_at "sxf"); (case hn_74 => decide); (case hd_74 => decide); (with_reducible refine evL_cons ?_ ?hs_75); (case hs_75 => rfl); (with_reducible refine ev_name (v := ?vv_76) (by assumption) ?hf_76 ?_ ?hn_76 ?hd_76); (case hf_76 => walk_at "sxf"); (case hn_76 => decide); (case hd_76 => decide); (with_reducible refine evL_nil ?_))
    exact opA_ofR R (hdr _ okn I')
  · rw [htr] at hf; cases hf
/-- quoteattr with what is no mapping -/
theorem r_quoteN {C : Cx} {n : Nat} (ok : C.Ok (n + 1)) (I : In05 C) {l : List Env} {d v2 : V} (hv : NoMapV v2) : RaisesF C l 48 [d, v2] "TypeError" := fun own T s ws hO hr hf => by
  refine fn_callR ok (fnAt_of (a := 48) I.hF (by rfl) (by rfl) (by rfl) (by rfl) (by rfl) (by rfl) (by rfl) (by rfl) (by rfl)) (ps := ["data", "entities"]) (vs := [d, v2]) ?_ (by decide) (by rfl) (fun A L q cd T s k R okn => ?_) hO hr hf
  · intro s ws hk hl
    obtain ⟨a, b, rfl⟩ := len2 hl
    exact BindsTo.of_defaults (T := 41) rfl (hk _ _ (I.hF 41 _ rfl)) rfl rfl rfl
  refine exs_cons (ex_assignN okn (by rfl) (by rfl) ?_)
  exact evF_starR R okn.hh (ev_name okn (by walk_at "sxf") hv (by decide) (by decide)) (by rfl) (by rfl)
theorem r_quoteE {C : Cx} {n : Nat} (ok : C.Ok (n + 3)) (I : In05 C) {l : List Env} {d : V} {ev es : List (Key × V)} {cls : String} (hev : dsets (dsets [] ev) (tabV own5) = es) (hl : ev.length ≤ 1000) (he : ∀ {C' : Cx} (l' : List Env), C'.Ok (n + 2) → In05 C' → RaisesF C' l' 30 [d, .dct es] cls) : RaisesF C l 48 [d, .dct ev] cls := fun own T s ws hO hr hf => by
  refine fn_callR ok (fnAt_of (a := 48) I.hF (by rfl) (by rfl) (by rfl) (by rfl) (by rfl) (by rfl) (by rfl) (by rfl) (by rfl)) (ps := ["data", "entities"]) (vs := [d, .dct ev]) ?_ (by decide) (by rfl) (fun A L q cd T s k R okn => ?_) hO hr hf
  · intro s ws hk hl
    obtain ⟨a, b, rfl⟩ := len2 hl
    exact BindsTo.of_defaults (T := 41) rfl (hk _ _ (I.hF 41 _ rfl)) rfl rfl rfl
  have I' : In05 (rxCx C.W A (fdAt (F05 C.W.w) 48).scope L 48 q cd l T s cls) := I.rx k
  have hG : (rxCx C.W A (fdAt (F05 C.W.w) 48).scope L 48 q cd l T s cls).W.gls = _ := I'.hG
  have hsz : sizeLine = 16777216 := sizeLine_eq
  refine exs_cons (ex_assignN okn (by rfl) (by rfl) (evF_dictStarE okn ?_ (by rfl) (by rfl) (by rfl) (by exact (by decide : 3 ≤ 15))))
  ((with_reducible refine ev_name (v := ?vv_78) (by assumption) ?hf_78 ?_ ?hn_78 ?hd_78); (case hf_78 => walk_at "sxf"); (case hn_78 => decide); (case hd_78 => decide))
  refine ⟨_, rfl, by show ev.length + 3 ≤ _; omega, ?_⟩
  iterate 3 ((with_reducible refine evD_cons ?_); (with_reducible refine ev_str ?_); (refine ⟨.s _, rfl, ?_⟩); (with_reducible refine ev_str ?_))
  refine evD_nil fun a => ?_
  rw [show dsets [] ([] ++ [(Key.s (lit "\n"), V.str (lit "&#10;"))] ++ [(Key.s (lit "\r"), V.str (lit "&#13;"))] ++ [(Key.s (lit "\t"), V.str (lit "&#9;"))]) = tabV own5 from rfl, hev]
  refine Tr.freeze (x := "entities") (by walk_at "sxf") rfl ?_ (by decide)
  ((refine exs_cons ?_); (with_reducible refine ex_assign (by assumption) ?hx_12 ?hs_12 ?_); (case hx_12 => kernel_rfl); (case hs_12 => exact swaps_no (by rfl)))
  refine ev_fnA okn hG (by kernel_rfl) (by rfl) (callee_of (fnAt_of (a := 30) I'.hF (by rfl) (by rfl) (by rfl) (by rfl) (by rfl) (by rfl) (by rfl) (by rfl) (by rfl))) ?_ (by rfl) (by rfl) (by decide)
  ((with_reducible refine evL_cons ?_ ?hs_79); (case hs_79 => rfl); (with_reducible refine ev_name (v := ?vv_80) (by assumption) ?hf_80 ?_ ?hn_80 ?hd_80); (case hf_80 => walk_at "sxf"); (case hn_80 => decide); (case hd_80 => decide); (with_reducible refine evL_cons ?_ ?hs_81); (case hs_81 => rfl); (with_reducible refine ev_name (v := ?vv_82) (by assumption) ?hf_82 ?_ ?hn_82 ?hd_82); (case hf_82 => walk_at "sxf"); (case hn_82 => decide); (case hd_82 => decide); (with_reducible refine evL_nil ?_))
  exact opA_ofR R (he _ okn I')
theorem ex_try {C : Cx} {σ : St} (hX : C.X = fun _ _ => False) {tb : List Stmt} {h₀ : ExceptHandler} {hs : List ExceptHandler} {pos : Pos} {Q : Fl → St → Prop} (h : Exs C σ tb Q) : Ex C σ (.Try tb (h₀ :: hs) [] [] pos) Q := by
  refine Tr.intro' fun F mine T s QQ fin hA => ?_
  refine wpAny_Try_except (wpAny_mono (h F mine T s hA) ?_ fun e s' x => by rw [hX] at x; exact x.elim)
  rintro f s1 ⟨fl, σ1, m1, T1, q, p, a, r⟩
  cases r with
  | next => exact wpAny_execs_nil (fin _ _ .next σ1 m1 T1 q p a .next)
  | brk => exact fin _ _ .brk σ1 m1 T1 q p a .brk
  | cont => exact fin _ _ .cont σ1 m1 T1 q p a .cont
  | ret r => exact fin _ _ (.ret _) σ1 m1 T1 q p a (.ret r)
set_option maxHeartbeats 4000000 in
theorem c_told {C : Cx} {n : Nat} (ok : C.Ok (n + 1)) (I : In05 C) {f : Addr} {d g r : V} (hc : ∀ C' : Cx, In05 C' → Callee C' (.ref f)) (hf : ∀ C' : Cx, C'.Ok n → In05 C' → OpL C' (Rep C'.W) (fun ws => call (.ref f) ws) [d, g] (fun v => v = r)) :
    OpL C (Rep C.W) (fun ws => call (.ref 88) ws) [.val (.ref f), d, g] (fun v => v = V.lst [V.str [], r]) := by
  refine fn_callQ ok (fnAt_of (a := 88) I.hF (by rfl) (by rfl) (by rfl) (by rfl) (by rfl) (by rfl) (by rfl) (by rfl) (by rfl)) (ps := ["function", "data", "given"]) (dvs := []) (ds := []) ?_ (fun _ _ _ _ => .nil) (by decide) (by rfl) fun A L q cd Q hQ okn => ?_
  · exact fun s ws _ hl => binds_plain (n := 3) (fun ws hl => by
      obtain ⟨a, b, c, rfl⟩ := len3 hl
      rfl) s ws hl
  refine exs_cons (ex_try rfl ?_)
  ((refine exs_cons ?_); (with_reducible refine ex_return ?_))
  refine ev_ofF ?_
  refine evF_list ?_
  ((with_reducible refine evL_cons ?_ ?hs_3); (case hs_3 => rfl); (with_reducible refine ev_str ?_); (with_reducible refine evL_cons ?_ ?hs_5); (case hs_5 => rfl))
  refine ev_fnV okn (w := .ref f) (by walk_at "sxf") (hc _ ⟨I.hF, I.hG⟩) ?_ (by rfl) (by rfl) (by decide) (by decide)
  ((with_reducible refine evL_cons ?_ ?hs_6); (case hs_6 => rfl); (with_reducible refine ev_name (v := ?vv_7) (by assumption) ?hf_7 ?_ ?hn_7 ?hd_7); (case hf_7 => walk_at "sxf"); (case hn_7 => decide); (case hd_7 => decide); (with_reducible refine evL_cons ?_ ?hs_8); (case hs_8 => rfl); (with_reducible refine ev_name (v := ?vv_9) (by assumption) ?hf_9 ?_ ?hn_9 ?hd_9); (case hf_9 => walk_at "sxf"); (case hn_9 => decide); (case hd_9 => decide); (with_reducible refine evL_nil ?_))
  refine OpL.eq (hf _ okn ⟨I.hF, I.hG⟩) ?_
  ((with_reducible refine evL_nil ?_))
  exact ⟨szc 2, fun a => hQ _ _ rfl⟩
set_option maxHeartbeats 4000000 in
theorem c_toldR {C : Cx} {n : Nat} (ok : C.Ok (n + 2)) (I : In05 C) (hfr : C.A.frames = some [C.env]) (hlf : C.env.frame = some C.env.locals) {f : Addr} {d g : V} {cls : String} (hcls : cls = "TypeError" ∨ cls = "AttributeError") (hc : ∀ C' : Cx, In05 C' → Callee C' (.ref f)) (hf : ∀ (C' : Cx) (l : List Env), C'.Ok (n + 1) → In05 C' → RaisesF C' l f [d, g] cls) {σ : St} {Q : V → St → Prop} (hQ : Q (.lst [.str (lit cls)]) σ) :
    OpA C σ (fun ws => call (.ref 88) ws) [.val (.ref f), d, g] Q := by
  refine told_raise (n := n) (ps := ["function", "data", "given"]) ok hfr hlf (fnAt_of (a := 88) I.hF (by rfl) (by rfl) (by rfl) (by rfl) (by rfl) (by rfl) (by rfl) (by rfl) (by rfl)) ?_ (by decide) (by rfl) (fun L => by kernel_rfl) hcls (by kernel_rfl) (by kernel_rfl) (by rw [I.hG]; rfl) (by rw [I.hG]; rfl) (fun A L q cd T s X k okn look frames => ?_) hQ
  · exact fun s ws _ hl => by
      have := binds_plain (fd := fdAt (F05 C.W.w) 88) (ps := ["function", "data", "given"]) (n := 3) (fun ws hl => by
        obtain ⟨a, b, c, rfl⟩ := len3 hl
        rfl) s ws hl
      rwa [List.append_nil] at this
  have I' : In05 (rzCx C.W A (fdAt (F05 C.W.w) 88).scope L 88 q cd T s X) := ⟨fun a o e => k _ _ (I.hF a o e), I.hG⟩
  ((refine exs_cons ?_); (with_reducible refine ex_return ?_))
  refine ev_ofF ?_
  refine evF_list ?_
  ((with_reducible refine evL_cons ?_ ?hs_12); (case hs_12 => rfl); (with_reducible refine ev_str ?_); (with_reducible refine evL_cons ?_ ?hs_14); (case hs_14 => rfl))
  refine ev_fnVA okn (w := .ref f) (by walk_at "sxf") (hc _ I') ?_ (by rfl) (by rfl) (by decide) (by decide)
  ((with_reducible refine evL_cons ?_ ?hs_15); (case hs_15 => rfl); (with_reducible refine ev_name (v := ?vv_16) (by assumption) ?hf_16 ?_ ?hn_16 ?hd_16); (case hf_16 => walk_at "sxf"); (case hn_16 => decide); (case hd_16 => decide); (with_reducible refine evL_cons ?_ ?hs_17); (case hs_17 => rfl); (with_reducible refine ev_name (v := ?vv_18) (by assumption) ?hf_18 ?_ ?hn_18 ?hd_18); (case hf_18 => walk_at "sxf"); (case hn_18 => decide); (case hd_18 => decide); (with_reducible refine evL_nil ?_))
  intro F mine T' s1 ws hAb hr
  exact wpAny_mono (hf _ _ okn I' _ T' s1 ws hAb.ownOk hr (frames _ _ _ _ _ hAb)) (fun _ _ x => x.elim) fun e s' x => look _ _ _ _ _ _ _ hAb x
noncomputable def tupR (p : S × S) : V := .tup [.str p.1, .str p.2]
theorem fmodNat (x : Int) {m : Nat} (hm : 0 < m) : ∃ k : Nat, x.fmod m = (k : Int) ∧ k < m ∧ (x.fmod m).toNat = k := by
  obtain ⟨k, h1, h2⟩ := fmodN x hm
  exact ⟨k, h1, h2, by rw [h1]; rfl⟩
set_option maxHeartbeats 4000000 in
theorem c_table {C : Cx} {n : Nat} (ok : C.Ok (n + 1)) (I : In05 C) {xs : List Int} (hx : xs.length ≤ 63) :
    OpL C (Rep C.W) (fun ws => call (.ref 55) ws) [.lst (xs.map V.int)] (fun v => v = .dct (table5 xs)) := by
  refine fn_callQ ok (fnAt_of (a := 55) I.hF (by rfl) (by rfl) (by rfl) (by rfl) (by rfl) (by rfl) (by rfl) (by rfl) (by rfl)) (ps := ["script"]) (dvs := []) (ds := []) ?_ (fun _ _ _ _ => .nil) (by decide) (by rfl) fun A L q cd Q hQ okn => ?_
  · exact fun s ws _ hl => binds_plain (n := 1) (fun ws hl => by
      obtain ⟨a, rfl⟩ := len1 hl
      rfl) s ws hl
  have hG : (fnCx C.W A (fdAt (F05 C.W.w) 55).scope L 55 q cd).W.gls = _ := I.hG
  have hsz : sizeLine = 16777216 := sizeLine_eq
  ((refine exs_cons ?_); (with_reducible refine ex_assign (by assumption) ?hx_1 ?hs_1 ?_); (case hx_1 => kernel_rfl); (case hs_1 => exact swaps_no (by rfl)))
  refine ev_ofF ?_
  refine evF_list ?_
  ((with_reducible refine evL_cons ?_ ?hs_7); (case hs_7 => rfl))
  refine ev_tuple ?_
  ((with_reducible refine evL_cons ?_ ?hs_8); (case hs_8 => rfl); (with_reducible refine ev_str ?_); (with_reducible refine evL_cons ?_ ?hs_10); (case hs_10 => rfl); (with_reducible refine ev_str ?_); (with_reducible refine evL_nil ?_))
  refine ⟨szc 2, ?_⟩
  ((with_reducible refine evL_cons ?_ ?hs_13); (case hs_13 => rfl))
  refine ev_tuple ?_
  ((with_reducible refine evL_cons ?_ ?hs_14); (case hs_14 => rfl); (with_reducible refine ev_str ?_); (with_reducible refine evL_cons ?_ ?hs_16); (case hs_16 => rfl); (with_reducible refine ev_str ?_); (with_reducible refine evL_nil ?_))
  refine ⟨szc 2, ?_⟩
  ((with_reducible refine evL_cons ?_ ?hs_19); (case hs_19 => rfl))
  refine ev_tuple ?_
  ((with_reducible refine evL_cons ?_ ?hs_20); (case hs_20 => rfl); (with_reducible refine ev_str ?_); (with_reducible refine evL_cons ?_ ?hs_22); (case hs_22 => rfl); (with_reducible refine ev_str ?_); (with_reducible refine evL_nil ?_))
  refine ⟨szc 2, ?_⟩
  ((with_reducible refine evL_cons ?_ ?hs_25); (case hs_25 => rfl))
  refine ev_tuple ?_
  ((with_reducible refine evL_cons ?_ ?hs_26); (case hs_26 => rfl); (with_reducible refine ev_str ?_); (with_reducible refine evL_cons ?_ ?hs_28); (case hs_28 => rfl); (with_reducible refine ev_str ?_); (with_reducible refine evL_nil ?_))
  refine ⟨szc 2, ?_⟩
  ((with_reducible refine evL_cons ?_ ?hs_31); (case hs_31 => rfl))
  refine ev_tuple ?_
  ((with_reducible refine evL_cons ?_ ?hs_32); (case hs_32 => rfl); (with_reducible refine ev_str ?_); (with_reducible refine evL_cons ?_ ?hs_34); (case hs_34 => rfl); (with_reducible refine ev_str ?_); (with_reducible refine evL_nil ?_))
  refine ⟨szc 2, ?_⟩
  ((with_reducible refine evL_cons ?_ ?hs_37); (case hs_37 => rfl))
  refine ev_tuple ?_
  ((with_reducible refine evL_cons ?_ ?hs_38); (case hs_38 => rfl); (with_reducible refine ev_str ?_); (with_reducible refine evL_cons ?_ ?hs_40); (case hs_40 => rfl); (with_reducible refine ev_str ?_); (with_reducible refine evL_nil ?_))
  refine ⟨szc 2, ?_⟩
  ((with_reducible refine evL_nil ?_))
  refine ⟨szc 6, fun a => ?_⟩
  show Exs _ (put _ _ _ (.val (.lst (refs5.map tupR)))) _ _
  ((refine exs_cons ?_); (with_reducible refine ex_assignN (by assumption) ?hx_4 ?hs_4 ?_); (case hx_4 => kernel_rfl); (case hs_4 => exact swaps_no (by rfl)))
  refine evF_dict0 okn fun aT => ?_
  refine exs_cons ?_
  refine ex_for okn ?_
  ((with_reducible refine ev_name (v := ?vv_44) (by assumption) ?hf_44 ?_ ?hn_44 ?hd_44); (case hf_44 => walk_at "sxf"); (case hn_44 => decide); (case hd_44 => decide))
  refine ⟨_, rfl, trivial, ?_⟩
  refine loop_listQ V.int xs (fun i σ => find σ (Str.ofString "refs") = some (.val (.lst (refs5.map tupR))) ∧ find σ (Str.ofString "table") = some (.dict aT (table5 (xs.take i)))) ?_ ?_ ⟨by walk_at "sxf", by walk_at "sxf"⟩ rfl
  · rintro i x σ Q1 hQ1 hx1 ⟨f1, f2⟩
    have hi := (List.getElem?_eq_some_iff.mp hx1).1
    have hstep : table5 (xs.take (i + 1)) = step5 (table5 (xs.take i)) x := by
      rw [List.take_add_one, hx1, ← table5_snoc]; rfl
    have hl := table5_len (xs.take i)
    have hli : (xs.take i).length ≤ 63 := take_le xs i hx
    unfold step5 at hstep
    generalize table5 (xs.take i) = t at f2 hstep hl
    refine asg_name okn (by kernel_rfl) ?_
    ((refine exs_cons ?_); (with_reducible refine ex_assign (by assumption) ?hx_2 ?hs_2 ?_); (case hx_2 => kernel_rfl); (case hs_2 => exact swaps_no (by rfl)))
    ((with_reducible refine ev_bin ?_); (with_reducible refine ev_name (v := ?vv_46) (by assumption) ?hf_46 ?_ ?hn_46 ?hd_46); (case hf_46 => walk_at "sxf"); (case hn_46 => decide); (case hd_46 => decide); (with_reducible refine ev_int ?_); (with_reducible refine op_div_int ?hg_48 ?hp_48 ?_); (case hg_48 => walk_at "sxg"); (case hp_48 => exact PyProof.noPylong_of_log2 (by decide +kernel)))
    generalize x.fdiv 11 = e at hstep ⊢
    ((refine exs_cons ?_); (with_reducible refine ex_if ?_))
    ((with_reducible refine tst_cmp ?_ ?hs_49); (case hs_49 => with_unfolding_all rfl); (with_reducible refine ev_bin ?_); (with_reducible refine ev_name (v := ?vv_51) (by assumption) ?hf_51 ?_ ?hn_51 ?hd_51); (case hf_51 => walk_at "sxf"); (case hn_51 => decide); (case hd_51 => decide); (with_reducible refine ev_int ?_); (with_reducible refine op_mod_int ?hg_53 ?_); (case hg_53 => walk_at "sxg"); (with_reducible refine ev_int ?_); (with_reducible refine op_ne_int ?_); (with_reducible refine exB ?_))
    refine ⟨fun hb => ?_, fun hb => ?_⟩
    · have hne : e.fmod 3 ≠ 0 := by simpa using hb
      rw [if_neg hne] at hstep
      obtain ⟨j, hj, hj7, hj2⟩ := fmodNat (e.fdiv 3) (m := 7) (by decide)
      have hj : (e.fdiv 3).fmod 7 = (j : Int) := hj
      have hj2 : ((e.fdiv 3).fmod 7).toNat = j := hj2
      have hk5 : key5 e = match refs5[j]? with | some p => (.s p.1, p.2) | none => (.i e, lit "&n;") := by unfold key5; rw [hj2] <;> (cases refs5[j]? <;> rfl)
      refine exs_cons ?_
      refine ex_unpack okn ?_ (by rfl) (by rfl)
      refine Tr.mono (Q := fun v σ' => v = .tup [(key5 e).1.v, .str (key5 e).2] ∧ σ' = put (put σ (Str.ofString "x") "x" (Slot.val (V.int x))) (Str.ofString "e") "e" (Slot.val (V.int e))) (ev_ifexp ?_) ?_
      · ((with_reducible refine tst_cmp ?_ ?hs_57); (case hs_57 => with_unfolding_all rfl); (with_reducible refine ev_bin ?_); (with_reducible refine ev_bin ?_); (with_reducible refine ev_name (v := ?vv_60) (by assumption) ?hf_60 ?_ ?hn_60 ?hd_60); (case hf_60 => walk_at "sxf"); (case hn_60 => decide); (case hd_60 => decide); (with_reducible refine ev_int ?_); (with_reducible refine op_div_int ?hg_62 ?hp_62 ?_); (case hg_62 => walk_at "sxg"); (case hp_62 => exact PyProof.noPylong_of_log2 (by decide +kernel)); (with_reducible refine ev_int ?_); (with_reducible refine op_mod_int ?hg_64 ?_); (case hg_64 => walk_at "sxg"); (with_reducible refine ev_int ?_); (with_reducible refine op_lt_int ?_); (with_reducible refine exB ?_))
        rw [hj]
        refine ⟨fun hb => ?_, fun hb => ?_⟩
        · have hb6 : j < 6 := Int.ofNat_lt.mp (of_decide_eq_true hb)
          obtain ⟨p, hp⟩ : ∃ p, refs5[j]? = some p := ⟨_, List.getElem?_eq_getElem (show j < refs5.length from hb6)⟩
          ((with_reducible refine ev_sub ?_ ?hs_68); (case hs_68 => (intro _ _; rfl)); (with_reducible refine ev_name (v := ?vv_69) (by assumption) ?hf_69 ?_ ?hn_69 ?hd_69); (case hf_69 => walk_at "sxf"); (case hn_69 => decide); (case hd_69 => decide); (with_reducible refine ev_bin ?_); (with_reducible refine ev_bin ?_); (with_reducible refine ev_name (v := ?vv_72) (by assumption) ?hf_72 ?_ ?hn_72 ?hd_72); (case hf_72 => walk_at "sxf"); (case hn_72 => decide); (case hd_72 => decide); (with_reducible refine ev_int ?_); (with_reducible refine op_div_int ?hg_74 ?hp_74 ?_); (case hg_74 => walk_at "sxg"); (case hp_74 => exact PyProof.noPylong_of_log2 (by decide +kernel)); (with_reducible refine ev_int ?_); (with_reducible refine op_mod_int ?hg_76 ?_); (case hg_76 => walk_at "sxg"))
          rw [hj]
          refine item_list (v := tupR p) (szc 6) (by rw [List.getElem?_map, hp]; rfl) ?_
          refine ⟨?_, rfl⟩
          rw [hk5, hp]; rfl
        · have hb6 : 6 ≤ j := Nat.not_lt.mp fun h => of_decide_eq_false hb (Int.ofNat_lt.mpr h)
          have hp : refs5[j]? = none := List.getElem?_eq_none (show refs5.length ≤ j from hb6)
          refine ev_tuple ?_
          ((with_reducible refine evL_cons ?_ ?hs_77); (case hs_77 => rfl); (with_reducible refine ev_name (v := ?vv_78) (by assumption) ?hf_78 ?_ ?hn_78 ?hd_78); (case hf_78 => walk_at "sxf"); (case hn_78 => decide); (case hd_78 => decide); (with_reducible refine evL_cons ?_ ?hs_79); (case hs_79 => rfl); (with_reducible refine ev_str ?_); (with_reducible refine evL_nil ?_))
          refine ⟨szc 2, ?_, rfl⟩
          rw [hk5, hp]; rfl
      rintro v σ' ⟨rfl, rfl⟩
      generalize key5 e = kr at hstep ⊢
      obtain ⟨k, ref⟩ := kr
      refine asg_tuple okn (asgL_cons (asg_name okn (by kernel_rfl) (asgL_cons (asg_name okn (by kernel_rfl) (asgL_nil ?_))))) (by rfl) (by rfl)
      ((refine exs_cons ?_); (with_reducible refine ex_assign (by assumption) ?hx_3 ?hs_3 ?_); (case hx_3 => kernel_rfl); (case hs_3 => exact swaps_no (by rfl)))
      ((with_reducible refine ev_bin ?_); (with_reducible refine ev_bin ?_); (with_reducible refine ev_name (v := ?vv_84) (by assumption) ?hf_84 ?_ ?hn_84 ?hd_84); (case hf_84 => walk_at "sxf"); (case hn_84 => decide); (case hd_84 => decide); (with_reducible refine ev_int ?_); (with_reducible refine op_div_int ?hg_86 ?hp_86 ?_); (case hg_86 => walk_at "sxg"); (case hp_86 => exact PyProof.noPylong_of_log2 (by decide +kernel)); (with_reducible refine ev_int ?_); (with_reducible refine op_mod_int ?hg_88 ?_); (case hg_88 => walk_at "sxg"))
      obtain ⟨v, hv, hv12, hv2⟩ := fmodNat (e.fdiv 21) (m := 12) (by decide)
      have hv : (e.fdiv 21).fmod 12 = (v : Int) := hv
      have hv2 : ((e.fdiv 21).fmod 12).toNat = v := hv2
      rw [hv]
      have hv5 : val5 e ref = if v < 9 then .str ref else if v = 9 then .none else if v = 10 then .int e else .bytes [120].toArray := by unfold val5; rw [hv2]
      refine exs_cons ?_
      refine ex_setItemO okn (a := aT) (P := fun _ => True) ?_ (by decide) (by decide) (by decide) (swaps_no (by rfl))
      obtain ⟨σ2, hσ2⟩ : ∃ σ2, σ2 = put (put (put (put (put σ (Str.ofString "x") "x" (Slot.val (V.int x))) (Str.ofString "e") "e" (Slot.val (V.int e))) (Str.ofString "key") "key" (Slot.val k.v)) (Str.ofString "ref") "ref" (Slot.val (V.str ref))) (Str.ofString "v") "v" (Slot.val (V.int v)) := ⟨_, rfl⟩
      have g1 : find σ2 (Str.ofString "v") = some (.val (.int v)) := by rw [hσ2]; walk_at "sxf"
      have g2 : find σ2 (Str.ofString "ref") = some (.val (.str ref)) := by rw [hσ2]; walk_at "sxf"
      have g3 : find σ2 (Str.ofString "e") = some (.val (.int e)) := by rw [hσ2]; walk_at "sxf"
      have g4 : find σ2 (Str.ofString "key") = some (.val k.v) := by rw [hσ2]; walk_at "sxf"
      have g5 : find σ2 (Str.ofString "table") = some (.dict aT t) := by rw [hσ2]; walk_at "sxf"
      have g6 : find σ2 (Str.ofString "refs") = some (.val (.lst (refs5.map tupR))) := by rw [hσ2]; walk_at "sxf"
      rw [← hσ2]
      clear hσ2
      refine Tr.mono (Q := fun w σ' => w = val5 e ref ∧ σ' = σ2) (ev_ifexp ?_) ?_
      · ((with_reducible refine tst_cmp ?_ ?hs_89); (case hs_89 => with_unfolding_all rfl); (with_reducible refine ev_name (v := ?vv_90) (by assumption) ?hf_90 ?_ ?hn_90 ?hd_90); (case hf_90 => walk_at "sxf"); (case hn_90 => decide); (case hd_90 => decide); (with_reducible refine ev_int ?_); (with_reducible refine op_lt_int ?_); (with_reducible refine exB ?_))
        refine ⟨fun hb => ?_, fun hb => ?_⟩
        · have hb9 : v < 9 := Int.ofNat_lt.mp (of_decide_eq_true hb)
          ((with_reducible refine ev_name (v := ?vv_94) (by assumption) ?hf_94 ?_ ?hn_94 ?hd_94); (case hf_94 => walk_at "sxf"); (case hn_94 => decide); (case hd_94 => decide))
          exact ⟨by rw [hv5, if_pos hb9], rfl⟩
        · have hb9 : 9 ≤ v := Nat.not_lt.mp fun h => of_decide_eq_false hb (Int.ofNat_lt.mpr h)
          ((with_reducible refine ev_sub ?_ ?hs_95); (case hs_95 => (intro _ _; rfl)))
          refine ev_ofF ?_
          refine evF_list ?_
          ((with_reducible refine evL_cons ?_ ?hs_96); (case hs_96 => rfl); (with_reducible refine ev_none ?_); (with_reducible refine evL_cons ?_ ?hs_98); (case hs_98 => rfl); (with_reducible refine ev_name (v := ?vv_99) (by assumption) ?hf_99 ?_ ?hn_99 ?hd_99); (case hf_99 => walk_at "sxf"); (case hn_99 => decide); (case hd_99 => decide); (with_reducible refine evL_cons ?_ ?hs_100); (case hs_100 => rfl))
          refine ev_bytes ?_
          ((with_reducible refine evL_nil ?_))
          refine ⟨szc 3, fun a3 => ?_⟩
          ((with_reducible refine ev_bin ?_); (with_reducible refine ev_name (v := ?vv_103) (by assumption) ?hf_103 ?_ ?hn_103 ?hd_103); (case hf_103 => walk_at "sxf"); (case hn_103 => decide); (case hd_103 => decide); (with_reducible refine ev_int ?_); (with_reducible refine op_sub_int ?_))
          rw [show (v : Int) - 9 = ((v - 9 : Nat) : Int) by omega]
          refine item_list (l := [V.none, V.int e, V.bytes [120].toArray]) (i := v - 9) (v := val5 e ref) (szc 3) ?_ ⟨rfl, rfl⟩
          rw [hv5]
          match v, hb9, hv12 with
          | 9, _, _ => rfl
          | 10, _, _ => rfl
          | 11, _, _ => rfl
      rintro w σ' ⟨rfl, rfl⟩
      refine ⟨.dict aT t, g5, rfl, ?_⟩
      ((with_reducible refine ev_name (v := ?vv_106) (by assumption) ?hf_106 ?_ ?hn_106 ?hd_106); (case hf_106 => walk_at "sxf"); (case hn_106 => decide); (case hd_106 => decide))
      refine ⟨.dict aT t, g5, rfl, opM_setItem (k := k) (Nat.le_trans hl (Nat.le_trans hli (szc 63))) ?_⟩
      rw [← hstep]
      exact exs_nil (exs_nil (hQ1 _ ⟨by walk_at "sxf", by walk_at "sxf"⟩))
    · have he : e.fmod 3 = 0 := by simpa using hb
      rw [if_pos he] at hstep
      rw [hstep] at hQ1
      exact exs_nil (exs_nil (hQ1 _ ⟨by walk_at "sxf", by walk_at "sxf"⟩))
  · rintro σ ⟨f1, f2⟩
    rw [List.take_length] at f2
    refine exs_nil ?_
    refine Tr.freeze (x := "table") f2 rfl ?_ (by decide)
    ((refine exs_cons ?_); (with_reducible refine ex_return ?_))
    ((with_reducible refine ev_name (v := ?vv_107) (by assumption) ?hf_107 ?_ ?hn_107 ?hd_107); (case hf_107 => walk_at "sxf"); (case hn_107 => decide); (case hd_107 => decide))
    exact hQ _ _ rfl
theorem tst_isiE {C : Cx} {n : Nat} (ok : C.Ok n) (I : In05 C) {σ : St} {T : String} {p1 p3 p : Pos} {e : Expr} {Q : Bool → St → Prop} (hki : C.env.kindOf (Str.ofString "isinstance") = some .globalImplicit) (hkT : C.env.kindOf (Str.ofString T) = some .globalImplicit) (hT : IsiT T) (h : Ev C σ e (fun v σ1 => IsiV v ∧ Q (decide (tyV v = T)) σ1)) (hs1 : starEach [e, .Name (Str.ofString T) p3] C.env = (false, eval e C.env) :: starEach [.Name (Str.ofString T) p3] C.env) (hs2 : (starEach [e, .Name (Str.ofString T) p3] C.env).all (fun x => !x.1) = true) :
    Tst C σ (.Call (.Name (Str.ofString "isinstance") p1) [e, .Name (Str.ofString T) p3] [] p) Q := by
  have hG : C.W.gls = _ := I.hG
  refine tst_val ?_ (by rfl)
  refine ev_fn ok hG hki (by rfl) .bi ?_ hs2 (by rfl) (by decide)
  refine evL_cons ?_ hs1
  refine Tr.mono h fun v σ1 hv => ?_
  refine evL_cons ?_ (by rfl)
  refine ev_glob ok (v := .type T) hkT (by rw [hG]; cases hT <;> rfl) ?_ (by cases hT <;> decide)
  refine evL_nil ?_
  exact opL_isi hv.1 hT (truthy_V (.bool _) hv.2)
theorem tst_isi {C : Cx} {n : Nat} (ok : C.Ok n) (I : In05 C) {σ : St} {x T : String} {p1 p2 p3 p : Pos} {v : V} {Q : Bool → St → Prop} (hki : C.env.kindOf (Str.ofString "isinstance") = some .globalImplicit) (hkT : C.env.kindOf (Str.ofString T) = some .globalImplicit) (hf : find σ (Str.ofString x) = some (.val v)) (hx : (Str.ofString x == ("__classdict__" : Str)) = false) (hd : (Str.ofString x == ("__debug__" : Str)) = false) (hv : IsiV v) (hT : IsiT T) (h : Q (decide (tyV v = T)) σ) :
    Tst C σ (.Call (.Name (Str.ofString "isinstance") p1) [.Name (Str.ofString x) p2, .Name (Str.ofString T) p3] [] p) Q :=
  tst_isiE ok I hki hkT hT (ev_name ok hf ⟨hv, h⟩ hx hd) (by rfl) (by rfl)
theorem key_isi (k : Key) : IsiV k.v := by
  cases k
  · exact .str _
  · exact .int _
theorem any_false_of {α} {p : α → Bool} {l : List α} (h : ∀ (i : Nat) x, l[i]? = some x → p x = false) : l.any p = false := by
  rw [List.any_eq_false]
  intro x hx
  obtain ⟨i, hi⟩ := List.mem_iff_getElem?.mp hx
  rw [h i x hi]; exact Bool.false_ne_true
set_option maxHeartbeats 4000000 in
theorem c_refused {C : Cx} {n : Nat} (ok : C.Ok (n + 1)) (I : In05 C) {data given : V} {q : Bool} (hd : IsiV data) (hg : IsiV given) (ht : TruV given) (hnd : ∀ es, given = .dct es → es.length ≤ 100 ∧ (∀ (i : Nat) (p : Key × V), es[i]? = some p → dget es p.1 = some p.2 ∧ IsiV p.2)) :
    OpL C (Rep C.W) (fun ws => call (.ref 62) ws) [data, given, .bool q] (fun v => v = .str (refused5 data given q)) := by
  refine fn_callQ ok (fnAt_of (a := 62) I.hF (by rfl) (by rfl) (by rfl) (by rfl) (by rfl) (by rfl) (by rfl) (by rfl) (by rfl)) (ps := ["data", "given", "quoting"]) (dvs := []) (ds := []) ?_ (fun _ _ _ _ => .nil) (by decide) (by rfl) fun A L qn cd Q hQ okn => ?_
  · exact fun s ws _ hl => binds_plain (n := 3) (fun ws hl => by
      obtain ⟨a, b, c, rfl⟩ := len3 hl
      rfl) s ws hl
  have I' : In05 (fnCx C.W A (fdAt (F05 C.W.w) 62).scope L 62 qn cd) := ⟨I.hF, I.hG⟩
  have hG : (fnCx C.W A (fdAt (F05 C.W.w) 62).scope L 62 qn cd).W.gls = _ := I.hG
  have hsz : sizeLine = 16777216 := sizeLine_eq
  have hend : ∀ {r : S} σ', refused5 data given q = r → Q (.ret (.str r)) σ' := fun σ' e => hQ _ _ (by rw [e])
  clear hQ
  unfold refused5 at hend
  obtain ⟨σ, hσ⟩ : ∃ σ, σ = mkSt ["data", "given", "quoting"] [data, given, .bool q] := ⟨_, rfl⟩
  have f1 : find σ (Str.ofString "data") = some (.val data) := by rw [hσ]; walk_at "sxf"
  have f2 : find σ (Str.ofString "given") = some (.val given) := by rw [hσ]; walk_at "sxf"
  have f3 : find σ (Str.ofString "quoting") = some (.val (.bool q)) := by rw [hσ]; walk_at "sxf"
  show Exs _ (mkSt ["data", "given", "quoting"] [data, given, .bool q]) _ _
  rw [← hσ]
  clear hσ
  ((refine exs_cons ?_); (with_reducible refine ex_if ?_))
  refine Tr.mono (Q := fun b σ' => b = (q && !decide (tyV given = "dict")) ∧ σ' = σ) (tst_bool (allT_and (tst_val ?_ (by rfl)))) ?_
  · ((with_reducible refine ev_name (v := ?vv_13) (by assumption) ?hf_13 ?_ ?hn_13 ?hd_13); (case hf_13 => walk_at "sxf"); (case hn_13 => decide); (case hd_13 => decide))
    refine truthy_V (.bool q) ⟨fun hq => ?_, fun hq => ?_⟩
    · have hq : q = true := hq
      subst hq
      refine allT_and (tst_not (tst_isi okn I' (by kernel_rfl) (by kernel_rfl) f2 (by decide) (by decide) hg .d ⟨fun hb => allT_and_nil ⟨?_, rfl⟩, fun hb => ⟨?_, rfl⟩⟩))
      · rw [hb]; rfl
      · rw [hb]; rfl
    · have hq : q = false := hq
      subst hq
      exact ⟨rfl, rfl⟩
  rintro b σ' ⟨rfl, rfl⟩
  refine ⟨fun hb => ?_, fun hb => ?_⟩
  · rw [if_pos hb] at hend
    ((refine exs_cons ?_); (with_reducible refine ex_return ?_))
    ((with_reducible refine ev_str ?_))
    exact hend _ rfl
  rw [if_neg (by rw [hb]; exact Bool.false_ne_true)] at hend
  refine exs_nil ?_
  ((refine exs_cons ?_); (with_reducible refine ex_if ?_))
  refine tst_isi okn I' (by kernel_rfl) (by kernel_rfl) f1 (by decide) (by decide) hd .b ⟨fun hb => ?_, fun hb => ?_⟩
  · rw [if_pos (of_decide_eq_true hb)] at hend
    ((refine exs_cons ?_); (with_reducible refine ex_return ?_))
    ((with_reducible refine ev_str ?_))
    exact hend _ rfl
  rw [if_neg (of_decide_eq_false hb)] at hend
  refine exs_nil ?_
  ((refine exs_cons ?_); (with_reducible refine ex_if ?_))
  refine tst_not (tst_isi okn I' (by kernel_rfl) (by kernel_rfl) f1 (by decide) (by decide) hd .s ⟨fun hb => ?_, fun hb => ?_⟩)
  · rw [if_pos (by simpa using hb)] at hend
    ((refine exs_cons ?_); (with_reducible refine ex_return ?_))
    ((with_reducible refine ev_str ?_))
    exact hend _ rfl
  rw [if_neg (by simpa using hb)] at hend
  refine exs_nil ?_
  ((refine exs_cons ?_); (with_reducible refine ex_if ?_))
  refine tst_not (tst_isi okn I' (by kernel_rfl) (by kernel_rfl) f2 (by decide) (by decide) hg .d ⟨fun hb => ?_, fun hb => ?_⟩)
  · rw [if_pos (by simpa using hb)] at hend
    ((refine exs_cons ?_); (with_reducible refine ex_return ?_))
    refine ev_ifexp (tst_val ?_ (by rfl))
    ((with_reducible refine ev_name (v := ?vv_17) (by assumption) ?hf_17 ?_ ?hn_17 ?hd_17); (case hf_17 => walk_at "sxf"); (case hn_17 => decide); (case hd_17 => decide))
    refine truthy_V ht ⟨fun hb => ?_, fun hb => ?_⟩
    · rw [if_pos hb] at hend
      ((with_reducible refine ev_str ?_))
      exact hend _ rfl
    · rw [if_neg (by rw [hb]; exact Bool.false_ne_true)] at hend
      ((with_reducible refine ev_str ?_))
      exact hend _ rfl
  have hgd : tyV given = "dict" := by simpa using hb
  rw [if_neg (fun h => h hgd)] at hend
  obtain ⟨es, rfl⟩ : ∃ es, given = .dct es := by
    cases hg <;> first | exact ⟨_, rfl⟩ | (exfalso; exact absurd hgd (show ¬ (_ : String) = _ by simp only [tyV]; decide))
  obtain ⟨hlen, hnd⟩ := hnd es rfl
  refine exs_nil ?_
  refine exs_cons (ex_for okn ?_)
  ((with_reducible refine ev_name (v := ?vv_20) (by assumption) ?hf_20 ?_ ?hn_20 ?hd_20); (case hf_20 => walk_at "sxf"); (case hn_20 => decide); (case hd_20 => decide))
  refine ⟨_, rfl, trivial, ?_⟩
  refine loop_list (fun p : Key × V => p.1.v) es (fun i σ => (∀ j p, j < i → es[j]? = some p → badE q p = false) ∧ find σ (Str.ofString "given") = some (.val (.dct es)) ∧ find σ (Str.ofString "quoting") = some (.val (.bool q))) ?_ ?_ ⟨fun j p h => (Nat.not_lt_zero _ h).elim, f2, f3⟩ rfl
  · intro i p σ2 hp hI
    have g2 := hI.2.1
    have g3 := hI.2.2
    have hI := hI.1
    obtain ⟨hdg, hiv⟩ := hnd i p hp
    refine asg_name okn (by kernel_rfl) ?_
    obtain ⟨σ3, hσ3⟩ : ∃ σ3, σ3 = put σ2 (Str.ofString "key") "key" (Slot.val p.1.v) := ⟨_, rfl⟩
    have k1 : find σ3 (Str.ofString "key") = some (.val p.1.v) := by rw [hσ3]; walk_at "sxf"
    have k2 : find σ3 (Str.ofString "given") = some (.val (.dct es)) := by rw [hσ3]; walk_at "sxf"
    have k3 : find σ3 (Str.ofString "quoting") = some (.val (.bool q)) := by rw [hσ3]; walk_at "sxf"
    rw [← hσ3]
    clear hσ3
    have hgo : badE q p = false → (∀ j p, j < i + 1 → es[j]? = some p → badE q p = false) := by
      intro h j p' hj hp'
      rcases Nat.lt_succ_iff_lt_or_eq.mp hj with h1 | h1
      · exact hI j p' h1 hp'
      · subst h1; rw [hp] at hp'; injection hp' with e; rw [← e]; exact h
    ((refine exs_cons ?_); (with_reducible refine ex_if ?_))
    refine Tr.mono (Q := fun b σ' => b = !(skip5 q p.1) ∧ σ' = σ3) (tst_not (tst_bool (allT_and (tst_val ?_ (by rfl))))) ?_
    · ((with_reducible refine ev_name (v := ?vv_21) (by assumption) ?hf_21 ?_ ?hn_21 ?hd_21); (case hf_21 => walk_at "sxf"); (case hn_21 => decide); (case hd_21 => decide))
      refine truthy_V (.bool q) ⟨fun hq => ?_, fun hq => ?_⟩
      · have hq : q = true := hq
        subst hq
        refine allT_and (tst_cmp ?_ (by with_unfolding_all rfl))
        ((with_reducible refine ev_name (v := ?vv_22) (by assumption) ?hf_22 ?_ ?hn_22 ?hd_22); (case hf_22 => walk_at "sxf"); (case hn_22 => decide); (case hd_22 => decide))
        refine ev_ofF ?_
        refine evF_list ?_
        ((with_reducible refine evL_cons ?_ ?hs_23); (case hs_23 => rfl); (with_reducible refine ev_str ?_); (with_reducible refine evL_cons ?_ ?hs_25); (case hs_25 => rfl); (with_reducible refine ev_str ?_); (with_reducible refine evL_cons ?_ ?hs_27); (case hs_27 => rfl); (with_reducible refine ev_str ?_); (with_reducible refine evL_nil ?_))
        refine ⟨szc 3, fun a3 => ?_⟩
        refine op_in_keys okn (ls := white5) ?_
        refine ⟨_, rfl, fun hb => allT_and_nil ⟨?_, rfl⟩, fun hb => ⟨?_, rfl⟩⟩
        · rw [skip5, hb]; rfl
        · rw [skip5, hb]; rfl
      · have hq : q = false := hq
        subst hq
        exact ⟨rfl, rfl⟩
    rintro b σ' ⟨rfl, rfl⟩
    refine ⟨fun hb => ?_, fun hb => ?_⟩
    · ((refine exs_cons ?_); (with_reducible refine ex_if ?_))
      have hbe : badE q p = !(decide (tyV p.1.v = "str") && decide (tyV p.2 = "str")) := by
        unfold badE; rw [hb]; rfl
      refine Tr.mono (Q := fun b σ'' => b = badE q p ∧ σ'' = σ') (tst_bool (allT_or (tst_not (tst_isi okn I' (by kernel_rfl) (by kernel_rfl) k1 (by decide) (by decide) (key_isi _) .s ⟨fun h1 => ?_, fun h1 => ⟨?_, rfl⟩⟩)))) ?_
      · have h1 : decide (tyV p.1.v = "str") = true := by simpa using h1
        refine allT_or (tst_not (tst_isiE okn I' (by kernel_rfl) (by kernel_rfl) .s ?_ (by rfl) (by rfl)))
        ((with_reducible refine ev_sub ?_ ?hs_30); (case hs_30 => (intro _ _; rfl)); (with_reducible refine ev_name (v := ?vv_31) (by assumption) ?hf_31 ?_ ?hn_31 ?hd_31); (case hf_31 => walk_at "sxf"); (case hn_31 => decide); (case hd_31 => decide); (with_reducible refine ev_name (v := ?vv_32) (by assumption) ?hf_32 ?_ ?hn_32 ?hd_32); (case hf_32 => walk_at "sxf"); (case hn_32 => decide); (case hd_32 => decide))
        refine item_dict hdg ⟨hiv, fun h2 => allT_or_nil ⟨?_, rfl⟩, fun h2 => ⟨?_, rfl⟩⟩
        · rw [hbe, h1]; simpa using h2
        · rw [hbe, h1]; simpa using h2
      · have h1 : decide (tyV p.1.v = "str") = false := by simpa using h1
        rw [hbe, h1]; rfl
      rintro b σ'' ⟨rfl, rfl⟩
      refine ⟨fun hb => ?_, fun hb => ?_⟩
      · ((refine exs_cons ?_); (with_reducible refine ex_return ?_))
        ((with_reducible refine ev_str ?_))
        refine hend _ ?_
        rw [if_pos]
        show es.any _ = true
        rw [List.any_eq_true]
        exact ⟨p, List.mem_of_getElem? hp, hb⟩
      · exact exs_nil (exs_nil (exs_nil ⟨hgo hb, k2, k3⟩))
    · refine exs_nil (exs_nil ⟨hgo ?_, k2, k3⟩)
      unfold badE; rw [hb]; rfl
  · intro σ2 hI
    have hI := hI.1
    refine exs_nil ?_
    ((refine exs_cons ?_); (with_reducible refine ex_return ?_))
    ((with_reducible refine ev_str ?_))
    refine hend _ ?_
    rw [show (dctOf (V.dct es)).any (badE q) = false from any_false_of fun i x hx => hI i x (List.getElem?_eq_some_iff.mp hx).1 hx]
    rfl
noncomputable def tupS (p : S × S) : V := .tup [.str p.1, .str p.2]
set_option maxHeartbeats 4000000 in
theorem c_read {C : Cx} {n : Nat} (ok : C.Ok (n + 1)) (I : In05 C) {t : S} {es : List (Key × V)} (ht : t.length ≤ 100000) (hg : Good5 es t) :
    OpL C (Rep C.W) (fun ws => call (.ref 69) ws) [.str t, .dct es] (fun v => v = .str (read5 es t)) := by
  refine fn_callQ ok (fnAt_of (a := 69) I.hF (by rfl) (by rfl) (by rfl) (by rfl) (by rfl) (by rfl) (by rfl) (by rfl) (by rfl)) (ps := ["text", "table"]) (dvs := []) (ds := []) ?_ (fun _ _ _ _ => .nil) (by decide) (by rfl) fun A L q cd Q hQ okn => ?_
  · exact fun s ws _ hl => binds_plain (n := 2) (fun ws hl => by
      obtain ⟨a, b, rfl⟩ := len2 hl
      rfl) s ws hl
  have hG : (fnCx C.W A (fdAt (F05 C.W.w) 69).scope L 69 q cd).W.gls = _ := I.hG
  have hsz : sizeLine = 16777216 := sizeLine_eq
  have hrl := read5_len es t.length t (Nat.le_refl _) fun c hc => (hg c hc).2
  ((refine exs_cons ?_); (with_reducible refine ex_assign (by assumption) ?hx_1 ?hs_1 ?_); (case hx_1 => kernel_rfl); (case hs_1 => exact swaps_no (by rfl)))
  ((with_reducible refine ev_str ?_))
  ((refine exs_cons ?_); (with_reducible refine ex_assign (by assumption) ?hx_2 ?hs_2 ?_); (case hx_2 => kernel_rfl); (case hs_2 => exact swaps_no (by rfl)))
  ((with_reducible refine ev_int ?_))
  refine exs_cons ?_
  refine ex_whileQ okn (fun k σ => ∃ (i : Nat) (acc : S), k = t.length - i ∧ find σ (Str.ofString "text") = some (.val (.str t)) ∧ find σ (Str.ofString "table") = some (.val (.dct es)) ∧ find σ (Str.ofString "i") = some (.val (.int i)) ∧ find σ (Str.ofString "read") = some (.val (.str acc)) ∧ acc ++ read5 es (t.drop i) = read5 es t) ?_ t.length
      ⟨0, [], rfl, by walk_at "sxf", by walk_at "sxf", by walk_at "sxf", by walk_at "sxf", rfl⟩
  rintro k σ Q1 Q' hQ1 hQ' ⟨i, acc, rfl, f1, f2, f3, f4, hr⟩
  ((with_reducible refine tst_cmp ?_ ?hs_11); (case hs_11 => with_unfolding_all rfl); (with_reducible refine ev_name (v := ?vv_12) (by assumption) ?hf_12 ?_ ?hn_12 ?hd_12); (case hf_12 => walk_at "sxf"); (case hn_12 => decide); (case hd_12 => decide); (with_reducible refine ev_fn (w := ?ww_13) (L := ?LL_13) (by assumption) ?hGG_13 ?h1_13 ?h2_13 ?hc_13 ?_ ?h3_13 ?h4_13 ?h5_13); (case hGG_13 => assumption); (case h1_13 => kernel_rfl); (case h2_13 => rfl); (case hc_13 => exact .bi); (case h3_13 => rfl); (case h4_13 => rfl); (case h5_13 => decide); (with_reducible refine evL_cons ?_ ?hs_14); (case hs_14 => rfl); (with_reducible refine ev_name (v := ?vv_15) (by assumption) ?hf_15 ?_ ?hn_15 ?hd_15); (case hf_15 => walk_at "sxf"); (case hn_15 => decide); (case hd_15 => decide); (with_reducible refine evL_nil ?_); (with_reducible refine opL_len_str ?hg_17 ?_); (case hg_17 => walk_at "sxg"); (with_reducible refine op_lt_int ?_); (with_reducible refine exB ?_))
  refine ⟨fun hb => ?_, fun hb => ?_⟩
  · have hge : t.length ≤ i := by have := of_decide_eq_false hb; omega
    rw [List.drop_eq_nil_of_le hge, read5, List.append_nil] at hr
    subst hr
    refine hQ1 _ (exs_nil ?_)
    ((refine exs_cons ?_); (with_reducible refine ex_return ?_))
    ((with_reducible refine ev_name (v := ?vv_20) (by assumption) ?hf_20 ?_ ?hn_20 ?hd_20); (case hf_20 => walk_at "sxf"); (case hn_20 => decide); (case hd_20 => decide))
    exact hQ _ _ rfl
  have hlt : i < t.length := by have := of_decide_eq_true hb; omega
  have hc : t[i]? = some (t.getD i 0) := by rw [List.getD_eq_getElem?_getD, List.getElem?_eq_getElem hlt]; rfl
  have hdrop : t.drop i = t.getD i 0 :: t.drop (i + 1) := by
    rw [List.getD_eq_getElem?_getD, List.getElem?_eq_getElem hlt, Option.getD_some, ← List.drop_eq_getElem_cons hlt]
  generalize t.getD i 0 = c at hc hdrop
  have hgc := hg c (List.mem_of_getElem? hc)
  have hal : acc.length ≤ 8 * t.length := by
    have := congrArg List.length hr
    rw [List.length_append] at this
    omega
  rw [hdrop, read5] at hr
  have hsel := sel5_le (c :: t.drop (i + 1)) rd5 (1, rf5 es c) rd5_le ⟨Nat.le_refl 1, Nat.le_add_left 1 4, hgc.2⟩
  rw [← hdrop] at hr hsel
  ((refine exs_cons ?_); (with_reducible refine ex_assign (by assumption) ?hx_3 ?hs_3 ?_); (case hx_3 => kernel_rfl); (case hs_3 => exact swaps_no (by rfl)))
  ((with_reducible refine ev_int ?_))
  ((refine exs_cons ?_); (with_reducible refine ex_assign (by assumption) ?hx_4 ?hs_4 ?_); (case hx_4 => kernel_rfl); (case hs_4 => exact swaps_no (by rfl)))
  ((with_reducible refine ev_meth ?_ ?h1_22 ?h2_22 ?h3_22 ?h4_22); (case h1_22 => rfl); (case h2_22 => rfl); (case h3_22 => rfl); (case h4_22 => rfl); (with_reducible refine ev_name (v := ?vv_23) (by assumption) ?hf_23 ?_ ?hn_23 ?hd_23); (case hf_23 => walk_at "sxf"); (case hn_23 => decide); (case hd_23 => decide); (with_reducible refine ⟨_, _, methOk_dct PySem.F.slot_dict_get PySem.F.type_dict_get, ?_⟩); (with_reducible refine evL_cons ?_ ?hs_25); (case hs_25 => rfl); (with_reducible refine ev_sub ?_ ?hs_26); (case hs_26 => (intro _ _; rfl)); (with_reducible refine ev_name (v := ?vv_27) (by assumption) ?hf_27 ?_ ?hn_27 ?hd_27); (case hf_27 => walk_at "sxf"); (case hn_27 => decide); (case hd_27 => decide); (with_reducible refine ev_name (v := ?vv_28) (by assumption) ?hf_28 ?_ ?hn_28 ?hd_28); (case hf_28 => walk_at "sxf"); (case hn_28 => decide); (case hd_28 => decide); (with_reducible refine item_str (c := ?cc_29) ?hg_29 ?hi_29 ?_); (case hi_29 => assumption); (case hg_29 => walk_at "sxg"); (with_reducible refine evL_cons ?_ ?hs_30); (case hs_30 => rfl); (with_reducible refine ev_sub ?_ ?hs_31); (case hs_31 => (intro _ _; rfl)); (with_reducible refine ev_name (v := ?vv_32) (by assumption) ?hf_32 ?_ ?hn_32 ?hd_32); (case hf_32 => walk_at "sxf"); (case hn_32 => decide); (case hd_32 => decide); (with_reducible refine ev_name (v := ?vv_33) (by assumption) ?hf_33 ?_ ?hn_33 ?hd_33); (case hf_33 => walk_at "sxf"); (case hn_33 => decide); (case hd_33 => decide); (with_reducible refine item_str (c := ?cc_34) ?hg_34 ?hi_34 ?_); (case hi_34 => assumption); (case hg_34 => walk_at "sxg"); (with_reducible refine evL_nil ?_); (with_reducible refine get_str ?_))
  rw [hgc.1]
  refine exs_cons (ex_for okn ?_)
  refine ev_ofF ?_
  refine evF_list ?_
  ((with_reducible refine evL_cons ?_ ?hs_37); (case hs_37 => rfl))
  refine ev_tuple ?_
  ((with_reducible refine evL_cons ?_ ?hs_38); (case hs_38 => rfl); (with_reducible refine ev_str ?_); (with_reducible refine evL_cons ?_ ?hs_40); (case hs_40 => rfl); (with_reducible refine ev_str ?_); (with_reducible refine evL_nil ?_))
  refine ⟨szc 2, ?_⟩
  ((with_reducible refine evL_cons ?_ ?hs_43); (case hs_43 => rfl))
  refine ev_tuple ?_
  ((with_reducible refine evL_cons ?_ ?hs_44); (case hs_44 => rfl); (with_reducible refine ev_str ?_); (with_reducible refine evL_cons ?_ ?hs_46); (case hs_46 => rfl); (with_reducible refine ev_str ?_); (with_reducible refine evL_nil ?_))
  refine ⟨szc 2, ?_⟩
  ((with_reducible refine evL_cons ?_ ?hs_49); (case hs_49 => rfl))
  refine ev_tuple ?_
  ((with_reducible refine evL_cons ?_ ?hs_50); (case hs_50 => rfl); (with_reducible refine ev_str ?_); (with_reducible refine evL_cons ?_ ?hs_52); (case hs_52 => rfl); (with_reducible refine ev_str ?_); (with_reducible refine evL_nil ?_))
  refine ⟨szc 2, ?_⟩
  ((with_reducible refine evL_nil ?_))
  refine ⟨szc 3, fun a3 => ?_⟩
  refine ⟨rd5.map tupS, rfl, trivial, ?_⟩
  refine loop_listQ tupS rd5 (fun j σ => find σ (Str.ofString "text") = some (.val (.str t)) ∧ find σ (Str.ofString "table") = some (.val (.dct es)) ∧ find σ (Str.ofString "i") = some (.val (.int i)) ∧ find σ (Str.ofString "read") = some (.val (.str acc)) ∧
      find σ (Str.ofString "size") = some (.val (.int (sel5 (t.drop i) (rd5.take j) (1, rf5 es c)).1)) ∧ find σ (Str.ofString "sign") = some (.val (.str (sel5 (t.drop i) (rd5.take j) (1, rf5 es c)).2))) ?_ ?_ ⟨by walk_at "sxf", by walk_at "sxf", by walk_at "sxf", by walk_at "sxf", by walk_at "sxf", by walk_at "sxf"⟩ rfl
  · intro j p σ2 Q2 hQ2 hp hI
    have g1 := hI.1
    have g2 := hI.2.1
    have g3 := hI.2.2.1
    have g4 := hI.2.2.2.1
    have g5 := hI.2.2.2.2.1
    have g6 := hI.2.2.2.2.2
    clear hI
    have hpl := rd5_le p (List.mem_of_getElem? hp)
    have hst : sel5 (t.drop i) (rd5.take (j + 1)) (1, rf5 es c) = if (t.drop i).take p.1.length = p.1 then (p.1.length, p.2) else sel5 (t.drop i) (rd5.take j) (1, rf5 es c) := by
      unfold sel5
      rw [List.take_add_one, hp, List.foldl_append]; rfl
    rw [hst] at hQ2
    clear hst
    generalize sel5 (t.drop i) (rd5.take j) (1, rf5 es c) = a at g5 g6 hQ2
    obtain ⟨p1, p2⟩ := p
    refine asg_tuple okn (asgL_cons (asg_name okn (by kernel_rfl) (asgL_cons (asg_name okn (by kernel_rfl) (asgL_nil ?_))))) (by rfl) (by rfl)
    ((refine exs_cons ?_); (with_reducible refine ex_if ?_))
    ((with_reducible refine tst_cmp ?_ ?hs_56); (case hs_56 => with_unfolding_all rfl); (with_reducible refine ev_sliceT ?_); (with_reducible refine ev_name (v := ?vv_58) (by assumption) ?hf_58 ?_ ?hn_58 ?hd_58); (case hf_58 => walk_at "sxf"); (case hn_58 => decide); (case hd_58 => decide); (with_reducible refine exS ?hg_59 ?_); (case hg_59 => walk_at "sxg"); (with_reducible refine evP_some ?_); (with_reducible refine ev_name (v := ?vv_61) (by assumption) ?hf_61 ?_ ?hn_61 ?hd_61); (case hf_61 => walk_at "sxf"); (case hn_61 => decide); (case hd_61 => decide); (with_reducible refine exI ?_); (with_reducible refine evP_some ?_); (with_reducible refine ev_bin ?_); (with_reducible refine ev_name (v := ?vv_65) (by assumption) ?hf_65 ?_ ?hn_65 ?hd_65); (case hf_65 => walk_at "sxf"); (case hn_65 => decide); (case hd_65 => decide); (with_reducible refine ev_fn (w := ?ww_66) (L := ?LL_66) (by assumption) ?hGG_66 ?h1_66 ?h2_66 ?hc_66 ?_ ?h3_66 ?h4_66 ?h5_66); (case hGG_66 => assumption); (case h1_66 => kernel_rfl); (case h2_66 => rfl); (case hc_66 => exact .bi); (case h3_66 => rfl); (case h4_66 => rfl); (case h5_66 => decide); (with_reducible refine evL_cons ?_ ?hs_67); (case hs_67 => rfl); (with_reducible refine ev_name (v := ?vv_68) (by assumption) ?hf_68 ?_ ?hn_68 ?hd_68); (case hf_68 => walk_at "sxf"); (case hn_68 => decide); (case hd_68 => decide); (with_reducible refine evL_nil ?_); (with_reducible refine opL_len_str ?hg_70 ?_); (case hg_70 => walk_at "sxg"); (with_reducible refine op_add_int ?_); (with_reducible refine exI ?_); (with_reducible refine ev_name (v := ?vv_73) (by assumption) ?hf_73 ?_ ?hn_73 ?hd_73); (case hf_73 => walk_at "sxf"); (case hn_73 => decide); (case hd_73 => decide); (with_reducible refine op_eq_str ?_); (with_reducible refine exB ?_))
    rw [slc_lohi]
    skip
    refine ⟨fun hb4 => ?_, fun hb4 => ?_⟩
    · rw [if_pos (of_decide_eq_true hb4)] at hQ2
      ((refine exs_cons ?_); (with_reducible refine ex_assign (by assumption) ?hx_5 ?hs_5 ?_); (case hx_5 => kernel_rfl); (case hs_5 => exact swaps_no (by rfl)))
      ((with_reducible refine ev_fn (w := ?ww_76) (L := ?LL_76) (by assumption) ?hGG_76 ?h1_76 ?h2_76 ?hc_76 ?_ ?h3_76 ?h4_76 ?h5_76); (case hGG_76 => assumption); (case h1_76 => kernel_rfl); (case h2_76 => rfl); (case hc_76 => exact .bi); (case h3_76 => rfl); (case h4_76 => rfl); (case h5_76 => decide); (with_reducible refine evL_cons ?_ ?hs_77); (case hs_77 => rfl); (with_reducible refine ev_name (v := ?vv_78) (by assumption) ?hf_78 ?_ ?hn_78 ?hd_78); (case hf_78 => walk_at "sxf"); (case hn_78 => decide); (case hd_78 => decide); (with_reducible refine evL_nil ?_); (with_reducible refine opL_len_str ?hg_80 ?_); (case hg_80 => walk_at "sxg"))
      ((refine exs_cons ?_); (with_reducible refine ex_assign (by assumption) ?hx_6 ?hs_6 ?_); (case hx_6 => kernel_rfl); (case hs_6 => exact swaps_no (by rfl)))
      ((with_reducible refine ev_name (v := ?vv_81) (by assumption) ?hf_81 ?_ ?hn_81 ?hd_81); (case hf_81 => walk_at "sxf"); (case hn_81 => decide); (case hd_81 => decide))
      exact exs_nil (exs_nil (hQ2 _ ⟨by walk_at "sxf", by walk_at "sxf", by walk_at "sxf", by walk_at "sxf", by walk_at "sxf", by walk_at "sxf"⟩))
    · rw [if_neg (of_decide_eq_false hb4)] at hQ2
      exact exs_nil (exs_nil (hQ2 _ ⟨by walk_at "sxf", by walk_at "sxf", by walk_at "sxf", by walk_at "sxf", by walk_at "sxf", by walk_at "sxf"⟩))
  · intro σ2 hI
    have g1 := hI.1
    have g2 := hI.2.1
    have g3 := hI.2.2.1
    have g4 := hI.2.2.2.1
    have g5 := hI.2.2.2.2.1
    have g6 := hI.2.2.2.2.2
    clear hI
    rw [List.take_length] at g5 g6
    generalize sel5 (t.drop i) rd5 (1, rf5 es c) = a at g5 g6 hr hsel
    refine exs_nil ?_
    refine exs_cons ?_
    refine ex_aug okn (by kernel_rfl) ?_
    refine tr_load okn (v := .str acc) (by walk_at "sxf") ?_ (by decide)
    ((with_reducible refine ev_name (v := ?vv_82) (by assumption) ?hf_82 ?_ ?hn_82 ?hd_82); (case hf_82 => walk_at "sxf"); (case hn_82 => decide); (case hd_82 => decide); (with_reducible refine op_iadd_str ?hg_83 ?_); (case hg_83 => walk_at "sxg"))
    refine exs_cons ?_
    refine ex_aug okn (by kernel_rfl) ?_
    refine tr_load okn (v := .int i) (by walk_at "sxf") ?_ (by decide)
    ((with_reducible refine ev_name (v := ?vv_84) (by assumption) ?hf_84 ?_ ?hn_84 ?hd_84); (case hf_84 => walk_at "sxf"); (case hn_84 => decide); (case hd_84 => decide); (with_reducible refine op_iadd_int ?_))
    refine exs_nil (hQ' (t.length - (i + a.1)) _ (by omega) ⟨i + a.1, acc ++ a.2, rfl, by walk_at "sxf", by walk_at "sxf", by walk_at "sxf", by walk_at "sxf", ?_⟩)
    rw [← hr, List.append_assoc]
    have e : t.drop (i + a.1) = (t.drop (i + 1)).drop (a.1 - 1) := by rw [List.drop_drop]; congr 1; omega
    rw [e]
set_option maxHeartbeats 4000000 in
theorem c_written {C : Cx} {n : Nat} (ok : C.Ok (n + 1)) (I : In05 C) {t : S} {es : List (Key × V)} (ht : t.length ≤ 100000) (he : es.length ≤ 100) (hg : Good5 (dsets es (tabV mks5)) t) :
    OpL C (Rep C.W) (fun ws => call (.ref 74) ws) [.str t, .dct es] (fun v => v = .str (written5 t es)) := by
  refine fn_callQ ok (fnAt_of (a := 74) I.hF (by rfl) (by rfl) (by rfl) (by rfl) (by rfl) (by rfl) (by rfl) (by rfl) (by rfl)) (ps := ["text", "table"]) (dvs := []) (ds := []) ?_ (fun _ _ _ _ => .nil) (by decide) (by rfl) fun A L q cd Q hQ okn => ?_
  · exact fun s ws _ hl => binds_plain (n := 2) (fun ws hl => by
      obtain ⟨a, b, rfl⟩ := len2 hl
      rfl) s ws hl
  have hG : (fnCx C.W A (fdAt (F05 C.W.w) 74).scope L 74 q cd).W.gls = _ := I.hG
  have hsz : sizeLine = 16777216 := sizeLine_eq
  ((refine exs_cons ?_); (with_reducible refine ex_assignN (by assumption) ?hx_1 ?hs_1 ?_); (case hx_1 => kernel_rfl); (case hs_1 => exact swaps_no (by rfl)))
  refine evF_fn okn hG (by kernel_rfl) (by rfl) .ty ?_ (by rfl) (by rfl) (by decide)
  ((with_reducible refine evL_cons ?_ ?hs_6); (case hs_6 => rfl); (with_reducible refine ev_name (v := ?vv_7) (by assumption) ?hf_7 ?_ ?hn_7 ?hd_7); (case hf_7 => walk_at "sxf"); (case hn_7 => decide); (case hd_7 => decide); (with_reducible refine evL_nil ?_))
  refine opF_dictOf okn (by omega) fun ar => ?_
  refine exs_cons ?_
  refine ex_methO okn (sl := .dict ar es) (a := ar) (P := fun r => r = .none) (by walk_at "sxf") rfl PySem.F.plainAttrs_dict PySem.F.slot_dict_update PySem.F.type_dict_update ?_ (by decide) (by decide) (by decide) (by rfl) (by rfl) (by rfl) (by rfl) (by rfl)
  ((with_reducible refine ev_ofF ?_); (with_reducible refine evF_dictE (by assumption) ?_ ?h1_2 ?h2_2 ?h3_2 ?h4_2); (case h1_2 => rfl); (case h2_2 => rfl); (case h3_2 => rfl); (case h4_2 => exact Nat.le_of_ble_eq_true (by rfl)))
  ((with_reducible refine evD_cons ?_); (with_reducible refine ev_str ?_); (refine ⟨.s _, rfl, ?_⟩); (with_reducible refine ev_str ?_))
  ((with_reducible refine evD_cons ?_); (with_reducible refine ev_str ?_); (refine ⟨.s _, rfl, ?_⟩); (with_reducible refine ev_str ?_))
  ((with_reducible refine evD_cons ?_); (with_reducible refine ev_str ?_); (refine ⟨.s _, rfl, ?_⟩); (with_reducible refine ev_str ?_))
  refine evD_nil fun a2 => ?_
  refine ⟨.dict ar es, by walk_at "sxf", rfl, opM_update ?_ ?_⟩
  · show _ + 3 ≤ _
    omega
  show Exs _ (put _ _ _ (.dict ar (dsets es (tabV mks5)))) _ _
  have hw : written5 t es = t.flatMap (rf5 (dsets es (tabV mks5))) := rfl
  rw [hw] at hQ
  generalize dsets es (tabV mks5) = refs at hg hQ
  refine exs_cons ?_
  refine Tr.freeze (x := "refs") (by walk_at "sxf") rfl ?_ (by decide)
  refine ex_return ?_
  ((with_reducible refine ev_meth ?_ ?h1_9 ?h2_9 ?h3_9 ?h4_9); (case h1_9 => rfl); (case h2_9 => rfl); (case h3_9 => rfl); (case h4_9 => rfl); (with_reducible refine ev_str ?_); (with_reducible refine ⟨_, _, methOk_str PySem.F.slot_str_join PySem.F.type_str_join, ?_⟩); (with_reducible refine evL_cons ?_ ?hs_12); (case hs_12 => rfl))
  refine ev_ofF ?_
  refine evF_listComp okn (fv := ["refs"]) (compOk_of (by kernel_rfl)) ?_
  ((with_reducible refine ev_name (v := ?vv_13) (by assumption) ?hf_13 ?_ ?hn_13 ?hd_13); (case hf_13 => walk_at "sxf"); (case hn_13 => decide); (case hd_13 => decide))
  refine ⟨_, rfl, trivial, by rw [List.length_map]; omega, fun cl L' okc => ?_⟩
  refine lloop_map (fun σ => find σ (Str.ofString "refs") = some (.val (.dct refs))) (fun v => match v with | .str [c] => .str (rf5 refs c) | _ => .none) _ _ _ (find_cap1 (by simp) (by walk_at "sxf")) ?_ ?_
  · intro x hx σ hJ
    obtain ⟨c, hc, rfl⟩ := List.mem_map.mp hx
    refine asg_name okc (by kernel_rfl) ?_
    ((with_reducible refine ev_meth ?_ ?h1_14 ?h2_14 ?h3_14 ?h4_14); (case h1_14 => rfl); (case h2_14 => rfl); (case h3_14 => rfl); (case h4_14 => rfl); (with_reducible refine ev_name (v := ?vv_15) (by assumption) ?hf_15 ?_ ?hn_15 ?hd_15); (case hf_15 => walk_at "sxf"); (case hn_15 => decide); (case hd_15 => decide); (with_reducible refine ⟨_, _, methOk_dct PySem.F.slot_dict_get PySem.F.type_dict_get, ?_⟩); (with_reducible refine evL_cons ?_ ?hs_17); (case hs_17 => rfl); (with_reducible refine ev_name (v := ?vv_18) (by assumption) ?hf_18 ?_ ?hn_18 ?hd_18); (case hf_18 => walk_at "sxf"); (case hn_18 => decide); (case hd_18 => decide); (with_reducible refine evL_cons ?_ ?hs_19); (case hs_19 => rfl); (with_reducible refine ev_name (v := ?vv_20) (by assumption) ?hf_20 ?_ ?hn_20 ?hd_20); (case hf_20 => walk_at "sxf"); (case hn_20 => decide); (case hd_20 => decide); (with_reducible refine evL_nil ?_); (with_reducible refine get_str ?_))
    rw [(hg c hc).1]
    exact ⟨rfl, by walk_at "sxf"⟩
  intro D
  have e : [] ++ List.map (fun v => match v with | V.str [c] => V.str (rf5 refs c) | _ => V.none) (t.map fun c => V.str [c]) = (t.map (rf5 refs)).map V.str := by simp
  rw [e]
  have hfl := flat_len (f := rf5 refs) t fun c hc => (hg c hc).2
  have hfl2 : ((t.map (rf5 refs)).map List.length).sum = (t.flatMap (rf5 refs)).length := by rw [List.flatMap, List.length_flatten]
  ((with_reducible refine evL_nil ?_))
  refine opL_join_list (by rw [hfl2]; show _ + _ * 0 ≤ _; omega) ?_
  refine hQ _ _ ?_
  rw [show joinS (lit "") (t.map (rf5 refs)) = (t.map (rf5 refs)).flatten from joinS_nil _]
  rfl
set_option maxHeartbeats 4000000 in
theorem c_quoted {C : Cx} {n : Nat} (ok : C.Ok (n + 2)) (I : In05 C) {t : S} {es : List (Key × V)} (ht : t.length ≤ 10000) (he : es.length ≤ 90) (hg : Good5 (dsets (dsets es (tabV own5)) (tabV mks5)) t) :
    OpL C (Rep C.W) (fun ws => call (.ref 81) ws) [.str t, .dct es] (fun v => v = .str (quoted5 t es)) := by
  refine fn_callQ ok (fnAt_of (a := 81) I.hF (by rfl) (by rfl) (by rfl) (by rfl) (by rfl) (by rfl) (by rfl) (by rfl) (by rfl)) (ps := ["text", "table"]) (dvs := []) (ds := []) ?_ (fun _ _ _ _ => .nil) (by decide) (by rfl) fun A L q cd Q hQ okn => ?_
  · exact fun s ws _ hl => binds_plain (n := 2) (fun ws hl => by
      obtain ⟨a, b, rfl⟩ := len2 hl
      rfl) s ws hl
  have hG : (fnCx C.W A (fdAt (F05 C.W.w) 81).scope L 81 q cd).W.gls = _ := I.hG
  have hsz : sizeLine = 16777216 := sizeLine_eq
  ((refine exs_cons ?_); (with_reducible refine ex_assignN (by assumption) ?hx_1 ?hs_1 ?_); (case hx_1 => kernel_rfl); (case hs_1 => exact swaps_no (by rfl)))
  refine evF_fn okn hG (by kernel_rfl) (by rfl) .ty ?_ (by rfl) (by rfl) (by decide)
  ((with_reducible refine evL_cons ?_ ?hs_9); (case hs_9 => rfl); (with_reducible refine ev_name (v := ?vv_10) (by assumption) ?hf_10 ?_ ?hn_10 ?hd_10); (case hf_10 => walk_at "sxf"); (case hn_10 => decide); (case hd_10 => decide); (with_reducible refine evL_nil ?_))
  refine opF_dictOf okn (by omega) fun ar => ?_
  refine exs_cons ?_
  refine ex_methO okn (sl := .dict ar es) (a := ar) (P := fun r => r = .none) (by walk_at "sxf") rfl PySem.F.plainAttrs_dict PySem.F.slot_dict_update PySem.F.type_dict_update ?_ (by decide) (by decide) (by decide) (by rfl) (by rfl) (by rfl) (by rfl) (by rfl)
  ((with_reducible refine ev_ofF ?_); (with_reducible refine evF_dictE (by assumption) ?_ ?h1_5 ?h2_5 ?h3_5 ?h4_5); (case h1_5 => rfl); (case h2_5 => rfl); (case h3_5 => rfl); (case h4_5 => exact Nat.le_of_ble_eq_true (by rfl)))
  ((with_reducible refine evD_cons ?_); (with_reducible refine ev_str ?_); (refine ⟨.s _, rfl, ?_⟩); (with_reducible refine ev_str ?_))
  ((with_reducible refine evD_cons ?_); (with_reducible refine ev_str ?_); (refine ⟨.s _, rfl, ?_⟩); (with_reducible refine ev_str ?_))
  ((with_reducible refine evD_cons ?_); (with_reducible refine ev_str ?_); (refine ⟨.s _, rfl, ?_⟩); (with_reducible refine ev_str ?_))
  refine evD_nil fun a2 => ?_
  refine ⟨.dict ar es, by walk_at "sxf", rfl, opM_update ?_ ?_⟩
  · show _ + 3 ≤ _
    omega
  show Exs _ (put _ _ _ (.dict ar (dsets es (tabV own5)))) _ _
  have hw : quoted5 t es = quoB (written5 t (dsets es (tabV own5))) := rfl
  rw [hw] at hQ
  have hdl : (dsets es (tabV own5)).length ≤ es.length + (tabV own5).length := dsets_length _ _
  rw [tabV_length] at hdl
  have hdl : (dsets es (tabV own5)).length ≤ 100 := Nat.le_trans hdl (by show _ + 3 ≤ _; omega)
  generalize dsets es (tabV own5) = refs at hg hQ hdl
  refine exs_cons ?_
  refine Tr.freeze (x := "refs") (by walk_at "sxf") rfl ?_ (by decide)
  refine ex_assign okn ?_ ?_ ?_
  · kernel_rfl
  · exact swaps_no (by rfl)
  refine ev_fn okn hG (by kernel_rfl) (by rfl) (callee_of (fnAt_of (a := 74) I.hF (by rfl) (by rfl) (by rfl) (by rfl) (by rfl) (by rfl) (by rfl) (by rfl) (by rfl))) ?_ (by rfl) (by rfl) (by decide)
  ((with_reducible refine evL_cons ?_ ?hs_12); (case hs_12 => rfl); (with_reducible refine ev_name (v := ?vv_13) (by assumption) ?hf_13 ?_ ?hn_13 ?hd_13); (case hf_13 => walk_at "sxf"); (case hn_13 => decide); (case hd_13 => decide); (with_reducible refine evL_cons ?_ ?hs_14); (case hs_14 => rfl); (with_reducible refine ev_name (v := ?vv_15) (by assumption) ?hf_15 ?_ ?hn_15 ?hd_15); (case hf_15 => walk_at "sxf"); (case hn_15 => decide); (case hd_15 => decide); (with_reducible refine evL_nil ?_))
  refine OpL.eq (c_written (n := n) okn ⟨I.hF, I.hG⟩ (Nat.le_trans ht (by decide)) hdl hg) ?_
  have hbl : (written5 t refs).length ≤ 8 * t.length := flat_len t fun c hc => (hg c hc).2
  generalize written5 t refs = b at hQ hbl
  unfold quoB at hQ
  ((refine exs_cons ?_); (with_reducible refine ex_if ?_))
  refine Tr.mono (Q := fun c σ' => c = decide (hasSub [34] b = true ∧ hasSub [39] b = false) ∧ find σ' (Str.ofString "body") = some (.val (.str b))) (tst_bool (allT_and ?_)) ?_
  · ((with_reducible refine tst_cmp ?_ ?hs_17); (case hs_17 => with_unfolding_all rfl); (with_reducible refine ev_str ?_); (with_reducible refine ev_name (v := ?vv_19) (by assumption) ?hf_19 ?_ ?hn_19 ?hd_19); (case hf_19 => walk_at "sxf"); (case hn_19 => decide); (case hd_19 => decide); (with_reducible refine op_in_str ?_); (with_reducible refine exB ?_))
    refine ⟨fun hb => ?_, fun hb => ?_⟩
    · refine allT_and ?_
      ((with_reducible refine tst_cmp ?_ ?hs_22); (case hs_22 => with_unfolding_all rfl); (with_reducible refine ev_str ?_); (with_reducible refine ev_name (v := ?vv_24) (by assumption) ?hf_24 ?_ ?hn_24 ?hd_24); (case hf_24 => walk_at "sxf"); (case hn_24 => decide); (case hd_24 => decide))
      refine op_notIn_str ?_
      refine ⟨_, rfl, fun hb2 => allT_and_nil ⟨?_, by walk_at "sxf"⟩, fun hb2 => ⟨?_, by walk_at "sxf"⟩⟩
      · symm; rw [decide_eq_true_iff]; exact ⟨hb, (Bool.not_eq_true' _).mp hb2⟩
      · symm; rw [decide_eq_false_iff_not]; exact fun h => by rw [show hasSub (lit "'") b = false from h.2] at hb2; cases hb2
    · refine ⟨?_, by walk_at "sxf"⟩
      symm; rw [decide_eq_false_iff_not]; exact fun h => by rw [show hasSub (lit "\"") b = true from h.1] at hb; cases hb
  rintro c σ' ⟨rfl, f1⟩
  refine ⟨fun hb => ?_, fun hb => ?_⟩
  · rw [if_pos (of_decide_eq_true hb)] at hQ
    ((refine exs_cons ?_); (with_reducible refine ex_return ?_))
    ((with_reducible refine ev_bin ?_); (with_reducible refine ev_bin ?_); (with_reducible refine ev_str ?_); (with_reducible refine ev_name (v := ?vv_28) (by assumption) ?hf_28 ?_ ?hn_28 ?hd_28); (case hf_28 => walk_at "sxf"); (case hn_28 => decide); (case hd_28 => decide))
    refine op_add_str (by show 1 + _ ≤ _; omega) ?_
    ((with_reducible refine ev_str ?_))
    refine op_add_str (by rw [List.length_append]; show 1 + _ + 1 ≤ _; omega) ?_
    exact hQ _ _ rfl
  · rw [if_neg (of_decide_eq_false hb)] at hQ
    refine exs_nil ?_
    ((refine exs_cons ?_); (with_reducible refine ex_return ?_))
    ((with_reducible refine ev_bin ?_); (with_reducible refine ev_bin ?_); (with_reducible refine ev_str ?_); (with_reducible refine ev_meth ?_ ?h1_33 ?h2_33 ?h3_33 ?h4_33); (case h1_33 => rfl); (case h2_33 => rfl); (case h3_33 => rfl); (case h4_33 => rfl); (with_reducible refine ev_name (v := ?vv_34) (by assumption) ?hf_34 ?_ ?hn_34 ?hd_34); (case hf_34 => walk_at "sxf"); (case hn_34 => decide); (case hd_34 => decide); (with_reducible refine ⟨_, _, methOk_str PySem.F.slot_str_replace PySem.F.type_str_replace, ?_⟩); (with_reducible refine evL_cons ?_ ?hs_36); (case hs_36 => rfl); (with_reducible refine ev_str ?_); (with_reducible refine evL_cons ?_ ?hs_38); (case hs_38 => rfl); (with_reducible refine ev_str ?_); (with_reducible refine evL_nil ?_))
    refine opL_replaceG (by exact nb05 ⟨I.hF, I.hG⟩) ?_ ?_
    · show _ + _ * 6 ≤ _; omega
    have hrl := repl_len (lit "\"") (lit "&quot;") b
    have hrl : (repl (lit "\"") (lit "&quot;") b).length ≤ b.length + (b.length + 1) * 6 := hrl
    skip
    refine op_add_str (by show 1 + _ ≤ _; omega) ?_
    ((with_reducible refine ev_str ?_))
    refine op_add_str (by rw [List.length_append]; show 1 + _ + 1 ≤ _; omega) ?_
    exact hQ _ _ rfl
/-- one function's turn: refused, or both tell the same -/
noncomputable def T5 (n : Nat) (f due : Addr) (q : Bool) (data given : V) (known : List (Key × V)) : Prop :=
  (∃ cls, (cls = "TypeError" ∨ cls = "AttributeError") ∧ refused5 data given q = lit cls ∧ ∀ (C' : Cx) (l : List Env), C'.Ok (n + 5) → In05 C' → RaisesF C' l f [data, given] cls) ∨
  (refused5 data given q = [] ∧ ∃ r : S, (∀ C' : Cx, C'.Ok (n + 5) → In05 C' → OpL C' (Rep C'.W) (fun ws => call (.ref f) ws) [data, given] (fun v => v = .str r)) ∧ ∀ C' : Cx, C'.Ok (n + 6) → In05 C' → OpL C' (Rep C'.W) (fun ws => call (.ref due) ws) [data, .dct known] (fun v => v = .str r))
noncomputable def E5 (n : Nat) (f due : Addr) (t : S) : Prop := ∃ r : S, (∀ C' : Cx, C'.Ok (n + 6) → In05 C' → OpL C' (Rep C'.W) (fun ws => call (.ref f) ws) [.str t] (fun v => v = .str r)) ∧ ∀ C' : Cx, C'.Ok (n + 6) → In05 C' → OpL C' (Rep C'.W) (fun ws => call (.ref due) ws) [.str t, .dct []] (fun v => v = .str r)
noncomputable def fs5 : List (Addr × Addr × Bool) := [(30, 74, false), (39, 69, false), (48, 81, true)]
noncomputable def fsV (p : Addr × Addr × Bool) : V := .tup [.val (.ref p.1), .val (.ref p.2.1), .bool p.2.2]
theorem callee5 {C : Cx} (I : In05 C) : ∀ p ∈ fs5, Callee C (.ref p.1) ∧ Callee C (.ref p.2.1) := by
  have h30 : Callee C (.ref 30) := callee_of (fnAt_of (a := 30) I.hF (by rfl) (by rfl) (by rfl) (by rfl) (by rfl) (by rfl) (by rfl) (by rfl) (by rfl))
  have h39 : Callee C (.ref 39) := callee_of (fnAt_of (a := 39) I.hF (by rfl) (by rfl) (by rfl) (by rfl) (by rfl) (by rfl) (by rfl) (by rfl) (by rfl))
  have h48 : Callee C (.ref 48) := callee_of (fnAt_of (a := 48) I.hF (by rfl) (by rfl) (by rfl) (by rfl) (by rfl) (by rfl) (by rfl) (by rfl) (by rfl))
  have h74 : Callee C (.ref 74) := callee_of (fnAt_of (a := 74) I.hF (by rfl) (by rfl) (by rfl) (by rfl) (by rfl) (by rfl) (by rfl) (by rfl) (by rfl))
  have h69 : Callee C (.ref 69) := callee_of (fnAt_of (a := 69) I.hF (by rfl) (by rfl) (by rfl) (by rfl) (by rfl) (by rfl) (by rfl) (by rfl) (by rfl))
  have h81 : Callee C (.ref 81) := callee_of (fnAt_of (a := 81) I.hF (by rfl) (by rfl) (by rfl) (by rfl) (by rfl) (by rfl) (by rfl) (by rfl) (by rfl))
  intro p hp
  simp only [fs5, List.mem_cons, List.not_mem_nil, or_false] at hp
  rcases hp with rfl | rfl | rfl
  · exact ⟨h30, h74⟩
  · exact ⟨h39, h69⟩
  · exact ⟨h48, h81⟩
theorem opA_ofL {C : Cx} {σ : St} {f : List Value → Sem Value} {vs : List V} {Q : V → St → Prop} (h : OpL C (Rep C.W) f vs (fun v => Q v σ)) : OpA C σ f vs Q :=
  fun F mine T s ws hA r => wpAny_mono (h _ T s ws hA.ownOk r) (fun _ _ ⟨b, T', q, k, r⟩ => ⟨b, σ, mine, T', q, k.post hA.live, hA.keeps k, r⟩) fun _ _ x => x
set_option maxHeartbeats 4000000 in
theorem end05 {W : Wd} {A : Around} {L : Addr} {q' : Str} {cd : Value} {n : Nat} (okn : (fnCx W A (fdAt (F05 W.w) 93).scope L 93 q' cd).Ok (n + 6)) (I : In05 (fnCx W A (fdAt (F05 W.w) 93).scope L 93 q' cd)) (hfr : (fnCx W A (fdAt (F05 W.w) 93).scope L 93 q' cd).A.frames = some [(fnCx W A (fdAt (F05 W.w) 93).scope L 93 q' cd).env])
    {t : S} {tb : List (Key × V)} {data given : V} (htb : tb.length ≤ 100) (hat : ∀ p ∈ tb, AtomV p.2) (hd : IsiV data) (hg : IsiV given) (htr : TruV given) (hnd : ∀ es, given = .dct es → es.length ≤ 100 ∧ (∀ (i : Nat) (p : Key × V), es[i]? = some p → dget es p.1 = some p.2 ∧ IsiV p.2))
    (hT : ∀ p ∈ fs5, T5 n p.1 p.2.1 p.2.2 data given (dctOf given)) (hE1 : E5 n 30 74 t) (hE2 : E5 n 39 69 t) (hE3 : E5 n 48 81 t)
    {σ : St} (f1 : find σ (Str.ofString "data") = some (.val data)) (f2 : find σ (Str.ofString "given") = some (.val given)) (f3 : find σ (Str.ofString "text") = some (.val (.str t))) (f4 : find σ (Str.ofString "table") = some (.val (.dct tb))) (f5 : find σ (Str.ofString "before") = some (.val (.lst (tb.map fun p => .tup [p.1.tv, p.2])))) (f6 : find σ (Str.ofString "known") = some (.val (.dct (dctOf given))))
    {Q : Fl → St → Prop} (hQ : ∀ σ', Q (.ret (.bool true)) σ') :
    Exs (fnCx W A (fdAt (F05 W.w) 93).scope L 93 q' cd) σ ((bdAt (F05 W.w) 93).drop 11) Q := by
  have hG : (fnCx W A (fdAt (F05 W.w) 93).scope L 93 q' cd).W.gls = _ := I.hG
  have hsz : sizeLine = 16777216 := sizeLine_eq
  refine exs_cons (ex_for okn ?_)
  refine ev_ofF ?_
  refine evF_list ?_
  ((with_reducible refine evL_cons ?_ ?hs_7); (case hs_7 => rfl))
  refine ev_tuple ?_
  ((with_reducible refine evL_cons ?_ ?hs_8); (case hs_8 => rfl))
  refine ev_glob okn (v := .ref 30) (by kernel_rfl) (by rw [hG]; rfl) ?_
  ((with_reducible refine evL_cons ?_ ?hs_9); (case hs_9 => rfl))
  refine ev_glob okn (v := .ref 74) (by kernel_rfl) (by rw [hG]; rfl) ?_
  ((with_reducible refine evL_cons ?_ ?hs_10); (case hs_10 => rfl); (with_reducible refine ev_bool ?_); (with_reducible refine evL_nil ?_))
  refine ⟨szc 3, ?_⟩
  ((with_reducible refine evL_cons ?_ ?hs_13); (case hs_13 => rfl))
  refine ev_tuple ?_
  ((with_reducible refine evL_cons ?_ ?hs_14); (case hs_14 => rfl))
  refine ev_glob okn (v := .ref 39) (by kernel_rfl) (by rw [hG]; rfl) ?_
  ((with_reducible refine evL_cons ?_ ?hs_15); (case hs_15 => rfl))
  refine ev_glob okn (v := .ref 69) (by kernel_rfl) (by rw [hG]; rfl) ?_
  ((with_reducible refine evL_cons ?_ ?hs_16); (case hs_16 => rfl); (with_reducible refine ev_bool ?_); (with_reducible refine evL_nil ?_))
  refine ⟨szc 3, ?_⟩
  ((with_reducible refine evL_cons ?_ ?hs_19); (case hs_19 => rfl))
  refine ev_tuple ?_
  ((with_reducible refine evL_cons ?_ ?hs_20); (case hs_20 => rfl))
  refine ev_glob okn (v := .ref 48) (by kernel_rfl) (by rw [hG]; rfl) ?_
  ((with_reducible refine evL_cons ?_ ?hs_21); (case hs_21 => rfl))
  refine ev_glob okn (v := .ref 81) (by kernel_rfl) (by rw [hG]; rfl) ?_
  ((with_reducible refine evL_cons ?_ ?hs_22); (case hs_22 => rfl); (with_reducible refine ev_bool ?_); (with_reducible refine evL_nil ?_))
  refine ⟨szc 3, ?_⟩
  ((with_reducible refine evL_nil ?_))
  refine ⟨szc 3, fun a3 => ?_⟩
  refine ⟨fs5.map fsV, rfl, trivial, ?_⟩
  have hcl := callee5 I
  refine loop_listQ fsV fs5 (fun _ σ => find σ (Str.ofString "data") = some (.val data) ∧ find σ (Str.ofString "given") = some (.val given) ∧ find σ (Str.ofString "text") = some (.val (.str t)) ∧ find σ (Str.ofString "table") = some (.val (.dct tb)) ∧ find σ (Str.ofString "before") = some (.val (.lst (tb.map fun p => .tup [p.1.tv, p.2]))) ∧ find σ (Str.ofString "known") = some (.val (.dct (dctOf given)))) ?_ ?_ ⟨f1, f2, f3, f4, f5, f6⟩ rfl
  · intro i p σ2 Q2 hQ2 hp hI
    clear f1 f2 f3 f4 f5 f6
    have f1 := hI.1
    have f2 := hI.2.1
    have f3 := hI.2.2.1
    have f4 := hI.2.2.2.1
    have f5 := hI.2.2.2.2.1
    have f6 := hI.2.2.2.2.2
    clear hI
    have hpm := List.mem_of_getElem? hp
    have hTp := hT p hpm
    have hclp := callee5 I p hpm
    have hclp2 : ∀ C' : Cx, In05 C' → Callee C' (.ref p.1) := fun C' I' => (callee5 I' p hpm).1
    clear hT hp hcl hE1 hE2 hE3 hQ
    obtain ⟨f, due, q⟩ := p
    refine asg_tuple okn (asgL_cons (asg_name okn (by kernel_rfl) (asgL_cons (asg_name okn (by kernel_rfl) (asgL_cons (asg_name okn (by kernel_rfl) (asgL_nil ?_))))))) (by rfl) (by rfl)
    obtain ⟨σ3, hσ3⟩ : ∃ σ3, σ3 = put (put (put σ2 (Str.ofString "function") "function" (Slot.val (V.val (.ref f)))) (Str.ofString "due") "due" (Slot.val (V.val (.ref due)))) (Str.ofString "quoting") "quoting" (Slot.val (V.bool q)) := ⟨_, rfl⟩
    have g1 : find σ3 (Str.ofString "function") = some (.val (.val (.ref f))) := by rw [hσ3]; walk_at "sxf"
    have g2 : find σ3 (Str.ofString "due") = some (.val (.val (.ref due))) := by rw [hσ3]; walk_at "sxf"
    have g3 : find σ3 (Str.ofString "quoting") = some (.val (.bool q)) := by rw [hσ3]; walk_at "sxf"
    have h1 : find σ3 (Str.ofString "data") = some (.val data) := by rw [hσ3]; walk_at "sxf"
    have h2 : find σ3 (Str.ofString "given") = some (.val given) := by rw [hσ3]; walk_at "sxf"
    have h3 : find σ3 (Str.ofString "text") = some (.val (.str t)) := by rw [hσ3]; walk_at "sxf"
    have h4 : find σ3 (Str.ofString "table") = some (.val (.dct tb)) := by rw [hσ3]; walk_at "sxf"
    have h5 : find σ3 (Str.ofString "before") = some (.val (.lst (tb.map fun p => .tup [p.1.tv, p.2]))) := by rw [hσ3]; walk_at "sxf"
    have h6 : find σ3 (Str.ofString "known") = some (.val (.dct (dctOf given))) := by rw [hσ3]; walk_at "sxf"
    show Exs _ (put (put (put σ2 (Str.ofString "function") "function" (Slot.val (V.val (.ref f)))) (Str.ofString "due") "due" (Slot.val (V.val (.ref due)))) (Str.ofString "quoting") "quoting" (Slot.val (V.bool q))) _ _
    rw [← hσ3]
    clear hσ3 f1 f2 f3 f4 f5 f6
    ((refine exs_cons ?_); (with_reducible refine ex_assign (by assumption) ?hx_1 ?hs_1 ?_); (case hx_1 => kernel_rfl); (case hs_1 => exact swaps_no (by rfl)))
    refine ev_fn okn hG (by kernel_rfl) (by rfl) (callee_of (fnAt_of (a := 62) I.hF (by rfl) (by rfl) (by rfl) (by rfl) (by rfl) (by rfl) (by rfl) (by rfl) (by rfl))) ?_ (by rfl) (by rfl) (by decide)
    ((with_reducible refine evL_cons ?_ ?hs_26); (case hs_26 => rfl); (with_reducible refine ev_name (v := ?vv_27) (by assumption) ?hf_27 ?_ ?hn_27 ?hd_27); (case hf_27 => walk_at "sxf"); (case hn_27 => decide); (case hd_27 => decide); (with_reducible refine evL_cons ?_ ?hs_28); (case hs_28 => rfl); (with_reducible refine ev_name (v := ?vv_29) (by assumption) ?hf_29 ?_ ?hn_29 ?hd_29); (case hf_29 => walk_at "sxf"); (case hn_29 => decide); (case hd_29 => decide); (with_reducible refine evL_cons ?_ ?hs_30); (case hs_30 => rfl); (with_reducible refine ev_name (v := ?vv_31) (by assumption) ?hf_31 ?_ ?hn_31 ?hd_31); (case hf_31 => walk_at "sxf"); (case hn_31 => decide); (case hd_31 => decide); (with_reducible refine evL_nil ?_))
    refine OpL.eq (c_refused (n := n + 5) okn I hd hg htr hnd) ?_
    ((refine exs_cons ?_); (with_reducible refine ex_assign (by assumption) ?hx_2 ?hs_2 ?_); (case hx_2 => kernel_rfl); (case hs_2 => exact swaps_no (by rfl)))
    refine ev_fnA okn hG (w := .ref 88) (by kernel_rfl) (by rfl) (callee_of (fnAt_of (a := 88) I.hF (by rfl) (by rfl) (by rfl) (by rfl) (by rfl) (by rfl) (by rfl) (by rfl) (by rfl))) ?_ (by rfl) (by rfl) (by decide)
    ((with_reducible refine evL_cons ?_ ?hs_33); (case hs_33 => rfl); (with_reducible refine ev_name (v := ?vv_34) (by assumption) ?hf_34 ?_ ?hn_34 ?hd_34); (case hf_34 => walk_at "sxf"); (case hn_34 => decide); (case hd_34 => decide); (with_reducible refine evL_cons ?_ ?hs_35); (case hs_35 => rfl); (with_reducible refine ev_name (v := ?vv_36) (by assumption) ?hf_36 ?_ ?hn_36 ?hd_36); (case hf_36 => walk_at "sxf"); (case hn_36 => decide); (case hd_36 => decide); (with_reducible refine evL_cons ?_ ?hs_37); (case hs_37 => rfl); (with_reducible refine ev_name (v := ?vv_38) (by assumption) ?hf_38 ?_ ?hn_38 ?hd_38); (case hf_38 => walk_at "sxf"); (case hn_38 => decide); (case hd_38 => decide); (with_reducible refine evL_nil ?_))
    obtain ⟨tv, hO, hV⟩ : ∃ tv : V, (∀ σ (Q : V → St → Prop), Q tv σ → OpA (fnCx W A (fdAt (F05 W.w) 93).scope L 93 q' cd) σ (fun ws => call (.ref 88) ws) [.val (.ref f), data, given] Q) ∧ ((tv = .lst [.str (refused5 data given q)] ∧ refused5 data given q ≠ []) ∨ (refused5 data given q = [] ∧ ∃ r : S, tv = .lst [.str [], .str r] ∧ OpL (fnCx W A (fdAt (F05 W.w) 93).scope L 93 q' cd) (Rep (fnCx W A (fdAt (F05 W.w) 93).scope L 93 q' cd).W) (fun ws => call (.ref due) ws) [data, .dct (dctOf given)] (fun v => v = .str r))) := by
      rcases hTp with ⟨cls, hcls, hk, hr⟩ | ⟨hk, r, hr, hdue⟩
      · refine ⟨.lst [.str (lit cls)], fun σ Q h => c_toldR (n := n + 4) okn I hfr rfl hcls hclp2 hr h, .inl ⟨by rw [hk], ?_⟩⟩
        rw [hk]
        rcases hcls with rfl | rfl <;> decide
      · refine ⟨.lst [.str [], .str r], fun σ Q h => opA_ofL (OpL.eq (c_told (n := n + 5) (r := .str r) okn I hclp2 hr) h), .inr ⟨hk, r, rfl, hdue _ okn I⟩⟩
    clear hTp hclp2
    generalize refused5 data given q = kind at hV ⊢
    refine hO _ _ ?_
    clear hO
    obtain ⟨σ4, hσ4⟩ : ∃ σ4, σ4 = put (put σ3 (Str.ofString "kind") "kind" (Slot.val (V.str kind))) (Str.ofString "told") "told" (Slot.val tv) := ⟨_, rfl⟩
    have k1 : find σ4 (Str.ofString "kind") = some (.val (.str kind)) := by rw [hσ4]; walk_at "sxf"
    have k2 : find σ4 (Str.ofString "told") = some (.val tv) := by rw [hσ4]; walk_at "sxf"
    have k3 : find σ4 (Str.ofString "due") = some (.val (.val (.ref due))) := by rw [hσ4]; walk_at "sxf"
    have l1 : find σ4 (Str.ofString "data") = some (.val data) := by rw [hσ4]; walk_at "sxf"
    have l2 : find σ4 (Str.ofString "given") = some (.val given) := by rw [hσ4]; walk_at "sxf"
    have l3 : find σ4 (Str.ofString "text") = some (.val (.str t)) := by rw [hσ4]; walk_at "sxf"
    have l4 : find σ4 (Str.ofString "table") = some (.val (.dct tb)) := by rw [hσ4]; walk_at "sxf"
    have l5 : find σ4 (Str.ofString "before") = some (.val (.lst (tb.map fun p => .tup [p.1.tv, p.2]))) := by rw [hσ4]; walk_at "sxf"
    have l6 : find σ4 (Str.ofString "known") = some (.val (.dct (dctOf given))) := by rw [hσ4]; walk_at "sxf"
    show Exs _ (put (put σ3 (Str.ofString "kind") "kind" (Slot.val (V.str kind))) (Str.ofString "told") "told" (Slot.val tv)) _ _
    rw [← hσ4]
    clear hσ4 h1 h2 h3 h4 h5 h6 g1 g2 g3
    ((refine exs_cons ?_); (with_reducible refine ex_if ?_))
    refine Tr.mono (Q := fun b σ' => b = false ∧ σ' = σ4) ?_ ?_
    · ((with_reducible refine tst_cmp ?_ ?hs_40); (case hs_40 => with_unfolding_all rfl); (with_reducible refine ev_name (v := ?vv_41) (by assumption) ?hf_41 ?_ ?hn_41 ?hd_41); (case hf_41 => walk_at "sxf"); (case hn_41 => decide); (case hd_41 => decide); (with_reducible refine ev_ifexp ?_); (with_reducible refine tst_cmp ?_ ?hs_43); (case hs_43 => with_unfolding_all rfl); (with_reducible refine ev_name (v := ?vv_44) (by assumption) ?hf_44 ?_ ?hn_44 ?hd_44); (case hf_44 => walk_at "sxf"); (case hn_44 => decide); (case hd_44 => decide); (with_reducible refine ev_str ?_); (with_reducible refine op_ne_str ?_); (with_reducible refine exB ?_))
      refine ⟨fun hb => ?_, fun hb => ?_⟩
      · rcases hV with ⟨rfl, hk⟩ | ⟨rfl, r, rfl, hdue⟩
        · refine ev_ofF ?_
          refine evF_list ?_
          ((with_reducible refine evL_cons ?_ ?hs_48); (case hs_48 => rfl); (with_reducible refine ev_name (v := ?vv_49) (by assumption) ?hf_49 ?_ ?hn_49 ?hd_49); (case hf_49 => walk_at "sxf"); (case hn_49 => decide); (case hd_49 => decide); (with_reducible refine evL_nil ?_))
          refine ⟨szc 1, fun a1 => ?_⟩
          exact op_ne_alike okn (n := 0) (by decide) (.cons (.ss _ _) (.nil _)) ⟨_, rfl, rfl, rfl⟩
        · cases hb
      · rcases hV with ⟨rfl, hk⟩ | ⟨rfl, r, rfl, hdue⟩
        · exact absurd (show kind = [] from of_decide_eq_true ((Bool.not_eq_false' _).mp hb)) hk
        · refine ev_ofF ?_
          refine evF_list ?_
          ((with_reducible refine evL_cons ?_ ?hs_51); (case hs_51 => rfl); (with_reducible refine ev_str ?_); (with_reducible refine evL_cons ?_ ?hs_53); (case hs_53 => rfl))
          refine ev_fnV okn (w := .ref due) (by walk_at "sxf") hclp.2 ?_ (by rfl) (by rfl) (by decide) (by decide)
          ((with_reducible refine evL_cons ?_ ?hs_54); (case hs_54 => rfl); (with_reducible refine ev_name (v := ?vv_55) (by assumption) ?hf_55 ?_ ?hn_55 ?hd_55); (case hf_55 => walk_at "sxf"); (case hn_55 => decide); (case hd_55 => decide); (with_reducible refine evL_cons ?_ ?hs_56); (case hs_56 => rfl); (with_reducible refine ev_name (v := ?vv_57) (by assumption) ?hf_57 ?_ ?hn_57 ?hd_57); (case hf_57 => walk_at "sxf"); (case hn_57 => decide); (case hd_57 => decide); (with_reducible refine evL_nil ?_))
          refine OpL.eq hdue ?_
          ((with_reducible refine evL_nil ?_))
          refine ⟨szc 2, fun a1 => ?_⟩
          exact op_ne_alike okn (n := 0) (by decide) (.cons (.ss _ _) (.cons (.ss _ _) (.nil _))) ⟨_, rfl, rfl, rfl⟩
    rintro b σ' ⟨rfl, rfl⟩
    refine ⟨fun h => (nomatch h), fun _ => ?_⟩
    refine exs_nil ?_
    ((refine exs_cons ?_); (with_reducible refine ex_if ?_))
    refine tst_cmp ?_ (by with_unfolding_all rfl)
    refine ev_ofF ?_
    refine evF_fn okn hG (by kernel_rfl) (by rfl) .ty ?_ (by rfl) (by rfl) (by decide)
    ((with_reducible refine evL_cons ?_ ?hs_60); (case hs_60 => rfl); (with_reducible refine ev_meth ?_ ?h1_61 ?h2_61 ?h3_61 ?h4_61); (case h1_61 => rfl); (case h2_61 => rfl); (case h3_61 => rfl); (case h4_61 => rfl); (with_reducible refine ev_name (v := ?vv_62) (by assumption) ?hf_62 ?_ ?hn_62 ?hd_62); (case hf_62 => walk_at "sxf"); (case hn_62 => decide); (case hd_62 => decide); (with_reducible refine ⟨_, _, methOk_dct PySem.F.slot_dict_items PySem.F.type_dict_items, ?_⟩); (with_reducible refine evL_nil ?_); (with_reducible refine opL_items ?_); (with_reducible refine evL_nil ?_))
    refine opF_listItems okn (Nat.le_trans htb (szc 100)) fun a6 => ?_
    show Ev _ _ _ (fun b σ2 => Op2 _ _ _ (V.lst (tb.map fun p => .tup [p.1.tv, p.2])) b _)
    ((with_reducible refine ev_name (v := ?vv_67) (by assumption) ?hf_67 ?_ ?hn_67 ?hd_67); (case hf_67 => walk_at "sxf"); (case hn_67 => decide); (case hd_67 => decide))
    refine op_ne_eqML okn (n := 1) (by decide) (fun g s hgs => eqML_items hgs tb hat) (exB ⟨fun h => (nomatch h), fun _ => ?_⟩)
    exact exs_nil (exs_nil (hQ2 _ ⟨l1, l2, l3, l4, l5, l6⟩))
  · intro σ2 hI
    have f3 := hI.2.2.1
    clear hI hcl hT
    obtain ⟨r1, a1, b1⟩ := hE1
    obtain ⟨r2, a2, b2⟩ := hE2
    obtain ⟨r3, a3', b3⟩ := hE3
    refine exs_nil ?_
    ((refine exs_cons ?_); (with_reducible refine ex_if ?_))
    refine Tr.mono (Q := fun b σ' => b = false ∧ σ' = σ2) (tst_bool (allT_or ?_)) ?_
    · refine tst_cmp ?_ (by with_unfolding_all rfl)
      refine ev_fn okn hG (by kernel_rfl) (by rfl) (callee_of (fnAt_of (a := 30) I.hF (by rfl) (by rfl) (by rfl) (by rfl) (by rfl) (by rfl) (by rfl) (by rfl) (by rfl))) ?_ (by rfl) (by rfl) (by decide)
      ((with_reducible refine evL_cons ?_ ?hs_68); (case hs_68 => rfl); (with_reducible refine ev_name (v := ?vv_69) (by assumption) ?hf_69 ?_ ?hn_69 ?hd_69); (case hf_69 => walk_at "sxf"); (case hn_69 => decide); (case hd_69 => decide); (with_reducible refine evL_nil ?_))
      refine OpL.eq (a1 _ okn I) ?_
      refine ev_fn okn hG (by kernel_rfl) (by rfl) (callee_of (fnAt_of (a := 74) I.hF (by rfl) (by rfl) (by rfl) (by rfl) (by rfl) (by rfl) (by rfl) (by rfl) (by rfl))) ?_ (by rfl) (by rfl) (by decide)
      ((with_reducible refine evL_cons ?_ ?hs_71); (case hs_71 => rfl); (with_reducible refine ev_name (v := ?vv_72) (by assumption) ?hf_72 ?_ ?hn_72 ?hd_72); (case hf_72 => walk_at "sxf"); (case hn_72 => decide); (case hd_72 => decide); (with_reducible refine evL_cons ?_ ?hs_73); (case hs_73 => rfl))
      refine ev_ofF ?_
      refine evF_dict0 okn fun aT => ?_
      ((with_reducible refine evL_nil ?_))
      refine OpL.eq (b1 _ okn I) ?_
      ((with_reducible refine op_ne_str ?_); (with_reducible refine exB ?_))
      rw [show (!decide (r1 = r1)) = false by rw [decide_eq_true rfl]; rfl]
      refine ⟨fun _ => ?_, fun h => (nomatch h)⟩
      refine allT_or (tst_cmp ?_ (by with_unfolding_all rfl))
      refine ev_fn okn hG (by kernel_rfl) (by rfl) (callee_of (fnAt_of (a := 39) I.hF (by rfl) (by rfl) (by rfl) (by rfl) (by rfl) (by rfl) (by rfl) (by rfl) (by rfl))) ?_ (by rfl) (by rfl) (by decide)
      ((with_reducible refine evL_cons ?_ ?hs_77); (case hs_77 => rfl); (with_reducible refine ev_name (v := ?vv_78) (by assumption) ?hf_78 ?_ ?hn_78 ?hd_78); (case hf_78 => walk_at "sxf"); (case hn_78 => decide); (case hd_78 => decide); (with_reducible refine evL_nil ?_))
      refine OpL.eq (a2 _ okn I) ?_
      refine ev_fn okn hG (by kernel_rfl) (by rfl) (callee_of (fnAt_of (a := 69) I.hF (by rfl) (by rfl) (by rfl) (by rfl) (by rfl) (by rfl) (by rfl) (by rfl) (by rfl))) ?_ (by rfl) (by rfl) (by decide)
      ((with_reducible refine evL_cons ?_ ?hs_80); (case hs_80 => rfl); (with_reducible refine ev_name (v := ?vv_81) (by assumption) ?hf_81 ?_ ?hn_81 ?hd_81); (case hf_81 => walk_at "sxf"); (case hn_81 => decide); (case hd_81 => decide); (with_reducible refine evL_cons ?_ ?hs_82); (case hs_82 => rfl))
      refine ev_ofF ?_
      refine evF_dict0 okn fun aT => ?_
      ((with_reducible refine evL_nil ?_))
      refine OpL.eq (b2 _ okn I) ?_
      ((with_reducible refine op_ne_str ?_); (with_reducible refine exB ?_))
      rw [show (!decide (r2 = r2)) = false by rw [decide_eq_true rfl]; rfl]
      exact ⟨fun _ => allT_or_nil ⟨rfl, rfl⟩, fun h => (nomatch h)⟩
    rintro b σ' ⟨rfl, rfl⟩
    refine ⟨fun h => (nomatch h), fun _ => ?_⟩
    refine exs_nil ?_
    ((refine exs_cons ?_); (with_reducible refine ex_return ?_))
    refine ev_cmp ?_ (by with_unfolding_all rfl)
    refine ev_fn okn hG (by kernel_rfl) (by rfl) (callee_of (fnAt_of (a := 48) I.hF (by rfl) (by rfl) (by rfl) (by rfl) (by rfl) (by rfl) (by rfl) (by rfl) (by rfl))) ?_ (by rfl) (by rfl) (by decide)
    ((with_reducible refine evL_cons ?_ ?hs_86); (case hs_86 => rfl); (with_reducible refine ev_name (v := ?vv_87) (by assumption) ?hf_87 ?_ ?hn_87 ?hd_87); (case hf_87 => walk_at "sxf"); (case hn_87 => decide); (case hd_87 => decide); (with_reducible refine evL_nil ?_))
    refine OpL.eq (a3' _ okn I) ?_
    refine ev_fn okn hG (by kernel_rfl) (by rfl) (callee_of (fnAt_of (a := 81) I.hF (by rfl) (by rfl) (by rfl) (by rfl) (by rfl) (by rfl) (by rfl) (by rfl) (by rfl))) ?_ (by rfl) (by rfl) (by decide)
    ((with_reducible refine evL_cons ?_ ?hs_89); (case hs_89 => rfl); (with_reducible refine ev_name (v := ?vv_90) (by assumption) ?hf_90 ?_ ?hn_90 ?hd_90); (case hf_90 => walk_at "sxf"); (case hn_90 => decide); (case hd_90 => decide); (with_reducible refine evL_cons ?_ ?hs_91); (case hs_91 => rfl))
    refine ev_ofF ?_
    refine evF_dict0 okn fun aT => ?_
    ((with_reducible refine evL_nil ?_))
    refine OpL.eq (b3 _ okn I) ?_
    ((with_reducible refine op_eq_str ?_))
    rw [decide_eq_true rfl]
    exact hQ _
theorem slc_mapL {α β : Type} (f : α → β) (lo hi : Option Int) (l : List α) : slc lo hi (l.map f) = (slc lo hi l).map f := by
  unfold slc; simp [List.map_take, List.map_drop]
theorem ex_St {C : Cx} {σ : St} {st : Stmt} {Q : Fl → St → Prop} (P : St → Prop) (hσ : P σ) (h : ∀ σ, P σ → Ex C σ st Q) : Ex C σ st Q := h σ hσ
structure Pl05 (n : Nat) (s : List Int) : Prop where
  hat : ∀ p ∈ table5 s, AtomV p.2
  hnd : ∀ (i : Nat) (p : Key × V), (table5 s)[i]? = some p → dget (table5 s) p.1 = some p.2 ∧ IsiV p.2
  hT : ∀ p ∈ fs5, T5 n p.1 p.2.1 p.2.2 (data5 s.sum (text5 s) s.length) (given5 s.sum (table5 s)) (dctOf (given5 s.sum (table5 s)))
  hE1 : E5 n 30 74 (text5 s)
  hE2 : E5 n 39 69 (text5 s)
  hE3 : E5 n 48 81 (text5 s)
set_option maxHeartbeats 8000000 in
theorem walk05 {W : Wd} {A : Around} {L : Addr} {q' : Str} {cd : Value} {n : Nat} (okn : (fnCx W A (fdAt (F05 W.w) 93).scope L 93 q' cd).Ok (n + 6)) (I : In05 (fnCx W A (fdAt (F05 W.w) 93).scope L 93 q' cd)) (hfr : (fnCx W A (fdAt (F05 W.w) 93).scope L 93 q' cd).A.frames = some [(fnCx W A (fdAt (F05 W.w) 93).scope L 93 q' cd).env]) {sc : List Int} (hsc : sc.length ≤ 63) (hP : ∀ s : List Int, s.length ≤ 63 → Pl05 n s) :
    Exs (fnCx W A (fdAt (F05 W.w) 93).scope L 93 q' cd) [("script", .val (.lst (sc.map V.int)))] (bdAt (F05 W.w) 93) (fun fl _ => fl.v = .bool true) := by
  have hG : (fnCx W A (fdAt (F05 W.w) 93).scope L 93 q' cd).W.gls = _ := I.hG
  have hsz : sizeLine = 16777216 := sizeLine_eq
  refine exs_eq fun Q hQ => ?_
  ((refine exs_cons ?_); (with_reducible refine ex_assignN (by assumption) ?hx_8 ?hs_8 ?_); (case hx_8 => kernel_rfl); (case hs_8 => exact swaps_no (by rfl)))
  refine evF_slice_list ?_
  ((with_reducible refine ev_name (v := ?vv_11) (by assumption) ?hf_11 ?_ ?hn_11 ?hd_11); (case hf_11 => walk_at "sxf"); (case hn_11 => decide); (case hd_11 => decide))
  refine exL (by rw [List.length_map]; omega) ?_
  ((with_reducible refine evP_none ?_); (with_reducible refine evP_some ?_); (with_reducible refine ev_int ?_); (with_reducible refine exI ?_))
  intro a1
  rw [slc_mapL]
  generalize hs : slc none (some 63) sc = s
  have hsl : s.length ≤ 63 := by rw [← hs]; have := slc_length none (some 63) sc; omega
  obtain ⟨hat, hnd, hT, hE1, hE2, hE3⟩ := hP s hsl
  have htl := text5_len hsl
  have hbl : (table5 s).length ≤ 63 := Nat.le_trans (table5_len s) hsl
  clear hs hP hsc
  refine exs_cons ?_
  generalize ht : (Stmt.Assign _ _ _) = stt
  refine Tr.freeze (x := "script") (by walk_at "sxf") rfl ?_ (by decide)
  subst ht
  refine ex_assign okn ?_ ?_ ?_
  · kernel_rfl
  · exact swaps_no (by rfl)
  refine ev_ofF ?_
  refine evF_list ?_
  ((with_reducible refine evL_cons ?_ ?hs_16); (case hs_16 => rfl); (with_reducible refine ev_str ?_); (with_reducible refine evL_cons ?_ ?hs_18); (case hs_18 => rfl); (with_reducible refine ev_str ?_); (with_reducible refine evL_cons ?_ ?hs_20); (case hs_20 => rfl); (with_reducible refine ev_str ?_); (with_reducible refine evL_cons ?_ ?hs_22); (case hs_22 => rfl); (with_reducible refine ev_str ?_); (with_reducible refine evL_cons ?_ ?hs_24); (case hs_24 => rfl); (with_reducible refine ev_str ?_); (with_reducible refine evL_cons ?_ ?hs_26); (case hs_26 => rfl); (with_reducible refine ev_str ?_); (with_reducible refine evL_cons ?_ ?hs_28); (case hs_28 => rfl); (with_reducible refine ev_str ?_); (with_reducible refine evL_cons ?_ ?hs_30); (case hs_30 => rfl); (with_reducible refine ev_str ?_); (with_reducible refine evL_cons ?_ ?hs_32); (case hs_32 => rfl); (with_reducible refine ev_str ?_); (with_reducible refine evL_cons ?_ ?hs_34); (case hs_34 => rfl); (with_reducible refine ev_str ?_); (with_reducible refine evL_cons ?_ ?hs_36); (case hs_36 => rfl); (with_reducible refine ev_str ?_); (with_reducible refine evL_nil ?_))
  refine ⟨szc 11, fun a2 => ?_⟩
  ((refine exs_cons ?_); (with_reducible refine ex_assign (by assumption) ?hx_1 ?hs_1 ?_); (case hx_1 => kernel_rfl); (case hs_1 => exact swaps_no (by rfl)))
  ((with_reducible refine ev_bin ?_); (with_reducible refine ev_str ?_); (with_reducible refine ev_meth ?_ ?h1_41 ?h2_41 ?h3_41 ?h4_41); (case h1_41 => rfl); (case h2_41 => rfl); (case h3_41 => rfl); (case h4_41 => rfl); (with_reducible refine ev_str ?_); (with_reducible refine ⟨_, _, methOk_str PySem.F.slot_str_join PySem.F.type_str_join, ?_⟩); (with_reducible refine evL_cons ?_ ?hs_44); (case hs_44 => rfl))
  refine ev_ofF ?_
  refine evF_listComp okn (fv := ["pieces"]) (compOk_of (by kernel_rfl)) ?_
  ((with_reducible refine ev_name (v := ?vv_45) (by assumption) ?hf_45 ?_ ?hn_45 ?hd_45); (case hf_45 => walk_at "sxf"); (case hn_45 => decide); (case hd_45 => decide))
  refine ⟨_, rfl, trivial, by rw [List.length_map]; omega, fun cl L' okc => ?_⟩
  refine lloop_map (fun σ => find σ (Str.ofString "pieces") = some (.val (.lst (pieces5.map V.str)))) (fun v => match v with | .int i => .str (pc5 i) | _ => .none) _ _ _ (find_cap1 (by simp) (by walk_at "sxf")) ?_ ?_
  · intro x hx σ hJ
    obtain ⟨i, hi, rfl⟩ := List.mem_map.mp hx
    obtain ⟨k, hk, hk1, hk2⟩ := fmodNat i (m := 11) (by decide)
    have hk : i.fmod 11 = (k : Int) := hk
    have hk2 : (i.fmod 11).toNat = k := hk2
    have hc : pieces5[k]? = some (pieces5.getD k []) := by
      rw [List.getD_eq_getElem?_getD, List.getElem?_eq_getElem (show k < pieces5.length from hk1)]; rfl
    refine asg_name okc (by kernel_rfl) ?_
    ((with_reducible refine ev_sub ?_ ?hs_46); (case hs_46 => (intro _ _; rfl)); (with_reducible refine ev_name (v := ?vv_47) (by assumption) ?hf_47 ?_ ?hn_47 ?hd_47); (case hf_47 => walk_at "sxf"); (case hn_47 => decide); (case hd_47 => decide); (with_reducible refine ev_bin ?_); (with_reducible refine ev_name (v := ?vv_49) (by assumption) ?hf_49 ?_ ?hn_49 ?hd_49); (case hf_49 => walk_at "sxf"); (case hn_49 => decide); (case hd_49 => decide); (with_reducible refine ev_int ?_); (with_reducible refine op_mod_int ?hg_51 ?_); (case hg_51 => walk_at "sxg"))
    rw [hk]
    refine item_list (l := pieces5.map V.str) (v := .str (pieces5.getD k [])) (szc 11) (by rw [List.getElem?_map, hc]; rfl) ⟨?_, by walk_at "sxf"⟩
    show V.str _ = V.str (pc5 i)
    unfold pc5
    rw [hk2]
  intro D
  ((with_reducible refine evL_nil ?_))
  have e2 : [] ++ List.map (fun v => match v with | V.int i => V.str (pc5 i) | _ => V.none) (s.map V.int) = (s.map pc5).map V.str := by simp
  show OpL _ _ _ [_, V.lst ([] ++ List.map (fun v => match v with | V.int i => V.str (pc5 i) | _ => V.none) (s.map V.int))] _
  rw [e2]
  have hfl := flat5_len s
  have hfl2 : ((s.map pc5).map List.length).sum = (s.map pc5).flatten.length := by rw [List.length_flatten]
  refine opL_join_list (by rw [hfl2]; show _ + _ * 0 ≤ _; omega) ?_
  rw [show joinS (lit "") (s.map pc5) = (s.map pc5).flatten from joinS_nil _]
  refine op_add_str (by show 5 + _ ≤ _; omega) ?_
  show Exs _ (put _ _ _ (.val (.str (text5 s)))) _ _
  ((refine exs_cons ?_); (with_reducible refine ex_assign (by assumption) ?hx_2 ?hs_2 ?_); (case hx_2 => kernel_rfl); (case hs_2 => exact swaps_no (by rfl)))
  refine ev_fn okn hG (by kernel_rfl) (by rfl) (callee_of (fnAt_of (a := 55) I.hF (by rfl) (by rfl) (by rfl) (by rfl) (by rfl) (by rfl) (by rfl) (by rfl) (by rfl))) ?_ (by rfl) (by rfl) (by decide)
  ((with_reducible refine evL_cons ?_ ?hs_53); (case hs_53 => rfl); (with_reducible refine ev_name (v := ?vv_54) (by assumption) ?hf_54 ?_ ?hn_54 ?hd_54); (case hf_54 => walk_at "sxf"); (case hn_54 => decide); (case hd_54 => decide); (with_reducible refine evL_nil ?_))
  refine OpL.eq (c_table (n := n + 5) okn I hsl) ?_
  ((refine exs_cons ?_); (with_reducible refine ex_assignN (by assumption) ?hx_9 ?hs_9 ?_); (case hx_9 => kernel_rfl); (case hs_9 => exact swaps_no (by rfl)))
  refine evF_fn okn hG (by kernel_rfl) (by rfl) .ty ?_ (by rfl) (by rfl) (by decide)
  ((with_reducible refine evL_cons ?_ ?hs_56); (case hs_56 => rfl); (with_reducible refine ev_meth ?_ ?h1_57 ?h2_57 ?h3_57 ?h4_57); (case h1_57 => rfl); (case h2_57 => rfl); (case h3_57 => rfl); (case h4_57 => rfl); (with_reducible refine ev_name (v := ?vv_58) (by assumption) ?hf_58 ?_ ?hn_58 ?hd_58); (case hf_58 => walk_at "sxf"); (case hn_58 => decide); (case hd_58 => decide); (with_reducible refine ⟨_, _, methOk_dct PySem.F.slot_dict_items PySem.F.type_dict_items, ?_⟩); (with_reducible refine evL_nil ?_); (with_reducible refine opL_items ?_); (with_reducible refine evL_nil ?_))
  refine opF_listItems okn (Nat.le_trans hbl (szc 63)) fun aB => ?_
  ((refine exs_cons ?_); (with_reducible refine ex_assign (by assumption) ?hx_3 ?hs_3 ?_); (case hx_3 => kernel_rfl); (case hs_3 => exact swaps_no (by rfl)))
  ((with_reducible refine ev_fn (w := ?ww_63) (L := ?LL_63) (by assumption) ?hGG_63 ?h1_63 ?h2_63 ?hc_63 ?_ ?h3_63 ?h4_63 ?h5_63); (case hGG_63 => assumption); (case h1_63 => kernel_rfl); (case h2_63 => rfl); (case hc_63 => exact .bi); (case h3_63 => rfl); (case h4_63 => rfl); (case h5_63 => decide); (with_reducible refine evL_cons ?_ ?hs_64); (case hs_64 => rfl); (with_reducible refine ev_name (v := ?vv_65) (by assumption) ?hf_65 ?_ ?hn_65 ?hd_65); (case hf_65 => walk_at "sxf"); (case hn_65 => decide); (case hd_65 => decide); (with_reducible refine evL_nil ?_))
  refine opL_sum okn ?_
  refine exs_cons ?_
  generalize ht : (Stmt.Assign _ _ _) = stt
  refine Tr.freeze (x := "before") (by walk_at "sxf") rfl ?_ (by decide)
  subst ht
  generalize hsum : s.sum = m at hT ⊢
  generalize htb : table5 s = tb at hT hat hnd hbl ⊢
  generalize htx : text5 s = t at hT hE1 hE2 hE3 htl ⊢
  clear hsum htb htx
  refine ex_St (fun σ => find σ (Str.ofString "script") = some (.val (.lst (s.map V.int))) ∧ find σ (Str.ofString "text") = some (.val (.str t)) ∧ find σ (Str.ofString "table") = some (.val (.dct tb)) ∧ find σ (Str.ofString "before") = some (.val (.lst (tb.map fun p => .tup [p.1.tv, p.2]))) ∧ find σ (Str.ofString "n") = some (.val (.int m))) ⟨by walk_at "sxf", by walk_at "sxf", by walk_at "sxf", by walk_at "sxf", by walk_at "sxf"⟩ fun σ hσ => ?_
  have f1 := hσ.1
  have f2 := hσ.2.1
  have f3 := hσ.2.2.1
  have f4 := hσ.2.2.2.1
  have f5 := hσ.2.2.2.2
  clear hσ
  have hgi := given5_cases m tb
  have hdi := data5_isi m t s.length
  refine ex_assign okn ?_ ?_ ?_
  · kernel_rfl
  · exact swaps_no (by rfl)
  refine Tr.mono (Q := fun v σ' => v = given5 m tb ∧ σ' = σ) (ev_ifexp ?_) ?_
  · ((with_reducible refine tst_cmp ?_ ?hs_67); (case hs_67 => with_unfolding_all rfl); (with_reducible refine ev_bin ?_); (with_reducible refine ev_name (v := ?vv_69) (by assumption) ?hf_69 ?_ ?hn_69 ?hd_69); (case hf_69 => walk_at "sxf"); (case hn_69 => decide); (case hd_69 => decide); (with_reducible refine ev_int ?_); (with_reducible refine op_mod_int ?hg_71 ?_); (case hg_71 => walk_at "sxg"); (with_reducible refine ev_int ?_); (with_reducible refine op_eq_int ?_); (with_reducible refine exB ?_))
    refine ⟨fun hb => ?_, fun hb => ?_⟩
    · have hgv : given5 m tb = gl5.getD ((m.fdiv 5).fmod 10).toNat .none := by unfold given5; rw [if_pos (of_decide_eq_true hb)]
      obtain ⟨k, hk, hk1, hk2⟩ := fmodNat (m.fdiv 5) (m := 10) (by decide)
      have hk : (m.fdiv 5).fmod 10 = (k : Int) := hk
      have hk2 : ((m.fdiv 5).fmod 10).toNat = k := hk2
      rw [hk2] at hgv
      ((with_reducible refine ev_sub ?_ ?hs_75); (case hs_75 => (intro _ _; rfl)))
      refine ev_ofF ?_
      refine evF_list ?_
      ((with_reducible refine evL_cons ?_ ?hs_76); (case hs_76 => rfl); (with_reducible refine ev_none ?_); (with_reducible refine evL_cons ?_ ?hs_78); (case hs_78 => rfl))
      refine ev_tuple ?_
      ((with_reducible refine evL_nil ?_))
      refine ⟨szc 0, ?_⟩
      ((with_reducible refine evL_cons ?_ ?hs_80); (case hs_80 => rfl))
      refine ev_ofF ?_
      refine evF_list ?_
      ((with_reducible refine evL_nil ?_))
      refine ⟨szc 0, fun b1 => ?_⟩
      ((with_reducible refine evL_cons ?_ ?hs_82); (case hs_82 => rfl); (with_reducible refine ev_str ?_); (with_reducible refine evL_cons ?_ ?hs_84); (case hs_84 => rfl); (with_reducible refine ev_int ?_); (with_reducible refine evL_cons ?_ ?hs_86); (case hs_86 => rfl); (with_reducible refine ev_bool ?_); (with_reducible refine evL_cons ?_ ?hs_88); (case hs_88 => rfl); (with_reducible refine ev_int ?_); (with_reducible refine evL_cons ?_ ?hs_90); (case hs_90 => rfl); (with_reducible refine ev_str ?_); (with_reducible refine evL_cons ?_ ?hs_92); (case hs_92 => rfl))
      refine ev_ofF ?_
      refine evF_list ?_
      ((with_reducible refine evL_cons ?_ ?hs_93); (case hs_93 => rfl); (with_reducible refine ev_int ?_); (with_reducible refine evL_nil ?_))
      refine ⟨szc 1, fun b2 => ?_⟩
      ((with_reducible refine evL_cons ?_ ?hs_96); (case hs_96 => rfl))
      refine ev_tuple ?_
      ((with_reducible refine evL_cons ?_ ?hs_97); (case hs_97 => rfl); (with_reducible refine ev_str ?_); (with_reducible refine evL_nil ?_))
      refine ⟨szc 1, ?_⟩
      ((with_reducible refine evL_nil ?_))
      refine ⟨szc 10, fun b3 => ?_⟩
      ((with_reducible refine ev_bin ?_); (with_reducible refine ev_bin ?_); (with_reducible refine ev_name (v := ?vv_103) (by assumption) ?hf_103 ?_ ?hn_103 ?hd_103); (case hf_103 => walk_at "sxf"); (case hn_103 => decide); (case hd_103 => decide); (with_reducible refine ev_int ?_); (with_reducible refine op_div_int ?hg_105 ?hp_105 ?_); (case hg_105 => walk_at "sxg"); (case hp_105 => exact PyProof.noPylong_of_log2 (by decide +kernel)); (with_reducible refine ev_int ?_); (with_reducible refine op_mod_int ?hg_107 ?_); (case hg_107 => walk_at "sxg"))
      rw [hk]
      refine item_list (l := gl5) (i := k) (v := gl5.getD k .none) (szc 10) ?_ ⟨hgv.symm, rfl⟩
      rw [List.getD_eq_getElem?_getD, List.getElem?_eq_getElem (show k < gl5.length from hk1)]; rfl
    · have hgv : given5 m tb = .dct tb := by unfold given5; rw [if_neg (of_decide_eq_false hb)]
      ((with_reducible refine ev_name (v := ?vv_108) (by assumption) ?hf_108 ?_ ?hn_108 ?hd_108); (case hf_108 => walk_at "sxf"); (case hn_108 => decide); (case hd_108 => decide))
      exact ⟨hgv.symm, rfl⟩
  rintro v σ' ⟨rfl, rfl⟩
  generalize given5 m tb = given at hT hgi ⊢
  have hgisi : IsiV given := by
    rcases hgi with h | h
    · exact gl5_isi _ h
    · rw [h]; exact .dct _
  have hgtru : TruV given := by
    rcases hgi with h | h
    · exact gl5_tru _ h
    · rw [h]; exact .dct _ (Nat.le_trans hbl (szc 63))
  have hnd' : ∀ es, given = .dct es → es.length ≤ 100 ∧ (∀ (i : Nat) (p : Key × V), es[i]? = some p → dget es p.1 = some p.2 ∧ IsiV p.2) := by
    intro es he
    rcases hgi with h | h
    · exact absurd (by rw [he]; rfl) (gl5_nod _ h).1
    · rw [h] at he
      injection he with he
      subst he
      exact ⟨Nat.le_trans hbl (by decide), hnd⟩
  have hkn : tyV given = "dict" → given = .dct (dctOf given) := by
    intro he
    rcases hgi with h | h
    · exact absurd he (gl5_nod _ h).1
    · rw [h]; rfl
  have hkn2 : ¬ tyV given = "dict" → dctOf given = [] := by
    intro he
    rcases hgi with h | h
    · exact (gl5_nod _ h).2
    · rw [h] at he; exact absurd rfl he
  clear hgi hnd
  ((refine exs_cons ?_); (with_reducible refine ex_assign (by assumption) ?hx_4 ?hs_4 ?_); (case hx_4 => kernel_rfl); (case hs_4 => exact swaps_no (by rfl)))
  ((with_reducible refine ev_name (v := ?vv_109) (by assumption) ?hf_109 ?_ ?hn_109 ?hd_109); (case hf_109 => walk_at "sxf"); (case hn_109 => decide); (case hd_109 => decide))
  obtain ⟨D, hD⟩ : ∃ D : V, D = if (m.fdiv 50).fmod 6 = 4 then (dl5 m t).getD ((s.length : Int).fmod 4).toNat .none else .str t := ⟨_, rfl⟩
  have hdd : data5 m t s.length = if (m.fdiv 50).fmod 6 = 5 then .bytes [38, 60].toArray else D := by rw [hD]; rfl
  refine exs_split (fun σ => find σ (Str.ofString "data") = some (.val D) ∧ find σ (Str.ofString "given") = some (.val given) ∧ find σ (Str.ofString "text") = some (.val (.str t)) ∧ find σ (Str.ofString "table") = some (.val (.dct tb)) ∧ find σ (Str.ofString "before") = some (.val (.lst (tb.map fun p => .tup [p.1.tv, p.2]))) ∧ find σ (Str.ofString "n") = some (.val (.int m))) (fun Q' hQ' => ?_) ?_
  · refine ex_if ?_
    ((with_reducible refine tst_cmp ?_ ?hs_110); (case hs_110 => with_unfolding_all rfl); (with_reducible refine ev_bin ?_); (with_reducible refine ev_bin ?_); (with_reducible refine ev_name (v := ?vv_113) (by assumption) ?hf_113 ?_ ?hn_113 ?hd_113); (case hf_113 => walk_at "sxf"); (case hn_113 => decide); (case hd_113 => decide); (with_reducible refine ev_int ?_); (with_reducible refine op_div_int ?hg_115 ?hp_115 ?_); (case hg_115 => walk_at "sxg"); (case hp_115 => exact PyProof.noPylong_of_log2 (by decide +kernel)); (with_reducible refine ev_int ?_); (with_reducible refine op_mod_int ?hg_117 ?_); (case hg_117 => walk_at "sxg"); (with_reducible refine ev_int ?_); (with_reducible refine op_eq_int ?_); (with_reducible refine exB ?_))
    refine ⟨fun hb => ?_, fun hb => ?_⟩
    · rw [if_pos (of_decide_eq_true hb)] at hD
      obtain ⟨k, hk, hk1, hk2⟩ := fmodNat (s.length : Int) (m := 4) (by decide)
      have hk : (s.length : Int).fmod 4 = (k : Int) := hk
      have hk2 : ((s.length : Int).fmod 4).toNat = k := hk2
      rw [hk2] at hD
      ((refine exs_cons ?_); (with_reducible refine ex_assign (by assumption) ?hx_5 ?hs_5 ?_); (case hx_5 => kernel_rfl); (case hs_5 => exact swaps_no (by rfl)))
      ((with_reducible refine ev_sub ?_ ?hs_121); (case hs_121 => (intro _ _; rfl)))
      refine ev_ofF ?_
      refine evF_list ?_
      ((with_reducible refine evL_cons ?_ ?hs_122); (case hs_122 => rfl); (with_reducible refine ev_none ?_); (with_reducible refine evL_cons ?_ ?hs_124); (case hs_124 => rfl); (with_reducible refine ev_name (v := ?vv_125) (by assumption) ?hf_125 ?_ ?hn_125 ?hd_125); (case hf_125 => walk_at "sxf"); (case hn_125 => decide); (case hd_125 => decide); (with_reducible refine evL_cons ?_ ?hs_126); (case hs_126 => rfl))
      refine ev_ofF ?_
      refine evF_list ?_
      ((with_reducible refine evL_cons ?_ ?hs_127); (case hs_127 => rfl); (with_reducible refine ev_name (v := ?vv_128) (by assumption) ?hf_128 ?_ ?hn_128 ?hd_128); (case hf_128 => walk_at "sxf"); (case hn_128 => decide); (case hd_128 => decide); (with_reducible refine evL_nil ?_))
      refine ⟨szc 1, fun b1 => ?_⟩
      ((with_reducible refine evL_cons ?_ ?hs_130); (case hs_130 => rfl))
      ((with_reducible refine ev_ofF ?_); (with_reducible refine evF_dictE (by assumption) ?_ ?h1_10 ?h2_10 ?h3_10 ?h4_10); (case h1_10 => rfl); (case h2_10 => rfl); (case h3_10 => rfl); (case h4_10 => exact Nat.le_of_ble_eq_true (by rfl)))
      refine evD_cons ?_
      refine ev_str ?_
      refine ⟨.s _, rfl, ?_⟩
      ((with_reducible refine ev_name (v := ?vv_131) (by assumption) ?hf_131 ?_ ?hn_131 ?hd_131); (case hf_131 => walk_at "sxf"); (case hn_131 => decide); (case hd_131 => decide))
      refine evD_nil fun b2 => ?_
      ((with_reducible refine evL_nil ?_))
      refine ⟨szc 4, fun b3 => ?_⟩
      ((with_reducible refine ev_bin ?_); (with_reducible refine ev_fn (w := ?ww_134) (L := ?LL_134) (by assumption) ?hGG_134 ?h1_134 ?h2_134 ?hc_134 ?_ ?h3_134 ?h4_134 ?h5_134); (case hGG_134 => assumption); (case h1_134 => kernel_rfl); (case h2_134 => rfl); (case hc_134 => exact .bi); (case h3_134 => rfl); (case h4_134 => rfl); (case h5_134 => decide); (with_reducible refine evL_cons ?_ ?hs_135); (case hs_135 => rfl); (with_reducible refine ev_name (v := ?vv_136) (by assumption) ?hf_136 ?_ ?hn_136 ?hd_136); (case hf_136 => walk_at "sxf"); (case hn_136 => decide); (case hd_136 => decide); (with_reducible refine evL_nil ?_))
      refine opL_len_list (by rw [List.length_map]; omega) ?_
      rw [List.length_map]
      ((with_reducible refine ev_int ?_); (with_reducible refine op_mod_int ?hg_139 ?_); (case hg_139 => walk_at "sxg"))
      rw [hk]
      refine item_list (l := dl5 m t) (i := k) (v := D) (szc 4) ?_ ?_
      · rw [hD, List.getD_eq_getElem?_getD, List.getElem?_eq_getElem (show k < (dl5 m t).length from hk1)]; rfl
      · exact exs_nil (hQ' _ ⟨by walk_at "sxf", by walk_at "sxf", by walk_at "sxf", by walk_at "sxf", by walk_at "sxf", by walk_at "sxf"⟩)
    · rw [if_neg (of_decide_eq_false hb)] at hD
      rw [hD] at hQ'
      exact exs_nil (hQ' _ ⟨by walk_at "sxf", by walk_at "sxf", by walk_at "sxf", by walk_at "sxf", by walk_at "sxf", by walk_at "sxf"⟩)
  intro σ2 hI
  clear hD f1 f2 f3 f4 f5
  generalize data5 m t s.length = data at hdi hT hdd
  refine exs_split (fun σ => find σ (Str.ofString "data") = some (.val data) ∧ find σ (Str.ofString "given") = some (.val given) ∧ find σ (Str.ofString "text") = some (.val (.str t)) ∧ find σ (Str.ofString "table") = some (.val (.dct tb)) ∧ find σ (Str.ofString "before") = some (.val (.lst (tb.map fun p => .tup [p.1.tv, p.2])))) (fun Q' hQ' => ?_) ?_
  · have f1 := hI.1
    have f2 := hI.2.1
    have f3 := hI.2.2.1
    have f4 := hI.2.2.2.1
    have f5 := hI.2.2.2.2.1
    have f6 := hI.2.2.2.2.2
    clear hI
    refine ex_if ?_
    ((with_reducible refine tst_cmp ?_ ?hs_140); (case hs_140 => with_unfolding_all rfl); (with_reducible refine ev_bin ?_); (with_reducible refine ev_bin ?_); (with_reducible refine ev_name (v := ?vv_143) (by assumption) ?hf_143 ?_ ?hn_143 ?hd_143); (case hf_143 => walk_at "sxf"); (case hn_143 => decide); (case hd_143 => decide); (with_reducible refine ev_int ?_); (with_reducible refine op_div_int ?hg_145 ?hp_145 ?_); (case hg_145 => walk_at "sxg"); (case hp_145 => exact PyProof.noPylong_of_log2 (by decide +kernel)); (with_reducible refine ev_int ?_); (with_reducible refine op_mod_int ?hg_147 ?_); (case hg_147 => walk_at "sxg"); (with_reducible refine ev_int ?_); (with_reducible refine op_eq_int ?_); (with_reducible refine exB ?_))
    refine ⟨fun hb => ?_, fun hb => ?_⟩
    · rw [if_pos (of_decide_eq_true hb)] at hdd
      ((refine exs_cons ?_); (with_reducible refine ex_assign (by assumption) ?hx_6 ?hs_6 ?_); (case hx_6 => kernel_rfl); (case hs_6 => exact swaps_no (by rfl)))
      refine ev_bytes ?_
      rw [hdd] at hQ'
      exact exs_nil (hQ' _ ⟨by walk_at "sxf", by walk_at "sxf", by walk_at "sxf", by walk_at "sxf", by walk_at "sxf"⟩)
    · rw [if_neg (of_decide_eq_false hb)] at hdd
      rw [hdd] at hQ'
      exact exs_nil (hQ' _ ⟨f1, f2, f3, f4, f5⟩)
  intro σ3 hI
  have f1 := hI.1
  have f2 := hI.2.1
  have f3 := hI.2.2.1
  have f4 := hI.2.2.2.1
  have f5 := hI.2.2.2.2
  clear hI hdd
  ((refine exs_cons ?_); (with_reducible refine ex_assign (by assumption) ?hx_7 ?hs_7 ?_); (case hx_7 => kernel_rfl); (case hs_7 => exact swaps_no (by rfl)))
  refine Tr.mono (Q := fun v σ' => v = .dct (dctOf given) ∧ σ' = σ3) (ev_ifexp ?_) ?_
  · refine tst_isi okn I (by kernel_rfl) (by kernel_rfl) f2 (by decide) (by decide) hgisi .d ⟨fun hb => ?_, fun hb => ?_⟩
    · ((with_reducible refine ev_name (v := ?vv_151) (by assumption) ?hf_151 ?_ ?hn_151 ?hd_151); (case hf_151 => walk_at "sxf"); (case hn_151 => decide); (case hd_151 => decide))
      exact ⟨hkn (of_decide_eq_true hb), rfl⟩
    · refine ev_ofF ?_
      refine evF_dict0 okn fun aT => ?_
      rw [hkn2 (of_decide_eq_false hb)]
      exact ⟨rfl, rfl⟩
  rintro v σ' ⟨rfl, rfl⟩
  exact end05 (n := n) okn I hfr (Nat.le_trans hbl (by decide)) hat hdi hgisi hgtru hnd' hT hE1 hE2 hE3 (by walk_at "sxf") (by walk_at "sxf") (by walk_at "sxf") (by walk_at "sxf") (by walk_at "sxf") (by walk_at "sxf") hQ
theorem dget_tabS : ∀ (es : List (S × S)) (k : S), dget (tabV es) (.s k) = none ∨ ∃ z, dget (tabV es) (.s k) = some (.str z)
  | [], k => .inl rfl
  | (a, z) :: r, k => by
    have e : dget (tabV ((a, z) :: r)) (.s k) = if Key.s a = .s k then some (.str z) else dget (tabV r) (.s k) := dget_cons _ _ _ _
    rw [e]
    split
    · exact .inr ⟨z, rfl⟩
    · exact dget_tabS r k
theorem good_tab {es : List (S × S)} (h : Tab5 es) (t : S) : Good5 (tabV es) t := fun c _ => ⟨by
  unfold rf5
  rcases dget_tabS es [c] with e | ⟨z, e⟩ <;> rw [e] <;> rfl, rf5_le h c⟩
theorem good_mks {es : List (S × S)} (h : Tab5 es) (t : S) : Good5 (dsets (tabV es) (tabV mks5)) t := fun c _ => ⟨by
  have hd : dget (dsets (tabV es) (tabV mks5)) (.s [c]) = none ∨ ∃ z, dget (dsets (tabV es) (tabV mks5)) (.s [c]) = some (.str z) := by
    rw [dget_mks]
    split
    · exact .inr ⟨_, rfl⟩
    split
    · exact .inr ⟨_, rfl⟩
    split
    · exact .inr ⟨_, rfl⟩
    exact dget_tabS es [c]
  unfold rf5
  rcases hd with e | ⟨z, e⟩ <;> rw [e] <;> rfl, mks_le h c⟩
/-! which refusal -/
theorem ref_b {b : Array UInt8} {g : V} : refused5 (.bytes b) g false = lit "TypeError" := rfl
theorem ref_m {d g : V} (h1 : tyV d ≠ "bytes") (h2 : tyV d ≠ "str") : refused5 d g false = lit "AttributeError" := by
  unfold refused5
  rw [Bool.false_and, if_neg Bool.false_ne_true, if_neg h1, if_pos h2]
theorem ref_g {t : S} {g : V} (h : tyV g ≠ "dict") : refused5 (.str t) g false = if truV g = true then lit "AttributeError" else [] := by
  unfold refused5
  rw [Bool.false_and, if_neg Bool.false_ne_true, if_neg (show ¬ tyV (V.str t) = "bytes" from (by decide : ¬ ("str" : String) = "bytes")), if_neg (fun h => h rfl), if_pos h]
theorem ref_d {t : S} {es : List (Key × V)} {q : Bool} : refused5 (.str t) (.dct es) q = if es.any (badE q) = true then lit "TypeError" else [] := by
  unfold refused5
  rw [show (!decide (tyV (V.dct es) = "dict")) = false from rfl, Bool.and_false, if_neg Bool.false_ne_true, if_neg (show ¬ tyV (V.str t) = "bytes" from (by decide : ¬ ("str" : String) = "bytes")), if_neg (fun h => h rfl), if_neg (fun h => h rfl)]
  rfl
theorem ref_qn {d g : V} (h : tyV g ≠ "dict") : refused5 d g true = lit "TypeError" := by
  unfold refused5
  rw [decide_eq_false h]; rfl
theorem ref_qb {b : Array UInt8} {es : List (Key × V)} : refused5 (.bytes b) (.dct es) true = lit "TypeError" := rfl
theorem ref_qm {d : V} {es : List (Key × V)} (h1 : tyV d ≠ "bytes") (h2 : tyV d ≠ "str") : refused5 d (.dct es) true = lit "AttributeError" := by
  unfold refused5
  rw [show (!decide (tyV (V.dct es) = "dict")) = false from rfl, Bool.and_false, if_neg Bool.false_ne_true, if_neg h1, if_pos h2]
theorem dl5_miss {m : Int} {t : S} {v : V} (h : v ∈ dl5 m t) : MissV v ∧ typeLookup (.type (tyV v)) (Str.ofString "replace") = pure none ∧ tyV v ≠ "bytes" ∧ tyV v ≠ "str" := by
  simp only [dl5, List.mem_cons, List.not_mem_nil, or_false] at h
  rcases h with rfl | rfl | rfl | rfl
  · exact ⟨.none, am_miss_of_fast (by decide +kernel), (by decide : ("NoneType" : String) ≠ "bytes"), (by decide : ("NoneType" : String) ≠ "str")⟩
  · exact ⟨.int _, (am_miss_of_fast (by decide +kernel) : typeLookup (.type "int") (Str.ofString "replace") = pure none), (by decide : ("int" : String) ≠ "bytes"), (by decide : ("int" : String) ≠ "str")⟩
  · exact ⟨.lst _, (am_miss_of_fast (by decide +kernel) : typeLookup (.type "list") (Str.ofString "replace") = pure none), (by decide : ("list" : String) ≠ "bytes"), (by decide : ("list" : String) ≠ "str")⟩
  · exact ⟨.dct _, (am_miss_of_fast (by decide +kernel) : typeLookup (.type "dict") (Str.ofString "replace") = pure none), (by decide : ("dict" : String) ≠ "bytes"), (by decide : ("dict" : String) ≠ "str")⟩
theorem gl5_miss {v : V} (h : v ∈ gl5) (ht : truV v = true) : MissV v ∧ typeLookup (.type (tyV v)) (Str.ofString "items") = pure none := by
  simp only [gl5, List.mem_cons, List.not_mem_nil, or_false] at h
  rcases h with rfl | rfl | rfl | rfl | rfl | rfl | rfl | rfl | rfl | rfl
  · cases ht
  · cases ht
  · cases ht
  · cases ht
  · cases ht
  · cases ht
  · exact ⟨.int _, am_miss_of_fast (by decide +kernel)⟩
  · exact ⟨.str _, am_miss_of_fast (by decide +kernel)⟩
  · exact ⟨.lst _, am_miss_of_fast (by decide +kernel)⟩
  · exact ⟨.tup _, am_miss_of_fast (by decide +kernel)⟩
theorem gl5_nomap {v : V} (h : v ∈ gl5) : NoMapV v := by
  simp only [gl5, List.mem_cons, List.not_mem_nil, or_false] at h
  rcases h with rfl | rfl | rfl | rfl | rfl | rfl | rfl | rfl | rfl | rfl
  · exact .none
  · exact .tup _
  · exact .lst _
  · exact .str _
  · exact .int _
  · exact .bool _
  · exact .int _
  · exact .str _
  · exact .lst _
  · exact .tup _
noncomputable def BadKV (k : Key) (v : V) : Prop := NoTextV k.v ∨ ((∃ y, k.v = .str y) ∧ NoTextV v)
theorem T5_two {n : Nat} {f due : Addr} {t : S} {tb : List (Key × V)} {m : Int} {l : Nat} (hb : Tb5 tb) (hl : tb.length ≤ 63)
    (hM : ∀ d v2, MissV d → typeLookup (.type (tyV d)) (Str.ofString "replace") = pure none → ∀ (C' : Cx) (l : List Env), C'.Ok (n + 5) → In05 C' → RaisesF C' l f [d, v2] "AttributeError")
    (hB : ∀ b v2, ∀ (C' : Cx) (l : List Env), C'.Ok (n + 5) → In05 C' → RaisesF C' l f [.bytes b, v2] "TypeError")
    (hA : ∀ v2, TruV v2 → truV v2 = true → MissV v2 → typeLookup (.type (tyV v2)) (Str.ofString "items") = pure none → ∀ (C' : Cx) (l : List Env), C'.Ok (n + 5) → In05 C' → RaisesF C' l f [.str t, v2] "AttributeError")
    (hD : ∀ es k v post, Tab5 es → BadKV k v → TruV (.dct (tabV es ++ (k, v) :: post)) → ∀ (C' : Cx) (l : List Env), C'.Ok (n + 5) → In05 C' → RaisesF C' l f [.str t, .dct (tabV es ++ (k, v) :: post)] "TypeError")
    (hC : ∀ es v, Tab5 es → (tabV es).length ≤ 63 → (v = .dct (tabV es) ∨ (es = [] ∧ truV v = false)) → TruV v → ∃ r : S, (∀ C' : Cx, C'.Ok (n + 5) → In05 C' → OpL C' (Rep C'.W) (fun ws => call (.ref f) ws) [.str t, v] (fun v => v = .str r)) ∧ ∀ C' : Cx, C'.Ok (n + 6) → In05 C' → OpL C' (Rep C'.W) (fun ws => call (.ref due) ws) [.str t, .dct (tabV es)] (fun v => v = .str r)) :
    T5 n f due false (data5 m t l) (given5 m tb) (dctOf (given5 m tb)) := by
  rcases data5_cases m t l with h | h | h
  · rw [h]
    exact .inl ⟨"TypeError", .inl rfl, ref_b, fun C' l => hB _ _ C' l⟩
  · obtain ⟨h1, h2, h3, h4⟩ := dl5_miss h
    exact .inl ⟨"AttributeError", .inr rfl, ref_m h3 h4, fun C' l => hM _ _ h1 h2 C' l⟩
  · rw [h]
    rcases given5_cases m tb with hg | hg
    · have hn := gl5_nod _ hg
      cases htr : truV (given5 m tb) with
      | true =>
        obtain ⟨h1, h2⟩ := gl5_miss hg htr
        exact .inl ⟨"AttributeError", .inr rfl, by rw [ref_g hn.1, htr]; rfl, fun C' l => hA _ (gl5_tru _ hg) htr h1 h2 C' l⟩
      | false =>
        obtain ⟨r, h1, h2⟩ := hC [] (given5 m tb) (fun w h => (nomatch h)) (Nat.zero_le _) (.inr ⟨rfl, htr⟩) (gl5_tru _ hg)
        refine .inr ⟨by rw [ref_g hn.1, htr]; rfl, r, h1, ?_⟩
        rw [hn.2]
        exact h2
    · rw [hg]
      have htv : TruV (.dct tb) := .dct _ (Nat.le_trans hl (szc 63))
      rcases split5 tb hb.ent with ⟨h1, es, h2, h3⟩ | ⟨h1, es, k, v, post, h2, h3, h4⟩
      · obtain ⟨r, a, b⟩ := hC es (.dct tb) h3 (by rw [← h2]; exact hl) (.inl (by rw [h2])) htv
        refine .inr ⟨by rw [ref_d, h1]; rfl, r, a, ?_⟩
        show ∀ C' : Cx, C'.Ok (n + 6) → In05 C' → OpL C' (Rep C'.W) (fun ws => call (.ref due) ws) [.str t, .dct tb] (fun v => v = .str r)
        rw [h2]
        exact b
      · refine .inl ⟨"TypeError", .inl rfl, by rw [ref_d, h1]; rfl, ?_⟩
        rw [h2] at htv ⊢
        exact hD es k v post h3 h4 htv
theorem T5_escape {n : Nat} {t : S} {tb : List (Key × V)} {m : Int} {l : Nat} (ht : t.length ≤ 1400) (hb : Tb5 tb) (hl : tb.length ≤ 63) : T5 n 30 74 false (data5 m t l) (given5 m tb) (dctOf (given5 m tb)) := by
  refine T5_two hb hl ?_ ?_ ?_ ?_ ?_
  · exact fun d v2 h1 h2 C' l ok I => r_escapeM (n := n + 4) ok I h1 h2
  · exact fun b v2 C' l ok I => r_escapeB (n := n + 4) ok I
  · exact fun v2 h1 h2 h3 h4 C' l ok I => r_escapeD (n := n + 3) ok I h1 h2 (esc_ok (es := []) (fun w h => (nomatch h)) ht).1 fun l' ok' I' => r_dictrepA (n := n + 3) ok' I' h3 h4
  · intro es k v post h1 h2 h3 C' l ok I
    refine r_escapeD (n := n + 3) ok I h3 ?_ (esc_ok h1 ht).1 fun l' ok' I' => r_dictrepB (n := n + 3) ok' I' (esc_ok h1 ht).2.1 h2
    show (!(tabV es ++ (k, v) :: post).isEmpty) = true
    cases tabV es <;> rfl
  · intro es v h1 h2 h3 h4
    refine ⟨written5 t (tabV es), fun C' ok I => ?_, fun C' ok I => c_written (n := n + 5) ok I (Nat.le_trans ht (by decide)) (Nat.le_trans h2 (by decide)) (good_mks h1 t)⟩
    rw [← esc_written h1]
    exact c_escape (n := n + 3) ok I h3 h4 (esc_ok h1 ht).2.2.1
theorem T5_unescape {n : Nat} {t : S} {tb : List (Key × V)} {m : Int} {l : Nat} (ht : t.length ≤ 1400) (hb : Tb5 tb) (hl : tb.length ≤ 63) : T5 n 39 69 false (data5 m t l) (given5 m tb) (dctOf (given5 m tb)) := by
  refine T5_two hb hl ?_ ?_ ?_ ?_ ?_
  · exact fun d v2 h1 h2 C' l ok I => r_unescapeM (n := n + 4) ok I h1 h2
  · exact fun b v2 C' l ok I => r_unescapeB (n := n + 4) ok I
  · exact fun v2 h1 h2 h3 h4 C' l ok I => r_unescapeD (n := n + 3) ok I h1 h2 (un_ok (es := []) (fun w h => (nomatch h)) ht).1 fun l' ok' I' => r_dictrepA (n := n + 3) ok' I' h3 h4
  · intro es k v post h1 h2 h3 C' l ok I
    refine r_unescapeD (n := n + 3) ok I h3 ?_ (un_ok h1 ht).1 fun l' ok' I' => r_dictrepB (n := n + 3) ok' I' (un_ok h1 ht).2.1 h2
    show (!(tabV es ++ (k, v) :: post).isEmpty) = true
    cases tabV es <;> rfl
  · intro es v h1 h2 h3 h4
    refine ⟨read5 (tabV es) t, fun C' ok I => ?_, fun C' ok I => c_read (n := n + 5) ok I (Nat.le_trans ht (by decide)) (good_tab h1 t)⟩
    rw [← un_read h1 _ t (Nat.le_refl _), ← un4_eq h1]
    exact c_unescape (n := n + 3) ok I h3 h4 (un_ok h1 ht).2.2
theorem own_eq {tb : List (Key × V)} (hb : Tb5 tb) : dsets (dsets [] tb) (tabV own5) = dsets tb (tabV own5) := by rw [dsets_nil hb.nd]
theorem T5_quote {n : Nat} {t : S} {tb : List (Key × V)} {m : Int} {l : Nat} (ht : t.length ≤ 1400) (hb : Tb5 tb) (hl : tb.length ≤ 63) : T5 n 48 81 true (data5 m t l) (given5 m tb) (dctOf (given5 m tb)) := by
  rcases given5_cases m tb with hg | hg
  · have hn := gl5_nod _ hg
    exact .inl ⟨"TypeError", .inl rfl, ref_qn hn.1, fun C' l ok I => r_quoteN (n := n + 4) ok I (gl5_nomap hg)⟩
  rw [hg]
  have hl2 : tb.length ≤ 1000 := Nat.le_trans hl (by decide)
  rcases data5_cases m t l with h | h | h
  · rw [h]
    exact .inl ⟨"TypeError", .inl rfl, ref_qb, fun C' l ok I => r_quoteE (n := n + 2) ok I (own_eq hb) hl2 fun l' ok' I' => r_escapeB (n := n + 3) ok' I'⟩
  · obtain ⟨h1, h2, h3, h4⟩ := dl5_miss h
    exact .inl ⟨"AttributeError", .inr rfl, ref_qm h3 h4, fun C' l ok I => r_quoteE (n := n + 2) ok I (own_eq hb) hl2 fun l' ok' I' => r_escapeM (n := n + 3) ok' I' h1 h2⟩
  rw [h]
  have hq := hb.own
  have ha := any_own hb
  have hql : (dsets tb (tabV own5)).length ≤ 100 := Nat.le_trans (dsets_length _ _) (by show _ + 3 ≤ _; omega)
  rcases split5 _ hq.ent with ⟨h1, es, h2, h3⟩ | ⟨h1, es, k, v, post, h2, h3, h4⟩
  · obtain ⟨e1, e2, e3, e4⟩ := esc_ok h3 ht
    rw [h1] at ha
    refine .inr ⟨by rw [ref_d, ← ha]; rfl, quoted5 t tb, fun C' ok I => ?_, fun C' ok I => c_quoted (n := n + 4) ok I (Nat.le_trans ht (by decide)) (Nat.le_trans hl (by decide)) (by show Good5 (dsets (dsets tb (tabV own5)) (tabV mks5)) t; rw [h2]; exact good_mks h3 t)⟩
    have : quoted5 t tb = quo5 (reps (esc5 ++ es) t) := by
      rw [esc_written h3, quo_quoB]; unfold quoted5; rw [h2]
    rw [this]
    refine c_quoteattr (n := n + 2) ok I (by rw [own_eq hb, h2]) hl2 ?_ e3 e4
    rw [← tabV_length, ← h2]
    exact Nat.le_trans hql (by decide)
  · rw [h1] at ha
    refine .inl ⟨"TypeError", .inl rfl, by rw [ref_d, ← ha]; rfl, fun C' l ok I => r_quoteE (n := n + 2) (es := tabV es ++ (k, v) :: post) ok I (by rw [own_eq hb, h2]) hl2 fun l' ok' I' => ?_⟩
    refine r_escapeD (n := n + 2) ok' I' (.dct _ (by rw [← h2]; exact Nat.le_trans hql (szc 100))) ?_ (esc_ok h3 ht).1 fun l2 ok2 I2 => r_dictrepB (n := n + 2) ok2 I2 (esc_ok h3 ht).2.1 h4
    show (!(tabV es ++ (k, v) :: post).isEmpty) = true
    cases tabV es <;> rfl
theorem tab_nil : Tab5 [] := fun w h => (nomatch h)
theorem tab_own : Tab5 own5 := fun w h => List.mem_append_right _ h
theorem plain05 (n : Nat) (s : List Int) (hs : s.length ≤ 63) : Pl05 n s := by
  have ht := text5_len hs
  have hb := tb5_table s
  have hl : (table5 s).length ≤ 63 := Nat.le_trans (table5_len s) hs
  refine ⟨fun p hp => (atom_of (hb.ent p hp)).1, fun i p hp => ?_, fun p hp => ?_, ?_, ?_, ?_⟩
  · have hm := List.mem_of_getElem? hp
    exact ⟨dget_of hb.nd hm, (atom_of (hb.ent p hm)).2⟩
  · simp only [fs5, List.mem_cons, List.not_mem_nil, or_false] at hp
    rcases hp with rfl | rfl | rfl
    · exact T5_escape ht hb hl
    · exact T5_unescape ht hb hl
    · exact T5_quote ht hb hl
  · refine ⟨written5 (text5 s) (tabV []), fun C' ok I => ?_, fun C' ok I => c_written (n := n + 5) ok I (Nat.le_trans ht (by decide)) (Nat.zero_le _) (good_mks tab_nil _)⟩
    rw [← esc_written tab_nil]
    exact c_escape1 (n := n + 4) ok I (esc_ok tab_nil ht).2.2.1
  · refine ⟨read5 (tabV []) (text5 s), fun C' ok I => ?_, fun C' ok I => c_read (n := n + 5) ok I (Nat.le_trans ht (by decide)) (good_tab tab_nil _)⟩
    rw [← un_read tab_nil _ _ (Nat.le_refl _), ← un4_eq tab_nil]
    exact c_unescape1 (n := n + 4) ok I (un_ok tab_nil ht).2.2
  · refine ⟨quoted5 (text5 s) [], fun C' ok I => ?_, fun C' ok I => c_quoted (n := n + 4) ok I (Nat.le_trans ht (by decide)) (Nat.zero_le _) (good_mks tab_own _)⟩
    have : quoted5 (text5 s) [] = quo5 (reps (esc5 ++ own5) (text5 s)) := by rw [esc_written tab_own, quo_quoB]; rfl
    rw [this]
    exact c_quoteattr1 (n := n + 3) ok I (esc_ok tab_own ht).2.2.1 (esc_ok tab_own ht).2.2.2
theorem lookup_mem {l : List (String × Value)} {x : String} {v : Value} (h : l.lookup x = some v) : (x, v) ∈ l := by
  induction l with
  | nil => cases h
  | cons p r ih =>
    obtain ⟨y, u⟩ := p
    rw [List.lookup_cons] at h
    split at h
    · rename_i hb
      have hb := eq_of_beq hb
      injection h with h
      subst hb; subst h
      exact List.mem_cons_self
    · exact List.mem_cons_of_mem _ (ih h)
theorem ints_rep {W : Wd} {g : PH} {vs : List Value} {ns : List Int} (h : IntsAre vs ns) : RepL W g (ns.map V.int) vs := by
  induction h with
  | nil => exact .nil
  | cons n t _ ih => exact .cons (.int n t) ih
set_option maxHeartbeats 8000000 in
theorem join05 : PySem.Challenge.rw_kp0118_05.Holds := by
  rw [rw_eq05]
  w_on
  o_law
  o_head (kHook K05 [2, 3, 20, 21, 22, 23, 29, 30, 31, 32, 38, 39, 40, 41, 47, 48, 54, 55, 61, 62, 68, 69, 73, 74, 80, 81, 87, 88, 92, 93] (fun _ => by kernel_rfl))
  (case hw => w_witness2)
  intro w s₀ s₁ mg mb G Y fa o pm cd doc dV kV ho hd hcd hD hmg hg args vals as hpre hlay hrd hwl hlo
  have KX := kIn_of Y
  refine Ground.open G ?_
  intro T B D TE TW
  have h1 : mg "law" = some (.ref 93) := mg_of KX T.g (by kernel_rfl)
  have hfa : fa = 93 := by
    have h2 := h1.symm.trans hmg
    injection h2 with h2; injection h2 with h2; exact h2.symm
  clear hd hmg hD hcd
  subst hfa
  have hdo : (Wd.mk r05.row.prog w s₁.heap [("dict_replace_saxutils", .ref 21), ("escape", .ref 30), ("unescape", .ref 39), ("quoteattr", .ref 48), ("_law_table", .ref 55), ("_law_refused", .ref 62), ("_law_read", .ref 69), ("_law_written", .ref 74), ("_law_quoted", .ref 81), ("_law_told", .ref 88), ("isinstance", .builtin "isinstance"), ("len", .builtin "len"), ("sum", .builtin "sum"), ("dict", .type "dict"), ("bytes", .type "bytes"), ("str", .type "str"), ("list", .type "list"), ("TypeError", .type "TypeError"), ("AttributeError", .type "AttributeError")]).Ok := by
    refine ⟨?_, T.nolimit, mg, mb, T.g, T.b, ?_⟩
    · obtain ⟨mm, hm, _⟩ := (T.seer (by rfl)).mods
      obtain ⟨o, es, ep, ho, _⟩ := hm
      show (s₁.heap.get? sysModules).isSome = true
      rw [ho]; rfl
    · intro x v hx
      have hx := lookup_mem hx
      simp only [List.mem_cons, List.not_mem_nil, or_false, Prod.mk.injEq] at hx
      rcases hx with ⟨rfl, rfl⟩ | ⟨rfl, rfl⟩ | ⟨rfl, rfl⟩ | ⟨rfl, rfl⟩ | ⟨rfl, rfl⟩ | ⟨rfl, rfl⟩ | ⟨rfl, rfl⟩ | ⟨rfl, rfl⟩ | ⟨rfl, rfl⟩ | ⟨rfl, rfl⟩ | ⟨rfl, rfl⟩ | ⟨rfl, rfl⟩ | ⟨rfl, rfl⟩ | ⟨rfl, rfl⟩ | ⟨rfl, rfl⟩ | ⟨rfl, rfl⟩ | ⟨rfl, rfl⟩ | ⟨rfl, rfl⟩ | ⟨rfl, rfl⟩
      iterate 10 (exact .inl (mg_of KX T.g (by kernel_rfl)))
      iterate 9 (exact .inr ⟨mg_none_of KX T.g (by kernel_rfl), by rw [T.builtins _ (by decide)]; rfl⟩)
  clear T B D TE TW Y G
  wrow_args hpre hlay hrd hwl hlo
  rename_i sc _ _ _ _ _ _ _ a xs _ hL _ w1 r0 hI _ hc _
  have hsc : sc.length ≤ 63 := by omega
  have fn : FnAt (Wd.mk r05.row.prog w s₁.heap [("dict_replace_saxutils", .ref 21), ("escape", .ref 30), ("unescape", .ref 39), ("quoteattr", .ref 48), ("_law_table", .ref 55), ("_law_refused", .ref 62), ("_law_read", .ref 69), ("_law_written", .ref 74), ("_law_quoted", .ref 81), ("_law_told", .ref 88), ("isinstance", .builtin "isinstance"), ("len", .builtin "len"), ("sum", .builtin "sum"), ("dict", .type "dict"), ("bytes", .type "bytes"), ("str", .type "str"), ("list", .type "list"), ("TypeError", .type "TypeError"), ("AttributeError", .type "AttributeError")]) 93 (fdAt (F05 w) 93) (bdAt (F05 w) 93) :=
    fnAt_of (a := 93) KX (by rfl) (by rfl) (by rfl) (by rfl) (by rfl) (by rfl) (by rfl) (by rfl) (by rfl)
  have hu : callerA.units + 3 + 3 * 14 + 100 ≤ 9000 := by decide
  refine fn_call0F (n := 14) (p := "script") (v := .lst (sc.map V.int)) hdo rfl (by decide) (by decide) fn rfl ?_ ?_ (by rfl) (by rfl) ?_ ?_
  · have hb : BindsTo s₁ (fdAt (F05 w) 93) ⟨[Value.ref a], []⟩ ((["script"].map Str.ofString).zip ([Value.ref a] ++ [])) := binds_plain (fd := fdAt (F05 w) 93) (ps := ["script"]) (n := 1) (fun ws hl => by
      obtain ⟨a, rfl⟩ := len1 hl
      rfl) s₁ [Value.ref a] rfl
    exact hb
  · obtain ⟨o2, ho2, hc2, n2, hd2⟩ := hL
    cases w1 with
    | list hw _ =>
      have e := ho2.symm.trans hw
      injection e with e
      subst e
      exact .lst ho2 hc2 rfl hd2 (ints_rep hI)
  · intro A L q cd hA okn
    exact walk05 (n := 8) okn ⟨KX, rfl⟩ (by rw [hA]; rfl) hsc fun s hs => plain05 8 s hs
  · rintro s' ⟨h', tk, rfl⟩ hk
    refine ⟨.inl ⟨.bool true, .bool true, [], rfl, raisesW_false ?_, .bool true, ?_, unshared_nil⟩, .of_keep hk, rfl, .of_eq hg⟩
    · wrow_none_raised
    · wrow_post
end Sx
end
theorem PySem.Challenge.cw_kp0118_05_holds : PySem.Challenge.rw_kp0118_05.Holds := by
  exact Sx.join05
