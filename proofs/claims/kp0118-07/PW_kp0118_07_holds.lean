import PyProof.Rows.All
import Wide.All
import OpenK.AllK
import Wide.FinOn
import Lean
import PySem.Challenge.RW_kp0118_07
set_option Elab.async false
set_option maxRecDepth 100000
set_option compiler.extract_closed false
set_option genSizeOf false
section
open PySem PySem.W PyProof.Rows
set_option Elab.async false
set_option maxRecDepth 100000
namespace Sx

/-! ## values -/
noncomputable abbrev S := List Nat
noncomputable abbrev lit (s : String) : S := s.toList.map Char.toNat
noncomputable def mkS (l : S) : Str := ⟨l.toArray⟩

inductive Key where
  | s (l : S)
  | i (n : Int)
  deriving DecidableEq

inductive V where
  | none
  | bool (b : Bool)
  | int (i : Int)
  | str (l : S)
  | txt (l : S)
  | bytes (b : Array UInt8)
  | tup (vs : List V)
  | lst (vs : List V)
  | dct (es : List (Key × V))
  | rng (a b : Int)
  | items (es : List (Key × V))
  | val (v : Value)

noncomputable def Key.v : Key → V
  | .s l => .str l
  | .i n => .int n

noncomputable abbrev TM := Tok → Option S
structure PH where
  ob : Addr → Option Obj
  tk : TM

theorem mkS_inj {a b : S} (h : mkS a = mkS b) : a = b := by
  unfold mkS at h; injection h with h; exact congrArg Array.toList h
theorem mkS_toList (x : Str) : mkS x.cps.toList = x := by cases x; rfl
@[simp] theorem mkS_cps (l : S) : (mkS l).cps.toList = l := rfl

noncomputable def Key.is : Key → Value → Bool
  | .s l, .str x _ => decide (x = mkS l)
  | .i n, .int m _ => decide (m = n)
  | _, _ => false

theorem Key.is_s {l : S} {v : Value} (h : (Key.s l).is v = true) : ∃ t, v = .str (mkS l) t := by
  cases v <;> simp_all [Key.is]
theorem Key.is_i {n : Int} {v : Value} (h : (Key.i n).is v = true) : ∃ t, v = .int n t := by
  cases v <;> simp_all [Key.is]
theorem Key.is_inj (v : Value) (a b : Key) (ha : a.is v = true) (hb : b.is v = true) : a = b := by
  cases a with
  | s l =>
    obtain ⟨t, rfl⟩ := Key.is_s ha
    cases b with
    | s l' => obtain ⟨t', e⟩ := Key.is_s hb; injection e with e; rw [mkS_inj e]
    | i n => obtain ⟨t', e⟩ := Key.is_i hb; cases e
  | i n =>
    obtain ⟨t, rfl⟩ := Key.is_i ha
    cases b with
    | s l' => obtain ⟨t', e⟩ := Key.is_s hb; cases e
    | i n' => obtain ⟨t', e⟩ := Key.is_i hb; injection e with e; rw [e]

section
variable {prog : Program} {w : World} {A : Around} {E : Value → Shared → Prop} {s : Shared}
theorem eqBool_str_int {a : Str} {t : Tok} {b : Int} {u : Tok} {Q : Bool → Shared → Prop} (h : Q false s) : wpAny (model prog w) A (eqBool (.str a t) (.int b u)) Q E s := by
  unfold eqBool
  refine wpAny_holding ?_
  show wpAny _ _ (if (Value.str a t == Value.int b u) = true then _ else _) Q E s
  rw [if_neg (by simp)]
  exact wpAny_bind (EqMixed.eq_str_int (wpAny_truthy_bool h))
theorem eqBool_int_str {b : Str} {u : Tok} {a : Int} {t : Tok} {Q : Bool → Shared → Prop} (h : Q false s) : wpAny (model prog w) A (eqBool (.int a t) (.str b u)) Q E s := by
  unfold eqBool
  refine wpAny_holding ?_
  show wpAny _ _ (if (Value.int a t == Value.str b u) = true then _ else _) Q E s
  rw [if_neg (by simp)]
  exact wpAny_bind (EqMixed.eq_int_str (wpAny_truthy_bool h))
end

theorem key_eqBool {prog : Program} {w : World} {A : Around} {E : Value → Shared → Prop} {s : Shared} {a b : Key} {u v : Value} {Q : Bool → Shared → Prop} (hu : a.is u = true) (hv : b.is v = true) (h : Q (decide (a = b)) s) :
    wpAny (model prog w) A (eqBool u v) Q E s := by
  cases a with
  | s l =>
    obtain ⟨t, rfl⟩ := Key.is_s hu
    cases b with
    | s l' =>
      obtain ⟨t', rfl⟩ := Key.is_s hv
      refine wpAny_eqBool_str ?_
      have e : decide (mkS l = mkS l') = decide (Key.s l = Key.s l') := by
        by_cases q : l = l'
        · subst q; simp
        · rw [decide_eq_false (fun x => q (mkS_inj x)), decide_eq_false (fun x => q (by injection x))]
      rw [e]; exact h
    | i n => obtain ⟨t', rfl⟩ := Key.is_i hv; exact eqBool_str_int (by simpa using h)
  | i n =>
    obtain ⟨t, rfl⟩ := Key.is_i hu
    cases b with
    | s l' => obtain ⟨t', rfl⟩ := Key.is_s hv; exact eqBool_int_str (by simpa using h)
    | i n' =>
      obtain ⟨t', rfl⟩ := Key.is_i hv
      refine wpAny_eqBool_int ?_
      have e : (n == n') = decide (Key.i n = Key.i n') := by
        by_cases q : n = n'
        · subst q; simp
        · rw [decide_eq_false (fun x => q (by injection x))]; simp [q]
      rw [e]; exact h
theorem key_strs (k : Key) (x : Str) (t : Tok) (v : Value) (h : k.is (.str x t) = true) : k.is v = v.isStr x := by
  cases k with
  | s l =>
    obtain ⟨u, hu⟩ := Key.is_s h
    injection hu with hx
    subst hx
    cases v with
    | str y u' =>
      show decide (y = mkS l) = (y == mkS l)
      by_cases e : y = mkS l <;> simp [e]
    | _ => rfl
  | i n => obtain ⟨u, hu⟩ := Key.is_i h; cases hu

noncomputable def keyHash (w : World) : Key → Int
  | .s l => hashStr w (mkS l)
  | .i n => hashInt n

theorem key_pyHash {prog : Program} {w : World} {A : Around} {E : Value → Shared → Prop} {s : Shared} {k : Key} {v : Value} {Q : Int → Shared → Prop} (hv : k.is v = true) (h : Q (keyHash w k) { s with toks := s.toks + 1 }) :
    wpAny (model prog w) A (pyHash v) Q E s := by
  cases k with
  | s l => obtain ⟨t, rfl⟩ := Key.is_s hv; exact wpAny_pyHash_str h
  | i n => obtain ⟨t, rfl⟩ := Key.is_i hv; exact wpAny_pyHash_int h

noncomputable def mixKind (prog : Program) (w : World) : KeyKind prog w Key where
  is := Key.is
  hash := keyHash w
  inj := Key.is_inj
  byValue := fun k v h => by
    cases k with
    | s l => obtain ⟨t, rfl⟩ := Key.is_s h; rfl
    | i n => obtain ⟨t, rfl⟩ := Key.is_i h; rfl
  pyHash := key_pyHash
  eqBool := key_eqBool
  «strs» := key_strs

/-- what all frames of the run share -/
structure Wd where
  prog : Program
  w : World
  h₀ : Heap
  gls : List (String × Value)

noncomputable abbrev Wd.knd (W : Wd) : KeyKind W.prog W.w Key := mixKind W.prog W.w

mutual
inductive Rep (W : Wd) (g : PH) : V → Value → Prop
  | none : Rep W g .none .none
  | bool (b : Bool) : Rep W g (.bool b) (.bool b)
  | int (i : Int) (t : Tok) : Rep W g (.int i) (.int i t)
  | str {l : S} {t : Tok} : g.tk t = some l → Rep W g (.str l) (.str (mkS l) t)
  | txt (l : S) (t : Tok) : Rep W g (.txt l) (.str (mkS l) t)
  | bytes (b : Array UInt8) (t : Tok) : Rep W g (.bytes b) (.bytes b t)
  | tup {a : Addr} {o : Obj} {vs : List V} {ws : List Value} {n : Nat} : g.ob a = some o → o.cls = .type "tuple" → o.data = .seq ws.toArray n → RepL W g vs ws → Rep W g (.tup vs) (.ref a)
  | lst {a : Addr} {o : Obj} {vs : List V} {ws : List Value} {n : Nat} : g.ob a = some o → o.cls = .type "list" → o.dict = none → o.data = .seq ws.toArray n → RepL W g vs ws → Rep W g (.lst vs) (.ref a)
  | dct {a : Addr} {o : Obj} {es : List (Key × V)} {ds : List DictEntry} {kvs : List (Key × Value)} {n : Nat} : g.ob a = some o → (a == sysModules) = false → o.ExactDict → o.data = .dict ds.toArray n → RepD W g es ds kvs → (es.map (·.1)).Nodup → Rep W g (.dct es) (.ref a)
  | rng {r : Addr} {a b : Int} {t u v : Tok} : g.ob r = some { cls := .type "range", dict := none, data := .fields #[.int a t, .int b u, .int 1 v], slots := #[] } → Rep W g (.rng a b) (.ref r)
  | itm {v d : Addr} {o : Obj} {es : List (Key × V)} : g.ob v = some o → o.cls = .type "dict_items" → o.data = .fields #[.ref d] → Rep W g (.dct es) (.ref d) → Rep W g (.items es) (.ref v)
  | val (v : Value) : Rep W g (.val v) v
inductive RepL (W : Wd) (g : PH) : List V → List Value → Prop
  | nil : RepL W g [] []
  | cons {v : V} {w : Value} {vs : List V} {ws : List Value} : Rep W g v w → RepL W g vs ws → RepL W g (v :: vs) (w :: ws)
inductive RepD (W : Wd) (g : PH) : List (Key × V) → List DictEntry → List (Key × Value) → Prop
  | nil : RepD W g [] [] []
  | cons {k : Key} {v : V} {d : DictEntry} {es : List (Key × V)} {ds : List DictEntry} {kvs : List (Key × Value)} : Rep W g k.v d.key → d.hash = W.knd.hash k → Rep W g v d.val → RepD W g es ds kvs → RepD W g ((k, v) :: es) (d :: ds) ((k, d.val) :: kvs)
end

section
variable {W : Wd} {g : PH}
theorem Rep.int_inv {i : Int} {v : Value} (h : Rep W g (.int i) v) : ∃ t, v = .int i t := by cases h; exact ⟨_, rfl⟩
theorem Rep.bool_inv {i : Bool} {v : Value} (h : Rep W g (.bool i) v) : v = .bool i := by cases h; rfl
theorem Rep.str_inv {l : S} {v : Value} (h : Rep W g (.str l) v) : ∃ t, v = .str (mkS l) t ∧ g.tk t = some l := by cases h; exact ⟨_, rfl, by assumption⟩
theorem Rep.lst_inv {vs : List V} {v : Value} (h : Rep W g (.lst vs) v) : ∃ a o ws n, v = .ref a ∧ g.ob a = some o ∧ o.cls = .type "list" ∧ o.dict = Option.none ∧ o.data = .seq ws.toArray n ∧ RepL W g vs ws := by
  cases h with
  | lst h1 h2 h3 h4 r => exact ⟨_, _, _, _, rfl, h1, h2, h3, h4, r⟩
theorem Rep.tup_inv {vs : List V} {v : Value} (h : Rep W g (.tup vs) v) : ∃ a o ws n, v = .ref a ∧ g.ob a = some o ∧ o.cls = .type "tuple" ∧ o.data = .seq ws.toArray n ∧ RepL W g vs ws := by
  cases h with
  | tup h1 h2 h3 r => exact ⟨_, _, _, _, rfl, h1, h2, h3, r⟩
theorem Rep.dct_inv {es : List (Key × V)} {v : Value} (h : Rep W g (.dct es) v) : ∃ a o ds kvs n, v = .ref a ∧ g.ob a = some o ∧ (a == sysModules) = false ∧ o.ExactDict ∧ o.data = .dict ds.toArray n ∧ RepD W g es ds kvs ∧ (es.map (·.1)).Nodup := by
  cases h with
  | dct h1 h0 h2 h3 r hn => exact ⟨_, _, _, _, _, rfl, h1, h0, h2, h3, r, hn⟩
theorem Rep.itm_inv {es : List (Key × V)} {v : Value} (h : Rep W g (.items es) v) : ∃ a d o, v = .ref a ∧ g.ob a = some o ∧ o.cls = .type "dict_items" ∧ o.data = .fields #[.ref d] ∧ Rep W g (.dct es) (.ref d) := by
  cases h with
  | itm h1 h2 h3 r => exact ⟨_, _, _, rfl, h1, h2, h3, r⟩
theorem RepL.nil_inv {ws : List Value} (h : RepL W g [] ws) : ws = [] := by cases h; rfl
theorem RepL.cons_inv {v : V} {vs : List V} {ws : List Value} (h : RepL W g (v :: vs) ws) : ∃ w r, ws = w :: r ∧ Rep W g v w ∧ RepL W g vs r := by
  cases h with
  | cons h1 h2 => exact ⟨_, _, rfl, h1, h2⟩
end

structure Le (g g' : PH) : Prop where
  ob : ∀ a o, g.ob a = some o → g'.ob a = some o
  tk : ∀ t l, g.tk t = some l → g'.tk t = some l
theorem Le.refl (g : PH) : Le g g := ⟨fun _ _ e => e, fun _ _ e => e⟩
theorem Le.trans {g g' g'' : PH} (x : Le g g') (y : Le g' g'') : Le g g'' := ⟨fun a o e => y.ob a o (x.ob a o e), fun a o e => y.tk a o (x.tk a o e)⟩

theorem Rep.mono {W : Wd} {g g' : PH} (hs : Le g g') {v : V} {w : Value} (h : Rep W g v w) : Rep W g' v w :=
  Rep.rec (motive_1 := fun v w _ => Rep W g' v w) (motive_2 := fun v w _ => RepL W g' v w) (motive_3 := fun v w k _ => RepD W g' v w k)
    .none .bool .int (fun h => .str (hs.tk _ _ h)) .txt .bytes (fun h1 h2 h3 _ r => .tup (hs.ob _ _ h1) h2 h3 r) (fun h1 h2 h3 h4 _ r => .lst (hs.ob _ _ h1) h2 h3 h4 r) (fun h1 h2 h3 h4 _ h5 r => .dct (hs.ob _ _ h1) h2 h3 h4 r h5)
    (fun h => .rng (hs.ob _ _ h)) (fun h1 h2 h3 _ r => .itm (hs.ob _ _ h1) h2 h3 r) .val .nil (fun _ _ h r => .cons h r) .nil (fun _ e _ _ h k r => .cons h e k r) h
theorem RepL.mono {W : Wd} {g g' : PH} (hs : Le g g') {v : List V} {w : List Value} (h : RepL W g v w) : RepL W g' v w := by
  induction v generalizing w with
  | nil => rw [h.nil_inv]; exact .nil
  | cons v vs ih => obtain ⟨w, r, rfl, h1, h2⟩ := h.cons_inv; exact .cons (h1.mono hs) (ih h2)
theorem RepD.mono {W : Wd} {g g' : PH} (hs : Le g g') {v : List (Key × V)} {w : List DictEntry} {kvs : List (Key × Value)} (h : RepD W g v w kvs) : RepD W g' v w kvs :=
  RepD.rec (motive_1 := fun v w _ => Rep W g' v w) (motive_2 := fun v w _ => RepL W g' v w) (motive_3 := fun v w k _ => RepD W g' v w k)
    .none .bool .int (fun h => .str (hs.tk _ _ h)) .txt .bytes (fun h1 h2 h3 _ r => .tup (hs.ob _ _ h1) h2 h3 r) (fun h1 h2 h3 h4 _ r => .lst (hs.ob _ _ h1) h2 h3 h4 r) (fun h1 h2 h3 h4 _ h5 r => .dct (hs.ob _ _ h1) h2 h3 h4 r h5)
    (fun h => .rng (hs.ob _ _ h)) (fun h1 h2 h3 _ r => .itm (hs.ob _ _ h1) h2 h3 r) .val .nil (fun _ _ h r => .cons h r) .nil (fun _ e _ _ h k r => .cons h e k r) h

section
variable {W : Wd} {g : PH}
theorem RepL.length {vs : List V} {ws : List Value} (h : RepL W g vs ws) : ws.length = vs.length := by
  induction ws generalizing vs with
  | nil => cases h; rfl
  | cons w ws ih => cases h with | cons h r => simp [ih r]
theorem RepL.append {vs vs' : List V} {ws ws' : List Value} (h : RepL W g vs ws) (k : RepL W g vs' ws') : RepL W g (vs ++ vs') (ws ++ ws') := by
  induction ws generalizing vs with
  | nil => cases h; exact k
  | cons w ws ih => cases h with | cons h r => exact .cons h (ih r)
theorem RepL.get {vs : List V} {ws : List Value} (h : RepL W g vs ws) {k : Nat} {v : V} (hk : vs[k]? = some v) : ∃ w, ws[k]? = some w ∧ Rep W g v w := by
  induction ws generalizing vs k with
  | nil => cases h; cases hk
  | cons w ws ih =>
    cases h with
    | cons h r =>
      cases k with
      | zero => cases hk; exact ⟨w, rfl, h⟩
      | succ k => exact ih r (by simpa using hk)
theorem RepL.getR {vs : List V} {ws : List Value} (h : RepL W g vs ws) {k : Nat} {w : Value} (hk : ws[k]? = some w) : ∃ v, vs[k]? = some v ∧ Rep W g v w := by
  induction ws generalizing vs k with
  | nil => cases hk
  | cons w' ws ih =>
    cases h with
    | cons h r =>
      cases k with
      | zero => cases hk; exact ⟨_, rfl, h⟩
      | succ k => obtain ⟨v, e1, e2⟩ := ih r (by simpa using hk); exact ⟨v, by simpa using e1, e2⟩
theorem RepL.take {vs : List V} {ws : List Value} (h : RepL W g vs ws) (k : Nat) : RepL W g (vs.take k) (ws.take k) := by
  induction ws generalizing vs k with
  | nil => cases h; simp; exact .nil
  | cons w ws ih => cases h with | cons h r => cases k with | zero => exact .nil | succ k => exact .cons h (ih r k)
theorem RepL.drop {vs : List V} {ws : List Value} (h : RepL W g vs ws) (k : Nat) : RepL W g (vs.drop k) (ws.drop k) := by
  induction ws generalizing vs k with
  | nil => cases h; simp; exact .nil
  | cons w ws ih => cases h with | cons h r => cases k with | zero => exact .cons h r | succ k => exact ih r k
theorem RepL.set {vs : List V} {ws : List Value} (h : RepL W g vs ws) {v : V} {w : Value} (hv : Rep W g v w) (k : Nat) : RepL W g (vs.set k v) (ws.set k w) := by
  induction ws generalizing vs k with
  | nil => cases h; exact .nil
  | cons w' ws ih => cases h with | cons h r => cases k with | zero => exact .cons hv r | succ k => exact .cons h (ih r k)
end

section
variable {W : Wd} {g : PH}
theorem Key.is_of_rep {k : Key} {v : Value} (h : Rep W g k.v v) : k.is v = true := by
  cases k with
  | s l => cases h; simp [Key.is]
  | i n => cases h; simp [Key.is]
theorem RepD.keysOf {es : List (Key × V)} {ds : List DictEntry} {kvs : List (Key × Value)} (h : RepD W g es ds kvs) : KeysOf W.knd ds.toArray := by
  intro e he
  have he : e ∈ ds := by simpa using he
  induction ds generalizing es kvs with
  | nil => cases he
  | cons d ds ih =>
    cases h with
    | cons h1 h2 h3 r =>
      rcases List.mem_cons.mp he with rfl | he
      · exact ⟨_, Key.is_of_rep h1, h2⟩
      · exact ih r (by simpa using he) he
theorem RepD.pairs {es : List (Key × V)} {ds : List DictEntry} {kvs : List (Key × Value)} (h : RepD W g es ds kvs) : Pairs W.knd ds kvs := by
  induction ds generalizing es kvs with
  | nil => cases h; exact .nil
  | cons d ds ih =>
    cases h with
    | cons h1 h2 h3 r => exact .cons (Key.is_of_rep h1) rfl (ih r)
theorem RepD.keys {es : List (Key × V)} {ds : List DictEntry} {kvs : List (Key × Value)} (h : RepD W g es ds kvs) : kvs.map (·.1) = es.map (·.1) := by
  induction ds generalizing es kvs with
  | nil => cases h; rfl
  | cons d ds ih =>
    cases h with
    | cons h1 h2 h3 r => simp [ih r]
theorem RepD.length {es : List (Key × V)} {ds : List DictEntry} {kvs : List (Key × Value)} (h : RepD W g es ds kvs) : ds.length = es.length ∧ kvs.length = es.length := by
  induction ds generalizing es kvs with
  | nil => cases h; exact ⟨rfl, rfl⟩
  | cons d ds ih =>
    cases h with
    | cons h1 h2 h3 r => simp [ih r]
theorem RepD.get {es : List (Key × V)} {ds : List DictEntry} {kvs : List (Key × Value)} (h : RepD W g es ds kvs) {i : Nat} {k : Key} {v : V} (hi : es[i]? = some (k, v)) :
    ∃ d, ds[i]? = some d ∧ kvs[i]? = some (k, d.val) ∧ Rep W g k.v d.key ∧ Rep W g v d.val := by
  induction ds generalizing es kvs i with
  | nil => cases h; cases hi
  | cons d ds ih =>
    cases h with
    | cons h1 h2 h3 r =>
      cases i with
      | zero => cases hi; exact ⟨d, rfl, rfl, h1, h3⟩
      | succ i => exact ih r (by simpa using hi)

/-- the first entry under a key -/
noncomputable def dget (es : List (Key × V)) (k : Key) : Option V := (es.find? fun p => p.1 = k).map (·.2)
theorem RepD.valueAt {es : List (Key × V)} {ds : List DictEntry} {kvs : List (Key × Value)} (h : RepD W g es ds kvs) (k : Key) :
    match dget es k with | some v => ∃ w, PySem.valueAt kvs k = some w ∧ Rep W g v w | none => PySem.valueAt kvs k = none := by
  induction ds generalizing es kvs with
  | nil => cases h; rfl
  | cons d ds ih =>
    cases h with
    | @cons k' v _ es _ kvs h1 h2 h3 r =>
      have := ih r
      unfold dget PySem.valueAt at this ⊢
      by_cases e : k' = k
      · subst e
        simp only [List.find?_cons, decide_true, Option.map_some]
        exact ⟨_, rfl, h3⟩
      · simp only [List.find?_cons, decide_eq_false e]
        exact this

theorem RepD.dictOf {es : List (Key × V)} {ds : List DictEntry} {kvs : List (Key × Value)} {h : Heap} {a : Addr} {o : Obj} {n : Nat} (r : RepD W g es ds kvs) (ho : h.get? a = some o) (hx : o.ExactDict) (hd : o.data = .dict ds.toArray n) (hn : (es.map (·.1)).Nodup) :
    h.DictOf W.knd a kvs := ⟨o, _, n, ho, hx, hd, r.keysOf, by simpa using r.pairs, r.keys ▸ hn⟩
theorem RepD.dictAt {es : List (Key × V)} {ds : List DictEntry} {kvs : List (Key × Value)} {h : Heap} {a : Addr} {o : Obj} {n : Nat} (r : RepD W g es ds kvs) (ho : h.get? a = some o) (hx : o.ExactDict) (hd : o.data = .dict ds.toArray n) (hn : (es.map (·.1)).Nodup) :
    h.DictAt W.knd a kvs n := ⟨o, _, ho, hx, hd, r.keysOf, by simpa using r.pairs, r.keys ▸ hn⟩
end

/-! ## the state -/
/-- what stands for good: all but what is somebody's own -/
noncomputable def view (own : List Addr) (T : TM) (s : Shared) : PH := ⟨fun a => if a ∈ own then none else s.heap.get? a, T⟩
theorem view_of {own : List Addr} {T : TM} {s : Shared} {a : Addr} {o : Obj} (e : (view own T s).ob a = some o) : s.heap.get? a = some o := by
  unfold view at e; dsimp only at e; split at e
  · cases e
  · exact e
theorem view_not {own : List Addr} {T : TM} {s : Shared} {a : Addr} {o : Obj} (e : (view own T s).ob a = some o) : a ∉ own := by
  intro hm; unfold view at e; dsimp only at e; rw [if_pos hm] at e; cases e
theorem view_mk {own : List Addr} {T : TM} {s : Shared} {a : Addr} {o : Obj} (hn : a ∉ own) (e : s.heap.get? a = some o) : (view own T s).ob a = some o := by
  unfold view; dsimp only; rw [if_neg hn]; exact e

noncomputable abbrev TLe (T T' : TM) : Prop := ∀ t l, T t = some l → T' t = some l
structure TOk (T : TM) (n : Nat) : Prop where
  pos : 0 < n
  lt : ∀ t l, T t = some l → 0 < t ∧ t < n
theorem TOk.mono {T : TM} {n n' : Nat} (x : TOk T n) (h : n ≤ n') : TOk T n' := ⟨Nat.lt_of_lt_of_le x.pos h, fun t l e => ⟨(x.lt t l e).1, Nat.lt_of_lt_of_le (x.lt t l e).2 h⟩⟩
noncomputable def TM.upd (T : TM) (n : Nat) (l : S) : TM := fun t => if t = n then some l else T t
theorem TOk.upd {T : TM} {n : Nat} (x : TOk T n) (l : S) : TOk (T.upd n l) (n + 1) := ⟨Nat.succ_pos _, fun t l' e => by
  unfold TM.upd at e
  by_cases h : t = n
  · subst h; exact ⟨x.pos, Nat.lt_succ_self _⟩
  · rw [if_neg h] at e; exact ⟨(x.lt t l' e).1, Nat.lt_succ_of_lt (x.lt t l' e).2⟩⟩
theorem TOk.updLe {T : TM} {n : Nat} (x : TOk T n) (l : S) : TLe T (T.upd n l) := fun t l' e => by
  unfold TM.upd
  rw [if_neg (Nat.ne_of_lt (x.lt t l' e).2)]; exact e
theorem TM.upd_self {T : TM} {n : Nat} {l : S} : T.upd n l n = some l := by simp [TM.upd]

inductive Slot where
  | val (v : V)
  | list (a : Addr) (vs : List V)
  | dict (a : Addr) (es : List (Key × V))

/-- the address of what is the frame's own -/
noncomputable def Slot.adr : Slot → Option Addr
  | .val _ => none
  | .list a _ => some a
  | .dict a _ => some a
noncomputable def Slot.owned (sl : Slot) : Bool := sl.adr.isSome

noncomputable abbrev St := List (String × Slot)

noncomputable def find : St → Str → Option Slot
  | [], _ => none
  | (y, sl) :: r, x => if Str.ofString y = x then some sl else find r x
noncomputable def put : St → Str → String → Slot → St
  | [], _, y, sl => [(y, sl)]
  | (z, sl') :: r, x, y, sl => if Str.ofString z = x then (z, sl) :: r else (z, sl') :: put r x y sl

theorem map_toNat_inj : ∀ {a b : List Char}, a.map Char.toNat = b.map Char.toNat → a = b
  | [], [], _ => rfl
  | [], _ :: _, h => by cases h
  | _ :: _, [], h => by cases h
  | x :: a, y :: b, h => by
    simp only [List.map_cons, List.cons.injEq] at h
    rw [map_toNat_inj h.2]
    have : x = y := by
      apply Char.ext
      apply UInt32.toNat_inj.mp
      exact h.1
    rw [this]
theorem ofString_inj {a b : String} : Str.ofString a = Str.ofString b ↔ a = b := by
  refine ⟨fun h => ?_, fun h => by rw [h]⟩
  rw [Str.ofString_eq_toList, Str.ofString_eq_toList] at h
  injection h with h
  have h := congrArg Array.toList h
  simp only at h
  exact String.toList_inj.mp (map_toNat_inj h)

theorem find_cons (y x : String) (sl : Slot) (r : St) : find ((y, sl) :: r) (Str.ofString x) = if y = x then some sl else find r (Str.ofString x) := by
  simp only [find, ofString_inj]
theorem put_cons (z x y : String) (sl sl' : Slot) (r : St) : put ((z, sl') :: r) (Str.ofString x) y sl = if z = x then (z, sl) :: r else (z, sl') :: put r (Str.ofString x) y sl := by
  simp only [put, ofString_inj]
theorem put_nil (x : Str) (y : String) (sl : Slot) : put [] x y sl = [(y, sl)] := rfl

theorem find_put {σ : St} {y : String} {sl : Slot} (z : Str) : find (put σ (Str.ofString y) y sl) z = if Str.ofString y = z then some sl else find σ z := by
  induction σ with
  | nil => simp [put, find]
  | cons p r ih =>
    obtain ⟨w, sl'⟩ := p
    unfold put
    by_cases hw : Str.ofString w = Str.ofString y
    · rw [if_pos hw]
      simp only [find, hw]
      by_cases hz : Str.ofString y = z
      · rw [if_pos hz, if_pos hz]
      · rw [if_neg hz, if_neg hz, if_neg hz]
    · rw [if_neg hw]
      simp only [find]
      by_cases hz : Str.ofString w = z
      · rw [if_pos hz, if_pos hz, if_neg (fun e => hw (hz.trans e.symm))]
      · rw [if_neg hz, if_neg hz, ih]

structure Cx where
  W : Wd
  A : Around
  env : Env
  ownC : Bool
  X : Value → Shared → Prop
  an : Option Addr

noncomputable abbrev Cx.M (C : Cx) : Model := model C.W.prog C.W.w

structure Wd.Ok (W : Wd) : Prop where
  sysm : (W.h₀.get? sysModules).isSome = true
  nolimit : W.h₀.NoLimit
  gl : ∃ mg mb, W.h₀.Ns mainGlobals mg ∧ W.h₀.Ns builtinsNs mb ∧ ∀ x v, W.gls.lookup x = some v → mg (Str.ofString x) = some v ∨ (mg (Str.ofString x) = none ∧ mb (Str.ofString x) = some v)

structure Cx.Ok (C : Cx) (n : Nat) : Prop where
  W : C.W.Ok
  hh : C.A.handled = none
  hu : C.A.units + 3 * n + 100 ≤ 9000
  hd : C.A.depth + n + 10 ≤ 900
  hk : C.env.scope.kind = .function
  hg : C.env.globals = mainGlobals
  hb : C.env.builtins = builtinsNs
  hx : PassesOwn C.M C.A C.env C.X

noncomputable def valAt (env : Env) (m cm : Str → Option Value) (x : Str) : Option Value := match env.kindOf x with
  | some .local => m x
  | some .cell => cm x
  | some .free => cm x
  | _ => none

noncomputable def IsL (h : Heap) (a : Addr) (ws : List Value) : Prop := ∃ n, h.get? a = some { cls := .type "list", data := .seq ws.toArray n }
noncomputable def IsD (h : Heap) (a : Addr) (ds : List DictEntry) : Prop := (a == sysModules) = false ∧ ∃ o n, h.get? a = some o ∧ o.ExactDict ∧ o.data = .dict ds.toArray n

noncomputable def SlotRep (W : Wd) (g : PH) (h : Heap) : Slot → Value → Prop
  | .val u, v => Rep W g u v
  | .list a vs, v => v = .ref a ∧ ∃ ws, IsL h a ws ∧ RepL W g vs ws
  | .dict a es, v => v = .ref a ∧ ∃ ds kvs, IsD h a ds ∧ RepD W g es ds kvs ∧ (es.map (·.1)).Nodup

/-- the name under which a comprehension's own list or dict goes -/
noncomputable abbrev anonS : Str := Str.ofString "#"
noncomputable def Bound (C : Cx) (m cm : Str → Option Value) (x : Str) (sl : Slot) (v : Value) : Prop := valAt C.env m cm x = some v ∨ (x = anonS ∧ sl.owned = true ∧ ∃ a : Addr, True ∧ v = .ref a)
theorem Bound.real {C : Cx} {m cm : Str → Option Value} {x : Str} {sl : Slot} {v : Value} (h : Bound C m cm x sl v) (hx : x ≠ anonS) : valAt C.env m cm x = some v := h.resolve_right fun q => hx q.1
theorem Bound.val {C : Cx} {m cm : Str → Option Value} {x : Str} {u : V} {v : Value} (h : Bound C m cm x (.val u) v) : valAt C.env m cm x = some v := h.resolve_right fun q => by cases q.2.1

/-- the frame's names and what they hold -/
structure Frm (C : Cx) (F mine : List Addr) (T : TM) (σ : St) (s : Shared) (m cm : Str → Option Value) : Prop where
  ns : s.heap.Ns C.env.locals m
  cells : ∀ x c, C.env.cells.lookup x = some c → s.heap.IsCell c (cm x)
  apart : ∀ x y c, C.env.cells.lookup x = some c → C.env.cells.lookup y = some c → x = y
  lc : ∀ x c, C.env.cells.lookup x = some c → c ≠ C.env.locals
  has : ∀ x, C.env.kindOf x = some .cell ∨ C.env.kindOf x = some .free → ∃ c, C.env.cells.lookup x = some c
  lm : C.env.locals ∈ mine
  cown : ∀ x c, C.env.cells.lookup x = some c → c ∈ F ++ mine
  cmine : C.ownC = true → ∀ x c, C.env.cells.lookup x = some c → c ∈ mine
  slots : ∀ x sl, find σ x = some sl → ∃ v, Bound C m cm x sl v ∧ SlotRep C.W (view (F ++ mine) T s) s.heap sl v
  own : ∀ x sl a, find σ x = some sl → sl.adr = some a → a ∈ mine ∧ a ≠ C.env.locals ∧ (∀ y c, C.env.cells.lookup y = some c → c ≠ a)
  dis : ∀ x y sl sl' a, find σ x = some sl → find σ y = some sl' → sl.adr = some a → sl'.adr = some a → x = y

structure Abs (C : Cx) (F mine : List Addr) (T : TM) (σ : St) (s : Shared) : Prop where
  base : ∀ b o, C.W.h₀.get? b = some o → (view (F ++ mine) T s).ob b = some o
  live : ∀ a ∈ F ++ mine, (s.heap.get? a).isSome = true
  nin : ∀ a ∈ mine, a ∉ F
  tok : TOk T s.toks
  frm : ∃ m cm, Frm C F mine T σ s m cm

structure Post (F mine : List Addr) (T : TM) (s : Shared) (mine' : List Addr) (T' : TM) (s' : Shared) : Prop where
  same : ∃ h' tk, s' = { s with heap := h', toks := tk }
  le : Le (view (F ++ mine) T s) (view (F ++ mine') T' s')
  far : ∀ a ∈ F, s'.heap.get? a = s.heap.get? a

theorem Post.refl (F mine : List Addr) (T : TM) (s : Shared) : Post F mine T s mine T s := ⟨⟨_, _, rfl⟩, .refl _, fun _ _ => rfl⟩
theorem Post.trans {F m1 m2 m3 : List Addr} {T1 T2 T3 : TM} {s1 s2 s3 : Shared} (x : Post F m1 T1 s1 m2 T2 s2) (y : Post F m2 T2 s2 m3 T3 s3) : Post F m1 T1 s1 m3 T3 s3 := by
  obtain ⟨h, t, rfl⟩ := x.same
  obtain ⟨h', t', rfl⟩ := y.same
  exact ⟨⟨h', t', rfl⟩, x.le.trans y.le, fun a ha => (y.far a ha).trans (x.far a ha)⟩

/-- nothing that stood is turned; the texts' marks grow -/
structure Kp (T : TM) (s : Shared) (T' : TM) (s' : Shared) : Prop where
  same : ∃ h' tk, s' = { s with heap := h', toks := tk }
  keep : ∀ b o, s.heap.get? b = some o → s'.heap.get? b = some o
  tle : TLe T T'
  tok : TOk T' s'.toks
theorem Kp.trans {T T' T'' : TM} {s s' s'' : Shared} (x : Kp T s T' s') (y : Kp T' s' T'' s'') : Kp T s T'' s'' := by
  obtain ⟨h, t, rfl⟩ := x.same
  obtain ⟨h', t', rfl⟩ := y.same
  exact ⟨⟨h', t', rfl⟩, fun b o e => y.keep b o (x.keep b o e), fun t l e => y.tle t l (x.tle t l e), y.tok⟩
theorem Kp.view {T T' : TM} {own : List Addr} {s s' : Shared} (k : Kp T s T' s') : Le (view own T s) (view own T' s') :=
  ⟨fun _ _ e => view_mk (view_not e) (k.keep _ _ (view_of e)), k.tle⟩
theorem Kp.post {F mine : List Addr} {T T' : TM} {s s' : Shared} (k : Kp T s T' s') (l : ∀ a ∈ F ++ mine, (s.heap.get? a).isSome = true) : Post F mine T s mine T' s' := by
  refine ⟨k.same, k.view, fun a ha => ?_⟩
  obtain ⟨o, ho⟩ := Option.isSome_iff_exists.mp (l a (List.mem_append_left _ ha))
  rw [ho]; exact k.keep _ _ ho
theorem Kp.live {own : List Addr} {T T' : TM} {s s' : Shared} (k : Kp T s T' s') (l : ∀ a ∈ own, (s.heap.get? a).isSome = true) : ∀ a ∈ own, (s'.heap.get? a).isSome = true := fun a ha => by
  obtain ⟨o, ho⟩ := Option.isSome_iff_exists.mp (l a ha)
  rw [k.keep _ _ ho]; rfl

theorem SlotRep.mono {W : Wd} {g g' : PH} {h h' : Heap} {sl : Slot} {v : Value} (hg : Le g g') (hh : ∀ a, sl.adr = some a → ∀ o, h.get? a = some o → h'.get? a = some o) (x : SlotRep W g h sl v) : SlotRep W g' h' sl v := by
  cases sl with
  | val u => exact Rep.mono hg x
  | list a vs =>
    obtain ⟨e, ws, ⟨n, h1⟩, r⟩ := x
    exact ⟨e, ws, ⟨n, hh a rfl _ h1⟩, r.mono hg⟩
  | dict a es =>
    obtain ⟨e, ws, kvs, ⟨h0, o, n, h1, h2⟩, r, nd⟩ := x
    exact ⟨e, ws, kvs, ⟨h0, o, n, hh a rfl _ h1, h2⟩, r.mono hg, nd⟩
theorem SlotRep.ref {W : Wd} {g : PH} {h : Heap} {sl : Slot} {v : Value} {a : Addr} (x : SlotRep W g h sl v) (ha : sl.adr = some a) : v = .ref a := by
  cases sl with
  | val u => cases ha
  | list a vs => cases ha; exact x.1
  | dict a es => cases ha; exact x.1

theorem Frm.keeps {C : Cx} {F mine : List Addr} {T T' : TM} {σ : St} {s s' : Shared} {m cm : Str → Option Value} (x : Frm C F mine T σ s m cm) (k : Kp T s T' s') : Frm C F mine T' σ s' m cm :=
  { ns := x.ns.keeps k.keep, cells := fun y c e => (x.cells y c e).keeps k.keep, apart := x.apart, lc := x.lc, has := x.has, lm := x.lm, cown := x.cown, cmine := x.cmine
    slots := fun y sl e => let ⟨v, h1, h2⟩ := x.slots y sl e; ⟨v, h1, h2.mono k.view fun _ _ o e => k.keep _ o e⟩
    own := x.own, dis := x.dis }
theorem Abs.keeps {C : Cx} {F mine : List Addr} {T T' : TM} {σ : St} {s s' : Shared} (x : Abs C F mine T σ s) (k : Kp T s T' s') : Abs C F mine T' σ s' :=
  { base := fun b o e => k.view.ob b o (x.base b o e)
    live := k.live x.live
    nin := x.nin
    tok := k.tok
    frm := let ⟨m, cm, f⟩ := x.frm; ⟨m, cm, f.keeps k⟩ }

end Sx
end
section
open PySem PySem.W PyProof.Rows PySem.Calls
set_option linter.unusedVariables false
set_option Elab.async false
set_option maxRecDepth 100000
namespace Sx

inductive Fl where
  | next | brk | cont
  | ret (v : V)

inductive FlRep (W : Wd) (g : PH) : Fl → Flow → Prop
  | next : FlRep W g .next .next
  | brk : FlRep W g .brk .brk
  | cont : FlRep W g .cont .cont
  | ret {v : V} {w : Value} : Rep W g v w → FlRep W g (.ret v) (.ret w)

/-- a tree run from a state: what comes out stands in R to an abstract result -/
noncomputable def Tr {α β : Type} (C : Cx) (σ : St) (R : PH → β → α → Prop) (t : Sem α) (Q : β → St → Prop) : Prop :=
  ∀ F mine T s, Abs C F mine T σ s → wpAny C.M C.A t (fun x s' => ∃ b σ' mine' T', Q b σ' ∧ Post F mine T s mine' T' s' ∧ Abs C F mine' T' σ' s' ∧ R (view (F ++ mine') T' s') b x) C.X s

noncomputable abbrev RU : PH → Unit → Unit → Prop := fun _ _ _ => True
noncomputable abbrev RB : PH → Bool → Bool → Prop := fun _ a b => a = b
noncomputable abbrev Ev (C : Cx) (σ : St) (e : Expr) (Q : V → St → Prop) : Prop := Tr C σ (Rep C.W) (eval e C.env) Q
noncomputable abbrev EvT (C : Cx) (σ : St) (t : Sem Value) (Q : V → St → Prop) : Prop := Tr C σ (Rep C.W) t Q
noncomputable abbrev Tst (C : Cx) (σ : St) (e : Expr) (Q : Bool → St → Prop) : Prop := Tr C σ RB (isTrue e C.env (eval e C.env)) Q
noncomputable abbrev Ex (C : Cx) (σ : St) (e : Stmt) (Q : Fl → St → Prop) : Prop := Tr C σ (FlRep C.W) (exec e C.env) Q
noncomputable abbrev Exs (C : Cx) (σ : St) (e : List Stmt) (Q : Fl → St → Prop) : Prop := Tr C σ (FlRep C.W) (execs e C.env) Q
noncomputable abbrev EvL (C : Cx) (σ : St) (pos : Pos) (es : List Expr) (Q : List V → St → Prop) : Prop := Tr C σ (RepL C.W) (spliced (backTo pos (starEach es C.env))) Q

theorem Tr.mono {α β : Type} {C : Cx} {σ : St} {R : PH → β → α → Prop} {t : Sem α} {Q Q' : β → St → Prop} (h : Tr C σ R t Q) (hq : ∀ b σ, Q b σ → Q' b σ) : Tr C σ R t Q' :=
  fun F mine T s hA => wpAny_mono (h F mine T s hA) (fun _ _ ⟨b, σ', m', T', q, r⟩ => ⟨b, σ', m', T', hq _ _ q, r⟩) fun _ _ x => x

theorem Tr.then {α β : Type} {C : Cx} {σ : St} {R : PH → β → α → Prop} {t : Sem α} {Q : β → St → Prop} (h : Tr C σ R t Q) {F mine : List Addr} {T : TM} {s : Shared} (hA : Abs C F mine T σ s) {P : α → Shared → Prop}
    (k : ∀ x s' b σ' mine' T', Q b σ' → Post F mine T s mine' T' s' → Abs C F mine' T' σ' s' → R (view (F ++ mine') T' s') b x → P x s') : wpAny C.M C.A t P C.X s :=
  wpAny_mono (h F mine T s hA) (fun _ _ ⟨_, _, _, _, a, b, c, d⟩ => k _ _ _ _ _ _ a b c d) fun _ _ x => x
theorem Tr.intro' {α β : Type} {C : Cx} {σ : St} {R : PH → β → α → Prop} {t : Sem α} {Q : β → St → Prop}
    (h : ∀ F mine T s (QQ : α → Shared → Prop), (∀ x s' b σ' mine' T', Q b σ' → Post F mine T s mine' T' s' → Abs C F mine' T' σ' s' → R (view (F ++ mine') T' s') b x → QQ x s') → Abs C F mine T σ s → wpAny C.M C.A t QQ C.X s) : Tr C σ R t Q :=
  fun F mine T s hA => h F mine T s _ (fun _ _ b σ' m' T' x y z w => ⟨b, σ', m', T', x, y, z, w⟩) hA
structure OwnOk (C : Cx) (own : List Addr) (T : TM) (s : Shared) : Prop where
  base : ∀ b o, C.W.h₀.get? b = some o → (view own T s).ob b = some o
  live : ∀ a ∈ own, (s.heap.get? a).isSome = true
  tok : TOk T s.toks
theorem Abs.ownOk {C : Cx} {F mine : List Addr} {T : TM} {σ : St} {s : Shared} (x : Abs C F mine T σ s) : OwnOk C (F ++ mine) T s := ⟨x.base, x.live, x.tok⟩
theorem OwnOk.fresh {C : Cx} {own : List Addr} {T : TM} {s : Shared} (x : OwnOk C own T s) {a : Addr} (h : s.heap.get? a = none) : a ∉ own := fun hm => by
  have := x.live a hm; rw [h] at this; cases this
theorem OwnOk.keeps {C : Cx} {own : List Addr} {T T' : TM} {s s' : Shared} (x : OwnOk C own T s) (k : Kp T s T' s') : OwnOk C own T' s' :=
  ⟨fun b o e => k.view.ob b o (x.base b o e), k.live x.live, k.tok⟩
theorem OwnOk.kb {C : Cx} {own : List Addr} {T : TM} {s : Shared} (x : OwnOk C own T s) : ∀ b o, C.W.h₀.get? b = some o → s.heap.get? b = some o := fun b o e => view_of (x.base b o e)

theorem fresh_size (h : Heap) : h.get? h.objs.size = none := by
  cases e : h.get? h.objs.size with
  | none => rfl
  | some o => exact absurd (Heap.lt_size e) (Nat.lt_irrefl _)

/-- what a primitive step leaves -/
noncomputable def Out {α β : Type} (own : List Addr) (T : TM) (s : Shared) (R : PH → β → α → Prop) (K : β → Prop) (x : α) (s' : Shared) : Prop :=
  ∃ b T', K b ∧ Kp T s T' s' ∧ R (view own T' s') b x
/-- a primitive step: nothing that stood before is turned -/
noncomputable def PrimR {α β : Type} (C : Cx) (own : List Addr) (T : TM) (s : Shared) (R : PH → β → α → Prop) (t : Sem α) (K : β → Prop) : Prop :=
  wpAny C.M C.A t (Out own T s R K) C.X s
theorem PrimR.then {α β : Type} {C : Cx} {own : List Addr} {T : TM} {s : Shared} {R : PH → β → α → Prop} {t : Sem α} {K : β → Prop} (h : PrimR C own T s R t K) {P : α → Shared → Prop}
    (k : ∀ x s' b T', K b → Kp T s T' s' → R (view own T' s') b x → P x s') : wpAny C.M C.A t P C.X s :=
  wpAny_mono h (fun _ _ ⟨_, _, a, b, c⟩ => k _ _ _ _ a b c) fun _ _ x => x
noncomputable abbrev Prim (C : Cx) (own : List Addr) (T : TM) (s : Shared) (t : Sem Value) (K : V → Prop) : Prop := PrimR C own T s (Rep C.W) t K
noncomputable abbrev PrimB (C : Cx) (own : List Addr) (T : TM) (s : Shared) (t : Sem Bool) (K : Bool → Prop) : Prop := PrimR C own T s RB t K
/-- .. and what comes out is a new object -/
noncomputable def OutF (C : Cx) (own : List Addr) (T : TM) (s : Shared) (K : Slot → Prop) (v : Value) (s' : Shared) : Prop :=
  ∃ sl T' a, K sl ∧ sl.adr = some a ∧ Kp T s T' s' ∧ s.heap.get? a = none ∧ (s'.heap.get? a).isSome = true ∧ SlotRep C.W (view (a :: own) T' s') s'.heap sl v
noncomputable def PrimF (C : Cx) (own : List Addr) (T : TM) (s : Shared) (t : Sem Value) (K : Slot → Prop) : Prop := wpAny C.M C.A t (OutF C own T s K) C.X s

section
variable {α β : Type} {own : List Addr} {T : TM} {s : Shared} {R : PH → β → α → Prop} {K : β → Prop} {x : α} {b : β}
/-- the ways a step ends -/
theorem Kp.refl (k : TOk T s.toks) : Kp T s T s := ⟨⟨_, _, rfl⟩, fun _ _ e => e, fun _ _ e => e, k⟩
theorem Kp.at {h' : Heap} {tk : Nat} (k : TOk T s.toks) (hk : ∀ b o, s.heap.get? b = some o → h'.get? b = some o) (ht : s.toks ≤ tk) : Kp T s T { s with heap := h', toks := tk } := ⟨⟨_, _, rfl⟩, hk, fun _ _ e => e, k.mono ht⟩
theorem Kp.toks {tk : Nat} (k : TOk T s.toks) (ht : s.toks ≤ tk) : Kp T s T { s with toks := tk } := Kp.at (h' := s.heap) k (fun _ _ e => e) ht
theorem Kp.push {o : Obj} {tk : Nat} (k : TOk T s.toks) (ht : s.toks ≤ tk) : Kp T s T { s with heap := s.heap.push o, toks := tk } := Kp.at (h' := s.heap.push o) k (fun _ _ e => Heap.get?_push_of_some _ e) ht
theorem Kp.str {h' : Heap} {l : S} (k : TOk T s.toks) (hk : ∀ b o, s.heap.get? b = some o → h'.get? b = some o) : Kp T s (T.upd s.toks l) { s with heap := h', toks := s.toks + 1 } := ⟨⟨_, _, rfl⟩, hk, k.updLe l, k.upd l⟩
theorem Out.same (k : TOk T s.toks) (q : K b) (r : R (view own T s) b x) : Out own T s R K x s := ⟨b, T, q, .refl k, r⟩
theorem Out.mono {K' : β → Prop} {s' : Shared} (h : Out own T s R K x s') (hk : ∀ b, K b → K' b) : Out own T s R K' x s' := let ⟨b, T', q, r⟩ := h; ⟨b, T', hk _ q, r⟩
end
theorem Out.strNew {W : Wd} {own : List Addr} {T : TM} {s : Shared} {K : V → Prop} {l : S} (k : TOk T s.toks) (q : K (.str l)) : Out own T s (Rep W) K (.str (mkS l) s.toks) { s with toks := s.toks + 1 } :=
  ⟨_, _, q, .str (h' := s.heap) k fun _ _ e => e, .str TM.upd_self⟩
theorem Out.int {W : Wd} {own : List Addr} {T : TM} {s : Shared} {K : V → Prop} {i : Int} {t : Tok} {tk : Nat} (k : TOk T s.toks) (q : K (.int i)) (ht : s.toks ≤ tk) : Out own T s (Rep W) K (.int i t) { s with toks := tk } :=
  ⟨_, T, q, .toks k ht, .int _ _⟩
theorem Out.bool {W : Wd} {own : List Addr} {T : TM} {s : Shared} {K : V → Prop} {i : Bool} {tk : Nat} (k : TOk T s.toks) (q : K (.bool i)) (ht : s.toks ≤ tk) : Out own T s (Rep W) K (.bool i) { s with toks := tk } :=
  ⟨_, T, q, .toks k ht, .bool _⟩

theorem Tr.prim {α β : Type} {C : Cx} {σ : St} {R : PH → β → α → Prop} {t : Sem α} {Q : β → St → Prop} (h : ∀ own T s, OwnOk C own T s → PrimR C own T s R t (fun b => Q b σ)) : Tr C σ R t Q :=
  fun F mine T s hA => wpAny_mono (h (F ++ mine) T s hA.ownOk) (fun _ _ ⟨b, T', q, k, r⟩ => ⟨b, σ, mine, T', q, k.post hA.live, hA.keeps k, r⟩) fun _ _ x => x

theorem PrimR.mono {α β : Type} {C : Cx} {own : List Addr} {T : TM} {s : Shared} {R : PH → β → α → Prop} {t : Sem α} {K K' : β → Prop} (h : PrimR C own T s R t K) (hk : ∀ b, K b → K' b) : PrimR C own T s R t K' :=
  wpAny_mono h (fun _ _ x => x.mono hk) fun _ _ x => x
theorem PrimF.mono {C : Cx} {own : List Addr} {T : TM} {s : Shared} {t : Sem Value} {K K' : Slot → Prop} (h : PrimF C own T s t K) (hk : ∀ b, K b → K' b) : PrimF C own T s t K' :=
  wpAny_mono h (fun _ _ ⟨b, T', a, q, r⟩ => ⟨b, T', a, hk _ q, r⟩) fun _ _ x => x

noncomputable def Slot.v : Slot → V
  | .val v => v
  | .list _ vs => .lst vs
  | .dict _ es => .dct es

theorem view_sub {own own' : List Addr} {T : TM} {s : Shared} (hs : ∀ a ∈ own', a ∈ own) : Le (view own T s) (view own' T s) :=
  ⟨fun _ _ e => view_mk (fun hb => view_not e (hs _ hb)) (view_of e), fun _ _ e => e⟩
theorem app_sub {F mine mine' : List Addr} (hs : ∀ a ∈ mine', a ∈ mine) : ∀ a ∈ F ++ mine', a ∈ F ++ mine := fun a ha => by
  rcases List.mem_append.mp ha with ha | ha
  · exact List.mem_append_left _ ha
  · exact List.mem_append_right _ (hs a ha)

theorem SlotRep.freeze {W : Wd} {own own' : List Addr} {T : TM} {s : Shared} {a : Addr} {sl : Slot} {v : Value} (ho : sl.adr = some a) (x : SlotRep W (view own T s) s.heap sl v) (hs : ∀ b ∈ own', b ∈ own) (ha : a ∉ own') :
    Rep W (view own' T s) sl.v v := by
  have le : Le (view own T s) (view own' T s) := view_sub hs
  cases sl with
  | val u => cases ho
  | list a vs =>
    cases ho
    obtain ⟨rfl, ws, ⟨n, h1⟩, r⟩ := x
    exact .lst (view_mk ha h1) rfl rfl rfl (r.mono le)
  | dict a es =>
    cases ho
    obtain ⟨rfl, ws, kvs, ⟨h0, o, n, h1, h2, h3⟩, r, nd⟩ := x
    exact .dct (view_mk ha h1) h0 h2 h3 (r.mono le) nd

theorem PrimF.prim {C : Cx} {own : List Addr} {T : TM} {s : Shared} {t : Sem Value} {K : V → Prop} (hO : OwnOk C own T s) (h : PrimF C own T s t (fun sl => K sl.v)) : Prim C own T s t K := by
  refine wpAny_mono h (fun v s' ⟨sl, T', a, q, ho, k, hn, hs, r⟩ => ⟨sl.v, T', q, k, ?_⟩) fun _ _ x => x
  exact r.freeze ho (fun b hb => List.mem_cons_of_mem _ hb) (hO.fresh hn)

section
variable {C : Cx} {σ : St}

theorem ev_prim {e : Expr} {Q : V → St → Prop} (h : ∀ own T s, OwnOk C own T s → Prim C own T s (eval e C.env) (fun v => Q v σ)) : Ev C σ e Q := Tr.prim h

theorem ofString_lit (x : String) : Str.ofString x = mkS (lit x) := by rw [Str.ofString_eq_toList]; rfl

theorem ev_str {x : String} {k pos} {Q : V → St → Prop} (h : Q (.str (lit x)) σ) : Ev C σ (.Constant (.str (Str.ofString x)) k pos) Q :=
  ev_prim fun own T s hO => Constant_str (by rw [ofString_lit]; exact .strNew hO.tok h)
theorem ev_int {i : Int} {k pos} {Q : V → St → Prop} (h : Q (.int i) σ) : Ev C σ (.Constant (.int i) k pos) Q :=
  ev_prim fun own T s hO => wpAny_Constant_int (.int hO.tok h (Nat.le_succ _))
/-! ### names -/
theorem load_local {F mine : List Addr} {T : TM} {s : Shared} {n : Nat} (ok : C.Ok n) {x : Str} {m cm : Str → Option Value} (f : Frm C F mine T σ s m cm) {v : Value} (hv : valAt C.env m cm x = some v)
    (hn : (x == ("__classdict__" : Str)) = false) {M : Model} {A : Around} {E : Value → Shared → Prop} {Q : Value → Shared → Prop} (h : Q v s) : wpAny M A (loadName C.env x) Q E s := by
  unfold valAt at hv
  cases hk : C.env.kindOf x with
  | none => rw [hk] at hv; cases hv
  | some k =>
    rw [hk] at hv
    cases k with
    | «local» => exact wpAny_loadName_local ok.hk hk f.ns hv h
    | cell =>
      obtain ⟨c, hc⟩ := f.has x (.inl hk)
      exact wpAny_loadName_cell ok.hk hk hc (hv ▸ f.cells x c hc) h
    | free =>
      obtain ⟨c, hc⟩ := f.has x (.inr hk)
      exact wpAny_loadName_free ok.hk hk hc (hv ▸ f.cells x c hc) h hn
    | _ => cases hv

theorem tr_load {n : Nat} (ok : C.Ok n) {x : String} {v : V} {Q : V → St → Prop} (hf : find σ (Str.ofString x) = some (.val v)) (h : Q v σ) (hn : (Str.ofString x == ("__classdict__" : Str)) = false) : EvT C σ (loadName C.env (Str.ofString x)) Q := by
  intro F mine T s hA
  obtain ⟨m, cm, f⟩ := hA.frm
  obtain ⟨w, hw, hr⟩ := f.slots _ _ hf
  exact load_local ok f hw.val hn ⟨v, σ, mine, T, h, .refl _ _ _ _, hA, hr⟩

theorem ev_of_load {x : Str} {pos} {Q : V → St → Prop} (h : EvT C σ (loadName C.env x) Q) (hd : (x == ("__debug__" : Str)) = false) : Ev C σ (.Name x pos) Q :=
  fun F mine T s hA => wpAny_Name (h F mine T s hA) hd

theorem ev_name {n : Nat} (ok : C.Ok n) {x : String} {pos} {v : V} {Q : V → St → Prop} (hf : find σ (Str.ofString x) = some (.val v)) (h : Q v σ)
    (hn : (Str.ofString x == ("__classdict__" : Str)) = false := by decide) (hd : (Str.ofString x == ("__debug__" : Str)) = false := by decide) : Ev C σ (.Name (Str.ofString x) pos) Q :=
  ev_of_load (tr_load ok hf h hn) hd

/-- what is a frame's own may be let go: it stands for good -/
theorem Abs.freeze {F mine : List Addr} {T : TM} {s : Shared} (hA : Abs C F mine T σ s) {x : String} {sl : Slot} {a : Addr} (hf : find σ (Str.ofString x) = some sl) (ho : sl.adr = some a) (hxa : Str.ofString x ≠ anonS) :
    ∃ mine', (∀ a ∈ mine', a ∈ mine) ∧ Abs C F mine' T (put σ (Str.ofString x) x (.val sl.v)) s := by
  obtain ⟨m, cm, f⟩ := hA.frm
  obtain ⟨v, hv, hr⟩ := f.slots _ _ hf
  have hv := hv.real hxa
  obtain ⟨o1, o2, o3⟩ := f.own _ _ _ hf ho
  have sub : ∀ b ∈ mine.filter (· ≠ a), b ∈ mine := fun a ha => (List.mem_filter.mp ha).1
  have le : Le (view (F ++ mine) T s) (view (F ++ mine.filter (· ≠ a)) T s) := view_sub (app_sub sub)
  have hnF : a ∉ F ++ mine.filter (· ≠ a) := fun hm => by
    rcases List.mem_append.mp hm with hm | hm
    · exact hA.nin _ o1 hm
    · have := (List.mem_filter.mp hm).2; simp at this
  have hrep : Rep C.W (view (F ++ mine.filter (· ≠ a)) T s) sl.v v := hr.freeze ho (app_sub sub) hnF
  refine ⟨mine.filter (· ≠ a), sub, ⟨fun b o e => le.ob b o (hA.base b o e), fun a ha => hA.live a (app_sub sub a ha), fun a ha => hA.nin a (sub a ha), hA.tok, m, cm, ?_⟩⟩
  refine { ns := f.ns, cells := f.cells, apart := f.apart, lc := f.lc, has := f.has, lm := ?_, cown := ?_, cmine := ?_, slots := ?_, own := ?_, dis := ?_ }
  · exact List.mem_filter.mpr ⟨f.lm, by simpa using Ne.symm o2⟩
  · intro y c hc
    rcases List.mem_append.mp (f.cown y c hc) with hm | hm
    · exact List.mem_append_left _ hm
    · exact List.mem_append_right _ (List.mem_filter.mpr ⟨hm, by simpa using o3 y c hc⟩)
  · intro hc y c hyc
    exact List.mem_filter.mpr ⟨f.cmine hc y c hyc, by simpa using o3 y c hyc⟩
  · intro y sl' hy
    rw [find_put] at hy
    by_cases hxy : Str.ofString x = y
    · rw [if_pos hxy] at hy
      cases hy
      subst hxy
      exact ⟨v, .inl hv, hrep⟩
    · rw [if_neg hxy] at hy
      obtain ⟨v', hv', hr'⟩ := f.slots y sl' hy
      exact ⟨v', hv', hr'.mono le fun _ _ _ e => e⟩
  · intro y sl' b hy hb
    rw [find_put] at hy
    by_cases hxy : Str.ofString x = y
    · rw [if_pos hxy] at hy; cases hy; cases hb
    · rw [if_neg hxy] at hy
      obtain ⟨q1, q2, q3⟩ := f.own y sl' b hy hb
      have hne : b ≠ a := fun e => hxy (f.dis y _ sl' sl b hy hf hb (e ▸ ho)).symm
      exact ⟨List.mem_filter.mpr ⟨q1, by simpa using hne⟩, q2, q3⟩
  · intro y z sl1 sl2 b hy hz h1 h2
    rw [find_put] at hy hz
    by_cases hxy : Str.ofString x = y
    · rw [if_pos hxy] at hy; cases hy; cases h1
    · rw [if_neg hxy] at hy
      by_cases hxz : Str.ofString x = z
      · rw [if_pos hxz] at hz; cases hz; cases h2
      · rw [if_neg hxz] at hz
        exact f.dis y z sl1 sl2 b hy hz h1 h2

/-- a name's list or dict, the frame's own, stands from here on -/
theorem Tr.freeze {α β : Type} {R : PH → β → α → Prop} {t : Sem α} {Q : β → St → Prop} {x : String} {sl : Slot} {a : Addr} (hf : find σ (Str.ofString x) = some sl) (ho : sl.adr = some a)
    (h : Tr C (put σ (Str.ofString x) x (.val sl.v)) R t Q) (hxa : Str.ofString x ≠ anonS) : Tr C σ R t Q := by
  refine Tr.intro' fun F mine T s QQ fin hA => ?_
  obtain ⟨mine', sub, hA'⟩ := hA.freeze hf ho hxa
  have hp : Post F mine T s mine' T s := ⟨⟨_, _, rfl⟩, view_sub (app_sub sub), fun _ _ => rfl⟩
  refine Tr.then h hA' fun v s1 b σ1 m1 T1 q p1 a1 r => ?_
  exact fin _ _ b σ1 m1 T1 q (hp.trans p1) a1 r

theorem ev_glob {n : Nat} (ok : C.Ok n) {x : String} {pos} {v : Value} {Q : V → St → Prop} (hk : C.env.kindOf (Str.ofString x) = some .globalImplicit) (hg : C.W.gls.lookup x = some v) (h : Q (.val v) σ)
    (hd : (Str.ofString x == ("__debug__" : Str)) = false := by decide) : Ev C σ (.Name (Str.ofString x) pos) Q := by
  refine ev_prim fun own T s hO => ?_
  obtain ⟨mg, mb, h1, h2, h3⟩ := ok.W.gl
  have k := hO.kb
  rcases h3 x v hg with e | ⟨e1, e2⟩
  · exact Name_function_global ok.hk hk (loadGlobal_global (env := C.env) (ok.hg ▸ h1.keeps k) e (.same hO.tok h (.val _))) hd
  · exact Name_function_global ok.hk hk (loadGlobal_builtin (env := C.env) (ok.hg ▸ h1.keeps k) e1 (ok.hb ▸ h2.keeps k) e2 (.same hO.tok h (.val _))) hd

/-! ### storing a name -/
theorem valAt_local {env : Env} {m cm : Str → Option Value} {x y : Str} {v : Value} (hk : env.kindOf x = some .local) :
    valAt env (fun z => if z = x then some v else m z) cm y = if y = x then some v else valAt env m cm y := by
  unfold valAt
  by_cases h : y = x
  · subst h; rw [hk]; try simp
  · simp only [if_neg h]
theorem valAt_cell {env : Env} {m cm : Str → Option Value} {x y : Str} {v : Value} (hk : env.kindOf x = some .cell) :
    valAt env m (fun z => if z = x then some v else cm z) y = if y = x then some v else valAt env m cm y := by
  unfold valAt
  by_cases h : y = x
  · subst h; rw [hk]; try simp
  · simp only [if_neg h]

noncomputable def isHere (C : Cx) (x : Str) : Bool := C.env.kindOf x == some .local || (C.ownC && C.env.kindOf x == some .cell)

/-- the name x is bound to v; what v stands for is one slot more -/
theorem store_frm {n : Nat} (ok : C.Ok n) {F mine : List Addr} {T : TM} {s : Shared} (hA : Abs C F mine T σ s) {x : String} (hx : isHere C (Str.ofString x) = true) {v : Value} {sl : Slot}
    (hr : SlotRep C.W (view (F ++ mine) T s) s.heap sl v) {m cm : Str → Option Value} (f : Frm C F mine T σ s m cm)
    (hown : ∀ a, sl.adr = some a → a ∈ mine ∧ a ≠ C.env.locals ∧ (∀ y c, C.env.cells.lookup y = some c → c ≠ a) ∧ ∀ y sl', find σ y = some sl' → sl'.adr = some a → y = Str.ofString x)
    {M : Model} {A : Around} {E : Value → Shared → Prop} {Q : Unit → Shared → Prop} (h : ∀ s', Post F mine T s mine T s' → Abs C F mine T (put σ (Str.ofString x) x sl) s' → Q () s') : wpAny M A (storeName C.env (Str.ofString x) v) Q E s := by
  have hp : (C.env.scope.kind == .class || (C.env.scope.kind == .module && C.env.locals != C.env.globals)) = false := by rw [ok.hk]; rfl
  -- both roads turn one object L of the frame's own
  have fin : ∀ (L : Addr) (h' : Heap) (tk : Nat) (m' cm' : Str → Option Value), s.toks ≤ tk → L ∈ mine → (∀ a, sl.adr = some a → a ≠ L) → (∀ y sl' a, find σ y = some sl' → sl'.adr = some a → a ≠ L) → Heap.SameBut L s.heap h' → h'.Ns C.env.locals m' → (∀ y c, C.env.cells.lookup y = some c → h'.IsCell c (cm' y)) →
      (∀ y, valAt C.env m' cm' y = if y = Str.ofString x then some v else valAt C.env m cm y) → (h'.get? L).isSome = true → Q () { s with heap := h', toks := tk } := by
    intro L h' tk m' cm' htk hL haL hoL hs hns hcs hva hLs
    have le : Le (view (F ++ mine) T s) (view (F ++ mine) T { s with heap := h', toks := tk }) := ⟨fun b o e => view_mk (view_not e) ((hs.2 b (fun q => view_not e (q ▸ List.mem_append_right _ hL))).trans (view_of e)), fun _ _ e => e⟩
    have far : ∀ b ∈ F, h'.get? b = s.heap.get? b := fun b hb => hs.2 b (fun q => hA.nin L hL (q ▸ hb))
    refine h _ ⟨⟨_, _, rfl⟩, le, far⟩ ⟨fun b o e => le.ob b o (hA.base b o e), fun b hb => ?_, hA.nin, hA.tok.mono htk, m', cm', ?_⟩
    · by_cases hbL : b = L
      · subst hbL; exact hLs
      · show (h'.get? b).isSome = true
        rw [hs.2 b hbL]; exact hA.live b hb
    · refine { ns := hns, cells := hcs, apart := f.apart, lc := f.lc, has := f.has, lm := f.lm, cown := f.cown, cmine := f.cmine, slots := ?_, own := ?_, dis := ?_ }
      · intro y sl' hy
        rw [find_put] at hy
        unfold Bound
        rw [hva]
        by_cases hxy : Str.ofString x = y
        · rw [if_pos hxy] at hy
          cases hy
          subst hxy
          rw [if_pos rfl]
          exact ⟨v, .inl rfl, hr.mono le fun a ho o e => (hs.2 _ (haL a ho)).trans e⟩
        · rw [if_neg hxy] at hy
          rw [if_neg (Ne.symm hxy)]
          obtain ⟨v', hv', hr'⟩ := f.slots y sl' hy
          exact ⟨v', hv', hr'.mono le fun a ho o e => (hs.2 _ (hoL y sl' a hy ho)).trans e⟩
      · intro y sl' a hy ho
        rw [find_put] at hy
        by_cases hxy : Str.ofString x = y
        · rw [if_pos hxy] at hy
          cases hy
          obtain ⟨q1, q2, q3, _⟩ := hown a ho
          exact ⟨q1, q2, q3⟩
        · rw [if_neg hxy] at hy
          exact f.own y sl' a hy ho
      · intro y z sl1 sl2 a hy hz h1 h2
        rw [find_put] at hy hz
        by_cases hxy : Str.ofString x = y
        · rw [if_pos hxy] at hy
          cases hy
          by_cases hxz : Str.ofString x = z
          · exact hxy.symm.trans hxz
          · rw [if_neg hxz] at hz
            exact hxy.symm.trans ((hown a h1).2.2.2 z sl2 hz h2).symm
        · rw [if_neg hxy] at hy
          by_cases hxz : Str.ofString x = z
          · rw [if_pos hxz] at hz
            cases hz
            exact ((hown a h2).2.2.2 y sl1 hy h1).trans hxz
          · rw [if_neg hxz] at hz
            exact f.dis y z sl1 sl2 a hy hz h1 h2
  unfold isHere at hx
  cases hk : C.env.kindOf (Str.ofString x) with
  | none => rw [hk] at hx; simp at hx
  | some k =>
    cases k with
    | «local» =>
      refine wpAny_storeName_local hk f.ns (fun h' hn hs => ?_) hp
      refine fin C.env.locals h' _ _ cm (Nat.le_succ _) f.lm (fun a ho => (hown a ho).2.1) (fun y sl' a hy ho => (f.own y sl' a hy ho).2.1) hs hn (fun y c e => (f.cells y c e).sameBut hs (f.lc y c e)) (fun y => valAt_local hk) ?_
      obtain ⟨o, _, _, ho, _⟩ := hn
      rw [ho]; rfl
    | cell =>
      rw [hk] at hx
      have hoc : C.ownC = true := by simpa using hx
      obtain ⟨c, hc⟩ := f.has _ (.inl hk)
      refine wpAny_storeName_cell ok.hk hk hc (f.cells _ c hc) fun h' hv hs => ?_
      refine fin c h' s.toks m (fun z => if z = Str.ofString x then some v else cm z) (Nat.le_refl _) (f.cmine hoc _ c hc) (fun a ho => Ne.symm ((hown a ho).2.2.1 _ c hc)) (fun y sl' a hy ho => Ne.symm ((f.own y sl' a hy ho).2.2 _ c hc)) hs (f.ns.sameBut hs (Ne.symm (f.lc _ c hc)))
        (fun y c' e => ?_) (fun y => valAt_cell hk) ?_
      · by_cases hyx : y = Str.ofString x
        · subst hyx
          rw [hc] at e
          cases e
          simpa using hv
        · simp only [if_neg hyx]
          exact (f.cells y c' e).sameBut hs fun q => hyx (f.apart y _ c' e (q ▸ hc))
      · obtain ⟨o, ho, _⟩ := hv
        rw [ho]; rfl
    | _ => rw [hk] at hx; simp at hx

theorem store_val {n : Nat} (ok : C.Ok n) {F mine : List Addr} {T : TM} {s : Shared} (hA : Abs C F mine T σ s) {x : String} (hx : isHere C (Str.ofString x) = true) {v : Value} {u : V} (hr : Rep C.W (view (F ++ mine) T s) u v)
    {M : Model} {A : Around} {E : Value → Shared → Prop} {Q : Unit → Shared → Prop} (h : ∀ s', Post F mine T s mine T s' → Abs C F mine T (put σ (Str.ofString x) x (.val u)) s' → Q () s') : wpAny M A (storeName C.env (Str.ofString x) v) Q E s :=
  let ⟨_, _, f⟩ := hA.frm
  store_frm ok hA hx (sl := .val u) hr f (fun _ e => by cases e) h

/-! ### blocks -/
theorem exs_nil {Q : Fl → St → Prop} (h : Q .next σ) : Exs C σ [] Q :=
  fun F mine T s hA => wpAny_execs_nil ⟨.next, σ, mine, T, h, .refl _ _ _ _, hA, .next⟩

theorem exs_cons {st : Stmt} {rest : List Stmt} {Q : Fl → St → Prop} (h : Ex C σ st (fun fl σ' => match fl with | .next => Exs C σ' rest Q | fl => Q fl σ')) : Exs C σ (st :: rest) Q := by
  refine Tr.intro' fun F mine T s QQ fin hA => ?_
  refine wpAny_execs_cons (Tr.then h hA fun f s1 fl σ1 m1 T1 q p1 a1 r => ?_)
  cases r with
  | next =>
    refine Tr.then q a1 fun f2 s2 fl2 σ2 m2 T2 q2 p2 a2 r2 => ?_
    exact fin _ _ fl2 σ2 m2 T2 q2 (p1.trans p2) a2 r2
  | brk => exact fin _ _ _ σ1 m1 T1 q p1 a1 .brk
  | cont => exact fin _ _ _ σ1 m1 T1 q p1 a1 .cont
  | ret r => exact fin _ _ _ σ1 m1 T1 q p1 a1 (.ret r)

theorem ex_return {e : Expr} {pos} {Q : Fl → St → Prop} (h : Ev C σ e (fun v σ' => Q (.ret v) σ')) : Ex C σ (.Return (some e) pos) Q := by
  refine Tr.intro' fun F mine T s QQ fin hA => ?_
  refine wpAny_Return_some (Tr.then h hA fun f s1 v σ1 m1 T1 q p1 a1 r => ?_)
  exact fin _ _ (.ret v) σ1 m1 T1 q p1 a1 (.ret r)
theorem ex_if {test : Expr} {body orelse : List Stmt} {pos} {Q : Fl → St → Prop} (h : Tst C σ test (fun b σ' => (b = true → Exs C σ' body Q) ∧ (b = false → Exs C σ' orelse Q))) : Ex C σ (.If test body orelse pos) Q := by
  refine Tr.intro' fun F mine T s QQ fin hA => ?_
  refine wpAny_If (Tr.then h hA fun b s1 b' σ1 m1 T1 q p1 a1 r => ?_)
  have r : b' = b := r
  subst r
  cases b' with
  | true =>
    refine Tr.then (q.1 rfl) a1 fun f2 s2 fl2 σ2 m2 T2 q2 p2 a2 r2 => ?_
    exact fin _ _ fl2 σ2 m2 T2 q2 (p1.trans p2) a2 r2
  | false =>
    refine Tr.then (q.2 rfl) a1 fun f2 s2 fl2 σ2 m2 T2 q2 p2 a2 r2 => ?_
    exact fin _ _ fl2 σ2 m2 T2 q2 (p1.trans p2) a2 r2

/-- x = e, what e gives stands -/
theorem ex_assign {n : Nat} (ok : C.Ok n) {x : String} {p' e pos} {Q : Fl → St → Prop} (hx : isHere C (Str.ofString x) = true) (hs : swapsWith e (some (.Name (Str.ofString x) p')) pos.line C.env = pure false)
    (h : Ev C σ e (fun v σ' => Q .next (put σ' (Str.ofString x) x (.val v)))) : Ex C σ (.Assign [.Name (Str.ofString x) p'] e pos) Q := by
  refine Tr.intro' fun F mine T s QQ fin hA => ?_
  refine wpAny_Assign_Name (Tr.then h hA fun v s1 u σ1 m1 T1 q p1 a1 r => ?_) hs
  refine store_val ok a1 hx r fun s2 p2 a2 => fin _ _ .next _ m1 T1 q (p1.trans p2) a2 .next

structure AbsN (C : Cx) (F mine : List Addr) (a : Addr) (T : TM) (σ : St) (s : Shared) : Prop where
  base : ∀ b o, C.W.h₀.get? b = some o → (view (F ++ (a :: mine)) T s).ob b = some o
  live : ∀ b ∈ F ++ (a :: mine), (s.heap.get? b).isSome = true
  nin : ∀ b ∈ a :: mine, b ∉ F
  tok : TOk T s.toks
  frm : ∃ m cm, Frm C F (a :: mine) T σ s m cm ∧ a ≠ C.env.locals ∧ (∀ y c, C.env.cells.lookup y = some c → c ≠ a) ∧ ∀ y sl, find σ y = some sl → sl.adr ≠ some a

theorem AbsN.abs {F mine : List Addr} {a : Addr} {T : TM} {s : Shared} (x : AbsN C F mine a T σ s) : Abs C F (a :: mine) T σ s :=
  ⟨x.base, x.live, x.nin, x.tok, let ⟨m, cm, f, _⟩ := x.frm; ⟨m, cm, f⟩⟩

/-- the new object stands for good -/
theorem AbsN.drop {F mine : List Addr} {a : Addr} {T : TM} {s : Shared} (hn : a ∉ mine) (x : AbsN C F mine a T σ s) : Abs C F mine T σ s := by
  obtain ⟨m, cm, f, h1, h2, h3⟩ := x.frm
  have sub : ∀ b ∈ F ++ mine, b ∈ F ++ (a :: mine) := app_sub fun b hb => List.mem_cons_of_mem _ hb
  have le := view_sub (T := T) (s := s) sub
  have mm : ∀ b, b ∈ a :: mine → b ≠ a → b ∈ mine := fun b hb hne => (List.mem_cons.mp hb).resolve_left hne
  refine ⟨fun b o e => le.ob b o (x.base b o e), fun b hb => x.live b (sub b hb), fun b hb => x.nin b (List.mem_cons_of_mem _ hb), x.tok, m, cm, ?_⟩
  refine { ns := f.ns, cells := f.cells, apart := f.apart, lc := f.lc, has := f.has, lm := mm _ f.lm (Ne.symm h1), cown := ?_, cmine := fun hc y c e => mm _ (f.cmine hc y c e) (h2 y c e), slots := ?_, own := ?_, dis := f.dis }
  · intro y c e
    rcases List.mem_append.mp (f.cown y c e) with hm | hm
    · exact List.mem_append_left _ hm
    · exact List.mem_append_right _ (mm _ hm (h2 y c e))
  · intro y sl e
    obtain ⟨v, hv, hr⟩ := f.slots y sl e
    exact ⟨v, hv, hr.mono le fun _ _ _ e => e⟩
  · intro y sl b e ho
    obtain ⟨q1, q2, q3⟩ := f.own y sl b e ho
    exact ⟨mm _ q1 (fun q => h3 y sl e (q ▸ ho)), q2, q3⟩

/-- a tree that gives a new object -/
noncomputable def EvF (C : Cx) (σ : St) (t : Sem Value) (Q : Slot → St → Prop) : Prop :=
  ∀ F mine T s, Abs C F mine T σ s → wpAny C.M C.A t (fun v s' => ∃ sl σ' mine' a T', Q sl σ' ∧ sl.adr = some a ∧ Post F mine T s (a :: mine') T' s' ∧ a ∉ mine' ∧ AbsN C F mine' a T' σ' s' ∧ SlotRep C.W (view (F ++ (a :: mine')) T' s') s'.heap sl v) C.X s

theorem EvF.intro' {C : Cx} {σ : St} {t : Sem Value} {Q : Slot → St → Prop}
    (h : ∀ F mine T s (QQ : Value → Shared → Prop), (∀ v s' sl σ' mine' a T', Q sl σ' → sl.adr = some a → Post F mine T s (a :: mine') T' s' → a ∉ mine' → AbsN C F mine' a T' σ' s' → SlotRep C.W (view (F ++ (a :: mine')) T' s') s'.heap sl v → QQ v s') → Abs C F mine T σ s → wpAny C.M C.A t QQ C.X s) : EvF C σ t Q :=
  fun F mine T s hA => h F mine T s _ (fun _ _ sl σ' m' a T' x y z w u v => ⟨sl, σ', m', a, T', x, y, z, w, u, v⟩) hA
theorem EvF.mono {t : Sem Value} {Q Q' : Slot → St → Prop} (h : EvF C σ t Q) (hq : ∀ b σ, Q b σ → Q' b σ) : EvF C σ t Q' :=
  fun F mine T s hA => wpAny_mono (h F mine T s hA) (fun _ _ ⟨b, σ', m', a, T', q, r⟩ => ⟨b, σ', m', a, T', hq _ _ q, r⟩) fun _ _ x => x

theorem EvF.ev {t : Sem Value} {Q : V → St → Prop} (h : EvF C σ t (fun sl σ' => Q sl.v σ')) : EvT C σ t Q := by
  intro F mine T s hA
  refine wpAny_mono (h F mine T s hA) ?_ fun _ _ x => x
  rintro v s1 ⟨sl, σ1, m1, a, T1, q, ho, p1, hn, a1, r⟩
  have a2 := a1.drop hn
  have sub : ∀ b ∈ F ++ m1, b ∈ F ++ (a :: m1) := app_sub fun b hb => List.mem_cons_of_mem _ hb
  refine ⟨sl.v, σ1, m1, T1, q, ⟨p1.same, p1.le.trans (view_sub sub), p1.far⟩, a2, r.freeze ho sub fun hm => ?_⟩
  rcases List.mem_append.mp hm with hm | hm
  · exact a1.nin a List.mem_cons_self hm
  · exact hn hm

/-- one object more, and it is new -/
theorem Abs.new {F mine : List Addr} {T T' : TM} {s s' : Shared} (hA : Abs C F mine T σ s) (k : Kp T s T' s') {a : Addr} (hn : s.heap.get? a = none) (hs : (s'.heap.get? a).isSome = true) :
    Post F mine T s (a :: mine) T' s' ∧ a ∉ mine ∧ AbsN C F mine a T' σ s' ∧ Le (view (a :: (F ++ mine)) T' s') (view (F ++ (a :: mine)) T' s') := by
  have hnew : ∀ b ∈ F ++ mine, b ≠ a := fun b hb e => hA.ownOk.fresh hn (e ▸ hb)
  have hA1 := hA.keeps k
  have le : Le (view (F ++ mine) T s) (view (F ++ (a :: mine)) T' s') := ⟨fun b o e => by
    have e1 := k.view.ob b o e
    refine view_mk (fun hm => ?_) (view_of e1)
    rcases List.mem_append.mp hm with hm | hm
    · exact view_not e1 (List.mem_append_left _ hm)
    · rcases List.mem_cons.mp hm with rfl | hm
      · rw [view_of e] at hn; cases hn
      · exact view_not e1 (List.mem_append_right _ hm), k.tle⟩
  have pk := k.post hA.live
  have eqv : Le (view (a :: (F ++ mine)) T' s') (view (F ++ (a :: mine)) T' s') := view_sub fun b hb => by
    rcases List.mem_append.mp hb with hb | hb
    · exact List.mem_cons_of_mem _ (List.mem_append_left _ hb)
    · rcases List.mem_cons.mp hb with rfl | hb
      · exact List.mem_cons_self
      · exact List.mem_cons_of_mem _ (List.mem_append_right _ hb)
  refine ⟨⟨pk.same, le, pk.far⟩, fun hm => hnew a (List.mem_append_right _ hm) rfl, ?_, eqv⟩
  obtain ⟨m, cm, f⟩ := hA.frm
  have f1 : Frm C F mine T' σ s' m cm := f.keeps k
  refine ⟨fun b o e => le.ob b o (hA.base b o e), fun b hb => ?_, fun b hb => ?_, k.tok, m, cm, ?_, fun e => hnew _ (List.mem_append_right _ f.lm) e.symm, fun y c e => hnew c (f.cown y c e), fun y sl' e ho' => hnew _ (List.mem_append_right _ (f.own y sl' a e ho').1) rfl⟩
  · rcases List.mem_append.mp hb with hb | hb
    · exact hA1.live b (List.mem_append_left _ hb)
    · rcases List.mem_cons.mp hb with rfl | hb
      · exact hs
      · exact hA1.live b (List.mem_append_right _ hb)
  · rcases List.mem_cons.mp hb with rfl | hb
    · exact fun hF => hnew _ (List.mem_append_left _ hF) rfl
    · exact hA.nin b hb
  · refine { ns := f1.ns, cells := f1.cells, apart := f1.apart, lc := f1.lc, has := f1.has, lm := List.mem_cons_of_mem _ f1.lm, cown := ?_, cmine := fun hc y c e => List.mem_cons_of_mem _ (f1.cmine hc y c e), slots := ?_, own := ?_, dis := f1.dis }
    · intro y c e
      rcases List.mem_append.mp (f1.cown y c e) with hm | hm
      · exact List.mem_append_left _ hm
      · exact List.mem_append_right _ (List.mem_cons_of_mem _ hm)
    · intro y sl' e
      obtain ⟨v, hv, hr⟩ := f.slots y sl' e
      exact ⟨v, hv, hr.mono le fun _ _ o e => k.keep _ o e⟩
    · intro y sl' b e ho'
      obtain ⟨q1, q2, q3⟩ := f1.own y sl' b e ho'
      exact ⟨List.mem_cons_of_mem _ q1, q2, q3⟩

theorem EvF.prim {t : Sem Value} {Q : Slot → St → Prop} (h : ∀ own T s, OwnOk C own T s → PrimF C own T s t (fun sl => Q sl σ)) : EvF C σ t Q := by
  refine EvF.intro' fun F mine T s QQ fin hA => ?_
  refine wpAny_mono (h (F ++ mine) T s hA.ownOk) ?_ fun _ _ x => x
  rintro v s1 ⟨sl, T1, a, q, ho, k, hn, hs, r⟩
  obtain ⟨p1, hm, a1, le⟩ := hA.new k hn hs
  exact fin _ _ sl σ mine a T1 q ho p1 hm a1 (r.mono le fun _ _ _ e => e)

/-- x = e, what e gives is new and the frame's own -/
theorem ex_assignN {n : Nat} (ok : C.Ok n) {x : String} {p' e pos} {Q : Fl → St → Prop} (hx : isHere C (Str.ofString x) = true) (hs : swapsWith e (some (.Name (Str.ofString x) p')) pos.line C.env = pure false)
    (h : EvF C σ (eval e C.env) (fun sl σ' => Q .next (put σ' (Str.ofString x) x sl))) : Ex C σ (.Assign [.Name (Str.ofString x) p'] e pos) Q := by
  intro F mine T s hA
  refine wpAny_Assign_Name (wpAny_mono (h F mine T s hA) ?_ fun _ _ x => x) hs
  rintro v s1 ⟨sl, σ1, m1, a, T1, q, ho, p1, hn, a1, r⟩
  obtain ⟨m, cm, f, h1, h2, h3⟩ := a1.frm
  refine store_frm ok a1.abs hx r f (fun b hb => ?_) fun s2 p2 a2 => ⟨.next, _, _, T1, q, p1.trans p2, a2, .next⟩
  rw [ho] at hb
  cases hb
  exact ⟨List.mem_cons_self, h1, h2, fun y sl' e1 e2 => absurd e2 (h3 y sl' e1)⟩

/-- a list or dict of the frame's own turns -/
theorem Abs.mutate {F mine : List Addr} {T T' : TM} {s s' : Shared} (hA : Abs C F mine T σ s) {x : String} {sl sl' : Slot} {a : Addr} (hf : find σ (Str.ofString x) = some sl) (ho : sl.adr = some a) (ho' : sl'.adr = some a)
    (hsame : ∃ h' tk, s' = { s with heap := h', toks := tk }) (hs : ∀ b o, b ≠ a → s.heap.get? b = some o → s'.heap.get? b = some o) (hl : (s'.heap.get? a).isSome = true) (hT : TLe T T') (ht : TOk T' s'.toks)
    (hr : ∀ g', Le (view (F ++ mine) T s) g' → Le g' (view (F ++ mine) T' s') → SlotRep C.W (view (F ++ mine) T' s') s'.heap sl' (.ref a)) : Post F mine T s mine T' s' ∧ Abs C F mine T' (put σ (Str.ofString x) x sl') s' := by
  obtain ⟨m, cm, f⟩ := hA.frm
  obtain ⟨v, hv, hr0⟩ := f.slots _ _ hf
  obtain ⟨o1, o2, o3⟩ := f.own _ _ _ hf ho
  have hva := hr0.ref ho
  have le : Le (view (F ++ mine) T s) (view (F ++ mine) T' s') := ⟨fun b o e => view_mk (view_not e) (hs b o (fun q => view_not e (q ▸ List.mem_append_right _ o1)) (view_of e)), hT⟩
  have hr := hr _ le (.refl _)
  have far : ∀ b ∈ F, s'.heap.get? b = s.heap.get? b := fun b hb => by
    obtain ⟨o, ho⟩ := Option.isSome_iff_exists.mp (hA.live b (List.mem_append_left _ hb))
    rw [ho]; exact hs b o (fun q => hA.nin a o1 (q ▸ hb)) ho
  refine ⟨⟨hsame, le, far⟩, fun b o e => le.ob b o (hA.base b o e), fun b hb => ?_, hA.nin, ht, m, cm, ?_⟩
  · by_cases q : b = a
    · subst q; exact hl
    · obtain ⟨o, ho⟩ := Option.isSome_iff_exists.mp (hA.live b hb)
      rw [hs b o q ho]; rfl
  · refine { ns := f.ns.at' fun o e => hs _ o (Ne.symm o2) e, cells := fun y c e => ?_, apart := f.apart, lc := f.lc, has := f.has, lm := f.lm, cown := f.cown, cmine := f.cmine, slots := ?_, own := ?_, dis := ?_ }
    · obtain ⟨o, ho, hd⟩ := f.cells y c e
      exact ⟨o, hs c o (o3 y c e) ho, hd⟩
    · intro y sl1 hy
      rw [find_put] at hy
      by_cases hxy : Str.ofString x = y
      · rw [if_pos hxy] at hy
        cases hy
        subst hxy
        refine ⟨.ref a, ?_, hr⟩
        rcases hv with hv | ⟨h1, _, b, h2, h3⟩
        · exact .inl (hva ▸ hv)
        · rw [hva] at h3
          cases h3
          exact .inr ⟨h1, by unfold Slot.owned; rw [ho']; rfl, a, h2, rfl⟩
      · rw [if_neg hxy] at hy
        obtain ⟨v', hv', hr'⟩ := f.slots y sl1 hy
        exact ⟨v', hv', hr'.mono le fun b hb o e => hs b o (fun q => hxy (f.dis _ y sl sl1 a hf hy ho (q ▸ hb))) e⟩
    · intro y sl1 b hy hb
      rw [find_put] at hy
      by_cases hxy : Str.ofString x = y
      · rw [if_pos hxy] at hy
        cases hy
        rw [ho'] at hb
        cases hb
        exact ⟨o1, o2, o3⟩
      · rw [if_neg hxy] at hy
        exact f.own y sl1 b hy hb
    · intro y z sl1 sl2 b hy hz h1 h2
      rw [find_put] at hy hz
      by_cases hxy : Str.ofString x = y
      · rw [if_pos hxy] at hy
        cases hy
        rw [ho'] at h1
        cases h1
        by_cases hxz : Str.ofString x = z
        · exact hxy.symm.trans hxz
        · rw [if_neg hxz] at hz
          exact hxy.symm.trans (f.dis _ z sl sl2 a hf hz ho h2)
      · rw [if_neg hxy] at hy
        by_cases hxz : Str.ofString x = z
        · rw [if_pos hxz] at hz
          cases hz
          rw [ho'] at h2
          cases h2
          exact (f.dis y _ sl1 sl a hy hf h1 ho).trans hxz
        · rw [if_neg hxz] at hz
          exact f.dis y z sl1 sl2 b hy hz h1 h2

end
end Sx
end
section
open PySem PySem.W PyProof.Rows PySem.Calls
set_option linter.unusedVariables false
set_option Elab.async false
set_option maxRecDepth 100000
namespace Sx

/-- a step on two values -/
noncomputable def Op2 {α β : Type} (C : Cx) (R : PH → β → α → Prop) (f : Value → Value → Sem α) (a b : V) (K : β → Prop) : Prop :=
  ∀ own T s va vb, OwnOk C own T s → Rep C.W (view own T s) a va → Rep C.W (view own T s) b vb → PrimR C own T s R (f va vb) K
noncomputable def Op1 {α β : Type} (C : Cx) (R : PH → β → α → Prop) (f : Value → Sem α) (a : V) (K : β → Prop) : Prop :=
  ∀ own T s va, OwnOk C own T s → Rep C.W (view own T s) a va → PrimR C own T s R (f va) K
noncomputable def OpL {α β : Type} (C : Cx) (R : PH → β → α → Prop) (f : List Value → Sem α) (as : List V) (K : β → Prop) : Prop :=
  ∀ own T s vs, OwnOk C own T s → RepL C.W (view own T s) as vs → PrimR C own T s R (f vs) K
noncomputable def Op2F (C : Cx) (f : Value → Value → Sem Value) (a b : V) (K : Slot → Prop) : Prop :=
  ∀ own T s va vb, OwnOk C own T s → Rep C.W (view own T s) a va → Rep C.W (view own T s) b vb → PrimF C own T s (f va vb) K
noncomputable def OpLF (C : Cx) (f : List Value → Sem Value) (as : List V) (K : Slot → Prop) : Prop :=
  ∀ own T s vs, OwnOk C own T s → RepL C.W (view own T s) as vs → PrimF C own T s (f vs) K

noncomputable def IsTy (W : Wd) (a : V) (T : String) : Prop := ∀ (g : PH) (s : Shared) (va : Value), Rep W g a va → (∀ c o, g.ob c = some o → s.heap.get? c = some o) → s.TypeIs va T

section
variable {C : Cx} {σ : St}

theorem Tr.ofRep {α β : Type} {R : PH → β → α → Prop} {f : Value → Sem α} {Q : β → St → Prop} {a : V} (h : Op1 C R f a (fun b => Q b σ)) : ∀ F mine T s va, Abs C F mine T σ s → Rep C.W (view (F ++ mine) T s) a va →
    wpAny C.M C.A (f va) (fun x s' => ∃ b σ' mine' T', Q b σ' ∧ Post F mine T s mine' T' s' ∧ Abs C F mine' T' σ' s' ∧ R (view (F ++ mine') T' s') b x) C.X s :=
  fun F mine T s va hA r => wpAny_mono (h _ T s va hA.ownOk r) (fun _ _ ⟨b, T', q, k, r⟩ => ⟨b, σ, mine, T', q, k.post hA.live, hA.keeps k, r⟩) fun _ _ x => x

theorem ev_bin {l r : Expr} {op : Operator} {p : Pos} {Q : V → St → Prop} (h : Ev C σ l (fun a σ1 => Ev C σ1 r (fun b σ2 => Op2 C (Rep C.W) (binaryOp op) a b (fun v => Q v σ2)))) : Ev C σ (.BinOp l op r p) Q := by
  refine Tr.intro' fun F mine T s QQ fin hA => ?_
  refine wpAny_BinOp (Tr.then h hA fun va s1 a σ1 m1 T1 hQ p1 a1 r1 => ?_)
  refine Tr.then hQ a1 fun vb s2 b σ2 m2 T2 hQ2 p2 a2 r2 => ?_
  refine PrimR.then (hQ2 _ T2 s2 va vb a2.ownOk (r1.mono p2.le) r2) fun vc s3 c T3 q k r3 => ?_
  exact fin _ _ c σ2 m2 T3 q ((p1.trans p2).trans (k.post a2.live)) (a2.keeps k) r3

theorem evF_bin {l r : Expr} {op : Operator} {p : Pos} {Q : Slot → St → Prop} (h : Ev C σ l (fun a σ1 => Ev C σ1 r (fun b σ2 => Op2F C (binaryOp op) a b (fun v => Q v σ2)))) : EvF C σ (eval (.BinOp l op r p) C.env) Q := by
  refine EvF.intro' fun F mine T s QQ fin hA => ?_
  refine wpAny_BinOp (Tr.then h hA fun va s1 a σ1 m1 T1 hQ p1 a1 r1 => ?_)
  refine Tr.then hQ a1 fun vb s2 b σ2 m2 T2 hQ2 p2 a2 r2 => ?_
  refine wpAny_mono (hQ2 _ T2 s2 va vb a2.ownOk (r1.mono p2.le) r2) ?_ fun _ _ x => x
  rintro vc s3 ⟨sl, T3, a, q, ho, k, hn, hs, r3⟩
  obtain ⟨p3, hm, a3, le⟩ := a2.new k hn hs
  exact fin _ _ sl σ2 m2 a T3 q ho ((p1.trans p2).trans p3) hm a3 (r3.mono le fun _ _ _ e => e)

theorem ev_cmp {l r : Expr} {op : CmpOp} {p : Pos} {Q : V → St → Prop} (h : Ev C σ l (fun a σ1 => Ev C σ1 r (fun b σ2 => Op2 C (Rep C.W) (compareOp op) a b (fun v => Q v σ2))))
    (hm : behindInMarks op r = false := by with_unfolding_all rfl) : Ev C σ (.Compare l [op] [r] p) Q := by
  refine Tr.intro' fun F mine T s QQ fin hA => ?_
  refine wpAny_Compare1 (Tr.then h hA fun va s1 a σ1 m1 T1 hQ p1 a1 r1 => ?_) hm
  refine Tr.then hQ a1 fun vb s2 b σ2 m2 T2 hQ2 p2 a2 r2 => ?_
  refine PrimR.then (hQ2 _ T2 s2 va vb a2.ownOk (r1.mono p2.le) r2) fun vc s3 c T3 q k r3 => ?_
  exact fin _ _ c σ2 m2 T3 q ((p1.trans p2).trans (k.post a2.live)) (a2.keeps k) r3

/-- a comparison in a test: its value is a bool -/
theorem tst_cmp {l r : Expr} {op : CmpOp} {p : Pos} {Q : Bool → St → Prop} (h : Ev C σ l (fun a σ1 => Ev C σ1 r (fun b σ2 => Op2 C (Rep C.W) (compareOp op) a b (fun v => ∃ b, v = .bool b ∧ Q b σ2))))
    (hm : behindInMarks op r = false := by with_unfolding_all rfl) : Tst C σ (.Compare l [op] [r] p) Q := by
  refine Tr.intro' fun F mine T s QQ fin hA => ?_
  refine wpAny_isTrue_Compare1 (Tr.then h hA fun va s1 a σ1 m1 T1 hQ p1 a1 r1 => ?_) hm
  refine Tr.then hQ a1 fun vb s2 b σ2 m2 T2 hQ2 p2 a2 r2 => ?_
  refine wpAny_mono (hQ2 _ T2 s2 va vb a2.ownOk (r1.mono p2.le) r2) ?_ fun _ _ x => x
  rintro vc s3 ⟨c, T3, ⟨b, rfl, q⟩, k, r3⟩
  cases r3
  exact wpAny_truthy_bool (fin _ _ b σ2 m2 T3 q ((p1.trans p2).trans (k.post a2.live)) (a2.keeps k) rfl)

/-- a test that is just a value -/
theorem tst_val {e : Expr} {Q : Bool → St → Prop} (h : Ev C σ e (fun a σ1 => Op1 C RB truthy a (fun b => Q b σ1))) (he : isTrue e C.env (eval e C.env) = (do let v ← eval e C.env; standAt e.pos; holding [v] (truthy v)) := by rfl) : Tst C σ e Q := by
  refine Tr.intro' fun F mine T s QQ fin hA => ?_
  rw [he]
  refine wpAny_bind (Tr.then h hA fun va s1 a σ1 m1 T1 hQ p1 a1 r1 => ?_)
  refine wpAny_bind (wpAny_standAt (wpAny_holding (wpAny_mono (Tr.ofRep (Q := Q) hQ F m1 T1 s1 va a1 r1) ?_ fun _ _ x => x)))
  rintro b s2 ⟨b', σ2, m2, T2, q, p2, a2, r2⟩
  exact fin _ _ b' σ2 m2 T2 q (p1.trans p2) a2 r2

noncomputable abbrev AllT (C : Cx) (σ : St) (op : BoolOp) (es : List Expr) (Q : Bool → St → Prop) : Prop := Tr C σ RB (allTrue op es C.env) Q
theorem tst_bool {op : BoolOp} {es : List Expr} {p : Pos} {Q : Bool → St → Prop} (h : AllT C σ op es Q) : Tst C σ (.BoolOp op es p) Q :=
  fun F mine T s hA => wpAny_isTrue_BoolOp (h F mine T s hA)
theorem allT_and_nil {Q : Bool → St → Prop} (h : Q true σ) : AllT C σ .And [] Q := fun F mine T s hA => wpAny_allTrue_And_nil ⟨_, _, _, T, h, .refl _ _ _ _, hA, rfl⟩
theorem allT_and {e : Expr} {es : List Expr} {Q : Bool → St → Prop} (h : Tst C σ e (fun b σ' => (b = true → AllT C σ' .And es Q) ∧ (b = false → Q false σ'))) : AllT C σ .And (e :: es) Q := by
  refine Tr.intro' fun F mine T s QQ fin hA => ?_
  rw [arm_allTrue_cons]
  refine wpAny_bind (Tr.then h hA fun b s1 b' σ1 m1 T1 q p1 a1 r => ?_)
  have r : b' = b := r
  subst r
  cases b' with
  | true =>
    refine Tr.then (q.1 rfl) a1 fun b2 s2 b2' σ2 m2 T2 q2 p2 a2 r2 => ?_
    exact fin _ _ b2' σ2 m2 T2 q2 (p1.trans p2) a2 r2
  | false => exact wpAny_pure (fin _ _ false σ1 m1 T1 (q.2 rfl) p1 a1 rfl)
theorem ev_ifexp {t a b : Expr} {p : Pos} {Q : V → St → Prop} (h : Tst C σ t (fun c σ' => (c = true → Ev C σ' a Q) ∧ (c = false → Ev C σ' b Q))) : Ev C σ (.IfExp t a b p) Q := by
  refine Tr.intro' fun F mine T s QQ fin hA => ?_
  rw [arm_eval_IfExp]
  refine wpAny_bind (Tr.then h hA fun c s1 b' σ1 m1 T1 q p1 a1 r => ?_)
  have r : b' = c := r
  subst r
  cases b' with
  | true =>
    refine Tr.then (q.1 rfl) a1 fun b2 s2 b2' σ2 m2 T2 q2 p2 a2 r2 => ?_
    exact fin _ _ b2' σ2 m2 T2 q2 (p1.trans p2) a2 r2
  | false =>
    refine Tr.then (q.2 rfl) a1 fun b2 s2 b2' σ2 m2 T2 q2 p2 a2 r2 => ?_
    exact fin _ _ b2' σ2 m2 T2 q2 (p1.trans p2) a2 r2

/-- a and b, as a value, where a is a bool -/
theorem ev_and2 {a b : Expr} {p : Pos} {Q : V → St → Prop} (h : Ev C σ a (fun v σ1 => ∃ c, v = .bool c ∧ (c = true → Ev C σ1 b Q) ∧ (c = false → Q (.bool false) σ1))) : Ev C σ (.BoolOp .And [a, b] p) Q := by
  refine Tr.intro' fun F mine T s QQ fin hA => ?_
  show wpAny C.M C.A (do let v ← eval a C.env; standAt p; let t ← holding [v] (truthy v); match BoolOp.And, t with | .And, false | .Or, true => pure v | _, _ => boolOp p .And [eval b C.env]) _ _ s
  refine wpAny_bind (Tr.then h hA fun va s1 v σ1 m1 T1 hq_ p1 a1 r => ?_)
  obtain ⟨c, rfl, h1, h2⟩ := hq_
  cases r
  refine wpAny_bind (wpAny_standAt (wpAny_bind (wpAny_holding (wpAny_truthy_bool ?_))))
  cases c with
  | true =>
    refine Tr.then (h1 rfl) a1 fun b2 s2 b2' σ2 m2 T2 q2 p2 a2 r2 => ?_
    exact fin _ _ b2' σ2 m2 T2 q2 (p1.trans p2) a2 r2
  | false => exact wpAny_pure (fin _ _ _ σ1 m1 T1 (h2 rfl) p1 a1 (.bool _))

/-- not e, as a value -/
theorem ev_un {op : UnaryOp} {e : Expr} {p : Pos} {Q : V → St → Prop} (h : Ev C σ e (fun a σ1 => Op1 C (Rep C.W) (unaryOp op) a (fun b => Q b σ1))) : Ev C σ (.UnaryOp op e p) Q := by
  refine Tr.intro' fun F mine T s QQ fin hA => ?_
  refine wpAny_UnaryOp (Tr.then h hA fun va s1 a σ1 m1 T1 hQ p1 a1 r1 => ?_)
  refine wpAny_mono (Tr.ofRep (Q := Q) hQ F m1 T1 s1 va a1 r1) ?_ fun _ _ x => x
  rintro b s2 ⟨b', σ2, m2, T2, q, p2, a2, r2⟩
  exact fin _ _ b' σ2 m2 T2 q (p1.trans p2) a2 r2

/-! ### rows of items -/
theorem evL_nil {pos : Pos} {Q : List V → St → Prop} (h : Q [] σ) : EvL C σ pos [] Q := fun F mine T s hA => wpAny_items_nil ⟨[], σ, mine, T, h, .refl _ _ _ _, hA, .nil⟩
theorem backTo_cons {pos : Pos} {e : Expr} {rest : List Expr} (hs : starEach (e :: rest) C.env = (false, eval e C.env) :: starEach rest C.env) :
    backTo pos (starEach (e :: rest) C.env) = (false, eval e C.env) :: backTo pos (starEach rest C.env) := by rw [hs]; rfl
theorem evL_cons {pos : Pos} {e : Expr} {rest : List Expr} {Q : List V → St → Prop} (h : Ev C σ e (fun v σ1 => EvL C σ1 pos rest (fun vs σ2 => Q (v :: vs) σ2)))
    (hs : starEach (e :: rest) C.env = (false, eval e C.env) :: starEach rest C.env := by rfl) : EvL C σ pos (e :: rest) Q := by
  refine Tr.intro' fun F mine T s QQ fin hA => ?_
  rw [backTo_cons hs]
  refine spliced_cons (Tr.then h hA fun va s1 a σ1 m1 T1 hQ p1 a1 r1 => ?_)
  refine Tr.then hQ a1 fun vb s2 vs σ2 m2 T2 hQ2 p2 a2 r2 => ?_
  exact fin _ _ (a :: vs) σ2 m2 T2 hQ2 (p1.trans p2) a2 (.cons (r1.mono p2.le) r2)

theorem evF_ofL {pos : Pos} {es : List Expr} {f : List Value → Sem Value} {Q : Slot → St → Prop} (h : EvL C σ pos es (fun vs σ1 => OpLF C f vs (fun sl => Q sl σ1))) :
    EvF C σ (do f (← spliced (backTo pos (starEach es C.env)))) Q := by
  intro F mine T s hA
  refine wpAny_bind (Tr.then h hA fun vs s1 as σ1 m1 T1 hQ p1 a1 r1 => ?_)
  refine wpAny_mono (hQ _ T1 s1 vs a1.ownOk r1) ?_ fun _ _ x => x
  rintro v s2 ⟨sl, T2, a, q, ho, k, hn, hs, r2⟩
  obtain ⟨p2, hm, a2, le⟩ := a1.new k hn hs
  exact ⟨sl, σ1, m1, a, T2, q, ho, p1.trans p2, hm, a2, r2.mono le fun _ _ _ e => e⟩
theorem ev_ofL {pos : Pos} {es : List Expr} {f : List Value → Sem Value} {Q : V → St → Prop} (h : EvL C σ pos es (fun vs σ1 => OpL C (Rep C.W) f vs (fun sl => Q sl σ1))) :
    EvT C σ (do f (← spliced (backTo pos (starEach es C.env)))) Q := by
  refine Tr.intro' fun F mine T s QQ fin hA => ?_
  refine wpAny_bind (Tr.then h hA fun vs s1 as σ1 m1 T1 hQ p1 a1 r1 => ?_)
  refine PrimR.then (hQ _ T1 s1 vs a1.ownOk r1) fun v s2 b T2 q k r2 => ?_
  exact fin _ _ b σ1 m1 T2 q (p1.trans (k.post a1.live)) (a1.keeps k) r2

theorem Tr.standAt {α β : Type} {R : PH → β → α → Prop} {pos : Pos} {t : Sem α} {Q : β → St → Prop} (h : Tr C σ R t Q) : Tr C σ R (do standAt pos; t) Q := fun F mine T s hA => wpAny_bind (wpAny_standAt (h F mine T s hA))
theorem EvF.standAt {pos : Pos} {t : Sem Value} {Q : Slot → St → Prop} (h : EvF C σ t Q) : EvF C σ (do standAt pos; t) Q := fun F mine T s hA => wpAny_bind (wpAny_standAt (h F mine T s hA))

theorem newList_op {vs : List V} {K : Slot → Prop} (h : ∀ a, K (.list a vs)) (hl : vs.length ≤ sizeLine) : OpLF C newList vs K := by
  intro own T s ws hO hr
  refine wpAny_newObj_type ?_ (by show ws.toArray.size ≤ sizeLine; rw [List.size_toArray, hr.length]; exact hl)
  have hk : Kp T s T { s with heap := s.heap.push { cls := .type "list", data := .seq ws.toArray } } := .push hO.tok (Nat.le_refl _)
  have hn := fresh_size s.heap
  refine ⟨.list s.heap.objs.size vs, T, s.heap.objs.size, h _, rfl, hk, hn, by rw [Heap.get?_push_size _ rfl]; rfl, rfl, ws, ⟨0, Heap.get?_push_size _ rfl⟩, ?_⟩
  refine hr.mono ⟨fun b o e => view_mk (fun hm => ?_) (hk.keep b o (view_of e)), fun _ _ e => e⟩
  rcases List.mem_cons.mp hm with rfl | hm
  · rw [view_of e] at hn; cases hn
  · exact view_not e hm
theorem newTuple_op {vs : List V} {K : V → Prop} (h : K (.tup vs)) (hl : vs.length ≤ sizeLine) : OpL C (Rep C.W) newTuple vs K := by
  intro own T s ws hO hr
  refine wpAny_newObj_type ?_ (by show ws.toArray.size ≤ sizeLine; rw [List.size_toArray, hr.length]; exact hl)
  have hk : Kp T s T { s with heap := s.heap.push { cls := .type "tuple", data := .seq ws.toArray } } := .push hO.tok (Nat.le_refl _)
  have hn := fresh_size s.heap
  exact ⟨_, T, h, hk, .tup (view_mk (hO.fresh hn) (Heap.get?_push_size _ rfl)) rfl rfl (hr.mono hk.view)⟩

theorem evF_list {es : List Expr} {pos : Pos} {Q : Slot → St → Prop} (h : EvL C σ pos es (fun vs σ1 => vs.length ≤ sizeLine ∧ ∀ a, Q (.list a vs) σ1)) : EvF C σ (eval (.List es pos) C.env) Q := by
  rw [arm_eval_List]
  exact EvF.standAt (evF_ofL (h.mono fun vs σ1 hq => newList_op hq.2 hq.1))
theorem ev_tuple {es : List Expr} {k : Nat} {pos : Pos} {Q : V → St → Prop} (h : EvL C σ pos es (fun vs σ1 => vs.length ≤ sizeLine ∧ Q (.tup vs) σ1)) : Ev C σ (.Tuple es k pos) Q := by
  rw [Ev, arm_eval_Tuple]
  exact Tr.standAt (ev_ofL (h.mono fun vs σ1 hq => newTuple_op hq.2 hq.1))

/-! ### items -/
theorem ev_sub {value slice : Expr} {pos : Pos} {Q : V → St → Prop}
    (h : Ev C σ value (fun a σ1 => Ev C σ1 slice (fun b σ2 => Op2 C (Rep C.W) getItem a b (fun v => Q v σ2) ∧ ∃ T id, typeLookup (.type T) "__getitem__" = pure (some (.builtin id)) ∧ IsTy C.W a T)))
    (hs : ∀ o i, subscripted slice false o i = operate [o, i] (getItem o i) := by intro _ _; rfl) : Ev C σ (.Subscript value slice pos) Q := by
  refine Tr.intro' fun F mine T s QQ fin hA => ?_
  rw [arm_eval_Subscript]
  refine wpAny_bind (Tr.then h hA fun va s1 a σ1 m1 T1 hQ p1 a1 r1 => ?_)
  refine wpAny_bind (wpAny_holding (Tr.then hQ a1 fun vb s2 b σ2 m2 T2 hq_ p2 a2 r2 => ?_))
  obtain ⟨hQ2, Ty, id, hl, hT⟩ := hq_
  have hT := hT _ s2 va (r1.mono p2.le) fun c o e => view_of e
  refine wpAny_bind (wpAny_standAt ?_)
  refine wpAny_bind ?_
  rw [getitemInPython_of_ne hT.not_modules]
  refine wpAny_bind (wpAny_specialOf hT hl (wpAny_pure ?_))
  rw [hs]
  refine wpAny_bind (wpAny_operating (PrimR.then (hQ2 _ T2 s2 va vb a2.ownOk (r1.mono p2.le) r2) fun vc s3 c T3 q k r3 => ?_))
  exact wpAny_bind (wpAny_letTemporaryGo (wpAny_pure (fin _ _ c σ2 m2 T3 q ((p1.trans p2).trans (k.post a2.live)) (a2.keeps k) r3)))

/-! ### calls -/
/-- what may be called by name: a function of the base or a built-in -/
inductive Callee (C : Cx) : Value → Prop
  | fn {a : Addr} {o : Obj} {fd : FuncData} : C.W.h₀.get? a = some o → o.data = .func fd → Callee C (.ref a)
  | bi {id : String} : Callee C (.builtin id)
  | ty {T : String} : Callee C (.type T)

theorem evalArgs_list {M : Model} {A : Around} {E : Value → Shared → Prop} {s : Shared} {f : Value} {pos : Pos} {env : Env} {es : List Expr} {Q : Args → Shared → Prop} (hst : (starEach es env).all (fun x => !x.1) = true)
    (h : wpAny M A (spliced (backTo pos (starEach es env))) (fun vs s' => Q ⟨vs, []⟩ s') E s) : wpAny M A (evalArgs f true (backTo pos (starEach es env)) []) Q E s := by
  cases hx : starEach es env with
  | nil =>
    rw [hx] at h
    unfold evalArgs
    show wpAny M A (spliced [] >>= _) Q E s
    refine wpAny_bind (wpAny_mono h (fun vs s' h' => ?_) fun _ _ x => x)
    refine wpAny_holding ?_
    exact wpAny_bind (wpAny_pure (wpAny_bind (wpAny_pure (wpAny_pure h'))))
  | cons p r =>
    obtain ⟨st, t⟩ := p
    rw [hx] at hst h
    simp only [List.all_cons, Bool.and_eq_true, Bool.not_eq_true'] at hst
    have : st = false := by simpa using hst.1
    subst this
    exact evalArgs_plain h

theorem any_backTo {pos : Pos} {l : List (Bool × Sem Value)} (h : l.all (fun x => !x.1) = true) : (backTo pos l).any (·.1) = false := by
  induction l with
  | nil => rfl
  | cons p r ih =>
    obtain ⟨st, t⟩ := p
    simp only [List.all_cons, Bool.and_eq_true, Bool.not_eq_true'] at h
    have h1 : st = false := by simpa using h.1
    subst h1
    show (false || (backTo pos r).any (·.1)) = false
    rw [ih h.2]; rfl

theorem callWith_any {M : Model} {A : Around} {E : Value → Shared → Prop} {s : Shared} {pos : Pos} {f : Value} {first : List Value} {args : List (Bool × Sem Value)} {Q : Value → Shared → Prop} (hplain : args.any (·.1) = false) (hc : Callee C f)
    (h : wpAny M A (evalArgs f true args []) (fun a s₁ => a.kw = [] ∧ (∀ b o, C.W.h₀.get? b = some o → s₁.heap.get? b = some o) ∧ wpAny M A (call f (first ++ a.pos) []) Q E s₁) E s) : wpAny M A (callWith pos f first args []) Q E s := by
  cases hc with
  | fn ho hd => exact callWith_function (wpAny_mono h (fun a s1 h1 => by rw [h1.1]; exact ⟨⟨h1.2.1 _ _ ho, hd⟩, h1.2.2⟩) fun _ _ x => x)
  | bi => exact callWith_builtin hplain (wpAny_mono h (fun a s1 h1 => by rw [h1.1]; exact h1.2.2) fun _ _ x => x)
  | ty => exact PySem.callWith_type hplain (wpAny_mono h (fun a s1 h1 => by rw [h1.1]; exact h1.2.2) fun _ _ x => x)

/-- f(e, ..): f a name -/
theorem ev_call {f : Expr} {es : List Expr} {pos : Pos} {Q : V → St → Prop} (h : Ev C σ f (fun fv σ1 => ∃ w, fv = .val w ∧ Callee C w ∧ EvL C σ1 pos es (fun vs σ2 => OpL C (Rep C.W) (fun ws => call w ws) vs (fun v => Q v σ2))))
    (hst : (starEach es C.env).all (fun x => !x.1) = true := by rfl)
    (he : eval (.Call f es [] pos) C.env = (do callWith pos (← eval f C.env) [] (backTo pos (starEach es C.env)) (backToKw pos (keywordEach [] C.env))) := by rfl) : Ev C σ (.Call f es [] pos) Q := by
  refine Tr.intro' fun F mine T s QQ fin hA => ?_
  rw [he]
  refine wpAny_bind (Tr.then h hA fun vf s1 fv σ1 m1 T1 hq_ p1 a1 r1 => ?_)
  obtain ⟨w, rfl, hc, hQ⟩ := hq_
  cases r1
  refine callWith_any (any_backTo hst) hc (evalArgs_list hst (Tr.then hQ a1 fun ws s2 vs σ2 m2 T2 hQ2 p2 a2 r2 => ?_))
  refine ⟨rfl, a2.ownOk.kb, wpAny_mono (hQ2 _ T2 s2 ws a2.ownOk r2) ?_ fun _ _ x => x⟩
  rintro v s3 ⟨b, T3, q, k, r3⟩
  exact fin _ _ b σ2 m2 T3 q ((p1.trans p2).trans (k.post a2.live)) (a2.keeps k) r3
theorem evF_call {f : Expr} {es : List Expr} {pos : Pos} {Q : Slot → St → Prop} (h : Ev C σ f (fun fv σ1 => ∃ w, fv = .val w ∧ Callee C w ∧ EvL C σ1 pos es (fun vs σ2 => OpLF C (fun ws => call w ws) vs (fun v => Q v σ2))))
    (hst : (starEach es C.env).all (fun x => !x.1) = true := by rfl)
    (he : eval (.Call f es [] pos) C.env = (do callWith pos (← eval f C.env) [] (backTo pos (starEach es C.env)) (backToKw pos (keywordEach [] C.env))) := by rfl) : EvF C σ (eval (.Call f es [] pos) C.env) Q := by
  refine EvF.intro' fun F mine T s QQ fin hA => ?_
  rw [he]
  refine wpAny_bind (Tr.then h hA fun vf s1 fv σ1 m1 T1 hq_ p1 a1 r1 => ?_)
  obtain ⟨w, rfl, hc, hQ⟩ := hq_
  cases r1
  refine callWith_any (any_backTo hst) hc (evalArgs_list hst (Tr.then hQ a1 fun ws s2 vs σ2 m2 T2 hQ2 p2 a2 r2 => ?_))
  refine ⟨rfl, a2.ownOk.kb, wpAny_mono (hQ2 _ T2 s2 ws a2.ownOk r2) ?_ fun _ _ x => x⟩
  rintro v s3 ⟨sl, T3, a, q, ho, k, hn, hs, r3⟩
  obtain ⟨p3, hm, a3, le⟩ := a2.new k hn hs
  exact fin _ _ sl σ2 m2 a T3 q ho ((p1.trans p2).trans p3) hm a3 (r3.mono le fun _ _ _ e => e)

/-- a built-in type's method, found -/
structure MethOk (W : Wd) (a : V) (name : Str) (T id : String) : Prop where
  pa : PlainAttrs T
  slot : PySem.Slot T name id
  hty : typeOf (.builtin id) = pure (.type "method_descriptor")
  is : ∀ (g : PH) (s : Shared) (va : Value), Rep W g a va → (∀ c o, g.ob c = some o → s.heap.get? c = some o) → s.TypeIs va T ∧ ∀ x, va = .ref x → ∃ ob, s.heap.get? x = some ob ∧ ob.dict = none

/-- o.name(e, ..) -/
theorem ev_meth {o : Expr} {name : Str} {apos pos : Pos} {es : List Expr} {Q : V → St → Prop}
    (h : Ev C σ o (fun a σ1 => ∃ T id, MethOk C.W a name T id ∧ EvL C σ1 pos es (fun vs σ2 => OpL C (Rep C.W) (fun ws => call (.builtin id) ws) (a :: vs) (fun v => Q v σ2))))
    (hbase : attributeBase o name C.env (eval o C.env) = eval o C.env) (hst : (starEach es C.env).all (fun x => !x.1) = true) (hline : (apos.endLine == pos.line) = true) (hlen : decide (es.length < 30) = true) :
    Ev C σ (.Call (.Attribute o name apos) es [] pos) Q := by
  refine Tr.intro' fun F mine T s QQ fin hA => ?_
  rw [arm_eval_Call, hbase]
  refine wpAny_bind (Tr.then h hA fun va s1 a σ1 m1 T1 hq_ p1 a1 r1 => ?_)
  obtain ⟨Ty, id, ⟨pa, slot, hty, his⟩, hQ⟩ := hq_
  refine wpAny_bind (wpAny_standAt ?_)
  have hform : methodCallForm (es.length + ([] : List Keyword).length) (backTo pos (starEach es C.env)) (backToKw pos (keywordEach [] C.env)) = true := by
    have h1 : (backTo pos (starEach es C.env)).all (fun x => !x.1) = true := by
      have h2 := any_backTo (pos := pos) hst
      rw [List.any_eq_false] at h2
      exact List.all_eq_true.mpr fun x hx => by simpa using h2 x hx
    unfold methodCallForm
    simp only [h1, Bool.true_and, List.length_nil, Nat.add_zero, List.isEmpty_nil, if_true]
    exact hlen
  have hpos : methodCallPos true o C.env apos pos = pure pos := by unfold methodCallPos; simp [hline]
  obtain ⟨hT, hd⟩ := his _ s1 va r1 fun c o e => view_of e
  unfold methodCall
  rw [hform]
  refine wpAny_bind (wpAny_holding (getMethod_builtin hT pa slot hty hd ?_))
  refine wpAny_bind (wpAny_of_eq hpos ?_)
  refine callWith_builtin (any_backTo hst) (evalArgs_list hst (Tr.then hQ a1 fun ws s2 vs σ2 m2 T2 hQ2 p2 a2 r2 => ?_))
  refine PrimR.then (hQ2 _ T2 s2 (va :: ws) a2.ownOk (.cons (r1.mono p2.le) r2)) fun v s3 b T3 q k r3 => ?_
  exact fin _ _ b σ2 m2 T3 q ((p1.trans p2).trans (k.post a2.live)) (a2.keeps k) r3
/-- x op= e -/
theorem ex_aug {n : Nat} (ok : C.Ok n) {x : String} {p' pos : Pos} {op : Operator} {e : Expr} {Q : Fl → St → Prop} (hx : isHere C (Str.ofString x) = true)
    (h : EvT C σ (loadName C.env (Str.ofString x)) (fun a σ1 => Ev C σ1 e (fun b σ2 => Op2 C (Rep C.W) (inplaceOp op) a b (fun v => Q .next (put σ2 (Str.ofString x) x (.val v)))))) : Ex C σ (.AugAssign (.Name (Str.ofString x) p') op e pos) Q := by
  refine Tr.intro' fun F mine T s QQ fin hA => ?_
  refine wpAny_AugAssign_Name (Tr.then h hA fun va s1 a σ1 m1 T1 hQ p1 a1 r1 => ?_)
  refine Tr.then hQ a1 fun vb s2 b σ2 m2 T2 hQ2 p2 a2 r2 => ?_
  refine PrimR.then (hQ2 _ T2 s2 va vb a2.ownOk (r1.mono p2.le) r2) fun vc s3 c T3 q k r3 => ?_
  exact store_val ok (a2.keeps k) hx r3 fun s4 p4 a4 => fin _ _ .next _ m2 T3 q (((p1.trans p2).trans (k.post a2.live)).trans p4) a4 .next

end
end Sx
end
section
open PySem PySem.W PyProof.Rows PySem.Calls
set_option linter.unusedVariables false
set_option Elab.async false
set_option maxRecDepth 100000
namespace Sx

/-! ## a call of one of the text's own defs -/
noncomputable def fnEnv (scope : Scope) (L a : Addr) (q : Str) (cd : Value) : Env :=
  { scope := scope, locals := L, globals := mainGlobals, cells := cellsFrom (L + 1) scope.names [], qual := q, func := some a, code := cd, frame := some L, builtins := builtinsNs }
noncomputable def fnCx (W : Wd) (A : Around) (scope : Scope) (L a : Addr) (q : Str) (cd : Value) : Cx := { W := W, A := A, env := fnEnv scope L a q cd, ownC := true, X := fun _ _ => False, an := none }

noncomputable def Fl.v : Fl → V
  | .ret v => v
  | _ => .none

theorem cellsFrom_keeps {x : Str} : ∀ (names : List (Str × NameKind)) (n : Nat) (acc : List (Str × Addr)), (acc.lookup x).isSome = true → ((cellsFrom n names acc).lookup x).isSome = true
  | [], _, _, h => h
  | (name, kind) :: r, n, acc, h => by
    unfold cellsFrom
    split
    · refine cellsFrom_keeps r _ _ ?_
      rw [List.lookup_cons]
      cases x == name <;> simp [h]
    · exact cellsFrom_keeps r _ _ h
theorem cellsFrom_has {x : Str} : ∀ (names : List (Str × NameKind)) (n : Nat) (acc : List (Str × Addr)), names.lookup x = some .cell → ((cellsFrom n names acc).lookup x).isSome = true
  | [], _, _, h => by simp at h
  | (name, kind) :: r, n, acc, h => by
    rw [List.lookup_cons] at h
    unfold cellsFrom
    cases hx : x == name with
    | true =>
      rw [hx] at h
      have h : kind = .cell := by simpa using h
      subst h
      show ((cellsFrom (n + 1) r ((name, n) :: acc)).lookup x).isSome = true
      refine cellsFrom_keeps r _ _ ?_
      rw [List.lookup_cons, hx]; rfl
    | false =>
      rw [hx] at h
      split
      · exact cellsFrom_has r _ _ h
      · exact cellsFrom_has r _ _ h

noncomputable def bindV : List (Str × Value) → Option Value → Str → Option Value
  | [], b, _ => b
  | (n, v) :: r, b, x => bindV r (if x = n then some v else b) x

theorem valAt_bind {env : Env} {x : Str} : ∀ (binds : List (Str × Value)) (m cm : Str → Option Value), (∀ y ∈ binds, env.kindOf y.1 = some .local ∨ env.kindOf y.1 = some .cell) →
    valAt env (bindL env.kindOf binds m) (bindC env.kindOf binds cm) x = bindV binds (valAt env m cm x) x
  | [], m, cm, _ => rfl
  | (n, v) :: r, m, cm, h => by
    unfold bindL bindC bindV
    rw [valAt_bind r _ _ fun y hy => h y (List.mem_cons_of_mem _ hy)]
    congr 1
    rcases h (n, v) List.mem_cons_self with hk | hk
    · have hk : env.kindOf n = some .local := hk
      rw [if_pos hk, if_pos hk]; exact valAt_local hk
    · have hk : env.kindOf n = some .cell := hk
      rw [if_neg (by rw [hk]; decide), if_neg (by rw [hk]; decide)]; exact valAt_cell hk

theorem bindV_not {x : Str} : ∀ (binds : List (Str × Value)) (b : Option Value), (∀ p ∈ binds, p.1 ≠ x) → bindV binds b x = b
  | [], _, _ => rfl
  | (n, v) :: r, b, h => by
    unfold bindV
    rw [if_neg (fun e => h (n, v) List.mem_cons_self e.symm)]
    exact bindV_not r b fun p hp => h p (List.mem_cons_of_mem _ hp)

noncomputable def mkSt (ps : List String) (vs : List V) : St := (ps.zip vs).map fun p => (p.1, .val p.2)

theorem find_mkSt {W : Wd} {g : PH} : ∀ (ps : List String) (vs : List V) (ws : List Value) (b : Option Value) (x : Str) (sl : Slot), ps.Nodup → RepL W g vs ws → find (mkSt ps vs) x = some sl →
    ∃ u w, sl = .val u ∧ bindV ((ps.map Str.ofString).zip ws) b x = some w ∧ Rep W g u w
  | [], vs, ws, b, x, sl, _, _, h => by simp [mkSt, find] at h
  | p :: ps, vs, ws, b, x, sl, hn, hr, h => by
    cases hr with
    | nil => simp [mkSt, find] at h
    | @cons v w vs ws h1 h2 =>
      have hn' := List.nodup_cons.mp hn
      simp only [mkSt, List.zip_cons_cons, List.map_cons, find] at h
      simp only [List.map_cons, List.zip_cons_cons, bindV]
      by_cases hx : Str.ofString p = x
      · rw [if_pos hx] at h
        cases h
        refine ⟨v, w, rfl, ?_, h1⟩
        rw [if_pos hx.symm]
        refine bindV_not _ _ fun q hq e => ?_
        obtain ⟨q1, q2⟩ := q
        have := List.of_mem_zip hq
        obtain ⟨p', hp', e'⟩ := List.mem_map.mp this.1
        have : p' = p := ofString_inj.mp (e'.trans (e.trans hx.symm))
        exact hn'.1 (this ▸ hp')
      · rw [if_neg hx] at h
        rw [if_neg (fun e => hx e.symm)]
        exact find_mkSt ps vs ws b x sl hn'.2 h2 h

theorem get_ge {h : Heap} {a : Addr} (e : h.objs.size ≤ a) : h.get? a = none := by
  cases q : h.get? a with
  | none => rfl
  | some o => exact absurd (Heap.lt_size q) (Nat.not_lt.mpr e)

theorem fnCx_ok {W : Wd} {A : Around} {n : Nat} {scope : Scope} {L a : Addr} {q : Str} {cd : Value} (hW : W.Ok) (hh : A.handled = none) (hu : A.units + 3 * n + 100 ≤ 9000) (hd : A.depth + n + 10 ≤ 900) (hk : scope.kind = .function) : (fnCx W A scope L a q cd).Ok n :=
  { W := hW, hh := hh, hu := hu, hd := hd, hk := hk, hg := rfl, hb := rfl, hx := PassesOwn.never }

/-- a def of the text's own, as it stands in the base -/
structure FnAt (W : Wd) (a : Addr) (fd : FuncData) (body : List Stmt) : Prop where
  at_ : ∃ o, W.h₀.get? a = some o ∧ o.data = .func fd
  hbody : fd.body = .stmts body
  hgl : fd.globals = mainGlobals
  hcl : fd.closure = []
  hbn : fd.builtins = builtinsNs
  hcd : W.h₀.CodeRec fd.code fd.qualname
  hco : fd.scope.isCoroutine = false
  hgen : fd.scope.isGenerator = false
  hk : fd.scope.kind = .function

noncomputable def namesOk (scope : Scope) (ps : List String) : Bool :=
  (ps.all fun p => scope.names.lookup (Str.ofString p) == some .local || scope.names.lookup (Str.ofString p) == some .cell) && scope.names.all fun x => x.2 != .free

theorem fn_call {C : Cx} {n : Nat} (ok : C.Ok (n + 1)) {a : Addr} {fd : FuncData} {body : List Stmt} (fn : FnAt C.W a fd body) {ps : List String} {vs dvs : List V} {ds : List Value}
    (hb : ∀ (s : Shared) (ws : List Value), (∀ b o, C.W.h₀.get? b = some o → s.heap.get? b = some o) → ws.length = vs.length → BindsTo s fd ⟨ws, []⟩ ((ps.map Str.ofString).zip (ws ++ ds)))
    (hds : ∀ own T s, OwnOk C own T s → RepL C.W (view own T s) dvs ds)
    (hnd : ps.Nodup) (hnm : namesOk fd.scope ps = true) {K : V → Prop}
    (walk : ∀ A L q cd, (fnCx C.W A fd.scope L a q cd).Ok n → Exs (fnCx C.W A fd.scope L a q cd) (mkSt ps (vs ++ dvs)) body (fun fl _ => K fl.v)) :
    OpL C (Rep C.W) (fun ws => call (.ref a) ws) vs K := by
  intro own T s ws hO hr
  obtain ⟨o, ho, hd⟩ := fn.at_
  have kb := hO.kb
  have hlim : s.heap.NoLimit := ok.W.nolimit.keeps kb
  unfold namesOk at hnm
  rw [Bool.and_eq_true, List.all_eq_true, List.all_eq_true] at hnm
  have hps : ∀ x ∈ (ps.map Str.ofString).zip (ws ++ ds), fd.scope.names.lookup x.1 = some .local ∨ fd.scope.names.lookup x.1 = some .cell := by
    intro x hx
    obtain ⟨x1, x2⟩ := x
    obtain ⟨p, hp, rfl⟩ := List.mem_map.mp (List.of_mem_zip hx).1
    have := hnm.1 p hp
    rw [Bool.or_eq_true, beq_iff_eq, beq_iff_eq] at this
    exact this
  refine wpAny_call (codeAny_call_function (by have := ok.hd; unfold recursionLimit; omega) (kb _ _ ho) hd fn.hco fn.hgen fn.hbody (fn.hcd.keeps kb) (hb s ws kb hr.length _ _ _ _ ?_))
  rw [fn.hgl, fn.hcl, fn.hbn]
  refine wpAny_with_toks (n := s.toks) (Nat.le_refl _) (wpAny_newFunctionEnv_cells fn.hk (fun x hx => ?_) fun env' he s' x htk => ?_)
  · rcases hps x hx with h | h
    · exact .inl h
    · exact .inr ⟨h, cellsFrom_has _ _ _ h⟩
  subst he
  obtain ⟨h₁, tk, rfl, hk₁⟩ := x.done
  refine ⟨hlim.keeps hk₁, codeAny_func ?_⟩
  have okn : (fnCx C.W (C.A.deeper (fnEnv fd.scope s.heap.objs.size a (fd.qualname ++ ".<locals>.") fd.code)) fd.scope s.heap.objs.size a (fd.qualname ++ ".<locals>.") fd.code).Ok n :=
    fnCx_ok ok.W (by exact ok.hh) (by have := ok.hu; show C.A.units + 3 + 3 * n + 100 ≤ 9000; omega) (by have := ok.hd; show C.A.depth + 1 + n + 10 ≤ 900; omega) fn.hk
  obtain ⟨cs, hcs⟩ : ∃ cs, cellsFrom (s.heap.objs.size + 1) fd.scope.names [] = cs := ⟨_, rfl⟩
  have hcs' : (fnEnv fd.scope s.heap.objs.size a (fd.qualname ++ ".<locals>.") fd.code).cells = cs := hcs
  have hcell : ∀ z c, cs.lookup z = some c → h₁.IsCell c (bindC (fnEnv fd.scope s.heap.objs.size a (fd.qualname ++ ".<locals>.") fd.code).kindOf ((ps.map Str.ofString).zip (ws ++ ds)) (fun _ => none) z) := fun z c e => x.cell z c (hcs ▸ e)
  have hab : ∀ z c, (z, c) ∈ cs → s.heap.objs.size < c := fun z c e => x.above z c (hcs ▸ e)
  have hap : cs.Pairwise fun x y => x.2 ≠ y.2 := by have := x.apart; exact hcs ▸ this
  have hns : h₁.Ns s.heap.objs.size (bindL (fnEnv fd.scope s.heap.objs.size a (fd.qualname ++ ".<locals>.") fd.code).kindOf ((ps.map Str.ofString).zip (ws ++ ds)) (fun _ => none)) := x.toInCall.ns
  have hmm : ∀ b ∈ s.heap.objs.size :: cs.filterMap (fun p => cs.lookup p.1), b = s.heap.objs.size ∨ ∃ z, cs.lookup z = some b := by
    intro b hb
    rcases List.mem_cons.mp hb with rfl | hb
    · exact .inl rfl
    · obtain ⟨p, hp, e⟩ := List.mem_filterMap.mp hb
      exact .inr ⟨p.1, e⟩
  have hmine : ∀ b ∈ s.heap.objs.size :: cs.filterMap (fun p => cs.lookup p.1), s.heap.get? b = none := by
    intro b hb
    rcases hmm b hb with rfl | ⟨z, hz⟩
    · exact fresh_size _
    · exact get_ge (Nat.le_of_lt (hab z b (mem_of_lookup hz)))
  have hcm : ∀ z c, cs.lookup z = some c → c ∈ s.heap.objs.size :: cs.filterMap (fun p => cs.lookup p.1) := fun z c e =>
    List.mem_cons_of_mem _ (List.mem_filterMap.mpr ⟨(z, c), mem_of_lookup e, e⟩)
  have le0 : Le (view own T s) (view (own ++ (s.heap.objs.size :: cs.filterMap (fun p => cs.lookup p.1))) T { s with heap := h₁, toks := tk }) := by
    refine ⟨fun b o e => view_mk (fun hm => ?_) (hk₁ b o (view_of e)), fun _ _ e => e⟩
    rcases List.mem_append.mp hm with hm | hm
    · exact view_not e hm
    · have := hmine b hm; rw [view_of e] at this; cases this
  have habs : Abs (fnCx C.W (C.A.deeper (fnEnv fd.scope s.heap.objs.size a (fd.qualname ++ ".<locals>.") fd.code)) fd.scope s.heap.objs.size a (fd.qualname ++ ".<locals>.") fd.code) own
      (s.heap.objs.size :: cs.filterMap (fun p => cs.lookup p.1)) T (mkSt ps (vs ++ dvs)) { s with heap := h₁, toks := tk } := by
    refine ⟨fun b o e => le0.ob b o (hO.base b o e), fun b hb => ?_, fun b hb hF => ?_, hO.tok.mono htk,
      bindL (fnEnv fd.scope s.heap.objs.size a (fd.qualname ++ ".<locals>.") fd.code).kindOf ((ps.map Str.ofString).zip (ws ++ ds)) (fun _ => none), bindC (fnEnv fd.scope s.heap.objs.size a (fd.qualname ++ ".<locals>.") fd.code).kindOf ((ps.map Str.ofString).zip (ws ++ ds)) (fun _ => none), ?_⟩
    · rcases List.mem_append.mp hb with hb | hb
      · obtain ⟨o, ho⟩ := Option.isSome_iff_exists.mp (hO.live b hb)
        show (h₁.get? b).isSome = true
        rw [hk₁ _ _ ho]; rfl
      · rcases hmm b hb with rfl | ⟨z, hz⟩
        · obtain ⟨o, _, _, ho, _⟩ := hns
          show (h₁.get? s.heap.objs.size).isSome = true
          rw [ho]; rfl
        · obtain ⟨o, ho, _⟩ := hcell z b hz
          show (h₁.get? b).isSome = true
          rw [ho]; rfl
    · have := hmine b hb
      have h2 := hO.live b hF
      rw [this] at h2; cases h2
    · refine { ns := hns, cells := fun z c e => hcell z c (hcs' ▸ e), apart := fun z y c e1 e2 => ?_, lc := fun z c e => ?_, has := fun z hz => ?_, lm := List.mem_cons_self, cown := fun z c e => List.mem_append_right _ (hcm z c (hcs' ▸ e)), cmine := fun _ z c e => hcm z c (hcs' ▸ e), slots := ?_, own := ?_, dis := ?_ }
      · exact name_of_addr hap (mem_of_lookup (hcs' ▸ e1)) (mem_of_lookup (hcs' ▸ e2))
      · exact Nat.ne_of_gt (hab z c (mem_of_lookup (hcs' ▸ e)))
      · rcases hz with hz | hz
        · have := cellsFrom_has fd.scope.names (s.heap.objs.size + 1) [] hz
          exact Option.isSome_iff_exists.mp this
        · have hz : fd.scope.names.lookup z = some .free := hz
          have := hnm.2 _ (mem_of_lookup hz)
          simp at this
      · intro z sl hz
        obtain ⟨u, v, rfl, e1, e2⟩ := find_mkSt ps (vs ++ dvs) (ws ++ ds) none z sl hnd (hr.append (hds own T s hO)) hz
        refine ⟨v, .inl ?_, e2.mono le0⟩
        refine (valAt_bind (env := fnEnv fd.scope s.heap.objs.size a (fd.qualname ++ ".<locals>.") fd.code) _ _ _ hps).trans ?_
        have : valAt (fnEnv fd.scope s.heap.objs.size a (fd.qualname ++ ".<locals>.") fd.code) (fun _ => none) (fun _ => none) z = none := by unfold valAt; split <;> rfl
        rw [this]
        exact e1
      · intro z sl b hz ho
        obtain ⟨u, v, rfl, _⟩ := find_mkSt ps (vs ++ dvs) (ws ++ ds) none z sl hnd (hr.append (hds own T s hO)) hz
        cases ho
      · intro z y sl sl' b hz _ ho
        obtain ⟨u, v, rfl, _⟩ := find_mkSt ps (vs ++ dvs) (ws ++ ds) none z sl hnd (hr.append (hds own T s hO)) hz
        cases ho
  refine wpAny_mono (walk _ _ _ _ okn own _ T _ habs) ?_ fun _ _ x => x.elim
  rintro f s2 ⟨fl, σ2, m2, T2, hK, p2, a2, r2⟩
  refine ⟨fl.v, T2, hK, ⟨?_, fun b o e => ?_, fun t l e => p2.le.tk t l e, a2.tok⟩, ?_⟩
  · obtain ⟨h', tk', rfl⟩ := p2.same
    exact ⟨h', tk', rfl⟩
  · by_cases hb : b ∈ own
    · exact (p2.far b hb).trans (hk₁ b o e)
    · exact view_of (p2.le.ob b o (le0.ob b o (view_mk hb e)))
  · have sub : Le (view (own ++ m2) T2 s2) (view own T2 s2) := view_sub fun b hb => List.mem_append_left _ hb
    cases r2 with
    | next => exact .none
    | brk => exact .none
    | cont => exact .none
    | ret r => exact r.mono sub

/-- the usual bindings: a def without defaults, all arguments given by place -/
theorem binds_plain {fd : FuncData} {ps : List String} {n : Nat} (h : ∀ ws : List Value, ws.length = n → bindArgs fd ⟨ws, []⟩ = pure ((ps.map Str.ofString).zip ws)) (s : Shared) (ws : List Value) (hl : ws.length = n) :
    BindsTo s fd ⟨ws, []⟩ ((ps.map Str.ofString).zip (ws ++ [])) := by
  rw [List.append_nil]
  exact .of_eq (h ws hl)

end Sx
end
section
open PySem PySem.W PyProof.Rows PySem.Calls
set_option linter.unusedVariables false
set_option Elab.async false
set_option maxRecDepth 100000
namespace Sx

/-! ## what may be run through -/
noncomputable def seqOf : V → Option (List V)
  | .lst vs => some vs
  | .tup vs => some vs
  | .str l => some (l.map fun c => .str [c])
  | .dct es => some (es.map fun p => p.1.v)
  | .rng a b => some ((List.range (b - a).toNat).map fun (i : Nat) => V.int (a + (i : Int)))
  | .items es => some (es.map fun p => .tup [p.1.v, p.2])
  | _ => none

section
variable {prog : Program} {w : World} {A : Around} {E : Value → Shared → Prop} {s : Shared}

/-- the key iterator hands out the very key of the entry -/
theorem next_key {it d : Addr} {i ep : Nat} {od : Obj} {ds : List DictEntry} {e : DictEntry} {Q : Option Value → Shared → Prop} (hit : s.heap.IsKeyIter it d i ds.length ep)
    (hod : s.heap.get? d = some od) (hdd : od.data = .dict ds.toArray ep) (hx : ds[i]? = some e)
    (hQ : ∀ h', h'.IsKeyIter it d (i + 1) ds.length ep → Heap.SameBut it s.heap h' → Q (some e.key) { s with heap := h' }) : wpAny (model prog w) A (pyNext (.ref it)) Q E s := by
  have tn : ∀ {A' : Around} {E' : Value → Shared → Prop} {Q' : String → Shared → Prop}, Q' "dict_keyiterator" s → wpAny (model prog w) A' (typeNameOfWhole (.ref it)) Q' E' s := fun h => wpAny_typeNameOfWhole_keyiter hit.typeIs h
  obtain ⟨o, ho, hc, hd⟩ := id hit
  unfold pyNext
  refine wpAny_bind (wpAny_attempt (wpAny_callSpecial?_slot (name := Str.ofString "__next__") hit.typeIs F.slot_dict_keyiterator_next
    (wpAny_call_entry F.slot_dict_keyiterator_next hit.typeIs F.entry_dict_keyiterator_next ?_ (F.args_dict_keyiterator_next_1 _))))
  refine wpAny_bind (wpAny_pure (wpAny_bind (wpAny_bind (wpAny_bind (tn (wpAny_pure (wpAny_bind ?_)))))))
  refine wpAny_fieldsOf ho hd ?_
  rw [show Builtin.Dict_items.ownsTuple "dict_keyiterator" = false from by decide]
  show wpAny _ _ (if (Value.ref d == Value.none) = true then _ else _) _ _ s
  rw [if_neg (show ¬ ((Value.ref d == Value.none) = true) from Bool.false_ne_true)]
  refine wpAny_bind (wpAny_pure (wpAny_bind (wpAny_dictEntries hod hdd ?_)))
  rw [if_neg (by simp)]
  refine wpAny_bind (wpAny_pure (wpAny_bind (wpAny_dictEpoch hod hdd ?_)))
  rw [if_neg (by simp)]
  refine wpAny_pure ?_
  have hx' : (ds.toArray)[i]? = some e := by simpa using hx
  simp only [show ¬ ((i : Int) < 0) from by omega, if_false, Int.toNat_natCast, hx']
  refine wpAny_bind (wpAny_bind (tn (wpAny_pure (wpAny_bind (wpAny_isOneOf_keyiter hit.typeIs ?_)))))
  show wpAny _ _ (setField (.ref it) 1 (rawInt ((i : Int) + 1)) >>= _) _ _ s
  refine wpAny_bind (wpAny_setField ho hd (by simp) ?_)
  have hit' : (s.heap.update it (Obj.mapFields (·.setIfInBounds 1 (rawInt ((i : Int) + 1))))).IsKeyIter it d (i + 1) ds.length ep :=
    ⟨_, Heap.get?_update_self _ ho (Obj.isFreed_of_fields (Obj.data_mapFields hd _)), (Obj.cls_mapFields ..).trans hc, by rw [Obj.data_mapFields hd]; simp [rawInt]⟩
  refine wpAny_bind (wpAny_holding (wpAny_bind (wpAny_isOneOf_keyiter (s := { s with heap := s.heap.update it (Obj.mapFields (·.setIfInBounds 1 (rawInt ((i : Int) + 1)))) }) hit'.typeIs ?_)))
  show wpAny _ _ (pure e.key) _ _ _
  exact wpAny_pure (wpAny_pure ⟨_, rfl, wpAny_pure (hQ _ hit' (Heap.SameBut.update ..))⟩)

/-- the items' iterator hands out a new pair of the very key and value -/
theorem next_item {it d : Addr} {i ep : Nat} {ok ov : Value} {od : Obj} {ds : List DictEntry} {e : DictEntry} {Q : Option Value → Shared → Prop} (hit : IsItemIter s.heap it d i ds.length ep ok ov)
    (hod : s.heap.get? d = some od) (hdd : od.data = .dict ds.toArray ep) (hx : ds[i]? = some e)
    (hQ : ∀ h', IsItemIterOut h' it d (i + 1) ds.length ep e.key e.val s.heap.objs.size → h'.get? s.heap.objs.size = some { cls := .type "tuple", data := .seq #[e.key, e.val] } →
      (∀ b o, b ≠ it → s.heap.get? b = some o → h'.get? b = some o) → Q (some (.ref s.heap.objs.size)) { s with heap := h' }) : wpAny (model prog w) A (pyNext (.ref it)) Q E s := by
  have hT : s.TypeIs (.ref it) "dict_itemiterator" := ⟨_, hit, rfl⟩
  have tn : ∀ {A' : Around} {E' : Value → Shared → Prop} {Q' : String → Shared → Prop}, Q' "dict_itemiterator" s → wpAny (model prog w) A' (typeNameOfWhole (.ref it)) Q' E' s := fun h => wpAny_typeNameOfWhole_itemiter hT h
  unfold pyNext
  refine wpAny_bind (wpAny_attempt (wpAny_callSpecial?_slot (name := Str.ofString "__next__") hT F.slot_dict_itemiterator_next
    (wpAny_call_entry F.slot_dict_itemiterator_next hT F.entry_dict_itemiterator_next ?_ (F.args_dict_itemiterator_next_1 _))))
  refine wpAny_bind (wpAny_pure (wpAny_bind (wpAny_bind (wpAny_bind (tn (wpAny_pure (wpAny_bind ?_)))))))
  refine wpAny_fieldsOf hit rfl ?_
  rw [show Builtin.Dict_items.ownsTuple "dict_itemiterator" = true from by decide]
  show wpAny _ _ (if (Value.ref d == Value.none) = true then _ else _) _ _ s
  rw [if_neg (show ¬ ((Value.ref d == Value.none) = true) from Bool.false_ne_true)]
  refine wpAny_bind (wpAny_pure (wpAny_bind (wpAny_dictEntries hod hdd ?_)))
  rw [if_neg (by simp)]
  refine wpAny_bind (wpAny_pure (wpAny_bind (wpAny_dictEpoch hod hdd ?_)))
  rw [if_neg (by simp)]
  refine wpAny_pure ?_
  have hx' : (ds.toArray)[i]? = some e := by simpa using hx
  simp only [show ¬ ((i : Int) < 0) from by omega, if_false, Int.toNat_natCast, hx']
  refine wpAny_bind (wpAny_bind (tn (wpAny_pure (wpAny_bind (wpAny_isOneOf_itemiter hT ?_)))))
  show wpAny _ _ (setField (.ref it) 3 (rawInt ((i : Int) + 1)) >>= _) _ _ s
  have hil : it < s.heap.objs.size := Heap.lt_size hit
  refine wpAny_bind (wpAny_setField_rec hit (by simp) fun h₁ he₁ hs₁ => ?_)
  replace he₁ : IsItemIter h₁ it d (i + 1) ds.length ep ok ov := by
    have e : ((i + 1 : Nat) : Int) = (i : Int) + 1 := by omega
    unfold IsItemIter; rw [e]; simpa [rawInt] using he₁
  have hT₁ : Shared.TypeIs { s with heap := h₁ } (.ref it) "dict_itemiterator" := ⟨_, he₁, rfl⟩
  refine wpAny_bind (wpAny_holding (wpAny_bind (wpAny_isOneOf_itemiter hT₁ (wpAny_bind (wpAny_isOneOf_itemiter hT₁ ?_)))))
  show wpAny _ _ (Builtin.Dict_items.pairFromOwner (.ref it) 6 e.key e.val) _ _ { s with heap := h₁ }
  have hz : h₁.objs.size = s.heap.objs.size := hs₁.1
  refine wpAny_bind (wpAny_newTuple ?_)
  have he₂ : IsItemIter (h₁.push { cls := .type "tuple", data := .seq #[e.key, e.val] }) it d (i + 1) ds.length ep ok ov := Heap.get?_push_of_some _ he₁
  obtain ⟨h₂, hh₂⟩ : ∃ h₂, h₁.push { cls := .type "tuple", data := .seq #[e.key, e.val] } = h₂ := ⟨_, rfl⟩
  have ht₂ : h₂.get? s.heap.objs.size = some { cls := .type "tuple", data := .seq #[e.key, e.val] } := by rw [← hh₂, ← hz]; exact Heap.get?_push_size _ rfl
  have hk₂ : ∀ b o, b ≠ it → s.heap.get? b = some o → h₂.get? b = some o := fun b o hb e => by rw [← hh₂]; exact Heap.get?_push_of_some _ (hs₁.extBut b o hb e)
  rw [hh₂] at he₂
  show wpAny _ _ (Builtin.Dict_items.ownedTupleIsFree (.ref it) >>= _) _ _ { s with heap := h₁.push { cls := .type "tuple", data := .seq #[e.key, e.val] } }
  rw [hh₂, hz]
  refine wpAny_bind (wpAny_bind (wpAny_field he₂ rfl (x := .none) rfl (wpAny_pure ?_)))
  rw [if_pos rfl]
  refine wpAny_bind (wpAny_field he₂ rfl (x := ok) rfl (wpAny_bind (wpAny_field he₂ rfl (x := ov) rfl ?_)))
  refine wpAny_bind (wpAny_setField_rec he₂ (by simp) fun h₃ he₃ hs₃ => ?_)
  refine wpAny_bind (wpAny_setField_rec he₃ (by simp) fun h₄ he₄ hs₄ => ?_)
  refine wpAny_bind (wpAny_setField_rec he₄ (by simp) fun h₅ he₅ hs₅ => ?_)
  refine wpAny_bind (wpAny_setField_rec he₅ (by simp) fun h₆ he₆ hs₆ => ?_)
  have up : ∀ b o, b ≠ it → h₂.get? b = some o → h₆.get? b = some o := fun b o hb e => hs₆.extBut b o hb (hs₅.extBut b o hb (hs₄.extBut b o hb (hs₃.extBut b o hb e)))
  exact wpAny_bind (wpAny_letGo (wpAny_pure (wpAny_pure ⟨_, rfl, wpAny_pure (hQ h₆ he₆ (up _ _ (Nat.ne_of_gt hil) ht₂) fun b o hb e => up b o hb (hk₂ b o hb e))⟩)))

theorem letGo_plain {target : Expr} {I : Addr} {v : Value} {o : Obj} {n : String} {Q : Unit → Shared → Prop} (ho : s.heap.get? I = some o) (hc : o.cls = .type n)
    (hn : ["enumerate", "zip", "dict_itemiterator", "dict_reverseitemiterator", "odict_iterator", "itertools.zip_longest", "itertools.pairwise"].contains n = false) (h : Q () s) : wpAny (model prog w) A (letOwnedTupleGo target (.ref I) v) Q E s := by
  have core : ∀ a, wpAny (model prog w) A (do
      let o ← load I
      match o.cls, o.data with
      | .type n, .fields vs =>
        if (["enumerate", "zip", "dict_itemiterator", "dict_reverseitemiterator", "odict_iterator", "itertools.zip_longest", "itertools.pairwise"].contains n && vs[0]? == some (rawInt a)) = true then do
          rule "for.unpacks-the-owned-tuple"
          updateField I 0 .none
        else pure ()
      | _, _ => pure ()) Q E s := by
    intro a
    refine wpAny_bind (wpAny_load ho ?_)
    rw [hc]
    cases o.data with
    | fields vs =>
      show wpAny _ _ (if (["enumerate", "zip", "dict_itemiterator", "dict_reverseitemiterator", "odict_iterator", "itertools.zip_longest", "itertools.pairwise"].contains n && vs[0]? == some (rawInt a)) = true then _ else _) _ _ _
      rw [hn, Bool.false_and, if_neg Bool.false_ne_true]
      exact wpAny_pure h
    | _ => exact wpAny_pure h
  unfold letOwnedTupleGo
  cases target with
  | Tuple es k p =>
    cases v with
    | ref a => exact core a
    | _ => exact wpAny_pure h
  | List es p =>
    cases v with
    | ref a => exact core a
    | _ => exact wpAny_pure h
  | _ => exact wpAny_pure h
end

/-- an iterator at I over what stands for the items xs -/
structure Itr (W : Wd) (A : Around) (target : Expr) (I : Addr) (g0 : PH) (xs : List V) (fp : List Addr) (St : Nat → Heap → Prop) (Mid : Nat → Value → Heap → Prop) : Prop where
  self : I ∈ fp
  live : ∀ i h, St i h → (h.get? I).isSome = true
  frame : ∀ i h h', St i h → (∀ b ∈ fp, ∀ o, h.get? b = some o → h'.get? b = some o) → St i h'
  item : ∀ i x own T (s : Shared) (Q : Option Value → Shared → Prop) (E : Value → Shared → Prop), xs[i]? = some x → St i s.heap → I ∈ own → TOk T s.toks → (∀ a ∈ own, (s.heap.get? a).isSome = true) → Le g0 (view own T s) →
    (∀ v h' tk T', s.toks ≤ tk → Mid i v h' → (∀ b o, b ≠ I → s.heap.get? b = some o → h'.get? b = some o) → TLe T T' → TOk T' tk → (∀ T'' s'', TLe T' T'' → (∀ b o, b ∉ own → h'.get? b = some o → s''.heap.get? b = some o) → Rep W (view own T'' s'') x v) → Q (some v) { s with heap := h', toks := tk }) →
    wpAny (model W.prog W.w) A (pyNext (.ref I)) Q E s
  go : ∀ i v (s : Shared) (Q : Unit → Shared → Prop) (E : Value → Shared → Prop), Mid i v s.heap → (∀ h', St (i + 1) h' → (∀ b o, b ≠ I → s.heap.get? b = some o → h'.get? b = some o) → Q () { s with heap := h' }) →
    wpAny (model W.prog W.w) A (letOwnedTupleGo target (.ref I) v) Q E s
  iter : ∀ i (s : Shared) (Q : Value → Shared → Prop) (E : Value → Shared → Prop), St i s.heap → Q (.ref I) s → wpAny (model W.prog W.w) A (pyIter (.ref I)) Q E s
  done : ∀ (s : Shared) (Q : Option Value → Shared → Prop) (E : Value → Shared → Prop), St xs.length s.heap → (∀ h', (∀ b o, b ≠ I → s.heap.get? b = some o → h'.get? b = some o) → Q none { s with heap := h' }) →
    wpAny (model W.prog W.w) A (pyNext (.ref I)) Q E s

noncomputable def isPair : Expr → Bool
  | .Tuple _ _ _ => true
  | _ => false

section
variable {W : Wd} {A : Around} {target : Expr} {E : Value → Shared → Prop}

theorem itr_list {own : List Addr} {T : TM} {s : Shared} {vs : List V} {v : Value} (hh : A.handled = none) (hr : Rep W (view own T s) (.lst vs) v) {Q : Value → Shared → Prop}
    (hQ : ∀ I h' fp St Mid, s.heap.get? I = none → (∀ b o, s.heap.get? b = some o → h'.get? b = some o) → Itr W A target I (view own T s) vs fp St Mid → St 0 h' → (∀ b ∈ fp, b ≠ I → ∃ o, (view own T s).ob b = some o) → Q (.ref I) { s with heap := h' }) :
    wpAny (model W.prog W.w) A (pyIter v) Q E s := by
  cases hr with
  | @lst a o _ ws n h1 h2 h3 h4 r =>
    have hl : s.heap.IsList a ws.toArray := ⟨o, view_of h1, h2, n, h4⟩
    have hne : a ≠ s.heap.objs.size := Nat.ne_of_lt (Heap.lt_size (view_of h1))
    refine wpAny_pyIter_list hl (hQ s.heap.objs.size _ [s.heap.objs.size, a] (fun i h => h.IsListIter s.heap.objs.size a i ∧ h.IsList a ws.toArray) (fun i _ h => h.IsListIter s.heap.objs.size a (i + 1) ∧ h.IsList a ws.toArray)
      (fresh_size _) (fun b o e => Heap.get?_push_of_some _ e) ?_ ⟨⟨_, Heap.get?_push_size _ rfl, rfl, rfl⟩, hl.push _⟩ ?_)
    · refine { self := by simp, live := fun i h st => let ⟨o, ho, _⟩ := st.1; by rw [ho]; rfl, frame := fun i h h' st k => ⟨st.1.at fun o e => k _ (by simp) o e, st.2.at fun o e => k _ (by simp) o e⟩, item := ?_, go := ?_, iter := fun i s' Q' E' st h => wpAny_pyIter_listiter st.1 h, done := ?_ }
      · intro i x own' T' s' Q' E' hx st hI ht hlv hle hQ'
        obtain ⟨w, hw, hxw⟩ := r.get hx
        refine wpAny_pyNext_list_item st.1 st.2 (x := w) (by simpa using hw) fun h' hit' hs' => ?_
        refine hQ' w h' s'.toks T' (Nat.le_refl _) ⟨hit', st.2.extBut hs'.extBut hne⟩ (fun b o hb e => hs'.extBut b o hb e) (fun _ _ e => e) ht fun T'' s'' hT k => ?_
        refine hxw.mono (hle.trans ⟨fun b o e => view_mk (view_not e) (k b o (view_not e) (hs'.extBut b o (fun q => view_not e (q ▸ hI)) (view_of e))), hT⟩)
      · intro i v s' Q' E' hm hQ'
        obtain ⟨o, ho, hc, hd⟩ := id hm.1
        exact letGo_plain ho hc (by decide) (hQ' s'.heap hm fun _ _ _ e => e)
      · intro s' Q' E' st hQ'
        exact wpAny_pyNext_list_end hh st.1 st.2 (by simp [r.length]) fun h' he' => hQ' h' fun b o hb e => he' b o hb e
    · intro b hb hne
      simp at hb
      rcases hb with rfl | rfl
      · exact absurd rfl hne
      · exact ⟨o, h1⟩

theorem itr_str {own : List Addr} {T : TM} {s : Shared} {l : S} {v : Value} (hh : A.handled = none) (hr : Rep W (view own T s) (.str l) v) {Q : Value → Shared → Prop}
    (hQ : ∀ I h' fp St Mid, s.heap.get? I = none → (∀ b o, s.heap.get? b = some o → h'.get? b = some o) → Itr W A target I (view own T s) (l.map fun c => V.str [c]) fp St Mid → St 0 h' → (∀ b ∈ fp, b ≠ I → ∃ o, (view own T s).ob b = some o) → (I = s.heap.objs.size ∧ fp = [I] ∧ (∀ i v h, Mid i v h → St (i + 1) h) ∧ ∃ ty, (ty = "str_ascii_iterator" ∨ ty = "str_iterator") ∧ ∀ i h, St i h → ∃ o, h.get? I = some o ∧ o.cls = .type ty) → Q (.ref I) { s with heap := h' }) :
    wpAny (model W.prog W.w) A (pyIter v) Q E s := by
  cases hr with
  | @str _ t htk =>
    have go : ∀ (ty : String), ["enumerate", "zip", "dict_itemiterator", "dict_reverseitemiterator", "odict_iterator", "itertools.zip_longest", "itertools.pairwise"].contains ty = false →
        (∀ {A : Around} {E : Value → Shared → Prop} {s : Shared} {it : Addr} {i c : Nat} {Q : Option Value → Shared → Prop}, s.heap.IsStrIter it ty (mkS l) t i → (mkS l).cps[i]? = some c →
          (∀ h', h'.IsStrIter it ty (mkS l) t (i + 1) → Heap.SameBut it s.heap h' → Q (some (.str ⟨#[c]⟩ s.toks)) { s with heap := h', toks := s.toks + 1 }) → wpAny (model W.prog W.w) A (pyNext (.ref it)) Q E s) →
        (∀ {A : Around} {E : Value → Shared → Prop} {s : Shared} {it : Addr} {i : Nat} {Q : Value → Shared → Prop}, s.heap.IsStrIter it ty (mkS l) t i → Q (.ref it) s → wpAny (model W.prog W.w) A (pyIter (.ref it)) Q E s) →
        (∀ {A : Around} {E : Value → Shared → Prop} {s : Shared} {it : Addr} {i : Nat} {Q : Option Value → Shared → Prop}, A.handled = none → s.heap.IsStrIter it ty (mkS l) t i → (mkS l).cps[i]? = none →
          (∀ h', Heap.ExtBut it s.heap h' → Q none { s with heap := h' }) → wpAny (model W.prog W.w) A (pyNext (.ref it)) Q E s) →
        ∀ I, Itr W A target I (view own T s) (l.map fun c => V.str [c]) [I] (fun i h => h.IsStrIter I ty (mkS l) t i) (fun i _ h => h.IsStrIter I ty (mkS l) t (i + 1)) := by
      intro ty hty hitem hiter hdone I
      refine { self := by simp, live := fun i h st => let ⟨o, ho, _⟩ := st; by rw [ho]; rfl, frame := fun i h h' st k => let ⟨o, ho, r⟩ := st; ⟨o, k _ (by simp) o ho, r⟩, item := ?_, go := ?_, iter := fun i s' Q' E' st h => hiter st h, done := ?_ }
      · intro i x own' T' s' Q' E' hx st hI ht hlv hle hQ'
        rw [List.getElem?_map] at hx
        obtain ⟨c, hc, rfl⟩ := Option.map_eq_some_iff.mp hx
        refine hitem st (c := c) (by simpa [mkS] using hc) fun h' hit' hs' => ?_
        refine hQ' _ h' (s'.toks + 1) (T'.upd s'.toks [c]) (Nat.le_succ _) hit' (fun b o hb e => hs'.extBut b o hb e) (ht.updLe _) (ht.upd _) fun T'' s'' hT k => ?_
        exact .str (hT _ _ TM.upd_self)
      · intro i v s' Q' E' hm hQ'
        obtain ⟨o, ho, hc, hd⟩ := id hm
        exact letGo_plain ho hc hty (hQ' s'.heap hm fun _ _ _ e => e)
      · intro s' Q' E' st hQ'
        exact hdone hh st (by simp [mkS]) fun h' he' => hQ' h' fun b o hb e => he' b o hb e
    have fin : ∀ b ∈ [s.heap.objs.size], b ≠ s.heap.objs.size → ∃ o, (view own T s).ob b = some o := fun b hb hne => absurd (by simpa using hb) hne
    cases ha : (mkS l).cps.all (· < 128) with
    | false => exact wpAny_pyIter_wide ha (hQ _ _ _ _ _ (fresh_size _) (fun b o e => Heap.get?_push_of_some _ e) (go "str_iterator" (by decide) (fun st hx h => wpAny_pyNext_wide_item st hx h) (fun st h => wpAny_pyIter_striter_wide st h) (fun hh st hx h => wpAny_pyNext_wide_end hh st hx h) _) ⟨_, Heap.get?_push_size _ rfl, rfl, rfl⟩ fin ⟨rfl, rfl, fun _ _ _ h => h, _, .inr rfl, fun i h st => let ⟨o, ho, hc, _⟩ := st; ⟨o, ho, hc⟩⟩)
    | true => exact wpAny_pyIter_ascii ha (hQ _ _ _ _ _ (fresh_size _) (fun b o e => Heap.get?_push_of_some _ e) (go "str_ascii_iterator" (by decide) (fun st hx h => wpAny_pyNext_ascii_item st hx h) (fun st h => wpAny_pyIter_striter_ascii st h) (fun hh st hx h => wpAny_pyNext_ascii_end hh st hx h) _) ⟨_, Heap.get?_push_size _ rfl, rfl, rfl⟩ fin ⟨rfl, rfl, fun _ _ _ h => h, _, .inl rfl, fun i h st => let ⟨o, ho, hc, _⟩ := st; ⟨o, ho, hc⟩⟩)

theorem itr_rng {own : List Addr} {T : TM} {s : Shared} {a b : Int} {v : Value} (hh : A.handled = none) (hsm : Builtin.Range.small a b 1 = true) (hr : Rep W (view own T s) (.rng a b) v) {Q : Value → Shared → Prop}
    (hQ : ∀ I h' fp St Mid, s.heap.get? I = none → (∀ b o, s.heap.get? b = some o → h'.get? b = some o) → Itr W A target I (view own T s) ((List.range (b - a).toNat).map fun (i : Nat) => V.int (a + (i : Int))) fp St Mid → St 0 h' → (∀ b ∈ fp, b ≠ I → ∃ o, (view own T s).ob b = some o) → Q (.ref I) { s with heap := h' }) :
    wpAny (model W.prog W.w) A (pyIter v) Q E s := by
  cases hr with
  | @rng r _ _ t u v' h1 =>
    have hsz : Builtin.Range.rangeSize a b 1 = ((b - a).toNat : Int) := by
      unfold Builtin.Range.rangeSize
      rw [if_pos (by decide)]
      by_cases h : a < b
      · rw [if_pos h, Int.ediv_one]; omega
      · rw [if_neg h]; omega
    refine wpAny_pyIter_range (view_of h1) hsm ?_
    rw [hsz]
    refine hQ s.heap.objs.size _ [s.heap.objs.size] (fun i h => IsRangeIter h s.heap.objs.size (a + (i : Nat)) (((b - a).toNat : Int) - (i : Nat)) 1) (fun i _ h => IsRangeIter h s.heap.objs.size (a + ((i + 1 : Nat) : Int)) (((b - a).toNat : Int) - ((i + 1 : Nat) : Int)) 1)
      (fresh_size _) (fun b o e => Heap.get?_push_of_some _ e) ?_ (by
        have e1 : a + ((0 : Nat) : Int) = a := by omega
        have e2 : ((b - a).toNat : Int) - ((0 : Nat) : Int) = ((b - a).toNat : Int) := by omega
        rw [e1, e2]; exact Heap.get?_push_size _ rfl) (fun b hb hne => absurd (by simpa using hb) hne)
    refine { self := by simp, live := fun i h st => by rw [st]; rfl, frame := fun i h h' st k => k _ (by simp) _ st, item := ?_, go := ?_, iter := fun i s' Q' E' st h => wpAny_pyIter_rangeiter st h, done := ?_ }
    · intro i x own' T' s' Q' E' hx st hI ht hlv hle hQ'
      have hi := (List.getElem?_eq_some_iff.mp hx).1
      rw [List.length_map, List.length_range] at hi
      rw [List.getElem?_map, List.getElem?_range hi] at hx
      cases hx
      obtain ⟨c, rfl⟩ : ∃ c, c = i := ⟨i, rfl⟩
      refine wpAny_pyNext_range_item st (by omega) fun h' hit' hs' => ?_
      refine hQ' _ h' (s'.toks + 1) T' (Nat.le_succ _) ?_ (fun b o hb e => hs'.extBut b o hb e) (fun _ _ e => e) (ht.mono (Nat.le_succ _)) fun T'' s'' hT k => .int _ _
      have e1 : a + (c : Int) + 1 = a + ((c + 1 : Nat) : Int) := by omega
      have e2 : (((b - a).toNat : Int) - (c : Int)) - 1 = ((b - a).toNat : Int) - ((c + 1 : Nat) : Int) := by omega
      rw [← e1, ← e2]; exact hit'
    · intro i v s' Q' E' hm hQ'
      exact letGo_plain hm rfl (by decide) (hQ' s'.heap hm fun _ _ _ e => e)
    · intro s' Q' E' st hQ'
      exact wpAny_pyNext_range_end hh st (by simp) fun h' he' => hQ' h' fun b o hb e => he' b o hb e

theorem itr_keys {own : List Addr} {T : TM} {s : Shared} {es : List (Key × V)} {v : Value} (hh : A.handled = none) (hr : Rep W (view own T s) (.dct es) v) {Q : Value → Shared → Prop}
    (hQ : ∀ I h' fp St Mid, s.heap.get? I = none → (∀ b o, s.heap.get? b = some o → h'.get? b = some o) → Itr W A target I (view own T s) (es.map fun p => p.1.v) fp St Mid → St 0 h' → (∀ b ∈ fp, b ≠ I → ∃ o, (view own T s).ob b = some o) → Q (.ref I) { s with heap := h' }) :
    wpAny (model W.prog W.w) A (pyIter v) Q E s := by
  cases hr with
  | @dct a o _ ds kvs n h1 h0 h2 h3 r hn =>
    have hl := r.dictAt (view_of h1) h2 h3 hn
    have hne : a ≠ s.heap.objs.size := Nat.ne_of_lt (Heap.lt_size (view_of h1))
    have hlen := r.length
    have hkl : kvs.length = ds.length := by rw [hlen.1, hlen.2]
    refine wpAny_pyIter_dict h0 hl ?_
    rw [hkl]
    refine hQ s.heap.objs.size _ [s.heap.objs.size, a] (fun i h => h.IsKeyIter s.heap.objs.size a i ds.length n ∧ h.get? a = some o) (fun i _ h => h.IsKeyIter s.heap.objs.size a (i + 1) ds.length n ∧ h.get? a = some o)
      (fresh_size _) (fun b o e => Heap.get?_push_of_some _ e) ?_ ⟨⟨_, Heap.get?_push_size _ rfl, rfl, rfl⟩, Heap.get?_push_of_some _ (view_of h1)⟩ ?_
    · refine { self := by simp, live := fun i h st => let ⟨o, ho, _⟩ := st.1; by rw [ho]; rfl, frame := fun i h h' st k => ⟨st.1.at fun o e => k _ (by simp) o e, k _ (by simp) _ st.2⟩, item := ?_, go := ?_, iter := fun i s' Q' E' st h => wpAny_pyIter_keyiter st.1 h, done := ?_ }
      · intro i x own' T' s' Q' E' hx st hI ht hlv hle hQ'
        rw [List.getElem?_map] at hx
        obtain ⟨⟨k, u⟩, hc, rfl⟩ := Option.map_eq_some_iff.mp hx
        obtain ⟨d, e1, e2, e3, e4⟩ := r.get hc
        refine next_key st.1 st.2 h3 e1 fun h' hit' hs' => ?_
        refine hQ' _ h' s'.toks T' (Nat.le_refl _) ⟨hit', (hs'.2 a hne).trans st.2⟩ (fun b o hb e => hs'.extBut b o hb e) (fun _ _ e => e) ht fun T'' s'' hT k => ?_
        exact e3.mono (hle.trans ⟨fun b o e => view_mk (view_not e) (k b o (view_not e) (hs'.extBut b o (fun q => view_not e (q ▸ hI)) (view_of e))), hT⟩)
      · intro i v s' Q' E' hm hQ'
        obtain ⟨o, ho, hc, hd⟩ := id hm.1
        exact letGo_plain ho hc (by decide) (hQ' s'.heap hm fun _ _ _ e => e)
      · intro s' Q' E' st hQ'
        have hl' := r.dictAt (h := s'.heap) st.2 h2 h3 hn
        have h4 := st.1
        rw [← hkl] at h4
        exact wpAny_pyNext_dict_end hh h4 hl' (by rw [List.length_map]; exact List.getElem?_eq_none (by omega)) fun h' he' => hQ' h' fun b o hb e => he' b o hb e
    · intro b hb hne
      simp at hb
      rcases hb with rfl | rfl
      · exact absurd rfl hne
      · exact ⟨o, h1⟩

theorem itr_items {own : List Addr} {T : TM} {s : Shared} {es : List (Key × V)} {v : Value} (hh : A.handled = none) (htg : isPair target = true) (hr : Rep W (view own T s) (.items es) v) {Q : Value → Shared → Prop}
    (hQ : ∀ I h' fp St Mid, s.heap.get? I = none → (∀ b o, s.heap.get? b = some o → h'.get? b = some o) → Itr W A target I (view own T s) (es.map fun p => V.tup [p.1.v, p.2]) fp St Mid → St 0 h' → (∀ b ∈ fp, b ≠ I → ∃ o, (view own T s).ob b = some o) → Q (.ref I) { s with heap := h' }) :
    wpAny (model W.prog W.w) A (pyIter v) Q E s := by
  cases hr with
  | @itm vw a ov _ hv1 hv2 hv3 hrd =>
   cases hrd with
   | @dct _ o _ ds kvs n h1 h0 h2 h3 r hn =>
    have hl := r.dictAt (view_of h1) h2 h3 hn
    have hne : a ≠ s.heap.objs.size := Nat.ne_of_lt (Heap.lt_size (view_of h1))
    have hlen := r.length
    have hkl : kvs.length = ds.length := by rw [hlen.1, hlen.2]
    refine wpAny_pyIter_items ⟨ov, view_of hv1, hv2, hv3⟩ hl ?_
    rw [hkl]
    refine hQ s.heap.objs.size _ [s.heap.objs.size, a] (fun i h => (∃ ok ov, IsItemIter h s.heap.objs.size a i ds.length n ok ov) ∧ h.get? a = some o)
      (fun i v h => (∃ ok ov x, v = .ref x ∧ IsItemIterOut h s.heap.objs.size a (i + 1) ds.length n ok ov x) ∧ h.get? a = some o)
      (fresh_size _) (fun b o e => Heap.get?_push_of_some _ e) ?_ ⟨⟨.none, .none, Heap.get?_push_size _ rfl⟩, Heap.get?_push_of_some _ (view_of h1)⟩ ?_
    · refine { self := by simp, live := fun i h st => let ⟨_, _, ho⟩ := st.1; by rw [ho]; rfl, frame := fun i h h' st k => ⟨let ⟨x, y, ho⟩ := st.1; ⟨x, y, k _ (by simp) _ ho⟩, k _ (by simp) _ st.2⟩, item := ?_, go := ?_, iter := fun i s' Q' E' st h => let ⟨_, _, h1⟩ := st.1; kcp_self h1 h, done := ?_ }
      · intro i x own' T' s' Q' E' hx st hI ht hlv hle hQ'
        rw [List.getElem?_map] at hx
        obtain ⟨⟨k, u⟩, hc, rfl⟩ := Option.map_eq_some_iff.mp hx
        obtain ⟨d, e1, e2, e3, e4⟩ := r.get hc
        obtain ⟨⟨ok, ov', hit⟩, hao⟩ := st
        have hai : a ≠ s.heap.objs.size := hne
        refine next_item hit hao h3 e1 fun h' hit' ht' hk' => ?_
        refine hQ' _ h' s'.toks T' (Nat.le_refl _) ⟨⟨_, _, _, rfl, hit'⟩, hk' a o hne hao⟩ hk' (fun _ _ e => e) ht fun T'' s'' hT k => ?_
        have hle' : Le (view own T s) (view own' T'' s'') := hle.trans ⟨fun b o e => view_mk (view_not e) (k b o (view_not e) (hk' b o (fun q => view_not e (q ▸ hI)) (view_of e))), hT⟩
        have hnew : s'.heap.objs.size ∉ own' := fun hm => by have := hlv _ hm; rw [fresh_size] at this; cases this
        refine .tup (view_mk hnew (k _ _ hnew ht')) rfl (ws := [d.key, d.val]) (n := 0) rfl (.cons (e3.mono hle') (.cons (e4.mono hle') .nil))
      · intro i v s' Q' E' hm hQ'
        obtain ⟨⟨ok, ov', x, rfl, hit⟩, hao⟩ := hm
        cases target with
        | Tuple es k p => exact wpAny_letOwnedTupleGo_items hit fun h' hit' hs' => hQ' h' ⟨⟨_, _, hit'⟩, (hs'.2 a hne).trans hao⟩ fun b o hb e => hs'.extBut b o hb e
        | _ => cases htg
      · intro s' Q' E' st hQ'
        obtain ⟨⟨ok, ov', hit⟩, hao⟩ := st
        have hl' := r.dictAt (h := s'.heap) hao h2 h3 hn
        rw [← hkl] at hit
        exact wpAny_pyNext_items_end hh hit hl' (by rw [List.length_map]; exact List.getElem?_eq_none (by omega)) fun h' he' => hQ' h' fun b o hb e => he' b o hb e
    · intro b hb hne
      simp at hb
      rcases hb with rfl | rfl
      · exact absurd rfl hne
      · exact ⟨o, h1⟩

/-- what the loops ask of a value that is run through -/
noncomputable def RunOk (target : Expr) : V → Prop
  | .rng a b => Builtin.Range.small a b 1 = true
  | .items _ => isPair target = true
  | .tup _ => False
  | _ => True

theorem itr_of {own : List Addr} {T : TM} {s : Shared} {a : V} {xs : List V} {v : Value} (hh : A.handled = none) (hx : seqOf a = some xs) (hok : RunOk target a) (hr : Rep W (view own T s) a v) {Q : Value → Shared → Prop}
    (hQ : ∀ I h' fp St Mid, s.heap.get? I = none → (∀ b o, s.heap.get? b = some o → h'.get? b = some o) → Itr W A target I (view own T s) xs fp St Mid → St 0 h' → (∀ b ∈ fp, b ≠ I → ∃ o, (view own T s).ob b = some o) → Q (.ref I) { s with heap := h' }) :
    wpAny (model W.prog W.w) A (pyIter v) Q E s := by
  cases a with
  | lst vs => cases hx; exact itr_list hh hr hQ
  | str l => cases hx; exact itr_str hh hr fun I h' fp St Mid x1 x2 x3 x4 x5 _ => hQ I h' fp St Mid x1 x2 x3 x4 x5
  | dct es => cases hx; exact itr_keys hh hr hQ
  | rng a b => cases hx; exact itr_rng hh hok hr hQ
  | items es => cases hx; exact itr_items hh hok hr hQ
  | tup vs => exact hok.elim
  | _ => cases hx
end

end Sx
end
section
open PySem PySem.W PyProof.Rows PySem.Calls
set_option linter.unusedVariables false
set_option Elab.async false
set_option maxRecDepth 100000
namespace Sx

/-- binding a target to a value -/
noncomputable def Asg (C : Cx) (σ : St) (target : Expr) (x : V) (Q : St → Prop) : Prop :=
  ∀ F mine T s v, Abs C F mine T σ s → Rep C.W (view (F ++ mine) T s) x v → wpAny C.M C.A (assign target C.env v) (fun _ s' => ∃ σ' mine' T', Q σ' ∧ Post F mine T s mine' T' s' ∧ Abs C F mine' T' σ' s') C.X s
noncomputable def AsgL (C : Cx) (σ : St) (ts : List Expr) (xs : List V) (Q : St → Prop) : Prop :=
  ∀ F mine T s vs, Abs C F mine T σ s → RepL C.W (view (F ++ mine) T s) xs vs → wpAny C.M C.A (assignInOrder ((assignEach ts C.env).map (·.2)) vs) (fun _ s' => ∃ σ' mine' T', Q σ' ∧ Post F mine T s mine' T' s' ∧ Abs C F mine' T' σ' s') C.X s

section
variable {C : Cx} {σ : St}

theorem asg_name {n : Nat} (ok : C.Ok n) {x : String} {p : Pos} {u : V} {Q : St → Prop} (hx : isHere C (Str.ofString x) = true) (h : Q (put σ (Str.ofString x) x (.val u))) : Asg C σ (.Name (Str.ofString x) p) u Q := by
  intro F mine T s v hA hr
  exact wpAny_assign_Name (store_val ok hA hx hr fun s' p' a' => ⟨_, mine, T, h, p', a'⟩)

theorem asgL_nil {Q : St → Prop} (h : Q σ) : AsgL C σ [] [] Q := fun F mine T s vs hA hr => by
  cases hr
  exact wpAny_assignInOrder_none ⟨σ, mine, T, h, .refl _ _ _ _, hA⟩
theorem asgL_cons {t : Expr} {ts : List Expr} {x : V} {xs : List V} {Q : St → Prop} (h : Asg C σ t x (fun σ1 => AsgL C σ1 ts xs Q)) (ht : assignEach (t :: ts) C.env = (false, assign t C.env) :: assignEach ts C.env := by rfl) : AsgL C σ (t :: ts) (x :: xs) Q := by
  intro F mine T s vs hA hr
  cases hr with
  | @cons _ v _ vs hv hr =>
    rw [ht]
    refine wpAny_assignInOrder_more (wpAny_mono (h F mine T s v hA hv) ?_ fun _ _ x => x)
    rintro _ s1 ⟨σ1, m1, T1, q, p1, a1⟩
    refine wpAny_mono (q F m1 T1 s1 vs a1 (hr.mono p1.le)) ?_ fun _ _ x => x
    rintro _ s2 ⟨σ2, m2, T2, q2, p2, a2⟩
    exact ⟨σ2, m2, T2, q2, p1.trans p2, a2⟩

theorem asg_tuple {n : Nat} (ok : C.Ok n) {ts : List Expr} {k : Nat} {p : Pos} {xs : List V} {Q : St → Prop} (h : AsgL C σ ts xs Q) (hn : (assignEach ts C.env).length = xs.length) (hstar : (assignEach ts C.env).findIdx? (·.1) = none) : Asg C σ (.Tuple ts k p) (.tup xs) Q := by
  intro F mine T s v hA hr
  cases hr with
  | @tup a o _ ws n h1 h2 h3 r =>
    refine wpAny_assign_Tuple ok.hh (t := a) (items := ws.toArray) ⟨o, view_of h1, h2, n, h3⟩ (by rw [hn, List.size_toArray, r.length]) hstar fun h' he => ?_
    have hk : Kp T s T { s with heap := h' } := Kp.at (tk := s.toks) hA.tok (fun b o e => he b o (Nat.ne_of_lt (Heap.lt_size e)) e) (Nat.le_refl _)
    refine wpAny_mono (h F mine T { s with heap := h' } ws (hA.keeps hk) (r.mono hk.view)) ?_ fun _ _ x => x
    rintro _ s2 ⟨σ2, m2, T2, q2, p2, a2⟩
    exact ⟨σ2, m2, T2, q2, (hk.post hA.live).trans p2, a2⟩

/-- a, b = e -/
theorem ex_unpack {n : Nat} (ok : C.Ok n) {ts : List Expr} {k : Nat} {tp : Pos} {e : Expr} {pos : Pos} {Q : Fl → St → Prop} (h : Ev C σ e (fun v σ1 => Asg C σ1 (.Tuple ts k tp) v (fun σ2 => Q .next σ2)))
    (hs : swapsWithSole [.Tuple ts k tp] e pos.line C.env = pure false) (hw : swappedStores [.Tuple ts k tp] e C.env = pure none) : Ex C σ (.Assign [.Tuple ts k tp] e pos) Q := by
  refine Tr.intro' fun F mine T s QQ fin hA => ?_
  refine Assign_Tuple (Tr.then h hA fun v s1 u σ1 m1 T1 q p1 a1 r => ?_) hs hw
  refine wpAny_mono (q F m1 T1 s1 v a1 r) ?_ fun _ _ x => x
  rintro _ s2 ⟨σ2, m2, T2, q2, p2, a2⟩
  exact fin _ _ .next σ2 m2 T2 q2 (p1.trans p2) a2 .next

/-! ## for -/
noncomputable def Loop (C : Cx) (target : Expr) (body orelse : List Stmt) (Q : Fl → St → Prop) : List V → St → Prop
  | [], σ => Exs C σ orelse Q
  | x :: xs, σ => Asg C σ target x (fun σ1 => Exs C σ1 body (fun fl σ2 => match fl with
      | .next => Loop C target body orelse Q xs σ2
      | .cont => Loop C target body orelse Q xs σ2
      | .brk => Q .next σ2
      | .ret v => Q (.ret v) σ2))

/-- a frame more (or less) of what is somebody else's -/
theorem Abs.other {F F' mine : List Addr} {T T' : TM} {s s' : Shared} (hA : Abs C F mine T σ s) (le : Le (view (F ++ mine) T s) (view (F' ++ mine) T' s')) (hm : ∀ b o, b ∈ mine → s.heap.get? b = some o → s'.heap.get? b = some o)
    (hc : ∀ x c, C.env.cells.lookup x = some c → c ∈ F' ++ mine ∧ ∀ o, s.heap.get? c = some o → s'.heap.get? c = some o) (hl : ∀ b ∈ F' ++ mine, (s'.heap.get? b).isSome = true) (hn : ∀ b ∈ mine, b ∉ F') (ht : TOk T' s'.toks) : Abs C F' mine T' σ s' := by
  obtain ⟨m, cm, f⟩ := hA.frm
  refine ⟨fun b o e => le.ob b o (hA.base b o e), hl, hn, ht, m, cm, ?_⟩
  refine { ns := f.ns.at' fun o e => hm _ o f.lm e, cells := fun x c e => ?_, apart := f.apart, lc := f.lc, has := f.has, lm := f.lm, cown := fun x c e => (hc x c e).1, cmine := f.cmine, slots := fun x sl e => ?_, own := f.own, dis := f.dis }
  · obtain ⟨o, ho, hd⟩ := f.cells x c e
    exact ⟨o, (hc x c e).2 o ho, hd⟩
  · obtain ⟨v, hv, hr⟩ := f.slots x sl e
    exact ⟨v, hv, hr.mono le fun a ho o e' => hm _ o (f.own x sl a e ho).1 e'⟩

theorem Abs.dropI {F mine : List Addr} {I : Addr} {T : TM} {s : Shared} (hA : Abs C (F ++ [I]) mine T σ s) (cI : ∀ x c, C.env.cells.lookup x = some c → c ≠ I) : Abs C F mine T σ s := by
  have sub : ∀ b ∈ F ++ mine, b ∈ (F ++ [I]) ++ mine := fun b hb => by
    simp only [List.mem_append, List.mem_singleton] at hb ⊢
    rcases hb with hb | hb
    · exact .inl (.inl hb)
    · exact .inr hb
  refine hA.other (view_sub sub) (fun b o _ e => e) (fun x c e => ⟨?_, fun o e' => e'⟩) (fun b hb => hA.live b (sub b hb)) (fun b hb hF => hA.nin b hb (List.mem_append_left _ hF)) hA.tok
  obtain ⟨m, cm, f⟩ := hA.frm
  have := f.cown x c e
  simp only [List.mem_append, List.mem_singleton] at this ⊢
  rcases this with (h | h) | h
  · exact .inl h
  · exact absurd h (cI x c e)
  · exact .inr h

theorem ex_for {n : Nat} (ok : C.Ok n) {target iter : Expr} {body orelse : List Stmt} {pos : Pos} {Q : Fl → St → Prop}
    (h : Ev C σ iter (fun a σ1 => ∃ xs, seqOf a = some xs ∧ RunOk target a ∧ Loop C target body orelse Q xs σ1)) (hs : ∀ x, foldedSetIterable iter C.env x = pure x := by intro _; rfl) : Ex C σ (.For target iter body orelse pos) Q := by
  refine Tr.intro' fun F mine T s QQ fin hA => ?_
  refine wpAny_For (Tr.then h hA fun v s1 a σ1 m1 T1 hq_ p1 a1 r1 => ?_) hs
  obtain ⟨xs, hxs, hok, hL⟩ := hq_
  refine itr_of (target := target) ok.hh hxs hok r1 fun I h2 fp St Mid hnew hk hI hst hfp => ?_
  -- the loop itself: from s1 on, the iterator is somebody else's
  have cI : ∀ x c, C.env.cells.lookup x = some c → c ≠ I := fun x c e q => by
    obtain ⟨m, cm, f⟩ := a1.frm
    obtain ⟨o, ho, _⟩ := f.cells x c e
    rw [q, hnew] at ho; cases ho
  have kp : Kp T1 s1 T1 { s1 with heap := h2 } := Kp.at (tk := s1.toks) a1.tok hk (Nat.le_refl _)
  have nI : ∀ b ∈ F ++ m1, b ≠ I := fun b hb q => by have := a1.live b hb; rw [q, hnew] at this; cases this
  have IF : I ∉ F := fun hm => nI I (List.mem_append_left _ hm) rfl
  have a2 : Abs C (F ++ [I]) m1 T1 σ1 { s1 with heap := h2 } := by
    refine a1.other ⟨fun b o e => view_mk (fun hb => ?_) (hk b o (view_of e)), fun _ _ e => e⟩ (fun b o _ e => hk b o e) (fun x c e => ⟨?_, fun o e' => hk c o e'⟩) (fun b hb => ?_) (fun b hb hF => ?_) a1.tok
    · have hne : b ≠ I := fun q => by have := view_of e; rw [q, hnew] at this; cases this
      simp only [List.mem_append, List.mem_singleton] at hb
      rcases hb with (hb | hb) | hb
      · exact view_not e (List.mem_append_left _ hb)
      · exact hne hb
      · exact view_not e (List.mem_append_right _ hb)
    · obtain ⟨m, cm, f⟩ := a1.frm
      rcases List.mem_append.mp (f.cown x c e) with hm | hm
      · exact List.mem_append_left _ (List.mem_append_left _ hm)
      · exact List.mem_append_right _ hm
    · simp only [List.mem_append, List.mem_singleton] at hb
      rcases hb with (hb | hb) | hb
      · exact kp.live a1.live b (List.mem_append_left _ hb)
      · subst hb; exact hI.live 0 _ hst
      · exact kp.live a1.live b (List.mem_append_right _ hb)
    · simp only [List.mem_append, List.mem_singleton] at hF
      rcases hF with hF | hF
      · exact a1.nin b hb hF
      · exact nI b (List.mem_append_right _ hb) hF
  have hfp' : ∀ b ∈ fp, b ≠ I → b ∉ F ++ m1 := fun b hb hne => let ⟨o, ho⟩ := hfp b hb hne; view_not ho
  refine codeAny_forLoop_any (fun k s' => ∃ i σ' m' T', k = xs.length + 1 - i ∧ i ≤ xs.length ∧ Loop C target body orelse Q (xs.drop i) σ' ∧ Post F m1 T1 s1 m' T' s' ∧ Abs C (F ++ [I]) m' T' σ' s' ∧ St i s'.heap) ?_ (xs.length + 1)
    ⟨0, σ1, m1, T1, rfl, Nat.zero_le _, by simpa using hL, kp.post a1.live, a2, hst⟩
  rintro k s' ⟨i, σ', m', T', rfl, hi, hL', p', a', st'⟩
  have leg : Le (view (F ++ m1) T1 s1) (view ((F ++ [I]) ++ m') T' s') := ⟨fun b o e => by
    have e' := p'.le.ob b o e
    have hne : b ≠ I := fun q => by have := view_of e; rw [q, hnew] at this; cases this
    refine view_mk (fun hb => ?_) (view_of e')
    simp only [List.mem_append, List.mem_singleton] at hb
    rcases hb with (hb | hb) | hb
    · exact view_not e' (List.mem_append_left _ hb)
    · exact hne hb
    · exact view_not e' (List.mem_append_right _ hb), p'.le.tk⟩
  have Imem : I ∈ (F ++ [I]) ++ m' := by simp
  -- a step that turns the iterator alone
  have onlyI : ∀ (h' : Heap) (tk : Nat) (T'' : TM), (∀ b o, b ≠ I → s'.heap.get? b = some o → h'.get? b = some o) → TLe T' T'' → TOk T'' tk → Post F m1 T1 s1 m' T'' { s' with heap := h', toks := tk } ∧ Le (view ((F ++ [I]) ++ m') T' s') (view ((F ++ [I]) ++ m') T'' { s' with heap := h', toks := tk }) ∧
      ((h'.get? I).isSome = true → Abs C (F ++ [I]) m' T'' σ' { s' with heap := h', toks := tk }) := by
    intro h' tk T'' hk' hT htk
    have le : Le (view ((F ++ [I]) ++ m') T' s') (view ((F ++ [I]) ++ m') T'' { s' with heap := h', toks := tk }) := ⟨fun b o e => view_mk (view_not e) (hk' b o (fun q => view_not e (q ▸ Imem)) (view_of e)), hT⟩
    refine ⟨⟨?_, ⟨fun b o e => ?_, fun t l e => hT t l (p'.le.tk t l e)⟩, fun b hb => ?_⟩, le, fun hlv => ?_⟩
    · obtain ⟨h0, t0, rfl⟩ := p'.same
      exact ⟨h', tk, rfl⟩
    · have e' := p'.le.ob b o e
      have hne : b ≠ I := fun q => by have := view_of e; rw [q, hnew] at this; cases this
      exact view_mk (view_not e') (hk' b o hne (view_of e'))
    · have hbI : b ≠ I := fun q => IF (q ▸ hb)
      obtain ⟨o, ho⟩ := Option.isSome_iff_exists.mp (a1.live b (List.mem_append_left _ hb))
      have e1 := p'.far b hb
      rw [ho] at e1
      rw [ho]
      exact hk' b o hbI e1
    · have Im' : ∀ b ∈ m', b ≠ I := fun b hb q => a'.nin b hb (by rw [q]; simp)
      refine a'.other le (fun b o hb e => hk' b o (Im' b hb) e) (fun x c e => ⟨?_, fun o e' => hk' c o (cI x c e) e'⟩) (fun b hb => ?_) a'.nin htk
      · obtain ⟨m, cm, f⟩ := a'.frm
        exact f.cown x c e
      · by_cases q : b = I
        · subst q; exact hlv
        · obtain ⟨o, ho⟩ := Option.isSome_iff_exists.mp (a'.live b hb)
          show (h'.get? b).isSome = true
          rw [hk' b o q ho]; rfl
  cases hx : xs[i]? with
  | none =>
    have hlen : xs.length ≤ i := List.getElem?_eq_none_iff.mp hx
    have hie : i = xs.length := Nat.le_antisymm hi hlen
    subst hie
    refine hI.done s' _ _ st' fun h' hk' => ?_
    obtain ⟨p3, le3, _⟩ := onlyI h' s'.toks T' hk' (fun _ _ e => e) a'.tok
    rw [List.drop_length] at hL'
    have a3 : Abs C F m' T' σ' { s' with heap := h' } := by
      have Im' : ∀ b ∈ m', b ≠ I := fun b hb q => a'.nin b hb (by rw [q]; simp)
      refine a'.other (le3.trans (view_sub fun b hb => ?_)) (fun b o hb e => hk' b o (Im' b hb) e) (fun x c e => ⟨?_, fun o e' => hk' c o (cI x c e) e'⟩) (fun b hb => ?_) (fun b hb hF => a'.nin b hb (List.mem_append_left _ hF)) a'.tok
      · simp only [List.mem_append, List.mem_singleton] at hb ⊢
        rcases hb with hb | hb
        · exact .inl (.inl hb)
        · exact .inr hb
      · obtain ⟨m, cm, f⟩ := a'.frm
        have := f.cown x c e
        simp only [List.mem_append, List.mem_singleton] at this ⊢
        rcases this with (h | h) | h
        · exact .inl h
        · exact absurd h (cI x c e)
        · exact .inr h
      · have hb' : b ∈ (F ++ [I]) ++ m' := by
          simp only [List.mem_append, List.mem_singleton] at hb ⊢
          rcases hb with hb | hb
          · exact .inl (.inl hb)
          · exact .inr hb
        have q : b ≠ I := fun q => by
          rcases List.mem_append.mp hb with hb | hb
          · exact IF (q ▸ hb)
          · exact Im' b hb q
        obtain ⟨o, ho⟩ := Option.isSome_iff_exists.mp (a'.live b hb')
        show (h'.get? b).isSome = true
        rw [hk' b o q ho]; rfl
    refine wpAny_passesOwn ok.hx (Tr.then hL' a3 fun f s4 fl σ4 m4 T4 q4 p4 a4 r4 => ?_)
    exact fin _ _ fl σ4 m4 T4 q4 ((p1.trans p3).trans p4) a4 r4
  | some x =>
    have hlt : i < xs.length := (List.getElem?_eq_some_iff.mp hx).1
    have hdrop : xs.drop i = x :: xs.drop (i + 1) := by
      rw [List.drop_eq_getElem_cons hlt]
      congr 1
      have := List.getElem?_eq_getElem hlt
      rw [hx] at this; exact (Option.some.inj this).symm
    rw [hdrop] at hL'
    refine hI.item i x _ T' s' _ _ hx st' Imem a'.tok a'.live leg fun v h3 tk3 T3 htk3 hm3 hk3 hT3 htok3 hrep => ?_
    refine hI.go i v _ _ _ hm3 fun h4 hst4 hk4 => ?_
    have hk34 : ∀ b o, b ≠ I → s'.heap.get? b = some o → h4.get? b = some o := fun b o hb e => hk4 b o hb (hk3 b o hb e)
    obtain ⟨p4, le4, a4⟩ := onlyI h4 tk3 T3 hk34 hT3 htok3
    have a4 := a4 (hI.live _ _ hst4)
    have r4 : Rep C.W (view ((F ++ [I]) ++ m') T3 { s' with heap := h4, toks := tk3 }) x v := hrep T3 _ (fun _ _ e => e) fun b o hb e => hk4 b o (fun q => hb (q ▸ Imem)) e
    refine wpAny_passesOwn ok.hx (wpAny_mono (hL' (F ++ [I]) m' T3 _ v a4 r4) ?_ fun _ _ x => x)
    rintro _ s5 ⟨σ5, m5, T5, q5, p5, a5⟩
    refine wpAny_passesOwn ok.hx (wpAny_mono (q5 (F ++ [I]) m5 T5 s5 a5) ?_ fun _ _ x => x)
    rintro f s6 ⟨fl, σ6, m6, T6, q6, p6, a6, r6⟩
    have p56 := p5.trans p6
    have vis : ∀ b o, (view (F ++ m1) T1 s1).ob b = some o → (view ((F ++ [I]) ++ m') T3 { s' with heap := h4, toks := tk3 }).ob b = some o := fun b o e => le4.ob b o (leg.ob b o e)
    have p6' : Post F m1 T1 s1 m6 T6 s6 := by
      refine ⟨?_, ⟨fun b o e => ?_, fun t l e => p56.le.tk t l (p4.le.tk t l e)⟩, fun b hb => (p56.far b (List.mem_append_left _ hb)).trans (p4.far b hb)⟩
      · obtain ⟨h0, t0, e0⟩ := p4.same
        obtain ⟨h1, t1, rfl⟩ := p56.same
        exact ⟨h1, t1, by rw [e0]⟩
      · have e6 := p56.le.ob b o (vis b o e)
        exact (view_sub (T := T6) (s := s6) fun c hc => by
          simp only [List.mem_append, List.mem_singleton] at hc ⊢
          rcases hc with hc | hc
          · exact .inl (.inl hc)
          · exact .inr hc).ob b o e6
    have st6 : St (i + 1) s6.heap := by
      refine hI.frame (i + 1) h4 s6.heap hst4 fun b hb o e => ?_
      by_cases q : b = I
      · subst q
        exact (p56.far b (by simp)).trans e
      · obtain ⟨o', ho'⟩ := hfp b hb q
        have e1 := vis b o' ho'
        have e2 : h4.get? b = some o' := view_of e1
        rw [e] at e2
        cases e2
        exact view_of (p56.le.ob b o e1)
    have leave : ∀ v, FlRep C.W (view ((F ++ [I]) ++ m6) T6 s6) (.ret v) f → FlRep C.W (view (F ++ m6) T6 s6) (.ret v) f := by
      intro v h
      cases h with
      | ret r =>
        exact .ret (r.mono (view_sub fun c hc => by
          simp only [List.mem_append, List.mem_singleton] at hc ⊢
          rcases hc with hc | hc
          · exact .inl (.inl hc)
          · exact .inr hc))
    cases r6 with
    | next => exact ⟨xs.length + 1 - (i + 1), by omega, i + 1, σ6, m6, T6, rfl, hlt, q6, p6', a6, st6⟩
    | cont => exact ⟨xs.length + 1 - (i + 1), by omega, i + 1, σ6, m6, T6, rfl, hlt, q6, p6', a6, st6⟩
    | brk => exact fin _ _ .next σ6 m6 T6 q6 (p1.trans p6') (a6.dropI cI) .next
    | ret r => exact fin _ _ (.ret _) σ6 m6 T6 q6 (p1.trans p6') (a6.dropI cI) (leave _ (.ret r))
end
end Sx
end
section
open PySem PySem.W PyProof.Rows PySem.Calls
set_option linter.unusedVariables false
set_option Elab.async false
set_option maxRecDepth 100000
namespace Sx

/-! ## what turns a list or a dict of the frame's own -/
structure KpB (a : Addr) (T : TM) (s : Shared) (T' : TM) (s' : Shared) : Prop where
  same : ∃ h' tk, s' = { s with heap := h', toks := tk }
  keep : ∀ b o, b ≠ a → s.heap.get? b = some o → s'.heap.get? b = some o
  live : (s'.heap.get? a).isSome = true
  tle : TLe T T'
  tok : TOk T' s'.toks
theorem KpB.view {a : Addr} {T T' : TM} {own : List Addr} {s s' : Shared} (k : KpB a T s T' s') (ha : a ∈ own) : Le (view own T s) (view own T' s') :=
  ⟨fun b o e => view_mk (view_not e) (k.keep b o (fun q => view_not e (q ▸ ha)) (view_of e)), k.tle⟩

noncomputable def OpM {α : Type} (C : Cx) (sl : Slot) (vs : List V) (t : Value → List Value → Sem α) (P : α → Prop) (K : Slot → Prop) : Prop :=
  ∀ own T s a ws, OwnOk C own T s → a ∈ own → sl.adr = some a → SlotRep C.W (view own T s) s.heap sl (.ref a) → RepL C.W (view own T s) vs ws →
    wpAny C.M C.A (t (.ref a) ws) (fun r s' => P r ∧ ∃ sl' T', K sl' ∧ sl'.adr = some a ∧ KpB a T s T' s' ∧ SlotRep C.W (view own T' s') s'.heap sl' (.ref a)) C.X s

theorem OpM.abs {α : Type} {C : Cx} {σ : St} {F mine : List Addr} {T : TM} {s : Shared} {sl : Slot} {vs : List V} {t : Value → List Value → Sem α} {P : α → Prop} {K : Slot → Prop} (h : OpM C sl vs t P K) (hA : Abs C F mine T σ s) {x : String} {a : Addr}
    (hf : find σ (Str.ofString x) = some sl) (ho : sl.adr = some a) {ws : List Value} (hr : RepL C.W (view (F ++ mine) T s) vs ws) {Q : α → Shared → Prop}
    (hQ : ∀ r s' sl' T', P r → K sl' → sl'.adr = some a → Post F mine T s mine T' s' → Abs C F mine T' (put σ (Str.ofString x) x sl') s' → Q r s') : wpAny C.M C.A (t (.ref a) ws) Q C.X s := by
  obtain ⟨m, cm, f⟩ := hA.frm
  obtain ⟨v, hv, hr0⟩ := f.slots _ _ hf
  have hva := hr0.ref ho
  subst hva
  have hm := (f.own _ _ _ hf ho).1
  refine wpAny_mono (h (F ++ mine) T s a ws hA.ownOk (List.mem_append_right _ hm) ho hr0 hr) ?_ fun _ _ x => x
  rintro r s' ⟨hP, sl', T', hK, ho', k, hr'⟩
  obtain ⟨p1, a1⟩ := hA.mutate hf ho ho' k.same k.keep k.live k.tle k.tok (fun _ _ _ => hr')
  exact hQ r s' sl' T' hP hK ho' p1 a1

section
variable {C : Cx} {σ : St}

theorem opM_append {a : Addr} {vs : List V} {v : V} {K : Slot → Prop} (hl : vs.length ≤ sizeLine) (h : K (.list a (vs ++ [v]))) : OpM C (.list a vs) [v] (fun l ws => call (.builtin "list.append") (l :: ws)) (fun r => r = .none) K := by
  intro own T s b ws hO hb ho hs hr
  cases ho
  obtain ⟨_, xs, hx, hxr⟩ := hs
  obtain ⟨w, _, rfl, hw, hr⟩ := hr.cons_inv
  obtain rfl := hr.nil_inv
  refine wpAny_list_append_plain (items := xs.toArray) hx (fun h' hp hs' => ?_) (by simpa [hxr.length] using hl)
  have k : KpB a T s T { s with heap := h' } := ⟨⟨h', s.toks, rfl⟩, fun b o hb e => hs'.extBut b o hb e, by obtain ⟨n, e⟩ := hp; show (h'.get? a).isSome = true; rw [e]; rfl, fun _ _ e => e, hO.tok⟩
  refine ⟨rfl, _, T, h, rfl, k, rfl, xs ++ [w], ?_, ?_⟩
  · obtain ⟨n, e⟩ := hp
    exact ⟨n, by rw [e]; simp⟩
  · exact (hxr.append (.cons hw .nil)).mono (k.view hb)

end
end Sx
end
section
open PySem PySem.W PyProof.Rows PySem.Calls
set_option linter.unusedVariables false
set_option Elab.async false
set_option maxRecDepth 100000
namespace Sx

/-! ## dicts turn -/
noncomputable def dset : List (Key × V) → Key → V → List (Key × V)
  | [], k, v => [(k, v)]
  | (k', v') :: r, k, v => if k' = k then (k', v) :: r else (k', v') :: dset r k v

theorem dset_keys (es : List (Key × V)) (k : Key) (v : V) : (dset es k v).map (·.1) = if k ∈ es.map (·.1) then es.map (·.1) else es.map (·.1) ++ [k] := by
  induction es with
  | nil => simp [dset]
  | cons p r ih =>
    obtain ⟨k', v'⟩ := p
    unfold dset
    by_cases h : k' = k
    · subst h; simp
    · rw [if_neg h]
      simp only [List.map_cons, ih, List.mem_cons]
      by_cases hm : k ∈ r.map (·.1)
      · simp [hm]
      · simp [hm, Ne.symm h]
theorem dset_nodup {es : List (Key × V)} (h : (es.map (·.1)).Nodup) (k : Key) (v : V) : ((dset es k v).map (·.1)).Nodup := by
  rw [dset_keys]
  split
  · exact h
  · rename_i hn
    rw [List.nodup_append]
    exact ⟨h, by simp, fun a ha b hb => by rw [List.mem_singleton] at hb; subst hb; exact fun e => hn (e ▸ ha)⟩
theorem dset_length (es : List (Key × V)) (k : Key) (v : V) : (dset es k v).length ≤ es.length + 1 := by
  induction es with
  | nil => simp [dset]
  | cons p r ih =>
    obtain ⟨k', v'⟩ := p
    unfold dset
    split
    · simp
    · simp only [List.length_cons]; omega

theorem RepD.dset {W : Wd} {g : PH} {es : List (Key × V)} {ds : List DictEntry} {kvs : List (Key × Value)} (h : RepD W g es ds kvs) {k : Key} {v : V} {kw w : Value} (hk : Rep W g k.v kw) (hv : Rep W g v w) :
    ∃ ds' kvs', RepD W g (dset es k v) ds' kvs' ∧ ((∃ i, ds.findIdx? (fun e => W.knd.is k e.key) = some i ∧ ds' = ds.modify i fun e => { e with val := w }) ∨ (ds.findIdx? (fun e => W.knd.is k e.key) = none ∧ ds' = ds ++ [⟨W.knd.hash k, kw, w⟩])) := by
  induction ds generalizing es kvs with
  | nil =>
    cases h
    exact ⟨_, _, .cons hk rfl hv .nil, .inr ⟨rfl, rfl⟩⟩
  | cons d ds ih =>
    cases h with
    | @cons k' v' _ es _ kvs h1 h2 h3 r =>
      have his : W.knd.is k d.key = decide (k = k') := KeyKind.is_eq_decide (knd := W.knd) (Key.is_of_rep h1) k
      by_cases e : k' = k
      · subst e
        refine ⟨{ d with val := w } :: ds, (k', w) :: kvs, ?_, .inl ⟨0, ?_, rfl⟩⟩
        · unfold Sx.dset
          rw [if_pos rfl]
          exact .cons (d := { d with val := w }) h1 h2 hv r
        · rw [List.findIdx?_cons, his]; simp
      · obtain ⟨ds', kvs', r', q⟩ := ih r
        refine ⟨d :: ds', (k', d.val) :: kvs', ?_, ?_⟩
        · unfold Sx.dset
          rw [if_neg e]
          exact .cons h1 h2 h3 r'
        · have hf : W.knd.is k d.key = false := by rw [his]; exact decide_eq_false fun q => e q.symm
          rcases q with ⟨i, q1, q2⟩ | ⟨q1, q2⟩
          · refine .inl ⟨i + 1, ?_, ?_⟩
            · rw [List.findIdx?_cons, hf, q1]; rfl
            · rw [q2]; rfl
          · refine .inr ⟨?_, ?_⟩
            · rw [List.findIdx?_cons, hf, q1]; rfl
            · rw [q2]; rfl

section
variable {C : Cx} {σ : St}

theorem opM_dictSet {a : Addr} {es : List (Key × V)} {k : Key} {v : V} {K : Slot → Prop} (hl : es.length ≤ sizeLine) (h : K (.dict a (dset es k v))) :
    OpM C (.dict a es) [k.v, v] (fun d ws => match d, ws with | .ref d, [k, v] => dictSet d k v | _, _ => pure ()) (fun _ => True) K := by
  intro own T s b ws hO hb ho hs hr
  cases ho
  obtain ⟨_, ds, kvs, ⟨h0, o, n, ho, hx, hd⟩, hrd, hn⟩ := hs
  obtain ⟨kw, _, rfl, hkw, hr⟩ := hr.cons_inv
  obtain ⟨w, _, rfl, hw, hr⟩ := hr.cons_inv
  obtain rfl := hr.nil_inv
  have hkey : C.W.knd.is k kw = true := Key.is_of_rep hkw
  show wpAny C.M C.A (dictSet a kw w) _ _ s
  unfold dictSet
  try with_reducible refine wpAny_holding ?_
  refine wpAny_bind (C.W.knd.pyHash hkey ?_)
  unfold dictSetHashed
  try with_reducible refine wpAny_holding ?_
  refine wpAny_bind (wpAny_dictFind_of (s := { s with toks := s.toks + 1 }) hkey ho hd hrd.keysOf ?_)
  have hidx : (ds.toArray.findIdx? fun e => C.W.knd.is k e.key) = ds.findIdx? fun e => C.W.knd.is k e.key := by simp
  have hsz : ds.toArray.size ≤ sizeLine := by rw [List.size_toArray, hrd.length.1]; exact hl
  obtain ⟨ds', kvs', r', q⟩ := hrd.dset hkw hw
  rw [hidx]
  rcases q with ⟨i, q1, q2⟩ | ⟨q1, q2⟩
  · rw [q1]
    refine wpAny_bind (wpAny_rule (wpAny_bind (wpAny_updateDict (s := { s with toks := s.toks + 1 }) ho hd (wpAny_point ⟨trivial, _, T, h, rfl, ⟨⟨_, _, rfl⟩, fun b o hb e => (Heap.get?_update_other _ _ (Ne.symm hb)).trans e, ?_, fun _ _ e => e, hO.tok.mono (Nat.le_succ _)⟩, rfl, ds', kvs', ?_, ?_, dset_nodup hn _ _⟩))))
    · show ((s.heap.update a _).get? a).isSome = true
      rw [Heap.get?_update_self _ ho (Obj.isFreed_of_dict (Obj.data_mapDict hd _))]; rfl
    · refine ⟨h0, _, n, Heap.get?_update_self _ ho (Obj.isFreed_of_dict (Obj.data_mapDict hd _)), hx.mapDict _, ?_⟩
      rw [Obj.data_mapDict hd, q2]
      simp
    · refine RepD.mono (g := view own T s) ?_ r'
      exact ⟨fun b o e => view_mk (view_not e) ((Heap.get?_update_other _ _ (fun q => view_not e (by rw [← q]; exact hb))).trans (view_of e)), fun _ _ e => e⟩
  · rw [q1]
    refine wpAny_bind (wpAny_rule (wpAny_updateDictKeys (hz := hsz) (s := { s with toks := s.toks + 1 }) ho hd ⟨trivial, _, T, h, rfl, ⟨⟨_, _, rfl⟩, fun b o hb e => (Heap.get?_update_other _ _ (Ne.symm hb)).trans e, ?_, fun _ _ e => e, hO.tok.mono (Nat.le_succ _)⟩, rfl, ds', kvs', ?_, ?_, dset_nodup hn _ _⟩))
    · show ((s.heap.update a _).get? a).isSome = true
      rw [Heap.get?_update_self _ ho (Obj.isFreed_of_dict (Obj.data_mapDictKeys hd _))]; rfl
    · refine ⟨h0, _, n + 1, Heap.get?_update_self _ ho (Obj.isFreed_of_dict (Obj.data_mapDictKeys hd _)), hx.mapDictKeys _, ?_⟩
      rw [Obj.data_mapDictKeys hd, q2]
      simp
    · refine RepD.mono (g := view own T s) ?_ r'
      exact ⟨fun b o e => view_mk (view_not e) ((Heap.get?_update_other _ _ (fun q => view_not e (by rw [← q]; exact hb))).trans (view_of e)), fun _ _ e => e⟩

theorem opM_setItem {a : Addr} {es : List (Key × V)} {k : Key} {v : V} {K : Slot → Prop} (hl : es.length ≤ sizeLine) (h : K (.dict a (dset es k v))) :
    OpM C (.dict a es) [k.v, v] (fun d ws => match ws with | [k, v] => setItem d k v | _ => pure ()) (fun _ => True) K := by
  intro own T s b ws hO hb ho hs hr
  have key := opM_dictSet (C := C) hl h own T s b ws hO hb ho hs hr
  cases ho
  obtain ⟨_, ds, kvs, ⟨h0, o, n, ho, hx, hd⟩, hrd, hn⟩ := hs
  have hT : s.TypeIs (.ref a) "dict" := ⟨o, ho, hx.1⟩
  obtain ⟨kw, _, rfl, hkw, hr⟩ := hr.cons_inv
  obtain ⟨w, _, rfl, hw, hr⟩ := hr.cons_inv
  obtain rfl := hr.nil_inv
  show wpAny C.M C.A (setItem (.ref a) kw w) _ _ s
  have key : wpAny C.M C.A.in1 (dictSet a kw w) (fun r s' => True ∧ ∃ sl' T', K sl' ∧ sl'.adr = some a ∧ KpB a T s T' s' ∧ SlotRep C.W (view own T' s') s'.heap sl' (.ref a)) C.X s :=
    opM_dictSet (C := { C with A := C.A.in1 }) (K := K) hl h own T s a [kw, w] ⟨hO.base, hO.live, hO.tok⟩ hb rfl ⟨rfl, ds, kvs, ⟨h0, o, n, ho, hx, hd⟩, hrd, hn⟩ (.cons hkw (.cons hw .nil))
  unfold setItem
  try with_reducible refine wpAny_holding ?_
  refine wpAny_bind (wpAny_sequenceKey hT (by decide) ?_)
  refine wpAny_bind (wpAny_callSpecial?_slot (name := Str.ofString "__setitem__") hT slot_dict_setitem
    (wpAny_call_entry slot_dict_setitem hT entry_dict_setitem ?_ (args_dict_setitem _ _ _)))
  show wpAny _ _ (Builtin.Dict.notOrdered "__setitem__" ⟨[.ref a, kw, w], []⟩ >>= _) _ _ s
  refine wpAny_bind (wpAny_notOrdered_dict hT ?_)
  show wpAny _ _ (dictSet a kw w >>= _) _ _ s
  exact wpAny_bind (wpAny_mono key (fun r s' h' => wpAny_pure ⟨.none, rfl, wpAny_pure h'⟩) fun _ _ x => x)

/-! ## statements that turn what is the frame's own -/
theorem tr_loadO {n : Nat} (ok : C.Ok n) {F mine : List Addr} {T : TM} {s : Shared} (hA : Abs C F mine T σ s) {x : String} {sl : Slot} {a : Addr} (hf : find σ (Str.ofString x) = some sl) (ho : sl.adr = some a) (hxa : Str.ofString x ≠ anonS)
    (hn : (Str.ofString x == ("__classdict__" : Str)) = false) {Q : Value → Shared → Prop} (h : SlotRep C.W (view (F ++ mine) T s) s.heap sl (.ref a) → Q (.ref a) s) : wpAny C.M C.A (loadName C.env (Str.ofString x)) Q C.X s := by
  obtain ⟨m, cm, f⟩ := hA.frm
  obtain ⟨v, hv, hr⟩ := f.slots _ _ hf
  have e := hr.ref ho
  subst e
  exact load_local ok f (hv.real hxa) hn (h hr)

/-- the type of what is the frame's own -/
noncomputable def Slot.ty : Slot → String
  | .val _ => ""
  | .list _ _ => "list"
  | .dict _ _ => "dict"
theorem SlotRep.typeIs {W : Wd} {g : PH} {s : Shared} {sl : Slot} {a : Addr} (ho : sl.adr = some a) (x : SlotRep W g s.heap sl (.ref a)) : s.TypeIs (.ref a) sl.ty ∧ ∃ o, s.heap.get? a = some o ∧ o.dict = none := by
  cases sl with
  | val u => cases ho
  | list b vs =>
    cases ho
    obtain ⟨_, ws, ⟨n, h1⟩, r⟩ := x
    exact ⟨⟨_, h1, rfl⟩, _, h1, rfl⟩
  | dict b es =>
    cases ho
    obtain ⟨_, ds, kvs, ⟨h0, o, n, h1, h2, h3⟩, r⟩ := x
    exact ⟨⟨_, h1, h2.1⟩, _, h1, h2.2.1⟩

/-- x.name(e) as a statement, x a list or dict of the frame's own -/
theorem ex_methO {n : Nat} (ok : C.Ok n) {x : String} {xp : Pos} {name : Str} {id : String} {apos pos epos : Pos} {e : Expr} {sl : Slot} {a : Addr} {P : Value → Prop} {Q : Fl → St → Prop}
    (hf : find σ (Str.ofString x) = some sl) (ho : sl.adr = some a) (pa : PlainAttrs sl.ty) (slot : PySem.Slot sl.ty name id) (hty : typeOf (.builtin id) = pure (.type "method_descriptor"))
    (h : Ev C σ e (fun v σ1 => ∃ sl1, find σ1 (Str.ofString x) = some sl1 ∧ sl1.adr = some a ∧ OpM C sl1 [v] (fun l ws => call (.builtin id) (l :: ws)) P (fun sl2 => Q .next (put σ1 (Str.ofString x) x sl2))))
    (hxa : Str.ofString x ≠ anonS) (hn : (Str.ofString x == ("__classdict__" : Str)) = false) (hd : (Str.ofString x == ("__debug__" : Str)) = false)
    (hbase : attributeBase (.Name (Str.ofString x) xp) name C.env (eval (.Name (Str.ofString x) xp) C.env) = eval (.Name (Str.ofString x) xp) C.env) (hline : (apos.endLine == pos.line) = true)
    (hs : starEach [e] C.env = (false, eval e C.env) :: starEach [] C.env) (hint : interactive C.env = false) (hsw : swapsWith (.Call (.Attribute (.Name (Str.ofString x) xp) name apos) [e] [] pos) none epos.line C.env = pure false) :
    Ex C σ (.Expr (.Call (.Attribute (.Name (Str.ofString x) xp) name apos) [e] [] pos) epos) Q := by
  intro F mine T s hA
  refine wpAny_Expr_any ?_ hint hsw
  rw [arm_eval_Call, hbase]
  refine wpAny_bind (wpAny_Name (tr_loadO ok hA hf ho hxa hn fun hr => ?_) hd)
  refine wpAny_bind (wpAny_standAt ?_)
  have hst : (starEach [e] C.env).all (fun x => !x.1) = true := by rw [hs]; rfl
  have hform : methodCallForm ([e].length + ([] : List Keyword).length) (backTo pos (starEach [e] C.env)) (backToKw pos (keywordEach [] C.env)) = true := by rw [hs]; rfl
  have hpos : methodCallPos true (.Name (Str.ofString x) xp) C.env apos pos = pure pos := by unfold methodCallPos; simp [hline]
  obtain ⟨hT, o, hob, hod⟩ := hr.typeIs ho
  unfold methodCall
  rw [hform]
  refine wpAny_bind (wpAny_holding (getMethod_builtin hT pa slot hty (fun x hx => by cases hx; exact ⟨o, hob, hod⟩) ?_))
  refine wpAny_bind (wpAny_of_eq hpos ?_)
  refine callWith_builtin (any_backTo hst) (evalArgs_list hst ?_)
  rw [backTo_cons hs]
  refine spliced_cons (Tr.then h hA fun w s1 v σ1 m1 T1 hq_ p1 a1 r1 => ?_)
  obtain ⟨sl1, hf1, ho1, hop⟩ := hq_
  refine wpAny_items_nil ?_
  refine OpM.abs hop a1 hf1 ho1 (.cons r1 .nil) fun r s2 sl2 T2 hP hK ho2 p2 a2 => ?_
  exact ⟨.next, _, m1, T2, hK, p1.trans p2, a2, .next⟩

/-- x[k] = e, x a list or dict of the frame's own -/
theorem ex_setItemO {n : Nat} (ok : C.Ok n) {x : String} {xp tp pos : Pos} {k e : Expr} {a : Addr} {P : Unit → Prop} {Q : Fl → St → Prop}
    (h : Ev C σ e (fun v σ1 => ∃ sl, find σ1 (Str.ofString x) = some sl ∧ sl.adr = some a ∧ Ev C σ1 k (fun i σ2 => ∃ sl2, find σ2 (Str.ofString x) = some sl2 ∧ sl2.adr = some a ∧ OpM C sl2 [i, v] (fun d ws => match ws with | [k, v] => setItem d k v | _ => pure ()) P (fun sl3 => Q .next (put σ2 (Str.ofString x) x sl3)))))
    (hxa : Str.ofString x ≠ anonS) (hn : (Str.ofString x == ("__classdict__" : Str)) = false) (hd : (Str.ofString x == ("__debug__" : Str)) = false)
    (hsw : swapsWith e (some (.Subscript (.Name (Str.ofString x) xp) k tp)) pos.line C.env = pure false) :
    Ex C σ (.Assign [.Subscript (.Name (Str.ofString x) xp) k tp] e pos) Q := by
  refine Tr.intro' fun F mine T s QQ fin hA => ?_
  refine wpAny_Assign_Subscript (Tr.then h hA fun w s1 v σ1 m1 T1 hq_ p1 a1 r1 => ?_) hsw
  obtain ⟨sl, hf1, ho1, hk⟩ := hq_
  refine wpAny_Name (tr_loadO ok a1 hf1 ho1 hxa hn fun _ => ?_) hd
  refine Tr.then hk a1 fun kw s2 i σ2 m2 T2 hq_ p2 a2 r2 => ?_
  obtain ⟨sl2, hf2, ho2, hop⟩ := hq_
  refine OpM.abs hop a2 hf2 ho2 (.cons r2 (.cons (r1.mono p2.le) .nil)) fun r s3 sl3 T3 hP hK ho3 p3 a3 => ?_
  exact fin _ _ .next _ m2 T3 hK ((p1.trans p2).trans p3) a3 .next

/-! ## while -/
theorem ex_while {n : Nat} (ok : C.Ok n) {test : Expr} {body orelse : List Stmt} {pos : Pos} {Q : Fl → St → Prop} (I : Nat → St → Prop)
    (step : ∀ k σ, I k σ → Tst C σ test (fun b σ1 => (b = false → Exs C σ1 orelse Q) ∧ (b = true → Exs C σ1 body (fun fl σ2 => match fl with
      | .next => ∃ k', k' < k ∧ I k' σ2
      | .cont => ∃ k', k' < k ∧ I k' σ2
      | .brk => Q .next σ2
      | .ret v => Q (.ret v) σ2)))) (k : Nat) (h : I k σ) : Ex C σ (.While test body orelse pos) Q := by
  refine Tr.intro' fun F mine T s QQ fin hA => ?_
  refine wpAny_While (codeAny_whileLoop (I := fun k' s' => ∃ σ' m' T', I k' σ' ∧ Post F mine T s m' T' s' ∧ Abs C F m' T' σ' s') ?_ k ⟨σ, mine, T, h, .refl _ _ _ _, hA⟩)
  rintro k' s' ⟨σ', m', T', hI, p', a'⟩
  refine wpAny_passesOwn ok.hx (Tr.then (step k' σ' hI) a' fun b s1 b' σ1 m1 T1 q p1 a1 r => ?_)
  have r : b' = b := r
  subst r
  cases b' with
  | false =>
    refine wpAny_passesOwn ok.hx (Tr.then (q.1 rfl) a1 fun f s2 fl2 σ2 m2 T2 q2 p2 a2 r2 => ?_)
    exact fin _ _ fl2 σ2 m2 T2 q2 ((p'.trans p1).trans p2) a2 r2
  | true =>
    refine wpAny_passesOwn ok.hx (Tr.then (q.2 rfl) a1 fun f s2 fl2 σ2 m2 T2 q2 p2 a2 r2 => ?_)
    cases r2 with
    | next => obtain ⟨k2, hk2, hI2⟩ := q2; exact ⟨k2, hk2, σ2, m2, T2, hI2, (p'.trans p1).trans p2, a2⟩
    | cont => obtain ⟨k2, hk2, hI2⟩ := q2; exact ⟨k2, hk2, σ2, m2, T2, hI2, (p'.trans p1).trans p2, a2⟩
    | brk => exact fin _ _ .next σ2 m2 T2 q2 ((p'.trans p1).trans p2) a2 .next
    | ret r => exact fin _ _ (.ret _) σ2 m2 T2 q2 ((p'.trans p1).trans p2) a2 (.ret r)
end
end Sx
end
section
open PySem PySem.W PyProof.Rows PySem.Calls
set_option linter.unusedVariables false
set_option Elab.async false
set_option maxRecDepth 100000
namespace Sx

/-! ## comprehensions -/
structure PostX (ex F mine : List Addr) (T : TM) (s : Shared) (mine' : List Addr) (T' : TM) (s' : Shared) : Prop where
  same : ∃ h' tk, s' = { s with heap := h', toks := tk }
  le : Le (view (F ++ mine) T s) (view (F ++ mine') T' s')
  far : ∀ a ∈ F, a ∉ ex → s'.heap.get? a = s.heap.get? a
theorem PostX.trans {ex F m1 m2 m3 : List Addr} {T1 T2 T3 : TM} {s1 s2 s3 : Shared} (x : PostX ex F m1 T1 s1 m2 T2 s2) (y : PostX ex F m2 T2 s2 m3 T3 s3) : PostX ex F m1 T1 s1 m3 T3 s3 := by
  obtain ⟨h, t, rfl⟩ := x.same
  obtain ⟨h', t', rfl⟩ := y.same
  exact ⟨⟨h', t', rfl⟩, x.le.trans y.le, fun a ha hx => (y.far a ha hx).trans (x.far a ha hx)⟩
theorem PostX.refl (ex F mine : List Addr) (T : TM) (s : Shared) : PostX ex F mine T s mine T s := ⟨⟨_, _, rfl⟩, .refl _, fun _ _ _ => rfl⟩
theorem Post.x {F mine mine' : List Addr} {T T' : TM} {s s' : Shared} (p : Post F mine T s mine' T' s') (ex : List Addr) : PostX ex F mine T s mine' T' s' := ⟨p.same, p.le, fun a ha _ => p.far a ha⟩
theorem PostX.mono {ex ex' F mine mine' : List Addr} {T T' : TM} {s s' : Shared} (p : PostX ex F mine T s mine' T' s') (h : ∀ a ∈ ex, a ∈ ex') : PostX ex' F mine T s mine' T' s' := ⟨p.same, p.le, fun a ha hx => p.far a ha fun q => hx (h a q)⟩

/-- a step that turns somebody else's things alone -/
theorem Abs.turnF {C : Cx} {σ : St} {F mine ex : List Addr} {T T' : TM} {s s' : Shared} (hA : Abs C F mine T σ s) (same : ∃ h' tk, s' = { s with heap := h', toks := tk }) (keep : ∀ b o, b ∉ ex → s.heap.get? b = some o → s'.heap.get? b = some o)
    (live : ∀ b ∈ ex, (s'.heap.get? b).isSome = true) (sub : ∀ b ∈ ex, b ∈ F) (cx : ∀ x c, C.env.cells.lookup x = some c → c ∉ ex) (hT : TLe T T') (tok : TOk T' s'.toks) : PostX ex F mine T s mine T' s' ∧ Abs C F mine T' σ s' := by
  have le : Le (view (F ++ mine) T s) (view (F ++ mine) T' s') := ⟨fun b o e => view_mk (view_not e) (keep b o (fun q => view_not e (List.mem_append_left _ (sub b q))) (view_of e)), hT⟩
  have hm : ∀ b ∈ mine, b ∉ ex := fun b hb q => hA.nin b hb (sub b q)
  refine ⟨⟨same, le, fun b hb hx => ?_⟩, hA.other le (fun b o hb e => keep b o (hm b hb) e) (fun x c e => ⟨?_, fun o e' => keep c o (cx x c e) e'⟩) (fun b hb => ?_) hA.nin tok⟩
  · obtain ⟨o, ho⟩ := Option.isSome_iff_exists.mp (hA.live b (List.mem_append_left _ hb))
    rw [ho]; exact keep b o hx ho
  · obtain ⟨m, cm, f⟩ := hA.frm
    exact f.cown x c e
  · by_cases q : b ∈ ex
    · exact live b q
    · obtain ⟨o, ho⟩ := Option.isSome_iff_exists.mp (hA.live b hb)
      rw [keep b o q ho]; rfl

noncomputable abbrev Tsts (C : Cx) (σ : St) (ifs : List Expr) (Q : Bool → St → Prop) : Prop :=
  Tr C σ RB (forIn ifs true fun c r => if r = true then do let ok ← isTrue c C.env (eval c C.env); pure (ForInStep.yield ok) else pure (ForInStep.yield r)) Q

/-- a step of a comprehension: what is under way, at D, turns from sl to another -/
noncomputable def TrA {α : Type} (C : Cx) (σ : St) (D : Addr) (sl : Slot) (t : Sem α) (Q : Slot → St → Prop) : Prop :=
  ∀ F mine T s, D ∈ F → (∀ x c, C.env.cells.lookup x = some c → c ≠ D) → Abs C F mine T σ s → sl.adr = some D → SlotRep C.W (view (F ++ mine) T s) s.heap sl (.ref D) →
    wpAny C.M C.A t (fun _ s' => ∃ sl' σ' mine' T', Q sl' σ' ∧ sl'.adr = some D ∧ PostX [D] F mine T s mine' T' s' ∧ Abs C F mine' T' σ' s' ∧ SlotRep C.W (view (F ++ mine') T' s') s'.heap sl' (.ref D)) C.X s

noncomputable def CLoop (C : Cx) (D : Addr) (target : Expr) (ifs : List Expr) (tail : Sem Unit) (K : Slot → St → Prop) : List V → Slot → St → Prop
  | [], sl, σ => K sl σ
  | x :: xs, sl, σ => Asg C σ target x (fun σ1 => Tsts C σ1 ifs (fun ok σ2 => (ok = true → TrA C σ2 D sl tail (fun sl' σ3 => CLoop C D target ifs tail K xs sl' σ3)) ∧ (ok = false → CLoop C D target ifs tail K xs sl σ2)))

noncomputable def turnT (ip : Pos) (target : Expr) (ifs : List Expr) (it : Value) (env : Env) (tail : Sem Unit) (c : Code) : Sem Fin := do
  standAt ip
  match ← pyNext it with
  | none => pure (.done .next)
  | some v =>
    letOwnedTupleGo target it v
    assign target env v
    let mut ok := true
    for c in ifs do
      if ok then ok ← isTrue c env (eval c env)
    if ok then tail
    again c

section
variable {C : Cx} {σ : St}

theorem tsts_nil {Q : Bool → St → Prop} (h : Q true σ) : Tsts C σ [] Q := fun F mine T s hA => wpAny_pure ⟨true, σ, mine, T, h, .refl _ _ _ _, hA, rfl⟩
theorem tsts_one {c : Expr} {Q : Bool → St → Prop} (h : Tst C σ c Q) : Tsts C σ [c] Q := fun F mine T s hA => wpAny_tests_one (h F mine T s hA)

theorem trA_list {elt : Expr} {D : Addr} {sl : Slot} {Q : Slot → St → Prop} (h : Ev C σ elt (fun y σ1 => OpM C sl [y] (fun l ws => call (.builtin "list.append") (l :: ws)) (fun r => r = .none) (fun sl' => Q sl' σ1))) :
    TrA C σ D sl (do let _ ← call (.builtin "list.append") [.ref D, ← eval elt C.env]) Q := by
  intro F mine T s hD hcD hA ho hs
  refine wpAny_bind (Tr.then h hA fun w s1 y σ1 m1 T1 hop p1 a1 r1 => ?_)
  have hs1 : SlotRep C.W (view (F ++ m1) T1 s1) s1.heap sl (.ref D) := hs.mono p1.le fun b hb o e => by rw [ho] at hb; cases hb; exact (p1.far D hD).trans e
  refine wpAny_bind (wpAny_mono (hop (F ++ m1) T1 s1 D [w] a1.ownOk (List.mem_append_left _ hD) ho hs1 (.cons r1 .nil)) ?_ fun _ _ x => x)
  rintro r s2 ⟨_, sl2, T2, hQ, ho2, k, hs2⟩
  obtain ⟨p2, a2⟩ := a1.turnF (ex := [D]) k.same (fun b o hb e => k.keep b o (by simpa using hb) e) (fun b hb => by rw [List.mem_singleton.mp hb]; exact k.live) (fun b hb => by rw [List.mem_singleton.mp hb]; exact hD)
    (fun x c e q => hcD x c e (List.mem_singleton.mp q)) k.tle k.tok
  exact wpAny_pure ⟨sl2, σ1, m1, T2, hQ, ho2, (p1.x _).trans p2, a2, hs2⟩

theorem trA_dict {kx vx : Expr} {p : Pos} {D : Addr} {sl : Slot} {Q : Slot → St → Prop} (h : Ev C σ kx (fun k σ1 => Ev C σ1 vx (fun v σ2 => OpM C sl [k, v] (fun d ws => match d, ws with | .ref d, [k, v] => dictSet d k v | _, _ => pure ()) (fun _ => True) (fun sl' => Q sl' σ2)))) :
    TrA C σ D sl (do
        let kv ← eval kx C.env
        let vv ← holding [kv] (eval vx C.env)
        standAt p
        holding [kv, vv] (dictSet D kv vv)) Q := by
  intro F mine T s hD hcD hA ho hs
  refine wpAny_bind (Tr.then h hA fun kw s1 k σ1 m1 T1 hq p1 a1 r1 => ?_)
  refine wpAny_bind (wpAny_holding (Tr.then hq a1 fun w s2 v σ2 m2 T2 hop p2 a2 r2 => ?_))
  have p12 := p1.trans p2
  have hs2 : SlotRep C.W (view (F ++ m2) T2 s2) s2.heap sl (.ref D) := hs.mono p12.le fun b hb o e => by rw [ho] at hb; cases hb; exact (p12.far D hD).trans e
  refine wpAny_bind (wpAny_standAt (wpAny_holding (wpAny_mono (hop (F ++ m2) T2 s2 D [kw, w] a2.ownOk (List.mem_append_left _ hD) ho hs2 (.cons (r1.mono p2.le) (.cons r2 .nil))) ?_ fun _ _ x => x)))
  rintro r s3 ⟨_, sl3, T3, hQ, ho3, k, hs3⟩
  obtain ⟨p3, a3⟩ := a2.turnF (ex := [D]) k.same (fun b o hb e => k.keep b o (by simpa using hb) e) (fun b hb => by rw [List.mem_singleton.mp hb]; exact k.live) (fun b hb => by rw [List.mem_singleton.mp hb]; exact hD)
    (fun x c e q => hcD x c e (List.mem_singleton.mp q)) k.tle k.tok
  exact ⟨sl3, σ2, m2, T3, hQ, ho3, (p12.x _).trans p3, a3, hs3⟩

theorem comp_loop {ip : Pos} {target : Expr} {ifs : List Expr} {tail : Sem Unit} {c : Code} {I D : Addr} {F₀ : List Addr} {g0 : PH} {xs : List V} {fp : List Addr} {St' : Nat → Heap → Prop} {Mid : Nat → Value → Heap → Prop} {R : Result → Shared → Prop} {K : Slot → St → Prop}
    (hX : ∀ v s, C.X v s → False) (hq : c.quiet = true) (hden : C.M.den c = (turnT ip target ifs (.ref I) C.env tail c).onRaise (fun x => do noteFrame x C.env; theTreesLotGoes x)) (hunder : C.A.under c = C.A)
    (hI : Itr C.W C.A target I g0 xs fp St' Mid) (hIF₀ : I ∉ F₀) (hDF₀ : D ∈ F₀) (hDI : D ≠ I) (hDf : D ∉ fp) (hcI : ∀ x c, C.env.cells.lookup x = some c → c ≠ I) (hcD : ∀ x c, C.env.cells.lookup x = some c → c ≠ D)
    {m0 : List Addr} {T0 : TM} {s0 : Shared} {σ0 : St} {sl0 : Slot} (hfp : ∀ b ∈ fp, b ≠ I → ∃ o, (view ((F₀ ++ [I]) ++ m0) T0 s0).ob b = some o) (hg : Le g0 (view ((F₀ ++ [I]) ++ m0) T0 s0)) (hA : Abs C (F₀ ++ [I]) m0 T0 σ0 s0) (hst : St' 0 s0.heap) (ho : sl0.adr = some D) (hs : SlotRep C.W (view ((F₀ ++ [I]) ++ m0) T0 s0) s0.heap sl0 (.ref D))
    (hL : CLoop C D target ifs tail K xs sl0 σ0)
    (hR : ∀ s' sl' σ' m' T', K sl' σ' → sl'.adr = some D → (∃ h' tk, s' = { s0 with heap := h', toks := tk }) → Le (view ((F₀ ++ [I]) ++ m0) T0 s0) (view (F₀ ++ m') T' s') → (∀ a ∈ F₀, a ≠ D → s'.heap.get? a = s0.heap.get? a) → Abs C F₀ m' T' σ' s' → SlotRep C.W (view (F₀ ++ m') T' s') s'.heap sl' (.ref D) → R (.ok .next) s') : codeAny C.M C.A c R s0 := by
  obtain ⟨F, hF⟩ : ∃ F, F₀ ++ [I] = F := ⟨_, rfl⟩
  have hIF : I ∈ F := by rw [← hF]; simp
  have hDF : D ∈ F := by rw [← hF]; exact List.mem_append_left _ hDF₀
  rw [hF] at hfp hg hA hs hR
  refine codeAny_loop hq (fun k s' => ∃ i sl' σ' m' T', k = xs.length + 1 - i ∧ i ≤ xs.length ∧ CLoop C D target ifs tail K (xs.drop i) sl' σ' ∧ sl'.adr = some D ∧ PostX [D, I] F m0 T0 s0 m' T' s' ∧ Abs C F m' T' σ' s' ∧ St' i s'.heap ∧ SlotRep C.W (view (F ++ m') T' s') s'.heap sl' (.ref D)) ?_ (xs.length + 1)
    ⟨0, sl0, σ0, m0, T0, rfl, Nat.zero_le _, by simpa using hL, ho, .refl _ _ _ _ _, hA, hst, hs⟩
  rintro k s' ⟨i, sl', σ', m', T', rfl, hi, hL', ho', p', a', st', hs'⟩
  rw [hunder, hden]
  refine wpAny_noted ?_
  unfold turnT
  refine wpAny_bind (wpAny_standAt (wpAny_bind ?_))
  have leg := hg.trans p'.le
  cases hx : xs[i]? with
  | none =>
    have hlen : xs.length ≤ i := List.getElem?_eq_none_iff.mp hx
    have hie : i = xs.length := Nat.le_antisymm hi hlen
    subst hie
    rw [List.drop_length] at hL'
    refine hI.done s' _ _ st' fun h' hk' => wpAny_pure ?_
    have sub : ∀ m, ∀ b ∈ F₀ ++ m, b ∈ F ++ m := fun m b hb => by
      rcases List.mem_append.mp hb with hb | hb
      · exact List.mem_append_left _ (by rw [← hF]; exact List.mem_append_left _ hb)
      · exact List.mem_append_right _ hb
    have nI : ∀ b ∈ F₀ ++ m', b ≠ I := fun b hb q => by
      rcases List.mem_append.mp hb with hb | hb
      · exact hIF₀ (q ▸ hb)
      · exact a'.nin b hb (q ▸ hIF)
    have leI : Le (view (F ++ m') T' s') (view (F₀ ++ m') T' { s' with heap := h' }) := ⟨fun b o e => view_mk (fun q => view_not e (sub _ b q)) (hk' b o (fun q => view_not e (q ▸ List.mem_append_left _ hIF)) (view_of e)), fun _ _ e => e⟩
    have a3 : Abs C F₀ m' T' σ' { s' with heap := h' } := by
      refine a'.other leI (fun b o hb e => hk' b o (nI b (List.mem_append_right _ hb)) e) (fun x c e => ⟨?_, fun o e' => hk' c o (hcI x c e) e'⟩) (fun b hb => ?_) (fun b hb hF' => a'.nin b hb (by rw [← hF]; exact List.mem_append_left _ hF')) a'.tok
      · obtain ⟨m, cm, f⟩ := a'.frm
        have := f.cown x c e
        rw [← hF] at this
        simp only [List.mem_append, List.mem_singleton] at this ⊢
        rcases this with (h | h) | h
        · exact .inl h
        · exact absurd h (hcI x c e)
        · exact .inr h
      · obtain ⟨o, ho⟩ := Option.isSome_iff_exists.mp (a'.live b (sub _ b hb))
        show (h'.get? b).isSome = true
        rw [hk' b o (nI b hb) ho]; rfl
    refine hR _ sl' σ' m' T' hL' ho' ?_ (p'.le.trans leI) (fun b hb hbD => ?_) a3 (hs'.mono leI fun b hb o e => by rw [ho'] at hb; cases hb; exact hk' _ o hDI e)
    · obtain ⟨h0, t0, rfl⟩ := p'.same
      exact ⟨h', _, rfl⟩
    · have hbI : b ≠ I := fun q => hIF₀ (q ▸ hb)
      have hbF : b ∈ F := by rw [← hF]; exact List.mem_append_left _ hb
      obtain ⟨o, ho⟩ := Option.isSome_iff_exists.mp (hA.live b (List.mem_append_left _ hbF))
      have e1 := p'.far b hbF (by simp [hbD, hbI])
      rw [ho] at e1 ⊢
      exact hk' b o hbI e1
  | some x =>
    have hlt : i < xs.length := (List.getElem?_eq_some_iff.mp hx).1
    have hdrop : xs.drop i = x :: xs.drop (i + 1) := by
      rw [List.drop_eq_getElem_cons hlt]
      congr 1
      have := List.getElem?_eq_getElem hlt
      rw [hx] at this; exact (Option.some.inj this).symm
    rw [hdrop] at hL'
    have IF : I ∈ F ++ m' := List.mem_append_left _ hIF
    refine hI.item i x _ T' s' _ _ hx st' IF a'.tok a'.live leg fun v h3 tk3 T3 htk3 hm3 hk3 hT3 htok3 hrep => ?_
    refine wpAny_bind (hI.go i v _ _ _ hm3 fun h4 hst4 hk4 => ?_)
    have hk34 : ∀ b o, b ≠ I → s'.heap.get? b = some o → h4.get? b = some o := fun b o hb e => hk4 b o hb (hk3 b o hb e)
    obtain ⟨p4, a4⟩ := a'.turnF (ex := [I]) (T' := T3) (s' := { s' with heap := h4, toks := tk3 }) ⟨h4, tk3, rfl⟩ (fun b o hb e => hk34 b o (by simpa using hb) e) (fun b hb => by rw [List.mem_singleton.mp hb]; exact hI.live _ _ hst4) (fun b hb => by rw [List.mem_singleton.mp hb]; exact hIF)
      (fun x c e q => hcI x c e (List.mem_singleton.mp q)) hT3 htok3
    have r4 : Rep C.W (view (F ++ m') T3 { s' with heap := h4, toks := tk3 }) x v := hrep T3 _ (fun _ _ e => e) fun b o hb e => hk4 b o (fun q => hb (q ▸ IF)) e
    have hs4 : SlotRep C.W (view (F ++ m') T3 { s' with heap := h4, toks := tk3 }) h4 sl' (.ref D) := hs'.mono p4.le fun b hb o e => by rw [ho'] at hb; cases hb; exact hk34 _ o hDI e
    have hst4' : St' (i + 1) { s' with heap := h4, toks := tk3 }.heap := hst4
    obtain ⟨s4, es4⟩ : ∃ s4 : Shared, s4 = { s' with heap := h4, toks := tk3 } := ⟨_, rfl⟩
    rw [← es4] at p4 a4 r4 hst4' ⊢
    have hs4 : SlotRep C.W (view (F ++ m') T3 s4) s4.heap sl' (.ref D) := by rw [es4]; exact hs4
    -- the frame of the iterator through a step that leaves what stands
    have stk : ∀ m5 T5 s5, PostX [D] F m' T3 s4 m5 T5 s5 → St' (i + 1) s5.heap := by
      intro m5 T5 s5 p5
      refine hI.frame (i + 1) s4.heap s5.heap hst4' fun b hb o e => ?_
      by_cases q : b = I
      · subst q
        exact (p5.far b hIF (by simpa using Ne.symm hDI)).trans e
      · obtain ⟨o', ho'⟩ := hfp b hb q
        have e1 := p4.le.ob b o' (p'.le.ob b o' ho')
        have e2 := view_of e1
        rw [e] at e2
        cases e2
        exact view_of (p5.le.ob b o e1)
    refine wpAny_bind (wpAny_mono (hL' F m' T3 s4 v a4 r4) ?_ fun v s x => (hX v s x).elim)
    rintro _ s5 ⟨σ5, m5, T5, q5, p5, a5⟩
    refine wpAny_bind (wpAny_mono (q5 F m5 T5 s5 a5) ?_ fun v s x => (hX v s x).elim)
    rintro ok s6 ⟨ok', σ6, m6, T6, q6, p6, a6, r6⟩
    have r6 : ok' = ok := r6
    subst r6
    have p56 := p5.trans p6
    have hs6 : SlotRep C.W (view (F ++ m6) T6 s6) s6.heap sl' (.ref D) := hs4.mono p56.le fun b hb o e => by rw [ho'] at hb; cases hb; exact (p56.far D hDF).trans e
    have p06 : PostX [D, I] F m0 T0 s0 m6 T6 s6 := (p'.trans (p4.mono (by simp))).trans (p56.x _)
    cases ok' with
    | false =>
      refine wpAny_pure ⟨rfl, xs.length + 1 - (i + 1), by omega, i + 1, sl', σ6, m6, T6, rfl, hlt, q6.2 rfl, ho', p06, a6, stk _ _ _ (p56.x _), hs6⟩
    | true =>
      refine wpAny_bind (wpAny_mono (q6.1 rfl F m6 T6 s6 hDF hcD a6 ho' hs6) ?_ fun v s x => (hX v s x).elim)
      rintro _ s7 ⟨sl7, σ7, m7, T7, q7, ho7, p7, a7, hs7⟩
      exact wpAny_pure ⟨rfl, xs.length + 1 - (i + 1), by omega, i + 1, sl7, σ7, m7, T7, rfl, hlt, q7, ho7, p06.trans (p7.mono (by simp)), a7, stk _ _ _ ((p56.x _).trans p7), hs7⟩
end
end Sx
end
section
open PySem PySem.W PyProof.Rows PySem.Calls
set_option linter.unusedVariables false
set_option Elab.async false
set_option maxRecDepth 100000
namespace Sx

/-! ## a whole comprehension -/
noncomputable def closGo (cells : List (Str × Addr)) : List (Str × NameKind) → List (Str × Addr) → List (Str × Addr)
  | [], cs => cs
  | (n, k) :: r, cs => if k == .free then closGo cells r ((n, (cells.lookup n).getD 0) :: cs) else closGo cells r cs

theorem closGo_eq {env : Env} : ∀ (names : List (Str × NameKind)) (cs : List (Str × Addr)), (∀ x ∈ names, x.2 = .free → (env.cells.lookup x.1).isSome = true) →
    (forIn names cs fun x (r : List (Str × Addr)) => if x.2 == .free then do let a ← cellOf env x.1; pure (ForInStep.yield ((x.1, a) :: r)) else pure (ForInStep.yield r) : Sem _) = pure (closGo env.cells names cs)
  | [], cs, _ => rfl
  | (n, k) :: r, cs, h => by
    have ih := fun cs => closGo_eq (env := env) r cs fun x hx => h x (List.mem_cons_of_mem _ hx)
    simp only [List.forIn_cons, closGo]
    by_cases hk : (k == NameKind.free) = true
    · rw [if_pos hk, if_pos hk]
      have hs := h (n, k) List.mem_cons_self (by simpa using hk)
      obtain ⟨a, ha⟩ := Option.isSome_iff_exists.mp hs
      have ha : env.cells.lookup n = some a := ha
      have e : cellOf env n = pure a := by unfold cellOf; rw [ha]
      rw [e, ha]
      exact ih _
    · rw [if_neg hk, if_neg hk]
      exact ih _
theorem closureFor_eq {scope : Scope} {env : Env} (h : ∀ x ∈ scope.names, x.2 = .free → (env.cells.lookup x.1).isSome = true) : closureFor scope env = pure (closGo env.cells scope.names []) := by
  have := closGo_eq (env := env) scope.names [] h
  unfold closureFor
  show (forIn scope.names [] fun (x : Str × NameKind) (r : List (Str × Addr)) => if x.2 == .free then do let a ← cellOf env x.1; pure (ForInStep.yield ((x.1, a) :: r)) else pure (ForInStep.yield r)) >>= _ = _
  rw [this]; rfl

theorem closGo_lookup {cells : List (Str × Addr)} {x : Str} {c : Addr} : ∀ (names : List (Str × NameKind)) (cs : List (Str × Addr)), (closGo cells names cs).lookup x = some c → cs.lookup x = some c ∨ ((x, NameKind.free) ∈ names ∧ c = (cells.lookup x).getD 0)
  | [], cs, h => .inl h
  | (n, k) :: r, cs, h => by
    unfold closGo at h
    by_cases hk : (k == NameKind.free) = true
    · rw [if_pos hk] at h
      rcases closGo_lookup r _ h with h | ⟨h1, h2⟩
      · rw [List.lookup_cons] at h
        cases hx : x == n with
        | true =>
          rw [hx] at h
          have e : x = n := by simpa using hx
          have : k = .free := by simpa using hk
          subst e; subst this
          exact .inr ⟨List.mem_cons_self, by simpa using h.symm⟩
        | false => rw [hx] at h; exact .inl h
      · exact .inr ⟨List.mem_cons_of_mem _ h1, h2⟩
    · rw [if_neg hk] at h
      rcases closGo_lookup r _ h with h | ⟨h1, h2⟩
      · exact .inl h
      · exact .inr ⟨List.mem_cons_of_mem _ h1, h2⟩
theorem closGo_keeps {cells : List (Str × Addr)} {x : Str} : ∀ (names : List (Str × NameKind)) (cs : List (Str × Addr)), (cs.lookup x).isSome = true → ((closGo cells names cs).lookup x).isSome = true
  | [], cs, h => h
  | (n, k) :: r, cs, h => by
    unfold closGo
    split
    · refine closGo_keeps r _ ?_
      rw [List.lookup_cons]; cases x == n <;> simp [h]
    · exact closGo_keeps r _ h
theorem closGo_has {cells : List (Str × Addr)} {x : Str} : ∀ (names : List (Str × NameKind)) (cs : List (Str × Addr)), (x, NameKind.free) ∈ names → ((closGo cells names cs).lookup x).isSome = true
  | [], cs, h => by cases h
  | (n, k) :: r, cs, h => by
    unfold closGo
    rcases List.mem_cons.mp h with e | h
    · injection e with e1 e2
      subst e1; subst e2
      rw [if_pos (show (NameKind.free == NameKind.free) = true from rfl)]
      exact closGo_keeps r _ (by rw [List.lookup_cons]; simp)
    · split
      · exact closGo_has r _ h
      · exact closGo_has r _ h

theorem relabel_lookup {env : Env} : ∀ {names : List (Str × NameKind)} {x : Str} {k : NameKind},
    (names.map fun (n, k) => if (k == NameKind.free && env.scope.kind == .function && env.kindOf n == some .cell) then (n, NameKind.cell) else (n, k)).lookup x = some k → (x, k) ∈ names ∨ (k = .cell ∧ (x, NameKind.free) ∈ names)
  | [], _, _, h => by simp at h
  | (n, k') :: r, x, k, h => by
    rw [List.map_cons] at h
    by_cases hc : (k' == NameKind.free && env.scope.kind == .function && env.kindOf n == some .cell) = true
    · simp only [hc, if_true, List.lookup_cons] at h
      have hk' : k' = .free := by
        rw [Bool.and_eq_true, Bool.and_eq_true] at hc
        simpa using hc.1.1
      cases hx : x == n with
      | true =>
        rw [hx] at h
        have e : x = n := by simpa using hx
        subst e; subst hk'
        exact .inr ⟨by simpa using h.symm, List.mem_cons_self⟩
      | false =>
        rw [hx] at h
        rcases relabel_lookup h with h | ⟨h1, h2⟩
        · exact .inl (List.mem_cons_of_mem _ h)
        · exact .inr ⟨h1, List.mem_cons_of_mem _ h2⟩
    · simp only [hc, Bool.false_eq_true, if_false, List.lookup_cons] at h
      cases hx : x == n with
      | true =>
        rw [hx] at h
        have e : x = n := by simpa using hx
        subst e
        have h : k' = k := by simpa using h
        subst h
        exact .inl List.mem_cons_self
      | false =>
        rw [hx] at h
        rcases relabel_lookup (by simpa using h) with h | ⟨h1, h2⟩
        · exact .inl (List.mem_cons_of_mem _ h)
        · exact .inr ⟨h1, List.mem_cons_of_mem _ h2⟩

noncomputable def compCx (C : Cx) (scope : Scope) (cl : List (Str × Addr)) (L : Addr) : Cx := { W := C.W, A := C.A, env := compEnvC scope cl L C.env, ownC := false, X := fun _ _ => False, an := none }
theorem compCx_ok {C : Cx} {n : Nat} {scope : Scope} {cl : List (Str × Addr)} {L : Addr} (ok : C.Ok n) (hk : scope.kind = .function) : (compCx C scope cl L).Ok n :=
  { W := ok.W, hh := ok.hh, hu := ok.hu, hd := ok.hd, hk := hk, hg := ok.hg, hb := ok.hb, hx := PassesOwn.never }

/-- what a comprehension sees of the frame around it -/
noncomputable def capSt (fv : List String) (σ : St) : St := fv.filterMap fun x => match find σ (Str.ofString x) with | some (.val u) => some (x, .val u) | _ => none
theorem find_capSt {fv : List String} {σ : St} {y : Str} {sl : Slot} (h : find (capSt fv σ) y = some sl) : ∃ x ∈ fv, y = Str.ofString x ∧ find σ y = some sl ∧ ∃ u, sl = .val u := by
  unfold capSt at h
  induction fv with
  | nil => simp [find] at h
  | cons x r ih =>
    rw [List.filterMap_cons] at h
    split at h
    · obtain ⟨z, h1, h2⟩ := ih h; exact ⟨z, List.mem_cons_of_mem _ h1, h2⟩
    · rename_i p hp
      split at hp
      · rename_i u hu
        cases hp
        simp only [find] at h
        by_cases e : Str.ofString x = y
        · rw [if_pos e] at h
          cases h
          exact ⟨x, List.mem_cons_self, e.symm, e ▸ hu, u, rfl⟩
        · rw [if_neg e] at h
          obtain ⟨z, h1, h2⟩ := ih h; exact ⟨z, List.mem_cons_of_mem _ h1, h2⟩
      · cases hp

/-- a scope is a comprehension's: what the walk asks of it -/
structure CompOk (C : Cx) (scope : Scope) (fv : List String) : Prop where
  hkind : scope.kind = .function
  hcell : ∀ y ∈ scope.names, y.2 ≠ .cell
  hnames : ∀ y ∈ scope.names, y.2 = .local → scope.names.lookup y.1 = some .local
  hfree : ∀ y ∈ scope.names, y.2 = .free → C.env.kindOf y.1 = some .cell ∨ C.env.kindOf y.1 = some .free
  hfv : ∀ x ∈ fv, (C.env.kindOf (Str.ofString x) = some .cell ∨ C.env.kindOf (Str.ofString x) = some .free) ∧ ((relabel scope C.env).names.lookup (Str.ofString x) = some .cell ∨ (relabel scope C.env).names.lookup (Str.ofString x) = some .free)

theorem comp_core {C : Cx} {n : Nat} (ok : C.Ok n) {σ : St} {F mine : List Addr} {T : TM} {s₁ : Shared} (hA : Abs C F mine T σ s₁) {e : Expr} {scope : Scope} {fv : List String} (hc : CompOk C scope fv) {target : Expr} {ifs : List Expr} {ip : Pos} {a : V} {xs : List V} {va : Value}
    (hr : Rep C.W (view (F ++ mine) T s₁) a va) (hxs : seqOf a = some xs) (hrun : RunOk target a) {newAcc : Sem Value} {o0 : Obj} {sl0 : Addr → Slot} {tail : Value → Env → Sem Unit} {K : Slot → St → Prop} {E : Value → Shared → Prop} {RR : Value → Addr → Result → Shared → Prop}
    (hnew : ∀ (s : Shared) (Q : Value → Shared → Prop), Q (.ref s.heap.objs.size) { s with heap := s.heap.push o0 } → wpAny C.M C.A newAcc Q E s) (hfr : o0.isFreed = false)
    (hsl : ∀ g (h : Heap) D, (D == sysModules) = false → h.get? D = some o0 → SlotRep C.W g h (sl0 D) (.ref D) ∧ (sl0 D).adr = some D)
    (hstart : ∀ I D env R (s : Shared), codeAny C.M C.A (.compLoop e 0 (.ref I) (.ref D) env) R s → wpAny C.M C.A (pyIter (.ref I)) (fun it' s' => codeAny C.M C.A (.compLoop e 0 it' (.ref D) env) R s') (notedBy C.M C.A env fun x s' => R (.error x) s') s → codeAny C.M C.A (.compStart e 0 (.ref I) (.ref D) env) R s)
    (hturn : ∀ I D env, compTurn e 0 (.ref I) (.ref D) env = turnT ip target ifs (.ref I) env (tail (.ref D) env) (.compLoop e 0 (.ref I) (.ref D) env)) (hframe : ∀ I D env, (Code.compLoop e 0 (.ref I) (.ref D) env).isFrame = false) (hquiet : ∀ I D env, (Code.compLoop e 0 (.ref I) (.ref D) env).quiet = true) (hunder : ∀ I D env, C.A.under (.compLoop e 0 (.ref I) (.ref D) env) = C.A)
    (hL : ∀ cl D L, (compCx C scope cl L).Ok n → CLoop (compCx C scope cl L) D target ifs (tail (.ref D) (compCx C scope cl L).env) K xs (sl0 D) (capSt fv σ))
    (hRR : ∀ D L s' T' sl σ', s₁.heap.get? D = none → s₁.heap.get? L = none → D ≠ L → (∃ m, s'.heap.Ns L m) → Kp T s₁ T' s' → K sl σ' → sl.adr = some D → (s'.heap.get? D).isSome = true → SlotRep C.W (view (D :: L :: (F ++ mine)) T' s') s'.heap sl (.ref D) → RR (.ref D) L (.ok .next) s') :
    wpAny C.M C.A (pyIter va) (fun it s₂ => wpAny C.M C.A newAcc (fun acc s₃ =>
      wpAny C.M C.A (newFunctionEnv scope C.env.globals (closGo C.env.cells scope.names []) [] C.env.qual none .none (some C.env)) (fun cenv s₄ =>
        codeAny C.M C.A (.compStart e 0 it acc { cenv with scope := relabel scope C.env }) (RR acc cenv.locals) s₄) E s₃) E s₂) E s₁ := by
  refine itr_of (target := target) ok.hh hxs hrun hr fun I h2 fp St Mid hnew1 hk2 hI hst hfp => ?_
  refine hnew _ _ ?_
  obtain ⟨D, hD⟩ : ∃ D, h2.objs.size = D := ⟨_, rfl⟩
  show wpAny C.M C.A (newFunctionEnv scope C.env.globals (closGo C.env.cells scope.names []) [] C.env.qual none .none (some C.env)) (fun cenv s₄ => codeAny C.M C.A (.compStart e 0 (.ref I) (.ref h2.objs.size) { cenv with scope := relabel scope C.env }) (RR (.ref h2.objs.size) cenv.locals) s₄) E { s₁ with heap := h2.push o0 }
  obtain ⟨h3, hh3⟩ : ∃ h3, h2.push o0 = h3 := ⟨_, rfl⟩
  have hD3 : h3.get? D = some o0 := by rw [← hh3, ← hD]; exact Heap.get?_push_size _ hfr
  have hk3 : ∀ b o, h2.get? b = some o → h3.get? b = some o := fun b o e => by rw [← hh3]; exact Heap.get?_push_of_some _ e
  rw [hh3, hD]
  refine wpAny_newFunctionEnv hc.hcell (by intro y hy; simp at hy) (fun h4 hns hsb => ?_) hc.hkind
  obtain ⟨L, hLe⟩ : ∃ L, h3.objs.size = L := ⟨_, rfl⟩
  have hns : h4.Ns L (fun x => ([] : List (Str × Value)).reverse.lookup x) := hLe ▸ hns
  have hsb : Heap.SameBut L (h3.push { cls := .type "dict", data := .dict #[] }) h4 := hLe ▸ hsb
  show codeAny C.M C.A (.compStart e 0 (.ref I) (.ref D) (compEnvC scope (closGo C.env.cells scope.names []) h3.objs.size C.env)) (RR (.ref D) h3.objs.size) { s₁ with heap := h4, toks := s₁.toks + 0 }
  rw [hLe, Nat.add_zero]
  obtain ⟨cl, hcl⟩ : ∃ cl, closGo C.env.cells scope.names [] = cl := ⟨_, rfl⟩
  rw [hcl]
  have hL3 : h3.get? L = none := hLe ▸ fresh_size h3
  have hk4 : ∀ b o, h3.get? b = some o → h4.get? b = some o := fun b o e => hsb.extBut b o (fun q => by rw [q, hL3] at e; cases e) (Heap.get?_push_of_some _ e)
  have hk14 : ∀ b o, s₁.heap.get? b = some o → h4.get? b = some o := fun b o e => hk4 b o (hk3 b o (hk2 b o e))
  have hD1 : s₁.heap.get? D = none := by
    cases q : s₁.heap.get? D with
    | none => rfl
    | some o => have := Heap.lt_size (hk2 _ _ q); rw [hD] at this; exact absurd this (Nat.lt_irrefl _)
  have hL1 : s₁.heap.get? L = none := by
    cases q : s₁.heap.get? L with
    | none => rfl
    | some o => rw [hk3 _ _ (hk2 _ _ q)] at hL3; cases hL3
  have hDL : D ≠ L := fun q => by rw [q, hL3] at hD3; cases hD3
  have hIl : (h2.get? I).isSome = true := hI.live 0 _ hst
  have hDI : D ≠ I := fun q => by
    obtain ⟨o, ho⟩ := Option.isSome_iff_exists.mp hIl
    have := Heap.lt_size ho; rw [← q, ← hD] at this; exact absurd this (Nat.lt_irrefl _)
  have hIL : I ≠ L := fun q => by
    obtain ⟨o, ho⟩ := Option.isSome_iff_exists.mp hIl
    have := hk3 _ _ ho; rw [q, hL3] at this; cases this
  have nF : ∀ b ∈ F ++ mine, b ≠ I ∧ b ≠ D ∧ b ≠ L := fun b hb => ⟨fun q => (by have := hA.live b hb; rw [q, hnew1] at this; cases this), fun q => (by have := hA.live b hb; rw [q, hD1] at this; cases this), fun q => (by have := hA.live b hb; rw [q, hL1] at this; cases this)⟩
  obtain ⟨mo, cmo, fo⟩ := hA.frm
  have hcl1 : ∀ x c, cl.lookup x = some c → C.env.cells.lookup x = some c := by
    intro x c hx
    rw [← hcl] at hx
    rcases closGo_lookup _ _ hx with h | ⟨h1, h2⟩
    · cases h
    · obtain ⟨c', hc'⟩ := fo.has x (hc.hfree _ h1 rfl)
      rw [hc'] at h2
      rw [hc', h2]; rfl
  have hcN : ∀ x c, cl.lookup x = some c → c ≠ I ∧ c ≠ D ∧ c ≠ L := fun x c hx => nF c (fo.cown x c (hcl1 x c hx))
  have s4k : Kp T s₁ T { s₁ with heap := h4 } := Kp.at (tk := s₁.toks) hA.tok hk14 (Nat.le_refl _)
  obtain ⟨F₀, hF₀⟩ : ∃ F₀, (F ++ mine) ++ [D] = F₀ := ⟨_, rfl⟩
  have mF₀ : ∀ b, b ∈ F₀ ↔ (b ∈ F ++ mine ∨ b = D) := fun b => by rw [← hF₀]; simp only [List.mem_append, List.mem_singleton]
  have mFa : ∀ b, b ∈ (F₀ ++ [I]) ++ [L] ↔ (b ∈ F ++ mine ∨ b = D ∨ b = I ∨ b = L) := fun b => by
    simp only [List.mem_append, List.mem_singleton, mF₀]
    constructor
    · rintro (((h | h) | h) | h)
      · exact .inl h
      · exact .inr (.inl h)
      · exact .inr (.inr (.inl h))
      · exact .inr (.inr (.inr h))
    · rintro (h | h | h | h)
      · exact .inl (.inl (.inl h))
      · exact .inl (.inl (.inr h))
      · exact .inl (.inr h)
      · exact .inr h
  have le4 : Le (view (F ++ mine) T s₁) (view ((F₀ ++ [I]) ++ [L]) T { s₁ with heap := h4 }) := ⟨fun b o e => view_mk (fun hm => by
    have e1 := view_of e
    rcases (mFa b).mp hm with h | h | h | h
    · exact view_not e h
    · rw [h, hD1] at e1; cases e1
    · rw [h, hnew1] at e1; cases e1
    · rw [h, hL1] at e1; cases e1) (hk14 b o (view_of e)), fun _ _ e => e⟩
  have hDs : (D == sysModules) = false := by
    have h1 := ok.W.sysm
    obtain ⟨o, ho⟩ := Option.isSome_iff_exists.mp h1
    have := hA.ownOk.kb _ _ ho
    cases q : D == sysModules with
    | false => rfl
    | true => rw [show D = sysModules by simpa using q, this] at hD1; cases hD1
  obtain ⟨hsl4, had⟩ := hsl (view ((F₀ ++ [I]) ++ [L]) T { s₁ with heap := h4 }) h4 D hDs (hk4 _ _ hD3)
  have okC : (compCx C scope cl L).Ok n := compCx_ok ok hc.hkind
  have habs : Abs (compCx C scope cl L) (F₀ ++ [I]) [L] T (capSt fv σ) { s₁ with heap := h4 } := by
    refine ⟨fun b o e => le4.ob b o (hA.base b o e), fun b hb => ?_, fun b hb hF => ?_, hA.tok, fun x => ([] : List (Str × Value)).reverse.lookup x, cmo, ?_⟩
    · rcases (mFa b).mp hb with h | h | h | h
      · exact s4k.live hA.live b h
      · subst h; show (h4.get? b).isSome = true; rw [hk4 _ _ hD3]; rfl
      · subst h
        obtain ⟨o, ho⟩ := Option.isSome_iff_exists.mp hIl
        show (h4.get? b).isSome = true
        rw [hk4 _ _ (hk3 _ _ ho)]; rfl
      · subst h
        obtain ⟨o, _, _, ho, _⟩ := hns
        show (h4.get? b).isSome = true
        rw [ho]; rfl
    · rw [List.mem_singleton.mp hb] at hF
      rcases List.mem_append.mp hF with h | h
      · rcases (mF₀ L).mp h with h | h
        · exact (nF L h).2.2 rfl
        · exact hDL h.symm
      · exact hIL (List.mem_singleton.mp h).symm
    · refine { ns := hns, cells := fun x c e => (fo.cells x c (hcl1 x c e)).keeps hk14, apart := fun x y c e1 e2 => fo.apart x y c (hcl1 x c e1) (hcl1 y c e2), lc := fun x c e => (hcN x c e).2.2, has := fun x hx => ?_, lm := List.mem_singleton.mpr rfl,
               cown := fun x c e => List.mem_append_left _ (List.mem_append_left _ ((mF₀ c).mpr (.inl (fo.cown x c (hcl1 x c e))))), cmine := fun h => (by cases h), slots := fun x sl hx => ?_, own := fun x sl b hx hb => ?_, dis := fun x y sl sl' b hx _ hb _ => ?_ }
      · have hm : (x, NameKind.free) ∈ scope.names := by
          rcases hx with hx | hx
          · rcases relabel_lookup (env := C.env) hx with h | h
            · exact absurd rfl (hc.hcell _ h)
            · exact h.2
          · rcases relabel_lookup (env := C.env) hx with h | h
            · exact h
            · exact h.2
        have := closGo_has (cells := C.env.cells) scope.names [] hm
        rw [hcl] at this
        exact Option.isSome_iff_exists.mp this
      · obtain ⟨y, hy, rfl, hf, u, rfl⟩ := find_capSt hx
        obtain ⟨v, hv, hrv⟩ := fo.slots _ _ hf
        refine ⟨v, .inl ?_, hrv.mono le4 fun b hb => by cases hb⟩
        have hv := hv.val
        obtain ⟨h1, h2⟩ := hc.hfv y hy
        have e1 : cmo (Str.ofString y) = some v := by
          unfold valAt at hv
          rcases h1 with h1 | h1 <;> rw [h1] at hv <;> exact hv
        have h2 : (compCx C scope cl L).env.kindOf (Str.ofString y) = some .cell ∨ (compCx C scope cl L).env.kindOf (Str.ofString y) = some .free := h2
        unfold valAt
        rcases h2 with h2 | h2 <;> rw [h2] <;> exact e1
      · obtain ⟨y, hy, rfl, hf, u, rfl⟩ := find_capSt hx
        cases hb
      · obtain ⟨y, hy, rfl, hf, u, rfl⟩ := find_capSt hx
        cases hb
  have hIF₀ : I ∉ F₀ := fun q => by
    rcases (mF₀ I).mp q with h | h
    · exact (nF I h).1 rfl
    · exact hDI h.symm
  have hDF₀ : D ∈ F₀ := (mF₀ D).mpr (.inr rfl)
  have hDf : D ∉ fp := fun q => by
    obtain ⟨o, ho⟩ := hfp D q hDI
    have := view_of ho; rw [hD1] at this; cases this
  have key : ∀ (s : Shared), s = { s₁ with heap := h4 } → codeAny C.M C.A (.compLoop e 0 (.ref I) (.ref D) (compEnvC scope cl L C.env)) (RR (.ref D) L) s := by
    rintro s rfl
    have hst4 : St 0 h4 := hI.frame 0 h2 h4 hst fun b _ o e => hk4 b o (hk3 b o e)
    refine comp_loop (C := compCx C scope cl L) (c := .compLoop e 0 (.ref I) (.ref D) (compEnvC scope cl L C.env)) (ip := ip) (tail := tail (.ref D) (compEnvC scope cl L C.env)) (K := K) (fun v s h => h) (hquiet _ _ _) ?_ ?_ hI hIF₀ hDF₀ hDI hDf (fun x c e => (hcN x c e).1) (fun x c e => (hcN x c e).2.1) (fun b hb hne => ?_) le4 habs hst4 had hsl4 (hL cl D L okC) ?_
    · show (if (Code.compLoop e 0 (.ref I) (.ref D) (compEnvC scope cl L C.env)).isFrame then _ else _) = _
      rw [hframe, hturn]; rfl
    · exact hunder _ _ _
    · obtain ⟨o, ho⟩ := hfp b hb hne
      exact ⟨o, le4.ob b o ho⟩
    · intro s' sl' σ' m' T' hK ho' same le far a' hs'
      have hkp : Kp T s₁ T' s' := by
        refine ⟨?_, fun b o e => ?_, fun t l e => le.tk t l e, a'.tok⟩
        · obtain ⟨h', tk, rfl⟩ := same
          exact ⟨h', tk, rfl⟩
        · by_cases hb : b ∈ F ++ mine
          · exact (far b ((mF₀ b).mpr (.inl hb)) (nF b hb).2.1).trans (hk14 b o e)
          · exact view_of (le.ob b o (le4.ob b o (view_mk hb e)))
      have hLm : L ∈ m' := by obtain ⟨m, cm, f⟩ := a'.frm; exact f.lm
      refine hRR D L s' T' sl' σ' hD1 hL1 hDL ?_ hkp hK ho' (a'.live D (List.mem_append_left _ hDF₀)) (hs'.mono (view_sub fun b hb => ?_) fun _ _ _ e => e)
      · obtain ⟨m, cm, f⟩ := a'.frm
        exact ⟨m, f.ns⟩
      · rcases List.mem_cons.mp hb with rfl | hb
        · exact List.mem_append_left _ hDF₀
        · rcases List.mem_cons.mp hb with rfl | hb
          · exact List.mem_append_right _ hLm
          · exact List.mem_append_left _ ((mF₀ b).mpr (.inl hb))
  refine hstart I D _ _ _ (key _ rfl) (hI.iter 0 _ _ _ ?_ (key _ rfl))
  exact hI.frame 0 h2 h4 hst fun b _ o e => hk4 b o (hk3 b o e)
end Sx
end
section
open PySem PySem.W PyProof.Rows PySem.Calls
set_option linter.unusedVariables false
set_option Elab.async false
set_option maxRecDepth 100000
namespace Sx

structure CompForm (C : Cx) (e : Expr) (scope : Scope) (iter target : Expr) (ifs : List Expr) (ip : Pos) (newAcc : Sem Value) (o0 : Obj) (sl0 : Addr → Slot) (tail : Value → Env → Sem Unit) : Prop where
  hcl : ∃ g gs, clausesOf e = g :: gs ∧ g.iter = iter
  hnew : ∀ (E : Value → Shared → Prop) (s : Shared) (Q : Value → Shared → Prop), Q (.ref s.heap.objs.size) { s with heap := s.heap.push o0 } → wpAny C.M C.A newAcc Q E s
  hfr : o0.isFreed = false
  hsl : ∀ g (h : Heap) D, (D == sysModules) = false → h.get? D = some o0 → SlotRep C.W g h (sl0 D) (.ref D) ∧ (sl0 D).adr = some D
  hstart : ∀ I D env R (s : Shared), codeAny C.M C.A (.compLoop e 0 (.ref I) (.ref D) env) R s → wpAny C.M C.A (pyIter (.ref I)) (fun it' s' => codeAny C.M C.A (.compLoop e 0 it' (.ref D) env) R s') (notedBy C.M C.A env fun x s' => R (.error x) s') s → codeAny C.M C.A (.compStart e 0 (.ref I) (.ref D) env) R s
  hturn : ∀ I D env, compTurn e 0 (.ref I) (.ref D) env = turnT ip target ifs (.ref I) env (tail (.ref D) env) (.compLoop e 0 (.ref I) (.ref D) env)
  hframe : ∀ I D env, (Code.compLoop e 0 (.ref I) (.ref D) env).isFrame = false
  hquiet : ∀ I D env, (Code.compLoop e 0 (.ref I) (.ref D) env).quiet = true
  hunder : ∀ I D env, C.A.under (.compLoop e 0 (.ref I) (.ref D) env) = C.A

theorem compForm_list {C : Cx} {elt iter target : Expr} {ifs : List Expr} {scope : Scope} {pos : Pos} :
    CompForm C (.ListComp elt [⟨target, iter, ifs, 0⟩] scope pos) scope iter target ifs iter.pos (newList []) { cls := .type "list", data := .seq #[] } (fun D => .list D []) (fun acc env => do let _ ← call (.builtin "list.append") [acc, ← eval elt env]) where
  hcl := ⟨_, _, rfl, rfl⟩
  hnew := fun E s Q h => wpAny_newObj_type h
  hfr := rfl
  hsl := fun g h D _ e => ⟨⟨rfl, [], ⟨0, e⟩, .nil⟩, rfl⟩
  hstart := fun I D env R s h0 h => codeAny_compStart_list h0 h
  hturn := fun I D env => by rfl
  hframe := fun I D env => rfl
  hquiet := fun I D env => rfl
  hunder := fun I D env => rfl

theorem hclos_of {C : Cx} {σ : St} {F mine : List Addr} {T : TM} {s : Shared} (hA : Abs C F mine T σ s) {scope : Scope} {fv : List String} (hc : CompOk C scope fv) : closureFor scope C.env = pure (closGo C.env.cells scope.names []) := by
  obtain ⟨m, cm, f⟩ := hA.frm
  exact closureFor_eq fun x hx hk => by
    obtain ⟨c, e⟩ := f.has x.1 (hc.hfree x hx hk)
    rw [e]; rfl

section
variable {C : Cx} {σ : St}
/-- a comprehension as an expression -/
theorem comp_ev {n : Nat} (ok : C.Ok n) {e : Expr} {scope : Scope} {iter target : Expr} {ifs : List Expr} {ip pos : Pos} {newAcc : Sem Value} {o0 : Obj} {sl0 : Addr → Slot} {tail : Value → Env → Sem Unit} (cf : CompForm C e scope iter target ifs ip newAcc o0 sl0 tail)
    {fv : List String} (hc : CompOk C scope fv) {Q : Slot → St → Prop}
    (h : Ev C σ iter (fun a σ1 => ∃ xs, seqOf a = some xs ∧ RunOk target a ∧ ∀ cl D L, (compCx C scope cl L).Ok n → CLoop (compCx C scope cl L) D target ifs (tail (.ref D) (compCx C scope cl L).env) (fun sl _ => Q sl σ1) xs (sl0 D) (capSt fv σ1)))
    (hs : ∀ x, foldedSetIterable iter C.env x = pure x := by intro _; rfl) : EvF C σ (comprehension e scope C.env pos newAcc false (eval iter C.env) none) Q := by
  intro F mine T s hA
  obtain ⟨g, gs, hg, rfl⟩ := cf.hcl
  refine wpAny_comprehension_free (use := none) hg hs (hclos_of hA hc) hc.hkind hc.hnames (Tr.then h hA fun va s1 a σ1 m1 T1 hq_ p1 a1 r1 => ?_)
  obtain ⟨xs, hxs, hrun, hL⟩ := hq_
  refine comp_core ok a1 hc r1 hxs hrun (cf.hnew _) cf.hfr cf.hsl cf.hstart cf.hturn cf.hframe cf.hquiet cf.hunder hL ?_ (RR := fun acc L => compPost C.M C.A C.X none (fun v s' => ∃ sl σ' mine' a T', Q sl σ' ∧ sl.adr = some a ∧ Post F mine T s (a :: mine') T' s' ∧ a ∉ mine' ∧ AbsN C F mine' a T' σ' s' ∧ SlotRep C.W (view (F ++ (a :: mine')) T' s') s'.heap sl v) acc L)
  rintro D L s' T' sl σ' hD hL hDL ⟨m, hns⟩ hk hK ho hlv hsl
  refine ⟨m, hns, fun h' hs' => ?_⟩
  have k2 : Kp T1 s1 T' { s' with heap := h' } := by
    obtain ⟨h0, t0, rfl⟩ := hk.same
    exact ⟨⟨h', t0, rfl⟩, fun b o e => hs'.extBut b o (fun q => by rw [q, hL] at e; cases e) (hk.keep b o e), hk.tle, hk.tok⟩
  have hlv' : (h'.get? D).isSome = true := by
    obtain ⟨o, hoo⟩ := Option.isSome_iff_exists.mp hlv
    rw [hs'.extBut D o hDL hoo]; rfl
  obtain ⟨p2, hm, a2, le⟩ := a1.new k2 hD hlv'
  refine ⟨sl, σ1, m1, D, T', hK, ho, p1.trans p2, hm, a2, ?_⟩
  have s1' : SlotRep C.W (view (D :: L :: (F ++ m1)) T' { s' with heap := h' }) h' sl (.ref D) := by
    refine hsl.mono ⟨fun b o e => view_mk (view_not e) (hs'.extBut b o (fun q => view_not e (by rw [q]; exact List.mem_cons_of_mem _ List.mem_cons_self)) (view_of e)), fun _ _ e => e⟩ fun b hb o e => ?_
    rw [ho] at hb
    cases hb
    exact hs'.extBut D o hDL e
  refine s1'.mono ((view_sub fun b hb => ?_).trans le) fun _ _ _ e => e
  rcases List.mem_cons.mp hb with rfl | hb
  · exact List.mem_cons_self
  · exact List.mem_cons_of_mem _ (List.mem_cons_of_mem _ hb)

/-- a new object beside which another stands that is soon let go -/
theorem Abs.new2 {F mine : List Addr} {T T' : TM} {s s' : Shared} (hA : Abs C F mine T σ s) (k : Kp T s T' s') {a L : Addr} (hn : s.heap.get? a = none) (hnL : s.heap.get? L = none) (haL : a ≠ L) (hs : (s'.heap.get? a).isSome = true) (hsL : (s'.heap.get? L).isSome = true) :
    Abs C (F ++ [L]) (a :: mine) T' σ s' ∧ a ≠ C.env.locals ∧ (∀ y c, C.env.cells.lookup y = some c → c ≠ a ∧ c ≠ L) ∧ (∀ y sl', find σ y = some sl' → sl'.adr ≠ some a) ∧ L ∉ F ++ (a :: mine) ∧ Le (view (F ++ mine) T s) (view ((F ++ [L]) ++ (a :: mine)) T' s') ∧
      Le (view (a :: L :: (F ++ mine)) T' s') (view ((F ++ [L]) ++ (a :: mine)) T' s') := by
  have hnew : ∀ b ∈ F ++ mine, b ≠ a ∧ b ≠ L := fun b hb => ⟨fun e => hA.ownOk.fresh hn (e ▸ hb), fun e => hA.ownOk.fresh hnL (e ▸ hb)⟩
  have hA1 := hA.keeps k
  have mm : ∀ b, b ∈ (F ++ [L]) ++ (a :: mine) ↔ (b ∈ F ++ mine ∨ b = a ∨ b = L) := fun b => by
    simp only [List.mem_append, List.mem_cons, List.not_mem_nil, or_false]
    constructor
    · rintro ((h | h) | h | h)
      · exact .inl (.inl h)
      · exact .inr (.inr h)
      · exact .inr (.inl h)
      · exact .inl (.inr h)
    · rintro ((h | h) | h | h)
      · exact .inl (.inl h)
      · exact .inr (.inr h)
      · exact .inr (.inl h)
      · exact .inl (.inr h)
  have le : Le (view (F ++ mine) T s) (view ((F ++ [L]) ++ (a :: mine)) T' s') := ⟨fun b o e => by
    refine view_mk (fun hm => ?_) (k.keep b o (view_of e))
    have e1 := view_of e
    rcases (mm b).mp hm with hm | rfl | rfl
    · exact view_not e hm
    · rw [hn] at e1
      exact nomatch e1
    · rw [hnL] at e1
      exact (nomatch e1), k.tle⟩
  have eqv : Le (view (a :: L :: (F ++ mine)) T' s') (view ((F ++ [L]) ++ (a :: mine)) T' s') := view_sub fun b hb => by
    rcases (mm b).mp hb with hb | rfl | rfl
    · exact List.mem_cons_of_mem _ (List.mem_cons_of_mem _ hb)
    · exact List.mem_cons_self
    · exact List.mem_cons_of_mem _ List.mem_cons_self
  obtain ⟨m, cm, f⟩ := hA.frm
  have f1 : Frm C F mine T' σ s' m cm := f.keeps k
  refine ⟨⟨fun b o e => le.ob b o (hA.base b o e), fun b hb => ?_, fun b hb hF => ?_, k.tok, m, cm, ?_⟩, fun e => (hnew _ (List.mem_append_right _ f.lm)).1 e.symm, fun y c e => hnew c (f.cown y c e), fun y sl' e ho' => (hnew _ (List.mem_append_right _ (f.own y sl' a e ho').1)).1 rfl, fun hm => ?_, le, eqv⟩
  · rcases (mm b).mp hb with hb | rfl | rfl
    · exact hA1.live b hb
    · exact hs
    · exact hsL
  · rcases List.mem_append.mp hF with hF | hF
    · rcases List.mem_cons.mp hb with rfl | hb
      · exact (hnew b (List.mem_append_left _ hF)).1 rfl
      · exact hA.nin b hb hF
    · have := List.mem_singleton.mp hF
      subst this
      rcases List.mem_cons.mp hb with rfl | hb
      · exact haL rfl
      · exact (hnew b (List.mem_append_right _ hb)).2 rfl
  · refine { ns := f1.ns, cells := f1.cells, apart := f1.apart, lc := f1.lc, has := f1.has, lm := List.mem_cons_of_mem _ f1.lm, cown := ?_, cmine := fun hc y c e => List.mem_cons_of_mem _ (f1.cmine hc y c e), slots := ?_, own := ?_, dis := f1.dis }
    · intro y c e
      exact (mm c).mpr (.inl (f1.cown y c e))
    · intro y sl' e
      obtain ⟨v, hv, hr⟩ := f.slots y sl' e
      exact ⟨v, hv, hr.mono le fun _ _ o e => k.keep _ o e⟩
    · intro y sl' b e ho'
      obtain ⟨q1, q2, q3⟩ := f1.own y sl' b e ho'
      exact ⟨List.mem_cons_of_mem _ q1, q2, q3⟩
  · rcases List.mem_append.mp hm with hm | hm
    · exact (hnew L (List.mem_append_left _ hm)).2 rfl
    · rcases List.mem_cons.mp hm with h | hm
      · exact haL h.symm
      · exact (hnew L (List.mem_append_right _ hm)).2 rfl

/-- x = [..], the road on which the name is bound before the comprehension's own names go -/
theorem comp_use {n : Nat} (ok : C.Ok n) {e : Expr} {scope : Scope} {iter target : Expr} {ifs : List Expr} {ip pos cpos p' : Pos} {newAcc : Sem Value} {o0 : Obj} {sl0 : Addr → Slot} {tail : Value → Env → Sem Unit} (cf : CompForm C e scope iter target ifs ip newAcc o0 sl0 tail)
    {fv : List String} (hc : CompOk C scope fv) {x : String} (hx : isHere C (Str.ofString x) = true) {Q : Fl → St → Prop}
    (h : Ev C σ iter (fun a σ1 => ∃ xs, seqOf a = some xs ∧ RunOk target a ∧ ∀ cl D L, (compCx C scope cl L).Ok n → CLoop (compCx C scope cl L) D target ifs (tail (.ref D) (compCx C scope cl L).env) (fun sl _ => Q .next (put σ1 (Str.ofString x) x sl)) xs (sl0 D) (capSt fv σ1)))
    (hsw : swapsWith e (some (.Name (Str.ofString x) p')) pos.line C.env = pure true)
    (huse : evalThenUse e C.env (assign (.Name (Str.ofString x) p') C.env) = (do let _ ← comprehension e scope C.env cpos newAcc false (eval iter C.env) (some (assign (.Name (Str.ofString x) p') C.env))))
    (hs : ∀ x, foldedSetIterable iter C.env x = pure x := by intro _; rfl) : Ex C σ (.Assign [.Name (Str.ofString x) p'] e pos) Q := by
  intro F mine T s hA
  obtain ⟨g, gs, hg, rfl⟩ := cf.hcl
  rw [exec_Assign_Name_used _ _ _ _ hsw]
  refine wpAny_bind (wpAny_standAt (wpAny_bind ?_))
  rw [huse]
  refine wpAny_bind (wpAny_mono (wpAny_comprehension_free (use := some (assign (.Name (Str.ofString x) p') C.env)) (Q := fun _ s' => ∃ b σ' mine' T', Q b σ' ∧ Post F mine T s mine' T' s' ∧ Abs C F mine' T' σ' s' ∧ FlRep C.W (view (F ++ mine') T' s') b .next) hg hs (hclos_of hA hc) hc.hkind hc.hnames
    (Tr.then h hA fun va s1 a σ1 m1 T1 hq_ p1 a1 r1 => ?_)) (fun _ s' hq => wpAny_pure (wpAny_pure hq)) fun _ _ e => e)
  obtain ⟨xs, hxs, hrun, hL⟩ := hq_
  refine comp_core ok a1 hc r1 hxs hrun (cf.hnew _) cf.hfr cf.hsl cf.hstart cf.hturn cf.hframe cf.hquiet cf.hunder hL ?_ (RR := fun acc L => compPost C.M C.A C.X (some (assign (.Name (Str.ofString x) p') C.env)) (fun _ s' => ∃ b σ' mine' T', Q b σ' ∧ Post F mine T s mine' T' s' ∧ Abs C F mine' T' σ' s' ∧ FlRep C.W (view (F ++ mine') T' s') b .next) acc L)
  rintro D L s' T' sl σ' hD hL hDL ⟨m, hns⟩ hk hK ho hlv hsl
  have hLl : (s'.heap.get? L).isSome = true := by obtain ⟨o, _, _, e, _⟩ := hns; rw [e]; rfl
  obtain ⟨a2, q1, q2, q3, q4, le2, le3⟩ := a1.new2 hk hD hL hDL hlv hLl
  obtain ⟨m2, cm2, f2⟩ := a2.frm
  show wpAny _ _ (assign (.Name (Str.ofString x) p') C.env (.ref D)) _ _ _
  refine wpAny_assign_Name (store_frm ok a2 hx (hsl.mono le3 fun _ _ _ e => e) f2 (fun b hb => ?_) fun s3 p3 a3 => ?_)
  · rw [ho] at hb
    cases hb
    exact ⟨List.mem_cons_self, q1, fun y c e => (q2 y c e).1, fun y sl' e1 e2 => absurd e2 (q3 y sl' e1)⟩
  · have hL3 : s3.heap.get? L = s'.heap.get? L := p3.far L (by simp)
    refine ⟨m, hns.at' fun o e => hL3.trans e, fun h' hs' => ?_⟩
    have sub : ∀ b ∈ F ++ (D :: m1), b ∈ (F ++ [L]) ++ (D :: m1) := fun b hb => by
      rcases List.mem_append.mp hb with hb | hb
      · exact List.mem_append_left _ (List.mem_append_left _ hb)
      · exact List.mem_append_right _ hb
    have nL : ∀ b ∈ F ++ (D :: m1), b ≠ L := fun b hb q => q4 (q ▸ hb)
    have le4 : Le (view ((F ++ [L]) ++ (D :: m1)) T' s3) (view (F ++ (D :: m1)) T' { s3 with heap := h' }) :=
      ⟨fun b o e => view_mk (fun q => view_not e (sub b q)) (hs'.extBut b o (fun q => view_not e (by rw [q]; simp)) (view_of e)), fun _ _ e => e⟩
    have a4 : Abs C F (D :: m1) T' (put σ1 (Str.ofString x) x sl) { s3 with heap := h' } := by
      refine a3.other le4 (fun b o hb e => hs'.extBut b o (nL b (List.mem_append_right _ hb)) e) (fun y c e => ⟨?_, fun o e' => hs'.extBut c o (q2 y c e).2 e'⟩) (fun b hb => ?_) (fun b hb hF => a3.nin b hb (List.mem_append_left _ hF)) a3.tok
      · obtain ⟨m, cm, f⟩ := a3.frm
        have := f.cown y c e
        simp only [List.mem_append, List.mem_singleton] at this ⊢
        rcases this with (h | h) | h
        · exact .inl h
        · exact absurd h (q2 y c e).2
        · exact .inr h
      · obtain ⟨o, ho⟩ := Option.isSome_iff_exists.mp (a3.live b (sub b hb))
        show (h'.get? b).isSome = true
        rw [hs'.extBut b o (nL b hb) ho]; rfl
    have p4 : Post F m1 T1 s1 (D :: m1) T' { s3 with heap := h' } := by
      refine ⟨?_, (le2.trans p3.le).trans le4, fun b hb => ?_⟩
      · obtain ⟨h0, t0, e0⟩ := hk.same
        obtain ⟨h1, t1, rfl⟩ := p3.same
        exact ⟨h', t1, by rw [e0]⟩
      · obtain ⟨o, ho⟩ := Option.isSome_iff_exists.mp (a1.live b (List.mem_append_left _ hb))
        rw [ho]
        exact hs'.extBut b o (nL b (List.mem_append_left _ hb)) ((p3.far b (List.mem_append_left _ hb)).trans (hk.keep b o ho))
    exact ⟨.next, _, _, T', hK, p1.trans p4, a4, .next⟩
end
end Sx
end
section
open PySem PySem.W PyProof.Rows PySem.Calls
set_option linter.unusedVariables false
set_option Elab.async false
set_option maxRecDepth 100000
namespace Sx

noncomputable def LLoop (C : Cx) (target : Expr) (ifs : List Expr) (elt : Expr) (K : List V → Prop) : List V → List V → St → Prop
  | [], ys, σ => K ys
  | x :: xs, ys, σ => Asg C σ target x (fun σ1 => Tsts C σ1 ifs (fun ok σ2 => (ok = true → Ev C σ2 elt (fun y σ3 => LLoop C target ifs elt K xs (ys ++ [y]) σ3)) ∧ (ok = false → LLoop C target ifs elt K xs ys σ2)))
noncomputable def DLoop (C : Cx) (target : Expr) (ifs : List Expr) (kx vx : Expr) (K : List (Key × V) → Prop) : List V → List (Key × V) → St → Prop
  | [], es, σ => K es
  | x :: xs, es, σ => Asg C σ target x (fun σ1 => Tsts C σ1 ifs (fun ok σ2 => (ok = true → Ev C σ2 kx (fun kv σ3 => ∃ k : Key, kv = k.v ∧ Ev C σ3 vx (fun y σ4 => DLoop C target ifs kx vx K xs (dset es k y) σ4))) ∧ (ok = false → DLoop C target ifs kx vx K xs es σ2)))

theorem Asg.mono {C : Cx} {σ : St} {t : Expr} {x : V} {Q Q' : St → Prop} (h : Asg C σ t x Q) (hq : ∀ σ, Q σ → Q' σ) : Asg C σ t x Q' :=
  fun F mine T s v hA hr => wpAny_mono (h F mine T s v hA hr) (fun _ _ ⟨σ', m', T', q, r⟩ => ⟨σ', m', T', hq _ q, r⟩) fun _ _ x => x

theorem LLoop.c {C : Cx} {D : Addr} {target : Expr} {ifs : List Expr} {elt : Expr} {K : List V → Prop} {K' : Slot → St → Prop} (hK : ∀ ys σ, K ys → K' (.list D ys) σ) : ∀ (xs ys : List V) (σ : St), ys.length + xs.length ≤ sizeLine → LLoop C target ifs elt K xs ys σ →
    CLoop C D target ifs (do let _ ← call (.builtin "list.append") [.ref D, ← eval elt C.env]) K' xs (.list D ys) σ
  | [], ys, σ, _, h => hK _ _ h
  | x :: xs, ys, σ, hl, h => by
    rw [List.length_cons] at hl
    refine Asg.mono h fun σ1 h1 => Tr.mono h1 fun ok σ2 h2 => ⟨fun hok => ?_, fun hok => LLoop.c hK xs ys σ2 (by omega) (h2.2 hok)⟩
    refine trA_list (Tr.mono (h2.1 hok) fun y σ3 h3 => opM_append (by omega) ?_)
    exact LLoop.c hK xs (ys ++ [y]) σ3 (by rw [List.length_append, List.length_singleton]; omega) h3
theorem DLoop.c {C : Cx} {D : Addr} {target : Expr} {ifs : List Expr} {kx vx : Expr} {p : Pos} {K : List (Key × V) → Prop} {K' : Slot → St → Prop} (hK : ∀ ys σ, K ys → K' (.dict D ys) σ) : ∀ (xs : List V) (es : List (Key × V)) (σ : St), es.length + xs.length ≤ sizeLine → DLoop C target ifs kx vx K xs es σ →
    CLoop C D target ifs (do
        let kv ← eval kx C.env
        let vv ← holding [kv] (eval vx C.env)
        standAt p
        holding [kv, vv] (dictSet D kv vv)) K' xs (.dict D es) σ
  | [], es, σ, _, h => hK _ _ h
  | x :: xs, es, σ, hl, h => by
    rw [List.length_cons] at hl
    refine Asg.mono h fun σ1 h1 => Tr.mono h1 fun ok σ2 h2 => ⟨fun hok => ?_, fun hok => DLoop.c hK xs es σ2 (by omega) (h2.2 hok)⟩
    refine trA_dict (Tr.mono (h2.1 hok) fun kv σ3 h3 => ?_)
    obtain ⟨k, rfl, h3⟩ := h3
    refine Tr.mono h3 fun y σ4 h4 => opM_dictSet (by omega) ?_
    exact DLoop.c hK xs (dset es k y) σ4 (by have := dset_length es k y; omega) h4

section
variable {C : Cx} {σ : St}
theorem evF_listComp {n : Nat} (ok : C.Ok n) {elt iter target : Expr} {ifs : List Expr} {scope : Scope} {pos : Pos} {fv : List String} (hc : CompOk C scope fv) {Q : Slot → St → Prop}
    (h : Ev C σ iter (fun a σ1 => ∃ xs, seqOf a = some xs ∧ RunOk target a ∧ xs.length ≤ sizeLine ∧ ∀ cl L, (compCx C scope cl L).Ok n → LLoop (compCx C scope cl L) target ifs elt (fun ys => ∀ D, Q (.list D ys) σ1) xs [] (capSt fv σ1)))
    (hs : ∀ x, foldedSetIterable iter C.env x = pure x := by intro _; rfl) : EvF C σ (eval (.ListComp elt [⟨target, iter, ifs, 0⟩] scope pos) C.env) Q := by
  rw [eval_ListComp]
  refine comp_ev ok compForm_list hc (h.mono ?_) hs
  rintro a σ1 ⟨xs, h1, h2, h3, h4⟩
  exact ⟨xs, h1, h2, fun cl D L okC => (h4 cl L okC).c (fun ys _ hk => hk D) xs [] _ (by simpa using h3)⟩
theorem ex_assignListComp {n : Nat} (ok : C.Ok n) {elt iter target : Expr} {ifs : List Expr} {scope : Scope} {cpos pos p' : Pos} {fv : List String} (hc : CompOk C scope fv) {x : String} (hx : isHere C (Str.ofString x) = true) {Q : Fl → St → Prop}
    (h : Ev C σ iter (fun a σ1 => ∃ xs, seqOf a = some xs ∧ RunOk target a ∧ xs.length ≤ sizeLine ∧ ∀ cl L, (compCx C scope cl L).Ok n → LLoop (compCx C scope cl L) target ifs elt (fun ys => ∀ D, Q .next (put σ1 (Str.ofString x) x (.list D ys))) xs [] (capSt fv σ1)))
    (hsw : swapsWith (.ListComp elt [⟨target, iter, ifs, 0⟩] scope cpos) (some (.Name (Str.ofString x) p')) pos.line C.env = pure true)
    (hs : ∀ x, foldedSetIterable iter C.env x = pure x := by intro _; rfl) : Ex C σ (.Assign [.Name (Str.ofString x) p'] (.ListComp elt [⟨target, iter, ifs, 0⟩] scope cpos) pos) Q := by
  refine comp_use ok compForm_list hc hx (h.mono ?_) hsw (by rfl) hs
  rintro a σ1 ⟨xs, h1, h2, h3, h4⟩
  exact ⟨xs, h1, h2, fun cl D L okC => (h4 cl L okC).c (fun ys _ hk => hk D) xs [] _ (by simpa using h3)⟩
end
end Sx
end
section
open PySem PySem.W PyProof.Rows PySem.Calls
set_option linter.unusedVariables false
set_option Elab.async false
set_option maxRecDepth 100000
namespace Sx

noncomputable def dsets (es : List (Key × V)) (more : List (Key × V)) : List (Key × V) := more.foldl (fun es p => dset es p.1 p.2) es
theorem dsets_length (es more : List (Key × V)) : (dsets es more).length ≤ es.length + more.length := by
  induction more generalizing es with
  | nil => simp [dsets]
  | cons p r ih =>
    have := ih (dset es p.1 p.2)
    have e := dset_length es p.1 p.2
    simp only [dsets, List.foldl_cons, List.length_cons] at this ⊢
    omega

theorem KpB.trans {a : Addr} {T T' T'' : TM} {s s' s'' : Shared} (x : KpB a T s T' s') (y : KpB a T' s' T'' s'') : KpB a T s T'' s'' := by
  obtain ⟨h, t, rfl⟩ := x.same
  obtain ⟨h', t', rfl⟩ := y.same
  exact ⟨⟨h', t', rfl⟩, fun b o hb e => y.keep b o hb (x.keep b o hb e), y.live, fun t l e => y.tle t l (x.tle t l e), y.tok⟩
theorem KpB.own {C : Cx} {a : Addr} {T T' : TM} {own : List Addr} {s s' : Shared} (k : KpB a T s T' s') (ha : a ∈ own) (hO : OwnOk C own T s) : OwnOk C own T' s' := by
  refine ⟨fun b o e => (k.view ha).ob b o (hO.base b o e), fun b hb => ?_, k.tok⟩
  by_cases q : b = a
  · subst q; exact k.live
  · obtain ⟨o, ho⟩ := Option.isSome_iff_exists.mp (hO.live b hb)
    rw [k.keep b o q ho]; rfl

section
variable {C : Cx} {σ : St}

theorem opM_dictPut {a : Addr} {es : List (Key × V)} {k : Key} {v : V} {K : Slot → Prop} (hl : es.length ≤ sizeLine) (h : K (.dict a (dset es k v))) :
    OpM C (.dict a es) [k.v, v] (fun d ws => match d, ws with | .ref d, [kw, w] => dictPut d (C.W.knd.hash k) kw w | _, _ => pure ()) (fun _ => True) K := by
  intro own T s b ws hO hb ho hs hr
  cases ho
  obtain ⟨_, ds, kvs, ⟨h0, o, n, ho, hx, hd⟩, hrd, hn⟩ := hs
  obtain ⟨kw, _, rfl, hkw, hr⟩ := hr.cons_inv
  obtain ⟨w, _, rfl, hw, hr⟩ := hr.cons_inv
  obtain rfl := hr.nil_inv
  have hkey : C.W.knd.is k kw = true := Key.is_of_rep hkw
  show wpAny C.M C.A (dictPut a (C.W.knd.hash k) kw w) _ _ s
  unfold dictPut
  refine wpAny_bind (wpAny_dictFind_of hkey ho hd hrd.keysOf ?_)
  have hidx : (ds.toArray.findIdx? fun e => C.W.knd.is k e.key) = ds.findIdx? fun e => C.W.knd.is k e.key := by simp
  have hsz : ds.toArray.size ≤ sizeLine := by rw [List.size_toArray, hrd.length.1]; exact hl
  obtain ⟨ds', kvs', r', q⟩ := hrd.dset hkw hw
  rw [hidx]
  rcases q with ⟨i, q1, q2⟩ | ⟨q1, q2⟩
  · rw [q1]
    refine wpAny_updateDict ho hd ⟨trivial, _, T, h, rfl, ⟨⟨_, s.toks, rfl⟩, fun b o hb e => (Heap.get?_update_other _ _ (Ne.symm hb)).trans e, ?_, fun _ _ e => e, hO.tok⟩, rfl, ds', kvs', ?_, ?_, dset_nodup hn _ _⟩
    · show ((s.heap.update a _).get? a).isSome = true
      rw [Heap.get?_update_self _ ho (Obj.isFreed_of_dict (Obj.data_mapDict hd _))]; rfl
    · refine ⟨h0, _, n, Heap.get?_update_self _ ho (Obj.isFreed_of_dict (Obj.data_mapDict hd _)), hx.mapDict _, ?_⟩
      rw [Obj.data_mapDict hd, q2]
      simp
    · refine RepD.mono (g := view own T s) ?_ r'
      exact ⟨fun b o e => view_mk (view_not e) ((Heap.get?_update_other _ _ (fun q => view_not e (by rw [← q]; exact hb))).trans (view_of e)), fun _ _ e => e⟩
  · rw [q1]
    refine wpAny_updateDictKeys (hz := hsz) ho hd ⟨trivial, _, T, h, rfl, ⟨⟨_, s.toks, rfl⟩, fun b o hb e => (Heap.get?_update_other _ _ (Ne.symm hb)).trans e, ?_, fun _ _ e => e, hO.tok⟩, rfl, ds', kvs', ?_, ?_, dset_nodup hn _ _⟩
    · show ((s.heap.update a _).get? a).isSome = true
      rw [Heap.get?_update_self _ ho (Obj.isFreed_of_dict (Obj.data_mapDictKeys hd _))]; rfl
    · refine ⟨h0, _, n + 1, Heap.get?_update_self _ ho (Obj.isFreed_of_dict (Obj.data_mapDictKeys hd _)), hx.mapDictKeys _, ?_⟩
      rw [Obj.data_mapDictKeys hd, q2]
      simp
    · refine RepD.mono (g := view own T s) ?_ r'
      exact ⟨fun b o e => view_mk (view_not e) ((Heap.get?_update_other _ _ (fun q => view_not e (by rw [← q]; exact hb))).trans (view_of e)), fun _ _ e => e⟩

/-- all entries of a dict, put into another -/
theorem merge_into {own : List Addr} {D a : Addr} {T : TM} {s : Shared} {es es2 : List (Key × V)} {o2 : Obj} {n2 : Nat} {ds2 : List DictEntry} {kvs2 : List (Key × Value)} (hO : OwnOk C own T s) (hD : D ∈ own) (hs : SlotRep C.W (view own T s) s.heap (.dict D es) (.ref D))
    (haD : a ≠ D) (ho2 : s.heap.get? a = some o2) (has : (a == sysModules) = false) (hx2 : o2.ExactDict) (hd2 : o2.data = .dict ds2.toArray n2) (r2 : RepD C.W (view own T s) es2 ds2 kvs2) (hsz : es.length + es2.length ≤ sizeLine)
    {E : Value → Shared → Prop} {Q : Unit → Shared → Prop} (h : ∀ s' T', KpB D T s T' s' → SlotRep C.W (view own T' s') s'.heap (.dict D (dsets es es2)) (.ref D) → Q () s') : wpAny C.M C.A (mergeMapping D (.ref a) false) Q E s := by
  have hT2 : s.TypeIs (.ref a) "dict" := ⟨o2, ho2, hx2.1⟩
  obtain ⟨_, ds, kvs, ⟨h0, o, n, ho, hx, hd⟩, hrd, hn⟩ := id hs
  unfold mergeMapping
  refine wpAny_bind (wpAny_isInstance (T := "dict") (b := true) hT2 (by rw [isSubtype_type]; kernel_rfl) ?_)
  dsimp only
  rw [if_pos rfl]
  refine wpAny_bind (wpAny_specialOf hT2 PySem.F.slot_dict_iter.lookup ?_)
  refine wpAny_bind (wpAny_pure ?_)
  show wpAny _ _ (if (a == sysModules) = true then _ else _) _ _ _
  rw [if_neg (by rw [has]; decide)]
  refine wpAny_bind (wpAny_dictEntries ho hd ?_)
  have hlen2 : ds2.toArray.size = es2.length := by rw [List.size_toArray, r2.length.1]
  have main : wpAny C.M C.A (do
      let es ← dictEntries a
      let epoch ← dictEpoch a
      forIn (List.range es.size) PUnit.unit fun i (_ : PUnit) => do
        let es ← dictEntries a
        match es[i]? with
        | some e => do
          holding [e.key, e.val]
              (if false = true then do
                let r ← dictFind D e.key e.hash
                if r.isSome = true then do
                    rule "dict.merge.duplicate-key"
                    let x ← newExc (Value.type "KeyError") [e.key]
                    raiseNew x
                    dictPut D e.hash e.key e.val
                  else dictPut D e.hash e.key e.val
              else dictPut D e.hash e.key e.val)
          let ep ← dictEpoch a
          if (ep != epoch) = true then do
              unsupported "dict.changed-during-merge"
              pure (ForInStep.yield PUnit.unit)
            else pure (ForInStep.yield PUnit.unit)
        | x => do
          unsupported "dict.changed-during-merge"
          pure (ForInStep.yield PUnit.unit)
      pure ()) Q E s := by
    refine wpAny_bind (wpAny_dictEntries ho2 hd2 (wpAny_bind (wpAny_dictEpoch ho2 hd2 (wpAny_bind ?_))))
    rw [hlen2, List.range_eq_range']
    refine wpAny_forIn_list _ (fun rest _ s' => ∃ i T', rest = List.range' i (es2.length - i) ∧ i ≤ es2.length ∧ KpB D T s T' s' ∧ SlotRep C.W (view own T' s') s'.heap (.dict D (dsets es (es2.take i))) (.ref D)) _ ?_ ?_ _ _
      ⟨0, T, by simp, Nat.zero_le _, ⟨⟨_, _, rfl⟩, fun _ _ _ e => e, by rw [ho]; rfl, fun _ _ e => e, hO.tok⟩, by simpa [dsets] using hs⟩
    · rintro i rest _ s' ⟨j, T', hr, hj, k, hs'⟩
      have hlt : j < es2.length := by
        rcases Nat.lt_or_ge j es2.length with h | h
        · exact h
        · rw [Nat.sub_eq_zero_of_le h] at hr; cases hr
      rw [show es2.length - j = (es2.length - (j + 1)) + 1 by omega, List.range'_succ] at hr
      injection hr with hi hr
      subst hi
      have hoi := k.keep a o2 haD ho2
      have hx' : ∃ k v, es2[i]? = some (k, v) := ⟨es2[i].1, es2[i].2, List.getElem?_eq_getElem hlt⟩
      obtain ⟨key, v, hkv⟩ := hx'
      obtain ⟨d, e1, e2, e3, e4⟩ := r2.get hkv
      have hdh : d.hash = C.W.knd.hash key := by
        have := r2.keysOf d (by have := List.mem_of_getElem? e1; simpa using this)
        obtain ⟨k', h1, h2⟩ := this
        have := C.W.knd.inj _ _ _ h1 (Key.is_of_rep e3)
        rw [h2, this]
      refine wpAny_bind (wpAny_dictEntries hoi hd2 ?_)
      have e1' : ds2.toArray[i]? = some d := by simpa using e1
      rw [e1']
      dsimp only
      have hl' : (dsets es (es2.take i)).length ≤ sizeLine := by have := dsets_length es (es2.take i); rw [List.length_take] at this; omega
      have lev := k.view hD
      refine wpAny_bind (wpAny_holding ?_)
      rw [if_neg (by decide)]
      have := opM_dictPut (C := { C with X := E }) (a := D) (K := fun sl => sl = .dict D (dset (dsets es (es2.take i)) key v)) hl' rfl own T' s' D [d.key, d.val] (k.own hD ⟨hO.base, hO.live, hO.tok⟩) hD rfl hs' (.cons (e3.mono lev) (.cons (e4.mono lev) .nil))
      have this : wpAny C.M C.A (dictPut D (C.W.knd.hash key) d.key d.val) _ E s' := this
      rw [← hdh] at this
      refine wpAny_mono this ?_ fun _ _ x => x
      rintro _ s2 ⟨_, sl2, T2, rfl, _, k2, hs2⟩
      have hoi2 := k2.keep a o2 haD hoi
      refine wpAny_bind (wpAny_dictEpoch hoi2 hd2 ?_)
      rw [if_neg (by simp)]
      refine wpAny_pure ⟨i + 1, T2, hr, hlt, k.trans k2, ?_⟩
      have e : dsets es (es2.take (i + 1)) = dset (dsets es (es2.take i)) key v := by
        rw [List.take_add_one, hkv]; simp [dsets, List.foldl_append]
      rw [e]; exact hs2
    · rintro _ s' ⟨i, T', hr, hi, k, hs'⟩
      have : es2.length ≤ i := by
        rcases Nat.lt_or_ge i es2.length with h | h
        · rw [show es2.length - i = (es2.length - (i + 1)) + 1 by omega, List.range'_succ] at hr; cases hr
        · exact h
      rw [List.take_of_length_le this] at hs'
      exact wpAny_pure (h s' T' k hs')
  by_cases hem : ds.toArray.isEmpty = true
  · rw [if_pos hem]
    refine wpAny_bind (wpAny_dictEntries ho2 hd2 (wpAny_bind ?_))
    rw [List.forIn_toArray]
    refine wpAny_forIn_list _ (fun rest _ s' => s' = s ∧ ∀ e ∈ rest, e ∈ ds2) _ ?_ ?_ _ _ ⟨rfl, fun e he => he⟩
    · rintro e rest _ s' ⟨rfl, hm⟩
      obtain ⟨k, h1, h2⟩ := r2.keysOf e (by simpa using hm e List.mem_cons_self)
      have nr : ∀ x, e.key ≠ .ref x := fun x hx => by
        cases k with
        | s l => obtain ⟨t, ht⟩ := Key.is_s h1; rw [hx] at ht; cases ht
        | i n => obtain ⟨t, ht⟩ := Key.is_i h1; rw [hx] at ht; cases ht
      split
      · rename_i x hx; exact absurd hx (nr x)
      · exact wpAny_pure ⟨rfl, fun e he => hm e (List.mem_cons_of_mem _ he)⟩
    · rintro _ s' ⟨rfl, _⟩
      exact main
  · rw [if_neg hem]
    exact main
end
end Sx
end
section
open PySem PySem.W PyProof.Rows PySem.Calls
set_option linter.unusedVariables false
set_option Elab.async false
set_option maxRecDepth 100000
namespace Sx

/-! ## dict displays -/
noncomputable def EvK (C : Cx) : List (Sem Value × Sem Value) → List (Key × V) → St → (List (Key × V) → St → Prop) → Prop
  | [], acc, σ, Q => Q acc σ
  | (k, v) :: r, acc, σ, Q => EvT C σ k (fun kv σ1 => ∃ key : Key, kv = key.v ∧ EvT C σ1 v (fun vv σ2 => EvK C r (acc ++ [(key, vv)]) σ2 Q))

noncomputable def RepP (W : Wd) (g : PH) : List (Key × V) → List (Value × Value) → Prop
  | [], [] => True
  | (k, v) :: kvs, (kw, w) :: vs => Rep W g k.v kw ∧ Rep W g v w ∧ RepP W g kvs vs
  | _, _ => False
theorem RepP.mono {W : Wd} {g g' : PH} (h : Le g g') : ∀ {kvs : List (Key × V)} {vs : List (Value × Value)}, RepP W g kvs vs → RepP W g' kvs vs
  | [], [], _ => trivial
  | (k, v) :: kvs, (kw, w) :: vs, hr => ⟨hr.1.mono h, hr.2.1.mono h, RepP.mono h hr.2.2⟩
  | [], _ :: _, hr => hr.elim
  | _ :: _, [], hr => hr.elim
theorem RepP.length {W : Wd} {g : PH} : ∀ {kvs : List (Key × V)} {vs : List (Value × Value)}, RepP W g kvs vs → vs.length = kvs.length
  | [], [], _ => rfl
  | (k, v) :: kvs, (kw, w) :: vs, hr => by rw [List.length_cons, List.length_cons, RepP.length hr.2.2]
  | [], _ :: _, hr => hr.elim
  | _ :: _, [], hr => hr.elim

section
variable {C : Cx} {σ : St}

theorem evK_pairs : ∀ (pairs : List (Sem Value × Sem Value)) (acc : List (Key × V)) (σ : St) (Q : List (Key × V) → St → Prop), EvK C pairs acc σ Q → ∀ F mine T s, Abs C F mine T σ s →
    wpAny C.M C.A (evalPairs pairs) (fun vs s' => ∃ kvs σ' mine' T', Q (acc ++ kvs) σ' ∧ Post F mine T s mine' T' s' ∧ Abs C F mine' T' σ' s' ∧ RepP C.W (view (F ++ mine') T' s') kvs vs ∧ kvs.length = pairs.length) C.X s
  | [], acc, σ, Q, h, F, mine, T, s, hA => evalPairs_nil ⟨[], σ, mine, T, by rw [List.append_nil]; exact h, .refl _ _ _ _, hA, trivial, rfl⟩
  | (k, v) :: r, acc, σ, Q, h, F, mine, T, s, hA => by
    refine evalPairs_cons (Tr.then h hA fun kw s1 _ σ1 m1 T1 hq_ p1 a1 r1 => ?_)
    obtain ⟨key, rfl, hv⟩ := hq_
    refine Tr.then hv a1 fun w s2 vv σ2 m2 T2 hr p2 a2 r2 => ?_
    refine wpAny_mono (evK_pairs r _ σ2 Q hr F m2 T2 s2 a2) ?_ fun _ _ x => x
    rintro vs s3 ⟨kvs, σ3, m3, T3, hq, p3, a3, r3, hlen⟩
    exact ⟨(key, vv) :: kvs, σ3, m3, T3, by rw [List.append_assoc] at hq; exact hq, (p1.trans p2).trans p3, a3, ⟨(r1.mono p2.le).mono p3.le, r2.mono p3.le, r3⟩, by rw [List.length_cons, List.length_cons, hlen]⟩

theorem store_all {own : List Addr} {D : Addr} (hD : D ∈ own) : ∀ (vs : List (Value × Value)) (kvs es : List (Key × V)) (T : TM) (s : Shared) (Q : PUnit → Shared → Prop), OwnOk C own T s → SlotRep C.W (view own T s) s.heap (.dict D es) (.ref D) → RepP C.W (view own T s) kvs vs → es.length + kvs.length ≤ sizeLine →
    (∀ s' T', KpB D T s T' s' → SlotRep C.W (view own T' s') s'.heap (.dict D (dsets es kvs)) (.ref D) → Q PUnit.unit s') →
    wpAny C.M C.A (forIn vs PUnit.unit fun (x : Value × Value) (_ : PUnit) => (do dictSet D x.1 x.2; pure (ForInStep.yield PUnit.unit) : Sem (ForInStep PUnit))) Q C.X s
  | [], [], es, T, s, Q, hO, hs, hr, hl, h => by
    rw [List.forIn_nil]
    exact wpAny_pure (h s T ⟨⟨_, _, rfl⟩, fun _ _ _ e => e, hO.live D hD, fun _ _ e => e, hO.tok⟩ hs)
  | (kw, w) :: vs, (k, v) :: kvs, es, T, s, Q, hO, hs, hr, hl, h => by
    rw [List.length_cons] at hl
    rw [List.forIn_cons]
    refine wpAny_bind (wpAny_bind ?_)
    have := opM_dictSet (C := C) (a := D) (K := fun sl => sl = .dict D (dset es k v)) (by omega) rfl own T s D [kw, w] hO hD rfl hs (.cons hr.1 (.cons hr.2.1 .nil))
    have this : wpAny C.M C.A (dictSet D kw w) _ C.X s := this
    refine wpAny_mono this ?_ fun _ _ x => x
    rintro _ s2 ⟨_, sl2, T2, rfl, _, k2, hs2⟩
    refine wpAny_pure (store_all hD vs kvs (dset es k v) T2 s2 Q (k2.own hD hO) hs2 (hr.2.2.mono (k2.view hD)) (by have := dset_length es k v; omega) fun s' T' k3 hs3 => h s' T' (k2.trans k3) hs3)
  | [], _ :: _, _, _, _, _, _, _, hr, _, _ => hr.elim
  | _ :: _, [], _, _, _, _, _, _, hr, _, _ => hr.elim

/-- a new object, somebody else's for now -/
theorem Abs.lend {F mine : List Addr} {T T' : TM} {s s' : Shared} (hA : Abs C F mine T σ s) (k : Kp T s T' s') {d : Addr} (hn : s.heap.get? d = none) (hl : (s'.heap.get? d).isSome = true) :
    Abs C (F ++ [d]) mine T' σ s' ∧ Le (view (F ++ mine) T s) (view ((F ++ [d]) ++ mine) T' s') ∧ (∀ x c, C.env.cells.lookup x = some c → c ≠ d) ∧ d ∉ F ++ mine := by
  have hnew : ∀ b ∈ F ++ mine, b ≠ d := fun b hb e => hA.ownOk.fresh hn (e ▸ hb)
  have mm : ∀ b, b ∈ (F ++ [d]) ++ mine → b ∈ F ++ mine ∨ b = d := fun b hb => by
    simp only [List.mem_append, List.mem_singleton] at hb ⊢
    rcases hb with (h | h) | h
    · exact .inl (.inl h)
    · exact .inr h
    · exact .inl (.inr h)
  have le : Le (view (F ++ mine) T s) (view ((F ++ [d]) ++ mine) T' s') := ⟨fun b o e => by
    refine view_mk (fun hm => ?_) (k.keep b o (view_of e))
    rcases mm b hm with h | h
    · exact view_not e h
    · have := view_of e
      rw [h, hn] at this
      exact (nomatch this), k.tle⟩
  have hcd : ∀ x c, C.env.cells.lookup x = some c → c ≠ d := fun x c e => by
    obtain ⟨m, cm, f⟩ := hA.frm
    exact hnew c (f.cown x c e)
  refine ⟨hA.other le (fun b o _ e => k.keep b o e) (fun x c e => ⟨?_, fun o e' => k.keep c o e'⟩) (fun b hb => ?_) (fun b hb hF => ?_) k.tok, le, hcd, fun hm => hnew d hm rfl⟩
  · obtain ⟨m, cm, f⟩ := hA.frm
    rcases List.mem_append.mp (f.cown x c e) with h | h
    · exact List.mem_append_left _ (List.mem_append_left _ h)
    · exact List.mem_append_right _ h
  · rcases mm b hb with h | h
    · exact k.live hA.live b h
    · subst h; exact hl
  · rcases List.mem_append.mp hF with h | h
    · exact hA.nin b hb h
    · exact hnew b (List.mem_append_right _ hb) (List.mem_singleton.mp h)

/-- .. and then the frame's own -/
theorem Abs.adopt {F mine : List Addr} {T : TM} {s : Shared} {d : Addr} (hA : Abs C (F ++ [d]) mine T σ s) (hdF : d ∉ F) (hcd : ∀ x c, C.env.cells.lookup x = some c → c ≠ d) :
    AbsN C F mine d T σ s ∧ d ∉ mine ∧ Le (view ((F ++ [d]) ++ mine) T s) (view (F ++ (d :: mine)) T s) := by
  have mm : ∀ b, b ∈ F ++ (d :: mine) ↔ b ∈ (F ++ [d]) ++ mine := fun b => by simp
  have le : Le (view ((F ++ [d]) ++ mine) T s) (view (F ++ (d :: mine)) T s) := view_sub fun b hb => (mm b).mp hb
  have hdm : d ∉ mine := fun h => hA.nin d h (by simp)
  obtain ⟨m, cm, f⟩ := hA.frm
  refine ⟨⟨fun b o e => le.ob b o (hA.base b o e), fun b hb => hA.live b ((mm b).mp hb), fun b hb hF => ?_, hA.tok, m, cm, ?_, fun e => hdm (e ▸ f.lm), hcd, fun y sl e ho => hdm (f.own y sl d e ho).1⟩, hdm, le⟩
  · rcases List.mem_cons.mp hb with rfl | hb
    · exact hdF hF
    · exact hA.nin b hb (List.mem_append_left _ hF)
  · refine { ns := f.ns, cells := f.cells, apart := f.apart, lc := f.lc, has := f.has, lm := List.mem_cons_of_mem _ f.lm, cown := fun x c e => (mm c).mpr (f.cown x c e), cmine := fun hc x c e => List.mem_cons_of_mem _ (f.cmine hc x c e),
             slots := fun x sl e => ?_, own := fun x sl b e ho => ?_, dis := f.dis }
    · obtain ⟨v, hv, hr⟩ := f.slots x sl e
      exact ⟨v, hv, hr.mono le fun _ _ _ e => e⟩
    · obtain ⟨q1, q2, q3⟩ := f.own x sl b e ho
      exact ⟨List.mem_cons_of_mem _ q1, q2, q3⟩

theorem sub_dict {pairs : List (Sem Value × Sem Value)} {Q : List (Key × V) → St → Prop} (hlen : pairs.length ≤ 15) (h : EvK C pairs [] σ Q) (hW : C.W.Ok) {F mine : List Addr} {T : TM} {s : Shared} (hA : Abs C F mine T σ s) :
    wpAny C.M C.A (subDict pairs) (fun d s' => ∃ kvs σ' mine' T', Q kvs σ' ∧ kvs.length = pairs.length ∧ s.heap.get? d = none ∧ d ∉ F ++ mine ∧ (∃ h' tk, s' = { s with heap := h', toks := tk }) ∧ Le (view (F ++ mine) T s) (view ((F ++ [d]) ++ mine') T' s') ∧ (∀ b ∈ F, s'.heap.get? b = s.heap.get? b) ∧
      Abs C (F ++ [d]) mine' T' σ' s' ∧ (∀ x c, C.env.cells.lookup x = some c → c ≠ d) ∧ SlotRep C.W (view ((F ++ [d]) ++ mine') T' s') s'.heap (.dict d (dsets [] kvs)) (.ref d)) C.X s := by
  unfold subDict
  obtain ⟨d, hd⟩ : ∃ d, s.heap.objs.size = d := ⟨_, rfl⟩
  refine wpAny_bind (wpAny_alloc (wpAny_bind (wpAny_holding ?_)))
  rw [if_pos hlen, hd]
  have hn : s.heap.get? d = none := hd ▸ fresh_size _
  have k0 : Kp T s T { s with heap := s.heap.push { cls := .type "dict", data := .dict #[] } } := .push hA.tok (Nat.le_refl _)
  have hd0 : (s.heap.push { cls := .type "dict", data := .dict #[] }).get? d = some { cls := .type "dict", data := .dict #[] } := by rw [← hd]; exact Heap.get?_push_size _ rfl
  obtain ⟨h0, hh0⟩ : ∃ h0, s.heap.push { cls := .type "dict", data := .dict #[] } = h0 := ⟨_, rfl⟩
  rw [hh0] at hd0 k0 ⊢
  obtain ⟨a0, le0, hcd, hdm⟩ := hA.lend k0 hn (by show (h0.get? d).isSome = true; rw [hd0]; rfl)
  have hdF : d ∈ F ++ [d] := by simp
  have hds : (d == sysModules) = false := by
    obtain ⟨o, ho⟩ := Option.isSome_iff_exists.mp hW.sysm
    have := hA.ownOk.kb _ _ ho
    cases q : d == sysModules with
    | false => rfl
    | true => rw [show d = sysModules by simpa using q, this] at hn; cases hn
  refine wpAny_bind (wpAny_mono (evK_pairs pairs [] σ Q h _ _ _ _ a0) ?_ fun _ _ x => x)
  rintro vs s1 ⟨kvs, σ1, m1, T1, hq, p1, a1, r1, hkl⟩
  have hd1 : s1.heap.get? d = some { cls := .type "dict", data := .dict #[] } := (p1.far d hdF).trans hd0
  have hs1 : SlotRep C.W (view ((F ++ [d]) ++ m1) T1 s1) s1.heap (.dict d []) (.ref d) := ⟨rfl, [], [], ⟨hds, _, 0, hd1, ⟨rfl, rfl, rfl⟩, rfl⟩, .nil, List.nodup_nil⟩
  have hsz : ([] : List (Key × V)).length + kvs.length ≤ sizeLine := by rw [sizeLine_eq, List.length_nil, hkl]; omega
  refine wpAny_holding (wpAny_bind (store_all (List.mem_append_left _ hdF) vs kvs [] T1 s1 _ a1.ownOk hs1 r1 hsz fun s2 T2 k2 hs2 => wpAny_pure (wpAny_pure ?_)))
  obtain ⟨p2, a2⟩ := a1.turnF (ex := [d]) k2.same (fun b o hb e => k2.keep b o (by simpa using hb) e) (fun b hb => by rw [List.mem_singleton.mp hb]; exact k2.live) (fun b hb => by rw [List.mem_singleton.mp hb]; exact hdF)
    (fun x c e q => hcd x c e (List.mem_singleton.mp q)) k2.tle k2.tok
  refine ⟨kvs, σ1, m1, T2, by simpa using hq, hkl, hn, hdm, ?_, (le0.trans p1.le).trans p2.le, fun b hb => ?_, a2, hcd, hs2⟩
  · obtain ⟨h1, t1, rfl⟩ := p1.same
    obtain ⟨h2, t2, rfl⟩ := p2.same
    exact ⟨h2, t2, rfl⟩
  · have hbd : b ≠ d := fun q => hdm (by rw [← q]; exact List.mem_append_left _ hb)
    obtain ⟨o, ho⟩ := Option.isSome_iff_exists.mp (hA.live b (List.mem_append_left _ hb))
    rw [ho]
    exact k2.keep b o hbd ((p1.far b (List.mem_append_left _ hb)).trans (k0.keep b o ho))

/-- {k: v, ..} -/
theorem evF_dict {n : Nat} (ok : C.Ok n) {keys : List (Option Expr)} {values : List Expr} {pos : Pos} {pairs : List (Sem Value × Sem Value)} {Q : Slot → St → Prop} (h : EvK C pairs [] σ (fun kvs σ1 => ∀ a, Q (.dict a (dsets [] kvs)) σ1))
    (hshape : (evalEachOpt keys C.env).zip ((evalEach values C.env).map fun v => do let x ← v; standAt pos; pure x) = pairs.map fun p => (some p.1, p.2)) (h0 : pairs ≠ []) (hlen : pairs.length ≤ 15) : EvF C σ (eval (.Dict keys values pos) C.env) Q := by
  refine EvF.intro' fun F mine T s QQ fin hA => ?_
  rw [arm_eval_Dict, hshape, dictDisplay_pairs pairs h0 (by omega)]
  refine wpAny_bind (wpAny_standAt (wpAny_bind (wpAny_mono (sub_dict hlen h ok.W hA) ?_ fun _ _ x => x)))
  rintro d s1 ⟨kvs, σ1, m1, T1, hq, hkl, hn, hdm, same, le, far, a1, hcd, hs1⟩
  obtain ⟨a2, hdm1, le2⟩ := a1.adopt (fun q => hdm (List.mem_append_left _ q)) hcd
  exact wpAny_pure (fin _ _ (.dict d (dsets [] kvs)) σ1 m1 d T1 (hq d) rfl ⟨same, le.trans le2, far⟩ hdm1 a2 (hs1.mono le2 fun _ _ _ e => e))

theorem evF_dict0 {n : Nat} (ok : C.Ok n) {pos : Pos} {Q : Slot → St → Prop} (h : ∀ a, Q (.dict a []) σ) : EvF C σ (eval (.Dict [] [] pos) C.env) Q := by
  refine EvF.prim fun own T s hO => wpAny_Dict_empty ?_
  have hn := fresh_size s.heap
  have hds : (s.heap.objs.size == sysModules) = false := by
    obtain ⟨o, ho⟩ := Option.isSome_iff_exists.mp ok.W.sysm
    have := hO.kb _ _ ho
    cases q : s.heap.objs.size == sysModules with
    | false => rfl
    | true => rw [show s.heap.objs.size = sysModules by simpa using q, this] at hn; cases hn
  exact ⟨.dict s.heap.objs.size [], T, s.heap.objs.size, h _, rfl, .push hO.tok (Nat.le_refl _), hn, by rw [Heap.get?_push_size _ rfl]; rfl, rfl, [], [], ⟨hds, _, 0, Heap.get?_push_size _ rfl, ⟨rfl, rfl, rfl⟩, rfl⟩, .nil, List.nodup_nil⟩
end
end Sx
end
section
open PySem PySem.W PyProof.Rows PySem.Calls
set_option linter.unusedVariables false
set_option Elab.async false
set_option maxRecDepth 100000
namespace Sx

theorem forIn_gatherS (d : Option Addr) (f : (Option (Sem Value) × Sem Value) → (Option Addr × List (Sem Value × Sem Value)) → Sem (ForInStep (Option Addr × List (Sem Value × Sem Value))))
    (hf : ∀ (p : Sem Value × Sem Value) (run : List (Sem Value × Sem Value)), run.length + 1 < 17 → f (some p.1, p.2) (d, run) = pure (.yield (d, run ++ [p]))) :
    ∀ (items run : List (Sem Value × Sem Value)), run.length + items.length < 17 → forIn (items.map fun p => (some p.1, p.2)) (d, run) f = pure (d, run ++ items)
  | [], run, _ => by simp
  | p :: rest, run, h => by
    rw [List.map_cons, List.forIn_cons, hf p run (by simp at h; omega), pure_bind]
    have := forIn_gatherS d f hf rest (run ++ [p]) (by simp at h ⊢; omega)
    simpa using this

section
variable {C : Cx} {σ : St}
theorem evF_dictStar {n : Nat} (ok : C.Ok n) {keys : List (Option Expr)} {values : List Expr} {pos : Pos} {m : Sem Value} {pairs : List (Sem Value × Sem Value)} {Q : Slot → St → Prop}
    (h : EvT C σ m (fun v σ1 => ∃ es, v = .dct es ∧ es.length + pairs.length ≤ sizeLine ∧ EvK C pairs [] σ1 (fun kvs σ2 => ∀ a, Q (.dict a (dsets (dsets [] es) (dsets [] kvs))) σ2)))
    (hshape : (evalEachOpt keys C.env).zip ((evalEach values C.env).map fun v => do let x ← v; standAt pos; pure x) = (none, m) :: pairs.map fun p => (some p.1, p.2)) (h0 : pairs ≠ []) (hlen : pairs.length ≤ 15) : EvF C σ (eval (.Dict keys values pos) C.env) Q := by
  refine EvF.intro' fun F mine T s QQ fin hA => ?_
  rw [arm_eval_Dict, hshape]
  refine wpAny_bind (wpAny_standAt ?_)
  unfold dictDisplay
  dsimp only
  rw [List.forIn_cons]
  refine wpAny_bind (wpAny_bind ?_)
  obtain ⟨d, hd⟩ : ∃ d, s.heap.objs.size = d := ⟨_, rfl⟩
  refine wpAny_bind (wpAny_pure (wpAny_bind (wpAny_alloc (wpAny_bind (wpAny_holding ?_)))))
  rw [hd]
  have hn : s.heap.get? d = none := hd ▸ fresh_size _
  have k0 : Kp T s T { s with heap := s.heap.push { cls := .type "dict", data := .dict #[] } } := .push hA.tok (Nat.le_refl _)
  have hd0 : (s.heap.push { cls := .type "dict", data := .dict #[] }).get? d = some { cls := .type "dict", data := .dict #[] } := by rw [← hd]; exact Heap.get?_push_size _ rfl
  obtain ⟨hh, hh0⟩ : ∃ hh, s.heap.push { cls := .type "dict", data := .dict #[] } = hh := ⟨_, rfl⟩
  rw [hh0] at hd0 k0 ⊢
  obtain ⟨a0, le0, hcd, hdm⟩ := hA.lend k0 hn (by show (hh.get? d).isSome = true; rw [hd0]; rfl)
  have hdF : d ∈ F ++ [d] := by simp
  have hds : (d == sysModules) = false := by
    obtain ⟨o, ho⟩ := Option.isSome_iff_exists.mp ok.W.sysm
    have := hA.ownOk.kb _ _ ho
    cases q : d == sysModules with
    | false => rfl
    | true => rw [show d = sysModules by simpa using q, this] at hn; cases hn
  refine Tr.then h a0 fun vm s1 _ σ1 m1 T1 hq_ p1 a1 r1 => ?_
  obtain ⟨es, rfl, hsz, hK⟩ := hq_
  have hd1 : s1.heap.get? d = some { cls := .type "dict", data := .dict #[] } := (p1.far d hdF).trans hd0
  have hs1 : SlotRep C.W (view ((F ++ [d]) ++ m1) T1 s1) s1.heap (.dict d []) (.ref d) := ⟨rfl, [], [], ⟨hds, _, 0, hd1, ⟨rfl, rfl, rfl⟩, rfl⟩, .nil, List.nodup_nil⟩
  cases r1 with
  | @dct a o2 _ ds2 kvs2 n2 h1 h0' h2 h3 r2 hnd =>
  have had : a ≠ d := fun q => view_not h1 (by rw [q]; exact List.mem_append_left _ hdF)
  refine wpAny_bind (wpAny_onRaise (wpAny_tryCatch (wpAny_onRaise (wpAny_holding ?_))))
  refine merge_into (own := (F ++ [d]) ++ m1) (D := d) (es := []) a1.ownOk (List.mem_append_left _ hdF) hs1 had (view_of h1) h0' h2 h3 r2 (by rw [List.length_nil]; omega) fun s2 T2 k2 hs2 => ?_
  obtain ⟨p2, a2⟩ := a1.turnF (ex := [d]) k2.same (fun b o hb e => k2.keep b o (by simpa using hb) e) (fun b hb => by rw [List.mem_singleton.mp hb]; exact k2.live) (fun b hb => by rw [List.mem_singleton.mp hb]; exact hdF)
    (fun x c e q => hcd x c e (List.mem_singleton.mp q)) k2.tle k2.tok
  refine wpAny_pure ?_
  dsimp only
  rw [forIn_gatherS (some d) _ (fun p run h => by
    have hne : ((run ++ [(p.1, p.2)]).length == 17) = false := by simp; omega
    simp only [hne, Bool.false_eq_true, if_false]) pairs [] (by simp; omega)]
  refine wpAny_pure ?_
  rw [List.nil_append]
  have hpe : pairs.isEmpty = false := by cases pairs with | nil => exact absurd rfl h0 | cons => rfl
  simp only [hpe, Bool.false_eq_true, if_false]
  refine wpAny_bind (wpAny_bind (wpAny_holding (wpAny_mono (sub_dict hlen hK ok.W a2) ?_ fun _ _ x => x)))
  rintro b s3 ⟨kvs, σ3, m3, T3, hq, hkl, hnb, hbm, same3, le3, far3, a3, hcb, hs3⟩
  have hbd : b ≠ d := fun q => hbm (by rw [q]; exact List.mem_append_left _ hdF)
  have hs2' : SlotRep C.W (view (((F ++ [d]) ++ [b]) ++ m3) T3 s3) s3.heap (.dict d (dsets [] es)) (.ref d) := hs2.mono le3 fun c hc o e => by cases hc; exact (far3 d hdF).trans e
  obtain ⟨_, ds3, kvs3, ⟨hbs, o3, n3, ho3, hx3, hd3⟩, r3, hnd3⟩ := hs3
  have hl3 : (dsets [] es).length + (dsets [] kvs).length ≤ sizeLine := by
    have e1 := dsets_length [] es
    have e2 := dsets_length [] kvs
    rw [List.length_nil] at e1 e2
    omega
  refine wpAny_bind (wpAny_onRaise (wpAny_holding ?_))
  refine merge_into (own := ((F ++ [d]) ++ [b]) ++ m3) (D := d) a3.ownOk (by simp) hs2' hbd ho3 hbs hx3 hd3 r3 hl3 fun s4 T4 k4 hs4 => ?_
  obtain ⟨p4, a4⟩ := a3.turnF (ex := [d]) k4.same (fun b o hb e => k4.keep b o (by simpa using hb) e) (fun b hb => by rw [List.mem_singleton.mp hb]; exact k4.live) (fun b hb => by rw [List.mem_singleton.mp hb]; simp)
    (fun x c e q => hcd x c e (List.mem_singleton.mp q)) k4.tle k4.tok
  have a5 := a4.dropI hcb
  have sub5 : ∀ c ∈ (F ++ [d]) ++ m3, c ∈ ((F ++ [d]) ++ [b]) ++ m3 := fun c hc => by
    simp only [List.mem_append, List.mem_singleton] at hc ⊢
    rcases hc with h | h
    · exact .inl (.inl h)
    · exact .inr h
  have le5 := view_sub (T := T4) (s := s4) sub5
  obtain ⟨a6, hdm6, le6⟩ := a5.adopt (fun q => hdm (List.mem_append_left _ q)) hcd
  refine wpAny_pure (wpAny_pure (fin _ _ (.dict d (dsets (dsets [] es) (dsets [] kvs))) σ3 m3 d T4 (hq d) rfl ⟨?_, ((((le0.trans p1.le).trans p2.le).trans (le3.trans p4.le)).trans le5).trans le6, fun c hc => ?_⟩ hdm6 a6 (hs4.mono (le5.trans le6) fun _ _ _ e => e)))
  · obtain ⟨h1, t1, rfl⟩ := p1.same
    obtain ⟨h2, t2, rfl⟩ := p2.same
    obtain ⟨h3, t3, rfl⟩ := same3
    obtain ⟨h4, t4, rfl⟩ := p4.same
    exact ⟨h4, t4, rfl⟩
  · have hcd' : c ≠ d := fun q => hdm (by rw [← q]; exact List.mem_append_left _ hc)
    obtain ⟨o, ho⟩ := Option.isSome_iff_exists.mp (hA.live c (List.mem_append_left _ hc))
    rw [ho]
    exact k4.keep c o hcd' ((far3 c (List.mem_append_left _ hc)).trans (k2.keep c o hcd' ((p1.far c (List.mem_append_left _ hc)).trans (k0.keep c o ho))))

theorem evT_stand {e : Expr} {pos : Pos} {Q : V → St → Prop} (h : Ev C σ e Q) : EvT C σ (do let x ← eval e C.env; standAt pos; pure x) Q :=
  fun F mine T s hA => wpAny_bind (wpAny_mono (h F mine T s hA) (fun v s' h' => wpAny_bind (wpAny_standAt (wpAny_pure h'))) fun _ _ x => x)
end
end Sx
end
section
open PySem PySem.W PyProof.Rows PySem.Calls
set_option linter.unusedVariables false
set_option Elab.async false
set_option maxRecDepth 100000
namespace Sx
open Builtin.Str StrLaws

/-! ## texts, in plain Lean -/
/-- where y begins, from place i on, the next k places being taken -/
noncomputable def occR (y : S) : Nat → Nat → S → List Nat
  | i, 0, [] => if y = [] then [i] else []
  | i, _ + 1, [] => []
  | i, k + 1, _ :: r => occR y (i + 1) k r
  | i, 0, c :: r => if y.isPrefixOf (c :: r) then i :: occR y (i + 1) (y.length - 1) r else occR y (i + 1) 0 r

/-- all y by z, y not empty -/
noncomputable def replK (y z : S) : Nat → S → S
  | _, [] => []
  | k + 1, _ :: r => replK y z k r
  | 0, c :: r => if y.isPrefixOf (c :: r) then z ++ replK y z (y.length - 1) r else c :: replK y z 0 r
noncomputable def replE (z : S) (x : S) : S := z ++ x.flatMap fun c => c :: z
noncomputable def repl (y z x : S) : S := if y = [] then replE z x else replK y z 0 x

theorem occR_0 {y : S} {i c : Nat} {r : S} : occR y i 0 (c :: r) = if y.isPrefixOf (c :: r) then i :: occR y (i + 1) (y.length - 1) r else occR y (i + 1) 0 r := by rw [occR]
theorem replK_0 {y z : S} {c : Nat} {r : S} : replK y z 0 (c :: r) = if y.isPrefixOf (c :: r) then z ++ replK y z (y.length - 1) r else c :: replK y z 0 r := by rw [replK]

theorem isPrefixOf_take {y x : S} : y.isPrefixOf x = (decide (y.length ≤ x.length) && (x.take y.length == y)) := by
  rw [Bool.eq_iff_iff, Bool.and_eq_true, decide_eq_true_iff, beq_iff_eq, List.isPrefixOf_iff_prefix]
  constructor
  · intro h
    exact ⟨h.length_le, (List.prefix_iff_eq_take.mp h).symm⟩
  · rintro ⟨h1, h2⟩
    exact List.prefix_iff_eq_take.mpr h2.symm

theorem mkS_length (l : S) : (mkS l).length = l.length := by simp [mkS, Str.length]

theorem prefix_at {x y : S} (i : Nat) (hi : i ≤ x.length) : y.isPrefixOf (x.drop i) = (decide (i + y.length ≤ x.length) && subAt (mkS x) (mkS y) i) := by
  rw [isPrefixOf_take, subAt_eq]
  simp only [mkS_cps, mkS_length, List.length_drop]
  congr 1
  rw [decide_eq_decide]; omega

theorem drop_cons {x : S} {i : Nat} {c : Nat} {r : S} (hx : x.drop i = c :: r) : i < x.length ∧ x.drop (i + 1) = r := by
  constructor
  · have := congrArg List.length hx
    simp at this; omega
  · rw [← List.tail_drop, hx]; rfl

noncomputable def scan (x y : S) : List Nat → Nat → List Nat
  | [], _ => []
  | i :: l, free => if free ≤ i ∧ y.isPrefixOf (x.drop i) = true then i :: scan x y l (i + y.length) else scan x y l free
theorem occ_cond {x y : S} {i : Nat} (hi : i ≤ x.length) : (i + (mkS y).length ≤ x.length ∧ subAt (mkS x) (mkS y) i = true) ↔ y.isPrefixOf (x.drop i) = true := by
  rw [prefix_at i hi, Bool.and_eq_true, decide_eq_true_iff, mkS_length]
theorem occ_scan (x y : S) (limit : Nat) (l : List Nat) : ∀ (found : Array Nat) (free : Nat), (∀ i ∈ l, i ≤ x.length) → found.size + l.length ≤ limit →
    (forIn (m := Id) l (found, free) (occBody (mkS x) (mkS y) x.length limit)).run.fst.toList = found.toList ++ scan x y l free := by
  induction l with
  | nil => intro found free _ _; exact (List.append_nil _).symm
  | cons i l ih =>
    intro found free hl hs
    have hi := occ_cond (y := y) (hl i List.mem_cons_self)
    have hl' := fun j hj => hl j (List.mem_cons_of_mem i hj)
    rw [List.length_cons] at hs
    rw [List.forIn_cons]
    unfold occBody scan
    by_cases c : free ≤ i ∧ y.isPrefixOf (x.drop i) = true
    · rw [if_pos c, if_pos ⟨⟨⟨Nat.lt_of_lt_of_le (Nat.lt_add_of_pos_right (Nat.succ_pos _)) hs, c.1⟩, (hi.mpr c.2).1⟩, (hi.mpr c.2).2⟩]
      refine (ih (found.push i) (i + (mkS y).length) hl' (by rw [Array.size_push, Nat.add_right_comm]; exact hs)).trans ?_
      rw [Array.toList_push, List.append_assoc, mkS_length]; rfl
    · rw [if_neg c, if_neg fun q => c ⟨q.1.1.2, hi.mp ⟨q.1.2, q.2⟩⟩]
      exact ih found free hl' (Nat.le_trans (Nat.add_le_add_left (Nat.le_succ _) _) hs)
theorem scan_occR (x y : S) (r : S) : ∀ (i free : Nat), x.drop i = r → (y = [] → free ≤ i) → scan x y (List.range' i (r.length + 1)) free = occR y i (free - i) r := by
  induction r with
  | nil =>
    intro i free hx hy
    show scan x y [i] free = _
    unfold scan scan
    rw [hx]
    cases hk : free - i with
    | zero =>
      cases y with
      | nil => rw [if_pos ⟨Nat.sub_eq_zero_iff_le.mp hk, rfl⟩]; rfl
      | cons c y => rw [if_neg (fun q => by cases q.2)]; rfl
    | succ k => rw [if_neg (fun q => by rw [Nat.sub_eq_zero_of_le q.1] at hk; cases hk)]; rfl
  | cons c r ih =>
    intro i free hx hy
    have h2 := (drop_cons hx).2
    show scan x y (i :: List.range' (i + 1) (r.length + 1)) free = _
    unfold scan
    rw [hx]
    cases hk : free - i with
    | zero =>
      have hf : free ≤ i := Nat.sub_eq_zero_iff_le.mp hk
      rw [occR_0]
      by_cases hp : y.isPrefixOf (c :: r) = true
      · rw [if_pos ⟨hf, hp⟩, if_pos hp, ih (i + 1) _ h2 (fun e => by rw [e]; exact Nat.le_succ _), Nat.add_sub_add_left]
      · rw [if_neg (fun q => hp q.2), if_neg hp, ih (i + 1) free h2 (fun e => Nat.le_succ_of_le hf), Nat.sub_eq_zero_of_le (Nat.le_succ_of_le hf)]
    | succ k =>
      rw [if_neg (fun q => by rw [Nat.sub_eq_zero_of_le q.1] at hk; cases hk), ih (i + 1) free h2 (fun e => Nat.le_succ_of_le (hy e)), Nat.sub_add_eq, hk]; rfl
theorem occ_all (x y : S) : occurrences (mkS x) (mkS y) 0 (mkS x).length ((mkS x).length + 1) = occR y 0 0 x := by
  rw [occ_eq, mkS_length, Nat.sub_zero]
  refine (occ_scan x y _ (List.range' 0 (x.length + 1)) #[] 0 (fun i hi => Nat.le_of_lt_succ (Nat.lt_of_lt_of_le (List.mem_range'_1.mp hi).2 (Nat.le_of_eq (Nat.zero_add _)))) (by rw [List.length_range']; exact Nat.le_of_eq (Nat.zero_add _))).trans ?_
  exact scan_occR x y x 0 0 rfl fun _ => Nat.le_refl _
theorem sub_S (x : S) (i j : Nat) : strSub (mkS x) i j = mkS ((x.drop i).take (j - i)) := by
  apply Str.ext'
  apply Array.toList_inj.mp
  rw [strSub_toList]
  simp
theorem app_S (a b : S) : mkS a ++ mkS b = mkS (a ++ b) := by
  apply Str.ext'
  rw [Str.cps_append]
  simp [mkS]

theorem parts_go (X y z : S) (l : S) : ∀ (i a : Nat), X.drop i = l → i ≤ X.length → (y = [] → a ≤ i) →
    Str.join (mkS z) (partsFrom (mkS X) y.length a (occR y i (a - i) l)) = mkS ((X.drop a).take (i - a) ++ (if y = [] then z ++ l.flatMap (fun c => c :: z) else replK y z (a - i) l)) := by
  induction l with
  | nil =>
    intro i a hx hi hy
    have hie : i = X.length := Nat.le_antisymm hi (List.drop_eq_nil_iff.mp hx)
    by_cases he : y = []
    · subst he
      rw [if_pos rfl, Nat.sub_eq_zero_of_le (hy rfl)]
      show strSub (mkS X) a i ++ mkS z ++ strSub (mkS X) (i + 0) (mkS X).length = _
      rw [sub_S, sub_S, app_S, app_S, mkS_length, hie, Nat.add_zero, List.drop_length, List.take_nil, List.append_assoc]; rfl
    · have e : occR y i (a - i) [] = [] := by
        cases a - i with
        | zero => exact if_neg he
        | succ k => rfl
      have e2 : replK y z (a - i) [] = [] := by cases a - i <;> rfl
      rw [e, if_neg he, e2, List.append_nil]
      show strSub (mkS X) a (mkS X).length = _
      rw [sub_S, mkS_length, hie]
  | cons c r ih =>
    intro i a hx hi hy
    obtain ⟨h1, h2⟩ := drop_cons hx
    cases hk : a - i with
    | succ k =>
      have hia : i < a := Nat.lt_of_sub_pos (by rw [hk]; exact Nat.succ_pos _)
      have he : y ≠ [] := fun e => Nat.not_le.mpr hia (hy e)
      have ih := ih (i + 1) a h2 h1 (fun e => absurd e he)
      rw [Nat.sub_add_eq, hk] at ih
      rw [if_neg he, Nat.sub_eq_zero_of_le hia] at ih
      rw [if_neg he, Nat.sub_eq_zero_of_le (Nat.le_of_lt hia)]
      exact ih
    | zero =>
      have hai : a ≤ i := Nat.sub_eq_zero_iff_le.mp hk
      by_cases hp : y.isPrefixOf (c :: r) = true
      · have ih := ih (i + 1) (i + y.length) h2 h1 (fun e => by rw [e]; exact Nat.le_succ _)
        rw [Nat.add_sub_add_left] at ih
        rw [occR_0, if_pos hp]
        obtain ⟨p, q, e⟩ := partsFrom_ne (mkS X) y.length (i + y.length) (occR y (i + 1) (y.length - 1) r)
        unfold partsFrom
        rw [e] at ih ⊢
        show strSub (mkS X) a i ++ mkS z ++ Str.join (mkS z) (p :: q) = _
        rw [ih, sub_S, app_S, app_S, List.append_assoc]
        refine congrArg (fun w => mkS ((X.drop a).take (i - a) ++ w)) ?_
        by_cases he : y = []
        · subst he
          rw [if_pos rfl, if_pos rfl]
          show z ++ ((X.drop i).take (i + 1 - i) ++ (z ++ _)) = _
          rw [hx, Nat.add_sub_cancel_left, List.flatMap_cons]; rfl
        · rw [if_neg he, if_neg he, replK_0, if_pos hp, Nat.sub_eq_zero_of_le (Nat.add_le_add_left (List.length_pos_iff.mpr he) i)]; rfl
      · have hne : y ≠ [] := fun e => by rw [e] at hp; exact hp rfl
        have ih := ih (i + 1) a h2 h1 (fun e => absurd e hne)
        rw [Nat.sub_eq_zero_of_le (Nat.le_succ_of_le hai), if_neg hne, Nat.succ_sub hai] at ih
        rw [occR_0, if_neg hp, ih, if_neg hne, replK_0, if_neg hp, List.take_add_one, List.getElem?_drop, Nat.add_sub_cancel' hai, show X[i]? = some c by rw [← List.head?_drop, hx]; rfl, List.append_assoc]; rfl
theorem replK_none {y z : S} (hy : y ≠ []) : ∀ (l : S) (i k : Nat), occR y i k l = [] → replK y z k l = l.drop k
  | [], i, k, h => by simp [replK]
  | c :: r, i, k + 1, h => by
    simp only [occR] at h
    simp only [replK, List.drop_succ_cons]
    exact replK_none hy r (i + 1) k h
  | c :: r, i, 0, h => by
    rw [occR_0] at h
    rw [replK_0]
    by_cases hp : y.isPrefixOf (c :: r) = true
    · rw [if_pos hp] at h; cases h
    · rw [if_neg hp] at h ⊢
      rw [replK_none hy r (i + 1) 0 h]; rfl

theorem replace_S (x y z : S) : Txt.replace (mkS x) (mkS y) (mkS z) = mkS (repl y z x) := by
  unfold Txt.replace
  rw [occ_all, mkS_length, mkS_length]
  by_cases h : ((occR y 0 0 x).isEmpty || (y.length == 0 && z.length == 0)) = true
  · rw [if_pos h]
    congr 1
    unfold repl
    by_cases hy : y = []
    · subst hy
      rw [if_pos rfl]
      rcases Bool.or_eq_true_iff.mp h with h | h
      · cases x with
        | nil => simp [occR] at h
        | cons c r => rw [occR_0] at h; simp at h
      · have hz : z = [] := by simpa using h
        subst hz
        simp [replE]
    · rw [if_neg hy]
      rcases Bool.or_eq_true_iff.mp h with h | h
      · have := replK_none (z := z) hy x 0 0 (by simpa using h)
        simpa using this.symm
      · simp [hy] at h
  · rw [if_neg h, glued_eq_join, partsBetween_eq, show Str.join (mkS z) (partsFrom (mkS x) y.length 0 (occR y 0 0 x)) = _ from parts_go x y z x 0 0 rfl (Nat.zero_le _) (fun _ => Nat.le_refl _), Nat.sub_self]
    unfold repl replE
    by_cases hy : y = []
    · simp [hy]
    · simp [hy]
end Sx
end
section
open PySem PySem.W PyProof.Rows PySem.Calls
set_option linter.unusedVariables false
set_option Elab.async false
set_option maxRecDepth 100000
namespace Sx

/-! ## slices -/
noncomputable def clp (n : Nat) (i : Int) : Nat := if i < 0 then (i + n).toNat else min i.toNat n
noncomputable def slc {α : Type} (lo hi : Option Int) (l : List α) : List α := (l.drop (match lo with | none => 0 | some i => clp l.length i)).take ((match hi with | none => l.length | some i => clp l.length i) - (match lo with | none => 0 | some i => clp l.length i))

theorem clp_nat (n i : Nat) : clp n (i : Int) = min i n := if_neg (Int.not_lt.mpr (Int.natCast_nonneg i))
theorem clp_neg {n : Nat} {i : Int} (h : i < 0) : clp n i = (i + n).toNat := if_pos h
theorem clp_le (n : Nat) (i : Int) : clp n i ≤ n := by
  rcases Int.lt_or_le i 0 with h | h
  · rw [clp_neg h]; exact Int.toNat_le.mpr (Int.le_trans (Int.add_le_add_right (Int.le_of_lt h) _) (Int.le_of_eq (Int.zero_add _)))
  · obtain ⟨m, rfl⟩ := Int.eq_ofNat_of_zero_le h
    rw [clp_nat]; exact Nat.min_le_right _ _
theorem clip_eq (n : Nat) (i : Int) : max (0 : Int) (min (if i < 0 then i + n else i) n) = (clp n i : Int) := by
  rcases Int.lt_or_le i 0 with h | h
  · rw [clp_neg h, if_pos h, Int.min_eq_left (Int.le_trans (Int.add_le_add_right (Int.le_of_lt h) _) (Int.le_of_eq (Int.zero_add _))), Int.max_comm, Int.ofNat_toNat]
  · obtain ⟨m, rfl⟩ := Int.eq_ofNat_of_zero_le h
    rw [clp_nat, if_neg (Int.not_lt.mpr h), Int.max_eq_right (Int.le_min.mpr ⟨h, Int.natCast_nonneg n⟩)]
    rcases Nat.le_total m n with k | k
    · rw [Nat.min_eq_left k]; exact Int.min_eq_left (Int.ofNat_le.mpr k)
    · rw [Nat.min_eq_right k]; exact Int.min_eq_right (Int.ofNat_le.mpr k)
theorem rng_len {a b : Nat} : (((b : Int) - a + 1 - 1) / 1).toNat = b - a := by rw [Int.ediv_one, Int.add_sub_cancel]; exact Int.toNat_sub b a
theorem sliceRange_eq (a b : Nat) : sliceRange (a : Int) (b : Int) 1 = (List.range (b - a)).map (fun (i : Nat) => ((a : Int) + 1 * (i : Int)).toNat) := by
  unfold sliceRange
  by_cases h : (a : Int) < b
  · rw [if_pos (by decide), if_pos h]; exact congrArg (fun n => (List.range n).map fun (k : Nat) => ((a : Int) + 1 * (k : Int)).toNat) rng_len
  · rw [if_pos (by decide), if_neg h, Nat.sub_eq_zero_of_le (Int.ofNat_le.mp (Int.not_lt.mp h))]; rfl
theorem picks_any {α : Type} (l : List α) (a b : Nat) (hb : b ≤ l.length) : ((sliceRange a b 1).filterMap (l[·]?)) = (l.drop a).take (b - a) := by
  rw [sliceRange_eq]
  rcases Nat.le_total a b with h | h
  · rw [← StrLaws.picks l (b - a) a (by rw [Nat.add_sub_cancel' h]; exact hb)]
    congr 1
    refine List.map_congr_left fun k _ => ?_
    rw [Int.one_mul]; rfl
  · rw [Nat.sub_eq_zero_of_le h]; rfl
theorem slc_str (x : S) (lo hi : Option Int) : (Builtin.Str.strSliceIndices lo hi 1 x.length).filterMap (x[·]?) = slc lo hi x := by
  have key : ∀ a b : Nat, b ≤ x.length → (sliceRange (a : Int) (b : Int) 1).filterMap (x[·]?) = (x.drop a).take (b - a) := fun a b hb => picks_any x a b hb
  unfold Builtin.Str.strSliceIndices slc
  simp only [show ((1 : Int) > 0) = True from by simp, if_true]
  cases lo with
  | none => cases hi with
    | none => exact key 0 x.length (Nat.le_refl _)
    | some j => simp only [clip_eq]; exact key 0 _ (clp_le _ _)
  | some i => cases hi with
    | none => simp only [clip_eq]; exact key _ x.length (Nat.le_refl _)
    | some j => simp only [clip_eq]; exact key _ _ (clp_le _ _)
theorem range_len {α : Type} (l : List α) (a b : Nat) (hb : b ≤ l.length) : (sliceRange a b 1).length = ((l.drop a).take (b - a)).length := by
  rw [sliceRange_eq, List.length_map, List.length_range, List.length_take, List.length_drop, Nat.min_eq_left (Nat.sub_le_sub_right hb a)]
theorem slc_str_len (x : S) (lo hi : Option Int) : (Builtin.Str.strSliceIndices lo hi 1 x.length).length = (slc lo hi x).length := by
  have key : ∀ a b : Nat, b ≤ x.length → (sliceRange (a : Int) (b : Int) 1).length = ((x.drop a).take (b - a)).length := fun a b hb => range_len x a b hb
  unfold Builtin.Str.strSliceIndices slc
  simp only [show ((1 : Int) > 0) = True from by simp, if_true]
  cases lo with
  | none => cases hi with
    | none => exact key 0 x.length (Nat.le_refl _)
    | some j => simp only [clip_eq]; exact key 0 _ (clp_le _ _)
  | some i => cases hi with
    | none => simp only [clip_eq]; exact key _ x.length (Nat.le_refl _)
    | some j => simp only [clip_eq]; exact key _ _ (clp_le _ _)
theorem slc_whole {α : Type} (x : List α) (lo hi : Option Int) (h : (slc lo hi x).length = x.length) : slc lo hi x = x := by
  have hs : List.Sublist (slc lo hi x) x := by unfold slc; exact (List.take_sublist _ _).trans (List.drop_sublist _ _)
  exact hs.eq_of_length h
theorem slc_list (ws : List Value) (lo hi : Option Int) : slicePick ws.toArray lo hi none = (slc lo hi ws).toArray := by
  unfold slicePick sliceBounds slc
  simp only [Option.getD_none, show ((1 : Int) > 0) = True from by simp, if_true, List.size_toArray, List.getElem?_toArray]
  cases lo with
  | none => cases hi with
    | none => rw [← picks_any ws 0 ws.length (Nat.le_refl _)]; rfl
    | some j => simp only [clip_eq]; rw [← picks_any ws 0 _ (clp_le _ _)]; rfl
  | some i => cases hi with
    | none => simp only [clip_eq]; rw [← picks_any ws _ ws.length (Nat.le_refl _)]
    | some j => simp only [clip_eq]; rw [← picks_any ws _ _ (clp_le _ _)]
theorem slc_length {α : Type} (lo hi : Option Int) (x : List α) : (slc lo hi x).length ≤ x.length := by
  unfold slc; rw [List.length_take]; exact Nat.le_trans (Nat.min_le_right _ _) (by rw [List.length_drop]; exact Nat.sub_le _ _)
theorem RepL.slc {W : Wd} {g : PH} {vs : List V} {ws : List Value} (h : RepL W g vs ws) (lo hi : Option Int) : RepL W g (Sx.slc lo hi vs) (Sx.slc lo hi ws) := by
  unfold Sx.slc
  rw [h.length]
  exact (h.drop _).take _

section
variable {C : Cx} {σ : St}

noncomputable def EvP (C : Cx) (σ : St) (e : Option Expr) (Q : Option Int → St → Prop) : Prop := match e with
  | none => Q none σ
  | some e => Ev C σ e (fun v σ1 => ∃ i, v = .int i ∧ Q (some i) σ1)

theorem evP_run {e : Option Expr} {Q : Option Int → St → Prop} (h : EvP C σ e Q) {F mine : List Addr} {T : TM} {s : Shared} (hA : Abs C F mine T σ s) :
    wpAny C.M C.A (evalPart e C.env) (fun v s' => ∃ p σ' mine' T', Q (p.map (·.1)) σ' ∧ v = partValue p ∧ Post F mine T s mine' T' s' ∧ Abs C F mine' T' σ' s') C.X s := by
  cases e with
  | none => exact wpAny_evalPart_none ⟨none, σ, mine, T, h, rfl, .refl _ _ _ _, hA⟩
  | some e =>
    refine wpAny_evalPart_some (Tr.then h hA fun v s1 _ σ1 m1 T1 hq_ p1 a1 r1 => ?_)
    obtain ⟨i, rfl, hq⟩ := hq_
    cases r1
    rename_i t
    exact ⟨some (i, t), σ1, m1, T1, hq, rfl, p1, a1⟩

theorem slice_made {own : List Addr} {T : TM} {s : Shared} {l : S} {t : Tok} {lo hi : Option (Int × Tok)} {K : V → Prop} (hO : OwnOk C own T s) (ht : T t = some l) (hl : l.length ≤ sizeLine) (h : K (.str (slc (lo.map (·.1)) (hi.map (·.1)) l))) {s0 : Shared} {T0 : TM} (hk : Kp T0 s0 T s)
    {Q : Value → Shared → Prop} (hQ : ∀ v s', Out own T0 s0 (Rep C.W) K v s' → Q v s') : (sliceMade (mkS l) t lo hi none).post Q s := by
  have e1 : (slicePicked (mkS l) lo hi none).filterMap ((mkS l).cps[·]?) = slc (lo.map (·.1)) (hi.map (·.1)) l := by
    rw [← slc_str]
    unfold slicePicked
    rw [mkS_length]
    simp [mkS]
  have hlen : (slicePicked (mkS l) lo hi none).length = (slc (lo.map (·.1)) (hi.map (·.1)) l).length := by
    rw [← slc_str_len]
    unfold slicePicked
    rw [mkS_length]; rfl
  unfold sliceMade
  by_cases hc : (((none : Option (Int × Tok)).map (·.1)).getD 1 == 1 && (slicePicked (mkS l) lo hi none).length == (mkS l).length) = true
  · rw [if_pos hc]
    have h2 : (slc (lo.map (·.1)) (hi.map (·.1)) l).length = l.length := by
      rw [← hlen]
      have := (Bool.and_eq_true _ _ ▸ hc).2
      rw [mkS_length] at this
      simpa using this
    have h3 := slc_whole l _ _ h2
    exact hQ _ _ ⟨_, T, h, hk, by rw [h3]; exact .str ht⟩
  · rw [if_neg hc, e1]
    refine ⟨by show (mkS _).length ≤ sizeLine; rw [mkS_length]; exact Nat.le_trans (slc_length _ _ _) hl, hQ _ _ ⟨_, _, h, hk.trans (.str (h' := s.heap) hO.tok fun _ _ e => e), .str TM.upd_self⟩⟩

theorem isPart_of (p : Option (Int × Tok)) : IsPart (partValue p) (p.map (·.1)) := by
  cases p with
  | none => exact .none
  | some x => obtain ⟨i, t⟩ := x; exact .int i t

/-- l[lo:hi], a list: a new one -/
theorem evF_slice_list {value : Expr} {lower upper : Option Expr} {p pos : Pos} {Q : Slot → St → Prop}
    (h : Ev C σ value (fun a σ1 => ∃ l, a = .lst l ∧ l.length ≤ sizeLine ∧ EvP C σ1 lower (fun lo σ2 => EvP C σ2 upper (fun hi σ3 => ∀ a, Q (.list a (slc lo hi l)) σ3))))
    (ht : ∀ o r, letTemporaryGo value o r = pure () := by intro _ _; rfl) : EvF C σ (eval (.Subscript value (.Slice lower upper none p) pos) C.env) Q := by
  intro F mine T s hA
  refine wpAny_Subscript_list_slice (Tr.then h hA fun va s1 _ σ1 m1 T1 hq_ p1 a1 r1 => ?_) ht
  obtain ⟨l, rfl, hl, hlo⟩ := hq_
  refine wpAny_mono (evP_run hlo a1) ?_ fun _ _ x => x
  rintro vl s2 ⟨lo, σ2, m2, T2, hhi, rfl, p2, a2⟩
  refine wpAny_mono (evP_run hhi a2) ?_ fun _ _ x => x
  rintro vu s3 ⟨hi, σ3, m3, T3, hq, rfl, p3, a3⟩
  cases r1.mono (p2.le.trans p3.le) with
  | @lst a o _ ws n h1 h2 h3 h4 r =>
  refine ⟨a, ws.toArray, lo.map (·.1), hi.map (·.1), rfl, ⟨o, view_of h1, h2, n, h4⟩, by rw [List.size_toArray, r.length]; exact hl, isPart_of lo, isPart_of hi, ?_⟩
  rw [slc_list]
  have k1 : Kp T3 s3 T3 { s3 with heap := s3.heap.push { cls := .type "slice", data := .fields #[partValue lo, partValue hi, .none] } } := .push a3.tok (Nat.le_refl _)
  obtain ⟨h1', hh1⟩ : ∃ h1', s3.heap.push { cls := .type "slice", data := .fields #[partValue lo, partValue hi, .none] } = h1' := ⟨_, rfl⟩
  have hz : s3.heap.objs.size + 1 = h1'.objs.size := by rw [← hh1, Heap.size_push]
  rw [hh1] at k1 ⊢
  rw [hz]
  have k2 : Kp T3 { s3 with heap := h1' } T3 { s3 with heap := h1'.push { cls := .type "list", data := .seq (slc (lo.map (·.1)) (hi.map (·.1)) ws).toArray } } := Kp.push (s := { s3 with heap := h1' }) (tk := s3.toks) k1.tok (Nat.le_refl _)
  have hn : s3.heap.get? h1'.objs.size = none := get_ge (by omega)
  have k12 := k1.trans k2
  obtain ⟨p4, hm, a4, le⟩ := a3.new k12 hn (by show ((h1'.push _).get? h1'.objs.size).isSome = true; rw [Heap.get?_push_size _ rfl]; rfl)
  refine ⟨.list h1'.objs.size (slc (lo.map (·.1)) (hi.map (·.1)) l), σ3, m3, h1'.objs.size, T3, hq _, rfl, (p1.trans (p2.trans p3)).trans p4, hm, a4, rfl, _, ⟨0, Heap.get?_push_size _ rfl⟩, ?_⟩
  exact (r.slc _ _).mono p4.le
end
end Sx
end
section
open PySem PySem.W PyProof.Rows PySem.Calls
set_option linter.unusedVariables false
set_option Elab.async false
set_option maxRecDepth 100000
namespace Sx

section
variable {C : Cx}
/-! ## numbers -/
theorem op_add_int {a b : Int} {K : V → Prop} (h : K (.int (a + b))) : Op2 C (Rep C.W) (binaryOp .Add) (.int a) (.int b) K := fun own T s va vb hO ra rb => by
  obtain ⟨_, rfl⟩ := ra.int_inv; obtain ⟨_, rfl⟩ := rb.int_inv; exact PyProof.Rows.add_int (.int hO.tok h (Nat.le_succ _))
theorem op_sub_int {a b : Int} {K : V → Prop} (h : K (.int (a - b))) : Op2 C (Rep C.W) (binaryOp .Sub) (.int a) (.int b) K := fun own T s va vb hO ra rb => by
  obtain ⟨_, rfl⟩ := ra.int_inv; obtain ⟨_, rfl⟩ := rb.int_inv; exact PyProof.Rows.sub_int' (.int hO.tok h (Nat.le_succ _))
theorem op_mod_int {a b : Int} {K : V → Prop} (hb : b ≠ 0) (h : K (.int (a.fmod b))) : Op2 C (Rep C.W) (binaryOp .Mod) (.int a) (.int b) K := fun own T s va vb hO ra rb => by
  obtain ⟨_, rfl⟩ := ra.int_inv; obtain ⟨_, rfl⟩ := rb.int_inv; exact PyProof.Rows.mod_int' hb (.int hO.tok h (Nat.le_succ _))
theorem op_div_int {a b : Int} {K : V → Prop} (hb : b ≠ 0) (hs : Builtin.divisionGoesByPylong a b = false) (h : K (.int (a.fdiv b))) : Op2 C (Rep C.W) (binaryOp .FloorDiv) (.int a) (.int b) K := fun own T s va vb hO ra rb => by
  obtain ⟨_, rfl⟩ := ra.int_inv; obtain ⟨_, rfl⟩ := rb.int_inv; exact PyProof.Rows.floordiv_int hb (.int hO.tok h (Nat.le_succ _)) (.inl hs)
theorem op_eq_int {a b : Int} {K : V → Prop} (h : K (.bool (a == b))) : Op2 C (Rep C.W) (compareOp .Eq) (.int a) (.int b) K := fun own T s va vb hO ra rb => by
  obtain ⟨_, rfl⟩ := ra.int_inv; obtain ⟨_, rfl⟩ := rb.int_inv; exact PySem.P.eq_int (.same hO.tok h (.bool _))
/-! ## texts -/
theorem op_eq_str {a b : S} {K : V → Prop} (h : K (.bool (decide (a = b)))) : Op2 C (Rep C.W) (compareOp .Eq) (.str a) (.str b) K := fun own T s va vb hO ra rb => by
  obtain ⟨_, rfl, _⟩ := ra.str_inv; obtain ⟨_, rfl, _⟩ := rb.str_inv
  refine PySem.P.eq_str (.same hO.tok h ?_)
  have e : ((mkS a).cps.toList == (mkS b).cps.toList) = decide (a = b) := by rw [Bool.eq_iff_iff]; simp
  rw [e]; exact .bool _
theorem op_ne_str {a b : S} {K : V → Prop} (h : K (.bool (!decide (a = b)))) : Op2 C (Rep C.W) (compareOp .NotEq) (.str a) (.str b) K := fun own T s va vb hO ra rb => by
  obtain ⟨_, rfl, _⟩ := ra.str_inv; obtain ⟨_, rfl, _⟩ := rb.str_inv
  refine PySem.P.ne_str (.same hO.tok h ?_)
  have e : ((mkS a).cps.toList != (mkS b).cps.toList) = !decide (a = b) := by rw [Bool.eq_iff_iff]; simp
  rw [e]; exact .bool _
theorem add_made {own : List Addr} {T : TM} {s : Shared} {a b : S} {t u : Tok} {K : V → Prop} (hO : OwnOk C own T s) (ha : T t = some a) (hb : T u = some b) (hl : a.length + b.length ≤ sizeLine) (h : K (.str (a ++ b))) :
    (if (mkS a).length == 0 then Made.val (.str (mkS b) u) else if (mkS b).length == 0 then Made.val (.str (mkS a) t) else Made.str (mkS a ++ mkS b)).post (Out own T s (Rep C.W) K) s := by
  rw [mkS_length, mkS_length]
  by_cases h1 : (a.length == 0) = true
  · rw [if_pos h1]
    have : a = [] := by simpa using h1
    subst this
    exact .same hO.tok h (.str hb)
  · rw [if_neg h1]
    by_cases h2 : (b.length == 0) = true
    · rw [if_pos h2]
      have : b = [] := by simpa using h2
      subst this
      rw [List.append_nil] at h
      exact .same hO.tok h (.str ha)
    · rw [if_neg h2, app_S]
      exact ⟨by show (mkS _).length ≤ sizeLine; rw [mkS_length, List.length_append]; exact hl, .strNew hO.tok h⟩
theorem op_add_str {a b : S} {K : V → Prop} (hl : a.length + b.length ≤ sizeLine) (h : K (.str (a ++ b))) : Op2 C (Rep C.W) (binaryOp .Add) (.str a) (.str b) K := fun own T s va vb hO ra rb => by
  obtain ⟨_, rfl, _⟩ := ra.str_inv; obtain ⟨_, rfl, _⟩ := rb.str_inv; rename_i t ht u hu
  exact PySem.P.add_str (add_made hO ht hu hl h)
theorem op_iadd_str {a b : S} {K : V → Prop} (hl : a.length + b.length ≤ sizeLine) (h : K (.str (a ++ b))) : Op2 C (Rep C.W) (inplaceOp .Add) (.str a) (.str b) K := fun own T s va vb hO ra rb => by
  obtain ⟨_, rfl, _⟩ := ra.str_inv; obtain ⟨_, rfl, _⟩ := rb.str_inv; rename_i t ht u hu
  exact PySem.P.iadd_str (add_made hO ht hu hl h)

/-- y somewhere in x -/
noncomputable def hasSub (y : S) : S → Bool
  | [] => y.isEmpty
  | c :: r => y.isPrefixOf (c :: r) || hasSub y r
theorem hasSub_iff (y x : S) : hasSub y x = true ↔ ∃ i, i ≤ x.length ∧ y.isPrefixOf (x.drop i) = true := by
  induction x with
  | nil => cases y <;> simp [hasSub]
  | cons c r ih =>
    simp only [hasSub, Bool.or_eq_true, ih]
    constructor
    · rintro (h | ⟨i, h1, h2⟩)
      · exact ⟨0, Nat.zero_le _, h⟩
      · exact ⟨i + 1, by simp; omega, h2⟩
    · rintro ⟨i, h1, h2⟩
      cases i with
      | zero => exact .inl h2
      | succ i => exact .inr ⟨i, by simpa using h1, h2⟩
theorem hasSub_S (y x : S) : (!(Builtin.Str.occurrences (mkS x) (mkS y) 0 (mkS x).length 1).isEmpty) = hasSub y x := by
  rw [Bool.eq_iff_iff, StrLaws.found_iff, hasSub_iff]
  constructor
  · rintro ⟨i, h1, h2⟩
    rw [mkS_length, mkS_length] at h1
    refine ⟨i, by omega, ?_⟩
    rw [prefix_at i (by omega), h2, decide_eq_true h1]; rfl
  · rintro ⟨i, h1, h2⟩
    rw [prefix_at i h1, Bool.and_eq_true, decide_eq_true_iff] at h2
    exact ⟨i, by rw [mkS_length, mkS_length]; exact h2.1, h2.2⟩
theorem op_in_str {a b : S} {K : V → Prop} (h : K (.bool (hasSub a b))) : Op2 C (Rep C.W) (compareOp .In) (.str a) (.str b) K := fun own T s va vb hO ra rb => by
  obtain ⟨_, rfl, _⟩ := ra.str_inv; obtain ⟨_, rfl, _⟩ := rb.str_inv
  refine PySem.P.in_str (.same hO.tok h ?_)
  rw [hasSub_S]; exact .bool _
theorem opL_len_str {l : S} {K : V → Prop} (hl : l.length ≤ sizeLine) (h : K (.int l.length)) : OpL C (Rep C.W) (fun ws => call (.builtin "len") ws) [.str l] K := fun own T s vs hO hr => by
  obtain ⟨_, _, rfl, r, hr⟩ := hr.cons_inv
  obtain rfl := hr.nil_inv; obtain ⟨_, rfl, _⟩ := r.str_inv
  refine PySem.P.len_str (by rw [mkS_length]; have : sizeLine = 2 ^ 24 := by rw [sizeLine_eq]
                             omega) ?_
  rw [mkS_length]
  exact .int hO.tok h (by omega)

theorem op_item_str {l : S} {i : Int} {c : Nat} {K : V → Prop} (h0 : -(l.length : Int) ≤ i) (hi : i < l.length) (hl : l.length ≤ sizeLine) (hc : l[(if i < 0 then i + l.length else i).toNat]? = some c) (h : K (.str [c])) : Op2 C (Rep C.W) getItem (.str l) (.int i) K := fun own T s va vb hO ra rb => by
  obtain ⟨_, rfl, _⟩ := ra.str_inv; obtain ⟨_, rfl⟩ := rb.int_inv
  have hsz : sizeLine = 2 ^ 24 := by rw [sizeLine_eq]
  refine PySem.P.getItem_str (c := c) ?_ ?_ (.strNew (l := [c]) hO.tok h)
  · rw [Bool.or_eq_false_iff]; exact ⟨decide_eq_false (by omega), decide_eq_false (by omega)⟩
  · rw [mkS_length]
    by_cases hn : i < 0
    · rw [StrLaws.seqIndex_neg hn h0]
      rw [if_pos hn] at hc
      show (mkS l).cps[(i + l.length).toNat]? = some c
      simpa [mkS] using hc
    · rw [StrLaws.seqIndex_nonneg (by omega) hi]
      rw [if_neg hn] at hc
      show (mkS l).cps[i.toNat]? = some c
      simpa [mkS] using hc

theorem opL_chr {i : Int} {K : V → Prop} (h0 : 0 ≤ i) (h1 : i ≤ 0x10FFFF) (h : K (.str [i.toNat])) : OpL C (Rep C.W) (fun ws => call (.builtin "chr") ws) [.int i] K := fun own T s vs hO hr => by
  obtain ⟨_, _, rfl, r, hr⟩ := hr.cons_inv
  obtain rfl := hr.nil_inv; obtain ⟨_, rfl⟩ := r.int_inv
  exact PySem.P.chr_of_int (by rw [Bool.or_eq_false_iff]; exact ⟨decide_eq_false (by omega), decide_eq_false (by omega)⟩) (.strNew (l := [i.toNat]) hO.tok h)

/-- data.replace(old, new) -/
theorem opL_replace {x y z : S} {K : V → Prop} (hyz : y ≠ z ∨ (y = [] ∧ z = [])) (hl : x.length + (x.length + 1) * z.length ≤ sizeLine) (h : K (.str (repl y z x))) :
    OpL C (Rep C.W) (fun ws => call (.builtin "str.replace") ws) [.str x, .str y, .str z] K := fun own T s vs hO hr => by
  obtain ⟨_, _, rfl, r1, hr⟩ := hr.cons_inv
  obtain ⟨_, _, rfl, r2, hr⟩ := hr.cons_inv
  obtain ⟨_, _, rfl, r3, hr⟩ := hr.cons_inv
  obtain rfl := hr.nil_inv; obtain ⟨t, rfl, ht⟩ := r1.str_inv; obtain ⟨u, rfl, hu⟩ := r2.str_inv; obtain ⟨v, rfl, hv⟩ := r3.str_inv
  have hu0 := (hO.tok.lt u y hu).1
  have hv0 := (hO.tok.lt v z hv).1
  rcases hyz with hyz | ⟨rfl, rfl⟩
  · have huv : u ≠ v := fun e => hyz (by
      have hu : T u = some y := hu
      have hv : T v = some z := hv
      rw [e, hv] at hu; injection hu with hu; exact hu.symm)
    refine call_gives PySem.F.slot_str_replace (typeIs_str _ _ _) PySem.F.entry_str_replace (PySem.F.args_str_replace_3 _ _ _)
      (gives_str_replace (mkS x) (mkS y) (mkS z) t u v fun _ => ⟨?_, by simpa using huv, ?_, ?_⟩) ?_
    · rw [Bool.or_eq_false_iff]; exact ⟨beq_eq_false_iff_ne.mpr (Nat.ne_of_gt hu0), beq_eq_false_iff_ne.mpr (Nat.ne_of_gt hv0)⟩
    · simp only [beq_eq_false_iff_ne]; exact fun e => hyz (mkS_inj e)
    · have h1 := StrLaws.occ_length_le (mkS x) (mkS y) 0 (mkS x).length ((mkS x).length + 1)
      have h2 : (Builtin.Str.occurrences (mkS x) (mkS y) 0 (mkS x).length ((mkS x).length + 1)).length * z.length ≤ ((mkS x).length + 1) * z.length := Nat.mul_le_mul_right _ h1
      rw [mkS_length] at h2
      unfold Builtin.Str.tooLong
      rw [mkS_length, mkS_length]
      exact decide_eq_false (by omega)
    · have e := replace_S x y z
      unfold Txt.replace at e
      by_cases hc : ((Builtin.Str.occurrences (mkS x) (mkS y) 0 (mkS x).length ((mkS x).length + 1)).isEmpty || ((mkS y).length == 0 && (mkS z).length == 0)) = true
      · rw [if_pos hc] at e ⊢
        have := mkS_inj e
        exact ⟨_, T, h, .refl hO.tok, by rw [← this]; exact .str ht⟩
      · rw [if_neg hc] at e ⊢
        refine ⟨?_, ?_⟩
        · rw [e]
          have hf := fits_replaced (x := mkS x) (z := mkS z) (mkS y) (by rw [mkS_length, mkS_length]; have : sizeLine = 16777216 := sizeLine_eq
                                                                         omega)
          rw [e] at hf; exact hf
        · rw [e]; exact .strNew hO.tok h
  · refine call_gives PySem.F.slot_str_replace (typeIs_str _ _ _) PySem.F.entry_str_replace (PySem.F.args_str_replace_3 _ _ _)
      (gives_str_replace (mkS x) (mkS []) (mkS []) t u v fun hc => ?_) ?_
    · rw [Bool.or_eq_false_iff] at hc
      exact absurd hc.2 (by rw [mkS_length]; decide)
    · rw [if_pos (by rw [Bool.or_eq_true]; exact .inr rfl)]
      refine ⟨_, T, h, .refl hO.tok, ?_⟩
      have e : repl [] [] x = x := by simp [repl, replE]
      rw [e]; exact .str ht
end
end Sx
end
section
open PySem PySem.W PyProof.Rows PySem.Calls
set_option linter.unusedVariables false
set_option Elab.async false
set_option maxRecDepth 100000
namespace Sx
open Builtin.Str

noncomputable def joinS (sep : S) : List S → S
  | [] => []
  | [x] => x
  | x :: y :: r => x ++ sep ++ joinS sep (y :: r)
theorem joinS_nil : ∀ ls : List S, joinS [] ls = ls.flatten
  | [] => rfl
  | [x] => by simp [joinS]
  | x :: y :: r => by rw [joinS, joinS_nil (y :: r)]; simp
theorem join_S (sep : S) : ∀ ls : List S, Str.join (mkS sep) (ls.map mkS) = mkS (joinS sep ls)
  | [] => rfl
  | [x] => rfl
  | x :: y :: r => by
    show mkS x ++ mkS sep ++ Str.join (mkS sep) ((y :: r).map mkS) = _
    rw [join_S sep (y :: r), app_S, app_S]; rfl

theorem strs_of {W : Wd} {g : PH} : ∀ (ls : List S) (ws : List Value), RepL W g (ls.map V.str) ws → ∃ l : List (Str × Tok), ws = strValues l ∧ l.map (·.1) = ls.map mkS ∧ ∀ x ∈ l, ∃ s, x.1 = mkS s ∧ g.tk x.2 = some s
  | [], ws, h => by obtain rfl := h.nil_inv; exact ⟨[], rfl, rfl, fun x hx => by cases hx⟩
  | s :: ls, ws, h => by
    obtain ⟨_, _, rfl, h1, h2⟩ := h.cons_inv
    obtain ⟨t, rfl, ht⟩ := h1.str_inv
    obtain ⟨l, rfl, e, h3⟩ := strs_of ls _ h2
    refine ⟨(mkS s, t) :: l, rfl, by simp [e], fun x hx => ?_⟩
    rcases List.mem_cons.mp hx with rfl | hx
    · exact ⟨s, rfl, ht⟩
    · exact h3 x hx

section
variable {C : Cx}
theorem join_post {own : List Addr} {T : TM} {s : Shared} {s0 : Shared} {T0 : TM} (hO : OwnOk C own T s) (hk : Kp T0 s0 T s) {sep : S} {ls : List S} {l : List (Str × Tok)} (he : l.map (·.1) = ls.map mkS) (ht : ∀ x ∈ l, ∃ s, x.1 = mkS s ∧ T x.2 = some s)
    (hl : (ls.map List.length).sum + ls.length * sep.length ≤ sizeLine) {K : V → Prop} (h : K (.str (joinS sep ls))) {Q : Value → Shared → Prop} (hQ : ∀ v s', Out own T0 s0 (Rep C.W) K v s' → Q v s') : (joinMade (mkS sep) l).post Q s := by
  have hlen : ∀ ls : List S, (joinS sep ls).length ≤ (ls.map List.length).sum + ls.length * sep.length := by
    intro ls
    induction ls with
    | nil => simp [joinS]
    | cons a r ih =>
      cases r with
      | nil => simp [joinS]
      | cons b r =>
        simp only [joinS, List.length_append, List.map_cons, List.sum_cons, List.length_cons] at ih ⊢
        have : (r.length + 1 + 1) * sep.length = (r.length + 1) * sep.length + sep.length := by rw [Nat.succ_mul]
        omega
  have big : ∀ l : List (Str × Tok), l.map (·.1) = ls.map mkS → (Made.str (glued (mkS sep) (l.map (·.1)))).post Q s := by
    intro l he
    rw [he, StrLaws.glued_eq_join, join_S]
    exact ⟨by show (mkS _).length ≤ sizeLine; rw [mkS_length]; exact Nat.le_trans (hlen ls) hl, hQ _ _ ⟨_, _, h, hk.trans (.str (h' := s.heap) hO.tok fun _ _ e => e), .str TM.upd_self⟩⟩
  match l, he, ht with
  | [], he, ht => exact big [] he
  | [p], he, ht =>
    obtain ⟨x, t⟩ := p
    obtain ⟨s1, h1, h2⟩ := ht _ List.mem_cons_self
    match ls, he, h with
    | [y], he, h =>
      have hx : x = mkS y := by simpa using he
      have h1 : x = mkS s1 := h1
      have : s1 = y := mkS_inj (h1.symm.trans hx)
      subst this
      subst hx
      exact hQ _ _ ⟨_, T, h, hk, .str h2⟩
    | [], he, h => simp at he
    | _ :: _ :: _, he, h => simp at he
  | p :: q :: r, he, ht => exact big (p :: q :: r) he

theorem join_fits {sep : S} {ls : List S} {l : List (Str × Tok)} (he : l.map (·.1) = ls.map mkS) (hl : (ls.map List.length).sum + ls.length * sep.length ≤ sizeLine) : tooLong ((l.map (·.1)).toArray.foldl (· + ·.length + (mkS sep).length) 0) = false := by
  rw [StrLaws.joinTotal, he]
  have e1 : ((ls.map mkS).map Str.length).sum = (ls.map List.length).sum := by rw [List.map_map]; exact congrArg List.sum (List.map_congr_left fun a _ => mkS_length a)
  unfold tooLong
  rw [e1, List.length_map, mkS_length]
  exact decide_eq_false (by omega)

theorem opL_join_list {sep : S} {ls : List S} {K : V → Prop} (hl : (ls.map List.length).sum + ls.length * sep.length ≤ sizeLine) (h : K (.str (joinS sep ls))) :
    OpL C (Rep C.W) (fun ws => call (.builtin "str.join") ws) [.str sep, .lst (ls.map V.str)] K := fun own T s vs hO hr => by
  obtain ⟨_, _, rfl, r1, hr⟩ := hr.cons_inv
  obtain ⟨_, _, rfl, r2, hr⟩ := hr.cons_inv
  obtain rfl := hr.nil_inv; obtain ⟨t, rfl, ht⟩ := r1.str_inv
  obtain ⟨a, o, ws, n, rfl, h1, h2, h3, h4, r⟩ := r2.lst_inv
  obtain ⟨l, rfl, he, hT⟩ := strs_of ls ws r
  exact call_meets PySem.F.slot_str_join (typeIs_str _ _ _) PySem.F.entry_str_join (PySem.F.args_str_join_2 _ _) (meets_str_join_list (mkS sep) t a l (join_fits he hl)) ⟨⟨o, view_of h1, h2, n, h4⟩, join_post hO (.refl hO.tok) he hT hl h fun v s' x => x⟩

end
end Sx
end
section
open PySem PySem.W PyProof.Rows PySem.Calls
set_option linter.unusedVariables false
set_option Elab.async false
set_option maxRecDepth 100000
namespace Sx
open Builtin Builtin.Str

theorem add_text (wr : Writer) (y : PySem.Str) (o : Option Value) : (wr.add y o).text = wr.text ++ y ∧ (wr.add y o).total = wr.total + y.length := by
  unfold Writer.add
  by_cases h : (y.length == 0) = true
  · rw [if_pos h]
    have hz : y.cps = #[] := Array.size_eq_zero_iff.mp (by simpa [PySem.Str.length] using h)
    have hl : y.length = 0 := by simpa using h
    refine ⟨?_, by omega⟩
    apply PySem.Str.ext'
    rw [PySem.Str.cps_append, hz]; simp
  · rw [if_neg h]
    refine ⟨?_, rfl⟩
    apply PySem.Str.ext'
    rw [PySem.Str.cps_append]
    unfold Writer.text
    simp [List.foldl_append]

theorem hideF {M : Model} {A : Around} {E : Value → Shared → Prop} {s : Shared} {β : Type} {l : List Nat} {p : β} {f : Nat → β → Sem (ForInStep β)} {Q : β → Shared → Prop}
    (h : ∀ f', f' = f → wpAny M A (forIn l p f') Q E s) : wpAny M A (forIn l p f) Q E s := h f rfl
theorem turnY {M : Model} {A : Around} {E : Value → Shared → Prop} {s : Shared} {β : Type} {x : Nat} {l : List Nat} {p p' : β} {f : Nat → β → Sem (ForInStep β)} {Q : β → Shared → Prop}
    (e : f x p = pure (.yield p')) (h : wpAny M A (forIn l p' f) Q E s) : wpAny M A (forIn (x :: l) p f) Q E s := KPc.turn (by rw [e]; exact wpAny_pure h)
theorem turnD {M : Model} {A : Around} {E : Value → Shared → Prop} {s : Shared} {β : Type} {x : Nat} {l : List Nat} {p p' : β} {f : Nat → β → Sem (ForInStep β)} {Q : β → Shared → Prop}
    (e : f x p = pure (.done p')) (h : Q p' s) : wpAny M A (forIn (x :: l) p f) Q E s := KPc.turn (by rw [e]; exact wpAny_pure h)

theorem mod_walk (c : Nat) (hc : c = 34 ∨ c = 39) (y : PySem.Str) (t u : Tok) (hy : y.length ≤ 16000000) :
    Meets («str.__mod__» ⟨[.str (mkS [c, 37, 115, c]) t, .str y u], []⟩) (fun _ R s => R (.ok (.ret (.str (mkS (c :: (y.cps.toList ++ [c]))) s.toks))) { s with toks := s.toks + 1 }) := by
  refine Meets.of_wp fun prog w A R s hS => ?_
  have fin : ∀ (Q : Fin → Shared → Prop) (E : Value → Shared → Prop), Q (.done (.ret (.str (mkS (c :: (y.cps.toList ++ [c]))) s.toks))) { s with toks := s.toks + 1 } → wpAny (model prog w) A.in1 («str.__mod__» ⟨[.str (mkS [c, 37, 115, c]) t, .str y u], []⟩) Q E s := by
    intro Q E h
    have eb : (⟨y.cps.toList.toArray⟩ : PySem.Str) = y := congrArg PySem.Str.mk (Array.toArray_toList ..)
    -- what is written at the end
    obtain ⟨w1, hw1⟩ : ∃ w1 : Writer, w1 = { pieces := [mkS [c]], total := 1, whole := none } := ⟨_, rfl⟩
    obtain ⟨e1, e2⟩ := add_text w1 y (none : Option Value)
    obtain ⟨w2, hw2⟩ : ∃ w2 : Writer, w2 = w1.add y none := ⟨_, rfl⟩
    rw [← hw2] at e1 e2
    obtain ⟨e3, e4⟩ := add_text w2 (mkS [c]) (none : Option Value)
    have ht1 : w1.text = mkS [c] := by rw [hw1]; apply PySem.Str.ext'; simp [Writer.text]
    have tot1 : w1.total = 1 := by rw [hw1]
    have tot2 : w2.total ≤ 16777216 := by rw [e2, tot1]; omega
    have hT : (w2.add (mkS [c]) none).text = mkS (c :: (y.cps.toList ++ [c])) := by
      rw [e3, e1, ht1]
      have : y = mkS y.cps.toList := (mkS_toList y).symm
      rw [this, app_S, app_S]; rfl
    have hN : (w2.add (mkS [c]) none).total ≤ 16777216 := by rw [e4, e2, tot1, mkS_length]; show 1 + y.length + 1 ≤ _; omega
    have hwh : ∀ o, (w2.add (mkS [c]) o).whole = none := by
      intro o
      have hne : w2.pieces.isEmpty = false := by
        rw [hw2, hw1]; unfold Writer.add; split <;> rfl
      unfold Writer.add
      rw [if_neg (by rw [mkS_length]; simp), hne]; rfl
    have hlen : (mkS (c :: (y.cps.toList ++ [c]))).length ≤ sizeLine := by
      rw [mkS_length, sizeLine_eq]
      have : y.cps.toList.length = y.length := by simp [PySem.Str.length]
      simp [this]; omega
    have hfin : ∀ o, wpAny (model prog w) A.in1 ((w2.add (mkS [c]) o).finish "str.__mod__") Q E s := by
      intro o
      have et : (w2.add (mkS [c]) o).text = mkS (c :: (y.cps.toList ++ [c])) ∧ (w2.add (mkS [c]) o).total ≤ 16777216 := by
        obtain ⟨a1, a2⟩ := add_text w2 (mkS [c]) o
        exact ⟨by rw [a1, ← e3]; exact hT, by rw [a2, ← e4]; exact hN⟩
      unfold Writer.finish
      rw [hwh o]
      refine wpAny_ite (KPc.ite_no (KPc.short et.2) ?_)
      rw [et.1]
      exact wpAny_bind (wpAny_mkStr (wpAny_pure h) hlen)
    have ht2 : ¬ (tooLong w2.total = true) := KPc.short tot2
    have ht3 : ¬ (tooLong (w2.add (mkS [c]) none).total = true) := KPc.short hN
    have tw : w1.add ⟨y.cps.toList.toArray⟩ none = w2 := by rw [eb, hw2]
    rw [KPc.entry_is_s]
    unfold Builtin.Str.percentFormat
    refine wpAny_bind (wpAny_isInstance (typeIs_str _ _ _) F.sub_str_tuple ?_)
    refine wpAny_bind (wpAny_of_eq (a := some _) rfl ?_)
    refine wpAny_bind (KPc.wp_fills_str ?_)
    intro bb
    kpc_if
    refine wpAny_bind (wpAny_pure ?_)
    refine wpAny_bind ?_
    rw [KPc.range_list]
    refine hideF fun f hf => ?_
    have t1 : f 0 ([Value.str y u], {}, [c, 37, 115, c]) = pure (.yield ([Value.str y u], w1, [37, 115, c])) := by
      rw [hw1]
      rcases hc with rfl | rfl
      · subst hf; kernel_rfl
      · subst hf; kernel_rfl
    have t2 : f 1 ([Value.str y u], w1, [37, 115, c]) = pure (.yield ([], w2, [c])) := by
      rw [← tw, hw1]
      rcases hc with rfl | rfl
      · subst hf; kernel_rfl
      · subst hf; kernel_rfl
    have t3 : f 2 ([], w2, [c]) = pure (.yield ([], w2.add (mkS [c]) none, [])) := by
      rcases hc with rfl | rfl
      · subst hf
        show (ite (tooLong w2.total = true) _ _) = _
        rw [if_neg ht2]
        kernel_rfl
      · subst hf
        show (ite (tooLong w2.total = true) _ _) = _
        rw [if_neg ht2]
        kernel_rfl
    have t4 : f 3 ([], w2.add (mkS [c]) none, []) = pure (.done ([], w2.add (mkS [c]) none, [])) := by
      subst hf
      show (ite (tooLong (w2.add (mkS [c]) none).total = true) _ _) = _
      rw [if_neg ht3]
      kernel_rfl
    clear hf
    refine turnY t1 (turnY t2 (turnY t3 (turnD t4 ?_)))
    kpc_if
    exact hfin _
  exact fin _ _ ⟨_, rfl, hS⟩
end Sx
end
section
open PySem PySem.W PyProof.Rows PySem.Calls
set_option linter.unusedVariables false
set_option Elab.async false
set_option maxRecDepth 100000
namespace Sx
open PySem.SeqAt

/-! ## equal things compare equal -/
mutual
inductive Alike : Nat → V → V → Prop
  | none (n : Nat) : Alike n .none .none
  | bool (n : Nat) (b : Bool) : Alike n (.bool b) (.bool b)
  | int (n : Nat) (i : Int) : Alike n (.int i) (.int i)
  | ss (n : Nat) (l : S) : Alike n (.str l) (.str l)
  | st (n : Nat) (l : S) : Alike n (.str l) (.txt l)
  | ts (n : Nat) (l : S) : Alike n (.txt l) (.str l)
  | tt (n : Nat) (l : S) : Alike n (.txt l) (.txt l)
  | tup {n : Nat} {vs us : List V} : AlikeL n vs us → Alike (n + 1) (.tup vs) (.tup us)
  | lst {n : Nat} {vs us : List V} : AlikeL n vs us → Alike (n + 1) (.lst vs) (.lst us)
inductive AlikeL : Nat → List V → List V → Prop
  | nil (n : Nat) : AlikeL n [] []
  | cons {n : Nat} {v u : V} {vs us : List V} : Alike n v u → AlikeL n vs us → AlikeL n (v :: vs) (u :: us)
end

theorem eqAt_str {A : Around} {s : Shared} {x : PySem.Str} {t u : Tok} : EqAt A s (.str x t) (.str x u) true := fun prog w E Q hq => wpAny_eqBool_str (by simpa using hq)
theorem eqAt_int {A : Around} {s : Shared} {x : Int} {t u : Tok} : EqAt A s (.int x t) (.int x u) true := fun prog w E Q hq => wpAny_eqBool_int (by simpa using hq)

theorem Rep.txt_inv {W : Wd} {g : PH} {l : S} {v : Value} (h : Rep W g (.txt l) v) : ∃ t, v = .str (mkS l) t := by cases h; exact ⟨_, rfl⟩
theorem Rep.none_inv {W : Wd} {g : PH} {v : Value} (h : Rep W g .none v) : v = .none := by cases h; rfl
theorem eq_tups {A : Around} {s : Shared} {x y : Addr} {ox oy : Obj} {wx wy : List Value} {nx ny : Nat} (h1 : s.heap.get? x = some ox) (h2 : ox.cls = .type "tuple") (h3 : ox.data = .seq wx.toArray nx) (k1 : s.heap.get? y = some oy) (k2 : oy.cls = .type "tuple") (k3 : oy.data = .seq wy.toArray ny)
    (hu : A.units + 1 < cLine) (hl : wx.length = wy.length ∧ ∀ j (h1 : j < wx.length) (h2 : j < wy.length), EqAt A.in1 s wx[j] wy[j] true) : EqAt A s (.ref x) (.ref y) true := by
  by_cases hxy : x = y
  · subst hxy; exact .same _
  · refine .of_refs hxy ?_
    have hs := hl.1
    have := RcAt.tuples (A := A) (s := s) (items := wx.toArray) (items2 := wy.toArray) (e := fun _ => true) ⟨ox, h1, h2, nx, h3⟩ ⟨oy, k1, k2, ny, k3⟩ (by omega) (fun j h1 h2 => hl.2 j (by simpa using h1) (by simpa using h2))
    have e : ((List.range (min wx.toArray.size wy.toArray.size)).all (fun _ => true) && wx.toArray.size == wy.toArray.size) = true := by simp [hs]
    rw [e] at this; exact this
theorem eq_lsts {A : Around} {s : Shared} {x y : Addr} {ox oy : Obj} {wx wy : List Value} {nx ny : Nat} (h1 : s.heap.get? x = some ox) (h2 : ox.cls = .type "list") (h3 : ox.data = .seq wx.toArray nx) (k1 : s.heap.get? y = some oy) (k2 : oy.cls = .type "list") (k3 : oy.data = .seq wy.toArray ny)
    (hu : A.units + 1 < cLine) (hl : wx.length = wy.length ∧ ∀ j (h1 : j < wx.length) (h2 : j < wy.length), EqAt A.in1 s wx[j] wy[j] true) : EqAt A s (.ref x) (.ref y) true := by
  by_cases hxy : x = y
  · subst hxy; exact .same _
  · refine .of_refs hxy ?_
    have hs := hl.1
    have := RcAt.lists (A := A) (s := s) (items := wx.toArray) (items2 := wy.toArray) (e := fun _ => true) ⟨ox, h1, h2, nx, h3⟩ ⟨oy, k1, k2, ny, k3⟩ (by simp [hs]) (by omega) (fun j h1 h2 => hl.2 j (by simpa using h1) (by simpa using h2))
    have e : ((List.range wx.toArray.size).all (fun _ => true)) = true := by simp
    rw [e] at this; exact this
noncomputable def EqM (W : Wd) (g : PH) (s : Shared) (n : Nat) (a b : V) : Prop := ∀ (A : Around) (va vb : Value), A.units + n < cLine → Rep W g a va → Rep W g b vb → EqAt A s va vb true
noncomputable def EqML (W : Wd) (g : PH) (s : Shared) (n : Nat) (a b : List V) : Prop := ∀ (A : Around) (va vb : List Value), A.units + n < cLine → RepL W g a va → RepL W g b vb → va.length = vb.length ∧ ∀ j (h1 : j < va.length) (h2 : j < vb.length), EqAt A s va[j] vb[j] true
theorem eqM_tup {W : Wd} {g : PH} {s : Shared} (hg : ∀ a o, g.ob a = some o → s.heap.get? a = some o) {n : Nat} {a b : List V} (h : EqML W g s n a b) : EqM W g s (n + 1) (.tup a) (.tup b) := fun A va vb hu r q => by
  obtain ⟨x, ox, wx, nx, rfl, h1, h2, h3, r⟩ := r.tup_inv
  obtain ⟨y, oy, wy, ny, rfl, k1, k2, k3, q⟩ := q.tup_inv
  exact eq_tups (hg _ _ h1) h2 h3 (hg _ _ k1) k2 k3 (Nat.lt_of_le_of_lt (Nat.add_le_add_left (Nat.succ_le_succ (Nat.zero_le _)) _) hu) (h A.in1 _ _ (by show A.units + 1 + n < cLine; rwa [Nat.add_assoc, Nat.add_comm 1]) r q)
theorem eqM_lst {W : Wd} {g : PH} {s : Shared} (hg : ∀ a o, g.ob a = some o → s.heap.get? a = some o) {n : Nat} {a b : List V} (h : EqML W g s n a b) : EqM W g s (n + 1) (.lst a) (.lst b) := fun A va vb hu r q => by
  obtain ⟨x, ox, wx, nx, rfl, h1, h2, _, h3, r⟩ := r.lst_inv
  obtain ⟨y, oy, wy, ny, rfl, k1, k2, _, k3, q⟩ := q.lst_inv
  exact eq_lsts (hg _ _ h1) h2 h3 (hg _ _ k1) k2 k3 (Nat.lt_of_le_of_lt (Nat.add_le_add_left (Nat.succ_le_succ (Nat.zero_le _)) _) hu) (h A.in1 _ _ (by show A.units + 1 + n < cLine; rwa [Nat.add_assoc, Nat.add_comm 1]) r q)
theorem eqML_cons {W : Wd} {g : PH} {s : Shared} {n : Nat} {a b : V} {as bs : List V} (h1 : EqM W g s n a b) (h2 : EqML W g s n as bs) : EqML W g s n (a :: as) (b :: bs) := fun A va vb hu r q => by
  obtain ⟨_, _, rfl, r1, r2⟩ := r.cons_inv
  obtain ⟨_, _, rfl, q1, q2⟩ := q.cons_inv
  have i2 := h2 A _ _ hu r2 q2
  refine ⟨congrArg (· + 1) i2.1, fun j k1 k2 => ?_⟩
  cases j with
  | zero => exact h1 A _ _ hu r1 q1
  | succ j => exact i2.2 j (Nat.lt_of_succ_lt_succ k1) (Nat.lt_of_succ_lt_succ k2)
theorem eqML_of {W : Wd} {g : PH} {s : Shared} (hg : ∀ a o, g.ob a = some o → s.heap.get? a = some o) {n : Nat} {a b : List V} (h : AlikeL n a b) : EqML W g s n a b :=
  AlikeL.rec (motive_1 := fun n a b _ => EqM W g s n a b) (motive_2 := fun n a b _ => EqML W g s n a b)
    (fun _ _ _ _ _ r q => by obtain rfl := r.none_inv; obtain rfl := q.none_inv; exact .same _) (fun _ _ _ _ _ _ r q => by obtain rfl := r.bool_inv; obtain rfl := q.bool_inv; exact .same _) (fun _ _ _ _ _ _ r q => by obtain ⟨_, rfl⟩ := r.int_inv; obtain ⟨_, rfl⟩ := q.int_inv; exact eqAt_int)
    (fun _ _ _ _ _ _ r q => by obtain ⟨_, rfl, _⟩ := r.str_inv; obtain ⟨_, rfl, _⟩ := q.str_inv; exact eqAt_str) (fun _ _ _ _ _ _ r q => by obtain ⟨_, rfl, _⟩ := r.str_inv; obtain ⟨_, rfl⟩ := q.txt_inv; exact eqAt_str)
    (fun _ _ _ _ _ _ r q => by obtain ⟨_, rfl⟩ := r.txt_inv; obtain ⟨_, rfl, _⟩ := q.str_inv; exact eqAt_str) (fun _ _ _ _ _ _ r q => by obtain ⟨_, rfl⟩ := r.txt_inv; obtain ⟨_, rfl⟩ := q.txt_inv; exact eqAt_str)
    (fun _ h => eqM_tup hg h) (fun _ h => eqM_lst hg h) (fun _ _ _ _ _ r q => by obtain rfl := r.nil_inv; obtain rfl := q.nil_inv; exact ⟨rfl, fun j h1 _ => absurd h1 (Nat.not_lt_zero _)⟩) (fun _ _ h1 h2 => eqML_cons h1 h2) h
theorem eqAtL_alike {W : Wd} {g : PH} {s : Shared} (hg : ∀ a o, g.ob a = some o → s.heap.get? a = some o) {n : Nat} {a b : List V} {va vb : List Value} {A : Around} (h : AlikeL n a b) (hu : A.units + n < cLine) (r : RepL W g a va) (q : RepL W g b vb) : va.length = vb.length ∧ ∀ j (h1 : j < va.length) (h2 : j < vb.length), EqAt A s va[j] vb[j] true :=
  eqML_of hg h A _ _ hu r q
open AutoSeq1 (wpAny_loadPart') in
theorem list_addAt (l : Addr) (items : Array Value) (n : Nat) (b : Addr) (items2 : Array Value) (n2 : Nat) (dd dd2 : Option Addr) (sl sl2 : Array (Option Value)) (hc0 : items.size + items2.size ≤ sizeLine) :
    Meets (Builtin.«list.__add__» ⟨[.ref l, .ref b], []⟩) (fun _ R s => s.heap.get? l = some { cls := .type "list", dict := dd, data := .seq items n, slots := sl } ∧ s.heap.get? b = some { cls := .type "list", dict := dd2, data := .seq items2 n2, slots := sl2 } ∧ R (.ok (.ret (Value.ref s.heap.objs.size))) { s with heap := s.heap.push { cls := Value.type "list", data := Data.seq (items ++ items2) }, toks := s.toks }) :=
  .of_wp fun prog w A R s h => by obtain ⟨hp, g, d, tk, os⟩ := s; obtain ⟨hl, hb, h⟩ := h; have f1 := AutoSeq1.idx_int; have f2 := AutoSeq1.sub_tuple_tuple; have f3 := AutoSeq1.sub_list_list; have f4 := AutoSeq1.sub_tuple_list; have f5 := AutoSeq1.sub_list_tuple; wp_walk using wpAny_loadPart' hl, wpAny_loadPart' hb; exact ⟨_, rfl, h⟩

section
variable {C : Cx}
theorem cLine_ge : 9900 ≤ cLine := by decide
theorem op_eq_alike {n m : Nat} (ok : C.Ok m) (hn : n ≤ 50) {vs us : List V} (h : AlikeL n vs us) {K : V → Prop} (hK : K (.bool true)) : Op2 C (Rep C.W) (compareOp .Eq) (.lst vs) (.lst us) K := fun own T s va vb hO ra rb => by
  obtain ⟨x, ox, wx, nx, rfl, h1, h2, h3, h4, r⟩ := ra.lst_inv
  obtain ⟨y, oy, wy, ny, rfl, k1, k2, k3, k4, q⟩ := rb.lst_inv
  have hu := ok.hu
  have hc := cLine_ge
  have hl := eqAtL_alike (A := C.A.in1) (s := s) (W := C.W) (g := view own T s) (fun a o e => view_of e) h (by show C.A.units + 1 + n < cLine; omega) r q
  refine eq_listAt (items := wx.toArray) (items2 := wy.toArray) (e := fun _ => true) ⟨ox, view_of h1, h2, nx, h4⟩ ⟨oy, view_of k1, k2, ny, k4⟩ (by simp [hl.1]) (by omega) (fun j h1 h2 => hl.2 j (by simpa using h1) (by simpa using h2)) ?_
  have e : ((List.range wx.toArray.size).all (fun _ => true)) = true := by simp
  rw [e]; exact .same hO.tok hK (.bool _)
/-! ## lists -/
theorem fits63 {n : Nat} (h : n ≤ sizeLine) : (n : Int) < 2 ^ 63 := by
  have : sizeLine = 16777216 := sizeLine_eq
  omega
theorem op_item_list {vs : List V} {i : Int} {v : V} {K : V → Prop} (h0 : -(vs.length : Int) ≤ i) (hi : i < vs.length) (hl : vs.length ≤ sizeLine) (hv : vs[(if i < 0 then i + vs.length else i).toNat]? = some v) (h : K v) : Op2 C (Rep C.W) getItem (.lst vs) (.int i) K := fun own T s va vb hO ra rb => by
  obtain ⟨_, rfl⟩ := rb.int_inv
  obtain ⟨x, ox, wx, nx, rfl, h1, h2, h3, h4, r⟩ := ra.lst_inv
  have hsz := fits63 hl
  have hL : s.heap.IsList x wx.toArray := ⟨ox, view_of h1, h2, nx, h4⟩
  obtain ⟨w, hw, hr⟩ := r.get hv
  by_cases hn : i < 0
  · rw [if_pos hn] at hw
    exact wpAny_getItem_list_neg hL hn (by rw [List.size_toArray, r.length]; exact h0) (by omega) (by rw [List.size_toArray, r.length]; simpa using hw) (.same hO.tok h hr)
  · rw [if_neg hn] at hw
    exact wpAny_getItem_list hL (by omega) (by omega) (by simpa using hw) (.same hO.tok h hr)

theorem opF_add_list {vs us : List V} {K : Slot → Prop} (hl : vs.length + us.length ≤ sizeLine) (h : ∀ a, K (.list a (vs ++ us))) : Op2F C (binaryOp .Add) (.lst vs) (.lst us) K := fun own T s va vb hO ra rb => by
  obtain ⟨x, ox, wx, nx, rfl, h1, h2, h3, h4, r⟩ := ra.lst_inv
  obtain ⟨y, oy, wy, ny, rfl, k1, k2, k3, k4, q⟩ := rb.lst_inv
  obtain ⟨cls, dd, data, sl⟩ := ox
  obtain ⟨cls2, dd2, data2, sl2⟩ := oy
  simp only at h2 h3 h4 k2 k3 k4
  subst h2 h4 k2 k4
  have hsz : wx.toArray.size + wy.toArray.size ≤ sizeLine := by rw [List.size_toArray, List.size_toArray, r.length, q.length]; exact hl
  refine concat_meets ⟨_, view_of h1, rfl⟩ ⟨_, view_of k1, rfl⟩ noFill_list_add seq_list_add PySem.F.slot_list_add PySem.F.entry_list_add (PySem.F.args_list_add_2 _ _) (list_addAt x wx.toArray nx y wy.toArray ny dd dd2 sl sl2 hsz) ⟨view_of h1, view_of k1, ?_⟩
  have k0 : Kp T s T { s with heap := s.heap.push { cls := .type "list", data := .seq (wx.toArray ++ wy.toArray) }, toks := s.toks } := .push hO.tok (Nat.le_refl _)
  have hn := fresh_size s.heap
  refine ⟨.list s.heap.objs.size (vs ++ us), T, _, h _, rfl, k0, hn, by rw [Heap.get?_push_size _ rfl]; rfl, rfl, wx ++ wy, ⟨0, by rw [Heap.get?_push_size _ rfl]; simp⟩, ?_⟩
  refine (r.append q).mono ⟨fun b o e => view_mk (fun hm => ?_) (k0.keep b o (view_of e)), fun _ _ e => e⟩
  rcases List.mem_cons.mp hm with rfl | hm
  · rw [view_of e] at hn; cases hn
  · exact view_not e hm

theorem opL_len_list {vs : List V} {K : V → Prop} (hl : vs.length ≤ sizeLine) (h : K (.int vs.length)) : OpL C (Rep C.W) (fun ws => call (.builtin "len") ws) [.lst vs] K := fun own T s ws hO hr => by
  obtain ⟨_, _, rfl, r1, hr⟩ := hr.cons_inv
  obtain rfl := hr.nil_inv
  obtain ⟨x, ox, wx, nx, rfl, h1, h2, h3, h4, r⟩ := r1.lst_inv
  refine call_len_list (items := wx.toArray) ⟨ox, view_of h1, h2, nx, h4⟩ (by rw [List.size_toArray, r.length]; exact fits63 hl) ?_
  rw [List.size_toArray, r.length]
  exact .int hO.tok h (by omega)

/-! ## dicts -/
theorem truthy_dict {es : List (Key × V)} {K : Bool → Prop} (hl : es.length ≤ sizeLine) (h : K (!es.isEmpty)) : Op1 C RB truthy (.dct es) K := fun own T s va hO ra => by
  obtain ⟨x, ox, ds, kvs, nx, rfl, h1, h0, h2, h3, r, hn⟩ := ra.dct_inv
  have hd := r.dictOf (h := s.heap) (view_of h1) h2 h3 hn
  refine wpAny_truthy_dict h0 hd (by rw [r.length.2]; exact fits63 hl) ⟨_, T, h, .toks hO.tok (by omega), ?_⟩
  show (!es.isEmpty) = !kvs.isEmpty
  have := r.length.2
  cases es <;> cases kvs <;> simp_all
theorem op_notIn_dict {es : List (Key × V)} {k : Key} {K : V → Prop} (h : K (.bool (!(dget es k).isSome))) : Op2 C (Rep C.W) (compareOp .NotIn) k.v (.dct es) K := fun own T s va vb hO ra rb => by
  obtain ⟨x, ox, ds, kvs, nx, rfl, h1, h0, h2, h3, r, hn⟩ := rb.dct_inv
  have hd := r.dictOf (h := s.heap) (view_of h1) h2 h3 hn
  have hv := r.valueAt k
  refine wpAny_notIn_of (Key.is_of_rep ra) h0 hd.mapOf ?_
  have e : (PySem.valueAt kvs k).isSome = (dget es k).isSome := by
    cases hg : dget es k with
    | none => rw [hg] at hv; simp only at hv; rw [hv]; rfl
    | some v => rw [hg] at hv; obtain ⟨w, e, _⟩ := hv; rw [e]; rfl
  rw [e]
  exact .bool (tk := s.toks + 1) hO.tok h (Nat.le_succ _)
theorem op_item_dict {es : List (Key × V)} {k : Key} {v : V} {K : V → Prop} (hv : dget es k = some v) (h : K v) : Op2 C (Rep C.W) getItem (.dct es) k.v K := fun own T s va vb hO ra rb => by
  obtain ⟨x, ox, ds, kvs, nx, rfl, h1, h0, h2, h3, r, hn⟩ := ra.dct_inv
  have hd := r.dictOf (h := s.heap) (view_of h1) h2 h3 hn
  have hv' := r.valueAt k
  rw [hv] at hv'
  obtain ⟨w, e, hr⟩ := hv'
  exact wpAny_getItem_of (Key.is_of_rep rb) hd.mapOf e ⟨_, T, h, .toks hO.tok (Nat.le_succ _), hr⟩
theorem opL_items {es : List (Key × V)} {K : V → Prop} (h : K (.items es)) : OpL C (Rep C.W) (fun ws => call (.builtin "dict.items") ws) [.dct es] K := fun own T s ws hO hr => by
  obtain ⟨_, _, rfl, r1, hr⟩ := hr.cons_inv
  obtain rfl := hr.nil_inv
  have r1' := r1
  obtain ⟨x, ox, ds, kvs, nx, rfl, h1, h0, h2, h3, r, hn⟩ := r1.dct_inv
  have hd := r.dictOf (h := s.heap) (view_of h1) h2 h3 hn
  refine call_meetsIn PySem.F.slot_dict_items hd.typeIs PySem.F.entry_dict_items (PySem.F.args_dict_items_1 _) (meets_dict_items C.W.knd x h0) ⟨⟨kvs, hd⟩, ?_⟩
  have k0 : Kp T s T { s with heap := s.heap.push { cls := .type "dict_items", data := .fields #[.ref x] } } := .push hO.tok (Nat.le_refl _)
  exact ⟨_, T, h, k0, .itm (view_mk (hO.fresh (fresh_size _)) (Heap.get?_push_size _ rfl)) rfl rfl (r1'.mono k0.view)⟩
theorem opL_len_dict {es : List (Key × V)} {K : V → Prop} (hl : es.length ≤ sizeLine) (h : K (.int es.length)) : OpL C (Rep C.W) (fun ws => call (.builtin "len") ws) [.dct es] K := fun own T s ws hO hr => by
  obtain ⟨_, _, rfl, r1, hr⟩ := hr.cons_inv
  obtain rfl := hr.nil_inv
  obtain ⟨x, ox, ds, kvs, nx, rfl, h1, h0, h2, h3, r, hn⟩ := r1.dct_inv
  have hd := r.dictOf (h := s.heap) (view_of h1) h2 h3 hn
  refine call_len_dict h0 hd (by rw [r.length.2]; exact fits63 hl) ?_
  rw [r.length.2]
  exact .int hO.tok h (by omega)

/-! ## '"%s"' % t, t.count(u) -/
theorem op_mod_str {c : Nat} {l : S} {K : V → Prop} (hc : c = 34 ∨ c = 39) (hl : l.length ≤ 16000000) (h : K (.str (c :: (l ++ [c])))) : Op2 C (Rep C.W) (binaryOp .Mod) (.str [c, 37, 115, c]) (.str l) K := fun own T s va vb hO ra rb => by
  obtain ⟨t, rfl, ht⟩ := ra.str_inv; obtain ⟨u, rfl, hu⟩ := rb.str_inv
  refine binaryOp_meets (T := "str") (op := .Mod) (typeIs_str s _ t) (typeIs_str s _ u) PySem.F.fills_str_mod PySem.F.slot_str_mod PySem.F.entry_str_mod (PySem.F.args_str_mod_2 _ _) (mod_walk c hc (mkS l) t u (by rw [mkS_length]; exact hl)) ⟨(fun e => nomatch e), ?_⟩
  exact .strNew (l := c :: (l ++ [c])) hO.tok h
end
end Sx
end
section
open PySem PySem.W PyProof.Rows PySem.Calls
set_option linter.unusedVariables false
set_option Elab.async false
set_option maxRecDepth 100000
namespace Sx

/-- a text's mark forgotten -/
noncomputable def Key.tv : Key → V
  | .s l => .txt l
  | .i n => .int n

section
variable {C : Cx}
theorem opF_listItems {n : Nat} (ok : C.Ok n) {es : List (Key × V)} {K : Slot → Prop} (hl : es.length ≤ sizeLine) (h : ∀ a, K (.list a (es.map fun p => .tup [p.1.tv, p.2]))) : OpLF C (fun ws => call (.type "list") ws) [.items es] K := fun own T s vs hO hr => by
  obtain ⟨_, _, rfl, r1, hr⟩ := hr.cons_inv
  obtain rfl := hr.nil_inv
  obtain ⟨vw, a, ov, rfl, hv1, hv2, hv3, hrd⟩ := r1.itm_inv
  obtain ⟨_, o, ds, kvs, nn, he, h1, h0, h2, h3, r, hn⟩ := hrd.dct_inv
  cases he
  have hm := r.dictAt (view_of h1) h2 h3 hn
  have hlen : kvs.length = es.length := r.length.2
  refine wpAny_with_toks (n := s.toks) (Nat.le_refl _) (kdx_call (knd := C.W.knd) ok.hh ⟨ov, view_of hv1, hv2, hv3⟩ hm (by rw [hlen]; exact hl) fun h' tk acc c as hk hS hal hG hacc htk => ?_)
  have k : Kp T s T { s with heap := h', toks := tk } := .at hO.tok hk htk
  have hnew := fresh_size s.heap
  refine ⟨.list s.heap.objs.size (es.map fun p => .tup [p.1.tv, p.2]), T, s.heap.objs.size, h _, rfl, k, hnew, by show (h'.get? _).isSome = true; rw [hS]; rfl, rfl, acc.toList, ⟨c, by rw [Array.toArray_toList]; exact hS⟩, ?_⟩
  rw [hacc]
  have le : Le (view own T s) (view (s.heap.objs.size :: own) T { s with heap := h', toks := tk }) := ⟨fun b o e => view_mk (fun hm => by
    rcases List.mem_cons.mp hm with rfl | hm
    · rw [view_of e] at hnew; cases hnew
    · exact view_not e hm) (hk b o (view_of e)), fun _ _ e => e⟩
  -- one by one
  have go : ∀ (j : Nat) (es' : List (Key × V)) (ds' : List DictEntry) (kvs' : List (Key × Value)) (as' : List Addr), RepD C.W (view own T s) es' ds' kvs' → as'.length = kvs'.length → (∀ i a, as'[i]? = some a → as[j + i]? = some a) → (∀ i, kvs'[i]? = kvs[j + i]?) →
      RepL C.W (view (s.heap.objs.size :: own) T { s with heap := h', toks := tk }) (es'.map fun p => .tup [p.1.tv, p.2]) (as'.map Value.ref) := by
    intro j es' ds' kvs' as' hr' hl' ha hkv
    induction as' generalizing j es' ds' kvs' with
    | nil =>
      cases hr' with
      | nil => exact .nil
      | cons => simp at hl'
    | cons b as' ih =>
      cases hr' with
      | nil => simp at hl'
      | @cons k v d es' ds' kvs' q1 q2 q3 q4 =>
        refine .cons ?_ (ih (j + 1) es' ds' kvs' q4 (by simpa using hl') (fun i a e => by have := ha (i + 1) a (by simpa using e); rw [← this]; congr 1; omega) (fun i => by have := hkv (i + 1); rw [List.getElem?_cons_succ] at this; rw [this]; congr 1; omega))
        obtain ⟨key, k', x, e1, e2, e3⟩ := hG.pairs j b (by have := ha 0 b rfl; simpa using this)
        have e4 := hkv 0
        rw [List.getElem?_cons_zero, Nat.add_zero, e1] at e4
        injection e4 with e4
        injection e4 with e5 e6
        subst e5
        subst e6
        have hb : b ∉ s.heap.objs.size :: own := fun hm => by
          have hgt := hG.above b (List.mem_of_getElem? (by have := ha 0 b rfl; simpa using this))
          rcases List.mem_cons.mp hm with rfl | hm
          · exact Nat.lt_irrefl _ hgt
          · obtain ⟨o, ho⟩ := Option.isSome_iff_exists.mp (hO.live b hm)
            exact Nat.lt_irrefl _ (Nat.lt_trans hgt (Heap.lt_size ho))
        refine .tup (o := { cls := .type "tuple", data := .seq #[key, d.val] }) (ws := [key, d.val]) (n := 0) (view_mk hb e3) rfl rfl (.cons ?_ (.cons (q3.mono le) .nil))
        cases k with
        | s l => obtain ⟨t, rfl⟩ := Key.is_s e2; exact .txt _ _
        | i n => obtain ⟨t, rfl⟩ := Key.is_i e2; exact .int _ _
  exact go 0 es ds kvs as r (by rw [hal]) (fun i a e => by rw [Nat.zero_add]; exact e) (fun i => by rw [Nat.zero_add])
end
end Sx
end
section
open PySem PySem.W PyProof.Rows PySem.Calls
set_option linter.unusedVariables false
set_option Elab.async false
set_option maxRecDepth 100000
namespace Sx

/-! ## the functions as they stand in the base -/
noncomputable def fdAt (F : Frag) (a : Addr) : FuncData := match F.lookup a with
  | some ⟨_, _, .func fd, _⟩ => fd
  | _ => default
noncomputable def bdAt (F : Frag) (a : Addr) : List Stmt := match (fdAt F a).body with
  | .stmts b => b
  | _ => []
noncomputable def isFn (F : Frag) (a : Addr) : Bool := match F.lookup a with
  | some ⟨_, _, .func _, _⟩ => true
  | _ => false
noncomputable def isStmts (F : Frag) (a : Addr) : Bool := match (fdAt F a).body with
  | .stmts _ => true
  | _ => false
noncomputable def codeOk (F : Frag) (a : Addr) : Bool := match (fdAt F a).code with
  | .ref c => (match F.lookup c with
      | some ⟨_, _, .fields vs, _⟩ => (match (vs[1]? : Option Value) with
        | some (Value.str q _) => q == (fdAt F a).qualname
        | _ => false)
      | _ => false)
  | _ => false

theorem fnAt_of {W : Wd} {F : Frag} (hF : F.In W.h₀) {a : Addr} (h1 : isFn F a = true) (h2 : isStmts F a = true) (h3 : codeOk F a = true) (hgl : (fdAt F a).globals = mainGlobals) (hcl : (fdAt F a).closure = []) (hbn : (fdAt F a).builtins = builtinsNs)
    (hco : (fdAt F a).scope.isCoroutine = false) (hgen : (fdAt F a).scope.isGenerator = false) (hk : (fdAt F a).scope.kind = .function) : FnAt W a (fdAt F a) (bdAt F a) where
  at_ := by
    unfold isFn at h1
    split at h1
    · rename_i c d fd sl e
      refine ⟨_, hF _ _ e, ?_⟩
      unfold fdAt; rw [e]
    · cases h1
  hbody := by
    unfold isStmts at h2
    unfold bdAt
    split at h2
    · rename_i b e; rw [e]
    · cases h2
  hgl := hgl
  hcl := hcl
  hbn := hbn
  hcd := by
    unfold codeOk at h3
    split at h3
    · rename_i c e
      split at h3
      · rename_i cl d vs sl e2
        split at h3
        · rename_i q t e3
          have : q = (fdAt F a).qualname := by simpa using h3
          subst this
          exact ⟨c, _, vs, t, e, hF _ _ e2, rfl, e3⟩
        · cases h3
      · cases h3
    · cases h3
  hco := hco
  hgen := hgen
  hk := hk

theorem newEnv_pos {M : Model} {A : Around} {E : Value → Shared → Prop} {s : Shared} {scope : Scope} {globals : Addr} {n : Str} {v : Value} {binds : List (Str × Value)} {qual : Str} {func : Option Addr} {code : Value} {builtins : Addr} {Q : Env → Shared → Prop}
    (hk : scope.kind = .function) (hn : scope.names.lookup n = some .local)
    (hkind : ∀ x ∈ binds, scope.names.lookup x.1 = some .local ∨ (scope.names.lookup x.1 = some .cell ∧ ((cellsFrom (s.heap.objs.size + 1) scope.names []).lookup x.1).isSome = true))
    (hQ : ∀ env, env = newEnv scope s.heap.objs.size globals (cellsFrom (s.heap.objs.size + 1) scope.names []) qual func code none builtins →
      ∀ s', InCallC s env.locals (bindL env.kindOf ((n, v) :: binds) fun _ => none) env.cells (bindC env.kindOf ((n, v) :: binds) fun _ => none) s' → 0 < s'.toks → Q env s') :
    wpAny M A (newFunctionEnv scope globals [] ((n, v) :: binds) qual func code none builtins) Q E s := by
  simp only [newFunctionEnv, Option.isSome_none, Bool.false_eq_true, if_false]
  refine wpAny_bind (wpAny_alloc ?_)
  refine wpAny_bind (wpAny_layCells _ (fun name kind cells => by cases hkc : kind == NameKind.cell <;> simp [hkc]) _ _ _ _ ?_)
  have ok := cellsFrom_ok scope.names (s.heap.push { cls := .type "frame", data := .dict #[] }) (s.heap.objs.size + 1) [] ⟨fun _ _ hm => (nomatch hm), List.Pairwise.nil⟩ (by rw [Heap.size_push]; exact Nat.le_refl _)
  rw [Heap.size_push] at ok
  rw [show ({ s with heap := s.heap.push { cls := .type "frame", data := .dict #[] } } : Shared).heap.objs.size = s.heap.objs.size + 1 from Heap.size_push ..]
  obtain ⟨env, henv⟩ : ∃ env, env = newEnv scope s.heap.objs.size globals (cellsFrom (s.heap.objs.size + 1) scope.names []) qual func code none builtins := ⟨_, rfl⟩
  have x0 : InCallC s env.locals (fun _ => none) env.cells (fun _ => none) { s with heap := (pushCells (s.heap.push { cls := .type "frame", data := .dict #[] }) scope.names) } := by
    subst henv
    exact ⟨⟨⟨_, _, rfl⟩, (Heap.Ns.new s.heap (.type "frame")).keeps (pushCells_keeps _ _), fun b o e => pushCells_keeps _ _ b o (Heap.get?_push_of_some _ e), Nat.le_refl _⟩,
      fun n c hc => (ok.empty n c (mem_of_lookup hc)).1, ok.apart, fun n c hm => (ok.empty n c hm).2⟩
  have hke : env.scope.kind = .function := by rw [henv]; exact hk
  have hkn : env.kindOf n = some .local := by rw [henv]; exact hn
  have hkb : ∀ y ∈ binds, env.kindOf y.1 = some .local ∨ (env.kindOf y.1 = some .cell ∧ (env.cells.lookup y.1).isSome = true) := by rw [henv]; exact hkind
  have hp : (env.scope.kind == .class || (env.scope.kind == .module && env.locals != env.globals)) = false := by rw [hke]; rfl
  have hQ := hQ env henv
  have step : wpAny M A (storeName env n v) (fun _ s1 => s1.toks = s.toks + 1 ∧ InCallC s env.locals (fun y => if y = n then some v else none) env.cells (fun _ => none) s1) E { s with heap := (pushCells (s.heap.push { cls := .type "frame", data := .dict #[] }) scope.names) } := by
    refine wpAny_storeName_local hkn x0.toInCall.ns (fun h' hn' hs' => ⟨rfl, ⟨⟨_, _, rfl⟩, hn', fun b o e => ?_, x0.toInCall.fresh⟩, fun k c hc => ?_, x0.apart, x0.above⟩) hp
    · exact hs'.extBut b o (Nat.ne_of_lt (Nat.lt_of_lt_of_le (Heap.lt_size e) x0.toInCall.fresh)) (x0.toInCall.keep b o e)
    · exact (x0.cell k c hc).sameBut hs' (Nat.ne_of_gt (x0.above k c (mem_of_lookup hc)))
  show wpAny M A (forIn ((n, v) :: binds) PUnit.unit (fun x (_ : PUnit) => do storeName (newEnv scope s.heap.objs.size globals (cellsFrom (s.heap.objs.size + 1) scope.names []) qual func code none builtins) x.1 x.2; pure (ForInStep.yield PUnit.unit)) >>= fun _ => pure (newEnv scope s.heap.objs.size globals (cellsFrom (s.heap.objs.size + 1) scope.names []) qual func code none builtins)) Q E _
  rw [← henv]
  refine wpAny_bind ?_
  rw [List.forIn_cons]
  refine wpAny_bind (wpAny_bind (wpAny_mono step ?_ fun _ _ x => x))
  rintro _ s1 ⟨ht, x1⟩
  refine wpAny_pure (wpAny_with_toks (n := s.toks + 1) (Nat.le_of_eq ht.symm) (wpAny_bindParams (s₀ := s) (env := env) _ (fun _ _ _ => rfl) hke binds _ _ s1 _ x1 hkb fun s2 x2 ht2 => wpAny_pure (hQ s2 ?_ (Nat.lt_of_lt_of_le (Nat.succ_pos _) ht2))))
  unfold bindL bindC
  rw [if_pos hkn, if_pos hkn]; exact x2

/-- the very first call of all: no marks yet -/
theorem fn_call0 {W : Wd} {A : Around} {E : Value → Shared → Prop} {n : Nat} (hW : W.Ok) (hh : A.handled = none) (hu : A.units + 3 + 3 * n + 100 ≤ 9000) (hdp : A.depth + 1 + n + 10 ≤ 900) {a : Addr} {fd : FuncData} {body : List Stmt} (fn : FnAt W a fd body) {p : String} {v : V} {w : Value} {s : Shared}
    (hbase : W.h₀ = s.heap) (hb : BindsTo s fd ⟨[w], []⟩ [(Str.ofString p, w)]) (hr : Rep W ⟨s.heap.get?, fun _ => none⟩ v w) (hpl : fd.scope.names.lookup (Str.ofString p) = some .local) (hnf : (fd.scope.names.all fun x => x.2 != .free) = true) {Q : Value → Shared → Prop}
    (walk : ∀ A L q cd, (fnCx W A fd.scope L a q cd).Ok n → Exs (fnCx W A fd.scope L a q cd) [(p, .val v)] body (fun fl _ => fl.v = .bool true))
    (hQ : ∀ s', (∃ h' tk, s' = { s with heap := h', toks := tk }) → (∀ b o, s.heap.get? b = some o → s'.heap.get? b = some o) → Q (.bool true) s') : wpAny (model W.prog W.w) A (call (.ref a) [w]) Q E s := by
  obtain ⟨o, ho, hd⟩ := fn.at_
  rw [hbase] at ho
  have hlim : s.heap.NoLimit := hbase ▸ hW.nolimit
  refine wpAny_call (codeAny_call_function (by unfold recursionLimit; omega) ho hd fn.hco fn.hgen fn.hbody (hbase ▸ fn.hcd) (hb _ _ _ _ ?_))
  rw [fn.hgl, fn.hcl, fn.hbn]
  refine newEnv_pos fn.hk hpl (fun x hx => nomatch hx) fun env' he s' x htk => ?_
  subst he
  obtain ⟨h₁, tk, rfl, hk₁⟩ := x.done
  refine ⟨hlim.keeps hk₁, codeAny_func ?_⟩
  have okn : (fnCx W (A.deeper (fnEnv fd.scope s.heap.objs.size a (fd.qualname ++ ".<locals>.") fd.code)) fd.scope s.heap.objs.size a (fd.qualname ++ ".<locals>.") fd.code).Ok n :=
    fnCx_ok hW (by exact hh) (by show A.units + 3 + 3 * n + 100 ≤ 9000; omega) (by show A.depth + 1 + n + 10 ≤ 900; omega) fn.hk
  obtain ⟨cs, hcs⟩ : ∃ cs, cellsFrom (s.heap.objs.size + 1) fd.scope.names [] = cs := ⟨_, rfl⟩
  have hcs' : (fnEnv fd.scope s.heap.objs.size a (fd.qualname ++ ".<locals>.") fd.code).cells = cs := hcs
  have hcell : ∀ z c, cs.lookup z = some c → h₁.IsCell c (bindC (fnEnv fd.scope s.heap.objs.size a (fd.qualname ++ ".<locals>.") fd.code).kindOf [(Str.ofString p, w)] (fun _ => none) z) := fun z c e => x.cell z c (hcs ▸ e)
  have hab : ∀ z c, (z, c) ∈ cs → s.heap.objs.size < c := fun z c e => x.above z c (hcs ▸ e)
  have hap : cs.Pairwise fun x y => x.2 ≠ y.2 := by have := x.apart; exact hcs ▸ this
  have hns : h₁.Ns s.heap.objs.size (bindL (fnEnv fd.scope s.heap.objs.size a (fd.qualname ++ ".<locals>.") fd.code).kindOf [(Str.ofString p, w)] (fun _ => none)) := x.toInCall.ns
  have hmm : ∀ b ∈ s.heap.objs.size :: cs.filterMap (fun p => cs.lookup p.1), b = s.heap.objs.size ∨ ∃ z, cs.lookup z = some b := by
    intro b hb
    rcases List.mem_cons.mp hb with rfl | hb
    · exact .inl rfl
    · obtain ⟨p, hp, e⟩ := List.mem_filterMap.mp hb
      exact .inr ⟨p.1, e⟩
  have hmine : ∀ b ∈ s.heap.objs.size :: cs.filterMap (fun p => cs.lookup p.1), s.heap.get? b = none := by
    intro b hb
    rcases hmm b hb with rfl | ⟨z, hz⟩
    · exact fresh_size _
    · exact get_ge (Nat.le_of_lt (hab z b (mem_of_lookup hz)))
  have hcm : ∀ z c, cs.lookup z = some c → c ∈ s.heap.objs.size :: cs.filterMap (fun p => cs.lookup p.1) := fun z c e =>
    List.mem_cons_of_mem _ (List.mem_filterMap.mpr ⟨(z, c), mem_of_lookup e, e⟩)
  have le0 : Le ⟨s.heap.get?, fun _ => none⟩ (view ([] ++ (s.heap.objs.size :: cs.filterMap (fun p => cs.lookup p.1))) (fun _ => none) { s with heap := h₁, toks := tk }) := by
    refine ⟨fun b o e => view_mk (fun hm => ?_) (hk₁ b o e), fun _ _ e => by cases e⟩
    have := hmine b hm
    have e : s.heap.get? b = some o := e
    rw [e] at this; cases this
  have hkp : (fnEnv fd.scope s.heap.objs.size a (fd.qualname ++ ".<locals>.") fd.code).kindOf (Str.ofString p) = some .local := hpl
  have habs : Abs (fnCx W (A.deeper (fnEnv fd.scope s.heap.objs.size a (fd.qualname ++ ".<locals>.") fd.code)) fd.scope s.heap.objs.size a (fd.qualname ++ ".<locals>.") fd.code) []
      (s.heap.objs.size :: cs.filterMap (fun p => cs.lookup p.1)) (fun _ => none) [(p, .val v)] { s with heap := h₁, toks := tk } := by
    refine ⟨fun b o e => le0.ob b o (by rw [← hbase]; exact e), fun b hb => ?_, fun b hb hF => (by cases hF), ⟨htk, fun _ _ e => by cases e⟩,
      bindL (fnEnv fd.scope s.heap.objs.size a (fd.qualname ++ ".<locals>.") fd.code).kindOf [(Str.ofString p, w)] (fun _ => none), bindC (fnEnv fd.scope s.heap.objs.size a (fd.qualname ++ ".<locals>.") fd.code).kindOf [(Str.ofString p, w)] (fun _ => none), ?_⟩
    · rcases hmm b hb with rfl | ⟨z, hz⟩
      · obtain ⟨o, _, _, ho, _⟩ := hns
        show (h₁.get? s.heap.objs.size).isSome = true
        rw [ho]; rfl
      · obtain ⟨o, ho, _⟩ := hcell z b hz
        show (h₁.get? b).isSome = true
        rw [ho]; rfl
    · refine { ns := hns, cells := fun z c e => hcell z c (hcs' ▸ e), apart := fun z y c e1 e2 => ?_, lc := fun z c e => ?_, has := fun z hz => ?_, lm := List.mem_cons_self, cown := fun z c e => hcm z c (hcs' ▸ e), cmine := fun _ z c e => hcm z c (hcs' ▸ e), slots := ?_, own := ?_, dis := ?_ }
      · exact name_of_addr hap (mem_of_lookup (hcs' ▸ e1)) (mem_of_lookup (hcs' ▸ e2))
      · exact Nat.ne_of_gt (hab z c (mem_of_lookup (hcs' ▸ e)))
      · rcases hz with hz | hz
        · have := cellsFrom_has fd.scope.names (s.heap.objs.size + 1) [] hz
          exact Option.isSome_iff_exists.mp this
        · have hz : fd.scope.names.lookup z = some .free := hz
          have := List.all_eq_true.mp hnf _ (mem_of_lookup hz)
          simp at this
      · intro z sl hz
        simp only [find] at hz
        by_cases hzp : Str.ofString p = z
        · rw [if_pos hzp] at hz
          cases hz
          subst hzp
          refine ⟨w, .inl ?_, hr.mono le0⟩
          unfold valAt
          have hkp' : (fnCx W (A.deeper (fnEnv fd.scope s.heap.objs.size a (fd.qualname ++ ".<locals>.") fd.code)) fd.scope s.heap.objs.size a (fd.qualname ++ ".<locals>.") fd.code).env.kindOf (Str.ofString p) = some .local := hpl
          rw [hkp']
          show bindL _ [(Str.ofString p, w)] _ (Str.ofString p) = some w
          unfold bindL bindL
          rw [if_pos hkp]; simp
        · rw [if_neg hzp] at hz; cases hz
      · intro z sl b hz ho
        simp only [find] at hz
        split at hz
        · cases hz; cases ho
        · cases hz
      · intro z y sl sl' b hz _ ho
        simp only [find] at hz
        split at hz
        · cases hz; cases ho
        · cases hz
  refine wpAny_mono (walk _ _ _ _ okn [] _ _ _ habs) ?_ fun _ _ x => x.elim
  rintro f s2 ⟨fl, σ2, m2, T2, hK, p2, a2, r2⟩
  have hs2 : ∃ h' tk, s2 = { s with heap := h', toks := tk } := by
    obtain ⟨h', tk', rfl⟩ := p2.same
    exact ⟨h', tk', rfl⟩
  have hkeep : ∀ b o, s.heap.get? b = some o → s2.heap.get? b = some o := fun b o e => view_of (p2.le.ob b o (le0.ob b o e))
  cases r2 with
  | next => cases hK
  | brk => cases hK
  | cont => cases hK
  | ret r =>
    have hK : _ = V.bool true := hK
    subst hK
    cases r
    exact hQ s2 hs2 hkeep
theorem len1 {ws : List Value} (h : ws.length = 1) : ∃ a, ws = [a] := List.length_eq_one_iff.mp h
theorem len2 {ws : List Value} (h : ws.length = 2) : ∃ a b, ws = [a, b] := by
  cases ws with
  | nil => cases h
  | cons a t => obtain ⟨b, rfl⟩ := len1 (Nat.succ.inj h); exact ⟨a, b, rfl⟩
end Sx
end
section
open PySem PySem.W PyProof.Rows PySem.Calls
set_option linter.unusedVariables false
set_option Elab.async false
set_option maxRecDepth 100000
namespace Sx

theorem methOk_str {W : Wd} {l : S} {name : Str} {id : String} (slot : PySem.Slot "str" name id) (hty : typeOf (.builtin id) = pure (.type "method_descriptor")) : MethOk W (.str l) name "str" id :=
  ⟨PySem.F.plainAttrs_str, slot, hty, fun g s va r _ => by cases r; exact ⟨rfl, fun x e => nomatch e⟩⟩
theorem methOk_dct {W : Wd} {es : List (Key × V)} {name : Str} {id : String} (slot : PySem.Slot "dict" name id) (hty : typeOf (.builtin id) = pure (.type "method_descriptor")) : MethOk W (.dct es) name "dict" id :=
  ⟨PySem.F.plainAttrs_dict, slot, hty, fun g s va r k => by
    cases r with
    | @dct x ox _ ds kvs nx h1 h0 h2 h3 r hn => exact ⟨⟨ox, k _ _ h1, h2.1⟩, fun y e => by cases e; exact ⟨ox, k _ _ h1, h2.2.1⟩⟩⟩
theorem isTy_str {W : Wd} {l : S} : IsTy W (.str l) "str" := fun g s va r _ => by cases r; rfl
theorem isTy_lst {W : Wd} {vs : List V} : IsTy W (.lst vs) "list" := fun g s va r k => by
  cases r with
  | @lst x ox _ ws nx h1 h2 h3 h4 r => exact ⟨ox, k _ _ h1, h2⟩
theorem isTy_dct {W : Wd} {es : List (Key × V)} : IsTy W (.dct es) "dict" := fun g s va r k => by
  cases r with
  | @dct x ox _ ds kvs nx h1 h0 h2 h3 r hn => exact ⟨ox, k _ _ h1, h2.1⟩

/-- one text after the other, each key by its value -/
noncomputable def reps : List (S × S) → S → S
  | [], x => x
  | (y, z) :: r, x => reps r (repl y z x)
noncomputable def RepOk : List (S × S) → S → Prop
  | [], _ => True
  | (y, z) :: r, x => (y ≠ z ∨ (y = [] ∧ z = [])) ∧ x.length + (x.length + 1) * z.length ≤ sizeLine ∧ RepOk r (repl y z x)
noncomputable def tabV (es : List (S × S)) : List (Key × V) := es.map fun p => (Key.s p.1, V.str p.2)

end Sx
end
section
open PySem PySem.W PyProof.Rows PySem.Calls
set_option linter.unusedVariables false
set_option Elab.async false
set_option maxRecDepth 100000
namespace Sx

theorem loop_inv {C : Cx} {target : Expr} {body orelse : List Stmt} {Q : Fl → St → Prop} (I : List V → St → Prop)
    (step : ∀ x xs σ, I (x :: xs) σ → Asg C σ target x (fun σ1 => Exs C σ1 body (fun fl σ2 => match fl with | .next => I xs σ2 | .cont => I xs σ2 | .brk => Q .next σ2 | .ret v => Q (.ret v) σ2)))
    (done : ∀ σ, I [] σ → Exs C σ orelse Q) : ∀ (xs : List V) (σ : St), I xs σ → Loop C target body orelse Q xs σ
  | [], σ, h => done σ h
  | x :: xs, σ, h => by
    refine Asg.mono (step x xs σ h) fun σ1 h1 => Tr.mono h1 fun fl σ2 h2 => ?_
    cases fl with
    | next => exact loop_inv I step done xs σ2 h2
    | cont => exact loop_inv I step done xs σ2 h2
    | brk => exact h2
    | ret v => exact h2
theorem find_putS {σ : St} {y : String} {sl : Slot} (x : String) : find (put σ (Str.ofString y) y sl) (Str.ofString x) = if y = x then some sl else find σ (Str.ofString x) := by
  rw [find_put]; simp only [ofString_inj]

/-- a known function, by its contract -/
theorem OpL.mono {C : Cx} {α β : Type} {R : PH → β → α → Prop} {vs : List V} {K K' : β → Prop} {f : List Value → Sem α} (h : OpL C R f vs K) (hk : ∀ b, K b → K' b) : OpL C R f vs K' :=
  fun own T s ws hO hr => (h own T s ws hO hr).mono hk
theorem OpL.eq {C : Cx} {f : List Value → Sem Value} {vs : List V} {b : V} {K : V → Prop} (h : OpL C (Rep C.W) f vs (fun v => v = b)) (hk : K b) : OpL C (Rep C.W) f vs K := h.mono fun _ e => e ▸ hk
end Sx
end
section
open PySem PySem.W PyProof.Rows PySem.Calls
set_option linter.unusedVariables false
set_option Elab.async false
set_option maxRecDepth 100000
namespace Sx

theorem reps_append : ∀ (a b : List (S × S)) (x : S), reps (a ++ b) x = reps b (reps a x)
  | [], _, _ => rfl
  | (y, z) :: r, b, x => reps_append r b (repl y z x)
theorem replK_len (y z : S) (hy : y ≠ []) : ∀ (x : S) (k : Nat), (replK y z k x).length ≤ x.length + x.length * z.length
  | [], k => by simp [replK]
  | c :: r, k + 1 => by
    have ih := replK_len y z hy r k
    have e : (r.length + 1) * z.length = r.length * z.length + z.length := Nat.succ_mul _ _
    simp only [replK, List.length_cons, e]; omega
  | c :: r, 0 => by
    have e : (r.length + 1) * z.length = r.length * z.length + z.length := Nat.succ_mul _ _
    rw [replK_0]
    split
    · have ih := replK_len y z hy r (y.length - 1)
      simp only [List.length_append, List.length_cons, e]; omega
    · have ih := replK_len y z hy r 0
      simp only [List.length_cons, e]; omega
theorem repl_len (y z x : S) : (repl y z x).length ≤ x.length + (x.length + 1) * z.length := by
  have e : (x.length + 1) * z.length = x.length * z.length + z.length := Nat.succ_mul _ _
  unfold repl
  split
  · unfold replE
    have : (x.flatMap fun c => c :: z).length = x.length * (z.length + 1) := by
      induction x with
      | nil => simp
      | cons c r ih =>
        have ih := ih (Nat.succ_mul _ _)
        simp only [List.flatMap_cons, List.length_append, ih, List.length_cons, Nat.succ_mul]; omega
    rw [List.length_append, this, Nat.mul_add, Nat.mul_one]; omega
  · rename_i h
    have := replK_len y z h x 0
    omega

section
variable {C : Cx} {σ : St}
theorem FnAt.callee {a : Addr} {fd : FuncData} {body : List Stmt} (f : FnAt C.W a fd body) : Callee C (.ref a) := let ⟨o, ho, hd⟩ := f.at_; .fn ho hd

theorem callee_of {W : Wd} {a : Addr} {fd : FuncData} {body : List Stmt} (f : FnAt W a fd body) (e : C.W = W := by rfl) : Callee C (.ref a) := by
  subst e; exact f.callee
/-- a call of a def by its name -/
theorem ev_fn {n : Nat} (ok : C.Ok n) {L : List (String × Value)} (hG : C.W.gls = L) {f : String} {fp pos : Pos} {es : List Expr} {w : Value} {Q : V → St → Prop} (hk : C.env.kindOf (Str.ofString f) = some .globalImplicit) (hl : L.lookup f = some w) (hc : Callee C w)
    (h : EvL C σ pos es (fun vs σ2 => OpL C (Rep C.W) (fun ws => call w ws) vs (fun v => Q v σ2)))
    (hst : (starEach es C.env).all (fun x => !x.1) = true)
    (he : eval (.Call (.Name (Str.ofString f) fp) es [] pos) C.env = (do callWith pos (← eval (.Name (Str.ofString f) fp) C.env) [] (backTo pos (starEach es C.env)) (backToKw pos (keywordEach [] C.env))))
    (hd : (Str.ofString f == ("__debug__" : Str)) = false) : Ev C σ (.Call (.Name (Str.ofString f) fp) es [] pos) Q :=
  ev_call (ev_glob ok hk (v := w) (by rw [hG]; exact hl) ⟨w, rfl, hc, h⟩ hd) hst he
theorem evF_fn {n : Nat} (ok : C.Ok n) {L : List (String × Value)} (hG : C.W.gls = L) {f : String} {fp pos : Pos} {es : List Expr} {w : Value} {Q : Slot → St → Prop} (hk : C.env.kindOf (Str.ofString f) = some .globalImplicit) (hl : L.lookup f = some w) (hc : Callee C w)
    (h : EvL C σ pos es (fun vs σ2 => OpLF C (fun ws => call w ws) vs (fun v => Q v σ2)))
    (hst : (starEach es C.env).all (fun x => !x.1) = true)
    (he : eval (.Call (.Name (Str.ofString f) fp) es [] pos) C.env = (do callWith pos (← eval (.Name (Str.ofString f) fp) C.env) [] (backTo pos (starEach es C.env)) (backToKw pos (keywordEach [] C.env))))
    (hd : (Str.ofString f == ("__debug__" : Str)) = false) : EvF C σ (eval (.Call (.Name (Str.ofString f) fp) es [] pos) C.env) Q :=
  evF_call (ev_glob ok hk (v := w) (by rw [hG]; exact hl) ⟨w, rfl, hc, h⟩ hd) hst he

/-! ### displays of dicts, by their expressions -/
noncomputable def dpairs (env : Env) (pos : Pos) : List (Option Expr) → List Expr → List (Sem Value × Sem Value)
  | some k :: ks, v :: vs => (eval k env, do let x ← eval v env; standAt pos; pure x) :: dpairs env pos ks vs
  | _, _ => []
theorem dpairs_shape {env : Env} {pos : Pos} : ∀ (ks : List (Option Expr)) (vs : List Expr), ks.all (·.isSome) = true → ks.length = vs.length →
    (evalEachOpt ks env).zip ((evalEach vs env).map fun v => do let x ← v; standAt pos; pure x) = (dpairs env pos ks vs).map fun p => (some p.1, p.2)
  | [], [], _, _ => rfl
  | [], _ :: _, _, h => by simp at h
  | _ :: _, [], _, h => by simp at h
  | none :: _, _, h, _ => by simp at h
  | some k :: ks, v :: vs, h, hl => by
    have ih := dpairs_shape (env := env) (pos := pos) ks vs (by simpa using h) (by simpa using hl)
    exact congrArg (fun r => (some (eval k env), (do let x ← eval v env; standAt pos; pure x)) :: r) ih
noncomputable abbrev EvD (C : Cx) (σ : St) (pos : Pos) (ks : List (Option Expr)) (vs : List Expr) (acc : List (Key × V)) (Q : List (Key × V) → St → Prop) : Prop := EvK C (dpairs C.env pos ks vs) acc σ Q
theorem evD_nil {pos : Pos} {acc : List (Key × V)} {Q : List (Key × V) → St → Prop} (h : Q acc σ) : EvD C σ pos [] [] acc Q := h
theorem evD_cons {pos : Pos} {k v : Expr} {ks : List (Option Expr)} {vs : List Expr} {acc : List (Key × V)} {Q : List (Key × V) → St → Prop}
    (h : Ev C σ k (fun kv σ1 => ∃ key : Key, kv = key.v ∧ Ev C σ1 v (fun vv σ2 => EvD C σ2 pos ks vs (acc ++ [(key, vv)]) Q))) : EvD C σ pos (some k :: ks) (v :: vs) acc Q :=
  Tr.mono h fun kv σ1 ⟨key, e, h2⟩ => ⟨key, e, evT_stand h2⟩
theorem evF_dictE {n : Nat} (ok : C.Ok n) {keys : List (Option Expr)} {values : List Expr} {pos : Pos} {Q : Slot → St → Prop} (h : EvD C σ pos keys values [] (fun kvs σ1 => ∀ a, Q (.dict a (dsets [] kvs)) σ1))
    (h1 : keys.all (·.isSome) = true) (h2 : keys.length = values.length) (h0 : (dpairs C.env pos keys values).isEmpty = false) (hlen : (dpairs C.env pos keys values).length ≤ 15) : EvF C σ (eval (.Dict keys values pos) C.env) Q :=
  evF_dict ok h (dpairs_shape keys values h1 h2) (fun e => by rw [e] at h0; cases h0) hlen
theorem evF_dictStarE {n : Nat} (ok : C.Ok n) {keys : List (Option Expr)} {v0 : Expr} {values : List Expr} {pos : Pos} {Q : Slot → St → Prop}
    (h : Ev C σ v0 (fun v σ1 => ∃ es, v = .dct es ∧ es.length + (dpairs C.env pos keys values).length ≤ sizeLine ∧ EvD C σ1 pos keys values [] (fun kvs σ2 => ∀ a, Q (.dict a (dsets (dsets [] es) (dsets [] kvs))) σ2)))
    (h1 : keys.all (·.isSome) = true) (h2 : keys.length = values.length) (h0 : (dpairs C.env pos keys values).isEmpty = false) (hlen : (dpairs C.env pos keys values).length ≤ 15) : EvF C σ (eval (.Dict (none :: keys) (v0 :: values) pos) C.env) Q := by
  refine evF_dictStar ok (m := do let x ← eval v0 C.env; standAt pos; pure x) (pairs := dpairs C.env pos keys values) (evT_stand h) ?_ (fun e => by rw [e] at h0; cases h0) hlen
  exact congrArg (fun r => (none, (do let x ← eval v0 C.env; standAt pos; pure x)) :: r) (dpairs_shape keys values h1 h2)

/-- what gives a new list or dict, where a value is asked -/
theorem ev_ofF {e : Expr} {Q : V → St → Prop} (h : EvF C σ (eval e C.env) (fun sl σ1 => Q sl.v σ1)) : Ev C σ e Q := h.ev
end
end Sx
end
section
open PySem PySem.W PyProof.Rows PySem.Calls
set_option linter.unusedVariables false
set_option Elab.async false
set_option maxRecDepth 100000
namespace Sx

noncomputable def isCF : Option NameKind → Bool
  | some .cell => true
  | some .free => true
  | _ => false
noncomputable def compB (env : Env) (scope : Scope) (fv : List String) : Bool :=
  (scope.kind == .function) && (scope.names.all fun y => (y.2 != .cell) && (y.2 != .local || scope.names.lookup y.1 == some .local) && (y.2 != .free || isCF (env.kindOf y.1))) && fv.all fun x => isCF (env.kindOf (Str.ofString x)) && isCF ((relabel scope env).names.lookup (Str.ofString x))
theorem isCF_or {k : Option NameKind} (h : isCF k = true) : k = some .cell ∨ k = some .free := by
  unfold isCF at h
  split at h
  · exact .inl rfl
  · exact .inr rfl
  · cases h
theorem compOk_of {C : Cx} {scope : Scope} {fv : List String} (h : compB C.env scope fv = true) : CompOk C scope fv := by
  unfold compB at h
  rw [Bool.and_eq_true, Bool.and_eq_true, List.all_eq_true, List.all_eq_true] at h
  obtain ⟨⟨h1, h2⟩, h3⟩ := h
  refine ⟨by simpa using h1, fun y hy => ?_, fun y hy hl => ?_, fun y hy hf => ?_, fun x hx => ?_⟩
  · have := h2 y hy
    simp only [Bool.and_eq_true] at this
    simpa using this.1.1
  · have := h2 y hy
    simp only [Bool.and_eq_true, Bool.or_eq_true] at this
    have h4 := this.1.2
    rw [hl] at h4
    simpa using h4
  · have := h2 y hy
    simp only [Bool.and_eq_true, Bool.or_eq_true] at this
    have h4 := this.2
    rw [hf] at h4
    exact isCF_or (by simpa using h4)
  · have := h3 x hx
    rw [Bool.and_eq_true] at this
    exact ⟨isCF_or this.1, isCF_or this.2⟩

section
variable {C : Cx}
theorem lloop_map {target elt : Expr} {K : List V → Prop} (J : St → Prop) (f : V → V) : ∀ (xs ys : List V) (σ : St), J σ → (∀ x ∈ xs, ∀ σ, J σ → Asg C σ target x (fun σ1 => Ev C σ1 elt (fun y σ2 => y = f x ∧ J σ2))) → K (ys ++ xs.map f) → LLoop C target [] elt K xs ys σ
  | [], ys, σ, hJ, hs, hd => by rw [List.map_nil, List.append_nil] at hd; exact hd
  | x :: xs, ys, σ, hJ, hs, hd => by
    refine Asg.mono (hs x List.mem_cons_self σ hJ) fun σ1 h1 => tsts_nil ⟨fun _ => Tr.mono h1 fun y σ2 h2 => ?_, fun h => nomatch h⟩
    obtain ⟨rfl, h2⟩ := h2
    exact lloop_map J f xs _ σ2 h2 (fun z hz => hs z (List.mem_cons_of_mem _ hz)) (by rw [List.append_assoc]; exact hd)
theorem lloop_filter {target elt c : Expr} {K : List V → Prop} (J : St → Prop) (p : V → Bool) (f : V → V) : ∀ (xs ys : List V) (σ : St), J σ → (∀ x ∈ xs, ∀ σ, J σ → Asg C σ target x (fun σ1 => Tst C σ1 c (fun b σ2 => b = p x ∧ J σ2 ∧ (b = true → Ev C σ2 elt (fun y σ3 => y = f x ∧ J σ3))))) → K (ys ++ (xs.filter p).map f) → LLoop C target [c] elt K xs ys σ
  | [], ys, σ, hJ, hs, hd => by simp at hd; exact hd
  | x :: xs, ys, σ, hJ, hs, hd => by
    refine Asg.mono (hs x List.mem_cons_self σ hJ) fun σ1 h1 => tsts_one (Tr.mono h1 fun b σ2 h2 => ?_)
    obtain ⟨rfl, h2, h3⟩ := h2
    refine ⟨fun hb => Tr.mono (h3 hb) fun y σ3 h4 => ?_, fun hb => ?_⟩
    · obtain ⟨rfl, h4⟩ := h4
      rw [List.filter_cons, if_pos hb] at hd
      exact lloop_filter J p f xs _ σ3 h4 (fun z hz => hs z (List.mem_cons_of_mem _ hz)) (by rw [List.append_assoc]; exact hd)
    · rw [List.filter_cons, if_neg (by rw [hb]; decide)] at hd
      exact lloop_filter J p f xs ys σ2 h2 (fun z hz => hs z (List.mem_cons_of_mem _ hz)) hd
end
end Sx
end
section
open PySem PySem.W PyProof.Rows PySem.Calls
set_option linter.unusedVariables false
set_option Elab.async false
set_option maxRecDepth 100000
namespace Sx

noncomputable def isComp : Expr → Bool
  | .ListComp _ _ _ _ => true
  | .SetComp _ _ _ _ => true
  | .DictComp _ _ _ _ _ => true
  | _ => false
theorem swaps_no {e : Expr} {t : Option Expr} {line : Nat} {env : Env} (h : isComp e = false) : swapsWith e t line env = pure false := by
  cases e <;> first | rfl | cases h
noncomputable def swB (env : Env) (scope : Scope) (x : Str) (l1 l2 : Nat) : Bool := env.blockKind == .function && env.kindOf x == some .local && l1 == l2 && !(scope.names.any fun (n, k) => n == x && (k == .local || k == .cell))
theorem swaps_list {elt : Expr} {gens : List Comprehension} {scope : Scope} {cpos p' : Pos} {x : Str} {line : Nat} {env : Env} {b : Bool} (h : swB env scope x p'.line cpos.line = b) : swapsWith (.ListComp elt gens scope cpos) (some (.Name x p')) line env = pure b := by subst h; rfl
end Sx
end
section
open PySem PySem.W PyProof.Rows PySem.Calls
set_option linter.unusedVariables false
set_option Elab.async false
set_option maxRecDepth 100000
namespace Sx

section
variable {C : Cx}
theorem dset_new {es : List (Key × V)} {k : Key} {v : V} (h : k ∉ es.map (·.1)) : dset es k v = es ++ [(k, v)] := by
  induction es with
  | nil => rfl
  | cons p r ih =>
    obtain ⟨k', v'⟩ := p
    unfold dset
    rw [List.map_cons, List.mem_cons, not_or] at h
    rw [if_neg (fun e => h.1 e.symm), ih h.2]; rfl
theorem dsets_new : ∀ (more es : List (Key × V)), ((es ++ more).map (·.1)).Nodup → dsets es more = es ++ more
  | [], es, _ => by simp [dsets]
  | (k, v) :: r, es, h => by
    have hk : k ∉ es.map (·.1) := by
      rw [List.map_append, List.nodup_append] at h
      intro hm
      exact h.2.2 k hm k (by simp) rfl
    show dsets (dset es k v) r = _
    rw [dset_new hk, dsets_new r (es ++ [(k, v)]) (by rw [List.append_assoc]; exact h), List.append_assoc]; rfl
theorem dsets_nil {more : List (Key × V)} (h : (more.map (·.1)).Nodup) : dsets [] more = more := dsets_new more [] h

theorem opL_range1 {n : Int} {K : V → Prop} (h : K (.rng 0 n)) : OpL C (Rep C.W) (fun ws => call (.type "range") ws) [.int n] K := by
  intro own T s ws hO hr
  obtain ⟨_, _, rfl, r1, hr⟩ := hr.cons_inv
  obtain rfl := hr.nil_inv
  obtain ⟨_, rfl⟩ := r1.int_inv
  refine call_range_1 ?_
  have hnew := fresh_size s.heap
  refine ⟨_, T, h, .push hO.tok (by show s.toks ≤ s.toks + 1 + 1; omega), .rng (view_mk (fun hm => hO.fresh hnew hm) (Heap.get?_push_size _ rfl))⟩
/-! two tables with the same entries are equal -/
noncomputable def AlikeD : List (Key × V) → List (Key × V) → Prop
  | [], [] => True
  | (k, v) :: r, (k', v') :: r' => k = k' ∧ Alike 0 v v' ∧ AlikeD r r'
  | _, _ => False
end
end Sx
end
section
open PySem PySem.W PyProof.Rows PySem.Calls
set_option linter.unusedVariables false
set_option Elab.async false
set_option maxRecDepth 100000
namespace Sx
/-! loops by a counter -/
theorem loop_list {C : Cx} {target : Expr} {body orelse : List Stmt} {Q : Fl → St → Prop} {α : Type} (f : α → V) (l : List α) (I : Nat → St → Prop)
    (step : ∀ i x σ, l[i]? = some x → I i σ → Asg C σ target (f x) (fun σ1 => Exs C σ1 body (fun fl σ2 => match fl with | .next => I (i + 1) σ2 | .cont => I (i + 1) σ2 | .brk => Q .next σ2 | .ret v => Q (.ret v) σ2)))
    (done : ∀ σ, I l.length σ → Exs C σ orelse Q) {σ : St} (h : I 0 σ) {xs : List V} (hx : xs = l.map f) : Loop C target body orelse Q xs σ := by
  subst hx
  refine loop_inv (fun xs σ => ∃ i, xs = (l.drop i).map f ∧ i ≤ l.length ∧ I i σ) ?_ ?_ _ _ ⟨0, by rw [List.drop_zero], Nat.zero_le _, h⟩
  · rintro x xs σ ⟨i, hx, hi, hI⟩
    have hlt : i < l.length := by
      rcases Nat.lt_or_ge i l.length with h | h
      · exact h
      · rw [List.drop_eq_nil_of_le h] at hx; cases hx
    rw [List.drop_eq_getElem_cons hlt, List.map_cons] at hx
    injection hx with h1 h2
    subst h1; subst h2
    refine Asg.mono (step i l[i] σ (List.getElem?_eq_getElem hlt) hI) fun σ1 h1 => Tr.mono h1 fun fl σ2 h2 => ?_
    cases fl with
    | next => exact ⟨i + 1, rfl, hlt, h2⟩
    | cont => exact ⟨i + 1, rfl, hlt, h2⟩
    | brk => exact h2
    | ret v => exact h2
  · rintro σ ⟨i, hx, hi, hI⟩
    have : i = l.length := by
      rcases Nat.lt_or_ge i l.length with h | h
      · rw [List.drop_eq_getElem_cons h] at hx; cases hx
      · omega
    subst this
    exact done σ hI
theorem loop_range {C : Cx} {target : Expr} {body orelse : List Stmt} {Q : Fl → St → Prop} (a b : Int) (n : Nat) (hn : (b - a).toNat = n) (I : Nat → St → Prop)
    (step : ∀ i σ, i < n → I i σ → Asg C σ target (.int (a + i)) (fun σ1 => Exs C σ1 body (fun fl σ2 => match fl with | .next => I (i + 1) σ2 | .cont => I (i + 1) σ2 | .brk => Q .next σ2 | .ret v => Q (.ret v) σ2)))
    (done : ∀ σ, I n σ → Exs C σ orelse Q) {σ : St} (h : I 0 σ) : Loop C target body orelse Q ((List.range (b - a).toNat).map fun (i : Nat) => V.int (a + (i : Int))) σ := by
  subst hn
  refine loop_list (fun (i : Nat) => V.int (a + (i : Int))) (List.range (b - a).toNat) I ?_ ?_ h rfl
  · intro i x σ hx hI
    have hlt : i < (b - a).toNat := by
      have := List.getElem?_eq_some_iff.mp hx
      obtain ⟨h, _⟩ := this
      simpa using h
    have : x = i := by
      rw [List.getElem?_range hlt] at hx
      injection hx with hx
      exact hx.symm
    subst this
    exact step x σ hlt hI
  · intro σ hI
    rw [List.length_range] at hI
    exact done σ hI
theorem run_rng {a b : Int} (h1 : -1000000 ≤ a) (h2 : a ≤ 1000000) (h3 : -1000000 ≤ b) (h4 : b ≤ 100000000) (t : Expr) : RunOk t (.rng a b) := small_one (by omega) (by omega) (by omega) (by omega)
theorem evP_none {C : Cx} {σ : St} {Q : Option Int → St → Prop} (h : Q none σ) : EvP C σ none Q := h
theorem evP_some {C : Cx} {σ : St} {e : Expr} {Q : Option Int → St → Prop} (h : Ev C σ e (fun v σ1 => ∃ i, v = .int i ∧ Q (some i) σ1)) : EvP C σ (some e) Q := h
theorem item_str {C : Cx} {l : S} {i : Nat} {c : Nat} {K : V → Prop} (hl : l.length ≤ sizeLine) (hc : l[i]? = some c) (h : K (.str [c])) :
    Op2 C (Rep C.W) getItem (.str l) (.int i) K ∧ ∃ T id, typeLookup (.type T) "__getitem__" = pure (some (.builtin id)) ∧ IsTy C.W (.str l) T :=
  have hi : i < l.length := (List.getElem?_eq_some_iff.mp hc).1
  ⟨op_item_str (by omega) (by omega) hl (by rw [if_neg (by omega)]; simpa using hc) h, _, _, PySem.F.slot_str_getitem.lookup, isTy_str⟩
theorem item_list {C : Cx} {l : List V} {i : Nat} {v : V} {K : V → Prop} (hl : l.length ≤ sizeLine) (hc : l[i]? = some v) (h : K v) :
    Op2 C (Rep C.W) getItem (.lst l) (.int i) K ∧ ∃ T id, typeLookup (.type T) "__getitem__" = pure (some (.builtin id)) ∧ IsTy C.W (.lst l) T :=
  have hi : i < l.length := (List.getElem?_eq_some_iff.mp hc).1
  ⟨op_item_list (by omega) (by omega) hl (by rw [if_neg (by omega)]; simpa using hc) h, _, _, PySem.F.slot_list_getitem.lookup, isTy_lst⟩
theorem item_dict {C : Cx} {es : List (Key × V)} {k : Key} {v : V} {K : V → Prop} (hc : dget es k = some v) (h : K v) :
    Op2 C (Rep C.W) getItem (.dct es) k.v K ∧ ∃ T id, typeLookup (.type T) "__getitem__" = pure (some (.builtin id)) ∧ IsTy C.W (.dct es) T :=
  ⟨op_item_dict hc h, _, _, PySem.F.slot_dict_getitem.lookup, isTy_dct⟩
theorem log2_le {n k : Nat} (h : n < 2 ^ k) (hk : 0 < k) : n.log2 < k := by
  by_cases h0 : n = 0
  · subst h0; simp; exact hk
  · exact (Nat.log2_lt h0).mpr h
theorem fmodR (i : Int) {m : Int} (hm : 0 < m) : 0 ≤ i.fmod m ∧ i.fmod m < m := ⟨Int.fmod_nonneg_of_pos i (by omega), Int.fmod_lt_of_pos i (by omega)⟩
theorem fmodN (i : Int) {m : Nat} (hm : 0 < m) : ∃ k : Nat, i.fmod m = (k : Int) ∧ k < m := by
  obtain ⟨h0, h1⟩ := fmodR i (m := m) (by omega)
  exact ⟨(i.fmod m).toNat, by omega, by omega⟩
/-- the entry of a sign, or the sign itself -/
noncomputable def rf (rs : List (S × S)) (c : Nat) : S := ((rs.find? fun p => p.1 = [c]).map (·.2)).getD [c]
end Sx
end
section
open PySem PySem.W PyProof.Rows PySem.Calls
set_option linter.unusedVariables false
set_option Elab.async false
set_option maxRecDepth 100000
namespace Sx
noncomputable def tset1 : List (S × S) → S → S → List (S × S)
  | [], k, v => [(k, v)]
  | (k', v') :: r, k, v => if k' = k then (k', v) :: r else (k', v') :: tset1 r k v
theorem dset_tab1 (es : List (S × S)) (k v : S) : dset (tabV es) (.s k) (.str v) = tabV (tset1 es k v) := by
  induction es with
  | nil => rfl
  | cons p r ih =>
    obtain ⟨k', v'⟩ := p
    show (if Key.s k' = Key.s k then _ else _) = _
    by_cases h : k' = k
    · subst h
      rw [if_pos rfl]
      show _ = tabV (if k' = k' then _ else _)
      rw [if_pos rfl]; rfl
    · rw [if_neg (fun e => h (by injection e))]
      show _ = tabV (if k' = k then _ else _)
      rw [if_neg h]
      show _ = (Key.s k', V.str v') :: tabV (tset1 r k v)
      rw [← ih]; rfl
noncomputable def tput (es more : List (S × S)) : List (S × S) := more.foldl (fun es p => tset1 es p.1 p.2) es
theorem dsets_tput (es more : List (S × S)) : dsets (tabV es) (tabV more) = tabV (tput es more) := by
  induction more generalizing es with
  | nil => rfl
  | cons p r ih =>
    have := ih (tset1 es p.1 p.2)
    rw [← dset_tab1] at this
    exact this
theorem tset1_length (es : List (S × S)) (k v : S) : (tset1 es k v).length ≤ es.length + 1 := by
  have := dset_length (tabV es) (.s k) (.str v)
  rw [dset_tab1] at this
  simpa [tabV] using this
theorem tabV_length (es : List (S × S)) : (tabV es).length = es.length := by simp [tabV]
theorem find_cap1 {fv : List String} {σ : St} {x : String} {u : V} (hx : x ∈ fv) (h : find σ (Str.ofString x) = some (.val u)) : find (capSt fv σ) (Str.ofString x) = some (.val u) := by
  induction fv with
  | nil => cases hx
  | cons y r ih =>
    by_cases hy : Str.ofString y = Str.ofString x
    · have : capSt (y :: r) σ = (y, .val u) :: capSt r σ := by unfold capSt; rw [List.filterMap_cons]; simp only [hy, h]
      rw [this]
      show (if Str.ofString y = Str.ofString x then some (Slot.val u) else _) = _
      rw [if_pos hy]
    · have hx' : x ∈ r := by
        rcases List.mem_cons.mp hx with e | e
        · exact absurd (by rw [e]) hy
        · exact e
      have := ih hx'
      unfold capSt at this ⊢
      rw [List.filterMap_cons]
      split
      · exact this
      · rename_i p hp
        have : p.1 = y := by
          split at hp
          · injection hp with hp; rw [← hp]
          · cases hp
        obtain ⟨p1, p2⟩ := p
        simp only at this
        subst this
        show (if Str.ofString p1 = Str.ofString x then _ else _) = _
        rw [if_neg hy]
        assumption
section
variable {C : Cx} {σ : St}
theorem ex_append {n : Nat} (ok : C.Ok n) {x : String} {xp apos pos epos : Pos} {e : Expr} {a : Addr} {vs : List V} {Q : Fl → St → Prop}
    (hf : find σ (Str.ofString x) = some (.list a vs))
    (h : Ev C σ e (fun v σ1 => ∃ vs1, find σ1 (Str.ofString x) = some (.list a vs1) ∧ vs1.length ≤ sizeLine ∧ Q .next (put σ1 (Str.ofString x) x (.list a (vs1 ++ [v])))))
    (hxa : Str.ofString x ≠ anonS) (hn : (Str.ofString x == ("__classdict__" : Str)) = false) (hd : (Str.ofString x == ("__debug__" : Str)) = false)
    (hbase : attributeBase (.Name (Str.ofString x) xp) (Str.ofString "append") C.env (eval (.Name (Str.ofString x) xp) C.env) = eval (.Name (Str.ofString x) xp) C.env) (hline : (apos.endLine == pos.line) = true)
    (hs : starEach [e] C.env = (false, eval e C.env) :: starEach [] C.env) (hint : interactive C.env = false) (hsw : swapsWith (.Call (.Attribute (.Name (Str.ofString x) xp) (Str.ofString "append") apos) [e] [] pos) none epos.line C.env = pure false) :
    Ex C σ (.Expr (.Call (.Attribute (.Name (Str.ofString x) xp) (Str.ofString "append") apos) [e] [] pos) epos) Q :=
  ex_methO ok (sl := .list a vs) (a := a) (P := fun r => r = .none) hf rfl PySem.F.plainAttrs_list PySem.F.slot_list_append PySem.F.type_list_append
    (Tr.mono h fun v σ1 ⟨vs1, h1, h2, h3⟩ => ⟨.list a vs1, h1, rfl, opM_append h2 h3⟩) hxa hn hd hbase hline hs hint hsw
end
theorem exB {b : Bool} {P : Bool → Prop} (h : P b) : ∃ b', V.bool b = V.bool b' ∧ P b' := ⟨_, rfl, h⟩
theorem exI {i : Int} {P : Int → Prop} (h : P i) : ∃ i', V.int i = V.int i' ∧ P i' := ⟨_, rfl, h⟩
theorem exS {l : S} {P : S → Prop} (hl : l.length ≤ sizeLine) (h : P l) : ∃ l', V.str l = V.str l' ∧ l'.length ≤ sizeLine ∧ P l' := ⟨_, rfl, hl, h⟩
end Sx
end
section
open PySem PySem.W PyProof.Rows PySem.Calls
set_option linter.unusedVariables false
set_option Elab.async false
set_option maxRecDepth 100000
namespace Sx
section
variable {C : Cx} {σ : St}
theorem opU_neg {a : Int} {K : V → Prop} (h : K (.int (-a))) : Op1 C (Rep C.W) (unaryOp .USub) (.int a) K := fun own T s va hO ra => by
  obtain ⟨_, rfl⟩ := ra.int_inv; exact PySem.P.neg_int (.int hO.tok h (Nat.le_succ _))
noncomputable def srep (n : Nat) (x : S) : S := (List.replicate n x).flatten
theorem item_dictS {es : List (Key × V)} {k : S} {v : V} {K : V → Prop} (hc : dget es (.s k) = some v) (h : K v) :
    Op2 C (Rep C.W) getItem (.dct es) (.str k) K ∧ ∃ T id, typeLookup (.type T) "__getitem__" = pure (some (.builtin id)) ∧ IsTy C.W (.dct es) T := item_dict (k := .s k) hc h
theorem wp_slice_str {prog : Program} {w : World} {A : Around} {E : Value → Shared → Prop} {s : Shared} {env : Env} {value : Expr} {lower upper : Option Expr} {p pos : Pos} {Q : Value → Shared → Prop}
    (h : wpAny (model prog w) A (eval value env) (fun o s₁ => wpAny (model prog w) A (eval (.Slice lower upper none p) env) (fun i s₂ => (∃ x t, o = .str x t) ∧ wpAny (model prog w) A (getItem o i) Q E s₂) E s₁) E s) :
    wpAny (model prog w) A (eval (.Subscript value (.Slice lower upper none p) pos) env) Q E s := by
  rw [eval_Subscript]
  refine wpAny_bind (wpAny_mono h (fun o s₁ h₁ => wpAny_bind (wpAny_holding (wpAny_mono h₁ (fun i s₂ h₂ => wpAny_bind (wpAny_standAt ?_)) fun _ _ x => x)))
    fun _ _ x => x)
  obtain ⟨⟨x, t, rfl⟩, h₂⟩ := h₂
  have ht : ∀ r, letTemporaryGo value (.str x t) r = pure () := fun r => by cases value <;> rfl
  have hT := typeIs_str s₂ x t
  have fin : wpAny (model prog w) A (operate [i, .str x t] (getItem (.str x t) i)) (fun r s₃ => wpAny (model prog w) A (letTemporaryGo value (.str x t) r >>= fun _ => pure r) Q E s₃) E s₂ :=
    wpAny_operating (wpAny_mono h₂ (fun r s₃ h₃ => wpAny_bind (wpAny_of_eq (ht r) (wpAny_pure h₃))) fun _ _ x => x)
  first
    | (refine wpAny_bind ?_
       rw [getitemInPython_of_ne hT.not_modules]
       refine wpAny_bind (wpAny_specialOf hT PySem.F.slot_str_getitem.lookup ?_)
       first
         | exact wpAny_pure (wpAny_bind fin)
         | exact wpAny_bind (wpAny_pure (wpAny_bind fin))
         | exact wpAny_bind fin)
    | (refine wpAny_bind (wpAny_specialOf hT PySem.F.slot_str_getitem.lookup ?_)
       first
         | exact wpAny_bind (wpAny_pure (wpAny_bind fin))
         | exact wpAny_bind fin)
/-- t[lo:hi], a text, whatever stands ahead of the brackets -/
theorem ev_sliceT {value : Expr} {lower upper : Option Expr} {p pos : Pos} {Q : V → St → Prop}
    (h : Ev C σ value (fun a σ1 => ∃ l, a = .str l ∧ l.length ≤ sizeLine ∧ EvP C σ1 lower (fun lo σ2 => EvP C σ2 upper (fun hi σ3 => Q (.str (slc lo hi l)) σ3)))) : Ev C σ (.Subscript value (.Slice lower upper none p) pos) Q := by
  intro F mine T s hA
  refine wp_slice_str (Tr.then h hA fun va s1 a σ1 m1 T1 hq p1 a1 r1 => ?_)
  obtain ⟨l, rfl, hl, hlo⟩ := hq
  obtain ⟨t, rfl, ht1⟩ := r1.str_inv
  refine wpAny_Slice (wpAny_mono (evP_run hlo a1) ?_ fun _ _ x => x)
  rintro vl s2 ⟨lo, σ2, m2, T2, hhi, rfl, p2, a2⟩
  refine wpAny_mono (evP_run hhi a2) ?_ fun _ _ x => x
  rintro vu s3 ⟨hi, σ3, m3, T3, hq, rfl, p3, a3⟩
  rw [evalPart_none]
  refine wpAny_pure ⟨⟨_, _, rfl⟩, wpAny_getItem_str_slice (l := lo) (u := hi) (st := none) ⟨_, Heap.get?_push_size _ rfl, rfl, rfl⟩ rfl ?_⟩
  have k3 : Kp T3 s3 T3 { s3 with heap := s3.heap.push { cls := .type "slice", data := .fields #[partValue lo, partValue hi, .none] } } := .push a3.tok (Nat.le_refl _)
  refine slice_made (C := C) (own := F ++ m3) (K := fun v => Q v σ3) (a3.ownOk.keeps k3) (p3.le.tk _ _ (p2.le.tk _ _ ht1)) hl hq k3 ?_
  rintro v s4 ⟨b, T4, hq, k4, r4⟩
  exact ⟨b, σ3, m3, T4, hq, (p1.trans (p2.trans p3)).trans (k4.post a3.live), a3.keeps k4, r4⟩
theorem Rep.val_inv {W : Wd} {g : PH} {u v : Value} (h : Rep W g (.val u) v) : v = u := by cases h; rfl
/-- f(x), x a list or dict of the frame's own that f only looks at, f's answer a number -/
theorem ev_fnO {n : Nat} (ok : C.Ok n) {L : List (String × Value)} (hG : C.W.gls = L) {f x : String} {fp xp pos : Pos} {w : Value} {sl : Slot} {a : Addr} {Q : V → St → Prop} (hk : C.env.kindOf (Str.ofString f) = some .globalImplicit) (hl : L.lookup f = some w) (hc : Callee C w)
    (hf : find σ (Str.ofString x) = some sl) (ho : sl.adr = some a) (h : OpL C (Rep C.W) (fun ws => call w ws) [sl.v] (fun v => ∃ i, v = .int i ∧ Q (.int i) σ))
    (hxa : Str.ofString x ≠ anonS) (hn : (Str.ofString x == ("__classdict__" : Str)) = false) (hdx : (Str.ofString x == ("__debug__" : Str)) = false) (hd : (Str.ofString f == ("__debug__" : Str)) = false)
    (hs : starEach [Expr.Name (Str.ofString x) xp] C.env = (false, eval (.Name (Str.ofString x) xp) C.env) :: starEach [] C.env)
    (he : eval (.Call (.Name (Str.ofString f) fp) [.Name (Str.ofString x) xp] [] pos) C.env = (do callWith pos (← eval (.Name (Str.ofString f) fp) C.env) [] (backTo pos (starEach [.Name (Str.ofString x) xp] C.env)) (backToKw pos (keywordEach [] C.env)))) :
    Ev C σ (.Call (.Name (Str.ofString f) fp) [.Name (Str.ofString x) xp] [] pos) Q := by
  intro F mine T s hA
  rw [he]
  refine wpAny_bind (Tr.then (ev_glob ok hk (v := w) (Q := fun v σ' => v = .val w ∧ σ' = σ) (by rw [hG]; exact hl) ⟨rfl, rfl⟩ hd) hA fun vf s1 fv σ1 m1 T1 hq p1 a1 r1 => ?_)
  obtain ⟨rfl, rfl⟩ := hq
  obtain rfl := Rep.val_inv r1
  have hst : (starEach [Expr.Name (Str.ofString x) xp] C.env).all (fun x => !x.1) = true := by rw [hs]; rfl
  refine callWith_any (any_backTo hst) hc (evalArgs_list hst ?_)
  rw [backTo_cons hs]
  refine spliced_cons (wpAny_Name (tr_loadO ok a1 hf ho hxa hn fun hr => ?_) hdx)
  refine wpAny_items_nil ?_
  refine ⟨rfl, a1.ownOk.kb, ?_⟩
  have hsub : ∀ b ∈ (F ++ m1).filter (fun b => decide (b ≠ a)), b ∈ F ++ m1 := fun b hb => (List.mem_filter.mp hb).1
  have hna : a ∉ (F ++ m1).filter (fun b => decide (b ≠ a)) := fun hb => by have := (List.mem_filter.mp hb).2; simp at this
  have hO' : OwnOk C ((F ++ m1).filter fun b => decide (b ≠ a)) T1 s1 := ⟨fun b o e => (view_sub hsub).ob b o (a1.base b o e), fun b hb => a1.live b (hsub b hb), a1.tok⟩
  refine PrimR.then (h _ T1 s1 [.ref a] hO' (.cons (SlotRep.freeze ho hr hsub hna) .nil)) fun r s2 b T2 hq k rr => ?_
  obtain ⟨i, rfl, hq⟩ := hq
  obtain ⟨t, rfl⟩ := rr.int_inv
  exact ⟨.int i, _, m1, T2, hq, p1.trans (k.post a1.live), a1.keeps k, .int _ _⟩
end
end Sx
end
section
open PySem PySem.W PyProof.Rows PySem.Calls PySem.SeqAt
set_option linter.unusedVariables false
set_option Elab.async false
set_option maxRecDepth 100000
namespace Sx
section
variable {C : Cx} {σ : St}
end
end Sx
end
section
open PySem PySem.W PyProof.Rows PySem.Calls
set_option linter.unusedVariables false
set_option Elab.async false
set_option maxRecDepth 100000
namespace Sx

/-! ## a comprehension with two generators -/
noncomputable def genTail (e it2 : Expr) (acc : Value) (env : Env) : Sem Unit := do
  let x ← eval it2 env
  standAt it2.pos
  let x ← foldedSetIterable it2 env x
  let _ ← runOwn (.compStart e 1 (← holding [x] (pyIter x)) acc env) env
noncomputable abbrev emitL (elt : Expr) (acc : Value) (env : Env) : Sem Unit := do let _ ← call (.builtin "list.append") [acc, ← eval elt env]

section
variable {C : Cx} {σ : St}
end
end Sx
end
section
open PySem PySem.W PyProof.Rows PySem.Calls PySem.SeqAt
set_option linter.unusedVariables false
set_option Elab.async false
set_option maxRecDepth 100000
namespace Sx
section
variable {C : Cx} {σ : St}
/-- x in ls, ls texts -/
theorem op_notIn_strs {n : Nat} (ok : C.Ok n) {x : S} {ls : List S} (hx : x ∈ ls) {K : V → Prop} (hK : K (.bool false)) : Op2 C (Rep C.W) (compareOp .NotIn) (.str x) (.lst (ls.map V.str)) K := fun own T s va vb hO ra rb => by
  obtain ⟨t, rfl, ht⟩ := ra.str_inv
  obtain ⟨y, oy, wy, ny, rfl, k1, k2, k3, k4, q⟩ := rb.lst_inv
  obtain ⟨l, hl, hm, hs⟩ := strs_of ls _ q
  let e : Value → Bool := fun v => match v with | .str z _ => decide (z = mkS x) | _ => false
  refine notIn_listAt (items := wy.toArray) e ⟨oy, view_of k1, k2, ny, k4⟩ (fun v hv => ?_) ?_
  · have hv : v ∈ wy := by simpa using hv
    rw [hl] at hv
    obtain ⟨p, hp, rfl⟩ : ∃ p ∈ l, v = .str p.1 p.2 := by
      simp only [strValues, List.mem_map] at hv
      obtain ⟨p, hp, e⟩ := hv
      exact ⟨p, hp, e.symm⟩
    exact fun prog w E Q hq => wpAny_eqBool_str (by
      have : (p.1.cps.toList == (mkS x).cps.toList) = e (.str p.1 p.2) := by
        show _ = decide (p.1 = mkS x)
        obtain ⟨z, hz, _⟩ := hs p hp
        rw [hz]
        by_cases q : z = x
        · subst q; simp
        · have : mkS z ≠ mkS x := fun h => q (by have := congrArg (fun s : PySem.Str => s.cps.toList) h; simpa using this)
          simp [q, this]
      first
        | exact this ▸ hq
        | simpa [this] using hq
        | skip)
  · have : wy.toArray.any e = true := by
      rw [List.any_toArray, hl, List.any_eq_true]
      have : mkS x ∈ l.map (·.1) := by rw [hm]; exact List.mem_map_of_mem hx
      obtain ⟨p, hp, e1⟩ := List.mem_map.mp this
      refine ⟨.str p.1 p.2, ?_, ?_⟩
      · simp only [strValues, List.mem_map]
        exact ⟨p, hp, rfl⟩
      · show decide (p.1 = mkS x) = true
        simp [e1]
    rw [this]
    exact .same hO.tok hK (.bool _)

noncomputable def maxI : List Int → Int
  | [] => 0
  | [a] => a
  | a :: b :: r => max a (maxI (b :: r))
end
end Sx
end
section
open PySem PySem.W PyProof.Rows PySem.Calls PySem.SeqAt
set_option linter.unusedVariables false
set_option Elab.async false
set_option maxRecDepth 100000
namespace Sx

/-! ## a call that turns two lists of the caller's own -/
section
variable {C : Cx} {σ : St}
end

structure Kp2 (a b : Addr) (T : TM) (s : Shared) (T' : TM) (s' : Shared) : Prop where
  same : ∃ h' tk, s' = { s with heap := h', toks := tk }
  keep : ∀ c o, c ≠ a → c ≠ b → s.heap.get? c = some o → s'.heap.get? c = some o
  tle : TLe T T'
  tok : TOk T' s'.toks

/-- f(.., x, y): x and y lists that f turns; f's answer is None -/
noncomputable def OpX (C : Cx) (vs : List V) (a b : Addr) (hv tv : List V) (t : List Value → Sem Value) (K : List V → List V → Prop) : Prop :=
  ∀ own T s ws, a ≠ b → OwnOk C own T s → a ∈ own → b ∈ own → SlotRep C.W (view own T s) s.heap (.list a hv) (.ref a) → SlotRep C.W (view own T s) s.heap (.list b tv) (.ref b) → RepL C.W (view own T s) vs ws →
    wpAny C.M C.A (t (ws ++ [.ref a, .ref b])) (fun r s' => r = .none ∧ ∃ hv' tv' T', K hv' tv' ∧ Kp2 a b T s T' s' ∧ SlotRep C.W (view own T' s') s'.heap (.list a hv') (.ref a) ∧ SlotRep C.W (view own T' s') s'.heap (.list b tv') (.ref b)) C.X s

end Sx
end
section
open PySem PySem.W PyProof.Rows PySem.Calls PySem.SeqAt
set_option linter.unusedVariables false
set_option Elab.async false
set_option maxRecDepth 100000
namespace Sx
section
variable {C : Cx} {σ : St}

end
end Sx
end
section
open PySem PySem.W PyProof.Rows PySem.Calls PySem.SeqAt
set_option linter.unusedVariables false
set_option Elab.async false
set_option maxRecDepth 100000
namespace Sx

/-! ## dict(pairs) -/
noncomputable def prV (p : S × S) : V := .tup [.str p.1, .str p.2]
section
variable {C : Cx} {σ : St}
end
end Sx
end
section
open PySem PySem.W PyProof.Rows PySem.Calls PySem.SeqAt PySem.Builtin PySem.Builtin.Str
set_option linter.unusedVariables false
set_option Elab.async false
set_option maxRecDepth 100000
namespace Sx
theorem repl_self (y x : S) : repl y y x = x := by
  have := replace_S x y y
  rw [Txt.replace_self] at this
  exact (mkS_inj this).symm

theorem gives_repl_self (x y : PySem.Str) (t u v : Tok) (h0 : (u == 0 || v == 0) = false) (hl : tooLong (x.length + (occurrences x y 0 x.length (x.length + 1)).length * y.length) = false) :
    GivesAt (fun s => NoneBooked s.heap) («str.replace» ⟨[.str x t, .str y u, .str y v], []⟩) (.either (.val (.str x t)) (.str x)) := by
  show GivesAt _ (if ((occurrences x y 0 x.length (x.length + 1)).isEmpty || (y.length == 0 && y.length == 0)) = true then (do rule "str.replace.nothing"; ret (.str x t)) else
          (do let same ← isSame (.str y u) (.str y v)
              if same = true then (do rule "str.replace.old-is-new"; ret (.str x t)) else
              if tooLong (x.length + (occurrences x y 0 x.length (x.length + 1)).length * y.length) = true then unsupported "str.replace:memory" else
              retStr (glued y (partsBetween x (occurrences x y 0 x.length (x.length + 1)) y.length)))) _
  intro prog w A R s hb hq
  split
  · exact wpAny_bind (wpAny_rule (wpAny_pure hq.1))
  · refine wpAny_bind (wpAny_isSame_str h0 hb fun b => ?_)
    cases b
    · rw [hl, StrLaws.glued_between_self]
      exact wpAny_bind (wpAny_mkStr (wpAny_pure hq.2.2) hq.2.1)
    · exact wpAny_bind (wpAny_rule (wpAny_pure hq.1))

section
variable {C : Cx} {σ : St}
theorem opL_replaceG (hb : NoneBooked C.W.h₀) {x y z : S} {K : V → Prop} (hl : x.length + (x.length + 1) * z.length ≤ sizeLine) (h : K (.str (repl y z x))) :
    OpL C (Rep C.W) (fun ws => call (.builtin "str.replace") ws) [.str x, .str y, .str z] K := by
  by_cases hyz : y = z
  · subst hyz
    rw [repl_self] at h
    intro own T s vs hO hr
    obtain ⟨_, _, rfl, r1, hr⟩ := hr.cons_inv
    obtain ⟨_, _, rfl, r2, hr⟩ := hr.cons_inv
    obtain ⟨_, _, rfl, r3, hr⟩ := hr.cons_inv
    obtain rfl := hr.nil_inv; obtain ⟨t, rfl, ht⟩ := r1.str_inv; obtain ⟨u, rfl, hu⟩ := r2.str_inv; obtain ⟨v, rfl, hv⟩ := r3.str_inv
    have hu0 := (hO.tok.lt u y hu).1
    have hv0 := (hO.tok.lt v y hv).1
    have hnb : NoneBooked s.heap := let ⟨mc, h1, h2⟩ := hb; ⟨mc, h1.keeps hO.kb, h2⟩
    have hlt : tooLong ((mkS x).length + (occurrences (mkS x) (mkS y) 0 (mkS x).length ((mkS x).length + 1)).length * (mkS y).length) = false := by
      have h1 := StrLaws.occ_length_le (mkS x) (mkS y) 0 (mkS x).length ((mkS x).length + 1)
      have h2 : (Builtin.Str.occurrences (mkS x) (mkS y) 0 (mkS x).length ((mkS x).length + 1)).length * y.length ≤ ((mkS x).length + 1) * y.length := Nat.mul_le_mul_right _ h1
      rw [mkS_length] at h2
      unfold Builtin.Str.tooLong
      rw [mkS_length, mkS_length]
      exact decide_eq_false (by omega)
    refine call_givesAt PySem.F.slot_str_replace (typeIs_str _ _ _) PySem.F.entry_str_replace (PySem.F.args_str_replace_3 _ _ _) (gives_repl_self (mkS x) (mkS y) t u v (by rw [Bool.or_eq_false_iff]; exact ⟨beq_eq_false_iff_ne.mpr (Nat.ne_of_gt hu0), beq_eq_false_iff_ne.mpr (Nat.ne_of_gt hv0)⟩) hlt) hnb ?_
    exact ⟨.same hO.tok h (.str ht), by show (mkS x).length ≤ sizeLine; rw [mkS_length]; omega, .strNew hO.tok h⟩
  · exact opL_replace (.inl hyz) hl h

/-- key by key, whatever they are -/
noncomputable def RepOkG : List (S × S) → S → Prop
  | [], _ => True
  | (y, z) :: r, x => x.length + (x.length + 1) * z.length ≤ sizeLine ∧ RepOkG r (repl y z x)
theorem op_notIn_strsG {n : Nat} (ok : C.Ok n) {x : S} {ls : List S} {K : V → Prop} (hK : K (.bool (!decide (x ∈ ls)))) : Op2 C (Rep C.W) (compareOp .NotIn) (.str x) (.lst (ls.map V.str)) K := fun own T s va vb hO ra rb => by
  obtain ⟨t, rfl, ht⟩ := ra.str_inv
  obtain ⟨y, oy, wy, ny, rfl, k1, k2, k3, k4, q⟩ := rb.lst_inv
  obtain ⟨l, hl, hm, hs⟩ := strs_of ls _ q
  let e : Value → Bool := fun v => match v with | .str z _ => decide (z = mkS x) | _ => false
  refine notIn_listAt (items := wy.toArray) e ⟨oy, view_of k1, k2, ny, k4⟩ (fun v hv => ?_) ?_
  · have hv : v ∈ wy := by simpa using hv
    rw [hl] at hv
    obtain ⟨p, hp, rfl⟩ : ∃ p ∈ l, v = .str p.1 p.2 := by
      simp only [strValues, List.mem_map] at hv
      obtain ⟨p, hp, e⟩ := hv
      exact ⟨p, hp, e.symm⟩
    exact fun prog w E Q hq => wpAny_eqBool_str (by
      have : (p.1.cps.toList == (mkS x).cps.toList) = e (.str p.1 p.2) := by
        show _ = decide (p.1 = mkS x)
        obtain ⟨z, hz, _⟩ := hs p hp
        rw [hz]
        by_cases q : z = x
        · subst q; simp
        · have : mkS z ≠ mkS x := fun h => q (mkS_inj h)
          simp [q, this]
      first
        | exact this ▸ hq
        | simpa [this] using hq
        | skip)
  · have : wy.toArray.any e = decide (x ∈ ls) := by
      rw [List.any_toArray, hl]
      by_cases hx : x ∈ ls
      · rw [decide_eq_true hx, List.any_eq_true]
        have : mkS x ∈ l.map (·.1) := by rw [hm]; exact List.mem_map_of_mem hx
        obtain ⟨p, hp, e1⟩ := List.mem_map.mp this
        refine ⟨.str p.1 p.2, ?_, ?_⟩
        · simp only [strValues, List.mem_map]
          exact ⟨p, hp, rfl⟩
        · show decide (p.1 = mkS x) = true
          simp [e1]
      · rw [decide_eq_false hx, List.any_eq_false]
        intro v hv
        simp only [strValues, List.mem_map] at hv
        obtain ⟨p, hp, rfl⟩ := hv
        show ¬ decide (p.1 = mkS x) = true
        intro q
        have q : p.1 = mkS x := of_decide_eq_true q
        have : mkS x ∈ l.map (·.1) := q ▸ List.mem_map_of_mem hp
        rw [hm] at this
        obtain ⟨z, hz, e⟩ := List.mem_map.mp this
        exact hx (mkS_inj e ▸ hz)
    rw [this]
    exact .same hO.tok hK (.bool _)

theorem RepL.strs {W : Wd} {g g' : PH} (hg : ∀ t l, g.tk t = some l → g'.tk t = some l) : ∀ (ls : List S) (ws : List Value), RepL W g (ls.map V.str) ws → RepL W g' (ls.map V.str) ws
  | [], ws, h => by obtain rfl := h.nil_inv; exact .nil
  | l :: ls, ws, h => by
    obtain ⟨_, _, rfl, h1, h2⟩ := h.cons_inv
    obtain ⟨t, rfl, ht⟩ := h1.str_inv
    exact .cons (.str (hg t l ht)) (RepL.strs hg ls _ h2)

end
end Sx
end
section
open PySem PySem.W PyProof.Rows PySem.Calls PySem.SeqAt
set_option linter.unusedVariables false
set_option Elab.async false
set_option maxRecDepth 100000
namespace Sx

/-! ## a list of lists whose last one is still being made: it goes under the name "#" -/
noncomputable def delA (σ : St) : St := σ.filter fun p => decide (Str.ofString p.1 ≠ anonS)
theorem find_delA : ∀ (σ : St) (x : Str), find (delA σ) x = if x = anonS then none else find σ x
  | [], x => by simp [delA, find]
  | (n, sl) :: σ, x => by
    have ih := find_delA σ x
    unfold delA at ih ⊢
    rw [List.filter_cons]
    by_cases h : Str.ofString n = anonS
    · rw [if_neg (by simpa using h), ih]
      by_cases hx : x = anonS
      · rw [if_pos hx, if_pos hx]
      · rw [if_neg hx, if_neg hx]
        show _ = if Str.ofString n = x then some sl else find σ x
        rw [if_neg (fun e => hx (e.symm.trans h))]
    · rw [if_pos (by simpa using h)]
      show (if Str.ofString n = x then some sl else find (σ.filter fun p => decide (Str.ofString p.1 ≠ anonS)) x) = if x = anonS then none else if Str.ofString n = x then some sl else find σ x
      by_cases hn : Str.ofString n = x
      · rw [if_pos hn, if_pos hn, if_neg (fun e => h (hn.trans e))]
      · rw [if_neg hn, if_neg hn, ih]
theorem RepL.last_inv {W : Wd} {g : PH} : ∀ {vs : List V} {x : V} {us : List Value}, RepL W g (vs ++ [x]) us → ∃ us1 u, us = us1 ++ [u] ∧ RepL W g vs us1 ∧ Rep W g x u
  | [], x, us, h => by
    obtain ⟨u, _, rfl, h1, h2⟩ := RepL.cons_inv h
    obtain rfl := h2.nil_inv
    exact ⟨[], u, rfl, .nil, h1⟩
  | v :: vs, x, us, h => by
    obtain ⟨w, r, rfl, h1, h2⟩ := RepL.cons_inv h
    obtain ⟨us1, u, rfl, h3, h4⟩ := RepL.last_inv h2
    exact ⟨w :: us1, u, rfl, .cons h1 h3, h4⟩
section
variable {C : Cx} {σ : St}
theorem EvF.anon {t : Sem Value} {Q : V → St → Prop} (h : EvF C σ t (fun sl σ1 => ∀ a, sl.adr = some a → Q (.val (.ref a)) (put σ1 anonS "#" sl))) : EvT C σ t Q := by
  refine Tr.intro' fun F mine T s QQ fin hA => ?_
  refine wpAny_mono (h F mine T s hA) ?_ fun _ _ x => x
  rintro v s1 ⟨sl, σ1, m1, a, T1, q, ho, p1, hn, a1, r⟩
  have hv : v = .ref a := r.ref ho
  subst hv
  obtain ⟨m, cm, f, h1, h2, h3⟩ := a1.frm
  refine fin _ _ (.val (.ref a)) _ (a :: m1) T1 (q a ho) p1 ⟨a1.base, a1.live, a1.nin, a1.tok, m, cm, ?_⟩ (.val _)
  refine { ns := f.ns, cells := f.cells, apart := f.apart, lc := f.lc, has := f.has, lm := f.lm, cown := f.cown, cmine := f.cmine, slots := ?_, own := ?_, dis := ?_ }
  · intro y sl' hy
    rw [find_put] at hy
    by_cases e : anonS = y
    · rw [if_pos e] at hy
      cases hy
      exact ⟨.ref a, .inr ⟨e.symm, by unfold Slot.owned; rw [ho]; rfl, a, trivial, rfl⟩, r⟩
    · rw [if_neg e] at hy
      exact f.slots y sl' hy
  · intro y sl' b hy hb
    rw [find_put] at hy
    by_cases e : anonS = y
    · rw [if_pos e] at hy
      cases hy
      rw [ho] at hb
      cases hb
      exact ⟨List.mem_cons_self, h1, h2⟩
    · rw [if_neg e] at hy
      exact f.own y sl' b hy hb
  · intro y z sl1 sl2 b hy hz k1 k2
    rw [find_put] at hy hz
    by_cases e : anonS = y
    · rw [if_pos e] at hy
      cases hy
      rw [ho] at k1
      cases k1
      by_cases e' : anonS = z
      · exact e.symm.trans e'
      · rw [if_neg e'] at hz
        exact absurd k2 (h3 z sl2 hz)
    · rw [if_neg e] at hy
      by_cases e' : anonS = z
      · rw [if_pos e'] at hz
        cases hz
        rw [ho] at k2
        cases k2
        exact absurd k1 (h3 y sl1 hy)
      · rw [if_neg e'] at hz
        exact f.dis y z sl1 sl2 b hy hz k1 k2

/-- the last one is done: it stands -/
theorem Tr.seal {α β : Type} {R : PH → β → α → Prop} {t : Sem α} {Q : β → St → Prop} {x : String} {A b : Addr} {vs ws : List V} (hf : find σ (Str.ofString x) = some (.list A (vs ++ [.val (.ref b)]))) (ha : find σ anonS = some (.list b ws)) (hxa : Str.ofString x ≠ anonS)
    (h : Tr C (put (delA σ) (Str.ofString x) x (.list A (vs ++ [.lst ws]))) R t Q) : Tr C σ R t Q := by
  refine Tr.intro' fun F mine T s QQ fin hA => ?_
  obtain ⟨m, cm, f⟩ := hA.frm
  obtain ⟨v, hv, hr⟩ := f.slots _ _ hf
  obtain ⟨vb, _, hrb⟩ := f.slots _ _ ha
  have e1 : v = .ref A := hr.ref rfl
  have e2 : vb = .ref b := hrb.ref rfl
  subst e1 e2
  have hAb : A ≠ b := fun e => by subst e; exact hxa (f.dis _ _ _ _ A hf ha rfl rfl)
  obtain ⟨o1, o2, o3⟩ := f.own _ _ _ ha rfl
  have sub : ∀ c ∈ mine.filter (· ≠ b), c ∈ mine := fun c hc => (List.mem_filter.mp hc).1
  have le : Le (view (F ++ mine) T s) (view (F ++ mine.filter (· ≠ b)) T s) := view_sub (app_sub sub)
  have hnF : b ∉ F ++ mine.filter (· ≠ b) := fun hm => by
    rcases List.mem_append.mp hm with hm | hm
    · exact hA.nin _ o1 hm
    · have := (List.mem_filter.mp hm).2; simp at this
  have hrep : Rep C.W (view (F ++ mine.filter (· ≠ b)) T s) (.lst ws) (.ref b) := hrb.freeze (sl := .list b ws) rfl (app_sub sub) hnF
  have hnew : SlotRep C.W (view (F ++ mine.filter (· ≠ b)) T s) s.heap (.list A (vs ++ [.lst ws])) (.ref A) := by
    obtain ⟨_, us, hus, hur⟩ := hr
    obtain ⟨us1, u, rfl, hu1, hu2⟩ := RepL.last_inv hur
    obtain rfl := hu2.val_inv
    exact ⟨rfl, _, hus, (hu1.mono le).append (.cons hrep .nil)⟩
  have hA' : Abs C F (mine.filter (· ≠ b)) T (put (delA σ) (Str.ofString x) x (.list A (vs ++ [.lst ws]))) s := by
    refine ⟨fun c o e => le.ob c o (hA.base c o e), fun c hc => hA.live c (app_sub sub c hc), fun c hc => hA.nin c (sub c hc), hA.tok, m, cm, ?_⟩
    have old : ∀ y sl', ¬ Str.ofString x = y → find (put (delA σ) (Str.ofString x) x (.list A (vs ++ [.lst ws]))) y = some sl' → y ≠ anonS ∧ find σ y = some sl' := by
      intro y sl' hxy hy
      rw [find_put, if_neg hxy, find_delA] at hy
      by_cases hya : y = anonS
      · rw [if_pos hya] at hy; cases hy
      · rw [if_neg hya] at hy; exact ⟨hya, hy⟩
    have here : ∀ sl', find (put (delA σ) (Str.ofString x) x (.list A (vs ++ [.lst ws]))) (Str.ofString x) = some sl' → sl' = .list A (vs ++ [.lst ws]) := by
      intro sl' hy
      rw [find_put, if_pos rfl] at hy
      cases hy; rfl
    refine { ns := f.ns, cells := f.cells, apart := f.apart, lc := f.lc, has := f.has, lm := ?_, cown := ?_, cmine := ?_, slots := ?_, own := ?_, dis := ?_ }
    · exact List.mem_filter.mpr ⟨f.lm, by simpa using Ne.symm o2⟩
    · intro y c hc
      rcases List.mem_append.mp (f.cown y c hc) with hm | hm
      · exact List.mem_append_left _ hm
      · exact List.mem_append_right _ (List.mem_filter.mpr ⟨hm, by simpa using o3 y c hc⟩)
    · intro hc y c hyc
      exact List.mem_filter.mpr ⟨f.cmine hc y c hyc, by simpa using o3 y c hyc⟩
    · intro y sl' hy
      by_cases hxy : Str.ofString x = y
      · subst hxy
        rw [here sl' hy]
        exact ⟨.ref A, .inl (hv.real hxa), hnew⟩
      · obtain ⟨_, hy⟩ := old y sl' hxy hy
        obtain ⟨v', hv', hr'⟩ := f.slots y sl' hy
        exact ⟨v', hv', hr'.mono le fun _ _ _ e => e⟩
    · intro y sl' c hy hb
      by_cases hxy : Str.ofString x = y
      · subst hxy
        rw [here sl' hy] at hb
        cases hb
        obtain ⟨q1, q2, q3⟩ := f.own _ _ _ hf rfl
        exact ⟨List.mem_filter.mpr ⟨q1, by simpa using hAb⟩, q2, q3⟩
      · obtain ⟨hya, hy⟩ := old y sl' hxy hy
        obtain ⟨q1, q2, q3⟩ := f.own y sl' c hy hb
        have hne : c ≠ b := fun e => hya (f.dis y _ sl' _ c hy ha hb (e ▸ rfl))
        exact ⟨List.mem_filter.mpr ⟨q1, by simpa using hne⟩, q2, q3⟩
    · intro y z sl1 sl2 c hy hz h1 h2
      by_cases hxy : Str.ofString x = y
      · by_cases hxz : Str.ofString x = z
        · exact hxy.symm.trans hxz
        · subst hxy
          rw [here sl1 hy] at h1
          obtain ⟨_, hz⟩ := old z sl2 hxz hz
          cases h1
          exact f.dis _ z _ sl2 A hf hz rfl h2
      · obtain ⟨_, hy⟩ := old y sl1 hxy hy
        by_cases hxz : Str.ofString x = z
        · subst hxz
          rw [here sl2 hz] at h2
          cases h2
          exact f.dis y _ sl1 _ A hy hf h1 rfl
        · obtain ⟨_, hz⟩ := old z sl2 hxz hz
          exact f.dis y z sl1 sl2 c hy hz h1 h2
  have hp : Post F mine T s (mine.filter (· ≠ b)) T s := ⟨⟨_, _, rfl⟩, view_sub (app_sub sub), fun _ _ => rfl⟩
  refine Tr.then h hA' fun v s1 c σ1 m1 T1 q p1 a1 r => ?_
  exact fin _ _ c σ1 m1 T1 q (hp.trans p1) a1 r
end
end Sx
end
section
open PySem PySem.W PyProof.Rows PySem.Calls PySem.SeqAt
set_option linter.unusedVariables false
set_option Elab.async false
set_option maxRecDepth 100000
namespace Sx
noncomputable def Flat : V → Prop
  | .str _ => True
  | .val _ => True
  | .int _ => True
  | .bool _ => True
  | _ => False
theorem Rep.flat {W : Wd} {g g' : PH} (ht : ∀ t l, g.tk t = some l → g'.tk t = some l) {u : V} {v : Value} (hf : Flat u) (h : Rep W g u v) : Rep W g' u v := by
  cases u with
  | str l => obtain ⟨t, rfl, hs⟩ := h.str_inv; exact .str (ht _ _ hs)
  | val w => obtain rfl := h.val_inv; exact .val _
  | int i => obtain ⟨t, rfl⟩ := h.int_inv; exact .int _ _
  | bool b => obtain rfl := h.bool_inv; exact .bool _
  | _ => exact hf.elim
section
variable {C : Cx} {σ : St}
/-- what looks at a thing of the frame's own; the answer holds nothing of it -/
theorem op2F {F m : List Addr} {T : TM} {s : Shared} (hA : Abs C F m T σ s) {x : Str} {sl : Slot} {a : Addr} (hf : find σ x = some sl) (ho : sl.adr = some a) {f : Value → Value → Sem Value} {b : V} {vb : Value} (rb : Rep C.W (view (F ++ m) T s) b vb) {K : V → Prop}
    (hop : Op2 C (Rep C.W) f sl.v b (fun v => Flat v ∧ K v)) {P : Value → Shared → Prop} (fin : ∀ r s2 v T2, K v → Kp T s T2 s2 → Rep C.W (view (F ++ m) T2 s2) v r → P r s2) : wpAny C.M C.A (f (.ref a) vb) P C.X s := by
  obtain ⟨m', cm, fr⟩ := hA.frm
  obtain ⟨v, hv, hr1⟩ := fr.slots _ _ hf
  have hva := hr1.ref ho
  subst hva
  have hsub : ∀ b ∈ (F ++ m).filter (fun b => decide (b ≠ a)), b ∈ F ++ m := fun b hb => (List.mem_filter.mp hb).1
  have hna : a ∉ (F ++ m).filter (fun b => decide (b ≠ a)) := fun hb => by have := (List.mem_filter.mp hb).2; simp at this
  have hO' : OwnOk C ((F ++ m).filter fun b => decide (b ≠ a)) T s := ⟨fun b o e => (view_sub hsub).ob b o (hA.base b o e), fun b hb => hA.live b (hsub b hb), hA.tok⟩
  refine PrimR.then (hop _ T s (.ref a) vb hO' (SlotRep.freeze ho hr1 hsub hna) (rb.mono (view_sub hsub))) fun r s2 c T2 hq k rr => ?_
  exact fin _ _ c T2 hq.2 k (Rep.flat (g := view ((F ++ m).filter fun b => decide (b ≠ a)) T2 s2) (g' := view (F ++ m) T2 s2) (fun t l e => e) hq.1 rr)

/-- x[i], x a list of the frame's own, the item flat -/
theorem ev_itemF {n : Nat} (ok : C.Ok n) {x : String} {xp pos : Pos} {i : Expr} {a : Addr} {vs : List V} {Q : V → St → Prop} (hf : find σ (Str.ofString x) = some (.list a vs))
    (h : Ev C σ i (fun v σ1 => ∃ vs1, find σ1 (Str.ofString x) = some (.list a vs1) ∧ Op2 C (Rep C.W) getItem (.lst vs1) v (fun r => Flat r ∧ Q r σ1)))
    (hxa : Str.ofString x ≠ anonS) (hn : (Str.ofString x == ("__classdict__" : Str)) = false) (hd : (Str.ofString x == ("__debug__" : Str)) = false) (hs : ∀ o j, subscripted i false o j = operate [o, j] (getItem o j)) :
    Ev C σ (.Subscript (.Name (Str.ofString x) xp) i pos) Q := by
  refine Tr.intro' fun F mine T s QQ fin hA => ?_
  rw [arm_eval_Subscript]
  refine wpAny_bind (wpAny_Name (tr_loadO ok hA hf rfl hxa hn fun hr => ?_) hd)
  refine wpAny_bind (wpAny_holding (Tr.then h hA fun vb s2 b σ2 m2 T2 hq_ p2 a2 r2 => ?_))
  obtain ⟨vs1, hf1, hop⟩ := hq_
  have hr2 : SlotRep C.W (view (F ++ m2) T2 s2) s2.heap (.list a vs1) (.ref a) := by
    obtain ⟨m', cm, fr⟩ := a2.frm
    obtain ⟨v, hv, hr1⟩ := fr.slots _ _ hf1
    have hva := hr1.ref (a := a) rfl
    subst hva
    exact hr1
  have hT := (hr2.typeIs rfl).1
  refine wpAny_bind (wpAny_standAt ?_)
  refine wpAny_bind ?_
  rw [getitemInPython_of_ne hT.not_modules]
  refine wpAny_bind (wpAny_specialOf hT PySem.F.slot_list_getitem.lookup (wpAny_pure ?_))
  rw [hs]
  refine wpAny_bind (wpAny_operating (op2F a2 hf1 rfl r2 hop fun vc s3 l T3 q k r3 => ?_))
  exact wpAny_bind (wpAny_letTemporaryGo (wpAny_pure (fin _ _ _ σ2 m2 T3 q (p2.trans (k.post a2.live)) (a2.keeps k) r3)))

/-- o.name(e) as a statement, o's value the list under "#" -/
theorem ex_methA {n : Nat} (ok : C.Ok n) {o e : Expr} {name : Str} {id : String} {apos pos epos : Pos} {P : Value → Prop} {Q : Fl → St → Prop}
    (pa : PlainAttrs "list") (slot : PySem.Slot "list" name id) (hty : typeOf (.builtin id) = pure (.type "method_descriptor"))
    (h : Ev C σ o (fun v σ1 => ∃ b ws, v = .val (.ref b) ∧ find σ1 anonS = some (.list b ws) ∧ Ev C σ1 e (fun w σ2 => ∃ ws2, find σ2 anonS = some (.list b ws2) ∧ OpM C (.list b ws2) [w] (fun l us => call (.builtin id) (l :: us)) P (fun sl2 => Q .next (put σ2 anonS "#" sl2)))))
    (hbase : attributeBase o name C.env (eval o C.env) = eval o C.env) (hline : (apos.endLine == pos.line) = true)
    (hs : starEach [e] C.env = (false, eval e C.env) :: starEach [] C.env) (hint : interactive C.env = false) (hsw : swapsWith (.Call (.Attribute o name apos) [e] [] pos) none epos.line C.env = pure false) :
    Ex C σ (.Expr (.Call (.Attribute o name apos) [e] [] pos) epos) Q := by
  intro F mine T s hA
  refine wpAny_Expr_any ?_ hint hsw
  rw [arm_eval_Call, hbase]
  refine wpAny_bind (Tr.then h hA fun vo s0 uo σ0 m0 T0 h0 p0 a0 r0 => ?_)
  obtain ⟨b, ws, rfl, hfb, h0⟩ := h0
  obtain rfl := r0.val_inv
  refine wpAny_bind (wpAny_standAt ?_)
  have hst : (starEach [e] C.env).all (fun x => !x.1) = true := by rw [hs]; rfl
  have hform : methodCallForm ([e].length + ([] : List Keyword).length) (backTo pos (starEach [e] C.env)) (backToKw pos (keywordEach [] C.env)) = true := by rw [hs]; rfl
  have hpos : methodCallPos true o C.env apos pos = pure pos := by unfold methodCallPos; simp [hline]
  have hr : SlotRep C.W (view (F ++ m0) T0 s0) s0.heap (.list b ws) (.ref b) := by
    obtain ⟨m', cm, fr⟩ := a0.frm
    obtain ⟨v, hv, hr1⟩ := fr.slots _ _ hfb
    have hva := hr1.ref (a := b) rfl
    subst hva
    exact hr1
  obtain ⟨hT, ob, hob, hod⟩ := hr.typeIs rfl
  unfold methodCall
  rw [hform]
  refine wpAny_bind (wpAny_holding (getMethod_builtin hT pa slot hty (fun x hx => by cases hx; exact ⟨ob, hob, hod⟩) ?_))
  refine wpAny_bind (wpAny_of_eq hpos ?_)
  refine callWith_builtin (any_backTo hst) (evalArgs_list hst ?_)
  rw [backTo_cons hs]
  refine spliced_cons (Tr.then h0 a0 fun w s1 v σ1 m1 T1 hq_ p1 a1 r1 => ?_)
  obtain ⟨ws2, hf1, hop⟩ := hq_
  refine wpAny_items_nil ?_
  refine OpM.abs (x := "#") hop a1 hf1 rfl (.cons r1 .nil) fun r s2 sl2 T2 hP hK ho2 p2 a2 => ?_
  exact ⟨.next, _, m1, T2, hK, (p0.trans p1).trans p2, a2, .next⟩

/-- o[i] op= e, o's value the list under "#", the item a text -/
theorem ex_augA {n : Nat} (ok : C.Ok n) {o i e : Expr} {tp pos : Pos} {op : Operator} {Q : Fl → St → Prop}
    (h : Ev C σ o (fun v σ0 => ∃ b, v = .val (.ref b) ∧ Ev C σ0 i (fun v σ1 => ∃ ws, find σ1 anonS = some (.list b ws) ∧ Op2 C (Rep C.W) getItem (.lst ws) v (fun r => ∃ l, r = .str l ∧ Ev C σ1 e (fun u σ2 => Op2 C (Rep C.W) (inplaceOp op) (.str l) u (fun c => ∃ ws2, find σ2 anonS = some (.list b ws2) ∧
      OpM C (.list b ws2) [v, c] (fun d ws => match ws with | [k, v] => setItem d k v | _ => pure ()) (fun _ => True) (fun sl3 => Q .next (put σ2 anonS "#" sl3))))))))
    (ha : ∀ ov iv new, augStore i ov iv new = (do holding [new, ov, iv] (setItem ov iv new); release [new, ov, iv] []; pure .next)) :
    Ex C σ (.AugAssign (.Subscript o i tp) op e pos) Q := by
  refine Tr.intro' fun F mine T s QQ fin hA => ?_
  refine wpAny_AugAssign_Subscript_any (Tr.then h hA fun vo s0 uo σ0 m0 T0 h0 p0 a0 r0 => ?_) ha
  obtain ⟨bb, rfl, h0⟩ := h0
  obtain rfl := r0.val_inv
  refine Tr.then h0 a0 fun vb s2 b σ2 m2 T2 hq_ p2 a2 r2 => ?_
  obtain ⟨vs1, hf1, hop⟩ := hq_
  refine op2F (K := fun r => ∃ l, r = .str l ∧ _) a2 hf1 rfl r2 (fun own T s va vb h1 h2 h3 => PrimR.mono (hop own T s va vb h1 h2 h3) fun r hr => ⟨by obtain ⟨l, rfl, _⟩ := hr; trivial, hr⟩) fun vc s3 r T3 q k r3 => ?_
  obtain ⟨l, rfl, q⟩ := q
  have a3 := a2.keeps k
  refine Tr.then q a3 fun vd s4 d σ4 m4 T4 hop2 p4 a4 r4 => ?_
  refine PrimR.then (hop2 _ T4 s4 vc vd a4.ownOk (r3.mono p4.le) r4) fun ve s5 c T5 hq2 k5 r5 => ?_
  obtain ⟨vs2, hf2, hop3⟩ := hq2
  have a5 := a4.keeps k5
  have p5 := k5.post a4.live
  refine OpM.abs (x := "#") hop3 a5 hf2 rfl (.cons (((r2.mono k.view).mono p4.le).mono p5.le) (.cons r5 .nil)) fun r s6 sl3 T6 hP hK ho3 p6 a6 => ?_
  exact fin _ _ .next _ m4 T6 hK (((((p0.trans p2).trans (k.post a2.live)).trans p4).trans p5).trans p6) a6 .next

theorem opM_listSetNeg {a : Addr} {vs : List V} {i : Int} {v : V} {K : Slot → Prop} (h0 : i < 0) (hi : -(vs.length : Int) ≤ i) (hl : vs.length ≤ sizeLine) (h : K (.list a (vs.set (i + vs.length).toNat v))) :
    OpM C (.list a vs) [.int i, v] (fun d ws => match ws with | [k, v] => setItem d k v | _ => pure ()) (fun _ => True) K := by
  intro own T s b ws hO hb ho hs hr
  cases ho
  obtain ⟨_, xs, ⟨n, hx⟩, hxr⟩ := hs
  obtain ⟨kw, _, rfl, hkw, hr⟩ := hr.cons_inv
  obtain ⟨w, _, rfl, hw, hr⟩ := hr.cons_inv
  obtain rfl := hr.nil_inv
  obtain ⟨_, rfl⟩ := hkw.int_inv
  rename_i t
  have hlen : xs.toArray.size = vs.length := by rw [List.size_toArray, hxr.length]
  have hsz : (vs.length : Int) < 2 ^ 63 := fits63 hl
  have hT : s.TypeIs (.ref a) "list" := ⟨_, hx, rfl⟩
  show wpAny C.M C.A (setItem (.ref a) (.int i t) w) _ _ s
  unfold setItem
  try with_reducible refine wpAny_holding ?_
  refine wpAny_bind (wpAny_sequenceKey hT (by decide) ?_)
  refine wpAny_bind (wpAny_callSpecial?_slot (name := Str.ofString "__setitem__") hT slot_list_setitem
    (wpAny_call_entry slot_list_setitem hT entry_list_setitem ?_ (args_list_setitem _ _ _)))
  show wpAny _ _ (Builtin.List.listSubscript? (.int i t) >>= _) _ _ s
  refine wpAny_bind (wpAny_listSubscript_int (by
    unfold Builtin.List.listFitsIndex
    simp only [Bool.and_eq_true, decide_eq_true_eq]
    omega) ?_)
  have hidx := seqIndex_neg (n := xs.toArray.size) h0 (by rw [hlen]; exact hi)
  obtain ⟨j, hj⟩ : ∃ j, (i + xs.toArray.size).toNat = j := ⟨_, rfl⟩
  rw [hj] at hidx
  rw [← hlen, hj] at h
  have hjl : j < xs.toArray.size := by omega
  obtain ⟨m, rfl⟩ : ∃ m : Nat, i = Int.negSucc m := by
    cases i with
    | ofNat n => exact absurd h0 (Int.not_lt.mpr (Int.natCast_nonneg n))
    | negSucc n => exact ⟨n, rfl⟩
  show wpAny _ _ ((Builtin.List.listItems (.ref a) >>= fun xs => pure ((seqIndex? (Int.negSucc m) xs.size).bind fun i => xs[i]?.map (i, ·))) >>= _) _ _ s
  refine wpAny_bind (wpAny_bind ?_)
  show wpAny _ _ (seqItems? (.ref a) >>= _) _ _ s
  refine wpAny_bind (wpAny_seqItems hx rfl (wpAny_pure (wpAny_pure ?_)))
  rw [hidx]
  have hx' : xs.toArray[j]? = some xs.toArray[j] := Array.getElem?_eq_getElem hjl
  simp only [Option.bind_some, hx', Option.map_some]
  show wpAny _ _ (setSeqItemAt a j w >>= _) _ _ s
  have fin : ∀ n', s.heap.update a (Obj.mapSeq (·.setIfInBounds j w)) = n' → (True ∧ ∃ sl' T', K sl' ∧ sl'.adr = some a ∧ KpB a T s T' { s with heap := n' } ∧ SlotRep C.W (view own T' { s with heap := n' }) n' sl' (.ref a)) := by
    rintro n' rfl
    have e2 : (s.heap.update a (Obj.mapSeq (·.setIfInBounds j w))).get? a = some (Obj.mapSeq (·.setIfInBounds j w) { cls := .type "list", data := .seq xs.toArray n }) := by
      obtain ⟨n', hd⟩ := Obj.data_mapSeq (o := { cls := .type "list", data := .seq xs.toArray n }) rfl (·.setIfInBounds j w)
      exact Heap.get?_update_self _ hx (Obj.isFreed_of_seq hd)
    have k2 : ∀ b o, b ≠ a → s.heap.get? b = some o → (s.heap.update a (Obj.mapSeq (·.setIfInBounds j w))).get? b = some o := fun b o hb e => (Heap.get?_update_other _ _ (Ne.symm hb)).trans e
    have k : KpB a T s T { s with heap := s.heap.update a (Obj.mapSeq (·.setIfInBounds j w)) } := ⟨⟨_, s.toks, rfl⟩, k2, by show ((s.heap.update a _).get? a).isSome = true; rw [e2]; rfl, fun _ _ e => e, hO.tok⟩
    refine ⟨trivial, _, T, h, rfl, k, rfl, xs.set j w, ?_, ?_⟩
    · refine ⟨n, e2.trans ?_⟩
      simp [Obj.mapSeq]
    · exact (hxr.set hw j).mono (k.view hb)
  refine wpAny_bind (wpAny_setSeqItemAt hx rfl ?_)
  first
    | exact wpAny_bind (wpAny_pure (wpAny_pure ⟨.none, rfl, wpAny_pure (fin _ rfl)⟩))
    | exact wpAny_pure ⟨.none, rfl, wpAny_pure (fin _ rfl)⟩
end
end Sx
end
section
open PySem PySem.W PyProof.Rows PySem.Calls PySem.SeqAt PySem.Builtin PySem.Builtin.Str
set_option linter.unusedVariables false
set_option Elab.async false
set_option maxRecDepth 100000
namespace Sx
theorem isTy_tup {W : Wd} {vs : List V} : IsTy W (.tup vs) "tuple" := fun g s va r k => by
  obtain ⟨a, o, ws, n, rfl, h1, h2, _⟩ := r.tup_inv
  exact ⟨o, k _ _ h1, h2⟩
theorem eqAt_strs {A : Around} {s : Shared} {x y : S} {t u : Tok} : EqAt A s (.str (mkS x) t) (.str (mkS y) u) (decide (x = y)) := fun prog w E Q hq => by
  refine wpAny_eqBool_str ?_
  have e : decide (mkS x = mkS y) = decide (x = y) := by
    by_cases q : x = y
    · subst q; simp
    · rw [decide_eq_false q, decide_eq_false fun h => q (mkS_inj h)]
  rw [e]; exact hq
theorem pr_all (a b : Bool) : ((List.range (min 2 2)).all (fun j => if j = 0 then a else b) && (2 == 2)) = (a && b) := by cases a <;> cases b <;> rfl
section
variable {C : Cx} {σ : St}
open Classical in
theorem op_eq_nil {n : Nat} (ok : C.Ok n) {vs : List V} {K : V → Prop} (h : K (.bool vs.isEmpty)) : Op2 C (Rep C.W) (compareOp .Eq) (.lst vs) (.lst []) K := by
  cases vs with
  | nil => exact op_eq_alike ok (n := 0) (by omega) (.nil _) h
  | cons v vs =>
    intro own T s va vb hO ra rb
    obtain ⟨x, ox, wx, nx, rfl, h1, h2, h3, h4, r⟩ := ra.lst_inv
    obtain ⟨y, oy, wy, ny, rfl, k1, k2, k3, k4, q⟩ := rb.lst_inv
    have hu := ok.hu
    have hc := cLine_ge
    obtain rfl := q.nil_inv
    have hs : (wx.toArray.size != ([] : List Value).toArray.size) = true := by
      rw [List.size_toArray, r.length]; rfl
    exact eq_list_lengthsAt ⟨ox, view_of h1, h2, nx, h4⟩ ⟨oy, view_of k1, k2, ny, k4⟩ hs (by omega) (.same hO.tok h (.bool _))
theorem op_pow_int {a : Int} {n : Nat} (hn : n ≤ 1000) (ha : a.natAbs < 2 ^ 64) {K : V → Prop} (h : K (.int (a ^ n))) : Op2 C (Rep C.W) (binaryOp .Pow) (.int a) (.int n) K := fun own T s va vb hO ra rb => by
  obtain ⟨_, rfl⟩ := ra.int_inv; obtain ⟨_, rfl⟩ := rb.int_inv
  exact PyProof.Rows.pow_int_small (by omega) (by omega) ha (.int hO.tok h (Nat.le_succ _))
theorem opL_strInt {i : Int} {K : V → Prop} (hi : i.natAbs < 2 ^ 64) (h : K (.str (lit (toString i)))) : OpL C (Rep C.W) (fun ws => call (.type "str") ws) [.int i] K := fun own T s ws hO hr => by
  obtain ⟨_, _, rfl, r1, hr⟩ := hr.cons_inv
  obtain rfl := hr.nil_inv
  obtain ⟨t, rfl⟩ := r1.int_inv
  refine PySem.P.str_of_int (Nat.lt_of_lt_of_le (log2_le hi (by decide)) (by decide)) ?_
  show Out own T s (Rep C.W) K (.str (Str.ofString (toString i)) s.toks) _
  rw [ofString_lit]
  exact .strNew hO.tok h
theorem item_tup {vs : List V} {i : Nat} {v : V} {K : V → Prop} (hl : vs.length ≤ sizeLine) (hc : vs[i]? = some v) (h : K v) :
    Op2 C (Rep C.W) getItem (.tup vs) (.int i) K ∧ ∃ T id, typeLookup (.type T) "__getitem__" = pure (some (.builtin id)) ∧ IsTy C.W (.tup vs) T := by
  refine ⟨fun own T s va vb hO ra rb => ?_, _, _, PySem.F.slot_tuple_getitem.lookup, isTy_tup⟩
  obtain ⟨_, rfl⟩ := rb.int_inv
  obtain ⟨x, ox, wx, nx, rfl, h1, h2, h3, r⟩ := ra.tup_inv
  obtain ⟨w, hw, hr⟩ := r.get hc
  have hi : i < vs.length := (List.getElem?_eq_some_iff.mp hc).1
  have hsz := fits63 hl
  refine PyProof.Rows.getItem_tuple (items := wx.toArray) ⟨ox, view_of h1, h2, nx, h3⟩ (by omega) (by omega) (StrLaws.seqIndex_nonneg (by omega) (by rw [List.size_toArray, r.length]; omega)) (by simpa using hw) (.same hO.tok h hr)
theorem opF_mul_list {v : V} {n : Nat} {K : Slot → Prop} (hn : n ≤ 1000) (h : ∀ a, K (.list a (List.replicate n v))) : Op2F C (binaryOp .Mult) (.lst [v]) (.int n) K := fun own T s va vb hO ra rb => by
  obtain ⟨u, rfl⟩ := rb.int_inv
  obtain ⟨x, ox, wx, nx, rfl, h1, h2, h3, h4, r⟩ := ra.lst_inv
  obtain ⟨w, _, rfl, r1, r⟩ := r.cons_inv
  obtain rfl := r.nil_inv
  obtain ⟨cls, dd, data, sl⟩ := ox
  simp only at h2 h4
  subst h2 h4
  have hl := view_of h1
  have hsz : sizeLine = 16777216 := sizeLine_eq
  have hz : [w].toArray.size * (n : Int).toNat = n := by rw [List.size_toArray, List.length_singleton, Int.toNat_natCast, Nat.one_mul]
  have hc0 : ¬(!Builtin.List.listFitsIndex (n : Int)) = true := by simp [Builtin.List.listFitsIndex]; omega
  have hc1 : ¬[w].toArray.size * (n : Int).toNat > (2 ^ 63 - 1) / 8 := by rw [hz]; omega
  have hc2 : ¬Builtin.List.listTooLong ([w].toArray.size * (n : Int).toNat) = true := by rw [hz]; simp [Builtin.List.listTooLong]; omega
  obtain ⟨z, hzz⟩ : ∃ z : Int, z = (n : Int) := ⟨_, rfl⟩
  have hm := lm_list_mul_any x [w].toArray nx dd sl z u (hzz ▸ hc0) (hzz ▸ hc1) (hzz ▸ hc2)
  rw [← hzz]
  refine wpAny_binaryOp_repeat_ref (T := "list") (U := "int") (by decide) ⟨_, hl, rfl⟩ (fun s' => typeIs_int s' z u) noFill_list_mul PySem.F.fills_int_mul PySem.F.slot_int_rmul repeat_list PySem.F.slot_int_index.lookup
    (call_meets PySem.F.slot_int_rmul (typeIs_int s z u) PySem.F.entry_int_rmul (PySem.F.args_int_rmul_2 _ _) (lm_int_rmul_list_any z u x [w].toArray nx dd sl)
      ⟨hl, rfl, ⟨_, hl, rfl⟩, call_meets PySem.F.slot_list_mul ⟨_, hl, rfl⟩ PySem.F.entry_list_mul (PySem.F.args_list_mul_2 _ _)
        hm ⟨hl, ?_⟩⟩)
  subst hzz
  have e : (List.foldl (fun x1 x2 => x1 ++ x2) #[] (List.replicate (if ([w].toArray).isEmpty = true then 0 else (n : Int).toNat) [w].toArray)) = (List.replicate n w).toArray := by
    rw [show (if ([w].toArray).isEmpty = true then 0 else (n : Int).toNat) = n from by simp]
    have : ∀ (n : Nat) (acc : Array Value), List.foldl (fun x1 x2 => x1 ++ x2) acc (List.replicate n [w].toArray) = acc ++ (List.replicate n w).toArray := by
      intro n
      induction n with
      | zero => intro acc; simp
      | succ n ih => intro acc; rw [List.replicate_succ, List.foldl_cons, ih]; apply Array.toList_inj.mp; simp [List.replicate_succ]
    rw [this]; simp
  rw [e]
  have k0 : Kp T s T { s with heap := s.heap.push { cls := .type "list", data := .seq (List.replicate n w).toArray }, toks := s.toks } := .push hO.tok (Nat.le_refl _)
  have hf := fresh_size s.heap
  refine ⟨.list s.heap.objs.size (List.replicate n v), T, _, h _, rfl, k0, hf, by rw [Heap.get?_push_size _ rfl]; rfl, rfl, List.replicate n w, ⟨0, by rw [Heap.get?_push_size _ rfl]⟩, ?_⟩
  have hrr : ∀ n, RepL C.W (view own T s) (List.replicate n v) (List.replicate n w) := fun n => by
    induction n with
    | zero => exact .nil
    | succ n ih => exact .cons r1 ih
  refine (hrr n).mono ⟨fun b o e => view_mk (fun hm => ?_) (k0.keep b o (view_of e)), fun _ _ e => e⟩
  rcases List.mem_cons.mp hm with rfl | hm
  · rw [view_of e] at hf; cases hf
  · exact view_not e hm
/-- x.partition(d), d one sign that is there -/
theorem occ_one {d : Nat} {a b : S} (ha : d ∉ a) : ∃ r, occurrences (mkS (a ++ d :: b)) (mkS [d]) 0 (mkS (a ++ d :: b)).length 1 = a.length :: r := by
  have hat : ∀ i, StrLaws.At (mkS (a ++ d :: b)) (mkS [d]) (mkS (a ++ d :: b)).length i ↔ (a ++ d :: b)[i]? = some d := by
    intro i
    unfold StrLaws.At
    rw [StrLaws.subAt_eq, beq_iff_eq, mkS_length, mkS_length]
    show i + 1 ≤ _ ∧ ((a ++ d :: b).drop i).take 1 = [d] ↔ _
    constructor
    · rintro ⟨h1, h2⟩
      have := congrArg List.head? h2
      rw [List.head?_take, List.head?_drop] at this
      simpa using this
    · intro h
      have hi := (List.getElem?_eq_some_iff.mp h).1
      refine ⟨by omega, ?_⟩
      rw [List.drop_eq_getElem_cons hi]
      obtain ⟨_, h⟩ := List.getElem?_eq_some_iff.mp h
      rw [h]; rfl
  rcases StrLaws.occ_head (mkS (a ++ d :: b)) (mkS [d]) 1 (Nat.le_refl 1) with ⟨_, hn⟩ | ⟨i, r, h0, hi, hn⟩
  · exact absurd ((hat a.length).mpr (by simp)) (hn a.length)
  · refine ⟨r, ?_⟩
    rw [h0]
    congr 1
    rw [hat] at hi
    rcases Nat.lt_trichotomy i a.length with h | h | h
    · rw [List.getElem?_append_left h] at hi
      exact absurd (List.mem_of_getElem? hi) ha
    · exact h
    · exact absurd ((hat a.length).mpr (by simp)) (hn a.length h)
theorem strSub_S (x : S) (i j : Nat) : strSub (mkS x) i j = mkS ((x.drop i).take (j - i)) := strSub_mk (mkS x) i j
theorem opL_partition {d : Nat} {a b : S} (ha : d ∉ a) (hl : (a ++ d :: b).length ≤ sizeLine) {K : V → Prop} (h : K (.tup [.str a, .str [d], .str b])) : OpL C (Rep C.W) (fun ws => call (.builtin "str.partition") ws) [.str (a ++ d :: b), .str [d]] K := fun own T s ws hO hr => by
  obtain ⟨_, _, rfl, r1, hr⟩ := hr.cons_inv
  obtain ⟨_, _, rfl, r2, hr⟩ := hr.cons_inv
  obtain rfl := hr.nil_inv
  obtain ⟨t, rfl, ht⟩ := r1.str_inv
  obtain ⟨u, rfl, hu⟩ := r2.str_inv
  refine call_meets PySem.F.slot_str_partition (typeIs_str _ _ _) PySem.F.entry_str_partition (PySem.F.args_str_partition_2 _ _) (meets_str_partition (mkS (a ++ d :: b)) (mkS [d]) t u rfl (by rw [mkS_length]; exact hl)) ?_
  obtain ⟨r, e⟩ := occ_one (b := b) ha
  have e1 : strSub (mkS (a ++ d :: b)) 0 a.length = mkS a := by rw [strSub_S]; simp
  have e2 : strSub (mkS (a ++ d :: b)) (a.length + (mkS [d]).length) (mkS (a ++ d :: b)).length = mkS b := by
    rw [strSub_S, mkS_length, mkS_length]
    congr 1
    have : (a ++ d :: b).drop (a.length + [d].length) = b := by
      rw [show a ++ d :: b = a ++ [d] ++ b by simp, List.drop_left' (by simp)]
    rw [this]
    exact List.take_of_length_le (by simp; omega)
  rw [e]
  show Out own T s (Rep C.W) K _ _
  simp only [e1, e2]
  have k1 : Kp T s (T.upd s.toks a) { s with toks := s.toks + 1 } := .str (h' := s.heap) hO.tok fun _ _ e => e
  have k2 : Kp (T.upd s.toks a) { s with toks := s.toks + 1 } ((T.upd s.toks a).upd (s.toks + 1) b) { s with toks := s.toks + 1 + 1 } := .str (s := { s with toks := s.toks + 1 }) (h' := s.heap) k1.tok fun _ _ e => e
  have k3 : Kp ((T.upd s.toks a).upd (s.toks + 1) b) { s with toks := s.toks + 1 + 1 } ((T.upd s.toks a).upd (s.toks + 1) b) { s with toks := s.toks + 1 + 1, heap := s.heap.push { cls := .type "tuple", data := .seq [.str (mkS a) s.toks, .str (mkS [d]) u, .str (mkS b) (s.toks + 1)].toArray } } := .push k2.tok (Nat.le_refl _)
  have hn := fresh_size s.heap
  refine ⟨_, _, h, (k1.trans k2).trans k3, .tup (view_mk (hO.fresh hn) (Heap.get?_push_size _ rfl)) rfl rfl (.cons (.str ?_) (.cons (.str ?_) (.cons (.str ?_) .nil)))⟩
  · exact k2.tle _ _ TM.upd_self
  · exact k2.tle _ _ (k1.tle _ _ hu)
  · exact TM.upd_self
end
end Sx
end
section
open PySem PySem.W PyProof.Rows PySem.Calls PySem.SeqAt PySem.Builtin PySem.Builtin.Str
set_option linter.unusedVariables false
set_option Elab.async false
set_option maxRecDepth 100000
namespace Sx
noncomputable def TM.upds (T : TM) : Nat → List S → TM
  | _, [] => T
  | n, l :: ls => TM.upds (T.upd n l) (n + 1) ls
theorem Kp.strs : ∀ (ls : List S) {T : TM} {s : Shared}, TOk T s.toks → Kp T s (T.upds s.toks ls) { s with toks := s.toks + ls.length }
  | [], T, s, h => .refl h
  | l :: ls, T, s, h => by
    have k1 : Kp T s (T.upd s.toks l) { s with toks := s.toks + 1 } := .str (h' := s.heap) h fun _ _ e => e
    have k2 := Kp.strs ls (s := { s with toks := s.toks + 1 }) k1.tok
    have e : s.toks + (l :: ls).length = s.toks + 1 + ls.length := by rw [List.length_cons]; omega
    rw [e]
    exact k1.trans k2
theorem rep_numbered {W : Wd} {g : PH} : ∀ (ls : List S) {T : TM} {n : Nat}, TOk T n → TLe (T.upds n ls) g.tk → RepL W g (ls.map V.str) (strValues (numbered n (ls.map mkS)))
  | [], _, _, _, _ => .nil
  | l :: ls, T, n, h, hg => by
    refine .cons (.str ?_) (rep_numbered ls (T := T.upd n l) (h.upd l) hg)
    have k : TLe (T.upd n l) (TM.upds (T.upd n l) (n + 1) ls) := by
      have go : ∀ (ls : List S) {T : TM} {n : Nat}, TOk T n → TLe T (T.upds n ls) := by
        intro ls
        induction ls with
        | nil => exact fun _ _ _ e => e
        | cons l ls ih => exact fun h t x e => ih (h.upd l) t x (h.updLe l t x e)
      exact go ls (h.upd l)
    exact hg _ _ (k _ _ TM.upd_self)
theorem first_split {d : Nat} : ∀ {a c x y : S}, d ∉ a → d ∉ c → a ++ d :: x = c ++ d :: y → a = c ∧ x = y
  | [], [], x, y, _, _, e => by injection e with _ e; exact ⟨rfl, e⟩
  | [], c :: r, x, y, _, h, e => by injection e with e _; exact absurd (e ▸ List.mem_cons_self) h
  | a :: r, [], x, y, h, _, e => by injection e with e _; exact absurd (e ▸ List.mem_cons_self) h
  | a :: r, c :: t, x, y, h1, h2, e => by
    injection e with e1 e2
    obtain ⟨h3, h4⟩ := first_split (fun q => h1 (List.mem_cons_of_mem _ q)) (fun q => h2 (List.mem_cons_of_mem _ q)) e2
    exact ⟨by rw [e1, h3], h4⟩
theorem join_unique {d : Nat} : ∀ (ps qs : List S), ps ≠ [] → qs ≠ [] → (∀ p ∈ ps, d ∉ p) → (∀ p ∈ qs, d ∉ p) → joinS [d] ps = joinS [d] qs → ps = qs
  | [], _, h, _, _, _, _ => absurd rfl h
  | _, [], _, h, _, _, _ => absurd rfl h
  | [a], [b], _, _, _, _, e => by rw [show a = b from e]
  | [a], b :: c :: r, _, _, h1, _, e => by
    have e : a = b ++ [d] ++ joinS [d] (c :: r) := e
    exact absurd (by rw [e]; simp) (h1 a List.mem_cons_self)
  | b :: c :: r, [a], _, _, _, h1, e => by
    have e : b ++ [d] ++ joinS [d] (c :: r) = a := e
    exact absurd (by rw [← e]; simp) (h1 a List.mem_cons_self)
  | a :: b :: r, c :: x :: t, _, _, h1, h2, e => by
    have e : a ++ [d] ++ joinS [d] (b :: r) = c ++ [d] ++ joinS [d] (x :: t) := e
    rw [List.append_assoc, List.append_assoc] at e
    obtain ⟨e1, e2⟩ := first_split (h1 a List.mem_cons_self) (h2 c List.mem_cons_self) e
    rw [e1, join_unique (b :: r) (x :: t) (by simp) (by simp) (fun p hp => h1 p (List.mem_cons_of_mem _ hp)) (fun p hp => h2 p (List.mem_cons_of_mem _ hp)) e2]
theorem split_S {d : Nat} {ps : List S} (h : ∀ p ∈ ps, d ∉ p) (hn : joinS [d] ps ≠ []) : Txt.split (mkS (joinS [d] ps)) (mkS [d]) = ps.map mkS := by
  have e1 := StrLaws.join_split (mkS (joinS [d] ps)) (mkS [d])
  have e2 := StrLaws.split_free (mkS (joinS [d] ps)) d
  obtain ⟨Q, hQ⟩ : ∃ Q, Txt.split (mkS (joinS [d] ps)) (mkS [d]) = Q := ⟨_, rfl⟩
  have e2 : ∀ p ∈ Q, d ∉ p.cps.toList := fun p hp => e2 p (by rw [← hQ] at hp; exact hp)
  rw [hQ] at e1 ⊢
  have hqs : (Q.map fun q => q.cps.toList).map mkS = Q := by
    rw [List.map_map]
    exact (List.map_congr_left fun q _ => mkS_toList q).trans (List.map_id Q)
  rw [← hqs, join_S] at e1
  have e1 := mkS_inj e1
  have hne : Q.map (fun q => q.cps.toList) ≠ [] := fun q => hn (by rw [← e1, q]; rfl)
  have hps : ps ≠ [] := fun q => hn (by rw [q]; rfl)
  have := join_unique (d := d) _ _ hne hps (fun p hp => by
    obtain ⟨q, hq, rfl⟩ := List.mem_map.mp hp
    exact e2 q hq) h e1
  rw [← hqs, this]
section
variable {C : Cx} {σ : St}
theorem opL_split {d : Nat} {ps : List S} (hf : ∀ p ∈ ps, d ∉ p) (hne : joinS [d] ps ≠ []) (hl : (joinS [d] ps).length + 2 ≤ sizeLine) {K : V → Prop} (h : K (.lst (ps.map V.str))) : OpL C (Rep C.W) (fun ws => call (.builtin "str.split") ws) [.str (joinS [d] ps), .str [d]] K := fun own T s ws hO hr => by
  obtain ⟨_, _, rfl, r1, hr⟩ := hr.cons_inv
  obtain ⟨_, _, rfl, r2, hr⟩ := hr.cons_inv
  obtain rfl := hr.nil_inv
  obtain ⟨t, rfl, ht⟩ := r1.str_inv
  obtain ⟨u, rfl, hu⟩ := r2.str_inv
  have hs := split_S hf hne
  have hxl : (mkS (joinS [d] ps)).length = (joinS [d] ps).length := mkS_length _
  have hnew := fresh_size s.heap
  have one : Txt.split (mkS (joinS [d] ps)) (mkS [d]) = [mkS (joinS [d] ps)] → Out own T s (Rep C.W) K (.ref s.heap.objs.size) { s with heap := s.heap.push { cls := .type "list", data := .seq [Value.str (mkS (joinS [d] ps)) t].toArray } } := by
    intro e
    rw [hs] at e
    obtain ⟨p, rfl⟩ : ∃ p, ps = [p] := List.length_eq_one_iff.mp (by have := congrArg List.length e; simpa using this)
    have k : Kp T s T { s with heap := s.heap.push { cls := .type "list", data := .seq [Value.str (mkS (joinS [d] [p])) t].toArray } } := .push hO.tok (Nat.le_refl _)
    exact ⟨_, T, h, k, .lst (view_mk (hO.fresh hnew) (Heap.get?_push_size _ rfl)) rfl rfl rfl (.cons (.str ht) .nil)⟩
  cases h1 : (decide ((mkS (joinS [d] ps)).length < (mkS [d]).length) || decide (strKind (mkS (joinS [d] ps)) < strKind (mkS [d])))
  · cases hf : (occurrences (mkS (joinS [d] ps)) (mkS [d]) 0 (mkS (joinS [d] ps)).length ((mkS (joinS [d] ps)).length + 1)).isEmpty
    · have e : Txt.split (mkS (joinS [d] ps)) (mkS [d]) = partsBetween (mkS (joinS [d] ps)) (occurrences (mkS (joinS [d] ps)) (mkS [d]) 0 (mkS (joinS [d] ps)).length ((mkS (joinS [d] ps)).length + 1)) (mkS [d]).length := (if_neg (by rw [h1]; decide)).trans (if_neg (by rw [hf]; decide))
      rw [hs] at e
      have hlen : ps.length ≤ (joinS [d] ps).length + 1 := by
        have : ∀ ps : List S, ps.length ≤ (joinS [d] ps).length + 1 := by
          intro ps
          induction ps with
          | nil => simp
          | cons a r ih =>
            cases r with
            | nil => simp
            | cons b r => simp only [joinS, List.length_append, List.length_cons, List.length_nil] at ih ⊢; omega
        exact this ps
      refine call_meets PySem.F.slot_str_split (typeIs_str _ _ _) PySem.F.entry_str_split (PySem.F.args_str_split_2 _ _) (meets_str_split_sep (mkS (joinS [d] ps)) (mkS [d]) t u h1 rfl hf (by rw [hxl]; omega) (by rw [← e, List.length_map]; omega)) ?_
      rw [← e, strsFrom_eq, List.length_map]
      have k1 := Kp.strs ps hO.tok
      have k2 : Kp (T.upds s.toks ps) { s with toks := s.toks + ps.length } (T.upds s.toks ps) { s with toks := s.toks + ps.length, heap := s.heap.push { cls := .type "list", data := .seq (strValues (numbered s.toks (ps.map mkS))).toArray } } := .push k1.tok (Nat.le_refl _)
      exact ⟨_, _, h, k1.trans k2, .lst (view_mk (hO.fresh hnew) (Heap.get?_push_size _ rfl)) rfl rfl rfl (rep_numbered ps hO.tok fun _ _ e => e)⟩
    · exact call_meets PySem.F.slot_str_split (typeIs_str _ _ _) PySem.F.entry_str_split (PySem.F.args_str_split_2 _ _) (meets_str_split_not_found (mkS (joinS [d] ps)) (mkS [d]) t u h1 rfl hf) (one ((if_neg (by rw [h1]; decide)).trans (if_pos hf)))
  · exact call_meets PySem.F.slot_str_split (typeIs_str _ _ _) PySem.F.entry_str_split (PySem.F.args_str_split_2 _ _) (meets_str_split_cannot_occur (mkS (joinS [d] ps)) (mkS [d]) t u h1) (one (if_pos h1))
/-- a comparison, the thing to the right the frame's own -/
theorem tst_cmpO {n : Nat} (ok : C.Ok n) {l : Expr} {op : CmpOp} {x : String} {xp p : Pos} {Q : Bool → St → Prop}
    (h : Ev C σ l (fun v σ1 => ∃ sl a, find σ1 (Str.ofString x) = some sl ∧ sl.adr = some a ∧ Op2 C (Rep C.W) (compareOp op) v sl.v (fun r => ∃ b, r = .bool b ∧ Q b σ1)))
    (hxa : Str.ofString x ≠ anonS) (hn : (Str.ofString x == ("__classdict__" : Str)) = false) (hd : (Str.ofString x == ("__debug__" : Str)) = false)
    (hm : behindInMarks op (.Name (Str.ofString x) xp) = false) : Tst C σ (.Compare l [op] [.Name (Str.ofString x) xp] p) Q := by
  refine Tr.intro' fun F mine T s QQ fin hA => ?_
  refine wpAny_isTrue_Compare1 (Tr.then h hA fun va s1 u σ1 m1 T1 hQ p1 a1 r1 => ?_) hm
  obtain ⟨sl, a, hf, ho, hop⟩ := hQ
  refine wpAny_Name (tr_loadO ok a1 hf ho hxa hn fun hr => ?_) hd
  have hsub : ∀ b ∈ (F ++ m1).filter (fun b => decide (b ≠ a)), b ∈ F ++ m1 := fun b hb => (List.mem_filter.mp hb).1
  have hna : a ∉ (F ++ m1).filter (fun b => decide (b ≠ a)) := fun hb => by have := (List.mem_filter.mp hb).2; simp at this
  have hO' : OwnOk C ((F ++ m1).filter fun b => decide (b ≠ a)) T1 s1 := ⟨fun b o e => (view_sub hsub).ob b o (a1.base b o e), fun b hb => a1.live b (hsub b hb), a1.tok⟩
  refine PrimR.then (hop _ T1 s1 va (.ref a) hO' (r1.mono (view_sub hsub)) (SlotRep.freeze ho hr hsub hna)) fun r s2 c T2 q k r3 => ?_
  obtain ⟨b, rfl, q⟩ := q
  cases r3
  exact wpAny_truthy_bool (fin _ _ b σ1 m1 T2 q (p1.trans (k.post a1.live)) (a1.keeps k) rfl)
end
end Sx
end
section
open PySem PySem.W PyProof.Rows PySem.Calls
set_option linter.unusedVariables false
set_option Elab.async false
set_option maxRecDepth 100000
namespace Sx
section
variable {C : Cx} {σ : St}
/-- x, y = (e, f) : the second name is stored first -/
theorem ex_unpack2 {n : Nat} (ok : C.Ok n) {x y : String} {ts : List Expr} {k : Nat} {tp : Pos} {e : Expr} {pos : Pos} {Q : Fl → St → Prop}
    (h : Ev C σ e (fun v σ1 => ∃ u w, v = .tup [u, w] ∧ Q .next (put (put σ1 (Str.ofString y) y (.val w)) (Str.ofString x) x (.val u))))
    (hx : isHere C (Str.ofString x) = true) (hy : isHere C (Str.ofString y) = true)
    (hs : swapsWithSole [.Tuple ts k tp] e pos.line C.env = pure false) (hw : swappedStores [.Tuple ts k tp] e C.env = pure (some [Str.ofString x, Str.ofString y])) : Ex C σ (.Assign [.Tuple ts k tp] e pos) Q := by
  refine Tr.intro' fun F mine T s QQ fin hA => ?_
  refine Assign_Tuple_swapped (Tr.then h hA fun v s1 u σ1 m1 T1 q p1 a1 r => ?_) hs hw
  obtain ⟨u, w, rfl, q⟩ := q
  obtain ⟨a, o, ws, n, rfl, h1, h2, h3, r⟩ := r.tup_inv
  obtain ⟨vu, _, rfl, r1, r⟩ := r.cons_inv
  obtain ⟨vw, _, rfl, r2, r⟩ := r.cons_inv
  obtain rfl := r.nil_inv
  refine unpackItems_tuple (items := [vu, vw].toArray) ok.hh ⟨o, view_of h1, h2, n, h3⟩ fun h' he => ?_
  have hk : Kp T1 s1 T1 { s1 with heap := h' } := Kp.at (tk := s1.toks) a1.tok (fun b o e => he b o (Nat.ne_of_lt (Heap.lt_size e)) e) (Nat.le_refl _)
  have a2 := a1.keeps hk
  have p2 := hk.post a1.live
  show wpAny _ _ (assignInOrder [bindName C.env (Str.ofString y), bindName C.env (Str.ofString x)] [vw, vu]) _ _ _
  refine wpAny_assignInOrder_more (wpAny_bindName (store_val ok a2 hy (r2.mono hk.view) fun s3 p3 a3 => ?_))
  refine wpAny_assignInOrder_more (wpAny_bindName (store_val ok a3 hx ((r1.mono hk.view).mono p3.le) fun s4 p4 a4 => ?_))
  exact wpAny_assignInOrder_none (fin _ _ .next _ m1 T1 q (((p1.trans p2).trans p3).trans p4) a4 .next)
end
theorem wp_slice_list {prog : Program} {w : World} {A : Around} {E : Value → Shared → Prop} {s : Shared} {env : Env} {value : Expr} {lower upper : Option Expr} {p pos : Pos} {Q : Value → Shared → Prop}
    (h : wpAny (model prog w) A (eval value env) (fun o s₁ => wpAny (model prog w) A (eval (.Slice lower upper none p) env) (fun i s₂ => s₂.TypeIs o "list" ∧ wpAny (model prog w) A (getItem o i) Q E s₂) E s₁) E s) :
    wpAny (model prog w) A (eval (.Subscript value (.Slice lower upper none p) pos) env) Q E s := by
  rw [eval_Subscript]
  refine wpAny_bind (wpAny_mono h (fun o s₁ h₁ => wpAny_bind (wpAny_holding (wpAny_mono h₁ (fun i s₂ h₂ => wpAny_bind (wpAny_standAt ?_)) fun _ _ x => x)))
    fun _ _ x => x)
  obtain ⟨hT, h₂⟩ := h₂
  have fin : wpAny (model prog w) A (operate [i, o] (getItem o i)) (fun r s₃ => wpAny (model prog w) A (letTemporaryGo value o r >>= fun _ => pure r) Q E s₃) E s₂ :=
    wpAny_operating (wpAny_mono h₂ (fun r s₃ h₃ => wpAny_bind (wpAny_letTemporaryGo (wpAny_pure h₃))) fun _ _ x => x)
  first
    | (refine wpAny_bind ?_
       rw [getitemInPython_of_ne hT.not_modules]
       refine wpAny_bind (wpAny_specialOf hT PySem.F.slot_list_getitem.lookup ?_)
       first
         | exact wpAny_pure (wpAny_bind fin)
         | exact wpAny_bind (wpAny_pure (wpAny_bind fin))
         | exact wpAny_bind fin)
    | (refine wpAny_bind (wpAny_specialOf hT PySem.F.slot_list_getitem.lookup ?_)
       first
         | exact wpAny_bind (wpAny_pure (wpAny_bind fin))
         | exact wpAny_bind fin)
section
variable {C : Cx} {σ : St}
/-- l[lo:hi], a list, whatever stands ahead of the brackets -/
theorem evF_sliceT {value : Expr} {lower upper : Option Expr} {p pos : Pos} {Q : Slot → St → Prop}
    (h : Ev C σ value (fun a σ1 => ∃ l, a = .lst l ∧ l.length ≤ sizeLine ∧ EvP C σ1 lower (fun lo σ2 => EvP C σ2 upper (fun hi σ3 => ∀ a, Q (.list a (slc lo hi l)) σ3)))) : EvF C σ (eval (.Subscript value (.Slice lower upper none p) pos) C.env) Q := by
  intro F mine T s hA
  refine wp_slice_list (Tr.then h hA fun va s1 _ σ1 m1 T1 hq_ p1 a1 r1 => ?_)
  obtain ⟨l, rfl, hl, hlo⟩ := hq_
  refine wpAny_Slice (wpAny_mono (evP_run hlo a1) ?_ fun _ _ x => x)
  rintro vl s2 ⟨lo, σ2, m2, T2, hhi, rfl, p2, a2⟩
  refine wpAny_mono (evP_run hhi a2) ?_ fun _ _ x => x
  rintro vu s3 ⟨hi, σ3, m3, T3, hq, rfl, p3, a3⟩
  rw [evalPart_none]
  obtain ⟨a, o, ws, n, rfl, h1, h2, h3, h4, r⟩ := Rep.lst_inv (r1.mono (p2.le.trans p3.le))
  have hL : s3.heap.IsList a ws.toArray := ⟨o, view_of h1, h2, n, h4⟩
  refine wpAny_pure ⟨(hL.push _).typeIs, wpAny_getItem_list_slice (hL.push _) (Heap.IsSliceOf.new ..) (isPart_of lo) (isPart_of hi) .none (by simp) ?_ (by rw [List.size_toArray, r.length]; exact hl)⟩
  rw [Heap.size_push, slc_list]
  have k1 : Kp T3 s3 T3 { s3 with heap := s3.heap.push { cls := .type "slice", data := .fields #[partValue lo, partValue hi, .none] } } := .push a3.tok (Nat.le_refl _)
  obtain ⟨h1', hh1⟩ : ∃ h1', s3.heap.push { cls := .type "slice", data := .fields #[partValue lo, partValue hi, .none] } = h1' := ⟨_, rfl⟩
  have hz : s3.heap.objs.size + 1 = h1'.objs.size := by rw [← hh1, Heap.size_push]
  rw [hh1] at k1 ⊢
  rw [hz]
  have k2 : Kp T3 { s3 with heap := h1' } T3 { s3 with heap := h1'.push { cls := .type "list", data := .seq (slc (lo.map (·.1)) (hi.map (·.1)) ws).toArray } } := Kp.push (s := { s3 with heap := h1' }) (tk := s3.toks) k1.tok (Nat.le_refl _)
  have hn : s3.heap.get? h1'.objs.size = none := get_ge (by omega)
  have k12 := k1.trans k2
  obtain ⟨p4, hm, a4, le⟩ := a3.new k12 hn (by show ((h1'.push _).get? h1'.objs.size).isSome = true; rw [Heap.get?_push_size _ rfl]; rfl)
  refine ⟨.list h1'.objs.size (slc (lo.map (·.1)) (hi.map (·.1)) l), σ3, m3, h1'.objs.size, T3, hq _, rfl, (p1.trans (p2.trans p3)).trans p4, hm, a4, rfl, _, ⟨0, Heap.get?_push_size _ rfl⟩, ?_⟩
  exact (r.slc _ _).mono p4.le
end
end Sx
end
section
open PySem PySem.W PyProof.Rows PySem.Calls PySem.SeqAt PySem.Builtin PySem.Builtin.Str
set_option linter.unusedVariables false
set_option Elab.async false
set_option maxRecDepth 100000
namespace Sx
/-! ## texts whose mark is not known -/
noncomputable def Tx : V → S → Prop
  | .str a, l => a = l
  | .txt a, l => a = l
  | _, _ => False
theorem rep_tx {W : Wd} {g : PH} {u : V} {l : S} {v : Value} (hu : Tx u l) (h : Rep W g u v) : ∃ t, v = .str (mkS l) t := by
  cases u with
  | str a => obtain ⟨t, rfl, _⟩ := h.str_inv; exact ⟨t, by rw [show a = l from hu]⟩
  | txt a => obtain ⟨t, rfl⟩ := h.txt_inv; exact ⟨t, by rw [show a = l from hu]⟩
  | _ => exact hu.elim
noncomputable def Weak (v u : V) : Prop := ∀ (W : Wd) (g : PH) (x : Value), Rep W g v x → Rep W g u x
theorem weak_txt (l : S) : Weak (.str l) (.txt l) := fun W g x h => by
  obtain ⟨t, rfl, _⟩ := h.str_inv; exact .txt _ _
theorem weak_refl (v : V) : Weak v v := fun W g x h => h
theorem weak_pair {a b a' b' : V} (ha : Weak a a') (hb : Weak b b') : Weak (.tup [a, b]) (.tup [a', b']) := fun W g x h => by
  obtain ⟨y, o, ws, n, rfl, h1, h2, h3, r⟩ := h.tup_inv
  obtain ⟨_, _, rfl, r1, r⟩ := r.cons_inv
  obtain ⟨_, _, rfl, r2, r⟩ := r.cons_inv
  obtain rfl := r.nil_inv
  exact .tup h1 h2 h3 (.cons (ha _ _ _ r1) (.cons (hb _ _ _ r2) .nil))
section
variable {C : Cx} {σ : St}
theorem Tr.weak {t : Sem Value} {Q : V → St → Prop} (h : Tr C σ (Rep C.W) t (fun v σ' => ∃ u, Weak v u ∧ Q u σ')) : Tr C σ (Rep C.W) t Q := by
  refine Tr.intro' fun F mine T s QQ fin hA => ?_
  refine Tr.then h hA fun x s1 v σ1 m1 T1 q p1 a1 r => ?_
  obtain ⟨u, hw, q⟩ := q
  exact fin _ _ u σ1 m1 T1 q p1 a1 (hw _ _ _ r)
theorem op_eq_tx {u v : V} {a b : S} (hu : Tx u a) (hv : Tx v b) {K : V → Prop} (h : K (.bool (decide (a = b)))) : Op2 C (Rep C.W) (compareOp .Eq) u v K := fun own T s va vb hO ra rb => by
  obtain ⟨_, rfl⟩ := rep_tx hu ra; obtain ⟨_, rfl⟩ := rep_tx hv rb
  refine PySem.P.eq_str (.same hO.tok h ?_)
  have e : ((mkS a).cps.toList == (mkS b).cps.toList) = decide (a = b) := by rw [Bool.eq_iff_iff]; simp
  rw [e]; exact .bool _
theorem op_ne_tx {u v : V} {a b : S} (hu : Tx u a) (hv : Tx v b) {K : V → Prop} (h : K (.bool (!decide (a = b)))) : Op2 C (Rep C.W) (compareOp .NotEq) u v K := fun own T s va vb hO ra rb => by
  obtain ⟨_, rfl⟩ := rep_tx hu ra; obtain ⟨_, rfl⟩ := rep_tx hv rb
  refine PySem.P.ne_str (.same hO.tok h ?_)
  have e : ((mkS a).cps.toList != (mkS b).cps.toList) = !decide (a = b) := by rw [Bool.eq_iff_iff]; simp
  rw [e]; exact .bool _
theorem opL_len_txt {l : S} {K : V → Prop} (hl : l.length ≤ sizeLine) (h : K (.int l.length)) : OpL C (Rep C.W) (fun ws => call (.builtin "len") ws) [.txt l] K := fun own T s vs hO hr => by
  obtain ⟨_, _, rfl, r, hr⟩ := hr.cons_inv
  obtain rfl := hr.nil_inv; obtain ⟨_, rfl⟩ := r.txt_inv
  refine PySem.P.len_str (by rw [mkS_length]; have : sizeLine = 2 ^ 24 := by rw [sizeLine_eq]
                             omega) ?_
  rw [mkS_length]
  exact .int hO.tok h (by omega)
theorem is_txt {W : Wd} {g : PH} {l : S} {v : Value} (h : Rep W g (.txt l) v) : (Key.s l).is v = true := by
  obtain ⟨t, rfl⟩ := h.txt_inv; simp [Key.is]
theorem op_in_dictT {es : List (Key × V)} {k : S} {K : V → Prop} (h : K (.bool (dget es (.s k)).isSome)) : Op2 C (Rep C.W) (compareOp .In) (.txt k) (.dct es) K := fun own T s va vb hO ra rb => by
  obtain ⟨x, ox, ds, kvs, nx, rfl, h1, h0, h2, h3, r, hn⟩ := rb.dct_inv
  have hd := r.dictOf (h := s.heap) (view_of h1) h2 h3 hn
  have hv := r.valueAt (.s k)
  refine wpAny_in_of (is_txt ra) h0 hd.mapOf ?_
  have e : (PySem.valueAt kvs (.s k)).isSome = (dget es (.s k)).isSome := by
    cases hg : dget es (.s k) with
    | none => rw [hg] at hv; simp only at hv; rw [hv]; rfl
    | some v => rw [hg] at hv; obtain ⟨w, e, _⟩ := hv; rw [e]; rfl
  rw [e]
  exact .bool (tk := s.toks + 1) hO.tok h (Nat.le_succ _)
theorem item_dictT {es : List (Key × V)} {k : S} {v : V} {K : V → Prop} (hv : dget es (.s k) = some v) (h : K v) :
    Op2 C (Rep C.W) getItem (.dct es) (.txt k) K ∧ ∃ T id, typeLookup (.type T) "__getitem__" = pure (some (.builtin id)) ∧ IsTy C.W (.dct es) T := by
  refine ⟨fun own T s va vb hO ra rb => ?_, _, _, PySem.F.slot_dict_getitem.lookup, isTy_dct⟩
  obtain ⟨x, ox, ds, kvs, nx, rfl, h1, h0, h2, h3, r, hn⟩ := ra.dct_inv
  have hd := r.dictOf (h := s.heap) (view_of h1) h2 h3 hn
  have hv' := r.valueAt (.s k)
  rw [hv] at hv'
  obtain ⟨w, e, hr⟩ := hv'
  exact wpAny_getItem_of (is_txt rb) hd.mapOf e ⟨_, T, h, .toks hO.tok (Nat.le_succ _), hr⟩
theorem txts_of {W : Wd} {g : PH} : ∀ (ls : List S) (ws : List Value), RepL W g (ls.map V.txt) ws → ∃ l : List (Str × Tok), ws = strValues l ∧ l.map (·.1) = ls.map mkS
  | [], ws, h => by obtain rfl := h.nil_inv; exact ⟨[], rfl, rfl⟩
  | s :: ls, ws, h => by
    obtain ⟨_, _, rfl, h1, h2⟩ := h.cons_inv
    obtain ⟨t, rfl⟩ := h1.txt_inv
    obtain ⟨l, rfl, e⟩ := txts_of ls _ h2
    exact ⟨(mkS s, t) :: l, rfl, by simp [e]⟩
theorem opL_join_txt {sep : S} {ls : List S} {K : V → Prop} (hl : (ls.map List.length).sum + ls.length * sep.length ≤ sizeLine) (hj : (joinS sep ls).length ≤ sizeLine) (h : K (.txt (joinS sep ls))) :
    OpL C (Rep C.W) (fun ws => call (.builtin "str.join") ws) [.str sep, .lst (ls.map V.txt)] K := fun own T s vs hO hr => by
  obtain ⟨_, _, rfl, r1, hr⟩ := hr.cons_inv
  obtain ⟨_, _, rfl, r2, hr⟩ := hr.cons_inv
  obtain rfl := hr.nil_inv; obtain ⟨t, rfl, ht⟩ := r1.str_inv
  obtain ⟨a, o, ws, n, rfl, h1, h2, h3, h4, r⟩ := r2.lst_inv
  obtain ⟨l, rfl, he⟩ := txts_of ls ws r
  refine call_meets PySem.F.slot_str_join (typeIs_str _ _ _) PySem.F.entry_str_join (PySem.F.args_str_join_2 _ _) (meets_str_join_list (mkS sep) t a l (join_fits he hl)) ⟨⟨o, view_of h1, h2, n, h4⟩, ?_⟩
  have big : (Made.str (glued (mkS sep) (l.map (·.1)))).post (fun v s' => Out own T s (Rep C.W) K v s') s := by
    rw [he, StrLaws.glued_eq_join, join_S]
    exact ⟨by show (mkS _).length ≤ sizeLine; rw [mkS_length]; exact hj, ⟨_, T, h, .toks hO.tok (Nat.le_succ _), .txt _ _⟩⟩
  match l, he, big with
  | [], he, big => exact big
  | [p], he, big =>
    obtain ⟨x, t⟩ := p
    obtain ⟨y, rfl⟩ : ∃ y, ls = [y] := List.length_eq_one_iff.mp (by have := congrArg List.length he; simpa using this.symm)
    have hx : x = mkS y := by simpa using he
    subst hx
    exact ⟨_, T, h, .refl hO.tok, .txt _ _⟩
  | p :: q :: r, he, big => exact big
end
/-! pairs: rules have the mark of the second text, parts of the first -/
noncomputable def prR (p : S × S) : V := .tup [.txt p.1, .str p.2]
noncomputable def prK (p : S × S) : V := .tup [.str p.1, .txt p.2]
theorem weak_R (p : S × S) : Weak (prV p) (prR p) := weak_pair (weak_txt _) (weak_refl _)
theorem weak_K (p : S × S) : Weak (prV p) (prK p) := weak_pair (weak_refl _) (weak_txt _)
theorem rep_prK {W : Wd} {g : PH} {p : S × S} {v : Value} (h : Rep W g (prK p) v) : ∃ a o t u n, v = .ref a ∧ g.ob a = some o ∧ o.cls = .type "tuple" ∧ o.data = .seq [Value.str (mkS p.1) t, .str (mkS p.2) u].toArray n := by
  obtain ⟨a, o, ws, n, rfl, h1, h2, h3, r⟩ := Rep.tup_inv h
  obtain ⟨_, _, rfl, r1, r⟩ := r.cons_inv
  obtain ⟨_, _, rfl, r2, r⟩ := r.cons_inv
  obtain rfl := r.nil_inv
  obtain ⟨t, rfl, ht⟩ := r1.str_inv
  obtain ⟨u, rfl⟩ := r2.txt_inv
  exact ⟨a, o, t, u, n, rfl, h1, h2, h3⟩
theorem rep_prK_inj {W : Wd} {g : PH} {p q : S × S} {v : Value} (h : Rep W g (prK p) v) (h' : Rep W g (prK q) v) : p = q := by
  obtain ⟨a, o, t, u, n, rfl, h1, _, h3⟩ := rep_prK h
  obtain ⟨a', o', t', u', n', e, k1, _, k3⟩ := rep_prK h'
  injection e with e
  subst e
  rw [h1] at k1
  cases k1
  rw [h3] at k3
  injection k3 with k3 _
  have k3 := congrArg Array.toList k3
  simp only [List.cons.injEq, Value.str.injEq, and_true] at k3
  exact Prod.ext (mkS_inj k3.1.1) (mkS_inj k3.2.1)
theorem rcAt_prK {A : Around} {s : Shared} {W : Wd} {g : PH} (hg : ∀ a o, g.ob a = some o → s.heap.get? a = some o) (hu : A.units + 1 < cLine) {p q : S × S} {va vb : Value} (r : Rep W g (prK q) va) (r' : Rep W g (prK p) vb) : RcAt A s va vb (decide (q = p)) := by
  obtain ⟨a, o, t, u, n, rfl, h1, h2, h3⟩ := rep_prK r
  obtain ⟨a', o', t', u', n', rfl, k1, k2, k3⟩ := rep_prK r'
  have := RcAt.tuples (A := A) (s := s) (l := a) (b := a') (e := fun j => if j = 0 then decide (q.1 = p.1) else decide (q.2 = p.2)) ⟨o, hg _ _ h1, h2, n, h3⟩ ⟨o', hg _ _ k1, k2, n', k3⟩ (by omega) (fun j h1 h2 => by
    have h1 : j < 2 := h1
    match j, h1 with
    | 0, _ => exact eqAt_strs
    | 1, _ => exact eqAt_strs)
  have e : (decide (q.1 = p.1) && decide (q.2 = p.2)) = decide (q = p) := by
    by_cases h : q = p
    · subst h; simp
    · rw [decide_eq_false h, Bool.and_eq_false_iff]
      by_cases h' : q.1 = p.1
      · exact .inr (decide_eq_false fun h2 => h (Prod.ext h' h2))
      · exact .inl (decide_eq_false h')
  rw [show ((List.range (min [Value.str (mkS q.1) t, .str (mkS q.2) u].toArray.size [Value.str (mkS p.1) t', .str (mkS p.2) u'].toArray.size)).all (fun j => if j = 0 then decide (q.1 = p.1) else decide (q.2 = p.2)) && [Value.str (mkS q.1) t, .str (mkS q.2) u].toArray.size == [Value.str (mkS p.1) t', .str (mkS p.2) u'].toArray.size) = (decide (q.1 = p.1) && decide (q.2 = p.2)) from pr_all _ _, e] at this
  exact this
theorem eqAt_prK {A : Around} {s : Shared} {W : Wd} {g : PH} (hg : ∀ a o, g.ob a = some o → s.heap.get? a = some o) (hu : A.units + 1 < cLine) {p q : S × S} {va vb : Value} (r : Rep W g (prK q) va) (r' : Rep W g (prK p) vb) : EqAt A s va vb (decide (q = p)) := by
  have h := rcAt_prK hg hu r r'
  obtain ⟨a, o, t, u, n, rfl, _⟩ := rep_prK r
  obtain ⟨a', o', t', u', n', rfl, _⟩ := rep_prK r'
  by_cases e : a = a'
  · subst e
    rw [decide_eq_true (rep_prK_inj r r')]
    exact .same _
  · exact .of_refs e h
section
variable {C : Cx} {σ : St}
theorem op_eq_prK {n : Nat} (ok : C.Ok n) {p q : S × S} {u : V} (hw : Weak u (prK p)) {K : V → Prop} (h : K (.bool (decide (q = p)))) : Op2 C (Rep C.W) (compareOp .Eq) (prK q) u K := fun own T s va vb hO ra rb => by
  have hu := ok.hu
  have hc := cLine_ge
  have := rcAt_prK (A := C.A) (s := s) (g := view own T s) (fun a o e => view_of e) (by omega) ra (hw _ _ _ rb)
  exact this C.W.prog C.W.w C.X _ (.same hO.tok h (.bool _))
open Classical in
theorem in_prKs {n : Nat} (ok : C.Ok n) {p : S × S} {ps : List (S × S)} {u : V} (hw : Weak u (prK p)) {K : V → Prop} : (K (.bool (decide (p ∈ ps))) → Op2 C (Rep C.W) (compareOp .In) u (.lst (ps.map prK)) K) ∧ (K (.bool (!decide (p ∈ ps))) → Op2 C (Rep C.W) (compareOp .NotIn) u (.lst (ps.map prK)) K) := by
  have hu := ok.hu
  have hc := cLine_ge
  have key : ∀ own T s va wy, OwnOk C own T s → Rep C.W (view own T s) (prK p) va → RepL C.W (view own T s) (ps.map prK) wy → (∀ y, y ∈ wy.toArray → EqAt C.A.in1 s y va (decide (Rep C.W (view own T s) (prK p) y))) ∧ wy.toArray.any (fun y => decide (Rep C.W (view own T s) (prK p) y)) = decide (p ∈ ps) := by
    intro own T s va wy hO ra hr
    refine ⟨fun y hy => ?_, ?_⟩
    · obtain ⟨i, hi, rfl⟩ := List.getElem_of_mem (show y ∈ wy by simpa using hy)
      obtain ⟨v, hv, hrv⟩ := hr.getR (List.getElem?_eq_getElem hi)
      rw [List.getElem?_map] at hv
      obtain ⟨q, hq, rfl⟩ := Option.map_eq_some_iff.mp hv
      have := eqAt_prK (A := C.A.in1) (s := s) (g := view own T s) (fun a o e => view_of e) (by show C.A.units + 1 + 1 < cLine; omega) hrv ra
      by_cases e : q = p
      · subst e
        rw [decide_eq_true rfl] at this
        rwa [decide_eq_true hrv]
      · rw [decide_eq_false e] at this
        rwa [decide_eq_false fun h => e (rep_prK_inj hrv h)]
    · rw [List.any_toArray]
      by_cases hp : p ∈ ps
      · rw [decide_eq_true hp, List.any_eq_true]
        obtain ⟨i, hi, e⟩ := List.getElem_of_mem hp
        obtain ⟨w, hw, hrw⟩ := hr.get (k := i) (v := prK p) (by rw [List.getElem?_map, List.getElem?_eq_getElem hi, e]; rfl)
        exact ⟨w, List.mem_of_getElem? hw, decide_eq_true hrw⟩
      · rw [decide_eq_false hp, List.any_eq_false]
        intro y hy hd
        obtain ⟨i, hi, rfl⟩ := List.getElem_of_mem hy
        obtain ⟨v, hv, hrv⟩ := hr.getR (List.getElem?_eq_getElem hi)
        rw [List.getElem?_map] at hv
        obtain ⟨q, hq, rfl⟩ := Option.map_eq_some_iff.mp hv
        have := rep_prK_inj hrv (of_decide_eq_true hd)
        subst this
        exact hp (List.mem_of_getElem? hq)
  constructor
  · intro hK own T s va vb hO ra rb
    obtain ⟨y, oy, wy, ny, rfl, k1, k2, k3, k4, q⟩ := rb.lst_inv
    obtain ⟨e1, e2⟩ := key own T s va wy hO (hw _ _ _ ra) q
    refine in_listAt _ ⟨oy, view_of k1, k2, ny, k4⟩ e1 ?_
    rw [e2]
    exact .same hO.tok hK (.bool _)
  · intro hK own T s va vb hO ra rb
    obtain ⟨y, oy, wy, ny, rfl, k1, k2, k3, k4, q⟩ := rb.lst_inv
    obtain ⟨e1, e2⟩ := key own T s va wy hO (hw _ _ _ ra) q
    refine notIn_listAt _ ⟨oy, view_of k1, k2, ny, k4⟩ e1 ?_
    rw [e2]
    exact .same hO.tok hK (.bool _)
end
noncomputable def tabT (es : List (S × S)) : List (Key × V) := es.map fun p => (Key.s p.1, V.txt p.2)
theorem dset_tabT (es : List (S × S)) (k v : S) : dset (tabT es) (.s k) (.txt v) = tabT (tset1 es k v) := by
  induction es with
  | nil => rfl
  | cons p r ih =>
    obtain ⟨k', v'⟩ := p
    show (if Key.s k' = Key.s k then _ else _) = _
    by_cases h : k' = k
    · subst h
      rw [if_pos rfl]
      show _ = tabT (if k' = k' then _ else _)
      rw [if_pos rfl]; rfl
    · rw [if_neg (fun e => h (by injection e))]
      show _ = tabT (if k' = k then _ else _)
      rw [if_neg h]
      show _ = (Key.s k', V.txt v') :: tabT (tset1 r k v)
      rw [← ih]; rfl
end Sx
end
section
open PySem PySem.W PyProof.Rows PySem.Calls
set_option linter.unusedVariables false
set_option Elab.async false
set_option maxRecDepth 100000
namespace Sx
theorem find_hit {σ : St} {y : String} {sl : Slot} : find (put σ (Str.ofString y) y sl) (Str.ofString y) = some sl := by rw [find_putS, if_pos rfl]
theorem find_miss {σ : St} {y x : String} {sl : Slot} {o : Option Slot} (h : decide (y = x) = false) (hf : find σ (Str.ofString x) = o) : find (put σ (Str.ofString y) y sl) (Str.ofString x) = o := by
  rw [find_putS, if_neg (of_decide_eq_false h)]; exact hf
end Sx
end
section
open PySem PySem.W PyProof.Rows PySem.Calls
set_option linter.unusedVariables false
set_option Elab.async false
set_option maxRecDepth 100000
namespace Sx
/-! what comes after goes by a name: terms stay small -/
section
variable {C : Cx} {σ : St}
theorem exs_eq {body : List Stmt} {X : V} (h : ∀ Q : Fl → St → Prop, (∀ σ', Q (.ret X) σ') → Exs C σ body Q) : Exs C σ body (fun fl _ => fl.v = X) := h _ fun _ => rfl
theorem exs_K {body : List Stmt} (K : V → Prop) (h : ∀ Q : Fl → St → Prop, (∀ v σ', K v → Q (.ret v) σ') → Exs C σ body Q) : Exs C σ body (fun fl _ => K fl.v) := h _ fun _ _ hk => hk
theorem exs_split {st : Stmt} {rest : List Stmt} {Q : Fl → St → Prop} (P : St → Prop) (h1 : ∀ Q' : Fl → St → Prop, (∀ σ', P σ' → Q' Fl.next σ') → Ex C σ st Q') (h2 : ∀ σ', P σ' → Exs C σ' rest Q) : Exs C σ (st :: rest) Q :=
  exs_cons (h1 _ h2)
theorem loop_listQ {target : Expr} {body orelse : List Stmt} {Q : Fl → St → Prop} {α : Type} (f : α → V) (l : List α) (I : Nat → St → Prop)
    (step : ∀ i x σ (Q' : Fl → St → Prop), (∀ σ', I (i + 1) σ' → Q' .next σ') → l[i]? = some x → I i σ → Asg C σ target (f x) (fun σ1 => Exs C σ1 body Q'))
    (done : ∀ σ, I l.length σ → Exs C σ orelse Q) {σ : St} (h : I 0 σ) {xs : List V} (hx : xs = l.map f) : Loop C target body orelse Q xs σ :=
  loop_list f l I (fun i x σ hx hI => step i x σ _ (fun _ h => h) hx hI) done h hx
theorem loop_rangeQ {target : Expr} {body orelse : List Stmt} {Q : Fl → St → Prop} (a b : Int) (n : Nat) (hn : (b - a).toNat = n) (I : Nat → St → Prop)
    (step : ∀ i σ (Q' : Fl → St → Prop), (∀ σ', I (i + 1) σ' → Q' .next σ') → i < n → I i σ → Asg C σ target (.int (a + i)) (fun σ1 => Exs C σ1 body Q'))
    (done : ∀ σ, I n σ → Exs C σ orelse Q) {σ : St} (h : I 0 σ) : Loop C target body orelse Q ((List.range (b - a).toNat).map fun (i : Nat) => V.int (a + (i : Int))) σ :=
  loop_range a b n hn I (fun i σ hi hI => step i σ _ (fun _ h => h) hi hI) done h
theorem ex_whileQ {n : Nat} (ok : C.Ok n) {test : Expr} {body orelse : List Stmt} {pos : Pos} {Q : Fl → St → Prop} (I : Nat → St → Prop)
    (step : ∀ k σ (Q1 Q' : Fl → St → Prop), (∀ σ', Exs C σ' orelse Q → Exs C σ' orelse Q1) → (∀ k' σ', k' < k → I k' σ' → Q' .next σ') → I k σ → Tst C σ test (fun b σ1 => (b = false → Exs C σ1 orelse Q1) ∧ (b = true → Exs C σ1 body Q'))) (k : Nat) (h : I k σ) : Ex C σ (.While test body orelse pos) Q :=
  ex_while ok I (fun k σ hI => step k σ _ _ (fun _ h => h) (fun k' σ' h1 h2 => ⟨k', h1, h2⟩) hI) k h
theorem fn_callQ {C : Cx} {n : Nat} (ok : C.Ok (n + 1)) {a : Addr} {fd : FuncData} {body : List Stmt} (fn : FnAt C.W a fd body) {ps : List String} {vs dvs : List V} {ds : List Value}
    (hb : ∀ (s : Shared) (ws : List Value), (∀ b o, C.W.h₀.get? b = some o → s.heap.get? b = some o) → ws.length = vs.length → BindsTo s fd ⟨ws, []⟩ ((ps.map Str.ofString).zip (ws ++ ds)))
    (hds : ∀ own T s, OwnOk C own T s → RepL C.W (view own T s) dvs ds)
    (hnd : ps.Nodup) (hnm : namesOk fd.scope ps = true) {K : V → Prop}
    (walk : ∀ A L q cd (Q : Fl → St → Prop), (∀ v σ', K v → Q (.ret v) σ') → (fnCx C.W A fd.scope L a q cd).Ok n → Exs (fnCx C.W A fd.scope L a q cd) (mkSt ps (vs ++ dvs)) body Q) :
    OpL C (Rep C.W) (fun ws => call (.ref a) ws) vs K := fn_call ok fn hb hds hnd hnm fun A L q cd okn => exs_K K fun Q hQ => walk A L q cd Q hQ okn
theorem run_rngN {n : Nat} (h : n ≤ 1000000) (t : Expr) : RunOk t (.rng 0 (n : Int)) := run_rng (by decide) (by decide) (Int.le_trans (by decide) (Int.natCast_nonneg n)) (Int.ofNat_le.mpr (Nat.le_trans h (by decide))) t
theorem neg1_le {n : Nat} (h : 0 < n) : -(n : Int) ≤ -1 := by omega
theorem op_item_lastm {C : Cx} {vs : List V} {v : V} {m : Nat} {K : V → Prop} (hm : vs.length = m + 1) (hv : vs[m]? = some v) (hl : vs.length ≤ sizeLine) (h : K v) : Op2 C (Rep C.W) getItem (.lst vs) (.int (-1)) K :=
  op_item_list (neg1_le (by rw [hm]; exact Nat.succ_pos m)) (Int.lt_of_lt_of_le (by decide) (Int.natCast_nonneg _)) hl (by
    rw [if_pos (by decide), show ((-1 : Int) + (vs.length : Int)).toNat = m by rw [hm]; omega]; exact hv) h
theorem mle {a b k : Nat} (h : b ≤ k) : min a b ≤ k := Nat.le_trans (Nat.min_le_right _ _) h
theorem nabs {j k : Nat} (h : j ≤ k) (hk : Nat.ble (k + 1) 18446744073709551616 = true := by rfl) : (j : Int).natAbs < 2 ^ 64 := Nat.lt_of_le_of_lt h (Nat.le_of_ble_eq_true hk)
theorem take_len {α : Type} {l : List α} {i : Nat} (h : i < l.length) : (l.take i).length = i := by rw [List.length_take, Nat.min_eq_left (Nat.le_of_lt h)]
theorem szc (n : Nat) (h : Nat.ble n 16777216 = true := by rfl) : n ≤ sizeLine := by
  rw [sizeLine_eq]; exact Nat.le_of_ble_eq_true h
theorem line {n : Nat} (k : Nat) (h : n ≤ k) (hk : Nat.ble k 16777216 = true := by rfl) : n ≤ sizeLine := by
  rw [sizeLine_eq]; exact Nat.le_trans h (Nat.le_of_ble_eq_true hk)
end
end Sx
end
section
open PySem PySem.W PyProof.Rows PySem.Calls
set_option linter.unusedVariables false
set_option Elab.async false
set_option maxRecDepth 100000
namespace Sx
/-! plain Lean: one text after the other, keys of one sign -/
theorem flatMap_congrN {α β : Type} {f g : α → List β} {l : List α} (h : ∀ x ∈ l, f x = g x) : l.flatMap f = l.flatMap g := by
  induction l with
  | nil => rfl
  | cons a r ih => rw [List.flatMap_cons, List.flatMap_cons, h a List.mem_cons_self, ih fun x hx => h x (List.mem_cons_of_mem _ hx)]
theorem replK_1 (k : Nat) (z : S) : ∀ x : S, replK [k] z 0 x = x.flatMap fun c => if c = k then z else [c]
  | [] => by simp [replK]
  | c :: r => by
    rw [replK_0, List.flatMap_cons]
    have e : [k].isPrefixOf (c :: r) = decide (c = k) := by
      show (k == c && true) = _
      rw [Bool.and_true, Bool.eq_iff_iff]; simp; exact eq_comm
    rw [e]
    by_cases h : c = k
    · rw [if_pos (by simpa using h), if_pos h]
      show z ++ replK [k] z 0 r = _
      rw [replK_1 k z r]
    · rw [if_neg (by simpa using h), if_neg h, replK_1 k z r]; rfl
theorem repl_1 (k : Nat) (z x : S) : repl [k] z x = x.flatMap fun c => if c = k then z else [c] := by
  unfold repl; rw [if_neg (by simp)]; exact replK_1 k z x
noncomputable def One (p : S × S) : Prop := ∃ c, p.1 = [c]
theorem reps_flatMap : ∀ (ws : List (S × S)), (∀ w ∈ ws, One w) → ∀ x : S, reps ws x = x.flatMap fun c => reps ws [c]
  | [], _, x => by
    show x = x.flatMap fun c => [c]
    induction x with
    | nil => rfl
    | cons c r ih => rw [List.flatMap_cons, ← ih]; rfl
  | (k, z) :: r, h, x => by
    obtain ⟨c, hc⟩ := h (k, z) List.mem_cons_self
    have hc : k = [c] := hc
    subst hc
    have ih := reps_flatMap r fun w hw => h w (List.mem_cons_of_mem _ hw)
    show reps r (repl [c] z x) = _
    rw [ih, repl_1, List.flatMap_assoc]
    refine flatMap_congrN fun d _ => ?_
    show _ = reps r (repl [c] z [d])
    rw [repl_1, ih]
    simp
theorem reps_inert : ∀ (ws : List (S × S)) (c : Nat), (∀ w ∈ ws, One w ∧ w.1 ≠ [c]) → reps ws [c] = [c]
  | [], _, _ => rfl
  | (k, z) :: r, c, h => by
    obtain ⟨⟨d, hd⟩, hn⟩ := h (k, z) List.mem_cons_self
    have hd : k = [d] := hd
    subst hd
    have hn : c ≠ d := fun e => hn (by rw [e])
    show reps r (repl [d] z [c]) = [c]
    rw [repl_1]
    simp only [List.flatMap_cons, List.flatMap_nil, if_neg hn, List.append_nil]
    exact reps_inert r c fun w hw => h w (List.mem_cons_of_mem _ hw)
/-! signs and references -/
structure Code (E : Nat → S) (sp : Nat → Prop) : Prop where
  ref : ∀ c, sp c → ∃ w, E c = 38 :: w ∧ w ≠ [] ∧ ∀ d ∈ w, ¬ sp d
  bare : ∀ c, ¬ sp c → E c = [c]
  amp : sp 38
  pre : ∀ c d, sp c → sp d → E c <+: E d → c = d
theorem Code.ne {E : Nat → S} {sp : Nat → Prop} (h : Code E sp) (c : Nat) : E c ≠ [] := by
  by_cases hc : sp c
  · obtain ⟨w, e, _⟩ := h.ref c hc
    rw [e]; simp
  · rw [h.bare c hc]; simp
theorem Code.inj {E : Nat → S} {sp : Nat → Prop} (h : Code E sp) {c d : Nat} (hp : E c <+: E d) : c = d := by
  by_cases hc : sp c <;> by_cases hd : sp d
  · exact h.pre c d hc hd hp
  · obtain ⟨w, e, hw, _⟩ := h.ref c hc
    rw [e, h.bare d hd] at hp
    obtain ⟨v, hv⟩ := hp
    injection hv with _ hv
    exact absurd (List.append_eq_nil_iff.mp hv).1 hw
  · obtain ⟨w, e, hw, _⟩ := h.ref d hd
    rw [e, h.bare c hc] at hp
    obtain ⟨v, hv⟩ := hp
    injection hv with hv _
    exact absurd (by rw [hv]; exact h.amp) hc
  · rw [h.bare c hc, h.bare d hd] at hp
    obtain ⟨v, hv⟩ := hp
    injection hv with hv _
theorem Code.prefix {E : Nat → S} {sp : Nat → Prop} (h : Code E sp) : ∀ (p t : S), p.flatMap E <+: t.flatMap E ↔ p <+: t
  | [], t => by simp
  | c :: p, [] => by
    simp only [List.flatMap_cons, List.flatMap_nil, List.prefix_nil, List.append_eq_nil_iff]
    constructor
    · intro e; exact absurd e.1 (h.ne c)
    · intro e; cases e
  | c :: p, d :: t => by
    rw [List.flatMap_cons, List.flatMap_cons, List.cons_prefix_cons]
    constructor
    · intro hp
      have h1 : E c <+: E d ++ t.flatMap E := (List.prefix_append _ _).trans hp
      have h2 : E d <+: E d ++ t.flatMap E := List.prefix_append _ _
      have hcd : c = d := by
        rcases List.prefix_or_prefix_of_prefix h1 h2 with h3 | h3
        · exact h.inj h3
        · exact (h.inj h3).symm
      subst hcd
      exact ⟨rfl, (h.prefix p t).mp ((List.prefix_append_right_inj (E c)).mp hp)⟩
    · rintro ⟨rfl, hp⟩
      exact (List.prefix_append_right_inj (E c)).mpr ((h.prefix p t).mpr hp)
/-- behind a row of bare signs -/
theorem Code.rest {E : Nat → S} {sp : Nat → Prop} (h : Code E sp) (t : S) : ∀ (w p : S), (∀ d ∈ w, ¬ sp d) →
    (p.flatMap E <+: w ++ t.flatMap E ↔ w.take p.length = p.take w.length ∧ t.take (p.drop w.length).length = p.drop w.length)
  | [], p, _ => by
    rw [List.nil_append, h.prefix]
    simp only [List.take_nil, List.length_nil, List.take_zero, List.drop_zero, true_and]
    rw [List.prefix_iff_eq_take]; exact eq_comm
  | x :: w, [], _ => by simp
  | x :: w, c :: p, hw => by
    have ih := h.rest t w p fun d hd => hw d (List.mem_cons_of_mem _ hd)
    have hx := hw x List.mem_cons_self
    simp only [List.flatMap_cons, List.cons_append, List.length_cons, List.take_succ_cons, List.drop_succ_cons, List.cons.injEq]
    by_cases hc : sp c
    · obtain ⟨v, e, _, _⟩ := h.ref c hc
      rw [e, List.cons_append, List.cons_prefix_cons]
      constructor
      · rintro ⟨e, _⟩; exact absurd (by rw [← e]; exact h.amp) hx
      · rintro ⟨⟨e, _⟩, _⟩; exact absurd (by rw [e]; exact hc) hx
    · rw [h.bare c hc, List.cons_append, List.nil_append, List.cons_prefix_cons, ih]
      constructor
      · rintro ⟨rfl, a, b⟩; exact ⟨⟨rfl, a⟩, b⟩
      · rintro ⟨⟨rfl, a⟩, b⟩; exact ⟨rfl, a, b⟩
end Sx
end
section
open PySem PySem.W PyProof.Rows PySem.Calls
set_option linter.unusedVariables false
set_option Elab.async false
set_option maxRecDepth 100000
namespace Sx
/-! ## law 07 in plain Lean: who owns which sign -/
inductive Bk where
  | f (c : Nat)
  | o (r k : S)
deriving DecidableEq
noncomputable def rendB : Bk → S
  | .f c => [c]
  | .o r _ => r
noncomputable def rend (B : List Bk) : S := B.flatMap rendB
theorem rend_cons (b : Bk) (B : List Bk) : rend (b :: B) = rendB b ++ rend B := List.flatMap_cons
theorem rend_append (A B : List Bk) : rend (A ++ B) = rend A ++ rend B := List.flatMap_append
noncomputable def matchB : S → List Bk → Bool
  | [], _ => true
  | c :: k, .f d :: bs => decide (c = d) && matchB k bs
  | _ :: _, _ => false
noncomputable def passB (key ref : S) : Nat → List Bk → List Bk
  | _, [] => []
  | n + 1, _ :: bs => passB key ref n bs
  | 0, b :: bs => if matchB key (b :: bs) = true then .o ref key :: passB key ref (key.length - 1) bs else b :: passB key ref 0 bs
theorem passB_0 (key ref : S) (b : Bk) (bs : List Bk) : passB key ref 0 (b :: bs) = if matchB key (b :: bs) = true then .o ref key :: passB key ref (key.length - 1) bs else b :: passB key ref 0 bs := by rw [passB]
theorem passB_skip (key ref : S) : ∀ (n : Nat) (B : List Bk), passB key ref n B = passB key ref 0 (B.drop n)
  | 0, B => by rw [List.drop_zero]
  | n + 1, [] => by simp [passB]
  | n + 1, b :: B => by rw [passB, List.drop_succ_cons]; exact passB_skip key ref n B
theorem matchB_spec : ∀ (key : S) (B : List Bk), matchB key B = true → ∃ B', B = key.map Bk.f ++ B'
  | [], B, _ => ⟨B, rfl⟩
  | c :: k, [], h => by cases h
  | c :: k, .o r k' :: B, h => by cases h
  | c :: k, .f d :: B, h => by
    unfold matchB at h
    rw [Bool.and_eq_true, decide_eq_true_eq] at h
    obtain ⟨rfl, h⟩ := h
    obtain ⟨B', rfl⟩ := matchB_spec k B h
    exact ⟨B', rfl⟩
theorem matchB_of : ∀ (key : S) (B' : List Bk), matchB key (key.map Bk.f ++ B') = true
  | [], _ => by unfold matchB; rfl
  | c :: k, B' => by
    rw [List.map_cons, List.cons_append]
    unfold matchB
    rw [matchB_of k B', decide_eq_true rfl]; rfl
theorem rend_f : ∀ x : S, rend (x.map Bk.f) = x
  | [] => rfl
  | c :: r => by rw [List.map_cons, rend_cons, rend_f r]; rfl
/-- owned signs' references have nothing of the key in them -/
noncomputable def Apart (key : S) (B : List Bk) : Prop := ∀ r k, Bk.o r k ∈ B → r ≠ [] ∧ ∀ c ∈ r, c ∉ key
theorem matchB_prefix : ∀ (key : S) (B : List Bk), Apart key B → (matchB key B = true ↔ key <+: rend B)
  | [], B, _ => ⟨fun _ => List.nil_prefix, fun _ => by unfold matchB; rfl⟩
  | c :: k, [], _ => ⟨fun h => by (unfold matchB at h; cases h), fun h => absurd h.length_le (by simp [rend])⟩
  | c :: k, .o r k' :: B, h => by
    constructor
    · intro h; unfold matchB at h; cases h
    · intro hp
      obtain ⟨h1, h2⟩ := h r k' List.mem_cons_self
      match r, h1, h2 with
      | d :: r, h1, h2 =>
        rw [rend_cons] at hp
        have := (List.cons_prefix_cons.mp (show c :: k <+: d :: (r ++ rend B) from hp)).1
        exact absurd (this ▸ List.mem_cons_self) (h2 d List.mem_cons_self)
  | c :: k, .f d :: B, h => by
    have ih := matchB_prefix k B fun r k' hm => ⟨(h r k' (List.mem_cons_of_mem _ hm)).1, fun x hx hk => (h r k' (List.mem_cons_of_mem _ hm)).2 x hx (List.mem_cons_of_mem _ hk)⟩
    rw [rend_cons]
    show (decide (c = d) && matchB k B) = true ↔ c :: k <+: d :: rend B
    rw [Bool.and_eq_true, decide_eq_true_eq, List.cons_prefix_cons, ih]
theorem repl7_ne {y : S} (hy : y ≠ []) (z x : S) : repl y z x = replK y z 0 x := by unfold repl; rw [if_neg hy]
theorem repl7_miss {y : S} (hy : y ≠ []) (z : S) {a : Nat} {x : S} (h : ¬ y <+: a :: x) : repl y z (a :: x) = a :: repl y z x := by
  rw [repl7_ne hy, repl7_ne hy, replK_0, if_neg (fun q => h (List.isPrefixOf_iff_prefix.mp q))]
theorem replK7_drop (y z : S) : ∀ (n : Nat) (x : S), replK y z n x = replK y z 0 (x.drop n)
  | 0, x => by simp
  | n + 1, [] => by simp [replK]
  | n + 1, c :: r => by rw [replK, List.drop_succ_cons]; exact replK7_drop y z n r
theorem repl7_hit {y : S} (hy : y ≠ []) (z x : S) : repl y z (y ++ x) = z ++ repl y z x := by
  rw [repl7_ne hy, repl7_ne hy]
  match y, hy with
  | a :: r, hy =>
    rw [List.cons_append, replK_0, if_pos (List.isPrefixOf_iff_prefix.mpr (by rw [← List.cons_append]; exact List.prefix_append _ _)), replK7_drop]
    congr 1
    rw [List.length_cons, Nat.add_sub_cancel, List.drop_left]
theorem repl7_through {key : S} (hk : key ≠ []) (ref : S) : ∀ (r x : S), (∀ c ∈ r, c ∉ key) → repl key ref (r ++ x) = r ++ repl key ref x
  | [], x, _ => rfl
  | c :: r, x, h => by
    have hm : ¬ key <+: c :: (r ++ x) := fun q => by
      match key, hk, q, h with
      | d :: k, _, q, h => exact h c List.mem_cons_self ((List.cons_prefix_cons.mp q).1 ▸ List.mem_cons_self)
    rw [List.cons_append, repl7_miss hk ref hm, repl7_through hk ref r x fun d hd => h d (List.mem_cons_of_mem _ hd)]; rfl
theorem passB_hit {key ref : S} (hk : key ≠ []) (B' : List Bk) : passB key ref 0 (key.map Bk.f ++ B') = .o ref key :: passB key ref 0 B' := by
  match key, hk with
  | c :: k, hk =>
    have := matchB_of (c :: k) B'
    rw [List.map_cons, List.cons_append] at this ⊢
    rw [passB_0, if_pos this, passB_skip, List.length_cons, Nat.add_sub_cancel, List.drop_left' (by rw [List.length_map])]
/-- one pass: owning goes as replacing does -/
theorem pass_rend {key : S} (hk : key ≠ []) (ref : S) : ∀ (n : Nat) (B : List Bk), B.length ≤ n → Apart key B → repl key ref (rend B) = rend (passB key ref 0 B)
  | n, [], _, _ => by
    rw [repl7_ne hk]
    simp [rend, passB, replK]
  | 0, b :: B, h, _ => by simp at h
  | n + 1, b :: B, h, ha => by
    rw [List.length_cons] at h
    have ha' : Apart key B := fun r k hm => ha r k (List.mem_cons_of_mem _ hm)
    by_cases hm : matchB key (b :: B) = true
    · obtain ⟨B', e⟩ := matchB_spec key (b :: B) hm
      have hl : B'.length ≤ n := by
        have := congrArg List.length e
        rw [List.length_append, List.length_map, List.length_cons] at this
        have := List.length_pos_iff.mpr hk
        omega
      rw [e, passB_hit hk, rend_append, rend_f, repl7_hit hk, rend_cons, pass_rend hk ref n B' hl fun r k hm => ha r k (by rw [e]; exact List.mem_append_right _ hm)]
      rfl
    · rw [passB_0, if_neg hm, rend_cons, rend_cons]
      have ih := pass_rend hk ref n B (by omega) ha'
      cases b with
      | o r k => rw [show rendB (.o r k) = r from rfl, repl7_through hk ref r _ (ha r k List.mem_cons_self).2, ih]
      | f c =>
        have hp : ¬ key <+: c :: rend B := fun q => hm ((matchB_prefix key (.f c :: B) ha).mpr q)
        rw [show rendB (.f c) = [c] from rfl, List.singleton_append, repl7_miss hk ref hp, ih]; rfl
theorem passB_mem {key ref : S} : ∀ (n m : Nat) (B : List Bk), B.length ≤ n → ∀ b ∈ passB key ref m B, b = .o ref key ∨ b ∈ B
  | n, m, [], _, b, h => by simp [passB] at h
  | 0, m, a :: B, hl, b, h => by simp at hl
  | n + 1, m + 1, a :: B, hl, b, h => by
    rw [passB] at h
    exact (passB_mem n m B (by rw [List.length_cons] at hl; omega) b h).imp id fun h => List.mem_cons_of_mem _ h
  | n + 1, 0, a :: B, hl, b, h => by
    rw [List.length_cons] at hl
    rw [passB_0] at h
    split at h
    · rcases List.mem_cons.mp h with rfl | h
      · exact .inl rfl
      · exact (passB_mem n _ B (by omega) b h).imp id fun h => List.mem_cons_of_mem _ h
    · rcases List.mem_cons.mp h with rfl | h
      · exact .inr List.mem_cons_self
      · exact (passB_mem n _ B (by omega) b h).imp id fun h => List.mem_cons_of_mem _ h
noncomputable def ownB (rules : List (S × S)) (B : List Bk) : List Bk := rules.foldl (fun B p => passB p.1 p.2 0 B) B
theorem ownB_mem : ∀ (rules : List (S × S)) (B : List Bk), ∀ b ∈ ownB rules B, (∃ p ∈ rules, b = .o p.2 p.1) ∨ b ∈ B
  | [], B, b, h => .inr h
  | p :: r, B, b, h => by
    rcases ownB_mem r _ b h with ⟨q, hq, e⟩ | h
    · exact .inl ⟨q, List.mem_cons_of_mem _ hq, e⟩
    · rcases passB_mem _ 0 B (Nat.le_refl _) b h with h | h
      · exact .inl ⟨p, List.mem_cons_self, h⟩
      · exact .inr h
/-- rules in a row, none of whose references has a sign of a later key -/
noncomputable def Rules : List (S × S) → Prop
  | [] => True
  | (k, r) :: rs => k ≠ [] ∧ r ≠ [] ∧ (∀ p ∈ rs, ∀ c ∈ r, c ∉ p.1) ∧ Rules rs
theorem own_rend : ∀ (rules : List (S × S)) (B : List Bk), Rules rules → (∀ p ∈ rules, Apart p.1 B) → reps rules (rend B) = rend (ownB rules B)
  | [], B, _, _ => rfl
  | (k, r) :: rs, B, ⟨h1, h2, h3, h4⟩, ha => by
    show reps rs (repl k r (rend B)) = rend (ownB rs (passB k r 0 B))
    rw [pass_rend h1 r _ B (Nat.le_refl _) (ha (k, r) List.mem_cons_self)]
    refine own_rend rs _ h4 fun p hp r' k' hm => ?_
    rcases passB_mem _ 0 B (Nat.le_refl _) _ hm with e | hm
    · injection e with e1 e2
      subst e1
      exact ⟨h2, h3 p hp⟩
    · exact ha p (List.mem_cons_of_mem _ hp) r' k' hm
theorem own_text {rules : List (S × S)} (h : Rules rules) (x : S) : reps rules x = rend (ownB rules (x.map Bk.f)) := by
  have := own_rend rules (x.map Bk.f) h fun p hp r k hm => by simp at hm
  rwa [rend_f] at this

/-! what Python's lists show of it -/
noncomputable abbrev Part := S × S
noncomputable def cellsB : Bk → List Part
  | .f c => [([], [c])]
  | .o r k => (r, k) :: List.replicate (k.length - 1) (r, [])
noncomputable def cells (B : List Bk) : List Part := B.flatMap cellsB
noncomputable def partB : Bk → Part
  | .f c => ([], [c])
  | .o r k => (r, k)
noncomputable def hit7 (key : S) (ps : List Part) : Bool := decide ((((ps.take key.length).filter fun p => decide (p.1 = [])).flatMap (·.2)) = key)
noncomputable def OkB (B : List Bk) : Prop := ∀ r k, Bk.o r k ∈ B → r ≠ [] ∧ k ≠ []
theorem cells_cons (b : Bk) (B : List Bk) : cells (b :: B) = cellsB b ++ cells B := List.flatMap_cons
/-- free signs of a part of the row: each cell gives one at most -/
theorem free_le : ∀ (ps : List Part), (∀ p ∈ ps, p.1 = [] → p.2.length ≤ 1) → ((ps.filter fun p => decide (p.1 = [])).flatMap (·.2)).length ≤ ps.length
  | [], _ => by simp
  | p :: ps, h => by
    have ih := free_le ps fun q hq => h q (List.mem_cons_of_mem _ hq)
    rw [List.filter_cons]
    split
    · rename_i hp
      have := h p List.mem_cons_self (of_decide_eq_true hp)
      rw [List.flatMap_cons, List.length_append, List.length_cons]; omega
    · rw [List.length_cons]; omega
theorem hit_owned {key : S} (hk : key ≠ []) {p : Part} {ps : List Part} (hp : p.1 ≠ []) (h : ∀ q ∈ ps, q.1 = [] → q.2.length ≤ 1) : hit7 key (p :: ps) = false := by
  unfold hit7
  refine decide_eq_false fun e => ?_
  match key, hk with
  | c :: k, hk =>
    rw [List.length_cons, List.take_succ_cons, List.filter_cons, if_neg (by simpa using hp)] at e
    have := free_le (ps.take k.length) fun q hq => h q (List.mem_of_mem_take hq)
    rw [e, List.length_cons, List.length_take] at this
    omega
theorem cells_free (B : List Bk) (h : OkB B) : ∀ q ∈ cells B, q.1 = [] → q.2.length ≤ 1 := by
  intro q hq hq1
  obtain ⟨b, hb, hq⟩ := List.mem_flatMap.mp hq
  cases b with
  | f c => rw [List.mem_singleton.mp hq]; exact Nat.le_refl _
  | o r k =>
    obtain ⟨h1, _⟩ := h r k hb
    rcases List.mem_cons.mp hq with rfl | hq
    · exact absurd hq1 h1
    · rw [(List.mem_replicate.mp hq).2]; exact Nat.zero_le _
theorem free_full : ∀ (key : S) (B : List Bk), OkB B → (((cells B).take key.length).filter fun p => decide (p.1 = [])).flatMap (·.2) = key → matchB key B = true
  | [], B, _, _ => by unfold matchB; rfl
  | c :: k, [], _, e => by simp [cells] at e
  | c :: k, .o r k' :: B, h, e => by
    obtain ⟨h1, _⟩ := h r k' List.mem_cons_self
    have := hit_owned (key := c :: k) (p := (r, k')) (ps := List.replicate (k'.length - 1) (r, []) ++ cells B) (by simp) h1 fun q hq hq1 => by
      rcases List.mem_append.mp hq with hq | hq
      · rw [(List.mem_replicate.mp hq).2] at hq1; exact absurd hq1 h1
      · exact cells_free B (fun r k hm => h r k (List.mem_cons_of_mem _ hm)) q hq hq1
    unfold hit7 at this
    exact absurd e (of_decide_eq_false this)
  | c :: k, .f d :: B, h, e => by
    rw [cells_cons, show cellsB (.f d) = [([], [d])] from rfl, List.singleton_append, List.length_cons, List.take_succ_cons, List.filter_cons, if_pos (by rfl), List.flatMap_cons] at e
    have e : d :: _ = c :: k := e
    injection e with e1 e2
    subst e1
    have := free_full k B (fun r k hm => h r k (List.mem_cons_of_mem _ hm)) e2
    unfold matchB
    rw [this, decide_eq_true rfl]; rfl
theorem cells_f : ∀ x : S, cells (x.map Bk.f) = x.map fun c => ([], [c])
  | [] => rfl
  | c :: r => by rw [List.map_cons, cells_cons, cells_f r]; rfl
theorem cells_append (A B : List Bk) : cells (A ++ B) = cells A ++ cells B := List.flatMap_append
theorem hit_match {key : S} (B : List Bk) (h : OkB B) : hit7 key (cells B) = matchB key B := by
  cases hm : matchB key B with
  | true =>
    obtain ⟨B', rfl⟩ := matchB_spec key B hm
    unfold hit7
    refine decide_eq_true ?_
    rw [cells_append, cells_f, List.take_left' (by rw [List.length_map])]
    have : ∀ x : S, ((x.map fun c => (([], [c]) : Part)).filter fun p => decide (p.1 = [])).flatMap (·.2) = x := by
      intro x
      induction x with
      | nil => rfl
      | cons c r ih => rw [List.map_cons, List.filter_cons, if_pos (by rfl), List.flatMap_cons, ih]; rfl
    exact this key
  | false =>
    unfold hit7
    refine decide_eq_false fun e => ?_
    rw [free_full key B h e] at hm
    cases hm
theorem parts_own : ∀ (B : List Bk), OkB B → (cells B).filter (fun p => decide (p.2 ≠ [])) = B.map partB
  | [], _ => rfl
  | b :: B, h => by
    rw [cells_cons, List.filter_append, parts_own B fun r k hm => h r k (List.mem_cons_of_mem _ hm), List.map_cons]
    have : (cellsB b).filter (fun p => decide (p.2 ≠ [])) = [partB b] := by
      cases b with
      | f c => rfl
      | o r k =>
        show ((r, k) :: List.replicate (k.length - 1) ((r, []) : Part)).filter _ = [(r, k)]
        rw [List.filter_cons, if_pos (by simpa using (h r k List.mem_cons_self).2)]
        congr 1
        exact List.filter_eq_nil_iff.mpr fun p hp => by rw [(List.mem_replicate.mp hp).2]; simp
    rw [this]; rfl
end Sx
end
section
open PySem PySem.W PyProof.Rows PySem.Calls
set_option linter.unusedVariables false
set_option Elab.async false
set_option maxRecDepth 100000
namespace Sx
noncomputable def stepP (key ref : S) (ps : List Part) (i : Nat) : List Part := if hit7 key (ps.drop i) = true then ps.take i ++ [(ref, key)] ++ List.replicate (key.length - 1) (ref, []) ++ ps.drop (i + key.length) else ps
/-- the row of cells when the first i places have been looked at; what it comes to -/
noncomputable def At7 (key ref : S) (i : Nat) (ps fin : List Part) : Prop := ∃ (done : List Part) (j : Nat) (r0 : S) (B : List Bk), r0 ≠ [] ∧ ps = done ++ (List.replicate j (r0, []) ++ cells B) ∧ done.length = i ∧ OkB B ∧ fin = done ++ (List.replicate j (r0, []) ++ cells (passB key ref 0 B))
theorem at7_start {key ref : S} (B : List Bk) (h : OkB B) : At7 key ref 0 (cells B) (cells (passB key ref 0 B)) := ⟨[], 0, [0], B, by simp, rfl, rfl, h, rfl⟩
theorem okB_tail {b : Bk} {B : List Bk} (h : OkB (b :: B)) : OkB B := fun r k hm => h r k (List.mem_cons_of_mem _ hm)
theorem passB_ok {key ref : S} (hk : key ≠ []) (hr : ref ≠ []) {B : List Bk} (h : OkB B) (n : Nat) : OkB (passB key ref n B) := by
  intro r k hm
  rcases passB_mem _ n B (Nat.le_refl _) _ hm with e | hm
  · injection e with e1 e2
    subst e1 e2
    exact ⟨hr, hk⟩
  · exact h r k hm
theorem cells_pos : ∀ {b : Bk}, 1 ≤ (cellsB b).length
  | .f c => Nat.le_refl _
  | .o r k => by show 1 ≤ (List.replicate _ _).length + 1; omega
theorem at7_step {key ref : S} (hk : key ≠ []) (hr : ref ≠ []) {i : Nat} {ps fin : List Part} (h : At7 key ref i ps fin) (hi : i < ps.length) : At7 key ref (i + 1) (stepP key ref ps i) fin ∧ (stepP key ref ps i).length = ps.length := by
  obtain ⟨done, j, r0, B, h0, rfl, hd, hB, rfl⟩ := h
  have hdrop : (done ++ (List.replicate j ((r0, []) : Part) ++ cells B)).drop i = List.replicate j (r0, []) ++ cells B := by rw [← hd, List.drop_left]
  have htake : (done ++ (List.replicate j ((r0, []) : Part) ++ cells B)).take i = done := by rw [← hd, List.take_left]
  unfold stepP
  rw [hdrop, htake]
  cases j with
  | succ j =>
    have hn : hit7 key (List.replicate (j + 1) ((r0, []) : Part) ++ cells B) = false := by
      rw [List.replicate_succ, List.cons_append]
      refine hit_owned hk h0 fun q hq hq1 => ?_
      rcases List.mem_append.mp hq with hq | hq
      · rw [(List.mem_replicate.mp hq).2] at hq1; exact absurd hq1 h0
      · exact cells_free B hB q hq hq1
    rw [if_neg (by rw [hn]; decide)]
    refine ⟨⟨done ++ [(r0, [])], j, r0, B, h0, ?_, by rw [List.length_append, hd]; rfl, hB, ?_⟩, rfl⟩
    · rw [List.replicate_succ]; simp
    · rw [List.replicate_succ]; simp
  | zero =>
    rw [List.replicate_zero, List.nil_append] at *
    rw [hit_match B hB]
    match B, hB, hi, hdrop with
    | [], hB, hi, _ => simp [cells, hd] at hi
    | b :: B, hB, hi, hdrop =>
      by_cases hm : matchB key (b :: B) = true
      · rw [if_pos hm]
        obtain ⟨B', e⟩ := matchB_spec key (b :: B) hm
        have hB' : OkB B' := fun r k hmm => hB r k (by rw [e]; exact List.mem_append_right _ hmm)
        have hd2 : (done ++ cells (b :: B)).drop (i + key.length) = cells B' := by
          rw [e, cells_append, cells_f, ← List.append_assoc, List.drop_left' (by rw [List.length_append, List.length_map, hd])]
        rw [hd2]
        refine ⟨⟨done ++ [(ref, key)], key.length - 1, ref, B', hr, by simp, by rw [List.length_append, hd]; rfl, hB', ?_⟩, ?_⟩
        · rw [e, passB_hit hk, cells_cons]
          show done ++ ((ref, key) :: List.replicate (key.length - 1) (ref, []) ++ cells (passB key ref 0 B')) = _
          simp
        · rw [e, cells_append, cells_f]
          simp only [List.length_append, List.length_cons, List.length_nil, List.length_replicate, List.length_map]
          have := List.length_pos_iff.mpr hk
          omega
      · rw [if_neg hm]
        refine ⟨?_, rfl⟩
        have hp : passB key ref 0 (b :: B) = b :: passB key ref 0 B := by rw [passB_0, if_neg hm]
        rw [hp]
        cases b with
        | f c => exact ⟨done ++ [([], [c])], 0, [0], B, by simp, by rw [cells_cons]; simp [cellsB], by rw [List.length_append, hd]; rfl, okB_tail hB, by rw [cells_cons]; simp [cellsB]⟩
        | o r k => exact ⟨done ++ [(r, k)], k.length - 1, r, B, (hB r k List.mem_cons_self).1, by rw [cells_cons]; simp [cellsB], by rw [List.length_append, hd]; rfl, okB_tail hB, by rw [cells_cons]; simp [cellsB]⟩
theorem at7_end {key ref : S} {ps fin : List Part} (h : At7 key ref ps.length ps fin) : ps = fin := by
  obtain ⟨done, j, r0, B, h0, e, hd, hB, rfl⟩ := h
  have hl := congrArg List.length e
  rw [List.length_append, hd, List.length_append, List.length_replicate] at hl
  have hj : j = 0 := by omega
  have hc : (cells B).length = 0 := by omega
  subst hj
  match B, hc, e with
  | [], _, e => rw [e]; simp [passB]
  | b :: B, hc, e =>
    rw [cells_cons, List.length_append] at hc
    have := cells_pos (b := b)
    omega
theorem cells_pass_len {key ref : S} (hk : key ≠ []) (hr : ref ≠ []) {B : List Bk} (hB : OkB B) : (cells (passB key ref 0 B)).length = (cells B).length := by
  have go : ∀ (n i : Nat) (ps : List Part), ps.length - i = n → i ≤ ps.length → At7 key ref i ps (cells (passB key ref 0 B)) → (cells (passB key ref 0 B)).length = ps.length := by
    intro n
    induction n with
    | zero =>
      intro i ps hn hi h
      have : i = ps.length := by omega
      subst this
      rw [← at7_end h]
    | succ n ih =>
      intro i ps hn hi h
      obtain ⟨s1, s2⟩ := at7_step hk hr h (by omega)
      rw [ih (i + 1) (stepP key ref ps i) (by rw [s2]; omega) (by rw [s2]; omega) s1, s2]
  exact go _ 0 (cells B) rfl (Nat.zero_le _) (at7_start B hB)
/-- all rules -/
theorem own_ok : ∀ (rules : List (S × S)) (B : List Bk), (∀ p ∈ rules, p.1 ≠ [] ∧ p.2 ≠ []) → OkB B → OkB (ownB rules B) ∧ (cells (ownB rules B)).length = (cells B).length
  | [], B, _, h => ⟨h, rfl⟩
  | (k, r) :: rs, B, hp, h => by
    obtain ⟨h1, h2⟩ := hp (k, r) List.mem_cons_self
    obtain ⟨i1, i2⟩ := own_ok rs (passB k r 0 B) (fun p hq => hp p (List.mem_cons_of_mem _ hq)) (passB_ok h1 h2 h 0)
    exact ⟨i1, by rw [show ownB ((k, r) :: rs) B = ownB rs (passB k r 0 B) from rfl, i2, cells_pass_len h1 h2 h]⟩
theorem okB_f (x : S) : OkB (x.map Bk.f) := fun r k hm => by simp at hm

/-! reading it back -/
/-- a reference: &, a name, ; -/
noncomputable def IsRef (r : S) : Prop := ∃ nm : S, r = 38 :: (nm ++ [59]) ∧ 59 ∉ nm
/-- what the reader can tell apart -/
noncomputable def Told7 (names : S → Option S) (B : List Bk) : Prop := (∀ c, Bk.f c ∈ B → c ≠ 38) ∧ ∀ r k, Bk.o r k ∈ B → IsRef r ∧ names r = some k
theorem pass_one {d : Nat} {ref : S} : ∀ (B : List Bk), Bk.f d ∉ passB [d] ref 0 B
  | [] => by simp [passB]
  | .f c :: B => by
    rw [passB_0]
    by_cases h : matchB [d] (.f c :: B) = true
    · rw [if_pos h]
      intro hm
      rcases List.mem_cons.mp hm with e | hm
      · cases e
      · exact pass_one B hm
    · rw [if_neg h]
      intro hm
      rcases List.mem_cons.mp hm with e | hm
      · injection e with e
        subst e
        exact h (matchB_of [d] B)
      · exact pass_one B hm
  | .o r k :: B => by
    rw [passB_0, if_neg (by intro h; unfold matchB at h; cases h)]
    intro hm
    rcases List.mem_cons.mp hm with e | hm
    · cases e
    · exact pass_one B hm
/-- a sign that is a key by itself is nowhere free -/
theorem own_one {d : Nat} : ∀ (rules : List (S × S)) (B : List Bk), (∃ p ∈ rules, p.1 = [d]) → Bk.f d ∉ ownB rules B
  | [], B, h => by obtain ⟨p, hp, _⟩ := h; cases hp
  | (k, r) :: rs, B, h => by
    obtain ⟨p, hp, e⟩ := h
    intro hm
    rcases List.mem_cons.mp hp with rfl | hp
    · have e : k = [d] := e
      subst e
      rcases ownB_mem rs _ _ hm with ⟨q, _, e⟩ | hm
      · cases e
      · exact pass_one B hm
    · exact own_one rs _ ⟨p, hp, e⟩ hm
end Sx
end
section
open PySem PySem.W PyProof.Rows PySem.Calls
set_option linter.unusedVariables false
set_option Elab.async false
set_option maxRecDepth 100000
namespace Sx
noncomputable def KS : S := [60, 62, 34, 39, 10, 13, 9, 32, 45, 233]
noncomputable def dig (i : Nat) : S := lit (toString (i : Int))
noncomputable def entRef (i : Nat) : S := 38 :: 101 :: (dig i ++ [59])
noncomputable def digV (s : S) : Nat := s.foldl (fun n c => n * 10 + (c - 48)) 0
theorem dig_ok : ∀ i < 80, digV (dig i) = i ∧ (dig i).length ≤ 2 ∧ ∀ c ∈ dig i, 48 ≤ c ∧ c ≤ 57 := by decide +kernel
theorem entRef_inj {i j : Nat} (hi : i < 80) (hj : j < 80) (h : entRef i = entRef j) : i = j := by
  unfold entRef at h
  injection h with _ h
  injection h with _ h
  have := List.append_cancel_right h
  rw [← (dig_ok i hi).1, ← (dig_ok j hj).1, this]
noncomputable def Ref7 (r : S) : Prop := IsRef r ∧ r.length ≤ 6 ∧ ∀ c ∈ r, c ∉ KS
theorem entRef_ok {i : Nat} (hi : i < 80) : Ref7 (entRef i) := by
  obtain ⟨_, h2, h3⟩ := dig_ok i hi
  refine ⟨⟨101 :: dig i, rfl, fun hm => ?_⟩, ?_, fun c hc => ?_⟩
  · rcases List.mem_cons.mp hm with e | hm
    · cases e
    · have := h3 _ hm; omega
  · unfold entRef; simp only [List.length_cons, List.length_append, List.length_nil]; omega
  · unfold entRef at hc
    simp only [List.mem_cons, List.mem_append, List.not_mem_nil, or_false] at hc
    unfold KS
    rcases hc with rfl | rfl | hc | rfl
    · decide
    · decide
    · have := h3 c hc
      simp only [List.mem_cons, List.not_mem_nil, or_false]; omega
    · decide
noncomputable def pairs7 : Nat → List S → List (S × S)
  | _, [] => []
  | n, k :: ks => (k, entRef n) :: pairs7 (n + 1) ks
theorem pairs7_append : ∀ (n : Nat) (a b : List S), pairs7 n (a ++ b) = pairs7 n a ++ pairs7 (n + a.length) b
  | n, [], b => by simp [pairs7]
  | n, k :: a, b => by
    rw [List.cons_append]
    show (k, entRef n) :: pairs7 (n + 1) (a ++ b) = _
    rw [pairs7_append (n + 1) a b, List.length_cons, Nat.add_right_comm]; rfl
theorem pairs7_keys : ∀ (n : Nat) (a : List S), (pairs7 n a).map (·.1) = a
  | n, [] => rfl
  | n, k :: a => by show k :: (pairs7 (n + 1) a).map (·.1) = _; rw [pairs7_keys (n + 1) a]
theorem pairs7_mem : ∀ (n : Nat) (a : List S) (p : S × S), p ∈ pairs7 n a → p.1 ∈ a ∧ ∃ i, n ≤ i ∧ i < n + a.length ∧ p.2 = entRef i
  | n, [], p, h => by cases h
  | n, k :: a, p, h => by
    rcases List.mem_cons.mp h with rfl | h
    · exact ⟨List.mem_cons_self, n, Nat.le_refl _, by rw [List.length_cons]; omega, rfl⟩
    · obtain ⟨h1, i, h2, h3, h4⟩ := pairs7_mem (n + 1) a p h
      exact ⟨List.mem_cons_of_mem _ h1, i, by omega, by rw [List.length_cons]; omega, h4⟩
theorem pairs7_fun : ∀ (n : Nat) (a : List S), n + a.length ≤ 80 → ∀ p ∈ pairs7 n a, ∀ q ∈ pairs7 n a, p.2 = q.2 → p = q
  | n, [], hn, p, hp, q, hq, e => by cases hp
  | n, k :: a, hn, p, hp, q, hq, e => by
    rw [List.length_cons] at hn
    rcases List.mem_cons.mp hp with rfl | hp <;> rcases List.mem_cons.mp hq with rfl | hq
    · rfl
    · obtain ⟨_, i, h2, h3, h4⟩ := pairs7_mem _ _ _ hq
      have := entRef_inj (by omega) (by omega) (e.trans h4); omega
    · obtain ⟨_, i, h2, h3, h4⟩ := pairs7_mem _ _ _ hp
      have := entRef_inj (by omega) (by omega) (e.symm.trans h4); omega
    · exact pairs7_fun (n + 1) a (by omega) p hp q hq e
noncomputable def first7 : List (S × S) := [([38], lit "&amp;"), ([60], lit "&lt;"), ([62], lit "&gt;")]
noncomputable def esc7 : List (S × S) := [([38], lit "&amp;"), ([62], lit "&gt;"), ([60], lit "&lt;")]
noncomputable def own7 : List (S × S) := [([10], lit "&#10;"), ([13], lit "&#13;"), ([9], lit "&#9;")]
noncomputable def Good7 (R : List (S × S)) : Prop := ∀ p ∈ R, p.1 ≠ [] ∧ (∀ c ∈ p.1, c ∈ KS) ∧ Ref7 p.2
theorem Good7.rules : ∀ {R : List (S × S)}, Good7 R → Rules R
  | [], _ => trivial
  | (k, r) :: R, h => by
    obtain ⟨h1, h2, ⟨nm, e, _⟩, _, h4⟩ := h (k, r) List.mem_cons_self
    have e : r = 38 :: (nm ++ [59]) := e
    refine ⟨h1, by rw [e]; simp, fun p hp c hc hk => h4 c hc ((h p (List.mem_cons_of_mem _ hp)).2.1 c hk), Good7.rules fun p hp => h p (List.mem_cons_of_mem _ hp)⟩
theorem ref7_lit {r nm : S} (h : r = 38 :: (nm ++ [59])) (h2 : 59 ∉ nm) (h3 : r.length ≤ 6) (h4 : ∀ c ∈ r, c ∉ KS) : Ref7 r := ⟨⟨nm, h, h2⟩, h3, h4⟩
theorem ref_amp : Ref7 (lit "&amp;") := ref7_lit (nm := lit "amp") rfl (by decide) (by decide) (by decide)
theorem ref_lt : Ref7 (lit "&lt;") := ref7_lit (nm := lit "lt") rfl (by decide) (by decide) (by decide)
theorem ref_gt : Ref7 (lit "&gt;") := ref7_lit (nm := lit "gt") rfl (by decide) (by decide) (by decide)
theorem ref_quot : Ref7 (lit "&quot;") := ref7_lit (nm := lit "quot") rfl (by decide) (by decide) (by decide)
theorem ref_10 : Ref7 (lit "&#10;") := ref7_lit (nm := lit "#10") rfl (by decide) (by decide) (by decide)
theorem ref_13 : Ref7 (lit "&#13;") := ref7_lit (nm := lit "#13") rfl (by decide) (by decide) (by decide)
theorem ref_9 : Ref7 (lit "&#9;") := ref7_lit (nm := lit "#9") rfl (by decide) (by decide) (by decide)
/-- & first, then rules that are good -/
theorem rules_amp {R : List (S × S)} (h : Good7 R) : Rules (([38], lit "&amp;") :: R) :=
  ⟨by decide, by decide, fun p hp c hc hk => ref_amp.2.2 c hc ((h p hp).2.1 c hk), h.rules⟩
theorem good_first {R : List (S × S)} (h : Good7 R) : Good7 (([60], lit "&lt;") :: ([62], lit "&gt;") :: R) := fun p hp => by
  rcases List.mem_cons.mp hp with rfl | hp
  · exact ⟨by decide, by decide, ref_lt⟩
  · rcases List.mem_cons.mp hp with rfl | hp
    · exact ⟨by decide, by decide, ref_gt⟩
    · exact h p hp
theorem good_esc {R : List (S × S)} (h : Good7 R) : Good7 (([62], lit "&gt;") :: ([60], lit "&lt;") :: R) := fun p hp => by
  rcases List.mem_cons.mp hp with rfl | hp
  · exact ⟨by decide, by decide, ref_gt⟩
  · rcases List.mem_cons.mp hp with rfl | hp
    · exact ⟨by decide, by decide, ref_lt⟩
    · exact h p hp
theorem rules_first {R : List (S × S)} (h : Good7 R) : Rules (first7 ++ R) := rules_amp (good_first h)
theorem rules_esc {R : List (S × S)} (h : Good7 R) : Rules (esc7 ++ R) := rules_amp (good_esc h)
theorem one_first : ∀ w ∈ first7, One w := by
  intro w hw
  simp only [first7, List.mem_cons, List.not_mem_nil, or_false] at hw
  rcases hw with rfl | rfl | rfl <;> exact ⟨_, rfl⟩
theorem one_esc : ∀ w ∈ esc7, One w := by
  intro w hw
  simp only [esc7, List.mem_cons, List.not_mem_nil, or_false] at hw
  rcases hw with rfl | rfl | rfl <;> exact ⟨_, rfl⟩
/-- escape's order of the three comes to the same -/
theorem esc_first (x : S) : reps esc7 x = reps first7 x := by
  rw [reps_flatMap esc7 one_esc, reps_flatMap first7 one_first]
  refine flatMap_congrN fun c _ => ?_
  by_cases h1 : c = 38
  · subst h1; decide +kernel
  by_cases h2 : c = 60
  · subst h2; decide +kernel
  by_cases h3 : c = 62
  · subst h3; decide +kernel
  rw [reps_inert esc7 c fun w hw => ⟨one_esc w hw, ?_⟩, reps_inert first7 c fun w hw => ⟨one_first w hw, ?_⟩]
  all_goals
    simp only [esc7, first7, List.mem_cons, List.not_mem_nil, or_false] at hw
    rcases hw with rfl | rfl | rfl <;> (intro e; simp at e; omega)
noncomputable def blocks7 (R : List (S × S)) (x : S) : List Bk := ownB (first7 ++ R) (x.map Bk.f)
theorem esc_blocks {R : List (S × S)} (h : Good7 R) (x : S) : reps (esc7 ++ R) x = rend (blocks7 R x) := by
  rw [reps_append, esc_first, ← reps_append]
  exact own_text (rules_first h) x
theorem passB_len (key ref : S) : ∀ (n : Nat) (B : List Bk) (m : Nat), B.length ≤ n → (passB key ref m B).length ≤ B.length
  | n, [], m, _ => by simp [passB]
  | 0, b :: B, m, h => by simp at h
  | n + 1, b :: B, m + 1, h => by
    rw [List.length_cons] at h
    rw [passB, List.length_cons]
    have := passB_len key ref n B m (by omega); omega
  | n + 1, b :: B, 0, h => by
    rw [List.length_cons] at h
    rw [passB_0]
    split
    · have := passB_len key ref n B (key.length - 1) (by omega)
      rw [List.length_cons, List.length_cons]; omega
    · have := passB_len key ref n B 0 (by omega)
      rw [List.length_cons, List.length_cons]; omega
noncomputable def Short (B : List Bk) : Prop := ∀ b ∈ B, (rendB b).length ≤ 6
theorem rend_len : ∀ (B : List Bk), Short B → (rend B).length ≤ B.length * 6
  | [], _ => Nat.le_refl _
  | b :: B, h => by
    have h1 := h b List.mem_cons_self
    have h2 := rend_len B fun b hb => h b (List.mem_cons_of_mem _ hb)
    rw [rend_cons, List.length_append, List.length_cons, Nat.succ_mul]; omega
theorem short_pass {key ref : S} (hr : ref.length ≤ 6) {B : List Bk} (h : Short B) : Short (passB key ref 0 B) := fun b hb => by
  rcases passB_mem _ 0 B (Nat.le_refl _) b hb with rfl | hb
  · exact hr
  · exact h b hb
theorem repOkG_own (hsz : sizeLine = 16777216) : ∀ (rules : List (S × S)) (B : List Bk), Rules rules → (∀ p ∈ rules, p.2.length ≤ 6) → (∀ p ∈ rules, Apart p.1 B) → Short B → B.length ≤ 1000 → RepOkG rules (rend B)
  | [], B, _, _, _, _, _ => trivial
  | (k, r) :: rs, B, ⟨h1, h2, h3, h4⟩, hl, ha, hs, hB => by
    have hr := hl (k, r) List.mem_cons_self
    have h5 := rend_len B hs
    refine ⟨?_, ?_⟩
    · have : ((rend B).length + 1) * r.length ≤ ((rend B).length + 1) * 6 := Nat.mul_le_mul_left _ hr
      omega
    · rw [pass_rend h1 r _ B (Nat.le_refl _) (ha (k, r) List.mem_cons_self)]
      refine repOkG_own hsz rs _ h4 (fun p hp => hl p (List.mem_cons_of_mem _ hp)) (fun p hp r' k' hm => ?_) (short_pass hr hs) ?_
      · rcases passB_mem _ 0 B (Nat.le_refl _) _ hm with e | hm
        · injection e with e1 e2
          subst e1
          exact ⟨h2, h3 p hp⟩
        · exact ha p (List.mem_cons_of_mem _ hp) r' k' hm
      · have := passB_len k r _ B 0 (Nat.le_refl _); omega
theorem short_f (x : S) : Short (x.map Bk.f) := fun b hb => by
  obtain ⟨c, _, rfl⟩ := List.mem_map.mp hb
  show (1 : Nat) ≤ 6; omega
theorem esc_ok (hsz : sizeLine = 16777216) {R : List (S × S)} (h : Good7 R) {x : S} (hx : x.length ≤ 1000) : RepOkG (esc7 ++ R) x := by
  have := repOkG_own hsz (esc7 ++ R) (x.map Bk.f) (rules_esc h) (fun p hp => ?_) (fun p hp r k hm => by simp at hm) (short_f x) (by rw [List.length_map]; exact hx)
  · rwa [rend_f] at this
  · rcases List.mem_append.mp hp with hp | hp
    · simp only [esc7, List.mem_cons, List.not_mem_nil, or_false] at hp
      rcases hp with rfl | rfl | rfl <;> decide
    · exact (h p hp).2.2.2.1
theorem ownB_len : ∀ (rules : List (S × S)) (B : List Bk), (ownB rules B).length ≤ B.length
  | [], B => Nat.le_refl _
  | (k, r) :: rs, B => by
    have := ownB_len rs (passB k r 0 B)
    have := passB_len k r _ B 0 (Nat.le_refl _)
    show (ownB rs (passB k r 0 B)).length ≤ _; omega
/-- what owned signs' references are -/
theorem blocks_mem {R : List (S × S)} (h : Good7 R) {x : S} {b : Bk} (hb : b ∈ blocks7 R x) : (∃ p ∈ first7 ++ R, b = .o p.2 p.1) ∨ ∃ c, b = .f c := by
  rcases ownB_mem _ _ _ hb with h | h
  · exact .inl h
  · obtain ⟨c, _, rfl⟩ := List.mem_map.mp h
    exact .inr ⟨c, rfl⟩
theorem first_ref {R : List (S × S)} (h : Good7 R) : ∀ p ∈ first7 ++ R, p.1 ≠ [] ∧ Ref7 p.2 := fun p hp => by
  rcases List.mem_append.mp hp with hp | hp
  · simp only [first7, List.mem_cons, List.not_mem_nil, or_false] at hp
    rcases hp with rfl | rfl | rfl
    · exact ⟨by decide, ref_amp⟩
    · exact ⟨by decide, ref_lt⟩
    · exact ⟨by decide, ref_gt⟩
  · exact ⟨(h p hp).1, (h p hp).2.2⟩
theorem Ref7.ne {r : S} (h : Ref7 r) : r ≠ [] := by obtain ⟨⟨nm, e, _⟩, _⟩ := h; rw [e]; simp
theorem blocks_ok {R : List (S × S)} (h : Good7 R) (x : S) : OkB (blocks7 R x) ∧ Short (blocks7 R x) ∧ ∀ d, (d = 38 ∨ d = 60) → .f d ∉ blocks7 R x := by
  refine ⟨fun r k hm => ?_, fun b hb => ?_, fun d hd => own_one _ _ ?_⟩
  · rcases blocks_mem h hm with ⟨p, hp, e⟩ | ⟨c, e⟩
    · injection e with e1 e2
      subst e1 e2
      exact ⟨(first_ref h p hp).2.ne, (first_ref h p hp).1⟩
    · cases e
  · rcases blocks_mem h hb with ⟨p, hp, rfl⟩ | ⟨c, rfl⟩
    · exact (first_ref h p hp).2.2.1
    · show (1 : Nat) ≤ 6; omega
  · rcases hd with rfl | rfl
    · exact ⟨_, List.mem_append_left _ List.mem_cons_self, rfl⟩
    · exact ⟨_, List.mem_append_left _ (List.mem_cons_of_mem _ List.mem_cons_self), rfl⟩
/-- a sign that no reference has: it stands there if it stands there free -/
theorem mem_rend {B : List Bk} {d : Nat} (h : ∀ r k, Bk.o r k ∈ B → d ∉ r) : d ∈ rend B ↔ .f d ∈ B := by
  unfold rend
  rw [List.mem_flatMap]
  constructor
  · rintro ⟨b, hb, hd⟩
    cases b with
    | f c =>
      have : d = c := by simpa [rendB] using hd
      exact this ▸ hb
    | o r k => exact absurd hd (h r k hb)
  · exact fun hb => ⟨_, hb, by simp [rendB]⟩
theorem blocks_no {R : List (S × S)} (h : Good7 R) {x : S} {d : Nat} (hd : d ∈ KS) : ∀ r k, Bk.o r k ∈ blocks7 R x → d ∉ r := fun r k hm hdr => by
  rcases blocks_mem h hm with ⟨p, hp, e⟩ | ⟨c, e⟩
  · injection e with e1 e2
    subst e1
    exact (first_ref h p hp).2.2.2 d hdr hd
  · cases e
end Sx
end
section
open PySem PySem.W PyProof.Rows PySem.Calls
set_option linter.unusedVariables false
set_option Elab.async false
set_option maxRecDepth 100000
namespace Sx
/-! the table with quoteattr's own three -/
noncomputable def ks7 (P : List (S × S)) : List S := P.map (·.1)
noncomputable def own7V (k r : S) : S := if k = [10] then lit "&#10;" else if k = [13] then lit "&#13;" else if k = [9] then lit "&#9;" else r
noncomputable def inner7 (P : List (S × S)) : List (S × S) := P.map (fun p => (p.1, own7V p.1 p.2)) ++ own7.filter fun p => decide (p.1 ∉ ks7 P)
theorem tset1_eq : ∀ (P : List (S × S)) (k v : S), (ks7 P).Nodup → tset1 P k v = P.map (fun p => if p.1 = k then (p.1, v) else p) ++ if k ∈ ks7 P then [] else [(k, v)]
  | [], k, v, _ => by simp [tset1, ks7]
  | (k', v') :: P, k, v, h => by
    rw [ks7, List.map_cons, List.nodup_cons] at h
    show (if k' = k then _ else _) = _
    by_cases e : k' = k
    · subst e
      rw [if_pos rfl, List.map_cons, if_pos rfl, if_pos (by simp [ks7]), List.append_nil]
      congr 1
      refine (List.map_id P).symm.trans (List.map_congr_left fun p hp => ?_)
      have hne : p.1 ≠ k' := fun q => h.1 (List.mem_map.mpr ⟨p, hp, q⟩)
      rw [if_neg hne]; rfl
    · rw [if_neg e, List.map_cons, if_neg e, tset1_eq P k v h.2, List.cons_append]
      have : (k ∈ ks7 ((k', v') :: P)) = (k ∈ ks7 P) := by
        unfold ks7
        rw [List.map_cons, List.mem_cons]
        exact propext ⟨fun q => q.resolve_left fun q => e q.symm, .inr⟩
      simp only [this]
theorem tset1_new {P : List (S × S)} {k v : S} (h : k ∉ ks7 P) : tset1 P k v = P ++ [(k, v)] := by
  induction P with
  | nil => rfl
  | cons p P ih =>
    obtain ⟨k', v'⟩ := p
    unfold ks7 at h
    rw [List.map_cons, List.mem_cons] at h
    show (if k' = k then _ else _) = _
    rw [if_neg (fun q => h (.inl q.symm)), ih (fun q => h (.inr q))]; rfl
theorem keys_map {P : List (S × S)} {f : S × S → S × S} (h : ∀ p, (f p).1 = p.1) : ks7 (P.map f) = ks7 P := by
  unfold ks7
  rw [List.map_map]
  exact List.map_congr_left fun p _ => h p
theorem tset1_keys {P : List (S × S)} {k v : S} (h : (ks7 P).Nodup) : ks7 (tset1 P k v) = ks7 P ++ (if k ∈ ks7 P then [] else [k]) ∧ (ks7 (tset1 P k v)).Nodup := by
  have e : ks7 (tset1 P k v) = ks7 P ++ (if k ∈ ks7 P then [] else [k]) := by
    rw [tset1_eq P k v h]
    show List.map _ (_ ++ _) = _
    rw [List.map_append]
    show ks7 _ ++ _ = _
    rw [keys_map fun p => by (split <;> rfl)]
    congr 1
    split <;> rfl
  refine ⟨e, ?_⟩
  rw [e]
  split
  · rw [List.append_nil]; exact h
  · rename_i hk
    refine List.nodup_append.mpr ⟨h, by simp, fun a ha b hb => ?_⟩
    rw [List.mem_singleton] at hb
    subst hb
    exact fun q => hk (q ▸ ha)
theorem tput_own {P : List (S × S)} (h : (ks7 P).Nodup) : tput P own7 = inner7 P := by
  have h1 := tset1_keys (k := [10]) (v := lit "&#10;") h
  have h2 := tset1_keys (k := [13]) (v := lit "&#13;") h1.2
  show tset1 (tset1 (tset1 P [10] (lit "&#10;")) [13] (lit "&#13;")) [9] (lit "&#9;") = _
  have m2 : ([13] ∈ ks7 (tset1 P [10] (lit "&#10;"))) = ([13] ∈ ks7 P) := by
    rw [h1.1, List.mem_append]
    exact propext ⟨fun q => q.resolve_right fun q => by split at q <;> simp at q, .inl⟩
  have m3 : ([9] ∈ ks7 (tset1 (tset1 P [10] (lit "&#10;")) [13] (lit "&#13;"))) = ([9] ∈ ks7 P) := by
    rw [h2.1, List.mem_append, h1.1, List.mem_append]
    refine propext ⟨fun q => ?_, fun q => .inl (.inl q)⟩
    rcases q with (q | q) | q
    · exact q
    · split at q <;> simp at q
    · split at q <;> simp at q
  rw [tset1_eq _ [9] _ h2.2]
  simp only [m3]
  rw [tset1_eq _ [13] _ h1.2]
  simp only [m2]
  rw [tset1_eq P [10] _ h]
  simp only [List.map_append, List.map_map]
  unfold inner7
  rw [List.append_assoc, List.append_assoc]
  congr 1
  · refine List.map_congr_left fun p _ => ?_
    obtain ⟨k, r⟩ := p
    simp only [Function.comp, own7V]
    by_cases e1 : k = [10]
    · subst e1; simp
    by_cases e2 : k = [13]
    · subst e2; simp
    by_cases e3 : k = [9]
    · subst e3; simp
    simp [e1, e2, e3]
  · by_cases e1 : [10] ∈ ks7 P <;> by_cases e2 : [13] ∈ ks7 P <;> by_cases e3 : [9] ∈ ks7 P <;> simp [e1, e2, e3, own7]
/-! what the references read as -/
noncomputable def tget : List (S × S) → S → Option S
  | [], _ => none
  | (k, v) :: N, r => if k = r then some v else tget N r
theorem tget_tset1 : ∀ (N : List (S × S)) (k v r : S), tget (tset1 N k v) r = if k = r then some v else tget N r
  | [], k, v, r => rfl
  | (k', v') :: N, k, v, r => by
    show tget (if k' = k then _ else _) r = _
    have ih := tget_tset1 N k v r
    by_cases e : k' = k
    · subst e
      rw [if_pos rfl]
      show (if k' = r then some v else tget N r) = if k' = r then some v else if k' = r then some v' else tget N r
      by_cases h : k' = r
      · rw [if_pos h, if_pos h]
      · rw [if_neg h, if_neg h, if_neg h]
    · rw [if_neg e]
      show (if k' = r then some v' else tget (tset1 N k v) r) = if k = r then some v else if k' = r then some v' else tget N r
      by_cases h : k' = r
      · rw [if_pos h, if_pos h, if_neg (fun q => e (h.trans q.symm))]
      · rw [if_neg h, if_neg h, ih]
noncomputable def tnames (L N : List (S × S)) : List (S × S) := L.foldl (fun N p => tset1 N p.2 p.1) N
theorem tget_names {k r : S} : ∀ (L N : List (S × S)), (∀ p ∈ L, p.2 = r → p.1 = k) → ((∃ p ∈ L, p.2 = r) ∨ tget N r = some k) → tget (tnames L N) r = some k
  | [], N, _, h => h.elim (fun ⟨p, hp, _⟩ => by cases hp) id
  | p :: L, N, hf, h => by
    show tget (tnames L (tset1 N p.2 p.1)) r = some k
    refine tget_names L _ (fun q hq => hf q (List.mem_cons_of_mem _ hq)) ?_
    rw [tget_tset1]
    by_cases e : p.2 = r
    · exact .inr (by rw [if_pos e, hf p List.mem_cons_self e])
    · rw [if_neg e]
      rcases h with ⟨q, hq, eq⟩ | h
      · rcases List.mem_cons.mp hq with rfl | hq
        · exact absurd eq e
        · exact .inl ⟨q, hq, eq⟩
      · exact .inr h
noncomputable def names7 (P : List (S × S)) : List (S × S) := tnames (first7 ++ P ++ inner7 P) [(lit "&quot;", [34])]
theorem dget_cons (k : Key) (v : V) (es : List (Key × V)) (q : Key) : dget ((k, v) :: es) q = if k = q then some v else dget es q := by
  unfold dget
  rw [List.find?_cons]
  by_cases h : k = q
  · rw [if_pos h]; simp [h]
  · rw [if_neg h]; simp [h]
theorem dget_tab : ∀ (N : List (S × S)) (r : S), dget (tabV N) (.s r) = (tget N r).map V.str
  | [], r => rfl
  | (k, v) :: N, r => by
    show dget ((Key.s k, V.str v) :: tabV N) (.s r) = (if k = r then some v else tget N r).map V.str
    rw [dget_cons, dget_tab N r]
    by_cases h : k = r
    · rw [if_pos (by rw [h]), if_pos h]; rfl
    · rw [if_neg (fun q => h (by injection q)), if_neg h]
theorem tnames_len : ∀ (L N : List (S × S)), (tnames L N).length ≤ N.length + L.length
  | [], N => Nat.le_refl _
  | p :: L, N => by
    have h1 := tnames_len L (tset1 N p.2 p.1)
    have h2 := tset1_length N p.2 p.1
    show (tnames L (tset1 N p.2 p.1)).length ≤ _
    rw [List.length_cons]; omega
structure Keys7 (ks : List S) : Prop where
  nd : ks.Nodup
  len : ks.length ≤ 63
  ok : ∀ k ∈ ks, k ≠ [] ∧ k.length ≤ 3 ∧ ∀ c ∈ k, c ∈ KS
theorem Keys7.good {ks : List S} (h : Keys7 ks) : Good7 (pairs7 0 ks) := fun p hp => by
  have hl := h.len
  obtain ⟨h1, i, _, h3, h4⟩ := pairs7_mem 0 ks p hp
  exact ⟨(h.ok _ h1).1, (h.ok _ h1).2.2, by rw [h4]; exact entRef_ok (by omega)⟩
theorem own7V_ok {k r : S} (h : Ref7 r) : Ref7 (own7V k r) := by
  unfold own7V
  split
  · exact ref_10
  split
  · exact ref_13
  split
  · exact ref_9
  exact h
theorem Keys7.inner {ks : List S} (h : Keys7 ks) : Good7 (inner7 (pairs7 0 ks)) := fun p hp => by
  rcases List.mem_append.mp hp with hp | hp
  · obtain ⟨q, hq, rfl⟩ := List.mem_map.mp hp
    obtain ⟨h1, h2, h3⟩ := h.good q hq
    exact ⟨h1, h2, own7V_ok h3⟩
  · have hp := (List.mem_filter.mp hp).1
    simp only [own7, List.mem_cons, List.not_mem_nil, or_false] at hp
    rcases hp with rfl | rfl | rfl
    · exact ⟨by decide, by decide, ref_10⟩
    · exact ⟨by decide, by decide, ref_13⟩
    · exact ⟨by decide, by decide, ref_9⟩
theorem Keys7.nodup {ks : List S} (h : Keys7 ks) : (ks7 (pairs7 0 ks)).Nodup := by
  unfold ks7
  rw [pairs7_keys]; exact h.nd
/-- all that references are for -/
theorem names_all {ks : List S} {p : S × S} (hp : p ∈ first7 ++ pairs7 0 ks ++ inner7 (pairs7 0 ks)) : p ∈ first7 ++ own7 ∨ p ∈ pairs7 0 ks := by
  rcases List.mem_append.mp hp with hp | hp
  · rcases List.mem_append.mp hp with hp | hp
    · exact .inl (List.mem_append_left _ hp)
    · exact .inr hp
  · rcases List.mem_append.mp hp with hp | hp
    · obtain ⟨q, hq, rfl⟩ := List.mem_map.mp hp
      obtain ⟨k, r⟩ := q
      show (k, own7V k r) ∈ _ ∨ (k, own7V k r) ∈ _
      unfold own7V
      by_cases h1 : k = [10]
      · subst h1; rw [if_pos rfl]; exact .inl (by decide)
      by_cases h2 : k = [13]
      · subst h2; rw [if_neg h1, if_pos rfl]; exact .inl (by decide)
      by_cases h3 : k = [9]
      · subst h3; rw [if_neg h1, if_neg h2, if_pos rfl]; exact .inl (by decide)
      rw [if_neg h1, if_neg h2, if_neg h3]; exact .inr hq
    · exact .inl (List.mem_append_right _ (List.mem_filter.mp hp).1)
theorem const_fun : ∀ p ∈ first7 ++ own7, p.2[1]? ≠ some 101 ∧ p.2 ≠ lit "&quot;" ∧ ∀ q ∈ first7 ++ own7, p.2 = q.2 → p.1 = q.1 := by decide +kernel
theorem names_fun {ks : List S} (h : Keys7 ks) {p q : S × S} (hp : p ∈ first7 ++ pairs7 0 ks ++ inner7 (pairs7 0 ks)) (hq : q ∈ first7 ++ pairs7 0 ks ++ inner7 (pairs7 0 ks)) (e : p.2 = q.2) : p.1 = q.1 := by
  have hl := h.len
  rcases names_all hp with hp | hp <;> rcases names_all hq with hq | hq
  · exact (const_fun p hp).2.2 q hq e
  · obtain ⟨_, i, _, _, h4⟩ := pairs7_mem _ _ _ hq
    exact absurd (by rw [e, h4]; rfl) (const_fun p hp).1
  · obtain ⟨_, i, _, _, h4⟩ := pairs7_mem _ _ _ hp
    exact absurd (by rw [← e, h4]; rfl) (const_fun q hq).1
  · rw [pairs7_fun 0 ks (by omega) p hp q hq e]
theorem names_get {ks : List S} (h : Keys7 ks) {p : S × S} (hp : p ∈ first7 ++ pairs7 0 ks ++ inner7 (pairs7 0 ks)) : tget (names7 (pairs7 0 ks)) p.2 = some p.1 :=
  tget_names _ _ (fun q hq e => names_fun h hq hp e) (.inl ⟨p, hp, rfl⟩)
theorem names_quot {ks : List S} (h : Keys7 ks) : tget (names7 (pairs7 0 ks)) (lit "&quot;") = some [34] := by
  refine tget_names _ _ (fun q hq e => ?_) (.inr (by decide))
  rcases names_all hq with hq | hq
  · exact absurd e (const_fun q hq).2.1
  · obtain ⟨_, i, _, _, h4⟩ := pairs7_mem _ _ _ hq
    rw [h4] at e
    injection e with _ e
    injection e with e _
    cases e
/-! what the reader is given -/
theorem told_text {ks : List S} (h : Keys7 ks) (x : S) : Told7 (tget (names7 (pairs7 0 ks))) (blocks7 (pairs7 0 ks) x) ∧ 60 ∉ rend (blocks7 (pairs7 0 ks) x) := by
  have hk := blocks_ok h.good x
  refine ⟨⟨fun c hc e => hk.2.2 38 (.inl rfl) (e ▸ hc), fun r k hm => ?_⟩, fun hm => ?_⟩
  · rcases blocks_mem h.good hm with ⟨p, hp, e⟩ | ⟨c, e⟩
    · injection e with e1 e2
      subst e1 e2
      exact ⟨(first_ref h.good p hp).2.1, names_get h (List.mem_append_left _ hp)⟩
    · cases e
  · rw [mem_rend (blocks_no h.good (by decide))] at hm
    exact hk.2.2 60 (.inr rfl) hm
/-! quoting -/
noncomputable def mk7 (W : List Bk) : Nat := if .f 34 ∈ W ∧ .f 39 ∉ W then 39 else 34
noncomputable def quoB (m : Nat) (b : Bk) : Bk := if b = .f m then .o (lit "&quot;") [m] else b
noncomputable def quo7 (W : List Bk) : List Bk := W.map (quoB (mk7 W))
theorem mk7_or (W : List Bk) : mk7 W = 34 ∨ mk7 W = 39 := by
  unfold mk7; split
  · exact .inr rfl
  · exact .inl rfl
theorem told_value {ks : List S} (h : Keys7 ks) (x : S) : Told7 (tget (names7 (pairs7 0 ks))) (quo7 (blocks7 (inner7 (pairs7 0 ks)) x)) ∧ 60 ∉ rend (quo7 (blocks7 (inner7 (pairs7 0 ks)) x)) ∧ mk7 (blocks7 (inner7 (pairs7 0 ks)) x) ∉ rend (quo7 (blocks7 (inner7 (pairs7 0 ks)) x)) := by
  have hk := blocks_ok h.inner x
  obtain ⟨W, hW⟩ : ∃ W, blocks7 (inner7 (pairs7 0 ks)) x = W := ⟨_, rfl⟩
  have hno : ∀ {d : Nat}, d ∈ KS → ∀ r k, Bk.o r k ∈ quo7 W → d ∉ r := fun {d} hd r k hm => by
    obtain ⟨b, hb, e⟩ := List.mem_map.mp hm
    unfold quoB at e
    split at e
    · injection e with e1 e2
      subst e1
      exact fun q => ref_quot.2.2 _ q hd
    · subst e
      exact blocks_no h.inner hd r k (hW ▸ hb)
  have hf : ∀ d, .f d ∈ quo7 W → .f d ∈ W ∧ d ≠ mk7 W := fun d hd => by
    obtain ⟨b, hb, e⟩ := List.mem_map.mp hd
    unfold quoB at e
    split at e
    · cases e
    · subst e
      rename_i hne
      exact ⟨hb, fun q => hne (by rw [q])⟩
  rw [hW] at hk ⊢
  refine ⟨⟨fun c hc e => hk.2.2 38 (.inl rfl) (e ▸ (hf c hc).1), fun r k hm => ?_⟩, fun hm => ?_, fun hm => ?_⟩
  · obtain ⟨b, hb, e⟩ := List.mem_map.mp hm
    unfold quoB at e
    split at e
    · rename_i hbm
      injection e with e1 e2
      subst e1 e2
      refine ⟨ref_quot.1, ?_⟩
      have hm34 : mk7 W = 34 := by
        unfold mk7 at hbm ⊢
        split
        · rename_i hc
          rw [if_pos hc] at hbm
          exact absurd (hbm ▸ hb) hc.2
        · rfl
      rw [hm34]; exact names_quot h
    · subst e
      rw [← hW] at hb
      rcases blocks_mem h.inner hb with ⟨p, hp, e⟩ | ⟨c, e⟩
      · injection e with e1 e2
        subst e1 e2
        refine ⟨(first_ref h.inner p hp).2.1, names_get h ?_⟩
        rcases List.mem_append.mp hp with hp | hp
        · exact List.mem_append_left _ (List.mem_append_left _ hp)
        · exact List.mem_append_right _ hp
      · cases e
  · rw [mem_rend (hno (by decide))] at hm
    exact hk.2.2 60 (.inr rfl) (hf _ hm).1
  · rw [mem_rend (hno (by rcases mk7_or W with e | e <;> rw [e] <;> decide))] at hm
    exact (hf _ hm).2 rfl
/-- quoteattr's marks -/
noncomputable def quoted7 (b : S) : S := if hasSub [34] b = true then (if hasSub [39] b = true then lit "\"" ++ repl (lit "\"") (lit "&quot;") b ++ lit "\"" else lit "'" ++ b ++ lit "'") else lit "\"" ++ b ++ lit "\""
theorem hasSub_one (d : Nat) : ∀ x : S, hasSub [d] x = decide (d ∈ x)
  | [] => rfl
  | c :: r => by
    have ih := hasSub_one d r
    rw [Bool.eq_iff_iff, hasSub_iff, decide_eq_true_eq]
    rw [Bool.eq_iff_iff, hasSub_iff, decide_eq_true_eq] at ih
    constructor
    · rintro ⟨i, hi, hp⟩
      cases i with
      | zero =>
        have : (d == c && true) = true := hp
        rw [Bool.and_true, beq_iff_eq] at this
        rw [this]; exact List.mem_cons_self
      | succ i => exact List.mem_cons_of_mem _ (ih.mp ⟨i, by simpa using hi, by simpa using hp⟩)
    · intro hm
      rcases List.mem_cons.mp hm with rfl | hm
      · exact ⟨0, Nat.zero_le _, by simp⟩
      · obtain ⟨i, hi, hp⟩ := ih.mpr hm
        exact ⟨i + 1, by simpa using hi, by simpa using hp⟩
theorem quo_none {m : Nat} : ∀ {W : List Bk}, .f m ∉ W → W.map (quoB m) = W
  | [], _ => rfl
  | b :: W, h => by
    rw [List.map_cons, quo_none fun q => h (List.mem_cons_of_mem _ q)]
    unfold quoB
    rw [if_neg fun q => h (by rw [← q]; exact List.mem_cons_self)]
theorem repl_quo {m : Nat} : ∀ {W : List Bk}, (∀ r k, Bk.o r k ∈ W → m ∉ r) → repl [m] (lit "&quot;") (rend W) = rend (W.map (quoB m))
  | [], _ => by rw [repl_1]; rfl
  | b :: W, h => by
    have ih := repl_quo (W := W) fun r k hm => h r k (List.mem_cons_of_mem _ hm)
    rw [repl_1] at ih ⊢
    rw [rend_cons, List.map_cons, rend_cons, List.flatMap_append, ih]
    congr 1
    cases b with
    | f c =>
      by_cases e : c = m
      · subst e
        have : quoB c (.f c) = .o (lit "&quot;") [c] := by unfold quoB; rw [if_pos rfl]
        rw [this]
        show (if c = c then lit "&quot;" else [c]) ++ [] = lit "&quot;"
        rw [if_pos rfl, List.append_nil]
      · have : quoB m (.f c) = .f c := by unfold quoB; rw [if_neg (fun q => e (by injection q))]
        rw [this]
        show (if c = m then lit "&quot;" else [c]) ++ [] = [c]
        rw [if_neg e]; rfl
    | o r k =>
      have : quoB m (.o r k) = .o r k := by unfold quoB; rw [if_neg (by simp)]
      rw [this]
      show r.flatMap _ = r
      have hr := h r k List.mem_cons_self
      clear this ih
      induction r with
      | nil => rfl
      | cons c r ih =>
        rw [List.mem_cons, not_or] at hr
        rw [List.flatMap_cons, if_neg (fun q => hr.1 q.symm), ih (fun r' k' hm => by
          rcases List.mem_cons.mp hm with e | hm
          · injection e with e1 e2
            subst e1; exact hr.2
          · exact h r' k' (List.mem_cons_of_mem _ hm)) hr.2]; rfl
theorem quoted_blocks {R : List (S × S)} (h : Good7 R) (x : S) : quoted7 (rend (blocks7 R x)) = mk7 (blocks7 R x) :: (rend (quo7 (blocks7 R x)) ++ [mk7 (blocks7 R x)]) := by
  have n34 := blocks_no h (x := x) (d := 34) (by decide)
  have n39 := blocks_no h (x := x) (d := 39) (by decide)
  unfold quoted7 quo7
  rw [hasSub_one, hasSub_one]
  by_cases h1 : .f 34 ∈ blocks7 R x
  · rw [if_pos (by rw [decide_eq_true_eq, mem_rend n34]; exact h1)]
    by_cases h2 : .f 39 ∈ blocks7 R x
    · have hm : mk7 (blocks7 R x) = 34 := by unfold mk7; rw [if_neg (fun q => q.2 h2)]
      rw [if_pos (by rw [decide_eq_true_eq, mem_rend n39]; exact h2), hm]
      show [34] ++ repl [34] _ _ ++ [34] = _
      rw [repl_quo n34]; rfl
    · have hm : mk7 (blocks7 R x) = 39 := by unfold mk7; rw [if_pos ⟨h1, h2⟩]
      rw [if_neg (by rw [decide_eq_true_eq, mem_rend n39]; exact h2), hm, quo_none h2]; rfl
  · have hm : mk7 (blocks7 R x) = 34 := by unfold mk7; rw [if_neg (fun q => h1 q.1)]
    rw [if_neg (by rw [decide_eq_true_eq, mem_rend n34]; exact h1), hm, quo_none h1]; rfl
theorem quo_part {W : List Bk} (h : OkB W) : (quo7 W).map partB = (W.map partB).map fun p => if p = ([], [mk7 W]) then (lit "&quot;", [mk7 W]) else p := by
  unfold quo7
  rw [List.map_map, List.map_map]
  refine List.map_congr_left fun b hb => ?_
  simp only [Function.comp]
  unfold quoB
  cases b with
  | f c =>
    by_cases e : c = mk7 W
    · subst e
      rw [if_pos rfl]
      show (_, _) = if (([], [mk7 W]) : S × S) = _ then _ else _
      rw [if_pos rfl]
    · rw [if_neg (fun q => e (by injection q))]
      show _ = if (([], [c]) : S × S) = _ then _ else _
      rw [if_neg (fun q => e (by injection q with _ q; injection q))]
  | o r k =>
    rw [if_neg (by simp)]
    show _ = if ((r, k) : S × S) = _ then _ else _
    rw [if_neg (fun q => (h r k hb).1 (by injection q))]
theorem part_free {W : List Bk} (h : OkB W) (d : Nat) : (([], [d]) : S × S) ∈ W.map partB ↔ .f d ∈ W := by
  rw [List.mem_map]
  constructor
  · rintro ⟨b, hb, e⟩
    cases b with
    | f c =>
      have : ([], [c]) = (([], [d]) : S × S) := e
      injection this with _ e
      injection e with e
      exact e ▸ hb
    | o r k =>
      have : (r, k) = (([], [d]) : S × S) := e
      injection this with e _
      exact absurd e (h r k hb).1
  · exact fun hb => ⟨_, hb, rfl⟩
end Sx
end
section
open PySem PySem.W PyProof.Rows PySem.Calls
set_option linter.unusedVariables false
set_option Elab.async false
set_option maxRecDepth 100000
namespace Sx
/-! the document -/
noncomputable abbrev Val7 := Nat × List Bk
noncomputable abbrev Tag7 := List Bk × List Val7
noncomputable def lead7 (i : Nat) : S := lit " n" ++ dig i ++ lit "="
noncomputable def attrs7 : Nat → List Val7 → S → S
  | _, [], tl => tl
  | i, (m, W) :: vs, tl => lead7 i ++ m :: (rend W ++ m :: attrs7 (i + 1) vs tl)
noncomputable def tag7 (t : Tag7) : S := 116 :: attrs7 0 t.2 (62 :: rend t.1)
noncomputable def doc7 (T : List Tag7) : S := T.flatMap fun t => 60 :: tag7 t
theorem attrs7_append : ∀ (i : Nat) (a b : List Val7) (tl : S), attrs7 i (a ++ b) tl = attrs7 i a (attrs7 (i + a.length) b tl)
  | i, [], b, tl => rfl
  | i, (m, W) :: a, b, tl => by
    show lead7 i ++ m :: (rend W ++ m :: attrs7 (i + 1) (a ++ b) tl) = lead7 i ++ m :: (rend W ++ m :: attrs7 (i + 1) a (attrs7 (i + ((m, W) :: a).length) b tl))
    rw [attrs7_append (i + 1) a b tl, List.length_cons, Nat.add_right_comm, Nat.add_assoc]
theorem attrs7_tail : ∀ (i : Nat) (a : List Val7) (tl : S), attrs7 i a tl = attrs7 i a [] ++ tl
  | i, [], tl => rfl
  | i, (m, W) :: a, tl => by
    show lead7 i ++ m :: (rend W ++ m :: attrs7 (i + 1) a tl) = (lead7 i ++ m :: (rend W ++ m :: attrs7 (i + 1) a [])) ++ tl
    rw [attrs7_tail (i + 1) a tl]; simp
theorem lead7_0 : lit " n0=" = lead7 0 := by decide +kernel
theorem lead7_ok {i : Nat} (hi : i < 80) : (lead7 i).length ≤ 5 ∧ 3 ≤ (lead7 i).length ∧ 60 ∉ lead7 i := by
  obtain ⟨_, h2, h3⟩ := dig_ok i hi
  unfold lead7
  refine ⟨?_, ?_, fun hm => ?_⟩
  · rw [List.length_append, List.length_append]; show 2 + _ + 1 ≤ _; omega
  · rw [List.length_append, List.length_append]; show _ ≤ 2 + _ + 1; omega
  · simp only [List.mem_append] at hm
    rcases hm with (hm | hm) | hm
    · revert hm; decide
    · have := h3 _ hm; omega
    · revert hm; decide
theorem lead7_head (i : Nat) : ∃ r, lead7 i = 32 :: r := ⟨_, rfl⟩
structure ReadOk (N : List (S × S)) (t : Tag7) : Prop where
  t1 : Told7 (tget N) t.1
  t2 : 60 ∉ rend t.1
  t3 : t.1.length ≤ 1000
  t4 : (rend t.1).length ≤ 100000
  t5 : t.2.length ≤ 70
  v : ∀ v ∈ t.2, (v.1 = 34 ∨ v.1 = 39) ∧ Told7 (tget N) v.2 ∧ 60 ∉ rend v.2 ∧ v.1 ∉ rend v.2 ∧ v.2.length ≤ 1000 ∧ (rend v.2).length ≤ 100000
theorem attrs7_no60 : ∀ (i : Nat) (vs : List Val7) (tl : S), i + vs.length < 80 → (∀ v ∈ vs, (v.1 = 34 ∨ v.1 = 39) ∧ 60 ∉ rend v.2) → 60 ∉ tl → 60 ∉ attrs7 i vs tl
  | i, [], tl, _, _, h => h
  | i, (m, W) :: vs, tl, hi, hv, h => by
    rw [List.length_cons] at hi
    obtain ⟨h1, h2⟩ := hv (m, W) List.mem_cons_self
    have h3 := attrs7_no60 (i + 1) vs tl (by omega) (fun v hm => hv v (List.mem_cons_of_mem _ hm)) h
    have h4 := (lead7_ok (i := i) (by omega)).2.2
    show 60 ∉ lead7 i ++ m :: (rend W ++ m :: attrs7 (i + 1) vs tl)
    have h1 : m = 34 ∨ m = 39 := h1
    simp only [List.mem_append, List.mem_cons, not_or]
    exact ⟨h4, by omega, h2, by omega, h3⟩
theorem tag7_no60 {N : List (S × S)} {t : Tag7} (h : ReadOk N t) : 60 ∉ tag7 t := by
  have h5 := h.t5
  have := attrs7_no60 0 t.2 (62 :: rend t.1) (by omega) (fun v hv => ⟨(h.v v hv).1, (h.v v hv).2.2.1⟩) (by
    rw [List.mem_cons, not_or]; exact ⟨by decide, h.t2⟩)
  unfold tag7
  rw [List.mem_cons, not_or]; exact ⟨by decide, this⟩
theorem doc7_join (T : List Tag7) (h : T ≠ []) : doc7 T = joinS [60] ([] :: T.map tag7) := by
  have go : ∀ (T : List Tag7) (x : S), x ++ doc7 T = joinS [60] (x :: T.map tag7) := by
    intro T
    induction T with
    | nil => intro x; simp [doc7, joinS]
    | cons t T ih =>
      intro x
      show x ++ doc7 (t :: T) = x ++ [60] ++ joinS [60] (tag7 t :: T.map tag7)
      rw [← ih (tag7 t)]
      unfold doc7
      rw [List.flatMap_cons]; simp
  have := go T []
  rwa [List.nil_append] at this
theorem flatMap_le {α : Type} {f : α → S} : ∀ {l : List α} {a : α}, a ∈ l → (f a).length ≤ (l.flatMap f).length
  | b :: l, a, h => by
    rw [List.flatMap_cons, List.length_append]
    rcases List.mem_cons.mp h with rfl | h
    · omega
    · have := flatMap_le (f := f) h; omega
end Sx
end
section
open PySem PySem.W PyProof.Rows PySem.Calls
set_option linter.unusedVariables false
set_option Elab.async false
set_option maxRecDepth 100000
namespace Sx
/-! what the script makes -/
noncomputable def sg7 : List S := [lit "", lit "<", lit ">", lit "\"", lit "'", lit "\n", lit "\r", lit "\t", lit " ", lit "-", lit "é", lit "&", lit ";", lit "a", lit "e", lit "0", lit "#"]
noncomputable def sgn7 (k : Nat) : S := sg7.getD k []
theorem sgn7_len : ∀ k < 17, (sgn7 k).length ≤ 1 := by decide
theorem sgn7_ks : ∀ k < 11, ∀ c ∈ sgn7 k, c ∈ KS := by decide
theorem sgn7_ne : ∀ k < 10, sgn7 (1 + k) ≠ [] ∧ ∀ c ∈ sgn7 (1 + k), c ∈ KS := by decide
structure DI (i : Nat) (done : List (List S)) (cur keys : List S) : Prop where
  dl : done.length ≤ i
  ne : cur ≠ []
  cl : cur.length ≤ i + 1
  cv : ∀ v ∈ cur, v.length ≤ 6 * i
  d : ∀ t ∈ done, t ≠ [] ∧ t.length ≤ i + 1 ∧ ∀ v ∈ t, v.length ≤ 6 * i
  nd : keys.Nodup
  kl : keys.length ≤ i
  ok : ∀ k ∈ keys, k ≠ [] ∧ k.length ≤ 3 ∧ ∀ c ∈ k, c ∈ KS
theorem di_start : DI 0 [] [[]] [] := ⟨Nat.le_refl _, by simp, Nat.le_refl _, fun v hv => by (rw [List.mem_singleton.mp hv]; exact Nat.le_refl _), fun t ht => (List.not_mem_nil ht).elim, List.nodup_nil, Nat.le_refl _, fun k hk => (List.not_mem_nil hk).elim⟩
section
variable {i : Nat} {done : List (List S)} {cur keys : List S}
theorem DI.skip (h : DI i done cur keys) : DI (i + 1) done cur keys :=
  ⟨Nat.le_succ_of_le h.dl, h.ne, Nat.le_succ_of_le h.cl, fun v hv => by have := h.cv v hv; omega, fun t ht => ⟨(h.d t ht).1, Nat.le_succ_of_le (h.d t ht).2.1, fun v hv => by have := (h.d t ht).2.2 v hv; omega⟩, h.nd, Nat.le_succ_of_le h.kl, h.ok⟩
theorem DI.new (h : DI i done cur keys) {p : S} (hp : p.length ≤ 6) : DI (i + 1) (done ++ [cur]) [p] keys := by
  have s := h.skip
  refine ⟨?_, by simp, by show 1 ≤ _; omega, fun v hv => by rw [List.mem_singleton.mp hv]; omega, fun t ht => ?_, s.nd, s.kl, s.ok⟩
  · have := h.dl
    rw [List.length_append]; show _ + 1 ≤ _; omega
  · rcases List.mem_append.mp ht with ht | ht
    · exact s.d t ht
    · rw [List.mem_singleton.mp ht]; exact ⟨s.ne, s.cl, s.cv⟩
theorem DI.app (h : DI i done cur keys) {p : S} (hp : p.length ≤ 6) : DI (i + 1) done (cur ++ [p]) keys := by
  have s := h.skip
  refine ⟨s.dl, by simp, ?_, fun v hv => ?_, s.d, s.nd, s.kl, s.ok⟩
  · have := h.cl
    rw [List.length_append]; show _ + 1 ≤ _; omega
  · rcases List.mem_append.mp hv with hv | hv
    · exact s.cv v hv
    · rw [List.mem_singleton.mp hv]; omega
theorem DI.aug (h : DI i done cur keys) {p l : S} (hp : p.length ≤ 6) (hl : l ∈ cur) {n : Nat} : DI (i + 1) done (cur.set n (l ++ p)) keys := by
  have s := h.skip
  refine ⟨s.dl, fun e => ?_, ?_, fun v hv => ?_, s.d, s.nd, s.kl, s.ok⟩
  · exact h.ne (List.length_eq_zero_iff.mp (by have := congrArg List.length e; rwa [List.length_set] at this))
  · rw [List.length_set]; exact s.cl
  · rcases List.mem_or_eq_of_mem_set hv with hv | rfl
    · exact s.cv v hv
    · have := h.cv l hl
      rw [List.length_append]; omega
theorem DI.key (h : DI i done cur keys) {k : S} (hk : k ∉ keys) (h1 : k ≠ []) (h2 : k.length ≤ 3) (h3 : ∀ c ∈ k, c ∈ KS) : DI (i + 1) done cur (keys ++ [k]) := by
  have s := h.skip
  refine ⟨s.dl, s.ne, s.cl, s.cv, s.d, ?_, ?_, fun q hq => ?_⟩
  · refine List.nodup_append.mpr ⟨h.nd, by simp, fun a ha b hb => ?_⟩
    rw [List.mem_singleton] at hb
    subst hb
    exact fun q => hk (q ▸ ha)
  · have := h.kl
    rw [List.length_append]; show _ + 1 ≤ _; omega
  · rcases List.mem_append.mp hq with hq | hq
    · exact h.ok q hq
    · rw [List.mem_singleton.mp hq]; exact ⟨h1, h2, h3⟩
end
theorem key7_ok {a b c : Nat} (ha : a < 10) (hb : b < 11) (hc : c < 11) : sgn7 (1 + a) ++ sgn7 b ++ sgn7 c ≠ [] ∧ (sgn7 (1 + a) ++ sgn7 b ++ sgn7 c).length ≤ 3 ∧ ∀ x ∈ sgn7 (1 + a) ++ sgn7 b ++ sgn7 c, x ∈ KS := by
  have h1 := sgn7_ne a ha
  have l1 := sgn7_len (1 + a) (by omega)
  have l2 := sgn7_len b (by omega)
  have l3 := sgn7_len c (by omega)
  refine ⟨fun e => h1.1 ?_, ?_, fun x hx => ?_⟩
  · rw [List.append_assoc] at e
    exact (List.append_eq_nil_iff.mp e).1
  · rw [List.length_append, List.length_append]; omega
  · rcases List.mem_append.mp hx with hx | hx
    · rcases List.mem_append.mp hx with hx | hx
      · exact h1.2 x hx
      · exact sgn7_ks b hb x hx
    · exact sgn7_ks c hc x hx
structure Tags7 (tags : List (List S)) : Prop where
  ne : tags ≠ []
  len : tags.length ≤ 64
  ok : ∀ t ∈ tags, t ≠ [] ∧ t.length ≤ 64 ∧ ∀ v ∈ t, v.length ≤ 378
theorem DI.fin {i : Nat} {done : List (List S)} {cur keys : List S} (h : DI i done cur keys) (hi : i ≤ 63) : Tags7 (done ++ [cur]) ∧ Keys7 keys := by
  have h1 := h.dl
  have h2 := h.cl
  have h3 := h.kl
  refine ⟨⟨by simp, by rw [List.length_append]; show _ + 1 ≤ _; omega, fun t ht => ?_⟩, h.nd, by omega, h.ok⟩
  rcases List.mem_append.mp ht with ht | ht
  · obtain ⟨q1, q2, q3⟩ := h.d t ht
    exact ⟨q1, by omega, fun v hv => by have := q3 v hv; omega⟩
  · rw [List.mem_singleton.mp ht]
    exact ⟨h.ne, by omega, fun v hv => by have := h.cv v hv; omega⟩
end Sx
end
section
open PySem PySem.W PyProof.Rows PySem.Calls
set_option linter.unusedVariables false
set_option Elab.async false
set_option maxRecDepth 100000
namespace Sx
/-! what the law writes and awaits -/
noncomputable def mkVal (P : List (S × S)) (x : S) : Val7 := (mk7 (blocks7 (inner7 P) x), quo7 (blocks7 (inner7 P) x))
noncomputable def mkTag (P : List (S × S)) (t : List S) : Tag7 := (blocks7 P (t.headD []), t.tail.map (mkVal P))
theorem quo_short {W : List Bk} (h : Short W) : Short (quo7 W) := fun b hb => by
  obtain ⟨a, ha, rfl⟩ := List.mem_map.mp hb
  unfold quoB
  split
  · show (lit "&quot;").length ≤ 6; decide
  · exact h a ha
theorem blocks_len (R : List (S × S)) (x : S) : (blocks7 R x).length ≤ x.length := by
  have := ownB_len (first7 ++ R) (x.map Bk.f)
  rwa [List.length_map] at this
theorem val_len {ks : List S} (h : Keys7 ks) {x : S} (hx : x.length ≤ 378) : (rend (mkVal (pairs7 0 ks) x).2).length ≤ 2268 ∧ (mkVal (pairs7 0 ks) x).2.length ≤ 378 := by
  have h1 := rend_len _ (quo_short (blocks_ok h.inner x).2.1)
  have h2 := blocks_len (inner7 (pairs7 0 ks)) x
  have h3 : (quo7 (blocks7 (inner7 (pairs7 0 ks)) x)).length = (blocks7 (inner7 (pairs7 0 ks)) x).length := List.length_map _
  show (rend (quo7 _)).length ≤ _ ∧ (quo7 _).length ≤ _
  omega
theorem text_len {ks : List S} (h : Keys7 ks) {x : S} (hx : x.length ≤ 378) : (rend (blocks7 (pairs7 0 ks) x)).length ≤ 2268 ∧ (blocks7 (pairs7 0 ks) x).length ≤ 378 := by
  have h1 := rend_len _ (blocks_ok h.good x).2.1
  have h2 := blocks_len (pairs7 0 ks) x
  omega
theorem attrs_len : ∀ (i : Nat) (vs : List Val7) (tl : S), i + vs.length < 80 → (∀ v ∈ vs, (rend v.2).length ≤ 2268) → (attrs7 i vs tl).length ≤ vs.length * 2280 + tl.length
  | i, [], tl, _, _ => by show tl.length ≤ _; omega
  | i, (m, W) :: vs, tl, hi, hv => by
    rw [List.length_cons] at hi
    have h1 := attrs_len (i + 1) vs tl (by omega) fun v hm => hv v (List.mem_cons_of_mem _ hm)
    have h2 : (rend W).length ≤ 2268 := hv (m, W) List.mem_cons_self
    have h3 := (lead7_ok (i := i) (by omega)).1
    show (lead7 i ++ m :: (rend W ++ m :: attrs7 (i + 1) vs tl)).length ≤ _
    simp only [List.length_append, List.length_cons]
    omega
theorem Tags7.head {tags : List (List S)} (h : Tags7 tags) {t : List S} (ht : t ∈ tags) : (t.headD []).length ≤ 378 ∧ t.tail.length ≤ 63 ∧ ∀ x ∈ t.tail, x.length ≤ 378 := by
  obtain ⟨h1, h2, h3⟩ := h.ok t ht
  match t, h1 with
  | a :: r, _ =>
    refine ⟨h3 a List.mem_cons_self, ?_, fun x hx => h3 x (List.mem_cons_of_mem _ hx)⟩
    show r.length ≤ 63
    rw [List.length_cons] at h2; omega
theorem read_ok {ks : List S} (h : Keys7 ks) {tags : List (List S)} (hT : Tags7 tags) {t : List S} (ht : t ∈ tags) : ReadOk (names7 (pairs7 0 ks)) (mkTag (pairs7 0 ks) t) := by
  obtain ⟨h1, h2, h3⟩ := hT.head ht
  obtain ⟨a1, a2⟩ := told_text h (t.headD [])
  obtain ⟨b1, b2⟩ := text_len h h1
  refine ⟨a1, a2, by show (blocks7 _ _).length ≤ _; omega, by show (rend (blocks7 _ _)).length ≤ _; omega, ?_, fun v hv => ?_⟩
  · show (t.tail.map _).length ≤ _
    rw [List.length_map]; omega
  · obtain ⟨x, hx, rfl⟩ := List.mem_map.mp hv
    obtain ⟨c1, c2, c3⟩ := told_value h x
    obtain ⟨d1, d2⟩ := val_len h (h3 x hx)
    exact ⟨mk7_or _, c1, c2, c3, by omega, by omega⟩
theorem tag_len {ks : List S} (h : Keys7 ks) {tags : List (List S)} (hT : Tags7 tags) {t : List S} (ht : t ∈ tags) : (60 :: tag7 (mkTag (pairs7 0 ks) t)).length ≤ 146000 := by
  obtain ⟨h1, h2, h3⟩ := hT.head ht
  obtain ⟨b1, b2⟩ := text_len h h1
  have := attrs_len 0 (mkTag (pairs7 0 ks) t).2 (62 :: rend (mkTag (pairs7 0 ks) t).1) (by show 0 + (t.tail.map _).length < _; rw [List.length_map]; omega) fun v hv => by
    obtain ⟨x, hx, rfl⟩ := List.mem_map.mp hv
    exact (val_len h (h3 x hx)).1
  have e : (mkTag (pairs7 0 ks) t).2.length = t.tail.length := List.length_map _
  unfold tag7
  rw [List.length_cons] at this
  rw [List.length_cons, List.length_cons]
  have b1 : (rend (mkTag (pairs7 0 ks) t).1).length ≤ 2268 := b1
  have : t.tail.length * 2280 ≤ 63 * 2280 := Nat.mul_le_mul_right _ h2
  omega
theorem doc_len {ks : List S} (h : Keys7 ks) {tags : List (List S)} (hT : Tags7 tags) (i : Nat) : (doc7 ((tags.take i).map (mkTag (pairs7 0 ks)))).length ≤ 64 * 146000 := by
  have go : ∀ l : List (List S), (∀ t ∈ l, t ∈ tags) → (doc7 (l.map (mkTag (pairs7 0 ks)))).length ≤ l.length * 146000 := by
    intro l
    induction l with
    | nil => intro _; exact Nat.le_refl _
    | cons t l ih =>
      intro hl
      have h1 := tag_len h hT (hl t List.mem_cons_self)
      have h2 := ih fun t ht => hl t (List.mem_cons_of_mem _ ht)
      have e : (t :: l).length * 146000 = l.length * 146000 + 146000 := by rw [List.length_cons, Nat.succ_mul]
      unfold doc7 at h2 ⊢
      rw [List.map_cons, List.flatMap_cons, List.length_append, e]
      omega
  have h1 := go (tags.take i) fun t ht => List.mem_of_mem_take ht
  have h2 : (tags.take i).length ≤ 64 := by
    have := hT.len
    rw [List.length_take]; omega
  exact Nat.le_trans h1 (Nat.mul_le_mul_right _ h2)
theorem own_get (k r : S) : own7V k r = (tget own7 k).getD r := by
  unfold own7V
  show _ = (if [10] = k then some (lit "&#10;") else if [13] = k then some (lit "&#13;") else if [9] = k then some (lit "&#9;") else none).getD r
  by_cases h1 : k = [10]
  · subst h1; rfl
  by_cases h2 : k = [13]
  · subst h2; rfl
  by_cases h3 : k = [9]
  · subst h3; rfl
  rw [if_neg h1, if_neg h2, if_neg h3, if_neg (Ne.symm h1), if_neg (Ne.symm h2), if_neg (Ne.symm h3)]; rfl
theorem tget_keys : ∀ (N : List (S × S)) (k : S), (tget N k).isSome = decide (k ∈ ks7 N)
  | [], k => rfl
  | (k', v) :: N, k => by
    show (if k' = k then some v else tget N k).isSome = _
    by_cases h : k' = k
    · rw [if_pos h, h]; simp [ks7]
    · rw [if_neg h, tget_keys N k]
      have : (k ∈ ks7 ((k', v) :: N)) = (k ∈ ks7 N) := propext ⟨fun q => (List.mem_cons.mp q).resolve_left fun q => h q.symm, fun q => List.mem_cons_of_mem _ q⟩
      simp only [this]
/-- what quoteattr and escape give -/
theorem quo_text {ks : List S} (h : Keys7 ks) (x : S) : quoted7 (reps (esc7 ++ tput (pairs7 0 ks) own7) x) = (mkVal (pairs7 0 ks) x).1 :: (rend (mkVal (pairs7 0 ks) x).2 ++ [(mkVal (pairs7 0 ks) x).1]) := by
  rw [tput_own h.nodup, esc_blocks h.inner, quoted_blocks h.inner]; rfl
end Sx
end
section
open PySem PySem.W PyProof.Rows PySem.Calls
set_option Elab.async false
set_option maxRecDepth 100000
set_option maxHeartbeats 8000000
set_option compiler.extract_closed false
set_option linter.unusedVariables false
namespace Sx
/-- what stands behind a proof of its own texts gets no twin -/
def gate {p : Prop} (_ : p) (s : Stmt) : Stmt := s
def s07_0 : Stmt := by
  refine (?f : (s : Stmt) → ((PySem.Challenge.pw_kp0118_07.main.body.drop 0).head? = some s) → Stmt) _ rfl
  exact fun s _ => gate (p := (Str.ofString "q").cps.size = 1) rfl s
def s07_1 : Stmt := by
  refine (?f : (s : Stmt) → ((PySem.Challenge.pw_kp0118_07.main.body.drop 1).head? = some s) → Stmt) _ rfl
  exact fun s _ => gate (p := (Str.ofString "q").cps.size = 1) rfl s
def s07_2 : Stmt := by
  refine (?f : (s : Stmt) → ((PySem.Challenge.pw_kp0118_07.main.body.drop 2).head? = some s) → Stmt) _ rfl
  exact fun s _ => gate (p := (Str.ofString "q").cps.size = 1) rfl s
def s07_3 : Stmt := by
  refine (?f : (s : Stmt) → ((PySem.Challenge.pw_kp0118_07.main.body.drop 3).head? = some s) → Stmt) _ rfl
  exact fun s _ => gate (p := (Str.ofString "q").cps.size = 1) rfl s
def s07_4 : Stmt := by
  refine (?f : (s : Stmt) → ((PySem.Challenge.pw_kp0118_07.main.body.drop 4).head? = some s) → Stmt) _ rfl
  exact fun s _ => gate (p := (Str.ofString "q").cps.size = 1) rfl s
def s07_5 : Stmt := by
  refine (?f : (s : Stmt) → ((PySem.Challenge.pw_kp0118_07.main.body.drop 5).head? = some s) → Stmt) _ rfl
  exact fun s _ => gate (p := (Str.ofString "q").cps.size = 1) rfl s
def s07_6 : Stmt := by
  refine (?f : (s : Stmt) → ((PySem.Challenge.pw_kp0118_07.main.body.drop 6).head? = some s) → Stmt) _ rfl
  exact fun s _ => gate (p := (Str.ofString "q").cps.size = 1) rfl s
def s07_7 : Stmt := by
  refine (?f : (s : Stmt) → ((PySem.Challenge.pw_kp0118_07.main.body.drop 7).head? = some s) → Stmt) _ rfl
  exact fun s _ => gate (p := (Str.ofString "q").cps.size = 1) rfl s
def s07_8 : Stmt := by
  refine (?f : (s : Stmt) → ((PySem.Challenge.pw_kp0118_07.main.body.drop 8).head? = some s) → Stmt) _ rfl
  exact fun s _ => gate (p := (Str.ofString "q").cps.size = 1) rfl s
def s07_9 : Stmt := by
  refine (?f : (s : Stmt) → ((PySem.Challenge.pw_kp0118_07.main.body.drop 9).head? = some s) → Stmt) _ rfl
  exact fun s _ => gate (p := (Str.ofString "q").cps.size = 1) rfl s
def p07 : Program := by
  refine (?f : (sc : Scope) → (fl : Str) → (gv : Given) → (PySem.Challenge.pw_kp0118_07 = ⟨⟨[s07_0, s07_1, s07_2, s07_3, s07_4, s07_5, s07_6, s07_7, s07_8, s07_9], sc, false, fl, []⟩, [], [], [], [], gv⟩) → Program) _ _ _ rfl
  exact fun sc fl gv _ => ⟨⟨[s07_0, s07_1, s07_2, s07_3, s07_4, s07_5, s07_6, s07_7, s07_8, s07_9], sc, false, fl, []⟩, [], [], [], [], gv⟩
def r07 : OpenLaw := by
  refine (?f : (nm : Str) → (ab : List Str) → (ft : Nat) → (ms bd : Option Nat) → (wr : Bool) → (PySem.Challenge.rw_kp0118_07 = ⟨p07, nm, ab, ft, ms, bd, wr⟩) → OpenLaw) _ _ _ _ _ _ rfl
  exact fun nm ab ft ms bd wr _ => ⟨p07, nm, ab, ft, ms, bd, wr⟩
noncomputable def mkFn07 (s : Stmt) (df : Value) (md : Str) (tk : Nat) (c : Addr) : Obj := match s with
  | .FunctionDef nm args body _ _ _ sc _ _ _ => { cls := Value.type "function", data := Data.func { name := nm, qualname := nm, params := args, body := FuncBody.stmts body, scope := sc, globals := 3, closure := [], defaults := df, kwdefaults := Value.none, pyModule := Value.str md tk, code := Value.ref c } }
  | _ => default
noncomputable def o07_2 (P : Params) : Obj := { cls := Value.none, data := Data.dict #[] }
noncomputable def o07_3 (P : Params) : Obj := { cls := Value.type "dict", data := Data.dict #[{ hash := PyData.keyHash P (Str.ofString "__name__"), key := Value.str (Str.ofString "__name__") 165, val := Value.str (Str.ofString "law_kp0118_07") 215 }, { hash := PyData.keyHash P (Str.ofString "__doc__"), key := Value.str (Str.ofString "__doc__") 166, val := Value.none }, { hash := PyData.keyHash P (Str.ofString "__package__"), key := Value.str (Str.ofString "__package__") 167, val := Value.none }, { hash := PyData.keyHash P (Str.ofString "__loader__"), key := Value.str (Str.ofString "__loader__") 168, val := Value.builtin "__main__.__loader__#opaque" }, { hash := PyData.keyHash P (Str.ofString "__spec__"), key := Value.str (Str.ofString "__spec__") 169, val := Value.none }, { hash := PyData.keyHash P (Str.ofString "__annotations__"), key := Value.str (Str.ofString "__annotations__") 170, val := Value.ref 6 }, { hash := PyData.keyHash P (Str.ofString "__builtins__"), key := Value.str (Str.ofString "__builtins__") 171, val := Value.ref 4 }, { hash := PyData.keyHash P (Str.ofString "__file__"), key := Value.str (Str.ofString "__file__") 173, val := Value.str (Str.ofString "/claim/cut.py") 172 }, { hash := PyData.keyHash P (Str.ofString "__cached__"), key := Value.str (Str.ofString "__cached__") 174, val := Value.none }, { hash := PyData.keyHash P (Str.ofString "dict_replace_saxutils"), key := Value.str (Str.ofString "dict_replace_saxutils") 198, val := Value.ref 21 }, { hash := PyData.keyHash P (Str.ofString "escape"), key := Value.str (Str.ofString "escape") 206, val := Value.ref 30 }, { hash := PyData.keyHash P (Str.ofString "quoteattr"), key := Value.str (Str.ofString "quoteattr") 214, val := Value.ref 39 }, { hash := PyData.keyHash P (Str.ofString "_law_drawn"), key := Value.str (Str.ofString "_law_drawn") 222, val := Value.ref 44 }, { hash := PyData.keyHash P (Str.ofString "_law_owned"), key := Value.str (Str.ofString "_law_owned") 228, val := Value.ref 49 }, { hash := PyData.keyHash P (Str.ofString "_law_noted"), key := Value.str (Str.ofString "_law_noted") 241, val := Value.ref 56 }, { hash := PyData.keyHash P (Str.ofString "_law_read"), key := Value.str (Str.ofString "_law_read") 256, val := Value.ref 63 }, { hash := PyData.keyHash P (Str.ofString "law"), key := Value.str (Str.ofString "law") 262, val := Value.ref 68 }] 17 }
noncomputable def o07_20 (P : Params) : Obj := { cls := Value.type "code", data := Data.fields #[Value.str (Str.ofString "dict_replace_saxutils") 189, Value.str (Str.ofString "dict_replace_saxutils") 190, Value.str (Str.ofString "/claim/cut.py") 191, Value.int 2 0, Value.int 2 0, Value.int 0 0, Value.int 0 0, Value.int 3 0, Value.ref 15, Value.bool true, Value.int 181 0, Value.ref 16, Value.none, Value.ref 17, Value.ref 18, Value.ref 19, Value.int 196 0, Value.int 2 0, Value.str (Str.ofString "/claim/cut.py") 197] }
noncomputable def o07_21 (P : Params) : Obj := mkFn07 s07_1 (Value.none) (Str.ofString "cpy313.xml.sax.saxutils") 187 20
noncomputable def o07_22 (P : Params) : Obj := { cls := Value.type "dict", data := Data.dict #[] }
noncomputable def o07_23 (P : Params) : Obj := { cls := Value.type "tuple", data := Data.seq #[Value.ref 22] }
noncomputable def o07_29 (P : Params) : Obj := { cls := Value.type "code", data := Data.fields #[Value.str (Str.ofString "escape") 199, Value.str (Str.ofString "escape") 200, Value.str (Str.ofString "/claim/cut.py") 201, Value.int 6 0, Value.int 2 0, Value.int 0 0, Value.int 0 0, Value.int 3 0, Value.ref 24, Value.bool true, Value.int 181 0, Value.ref 25, Value.none, Value.ref 26, Value.ref 27, Value.ref 28, Value.int 204 0, Value.int 6 0, Value.str (Str.ofString "/claim/cut.py") 205] }
noncomputable def o07_30 (P : Params) : Obj := mkFn07 s07_2 (Value.ref 23) (Str.ofString "cpy313.xml.sax.saxutils") 187 29
noncomputable def o07_31 (P : Params) : Obj := { cls := Value.type "dict", data := Data.dict #[] }
noncomputable def o07_32 (P : Params) : Obj := { cls := Value.type "tuple", data := Data.seq #[Value.ref 31] }
noncomputable def o07_38 (P : Params) : Obj := { cls := Value.type "code", data := Data.fields #[Value.str (Str.ofString "quoteattr") 207, Value.str (Str.ofString "quoteattr") 208, Value.str (Str.ofString "/claim/cut.py") 209, Value.int 13 0, Value.int 2 0, Value.int 0 0, Value.int 0 0, Value.int 3 0, Value.ref 33, Value.bool true, Value.int 181 0, Value.ref 34, Value.none, Value.ref 35, Value.ref 36, Value.ref 37, Value.int 212 0, Value.int 13 0, Value.str (Str.ofString "/claim/cut.py") 213] }
noncomputable def o07_39 (P : Params) : Obj := mkFn07 s07_3 (Value.ref 32) (Str.ofString "cpy313.xml.sax.saxutils") 187 38
noncomputable def o07_43 (P : Params) : Obj := { cls := Value.type "code", data := Data.fields #[Value.str (Str.ofString "_law_drawn") 217, Value.str (Str.ofString "_law_drawn") 218, Value.str (Str.ofString "/claim/cut.py") 219, Value.int 25 0, Value.int 1 0, Value.int 0 0, Value.int 0 0, Value.int 3 0, Value.ref 40, Value.bool true, Value.int 181 0, Value.ref 41, Value.none, Value.none, Value.none, Value.ref 42, Value.int 220 0, Value.int 25 0, Value.str (Str.ofString "/claim/cut.py") 221] }
noncomputable def o07_44 (P : Params) : Obj := mkFn07 s07_5 (Value.none) (Str.ofString "law_kp0118_07") 215 43
noncomputable def o07_48 (P : Params) : Obj := { cls := Value.type "code", data := Data.fields #[Value.str (Str.ofString "_law_owned") 223, Value.str (Str.ofString "_law_owned") 224, Value.str (Str.ofString "/claim/cut.py") 225, Value.int 44 0, Value.int 2 0, Value.int 0 0, Value.int 0 0, Value.int 3 0, Value.ref 45, Value.bool true, Value.int 181 0, Value.ref 46, Value.none, Value.none, Value.none, Value.ref 47, Value.int 226 0, Value.int 44 0, Value.str (Str.ofString "/claim/cut.py") 227] }
noncomputable def o07_49 (P : Params) : Obj := mkFn07 s07_6 (Value.none) (Str.ofString "law_kp0118_07") 215 48
noncomputable def o07_55 (P : Params) : Obj := { cls := Value.type "code", data := Data.fields #[Value.str (Str.ofString "_law_noted") 229, Value.str (Str.ofString "_law_noted") 230, Value.str (Str.ofString "/claim/cut.py") 231, Value.int 52 0, Value.int 2 0, Value.int 0 0, Value.int 0 0, Value.int 3 0, Value.ref 50, Value.bool true, Value.int 181 0, Value.ref 51, Value.none, Value.ref 52, Value.ref 53, Value.ref 54, Value.int 239 0, Value.int 52 0, Value.str (Str.ofString "/claim/cut.py") 240] }
noncomputable def o07_56 (P : Params) : Obj := mkFn07 s07_7 (Value.none) (Str.ofString "law_kp0118_07") 215 55
noncomputable def o07_62 (P : Params) : Obj := { cls := Value.type "code", data := Data.fields #[Value.str (Str.ofString "_law_read") 242, Value.str (Str.ofString "_law_read") 243, Value.str (Str.ofString "/claim/cut.py") 244, Value.int 65 0, Value.int 2 0, Value.int 0 0, Value.int 0 0, Value.int 3 0, Value.ref 57, Value.bool true, Value.int 181 0, Value.ref 58, Value.none, Value.ref 59, Value.ref 60, Value.ref 61, Value.int 254 0, Value.int 65 0, Value.str (Str.ofString "/claim/cut.py") 255] }
noncomputable def o07_63 (P : Params) : Obj := mkFn07 s07_8 (Value.none) (Str.ofString "law_kp0118_07") 215 62
noncomputable def o07_67 (P : Params) : Obj := { cls := Value.type "code", data := Data.fields #[Value.str (Str.ofString "law") 257, Value.str (Str.ofString "law") 258, Value.str (Str.ofString "/claim/cut.py") 259, Value.int 86 0, Value.int 1 0, Value.int 0 0, Value.int 0 0, Value.int 3 0, Value.ref 64, Value.bool true, Value.int 181 0, Value.ref 65, Value.none, Value.none, Value.none, Value.ref 66, Value.int 260 0, Value.int 86 0, Value.str (Str.ofString "/claim/cut.py") 261] }
noncomputable def o07_68 (P : Params) : Obj := mkFn07 s07_9 (Value.none) (Str.ofString "law_kp0118_07") 215 67
noncomputable def K07 : Params → Frag := fun P =>
  [(2, o07_2 P), (3, o07_3 P), (20, o07_20 P), (21, o07_21 P), (22, o07_22 P), (23, o07_23 P), (29, o07_29 P), (30, o07_30 P), (31, o07_31 P), (32, o07_32 P), (38, o07_38 P), (39, o07_39 P), (43, o07_43 P), (44, o07_44 P), (48, o07_48 P), (49, o07_49 P), (55, o07_55 P), (56, o07_56 P), (62, o07_62 P), (63, o07_63 P), (67, o07_67 P), (68, o07_68 P)]
set_option maxRecDepth 100000 in
theorem rw_eq07 : PySem.Challenge.rw_kp0118_07 = r07 := rfl
/-! addresses: [2, 3, 20, 21, 22, 23, 29, 30, 31, 32, 38, 39, 43, 44, 48, 49, 55, 56, 62, 63, 67, 68] -/
end Sx
end
section
open PySem PySem.W PyProof.Rows PySem.Calls
set_option linter.unusedVariables false
set_option Elab.async false
set_option maxRecDepth 100000
namespace Sx
local macro_rules | `(tactic| walk_at "sxf") => `(tactic| first | with_reducible assumption | with_reducible exact find_hit | ((with_reducible refine find_miss ?hm ?_); (case hm => rfl); walk_at "sxf") | rfl | (simp only [mkSt, List.zip_cons_cons, List.zip_nil_right, List.map_cons, List.map_nil, List.cons_append, List.nil_append, put_cons, put_nil, find_putS, find_cons, String.reduceEq, if_true, if_false] <;> first | rfl | assumption))
local macro_rules | `(tactic| walk_at "sxg") => `(tactic| first | assumption | decide | omega)
noncomputable abbrev F07 (w : World) : Frag := K07 w.params

structure In07 (C : Cx) : Prop where
  hF : (F07 C.W.w).In C.W.h₀
  hG : C.W.gls = [("dict_replace_saxutils", .ref 21), ("escape", .ref 30), ("quoteattr", .ref 39), ("_law_drawn", .ref 44), ("_law_owned", .ref 49), ("_law_noted", .ref 56), ("_law_read", .ref 63), ("chr", .builtin "chr"), ("len", .builtin "len"), ("range", .type "range"), ("str", .type "str"), ("list", .type "list")]


theorem nb07 {C : Cx} (I : In07 C) : NoneBooked C.W.h₀ := ⟨fun _ => none, ⟨_, #[], _, I.hF 2 _ rfl, rfl, (by intro i h; simp at h), fun _ => rfl⟩, rfl⟩
theorem tabV_items (es : List (S × S)) : seqOf (.items (tabV es)) = some (es.map fun p => V.tup [.str p.1, .str p.2]) := by
  simp [seqOf, tabV, Key.v]

theorem c_dictrep {C : Cx} {n : Nat} (ok : C.Ok (n + 1)) (I : In07 C) {x : S} {es : List (S × S)} (h : RepOkG es x) :
    OpL C (Rep C.W) (fun ws => call (.ref 21) ws) [.str x, .dct (tabV es)] (fun v => v = .str (reps es x)) := by
  refine fn_call ok (fnAt_of (a := 21) I.hF (by rfl) (by rfl) (by rfl) (by rfl) (by rfl) (by rfl) (by rfl) (by rfl) (by rfl)) (ps := ["s", "d"]) (dvs := []) (ds := []) ?_ (fun _ _ _ _ => .nil) (by decide) (by rfl) fun A L q cd okn => ?_
  · exact fun s ws _ hl => binds_plain (n := 2) (fun ws hl => by
      obtain ⟨a, b, rfl⟩ := len2 hl
      rfl) s ws hl
  · refine exs_cons (ex_for okn ?_)
    refine ev_meth (ev_name okn (by walk_at "sxf") ?_) (by rfl) (by rfl) (by rfl) (by rfl)
    refine ⟨_, _, methOk_dct PySem.F.slot_dict_items PySem.F.type_dict_items, evL_nil (opL_items ⟨_, tabV_items es, rfl, ?_⟩)⟩
    refine loop_inv (fun xs σ => ∃ es' y, xs = es'.map (fun p => V.tup [.str p.1, .str p.2]) ∧ RepOkG es' y ∧ reps es' y = reps es x ∧ find σ (Str.ofString "s") = some (.val (.str y))) ?_ ?_ _ _ ⟨es, x, rfl, h, rfl, by walk_at "sxf"⟩
    · rintro v xs σ ⟨es', y, hxs, hr, he, hs⟩
      match es', hxs with
      | (k, z) :: es', hxs =>
        simp only [List.map_cons, List.cons.injEq] at hxs
        obtain ⟨rfl, rfl⟩ := hxs
        refine asg_tuple okn (asgL_cons (asg_name okn (by rfl) (asgL_cons (asg_name okn (by rfl) (asgL_nil ?_))))) (by rfl) (by rfl)
        refine exs_cons (ex_assign okn (by rfl) (by rfl) ?_)
        refine ev_meth (ev_name okn (by walk_at "sxf") ?_) (by rfl) (by rfl) (by rfl) (by rfl)
        refine ⟨_, _, methOk_str PySem.F.slot_str_replace PySem.F.type_str_replace, evL_cons (ev_name okn (by walk_at "sxf") ?_)⟩
        refine evL_cons (ev_name okn (by walk_at "sxf") (evL_nil (opL_replaceG (by exact nb07 ⟨I.hF, I.hG⟩) hr.1 ?_)))
        refine exs_nil ⟨es', _, rfl, hr.2, he, by walk_at "sxf"⟩
    · rintro σ ⟨es', y, hxs, hr, he, hs⟩
      have : es' = [] := by simpa using hxs.symm
      subst this
      have he : y = reps es x := he
      subst he
      refine exs_nil (exs_cons (ex_return (ev_name okn hs rfl)))


theorem esc_body {W : Wd} {A : Around} {L : Addr} {q : Str} {cd : Value} {n : Nat} (okn : (fnCx W A (fdAt (F07 W.w) 30).scope L 30 q cd).Ok (n + 1)) (I : In07 (fnCx W A (fdAt (F07 W.w) 30).scope L 30 q cd)) {x : S} {es : List (S × S)} (h : RepOkG (((lit "&"), lit "&amp;") :: (lit ">", lit "&gt;") :: (lit "<", lit "&lt;") :: es) x) (hl : es.length ≤ sizeLine) :
    Exs (fnCx W A (fdAt (F07 W.w) 30).scope L 30 q cd) (mkSt ["data", "entities"] [.str x, .dct (tabV es)]) (bdAt (F07 W.w) 30) (fun fl _ => fl.v = .str (reps (((lit "&"), lit "&amp;") :: (lit ">", lit "&gt;") :: (lit "<", lit "&lt;") :: es) x)) := by
  obtain ⟨a2, b2, c2, h4⟩ := h
  refine exs_cons (ex_assign okn (by rfl) (by rfl) ?_)
  ((with_reducible refine ev_meth ?_ ?h1_1 ?h2_1 ?h3_1 ?h4_1); (case h1_1 => rfl); (case h2_1 => rfl); (case h3_1 => rfl); (case h4_1 => rfl)); ((with_reducible refine ev_name (v := ?vv_2) (by assumption) ?hf_2 ?_ ?hn_2 ?hd_2); (case hf_2 => walk_at "sxf"); (case hn_2 => decide); (case hd_2 => decide))
  refine ⟨_, _, methOk_str PySem.F.slot_str_replace PySem.F.type_str_replace, ?_⟩
  ((with_reducible refine evL_cons ?_ ?hs_3); (case hs_3 => rfl)); ((with_reducible refine ev_str ?_)); ((with_reducible refine evL_cons ?_ ?hs_5); (case hs_5 => rfl)); ((with_reducible refine ev_str ?_)); ((with_reducible refine evL_nil ?_))
  refine opL_replaceG (by exact nb07 ⟨I.hF, I.hG⟩) a2 ?_
  refine exs_cons (ex_assign okn (by rfl) (by rfl) ?_)
  ((with_reducible refine ev_meth ?_ ?h1_8 ?h2_8 ?h3_8 ?h4_8); (case h1_8 => rfl); (case h2_8 => rfl); (case h3_8 => rfl); (case h4_8 => rfl)); ((with_reducible refine ev_name (v := ?vv_9) (by assumption) ?hf_9 ?_ ?hn_9 ?hd_9); (case hf_9 => walk_at "sxf"); (case hn_9 => decide); (case hd_9 => decide))
  refine ⟨_, _, methOk_str PySem.F.slot_str_replace PySem.F.type_str_replace, ?_⟩
  ((with_reducible refine evL_cons ?_ ?hs_10); (case hs_10 => rfl)); ((with_reducible refine ev_str ?_)); ((with_reducible refine evL_cons ?_ ?hs_12); (case hs_12 => rfl)); ((with_reducible refine ev_str ?_)); ((with_reducible refine evL_nil ?_))
  refine opL_replaceG (by exact nb07 ⟨I.hF, I.hG⟩) b2 ?_
  refine exs_cons (ex_assign okn (by rfl) (by rfl) ?_)
  ((with_reducible refine ev_meth ?_ ?h1_15 ?h2_15 ?h3_15 ?h4_15); (case h1_15 => rfl); (case h2_15 => rfl); (case h3_15 => rfl); (case h4_15 => rfl)); ((with_reducible refine ev_name (v := ?vv_16) (by assumption) ?hf_16 ?_ ?hn_16 ?hd_16); (case hf_16 => walk_at "sxf"); (case hn_16 => decide); (case hd_16 => decide))
  refine ⟨_, _, methOk_str PySem.F.slot_str_replace PySem.F.type_str_replace, ?_⟩
  ((with_reducible refine evL_cons ?_ ?hs_17); (case hs_17 => rfl)); ((with_reducible refine ev_str ?_)); ((with_reducible refine evL_cons ?_ ?hs_19); (case hs_19 => rfl)); ((with_reducible refine ev_str ?_)); ((with_reducible refine evL_nil ?_))
  refine opL_replaceG (by exact nb07 ⟨I.hF, I.hG⟩) c2 ?_
  refine exs_cons (ex_if (tst_val ?_))
  ((with_reducible refine ev_name (v := ?vv_22) (by assumption) ?hf_22 ?_ ?hn_22 ?hd_22); (case hf_22 => walk_at "sxf"); (case hn_22 => decide); (case hd_22 => decide))
  refine truthy_dict (by simpa [tabV] using hl) ⟨fun _ => ?_, fun he => ?_⟩
  · refine exs_cons (ex_assign okn (by rfl) (by rfl) ?_)
    refine ev_fn okn I.hG (by rfl) (by rfl) (callee_of (fnAt_of (a := 21) I.hF (by rfl) (by rfl) (by rfl) (by rfl) (by rfl) (by rfl) (by rfl) (by rfl) (by rfl))) ?_ (by rfl) (by rfl) (by decide)
    ((with_reducible refine evL_cons ?_ ?hs_23); (case hs_23 => rfl)); ((with_reducible refine ev_name (v := ?vv_24) (by assumption) ?hf_24 ?_ ?hn_24 ?hd_24); (case hf_24 => walk_at "sxf"); (case hn_24 => decide); (case hd_24 => decide)); ((with_reducible refine evL_cons ?_ ?hs_25); (case hs_25 => rfl)); ((with_reducible refine ev_name (v := ?vv_26) (by assumption) ?hf_26 ?_ ?hn_26 ?hd_26); (case hf_26 => walk_at "sxf"); (case hn_26 => decide); (case hd_26 => decide)); ((with_reducible refine evL_nil ?_))
    refine OpL.eq (c_dictrep okn ⟨I.hF, I.hG⟩ h4) ?_
    refine exs_nil (exs_cons (ex_return ?_))
    ((with_reducible refine ev_name (v := ?vv_28) (by assumption) ?hf_28 ?_ ?hn_28 ?hd_28); (case hf_28 => walk_at "sxf"); (case hn_28 => decide); (case hd_28 => decide)); rfl
  · refine exs_nil (exs_cons (ex_return ?_))
    ((with_reducible refine ev_name (v := ?vv_29) (by assumption) ?hf_29 ?_ ?hn_29 ?hd_29); (case hf_29 => walk_at "sxf"); (case hn_29 => decide); (case hd_29 => decide))
    have : es = [] := by
      cases es with
      | nil => rfl
      | cons => simp [tabV] at he
    subst this; rfl
theorem c_escape {C : Cx} {n : Nat} (ok : C.Ok (n + 2)) (I : In07 C) {x : S} {es : List (S × S)} (h : RepOkG (((lit "&"), lit "&amp;") :: (lit ">", lit "&gt;") :: (lit "<", lit "&lt;") :: es) x) (hl : es.length ≤ sizeLine) :
    OpL C (Rep C.W) (fun ws => call (.ref 30) ws) [.str x, .dct (tabV es)] (fun v => v = .str (reps (((lit "&"), lit "&amp;") :: (lit ">", lit "&gt;") :: (lit "<", lit "&lt;") :: es) x)) := by
  refine fn_call ok (fnAt_of (a := 30) I.hF (by rfl) (by rfl) (by rfl) (by rfl) (by rfl) (by rfl) (by rfl) (by rfl) (by rfl)) (ps := ["data", "entities"]) (dvs := []) (ds := []) ?_ (fun _ _ _ _ => .nil) (by decide) (by rfl) fun A L q cd okn => ?_
  · intro s ws hk hl
    rw [List.append_nil]
    obtain ⟨a, b, rfl⟩ := len2 hl
    exact BindsTo.of_defaults (T := 23) rfl (hk _ _ (I.hF 23 _ rfl)) rfl rfl rfl
  · exact esc_body okn ⟨I.hF, I.hG⟩ h hl
theorem c_escape1 {C : Cx} {n : Nat} (ok : C.Ok (n + 2)) (I : In07 C) {x : S} (h : RepOkG (((lit "&"), lit "&amp;") :: (lit ">", lit "&gt;") :: (lit "<", lit "&lt;") :: []) x) :
    OpL C (Rep C.W) (fun ws => call (.ref 30) ws) [.str x] (fun v => v = .str (reps (((lit "&"), lit "&amp;") :: (lit ">", lit "&gt;") :: (lit "<", lit "&lt;") :: []) x)) := by
  refine fn_call ok (fnAt_of (a := 30) I.hF (by rfl) (by rfl) (by rfl) (by rfl) (by rfl) (by rfl) (by rfl) (by rfl) (by rfl)) (ps := ["data", "entities"]) (dvs := [.dct []]) (ds := [.ref 22]) ?_ ?_ (by decide) (by rfl) fun A L q cd okn => ?_
  · intro s ws hk hl
    obtain ⟨a, rfl⟩ := len1 hl
    exact BindsTo.of_defaults (T := 23) rfl (hk _ _ (I.hF 23 _ rfl)) rfl rfl rfl
  · intro own T s hO
    exact .cons (.dct (ds := []) (kvs := []) (n := 0) (hO.base 22 _ (I.hF 22 _ rfl)) (by decide) ⟨rfl, rfl, rfl⟩ rfl .nil List.nodup_nil) .nil
  · exact esc_body (es := []) okn ⟨I.hF, I.hG⟩ h (Nat.zero_le _)

theorem quo_body {W : Wd} {A : Around} {L : Addr} {q : Str} {cd : Value} {n : Nat} (okn : (fnCx W A (fdAt (F07 W.w) 39).scope L 39 q cd).Ok (n + 2)) (I : In07 (fnCx W A (fdAt (F07 W.w) 39).scope L 39 q cd)) {x : S} {es : List (S × S)} (hd : (ks7 es).Nodup) (h : RepOkG (((lit "&"), lit "&amp;") :: (lit ">", lit "&gt;") :: (lit "<", lit "&lt;") :: tput es own7) x) (hl : es.length + 10 ≤ sizeLine)
    {b : S} (hb : b = reps (((lit "&"), lit "&amp;") :: (lit ">", lit "&gt;") :: (lit "<", lit "&lt;") :: tput es own7) x) (hbl : b.length * 10 ≤ 20000000) :
    Exs (fnCx W A (fdAt (F07 W.w) 39).scope L 39 q cd) (mkSt ["data", "entities"] [.str x, .dct (tabV es)]) (bdAt (F07 W.w) 39) (fun fl _ => fl.v = .str (quoted7 b)) := by
  have hsz : sizeLine = 16777216 := sizeLine_eq
  refine exs_cons (ex_assignN okn (by rfl) (by rfl) (evF_dictStarE okn ?_ (by rfl) (by rfl) (by rfl) (by exact (by decide : 3 ≤ 15))))
  ((with_reducible refine ev_name (v := ?vv_30) (by assumption) ?hf_30 ?_ ?hn_30 ?hd_30); (case hf_30 => walk_at "sxf"); (case hn_30 => decide); (case hd_30 => decide))
  refine ⟨_, rfl, by show (tabV es).length + 3 ≤ _; simp [tabV]; omega, ?_⟩
  refine evD_cons (ev_str ⟨.s _, rfl, ev_str ?_⟩)
  refine evD_cons (ev_str ⟨.s _, rfl, ev_str ?_⟩)
  refine evD_cons (ev_str ⟨.s _, rfl, ev_str ?_⟩)
  refine evD_nil fun a => ?_
  have hn : ((tabV es).map (·.1)).Nodup := by
    have : (tabV es).map (·.1) = (ks7 es).map Key.s := by unfold tabV ks7; rw [List.map_map, List.map_map]; rfl
    rw [this]
    exact List.pairwise_map.mpr (hd.imp fun h e => h (by injection e))
  have e : dsets (dsets [] (tabV es)) (dsets [] ([] ++ [(Key.s (lit "\n"), V.str (lit "&#10;"))] ++ [(Key.s (lit "\r"), V.str (lit "&#13;"))] ++ [(Key.s (lit "\t"), V.str (lit "&#9;"))])) = tabV (tput es own7) := by
    rw [show dsets [] ([] ++ [(Key.s (lit "\n"), V.str (lit "&#10;"))] ++ [(Key.s (lit "\r"), V.str (lit "&#13;"))] ++ [(Key.s (lit "\t"), V.str (lit "&#9;"))]) = tabV own7 from rfl]
    rw [dsets_nil hn, dsets_tput]
  rw [e]
  refine exs_cons (Tr.freeze (x := "entities") (by walk_at "sxf") rfl ?_ (by decide))
  refine ex_assign okn (by rfl) (by rfl) ?_
  refine ev_fn okn I.hG (by rfl) (by rfl) (callee_of (fnAt_of (a := 30) I.hF (by rfl) (by rfl) (by rfl) (by rfl) (by rfl) (by rfl) (by rfl) (by rfl) (by rfl))) ?_ (by rfl) (by rfl) (by decide)
  ((with_reducible refine evL_cons ?_ ?hs_31); (case hs_31 => rfl)); ((with_reducible refine ev_name (v := ?vv_32) (by assumption) ?hf_32 ?_ ?hn_32 ?hd_32); (case hf_32 => walk_at "sxf"); (case hn_32 => decide); (case hd_32 => decide)); ((with_reducible refine evL_cons ?_ ?hs_33); (case hs_33 => rfl)); ((with_reducible refine ev_name (v := ?vv_34) (by assumption) ?hf_34 ?_ ?hn_34 ?hd_34); (case hf_34 => walk_at "sxf"); (case hn_34 => decide); (case hd_34 => decide)); ((with_reducible refine evL_nil ?_))
  refine OpL.eq (c_escape okn ⟨I.hF, I.hG⟩ h (by have h1 := tset1_length es [10] (lit "&#10;"); have h2 := tset1_length (tset1 es [10] (lit "&#10;")) [13] (lit "&#13;"); have h3 := tset1_length (tset1 (tset1 es [10] (lit "&#10;")) [13] (lit "&#13;")) [9] (lit "&#9;"); show (tset1 (tset1 (tset1 es [10] (lit "&#10;")) [13] (lit "&#13;")) [9] (lit "&#9;")).length ≤ _; omega)) ?_
  rw [← hb]
  refine exs_cons (ex_if (tst_cmp ?_))
  ((with_reducible refine ev_str ?_)); ((with_reducible refine ev_name (v := ?vv_37) (by assumption) ?hf_37 ?_ ?hn_37 ?hd_37); (case hf_37 => walk_at "sxf"); (case hn_37 => decide); (case hd_37 => decide))
  refine op_in_str ⟨_, rfl, fun h1 => ?_, fun h1 => ?_⟩
  · refine exs_cons (ex_if (tst_cmp ?_))
    ((with_reducible refine ev_str ?_)); ((with_reducible refine ev_name (v := ?vv_39) (by assumption) ?hf_39 ?_ ?hn_39 ?hd_39); (case hf_39 => walk_at "sxf"); (case hn_39 => decide); (case hd_39 => decide))
    refine op_in_str ⟨_, rfl, fun h2 => ?_, fun h2 => ?_⟩
    · refine exs_cons (ex_assign okn (by rfl) (by rfl) ?_)
      ((with_reducible refine ev_bin ?_)); ((with_reducible refine ev_str ?_)); ((with_reducible refine ev_meth ?_ ?h1_42 ?h2_42 ?h3_42 ?h4_42); (case h1_42 => rfl); (case h2_42 => rfl); (case h3_42 => rfl); (case h4_42 => rfl)); ((with_reducible refine ev_name (v := ?vv_43) (by assumption) ?hf_43 ?_ ?hn_43 ?hd_43); (case hf_43 => walk_at "sxf"); (case hn_43 => decide); (case hd_43 => decide))
      refine ⟨_, _, methOk_str PySem.F.slot_str_replace PySem.F.type_str_replace, ?_⟩
      ((with_reducible refine evL_cons ?_ ?hs_44); (case hs_44 => rfl)); ((with_reducible refine ev_str ?_)); ((with_reducible refine evL_cons ?_ ?hs_46); (case hs_46 => rfl)); ((with_reducible refine ev_str ?_)); ((with_reducible refine evL_nil ?_))
      have hq := repl_len (lit "\"") (lit "&quot;") b
      have hq6 : (lit "&quot;").length = 6 := rfl
      rw [hq6] at hq
      refine opL_replaceG (by exact nb07 ⟨I.hF, I.hG⟩) (by rw [hq6]; omega) ?_
      refine op_mod_str (c := 34) (.inl rfl) (by omega) ?_
      refine exs_nil (exs_nil (exs_cons (ex_return ?_)))
      ((with_reducible refine ev_name (v := ?vv_49) (by assumption) ?hf_49 ?_ ?hn_49 ?hd_49); (case hf_49 => walk_at "sxf"); (case hn_49 => decide); (case hd_49 => decide))
      unfold quoted7
      rw [if_pos (show hasSub [34] b = true from h1), if_pos (show hasSub [39] b = true from h2)]; simp [lit, Fl.v]
    · refine exs_cons (ex_assign okn (by rfl) (by rfl) ?_)
      ((with_reducible refine ev_bin ?_)); ((with_reducible refine ev_str ?_)); ((with_reducible refine ev_name (v := ?vv_52) (by assumption) ?hf_52 ?_ ?hn_52 ?hd_52); (case hf_52 => walk_at "sxf"); (case hn_52 => decide); (case hd_52 => decide))
      refine op_mod_str (c := 39) (.inr rfl) (by omega) ?_
      refine exs_nil (exs_nil (exs_cons (ex_return ?_)))
      ((with_reducible refine ev_name (v := ?vv_53) (by assumption) ?hf_53 ?_ ?hn_53 ?hd_53); (case hf_53 => walk_at "sxf"); (case hn_53 => decide); (case hd_53 => decide))
      unfold quoted7
      rw [if_pos (show hasSub [34] b = true from h1), if_neg (by rw [show hasSub [39] b = false from h2]; decide)]; simp [lit, Fl.v]
  · refine exs_cons (ex_assign okn (by rfl) (by rfl) ?_)
    ((with_reducible refine ev_bin ?_)); ((with_reducible refine ev_str ?_)); ((with_reducible refine ev_name (v := ?vv_56) (by assumption) ?hf_56 ?_ ?hn_56 ?hd_56); (case hf_56 => walk_at "sxf"); (case hn_56 => decide); (case hd_56 => decide))
    refine op_mod_str (c := 34) (.inl rfl) (by omega) ?_
    refine exs_nil (exs_cons (ex_return ?_))
    ((with_reducible refine ev_name (v := ?vv_57) (by assumption) ?hf_57 ?_ ?hn_57 ?hd_57); (case hf_57 => walk_at "sxf"); (case hn_57 => decide); (case hd_57 => decide))
    unfold quoted7
    rw [if_neg (by rw [show hasSub [34] b = false from h1]; decide)]; simp [lit, Fl.v]
theorem c_quoteattr {C : Cx} {n : Nat} (ok : C.Ok (n + 3)) (I : In07 C) {x : S} {es : List (S × S)} (hd : (ks7 es).Nodup) (h : RepOkG (((lit "&"), lit "&amp;") :: (lit ">", lit "&gt;") :: (lit "<", lit "&lt;") :: tput es own7) x) (hl : es.length + 10 ≤ sizeLine)
    {b : S} (hb : b = reps (((lit "&"), lit "&amp;") :: (lit ">", lit "&gt;") :: (lit "<", lit "&lt;") :: tput es own7) x) (hbl : b.length * 10 ≤ 20000000) :
    OpL C (Rep C.W) (fun ws => call (.ref 39) ws) [.str x, .dct (tabV es)] (fun v => v = .str (quoted7 b)) := by
  refine fn_call ok (fnAt_of (a := 39) I.hF (by rfl) (by rfl) (by rfl) (by rfl) (by rfl) (by rfl) (by rfl) (by rfl) (by rfl)) (ps := ["data", "entities"]) (dvs := []) (ds := []) ?_ (fun _ _ _ _ => .nil) (by decide) (by rfl) fun A L q cd okn => ?_
  · intro s ws hk hl
    rw [List.append_nil]
    obtain ⟨a, b, rfl⟩ := len2 hl
    exact BindsTo.of_defaults (T := 32) rfl (hk _ _ (I.hF 32 _ rfl)) rfl rfl rfl
  · exact quo_body okn ⟨I.hF, I.hG⟩ hd h hl hb hbl
theorem c_quoteattr1 {C : Cx} {n : Nat} (ok : C.Ok (n + 3)) (I : In07 C) {x : S} (h : RepOkG (((lit "&"), lit "&amp;") :: (lit ">", lit "&gt;") :: (lit "<", lit "&lt;") :: tput [] own7) x)
    {b : S} (hb : b = reps (((lit "&"), lit "&amp;") :: (lit ">", lit "&gt;") :: (lit "<", lit "&lt;") :: tput [] own7) x) (hbl : b.length * 10 ≤ 20000000) :
    OpL C (Rep C.W) (fun ws => call (.ref 39) ws) [.str x] (fun v => v = .str (quoted7 b)) := by
  refine fn_call ok (fnAt_of (a := 39) I.hF (by rfl) (by rfl) (by rfl) (by rfl) (by rfl) (by rfl) (by rfl) (by rfl) (by rfl)) (ps := ["data", "entities"]) (dvs := [.dct []]) (ds := [.ref 31]) ?_ ?_ (by decide) (by rfl) fun A L q cd okn => ?_
  · intro s ws hk hl
    obtain ⟨a, rfl⟩ := len1 hl
    exact BindsTo.of_defaults (T := 32) rfl (hk _ _ (I.hF 32 _ rfl)) rfl rfl rfl
  · intro own T s hO
    exact .cons (.dct (ds := []) (kvs := []) (n := 0) (hO.base 31 _ (I.hF 31 _ rfl)) (by decide) ⟨rfl, rfl, rfl⟩ rfl .nil List.nodup_nil) .nil
  · exact quo_body (es := []) okn ⟨I.hF, I.hG⟩ List.nodup_nil h (by rw [sizeLine_eq]; decide) hb hbl
theorem slcL_hi {α : Type} (x : List α) (i : Nat) : slc none (some (i : Int)) x = x.take i := by
  show (x.drop 0).take (clp x.length i - 0) = _
  rw [clp_nat, List.drop_zero, Nat.sub_zero, ← List.take_take, List.take_length]
theorem slcL_lo {α : Type} (x : List α) (i : Nat) : slc (some (i : Int)) none x = x.drop i := by
  show (x.drop (clp x.length i)).take (x.length - clp x.length i) = _
  rw [clp_nat, List.take_of_length_le (Nat.le_of_eq List.length_drop)]
  rcases Nat.le_total i x.length with h | h
  · rw [Nat.min_eq_left h]
  · rw [Nat.min_eq_right h, List.drop_length, List.drop_eq_nil_of_le h]
theorem slcL_lohi {α : Type} (x : List α) (i j : Nat) : slc (some (i : Int)) (some (j : Int)) x = (x.drop i).take (j - i) := by
  show (x.drop (clp x.length i)).take (clp x.length j - clp x.length i) = _
  rw [clp_nat, clp_nat]
  rcases Nat.le_total i x.length with h | h
  · rw [Nat.min_eq_left h]
    rcases Nat.le_total j x.length with k | k
    · rw [Nat.min_eq_left k]
    · rw [Nat.min_eq_right k, List.take_of_length_le (Nat.le_of_eq List.length_drop), List.take_of_length_le (by rw [List.length_drop]; exact Nat.sub_le_sub_right k i)]
  · rw [Nat.min_eq_right h, List.drop_length, List.drop_eq_nil_of_le h, List.take_nil, List.take_nil]
noncomputable def pfirst : V → V := fun v => match v with | .str l => .tup [.str [], .txt l] | _ => .none
noncomputable def pfree : V → Bool := fun v => match v with | .tup [.str o, .txt _] => decide (o = []) | _ => false
noncomputable def psnd : V → V := fun v => match v with | .tup [_, s] => s | _ => .none
noncomputable def pfull : V → Bool := fun v => match v with | .tup [.str _, .txt s] => decide (s ≠ []) | _ => false
theorem free_list (l : List Part) : ((l.map prK).filter pfree).map psnd = ((l.filter fun p => decide (p.1 = [])).map (·.2)).map V.txt := by
  rw [List.filter_map, List.map_map, List.map_map]; rfl
theorem full_list (l : List Part) : ((l.map prK).filter pfull).map id = (l.filter fun p => decide (p.2 ≠ [])).map prK := by
  rw [List.filter_map, List.map_id]; rfl
theorem cells_short {B : List Bk} (h : ∀ r k, Bk.o r k ∈ B → k.length ≤ 3) : ∀ p ∈ cells B, p.2.length ≤ 3 := fun p hp => by
  obtain ⟨b, hb, hp⟩ := List.mem_flatMap.mp hp
  cases b with
  | f c => rw [List.mem_singleton.mp hp]; show (1 : Nat) ≤ 3; decide
  | o r k =>
    rcases List.mem_cons.mp hp with rfl | hp
    · exact h r k hb
    · rw [(List.mem_replicate.mp hp).2]; exact Nat.zero_le _
theorem stepP_short {key ref : S} (hk : key.length ≤ 3) {ps : List Part} {i : Nat} (h : ∀ p ∈ ps, p.2.length ≤ 3) : ∀ p ∈ stepP key ref ps i, p.2.length ≤ 3 := fun p hp => by
  unfold stepP at hp
  split at hp
  · simp only [List.mem_append, List.mem_singleton, List.mem_replicate] at hp
    rcases hp with ((hp | rfl) | ⟨_, rfl⟩) | hp
    · exact h p (List.mem_of_mem_take hp)
    · exact hk
    · exact Nat.zero_le _
    · exact h p (List.mem_of_mem_drop hp)
  · exact h p hp
theorem sum_le3 : ∀ ls : List S, (∀ l ∈ ls, l.length ≤ 3) → (ls.map List.length).sum ≤ ls.length * 3
  | [], _ => Nat.le_refl _
  | l :: ls, h => by
    have h1 := h l List.mem_cons_self
    have h2 := sum_le3 ls fun l hl => h l (List.mem_cons_of_mem _ hl)
    rw [List.map_cons, List.sum_cons, List.length_cons, Nat.succ_mul]; rw [Nat.add_comm]; exact Nat.add_le_add h2 h1
set_option maxHeartbeats 1000000 in
theorem c_owned {C : Cx} {n : Nat} (ok : C.Ok (n + 2)) (I : In07 C) {x : S} {R : List (S × S)} (hx : x.length ≤ 1000) (hR : ∀ p ∈ R, p.1 ≠ [] ∧ p.2 ≠ [] ∧ p.1.length ≤ 3) (hRl : R.length ≤ 1000) :
    OpL C (Rep C.W) (fun ws => call (.ref 49) ws) [.str x, .lst (R.map prR)] (fun v => v = .lst (((ownB R (x.map Bk.f)).map partB).map prK)) := by
  refine fn_call ok (fnAt_of (a := 49) I.hF (by rfl) (by rfl) (by rfl) (by rfl) (by rfl) (by rfl) (by rfl) (by rfl) (by rfl)) (ps := ["text", "rules"]) (dvs := []) (ds := []) ?_ (fun _ _ _ _ => .nil) (by decide) (by rfl) fun A L q' cd okn => ?_
  · exact fun s ws _ hl => binds_plain (n := 2) (fun ws hl => by
      obtain ⟨a, b, rfl⟩ := len2 hl
      rfl) s ws hl
  · have hG : (fnCx C.W A (fdAt (F07 C.W.w) 49).scope L 49 q' cd).W.gls = _ := I.hG
    have hsz : sizeLine = 16777216 := sizeLine_eq
    refine exs_eq fun Q hQ => ?_
    refine exs_cons ?_
    refine ex_assignListComp okn (fv := []) (compOk_of (by kernel_rfl)) (by kernel_rfl) ?_ (swaps_list (by kernel_rfl))
    ((with_reducible refine ev_name (v := ?vv_4) (by assumption) ?hf_4 ?_ ?hn_4 ?hd_4); (case hf_4 => walk_at "sxf"); (case hn_4 => decide); (case hd_4 => decide))
    refine ⟨_, rfl, trivial, by rw [List.length_map]; exact line 1000 hx, fun cl L' okc => ?_⟩
    refine lloop_map (fun σ => True) pfirst _ _ _ trivial ?_ ?_
    · rintro y hy σ _
      obtain ⟨c, hc, rfl⟩ := List.mem_map.mp hy
      refine asg_name okc (by kernel_rfl) ?_
      refine Tr.weak (ev_tuple ?_)
      ((with_reducible refine evL_cons ?_ ?hs_5); (case hs_5 => rfl); (with_reducible refine ev_str ?_); (with_reducible refine evL_cons ?_ ?hs_7); (case hs_7 => rfl); (with_reducible refine ev_name (v := ?vv_8) (by assumption) ?hf_8 ?_ ?hn_8 ?hd_8); (case hf_8 => walk_at "sxf"); (case hn_8 => decide); (case hd_8 => decide); (with_reducible refine evL_nil ?_))
      exact ⟨szc 2, _, weak_K ([], [c]), rfl, trivial⟩
    intro D
    have e0 : [] ++ List.map pfirst (x.map fun c => V.str [c]) = (cells (x.map Bk.f)).map prK := by
      rw [List.nil_append, List.map_map, cells_f, List.map_map]; rfl
    show Exs _ (put _ _ _ (.list D ([] ++ List.map pfirst (x.map fun c => V.str [c])))) _ _
    rw [e0]
    refine Tr.freeze (x := "parts") (by walk_at "sxf") rfl ?_ (by decide)
    show Exs _ (put _ _ _ (.val (.lst ((cells (x.map Bk.f)).map prK)))) _ _
    refine exs_cons ?_
    refine ex_for okn ?_
    ((with_reducible refine ev_name (v := ?vv_10) (by assumption) ?hf_10 ?_ ?hn_10 ?hd_10); (case hf_10 => walk_at "sxf"); (case hn_10 => decide); (case hd_10 => decide))
    refine ⟨_, rfl, trivial, ?_⟩
    refine loop_listQ prR R (fun i σ => find σ (Str.ofString "text") = some (.val (.str x)) ∧ find σ (Str.ofString "parts") = some (.val (.lst ((cells (ownB (R.take i) (x.map Bk.f))).map prK)))) ?_ ?_ ⟨by walk_at "sxf", by walk_at "sxf"⟩ rfl
    · rintro i ⟨key, ref⟩ σ Q1 hQ1 hx1 ⟨f1, f2⟩
      obtain ⟨hk1, hk2, hk3⟩ := hR _ (List.mem_of_getElem? hx1)
      have hk1 : key ≠ [] := hk1
      have hk2 : ref ≠ [] := hk2
      have hk3 : key.length ≤ 3 := hk3
      have hkp := List.length_pos_iff.mpr hk1
      have hB := own_ok (R.take i) (x.map Bk.f) (fun p hp => ⟨(hR p (List.mem_of_mem_take hp)).1, (hR p (List.mem_of_mem_take hp)).2.1⟩) (okB_f x)
      have hstep : ownB (R.take (i + 1)) (x.map Bk.f) = passB key ref 0 (ownB (R.take i) (x.map Bk.f)) := by
        unfold ownB
        rw [List.take_add_one, hx1, List.foldl_append]; rfl
      have hsh : ∀ p ∈ cells (ownB (R.take i) (x.map Bk.f)), p.2.length ≤ 3 := cells_short fun r k hm => by
        rcases ownB_mem _ _ _ hm with ⟨p, hp, e⟩ | hm
        · injection e with e1 e2
          subst e2
          exact (hR p (List.mem_of_mem_take hp)).2.2
        · simp at hm
      rw [cells_f, List.length_map] at hB
      generalize ownB (R.take i) (x.map Bk.f) = B at f2 hB hstep hsh
      have hfin : (cells (passB key ref 0 B)).length = x.length := by rw [cells_pass_len hk1 hk2 hB.1, hB.2]
      refine asg_tuple okn (asgL_cons (asg_name okn (by kernel_rfl) (asgL_cons (asg_name okn (by kernel_rfl) (asgL_nil ?_))))) (by rfl) (by rfl)
      refine exs_cons ?_
      refine ex_for okn ?_
      ((with_reducible refine ev_fn (w := ?ww_11) (L := ?LL_11) (by assumption) ?hGG_11 ?h1_11 ?h2_11 ?hc_11 ?_ ?h3_11 ?h4_11 ?h5_11); (case hGG_11 => assumption); (case h1_11 => kernel_rfl); (case h2_11 => rfl); (case hc_11 => exact .ty); (case h3_11 => rfl); (case h4_11 => rfl); (case h5_11 => decide); (with_reducible refine evL_cons ?_ ?hs_12); (case hs_12 => rfl); (with_reducible refine ev_fn (w := ?ww_13) (L := ?LL_13) (by assumption) ?hGG_13 ?h1_13 ?h2_13 ?hc_13 ?_ ?h3_13 ?h4_13 ?h5_13); (case hGG_13 => assumption); (case h1_13 => kernel_rfl); (case h2_13 => rfl); (case hc_13 => exact .bi); (case h3_13 => rfl); (case h4_13 => rfl); (case h5_13 => decide); (with_reducible refine evL_cons ?_ ?hs_14); (case hs_14 => rfl); (with_reducible refine ev_name (v := ?vv_15) (by assumption) ?hf_15 ?_ ?hn_15 ?hd_15); (case hf_15 => walk_at "sxf"); (case hn_15 => decide); (case hd_15 => decide); (with_reducible refine evL_nil ?_); (with_reducible refine opL_len_str ?hg_17 ?_); (case hg_17 => walk_at "sxg"); (with_reducible refine evL_nil ?_); (with_reducible refine opL_range1 ?_))
      refine ⟨_, rfl, run_rngN (Nat.le_trans hx (by decide)) _, ?_⟩
      refine loop_rangeQ 0 x.length x.length (by rw [Int.sub_zero]; rfl) (fun j σ => ∃ ps : List Part, find σ (Str.ofString "text") = some (.val (.str x)) ∧ find σ (Str.ofString "parts") = some (.val (.lst (ps.map prK))) ∧ find σ (Str.ofString "key") = some (.val (.txt key)) ∧ find σ (Str.ofString "reference") = some (.val (.str ref)) ∧ ps.length = x.length ∧ (∀ p ∈ ps, p.2.length ≤ 3) ∧ At7 key ref j ps (cells (passB key ref 0 B))) ?_ ?_ ⟨cells B, by walk_at "sxf", by walk_at "sxf", by walk_at "sxf", by walk_at "sxf", hB.2, hsh, at7_start B hB.1⟩
      · rintro j σ Q2 hQ2 hj ⟨ps, f1, f2, f3, f4, hl, hs3, hat⟩
        rw [Int.zero_add]
        have hpl : ps.length ≤ 1000 := by rw [hl]; exact hx
        obtain ⟨s1, s2⟩ := at7_step hk1 hk2 hat (by rw [hl]; exact hj)
        refine asg_name okn (by kernel_rfl) ?_
        refine exs_cons ?_
        refine ex_assignListComp okn (fv := []) (compOk_of (by kernel_rfl)) (by kernel_rfl) ?_ (swaps_list (by kernel_rfl))
        refine ev_ofF ?_
        refine evF_slice_list ?_
        ((with_reducible refine ev_name (v := ?vv_20) (by assumption) ?hf_20 ?_ ?hn_20 ?hd_20); (case hf_20 => walk_at "sxf"); (case hn_20 => decide); (case hd_20 => decide))
        refine ⟨_, rfl, by rw [List.length_map]; exact line 1000 hpl, ?_⟩
        ((with_reducible refine evP_some ?_); (with_reducible refine ev_name (v := ?vv_22) (by assumption) ?hf_22 ?_ ?hn_22 ?hd_22); (case hf_22 => walk_at "sxf"); (case hn_22 => decide); (case hd_22 => decide); (with_reducible refine exI ?_); (with_reducible refine evP_some ?_); (with_reducible refine ev_bin ?_); (with_reducible refine ev_name (v := ?vv_26) (by assumption) ?hf_26 ?_ ?hn_26 ?hd_26); (case hf_26 => walk_at "sxf"); (case hn_26 => decide); (case hd_26 => decide); (with_reducible refine ev_fn (w := ?ww_27) (L := ?LL_27) (by assumption) ?hGG_27 ?h1_27 ?h2_27 ?hc_27 ?_ ?h3_27 ?h4_27 ?h5_27); (case hGG_27 => assumption); (case h1_27 => kernel_rfl); (case h2_27 => rfl); (case hc_27 => exact .bi); (case h3_27 => rfl); (case h4_27 => rfl); (case h5_27 => decide); (with_reducible refine evL_cons ?_ ?hs_28); (case hs_28 => rfl); (with_reducible refine ev_name (v := ?vv_29) (by assumption) ?hf_29 ?_ ?hn_29 ?hd_29); (case hf_29 => walk_at "sxf"); (case hn_29 => decide); (case hd_29 => decide); (with_reducible refine evL_nil ?_))
        refine opL_len_txt (line 3 hk3) ?_
        ((with_reducible refine op_add_int ?_); (with_reducible refine exI ?_))
        rw [show (j : Int) + (key.length : Int) = ((j + key.length : Nat) : Int) from rfl]
        skip
        intro a1
        refine ⟨_, rfl, trivial, by rw [slcL_lohi, List.length_take]; exact line 1000 (mle (by rw [List.length_drop, List.length_map]; exact Nat.le_trans (Nat.sub_le _ _) hpl)), fun cl L' okc => ?_⟩
        rw [slcL_lohi, ← List.map_drop, ← List.map_take, Nat.add_sub_cancel_left]
        refine lloop_filter (fun σ => True) pfree psnd _ _ _ trivial ?_ ?_
        · rintro y hy σ _
          obtain ⟨p, hp, rfl⟩ := List.mem_map.mp hy
          refine asg_tuple okc (asgL_cons (asg_name okc (by kernel_rfl) (asgL_cons (asg_name okc (by kernel_rfl) (asgL_nil ?_))))) (by rfl) (by rfl)
          ((with_reducible refine tst_cmp ?_ ?hs_33); (case hs_33 => with_unfolding_all rfl); (with_reducible refine ev_name (v := ?vv_34) (by assumption) ?hf_34 ?_ ?hn_34 ?hd_34); (case hf_34 => walk_at "sxf"); (case hn_34 => decide); (case hd_34 => decide); (with_reducible refine ev_str ?_); (with_reducible refine op_eq_str ?_); (with_reducible refine exB ?_))
          refine ⟨rfl, trivial, fun _ => ?_⟩
          ((with_reducible refine ev_name (v := ?vv_38) (by assumption) ?hf_38 ?_ ?hn_38 ?hd_38); (case hf_38 => walk_at "sxf"); (case hn_38 => decide); (case hd_38 => decide))
          exact ⟨rfl, trivial⟩
        intro D
        have hps : ((ps.drop j).take key.length).length ≤ x.length := by rw [List.length_take]; exact mle (by rw [List.length_drop, hl]; exact Nat.sub_le _ _)
        show Exs _ (put _ _ _ (.list D ([] ++ List.map psnd (List.filter pfree (((ps.drop j).take key.length).map prK))))) _ _
        rw [List.nil_append, free_list]
        refine Tr.freeze (x := "free") (by walk_at "sxf") rfl ?_ (by decide)
        obtain ⟨ls, hls⟩ : ∃ ls, (((ps.drop j).take key.length).filter fun p => decide (p.1 = [])).map (·.2) = ls := ⟨_, rfl⟩
        have hlm : ∀ l ∈ ls, l.length ≤ 3 := fun l hm => by
          rw [← hls] at hm
          obtain ⟨p, hp, rfl⟩ := List.mem_map.mp hm
          exact hs3 p (List.mem_of_mem_drop (List.mem_of_mem_take (List.mem_filter.mp hp).1))
        have hll : ls.length ≤ x.length := by
          rw [← hls, List.length_map]
          exact Nat.le_trans (List.length_filter_le _ _) hps
        have hsum := sum_le3 ls hlm
        have hs3k : (ls.map List.length).sum ≤ 3000 := Nat.le_trans hsum (Nat.le_trans (Nat.mul_le_mul_right 3 (Nat.le_trans hll hx)) (by decide))
        have hhit : decide (joinS [] ls = key) = hit7 key (ps.drop j) := by
          unfold hit7
          rw [joinS_nil, ← hls, List.flatMap_def]
        rw [hls]
        show Exs _ (put _ _ _ (.val (.lst (ls.map V.txt)))) _ _
        have tick : ∀ σ : St, find σ (Str.ofString "text") = some (.val (.str x)) → find σ (Str.ofString "parts") = some (.val (.lst ((stepP key ref ps j).map prK))) → find σ (Str.ofString "key") = some (.val (.txt key)) → find σ (Str.ofString "reference") = some (.val (.str ref)) → Q2 .next σ :=
          fun σ g1 g2 g3 g4 => hQ2 _ ⟨_, g1, g2, g3, g4, s2.trans hl, stepP_short hk3 hs3, s1⟩
        clear hQ2
        ((refine exs_cons ?_); (with_reducible refine ex_if ?_))
        ((with_reducible refine tst_cmp ?_ ?hs_39); (case hs_39 => with_unfolding_all rfl); (with_reducible refine ev_meth ?_ ?h1_40 ?h2_40 ?h3_40 ?h4_40); (case h1_40 => rfl); (case h2_40 => rfl); (case h3_40 => rfl); (case h4_40 => rfl); (with_reducible refine ev_str ?_); (with_reducible refine ⟨_, _, methOk_str PySem.F.slot_str_join PySem.F.type_str_join, ?_⟩); (with_reducible refine evL_cons ?_ ?hs_43); (case hs_43 => rfl); (with_reducible refine ev_name (v := ?vv_44) (by assumption) ?hf_44 ?_ ?hn_44 ?hd_44); (case hf_44 => walk_at "sxf"); (case hn_44 => decide); (case hd_44 => decide); (with_reducible refine evL_nil ?_))
        refine opL_join_txt (by show _ + ls.length * 0 ≤ _; rw [Nat.mul_zero, Nat.add_zero]; exact line 3000 hs3k) (by show (joinS [] ls).length ≤ _; rw [joinS_nil, List.length_flatten]; exact line 3000 hs3k) ?_
        ((with_reducible refine ev_name (v := ?vv_46) (by assumption) ?hf_46 ?_ ?hn_46 ?hd_46); (case hf_46 => walk_at "sxf"); (case hn_46 => decide); (case hd_46 => decide))
        refine op_eq_tx (u := .txt (joinS (lit "") ls)) (v := .txt key) (a := joinS (lit "") ls) (b := key) rfl rfl ?_
        ((with_reducible refine exB ?_))
        rw [show lit "" = [] from rfl, hhit]
        refine ⟨fun hb => ?_, fun hb => ?_⟩
        · have hst : stepP key ref ps j = ps.take j ++ [(ref, key)] ++ List.replicate (key.length - 1) (ref, []) ++ ps.drop (j + key.length) := by unfold stepP; rw [if_pos hb]
          ((refine exs_cons ?_); (with_reducible refine ex_assign (by assumption) ?hx_1 ?hs_1 ?_); (case hx_1 => kernel_rfl); (case hs_1 => exact swaps_no (by rfl)))
          refine ev_ofF ?_
          refine evF_bin ?_
          refine ev_ofF ?_
          refine evF_bin ?_
          refine ev_ofF ?_
          refine evF_bin ?_
          refine ev_ofF ?_
          refine evF_slice_list ?_
          ((with_reducible refine ev_name (v := ?vv_48) (by assumption) ?hf_48 ?_ ?hn_48 ?hd_48); (case hf_48 => walk_at "sxf"); (case hn_48 => decide); (case hd_48 => decide))
          refine ⟨_, rfl, by rw [List.length_map]; exact line 1000 hpl, ?_⟩
          ((with_reducible refine evP_none ?_); (with_reducible refine evP_some ?_); (with_reducible refine ev_name (v := ?vv_51) (by assumption) ?hf_51 ?_ ?hn_51 ?hd_51); (case hf_51 => walk_at "sxf"); (case hn_51 => decide); (case hd_51 => decide); (with_reducible refine exI ?_))
          intro a2
          refine ev_ofF ?_
          refine evF_list ?_
          ((with_reducible refine evL_cons ?_ ?hs_53); (case hs_53 => rfl))
          refine ev_tuple ?_
          ((with_reducible refine evL_cons ?_ ?hs_54); (case hs_54 => rfl); (with_reducible refine ev_name (v := ?vv_55) (by assumption) ?hf_55 ?_ ?hn_55 ?hd_55); (case hf_55 => walk_at "sxf"); (case hn_55 => decide); (case hd_55 => decide); (with_reducible refine evL_cons ?_ ?hs_56); (case hs_56 => rfl); (with_reducible refine ev_name (v := ?vv_57) (by assumption) ?hf_57 ?_ ?hn_57 ?hd_57); (case hf_57 => walk_at "sxf"); (case hn_57 => decide); (case hd_57 => decide); (with_reducible refine evL_nil ?_))
          refine ⟨szc 2, ?_⟩
          ((with_reducible refine evL_nil ?_))
          refine ⟨szc 1, fun a3 => ?_⟩
          rw [slcL_hi, ← List.map_take]
          have t1 : (ps.take j).length ≤ x.length := by rw [List.length_take]; exact mle (Nat.le_of_eq hl)
          have t2 : (ps.drop (j + key.length)).length ≤ x.length := by rw [List.length_drop, hl]; exact Nat.sub_le _ _
          refine opF_add_list (by rw [List.length_map]; show _ + 1 ≤ _; exact line 1001 (Nat.succ_le_succ (Nat.le_trans t1 hx))) fun a4 => ?_
          refine ev_ofF ?_
          refine evF_bin ?_
          refine ev_ofF ?_
          refine evF_list ?_
          ((with_reducible refine evL_cons ?_ ?hs_60); (case hs_60 => rfl))
          refine Tr.weak (ev_tuple ?_)
          ((with_reducible refine evL_cons ?_ ?hs_61); (case hs_61 => rfl); (with_reducible refine ev_name (v := ?vv_62) (by assumption) ?hf_62 ?_ ?hn_62 ?hd_62); (case hf_62 => walk_at "sxf"); (case hn_62 => decide); (case hd_62 => decide); (with_reducible refine evL_cons ?_ ?hs_63); (case hs_63 => rfl); (with_reducible refine ev_str ?_); (with_reducible refine evL_nil ?_))
          refine ⟨szc 2, _, weak_K (ref, lit ""), ?_⟩
          ((with_reducible refine evL_nil ?_))
          refine ⟨szc 1, fun a5 => ?_⟩
          ((with_reducible refine ev_bin ?_); (with_reducible refine ev_fn (w := ?ww_68) (L := ?LL_68) (by assumption) ?hGG_68 ?h1_68 ?h2_68 ?hc_68 ?_ ?h3_68 ?h4_68 ?h5_68); (case hGG_68 => assumption); (case h1_68 => kernel_rfl); (case h2_68 => rfl); (case hc_68 => exact .bi); (case h3_68 => rfl); (case h4_68 => rfl); (case h5_68 => decide); (with_reducible refine evL_cons ?_ ?hs_69); (case hs_69 => rfl); (with_reducible refine ev_name (v := ?vv_70) (by assumption) ?hf_70 ?_ ?hn_70 ?hd_70); (case hf_70 => walk_at "sxf"); (case hn_70 => decide); (case hd_70 => decide); (with_reducible refine evL_nil ?_))
          refine opL_len_txt (line 3 hk3) ?_
          ((with_reducible refine ev_int ?_); (with_reducible refine op_sub_int ?_))
          rw [show (key.length : Int) - 1 = ((key.length - 1 : Nat) : Int) from (Int.ofNat_sub hkp).symm]
          refine opF_mul_list (Nat.le_trans (Nat.sub_le _ _) (Nat.le_trans hk3 (by decide))) fun a6 => ?_
          refine opF_add_list (by simp only [List.length_append, List.length_map, List.length_replicate, List.length_cons, List.length_nil]; exact line 1004 (Nat.add_le_add (Nat.succ_le_succ (Nat.le_trans t1 hx)) (Nat.le_trans (Nat.sub_le _ _) hk3))) fun a7 => ?_
          refine ev_ofF ?_
          refine evF_slice_list ?_
          ((with_reducible refine ev_name (v := ?vv_74) (by assumption) ?hf_74 ?_ ?hn_74 ?hd_74); (case hf_74 => walk_at "sxf"); (case hn_74 => decide); (case hd_74 => decide))
          refine ⟨_, rfl, by rw [List.length_map]; exact line 1000 hpl, ?_⟩
          ((with_reducible refine evP_some ?_); (with_reducible refine ev_bin ?_); (with_reducible refine ev_name (v := ?vv_77) (by assumption) ?hf_77 ?_ ?hn_77 ?hd_77); (case hf_77 => walk_at "sxf"); (case hn_77 => decide); (case hd_77 => decide); (with_reducible refine ev_fn (w := ?ww_78) (L := ?LL_78) (by assumption) ?hGG_78 ?h1_78 ?h2_78 ?hc_78 ?_ ?h3_78 ?h4_78 ?h5_78); (case hGG_78 => assumption); (case h1_78 => kernel_rfl); (case h2_78 => rfl); (case hc_78 => exact .bi); (case h3_78 => rfl); (case h4_78 => rfl); (case h5_78 => decide); (with_reducible refine evL_cons ?_ ?hs_79); (case hs_79 => rfl); (with_reducible refine ev_name (v := ?vv_80) (by assumption) ?hf_80 ?_ ?hn_80 ?hd_80); (case hf_80 => walk_at "sxf"); (case hn_80 => decide); (case hd_80 => decide); (with_reducible refine evL_nil ?_))
          refine opL_len_txt (line 3 hk3) ?_
          ((with_reducible refine op_add_int ?_); (with_reducible refine exI ?_); (with_reducible refine evP_none ?_))
          rw [show (j : Int) + (key.length : Int) = ((j + key.length : Nat) : Int) from rfl]
          skip
          intro a8
          rw [slcL_lo, ← List.map_drop]
          refine opF_add_list (by simp only [List.length_append, List.length_map, List.length_replicate, List.length_cons, List.length_nil]; exact line 2004 (Nat.add_le_add (Nat.add_le_add (Nat.succ_le_succ (Nat.le_trans t1 hx)) (Nat.le_trans (Nat.sub_le _ _) hk3)) (Nat.le_trans t2 hx))) fun a9 => ?_
          have e5 : ((ps.take j).map prK ++ [prK (ref, key)] ++ List.replicate (key.length - 1) (prK (ref, lit ""))) ++ (ps.drop (j + key.length)).map prK = (stepP key ref ps j).map prK := by
            rw [hst, List.map_append, List.map_append, List.map_append, List.map_replicate]; rfl
          show Exs _ (put _ _ _ (.val (.lst (((ps.take j).map prK ++ [prK (ref, key)] ++ List.replicate (key.length - 1) (prK (ref, lit ""))) ++ (ps.drop (j + key.length)).map prK)))) _ _
          rw [e5]
          exact exs_nil (exs_nil (tick _ (by walk_at "sxf") (by walk_at "sxf") (by walk_at "sxf") (by walk_at "sxf")))
        · refine exs_nil (exs_nil (tick _ (by walk_at "sxf") ?_ (by walk_at "sxf") (by walk_at "sxf")))
          have hst : stepP key ref ps j = ps := by unfold stepP; rw [if_neg (by rw [hb]; decide)]
          rw [hst]
          walk_at "sxf"
      · rintro σ ⟨ps, f1, f2, f3, f4, hl, hs3, hat⟩
        rw [← hl] at hat
        have := at7_end hat
        subst this
        exact exs_nil (exs_nil (hQ1 _ ⟨f1, by rw [hstep]; exact f2⟩))
    · rintro σ ⟨f1, f2⟩
      rw [List.take_length] at f2
      have hB := own_ok R (x.map Bk.f) (fun p hp => ⟨(hR p hp).1, (hR p hp).2.1⟩) (okB_f x)
      refine exs_nil ?_
      ((refine exs_cons ?_); (with_reducible refine ex_return ?_))
      refine ev_ofF ?_
      refine evF_listComp okn (fv := []) (compOk_of (by kernel_rfl)) ?_
      ((with_reducible refine ev_name (v := ?vv_85) (by assumption) ?hf_85 ?_ ?hn_85 ?hd_85); (case hf_85 => walk_at "sxf"); (case hn_85 => decide); (case hd_85 => decide))
      refine ⟨_, rfl, trivial, by rw [List.length_map, hB.2, cells_f, List.length_map]; exact line 1000 hx, fun cl L' okc => ?_⟩
      refine lloop_filter (fun σ => True) pfull id _ _ _ trivial ?_ ?_
      · rintro y hy σ _
        obtain ⟨p, hp, rfl⟩ := List.mem_map.mp hy
        refine asg_name okc (by kernel_rfl) ?_
        ((with_reducible refine tst_cmp ?_ ?hs_86); (case hs_86 => with_unfolding_all rfl); (with_reducible refine ev_sub ?_ ?hs_87); (case hs_87 => (intro _ _; rfl)); (with_reducible refine ev_name (v := ?vv_88) (by assumption) ?hf_88 ?_ ?hn_88 ?hd_88); (case hf_88 => walk_at "sxf"); (case hn_88 => decide); (case hd_88 => decide); (with_reducible refine ev_int ?_))
        refine item_tup (v := .txt p.2) (szc 2) rfl ?_
        ((with_reducible refine ev_str ?_))
        refine op_ne_tx (u := .txt p.2) (v := .str (lit "")) (a := p.2) (b := lit "") rfl rfl ?_
        ((with_reducible refine exB ?_))
        refine ⟨?_, trivial, fun _ => ?_⟩
        · show (!decide (p.2 = [])) = decide (p.2 ≠ [])
          by_cases h : p.2 = [] <;> simp [h]
        ((with_reducible refine ev_name (v := ?vv_92) (by assumption) ?hf_92 ?_ ?hn_92 ?hd_92); (case hf_92 => walk_at "sxf"); (case hn_92 => decide); (case hd_92 => decide))
        exact ⟨rfl, trivial⟩
      intro D
      have e : [] ++ List.map id (List.filter pfull ((cells (ownB R (x.map Bk.f))).map prK)) = ((ownB R (x.map Bk.f)).map partB).map prK := by rw [List.nil_append, full_list, parts_own _ hB.1]
      rw [e]
      exact hQ _
theorem dget_tabT : ∀ (N : List (S × S)) (r : S), dget (tabT N) (.s r) = (tget N r).map V.txt
  | [], r => rfl
  | (k, v) :: N, r => by
    show dget ((Key.s k, V.txt v) :: tabT N) (.s r) = (if k = r then some v else tget N r).map V.txt
    rw [dget_cons, dget_tabT N r]
    by_cases h : k = r
    · rw [if_pos (by rw [h]), if_pos h]; rfl
    · rw [if_neg (fun q => h (by injection q)), if_neg h]
set_option maxHeartbeats 1000000 in
theorem c_noted {C : Cx} {n : Nat} (ok : C.Ok (n + 2)) (I : In07 C) {N : List (S × S)} {B : List Bk} (hB : Told7 (tget N) B) (hl : (rend B).length ≤ 100000) (hBl : B.length ≤ 100000) :
    OpL C (Rep C.W) (fun ws => call (.ref 56) ws) [.str (rend B), .dct (tabT N)] (fun v => v = .lst ((B.map partB).map prK)) := by
  refine fn_call ok (fnAt_of (a := 56) I.hF (by rfl) (by rfl) (by rfl) (by rfl) (by rfl) (by rfl) (by rfl) (by rfl) (by rfl)) (ps := ["raw", "names"]) (dvs := []) (ds := []) ?_ (fun _ _ _ _ => .nil) (by decide) (by rfl) fun A L q' cd okn => ?_
  · exact fun s ws _ hl => binds_plain (n := 2) (fun ws hl => by
      obtain ⟨a, b, rfl⟩ := len2 hl
      rfl) s ws hl
  · have hG : (fnCx C.W A (fdAt (F07 C.W.w) 56).scope L 56 q' cd).W.gls = _ := I.hG
    have hsz : sizeLine = 16777216 := sizeLine_eq
    refine exs_eq fun Q hQ => ?_
    ((refine exs_cons ?_); (with_reducible refine ex_assignN (by assumption) ?hx_5 ?hs_5 ?_); (case hx_5 => kernel_rfl); (case hs_5 => exact swaps_no (by rfl)))
    refine evF_list ?_
    ((with_reducible refine evL_nil ?_))
    refine ⟨Nat.zero_le _, fun ar => ?_⟩
    refine exs_cons ?_
    refine ex_whileQ okn (fun k σ => ∃ done rest : List Bk, k = rest.length ∧ B = done ++ rest ∧ (rend rest).length ≤ 100000 ∧ find σ (Str.ofString "raw") = some (.val (.str (rend rest))) ∧ find σ (Str.ofString "names") = some (.val (.dct (tabT N))) ∧ find σ (Str.ofString "parts") = some (.list ar ((done.map partB).map prK))) ?_ B.length ⟨[], B, rfl, rfl, hl, by walk_at "sxf", by walk_at "sxf", by walk_at "sxf"⟩
    rintro k σ Q1 Q2 hQ1 hQ2 ⟨done, rest, rfl, e, hrl, f1, f2, f3⟩
    ((with_reducible refine tst_cmp ?_ ?hs_13); (case hs_13 => with_unfolding_all rfl); (with_reducible refine ev_name (v := ?vv_14) (by assumption) ?hf_14 ?_ ?hn_14 ?hd_14); (case hf_14 => walk_at "sxf"); (case hn_14 => decide); (case hd_14 => decide); (with_reducible refine ev_str ?_); (with_reducible refine op_ne_str ?_); (with_reducible refine exB ?_))
    have hdl : done.length + rest.length ≤ 100000 := by
      have := congrArg List.length e
      rw [List.length_append] at this; rw [← this]; exact hBl
    refine ⟨fun hb => ?_, fun hb => ?_⟩
    · have hr : rend rest = [] := by simpa [lit] using hb
      have hr : rest = [] := by
        match rest, hr, e with
        | [], _, _ => rfl
        | .f c :: rest, hr, e => rw [rend_cons] at hr; cases hr
        | .o r key :: rest, hr, e =>
          obtain ⟨⟨nm, e1, _⟩, _⟩ := hB.2 r key (by rw [e]; simp)
          rw [rend_cons, show rendB (.o r key) = r from rfl, e1] at hr; cases hr
      subst hr
      rw [List.append_nil] at e
      subst e
      refine hQ1 _ (exs_nil ?_)
      refine Tr.freeze (x := "parts") f3 rfl ?_ (by decide)
      ((refine exs_cons ?_); (with_reducible refine ex_return ?_))
      ((with_reducible refine ev_name (v := ?vv_18) (by assumption) ?hf_18 ?_ ?hn_18 ?hd_18); (case hf_18 => walk_at "sxf"); (case hn_18 => decide); (case hd_18 => decide))
      exact hQ _
    · match rest, e, hrl, hdl, f1, hb with
      | [], e, hrl, hdl, f1, hb => simp [rend, lit] at hb
      | .f c :: rest, e, hrl, hdl, f1, hb =>
        have hc : c ≠ 38 := hB.1 c (by rw [e]; simp)
        have e1 : rend (.f c :: rest) = c :: rend rest := rend_cons _ _
        rw [e1] at f1 hrl
        rw [List.length_cons] at hrl hdl
        have e2 : slc (some (1 : Int)) none (c :: rend rest) = rend rest := slcL_lo (c :: rend rest) 1
        refine exs_cons (ex_unpack2 okn ?_ (by kernel_rfl) (by kernel_rfl) (by rfl) (by rfl))
        refine ev_tuple ?_
        ((with_reducible refine evL_cons ?_ ?hs_19); (case hs_19 => rfl); (with_reducible refine ev_str ?_); (with_reducible refine evL_cons ?_ ?hs_21); (case hs_21 => rfl); (with_reducible refine ev_sub ?_ ?hs_22); (case hs_22 => (intro _ _; rfl)); (with_reducible refine ev_name (v := ?vv_23) (by assumption) ?hf_23 ?_ ?hn_23 ?hd_23); (case hf_23 => walk_at "sxf"); (case hn_23 => decide); (case hd_23 => decide); (with_reducible refine ev_int ?_))
        refine item_str (i := 0) (c := c) (by rw [List.length_cons]; exact line 100000 hrl) rfl ?_
        ((with_reducible refine evL_nil ?_))
        refine ⟨szc 2, _, _, rfl, ?_⟩
        ((refine exs_cons ?_); (with_reducible refine ex_assign (by assumption) ?hx_1 ?hs_1 ?_); (case hx_1 => kernel_rfl); (case hs_1 => exact swaps_no (by rfl)))
        ((with_reducible refine ev_sliceT ?_); (with_reducible refine ev_name (v := ?vv_27) (by assumption) ?hf_27 ?_ ?hn_27 ?hd_27); (case hf_27 => walk_at "sxf"); (case hn_27 => decide); (case hd_27 => decide))
        refine exS (by rw [List.length_cons]; exact line 100000 hrl) ?_
        ((with_reducible refine evP_some ?_); (with_reducible refine ev_int ?_); (with_reducible refine exI ?_); (with_reducible refine evP_none ?_))
        rw [e2]
        ((refine exs_cons ?_); (with_reducible refine ex_if ?_))
        ((with_reducible refine tst_cmp ?_ ?hs_32); (case hs_32 => with_unfolding_all rfl); (with_reducible refine ev_name (v := ?vv_33) (by assumption) ?hf_33 ?_ ?hn_33 ?hd_33); (case hf_33 => walk_at "sxf"); (case hn_33 => decide); (case hd_33 => decide); (with_reducible refine ev_str ?_); (with_reducible refine op_eq_str ?_); (with_reducible refine exB ?_))
        refine ⟨fun hb => ?_, fun _ => ?_⟩
        · exact absurd (by simpa [lit] using hb) hc
        refine exs_nil ?_
        ((refine exs_cons ?_); (with_reducible refine ex_append (a := ?aa_10) (vs := ?vs_10) (by assumption) ?hf_10 ?_ ?d1_10 ?d2_10 ?d3_10 ?r1_10 ?r2_10 ?r3_10 ?r4_10 ?r5_10); (case hf_10 => walk_at "sxf"); (case d1_10 => decide); (case d2_10 => decide); (case d3_10 => decide); (case r1_10 => rfl); (case r2_10 => rfl); (case r3_10 => rfl); (case r4_10 => rfl); (case r5_10 => rfl))
        refine Tr.weak (ev_tuple ?_)
        ((with_reducible refine evL_cons ?_ ?hs_37); (case hs_37 => rfl); (with_reducible refine ev_name (v := ?vv_38) (by assumption) ?hf_38 ?_ ?hn_38 ?hd_38); (case hf_38 => walk_at "sxf"); (case hn_38 => decide); (case hd_38 => decide); (with_reducible refine evL_cons ?_ ?hs_39); (case hs_39 => rfl); (with_reducible refine ev_name (v := ?vv_40) (by assumption) ?hf_40 ?_ ?hn_40 ?hd_40); (case hf_40 => walk_at "sxf"); (case hn_40 => decide); (case hd_40 => decide); (with_reducible refine evL_nil ?_))
        refine ⟨szc 2, _, weak_K (lit "", [c]), ?_⟩
        refine ⟨(done.map partB).map prK, by walk_at "sxf", by rw [List.length_map, List.length_map]; exact line 100000 (Nat.le_trans (Nat.le_add_right _ _) hdl), ?_⟩
        have e5 : (done.map partB).map prK ++ [prK (lit "", [c])] = ((done ++ [Bk.f c]).map partB).map prK := by
          rw [List.map_append, List.map_append]; rfl
        rw [e5]
        exact exs_nil (hQ2 rest.length _ (Nat.lt_succ_self _) ⟨done ++ [.f c], rest, rfl, by rw [e]; simp, Nat.le_of_succ_le hrl, by walk_at "sxf", by walk_at "sxf", by walk_at "sxf"⟩)
      | .o r key :: rest, e, hrl, hdl, f1, hb =>
        obtain ⟨⟨nm, e0, hn59⟩, hnm⟩ := hB.2 r key (by rw [e]; simp)
        have e1 : rend (.o r key :: rest) = 38 :: (nm ++ 59 :: rend rest) := by
          rw [rend_cons, show rendB (.o r key) = r from rfl, e0]; simp
        rw [e1] at f1 hrl
        rw [List.length_cons] at hrl hdl
        have e2 : slc (some (1 : Int)) none (38 :: (nm ++ 59 :: rend rest)) = nm ++ 59 :: rend rest := slcL_lo (38 :: (nm ++ 59 :: rend rest)) 1
        refine exs_cons (ex_unpack2 okn ?_ (by kernel_rfl) (by kernel_rfl) (by rfl) (by rfl))
        refine ev_tuple ?_
        ((with_reducible refine evL_cons ?_ ?hs_42); (case hs_42 => rfl); (with_reducible refine ev_str ?_); (with_reducible refine evL_cons ?_ ?hs_44); (case hs_44 => rfl); (with_reducible refine ev_sub ?_ ?hs_45); (case hs_45 => (intro _ _; rfl)); (with_reducible refine ev_name (v := ?vv_46) (by assumption) ?hf_46 ?_ ?hn_46 ?hd_46); (case hf_46 => walk_at "sxf"); (case hn_46 => decide); (case hd_46 => decide); (with_reducible refine ev_int ?_))
        refine item_str (i := 0) (c := 38) (by rw [List.length_cons]; exact line 100000 hrl) rfl ?_
        ((with_reducible refine evL_nil ?_))
        refine ⟨szc 2, _, _, rfl, ?_⟩
        ((refine exs_cons ?_); (with_reducible refine ex_assign (by assumption) ?hx_2 ?hs_2 ?_); (case hx_2 => kernel_rfl); (case hs_2 => exact swaps_no (by rfl)))
        ((with_reducible refine ev_sliceT ?_); (with_reducible refine ev_name (v := ?vv_50) (by assumption) ?hf_50 ?_ ?hn_50 ?hd_50); (case hf_50 => walk_at "sxf"); (case hn_50 => decide); (case hd_50 => decide))
        refine exS (by rw [List.length_cons]; exact line 100000 hrl) ?_
        ((with_reducible refine evP_some ?_); (with_reducible refine ev_int ?_); (with_reducible refine exI ?_); (with_reducible refine evP_none ?_))
        rw [e2]
        ((refine exs_cons ?_); (with_reducible refine ex_if ?_))
        ((with_reducible refine tst_cmp ?_ ?hs_55); (case hs_55 => with_unfolding_all rfl); (with_reducible refine ev_name (v := ?vv_56) (by assumption) ?hf_56 ?_ ?hn_56 ?hd_56); (case hf_56 => walk_at "sxf"); (case hn_56 => decide); (case hd_56 => decide); (with_reducible refine ev_str ?_); (with_reducible refine op_eq_str ?_); (with_reducible refine exB ?_))
        refine ⟨fun _ => ?_, fun hb => ?_⟩
        · have hll : (nm ++ 59 :: rend rest).length = nm.length + ((rend rest).length + 1) := by rw [List.length_append, List.length_cons]
          have hnl : nm.length + 1 ≤ 100000 := Nat.le_trans (Nat.add_le_add_left (Nat.succ_le_succ (Nat.zero_le _)) _) (Nat.le_trans (Nat.le_of_eq hll.symm) (Nat.le_of_succ_le hrl))
          refine exs_cons (ex_unpack okn ?_ (by rfl) (by rfl))
          ((with_reducible refine ev_meth ?_ ?h1_60 ?h2_60 ?h3_60 ?h4_60); (case h1_60 => rfl); (case h2_60 => rfl); (case h3_60 => rfl); (case h4_60 => rfl); (with_reducible refine ev_name (v := ?vv_61) (by assumption) ?hf_61 ?_ ?hn_61 ?hd_61); (case hf_61 => walk_at "sxf"); (case hn_61 => decide); (case hd_61 => decide))
          refine ⟨_, _, methOk_str PySem.F.slot_str_partition PySem.F.type_str_partition, ?_⟩
          ((with_reducible refine evL_cons ?_ ?hs_62); (case hs_62 => rfl); (with_reducible refine ev_str ?_); (with_reducible refine evL_nil ?_))
          refine opL_partition (d := 59) hn59 (line 100000 (Nat.le_of_succ_le hrl)) ?_
          refine asg_tuple okn (asgL_cons (asg_name okn (by kernel_rfl) (asgL_cons (asg_name okn (by kernel_rfl) (asgL_cons (asg_name okn (by kernel_rfl) (asgL_nil ?_))))))) (by rfl) (by rfl)
          ((refine exs_cons ?_); (with_reducible refine ex_assign (by assumption) ?hx_3 ?hs_3 ?_); (case hx_3 => kernel_rfl); (case hs_3 => exact swaps_no (by rfl)))
          ((with_reducible refine ev_bin ?_); (with_reducible refine ev_bin ?_); (with_reducible refine ev_str ?_); (with_reducible refine ev_name (v := ?vv_68) (by assumption) ?hf_68 ?_ ?hn_68 ?hd_68); (case hf_68 => walk_at "sxf"); (case hn_68 => decide); (case hd_68 => decide))
          refine op_add_str (by show 1 + nm.length ≤ _; exact line 100000 (by rw [Nat.add_comm]; exact hnl)) ?_
          ((with_reducible refine ev_name (v := ?vv_69) (by assumption) ?hf_69 ?_ ?hn_69 ?hd_69); (case hf_69 => walk_at "sxf"); (case hn_69 => decide); (case hd_69 => decide))
          refine op_add_str (by rw [List.length_append]; show 1 + nm.length + 1 ≤ _; exact line 100001 (Nat.succ_le_succ (by rw [Nat.add_comm]; exact hnl))) ?_
          have e6 : lit "&" ++ nm ++ [59] = r := by rw [e0]; simp [lit]
          rw [e6]
          ((refine exs_cons ?_); (with_reducible refine ex_if ?_))
          ((with_reducible refine tst_cmp ?_ ?hs_70); (case hs_70 => with_unfolding_all rfl); (with_reducible refine ev_name (v := ?vv_71) (by assumption) ?hf_71 ?_ ?hn_71 ?hd_71); (case hf_71 => walk_at "sxf"); (case hn_71 => decide); (case hd_71 => decide); (with_reducible refine ev_name (v := ?vv_72) (by assumption) ?hf_72 ?_ ?hn_72 ?hd_72); (case hf_72 => walk_at "sxf"); (case hn_72 => decide); (case hd_72 => decide))
          refine op_notIn_dict (k := .s r) ?_
          rw [dget_tabT, hnm]
          refine exB ⟨fun q => (nomatch q), fun _ => ?_⟩
          refine exs_nil ?_
          ((refine exs_cons ?_); (with_reducible refine ex_assign (by assumption) ?hx_4 ?hs_4 ?_); (case hx_4 => kernel_rfl); (case hs_4 => exact swaps_no (by rfl)))
          ((with_reducible refine ev_sub ?_ ?hs_73); (case hs_73 => (intro _ _; rfl)); (with_reducible refine ev_name (v := ?vv_74) (by assumption) ?hf_74 ?_ ?hn_74 ?hd_74); (case hf_74 => walk_at "sxf"); (case hn_74 => decide); (case hd_74 => decide); (with_reducible refine ev_name (v := ?vv_75) (by assumption) ?hf_75 ?_ ?hn_75 ?hd_75); (case hf_75 => walk_at "sxf"); (case hn_75 => decide); (case hd_75 => decide))
          refine item_dictS (v := .txt key) (by rw [dget_tabT, hnm]; rfl) ?_
          refine exs_nil ?_
          ((refine exs_cons ?_); (with_reducible refine ex_append (a := ?aa_11) (vs := ?vs_11) (by assumption) ?hf_11 ?_ ?d1_11 ?d2_11 ?d3_11 ?r1_11 ?r2_11 ?r3_11 ?r4_11 ?r5_11); (case hf_11 => walk_at "sxf"); (case d1_11 => decide); (case d2_11 => decide); (case d3_11 => decide); (case r1_11 => rfl); (case r2_11 => rfl); (case r3_11 => rfl); (case r4_11 => rfl); (case r5_11 => rfl))
          refine ev_tuple ?_
          ((with_reducible refine evL_cons ?_ ?hs_76); (case hs_76 => rfl); (with_reducible refine ev_name (v := ?vv_77) (by assumption) ?hf_77 ?_ ?hn_77 ?hd_77); (case hf_77 => walk_at "sxf"); (case hn_77 => decide); (case hd_77 => decide); (with_reducible refine evL_cons ?_ ?hs_78); (case hs_78 => rfl); (with_reducible refine ev_name (v := ?vv_79) (by assumption) ?hf_79 ?_ ?hn_79 ?hd_79); (case hf_79 => walk_at "sxf"); (case hn_79 => decide); (case hd_79 => decide); (with_reducible refine evL_nil ?_))
          refine ⟨szc 2, ?_⟩
          refine ⟨(done.map partB).map prK, by walk_at "sxf", by rw [List.length_map, List.length_map]; exact line 100000 (Nat.le_trans (Nat.le_add_right _ _) hdl), ?_⟩
          have e5 : (done.map partB).map prK ++ [V.tup [.str r, .txt key]] = ((done ++ [Bk.o r key]).map partB).map prK := by
            rw [List.map_append, List.map_append]; rfl
          rw [e5]
          have hrr : (rend rest).length ≤ 100000 := Nat.le_trans (Nat.le_of_succ_le (Nat.le_add_left _ nm.length)) (Nat.le_trans (Nat.le_of_eq hll.symm) (Nat.le_of_succ_le hrl))
          exact exs_nil (hQ2 rest.length _ (Nat.lt_succ_self _) ⟨done ++ [.o r key], rest, rfl, by rw [e]; simp, hrr, by walk_at "sxf", by walk_at "sxf", by walk_at "sxf"⟩)
        · simp [lit] at hb
noncomputable def partsV (B : List Bk) : V := .lst ((B.map partB).map prK)
noncomputable def valV (v : Val7) : V := .tup [.str [v.1], partsV v.2]
noncomputable def tagV (t : Tag7) : V := .lst (partsV t.1 :: t.2.map valV)
set_option maxHeartbeats 1000000 in
theorem c_read {C : Cx} {n : Nat} (ok : C.Ok (n + 4)) (I : In07 C) {N : List (S × S)} {T : List Tag7} (hT : ∀ t ∈ T, ReadOk N t) (hne : T ≠ []) (hl : (doc7 T).length ≤ 16000000) :
    OpL C (Rep C.W) (fun ws => call (.ref 63) ws) [.str (doc7 T), .dct (tabT N)] (fun v => v = .lst (T.map tagV)) := by
  refine fn_call ok (fnAt_of (a := 63) I.hF (by rfl) (by rfl) (by rfl) (by rfl) (by rfl) (by rfl) (by rfl) (by rfl) (by rfl)) (ps := ["doc", "names"]) (dvs := []) (ds := []) ?_ (fun _ _ _ _ => .nil) (by decide) (by rfl) fun A L q' cd okn => ?_
  · exact fun s ws _ hl => binds_plain (n := 2) (fun ws hl => by
      obtain ⟨a, b, rfl⟩ := len2 hl
      rfl) s ws hl
  · have hG : (fnCx C.W A (fdAt (F07 C.W.w) 63).scope L 63 q' cd).W.gls = _ := I.hG
    have hsz : sizeLine = 16777216 := sizeLine_eq
    have hTl : ∀ t ∈ T, (tag7 t).length ≤ 16000000 := fun t ht => by
      have := flatMap_le (f := fun t => 60 :: tag7 t) ht
      rw [List.length_cons] at this

      exact Nat.le_trans (Nat.le_of_succ_le this) hl
    have hTn : T.length ≤ 16000000 := by
      have : ∀ T : List Tag7, T.length ≤ (doc7 T).length := by
        intro T
        induction T with
        | nil => exact Nat.zero_le _
        | cons t T ih =>
          show T.length + 1 ≤ (doc7 (t :: T)).length
          unfold doc7 at ih ⊢
          rw [List.flatMap_cons, List.length_append, List.length_cons]; exact Nat.le_trans (Nat.succ_le_succ ih) (Nat.le_trans (Nat.le_of_eq (Nat.add_comm _ 1)) (Nat.add_le_add_right (Nat.le_add_left 1 _) _))
      exact Nat.le_trans (this T) hl
    have hd := doc7_join T hne
    have hd0 : doc7 T ≠ [] := by
      match T, hne with
      | t :: T, _ => unfold doc7; rw [List.flatMap_cons]; simp
    refine exs_eq fun Q hQ => ?_
    ((refine exs_cons ?_); (with_reducible refine ex_assignN (by assumption) ?hx_5 ?hs_5 ?_); (case hx_5 => kernel_rfl); (case hs_5 => exact swaps_no (by rfl)))
    refine evF_list ?_
    ((with_reducible refine evL_nil ?_))
    refine ⟨Nat.zero_le _, fun aT => ?_⟩
    refine exs_cons ?_
    refine ex_for okn ?_
    refine ev_ofF ?_
    refine evF_sliceT ?_
    ((with_reducible refine ev_meth ?_ ?h1_15 ?h2_15 ?h3_15 ?h4_15); (case h1_15 => rfl); (case h2_15 => rfl); (case h3_15 => rfl); (case h4_15 => rfl); (with_reducible refine ev_name (v := ?vv_16) (by assumption) ?hf_16 ?_ ?hn_16 ?hd_16); (case hf_16 => walk_at "sxf"); (case hn_16 => decide); (case hd_16 => decide))
    refine ⟨_, _, methOk_str PySem.F.slot_str_split PySem.F.type_str_split, ?_⟩
    ((with_reducible refine evL_cons ?_ ?hs_17); (case hs_17 => rfl); (with_reducible refine ev_str ?_); (with_reducible refine evL_nil ?_))
    rw [hd] at hd0 hl ⊢
    refine opL_split (d := 60) (fun p hp => ?_) hd0 (line 16000002 (Nat.add_le_add_right hl 2)) ?_
    · rcases List.mem_cons.mp hp with rfl | hp
      · exact List.not_mem_nil
      · obtain ⟨t, ht, rfl⟩ := List.mem_map.mp hp
        exact tag7_no60 (hT t ht)
    refine ⟨_, rfl, by rw [List.length_map, List.length_cons, List.length_map]; exact line 16000001 (Nat.succ_le_succ hTn), ?_⟩
    ((with_reducible refine evP_some ?_); (with_reducible refine ev_int ?_); (with_reducible refine exI ?_); (with_reducible refine evP_none ?_))
    intro a1
    have e1 : slc (some (1 : Int)) none (([] :: T.map tag7).map V.str) = T.map fun t => V.str (tag7 t) := by
      refine (slcL_lo (([] :: T.map tag7).map V.str) 1).trans ?_
      rw [List.map_cons, List.drop_succ_cons, List.drop_zero, List.map_map]; rfl
    rw [e1]
    refine ⟨_, rfl, trivial, ?_⟩
    refine loop_listQ (fun t => V.str (tag7 t)) T (fun i σ => find σ (Str.ofString "names") = some (.val (.dct (tabT N))) ∧ find σ (Str.ofString "tags") = some (.list aT ((T.take i).map tagV))) ?_ ?_ ⟨by walk_at "sxf", by walk_at "sxf"⟩ rfl
    · rintro i ⟨t, vs⟩ σ Q3 hQ3 hx ⟨f1, f2⟩
      have ht := hT _ (List.mem_of_getElem? hx)
      have htl := hTl _ (List.mem_of_getElem? hx)
      have hlt : i < T.length := (List.getElem?_eq_some_iff.mp hx).1
      have hnext : (T.take (i + 1)).map tagV = (T.take i).map tagV ++ [tagV (t, vs)] := by
        rw [List.take_add_one, hx, List.map_append]; rfl
      refine asg_name okn (by kernel_rfl) ?_
      have eT : tag7 (t, vs) = 116 :: attrs7 0 vs (62 :: rend t) := rfl
      rw [eT, List.length_cons] at htl
      rw [eT]
      ((refine exs_cons ?_); (with_reducible refine ex_if ?_))
      ((with_reducible refine tst_cmp ?_ ?hs_24); (case hs_24 => with_unfolding_all rfl)); ((with_reducible refine ev_sliceT ?_)); ((with_reducible refine ev_name (v := ?vv_26) (by assumption) ?hf_26 ?_ ?hn_26 ?hd_26); (case hf_26 => walk_at "sxf"); (case hn_26 => decide); (case hd_26 => decide))
      refine exS (by rw [List.length_cons]; exact line 16000000 htl) ?_
      ((with_reducible refine evP_none ?_); (with_reducible refine evP_some ?_); (with_reducible refine ev_int ?_); (with_reducible refine exI ?_); (with_reducible refine ev_str ?_); (with_reducible refine op_ne_str ?_); (with_reducible refine exB ?_))
      rw [show slc none (some (1 : Int)) (116 :: attrs7 0 vs (62 :: rend t)) = [116] from slcL_hi (116 :: attrs7 0 vs (62 :: rend t)) 1]
      refine ⟨fun hb => absurd hb (by decide), fun _ => ?_⟩
      refine exs_nil ?_
      ((refine exs_cons ?_); (with_reducible refine ex_assign (by assumption) ?hx_1 ?hs_1 ?_); (case hx_1 => kernel_rfl); (case hs_1 => exact swaps_no (by rfl)))
      ((with_reducible refine ev_sliceT ?_)); ((with_reducible refine ev_name (v := ?vv_35) (by assumption) ?hf_35 ?_ ?hn_35 ?hd_35); (case hf_35 => walk_at "sxf"); (case hn_35 => decide); (case hd_35 => decide))
      refine exS (by rw [List.length_cons]; exact line 16000000 htl) ?_
      ((with_reducible refine evP_some ?_); (with_reducible refine ev_int ?_); (with_reducible refine exI ?_); (with_reducible refine evP_none ?_))
      rw [show slc (some (1 : Int)) none (116 :: attrs7 0 vs (62 :: rend t)) = attrs7 0 vs (62 :: rend t) from slcL_lo (116 :: attrs7 0 vs (62 :: rend t)) 1]
      ((refine exs_cons ?_); (with_reducible refine ex_assignN (by assumption) ?hx_6 ?hs_6 ?_); (case hx_6 => kernel_rfl); (case hs_6 => exact swaps_no (by rfl)))
      refine evF_list ?_
      ((with_reducible refine evL_nil ?_))
      refine ⟨Nat.zero_le _, fun aV => ?_⟩
      ((refine exs_cons ?_); (with_reducible refine ex_assign (by assumption) ?hx_2 ?hs_2 ?_); (case hx_2 => kernel_rfl); (case hs_2 => exact swaps_no (by rfl)))
      ((with_reducible refine ev_str ?_))
      rw [lead7_0]
      refine exs_cons ?_
      refine ex_whileQ okn (fun k σ => ∃ done rest : List Val7, k = rest.length ∧ vs = done ++ rest ∧ (attrs7 done.length rest (62 :: rend t)).length ≤ 16000000 ∧ find σ (Str.ofString "names") = some (.val (.dct (tabT N))) ∧ find σ (Str.ofString "tags") = some (.list aT ((T.take i).map tagV)) ∧
        find σ (Str.ofString "part") = some (.val (.str (attrs7 done.length rest (62 :: rend t)))) ∧ find σ (Str.ofString "lead") = some (.val (.str (lead7 done.length))) ∧ find σ (Str.ofString "values") = some (.list aV (done.map valV))) ?_ vs.length ⟨[], vs, rfl, rfl, by show (attrs7 0 vs _).length ≤ _; exact Nat.le_of_succ_le htl, by walk_at "sxf", by walk_at "sxf", by walk_at "sxf", by walk_at "sxf", by walk_at "sxf"⟩
      rintro k σ Q1 Q2 hQ1 hQ2 ⟨done, rest, rfl, e, hpl, f1, f2, f3, f4, f5⟩
      have hdl : done.length + rest.length ≤ 70 := by
        have := congrArg List.length e
        rw [List.length_append] at this
        have h5 : vs.length ≤ 70 := ht.t5
        rw [← this]; exact h5
      have hd70 : done.length ≤ 70 := Nat.le_trans (Nat.le_add_right _ _) hdl
      obtain ⟨l1, l2, l3⟩ := lead7_ok (i := done.length) (Nat.lt_of_le_of_lt hd70 (by decide))
      ((with_reducible refine tst_cmp ?_ ?hs_42); (case hs_42 => with_unfolding_all rfl); (with_reducible refine ev_sliceT ?_); (with_reducible refine ev_name (v := ?vv_44) (by assumption) ?hf_44 ?_ ?hn_44 ?hd_44); (case hf_44 => walk_at "sxf"); (case hn_44 => decide); (case hd_44 => decide); (with_reducible refine exS ?hg_45 ?_); (case hg_45 => walk_at "sxg"); (with_reducible refine evP_none ?_); (with_reducible refine evP_some ?_); (with_reducible refine ev_fn (w := ?ww_48) (L := ?LL_48) (by assumption) ?hGG_48 ?h1_48 ?h2_48 ?hc_48 ?_ ?h3_48 ?h4_48 ?h5_48); (case hGG_48 => assumption); (case h1_48 => kernel_rfl); (case h2_48 => rfl); (case hc_48 => exact .bi); (case h3_48 => rfl); (case h4_48 => rfl); (case h5_48 => decide); (with_reducible refine evL_cons ?_ ?hs_49); (case hs_49 => rfl); (with_reducible refine ev_name (v := ?vv_50) (by assumption) ?hf_50 ?_ ?hn_50 ?hd_50); (case hf_50 => walk_at "sxf"); (case hn_50 => decide); (case hd_50 => decide); (with_reducible refine evL_nil ?_); (with_reducible refine opL_len_str ?hg_52 ?_); (case hg_52 => walk_at "sxg"); (with_reducible refine exI ?_); (with_reducible refine ev_name (v := ?vv_54) (by assumption) ?hf_54 ?_ ?hn_54 ?hd_54); (case hf_54 => walk_at "sxf"); (case hn_54 => decide); (case hd_54 => decide); (with_reducible refine op_eq_str ?_); (with_reducible refine exB ?_))
      rw [slcL_hi]
      refine ⟨fun hb => ?_, fun hb => ?_⟩
      · match rest, e, hpl, f3, hb with
        | (m, W) :: rest, e, hpl, f3, hb =>
          refine absurd ?_ (of_decide_eq_false hb)
          show (lead7 done.length ++ _).take _ = _
          rw [List.take_left]
        | [], e, hpl, f3, hb =>
          rw [List.append_nil] at e
          subst e
          have f3 : find σ (Str.ofString "part") = some (.val (.str (62 :: rend t))) := f3
          have hpl : (62 :: rend t).length ≤ 16000000 := hpl
          refine hQ1 _ (exs_nil ?_)
          ((refine exs_cons ?_); (with_reducible refine ex_if ?_))
          ((with_reducible refine tst_cmp ?_ ?hs_57); (case hs_57 => with_unfolding_all rfl); (with_reducible refine ev_sliceT ?_); (with_reducible refine ev_name (v := ?vv_59) (by assumption) ?hf_59 ?_ ?hn_59 ?hd_59); (case hf_59 => walk_at "sxf"); (case hn_59 => decide); (case hd_59 => decide); (with_reducible refine exS ?hg_60 ?_); (case hg_60 => walk_at "sxg"); (with_reducible refine evP_none ?_); (with_reducible refine evP_some ?_); (with_reducible refine ev_int ?_); (with_reducible refine exI ?_); (with_reducible refine ev_str ?_); (with_reducible refine op_ne_str ?_); (with_reducible refine exB ?_))
          rw [show slc none (some (1 : Int)) (62 :: rend t) = [62] from slcL_hi (62 :: rend t) 1]
          refine ⟨fun hb => absurd hb (by decide), fun _ => ?_⟩
          refine exs_nil ?_
          refine Tr.freeze (x := "values") f5 rfl ?_ (by decide)
          show Exs _ (put _ _ _ (.val (.lst (vs.map valV)))) _ _
          ((refine exs_cons ?_); (with_reducible refine ex_append (a := ?aa_12) (vs := ?vs_12) (by assumption) ?hf_12 ?_ ?d1_12 ?d2_12 ?d3_12 ?r1_12 ?r2_12 ?r3_12 ?r4_12 ?r5_12); (case hf_12 => walk_at "sxf"); (case d1_12 => decide); (case d2_12 => decide); (case d3_12 => decide); (case r1_12 => rfl); (case r2_12 => rfl); (case r3_12 => rfl); (case r4_12 => rfl); (case r5_12 => rfl))
          refine ev_ofF ?_
          refine evF_bin ?_
          refine ev_ofF ?_
          refine evF_list ?_
          ((with_reducible refine evL_cons ?_ ?hs_68); (case hs_68 => rfl))
          refine ev_fn okn hG (by kernel_rfl) (by rfl) (callee_of (fnAt_of (a := 56) I.hF (by rfl) (by rfl) (by rfl) (by rfl) (by rfl) (by rfl) (by rfl) (by rfl) (by rfl))) ?_ (by rfl) (by rfl) (by decide)
          ((with_reducible refine evL_cons ?_ ?hs_69); (case hs_69 => rfl); (with_reducible refine ev_sliceT ?_); (with_reducible refine ev_name (v := ?vv_71) (by assumption) ?hf_71 ?_ ?hn_71 ?hd_71); (case hf_71 => walk_at "sxf"); (case hn_71 => decide); (case hd_71 => decide); (with_reducible refine exS ?hg_72 ?_); (case hg_72 => walk_at "sxg"); (with_reducible refine evP_some ?_); (with_reducible refine ev_int ?_); (with_reducible refine exI ?_); (with_reducible refine evP_none ?_); (with_reducible refine evL_cons ?_ ?hs_77); (case hs_77 => rfl); (with_reducible refine ev_name (v := ?vv_78) (by assumption) ?hf_78 ?_ ?hn_78 ?hd_78); (case hf_78 => walk_at "sxf"); (case hn_78 => decide); (case hd_78 => decide); (with_reducible refine evL_nil ?_))
          rw [show slc (some (1 : Int)) none (62 :: rend t) = rend t from slcL_lo (62 :: rend t) 1]
          skip
          refine OpL.eq (c_noted (n := n + 1) okn ⟨I.hF, I.hG⟩ ht.t1 ht.t4 (Nat.le_trans ht.t3 (by decide))) ?_
          ((with_reducible refine evL_nil ?_))
          refine ⟨szc 1, fun a3 => ?_⟩
          ((with_reducible refine ev_name (v := ?vv_81) (by assumption) ?hf_81 ?_ ?hn_81 ?hd_81); (case hf_81 => walk_at "sxf"); (case hn_81 => decide); (case hd_81 => decide))
          refine opF_add_list (by rw [List.length_map]; show 1 + _ ≤ _; exact line 71 (Nat.add_le_add_left hdl 1)) fun a4 => ?_
          refine ⟨(T.take i).map tagV, by walk_at "sxf", by rw [List.length_map, List.length_take]; exact line 16000000 (mle hTn), ?_⟩
          show Exs _ (put _ _ _ (.list aT ((T.take i).map tagV ++ [tagV (t, vs)]))) _ _
          rw [← hnext]
          exact exs_nil (hQ3 _ ⟨by walk_at "sxf", by walk_at "sxf"⟩)
      · match rest, e, hpl, f3, hb with
        | [], e, hpl, f3, hb =>
          exfalso
          have hb := of_decide_eq_true hb
          obtain ⟨r, hr⟩ := lead7_head done.length
          rw [hr] at hb
          injection hb with hb _
          cases hb
        | (m, W) :: rest, e, hpl, f3, hb =>
          obtain ⟨v1, v2, v3, v4, v5, v6⟩ := ht.v (m, W) (by show (m, W) ∈ vs; rw [e]; simp)
          have v1 : m = 34 ∨ m = 39 := v1
          have v4 : m ∉ rend W := v4
          obtain ⟨Z, hZ⟩ : ∃ Z, attrs7 (done.length + 1) rest (62 :: rend t) = Z := ⟨_, rfl⟩
          obtain ⟨ld, hld⟩ : ∃ ld, lead7 done.length = ld := ⟨_, rfl⟩
          have eP : attrs7 done.length ((m, W) :: rest) (62 :: rend t) = ld ++ m :: (rend W ++ m :: Z) := by rw [← hZ, ← hld]; rfl
          rw [eP] at hpl f3
          rw [hld] at f4 l1 l2
          have hlen : (ld ++ m :: (rend W ++ m :: Z)).length = ld.length + ((rend W).length + (Z.length + 1) + 1) := by simp
          have v6 : (rend W).length ≤ 100000 := v6
          ((refine exs_cons ?_); (with_reducible refine ex_assign (by assumption) ?hx_3 ?hs_3 ?_); (case hx_3 => kernel_rfl); (case hs_3 => exact swaps_no (by rfl)))
          ((with_reducible refine ev_sliceT ?_); (with_reducible refine ev_name (v := ?vv_83) (by assumption) ?hf_83 ?_ ?hn_83 ?hd_83); (case hf_83 => walk_at "sxf"); (case hn_83 => decide); (case hd_83 => decide); (with_reducible refine exS ?hg_84 ?_); (case hg_84 => walk_at "sxg"); (with_reducible refine evP_some ?_); (with_reducible refine ev_fn (w := ?ww_86) (L := ?LL_86) (by assumption) ?hGG_86 ?h1_86 ?h2_86 ?hc_86 ?_ ?h3_86 ?h4_86 ?h5_86); (case hGG_86 => assumption); (case h1_86 => kernel_rfl); (case h2_86 => rfl); (case hc_86 => exact .bi); (case h3_86 => rfl); (case h4_86 => rfl); (case h5_86 => decide); (with_reducible refine evL_cons ?_ ?hs_87); (case hs_87 => rfl); (with_reducible refine ev_name (v := ?vv_88) (by assumption) ?hf_88 ?_ ?hn_88 ?hd_88); (case hf_88 => walk_at "sxf"); (case hn_88 => decide); (case hd_88 => decide); (with_reducible refine evL_nil ?_); (with_reducible refine opL_len_str ?hg_90 ?_); (case hg_90 => walk_at "sxg"); (with_reducible refine exI ?_); (with_reducible refine evP_some ?_); (with_reducible refine ev_bin ?_); (with_reducible refine ev_fn (w := ?ww_94) (L := ?LL_94) (by assumption) ?hGG_94 ?h1_94 ?h2_94 ?hc_94 ?_ ?h3_94 ?h4_94 ?h5_94); (case hGG_94 => assumption); (case h1_94 => kernel_rfl); (case h2_94 => rfl); (case hc_94 => exact .bi); (case h3_94 => rfl); (case h4_94 => rfl); (case h5_94 => decide); (with_reducible refine evL_cons ?_ ?hs_95); (case hs_95 => rfl); (with_reducible refine ev_name (v := ?vv_96) (by assumption) ?hf_96 ?_ ?hn_96 ?hd_96); (case hf_96 => walk_at "sxf"); (case hn_96 => decide); (case hd_96 => decide); (with_reducible refine evL_nil ?_); (with_reducible refine opL_len_str ?hg_98 ?_); (case hg_98 => walk_at "sxg"); (with_reducible refine ev_int ?_); (with_reducible refine op_add_int ?_); (with_reducible refine exI ?_))
          have e1 : slc (some (ld.length : Int)) (some ((ld.length : Int) + 1)) (ld ++ m :: (rend W ++ m :: Z)) = [m] := by
            rw [show (ld.length : Int) + 1 = ((ld.length + 1 : Nat) : Int) from rfl, slcL_lohi, List.drop_left, Nat.add_sub_cancel_left]; rfl
          rw [e1]
          ((refine exs_cons ?_); (with_reducible refine ex_if ?_))
          ((with_reducible refine tst_cmp ?_ ?hs_102); (case hs_102 => with_unfolding_all rfl)); ((with_reducible refine ev_name (v := ?vv_103) (by assumption) ?hf_103 ?_ ?hn_103 ?hd_103); (case hf_103 => walk_at "sxf"); (case hn_103 => decide); (case hd_103 => decide))
          refine ev_ofF ?_
          refine evF_list ?_
          ((with_reducible refine evL_cons ?_ ?hs_104); (case hs_104 => rfl); (with_reducible refine ev_str ?_); (with_reducible refine evL_cons ?_ ?hs_106); (case hs_106 => rfl); (with_reducible refine ev_str ?_); (with_reducible refine evL_nil ?_))
          refine ⟨szc 2, fun a3 => ?_⟩
          refine op_notIn_strs okn (x := [m]) (ls := [lit "'", lit "\""]) (by rcases v1 with rfl | rfl <;> decide) ?_
          refine exB ⟨fun q => (nomatch q), fun _ => ?_⟩
          refine exs_nil ?_
          refine exs_cons (ex_unpack okn ?_ (by rfl) (by rfl))
          ((with_reducible refine ev_meth ?_ ?h1_109 ?h2_109 ?h3_109 ?h4_109); (case h1_109 => rfl); (case h2_109 => rfl); (case h3_109 => rfl); (case h4_109 => rfl); (with_reducible refine ev_sliceT ?_); (with_reducible refine ev_name (v := ?vv_111) (by assumption) ?hf_111 ?_ ?hn_111 ?hd_111); (case hf_111 => walk_at "sxf"); (case hn_111 => decide); (case hd_111 => decide); (with_reducible refine exS ?hg_112 ?_); (case hg_112 => walk_at "sxg"); (with_reducible refine evP_some ?_); (with_reducible refine ev_bin ?_); (with_reducible refine ev_fn (w := ?ww_115) (L := ?LL_115) (by assumption) ?hGG_115 ?h1_115 ?h2_115 ?hc_115 ?_ ?h3_115 ?h4_115 ?h5_115); (case hGG_115 => assumption); (case h1_115 => kernel_rfl); (case h2_115 => rfl); (case hc_115 => exact .bi); (case h3_115 => rfl); (case h4_115 => rfl); (case h5_115 => decide); (with_reducible refine evL_cons ?_ ?hs_116); (case hs_116 => rfl); (with_reducible refine ev_name (v := ?vv_117) (by assumption) ?hf_117 ?_ ?hn_117 ?hd_117); (case hf_117 => walk_at "sxf"); (case hn_117 => decide); (case hd_117 => decide); (with_reducible refine evL_nil ?_); (with_reducible refine opL_len_str ?hg_119 ?_); (case hg_119 => walk_at "sxg"); (with_reducible refine ev_int ?_); (with_reducible refine op_add_int ?_); (with_reducible refine exI ?_); (with_reducible refine evP_none ?_))
          have e2 : slc (some ((ld.length : Int) + 1)) none (ld ++ m :: (rend W ++ m :: Z)) = rend W ++ m :: Z := by
            rw [show (ld.length : Int) + 1 = ((ld.length + 1 : Nat) : Int) from rfl, slcL_lo, ← List.drop_drop, List.drop_left]; rfl
          rw [e2]
          refine ⟨_, _, methOk_str PySem.F.slot_str_partition PySem.F.type_str_partition, ?_⟩
          ((with_reducible refine evL_cons ?_ ?hs_124); (case hs_124 => rfl); (with_reducible refine ev_name (v := ?vv_125) (by assumption) ?hf_125 ?_ ?hn_125 ?hd_125); (case hf_125 => walk_at "sxf"); (case hn_125 => decide); (case hd_125 => decide); (with_reducible refine evL_nil ?_))
          refine opL_partition (d := m) v4 (by rw [List.length_append, List.length_cons]; exact line 16000000 (Nat.le_trans (Nat.le_trans (Nat.le_succ _) (Nat.le_add_left _ ld.length)) (Nat.le_trans (Nat.le_of_eq hlen.symm) hpl))) ?_
          refine asg_tuple okn (asgL_cons (asg_name okn (by kernel_rfl) (asgL_cons (asg_name okn (by kernel_rfl) (asgL_cons (asg_name okn (by kernel_rfl) (asgL_nil ?_))))))) (by rfl) (by rfl)
          ((refine exs_cons ?_); (with_reducible refine ex_if ?_))
          ((with_reducible refine tst_cmp ?_ ?hs_127); (case hs_127 => with_unfolding_all rfl); (with_reducible refine ev_name (v := ?vv_128) (by assumption) ?hf_128 ?_ ?hn_128 ?hd_128); (case hf_128 => walk_at "sxf"); (case hn_128 => decide); (case hd_128 => decide); (with_reducible refine ev_str ?_); (with_reducible refine op_eq_str ?_); (with_reducible refine exB ?_))
          refine ⟨fun q => absurd (of_decide_eq_true q) (List.cons_ne_nil _ _), fun _ => ?_⟩
          refine exs_nil ?_
          ((refine exs_cons ?_); (with_reducible refine ex_append (a := ?aa_13) (vs := ?vs_13) (by assumption) ?hf_13 ?_ ?d1_13 ?d2_13 ?d3_13 ?r1_13 ?r2_13 ?r3_13 ?r4_13 ?r5_13); (case hf_13 => walk_at "sxf"); (case d1_13 => decide); (case d2_13 => decide); (case d3_13 => decide); (case r1_13 => rfl); (case r2_13 => rfl); (case r3_13 => rfl); (case r4_13 => rfl); (case r5_13 => rfl))
          refine ev_tuple ?_
          ((with_reducible refine evL_cons ?_ ?hs_132); (case hs_132 => rfl)); ((with_reducible refine ev_name (v := ?vv_133) (by assumption) ?hf_133 ?_ ?hn_133 ?hd_133); (case hf_133 => walk_at "sxf"); (case hn_133 => decide); (case hd_133 => decide)); ((with_reducible refine evL_cons ?_ ?hs_134); (case hs_134 => rfl))
          refine ev_fn okn hG (by kernel_rfl) (by rfl) (callee_of (fnAt_of (a := 56) I.hF (by rfl) (by rfl) (by rfl) (by rfl) (by rfl) (by rfl) (by rfl) (by rfl) (by rfl))) ?_ (by rfl) (by rfl) (by decide)
          ((with_reducible refine evL_cons ?_ ?hs_135); (case hs_135 => rfl); (with_reducible refine ev_name (v := ?vv_136) (by assumption) ?hf_136 ?_ ?hn_136 ?hd_136); (case hf_136 => walk_at "sxf"); (case hn_136 => decide); (case hd_136 => decide); (with_reducible refine evL_cons ?_ ?hs_137); (case hs_137 => rfl); (with_reducible refine ev_name (v := ?vv_138) (by assumption) ?hf_138 ?_ ?hn_138 ?hd_138); (case hf_138 => walk_at "sxf"); (case hn_138 => decide); (case hd_138 => decide); (with_reducible refine evL_nil ?_))
          refine OpL.eq (c_noted (n := n + 1) okn ⟨I.hF, I.hG⟩ v2 v6 (Nat.le_trans v5 (by decide))) ?_
          ((with_reducible refine evL_nil ?_))
          refine ⟨szc 2, ?_⟩
          refine ⟨done.map valV, by walk_at "sxf", by rw [List.length_map]; exact line 70 hd70, ?_⟩
          show Exs _ (put _ _ _ (.list aV (done.map valV ++ [valV (m, W)]))) _ _
          have e5 : done.map valV ++ [valV (m, W)] = (done ++ [(m, W)]).map valV := by rw [List.map_append]; rfl
          rw [e5]
          have hd1 : (done ++ [(m, W)]).length = done.length + 1 := by simp
          ((refine exs_cons ?_); (with_reducible refine ex_assign (by assumption) ?hx_4 ?hs_4 ?_); (case hx_4 => kernel_rfl); (case hs_4 => exact swaps_no (by rfl)))
          ((with_reducible refine ev_bin ?_)); ((with_reducible refine ev_bin ?_)); ((with_reducible refine ev_str ?_)); ((with_reducible refine ev_fn (w := ?ww_144) (L := ?LL_144) (by assumption) ?hGG_144 ?h1_144 ?h2_144 ?hc_144 ?_ ?h3_144 ?h4_144 ?h5_144); (case hGG_144 => assumption); (case h1_144 => kernel_rfl); (case h2_144 => rfl); (case hc_144 => exact .ty); (case h3_144 => rfl); (case h4_144 => rfl); (case h5_144 => decide)); ((with_reducible refine evL_cons ?_ ?hs_145); (case hs_145 => rfl))
          refine ev_fnO okn hG (by kernel_rfl) (by rfl) .bi (by walk_at "sxf") rfl ?_ (by decide) (by decide) (by decide) (by decide) (by rfl) (by rfl)
          refine opL_len_list (by rw [List.length_map, hd1]; exact line 71 (Nat.succ_le_succ hd70)) ⟨_, rfl, ?_⟩
          rw [List.length_map, hd1]
          ((with_reducible refine evL_nil ?_))
          have hdg := (dig_ok (done.length + 1) (Nat.lt_of_le_of_lt (Nat.succ_le_succ hd70) (by decide))).2.1
          refine opL_strInt (nabs (Nat.succ_le_succ hd70)) ?_
          show Op2 _ _ _ _ (V.str (dig (done.length + 1))) _
          refine op_add_str (by show 2 + _ ≤ _; exact line 4 (Nat.add_le_add_left hdg 2)) ?_
          ((with_reducible refine ev_str ?_))
          refine op_add_str (by rw [List.length_append]; show 2 + _ + 1 ≤ _; exact line 5 (Nat.succ_le_succ (Nat.add_le_add_left hdg 2))) ?_
          show Exs _ (put _ _ _ (.val (.str (lead7 (done.length + 1))))) _ _
          rw [← hd1]
          exact exs_nil (hQ2 rest.length _ (Nat.lt_succ_self _) ⟨done ++ [(m, W)], rest, rfl, by rw [e]; simp, by rw [hd1, hZ]; exact Nat.le_trans (Nat.le_trans (Nat.le_trans (Nat.le_succ Z.length) (Nat.le_add_left _ (rend W).length)) (Nat.le_trans (Nat.le_succ _) (Nat.le_add_left _ ld.length))) (Nat.le_trans (Nat.le_of_eq hlen.symm) hpl), by walk_at "sxf", by walk_at "sxf", by rw [hd1, hZ]; walk_at "sxf", by walk_at "sxf", by walk_at "sxf"⟩)
    · rintro σ ⟨f1, f2⟩
      rw [List.take_length] at f2
      refine exs_nil ?_
      refine Tr.freeze (x := "tags") f2 rfl ?_ (by decide)
      ((refine exs_cons ?_); (with_reducible refine ex_return ?_))
      ((with_reducible refine ev_name (v := ?vv_148) (by assumption) ?hf_148 ?_ ?hn_148 ?hd_148); (case hf_148 => walk_at "sxf"); (case hn_148 => decide); (case hd_148 => decide))
      exact hQ _
noncomputable def strsV (t : List S) : V := .lst (t.map V.str)
theorem strs_at7 {k : Nat} (h : k < 17) : (sg7.map V.str)[k]? = some (.str (sgn7 k)) := by
  have h : k < sg7.length := h
  unfold sgn7
  rw [List.getElem?_map, List.getElem?_eq_getElem h, List.getD_eq_getElem?_getD, List.getElem?_eq_getElem h]; rfl
noncomputable def pieceV (y : Int) : V → V := fun v => match v with | .int k => .str (sgn7 (((y.fdiv 2).fdiv (17 ^ k.toNat)).fmod 17).toNat) | _ => .none
set_option maxHeartbeats 2000000 in
theorem c_drawn {C : Cx} {n : Nat} (ok : C.Ok (n + 2)) (I : In07 C) {sc : List Int} (h : sc.length ≤ 63) :
    OpL C (Rep C.W) (fun ws => call (.ref 44) ws) [.lst (sc.map V.int)] (fun v => ∃ (tags : List (List S)) (keys : List S), v = .tup [.lst (tags.map strsV), strsV keys] ∧ Tags7 tags ∧ Keys7 keys) := by
  refine fn_callQ ok (fnAt_of (a := 44) I.hF (by rfl) (by rfl) (by rfl) (by rfl) (by rfl) (by rfl) (by rfl) (by rfl) (by rfl)) (ps := ["script"]) (dvs := []) (ds := []) ?_ (fun _ _ _ _ => .nil) (by decide) (by rfl) fun A L q' cd Q hQ okn => ?_
  · exact fun s ws _ hl => binds_plain (n := 1) (fun ws hl => by
      obtain ⟨a, rfl⟩ := len1 hl
      rfl) s ws hl
  · have hG : (fnCx C.W A (fdAt (F07 C.W.w) 44).scope L 44 q' cd).W.gls = _ := I.hG
    have hsz : sizeLine = 16777216 := sizeLine_eq
    ((refine exs_cons ?_); (with_reducible refine ex_assign (by assumption) ?hx_1 ?hs_1 ?_); (case hx_1 => kernel_rfl); (case hs_1 => exact swaps_no (by rfl)))
    refine ev_ofF ?_
    refine evF_list ?_
    ((with_reducible refine evL_cons ?_ ?hs_15); (case hs_15 => rfl); (with_reducible refine ev_str ?_); (with_reducible refine evL_cons ?_ ?hs_17); (case hs_17 => rfl); (with_reducible refine ev_str ?_); (with_reducible refine evL_cons ?_ ?hs_19); (case hs_19 => rfl); (with_reducible refine ev_str ?_); (with_reducible refine evL_cons ?_ ?hs_21); (case hs_21 => rfl); (with_reducible refine ev_str ?_); (with_reducible refine evL_cons ?_ ?hs_23); (case hs_23 => rfl); (with_reducible refine ev_str ?_); (with_reducible refine evL_cons ?_ ?hs_25); (case hs_25 => rfl); (with_reducible refine ev_str ?_); (with_reducible refine evL_cons ?_ ?hs_27); (case hs_27 => rfl); (with_reducible refine ev_str ?_); (with_reducible refine evL_cons ?_ ?hs_29); (case hs_29 => rfl); (with_reducible refine ev_str ?_); (with_reducible refine evL_cons ?_ ?hs_31); (case hs_31 => rfl); (with_reducible refine ev_str ?_); (with_reducible refine evL_cons ?_ ?hs_33); (case hs_33 => rfl); (with_reducible refine ev_str ?_); (with_reducible refine evL_cons ?_ ?hs_35); (case hs_35 => rfl); (with_reducible refine ev_str ?_); (with_reducible refine evL_cons ?_ ?hs_37); (case hs_37 => rfl); (with_reducible refine ev_str ?_); (with_reducible refine evL_cons ?_ ?hs_39); (case hs_39 => rfl); (with_reducible refine ev_str ?_); (with_reducible refine evL_cons ?_ ?hs_41); (case hs_41 => rfl); (with_reducible refine ev_str ?_); (with_reducible refine evL_cons ?_ ?hs_43); (case hs_43 => rfl); (with_reducible refine ev_str ?_); (with_reducible refine evL_cons ?_ ?hs_45); (case hs_45 => rfl); (with_reducible refine ev_str ?_); (with_reducible refine evL_cons ?_ ?hs_47); (case hs_47 => rfl); (with_reducible refine ev_str ?_); (with_reducible refine evL_nil ?_))
    refine ⟨szc 17, fun ap => ?_⟩
    ((refine exs_cons ?_); (with_reducible refine ex_assignN (by assumption) ?hx_6 ?hs_6 ?_); (case hx_6 => kernel_rfl); (case hs_6 => exact swaps_no (by rfl)))
    refine evF_list ?_
    refine evL_cons ?_ (by rfl)
    refine EvF.anon ?_
    refine evF_list ?_
    ((with_reducible refine evL_cons ?_ ?hs_50); (case hs_50 => rfl); (with_reducible refine ev_str ?_); (with_reducible refine evL_nil ?_))
    refine ⟨szc 1, fun b0 b1 hb1 => ?_⟩
    cases hb1
    ((with_reducible refine evL_nil ?_))
    refine ⟨szc 1, fun aT => ?_⟩
    ((refine exs_cons ?_); (with_reducible refine ex_assignN (by assumption) ?hx_7 ?hs_7 ?_); (case hx_7 => kernel_rfl); (case hs_7 => exact swaps_no (by rfl)))
    refine evF_list ?_
    ((with_reducible refine evL_nil ?_))
    refine ⟨Nat.zero_le _, fun aK => ?_⟩
    refine exs_cons ?_
    refine ex_for okn ?_
    ((with_reducible refine ev_name (v := ?vv_55) (by assumption) ?hf_55 ?_ ?hn_55 ?hd_55); (case hf_55 => walk_at "sxf"); (case hn_55 => decide); (case hd_55 => decide))
    refine ⟨_, rfl, trivial, ?_⟩
    refine loop_listQ V.int sc (fun i σ => ∃ (done : List (List S)) (cur keys : List S) (b : Addr), DI i done cur keys ∧ find σ (Str.ofString "signs") = some (.val (.lst (sg7.map V.str))) ∧ find σ (Str.ofString "tags") = some (.list aT (done.map strsV ++ [.val (.ref b)])) ∧ find σ anonS = some (.list b (cur.map V.str)) ∧ find σ (Str.ofString "keys") = some (.list aK (keys.map V.str))) ?_ ?_ ⟨[], [[]], [], b0, di_start, by walk_at "sxf", by walk_at "sxf", by walk_at "sxf", by walk_at "sxf"⟩ rfl
    · rintro i x σ Q1 hQ1 hx ⟨done, cur, keys, b, hD, f1, f2, f3, f4⟩
      have hi : i < 63 := by
        have := (List.getElem?_eq_some_iff.mp hx).1
        exact Nat.lt_of_lt_of_le this h
      have item : ∀ {C' : Cx} (k : Nat) (hk : k < 17) {K : V → Prop} (hK : K (.str (sgn7 k))), Op2 C' (Rep C'.W) getItem (.lst (sg7.map V.str)) (.int (k : Int)) K ∧ ∃ T id, typeLookup (.type T) "__getitem__" = pure (some (.builtin id)) ∧ IsTy C'.W (.lst (sg7.map V.str)) T := by
        intro C' k hk K hK
        exact item_list (szc 17) (strs_at7 hk) hK
      refine asg_name okn (by kernel_rfl) ?_
      ((refine exs_cons ?_); (with_reducible refine ex_assign (by assumption) ?hx_2 ?hs_2 ?_); (case hx_2 => kernel_rfl); (case hs_2 => exact swaps_no (by rfl)))
      ((with_reducible refine ev_bin ?_); (with_reducible refine ev_name (v := ?vv_57) (by assumption) ?hf_57 ?_ ?hn_57 ?hd_57); (case hf_57 => walk_at "sxf"); (case hn_57 => decide); (case hd_57 => decide); (with_reducible refine ev_int ?_); (with_reducible refine op_div_int ?hg_59 ?hp_59 ?_); (case hg_59 => walk_at "sxg"); (case hp_59 => exact PyProof.noPylong_of_log2 (by decide +kernel)))
      obtain ⟨y, hy⟩ : ∃ y, x.fdiv 4 = y := ⟨_, rfl⟩
      rw [hy]
      obtain ⟨k1, hk1, hk1'⟩ := fmodN y (m := 10) (by decide)
      have hk1 : y.fmod 10 = (k1 : Int) := hk1
      obtain ⟨k2, hk2, hk2'⟩ := fmodN (y.fdiv 10) (m := 11) (by decide)
      have hk2 : (y.fdiv 10).fmod 11 = (k2 : Int) := hk2
      obtain ⟨k3, hk3, hk3'⟩ := fmodN (y.fdiv 110) (m := 11) (by decide)
      have hk3 : (y.fdiv 110).fmod 11 = (k3 : Int) := hk3
      obtain ⟨q1, q2, q3⟩ := key7_ok hk1' hk2' hk3'
      have n1 : 1 + k1 < 17 := Nat.lt_of_lt_of_le (Nat.add_lt_add_left hk1' 1) (by decide)
      have n2 : k2 < 17 := Nat.lt_trans hk2' (by decide)
      have n3 : k3 < 17 := Nat.lt_trans hk3' (by decide)
      have p1 := sgn7_len (1 + k1) n1
      have p2 := sgn7_len k2 n2
      have p3 := sgn7_len k3 n3
      ((refine exs_cons ?_); (with_reducible refine ex_assign (by assumption) ?hx_3 ?hs_3 ?_); (case hx_3 => kernel_rfl); (case hs_3 => exact swaps_no (by rfl)))
      ((with_reducible refine ev_bin ?_); (with_reducible refine ev_bin ?_); (with_reducible refine ev_sub ?_ ?hs_62); (case hs_62 => (intro _ _; rfl)); (with_reducible refine ev_name (v := ?vv_63) (by assumption) ?hf_63 ?_ ?hn_63 ?hd_63); (case hf_63 => walk_at "sxf"); (case hn_63 => decide); (case hd_63 => decide); (with_reducible refine ev_bin ?_); (with_reducible refine ev_int ?_); (with_reducible refine ev_bin ?_); (with_reducible refine ev_name (v := ?vv_67) (by assumption) ?hf_67 ?_ ?hn_67 ?hd_67); (case hf_67 => walk_at "sxf"); (case hn_67 => decide); (case hd_67 => decide); (with_reducible refine ev_int ?_); (with_reducible refine op_mod_int ?hg_69 ?_); (case hg_69 => walk_at "sxg"); (with_reducible refine op_add_int ?_))
      rw [hk1, show (1 : Int) + (k1 : Int) = ((1 + k1 : Nat) : Int) from rfl]
      refine item (1 + k1) n1 ?_
      ((with_reducible refine ev_sub ?_ ?hs_71); (case hs_71 => (intro _ _; rfl)); (with_reducible refine ev_name (v := ?vv_72) (by assumption) ?hf_72 ?_ ?hn_72 ?hd_72); (case hf_72 => walk_at "sxf"); (case hn_72 => decide); (case hd_72 => decide); (with_reducible refine ev_bin ?_); (with_reducible refine ev_bin ?_); (with_reducible refine ev_name (v := ?vv_75) (by assumption) ?hf_75 ?_ ?hn_75 ?hd_75); (case hf_75 => walk_at "sxf"); (case hn_75 => decide); (case hd_75 => decide); (with_reducible refine ev_int ?_); (with_reducible refine op_div_int ?hg_77 ?hp_77 ?_); (case hg_77 => walk_at "sxg"); (case hp_77 => exact PyProof.noPylong_of_log2 (by decide +kernel)); (with_reducible refine ev_int ?_); (with_reducible refine op_mod_int ?hg_79 ?_); (case hg_79 => walk_at "sxg"))
      rw [hk2]
      refine item k2 n2 ?_
      refine op_add_str (line 2 (Nat.add_le_add p1 p2)) ?_
      ((with_reducible refine ev_sub ?_ ?hs_80); (case hs_80 => (intro _ _; rfl)); (with_reducible refine ev_name (v := ?vv_81) (by assumption) ?hf_81 ?_ ?hn_81 ?hd_81); (case hf_81 => walk_at "sxf"); (case hn_81 => decide); (case hd_81 => decide); (with_reducible refine ev_bin ?_); (with_reducible refine ev_bin ?_); (with_reducible refine ev_name (v := ?vv_84) (by assumption) ?hf_84 ?_ ?hn_84 ?hd_84); (case hf_84 => walk_at "sxf"); (case hn_84 => decide); (case hd_84 => decide); (with_reducible refine ev_int ?_); (with_reducible refine op_div_int ?hg_86 ?hp_86 ?_); (case hg_86 => walk_at "sxg"); (case hp_86 => exact PyProof.noPylong_of_log2 (by decide +kernel)); (with_reducible refine ev_int ?_); (with_reducible refine op_mod_int ?hg_88 ?_); (case hg_88 => walk_at "sxg"))
      rw [hk3]
      refine item k3 n3 ?_
      refine op_add_str (by rw [List.length_append]; exact line 3 (Nat.add_le_add (Nat.add_le_add p1 p2) p3)) ?_
      obtain ⟨key, hkey⟩ : ∃ key, sgn7 (1 + k1) ++ sgn7 k2 ++ sgn7 k3 = key := ⟨_, rfl⟩
      rw [hkey] at q1 q2 q3 ⊢
      ((refine exs_cons ?_); (with_reducible refine ex_assign (by assumption) ?hx_4 ?hs_4 ?_); (case hx_4 => kernel_rfl); (case hs_4 => exact swaps_no (by rfl)))
      ((with_reducible refine ev_meth ?_ ?h1_89 ?h2_89 ?h3_89 ?h4_89); (case h1_89 => rfl); (case h2_89 => rfl); (case h3_89 => rfl); (case h4_89 => rfl); (with_reducible refine ev_str ?_); (with_reducible refine ⟨_, _, methOk_str PySem.F.slot_str_join PySem.F.type_str_join, ?_⟩); (with_reducible refine evL_cons ?_ ?hs_92); (case hs_92 => rfl))
      refine ev_ofF ?_
      refine evF_listComp okn (fv := ["signs", "y"]) (compOk_of (by kernel_rfl)) ?_
      ((with_reducible refine ev_fn (w := ?ww_93) (L := ?LL_93) (by assumption) ?hGG_93 ?h1_93 ?h2_93 ?hc_93 ?_ ?h3_93 ?h4_93 ?h5_93); (case hGG_93 => assumption); (case h1_93 => kernel_rfl); (case h2_93 => rfl); (case hc_93 => exact .ty); (case h3_93 => rfl); (case h4_93 => rfl); (case h5_93 => decide); (with_reducible refine evL_cons ?_ ?hs_94); (case hs_94 => rfl); (with_reducible refine ev_int ?_); (with_reducible refine evL_nil ?_); (with_reducible refine opL_range1 ?_))
      refine ⟨_, rfl, run_rng (by decide) (by decide) (by decide) (by decide) _, by rw [List.length_map, List.length_range]; show 6 ≤ _; exact szc 6, fun cl L' okc => ?_⟩
      refine lloop_map (fun σ => find σ (Str.ofString "signs") = some (.val (.lst (sg7.map V.str))) ∧ find σ (Str.ofString "y") = some (.val (.int y))) (pieceV y) _ _ _ ⟨find_cap1 (by simp) (by walk_at "sxf"), find_cap1 (by simp) (by walk_at "sxf")⟩ ?_ ?_
      · rintro z hz σ ⟨j1, j2⟩
        obtain ⟨j, hj, rfl⟩ := List.mem_map.mp hz
        have hj : j < 6 := by simpa using hj
        rw [Int.zero_add]
        have hp : ∀ a, Builtin.divisionGoesByPylong a ((17 : Int) ^ j) = false := fun a => by
          match j, hj with
          | 0, _ => exact PyProof.noPylong_of_log2 (by decide +kernel)
          | 1, _ => exact PyProof.noPylong_of_log2 (by decide +kernel)
          | 2, _ => exact PyProof.noPylong_of_log2 (by decide +kernel)
          | 3, _ => exact PyProof.noPylong_of_log2 (by decide +kernel)
          | 4, _ => exact PyProof.noPylong_of_log2 (by decide +kernel)
          | 5, _ => exact PyProof.noPylong_of_log2 (by decide +kernel)
        have hp0 : (17 : Int) ^ j ≠ 0 := by
          match j, hj with
          | 0, _ => decide
          | 1, _ => decide
          | 2, _ => decide
          | 3, _ => decide
          | 4, _ => decide
          | 5, _ => decide
        obtain ⟨k, hk, hk'⟩ := fmodN ((y.fdiv 2).fdiv (17 ^ j)) (m := 17) (by decide)
        have hk : ((y.fdiv 2).fdiv (17 ^ j)).fmod 17 = (k : Int) := hk
        refine asg_name okc (by kernel_rfl) ?_
        ((with_reducible refine ev_sub ?_ ?hs_98); (case hs_98 => (intro _ _; rfl)); (with_reducible refine ev_name (v := ?vv_99) (by assumption) ?hf_99 ?_ ?hn_99 ?hd_99); (case hf_99 => walk_at "sxf"); (case hn_99 => decide); (case hd_99 => decide); (with_reducible refine ev_bin ?_); (with_reducible refine ev_bin ?_); (with_reducible refine ev_bin ?_); (with_reducible refine ev_name (v := ?vv_103) (by assumption) ?hf_103 ?_ ?hn_103 ?hd_103); (case hf_103 => walk_at "sxf"); (case hn_103 => decide); (case hd_103 => decide); (with_reducible refine ev_int ?_); (with_reducible refine op_div_int ?hg_105 ?hp_105 ?_); (case hg_105 => walk_at "sxg"); (case hp_105 => exact PyProof.noPylong_of_log2 (by decide +kernel)); (with_reducible refine ev_bin ?_); (with_reducible refine ev_int ?_); (with_reducible refine ev_name (v := ?vv_108) (by assumption) ?hf_108 ?_ ?hn_108 ?hd_108); (case hf_108 => walk_at "sxf"); (case hn_108 => decide); (case hd_108 => decide))
        refine op_pow_int (Nat.le_of_lt (Nat.lt_trans hj (by decide))) (by decide) ?_
        refine op_div_int hp0 (hp _) ?_
        ((with_reducible refine ev_int ?_); (with_reducible refine op_mod_int ?hg_110 ?_); (case hg_110 => walk_at "sxg"))
        rw [hk]
        refine item k hk' ⟨?_, by walk_at "sxf", by walk_at "sxf"⟩
        show V.str (sgn7 k) = .str (sgn7 (((y.fdiv 2).fdiv (17 ^ ((j : Int)).toNat)).fmod 17).toNat)
        rw [Int.toNat_natCast, hk, Int.toNat_natCast]
      obtain ⟨ls, hls⟩ : ∃ ls : List S, (List.range 6).map (fun j => sgn7 (((y.fdiv 2).fdiv (17 ^ j)).fmod 17).toNat) = ls := ⟨_, rfl⟩
      have hlm : ∀ l ∈ ls, l.length ≤ 1 := fun l hl => by
        rw [← hls] at hl
        obtain ⟨j, hj, rfl⟩ := List.mem_map.mp hl
        obtain ⟨k, hk, hk'⟩ := fmodN ((y.fdiv 2).fdiv (17 ^ j)) (m := 17) (by decide)
        have hk : ((y.fdiv 2).fdiv (17 ^ j)).fmod 17 = (k : Int) := hk
        rw [hk, Int.toNat_natCast]
        exact sgn7_len k hk'
      have hll : ls.length = 6 := by rw [← hls]; rfl
      intro D
      have e5 : [] ++ List.map (pieceV y) ((List.range ((6 : Int) - 0).toNat).map fun (i : Nat) => V.int (0 + (i : Int))) = ls.map V.str := by
        rw [List.nil_append, List.map_map, ← hls, List.map_map]
        refine List.map_congr_left fun j _ => ?_
        show pieceV y (.int (0 + (j : Int))) = _
        rw [Int.zero_add]
        show V.str (sgn7 (((y.fdiv 2).fdiv (17 ^ ((j : Int)).toNat)).fmod 17).toNat) = _
        rw [Int.toNat_natCast]; rfl
      have hsum : (ls.map List.length).sum ≤ 6 := by
        have : ∀ ls : List S, (∀ l ∈ ls, l.length ≤ 1) → (ls.map List.length).sum ≤ ls.length := by
          intro ls
          induction ls with
          | nil => intro _; exact Nat.le_refl _
          | cons l ls ih =>
            intro h
            have h1 := h l List.mem_cons_self
            have h2 := ih fun l hl => h l (List.mem_cons_of_mem _ hl)
            rw [List.map_cons, List.sum_cons, List.length_cons]; rw [Nat.add_comm]; exact Nat.add_le_add h2 h1
        have := this ls hlm
        exact Nat.le_trans this (Nat.le_of_eq hll)
      have hjl : (joinS [] ls).length ≤ 6 := by
        rw [joinS_nil, List.length_flatten]; exact hsum
      ((with_reducible refine evL_nil ?_))
      show OpL _ _ _ [V.str (lit ""), V.lst ([] ++ List.map (pieceV y) ((List.range ((6 : Int) - 0).toNat).map fun (i : Nat) => V.int (0 + (i : Int))))] _
      rw [e5]
      refine opL_join_list (by show _ + ls.length * 0 ≤ _; rw [Nat.mul_zero, Nat.add_zero]; exact line 6 hsum) ?_
      obtain ⟨p0, hp0⟩ : ∃ p0, joinS (lit "") ls = p0 := ⟨_, rfl⟩
      have hpl : p0.length ≤ 6 := by rw [← hp0]; exact hjl
      rw [hp0]
      clear hp0 hjl hsum e5 hlm hll hls
      refine exs_split (fun σ' => ∃ p : S, p.length ≤ 6 ∧ find σ' (Str.ofString "piece") = some (.val (.str p)) ∧ find σ' (Str.ofString "x") = some (.val (.int x)) ∧ find σ' (Str.ofString "key") = some (.val (.str key)) ∧
        find σ' (Str.ofString "signs") = some (.val (.lst (sg7.map V.str))) ∧ find σ' (Str.ofString "tags") = some (.list aT (done.map strsV ++ [.val (.ref b)])) ∧ find σ' anonS = some (.list b (cur.map V.str)) ∧ find σ' (Str.ofString "keys") = some (.list aK (keys.map V.str))) (fun Q2 hQ2 => ex_if ?_) ?_
      · ((with_reducible refine tst_cmp ?_ ?hs_112); (case hs_112 => with_unfolding_all rfl); (with_reducible refine ev_bin ?_); (with_reducible refine ev_name (v := ?vv_114) (by assumption) ?hf_114 ?_ ?hn_114 ?hd_114); (case hf_114 => walk_at "sxf"); (case hn_114 => decide); (case hd_114 => decide); (with_reducible refine ev_int ?_); (with_reducible refine op_mod_int ?hg_116 ?_); (case hg_116 => walk_at "sxg"); (with_reducible refine ev_int ?_); (with_reducible refine op_eq_int ?_); (with_reducible refine exB ?_))
        refine ⟨fun _ => ?_, fun _ => ?_⟩
        · obtain ⟨c, hc, hc'⟩ := fmodN (y.fdiv 2) (m := 1114112) (by decide)
          have hc : (y.fdiv 2).fmod 1114112 = (c : Int) := hc
          ((refine exs_cons ?_); (with_reducible refine ex_assign (by assumption) ?hx_5 ?hs_5 ?_); (case hx_5 => kernel_rfl); (case hs_5 => exact swaps_no (by rfl)))
          ((with_reducible refine ev_fn (w := ?ww_120) (L := ?LL_120) (by assumption) ?hGG_120 ?h1_120 ?h2_120 ?hc_120 ?_ ?h3_120 ?h4_120 ?h5_120); (case hGG_120 => assumption); (case h1_120 => kernel_rfl); (case h2_120 => rfl); (case hc_120 => exact .bi); (case h3_120 => rfl); (case h4_120 => rfl); (case h5_120 => decide); (with_reducible refine evL_cons ?_ ?hs_121); (case hs_121 => rfl); (with_reducible refine ev_bin ?_); (with_reducible refine ev_bin ?_); (with_reducible refine ev_name (v := ?vv_124) (by assumption) ?hf_124 ?_ ?hn_124 ?hd_124); (case hf_124 => walk_at "sxf"); (case hn_124 => decide); (case hd_124 => decide); (with_reducible refine ev_int ?_); (with_reducible refine op_div_int ?hg_126 ?hp_126 ?_); (case hg_126 => walk_at "sxg"); (case hp_126 => exact PyProof.noPylong_of_log2 (by decide +kernel)); (with_reducible refine ev_int ?_); (with_reducible refine op_mod_int ?hg_128 ?_); (case hg_128 => walk_at "sxg"); (with_reducible refine evL_nil ?_))
          rw [hc]
          refine opL_chr (Int.natCast_nonneg c) (Int.ofNat_le.mpr (Nat.le_of_lt_succ hc')) ?_
          exact exs_nil (hQ2 _ ⟨[(c : Int).toNat], by show 1 ≤ 6; decide, by walk_at "sxf", by walk_at "sxf", by walk_at "sxf", by walk_at "sxf", by walk_at "sxf", by walk_at "sxf", by walk_at "sxf"⟩)
        · exact exs_nil (hQ2 _ ⟨p0, hpl, by walk_at "sxf", by walk_at "sxf", by walk_at "sxf", by walk_at "sxf", by walk_at "sxf", by walk_at "sxf", by walk_at "sxf"⟩)
      rintro σ ⟨p, hpp, g1, g2, g3, f1, f2, f3, f4⟩
      have bl := hD.cl
      have dl := hD.dl
      have kl := hD.kl
      ((refine exs_cons ?_); (with_reducible refine ex_if ?_))
      ((with_reducible refine tst_cmp ?_ ?hs_130); (case hs_130 => with_unfolding_all rfl); (with_reducible refine ev_bin ?_); (with_reducible refine ev_name (v := ?vv_132) (by assumption) ?hf_132 ?_ ?hn_132 ?hd_132); (case hf_132 => walk_at "sxf"); (case hn_132 => decide); (case hd_132 => decide); (with_reducible refine ev_int ?_); (with_reducible refine op_mod_int ?hg_134 ?_); (case hg_134 => walk_at "sxg"); (with_reducible refine ev_int ?_); (with_reducible refine op_eq_int ?_); (with_reducible refine exB ?_))
      refine ⟨fun _ => ?_, fun _ => ?_⟩
      · refine Tr.seal f2 f3 (by decide) ?_
        have d1 : find (delA σ) (Str.ofString "piece") = some (.val (.str p)) := by rw [find_delA, if_neg (by decide)]; exact g1
        have d2 : find (delA σ) (Str.ofString "signs") = some (.val (.lst (sg7.map V.str))) := by rw [find_delA, if_neg (by decide)]; exact f1
        have d3 : find (delA σ) (Str.ofString "keys") = some (.list aK (keys.map V.str)) := by rw [find_delA, if_neg (by decide)]; exact f4
        ((refine exs_cons ?_); (with_reducible refine ex_append (a := ?aa_13) (vs := ?vs_13) (by assumption) ?hf_13 ?_ ?d1_13 ?d2_13 ?d3_13 ?r1_13 ?r2_13 ?r3_13 ?r4_13 ?r5_13); (case hf_13 => walk_at "sxf"); (case d1_13 => decide); (case d2_13 => decide); (case d3_13 => decide); (case r1_13 => rfl); (case r2_13 => rfl); (case r3_13 => rfl); (case r4_13 => rfl); (case r5_13 => rfl))
        refine EvF.anon ?_
        refine evF_list ?_
        ((with_reducible refine evL_cons ?_ ?hs_138); (case hs_138 => rfl); (with_reducible refine ev_name (v := ?vv_139) (by assumption) ?hf_139 ?_ ?hn_139 ?hd_139); (case hf_139 => walk_at "sxf"); (case hn_139 => decide); (case hd_139 => decide); (with_reducible refine evL_nil ?_))
        refine ⟨szc 1, fun b2 b3 hb2 => ?_⟩
        cases hb2
        refine ⟨done.map strsV ++ [.lst (cur.map V.str)], by walk_at "sxf", by rw [List.length_append, List.length_map]; show _ + 1 ≤ _; exact line 63 (Nat.lt_of_le_of_lt dl hi), ?_⟩
        have e6 : done.map strsV ++ [V.lst (cur.map V.str)] ++ [V.val (.ref b2)] = (done ++ [cur]).map strsV ++ [V.val (.ref b2)] := by rw [List.map_append]; rfl
        rw [e6]
        exact exs_nil (exs_nil (hQ1 _ ⟨done ++ [cur], [p], keys, b2, hD.new hpp, by walk_at "sxf", by walk_at "sxf", by walk_at "sxf", by walk_at "sxf"⟩))
      have last : ∀ {C' : Cx} {K : V → Prop}, K (.val (.ref b)) → Op2 C' (Rep C'.W) getItem (.lst (done.map strsV ++ [.val (.ref b)])) (.int (-1)) K := fun hK =>
        op_item_lastm (m := done.length) (by rw [List.length_append, List.length_map]; rfl) (by rw [← List.length_map (f := strsV), List.getElem?_concat_length]) (by rw [List.length_append, List.length_map]; exact line 63 (Nat.lt_of_le_of_lt dl hi)) hK



      ((refine exs_cons ?_); (with_reducible refine ex_if ?_))
      ((with_reducible refine tst_cmp ?_ ?hs_141); (case hs_141 => with_unfolding_all rfl); (with_reducible refine ev_bin ?_); (with_reducible refine ev_name (v := ?vv_143) (by assumption) ?hf_143 ?_ ?hn_143 ?hd_143); (case hf_143 => walk_at "sxf"); (case hn_143 => decide); (case hd_143 => decide); (with_reducible refine ev_int ?_); (with_reducible refine op_mod_int ?hg_145 ?_); (case hg_145 => walk_at "sxg"); (with_reducible refine ev_int ?_); (with_reducible refine op_eq_int ?_); (with_reducible refine exB ?_))
      refine ⟨fun _ => ?_, fun _ => ?_⟩
      · refine exs_cons (ex_methA okn (P := fun r => r = .none) PySem.F.plainAttrs_list PySem.F.slot_list_append PySem.F.type_list_append ?_ (by rfl) (by rfl) (by rfl) (by rfl) (by rfl))
        refine ev_itemF okn f2 ?_ (by decide) (by decide) (by decide) (by intro _ _; rfl)
        ((with_reducible refine ev_un ?_); (with_reducible refine ev_int ?_))
        refine opU_neg ?_
        refine ⟨_, f2, last ⟨trivial, b, _, rfl, f3, ?_⟩⟩
        ((with_reducible refine ev_name (v := ?vv_151) (by assumption) ?hf_151 ?_ ?hn_151 ?hd_151); (case hf_151 => walk_at "sxf"); (case hn_151 => decide); (case hd_151 => decide))
        refine ⟨_, f3, opM_append (by rw [List.length_map]; exact line 63 (Nat.le_trans bl hi)) ?_⟩
        have e6 : cur.map V.str ++ [V.str p] = (cur ++ [p]).map V.str := by rw [List.map_append]; rfl
        rw [e6]
        exact exs_nil (exs_nil (exs_nil (hQ1 _ ⟨done, cur ++ [p], keys, b, hD.app hpp, by walk_at "sxf", by walk_at "sxf", by walk_at "sxf", by walk_at "sxf"⟩)))
      ((refine exs_cons ?_); (with_reducible refine ex_if ?_))
      ((with_reducible refine tst_cmp ?_ ?hs_152); (case hs_152 => with_unfolding_all rfl); (with_reducible refine ev_bin ?_); (with_reducible refine ev_name (v := ?vv_154) (by assumption) ?hf_154 ?_ ?hn_154 ?hd_154); (case hf_154 => walk_at "sxf"); (case hn_154 => decide); (case hd_154 => decide); (with_reducible refine ev_int ?_); (with_reducible refine op_mod_int ?hg_156 ?_); (case hg_156 => walk_at "sxg"); (with_reducible refine ev_int ?_); (with_reducible refine op_eq_int ?_); (with_reducible refine exB ?_))
      refine ⟨fun _ => ?_, fun _ => ?_⟩
      · obtain ⟨m, hm⟩ : ∃ m, cur.length = m + 1 := ⟨cur.length - 1, (Nat.sub_add_cancel (List.length_pos_iff.mpr hD.ne)).symm⟩
        obtain ⟨l, hl⟩ : ∃ l, cur[m]? = some l := ⟨_, List.getElem?_eq_getElem (by rw [hm]; exact Nat.lt_succ_self m)⟩
        have hlm := List.mem_of_getElem? hl
        have hll := hD.cv l hlm
        refine exs_cons (ex_augA okn ?_ (by intro _ _ _; rfl))
        refine ev_itemF okn f2 ?_ (by decide) (by decide) (by decide) (by intro _ _; rfl)
        ((with_reducible refine ev_un ?_); (with_reducible refine ev_int ?_))
        refine opU_neg ?_
        refine ⟨_, f2, last ⟨trivial, b, rfl, ?_⟩⟩
        ((with_reducible refine ev_un ?_); (with_reducible refine ev_int ?_))
        refine opU_neg ?_
        refine ⟨_, f3, op_item_lastm (m := m) (v := .str l) (by rw [List.length_map]; exact hm) (by rw [List.getElem?_map, hl]; rfl) (by rw [List.length_map]; exact line 63 (Nat.le_trans bl hi)) ⟨l, rfl, ?_⟩⟩

        ((with_reducible refine ev_name (v := ?vv_164) (by assumption) ?hf_164 ?_ ?hn_164 ?hd_164); (case hf_164 => walk_at "sxf"); (case hn_164 => decide); (case hd_164 => decide); (with_reducible refine op_iadd_str ?hg_165 ?_); (case hg_165 => walk_at "sxg"))
        refine ⟨_, f3, opM_listSetNeg (by decide) (neg1_le (by rw [List.length_map, hm]; exact Nat.succ_pos m)) (by rw [List.length_map]; exact line 63 (Nat.le_trans bl hi)) ?_⟩
        have e6 : (cur.map V.str).set ((-1 : Int) + ((cur.map V.str).length : Int)).toNat (V.str (l ++ p)) = (cur.set ((-1 : Int) + ((cur.map V.str).length : Int)).toNat (l ++ p)).map V.str := by rw [List.map_set]
        rw [e6]
        exact exs_nil (exs_nil (exs_nil (exs_nil (hQ1 _ ⟨done, _, keys, b, hD.aug hpp hlm, by walk_at "sxf", by walk_at "sxf", by walk_at "sxf", by walk_at "sxf"⟩))))
      · ((refine exs_cons ?_); (with_reducible refine ex_if ?_))
        refine tst_cmpO okn ?_ (by decide) (by decide) (by decide) (by rfl)
        ((with_reducible refine ev_name (v := ?vv_166) (by assumption) ?hf_166 ?_ ?hn_166 ?hd_166); (case hf_166 => walk_at "sxf"); (case hn_166 => decide); (case hd_166 => decide))
        refine ⟨_, _, f4, rfl, op_notIn_strsG okn ?_⟩
        refine exB ⟨fun hb => ?_, fun _ => ?_⟩
        · have hb : key ∉ keys := fun q => by rw [decide_eq_true q] at hb; cases hb
          ((refine exs_cons ?_); (with_reducible refine ex_append (a := ?aa_14) (vs := ?vs_14) (by assumption) ?hf_14 ?_ ?d1_14 ?d2_14 ?d3_14 ?r1_14 ?r2_14 ?r3_14 ?r4_14 ?r5_14); (case hf_14 => walk_at "sxf"); (case d1_14 => decide); (case d2_14 => decide); (case d3_14 => decide); (case r1_14 => rfl); (case r2_14 => rfl); (case r3_14 => rfl); (case r4_14 => rfl); (case r5_14 => rfl))
          ((with_reducible refine ev_name (v := ?vv_167) (by assumption) ?hf_167 ?_ ?hn_167 ?hd_167); (case hf_167 => walk_at "sxf"); (case hn_167 => decide); (case hd_167 => decide))
          refine ⟨_, f4, by rw [List.length_map]; exact line 63 (Nat.le_trans kl (Nat.le_of_lt hi)), ?_⟩
          have e6 : keys.map V.str ++ [V.str key] = (keys ++ [key]).map V.str := by rw [List.map_append]; rfl
          rw [e6]
          exact exs_nil (exs_nil (exs_nil (exs_nil (exs_nil (hQ1 _ ⟨done, cur, keys ++ [key], b, hD.key hb q1 q2 q3, by walk_at "sxf", by walk_at "sxf", by walk_at "sxf", by walk_at "sxf"⟩)))))
        · exact exs_nil (exs_nil (exs_nil (exs_nil (exs_nil (hQ1 _ ⟨done, cur, keys, b, hD.skip, f1, f2, f3, f4⟩)))))
    · rintro σ ⟨done, cur, keys, b, hD, f1, f2, f3, f4⟩
      obtain ⟨t1, t2⟩ := hD.fin h
      refine exs_nil ?_
      refine Tr.seal f2 f3 (by decide) ?_
      refine Tr.freeze (x := "tags") (by rw [find_put, if_pos rfl]) rfl ?_ (by decide)
      refine Tr.freeze (x := "keys") (sl := .list aK (keys.map V.str)) ?_ rfl ?_ (by decide)
      · rw [find_put, if_neg (by decide), find_put, if_neg (by decide), find_delA, if_neg (by decide)]; exact f4
      ((refine exs_cons ?_); (with_reducible refine ex_return ?_))
      refine ev_tuple ?_
      refine evL_cons (ev_name okn (v := .lst (done.map strsV ++ [.lst (cur.map V.str)])) (by rw [find_put, if_neg (by decide), find_put, if_pos rfl]; rfl) ?_ (by decide) (by decide)) (by rfl)
      refine evL_cons (ev_name okn (v := .lst (keys.map V.str)) (by rw [find_put, if_pos rfl]; rfl) ?_ (by decide) (by decide)) (by rfl)
      refine evL_nil ⟨szc 2, hQ _ _ ⟨done ++ [cur], keys, ?_, t1, t2⟩⟩
      rw [List.map_append]; rfl
theorem items_R (P : List (S × S)) : ((tabV P).map fun p => V.tup [p.1.tv, p.2]) = P.map prR := by
  unfold tabV
  rw [List.map_map]; rfl
noncomputable def inV1 : V → V := fun v => match v with | .tup [.txt k, .str r] => prR (k, own7V k r) | _ => .none
noncomputable def inP (P : List (S × S)) : V → Bool := fun v => match v with | .str k => decide (k ∉ ks7 P) | _ => false
noncomputable def inV2 : V → V := fun v => match v with | .str k => prR (k, (tget own7 k).getD []) | _ => .none
theorem inV1_eq (P : List (S × S)) : (P.map prR).map inV1 = (P.map fun p => (p.1, own7V p.1 p.2)).map prR := by
  rw [List.map_map, List.map_map]; rfl
theorem inV2_eq (P : List (S × S)) : (((tabV own7).map fun p => p.1.v).filter (inP P)).map inV2 = (own7.filter fun p => decide (p.1 ∉ ks7 P)).map prR := by
  unfold tabV
  rw [List.map_map, List.filter_map, List.map_map]
  refine List.map_congr_left fun p hp => ?_
  have hp := (List.mem_filter.mp hp).1
  simp only [own7, List.mem_cons, List.not_mem_nil, or_false] at hp
  rcases hp with rfl | rfl | rfl <;> rfl
theorem alikeL_prR : ∀ ps : List (S × S), AlikeL 1 (ps.map prR) (ps.map prR)
  | [] => .nil _
  | p :: ps => .cons (.tup (.cons (.tt _ _) (.cons (.ss _ _) (.nil _)))) (alikeL_prR ps)
theorem alikeL_prKn (n : Nat) : ∀ ps : List (S × S), AlikeL (n + 1) (ps.map prK) (ps.map prK)
  | [] => .nil _
  | p :: ps => .cons (.tup (.cons (.ss _ _) (.cons (.tt _ _) (.nil _)))) (alikeL_prKn n ps)
theorem alike_vals : ∀ vs : List Val7, AlikeL 3 (vs.map valV) (vs.map valV)
  | [] => .nil _
  | v :: vs => .cons (.tup (.cons (.ss _ _) (.cons (.lst (alikeL_prKn 0 _)) (.nil _)))) (alike_vals vs)
theorem alike_tags : ∀ T : List Tag7, AlikeL 4 (T.map tagV) (T.map tagV)
  | [] => .nil _
  | t :: T => .cons (.lst (.cons (.lst (alikeL_prKn 1 _)) (alike_vals t.2))) (alike_tags T)
theorem rules3 {ks : List S} (h : Keys7 ks) : (∀ p ∈ first7 ++ pairs7 0 ks, p.1 ≠ [] ∧ p.2 ≠ [] ∧ p.1.length ≤ 3) ∧ (∀ p ∈ first7 ++ inner7 (pairs7 0 ks), p.1 ≠ [] ∧ p.2 ≠ [] ∧ p.1.length ≤ 3) := by
  have hf : ∀ p ∈ first7, p.1.length ≤ 3 := by decide
  have ho : ∀ p ∈ own7, p.1.length ≤ 3 := by decide
  have hp3 : ∀ p ∈ pairs7 0 ks, p.1.length ≤ 3 := fun p hp => (h.ok _ (pairs7_mem _ _ _ hp).1).2.1
  refine ⟨fun p hp => ⟨(first_ref h.good p hp).1, (first_ref h.good p hp).2.ne, ?_⟩, fun p hp => ⟨(first_ref h.inner p hp).1, (first_ref h.inner p hp).2.ne, ?_⟩⟩
  · exact (List.mem_append.mp hp).elim (hf p) (hp3 p)
  · rcases List.mem_append.mp hp with hp | hp
    · exact hf p hp
    · rcases List.mem_append.mp hp with hp | hp
      · obtain ⟨q, hq, rfl⟩ := List.mem_map.mp hp
        exact hp3 q hq
      · exact ho p (List.mem_filter.mp hp).1
noncomputable def quoV (m : Nat) : V → V := fun v => match v with | .tup [.str a, .txt b] => if ((a, b) : S × S) = ([], [m]) then prK (lit "&quot;", [m]) else v | _ => v
theorem quoV_eq (m : Nat) (ps : List (S × S)) : (ps.map prK).map (quoV m) = (ps.map fun p => if p = ([], [m]) then (lit "&quot;", [m]) else p).map prK := by
  rw [List.map_map, List.map_map]
  refine List.map_congr_left fun p _ => ?_
  obtain ⟨a, b⟩ := p
  show (if ((a, b) : S × S) = ([], [m]) then prK (lit "&quot;", [m]) else prK (a, b)) = prK (if ((a, b) : S × S) = ([], [m]) then (lit "&quot;", [m]) else (a, b))
  split <;> rfl
set_option maxHeartbeats 4000000 in
theorem walk07 {W : Wd} {A : Around} {L : Addr} {q' : Str} {cd : Value} {n : Nat} (okn : (fnCx W A (fdAt (F07 W.w) 68).scope L 68 q' cd).Ok (n + 12)) (I : In07 (fnCx W A (fdAt (F07 W.w) 68).scope L 68 q' cd)) {sc : List Int} (hsc : sc.length ≤ 63) :
    Exs (fnCx W A (fdAt (F07 W.w) 68).scope L 68 q' cd) [("script", .val (.lst (sc.map V.int)))] (bdAt (F07 W.w) 68) (fun fl _ => fl.v = .bool true) := exs_eq fun Q hQ => by
  have hG : (fnCx W A (fdAt (F07 W.w) 68).scope L 68 q' cd).W.gls = _ := I.hG
  have hsz : sizeLine = 16777216 := sizeLine_eq
  refine exs_cons ?_
  refine ex_unpack okn ?_ (by rfl) (by rfl)
  refine ev_fn okn hG (by kernel_rfl) (by rfl) (callee_of (fnAt_of (a := 44) I.hF (by rfl) (by rfl) (by rfl) (by rfl) (by rfl) (by rfl) (by rfl) (by rfl) (by rfl))) ?_ (by rfl) (by rfl) (by decide)
  ((with_reducible refine evL_cons ?_ ?hs_18); (case hs_18 => rfl); (with_reducible refine ev_name (v := ?vv_19) (by assumption) ?hf_19 ?_ ?hn_19 ?hd_19); (case hf_19 => walk_at "sxf"); (case hn_19 => decide); (case hd_19 => decide); (with_reducible refine evL_nil ?_))
  refine OpL.mono (c_drawn (n := n + 10) okn I hsc) ?_
  rintro v ⟨tags, keys, rfl, hT, hK⟩
  have hkl := hK.len
  have htl := hT.len
  refine asg_tuple okn (asgL_cons (asg_name okn (by kernel_rfl) (asgL_cons (asg_name okn (by kernel_rfl) (asgL_nil ?_))))) (by rfl) (by rfl)
  ((refine exs_cons ?_); (with_reducible refine ex_assignN (by assumption) ?hx_7 ?hs_7 ?_); (case hx_7 => kernel_rfl); (case hs_7 => exact swaps_no (by rfl)))
  refine evF_dict0 okn fun aE => ?_
  refine exs_cons ?_
  refine ex_for okn ?_
  ((with_reducible refine ev_name (v := ?vv_21) (by assumption) ?hf_21 ?_ ?hn_21 ?hd_21); (case hf_21 => walk_at "sxf"); (case hn_21 => decide); (case hd_21 => decide))
  refine ⟨_, rfl, trivial, ?_⟩
  refine loop_listQ V.str keys (fun i σ => find σ (Str.ofString "tags") = some (.val (.lst (tags.map strsV))) ∧ find σ (Str.ofString "keys") = some (.val (.lst (keys.map V.str))) ∧ find σ (Str.ofString "entities") = some (.dict aE (tabV (pairs7 0 (keys.take i))))) ?_ ?_ ⟨by walk_at "sxf", by walk_at "sxf", by walk_at "sxf"⟩ rfl
  · rintro i k σ Q1 hQ1 hx ⟨f1, f2, f3⟩
    have hi : i < keys.length := (List.getElem?_eq_some_iff.mp hx).1
    have hi63 : i < 63 := Nat.lt_of_lt_of_le hi hkl
    have htk : keys.take (i + 1) = keys.take i ++ [k] := by rw [List.take_add_one, hx]; rfl
    have hlk : (keys.take i).length = i := take_len hi
    have hpl : (tabV (pairs7 0 (keys.take i))).length = i := by
      have := congrArg List.length (pairs7_keys 0 (keys.take i))
      rw [List.length_map, hlk] at this
      rw [tabV_length, this]
    have hnew : k ∉ ks7 (pairs7 0 (keys.take i)) := by
      unfold ks7
      rw [pairs7_keys]
      have := hK.nd
      rw [← List.take_append_drop (i + 1) keys, htk, List.append_assoc, List.nodup_append] at this
      exact fun hm => this.2.2 k hm k (by simp) rfl
    have hnext : dset (tabV (pairs7 0 (keys.take i))) (.s k) (.str (entRef i)) = tabV (pairs7 0 (keys.take (i + 1))) := by
      rw [dset_tab1, tset1_new hnew, htk, pairs7_append, hlk, Nat.zero_add]; rfl
    refine asg_name okn (by kernel_rfl) ?_
    refine exs_cons ?_
    refine ex_setItemO okn (a := aE) (P := fun _ => True) ?_ (by decide) (by decide) (by decide) (swaps_no (by rfl))
    ((with_reducible refine ev_bin ?_)); ((with_reducible refine ev_bin ?_)); ((with_reducible refine ev_str ?_)); ((with_reducible refine ev_fn (w := ?ww_25) (L := ?LL_25) (by assumption) ?hGG_25 ?h1_25 ?h2_25 ?hc_25 ?_ ?h3_25 ?h4_25 ?h5_25); (case hGG_25 => assumption); (case h1_25 => kernel_rfl); (case h2_25 => rfl); (case hc_25 => exact .ty); (case h3_25 => rfl); (case h4_25 => rfl); (case h5_25 => decide)); ((with_reducible refine evL_cons ?_ ?hs_26); (case hs_26 => rfl))
    refine ev_fnO okn hG (by kernel_rfl) (by rfl) .bi (by walk_at "sxf") rfl ?_ (by decide) (by decide) (by decide) (by decide) (by rfl) (by rfl)
    refine opL_len_dict (line 63 (by rw [hpl]; exact Nat.le_of_lt hi63)) ⟨_, rfl, ?_⟩
    rw [hpl]
    have hdg := (dig_ok i (Nat.lt_trans hi63 (by decide))).2.1
    ((with_reducible refine evL_nil ?_))
    refine opL_strInt (nabs (Nat.le_of_lt hi63)) ?_
    show Op2 _ _ _ _ (V.str (dig i)) _
    refine op_add_str (by show 2 + _ ≤ _; exact line 4 (Nat.add_le_add_left hdg 2)) ?_
    ((with_reducible refine ev_str ?_))
    refine op_add_str (by rw [List.length_append]; show 2 + _ + 1 ≤ _; exact line 5 (Nat.succ_le_succ (Nat.add_le_add_left hdg 2))) ?_
    show ∃ sl, _
    refine ⟨.dict aE (tabV (pairs7 0 (keys.take i))), by walk_at "sxf", rfl, ?_⟩
    ((with_reducible refine ev_name (v := ?vv_29) (by assumption) ?hf_29 ?_ ?hn_29 ?hd_29); (case hf_29 => walk_at "sxf"); (case hn_29 => decide); (case hd_29 => decide))
    refine ⟨.dict aE (tabV (pairs7 0 (keys.take i))), by walk_at "sxf", rfl, ?_⟩
    refine opM_setItem (k := .s k) (line 63 (by rw [hpl]; exact Nat.le_of_lt hi63)) ?_
    show Exs _ (put _ _ _ (.dict aE (dset (tabV (pairs7 0 (keys.take i))) (.s k) (.str (entRef i))))) _ _
    rw [hnext]
    exact exs_nil (hQ1 _ ⟨by walk_at "sxf", by walk_at "sxf", by walk_at "sxf"⟩)
  rintro σ ⟨f1, f2, f3⟩
  rw [List.take_length] at f3
  obtain ⟨P, hP⟩ : ∃ P, pairs7 0 keys = P := ⟨_, rfl⟩
  have hPl : P.length = keys.length := by
    have := congrArg List.length (pairs7_keys 0 keys)
    rwa [List.length_map, hP] at this
  rw [hP] at f3
  have hPk : P.length ≤ 63 := by rw [hPl]; exact hkl
  refine exs_nil ?_
  refine Tr.freeze (x := "entities") f3 rfl ?_ (by decide)
  show Exs _ (put _ _ _ (.val (.dct (tabV P)))) _ _
  ((refine exs_cons ?_); (with_reducible refine ex_assign (by assumption) ?hx_1 ?hs_1 ?_); (case hx_1 => kernel_rfl); (case hs_1 => exact swaps_no (by rfl)))
  refine ev_ofF ?_
  refine evF_fn okn hG (by kernel_rfl) (by rfl) .ty ?_ (by rfl) (by rfl) (by decide)
  ((with_reducible refine evL_cons ?_ ?hs_30); (case hs_30 => rfl); (with_reducible refine ev_meth ?_ ?h1_31 ?h2_31 ?h3_31 ?h4_31); (case h1_31 => rfl); (case h2_31 => rfl); (case h3_31 => rfl); (case h4_31 => rfl); (with_reducible refine ev_name (v := ?vv_32) (by assumption) ?hf_32 ?_ ?hn_32 ?hd_32); (case hf_32 => walk_at "sxf"); (case hn_32 => decide); (case hd_32 => decide); (with_reducible refine ⟨_, _, methOk_dct PySem.F.slot_dict_items PySem.F.type_dict_items, ?_⟩); (with_reducible refine evL_nil ?_); (with_reducible refine opL_items ?_); (with_reducible refine evL_nil ?_))
  refine opF_listItems okn (es := tabV P) (by rw [tabV_length]; exact line 63 hPk) fun a6 => ?_
  rw [items_R]
  show Exs _ (put _ _ _ (.val (.lst (P.map prR)))) _ _
  ((refine exs_cons ?_); (with_reducible refine ex_assign (by assumption) ?hx_2 ?hs_2 ?_); (case hx_2 => kernel_rfl); (case hs_2 => exact swaps_no (by rfl)))
  ((with_reducible refine ev_ofF ?_); (with_reducible refine evF_dictE (by assumption) ?_ ?h1_12 ?h2_12 ?h3_12 ?h4_12); (case h1_12 => rfl); (case h2_12 => rfl); (case h3_12 => rfl); (case h4_12 => exact Nat.le_of_ble_eq_true (by rfl)))
  ((with_reducible refine evD_cons ?_); (with_reducible refine ev_str ?_); (refine ⟨.s _, rfl, ?_⟩); (with_reducible refine ev_str ?_)); ((with_reducible refine evD_cons ?_); (with_reducible refine ev_str ?_); (refine ⟨.s _, rfl, ?_⟩); (with_reducible refine ev_str ?_)); ((with_reducible refine evD_cons ?_); (with_reducible refine ev_str ?_); (refine ⟨.s _, rfl, ?_⟩); (with_reducible refine ev_str ?_))
  refine evD_nil fun a7 => ?_
  show Exs _ (put _ _ _ (.val (.dct (tabV own7)))) _ _
  ((refine exs_cons ?_); (with_reducible refine ex_assign (by assumption) ?hx_3 ?hs_3 ?_); (case hx_3 => kernel_rfl); (case hs_3 => exact swaps_no (by rfl)))
  refine ev_ofF ?_
  refine evF_list ?_
  ((with_reducible refine evL_cons ?_ ?hs_37); (case hs_37 => rfl))
  refine Tr.weak (ev_tuple ?_)
  ((with_reducible refine evL_cons ?_ ?hs_38); (case hs_38 => rfl); (with_reducible refine ev_str ?_); (with_reducible refine evL_cons ?_ ?hs_40); (case hs_40 => rfl); (with_reducible refine ev_str ?_); (with_reducible refine evL_nil ?_))
  refine ⟨szc 2, _, weak_R (lit "&", lit "&amp;"), ?_⟩
  ((with_reducible refine evL_cons ?_ ?hs_43); (case hs_43 => rfl))
  refine Tr.weak (ev_tuple ?_)
  ((with_reducible refine evL_cons ?_ ?hs_44); (case hs_44 => rfl); (with_reducible refine ev_str ?_); (with_reducible refine evL_cons ?_ ?hs_46); (case hs_46 => rfl); (with_reducible refine ev_str ?_); (with_reducible refine evL_nil ?_))
  refine ⟨szc 2, _, weak_R (lit "<", lit "&lt;"), ?_⟩
  ((with_reducible refine evL_cons ?_ ?hs_49); (case hs_49 => rfl))
  refine Tr.weak (ev_tuple ?_)
  ((with_reducible refine evL_cons ?_ ?hs_50); (case hs_50 => rfl); (with_reducible refine ev_str ?_); (with_reducible refine evL_cons ?_ ?hs_52); (case hs_52 => rfl); (with_reducible refine ev_str ?_); (with_reducible refine evL_nil ?_))
  refine ⟨szc 2, _, weak_R (lit ">", lit "&gt;"), ?_⟩
  ((with_reducible refine evL_nil ?_))
  refine ⟨szc 3, fun a8 => ?_⟩
  show Exs _ (put _ _ _ (.val (.lst (first7.map prR)))) _ _
  refine exs_cons ?_
  refine ex_assignListComp okn (fv := ["own"]) (compOk_of (by kernel_rfl)) (by kernel_rfl) ?_ (swaps_list (by kernel_rfl))
  ((with_reducible refine ev_name (v := ?vv_56) (by assumption) ?hf_56 ?_ ?hn_56 ?hd_56); (case hf_56 => walk_at "sxf"); (case hn_56 => decide); (case hd_56 => decide))
  refine ⟨_, rfl, trivial, by rw [List.length_map]; exact line 63 hPk, fun cl L' okc => ?_⟩
  refine lloop_map (fun σ => find σ (Str.ofString "own") = some (.val (.dct (tabV own7)))) inV1 _ _ _ (find_cap1 (by simp) (by walk_at "sxf")) ?_ ?_
  · rintro y hy σ j1
    obtain ⟨⟨k, r⟩, hp, rfl⟩ := List.mem_map.mp hy
    refine asg_tuple okc (asgL_cons (asg_name okc (by kernel_rfl) (asgL_cons (asg_name okc (by kernel_rfl) (asgL_nil ?_))))) (by rfl) (by rfl)
    refine ev_tuple ?_
    ((with_reducible refine evL_cons ?_ ?hs_57); (case hs_57 => rfl); (with_reducible refine ev_name (v := ?vv_58) (by assumption) ?hf_58 ?_ ?hn_58 ?hd_58); (case hf_58 => walk_at "sxf"); (case hn_58 => decide); (case hd_58 => decide); (with_reducible refine evL_cons ?_ ?hs_59); (case hs_59 => rfl); (with_reducible refine ev_ifexp ?_); (with_reducible refine tst_cmp ?_ ?hs_61); (case hs_61 => with_unfolding_all rfl); (with_reducible refine ev_name (v := ?vv_62) (by assumption) ?hf_62 ?_ ?hn_62 ?hd_62); (case hf_62 => walk_at "sxf"); (case hn_62 => decide); (case hd_62 => decide); (with_reducible refine ev_name (v := ?vv_63) (by assumption) ?hf_63 ?_ ?hn_63 ?hd_63); (case hf_63 => walk_at "sxf"); (case hn_63 => decide); (case hd_63 => decide))
    refine op_in_dictT ?_
    ((with_reducible refine exB ?_))
    rw [dget_tab]
    have e := own_get k r
    refine ⟨fun hb => ?_, fun hb => ?_⟩
    · cases hg : tget own7 k with
      | none => rw [hg] at hb; cases hb
      | some v =>
        rw [hg] at e
        ((with_reducible refine ev_sub ?_ ?hs_65); (case hs_65 => (intro _ _; rfl)); (with_reducible refine ev_name (v := ?vv_66) (by assumption) ?hf_66 ?_ ?hn_66 ?hd_66); (case hf_66 => walk_at "sxf"); (case hn_66 => decide); (case hd_66 => decide); (with_reducible refine ev_name (v := ?vv_67) (by assumption) ?hf_67 ?_ ?hn_67 ?hd_67); (case hf_67 => walk_at "sxf"); (case hn_67 => decide); (case hd_67 => decide))
        refine item_dictT (v := .str v) (by rw [dget_tab, hg]; rfl) ?_
        ((with_reducible refine evL_nil ?_))
        refine ⟨szc 2, ?_, by walk_at "sxf"⟩
        show V.tup [.txt k, .str v] = V.tup [.txt k, .str (own7V k r)]
        rw [e]; rfl
    · cases hg : tget own7 k with
      | some v => rw [hg] at hb; cases hb
      | none =>
        rw [hg] at e
        ((with_reducible refine ev_name (v := ?vv_69) (by assumption) ?hf_69 ?_ ?hn_69 ?hd_69); (case hf_69 => walk_at "sxf"); (case hn_69 => decide); (case hd_69 => decide); (with_reducible refine evL_nil ?_))
        refine ⟨szc 2, ?_, by walk_at "sxf"⟩
        show V.tup [.txt k, .str r] = V.tup [.txt k, .str (own7V k r)]
        rw [e]; rfl
  intro aI
  rw [List.nil_append, inV1_eq]
  refine Tr.freeze (x := "inner") (by walk_at "sxf") rfl ?_ (by decide)
  show Exs _ (put _ _ _ (.val (.lst ((P.map fun p => (p.1, own7V p.1 p.2)).map prR)))) _ _
  ((refine exs_cons ?_); (with_reducible refine ex_assign (by assumption) ?hx_4 ?hs_4 ?_); (case hx_4 => kernel_rfl); (case hs_4 => exact swaps_no (by rfl)))
  refine ev_ofF ?_
  refine evF_bin ?_
  ((with_reducible refine ev_name (v := ?vv_71) (by assumption) ?hf_71 ?_ ?hn_71 ?hd_71); (case hf_71 => walk_at "sxf"); (case hn_71 => decide); (case hd_71 => decide))
  refine ev_ofF ?_
  refine evF_listComp okn (fv := ["own", "entities"]) (compOk_of (by kernel_rfl)) ?_
  ((with_reducible refine ev_name (v := ?vv_72) (by assumption) ?hf_72 ?_ ?hn_72 ?hd_72); (case hf_72 => walk_at "sxf"); (case hn_72 => decide); (case hd_72 => decide))
  refine ⟨_, rfl, trivial, szc 3, fun cl L' okc => ?_⟩
  refine lloop_filter (fun σ => find σ (Str.ofString "own") = some (.val (.dct (tabV own7))) ∧ find σ (Str.ofString "entities") = some (.val (.dct (tabV P)))) (inP P) inV2 _ _ _ ⟨find_cap1 (by simp) (by walk_at "sxf"), find_cap1 (by simp) (by walk_at "sxf")⟩ ?_ ?_
  · rintro y hy σ ⟨j1, j2⟩
    have hy : y ∈ (own7.map (·.1)).map V.str := by
      have : (tabV own7).map (fun p => p.1.v) = (own7.map (·.1)).map V.str := by unfold tabV; rw [List.map_map, List.map_map]; rfl
      rw [← this]; exact hy
    obtain ⟨k, hk, rfl⟩ := List.mem_map.mp hy
    obtain ⟨⟨k, r⟩, hp, rfl⟩ := List.mem_map.mp hk
    have hg : tget own7 k = some r := by
      simp only [own7, List.mem_cons, List.not_mem_nil, or_false, Prod.mk.injEq] at hp
      rcases hp with ⟨rfl, rfl⟩ | ⟨rfl, rfl⟩ | ⟨rfl, rfl⟩ <;> rfl
    refine asg_name okc (by kernel_rfl) ?_
    ((with_reducible refine tst_cmp ?_ ?hs_73); (case hs_73 => with_unfolding_all rfl); (with_reducible refine ev_name (v := ?vv_74) (by assumption) ?hf_74 ?_ ?hn_74 ?hd_74); (case hf_74 => walk_at "sxf"); (case hn_74 => decide); (case hd_74 => decide); (with_reducible refine ev_name (v := ?vv_75) (by assumption) ?hf_75 ?_ ?hn_75 ?hd_75); (case hf_75 => walk_at "sxf"); (case hn_75 => decide); (case hd_75 => decide))
    refine op_notIn_dict (k := .s k) ?_
    ((with_reducible refine exB ?_))
    rw [dget_tab, Option.isSome_map, tget_keys]
    refine ⟨(decide_not).symm, ⟨by walk_at "sxf", by walk_at "sxf"⟩, fun _ => ?_⟩
    refine Tr.weak (ev_tuple ?_)
    ((with_reducible refine evL_cons ?_ ?hs_77); (case hs_77 => rfl); (with_reducible refine ev_name (v := ?vv_78) (by assumption) ?hf_78 ?_ ?hn_78 ?hd_78); (case hf_78 => walk_at "sxf"); (case hn_78 => decide); (case hd_78 => decide); (with_reducible refine evL_cons ?_ ?hs_79); (case hs_79 => rfl); (with_reducible refine ev_sub ?_ ?hs_80); (case hs_80 => (intro _ _; rfl)); (with_reducible refine ev_name (v := ?vv_81) (by assumption) ?hf_81 ?_ ?hn_81 ?hd_81); (case hf_81 => walk_at "sxf"); (case hn_81 => decide); (case hd_81 => decide); (with_reducible refine ev_name (v := ?vv_82) (by assumption) ?hf_82 ?_ ?hn_82 ?hd_82); (case hf_82 => walk_at "sxf"); (case hn_82 => decide); (case hd_82 => decide))
    refine item_dictS (v := .str r) (by rw [dget_tab, hg]; rfl) ?_
    ((with_reducible refine evL_nil ?_))
    refine ⟨szc 2, _, weak_R (k, r), ?_, by walk_at "sxf", by walk_at "sxf"⟩
    show prR (k, r) = prR (k, (tget own7 k).getD [])
    rw [hg]; rfl
  intro aI2
  have hIl : (inner7 P).length ≤ 66 := by
    unfold inner7
    have := List.length_filter_le (fun p => decide (p.1 ∉ ks7 P)) own7
    have h3 : own7.length = 3 := rfl
    rw [List.length_append, List.length_map]; exact Nat.add_le_add hPk (Nat.le_trans this (Nat.le_of_eq h3))
  show Op2F _ _ _ (V.lst ([] ++ List.map inV2 (List.filter (inP P) ((tabV own7).map fun p => p.1.v)))) _
  rw [List.nil_append, inV2_eq]
  refine opF_add_list (by rw [List.length_map, List.length_map, List.length_map]; have := List.length_filter_le (fun p => decide (p.1 ∉ ks7 P)) own7; have h3 : own7.length = 3 := rfl; exact line 66 (Nat.add_le_add hPk (Nat.le_trans this (Nat.le_of_eq h3)))) fun a9 => ?_
  show Exs _ (put _ _ _ (.val (.lst ((P.map fun p => (p.1, own7V p.1 p.2)).map prR ++ (own7.filter fun p => decide (p.1 ∉ ks7 P)).map prR)))) _ _
  rw [← List.map_append]
  show Exs _ (put _ _ _ (.val (.lst ((inner7 P).map prR)))) _ _
  ((refine exs_cons ?_); (with_reducible refine ex_assignN (by assumption) ?hx_8 ?hs_8 ?_); (case hx_8 => kernel_rfl); (case hs_8 => exact swaps_no (by rfl)))
  refine evF_dictE okn ?_ (by rfl) (by rfl) (by rfl) (Nat.le_of_ble_eq_true (by rfl))
  refine evD_cons (ev_str ⟨.s _, rfl, Tr.weak (ev_str ⟨_, weak_txt _, ?_⟩)⟩)
  refine evD_nil fun aN => ?_
  show Exs _ (put _ _ _ (.dict aN (tabT [(lit "&quot;", [34])]))) _ _
  refine exs_cons ?_
  refine ex_for okn ?_
  refine ev_ofF ?_
  refine evF_bin ?_
  refine ev_ofF ?_
  refine evF_bin ?_
  ((with_reducible refine ev_name (v := ?vv_84) (by assumption) ?hf_84 ?_ ?hn_84 ?hd_84); (case hf_84 => walk_at "sxf"); (case hn_84 => decide); (case hd_84 => decide); (with_reducible refine ev_name (v := ?vv_85) (by assumption) ?hf_85 ?_ ?hn_85 ?hd_85); (case hf_85 => walk_at "sxf"); (case hn_85 => decide); (case hd_85 => decide))
  have hF3 : first7.length = 3 := rfl
  refine opF_add_list (by rw [List.length_map, List.length_map]; exact line 66 (Nat.add_le_add (Nat.le_of_eq hF3) hPk)) fun a10 => ?_
  ((with_reducible refine ev_name (v := ?vv_86) (by assumption) ?hf_86 ?_ ?hn_86 ?hd_86); (case hf_86 => walk_at "sxf"); (case hn_86 => decide); (case hd_86 => decide))
  show Op2F _ _ (V.lst (first7.map prR ++ P.map prR)) _ _
  rw [← List.map_append]
  refine opF_add_list (by rw [List.length_map, List.length_map, List.length_append]; exact line 132 (Nat.add_le_add (Nat.add_le_add (Nat.le_of_eq hF3) hPk) hIl)) fun a11 => ?_
  show ∃ xs, seqOf (V.lst ((first7 ++ P).map prR ++ (inner7 P).map prR)) = some xs ∧ RunOk _ (V.lst ((first7 ++ P).map prR ++ (inner7 P).map prR)) ∧ _
  rw [← List.map_append]
  refine ⟨_, rfl, trivial, ?_⟩
  refine loop_listQ prR (first7 ++ P ++ inner7 P) (fun i σ => find σ (Str.ofString "tags") = some (.val (.lst (tags.map strsV))) ∧ find σ (Str.ofString "keys") = some (.val (.lst (keys.map V.str))) ∧ find σ (Str.ofString "entities") = some (.val (.dct (tabV P))) ∧ find σ (Str.ofString "pairs") = some (.val (.lst (P.map prR))) ∧ find σ (Str.ofString "first") = some (.val (.lst (first7.map prR))) ∧ find σ (Str.ofString "inner") = some (.val (.lst ((inner7 P).map prR))) ∧
    find σ (Str.ofString "names") = some (.dict aN (tabT (tnames ((first7 ++ P ++ inner7 P).take i) [(lit "&quot;", [34])])))) ?_ ?_ ⟨by walk_at "sxf", by walk_at "sxf", by walk_at "sxf", by walk_at "sxf", by walk_at "sxf", by walk_at "sxf", by walk_at "sxf"⟩ rfl
  · rintro i ⟨k, r⟩ σ Q1 hQ1 hx ⟨f1, f2, f3, f4, f5, f6, f7⟩
    have hnext : tnames ((first7 ++ P ++ inner7 P).take (i + 1)) [(lit "&quot;", [34])] = tset1 (tnames ((first7 ++ P ++ inner7 P).take i) [(lit "&quot;", [34])]) r k := by
      unfold tnames
      rw [List.take_add_one, hx, List.foldl_append]; rfl
    have hnl : (tabT (tnames ((first7 ++ P ++ inner7 P).take i) [(lit "&quot;", [34])])).length ≤ 200 := by
      have := tnames_len ((first7 ++ P ++ inner7 P).take i) [(lit "&quot;", [34])]
      have h2 : ((first7 ++ P ++ inner7 P).take i).length ≤ (first7 ++ P ++ inner7 P).length := by rw [List.length_take]; exact Nat.min_le_right _ _
      rw [List.length_append, List.length_append] at h2
      unfold tabT
      rw [List.length_map]
      have h1 : [(lit "&quot;", ([34] : S))].length = 1 := rfl
      exact Nat.le_trans this (Nat.le_trans (Nat.add_le_add (Nat.le_of_eq h1) (Nat.le_trans h2 (Nat.add_le_add (Nat.add_le_add (Nat.le_of_eq hF3) hPk) hIl))) (by decide))
    generalize tnames ((first7 ++ P ++ inner7 P).take i) [(lit "&quot;", [34])] = N at f7 hnext hnl
    refine asg_tuple okn (asgL_cons (asg_name okn (by kernel_rfl) (asgL_cons (asg_name okn (by kernel_rfl) (asgL_nil ?_))))) (by rfl) (by rfl)
    refine exs_cons ?_
    refine ex_setItemO okn (a := aN) (P := fun _ => True) ?_ (by decide) (by decide) (by decide) (swaps_no (by rfl))
    ((with_reducible refine ev_name (v := ?vv_87) (by assumption) ?hf_87 ?_ ?hn_87 ?hd_87); (case hf_87 => walk_at "sxf"); (case hn_87 => decide); (case hd_87 => decide))
    refine ⟨.dict aN (tabT N), by walk_at "sxf", rfl, ?_⟩
    ((with_reducible refine ev_name (v := ?vv_88) (by assumption) ?hf_88 ?_ ?hn_88 ?hd_88); (case hf_88 => walk_at "sxf"); (case hn_88 => decide); (case hd_88 => decide))
    refine ⟨.dict aN (tabT N), by walk_at "sxf", rfl, ?_⟩
    refine opM_setItem (k := .s r) (line 200 hnl) ?_
    show Exs _ (put _ _ _ (.dict aN (dset (tabT N) (.s r) (.txt k)))) _ _
    rw [dset_tabT, ← hnext]
    exact exs_nil (hQ1 _ ⟨by walk_at "sxf", by walk_at "sxf", by walk_at "sxf", by walk_at "sxf", by walk_at "sxf", by walk_at "sxf", by walk_at "sxf"⟩)
  rintro σ ⟨f1, f2, f3, f4, f5, f6, f7⟩
  rw [List.take_length] at f7
  obtain ⟨N, hN⟩ : ∃ N, names7 P = N := ⟨_, rfl⟩
  have f7 : find σ (Str.ofString "names") = some (.dict aN (tabT N)) := by rw [← hN]; exact f7
  refine exs_nil ?_
  refine Tr.freeze (x := "names") f7 rfl ?_ (by decide)
  show Exs _ (put _ _ _ (.val (.dct (tabT N)))) _ _
  ((refine exs_cons ?_); (with_reducible refine ex_assign (by assumption) ?hx_5 ?hs_5 ?_); (case hx_5 => kernel_rfl); (case hs_5 => exact swaps_no (by rfl)))
  ((with_reducible refine ev_str ?_))
  ((refine exs_cons ?_); (with_reducible refine ex_assignN (by assumption) ?hx_9 ?hs_9 ?_); (case hx_9 => kernel_rfl); (case hs_9 => exact swaps_no (by rfl)))
  refine evF_list ?_
  ((with_reducible refine evL_nil ?_))
  refine ⟨Nat.zero_le _, fun aD => ?_⟩
  refine exs_cons ?_
  refine ex_for okn ?_
  ((with_reducible refine ev_name (v := ?vv_91) (by assumption) ?hf_91 ?_ ?hn_91 ?hd_91); (case hf_91 => walk_at "sxf"); (case hn_91 => decide); (case hd_91 => decide))
  refine ⟨_, rfl, trivial, ?_⟩
  refine loop_listQ strsV tags (fun i σ => find σ (Str.ofString "keys") = some (.val (.lst (keys.map V.str))) ∧ find σ (Str.ofString "entities") = some (.val (.dct (tabV P))) ∧ find σ (Str.ofString "pairs") = some (.val (.lst (P.map prR))) ∧ find σ (Str.ofString "first") = some (.val (.lst (first7.map prR))) ∧ find σ (Str.ofString "inner") = some (.val (.lst ((inner7 P).map prR))) ∧
    find σ (Str.ofString "names") = some (.val (.dct (tabT N))) ∧ find σ (Str.ofString "doc") = some (.val (.str (doc7 ((tags.take i).map (mkTag P))))) ∧ find σ (Str.ofString "due") = some (.list aD (((tags.take i).map (mkTag P)).map tagV))) ?_ ?_ ⟨by walk_at "sxf", by walk_at "sxf", by walk_at "sxf", by walk_at "sxf", by walk_at "sxf", by walk_at "sxf", by walk_at "sxf", by walk_at "sxf"⟩ rfl
  · rintro i t σ Q1 hQ1 hx ⟨f2, f3, f4, f5, f6, f7, f8, f9⟩
    have ht := List.mem_of_getElem? hx
    have hi : i < tags.length := (List.getElem?_eq_some_iff.mp hx).1
    obtain ⟨t1, t2, t3⟩ := hT.head ht
    have hdl := doc_len hK hT i
    rw [hP] at hdl
    have hnext : doc7 ((tags.take (i + 1)).map (mkTag P)) = doc7 ((tags.take i).map (mkTag P)) ++ 60 :: tag7 (mkTag P t) := by
      unfold doc7
      rw [List.take_add_one, hx, List.map_append, List.flatMap_append]; simp
    have hnextD : ((tags.take (i + 1)).map (mkTag P)).map tagV = ((tags.take i).map (mkTag P)).map tagV ++ [tagV (mkTag P t)] := by
      rw [List.take_add_one, hx, List.map_append, List.map_append]; rfl
    generalize doc7 ((tags.take i).map (mkTag P)) = D0 at f8 hdl hnext
    have hDl : (((tags.take i).map (mkTag P)).map tagV).length ≤ 64 := by rw [List.length_map, List.length_map, List.length_take]; exact mle htl
    generalize ((tags.take i).map (mkTag P)).map tagV = DV at f9 hnextD hDl
    obtain ⟨r, hr⟩ : ∃ r, t.tail = r := ⟨_, rfl⟩
    obtain ⟨x0, hx0⟩ : ∃ x0, t.headD [] = x0 := ⟨_, rfl⟩
    rw [hr] at t2 t3
    rw [hx0] at t1
    have htne := (hT.ok t ht).1
    have htl2 := (hT.ok t ht).2.1
    have hv0 : (t.map V.str)[0]? = some (.str x0) := by
      match t, htne, hx0 with
      | a :: b, _, hx0 => rw [← hx0]; rfl
    have hvm : ∀ j, ∀ v ∈ (r.take j).map (mkVal P), (rend v.2).length ≤ 2268 := fun j v hv => by
      obtain ⟨x, hxm, rfl⟩ := List.mem_map.mp hv
      rw [← hP]
      exact (val_len hK (t3 x (List.mem_of_mem_take hxm))).1
    have hal : ∀ j, (attrs7 0 ((r.take j).map (mkVal P)) []).length ≤ 143640 := fun j => by
      have h1 := attrs_len 0 ((r.take j).map (mkVal P)) [] (by rw [List.length_map, List.length_take, Nat.zero_add]; exact Nat.lt_of_le_of_lt (mle t2) (by decide)) (hvm j)
      have h2 : ((r.take j).map (mkVal P)).length * 2280 ≤ 63 * 2280 := Nat.mul_le_mul_right _ (by rw [List.length_map, List.length_take]; exact mle t2)
      rw [List.length_nil] at h1
      exact Nat.le_trans h1 h2
    refine asg_name okn (by kernel_rfl) ?_
    refine exs_cons ?_
    refine ex_aug okn (by kernel_rfl) ?_
    refine tr_load okn (v := .str D0) (by walk_at "sxf") ?_ (by decide)
    ((with_reducible refine ev_str ?_))
    refine op_iadd_str (by show _ + 2 ≤ _; exact line _ (Nat.add_le_add_right hdl 2)) ?_
    ((refine exs_cons ?_); (with_reducible refine ex_assignN (by assumption) ?hx_10 ?hs_10 ?_); (case hx_10 => kernel_rfl); (case hs_10 => exact swaps_no (by rfl)))
    refine evF_list ?_
    ((with_reducible refine evL_nil ?_))
    refine ⟨Nat.zero_le _, fun aV => ?_⟩
    refine exs_cons ?_
    refine ex_for okn ?_
    refine ev_ofF ?_
    refine evF_slice_list ?_
    ((with_reducible refine ev_name (v := ?vv_94) (by assumption) ?hf_94 ?_ ?hn_94 ?hd_94); (case hf_94 => walk_at "sxf"); (case hn_94 => decide); (case hd_94 => decide))
    refine ⟨t.map V.str, rfl, by rw [List.length_map]; exact line 64 htl2, ?_⟩
    ((with_reducible refine evP_some ?_); (with_reducible refine ev_int ?_); (with_reducible refine exI ?_); (with_reducible refine evP_none ?_))
    intro a1
    have e1 : slc (some (1 : Int)) none (t.map V.str) = r.map V.str := by
      refine (slcL_lo (t.map V.str) 1).trans ?_
      rw [List.drop_one, ← hr, List.map_tail]
    show ∃ xs, seqOf (V.lst (slc (some (1 : Int)) none (t.map V.str))) = some xs ∧ RunOk _ (V.lst (slc (some (1 : Int)) none (t.map V.str))) ∧ _
    rw [e1]
    refine ⟨_, rfl, trivial, ?_⟩
    refine loop_listQ V.str r (fun j σ => find σ (Str.ofString "keys") = some (.val (.lst (keys.map V.str))) ∧ find σ (Str.ofString "entities") = some (.val (.dct (tabV P))) ∧ find σ (Str.ofString "pairs") = some (.val (.lst (P.map prR))) ∧ find σ (Str.ofString "first") = some (.val (.lst (first7.map prR))) ∧ find σ (Str.ofString "inner") = some (.val (.lst ((inner7 P).map prR))) ∧
      find σ (Str.ofString "names") = some (.val (.dct (tabT N))) ∧ find σ (Str.ofString "doc") = some (.val (.str (D0 ++ 60 :: 116 :: attrs7 0 ((r.take j).map (mkVal P)) []))) ∧ find σ (Str.ofString "due") = some (.list aD DV) ∧ find σ (Str.ofString "tag") = some (.val (strsV t)) ∧ find σ (Str.ofString "values") = some (.list aV (((r.take j).map (mkVal P)).map valV))) ?_ ?_ ⟨by walk_at "sxf", by walk_at "sxf", by walk_at "sxf", by walk_at "sxf", by walk_at "sxf", by walk_at "sxf", by walk_at "sxf", by walk_at "sxf", by walk_at "sxf", by walk_at "sxf"⟩ rfl
    · rintro j x σ Q2 hQ2 hx ⟨f2, f3, f4, f5, f6, f7, f8, f9, f10, f11⟩
      have hxl := t3 x (List.mem_of_getElem? hx)
      have hj : j < r.length := (List.getElem?_eq_some_iff.mp hx).1
      have hat := hal j
      have hj63 : j < 63 := Nat.lt_of_lt_of_le hj t2
      have hlj : ((r.take j).map (mkVal P)).length = j := by rw [List.length_map]; exact take_len hj
      have hnv : (r.take (j + 1)).map (mkVal P) = (r.take j).map (mkVal P) ++ [mkVal P x] := by rw [List.take_add_one, hx, List.map_append]; rfl
      obtain ⟨W0, hW0⟩ : ∃ W0, blocks7 (inner7 P) x = W0 := ⟨_, rfl⟩
      have hmk : mkVal P x = (mk7 W0, quo7 W0) := by unfold mkVal; rw [hW0]
      have hWok : OkB W0 := by rw [← hW0, ← hP]; exact (blocks_ok hK.inner x).1
      have hql : (rend (quo7 W0)).length ≤ 2268 ∧ (quo7 W0).length ≤ 378 := by
        have := val_len hK hxl
        rwa [hP, hmk] at this
      have hWl : W0.length ≤ 378 := by
        have := blocks_len (inner7 P) x
        rw [hW0] at this; exact Nat.le_trans this hxl
      have hnx : attrs7 0 ((r.take (j + 1)).map (mkVal P)) [] = attrs7 0 ((r.take j).map (mkVal P)) [] ++ (lead7 j ++ (mk7 W0 :: (rend (quo7 W0) ++ [mk7 W0]))) := by
        rw [hnv, hmk, attrs7_append, attrs7_tail, hlj, Nat.zero_add]; rfl
      have hQ : quoted7 (reps (esc7 ++ tput P own7) x) = mk7 W0 :: (rend (quo7 W0) ++ [mk7 W0]) := by
        have := quo_text hK x
        rwa [hP, hmk] at this
      have hRok : RepOkG (esc7 ++ tput P own7) x := by
        have := esc_ok hsz hK.inner (x := x) (Nat.le_trans hxl (by decide))
        rwa [← tput_own hK.nodup, hP] at this
      have hRl : (reps (esc7 ++ tput P own7) x).length * 10 ≤ 20000000 := by
        have h1 : reps (esc7 ++ tput P own7) x = rend W0 := by
          rw [← hW0, ← hP, tput_own hK.nodup]; exact esc_blocks hK.inner x
        have h2 : (rend W0).length ≤ W0.length * 6 := rend_len _ (by rw [← hW0, ← hP]; exact (blocks_ok hK.inner x).2.1)
        rw [h1]; exact Nat.le_trans (Nat.mul_le_mul_right 10 (Nat.le_trans h2 (Nat.mul_le_mul_right 6 hWl))) (by decide)
      have hnd : (ks7 P).Nodup := by rw [← hP]; exact hK.nodup
      generalize attrs7 0 ((r.take j).map (mkVal P)) [] = at0 at f8 hat hnx
      obtain ⟨Qx, hQx⟩ : ∃ Qx, mk7 W0 :: (rend (quo7 W0) ++ [mk7 W0]) = Qx := ⟨_, rfl⟩
      have hQl : Qx.length ≤ 2270 := by rw [← hQx]; simp only [List.length_cons, List.length_append, List.length_nil]; exact Nat.add_le_add_right hql.1 2
      rw [hQx] at hQ hnx
      have hdg := (dig_ok j (Nat.lt_trans hj63 (by decide))).2.1
      obtain ⟨l1, l2, _⟩ := lead7_ok (i := j) (Nat.lt_trans hj63 (by decide))
      refine asg_name okn (by kernel_rfl) ?_
      refine exs_cons ?_
      refine ex_aug okn (by kernel_rfl) ?_
      refine tr_load okn (v := .str (D0 ++ 60 :: 116 :: at0)) (by walk_at "sxf") ?_ (by decide)
      ((with_reducible refine ev_bin ?_)); ((with_reducible refine ev_bin ?_)); ((with_reducible refine ev_bin ?_)); ((with_reducible refine ev_str ?_)); ((with_reducible refine ev_fn (w := ?ww_103) (L := ?LL_103) (by assumption) ?hGG_103 ?h1_103 ?h2_103 ?hc_103 ?_ ?h3_103 ?h4_103 ?h5_103); (case hGG_103 => assumption); (case h1_103 => kernel_rfl); (case h2_103 => rfl); (case hc_103 => exact .ty); (case h3_103 => rfl); (case h4_103 => rfl); (case h5_103 => decide)); ((with_reducible refine evL_cons ?_ ?hs_104); (case hs_104 => rfl))
      refine ev_fnO okn hG (by kernel_rfl) (by rfl) .bi (by walk_at "sxf") rfl ?_ (by decide) (by decide) (by decide) (by decide) (by rfl) (by rfl)
      refine opL_len_list (by rw [List.length_map]; exact line 63 (by rw [hlj]; exact Nat.le_of_lt hj63)) ⟨_, rfl, ?_⟩
      rw [List.length_map, hlj]
      ((with_reducible refine evL_nil ?_))
      refine opL_strInt (nabs (Nat.le_of_lt hj63)) ?_
      show Op2 _ _ _ _ (V.str (dig j)) _
      refine op_add_str (by show 2 + _ ≤ _; exact line 4 (Nat.add_le_add_left hdg 2)) ?_
      ((with_reducible refine ev_str ?_))
      refine op_add_str (by rw [List.length_append]; show 2 + _ + 1 ≤ _; exact line 5 (Nat.succ_le_succ (Nat.add_le_add_left hdg 2))) ?_
      show Ev _ _ _ (fun b σ2 => Op2 _ _ _ (V.str (lead7 j)) b _)
      refine Tr.mono (Q := fun v σ' => v = .str Qx ∧ σ' = put σ (Str.ofString "value") "value" (.val (.str x))) (ev_ifexp ?_) ?_
      · refine tst_cmp ?_ (by with_unfolding_all rfl)
        ((with_reducible refine ev_name (v := ?vv_107) (by assumption) ?hf_107 ?_ ?hn_107 ?hd_107); (case hf_107 => walk_at "sxf"); (case hn_107 => decide); (case hd_107 => decide))
        refine ev_ofF ?_
        refine evF_list ?_
        ((with_reducible refine evL_nil ?_))
        refine ⟨Nat.zero_le _, fun a2 => op_eq_nil okn ?_⟩
        refine exB ⟨fun hb => ?_, fun hb => ?_⟩
        · have hk0 : keys = [] := by simpa using hb
          have hP0 : P = [] := by rw [← hP, hk0]; rfl
          rw [hP0] at hQ hRok hRl
          refine ev_fn okn hG (by kernel_rfl) (by rfl) (callee_of (fnAt_of (a := 39) I.hF (by rfl) (by rfl) (by rfl) (by rfl) (by rfl) (by rfl) (by rfl) (by rfl) (by rfl))) ?_ (by rfl) (by rfl) (by decide)
          ((with_reducible refine evL_cons ?_ ?hs_109); (case hs_109 => rfl); (with_reducible refine ev_name (v := ?vv_110) (by assumption) ?hf_110 ?_ ?hn_110 ?hd_110); (case hf_110 => walk_at "sxf"); (case hn_110 => decide); (case hd_110 => decide); (with_reducible refine evL_nil ?_))
          refine OpL.eq (c_quoteattr1 (n := n + 9) okn ⟨I.hF, I.hG⟩ hRok rfl hRl) ⟨?_, rfl⟩
          rw [← hQ]; rfl
        · refine ev_fn okn hG (by kernel_rfl) (by rfl) (callee_of (fnAt_of (a := 39) I.hF (by rfl) (by rfl) (by rfl) (by rfl) (by rfl) (by rfl) (by rfl) (by rfl) (by rfl))) ?_ (by rfl) (by rfl) (by decide)
          ((with_reducible refine evL_cons ?_ ?hs_112); (case hs_112 => rfl); (with_reducible refine ev_name (v := ?vv_113) (by assumption) ?hf_113 ?_ ?hn_113 ?hd_113); (case hf_113 => walk_at "sxf"); (case hn_113 => decide); (case hd_113 => decide); (with_reducible refine evL_cons ?_ ?hs_114); (case hs_114 => rfl); (with_reducible refine ev_name (v := ?vv_115) (by assumption) ?hf_115 ?_ ?hn_115 ?hd_115); (case hf_115 => walk_at "sxf"); (case hn_115 => decide); (case hd_115 => decide); (with_reducible refine evL_nil ?_))
          refine OpL.eq (c_quoteattr (n := n + 9) okn ⟨I.hF, I.hG⟩ hnd hRok (line 73 (Nat.add_le_add_right hPk 10)) rfl hRl) ⟨?_, rfl⟩
          rw [← hQ]; rfl
      rintro v σ' ⟨rfl, rfl⟩
      refine op_add_str (line 2275 (Nat.add_le_add l1 hQl)) ?_
      refine op_iadd_str (by rw [List.length_append, List.length_append, List.length_cons, List.length_cons]; exact line _ (Nat.add_le_add (Nat.add_le_add hdl (Nat.add_le_add_right hat 2)) (Nat.add_le_add l1 hQl))) ?_
      have eD : D0 ++ 60 :: 116 :: at0 ++ (lead7 j ++ Qx) = D0 ++ 60 :: 116 :: attrs7 0 ((r.take (j + 1)).map (mkVal P)) [] := by
        rw [hnx]; simp
      rw [eD]
      ((refine exs_cons ?_); (with_reducible refine ex_assign (by assumption) ?hx_6 ?hs_6 ?_); (case hx_6 => kernel_rfl); (case hs_6 => exact swaps_no (by rfl)))
      refine ev_fn okn hG (by kernel_rfl) (by rfl) (callee_of (fnAt_of (a := 49) I.hF (by rfl) (by rfl) (by rfl) (by rfl) (by rfl) (by rfl) (by rfl) (by rfl) (by rfl))) ?_ (by rfl) (by rfl) (by decide)
      ((with_reducible refine evL_cons ?_ ?hs_117); (case hs_117 => rfl)); ((with_reducible refine ev_name (v := ?vv_118) (by assumption) ?hf_118 ?_ ?hn_118 ?hd_118); (case hf_118 => walk_at "sxf"); (case hn_118 => decide); (case hd_118 => decide)); ((with_reducible refine evL_cons ?_ ?hs_119); (case hs_119 => rfl))
      refine ev_ofF ?_
      refine evF_bin ?_
      ((with_reducible refine ev_name (v := ?vv_120) (by assumption) ?hf_120 ?_ ?hn_120 ?hd_120); (case hf_120 => walk_at "sxf"); (case hn_120 => decide); (case hd_120 => decide); (with_reducible refine ev_name (v := ?vv_121) (by assumption) ?hf_121 ?_ ?hn_121 ?hd_121); (case hf_121 => walk_at "sxf"); (case hn_121 => decide); (case hd_121 => decide))
      refine opF_add_list (by rw [List.length_map, List.length_map]; exact line 69 (Nat.add_le_add (Nat.le_of_eq hF3) hIl)) fun a12 => ?_
      ((with_reducible refine evL_nil ?_))
      show OpL _ _ _ [V.str x, V.lst (first7.map prR ++ (inner7 P).map prR)] _
      rw [← List.map_append]
      refine OpL.eq (c_owned (n := n + 10) okn ⟨I.hF, I.hG⟩ (Nat.le_trans hxl (by decide)) (by rw [← hP]; exact (rules3 hK).2) (by rw [List.length_append]; exact Nat.le_trans (Nat.add_le_add (Nat.le_of_eq hF3) hIl) (by decide))) ?_
      show Exs _ (put _ _ _ (.val (.lst (((blocks7 (inner7 P) x).map partB).map prK)))) _ _
      rw [hW0]
      obtain ⟨A1, hA1⟩ : ∃ A1, attrs7 0 ((r.take (j + 1)).map (mkVal P)) [] = A1 := ⟨_, rfl⟩
      rw [hA1]
      refine exs_cons ?_
      refine Tr.mono (Q := fun fl σ => fl = .next ∧ find σ (Str.ofString "keys") = some (.val (.lst (keys.map V.str))) ∧ find σ (Str.ofString "entities") = some (.val (.dct (tabV P))) ∧ find σ (Str.ofString "pairs") = some (.val (.lst (P.map prR))) ∧ find σ (Str.ofString "first") = some (.val (.lst (first7.map prR))) ∧ find σ (Str.ofString "inner") = some (.val (.lst ((inner7 P).map prR))) ∧
        find σ (Str.ofString "names") = some (.val (.dct (tabT N))) ∧ find σ (Str.ofString "doc") = some (.val (.str (D0 ++ 60 :: 116 :: A1))) ∧ find σ (Str.ofString "due") = some (.list aD DV) ∧ find σ (Str.ofString "tag") = some (.val (strsV t)) ∧ find σ (Str.ofString "values") = some (.list aV (((r.take j).map (mkVal P)).map valV)) ∧
        find σ (Str.ofString "parts") = some (.val (.lst ((W0.map partB).map prK))) ∧ find σ (Str.ofString "mark") = some (.val (.str [mk7 W0]))) (ex_assign okn (by kernel_rfl) (swaps_no (by rfl)) ?_) ?_
      · refine ev_ifexp ?_
        refine tst_bool ?_
        refine allT_and ?_
        refine tst_cmp ?_ (by with_unfolding_all rfl)
        refine ev_tuple ?_
        ((with_reducible refine evL_cons ?_ ?hs_123); (case hs_123 => rfl); (with_reducible refine ev_str ?_); (with_reducible refine evL_cons ?_ ?hs_125); (case hs_125 => rfl); (with_reducible refine ev_str ?_); (with_reducible refine evL_nil ?_))
        refine ⟨szc 2, ?_⟩
        ((with_reducible refine ev_name (v := ?vv_128) (by assumption) ?hf_128 ?_ ?hn_128 ?hd_128); (case hf_128 => walk_at "sxf"); (case hn_128 => decide); (case hd_128 => decide))
        refine (in_prKs okn (weak_K ([], [34]))).1 ?_
        refine exB ⟨fun hb1 => ?_, fun hb1 => ⟨fun q => (nomatch q), fun _ => ?_⟩⟩
        · have h34 : .f 34 ∈ W0 := (part_free hWok 34).mp (of_decide_eq_true hb1)
          refine allT_and ?_
          refine tst_cmp ?_ (by with_unfolding_all rfl)
          refine ev_tuple ?_
          ((with_reducible refine evL_cons ?_ ?hs_129); (case hs_129 => rfl); (with_reducible refine ev_str ?_); (with_reducible refine evL_cons ?_ ?hs_131); (case hs_131 => rfl); (with_reducible refine ev_str ?_); (with_reducible refine evL_nil ?_))
          refine ⟨szc 2, ?_⟩
          ((with_reducible refine ev_name (v := ?vv_134) (by assumption) ?hf_134 ?_ ?hn_134 ?hd_134); (case hf_134 => walk_at "sxf"); (case hn_134 => decide); (case hd_134 => decide))
          refine (in_prKs okn (weak_K ([], [39]))).2 ?_
          refine exB ⟨fun hb2 => ?_, fun hb2 => ⟨fun q => (nomatch q), fun _ => ?_⟩⟩
          · have h39 : .f 39 ∉ W0 := fun q => by rw [decide_eq_true ((part_free hWok 39).mpr q)] at hb2; cases hb2
            have hm : mk7 W0 = 39 := by unfold mk7; rw [if_pos ⟨h34, h39⟩]
            refine allT_and_nil ⟨fun _ => ?_, fun q => (nomatch q)⟩
            rw [hm]
            ((with_reducible refine ev_str ?_))
            exact ⟨rfl, by walk_at "sxf", by walk_at "sxf", by walk_at "sxf", by walk_at "sxf", by walk_at "sxf", by walk_at "sxf", by walk_at "sxf", by walk_at "sxf", by walk_at "sxf", by walk_at "sxf", by walk_at "sxf", by walk_at "sxf"⟩
          · have h39 : .f 39 ∈ W0 := by
              by_cases q : .f 39 ∈ W0
              · exact q
              · rw [decide_eq_false (fun h => q ((part_free hWok 39).mp h))] at hb2; cases hb2
            have hm : mk7 W0 = 34 := by unfold mk7; rw [if_neg (fun q => q.2 h39)]
            rw [hm]
            ((with_reducible refine ev_str ?_))
            exact ⟨rfl, by walk_at "sxf", by walk_at "sxf", by walk_at "sxf", by walk_at "sxf", by walk_at "sxf", by walk_at "sxf", by walk_at "sxf", by walk_at "sxf", by walk_at "sxf", by walk_at "sxf", by walk_at "sxf", by walk_at "sxf"⟩
        · have h34 : .f 34 ∉ W0 := fun q => by rw [decide_eq_true ((part_free hWok 34).mpr q)] at hb1; cases hb1
          have hm : mk7 W0 = 34 := by unfold mk7; rw [if_neg (fun q => h34 q.1)]
          rw [hm]
          ((with_reducible refine ev_str ?_))
          exact ⟨rfl, by walk_at "sxf", by walk_at "sxf", by walk_at "sxf", by walk_at "sxf", by walk_at "sxf", by walk_at "sxf", by walk_at "sxf", by walk_at "sxf", by walk_at "sxf", by walk_at "sxf", by walk_at "sxf", by walk_at "sxf"⟩
      rintro fl σ ⟨rfl, f2, f3, f4, f5, f6, f7, f8, f9, f10, f11, f12, f13⟩
      show Exs _ σ _ _
      ((refine exs_cons ?_); (with_reducible refine ex_append (a := ?aa_16) (vs := ?vs_16) (by assumption) ?hf_16 ?_ ?d1_16 ?d2_16 ?d3_16 ?r1_16 ?r2_16 ?r3_16 ?r4_16 ?r5_16); (case hf_16 => walk_at "sxf"); (case d1_16 => decide); (case d2_16 => decide); (case d3_16 => decide); (case r1_16 => rfl); (case r2_16 => rfl); (case r3_16 => rfl); (case r4_16 => rfl); (case r5_16 => rfl))
      refine ev_tuple ?_
      ((with_reducible refine evL_cons ?_ ?hs_138); (case hs_138 => rfl)); ((with_reducible refine ev_name (v := ?vv_139) (by assumption) ?hf_139 ?_ ?hn_139 ?hd_139); (case hf_139 => walk_at "sxf"); (case hn_139 => decide); (case hd_139 => decide)); ((with_reducible refine evL_cons ?_ ?hs_140); (case hs_140 => rfl))
      refine ev_ofF ?_
      refine evF_listComp okn (fv := ["mark"]) (compOk_of (by kernel_rfl)) ?_
      ((with_reducible refine ev_name (v := ?vv_141) (by assumption) ?hf_141 ?_ ?hn_141 ?hd_141); (case hf_141 => walk_at "sxf"); (case hn_141 => decide); (case hd_141 => decide))
      refine ⟨_, rfl, trivial, by rw [List.length_map, List.length_map]; exact line 378 hWl, fun cl L' okc => ?_⟩
      refine lloop_map (fun σ => find σ (Str.ofString "mark") = some (.val (.str [mk7 W0]))) (quoV (mk7 W0)) _ _ _ (find_cap1 (by simp) f13) ?_ ?_
      · rintro y hy σ j1
        obtain ⟨p, hp, rfl⟩ := List.mem_map.mp hy
        refine asg_name okc (by kernel_rfl) ?_
        refine ev_ifexp ?_
        refine tst_cmp ?_ (by with_unfolding_all rfl)
        ((with_reducible refine ev_name (v := ?vv_142) (by assumption) ?hf_142 ?_ ?hn_142 ?hd_142); (case hf_142 => walk_at "sxf"); (case hn_142 => decide); (case hd_142 => decide))
        refine ev_tuple ?_
        ((with_reducible refine evL_cons ?_ ?hs_143); (case hs_143 => rfl); (with_reducible refine ev_str ?_); (with_reducible refine evL_cons ?_ ?hs_145); (case hs_145 => rfl); (with_reducible refine ev_name (v := ?vv_146) (by assumption) ?hf_146 ?_ ?hn_146 ?hd_146); (case hf_146 => walk_at "sxf"); (case hn_146 => decide); (case hd_146 => decide); (with_reducible refine evL_nil ?_))
        refine ⟨szc 2, ?_⟩
        refine op_eq_prK okc (q := p) (weak_K ([], [mk7 W0])) ?_
        refine exB ⟨fun hb => ?_, fun hb => ?_⟩
        · refine Tr.weak (ev_tuple ?_)
          ((with_reducible refine evL_cons ?_ ?hs_148); (case hs_148 => rfl); (with_reducible refine ev_str ?_); (with_reducible refine evL_cons ?_ ?hs_150); (case hs_150 => rfl); (with_reducible refine ev_name (v := ?vv_151) (by assumption) ?hf_151 ?_ ?hn_151 ?hd_151); (case hf_151 => walk_at "sxf"); (case hn_151 => decide); (case hd_151 => decide); (with_reducible refine evL_nil ?_))
          refine ⟨szc 2, _, weak_K (lit "&quot;", [mk7 W0]), ?_, by walk_at "sxf"⟩
          have hb := of_decide_eq_true hb
          subst hb
          show _ = if (([], [mk7 W0]) : S × S) = ([], [mk7 W0]) then prK (lit "&quot;", [mk7 W0]) else _
          rw [if_pos rfl]
        · ((with_reducible refine ev_name (v := ?vv_153) (by assumption) ?hf_153 ?_ ?hn_153 ?hd_153); (case hf_153 => walk_at "sxf"); (case hn_153 => decide); (case hd_153 => decide))
          refine ⟨?_, by walk_at "sxf"⟩
          have hb := of_decide_eq_false hb
          obtain ⟨a, b⟩ := p
          show _ = if ((a, b) : S × S) = ([], [mk7 W0]) then prK (lit "&quot;", [mk7 W0]) else _
          rw [if_neg hb]
      intro a15
      rw [List.nil_append, quoV_eq, ← quo_part hWok]
      ((with_reducible refine evL_nil ?_))
      refine ⟨szc 2, ?_⟩
      refine ⟨((r.take j).map (mkVal P)).map valV, by walk_at "sxf", by rw [List.length_map]; exact line 63 (by rw [hlj]; exact Nat.le_of_lt hj63), ?_⟩
      have eV : ((r.take j).map (mkVal P)).map valV ++ [V.tup [.str [mk7 W0], .lst (((quo7 W0).map partB).map prK)]] = ((r.take (j + 1)).map (mkVal P)).map valV := by
        rw [hnv, List.map_append, hmk]; rfl
      show Exs _ (put _ _ _ (.list aV (((r.take j).map (mkVal P)).map valV ++ [V.tup [.str [mk7 W0], .lst (((quo7 W0).map partB).map prK)]]))) _ _
      rw [eV]
      exact exs_nil (hQ2 _ ⟨by walk_at "sxf", by walk_at "sxf", by walk_at "sxf", by walk_at "sxf", by walk_at "sxf", by walk_at "sxf", by rw [hA1]; walk_at "sxf", by walk_at "sxf", by walk_at "sxf", by walk_at "sxf"⟩)
    · rintro σ ⟨f2, f3, f4, f5, f6, f7, f8, f9, f10, f11⟩
      rw [List.take_length] at f8 f11
      have hat := hal r.length
      rw [List.take_length] at hat
      obtain ⟨at0, hat0⟩ : ∃ at0, attrs7 0 (r.map (mkVal P)) [] = at0 := ⟨_, rfl⟩
      rw [hat0] at f8 hat
      obtain ⟨E, hE0⟩ : ∃ E, rend (blocks7 P x0) = E := ⟨_, rfl⟩
      have hE : reps (esc7 ++ P) x0 = E := by rw [← hE0, ← hP]; exact esc_blocks hK.good x0
      have hEl : E.length ≤ 2268 := by rw [← hE0, ← hP]; exact (text_len hK t1).1
      have hEok : RepOkG (esc7 ++ P) x0 := by rw [← hP]; exact esc_ok hsz hK.good (Nat.le_trans t1 (by decide))
      refine exs_nil ?_
      refine exs_cons ?_
      refine ex_aug okn (by kernel_rfl) ?_
      refine tr_load okn (v := .str (D0 ++ 60 :: 116 :: at0)) (by walk_at "sxf") ?_ (by decide)
      ((with_reducible refine ev_bin ?_)); ((with_reducible refine ev_str ?_))
      refine Tr.mono (Q := fun v σ' => v = .str E ∧ σ' = σ) (ev_ifexp ?_) ?_
      · refine tst_cmp ?_ (by with_unfolding_all rfl)
        ((with_reducible refine ev_name (v := ?vv_157) (by assumption) ?hf_157 ?_ ?hn_157 ?hd_157); (case hf_157 => walk_at "sxf"); (case hn_157 => decide); (case hd_157 => decide))
        refine ev_ofF ?_
        refine evF_list ?_
        ((with_reducible refine evL_nil ?_))
        refine ⟨Nat.zero_le _, fun a2 => op_eq_nil okn ?_⟩
        refine exB ⟨fun hb => ?_, fun hb => ?_⟩
        · have hk0 : keys = [] := by simpa using hb
          have hP0 : P = [] := by rw [← hP, hk0]; rfl
          rw [hP0, List.append_nil] at hE hEok
          refine ev_fn okn hG (by kernel_rfl) (by rfl) (callee_of (fnAt_of (a := 30) I.hF (by rfl) (by rfl) (by rfl) (by rfl) (by rfl) (by rfl) (by rfl) (by rfl) (by rfl))) ?_ (by rfl) (by rfl) (by decide)
          ((with_reducible refine evL_cons ?_ ?hs_159); (case hs_159 => rfl); (with_reducible refine ev_sub ?_ ?hs_160); (case hs_160 => (intro _ _; rfl)); (with_reducible refine ev_name (v := ?vv_161) (by assumption) ?hf_161 ?_ ?hn_161 ?hd_161); (case hf_161 => walk_at "sxf"); (case hn_161 => decide); (case hd_161 => decide); (with_reducible refine ev_int ?_))
          refine item_list (i := 0) (by rw [List.length_map]; exact line 64 htl2) hv0 ?_
          ((with_reducible refine evL_nil ?_))
          refine OpL.eq (c_escape1 (n := n + 10) okn ⟨I.hF, I.hG⟩ hEok) ⟨?_, rfl⟩
          rw [← hE]; rfl
        · refine ev_fn okn hG (by kernel_rfl) (by rfl) (callee_of (fnAt_of (a := 30) I.hF (by rfl) (by rfl) (by rfl) (by rfl) (by rfl) (by rfl) (by rfl) (by rfl) (by rfl))) ?_ (by rfl) (by rfl) (by decide)
          ((with_reducible refine evL_cons ?_ ?hs_164); (case hs_164 => rfl); (with_reducible refine ev_sub ?_ ?hs_165); (case hs_165 => (intro _ _; rfl)); (with_reducible refine ev_name (v := ?vv_166) (by assumption) ?hf_166 ?_ ?hn_166 ?hd_166); (case hf_166 => walk_at "sxf"); (case hn_166 => decide); (case hd_166 => decide); (with_reducible refine ev_int ?_))
          refine item_list (i := 0) (by rw [List.length_map]; exact line 64 htl2) hv0 ?_
          ((with_reducible refine evL_cons ?_ ?hs_168); (case hs_168 => rfl); (with_reducible refine ev_name (v := ?vv_169) (by assumption) ?hf_169 ?_ ?hn_169 ?hd_169); (case hf_169 => walk_at "sxf"); (case hn_169 => decide); (case hd_169 => decide); (with_reducible refine evL_nil ?_))
          refine OpL.eq (c_escape (n := n + 10) okn ⟨I.hF, I.hG⟩ hEok (line 63 hPk)) ⟨?_, rfl⟩
          rw [← hE]; rfl
      rintro v σ' ⟨rfl, rfl⟩
      refine op_add_str (by show 1 + _ ≤ _; exact line 2269 (Nat.add_le_add_left hEl 1)) ?_
      refine op_iadd_str (by rw [List.length_append, List.length_append, List.length_cons, List.length_cons]; show _ + (1 + _) ≤ _; exact line _ (Nat.add_le_add (Nat.add_le_add hdl (Nat.add_le_add_right hat 2)) (Nat.add_le_add_left hEl 1))) ?_
      have eD : D0 ++ 60 :: 116 :: at0 ++ (lit ">" ++ E) = doc7 ((tags.take (i + 1)).map (mkTag P)) := by
        rw [hnext]
        have : tag7 (mkTag P t) = 116 :: (at0 ++ 62 :: E) := by
          unfold tag7
          rw [show (mkTag P t).2 = r.map (mkVal P) by rw [← hr]; rfl, show (mkTag P t).1 = blocks7 P x0 by rw [← hx0]; rfl, attrs7_tail, hat0, hE0]
        rw [this]
        simp [lit]
      rw [eD]
      refine Tr.freeze (x := "values") (by walk_at "sxf") rfl ?_ (by decide)
      show Exs _ (put _ _ _ (.val (.lst ((r.map (mkVal P)).map valV)))) _ _
      ((refine exs_cons ?_); (with_reducible refine ex_append (a := ?aa_17) (vs := ?vs_17) (by assumption) ?hf_17 ?_ ?d1_17 ?d2_17 ?d3_17 ?r1_17 ?r2_17 ?r3_17 ?r4_17 ?r5_17); (case hf_17 => walk_at "sxf"); (case d1_17 => decide); (case d2_17 => decide); (case d3_17 => decide); (case r1_17 => rfl); (case r2_17 => rfl); (case r3_17 => rfl); (case r4_17 => rfl); (case r5_17 => rfl))
      refine ev_ofF ?_
      refine evF_bin ?_
      refine ev_ofF ?_
      refine evF_list ?_
      ((with_reducible refine evL_cons ?_ ?hs_171); (case hs_171 => rfl))
      refine ev_fn okn hG (by kernel_rfl) (by rfl) (callee_of (fnAt_of (a := 49) I.hF (by rfl) (by rfl) (by rfl) (by rfl) (by rfl) (by rfl) (by rfl) (by rfl) (by rfl))) ?_ (by rfl) (by rfl) (by decide)
      ((with_reducible refine evL_cons ?_ ?hs_172); (case hs_172 => rfl); (with_reducible refine ev_sub ?_ ?hs_173); (case hs_173 => (intro _ _; rfl)); (with_reducible refine ev_name (v := ?vv_174) (by assumption) ?hf_174 ?_ ?hn_174 ?hd_174); (case hf_174 => walk_at "sxf"); (case hn_174 => decide); (case hd_174 => decide); (with_reducible refine ev_int ?_))
      refine item_list (i := 0) (by rw [List.length_map]; exact line 64 htl2) hv0 ?_
      ((with_reducible refine evL_cons ?_ ?hs_176); (case hs_176 => rfl))
      refine ev_ofF ?_
      refine evF_bin ?_
      ((with_reducible refine ev_name (v := ?vv_177) (by assumption) ?hf_177 ?_ ?hn_177 ?hd_177); (case hf_177 => walk_at "sxf"); (case hn_177 => decide); (case hd_177 => decide); (with_reducible refine ev_name (v := ?vv_178) (by assumption) ?hf_178 ?_ ?hn_178 ?hd_178); (case hf_178 => walk_at "sxf"); (case hn_178 => decide); (case hd_178 => decide))
      refine opF_add_list (by rw [List.length_map, List.length_map]; exact line 66 (Nat.add_le_add (Nat.le_of_eq hF3) hPk)) fun a12 => ?_
      ((with_reducible refine evL_nil ?_))
      show OpL _ _ _ [V.str x0, V.lst (first7.map prR ++ P.map prR)] _
      rw [← List.map_append]
      refine OpL.eq (c_owned (n := n + 10) okn ⟨I.hF, I.hG⟩ (Nat.le_trans t1 (by decide)) (by rw [← hP]; exact (rules3 hK).1) (by rw [List.length_append]; exact Nat.le_trans (Nat.add_le_add (Nat.le_of_eq hF3) hPk) (by decide))) ?_
      ((with_reducible refine evL_nil ?_))
      refine ⟨szc 1, fun a13 => ?_⟩
      ((with_reducible refine ev_name (v := ?vv_181) (by assumption) ?hf_181 ?_ ?hn_181 ?hd_181); (case hf_181 => walk_at "sxf"); (case hn_181 => decide); (case hd_181 => decide))
      refine opF_add_list (by rw [List.length_map, List.length_map]; show 1 + _ ≤ _; exact line 64 (Nat.add_le_add_left t2 1)) fun a14 => ?_
      refine ⟨DV, by walk_at "sxf", line 64 hDl, ?_⟩
      have eV : DV ++ [V.lst ([V.lst (((ownB (first7 ++ P) (x0.map Bk.f)).map partB).map prK)] ++ (r.map (mkVal P)).map valV)] = ((tags.take (i + 1)).map (mkTag P)).map tagV := by
        rw [hnextD]
        congr 2
        show _ = V.lst (partsV (mkTag P t).1 :: ((mkTag P t).2).map valV)
        rw [show (mkTag P t).2 = r.map (mkVal P) by rw [← hr]; rfl, show (mkTag P t).1 = blocks7 P x0 by rw [← hx0]; rfl]; rfl
      show Exs _ (put _ _ _ (.list aD (DV ++ [V.lst ([V.lst (((ownB (first7 ++ P) (x0.map Bk.f)).map partB).map prK)] ++ (r.map (mkVal P)).map valV)]))) _ _
      rw [eV]
      exact exs_nil (hQ1 _ ⟨by walk_at "sxf", by walk_at "sxf", by walk_at "sxf", by walk_at "sxf", by walk_at "sxf", by walk_at "sxf", by walk_at "sxf", by walk_at "sxf"⟩)
  · rintro σ ⟨f2, f3, f4, f5, f6, f7, f8, f9⟩
    rw [List.take_length] at f8 f9
    refine exs_nil ?_
    refine Tr.freeze (x := "due") f9 rfl ?_ (by decide)
    show Exs _ (put _ _ _ (.val (.lst ((tags.map (mkTag P)).map tagV)))) _ _
    ((refine exs_cons ?_); (with_reducible refine ex_return ?_))
    refine ev_and2 ?_
    refine ev_cmp ?_ (by with_unfolding_all rfl)
    refine ev_fn okn hG (by kernel_rfl) (by rfl) (callee_of (fnAt_of (a := 63) I.hF (by rfl) (by rfl) (by rfl) (by rfl) (by rfl) (by rfl) (by rfl) (by rfl) (by rfl))) ?_ (by rfl) (by rfl) (by decide)
    ((with_reducible refine evL_cons ?_ ?hs_182); (case hs_182 => rfl); (with_reducible refine ev_name (v := ?vv_183) (by assumption) ?hf_183 ?_ ?hn_183 ?hd_183); (case hf_183 => walk_at "sxf"); (case hn_183 => decide); (case hd_183 => decide); (with_reducible refine evL_cons ?_ ?hs_184); (case hs_184 => rfl); (with_reducible refine ev_name (v := ?vv_185) (by assumption) ?hf_185 ?_ ?hn_185 ?hd_185); (case hf_185 => walk_at "sxf"); (case hn_185 => decide); (case hd_185 => decide); (with_reducible refine evL_nil ?_))
    refine OpL.eq (c_read (n := n + 8) okn ⟨I.hF, I.hG⟩ (fun t ht => ?_) (fun e => hT.ne (List.map_eq_nil_iff.mp e)) ?_) ?_
    · obtain ⟨t', ht', rfl⟩ := List.mem_map.mp ht
      rw [← hN, ← hP]
      exact read_ok hK hT ht'
    · have := doc_len hK hT tags.length
      rw [List.take_length, hP] at this
      exact Nat.le_trans this (by decide)
    ((with_reducible refine ev_name (v := ?vv_187) (by assumption) ?hf_187 ?_ ?hn_187 ?hd_187); (case hf_187 => walk_at "sxf"); (case hn_187 => decide); (case hd_187 => decide))
    refine op_eq_alike okn (n := 4) (by decide) (alike_tags _) ⟨_, rfl, fun _ => ?_, fun q => (nomatch q)⟩
    refine ev_cmp ?_ (by with_unfolding_all rfl)
    refine ev_ofF ?_
    refine evF_fn okn hG (by kernel_rfl) (by rfl) .ty ?_ (by rfl) (by rfl) (by decide)
    ((with_reducible refine evL_cons ?_ ?hs_188); (case hs_188 => rfl); (with_reducible refine ev_meth ?_ ?h1_189 ?h2_189 ?h3_189 ?h4_189); (case h1_189 => rfl); (case h2_189 => rfl); (case h3_189 => rfl); (case h4_189 => rfl); (with_reducible refine ev_name (v := ?vv_190) (by assumption) ?hf_190 ?_ ?hn_190 ?hd_190); (case hf_190 => walk_at "sxf"); (case hn_190 => decide); (case hd_190 => decide); (with_reducible refine ⟨_, _, methOk_dct PySem.F.slot_dict_items PySem.F.type_dict_items, ?_⟩); (with_reducible refine evL_nil ?_); (with_reducible refine opL_items ?_); (with_reducible refine evL_nil ?_))
    refine opF_listItems okn (es := tabV P) (by rw [tabV_length]; exact line 63 hPk) fun a6 => ?_
    rw [items_R]
    ((with_reducible refine ev_name (v := ?vv_195) (by assumption) ?hf_195 ?_ ?hn_195 ?hd_195); (case hf_195 => walk_at "sxf"); (case hn_195 => decide); (case hd_195 => decide))
    exact op_eq_alike okn (n := 1) (by decide) (alikeL_prR P) (hQ _)
theorem lookup_mem {l : List (String × Value)} {x : String} {v : Value} (h : l.lookup x = some v) : (x, v) ∈ l := by
  induction l with
  | nil => cases h
  | cons p r ih =>
    obtain ⟨y, u⟩ := p
    rw [List.lookup_cons] at h
    split at h
    · rename_i hb
      have hb := eq_of_beq hb
      injection h with h
      subst hb; subst h
      exact List.mem_cons_self
    · exact List.mem_cons_of_mem _ (ih h)
theorem ints_rep {W : Wd} {g : PH} {vs : List Value} {ns : List Int} (h : IntsAre vs ns) : RepL W g (ns.map V.int) vs := by
  induction h with
  | nil => exact .nil
  | cons n t _ ih => exact .cons (.int n t) ih
set_option maxHeartbeats 8000000 in
theorem join07 : PySem.Challenge.rw_kp0118_07.Holds := by
  rw [rw_eq07]
  w_on
  o_law
  o_head (kHook K07 [2, 3, 20, 21, 22, 23, 29, 30, 31, 32, 38, 39, 43, 44, 48, 49, 55, 56, 62, 63, 67, 68] (fun _ => by kernel_rfl))
  (case hw => w_witness2)
  intro w s₀ s₁ mg mb G Y fa o pm cd doc dV kV ho hd hcd hD hmg hg args vals as hpre hlay hrd hwl hlo
  have KX := kIn_of Y
  refine Ground.open G ?_
  intro T B D TE TW
  have h1 : mg "law" = some (.ref 68) := mg_of KX T.g (by kernel_rfl)
  have hfa : fa = 68 := by
    have h2 := h1.symm.trans hmg
    injection h2 with h2; injection h2 with h2; exact h2.symm
  clear hd hmg hD hcd
  subst hfa
  have hdo : (Wd.mk r07.row.prog w s₁.heap [("dict_replace_saxutils", .ref 21), ("escape", .ref 30), ("quoteattr", .ref 39), ("_law_drawn", .ref 44), ("_law_owned", .ref 49), ("_law_noted", .ref 56), ("_law_read", .ref 63), ("chr", .builtin "chr"), ("len", .builtin "len"), ("range", .type "range"), ("str", .type "str"), ("list", .type "list")]).Ok := by
    refine ⟨?_, T.nolimit, mg, mb, T.g, T.b, ?_⟩
    · obtain ⟨mm, hm, _⟩ := (T.seer (by rfl)).mods
      obtain ⟨o, es, ep, ho, _⟩ := hm
      show (s₁.heap.get? sysModules).isSome = true
      rw [ho]; rfl
    · intro x v hx
      have hx := lookup_mem hx
      simp only [List.mem_cons, List.not_mem_nil, or_false, Prod.mk.injEq] at hx
      rcases hx with ⟨rfl, rfl⟩ | ⟨rfl, rfl⟩ | ⟨rfl, rfl⟩ | ⟨rfl, rfl⟩ | ⟨rfl, rfl⟩ | ⟨rfl, rfl⟩ | ⟨rfl, rfl⟩ | ⟨rfl, rfl⟩ | ⟨rfl, rfl⟩ | ⟨rfl, rfl⟩ | ⟨rfl, rfl⟩ | ⟨rfl, rfl⟩
      iterate 7 (exact .inl (mg_of KX T.g (by kernel_rfl)))
      iterate 5 (exact .inr ⟨mg_none_of KX T.g (by kernel_rfl), by rw [T.builtins _ (by decide)]; rfl⟩)
  clear T B D TE TW Y G
  wrow_args hpre hlay hrd hwl hlo
  rename_i sc _ _ _ _ _ _ _ a xs _ hL _ w1 r0 hI _ hc _
  have hsc : sc.length ≤ 63 := by omega
  have fn : FnAt (Wd.mk r07.row.prog w s₁.heap [("dict_replace_saxutils", .ref 21), ("escape", .ref 30), ("quoteattr", .ref 39), ("_law_drawn", .ref 44), ("_law_owned", .ref 49), ("_law_noted", .ref 56), ("_law_read", .ref 63), ("chr", .builtin "chr"), ("len", .builtin "len"), ("range", .type "range"), ("str", .type "str"), ("list", .type "list")]) 68 (fdAt (F07 w) 68) (bdAt (F07 w) 68) :=
    fnAt_of (a := 68) KX (by rfl) (by rfl) (by rfl) (by rfl) (by rfl) (by rfl) (by rfl) (by rfl) (by rfl)
  have hu : callerA.units + 3 + 3 * 14 + 100 ≤ 9000 := by decide
  refine fn_call0 (n := 14) (p := "script") (v := .lst (sc.map V.int)) hdo rfl (by decide) (by decide) fn rfl ?_ ?_ (by rfl) (by rfl) ?_ ?_
  · have hb : BindsTo s₁ (fdAt (F07 w) 68) ⟨[Value.ref a], []⟩ ((["script"].map Str.ofString).zip ([Value.ref a] ++ [])) := binds_plain (fd := fdAt (F07 w) 68) (ps := ["script"]) (n := 1) (fun ws hl => by
      obtain ⟨a, rfl⟩ := len1 hl
      rfl) s₁ [Value.ref a] rfl
    exact hb
  · obtain ⟨o2, ho2, hc2, n2, hd2⟩ := hL
    cases w1 with
    | list hw _ =>
      have e := ho2.symm.trans hw
      injection e with e
      subst e
      exact .lst ho2 hc2 rfl hd2 (ints_rep hI)
  · intro A L q cd okn
    exact walk07 (n := 2) okn ⟨KX, rfl⟩ hsc
  · rintro s' ⟨h', tk, rfl⟩ hk
    refine ⟨.inl ⟨.bool true, .bool true, [], rfl, raisesW_false ?_, .bool true, ?_, unshared_nil⟩, .of_keep hk, rfl, .of_eq hg⟩
    · wrow_none_raised
    · wrow_post
end Sx
end
theorem PySem.Challenge.cw_kp0118_07_holds : PySem.Challenge.rw_kp0118_07.Holds := by
  exact Sx.join07
