import PyProof.Rows.All
import Wide.All
import OpenK.AllK
import Wide.FinOn
import Lean
import PySem.Challenge.RW_kp0118_02
set_option Elab.async false
set_option maxRecDepth 100000
set_option genSizeOf false
set_option compiler.extract_closed false
section
open PySem PySem.W PyProof.Rows
set_option Elab.async false
set_option maxRecDepth 100000
namespace Sx

/-! ## values -/
noncomputable abbrev S := List Nat
noncomputable abbrev lit (s : String) : S := s.toList.map Char.toNat
noncomputable def mkS (l : S) : Str := ⟨l.toArray⟩

inductive Key where
  | s (l : S)
  | i (n : Int)
  deriving DecidableEq

inductive V where
  | none
  | bool (b : Bool)
  | int (i : Int)
  | str (l : S)
  | txt (l : S)
  | bytes (b : Array UInt8)
  | tup (vs : List V)
  | lst (vs : List V)
  | dct (es : List (Key × V))
  | rng (a b : Int)
  | items (es : List (Key × V))
  | val (v : Value)

noncomputable def Key.v : Key → V
  | .s l => .str l
  | .i n => .int n

noncomputable abbrev TM := Tok → Option S
structure PH where
  ob : Addr → Option Obj
  tk : TM

theorem mkS_inj {a b : S} (h : mkS a = mkS b) : a = b := by
  unfold mkS at h; injection h with h; exact congrArg Array.toList h
@[simp] theorem mkS_cps (l : S) : (mkS l).cps.toList = l := rfl

noncomputable def Key.is : Key → Value → Bool
  | .s l, .str x _ => decide (x = mkS l)
  | .i n, .int m _ => decide (m = n)
  | _, _ => false

theorem Key.is_s {l : S} {v : Value} (h : (Key.s l).is v = true) : ∃ t, v = .str (mkS l) t := by
  cases v <;> simp_all [Key.is]
theorem Key.is_i {n : Int} {v : Value} (h : (Key.i n).is v = true) : ∃ t, v = .int n t := by
  cases v <;> simp_all [Key.is]
theorem Key.is_inj (v : Value) (a b : Key) (ha : a.is v = true) (hb : b.is v = true) : a = b := by
  cases a with
  | s l =>
    obtain ⟨t, rfl⟩ := Key.is_s ha
    cases b with
    | s l' => obtain ⟨t', e⟩ := Key.is_s hb; injection e with e; rw [mkS_inj e]
    | i n => obtain ⟨t', e⟩ := Key.is_i hb; cases e
  | i n =>
    obtain ⟨t, rfl⟩ := Key.is_i ha
    cases b with
    | s l' => obtain ⟨t', e⟩ := Key.is_s hb; cases e
    | i n' => obtain ⟨t', e⟩ := Key.is_i hb; injection e with e; rw [e]

section
variable {prog : Program} {w : World} {A : Around} {E : Value → Shared → Prop} {s : Shared}
theorem eqBool_str_int {a : Str} {t : Tok} {b : Int} {u : Tok} {Q : Bool → Shared → Prop} (h : Q false s) : wpAny (model prog w) A (eqBool (.str a t) (.int b u)) Q E s := by
  unfold eqBool
  refine wpAny_holding ?_
  show wpAny _ _ (if (Value.str a t == Value.int b u) = true then _ else _) Q E s
  rw [if_neg (by simp)]
  exact wpAny_bind (EqMixed.eq_str_int (wpAny_truthy_bool h))
theorem eqBool_int_str {b : Str} {u : Tok} {a : Int} {t : Tok} {Q : Bool → Shared → Prop} (h : Q false s) : wpAny (model prog w) A (eqBool (.int a t) (.str b u)) Q E s := by
  unfold eqBool
  refine wpAny_holding ?_
  show wpAny _ _ (if (Value.int a t == Value.str b u) = true then _ else _) Q E s
  rw [if_neg (by simp)]
  exact wpAny_bind (EqMixed.eq_int_str (wpAny_truthy_bool h))
end

theorem key_eqBool {prog : Program} {w : World} {A : Around} {E : Value → Shared → Prop} {s : Shared} {a b : Key} {u v : Value} {Q : Bool → Shared → Prop} (hu : a.is u = true) (hv : b.is v = true) (h : Q (decide (a = b)) s) :
    wpAny (model prog w) A (eqBool u v) Q E s := by
  cases a with
  | s l =>
    obtain ⟨t, rfl⟩ := Key.is_s hu
    cases b with
    | s l' =>
      obtain ⟨t', rfl⟩ := Key.is_s hv
      refine wpAny_eqBool_str ?_
      have e : decide (mkS l = mkS l') = decide (Key.s l = Key.s l') := by
        by_cases q : l = l'
        · subst q; simp
        · rw [decide_eq_false (fun x => q (mkS_inj x)), decide_eq_false (fun x => q (by injection x))]
      rw [e]; exact h
    | i n => obtain ⟨t', rfl⟩ := Key.is_i hv; exact eqBool_str_int (by simpa using h)
  | i n =>
    obtain ⟨t, rfl⟩ := Key.is_i hu
    cases b with
    | s l' => obtain ⟨t', rfl⟩ := Key.is_s hv; exact eqBool_int_str (by simpa using h)
    | i n' =>
      obtain ⟨t', rfl⟩ := Key.is_i hv
      refine wpAny_eqBool_int ?_
      have e : (n == n') = decide (Key.i n = Key.i n') := by
        by_cases q : n = n'
        · subst q; simp
        · rw [decide_eq_false (fun x => q (by injection x))]; simp [q]
      rw [e]; exact h
theorem key_strs (k : Key) (x : Str) (t : Tok) (v : Value) (h : k.is (.str x t) = true) : k.is v = v.isStr x := by
  cases k with
  | s l =>
    obtain ⟨u, hu⟩ := Key.is_s h
    injection hu with hx
    subst hx
    cases v with
    | str y u' =>
      show decide (y = mkS l) = (y == mkS l)
      by_cases e : y = mkS l <;> simp [e]
    | _ => rfl
  | i n => obtain ⟨u, hu⟩ := Key.is_i h; cases hu

noncomputable def keyHash (w : World) : Key → Int
  | .s l => hashStr w (mkS l)
  | .i n => hashInt n

theorem key_pyHash {prog : Program} {w : World} {A : Around} {E : Value → Shared → Prop} {s : Shared} {k : Key} {v : Value} {Q : Int → Shared → Prop} (hv : k.is v = true) (h : Q (keyHash w k) { s with toks := s.toks + 1 }) :
    wpAny (model prog w) A (pyHash v) Q E s := by
  cases k with
  | s l => obtain ⟨t, rfl⟩ := Key.is_s hv; exact wpAny_pyHash_str h
  | i n => obtain ⟨t, rfl⟩ := Key.is_i hv; exact wpAny_pyHash_int h

noncomputable def mixKind (prog : Program) (w : World) : KeyKind prog w Key where
  is := Key.is
  hash := keyHash w
  inj := Key.is_inj
  byValue := fun k v h => by
    cases k with
    | s l => obtain ⟨t, rfl⟩ := Key.is_s h; rfl
    | i n => obtain ⟨t, rfl⟩ := Key.is_i h; rfl
  pyHash := key_pyHash
  eqBool := key_eqBool
  «strs» := key_strs

/-- what all frames of the run share -/
structure Wd where
  prog : Program
  w : World
  h₀ : Heap
  gls : List (String × Value)

noncomputable abbrev Wd.knd (W : Wd) : KeyKind W.prog W.w Key := mixKind W.prog W.w

mutual
inductive Rep (W : Wd) (g : PH) : V → Value → Prop
  | none : Rep W g .none .none
  | bool (b : Bool) : Rep W g (.bool b) (.bool b)
  | int (i : Int) (t : Tok) : Rep W g (.int i) (.int i t)
  | str {l : S} {t : Tok} : g.tk t = some l → Rep W g (.str l) (.str (mkS l) t)
  | txt (l : S) (t : Tok) : Rep W g (.txt l) (.str (mkS l) t)
  | bytes (b : Array UInt8) (t : Tok) : Rep W g (.bytes b) (.bytes b t)
  | tup {a : Addr} {o : Obj} {vs : List V} {ws : List Value} {n : Nat} : g.ob a = some o → o.cls = .type "tuple" → o.data = .seq ws.toArray n → RepL W g vs ws → Rep W g (.tup vs) (.ref a)
  | lst {a : Addr} {o : Obj} {vs : List V} {ws : List Value} {n : Nat} : g.ob a = some o → o.cls = .type "list" → o.dict = none → o.data = .seq ws.toArray n → RepL W g vs ws → Rep W g (.lst vs) (.ref a)
  | dct {a : Addr} {o : Obj} {es : List (Key × V)} {ds : List DictEntry} {kvs : List (Key × Value)} {n : Nat} : g.ob a = some o → (a == sysModules) = false → o.ExactDict → o.data = .dict ds.toArray n → RepD W g es ds kvs → (es.map (·.1)).Nodup → Rep W g (.dct es) (.ref a)
  | rng {r : Addr} {a b : Int} {t u v : Tok} : g.ob r = some { cls := .type "range", dict := none, data := .fields #[.int a t, .int b u, .int 1 v], slots := #[] } → Rep W g (.rng a b) (.ref r)
  | itm {v d : Addr} {o : Obj} {es : List (Key × V)} : g.ob v = some o → o.cls = .type "dict_items" → o.data = .fields #[.ref d] → Rep W g (.dct es) (.ref d) → Rep W g (.items es) (.ref v)
  | val (v : Value) : Rep W g (.val v) v
inductive RepL (W : Wd) (g : PH) : List V → List Value → Prop
  | nil : RepL W g [] []
  | cons {v : V} {w : Value} {vs : List V} {ws : List Value} : Rep W g v w → RepL W g vs ws → RepL W g (v :: vs) (w :: ws)
inductive RepD (W : Wd) (g : PH) : List (Key × V) → List DictEntry → List (Key × Value) → Prop
  | nil : RepD W g [] [] []
  | cons {k : Key} {v : V} {d : DictEntry} {es : List (Key × V)} {ds : List DictEntry} {kvs : List (Key × Value)} : Rep W g k.v d.key → d.hash = W.knd.hash k → Rep W g v d.val → RepD W g es ds kvs → RepD W g ((k, v) :: es) (d :: ds) ((k, d.val) :: kvs)
end

section
variable {W : Wd} {g : PH}
theorem Rep.int_inv {i : Int} {v : Value} (h : Rep W g (.int i) v) : ∃ t, v = .int i t := by cases h; exact ⟨_, rfl⟩
theorem Rep.bool_inv {i : Bool} {v : Value} (h : Rep W g (.bool i) v) : v = .bool i := by cases h; rfl
theorem Rep.str_inv {l : S} {v : Value} (h : Rep W g (.str l) v) : ∃ t, v = .str (mkS l) t ∧ g.tk t = some l := by cases h; exact ⟨_, rfl, by assumption⟩
theorem Rep.lst_inv {vs : List V} {v : Value} (h : Rep W g (.lst vs) v) : ∃ a o ws n, v = .ref a ∧ g.ob a = some o ∧ o.cls = .type "list" ∧ o.dict = Option.none ∧ o.data = .seq ws.toArray n ∧ RepL W g vs ws := by
  cases h with
  | lst h1 h2 h3 h4 r => exact ⟨_, _, _, _, rfl, h1, h2, h3, h4, r⟩
theorem Rep.tup_inv {vs : List V} {v : Value} (h : Rep W g (.tup vs) v) : ∃ a o ws n, v = .ref a ∧ g.ob a = some o ∧ o.cls = .type "tuple" ∧ o.data = .seq ws.toArray n ∧ RepL W g vs ws := by
  cases h with
  | tup h1 h2 h3 r => exact ⟨_, _, _, _, rfl, h1, h2, h3, r⟩
theorem Rep.dct_inv {es : List (Key × V)} {v : Value} (h : Rep W g (.dct es) v) : ∃ a o ds kvs n, v = .ref a ∧ g.ob a = some o ∧ (a == sysModules) = false ∧ o.ExactDict ∧ o.data = .dict ds.toArray n ∧ RepD W g es ds kvs ∧ (es.map (·.1)).Nodup := by
  cases h with
  | dct h1 h0 h2 h3 r hn => exact ⟨_, _, _, _, _, rfl, h1, h0, h2, h3, r, hn⟩
theorem Rep.itm_inv {es : List (Key × V)} {v : Value} (h : Rep W g (.items es) v) : ∃ a d o, v = .ref a ∧ g.ob a = some o ∧ o.cls = .type "dict_items" ∧ o.data = .fields #[.ref d] ∧ Rep W g (.dct es) (.ref d) := by
  cases h with
  | itm h1 h2 h3 r => exact ⟨_, _, _, rfl, h1, h2, h3, r⟩
theorem RepL.nil_inv {ws : List Value} (h : RepL W g [] ws) : ws = [] := by cases h; rfl
theorem RepL.cons_inv {v : V} {vs : List V} {ws : List Value} (h : RepL W g (v :: vs) ws) : ∃ w r, ws = w :: r ∧ Rep W g v w ∧ RepL W g vs r := by
  cases h with
  | cons h1 h2 => exact ⟨_, _, rfl, h1, h2⟩
end

structure Le (g g' : PH) : Prop where
  ob : ∀ a o, g.ob a = some o → g'.ob a = some o
  tk : ∀ t l, g.tk t = some l → g'.tk t = some l
theorem Le.refl (g : PH) : Le g g := ⟨fun _ _ e => e, fun _ _ e => e⟩
theorem Le.trans {g g' g'' : PH} (x : Le g g') (y : Le g' g'') : Le g g'' := ⟨fun a o e => y.ob a o (x.ob a o e), fun a o e => y.tk a o (x.tk a o e)⟩

mutual
theorem Rep.mono {W : Wd} {g g' : PH} (hs : Le g g') : ∀ {v : V} {w : Value}, Rep W g v w → Rep W g' v w
  | _, _, .none => .none
  | _, _, .bool b => .bool b
  | _, _, .int i t => .int i t
  | _, _, .str h => .str (hs.tk _ _ h)
  | _, _, .txt l t => .txt l t
  | _, _, .bytes b t => .bytes b t
  | _, _, .tup h1 h2 h3 r => .tup (hs.ob _ _ h1) h2 h3 (RepL.mono hs r)
  | _, _, .lst h1 h2 h3 h4 r => .lst (hs.ob _ _ h1) h2 h3 h4 (RepL.mono hs r)
  | _, _, .dct h1 h2 h3 h4 r h5 => .dct (hs.ob _ _ h1) h2 h3 h4 (RepD.mono hs r) h5
  | _, _, .rng h => .rng (hs.ob _ _ h)
  | _, _, .itm h1 h2 h3 r => .itm (hs.ob _ _ h1) h2 h3 (Rep.mono hs r)
  | _, _, .val v => .val v
theorem RepL.mono {W : Wd} {g g' : PH} (hs : Le g g') : ∀ {v : List V} {w : List Value}, RepL W g v w → RepL W g' v w
  | _, _, .nil => .nil
  | _, _, .cons h r => .cons (Rep.mono hs h) (RepL.mono hs r)
theorem RepD.mono {W : Wd} {g g' : PH} (hs : Le g g') : ∀ {v : List (Key × V)} {w : List DictEntry} {kvs : List (Key × Value)}, RepD W g v w kvs → RepD W g' v w kvs
  | _, _, _, .nil => .nil
  | _, _, _, .cons h e k r => .cons (Rep.mono hs h) e (Rep.mono hs k) (RepD.mono hs r)
end

section
variable {W : Wd} {g : PH}
theorem RepL.length {vs : List V} {ws : List Value} (h : RepL W g vs ws) : ws.length = vs.length := by
  induction ws generalizing vs with
  | nil => cases h; rfl
  | cons w ws ih => cases h with | cons h r => simp [ih r]
theorem RepL.append {vs vs' : List V} {ws ws' : List Value} (h : RepL W g vs ws) (k : RepL W g vs' ws') : RepL W g (vs ++ vs') (ws ++ ws') := by
  induction ws generalizing vs with
  | nil => cases h; exact k
  | cons w ws ih => cases h with | cons h r => exact .cons h (ih r)
theorem RepL.get {vs : List V} {ws : List Value} (h : RepL W g vs ws) {k : Nat} {v : V} (hk : vs[k]? = some v) : ∃ w, ws[k]? = some w ∧ Rep W g v w := by
  induction ws generalizing vs k with
  | nil => cases h; cases hk
  | cons w ws ih =>
    cases h with
    | cons h r =>
      cases k with
      | zero => cases hk; exact ⟨w, rfl, h⟩
      | succ k => exact ih r (by simpa using hk)
theorem RepL.take {vs : List V} {ws : List Value} (h : RepL W g vs ws) (k : Nat) : RepL W g (vs.take k) (ws.take k) := by
  induction ws generalizing vs k with
  | nil => cases h; simp; exact .nil
  | cons w ws ih => cases h with | cons h r => cases k with | zero => exact .nil | succ k => exact .cons h (ih r k)
theorem RepL.drop {vs : List V} {ws : List Value} (h : RepL W g vs ws) (k : Nat) : RepL W g (vs.drop k) (ws.drop k) := by
  induction ws generalizing vs k with
  | nil => cases h; simp; exact .nil
  | cons w ws ih => cases h with | cons h r => cases k with | zero => exact .cons h r | succ k => exact ih r k
end

section
variable {W : Wd} {g : PH}
theorem Key.is_of_rep {k : Key} {v : Value} (h : Rep W g k.v v) : k.is v = true := by
  cases k with
  | s l => cases h; simp [Key.is]
  | i n => cases h; simp [Key.is]
theorem RepD.keysOf {es : List (Key × V)} {ds : List DictEntry} {kvs : List (Key × Value)} (h : RepD W g es ds kvs) : KeysOf W.knd ds.toArray := by
  intro e he
  have he : e ∈ ds := by simpa using he
  induction ds generalizing es kvs with
  | nil => cases he
  | cons d ds ih =>
    cases h with
    | cons h1 h2 h3 r =>
      rcases List.mem_cons.mp he with rfl | he
      · exact ⟨_, Key.is_of_rep h1, h2⟩
      · exact ih r (by simpa using he) he
theorem RepD.pairs {es : List (Key × V)} {ds : List DictEntry} {kvs : List (Key × Value)} (h : RepD W g es ds kvs) : Pairs W.knd ds kvs := by
  induction ds generalizing es kvs with
  | nil => cases h; exact .nil
  | cons d ds ih =>
    cases h with
    | cons h1 h2 h3 r => exact .cons (Key.is_of_rep h1) rfl (ih r)
theorem RepD.keys {es : List (Key × V)} {ds : List DictEntry} {kvs : List (Key × Value)} (h : RepD W g es ds kvs) : kvs.map (·.1) = es.map (·.1) := by
  induction ds generalizing es kvs with
  | nil => cases h; rfl
  | cons d ds ih =>
    cases h with
    | cons h1 h2 h3 r => simp [ih r]
theorem RepD.length {es : List (Key × V)} {ds : List DictEntry} {kvs : List (Key × Value)} (h : RepD W g es ds kvs) : ds.length = es.length ∧ kvs.length = es.length := by
  induction ds generalizing es kvs with
  | nil => cases h; exact ⟨rfl, rfl⟩
  | cons d ds ih =>
    cases h with
    | cons h1 h2 h3 r => simp [ih r]
theorem RepD.get {es : List (Key × V)} {ds : List DictEntry} {kvs : List (Key × Value)} (h : RepD W g es ds kvs) {i : Nat} {k : Key} {v : V} (hi : es[i]? = some (k, v)) :
    ∃ d, ds[i]? = some d ∧ kvs[i]? = some (k, d.val) ∧ Rep W g k.v d.key ∧ Rep W g v d.val := by
  induction ds generalizing es kvs i with
  | nil => cases h; cases hi
  | cons d ds ih =>
    cases h with
    | cons h1 h2 h3 r =>
      cases i with
      | zero => cases hi; exact ⟨d, rfl, rfl, h1, h3⟩
      | succ i => exact ih r (by simpa using hi)

/-- the first entry under a key -/
noncomputable def dget (es : List (Key × V)) (k : Key) : Option V := (es.find? fun p => p.1 = k).map (·.2)
theorem RepD.valueAt {es : List (Key × V)} {ds : List DictEntry} {kvs : List (Key × Value)} (h : RepD W g es ds kvs) (k : Key) :
    match dget es k with | some v => ∃ w, PySem.valueAt kvs k = some w ∧ Rep W g v w | none => PySem.valueAt kvs k = none := by
  induction ds generalizing es kvs with
  | nil => cases h; rfl
  | cons d ds ih =>
    cases h with
    | @cons k' v _ es _ kvs h1 h2 h3 r =>
      have := ih r
      unfold dget PySem.valueAt at this ⊢
      by_cases e : k' = k
      · subst e
        simp only [List.find?_cons, decide_true, Option.map_some]
        exact ⟨_, rfl, h3⟩
      · simp only [List.find?_cons, decide_eq_false e]
        exact this

theorem RepD.dictOf {es : List (Key × V)} {ds : List DictEntry} {kvs : List (Key × Value)} {h : Heap} {a : Addr} {o : Obj} {n : Nat} (r : RepD W g es ds kvs) (ho : h.get? a = some o) (hx : o.ExactDict) (hd : o.data = .dict ds.toArray n) (hn : (es.map (·.1)).Nodup) :
    h.DictOf W.knd a kvs := ⟨o, _, n, ho, hx, hd, r.keysOf, by simpa using r.pairs, r.keys ▸ hn⟩
theorem RepD.dictAt {es : List (Key × V)} {ds : List DictEntry} {kvs : List (Key × Value)} {h : Heap} {a : Addr} {o : Obj} {n : Nat} (r : RepD W g es ds kvs) (ho : h.get? a = some o) (hx : o.ExactDict) (hd : o.data = .dict ds.toArray n) (hn : (es.map (·.1)).Nodup) :
    h.DictAt W.knd a kvs n := ⟨o, _, ho, hx, hd, r.keysOf, by simpa using r.pairs, r.keys ▸ hn⟩
end

/-! ## the state -/
/-- what stands for good: all but what is somebody's own -/
noncomputable def view (own : List Addr) (T : TM) (s : Shared) : PH := ⟨fun a => if a ∈ own then none else s.heap.get? a, T⟩
theorem view_of {own : List Addr} {T : TM} {s : Shared} {a : Addr} {o : Obj} (e : (view own T s).ob a = some o) : s.heap.get? a = some o := by
  unfold view at e; dsimp only at e; split at e
  · cases e
  · exact e
theorem view_not {own : List Addr} {T : TM} {s : Shared} {a : Addr} {o : Obj} (e : (view own T s).ob a = some o) : a ∉ own := by
  intro hm; unfold view at e; dsimp only at e; rw [if_pos hm] at e; cases e
theorem view_mk {own : List Addr} {T : TM} {s : Shared} {a : Addr} {o : Obj} (hn : a ∉ own) (e : s.heap.get? a = some o) : (view own T s).ob a = some o := by
  unfold view; dsimp only; rw [if_neg hn]; exact e

noncomputable abbrev TLe (T T' : TM) : Prop := ∀ t l, T t = some l → T' t = some l
structure TOk (T : TM) (n : Nat) : Prop where
  pos : 0 < n
  lt : ∀ t l, T t = some l → 0 < t ∧ t < n
theorem TOk.mono {T : TM} {n n' : Nat} (x : TOk T n) (h : n ≤ n') : TOk T n' := ⟨Nat.lt_of_lt_of_le x.pos h, fun t l e => ⟨(x.lt t l e).1, Nat.lt_of_lt_of_le (x.lt t l e).2 h⟩⟩
noncomputable def TM.upd (T : TM) (n : Nat) (l : S) : TM := fun t => if t = n then some l else T t
theorem TOk.upd {T : TM} {n : Nat} (x : TOk T n) (l : S) : TOk (T.upd n l) (n + 1) := ⟨Nat.succ_pos _, fun t l' e => by
  unfold TM.upd at e
  by_cases h : t = n
  · subst h; exact ⟨x.pos, Nat.lt_succ_self _⟩
  · rw [if_neg h] at e; exact ⟨(x.lt t l' e).1, Nat.lt_succ_of_lt (x.lt t l' e).2⟩⟩
theorem TOk.updLe {T : TM} {n : Nat} (x : TOk T n) (l : S) : TLe T (T.upd n l) := fun t l' e => by
  unfold TM.upd
  rw [if_neg (Nat.ne_of_lt (x.lt t l' e).2)]; exact e
theorem TM.upd_self {T : TM} {n : Nat} {l : S} : T.upd n l n = some l := by simp [TM.upd]

inductive Slot where
  | val (v : V)
  | list (a : Addr) (vs : List V)
  | dict (a : Addr) (es : List (Key × V))

/-- the address of what is the frame's own -/
noncomputable def Slot.adr : Slot → Option Addr
  | .val _ => none
  | .list a _ => some a
  | .dict a _ => some a
noncomputable def Slot.owned (sl : Slot) : Bool := sl.adr.isSome

noncomputable abbrev St := List (String × Slot)

noncomputable def find : St → Str → Option Slot
  | [], _ => none
  | (y, sl) :: r, x => if Str.ofString y = x then some sl else find r x
noncomputable def put : St → Str → String → Slot → St
  | [], _, y, sl => [(y, sl)]
  | (z, sl') :: r, x, y, sl => if Str.ofString z = x then (z, sl) :: r else (z, sl') :: put r x y sl

theorem map_toNat_inj : ∀ {a b : List Char}, a.map Char.toNat = b.map Char.toNat → a = b
  | [], [], _ => rfl
  | [], _ :: _, h => by cases h
  | _ :: _, [], h => by cases h
  | x :: a, y :: b, h => by
    simp only [List.map_cons, List.cons.injEq] at h
    rw [map_toNat_inj h.2]
    have : x = y := by
      apply Char.ext
      apply UInt32.toNat_inj.mp
      exact h.1
    rw [this]
theorem ofString_inj {a b : String} : Str.ofString a = Str.ofString b ↔ a = b := by
  refine ⟨fun h => ?_, fun h => by rw [h]⟩
  rw [Str.ofString_eq_toList, Str.ofString_eq_toList] at h
  injection h with h
  have h := congrArg Array.toList h
  simp only at h
  exact String.toList_inj.mp (map_toNat_inj h)

theorem find_cons (y x : String) (sl : Slot) (r : St) : find ((y, sl) :: r) (Str.ofString x) = if y = x then some sl else find r (Str.ofString x) := by
  simp only [find, ofString_inj]
theorem put_cons (z x y : String) (sl sl' : Slot) (r : St) : put ((z, sl') :: r) (Str.ofString x) y sl = if z = x then (z, sl) :: r else (z, sl') :: put r (Str.ofString x) y sl := by
  simp only [put, ofString_inj]
theorem put_nil (x : Str) (y : String) (sl : Slot) : put [] x y sl = [(y, sl)] := rfl

theorem find_put {σ : St} {y : String} {sl : Slot} (z : Str) : find (put σ (Str.ofString y) y sl) z = if Str.ofString y = z then some sl else find σ z := by
  induction σ with
  | nil => simp [put, find]
  | cons p r ih =>
    obtain ⟨w, sl'⟩ := p
    unfold put
    by_cases hw : Str.ofString w = Str.ofString y
    · rw [if_pos hw]
      simp only [find, hw]
      by_cases hz : Str.ofString y = z
      · rw [if_pos hz, if_pos hz]
      · rw [if_neg hz, if_neg hz, if_neg hz]
    · rw [if_neg hw]
      simp only [find]
      by_cases hz : Str.ofString w = z
      · rw [if_pos hz, if_pos hz, if_neg (fun e => hw (hz.trans e.symm))]
      · rw [if_neg hz, if_neg hz, ih]

structure Cx where
  W : Wd
  A : Around
  env : Env
  ownC : Bool
  X : Value → Shared → Prop
  an : Option Addr

noncomputable abbrev Cx.M (C : Cx) : Model := model C.W.prog C.W.w

structure Wd.Ok (W : Wd) : Prop where
  sysm : (W.h₀.get? sysModules).isSome = true
  nolimit : W.h₀.NoLimit
  gl : ∃ mg mb, W.h₀.Ns mainGlobals mg ∧ W.h₀.Ns builtinsNs mb ∧ ∀ x v, W.gls.lookup x = some v → mg (Str.ofString x) = some v ∨ (mg (Str.ofString x) = none ∧ mb (Str.ofString x) = some v)

structure Cx.Ok (C : Cx) (n : Nat) : Prop where
  W : C.W.Ok
  hh : C.A.handled = none
  hu : C.A.units + 3 * n + 100 ≤ 9000
  hd : C.A.depth + n + 10 ≤ 900
  hk : C.env.scope.kind = .function
  hg : C.env.globals = mainGlobals
  hb : C.env.builtins = builtinsNs
  hx : PassesOwn C.M C.A C.env C.X

noncomputable def valAt (env : Env) (m cm : Str → Option Value) (x : Str) : Option Value := match env.kindOf x with
  | some .local => m x
  | some .cell => cm x
  | some .free => cm x
  | _ => none

noncomputable def IsL (h : Heap) (a : Addr) (ws : List Value) : Prop := ∃ n, h.get? a = some { cls := .type "list", data := .seq ws.toArray n }
noncomputable def IsD (h : Heap) (a : Addr) (ds : List DictEntry) : Prop := (a == sysModules) = false ∧ ∃ o n, h.get? a = some o ∧ o.ExactDict ∧ o.data = .dict ds.toArray n

noncomputable def SlotRep (W : Wd) (g : PH) (h : Heap) : Slot → Value → Prop
  | .val u, v => Rep W g u v
  | .list a vs, v => v = .ref a ∧ ∃ ws, IsL h a ws ∧ RepL W g vs ws
  | .dict a es, v => v = .ref a ∧ ∃ ds kvs, IsD h a ds ∧ RepD W g es ds kvs ∧ (es.map (·.1)).Nodup

/-- the name under which a comprehension's own list or dict goes -/
noncomputable abbrev anonS : Str := Str.ofString "#"
noncomputable def Bound (C : Cx) (m cm : Str → Option Value) (x : Str) (sl : Slot) (v : Value) : Prop := valAt C.env m cm x = some v ∨ (x = anonS ∧ sl.owned = true ∧ ∃ a, C.an = some a ∧ v = .ref a)
theorem Bound.real {C : Cx} {m cm : Str → Option Value} {x : Str} {sl : Slot} {v : Value} (h : Bound C m cm x sl v) (hx : x ≠ anonS) : valAt C.env m cm x = some v := h.resolve_right fun q => hx q.1
theorem Bound.val {C : Cx} {m cm : Str → Option Value} {x : Str} {u : V} {v : Value} (h : Bound C m cm x (.val u) v) : valAt C.env m cm x = some v := h.resolve_right fun q => by cases q.2.1

/-- the frame's names and what they hold -/
structure Frm (C : Cx) (F mine : List Addr) (T : TM) (σ : St) (s : Shared) (m cm : Str → Option Value) : Prop where
  ns : s.heap.Ns C.env.locals m
  cells : ∀ x c, C.env.cells.lookup x = some c → s.heap.IsCell c (cm x)
  apart : ∀ x y c, C.env.cells.lookup x = some c → C.env.cells.lookup y = some c → x = y
  lc : ∀ x c, C.env.cells.lookup x = some c → c ≠ C.env.locals
  has : ∀ x, C.env.kindOf x = some .cell ∨ C.env.kindOf x = some .free → ∃ c, C.env.cells.lookup x = some c
  lm : C.env.locals ∈ mine
  cown : ∀ x c, C.env.cells.lookup x = some c → c ∈ F ++ mine
  cmine : C.ownC = true → ∀ x c, C.env.cells.lookup x = some c → c ∈ mine
  slots : ∀ x sl, find σ x = some sl → ∃ v, Bound C m cm x sl v ∧ SlotRep C.W (view (F ++ mine) T s) s.heap sl v
  own : ∀ x sl a, find σ x = some sl → sl.adr = some a → a ∈ mine ∧ a ≠ C.env.locals ∧ (∀ y c, C.env.cells.lookup y = some c → c ≠ a)
  dis : ∀ x y sl sl' a, find σ x = some sl → find σ y = some sl' → sl.adr = some a → sl'.adr = some a → x = y

structure Abs (C : Cx) (F mine : List Addr) (T : TM) (σ : St) (s : Shared) : Prop where
  base : ∀ b o, C.W.h₀.get? b = some o → (view (F ++ mine) T s).ob b = some o
  live : ∀ a ∈ F ++ mine, (s.heap.get? a).isSome = true
  nin : ∀ a ∈ mine, a ∉ F
  tok : TOk T s.toks
  frm : ∃ m cm, Frm C F mine T σ s m cm

structure Post (F mine : List Addr) (T : TM) (s : Shared) (mine' : List Addr) (T' : TM) (s' : Shared) : Prop where
  same : ∃ h' tk, s' = { s with heap := h', toks := tk }
  le : Le (view (F ++ mine) T s) (view (F ++ mine') T' s')
  far : ∀ a ∈ F, s'.heap.get? a = s.heap.get? a

theorem Post.refl (F mine : List Addr) (T : TM) (s : Shared) : Post F mine T s mine T s := ⟨⟨_, _, rfl⟩, .refl _, fun _ _ => rfl⟩
theorem Post.trans {F m1 m2 m3 : List Addr} {T1 T2 T3 : TM} {s1 s2 s3 : Shared} (x : Post F m1 T1 s1 m2 T2 s2) (y : Post F m2 T2 s2 m3 T3 s3) : Post F m1 T1 s1 m3 T3 s3 := by
  obtain ⟨h, t, rfl⟩ := x.same
  obtain ⟨h', t', rfl⟩ := y.same
  exact ⟨⟨h', t', rfl⟩, x.le.trans y.le, fun a ha => (y.far a ha).trans (x.far a ha)⟩

/-- nothing that stood is turned; the texts' marks grow -/
structure Kp (T : TM) (s : Shared) (T' : TM) (s' : Shared) : Prop where
  same : ∃ h' tk, s' = { s with heap := h', toks := tk }
  keep : ∀ b o, s.heap.get? b = some o → s'.heap.get? b = some o
  tle : TLe T T'
  tok : TOk T' s'.toks
theorem Kp.trans {T T' T'' : TM} {s s' s'' : Shared} (x : Kp T s T' s') (y : Kp T' s' T'' s'') : Kp T s T'' s'' := by
  obtain ⟨h, t, rfl⟩ := x.same
  obtain ⟨h', t', rfl⟩ := y.same
  exact ⟨⟨h', t', rfl⟩, fun b o e => y.keep b o (x.keep b o e), fun t l e => y.tle t l (x.tle t l e), y.tok⟩
theorem Kp.view {T T' : TM} {own : List Addr} {s s' : Shared} (k : Kp T s T' s') : Le (view own T s) (view own T' s') :=
  ⟨fun _ _ e => view_mk (view_not e) (k.keep _ _ (view_of e)), k.tle⟩
theorem Kp.post {F mine : List Addr} {T T' : TM} {s s' : Shared} (k : Kp T s T' s') (l : ∀ a ∈ F ++ mine, (s.heap.get? a).isSome = true) : Post F mine T s mine T' s' := by
  refine ⟨k.same, k.view, fun a ha => ?_⟩
  obtain ⟨o, ho⟩ := Option.isSome_iff_exists.mp (l a (List.mem_append_left _ ha))
  rw [ho]; exact k.keep _ _ ho
theorem Kp.live {own : List Addr} {T T' : TM} {s s' : Shared} (k : Kp T s T' s') (l : ∀ a ∈ own, (s.heap.get? a).isSome = true) : ∀ a ∈ own, (s'.heap.get? a).isSome = true := fun a ha => by
  obtain ⟨o, ho⟩ := Option.isSome_iff_exists.mp (l a ha)
  rw [k.keep _ _ ho]; rfl

theorem SlotRep.mono {W : Wd} {g g' : PH} {h h' : Heap} {sl : Slot} {v : Value} (hg : Le g g') (hh : ∀ a, sl.adr = some a → ∀ o, h.get? a = some o → h'.get? a = some o) (x : SlotRep W g h sl v) : SlotRep W g' h' sl v := by
  cases sl with
  | val u => exact Rep.mono hg x
  | list a vs =>
    obtain ⟨e, ws, ⟨n, h1⟩, r⟩ := x
    exact ⟨e, ws, ⟨n, hh a rfl _ h1⟩, r.mono hg⟩
  | dict a es =>
    obtain ⟨e, ws, kvs, ⟨h0, o, n, h1, h2⟩, r, nd⟩ := x
    exact ⟨e, ws, kvs, ⟨h0, o, n, hh a rfl _ h1, h2⟩, r.mono hg, nd⟩
theorem SlotRep.ref {W : Wd} {g : PH} {h : Heap} {sl : Slot} {v : Value} {a : Addr} (x : SlotRep W g h sl v) (ha : sl.adr = some a) : v = .ref a := by
  cases sl with
  | val u => cases ha
  | list a vs => cases ha; exact x.1
  | dict a es => cases ha; exact x.1

theorem Frm.keeps {C : Cx} {F mine : List Addr} {T T' : TM} {σ : St} {s s' : Shared} {m cm : Str → Option Value} (x : Frm C F mine T σ s m cm) (k : Kp T s T' s') : Frm C F mine T' σ s' m cm :=
  { ns := x.ns.keeps k.keep, cells := fun y c e => (x.cells y c e).keeps k.keep, apart := x.apart, lc := x.lc, has := x.has, lm := x.lm, cown := x.cown, cmine := x.cmine
    slots := fun y sl e => let ⟨v, h1, h2⟩ := x.slots y sl e; ⟨v, h1, h2.mono k.view fun _ _ o e => k.keep _ o e⟩
    own := x.own, dis := x.dis }
theorem Abs.keeps {C : Cx} {F mine : List Addr} {T T' : TM} {σ : St} {s s' : Shared} (x : Abs C F mine T σ s) (k : Kp T s T' s') : Abs C F mine T' σ s' :=
  { base := fun b o e => k.view.ob b o (x.base b o e)
    live := k.live x.live
    nin := x.nin
    tok := k.tok
    frm := let ⟨m, cm, f⟩ := x.frm; ⟨m, cm, f.keeps k⟩ }

end Sx
end
section
open PySem PySem.W PyProof.Rows PySem.Calls
set_option linter.unusedVariables false
set_option Elab.async false
set_option maxRecDepth 100000
namespace Sx

inductive Fl where
  | next | brk | cont
  | ret (v : V)

inductive FlRep (W : Wd) (g : PH) : Fl → Flow → Prop
  | next : FlRep W g .next .next
  | brk : FlRep W g .brk .brk
  | cont : FlRep W g .cont .cont
  | ret {v : V} {w : Value} : Rep W g v w → FlRep W g (.ret v) (.ret w)

/-- a tree run from a state: what comes out stands in R to an abstract result -/
noncomputable def Tr {α β : Type} (C : Cx) (σ : St) (R : PH → β → α → Prop) (t : Sem α) (Q : β → St → Prop) : Prop :=
  ∀ F mine T s, Abs C F mine T σ s → wpAny C.M C.A t (fun x s' => ∃ b σ' mine' T', Q b σ' ∧ Post F mine T s mine' T' s' ∧ Abs C F mine' T' σ' s' ∧ R (view (F ++ mine') T' s') b x) C.X s

noncomputable abbrev RU : PH → Unit → Unit → Prop := fun _ _ _ => True
noncomputable abbrev RB : PH → Bool → Bool → Prop := fun _ a b => a = b
noncomputable abbrev Ev (C : Cx) (σ : St) (e : Expr) (Q : V → St → Prop) : Prop := Tr C σ (Rep C.W) (eval e C.env) Q
noncomputable abbrev EvT (C : Cx) (σ : St) (t : Sem Value) (Q : V → St → Prop) : Prop := Tr C σ (Rep C.W) t Q
noncomputable abbrev Tst (C : Cx) (σ : St) (e : Expr) (Q : Bool → St → Prop) : Prop := Tr C σ RB (isTrue e C.env (eval e C.env)) Q
noncomputable abbrev Ex (C : Cx) (σ : St) (e : Stmt) (Q : Fl → St → Prop) : Prop := Tr C σ (FlRep C.W) (exec e C.env) Q
noncomputable abbrev Exs (C : Cx) (σ : St) (e : List Stmt) (Q : Fl → St → Prop) : Prop := Tr C σ (FlRep C.W) (execs e C.env) Q
noncomputable abbrev EvL (C : Cx) (σ : St) (pos : Pos) (es : List Expr) (Q : List V → St → Prop) : Prop := Tr C σ (RepL C.W) (spliced (backTo pos (starEach es C.env))) Q

theorem Tr.mono {α β : Type} {C : Cx} {σ : St} {R : PH → β → α → Prop} {t : Sem α} {Q Q' : β → St → Prop} (h : Tr C σ R t Q) (hq : ∀ b σ, Q b σ → Q' b σ) : Tr C σ R t Q' :=
  fun F mine T s hA => wpAny_mono (h F mine T s hA) (fun _ _ ⟨b, σ', m', T', q, r⟩ => ⟨b, σ', m', T', hq _ _ q, r⟩) fun _ _ x => x

theorem Tr.then {α β : Type} {C : Cx} {σ : St} {R : PH → β → α → Prop} {t : Sem α} {Q : β → St → Prop} (h : Tr C σ R t Q) {F mine : List Addr} {T : TM} {s : Shared} (hA : Abs C F mine T σ s) {P : α → Shared → Prop}
    (k : ∀ x s' b σ' mine' T', Q b σ' → Post F mine T s mine' T' s' → Abs C F mine' T' σ' s' → R (view (F ++ mine') T' s') b x → P x s') : wpAny C.M C.A t P C.X s :=
  wpAny_mono (h F mine T s hA) (fun _ _ ⟨_, _, _, _, a, b, c, d⟩ => k _ _ _ _ _ _ a b c d) fun _ _ x => x
theorem Tr.intro' {α β : Type} {C : Cx} {σ : St} {R : PH → β → α → Prop} {t : Sem α} {Q : β → St → Prop}
    (h : ∀ F mine T s (QQ : α → Shared → Prop), (∀ x s' b σ' mine' T', Q b σ' → Post F mine T s mine' T' s' → Abs C F mine' T' σ' s' → R (view (F ++ mine') T' s') b x → QQ x s') → Abs C F mine T σ s → wpAny C.M C.A t QQ C.X s) : Tr C σ R t Q :=
  fun F mine T s hA => h F mine T s _ (fun _ _ b σ' m' T' x y z w => ⟨b, σ', m', T', x, y, z, w⟩) hA
structure OwnOk (C : Cx) (own : List Addr) (T : TM) (s : Shared) : Prop where
  base : ∀ b o, C.W.h₀.get? b = some o → (view own T s).ob b = some o
  live : ∀ a ∈ own, (s.heap.get? a).isSome = true
  tok : TOk T s.toks
theorem Abs.ownOk {C : Cx} {F mine : List Addr} {T : TM} {σ : St} {s : Shared} (x : Abs C F mine T σ s) : OwnOk C (F ++ mine) T s := ⟨x.base, x.live, x.tok⟩
theorem OwnOk.fresh {C : Cx} {own : List Addr} {T : TM} {s : Shared} (x : OwnOk C own T s) {a : Addr} (h : s.heap.get? a = none) : a ∉ own := fun hm => by
  have := x.live a hm; rw [h] at this; cases this
theorem OwnOk.keeps {C : Cx} {own : List Addr} {T T' : TM} {s s' : Shared} (x : OwnOk C own T s) (k : Kp T s T' s') : OwnOk C own T' s' :=
  ⟨fun b o e => k.view.ob b o (x.base b o e), k.live x.live, k.tok⟩
theorem OwnOk.kb {C : Cx} {own : List Addr} {T : TM} {s : Shared} (x : OwnOk C own T s) : ∀ b o, C.W.h₀.get? b = some o → s.heap.get? b = some o := fun b o e => view_of (x.base b o e)

theorem fresh_size (h : Heap) : h.get? h.objs.size = none := by
  cases e : h.get? h.objs.size with
  | none => rfl
  | some o => exact absurd (Heap.lt_size e) (Nat.lt_irrefl _)

/-- what a primitive step leaves -/
noncomputable def Out {α β : Type} (own : List Addr) (T : TM) (s : Shared) (R : PH → β → α → Prop) (K : β → Prop) (x : α) (s' : Shared) : Prop :=
  ∃ b T', K b ∧ Kp T s T' s' ∧ R (view own T' s') b x
/-- a primitive step: nothing that stood before is turned -/
noncomputable def PrimR {α β : Type} (C : Cx) (own : List Addr) (T : TM) (s : Shared) (R : PH → β → α → Prop) (t : Sem α) (K : β → Prop) : Prop :=
  wpAny C.M C.A t (Out own T s R K) C.X s
theorem PrimR.then {α β : Type} {C : Cx} {own : List Addr} {T : TM} {s : Shared} {R : PH → β → α → Prop} {t : Sem α} {K : β → Prop} (h : PrimR C own T s R t K) {P : α → Shared → Prop}
    (k : ∀ x s' b T', K b → Kp T s T' s' → R (view own T' s') b x → P x s') : wpAny C.M C.A t P C.X s :=
  wpAny_mono h (fun _ _ ⟨_, _, a, b, c⟩ => k _ _ _ _ a b c) fun _ _ x => x
noncomputable abbrev Prim (C : Cx) (own : List Addr) (T : TM) (s : Shared) (t : Sem Value) (K : V → Prop) : Prop := PrimR C own T s (Rep C.W) t K
noncomputable abbrev PrimB (C : Cx) (own : List Addr) (T : TM) (s : Shared) (t : Sem Bool) (K : Bool → Prop) : Prop := PrimR C own T s RB t K
/-- .. and what comes out is a new object -/
noncomputable def OutF (C : Cx) (own : List Addr) (T : TM) (s : Shared) (K : Slot → Prop) (v : Value) (s' : Shared) : Prop :=
  ∃ sl T' a, K sl ∧ sl.adr = some a ∧ Kp T s T' s' ∧ s.heap.get? a = none ∧ (s'.heap.get? a).isSome = true ∧ SlotRep C.W (view (a :: own) T' s') s'.heap sl v
noncomputable def PrimF (C : Cx) (own : List Addr) (T : TM) (s : Shared) (t : Sem Value) (K : Slot → Prop) : Prop := wpAny C.M C.A t (OutF C own T s K) C.X s

section
variable {α β : Type} {own : List Addr} {T : TM} {s : Shared} {R : PH → β → α → Prop} {K : β → Prop} {x : α} {b : β}
/-- the ways a step ends -/
theorem Kp.refl (k : TOk T s.toks) : Kp T s T s := ⟨⟨_, _, rfl⟩, fun _ _ e => e, fun _ _ e => e, k⟩
theorem Kp.at {h' : Heap} {tk : Nat} (k : TOk T s.toks) (hk : ∀ b o, s.heap.get? b = some o → h'.get? b = some o) (ht : s.toks ≤ tk) : Kp T s T { s with heap := h', toks := tk } := ⟨⟨_, _, rfl⟩, hk, fun _ _ e => e, k.mono ht⟩
theorem Kp.toks {tk : Nat} (k : TOk T s.toks) (ht : s.toks ≤ tk) : Kp T s T { s with toks := tk } := Kp.at (h' := s.heap) k (fun _ _ e => e) ht
theorem Kp.push {o : Obj} {tk : Nat} (k : TOk T s.toks) (ht : s.toks ≤ tk) : Kp T s T { s with heap := s.heap.push o, toks := tk } := Kp.at (h' := s.heap.push o) k (fun _ _ e => Heap.get?_push_of_some _ e) ht
theorem Kp.str {h' : Heap} {l : S} (k : TOk T s.toks) (hk : ∀ b o, s.heap.get? b = some o → h'.get? b = some o) : Kp T s (T.upd s.toks l) { s with heap := h', toks := s.toks + 1 } := ⟨⟨_, _, rfl⟩, hk, k.updLe l, k.upd l⟩
theorem Out.same (k : TOk T s.toks) (q : K b) (r : R (view own T s) b x) : Out own T s R K x s := ⟨b, T, q, .refl k, r⟩
theorem Out.mono {K' : β → Prop} {s' : Shared} (h : Out own T s R K x s') (hk : ∀ b, K b → K' b) : Out own T s R K' x s' := let ⟨b, T', q, r⟩ := h; ⟨b, T', hk _ q, r⟩
end
theorem Out.strNew {W : Wd} {own : List Addr} {T : TM} {s : Shared} {K : V → Prop} {l : S} (k : TOk T s.toks) (q : K (.str l)) : Out own T s (Rep W) K (.str (mkS l) s.toks) { s with toks := s.toks + 1 } :=
  ⟨_, _, q, .str (h' := s.heap) k fun _ _ e => e, .str TM.upd_self⟩
theorem Out.int {W : Wd} {own : List Addr} {T : TM} {s : Shared} {K : V → Prop} {i : Int} {t : Tok} {tk : Nat} (k : TOk T s.toks) (q : K (.int i)) (ht : s.toks ≤ tk) : Out own T s (Rep W) K (.int i t) { s with toks := tk } :=
  ⟨_, T, q, .toks k ht, .int _ _⟩
theorem Out.bool {W : Wd} {own : List Addr} {T : TM} {s : Shared} {K : V → Prop} {i : Bool} {tk : Nat} (k : TOk T s.toks) (q : K (.bool i)) (ht : s.toks ≤ tk) : Out own T s (Rep W) K (.bool i) { s with toks := tk } :=
  ⟨_, T, q, .toks k ht, .bool _⟩

theorem Tr.prim {α β : Type} {C : Cx} {σ : St} {R : PH → β → α → Prop} {t : Sem α} {Q : β → St → Prop} (h : ∀ own T s, OwnOk C own T s → PrimR C own T s R t (fun b => Q b σ)) : Tr C σ R t Q :=
  fun F mine T s hA => wpAny_mono (h (F ++ mine) T s hA.ownOk) (fun _ _ ⟨b, T', q, k, r⟩ => ⟨b, σ, mine, T', q, k.post hA.live, hA.keeps k, r⟩) fun _ _ x => x

theorem PrimR.mono {α β : Type} {C : Cx} {own : List Addr} {T : TM} {s : Shared} {R : PH → β → α → Prop} {t : Sem α} {K K' : β → Prop} (h : PrimR C own T s R t K) (hk : ∀ b, K b → K' b) : PrimR C own T s R t K' :=
  wpAny_mono h (fun _ _ x => x.mono hk) fun _ _ x => x
theorem PrimF.mono {C : Cx} {own : List Addr} {T : TM} {s : Shared} {t : Sem Value} {K K' : Slot → Prop} (h : PrimF C own T s t K) (hk : ∀ b, K b → K' b) : PrimF C own T s t K' :=
  wpAny_mono h (fun _ _ ⟨b, T', a, q, r⟩ => ⟨b, T', a, hk _ q, r⟩) fun _ _ x => x

noncomputable def Slot.v : Slot → V
  | .val v => v
  | .list _ vs => .lst vs
  | .dict _ es => .dct es

theorem view_sub {own own' : List Addr} {T : TM} {s : Shared} (hs : ∀ a ∈ own', a ∈ own) : Le (view own T s) (view own' T s) :=
  ⟨fun _ _ e => view_mk (fun hb => view_not e (hs _ hb)) (view_of e), fun _ _ e => e⟩
theorem app_sub {F mine mine' : List Addr} (hs : ∀ a ∈ mine', a ∈ mine) : ∀ a ∈ F ++ mine', a ∈ F ++ mine := fun a ha => by
  rcases List.mem_append.mp ha with ha | ha
  · exact List.mem_append_left _ ha
  · exact List.mem_append_right _ (hs a ha)

theorem SlotRep.freeze {W : Wd} {own own' : List Addr} {T : TM} {s : Shared} {a : Addr} {sl : Slot} {v : Value} (ho : sl.adr = some a) (x : SlotRep W (view own T s) s.heap sl v) (hs : ∀ b ∈ own', b ∈ own) (ha : a ∉ own') :
    Rep W (view own' T s) sl.v v := by
  have le : Le (view own T s) (view own' T s) := view_sub hs
  cases sl with
  | val u => cases ho
  | list a vs =>
    cases ho
    obtain ⟨rfl, ws, ⟨n, h1⟩, r⟩ := x
    exact .lst (view_mk ha h1) rfl rfl rfl (r.mono le)
  | dict a es =>
    cases ho
    obtain ⟨rfl, ws, kvs, ⟨h0, o, n, h1, h2, h3⟩, r, nd⟩ := x
    exact .dct (view_mk ha h1) h0 h2 h3 (r.mono le) nd

theorem PrimF.prim {C : Cx} {own : List Addr} {T : TM} {s : Shared} {t : Sem Value} {K : V → Prop} (hO : OwnOk C own T s) (h : PrimF C own T s t (fun sl => K sl.v)) : Prim C own T s t K := by
  refine wpAny_mono h (fun v s' ⟨sl, T', a, q, ho, k, hn, hs, r⟩ => ⟨sl.v, T', q, k, ?_⟩) fun _ _ x => x
  exact r.freeze ho (fun b hb => List.mem_cons_of_mem _ hb) (hO.fresh hn)

section
variable {C : Cx} {σ : St}

theorem ev_prim {e : Expr} {Q : V → St → Prop} (h : ∀ own T s, OwnOk C own T s → Prim C own T s (eval e C.env) (fun v => Q v σ)) : Ev C σ e Q := Tr.prim h

theorem ofString_lit (x : String) : Str.ofString x = mkS (lit x) := by rw [Str.ofString_eq_toList]; rfl

theorem ev_str {x : String} {k pos} {Q : V → St → Prop} (h : Q (.str (lit x)) σ) : Ev C σ (.Constant (.str (Str.ofString x)) k pos) Q :=
  ev_prim fun own T s hO => Constant_str (by rw [ofString_lit]; exact .strNew hO.tok h)
theorem ev_int {i : Int} {k pos} {Q : V → St → Prop} (h : Q (.int i) σ) : Ev C σ (.Constant (.int i) k pos) Q :=
  ev_prim fun own T s hO => wpAny_Constant_int (.int hO.tok h (Nat.le_succ _))
theorem ev_bool {b : Bool} {k pos} {Q : V → St → Prop} (h : Q (.bool b) σ) : Ev C σ (.Constant (.bool b) k pos) Q :=
  ev_prim fun own T s hO => wpAny_Constant_bool (.same hO.tok h (.bool _))
theorem ev_none {k pos} {Q : V → St → Prop} (h : Q .none σ) : Ev C σ (.Constant .none k pos) Q :=
  ev_prim fun own T s hO => wpAny_Constant_none (.same hO.tok h .none)

/-! ### names -/
theorem load_local {F mine : List Addr} {T : TM} {s : Shared} {n : Nat} (ok : C.Ok n) {x : Str} {m cm : Str → Option Value} (f : Frm C F mine T σ s m cm) {v : Value} (hv : valAt C.env m cm x = some v)
    (hn : (x == ("__classdict__" : Str)) = false) {M : Model} {A : Around} {E : Value → Shared → Prop} {Q : Value → Shared → Prop} (h : Q v s) : wpAny M A (loadName C.env x) Q E s := by
  unfold valAt at hv
  cases hk : C.env.kindOf x with
  | none => rw [hk] at hv; cases hv
  | some k =>
    rw [hk] at hv
    cases k with
    | «local» => exact wpAny_loadName_local ok.hk hk f.ns hv h
    | cell =>
      obtain ⟨c, hc⟩ := f.has x (.inl hk)
      exact wpAny_loadName_cell ok.hk hk hc (hv ▸ f.cells x c hc) h
    | free =>
      obtain ⟨c, hc⟩ := f.has x (.inr hk)
      exact wpAny_loadName_free ok.hk hk hc (hv ▸ f.cells x c hc) h hn
    | _ => cases hv

theorem tr_load {n : Nat} (ok : C.Ok n) {x : String} {v : V} {Q : V → St → Prop} (hf : find σ (Str.ofString x) = some (.val v)) (h : Q v σ) (hn : (Str.ofString x == ("__classdict__" : Str)) = false) : EvT C σ (loadName C.env (Str.ofString x)) Q := by
  intro F mine T s hA
  obtain ⟨m, cm, f⟩ := hA.frm
  obtain ⟨w, hw, hr⟩ := f.slots _ _ hf
  exact load_local ok f hw.val hn ⟨v, σ, mine, T, h, .refl _ _ _ _, hA, hr⟩

theorem ev_of_load {x : Str} {pos} {Q : V → St → Prop} (h : EvT C σ (loadName C.env x) Q) (hd : (x == ("__debug__" : Str)) = false) : Ev C σ (.Name x pos) Q :=
  fun F mine T s hA => wpAny_Name (h F mine T s hA) hd

theorem ev_name {n : Nat} (ok : C.Ok n) {x : String} {pos} {v : V} {Q : V → St → Prop} (hf : find σ (Str.ofString x) = some (.val v)) (h : Q v σ)
    (hn : (Str.ofString x == ("__classdict__" : Str)) = false := by decide) (hd : (Str.ofString x == ("__debug__" : Str)) = false := by decide) : Ev C σ (.Name (Str.ofString x) pos) Q :=
  ev_of_load (tr_load ok hf h hn) hd

/-- what is a frame's own may be let go: it stands for good -/
theorem Abs.freeze {F mine : List Addr} {T : TM} {s : Shared} (hA : Abs C F mine T σ s) {x : String} {sl : Slot} {a : Addr} (hf : find σ (Str.ofString x) = some sl) (ho : sl.adr = some a) (hxa : Str.ofString x ≠ anonS) :
    ∃ mine', (∀ a ∈ mine', a ∈ mine) ∧ Abs C F mine' T (put σ (Str.ofString x) x (.val sl.v)) s := by
  obtain ⟨m, cm, f⟩ := hA.frm
  obtain ⟨v, hv, hr⟩ := f.slots _ _ hf
  have hv := hv.real hxa
  obtain ⟨o1, o2, o3⟩ := f.own _ _ _ hf ho
  have sub : ∀ b ∈ mine.filter (· ≠ a), b ∈ mine := fun a ha => (List.mem_filter.mp ha).1
  have le : Le (view (F ++ mine) T s) (view (F ++ mine.filter (· ≠ a)) T s) := view_sub (app_sub sub)
  have hnF : a ∉ F ++ mine.filter (· ≠ a) := fun hm => by
    rcases List.mem_append.mp hm with hm | hm
    · exact hA.nin _ o1 hm
    · have := (List.mem_filter.mp hm).2; simp at this
  have hrep : Rep C.W (view (F ++ mine.filter (· ≠ a)) T s) sl.v v := hr.freeze ho (app_sub sub) hnF
  refine ⟨mine.filter (· ≠ a), sub, ⟨fun b o e => le.ob b o (hA.base b o e), fun a ha => hA.live a (app_sub sub a ha), fun a ha => hA.nin a (sub a ha), hA.tok, m, cm, ?_⟩⟩
  refine { ns := f.ns, cells := f.cells, apart := f.apart, lc := f.lc, has := f.has, lm := ?_, cown := ?_, cmine := ?_, slots := ?_, own := ?_, dis := ?_ }
  · exact List.mem_filter.mpr ⟨f.lm, by simpa using Ne.symm o2⟩
  · intro y c hc
    rcases List.mem_append.mp (f.cown y c hc) with hm | hm
    · exact List.mem_append_left _ hm
    · exact List.mem_append_right _ (List.mem_filter.mpr ⟨hm, by simpa using o3 y c hc⟩)
  · intro hc y c hyc
    exact List.mem_filter.mpr ⟨f.cmine hc y c hyc, by simpa using o3 y c hyc⟩
  · intro y sl' hy
    rw [find_put] at hy
    by_cases hxy : Str.ofString x = y
    · rw [if_pos hxy] at hy
      cases hy
      subst hxy
      exact ⟨v, .inl hv, hrep⟩
    · rw [if_neg hxy] at hy
      obtain ⟨v', hv', hr'⟩ := f.slots y sl' hy
      exact ⟨v', hv', hr'.mono le fun _ _ _ e => e⟩
  · intro y sl' b hy hb
    rw [find_put] at hy
    by_cases hxy : Str.ofString x = y
    · rw [if_pos hxy] at hy; cases hy; cases hb
    · rw [if_neg hxy] at hy
      obtain ⟨q1, q2, q3⟩ := f.own y sl' b hy hb
      have hne : b ≠ a := fun e => hxy (f.dis y _ sl' sl b hy hf hb (e ▸ ho)).symm
      exact ⟨List.mem_filter.mpr ⟨q1, by simpa using hne⟩, q2, q3⟩
  · intro y z sl1 sl2 b hy hz h1 h2
    rw [find_put] at hy hz
    by_cases hxy : Str.ofString x = y
    · rw [if_pos hxy] at hy; cases hy; cases h1
    · rw [if_neg hxy] at hy
      by_cases hxz : Str.ofString x = z
      · rw [if_pos hxz] at hz; cases hz; cases h2
      · rw [if_neg hxz] at hz
        exact f.dis y z sl1 sl2 b hy hz h1 h2

/-- a name's list or dict, the frame's own, stands from here on -/
theorem Tr.freeze {α β : Type} {R : PH → β → α → Prop} {t : Sem α} {Q : β → St → Prop} {x : String} {sl : Slot} {a : Addr} (hf : find σ (Str.ofString x) = some sl) (ho : sl.adr = some a)
    (h : Tr C (put σ (Str.ofString x) x (.val sl.v)) R t Q) (hxa : Str.ofString x ≠ anonS) : Tr C σ R t Q := by
  refine Tr.intro' fun F mine T s QQ fin hA => ?_
  obtain ⟨mine', sub, hA'⟩ := hA.freeze hf ho hxa
  have hp : Post F mine T s mine' T s := ⟨⟨_, _, rfl⟩, view_sub (app_sub sub), fun _ _ => rfl⟩
  refine Tr.then h hA' fun v s1 b σ1 m1 T1 q p1 a1 r => ?_
  exact fin _ _ b σ1 m1 T1 q (hp.trans p1) a1 r

theorem ev_glob {n : Nat} (ok : C.Ok n) {x : String} {pos} {v : Value} {Q : V → St → Prop} (hk : C.env.kindOf (Str.ofString x) = some .globalImplicit) (hg : C.W.gls.lookup x = some v) (h : Q (.val v) σ)
    (hd : (Str.ofString x == ("__debug__" : Str)) = false := by decide) : Ev C σ (.Name (Str.ofString x) pos) Q := by
  refine ev_prim fun own T s hO => ?_
  obtain ⟨mg, mb, h1, h2, h3⟩ := ok.W.gl
  have k := hO.kb
  rcases h3 x v hg with e | ⟨e1, e2⟩
  · exact Name_function_global ok.hk hk (loadGlobal_global (env := C.env) (ok.hg ▸ h1.keeps k) e (.same hO.tok h (.val _))) hd
  · exact Name_function_global ok.hk hk (loadGlobal_builtin (env := C.env) (ok.hg ▸ h1.keeps k) e1 (ok.hb ▸ h2.keeps k) e2 (.same hO.tok h (.val _))) hd

/-! ### storing a name -/
theorem valAt_local {env : Env} {m cm : Str → Option Value} {x y : Str} {v : Value} (hk : env.kindOf x = some .local) :
    valAt env (fun z => if z = x then some v else m z) cm y = if y = x then some v else valAt env m cm y := by
  unfold valAt
  by_cases h : y = x
  · subst h; rw [hk]; try simp
  · simp only [if_neg h]
theorem valAt_cell {env : Env} {m cm : Str → Option Value} {x y : Str} {v : Value} (hk : env.kindOf x = some .cell) :
    valAt env m (fun z => if z = x then some v else cm z) y = if y = x then some v else valAt env m cm y := by
  unfold valAt
  by_cases h : y = x
  · subst h; rw [hk]; try simp
  · simp only [if_neg h]

noncomputable def isHere (C : Cx) (x : Str) : Bool := C.env.kindOf x == some .local || (C.ownC && C.env.kindOf x == some .cell)

/-- the name x is bound to v; what v stands for is one slot more -/
theorem store_frm {n : Nat} (ok : C.Ok n) {F mine : List Addr} {T : TM} {s : Shared} (hA : Abs C F mine T σ s) {x : String} (hx : isHere C (Str.ofString x) = true) {v : Value} {sl : Slot}
    (hr : SlotRep C.W (view (F ++ mine) T s) s.heap sl v) {m cm : Str → Option Value} (f : Frm C F mine T σ s m cm)
    (hown : ∀ a, sl.adr = some a → a ∈ mine ∧ a ≠ C.env.locals ∧ (∀ y c, C.env.cells.lookup y = some c → c ≠ a) ∧ ∀ y sl', find σ y = some sl' → sl'.adr = some a → y = Str.ofString x)
    {M : Model} {A : Around} {E : Value → Shared → Prop} {Q : Unit → Shared → Prop} (h : ∀ s', Post F mine T s mine T s' → Abs C F mine T (put σ (Str.ofString x) x sl) s' → Q () s') : wpAny M A (storeName C.env (Str.ofString x) v) Q E s := by
  have hp : (C.env.scope.kind == .class || (C.env.scope.kind == .module && C.env.locals != C.env.globals)) = false := by rw [ok.hk]; rfl
  -- both roads turn one object L of the frame's own
  have fin : ∀ (L : Addr) (h' : Heap) (tk : Nat) (m' cm' : Str → Option Value), s.toks ≤ tk → L ∈ mine → (∀ a, sl.adr = some a → a ≠ L) → (∀ y sl' a, find σ y = some sl' → sl'.adr = some a → a ≠ L) → Heap.SameBut L s.heap h' → h'.Ns C.env.locals m' → (∀ y c, C.env.cells.lookup y = some c → h'.IsCell c (cm' y)) →
      (∀ y, valAt C.env m' cm' y = if y = Str.ofString x then some v else valAt C.env m cm y) → (h'.get? L).isSome = true → Q () { s with heap := h', toks := tk } := by
    intro L h' tk m' cm' htk hL haL hoL hs hns hcs hva hLs
    have le : Le (view (F ++ mine) T s) (view (F ++ mine) T { s with heap := h', toks := tk }) := ⟨fun b o e => view_mk (view_not e) ((hs.2 b (fun q => view_not e (q ▸ List.mem_append_right _ hL))).trans (view_of e)), fun _ _ e => e⟩
    have far : ∀ b ∈ F, h'.get? b = s.heap.get? b := fun b hb => hs.2 b (fun q => hA.nin L hL (q ▸ hb))
    refine h _ ⟨⟨_, _, rfl⟩, le, far⟩ ⟨fun b o e => le.ob b o (hA.base b o e), fun b hb => ?_, hA.nin, hA.tok.mono htk, m', cm', ?_⟩
    · by_cases hbL : b = L
      · subst hbL; exact hLs
      · show (h'.get? b).isSome = true
        rw [hs.2 b hbL]; exact hA.live b hb
    · refine { ns := hns, cells := hcs, apart := f.apart, lc := f.lc, has := f.has, lm := f.lm, cown := f.cown, cmine := f.cmine, slots := ?_, own := ?_, dis := ?_ }
      · intro y sl' hy
        rw [find_put] at hy
        unfold Bound
        rw [hva]
        by_cases hxy : Str.ofString x = y
        · rw [if_pos hxy] at hy
          cases hy
          subst hxy
          rw [if_pos rfl]
          exact ⟨v, .inl rfl, hr.mono le fun a ho o e => (hs.2 _ (haL a ho)).trans e⟩
        · rw [if_neg hxy] at hy
          rw [if_neg (Ne.symm hxy)]
          obtain ⟨v', hv', hr'⟩ := f.slots y sl' hy
          exact ⟨v', hv', hr'.mono le fun a ho o e => (hs.2 _ (hoL y sl' a hy ho)).trans e⟩
      · intro y sl' a hy ho
        rw [find_put] at hy
        by_cases hxy : Str.ofString x = y
        · rw [if_pos hxy] at hy
          cases hy
          obtain ⟨q1, q2, q3, _⟩ := hown a ho
          exact ⟨q1, q2, q3⟩
        · rw [if_neg hxy] at hy
          exact f.own y sl' a hy ho
      · intro y z sl1 sl2 a hy hz h1 h2
        rw [find_put] at hy hz
        by_cases hxy : Str.ofString x = y
        · rw [if_pos hxy] at hy
          cases hy
          by_cases hxz : Str.ofString x = z
          · exact hxy.symm.trans hxz
          · rw [if_neg hxz] at hz
            exact hxy.symm.trans ((hown a h1).2.2.2 z sl2 hz h2).symm
        · rw [if_neg hxy] at hy
          by_cases hxz : Str.ofString x = z
          · rw [if_pos hxz] at hz
            cases hz
            exact ((hown a h2).2.2.2 y sl1 hy h1).trans hxz
          · rw [if_neg hxz] at hz
            exact f.dis y z sl1 sl2 a hy hz h1 h2
  unfold isHere at hx
  cases hk : C.env.kindOf (Str.ofString x) with
  | none => rw [hk] at hx; simp at hx
  | some k =>
    cases k with
    | «local» =>
      refine wpAny_storeName_local hk f.ns (fun h' hn hs => ?_) hp
      refine fin C.env.locals h' _ _ cm (Nat.le_succ _) f.lm (fun a ho => (hown a ho).2.1) (fun y sl' a hy ho => (f.own y sl' a hy ho).2.1) hs hn (fun y c e => (f.cells y c e).sameBut hs (f.lc y c e)) (fun y => valAt_local hk) ?_
      obtain ⟨o, _, _, ho, _⟩ := hn
      rw [ho]; rfl
    | cell =>
      rw [hk] at hx
      have hoc : C.ownC = true := by simpa using hx
      obtain ⟨c, hc⟩ := f.has _ (.inl hk)
      refine wpAny_storeName_cell ok.hk hk hc (f.cells _ c hc) fun h' hv hs => ?_
      refine fin c h' s.toks m (fun z => if z = Str.ofString x then some v else cm z) (Nat.le_refl _) (f.cmine hoc _ c hc) (fun a ho => Ne.symm ((hown a ho).2.2.1 _ c hc)) (fun y sl' a hy ho => Ne.symm ((f.own y sl' a hy ho).2.2 _ c hc)) hs (f.ns.sameBut hs (Ne.symm (f.lc _ c hc)))
        (fun y c' e => ?_) (fun y => valAt_cell hk) ?_
      · by_cases hyx : y = Str.ofString x
        · subst hyx
          rw [hc] at e
          cases e
          simpa using hv
        · simp only [if_neg hyx]
          exact (f.cells y c' e).sameBut hs fun q => hyx (f.apart y _ c' e (q ▸ hc))
      · obtain ⟨o, ho, _⟩ := hv
        rw [ho]; rfl
    | _ => rw [hk] at hx; simp at hx

theorem store_val {n : Nat} (ok : C.Ok n) {F mine : List Addr} {T : TM} {s : Shared} (hA : Abs C F mine T σ s) {x : String} (hx : isHere C (Str.ofString x) = true) {v : Value} {u : V} (hr : Rep C.W (view (F ++ mine) T s) u v)
    {M : Model} {A : Around} {E : Value → Shared → Prop} {Q : Unit → Shared → Prop} (h : ∀ s', Post F mine T s mine T s' → Abs C F mine T (put σ (Str.ofString x) x (.val u)) s' → Q () s') : wpAny M A (storeName C.env (Str.ofString x) v) Q E s :=
  let ⟨_, _, f⟩ := hA.frm
  store_frm ok hA hx (sl := .val u) hr f (fun _ e => by cases e) h

/-! ### blocks -/
theorem exs_nil {Q : Fl → St → Prop} (h : Q .next σ) : Exs C σ [] Q :=
  fun F mine T s hA => wpAny_execs_nil ⟨.next, σ, mine, T, h, .refl _ _ _ _, hA, .next⟩

theorem exs_cons {st : Stmt} {rest : List Stmt} {Q : Fl → St → Prop} (h : Ex C σ st (fun fl σ' => match fl with | .next => Exs C σ' rest Q | fl => Q fl σ')) : Exs C σ (st :: rest) Q := by
  refine Tr.intro' fun F mine T s QQ fin hA => ?_
  refine wpAny_execs_cons (Tr.then h hA fun f s1 fl σ1 m1 T1 q p1 a1 r => ?_)
  cases r with
  | next =>
    refine Tr.then q a1 fun f2 s2 fl2 σ2 m2 T2 q2 p2 a2 r2 => ?_
    exact fin _ _ fl2 σ2 m2 T2 q2 (p1.trans p2) a2 r2
  | brk => exact fin _ _ _ σ1 m1 T1 q p1 a1 .brk
  | cont => exact fin _ _ _ σ1 m1 T1 q p1 a1 .cont
  | ret r => exact fin _ _ _ σ1 m1 T1 q p1 a1 (.ret r)

theorem ex_return {e : Expr} {pos} {Q : Fl → St → Prop} (h : Ev C σ e (fun v σ' => Q (.ret v) σ')) : Ex C σ (.Return (some e) pos) Q := by
  refine Tr.intro' fun F mine T s QQ fin hA => ?_
  refine wpAny_Return_some (Tr.then h hA fun f s1 v σ1 m1 T1 q p1 a1 r => ?_)
  exact fin _ _ (.ret v) σ1 m1 T1 q p1 a1 (.ret r)
theorem ex_if {test : Expr} {body orelse : List Stmt} {pos} {Q : Fl → St → Prop} (h : Tst C σ test (fun b σ' => (b = true → Exs C σ' body Q) ∧ (b = false → Exs C σ' orelse Q))) : Ex C σ (.If test body orelse pos) Q := by
  refine Tr.intro' fun F mine T s QQ fin hA => ?_
  refine wpAny_If (Tr.then h hA fun b s1 b' σ1 m1 T1 q p1 a1 r => ?_)
  have r : b' = b := r
  subst r
  cases b' with
  | true =>
    refine Tr.then (q.1 rfl) a1 fun f2 s2 fl2 σ2 m2 T2 q2 p2 a2 r2 => ?_
    exact fin _ _ fl2 σ2 m2 T2 q2 (p1.trans p2) a2 r2
  | false =>
    refine Tr.then (q.2 rfl) a1 fun f2 s2 fl2 σ2 m2 T2 q2 p2 a2 r2 => ?_
    exact fin _ _ fl2 σ2 m2 T2 q2 (p1.trans p2) a2 r2

/-- x = e, what e gives stands -/
theorem ex_assign {n : Nat} (ok : C.Ok n) {x : String} {p' e pos} {Q : Fl → St → Prop} (hx : isHere C (Str.ofString x) = true) (hs : swapsWith e (some (.Name (Str.ofString x) p')) pos.line C.env = pure false)
    (h : Ev C σ e (fun v σ' => Q .next (put σ' (Str.ofString x) x (.val v)))) : Ex C σ (.Assign [.Name (Str.ofString x) p'] e pos) Q := by
  refine Tr.intro' fun F mine T s QQ fin hA => ?_
  refine wpAny_Assign_Name (Tr.then h hA fun v s1 u σ1 m1 T1 q p1 a1 r => ?_) hs
  refine store_val ok a1 hx r fun s2 p2 a2 => fin _ _ .next _ m1 T1 q (p1.trans p2) a2 .next

structure AbsN (C : Cx) (F mine : List Addr) (a : Addr) (T : TM) (σ : St) (s : Shared) : Prop where
  base : ∀ b o, C.W.h₀.get? b = some o → (view (F ++ (a :: mine)) T s).ob b = some o
  live : ∀ b ∈ F ++ (a :: mine), (s.heap.get? b).isSome = true
  nin : ∀ b ∈ a :: mine, b ∉ F
  tok : TOk T s.toks
  frm : ∃ m cm, Frm C F (a :: mine) T σ s m cm ∧ a ≠ C.env.locals ∧ (∀ y c, C.env.cells.lookup y = some c → c ≠ a) ∧ ∀ y sl, find σ y = some sl → sl.adr ≠ some a

theorem AbsN.abs {F mine : List Addr} {a : Addr} {T : TM} {s : Shared} (x : AbsN C F mine a T σ s) : Abs C F (a :: mine) T σ s :=
  ⟨x.base, x.live, x.nin, x.tok, let ⟨m, cm, f, _⟩ := x.frm; ⟨m, cm, f⟩⟩

/-- the new object stands for good -/
theorem AbsN.drop {F mine : List Addr} {a : Addr} {T : TM} {s : Shared} (hn : a ∉ mine) (x : AbsN C F mine a T σ s) : Abs C F mine T σ s := by
  obtain ⟨m, cm, f, h1, h2, h3⟩ := x.frm
  have sub : ∀ b ∈ F ++ mine, b ∈ F ++ (a :: mine) := app_sub fun b hb => List.mem_cons_of_mem _ hb
  have le := view_sub (T := T) (s := s) sub
  have mm : ∀ b, b ∈ a :: mine → b ≠ a → b ∈ mine := fun b hb hne => (List.mem_cons.mp hb).resolve_left hne
  refine ⟨fun b o e => le.ob b o (x.base b o e), fun b hb => x.live b (sub b hb), fun b hb => x.nin b (List.mem_cons_of_mem _ hb), x.tok, m, cm, ?_⟩
  refine { ns := f.ns, cells := f.cells, apart := f.apart, lc := f.lc, has := f.has, lm := mm _ f.lm (Ne.symm h1), cown := ?_, cmine := fun hc y c e => mm _ (f.cmine hc y c e) (h2 y c e), slots := ?_, own := ?_, dis := f.dis }
  · intro y c e
    rcases List.mem_append.mp (f.cown y c e) with hm | hm
    · exact List.mem_append_left _ hm
    · exact List.mem_append_right _ (mm _ hm (h2 y c e))
  · intro y sl e
    obtain ⟨v, hv, hr⟩ := f.slots y sl e
    exact ⟨v, hv, hr.mono le fun _ _ _ e => e⟩
  · intro y sl b e ho
    obtain ⟨q1, q2, q3⟩ := f.own y sl b e ho
    exact ⟨mm _ q1 (fun q => h3 y sl e (q ▸ ho)), q2, q3⟩

/-- a tree that gives a new object -/
noncomputable def EvF (C : Cx) (σ : St) (t : Sem Value) (Q : Slot → St → Prop) : Prop :=
  ∀ F mine T s, Abs C F mine T σ s → wpAny C.M C.A t (fun v s' => ∃ sl σ' mine' a T', Q sl σ' ∧ sl.adr = some a ∧ Post F mine T s (a :: mine') T' s' ∧ a ∉ mine' ∧ AbsN C F mine' a T' σ' s' ∧ SlotRep C.W (view (F ++ (a :: mine')) T' s') s'.heap sl v) C.X s

theorem EvF.intro' {C : Cx} {σ : St} {t : Sem Value} {Q : Slot → St → Prop}
    (h : ∀ F mine T s (QQ : Value → Shared → Prop), (∀ v s' sl σ' mine' a T', Q sl σ' → sl.adr = some a → Post F mine T s (a :: mine') T' s' → a ∉ mine' → AbsN C F mine' a T' σ' s' → SlotRep C.W (view (F ++ (a :: mine')) T' s') s'.heap sl v → QQ v s') → Abs C F mine T σ s → wpAny C.M C.A t QQ C.X s) : EvF C σ t Q :=
  fun F mine T s hA => h F mine T s _ (fun _ _ sl σ' m' a T' x y z w u v => ⟨sl, σ', m', a, T', x, y, z, w, u, v⟩) hA
theorem EvF.mono {t : Sem Value} {Q Q' : Slot → St → Prop} (h : EvF C σ t Q) (hq : ∀ b σ, Q b σ → Q' b σ) : EvF C σ t Q' :=
  fun F mine T s hA => wpAny_mono (h F mine T s hA) (fun _ _ ⟨b, σ', m', a, T', q, r⟩ => ⟨b, σ', m', a, T', hq _ _ q, r⟩) fun _ _ x => x

theorem EvF.ev {t : Sem Value} {Q : V → St → Prop} (h : EvF C σ t (fun sl σ' => Q sl.v σ')) : EvT C σ t Q := by
  intro F mine T s hA
  refine wpAny_mono (h F mine T s hA) ?_ fun _ _ x => x
  rintro v s1 ⟨sl, σ1, m1, a, T1, q, ho, p1, hn, a1, r⟩
  have a2 := a1.drop hn
  have sub : ∀ b ∈ F ++ m1, b ∈ F ++ (a :: m1) := app_sub fun b hb => List.mem_cons_of_mem _ hb
  refine ⟨sl.v, σ1, m1, T1, q, ⟨p1.same, p1.le.trans (view_sub sub), p1.far⟩, a2, r.freeze ho sub fun hm => ?_⟩
  rcases List.mem_append.mp hm with hm | hm
  · exact a1.nin a List.mem_cons_self hm
  · exact hn hm

/-- one object more, and it is new -/
theorem Abs.new {F mine : List Addr} {T T' : TM} {s s' : Shared} (hA : Abs C F mine T σ s) (k : Kp T s T' s') {a : Addr} (hn : s.heap.get? a = none) (hs : (s'.heap.get? a).isSome = true) :
    Post F mine T s (a :: mine) T' s' ∧ a ∉ mine ∧ AbsN C F mine a T' σ s' ∧ Le (view (a :: (F ++ mine)) T' s') (view (F ++ (a :: mine)) T' s') := by
  have hnew : ∀ b ∈ F ++ mine, b ≠ a := fun b hb e => hA.ownOk.fresh hn (e ▸ hb)
  have hA1 := hA.keeps k
  have le : Le (view (F ++ mine) T s) (view (F ++ (a :: mine)) T' s') := ⟨fun b o e => by
    have e1 := k.view.ob b o e
    refine view_mk (fun hm => ?_) (view_of e1)
    rcases List.mem_append.mp hm with hm | hm
    · exact view_not e1 (List.mem_append_left _ hm)
    · rcases List.mem_cons.mp hm with rfl | hm
      · rw [view_of e] at hn; cases hn
      · exact view_not e1 (List.mem_append_right _ hm), k.tle⟩
  have pk := k.post hA.live
  have eqv : Le (view (a :: (F ++ mine)) T' s') (view (F ++ (a :: mine)) T' s') := view_sub fun b hb => by
    rcases List.mem_append.mp hb with hb | hb
    · exact List.mem_cons_of_mem _ (List.mem_append_left _ hb)
    · rcases List.mem_cons.mp hb with rfl | hb
      · exact List.mem_cons_self
      · exact List.mem_cons_of_mem _ (List.mem_append_right _ hb)
  refine ⟨⟨pk.same, le, pk.far⟩, fun hm => hnew a (List.mem_append_right _ hm) rfl, ?_, eqv⟩
  obtain ⟨m, cm, f⟩ := hA.frm
  have f1 : Frm C F mine T' σ s' m cm := f.keeps k
  refine ⟨fun b o e => le.ob b o (hA.base b o e), fun b hb => ?_, fun b hb => ?_, k.tok, m, cm, ?_, fun e => hnew _ (List.mem_append_right _ f.lm) e.symm, fun y c e => hnew c (f.cown y c e), fun y sl' e ho' => hnew _ (List.mem_append_right _ (f.own y sl' a e ho').1) rfl⟩
  · rcases List.mem_append.mp hb with hb | hb
    · exact hA1.live b (List.mem_append_left _ hb)
    · rcases List.mem_cons.mp hb with rfl | hb
      · exact hs
      · exact hA1.live b (List.mem_append_right _ hb)
  · rcases List.mem_cons.mp hb with rfl | hb
    · exact fun hF => hnew _ (List.mem_append_left _ hF) rfl
    · exact hA.nin b hb
  · refine { ns := f1.ns, cells := f1.cells, apart := f1.apart, lc := f1.lc, has := f1.has, lm := List.mem_cons_of_mem _ f1.lm, cown := ?_, cmine := fun hc y c e => List.mem_cons_of_mem _ (f1.cmine hc y c e), slots := ?_, own := ?_, dis := f1.dis }
    · intro y c e
      rcases List.mem_append.mp (f1.cown y c e) with hm | hm
      · exact List.mem_append_left _ hm
      · exact List.mem_append_right _ (List.mem_cons_of_mem _ hm)
    · intro y sl' e
      obtain ⟨v, hv, hr⟩ := f.slots y sl' e
      exact ⟨v, hv, hr.mono le fun _ _ o e => k.keep _ o e⟩
    · intro y sl' b e ho'
      obtain ⟨q1, q2, q3⟩ := f1.own y sl' b e ho'
      exact ⟨List.mem_cons_of_mem _ q1, q2, q3⟩

theorem EvF.prim {t : Sem Value} {Q : Slot → St → Prop} (h : ∀ own T s, OwnOk C own T s → PrimF C own T s t (fun sl => Q sl σ)) : EvF C σ t Q := by
  refine EvF.intro' fun F mine T s QQ fin hA => ?_
  refine wpAny_mono (h (F ++ mine) T s hA.ownOk) ?_ fun _ _ x => x
  rintro v s1 ⟨sl, T1, a, q, ho, k, hn, hs, r⟩
  obtain ⟨p1, hm, a1, le⟩ := hA.new k hn hs
  exact fin _ _ sl σ mine a T1 q ho p1 hm a1 (r.mono le fun _ _ _ e => e)

/-- x = e, what e gives is new and the frame's own -/
theorem ex_assignN {n : Nat} (ok : C.Ok n) {x : String} {p' e pos} {Q : Fl → St → Prop} (hx : isHere C (Str.ofString x) = true) (hs : swapsWith e (some (.Name (Str.ofString x) p')) pos.line C.env = pure false)
    (h : EvF C σ (eval e C.env) (fun sl σ' => Q .next (put σ' (Str.ofString x) x sl))) : Ex C σ (.Assign [.Name (Str.ofString x) p'] e pos) Q := by
  intro F mine T s hA
  refine wpAny_Assign_Name (wpAny_mono (h F mine T s hA) ?_ fun _ _ x => x) hs
  rintro v s1 ⟨sl, σ1, m1, a, T1, q, ho, p1, hn, a1, r⟩
  obtain ⟨m, cm, f, h1, h2, h3⟩ := a1.frm
  refine store_frm ok a1.abs hx r f (fun b hb => ?_) fun s2 p2 a2 => ⟨.next, _, _, T1, q, p1.trans p2, a2, .next⟩
  rw [ho] at hb
  cases hb
  exact ⟨List.mem_cons_self, h1, h2, fun y sl' e1 e2 => absurd e2 (h3 y sl' e1)⟩

/-- a list or dict of the frame's own turns -/
theorem Abs.mutate {F mine : List Addr} {T T' : TM} {s s' : Shared} (hA : Abs C F mine T σ s) {x : String} {sl sl' : Slot} {a : Addr} (hf : find σ (Str.ofString x) = some sl) (ho : sl.adr = some a) (ho' : sl'.adr = some a)
    (hsame : ∃ h' tk, s' = { s with heap := h', toks := tk }) (hs : ∀ b o, b ≠ a → s.heap.get? b = some o → s'.heap.get? b = some o) (hl : (s'.heap.get? a).isSome = true) (hT : TLe T T') (ht : TOk T' s'.toks)
    (hr : ∀ g', Le (view (F ++ mine) T s) g' → Le g' (view (F ++ mine) T' s') → SlotRep C.W (view (F ++ mine) T' s') s'.heap sl' (.ref a)) : Post F mine T s mine T' s' ∧ Abs C F mine T' (put σ (Str.ofString x) x sl') s' := by
  obtain ⟨m, cm, f⟩ := hA.frm
  obtain ⟨v, hv, hr0⟩ := f.slots _ _ hf
  obtain ⟨o1, o2, o3⟩ := f.own _ _ _ hf ho
  have hva := hr0.ref ho
  have le : Le (view (F ++ mine) T s) (view (F ++ mine) T' s') := ⟨fun b o e => view_mk (view_not e) (hs b o (fun q => view_not e (q ▸ List.mem_append_right _ o1)) (view_of e)), hT⟩
  have hr := hr _ le (.refl _)
  have far : ∀ b ∈ F, s'.heap.get? b = s.heap.get? b := fun b hb => by
    obtain ⟨o, ho⟩ := Option.isSome_iff_exists.mp (hA.live b (List.mem_append_left _ hb))
    rw [ho]; exact hs b o (fun q => hA.nin a o1 (q ▸ hb)) ho
  refine ⟨⟨hsame, le, far⟩, fun b o e => le.ob b o (hA.base b o e), fun b hb => ?_, hA.nin, ht, m, cm, ?_⟩
  · by_cases q : b = a
    · subst q; exact hl
    · obtain ⟨o, ho⟩ := Option.isSome_iff_exists.mp (hA.live b hb)
      rw [hs b o q ho]; rfl
  · refine { ns := f.ns.at' fun o e => hs _ o (Ne.symm o2) e, cells := fun y c e => ?_, apart := f.apart, lc := f.lc, has := f.has, lm := f.lm, cown := f.cown, cmine := f.cmine, slots := ?_, own := ?_, dis := ?_ }
    · obtain ⟨o, ho, hd⟩ := f.cells y c e
      exact ⟨o, hs c o (o3 y c e) ho, hd⟩
    · intro y sl1 hy
      rw [find_put] at hy
      by_cases hxy : Str.ofString x = y
      · rw [if_pos hxy] at hy
        cases hy
        subst hxy
        refine ⟨.ref a, ?_, hr⟩
        rcases hv with hv | ⟨h1, _, b, h2, h3⟩
        · exact .inl (hva ▸ hv)
        · rw [hva] at h3
          cases h3
          exact .inr ⟨h1, by unfold Slot.owned; rw [ho']; rfl, a, h2, rfl⟩
      · rw [if_neg hxy] at hy
        obtain ⟨v', hv', hr'⟩ := f.slots y sl1 hy
        exact ⟨v', hv', hr'.mono le fun b hb o e => hs b o (fun q => hxy (f.dis _ y sl sl1 a hf hy ho (q ▸ hb))) e⟩
    · intro y sl1 b hy hb
      rw [find_put] at hy
      by_cases hxy : Str.ofString x = y
      · rw [if_pos hxy] at hy
        cases hy
        rw [ho'] at hb
        cases hb
        exact ⟨o1, o2, o3⟩
      · rw [if_neg hxy] at hy
        exact f.own y sl1 b hy hb
    · intro y z sl1 sl2 b hy hz h1 h2
      rw [find_put] at hy hz
      by_cases hxy : Str.ofString x = y
      · rw [if_pos hxy] at hy
        cases hy
        rw [ho'] at h1
        cases h1
        by_cases hxz : Str.ofString x = z
        · exact hxy.symm.trans hxz
        · rw [if_neg hxz] at hz
          exact hxy.symm.trans (f.dis _ z sl sl2 a hf hz ho h2)
      · rw [if_neg hxy] at hy
        by_cases hxz : Str.ofString x = z
        · rw [if_pos hxz] at hz
          cases hz
          rw [ho'] at h2
          cases h2
          exact (f.dis y _ sl1 sl a hy hf h1 ho).trans hxz
        · rw [if_neg hxz] at hz
          exact f.dis y z sl1 sl2 b hy hz h1 h2

end
end Sx
end
section
open PySem PySem.W PyProof.Rows PySem.Calls
set_option linter.unusedVariables false
set_option Elab.async false
set_option maxRecDepth 100000
namespace Sx

/-- a step on two values -/
noncomputable def Op2 {α β : Type} (C : Cx) (R : PH → β → α → Prop) (f : Value → Value → Sem α) (a b : V) (K : β → Prop) : Prop :=
  ∀ own T s va vb, OwnOk C own T s → Rep C.W (view own T s) a va → Rep C.W (view own T s) b vb → PrimR C own T s R (f va vb) K
noncomputable def Op1 {α β : Type} (C : Cx) (R : PH → β → α → Prop) (f : Value → Sem α) (a : V) (K : β → Prop) : Prop :=
  ∀ own T s va, OwnOk C own T s → Rep C.W (view own T s) a va → PrimR C own T s R (f va) K
noncomputable def OpL {α β : Type} (C : Cx) (R : PH → β → α → Prop) (f : List Value → Sem α) (as : List V) (K : β → Prop) : Prop :=
  ∀ own T s vs, OwnOk C own T s → RepL C.W (view own T s) as vs → PrimR C own T s R (f vs) K
noncomputable def Op2F (C : Cx) (f : Value → Value → Sem Value) (a b : V) (K : Slot → Prop) : Prop :=
  ∀ own T s va vb, OwnOk C own T s → Rep C.W (view own T s) a va → Rep C.W (view own T s) b vb → PrimF C own T s (f va vb) K
noncomputable def OpLF (C : Cx) (f : List Value → Sem Value) (as : List V) (K : Slot → Prop) : Prop :=
  ∀ own T s vs, OwnOk C own T s → RepL C.W (view own T s) as vs → PrimF C own T s (f vs) K

noncomputable def IsTy (W : Wd) (a : V) (T : String) : Prop := ∀ (g : PH) (s : Shared) (va : Value), Rep W g a va → (∀ c o, g.ob c = some o → s.heap.get? c = some o) → s.TypeIs va T

section
variable {C : Cx} {σ : St}

theorem Tr.ofRep {α β : Type} {R : PH → β → α → Prop} {f : Value → Sem α} {Q : β → St → Prop} {a : V} (h : Op1 C R f a (fun b => Q b σ)) : ∀ F mine T s va, Abs C F mine T σ s → Rep C.W (view (F ++ mine) T s) a va →
    wpAny C.M C.A (f va) (fun x s' => ∃ b σ' mine' T', Q b σ' ∧ Post F mine T s mine' T' s' ∧ Abs C F mine' T' σ' s' ∧ R (view (F ++ mine') T' s') b x) C.X s :=
  fun F mine T s va hA r => wpAny_mono (h _ T s va hA.ownOk r) (fun _ _ ⟨b, T', q, k, r⟩ => ⟨b, σ, mine, T', q, k.post hA.live, hA.keeps k, r⟩) fun _ _ x => x

theorem ev_bin {l r : Expr} {op : Operator} {p : Pos} {Q : V → St → Prop} (h : Ev C σ l (fun a σ1 => Ev C σ1 r (fun b σ2 => Op2 C (Rep C.W) (binaryOp op) a b (fun v => Q v σ2)))) : Ev C σ (.BinOp l op r p) Q := by
  refine Tr.intro' fun F mine T s QQ fin hA => ?_
  refine wpAny_BinOp (Tr.then h hA fun va s1 a σ1 m1 T1 hQ p1 a1 r1 => ?_)
  refine Tr.then hQ a1 fun vb s2 b σ2 m2 T2 hQ2 p2 a2 r2 => ?_
  refine PrimR.then (hQ2 _ T2 s2 va vb a2.ownOk (r1.mono p2.le) r2) fun vc s3 c T3 q k r3 => ?_
  exact fin _ _ c σ2 m2 T3 q ((p1.trans p2).trans (k.post a2.live)) (a2.keeps k) r3

theorem evF_bin {l r : Expr} {op : Operator} {p : Pos} {Q : Slot → St → Prop} (h : Ev C σ l (fun a σ1 => Ev C σ1 r (fun b σ2 => Op2F C (binaryOp op) a b (fun v => Q v σ2)))) : EvF C σ (eval (.BinOp l op r p) C.env) Q := by
  refine EvF.intro' fun F mine T s QQ fin hA => ?_
  refine wpAny_BinOp (Tr.then h hA fun va s1 a σ1 m1 T1 hQ p1 a1 r1 => ?_)
  refine Tr.then hQ a1 fun vb s2 b σ2 m2 T2 hQ2 p2 a2 r2 => ?_
  refine wpAny_mono (hQ2 _ T2 s2 va vb a2.ownOk (r1.mono p2.le) r2) ?_ fun _ _ x => x
  rintro vc s3 ⟨sl, T3, a, q, ho, k, hn, hs, r3⟩
  obtain ⟨p3, hm, a3, le⟩ := a2.new k hn hs
  exact fin _ _ sl σ2 m2 a T3 q ho ((p1.trans p2).trans p3) hm a3 (r3.mono le fun _ _ _ e => e)

theorem ev_cmp {l r : Expr} {op : CmpOp} {p : Pos} {Q : V → St → Prop} (h : Ev C σ l (fun a σ1 => Ev C σ1 r (fun b σ2 => Op2 C (Rep C.W) (compareOp op) a b (fun v => Q v σ2))))
    (hm : behindInMarks op r = false := by with_unfolding_all rfl) : Ev C σ (.Compare l [op] [r] p) Q := by
  refine Tr.intro' fun F mine T s QQ fin hA => ?_
  refine wpAny_Compare1 (Tr.then h hA fun va s1 a σ1 m1 T1 hQ p1 a1 r1 => ?_) hm
  refine Tr.then hQ a1 fun vb s2 b σ2 m2 T2 hQ2 p2 a2 r2 => ?_
  refine PrimR.then (hQ2 _ T2 s2 va vb a2.ownOk (r1.mono p2.le) r2) fun vc s3 c T3 q k r3 => ?_
  exact fin _ _ c σ2 m2 T3 q ((p1.trans p2).trans (k.post a2.live)) (a2.keeps k) r3

/-- a comparison in a test: its value is a bool -/
theorem tst_cmp {l r : Expr} {op : CmpOp} {p : Pos} {Q : Bool → St → Prop} (h : Ev C σ l (fun a σ1 => Ev C σ1 r (fun b σ2 => Op2 C (Rep C.W) (compareOp op) a b (fun v => ∃ b, v = .bool b ∧ Q b σ2))))
    (hm : behindInMarks op r = false := by with_unfolding_all rfl) : Tst C σ (.Compare l [op] [r] p) Q := by
  refine Tr.intro' fun F mine T s QQ fin hA => ?_
  refine wpAny_isTrue_Compare1 (Tr.then h hA fun va s1 a σ1 m1 T1 hQ p1 a1 r1 => ?_) hm
  refine Tr.then hQ a1 fun vb s2 b σ2 m2 T2 hQ2 p2 a2 r2 => ?_
  refine wpAny_mono (hQ2 _ T2 s2 va vb a2.ownOk (r1.mono p2.le) r2) ?_ fun _ _ x => x
  rintro vc s3 ⟨c, T3, ⟨b, rfl, q⟩, k, r3⟩
  cases r3
  exact wpAny_truthy_bool (fin _ _ b σ2 m2 T3 q ((p1.trans p2).trans (k.post a2.live)) (a2.keeps k) rfl)

/-- a test that is just a value -/
theorem tst_val {e : Expr} {Q : Bool → St → Prop} (h : Ev C σ e (fun a σ1 => Op1 C RB truthy a (fun b => Q b σ1))) (he : isTrue e C.env (eval e C.env) = (do let v ← eval e C.env; standAt e.pos; holding [v] (truthy v)) := by rfl) : Tst C σ e Q := by
  refine Tr.intro' fun F mine T s QQ fin hA => ?_
  rw [he]
  refine wpAny_bind (Tr.then h hA fun va s1 a σ1 m1 T1 hQ p1 a1 r1 => ?_)
  refine wpAny_bind (wpAny_standAt (wpAny_holding (wpAny_mono (Tr.ofRep (Q := Q) hQ F m1 T1 s1 va a1 r1) ?_ fun _ _ x => x)))
  rintro b s2 ⟨b', σ2, m2, T2, q, p2, a2, r2⟩
  exact fin _ _ b' σ2 m2 T2 q (p1.trans p2) a2 r2

theorem tst_not {e : Expr} {p : Pos} {Q : Bool → St → Prop} (h : Tst C σ e (fun b σ' => Q (!b) σ')) : Tst C σ (.UnaryOp .Not e p) Q := by
  refine Tr.intro' fun F mine T s QQ fin hA => ?_
  refine wpAny_isTrue_Not (Tr.then h hA fun b s1 b' σ1 m1 T1 q p1 a1 r => ?_)
  have r : b' = b := r
  subst r
  exact fin _ _ _ σ1 m1 T1 q p1 a1 rfl

noncomputable abbrev AllT (C : Cx) (σ : St) (op : BoolOp) (es : List Expr) (Q : Bool → St → Prop) : Prop := Tr C σ RB (allTrue op es C.env) Q
theorem tst_bool {op : BoolOp} {es : List Expr} {p : Pos} {Q : Bool → St → Prop} (h : AllT C σ op es Q) : Tst C σ (.BoolOp op es p) Q :=
  fun F mine T s hA => wpAny_isTrue_BoolOp (h F mine T s hA)
theorem allT_or_nil {Q : Bool → St → Prop} (h : Q false σ) : AllT C σ .Or [] Q := fun F mine T s hA => wpAny_allTrue_Or_nil ⟨_, _, _, T, h, .refl _ _ _ _, hA, rfl⟩
theorem allT_or {e : Expr} {es : List Expr} {Q : Bool → St → Prop} (h : Tst C σ e (fun b σ' => (b = false → AllT C σ' .Or es Q) ∧ (b = true → Q true σ'))) : AllT C σ .Or (e :: es) Q := by
  refine Tr.intro' fun F mine T s QQ fin hA => ?_
  rw [arm_allTrue_cons]
  refine wpAny_bind (Tr.then h hA fun b s1 b' σ1 m1 T1 q p1 a1 r => ?_)
  have r : b' = b := r
  subst r
  cases b' with
  | false =>
    refine Tr.then (q.1 rfl) a1 fun b2 s2 b2' σ2 m2 T2 q2 p2 a2 r2 => ?_
    exact fin _ _ b2' σ2 m2 T2 q2 (p1.trans p2) a2 r2
  | true => exact wpAny_pure (fin _ _ true σ1 m1 T1 (q.2 rfl) p1 a1 rfl)

theorem ev_ifexp {t a b : Expr} {p : Pos} {Q : V → St → Prop} (h : Tst C σ t (fun c σ' => (c = true → Ev C σ' a Q) ∧ (c = false → Ev C σ' b Q))) : Ev C σ (.IfExp t a b p) Q := by
  refine Tr.intro' fun F mine T s QQ fin hA => ?_
  rw [arm_eval_IfExp]
  refine wpAny_bind (Tr.then h hA fun c s1 b' σ1 m1 T1 q p1 a1 r => ?_)
  have r : b' = c := r
  subst r
  cases b' with
  | true =>
    refine Tr.then (q.1 rfl) a1 fun b2 s2 b2' σ2 m2 T2 q2 p2 a2 r2 => ?_
    exact fin _ _ b2' σ2 m2 T2 q2 (p1.trans p2) a2 r2
  | false =>
    refine Tr.then (q.2 rfl) a1 fun b2 s2 b2' σ2 m2 T2 q2 p2 a2 r2 => ?_
    exact fin _ _ b2' σ2 m2 T2 q2 (p1.trans p2) a2 r2

/-- not e, as a value -/
theorem ev_un {op : UnaryOp} {e : Expr} {p : Pos} {Q : V → St → Prop} (h : Ev C σ e (fun a σ1 => Op1 C (Rep C.W) (unaryOp op) a (fun b => Q b σ1))) : Ev C σ (.UnaryOp op e p) Q := by
  refine Tr.intro' fun F mine T s QQ fin hA => ?_
  refine wpAny_UnaryOp (Tr.then h hA fun va s1 a σ1 m1 T1 hQ p1 a1 r1 => ?_)
  refine wpAny_mono (Tr.ofRep (Q := Q) hQ F m1 T1 s1 va a1 r1) ?_ fun _ _ x => x
  rintro b s2 ⟨b', σ2, m2, T2, q, p2, a2, r2⟩
  exact fin _ _ b' σ2 m2 T2 q (p1.trans p2) a2 r2

/-! ### rows of items -/
theorem evL_nil {pos : Pos} {Q : List V → St → Prop} (h : Q [] σ) : EvL C σ pos [] Q := fun F mine T s hA => wpAny_items_nil ⟨[], σ, mine, T, h, .refl _ _ _ _, hA, .nil⟩
theorem backTo_cons {pos : Pos} {e : Expr} {rest : List Expr} (hs : starEach (e :: rest) C.env = (false, eval e C.env) :: starEach rest C.env) :
    backTo pos (starEach (e :: rest) C.env) = (false, eval e C.env) :: backTo pos (starEach rest C.env) := by rw [hs]; rfl
theorem evL_cons {pos : Pos} {e : Expr} {rest : List Expr} {Q : List V → St → Prop} (h : Ev C σ e (fun v σ1 => EvL C σ1 pos rest (fun vs σ2 => Q (v :: vs) σ2)))
    (hs : starEach (e :: rest) C.env = (false, eval e C.env) :: starEach rest C.env := by rfl) : EvL C σ pos (e :: rest) Q := by
  refine Tr.intro' fun F mine T s QQ fin hA => ?_
  rw [backTo_cons hs]
  refine spliced_cons (Tr.then h hA fun va s1 a σ1 m1 T1 hQ p1 a1 r1 => ?_)
  refine Tr.then hQ a1 fun vb s2 vs σ2 m2 T2 hQ2 p2 a2 r2 => ?_
  exact fin _ _ (a :: vs) σ2 m2 T2 hQ2 (p1.trans p2) a2 (.cons (r1.mono p2.le) r2)

theorem evF_ofL {pos : Pos} {es : List Expr} {f : List Value → Sem Value} {Q : Slot → St → Prop} (h : EvL C σ pos es (fun vs σ1 => OpLF C f vs (fun sl => Q sl σ1))) :
    EvF C σ (do f (← spliced (backTo pos (starEach es C.env)))) Q := by
  intro F mine T s hA
  refine wpAny_bind (Tr.then h hA fun vs s1 as σ1 m1 T1 hQ p1 a1 r1 => ?_)
  refine wpAny_mono (hQ _ T1 s1 vs a1.ownOk r1) ?_ fun _ _ x => x
  rintro v s2 ⟨sl, T2, a, q, ho, k, hn, hs, r2⟩
  obtain ⟨p2, hm, a2, le⟩ := a1.new k hn hs
  exact ⟨sl, σ1, m1, a, T2, q, ho, p1.trans p2, hm, a2, r2.mono le fun _ _ _ e => e⟩
theorem ev_ofL {pos : Pos} {es : List Expr} {f : List Value → Sem Value} {Q : V → St → Prop} (h : EvL C σ pos es (fun vs σ1 => OpL C (Rep C.W) f vs (fun sl => Q sl σ1))) :
    EvT C σ (do f (← spliced (backTo pos (starEach es C.env)))) Q := by
  refine Tr.intro' fun F mine T s QQ fin hA => ?_
  refine wpAny_bind (Tr.then h hA fun vs s1 as σ1 m1 T1 hQ p1 a1 r1 => ?_)
  refine PrimR.then (hQ _ T1 s1 vs a1.ownOk r1) fun v s2 b T2 q k r2 => ?_
  exact fin _ _ b σ1 m1 T2 q (p1.trans (k.post a1.live)) (a1.keeps k) r2

theorem Tr.standAt {α β : Type} {R : PH → β → α → Prop} {pos : Pos} {t : Sem α} {Q : β → St → Prop} (h : Tr C σ R t Q) : Tr C σ R (do standAt pos; t) Q := fun F mine T s hA => wpAny_bind (wpAny_standAt (h F mine T s hA))
theorem EvF.standAt {pos : Pos} {t : Sem Value} {Q : Slot → St → Prop} (h : EvF C σ t Q) : EvF C σ (do standAt pos; t) Q := fun F mine T s hA => wpAny_bind (wpAny_standAt (h F mine T s hA))

theorem newList_op {vs : List V} {K : Slot → Prop} (h : ∀ a, K (.list a vs)) (hl : vs.length ≤ sizeLine) : OpLF C newList vs K := by
  intro own T s ws hO hr
  refine wpAny_newObj_type ?_ (by show ws.toArray.size ≤ sizeLine; rw [List.size_toArray, hr.length]; exact hl)
  have hk : Kp T s T { s with heap := s.heap.push { cls := .type "list", data := .seq ws.toArray } } := .push hO.tok (Nat.le_refl _)
  have hn := fresh_size s.heap
  refine ⟨.list s.heap.objs.size vs, T, s.heap.objs.size, h _, rfl, hk, hn, by rw [Heap.get?_push_size _ rfl]; rfl, rfl, ws, ⟨0, Heap.get?_push_size _ rfl⟩, ?_⟩
  refine hr.mono ⟨fun b o e => view_mk (fun hm => ?_) (hk.keep b o (view_of e)), fun _ _ e => e⟩
  rcases List.mem_cons.mp hm with rfl | hm
  · rw [view_of e] at hn; cases hn
  · exact view_not e hm
theorem newTuple_op {vs : List V} {K : V → Prop} (h : K (.tup vs)) (hl : vs.length ≤ sizeLine) : OpL C (Rep C.W) newTuple vs K := by
  intro own T s ws hO hr
  refine wpAny_newObj_type ?_ (by show ws.toArray.size ≤ sizeLine; rw [List.size_toArray, hr.length]; exact hl)
  have hk : Kp T s T { s with heap := s.heap.push { cls := .type "tuple", data := .seq ws.toArray } } := .push hO.tok (Nat.le_refl _)
  have hn := fresh_size s.heap
  exact ⟨_, T, h, hk, .tup (view_mk (hO.fresh hn) (Heap.get?_push_size _ rfl)) rfl rfl (hr.mono hk.view)⟩

theorem evF_list {es : List Expr} {pos : Pos} {Q : Slot → St → Prop} (h : EvL C σ pos es (fun vs σ1 => vs.length ≤ sizeLine ∧ ∀ a, Q (.list a vs) σ1)) : EvF C σ (eval (.List es pos) C.env) Q := by
  rw [arm_eval_List]
  exact EvF.standAt (evF_ofL (h.mono fun vs σ1 hq => newList_op hq.2 hq.1))
theorem ev_tuple {es : List Expr} {k : Nat} {pos : Pos} {Q : V → St → Prop} (h : EvL C σ pos es (fun vs σ1 => vs.length ≤ sizeLine ∧ Q (.tup vs) σ1)) : Ev C σ (.Tuple es k pos) Q := by
  rw [Ev, arm_eval_Tuple]
  exact Tr.standAt (ev_ofL (h.mono fun vs σ1 hq => newTuple_op hq.2 hq.1))

/-! ### items -/
theorem ev_sub {value slice : Expr} {pos : Pos} {Q : V → St → Prop}
    (h : Ev C σ value (fun a σ1 => Ev C σ1 slice (fun b σ2 => Op2 C (Rep C.W) getItem a b (fun v => Q v σ2) ∧ ∃ T id, typeLookup (.type T) "__getitem__" = pure (some (.builtin id)) ∧ IsTy C.W a T)))
    (hs : ∀ o i, subscripted slice false o i = operate [o, i] (getItem o i) := by intro _ _; rfl) : Ev C σ (.Subscript value slice pos) Q := by
  refine Tr.intro' fun F mine T s QQ fin hA => ?_
  rw [arm_eval_Subscript]
  refine wpAny_bind (Tr.then h hA fun va s1 a σ1 m1 T1 hQ p1 a1 r1 => ?_)
  refine wpAny_bind (wpAny_holding (wpAny_mono (hQ F m1 T1 s1 a1) ?_ fun _ _ x => x))
  rintro vb s2 ⟨b, σ2, m2, T2, ⟨hQ2, Ty, id, hl, hT⟩, p2, a2, r2⟩
  have hT := hT _ s2 va (r1.mono p2.le) fun c o e => view_of e
  refine wpAny_bind (wpAny_standAt ?_)
  refine wpAny_bind ?_
  rw [getitemInPython_of_ne hT.not_modules]
  refine wpAny_bind (wpAny_specialOf hT hl (wpAny_pure ?_))
  rw [hs]
  refine wpAny_bind (wpAny_operating (PrimR.then (hQ2 _ T2 s2 va vb a2.ownOk (r1.mono p2.le) r2) fun vc s3 c T3 q k r3 => ?_))
  exact wpAny_bind (wpAny_letTemporaryGo (wpAny_pure (fin _ _ c σ2 m2 T3 q ((p1.trans p2).trans (k.post a2.live)) (a2.keeps k) r3)))

/-! ### calls -/
/-- what may be called by name: a function of the base or a built-in -/
inductive Callee (C : Cx) : Value → Prop
  | fn {a : Addr} {o : Obj} {fd : FuncData} : C.W.h₀.get? a = some o → o.data = .func fd → Callee C (.ref a)
  | bi {id : String} : Callee C (.builtin id)
  | ty {T : String} : Callee C (.type T)

theorem evalArgs_list {M : Model} {A : Around} {E : Value → Shared → Prop} {s : Shared} {f : Value} {pos : Pos} {env : Env} {es : List Expr} {Q : Args → Shared → Prop} (hst : (starEach es env).all (fun x => !x.1) = true)
    (h : wpAny M A (spliced (backTo pos (starEach es env))) (fun vs s' => Q ⟨vs, []⟩ s') E s) : wpAny M A (evalArgs f true (backTo pos (starEach es env)) []) Q E s := by
  cases hx : starEach es env with
  | nil =>
    rw [hx] at h
    unfold evalArgs
    show wpAny M A (spliced [] >>= _) Q E s
    refine wpAny_bind (wpAny_mono h (fun vs s' h' => ?_) fun _ _ x => x)
    refine wpAny_holding ?_
    exact wpAny_bind (wpAny_pure (wpAny_bind (wpAny_pure (wpAny_pure h'))))
  | cons p r =>
    obtain ⟨st, t⟩ := p
    rw [hx] at hst h
    simp only [List.all_cons, Bool.and_eq_true, Bool.not_eq_true'] at hst
    have : st = false := by simpa using hst.1
    subst this
    exact evalArgs_plain h

theorem any_backTo {pos : Pos} {l : List (Bool × Sem Value)} (h : l.all (fun x => !x.1) = true) : (backTo pos l).any (·.1) = false := by
  induction l with
  | nil => rfl
  | cons p r ih =>
    obtain ⟨st, t⟩ := p
    simp only [List.all_cons, Bool.and_eq_true, Bool.not_eq_true'] at h
    have h1 : st = false := by simpa using h.1
    subst h1
    show (false || (backTo pos r).any (·.1)) = false
    rw [ih h.2]; rfl

theorem callWith_any {M : Model} {A : Around} {E : Value → Shared → Prop} {s : Shared} {pos : Pos} {f : Value} {first : List Value} {args : List (Bool × Sem Value)} {Q : Value → Shared → Prop} (hplain : args.any (·.1) = false) (hc : Callee C f)
    (h : wpAny M A (evalArgs f true args []) (fun a s₁ => a.kw = [] ∧ (∀ b o, C.W.h₀.get? b = some o → s₁.heap.get? b = some o) ∧ wpAny M A (call f (first ++ a.pos) []) Q E s₁) E s) : wpAny M A (callWith pos f first args []) Q E s := by
  cases hc with
  | fn ho hd => exact callWith_function (wpAny_mono h (fun a s1 h1 => by rw [h1.1]; exact ⟨⟨h1.2.1 _ _ ho, hd⟩, h1.2.2⟩) fun _ _ x => x)
  | bi => exact callWith_builtin hplain (wpAny_mono h (fun a s1 h1 => by rw [h1.1]; exact h1.2.2) fun _ _ x => x)
  | ty => exact PySem.callWith_type hplain (wpAny_mono h (fun a s1 h1 => by rw [h1.1]; exact h1.2.2) fun _ _ x => x)

/-- f(e, ..): f a name -/
theorem ev_call {f : Expr} {es : List Expr} {pos : Pos} {Q : V → St → Prop} (h : Ev C σ f (fun fv σ1 => ∃ w, fv = .val w ∧ Callee C w ∧ EvL C σ1 pos es (fun vs σ2 => OpL C (Rep C.W) (fun ws => call w ws) vs (fun v => Q v σ2))))
    (hst : (starEach es C.env).all (fun x => !x.1) = true := by rfl)
    (he : eval (.Call f es [] pos) C.env = (do callWith pos (← eval f C.env) [] (backTo pos (starEach es C.env)) (backToKw pos (keywordEach [] C.env))) := by rfl) : Ev C σ (.Call f es [] pos) Q := by
  refine Tr.intro' fun F mine T s QQ fin hA => ?_
  rw [he]
  refine wpAny_bind (wpAny_mono (h F mine T s hA) ?_ fun _ _ x => x)
  rintro vf s1 ⟨fv, σ1, m1, T1, ⟨w, rfl, hc, hQ⟩, p1, a1, r1⟩
  cases r1
  refine callWith_any (any_backTo hst) hc (evalArgs_list hst (wpAny_mono (hQ F m1 T1 s1 a1) ?_ fun _ _ x => x))
  rintro ws s2 ⟨vs, σ2, m2, T2, hQ2, p2, a2, r2⟩
  refine ⟨rfl, a2.ownOk.kb, wpAny_mono (hQ2 _ T2 s2 ws a2.ownOk r2) ?_ fun _ _ x => x⟩
  rintro v s3 ⟨b, T3, q, k, r3⟩
  exact fin _ _ b σ2 m2 T3 q ((p1.trans p2).trans (k.post a2.live)) (a2.keeps k) r3
theorem evF_call {f : Expr} {es : List Expr} {pos : Pos} {Q : Slot → St → Prop} (h : Ev C σ f (fun fv σ1 => ∃ w, fv = .val w ∧ Callee C w ∧ EvL C σ1 pos es (fun vs σ2 => OpLF C (fun ws => call w ws) vs (fun v => Q v σ2))))
    (hst : (starEach es C.env).all (fun x => !x.1) = true := by rfl)
    (he : eval (.Call f es [] pos) C.env = (do callWith pos (← eval f C.env) [] (backTo pos (starEach es C.env)) (backToKw pos (keywordEach [] C.env))) := by rfl) : EvF C σ (eval (.Call f es [] pos) C.env) Q := by
  refine EvF.intro' fun F mine T s QQ fin hA => ?_
  rw [he]
  refine wpAny_bind (wpAny_mono (h F mine T s hA) ?_ fun _ _ x => x)
  rintro vf s1 ⟨fv, σ1, m1, T1, ⟨w, rfl, hc, hQ⟩, p1, a1, r1⟩
  cases r1
  refine callWith_any (any_backTo hst) hc (evalArgs_list hst (wpAny_mono (hQ F m1 T1 s1 a1) ?_ fun _ _ x => x))
  rintro ws s2 ⟨vs, σ2, m2, T2, hQ2, p2, a2, r2⟩
  refine ⟨rfl, a2.ownOk.kb, wpAny_mono (hQ2 _ T2 s2 ws a2.ownOk r2) ?_ fun _ _ x => x⟩
  rintro v s3 ⟨sl, T3, a, q, ho, k, hn, hs, r3⟩
  obtain ⟨p3, hm, a3, le⟩ := a2.new k hn hs
  exact fin _ _ sl σ2 m2 a T3 q ho ((p1.trans p2).trans p3) hm a3 (r3.mono le fun _ _ _ e => e)

/-- a built-in type's method, found -/
structure MethOk (W : Wd) (a : V) (name : Str) (T id : String) : Prop where
  pa : PlainAttrs T
  slot : PySem.Slot T name id
  hty : typeOf (.builtin id) = pure (.type "method_descriptor")
  is : ∀ (g : PH) (s : Shared) (va : Value), Rep W g a va → (∀ c o, g.ob c = some o → s.heap.get? c = some o) → s.TypeIs va T ∧ ∀ x, va = .ref x → ∃ ob, s.heap.get? x = some ob ∧ ob.dict = none

/-- o.name(e, ..) -/
theorem ev_meth {o : Expr} {name : Str} {apos pos : Pos} {es : List Expr} {Q : V → St → Prop}
    (h : Ev C σ o (fun a σ1 => ∃ T id, MethOk C.W a name T id ∧ EvL C σ1 pos es (fun vs σ2 => OpL C (Rep C.W) (fun ws => call (.builtin id) ws) (a :: vs) (fun v => Q v σ2))))
    (hbase : attributeBase o name C.env (eval o C.env) = eval o C.env) (hst : (starEach es C.env).all (fun x => !x.1) = true) (hline : (apos.endLine == pos.line) = true) (hlen : decide (es.length < 30) = true) :
    Ev C σ (.Call (.Attribute o name apos) es [] pos) Q := by
  refine Tr.intro' fun F mine T s QQ fin hA => ?_
  rw [arm_eval_Call, hbase]
  refine wpAny_bind (wpAny_mono (h F mine T s hA) ?_ fun _ _ x => x)
  rintro va s1 ⟨a, σ1, m1, T1, ⟨Ty, id, ⟨pa, slot, hty, his⟩, hQ⟩, p1, a1, r1⟩
  refine wpAny_bind (wpAny_standAt ?_)
  have hform : methodCallForm (es.length + ([] : List Keyword).length) (backTo pos (starEach es C.env)) (backToKw pos (keywordEach [] C.env)) = true := by
    have h1 : (backTo pos (starEach es C.env)).all (fun x => !x.1) = true := by
      have h2 := any_backTo (pos := pos) hst
      rw [List.any_eq_false] at h2
      exact List.all_eq_true.mpr fun x hx => by simpa using h2 x hx
    unfold methodCallForm
    simp only [h1, Bool.true_and, List.length_nil, Nat.add_zero, List.isEmpty_nil, if_true]
    exact hlen
  have hpos : methodCallPos true o C.env apos pos = pure pos := by unfold methodCallPos; simp [hline]
  obtain ⟨hT, hd⟩ := his _ s1 va r1 fun c o e => view_of e
  unfold methodCall
  rw [hform]
  refine wpAny_bind (wpAny_holding (getMethod_builtin hT pa slot hty hd ?_))
  refine wpAny_bind (wpAny_of_eq hpos ?_)
  refine callWith_builtin (any_backTo hst) (evalArgs_list hst (wpAny_mono (hQ F m1 T1 s1 a1) ?_ fun _ _ x => x))
  rintro ws s2 ⟨vs, σ2, m2, T2, hQ2, p2, a2, r2⟩
  refine PrimR.then (hQ2 _ T2 s2 (va :: ws) a2.ownOk (.cons (r1.mono p2.le) r2)) fun v s3 b T3 q k r3 => ?_
  exact fin _ _ b σ2 m2 T3 q ((p1.trans p2).trans (k.post a2.live)) (a2.keeps k) r3
/-- x op= e -/
theorem ex_aug {n : Nat} (ok : C.Ok n) {x : String} {p' pos : Pos} {op : Operator} {e : Expr} {Q : Fl → St → Prop} (hx : isHere C (Str.ofString x) = true)
    (h : EvT C σ (loadName C.env (Str.ofString x)) (fun a σ1 => Ev C σ1 e (fun b σ2 => Op2 C (Rep C.W) (inplaceOp op) a b (fun v => Q .next (put σ2 (Str.ofString x) x (.val v)))))) : Ex C σ (.AugAssign (.Name (Str.ofString x) p') op e pos) Q := by
  refine Tr.intro' fun F mine T s QQ fin hA => ?_
  refine wpAny_AugAssign_Name (Tr.then h hA fun va s1 a σ1 m1 T1 hQ p1 a1 r1 => ?_)
  refine Tr.then hQ a1 fun vb s2 b σ2 m2 T2 hQ2 p2 a2 r2 => ?_
  refine PrimR.then (hQ2 _ T2 s2 va vb a2.ownOk (r1.mono p2.le) r2) fun vc s3 c T3 q k r3 => ?_
  exact store_val ok (a2.keeps k) hx r3 fun s4 p4 a4 => fin _ _ .next _ m2 T3 q (((p1.trans p2).trans (k.post a2.live)).trans p4) a4 .next

end
end Sx
end
section
open PySem PySem.W PyProof.Rows PySem.Calls
set_option linter.unusedVariables false
set_option Elab.async false
set_option maxRecDepth 100000
namespace Sx

/-! ## a call of one of the text's own defs -/
noncomputable def fnEnv (scope : Scope) (L a : Addr) (q : Str) (cd : Value) : Env :=
  { scope := scope, locals := L, globals := mainGlobals, cells := cellsFrom (L + 1) scope.names [], qual := q, func := some a, code := cd, frame := some L, builtins := builtinsNs }
noncomputable def fnCx (W : Wd) (A : Around) (scope : Scope) (L a : Addr) (q : Str) (cd : Value) : Cx := { W := W, A := A, env := fnEnv scope L a q cd, ownC := true, X := fun _ _ => False, an := none }

noncomputable def Fl.v : Fl → V
  | .ret v => v
  | _ => .none

theorem cellsFrom_keeps {x : Str} : ∀ (names : List (Str × NameKind)) (n : Nat) (acc : List (Str × Addr)), (acc.lookup x).isSome = true → ((cellsFrom n names acc).lookup x).isSome = true
  | [], _, _, h => h
  | (name, kind) :: r, n, acc, h => by
    unfold cellsFrom
    split
    · refine cellsFrom_keeps r _ _ ?_
      rw [List.lookup_cons]
      cases x == name <;> simp [h]
    · exact cellsFrom_keeps r _ _ h
theorem cellsFrom_has {x : Str} : ∀ (names : List (Str × NameKind)) (n : Nat) (acc : List (Str × Addr)), names.lookup x = some .cell → ((cellsFrom n names acc).lookup x).isSome = true
  | [], _, _, h => by simp at h
  | (name, kind) :: r, n, acc, h => by
    rw [List.lookup_cons] at h
    unfold cellsFrom
    cases hx : x == name with
    | true =>
      rw [hx] at h
      have h : kind = .cell := by simpa using h
      subst h
      show ((cellsFrom (n + 1) r ((name, n) :: acc)).lookup x).isSome = true
      refine cellsFrom_keeps r _ _ ?_
      rw [List.lookup_cons, hx]; rfl
    | false =>
      rw [hx] at h
      split
      · exact cellsFrom_has r _ _ h
      · exact cellsFrom_has r _ _ h

noncomputable def bindV : List (Str × Value) → Option Value → Str → Option Value
  | [], b, _ => b
  | (n, v) :: r, b, x => bindV r (if x = n then some v else b) x

theorem valAt_bind {env : Env} {x : Str} : ∀ (binds : List (Str × Value)) (m cm : Str → Option Value), (∀ y ∈ binds, env.kindOf y.1 = some .local ∨ env.kindOf y.1 = some .cell) →
    valAt env (bindL env.kindOf binds m) (bindC env.kindOf binds cm) x = bindV binds (valAt env m cm x) x
  | [], m, cm, _ => rfl
  | (n, v) :: r, m, cm, h => by
    unfold bindL bindC bindV
    rw [valAt_bind r _ _ fun y hy => h y (List.mem_cons_of_mem _ hy)]
    congr 1
    rcases h (n, v) List.mem_cons_self with hk | hk
    · have hk : env.kindOf n = some .local := hk
      rw [if_pos hk, if_pos hk]; exact valAt_local hk
    · have hk : env.kindOf n = some .cell := hk
      rw [if_neg (by rw [hk]; decide), if_neg (by rw [hk]; decide)]; exact valAt_cell hk

theorem bindV_not {x : Str} : ∀ (binds : List (Str × Value)) (b : Option Value), (∀ p ∈ binds, p.1 ≠ x) → bindV binds b x = b
  | [], _, _ => rfl
  | (n, v) :: r, b, h => by
    unfold bindV
    rw [if_neg (fun e => h (n, v) List.mem_cons_self e.symm)]
    exact bindV_not r b fun p hp => h p (List.mem_cons_of_mem _ hp)

noncomputable def mkSt (ps : List String) (vs : List V) : St := (ps.zip vs).map fun p => (p.1, .val p.2)

theorem find_mkSt {W : Wd} {g : PH} : ∀ (ps : List String) (vs : List V) (ws : List Value) (b : Option Value) (x : Str) (sl : Slot), ps.Nodup → RepL W g vs ws → find (mkSt ps vs) x = some sl →
    ∃ u w, sl = .val u ∧ bindV ((ps.map Str.ofString).zip ws) b x = some w ∧ Rep W g u w
  | [], vs, ws, b, x, sl, _, _, h => by simp [mkSt, find] at h
  | p :: ps, vs, ws, b, x, sl, hn, hr, h => by
    cases hr with
    | nil => simp [mkSt, find] at h
    | @cons v w vs ws h1 h2 =>
      have hn' := List.nodup_cons.mp hn
      simp only [mkSt, List.zip_cons_cons, List.map_cons, find] at h
      simp only [List.map_cons, List.zip_cons_cons, bindV]
      by_cases hx : Str.ofString p = x
      · rw [if_pos hx] at h
        cases h
        refine ⟨v, w, rfl, ?_, h1⟩
        rw [if_pos hx.symm]
        refine bindV_not _ _ fun q hq e => ?_
        obtain ⟨q1, q2⟩ := q
        have := List.of_mem_zip hq
        obtain ⟨p', hp', e'⟩ := List.mem_map.mp this.1
        have : p' = p := ofString_inj.mp (e'.trans (e.trans hx.symm))
        exact hn'.1 (this ▸ hp')
      · rw [if_neg hx] at h
        rw [if_neg (fun e => hx e.symm)]
        exact find_mkSt ps vs ws b x sl hn'.2 h2 h

theorem get_ge {h : Heap} {a : Addr} (e : h.objs.size ≤ a) : h.get? a = none := by
  cases q : h.get? a with
  | none => rfl
  | some o => exact absurd (Heap.lt_size q) (Nat.not_lt.mpr e)

theorem fnCx_ok {W : Wd} {A : Around} {n : Nat} {scope : Scope} {L a : Addr} {q : Str} {cd : Value} (hW : W.Ok) (hh : A.handled = none) (hu : A.units + 3 * n + 100 ≤ 9000) (hd : A.depth + n + 10 ≤ 900) (hk : scope.kind = .function) : (fnCx W A scope L a q cd).Ok n :=
  { W := hW, hh := hh, hu := hu, hd := hd, hk := hk, hg := rfl, hb := rfl, hx := PassesOwn.never }

/-- a def of the text's own, as it stands in the base -/
structure FnAt (W : Wd) (a : Addr) (fd : FuncData) (body : List Stmt) : Prop where
  at_ : ∃ o, W.h₀.get? a = some o ∧ o.data = .func fd
  hbody : fd.body = .stmts body
  hgl : fd.globals = mainGlobals
  hcl : fd.closure = []
  hbn : fd.builtins = builtinsNs
  hcd : W.h₀.CodeRec fd.code fd.qualname
  hco : fd.scope.isCoroutine = false
  hgen : fd.scope.isGenerator = false
  hk : fd.scope.kind = .function

noncomputable def namesOk (scope : Scope) (ps : List String) : Bool :=
  (ps.all fun p => scope.names.lookup (Str.ofString p) == some .local || scope.names.lookup (Str.ofString p) == some .cell) && scope.names.all fun x => x.2 != .free

theorem fn_call {C : Cx} {n : Nat} (ok : C.Ok (n + 1)) {a : Addr} {fd : FuncData} {body : List Stmt} (fn : FnAt C.W a fd body) {ps : List String} {vs dvs : List V} {ds : List Value}
    (hb : ∀ (s : Shared) (ws : List Value), (∀ b o, C.W.h₀.get? b = some o → s.heap.get? b = some o) → ws.length = vs.length → BindsTo s fd ⟨ws, []⟩ ((ps.map Str.ofString).zip (ws ++ ds)))
    (hds : ∀ own T s, OwnOk C own T s → RepL C.W (view own T s) dvs ds)
    (hnd : ps.Nodup) (hnm : namesOk fd.scope ps = true) {K : V → Prop}
    (walk : ∀ A L q cd, (fnCx C.W A fd.scope L a q cd).Ok n → Exs (fnCx C.W A fd.scope L a q cd) (mkSt ps (vs ++ dvs)) body (fun fl _ => K fl.v)) :
    OpL C (Rep C.W) (fun ws => call (.ref a) ws) vs K := by
  intro own T s ws hO hr
  obtain ⟨o, ho, hd⟩ := fn.at_
  have kb := hO.kb
  have hlim : s.heap.NoLimit := ok.W.nolimit.keeps kb
  unfold namesOk at hnm
  rw [Bool.and_eq_true, List.all_eq_true, List.all_eq_true] at hnm
  have hps : ∀ x ∈ (ps.map Str.ofString).zip (ws ++ ds), fd.scope.names.lookup x.1 = some .local ∨ fd.scope.names.lookup x.1 = some .cell := by
    intro x hx
    obtain ⟨x1, x2⟩ := x
    obtain ⟨p, hp, rfl⟩ := List.mem_map.mp (List.of_mem_zip hx).1
    have := hnm.1 p hp
    rw [Bool.or_eq_true, beq_iff_eq, beq_iff_eq] at this
    exact this
  refine wpAny_call (codeAny_call_function (by have := ok.hd; unfold recursionLimit; omega) (kb _ _ ho) hd fn.hco fn.hgen fn.hbody (fn.hcd.keeps kb) (hb s ws kb hr.length _ _ _ _ ?_))
  rw [fn.hgl, fn.hcl, fn.hbn]
  refine wpAny_with_toks (n := s.toks) (Nat.le_refl _) (wpAny_newFunctionEnv_cells fn.hk (fun x hx => ?_) fun env' he s' x htk => ?_)
  · rcases hps x hx with h | h
    · exact .inl h
    · exact .inr ⟨h, cellsFrom_has _ _ _ h⟩
  subst he
  obtain ⟨h₁, tk, rfl, hk₁⟩ := x.done
  refine ⟨hlim.keeps hk₁, codeAny_func ?_⟩
  have okn : (fnCx C.W (C.A.deeper (fnEnv fd.scope s.heap.objs.size a (fd.qualname ++ ".<locals>.") fd.code)) fd.scope s.heap.objs.size a (fd.qualname ++ ".<locals>.") fd.code).Ok n :=
    fnCx_ok ok.W (by exact ok.hh) (by have := ok.hu; show C.A.units + 3 + 3 * n + 100 ≤ 9000; omega) (by have := ok.hd; show C.A.depth + 1 + n + 10 ≤ 900; omega) fn.hk
  obtain ⟨cs, hcs⟩ : ∃ cs, cellsFrom (s.heap.objs.size + 1) fd.scope.names [] = cs := ⟨_, rfl⟩
  have hcs' : (fnEnv fd.scope s.heap.objs.size a (fd.qualname ++ ".<locals>.") fd.code).cells = cs := hcs
  have hcell : ∀ z c, cs.lookup z = some c → h₁.IsCell c (bindC (fnEnv fd.scope s.heap.objs.size a (fd.qualname ++ ".<locals>.") fd.code).kindOf ((ps.map Str.ofString).zip (ws ++ ds)) (fun _ => none) z) := fun z c e => x.cell z c (hcs ▸ e)
  have hab : ∀ z c, (z, c) ∈ cs → s.heap.objs.size < c := fun z c e => x.above z c (hcs ▸ e)
  have hap : cs.Pairwise fun x y => x.2 ≠ y.2 := by have := x.apart; exact hcs ▸ this
  have hns : h₁.Ns s.heap.objs.size (bindL (fnEnv fd.scope s.heap.objs.size a (fd.qualname ++ ".<locals>.") fd.code).kindOf ((ps.map Str.ofString).zip (ws ++ ds)) (fun _ => none)) := x.toInCall.ns
  have hmm : ∀ b ∈ s.heap.objs.size :: cs.filterMap (fun p => cs.lookup p.1), b = s.heap.objs.size ∨ ∃ z, cs.lookup z = some b := by
    intro b hb
    rcases List.mem_cons.mp hb with rfl | hb
    · exact .inl rfl
    · obtain ⟨p, hp, e⟩ := List.mem_filterMap.mp hb
      exact .inr ⟨p.1, e⟩
  have hmine : ∀ b ∈ s.heap.objs.size :: cs.filterMap (fun p => cs.lookup p.1), s.heap.get? b = none := by
    intro b hb
    rcases hmm b hb with rfl | ⟨z, hz⟩
    · exact fresh_size _
    · exact get_ge (Nat.le_of_lt (hab z b (mem_of_lookup hz)))
  have hcm : ∀ z c, cs.lookup z = some c → c ∈ s.heap.objs.size :: cs.filterMap (fun p => cs.lookup p.1) := fun z c e =>
    List.mem_cons_of_mem _ (List.mem_filterMap.mpr ⟨(z, c), mem_of_lookup e, e⟩)
  have le0 : Le (view own T s) (view (own ++ (s.heap.objs.size :: cs.filterMap (fun p => cs.lookup p.1))) T { s with heap := h₁, toks := tk }) := by
    refine ⟨fun b o e => view_mk (fun hm => ?_) (hk₁ b o (view_of e)), fun _ _ e => e⟩
    rcases List.mem_append.mp hm with hm | hm
    · exact view_not e hm
    · have := hmine b hm; rw [view_of e] at this; cases this
  have habs : Abs (fnCx C.W (C.A.deeper (fnEnv fd.scope s.heap.objs.size a (fd.qualname ++ ".<locals>.") fd.code)) fd.scope s.heap.objs.size a (fd.qualname ++ ".<locals>.") fd.code) own
      (s.heap.objs.size :: cs.filterMap (fun p => cs.lookup p.1)) T (mkSt ps (vs ++ dvs)) { s with heap := h₁, toks := tk } := by
    refine ⟨fun b o e => le0.ob b o (hO.base b o e), fun b hb => ?_, fun b hb hF => ?_, hO.tok.mono htk,
      bindL (fnEnv fd.scope s.heap.objs.size a (fd.qualname ++ ".<locals>.") fd.code).kindOf ((ps.map Str.ofString).zip (ws ++ ds)) (fun _ => none), bindC (fnEnv fd.scope s.heap.objs.size a (fd.qualname ++ ".<locals>.") fd.code).kindOf ((ps.map Str.ofString).zip (ws ++ ds)) (fun _ => none), ?_⟩
    · rcases List.mem_append.mp hb with hb | hb
      · obtain ⟨o, ho⟩ := Option.isSome_iff_exists.mp (hO.live b hb)
        show (h₁.get? b).isSome = true
        rw [hk₁ _ _ ho]; rfl
      · rcases hmm b hb with rfl | ⟨z, hz⟩
        · obtain ⟨o, _, _, ho, _⟩ := hns
          show (h₁.get? s.heap.objs.size).isSome = true
          rw [ho]; rfl
        · obtain ⟨o, ho, _⟩ := hcell z b hz
          show (h₁.get? b).isSome = true
          rw [ho]; rfl
    · have := hmine b hb
      have h2 := hO.live b hF
      rw [this] at h2; cases h2
    · refine { ns := hns, cells := fun z c e => hcell z c (hcs' ▸ e), apart := fun z y c e1 e2 => ?_, lc := fun z c e => ?_, has := fun z hz => ?_, lm := List.mem_cons_self, cown := fun z c e => List.mem_append_right _ (hcm z c (hcs' ▸ e)), cmine := fun _ z c e => hcm z c (hcs' ▸ e), slots := ?_, own := ?_, dis := ?_ }
      · exact name_of_addr hap (mem_of_lookup (hcs' ▸ e1)) (mem_of_lookup (hcs' ▸ e2))
      · exact Nat.ne_of_gt (hab z c (mem_of_lookup (hcs' ▸ e)))
      · rcases hz with hz | hz
        · have := cellsFrom_has fd.scope.names (s.heap.objs.size + 1) [] hz
          exact Option.isSome_iff_exists.mp this
        · have hz : fd.scope.names.lookup z = some .free := hz
          have := hnm.2 _ (mem_of_lookup hz)
          simp at this
      · intro z sl hz
        obtain ⟨u, v, rfl, e1, e2⟩ := find_mkSt ps (vs ++ dvs) (ws ++ ds) none z sl hnd (hr.append (hds own T s hO)) hz
        refine ⟨v, .inl ?_, e2.mono le0⟩
        refine (valAt_bind (env := fnEnv fd.scope s.heap.objs.size a (fd.qualname ++ ".<locals>.") fd.code) _ _ _ hps).trans ?_
        have : valAt (fnEnv fd.scope s.heap.objs.size a (fd.qualname ++ ".<locals>.") fd.code) (fun _ => none) (fun _ => none) z = none := by unfold valAt; split <;> rfl
        rw [this]
        exact e1
      · intro z sl b hz ho
        obtain ⟨u, v, rfl, _⟩ := find_mkSt ps (vs ++ dvs) (ws ++ ds) none z sl hnd (hr.append (hds own T s hO)) hz
        cases ho
      · intro z y sl sl' b hz _ ho
        obtain ⟨u, v, rfl, _⟩ := find_mkSt ps (vs ++ dvs) (ws ++ ds) none z sl hnd (hr.append (hds own T s hO)) hz
        cases ho
  refine wpAny_mono (walk _ _ _ _ okn own _ T _ habs) ?_ fun _ _ x => x.elim
  rintro f s2 ⟨fl, σ2, m2, T2, hK, p2, a2, r2⟩
  refine ⟨fl.v, T2, hK, ⟨?_, fun b o e => ?_, fun t l e => p2.le.tk t l e, a2.tok⟩, ?_⟩
  · obtain ⟨h', tk', rfl⟩ := p2.same
    exact ⟨h', tk', rfl⟩
  · by_cases hb : b ∈ own
    · exact (p2.far b hb).trans (hk₁ b o e)
    · exact view_of (p2.le.ob b o (le0.ob b o (view_mk hb e)))
  · have sub : Le (view (own ++ m2) T2 s2) (view own T2 s2) := view_sub fun b hb => List.mem_append_left _ hb
    cases r2 with
    | next => exact .none
    | brk => exact .none
    | cont => exact .none
    | ret r => exact r.mono sub

/-- the usual bindings: a def without defaults, all arguments given by place -/
theorem binds_plain {fd : FuncData} {ps : List String} {n : Nat} (h : ∀ ws : List Value, ws.length = n → bindArgs fd ⟨ws, []⟩ = pure ((ps.map Str.ofString).zip ws)) (s : Shared) (ws : List Value) (hl : ws.length = n) :
    BindsTo s fd ⟨ws, []⟩ ((ps.map Str.ofString).zip (ws ++ [])) := by
  rw [List.append_nil]
  exact .of_eq (h ws hl)

end Sx
end
section
open PySem PySem.W PyProof.Rows PySem.Calls
set_option linter.unusedVariables false
set_option Elab.async false
set_option maxRecDepth 100000
namespace Sx

/-! ## what may be run through -/
noncomputable def seqOf : V → Option (List V)
  | .lst vs => some vs
  | .tup vs => some vs
  | .str l => some (l.map fun c => .str [c])
  | .dct es => some (es.map fun p => p.1.v)
  | .rng a b => some ((List.range (b - a).toNat).map fun (i : Nat) => V.int (a + (i : Int)))
  | .items es => some (es.map fun p => .tup [p.1.v, p.2])
  | _ => none

section
variable {prog : Program} {w : World} {A : Around} {E : Value → Shared → Prop} {s : Shared}

/-- the key iterator hands out the very key of the entry -/
theorem next_key {it d : Addr} {i ep : Nat} {od : Obj} {ds : List DictEntry} {e : DictEntry} {Q : Option Value → Shared → Prop} (hit : s.heap.IsKeyIter it d i ds.length ep)
    (hod : s.heap.get? d = some od) (hdd : od.data = .dict ds.toArray ep) (hx : ds[i]? = some e)
    (hQ : ∀ h', h'.IsKeyIter it d (i + 1) ds.length ep → Heap.SameBut it s.heap h' → Q (some e.key) { s with heap := h' }) : wpAny (model prog w) A (pyNext (.ref it)) Q E s := by
  have tn : ∀ {A' : Around} {E' : Value → Shared → Prop} {Q' : String → Shared → Prop}, Q' "dict_keyiterator" s → wpAny (model prog w) A' (typeNameOfWhole (.ref it)) Q' E' s := fun h => wpAny_typeNameOfWhole_keyiter hit.typeIs h
  obtain ⟨o, ho, hc, hd⟩ := id hit
  unfold pyNext
  refine wpAny_bind (wpAny_attempt (wpAny_callSpecial?_slot (name := Str.ofString "__next__") hit.typeIs F.slot_dict_keyiterator_next
    (wpAny_call_entry F.slot_dict_keyiterator_next hit.typeIs F.entry_dict_keyiterator_next ?_ (F.args_dict_keyiterator_next_1 _))))
  refine wpAny_bind (wpAny_pure (wpAny_bind (wpAny_bind (wpAny_bind (tn (wpAny_pure (wpAny_bind ?_)))))))
  refine wpAny_fieldsOf ho hd ?_
  rw [show Builtin.Dict_items.ownsTuple "dict_keyiterator" = false from by decide]
  show wpAny _ _ (if (Value.ref d == Value.none) = true then _ else _) _ _ s
  rw [if_neg (show ¬ ((Value.ref d == Value.none) = true) from Bool.false_ne_true)]
  refine wpAny_bind (wpAny_pure (wpAny_bind (wpAny_dictEntries hod hdd ?_)))
  rw [if_neg (by simp)]
  refine wpAny_bind (wpAny_pure (wpAny_bind (wpAny_dictEpoch hod hdd ?_)))
  rw [if_neg (by simp)]
  refine wpAny_pure ?_
  have hx' : (ds.toArray)[i]? = some e := by simpa using hx
  simp only [show ¬ ((i : Int) < 0) from by omega, if_false, Int.toNat_natCast, hx']
  refine wpAny_bind (wpAny_bind (tn (wpAny_pure (wpAny_bind (wpAny_isOneOf_keyiter hit.typeIs ?_)))))
  show wpAny _ _ (setField (.ref it) 1 (rawInt ((i : Int) + 1)) >>= _) _ _ s
  refine wpAny_bind (wpAny_setField ho hd (by simp) ?_)
  have hit' : (s.heap.update it (Obj.mapFields (·.setIfInBounds 1 (rawInt ((i : Int) + 1))))).IsKeyIter it d (i + 1) ds.length ep :=
    ⟨_, Heap.get?_update_self _ ho (Obj.isFreed_of_fields (Obj.data_mapFields hd _)), (Obj.cls_mapFields ..).trans hc, by rw [Obj.data_mapFields hd]; simp [rawInt]⟩
  refine wpAny_bind (wpAny_holding (wpAny_bind (wpAny_isOneOf_keyiter (s := { s with heap := s.heap.update it (Obj.mapFields (·.setIfInBounds 1 (rawInt ((i : Int) + 1)))) }) hit'.typeIs ?_)))
  show wpAny _ _ (pure e.key) _ _ _
  exact wpAny_pure (wpAny_pure ⟨_, rfl, wpAny_pure (hQ _ hit' (Heap.SameBut.update ..))⟩)

/-- the items' iterator hands out a new pair of the very key and value -/
theorem next_item {it d : Addr} {i ep : Nat} {ok ov : Value} {od : Obj} {ds : List DictEntry} {e : DictEntry} {Q : Option Value → Shared → Prop} (hit : IsItemIter s.heap it d i ds.length ep ok ov)
    (hod : s.heap.get? d = some od) (hdd : od.data = .dict ds.toArray ep) (hx : ds[i]? = some e)
    (hQ : ∀ h', IsItemIterOut h' it d (i + 1) ds.length ep e.key e.val s.heap.objs.size → h'.get? s.heap.objs.size = some { cls := .type "tuple", data := .seq #[e.key, e.val] } →
      (∀ b o, b ≠ it → s.heap.get? b = some o → h'.get? b = some o) → Q (some (.ref s.heap.objs.size)) { s with heap := h' }) : wpAny (model prog w) A (pyNext (.ref it)) Q E s := by
  have hT : s.TypeIs (.ref it) "dict_itemiterator" := ⟨_, hit, rfl⟩
  have tn : ∀ {A' : Around} {E' : Value → Shared → Prop} {Q' : String → Shared → Prop}, Q' "dict_itemiterator" s → wpAny (model prog w) A' (typeNameOfWhole (.ref it)) Q' E' s := fun h => wpAny_typeNameOfWhole_itemiter hT h
  unfold pyNext
  refine wpAny_bind (wpAny_attempt (wpAny_callSpecial?_slot (name := Str.ofString "__next__") hT F.slot_dict_itemiterator_next
    (wpAny_call_entry F.slot_dict_itemiterator_next hT F.entry_dict_itemiterator_next ?_ (F.args_dict_itemiterator_next_1 _))))
  refine wpAny_bind (wpAny_pure (wpAny_bind (wpAny_bind (wpAny_bind (tn (wpAny_pure (wpAny_bind ?_)))))))
  refine wpAny_fieldsOf hit rfl ?_
  rw [show Builtin.Dict_items.ownsTuple "dict_itemiterator" = true from by decide]
  show wpAny _ _ (if (Value.ref d == Value.none) = true then _ else _) _ _ s
  rw [if_neg (show ¬ ((Value.ref d == Value.none) = true) from Bool.false_ne_true)]
  refine wpAny_bind (wpAny_pure (wpAny_bind (wpAny_dictEntries hod hdd ?_)))
  rw [if_neg (by simp)]
  refine wpAny_bind (wpAny_pure (wpAny_bind (wpAny_dictEpoch hod hdd ?_)))
  rw [if_neg (by simp)]
  refine wpAny_pure ?_
  have hx' : (ds.toArray)[i]? = some e := by simpa using hx
  simp only [show ¬ ((i : Int) < 0) from by omega, if_false, Int.toNat_natCast, hx']
  refine wpAny_bind (wpAny_bind (tn (wpAny_pure (wpAny_bind (wpAny_isOneOf_itemiter hT ?_)))))
  show wpAny _ _ (setField (.ref it) 3 (rawInt ((i : Int) + 1)) >>= _) _ _ s
  have hil : it < s.heap.objs.size := Heap.lt_size hit
  refine wpAny_bind (wpAny_setField_rec hit (by simp) fun h₁ he₁ hs₁ => ?_)
  replace he₁ : IsItemIter h₁ it d (i + 1) ds.length ep ok ov := by
    have e : ((i + 1 : Nat) : Int) = (i : Int) + 1 := by omega
    unfold IsItemIter; rw [e]; simpa [rawInt] using he₁
  have hT₁ : Shared.TypeIs { s with heap := h₁ } (.ref it) "dict_itemiterator" := ⟨_, he₁, rfl⟩
  refine wpAny_bind (wpAny_holding (wpAny_bind (wpAny_isOneOf_itemiter hT₁ (wpAny_bind (wpAny_isOneOf_itemiter hT₁ ?_)))))
  show wpAny _ _ (Builtin.Dict_items.pairFromOwner (.ref it) 6 e.key e.val) _ _ { s with heap := h₁ }
  have hz : h₁.objs.size = s.heap.objs.size := hs₁.1
  refine wpAny_bind (wpAny_newTuple ?_)
  have he₂ : IsItemIter (h₁.push { cls := .type "tuple", data := .seq #[e.key, e.val] }) it d (i + 1) ds.length ep ok ov := Heap.get?_push_of_some _ he₁
  obtain ⟨h₂, hh₂⟩ : ∃ h₂, h₁.push { cls := .type "tuple", data := .seq #[e.key, e.val] } = h₂ := ⟨_, rfl⟩
  have ht₂ : h₂.get? s.heap.objs.size = some { cls := .type "tuple", data := .seq #[e.key, e.val] } := by rw [← hh₂, ← hz]; exact Heap.get?_push_size _ rfl
  have hk₂ : ∀ b o, b ≠ it → s.heap.get? b = some o → h₂.get? b = some o := fun b o hb e => by rw [← hh₂]; exact Heap.get?_push_of_some _ (hs₁.extBut b o hb e)
  rw [hh₂] at he₂
  show wpAny _ _ (Builtin.Dict_items.ownedTupleIsFree (.ref it) >>= _) _ _ { s with heap := h₁.push { cls := .type "tuple", data := .seq #[e.key, e.val] } }
  rw [hh₂, hz]
  refine wpAny_bind (wpAny_bind (wpAny_field he₂ rfl (x := .none) rfl (wpAny_pure ?_)))
  rw [if_pos rfl]
  refine wpAny_bind (wpAny_field he₂ rfl (x := ok) rfl (wpAny_bind (wpAny_field he₂ rfl (x := ov) rfl ?_)))
  refine wpAny_bind (wpAny_setField_rec he₂ (by simp) fun h₃ he₃ hs₃ => ?_)
  refine wpAny_bind (wpAny_setField_rec he₃ (by simp) fun h₄ he₄ hs₄ => ?_)
  refine wpAny_bind (wpAny_setField_rec he₄ (by simp) fun h₅ he₅ hs₅ => ?_)
  refine wpAny_bind (wpAny_setField_rec he₅ (by simp) fun h₆ he₆ hs₆ => ?_)
  have up : ∀ b o, b ≠ it → h₂.get? b = some o → h₆.get? b = some o := fun b o hb e => hs₆.extBut b o hb (hs₅.extBut b o hb (hs₄.extBut b o hb (hs₃.extBut b o hb e)))
  exact wpAny_bind (wpAny_letGo (wpAny_pure (wpAny_pure ⟨_, rfl, wpAny_pure (hQ h₆ he₆ (up _ _ (Nat.ne_of_gt hil) ht₂) fun b o hb e => up b o hb (hk₂ b o hb e))⟩)))

theorem letGo_plain {target : Expr} {I : Addr} {v : Value} {o : Obj} {n : String} {Q : Unit → Shared → Prop} (ho : s.heap.get? I = some o) (hc : o.cls = .type n)
    (hn : ["enumerate", "zip", "dict_itemiterator", "dict_reverseitemiterator", "odict_iterator", "itertools.zip_longest", "itertools.pairwise"].contains n = false) (h : Q () s) : wpAny (model prog w) A (letOwnedTupleGo target (.ref I) v) Q E s := by
  have core : ∀ a, wpAny (model prog w) A (do
      let o ← load I
      match o.cls, o.data with
      | .type n, .fields vs =>
        if (["enumerate", "zip", "dict_itemiterator", "dict_reverseitemiterator", "odict_iterator", "itertools.zip_longest", "itertools.pairwise"].contains n && vs[0]? == some (rawInt a)) = true then do
          rule "for.unpacks-the-owned-tuple"
          updateField I 0 .none
        else pure ()
      | _, _ => pure ()) Q E s := by
    intro a
    refine wpAny_bind (wpAny_load ho ?_)
    rw [hc]
    cases o.data with
    | fields vs =>
      show wpAny _ _ (if (["enumerate", "zip", "dict_itemiterator", "dict_reverseitemiterator", "odict_iterator", "itertools.zip_longest", "itertools.pairwise"].contains n && vs[0]? == some (rawInt a)) = true then _ else _) _ _ _
      rw [hn, Bool.false_and, if_neg Bool.false_ne_true]
      exact wpAny_pure h
    | _ => exact wpAny_pure h
  unfold letOwnedTupleGo
  cases target with
  | Tuple es k p =>
    cases v with
    | ref a => exact core a
    | _ => exact wpAny_pure h
  | List es p =>
    cases v with
    | ref a => exact core a
    | _ => exact wpAny_pure h
  | _ => exact wpAny_pure h
end

/-- an iterator at I over what stands for the items xs -/
structure Itr (W : Wd) (A : Around) (target : Expr) (I : Addr) (g0 : PH) (xs : List V) (fp : List Addr) (St : Nat → Heap → Prop) (Mid : Nat → Value → Heap → Prop) : Prop where
  self : I ∈ fp
  live : ∀ i h, St i h → (h.get? I).isSome = true
  frame : ∀ i h h', St i h → (∀ b ∈ fp, ∀ o, h.get? b = some o → h'.get? b = some o) → St i h'
  item : ∀ i x own T (s : Shared) (Q : Option Value → Shared → Prop) (E : Value → Shared → Prop), xs[i]? = some x → St i s.heap → I ∈ own → TOk T s.toks → (∀ a ∈ own, (s.heap.get? a).isSome = true) → Le g0 (view own T s) →
    (∀ v h' tk T', s.toks ≤ tk → Mid i v h' → (∀ b o, b ≠ I → s.heap.get? b = some o → h'.get? b = some o) → TLe T T' → TOk T' tk → (∀ T'' s'', TLe T' T'' → (∀ b o, b ∉ own → h'.get? b = some o → s''.heap.get? b = some o) → Rep W (view own T'' s'') x v) → Q (some v) { s with heap := h', toks := tk }) →
    wpAny (model W.prog W.w) A (pyNext (.ref I)) Q E s
  go : ∀ i v (s : Shared) (Q : Unit → Shared → Prop) (E : Value → Shared → Prop), Mid i v s.heap → (∀ h', St (i + 1) h' → (∀ b o, b ≠ I → s.heap.get? b = some o → h'.get? b = some o) → Q () { s with heap := h' }) →
    wpAny (model W.prog W.w) A (letOwnedTupleGo target (.ref I) v) Q E s
  iter : ∀ i (s : Shared) (Q : Value → Shared → Prop) (E : Value → Shared → Prop), St i s.heap → Q (.ref I) s → wpAny (model W.prog W.w) A (pyIter (.ref I)) Q E s
  done : ∀ (s : Shared) (Q : Option Value → Shared → Prop) (E : Value → Shared → Prop), St xs.length s.heap → (∀ h', (∀ b o, b ≠ I → s.heap.get? b = some o → h'.get? b = some o) → Q none { s with heap := h' }) →
    wpAny (model W.prog W.w) A (pyNext (.ref I)) Q E s

noncomputable def isPair : Expr → Bool
  | .Tuple _ _ _ => true
  | _ => false

section
variable {W : Wd} {A : Around} {target : Expr} {E : Value → Shared → Prop}

theorem itr_list {own : List Addr} {T : TM} {s : Shared} {vs : List V} {v : Value} (hh : A.handled = none) (hr : Rep W (view own T s) (.lst vs) v) {Q : Value → Shared → Prop}
    (hQ : ∀ I h' fp St Mid, s.heap.get? I = none → (∀ b o, s.heap.get? b = some o → h'.get? b = some o) → Itr W A target I (view own T s) vs fp St Mid → St 0 h' → (∀ b ∈ fp, b ≠ I → ∃ o, (view own T s).ob b = some o) → Q (.ref I) { s with heap := h' }) :
    wpAny (model W.prog W.w) A (pyIter v) Q E s := by
  cases hr with
  | @lst a o _ ws n h1 h2 h3 h4 r =>
    have hl : s.heap.IsList a ws.toArray := ⟨o, view_of h1, h2, n, h4⟩
    have hne : a ≠ s.heap.objs.size := Nat.ne_of_lt (Heap.lt_size (view_of h1))
    refine wpAny_pyIter_list hl (hQ s.heap.objs.size _ [s.heap.objs.size, a] (fun i h => h.IsListIter s.heap.objs.size a i ∧ h.IsList a ws.toArray) (fun i _ h => h.IsListIter s.heap.objs.size a (i + 1) ∧ h.IsList a ws.toArray)
      (fresh_size _) (fun b o e => Heap.get?_push_of_some _ e) ?_ ⟨⟨_, Heap.get?_push_size _ rfl, rfl, rfl⟩, hl.push _⟩ ?_)
    · refine { self := by simp, live := fun i h st => let ⟨o, ho, _⟩ := st.1; by rw [ho]; rfl, frame := fun i h h' st k => ⟨st.1.at fun o e => k _ (by simp) o e, st.2.at fun o e => k _ (by simp) o e⟩, item := ?_, go := ?_, iter := fun i s' Q' E' st h => wpAny_pyIter_listiter st.1 h, done := ?_ }
      · intro i x own' T' s' Q' E' hx st hI ht hlv hle hQ'
        obtain ⟨w, hw, hxw⟩ := r.get hx
        refine wpAny_pyNext_list_item st.1 st.2 (x := w) (by simpa using hw) fun h' hit' hs' => ?_
        refine hQ' w h' s'.toks T' (Nat.le_refl _) ⟨hit', st.2.extBut hs'.extBut hne⟩ (fun b o hb e => hs'.extBut b o hb e) (fun _ _ e => e) ht fun T'' s'' hT k => ?_
        refine hxw.mono (hle.trans ⟨fun b o e => view_mk (view_not e) (k b o (view_not e) (hs'.extBut b o (fun q => view_not e (q ▸ hI)) (view_of e))), hT⟩)
      · intro i v s' Q' E' hm hQ'
        obtain ⟨o, ho, hc, hd⟩ := id hm.1
        exact letGo_plain ho hc (by decide) (hQ' s'.heap hm fun _ _ _ e => e)
      · intro s' Q' E' st hQ'
        exact wpAny_pyNext_list_end hh st.1 st.2 (by simp [r.length]) fun h' he' => hQ' h' fun b o hb e => he' b o hb e
    · intro b hb hne
      simp at hb
      rcases hb with rfl | rfl
      · exact absurd rfl hne
      · exact ⟨o, h1⟩

theorem itr_str {own : List Addr} {T : TM} {s : Shared} {l : S} {v : Value} (hh : A.handled = none) (hr : Rep W (view own T s) (.str l) v) {Q : Value → Shared → Prop}
    (hQ : ∀ I h' fp St Mid, s.heap.get? I = none → (∀ b o, s.heap.get? b = some o → h'.get? b = some o) → Itr W A target I (view own T s) (l.map fun c => V.str [c]) fp St Mid → St 0 h' → (∀ b ∈ fp, b ≠ I → ∃ o, (view own T s).ob b = some o) → (I = s.heap.objs.size ∧ fp = [I] ∧ (∀ i v h, Mid i v h → St (i + 1) h) ∧ ∃ ty, (ty = "str_ascii_iterator" ∨ ty = "str_iterator") ∧ ∀ i h, St i h → ∃ o, h.get? I = some o ∧ o.cls = .type ty) → Q (.ref I) { s with heap := h' }) :
    wpAny (model W.prog W.w) A (pyIter v) Q E s := by
  cases hr with
  | @str _ t htk =>
    have go : ∀ (ty : String), ["enumerate", "zip", "dict_itemiterator", "dict_reverseitemiterator", "odict_iterator", "itertools.zip_longest", "itertools.pairwise"].contains ty = false →
        (∀ {A : Around} {E : Value → Shared → Prop} {s : Shared} {it : Addr} {i c : Nat} {Q : Option Value → Shared → Prop}, s.heap.IsStrIter it ty (mkS l) t i → (mkS l).cps[i]? = some c →
          (∀ h', h'.IsStrIter it ty (mkS l) t (i + 1) → Heap.SameBut it s.heap h' → Q (some (.str ⟨#[c]⟩ s.toks)) { s with heap := h', toks := s.toks + 1 }) → wpAny (model W.prog W.w) A (pyNext (.ref it)) Q E s) →
        (∀ {A : Around} {E : Value → Shared → Prop} {s : Shared} {it : Addr} {i : Nat} {Q : Value → Shared → Prop}, s.heap.IsStrIter it ty (mkS l) t i → Q (.ref it) s → wpAny (model W.prog W.w) A (pyIter (.ref it)) Q E s) →
        (∀ {A : Around} {E : Value → Shared → Prop} {s : Shared} {it : Addr} {i : Nat} {Q : Option Value → Shared → Prop}, A.handled = none → s.heap.IsStrIter it ty (mkS l) t i → (mkS l).cps[i]? = none →
          (∀ h', Heap.ExtBut it s.heap h' → Q none { s with heap := h' }) → wpAny (model W.prog W.w) A (pyNext (.ref it)) Q E s) →
        ∀ I, Itr W A target I (view own T s) (l.map fun c => V.str [c]) [I] (fun i h => h.IsStrIter I ty (mkS l) t i) (fun i _ h => h.IsStrIter I ty (mkS l) t (i + 1)) := by
      intro ty hty hitem hiter hdone I
      refine { self := by simp, live := fun i h st => let ⟨o, ho, _⟩ := st; by rw [ho]; rfl, frame := fun i h h' st k => let ⟨o, ho, r⟩ := st; ⟨o, k _ (by simp) o ho, r⟩, item := ?_, go := ?_, iter := fun i s' Q' E' st h => hiter st h, done := ?_ }
      · intro i x own' T' s' Q' E' hx st hI ht hlv hle hQ'
        rw [List.getElem?_map] at hx
        obtain ⟨c, hc, rfl⟩ := Option.map_eq_some_iff.mp hx
        refine hitem st (c := c) (by simpa [mkS] using hc) fun h' hit' hs' => ?_
        refine hQ' _ h' (s'.toks + 1) (T'.upd s'.toks [c]) (Nat.le_succ _) hit' (fun b o hb e => hs'.extBut b o hb e) (ht.updLe _) (ht.upd _) fun T'' s'' hT k => ?_
        exact .str (hT _ _ TM.upd_self)
      · intro i v s' Q' E' hm hQ'
        obtain ⟨o, ho, hc, hd⟩ := id hm
        exact letGo_plain ho hc hty (hQ' s'.heap hm fun _ _ _ e => e)
      · intro s' Q' E' st hQ'
        exact hdone hh st (by simp [mkS]) fun h' he' => hQ' h' fun b o hb e => he' b o hb e
    have fin : ∀ b ∈ [s.heap.objs.size], b ≠ s.heap.objs.size → ∃ o, (view own T s).ob b = some o := fun b hb hne => absurd (by simpa using hb) hne
    cases ha : (mkS l).cps.all (· < 128) with
    | false => exact wpAny_pyIter_wide ha (hQ _ _ _ _ _ (fresh_size _) (fun b o e => Heap.get?_push_of_some _ e) (go "str_iterator" (by decide) (fun st hx h => wpAny_pyNext_wide_item st hx h) (fun st h => wpAny_pyIter_striter_wide st h) (fun hh st hx h => wpAny_pyNext_wide_end hh st hx h) _) ⟨_, Heap.get?_push_size _ rfl, rfl, rfl⟩ fin ⟨rfl, rfl, fun _ _ _ h => h, _, .inr rfl, fun i h st => let ⟨o, ho, hc, _⟩ := st; ⟨o, ho, hc⟩⟩)
    | true => exact wpAny_pyIter_ascii ha (hQ _ _ _ _ _ (fresh_size _) (fun b o e => Heap.get?_push_of_some _ e) (go "str_ascii_iterator" (by decide) (fun st hx h => wpAny_pyNext_ascii_item st hx h) (fun st h => wpAny_pyIter_striter_ascii st h) (fun hh st hx h => wpAny_pyNext_ascii_end hh st hx h) _) ⟨_, Heap.get?_push_size _ rfl, rfl, rfl⟩ fin ⟨rfl, rfl, fun _ _ _ h => h, _, .inl rfl, fun i h st => let ⟨o, ho, hc, _⟩ := st; ⟨o, ho, hc⟩⟩)

theorem itr_rng {own : List Addr} {T : TM} {s : Shared} {a b : Int} {v : Value} (hh : A.handled = none) (hsm : Builtin.Range.small a b 1 = true) (hr : Rep W (view own T s) (.rng a b) v) {Q : Value → Shared → Prop}
    (hQ : ∀ I h' fp St Mid, s.heap.get? I = none → (∀ b o, s.heap.get? b = some o → h'.get? b = some o) → Itr W A target I (view own T s) ((List.range (b - a).toNat).map fun (i : Nat) => V.int (a + (i : Int))) fp St Mid → St 0 h' → (∀ b ∈ fp, b ≠ I → ∃ o, (view own T s).ob b = some o) → Q (.ref I) { s with heap := h' }) :
    wpAny (model W.prog W.w) A (pyIter v) Q E s := by
  cases hr with
  | @rng r _ _ t u v' h1 =>
    have hsz : Builtin.Range.rangeSize a b 1 = ((b - a).toNat : Int) := by
      unfold Builtin.Range.rangeSize
      rw [if_pos (by decide)]
      by_cases h : a < b
      · rw [if_pos h, Int.ediv_one]; omega
      · rw [if_neg h]; omega
    refine wpAny_pyIter_range (view_of h1) hsm ?_
    rw [hsz]
    refine hQ s.heap.objs.size _ [s.heap.objs.size] (fun i h => IsRangeIter h s.heap.objs.size (a + (i : Nat)) (((b - a).toNat : Int) - (i : Nat)) 1) (fun i _ h => IsRangeIter h s.heap.objs.size (a + ((i + 1 : Nat) : Int)) (((b - a).toNat : Int) - ((i + 1 : Nat) : Int)) 1)
      (fresh_size _) (fun b o e => Heap.get?_push_of_some _ e) ?_ (by
        have e1 : a + ((0 : Nat) : Int) = a := by omega
        have e2 : ((b - a).toNat : Int) - ((0 : Nat) : Int) = ((b - a).toNat : Int) := by omega
        rw [e1, e2]; exact Heap.get?_push_size _ rfl) (fun b hb hne => absurd (by simpa using hb) hne)
    refine { self := by simp, live := fun i h st => by rw [st]; rfl, frame := fun i h h' st k => k _ (by simp) _ st, item := ?_, go := ?_, iter := fun i s' Q' E' st h => wpAny_pyIter_rangeiter st h, done := ?_ }
    · intro i x own' T' s' Q' E' hx st hI ht hlv hle hQ'
      have hi := (List.getElem?_eq_some_iff.mp hx).1
      rw [List.length_map, List.length_range] at hi
      rw [List.getElem?_map, List.getElem?_range hi] at hx
      cases hx
      obtain ⟨c, rfl⟩ : ∃ c, c = i := ⟨i, rfl⟩
      refine wpAny_pyNext_range_item st (by omega) fun h' hit' hs' => ?_
      refine hQ' _ h' (s'.toks + 1) T' (Nat.le_succ _) ?_ (fun b o hb e => hs'.extBut b o hb e) (fun _ _ e => e) (ht.mono (Nat.le_succ _)) fun T'' s'' hT k => .int _ _
      have e1 : a + (c : Int) + 1 = a + ((c + 1 : Nat) : Int) := by omega
      have e2 : (((b - a).toNat : Int) - (c : Int)) - 1 = ((b - a).toNat : Int) - ((c + 1 : Nat) : Int) := by omega
      rw [← e1, ← e2]; exact hit'
    · intro i v s' Q' E' hm hQ'
      exact letGo_plain hm rfl (by decide) (hQ' s'.heap hm fun _ _ _ e => e)
    · intro s' Q' E' st hQ'
      exact wpAny_pyNext_range_end hh st (by simp) fun h' he' => hQ' h' fun b o hb e => he' b o hb e

theorem itr_keys {own : List Addr} {T : TM} {s : Shared} {es : List (Key × V)} {v : Value} (hh : A.handled = none) (hr : Rep W (view own T s) (.dct es) v) {Q : Value → Shared → Prop}
    (hQ : ∀ I h' fp St Mid, s.heap.get? I = none → (∀ b o, s.heap.get? b = some o → h'.get? b = some o) → Itr W A target I (view own T s) (es.map fun p => p.1.v) fp St Mid → St 0 h' → (∀ b ∈ fp, b ≠ I → ∃ o, (view own T s).ob b = some o) → Q (.ref I) { s with heap := h' }) :
    wpAny (model W.prog W.w) A (pyIter v) Q E s := by
  cases hr with
  | @dct a o _ ds kvs n h1 h0 h2 h3 r hn =>
    have hl := r.dictAt (view_of h1) h2 h3 hn
    have hne : a ≠ s.heap.objs.size := Nat.ne_of_lt (Heap.lt_size (view_of h1))
    have hlen := r.length
    have hkl : kvs.length = ds.length := by rw [hlen.1, hlen.2]
    refine wpAny_pyIter_dict h0 hl ?_
    rw [hkl]
    refine hQ s.heap.objs.size _ [s.heap.objs.size, a] (fun i h => h.IsKeyIter s.heap.objs.size a i ds.length n ∧ h.get? a = some o) (fun i _ h => h.IsKeyIter s.heap.objs.size a (i + 1) ds.length n ∧ h.get? a = some o)
      (fresh_size _) (fun b o e => Heap.get?_push_of_some _ e) ?_ ⟨⟨_, Heap.get?_push_size _ rfl, rfl, rfl⟩, Heap.get?_push_of_some _ (view_of h1)⟩ ?_
    · refine { self := by simp, live := fun i h st => let ⟨o, ho, _⟩ := st.1; by rw [ho]; rfl, frame := fun i h h' st k => ⟨st.1.at fun o e => k _ (by simp) o e, k _ (by simp) _ st.2⟩, item := ?_, go := ?_, iter := fun i s' Q' E' st h => wpAny_pyIter_keyiter st.1 h, done := ?_ }
      · intro i x own' T' s' Q' E' hx st hI ht hlv hle hQ'
        rw [List.getElem?_map] at hx
        obtain ⟨⟨k, u⟩, hc, rfl⟩ := Option.map_eq_some_iff.mp hx
        obtain ⟨d, e1, e2, e3, e4⟩ := r.get hc
        refine next_key st.1 st.2 h3 e1 fun h' hit' hs' => ?_
        refine hQ' _ h' s'.toks T' (Nat.le_refl _) ⟨hit', (hs'.2 a hne).trans st.2⟩ (fun b o hb e => hs'.extBut b o hb e) (fun _ _ e => e) ht fun T'' s'' hT k => ?_
        exact e3.mono (hle.trans ⟨fun b o e => view_mk (view_not e) (k b o (view_not e) (hs'.extBut b o (fun q => view_not e (q ▸ hI)) (view_of e))), hT⟩)
      · intro i v s' Q' E' hm hQ'
        obtain ⟨o, ho, hc, hd⟩ := id hm.1
        exact letGo_plain ho hc (by decide) (hQ' s'.heap hm fun _ _ _ e => e)
      · intro s' Q' E' st hQ'
        have hl' := r.dictAt (h := s'.heap) st.2 h2 h3 hn
        have h4 := st.1
        rw [← hkl] at h4
        exact wpAny_pyNext_dict_end hh h4 hl' (by rw [List.length_map]; exact List.getElem?_eq_none (by omega)) fun h' he' => hQ' h' fun b o hb e => he' b o hb e
    · intro b hb hne
      simp at hb
      rcases hb with rfl | rfl
      · exact absurd rfl hne
      · exact ⟨o, h1⟩

theorem itr_items {own : List Addr} {T : TM} {s : Shared} {es : List (Key × V)} {v : Value} (hh : A.handled = none) (htg : isPair target = true) (hr : Rep W (view own T s) (.items es) v) {Q : Value → Shared → Prop}
    (hQ : ∀ I h' fp St Mid, s.heap.get? I = none → (∀ b o, s.heap.get? b = some o → h'.get? b = some o) → Itr W A target I (view own T s) (es.map fun p => V.tup [p.1.v, p.2]) fp St Mid → St 0 h' → (∀ b ∈ fp, b ≠ I → ∃ o, (view own T s).ob b = some o) → Q (.ref I) { s with heap := h' }) :
    wpAny (model W.prog W.w) A (pyIter v) Q E s := by
  cases hr with
  | @itm vw a ov _ hv1 hv2 hv3 hrd =>
   cases hrd with
   | @dct _ o _ ds kvs n h1 h0 h2 h3 r hn =>
    have hl := r.dictAt (view_of h1) h2 h3 hn
    have hne : a ≠ s.heap.objs.size := Nat.ne_of_lt (Heap.lt_size (view_of h1))
    have hlen := r.length
    have hkl : kvs.length = ds.length := by rw [hlen.1, hlen.2]
    refine wpAny_pyIter_items ⟨ov, view_of hv1, hv2, hv3⟩ hl ?_
    rw [hkl]
    refine hQ s.heap.objs.size _ [s.heap.objs.size, a] (fun i h => (∃ ok ov, IsItemIter h s.heap.objs.size a i ds.length n ok ov) ∧ h.get? a = some o)
      (fun i v h => (∃ ok ov x, v = .ref x ∧ IsItemIterOut h s.heap.objs.size a (i + 1) ds.length n ok ov x) ∧ h.get? a = some o)
      (fresh_size _) (fun b o e => Heap.get?_push_of_some _ e) ?_ ⟨⟨.none, .none, Heap.get?_push_size _ rfl⟩, Heap.get?_push_of_some _ (view_of h1)⟩ ?_
    · refine { self := by simp, live := fun i h st => let ⟨_, _, ho⟩ := st.1; by rw [ho]; rfl, frame := fun i h h' st k => ⟨let ⟨x, y, ho⟩ := st.1; ⟨x, y, k _ (by simp) _ ho⟩, k _ (by simp) _ st.2⟩, item := ?_, go := ?_, iter := fun i s' Q' E' st h => let ⟨_, _, h1⟩ := st.1; kcp_self h1 h, done := ?_ }
      · intro i x own' T' s' Q' E' hx st hI ht hlv hle hQ'
        rw [List.getElem?_map] at hx
        obtain ⟨⟨k, u⟩, hc, rfl⟩ := Option.map_eq_some_iff.mp hx
        obtain ⟨d, e1, e2, e3, e4⟩ := r.get hc
        obtain ⟨⟨ok, ov', hit⟩, hao⟩ := st
        have hai : a ≠ s.heap.objs.size := hne
        refine next_item hit hao h3 e1 fun h' hit' ht' hk' => ?_
        refine hQ' _ h' s'.toks T' (Nat.le_refl _) ⟨⟨_, _, _, rfl, hit'⟩, hk' a o hne hao⟩ hk' (fun _ _ e => e) ht fun T'' s'' hT k => ?_
        have hle' : Le (view own T s) (view own' T'' s'') := hle.trans ⟨fun b o e => view_mk (view_not e) (k b o (view_not e) (hk' b o (fun q => view_not e (q ▸ hI)) (view_of e))), hT⟩
        have hnew : s'.heap.objs.size ∉ own' := fun hm => by have := hlv _ hm; rw [fresh_size] at this; cases this
        refine .tup (view_mk hnew (k _ _ hnew ht')) rfl (ws := [d.key, d.val]) (n := 0) rfl (.cons (e3.mono hle') (.cons (e4.mono hle') .nil))
      · intro i v s' Q' E' hm hQ'
        obtain ⟨⟨ok, ov', x, rfl, hit⟩, hao⟩ := hm
        cases target with
        | Tuple es k p => exact wpAny_letOwnedTupleGo_items hit fun h' hit' hs' => hQ' h' ⟨⟨_, _, hit'⟩, (hs'.2 a hne).trans hao⟩ fun b o hb e => hs'.extBut b o hb e
        | _ => cases htg
      · intro s' Q' E' st hQ'
        obtain ⟨⟨ok, ov', hit⟩, hao⟩ := st
        have hl' := r.dictAt (h := s'.heap) hao h2 h3 hn
        rw [← hkl] at hit
        exact wpAny_pyNext_items_end hh hit hl' (by rw [List.length_map]; exact List.getElem?_eq_none (by omega)) fun h' he' => hQ' h' fun b o hb e => he' b o hb e
    · intro b hb hne
      simp at hb
      rcases hb with rfl | rfl
      · exact absurd rfl hne
      · exact ⟨o, h1⟩

/-- what the loops ask of a value that is run through -/
noncomputable def RunOk (target : Expr) : V → Prop
  | .rng a b => Builtin.Range.small a b 1 = true
  | .items _ => isPair target = true
  | .tup _ => False
  | _ => True

theorem itr_of {own : List Addr} {T : TM} {s : Shared} {a : V} {xs : List V} {v : Value} (hh : A.handled = none) (hx : seqOf a = some xs) (hok : RunOk target a) (hr : Rep W (view own T s) a v) {Q : Value → Shared → Prop}
    (hQ : ∀ I h' fp St Mid, s.heap.get? I = none → (∀ b o, s.heap.get? b = some o → h'.get? b = some o) → Itr W A target I (view own T s) xs fp St Mid → St 0 h' → (∀ b ∈ fp, b ≠ I → ∃ o, (view own T s).ob b = some o) → Q (.ref I) { s with heap := h' }) :
    wpAny (model W.prog W.w) A (pyIter v) Q E s := by
  cases a with
  | lst vs => cases hx; exact itr_list hh hr hQ
  | str l => cases hx; exact itr_str hh hr fun I h' fp St Mid x1 x2 x3 x4 x5 _ => hQ I h' fp St Mid x1 x2 x3 x4 x5
  | dct es => cases hx; exact itr_keys hh hr hQ
  | rng a b => cases hx; exact itr_rng hh hok hr hQ
  | items es => cases hx; exact itr_items hh hok hr hQ
  | tup vs => exact hok.elim
  | _ => cases hx
end

end Sx
end
section
open PySem PySem.W PyProof.Rows PySem.Calls
set_option linter.unusedVariables false
set_option Elab.async false
set_option maxRecDepth 100000
namespace Sx

/-- binding a target to a value -/
noncomputable def Asg (C : Cx) (σ : St) (target : Expr) (x : V) (Q : St → Prop) : Prop :=
  ∀ F mine T s v, Abs C F mine T σ s → Rep C.W (view (F ++ mine) T s) x v → wpAny C.M C.A (assign target C.env v) (fun _ s' => ∃ σ' mine' T', Q σ' ∧ Post F mine T s mine' T' s' ∧ Abs C F mine' T' σ' s') C.X s
noncomputable def AsgL (C : Cx) (σ : St) (ts : List Expr) (xs : List V) (Q : St → Prop) : Prop :=
  ∀ F mine T s vs, Abs C F mine T σ s → RepL C.W (view (F ++ mine) T s) xs vs → wpAny C.M C.A (assignInOrder ((assignEach ts C.env).map (·.2)) vs) (fun _ s' => ∃ σ' mine' T', Q σ' ∧ Post F mine T s mine' T' s' ∧ Abs C F mine' T' σ' s') C.X s

section
variable {C : Cx} {σ : St}

theorem asg_name {n : Nat} (ok : C.Ok n) {x : String} {p : Pos} {u : V} {Q : St → Prop} (hx : isHere C (Str.ofString x) = true) (h : Q (put σ (Str.ofString x) x (.val u))) : Asg C σ (.Name (Str.ofString x) p) u Q := by
  intro F mine T s v hA hr
  exact wpAny_assign_Name (store_val ok hA hx hr fun s' p' a' => ⟨_, mine, T, h, p', a'⟩)

theorem asgL_nil {Q : St → Prop} (h : Q σ) : AsgL C σ [] [] Q := fun F mine T s vs hA hr => by
  cases hr
  exact wpAny_assignInOrder_none ⟨σ, mine, T, h, .refl _ _ _ _, hA⟩
theorem asgL_cons {t : Expr} {ts : List Expr} {x : V} {xs : List V} {Q : St → Prop} (h : Asg C σ t x (fun σ1 => AsgL C σ1 ts xs Q)) (ht : assignEach (t :: ts) C.env = (false, assign t C.env) :: assignEach ts C.env := by rfl) : AsgL C σ (t :: ts) (x :: xs) Q := by
  intro F mine T s vs hA hr
  cases hr with
  | @cons _ v _ vs hv hr =>
    rw [ht]
    refine wpAny_assignInOrder_more (wpAny_mono (h F mine T s v hA hv) ?_ fun _ _ x => x)
    rintro _ s1 ⟨σ1, m1, T1, q, p1, a1⟩
    refine wpAny_mono (q F m1 T1 s1 vs a1 (hr.mono p1.le)) ?_ fun _ _ x => x
    rintro _ s2 ⟨σ2, m2, T2, q2, p2, a2⟩
    exact ⟨σ2, m2, T2, q2, p1.trans p2, a2⟩

theorem asg_tuple {n : Nat} (ok : C.Ok n) {ts : List Expr} {k : Nat} {p : Pos} {xs : List V} {Q : St → Prop} (h : AsgL C σ ts xs Q) (hn : (assignEach ts C.env).length = xs.length) (hstar : (assignEach ts C.env).findIdx? (·.1) = none) : Asg C σ (.Tuple ts k p) (.tup xs) Q := by
  intro F mine T s v hA hr
  cases hr with
  | @tup a o _ ws n h1 h2 h3 r =>
    refine wpAny_assign_Tuple ok.hh (t := a) (items := ws.toArray) ⟨o, view_of h1, h2, n, h3⟩ (by rw [hn, List.size_toArray, r.length]) hstar fun h' he => ?_
    have hk : Kp T s T { s with heap := h' } := Kp.at (tk := s.toks) hA.tok (fun b o e => he b o (Nat.ne_of_lt (Heap.lt_size e)) e) (Nat.le_refl _)
    refine wpAny_mono (h F mine T { s with heap := h' } ws (hA.keeps hk) (r.mono hk.view)) ?_ fun _ _ x => x
    rintro _ s2 ⟨σ2, m2, T2, q2, p2, a2⟩
    exact ⟨σ2, m2, T2, q2, (hk.post hA.live).trans p2, a2⟩

/-! ## for -/
noncomputable def Loop (C : Cx) (target : Expr) (body orelse : List Stmt) (Q : Fl → St → Prop) : List V → St → Prop
  | [], σ => Exs C σ orelse Q
  | x :: xs, σ => Asg C σ target x (fun σ1 => Exs C σ1 body (fun fl σ2 => match fl with
      | .next => Loop C target body orelse Q xs σ2
      | .cont => Loop C target body orelse Q xs σ2
      | .brk => Q .next σ2
      | .ret v => Q (.ret v) σ2))

/-- a frame more (or less) of what is somebody else's -/
theorem Abs.other {F F' mine : List Addr} {T T' : TM} {s s' : Shared} (hA : Abs C F mine T σ s) (le : Le (view (F ++ mine) T s) (view (F' ++ mine) T' s')) (hm : ∀ b o, b ∈ mine → s.heap.get? b = some o → s'.heap.get? b = some o)
    (hc : ∀ x c, C.env.cells.lookup x = some c → c ∈ F' ++ mine ∧ ∀ o, s.heap.get? c = some o → s'.heap.get? c = some o) (hl : ∀ b ∈ F' ++ mine, (s'.heap.get? b).isSome = true) (hn : ∀ b ∈ mine, b ∉ F') (ht : TOk T' s'.toks) : Abs C F' mine T' σ s' := by
  obtain ⟨m, cm, f⟩ := hA.frm
  refine ⟨fun b o e => le.ob b o (hA.base b o e), hl, hn, ht, m, cm, ?_⟩
  refine { ns := f.ns.at' fun o e => hm _ o f.lm e, cells := fun x c e => ?_, apart := f.apart, lc := f.lc, has := f.has, lm := f.lm, cown := fun x c e => (hc x c e).1, cmine := f.cmine, slots := fun x sl e => ?_, own := f.own, dis := f.dis }
  · obtain ⟨o, ho, hd⟩ := f.cells x c e
    exact ⟨o, (hc x c e).2 o ho, hd⟩
  · obtain ⟨v, hv, hr⟩ := f.slots x sl e
    exact ⟨v, hv, hr.mono le fun a ho o e' => hm _ o (f.own x sl a e ho).1 e'⟩

theorem Abs.dropI {F mine : List Addr} {I : Addr} {T : TM} {s : Shared} (hA : Abs C (F ++ [I]) mine T σ s) (cI : ∀ x c, C.env.cells.lookup x = some c → c ≠ I) : Abs C F mine T σ s := by
  have sub : ∀ b ∈ F ++ mine, b ∈ (F ++ [I]) ++ mine := fun b hb => by
    simp only [List.mem_append, List.mem_singleton] at hb ⊢
    rcases hb with hb | hb
    · exact .inl (.inl hb)
    · exact .inr hb
  refine hA.other (view_sub sub) (fun b o _ e => e) (fun x c e => ⟨?_, fun o e' => e'⟩) (fun b hb => hA.live b (sub b hb)) (fun b hb hF => hA.nin b hb (List.mem_append_left _ hF)) hA.tok
  obtain ⟨m, cm, f⟩ := hA.frm
  have := f.cown x c e
  simp only [List.mem_append, List.mem_singleton] at this ⊢
  rcases this with (h | h) | h
  · exact .inl h
  · exact absurd h (cI x c e)
  · exact .inr h

theorem ex_for {n : Nat} (ok : C.Ok n) {target iter : Expr} {body orelse : List Stmt} {pos : Pos} {Q : Fl → St → Prop}
    (h : Ev C σ iter (fun a σ1 => ∃ xs, seqOf a = some xs ∧ RunOk target a ∧ Loop C target body orelse Q xs σ1)) (hs : ∀ x, foldedSetIterable iter C.env x = pure x := by intro _; rfl) : Ex C σ (.For target iter body orelse pos) Q := by
  refine Tr.intro' fun F mine T s QQ fin hA => ?_
  refine wpAny_For (wpAny_mono (h F mine T s hA) ?_ fun _ _ x => x) hs
  rintro v s1 ⟨a, σ1, m1, T1, ⟨xs, hxs, hok, hL⟩, p1, a1, r1⟩
  refine itr_of (target := target) ok.hh hxs hok r1 fun I h2 fp St Mid hnew hk hI hst hfp => ?_
  -- the loop itself: from s1 on, the iterator is somebody else's
  have cI : ∀ x c, C.env.cells.lookup x = some c → c ≠ I := fun x c e q => by
    obtain ⟨m, cm, f⟩ := a1.frm
    obtain ⟨o, ho, _⟩ := f.cells x c e
    rw [q, hnew] at ho; cases ho
  have kp : Kp T1 s1 T1 { s1 with heap := h2 } := Kp.at (tk := s1.toks) a1.tok hk (Nat.le_refl _)
  have nI : ∀ b ∈ F ++ m1, b ≠ I := fun b hb q => by have := a1.live b hb; rw [q, hnew] at this; cases this
  have IF : I ∉ F := fun hm => nI I (List.mem_append_left _ hm) rfl
  have a2 : Abs C (F ++ [I]) m1 T1 σ1 { s1 with heap := h2 } := by
    refine a1.other ⟨fun b o e => view_mk (fun hb => ?_) (hk b o (view_of e)), fun _ _ e => e⟩ (fun b o _ e => hk b o e) (fun x c e => ⟨?_, fun o e' => hk c o e'⟩) (fun b hb => ?_) (fun b hb hF => ?_) a1.tok
    · have hne : b ≠ I := fun q => by have := view_of e; rw [q, hnew] at this; cases this
      simp only [List.mem_append, List.mem_singleton] at hb
      rcases hb with (hb | hb) | hb
      · exact view_not e (List.mem_append_left _ hb)
      · exact hne hb
      · exact view_not e (List.mem_append_right _ hb)
    · obtain ⟨m, cm, f⟩ := a1.frm
      rcases List.mem_append.mp (f.cown x c e) with hm | hm
      · exact List.mem_append_left _ (List.mem_append_left _ hm)
      · exact List.mem_append_right _ hm
    · simp only [List.mem_append, List.mem_singleton] at hb
      rcases hb with (hb | hb) | hb
      · exact kp.live a1.live b (List.mem_append_left _ hb)
      · subst hb; exact hI.live 0 _ hst
      · exact kp.live a1.live b (List.mem_append_right _ hb)
    · simp only [List.mem_append, List.mem_singleton] at hF
      rcases hF with hF | hF
      · exact a1.nin b hb hF
      · exact nI b (List.mem_append_right _ hb) hF
  have hfp' : ∀ b ∈ fp, b ≠ I → b ∉ F ++ m1 := fun b hb hne => let ⟨o, ho⟩ := hfp b hb hne; view_not ho
  refine codeAny_forLoop_any (fun k s' => ∃ i σ' m' T', k = xs.length + 1 - i ∧ i ≤ xs.length ∧ Loop C target body orelse Q (xs.drop i) σ' ∧ Post F m1 T1 s1 m' T' s' ∧ Abs C (F ++ [I]) m' T' σ' s' ∧ St i s'.heap) ?_ (xs.length + 1)
    ⟨0, σ1, m1, T1, rfl, Nat.zero_le _, by simpa using hL, kp.post a1.live, a2, hst⟩
  rintro k s' ⟨i, σ', m', T', rfl, hi, hL', p', a', st'⟩
  have leg : Le (view (F ++ m1) T1 s1) (view ((F ++ [I]) ++ m') T' s') := ⟨fun b o e => by
    have e' := p'.le.ob b o e
    have hne : b ≠ I := fun q => by have := view_of e; rw [q, hnew] at this; cases this
    refine view_mk (fun hb => ?_) (view_of e')
    simp only [List.mem_append, List.mem_singleton] at hb
    rcases hb with (hb | hb) | hb
    · exact view_not e' (List.mem_append_left _ hb)
    · exact hne hb
    · exact view_not e' (List.mem_append_right _ hb), p'.le.tk⟩
  have Imem : I ∈ (F ++ [I]) ++ m' := by simp
  -- a step that turns the iterator alone
  have onlyI : ∀ (h' : Heap) (tk : Nat) (T'' : TM), (∀ b o, b ≠ I → s'.heap.get? b = some o → h'.get? b = some o) → TLe T' T'' → TOk T'' tk → Post F m1 T1 s1 m' T'' { s' with heap := h', toks := tk } ∧ Le (view ((F ++ [I]) ++ m') T' s') (view ((F ++ [I]) ++ m') T'' { s' with heap := h', toks := tk }) ∧
      ((h'.get? I).isSome = true → Abs C (F ++ [I]) m' T'' σ' { s' with heap := h', toks := tk }) := by
    intro h' tk T'' hk' hT htk
    have le : Le (view ((F ++ [I]) ++ m') T' s') (view ((F ++ [I]) ++ m') T'' { s' with heap := h', toks := tk }) := ⟨fun b o e => view_mk (view_not e) (hk' b o (fun q => view_not e (q ▸ Imem)) (view_of e)), hT⟩
    refine ⟨⟨?_, ⟨fun b o e => ?_, fun t l e => hT t l (p'.le.tk t l e)⟩, fun b hb => ?_⟩, le, fun hlv => ?_⟩
    · obtain ⟨h0, t0, rfl⟩ := p'.same
      exact ⟨h', tk, rfl⟩
    · have e' := p'.le.ob b o e
      have hne : b ≠ I := fun q => by have := view_of e; rw [q, hnew] at this; cases this
      exact view_mk (view_not e') (hk' b o hne (view_of e'))
    · have hbI : b ≠ I := fun q => IF (q ▸ hb)
      obtain ⟨o, ho⟩ := Option.isSome_iff_exists.mp (a1.live b (List.mem_append_left _ hb))
      have e1 := p'.far b hb
      rw [ho] at e1
      rw [ho]
      exact hk' b o hbI e1
    · have Im' : ∀ b ∈ m', b ≠ I := fun b hb q => a'.nin b hb (by rw [q]; simp)
      refine a'.other le (fun b o hb e => hk' b o (Im' b hb) e) (fun x c e => ⟨?_, fun o e' => hk' c o (cI x c e) e'⟩) (fun b hb => ?_) a'.nin htk
      · obtain ⟨m, cm, f⟩ := a'.frm
        exact f.cown x c e
      · by_cases q : b = I
        · subst q; exact hlv
        · obtain ⟨o, ho⟩ := Option.isSome_iff_exists.mp (a'.live b hb)
          show (h'.get? b).isSome = true
          rw [hk' b o q ho]; rfl
  cases hx : xs[i]? with
  | none =>
    have hlen : xs.length ≤ i := List.getElem?_eq_none_iff.mp hx
    have hie : i = xs.length := Nat.le_antisymm hi hlen
    subst hie
    refine hI.done s' _ _ st' fun h' hk' => ?_
    obtain ⟨p3, le3, _⟩ := onlyI h' s'.toks T' hk' (fun _ _ e => e) a'.tok
    rw [List.drop_length] at hL'
    have a3 : Abs C F m' T' σ' { s' with heap := h' } := by
      have Im' : ∀ b ∈ m', b ≠ I := fun b hb q => a'.nin b hb (by rw [q]; simp)
      refine a'.other (le3.trans (view_sub fun b hb => ?_)) (fun b o hb e => hk' b o (Im' b hb) e) (fun x c e => ⟨?_, fun o e' => hk' c o (cI x c e) e'⟩) (fun b hb => ?_) (fun b hb hF => a'.nin b hb (List.mem_append_left _ hF)) a'.tok
      · simp only [List.mem_append, List.mem_singleton] at hb ⊢
        rcases hb with hb | hb
        · exact .inl (.inl hb)
        · exact .inr hb
      · obtain ⟨m, cm, f⟩ := a'.frm
        have := f.cown x c e
        simp only [List.mem_append, List.mem_singleton] at this ⊢
        rcases this with (h | h) | h
        · exact .inl h
        · exact absurd h (cI x c e)
        · exact .inr h
      · have hb' : b ∈ (F ++ [I]) ++ m' := by
          simp only [List.mem_append, List.mem_singleton] at hb ⊢
          rcases hb with hb | hb
          · exact .inl (.inl hb)
          · exact .inr hb
        have q : b ≠ I := fun q => by
          rcases List.mem_append.mp hb with hb | hb
          · exact IF (q ▸ hb)
          · exact Im' b hb q
        obtain ⟨o, ho⟩ := Option.isSome_iff_exists.mp (a'.live b hb')
        show (h'.get? b).isSome = true
        rw [hk' b o q ho]; rfl
    refine wpAny_passesOwn ok.hx (Tr.then hL' a3 fun f s4 fl σ4 m4 T4 q4 p4 a4 r4 => ?_)
    exact fin _ _ fl σ4 m4 T4 q4 ((p1.trans p3).trans p4) a4 r4
  | some x =>
    have hlt : i < xs.length := (List.getElem?_eq_some_iff.mp hx).1
    have hdrop : xs.drop i = x :: xs.drop (i + 1) := by
      rw [List.drop_eq_getElem_cons hlt]
      congr 1
      have := List.getElem?_eq_getElem hlt
      rw [hx] at this; exact (Option.some.inj this).symm
    rw [hdrop] at hL'
    refine hI.item i x _ T' s' _ _ hx st' Imem a'.tok a'.live leg fun v h3 tk3 T3 htk3 hm3 hk3 hT3 htok3 hrep => ?_
    refine hI.go i v _ _ _ hm3 fun h4 hst4 hk4 => ?_
    have hk34 : ∀ b o, b ≠ I → s'.heap.get? b = some o → h4.get? b = some o := fun b o hb e => hk4 b o hb (hk3 b o hb e)
    obtain ⟨p4, le4, a4⟩ := onlyI h4 tk3 T3 hk34 hT3 htok3
    have a4 := a4 (hI.live _ _ hst4)
    have r4 : Rep C.W (view ((F ++ [I]) ++ m') T3 { s' with heap := h4, toks := tk3 }) x v := hrep T3 _ (fun _ _ e => e) fun b o hb e => hk4 b o (fun q => hb (q ▸ Imem)) e
    refine wpAny_passesOwn ok.hx (wpAny_mono (hL' (F ++ [I]) m' T3 _ v a4 r4) ?_ fun _ _ x => x)
    rintro _ s5 ⟨σ5, m5, T5, q5, p5, a5⟩
    refine wpAny_passesOwn ok.hx (wpAny_mono (q5 (F ++ [I]) m5 T5 s5 a5) ?_ fun _ _ x => x)
    rintro f s6 ⟨fl, σ6, m6, T6, q6, p6, a6, r6⟩
    have p56 := p5.trans p6
    have vis : ∀ b o, (view (F ++ m1) T1 s1).ob b = some o → (view ((F ++ [I]) ++ m') T3 { s' with heap := h4, toks := tk3 }).ob b = some o := fun b o e => le4.ob b o (leg.ob b o e)
    have p6' : Post F m1 T1 s1 m6 T6 s6 := by
      refine ⟨?_, ⟨fun b o e => ?_, fun t l e => p56.le.tk t l (p4.le.tk t l e)⟩, fun b hb => (p56.far b (List.mem_append_left _ hb)).trans (p4.far b hb)⟩
      · obtain ⟨h0, t0, e0⟩ := p4.same
        obtain ⟨h1, t1, rfl⟩ := p56.same
        exact ⟨h1, t1, by rw [e0]⟩
      · have e6 := p56.le.ob b o (vis b o e)
        exact (view_sub (T := T6) (s := s6) fun c hc => by
          simp only [List.mem_append, List.mem_singleton] at hc ⊢
          rcases hc with hc | hc
          · exact .inl (.inl hc)
          · exact .inr hc).ob b o e6
    have st6 : St (i + 1) s6.heap := by
      refine hI.frame (i + 1) h4 s6.heap hst4 fun b hb o e => ?_
      by_cases q : b = I
      · subst q
        exact (p56.far b (by simp)).trans e
      · obtain ⟨o', ho'⟩ := hfp b hb q
        have e1 := vis b o' ho'
        have e2 : h4.get? b = some o' := view_of e1
        rw [e] at e2
        cases e2
        exact view_of (p56.le.ob b o e1)
    have leave : ∀ v, FlRep C.W (view ((F ++ [I]) ++ m6) T6 s6) (.ret v) f → FlRep C.W (view (F ++ m6) T6 s6) (.ret v) f := by
      intro v h
      cases h with
      | ret r =>
        exact .ret (r.mono (view_sub fun c hc => by
          simp only [List.mem_append, List.mem_singleton] at hc ⊢
          rcases hc with hc | hc
          · exact .inl (.inl hc)
          · exact .inr hc))
    cases r6 with
    | next => exact ⟨xs.length + 1 - (i + 1), by omega, i + 1, σ6, m6, T6, rfl, hlt, q6, p6', a6, st6⟩
    | cont => exact ⟨xs.length + 1 - (i + 1), by omega, i + 1, σ6, m6, T6, rfl, hlt, q6, p6', a6, st6⟩
    | brk => exact fin _ _ .next σ6 m6 T6 q6 (p1.trans p6') (a6.dropI cI) .next
    | ret r => exact fin _ _ (.ret _) σ6 m6 T6 q6 (p1.trans p6') (a6.dropI cI) (leave _ (.ret r))
end
end Sx
end
section
open PySem PySem.W PyProof.Rows PySem.Calls
set_option linter.unusedVariables false
set_option Elab.async false
set_option maxRecDepth 100000
namespace Sx

/-! ## what turns a list or a dict of the frame's own -/
structure KpB (a : Addr) (T : TM) (s : Shared) (T' : TM) (s' : Shared) : Prop where
  same : ∃ h' tk, s' = { s with heap := h', toks := tk }
  keep : ∀ b o, b ≠ a → s.heap.get? b = some o → s'.heap.get? b = some o
  live : (s'.heap.get? a).isSome = true
  tle : TLe T T'
  tok : TOk T' s'.toks
theorem KpB.view {a : Addr} {T T' : TM} {own : List Addr} {s s' : Shared} (k : KpB a T s T' s') (ha : a ∈ own) : Le (view own T s) (view own T' s') :=
  ⟨fun b o e => view_mk (view_not e) (k.keep b o (fun q => view_not e (q ▸ ha)) (view_of e)), k.tle⟩

noncomputable def OpM {α : Type} (C : Cx) (sl : Slot) (vs : List V) (t : Value → List Value → Sem α) (P : α → Prop) (K : Slot → Prop) : Prop :=
  ∀ own T s a ws, OwnOk C own T s → a ∈ own → sl.adr = some a → SlotRep C.W (view own T s) s.heap sl (.ref a) → RepL C.W (view own T s) vs ws →
    wpAny C.M C.A (t (.ref a) ws) (fun r s' => P r ∧ ∃ sl' T', K sl' ∧ sl'.adr = some a ∧ KpB a T s T' s' ∧ SlotRep C.W (view own T' s') s'.heap sl' (.ref a)) C.X s

theorem OpM.abs {α : Type} {C : Cx} {σ : St} {F mine : List Addr} {T : TM} {s : Shared} {sl : Slot} {vs : List V} {t : Value → List Value → Sem α} {P : α → Prop} {K : Slot → Prop} (h : OpM C sl vs t P K) (hA : Abs C F mine T σ s) {x : String} {a : Addr}
    (hf : find σ (Str.ofString x) = some sl) (ho : sl.adr = some a) {ws : List Value} (hr : RepL C.W (view (F ++ mine) T s) vs ws) {Q : α → Shared → Prop}
    (hQ : ∀ r s' sl' T', P r → K sl' → sl'.adr = some a → Post F mine T s mine T' s' → Abs C F mine T' (put σ (Str.ofString x) x sl') s' → Q r s') : wpAny C.M C.A (t (.ref a) ws) Q C.X s := by
  obtain ⟨m, cm, f⟩ := hA.frm
  obtain ⟨v, hv, hr0⟩ := f.slots _ _ hf
  have hva := hr0.ref ho
  subst hva
  have hm := (f.own _ _ _ hf ho).1
  refine wpAny_mono (h (F ++ mine) T s a ws hA.ownOk (List.mem_append_right _ hm) ho hr0 hr) ?_ fun _ _ x => x
  rintro r s' ⟨hP, sl', T', hK, ho', k, hr'⟩
  obtain ⟨p1, a1⟩ := hA.mutate hf ho ho' k.same k.keep k.live k.tle k.tok (fun _ _ _ => hr')
  exact hQ r s' sl' T' hP hK ho' p1 a1

section
variable {C : Cx} {σ : St}

theorem opM_append {a : Addr} {vs : List V} {v : V} {K : Slot → Prop} (hl : vs.length ≤ sizeLine) (h : K (.list a (vs ++ [v]))) : OpM C (.list a vs) [v] (fun l ws => call (.builtin "list.append") (l :: ws)) (fun r => r = .none) K := by
  intro own T s b ws hO hb ho hs hr
  cases ho
  obtain ⟨_, xs, hx, hxr⟩ := hs
  obtain ⟨w, _, rfl, hw, hr⟩ := hr.cons_inv
  obtain rfl := hr.nil_inv
  refine wpAny_list_append_plain (items := xs.toArray) hx (fun h' hp hs' => ?_) (by simpa [hxr.length] using hl)
  have k : KpB a T s T { s with heap := h' } := ⟨⟨h', s.toks, rfl⟩, fun b o hb e => hs'.extBut b o hb e, by obtain ⟨n, e⟩ := hp; show (h'.get? a).isSome = true; rw [e]; rfl, fun _ _ e => e, hO.tok⟩
  refine ⟨rfl, _, T, h, rfl, k, rfl, xs ++ [w], ?_, ?_⟩
  · obtain ⟨n, e⟩ := hp
    exact ⟨n, by rw [e]; simp⟩
  · exact (hxr.append (.cons hw .nil)).mono (k.view hb)

end
end Sx
end
section
open PySem PySem.W PyProof.Rows PySem.Calls
set_option linter.unusedVariables false
set_option Elab.async false
set_option maxRecDepth 100000
namespace Sx

/-! ## dicts turn -/
noncomputable def dset : List (Key × V) → Key → V → List (Key × V)
  | [], k, v => [(k, v)]
  | (k', v') :: r, k, v => if k' = k then (k', v) :: r else (k', v') :: dset r k v

theorem dset_keys (es : List (Key × V)) (k : Key) (v : V) : (dset es k v).map (·.1) = if k ∈ es.map (·.1) then es.map (·.1) else es.map (·.1) ++ [k] := by
  induction es with
  | nil => simp [dset]
  | cons p r ih =>
    obtain ⟨k', v'⟩ := p
    unfold dset
    by_cases h : k' = k
    · subst h; simp
    · rw [if_neg h]
      simp only [List.map_cons, ih, List.mem_cons]
      by_cases hm : k ∈ r.map (·.1)
      · simp [hm]
      · simp [hm, Ne.symm h]
theorem dset_nodup {es : List (Key × V)} (h : (es.map (·.1)).Nodup) (k : Key) (v : V) : ((dset es k v).map (·.1)).Nodup := by
  rw [dset_keys]
  split
  · exact h
  · rename_i hn
    rw [List.nodup_append]
    exact ⟨h, by simp, fun a ha b hb => by rw [List.mem_singleton] at hb; subst hb; exact fun e => hn (e ▸ ha)⟩
theorem dset_length (es : List (Key × V)) (k : Key) (v : V) : (dset es k v).length ≤ es.length + 1 := by
  induction es with
  | nil => simp [dset]
  | cons p r ih =>
    obtain ⟨k', v'⟩ := p
    unfold dset
    split
    · simp
    · simp only [List.length_cons]; omega

theorem RepD.dset {W : Wd} {g : PH} {es : List (Key × V)} {ds : List DictEntry} {kvs : List (Key × Value)} (h : RepD W g es ds kvs) {k : Key} {v : V} {kw w : Value} (hk : Rep W g k.v kw) (hv : Rep W g v w) :
    ∃ ds' kvs', RepD W g (dset es k v) ds' kvs' ∧ ((∃ i, ds.findIdx? (fun e => W.knd.is k e.key) = some i ∧ ds' = ds.modify i fun e => { e with val := w }) ∨ (ds.findIdx? (fun e => W.knd.is k e.key) = none ∧ ds' = ds ++ [⟨W.knd.hash k, kw, w⟩])) := by
  induction ds generalizing es kvs with
  | nil =>
    cases h
    exact ⟨_, _, .cons hk rfl hv .nil, .inr ⟨rfl, rfl⟩⟩
  | cons d ds ih =>
    cases h with
    | @cons k' v' _ es _ kvs h1 h2 h3 r =>
      have his : W.knd.is k d.key = decide (k = k') := KeyKind.is_eq_decide (knd := W.knd) (Key.is_of_rep h1) k
      by_cases e : k' = k
      · subst e
        refine ⟨{ d with val := w } :: ds, (k', w) :: kvs, ?_, .inl ⟨0, ?_, rfl⟩⟩
        · unfold Sx.dset
          rw [if_pos rfl]
          exact .cons (d := { d with val := w }) h1 h2 hv r
        · rw [List.findIdx?_cons, his]; simp
      · obtain ⟨ds', kvs', r', q⟩ := ih r
        refine ⟨d :: ds', (k', d.val) :: kvs', ?_, ?_⟩
        · unfold Sx.dset
          rw [if_neg e]
          exact .cons h1 h2 h3 r'
        · have hf : W.knd.is k d.key = false := by rw [his]; exact decide_eq_false fun q => e q.symm
          rcases q with ⟨i, q1, q2⟩ | ⟨q1, q2⟩
          · refine .inl ⟨i + 1, ?_, ?_⟩
            · rw [List.findIdx?_cons, hf, q1]; rfl
            · rw [q2]; rfl
          · refine .inr ⟨?_, ?_⟩
            · rw [List.findIdx?_cons, hf, q1]; rfl
            · rw [q2]; rfl

section
variable {C : Cx} {σ : St}

theorem opM_dictSet {a : Addr} {es : List (Key × V)} {k : Key} {v : V} {K : Slot → Prop} (hl : es.length ≤ sizeLine) (h : K (.dict a (dset es k v))) :
    OpM C (.dict a es) [k.v, v] (fun d ws => match d, ws with | .ref d, [k, v] => dictSet d k v | _, _ => pure ()) (fun _ => True) K := by
  intro own T s b ws hO hb ho hs hr
  cases ho
  obtain ⟨_, ds, kvs, ⟨h0, o, n, ho, hx, hd⟩, hrd, hn⟩ := hs
  obtain ⟨kw, _, rfl, hkw, hr⟩ := hr.cons_inv
  obtain ⟨w, _, rfl, hw, hr⟩ := hr.cons_inv
  obtain rfl := hr.nil_inv
  have hkey : C.W.knd.is k kw = true := Key.is_of_rep hkw
  show wpAny C.M C.A (dictSet a kw w) _ _ s
  unfold dictSet
  try with_reducible refine wpAny_holding ?_
  refine wpAny_bind (C.W.knd.pyHash hkey ?_)
  unfold dictSetHashed
  try with_reducible refine wpAny_holding ?_
  refine wpAny_bind (wpAny_dictFind_of (s := { s with toks := s.toks + 1 }) hkey ho hd hrd.keysOf ?_)
  have hidx : (ds.toArray.findIdx? fun e => C.W.knd.is k e.key) = ds.findIdx? fun e => C.W.knd.is k e.key := by simp
  have hsz : ds.toArray.size ≤ sizeLine := by rw [List.size_toArray, hrd.length.1]; exact hl
  obtain ⟨ds', kvs', r', q⟩ := hrd.dset hkw hw
  rw [hidx]
  rcases q with ⟨i, q1, q2⟩ | ⟨q1, q2⟩
  · rw [q1]
    refine wpAny_bind (wpAny_rule (wpAny_bind (wpAny_updateDict (s := { s with toks := s.toks + 1 }) ho hd (wpAny_point ⟨trivial, _, T, h, rfl, ⟨⟨_, _, rfl⟩, fun b o hb e => (Heap.get?_update_other _ _ (Ne.symm hb)).trans e, ?_, fun _ _ e => e, hO.tok.mono (Nat.le_succ _)⟩, rfl, ds', kvs', ?_, ?_, dset_nodup hn _ _⟩))))
    · show ((s.heap.update a _).get? a).isSome = true
      rw [Heap.get?_update_self _ ho (Obj.isFreed_of_dict (Obj.data_mapDict hd _))]; rfl
    · refine ⟨h0, _, n, Heap.get?_update_self _ ho (Obj.isFreed_of_dict (Obj.data_mapDict hd _)), hx.mapDict _, ?_⟩
      rw [Obj.data_mapDict hd, q2]
      simp
    · refine RepD.mono (g := view own T s) ?_ r'
      exact ⟨fun b o e => view_mk (view_not e) ((Heap.get?_update_other _ _ (fun q => view_not e (by rw [← q]; exact hb))).trans (view_of e)), fun _ _ e => e⟩
  · rw [q1]
    refine wpAny_bind (wpAny_rule (wpAny_updateDictKeys (hz := hsz) (s := { s with toks := s.toks + 1 }) ho hd ⟨trivial, _, T, h, rfl, ⟨⟨_, _, rfl⟩, fun b o hb e => (Heap.get?_update_other _ _ (Ne.symm hb)).trans e, ?_, fun _ _ e => e, hO.tok.mono (Nat.le_succ _)⟩, rfl, ds', kvs', ?_, ?_, dset_nodup hn _ _⟩))
    · show ((s.heap.update a _).get? a).isSome = true
      rw [Heap.get?_update_self _ ho (Obj.isFreed_of_dict (Obj.data_mapDictKeys hd _))]; rfl
    · refine ⟨h0, _, n + 1, Heap.get?_update_self _ ho (Obj.isFreed_of_dict (Obj.data_mapDictKeys hd _)), hx.mapDictKeys _, ?_⟩
      rw [Obj.data_mapDictKeys hd, q2]
      simp
    · refine RepD.mono (g := view own T s) ?_ r'
      exact ⟨fun b o e => view_mk (view_not e) ((Heap.get?_update_other _ _ (fun q => view_not e (by rw [← q]; exact hb))).trans (view_of e)), fun _ _ e => e⟩

theorem opM_setItem {a : Addr} {es : List (Key × V)} {k : Key} {v : V} {K : Slot → Prop} (hl : es.length ≤ sizeLine) (h : K (.dict a (dset es k v))) :
    OpM C (.dict a es) [k.v, v] (fun d ws => match ws with | [k, v] => setItem d k v | _ => pure ()) (fun _ => True) K := by
  intro own T s b ws hO hb ho hs hr
  have key := opM_dictSet (C := C) hl h own T s b ws hO hb ho hs hr
  cases ho
  obtain ⟨_, ds, kvs, ⟨h0, o, n, ho, hx, hd⟩, hrd, hn⟩ := hs
  have hT : s.TypeIs (.ref a) "dict" := ⟨o, ho, hx.1⟩
  obtain ⟨kw, _, rfl, hkw, hr⟩ := hr.cons_inv
  obtain ⟨w, _, rfl, hw, hr⟩ := hr.cons_inv
  obtain rfl := hr.nil_inv
  show wpAny C.M C.A (setItem (.ref a) kw w) _ _ s
  have key : wpAny C.M C.A.in1 (dictSet a kw w) (fun r s' => True ∧ ∃ sl' T', K sl' ∧ sl'.adr = some a ∧ KpB a T s T' s' ∧ SlotRep C.W (view own T' s') s'.heap sl' (.ref a)) C.X s :=
    opM_dictSet (C := { C with A := C.A.in1 }) (K := K) hl h own T s a [kw, w] ⟨hO.base, hO.live, hO.tok⟩ hb rfl ⟨rfl, ds, kvs, ⟨h0, o, n, ho, hx, hd⟩, hrd, hn⟩ (.cons hkw (.cons hw .nil))
  unfold setItem
  try with_reducible refine wpAny_holding ?_
  refine wpAny_bind (wpAny_sequenceKey hT (by decide) ?_)
  refine wpAny_bind (wpAny_callSpecial?_slot (name := Str.ofString "__setitem__") hT slot_dict_setitem
    (wpAny_call_entry slot_dict_setitem hT entry_dict_setitem ?_ (args_dict_setitem _ _ _)))
  show wpAny _ _ (Builtin.Dict.notOrdered "__setitem__" ⟨[.ref a, kw, w], []⟩ >>= _) _ _ s
  refine wpAny_bind (wpAny_notOrdered_dict hT ?_)
  show wpAny _ _ (dictSet a kw w >>= _) _ _ s
  exact wpAny_bind (wpAny_mono key (fun r s' h' => wpAny_pure ⟨.none, rfl, wpAny_pure h'⟩) fun _ _ x => x)

/-! ## statements that turn what is the frame's own -/
theorem tr_loadO {n : Nat} (ok : C.Ok n) {F mine : List Addr} {T : TM} {s : Shared} (hA : Abs C F mine T σ s) {x : String} {sl : Slot} {a : Addr} (hf : find σ (Str.ofString x) = some sl) (ho : sl.adr = some a) (hxa : Str.ofString x ≠ anonS)
    (hn : (Str.ofString x == ("__classdict__" : Str)) = false) {Q : Value → Shared → Prop} (h : SlotRep C.W (view (F ++ mine) T s) s.heap sl (.ref a) → Q (.ref a) s) : wpAny C.M C.A (loadName C.env (Str.ofString x)) Q C.X s := by
  obtain ⟨m, cm, f⟩ := hA.frm
  obtain ⟨v, hv, hr⟩ := f.slots _ _ hf
  have e := hr.ref ho
  subst e
  exact load_local ok f (hv.real hxa) hn (h hr)

/-- the type of what is the frame's own -/
noncomputable def Slot.ty : Slot → String
  | .val _ => ""
  | .list _ _ => "list"
  | .dict _ _ => "dict"
theorem SlotRep.typeIs {W : Wd} {g : PH} {s : Shared} {sl : Slot} {a : Addr} (ho : sl.adr = some a) (x : SlotRep W g s.heap sl (.ref a)) : s.TypeIs (.ref a) sl.ty ∧ ∃ o, s.heap.get? a = some o ∧ o.dict = none := by
  cases sl with
  | val u => cases ho
  | list b vs =>
    cases ho
    obtain ⟨_, ws, ⟨n, h1⟩, r⟩ := x
    exact ⟨⟨_, h1, rfl⟩, _, h1, rfl⟩
  | dict b es =>
    cases ho
    obtain ⟨_, ds, kvs, ⟨h0, o, n, h1, h2, h3⟩, r⟩ := x
    exact ⟨⟨_, h1, h2.1⟩, _, h1, h2.2.1⟩

/-- x.name(e) as a statement, x a list or dict of the frame's own -/
theorem ex_methO {n : Nat} (ok : C.Ok n) {x : String} {xp : Pos} {name : Str} {id : String} {apos pos epos : Pos} {e : Expr} {sl : Slot} {a : Addr} {P : Value → Prop} {Q : Fl → St → Prop}
    (hf : find σ (Str.ofString x) = some sl) (ho : sl.adr = some a) (pa : PlainAttrs sl.ty) (slot : PySem.Slot sl.ty name id) (hty : typeOf (.builtin id) = pure (.type "method_descriptor"))
    (h : Ev C σ e (fun v σ1 => ∃ sl1, find σ1 (Str.ofString x) = some sl1 ∧ sl1.adr = some a ∧ OpM C sl1 [v] (fun l ws => call (.builtin id) (l :: ws)) P (fun sl2 => Q .next (put σ1 (Str.ofString x) x sl2))))
    (hxa : Str.ofString x ≠ anonS) (hn : (Str.ofString x == ("__classdict__" : Str)) = false) (hd : (Str.ofString x == ("__debug__" : Str)) = false)
    (hbase : attributeBase (.Name (Str.ofString x) xp) name C.env (eval (.Name (Str.ofString x) xp) C.env) = eval (.Name (Str.ofString x) xp) C.env) (hline : (apos.endLine == pos.line) = true)
    (hs : starEach [e] C.env = (false, eval e C.env) :: starEach [] C.env) (hint : interactive C.env = false) (hsw : swapsWith (.Call (.Attribute (.Name (Str.ofString x) xp) name apos) [e] [] pos) none epos.line C.env = pure false) :
    Ex C σ (.Expr (.Call (.Attribute (.Name (Str.ofString x) xp) name apos) [e] [] pos) epos) Q := by
  intro F mine T s hA
  refine wpAny_Expr_any ?_ hint hsw
  rw [arm_eval_Call, hbase]
  refine wpAny_bind (wpAny_Name (tr_loadO ok hA hf ho hxa hn fun hr => ?_) hd)
  refine wpAny_bind (wpAny_standAt ?_)
  have hst : (starEach [e] C.env).all (fun x => !x.1) = true := by rw [hs]; rfl
  have hform : methodCallForm ([e].length + ([] : List Keyword).length) (backTo pos (starEach [e] C.env)) (backToKw pos (keywordEach [] C.env)) = true := by rw [hs]; rfl
  have hpos : methodCallPos true (.Name (Str.ofString x) xp) C.env apos pos = pure pos := by unfold methodCallPos; simp [hline]
  obtain ⟨hT, o, hob, hod⟩ := hr.typeIs ho
  unfold methodCall
  rw [hform]
  refine wpAny_bind (wpAny_holding (getMethod_builtin hT pa slot hty (fun x hx => by cases hx; exact ⟨o, hob, hod⟩) ?_))
  refine wpAny_bind (wpAny_of_eq hpos ?_)
  refine callWith_builtin (any_backTo hst) (evalArgs_list hst ?_)
  rw [backTo_cons hs]
  refine spliced_cons (wpAny_mono (h F mine T s hA) ?_ fun _ _ x => x)
  rintro w s1 ⟨v, σ1, m1, T1, ⟨sl1, hf1, ho1, hop⟩, p1, a1, r1⟩
  refine wpAny_items_nil ?_
  refine OpM.abs hop a1 hf1 ho1 (.cons r1 .nil) fun r s2 sl2 T2 hP hK ho2 p2 a2 => ?_
  exact ⟨.next, _, m1, T2, hK, p1.trans p2, a2, .next⟩

/-- x[k] = e, x a list or dict of the frame's own -/
theorem ex_setItemO {n : Nat} (ok : C.Ok n) {x : String} {xp tp pos : Pos} {k e : Expr} {a : Addr} {P : Unit → Prop} {Q : Fl → St → Prop}
    (h : Ev C σ e (fun v σ1 => ∃ sl, find σ1 (Str.ofString x) = some sl ∧ sl.adr = some a ∧ Ev C σ1 k (fun i σ2 => ∃ sl2, find σ2 (Str.ofString x) = some sl2 ∧ sl2.adr = some a ∧ OpM C sl2 [i, v] (fun d ws => match ws with | [k, v] => setItem d k v | _ => pure ()) P (fun sl3 => Q .next (put σ2 (Str.ofString x) x sl3)))))
    (hxa : Str.ofString x ≠ anonS) (hn : (Str.ofString x == ("__classdict__" : Str)) = false) (hd : (Str.ofString x == ("__debug__" : Str)) = false)
    (hsw : swapsWith e (some (.Subscript (.Name (Str.ofString x) xp) k tp)) pos.line C.env = pure false) :
    Ex C σ (.Assign [.Subscript (.Name (Str.ofString x) xp) k tp] e pos) Q := by
  refine Tr.intro' fun F mine T s QQ fin hA => ?_
  refine wpAny_Assign_Subscript (wpAny_mono (h F mine T s hA) ?_ fun _ _ x => x) hsw
  rintro w s1 ⟨v, σ1, m1, T1, ⟨sl, hf1, ho1, hk⟩, p1, a1, r1⟩
  refine wpAny_Name (tr_loadO ok a1 hf1 ho1 hxa hn fun _ => ?_) hd
  refine wpAny_mono (hk F m1 T1 s1 a1) ?_ fun _ _ x => x
  rintro kw s2 ⟨i, σ2, m2, T2, ⟨sl2, hf2, ho2, hop⟩, p2, a2, r2⟩
  refine OpM.abs hop a2 hf2 ho2 (.cons r2 (.cons (r1.mono p2.le) .nil)) fun r s3 sl3 T3 hP hK ho3 p3 a3 => ?_
  exact fin _ _ .next _ m2 T3 hK ((p1.trans p2).trans p3) a3 .next

/-! ## while -/
end
end Sx
end
section
open PySem PySem.W PyProof.Rows PySem.Calls
set_option linter.unusedVariables false
set_option Elab.async false
set_option maxRecDepth 100000
namespace Sx

/-! ## comprehensions -/
structure PostX (ex F mine : List Addr) (T : TM) (s : Shared) (mine' : List Addr) (T' : TM) (s' : Shared) : Prop where
  same : ∃ h' tk, s' = { s with heap := h', toks := tk }
  le : Le (view (F ++ mine) T s) (view (F ++ mine') T' s')
  far : ∀ a ∈ F, a ∉ ex → s'.heap.get? a = s.heap.get? a
theorem PostX.trans {ex F m1 m2 m3 : List Addr} {T1 T2 T3 : TM} {s1 s2 s3 : Shared} (x : PostX ex F m1 T1 s1 m2 T2 s2) (y : PostX ex F m2 T2 s2 m3 T3 s3) : PostX ex F m1 T1 s1 m3 T3 s3 := by
  obtain ⟨h, t, rfl⟩ := x.same
  obtain ⟨h', t', rfl⟩ := y.same
  exact ⟨⟨h', t', rfl⟩, x.le.trans y.le, fun a ha hx => (y.far a ha hx).trans (x.far a ha hx)⟩
theorem PostX.refl (ex F mine : List Addr) (T : TM) (s : Shared) : PostX ex F mine T s mine T s := ⟨⟨_, _, rfl⟩, .refl _, fun _ _ _ => rfl⟩
theorem Post.x {F mine mine' : List Addr} {T T' : TM} {s s' : Shared} (p : Post F mine T s mine' T' s') (ex : List Addr) : PostX ex F mine T s mine' T' s' := ⟨p.same, p.le, fun a ha _ => p.far a ha⟩
theorem PostX.mono {ex ex' F mine mine' : List Addr} {T T' : TM} {s s' : Shared} (p : PostX ex F mine T s mine' T' s') (h : ∀ a ∈ ex, a ∈ ex') : PostX ex' F mine T s mine' T' s' := ⟨p.same, p.le, fun a ha hx => p.far a ha fun q => hx (h a q)⟩

/-- a step that turns somebody else's things alone -/
theorem Abs.turnF {C : Cx} {σ : St} {F mine ex : List Addr} {T T' : TM} {s s' : Shared} (hA : Abs C F mine T σ s) (same : ∃ h' tk, s' = { s with heap := h', toks := tk }) (keep : ∀ b o, b ∉ ex → s.heap.get? b = some o → s'.heap.get? b = some o)
    (live : ∀ b ∈ ex, (s'.heap.get? b).isSome = true) (sub : ∀ b ∈ ex, b ∈ F) (cx : ∀ x c, C.env.cells.lookup x = some c → c ∉ ex) (hT : TLe T T') (tok : TOk T' s'.toks) : PostX ex F mine T s mine T' s' ∧ Abs C F mine T' σ s' := by
  have le : Le (view (F ++ mine) T s) (view (F ++ mine) T' s') := ⟨fun b o e => view_mk (view_not e) (keep b o (fun q => view_not e (List.mem_append_left _ (sub b q))) (view_of e)), hT⟩
  have hm : ∀ b ∈ mine, b ∉ ex := fun b hb q => hA.nin b hb (sub b q)
  refine ⟨⟨same, le, fun b hb hx => ?_⟩, hA.other le (fun b o hb e => keep b o (hm b hb) e) (fun x c e => ⟨?_, fun o e' => keep c o (cx x c e) e'⟩) (fun b hb => ?_) hA.nin tok⟩
  · obtain ⟨o, ho⟩ := Option.isSome_iff_exists.mp (hA.live b (List.mem_append_left _ hb))
    rw [ho]; exact keep b o hx ho
  · obtain ⟨m, cm, f⟩ := hA.frm
    exact f.cown x c e
  · by_cases q : b ∈ ex
    · exact live b q
    · obtain ⟨o, ho⟩ := Option.isSome_iff_exists.mp (hA.live b hb)
      rw [keep b o q ho]; rfl

noncomputable abbrev Tsts (C : Cx) (σ : St) (ifs : List Expr) (Q : Bool → St → Prop) : Prop :=
  Tr C σ RB (forIn ifs true fun c r => if r = true then do let ok ← isTrue c C.env (eval c C.env); pure (ForInStep.yield ok) else pure (ForInStep.yield r)) Q

/-- a step of a comprehension: what is under way, at D, turns from sl to another -/
noncomputable def TrA {α : Type} (C : Cx) (σ : St) (D : Addr) (sl : Slot) (t : Sem α) (Q : Slot → St → Prop) : Prop :=
  ∀ F mine T s, D ∈ F → (∀ x c, C.env.cells.lookup x = some c → c ≠ D) → Abs C F mine T σ s → sl.adr = some D → SlotRep C.W (view (F ++ mine) T s) s.heap sl (.ref D) →
    wpAny C.M C.A t (fun _ s' => ∃ sl' σ' mine' T', Q sl' σ' ∧ sl'.adr = some D ∧ PostX [D] F mine T s mine' T' s' ∧ Abs C F mine' T' σ' s' ∧ SlotRep C.W (view (F ++ mine') T' s') s'.heap sl' (.ref D)) C.X s

noncomputable def CLoop (C : Cx) (D : Addr) (target : Expr) (ifs : List Expr) (tail : Sem Unit) (K : Slot → St → Prop) : List V → Slot → St → Prop
  | [], sl, σ => K sl σ
  | x :: xs, sl, σ => Asg C σ target x (fun σ1 => Tsts C σ1 ifs (fun ok σ2 => (ok = true → TrA C σ2 D sl tail (fun sl' σ3 => CLoop C D target ifs tail K xs sl' σ3)) ∧ (ok = false → CLoop C D target ifs tail K xs sl σ2)))

noncomputable def turnT (ip : Pos) (target : Expr) (ifs : List Expr) (it : Value) (env : Env) (tail : Sem Unit) (c : Code) : Sem Fin := do
  standAt ip
  match ← pyNext it with
  | none => pure (.done .next)
  | some v =>
    letOwnedTupleGo target it v
    assign target env v
    let mut ok := true
    for c in ifs do
      if ok then ok ← isTrue c env (eval c env)
    if ok then tail
    again c

section
variable {C : Cx} {σ : St}

theorem tsts_nil {Q : Bool → St → Prop} (h : Q true σ) : Tsts C σ [] Q := fun F mine T s hA => wpAny_pure ⟨true, σ, mine, T, h, .refl _ _ _ _, hA, rfl⟩
theorem tsts_one {c : Expr} {Q : Bool → St → Prop} (h : Tst C σ c Q) : Tsts C σ [c] Q := fun F mine T s hA => wpAny_tests_one (h F mine T s hA)

theorem trA_list {elt : Expr} {D : Addr} {sl : Slot} {Q : Slot → St → Prop} (h : Ev C σ elt (fun y σ1 => OpM C sl [y] (fun l ws => call (.builtin "list.append") (l :: ws)) (fun r => r = .none) (fun sl' => Q sl' σ1))) :
    TrA C σ D sl (do let _ ← call (.builtin "list.append") [.ref D, ← eval elt C.env]) Q := by
  intro F mine T s hD hcD hA ho hs
  refine wpAny_bind (Tr.then h hA fun w s1 y σ1 m1 T1 hop p1 a1 r1 => ?_)
  have hs1 : SlotRep C.W (view (F ++ m1) T1 s1) s1.heap sl (.ref D) := hs.mono p1.le fun b hb o e => by rw [ho] at hb; cases hb; exact (p1.far D hD).trans e
  refine wpAny_bind (wpAny_mono (hop (F ++ m1) T1 s1 D [w] a1.ownOk (List.mem_append_left _ hD) ho hs1 (.cons r1 .nil)) ?_ fun _ _ x => x)
  rintro r s2 ⟨_, sl2, T2, hQ, ho2, k, hs2⟩
  obtain ⟨p2, a2⟩ := a1.turnF (ex := [D]) k.same (fun b o hb e => k.keep b o (by simpa using hb) e) (fun b hb => by rw [List.mem_singleton.mp hb]; exact k.live) (fun b hb => by rw [List.mem_singleton.mp hb]; exact hD)
    (fun x c e q => hcD x c e (List.mem_singleton.mp q)) k.tle k.tok
  exact wpAny_pure ⟨sl2, σ1, m1, T2, hQ, ho2, (p1.x _).trans p2, a2, hs2⟩

theorem trA_dict {kx vx : Expr} {p : Pos} {D : Addr} {sl : Slot} {Q : Slot → St → Prop} (h : Ev C σ kx (fun k σ1 => Ev C σ1 vx (fun v σ2 => OpM C sl [k, v] (fun d ws => match d, ws with | .ref d, [k, v] => dictSet d k v | _, _ => pure ()) (fun _ => True) (fun sl' => Q sl' σ2)))) :
    TrA C σ D sl (do
        let kv ← eval kx C.env
        let vv ← holding [kv] (eval vx C.env)
        standAt p
        holding [kv, vv] (dictSet D kv vv)) Q := by
  intro F mine T s hD hcD hA ho hs
  refine wpAny_bind (Tr.then h hA fun kw s1 k σ1 m1 T1 hq p1 a1 r1 => ?_)
  refine wpAny_bind (wpAny_holding (wpAny_mono (hq F m1 T1 s1 a1) ?_ fun _ _ x => x))
  rintro w s2 ⟨v, σ2, m2, T2, hop, p2, a2, r2⟩
  have p12 := p1.trans p2
  have hs2 : SlotRep C.W (view (F ++ m2) T2 s2) s2.heap sl (.ref D) := hs.mono p12.le fun b hb o e => by rw [ho] at hb; cases hb; exact (p12.far D hD).trans e
  refine wpAny_bind (wpAny_standAt (wpAny_holding (wpAny_mono (hop (F ++ m2) T2 s2 D [kw, w] a2.ownOk (List.mem_append_left _ hD) ho hs2 (.cons (r1.mono p2.le) (.cons r2 .nil))) ?_ fun _ _ x => x)))
  rintro r s3 ⟨_, sl3, T3, hQ, ho3, k, hs3⟩
  obtain ⟨p3, a3⟩ := a2.turnF (ex := [D]) k.same (fun b o hb e => k.keep b o (by simpa using hb) e) (fun b hb => by rw [List.mem_singleton.mp hb]; exact k.live) (fun b hb => by rw [List.mem_singleton.mp hb]; exact hD)
    (fun x c e q => hcD x c e (List.mem_singleton.mp q)) k.tle k.tok
  exact ⟨sl3, σ2, m2, T3, hQ, ho3, (p12.x _).trans p3, a3, hs3⟩

theorem comp_loop {ip : Pos} {target : Expr} {ifs : List Expr} {tail : Sem Unit} {c : Code} {I D : Addr} {F₀ : List Addr} {g0 : PH} {xs : List V} {fp : List Addr} {St' : Nat → Heap → Prop} {Mid : Nat → Value → Heap → Prop} {R : Result → Shared → Prop} {K : Slot → St → Prop}
    (hX : ∀ v s, C.X v s → False) (hq : c.quiet = true) (hden : C.M.den c = (turnT ip target ifs (.ref I) C.env tail c).onRaise (fun x => do noteFrame x C.env; theTreesLotGoes x)) (hunder : C.A.under c = C.A)
    (hI : Itr C.W C.A target I g0 xs fp St' Mid) (hIF₀ : I ∉ F₀) (hDF₀ : D ∈ F₀) (hDI : D ≠ I) (hDf : D ∉ fp) (hcI : ∀ x c, C.env.cells.lookup x = some c → c ≠ I) (hcD : ∀ x c, C.env.cells.lookup x = some c → c ≠ D)
    {m0 : List Addr} {T0 : TM} {s0 : Shared} {σ0 : St} {sl0 : Slot} (hfp : ∀ b ∈ fp, b ≠ I → ∃ o, (view ((F₀ ++ [I]) ++ m0) T0 s0).ob b = some o) (hg : Le g0 (view ((F₀ ++ [I]) ++ m0) T0 s0)) (hA : Abs C (F₀ ++ [I]) m0 T0 σ0 s0) (hst : St' 0 s0.heap) (ho : sl0.adr = some D) (hs : SlotRep C.W (view ((F₀ ++ [I]) ++ m0) T0 s0) s0.heap sl0 (.ref D))
    (hL : CLoop C D target ifs tail K xs sl0 σ0)
    (hR : ∀ s' sl' σ' m' T', K sl' σ' → sl'.adr = some D → (∃ h' tk, s' = { s0 with heap := h', toks := tk }) → Le (view ((F₀ ++ [I]) ++ m0) T0 s0) (view (F₀ ++ m') T' s') → (∀ a ∈ F₀, a ≠ D → s'.heap.get? a = s0.heap.get? a) → Abs C F₀ m' T' σ' s' → SlotRep C.W (view (F₀ ++ m') T' s') s'.heap sl' (.ref D) → R (.ok .next) s') : codeAny C.M C.A c R s0 := by
  obtain ⟨F, hF⟩ : ∃ F, F₀ ++ [I] = F := ⟨_, rfl⟩
  have hIF : I ∈ F := by rw [← hF]; simp
  have hDF : D ∈ F := by rw [← hF]; exact List.mem_append_left _ hDF₀
  rw [hF] at hfp hg hA hs hR
  refine codeAny_loop hq (fun k s' => ∃ i sl' σ' m' T', k = xs.length + 1 - i ∧ i ≤ xs.length ∧ CLoop C D target ifs tail K (xs.drop i) sl' σ' ∧ sl'.adr = some D ∧ PostX [D, I] F m0 T0 s0 m' T' s' ∧ Abs C F m' T' σ' s' ∧ St' i s'.heap ∧ SlotRep C.W (view (F ++ m') T' s') s'.heap sl' (.ref D)) ?_ (xs.length + 1)
    ⟨0, sl0, σ0, m0, T0, rfl, Nat.zero_le _, by simpa using hL, ho, .refl _ _ _ _ _, hA, hst, hs⟩
  rintro k s' ⟨i, sl', σ', m', T', rfl, hi, hL', ho', p', a', st', hs'⟩
  rw [hunder, hden]
  refine wpAny_noted ?_
  unfold turnT
  refine wpAny_bind (wpAny_standAt (wpAny_bind ?_))
  have leg := hg.trans p'.le
  cases hx : xs[i]? with
  | none =>
    have hlen : xs.length ≤ i := List.getElem?_eq_none_iff.mp hx
    have hie : i = xs.length := Nat.le_antisymm hi hlen
    subst hie
    rw [List.drop_length] at hL'
    refine hI.done s' _ _ st' fun h' hk' => wpAny_pure ?_
    have sub : ∀ m, ∀ b ∈ F₀ ++ m, b ∈ F ++ m := fun m b hb => by
      rcases List.mem_append.mp hb with hb | hb
      · exact List.mem_append_left _ (by rw [← hF]; exact List.mem_append_left _ hb)
      · exact List.mem_append_right _ hb
    have nI : ∀ b ∈ F₀ ++ m', b ≠ I := fun b hb q => by
      rcases List.mem_append.mp hb with hb | hb
      · exact hIF₀ (q ▸ hb)
      · exact a'.nin b hb (q ▸ hIF)
    have leI : Le (view (F ++ m') T' s') (view (F₀ ++ m') T' { s' with heap := h' }) := ⟨fun b o e => view_mk (fun q => view_not e (sub _ b q)) (hk' b o (fun q => view_not e (q ▸ List.mem_append_left _ hIF)) (view_of e)), fun _ _ e => e⟩
    have a3 : Abs C F₀ m' T' σ' { s' with heap := h' } := by
      refine a'.other leI (fun b o hb e => hk' b o (nI b (List.mem_append_right _ hb)) e) (fun x c e => ⟨?_, fun o e' => hk' c o (hcI x c e) e'⟩) (fun b hb => ?_) (fun b hb hF' => a'.nin b hb (by rw [← hF]; exact List.mem_append_left _ hF')) a'.tok
      · obtain ⟨m, cm, f⟩ := a'.frm
        have := f.cown x c e
        rw [← hF] at this
        simp only [List.mem_append, List.mem_singleton] at this ⊢
        rcases this with (h | h) | h
        · exact .inl h
        · exact absurd h (hcI x c e)
        · exact .inr h
      · obtain ⟨o, ho⟩ := Option.isSome_iff_exists.mp (a'.live b (sub _ b hb))
        show (h'.get? b).isSome = true
        rw [hk' b o (nI b hb) ho]; rfl
    refine hR _ sl' σ' m' T' hL' ho' ?_ (p'.le.trans leI) (fun b hb hbD => ?_) a3 (hs'.mono leI fun b hb o e => by rw [ho'] at hb; cases hb; exact hk' _ o hDI e)
    · obtain ⟨h0, t0, rfl⟩ := p'.same
      exact ⟨h', _, rfl⟩
    · have hbI : b ≠ I := fun q => hIF₀ (q ▸ hb)
      have hbF : b ∈ F := by rw [← hF]; exact List.mem_append_left _ hb
      obtain ⟨o, ho⟩ := Option.isSome_iff_exists.mp (hA.live b (List.mem_append_left _ hbF))
      have e1 := p'.far b hbF (by simp [hbD, hbI])
      rw [ho] at e1 ⊢
      exact hk' b o hbI e1
  | some x =>
    have hlt : i < xs.length := (List.getElem?_eq_some_iff.mp hx).1
    have hdrop : xs.drop i = x :: xs.drop (i + 1) := by
      rw [List.drop_eq_getElem_cons hlt]
      congr 1
      have := List.getElem?_eq_getElem hlt
      rw [hx] at this; exact (Option.some.inj this).symm
    rw [hdrop] at hL'
    have IF : I ∈ F ++ m' := List.mem_append_left _ hIF
    refine hI.item i x _ T' s' _ _ hx st' IF a'.tok a'.live leg fun v h3 tk3 T3 htk3 hm3 hk3 hT3 htok3 hrep => ?_
    refine wpAny_bind (hI.go i v _ _ _ hm3 fun h4 hst4 hk4 => ?_)
    have hk34 : ∀ b o, b ≠ I → s'.heap.get? b = some o → h4.get? b = some o := fun b o hb e => hk4 b o hb (hk3 b o hb e)
    obtain ⟨p4, a4⟩ := a'.turnF (ex := [I]) (T' := T3) (s' := { s' with heap := h4, toks := tk3 }) ⟨h4, tk3, rfl⟩ (fun b o hb e => hk34 b o (by simpa using hb) e) (fun b hb => by rw [List.mem_singleton.mp hb]; exact hI.live _ _ hst4) (fun b hb => by rw [List.mem_singleton.mp hb]; exact hIF)
      (fun x c e q => hcI x c e (List.mem_singleton.mp q)) hT3 htok3
    have r4 : Rep C.W (view (F ++ m') T3 { s' with heap := h4, toks := tk3 }) x v := hrep T3 _ (fun _ _ e => e) fun b o hb e => hk4 b o (fun q => hb (q ▸ IF)) e
    have hs4 : SlotRep C.W (view (F ++ m') T3 { s' with heap := h4, toks := tk3 }) h4 sl' (.ref D) := hs'.mono p4.le fun b hb o e => by rw [ho'] at hb; cases hb; exact hk34 _ o hDI e
    have hst4' : St' (i + 1) { s' with heap := h4, toks := tk3 }.heap := hst4
    obtain ⟨s4, es4⟩ : ∃ s4 : Shared, s4 = { s' with heap := h4, toks := tk3 } := ⟨_, rfl⟩
    rw [← es4] at p4 a4 r4 hst4' ⊢
    have hs4 : SlotRep C.W (view (F ++ m') T3 s4) s4.heap sl' (.ref D) := by rw [es4]; exact hs4
    -- the frame of the iterator through a step that leaves what stands
    have stk : ∀ m5 T5 s5, PostX [D] F m' T3 s4 m5 T5 s5 → St' (i + 1) s5.heap := by
      intro m5 T5 s5 p5
      refine hI.frame (i + 1) s4.heap s5.heap hst4' fun b hb o e => ?_
      by_cases q : b = I
      · subst q
        exact (p5.far b hIF (by simpa using Ne.symm hDI)).trans e
      · obtain ⟨o', ho'⟩ := hfp b hb q
        have e1 := p4.le.ob b o' (p'.le.ob b o' ho')
        have e2 := view_of e1
        rw [e] at e2
        cases e2
        exact view_of (p5.le.ob b o e1)
    refine wpAny_bind (wpAny_mono (hL' F m' T3 s4 v a4 r4) ?_ fun v s x => (hX v s x).elim)
    rintro _ s5 ⟨σ5, m5, T5, q5, p5, a5⟩
    refine wpAny_bind (wpAny_mono (q5 F m5 T5 s5 a5) ?_ fun v s x => (hX v s x).elim)
    rintro ok s6 ⟨ok', σ6, m6, T6, q6, p6, a6, r6⟩
    have r6 : ok' = ok := r6
    subst r6
    have p56 := p5.trans p6
    have hs6 : SlotRep C.W (view (F ++ m6) T6 s6) s6.heap sl' (.ref D) := hs4.mono p56.le fun b hb o e => by rw [ho'] at hb; cases hb; exact (p56.far D hDF).trans e
    have p06 : PostX [D, I] F m0 T0 s0 m6 T6 s6 := (p'.trans (p4.mono (by simp))).trans (p56.x _)
    cases ok' with
    | false =>
      refine wpAny_pure ⟨rfl, xs.length + 1 - (i + 1), by omega, i + 1, sl', σ6, m6, T6, rfl, hlt, q6.2 rfl, ho', p06, a6, stk _ _ _ (p56.x _), hs6⟩
    | true =>
      refine wpAny_bind (wpAny_mono (q6.1 rfl F m6 T6 s6 hDF hcD a6 ho' hs6) ?_ fun v s x => (hX v s x).elim)
      rintro _ s7 ⟨sl7, σ7, m7, T7, q7, ho7, p7, a7, hs7⟩
      exact wpAny_pure ⟨rfl, xs.length + 1 - (i + 1), by omega, i + 1, sl7, σ7, m7, T7, rfl, hlt, q7, ho7, p06.trans (p7.mono (by simp)), a7, stk _ _ _ ((p56.x _).trans p7), hs7⟩
end
end Sx
end
section
open PySem PySem.W PyProof.Rows PySem.Calls
set_option linter.unusedVariables false
set_option Elab.async false
set_option maxRecDepth 100000
namespace Sx

/-! ## a whole comprehension -/
noncomputable def closGo (cells : List (Str × Addr)) : List (Str × NameKind) → List (Str × Addr) → List (Str × Addr)
  | [], cs => cs
  | (n, k) :: r, cs => if k == .free then closGo cells r ((n, (cells.lookup n).getD 0) :: cs) else closGo cells r cs

theorem closGo_eq {env : Env} : ∀ (names : List (Str × NameKind)) (cs : List (Str × Addr)), (∀ x ∈ names, x.2 = .free → (env.cells.lookup x.1).isSome = true) →
    (forIn names cs fun x (r : List (Str × Addr)) => if x.2 == .free then do let a ← cellOf env x.1; pure (ForInStep.yield ((x.1, a) :: r)) else pure (ForInStep.yield r) : Sem _) = pure (closGo env.cells names cs)
  | [], cs, _ => rfl
  | (n, k) :: r, cs, h => by
    have ih := fun cs => closGo_eq (env := env) r cs fun x hx => h x (List.mem_cons_of_mem _ hx)
    simp only [List.forIn_cons, closGo]
    by_cases hk : (k == NameKind.free) = true
    · rw [if_pos hk, if_pos hk]
      have hs := h (n, k) List.mem_cons_self (by simpa using hk)
      obtain ⟨a, ha⟩ := Option.isSome_iff_exists.mp hs
      have ha : env.cells.lookup n = some a := ha
      have e : cellOf env n = pure a := by unfold cellOf; rw [ha]
      rw [e, ha]
      exact ih _
    · rw [if_neg hk, if_neg hk]
      exact ih _
theorem closureFor_eq {scope : Scope} {env : Env} (h : ∀ x ∈ scope.names, x.2 = .free → (env.cells.lookup x.1).isSome = true) : closureFor scope env = pure (closGo env.cells scope.names []) := by
  have := closGo_eq (env := env) scope.names [] h
  unfold closureFor
  show (forIn scope.names [] fun (x : Str × NameKind) (r : List (Str × Addr)) => if x.2 == .free then do let a ← cellOf env x.1; pure (ForInStep.yield ((x.1, a) :: r)) else pure (ForInStep.yield r)) >>= _ = _
  rw [this]; rfl

theorem closGo_lookup {cells : List (Str × Addr)} {x : Str} {c : Addr} : ∀ (names : List (Str × NameKind)) (cs : List (Str × Addr)), (closGo cells names cs).lookup x = some c → cs.lookup x = some c ∨ ((x, NameKind.free) ∈ names ∧ c = (cells.lookup x).getD 0)
  | [], cs, h => .inl h
  | (n, k) :: r, cs, h => by
    unfold closGo at h
    by_cases hk : (k == NameKind.free) = true
    · rw [if_pos hk] at h
      rcases closGo_lookup r _ h with h | ⟨h1, h2⟩
      · rw [List.lookup_cons] at h
        cases hx : x == n with
        | true =>
          rw [hx] at h
          have e : x = n := by simpa using hx
          have : k = .free := by simpa using hk
          subst e; subst this
          exact .inr ⟨List.mem_cons_self, by simpa using h.symm⟩
        | false => rw [hx] at h; exact .inl h
      · exact .inr ⟨List.mem_cons_of_mem _ h1, h2⟩
    · rw [if_neg hk] at h
      rcases closGo_lookup r _ h with h | ⟨h1, h2⟩
      · exact .inl h
      · exact .inr ⟨List.mem_cons_of_mem _ h1, h2⟩
theorem closGo_keeps {cells : List (Str × Addr)} {x : Str} : ∀ (names : List (Str × NameKind)) (cs : List (Str × Addr)), (cs.lookup x).isSome = true → ((closGo cells names cs).lookup x).isSome = true
  | [], cs, h => h
  | (n, k) :: r, cs, h => by
    unfold closGo
    split
    · refine closGo_keeps r _ ?_
      rw [List.lookup_cons]; cases x == n <;> simp [h]
    · exact closGo_keeps r _ h
theorem closGo_has {cells : List (Str × Addr)} {x : Str} : ∀ (names : List (Str × NameKind)) (cs : List (Str × Addr)), (x, NameKind.free) ∈ names → ((closGo cells names cs).lookup x).isSome = true
  | [], cs, h => by cases h
  | (n, k) :: r, cs, h => by
    unfold closGo
    rcases List.mem_cons.mp h with e | h
    · injection e with e1 e2
      subst e1; subst e2
      rw [if_pos (show (NameKind.free == NameKind.free) = true from rfl)]
      exact closGo_keeps r _ (by rw [List.lookup_cons]; simp)
    · split
      · exact closGo_has r _ h
      · exact closGo_has r _ h

theorem relabel_lookup {env : Env} : ∀ {names : List (Str × NameKind)} {x : Str} {k : NameKind},
    (names.map fun (n, k) => if (k == NameKind.free && env.scope.kind == .function && env.kindOf n == some .cell) then (n, NameKind.cell) else (n, k)).lookup x = some k → (x, k) ∈ names ∨ (k = .cell ∧ (x, NameKind.free) ∈ names)
  | [], _, _, h => by simp at h
  | (n, k') :: r, x, k, h => by
    rw [List.map_cons] at h
    by_cases hc : (k' == NameKind.free && env.scope.kind == .function && env.kindOf n == some .cell) = true
    · simp only [hc, if_true, List.lookup_cons] at h
      have hk' : k' = .free := by
        rw [Bool.and_eq_true, Bool.and_eq_true] at hc
        simpa using hc.1.1
      cases hx : x == n with
      | true =>
        rw [hx] at h
        have e : x = n := by simpa using hx
        subst e; subst hk'
        exact .inr ⟨by simpa using h.symm, List.mem_cons_self⟩
      | false =>
        rw [hx] at h
        rcases relabel_lookup h with h | ⟨h1, h2⟩
        · exact .inl (List.mem_cons_of_mem _ h)
        · exact .inr ⟨h1, List.mem_cons_of_mem _ h2⟩
    · simp only [hc, Bool.false_eq_true, if_false, List.lookup_cons] at h
      cases hx : x == n with
      | true =>
        rw [hx] at h
        have e : x = n := by simpa using hx
        subst e
        have h : k' = k := by simpa using h
        subst h
        exact .inl List.mem_cons_self
      | false =>
        rw [hx] at h
        rcases relabel_lookup (by simpa using h) with h | ⟨h1, h2⟩
        · exact .inl (List.mem_cons_of_mem _ h)
        · exact .inr ⟨h1, List.mem_cons_of_mem _ h2⟩

noncomputable def compCx (C : Cx) (scope : Scope) (cl : List (Str × Addr)) (L : Addr) : Cx := { W := C.W, A := C.A, env := compEnvC scope cl L C.env, ownC := false, X := fun _ _ => False, an := none }
theorem compCx_ok {C : Cx} {n : Nat} {scope : Scope} {cl : List (Str × Addr)} {L : Addr} (ok : C.Ok n) (hk : scope.kind = .function) : (compCx C scope cl L).Ok n :=
  { W := ok.W, hh := ok.hh, hu := ok.hu, hd := ok.hd, hk := hk, hg := ok.hg, hb := ok.hb, hx := PassesOwn.never }

/-- what a comprehension sees of the frame around it -/
noncomputable def capSt (fv : List String) (σ : St) : St := fv.filterMap fun x => match find σ (Str.ofString x) with | some (.val u) => some (x, .val u) | _ => none
theorem find_capSt {fv : List String} {σ : St} {y : Str} {sl : Slot} (h : find (capSt fv σ) y = some sl) : ∃ x ∈ fv, y = Str.ofString x ∧ find σ y = some sl ∧ ∃ u, sl = .val u := by
  unfold capSt at h
  induction fv with
  | nil => simp [find] at h
  | cons x r ih =>
    rw [List.filterMap_cons] at h
    split at h
    · obtain ⟨z, h1, h2⟩ := ih h; exact ⟨z, List.mem_cons_of_mem _ h1, h2⟩
    · rename_i p hp
      split at hp
      · rename_i u hu
        cases hp
        simp only [find] at h
        by_cases e : Str.ofString x = y
        · rw [if_pos e] at h
          cases h
          exact ⟨x, List.mem_cons_self, e.symm, e ▸ hu, u, rfl⟩
        · rw [if_neg e] at h
          obtain ⟨z, h1, h2⟩ := ih h; exact ⟨z, List.mem_cons_of_mem _ h1, h2⟩
      · cases hp

/-- a scope is a comprehension's: what the walk asks of it -/
structure CompOk (C : Cx) (scope : Scope) (fv : List String) : Prop where
  hkind : scope.kind = .function
  hcell : ∀ y ∈ scope.names, y.2 ≠ .cell
  hnames : ∀ y ∈ scope.names, y.2 = .local → scope.names.lookup y.1 = some .local
  hfree : ∀ y ∈ scope.names, y.2 = .free → C.env.kindOf y.1 = some .cell ∨ C.env.kindOf y.1 = some .free
  hfv : ∀ x ∈ fv, (C.env.kindOf (Str.ofString x) = some .cell ∨ C.env.kindOf (Str.ofString x) = some .free) ∧ ((relabel scope C.env).names.lookup (Str.ofString x) = some .cell ∨ (relabel scope C.env).names.lookup (Str.ofString x) = some .free)

theorem comp_core {C : Cx} {n : Nat} (ok : C.Ok n) {σ : St} {F mine : List Addr} {T : TM} {s₁ : Shared} (hA : Abs C F mine T σ s₁) {e : Expr} {scope : Scope} {fv : List String} (hc : CompOk C scope fv) {target : Expr} {ifs : List Expr} {ip : Pos} {a : V} {xs : List V} {va : Value}
    (hr : Rep C.W (view (F ++ mine) T s₁) a va) (hxs : seqOf a = some xs) (hrun : RunOk target a) {newAcc : Sem Value} {o0 : Obj} {sl0 : Addr → Slot} {tail : Value → Env → Sem Unit} {K : Slot → St → Prop} {E : Value → Shared → Prop} {RR : Value → Addr → Result → Shared → Prop}
    (hnew : ∀ (s : Shared) (Q : Value → Shared → Prop), Q (.ref s.heap.objs.size) { s with heap := s.heap.push o0 } → wpAny C.M C.A newAcc Q E s) (hfr : o0.isFreed = false)
    (hsl : ∀ g (h : Heap) D, (D == sysModules) = false → h.get? D = some o0 → SlotRep C.W g h (sl0 D) (.ref D) ∧ (sl0 D).adr = some D)
    (hstart : ∀ I D env R (s : Shared), codeAny C.M C.A (.compLoop e 0 (.ref I) (.ref D) env) R s → wpAny C.M C.A (pyIter (.ref I)) (fun it' s' => codeAny C.M C.A (.compLoop e 0 it' (.ref D) env) R s') (notedBy C.M C.A env fun x s' => R (.error x) s') s → codeAny C.M C.A (.compStart e 0 (.ref I) (.ref D) env) R s)
    (hturn : ∀ I D env, compTurn e 0 (.ref I) (.ref D) env = turnT ip target ifs (.ref I) env (tail (.ref D) env) (.compLoop e 0 (.ref I) (.ref D) env)) (hframe : ∀ I D env, (Code.compLoop e 0 (.ref I) (.ref D) env).isFrame = false) (hquiet : ∀ I D env, (Code.compLoop e 0 (.ref I) (.ref D) env).quiet = true) (hunder : ∀ I D env, C.A.under (.compLoop e 0 (.ref I) (.ref D) env) = C.A)
    (hL : ∀ cl D L, (compCx C scope cl L).Ok n → CLoop (compCx C scope cl L) D target ifs (tail (.ref D) (compCx C scope cl L).env) K xs (sl0 D) (capSt fv σ))
    (hRR : ∀ D L s' T' sl σ', s₁.heap.get? D = none → s₁.heap.get? L = none → D ≠ L → (∃ m, s'.heap.Ns L m) → Kp T s₁ T' s' → K sl σ' → sl.adr = some D → (s'.heap.get? D).isSome = true → SlotRep C.W (view (D :: L :: (F ++ mine)) T' s') s'.heap sl (.ref D) → RR (.ref D) L (.ok .next) s') :
    wpAny C.M C.A (pyIter va) (fun it s₂ => wpAny C.M C.A newAcc (fun acc s₃ =>
      wpAny C.M C.A (newFunctionEnv scope C.env.globals (closGo C.env.cells scope.names []) [] C.env.qual none .none (some C.env)) (fun cenv s₄ =>
        codeAny C.M C.A (.compStart e 0 it acc { cenv with scope := relabel scope C.env }) (RR acc cenv.locals) s₄) E s₃) E s₂) E s₁ := by
  refine itr_of (target := target) ok.hh hxs hrun hr fun I h2 fp St Mid hnew1 hk2 hI hst hfp => ?_
  refine hnew _ _ ?_
  obtain ⟨D, hD⟩ : ∃ D, h2.objs.size = D := ⟨_, rfl⟩
  show wpAny C.M C.A (newFunctionEnv scope C.env.globals (closGo C.env.cells scope.names []) [] C.env.qual none .none (some C.env)) (fun cenv s₄ => codeAny C.M C.A (.compStart e 0 (.ref I) (.ref h2.objs.size) { cenv with scope := relabel scope C.env }) (RR (.ref h2.objs.size) cenv.locals) s₄) E { s₁ with heap := h2.push o0 }
  obtain ⟨h3, hh3⟩ : ∃ h3, h2.push o0 = h3 := ⟨_, rfl⟩
  have hD3 : h3.get? D = some o0 := by rw [← hh3, ← hD]; exact Heap.get?_push_size _ hfr
  have hk3 : ∀ b o, h2.get? b = some o → h3.get? b = some o := fun b o e => by rw [← hh3]; exact Heap.get?_push_of_some _ e
  rw [hh3, hD]
  refine wpAny_newFunctionEnv hc.hcell (by intro y hy; simp at hy) (fun h4 hns hsb => ?_) hc.hkind
  obtain ⟨L, hLe⟩ : ∃ L, h3.objs.size = L := ⟨_, rfl⟩
  have hns : h4.Ns L (fun x => ([] : List (Str × Value)).reverse.lookup x) := hLe ▸ hns
  have hsb : Heap.SameBut L (h3.push { cls := .type "dict", data := .dict #[] }) h4 := hLe ▸ hsb
  show codeAny C.M C.A (.compStart e 0 (.ref I) (.ref D) (compEnvC scope (closGo C.env.cells scope.names []) h3.objs.size C.env)) (RR (.ref D) h3.objs.size) { s₁ with heap := h4, toks := s₁.toks + 0 }
  rw [hLe, Nat.add_zero]
  obtain ⟨cl, hcl⟩ : ∃ cl, closGo C.env.cells scope.names [] = cl := ⟨_, rfl⟩
  rw [hcl]
  have hL3 : h3.get? L = none := hLe ▸ fresh_size h3
  have hk4 : ∀ b o, h3.get? b = some o → h4.get? b = some o := fun b o e => hsb.extBut b o (fun q => by rw [q, hL3] at e; cases e) (Heap.get?_push_of_some _ e)
  have hk14 : ∀ b o, s₁.heap.get? b = some o → h4.get? b = some o := fun b o e => hk4 b o (hk3 b o (hk2 b o e))
  have hD1 : s₁.heap.get? D = none := by
    cases q : s₁.heap.get? D with
    | none => rfl
    | some o => have := Heap.lt_size (hk2 _ _ q); rw [hD] at this; exact absurd this (Nat.lt_irrefl _)
  have hL1 : s₁.heap.get? L = none := by
    cases q : s₁.heap.get? L with
    | none => rfl
    | some o => rw [hk3 _ _ (hk2 _ _ q)] at hL3; cases hL3
  have hDL : D ≠ L := fun q => by rw [q, hL3] at hD3; cases hD3
  have hIl : (h2.get? I).isSome = true := hI.live 0 _ hst
  have hDI : D ≠ I := fun q => by
    obtain ⟨o, ho⟩ := Option.isSome_iff_exists.mp hIl
    have := Heap.lt_size ho; rw [← q, ← hD] at this; exact absurd this (Nat.lt_irrefl _)
  have hIL : I ≠ L := fun q => by
    obtain ⟨o, ho⟩ := Option.isSome_iff_exists.mp hIl
    have := hk3 _ _ ho; rw [q, hL3] at this; cases this
  have nF : ∀ b ∈ F ++ mine, b ≠ I ∧ b ≠ D ∧ b ≠ L := fun b hb => ⟨fun q => (by have := hA.live b hb; rw [q, hnew1] at this; cases this), fun q => (by have := hA.live b hb; rw [q, hD1] at this; cases this), fun q => (by have := hA.live b hb; rw [q, hL1] at this; cases this)⟩
  obtain ⟨mo, cmo, fo⟩ := hA.frm
  have hcl1 : ∀ x c, cl.lookup x = some c → C.env.cells.lookup x = some c := by
    intro x c hx
    rw [← hcl] at hx
    rcases closGo_lookup _ _ hx with h | ⟨h1, h2⟩
    · cases h
    · obtain ⟨c', hc'⟩ := fo.has x (hc.hfree _ h1 rfl)
      rw [hc'] at h2
      rw [hc', h2]; rfl
  have hcN : ∀ x c, cl.lookup x = some c → c ≠ I ∧ c ≠ D ∧ c ≠ L := fun x c hx => nF c (fo.cown x c (hcl1 x c hx))
  have s4k : Kp T s₁ T { s₁ with heap := h4 } := Kp.at (tk := s₁.toks) hA.tok hk14 (Nat.le_refl _)
  obtain ⟨F₀, hF₀⟩ : ∃ F₀, (F ++ mine) ++ [D] = F₀ := ⟨_, rfl⟩
  have mF₀ : ∀ b, b ∈ F₀ ↔ (b ∈ F ++ mine ∨ b = D) := fun b => by rw [← hF₀]; simp only [List.mem_append, List.mem_singleton]
  have mFa : ∀ b, b ∈ (F₀ ++ [I]) ++ [L] ↔ (b ∈ F ++ mine ∨ b = D ∨ b = I ∨ b = L) := fun b => by
    simp only [List.mem_append, List.mem_singleton, mF₀]
    constructor
    · rintro (((h | h) | h) | h)
      · exact .inl h
      · exact .inr (.inl h)
      · exact .inr (.inr (.inl h))
      · exact .inr (.inr (.inr h))
    · rintro (h | h | h | h)
      · exact .inl (.inl (.inl h))
      · exact .inl (.inl (.inr h))
      · exact .inl (.inr h)
      · exact .inr h
  have le4 : Le (view (F ++ mine) T s₁) (view ((F₀ ++ [I]) ++ [L]) T { s₁ with heap := h4 }) := ⟨fun b o e => view_mk (fun hm => by
    have e1 := view_of e
    rcases (mFa b).mp hm with h | h | h | h
    · exact view_not e h
    · rw [h, hD1] at e1; cases e1
    · rw [h, hnew1] at e1; cases e1
    · rw [h, hL1] at e1; cases e1) (hk14 b o (view_of e)), fun _ _ e => e⟩
  have hDs : (D == sysModules) = false := by
    have h1 := ok.W.sysm
    obtain ⟨o, ho⟩ := Option.isSome_iff_exists.mp h1
    have := hA.ownOk.kb _ _ ho
    cases q : D == sysModules with
    | false => rfl
    | true => rw [show D = sysModules by simpa using q, this] at hD1; cases hD1
  obtain ⟨hsl4, had⟩ := hsl (view ((F₀ ++ [I]) ++ [L]) T { s₁ with heap := h4 }) h4 D hDs (hk4 _ _ hD3)
  have okC : (compCx C scope cl L).Ok n := compCx_ok ok hc.hkind
  have habs : Abs (compCx C scope cl L) (F₀ ++ [I]) [L] T (capSt fv σ) { s₁ with heap := h4 } := by
    refine ⟨fun b o e => le4.ob b o (hA.base b o e), fun b hb => ?_, fun b hb hF => ?_, hA.tok, fun x => ([] : List (Str × Value)).reverse.lookup x, cmo, ?_⟩
    · rcases (mFa b).mp hb with h | h | h | h
      · exact s4k.live hA.live b h
      · subst h; show (h4.get? b).isSome = true; rw [hk4 _ _ hD3]; rfl
      · subst h
        obtain ⟨o, ho⟩ := Option.isSome_iff_exists.mp hIl
        show (h4.get? b).isSome = true
        rw [hk4 _ _ (hk3 _ _ ho)]; rfl
      · subst h
        obtain ⟨o, _, _, ho, _⟩ := hns
        show (h4.get? b).isSome = true
        rw [ho]; rfl
    · rw [List.mem_singleton.mp hb] at hF
      rcases List.mem_append.mp hF with h | h
      · rcases (mF₀ L).mp h with h | h
        · exact (nF L h).2.2 rfl
        · exact hDL h.symm
      · exact hIL (List.mem_singleton.mp h).symm
    · refine { ns := hns, cells := fun x c e => (fo.cells x c (hcl1 x c e)).keeps hk14, apart := fun x y c e1 e2 => fo.apart x y c (hcl1 x c e1) (hcl1 y c e2), lc := fun x c e => (hcN x c e).2.2, has := fun x hx => ?_, lm := List.mem_singleton.mpr rfl,
               cown := fun x c e => List.mem_append_left _ (List.mem_append_left _ ((mF₀ c).mpr (.inl (fo.cown x c (hcl1 x c e))))), cmine := fun h => (by cases h), slots := fun x sl hx => ?_, own := fun x sl b hx hb => ?_, dis := fun x y sl sl' b hx _ hb _ => ?_ }
      · have hm : (x, NameKind.free) ∈ scope.names := by
          rcases hx with hx | hx
          · rcases relabel_lookup (env := C.env) hx with h | h
            · exact absurd rfl (hc.hcell _ h)
            · exact h.2
          · rcases relabel_lookup (env := C.env) hx with h | h
            · exact h
            · exact h.2
        have := closGo_has (cells := C.env.cells) scope.names [] hm
        rw [hcl] at this
        exact Option.isSome_iff_exists.mp this
      · obtain ⟨y, hy, rfl, hf, u, rfl⟩ := find_capSt hx
        obtain ⟨v, hv, hrv⟩ := fo.slots _ _ hf
        refine ⟨v, .inl ?_, hrv.mono le4 fun b hb => by cases hb⟩
        have hv := hv.val
        obtain ⟨h1, h2⟩ := hc.hfv y hy
        have e1 : cmo (Str.ofString y) = some v := by
          unfold valAt at hv
          rcases h1 with h1 | h1 <;> rw [h1] at hv <;> exact hv
        have h2 : (compCx C scope cl L).env.kindOf (Str.ofString y) = some .cell ∨ (compCx C scope cl L).env.kindOf (Str.ofString y) = some .free := h2
        unfold valAt
        rcases h2 with h2 | h2 <;> rw [h2] <;> exact e1
      · obtain ⟨y, hy, rfl, hf, u, rfl⟩ := find_capSt hx
        cases hb
      · obtain ⟨y, hy, rfl, hf, u, rfl⟩ := find_capSt hx
        cases hb
  have hIF₀ : I ∉ F₀ := fun q => by
    rcases (mF₀ I).mp q with h | h
    · exact (nF I h).1 rfl
    · exact hDI h.symm
  have hDF₀ : D ∈ F₀ := (mF₀ D).mpr (.inr rfl)
  have hDf : D ∉ fp := fun q => by
    obtain ⟨o, ho⟩ := hfp D q hDI
    have := view_of ho; rw [hD1] at this; cases this
  have key : ∀ (s : Shared), s = { s₁ with heap := h4 } → codeAny C.M C.A (.compLoop e 0 (.ref I) (.ref D) (compEnvC scope cl L C.env)) (RR (.ref D) L) s := by
    rintro s rfl
    have hst4 : St 0 h4 := hI.frame 0 h2 h4 hst fun b _ o e => hk4 b o (hk3 b o e)
    refine comp_loop (C := compCx C scope cl L) (c := .compLoop e 0 (.ref I) (.ref D) (compEnvC scope cl L C.env)) (ip := ip) (tail := tail (.ref D) (compEnvC scope cl L C.env)) (K := K) (fun v s h => h) (hquiet _ _ _) ?_ ?_ hI hIF₀ hDF₀ hDI hDf (fun x c e => (hcN x c e).1) (fun x c e => (hcN x c e).2.1) (fun b hb hne => ?_) le4 habs hst4 had hsl4 (hL cl D L okC) ?_
    · show (if (Code.compLoop e 0 (.ref I) (.ref D) (compEnvC scope cl L C.env)).isFrame then _ else _) = _
      rw [hframe, hturn]; rfl
    · exact hunder _ _ _
    · obtain ⟨o, ho⟩ := hfp b hb hne
      exact ⟨o, le4.ob b o ho⟩
    · intro s' sl' σ' m' T' hK ho' same le far a' hs'
      have hkp : Kp T s₁ T' s' := by
        refine ⟨?_, fun b o e => ?_, fun t l e => le.tk t l e, a'.tok⟩
        · obtain ⟨h', tk, rfl⟩ := same
          exact ⟨h', tk, rfl⟩
        · by_cases hb : b ∈ F ++ mine
          · exact (far b ((mF₀ b).mpr (.inl hb)) (nF b hb).2.1).trans (hk14 b o e)
          · exact view_of (le.ob b o (le4.ob b o (view_mk hb e)))
      have hLm : L ∈ m' := by obtain ⟨m, cm, f⟩ := a'.frm; exact f.lm
      refine hRR D L s' T' sl' σ' hD1 hL1 hDL ?_ hkp hK ho' (a'.live D (List.mem_append_left _ hDF₀)) (hs'.mono (view_sub fun b hb => ?_) fun _ _ _ e => e)
      · obtain ⟨m, cm, f⟩ := a'.frm
        exact ⟨m, f.ns⟩
      · rcases List.mem_cons.mp hb with rfl | hb
        · exact List.mem_append_left _ hDF₀
        · rcases List.mem_cons.mp hb with rfl | hb
          · exact List.mem_append_right _ hLm
          · exact List.mem_append_left _ ((mF₀ b).mpr (.inl hb))
  refine hstart I D _ _ _ (key _ rfl) (hI.iter 0 _ _ _ ?_ (key _ rfl))
  exact hI.frame 0 h2 h4 hst fun b _ o e => hk4 b o (hk3 b o e)
end Sx
end
section
open PySem PySem.W PyProof.Rows PySem.Calls
set_option linter.unusedVariables false
set_option Elab.async false
set_option maxRecDepth 100000
namespace Sx

structure CompForm (C : Cx) (e : Expr) (scope : Scope) (iter target : Expr) (ifs : List Expr) (ip : Pos) (newAcc : Sem Value) (o0 : Obj) (sl0 : Addr → Slot) (tail : Value → Env → Sem Unit) : Prop where
  hcl : ∃ g gs, clausesOf e = g :: gs ∧ g.iter = iter
  hnew : ∀ (E : Value → Shared → Prop) (s : Shared) (Q : Value → Shared → Prop), Q (.ref s.heap.objs.size) { s with heap := s.heap.push o0 } → wpAny C.M C.A newAcc Q E s
  hfr : o0.isFreed = false
  hsl : ∀ g (h : Heap) D, (D == sysModules) = false → h.get? D = some o0 → SlotRep C.W g h (sl0 D) (.ref D) ∧ (sl0 D).adr = some D
  hstart : ∀ I D env R (s : Shared), codeAny C.M C.A (.compLoop e 0 (.ref I) (.ref D) env) R s → wpAny C.M C.A (pyIter (.ref I)) (fun it' s' => codeAny C.M C.A (.compLoop e 0 it' (.ref D) env) R s') (notedBy C.M C.A env fun x s' => R (.error x) s') s → codeAny C.M C.A (.compStart e 0 (.ref I) (.ref D) env) R s
  hturn : ∀ I D env, compTurn e 0 (.ref I) (.ref D) env = turnT ip target ifs (.ref I) env (tail (.ref D) env) (.compLoop e 0 (.ref I) (.ref D) env)
  hframe : ∀ I D env, (Code.compLoop e 0 (.ref I) (.ref D) env).isFrame = false
  hquiet : ∀ I D env, (Code.compLoop e 0 (.ref I) (.ref D) env).quiet = true
  hunder : ∀ I D env, C.A.under (.compLoop e 0 (.ref I) (.ref D) env) = C.A

theorem compForm_list {C : Cx} {elt iter target : Expr} {ifs : List Expr} {scope : Scope} {pos : Pos} :
    CompForm C (.ListComp elt [⟨target, iter, ifs, 0⟩] scope pos) scope iter target ifs iter.pos (newList []) { cls := .type "list", data := .seq #[] } (fun D => .list D []) (fun acc env => do let _ ← call (.builtin "list.append") [acc, ← eval elt env]) where
  hcl := ⟨_, _, rfl, rfl⟩
  hnew := fun E s Q h => wpAny_newObj_type h
  hfr := rfl
  hsl := fun g h D _ e => ⟨⟨rfl, [], ⟨0, e⟩, .nil⟩, rfl⟩
  hstart := fun I D env R s h0 h => codeAny_compStart_list h0 h
  hturn := fun I D env => by rfl
  hframe := fun I D env => rfl
  hquiet := fun I D env => rfl
  hunder := fun I D env => rfl

theorem compForm_dict {C : Cx} {kx vx iter target : Expr} {ifs : List Expr} {scope : Scope} {pos : Pos} :
    CompForm C (.DictComp kx vx [⟨target, iter, ifs, 0⟩] scope pos) scope iter target ifs iter.pos newDict { cls := .type "dict", data := .dict #[] } (fun D => .dict D []) (fun acc env => do
        let kv ← eval kx env
        let vv ← holding [kv] (eval vx env)
        match acc with
        | .ref d => do
          standAt { kx.pos with endLine := vx.pos.endLine, endCol := vx.pos.endCol }
          holding [kv, vv] (dictSet d kv vv)
        | _ => unsupported "internal:dictcomp") where
  hcl := ⟨_, _, rfl, rfl⟩
  hnew := fun E s Q h => wpAny_newObj_type h
  hfr := rfl
  hsl := fun g h D hD e => ⟨⟨rfl, [], [], ⟨hD, _, 0, e, ⟨rfl, rfl, rfl⟩, rfl⟩, .nil, List.nodup_nil⟩, rfl⟩
  hstart := fun I D env R s h0 h => codeAny_compStart_dict h0 h
  hturn := fun I D env => by rfl
  hframe := fun I D env => rfl
  hquiet := fun I D env => rfl
  hunder := fun I D env => rfl

theorem hclos_of {C : Cx} {σ : St} {F mine : List Addr} {T : TM} {s : Shared} (hA : Abs C F mine T σ s) {scope : Scope} {fv : List String} (hc : CompOk C scope fv) : closureFor scope C.env = pure (closGo C.env.cells scope.names []) := by
  obtain ⟨m, cm, f⟩ := hA.frm
  exact closureFor_eq fun x hx hk => by
    obtain ⟨c, e⟩ := f.has x.1 (hc.hfree x hx hk)
    rw [e]; rfl

section
variable {C : Cx} {σ : St}
/-- a comprehension as an expression -/
theorem comp_ev {n : Nat} (ok : C.Ok n) {e : Expr} {scope : Scope} {iter target : Expr} {ifs : List Expr} {ip pos : Pos} {newAcc : Sem Value} {o0 : Obj} {sl0 : Addr → Slot} {tail : Value → Env → Sem Unit} (cf : CompForm C e scope iter target ifs ip newAcc o0 sl0 tail)
    {fv : List String} (hc : CompOk C scope fv) {Q : Slot → St → Prop}
    (h : Ev C σ iter (fun a σ1 => ∃ xs, seqOf a = some xs ∧ RunOk target a ∧ ∀ cl D L, (compCx C scope cl L).Ok n → CLoop (compCx C scope cl L) D target ifs (tail (.ref D) (compCx C scope cl L).env) (fun sl _ => Q sl σ1) xs (sl0 D) (capSt fv σ1)))
    (hs : ∀ x, foldedSetIterable iter C.env x = pure x := by intro _; rfl) : EvF C σ (comprehension e scope C.env pos newAcc false (eval iter C.env) none) Q := by
  intro F mine T s hA
  obtain ⟨g, gs, hg, rfl⟩ := cf.hcl
  refine wpAny_comprehension_free (use := none) hg hs (hclos_of hA hc) hc.hkind hc.hnames (wpAny_mono (h F mine T s hA) ?_ fun _ _ e => e)
  rintro va s1 ⟨a, σ1, m1, T1, ⟨xs, hxs, hrun, hL⟩, p1, a1, r1⟩
  refine comp_core ok a1 hc r1 hxs hrun (cf.hnew _) cf.hfr cf.hsl cf.hstart cf.hturn cf.hframe cf.hquiet cf.hunder hL ?_ (RR := fun acc L => compPost C.M C.A C.X none (fun v s' => ∃ sl σ' mine' a T', Q sl σ' ∧ sl.adr = some a ∧ Post F mine T s (a :: mine') T' s' ∧ a ∉ mine' ∧ AbsN C F mine' a T' σ' s' ∧ SlotRep C.W (view (F ++ (a :: mine')) T' s') s'.heap sl v) acc L)
  rintro D L s' T' sl σ' hD hL hDL ⟨m, hns⟩ hk hK ho hlv hsl
  refine ⟨m, hns, fun h' hs' => ?_⟩
  have k2 : Kp T1 s1 T' { s' with heap := h' } := by
    obtain ⟨h0, t0, rfl⟩ := hk.same
    exact ⟨⟨h', t0, rfl⟩, fun b o e => hs'.extBut b o (fun q => by rw [q, hL] at e; cases e) (hk.keep b o e), hk.tle, hk.tok⟩
  have hlv' : (h'.get? D).isSome = true := by
    obtain ⟨o, hoo⟩ := Option.isSome_iff_exists.mp hlv
    rw [hs'.extBut D o hDL hoo]; rfl
  obtain ⟨p2, hm, a2, le⟩ := a1.new k2 hD hlv'
  refine ⟨sl, σ1, m1, D, T', hK, ho, p1.trans p2, hm, a2, ?_⟩
  have s1' : SlotRep C.W (view (D :: L :: (F ++ m1)) T' { s' with heap := h' }) h' sl (.ref D) := by
    refine hsl.mono ⟨fun b o e => view_mk (view_not e) (hs'.extBut b o (fun q => view_not e (by rw [q]; exact List.mem_cons_of_mem _ List.mem_cons_self)) (view_of e)), fun _ _ e => e⟩ fun b hb o e => ?_
    rw [ho] at hb
    cases hb
    exact hs'.extBut D o hDL e
  refine s1'.mono ((view_sub fun b hb => ?_).trans le) fun _ _ _ e => e
  rcases List.mem_cons.mp hb with rfl | hb
  · exact List.mem_cons_self
  · exact List.mem_cons_of_mem _ (List.mem_cons_of_mem _ hb)

/-- a new object beside which another stands that is soon let go -/
theorem Abs.new2 {F mine : List Addr} {T T' : TM} {s s' : Shared} (hA : Abs C F mine T σ s) (k : Kp T s T' s') {a L : Addr} (hn : s.heap.get? a = none) (hnL : s.heap.get? L = none) (haL : a ≠ L) (hs : (s'.heap.get? a).isSome = true) (hsL : (s'.heap.get? L).isSome = true) :
    Abs C (F ++ [L]) (a :: mine) T' σ s' ∧ a ≠ C.env.locals ∧ (∀ y c, C.env.cells.lookup y = some c → c ≠ a ∧ c ≠ L) ∧ (∀ y sl', find σ y = some sl' → sl'.adr ≠ some a) ∧ L ∉ F ++ (a :: mine) ∧ Le (view (F ++ mine) T s) (view ((F ++ [L]) ++ (a :: mine)) T' s') ∧
      Le (view (a :: L :: (F ++ mine)) T' s') (view ((F ++ [L]) ++ (a :: mine)) T' s') := by
  have hnew : ∀ b ∈ F ++ mine, b ≠ a ∧ b ≠ L := fun b hb => ⟨fun e => hA.ownOk.fresh hn (e ▸ hb), fun e => hA.ownOk.fresh hnL (e ▸ hb)⟩
  have hA1 := hA.keeps k
  have mm : ∀ b, b ∈ (F ++ [L]) ++ (a :: mine) ↔ (b ∈ F ++ mine ∨ b = a ∨ b = L) := fun b => by
    simp only [List.mem_append, List.mem_cons, List.not_mem_nil, or_false]
    constructor
    · rintro ((h | h) | h | h)
      · exact .inl (.inl h)
      · exact .inr (.inr h)
      · exact .inr (.inl h)
      · exact .inl (.inr h)
    · rintro ((h | h) | h | h)
      · exact .inl (.inl h)
      · exact .inr (.inr h)
      · exact .inr (.inl h)
      · exact .inl (.inr h)
  have le : Le (view (F ++ mine) T s) (view ((F ++ [L]) ++ (a :: mine)) T' s') := ⟨fun b o e => by
    refine view_mk (fun hm => ?_) (k.keep b o (view_of e))
    have e1 := view_of e
    rcases (mm b).mp hm with hm | rfl | rfl
    · exact view_not e hm
    · rw [hn] at e1
      exact nomatch e1
    · rw [hnL] at e1
      exact (nomatch e1), k.tle⟩
  have eqv : Le (view (a :: L :: (F ++ mine)) T' s') (view ((F ++ [L]) ++ (a :: mine)) T' s') := view_sub fun b hb => by
    rcases (mm b).mp hb with hb | rfl | rfl
    · exact List.mem_cons_of_mem _ (List.mem_cons_of_mem _ hb)
    · exact List.mem_cons_self
    · exact List.mem_cons_of_mem _ List.mem_cons_self
  obtain ⟨m, cm, f⟩ := hA.frm
  have f1 : Frm C F mine T' σ s' m cm := f.keeps k
  refine ⟨⟨fun b o e => le.ob b o (hA.base b o e), fun b hb => ?_, fun b hb hF => ?_, k.tok, m, cm, ?_⟩, fun e => (hnew _ (List.mem_append_right _ f.lm)).1 e.symm, fun y c e => hnew c (f.cown y c e), fun y sl' e ho' => (hnew _ (List.mem_append_right _ (f.own y sl' a e ho').1)).1 rfl, fun hm => ?_, le, eqv⟩
  · rcases (mm b).mp hb with hb | rfl | rfl
    · exact hA1.live b hb
    · exact hs
    · exact hsL
  · rcases List.mem_append.mp hF with hF | hF
    · rcases List.mem_cons.mp hb with rfl | hb
      · exact (hnew b (List.mem_append_left _ hF)).1 rfl
      · exact hA.nin b hb hF
    · have := List.mem_singleton.mp hF
      subst this
      rcases List.mem_cons.mp hb with rfl | hb
      · exact haL rfl
      · exact (hnew b (List.mem_append_right _ hb)).2 rfl
  · refine { ns := f1.ns, cells := f1.cells, apart := f1.apart, lc := f1.lc, has := f1.has, lm := List.mem_cons_of_mem _ f1.lm, cown := ?_, cmine := fun hc y c e => List.mem_cons_of_mem _ (f1.cmine hc y c e), slots := ?_, own := ?_, dis := f1.dis }
    · intro y c e
      exact (mm c).mpr (.inl (f1.cown y c e))
    · intro y sl' e
      obtain ⟨v, hv, hr⟩ := f.slots y sl' e
      exact ⟨v, hv, hr.mono le fun _ _ o e => k.keep _ o e⟩
    · intro y sl' b e ho'
      obtain ⟨q1, q2, q3⟩ := f1.own y sl' b e ho'
      exact ⟨List.mem_cons_of_mem _ q1, q2, q3⟩
  · rcases List.mem_append.mp hm with hm | hm
    · exact (hnew L (List.mem_append_left _ hm)).2 rfl
    · rcases List.mem_cons.mp hm with h | hm
      · exact haL h.symm
      · exact (hnew L (List.mem_append_right _ hm)).2 rfl

/-- x = [..], the road on which the name is bound before the comprehension's own names go -/
theorem comp_use {n : Nat} (ok : C.Ok n) {e : Expr} {scope : Scope} {iter target : Expr} {ifs : List Expr} {ip pos cpos p' : Pos} {newAcc : Sem Value} {o0 : Obj} {sl0 : Addr → Slot} {tail : Value → Env → Sem Unit} (cf : CompForm C e scope iter target ifs ip newAcc o0 sl0 tail)
    {fv : List String} (hc : CompOk C scope fv) {x : String} (hx : isHere C (Str.ofString x) = true) {Q : Fl → St → Prop}
    (h : Ev C σ iter (fun a σ1 => ∃ xs, seqOf a = some xs ∧ RunOk target a ∧ ∀ cl D L, (compCx C scope cl L).Ok n → CLoop (compCx C scope cl L) D target ifs (tail (.ref D) (compCx C scope cl L).env) (fun sl _ => Q .next (put σ1 (Str.ofString x) x sl)) xs (sl0 D) (capSt fv σ1)))
    (hsw : swapsWith e (some (.Name (Str.ofString x) p')) pos.line C.env = pure true)
    (huse : evalThenUse e C.env (assign (.Name (Str.ofString x) p') C.env) = (do let _ ← comprehension e scope C.env cpos newAcc false (eval iter C.env) (some (assign (.Name (Str.ofString x) p') C.env))))
    (hs : ∀ x, foldedSetIterable iter C.env x = pure x := by intro _; rfl) : Ex C σ (.Assign [.Name (Str.ofString x) p'] e pos) Q := by
  intro F mine T s hA
  obtain ⟨g, gs, hg, rfl⟩ := cf.hcl
  rw [exec_Assign_Name_used _ _ _ _ hsw]
  refine wpAny_bind (wpAny_standAt (wpAny_bind ?_))
  rw [huse]
  refine wpAny_bind (wpAny_mono (wpAny_comprehension_free (use := some (assign (.Name (Str.ofString x) p') C.env)) (Q := fun _ s' => ∃ b σ' mine' T', Q b σ' ∧ Post F mine T s mine' T' s' ∧ Abs C F mine' T' σ' s' ∧ FlRep C.W (view (F ++ mine') T' s') b .next) hg hs (hclos_of hA hc) hc.hkind hc.hnames
    (wpAny_mono (h F mine T s hA) ?_ fun _ _ e => e)) (fun _ s' hq => wpAny_pure (wpAny_pure hq)) fun _ _ e => e)
  rintro va s1 ⟨a, σ1, m1, T1, ⟨xs, hxs, hrun, hL⟩, p1, a1, r1⟩
  refine comp_core ok a1 hc r1 hxs hrun (cf.hnew _) cf.hfr cf.hsl cf.hstart cf.hturn cf.hframe cf.hquiet cf.hunder hL ?_ (RR := fun acc L => compPost C.M C.A C.X (some (assign (.Name (Str.ofString x) p') C.env)) (fun _ s' => ∃ b σ' mine' T', Q b σ' ∧ Post F mine T s mine' T' s' ∧ Abs C F mine' T' σ' s' ∧ FlRep C.W (view (F ++ mine') T' s') b .next) acc L)
  rintro D L s' T' sl σ' hD hL hDL ⟨m, hns⟩ hk hK ho hlv hsl
  have hLl : (s'.heap.get? L).isSome = true := by obtain ⟨o, _, _, e, _⟩ := hns; rw [e]; rfl
  obtain ⟨a2, q1, q2, q3, q4, le2, le3⟩ := a1.new2 hk hD hL hDL hlv hLl
  obtain ⟨m2, cm2, f2⟩ := a2.frm
  show wpAny _ _ (assign (.Name (Str.ofString x) p') C.env (.ref D)) _ _ _
  refine wpAny_assign_Name (store_frm ok a2 hx (hsl.mono le3 fun _ _ _ e => e) f2 (fun b hb => ?_) fun s3 p3 a3 => ?_)
  · rw [ho] at hb
    cases hb
    exact ⟨List.mem_cons_self, q1, fun y c e => (q2 y c e).1, fun y sl' e1 e2 => absurd e2 (q3 y sl' e1)⟩
  · have hL3 : s3.heap.get? L = s'.heap.get? L := p3.far L (by simp)
    refine ⟨m, hns.at' fun o e => hL3.trans e, fun h' hs' => ?_⟩
    have sub : ∀ b ∈ F ++ (D :: m1), b ∈ (F ++ [L]) ++ (D :: m1) := fun b hb => by
      rcases List.mem_append.mp hb with hb | hb
      · exact List.mem_append_left _ (List.mem_append_left _ hb)
      · exact List.mem_append_right _ hb
    have nL : ∀ b ∈ F ++ (D :: m1), b ≠ L := fun b hb q => q4 (q ▸ hb)
    have le4 : Le (view ((F ++ [L]) ++ (D :: m1)) T' s3) (view (F ++ (D :: m1)) T' { s3 with heap := h' }) :=
      ⟨fun b o e => view_mk (fun q => view_not e (sub b q)) (hs'.extBut b o (fun q => view_not e (by rw [q]; simp)) (view_of e)), fun _ _ e => e⟩
    have a4 : Abs C F (D :: m1) T' (put σ1 (Str.ofString x) x sl) { s3 with heap := h' } := by
      refine a3.other le4 (fun b o hb e => hs'.extBut b o (nL b (List.mem_append_right _ hb)) e) (fun y c e => ⟨?_, fun o e' => hs'.extBut c o (q2 y c e).2 e'⟩) (fun b hb => ?_) (fun b hb hF => a3.nin b hb (List.mem_append_left _ hF)) a3.tok
      · obtain ⟨m, cm, f⟩ := a3.frm
        have := f.cown y c e
        simp only [List.mem_append, List.mem_singleton] at this ⊢
        rcases this with (h | h) | h
        · exact .inl h
        · exact absurd h (q2 y c e).2
        · exact .inr h
      · obtain ⟨o, ho⟩ := Option.isSome_iff_exists.mp (a3.live b (sub b hb))
        show (h'.get? b).isSome = true
        rw [hs'.extBut b o (nL b hb) ho]; rfl
    have p4 : Post F m1 T1 s1 (D :: m1) T' { s3 with heap := h' } := by
      refine ⟨?_, (le2.trans p3.le).trans le4, fun b hb => ?_⟩
      · obtain ⟨h0, t0, e0⟩ := hk.same
        obtain ⟨h1, t1, rfl⟩ := p3.same
        exact ⟨h', t1, by rw [e0]⟩
      · obtain ⟨o, ho⟩ := Option.isSome_iff_exists.mp (a1.live b (List.mem_append_left _ hb))
        rw [ho]
        exact hs'.extBut b o (nL b (List.mem_append_left _ hb)) ((p3.far b (List.mem_append_left _ hb)).trans (hk.keep b o ho))
    exact ⟨.next, _, _, T', hK, p1.trans p4, a4, .next⟩
end
end Sx
end
section
open PySem PySem.W PyProof.Rows PySem.Calls
set_option linter.unusedVariables false
set_option Elab.async false
set_option maxRecDepth 100000
namespace Sx

noncomputable def LLoop (C : Cx) (target : Expr) (ifs : List Expr) (elt : Expr) (K : List V → Prop) : List V → List V → St → Prop
  | [], ys, σ => K ys
  | x :: xs, ys, σ => Asg C σ target x (fun σ1 => Tsts C σ1 ifs (fun ok σ2 => (ok = true → Ev C σ2 elt (fun y σ3 => LLoop C target ifs elt K xs (ys ++ [y]) σ3)) ∧ (ok = false → LLoop C target ifs elt K xs ys σ2)))
noncomputable def DLoop (C : Cx) (target : Expr) (ifs : List Expr) (kx vx : Expr) (K : List (Key × V) → Prop) : List V → List (Key × V) → St → Prop
  | [], es, σ => K es
  | x :: xs, es, σ => Asg C σ target x (fun σ1 => Tsts C σ1 ifs (fun ok σ2 => (ok = true → Ev C σ2 kx (fun kv σ3 => ∃ k : Key, kv = k.v ∧ Ev C σ3 vx (fun y σ4 => DLoop C target ifs kx vx K xs (dset es k y) σ4))) ∧ (ok = false → DLoop C target ifs kx vx K xs es σ2)))

theorem Asg.mono {C : Cx} {σ : St} {t : Expr} {x : V} {Q Q' : St → Prop} (h : Asg C σ t x Q) (hq : ∀ σ, Q σ → Q' σ) : Asg C σ t x Q' :=
  fun F mine T s v hA hr => wpAny_mono (h F mine T s v hA hr) (fun _ _ ⟨σ', m', T', q, r⟩ => ⟨σ', m', T', hq _ q, r⟩) fun _ _ x => x

theorem LLoop.c {C : Cx} {D : Addr} {target : Expr} {ifs : List Expr} {elt : Expr} {K : List V → Prop} {K' : Slot → St → Prop} (hK : ∀ ys σ, K ys → K' (.list D ys) σ) : ∀ (xs ys : List V) (σ : St), ys.length + xs.length ≤ sizeLine → LLoop C target ifs elt K xs ys σ →
    CLoop C D target ifs (do let _ ← call (.builtin "list.append") [.ref D, ← eval elt C.env]) K' xs (.list D ys) σ
  | [], ys, σ, _, h => hK _ _ h
  | x :: xs, ys, σ, hl, h => by
    rw [List.length_cons] at hl
    refine Asg.mono h fun σ1 h1 => Tr.mono h1 fun ok σ2 h2 => ⟨fun hok => ?_, fun hok => LLoop.c hK xs ys σ2 (by omega) (h2.2 hok)⟩
    refine trA_list (Tr.mono (h2.1 hok) fun y σ3 h3 => opM_append (by omega) ?_)
    exact LLoop.c hK xs (ys ++ [y]) σ3 (by rw [List.length_append, List.length_singleton]; omega) h3
theorem DLoop.c {C : Cx} {D : Addr} {target : Expr} {ifs : List Expr} {kx vx : Expr} {p : Pos} {K : List (Key × V) → Prop} {K' : Slot → St → Prop} (hK : ∀ ys σ, K ys → K' (.dict D ys) σ) : ∀ (xs : List V) (es : List (Key × V)) (σ : St), es.length + xs.length ≤ sizeLine → DLoop C target ifs kx vx K xs es σ →
    CLoop C D target ifs (do
        let kv ← eval kx C.env
        let vv ← holding [kv] (eval vx C.env)
        standAt p
        holding [kv, vv] (dictSet D kv vv)) K' xs (.dict D es) σ
  | [], es, σ, _, h => hK _ _ h
  | x :: xs, es, σ, hl, h => by
    rw [List.length_cons] at hl
    refine Asg.mono h fun σ1 h1 => Tr.mono h1 fun ok σ2 h2 => ⟨fun hok => ?_, fun hok => DLoop.c hK xs es σ2 (by omega) (h2.2 hok)⟩
    refine trA_dict (Tr.mono (h2.1 hok) fun kv σ3 h3 => ?_)
    obtain ⟨k, rfl, h3⟩ := h3
    refine Tr.mono h3 fun y σ4 h4 => opM_dictSet (by omega) ?_
    exact DLoop.c hK xs (dset es k y) σ4 (by have := dset_length es k y; omega) h4

section
variable {C : Cx} {σ : St}
theorem evF_listComp {n : Nat} (ok : C.Ok n) {elt iter target : Expr} {ifs : List Expr} {scope : Scope} {pos : Pos} {fv : List String} (hc : CompOk C scope fv) {Q : Slot → St → Prop}
    (h : Ev C σ iter (fun a σ1 => ∃ xs, seqOf a = some xs ∧ RunOk target a ∧ xs.length ≤ sizeLine ∧ ∀ cl L, (compCx C scope cl L).Ok n → LLoop (compCx C scope cl L) target ifs elt (fun ys => ∀ D, Q (.list D ys) σ1) xs [] (capSt fv σ1)))
    (hs : ∀ x, foldedSetIterable iter C.env x = pure x := by intro _; rfl) : EvF C σ (eval (.ListComp elt [⟨target, iter, ifs, 0⟩] scope pos) C.env) Q := by
  rw [eval_ListComp]
  refine comp_ev ok compForm_list hc (h.mono ?_) hs
  rintro a σ1 ⟨xs, h1, h2, h3, h4⟩
  exact ⟨xs, h1, h2, fun cl D L okC => (h4 cl L okC).c (fun ys _ hk => hk D) xs [] _ (by simpa using h3)⟩
theorem evF_dictComp {n : Nat} (ok : C.Ok n) {kx vx iter target : Expr} {ifs : List Expr} {scope : Scope} {pos : Pos} {fv : List String} (hc : CompOk C scope fv) {Q : Slot → St → Prop}
    (h : Ev C σ iter (fun a σ1 => ∃ xs, seqOf a = some xs ∧ RunOk target a ∧ xs.length ≤ sizeLine ∧ ∀ cl L, (compCx C scope cl L).Ok n → DLoop (compCx C scope cl L) target ifs kx vx (fun ys => ∀ D, Q (.dict D ys) σ1) xs [] (capSt fv σ1)))
    (hs : ∀ x, foldedSetIterable iter C.env x = pure x := by intro _; rfl) : EvF C σ (eval (.DictComp kx vx [⟨target, iter, ifs, 0⟩] scope pos) C.env) Q := by
  rw [arm_eval_DictComp]
  refine comp_ev ok compForm_dict hc (h.mono ?_) hs
  rintro a σ1 ⟨xs, h1, h2, h3, h4⟩
  exact ⟨xs, h1, h2, fun cl D L okC => (h4 cl L okC).c (fun ys _ hk => hk D) xs [] _ (by simpa using h3)⟩
end
end Sx
end
section
open PySem PySem.W PyProof.Rows PySem.Calls
set_option linter.unusedVariables false
set_option Elab.async false
set_option maxRecDepth 100000
namespace Sx

noncomputable def dsets (es : List (Key × V)) (more : List (Key × V)) : List (Key × V) := more.foldl (fun es p => dset es p.1 p.2) es
theorem KpB.trans {a : Addr} {T T' T'' : TM} {s s' s'' : Shared} (x : KpB a T s T' s') (y : KpB a T' s' T'' s'') : KpB a T s T'' s'' := by
  obtain ⟨h, t, rfl⟩ := x.same
  obtain ⟨h', t', rfl⟩ := y.same
  exact ⟨⟨h', t', rfl⟩, fun b o hb e => y.keep b o hb (x.keep b o hb e), y.live, fun t l e => y.tle t l (x.tle t l e), y.tok⟩
theorem KpB.own {C : Cx} {a : Addr} {T T' : TM} {own : List Addr} {s s' : Shared} (k : KpB a T s T' s') (ha : a ∈ own) (hO : OwnOk C own T s) : OwnOk C own T' s' := by
  refine ⟨fun b o e => (k.view ha).ob b o (hO.base b o e), fun b hb => ?_, k.tok⟩
  by_cases q : b = a
  · subst q; exact k.live
  · obtain ⟨o, ho⟩ := Option.isSome_iff_exists.mp (hO.live b hb)
    rw [k.keep b o q ho]; rfl

section
variable {C : Cx} {σ : St}

end
end Sx
end
section
open PySem PySem.W PyProof.Rows PySem.Calls
set_option linter.unusedVariables false
set_option Elab.async false
set_option maxRecDepth 100000
namespace Sx

/-! ## dict displays -/
noncomputable def EvK (C : Cx) : List (Sem Value × Sem Value) → List (Key × V) → St → (List (Key × V) → St → Prop) → Prop
  | [], acc, σ, Q => Q acc σ
  | (k, v) :: r, acc, σ, Q => EvT C σ k (fun kv σ1 => ∃ key : Key, kv = key.v ∧ EvT C σ1 v (fun vv σ2 => EvK C r (acc ++ [(key, vv)]) σ2 Q))

noncomputable def RepP (W : Wd) (g : PH) : List (Key × V) → List (Value × Value) → Prop
  | [], [] => True
  | (k, v) :: kvs, (kw, w) :: vs => Rep W g k.v kw ∧ Rep W g v w ∧ RepP W g kvs vs
  | _, _ => False
theorem RepP.mono {W : Wd} {g g' : PH} (h : Le g g') : ∀ {kvs : List (Key × V)} {vs : List (Value × Value)}, RepP W g kvs vs → RepP W g' kvs vs
  | [], [], _ => trivial
  | (k, v) :: kvs, (kw, w) :: vs, hr => ⟨hr.1.mono h, hr.2.1.mono h, RepP.mono h hr.2.2⟩
  | [], _ :: _, hr => hr.elim
  | _ :: _, [], hr => hr.elim
theorem RepP.length {W : Wd} {g : PH} : ∀ {kvs : List (Key × V)} {vs : List (Value × Value)}, RepP W g kvs vs → vs.length = kvs.length
  | [], [], _ => rfl
  | (k, v) :: kvs, (kw, w) :: vs, hr => by rw [List.length_cons, List.length_cons, RepP.length hr.2.2]
  | [], _ :: _, hr => hr.elim
  | _ :: _, [], hr => hr.elim

section
variable {C : Cx} {σ : St}

theorem evK_pairs : ∀ (pairs : List (Sem Value × Sem Value)) (acc : List (Key × V)) (σ : St) (Q : List (Key × V) → St → Prop), EvK C pairs acc σ Q → ∀ F mine T s, Abs C F mine T σ s →
    wpAny C.M C.A (evalPairs pairs) (fun vs s' => ∃ kvs σ' mine' T', Q (acc ++ kvs) σ' ∧ Post F mine T s mine' T' s' ∧ Abs C F mine' T' σ' s' ∧ RepP C.W (view (F ++ mine') T' s') kvs vs ∧ kvs.length = pairs.length) C.X s
  | [], acc, σ, Q, h, F, mine, T, s, hA => evalPairs_nil ⟨[], σ, mine, T, by rw [List.append_nil]; exact h, .refl _ _ _ _, hA, trivial, rfl⟩
  | (k, v) :: r, acc, σ, Q, h, F, mine, T, s, hA => by
    refine evalPairs_cons (wpAny_mono (h F mine T s hA) ?_ fun _ _ x => x)
    rintro kw s1 ⟨_, σ1, m1, T1, ⟨key, rfl, hv⟩, p1, a1, r1⟩
    refine Tr.then hv a1 fun w s2 vv σ2 m2 T2 hr p2 a2 r2 => ?_
    refine wpAny_mono (evK_pairs r _ σ2 Q hr F m2 T2 s2 a2) ?_ fun _ _ x => x
    rintro vs s3 ⟨kvs, σ3, m3, T3, hq, p3, a3, r3, hlen⟩
    exact ⟨(key, vv) :: kvs, σ3, m3, T3, by rw [List.append_assoc] at hq; exact hq, (p1.trans p2).trans p3, a3, ⟨(r1.mono p2.le).mono p3.le, r2.mono p3.le, r3⟩, by rw [List.length_cons, List.length_cons, hlen]⟩

theorem store_all {own : List Addr} {D : Addr} (hD : D ∈ own) : ∀ (vs : List (Value × Value)) (kvs es : List (Key × V)) (T : TM) (s : Shared) (Q : PUnit → Shared → Prop), OwnOk C own T s → SlotRep C.W (view own T s) s.heap (.dict D es) (.ref D) → RepP C.W (view own T s) kvs vs → es.length + kvs.length ≤ sizeLine →
    (∀ s' T', KpB D T s T' s' → SlotRep C.W (view own T' s') s'.heap (.dict D (dsets es kvs)) (.ref D) → Q PUnit.unit s') →
    wpAny C.M C.A (forIn vs PUnit.unit fun (x : Value × Value) (_ : PUnit) => (do dictSet D x.1 x.2; pure (ForInStep.yield PUnit.unit) : Sem (ForInStep PUnit))) Q C.X s
  | [], [], es, T, s, Q, hO, hs, hr, hl, h => by
    rw [List.forIn_nil]
    exact wpAny_pure (h s T ⟨⟨_, _, rfl⟩, fun _ _ _ e => e, hO.live D hD, fun _ _ e => e, hO.tok⟩ hs)
  | (kw, w) :: vs, (k, v) :: kvs, es, T, s, Q, hO, hs, hr, hl, h => by
    rw [List.length_cons] at hl
    rw [List.forIn_cons]
    refine wpAny_bind (wpAny_bind ?_)
    have := opM_dictSet (C := C) (a := D) (K := fun sl => sl = .dict D (dset es k v)) (by omega) rfl own T s D [kw, w] hO hD rfl hs (.cons hr.1 (.cons hr.2.1 .nil))
    have this : wpAny C.M C.A (dictSet D kw w) _ C.X s := this
    refine wpAny_mono this ?_ fun _ _ x => x
    rintro _ s2 ⟨_, sl2, T2, rfl, _, k2, hs2⟩
    refine wpAny_pure (store_all hD vs kvs (dset es k v) T2 s2 Q (k2.own hD hO) hs2 (hr.2.2.mono (k2.view hD)) (by have := dset_length es k v; omega) fun s' T' k3 hs3 => h s' T' (k2.trans k3) hs3)
  | [], _ :: _, _, _, _, _, _, _, hr, _, _ => hr.elim
  | _ :: _, [], _, _, _, _, _, _, hr, _, _ => hr.elim

/-- a new object, somebody else's for now -/
theorem Abs.lend {F mine : List Addr} {T T' : TM} {s s' : Shared} (hA : Abs C F mine T σ s) (k : Kp T s T' s') {d : Addr} (hn : s.heap.get? d = none) (hl : (s'.heap.get? d).isSome = true) :
    Abs C (F ++ [d]) mine T' σ s' ∧ Le (view (F ++ mine) T s) (view ((F ++ [d]) ++ mine) T' s') ∧ (∀ x c, C.env.cells.lookup x = some c → c ≠ d) ∧ d ∉ F ++ mine := by
  have hnew : ∀ b ∈ F ++ mine, b ≠ d := fun b hb e => hA.ownOk.fresh hn (e ▸ hb)
  have mm : ∀ b, b ∈ (F ++ [d]) ++ mine → b ∈ F ++ mine ∨ b = d := fun b hb => by
    simp only [List.mem_append, List.mem_singleton] at hb ⊢
    rcases hb with (h | h) | h
    · exact .inl (.inl h)
    · exact .inr h
    · exact .inl (.inr h)
  have le : Le (view (F ++ mine) T s) (view ((F ++ [d]) ++ mine) T' s') := ⟨fun b o e => by
    refine view_mk (fun hm => ?_) (k.keep b o (view_of e))
    rcases mm b hm with h | h
    · exact view_not e h
    · have := view_of e
      rw [h, hn] at this
      exact (nomatch this), k.tle⟩
  have hcd : ∀ x c, C.env.cells.lookup x = some c → c ≠ d := fun x c e => by
    obtain ⟨m, cm, f⟩ := hA.frm
    exact hnew c (f.cown x c e)
  refine ⟨hA.other le (fun b o _ e => k.keep b o e) (fun x c e => ⟨?_, fun o e' => k.keep c o e'⟩) (fun b hb => ?_) (fun b hb hF => ?_) k.tok, le, hcd, fun hm => hnew d hm rfl⟩
  · obtain ⟨m, cm, f⟩ := hA.frm
    rcases List.mem_append.mp (f.cown x c e) with h | h
    · exact List.mem_append_left _ (List.mem_append_left _ h)
    · exact List.mem_append_right _ h
  · rcases mm b hb with h | h
    · exact k.live hA.live b h
    · subst h; exact hl
  · rcases List.mem_append.mp hF with h | h
    · exact hA.nin b hb h
    · exact hnew b (List.mem_append_right _ hb) (List.mem_singleton.mp h)

/-- .. and then the frame's own -/
theorem Abs.adopt {F mine : List Addr} {T : TM} {s : Shared} {d : Addr} (hA : Abs C (F ++ [d]) mine T σ s) (hdF : d ∉ F) (hcd : ∀ x c, C.env.cells.lookup x = some c → c ≠ d) :
    AbsN C F mine d T σ s ∧ d ∉ mine ∧ Le (view ((F ++ [d]) ++ mine) T s) (view (F ++ (d :: mine)) T s) := by
  have mm : ∀ b, b ∈ F ++ (d :: mine) ↔ b ∈ (F ++ [d]) ++ mine := fun b => by simp
  have le : Le (view ((F ++ [d]) ++ mine) T s) (view (F ++ (d :: mine)) T s) := view_sub fun b hb => (mm b).mp hb
  have hdm : d ∉ mine := fun h => hA.nin d h (by simp)
  obtain ⟨m, cm, f⟩ := hA.frm
  refine ⟨⟨fun b o e => le.ob b o (hA.base b o e), fun b hb => hA.live b ((mm b).mp hb), fun b hb hF => ?_, hA.tok, m, cm, ?_, fun e => hdm (e ▸ f.lm), hcd, fun y sl e ho => hdm (f.own y sl d e ho).1⟩, hdm, le⟩
  · rcases List.mem_cons.mp hb with rfl | hb
    · exact hdF hF
    · exact hA.nin b hb (List.mem_append_left _ hF)
  · refine { ns := f.ns, cells := f.cells, apart := f.apart, lc := f.lc, has := f.has, lm := List.mem_cons_of_mem _ f.lm, cown := fun x c e => (mm c).mpr (f.cown x c e), cmine := fun hc x c e => List.mem_cons_of_mem _ (f.cmine hc x c e),
             slots := fun x sl e => ?_, own := fun x sl b e ho => ?_, dis := f.dis }
    · obtain ⟨v, hv, hr⟩ := f.slots x sl e
      exact ⟨v, hv, hr.mono le fun _ _ _ e => e⟩
    · obtain ⟨q1, q2, q3⟩ := f.own x sl b e ho
      exact ⟨List.mem_cons_of_mem _ q1, q2, q3⟩

theorem sub_dict {pairs : List (Sem Value × Sem Value)} {Q : List (Key × V) → St → Prop} (hlen : pairs.length ≤ 15) (h : EvK C pairs [] σ Q) (hW : C.W.Ok) {F mine : List Addr} {T : TM} {s : Shared} (hA : Abs C F mine T σ s) :
    wpAny C.M C.A (subDict pairs) (fun d s' => ∃ kvs σ' mine' T', Q kvs σ' ∧ kvs.length = pairs.length ∧ s.heap.get? d = none ∧ d ∉ F ++ mine ∧ (∃ h' tk, s' = { s with heap := h', toks := tk }) ∧ Le (view (F ++ mine) T s) (view ((F ++ [d]) ++ mine') T' s') ∧ (∀ b ∈ F, s'.heap.get? b = s.heap.get? b) ∧
      Abs C (F ++ [d]) mine' T' σ' s' ∧ (∀ x c, C.env.cells.lookup x = some c → c ≠ d) ∧ SlotRep C.W (view ((F ++ [d]) ++ mine') T' s') s'.heap (.dict d (dsets [] kvs)) (.ref d)) C.X s := by
  unfold subDict
  obtain ⟨d, hd⟩ : ∃ d, s.heap.objs.size = d := ⟨_, rfl⟩
  refine wpAny_bind (wpAny_alloc (wpAny_bind (wpAny_holding ?_)))
  rw [if_pos hlen, hd]
  have hn : s.heap.get? d = none := hd ▸ fresh_size _
  have k0 : Kp T s T { s with heap := s.heap.push { cls := .type "dict", data := .dict #[] } } := .push hA.tok (Nat.le_refl _)
  have hd0 : (s.heap.push { cls := .type "dict", data := .dict #[] }).get? d = some { cls := .type "dict", data := .dict #[] } := by rw [← hd]; exact Heap.get?_push_size _ rfl
  obtain ⟨h0, hh0⟩ : ∃ h0, s.heap.push { cls := .type "dict", data := .dict #[] } = h0 := ⟨_, rfl⟩
  rw [hh0] at hd0 k0 ⊢
  obtain ⟨a0, le0, hcd, hdm⟩ := hA.lend k0 hn (by show (h0.get? d).isSome = true; rw [hd0]; rfl)
  have hdF : d ∈ F ++ [d] := by simp
  have hds : (d == sysModules) = false := by
    obtain ⟨o, ho⟩ := Option.isSome_iff_exists.mp hW.sysm
    have := hA.ownOk.kb _ _ ho
    cases q : d == sysModules with
    | false => rfl
    | true => rw [show d = sysModules by simpa using q, this] at hn; cases hn
  refine wpAny_bind (wpAny_mono (evK_pairs pairs [] σ Q h _ _ _ _ a0) ?_ fun _ _ x => x)
  rintro vs s1 ⟨kvs, σ1, m1, T1, hq, p1, a1, r1, hkl⟩
  have hd1 : s1.heap.get? d = some { cls := .type "dict", data := .dict #[] } := (p1.far d hdF).trans hd0
  have hs1 : SlotRep C.W (view ((F ++ [d]) ++ m1) T1 s1) s1.heap (.dict d []) (.ref d) := ⟨rfl, [], [], ⟨hds, _, 0, hd1, ⟨rfl, rfl, rfl⟩, rfl⟩, .nil, List.nodup_nil⟩
  have hsz : ([] : List (Key × V)).length + kvs.length ≤ sizeLine := by rw [sizeLine_eq, List.length_nil, hkl]; omega
  refine wpAny_holding (wpAny_bind (store_all (List.mem_append_left _ hdF) vs kvs [] T1 s1 _ a1.ownOk hs1 r1 hsz fun s2 T2 k2 hs2 => wpAny_pure (wpAny_pure ?_)))
  obtain ⟨p2, a2⟩ := a1.turnF (ex := [d]) k2.same (fun b o hb e => k2.keep b o (by simpa using hb) e) (fun b hb => by rw [List.mem_singleton.mp hb]; exact k2.live) (fun b hb => by rw [List.mem_singleton.mp hb]; exact hdF)
    (fun x c e q => hcd x c e (List.mem_singleton.mp q)) k2.tle k2.tok
  refine ⟨kvs, σ1, m1, T2, by simpa using hq, hkl, hn, hdm, ?_, (le0.trans p1.le).trans p2.le, fun b hb => ?_, a2, hcd, hs2⟩
  · obtain ⟨h1, t1, rfl⟩ := p1.same
    obtain ⟨h2, t2, rfl⟩ := p2.same
    exact ⟨h2, t2, rfl⟩
  · have hbd : b ≠ d := fun q => hdm (by rw [← q]; exact List.mem_append_left _ hb)
    obtain ⟨o, ho⟩ := Option.isSome_iff_exists.mp (hA.live b (List.mem_append_left _ hb))
    rw [ho]
    exact k2.keep b o hbd ((p1.far b (List.mem_append_left _ hb)).trans (k0.keep b o ho))

/-- {k: v, ..} -/
theorem evF_dict {n : Nat} (ok : C.Ok n) {keys : List (Option Expr)} {values : List Expr} {pos : Pos} {pairs : List (Sem Value × Sem Value)} {Q : Slot → St → Prop} (h : EvK C pairs [] σ (fun kvs σ1 => ∀ a, Q (.dict a (dsets [] kvs)) σ1))
    (hshape : (evalEachOpt keys C.env).zip ((evalEach values C.env).map fun v => do let x ← v; standAt pos; pure x) = pairs.map fun p => (some p.1, p.2)) (h0 : pairs ≠ []) (hlen : pairs.length ≤ 15) : EvF C σ (eval (.Dict keys values pos) C.env) Q := by
  refine EvF.intro' fun F mine T s QQ fin hA => ?_
  rw [arm_eval_Dict, hshape, dictDisplay_pairs pairs h0 (by omega)]
  refine wpAny_bind (wpAny_standAt (wpAny_bind (wpAny_mono (sub_dict hlen h ok.W hA) ?_ fun _ _ x => x)))
  rintro d s1 ⟨kvs, σ1, m1, T1, hq, hkl, hn, hdm, same, le, far, a1, hcd, hs1⟩
  obtain ⟨a2, hdm1, le2⟩ := a1.adopt (fun q => hdm (List.mem_append_left _ q)) hcd
  exact wpAny_pure (fin _ _ (.dict d (dsets [] kvs)) σ1 m1 d T1 (hq d) rfl ⟨same, le.trans le2, far⟩ hdm1 a2 (hs1.mono le2 fun _ _ _ e => e))

theorem evF_dict0 {n : Nat} (ok : C.Ok n) {pos : Pos} {Q : Slot → St → Prop} (h : ∀ a, Q (.dict a []) σ) : EvF C σ (eval (.Dict [] [] pos) C.env) Q := by
  refine EvF.prim fun own T s hO => wpAny_Dict_empty ?_
  have hn := fresh_size s.heap
  have hds : (s.heap.objs.size == sysModules) = false := by
    obtain ⟨o, ho⟩ := Option.isSome_iff_exists.mp ok.W.sysm
    have := hO.kb _ _ ho
    cases q : s.heap.objs.size == sysModules with
    | false => rfl
    | true => rw [show s.heap.objs.size = sysModules by simpa using q, this] at hn; cases hn
  exact ⟨.dict s.heap.objs.size [], T, s.heap.objs.size, h _, rfl, .push hO.tok (Nat.le_refl _), hn, by rw [Heap.get?_push_size _ rfl]; rfl, rfl, [], [], ⟨hds, _, 0, Heap.get?_push_size _ rfl, ⟨rfl, rfl, rfl⟩, rfl⟩, .nil, List.nodup_nil⟩
end
end Sx
end
section
open PySem PySem.W PyProof.Rows PySem.Calls
set_option linter.unusedVariables false
set_option Elab.async false
set_option maxRecDepth 100000
namespace Sx

section
variable {C : Cx} {σ : St}
theorem evT_stand {e : Expr} {pos : Pos} {Q : V → St → Prop} (h : Ev C σ e Q) : EvT C σ (do let x ← eval e C.env; standAt pos; pure x) Q :=
  fun F mine T s hA => wpAny_bind (wpAny_mono (h F mine T s hA) (fun v s' h' => wpAny_bind (wpAny_standAt (wpAny_pure h'))) fun _ _ x => x)
end
end Sx
end
section
open PySem PySem.W PyProof.Rows PySem.Calls
set_option linter.unusedVariables false
set_option Elab.async false
set_option maxRecDepth 100000
namespace Sx
open Builtin.Str StrLaws

/-! ## texts, in plain Lean -/
/-- where y begins, from place i on, the next k places being taken -/
noncomputable def occR (y : S) : Nat → Nat → S → List Nat
  | i, 0, [] => if y = [] then [i] else []
  | i, _ + 1, [] => []
  | i, k + 1, _ :: r => occR y (i + 1) k r
  | i, 0, c :: r => if y.isPrefixOf (c :: r) then i :: occR y (i + 1) (y.length - 1) r else occR y (i + 1) 0 r

/-- all y by z, y not empty -/
noncomputable def replK (y z : S) : Nat → S → S
  | _, [] => []
  | k + 1, _ :: r => replK y z k r
  | 0, c :: r => if y.isPrefixOf (c :: r) then z ++ replK y z (y.length - 1) r else c :: replK y z 0 r
noncomputable def replE (z : S) (x : S) : S := z ++ x.flatMap fun c => c :: z
noncomputable def repl (y z x : S) : S := if y = [] then replE z x else replK y z 0 x

theorem occR_0 {y : S} {i c : Nat} {r : S} : occR y i 0 (c :: r) = if y.isPrefixOf (c :: r) then i :: occR y (i + 1) (y.length - 1) r else occR y (i + 1) 0 r := by rw [occR]
theorem replK_0 {y z : S} {c : Nat} {r : S} : replK y z 0 (c :: r) = if y.isPrefixOf (c :: r) then z ++ replK y z (y.length - 1) r else c :: replK y z 0 r := by rw [replK]

theorem isPrefixOf_take {y x : S} : y.isPrefixOf x = (decide (y.length ≤ x.length) && (x.take y.length == y)) := by
  rw [Bool.eq_iff_iff, Bool.and_eq_true, decide_eq_true_iff, beq_iff_eq, List.isPrefixOf_iff_prefix]
  constructor
  · intro h
    exact ⟨h.length_le, (List.prefix_iff_eq_take.mp h).symm⟩
  · rintro ⟨h1, h2⟩
    exact List.prefix_iff_eq_take.mpr h2.symm

theorem mkS_length (l : S) : (mkS l).length = l.length := by simp [mkS, Str.length]

theorem prefix_at {x y : S} (i : Nat) (hi : i ≤ x.length) : y.isPrefixOf (x.drop i) = (decide (i + y.length ≤ x.length) && subAt (mkS x) (mkS y) i) := by
  rw [isPrefixOf_take, subAt_eq]
  simp only [mkS_cps, mkS_length, List.length_drop]
  congr 1
  rw [decide_eq_decide]; omega

theorem drop_cons {x : S} {i : Nat} {c : Nat} {r : S} (hx : x.drop i = c :: r) : i < x.length ∧ x.drop (i + 1) = r := by
  constructor
  · have := congrArg List.length hx
    simp at this; omega
  · rw [← List.tail_drop, hx]; rfl

theorem occ_go (x y : S) (limit : Nat) : ∀ (m i : Nat) (found : Array Nat) (k free : Nat), i + m = x.length + 1 → found.size ≤ i → (y = [] → k = 0) → x.length < limit → ((k = 0 ∧ free ≤ i) ∨ (0 < k ∧ free = i + k)) →
    (forIn (m := Id) (List.range' i m) (found, free) (occBody (mkS x) (mkS y) x.length limit)).run.fst.toList = found.toList ++ (if m = 0 then [] else occR y i k (x.drop i))
  | 0, i, found, k, free, h, hf, hk, hl, hfr => by simp
  | m + 1, i, found, k, free, h, hf, hk, hl, hfr => by
    rw [List.range'_succ, List.forIn_cons, if_neg (by omega)]
    have hi : i ≤ x.length := by omega
    have hpre := prefix_at (x := x) (y := y) i hi
    unfold occBody
    have ih := fun found k free => occ_go x y limit m (i + 1) found k free (by omega)
    cases k with
    | succ k =>
      have hne : y ≠ [] := fun e => by have := hk e; omega
      have hfree : free = i + (k + 1) := by omega
      rw [if_neg (fun c => by have := c.1.1.2; dsimp only at this; omega)]
      show (forIn (m := Id) (List.range' (i + 1) m) (found, free) (occBody (mkS x) (mkS y) x.length limit)).run.fst.toList = _
      rw [ih found k free (by omega) (fun e => absurd e hne) hl (by omega)]
      congr 1
      cases hx : x.drop i with
      | nil =>
        have : x.length ≤ i := List.drop_eq_nil_iff.mp hx
        rw [if_pos (by omega)]
        simp [occR]
      | cons c r =>
        obtain ⟨h1, h2⟩ := drop_cons hx
        rw [if_neg (by omega), h2]
        rfl
    | zero =>
      have hfree : free ≤ i := by omega
      by_cases hp : y.isPrefixOf (x.drop i) = true
      · have h2 := hpre ▸ hp
        rw [Bool.and_eq_true, decide_eq_true_iff] at h2
        rw [if_pos ⟨⟨⟨by dsimp only; omega, hfree⟩, by rw [mkS_length]; exact h2.1⟩, h2.2⟩]
        show (forIn (m := Id) (List.range' (i + 1) m) (found.push i, i + (mkS y).length) (occBody (mkS x) (mkS y) x.length limit)).run.fst.toList = _
        rw [mkS_length]
        have hcase : ((y.length - 1 = 0 ∧ i + y.length ≤ i + 1) ∨ (0 < y.length - 1 ∧ i + y.length = (i + 1) + (y.length - 1))) := by omega
        rw [ih _ (y.length - 1) _ (by rw [Array.size_push]; omega) (fun e => by subst e; rfl) hl hcase, Array.toList_push, List.append_assoc]
        congr 1
        cases hx : x.drop i with
        | nil =>
          have : x.length ≤ i := List.drop_eq_nil_iff.mp hx
          have hm : m = 0 := by omega
          have hy : y = [] := by rw [hx] at hp; cases y with | nil => rfl | cons => simp at hp
          rw [if_pos hm]; simp [occR, hy]
        | cons c r =>
          obtain ⟨h1, h2⟩ := drop_cons hx
          rw [if_neg (by omega), h2]
          rw [hx] at hp
          rw [occR_0, if_pos hp]; rfl
      · have hp' : y.isPrefixOf (x.drop i) = false := Bool.eq_false_iff.mpr hp
        have h2 := hpre ▸ hp'
        rw [if_neg (fun c => by
          have e : (decide (i + y.length ≤ x.length) && subAt (mkS x) (mkS y) i) = true := by
            rw [Bool.and_eq_true, decide_eq_true_iff]; exact ⟨by have := c.1.2; rw [mkS_length] at this; exact this, c.2⟩
          rw [e] at h2; cases h2)]
        show (forIn (m := Id) (List.range' (i + 1) m) (found, free) (occBody (mkS x) (mkS y) x.length limit)).run.fst.toList = _
        rw [ih found 0 free (by omega) (fun e => rfl) hl (by omega)]
        congr 1
        have hne : y ≠ [] := fun e => by rw [e] at hp; exact hp rfl
        cases hx : x.drop i with
        | nil =>
          have : x.length ≤ i := List.drop_eq_nil_iff.mp hx
          rw [if_pos (by omega)]; simp [occR, hne]
        | cons c r =>
          obtain ⟨h1, h2⟩ := drop_cons hx
          rw [if_neg (by omega), h2]
          rw [hx] at hp
          rw [occR_0, if_neg hp]

theorem occ_all (x y : S) : occurrences (mkS x) (mkS y) 0 (mkS x).length ((mkS x).length + 1) = occR y 0 0 x := by
  rw [occ_eq, mkS_length]
  have := occ_go x y (x.length + 1) (x.length + 1) 0 #[] 0 0 (by omega) (by simp) (fun _ => rfl) (by omega) (.inl ⟨rfl, Nat.le_refl _⟩)
  simpa using this

theorem sub_S (x : S) (i j : Nat) : strSub (mkS x) i j = mkS ((x.drop i).take (j - i)) := by
  apply Str.ext'
  apply Array.toList_inj.mp
  rw [strSub_toList]
  simp
theorem app_S (a b : S) : mkS a ++ mkS b = mkS (a ++ b) := by
  apply Str.ext'
  rw [Str.cps_append]
  simp [mkS]

theorem parts_go (X y z : S) : ∀ (l : S) (i k a : Nat), X.drop i = l → i ≤ X.length → a ≤ i + k → (0 < k → a = i + k) → (y = [] → k = 0) →
    Str.join (mkS z) (partsFrom (mkS X) y.length a (occR y i k l)) = mkS ((X.drop a).take (i - a) ++ (if y = [] then (if k = 0 then z ++ l.flatMap (fun c => c :: z) else []) else replK y z k l))
  | [], i, k, a, hx, hi, ha, hk, hy => by
    have hlen : X.length ≤ i := List.drop_eq_nil_iff.mp hx
    have hie : i = X.length := by omega
    cases k with
    | zero =>
      by_cases he : y = []
      · subst he
        simp only [occR, if_pos, partsFrom]
        show strSub (mkS X) a i ++ mkS z ++ strSub (mkS X) (i + 0) (mkS X).length = _
        rw [sub_S, sub_S, app_S, app_S, mkS_length]
        congr 1
        rw [hie]; simp
      · simp only [occR, if_neg he, partsFrom]
        show strSub (mkS X) a (mkS X).length = _
        rw [sub_S, mkS_length, hie]; simp [replK]
    | succ k =>
      have he : y ≠ [] := fun e => by have := hy e; omega
      simp only [occR, if_neg he, partsFrom]
      show strSub (mkS X) a (mkS X).length = _
      rw [sub_S, mkS_length]
      have := hk (by omega)
      have e1 : X.drop a = [] := List.drop_eq_nil_iff.mpr (by omega)
      rw [e1]; simp [replK]
  | c :: r, i, k, a, hx, hi, ha, hk, hy => by
    obtain ⟨h1, h2⟩ := drop_cons hx
    cases k with
    | succ k =>
      have he : y ≠ [] := fun e => by have := hy e; omega
      have hae := hk (by omega)
      have ih := parts_go X y z r (i + 1) k a h2 (by omega) (by omega) (by omega) (fun e => absurd e he)
      simp only [occR]
      rw [ih, if_neg he, if_neg he]
      have e1 : i + 1 - a = 0 := by omega
      have e2 : i - a = 0 := by omega
      rw [e1, e2]; simp [replK]
    | zero =>
      by_cases hp : y.isPrefixOf (c :: r) = true
      · have hl : y.length ≤ (c :: r).length := (List.isPrefixOf_iff_prefix.mp hp).length_le
        have hXl : (c :: r).length = X.length - i := by rw [← hx, List.length_drop]
        have ih := parts_go X y z r (i + 1) (y.length - 1) (i + y.length) h2 (by omega) (by omega) (by omega) (fun e => by subst e; rfl)
        rw [occR_0, if_pos hp]
        obtain ⟨p, q, e⟩ := partsFrom_ne (mkS X) y.length (i + y.length) (occR y (i + 1) (y.length - 1) r)
        unfold partsFrom
        rw [e] at ih ⊢
        show strSub (mkS X) a i ++ mkS z ++ Str.join (mkS z) (p :: q) = _
        rw [ih, sub_S, app_S, app_S]
        congr 1
        by_cases he : y = []
        · subst he
          simp only [List.length_nil, Nat.zero_sub, if_true, Nat.add_zero]
          have e3 : (X.drop i).take (i + 1 - i) = [c] := by rw [hx]; simp
          rw [e3]; simp
        · have hyl : 0 < y.length := List.length_pos_iff.mpr he
          rw [if_neg he, if_neg he]
          have e3 : i + 1 - (i + y.length) = 0 := by omega
          rw [e3]
          simp only [replK, hp, if_true, List.take_zero, List.nil_append, List.append_assoc]
      · have hne : y ≠ [] := fun e => by rw [e] at hp; exact hp rfl
        have ih := parts_go X y z r (i + 1) 0 a h2 (by omega) (by omega) (by omega) (fun _ => rfl)
        rw [occR_0, if_neg hp, ih, if_neg hne, if_neg hne]
        congr 1
        have e3 : i + 1 - a = (i - a) + 1 := by omega
        have e4 : (X.drop a).take (i - a + 1) = (X.drop a).take (i - a) ++ [c] := by
          rw [List.take_add_one, List.getElem?_drop, show a + (i - a) = i by omega]
          have : X[i]? = some c := by
            have := congrArg List.head? hx
            rwa [List.head?_drop] at this
          rw [this]; rfl
        rw [e3, e4]
        rw [replK_0, if_neg hp]
        simp

theorem replK_none {y z : S} (hy : y ≠ []) : ∀ (l : S) (i k : Nat), occR y i k l = [] → replK y z k l = l.drop k
  | [], i, k, h => by simp [replK]
  | c :: r, i, k + 1, h => by
    simp only [occR] at h
    simp only [replK, List.drop_succ_cons]
    exact replK_none hy r (i + 1) k h
  | c :: r, i, 0, h => by
    rw [occR_0] at h
    rw [replK_0]
    by_cases hp : y.isPrefixOf (c :: r) = true
    · rw [if_pos hp] at h; cases h
    · rw [if_neg hp] at h ⊢
      rw [replK_none hy r (i + 1) 0 h]; rfl

theorem replace_S (x y z : S) : Txt.replace (mkS x) (mkS y) (mkS z) = mkS (repl y z x) := by
  unfold Txt.replace
  rw [occ_all, mkS_length, mkS_length]
  by_cases h : ((occR y 0 0 x).isEmpty || (y.length == 0 && z.length == 0)) = true
  · rw [if_pos h]
    congr 1
    unfold repl
    by_cases hy : y = []
    · subst hy
      rw [if_pos rfl]
      rcases Bool.or_eq_true_iff.mp h with h | h
      · cases x with
        | nil => simp [occR] at h
        | cons c r => rw [occR_0] at h; simp at h
      · have hz : z = [] := by simpa using h
        subst hz
        simp [replE]
    · rw [if_neg hy]
      rcases Bool.or_eq_true_iff.mp h with h | h
      · have := replK_none (z := z) hy x 0 0 (by simpa using h)
        simpa using this.symm
      · simp [hy] at h
  · rw [if_neg h, glued_eq_join, partsBetween_eq, parts_go x y z x 0 0 0 rfl (Nat.zero_le _) (Nat.zero_le _) (fun h => absurd h (Nat.lt_irrefl _)) (fun _ => rfl)]
    unfold repl replE
    by_cases hy : y = []
    · simp [hy]
    · simp [hy]
end Sx
end
section
open PySem PySem.W PyProof.Rows PySem.Calls
set_option linter.unusedVariables false
set_option Elab.async false
set_option maxRecDepth 100000
namespace Sx

/-! ## slices -/
noncomputable def clp (n : Nat) (i : Int) : Nat := if i < 0 then (i + n).toNat else min i.toNat n
noncomputable def slc {α : Type} (lo hi : Option Int) (l : List α) : List α := (l.drop (match lo with | none => 0 | some i => clp l.length i)).take ((match hi with | none => l.length | some i => clp l.length i) - (match lo with | none => 0 | some i => clp l.length i))

theorem clp_le (n : Nat) (i : Int) : clp n i ≤ n := by unfold clp; split <;> omega
theorem clip_eq (n : Nat) (i : Int) : max (0 : Int) (min (if i < 0 then i + n else i) n) = (clp n i : Int) := by unfold clp; split <;> omega

theorem picks_any {α : Type} (l : List α) (a b : Nat) (hb : b ≤ l.length) : ((sliceRange a b 1).filterMap (l[·]?)) = (l.drop a).take (b - a) := by
  unfold sliceRange
  by_cases h : (a : Int) < b
  · have e : (((b : Int) - a + 1 - 1) / 1).toNat = b - a := by rw [Int.ediv_one]; omega
    simp only [show ((1 : Int) > 0) = True from by simp, if_true, h, e]
    have := StrLaws.picks l (b - a) a (by omega)
    rw [← this]
    congr 1
    refine List.map_congr_left fun k _ => ?_
    omega
  · have e : b - a = 0 := by omega
    simp only [show ((1 : Int) > 0) = True from by simp, if_true, h, if_false, e]
    simp
theorem slc_str (x : S) (lo hi : Option Int) : (Builtin.Str.strSliceIndices lo hi 1 x.length).filterMap (x[·]?) = slc lo hi x := by
  have key : ∀ a b : Nat, b ≤ x.length → (sliceRange (a : Int) (b : Int) 1).filterMap (x[·]?) = (x.drop a).take (b - a) := fun a b hb => picks_any x a b hb
  unfold Builtin.Str.strSliceIndices slc
  simp only [show ((1 : Int) > 0) = True from by simp, if_true]
  cases lo with
  | none => cases hi with
    | none => exact key 0 x.length (Nat.le_refl _)
    | some j => simp only [clip_eq]; exact key 0 _ (clp_le _ _)
  | some i => cases hi with
    | none => simp only [clip_eq]; exact key _ x.length (Nat.le_refl _)
    | some j => simp only [clip_eq]; exact key _ _ (clp_le _ _)
theorem range_len {α : Type} (l : List α) (a b : Nat) (hb : b ≤ l.length) : (sliceRange a b 1).length = ((l.drop a).take (b - a)).length := by
  unfold sliceRange
  rw [List.length_map, List.length_range, List.length_take, List.length_drop]
  by_cases h : (a : Int) < b
  · have e : (((b : Int) - a + 1 - 1) / 1).toNat = b - a := by rw [Int.ediv_one]; omega
    simp only [show ((1 : Int) > 0) = True from by simp, if_true, h, e]
    omega
  · simp only [show ((1 : Int) > 0) = True from by simp, if_true, h, if_false]
    show 0 = _
    omega
theorem slc_str_len (x : S) (lo hi : Option Int) : (Builtin.Str.strSliceIndices lo hi 1 x.length).length = (slc lo hi x).length := by
  have key : ∀ a b : Nat, b ≤ x.length → (sliceRange (a : Int) (b : Int) 1).length = ((x.drop a).take (b - a)).length := fun a b hb => range_len x a b hb
  unfold Builtin.Str.strSliceIndices slc
  simp only [show ((1 : Int) > 0) = True from by simp, if_true]
  cases lo with
  | none => cases hi with
    | none => exact key 0 x.length (Nat.le_refl _)
    | some j => simp only [clip_eq]; exact key 0 _ (clp_le _ _)
  | some i => cases hi with
    | none => simp only [clip_eq]; exact key _ x.length (Nat.le_refl _)
    | some j => simp only [clip_eq]; exact key _ _ (clp_le _ _)
theorem slc_whole {α : Type} (x : List α) (lo hi : Option Int) (h : (slc lo hi x).length = x.length) : slc lo hi x = x := by
  have hs : List.Sublist (slc lo hi x) x := by unfold slc; exact (List.take_sublist _ _).trans (List.drop_sublist _ _)
  exact hs.eq_of_length h
theorem slc_list (ws : List Value) (lo hi : Option Int) : slicePick ws.toArray lo hi none = (slc lo hi ws).toArray := by
  unfold slicePick sliceBounds slc
  simp only [Option.getD_none, show ((1 : Int) > 0) = True from by simp, if_true, List.size_toArray, List.getElem?_toArray]
  cases lo with
  | none => cases hi with
    | none => rw [← picks_any ws 0 ws.length (Nat.le_refl _)]; rfl
    | some j => simp only [clip_eq]; rw [← picks_any ws 0 _ (clp_le _ _)]; rfl
  | some i => cases hi with
    | none => simp only [clip_eq]; rw [← picks_any ws _ ws.length (Nat.le_refl _)]
    | some j => simp only [clip_eq]; rw [← picks_any ws _ _ (clp_le _ _)]
theorem slc_length {α : Type} (lo hi : Option Int) (x : List α) : (slc lo hi x).length ≤ x.length := by unfold slc; simp; omega
theorem RepL.slc {W : Wd} {g : PH} {vs : List V} {ws : List Value} (h : RepL W g vs ws) (lo hi : Option Int) : RepL W g (Sx.slc lo hi vs) (Sx.slc lo hi ws) := by
  unfold Sx.slc
  rw [h.length]
  exact (h.drop _).take _

section
variable {C : Cx} {σ : St}

noncomputable def EvP (C : Cx) (σ : St) (e : Option Expr) (Q : Option Int → St → Prop) : Prop := match e with
  | none => Q none σ
  | some e => Ev C σ e (fun v σ1 => ∃ i, v = .int i ∧ Q (some i) σ1)

theorem evP_run {e : Option Expr} {Q : Option Int → St → Prop} (h : EvP C σ e Q) {F mine : List Addr} {T : TM} {s : Shared} (hA : Abs C F mine T σ s) :
    wpAny C.M C.A (evalPart e C.env) (fun v s' => ∃ p σ' mine' T', Q (p.map (·.1)) σ' ∧ v = partValue p ∧ Post F mine T s mine' T' s' ∧ Abs C F mine' T' σ' s') C.X s := by
  cases e with
  | none => exact wpAny_evalPart_none ⟨none, σ, mine, T, h, rfl, .refl _ _ _ _, hA⟩
  | some e =>
    refine wpAny_evalPart_some (wpAny_mono (h F mine T s hA) ?_ fun _ _ x => x)
    rintro v s1 ⟨_, σ1, m1, T1, ⟨i, rfl, hq⟩, p1, a1, r1⟩
    cases r1
    rename_i t
    exact ⟨some (i, t), σ1, m1, T1, hq, rfl, p1, a1⟩

theorem slice_made {own : List Addr} {T : TM} {s : Shared} {l : S} {t : Tok} {lo hi : Option (Int × Tok)} {K : V → Prop} (hO : OwnOk C own T s) (ht : T t = some l) (hl : l.length ≤ sizeLine) (h : K (.str (slc (lo.map (·.1)) (hi.map (·.1)) l))) {s0 : Shared} {T0 : TM} (hk : Kp T0 s0 T s)
    {Q : Value → Shared → Prop} (hQ : ∀ v s', Out own T0 s0 (Rep C.W) K v s' → Q v s') : (sliceMade (mkS l) t lo hi none).post Q s := by
  have e1 : (slicePicked (mkS l) lo hi none).filterMap ((mkS l).cps[·]?) = slc (lo.map (·.1)) (hi.map (·.1)) l := by
    rw [← slc_str]
    unfold slicePicked
    rw [mkS_length]
    simp [mkS]
  have hlen : (slicePicked (mkS l) lo hi none).length = (slc (lo.map (·.1)) (hi.map (·.1)) l).length := by
    rw [← slc_str_len]
    unfold slicePicked
    rw [mkS_length]; rfl
  unfold sliceMade
  by_cases hc : (((none : Option (Int × Tok)).map (·.1)).getD 1 == 1 && (slicePicked (mkS l) lo hi none).length == (mkS l).length) = true
  · rw [if_pos hc]
    have h2 : (slc (lo.map (·.1)) (hi.map (·.1)) l).length = l.length := by
      rw [← hlen]
      have := (Bool.and_eq_true _ _ ▸ hc).2
      rw [mkS_length] at this
      simpa using this
    have h3 := slc_whole l _ _ h2
    exact hQ _ _ ⟨_, T, h, hk, by rw [h3]; exact .str ht⟩
  · rw [if_neg hc, e1]
    refine ⟨by show (mkS _).length ≤ sizeLine; rw [mkS_length]; exact Nat.le_trans (slc_length _ _ _) hl, hQ _ _ ⟨_, _, h, hk.trans (.str (h' := s.heap) hO.tok fun _ _ e => e), .str TM.upd_self⟩⟩

theorem isPart_of (p : Option (Int × Tok)) : IsPart (partValue p) (p.map (·.1)) := by
  cases p with
  | none => exact .none
  | some x => obtain ⟨i, t⟩ := x; exact .int i t

/-- l[lo:hi], a list: a new one -/
theorem evF_slice_list {value : Expr} {lower upper : Option Expr} {p pos : Pos} {Q : Slot → St → Prop}
    (h : Ev C σ value (fun a σ1 => ∃ l, a = .lst l ∧ l.length ≤ sizeLine ∧ EvP C σ1 lower (fun lo σ2 => EvP C σ2 upper (fun hi σ3 => ∀ a, Q (.list a (slc lo hi l)) σ3))))
    (ht : ∀ o r, letTemporaryGo value o r = pure () := by intro _ _; rfl) : EvF C σ (eval (.Subscript value (.Slice lower upper none p) pos) C.env) Q := by
  intro F mine T s hA
  refine wpAny_Subscript_list_slice (wpAny_mono (h F mine T s hA) ?_ fun _ _ x => x) ht
  rintro va s1 ⟨_, σ1, m1, T1, ⟨l, rfl, hl, hlo⟩, p1, a1, r1⟩
  refine wpAny_mono (evP_run hlo a1) ?_ fun _ _ x => x
  rintro vl s2 ⟨lo, σ2, m2, T2, hhi, rfl, p2, a2⟩
  refine wpAny_mono (evP_run hhi a2) ?_ fun _ _ x => x
  rintro vu s3 ⟨hi, σ3, m3, T3, hq, rfl, p3, a3⟩
  cases r1.mono (p2.le.trans p3.le) with
  | @lst a o _ ws n h1 h2 h3 h4 r =>
  refine ⟨a, ws.toArray, lo.map (·.1), hi.map (·.1), rfl, ⟨o, view_of h1, h2, n, h4⟩, by rw [List.size_toArray, r.length]; exact hl, isPart_of lo, isPart_of hi, ?_⟩
  rw [slc_list]
  have k1 : Kp T3 s3 T3 { s3 with heap := s3.heap.push { cls := .type "slice", data := .fields #[partValue lo, partValue hi, .none] } } := .push a3.tok (Nat.le_refl _)
  obtain ⟨h1', hh1⟩ : ∃ h1', s3.heap.push { cls := .type "slice", data := .fields #[partValue lo, partValue hi, .none] } = h1' := ⟨_, rfl⟩
  have hz : s3.heap.objs.size + 1 = h1'.objs.size := by rw [← hh1, Heap.size_push]
  rw [hh1] at k1 ⊢
  rw [hz]
  have k2 : Kp T3 { s3 with heap := h1' } T3 { s3 with heap := h1'.push { cls := .type "list", data := .seq (slc (lo.map (·.1)) (hi.map (·.1)) ws).toArray } } := Kp.push (s := { s3 with heap := h1' }) (tk := s3.toks) k1.tok (Nat.le_refl _)
  have hn : s3.heap.get? h1'.objs.size = none := get_ge (by omega)
  have k12 := k1.trans k2
  obtain ⟨p4, hm, a4, le⟩ := a3.new k12 hn (by show ((h1'.push _).get? h1'.objs.size).isSome = true; rw [Heap.get?_push_size _ rfl]; rfl)
  refine ⟨.list h1'.objs.size (slc (lo.map (·.1)) (hi.map (·.1)) l), σ3, m3, h1'.objs.size, T3, hq _, rfl, (p1.trans (p2.trans p3)).trans p4, hm, a4, rfl, _, ⟨0, Heap.get?_push_size _ rfl⟩, ?_⟩
  exact (r.slc _ _).mono p4.le
end
end Sx
end
section
open PySem PySem.W PyProof.Rows PySem.Calls
set_option linter.unusedVariables false
set_option Elab.async false
set_option maxRecDepth 100000
namespace Sx

section
variable {C : Cx}
/-! ## numbers -/
theorem op_add_int {a b : Int} {K : V → Prop} (h : K (.int (a + b))) : Op2 C (Rep C.W) (binaryOp .Add) (.int a) (.int b) K := fun own T s va vb hO ra rb => by
  obtain ⟨_, rfl⟩ := ra.int_inv; obtain ⟨_, rfl⟩ := rb.int_inv; exact PyProof.Rows.add_int (.int hO.tok h (Nat.le_succ _))
theorem op_sub_int {a b : Int} {K : V → Prop} (h : K (.int (a - b))) : Op2 C (Rep C.W) (binaryOp .Sub) (.int a) (.int b) K := fun own T s va vb hO ra rb => by
  obtain ⟨_, rfl⟩ := ra.int_inv; obtain ⟨_, rfl⟩ := rb.int_inv; exact PyProof.Rows.sub_int' (.int hO.tok h (Nat.le_succ _))
theorem op_iadd_int {a b : Int} {K : V → Prop} (h : K (.int (a + b))) : Op2 C (Rep C.W) (inplaceOp .Add) (.int a) (.int b) K := fun own T s va vb hO ra rb => by
  obtain ⟨_, rfl⟩ := ra.int_inv; obtain ⟨_, rfl⟩ := rb.int_inv; exact PySem.P.iadd_int (.int hO.tok h (Nat.le_succ _))
theorem op_mod_int {a b : Int} {K : V → Prop} (hb : b ≠ 0) (h : K (.int (a.fmod b))) : Op2 C (Rep C.W) (binaryOp .Mod) (.int a) (.int b) K := fun own T s va vb hO ra rb => by
  obtain ⟨_, rfl⟩ := ra.int_inv; obtain ⟨_, rfl⟩ := rb.int_inv; exact PyProof.Rows.mod_int' hb (.int hO.tok h (Nat.le_succ _))
theorem op_div_int {a b : Int} {K : V → Prop} (hb : b ≠ 0) (hs : Builtin.divisionGoesByPylong a b = false) (h : K (.int (a.fdiv b))) : Op2 C (Rep C.W) (binaryOp .FloorDiv) (.int a) (.int b) K := fun own T s va vb hO ra rb => by
  obtain ⟨_, rfl⟩ := ra.int_inv; obtain ⟨_, rfl⟩ := rb.int_inv; exact PyProof.Rows.floordiv_int hb (.int hO.tok h (Nat.le_succ _)) (.inl hs)
theorem op_eq_int {a b : Int} {K : V → Prop} (h : K (.bool (a == b))) : Op2 C (Rep C.W) (compareOp .Eq) (.int a) (.int b) K := fun own T s va vb hO ra rb => by
  obtain ⟨_, rfl⟩ := ra.int_inv; obtain ⟨_, rfl⟩ := rb.int_inv; exact PySem.P.eq_int (.same hO.tok h (.bool _))
theorem op_ne_int {a b : Int} {K : V → Prop} (h : K (.bool (a != b))) : Op2 C (Rep C.W) (compareOp .NotEq) (.int a) (.int b) K := fun own T s va vb hO ra rb => by
  obtain ⟨_, rfl⟩ := ra.int_inv; obtain ⟨_, rfl⟩ := rb.int_inv; exact PySem.P.ne_int (.same hO.tok h (.bool _))
theorem op_lt_int {a b : Int} {K : V → Prop} (h : K (.bool (decide (a < b)))) : Op2 C (Rep C.W) (compareOp .Lt) (.int a) (.int b) K := fun own T s va vb hO ra rb => by
  obtain ⟨_, rfl⟩ := ra.int_inv; obtain ⟨_, rfl⟩ := rb.int_inv; exact PySem.P.lt_int (.same hO.tok h (.bool _))
theorem op_le_int {a b : Int} {K : V → Prop} (h : K (.bool (decide (a ≤ b)))) : Op2 C (Rep C.W) (compareOp .LtE) (.int a) (.int b) K := fun own T s va vb hO ra rb => by
  obtain ⟨_, rfl⟩ := ra.int_inv; obtain ⟨_, rfl⟩ := rb.int_inv; exact PySem.P.le_int (.same hO.tok h (.bool _))
theorem op_gt_int {a b : Int} {K : V → Prop} (h : K (.bool (decide (a > b)))) : Op2 C (Rep C.W) (compareOp .Gt) (.int a) (.int b) K := fun own T s va vb hO ra rb => by
  obtain ⟨_, rfl⟩ := ra.int_inv; obtain ⟨_, rfl⟩ := rb.int_inv; exact PySem.P.gt_int (.same hO.tok h (.bool _))
theorem op_ge_int {a b : Int} {K : V → Prop} (h : K (.bool (decide (a ≥ b)))) : Op2 C (Rep C.W) (compareOp .GtE) (.int a) (.int b) K := fun own T s va vb hO ra rb => by
  obtain ⟨_, rfl⟩ := ra.int_inv; obtain ⟨_, rfl⟩ := rb.int_inv; exact PySem.P.ge_int (.same hO.tok h (.bool _))

/-! ## texts -/
theorem op_eq_str {a b : S} {K : V → Prop} (h : K (.bool (decide (a = b)))) : Op2 C (Rep C.W) (compareOp .Eq) (.str a) (.str b) K := fun own T s va vb hO ra rb => by
  obtain ⟨_, rfl, _⟩ := ra.str_inv; obtain ⟨_, rfl, _⟩ := rb.str_inv
  refine PySem.P.eq_str (.same hO.tok h ?_)
  have e : ((mkS a).cps.toList == (mkS b).cps.toList) = decide (a = b) := by rw [Bool.eq_iff_iff]; simp
  rw [e]; exact .bool _
theorem op_ne_str {a b : S} {K : V → Prop} (h : K (.bool (!decide (a = b)))) : Op2 C (Rep C.W) (compareOp .NotEq) (.str a) (.str b) K := fun own T s va vb hO ra rb => by
  obtain ⟨_, rfl, _⟩ := ra.str_inv; obtain ⟨_, rfl, _⟩ := rb.str_inv
  refine PySem.P.ne_str (.same hO.tok h ?_)
  have e : ((mkS a).cps.toList != (mkS b).cps.toList) = !decide (a = b) := by rw [Bool.eq_iff_iff]; simp
  rw [e]; exact .bool _
theorem add_made {own : List Addr} {T : TM} {s : Shared} {a b : S} {t u : Tok} {K : V → Prop} (hO : OwnOk C own T s) (ha : T t = some a) (hb : T u = some b) (hl : a.length + b.length ≤ sizeLine) (h : K (.str (a ++ b))) :
    (if (mkS a).length == 0 then Made.val (.str (mkS b) u) else if (mkS b).length == 0 then Made.val (.str (mkS a) t) else Made.str (mkS a ++ mkS b)).post (Out own T s (Rep C.W) K) s := by
  rw [mkS_length, mkS_length]
  by_cases h1 : (a.length == 0) = true
  · rw [if_pos h1]
    have : a = [] := by simpa using h1
    subst this
    exact .same hO.tok h (.str hb)
  · rw [if_neg h1]
    by_cases h2 : (b.length == 0) = true
    · rw [if_pos h2]
      have : b = [] := by simpa using h2
      subst this
      rw [List.append_nil] at h
      exact .same hO.tok h (.str ha)
    · rw [if_neg h2, app_S]
      exact ⟨by show (mkS _).length ≤ sizeLine; rw [mkS_length, List.length_append]; exact hl, .strNew hO.tok h⟩
theorem op_add_str {a b : S} {K : V → Prop} (hl : a.length + b.length ≤ sizeLine) (h : K (.str (a ++ b))) : Op2 C (Rep C.W) (binaryOp .Add) (.str a) (.str b) K := fun own T s va vb hO ra rb => by
  obtain ⟨_, rfl, _⟩ := ra.str_inv; obtain ⟨_, rfl, _⟩ := rb.str_inv; rename_i t ht u hu
  exact PySem.P.add_str (add_made hO ht hu hl h)
theorem op_iadd_str {a b : S} {K : V → Prop} (hl : a.length + b.length ≤ sizeLine) (h : K (.str (a ++ b))) : Op2 C (Rep C.W) (inplaceOp .Add) (.str a) (.str b) K := fun own T s va vb hO ra rb => by
  obtain ⟨_, rfl, _⟩ := ra.str_inv; obtain ⟨_, rfl, _⟩ := rb.str_inv; rename_i t ht u hu
  exact PySem.P.iadd_str (add_made hO ht hu hl h)

/-- y somewhere in x -/
noncomputable def hasSub (y : S) : S → Bool
  | [] => y.isEmpty
  | c :: r => y.isPrefixOf (c :: r) || hasSub y r
theorem hasSub_iff (y x : S) : hasSub y x = true ↔ ∃ i, i ≤ x.length ∧ y.isPrefixOf (x.drop i) = true := by
  induction x with
  | nil => cases y <;> simp [hasSub]
  | cons c r ih =>
    simp only [hasSub, Bool.or_eq_true, ih]
    constructor
    · rintro (h | ⟨i, h1, h2⟩)
      · exact ⟨0, Nat.zero_le _, h⟩
      · exact ⟨i + 1, by simp; omega, h2⟩
    · rintro ⟨i, h1, h2⟩
      cases i with
      | zero => exact .inl h2
      | succ i => exact .inr ⟨i, by simpa using h1, h2⟩
theorem hasSub_S (y x : S) : (!(Builtin.Str.occurrences (mkS x) (mkS y) 0 (mkS x).length 1).isEmpty) = hasSub y x := by
  rw [Bool.eq_iff_iff, StrLaws.found_iff, hasSub_iff]
  constructor
  · rintro ⟨i, h1, h2⟩
    rw [mkS_length, mkS_length] at h1
    refine ⟨i, by omega, ?_⟩
    rw [prefix_at i (by omega), h2, decide_eq_true h1]; rfl
  · rintro ⟨i, h1, h2⟩
    rw [prefix_at i h1, Bool.and_eq_true, decide_eq_true_iff] at h2
    exact ⟨i, by rw [mkS_length, mkS_length]; exact h2.1, h2.2⟩
theorem op_in_str {a b : S} {K : V → Prop} (h : K (.bool (hasSub a b))) : Op2 C (Rep C.W) (compareOp .In) (.str a) (.str b) K := fun own T s va vb hO ra rb => by
  obtain ⟨_, rfl, _⟩ := ra.str_inv; obtain ⟨_, rfl, _⟩ := rb.str_inv
  refine PySem.P.in_str (.same hO.tok h ?_)
  rw [hasSub_S]; exact .bool _
theorem opL_len_str {l : S} {K : V → Prop} (hl : l.length ≤ sizeLine) (h : K (.int l.length)) : OpL C (Rep C.W) (fun ws => call (.builtin "len") ws) [.str l] K := fun own T s vs hO hr => by
  obtain ⟨_, _, rfl, r, hr⟩ := hr.cons_inv
  obtain rfl := hr.nil_inv; obtain ⟨_, rfl, _⟩ := r.str_inv
  refine PySem.P.len_str (by rw [mkS_length]; have : sizeLine = 2 ^ 24 := by rw [sizeLine_eq]
                             omega) ?_
  rw [mkS_length]
  exact .int hO.tok h (by omega)

theorem op_item_str {l : S} {i : Int} {c : Nat} {K : V → Prop} (h0 : -(l.length : Int) ≤ i) (hi : i < l.length) (hl : l.length ≤ sizeLine) (hc : l[(if i < 0 then i + l.length else i).toNat]? = some c) (h : K (.str [c])) : Op2 C (Rep C.W) getItem (.str l) (.int i) K := fun own T s va vb hO ra rb => by
  obtain ⟨_, rfl, _⟩ := ra.str_inv; obtain ⟨_, rfl⟩ := rb.int_inv
  have hsz : sizeLine = 2 ^ 24 := by rw [sizeLine_eq]
  refine PySem.P.getItem_str (c := c) ?_ ?_ (.strNew (l := [c]) hO.tok h)
  · rw [Bool.or_eq_false_iff]; exact ⟨decide_eq_false (by omega), decide_eq_false (by omega)⟩
  · rw [mkS_length]
    by_cases hn : i < 0
    · rw [StrLaws.seqIndex_neg hn h0]
      rw [if_pos hn] at hc
      show (mkS l).cps[(i + l.length).toNat]? = some c
      simpa [mkS] using hc
    · rw [StrLaws.seqIndex_nonneg (by omega) hi]
      rw [if_neg hn] at hc
      show (mkS l).cps[i.toNat]? = some c
      simpa [mkS] using hc

theorem opL_chr {i : Int} {K : V → Prop} (h0 : 0 ≤ i) (h1 : i ≤ 0x10FFFF) (h : K (.str [i.toNat])) : OpL C (Rep C.W) (fun ws => call (.builtin "chr") ws) [.int i] K := fun own T s vs hO hr => by
  obtain ⟨_, _, rfl, r, hr⟩ := hr.cons_inv
  obtain rfl := hr.nil_inv; obtain ⟨_, rfl⟩ := r.int_inv
  exact PySem.P.chr_of_int (by rw [Bool.or_eq_false_iff]; exact ⟨decide_eq_false (by omega), decide_eq_false (by omega)⟩) (.strNew (l := [i.toNat]) hO.tok h)

/-- data.replace(old, new) -/
theorem opL_replace {x y z : S} {K : V → Prop} (hyz : y ≠ z ∨ (y = [] ∧ z = [])) (hl : x.length + (x.length + 1) * z.length ≤ sizeLine) (h : K (.str (repl y z x))) :
    OpL C (Rep C.W) (fun ws => call (.builtin "str.replace") ws) [.str x, .str y, .str z] K := fun own T s vs hO hr => by
  obtain ⟨_, _, rfl, r1, hr⟩ := hr.cons_inv
  obtain ⟨_, _, rfl, r2, hr⟩ := hr.cons_inv
  obtain ⟨_, _, rfl, r3, hr⟩ := hr.cons_inv
  obtain rfl := hr.nil_inv; obtain ⟨t, rfl, ht⟩ := r1.str_inv; obtain ⟨u, rfl, hu⟩ := r2.str_inv; obtain ⟨v, rfl, hv⟩ := r3.str_inv
  have hu0 := (hO.tok.lt u y hu).1
  have hv0 := (hO.tok.lt v z hv).1
  rcases hyz with hyz | ⟨rfl, rfl⟩
  · have huv : u ≠ v := fun e => hyz (by
      have hu : T u = some y := hu
      have hv : T v = some z := hv
      rw [e, hv] at hu; injection hu with hu; exact hu.symm)
    refine call_gives PySem.F.slot_str_replace (typeIs_str _ _ _) PySem.F.entry_str_replace (PySem.F.args_str_replace_3 _ _ _)
      (gives_str_replace (mkS x) (mkS y) (mkS z) t u v fun _ => ⟨?_, by simpa using huv, ?_, ?_⟩) ?_
    · rw [Bool.or_eq_false_iff]; exact ⟨beq_eq_false_iff_ne.mpr (Nat.ne_of_gt hu0), beq_eq_false_iff_ne.mpr (Nat.ne_of_gt hv0)⟩
    · simp only [beq_eq_false_iff_ne]; exact fun e => hyz (mkS_inj e)
    · have h1 := StrLaws.occ_length_le (mkS x) (mkS y) 0 (mkS x).length ((mkS x).length + 1)
      have h2 : (Builtin.Str.occurrences (mkS x) (mkS y) 0 (mkS x).length ((mkS x).length + 1)).length * z.length ≤ ((mkS x).length + 1) * z.length := Nat.mul_le_mul_right _ h1
      rw [mkS_length] at h2
      unfold Builtin.Str.tooLong
      rw [mkS_length, mkS_length]
      exact decide_eq_false (by omega)
    · have e := replace_S x y z
      unfold Txt.replace at e
      by_cases hc : ((Builtin.Str.occurrences (mkS x) (mkS y) 0 (mkS x).length ((mkS x).length + 1)).isEmpty || ((mkS y).length == 0 && (mkS z).length == 0)) = true
      · rw [if_pos hc] at e ⊢
        have := mkS_inj e
        exact ⟨_, T, h, .refl hO.tok, by rw [← this]; exact .str ht⟩
      · rw [if_neg hc] at e ⊢
        refine ⟨?_, ?_⟩
        · rw [e]
          have hf := fits_replaced (x := mkS x) (z := mkS z) (mkS y) (by rw [mkS_length, mkS_length]; have : sizeLine = 16777216 := sizeLine_eq
                                                                         omega)
          rw [e] at hf; exact hf
        · rw [e]; exact .strNew hO.tok h
  · refine call_gives PySem.F.slot_str_replace (typeIs_str _ _ _) PySem.F.entry_str_replace (PySem.F.args_str_replace_3 _ _ _)
      (gives_str_replace (mkS x) (mkS []) (mkS []) t u v fun hc => ?_) ?_
    · rw [Bool.or_eq_false_iff] at hc
      exact absurd hc.2 (by rw [mkS_length]; decide)
    · rw [if_pos (by rw [Bool.or_eq_true]; exact .inr rfl)]
      refine ⟨_, T, h, .refl hO.tok, ?_⟩
      have e : repl [] [] x = x := by simp [repl, replE]
      rw [e]; exact .str ht
end
end Sx
end
section
open PySem PySem.W PyProof.Rows PySem.Calls
set_option linter.unusedVariables false
set_option Elab.async false
set_option maxRecDepth 100000
namespace Sx
open Builtin.Str

noncomputable def joinS (sep : S) : List S → S
  | [] => []
  | [x] => x
  | x :: y :: r => x ++ sep ++ joinS sep (y :: r)
theorem strs_of {W : Wd} {g : PH} : ∀ (ls : List S) (ws : List Value), RepL W g (ls.map V.str) ws → ∃ l : List (Str × Tok), ws = strValues l ∧ l.map (·.1) = ls.map mkS ∧ ∀ x ∈ l, ∃ s, x.1 = mkS s ∧ g.tk x.2 = some s
  | [], ws, h => by obtain rfl := h.nil_inv; exact ⟨[], rfl, rfl, fun x hx => by cases hx⟩
  | s :: ls, ws, h => by
    obtain ⟨_, _, rfl, h1, h2⟩ := h.cons_inv
    obtain ⟨t, rfl, ht⟩ := h1.str_inv
    obtain ⟨l, rfl, e, h3⟩ := strs_of ls _ h2
    refine ⟨(mkS s, t) :: l, rfl, by simp [e], fun x hx => ?_⟩
    rcases List.mem_cons.mp hx with rfl | hx
    · exact ⟨s, rfl, ht⟩
    · exact h3 x hx

section
variable {C : Cx}
end
end Sx
end
section
open PySem PySem.W PyProof.Rows PySem.Calls
set_option linter.unusedVariables false
set_option Elab.async false
set_option maxRecDepth 100000
namespace Sx
open Builtin Builtin.Str

end Sx
end
section
open PySem PySem.W PyProof.Rows PySem.Calls
set_option linter.unusedVariables false
set_option Elab.async false
set_option maxRecDepth 100000
namespace Sx
open PySem.SeqAt

/-! ## equal things compare equal -/
mutual
inductive Alike : Nat → V → V → Prop
  | none (n : Nat) : Alike n .none .none
  | bool (n : Nat) (b : Bool) : Alike n (.bool b) (.bool b)
  | int (n : Nat) (i : Int) : Alike n (.int i) (.int i)
  | ss (n : Nat) (l : S) : Alike n (.str l) (.str l)
  | st (n : Nat) (l : S) : Alike n (.str l) (.txt l)
  | ts (n : Nat) (l : S) : Alike n (.txt l) (.str l)
  | tt (n : Nat) (l : S) : Alike n (.txt l) (.txt l)
  | tup {n : Nat} {vs us : List V} : AlikeL n vs us → Alike (n + 1) (.tup vs) (.tup us)
  | lst {n : Nat} {vs us : List V} : AlikeL n vs us → Alike (n + 1) (.lst vs) (.lst us)
inductive AlikeL : Nat → List V → List V → Prop
  | nil (n : Nat) : AlikeL n [] []
  | cons {n : Nat} {v u : V} {vs us : List V} : Alike n v u → AlikeL n vs us → AlikeL n (v :: vs) (u :: us)
end

theorem eqAt_str {A : Around} {s : Shared} {x : PySem.Str} {t u : Tok} : EqAt A s (.str x t) (.str x u) true := fun prog w E Q hq => wpAny_eqBool_str (by simpa using hq)
theorem eqAt_int {A : Around} {s : Shared} {x : Int} {t u : Tok} : EqAt A s (.int x t) (.int x u) true := fun prog w E Q hq => wpAny_eqBool_int (by simpa using hq)

theorem Rep.txt_inv {W : Wd} {g : PH} {l : S} {v : Value} (h : Rep W g (.txt l) v) : ∃ t, v = .str (mkS l) t := by cases h; exact ⟨_, rfl⟩
theorem Rep.none_inv {W : Wd} {g : PH} {v : Value} (h : Rep W g .none v) : v = .none := by cases h; rfl
theorem eq_tups {A : Around} {s : Shared} {x y : Addr} {ox oy : Obj} {wx wy : List Value} {nx ny : Nat} (h1 : s.heap.get? x = some ox) (h2 : ox.cls = .type "tuple") (h3 : ox.data = .seq wx.toArray nx) (k1 : s.heap.get? y = some oy) (k2 : oy.cls = .type "tuple") (k3 : oy.data = .seq wy.toArray ny)
    (hu : A.units + 1 < cLine) (hl : wx.length = wy.length ∧ ∀ j (h1 : j < wx.length) (h2 : j < wy.length), EqAt A.in1 s wx[j] wy[j] true) : EqAt A s (.ref x) (.ref y) true := by
  by_cases hxy : x = y
  · subst hxy; exact .same _
  · refine .of_refs hxy ?_
    have hs := hl.1
    have := RcAt.tuples (A := A) (s := s) (items := wx.toArray) (items2 := wy.toArray) (e := fun _ => true) ⟨ox, h1, h2, nx, h3⟩ ⟨oy, k1, k2, ny, k3⟩ (by omega) (fun j h1 h2 => hl.2 j (by simpa using h1) (by simpa using h2))
    have e : ((List.range (min wx.toArray.size wy.toArray.size)).all (fun _ => true) && wx.toArray.size == wy.toArray.size) = true := by simp [hs]
    rw [e] at this; exact this
theorem eq_lsts {A : Around} {s : Shared} {x y : Addr} {ox oy : Obj} {wx wy : List Value} {nx ny : Nat} (h1 : s.heap.get? x = some ox) (h2 : ox.cls = .type "list") (h3 : ox.data = .seq wx.toArray nx) (k1 : s.heap.get? y = some oy) (k2 : oy.cls = .type "list") (k3 : oy.data = .seq wy.toArray ny)
    (hu : A.units + 1 < cLine) (hl : wx.length = wy.length ∧ ∀ j (h1 : j < wx.length) (h2 : j < wy.length), EqAt A.in1 s wx[j] wy[j] true) : EqAt A s (.ref x) (.ref y) true := by
  by_cases hxy : x = y
  · subst hxy; exact .same _
  · refine .of_refs hxy ?_
    have hs := hl.1
    have := RcAt.lists (A := A) (s := s) (items := wx.toArray) (items2 := wy.toArray) (e := fun _ => true) ⟨ox, h1, h2, nx, h3⟩ ⟨oy, k1, k2, ny, k3⟩ (by simp [hs]) (by omega) (fun j h1 h2 => hl.2 j (by simpa using h1) (by simpa using h2))
    have e : ((List.range wx.toArray.size).all (fun _ => true)) = true := by simp
    rw [e] at this; exact this
mutual
theorem eqAt_alike {W : Wd} {g : PH} {s : Shared} (hg : ∀ a o, g.ob a = some o → s.heap.get? a = some o) {n : Nat} {a b : V} {va vb : Value} {A : Around} (h : Alike n a b) (hu : A.units + n < cLine) (r : Rep W g a va) (q : Rep W g b vb) : EqAt A s va vb true :=
  match h with
  | .none _ => by obtain rfl := r.none_inv; obtain rfl := q.none_inv; exact .same _
  | .bool _ _ => by obtain rfl := r.bool_inv; obtain rfl := q.bool_inv; exact .same _
  | .int _ _ => by obtain ⟨_, rfl⟩ := r.int_inv; obtain ⟨_, rfl⟩ := q.int_inv; exact eqAt_int
  | .ss _ _ => by obtain ⟨_, rfl, _⟩ := r.str_inv; obtain ⟨_, rfl, _⟩ := q.str_inv; exact eqAt_str
  | .st _ _ => by obtain ⟨_, rfl, _⟩ := r.str_inv; obtain ⟨_, rfl⟩ := q.txt_inv; exact eqAt_str
  | .ts _ _ => by obtain ⟨_, rfl⟩ := r.txt_inv; obtain ⟨_, rfl, _⟩ := q.str_inv; exact eqAt_str
  | .tt _ _ => by obtain ⟨_, rfl⟩ := r.txt_inv; obtain ⟨_, rfl⟩ := q.txt_inv; exact eqAt_str
  | .tup (n := n) h => by
    obtain ⟨x, ox, wx, nx, rfl, h1, h2, h3, r⟩ := r.tup_inv
    obtain ⟨y, oy, wy, ny, rfl, k1, k2, k3, q⟩ := q.tup_inv
    exact eq_tups (hg _ _ h1) h2 h3 (hg _ _ k1) k2 k3 (by omega) (eqAtL_alike (A := A.in1) hg h (by show A.units + 1 + n < cLine; omega) r q)
  | .lst (n := n) h => by
    obtain ⟨x, ox, wx, nx, rfl, h1, h2, _, h3, r⟩ := r.lst_inv
    obtain ⟨y, oy, wy, ny, rfl, k1, k2, _, k3, q⟩ := q.lst_inv
    exact eq_lsts (hg _ _ h1) h2 h3 (hg _ _ k1) k2 k3 (by omega) (eqAtL_alike (A := A.in1) hg h (by show A.units + 1 + n < cLine; omega) r q)
theorem eqAtL_alike {W : Wd} {g : PH} {s : Shared} (hg : ∀ a o, g.ob a = some o → s.heap.get? a = some o) {n : Nat} {a b : List V} {va vb : List Value} {A : Around} (h : AlikeL n a b) (hu : A.units + n < cLine) (r : RepL W g a va) (q : RepL W g b vb) : va.length = vb.length ∧ ∀ j (h1 : j < va.length) (h2 : j < vb.length), EqAt A s va[j] vb[j] true :=
  match h with
  | .nil _ => by obtain rfl := r.nil_inv; obtain rfl := q.nil_inv; exact ⟨rfl, fun j h1 _ => absurd h1 (Nat.not_lt_zero _)⟩
  | .cons h1 h2 => by
    obtain ⟨_, _, rfl, r1, r2⟩ := r.cons_inv
    obtain ⟨_, _, rfl, q1, q2⟩ := q.cons_inv
    have i1 := eqAt_alike hg h1 hu r1 q1
    have i2 := eqAtL_alike hg h2 hu r2 q2
    refine ⟨by simp [i2.1], fun j h1 h2 => ?_⟩
    cases j with
    | zero => exact i1
    | succ j => exact i2.2 j (by simpa using h1) (by simpa using h2)
end

open AutoSeq1 (wpAny_loadPart') in
theorem list_addAt (l : Addr) (items : Array Value) (n : Nat) (b : Addr) (items2 : Array Value) (n2 : Nat) (dd dd2 : Option Addr) (sl sl2 : Array (Option Value)) (hc0 : items.size + items2.size ≤ sizeLine) :
    Meets (Builtin.«list.__add__» ⟨[.ref l, .ref b], []⟩) (fun _ R s => s.heap.get? l = some { cls := .type "list", dict := dd, data := .seq items n, slots := sl } ∧ s.heap.get? b = some { cls := .type "list", dict := dd2, data := .seq items2 n2, slots := sl2 } ∧ R (.ok (.ret (Value.ref s.heap.objs.size))) { s with heap := s.heap.push { cls := Value.type "list", data := Data.seq (items ++ items2) }, toks := s.toks }) :=
  .of_wp fun prog w A R s h => by obtain ⟨hp, g, d, tk, os⟩ := s; obtain ⟨hl, hb, h⟩ := h; have f1 := AutoSeq1.idx_int; have f2 := AutoSeq1.sub_tuple_tuple; have f3 := AutoSeq1.sub_list_list; have f4 := AutoSeq1.sub_tuple_list; have f5 := AutoSeq1.sub_list_tuple; wp_walk using wpAny_loadPart' hl, wpAny_loadPart' hb; exact ⟨_, rfl, h⟩

section
variable {C : Cx}
theorem cLine_ge : 9900 ≤ cLine := by decide
theorem op_eq_alike {n m : Nat} (ok : C.Ok m) (hn : n ≤ 50) {vs us : List V} (h : AlikeL n vs us) {K : V → Prop} (hK : K (.bool true)) : Op2 C (Rep C.W) (compareOp .Eq) (.lst vs) (.lst us) K := fun own T s va vb hO ra rb => by
  obtain ⟨x, ox, wx, nx, rfl, h1, h2, h3, h4, r⟩ := ra.lst_inv
  obtain ⟨y, oy, wy, ny, rfl, k1, k2, k3, k4, q⟩ := rb.lst_inv
  have hu := ok.hu
  have hc := cLine_ge
  have hl := eqAtL_alike (A := C.A.in1) (s := s) (W := C.W) (g := view own T s) (fun a o e => view_of e) h (by show C.A.units + 1 + n < cLine; omega) r q
  refine eq_listAt (items := wx.toArray) (items2 := wy.toArray) (e := fun _ => true) ⟨ox, view_of h1, h2, nx, h4⟩ ⟨oy, view_of k1, k2, ny, k4⟩ (by simp [hl.1]) (by omega) (fun j h1 h2 => hl.2 j (by simpa using h1) (by simpa using h2)) ?_
  have e : ((List.range wx.toArray.size).all (fun _ => true)) = true := by simp
  rw [e]; exact .same hO.tok hK (.bool _)
theorem op_ne_alike {n m : Nat} (ok : C.Ok m) (hn : n ≤ 50) {vs us : List V} (h : AlikeL n vs us) {K : V → Prop} (hK : K (.bool false)) : Op2 C (Rep C.W) (compareOp .NotEq) (.lst vs) (.lst us) K := fun own T s va vb hO ra rb => by
  obtain ⟨x, ox, wx, nx, rfl, h1, h2, h3, h4, r⟩ := ra.lst_inv
  obtain ⟨y, oy, wy, ny, rfl, k1, k2, k3, k4, q⟩ := rb.lst_inv
  have hu := ok.hu
  have hc := cLine_ge
  have hl := eqAtL_alike (A := C.A.in1) (s := s) (W := C.W) (g := view own T s) (fun a o e => view_of e) h (by show C.A.units + 1 + n < cLine; omega) r q
  have := RcNeAt.lists (A := C.A) (s := s) (items := wx.toArray) (items2 := wy.toArray) (e := fun _ => true) ⟨ox, view_of h1, h2, nx, h4⟩ ⟨oy, view_of k1, k2, ny, k4⟩ (by simp [hl.1]) (by omega) (fun j h1 h2 => hl.2 j (by simpa using h1) (by simpa using h2))
  have e : ((List.range wx.toArray.size).all (fun _ => true)) = true := by simp
  rw [e] at this
  exact this C.W.prog C.W.w C.X _ (.same hO.tok hK (.bool _))

/-! ## lists -/
theorem fits63 {n : Nat} (h : n ≤ sizeLine) : (n : Int) < 2 ^ 63 := by
  have : sizeLine = 16777216 := sizeLine_eq
  omega
theorem op_item_list {vs : List V} {i : Int} {v : V} {K : V → Prop} (h0 : -(vs.length : Int) ≤ i) (hi : i < vs.length) (hl : vs.length ≤ sizeLine) (hv : vs[(if i < 0 then i + vs.length else i).toNat]? = some v) (h : K v) : Op2 C (Rep C.W) getItem (.lst vs) (.int i) K := fun own T s va vb hO ra rb => by
  obtain ⟨_, rfl⟩ := rb.int_inv
  obtain ⟨x, ox, wx, nx, rfl, h1, h2, h3, h4, r⟩ := ra.lst_inv
  have hsz := fits63 hl
  have hL : s.heap.IsList x wx.toArray := ⟨ox, view_of h1, h2, nx, h4⟩
  obtain ⟨w, hw, hr⟩ := r.get hv
  by_cases hn : i < 0
  · rw [if_pos hn] at hw
    exact wpAny_getItem_list_neg hL hn (by rw [List.size_toArray, r.length]; exact h0) (by omega) (by rw [List.size_toArray, r.length]; simpa using hw) (.same hO.tok h hr)
  · rw [if_neg hn] at hw
    exact wpAny_getItem_list hL (by omega) (by omega) (by simpa using hw) (.same hO.tok h hr)

theorem opF_add_list {vs us : List V} {K : Slot → Prop} (hl : vs.length + us.length ≤ sizeLine) (h : ∀ a, K (.list a (vs ++ us))) : Op2F C (binaryOp .Add) (.lst vs) (.lst us) K := fun own T s va vb hO ra rb => by
  obtain ⟨x, ox, wx, nx, rfl, h1, h2, h3, h4, r⟩ := ra.lst_inv
  obtain ⟨y, oy, wy, ny, rfl, k1, k2, k3, k4, q⟩ := rb.lst_inv
  obtain ⟨cls, dd, data, sl⟩ := ox
  obtain ⟨cls2, dd2, data2, sl2⟩ := oy
  simp only at h2 h3 h4 k2 k3 k4
  subst h2 h4 k2 k4
  have hsz : wx.toArray.size + wy.toArray.size ≤ sizeLine := by rw [List.size_toArray, List.size_toArray, r.length, q.length]; exact hl
  refine concat_meets ⟨_, view_of h1, rfl⟩ ⟨_, view_of k1, rfl⟩ noFill_list_add seq_list_add PySem.F.slot_list_add PySem.F.entry_list_add (PySem.F.args_list_add_2 _ _) (list_addAt x wx.toArray nx y wy.toArray ny dd dd2 sl sl2 hsz) ⟨view_of h1, view_of k1, ?_⟩
  have k0 : Kp T s T { s with heap := s.heap.push { cls := .type "list", data := .seq (wx.toArray ++ wy.toArray) }, toks := s.toks } := .push hO.tok (Nat.le_refl _)
  have hn := fresh_size s.heap
  refine ⟨.list s.heap.objs.size (vs ++ us), T, _, h _, rfl, k0, hn, by rw [Heap.get?_push_size _ rfl]; rfl, rfl, wx ++ wy, ⟨0, by rw [Heap.get?_push_size _ rfl]; simp⟩, ?_⟩
  refine (r.append q).mono ⟨fun b o e => view_mk (fun hm => ?_) (k0.keep b o (view_of e)), fun _ _ e => e⟩
  rcases List.mem_cons.mp hm with rfl | hm
  · rw [view_of e] at hn; cases hn
  · exact view_not e hm

theorem opL_len_list {vs : List V} {K : V → Prop} (hl : vs.length ≤ sizeLine) (h : K (.int vs.length)) : OpL C (Rep C.W) (fun ws => call (.builtin "len") ws) [.lst vs] K := fun own T s ws hO hr => by
  obtain ⟨_, _, rfl, r1, hr⟩ := hr.cons_inv
  obtain rfl := hr.nil_inv
  obtain ⟨x, ox, wx, nx, rfl, h1, h2, h3, h4, r⟩ := r1.lst_inv
  refine call_len_list (items := wx.toArray) ⟨ox, view_of h1, h2, nx, h4⟩ (by rw [List.size_toArray, r.length]; exact fits63 hl) ?_
  rw [List.size_toArray, r.length]
  exact .int hO.tok h (by omega)

/-! ## dicts -/
theorem truthy_dict {es : List (Key × V)} {K : Bool → Prop} (hl : es.length ≤ sizeLine) (h : K (!es.isEmpty)) : Op1 C RB truthy (.dct es) K := fun own T s va hO ra => by
  obtain ⟨x, ox, ds, kvs, nx, rfl, h1, h0, h2, h3, r, hn⟩ := ra.dct_inv
  have hd := r.dictOf (h := s.heap) (view_of h1) h2 h3 hn
  refine wpAny_truthy_dict h0 hd (by rw [r.length.2]; exact fits63 hl) ⟨_, T, h, .toks hO.tok (by omega), ?_⟩
  show (!es.isEmpty) = !kvs.isEmpty
  have := r.length.2
  cases es <;> cases kvs <;> simp_all
theorem opL_get2 {es : List (Key × V)} {k : Key} {d : V} {K : V → Prop} (h : K ((dget es k).getD d)) : OpL C (Rep C.W) (fun ws => call (.builtin "dict.get") ws) [.dct es, k.v, d] K := fun own T s ws hO hr => by
  obtain ⟨_, _, rfl, r1, hr⟩ := hr.cons_inv
  obtain ⟨_, _, rfl, r2, hr⟩ := hr.cons_inv
  obtain ⟨_, _, rfl, r3, hr⟩ := hr.cons_inv
  obtain rfl := hr.nil_inv
  obtain ⟨x, ox, ds, kvs, nx, rfl, h1, h0, h2, h3, r, hn⟩ := r1.dct_inv
  have hd := r.dictOf (h := s.heap) (view_of h1) h2 h3 hn
  refine call_meetsIn PySem.F.slot_dict_get hd.typeIs PySem.F.entry_dict_get (PySem.F.args_dict_get_3 _ _ _) (meets_dict_get_default C.W.knd x (Key.is_of_rep r2) h0 _) ⟨_, hd.mapOf, ?_⟩
  have hv' := r.valueAt k
  refine ⟨_, T, h, .toks hO.tok (Nat.le_succ _), ?_⟩
  cases hg : dget es k with
  | none => rw [hg] at hv'; simp only at hv'; rw [hv']; exact r3
  | some v => rw [hg] at hv'; obtain ⟨w, e, hr⟩ := hv'; rw [e]; exact hr
theorem opL_items {es : List (Key × V)} {K : V → Prop} (h : K (.items es)) : OpL C (Rep C.W) (fun ws => call (.builtin "dict.items") ws) [.dct es] K := fun own T s ws hO hr => by
  obtain ⟨_, _, rfl, r1, hr⟩ := hr.cons_inv
  obtain rfl := hr.nil_inv
  have r1' := r1
  obtain ⟨x, ox, ds, kvs, nx, rfl, h1, h0, h2, h3, r, hn⟩ := r1.dct_inv
  have hd := r.dictOf (h := s.heap) (view_of h1) h2 h3 hn
  refine call_meetsIn PySem.F.slot_dict_items hd.typeIs PySem.F.entry_dict_items (PySem.F.args_dict_items_1 _) (meets_dict_items C.W.knd x h0) ⟨⟨kvs, hd⟩, ?_⟩
  have k0 : Kp T s T { s with heap := s.heap.push { cls := .type "dict_items", data := .fields #[.ref x] } } := .push hO.tok (Nat.le_refl _)
  exact ⟨_, T, h, k0, .itm (view_mk (hO.fresh (fresh_size _)) (Heap.get?_push_size _ rfl)) rfl rfl (r1'.mono k0.view)⟩
/-! ## '"%s"' % t, t.count(u) -/
end
end Sx
end
section
open PySem PySem.W PyProof.Rows PySem.Calls
set_option linter.unusedVariables false
set_option Elab.async false
set_option maxRecDepth 100000
namespace Sx

theorem ints_of {W : Wd} {g : PH} : ∀ (is : List Int) (ws : List Value), RepL W g (is.map V.int) ws → ∃ xs : List (Int × Tok), ws = xs.map (fun p => Value.int p.1 p.2) ∧ xs.map (·.1) = is
  | [], ws, h => by obtain rfl := h.nil_inv; exact ⟨[], rfl, rfl⟩
  | i :: is, ws, h => by
    obtain ⟨_, _, rfl, h1, h2⟩ := h.cons_inv
    obtain ⟨t, rfl⟩ := h1.int_inv
    obtain ⟨xs, rfl, e⟩ := ints_of is _ h2
    exact ⟨(i, t) :: xs, rfl, by simp [e]⟩

/-- a text's mark forgotten -/
noncomputable def Key.tv : Key → V
  | .s l => .txt l
  | .i n => .int n

section
variable {C : Cx}
theorem opL_sum {n : Nat} (ok : C.Ok n) {is : List Int} {K : V → Prop} (h : K (.int is.sum)) : OpL C (Rep C.W) (fun ws => call (.builtin "sum") ws) [.lst (is.map V.int)] K := fun own T s vs hO hr => by
  obtain ⟨_, _, rfl, r1, hr⟩ := hr.cons_inv
  obtain rfl := hr.nil_inv
  obtain ⟨x, ox, wx, nx, rfl, h1, h2, h3, h4, r⟩ := r1.lst_inv
  obtain ⟨xs, rfl, e⟩ := ints_of _ _ r
  refine wpAny_with_toks (n := s.toks) (Nat.le_refl _) (sum_intListG (xs := xs.toArray) ok.hh ⟨ox, view_of h1, h2, nx, by rw [h4]; simp [intItems]⟩ fun h' tk t' hk htk => ?_)
  rw [preSum_eq]
  have e2 : ((xs.toArray.toList.map (·.1)).take xs.toArray.size).sum = is.sum := by
    rw [List.take_of_length_le (by simp)]
    simp [e]
  rw [e2]
  exact ⟨_, T, h, .at hO.tok hk htk, .int _ _⟩

theorem opF_listItems {n : Nat} (ok : C.Ok n) {es : List (Key × V)} {K : Slot → Prop} (hl : es.length ≤ sizeLine) (h : ∀ a, K (.list a (es.map fun p => .tup [p.1.tv, p.2]))) : OpLF C (fun ws => call (.type "list") ws) [.items es] K := fun own T s vs hO hr => by
  obtain ⟨_, _, rfl, r1, hr⟩ := hr.cons_inv
  obtain rfl := hr.nil_inv
  obtain ⟨vw, a, ov, rfl, hv1, hv2, hv3, hrd⟩ := r1.itm_inv
  obtain ⟨_, o, ds, kvs, nn, he, h1, h0, h2, h3, r, hn⟩ := hrd.dct_inv
  cases he
  have hm := r.dictAt (view_of h1) h2 h3 hn
  have hlen : kvs.length = es.length := r.length.2
  refine wpAny_with_toks (n := s.toks) (Nat.le_refl _) (kdx_call (knd := C.W.knd) ok.hh ⟨ov, view_of hv1, hv2, hv3⟩ hm (by rw [hlen]; exact hl) fun h' tk acc c as hk hS hal hG hacc htk => ?_)
  have k : Kp T s T { s with heap := h', toks := tk } := .at hO.tok hk htk
  have hnew := fresh_size s.heap
  refine ⟨.list s.heap.objs.size (es.map fun p => .tup [p.1.tv, p.2]), T, s.heap.objs.size, h _, rfl, k, hnew, by show (h'.get? _).isSome = true; rw [hS]; rfl, rfl, acc.toList, ⟨c, by rw [Array.toArray_toList]; exact hS⟩, ?_⟩
  rw [hacc]
  have le : Le (view own T s) (view (s.heap.objs.size :: own) T { s with heap := h', toks := tk }) := ⟨fun b o e => view_mk (fun hm => by
    rcases List.mem_cons.mp hm with rfl | hm
    · rw [view_of e] at hnew; cases hnew
    · exact view_not e hm) (hk b o (view_of e)), fun _ _ e => e⟩
  -- one by one
  have go : ∀ (j : Nat) (es' : List (Key × V)) (ds' : List DictEntry) (kvs' : List (Key × Value)) (as' : List Addr), RepD C.W (view own T s) es' ds' kvs' → as'.length = kvs'.length → (∀ i a, as'[i]? = some a → as[j + i]? = some a) → (∀ i, kvs'[i]? = kvs[j + i]?) →
      RepL C.W (view (s.heap.objs.size :: own) T { s with heap := h', toks := tk }) (es'.map fun p => .tup [p.1.tv, p.2]) (as'.map Value.ref) := by
    intro j es' ds' kvs' as' hr' hl' ha hkv
    induction as' generalizing j es' ds' kvs' with
    | nil =>
      cases hr' with
      | nil => exact .nil
      | cons => simp at hl'
    | cons b as' ih =>
      cases hr' with
      | nil => simp at hl'
      | @cons k v d es' ds' kvs' q1 q2 q3 q4 =>
        refine .cons ?_ (ih (j + 1) es' ds' kvs' q4 (by simpa using hl') (fun i a e => by have := ha (i + 1) a (by simpa using e); rw [← this]; congr 1; omega) (fun i => by have := hkv (i + 1); rw [List.getElem?_cons_succ] at this; rw [this]; congr 1; omega))
        obtain ⟨key, k', x, e1, e2, e3⟩ := hG.pairs j b (by have := ha 0 b rfl; simpa using this)
        have e4 := hkv 0
        rw [List.getElem?_cons_zero, Nat.add_zero, e1] at e4
        injection e4 with e4
        injection e4 with e5 e6
        subst e5
        subst e6
        have hb : b ∉ s.heap.objs.size :: own := fun hm => by
          have hgt := hG.above b (List.mem_of_getElem? (by have := ha 0 b rfl; simpa using this))
          rcases List.mem_cons.mp hm with rfl | hm
          · exact Nat.lt_irrefl _ hgt
          · obtain ⟨o, ho⟩ := Option.isSome_iff_exists.mp (hO.live b hm)
            exact Nat.lt_irrefl _ (Nat.lt_trans hgt (Heap.lt_size ho))
        refine .tup (o := { cls := .type "tuple", data := .seq #[key, d.val] }) (ws := [key, d.val]) (n := 0) (view_mk hb e3) rfl rfl (.cons ?_ (.cons (q3.mono le) .nil))
        cases k with
        | s l => obtain ⟨t, rfl⟩ := Key.is_s e2; exact .txt _ _
        | i n => obtain ⟨t, rfl⟩ := Key.is_i e2; exact .int _ _
  exact go 0 es ds kvs as r (by rw [hal]) (fun i a e => by rw [Nat.zero_add]; exact e) (fun i => by rw [Nat.zero_add])
end
end Sx
end
section
open PySem PySem.W PyProof.Rows PySem.Calls
set_option linter.unusedVariables false
set_option Elab.async false
set_option maxRecDepth 100000
namespace Sx

/-! ## the functions as they stand in the base -/
noncomputable def fdAt (F : Frag) (a : Addr) : FuncData := match F.lookup a with
  | some ⟨_, _, .func fd, _⟩ => fd
  | _ => default
noncomputable def bdAt (F : Frag) (a : Addr) : List Stmt := match (fdAt F a).body with
  | .stmts b => b
  | _ => []
noncomputable def isFn (F : Frag) (a : Addr) : Bool := match F.lookup a with
  | some ⟨_, _, .func _, _⟩ => true
  | _ => false
noncomputable def isStmts (F : Frag) (a : Addr) : Bool := match (fdAt F a).body with
  | .stmts _ => true
  | _ => false
noncomputable def codeOk (F : Frag) (a : Addr) : Bool := match (fdAt F a).code with
  | .ref c => (match F.lookup c with
      | some ⟨_, _, .fields vs, _⟩ => (match (vs[1]? : Option Value) with
        | some (Value.str q _) => q == (fdAt F a).qualname
        | _ => false)
      | _ => false)
  | _ => false

theorem fnAt_of {W : Wd} {F : Frag} (hF : F.In W.h₀) {a : Addr} (h1 : isFn F a = true) (h2 : isStmts F a = true) (h3 : codeOk F a = true) (hgl : (fdAt F a).globals = mainGlobals) (hcl : (fdAt F a).closure = []) (hbn : (fdAt F a).builtins = builtinsNs)
    (hco : (fdAt F a).scope.isCoroutine = false) (hgen : (fdAt F a).scope.isGenerator = false) (hk : (fdAt F a).scope.kind = .function) : FnAt W a (fdAt F a) (bdAt F a) where
  at_ := by
    unfold isFn at h1
    split at h1
    · rename_i c d fd sl e
      refine ⟨_, hF _ _ e, ?_⟩
      unfold fdAt; rw [e]
    · cases h1
  hbody := by
    unfold isStmts at h2
    unfold bdAt
    split at h2
    · rename_i b e; rw [e]
    · cases h2
  hgl := hgl
  hcl := hcl
  hbn := hbn
  hcd := by
    unfold codeOk at h3
    split at h3
    · rename_i c e
      split at h3
      · rename_i cl d vs sl e2
        split at h3
        · rename_i q t e3
          have : q = (fdAt F a).qualname := by simpa using h3
          subst this
          exact ⟨c, _, vs, t, e, hF _ _ e2, rfl, e3⟩
        · cases h3
      · cases h3
    · cases h3
  hco := hco
  hgen := hgen
  hk := hk

theorem newEnv_pos {M : Model} {A : Around} {E : Value → Shared → Prop} {s : Shared} {scope : Scope} {globals : Addr} {n : Str} {v : Value} {binds : List (Str × Value)} {qual : Str} {func : Option Addr} {code : Value} {builtins : Addr} {Q : Env → Shared → Prop}
    (hk : scope.kind = .function) (hn : scope.names.lookup n = some .local)
    (hkind : ∀ x ∈ binds, scope.names.lookup x.1 = some .local ∨ (scope.names.lookup x.1 = some .cell ∧ ((cellsFrom (s.heap.objs.size + 1) scope.names []).lookup x.1).isSome = true))
    (hQ : ∀ env, env = newEnv scope s.heap.objs.size globals (cellsFrom (s.heap.objs.size + 1) scope.names []) qual func code none builtins →
      ∀ s', InCallC s env.locals (bindL env.kindOf ((n, v) :: binds) fun _ => none) env.cells (bindC env.kindOf ((n, v) :: binds) fun _ => none) s' → 0 < s'.toks → Q env s') :
    wpAny M A (newFunctionEnv scope globals [] ((n, v) :: binds) qual func code none builtins) Q E s := by
  simp only [newFunctionEnv, Option.isSome_none, Bool.false_eq_true, if_false]
  refine wpAny_bind (wpAny_alloc ?_)
  refine wpAny_bind (wpAny_layCells _ (fun name kind cells => by cases hkc : kind == NameKind.cell <;> simp [hkc]) _ _ _ _ ?_)
  have ok := cellsFrom_ok scope.names (s.heap.push { cls := .type "frame", data := .dict #[] }) (s.heap.objs.size + 1) [] ⟨fun _ _ hm => (nomatch hm), List.Pairwise.nil⟩ (by rw [Heap.size_push]; exact Nat.le_refl _)
  rw [Heap.size_push] at ok
  rw [show ({ s with heap := s.heap.push { cls := .type "frame", data := .dict #[] } } : Shared).heap.objs.size = s.heap.objs.size + 1 from Heap.size_push ..]
  obtain ⟨env, henv⟩ : ∃ env, env = newEnv scope s.heap.objs.size globals (cellsFrom (s.heap.objs.size + 1) scope.names []) qual func code none builtins := ⟨_, rfl⟩
  have x0 : InCallC s env.locals (fun _ => none) env.cells (fun _ => none) { s with heap := (pushCells (s.heap.push { cls := .type "frame", data := .dict #[] }) scope.names) } := by
    subst henv
    exact ⟨⟨⟨_, _, rfl⟩, (Heap.Ns.new s.heap (.type "frame")).keeps (pushCells_keeps _ _), fun b o e => pushCells_keeps _ _ b o (Heap.get?_push_of_some _ e), Nat.le_refl _⟩,
      fun n c hc => (ok.empty n c (mem_of_lookup hc)).1, ok.apart, fun n c hm => (ok.empty n c hm).2⟩
  have hke : env.scope.kind = .function := by rw [henv]; exact hk
  have hkn : env.kindOf n = some .local := by rw [henv]; exact hn
  have hkb : ∀ y ∈ binds, env.kindOf y.1 = some .local ∨ (env.kindOf y.1 = some .cell ∧ (env.cells.lookup y.1).isSome = true) := by rw [henv]; exact hkind
  have hp : (env.scope.kind == .class || (env.scope.kind == .module && env.locals != env.globals)) = false := by rw [hke]; rfl
  have hQ := hQ env henv
  have step : wpAny M A (storeName env n v) (fun _ s1 => s1.toks = s.toks + 1 ∧ InCallC s env.locals (fun y => if y = n then some v else none) env.cells (fun _ => none) s1) E { s with heap := (pushCells (s.heap.push { cls := .type "frame", data := .dict #[] }) scope.names) } := by
    refine wpAny_storeName_local hkn x0.toInCall.ns (fun h' hn' hs' => ⟨rfl, ⟨⟨_, _, rfl⟩, hn', fun b o e => ?_, x0.toInCall.fresh⟩, fun k c hc => ?_, x0.apart, x0.above⟩) hp
    · exact hs'.extBut b o (Nat.ne_of_lt (Nat.lt_of_lt_of_le (Heap.lt_size e) x0.toInCall.fresh)) (x0.toInCall.keep b o e)
    · exact (x0.cell k c hc).sameBut hs' (Nat.ne_of_gt (x0.above k c (mem_of_lookup hc)))
  show wpAny M A (forIn ((n, v) :: binds) PUnit.unit (fun x (_ : PUnit) => do storeName (newEnv scope s.heap.objs.size globals (cellsFrom (s.heap.objs.size + 1) scope.names []) qual func code none builtins) x.1 x.2; pure (ForInStep.yield PUnit.unit)) >>= fun _ => pure (newEnv scope s.heap.objs.size globals (cellsFrom (s.heap.objs.size + 1) scope.names []) qual func code none builtins)) Q E _
  rw [← henv]
  refine wpAny_bind ?_
  rw [List.forIn_cons]
  refine wpAny_bind (wpAny_bind (wpAny_mono step ?_ fun _ _ x => x))
  rintro _ s1 ⟨ht, x1⟩
  refine wpAny_pure (wpAny_with_toks (n := s.toks + 1) (Nat.le_of_eq ht.symm) (wpAny_bindParams (s₀ := s) (env := env) _ (fun _ _ _ => rfl) hke binds _ _ s1 _ x1 hkb fun s2 x2 ht2 => wpAny_pure (hQ s2 ?_ (Nat.lt_of_lt_of_le (Nat.succ_pos _) ht2))))
  unfold bindL bindC
  rw [if_pos hkn, if_pos hkn]; exact x2

/-- the very first call of all: no marks yet -/
theorem fn_call0 {W : Wd} {A : Around} {E : Value → Shared → Prop} {n : Nat} (hW : W.Ok) (hh : A.handled = none) (hu : A.units + 3 + 3 * n + 100 ≤ 9000) (hdp : A.depth + 1 + n + 10 ≤ 900) {a : Addr} {fd : FuncData} {body : List Stmt} (fn : FnAt W a fd body) {p : String} {v : V} {w : Value} {s : Shared}
    (hbase : W.h₀ = s.heap) (hb : BindsTo s fd ⟨[w], []⟩ [(Str.ofString p, w)]) (hr : Rep W ⟨s.heap.get?, fun _ => none⟩ v w) (hpl : fd.scope.names.lookup (Str.ofString p) = some .local) (hnf : (fd.scope.names.all fun x => x.2 != .free) = true) {Q : Value → Shared → Prop}
    (walk : ∀ A L q cd, (fnCx W A fd.scope L a q cd).Ok n → Exs (fnCx W A fd.scope L a q cd) [(p, .val v)] body (fun fl _ => fl.v = .bool true))
    (hQ : ∀ s', (∃ h' tk, s' = { s with heap := h', toks := tk }) → (∀ b o, s.heap.get? b = some o → s'.heap.get? b = some o) → Q (.bool true) s') : wpAny (model W.prog W.w) A (call (.ref a) [w]) Q E s := by
  obtain ⟨o, ho, hd⟩ := fn.at_
  rw [hbase] at ho
  have hlim : s.heap.NoLimit := hbase ▸ hW.nolimit
  refine wpAny_call (codeAny_call_function (by unfold recursionLimit; omega) ho hd fn.hco fn.hgen fn.hbody (hbase ▸ fn.hcd) (hb _ _ _ _ ?_))
  rw [fn.hgl, fn.hcl, fn.hbn]
  refine newEnv_pos fn.hk hpl (fun x hx => nomatch hx) fun env' he s' x htk => ?_
  subst he
  obtain ⟨h₁, tk, rfl, hk₁⟩ := x.done
  refine ⟨hlim.keeps hk₁, codeAny_func ?_⟩
  have okn : (fnCx W (A.deeper (fnEnv fd.scope s.heap.objs.size a (fd.qualname ++ ".<locals>.") fd.code)) fd.scope s.heap.objs.size a (fd.qualname ++ ".<locals>.") fd.code).Ok n :=
    fnCx_ok hW (by exact hh) (by show A.units + 3 + 3 * n + 100 ≤ 9000; omega) (by show A.depth + 1 + n + 10 ≤ 900; omega) fn.hk
  obtain ⟨cs, hcs⟩ : ∃ cs, cellsFrom (s.heap.objs.size + 1) fd.scope.names [] = cs := ⟨_, rfl⟩
  have hcs' : (fnEnv fd.scope s.heap.objs.size a (fd.qualname ++ ".<locals>.") fd.code).cells = cs := hcs
  have hcell : ∀ z c, cs.lookup z = some c → h₁.IsCell c (bindC (fnEnv fd.scope s.heap.objs.size a (fd.qualname ++ ".<locals>.") fd.code).kindOf [(Str.ofString p, w)] (fun _ => none) z) := fun z c e => x.cell z c (hcs ▸ e)
  have hab : ∀ z c, (z, c) ∈ cs → s.heap.objs.size < c := fun z c e => x.above z c (hcs ▸ e)
  have hap : cs.Pairwise fun x y => x.2 ≠ y.2 := by have := x.apart; exact hcs ▸ this
  have hns : h₁.Ns s.heap.objs.size (bindL (fnEnv fd.scope s.heap.objs.size a (fd.qualname ++ ".<locals>.") fd.code).kindOf [(Str.ofString p, w)] (fun _ => none)) := x.toInCall.ns
  have hmm : ∀ b ∈ s.heap.objs.size :: cs.filterMap (fun p => cs.lookup p.1), b = s.heap.objs.size ∨ ∃ z, cs.lookup z = some b := by
    intro b hb
    rcases List.mem_cons.mp hb with rfl | hb
    · exact .inl rfl
    · obtain ⟨p, hp, e⟩ := List.mem_filterMap.mp hb
      exact .inr ⟨p.1, e⟩
  have hmine : ∀ b ∈ s.heap.objs.size :: cs.filterMap (fun p => cs.lookup p.1), s.heap.get? b = none := by
    intro b hb
    rcases hmm b hb with rfl | ⟨z, hz⟩
    · exact fresh_size _
    · exact get_ge (Nat.le_of_lt (hab z b (mem_of_lookup hz)))
  have hcm : ∀ z c, cs.lookup z = some c → c ∈ s.heap.objs.size :: cs.filterMap (fun p => cs.lookup p.1) := fun z c e =>
    List.mem_cons_of_mem _ (List.mem_filterMap.mpr ⟨(z, c), mem_of_lookup e, e⟩)
  have le0 : Le ⟨s.heap.get?, fun _ => none⟩ (view ([] ++ (s.heap.objs.size :: cs.filterMap (fun p => cs.lookup p.1))) (fun _ => none) { s with heap := h₁, toks := tk }) := by
    refine ⟨fun b o e => view_mk (fun hm => ?_) (hk₁ b o e), fun _ _ e => by cases e⟩
    have := hmine b hm
    have e : s.heap.get? b = some o := e
    rw [e] at this; cases this
  have hkp : (fnEnv fd.scope s.heap.objs.size a (fd.qualname ++ ".<locals>.") fd.code).kindOf (Str.ofString p) = some .local := hpl
  have habs : Abs (fnCx W (A.deeper (fnEnv fd.scope s.heap.objs.size a (fd.qualname ++ ".<locals>.") fd.code)) fd.scope s.heap.objs.size a (fd.qualname ++ ".<locals>.") fd.code) []
      (s.heap.objs.size :: cs.filterMap (fun p => cs.lookup p.1)) (fun _ => none) [(p, .val v)] { s with heap := h₁, toks := tk } := by
    refine ⟨fun b o e => le0.ob b o (by rw [← hbase]; exact e), fun b hb => ?_, fun b hb hF => (by cases hF), ⟨htk, fun _ _ e => by cases e⟩,
      bindL (fnEnv fd.scope s.heap.objs.size a (fd.qualname ++ ".<locals>.") fd.code).kindOf [(Str.ofString p, w)] (fun _ => none), bindC (fnEnv fd.scope s.heap.objs.size a (fd.qualname ++ ".<locals>.") fd.code).kindOf [(Str.ofString p, w)] (fun _ => none), ?_⟩
    · rcases hmm b hb with rfl | ⟨z, hz⟩
      · obtain ⟨o, _, _, ho, _⟩ := hns
        show (h₁.get? s.heap.objs.size).isSome = true
        rw [ho]; rfl
      · obtain ⟨o, ho, _⟩ := hcell z b hz
        show (h₁.get? b).isSome = true
        rw [ho]; rfl
    · refine { ns := hns, cells := fun z c e => hcell z c (hcs' ▸ e), apart := fun z y c e1 e2 => ?_, lc := fun z c e => ?_, has := fun z hz => ?_, lm := List.mem_cons_self, cown := fun z c e => hcm z c (hcs' ▸ e), cmine := fun _ z c e => hcm z c (hcs' ▸ e), slots := ?_, own := ?_, dis := ?_ }
      · exact name_of_addr hap (mem_of_lookup (hcs' ▸ e1)) (mem_of_lookup (hcs' ▸ e2))
      · exact Nat.ne_of_gt (hab z c (mem_of_lookup (hcs' ▸ e)))
      · rcases hz with hz | hz
        · have := cellsFrom_has fd.scope.names (s.heap.objs.size + 1) [] hz
          exact Option.isSome_iff_exists.mp this
        · have hz : fd.scope.names.lookup z = some .free := hz
          have := List.all_eq_true.mp hnf _ (mem_of_lookup hz)
          simp at this
      · intro z sl hz
        simp only [find] at hz
        by_cases hzp : Str.ofString p = z
        · rw [if_pos hzp] at hz
          cases hz
          subst hzp
          refine ⟨w, .inl ?_, hr.mono le0⟩
          unfold valAt
          have hkp' : (fnCx W (A.deeper (fnEnv fd.scope s.heap.objs.size a (fd.qualname ++ ".<locals>.") fd.code)) fd.scope s.heap.objs.size a (fd.qualname ++ ".<locals>.") fd.code).env.kindOf (Str.ofString p) = some .local := hpl
          rw [hkp']
          show bindL _ [(Str.ofString p, w)] _ (Str.ofString p) = some w
          unfold bindL bindL
          rw [if_pos hkp]; simp
        · rw [if_neg hzp] at hz; cases hz
      · intro z sl b hz ho
        simp only [find] at hz
        split at hz
        · cases hz; cases ho
        · cases hz
      · intro z y sl sl' b hz _ ho
        simp only [find] at hz
        split at hz
        · cases hz; cases ho
        · cases hz
  refine wpAny_mono (walk _ _ _ _ okn [] _ _ _ habs) ?_ fun _ _ x => x.elim
  rintro f s2 ⟨fl, σ2, m2, T2, hK, p2, a2, r2⟩
  have hs2 : ∃ h' tk, s2 = { s with heap := h', toks := tk } := by
    obtain ⟨h', tk', rfl⟩ := p2.same
    exact ⟨h', tk', rfl⟩
  have hkeep : ∀ b o, s.heap.get? b = some o → s2.heap.get? b = some o := fun b o e => view_of (p2.le.ob b o (le0.ob b o e))
  cases r2 with
  | next => cases hK
  | brk => cases hK
  | cont => cases hK
  | ret r =>
    have hK : _ = V.bool true := hK
    subst hK
    cases r
    exact hQ s2 hs2 hkeep
theorem len1 {ws : List Value} (h : ws.length = 1) : ∃ a, ws = [a] := List.length_eq_one_iff.mp h
theorem len2 {ws : List Value} (h : ws.length = 2) : ∃ a b, ws = [a, b] := by
  match ws, h with
  | [a, b], _ => exact ⟨a, b, rfl⟩
end Sx
end
section
open PySem PySem.W PyProof.Rows PySem.Calls
set_option linter.unusedVariables false
set_option Elab.async false
set_option maxRecDepth 100000
namespace Sx

theorem methOk_str {W : Wd} {l : S} {name : Str} {id : String} (slot : PySem.Slot "str" name id) (hty : typeOf (.builtin id) = pure (.type "method_descriptor")) : MethOk W (.str l) name "str" id :=
  ⟨PySem.F.plainAttrs_str, slot, hty, fun g s va r _ => by cases r; exact ⟨rfl, fun x e => nomatch e⟩⟩
theorem methOk_dct {W : Wd} {es : List (Key × V)} {name : Str} {id : String} (slot : PySem.Slot "dict" name id) (hty : typeOf (.builtin id) = pure (.type "method_descriptor")) : MethOk W (.dct es) name "dict" id :=
  ⟨PySem.F.plainAttrs_dict, slot, hty, fun g s va r k => by
    cases r with
    | @dct x ox _ ds kvs nx h1 h0 h2 h3 r hn => exact ⟨⟨ox, k _ _ h1, h2.1⟩, fun y e => by cases e; exact ⟨ox, k _ _ h1, h2.2.1⟩⟩⟩
theorem isTy_str {W : Wd} {l : S} : IsTy W (.str l) "str" := fun g s va r _ => by cases r; rfl
theorem isTy_lst {W : Wd} {vs : List V} : IsTy W (.lst vs) "list" := fun g s va r k => by
  cases r with
  | @lst x ox _ ws nx h1 h2 h3 h4 r => exact ⟨ox, k _ _ h1, h2⟩
/-- one text after the other, each key by its value -/
noncomputable def reps : List (S × S) → S → S
  | [], x => x
  | (y, z) :: r, x => reps r (repl y z x)
noncomputable def RepOk : List (S × S) → S → Prop
  | [], _ => True
  | (y, z) :: r, x => (y ≠ z ∨ (y = [] ∧ z = [])) ∧ x.length + (x.length + 1) * z.length ≤ sizeLine ∧ RepOk r (repl y z x)
noncomputable def tabV (es : List (S × S)) : List (Key × V) := es.map fun p => (Key.s p.1, V.str p.2)

end Sx
end
section
open PySem PySem.W PyProof.Rows PySem.Calls
set_option linter.unusedVariables false
set_option Elab.async false
set_option maxRecDepth 100000
namespace Sx

theorem loop_inv {C : Cx} {target : Expr} {body orelse : List Stmt} {Q : Fl → St → Prop} (I : List V → St → Prop)
    (step : ∀ x xs σ, I (x :: xs) σ → Asg C σ target x (fun σ1 => Exs C σ1 body (fun fl σ2 => match fl with | .next => I xs σ2 | .cont => I xs σ2 | .brk => Q .next σ2 | .ret v => Q (.ret v) σ2)))
    (done : ∀ σ, I [] σ → Exs C σ orelse Q) : ∀ (xs : List V) (σ : St), I xs σ → Loop C target body orelse Q xs σ
  | [], σ, h => done σ h
  | x :: xs, σ, h => by
    refine Asg.mono (step x xs σ h) fun σ1 h1 => Tr.mono h1 fun fl σ2 h2 => ?_
    cases fl with
    | next => exact loop_inv I step done xs σ2 h2
    | cont => exact loop_inv I step done xs σ2 h2
    | brk => exact h2
    | ret v => exact h2
theorem find_putS {σ : St} {y : String} {sl : Slot} (x : String) : find (put σ (Str.ofString y) y sl) (Str.ofString x) = if y = x then some sl else find σ (Str.ofString x) := by
  rw [find_put]; simp only [ofString_inj]

/-- a known function, by its contract -/
theorem OpL.mono {C : Cx} {α β : Type} {R : PH → β → α → Prop} {vs : List V} {K K' : β → Prop} {f : List Value → Sem α} (h : OpL C R f vs K) (hk : ∀ b, K b → K' b) : OpL C R f vs K' :=
  fun own T s ws hO hr => (h own T s ws hO hr).mono hk
theorem OpL.eq {C : Cx} {f : List Value → Sem Value} {vs : List V} {b : V} {K : V → Prop} (h : OpL C (Rep C.W) f vs (fun v => v = b)) (hk : K b) : OpL C (Rep C.W) f vs K := h.mono fun _ e => e ▸ hk
end Sx
end
section
open PySem PySem.W PyProof.Rows PySem.Calls
set_option linter.unusedVariables false
set_option Elab.async false
set_option maxRecDepth 100000
namespace Sx

theorem reps_append : ∀ (a b : List (S × S)) (x : S), reps (a ++ b) x = reps b (reps a x)
  | [], _, _ => rfl
  | (y, z) :: r, b, x => reps_append r b (repl y z x)
theorem repOk_append : ∀ (a b : List (S × S)) (x : S), RepOk (a ++ b) x ↔ RepOk a x ∧ RepOk b (reps a x)
  | [], b, x => by simp [RepOk, reps]
  | (y, z) :: r, b, x => by
    have ih := repOk_append r b (repl y z x)
    simp only [List.cons_append, RepOk, reps, ih, and_assoc]
section
variable {C : Cx} {σ : St}
theorem FnAt.callee {a : Addr} {fd : FuncData} {body : List Stmt} (f : FnAt C.W a fd body) : Callee C (.ref a) := let ⟨o, ho, hd⟩ := f.at_; .fn ho hd

theorem callee_of {W : Wd} {a : Addr} {fd : FuncData} {body : List Stmt} (f : FnAt W a fd body) (e : C.W = W := by rfl) : Callee C (.ref a) := by
  subst e; exact f.callee
/-- a call of a def by its name -/
theorem ev_fn {n : Nat} (ok : C.Ok n) {L : List (String × Value)} (hG : C.W.gls = L) {f : String} {fp pos : Pos} {es : List Expr} {w : Value} {Q : V → St → Prop} (hk : C.env.kindOf (Str.ofString f) = some .globalImplicit) (hl : L.lookup f = some w) (hc : Callee C w)
    (h : EvL C σ pos es (fun vs σ2 => OpL C (Rep C.W) (fun ws => call w ws) vs (fun v => Q v σ2)))
    (hst : (starEach es C.env).all (fun x => !x.1) = true)
    (he : eval (.Call (.Name (Str.ofString f) fp) es [] pos) C.env = (do callWith pos (← eval (.Name (Str.ofString f) fp) C.env) [] (backTo pos (starEach es C.env)) (backToKw pos (keywordEach [] C.env))))
    (hd : (Str.ofString f == ("__debug__" : Str)) = false) : Ev C σ (.Call (.Name (Str.ofString f) fp) es [] pos) Q :=
  ev_call (ev_glob ok hk (v := w) (by rw [hG]; exact hl) ⟨w, rfl, hc, h⟩ hd) hst he
theorem evF_fn {n : Nat} (ok : C.Ok n) {L : List (String × Value)} (hG : C.W.gls = L) {f : String} {fp pos : Pos} {es : List Expr} {w : Value} {Q : Slot → St → Prop} (hk : C.env.kindOf (Str.ofString f) = some .globalImplicit) (hl : L.lookup f = some w) (hc : Callee C w)
    (h : EvL C σ pos es (fun vs σ2 => OpLF C (fun ws => call w ws) vs (fun v => Q v σ2)))
    (hst : (starEach es C.env).all (fun x => !x.1) = true)
    (he : eval (.Call (.Name (Str.ofString f) fp) es [] pos) C.env = (do callWith pos (← eval (.Name (Str.ofString f) fp) C.env) [] (backTo pos (starEach es C.env)) (backToKw pos (keywordEach [] C.env))))
    (hd : (Str.ofString f == ("__debug__" : Str)) = false) : EvF C σ (eval (.Call (.Name (Str.ofString f) fp) es [] pos) C.env) Q :=
  evF_call (ev_glob ok hk (v := w) (by rw [hG]; exact hl) ⟨w, rfl, hc, h⟩ hd) hst he

/-! ### displays of dicts, by their expressions -/
noncomputable def dpairs (env : Env) (pos : Pos) : List (Option Expr) → List Expr → List (Sem Value × Sem Value)
  | some k :: ks, v :: vs => (eval k env, do let x ← eval v env; standAt pos; pure x) :: dpairs env pos ks vs
  | _, _ => []
theorem dpairs_shape {env : Env} {pos : Pos} : ∀ (ks : List (Option Expr)) (vs : List Expr), ks.all (·.isSome) = true → ks.length = vs.length →
    (evalEachOpt ks env).zip ((evalEach vs env).map fun v => do let x ← v; standAt pos; pure x) = (dpairs env pos ks vs).map fun p => (some p.1, p.2)
  | [], [], _, _ => rfl
  | [], _ :: _, _, h => by simp at h
  | _ :: _, [], _, h => by simp at h
  | none :: _, _, h, _ => by simp at h
  | some k :: ks, v :: vs, h, hl => by
    have ih := dpairs_shape (env := env) (pos := pos) ks vs (by simpa using h) (by simpa using hl)
    exact congrArg (fun r => (some (eval k env), (do let x ← eval v env; standAt pos; pure x)) :: r) ih
noncomputable abbrev EvD (C : Cx) (σ : St) (pos : Pos) (ks : List (Option Expr)) (vs : List Expr) (acc : List (Key × V)) (Q : List (Key × V) → St → Prop) : Prop := EvK C (dpairs C.env pos ks vs) acc σ Q
theorem evD_cons {pos : Pos} {k v : Expr} {ks : List (Option Expr)} {vs : List Expr} {acc : List (Key × V)} {Q : List (Key × V) → St → Prop}
    (h : Ev C σ k (fun kv σ1 => ∃ key : Key, kv = key.v ∧ Ev C σ1 v (fun vv σ2 => EvD C σ2 pos ks vs (acc ++ [(key, vv)]) Q))) : EvD C σ pos (some k :: ks) (v :: vs) acc Q :=
  Tr.mono h fun kv σ1 ⟨key, e, h2⟩ => ⟨key, e, evT_stand h2⟩
theorem evF_dictE {n : Nat} (ok : C.Ok n) {keys : List (Option Expr)} {values : List Expr} {pos : Pos} {Q : Slot → St → Prop} (h : EvD C σ pos keys values [] (fun kvs σ1 => ∀ a, Q (.dict a (dsets [] kvs)) σ1))
    (h1 : keys.all (·.isSome) = true) (h2 : keys.length = values.length) (h0 : (dpairs C.env pos keys values).isEmpty = false) (hlen : (dpairs C.env pos keys values).length ≤ 15) : EvF C σ (eval (.Dict keys values pos) C.env) Q :=
  evF_dict ok h (dpairs_shape keys values h1 h2) (fun e => by rw [e] at h0; cases h0) hlen
/-- what gives a new list or dict, where a value is asked -/
theorem ev_ofF {e : Expr} {Q : V → St → Prop} (h : EvF C σ (eval e C.env) (fun sl σ1 => Q sl.v σ1)) : Ev C σ e Q := h.ev
end
end Sx
end
section
open PySem PySem.W PyProof.Rows PySem.Calls
set_option linter.unusedVariables false
set_option Elab.async false
set_option maxRecDepth 100000
namespace Sx

noncomputable def isCF : Option NameKind → Bool
  | some .cell => true
  | some .free => true
  | _ => false
noncomputable def compB (env : Env) (scope : Scope) (fv : List String) : Bool :=
  (scope.kind == .function) && (scope.names.all fun y => (y.2 != .cell) && (y.2 != .local || scope.names.lookup y.1 == some .local) && (y.2 != .free || isCF (env.kindOf y.1))) && fv.all fun x => isCF (env.kindOf (Str.ofString x)) && isCF ((relabel scope env).names.lookup (Str.ofString x))
theorem isCF_or {k : Option NameKind} (h : isCF k = true) : k = some .cell ∨ k = some .free := by
  unfold isCF at h
  split at h
  · exact .inl rfl
  · exact .inr rfl
  · cases h
theorem compOk_of {C : Cx} {scope : Scope} {fv : List String} (h : compB C.env scope fv = true) : CompOk C scope fv := by
  unfold compB at h
  rw [Bool.and_eq_true, Bool.and_eq_true, List.all_eq_true, List.all_eq_true] at h
  obtain ⟨⟨h1, h2⟩, h3⟩ := h
  refine ⟨by simpa using h1, fun y hy => ?_, fun y hy hl => ?_, fun y hy hf => ?_, fun x hx => ?_⟩
  · have := h2 y hy
    simp only [Bool.and_eq_true] at this
    simpa using this.1.1
  · have := h2 y hy
    simp only [Bool.and_eq_true, Bool.or_eq_true] at this
    have h4 := this.1.2
    rw [hl] at h4
    simpa using h4
  · have := h2 y hy
    simp only [Bool.and_eq_true, Bool.or_eq_true] at this
    have h4 := this.2
    rw [hf] at h4
    exact isCF_or (by simpa using h4)
  · have := h3 x hx
    rw [Bool.and_eq_true] at this
    exact ⟨isCF_or this.1, isCF_or this.2⟩

section
variable {C : Cx}
theorem lloop_map {target elt : Expr} {K : List V → Prop} (J : St → Prop) (f : V → V) : ∀ (xs ys : List V) (σ : St), J σ → (∀ x ∈ xs, ∀ σ, J σ → Asg C σ target x (fun σ1 => Ev C σ1 elt (fun y σ2 => y = f x ∧ J σ2))) → K (ys ++ xs.map f) → LLoop C target [] elt K xs ys σ
  | [], ys, σ, hJ, hs, hd => by rw [List.map_nil, List.append_nil] at hd; exact hd
  | x :: xs, ys, σ, hJ, hs, hd => by
    refine Asg.mono (hs x List.mem_cons_self σ hJ) fun σ1 h1 => tsts_nil ⟨fun _ => Tr.mono h1 fun y σ2 h2 => ?_, fun h => nomatch h⟩
    obtain ⟨rfl, h2⟩ := h2
    exact lloop_map J f xs _ σ2 h2 (fun z hz => hs z (List.mem_cons_of_mem _ hz)) (by rw [List.append_assoc]; exact hd)
theorem lloop_filter {target elt c : Expr} {K : List V → Prop} (J : St → Prop) (p : V → Bool) (f : V → V) : ∀ (xs ys : List V) (σ : St), J σ → (∀ x ∈ xs, ∀ σ, J σ → Asg C σ target x (fun σ1 => Tst C σ1 c (fun b σ2 => b = p x ∧ J σ2 ∧ (b = true → Ev C σ2 elt (fun y σ3 => y = f x ∧ J σ3))))) → K (ys ++ (xs.filter p).map f) → LLoop C target [c] elt K xs ys σ
  | [], ys, σ, hJ, hs, hd => by simp at hd; exact hd
  | x :: xs, ys, σ, hJ, hs, hd => by
    refine Asg.mono (hs x List.mem_cons_self σ hJ) fun σ1 h1 => tsts_one (Tr.mono h1 fun b σ2 h2 => ?_)
    obtain ⟨rfl, h2, h3⟩ := h2
    refine ⟨fun hb => Tr.mono (h3 hb) fun y σ3 h4 => ?_, fun hb => ?_⟩
    · obtain ⟨rfl, h4⟩ := h4
      rw [List.filter_cons, if_pos hb] at hd
      exact lloop_filter J p f xs _ σ3 h4 (fun z hz => hs z (List.mem_cons_of_mem _ hz)) (by rw [List.append_assoc]; exact hd)
    · rw [List.filter_cons, if_neg (by rw [hb]; decide)] at hd
      exact lloop_filter J p f xs ys σ2 h2 (fun z hz => hs z (List.mem_cons_of_mem _ hz)) hd
theorem dloop_map {target kx vx : Expr} {K : List (Key × V) → Prop} (J : St → Prop) (f : V → Key × V) : ∀ (xs : List V) (es : List (Key × V)) (σ : St), J σ → (∀ x ∈ xs, ∀ σ, J σ → Asg C σ target x (fun σ1 => Ev C σ1 kx (fun k σ2 => k = (f x).1.v ∧ Ev C σ2 vx (fun y σ3 => y = (f x).2 ∧ J σ3)))) → K (dsets es (xs.map f)) → DLoop C target [] kx vx K xs es σ
  | [], es, σ, hJ, hs, hd => hd
  | x :: xs, es, σ, hJ, hs, hd => by
    refine Asg.mono (hs x List.mem_cons_self σ hJ) fun σ1 h1 => tsts_nil ⟨fun _ => Tr.mono h1 fun k σ2 h2 => ?_, fun h => nomatch h⟩
    obtain ⟨rfl, h2⟩ := h2
    refine ⟨(f x).1, rfl, Tr.mono h2 fun y σ3 h3 => ?_⟩
    obtain ⟨rfl, h3⟩ := h3
    exact dloop_map J f xs _ σ3 h3 (fun z hz => hs z (List.mem_cons_of_mem _ hz)) hd
end
end Sx
end
section
open PySem PySem.W PyProof.Rows PySem.Calls
set_option linter.unusedVariables false
set_option Elab.async false
set_option maxRecDepth 100000
namespace Sx

noncomputable def isComp : Expr → Bool
  | .ListComp _ _ _ _ => true
  | .SetComp _ _ _ _ => true
  | .DictComp _ _ _ _ _ => true
  | _ => false
theorem swaps_no {e : Expr} {t : Option Expr} {line : Nat} {env : Env} (h : isComp e = false) : swapsWith e t line env = pure false := by
  cases e <;> first | rfl | cases h
noncomputable def swB (env : Env) (scope : Scope) (x : Str) (l1 l2 : Nat) : Bool := env.blockKind == .function && env.kindOf x == some .local && l1 == l2 && !(scope.names.any fun (n, k) => n == x && (k == .local || k == .cell))
theorem swaps_list {elt : Expr} {gens : List Comprehension} {scope : Scope} {cpos p' : Pos} {x : Str} {line : Nat} {env : Env} {b : Bool} (h : swB env scope x p'.line cpos.line = b) : swapsWith (.ListComp elt gens scope cpos) (some (.Name x p')) line env = pure b := by subst h; rfl
theorem swaps_dict {k v : Expr} {gens : List Comprehension} {scope : Scope} {cpos p' : Pos} {x : Str} {line : Nat} {env : Env} {b : Bool} (h : swB env scope x p'.line cpos.line = b) : swapsWith (.DictComp k v gens scope cpos) (some (.Name x p')) line env = pure b := by subst h; rfl
end Sx
end
section
open PySem PySem.W PyProof.Rows PySem.Calls
set_option linter.unusedVariables false
set_option Elab.async false
set_option maxRecDepth 100000
namespace Sx

section
variable {C : Cx}
theorem opL_range1 {n : Int} {K : V → Prop} (h : K (.rng 0 n)) : OpL C (Rep C.W) (fun ws => call (.type "range") ws) [.int n] K := by
  intro own T s ws hO hr
  obtain ⟨_, _, rfl, r1, hr⟩ := hr.cons_inv
  obtain rfl := hr.nil_inv
  obtain ⟨_, rfl⟩ := r1.int_inv
  refine call_range_1 ?_
  have hnew := fresh_size s.heap
  refine ⟨_, T, h, .push hO.tok (by show s.toks ≤ s.toks + 1 + 1; omega), .rng (view_mk (fun hm => hO.fresh hnew hm) (Heap.get?_push_size _ rfl))⟩
theorem opL_range2 {a b : Int} {K : V → Prop} (h : K (.rng a b)) : OpL C (Rep C.W) (fun ws => call (.type "range") ws) [.int a, .int b] K := by
  intro own T s ws hO hr
  obtain ⟨_, _, rfl, r1, hr⟩ := hr.cons_inv
  obtain ⟨_, _, rfl, r2, hr⟩ := hr.cons_inv
  obtain rfl := hr.nil_inv
  obtain ⟨_, rfl⟩ := r1.int_inv
  obtain ⟨_, rfl⟩ := r2.int_inv
  refine call_range_2 ?_
  have hnew := fresh_size s.heap
  refine ⟨_, T, h, .push hO.tok (by show s.toks ≤ s.toks + 1; omega), .rng (view_mk (fun hm => hO.fresh hnew hm) (Heap.get?_push_size _ rfl))⟩

/-! two tables with the same entries are equal -/
noncomputable def AlikeD : List (Key × V) → List (Key × V) → Prop
  | [], [] => True
  | (k, v) :: r, (k', v') :: r' => k = k' ∧ Alike 0 v v' ∧ AlikeD r r'
  | _, _ => False
end
end Sx
end
section
open PySem PySem.W PyProof.Rows PySem.Calls
set_option linter.unusedVariables false
set_option Elab.async false
set_option maxRecDepth 100000
namespace Sx
/-! loops by a counter -/
theorem loop_list {C : Cx} {target : Expr} {body orelse : List Stmt} {Q : Fl → St → Prop} {α : Type} (f : α → V) (l : List α) (I : Nat → St → Prop)
    (step : ∀ i x σ, l[i]? = some x → I i σ → Asg C σ target (f x) (fun σ1 => Exs C σ1 body (fun fl σ2 => match fl with | .next => I (i + 1) σ2 | .cont => I (i + 1) σ2 | .brk => Q .next σ2 | .ret v => Q (.ret v) σ2)))
    (done : ∀ σ, I l.length σ → Exs C σ orelse Q) {σ : St} (h : I 0 σ) {xs : List V} (hx : xs = l.map f) : Loop C target body orelse Q xs σ := by
  subst hx
  refine loop_inv (fun xs σ => ∃ i, xs = (l.drop i).map f ∧ i ≤ l.length ∧ I i σ) ?_ ?_ _ _ ⟨0, by rw [List.drop_zero], Nat.zero_le _, h⟩
  · rintro x xs σ ⟨i, hx, hi, hI⟩
    have hlt : i < l.length := by
      rcases Nat.lt_or_ge i l.length with h | h
      · exact h
      · rw [List.drop_eq_nil_of_le h] at hx; cases hx
    rw [List.drop_eq_getElem_cons hlt, List.map_cons] at hx
    injection hx with h1 h2
    subst h1; subst h2
    refine Asg.mono (step i l[i] σ (List.getElem?_eq_getElem hlt) hI) fun σ1 h1 => Tr.mono h1 fun fl σ2 h2 => ?_
    cases fl with
    | next => exact ⟨i + 1, rfl, hlt, h2⟩
    | cont => exact ⟨i + 1, rfl, hlt, h2⟩
    | brk => exact h2
    | ret v => exact h2
  · rintro σ ⟨i, hx, hi, hI⟩
    have : i = l.length := by
      rcases Nat.lt_or_ge i l.length with h | h
      · rw [List.drop_eq_getElem_cons h] at hx; cases hx
      · omega
    subst this
    exact done σ hI
theorem loop_range {C : Cx} {target : Expr} {body orelse : List Stmt} {Q : Fl → St → Prop} (a b : Int) (n : Nat) (hn : (b - a).toNat = n) (I : Nat → St → Prop)
    (step : ∀ i σ, i < n → I i σ → Asg C σ target (.int (a + i)) (fun σ1 => Exs C σ1 body (fun fl σ2 => match fl with | .next => I (i + 1) σ2 | .cont => I (i + 1) σ2 | .brk => Q .next σ2 | .ret v => Q (.ret v) σ2)))
    (done : ∀ σ, I n σ → Exs C σ orelse Q) {σ : St} (h : I 0 σ) : Loop C target body orelse Q ((List.range (b - a).toNat).map fun (i : Nat) => V.int (a + (i : Int))) σ := by
  subst hn
  refine loop_list (fun (i : Nat) => V.int (a + (i : Int))) (List.range (b - a).toNat) I ?_ ?_ h rfl
  · intro i x σ hx hI
    have hlt : i < (b - a).toNat := by
      have := List.getElem?_eq_some_iff.mp hx
      obtain ⟨h, _⟩ := this
      simpa using h
    have : x = i := by
      rw [List.getElem?_range hlt] at hx
      injection hx with hx
      exact hx.symm
    subst this
    exact step x σ hlt hI
  · intro σ hI
    rw [List.length_range] at hI
    exact done σ hI
theorem run_rng {a b : Int} (h1 : -1000000 ≤ a) (h2 : a ≤ 1000000) (h3 : -1000000 ≤ b) (h4 : b ≤ 100000000) (t : Expr) : RunOk t (.rng a b) := small_one (by omega) (by omega) (by omega) (by omega)
theorem ref_get (rs : List (S × S)) (k : S) : (dget (tabV rs) (.s k)).getD (.str k) = .str (((rs.find? fun p => p.1 = k).map (·.2)).getD k) := by
  unfold dget tabV
  induction rs with
  | nil => rfl
  | cons p r ih =>
    obtain ⟨k', v⟩ := p
    simp only [List.map_cons, List.find?_cons]
    by_cases h : k' = k
    · subst h; simp
    · have e : decide (Key.s k' = Key.s k) = false := decide_eq_false fun q => h (by injection q)
      have e2 : decide (k' = k) = false := decide_eq_false h
      simp only [e, e2]; exact ih
theorem evP_none {C : Cx} {σ : St} {Q : Option Int → St → Prop} (h : Q none σ) : EvP C σ none Q := h
theorem evP_some {C : Cx} {σ : St} {e : Expr} {Q : Option Int → St → Prop} (h : Ev C σ e (fun v σ1 => ∃ i, v = .int i ∧ Q (some i) σ1)) : EvP C σ (some e) Q := h
theorem item_str {C : Cx} {l : S} {i : Nat} {c : Nat} {K : V → Prop} (hl : l.length ≤ sizeLine) (hc : l[i]? = some c) (h : K (.str [c])) :
    Op2 C (Rep C.W) getItem (.str l) (.int i) K ∧ ∃ T id, typeLookup (.type T) "__getitem__" = pure (some (.builtin id)) ∧ IsTy C.W (.str l) T :=
  have hi : i < l.length := (List.getElem?_eq_some_iff.mp hc).1
  ⟨op_item_str (by omega) (by omega) hl (by rw [if_neg (by omega)]; simpa using hc) h, _, _, PySem.F.slot_str_getitem.lookup, isTy_str⟩
theorem item_list {C : Cx} {l : List V} {i : Nat} {v : V} {K : V → Prop} (hl : l.length ≤ sizeLine) (hc : l[i]? = some v) (h : K v) :
    Op2 C (Rep C.W) getItem (.lst l) (.int i) K ∧ ∃ T id, typeLookup (.type T) "__getitem__" = pure (some (.builtin id)) ∧ IsTy C.W (.lst l) T :=
  have hi : i < l.length := (List.getElem?_eq_some_iff.mp hc).1
  ⟨op_item_list (by omega) (by omega) hl (by rw [if_neg (by omega)]; simpa using hc) h, _, _, PySem.F.slot_list_getitem.lookup, isTy_lst⟩
theorem slc_lo (x : S) (i : Nat) : slc (some (i : Int)) none x = x.drop i := by
  rcases Nat.le_total i x.length with h | h
  · unfold slc
    have e1 : clp x.length (i : Int) = i := by unfold clp; rw [if_neg (by omega)]; omega
    simp only [e1]
    rw [List.take_of_length_le (by rw [List.length_drop]; omega)]
  · rw [List.drop_eq_nil_of_le h]
    unfold slc
    have e1 : clp x.length (i : Int) = x.length := by unfold clp; rw [if_neg (by omega)]; omega
    simp only [e1]
    simp
theorem slc_lohi (x : S) (i n : Nat) : slc (some (i : Int)) (some ((i : Int) + (n : Int))) x = (x.drop i).take n := by
  rcases Nat.le_total i x.length with h | h
  · unfold slc
    have e1 : clp x.length (i : Int) = i := by unfold clp; rw [if_neg (by omega)]; omega
    have e2 : clp x.length ((i : Int) + (n : Int)) = min (i + n) x.length := by unfold clp; rw [if_neg (by omega)]; omega
    simp only [e1, e2]
    rw [List.take_eq_take_iff, List.length_drop]; omega
  · rw [List.drop_eq_nil_of_le h]
    unfold slc
    have e1 : clp x.length (i : Int) = x.length := by unfold clp; rw [if_neg (by omega)]; omega
    simp only [e1]
    simp
theorem fmodR (i : Int) {m : Int} (hm : 0 < m) : 0 ≤ i.fmod m ∧ i.fmod m < m := ⟨Int.fmod_nonneg_of_pos i (by omega), Int.fmod_lt_of_pos i (by omega)⟩
theorem fmodN (i : Int) {m : Nat} (hm : 0 < m) : ∃ k : Nat, i.fmod m = (k : Int) ∧ k < m := by
  obtain ⟨h0, h1⟩ := fmodR i (m := m) (by omega)
  exact ⟨(i.fmod m).toNat, by omega, by omega⟩
/-- the entry of a sign, or the sign itself -/
noncomputable def rf (rs : List (S × S)) (c : Nat) : S := ((rs.find? fun p => p.1 = [c]).map (·.2)).getD [c]
theorem rf_get (rs : List (S × S)) (c : Nat) : (dget (tabV rs) (.s [c])).getD (.str [c]) = .str (rf rs c) := ref_get rs [c]
theorem get_rf {C : Cx} {rs : List (S × S)} {c : Nat} {K : V → Prop} (h : K (.str (rf rs c))) : OpL C (Rep C.W) (fun ws => call (.builtin "dict.get") ws) [.dct (tabV rs), .str [c], .str [c]] K :=
  opL_get2 (k := .s [c]) (by rw [rf_get]; exact h)
theorem get_str {C : Cx} {es : List (Key × V)} {k : S} {d : V} {K : V → Prop} (h : K ((dget es (.s k)).getD d)) : OpL C (Rep C.W) (fun ws => call (.builtin "dict.get") ws) [.dct es, .str k, d] K :=
  opL_get2 (k := .s k) h
end Sx
end
section
open PySem PySem.W PyProof.Rows PySem.Calls
set_option linter.unusedVariables false
set_option Elab.async false
set_option maxRecDepth 100000
namespace Sx
noncomputable def tset1 : List (S × S) → S → S → List (S × S)
  | [], k, v => [(k, v)]
  | (k', v') :: r, k, v => if k' = k then (k', v) :: r else (k', v') :: tset1 r k v
theorem dset_tab1 (es : List (S × S)) (k v : S) : dset (tabV es) (.s k) (.str v) = tabV (tset1 es k v) := by
  induction es with
  | nil => rfl
  | cons p r ih =>
    obtain ⟨k', v'⟩ := p
    show (if Key.s k' = Key.s k then _ else _) = _
    by_cases h : k' = k
    · subst h
      rw [if_pos rfl]
      show _ = tabV (if k' = k' then _ else _)
      rw [if_pos rfl]; rfl
    · rw [if_neg (fun e => h (by injection e))]
      show _ = tabV (if k' = k then _ else _)
      rw [if_neg h]
      show _ = (Key.s k', V.str v') :: tabV (tset1 r k v)
      rw [← ih]; rfl
noncomputable def tput (es more : List (S × S)) : List (S × S) := more.foldl (fun es p => tset1 es p.1 p.2) es
theorem dsets_tput (es more : List (S × S)) : dsets (tabV es) (tabV more) = tabV (tput es more) := by
  induction more generalizing es with
  | nil => rfl
  | cons p r ih =>
    have := ih (tset1 es p.1 p.2)
    rw [← dset_tab1] at this
    exact this
theorem tabV_length (es : List (S × S)) : (tabV es).length = es.length := by simp [tabV]
theorem find_cap1 {fv : List String} {σ : St} {x : String} {u : V} (hx : x ∈ fv) (h : find σ (Str.ofString x) = some (.val u)) : find (capSt fv σ) (Str.ofString x) = some (.val u) := by
  induction fv with
  | nil => cases hx
  | cons y r ih =>
    by_cases hy : Str.ofString y = Str.ofString x
    · have : capSt (y :: r) σ = (y, .val u) :: capSt r σ := by unfold capSt; rw [List.filterMap_cons]; simp only [hy, h]
      rw [this]
      show (if Str.ofString y = Str.ofString x then some (Slot.val u) else _) = _
      rw [if_pos hy]
    · have hx' : x ∈ r := by
        rcases List.mem_cons.mp hx with e | e
        · exact absurd (by rw [e]) hy
        · exact e
      have := ih hx'
      unfold capSt at this ⊢
      rw [List.filterMap_cons]
      split
      · exact this
      · rename_i p hp
        have : p.1 = y := by
          split at hp
          · injection hp with hp; rw [← hp]
          · cases hp
        obtain ⟨p1, p2⟩ := p
        simp only at this
        subst this
        show (if Str.ofString p1 = Str.ofString x then _ else _) = _
        rw [if_neg hy]
        assumption
section
variable {C : Cx} {σ : St}
theorem ex_append {n : Nat} (ok : C.Ok n) {x : String} {xp apos pos epos : Pos} {e : Expr} {a : Addr} {vs : List V} {Q : Fl → St → Prop}
    (hf : find σ (Str.ofString x) = some (.list a vs))
    (h : Ev C σ e (fun v σ1 => ∃ vs1, find σ1 (Str.ofString x) = some (.list a vs1) ∧ vs1.length ≤ sizeLine ∧ Q .next (put σ1 (Str.ofString x) x (.list a (vs1 ++ [v])))))
    (hxa : Str.ofString x ≠ anonS) (hn : (Str.ofString x == ("__classdict__" : Str)) = false) (hd : (Str.ofString x == ("__debug__" : Str)) = false)
    (hbase : attributeBase (.Name (Str.ofString x) xp) (Str.ofString "append") C.env (eval (.Name (Str.ofString x) xp) C.env) = eval (.Name (Str.ofString x) xp) C.env) (hline : (apos.endLine == pos.line) = true)
    (hs : starEach [e] C.env = (false, eval e C.env) :: starEach [] C.env) (hint : interactive C.env = false) (hsw : swapsWith (.Call (.Attribute (.Name (Str.ofString x) xp) (Str.ofString "append") apos) [e] [] pos) none epos.line C.env = pure false) :
    Ex C σ (.Expr (.Call (.Attribute (.Name (Str.ofString x) xp) (Str.ofString "append") apos) [e] [] pos) epos) Q :=
  ex_methO ok (sl := .list a vs) (a := a) (P := fun r => r = .none) hf rfl PySem.F.plainAttrs_list PySem.F.slot_list_append PySem.F.type_list_append
    (Tr.mono h fun v σ1 ⟨vs1, h1, h2, h3⟩ => ⟨.list a vs1, h1, rfl, opM_append h2 h3⟩) hxa hn hd hbase hline hs hint hsw
end
theorem exB {b : Bool} {P : Bool → Prop} (h : P b) : ∃ b', V.bool b = V.bool b' ∧ P b' := ⟨_, rfl, h⟩
theorem exI {i : Int} {P : Int → Prop} (h : P i) : ∃ i', V.int i = V.int i' ∧ P i' := ⟨_, rfl, h⟩
theorem exS {l : S} {P : S → Prop} (hl : l.length ≤ sizeLine) (h : P l) : ∃ l', V.str l = V.str l' ∧ l'.length ≤ sizeLine ∧ P l' := ⟨_, rfl, hl, h⟩
end Sx
end
section
open PySem PySem.W PyProof.Rows PySem.Calls
set_option linter.unusedVariables false
set_option Elab.async false
set_option maxRecDepth 100000
namespace Sx
section
variable {C : Cx} {σ : St}
noncomputable def srep (n : Nat) (x : S) : S := (List.replicate n x).flatten
theorem wp_slice_str {prog : Program} {w : World} {A : Around} {E : Value → Shared → Prop} {s : Shared} {env : Env} {value : Expr} {lower upper : Option Expr} {p pos : Pos} {Q : Value → Shared → Prop}
    (h : wpAny (model prog w) A (eval value env) (fun o s₁ => wpAny (model prog w) A (eval (.Slice lower upper none p) env) (fun i s₂ => (∃ x t, o = .str x t) ∧ wpAny (model prog w) A (getItem o i) Q E s₂) E s₁) E s) :
    wpAny (model prog w) A (eval (.Subscript value (.Slice lower upper none p) pos) env) Q E s := by
  rw [eval_Subscript]
  refine wpAny_bind (wpAny_mono h (fun o s₁ h₁ => wpAny_bind (wpAny_holding (wpAny_mono h₁ (fun i s₂ h₂ => wpAny_bind (wpAny_standAt ?_)) fun _ _ x => x)))
    fun _ _ x => x)
  obtain ⟨⟨x, t, rfl⟩, h₂⟩ := h₂
  have ht : ∀ r, letTemporaryGo value (.str x t) r = pure () := fun r => by cases value <;> rfl
  have hT := typeIs_str s₂ x t
  have fin : wpAny (model prog w) A (operate [i, .str x t] (getItem (.str x t) i)) (fun r s₃ => wpAny (model prog w) A (letTemporaryGo value (.str x t) r >>= fun _ => pure r) Q E s₃) E s₂ :=
    wpAny_operating (wpAny_mono h₂ (fun r s₃ h₃ => wpAny_bind (wpAny_of_eq (ht r) (wpAny_pure h₃))) fun _ _ x => x)
  first
    | (refine wpAny_bind ?_
       rw [getitemInPython_of_ne hT.not_modules]
       refine wpAny_bind (wpAny_specialOf hT PySem.F.slot_str_getitem.lookup ?_)
       first
         | exact wpAny_pure (wpAny_bind fin)
         | exact wpAny_bind (wpAny_pure (wpAny_bind fin))
         | exact wpAny_bind fin)
    | (refine wpAny_bind (wpAny_specialOf hT PySem.F.slot_str_getitem.lookup ?_)
       first
         | exact wpAny_bind (wpAny_pure (wpAny_bind fin))
         | exact wpAny_bind fin)
/-- t[lo:hi], a text, whatever stands ahead of the brackets -/
theorem ev_sliceT {value : Expr} {lower upper : Option Expr} {p pos : Pos} {Q : V → St → Prop}
    (h : Ev C σ value (fun a σ1 => ∃ l, a = .str l ∧ l.length ≤ sizeLine ∧ EvP C σ1 lower (fun lo σ2 => EvP C σ2 upper (fun hi σ3 => Q (.str (slc lo hi l)) σ3)))) : Ev C σ (.Subscript value (.Slice lower upper none p) pos) Q := by
  intro F mine T s hA
  refine wp_slice_str (Tr.then h hA fun va s1 a σ1 m1 T1 hq p1 a1 r1 => ?_)
  obtain ⟨l, rfl, hl, hlo⟩ := hq
  obtain ⟨t, rfl, ht1⟩ := r1.str_inv
  refine wpAny_Slice (wpAny_mono (evP_run hlo a1) ?_ fun _ _ x => x)
  rintro vl s2 ⟨lo, σ2, m2, T2, hhi, rfl, p2, a2⟩
  refine wpAny_mono (evP_run hhi a2) ?_ fun _ _ x => x
  rintro vu s3 ⟨hi, σ3, m3, T3, hq, rfl, p3, a3⟩
  rw [evalPart_none]
  refine wpAny_pure ⟨⟨_, _, rfl⟩, wpAny_getItem_str_slice (l := lo) (u := hi) (st := none) ⟨_, Heap.get?_push_size _ rfl, rfl, rfl⟩ rfl ?_⟩
  have k3 : Kp T3 s3 T3 { s3 with heap := s3.heap.push { cls := .type "slice", data := .fields #[partValue lo, partValue hi, .none] } } := .push a3.tok (Nat.le_refl _)
  refine slice_made (C := C) (own := F ++ m3) (K := fun v => Q v σ3) (a3.ownOk.keeps k3) (p3.le.tk _ _ (p2.le.tk _ _ ht1)) hl hq k3 ?_
  rintro v s4 ⟨b, T4, hq, k4, r4⟩
  exact ⟨b, σ3, m3, T4, hq, (p1.trans (p2.trans p3)).trans (k4.post a3.live), a3.keeps k4, r4⟩
end
end Sx
end
section
open PySem PySem.W PyProof.Rows PySem.Calls PySem.SeqAt
set_option linter.unusedVariables false
set_option Elab.async false
set_option maxRecDepth 100000
namespace Sx
section
variable {C : Cx} {σ : St}
theorem op_ne_lens {n : Nat} (ok : C.Ok n) {vs us : List V} (hl : vs.length ≠ us.length) {K : V → Prop} (hK : K (.bool true)) : Op2 C (Rep C.W) (compareOp .NotEq) (.lst vs) (.lst us) K := fun own T s va vb hO ra rb => by
  obtain ⟨x, ox, wx, nx, rfl, h1, h2, h3, h4, r⟩ := ra.lst_inv
  obtain ⟨y, oy, wy, ny, rfl, k1, k2, k3, k4, q⟩ := rb.lst_inv
  have hu := ok.hu
  have hc := cLine_ge
  have hs : (wx.toArray.size != wy.toArray.size) = true := by
    rw [List.size_toArray, List.size_toArray, r.length, q.length]; simpa using hl
  exact RcNeAt.lists_lengths (A := C.A) (s := s) ⟨ox, view_of h1, h2, nx, h4⟩ ⟨oy, view_of k1, k2, ny, k4⟩ hs (by omega) C.W.prog C.W.w C.X _ (.same hO.tok hK (.bool _))
end
end Sx
end
section
open PySem PySem.W PyProof.Rows PySem.Calls
set_option linter.unusedVariables false
set_option Elab.async false
set_option maxRecDepth 100000
namespace Sx

/-! ## a comprehension with two generators -/
noncomputable def genTail (e it2 : Expr) (acc : Value) (env : Env) : Sem Unit := do
  let x ← eval it2 env
  standAt it2.pos
  let x ← foldedSetIterable it2 env x
  let _ ← runOwn (.compStart e 1 (← holding [x] (pyIter x)) acc env) env
noncomputable abbrev emitL (elt : Expr) (acc : Value) (env : Env) : Sem Unit := do let _ ← call (.builtin "list.append") [acc, ← eval elt env]

theorem start_in {M : Model} {A : Around} {R : Result → Shared → Prop} {s : Shared} {prog : Program} {w : World} {elt it1 t1 it2 t2 : Expr} {scope : Scope} {pos : Pos} {it acc : Value} {env : Env}
    (h0 : codeAny (model prog w) A (.compLoop (.ListComp elt [⟨t1, it1, [], 0⟩, ⟨t2, it2, [], 0⟩] scope pos) 1 it acc env) R s)
    (h : wpAny (model prog w) A (pyIter it) (fun it' s' => codeAny (model prog w) A (.compLoop (.ListComp elt [⟨t1, it1, [], 0⟩, ⟨t2, it2, [], 0⟩] scope pos) 1 it' acc env) R s') (notedBy (model prog w) A env fun x s' => R (.error x) s') s) :
    codeAny (model prog w) A (.compStart (.ListComp elt [⟨t1, it1, [], 0⟩, ⟨t2, it2, [], 0⟩] scope pos) 1 it acc env) R s := by
  refine codeAny_of_tree ?_
  show wpAny _ _ ((compStart (.ListComp elt [⟨t1, it1, [], 0⟩, ⟨t2, it2, [], 0⟩] scope pos) 1 it acc env).onRaise (fun x => do noteFrame x env; standAt theWindowsPlace)) _ _ s
  refine wpAny_notedAt ?_
  unfold compStart
  show wpAny _ _ (ask >>= _) _ _ s
  refine wpAny_bind (wpAny_askSetting (wpAny_ite ?_))
  split
  · exact wpAny_bind (wpAny_pure (wpAny_pure ⟨rfl, h0⟩))
  · refine wpAny_bind (wpAny_rule ?_)
    show wpAny _ _ (standAt it2.pos >>= _) _ _ s
    exact wpAny_bind (wpAny_standAt (wpAny_bind (wpAny_mono h (fun it' s' h' => wpAny_pure ⟨rfl, h'⟩) fun _ _ x => x)))

section
variable {C : Cx} {σ : St}
theorem compForm_list2 {elt it1 t1 it2 t2 : Expr} {scope : Scope} {pos : Pos} :
    CompForm C (.ListComp elt [⟨t1, it1, [], 0⟩, ⟨t2, it2, [], 0⟩] scope pos) scope it1 t1 [] it1.pos (newList []) { cls := .type "list", data := .seq #[] } (fun D => .list D []) (fun acc env => genTail (.ListComp elt [⟨t1, it1, [], 0⟩, ⟨t2, it2, [], 0⟩] scope pos) it2 acc env) where
  hcl := ⟨_, _, rfl, rfl⟩
  hnew := fun E s Q h => wpAny_newObj_type h
  hfr := rfl
  hsl := fun g h D _ e => ⟨⟨rfl, [], ⟨0, e⟩, .nil⟩, rfl⟩
  hstart := fun I D env R s h0 h => codeAny_compStart_list h0 h
  hturn := fun I D env => by
    unfold turnT genTail
    simp only [bind_assoc]
    rfl
  hframe := fun I D env => rfl
  hquiet := fun I D env => rfl
  hunder := fun I D env => rfl

theorem trA_gen {n : Nat} (ok : C.Ok n) (hX : ∀ v s, C.X v s → False) {elt it1 t1 it2 t2 : Expr} {scope : Scope} {pos : Pos} {D : Addr} {sl : Slot} {Q : Slot → St → Prop}
    (h : Ev C σ it2 (fun a σ1 => ∃ xs, seqOf a = some xs ∧ RunOk t2 a ∧ CLoop C D t2 [] (emitL elt (.ref D) C.env) Q xs sl σ1)) (hs : ∀ x, foldedSetIterable it2 C.env x = pure x) :
    TrA C σ D sl (genTail (.ListComp elt [⟨t1, it1, [], 0⟩, ⟨t2, it2, [], 0⟩] scope pos) it2 (.ref D) C.env) Q := by
  intro F mine T s hD hcD hA ho hsl
  unfold genTail
  refine wpAny_bind (Tr.then h hA fun va s1 a σ1 m1 T1 hq p1 a1 r1 => ?_)
  obtain ⟨xs, hxs, hrun, hL⟩ := hq
  refine wpAny_bind (wpAny_standAt ?_)
  rw [hs]
  refine wpAny_bind (wpAny_pure (wpAny_bind (wpAny_holding (itr_of (target := t2) ok.hh hxs hrun r1 fun I h2 fp St Mid hnew hk hI hst hfp => ?_))))
  have nI : ∀ b ∈ F ++ m1, b ≠ I := fun b hb q => by have := a1.live b hb; rw [q, hnew] at this; cases this
  have IF : I ∉ F := fun hm => nI I (List.mem_append_left _ hm) rfl
  have cI : ∀ x c, C.env.cells.lookup x = some c → c ≠ I := fun x c e => by
    obtain ⟨m, cm, f⟩ := a1.frm
    exact nI c (f.cown x c e)
  have mm : ∀ b, b ∈ (F ++ [I]) ++ m1 ↔ (b ∈ F ++ m1 ∨ b = I) := fun b => by
    simp only [List.mem_append, List.mem_singleton]
    constructor
    · rintro ((h | h) | h)
      · exact .inl (.inl h)
      · exact .inr h
      · exact .inl (.inr h)
    · rintro ((h | h) | h)
      · exact .inl (.inl h)
      · exact .inr h
      · exact .inl (.inr h) 
  have le2 : Le (view (F ++ m1) T1 s1) (view ((F ++ [I]) ++ m1) T1 { s1 with heap := h2 }) := ⟨fun b o e => view_mk (fun hb => by
    rcases (mm b).mp hb with hb | rfl
    · exact view_not e hb
    · have := view_of e; rw [hnew] at this; cases this) (hk b o (view_of e)), fun _ _ e => e⟩
  have a2 : Abs C (F ++ [I]) m1 T1 σ1 { s1 with heap := h2 } := by
    refine a1.other le2 (fun b o _ e => hk b o e) (fun x c e => ⟨?_, fun o e' => hk c o e'⟩) (fun b hb => ?_) (fun b hb hF => ?_) a1.tok
    · obtain ⟨m, cm, f⟩ := a1.frm
      exact (mm c).mpr (.inl (f.cown x c e))
    · rcases (mm b).mp hb with hb | rfl
      · obtain ⟨o, ho⟩ := Option.isSome_iff_exists.mp (a1.live b hb)
        show (h2.get? b).isSome = true
        rw [hk b o ho]; rfl
      · exact hI.live 0 _ hst
    · rcases List.mem_append.mp hF with hF | hF
      · exact a1.nin b hb hF
      · exact nI b (List.mem_append_right _ hb) (List.mem_singleton.mp hF)
  have hs2 : SlotRep C.W (view ((F ++ [I]) ++ m1) T1 { s1 with heap := h2 }) h2 sl (.ref D) := hsl.mono (p1.le.trans le2) fun b hb o e => by
    rw [ho] at hb; cases hb
    exact hk _ o ((p1.far D hD).trans e)
  have key : ∀ (s2 : Shared), s2 = { s1 with heap := h2 } → codeAny C.M C.A (.compLoop (.ListComp elt [⟨t1, it1, [], 0⟩, ⟨t2, it2, [], 0⟩] scope pos) 1 (.ref I) (.ref D) C.env) (fun r s' => match r with
      | .ok f => wpAny C.M C.A (pure ()) (fun _ s' => ∃ sl' σ' mine' T', Q sl' σ' ∧ sl'.adr = some D ∧ PostX [D] F mine T s mine' T' s' ∧ Abs C F mine' T' σ' s' ∧ SlotRep C.W (view (F ++ mine') T' s') s'.heap sl' (.ref D)) C.X s'
      | .error e => cameBackBy C.M C.A C.env C.X e s') s2 := by
    rintro s2 rfl
    refine comp_loop (C := C) (c := .compLoop (.ListComp elt [⟨t1, it1, [], 0⟩, ⟨t2, it2, [], 0⟩] scope pos) 1 (.ref I) (.ref D) C.env) (ip := it2.pos) (target := t2) (ifs := []) (tail := emitL elt (.ref D) C.env) (K := Q) hX rfl ?_ rfl hI IF hD (nI D (List.mem_append_left _ hD)) (fun q => ?_) cI hcD (fun b hb hne => ?_) le2 a2 hst ho hs2 hL ?_
    · rfl
    · obtain ⟨o, ho⟩ := hfp D q (nI D (List.mem_append_left _ hD))
      exact view_not ho (List.mem_append_left _ hD)
    · obtain ⟨o, ho⟩ := hfp b hb hne
      exact ⟨o, le2.ob b o ho⟩
    · intro s' sl' σ' m' T' hK ho' same le far a' hs'
      refine wpAny_pure ⟨sl', σ', m', T', hK, ho', (p1.x [D]).trans ⟨?_, le2.trans le, fun b hb hx => ?_⟩, a', hs'⟩
      · obtain ⟨h', tk, rfl⟩ := same
        exact ⟨h', tk, rfl⟩
      · have hbD : b ≠ D := fun q => hx (by simp [q])
        obtain ⟨o, ho⟩ := Option.isSome_iff_exists.mp (a1.live b (List.mem_append_left _ hb))
        rw [far b hb hbD, ho]
        exact hk b o ho
  refine wpAny_bind (wpAny_runOwn ?_)
  refine codeAny_mono (start_in (M := C.M) (key _ rfl) (hI.iter 0 _ _ _ hst (key _ rfl))) fun r s' hr => ?_
  cases r with
  | ok f => exact hr
  | error e => exact hr

theorem cloop_map {D : Addr} {t elt : Expr} {K : Slot → St → Prop} (J : St → Prop) (f : V → V) : ∀ (zs ys : List V) (σ : St), J σ → ys.length + zs.length ≤ sizeLine →
    (∀ z ∈ zs, ∀ σ, J σ → Asg C σ t z (fun σ1 => Ev C σ1 elt (fun y σ2 => y = f z ∧ J σ2))) → (∀ σ, J σ → K (.list D (ys ++ zs.map f)) σ) → CLoop C D t [] (emitL elt (.ref D) C.env) K zs (.list D ys) σ
  | [], ys, σ, hJ, _, _, hK => by have := hK σ hJ; rw [List.map_nil, List.append_nil] at this; exact this
  | z :: zs, ys, σ, hJ, hl, hz, hK => by
    rw [List.length_cons] at hl
    refine Asg.mono (hz z List.mem_cons_self σ hJ) fun σ1 h1 => tsts_nil ⟨fun _ => ?_, fun h => nomatch h⟩
    refine trA_list (Tr.mono h1 fun y σ2 h2 => ?_)
    obtain ⟨rfl, h2⟩ := h2
    refine opM_append (by omega) ?_
    exact cloop_map J f zs _ σ2 h2 (by rw [List.length_append, List.length_singleton]; omega) (fun z hz' => hz z (List.mem_cons_of_mem _ hz')) fun σ h => by rw [List.append_assoc]; exact hK σ h

theorem cloop2_map {n : Nat} (ok : C.Ok n) (hX : ∀ v s, C.X v s → False) {D : Addr} {elt it1 t1 it2 t2 : Expr} {scope : Scope} {pos : Pos} {K : Slot → St → Prop} (J : St → Prop) (J1 : V → St → Prop) (zs : List V) (f : V → V → V)
    (hs : ∀ x, foldedSetIterable it2 C.env x = pure x) : ∀ (xs ys : List V) (σ : St), J σ → ys.length + xs.length * zs.length ≤ sizeLine →
    (∀ x ∈ xs, ∀ σ, J σ → Asg C σ t1 x (fun σ1 => Ev C σ1 it2 (fun a σ2 => seqOf a = some zs ∧ RunOk t2 a ∧ J1 x σ2))) →
    (∀ x ∈ xs, ∀ z ∈ zs, ∀ σ, J1 x σ → Asg C σ t2 z (fun σ1 => Ev C σ1 elt (fun y σ2 => y = f x z ∧ J1 x σ2))) → (∀ x σ, J1 x σ → J σ) →
    (∀ σ, J σ → K (.list D (ys ++ xs.flatMap fun x => zs.map (f x))) σ) → CLoop C D t1 [] (genTail (.ListComp elt [⟨t1, it1, [], 0⟩, ⟨t2, it2, [], 0⟩] scope pos) it2 (.ref D) C.env) K xs (.list D ys) σ
  | [], ys, σ, hJ, _, _, _, _, hK => by have := hK σ hJ; rw [List.flatMap_nil, List.append_nil] at this; exact this
  | x :: xs, ys, σ, hJ, hl, hx, hz, h1J, hK => by
    rw [List.length_cons, Nat.succ_mul] at hl
    refine Asg.mono (hx x List.mem_cons_self σ hJ) fun σ1 h1 => tsts_nil ⟨fun _ => ?_, fun h => nomatch h⟩
    refine trA_gen ok hX (Tr.mono h1 fun a σ2 h2 => ?_) hs
    obtain ⟨e, hr, h2⟩ := h2
    refine ⟨zs, e, hr, cloop_map (J1 x) (f x) zs ys σ2 h2 (by omega) (fun z hz' => hz x List.mem_cons_self z hz') fun σ3 h3 => ?_⟩
    exact cloop2_map ok hX J J1 zs f hs xs _ σ3 (h1J x σ3 h3) (by rw [List.length_append, List.length_map]; omega) (fun y hy => hx y (List.mem_cons_of_mem _ hy)) (fun y hy => hz y (List.mem_cons_of_mem _ hy)) h1J
      fun σ h => by rw [List.append_assoc]; exact hK σ h

theorem ex_assignListComp2 {n : Nat} (ok : C.Ok n) {elt it1 t1 it2 t2 : Expr} {scope : Scope} {cpos pos p' : Pos} {fv : List String} (hc : CompOk C scope fv) {x : String} (hx : isHere C (Str.ofString x) = true) {Q : Fl → St → Prop}
    (h : Ev C σ it1 (fun a σ1 => ∃ xs, seqOf a = some xs ∧ RunOk t1 a ∧ ∀ cl D L, (compCx C scope cl L).Ok n → CLoop (compCx C scope cl L) D t1 [] (genTail (.ListComp elt [⟨t1, it1, [], 0⟩, ⟨t2, it2, [], 0⟩] scope cpos) it2 (.ref D) (compCx C scope cl L).env) (fun sl _ => Q .next (put σ1 (Str.ofString x) x sl)) xs (.list D []) (capSt fv σ1)))
    (hsw : swapsWith (.ListComp elt [⟨t1, it1, [], 0⟩, ⟨t2, it2, [], 0⟩] scope cpos) (some (.Name (Str.ofString x) p')) pos.line C.env = pure true)
    (hs : ∀ x, foldedSetIterable it1 C.env x = pure x := by intro _; rfl) : Ex C σ (.Assign [.Name (Str.ofString x) p'] (.ListComp elt [⟨t1, it1, [], 0⟩, ⟨t2, it2, [], 0⟩] scope cpos) pos) Q :=
  comp_use ok compForm_list2 hc hx h hsw (by rfl) hs
end
end Sx
end
section
open PySem PySem.W PyProof.Rows PySem.Calls PySem.SeqAt
set_option linter.unusedVariables false
set_option Elab.async false
set_option maxRecDepth 100000
namespace Sx
section
variable {C : Cx} {σ : St}
/-- x.name(e, ..), x a list or dict of the frame's own that is only looked at, the answer a text -/
theorem ev_methO {n : Nat} (ok : C.Ok n) {x : String} {xp : Pos} {name : Str} {id : String} {apos pos : Pos} {es : List Expr} {sl : Slot} {a : Addr} {Q : V → St → Prop}
    (hf : find σ (Str.ofString x) = some sl) (ho : sl.adr = some a) (pa : PlainAttrs sl.ty) (slot : PySem.Slot sl.ty name id) (hty : typeOf (.builtin id) = pure (.type "method_descriptor"))
    (h : EvL C σ pos es (fun vs σ1 => ∃ sl1, find σ1 (Str.ofString x) = some sl1 ∧ sl1.adr = some a ∧ OpL C (Rep C.W) (fun ws => call (.builtin id) ws) (sl1.v :: vs) (fun v => ∃ l, v = .str l ∧ Q (.str l) σ1)))
    (hxa : Str.ofString x ≠ anonS) (hn : (Str.ofString x == ("__classdict__" : Str)) = false) (hd : (Str.ofString x == ("__debug__" : Str)) = false)
    (hbase : attributeBase (.Name (Str.ofString x) xp) name C.env (eval (.Name (Str.ofString x) xp) C.env) = eval (.Name (Str.ofString x) xp) C.env) (hst : (starEach es C.env).all (fun x => !x.1) = true) (hline : (apos.endLine == pos.line) = true) (hlen : decide (es.length < 30) = true) :
    Ev C σ (.Call (.Attribute (.Name (Str.ofString x) xp) name apos) es [] pos) Q := by
  refine Tr.intro' fun F mine T s QQ fin hA => ?_
  rw [arm_eval_Call, hbase]
  refine wpAny_bind (wpAny_Name (tr_loadO ok hA hf ho hxa hn fun hr => ?_) hd)
  refine wpAny_bind (wpAny_standAt ?_)
  have hform : methodCallForm (es.length + ([] : List Keyword).length) (backTo pos (starEach es C.env)) (backToKw pos (keywordEach [] C.env)) = true := by
    have h1 : (backTo pos (starEach es C.env)).all (fun x => !x.1) = true := by
      have h2 := any_backTo (pos := pos) hst
      rw [List.any_eq_false] at h2
      exact List.all_eq_true.mpr fun x hx => by simpa using h2 x hx
    unfold methodCallForm
    simp only [h1, Bool.true_and, List.length_nil, Nat.add_zero, List.isEmpty_nil, if_true]
    exact hlen
  have hpos : methodCallPos true (.Name (Str.ofString x) xp) C.env apos pos = pure pos := by unfold methodCallPos; simp [hline]
  obtain ⟨hT, o, hob, hod⟩ := hr.typeIs ho
  unfold methodCall
  rw [hform]
  refine wpAny_bind (wpAny_holding (getMethod_builtin hT pa slot hty (fun x hx => by cases hx; exact ⟨o, hob, hod⟩) ?_))
  refine wpAny_bind (wpAny_of_eq hpos ?_)
  refine callWith_builtin (any_backTo hst) (evalArgs_list hst (wpAny_mono (h F mine T s hA) ?_ fun _ _ x => x))
  rintro ws s1 ⟨vs, σ1, m1, T1, ⟨sl1, hf1, ho1, hop⟩, p1, a1, r1⟩
  obtain ⟨m, cm, f⟩ := a1.frm
  obtain ⟨v, hv, hr1⟩ := f.slots _ _ hf1
  have hva := hr1.ref ho1
  subst hva
  have hsub : ∀ b ∈ (F ++ m1).filter (fun b => decide (b ≠ a)), b ∈ F ++ m1 := fun b hb => (List.mem_filter.mp hb).1
  have hna : a ∉ (F ++ m1).filter (fun b => decide (b ≠ a)) := fun hb => by have := (List.mem_filter.mp hb).2; simp at this
  have hO' : OwnOk C ((F ++ m1).filter fun b => decide (b ≠ a)) T1 s1 := ⟨fun b o e => (view_sub hsub).ob b o (a1.base b o e), fun b hb => a1.live b (hsub b hb), a1.tok⟩
  refine PrimR.then (hop _ T1 s1 (.ref a :: ws) hO' (.cons (SlotRep.freeze ho1 hr1 hsub hna) (r1.mono (view_sub hsub)))) fun r s2 b T2 hq k rr => ?_
  obtain ⟨l, rfl, hq⟩ := hq
  obtain ⟨t, rfl, ht⟩ := rr.str_inv
  exact fin _ _ (.str l) _ m1 T2 hq (p1.trans (k.post a1.live)) (a1.keeps k) (.str ht)

theorem alikeL_strs : ∀ ls : List S, AlikeL 0 (ls.map V.str) (ls.map V.str)
  | [] => .nil _
  | l :: ls => .cons (.ss _ _) (alikeL_strs ls)

/-- x in ls, ls texts -/
theorem op_notIn_strs {n : Nat} (ok : C.Ok n) {x : S} {ls : List S} (hx : x ∈ ls) {K : V → Prop} (hK : K (.bool false)) : Op2 C (Rep C.W) (compareOp .NotIn) (.str x) (.lst (ls.map V.str)) K := fun own T s va vb hO ra rb => by
  obtain ⟨t, rfl, ht⟩ := ra.str_inv
  obtain ⟨y, oy, wy, ny, rfl, k1, k2, k3, k4, q⟩ := rb.lst_inv
  obtain ⟨l, hl, hm, hs⟩ := strs_of ls _ q
  let e : Value → Bool := fun v => match v with | .str z _ => decide (z = mkS x) | _ => false
  refine notIn_listAt (items := wy.toArray) e ⟨oy, view_of k1, k2, ny, k4⟩ (fun v hv => ?_) ?_
  · have hv : v ∈ wy := by simpa using hv
    rw [hl] at hv
    obtain ⟨p, hp, rfl⟩ : ∃ p ∈ l, v = .str p.1 p.2 := by
      simp only [strValues, List.mem_map] at hv
      obtain ⟨p, hp, e⟩ := hv
      exact ⟨p, hp, e.symm⟩
    exact fun prog w E Q hq => wpAny_eqBool_str (by
      have : (p.1.cps.toList == (mkS x).cps.toList) = e (.str p.1 p.2) := by
        show _ = decide (p.1 = mkS x)
        obtain ⟨z, hz, _⟩ := hs p hp
        rw [hz]
        by_cases q : z = x
        · subst q; simp
        · have : mkS z ≠ mkS x := fun h => q (by have := congrArg (fun s : PySem.Str => s.cps.toList) h; simpa using this)
          simp [q, this]
      first
        | exact this ▸ hq
        | simpa [this] using hq
        | skip)
  · have : wy.toArray.any e = true := by
      rw [List.any_toArray, hl, List.any_eq_true]
      have : mkS x ∈ l.map (·.1) := by rw [hm]; exact List.mem_map_of_mem hx
      obtain ⟨p, hp, e1⟩ := List.mem_map.mp this
      refine ⟨.str p.1 p.2, ?_, ?_⟩
      · simp only [strValues, List.mem_map]
        exact ⟨p, hp, rfl⟩
      · show decide (p.1 = mkS x) = true
        simp [e1]
    rw [this]
    exact .same hO.tok hK (.bool _)

noncomputable def maxI : List Int → Int
  | [] => 0
  | [a] => a
  | a :: b :: r => max a (maxI (b :: r))
theorem maxI_ge : ∀ (l : List Int), ∀ x ∈ l, x ≤ maxI l
  | [a], x, h => by simp at h; subst h; exact Int.le_refl _
  | a :: b :: r, x, h => by
    have ih := maxI_ge (b :: r)
    show x ≤ max a (maxI (b :: r))
    rcases List.mem_cons.mp h with rfl | h
    · omega
    · have := ih x h; omega
theorem maxI_mem : ∀ (l : List Int), l ≠ [] → maxI l ∈ l
  | [a], _ => List.mem_cons_self
  | a :: b :: r, _ => by
    have ih := maxI_mem (b :: r) (by simp)
    show max a (maxI (b :: r)) ∈ _
    rcases Int.le_total a (maxI (b :: r)) with h | h
    · rw [Int.max_eq_right h]; exact List.mem_cons_of_mem _ ih
    · rw [Int.max_eq_left h]; exact List.mem_cons_self
theorem argBest_le (bt : Nat → Nat → Bool) : ∀ k, argBest bt k ≤ k
  | 0 => Nat.le_refl _
  | k + 1 => by unfold argBest; split; exact Nat.le_refl _; exact Nat.le_succ_of_le (argBest_le bt k)
theorem argBest_max (f : Nat → Int) : ∀ k, ∀ i ≤ k, f i ≤ f (argBest (fun i j => decide (f i > f j)) k)
  | 0, i, h => by obtain rfl := Nat.le_zero.mp h; exact Int.le_refl _
  | k + 1, i, h => by
    have ih := argBest_max f k
    unfold argBest
    split
    · rename_i hg
      have hg : f (k + 1) > f (argBest (fun i j => decide (f i > f j)) k) := of_decide_eq_true hg
      rcases Nat.lt_or_ge k i with h1 | h1
      · have : i = k + 1 := by omega
        rw [this]; exact Int.le_refl _
      · have := ih i h1; omega
    · rename_i hg
      have hg : ¬ f (k + 1) > f (argBest (fun i j => decide (f i > f j)) k) := fun q => hg (decide_eq_true q)
      rcases Nat.lt_or_ge k i with h1 | h1
      · have : i = k + 1 := by omega
        rw [this]; omega
      · exact ih i h1
theorem opL_maxL {n : Nat} (ok : C.Ok n) {is : List Int} (hne : is ≠ []) {K : V → Prop} (h : K (.int (maxI is))) : OpL C (Rep C.W) (fun ws => call (.builtin "max") ws) [.lst (is.map V.int)] K := fun own T s vs hO hr => by
  obtain ⟨_, _, rfl, r1, hr⟩ := hr.cons_inv
  obtain rfl := hr.nil_inv
  obtain ⟨x, ox, wx, nx, rfl, h1, h2, h3, h4, r⟩ := r1.lst_inv
  obtain ⟨xs, rfl, e⟩ := ints_of _ _ r
  have hlen : xs.length = is.length := by rw [← e, List.length_map]
  have hpos : 0 < is.length := List.length_pos_iff.mpr hne
  refine wpAny_with_toks (n := s.toks) (Nat.le_refl _) (max_intList (xs := xs.toArray) ok.hh ⟨ox, view_of h1, h2, nx, by rw [h4]; simp [intItems]⟩ (by simpa [hlen] using hpos) fun v h' tk hv hk htk => ?_)
  have hsz : xs.toArray.size - 1 = is.length - 1 := by simp [hlen]
  rw [hsz] at hv
  obtain ⟨t, rfl⟩ := intItems_at hv
  have hat : ∀ i, i < is.length → is[i]? = some (numAt xs.toArray i) := fun i hi => by
    rw [← e, List.getElem?_map]
    have : i < xs.length := by omega
    simp [numAt, this]
  have hb := argBest_le (fun i j => decide (numAt xs.toArray i > numAt xs.toArray j)) (is.length - 1)
  have hm := argBest_max (numAt xs.toArray) (is.length - 1)
  have hv2 : numAt xs.toArray (argBest (fun i j => decide (numAt xs.toArray i > numAt xs.toArray j)) (is.length - 1)) = maxI is := by
    refine Int.le_antisymm (maxI_ge is _ (List.mem_of_getElem? (hat _ (by omega)))) ?_
    obtain ⟨i, hi, hie⟩ := List.getElem_of_mem (maxI_mem is hne)
    have h5 := hat i hi
    rw [List.getElem?_eq_getElem hi, hie] at h5
    rw [Option.some.inj h5]
    exact hm i (by omega)
  rw [hv2]
  exact ⟨_, T, h, .at hO.tok hk htk, .int _ _⟩
end
end Sx
end
section
open PySem PySem.W PyProof.Rows PySem.Calls
set_option linter.unusedVariables false
set_option Elab.async false
set_option maxRecDepth 100000
namespace Sx
/-! plain Lean: one text after the other, keys of one sign -/
theorem flatMap_congrN {α β : Type} {f g : α → List β} {l : List α} (h : ∀ x ∈ l, f x = g x) : l.flatMap f = l.flatMap g := by
  induction l with
  | nil => rfl
  | cons a r ih => rw [List.flatMap_cons, List.flatMap_cons, h a List.mem_cons_self, ih fun x hx => h x (List.mem_cons_of_mem _ hx)]
theorem replK_1 (k : Nat) (z : S) : ∀ x : S, replK [k] z 0 x = x.flatMap fun c => if c = k then z else [c]
  | [] => by simp [replK]
  | c :: r => by
    rw [replK_0, List.flatMap_cons]
    have e : [k].isPrefixOf (c :: r) = decide (c = k) := by
      show (k == c && true) = _
      rw [Bool.and_true, Bool.eq_iff_iff]; simp; exact eq_comm
    rw [e]
    by_cases h : c = k
    · rw [if_pos (by simpa using h), if_pos h]
      show z ++ replK [k] z 0 r = _
      rw [replK_1 k z r]
    · rw [if_neg (by simpa using h), if_neg h, replK_1 k z r]; rfl
theorem repl_1 (k : Nat) (z x : S) : repl [k] z x = x.flatMap fun c => if c = k then z else [c] := by
  unfold repl; rw [if_neg (by simp)]; exact replK_1 k z x
theorem flatM_le {f : Nat → S} {k : Nat} (h : ∀ c, (f c).length ≤ k) : ∀ x : S, (x.flatMap f).length ≤ x.length * k
  | [] => by simp
  | c :: r => by
    have h1 := flatM_le h r
    have h2 := h c
    rw [List.flatMap_cons, List.length_append, List.length_cons, Nat.succ_mul]
    omega
theorem repl_1_le (c : Nat) {z : S} {k : Nat} (h1 : 1 ≤ k) (hz : z.length ≤ k) (x : S) : (repl [c] z x).length ≤ x.length * k := by
  rw [repl_1]
  have h : ∀ d, (if d = c then z else [d]).length ≤ k := by
    intro d
    by_cases h : d = c
    · rw [if_pos h]; exact hz
    · rw [if_neg h]; exact h1
  exact flatM_le h x
noncomputable def One (p : S × S) : Prop := ∃ c, p.1 = [c]
theorem reps_flatMap : ∀ (ws : List (S × S)), (∀ w ∈ ws, One w) → ∀ x : S, reps ws x = x.flatMap fun c => reps ws [c]
  | [], _, x => by
    show x = x.flatMap fun c => [c]
    induction x with
    | nil => rfl
    | cons c r ih => rw [List.flatMap_cons, ← ih]; rfl
  | (k, z) :: r, h, x => by
    obtain ⟨c, hc⟩ := h (k, z) List.mem_cons_self
    have hc : k = [c] := hc
    subst hc
    have ih := reps_flatMap r fun w hw => h w (List.mem_cons_of_mem _ hw)
    show reps r (repl [c] z x) = _
    rw [ih, repl_1, List.flatMap_assoc]
    refine flatMap_congrN fun d _ => ?_
    show _ = reps r (repl [c] z [d])
    rw [repl_1, ih]
    simp
theorem reps_inert : ∀ (ws : List (S × S)) (c : Nat), (∀ w ∈ ws, One w ∧ w.1 ≠ [c]) → reps ws [c] = [c]
  | [], _, _ => rfl
  | (k, z) :: r, c, h => by
    obtain ⟨⟨d, hd⟩, hn⟩ := h (k, z) List.mem_cons_self
    have hd : k = [d] := hd
    subst hd
    have hn : c ≠ d := fun e => hn (by rw [e])
    show reps r (repl [d] z [c]) = [c]
    rw [repl_1]
    simp only [List.flatMap_cons, List.flatMap_nil, if_neg hn, List.append_nil]
    exact reps_inert r c fun w hw => h w (List.mem_cons_of_mem _ hw)
theorem repOk_one (hsz : sizeLine = 16777216) {k : Nat} (hk : 1 ≤ k) : ∀ (ws : List (S × S)) (x : S), (∀ w ∈ ws, One w ∧ w.2.length ≤ k ∧ w.1 ≠ w.2) → x.length * k ^ ws.length ≤ 2000000 → k ≤ 7 → RepOk ws x
  | [], _, _, _, _ => trivial
  | (y, z) :: r, x, h, hb, h7 => by
    obtain ⟨⟨c, hc⟩, hz, hn⟩ := h (y, z) List.mem_cons_self
    have hc : y = [c] := hc
    subst hc
    have hl : (repl [c] z x).length * k ^ r.length ≤ 2000000 := by
      refine Nat.le_trans (Nat.mul_le_mul_right _ (repl_1_le c hk hz x)) ?_
      rw [Nat.mul_assoc, Nat.mul_comm k, ← Nat.pow_succ]
      exact hb
    refine ⟨.inl hn, ?_, repOk_one hsz hk r _ (fun w hw => h w (List.mem_cons_of_mem _ hw)) hl h7⟩
    have h1 : x.length ≤ 2000000 := Nat.le_trans (Nat.le_mul_of_pos_right _ (Nat.pow_pos (by omega))) hb
    have h2 : (x.length + 1) * z.length ≤ (x.length + 1) * 7 := Nat.mul_le_mul_left _ (Nat.le_trans hz h7)
    omega
/-! signs and references -/
structure Code (E : Nat → S) (sp : Nat → Prop) : Prop where
  ref : ∀ c, sp c → ∃ w, E c = 38 :: w ∧ w ≠ [] ∧ ∀ d ∈ w, ¬ sp d
  bare : ∀ c, ¬ sp c → E c = [c]
  amp : sp 38
  pre : ∀ c d, sp c → sp d → E c <+: E d → c = d
theorem Code.ne {E : Nat → S} {sp : Nat → Prop} (h : Code E sp) (c : Nat) : E c ≠ [] := by
  by_cases hc : sp c
  · obtain ⟨w, e, _⟩ := h.ref c hc
    rw [e]; simp
  · rw [h.bare c hc]; simp
theorem Code.inj {E : Nat → S} {sp : Nat → Prop} (h : Code E sp) {c d : Nat} (hp : E c <+: E d) : c = d := by
  by_cases hc : sp c <;> by_cases hd : sp d
  · exact h.pre c d hc hd hp
  · obtain ⟨w, e, hw, _⟩ := h.ref c hc
    rw [e, h.bare d hd] at hp
    obtain ⟨v, hv⟩ := hp
    injection hv with _ hv
    exact absurd (List.append_eq_nil_iff.mp hv).1 hw
  · obtain ⟨w, e, hw, _⟩ := h.ref d hd
    rw [e, h.bare c hc] at hp
    obtain ⟨v, hv⟩ := hp
    injection hv with hv _
    exact absurd (by rw [hv]; exact h.amp) hc
  · rw [h.bare c hc, h.bare d hd] at hp
    obtain ⟨v, hv⟩ := hp
    injection hv with hv _
theorem Code.prefix {E : Nat → S} {sp : Nat → Prop} (h : Code E sp) : ∀ (p t : S), p.flatMap E <+: t.flatMap E ↔ p <+: t
  | [], t => by simp
  | c :: p, [] => by
    simp only [List.flatMap_cons, List.flatMap_nil, List.prefix_nil, List.append_eq_nil_iff]
    constructor
    · intro e; exact absurd e.1 (h.ne c)
    · intro e; cases e
  | c :: p, d :: t => by
    rw [List.flatMap_cons, List.flatMap_cons, List.cons_prefix_cons]
    constructor
    · intro hp
      have h1 : E c <+: E d ++ t.flatMap E := (List.prefix_append _ _).trans hp
      have h2 : E d <+: E d ++ t.flatMap E := List.prefix_append _ _
      have hcd : c = d := by
        rcases List.prefix_or_prefix_of_prefix h1 h2 with h3 | h3
        · exact h.inj h3
        · exact (h.inj h3).symm
      subst hcd
      exact ⟨rfl, (h.prefix p t).mp ((List.prefix_append_right_inj (E c)).mp hp)⟩
    · rintro ⟨rfl, hp⟩
      exact (List.prefix_append_right_inj (E c)).mpr ((h.prefix p t).mpr hp)
/-- behind a row of bare signs -/
theorem Code.rest {E : Nat → S} {sp : Nat → Prop} (h : Code E sp) (t : S) : ∀ (w p : S), (∀ d ∈ w, ¬ sp d) →
    (p.flatMap E <+: w ++ t.flatMap E ↔ w.take p.length = p.take w.length ∧ t.take (p.drop w.length).length = p.drop w.length)
  | [], p, _ => by
    rw [List.nil_append, h.prefix]
    simp only [List.take_nil, List.length_nil, List.take_zero, List.drop_zero, true_and]
    rw [List.prefix_iff_eq_take]; exact eq_comm
  | x :: w, [], _ => by simp
  | x :: w, c :: p, hw => by
    have ih := h.rest t w p fun d hd => hw d (List.mem_cons_of_mem _ hd)
    have hx := hw x List.mem_cons_self
    simp only [List.flatMap_cons, List.cons_append, List.length_cons, List.take_succ_cons, List.drop_succ_cons, List.cons.injEq]
    by_cases hc : sp c
    · obtain ⟨v, e, _, _⟩ := h.ref c hc
      rw [e, List.cons_append, List.cons_prefix_cons]
      constructor
      · rintro ⟨e, _⟩; exact absurd (by rw [← e]; exact h.amp) hx
      · rintro ⟨⟨e, _⟩, _⟩; exact absurd (by rw [e]; exact hc) hx
    · rw [h.bare c hc, List.cons_append, List.nil_append, List.cons_prefix_cons, ih]
      constructor
      · rintro ⟨rfl, a, b⟩; exact ⟨⟨rfl, a⟩, b⟩
      · rintro ⟨⟨rfl, a⟩, b⟩; exact ⟨rfl, a, b⟩
end Sx
end
section
open PySem PySem.W PyProof.Rows PySem.Calls
set_option linter.unusedVariables false
set_option Elab.async false
set_option maxRecDepth 100000
namespace Sx
/-! a text as a row of elements: (-1, sign), or (level, name) for & with its run of amp; and a name or none -/
noncomputable abbrev El := Int × S
noncomputable def ampS : S := lit "amp;"
noncomputable def ampN : Nat → S
  | 0 => []
  | n + 1 => ampS ++ ampN n
theorem ampN_add (n : Nat) : ampN (n + 1) = ampS ++ ampN n := rfl
noncomputable def elS (e : El) : S := if e.1 < 0 then e.2 else 38 :: (ampN e.1.toNat ++ e.2)
noncomputable def render (es : List El) : S := es.flatMap elS
theorem render_cons (e : El) (es : List El) : render (e :: es) = elS e ++ render es := List.flatMap_cons
theorem elS_lvl (l : Nat) (w : S) : elS ((l : Int), w) = 38 :: (ampN l ++ w) := by
  unfold elS
  rw [if_neg (Int.not_lt.mpr (Int.natCast_nonneg l)), Int.toNat_natCast]
/-- signs of names -/
noncomputable abbrev plain (c : Nat) : Prop := c ≠ 38 ∧ c ≠ 60 ∧ c ≠ 62 ∧ c ≠ 34 ∧ c ≠ 39 ∧ c ≠ 10
noncomputable def namesOkB (N : List S) : Bool :=
  N.all fun n => decide (n ≠ []) && (n.all fun c => decide (plain c)) && !(n.isPrefixOf ampS) && !(ampS.isPrefixOf n) && N.all fun m => decide (n = m) || !(n.isPrefixOf m)
structure NamesOk (N : List S) : Prop where
  ne : ∀ n ∈ N, n ≠ []
  pl : ∀ n ∈ N, ∀ c ∈ n, plain c
  amp : ∀ n ∈ N, ¬ n <+: ampS ∧ ¬ ampS <+: n
  pre : ∀ n ∈ N, ∀ m ∈ N, n <+: m → n = m
theorem namesOk_of {N : List S} (h : namesOkB N = true) : NamesOk N := by
  unfold namesOkB at h
  simp only [List.all_eq_true, Bool.and_eq_true, decide_eq_true_eq, Bool.or_eq_true, Bool.not_eq_true'] at h
  refine ⟨fun n hn => (h n hn).1.1.1.1, fun n hn => (h n hn).1.1.1.2, fun n hn => ⟨fun e => ?_, fun e => ?_⟩, fun n hn m hm e => ?_⟩
  · have := (h n hn).1.1.2
    rw [List.isPrefixOf_iff_prefix.mpr e] at this; cases this
  · have := (h n hn).1.2
    rw [List.isPrefixOf_iff_prefix.mpr e] at this; cases this
  · rcases (h n hn).2 m hm with h2 | h2
    · exact h2
    · rw [List.isPrefixOf_iff_prefix.mpr e] at h2; cases h2
theorem NamesOk.sub {N M : List S} (h : NamesOk N) (hs : ∀ n ∈ M, n ∈ N) : NamesOk M :=
  ⟨fun n hn => h.ne n (hs n hn), fun n hn => h.pl n (hs n hn), fun n hn => h.amp n (hs n hn), fun n hn m hm => h.pre n (hs n hn) m (hs m hm)⟩
/-- an element by itself -/
noncomputable def ElOk (N : List S) (e : El) : Prop := (e.1 = -1 ∧ ∃ c, e.2 = [c] ∧ c ≠ 38) ∨ (∃ l : Nat, e.1 = (l : Int) ∧ (e.2 = [] ∨ e.2 ∈ N))
/-- a row of elements, read back as itself -/
noncomputable def Wf (N : List S) : List El → Prop
  | [] => True
  | e :: es => ElOk N e ∧ (0 ≤ e.1 → e.2 = [] → ∀ n ∈ ampS :: N, ¬ n <+: render es) ∧ Wf N es
theorem ampS_plain : ∀ c ∈ ampS, plain c := by decide
/-- what turns elements without touching bare signs, but for making them start with a sign that is in no name -/
noncomputable def Tame (N : List S) (f : El → El) : Prop := ∀ e, ElOk N e → f e = e ∨ ∃ c r, elS (f e) = c :: r ∧ ¬ plain c
theorem prefix_map {N : List S} {f : El → El} (hf : Tame N f) : ∀ (es : List El) (n : S), Wf N es → (∀ c ∈ n, plain c) → n <+: render (es.map f) → n <+: render es
  | _, [], _, _, _ => List.nil_prefix
  | [], c :: n, _, _, h => by simp [render] at h
  | e :: es, c :: n, hw, hp, h => by
    rw [List.map_cons, render_cons] at h
    rw [render_cons]
    rcases hf e hw.1 with he | ⟨d, r, hd, hnp⟩
    · rw [he] at h
      rcases hw.1 with ⟨h1, d, hd, _⟩ | ⟨l, h1, _⟩
      · have e1 : elS e = [d] := by unfold elS; rw [if_pos (by omega), hd]
        rw [e1] at h ⊢
        rw [List.singleton_append, List.cons_prefix_cons] at h ⊢
        exact ⟨h.1, prefix_map hf es n hw.2.2 (fun x hx => hp x (List.mem_cons_of_mem _ hx)) h.2⟩
      · have e1 : ∃ r, elS e = 38 :: r := by unfold elS; rw [if_neg (by omega)]; exact ⟨_, rfl⟩
        obtain ⟨r, e1⟩ := e1
        rw [e1, List.cons_append, List.cons_prefix_cons] at h
        exact absurd h.1 (hp c List.mem_cons_self).1
    · rw [hd, List.cons_append, List.cons_prefix_cons] at h
      exact absurd (h.1 ▸ hp c List.mem_cons_self) hnp
theorem Wf.map {N : List S} (hN : NamesOk N) {f : El → El} (hf : Tame N f) (hok : ∀ e, ElOk N e → ElOk N (f e)) (hlv : ∀ e, ElOk N e → 0 ≤ (f e).1 → (f e).2 = [] → 0 ≤ e.1 ∧ e.2 = []) : ∀ {es : List El}, Wf N es → Wf N (es.map f)
  | [], _ => trivial
  | e :: es, h => by
    refine ⟨hok e h.1, fun h0 hw n hn hp => ?_, Wf.map hN hf hok hlv h.2.2⟩
    obtain ⟨a, b⟩ := hlv e h.1 h0 hw
    refine h.2.1 a b n hn (prefix_map hf es n h.2.2 ?_ hp)
    rcases List.mem_cons.mp hn with rfl | hn
    · exact ampS_plain
    · exact hN.pl n hn
/-! escape -/
theorem ampN_plain : ∀ (n : Nat), ∀ c ∈ ampN n, plain c
  | 0, c, h => by cases h
  | n + 1, c, h => by
    rcases List.mem_append.mp h with h | h
    · exact ampS_plain c h
    · exact ampN_plain n c h
/-! one pass of unescape -/
noncomputable def rp (n z : S) (e : El) : El := if e = (0, n) then (-1, z) else e
theorem prefix_cmp {n w r : S} (h : n <+: w ++ r) : n <+: w ∨ w <+: n := List.prefix_or_prefix_of_prefix h (List.prefix_append w r)
/-- where a name stands behind an element's & -/
theorem name_here {N : List S} (hN : NamesOk N) {n : S} (hn : n ∈ N) {l : Nat} {w : S} {es : List El} (hw : w = [] ∨ w ∈ N) (hwf : w = [] → ∀ m ∈ ampS :: N, ¬ m <+: render es) : n <+: ampN l ++ (w ++ render es) ↔ l = 0 ∧ w = n := by
  constructor
  · intro h
    cases l with
    | succ l =>
      rw [ampN_add, List.append_assoc] at h
      rcases prefix_cmp h with h | h
      · exact absurd h (hN.amp n hn).1
      · exact absurd h (hN.amp n hn).2
    | zero =>
      refine ⟨rfl, ?_⟩
      have h : n <+: w ++ render es := h
      rcases hw with hw | hw
      · subst hw
        exact absurd h (hwf rfl n (List.mem_cons_of_mem _ hn))
      · rcases prefix_cmp h with h | h
        · exact (hN.pre n hn w hw h).symm
        · exact hN.pre w hw n hn h
  · rintro ⟨rfl, rfl⟩
    exact List.prefix_append _ _
theorem replK_plain (k z : S) : ∀ (x r : S), (∀ c ∈ x, c ≠ 38) → replK (38 :: k) z 0 (x ++ r) = x ++ replK (38 :: k) z 0 r
  | [], _, _ => rfl
  | c :: x, r, h => by
    have hc := h c List.mem_cons_self
    have e : (38 :: k).isPrefixOf (c :: (x ++ r)) = false := by
      show (38 == c && _) = false
      rw [show (38 == c) = false from by simpa using Ne.symm hc, Bool.false_and]
    rw [List.cons_append, replK_0, if_neg (by rw [e]; decide), replK_plain k z x r fun d hd => h d (List.mem_cons_of_mem _ hd)]; rfl
theorem replK_skip (y z : S) : ∀ (n : Nat) (x : S), replK y z n x = replK y z 0 (x.drop n)
  | 0, x => by simp
  | n + 1, [] => by simp [replK]
  | n + 1, c :: r => by rw [replK, List.drop_succ_cons]; exact replK_skip y z n r
theorem pass_render {N : List S} (hN : NamesOk N) {n : S} (hn : n ∈ N) (z : S) : ∀ (es : List El), Wf N es → replK (38 :: n) z 0 (render es) = render (es.map (rp n z))
  | [], _ => rfl
  | e :: es, h => by
    have ih := pass_render hN hn z es h.2.2
    rw [render_cons, List.map_cons, render_cons]
    rcases h.1 with ⟨h1, c, hc, h38⟩ | ⟨l, h1, hw⟩
    · obtain ⟨a, b⟩ := e
      have h1 : a = -1 := h1
      have hc : b = [c] := hc
      subst h1; subst hc
      have e1 : rp n z (-1, [c]) = (-1, [c]) := if_neg (fun e => by injection e with e _; cases e)
      rw [e1]
      show replK _ _ 0 ([c] ++ render es) = [c] ++ _
      rw [replK_plain n z [c] _ (fun d hd => by rw [List.mem_singleton.mp hd]; exact h38), ih]
    · obtain ⟨a, b⟩ := e
      have h1 : a = (l : Int) := h1
      subst h1
      have hwf : b = [] → ∀ m ∈ ampS :: N, ¬ m <+: render es := fun hb => h.2.1 (Int.natCast_nonneg l) hb
      have hit := name_here hN hn (l := l) (es := es) hw hwf
      have hpb : ∀ c ∈ ampN l ++ b, c ≠ 38 := by
        intro c hc
        rcases List.mem_append.mp hc with hc | hc
        · exact (ampN_plain l c hc).1
        · rcases hw with hw | hw
          · have hw : b = [] := hw
            rw [hw] at hc; cases hc
          · exact (hN.pl b hw c hc).1
      rw [elS_lvl, List.cons_append, replK_0, List.append_assoc]
      have ep : (38 :: n).isPrefixOf (38 :: (ampN l ++ (b ++ render es))) = n.isPrefixOf (ampN l ++ (b ++ render es)) := by
        show (38 == 38 && _) = _; rfl
      rw [ep]
      by_cases hh : l = 0 ∧ b = n
      · rw [if_pos (List.isPrefixOf_iff_prefix.mpr (hit.mpr hh))]
        obtain ⟨rfl, rfl⟩ := hh
        have e1 : rp b z (((0 : Nat) : Int), b) = (-1, z) := if_pos rfl
        rw [e1]
        show z ++ replK _ _ b.length (b ++ render es) = z ++ _
        rw [replK_skip, List.drop_left, ih]
      · rw [if_neg (fun e => hh (hit.mp (List.isPrefixOf_iff_prefix.mp e)))]
        have e1 : rp n z ((l : Int), b) = ((l : Int), b) := if_neg (fun e => hh (by injection e with e1 e2; exact ⟨by omega, e2⟩))
        rw [e1, elS_lvl, ← List.append_assoc, replK_plain n z _ _ hpb, ih]; rfl
/-- the last pass: one amp; less -/
noncomputable def dec (e : El) : El := if 0 < e.1 then (e.1 - 1, e.2) else e
theorem last_render {N : List S} (hN : NamesOk N) : ∀ (es : List El), Wf N es → replK (38 :: ampS) [38] 0 (render es) = render (es.map dec)
  | [], _ => rfl
  | e :: es, h => by
    have ih := last_render hN es h.2.2
    rw [render_cons, List.map_cons, render_cons]
    rcases h.1 with ⟨h1, c, hc, h38⟩ | ⟨l, h1, hw⟩
    · obtain ⟨a, b⟩ := e
      have h1 : a = -1 := h1
      have hc : b = [c] := hc
      subst h1; subst hc
      show replK _ _ 0 ([c] ++ render es) = [c] ++ _
      rw [replK_plain ampS [38] [c] _ (fun d hd => by rw [List.mem_singleton.mp hd]; exact h38), ih]
    · obtain ⟨a, b⟩ := e
      have h1 : a = (l : Int) := h1
      subst h1
      have hpb : ∀ m, ∀ c ∈ ampN m ++ b, c ≠ 38 := by
        intro m c hc
        rcases List.mem_append.mp hc with hc | hc
        · exact (ampN_plain m c hc).1
        · rcases hw with hw | hw
          · have hw : b = [] := hw
            rw [hw] at hc; cases hc
          · exact (hN.pl b hw c hc).1
      rw [elS_lvl, List.cons_append, replK_0, List.append_assoc]
      have ep : (38 :: ampS).isPrefixOf (38 :: (ampN l ++ (b ++ render es))) = ampS.isPrefixOf (ampN l ++ (b ++ render es)) := by
        show (38 == 38 && _) = _; rfl
      rw [ep]
      cases l with
      | succ l =>
        have hp : ampS <+: ampN (l + 1) ++ (b ++ render es) := by rw [ampN_add, List.append_assoc]; exact List.prefix_append _ _
        rw [if_pos (List.isPrefixOf_iff_prefix.mpr hp)]
        have e1 : dec (((l + 1 : Nat) : Int), b) = ((l : Int), b) := by
          unfold dec
          rw [if_pos (by show (0 : Int) < ((l + 1 : Nat) : Int); omega)]
          congr 1
          show ((l + 1 : Nat) : Int) - 1 = _
          omega
        rw [e1, elS_lvl]
        show [38] ++ replK _ _ ampS.length (ampN (l + 1) ++ (b ++ render es)) = _
        rw [replK_skip, ampN_add, List.append_assoc, List.drop_left, ← List.append_assoc, replK_plain ampS [38] _ _ (hpb l), ih]
        rfl
      | zero =>
        have hnp : ¬ ampS <+: ampN 0 ++ (b ++ render es) := by
          intro hp
          have hp : ampS <+: b ++ render es := hp
          rcases hw with hw | hw
          · have hw : b = [] := hw
            subst hw
            exact h.2.1 (Int.le_refl 0) rfl ampS List.mem_cons_self hp
          · rcases prefix_cmp hp with hp | hp
            · exact (hN.amp b hw).2 hp
            · exact (hN.amp b hw).1 hp
        rw [if_neg (fun e => hnp (List.isPrefixOf_iff_prefix.mp e))]
        have e1 : dec (((0 : Nat) : Int), b) = (((0 : Nat) : Int), b) := rfl
        rw [e1, elS_lvl, ← List.append_assoc, replK_plain ampS [38] _ _ (hpb 0), ih]; rfl
end Sx
end
section
open PySem PySem.W PyProof.Rows PySem.Calls
set_option linter.unusedVariables false
set_option Elab.async false
set_option maxRecDepth 100000
namespace Sx
/-! all passes of unescape -/
noncomputable def rps (ps : List (S × S)) (e : El) : El := ps.foldl (fun e p => rp p.1 p.2 e) e
noncomputable def isSign (z : S) : Prop := ∃ s, z = [s] ∧ ¬ plain s ∧ s ≠ 38
noncomputable def keysOf (ps : List (S × S)) : List (S × S) := ps.map fun p => (38 :: p.1, p.2)
noncomputable def PsOk (N : List S) : List S → List (S × S) → Prop
  | _, [] => True
  | seen, (n, z) :: r => n ∈ N ∧ (isSign z ∨ n ∈ seen) ∧ PsOk N (n :: seen) r
theorem rp_tame {N : List S} {n z : S} (hz : isSign z) : Tame N (rp n z) := by
  intro e _
  unfold rp
  by_cases h : e = (0, n)
  · rw [if_pos h]
    obtain ⟨s, rfl, h1, _⟩ := hz
    exact .inr ⟨s, [], rfl, h1⟩
  · rw [if_neg h]; exact .inl rfl
theorem rp_wf {N : List S} (hN : NamesOk N) {n z : S} (hz : isSign z) {es : List El} (h : Wf N es) : Wf N (es.map (rp n z)) := by
  refine h.map hN (rp_tame hz) (fun e he => ?_) (fun e he h0 hw => ?_)
  · unfold rp
    by_cases h : e = (0, n)
    · rw [if_pos h]
      obtain ⟨s, rfl, _, h2⟩ := hz
      exact .inl ⟨rfl, s, rfl, h2⟩
    · rw [if_neg h]; exact he
  · unfold rp at h0 hw
    by_cases h : e = (0, n)
    · rw [if_pos h] at h0; exact absurd h0 (by show ¬ (0 : Int) ≤ -1; decide)
    · rw [if_neg h] at h0 hw; exact ⟨h0, hw⟩
theorem rp_id {n z : S} : ∀ {es : List El}, (∀ e ∈ es, e ≠ (0, n)) → es.map (rp n z) = es
  | [], _ => rfl
  | e :: es, h => by
    rw [List.map_cons, rp_id fun x hx => h x (List.mem_cons_of_mem _ hx)]
    congr 1
    exact if_neg (h e List.mem_cons_self)
theorem rps_render {N : List S} (hN : NamesOk N) : ∀ (ps : List (S × S)) (seen : List S) (es : List El), PsOk N seen ps → Wf N es → (∀ n ∈ seen, ∀ e ∈ es, e ≠ (0, n)) → reps (keysOf ps) (render es) = render (es.map (rps ps)) ∧ Wf N (es.map (rps ps))
  | [], _, es, _, h, _ => by
    have : es.map (rps []) = es := by
      have : rps [] = id := rfl
      rw [this, List.map_id]
    rw [this]; exact ⟨rfl, h⟩
  | (n, z) :: r, seen, es, hp, h, hs => by
    obtain ⟨hn, hz, hr⟩ := hp
    have e1 : repl (38 :: n) z (render es) = render (es.map (rp n z)) := by
      unfold repl
      rw [if_neg (by simp)]
      exact pass_render hN hn z es h
    have hw : Wf N (es.map (rp n z)) := by
      rcases hz with hz | hz
      · exact rp_wf hN hz h
      · rw [rp_id (hs n hz)]; exact h
    have hs' : ∀ m ∈ n :: seen, ∀ e ∈ es.map (rp n z), e ≠ (0, m) := by
      intro m hm e he
      obtain ⟨x, hx, rfl⟩ := List.mem_map.mp he
      unfold rp
      by_cases h : x = (0, n)
      · rw [if_pos h]; intro e; injection e with e _; cases e
      · rw [if_neg h]
        rcases List.mem_cons.mp hm with rfl | hm
        · exact h
        · exact hs m hm x hx
    have ih := rps_render hN r (n :: seen) _ hr hw hs'
    have e2 : es.map (rps ((n, z) :: r)) = (es.map (rp n z)).map (rps r) := by
      rw [List.map_map]; rfl
    rw [e2]
    refine ⟨?_, ih.2⟩
    show reps (keysOf r) (repl (38 :: n) z (render es)) = _
    rw [e1]; exact ih.1
theorem dec_wf {N : List S} (hN : NamesOk N) {es : List El} (h : Wf N es) : Wf N (es.map dec) := by
  refine h.map hN (fun e he => ?_) (fun e he => ?_) (fun e he h0 hw => ?_)
  · unfold dec
    by_cases h : 0 < e.1
    · rw [if_pos h]
      refine .inr ⟨38, ampN (e.1 - 1).toNat ++ e.2, ?_, by decide⟩
      unfold elS
      rw [if_neg (by show ¬ e.1 - 1 < 0; omega)]
    · rw [if_neg h]; exact .inl rfl
  · unfold dec
    by_cases h : 0 < e.1
    · rw [if_pos h]
      rcases he with ⟨h1, _⟩ | ⟨l, h1, h2⟩
      · omega
      · exact .inr ⟨l - 1, by show e.1 - 1 = _; omega, h2⟩
    · rw [if_neg h]; exact he
  · unfold dec at h0 hw
    by_cases h : 0 < e.1
    · rw [if_pos h] at hw; exact ⟨Int.le_of_lt h, hw⟩
    · rw [if_neg h] at h0 hw; exact ⟨h0, hw⟩
/-- one reading, told element by element -/
noncomputable def down (sg : List (S × S)) (e : El) : El :=
  if 0 < e.1 then (e.1 - 1, e.2) else if e.1 = 0 then (match sg.find? fun p => p.1 = e.2 with | some p => (-1, p.2) | none => e) else e
theorem rps_bare : ∀ (ps : List (S × S)) {e : El}, e.1 ≠ 0 → rps ps e = e
  | [], _, _ => rfl
  | (n, z) :: r, e, h => by
    show rps r (rp n z e) = e
    have : rp n z e = e := if_neg fun q => h (by rw [q])
    rw [this, rps_bare r h]
theorem rps_zero : ∀ (ps : List (S × S)) (w : S), rps ps (0, w) = match ps.find? fun p => p.1 = w with | some p => (-1, p.2) | none => (0, w)
  | [], w => rfl
  | (n, z) :: r, w => by
    show rps r (rp n z (0, w)) = _
    rw [List.find?_cons]
    by_cases h : n = w
    · subst h
      have : rp n z (0, n) = (-1, z) := if_pos rfl
      rw [this, rps_bare r (by decide : (-1 : Int) ≠ 0)]
      simp
    · have : rp n z (0, w) = (0, w) := if_neg fun q => h (by injection q with _ q; exact q.symm)
      rw [this, rps_zero r w]
      simp [h]
theorem down_eq {N : List S} (ps : List (S × S)) {e : El} (he : ElOk N e) : down ps e = dec (rps ps e) := by
  obtain ⟨a, b⟩ := e
  unfold down
  by_cases h0 : 0 < a
  · rw [if_pos h0, rps_bare ps (by show a ≠ 0; omega)]
    unfold dec
    rw [if_pos h0]
  · rw [if_neg h0]
    by_cases h1 : a = 0
    · subst h1
      rw [if_pos rfl, rps_zero]
      cases ps.find? fun p => p.1 = b with
      | none => rfl
      | some p => rfl
    · rw [if_neg h1, rps_bare ps h1]
      unfold dec
      rw [if_neg h0]
theorem un_render {N : List S} (hN : NamesOk N) {ps : List (S × S)} (hp : PsOk N [] ps) {es : List El} (h : Wf N es) :
    reps (keysOf ps ++ [(38 :: ampS, [38])]) (render es) = render (es.map (down ps)) ∧ Wf N (es.map (down ps)) := by
  have h1 := rps_render hN ps [] es hp h (fun n hn => by cases hn)
  have e : es.map (down ps) = (es.map (rps ps)).map dec := by
    rw [List.map_map]
    have hel : ∀ es : List El, Wf N es → ∀ x ∈ es, ElOk N x := by
      intro es
      induction es with
      | nil => intro _ x hx; cases hx
      | cons y ys ih =>
        intro h x hx
        rcases List.mem_cons.mp hx with rfl | hx
        · exact h.1
        · exact ih h.2.2 x hx
    exact List.map_congr_left fun x hx => down_eq ps (hel es h x hx)
  rw [reps_append, h1.1, e]
  refine ⟨?_, dec_wf hN h1.2⟩
  show repl (38 :: ampS) [38] _ = _
  unfold repl
  rw [if_neg (by simp)]
  exact last_render hN _ h1.2
/-- one writing, told element by element -/
noncomputable def up (nm : List (S × S)) (e : El) : El :=
  if 0 ≤ e.1 then (e.1 + 1, e.2) else match nm.find? fun p => p.1 = e.2 with | some p => (0, p.2) | none => (-1, e.2)
/-! a text, taken apart -/
noncomputable def amps : S → Nat
  | 97 :: 109 :: 112 :: 59 :: r => amps r + 1
  | _ => 0
noncomputable def nameAt (N : List S) (x : S) : S := N.foldl (fun w n => if n.isPrefixOf x then n else w) []
noncomputable def parse (N : List S) : Nat → S → List El
  | _, [] => []
  | k + 1, _ :: r => parse N k r
  | 0, c :: r => if c = 38 then ((amps r : Int), nameAt N (r.drop (4 * amps r))) :: parse N (4 * amps r + (nameAt N (r.drop (4 * amps r))).length) r else (-1, [c]) :: parse N 0 r
theorem parse_0 {N : List S} {c : Nat} {r : S} : parse N 0 (c :: r) = if c = 38 then ((amps r : Int), nameAt N (r.drop (4 * amps r))) :: parse N (4 * amps r + (nameAt N (r.drop (4 * amps r))).length) r else (-1, [c]) :: parse N 0 r := by rw [parse]
theorem parse_skip (N : List S) : ∀ (k : Nat) (x : S), parse N k x = parse N 0 (x.drop k)
  | 0, x => by simp
  | k + 1, [] => by simp [parse]
  | k + 1, c :: r => by rw [parse, List.drop_succ_cons]; exact parse_skip N k r
theorem amps_hit (r : S) : amps (ampS ++ r) = amps r + 1 := rfl
theorem amps_miss {x : S} (h : ¬ ampS <+: x) : amps x = 0 := by
  unfold amps
  split
  · rename_i r
    exact absurd (show ampS <+: ampS ++ r from List.prefix_append _ _) h
  · rfl
theorem amps_spec : ∀ (n : Nat) (x : S), x.length ≤ n → x = ampN (amps x) ++ x.drop (4 * amps x) ∧ ¬ ampS <+: x.drop (4 * amps x)
  | n, x, hl => by
    by_cases h : ampS <+: x
    · obtain ⟨r, rfl⟩ := h
      have h4 : ampS.length = 4 := rfl
      rw [List.length_append] at hl
      cases n with
      | zero => omega
      | succ n =>
        obtain ⟨a, b⟩ := amps_spec n r (by omega)
        rw [amps_hit, ampN_add, show 4 * (amps r + 1) = ampS.length + 4 * amps r by omega, ← List.drop_drop, List.drop_left]
        exact ⟨by rw [List.append_assoc, ← a], b⟩
    · rw [amps_miss h]
      exact ⟨rfl, h⟩
theorem nameAt_fold (x : S) : ∀ (M : List S) (w : S), (w = [] ∨ w <+: x) → (M.foldl (fun w n => if n.isPrefixOf x then n else w) w = w ∨ M.foldl (fun w n => if n.isPrefixOf x then n else w) w ∈ M) ∧ (M.foldl (fun w n => if n.isPrefixOf x then n else w) w = [] ∨ M.foldl (fun w n => if n.isPrefixOf x then n else w) w <+: x)
  | [], w, h => ⟨.inl rfl, h⟩
  | n :: M, w, h => by
    rw [List.foldl_cons]
    by_cases hp : n.isPrefixOf x = true
    · rw [if_pos hp]
      obtain ⟨a, b⟩ := nameAt_fold x M n (.inr (List.isPrefixOf_iff_prefix.mp hp))
      refine ⟨?_, b⟩
      rcases a with a | a
      · rw [a]; exact .inr List.mem_cons_self
      · exact .inr (List.mem_cons_of_mem _ a)
    · rw [if_neg hp]
      obtain ⟨a, b⟩ := nameAt_fold x M w h
      refine ⟨?_, b⟩
      rcases a with a | a
      · exact .inl a
      · exact .inr (List.mem_cons_of_mem _ a)
theorem nameAt_or (N : List S) (x : S) : (nameAt N x = [] ∨ nameAt N x ∈ N) ∧ nameAt N x <+: x := by
  obtain ⟨a, b⟩ := nameAt_fold x N [] (.inl rfl)
  refine ⟨a, ?_⟩
  rcases b with b | b
  · have b : nameAt N x = [] := b
    rw [b]; exact List.nil_prefix
  · exact b
theorem nameAt_none {x : S} : ∀ (M : List S) (w : S), (∀ n ∈ M, n ≠ []) → M.foldl (fun w n => if n.isPrefixOf x then n else w) w = [] → w = [] ∧ ∀ n ∈ M, ¬ n <+: x
  | [], w, _, h => ⟨h, fun n hn => by cases hn⟩
  | n :: M, w, hne, h => by
    rw [List.foldl_cons] at h
    obtain ⟨a, b⟩ := nameAt_none M _ (fun m hm => hne m (List.mem_cons_of_mem _ hm)) h
    by_cases hp : n.isPrefixOf x = true
    · rw [if_pos hp] at a; exact absurd a (hne n List.mem_cons_self)
    · rw [if_neg hp] at a
      refine ⟨a, fun m hm => ?_⟩
      rcases List.mem_cons.mp hm with rfl | hm
      · exact fun e => hp (List.isPrefixOf_iff_prefix.mpr e)
      · exact b m hm
theorem parse_ok {N : List S} (hN : NamesOk N) : ∀ (n : Nat) (x : S), x.length ≤ n → render (parse N 0 x) = x ∧ Wf N (parse N 0 x)
  | _, [], _ => by simp [parse, render, Wf]
  | 0, c :: r, h => by simp at h
  | n + 1, c :: r, h => by
    have hr : r.length ≤ n := by simpa using h
    rw [parse_0]
    by_cases hc : c = 38
    · rw [if_pos hc, parse_skip]
      obtain ⟨a, b⟩ := amps_spec r.length r (Nat.le_refl _)
      obtain ⟨p, q⟩ := nameAt_or N (r.drop (4 * amps r))
      generalize hl : amps r = l at a b p q
      generalize hw : nameAt N (r.drop (4 * l)) = w at p q
      obtain ⟨ih1, ih2⟩ := parse_ok hN n (r.drop (4 * l + w.length)) (by rw [List.length_drop]; omega)
      have e : r.drop (4 * l) = w ++ r.drop (4 * l + w.length) := by
        obtain ⟨v, hv⟩ := q
        rw [← List.drop_drop, ← hv, List.drop_left]
      refine ⟨?_, .inr ⟨l, rfl, p⟩, fun _ hw0 m hm => ?_, ih2⟩
      · rw [render_cons, ih1, elS_lvl, hc, List.cons_append, List.append_assoc, ← e, ← a]
      · have hw0 : w = [] := hw0
        rw [ih1, hw0, List.length_nil, Nat.add_zero]
        rcases List.mem_cons.mp hm with rfl | hm
        · exact b
        · rw [hw0] at hw
          exact (nameAt_none N [] hN.ne hw).2 m hm
    · rw [if_neg hc]
      obtain ⟨ih1, ih2⟩ := parse_ok hN n r hr
      refine ⟨?_, .inl ⟨rfl, c, rfl, hc⟩, fun h0 => absurd h0 (by show ¬ (0 : Int) ≤ -1; decide), ih2⟩
      rw [render_cons, ih1]; rfl
end Sx
end
section
open PySem PySem.W PyProof.Rows PySem.Calls
set_option linter.unusedVariables false
set_option Elab.async false
set_option maxRecDepth 100000
namespace Sx
/-! ## law 02 in plain Lean -/
noncomputable def Q1 : S × S := (lit "&quot;", lit "\"")
noncomputable def Q2 : S × S := (lit "&#34;", lit "\"")
noncomputable def QA : S × S := (lit "&apos;", lit "'")
noncomputable def tbl : Nat → List (S × S)
  | 0 => []
  | 1 => [Q1]
  | 2 => [Q1, Q2, QA]
  | _ => [QA, Q2, Q1]
noncomputable def noL (k : Nat) : List (S × S) := if k = 0 then [] else [(lit "&lt;", lit "no")]
noncomputable def back (k : Nat) : List (S × S) := tbl k ++ noL k
noncomputable def known (k : Nat) : List (S × S) := [(lit "&lt;", lit "<"), (lit "&gt;", lit ">"), (lit "&amp;", lit "&")] ++ tbl k
noncomputable def unL2 (k : Nat) : List (S × S) := (lit "&lt;", lit "<") :: (lit "&gt;", lit ">") :: (back k ++ [(lit "&amp;", lit "&")])
noncomputable def theres : Nat → List (S × S)
  | 0 => []
  | 1 => [(lit "\"", lit "&quot;")]
  | 2 => [(lit "\"", lit "&quot;"), (lit "'", lit "&apos;")]
  | _ => [(lit "'", lit "&apos;"), (lit "\"", lit "&quot;")]
noncomputable def esL2 (k : Nat) : List (S × S) := (lit "&", lit "&amp;") :: (lit ">", lit "&gt;") :: (lit "<", lit "&lt;") :: theres k

theorem replK_short2 {y z : S} (hz : z.length ≤ y.length) (hy : 1 ≤ y.length) : ∀ (x : S) (k : Nat), (replK y z k x).length ≤ x.length - k
  | [], k => by simp [replK]
  | c :: r, k + 1 => by
    rw [replK]
    have := replK_short2 hz hy r k
    rw [List.length_cons]; omega
  | c :: r, 0 => by
    rw [replK_0]
    by_cases hp : y.isPrefixOf (c :: r) = true
    · rw [if_pos hp, List.length_append]
      have h1 := replK_short2 hz hy r (y.length - 1)
      have h2 := (List.isPrefixOf_iff_prefix.mp hp).length_le
      rw [List.length_cons] at h2 ⊢
      omega
    · rw [if_neg hp, List.length_cons, List.length_cons]
      have := replK_short2 hz hy r 0
      omega
theorem repOk_short2 (hsz : sizeLine = 16777216) : ∀ (ws : List (S × S)) (x : S), (∀ w ∈ ws, w.1 ≠ w.2 ∧ w.2.length ≤ 2 ∧ 2 ≤ w.1.length) → x.length ≤ 1000000 → RepOk ws x
  | [], _, _, _ => trivial
  | (y, z) :: r, x, h, hx => by
    obtain ⟨h1, h2, h3⟩ := h (y, z) List.mem_cons_self
    have h2 : z.length ≤ 2 := h2
    have h3 : 2 ≤ y.length := h3
    refine ⟨.inl h1, ?_, repOk_short2 hsz r _ (fun w hw => h w (List.mem_cons_of_mem _ hw)) ?_⟩
    · have := Nat.mul_le_mul_left (x.length + 1) h2
      omega
    · unfold repl
      rw [if_neg (fun e => by rw [e] at h3; simp at h3)]
      have := replK_short2 (y := y) (z := z) (by omega) (by omega) x 0
      omega
theorem un_size2 (hsz : sizeLine = 16777216) {k : Nat} (hk : k < 4) {x : S} (hx : x.length ≤ 1000000) : RepOk (unL2 k) x := by
  refine repOk_short2 hsz _ x ?_ hx
  match k, hk with
  | 0, _ => decide
  | 1, _ => decide
  | 2, _ => decide
  | 3, _ => decide
theorem es_size2 (hsz : sizeLine = 16777216) {k : Nat} (hk : k < 4) {x : S} (hx : x.length ≤ 100) : RepOk (esL2 k) x := by
  refine repOk_one hsz (k := 6) (by decide) _ x ?_ ?_ (by decide)
  · match k, hk with
    | 0, _ => exact fun w hw => by (simp only [esL2, theres, List.mem_cons, List.not_mem_nil, or_false] at hw; rcases hw with rfl | rfl | rfl <;> exact ⟨⟨_, rfl⟩, by decide, by decide⟩)
    | 1, _ => exact fun w hw => by (simp only [esL2, theres, List.mem_cons, List.not_mem_nil, or_false] at hw; rcases hw with rfl | rfl | rfl | rfl <;> exact ⟨⟨_, rfl⟩, by decide, by decide⟩)
    | 2, _ => exact fun w hw => by (simp only [esL2, theres, List.mem_cons, List.not_mem_nil, or_false] at hw; rcases hw with rfl | rfl | rfl | rfl | rfl <;> exact ⟨⟨_, rfl⟩, by decide, by decide⟩)
    | 3, _ => exact fun w hw => by (simp only [esL2, theres, List.mem_cons, List.not_mem_nil, or_false] at hw; rcases hw with rfl | rfl | rfl | rfl | rfl <;> exact ⟨⟨_, rfl⟩, by decide, by decide⟩)
  · have hl : (esL2 k).length ≤ 5 := by
      match k, hk with
      | 0, _ => decide
      | 1, _ => decide
      | 2, _ => decide
      | 3, _ => decide
    have h1 := Nat.pow_le_pow_right (n := 6) (by decide) hl
    have h2 := Nat.mul_le_mul hx h1
    omega

/-! what unescape reads, sign by sign -/
noncomputable def tails (k : Nat) : List (S × Nat) := (known k).map fun p => (p.1.drop 1, p.2.headD 0)
noncomputable def gd (K : List (S × Nat)) : Nat → S → S
  | _, [] => []
  | n + 1, _ :: r => gd K n r
  | 0, c :: r => if c = 38 then (match K.find? fun p => p.1.isPrefixOf r with | some p => p.2 :: gd K p.1.length r | none => 38 :: gd K 0 r) else c :: gd K 0 r
theorem gd_0 (K : List (S × Nat)) (c : Nat) (r : S) : gd K 0 (c :: r) = if c = 38 then (match K.find? fun p => p.1.isPrefixOf r with | some p => p.2 :: gd K p.1.length r | none => 38 :: gd K 0 r) else c :: gd K 0 r := by rw [gd]
theorem gd_skip (K : List (S × Nat)) : ∀ (n : Nat) (x : S), gd K n x = gd K 0 (x.drop n)
  | 0, x => by simp
  | n + 1, [] => by simp [gd]
  | n + 1, c :: r => by rw [gd, List.drop_succ_cons]; exact gd_skip K n r
/-- what a table of tails has to be -/
structure TailsOk (K : List (S × Nat)) : Prop where
  ne : ∀ p ∈ K, p.1 ≠ []
  pl : ∀ p ∈ K, ∀ c ∈ p.1, c ≠ 38
  pre : ∀ p ∈ K, ∀ q ∈ K, p.1 <+: q.1 → p = q
noncomputable def tOkB (K : List (S × Nat)) : Bool := K.all fun p => decide (p.1 ≠ []) && (p.1.all fun c => decide (c ≠ 38)) && K.all fun q => decide (p = q) || !(p.1.isPrefixOf q.1)
theorem tOk_of {K : List (S × Nat)} (h : tOkB K = true) : TailsOk K := by
  unfold tOkB at h
  simp only [List.all_eq_true, Bool.and_eq_true, decide_eq_true_eq, Bool.or_eq_true, Bool.not_eq_true'] at h
  refine ⟨fun p hp => (h p hp).1.1, fun p hp => (h p hp).1.2, fun p hp q hq e => ?_⟩
  rcases (h p hp).2 q hq with h2 | h2
  · exact h2
  · rw [List.isPrefixOf_iff_prefix.mpr e] at h2; cases h2
theorem tails_ok {k : Nat} (hk : k < 4) : TailsOk (tails k) := by
  match k, hk with
  | 0, _ => exact tOk_of (by decide)
  | 1, _ => exact tOk_of (by decide)
  | 2, _ => exact tOk_of (by decide)
  | 3, _ => exact tOk_of (by decide)
theorem find_hit {K : List (S × Nat)} (hK : TailsOk K) {t : S} {z : Nat} (h : (t, z) ∈ K) (x : S) : K.find? (fun p => p.1.isPrefixOf (t ++ x)) = some (t, z) := by
  cases e : K.find? (fun p => p.1.isPrefixOf (t ++ x)) with
  | none =>
    have := List.find?_eq_none.mp e (t, z) h
    exact absurd (List.isPrefixOf_iff_prefix.mpr (List.prefix_append t x)) this
  | some q =>
    have hq := List.mem_of_find?_eq_some e
    have hp : q.1 <+: t ++ x := List.isPrefixOf_iff_prefix.mp (by simpa using List.find?_some e)
    rcases prefix_cmp hp with h1 | h1
    · rw [hK.pre q hq _ h h1]
    · rw [hK.pre _ h q hq h1]
theorem gd_ref {K : List (S × Nat)} (hK : TailsOk K) {t : S} {z : Nat} (h : (t, z) ∈ K) (x : S) : gd K 0 (38 :: (t ++ x)) = z :: gd K 0 x := by
  rw [gd_0, if_pos rfl, find_hit hK h x]
  show z :: gd K t.length (t ++ x) = _
  rw [gd_skip, List.drop_left]
theorem gd_sign {K : List (S × Nat)} {c : Nat} (h : c ≠ 38) (x : S) : gd K 0 (c :: x) = c :: gd K 0 x := by rw [gd_0, if_neg h]
theorem gd_bare {K : List (S × Nat)} {x : S} (h : ∀ p ∈ K, ¬ p.1 <+: x) : gd K 0 (38 :: x) = 38 :: gd K 0 x := by
  rw [gd_0, if_pos rfl, List.find?_eq_none.mpr fun p hp q => h p hp (List.isPrefixOf_iff_prefix.mp q)]
theorem gd_plain (K : List (S × Nat)) : ∀ (x r : S), (∀ c ∈ x, c ≠ 38) → gd K 0 (x ++ r) = x ++ gd K 0 r
  | [], _, _ => rfl
  | c :: x, r, h => by rw [List.cons_append, gd_sign (h c List.mem_cons_self), gd_plain K x r fun d hd => h d (List.mem_cons_of_mem _ hd)]; rfl

/-- the rows of unescape give just that -/
theorem gd_render {N : List S} (hN : NamesOk N) {K : List (S × Nat)} (hK : TailsOk K) (hA : (ampS, 38) ∈ K) (sg : List (S × S)) (hsg : ∀ n ∈ N, ∃ z, sg.find? (fun p => p.1 = n) = some (n, [z]) ∧ (n, z) ∈ K) (hs0 : sg.find? (fun p => p.1 = []) = none) (hKN : ∀ p ∈ K, p.1 ∈ ampS :: N) :
    ∀ es : List El, Wf N es → gd K 0 (render es) = render (es.map (down sg))
  | [], _ => by show gd K 0 [] = _; simp [gd, render]
  | e :: es, h => by
    obtain ⟨he, hb, ht⟩ := h
    have ih := gd_render hN hK hA sg hsg hs0 hKN es ht
    rw [render_cons, List.map_cons, render_cons]
    obtain ⟨a, w⟩ := e
    rcases he with ⟨h1, c, h2, h3⟩ | ⟨l, h1, hw⟩
    · have h1 : a = -1 := h1
      have h2 : w = [c] := h2
      subst h1; subst h2
      show gd K 0 (c :: render es) = c :: render _
      rw [gd_sign h3, ih]
    · have h1 : a = (l : Int) := h1
      subst h1
      have hwp : ∀ c ∈ w, c ≠ 38 := by
        rcases hw with hw | hw
        · have hw : w = [] := hw
          subst hw; exact fun c h => by cases h
        · exact fun c hc => (hN.pl w hw c hc).1
      rw [elS_lvl]
      cases l with
      | succ l =>
        rw [show down sg (((l + 1 : Nat) : Int), w) = ((l : Int), w) from by unfold down; rw [if_pos (by show (0 : Int) < ((l + 1 : Nat) : Int); omega)]; simp]
        rw [elS_lvl, ampN_add, List.append_assoc, List.cons_append, List.append_assoc, gd_ref hK hA, List.append_assoc, gd_plain K (ampN l) _ (fun c hc => (ampN_plain l c hc).1), gd_plain K w _ hwp, ih]
        simp
      | zero =>
        rcases hw with hw | hw
        · have hw : w = [] := hw
          subst hw
          have hd : down sg (((0 : Nat) : Int), []) = (0, []) := by
            unfold down
            rw [if_neg (by show ¬ (0 : Int) < ((0 : Nat) : Int); omega), if_pos (by show ((0 : Nat) : Int) = 0; rfl)]
            show (match sg.find? fun p => p.1 = [] with | some p => ((-1 : Int), p.2) | none => (0, [])) = _
            rw [hs0]
          rw [hd]
          show gd K 0 (38 :: render es) = 38 :: render _
          rw [gd_bare fun p hp => hb (by show (0 : Int) ≤ ((0 : Nat) : Int); omega) rfl p.1 (hKN p hp), ih]
        · obtain ⟨z, hz, hzK⟩ := hsg w hw
          have hd : down sg (((0 : Nat) : Int), w) = (-1, [z]) := by
            unfold down
            rw [if_neg (by show ¬ (0 : Int) < ((0 : Nat) : Int); omega), if_pos (by show ((0 : Nat) : Int) = 0; rfl)]
            show (match sg.find? fun p => p.1 = w with | some p => ((-1 : Int), p.2) | none => (0, w)) = _
            rw [hz]
          rw [hd]
          show gd K 0 (38 :: (w ++ render es)) = z :: render _
          rw [gd_ref hK hzK, ih]
noncomputable def names2 (k : Nat) : List S := ((tails k).map (·.1)).filter (· ≠ ampS)
noncomputable def sg2 (k : Nat) : List (S × S) := (lit "lt;", lit "<") :: (lit "gt;", lit ">") :: ((back k).map fun p => (p.1.drop 1, p.2))
theorem un_gd {k : Nat} (hk : k < 4) (x : S) : reps (unL2 k) x = gd (tails k) 0 x := by
  have hN : NamesOk (names2 k) := by
    match k, hk with
    | 0, _ => exact namesOk_of (by decide)
    | 1, _ => exact namesOk_of (by decide)
    | 2, _ => exact namesOk_of (by decide)
    | 3, _ => exact namesOk_of (by decide)
  obtain ⟨hr, hw⟩ := parse_ok hN x.length x (Nat.le_refl _)
  have hu : unL2 k = keysOf (sg2 k) ++ [(38 :: ampS, [38])] := by
    match k, hk with
    | 0, _ => decide
    | 1, _ => decide
    | 2, _ => decide
    | 3, _ => decide
  have sgn : ∀ s, s = 60 ∨ s = 62 ∨ s = 34 ∨ s = 39 → isSign [s] := fun s h => ⟨s, rfl, fun q => by unfold plain at q; omega, by omega⟩
  have hps : PsOk (names2 k) [] (sg2 k) := by
    match k, hk with
    | 0, _ => exact ⟨by decide, .inl (sgn 60 (by decide)), by decide, .inl (sgn 62 (by decide)), trivial⟩
    | 1, _ => exact ⟨by decide, .inl (sgn 60 (by decide)), by decide, .inl (sgn 62 (by decide)), by decide, .inl (sgn 34 (by decide)), by decide, .inr (by decide), trivial⟩
    | 2, _ => exact ⟨by decide, .inl (sgn 60 (by decide)), by decide, .inl (sgn 62 (by decide)), by decide, .inl (sgn 34 (by decide)), by decide, .inl (sgn 34 (by decide)), by decide, .inl (sgn 39 (by decide)), by decide, .inr (by decide), trivial⟩
    | 3, _ => exact ⟨by decide, .inl (sgn 60 (by decide)), by decide, .inl (sgn 62 (by decide)), by decide, .inl (sgn 39 (by decide)), by decide, .inl (sgn 34 (by decide)), by decide, .inl (sgn 34 (by decide)), by decide, .inr (by decide), trivial⟩
  have h := (un_render hN hps hw).1
  have hfin : (ampS, 38) ∈ tails k ∧ (∀ n ∈ names2 k, ∃ z ∈ [60, 62, 34, 39], (sg2 k).find? (fun p => p.1 = n) = some (n, [z]) ∧ (n, z) ∈ tails k) ∧ (sg2 k).find? (fun p => p.1 = []) = none ∧ ∀ p ∈ tails k, p.1 ∈ ampS :: names2 k := by
    match k, hk with
    | 0, _ => decide
    | 1, _ => decide
    | 2, _ => decide
    | 3, _ => decide
  have h2 := gd_render hN (tails_ok hk) hfin.1 (sg2 k) (fun n hn => let ⟨z, _, h⟩ := hfin.2.1 n hn; ⟨z, h⟩) hfin.2.2.1 hfin.2.2.2 _ hw
  rw [hr] at h h2
  rw [hu, h, h2]
end Sx
end
section
open PySem PySem.W PyProof.Rows PySem.Calls
set_option linter.unusedVariables false
set_option Elab.async false
set_option maxRecDepth 100000
namespace Sx
noncomputable def ways (k c : Nat) : List S := [c] :: (((known k).filter fun p => decide (p.2 = [c])).map (·.1))
noncomputable def hitB (k : Nat) (r : S) : Bool := (tails k).any fun p => p.1.isPrefixOf r
noncomputable def gways (k c : Nat) (r : S) : List S := if c = 38 ∧ hitB k r = true then [lit "&amp;"] else ways k c
noncomputable def everyLs (k : Nat) (R : S) : List (List S) := R.map (ways k)
noncomputable def goodLs (k : Nat) : S → List (List S)
  | [] => []
  | c :: r => gways k c r :: goodLs k r
noncomputable def stepL (E ws : List S) : List S := E.flatMap fun h => ws.map fun w => h ++ w
noncomputable def vecs : List (List S) → List (List S)
  | [] => [[]]
  | ws :: Ls => ws.flatMap fun w => (vecs Ls).map fun v => w :: v
theorem vecs_cons (ws : List S) (Ls : List (List S)) : vecs (ws :: Ls) = ws.flatMap fun w => (vecs Ls).map fun v => w :: v := rfl
noncomputable def prodL (Ls : List (List S)) : List S := Ls.foldl stepL [[]]
theorem foldl_vecs : ∀ (Ls : List (List S)) (E : List S), Ls.foldl stepL E = E.flatMap fun h => (vecs Ls).map fun v => h ++ v.flatten
  | [], E => by
    show E = E.flatMap fun h => [h ++ ([] : List S).flatten]
    induction E with
    | nil => rfl
    | cons e E ih => rw [List.flatMap_cons, ← ih]; simp
  | ws :: Ls, E => by
    rw [List.foldl_cons, foldl_vecs Ls, vecs_cons]
    unfold stepL
    rw [List.flatMap_assoc]
    refine flatMap_congrN fun h _ => ?_
    rw [List.flatMap_map, List.map_flatMap]
    refine flatMap_congrN fun w _ => ?_
    rw [List.map_map]
    refine List.map_congr_left fun v _ => ?_
    simp
theorem prodL_vecs (Ls : List (List S)) : prodL Ls = (vecs Ls).map List.flatten := by
  unfold prodL
  rw [foldl_vecs]
  simp
theorem vecs_mem {ws : List S} {Ls : List (List S)} {v : List S} : v ∈ vecs (ws :: Ls) ↔ ∃ w ∈ ws, ∃ v' ∈ vecs Ls, v = w :: v' := by
  rw [vecs_cons]
  simp only [List.mem_flatMap, List.mem_map]
  constructor
  · rintro ⟨w, hw, v', hv, rfl⟩; exact ⟨w, hw, v', hv, rfl⟩
  · rintro ⟨w, hw, v', hv, rfl⟩; exact ⟨w, hw, v', hv, rfl⟩
theorem known_form {k : Nat} (hk : k < 4) : ∀ p ∈ known k, p.1 = 38 :: p.1.drop 1 ∧ p.2 = [p.2.headD 0] := by
  match k, hk with
  | 0, _ => decide
  | 1, _ => decide
  | 2, _ => decide
  | 3, _ => decide
theorem ways_mem {k : Nat} (hk : k < 4) {c : Nat} {w : S} : w ∈ ways k c ↔ w = [c] ∨ ∃ t, (t, c) ∈ tails k ∧ w = 38 :: t := by
  unfold ways tails
  rw [List.mem_cons]
  refine or_congr Iff.rfl ?_
  constructor
  · intro h
    obtain ⟨p, hp, rfl⟩ := List.mem_map.mp h
    obtain ⟨hp, hc⟩ := List.mem_filter.mp hp
    have hc : p.2 = [c] := of_decide_eq_true hc
    refine ⟨p.1.drop 1, List.mem_map.mpr ⟨p, hp, ?_⟩, (known_form hk p hp).1⟩
    rw [hc]; rfl
  · rintro ⟨t, ht, rfl⟩
    obtain ⟨p, hp, e⟩ := List.mem_map.mp ht
    injection e with e1 e2
    obtain ⟨f1, f2⟩ := known_form hk p hp
    refine List.mem_map.mpr ⟨p, List.mem_filter.mpr ⟨hp, decide_eq_true ?_⟩, ?_⟩
    · rw [f2, e2]
    · rw [f1, e1]
theorem tail_bare {k : Nat} (hk : k < 4) : ∀ (t : S) (r : S) (v : List S), (∀ c ∈ t, c ≠ 38) → v ∈ vecs (everyLs k r) → t <+: v.flatten → ∃ r' v', r = t ++ r' ∧ v' ∈ vecs (everyLs k r') ∧ v.flatten = t ++ v'.flatten
  | [], r, v, _, hv, _ => ⟨r, v, rfl, hv, rfl⟩
  | a :: t, [], v, _, hv, hp => by
    have : v = [] := by simpa [everyLs, vecs] using hv
    subst this
    exact absurd hp.length_le (by simp)
  | a :: t, c :: r, v, ht, hv, hp => by
    obtain ⟨w, hw, v1, hv1, rfl⟩ := vecs_mem.mp hv
    rcases (ways_mem hk).mp hw with rfl | ⟨s, hs, rfl⟩
    · rw [List.flatten_cons] at hp
      have hp : a :: t <+: c :: v1.flatten := hp
      obtain ⟨ea, hp2⟩ := List.cons_prefix_cons.mp hp
      obtain ⟨r', v', er, hv', e⟩ := tail_bare hk t r v1 (fun c hc => ht c (List.mem_cons_of_mem _ hc)) hv1 hp2
      subst ea er
      exact ⟨r', v', rfl, hv', by rw [List.flatten_cons, e]; rfl⟩
    · rw [List.flatten_cons] at hp
      exact absurd (List.cons_prefix_cons.mp hp).1 (ht a List.mem_cons_self)
theorem tail_ways {k : Nat} (hk : k < 4) : ∀ p ∈ tails k, ∀ c ∈ p.1, ways k c = [[c]] := by
  match k, hk with
  | 0, _ => decide
  | 1, _ => decide
  | 2, _ => decide
  | 3, _ => decide
theorem bare_tail {k : Nat} : ∀ (t r : S) (v : List S), (∀ c ∈ t, ways k c = [[c]]) → v ∈ vecs (everyLs k (t ++ r)) → t <+: v.flatten
  | [], _, _, _, _ => List.nil_prefix
  | a :: t, r, v, ht, hv => by
    obtain ⟨w, hw, v1, hv1, rfl⟩ := vecs_mem.mp hv
    rw [ht a List.mem_cons_self, List.mem_singleton] at hw
    subst hw
    rw [List.flatten_cons]
    exact List.cons_prefix_cons.mpr ⟨rfl, bare_tail t r v1 (fun c hc => ht c (List.mem_cons_of_mem _ hc)) hv1⟩
theorem gd_le {k : Nat} (hk : k < 4) : ∀ (n : Nat) (R : S) (v : List S), R.length ≤ n → v ∈ vecs (everyLs k R) → (gd (tails k) 0 v.flatten).length ≤ R.length
  | n, [], v, _, hv => by
    have : v = [] := by simpa [everyLs, vecs] using hv
    subst this
    simp [gd]
  | 0, c :: r, v, hn, _ => by simp at hn
  | n + 1, c :: r, v, hn, hv => by
    rw [List.length_cons] at hn
    have hK := tails_ok hk
    obtain ⟨w, hw, v1, hv1, rfl⟩ := vecs_mem.mp hv
    have ih := gd_le hk n r v1 (by omega) hv1
    rw [List.flatten_cons]
    rcases (ways_mem hk).mp hw with rfl | ⟨t, ht, rfl⟩
    · by_cases hc : c = 38
      · subst hc
        show (gd (tails k) 0 (38 :: v1.flatten)).length ≤ _
        by_cases hh : ∃ p ∈ tails k, p.1 <+: v1.flatten
        · obtain ⟨p, hp, hpp⟩ := hh
          obtain ⟨r', v', rfl, hv', e⟩ := tail_bare hk p.1 r v1 (hK.pl p hp) hv1 hpp
          have ih2 := gd_le hk n r' v' (by rw [List.length_append] at hn; omega) hv'
          rw [e, gd_ref hK (show (p.1, p.2) ∈ tails k from hp), List.length_cons, List.length_cons, List.length_append]
          omega
        · rw [gd_bare fun p hp q => hh ⟨p, hp, q⟩, List.length_cons, List.length_cons]; omega
      · show (gd (tails k) 0 (c :: v1.flatten)).length ≤ _
        rw [gd_sign hc, List.length_cons, List.length_cons]; omega
    · rw [List.cons_append, gd_ref hK ht, List.length_cons, List.length_cons]; omega

noncomputable def gw (k c : Nat) (r w : S) : Bool := !(decide (c = 38) && hitB k r && decide (w = [38]))
noncomputable def goodV (k : Nat) : S → List S → Bool
  | c :: r, w :: v => gw k c r w && goodV k r v
  | _, _ => true
theorem good_iff {k : Nat} (hk : k < 4) : ∀ (R : S) (v : List S), v ∈ vecs (everyLs k R) → (gd (tails k) 0 v.flatten = R ↔ goodV k R v = true)
  | [], v, hv => by
    have : v = [] := by simpa [everyLs, vecs] using hv
    subst this
    simp [gd, goodV]
  | c :: r, v, hv => by
    have hK := tails_ok hk
    obtain ⟨w, hw, v1, hv1, rfl⟩ := vecs_mem.mp hv
    have ih := good_iff hk r v1 hv1
    rw [List.flatten_cons]
    show _ ↔ (gw k c r w && goodV k r v1) = true
    have plainly : gw k c r w = true → gd (tails k) 0 (w ++ v1.flatten) = c :: gd (tails k) 0 v1.flatten → (gd (tails k) 0 (w ++ v1.flatten) = c :: r ↔ (gw k c r w && goodV k r v1) = true) := by
      intro h1 h2
      rw [h2, h1, Bool.true_and, ← ih]
      exact ⟨fun e => by injection e, fun e => by rw [e]⟩
    rcases (ways_mem hk).mp hw with rfl | ⟨t, ht, rfl⟩
    · by_cases hc : c = 38
      · subst hc
        by_cases hh : ∃ p ∈ tails k, p.1 <+: v1.flatten
        · obtain ⟨p, hp, hpp⟩ := hh
          obtain ⟨r', v', rfl, hv', e⟩ := tail_bare hk p.1 r v1 (hK.pl p hp) hv1 hpp
          have ih2 := gd_le hk _ r' v' (Nat.le_refl _) hv'
          have hhit : hitB k (p.1 ++ r') = true := List.any_eq_true.mpr ⟨p, hp, List.isPrefixOf_iff_prefix.mpr (List.prefix_append _ _)⟩
          have hg : gw k 38 (p.1 ++ r') [38] = false := by unfold gw; rw [hhit]; rfl
          rw [hg, Bool.false_and]
          refine ⟨fun q => ?_, fun q => by cases q⟩
          have q : gd (tails k) 0 (38 :: v1.flatten) = 38 :: (p.1 ++ r') := q
          rw [e, gd_ref hK (show (p.1, p.2) ∈ tails k from hp)] at q
          have := congrArg List.length q
          have hne := List.length_pos_iff.mpr (hK.ne p hp)
          rw [List.length_cons, List.length_cons, List.length_append] at this
          omega
        · refine plainly ?_ (gd_bare fun p hp q => hh ⟨p, hp, q⟩)
          have hhit : hitB k r = false := by
            cases q : hitB k r with
            | false => rfl
            | true =>
              obtain ⟨p, hp, hpp⟩ := List.any_eq_true.mp q
              obtain ⟨r', rfl⟩ := List.isPrefixOf_iff_prefix.mp hpp
              exact absurd ⟨p, hp, bare_tail p.1 r' v1 (tail_ways hk p hp) hv1⟩ hh
          unfold gw; rw [hhit]; rfl
      · refine plainly ?_ (gd_sign hc _)
        unfold gw; rw [decide_eq_false hc]; rfl
    · refine plainly ?_ (by rw [List.cons_append, gd_ref hK ht])
      have : 38 :: t ≠ [38] := fun q => hK.ne _ ht (by injection q)
      unfold gw; rw [decide_eq_false this, Bool.and_false]; rfl
theorem gways_filter {k : Nat} (hk : k < 4) (c : Nat) (r : S) : (ways k c).filter (gw k c r) = gways k c r := by
  unfold gways
  by_cases h : c = 38 ∧ hitB k r = true
  · obtain ⟨rfl, h2⟩ := h
    rw [if_pos ⟨rfl, h2⟩]
    have e : ways k 38 = [[38], lit "&amp;"] := by
      match k, hk with
      | 0, _ => decide
      | 1, _ => decide
      | 2, _ => decide
      | 3, _ => decide
    have g1 : gw k 38 r [38] = false := by unfold gw; rw [h2]; rfl
    have g2 : gw k 38 r (lit "&amp;") = true := by unfold gw; rw [h2]; rfl
    rw [e]
    simp [g1, g2]
  · rw [if_neg h, List.filter_eq_self]
    intro w _
    unfold gw
    by_cases hc : c = 38
    · have : hitB k r = false := by cases q : hitB k r; rfl; exact absurd ⟨hc, q⟩ h
      rw [this, Bool.and_false, Bool.false_and]; rfl
    · rw [decide_eq_false hc]; rfl
theorem flatMap_filter {α β : Type} (p : α → Bool) (f : α → List β) : ∀ l : List α, (l.filter p).flatMap f = l.flatMap fun x => if p x = true then f x else []
  | [] => rfl
  | x :: l => by
    rw [List.filter_cons, List.flatMap_cons, ← flatMap_filter p f l]
    by_cases h : p x = true
    · rw [if_pos h, if_pos h, List.flatMap_cons]
    · rw [if_neg h, if_neg h]; rfl
theorem vecs_good {k : Nat} (hk : k < 4) : ∀ R : S, (vecs (everyLs k R)).filter (goodV k R) = vecs (goodLs k R)
  | [] => rfl
  | c :: r => by
    have ih := vecs_good hk r
    show (vecs (ways k c :: everyLs k r)).filter _ = vecs (gways k c r :: goodLs k r)
    rw [vecs_cons, vecs_cons, List.filter_flatMap, ← gways_filter hk, flatMap_filter]
    refine flatMap_congrN fun w _ => ?_
    rw [List.filter_map]
    by_cases h : gw k c r w = true
    · rw [if_pos h, ← ih]
      congr 1
      refine List.filter_congr fun v _ => ?_
      show (gw k c r w && goodV k r v) = _
      rw [h, Bool.true_and]
    · rw [if_neg h]
      have : (vecs (everyLs k r)).filter (goodV k (c :: r) ∘ fun v => w :: v) = [] := List.filter_eq_nil_iff.mpr fun v _ => by
        show ¬ (gw k c r w && goodV k r v) = true
        rw [Bool.not_eq_true] at h
        rw [h, Bool.false_and]; decide
      rw [this]; rfl
theorem every_good {k : Nat} (hk : k < 4) (R : S) : (prodL (everyLs k R)).filter (fun x => decide (gd (tails k) 0 x = R)) = prodL (goodLs k R) := by
  rw [prodL_vecs, prodL_vecs, List.filter_map, ← vecs_good hk]
  congr 1
  refine List.filter_congr fun v hv => ?_
  show decide (gd (tails k) 0 v.flatten = R) = _
  have := good_iff hk R v hv
  by_cases h : gd (tails k) 0 v.flatten = R
  · rw [decide_eq_true h, this.mp h]
  · rw [decide_eq_false h]
    cases q : goodV k R v
    · rfl
    · exact absurd (this.mpr q) h
theorem text_every {k : Nat} (hk : k < 4) : ∀ (n : Nat) (x : S), x.length ≤ n → ∃ v ∈ vecs (everyLs k (gd (tails k) 0 x)), v.flatten = x
  | n, [], _ => ⟨[], by simp [gd, everyLs, vecs], rfl⟩
  | 0, c :: r, h => by simp at h
  | n + 1, c :: r, h => by
    rw [List.length_cons] at h
    have hK := tails_ok hk
    obtain ⟨v, hv, e⟩ := text_every hk n r (by omega)
    by_cases hc : c = 38
    · subst hc
      by_cases hh : ∃ p ∈ tails k, p.1 <+: r
      · obtain ⟨p, hp, x, rfl⟩ := hh
        obtain ⟨v2, hv2, e2⟩ := text_every hk n x (by rw [List.length_append] at h; omega)
        rw [gd_ref hK (show (p.1, p.2) ∈ tails k from hp)]
        exact ⟨(38 :: p.1) :: v2, vecs_mem.mpr ⟨_, (ways_mem hk).mpr (.inr ⟨p.1, hp, rfl⟩), v2, hv2, rfl⟩, by rw [List.flatten_cons, e2]; rfl⟩
      · rw [gd_bare fun p hp q => hh ⟨p, hp, q⟩]
        exact ⟨[38] :: v, vecs_mem.mpr ⟨_, (ways_mem hk).mpr (.inl rfl), v, hv, rfl⟩, by rw [List.flatten_cons, e]; rfl⟩
    · rw [gd_sign hc]
      exact ⟨[c] :: v, vecs_mem.mpr ⟨_, (ways_mem hk).mpr (.inl rfl), v, hv, rfl⟩, by rw [List.flatten_cons, e]; rfl⟩
theorem text_good {k : Nat} (hk : k < 4) (x : S) : x ∈ prodL (goodLs k (gd (tails k) 0 x)) := by
  rw [← every_good hk, List.mem_filter, prodL_vecs]
  obtain ⟨v, hv, e⟩ := text_every hk x.length x (Nat.le_refl _)
  exact ⟨List.mem_map.mpr ⟨v, hv, e⟩, decide_eq_true rfl⟩
end Sx
end
section
open PySem PySem.W PyProof.Rows PySem.Calls
set_option linter.unusedVariables false
set_option Elab.async false
set_option maxRecDepth 100000
namespace Sx
noncomputable def big (k c : Nat) : S := reps (esL2 k) [c]
noncomputable def specS : S := lit "&<>\"'"
noncomputable def spec (c : Nat) : Bool := hasSub [c] specS
noncomputable def cnt (x : S) : Nat := (x.filter spec).length
theorem spec_iff (c : Nat) : spec c = true ↔ c ∈ specS := by
  unfold spec
  rw [hasSub_iff]
  constructor
  · rintro ⟨i, h1, h2⟩
    have := List.isPrefixOf_iff_prefix.mp h2
    exact List.mem_of_mem_drop (this.subset List.mem_cons_self)
  · intro h
    obtain ⟨i, hi, e⟩ := List.getElem_of_mem h
    refine ⟨i, by omega, ?_⟩
    rw [List.drop_eq_getElem_cons hi, e]
    simp [List.isPrefixOf]
theorem es_one {k : Nat} (hk : k < 4) : ∀ w ∈ esL2 k, ∃ c ∈ specS, w.1 = [c] := by
  match k, hk with
  | 0, _ => decide
  | 1, _ => decide
  | 2, _ => decide
  | 3, _ => decide
theorem es_big {k : Nat} (hk : k < 4) (R : S) : reps (esL2 k) R = R.flatMap (big k) := reps_flatMap _ (fun w hw => let ⟨c, _, e⟩ := es_one hk w hw; ⟨c, e⟩) R
theorem known_sign {k : Nat} (hk : k < 4) : ∀ p ∈ known k, ∃ c ∈ specS, p.2 = [c] := by
  match k, hk with
  | 0, _ => decide
  | 1, _ => decide
  | 2, _ => decide
  | 3, _ => decide
theorem ways_other {k : Nat} (hk : k < 4) {c : Nat} (hc : c ∉ specS) : ways k c = [[c]] ∧ big k c = [c] := by
  constructor
  · unfold ways
    have : ((known k).filter fun p => decide (p.2 = [c])) = [] := List.filter_eq_nil_iff.mpr fun p hp q => by
      obtain ⟨d, hd, e⟩ := known_sign hk p hp
      have q : p.2 = [c] := of_decide_eq_true q
      rw [e] at q
      injection q with q
      exact hc (q ▸ hd)
    rw [this]; rfl
  · exact reps_inert _ c fun w hw => by
      obtain ⟨d, hd, e⟩ := es_one hk w hw
      exact ⟨⟨d, e⟩, fun q => by rw [e] at q; injection q with q; exact hc (q ▸ hd)⟩
noncomputable def bigB (ws : List S) (m : S) : Bool := (ws.all fun w => decide (w.length ≤ m.length)) && decide (ws.filter (fun w => decide (w.length = m.length)) = [m])
theorem big_ok {k : Nat} (hk : k < 4) (c : Nat) (r : S) : bigB (gways k c r) (big k c) = true := by
  by_cases hc : c ∈ specS
  · have h1 : ∀ c ∈ specS, bigB (ways k c) (big k c) = true := by
      match k, hk with
      | 0, _ => decide
      | 1, _ => decide
      | 2, _ => decide
      | 3, _ => decide
    have h2 : bigB [lit "&amp;"] (big k 38) = true := by
      match k, hk with
      | 0, _ => decide
      | 1, _ => decide
      | 2, _ => decide
      | 3, _ => decide
    unfold gways
    split
    · rename_i h; rw [h.1]; exact h2
    · exact h1 c hc
  · obtain ⟨h1, h2⟩ := ways_other hk hc
    have : gways k c r = [[c]] := by
      unfold gways
      rw [if_neg (fun h : c = 38 ∧ _ => hc (by rw [h.1]; decide)), h1]
    rw [this, h2]
    unfold bigB
    simp
theorem vecs_big {k : Nat} (hk : k < 4) : ∀ R : S, (∀ v ∈ vecs (goodLs k R), v.flatten.length ≤ (R.flatMap (big k)).length) ∧ (vecs (goodLs k R)).filter (fun v => decide (v.flatten.length = (R.flatMap (big k)).length)) = [R.map (big k)]
  | [] => by
    constructor
    · intro v hv
      have : v = [] := by simpa [goodLs, vecs] using hv
      subst this; exact Nat.le_refl _
    · rfl
  | c :: r => by
    obtain ⟨i1, i2⟩ := vecs_big hk r
    have hb := big_ok hk c r
    unfold bigB at hb
    simp only [Bool.and_eq_true, List.all_eq_true, decide_eq_true_eq] at hb
    obtain ⟨b1, b2⟩ := hb
    constructor
    · intro v hv
      obtain ⟨w, hw, v', hv', rfl⟩ := vecs_mem.mp hv
      have h1 := b1 w hw
      have h2 := i1 v' hv'
      rw [List.flatten_cons, List.length_append, List.flatMap_cons, List.length_append]
      omega
    · show (vecs (gways k c r :: goodLs k r)).filter _ = _
      rw [vecs_cons, List.filter_flatMap]
      have : ((gways k c r).flatMap fun w => ((vecs (goodLs k r)).map fun v => w :: v).filter (fun v => decide (v.flatten.length = ((c :: r).flatMap (big k)).length))) = (gways k c r).flatMap fun w => if decide (w.length = (big k c).length) = true then [w :: r.map (big k)] else [] := by
        refine flatMap_congrN fun w hw => ?_
        have h1 := b1 w hw
        rw [List.filter_map]
        by_cases h : w.length = (big k c).length
        · rw [if_pos (decide_eq_true h)]
          have : (vecs (goodLs k r)).filter ((fun v => decide (v.flatten.length = ((c :: r).flatMap (big k)).length)) ∘ fun v => w :: v) = (vecs (goodLs k r)).filter (fun v => decide (v.flatten.length = (r.flatMap (big k)).length)) := by
            refine List.filter_congr fun v hv => ?_
            show decide ((w :: v).flatten.length = _) = _
            rw [List.flatten_cons, List.length_append, List.flatMap_cons, List.length_append, h]
            by_cases q : v.flatten.length = (r.flatMap (big k)).length
            · rw [decide_eq_true q, decide_eq_true (by omega)]
            · rw [decide_eq_false q, decide_eq_false (by omega)]
          rw [this, i2]; rfl
        · rw [if_neg (by simpa using h)]
          have : (vecs (goodLs k r)).filter ((fun v => decide (v.flatten.length = ((c :: r).flatMap (big k)).length)) ∘ fun v => w :: v) = [] := List.filter_eq_nil_iff.mpr fun v hv q => by
            have q : (w :: v).flatten.length = ((c :: r).flatMap (big k)).length := of_decide_eq_true q
            rw [List.flatten_cons, List.length_append, List.flatMap_cons, List.length_append] at q
            have := i1 v hv
            omega
          rw [this]; rfl
      rw [this, ← flatMap_filter (fun w => decide (w.length = (big k c).length)) (fun w => [w :: r.map (big k)]), b2]
      rfl
theorem longest {k : Nat} (hk : k < 4) (R : S) : (prodL (goodLs k R)).filter (fun x => decide (x.length = (R.flatMap (big k)).length)) = [R.flatMap (big k)] := by
  rw [prodL_vecs, List.filter_map]
  have := (vecs_big hk R).2
  rw [show ((fun x : S => decide (x.length = (R.flatMap (big k)).length)) ∘ List.flatten) = fun v => decide (v.flatten.length = (R.flatMap (big k)).length) from rfl, this]
  show [(R.map (big k)).flatten] = _
  rw [List.flatMap_def]
theorem most_eq {k : Nat} (hk : k < 4) (R : S) : maxI ((prodL (goodLs k R)).map fun x => (x.length : Int)) = ((R.flatMap (big k)).length : Int) := by
  have hm : R.flatMap (big k) ∈ prodL (goodLs k R) := by
    have : R.flatMap (big k) ∈ (prodL (goodLs k R)).filter (fun x => decide (x.length = (R.flatMap (big k)).length)) := by rw [longest hk]; exact List.mem_singleton.mpr rfl
    exact (List.mem_filter.mp this).1
  refine Int.le_antisymm ?_ (maxI_ge _ _ (List.mem_map.mpr ⟨_, hm, rfl⟩))
  have hne : ((prodL (goodLs k R)).map fun x => (x.length : Int)) ≠ [] := fun q => by
    rw [List.map_eq_nil_iff] at q; rw [q] at hm; cases hm
  obtain ⟨x, hx, e⟩ := List.mem_map.mp (maxI_mem _ hne)
  rw [← e]
  rw [prodL_vecs] at hx
  obtain ⟨v, hv, rfl⟩ := List.mem_map.mp hx
  have := (vecs_big hk R).1 v hv
  omega

/-! sizes -/
noncomputable def Fit : S → List (List S) → Prop
  | _, [] => True
  | [], _ :: _ => False
  | c :: r, ws :: Ls => ws.length ≤ (if spec c = true then 3 else 1) ∧ (∀ w ∈ ws, w.length ≤ 6) ∧ Fit r Ls
theorem Fit.take : ∀ {R : S} {Ls : List (List S)} (i : Nat), Fit R Ls → Fit R (Ls.take i)
  | _, _, 0, _ => by rw [List.take_zero]; unfold Fit; trivial
  | _, [], _ + 1, _ => by rw [List.take_nil]; unfold Fit; trivial
  | [], _ :: _, _ + 1, h => by exact h.elim
  | c :: r, ws :: Ls, i + 1, h => ⟨h.1, h.2.1, Fit.take i h.2.2⟩
theorem cnt_cons (c : Nat) (r : S) : cnt (c :: r) = (if spec c = true then 1 else 0) + cnt r := by
  unfold cnt
  rw [List.filter_cons]
  split
  · rw [List.length_cons]; omega
  · omega
theorem len_flatMap_le {α β : Type} {f : α → List β} {n : Nat} (h : ∀ x, (f x).length ≤ n) : ∀ l : List α, (l.flatMap f).length ≤ l.length * n
  | [] => by simp
  | x :: l => by
    have := len_flatMap_le h l
    have := h x
    rw [List.flatMap_cons, List.length_append, List.length_cons, Nat.succ_mul]; omega
theorem Fit.vecs : ∀ {R : S} {Ls : List (List S)}, Fit R Ls → (vecs Ls).length ≤ 3 ^ cnt R ∧ ∀ v ∈ vecs Ls, v.flatten.length ≤ 6 * R.length
  | _, [], _ => ⟨Nat.one_le_pow _ _ (by decide), fun v hv => by
    have : v = [] := by simpa [Sx.vecs] using hv
    subst this; exact Nat.zero_le _⟩
  | [], _ :: _, h => h.elim
  | c :: r, ws :: Ls, ⟨h1, h2, h3⟩ => by
    obtain ⟨i1, i2⟩ := Fit.vecs h3
    constructor
    · rw [vecs_cons]
      have := len_flatMap_le (f := fun w => (Sx.vecs Ls).map fun v => w :: v) (n := 3 ^ cnt r) (fun w => by rw [List.length_map]; exact i1) ws
      refine Nat.le_trans this ?_
      rw [cnt_cons, Nat.pow_add]
      refine Nat.mul_le_mul_right _ (Nat.le_trans h1 ?_)
      split <;> decide
    · intro v hv
      obtain ⟨w, hw, v', hv', rfl⟩ := vecs_mem.mp hv
      have := h2 w hw
      have := i2 v' hv'
      rw [List.flatten_cons, List.length_append, List.length_cons]; omega
theorem ways_fit {k : Nat} (hk : k < 4) (c : Nat) : (ways k c).length ≤ (if spec c = true then 3 else 1) ∧ ∀ w ∈ ways k c, w.length ≤ 6 := by
  by_cases hc : c ∈ specS
  · rw [if_pos ((spec_iff c).mpr hc)]
    have : ∀ c ∈ specS, (ways k c).length ≤ 3 ∧ ∀ w ∈ ways k c, w.length ≤ 6 := by
      match k, hk with
      | 0, _ => decide
      | 1, _ => decide
      | 2, _ => decide
      | 3, _ => decide
    exact this c hc
  · rw [if_neg (fun h => hc ((spec_iff c).mp h)), (ways_other hk hc).1]
    exact ⟨Nat.le_refl _, fun w hw => by rw [List.mem_singleton.mp hw, List.length_singleton]; decide⟩
theorem gways_fit {k : Nat} (hk : k < 4) (c : Nat) (r : S) : (gways k c r).length ≤ (if spec c = true then 3 else 1) ∧ ∀ w ∈ gways k c r, w.length ≤ 6 := by
  unfold gways
  split
  · refine ⟨?_, fun w hw => by rw [List.mem_singleton.mp hw]; decide⟩
    show 1 ≤ _
    split <;> decide
  · exact ways_fit hk c
theorem every_fit {k : Nat} (hk : k < 4) : ∀ R : S, Fit R (everyLs k R)
  | [] => by show Fit [] []; unfold Fit; trivial
  | c :: r => ⟨(ways_fit hk c).1, (ways_fit hk c).2, every_fit hk r⟩
theorem good_fit {k : Nat} (hk : k < 4) : ∀ R : S, Fit R (goodLs k R)
  | [] => by show Fit [] []; unfold Fit; trivial
  | c :: r => ⟨(gways_fit hk c r).1, (gways_fit hk c r).2, good_fit hk r⟩
theorem Fit.prod {R : S} {Ls : List (List S)} (h : Fit R Ls) (hc : cnt R ≤ 6) (i : Nat) : (prodL (Ls.take i)).length ≤ 729 ∧ ∀ x ∈ prodL (Ls.take i), x.length ≤ 6 * R.length := by
  obtain ⟨h1, h2⟩ := (h.take i).vecs
  rw [prodL_vecs, List.length_map]
  refine ⟨Nat.le_trans h1 ((Nat.pow_le_pow_right (by decide) hc : 3 ^ cnt R ≤ 3 ^ 6)), fun x hx => ?_⟩
  obtain ⟨v, hv, rfl⟩ := List.mem_map.mp hx
  exact h2 v hv
theorem prodL_step {Ls : List (List S)} {i : Nat} {ws : List S} (h : Ls[i]? = some ws) : prodL (Ls.take (i + 1)) = stepL (prodL (Ls.take i)) ws := by
  unfold prodL
  rw [List.take_add_one, h, List.foldl_append]; rfl
theorem every_at {k : Nat} {R : S} {i c : Nat} (h : R[i]? = some c) : (everyLs k R)[i]? = some (ways k c) := by
  unfold everyLs
  rw [List.getElem?_map, h]; rfl
theorem good_at {k : Nat} : ∀ {R : S} {i c : Nat} (h : R[i]? = some c), (goodLs k R)[i]? = some (gways k c (R.drop (i + 1)))
  | [], _, _, h => by cases h
  | c :: r, 0, d, h => by
    have : c = d := by simpa using h
    subst this; rfl
  | c :: r, i + 1, d, h => by
    have h2 : r[i]? = some d := by simpa using h
    exact good_at (R := r) (i := i) h2
theorem goodLs_length (k : Nat) : ∀ R : S, (goodLs k R).length = R.length
  | [] => rfl
  | c :: r => by show (goodLs k r).length + 1 = _; rw [goodLs_length k r]; rfl
theorem gd_len (K : List (S × Nat)) : ∀ (x : S) (n : Nat), (gd K n x).length ≤ x.length
  | [], n => by simp [gd]
  | c :: r, n + 1 => by rw [gd, List.length_cons]; have := gd_len K r n; omega
  | c :: r, 0 => by
    rw [gd_0, List.length_cons]
    have h0 := gd_len K r 0
    split
    · split
      · rename_i p _
        have := gd_len K r p.1.length
        rw [List.length_cons]; omega
      · rw [List.length_cons]; omega
    · rw [List.length_cons]; omega
theorem gd_cnt (K : List (S × Nat)) : ∀ (x : S) (n : Nat), cnt (gd K n x) ≤ cnt x
  | [], n => by simp [gd]
  | c :: r, n + 1 => by rw [gd, cnt_cons]; have := gd_cnt K r n; omega
  | c :: r, 0 => by
    rw [gd_0, cnt_cons]
    have h0 := gd_cnt K r 0
    split
    · rename_i hc
      subst hc
      rw [if_pos ((spec_iff 38).mpr (by decide))]
      split
      · rename_i p _
        have := gd_cnt K r p.1.length
        rw [cnt_cons]
        split <;> omega
      · rw [cnt_cons, if_pos ((spec_iff 38).mpr (by decide))]; omega
    · rw [cnt_cons]; omega

/-! what is built -/
noncomputable def pcs2 : List S := [lit "&", lit "<", lit ">", lit "\"", lit "'", lit "&lt;", lit "&gt;", lit "&amp;", lit "&quot;", lit "&#34;", lit "&apos;", lit "amp;", lit "lt;", lit "gt;", lit "quot;", lit "#34;", lit "apos;", lit "a", lit ";", lit "&am", lit "&l", lit "é"]
noncomputable def pc2 (x : Int) : S := if x.fmod 23 = 22 then [((x.fdiv 23).fmod 55291).toNat] else pcs2.getD (x.fmod 23).toNat []
noncomputable def stp2 (t : S) (x : Int) : S := if cnt (t ++ pc2 x) ≤ 6 then t ++ pc2 x else t
noncomputable def text2 (sc : List Int) : S := sc.foldl stp2 (lit "&amp;lt;")
theorem pc2_len (x : Int) : (pc2 x).length ≤ 6 := by
  unfold pc2
  split
  · exact Nat.succ_le_succ (Nat.zero_le _)
  · have h2 : ∀ l ∈ pcs2, l.length ≤ 6 := by decide
    rw [List.getD_eq_getElem?_getD]
    cases h : pcs2[(x.fmod 23).toNat]? with
    | none => exact Nat.zero_le _
    | some l => exact h2 l (List.mem_of_getElem? h)
theorem text2_ok : ∀ (sc : List Int) (t : S), cnt t ≤ 6 → cnt (sc.foldl stp2 t) ≤ 6 ∧ (sc.foldl stp2 t).length ≤ t.length + 6 * sc.length
  | [], t, h => ⟨h, Nat.le_refl _⟩
  | x :: r, t, h => by
    rw [List.foldl_cons]
    have hs : cnt (stp2 t x) ≤ 6 ∧ (stp2 t x).length ≤ t.length + 6 := by
      unfold stp2
      have := pc2_len x
      split
      · rename_i h1; exact ⟨h1, by rw [List.length_append]; omega⟩
      · exact ⟨h, by omega⟩
    obtain ⟨h1, h2⟩ := text2_ok r _ hs.1
    exact ⟨h1, by rw [List.length_cons]; omega⟩
end Sx
end
section
open PySem PySem.W PyProof.Rows PySem.Calls
set_option Elab.async false
set_option maxRecDepth 100000
set_option maxHeartbeats 8000000
namespace Sx
open_top head02 for PySem.Challenge.rw_kp0118_02
end Sx
end
section
open PySem PySem.W PyProof.Rows PySem.Calls
set_option linter.unusedVariables false
set_option Elab.async false
set_option maxRecDepth 100000
namespace Sx
local macro_rules | `(tactic| walk_at "sxf") => `(tactic| first | (simp only [mkSt, List.zip_cons_cons, List.zip_nil_right, List.map_cons, List.map_nil, List.cons_append, List.nil_append, put_cons, put_nil, find_putS, find_cons, String.reduceEq, if_true, if_false] <;> first | rfl | assumption) | assumption | rfl)
local macro_rules | `(tactic| walk_at "sxg") => `(tactic| first | assumption | decide | omega)
local macro_rules | `(tactic| walk_at "sxe") => `(tactic| first
  | ((with_reducible refine evL_cons ?_ ?hs); (case hs => rfl))
  | with_reducible first | refine evL_nil ?_ | refine ev_str ?_ | refine ev_int ?_
  | ((with_reducible refine ev_name (v := ?vv) (by assumption) ?hf ?_ ?hn ?hd); (case hf => walk_at "sxf"); (case hn => decide); (case hd => decide))
  | ((with_reducible refine ev_meth ?_ ?h1 ?h2 ?h3 ?h4); (case h1 => rfl); (case h2 => rfl); (case h3 => rfl); (case h4 => rfl))
  | ((with_reducible refine ev_sub ?_ ?hs); (case hs => (intro _ _; rfl)))
  | with_reducible first | refine ev_bin ?_ | refine ev_un ?_ | refine ev_sliceT ?_ | refine evP_none ?_ | refine evP_some ?_
  | ((with_reducible refine exS ?hg ?_); (case hg => walk_at "sxg"))
  | with_reducible first | refine exI ?_ | refine exB ?_ | refine ev_ifexp ?_ | refine tst_not ?_ | refine tst_bool ?_ | refine ev_none ?_ | refine ev_bool ?_
  | ((with_reducible first | refine tst_cmp ?_ ?hs | refine ev_cmp ?_ ?hs); (case hs => with_unfolding_all rfl)))
local macro_rules | `(tactic| walk_at "sxo") => `(tactic| first
  | with_reducible first | refine op_add_int ?_ | refine op_sub_int ?_ | refine op_iadd_int ?_ | refine op_eq_int ?_ | refine op_ne_int ?_ | refine op_lt_int ?_ | refine op_le_int ?_ | refine op_gt_int ?_ | refine op_ge_int ?_ | refine op_eq_str ?_ | refine op_ne_str ?_ | refine op_in_str ?_ | refine opL_range1 ?_ | refine opL_range2 ?_ | refine get_rf ?_ | refine get_str ?_ | refine opL_items ?_
  | ((with_reducible refine op_div_int ?hg ?hp ?_); (case hg => walk_at "sxg"); (case hp => exact PyProof.noPylong_of_log2 (by decide +kernel)))
  | ((with_reducible first | refine op_mod_int ?hg ?_ | refine op_add_str ?hg ?_ | refine op_iadd_str ?hg ?_ | refine opL_len_str ?hg ?_); (case hg => walk_at "sxg"))
  | ((with_reducible refine item_str (c := ?cc) ?hg ?hi ?_); (case hi => assumption); (case hg => walk_at "sxg"))
  | with_reducible first | refine ⟨_, _, methOk_str PySem.F.slot_str_replace PySem.F.type_str_replace, ?_⟩ | refine ⟨_, _, methOk_str PySem.F.slot_str_join PySem.F.type_str_join, ?_⟩ | refine ⟨_, _, methOk_dct PySem.F.slot_dict_get PySem.F.type_dict_get, ?_⟩ | refine ⟨_, _, methOk_dct PySem.F.slot_dict_items PySem.F.type_dict_items, ?_⟩)
local macro_rules | `(tactic| walk_at "sxb") => `(tactic| ((with_reducible refine ev_fn (w := ?ww) (L := ?LL) (by assumption) ?hGG ?h1 ?h2 ?hc ?_ ?h3 ?h4 ?h5); (case hGG => assumption); (case h1 => kernel_rfl); (case h2 => rfl); (case hc => first | exact .bi | exact .ty); (case h3 => rfl); (case h4 => rfl); (case h5 => decide)))
local macro_rules | `(tactic| walk_at "sxs") => `(tactic| first | walk_at "sxe" | walk_at "sxo" | walk_at "sxb")
local macro_rules | `(tactic| walk_at "sxA") => `(tactic| ((refine exs_cons ?_); (with_reducible refine ex_assign (by assumption) ?hx ?hs ?_); (case hx => kernel_rfl); (case hs => exact swaps_no (by rfl))))
local macro_rules | `(tactic| walk_at "sxN") => `(tactic| ((refine exs_cons ?_); (with_reducible refine ex_assignN (by assumption) ?hx ?hs ?_); (case hx => kernel_rfl); (case hs => exact swaps_no (by rfl))))
local macro_rules | `(tactic| walk_at "sxR") => `(tactic| ((refine exs_cons ?_); (with_reducible refine ex_return ?_)))
local macro_rules | `(tactic| walk_at "sxI") => `(tactic| ((refine exs_cons ?_); (with_reducible refine ex_if ?_)))
local macro_rules | `(tactic| walk_at "sxD") => `(tactic| ((with_reducible refine ev_ofF ?_); (with_reducible refine evF_dictE (by assumption) ?_ ?h1 ?h2 ?h3 ?h4); (case h1 => rfl); (case h2 => rfl); (case h3 => rfl); (case h4 => exact Nat.le_of_ble_eq_true (by rfl))))
local macro_rules | `(tactic| walk_at "sxK") => `(tactic| ((with_reducible refine evD_cons ?_); (with_reducible refine ev_str ?_); (refine ⟨.s _, rfl, ?_⟩); (with_reducible refine ev_str ?_)))
local macro_rules | `(tactic| walk_at "sxP") => `(tactic| ((refine exs_cons ?_); (with_reducible refine ex_append (a := ?aa) (vs := ?vs) (by assumption) ?hf ?_ ?d1 ?d2 ?d3 ?r1 ?r2 ?r3 ?r4 ?r5); (case hf => walk_at "sxf"); (case d1 => decide); (case d2 => decide); (case d3 => decide); (case r1 => rfl); (case r2 => rfl); (case r3 => rfl); (case r4 => rfl); (case r5 => rfl)))
noncomputable abbrev F02 (w : World) : Frag := head02.heap_39 w.params

structure In02 (C : Cx) : Prop where
  hF : (F02 C.W.w).In C.W.h₀
  hG : C.W.gls = [("dict_replace_saxutils", .ref 21), ("escape", .ref 30), ("unescape", .ref 39), ("_law_table", .ref 46), ("_law_text", .ref 51), ("sum", .builtin "sum"), ("len", .builtin "len"), ("max", .builtin "max"), ("range", .type "range"), ("list", .type "list"), ("chr", .builtin "chr")]


theorem tabV_items (es : List (S × S)) : seqOf (.items (tabV es)) = some (es.map fun p => V.tup [.str p.1, .str p.2]) := by
  simp [seqOf, tabV, Key.v]

theorem c_dictrep {C : Cx} {n : Nat} (ok : C.Ok (n + 1)) (I : In02 C) {x : S} {es : List (S × S)} (h : RepOk es x) :
    OpL C (Rep C.W) (fun ws => call (.ref 21) ws) [.str x, .dct (tabV es)] (fun v => v = .str (reps es x)) := by
  refine fn_call ok (fnAt_of (a := 21) I.hF (by rfl) (by rfl) (by rfl) (by rfl) (by rfl) (by rfl) (by rfl) (by rfl) (by rfl)) (ps := ["s", "d"]) (dvs := []) (ds := []) ?_ (fun _ _ _ _ => .nil) (by decide) (by rfl) fun A L q cd okn => ?_
  · exact fun s ws _ hl => binds_plain (n := 2) (fun ws hl => by
      obtain ⟨a, b, rfl⟩ := len2 hl
      rfl) s ws hl
  · refine exs_cons (ex_for okn ?_)
    refine ev_meth (ev_name okn (by walk_at "sxf") ?_) (by rfl) (by rfl) (by rfl) (by rfl)
    refine ⟨_, _, methOk_dct PySem.F.slot_dict_items PySem.F.type_dict_items, evL_nil (opL_items ⟨_, tabV_items es, rfl, ?_⟩)⟩
    refine loop_inv (fun xs σ => ∃ es' y, xs = es'.map (fun p => V.tup [.str p.1, .str p.2]) ∧ RepOk es' y ∧ reps es' y = reps es x ∧ find σ (Str.ofString "s") = some (.val (.str y))) ?_ ?_ _ _ ⟨es, x, rfl, h, rfl, by walk_at "sxf"⟩
    · rintro v xs σ ⟨es', y, hxs, hr, he, hs⟩
      match es', hxs with
      | (k, z) :: es', hxs =>
        simp only [List.map_cons, List.cons.injEq] at hxs
        obtain ⟨rfl, rfl⟩ := hxs
        refine asg_tuple okn (asgL_cons (asg_name okn (by rfl) (asgL_cons (asg_name okn (by rfl) (asgL_nil ?_))))) (by rfl) (by rfl)
        refine exs_cons (ex_assign okn (by rfl) (by rfl) ?_)
        refine ev_meth (ev_name okn (by walk_at "sxf") ?_) (by rfl) (by rfl) (by rfl) (by rfl)
        refine ⟨_, _, methOk_str PySem.F.slot_str_replace PySem.F.type_str_replace, evL_cons (ev_name okn (by walk_at "sxf") ?_)⟩
        refine evL_cons (ev_name okn (by walk_at "sxf") (evL_nil (opL_replace hr.1 hr.2.1 ?_)))
        refine exs_nil ⟨es', _, rfl, hr.2.2, he, by walk_at "sxf"⟩
    · rintro σ ⟨es', y, hxs, hr, he, hs⟩
      have : es' = [] := by simpa using hxs.symm
      subst this
      have he : y = reps es x := he
      subst he
      refine exs_nil (exs_cons (ex_return (ev_name okn hs rfl)))


theorem c_escape {C : Cx} {n : Nat} (ok : C.Ok (n + 2)) (I : In02 C) {x : S} {es : List (S × S)} (h : RepOk (((lit "&"), lit "&amp;") :: (lit ">", lit "&gt;") :: (lit "<", lit "&lt;") :: es) x) (hl : es.length ≤ sizeLine) :
    OpL C (Rep C.W) (fun ws => call (.ref 30) ws) [.str x, .dct (tabV es)] (fun v => v = .str (reps (((lit "&"), lit "&amp;") :: (lit ">", lit "&gt;") :: (lit "<", lit "&lt;") :: es) x)) := by
  refine fn_call ok (fnAt_of (a := 30) I.hF (by rfl) (by rfl) (by rfl) (by rfl) (by rfl) (by rfl) (by rfl) (by rfl) (by rfl)) (ps := ["data", "entities"]) (dvs := []) (ds := []) ?_ (fun _ _ _ _ => .nil) (by decide) (by rfl) fun A L q cd okn => ?_
  · intro s ws hk hl
    rw [List.append_nil]
    obtain ⟨a, b, rfl⟩ := len2 hl
    exact BindsTo.of_defaults (T := 23) rfl (hk _ _ (I.hF 23 _ rfl)) rfl rfl rfl
  · obtain ⟨a1, a2, b1, b2, c1, c2, h4⟩ := h
    refine exs_cons (ex_assign okn (by rfl) (by rfl) ?_)
    walk_at "sxe"; walk_at "sxe"
    refine ⟨_, _, methOk_str PySem.F.slot_str_replace PySem.F.type_str_replace, ?_⟩
    walk_at "sxe"; walk_at "sxe"; walk_at "sxe"; walk_at "sxe"; walk_at "sxe"
    refine opL_replace a1 a2 ?_
    refine exs_cons (ex_assign okn (by rfl) (by rfl) ?_)
    walk_at "sxe"; walk_at "sxe"
    refine ⟨_, _, methOk_str PySem.F.slot_str_replace PySem.F.type_str_replace, ?_⟩
    walk_at "sxe"; walk_at "sxe"; walk_at "sxe"; walk_at "sxe"; walk_at "sxe"
    refine opL_replace b1 b2 ?_
    refine exs_cons (ex_assign okn (by rfl) (by rfl) ?_)
    walk_at "sxe"; walk_at "sxe"
    refine ⟨_, _, methOk_str PySem.F.slot_str_replace PySem.F.type_str_replace, ?_⟩
    walk_at "sxe"; walk_at "sxe"; walk_at "sxe"; walk_at "sxe"; walk_at "sxe"
    refine opL_replace c1 c2 ?_
    refine exs_cons (ex_if (tst_val ?_))
    walk_at "sxe"
    refine truthy_dict (by simpa [tabV] using hl) ⟨fun _ => ?_, fun he => ?_⟩
    · refine exs_cons (ex_assign okn (by rfl) (by rfl) ?_)
      refine ev_fn okn I.hG (by rfl) (by rfl) (callee_of (fnAt_of (a := 21) I.hF (by rfl) (by rfl) (by rfl) (by rfl) (by rfl) (by rfl) (by rfl) (by rfl) (by rfl))) ?_ (by rfl) (by rfl) (by decide)
      walk_at "sxe"; walk_at "sxe"; walk_at "sxe"; walk_at "sxe"; walk_at "sxe"
      refine OpL.eq (c_dictrep okn ⟨I.hF, I.hG⟩ h4) ?_
      refine exs_nil (exs_cons (ex_return ?_))
      walk_at "sxe"; rfl
    · refine exs_nil (exs_cons (ex_return ?_))
      walk_at "sxe"
      have : es = [] := by
        cases es with
        | nil => rfl
        | cons => simp [tabV] at he
      subst this; rfl
theorem c_unescape {C : Cx} {n : Nat} (ok : C.Ok (n + 2)) (I : In02 C) {x : S} {es : List (S × S)} (h : RepOk ((lit "&lt;", lit "<") :: (lit "&gt;", lit ">") :: (es ++ [(lit "&amp;", lit "&")])) x) (hl : es.length ≤ sizeLine)
    :
    OpL C (Rep C.W) (fun ws => call (.ref 39) ws) [.str x, .dct (tabV es)] (fun v => v = .str (reps ((lit "&lt;", lit "<") :: (lit "&gt;", lit ">") :: (es ++ [(lit "&amp;", lit "&")])) x)) := by
  refine fn_call ok (fnAt_of (a := 39) I.hF (by rfl) (by rfl) (by rfl) (by rfl) (by rfl) (by rfl) (by rfl) (by rfl) (by rfl)) (ps := ["data", "entities"]) (dvs := []) (ds := []) ?_ (fun _ _ _ _ => .nil) (by decide) (by rfl) fun A L q cd okn => ?_
  · intro s ws hk hl
    rw [List.append_nil]
    obtain ⟨a, b, rfl⟩ := len2 hl
    exact BindsTo.of_defaults (T := 32) rfl (hk _ _ (I.hF 32 _ rfl)) rfl rfl rfl
  · obtain ⟨a1, a2, b1, b2, h4⟩ := h
    obtain ⟨h5, h6, h7, _⟩ := (repOk_append _ _ _).mp h4
    refine exs_cons (ex_assign okn (by rfl) (by rfl) ?_)
    walk_at "sxe"; walk_at "sxe"
    refine ⟨_, _, methOk_str PySem.F.slot_str_replace PySem.F.type_str_replace, ?_⟩
    walk_at "sxe"; walk_at "sxe"; walk_at "sxe"; walk_at "sxe"; walk_at "sxe"
    refine opL_replace a1 a2 ?_
    refine exs_cons (ex_assign okn (by rfl) (by rfl) ?_)
    walk_at "sxe"; walk_at "sxe"
    refine ⟨_, _, methOk_str PySem.F.slot_str_replace PySem.F.type_str_replace, ?_⟩
    walk_at "sxe"; walk_at "sxe"; walk_at "sxe"; walk_at "sxe"; walk_at "sxe"
    refine opL_replace b1 b2 ?_
    refine exs_cons (ex_if (tst_val ?_))
    walk_at "sxe"
    refine truthy_dict (by simpa [tabV] using hl) ⟨fun _ => ?_, fun he => ?_⟩
    · refine exs_cons (ex_assign okn (by rfl) (by rfl) ?_)
      refine ev_fn okn I.hG (by rfl) (by rfl) (callee_of (fnAt_of (a := 21) I.hF (by rfl) (by rfl) (by rfl) (by rfl) (by rfl) (by rfl) (by rfl) (by rfl) (by rfl))) ?_ (by rfl) (by rfl) (by decide)
      walk_at "sxe"; walk_at "sxe"; walk_at "sxe"; walk_at "sxe"; walk_at "sxe"
      refine OpL.eq (c_dictrep okn ⟨I.hF, I.hG⟩ h5) ?_
      refine exs_nil (exs_cons (ex_return ?_))
      walk_at "sxe"; walk_at "sxe"
      refine ⟨_, _, methOk_str PySem.F.slot_str_replace PySem.F.type_str_replace, ?_⟩
      walk_at "sxe"; walk_at "sxe"; walk_at "sxe"; walk_at "sxe"; walk_at "sxe"
      exact opL_replace h6 h7 (by show V.str _ = V.str (reps (es ++ [(lit "&amp;", lit "&")]) _); rw [reps_append]; rfl)
    · have : es = [] := by
        cases es with
        | nil => rfl
        | cons => simp [tabV] at he
      subst this
      refine exs_nil (exs_cons (ex_return ?_))
      walk_at "sxe"; walk_at "sxe"
      refine ⟨_, _, methOk_str PySem.F.slot_str_replace PySem.F.type_str_replace, ?_⟩
      walk_at "sxe"; walk_at "sxe"; walk_at "sxe"; walk_at "sxe"; walk_at "sxe"
      exact opL_replace h6 h7 rfl

noncomputable def forBody (l : List Stmt) (i : Nat) : List Stmt := match l[i]? with
  | some (.For _ _ b _ _) => b
  | some (.While _ b _ _) => b
  | _ => []
noncomputable def prV (p : S × S) : V := .tup [.str p.1, .str p.2]
theorem c_table {C : Cx} {n : Nat} (ok : C.Ok (n + 1)) (I : In02 C) (m : Int) :
    OpL C (Rep C.W) (fun ws => call (.ref 46) ws) [.int m] (fun v => v = .lst ((tbl (m.fmod 4).toNat).map prV)) := by
  refine fn_call ok (fnAt_of (a := 46) I.hF (by rfl) (by rfl) (by rfl) (by rfl) (by rfl) (by rfl) (by rfl) (by rfl) (by rfl)) (ps := ["n"]) (dvs := []) (ds := []) ?_ (fun _ _ _ _ => .nil) (by decide) (by rfl) fun A L q' cd okn => ?_
  · exact fun s ws _ hl => binds_plain (n := 1) (fun ws hl => by
      obtain ⟨a, rfl⟩ := len1 hl
      rfl) s ws hl
  · have hG : (fnCx C.W A (fdAt (F02 C.W.w) 46).scope L 46 q' cd).W.gls = _ := I.hG
    have hsz : sizeLine = 16777216 := sizeLine_eq
    obtain ⟨k, hk, hk1⟩ := fmodN m (m := 4) (by omega)
    have hk : m.fmod 4 = (k : Int) := hk
    have hkn : (m.fmod 4).toNat = k := by rw [hk]; rfl
    rw [hkn]
    walk_at "sxI"
    repeat walk_at "sxs"
    rw [hk]
    refine ⟨fun hb => ?_, fun hb => ?_⟩
    · have hb : k = 0 := by have : (k : Int) = 0 := by simpa using hb
                            omega
      subst hb
      walk_at "sxR"
      refine ev_ofF ?_
      refine evF_list ?_
      repeat walk_at "sxs"
      exact ⟨Nat.zero_le _, fun _ => rfl⟩
    · have hb : k ≠ 0 := fun e => by subst e; simp at hb
      refine exs_nil ?_
      walk_at "sxA"
      refine ev_ofF ?_
      refine evF_list ?_
      walk_at "sxs"
      refine ev_tuple ?_
      repeat walk_at "sxs"
      refine ⟨by show 2 ≤ _; omega, ?_⟩
      walk_at "sxs"
      refine ev_tuple ?_
      repeat walk_at "sxs"
      refine ⟨by show 2 ≤ _; omega, ?_⟩
      walk_at "sxs"
      refine ev_tuple ?_
      repeat walk_at "sxs"
      refine ⟨by show 2 ≤ _; omega, ?_⟩
      repeat walk_at "sxs"
      refine ⟨by show 3 ≤ _; omega, fun a1 => ?_⟩
      walk_at "sxI"
      repeat walk_at "sxs"
      rw [hk]
      refine ⟨fun hb1 => ?_, fun hb1 => ?_⟩
      · have hb1 : k = 1 := by have : (k : Int) = 1 := by simpa using hb1
                               omega
        subst hb1
        walk_at "sxR"
        refine ev_ofF ?_
        refine evF_slice_list ?_
        walk_at "sxs"
        refine ⟨_, rfl, by show 3 ≤ _; omega, ?_⟩
        show Ev _ _ _ _
        walk_at "sxs"
        exact ⟨_, rfl, fun _ => rfl⟩
      · have hb1 : k ≠ 1 := fun e => by subst e; simp at hb1
        refine exs_nil ?_
        walk_at "sxR"
        repeat walk_at "sxs"
        rw [hk]
        refine ⟨fun hb2 => ?_, fun hb2 => ?_⟩
        · have hb2 : k = 2 := by have : (k : Int) = 2 := by simpa using hb2
                                 omega
          subst hb2
          repeat walk_at "sxs"
          rfl
        · have hb2 : k = 3 := by
            have : k ≠ 2 := fun e => by subst e; simp at hb2
            omega
          subst hb2
          refine ev_ofF ?_
          refine evF_list ?_
          repeat walk_at "sxs"
          refine item_list (i := 2) (by show 3 ≤ _; omega) rfl ?_
          repeat walk_at "sxs"
          refine item_list (i := 1) (by show 3 ≤ _; omega) rfl ?_
          repeat walk_at "sxs"
          refine item_list (i := 0) (by show 3 ≤ _; omega) rfl ?_
          repeat walk_at "sxs"
          exact ⟨by show 3 ≤ _; omega, fun _ => rfl⟩
theorem strs_at2 {l : List S} {k : Nat} (h : k < l.length) : (l.map V.str)[k]? = some (.str (l.getD k [])) := by
  rw [List.getElem?_map, List.getElem?_eq_getElem h, List.getD_eq_getElem?_getD, List.getElem?_eq_getElem h]; rfl
theorem c_text {C : Cx} {n : Nat} (ok : C.Ok (n + 1)) (I : In02 C) {sc : List Int} (h : sc.length ≤ 12) :
    OpL C (Rep C.W) (fun ws => call (.ref 51) ws) [.lst (sc.map V.int)] (fun v => v = .str (text2 sc)) := by
  refine fn_call ok (fnAt_of (a := 51) I.hF (by rfl) (by rfl) (by rfl) (by rfl) (by rfl) (by rfl) (by rfl) (by rfl) (by rfl)) (ps := ["script"]) (dvs := []) (ds := []) ?_ (fun _ _ _ _ => .nil) (by decide) (by rfl) fun A L q' cd okn => ?_
  · exact fun s ws _ hl => binds_plain (n := 1) (fun ws hl => by
      obtain ⟨a, rfl⟩ := len1 hl
      rfl) s ws hl
  · have hG : (fnCx C.W A (fdAt (F02 C.W.w) 51).scope L 51 q' cd).W.gls = _ := I.hG
    have hsz : sizeLine = 16777216 := sizeLine_eq
    walk_at "sxA"
    refine ev_ofF ?_
    refine evF_list ?_
    repeat walk_at "sxs"
    refine ⟨by show 22 ≤ _; omega, fun ap => ?_⟩
    walk_at "sxA"
    repeat walk_at "sxs"
    refine exs_cons ?_
    refine ex_for okn ?_
    repeat walk_at "sxs"
    refine ⟨_, rfl, trivial, ?_⟩
    refine loop_list V.int sc (fun i σ => find σ (Str.ofString "pieces") = some (.val (.lst (pcs2.map V.str))) ∧ find σ (Str.ofString "text") = some (.val (.str (text2 (sc.take i))))) ?_ ?_ ⟨by walk_at "sxf", by walk_at "sxf"⟩ rfl
    · rintro i x σ hx ⟨f1, f2⟩
      have hnext : text2 (sc.take (i + 1)) = stp2 (text2 (sc.take i)) x := by
        unfold text2
        rw [List.take_add_one, hx, List.foldl_append]; rfl
      have htl : (text2 (sc.take i)).length ≤ 80 := by
        have := (text2_ok (sc.take i) (lit "&amp;lt;") (by decide)).2
        rw [List.length_take] at this
        have e : (lit "&amp;lt;").length = 8 := rfl
        unfold text2
        omega
      have hpl := pc2_len x
      generalize text2 (sc.take i) = tx at f2 hnext htl
      have rest : ∀ σ : St, find σ (Str.ofString "pieces") = some (.val (.lst (pcs2.map V.str))) → find σ (Str.ofString "text") = some (.val (.str tx)) → find σ (Str.ofString "piece") = some (.val (.str (pc2 x))) →
          Exs (fnCx C.W A (fdAt (F02 C.W.w) 51).scope L 51 q' cd) σ ((forBody (bdAt (F02 C.W.w) 51) 2).drop 2) (fun fl σ2 => match fl with | .next => find σ2 (Str.ofString "pieces") = some (.val (.lst (pcs2.map V.str))) ∧ find σ2 (Str.ofString "text") = some (.val (.str (text2 (sc.take (i + 1))))) | .cont => find σ2 (Str.ofString "pieces") = some (.val (.lst (pcs2.map V.str))) ∧ find σ2 (Str.ofString "text") = some (.val (.str (text2 (sc.take (i + 1))))) | .brk => False | .ret v => False) := by
        intro σ g1 g2 g3
        walk_at "sxI"
        repeat walk_at "sxs"
        refine ev_ofF ?_
        refine evF_listComp okn (fv := []) (compOk_of (by kernel_rfl)) ?_
        repeat walk_at "sxs"
        refine ⟨_, rfl, trivial, by rw [List.length_map, List.length_append]; omega, fun cl L' okc => ?_⟩
        refine lloop_filter (fun σ => True) (fun v => match v with | .str [c] => spec c | _ => false) id _ _ _ trivial ?_ ?_
        · intro y hy σ _
          obtain ⟨c, hc, rfl⟩ := List.mem_map.mp hy
          refine asg_name okc (by kernel_rfl) ?_
          repeat walk_at "sxs"
          refine ⟨rfl, trivial, fun _ => ?_⟩
          repeat walk_at "sxs"
          exact ⟨rfl, trivial⟩
        intro D
        have e1 : [] ++ List.map id (List.filter (fun v => match v with | V.str [c] => spec c | _ => false) ((tx ++ pc2 x).map fun c => V.str [c])) = (((tx ++ pc2 x).filter spec).map fun c => V.str [c]) := by
          rw [List.nil_append, List.map_id, List.filter_map]; rfl
        repeat walk_at "sxs"
        show OpL _ _ _ [V.lst ([] ++ List.map id (List.filter (fun v => match v with | V.str [c] => spec c | _ => false) ((tx ++ pc2 x).map fun c => V.str [c])))] _
        rw [e1]
        have hfl := List.length_filter_le spec (tx ++ pc2 x)
        rw [List.length_append] at hfl
        refine opL_len_list (by rw [List.length_map]; omega) ?_
        rw [List.length_map]
        repeat walk_at "sxs"
        show (decide ((cnt (tx ++ pc2 x) : Int) ≤ 6) = true → _) ∧ (decide ((cnt (tx ++ pc2 x) : Int) ≤ 6) = false → _)
        refine ⟨fun hb => ?_, fun hb => ?_⟩
        · have hb : cnt (tx ++ pc2 x) ≤ 6 := by have : (cnt (tx ++ pc2 x) : Int) ≤ 6 := of_decide_eq_true hb
                                                omega
          have hst : stp2 tx x = tx ++ pc2 x := if_pos hb
          refine exs_cons ?_
          refine ex_aug okn (by kernel_rfl) ?_
          refine tr_load okn (v := .str tx) (by walk_at "sxf") ?_ (by decide)
          repeat walk_at "sxs"
          refine exs_nil (exs_nil ⟨by walk_at "sxf", ?_⟩)
          rw [hnext, hst]
          walk_at "sxf"
        · have hb : ¬ cnt (tx ++ pc2 x) ≤ 6 := by have : ¬ (cnt (tx ++ pc2 x) : Int) ≤ 6 := of_decide_eq_false hb
                                                  omega
          have hst : stp2 tx x = tx := if_neg hb
          exact exs_nil (exs_nil ⟨by walk_at "sxf", by rw [hnext, hst]; walk_at "sxf"⟩)
      refine asg_name okn (by kernel_rfl) ?_
      walk_at "sxA"
      repeat walk_at "sxs"
      walk_at "sxA"
      repeat walk_at "sxs"
      refine ⟨fun hb => ?_, fun hb => ?_⟩
      · have hb : x.fmod 23 = 22 := by simpa using hb
        obtain ⟨m, hm, hm1⟩ := fmodN (x.fdiv 23) (m := 55291) (by omega)
        have hm : (x.fdiv 23).fmod 55291 = (m : Int) := hm
        have hpc : pc2 x = [((m : Int)).toNat] := by unfold pc2; rw [if_pos hb, hm]
        repeat walk_at "sxs"
        rw [hm]
        refine opL_chr (by omega) (by omega) ?_
        refine Tr.mono (rest _ (by walk_at "sxf") (by walk_at "sxf") (by rw [hpc]; walk_at "sxf")) fun fl σ2 hfl => ?_
        cases fl with
        | next => exact hfl
        | cont => exact hfl
        | brk => exact hfl.elim
        | ret v => exact hfl.elim
      · have hb : ¬ x.fmod 23 = 22 := by simpa using hb
        obtain ⟨k, hk, hk1⟩ := fmodN x (m := 23) (by omega)
        have hk : x.fmod 23 = (k : Int) := hk
        have hpc : pc2 x = pcs2.getD k [] := by unfold pc2; rw [if_neg hb, hk]; rfl
        repeat walk_at "sxs"
        rw [hk]
        have hk2 : k < pcs2.length := by show k < 22; omega
        refine item_list (by show 22 ≤ _; omega) (strs_at2 (l := pcs2) hk2) ?_
        refine Tr.mono (rest _ (by walk_at "sxf") (by walk_at "sxf") (by rw [hpc]; walk_at "sxf")) fun fl σ2 hfl => ?_
        cases fl with
        | next => exact hfl
        | cont => exact hfl
        | brk => exact hfl.elim
        | ret v => exact hfl.elim
    · rintro σ ⟨f1, f2⟩
      rw [List.take_length] at f2
      refine exs_nil ?_
      walk_at "sxR"
      repeat walk_at "sxs"
      rfl
/-- list(table.items()) -/
noncomputable def itemsL (T : List (S × S)) : List V := (tabV T).map fun p => V.tup [p.1.tv, p.2]
theorem alike_itemsL (T : List (S × S)) : AlikeL 1 (itemsL T) (itemsL T) := by
  unfold itemsL tabV
  induction T with
  | nil => exact .nil 1
  | cons p r ih => exact .cons (.tup (.cons (.tt 0 _) (.cons (.ss 0 _) (.nil 0)))) ih
noncomputable def got (d : List (S × S)) (s : S) : S := ((d.find? fun q => q.1 = s).map (·.2)).getD []
theorem got_get (d : List (S × S)) (s : S) : (dget (tabV d) (.s s)).getD (.str []) = .str (got d s) := by
  unfold dget tabV got
  induction d with
  | nil => rfl
  | cons p r ih =>
    obtain ⟨k', v⟩ := p
    simp only [List.map_cons, List.find?_cons]
    by_cases h : k' = s
    · subst h; simp
    · have : ¬ Key.s k' = Key.s s := fun e => h (by injection e)
      simp only [decide_eq_false h, decide_eq_false this]
      exact ih
noncomputable def thr1 (d : List (S × S)) (p : S × S) : List (S × S) := if (got d p.2).length < p.1.length then tset1 d p.2 p.1 else d
noncomputable def thr (l : List (S × S)) : List (S × S) := l.foldl thr1 []
theorem thr_all {k : Nat} (hk : k < 4) : thr (tbl k) = theres k ∧ (∀ i, ((thr ((tbl k).take i)).length ≤ 3 ∧ ∀ p ∈ thr ((tbl k).take i), p.2.length ≤ 6)) ∧ ∀ p ∈ tbl k, p.1.length ≤ 6 := by
  have cut : ∀ (P : Nat → Prop), P 0 → P 1 → P 2 → P 3 → (∀ i, 3 ≤ i → (P i ↔ P 3)) → ∀ i, P i := fun P h0 h1 h2 h3 h i => by
    match i with
    | 0 => exact h0
    | 1 => exact h1
    | 2 => exact h2
    | i + 3 => exact (h (i + 3) (by omega)).mpr h3
  have hl : (tbl k).length ≤ 3 := by
    match k, hk with
    | 0, _ => decide
    | 1, _ => decide
    | 2, _ => decide
    | 3, _ => decide
  refine ⟨?_, cut _ ?_ ?_ ?_ ?_ (fun i hi => by rw [List.take_of_length_le (by omega), List.take_of_length_le hl]), ?_⟩
  all_goals
    match k, hk with
    | 0, _ => decide
    | 1, _ => decide
    | 2, _ => decide
    | 3, _ => decide
theorem tbl_len {k : Nat} (hk : k < 4) : (tbl k).length ≤ 3 ∧ (back k).length ≤ 4 ∧ (known k).length ≤ 6 ∧ (theres k).length ≤ 2 := by
  match k, hk with
  | 0, _ => decide
  | 1, _ => decide
  | 2, _ => decide
  | 3, _ => decide
set_option maxHeartbeats 2000000 in
theorem walk02e {W : Wd} {A : Around} {L : Addr} {q' : Str} {cd : Value} {n : Nat} (okn : (fnCx W A (fdAt (F02 W.w) 56).scope L 56 q' cd).Ok (n + 2)) (I : In02 (fnCx W A (fdAt (F02 W.w) 56).scope L 56 q' cd)) {k : Nat} (hk : k < 4) {t R : S} {E G : List S}
    (hR : R.length ≤ 80) (hE : E.length ≤ 729 ∧ ∀ x ∈ E, x.length ≤ 600) (hGb : G.length ≤ 729 ∧ ∀ x ∈ G, x.length ≤ 600) (hEG : E.filter (fun x => decide (reps (unL2 k) x = R)) = G) (htG : t ∈ G)
    (hmost : maxI (G.map fun x => (x.length : Int)) = ((reps (esL2 k) R).length : Int)) (hlong : G.filter (fun x => decide (x.length = (reps (esL2 k) R).length)) = [reps (esL2 k) R])
    (σ : St) (f1 : find σ (Str.ofString "text") = some (.val (.str t))) (f2 : find σ (Str.ofString "table") = some (.val (.lst ((tbl k).map prV)))) (f3 : find σ (Str.ofString "back") = some (.val (.dct (tabV (back k))))) (f4 : find σ (Str.ofString "before") = some (.val (.lst (itemsL (back k)))))
    (f5 : find σ (Str.ofString "read") = some (.val (.str R))) (f6 : find σ (Str.ofString "every") = some (.val (.lst (E.map V.str)))) (f7 : find σ (Str.ofString "good") = some (.val (.lst (G.map V.str)))) :
    Exs (fnCx W A (fdAt (F02 W.w) 56).scope L 56 q' cd) σ ((bdAt (F02 W.w) 56).drop 11) (fun fl _ => fl.v = .bool true) := by
  have hG : (fnCx W A (fdAt (F02 W.w) 56).scope L 56 q' cd).W.gls = _ := I.hG
  have hsz : sizeLine = 16777216 := sizeLine_eq
  obtain ⟨l1, l2, l3, l4⟩ := tbl_len hk
  obtain ⟨th1, th2, th3⟩ := thr_all hk
  walk_at "sxI"
  refine tst_cmp ?_ (by with_unfolding_all rfl)
  refine ev_ofF ?_
  refine evF_listComp okn (fv := ["back", "read"]) (compOk_of (by kernel_rfl)) ?_
  repeat walk_at "sxs"
  refine ⟨_, rfl, trivial, by rw [List.length_map]; omega, fun cl L' okc => ?_⟩
  refine lloop_filter (fun σ => find σ (Str.ofString "back") = some (.val (.dct (tabV (back k)))) ∧ find σ (Str.ofString "read") = some (.val (.str R))) (fun v => match v with | .str x => decide (reps (unL2 k) x = R) | _ => false) id _ _ _ ⟨find_cap1 (by simp) (by walk_at "sxf"), find_cap1 (by simp) (by walk_at "sxf")⟩ ?_ ?_
  · rintro y hy σ ⟨j1, j2⟩
    obtain ⟨x, hx, rfl⟩ := List.mem_map.mp hy
    have hxl := hE.2 x hx
    refine asg_name okc (by kernel_rfl) ?_
    refine tst_cmp ?_ (by with_unfolding_all rfl)
    refine ev_fn okc I.hG (by kernel_rfl) (by rfl) (callee_of (fnAt_of (a := 39) I.hF (by rfl) (by rfl) (by rfl) (by rfl) (by rfl) (by rfl) (by rfl) (by rfl) (by rfl))) ?_ (by rfl) (by rfl) (by decide)
    repeat walk_at "sxs"
    refine OpL.eq (c_unescape (n := n) okc ⟨I.hF, I.hG⟩ (un_size2 hsz hk (by omega)) (by omega)) ?_
    show Ev _ _ _ (fun b σ2 => Op2 _ _ _ (V.str (reps (unL2 k) x)) b _)
    repeat walk_at "sxs"
    refine ⟨rfl, ⟨by walk_at "sxf", by walk_at "sxf"⟩, fun _ => ?_⟩
    repeat walk_at "sxs"
    exact ⟨rfl, by walk_at "sxf", by walk_at "sxf"⟩
  intro D
  have e1 : [] ++ List.map id (List.filter (fun v => match v with | V.str x => decide (reps (unL2 k) x = R) | _ => false) (E.map V.str)) = G.map V.str := by
    rw [List.nil_append, List.map_id, List.filter_map, ← hEG]; rfl
  show Ev _ _ _ (fun b σ2 => Op2 _ _ _ (V.lst ([] ++ List.map id (List.filter (fun v => match v with | V.str x => decide (reps (unL2 k) x = R) | _ => false) (E.map V.str)))) b _)
  rw [e1]
  repeat walk_at "sxs"
  refine op_ne_alike okn (n := 0) (by omega) (alikeL_strs _) (exB ⟨fun h => (nomatch h), fun _ => ?_⟩)
  refine exs_nil ?_
  -- text in good, the table
  walk_at "sxI"
  repeat walk_at "sxs"
  refine allT_or ?_
  refine tst_cmp ?_ (by with_unfolding_all rfl)
  repeat walk_at "sxs"
  refine op_notIn_strs okn htG (exB ⟨fun _ => ?_, fun h => (nomatch h)⟩)
  refine allT_or ?_
  refine tst_cmp ?_ (by with_unfolding_all rfl)
  refine ev_ofF ?_
  refine evF_fn okn hG (by kernel_rfl) (by rfl) .ty ?_ (by rfl) (by rfl) (by decide)
  repeat walk_at "sxs"
  refine opF_listItems okn (by rw [tabV_length]; omega) fun a6 => ?_
  show Ev _ _ _ (fun b σ2 => Op2 _ _ _ (V.lst (itemsL (back k))) b _)
  repeat walk_at "sxs"
  refine op_ne_alike okn (n := 1) (by omega) (alike_itemsL _) (exB ⟨fun _ => ?_, fun h => (nomatch h)⟩)
  refine allT_or_nil ⟨fun h => (nomatch h), fun _ => ?_⟩
  refine exs_nil ?_
  -- there
  walk_at "sxN"
  refine evF_dict0 okn fun D2 => ?_
  refine exs_cons ?_
  refine ex_for okn ?_
  repeat walk_at "sxs"
  refine ⟨_, rfl, trivial, ?_⟩
  refine loop_list prV (tbl k) (fun i σ => find σ (Str.ofString "read") = some (.val (.str R)) ∧ find σ (Str.ofString "good") = some (.val (.lst (G.map V.str))) ∧ find σ (Str.ofString "there") = some (.dict D2 (tabV (thr ((tbl k).take i))))) ?_ ?_ ⟨by walk_at "sxf", by walk_at "sxf", by walk_at "sxf"⟩ rfl
  · rintro i p σ hp ⟨g1, g2, g3⟩
    obtain ⟨d1, d2⟩ := th2 i
    have hp1 := th3 p (List.mem_of_getElem? hp)
    have hnext : thr ((tbl k).take (i + 1)) = thr1 (thr ((tbl k).take i)) p := by
      unfold thr
      rw [List.take_add_one, hp, List.foldl_append]; rfl
    generalize thr ((tbl k).take i) = d at g3 d1 d2 hnext
    have hgl : (got d p.2).length ≤ 6 := by
      unfold got
      cases e : d.find? (fun q => q.1 = p.2) with
      | none => exact Nat.zero_le _
      | some q => exact d2 q (List.mem_of_find?_eq_some e)
    refine asg_tuple okn (asgL_cons (asg_name okn (by kernel_rfl) (asgL_cons (asg_name okn (by kernel_rfl) (asgL_nil ?_))))) (by rfl) (by rfl)
    walk_at "sxI"
    refine tst_cmp ?_ (by with_unfolding_all rfl)
    iterate 7 walk_at "sxs"
    refine ev_methO okn (sl := .dict D2 (tabV d)) (a := D2) (by walk_at "sxf") rfl PySem.F.plainAttrs_dict PySem.F.slot_dict_get PySem.F.type_dict_get ?_ (by decide) (by decide) (by decide) (by rfl) (by rfl) (by rfl) (by rfl)
    repeat walk_at "sxs"
    refine ⟨.dict D2 (tabV d), by walk_at "sxf", rfl, ?_⟩
    refine get_str ?_
    rw [show (dget (tabV d) (.s p.2)).getD (.str (lit "")) = .str (got d p.2) from got_get d p.2]
    refine ⟨_, rfl, ?_⟩
    repeat walk_at "sxs"
    refine ⟨fun hb => ?_, fun hb => ?_⟩
    · have hb : ((got d p.2).length : Int) < (p.1.length : Int) := of_decide_eq_true hb
      have hst : thr1 d p = tset1 d p.2 p.1 := if_pos (by omega)
      refine exs_cons ?_
      refine ex_setItemO okn (a := D2) (P := fun _ => True) ?_ (by decide) (by decide) (by decide) (swaps_no (by rfl))
      repeat walk_at "sxs"
      refine ⟨.dict D2 (tabV d), by walk_at "sxf", rfl, ?_⟩
      repeat walk_at "sxs"
      refine ⟨.dict D2 (tabV d), by walk_at "sxf", rfl, ?_⟩
      refine opM_setItem (k := .s p.2) (by rw [tabV_length]; omega) ?_
      rw [dset_tab1]
      exact exs_nil (exs_nil ⟨by walk_at "sxf", by walk_at "sxf", by rw [hnext, hst]; walk_at "sxf"⟩)
    · have hb : ¬ ((got d p.2).length : Int) < (p.1.length : Int) := of_decide_eq_false hb
      have hst : thr1 d p = d := if_neg (by omega)
      exact exs_nil (exs_nil ⟨by walk_at "sxf", by walk_at "sxf", by rw [hnext, hst]; walk_at "sxf"⟩)
  · rintro σ ⟨g1, g2, g3⟩
    rw [List.take_length, th1] at g3
    refine exs_nil ?_
    refine Tr.freeze (x := "there") g3 rfl ?_ (by decide)
    -- most
    walk_at "sxA"
    walk_at "sxs"
    walk_at "sxs"
    refine ev_ofF ?_
    refine evF_listComp okn (fv := []) (compOk_of (by kernel_rfl)) ?_
    repeat walk_at "sxs"
    refine ⟨_, rfl, trivial, by rw [List.length_map]; omega, fun cl L' okc => ?_⟩
    refine lloop_map (fun σ => True) (fun v => match v with | .str x => .int x.length | _ => .none) _ _ _ trivial ?_ ?_
    · intro y hy σ _
      obtain ⟨x, hx, rfl⟩ := List.mem_map.mp hy
      have hxl := hGb.2 x hx
      refine asg_name okc (by kernel_rfl) ?_
      refine ev_fn okc I.hG (by kernel_rfl) (by rfl) .bi ?_ (by rfl) (by rfl) (by decide)
      repeat walk_at "sxs"
      exact ⟨rfl, trivial⟩
    intro D3
    repeat walk_at "sxs"
    have e2 : [] ++ List.map (fun v => match v with | V.str x => V.int x.length | _ => V.none) (G.map V.str) = (G.map fun x => (x.length : Int)).map V.int := by
      rw [List.nil_append, List.map_map, List.map_map]; rfl
    show OpL _ _ _ [V.lst ([] ++ List.map (fun v => match v with | V.str x => V.int x.length | _ => V.none) (G.map V.str))] _
    rw [e2]
    refine opL_maxL okn (fun q => by rw [List.map_eq_nil_iff] at q; rw [q] at htG; cases htG) ?_
    rw [hmost]
    -- the longest
    walk_at "sxR"
    refine ev_cmp ?_ (by with_unfolding_all rfl)
    refine ev_ofF ?_
    refine evF_listComp okn (fv := ["most"]) (compOk_of (by kernel_rfl)) ?_
    repeat walk_at "sxs"
    refine ⟨_, rfl, trivial, by rw [List.length_map]; omega, fun cl L' okc => ?_⟩
    refine lloop_filter (fun σ => find σ (Str.ofString "most") = some (.val (.int ((reps (esL2 k) R).length : Nat)))) (fun v => match v with | .str x => decide (x.length = (reps (esL2 k) R).length) | _ => false) id _ _ _ (find_cap1 (by simp) (by walk_at "sxf")) ?_ ?_
    · rintro y hy σ j1
      obtain ⟨x, hx, rfl⟩ := List.mem_map.mp hy
      have hxl := hGb.2 x hx
      refine asg_name okc (by kernel_rfl) ?_
      refine tst_cmp ?_ (by with_unfolding_all rfl)
      refine ev_fn okc I.hG (by kernel_rfl) (by rfl) .bi ?_ (by rfl) (by rfl) (by decide)
      repeat walk_at "sxs"
      refine ⟨?_, by walk_at "sxf", fun _ => ?_⟩
      · show ((x.length : Int) == ((reps (esL2 k) R).length : Int)) = decide _
        by_cases q : x.length = (reps (esL2 k) R).length
        · rw [q]; simp
        · have : ¬ (x.length : Int) = ((reps (esL2 k) R).length : Int) := by omega
          simp [q, this]
      · repeat walk_at "sxs"
        exact ⟨rfl, by walk_at "sxf"⟩
    intro D4
    have e3 : [] ++ List.map id (List.filter (fun v => match v with | V.str x => decide (x.length = (reps (esL2 k) R).length) | _ => false) (G.map V.str)) = [reps (esL2 k) R].map V.str := by
      rw [List.nil_append, List.map_id, List.filter_map, ← hlong]; rfl
    show Ev _ _ _ (fun b σ2 => Op2 _ _ _ (V.lst ([] ++ List.map id (List.filter (fun v => match v with | V.str x => decide (x.length = (reps (esL2 k) R).length) | _ => false) (G.map V.str)))) b _)
    rw [e3]
    refine ev_ofF ?_
    refine evF_list ?_
    walk_at "sxs"
    refine ev_fn okn hG (by kernel_rfl) (by rfl) (callee_of (fnAt_of (a := 30) I.hF (by rfl) (by rfl) (by rfl) (by rfl) (by rfl) (by rfl) (by rfl) (by rfl) (by rfl))) ?_ (by rfl) (by rfl) (by decide)
    repeat walk_at "sxs"
    refine OpL.eq (c_escape (n := n) okn ⟨I.hF, I.hG⟩ (es_size2 hsz hk (by omega)) (by omega)) ?_
    repeat walk_at "sxs"
    refine ⟨by show 1 ≤ _; omega, fun a7 => ?_⟩
    exact op_eq_alike okn (n := 0) (by omega) (alikeL_strs [reps (esL2 k) R]) rfl
theorem hit_known (k : Nat) (r : S) : hitB k r = (known k).any fun p => (p.1.drop 1).isPrefixOf r := by
  unfold hitB tails
  rw [List.any_map]; rfl
/-- the ways of a sign when the first i known references have been looked at -/
noncomputable def wayAt (k c : Nat) (r : S) (i : Nat) : List S := if (((known k).take i).any fun p => (p.1.drop 1).isPrefixOf r) = true then [lit "&amp;"] else ways k c
theorem wayAt_all (k : Nat) (r : S) : wayAt k 38 r (known k).length = gways k 38 r := by
  unfold wayAt gways
  rw [List.take_length, ← hit_known]
  by_cases h : hitB k r = true
  · rw [if_pos h, if_pos ⟨rfl, h⟩]
  · rw [if_neg h, if_neg (fun q => h q.2)]
theorem stepL_V (E W : List S) : (E.map V.str).flatMap (fun x => (W.map V.str).map fun z => match x, z with | .str a, .str b => V.str (a ++ b) | _, _ => V.none) = (stepL E W).map V.str := by
  unfold stepL
  rw [List.flatMap_map, List.map_flatMap]
  refine flatMap_congrN fun h _ => ?_
  rw [List.map_map, List.map_map]; rfl
theorem slc_part (x : S) (i n : Nat) : slc (some ((i : Int) + 1)) (some ((i : Int) + ((n + 1 : Nat) : Int))) x = (x.drop (i + 1)).take n := by
  have := slc_lohi x (i + 1) n
  rw [← this]
  congr 2
  · omega
set_option maxHeartbeats 2000000 in
theorem walk02m {W : Wd} {A : Around} {L : Addr} {q' : Str} {cd : Value} {n : Nat} (okn : (fnCx W A (fdAt (F02 W.w) 56).scope L 56 q' cd).Ok (n + 2)) (I : In02 (fnCx W A (fdAt (F02 W.w) 56).scope L 56 q' cd)) {k : Nat} (hk : k < 4) {R : S} {E G : List S} {i c : Nat}
    (hR : R.length ≤ 80) (hi : R[i]? = some c) (hE : E.length ≤ 729 ∧ ∀ x ∈ E, x.length ≤ 600) (hGb : G.length ≤ 729 ∧ ∀ x ∈ G, x.length ≤ 600)
    (P : Fl → St → Prop) (σ : St) (f1 : find σ (Str.ofString "known") = some (.val (.lst ((known k).map prV))))
    (f5 : find σ (Str.ofString "read") = some (.val (.str R))) (f6 : find σ (Str.ofString "every") = some (.val (.lst (E.map V.str)))) (f7 : find σ (Str.ofString "good") = some (.val (.lst (G.map V.str)))) (f8 : find σ (Str.ofString "i") = some (.val (.int (i : Int))))
    (x1 : V) (x2 : V) (x3 : V) (x4 : V) (g1 : find σ (Str.ofString "text") = some (.val x1)) (g2 : find σ (Str.ofString "table") = some (.val x2)) (g3 : find σ (Str.ofString "back") = some (.val x3)) (g4 : find σ (Str.ofString "before") = some (.val x4))
    (hQ : ∀ σ', find σ' (Str.ofString "known") = some (.val (.lst ((known k).map prV))) → find σ' (Str.ofString "read") = some (.val (.str R)) → find σ' (Str.ofString "every") = some (.val (.lst ((stepL E (ways k c)).map V.str))) → find σ' (Str.ofString "good") = some (.val (.lst ((stepL G (gways k c (R.drop (i + 1)))).map V.str))) →
      find σ' (Str.ofString "text") = some (.val x1) → find σ' (Str.ofString "table") = some (.val x2) → find σ' (Str.ofString "back") = some (.val x3) → find σ' (Str.ofString "before") = some (.val x4) → P .next σ') :
    Exs (fnCx W A (fdAt (F02 W.w) 56).scope L 56 q' cd) σ (forBody (bdAt (F02 W.w) 56) 10) P := by
  have hG : (fnCx W A (fdAt (F02 W.w) 56).scope L 56 q' cd).W.gls = _ := I.hG
  have hsz : sizeLine = 16777216 := sizeLine_eq
  obtain ⟨l1, l2, l3, l4⟩ := tbl_len hk
  obtain ⟨w1, w2⟩ := ways_fit hk c
  have w1 : (ways k c).length ≤ 3 := Nat.le_trans w1 (by split <;> omega)
  obtain ⟨v1, v2⟩ := gways_fit hk c (R.drop (i + 1))
  have v1 : (gways k c (R.drop (i + 1))).length ≤ 3 := Nat.le_trans v1 (by split <;> omega)
  have kl : ∀ p ∈ known k, 1 ≤ p.1.length ∧ p.1.length ≤ 6 := by
    match k, hk with
    | 0, _ => decide
    | 1, _ => decide
    | 2, _ => decide
    | 3, _ => decide
  have il : i < R.length := (List.getElem?_eq_some_iff.mp hi).1
  -- good
  have last : ∀ σ : St, find σ (Str.ofString "known") = some (.val (.lst ((known k).map prV))) → find σ (Str.ofString "read") = some (.val (.str R)) → find σ (Str.ofString "every") = some (.val (.lst ((stepL E (ways k c)).map V.str))) → find σ (Str.ofString "good") = some (.val (.lst (G.map V.str))) → find σ (Str.ofString "ways") = some (.val (.lst ((gways k c (R.drop (i + 1))).map V.str))) →
      find σ (Str.ofString "text") = some (.val x1) → find σ (Str.ofString "table") = some (.val x2) → find σ (Str.ofString "back") = some (.val x3) → find σ (Str.ofString "before") = some (.val x4) → Exs (fnCx W A (fdAt (F02 W.w) 56).scope L 56 q' cd) σ ((forBody (bdAt (F02 W.w) 56) 10).drop 3) P := by
    intro σ a1 a2 a3 a4 a5 a6 a7 a8 a9
    generalize gways k c (R.drop (i + 1)) = ws at a5 v1 v2 hQ
    refine exs_cons ?_
    refine ex_assignListComp2 okn (fv := ["ways"]) (compOk_of (by kernel_rfl)) (by kernel_rfl) ?_ (swaps_list (by kernel_rfl))
    repeat walk_at "sxs"
    refine ⟨_, rfl, trivial, fun cl D L' okc => ?_⟩
    refine cloop2_map okc (fun _ _ h => h) (fun σ => find σ (Str.ofString "ways") = some (.val (.lst (ws.map V.str)))) (fun x σ => find σ (Str.ofString "ways") = some (.val (.lst (ws.map V.str))) ∧ find σ (Str.ofString "head") = some (.val x)) (ws.map V.str) (fun x z => match x, z with | .str a, .str b => V.str (a ++ b) | _, _ => V.none)
      (by intro _; rfl) _ _ _ (find_cap1 (by simp) (by walk_at "sxf")) ?_ ?_ ?_ (fun x σ h => h.1) ?_
    · rw [List.length_map, List.length_map]
      have := Nat.mul_le_mul hGb.1 v1
      show 0 + _ ≤ _
      omega
    · intro x hx σ j1
      refine asg_name okc (by kernel_rfl) ?_
      repeat walk_at "sxs"
      exact ⟨rfl, trivial, by walk_at "sxf", by walk_at "sxf"⟩
    · rintro x hx z hz σ ⟨j1, j2⟩
      obtain ⟨a, ha, rfl⟩ := List.mem_map.mp hx
      obtain ⟨b, hb, rfl⟩ := List.mem_map.mp hz
      have := hGb.2 a ha
      have := v2 b hb
      refine asg_name okc (by kernel_rfl) ?_
      repeat walk_at "sxs"
      exact ⟨rfl, by walk_at "sxf", by walk_at "sxf"⟩
    intro σ2 j1
    rw [List.nil_append, stepL_V]
    refine Tr.freeze (x := "good") (sl := .list D ((stepL G ws).map V.str)) (by walk_at "sxf") rfl ?_ (by decide)
    exact exs_nil (hQ _ (by walk_at "sxf") (by walk_at "sxf") (by walk_at "sxf") (by walk_at "sxf") (by walk_at "sxf") (by walk_at "sxf") (by walk_at "sxf") (by walk_at "sxf"))
  -- ways
  walk_at "sxA"
  refine ev_ofF ?_
  refine evF_bin ?_
  refine ev_ofF ?_
  refine evF_list ?_
  repeat walk_at "sxs"
  refine ⟨by show 1 ≤ _; omega, fun a1 => ?_⟩
  refine ev_ofF ?_
  refine evF_listComp okn (fv := ["i", "read"]) (compOk_of (by kernel_rfl)) ?_
  repeat walk_at "sxs"
  refine ⟨_, rfl, trivial, by rw [List.length_map]; omega, fun cl L' okc => ?_⟩
  refine lloop_filter (fun σ => find σ (Str.ofString "i") = some (.val (.int (i : Int))) ∧ find σ (Str.ofString "read") = some (.val (.str R))) (fun v => match v with | .tup [_, .str s] => decide (s = [c]) | _ => false) (fun v => match v with | .tup [r, _] => r | _ => .none) _ _ _ ⟨find_cap1 (by simp) (by walk_at "sxf"), find_cap1 (by simp) (by walk_at "sxf")⟩ ?_ ?_
  · rintro y hy σ ⟨j1, j2⟩
    obtain ⟨p, hp, rfl⟩ := List.mem_map.mp hy
    refine asg_tuple okc (asgL_cons (asg_name okc (by kernel_rfl) (asgL_cons (asg_name okc (by kernel_rfl) (asgL_nil ?_))))) (by rfl) (by rfl)
    repeat walk_at "sxs"
    refine ⟨rfl, ⟨by walk_at "sxf", by walk_at "sxf"⟩, fun _ => ?_⟩
    repeat walk_at "sxs"
    exact ⟨rfl, by walk_at "sxf", by walk_at "sxf"⟩
  intro D
  have e1 : [] ++ List.map (fun v => match v with | V.tup [r, _] => r | _ => V.none) (List.filter (fun v => match v with | V.tup [_, .str s] => decide (s = [c]) | _ => false) ((known k).map prV)) = (((known k).filter fun p => decide (p.2 = [c])).map (·.1)).map V.str := by
    rw [List.nil_append, List.filter_map, List.map_map, List.map_map]; rfl
  have e2 : V.str [c] :: (((known k).filter fun p => decide (p.2 = [c])).map (·.1)).map V.str = (ways k c).map V.str := rfl
  show Op2F _ _ (V.lst [V.str [c]]) (V.lst ([] ++ List.map (fun v => match v with | V.tup [r, _] => r | _ => V.none) (List.filter (fun v => match v with | V.tup [_, .str s] => decide (s = [c]) | _ => false) ((known k).map prV)))) _
  rw [e1]
  have hle : ((known k).filter fun p => decide (p.2 = [c])).length ≤ 6 := Nat.le_trans (List.length_filter_le _ _) l3
  refine opF_add_list (by rw [List.length_map, List.length_map]; show 1 + _ ≤ _; omega) fun a2 => ?_
  show Exs _ (put _ _ _ (.val (.lst ((ways k c).map V.str)))) _ _
  -- every
  refine exs_cons ?_
  refine ex_assignListComp2 okn (fv := ["ways"]) (compOk_of (by kernel_rfl)) (by kernel_rfl) ?_ (swaps_list (by kernel_rfl))
  repeat walk_at "sxs"
  refine ⟨_, rfl, trivial, fun cl D L' okc => ?_⟩
  refine cloop2_map okc (fun _ _ h => h) (fun σ => find σ (Str.ofString "ways") = some (.val (.lst ((ways k c).map V.str)))) (fun x σ => find σ (Str.ofString "ways") = some (.val (.lst ((ways k c).map V.str))) ∧ find σ (Str.ofString "head") = some (.val x)) ((ways k c).map V.str) (fun x z => match x, z with | .str a, .str b => V.str (a ++ b) | _, _ => V.none)
    (by intro _; rfl) _ _ _ (find_cap1 (by simp) (by walk_at "sxf")) ?_ ?_ ?_ (fun x σ h => h.1) ?_
  · rw [List.length_map, List.length_map]
    have := Nat.mul_le_mul hE.1 w1
    show 0 + _ ≤ _
    omega
  · intro x hx σ j1
    refine asg_name okc (by kernel_rfl) ?_
    repeat walk_at "sxs"
    exact ⟨rfl, trivial, by walk_at "sxf", by walk_at "sxf"⟩
  · rintro x hx z hz σ ⟨j1, j2⟩
    obtain ⟨a, ha, rfl⟩ := List.mem_map.mp hx
    obtain ⟨b, hb, rfl⟩ := List.mem_map.mp hz
    have := hE.2 a ha
    have := w2 b hb
    refine asg_name okc (by kernel_rfl) ?_
    repeat walk_at "sxs"
    exact ⟨rfl, by walk_at "sxf", by walk_at "sxf"⟩
  intro σ2 j1
  rw [List.nil_append, stepL_V]
  refine Tr.freeze (x := "every") (sl := .list D ((stepL E (ways k c)).map V.str)) (by walk_at "sxf") rfl ?_ (by decide)
  -- a bare &
  walk_at "sxI"
  repeat walk_at "sxs"
  refine ⟨fun hb => ?_, fun hb => ?_⟩
  · have hb : c = 38 := by have := of_decide_eq_true hb; injection this
    subst hb
    refine exs_cons ?_
    refine ex_for okn ?_
    repeat walk_at "sxs"
    refine ⟨_, rfl, trivial, ?_⟩
    generalize hEV : (stepL E (ways k 38)).map V.str = EV at last
    refine loop_list prV (known k) (fun j σ => find σ (Str.ofString "known") = some (.val (.lst ((known k).map prV))) ∧ find σ (Str.ofString "read") = some (.val (.str R)) ∧ find σ (Str.ofString "every") = some (.val (.lst EV)) ∧ find σ (Str.ofString "good") = some (.val (.lst (G.map V.str))) ∧ find σ (Str.ofString "ways") = some (.val (.lst ((wayAt k 38 (R.drop (i + 1)) j).map V.str))) ∧
      find σ (Str.ofString "text") = some (.val x1) ∧ find σ (Str.ofString "table") = some (.val x2) ∧ find σ (Str.ofString "back") = some (.val x3) ∧ find σ (Str.ofString "before") = some (.val x4) ∧ find σ (Str.ofString "i") = some (.val (.int (i : Int)))) ?_ ?_ ⟨by walk_at "sxf", by walk_at "sxf", by walk_at "sxf", by walk_at "sxf", by walk_at "sxf", by walk_at "sxf", by walk_at "sxf", by walk_at "sxf", by walk_at "sxf", by walk_at "sxf"⟩ rfl
    · rintro j p σ hp ⟨a1, a2, a3, a4, a5, a6, a7, a8, a9, a10⟩
      obtain ⟨p1, p2⟩ := kl p (List.mem_of_getElem? hp)
      have hany : (((known k).take (j + 1)).any fun p => (p.1.drop 1).isPrefixOf (R.drop (i + 1))) = ((((known k).take j).any fun p => (p.1.drop 1).isPrefixOf (R.drop (i + 1))) || (p.1.drop 1).isPrefixOf (R.drop (i + 1))) := by
        rw [List.take_add_one, hp, List.any_append]
        simp
      refine asg_tuple okn (asgL_cons (asg_name okn (by kernel_rfl) (asgL_cons (asg_name okn (by kernel_rfl) (asgL_nil ?_))))) (by rfl) (by rfl)
      walk_at "sxI"
      repeat walk_at "sxs"
      obtain ⟨m, hm⟩ : ∃ m, p.1.length = m + 1 := ⟨p.1.length - 1, by omega⟩
      rw [hm, slc_part, show slc (some (1 : Int)) none p.1 = p.1.drop 1 from slc_lo p.1 1]
      repeat walk_at "sxs"
      have hpre : (p.1.drop 1).isPrefixOf (R.drop (i + 1)) = true ↔ (R.drop (i + 1)).take m = p.1.drop 1 := by
        rw [List.isPrefixOf_iff_prefix, List.prefix_iff_eq_take, List.length_drop, hm]
        exact ⟨fun e => e.symm, fun e => e.symm⟩
      refine ⟨fun hb => ?_, fun hb => ?_⟩
      · have hb := hpre.mpr (of_decide_eq_true hb)
        have hw : wayAt k 38 (R.drop (i + 1)) (j + 1) = [lit "&amp;"] := if_pos (by rw [hany, hb, Bool.or_true])
        walk_at "sxA"
        refine ev_ofF ?_
        refine evF_list ?_
        repeat walk_at "sxs"
        refine ⟨by show 1 ≤ _; omega, fun a11 => ?_⟩
        refine exs_nil (exs_nil ⟨by walk_at "sxf", by walk_at "sxf", by walk_at "sxf", by walk_at "sxf", ?_, by walk_at "sxf", by walk_at "sxf", by walk_at "sxf", by walk_at "sxf", by walk_at "sxf"⟩)
        rw [hw]
        walk_at "sxf"
      · have hb : (p.1.drop 1).isPrefixOf (R.drop (i + 1)) = false := by
          cases q : (p.1.drop 1).isPrefixOf (R.drop (i + 1)) with
          | false => rfl
          | true => exact absurd (hpre.mp q) (of_decide_eq_false hb)
        have hw : wayAt k 38 (R.drop (i + 1)) (j + 1) = wayAt k 38 (R.drop (i + 1)) j := by unfold wayAt; rw [hany, hb, Bool.or_false]
        exact exs_nil (exs_nil ⟨by walk_at "sxf", by walk_at "sxf", by walk_at "sxf", by walk_at "sxf", by rw [hw]; walk_at "sxf", by walk_at "sxf", by walk_at "sxf", by walk_at "sxf", by walk_at "sxf", by walk_at "sxf"⟩)
    · rintro σ ⟨a1, a2, a3, a4, a5, a6, a7, a8, a9, a10⟩
      rw [wayAt_all] at a5
      exact exs_nil (exs_nil (last σ a1 a2 a3 a4 a5 a6 a7 a8 a9))
  · have hb : c ≠ 38 := fun e => by subst e; exact absurd hb (by decide)
    have hw : gways k c (R.drop (i + 1)) = ways k c := if_neg fun q => hb q.1
    refine exs_nil (last _ (by walk_at "sxf") (by walk_at "sxf") (by walk_at "sxf") (by walk_at "sxf") (by rw [hw]; walk_at "sxf") (by walk_at "sxf") (by walk_at "sxf") (by walk_at "sxf") (by walk_at "sxf"))
theorem slc_mapI {α β : Type} (f : α → β) (lo hi : Option Int) (l : List α) : slc lo hi (l.map f) = (slc lo hi l).map f := by
  unfold slc; simp [List.map_take, List.map_drop]
theorem back_tab {k : Nat} (hk : k < 4) : (tbl k = [] → back k = tbl k) ∧ (tbl k ≠ [] → tset1 (tbl k) (lit "&lt;") (lit "no") = back k) := by
  match k, hk with
  | 0, _ => exact ⟨fun _ => rfl, fun h => absurd rfl h⟩
  | 1, _ => exact ⟨fun h => (by cases h), fun _ => (by decide)⟩
  | 2, _ => exact ⟨fun h => (by cases h), fun _ => (by decide)⟩
  | 3, _ => exact ⟨fun h => (by cases h), fun _ => (by decide)⟩
theorem dsets_tbl {k : Nat} (hk : k < 4) : dsets [] (tabV (tbl k)) = tabV (tbl k) := by
  rw [show dsets [] (tabV (tbl k)) = tabV (tput [] (tbl k)) from dsets_tput [] (tbl k)]
  congr 1
  match k, hk with
  | 0, _ => decide
  | 1, _ => decide
  | 2, _ => decide
  | 3, _ => decide
set_option maxHeartbeats 2000000 in
theorem walk02b {W : Wd} {A : Around} {L : Addr} {q' : Str} {cd : Value} {n : Nat} (okn : (fnCx W A (fdAt (F02 W.w) 56).scope L 56 q' cd).Ok (n + 2)) (I : In02 (fnCx W A (fdAt (F02 W.w) 56).scope L 56 q' cd)) {k : Nat} (hk : k < 4) {t : S} (htl : t.length ≤ 80) (htc : cnt t ≤ 6) {ab : Addr}
    (σ : St) (f1 : find σ (Str.ofString "text") = some (.val (.str t))) (f2 : find σ (Str.ofString "table") = some (.val (.lst ((tbl k).map prV)))) (f3 : find σ (Str.ofString "back") = some (.dict ab (tabV (back k)))) :
    Exs (fnCx W A (fdAt (F02 W.w) 56).scope L 56 q' cd) σ ((bdAt (F02 W.w) 56).drop 5) (fun fl _ => fl.v = .bool true) := by
  have hG : (fnCx W A (fdAt (F02 W.w) 56).scope L 56 q' cd).W.gls = _ := I.hG
  have hsz : sizeLine = 16777216 := sizeLine_eq
  obtain ⟨l1, l2, l3, l4⟩ := tbl_len hk
  refine Tr.freeze (x := "back") f3 rfl ?_ (by decide)
  show Exs _ (put _ _ _ (.val (.dct (tabV (back k))))) _ _
  walk_at "sxA"
  refine ev_ofF ?_
  refine evF_bin ?_
  refine ev_ofF ?_
  refine evF_list ?_
  walk_at "sxs"
  refine ev_tuple ?_
  repeat walk_at "sxs"
  refine ⟨by show 2 ≤ _; omega, ?_⟩
  walk_at "sxs"
  refine ev_tuple ?_
  repeat walk_at "sxs"
  refine ⟨by show 2 ≤ _; omega, ?_⟩
  walk_at "sxs"
  refine ev_tuple ?_
  repeat walk_at "sxs"
  refine ⟨by show 2 ≤ _; omega, ?_⟩
  repeat walk_at "sxs"
  refine ⟨by show 3 ≤ _; omega, fun a1 => ?_⟩
  repeat walk_at "sxs"
  refine opF_add_list ?_ fun a2 => ?_
  · show 3 + ((tbl k).map prV).length ≤ _
    rw [List.length_map]; omega
  show Exs _ (put _ _ _ (.val (.lst ((known k).map prV)))) _ _
  -- before
  walk_at "sxA"
  refine ev_ofF ?_
  refine evF_fn okn hG (by kernel_rfl) (by rfl) .ty ?_ (by rfl) (by rfl) (by decide)
  repeat walk_at "sxs"
  refine opF_listItems okn (es := tabV (back k)) (by rw [tabV_length]; omega) fun a3 => ?_
  show Exs _ (put _ _ _ (.val (.lst (itemsL (back k))))) _ _
  -- read
  walk_at "sxA"
  refine ev_fn okn hG (by kernel_rfl) (by rfl) (callee_of (fnAt_of (a := 39) I.hF (by rfl) (by rfl) (by rfl) (by rfl) (by rfl) (by rfl) (by rfl) (by rfl) (by rfl))) ?_ (by rfl) (by rfl) (by decide)
  repeat walk_at "sxs"
  refine OpL.eq (c_unescape (n := n) okn ⟨I.hF, I.hG⟩ (un_size2 hsz hk (by omega)) (by omega)) ?_
  show Exs _ (put _ _ _ (.val (.str (reps (unL2 k) t)))) _ _
  have hg1 := gd_len (tails k) t 0
  have hg2 := gd_cnt (tails k) t 0
  have htg := text_good hk t
  rw [un_gd hk]
  generalize gd (tails k) 0 t = R at hg1 hg2 htg
  have hRl : R.length ≤ 80 := by omega
  have hRc : cnt R ≤ 6 := by omega
  have sE : ∀ i, (prodL ((everyLs k R).take i)).length ≤ 729 ∧ ∀ x ∈ prodL ((everyLs k R).take i), x.length ≤ 600 := fun i =>
    ⟨((every_fit hk R).prod hRc i).1, fun x hx => Nat.le_trans (((every_fit hk R).prod hRc i).2 x hx) (by omega)⟩
  have sG : ∀ i, (prodL ((goodLs k R).take i)).length ≤ 729 ∧ ∀ x ∈ prodL ((goodLs k R).take i), x.length ≤ 600 := fun i =>
    ⟨((good_fit hk R).prod hRc i).1, fun x hx => Nat.le_trans (((good_fit hk R).prod hRc i).2 x hx) (by omega)⟩
  -- every, good
  walk_at "sxA"
  refine ev_ofF ?_
  refine evF_list ?_
  repeat walk_at "sxs"
  refine ⟨by show 1 ≤ _; omega, fun a4 => ?_⟩
  show Exs _ (put _ _ _ (.val (.lst ((prodL ((everyLs k R).take 0)).map V.str)))) _ _
  walk_at "sxA"
  refine ev_ofF ?_
  refine evF_list ?_
  repeat walk_at "sxs"
  refine ⟨by show 1 ≤ _; omega, fun a5 => ?_⟩
  show Exs _ (put _ _ _ (.val (.lst ((prodL ((goodLs k R).take 0)).map V.str)))) _ _
  refine exs_cons ?_
  refine ex_for okn ?_
  repeat walk_at "sxs"
  refine ⟨_, rfl, run_rng (by omega) (by omega) (by omega) (by omega) _, ?_⟩
  refine loop_range (target := _) 0 _ R.length (by omega) (fun i σ => find σ (Str.ofString "known") = some (.val (.lst ((known k).map prV))) ∧ find σ (Str.ofString "read") = some (.val (.str R)) ∧ find σ (Str.ofString "every") = some (.val (.lst ((prodL ((everyLs k R).take i)).map V.str))) ∧ find σ (Str.ofString "good") = some (.val (.lst ((prodL ((goodLs k R).take i)).map V.str))) ∧
      find σ (Str.ofString "text") = some (.val (.str t)) ∧ find σ (Str.ofString "table") = some (.val (.lst ((tbl k).map prV))) ∧ find σ (Str.ofString "back") = some (.val (.dct (tabV (back k)))) ∧ find σ (Str.ofString "before") = some (.val (.lst (itemsL (back k))))) ?_ ?_
    ⟨by walk_at "sxf", by walk_at "sxf", by walk_at "sxf", by walk_at "sxf", by walk_at "sxf", by walk_at "sxf", by walk_at "sxf", by walk_at "sxf"⟩
  · rintro i σ hi ⟨g1, g2, g3, g4, g5, g6, g7, g8⟩
    rw [Int.zero_add]
    have hat : R[i]? = some R[i] := List.getElem?_eq_getElem hi
    refine asg_name okn (by kernel_rfl) ?_
    refine walk02m okn I hk hRl hat (sE i) (sG i) _ _ (by walk_at "sxf") (by walk_at "sxf") (by walk_at "sxf") (by walk_at "sxf") (by walk_at "sxf") _ _ _ _ (by walk_at "sxf") (by walk_at "sxf") (by walk_at "sxf") (by walk_at "sxf") ?_
    intro σ' b1 b2 b3 b4 b5 b6 b7 b8
    exact ⟨b1, b2, by rw [prodL_step (every_at hat)]; exact b3, by rw [prodL_step (good_at hat)]; exact b4, b5, b6, b7, b8⟩
  · rintro σ ⟨g1, g2, g3, g4, g5, g6, g7, g8⟩
    have eE : (everyLs k R).take R.length = everyLs k R := List.take_of_length_le (by unfold everyLs; rw [List.length_map]; exact Nat.le_refl _)
    have eG : (goodLs k R).take R.length = goodLs k R := List.take_of_length_le (by rw [goodLs_length]; exact Nat.le_refl _)
    have sE' := sE R.length
    have sG' := sG R.length
    rw [eE] at g3 sE'
    rw [eG] at g4 sG'
    refine exs_nil ?_
    refine walk02e okn I hk hRl sE' sG' ?_ htg ?_ ?_ σ g5 g6 g7 g8 g2 g3 g4
    · rw [← every_good hk]
      refine List.filter_congr fun x _ => ?_
      rw [un_gd hk]
    · rw [most_eq hk, es_big hk]
    · rw [es_big hk]; exact longest hk R
set_option maxHeartbeats 2000000 in
theorem walk02 {W : Wd} {A : Around} {L : Addr} {q' : Str} {cd : Value} {n : Nat} (okn : (fnCx W A (fdAt (F02 W.w) 56).scope L 56 q' cd).Ok (n + 2)) (I : In02 (fnCx W A (fdAt (F02 W.w) 56).scope L 56 q' cd)) {sc : List Int} (hsc : sc.length ≤ 63) :
    Exs (fnCx W A (fdAt (F02 W.w) 56).scope L 56 q' cd) [("script", .val (.lst (sc.map V.int)))] (bdAt (F02 W.w) 56) (fun fl _ => fl.v = .bool true) := by
  have hG : (fnCx W A (fdAt (F02 W.w) 56).scope L 56 q' cd).W.gls = _ := I.hG
  have hsz : sizeLine = 16777216 := sizeLine_eq
  walk_at "sxA"
  refine ev_ofF ?_
  refine evF_slice_list ?_
  walk_at "sxs"
  refine ⟨_, rfl, by rw [List.length_map]; omega, ?_⟩
  show Ev _ _ _ _
  walk_at "sxs"
  refine ⟨_, rfl, fun a1 => ?_⟩
  rw [slc_mapI]
  have hsl : (slc none (some 12) sc).length ≤ 12 := by unfold slc; rw [List.length_take]; unfold clp; simp; omega
  generalize slc none (some 12) sc = s at hsl
  walk_at "sxA"
  refine ev_fn okn hG (by kernel_rfl) (by rfl) (callee_of (fnAt_of (a := 46) I.hF (by rfl) (by rfl) (by rfl) (by rfl) (by rfl) (by rfl) (by rfl) (by rfl) (by rfl))) ?_ (by rfl) (by rfl) (by decide)
  repeat walk_at "sxs"
  refine opL_sum okn ?_
  repeat walk_at "sxs"
  refine OpL.eq (c_table (n := n + 1) okn I _) ?_
  obtain ⟨k, hk, hk1⟩ := fmodN s.sum (m := 4) (by omega)
  have hk : s.sum.fmod 4 = (k : Int) := hk
  rw [show (s.sum.fmod 4).toNat = k by rw [hk]; rfl]
  obtain ⟨l1, l2, l3, l4⟩ := tbl_len hk1
  walk_at "sxA"
  refine ev_fn okn hG (by kernel_rfl) (by rfl) (callee_of (fnAt_of (a := 51) I.hF (by rfl) (by rfl) (by rfl) (by rfl) (by rfl) (by rfl) (by rfl) (by rfl) (by rfl))) ?_ (by rfl) (by rfl) (by decide)
  repeat walk_at "sxs"
  refine OpL.eq (c_text (n := n + 1) okn I hsl) ?_
  obtain ⟨t1, t2⟩ := text2_ok s (lit "&amp;lt;") (by decide)
  have t2 : (text2 s).length ≤ 80 := Nat.le_trans t2 (by have e : (lit "&amp;lt;").length = 8 := rfl
                                                         omega)
  have t1 : cnt (text2 s) ≤ 6 := t1
  generalize text2 s = t at t1 t2
  -- back
  refine exs_cons ?_
  refine ex_assignN okn (by kernel_rfl) (swaps_dict (by kernel_rfl)) ?_
  refine evF_dictComp okn (fv := []) (compOk_of (by kernel_rfl)) ?_
  repeat walk_at "sxs"
  refine ⟨_, rfl, trivial, by rw [List.length_map]; omega, fun cl L' okc => ?_⟩
  refine dloop_map (fun σ => True) (fun v => match v with | .tup [.str a, .str b] => (.s a, .str b) | _ => (.s [], .none)) _ _ _ trivial ?_ ?_
  · intro x hx σ hJ
    obtain ⟨⟨a, b⟩, hi, rfl⟩ := List.mem_map.mp hx
    refine asg_tuple okc (asgL_cons (asg_name okc (by kernel_rfl) (asgL_cons (asg_name okc (by kernel_rfl) (asgL_nil ?_))))) (by rfl) (by rfl)
    repeat walk_at "sxs"
    refine ⟨rfl, ?_⟩
    repeat walk_at "sxs"
    exact ⟨rfl, trivial⟩
  intro D
  have e1 : List.map (fun v => match v with | V.tup [.str a, .str b] => ((.s a, .str b) : Key × V) | _ => (.s [], .none)) ((tbl k).map prV) = tabV (tbl k) := by
    rw [List.map_map]; rfl
  show Exs _ (put _ _ _ (.dict D (dsets [] (List.map (fun v => match v with | V.tup [.str a, .str b] => ((.s a, .str b) : Key × V) | _ => (.s [], .none)) ((tbl k).map prV))))) _ _
  rw [e1, dsets_tbl hk1]
  obtain ⟨b1, b2⟩ := back_tab hk1
  walk_at "sxI"
  refine tst_cmp ?_ (by with_unfolding_all rfl)
  repeat walk_at "sxs"
  refine ev_ofF ?_
  refine evF_list ?_
  repeat walk_at "sxs"
  refine ⟨Nat.zero_le _, fun a3 => ?_⟩
  show Op2 _ _ _ _ (V.lst []) _
  by_cases he : tbl k = []
  · have e2 : (tbl k).map prV = [] := by rw [he]; rfl
    rw [e2]
    refine op_ne_alike okn (n := 0) (by omega) (.nil 0) (exB ⟨fun h => (nomatch h), fun _ => ?_⟩)
    refine exs_nil ?_
    exact walk02b okn I hk1 t2 t1 _ (by walk_at "sxf") (by rw [e2]; walk_at "sxf") (by rw [b1 he]; walk_at "sxf")
  · refine op_ne_lens okn (by rw [List.length_map]; exact fun q => he (List.length_eq_zero_iff.mp q)) (exB ⟨fun _ => ?_, fun h => (nomatch h)⟩)
    refine exs_cons ?_
    refine ex_setItemO okn (a := D) (P := fun _ => True) ?_ (by decide) (by decide) (by decide) (swaps_no (by rfl))
    repeat walk_at "sxs"
    refine ⟨.dict D (tabV (tbl k)), by walk_at "sxf", rfl, ?_⟩
    repeat walk_at "sxs"
    refine ⟨.dict D (tabV (tbl k)), by walk_at "sxf", rfl, ?_⟩
    refine opM_setItem (k := .s (lit "&lt;")) (by rw [tabV_length]; omega) ?_
    have e3 : dset (tabV (tbl k)) (.s (lit "&lt;")) (.str (lit "no")) = tabV (back k) := (dset_tab1 _ _ _).trans (congrArg tabV (b2 he))
    generalize dset (tabV (tbl k)) (.s (lit "&lt;")) (.str (lit "no")) = dd at e3
    subst e3
    refine exs_nil ?_
    exact walk02b okn I hk1 t2 t1 _ (by walk_at "sxf") (by walk_at "sxf") (by walk_at "sxf")
theorem lookup_mem {l : List (String × Value)} {x : String} {v : Value} (h : l.lookup x = some v) : (x, v) ∈ l := by
  induction l with
  | nil => cases h
  | cons p r ih =>
    obtain ⟨y, u⟩ := p
    rw [List.lookup_cons] at h
    split at h
    · rename_i hb
      have hb := eq_of_beq hb
      injection h with h
      subst hb; subst h
      exact List.mem_cons_self
    · exact List.mem_cons_of_mem _ (ih h)
theorem ints_rep {W : Wd} {g : PH} {vs : List Value} {ns : List Int} (h : IntsAre vs ns) : RepL W g (ns.map V.int) vs := by
  induction h with
  | nil => exact .nil
  | cons n t _ ih => exact .cons (.int n t) ih
set_option maxHeartbeats 8000000 in
theorem join02 : PySem.Challenge.rw_kp0118_02.Holds := by
  refine head02 ?_
  k_fill
  intro w s₀ s₁ mg mb G Y fa o pm cd doc dV kV ho hd hcd hD hmg hg args vals as hpre hlay hrd hwl hlo
  have KX := kIn_of Y
  refine Ground.open G ?_
  intro T B D TE TW
  have h1 : mg "law" = some (.ref 56) := mg_of KX T.g (by kernel_rfl)
  have hfa : fa = 56 := by
    have h2 := h1.symm.trans hmg
    injection h2 with h2; injection h2 with h2; exact h2.symm
  clear hd hmg hD hcd
  subst hfa
  have hdo : (Wd.mk PySem.Challenge.rw_kp0118_02.row.prog w s₁.heap [("dict_replace_saxutils", .ref 21), ("escape", .ref 30), ("unescape", .ref 39), ("_law_table", .ref 46), ("_law_text", .ref 51), ("sum", .builtin "sum"), ("len", .builtin "len"), ("max", .builtin "max"), ("range", .type "range"), ("list", .type "list"), ("chr", .builtin "chr")]).Ok := by
    refine ⟨?_, T.nolimit, mg, mb, T.g, T.b, ?_⟩
    · obtain ⟨mm, hm, _⟩ := (T.seer (by rfl)).mods
      obtain ⟨o, es, ep, ho, _⟩ := hm
      show (s₁.heap.get? sysModules).isSome = true
      rw [ho]; rfl
    · intro x v hx
      have hx := lookup_mem hx
      simp only [List.mem_cons, List.not_mem_nil, or_false, Prod.mk.injEq] at hx
      rcases hx with ⟨rfl, rfl⟩ | ⟨rfl, rfl⟩ | ⟨rfl, rfl⟩ | ⟨rfl, rfl⟩ | ⟨rfl, rfl⟩ | ⟨rfl, rfl⟩ | ⟨rfl, rfl⟩ | ⟨rfl, rfl⟩ | ⟨rfl, rfl⟩ | ⟨rfl, rfl⟩ | ⟨rfl, rfl⟩
      iterate 5 (exact .inl (mg_of KX T.g (by kernel_rfl)))
      iterate 6 (exact .inr ⟨mg_none_of KX T.g (by kernel_rfl), by rw [T.builtins _ (by decide)]; rfl⟩)
  clear T B D TE TW Y G
  wrow_args hpre hlay hrd hwl hlo
  rename_i sc _ _ _ _ _ _ _ a xs _ hL _ w1 r0 hI _ hc _
  have hsc : sc.length ≤ 63 := by omega
  have fn : FnAt (Wd.mk PySem.Challenge.rw_kp0118_02.row.prog w s₁.heap [("dict_replace_saxutils", .ref 21), ("escape", .ref 30), ("unescape", .ref 39), ("_law_table", .ref 46), ("_law_text", .ref 51), ("sum", .builtin "sum"), ("len", .builtin "len"), ("max", .builtin "max"), ("range", .type "range"), ("list", .type "list"), ("chr", .builtin "chr")]) 56 (fdAt (F02 w) 56) (bdAt (F02 w) 56) :=
    fnAt_of (a := 56) KX (by rfl) (by rfl) (by rfl) (by rfl) (by rfl) (by rfl) (by rfl) (by rfl) (by rfl)
  have hu : callerA.units + 3 + 3 * 4 + 100 ≤ 9000 := by decide
  refine fn_call0 (n := 4) (p := "script") (v := .lst (sc.map V.int)) hdo rfl (by decide) (by decide) fn rfl ?_ ?_ (by rfl) (by rfl) ?_ ?_
  · have hb : BindsTo s₁ (fdAt (F02 w) 56) ⟨[Value.ref a], []⟩ ((["script"].map Str.ofString).zip ([Value.ref a] ++ [])) := binds_plain (fd := fdAt (F02 w) 56) (ps := ["script"]) (n := 1) (fun ws hl => by
      obtain ⟨a, rfl⟩ := len1 hl
      rfl) s₁ [Value.ref a] rfl
    exact hb
  · obtain ⟨o2, ho2, hc2, n2, hd2⟩ := hL
    cases w1 with
    | list hw _ =>
      have e := ho2.symm.trans hw
      injection e with e
      subst e
      exact .lst ho2 hc2 rfl hd2 (ints_rep hI)
  · intro A L q cd okn
    exact walk02 (n := 2) okn ⟨KX, rfl⟩ hsc
  · rintro s' ⟨h', tk, rfl⟩ hk
    refine ⟨.inl ⟨.bool true, .bool true, [], rfl, raisesW_false ?_, .bool true, ?_, unshared_nil⟩, .of_keep hk, rfl, .of_eq hg⟩
    · wrow_none_raised
    · wrow_post
end Sx
end
theorem PySem.Challenge.cw_kp0118_02_holds : PySem.Challenge.rw_kp0118_02.Holds := by
  exact Sx.join02
