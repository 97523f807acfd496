import PyProof.Rows.All
import Wide.All
import OpenK.AllK
import Wide.FinOn
import KE.KRevIter
import KE.KLam
import PyProof.Rows.TupMore
import PyProof.WalksEnum
import PyProof.ExcStr
import PyProof.RulesAs
import PyProof.ExcStrCall
import PyProof.NsDelKeeps
import PySem.Challenge.RW_sc0050_02
open PySem PyProof.Rows
set_option Elab.async false
set_option linter.unusedVariables false
set_option linter.unusedSimpArgs false
namespace Sc
/-! the program's end -/
noncomputable def refOf : Value → Option Addr
  | .ref a => some a
  | _ => none
theorem refOf_eq {v : Value} {a : Addr} (h : refOf v = some a) : v = .ref a := by
  cases v <;> first | (cases h; rfl) | cases h
noncomputable def dictAt (x : Str) : Data → Option Addr
  | .dict es _ => (nsFind es x).bind refOf
  | _ => none
noncomputable def codeAt : Data → Option Addr
  | .func fd => refOf fd.code
  | _ => none
noncomputable def tabAt : Data → Option Addr
  | .fields vs => refOf (vs.getD 11 .none)
  | _ => none
noncomputable def seenAt (h : Heap) (b : Addr) (f : Data → Option Addr) : Option Addr := (h.get? b).bind fun o => f o.data
noncomputable def tabChk (h : Heap) (x : Str) (a c P : Addr) : Bool := seenAt h mainGlobals (dictAt x) == some a && seenAt h a codeAt == some c && seenAt h c tabAt == some P
noncomputable def viewP : Program := { PySem.Challenge.pw_sc0050_02 with main := { PySem.Challenge.pw_sc0050_02.main with body := [1, 3, 4, 5, 6, 7, 8, 9, 11, 12, 14, 15, 16, 17, 18, 19, 20, 21, 22, 23, 24].map fun i => PySem.Challenge.pw_sc0050_02.main.body.getD i (.Pass ⟨0, 0, 0, 0⟩) } }
noncomputable def seen (s : Shared) : Bool := tabChk s.heap "_law_lexer" 112 111 107 && (tabChk s.heap "_int2digits" 77 76 72 && tabChk s.heap "_digits2int" 84 83 79)
set_option maxRecDepth 100000 in
theorem left_w : PySem.W.LeftO PySem.Challenge.pw_sc0050_02 viewP [] (fun s => PySem.W.xlAt viewP [] s && PySem.W.recOk [] s) seen (fun _ => true) 2036 := by
  intro w; kernel_rfl
end Sc

namespace Sc
set_option tactic.hygienic false
/-- what a text's look is shown by -/
def rflA : Lean.Syntax := Lean.Unhygienic.run `(tacticSeq| with_unfolding_all rfl)
def asmA : Lean.Syntax := Lean.Unhygienic.run `(tacticSeq| assumption)
def autA : Lean.Syntax := Lean.Unhygienic.run `(tacticSeq| first | with_unfolding_all (first | (intros; rfl) | exact ⟨rfl, rfl, rfl⟩ | exact ⟨rfl, rfl, rfl, rfl, fun _ => rfl⟩ | exact ⟨rfl, rfl, ⟨rfl, rfl, rfl, rfl, fun _ => rfl⟩⟩ | (intro _ h; cases h <;> rfl)) | decide | lia)

/-- pure Python data; ref: a mutable object -/
inductive D where
  | none | bool (b : Bool) | int (i : Int) | str (x : Str)
  | tup (xs : List D) | lst (xs : List D)
  | ref (a : Addr) | blt (id : String) | typ (n : String)
  | rng (a b : Int) | dct (kvs : List (Str × D)) | meth (f x : Addr)
  | itr (a : Addr) (more : List Addr) (items : List D)

noncomputable abbrev Fz := Addr → Option Obj
noncomputable def FzLe (f g : Fz) : Prop := ∀ a o, f a = some o → g a = some o
theorem FzLe.refl (f : Fz) : FzLe f f := fun _ _ e => e
theorem FzLe.trans {f g h : Fz} (x : FzLe f g) (y : FzLe g h) : FzLe f h := fun a o e => y a o (x a o e)

noncomputable abbrev lstObj (vs : Array Value) (n : Nat) : Obj := { cls := .type "list", data := .seq vs n }
noncomputable abbrev rngObj (a b : Int) (t u v : Tok) : Obj := { cls := .type "range", dict := none, data := .fields #[.int a t, .int b u, .int 1 v], slots := #[] }
noncomputable abbrev methObj (f x : Addr) : Obj := { cls := .type "method", data := .fields #[.ref f, .ref x] }
mutual
inductive Den (fz : Fz) : Value → D → Prop
  | none : Den fz .none .none
  | bool (b : Bool) : Den fz (.bool b) (.bool b)
  | int (i : Int) (t : Tok) : Den fz (.int i t) (.int i)
  | str (x : Str) (t : Tok) : Den fz (.str x t) (.str x)
  | ref (a : Addr) : Den fz (.ref a) (.ref a)
  | blt (id : String) : Den fz (.builtin id) (.blt id)
  | typ (n : String) : Den fz (.type n) (.typ n)
  | tup {a : Addr} {o : Obj} {vs : List Value} {n : Nat} {xs : List D} : fz a = some o → o.cls = .type "tuple" → o.data = .seq vs.toArray n → Dens fz vs xs → Den fz (.ref a) (.tup xs)
  | lst {a : Addr} {vs : List Value} {n : Nat} {xs : List D} : fz a = some (lstObj vs.toArray n) → Dens fz vs xs → Den fz (.ref a) (.lst xs)
  | rng {r : Addr} {a b : Int} {t u v : Tok} : fz r = some (rngObj a b t u v) → Den fz (.ref r) (.rng a b)
  | meth {r f x : Addr} : fz r = some (methObj f x) → Den fz (.ref r) (.meth f x)
  | itr (a : Addr) (more : List Addr) (items : List D) : Den fz (.ref a) (.itr a more items)
inductive Dens (fz : Fz) : List Value → List D → Prop
  | nil : Dens fz [] []
  | cons {v : Value} {vs : List Value} {d : D} {ds : List D} : Den fz v d → Dens fz vs ds → Dens fz (v :: vs) (d :: ds)
end

theorem Den.mono {f g : Fz} (h : FzLe f g) {v : Value} {d : D} (x : Den f v d) : Den g v d := by
  refine Den.rec (motive_1 := fun v d _ => Den g v d) (motive_2 := fun vs ds _ => Dens g vs ds) .none .bool .int .str .ref .blt .typ ?_ ?_ ?_ ?_ .itr .nil ?_ x
  · intro a o vs n xs e hc hd _ ih; exact .tup (h _ _ e) hc hd ih
  · intro a vs n xs e _ ih; exact .lst (h _ _ e) ih
  · intro r a b t u v e; exact .rng (h _ _ e)
  · intro r f x e; exact .meth (h _ _ e)
  · intro v vs d ds _ _ i1 i2; exact .cons i1 i2
/-! what a value must be -/
noncomputable def DenI (fz : Fz) (v : Value) : D → Prop
  | .none => v = .none
  | .bool b => v = .bool b
  | .int i => ∃ t, v = .int i t
  | .str x => ∃ t, v = .str x t
  | .tup xs => ∃ a o vs n, fz a = some o ∧ o.cls = .type "tuple" ∧ o.data = .seq (List.toArray vs) n ∧ Dens fz vs xs ∧ v = .ref a
  | .lst xs => ∃ a vs n, fz a = some (lstObj (List.toArray vs) n) ∧ Dens fz vs xs ∧ v = .ref a
  | .ref a => v = .ref a
  | .blt n => v = .builtin n
  | .typ n => v = .type n
  | .rng a b => ∃ r t u w, fz r = some (rngObj a b t u w) ∧ v = .ref r
  | .meth f x => ∃ r, fz r = some (methObj f x) ∧ v = .ref r
  | .itr a _ _ => v = .ref a
  | .dct _ => False
theorem Den.inv {fz : Fz} {v : Value} {d : D} (e : Den fz v d) : DenI fz v d := by
  cases e with
  | none => rfl
  | bool => rfl
  | int i t => exact ⟨t, rfl⟩
  | str x t => exact ⟨t, rfl⟩
  | ref => rfl
  | blt => rfl
  | typ => rfl
  | tup h1 h2 h3 d => exact ⟨_, _, _, _, h1, h2, h3, d, rfl⟩
  | lst h d => exact ⟨_, _, _, h, d, rfl⟩
  | rng h => exact ⟨_, _, _, _, h, rfl⟩
  | meth h => exact ⟨_, h, rfl⟩
  | itr => rfl
theorem Den.intE {fz : Fz} {i : Int} {motive : ∀ v, Den fz v (.int i) → Prop} {v : Value} (e : Den fz v (.int i)) (k : ∀ t, motive (.int i t) (.int i t)) : motive v e := by obtain ⟨t, rfl⟩ := e.inv; exact k t
theorem Den.strE {fz : Fz} {x : Str} {motive : ∀ v, Den fz v (.str x) → Prop} {v : Value} (e : Den fz v (.str x)) (k : ∀ t, motive (.str x t) (.str x t)) : motive v e := by obtain ⟨t, rfl⟩ := e.inv; exact k t
theorem Den.noneE {fz : Fz} {motive : ∀ v, Den fz v .none → Prop} {v : Value} (e : Den fz v .none) (k : motive .none .none) : motive v e := by obtain rfl := e.inv; exact k
theorem Den.boolE {fz : Fz} {b : Bool} {motive : ∀ v, Den fz v (.bool b) → Prop} {v : Value} (e : Den fz v (.bool b)) (k : motive (.bool b) (.bool b)) : motive v e := by obtain rfl := e.inv; exact k
theorem Den.refE {fz : Fz} {a : Addr} {motive : ∀ v, Den fz v (.ref a) → Prop} {v : Value} (e : Den fz v (.ref a)) (k : motive (.ref a) (.ref a)) : motive v e := by obtain rfl := e.inv; exact k
theorem Den.itrE {fz : Fz} {a : Addr} {m : List Addr} {xs : List D} {motive : ∀ v, Den fz v (.itr a m xs) → Prop} {v : Value} (e : Den fz v (.itr a m xs)) (k : motive (.ref a) (.itr a m xs)) : motive v e := by obtain rfl := e.inv; exact k
theorem Den.bltE {fz : Fz} {n : String} {motive : ∀ v, Den fz v (.blt n) → Prop} {v : Value} (e : Den fz v (.blt n)) (k : motive (.builtin n) (.blt n)) : motive v e := by obtain rfl := e.inv; exact k
theorem Den.typE {fz : Fz} {n : String} {motive : ∀ v, Den fz v (.typ n) → Prop} {v : Value} (e : Den fz v (.typ n)) (k : motive (.type n) (.typ n)) : motive v e := by obtain rfl := e.inv; exact k
theorem Den.methE {fz : Fz} {f x : Addr} {motive : ∀ v, Den fz v (.meth f x) → Prop} {v : Value} (e : Den fz v (.meth f x)) (k : ∀ r (h : fz r = some (methObj f x)), motive (.ref r) (.meth h)) : motive v e := by obtain ⟨r, h, rfl⟩ := e.inv; exact k r h
theorem Den.rngE {fz : Fz} {a b : Int} {motive : ∀ v, Den fz v (.rng a b) → Prop} {v : Value} (e : Den fz v (.rng a b)) (k : ∀ r t u w (h : fz r = some (rngObj a b t u w)), motive (.ref r) (.rng h)) : motive v e := by obtain ⟨r, t, u, w, h, rfl⟩ := e.inv; exact k r t u w h
theorem Den.lstE {fz : Fz} {xs : List D} {motive : ∀ v, Den fz v (.lst xs) → Prop} {v : Value} (e : Den fz v (.lst xs)) (k : ∀ a vs n (h : fz a = some (lstObj (List.toArray vs) n)) (d : Dens fz vs xs), motive (.ref a) (.lst h d)) : motive v e := by obtain ⟨a, vs, n, h, d, rfl⟩ := e.inv; exact k a vs n h d
noncomputable def DensI (fz : Fz) (vs : List Value) : List D → Prop
  | [] => vs = []
  | d :: ds => ∃ v us, Den fz v d ∧ Dens fz us ds ∧ vs = v :: us
theorem Dens.inv {fz : Fz} {vs : List Value} {ds : List D} (e : Dens fz vs ds) : DensI fz vs ds := by
  cases e with
  | nil => rfl
  | cons x y => exact ⟨_, _, x, y, rfl⟩
theorem Dens.E0 {fz : Fz} {motive : ∀ vs, Dens fz vs [] → Prop} {vs : List Value} (e : Dens fz vs []) (k : motive [] .nil) : motive vs e := by obtain rfl := e.inv; exact k
theorem Dens.E1 {fz : Fz} {d : D} {motive : ∀ vs, Dens fz vs [d] → Prop} {vs : List Value} (e : Dens fz vs [d]) (k : ∀ v (x : Den fz v d), motive [v] (.cons x .nil)) : motive vs e := by obtain ⟨v, us, x, r, rfl⟩ := e.inv; obtain rfl := r.inv; exact k v x
theorem Dens.E2 {fz : Fz} {d1 d2 : D} {motive : ∀ vs, Dens fz vs [d1, d2] → Prop} {vs : List Value} (e : Dens fz vs [d1, d2]) (k : ∀ v u (x : Den fz v d1) (y : Den fz u d2), motive [v, u] (.cons x (.cons y .nil))) : motive vs e := by obtain ⟨v, us, x, r, rfl⟩ := e.inv; obtain ⟨u, us2, y, r2, rfl⟩ := r.inv; obtain rfl := r2.inv; exact k v u x y
theorem Dens.E3 {fz : Fz} {d1 d2 d3 : D} {motive : ∀ vs, Dens fz vs [d1, d2, d3] → Prop} {vs : List Value} (e : Dens fz vs [d1, d2, d3]) (k : ∀ v u w (x : Den fz v d1) (y : Den fz u d2) (z : Den fz w d3), motive [v, u, w] (.cons x (.cons y (.cons z .nil)))) : motive vs e := by obtain ⟨v, us, x, r, rfl⟩ := e.inv; obtain ⟨u, us2, y, r2, rfl⟩ := r.inv; obtain ⟨w, us3, z, r3, rfl⟩ := r2.inv; obtain rfl := r3.inv; exact k v u w x y z
theorem Dens.mono {f g : Fz} (h : FzLe f g) {vs : List Value} {ds : List D} (x : Dens f vs ds) : Dens g vs ds := by
  induction ds generalizing vs with
  | nil => obtain rfl := x.inv; exact .nil
  | cons d ds ih => obtain ⟨v, us, x1, y, rfl⟩ := x.inv; exact .cons (x1.mono h) (ih y)
theorem Dens.length {f : Fz} {vs : List Value} {ds : List D} (x : Dens f vs ds) : vs.length = ds.length := by
  induction ds generalizing vs with
  | nil => obtain rfl := x.inv; rfl
  | cons d ds ih => obtain ⟨v, us, x1, y, rfl⟩ := x.inv; rw [List.length_cons, List.length_cons, ih y]
theorem Dens.get {f : Fz} {vs : List Value} {ds : List D} (x : Dens f vs ds) {i : Nat} {d : D} (e : ds[i]? = some d) : ∃ v, vs[i]? = some v ∧ Den f v d := by
  induction ds generalizing vs i with
  | nil => cases e
  | cons d' ds ih =>
    obtain ⟨v, us, x1, y, rfl⟩ := x.inv
    cases i with
    | zero => cases e; exact ⟨_, rfl, x1⟩
    | succ i => exact ih y e
theorem Dens.get' {f : Fz} {vs : List Value} {ds : List D} (x : Dens f vs ds) {i : Nat} {v : Value} (e : vs[i]? = some v) : ∃ d, ds[i]? = some d ∧ Den f v d := by
  have hi : i < ds.length := x.length ▸ (List.getElem?_eq_some_iff.mp e).1
  obtain ⟨u, e2, y⟩ := x.get (List.getElem?_eq_getElem hi)
  rw [e] at e2
  cases e2
  exact ⟨_, List.getElem?_eq_getElem hi, y⟩
theorem Dens.append {f : Fz} {ws : List Value} {es : List D} (z : Dens f ws es) {vs : List Value} {ds : List D} (x : Dens f vs ds) : Dens f (vs ++ ws) (ds ++ es) := by
  induction ds generalizing vs with
  | nil => obtain rfl := x.inv; exact z
  | cons d ds ih => obtain ⟨v, us, x1, y, rfl⟩ := x.inv; exact .cons x1 (ih y)
theorem Dens.snoc {f : Fz} {vs : List Value} {ds : List D} {v : Value} {d : D} (x : Dens f vs ds) (y : Den f v d) : Dens f (vs ++ [v]) (ds ++ [d]) := Dens.append (.cons y .nil) x
theorem Dens.drop {f : Fz} (n : Nat) {vs : List Value} {ds : List D} (x : Dens f vs ds) : Dens f (vs.drop n) (ds.drop n) := by
  induction ds generalizing vs n with
  | nil => obtain rfl := x.inv; rw [List.drop_nil, List.drop_nil]; exact .nil
  | cons d ds ih =>
    obtain ⟨v, us, x1, y, rfl⟩ := x.inv
    cases n with
    | zero => exact .cons x1 y
    | succ n => exact ih n y
theorem Dens.reverse {f : Fz} {vs : List Value} {ds : List D} (x : Dens f vs ds) : Dens f vs.reverse ds.reverse := by
  induction ds generalizing vs with
  | nil => obtain rfl := x.inv; exact .nil
  | cons d ds ih => obtain ⟨v, us, x1, y, rfl⟩ := x.inv; rw [List.reverse_cons, List.reverse_cons]; exact (ih y).snoc x1

/-- mutable objects -/
inductive M where
  | list (xs : List D)
  | ns (m : List (Str × D))
  | cell (d : Option D)
  | raw (o : Obj)
  | fn (dict : Option Addr) (fd : FuncData)
  | obj (cl dx : Addr)
  | ns1 (m : List (Str × D))
  | flds (c : String) (ds : List D)
  | view (o : Addr → Obj) (xs : List D)
  | lit (i : Nat) (xs : List D)

noncomputable def FCode (fz : Fz) (v : Value) (q : Str) : Prop := ∃ c o vs t, v = .ref c ∧ fz c = some o ∧ o.data = .fields vs ∧ vs[1]? = some (.str q t)
theorem FCode.mono {f g : Fz} (l : FzLe f g) {v : Value} {q : Str} (x : FCode f v q) : FCode g v q :=
  let ⟨c, o, vs, t, e, h, r⟩ := x; ⟨c, o, vs, t, e, l _ _ h, r⟩
noncomputable def ODen (fz : Fz) : Option Value → Option D → Prop
  | some v, some d => Den fz v d
  | none, none => True
  | _, _ => False
theorem ODen.mono {f g : Fz} (h : FzLe f g) : ∀ {v : Option Value} {d : Option D}, ODen f v d → ODen g v d
  | some _, some _, x => Den.mono h x
  | none, none, _ => trivial
  | some _, none, x => x.elim
  | none, some _, x => x.elim

/-- what is told of a name; of the others nothing -/
noncomputable def LDen (fz : Fz) (v : Option Value) (d : Option D) : Prop := ∀ e, d = some e → ∃ u, v = some u ∧ Den fz u e
theorem LDen.mono {f g : Fz} (h : FzLe f g) {v : Option Value} {d : Option D} (x : LDen f v d) : LDen g v d := fun e q => let ⟨u, a, b⟩ := x e q; ⟨u, a, Den.mono h b⟩
noncomputable def MAt (fz : Fz) (h : Heap) (a : Addr) : M → Prop
  | .list xs => ∃ vs n, h.get? a = some (lstObj (List.toArray vs) n) ∧ Dens fz vs xs
  | .ns m => ∃ mv, h.Ns a mv ∧ ∀ x, LDen fz (mv x) (m.lookup x)
  | .cell d => ∃ v, h.get? a = some { cls := .type "cell", data := .cell v } ∧ ODen fz v d
  | .raw o => h.get? a = some o
  | .fn dict fd => h.get? a = some { cls := .type "function", dict := dict, data := .func fd } ∧ FCode fz fd.code fd.qualname
  | .obj cl dx => ∃ o, h.get? a = some o ∧ o.cls = .ref cl ∧ (∀ c, o.data ≠ .cls c) ∧ o.dict = some dx ∧ dx ≠ a
  | .ns1 m => ∃ mv, h.Ns1 a mv ∧ ∀ x, ODen fz (mv x) (m.lookup x)
  | .view o xs => ∃ l vs n, fz l = some (lstObj (List.toArray vs) n) ∧ Dens fz vs xs ∧ h.get? a = some (o l)
  | .lit i xs => ∃ l vs n, fz l = some (lstObj (List.toArray vs) n) ∧ Dens fz vs xs ∧ h.IsListIter a l i
  | .flds c ds => ∃ vs, h.get? a = some { cls := .type c, data := .fields (List.toArray vs) } ∧ Dens fz vs ds
theorem MAt.mono {f g : Fz} (l : FzLe f g) {h : Heap} {a : Addr} {m : M} (x : MAt f h a m) : MAt g h a m := by
  cases m with
  | list xs => obtain ⟨vs, n, e, d⟩ := x; exact ⟨vs, n, e, d.mono l⟩
  | ns m => obtain ⟨mv, e, d⟩ := x; exact ⟨mv, e, fun y => (d y).mono l⟩
  | cell d => obtain ⟨v, e, q⟩ := x; exact ⟨v, e, q.mono l⟩
  | raw o => exact x
  | fn dict fd => exact ⟨x.1, x.2.mono l⟩
  | obj cl dx => exact x
  | ns1 m => obtain ⟨mv, e, d⟩ := x; exact ⟨mv, e, fun y => (d y).mono l⟩
  | flds c ds => obtain ⟨vs, e, d⟩ := x; exact ⟨vs, e, d.mono l⟩
  | view o xs => obtain ⟨b, vs, n, e, d, q⟩ := x; exact ⟨b, vs, n, l _ _ e, d.mono l, q⟩
  | lit i xs => obtain ⟨b, vs, n, e, d, q⟩ := x; exact ⟨b, vs, n, l _ _ e, d.mono l, q⟩
theorem MAt.at {f : Fz} {h h' : Heap} {a : Addr} {m : M} (x : MAt f h a m) (k : ∀ o, h.get? a = some o → h'.get? a = some o) : MAt f h' a m := by
  cases m with
  | list xs => obtain ⟨vs, n, e, d⟩ := x; exact ⟨vs, n, k _ e, d⟩
  | ns m => obtain ⟨mv, e, d⟩ := x; exact ⟨mv, e.at' k, d⟩
  | cell d => obtain ⟨v, e, q⟩ := x; exact ⟨v, k _ e, q⟩
  | raw o => exact k _ x
  | fn dict fd => exact ⟨k _ x.1, x.2⟩
  | obj cl dx => obtain ⟨o, e, r⟩ := x; exact ⟨o, k _ e, r⟩
  | ns1 m => obtain ⟨mv, e, d⟩ := x; exact ⟨mv, e.at k, d⟩
  | flds c ds => obtain ⟨vs, e, d⟩ := x; exact ⟨vs, k _ e, d⟩
  | view o xs => obtain ⟨b, vs, n, e, d, q⟩ := x; exact ⟨b, vs, n, e, d, k _ q⟩
  | lit i xs => obtain ⟨b, vs, n, e, d, o, q, r⟩ := x; exact ⟨b, vs, n, e, d, o, k _ q, r⟩
theorem MAt.there {f : Fz} {h : Heap} {a : Addr} {m : M} (x : MAt f h a m) : ∃ o, h.get? a = some o := by
  cases m with
  | list xs => obtain ⟨vs, n, e, d⟩ := x; exact ⟨_, e⟩
  | ns m => obtain ⟨mv, ⟨o, _, _, e, _⟩, d⟩ := x; exact ⟨o, e⟩
  | cell d => obtain ⟨v, e, q⟩ := x; exact ⟨_, e⟩
  | raw o => exact ⟨o, x⟩
  | fn dict fd => exact ⟨_, x.1⟩
  | obj cl dx => obtain ⟨o, e, _⟩ := x; exact ⟨o, e⟩
  | ns1 m => obtain ⟨mv, ⟨o, _, _, e, _⟩, d⟩ := x; exact ⟨o, e⟩
  | flds c ds => obtain ⟨vs, e, d⟩ := x; exact ⟨_, e⟩
  | view o xs => obtain ⟨b, vs, n, e, d, q⟩ := x; exact ⟨_, q⟩
  | lit i xs => obtain ⟨b, vs, n, e, d, o, q, r⟩ := x; exact ⟨o, q⟩

noncomputable abbrev Led := Addr → Option M
noncomputable def upd (T : Led) (a : Addr) (m : M) : Led := fun b => if b = a then some m else T b
noncomputable def del (T : Led) (a : Addr) : Led := fun b => if b = a then none else T b
noncomputable def Un (S T : Led) : Led := fun a => (S a).or (T a)
noncomputable def emp : Led := fun _ => none
noncomputable def Dj (S T : Led) : Prop := ∀ a, S a = none ∨ T a = none
theorem upd_same (T : Led) (a : Addr) (m : M) : upd T a m a = some m := if_pos rfl
theorem upd_ne (T : Led) {a b : Addr} (m : M) (h : b ≠ a) : upd T a m b = T b := if_neg h
theorem upd_upd (T : Led) (a : Addr) (m m' : M) : upd (upd T a m) a m' = upd T a m' := by
  funext b; unfold upd; split <;> rfl
theorem upd_id (T : Led) (a : Addr) (m : M) (h : T a = some m) : upd T a m = T := by
  funext b; unfold upd; split
  · rename_i e; rw [e, h]
  · rfl
theorem upd_comm (T : Led) {a b : Addr} (m m' : M) (h : a ≠ b) : upd (upd T a m) b m' = upd (upd T b m') a m := by
  funext c; unfold upd
  by_cases h1 : c = b
  · by_cases h2 : c = a
    · exact absurd (h2.symm.trans h1) h
    · rw [if_pos h1, if_neg h2, if_pos h1]
  · by_cases h2 : c = a
    · rw [if_neg h1, if_pos h2, if_pos h2]
    · rw [if_neg h1, if_neg h2, if_neg h2, if_neg h1]
theorem del_upd (T : Led) (a : Addr) (m : M) (h : T a = none) : del (upd T a m) a = T := by
  funext b; unfold del upd; split
  · rename_i e; rw [e, h]
  · rfl
theorem Un_upd (S T : Led) (a : Addr) (m : M) : Un (upd S a m) T = upd (Un S T) a m := by
  funext b; unfold Un upd; split <;> rfl
theorem Un_upd_r (S T : Led) (a : Addr) (m : M) (h : S a = none) : Un S (upd T a m) = upd (Un S T) a m := by
  funext b; unfold Un upd; split
  · rename_i e; rw [e, h]; rfl
  · rfl
theorem Un_del (S T : Led) (a : Addr) (h : T a = none) : Un (del S a) T = del (Un S T) a := by
  funext b; unfold Un del; split
  · rename_i e; rw [e, h]; rfl
  · rfl
theorem Un_emp (T : Led) : Un emp T = T := by funext b; rfl
theorem Un_none {S T : Led} {a : Addr} : Un S T a = none ↔ S a = none ∧ T a = none := by
  unfold Un; cases S a <;> simp
theorem Un_left {S T : Led} {a : Addr} {m : M} (h : S a = some m) : Un S T a = some m := by unfold Un; rw [h]; rfl
theorem Un_right {S T : Led} {a : Addr} (h : S a = none) : Un S T a = T a := by unfold Un; rw [h]; rfl
theorem Dj.symm {S T : Led} (h : Dj S T) : Dj T S := fun a => (h a).symm
theorem Dj.upd {S T : Led} (h : Dj S T) {a : Addr} (m : M) (ha : T a = none) : Dj (upd S a m) T := fun b => by
  by_cases e : b = a
  · subst e; exact .inr ha
  · rw [upd_ne _ _ e]; exact h b
theorem Dj.del {S T : Led} (h : Dj S T) (a : Addr) : Dj (del S a) T := fun b => by
  unfold Sc.del; split
  · exact .inl rfl
  · exact h b
theorem Dj.of_some {S T : Led} (h : Dj S T) {a : Addr} {m : M} (e : S a = some m) : T a = none := by
  rcases h a with q | q
  · rw [e] at q; cases q
  · exact q
theorem Dj.Un {R S T : Led} (h1 : Dj R S) (h2 : Dj R T) : Dj R (Un S T) := fun a => by
  rcases h1 a with q | q
  · exact .inl q
  · rcases h2 a with r | r
    · exact .inl r
    · exact .inr (Un_none.mpr ⟨q, r⟩)
theorem Dj.left {R S T : Led} (h : Dj R (Sc.Un S T)) : Dj R S := fun a => by
  rcases h a with q | q
  · exact .inl q
  · exact .inr (Un_none.mp q).1
theorem Dj.right {R S T : Led} (h : Dj R (Sc.Un S T)) : Dj R T := fun a => by
  rcases h a with q | q
  · exact .inl q
  · exact .inr (Un_none.mp q).2
theorem Dj.emp (T : Led) : Dj emp T := fun _ => .inl rfl

set_option genInjectivity false in
/-- what is fixed: the program, the world, the heap at the law's call -/
structure Cx where
  prog : Program
  w : World
  h₀ : Heap
  os : OsState
  mg : Str → Option Value
  mb : Str → Option Value
  /-- the code objects whose tables of nested codes may grow -/
  ct : Addr → Addr → Prop
  /-- the qualified name of the def that stands at a place of a code -/
  dq : Addr → Pos → Str
  g : h₀.Ns mainGlobals mg
  gt : ∀ c, ¬ ct c mainGlobals
  b : h₀.Ns builtinsNs mb
  bt : ∀ c, ¬ ct c builtinsNs
  nolimit : h₀.NoLimit
  nodigits : ∃ mc, h₀.Ns cStatics mc ∧ mc "sys.int_max_str_digits" = none
  cs : ∀ c, ¬ ct c cStatics
  bb : ∀ x : Str, x ≠ "__name__" → mb x = bootBuiltins x
  bat : ∃ bm o, mg "__builtins__" = some (.ref bm) ∧ bm ≠ builtinsNs ∧ bm ≠ mainGlobals ∧ h₀.get? bm = some o ∧ o.cls = .type "module" ∧ o.dict = some builtinsNs ∧ o.data = .plain ∧ ∀ c, ¬ ct c bm
  tabIs : ∀ c P, ct c P → ∃ ps, h₀.TableAt c P ps
  tabNo : ∀ c P c', ct c P → ¬ ct c' c
  dqe : ∀ c (p p' : Pos), p.line = p'.line → p.col = p'.col → dq c p = dq c p'
  uniq : ∀ c c' P, ct c P → ct c' P → c = c'

noncomputable def Cx.tab (C : Cx) (P : Addr) : Prop := ∃ c, C.ct c P

noncomputable def TabOk (fz : Fz) (h : Heap) (c P : Addr) (dq : Pos → Str) : Prop :=
  ∃ ps, h.IsCode c P ps ∧ h.TableAt c P ps ∧ ∀ pos v, codeAmong pos ps.toList = some v → FCode fz v (dq pos)
theorem TabOk.mono {f g : Fz} (l : FzLe f g) {h : Heap} {c P : Addr} {dq : Pos → Str} (x : TabOk f h c P dq) : TabOk g h c P dq :=
  let ⟨ps, a, b, d⟩ := x; ⟨ps, a, b, fun pos v e => (d pos v e).mono l⟩
theorem TabOk.extBut {f : Fz} {h h' : Heap} {a c P : Addr} {dq : Pos → Str} (x : TabOk f h c P dq) (hx : Heap.ExtBut a h h') (hc : c ≠ a) (hP : P ≠ a) : TabOk f h' c P dq :=
  let ⟨ps, p, q, r⟩ := x; ⟨ps, p.extBut hx hc hP, q.extBut hx hc hP, r⟩
theorem TabOk.keeps {f : Fz} {h h' : Heap} {c P : Addr} {dq : Pos → Str} (x : TabOk f h c P dq) (hk : ∀ b o, h.get? b = some o → h'.get? b = some o) : TabOk f h' c P dq :=
  let ⟨ps, p, q, r⟩ := x; ⟨ps, p.keeps hk, q.keeps hk, r⟩

structure GExt (G G' : Array GenState) : Prop where
  keep : ∀ (i : Nat) (x : GenState), G[i]? = some x → G'[i]? = some x
  bare : AllBare G → AllBare G'
theorem GExt.refl (G : Array GenState) : GExt G G := ⟨fun _ _ e => e, fun h => h⟩
theorem GExt.trans {G H K : Array GenState} (x : GExt G H) (y : GExt H K) : GExt G K := ⟨fun i a e => y.keep i a (x.keep i a e), fun h => y.bare (x.bare h)⟩

structure Rel (C : Cx) (fz : Fz) (T : Led) (G : Array GenState) (s : Shared) : Prop where
  fzIn : ∀ a o, fz a = some o → s.heap.get? a = some o
  ledIn : ∀ a m, T a = some m → MAt fz s.heap a m
  apart : ∀ a o, fz a = some o → T a = none
  fzt : ∀ a o, fz a = some o → ¬ C.tab a
  new : ∀ a m, T a = some m → C.h₀.get? a = none
  base : ∀ a o, C.h₀.get? a = some o → ¬ C.tab a → s.heap.get? a = some o
  tabs : ∀ c P, C.ct c P → TabOk fz s.heap c P (C.dq c)
  old : OldK C.h₀ s.heap
  os : s.os = C.os
  gens : s.gens = G

theorem OldK.step_ext {h₀ h h' : Heap} (K : OldK h₀ h) {a : Addr} (ha : h₀.get? a = none) (hs : Heap.ExtBut a h h') : OldK h₀ h' := by
  have ne : ∀ b o, h₀.get? b = some o → b ≠ a := fun b o e q => by subst q; rw [ha] at e; cases e
  refine ⟨fun b o e => ?_, fun b o e => let ⟨o', ho'⟩ := K.there b o e; ⟨o', hs b _ (ne b o e) ho'⟩⟩
  rcases K.old b o e with x | ⟨t, hc, vs, more, hv, x⟩ | ⟨rfl, hc, ⟨o', es, n, ho', r⟩, z⟩
  · exact .inl (hs b _ (ne b o e) x)
  · exact .inr (.inl ⟨t, hc, vs, more, hv, hs b _ (ne b o e) x⟩)
  · have e1 := hs _ _ (ne _ o e) ho'
    exact .inr (.inr ⟨rfl, hc, ⟨o', es, n, e1, r⟩, fun key => by rw [OldK.staticOf_congr (e1.trans ho'.symm) key]; exact z key⟩)

section
variable {C : Cx} {fz : Fz} {T : Led} {G : Array GenState} {s : Shared}

theorem Rel.ext (R : Rel C fz T G s) {h' : Heap} (t : Nat) (hk : ∀ b o, s.heap.get? b = some o → h'.get? b = some o) : Rel C fz T G { s with heap := h', toks := t } where
  fzIn := fun a o e => hk _ _ (R.fzIn a o e)
  ledIn := fun a m e => (R.ledIn a m e).at (hk a)
  apart := R.apart
  fzt := R.fzt
  new := R.new
  base := fun a o e n => hk _ _ (R.base a o e n)
  tabs := fun c P e => (R.tabs c P e).keeps hk
  old := R.old.step_keeps hk
  os := R.os
  gens := R.gens
theorem Rel.tok (R : Rel C fz T G s) (t : Nat) : Rel C fz T G { s with toks := t } := R.ext t (fun _ _ e => e)
/-- an object changes -/
theorem Rel.upd (R : Rel C fz T G s) {a : Addr} {m₀ m : M} (ha : T a = some m₀) {h' : Heap} (t : Nat) (hk : Heap.ExtBut a s.heap h') (hm : MAt fz h' a m) : Rel C fz (upd T a m) G { s with heap := h', toks := t } where
  fzIn := fun b o e => hk b o (fun q => by subst q; rw [R.apart _ _ e] at ha; cases ha) (R.fzIn b o e)
  ledIn := fun b m' e => by
    by_cases q : b = a
    · subst q; rw [upd_same] at e; cases e; exact hm
    · rw [upd_ne _ _ q] at e; exact (R.ledIn b m' e).at fun o => hk b o q
  apart := fun b o e => by
    by_cases q : b = a
    · subst q; rw [R.apart _ _ e] at ha; cases ha
    · rw [upd_ne _ _ q]; exact R.apart b o e
  fzt := R.fzt
  new := fun b m' e => by
    by_cases q : b = a
    · subst q; exact R.new _ _ ha
    · rw [upd_ne _ _ q] at e; exact R.new b m' e
  base := fun b o e n => hk b o (fun q => by subst q; rw [R.new _ _ ha] at e; cases e) (R.base b o e n)
  tabs := fun c P e => by
    obtain ⟨ps, ⟨o, vs, e1, _⟩, e2⟩ := C.tabIs c P e
    exact (R.tabs c P e).extBut hk (fun q => by subst q; rw [R.new _ _ ha] at e1; cases e1) (fun q => by subst q; rw [R.new _ _ ha] at e2; cases e2)
  old := OldK.step_ext R.old (R.new _ _ ha) hk
  os := R.os
  gens := R.gens
theorem Rel.freshT (R : Rel C fz T G s) {a : Addr} (ha : s.heap.get? a = none) : T a = none := by
  cases e : T a with
  | none => rfl
  | some m => obtain ⟨o, q⟩ := (R.ledIn a m e).there; rw [ha] at q; cases q
theorem Rel.freshF (R : Rel C fz T G s) {a : Addr} (ha : s.heap.get? a = none) : fz a = none := by
  cases e : fz a with
  | none => rfl
  | some o => have q := R.fzIn a o e; rw [ha] at q; cases q
theorem Rel.freshB (R : Rel C fz T G s) {a : Addr} (ha : s.heap.get? a = none) : C.h₀.get? a = none := by
  cases e : C.h₀.get? a with
  | none => rfl
  | some o => obtain ⟨o', q⟩ := R.old.there a o e; rw [ha] at q; cases q
theorem get_size (h : Heap) {a : Addr} (ha : h.objs.size ≤ a) : h.get? a = none := by
  cases e : h.get? a with
  | none => rfl
  | some o => exact absurd (Heap.lt_size e) (Nat.not_lt.mpr ha)
/-- a new mutable object -/
theorem Rel.alloc (R : Rel C fz T G s) {a : Addr} (ha : s.heap.get? a = none) {m : M} {h' : Heap} (t : Nat) (hk : ∀ b o, s.heap.get? b = some o → h'.get? b = some o) (hm : MAt fz h' a m) : Rel C fz (Sc.upd T a m) G { s with heap := h', toks := t } where
  fzIn := fun b o e => hk _ _ (R.fzIn b o e)
  ledIn := fun b m' e => by
    by_cases q : b = a
    · subst q; rw [upd_same] at e; cases e; exact hm
    · rw [upd_ne _ _ q] at e; exact (R.ledIn b m' e).at (hk b)
  apart := fun b o e => by
    by_cases q : b = a
    · subst q; rw [R.freshF ha] at e; cases e
    · rw [upd_ne _ _ q]; exact R.apart b o e
  fzt := R.fzt
  new := fun b m' e => by
    by_cases q : b = a
    · subst q; exact R.freshB ha
    · rw [upd_ne _ _ q] at e; exact R.new b m' e
  base := fun b o e n => hk _ _ (R.base b o e n)
  tabs := fun c P e => (R.tabs c P e).keeps hk
  old := R.old.step_keeps hk
  os := R.os
  gens := R.gens
noncomputable def fzPut (fz : Fz) (a : Addr) (o : Obj) : Fz := fun b => if b = a then some o else fz b
theorem fzPut_same (fz : Fz) (a : Addr) (o : Obj) : fzPut fz a o a = some o := if_pos rfl
theorem fzPut_le {fz : Fz} {a : Addr} {o : Obj} (h : fz a = none) : FzLe fz (fzPut fz a o) := fun b p e => by
  unfold fzPut; split
  · rename_i q; rw [q, h] at e; cases e
  · exact e
theorem fzPut_or {fz : Fz} {a b : Addr} {o p : Obj} (e : fzPut fz a o b = some p) : (b = a ∧ o = p) ∨ fz b = some p := by
  unfold fzPut at e; split at e
  · exact .inl ⟨‹_›, Option.some.inj e⟩
  · exact .inr e
/-- a new frozen object -/
theorem Rel.allocF (R : Rel C fz T G s) {a : Addr} (ha : s.heap.get? a = none) {o : Obj} {h' : Heap} (t : Nat) (hk : ∀ b o, s.heap.get? b = some o → h'.get? b = some o) (hm : h'.get? a = some o) : Rel C (fzPut fz a o) T G { s with heap := h', toks := t } where
  fzIn := fun b p e => by
    rcases fzPut_or e with ⟨rfl, rfl⟩ | e
    · exact hm
    · exact hk _ _ (R.fzIn b p e)
  ledIn := fun b m' e => ((R.ledIn b m' e).at (hk b)).mono (fzPut_le (R.freshF ha))
  apart := fun b p e => by
    rcases fzPut_or e with ⟨rfl, rfl⟩ | e
    · exact R.freshT ha
    · exact R.apart b p e
  fzt := fun b p e => by
    rcases fzPut_or e with ⟨rfl, rfl⟩ | e
    · rintro ⟨c, hc⟩
      obtain ⟨ps, _, e2⟩ := C.tabIs c _ hc
      rw [R.freshB ha] at e2; cases e2
    · exact R.fzt b p e
  new := R.new
  base := fun b o e n => hk _ _ (R.base b o e n)
  tabs := fun c P e => ((R.tabs c P e).keeps hk).mono (fzPut_le (R.freshF ha))
  old := R.old.step_keeps hk
  os := R.os
  gens := R.gens
/-- a list that is written no more -/
theorem Rel.freeze (R : Rel C fz T G s) {a : Addr} {xs : List D} (ha : T a = some (.list xs)) : ∃ fz', FzLe fz fz' ∧ Den fz' (.ref a) (.lst xs) ∧ Rel C fz' (del T a) G s := by
  obtain ⟨vs, n, e, d⟩ := R.ledIn _ _ ha
  have hz : fz a = none := by
    cases q : fz a with
    | none => rfl
    | some o => rw [R.apart _ _ q] at ha; cases ha
  have le : FzLe fz (fzPut fz a (lstObj vs.toArray n)) := fzPut_le hz
  refine ⟨_, le, .lst (fzPut_same ..) (d.mono le), ?_⟩
  exact {
    fzIn := fun b p q => by
      rcases fzPut_or q with ⟨rfl, rfl⟩ | q
      · exact e
      · exact R.fzIn b p q
    ledIn := fun b m' q => by
      unfold del at q; split at q
      · cases q
      · exact (R.ledIn b m' q).mono le
    apart := fun b p q => by
      unfold del; split
      · rfl
      · rename_i w
        unfold fzPut at q; rw [if_neg w] at q
        exact R.apart b p q
    fzt := fun b p q => by
      rcases fzPut_or q with ⟨rfl, rfl⟩ | q
      · rintro ⟨c, hc⟩
        obtain ⟨ps, _, e2⟩ := C.tabIs c _ hc
        rw [R.new _ _ ha] at e2; cases e2
      · exact R.fzt b p q
    new := fun b m' q => by
      unfold del at q; split at q
      · cases q
      · exact R.new b m' q
    base := R.base
    tabs := fun c P e => (R.tabs c P e).mono le
    old := R.old
    os := R.os
    gens := R.gens }
/-- an object is forgotten -/
theorem Rel.forget (R : Rel C fz T G s) {T' : Led} (h : ∀ a m, T' a = some m → T a = some m) : Rel C fz T' G s where
  fzIn := R.fzIn
  ledIn := fun a m e => R.ledIn a m (h a m e)
  apart := fun a o e => by
    cases q : T' a with
    | none => rfl
    | some m => have z := R.apart a o e; rw [h _ _ q] at z; cases z
  fzt := R.fzt
  new := fun a m e => R.new a m (h a m e)
  base := R.base
  tabs := R.tabs
  old := R.old
  os := R.os
  gens := R.gens
end

structure St (C : Cx) (fz : Fz) (led Y : Led) (G : Array GenState) (s : Shared) : Prop where
  dj : Dj led Y
  rel : Rel C fz (Un led Y) G s

noncomputable def Room (k : Nat) (A : Around) : Prop := A.handled = none ∧ A.depth + k < 1000 ∧ A.units + 20 * k < 9900
theorem Room.mono {k k' : Nat} {A : Around} (h : Room k A) (l : k' ≤ k) : Room k' A := ⟨h.1, by have := h.2.1; lia, by have := h.2.2; lia⟩
/-- the frames around stand in the ledger -/
noncomputable def FrY (A : Around) (Y : Led) : Prop := ∃ l, A.frames = some l ∧ ∀ e ∈ l, e.scope.kind = .function ∧ ∃ L m, e.frame = some L ∧ Y L = some (.ns m)
structure RoomY (k : Nat) (A : Around) (Y : Led) : Prop where
  r : Room k A
  fr : FrY A Y
theorem RoomY.mono {k k' : Nat} {A : Around} {Y : Led} (h : RoomY k A Y) (l : k' ≤ k) : RoomY k' A Y := ⟨h.r.mono l, h.fr⟩
theorem RoomY.upY {k : Nat} {A : Around} {Y Y' : Led} (h : RoomY k A Y) (i : ∀ a m, Y a = some (.ns m) → Y' a = some (.ns m)) : RoomY k A Y' :=
  ⟨h.r, let ⟨l, e, q⟩ := h.fr; ⟨l, e, fun x hx => let ⟨a, L, m, b, c⟩ := q x hx; ⟨a, L, m, b, i _ _ c⟩⟩⟩
noncomputable def No : Value → Shared → Prop := fun _ _ => False

/-- behind a step that gives a value -/
inductive Pst (C : Cx) (fz : Fz) (Y : Led) (G : Array GenState) (Q : D → Led → Prop) (v : Value) (s' : Shared) : Prop
  | mk (fz' : Fz) (G' : Array GenState) (d : D) (led' : Led) : FzLe fz fz' → GExt G G' → Den fz' v d → St C fz' led' Y G' s' → Q d led' → Pst C fz Y G Q v s'
inductive Psb (C : Cx) (fz : Fz) (Y : Led) (G : Array GenState) (Q : Bool → Led → Prop) (b : Bool) (s' : Shared) : Prop
  | mk (fz' : Fz) (G' : Array GenState) (led' : Led) : FzLe fz fz' → GExt G G' → St C fz' led' Y G' s' → Q b led' → Psb C fz Y G Q b s'
inductive Pss (C : Cx) (fz : Fz) (Y : Led) (G : Array GenState) (Q : List D → Led → Prop) (vs : List Value) (s' : Shared) : Prop
  | mk (fz' : Fz) (G' : Array GenState) (ds : List D) (led' : Led) : FzLe fz fz' → GExt G G' → Dens fz' vs ds → St C fz' led' Y G' s' → Q ds led' → Pss C fz Y G Q vs s'
theorem Pst.trans {C : Cx} {fz fz' : Fz} {Y : Led} {G G' : Array GenState} {Q : D → Led → Prop} {v : Value} {s : Shared} (l : FzLe fz fz') (g : GExt G G') (h : Pst C fz' Y G' Q v s) : Pst C fz Y G Q v s :=
  let ⟨f, H, d, led, a, b, c, e, q⟩ := h; ⟨f, H, d, led, l.trans a, g.trans b, c, e, q⟩
theorem Psb.trans {C : Cx} {fz fz' : Fz} {Y : Led} {G G' : Array GenState} {Q : Bool → Led → Prop} {v : Bool} {s : Shared} (l : FzLe fz fz') (g : GExt G G') (h : Psb C fz' Y G' Q v s) : Psb C fz Y G Q v s :=
  let ⟨f, H, led, a, b, c, q⟩ := h; ⟨f, H, led, l.trans a, g.trans b, c, q⟩
theorem Pst.mono {C : Cx} {fz : Fz} {Y : Led} {G : Array GenState} {Q Q' : D → Led → Prop} {v : Value} {s : Shared} (i : ∀ d led, Q d led → Q' d led) (h : Pst C fz Y G Q v s) : Pst C fz Y G Q' v s :=
  let ⟨f, H, d, led, a, b, c, e, q⟩ := h; ⟨f, H, d, led, a, b, c, e, i _ _ q⟩

noncomputable def Op1 (C : Cx) (Y led : Led) (k : Nat) (f : Value → Sem Value) (d : D) (Q : D → Led → Prop) : Prop :=
  ∀ A fz G s v, Room k A → St C fz led Y G s → Den fz v d → wpAny (model C.prog C.w) A (f v) (Pst C fz Y G Q) No s
noncomputable def Op2 (C : Cx) (Y led : Led) (k : Nat) (f : Value → Value → Sem Value) (d e : D) (Q : D → Led → Prop) : Prop :=
  ∀ A fz G s v u, Room k A → St C fz led Y G s → Den fz v d → Den fz u e → wpAny (model C.prog C.w) A (f v u) (Pst C fz Y G Q) No s
/-- a call: the callee, its arguments -/
noncomputable def CallW (C : Cx) (Y led : Led) (k : Nat) (f : D) (ds : List D) (Q : D → Led → Prop) : Prop :=
  ∀ A fz G s fv vs, RoomY k A Y → St C fz led Y G s → Den fz fv f → Dens fz vs ds → wpAny (model C.prog C.w) A (call fv vs) (Pst C fz Y G Q) No s
noncomputable def Tru (C : Cx) (Y led : Led) (k : Nat) (d : D) (Q : Bool → Led → Prop) : Prop :=
  ∀ A fz G s v, Room k A → St C fz led Y G s → Den fz v d → wpAny (model C.prog C.w) A (truthy v) (Psb C fz Y G Q) No s

noncomputable abbrev Vars := List (Str × D)
structure Fe where
  env : Env
  ow : List Str
noncomputable def FrF (A : Around) (fe : Fe) (X : Led) : Prop := ∃ l, A.frames = some l ∧ ∀ e ∈ l, e.scope.kind = .function ∧ ∃ L, e.frame = some L ∧ (L = fe.env.locals ∨ ∃ m, X L = some (.ns m))
structure RoomF (k : Nat) (A : Around) (fe : Fe) (X : Led) : Prop where
  r : Room k A
  fr : FrF A fe X
theorem RoomF.mono {k k' : Nat} {A : Around} {fe : Fe} {X : Led} (h : RoomF k A fe X) (l : k' ≤ k) : RoomF k' A fe X := ⟨h.r.mono l, h.fr⟩
theorem RoomF.upX {k : Nat} {A : Around} {fe : Fe} {X X' : Led} (h : RoomF k A fe X) (i : ∀ a m, X a = some (.ns m) → X' a = some (.ns m)) : RoomF k A fe X' :=
  ⟨h.r, let ⟨l, e, q⟩ := h.fr; ⟨l, e, fun x hx => let ⟨a, L, b, c⟩ := q x hx; ⟨a, L, b, c.imp id fun ⟨m, z⟩ => ⟨m, i _ _ z⟩⟩⟩⟩
theorem RoomY.toF {k : Nat} {A : Around} {X : Led} (h : RoomY k A X) (fe : Fe) : RoomF k A fe X :=
  ⟨h.r, let ⟨l, e, q⟩ := h.fr; ⟨l, e, fun x hx => let ⟨a, L, m, b, c⟩ := q x hx; ⟨a, L, b, .inr ⟨m, c⟩⟩⟩⟩
theorem RoomY.deeper {k : Nat} {A : Around} {X : Led} (h : RoomY (k + 1) A X) {env : Env} {ow : List Str} (hk : env.scope.kind = .function) (hf : env.frame = some env.locals) : RoomF k (A.deeper env) ⟨env, ow⟩ X :=
  ⟨⟨h.r.1, by have := h.r.2.1; show A.depth + 1 + k < 1000; lia, by have := h.r.2.2; show A.units + 3 + 20 * k < 9900; lia⟩,
    let ⟨l, e, q⟩ := h.fr; ⟨env :: l, by show A.frames.map _ = _; rw [e]; rfl, fun x hx => by
      rcases List.mem_cons.mp hx with rfl | hx
      · exact ⟨hk, _, hf, .inl rfl⟩
      · obtain ⟨a, L, m, b, c⟩ := q x hx; exact ⟨a, L, b, .inr ⟨m, c⟩⟩⟩⟩
theorem RoomY.in1 {k : Nat} {A : Around} {X : Led} (h : RoomY (k + 1) A X) : RoomY k A.in1 X :=
  ⟨⟨h.r.1, by have := h.r.2.1; show A.depth + k < 1000; lia, by have := h.r.2.2; show A.units + 1 + 20 * k < 9900; lia⟩, h.fr⟩
structure FOk (fe : Fe) (vs : Vars) (F X : Led) : Prop where
  fn : fe.env.scope.kind = .function
  glob : fe.env.globals = mainGlobals
  blt : fe.env.builtins = builtinsNs
  loc : ∃ m, F fe.env.locals = some (.ns m) ∧ ∀ x d, vs.lookup x = some d → fe.env.kindOf x = some .local → m.lookup x = some d
  cel : ∀ x d, vs.lookup x = some d → fe.env.kindOf x ≠ some .local → ∃ c, fe.env.cells.lookup x = some c ∧ Un F X c = some (.cell (some d))
  own : ∀ x, x ∈ fe.ow → ∃ c dd, fe.env.cells.lookup x = some c ∧ F c = some (.cell dd)
  inj : ∀ x y c, fe.env.cells.lookup x = some c → fe.env.cells.lookup y = some c → x = y

/-- an expression's tree in a frame -/
noncomputable def WE (C : Cx) (led : Led) (fe : Fe) (vs : Vars) (k : Nat) (t : Sem Value) (Q : D → Led → Prop) : Prop :=
  ∀ F X, FOk fe vs F X → Dj F X → ∀ A fz G s, RoomF k A fe X → St C fz led (Un F X) G s → wpAny (model C.prog C.w) A t (Pst C fz (Un F X) G Q) No s
noncomputable def WB (C : Cx) (led : Led) (fe : Fe) (vs : Vars) (k : Nat) (t : Sem Bool) (Q : Bool → Led → Prop) : Prop :=
  ∀ F X, FOk fe vs F X → Dj F X → ∀ A fz G s, RoomF k A fe X → St C fz led (Un F X) G s → wpAny (model C.prog C.w) A t (Psb C fz (Un F X) G Q) No s
noncomputable def WL (C : Cx) (led : Led) (fe : Fe) (vs : Vars) (k : Nat) (t : Sem (List Value)) (Q : List D → Led → Prop) : Prop :=
  ∀ F X, FOk fe vs F X → Dj F X → ∀ A fz G s, RoomF k A fe X → St C fz led (Un F X) G s → wpAny (model C.prog C.w) A t (Pss C fz (Un F X) G Q) No s

inductive Fl where
  | next | brk | cont | ret (d : D)
noncomputable def FlDen (fz : Fz) : Flow → Fl → Prop
  | .next, .next => True
  | .brk, .brk => True
  | .cont, .cont => True
  | .ret v, .ret d => Den fz v d
  | _, _ => False
inductive Psf (C : Cx) (fz : Fz) (X : Led) (fe : Fe) (G : Array GenState) (Q : Fl → Vars → Led → Prop) (f : Flow) (s' : Shared) : Prop
  | mk (fz' : Fz) (G' : Array GenState) (F' : Led) (vs' : Vars) (led' : Led) (fl : Fl) : FzLe fz fz' → GExt G G' → FlDen fz' f fl → FOk fe vs' F' X → Dj F' X → St C fz' led' (Un F' X) G' s' → Q fl vs' led' → Psf C fz X fe G Q f s'
theorem Psf.trans {C : Cx} {fz fz' : Fz} {X : Led} {fe : Fe} {G G' : Array GenState} {Q : Fl → Vars → Led → Prop} {v : Flow} {s : Shared} (l : FzLe fz fz') (g : GExt G G') (h : Psf C fz' X fe G' Q v s) : Psf C fz X fe G Q v s :=
  let ⟨f, H, F, vs, led, fl, a, b, c, d, e, s, q⟩ := h; ⟨f, H, F, vs, led, fl, l.trans a, g.trans b, c, d, e, s, q⟩
/-- a statement's tree -/
noncomputable def WS (C : Cx) (led : Led) (fe : Fe) (vs : Vars) (k : Nat) (t : Sem Flow) (Q : Fl → Vars → Led → Prop) : Prop :=
  ∀ F X, FOk fe vs F X → Dj F X → ∀ A fz G s, RoomF k A fe X → St C fz led (Un F X) G s → wpAny (model C.prog C.w) A t (Psf C fz X fe G Q) No s
/-- a tree that stores -/
inductive Psu (C : Cx) (fz : Fz) (X : Led) (fe : Fe) (G : Array GenState) (Q : Vars → Led → Prop) (u : Unit) (s' : Shared) : Prop
  | mk (fz' : Fz) (G' : Array GenState) (F' : Led) (vs' : Vars) (led' : Led) : FzLe fz fz' → GExt G G' → FOk fe vs' F' X → Dj F' X → St C fz' led' (Un F' X) G' s' → Q vs' led' → Psu C fz X fe G Q u s'
noncomputable def WU (C : Cx) (led : Led) (fe : Fe) (vs : Vars) (k : Nat) (t : Value → Sem Unit) (d : D) (Q : Vars → Led → Prop) : Prop :=
  ∀ F X, FOk fe vs F X → Dj F X → ∀ A fz G s v, RoomF k A fe X → St C fz led (Un F X) G s → Den fz v d → wpAny (model C.prog C.w) A (t v) (Psu C fz X fe G Q) No s

theorem RoomF.y {k : Nat} {A : Around} {fe : Fe} {vs : Vars} {F X : Led} (h : RoomF k A fe X) (hF : FOk fe vs F X) (hd : Dj F X) : RoomY k A (Un F X) :=
  ⟨h.r, let ⟨l, e, q⟩ := h.fr; ⟨l, e, fun x hx => by
    obtain ⟨a, L, b, c⟩ := q x hx
    rcases c with rfl | ⟨m, c⟩
    · obtain ⟨m, hm, _⟩ := hF.loc
      exact ⟨a, _, m, b, Un_left hm⟩
    · exact ⟨a, L, m, b, by rw [Un_right ((hd L).resolve_right (by rw [c]; exact Option.some_ne_none _))]; exact c⟩⟩⟩
end Sc

namespace Sc
set_option tactic.hygienic false

theorem St.at {C : Cx} {fz : Fz} {led Y : Led} {G : Array GenState} {s : Shared} (S : St C fz led Y G s) {a : Addr} {m : M} (h : Y a = some m) : MAt fz s.heap a m :=
  S.rel.ledIn a m (by rw [Un_right ((S.dj a).resolve_right (by rw [h]; exact Option.some_ne_none m))]; exact h)
theorem St.atL {C : Cx} {fz : Fz} {led Y : Led} {G : Array GenState} {s : Shared} (S : St C fz led Y G s) {a : Addr} {m : M} (h : led a = some m) : MAt fz s.heap a m :=
  S.rel.ledIn a m (Un_left h)
theorem St.tok {C : Cx} {fz : Fz} {led Y : Led} {G : Array GenState} {s : Shared} (S : St C fz led Y G s) (t : Nat) : St C fz led Y G { s with toks := t } := ⟨S.dj, S.rel.tok t⟩
theorem St.ext {C : Cx} {fz : Fz} {led Y : Led} {G : Array GenState} {s : Shared} (S : St C fz led Y G s) {h' : Heap} (t : Nat) (hk : ∀ b o, s.heap.get? b = some o → h'.get? b = some o) : St C fz led Y G { s with heap := h', toks := t } := ⟨S.dj, S.rel.ext t hk⟩
theorem St.base {C : Cx} {fz : Fz} {led Y : Led} {G : Array GenState} {s : Shared} (S : St C fz led Y G s) : ∀ a o, C.h₀.get? a = some o → ¬ C.tab a → s.heap.get? a = some o := S.rel.base
theorem St.nolimit {C : Cx} {fz : Fz} {led Y : Led} {G : Array GenState} {s : Shared} (S : St C fz led Y G s) : s.heap.NoLimit :=
  let ⟨mc, n, q⟩ := C.nolimit; ⟨mc, n.at' fun o e => S.base _ o e (fun ⟨c, e⟩ => C.cs c e), q⟩
theorem St.glob {C : Cx} {fz : Fz} {led Y : Led} {G : Array GenState} {s : Shared} (S : St C fz led Y G s) : s.heap.Ns mainGlobals C.mg := C.g.at' fun o e => S.base _ o e (fun ⟨c, e⟩ => C.gt c e)
theorem St.blt {C : Cx} {fz : Fz} {led Y : Led} {G : Array GenState} {s : Shared} (S : St C fz led Y G s) : s.heap.Ns builtinsNs C.mb := C.b.at' fun o e => S.base _ o e (fun ⟨c, e⟩ => C.bt c e)

/-- a leaf: the state as it stands -/
theorem Pst.leaf {C : Cx} {fz : Fz} {led Y : Led} {G : Array GenState} {s : Shared} {Q : D → Led → Prop} {v : Value} {d : D} (S : St C fz led Y G s) (e : Den fz v d) (q : Q d led) : Pst C fz Y G Q v s :=
  ⟨fz, G, d, led, .refl _, .refl _, e, S, q⟩
theorem Psb.leaf {C : Cx} {fz : Fz} {led Y : Led} {G : Array GenState} {s : Shared} {Q : Bool → Led → Prop} {b : Bool} (S : St C fz led Y G s) (q : Q b led) : Psb C fz Y G Q b s :=
  ⟨fz, G, led, .refl _, .refl _, S, q⟩

/-! stores -/
noncomputable abbrev vset (vs : Vars) (x : Str) (d : D) : Vars := (x, d) :: vs
theorem vset_lookup (vs : Vars) (x : Str) (d : D) (y : Str) : (vset vs x d).lookup y = if y = x then some d else vs.lookup y := by
  show List.lookup y ((x, d) :: vs) = _
  rw [List.lookup_cons]
  by_cases h : y = x
  · subst h; simp
  · have : (y == x) = false := beq_eq_false_iff_ne.mpr h
    rw [this, if_neg h]
section
variable {C : Cx} {X led : Led} {fe : Fe} {vs : Vars} {k : Nat}

theorem FOk.put_local {F : Led} (hF : FOk fe vs F X) {m : List (Str × D)} (hm : F fe.env.locals = some (.ns m)) (hm2 : ∀ x d, vs.lookup x = some d → fe.env.kindOf x = some .local → m.lookup x = some d)
    {x : Str} {d : D} (hk : fe.env.kindOf x = some .local) : FOk fe (vset vs x d) (upd F fe.env.locals (.ns (vset m x d))) X where
  fn := hF.fn
  glob := hF.glob
  blt := hF.blt
  loc := ⟨_, upd_same .., fun y e h1 h2 => by
    rw [vset_lookup] at h1 ⊢
    by_cases q : y = x
    · rw [if_pos q] at h1 ⊢; exact h1
    · rw [if_neg q] at h1 ⊢; exact hm2 y e h1 h2⟩
  cel := fun y e h1 h2 => by
    rw [vset_lookup] at h1
    by_cases q : y = x
    · subst q; exact absurd hk h2
    · rw [if_neg q] at h1
      obtain ⟨c, q1, q2⟩ := hF.cel y e h1 h2
      refine ⟨c, q1, ?_⟩
      rw [Un_upd, upd_ne _ _ (fun z => ?_)]
      · exact q2
      · subst z; rw [Un_left hm] at q2; cases q2
  own := fun y hy => by
    obtain ⟨c, dd, q1, q2⟩ := hF.own y hy
    refine ⟨c, dd, q1, ?_⟩
    rw [upd_ne _ _ (fun z => ?_)]
    · exact q2
    · subst z; rw [hm] at q2; cases q2
  inj := hF.inj
theorem FOk.put_cell {F : Led} (hF : FOk fe vs F X) (hd : Dj F X) {x : Str} {c : Addr} {dd : Option D} {d : D} (hk : fe.env.kindOf x = some .cell) (hc : fe.env.cells.lookup x = some c) (hFc : F c = some (.cell dd)) :
    FOk fe (vset vs x d) (upd F c (.cell (some d))) X where
  fn := hF.fn
  glob := hF.glob
  blt := hF.blt
  loc := by
    obtain ⟨m, hm, hm2⟩ := hF.loc
    refine ⟨m, ?_, fun y e h1 h2 => ?_⟩
    · rw [upd_ne _ _ (fun z => ?_)]
      · exact hm
      · rw [z, hFc] at hm; cases hm
    · rw [vset_lookup] at h1
      by_cases q : y = x
      · subst q; rw [hk] at h2; cases h2
      · rw [if_neg q] at h1; exact hm2 y e h1 h2
  cel := fun y e h1 h2 => by
    rw [vset_lookup] at h1
    by_cases q : y = x
    · subst q; rw [if_pos rfl] at h1; cases h1; exact ⟨c, hc, by rw [Un_upd, upd_same]⟩
    · rw [if_neg q] at h1
      obtain ⟨c', q1, q2⟩ := hF.cel y e h1 h2
      refine ⟨c', q1, ?_⟩
      rw [Un_upd, upd_ne _ _ (fun z => ?_)]
      · exact q2
      · subst z; exact q (hF.inj y x _ q1 hc)
  own := fun y hy => by
    obtain ⟨c', dd', q1, q2⟩ := hF.own y hy
    by_cases z : c' = c
    · subst z; exact ⟨c', some d, q1, upd_same ..⟩
    · exact ⟨c', dd', q1, by rw [upd_ne _ _ z]; exact q2⟩
  inj := hF.inj

theorem St.frame {fz : Fz} {F : Led} {G : Array GenState} {s : Shared} (S : St C fz led (Un F X) G s) (hd : Dj F X) {a : Addr} {m₀ m : M} (ha : F a = some m₀) {h' : Heap} (t : Nat) (hk : Heap.ExtBut a s.heap h') (hm : MAt fz h' a m) :
    St C fz led (Un (upd F a m) X) G { s with heap := h', toks := t } ∧ Dj (upd F a m) X := by
  have hl : led a = none := (S.dj a).resolve_right (by rw [Un_left ha]; exact Option.some_ne_none _)
  refine ⟨⟨?_, ?_⟩, hd.upd m (hd.of_some ha)⟩
  · rw [Un_upd]
    exact (Dj.upd S.dj.symm m hl).symm
  · rw [Un_upd, Un_upd_r _ _ _ _ hl]
    exact S.rel.upd (m₀ := m₀) (by rw [Un_right hl, Un_left ha]) t hk hm

theorem WU.store_local {x : Str} {d : D} {Q : Vars → Led → Prop} (hk : fe.env.kindOf x = some .local) (h : Q (vset vs x d) led) : WU C led fe vs k (storeName fe.env x) d Q := by
  intro F X hF hd A fz G s v hA S hv
  obtain ⟨m, hm, hm2⟩ := hF.loc
  obtain ⟨mv, hn, ho⟩ := S.at (Un_left hm)
  refine wpAny_storeName_local hk hn (fun h' hn' hs' => ?_) (by rw [hF.fn]; rfl)
  obtain ⟨S', d'⟩ := S.frame hd hm (m := .ns (vset m x d)) (s.toks + 1) hs'.extBut ⟨_, hn', fun y => by
    rw [vset_lookup]
    by_cases q : y = x
    · rw [if_pos q, if_pos q]; intro e he; cases he; exact ⟨v, rfl, hv⟩
    · rw [if_neg q, if_neg q]; exact ho y⟩
  exact ⟨fz, G, _, _, led, .refl _, .refl _, hF.put_local hm hm2 hk, d', S', h⟩
theorem WU.store_cell {x : Str} {d : D} {Q : Vars → Led → Prop} (hk : fe.env.kindOf x = some .cell) (hx : x ∈ fe.ow) (h : Q (vset vs x d) led) : WU C led fe vs k (storeName fe.env x) d Q := by
  intro F X hF hd A fz G s v hA S hv
  obtain ⟨c, dd, hc, hFc⟩ := hF.own x hx
  obtain ⟨v₀, ho, _⟩ := S.at (Un_left hFc)
  unfold storeName
  simp only [hk, hF.fn]
  refine wpAny_bind (wpAny_cellOf hc ?_)
  unfold cellSet
  refine wpAny_bind (wpAny_load ho ?_)
  refine wpAny_update ho ?_
  obtain ⟨S', d'⟩ := S.frame hd hFc (m := .cell (some d)) s.toks (Heap.SameBut.update s.heap c (fun o => { o with data := .cell (some v) })).extBut ⟨some v, Heap.get?_update_self (fun o => { o with data := .cell (some v) }) ho rfl, hv⟩
  exact ⟨fz, G, _, _, led, .refl _, .refl _, hF.put_cell hd hk hc hFc, d', S', h⟩

/-! names -/
theorem WE.mono {t : Sem Value} {Q Q' : D → Led → Prop} (h : WE C led fe vs k t Q) (i : ∀ d led, Q d led → Q' d led) : WE C led fe vs k t Q' :=
  fun F X hF hd A fz G s hA S => wpAny_mono (h F X hF hd A fz G s hA S) (fun _ _ p => p.mono i) fun _ _ x => x
theorem WE.ld_local {x : Str} {d : D} {Q : D → Led → Prop} (hx : vs.lookup x = some d) (hk : fe.env.kindOf x = some .local) (h : Q d led) : WE C led fe vs k (loadName fe.env x) Q := by
  intro F X hF hd A fz G s hA S
  obtain ⟨m, hm, hm2⟩ := hF.loc
  obtain ⟨mv, hn, ho⟩ := S.at (Un_left hm)
  obtain ⟨v, hv, q⟩ := ho x d (hm2 x d hx hk)
  exact wpAny_loadName_local hF.fn hk hn hv (Pst.leaf S q h)
theorem WE.ld_cell {x : Str} {d : D} {Q : D → Led → Prop} (hx : vs.lookup x = some d) (hk : fe.env.kindOf x = some .cell) (h : Q d led) : WE C led fe vs k (loadName fe.env x) Q := by
  intro F X hF hd A fz G s hA S
  obtain ⟨c, hc, hm⟩ := hF.cel x d hx (by rw [hk]; intro q; cases q)
  obtain ⟨v, ho, q⟩ := S.at hm
  cases v with
  | none => exact q.elim
  | some v => exact wpAny_loadName_cell hF.fn hk hc ⟨_, ho, rfl⟩ (Pst.leaf S q h)
theorem WE.ld_free {x : Str} {d : D} {Q : D → Led → Prop} (hx : vs.lookup x = some d) (hk : fe.env.kindOf x = some .free) (h : Q d led) (hn : autoParam ((x == ("__classdict__" : Str)) = false) autA) : WE C led fe vs k (loadName fe.env x) Q := by
  intro F X hF hd A fz G s hA S
  obtain ⟨c, hc, hm⟩ := hF.cel x d hx (by rw [hk]; intro q; cases q)
  obtain ⟨v, ho, q⟩ := S.at hm
  cases v with
  | none => exact q.elim
  | some v => exact wpAny_loadName_free hF.fn hk hc ⟨_, ho, rfl⟩ (Pst.leaf S q h) hn
theorem WE.name_of {x : Str} {pos : Pos} {Q : D → Led → Prop} (h : WE C led fe vs k (loadName fe.env x) Q) (hd : autoParam ((x == ("__debug__" : Str)) = false) autA) : WE C led fe vs k (eval (.Name x pos) fe.env) Q :=
  fun F X hF hj A fz G s hA S => wpAny_Name (h F X hF hj A fz G s hA S) hd
theorem WE.name_glob {x : Str} {pos : Pos} {v : Value} {d : D} {Q : D → Led → Prop} (hx : C.mg x = some v) (hv : ∀ fz, Den fz v d) (h : Q d led) (hk : fe.env.kindOf x = some .globalImplicit) (hd : autoParam ((x == ("__debug__" : Str)) = false) autA) : WE C led fe vs k (eval (.Name x pos) fe.env) Q :=
  fun F X hF _ A fz G s hA S => Calls.Name_function_global hF.fn hk (Calls.loadGlobal_global (by rw [hF.glob]; exact S.glob) hx (Pst.leaf S (hv fz) h)) hd
theorem WE.name_blt {x : Str} {pos : Pos} {v : Value} {d : D} {Q : D → Led → Prop} (hg : C.mg x = none) (hx : bootBuiltins x = some v) (hv : ∀ fz, Den fz v d) (h : Q d led) (hk : fe.env.kindOf x = some .globalImplicit) (hn : autoParam (x ≠ "__name__") autA) (hd : autoParam ((x == ("__debug__" : Str)) = false) autA) : WE C led fe vs k (eval (.Name x pos) fe.env) Q :=
  fun F X hF _ A fz G s hA S => Calls.Name_function_global hF.fn hk (Calls.loadGlobal_builtin (by rw [hF.glob]; exact S.glob) hg (by rw [hF.blt]; exact S.blt) ((C.bb x hn).trans hx) (Pst.leaf S (hv fz) h)) hd

/-! constants -/
theorem WE.c_int {i : Int} {kk : Nat} {pos : Pos} {Q : D → Led → Prop} (h : Q (.int i) led) : WE C led fe vs k (eval (.Constant (.int i) kk pos) fe.env) Q :=
  fun _ _ _ _ _ _ _ _ _ S => wpAny_Constant_int (Pst.leaf (S.tok _) (.int ..) h)
theorem WE.c_str {x : Str} {kk : Nat} {pos : Pos} {Q : D → Led → Prop} (h : Q (.str x) led) : WE C led fe vs k (eval (.Constant (.str x) kk pos) fe.env) Q :=
  fun _ _ _ _ _ _ _ _ _ S => Calls.Constant_str (Pst.leaf (S.tok _) (.str ..) h)
theorem WE.c_none {kk : Nat} {pos : Pos} {Q : D → Led → Prop} (h : Q .none led) : WE C led fe vs k (eval (.Constant .none kk pos) fe.env) Q :=
  fun _ _ _ _ _ _ _ _ _ S => wpAny_Constant_none (Pst.leaf S .none h)
theorem WE.c_bool {b : Bool} {kk : Nat} {pos : Pos} {Q : D → Led → Prop} (h : Q (.bool b) led) : WE C led fe vs k (eval (.Constant (.bool b) kk pos) fe.env) Q :=
  fun _ _ _ _ _ _ _ _ _ S => wpAny_Constant_bool (Pst.leaf S (.bool b) h)

/-! what follows, named -/
noncomputable abbrev KOp2 (C : Cx) (k : Nat) (f : Value → Value → Sem Value) (Q : D → Led → Prop) (d1 : D) : D → Led → Prop := fun d2 led2 => ∀ Y, Op2 C Y led2 k f d1 d2 Q
noncomputable abbrev KBin (C : Cx) (fe : Fe) (vs : Vars) (k : Nat) (r : Expr) (f : Value → Value → Sem Value) (Q : D → Led → Prop) : D → Led → Prop := fun d1 led1 => WE C led1 fe vs k (eval r fe.env) (KOp2 C k f Q d1)
noncomputable abbrev KUn (C : Cx) (k : Nat) (f : Value → Sem Value) (Q : D → Led → Prop) : D → Led → Prop := fun d1 led1 => ∀ Y, Op1 C Y led1 k f d1 Q
/-! operators -/
theorem WE.binop {l r : Expr} {op : Operator} {pos : Pos} {Q : D → Led → Prop}
    (h : WE C led fe vs k (eval l fe.env) (KBin C fe vs k r (binaryOp op) Q)) : WE C led fe vs k (eval (.BinOp l op r pos) fe.env) Q := by
  intro F X hF hd A fz G s hA S
  refine wpAny_BinOp (wpAny_mono (h F X hF hd A fz G s hA S) (fun v1 s1 p => ?_) fun _ _ x => x)
  obtain ⟨fz1, G1, d1, led1, l1, g1, e1, S1, h1⟩ := p
  refine wpAny_mono (h1 F X hF hd A fz1 G1 s1 hA S1) (fun v2 s2 p => ?_) fun _ _ x => x
  obtain ⟨fz2, G2, d2, led2, l2, g2, e2, S2, h2⟩ := p
  exact wpAny_mono (h2 _ A fz2 G2 s2 v1 v2 hA.r S2 (e1.mono l2) e2) (fun _ _ p => (p.trans l2 g2).trans l1 g1) fun _ _ x => x
theorem WE.unop {x : Expr} {op : UnaryOp} {pos : Pos} {Q : D → Led → Prop}
    (h : WE C led fe vs k (eval x fe.env) (KUn C k (unaryOp op) Q)) : WE C led fe vs k (eval (.UnaryOp op x pos) fe.env) Q := by
  intro F X hF hd A fz G s hA S
  refine wpAny_UnaryOp (wpAny_mono (h F X hF hd A fz G s hA S) (fun v1 s1 p => ?_) fun _ _ x => x)
  obtain ⟨fz1, G1, d1, led1, l1, g1, e1, S1, h1⟩ := p
  exact wpAny_mono (h1 _ A fz1 G1 s1 v1 hA.r S1 e1) (fun _ _ p => p.trans l1 g1) fun _ _ x => x
theorem WE.cmp1 {l r : Expr} {op : CmpOp} {pos : Pos} {Q : D → Led → Prop}
    (h : WE C led fe vs k (eval l fe.env) (KBin C fe vs k r (compareOp op) Q)) (hm : autoParam (behindInMarks op r = false) rflA) :
    WE C led fe vs k (eval (.Compare l [op] [r] pos) fe.env) Q := by
  intro F X hF hd A fz G s hA S
  refine wpAny_Compare1 (wpAny_mono (h F X hF hd A fz G s hA S) (fun v1 s1 p => ?_) fun _ _ x => x) hm
  obtain ⟨fz1, G1, d1, led1, l1, g1, e1, S1, h1⟩ := p
  refine wpAny_mono (h1 F X hF hd A fz1 G1 s1 hA S1) (fun v2 s2 p => ?_) fun _ _ x => x
  obtain ⟨fz2, G2, d2, led2, l2, g2, e2, S2, h2⟩ := p
  exact wpAny_mono (h2 _ A fz2 G2 s2 v1 v2 hA.r S2 (e1.mono l2) e2) (fun _ _ p => (p.trans l2 g2).trans l1 g1) fun _ _ x => x
end
end Sc

namespace Sc
set_option tactic.hygienic false

theorem chain {M : Model} {A : Around} {t : Sem Value} {C : Cx} {fz : Fz} {Y : Led} {G : Array GenState} {P : D → Led → Prop} {s : Shared} {R : Value → Shared → Prop} {E : Value → Shared → Prop}
    (h : wpAny M A t (Pst C fz Y G P) No s)
    (k : ∀ v s' fz' G' d led', FzLe fz fz' → GExt G G' → Den fz' v d → St C fz' led' Y G' s' → P d led' → R v s') : wpAny M A t R E s :=
  wpAny_mono h (fun v s' ⟨fz', G', d, led', a, b, c, e, q⟩ => k v s' fz' G' d led' a b c e q) fun _ _ x => x.elim
theorem chainB {M : Model} {A : Around} {t : Sem Bool} {C : Cx} {fz : Fz} {Y : Led} {G : Array GenState} {P : Bool → Led → Prop} {s : Shared} {R : Bool → Shared → Prop} {E : Value → Shared → Prop}
    (h : wpAny M A t (Psb C fz Y G P) No s)
    (k : ∀ b s' fz' G' led', FzLe fz fz' → GExt G G' → St C fz' led' Y G' s' → P b led' → R b s') : wpAny M A t R E s :=
  wpAny_mono h (fun v s' ⟨fz', G', led', a, b, e, q⟩ => k v s' fz' G' led' a b e q) fun _ _ x => x.elim
theorem chainL {M : Model} {A : Around} {t : Sem (List Value)} {C : Cx} {fz : Fz} {Y : Led} {G : Array GenState} {P : List D → Led → Prop} {s : Shared} {R : List Value → Shared → Prop} {E : Value → Shared → Prop}
    (h : wpAny M A t (Pss C fz Y G P) No s)
    (k : ∀ vs s' fz' G' ds led', FzLe fz fz' → GExt G G' → Dens fz' vs ds → St C fz' led' Y G' s' → P ds led' → R vs s') : wpAny M A t R E s :=
  wpAny_mono h (fun v s' ⟨fz', G', ds, led', a, b, c, e, q⟩ => k v s' fz' G' ds led' a b c e q) fun _ _ x => x.elim
/-- the end of a chain -/
theorem fin {M : Model} {A : Around} {t : Sem Value} {C : Cx} {fz fz' : Fz} {Y : Led} {G G' : Array GenState} {P : D → Led → Prop} {s : Shared} {E : Value → Shared → Prop}
    (h : wpAny M A t (Pst C fz' Y G' P) No s) (l : FzLe fz fz') (g : GExt G G') : wpAny M A t (Pst C fz Y G P) E s :=
  wpAny_mono h (fun _ _ p => p.trans l g) fun _ _ x => x.elim
theorem finB {M : Model} {A : Around} {t : Sem Bool} {C : Cx} {fz fz' : Fz} {Y : Led} {G G' : Array GenState} {P : Bool → Led → Prop} {s : Shared} {E : Value → Shared → Prop}
    (h : wpAny M A t (Psb C fz' Y G' P) No s) (l : FzLe fz fz') (g : GExt G G') : wpAny M A t (Psb C fz Y G P) E s :=
  wpAny_mono h (fun _ _ p => p.trans l g) fun _ _ x => x.elim
structure KIfE (C : Cx) (fe : Fe) (vs : Vars) (k : Nat) (body orelse : Expr) (Q : D → Led → Prop) (b : Bool) (led1 : Led) : Prop where
  t : b = true → WE C led1 fe vs k (eval body fe.env) Q
  f : b = false → WE C led1 fe vs k (eval orelse fe.env) Q
inductive KTru (Q : Bool → Led → Prop) (d : D) (led1 : Led) : Prop
  | mk (b : Bool) : d = .bool b → Q b led1 → KTru Q d led1
noncomputable abbrev KVal (C : Cx) (k : Nat) (Q : Bool → Led → Prop) : D → Led → Prop := fun d led1 => ∀ Y, Tru C Y led1 k d Q
structure KAnd (C : Cx) (fe : Fe) (vs : Vars) (k : Nat) (rest : List Expr) (Q : Bool → Led → Prop) (b : Bool) (led1 : Led) : Prop where
  t : b = true → WB C led1 fe vs k (allTrue .And rest fe.env) Q
  f : b = false → Q false led1
structure KOr (C : Cx) (fe : Fe) (vs : Vars) (k : Nat) (rest : List Expr) (Q : Bool → Led → Prop) (b : Bool) (led1 : Led) : Prop where
  f : b = false → WB C led1 fe vs k (allTrue .Or rest fe.env) Q
  t : b = true → Q true led1
section
variable {C : Cx} {led : Led} {fe : Fe} {vs : Vars} {k : Nat}

theorem WB.mono {t : Sem Bool} {Q Q' : Bool → Led → Prop} (h : WB C led fe vs k t Q) (i : ∀ d led, Q d led → Q' d led) : WB C led fe vs k t Q' :=
  fun F X hF hd A fz G s hA S => wpAny_mono (h F X hF hd A fz G s hA S) (fun _ _ ⟨f, H, l, a, b, c, q⟩ => ⟨f, H, l, a, b, c, i _ _ q⟩) fun _ _ x => x
theorem WE.ifexp {test body orelse : Expr} {pos : Pos} {Q : D → Led → Prop}
    (h : WB C led fe vs k (isTrue test fe.env (eval test fe.env)) (KIfE C fe vs k body orelse Q)) :
    WE C led fe vs k (eval (.IfExp test body orelse pos) fe.env) Q := by
  intro F X hF hd A fz G s hA S
  refine wpAny_IfExp (chainB (h F X hF hd A fz G s hA S) fun b s1 fz1 G1 led1 l1 g1 S1 h1 => ?_)
  cases b
  · exact fin (h1.2 rfl F X hF hd A fz1 G1 s1 hA S1) l1 g1
  · exact fin (h1.1 rfl F X hF hd A fz1 G1 s1 hA S1) l1 g1

/-! truth -/
theorem Tru.bool {Y : Led} {b : Bool} {Q : Bool → Led → Prop} (h : Q b led) : Tru C Y led k (.bool b) Q := by
  intro A fz G s v hA S e; induction e using Den.boolE; exact wpAny_truthy_bool (Psb.leaf S h)
theorem WB.cmp1 {l r : Expr} {op : CmpOp} {pos : Pos} {whole : Sem Value} {Q : Bool → Led → Prop}
    (h : WE C led fe vs k (eval l fe.env) (KBin C fe vs k r (compareOp op) (KTru Q)))
    (hm : autoParam (behindInMarks op r = false) rflA) :
    WB C led fe vs k (isTrue (.Compare l [op] [r] pos) fe.env whole) Q := by
  intro F X hF hd A fz G s hA S
  refine wpAny_isTrue_Compare1 (chain (h F X hF hd A fz G s hA S) fun v1 s1 fz1 G1 d1 led1 l1 g1 e1 S1 h1 => ?_) hm
  refine chain (h1 F X hF hd A fz1 G1 s1 hA S1) fun v2 s2 fz2 G2 d2 led2 l2 g2 e2 S2 h2 => ?_
  refine chain (h2 _ A fz2 G2 s2 v1 v2 hA.r S2 (e1.mono l2) e2) fun v3 s3 fz3 G3 d3 led3 l3 g3 e3 S3 h3 => ?_
  obtain ⟨b, rfl, q⟩ := h3
  induction e3 using Den.boolE
  exact wpAny_truthy_bool ⟨fz3, G3, led3, (l1.trans l2).trans l3, (g1.trans g2).trans g3, S3, q⟩
theorem WB.val {e : Expr} {Q : Bool → Led → Prop} (h : WE C led fe vs k (eval e fe.env) (KVal C k Q))
    (he : autoParam (∀ whole, isTrue e fe.env whole = (do let v ← whole; standAt e.pos; holding [v] (truthy v))) autA) :
    WB C led fe vs k (isTrue e fe.env (eval e fe.env)) Q := by
  intro F X hF hd A fz G s hA S
  refine wpAny_isTrue_value (chain (h F X hF hd A fz G s hA S) fun v1 s1 fz1 G1 d1 led1 l1 g1 e1 S1 h1 => ?_) (he _)
  exact finB (h1 _ A fz1 G1 s1 v1 hA.r S1 e1) l1 g1
theorem WB.boolop {op : BoolOp} {values : List Expr} {pos : Pos} {whole : Sem Value} {Q : Bool → Led → Prop} (h : WB C led fe vs k (allTrue op values fe.env) Q) :
    WB C led fe vs k (isTrue (.BoolOp op values pos) fe.env whole) Q :=
  fun F X hF hd A fz G s hA S => wpAny_isTrue_BoolOp (h F X hF hd A fz G s hA S)
theorem WB.and_nil {Q : Bool → Led → Prop} (h : Q true led) : WB C led fe vs k (allTrue .And [] fe.env) Q :=
  fun F X hF hd A fz G s hA S => wpAny_allTrue_And_nil (Psb.leaf S h)
theorem WB.or_nil {Q : Bool → Led → Prop} (h : Q false led) : WB C led fe vs k (allTrue .Or [] fe.env) Q :=
  fun F X hF hd A fz G s hA S => wpAny_allTrue_Or_nil (Psb.leaf S h)
theorem WB.and_cons {x : Expr} {rest : List Expr} {Q : Bool → Led → Prop} (h : WB C led fe vs k (isTrue x fe.env (eval x fe.env)) (KAnd C fe vs k rest Q)) : WB C led fe vs k (allTrue .And (x :: rest) fe.env) Q := by
  intro F X hF hd A fz G s hA S
  refine wpAny_allTrue_And_cons (chainB (h F X hF hd A fz G s hA S) fun b s1 fz1 G1 led1 l1 g1 S1 h1 => ?_)
  cases b
  · exact ⟨fz1, G1, led1, l1, g1, S1, h1.2 rfl⟩
  · exact finB (h1.1 rfl F X hF hd A fz1 G1 s1 hA S1) l1 g1
theorem WB.or_cons {x : Expr} {rest : List Expr} {Q : Bool → Led → Prop} (h : WB C led fe vs k (isTrue x fe.env (eval x fe.env)) (KOr C fe vs k rest Q)) : WB C led fe vs k (allTrue .Or (x :: rest) fe.env) Q := by
  intro F X hF hd A fz G s hA S
  refine wpAny_allTrue_Or_cons (chainB (h F X hF hd A fz G s hA S) fun b s1 fz1 G1 led1 l1 g1 S1 h1 => ?_)
  cases b
  · exact finB (h1.1 rfl F X hF hd A fz1 G1 s1 hA S1) l1 g1
  · exact ⟨fz1, G1, led1, l1, g1, S1, h1.2 rfl⟩
end
end Sc

namespace Sc
set_option tactic.hygienic false

theorem chainF {M : Model} {A : Around} {t : Sem Flow} {C : Cx} {fz : Fz} {X : Led} {fe : Fe} {G : Array GenState} {P : Fl → Vars → Led → Prop} {s : Shared} {R : Flow → Shared → Prop} {E : Value → Shared → Prop}
    (h : wpAny M A t (Psf C fz X fe G P) No s)
    (k : ∀ f s' fz' G' F' vs' led' fl, FzLe fz fz' → GExt G G' → FlDen fz' f fl → FOk fe vs' F' X → Dj F' X → St C fz' led' (Un F' X) G' s' → P fl vs' led' → R f s') : wpAny M A t R E s :=
  wpAny_mono h (fun f s' ⟨fz', G', F', vs', led', fl, a, b, c, d, e, g, q⟩ => k f s' fz' G' F' vs' led' fl a b c d e g q) fun _ _ x => x.elim
theorem chainU {M : Model} {A : Around} {t : Sem Unit} {C : Cx} {fz : Fz} {X : Led} {fe : Fe} {G : Array GenState} {P : Vars → Led → Prop} {s : Shared} {R : Unit → Shared → Prop} {E : Value → Shared → Prop}
    (h : wpAny M A t (Psu C fz X fe G P) No s)
    (k : ∀ s' fz' G' F' vs' led', FzLe fz fz' → GExt G G' → FOk fe vs' F' X → Dj F' X → St C fz' led' (Un F' X) G' s' → P vs' led' → R () s') : wpAny M A t R E s :=
  wpAny_mono h (fun f s' ⟨fz', G', F', vs', led', a, b, d, e, g, q⟩ => k s' fz' G' F' vs' led' a b d e g q) fun _ _ x => x.elim
theorem finF {M : Model} {A : Around} {t : Sem Flow} {C : Cx} {fz fz' : Fz} {X : Led} {fe : Fe} {G G' : Array GenState} {P : Fl → Vars → Led → Prop} {s : Shared} {E : Value → Shared → Prop}
    (h : wpAny M A t (Psf C fz' X fe G' P) No s) (l : FzLe fz fz') (g : GExt G G') : wpAny M A t (Psf C fz X fe G P) E s :=
  wpAny_mono h (fun _ _ p => p.trans l g) fun _ _ x => x.elim
theorem Psu.trans {C : Cx} {fz fz' : Fz} {X : Led} {fe : Fe} {G G' : Array GenState} {Q : Vars → Led → Prop} {v : Unit} {s : Shared} (l : FzLe fz fz') (g : GExt G G') (h : Psu C fz' X fe G' Q v s) : Psu C fz X fe G Q v s :=
  let ⟨f, H, F, vs, led, a, b, c, d, e, q⟩ := h; ⟨f, H, F, vs, led, l.trans a, g.trans b, c, d, e, q⟩
theorem finU {M : Model} {A : Around} {t : Sem Unit} {C : Cx} {fz fz' : Fz} {X : Led} {fe : Fe} {G G' : Array GenState} {P : Vars → Led → Prop} {s : Shared} {E : Value → Shared → Prop}
    (h : wpAny M A t (Psu C fz' X fe G' P) No s) (l : FzLe fz fz') (g : GExt G G') : wpAny M A t (Psu C fz X fe G P) E s :=
  wpAny_mono h (fun _ _ p => p.trans l g) fun _ _ x => x.elim

/-- every pair of the first list stands in the second -/
noncomputable def Sub : Vars → Vars → Prop
  | [], _ => True
  | (x, d) :: r, vs => vs.lookup x = some d ∧ Sub r vs
theorem Sub.spec : ∀ {r vs : Vars}, Sub r vs → ∀ x d, r.lookup x = some d → vs.lookup x = some d
  | [], _, _, x, d, e => by cases e
  | (y, e') :: r, vs, h, x, d, e => by
    rw [List.lookup_cons] at e
    cases hb : x == y with
    | true => rw [hb] at e; cases e; rw [beq_iff_eq.mp hb]; exact h.1
    | false => rw [hb] at e; exact Sub.spec h.2 x d e
theorem FOk.sub {fe : Fe} {vs vs' : Vars} {F X : Led} (h : FOk fe vs' F X) (i : Sub vs vs') : FOk fe vs F X where
  fn := h.fn
  glob := h.glob
  blt := h.blt
  loc := let ⟨m, a, b⟩ := h.loc; ⟨m, a, fun x d e q => b x d (i.spec x d e) q⟩
  cel := fun x d e q => h.cel x d (i.spec x d e) q
  own := h.own
  inj := h.inj
theorem FOk.up {fe : Fe} {vs : Vars} {F X X' : Led} (h : FOk fe vs F X) (i : ∀ a m, X a = some m → X' a = some m) : FOk fe vs F X' where
  fn := h.fn
  glob := h.glob
  blt := h.blt
  loc := h.loc
  cel := fun x d e q => let ⟨c, a, b⟩ := h.cel x d e q; ⟨c, a, by
    cases hF : F c with
    | some m => rw [Un_left hF] at b; rw [Un_left hF]; exact b
    | none => rw [Un_right hF] at b; rw [Un_right hF]; exact i _ _ b⟩
  own := h.own
  inj := h.inj

section
variable {C : Cx} {led : Led} {fe : Fe} {vs : Vars} {k : Nat} {Q : Fl → Vars → Led → Prop}

theorem WS.sub {vs' : Vars} {t : Sem Flow} (h : WS C led fe vs k t Q) (i : Sub vs vs') : WS C led fe vs' k t Q :=
  fun F X hF hd => h F X (hF.sub i) hd
theorem WS.mono {t : Sem Flow} {Q Q' : Fl → Vars → Led → Prop} (h : WS C led fe vs k t Q) (i : ∀ f vs led, Q f vs led → Q' f vs led) : WS C led fe vs k t Q' :=
  fun F X hF hd A fz G s hA S => chainF (h F X hF hd A fz G s hA S) fun f s' fz' G' F' vs' led' fl a b c d e g q => ⟨fz', G', F', vs', led', fl, a, b, c, d, e, g, i _ _ _ q⟩
theorem WU.mono {t : Value → Sem Unit} {d : D} {Q Q' : Vars → Led → Prop} (h : WU C led fe vs k t d Q) (i : ∀ vs led, Q vs led → Q' vs led) : WU C led fe vs k t d Q' :=
  fun F X hF hd A fz G s v hA S e => chainU (h F X hF hd A fz G s v hA S e) fun s' fz' G' F' vs' led' a b d e g q => ⟨fz', G', F', vs', led', a, b, d, e, g, i _ _ q⟩
theorem WS.nil (h : Q .next vs led) : WS C led fe vs k (execs [] fe.env) Q :=
  fun F X hF hd A fz G s hA S => wpAny_execs_nil ⟨fz, G, F, vs, led, .next, .refl _, .refl _, trivial, hF, hd, S, h⟩
/-- what stands behind a statement -/
noncomputable abbrev After (C : Cx) (fe : Fe) (k : Nat) (rest : List Stmt) (Q : Fl → Vars → Led → Prop) : Fl → Vars → Led → Prop := fun fl vs led =>
  match fl with
  | .next => WS C led fe vs k (execs rest fe.env) Q
  | fl => Q fl vs led
noncomputable abbrev KRet (vs : Vars) (Q : Fl → Vars → Led → Prop) : D → Led → Prop := fun d led1 => Q (.ret d) vs led1
structure KIf (C : Cx) (fe : Fe) (vs : Vars) (k : Nat) (body orelse : List Stmt) (Q : Fl → Vars → Led → Prop) (b : Bool) (led1 : Led) : Prop where
  t : b = true → WS C led1 fe vs k (execs body fe.env) Q
  f : b = false → WS C led1 fe vs k (execs orelse fe.env) Q
structure KExpr (vs : Vars) (Q : Fl → Vars → Led → Prop) (d : D) (led1 : Led) : Prop where
  e : d = .none
  q : Q .next vs led1
noncomputable abbrev KAsg (C : Cx) (fe : Fe) (vs : Vars) (k : Nat) (x : Str) (Q : Fl → Vars → Led → Prop) : D → Led → Prop := fun d led1 => WU C led1 fe vs k (storeName fe.env x) d (Q .next)
inductive KLess (I : Nat → Vars → Led → Prop) (n : Nat) (vs : Vars) (led : Led) : Prop
  | mk (m : Nat) (vs3 : Vars) : m < n → Sub vs3 vs → I m vs3 led → KLess I n vs led
noncomputable abbrev KTurn (I : Nat → Vars → Led → Prop) (n : Nat) (Q : Fl → Vars → Led → Prop) : Fl → Vars → Led → Prop := fun fl vs2 led2 => match fl with
        | .next | .cont => KLess I n vs2 led2
        | .brk => Q .next vs2 led2
        | .ret d => Q (.ret d) vs2 led2
structure KWh (C : Cx) (fe : Fe) (vs : Vars) (k : Nat) (body : List Stmt) (I : Nat → Vars → Led → Prop) (n : Nat) (Q : Fl → Vars → Led → Prop) (b : Bool) (led1 : Led) : Prop where
  t : b = true → WS C led1 fe vs k (execs body fe.env) (KTurn I n Q)
  f : b = false → Q .next vs led1
theorem FlDen.E {fz : Fz} {motive : ∀ f fl, FlDen fz f fl → Prop} {f : Flow} {fl : Fl} (e : FlDen fz f fl) (next : motive .next .next trivial) (brk : motive .brk .brk trivial) (cont : motive .cont .cont trivial)
    (ret : ∀ v d (e : Den fz v d), motive (.ret v) (.ret d) e) : motive f fl e := by
  cases fl <;> cases f <;> first | exact False.elim e | exact next | exact brk | exact cont | exact ret _ _ e
theorem WS.cons {st : Stmt} {rest : List Stmt} (h : WS C led fe vs k (exec st fe.env) (After C fe k rest Q)) : WS C led fe vs k (execs (st :: rest) fe.env) Q := by
  intro F X hF hd A fz G s hA S
  refine wpAny_execs_cons (chainF (h F X hF hd A fz G s hA S) fun f s1 fz1 G1 F1 vs1 led1 fl l1 g1 e1 hF1 hd1 S1 h1 => ?_)
  induction e1 using FlDen.E with
  | next => exact finF (h1 F1 X hF1 hd1 A fz1 G1 s1 hA S1) l1 g1
  | brk => exact ⟨fz1, G1, F1, vs1, led1, .brk, l1, g1, trivial, hF1, hd1, S1, h1⟩
  | cont => exact ⟨fz1, G1, F1, vs1, led1, .cont, l1, g1, trivial, hF1, hd1, S1, h1⟩
  | ret v d e1 => exact ⟨fz1, G1, F1, vs1, led1, .ret d, l1, g1, e1, hF1, hd1, S1, h1⟩

theorem WS.brk {pos : Pos} (h : Q .brk vs led) : WS C led fe vs k (exec (.Break pos) fe.env) Q :=
  fun F X hF hd A fz G s hA S => wpAny_Break ⟨fz, G, F, vs, led, .brk, .refl _, .refl _, trivial, hF, hd, S, h⟩
theorem WS.cont {pos : Pos} (h : Q .cont vs led) : WS C led fe vs k (exec (.Continue pos) fe.env) Q :=
  fun F X hF hd A fz G s hA S => wpAny_Continue ⟨fz, G, F, vs, led, .cont, .refl _, .refl _, trivial, hF, hd, S, h⟩
theorem WS.ret {e : Expr} {pos : Pos} (h : WE C led fe vs k (eval e fe.env) (KRet vs Q)) : WS C led fe vs k (exec (.Return (some e) pos) fe.env) Q :=
  fun F X hF hd A fz G s hA S => wpAny_Return_some (chain (h F X hF hd A fz G s hA S) fun v1 s1 fz1 G1 d1 led1 l1 g1 e1 S1 h1 => ⟨fz1, G1, F, vs, led1, .ret d1, l1, g1, e1, hF, hd, S1, h1⟩)
theorem WS.ret_none {pos : Pos} (h : Q (.ret .none) vs led) : WS C led fe vs k (exec (.Return none pos) fe.env) Q :=
  fun F X hF hd A fz G s hA S => wpAny_Return_none ⟨fz, G, F, vs, led, .ret .none, .refl _, .refl _, Den.none, hF, hd, S, h⟩
theorem WS.if {test : Expr} {body orelse : List Stmt} {pos : Pos}
    (h : WB C led fe vs k (isTrue test fe.env (eval test fe.env)) (KIf C fe vs k body orelse Q)) :
    WS C led fe vs k (exec (.If test body orelse pos) fe.env) Q := by
  intro F X hF hd A fz G s hA S
  refine wpAny_If (chainB (h F X hF hd A fz G s hA S) fun b s1 fz1 G1 led1 l1 g1 S1 h1 => ?_)
  cases b
  · exact finF (h1.2 rfl F X hF hd A fz1 G1 s1 hA S1) l1 g1
  · exact finF (h1.1 rfl F X hF hd A fz1 G1 s1 hA S1) l1 g1
theorem WS.expr {e : Expr} {pos : Pos} (h : WE C led fe vs k (eval e fe.env) (KExpr vs Q))
    (hi : autoParam (interactive fe.env = false) rflA) (hs : autoParam (swapsWith e none pos.line fe.env = pure false) rflA) : WS C led fe vs k (exec (.Expr e pos) fe.env) Q := by
  intro F X hF hd A fz G s hA S
  refine wpAny_Expr (chain (h F X hF hd A fz G s hA S) fun v1 s1 fz1 G1 d1 led1 l1 g1 e1 S1 h1 => ?_) hi hs
  obtain ⟨rfl, q⟩ := h1
  induction e1 using Den.noneE
  exact ⟨fz1, G1, F, vs, led1, .next, l1, g1, trivial, hF, hd, S1, q⟩
theorem WS.assign {e : Expr} {x : Str} {px pos : Pos} (h : WE C led fe vs k (eval e fe.env) (KAsg C fe vs k x Q))
    (hs : autoParam (swapsWith e (some (.Name x px)) pos.line fe.env = pure false) rflA) : WS C led fe vs k (exec (.Assign [.Name x px] e pos) fe.env) Q := by
  intro F X hF hd A fz G s hA S
  refine wpAny_Assign_Name (chain (h F X hF hd A fz G s hA S) fun v1 s1 fz1 G1 d1 led1 l1 g1 e1 S1 h1 => ?_) hs
  exact chainU (h1 F X hF hd A fz1 G1 s1 v1 hA S1 e1) fun s2 fz2 G2 F2 vs2 led2 l2 g2 hF2 hd2 S2 q => ⟨fz2, G2, F2, vs2, led2, .next, l1.trans l2, g1.trans g2, trivial, hF2, hd2, S2, q⟩
theorem WS.aug {e : Expr} {op : Operator} {x : Str} {px pos : Pos} (h : WE C led fe vs k (loadName fe.env x) (KBin C fe vs k e (inplaceOp op) (KAsg C fe vs k x Q))) :
    WS C led fe vs k (exec (.AugAssign (.Name x px) op e pos) fe.env) Q := by
  intro F X hF hd A fz G s hA S
  refine wpAny_AugAssign_Name (chain (h F X hF hd A fz G s hA S) fun v1 s1 fz1 G1 d1 led1 l1 g1 e1 S1 h1 => ?_)
  refine chain (h1 F X hF hd A fz1 G1 s1 hA S1) fun v2 s2 fz2 G2 d2 led2 l2 g2 e2 S2 h2 => ?_
  refine chain (h2 _ A fz2 G2 s2 v1 v2 hA.r S2 (e1.mono l2) e2) fun v3 s3 fz3 G3 d3 led3 l3 g3 e3 S3 h3 => ?_
  exact chainU (h3 F X hF hd A fz3 G3 s3 v3 hA S3 e3) fun s4 fz4 G4 F4 vs4 led4 l4 g4 hF4 hd4 S4 q =>
    ⟨fz4, G4, F4, vs4, led4, .next, ((l1.trans l2).trans l3).trans l4, ((g1.trans g2).trans g3).trans g4, trivial, hF4, hd4, S4, q⟩

/-- a while loop by an invariant with a measure -/
theorem WS.while {test : Expr} {body : List Stmt} {pos : Pos} (I : Nat → Vars → Led → Prop) (n : Nat) (h0 : I n vs led)
    (turn : ∀ n vs led, I n vs led → WB C led fe vs k (isTrue test fe.env (eval test fe.env)) (KWh C fe vs k body I n Q)) :
    WS C led fe vs k (exec (.While test body [] pos) fe.env) Q := by
  intro F X hF hd A fz G s hA S
  refine wpAny_While (codeAny_whileLoop (fun n s' => ∃ fz' G' F' vs' led', FzLe fz fz' ∧ GExt G G' ∧ FOk fe vs' F' X ∧ Dj F' X ∧ St C fz' led' (Un F' X) G' s' ∧ I n vs' led') (fun n s1 hI => ?_) n ⟨fz, G, F, vs, led, .refl _, .refl _, hF, hd, S, h0⟩)
  obtain ⟨fz1, G1, F1, vs1, led1, l1, g1, hF1, hd1, S1, hI⟩ := hI
  refine chainB (turn n vs1 led1 hI F1 X hF1 hd1 A fz1 G1 s1 hA S1) fun b s2 fz2 G2 led2 l2 g2 S2 h2 => ?_
  cases b
  · exact wpAny_execs_nil ⟨fz2, G2, F1, vs1, led2, .next, l1.trans l2, g1.trans g2, trivial, hF1, hd1, S2, h2.2 rfl⟩
  · refine chainF (h2.1 rfl F1 X hF1 hd1 A fz2 G2 s2 hA S2) fun f s3 fz3 G3 F3 vs3 led3 fl l3 g3 e3 hF3 hd3 S3 h3 => ?_
    induction e3 using FlDen.E with
    | next => obtain ⟨m, vs4, hm, hs, q⟩ := h3; exact ⟨m, hm, fz3, G3, F3, vs4, led3, (l1.trans l2).trans l3, (g1.trans g2).trans g3, hF3.sub hs, hd3, S3, q⟩
    | cont => obtain ⟨m, vs4, hm, hs, q⟩ := h3; exact ⟨m, hm, fz3, G3, F3, vs4, led3, (l1.trans l2).trans l3, (g1.trans g2).trans g3, hF3.sub hs, hd3, S3, q⟩
    | brk => exact ⟨fz3, G3, F3, vs3, led3, .next, (l1.trans l2).trans l3, (g1.trans g2).trans g3, trivial, hF3, hd3, S3, h3⟩
    | ret v d e3 => exact ⟨fz3, G3, F3, vs3, led3, .ret d, (l1.trans l2).trans l3, (g1.trans g2).trans g3, e3, hF3, hd3, S3, h3⟩
end
end Sc

namespace Sc
set_option tactic.hygienic false

/-- a function of positional parameters alone -/
structure PosFn (fd : FuncData) (ns : List Str) (body : List Stmt) : Prop where
  po : fd.params.posonlyargs = []
  args : fd.params.args.map (·.arg) = ns
  va : fd.params.vararg = none
  ko : fd.params.kwonlyargs = []
  kd : fd.params.kw_defaults = []
  kwa : fd.params.kwarg = none
  nodup : ns.Nodup
  dfl : fd.defaults = .none
  body : fd.body = .stmts body
  co : fd.scope.isCoroutine = false

theorem zip_lookup : ∀ (ns : List Str) (vs : List Value), ns.Nodup → vs.length = ns.length → ∀ n ∈ ns, ∃ v, (ns.zip vs).lookup n = some v
  | [], _, _, _, n, h => by cases h
  | m :: ns, [], _, hl, n, h => by cases hl
  | m :: ns, v :: vs, hn, hl, n, h => by
    rw [List.zip_cons_cons, List.lookup_cons]
    by_cases e : n = m
    · subst e; rw [beq_self_eq_true]; exact ⟨v, rfl⟩
    · rw [beq_eq_false_iff_ne.mpr e]
      exact zip_lookup ns vs (List.nodup_cons.mp hn).2 (by simpa using hl) n ((List.mem_cons.mp h).resolve_left e)
theorem fm_congr {α β : Type} {f g : α → Option β} : ∀ {l : List α}, (∀ x ∈ l, f x = g x) → l.filterMap f = l.filterMap g
  | [], _ => rfl
  | x :: l, h => by rw [List.filterMap_cons, List.filterMap_cons, h x List.mem_cons_self, fm_congr fun y hy => h y (List.mem_cons_of_mem _ hy)]
theorem zip_filterMap : ∀ (ns : List Str) (vs : List Value), ns.Nodup → vs.length = ns.length → ns.filterMap (fun n => ((ns.zip vs).lookup n).map (n, ·)) = ns.zip vs
  | [], _, _, _ => rfl
  | m :: ns, [], _, hl => by cases hl
  | m :: ns, v :: vs, hn, hl => by
    have hx_0 := List.nodup_cons.mp hn; have hm := hx_0.1; have hn' := hx_0.2
    have ih := zip_filterMap ns vs hn' (by simpa using hl)
    rw [List.zip_cons_cons, List.filterMap_cons, List.lookup_cons, beq_self_eq_true]
    simp only [Option.map_some]
    congr 1
    rw [← ih]
    refine fm_congr fun n hn => ?_
    have e : (n == m) = false := beq_eq_false_iff_ne.mpr fun q => hm (q ▸ hn)
    rw [List.lookup_cons, e]
    simp only [ih]
theorem bindArgs_pos {fd : FuncData} {ns : List Str} {body : List Stmt} (h : PosFn fd ns body) (vs : List Value) (hl : vs.length = ns.length) : bindArgs fd ⟨vs, []⟩ = pure (ns.zip vs) := by
  have hm : (ns.filter fun n => ((ns.zip vs).lookup n).isNone) = [] := by
    rw [List.filter_eq_nil_iff]
    intro n hn
    obtain ⟨v, e⟩ := zip_lookup ns vs h.nodup hl n hn
    rw [e]; simp
  have hz := zip_filterMap ns vs h.nodup hl
  obtain ⟨name, qn, ⟨po, as, va, ko, kd, kwa, df⟩, bd, sc, gl, cl, dfl, kwd, doc, pm, an, co, ct, bi⟩ := fd
  obtain ⟨rfl, e, rfl, rfl, _, rfl, hn, rfl, _, _⟩ := h
  dsimp only at e
  subst e
  refine (if_neg (c := (decide (vs.length > (as.map (·.arg)).length) && true) = true) (by rw [hl]; simp)).trans ?_
  have e0 : ∀ k, ((none : Option (Array Value)).getD #[]).toList.drop k = [] := fun k => List.drop_nil
  have hd : (as.map (·.arg)).take ((as.map (·.arg)).length - ([] : List Value).length) = as.map (·.arg) := List.take_of_length_le (Nat.le_refl _)
  rw [e0]
  refine (if_neg (c := (!(((as.map (·.arg)).take ((as.map (·.arg)).length - ([] : List Value).length)).filter fun n => (((as.map (·.arg)).zip vs).lookup n).isNone).isEmpty) = true) (by rw [hd, hm]; simp)).trans ?_
  rw [List.zip_nil_right]
  show (pure ((as.map (fun x : Arg => x.arg) ++ []).filterMap fun n => (((as.map (fun x : Arg => x.arg)).zip vs).lookup n).map (n, ·)) : Sem (List (Str × Value))) = _
  rw [List.append_nil, hz]
theorem St.newF {C : Cx} {fz : Fz} {led F X : Led} {G : Array GenState} {s : Shared} (S : St C fz led (Un F X) G s) (hd : Dj F X) {a : Addr} (ha : s.heap.get? a = none) {m : M} {h' : Heap} (t : Nat)
    (hk : ∀ b o, s.heap.get? b = some o → h'.get? b = some o) (hm : MAt fz h' a m) : St C fz led (Un (upd F a m) X) G { s with heap := h', toks := t } ∧ Dj (upd F a m) X := by
  have hT := S.rel.freshT ha
  have hl : led a = none := (Un_none.mp hT).1
  have hX : X a = none := (Un_none.mp (Un_none.mp hT).2).2
  refine ⟨⟨?_, ?_⟩, hd.upd m hX⟩
  · rw [Un_upd]; exact (Dj.upd S.dj.symm m hl).symm
  · rw [Un_upd, Un_upd_r _ _ _ _ hl]
    exact S.rel.alloc ha t hk hm
theorem St.fresh {C : Cx} {fz : Fz} {led Y : Led} {G : Array GenState} {s : Shared} (S : St C fz led Y G s) {a : Addr} (ha : s.heap.get? a = none) : led a = none ∧ Y a = none := Un_none.mp (S.rel.freshT ha)

structure CloOk (cl : List (Str × Addr)) (Y : Led) (fv : Vars) : Prop where
  al : ∀ x c, cl.lookup x = some c → ∃ d, Y c = some (.cell d)
  inj : ∀ x y c, cl.lookup x = some c → cl.lookup y = some c → x = y
  fv : ∀ x d, fv.lookup x = some d → ∃ c, cl.lookup x = some c ∧ Y c = some (.cell (some d))

noncomputable def cellNames (sc : Scope) : List Str := (sc.names.filter (·.2 == .cell)).map (·.1)

structure CellsInv (cl acc : List (Str × Addr)) (seen : List Str) (F : Led) : Prop where
  from' : ∀ x c, acc.lookup x = some c → (∃ dd, F c = some (.cell dd)) ∨ cl.lookup x = some c
  inj : ∀ x y c, acc.lookup x = some c → acc.lookup y = some c → x = y
  other : ∀ x, x ∉ seen → acc.lookup x = cl.lookup x
  own : ∀ x, x ∈ seen → ∃ c, acc.lookup x = some c ∧ F c = some (.cell none)

theorem CellsInv.push {cl acc : List (Str × Addr)} {seen : List Str} {F : Led} {name : Str} {a : Addr} (i : CellsInv cl acc seen F) (hcl : ∀ x, cl.lookup x ≠ some a) (hF : F a = none) : CellsInv cl ((name, a) :: acc) (name :: seen) (upd F a (.cell none)) := by
  have keep : ∀ {c m}, F c = some m → upd F a (.cell none) c = some m := fun {c m} e => by rw [upd_ne _ _ (fun z => by subst z; rw [hF] at e; cases e)]; exact e
  have hno : ∀ x, acc.lookup x ≠ some a := fun x e => by
    rcases i.from' x _ e with ⟨dd, q⟩ | q
    · rw [hF] at q; cases q
    · exact hcl x q
  have key : ∀ x c, ((name, a) :: acc).lookup x = some c → (x = name ∧ c = a) ∨ acc.lookup x = some c := fun x c e => by
    rw [List.lookup_cons] at e
    cases hb : x == name with
    | true => rw [hb] at e; cases e; exact .inl ⟨beq_iff_eq.mp hb, rfl⟩
    | false => rw [hb] at e; exact .inr e
  refine ⟨fun x c e => ?_, fun x y c e1 e2 => ?_, fun x hx => ?_, fun x hx => ?_⟩
  · rcases key x c e with ⟨_, rfl⟩ | e
    · exact .inl ⟨none, upd_same ..⟩
    · rcases i.from' x c e with ⟨dd, q⟩ | q
      · exact .inl ⟨dd, keep q⟩
      · exact .inr q
  · rcases key x c e1 with ⟨rfl, rfl⟩ | z1 <;> rcases key y _ e2 with ⟨rfl, h⟩ | z2
    · rfl
    · exact absurd z2 (hno y)
    · subst h; exact absurd z1 (hno x)
    · exact i.inj x y c z1 z2
  · rw [List.lookup_cons, beq_eq_false_iff_ne.mpr (fun (z : x = name) => hx (by rw [z]; exact List.mem_cons_self))]
    exact i.other x fun q => hx (List.mem_cons_of_mem _ q)
  · rw [List.lookup_cons]
    cases hb : x == name with
    | true => exact ⟨_, rfl, upd_same ..⟩
    | false =>
      obtain ⟨c, q1, q2⟩ := i.own x ((List.mem_cons.mp hx).resolve_left (beq_eq_false_iff_ne.mp hb))
      exact ⟨c, q1, keep q2⟩
theorem lay_cells {M : Model} {A : Around} {E : Value → Shared → Prop} {C : Cx} {fz : Fz} {led X : Led} {G : Array GenState} {cl : List (Str × Addr)} {fv : Vars} (hc : CloOk cl X fv) {L : Addr} (f : Str × NameKind → List (Str × Addr) → Sem (ForInStep (List (Str × Addr))))
    (hf : ∀ name kind cells, f (name, kind) cells = if kind == .cell then (do let a ← alloc { cls := .type "cell", data := .cell none }; pure (.yield ((name, a) :: cells))) else pure (.yield cells)) (names : List (Str × NameKind)) :
    ∀ (acc : List (Str × Addr)) (seen : List Str) (F : Led) (s : Shared) (Q : List (Str × Addr) → Shared → Prop),
      CellsInv cl acc seen F → F L = some (.ns []) → Dj F X → St C fz led (Un F X) G s →
      (∀ acc' F' s', CellsInv cl acc' (((names.filter (·.2 == .cell)).map (·.1)).reverse ++ seen) F' → F' L = some (.ns []) → Dj F' X → St C fz led (Un F' X) G s' → Q acc' s') → wpAny M A (forIn names acc f) Q E s := by
  induction names with
  | nil => intro acc seen F s Q i hL hd S h; rw [List.forIn_nil]; exact wpAny_pure (h acc F s i hL hd S)
  | cons p r ih =>
    obtain ⟨name, kind⟩ := p
    intro acc seen F s Q i hL hd S h
    rw [List.forIn_cons, hf]
    cases hk : kind == .cell with
    | true =>
      rw [if_pos rfl]
      refine wpAny_bind (wpAny_bind (wpAny_alloc (wpAny_pure ?_)))
      have ha : s.heap.get? s.heap.objs.size = none := get_size _ (Nat.le_refl _)
      have N := S.newF hd ha (m := .cell none) (h' := s.heap.push { cls := .type "cell", data := .cell none }) s.toks (fun b o e => Heap.get?_push_of_some _ e) ⟨none, Heap.get?_push_size _ rfl, trivial⟩
      have hfr := Un_none.mp (S.fresh ha).2
      refine ih _ (name :: seen) _ _ Q (i.push (fun x q => ?_) hfr.1) ?_ N.2 N.1 fun acc' F' s' i' => h acc' F' s' ?_
      · obtain ⟨d, q⟩ := hc.al x _ q; rw [hfr.2] at q; cases q
      · rw [upd_ne _ _ (fun z => by subst z; rw [hfr.1] at hL; cases hL)]; exact hL
      · rw [List.filter_cons_of_pos (p := fun x : Str × NameKind => x.2 == .cell) (a := (name, kind)) hk, List.map_cons, List.reverse_cons, List.append_assoc]; exact i'
    | false =>
      rw [if_neg Bool.false_ne_true]
      refine wpAny_bind (wpAny_pure (ih acc seen F s Q i hL hd S fun acc' F' s' i' => h acc' F' s' ?_))
      rw [List.filter_cons_of_neg (p := fun x : Str × NameKind => x.2 == .cell) (a := (name, kind)) (by rw [show ((name, kind).2 == NameKind.cell) = false from hk]; exact Bool.false_ne_true)]; exact i'

section
variable {C : Cx} {led : Led} {fe : Fe} {vs : Vars} {k : Nat}
/-- a store into a name of the frame's own -/
theorem WU.store {x : Str} {d : D} {Q : Vars → Led → Prop} (hk : fe.env.kindOf x = some .local ∨ (fe.env.kindOf x = some .cell ∧ x ∈ fe.ow)) (h : Q (vset vs x d) led) : WU C led fe vs k (storeName fe.env x) d Q := by
  rcases hk with hk | ⟨hk, hx⟩
  · exact WU.store_local hk h
  · exact WU.store_cell hk hx h
end

noncomputable def bindv (vs : Vars) : List (Str × D) → Vars
  | [] => vs
  | (x, d) :: r => bindv (vset vs x d) r

theorem bind_params {C : Cx} {led X : Led} {fe : Fe} {A : Around} (hA : RoomF 0 A fe X) (f : Str × Value → PUnit → Sem (ForInStep PUnit)) (hf : ∀ n v u, f (n, v) u = (do storeName fe.env n v; pure (.yield ⟨⟩))) :
    ∀ (ns : List Str) (vals : List Value) (ds : List D) (vs : Vars) (F : Led) (fz : Fz) (G : Array GenState) (s : Shared) (Q : PUnit → Shared → Prop), Dens fz vals ds → FOk fe vs F X → Dj F X → St C fz led (Un F X) G s →
      (∀ x ∈ ns, fe.env.kindOf x = some .local ∨ (fe.env.kindOf x = some .cell ∧ x ∈ fe.ow)) →
      (∀ fz' G' F' s', FzLe fz fz' → GExt G G' → FOk fe (bindv vs (ns.zip ds)) F' X → Dj F' X → St C fz' led (Un F' X) G' s' → Q ⟨⟩ s') → wpAny (model C.prog C.w) A (forIn (ns.zip vals) ⟨⟩ f) Q No s := by
  intro ns
  induction ns with
  | nil => intro vals ds vs F fz G s Q hv hF hd S hk h; rw [List.zip_nil_left, List.forIn_nil]; rw [List.zip_nil_left] at h; exact wpAny_pure (h fz G F s (.refl _) (.refl _) hF hd S)
  | cons n ns ih =>
    intro vals ds vs F fz G s Q hv hF hd S hk h
    cases ds with
    | nil =>
      obtain rfl := hv.inv
      rw [List.zip_nil_right, List.forIn_nil]; rw [List.zip_nil_right] at h; exact wpAny_pure (h fz G F s (.refl _) (.refl _) hF hd S)
    | cons d ds =>
      obtain ⟨v, vals, hv1, hvs, rfl⟩ := hv.inv
      rw [List.zip_cons_cons, List.forIn_cons, hf]
      refine wpAny_bind (wpAny_bind (chainU (WU.store (Q := fun vs' led' => vs' = vset vs n d ∧ led' = led) (hk n List.mem_cons_self) ⟨rfl, rfl⟩ F X hF hd A fz G s v hA S hv1) fun s1 fz1 G1 F1 vs1 led1 l1 g1 hF1 hd1 S1 q => wpAny_pure ?_))
      obtain ⟨rfl, rfl⟩ := q
      exact ih vals ds _ _ fz1 G1 _ Q (hvs.mono l1) hF1 hd1 S1 (fun x hx => hk x (List.mem_cons_of_mem _ hx)) fun fz' G' F' s' a b => h fz' G' F' s' (l1.trans a) (g1.trans b)

theorem FOk.first {env : Env} {scope : Scope} {L : Addr} {cs cl : List (Str × Addr)} {fv : Vars} {F X : Led} (e1 : env.scope = scope) (e2 : env.locals = L) (e3 : env.globals = mainGlobals) (e4 : env.cells = cs) (e5 : env.builtins = builtinsNs)
    (hk : scope.kind = .function) (hL : F L = some (.ns [])) (hc : CloOk cl X fv) (hd : Dj F X) (hfv : ∀ x d, fv.lookup x = some d → scope.names.lookup x ≠ some .local ∧ x ∉ cellNames scope) (i : CellsInv cl cs (cellNames scope).reverse F) : FOk ⟨env, cellNames scope⟩ fv F X := by
  subst e1 e2 e4
  exact {
    fn := hk
    glob := e3
    blt := e5
    loc := ⟨[], hL, fun x d e q => absurd q (hfv x d e).1⟩
    cel := fun x d e _ => by
      obtain ⟨c, q1, q2⟩ := hc.fv x d e
      exact ⟨c, (i.other x (fun z => (hfv x d e).2 (List.mem_reverse.mp z))).trans q1, by rw [Un_right]; exact q2; exact (hd c).resolve_right (by rw [q2]; exact Option.some_ne_none _)⟩
    own := fun x hx => by
      obtain ⟨c, q1, q2⟩ := i.own x (List.mem_reverse.mpr hx)
      exact ⟨c, none, q1, q2⟩
    inj := i.inj }
/-- a new frame -/
theorem new_env {C : Cx} {fz : Fz} {led X : Led} {G : Array GenState} {A : Around} {s : Shared} (hA : RoomY 0 A X) {scope : Scope} {cl : List (Str × Addr)} {fv : Vars} {ns : List Str} {vals : List Value} {ds : List D} {qual : Str}
    {func : Option Addr} {code : Value} {around : Option Env} {bi : Addr} {Q : Env → Shared → Prop}
    (hk : scope.kind = .function) (hc : CloOk cl X fv) (hv : Dens fz vals ds) (S : St C fz led X G s) (hb : around.elim bi (·.builtins) = builtinsNs)
    (hkind : ∀ x ∈ ns, scope.names.lookup x = some .local ∨ (scope.names.lookup x = some .cell ∧ x ∈ cellNames scope))
    (hfv : ∀ x d, fv.lookup x = some d → scope.names.lookup x ≠ some .local ∧ x ∉ cellNames scope)
    (hQ : ∀ L cs fz' G' F s', FzLe fz fz' → GExt G G' → (∀ x, x ∉ cellNames scope → cs.lookup x = cl.lookup x) →
      FOk ⟨newEnv scope L mainGlobals cs qual func code around bi, cellNames scope⟩ (bindv fv (ns.zip ds)) F X → Dj F X → St C fz' led (Un F X) G' s' → Q (newEnv scope L mainGlobals cs qual func code around bi) s') :
    wpAny (model C.prog C.w) A (newFunctionEnv scope mainGlobals cl (ns.zip vals) qual func code around bi) Q No s := by
  have ha : s.heap.get? s.heap.objs.size = none := get_size _ (Nat.le_refl _)
  have key : ∀ cls : Value, (newEnv scope s.heap.objs.size mainGlobals cl qual func code around bi).builtins = builtinsNs := fun _ => by
    cases around <;> exact hb
  have go : ∀ cls : Value, wpAny (model C.prog C.w) A (do
      let locals ← alloc { cls := cls, data := .dict #[] }
      let mut cells := cl
      for (name, kind) in scope.names do
        if kind == .cell then cells := (name, ← alloc { cls := .type "cell", data := .cell none }) :: cells
      for (name, v) in ns.zip vals do storeName (newEnv scope locals mainGlobals cells qual func code around bi) name v
      return newEnv scope locals mainGlobals cells qual func code around bi) Q No s := by
    intro cls
    refine wpAny_bind (wpAny_alloc ?_)
    obtain ⟨S', hd'⟩ := (show St C fz led (Un emp X) G s from by rw [Un_emp]; exact S).newF (Dj.emp X) ha (m := .ns []) (h' := s.heap.push { cls := cls, data := .dict #[] }) s.toks (fun b o e => Heap.get?_push_of_some _ e)
      ⟨_, Heap.Ns.new s.heap cls, fun x e he => by cases he⟩
    refine wpAny_bind (lay_cells hc (L := s.heap.objs.size) _ (fun name kind cells => by cases hkc : kind == NameKind.cell <;> simp [hkc]) scope.names cl [] _ _ _
      ⟨fun x c e => .inr e, hc.inj, fun x _ => rfl, fun x hx => nomatch hx⟩ (upd_same ..) hd' S' fun acc F s1 i hL hd1 S1 => ?_)
    rw [List.append_nil] at i
    have hF0 : FOk ⟨newEnv scope s.heap.objs.size mainGlobals acc qual func code around bi, cellNames scope⟩ fv F X :=
      FOk.first (L := s.heap.objs.size) (cs := acc) (by cases around <;> rfl) (by cases around <;> rfl) (by cases around <;> rfl) (by cases around <;> rfl) (by cases around <;> exact hb) hk hL hc hd1 hfv i
    refine wpAny_bind (bind_params (fe := ⟨newEnv scope s.heap.objs.size mainGlobals acc qual func code around bi, cellNames scope⟩) (hA.toF _) _ (fun _ _ _ => rfl) ns vals ds fv F fz G s1 _ hv hF0 hd1 S1 ?_ fun fz' G' F' s' a b hF1 hd2 S2 => wpAny_pure ?_)
    · intro x hx
      rcases hkind x hx with q | q
      · exact .inl (by cases around <;> exact q)
      · exact .inr ⟨by cases around <;> exact q.1, q.2⟩
    · exact hQ _ acc fz' G' F' s' a b (fun x hx => i.other x fun z => hx (List.mem_reverse.mp z)) hF1 hd2 S2
  cases around with
  | none => exact go (.type "frame")
  | some o => exact go (.type "dict")
end Sc

namespace Sc
set_option tactic.hygienic false

theorem St.drop {C : Cx} {fz : Fz} {led F X : Led} {G : Array GenState} {s : Shared} (S : St C fz led (Un F X) G s) (hd : Dj F X) : St C fz led X G s := by
  refine ⟨S.dj.right, S.rel.forget fun a m e => ?_⟩
  cases hl : led a with
  | some m' => rw [Un_left hl] at e ⊢; exact e
  | none =>
    rw [Un_right hl] at e ⊢
    rw [Un_right ((hd a).resolve_right (by rw [e]; exact Option.some_ne_none _))]; exact e

noncomputable def Callable (C : Cx) (Y led : Led) (a : Addr) (fd : FuncData) : Prop :=
  ∀ fz G s, St C fz led Y G s → ∃ o, s.heap.get? a = some o ∧ o.data = .func fd ∧ s.heap.CodeRec fd.code fd.qualname
theorem FCode.rec {C : Cx} {fz : Fz} {led Y : Led} {G : Array GenState} {s : Shared} (S : St C fz led Y G s) {v : Value} {q : Str} (x : FCode fz v q) : s.heap.CodeRec v q :=
  let ⟨c, o, vs, t, e, h, r⟩ := x; ⟨c, o, vs, t, e, S.rel.fzIn _ _ h, r⟩
theorem Callable.led {C : Cx} {Y led : Led} {a : Addr} {dict : Option Addr} {fd : FuncData} (h : led a = some (.fn dict fd)) : Callable C Y led a fd := fun fz G s S =>
  let ⟨x, y⟩ := S.atL h; ⟨_, x, rfl, y.rec S⟩
theorem Callable.glob {C : Cx} {Y led : Led} {a : Addr} {o : Obj} {fd : FuncData} (h : C.h₀.get? a = some o) (hd : o.data = .func fd) (hc : C.h₀.CodeRec fd.code fd.qualname) (ha : ¬ C.tab a) (hcd : ∀ c, fd.code = .ref c → ¬ C.tab c) :
    Callable C Y led a fd := fun fz G s S => by
  obtain ⟨c, oc, vs, t, e, g, r⟩ := hc
  exact ⟨o, S.base _ _ h ha, hd, c, oc, vs, t, e, S.base _ _ g (hcd c e), r⟩

theorem CallW.mono {C : Cx} {Y led : Led} {k : Nat} {f : D} {ds : List D} {Q Q' : D → Led → Prop} (h : CallW C Y led k f ds Q) (i : ∀ d led, Q d led → Q' d led) : CallW C Y led k f ds Q' :=
  fun A fz G s fv vs hA S e1 e2 => wpAny_mono (h A fz G s fv vs hA S e1 e2) (fun _ _ p => p.mono i) fun _ _ x => x
theorem CallW.up {C : Cx} {Y led : Led} {k k' : Nat} {f : D} {ds : List D} {Q : D → Led → Prop} (h : CallW C Y led k f ds Q) (i : k ≤ k') : CallW C Y led k' f ds Q :=
  fun A fz G s fv vs hA S e1 e2 => h A fz G s fv vs (hA.mono i) S e1 e2

/-- what a def gives back -/
noncomputable abbrev Back (Q : D → Led → Prop) : Fl → Vars → Led → Prop := fun fl _ led' => match fl with
  | .ret d => Q d led'
  | .next => Q .none led'
  | _ => False

/-- a call's code -/
noncomputable def CodeW (C : Cx) (Y led : Led) (k : Nat) (f : D) (ds : List D) (Q : D → Led → Prop) : Prop :=
  ∀ A fz G s fv vs, RoomY k A Y → St C fz led Y G s → Den fz fv f → Dens fz vs ds → codeAny (model C.prog C.w) A (.call fv ⟨vs, []⟩) (fun r s' => match r with | .ok (.ret v) => Pst C fz Y G Q v s' | .ok _ => False | .error e => No e s') s
theorem CodeW.call {C : Cx} {Y led : Led} {k : Nat} {f : D} {ds : List D} {Q : D → Led → Prop} (h : CodeW C Y led k f ds Q) : CallW C Y led k f ds Q :=
  fun A fz G s fv vs hA S e1 e2 => wpAny_call (h A fz G s fv vs hA S e1 e2)
/-- what a def made in a def is -/
structure FnIs (fd : FuncData) (args : Arguments) (body : FuncBody) (scope : Scope) (cl : List (Str × Addr)) : Prop where
  params : fd.params = args
  body : fd.body = body
  scope : fd.scope = scope
  globals : fd.globals = mainGlobals
  closure : fd.closure = cl
  builtins : fd.builtins = builtinsNs
  dfl : fd.defaults = .none
noncomputable def fnEnv (scope : Scope) (L : Addr) (cs : List (Str × Addr)) (q : Str) (a : Addr) (code : Value) : Env := newEnv scope L mainGlobals cs q (some a) code none builtinsNs
noncomputable def fnFe (scope : Scope) (L : Addr) (cs : List (Str × Addr)) (q : Str) (a : Addr) (code : Value) : Fe := ⟨fnEnv scope L cs q a code, cellNames scope⟩

noncomputable def argsOkB (g : Bool) (args : Arguments) (ns : List Str) (scope : Scope) : Bool :=
  args.posonlyargs.isEmpty && args.args.map (·.arg) == ns && args.vararg.isNone && args.kwonlyargs.isEmpty && args.kw_defaults.isEmpty && args.kwarg.isNone && decide ns.Nodup && !scope.isCoroutine && scope.isGenerator == g && decide (scope.kind = .function) &&
    ns.all fun x => scope.names.lookup x == some .local || (scope.names.lookup x == some .cell && (cellNames scope).contains x)
noncomputable abbrev argsOk' := argsOkB false
theorem bindv_lookup : ∀ (r : List (Str × D)) (vs : Vars) (x : Str), (r.map (·.1)).Nodup → (bindv vs r).lookup x = (r.lookup x).or (vs.lookup x)
  | [], vs, x, _ => rfl
  | (y, e) :: r, vs, x, h => by
    have hx_1 := List.nodup_cons.mp h; have h1 := hx_1.1; have h2 := hx_1.2
    show (bindv ((y, e) :: vs) r).lookup x = _
    rw [bindv_lookup r _ x h2, List.lookup_cons, List.lookup_cons]
    by_cases hx : x = y
    · subst hx
      have hn : r.lookup x = none := by
        cases q : r.lookup x with
        | none => rfl
        | some d => exact absurd (List.mem_map.mpr ⟨_, mem_of_lookup q, rfl⟩) h1
      rw [hn, beq_self_eq_true]; rfl
    · rw [beq_eq_false_iff_ne.mpr hx]
theorem zip_self : ∀ vs : Vars, (vs.map (·.1)).zip (vs.map (·.2)) = vs
  | [] => rfl
  | p :: r => by rw [List.map_cons, List.map_cons, List.zip_cons_cons, zip_self r]
theorem FOk.vars {fe : Fe} {vs vs' : Vars} {F X : Led} (h : FOk fe vs F X) (i : ∀ x, vs'.lookup x = vs.lookup x) : FOk fe vs' F X where
  fn := h.fn
  glob := h.glob
  blt := h.blt
  loc := let ⟨m, a, b⟩ := h.loc; ⟨m, a, fun x d e q => b x d (by rw [← i]; exact e) q⟩
  cel := fun x d e q => h.cel x d (by rw [← i]; exact e) q
  own := h.own
  inj := h.inj
theorem FOk.toNil {fe : Fe} {vs : Vars} {F X : Led} (h : FOk fe (vs ++ []) F X) : FOk fe vs F X := by rw [List.append_nil] at h; exact h
theorem CloOk.nil {Y : Led} : CloOk [] Y [] := ⟨(fun _ _ e => by cases e), (fun _ _ _ e => by cases e), fun _ _ e => by cases e⟩
/-- a statement of a def's own level: the frame on top is its own -/
noncomputable def WT (C : Cx) (led : Led) (fe : Fe) (vs : Vars) (k : Nat) (t : Sem Flow) (Q : Fl → Vars → Led → Prop) : Prop :=
  ∀ F X, FOk fe vs F X → Dj F X → ∀ A fz G s, RoomF k A fe X → (∃ l, A.frames = some (fe.env :: l)) → St C fz led (Un F X) G s → wpAny (model C.prog C.w) A t (Psf C fz X fe G Q) No s
theorem WS.t {C : Cx} {led : Led} {fe : Fe} {vs : Vars} {k : Nat} {Q : Fl → Vars → Led → Prop} {t : Sem Flow} (h : WS C led fe vs k t Q) : WT C led fe vs k t Q := fun F X hF hd A fz G s hA _ S => h F X hF hd A fz G s hA S
theorem argsOkB.spec {g : Bool} {args : Arguments} {ns : List Str} {scope : Scope} (h : argsOkB g args ns scope = true) {fd : FuncData} {body : List Stmt} {cl : List (Str × Addr)} (hi : FnIs fd args (.stmts body) scope cl) :
    PosFn fd ns body ∧ fd.scope.isGenerator = g ∧ fd.scope.kind = .function ∧ ∀ x ∈ ns, fd.scope.names.lookup x = some .local ∨ (fd.scope.names.lookup x = some .cell ∧ x ∈ cellNames fd.scope) := by
  simp only [argsOkB, Bool.and_eq_true, List.isEmpty_iff, beq_iff_eq, Option.isNone_iff_eq_none, decide_eq_true_eq, Bool.not_eq_true', List.all_eq_true, Bool.or_eq_true, List.contains_iff_mem] at h
  rw [← hi.params, ← hi.scope] at h
  have h1 := h.1.1.1; have h2 := h1.1.1.1
  exact ⟨⟨h2.1.1.1.1, h2.1.1.1.2, h2.1.1.2, h2.1.2, h2.2, h1.1.1.2, h1.1.2, hi.dfl, hi.body, h1.2⟩, h.1.1.2, h.1.2, h.2⟩
/-- a call's frame -/
theorem new_frame {C : Cx} {Y led : Led} {fz : Fz} {G : Array GenState} {A : Around} {s : Shared} {fd : FuncData} {args : Arguments} {body : List Stmt} {scope : Scope} {cl : List (Str × Addr)} {vs fv : Vars} {vals : List Value} {Q : Env → Shared → Prop}
    {E : Value → Shared → Prop} {a : Addr} (hi : FnIs fd args (.stmts body) scope cl) (hp : PosFn fd (vs.map (·.1)) body) (hkd : fd.scope.kind = .function) (hkind : ∀ x ∈ vs.map (·.1), fd.scope.names.lookup x = some .local ∨ (fd.scope.names.lookup x = some .cell ∧ x ∈ cellNames fd.scope))
    (hc : CloOk cl Y fv) (hfvs : (fv.all fun p => (scope.names.lookup p.1 == some .free) && !(cellNames scope).contains p.1) = true) (hA : RoomY 0 A Y) (e2 : Dens fz vals (vs.map (·.2))) (S : St C fz led Y G s)
    (hQ : ∀ L cs fz1 G1 F s1, FzLe fz fz1 → GExt G G1 → (∀ x, x ∉ cellNames scope → cs.lookup x = cl.lookup x) → FOk (fnFe scope L cs (fd.qualname ++ ".<locals>.") a fd.code) (vs ++ fv) F Y → Dj F Y → St C fz1 led (Un F Y) G1 s1 →
      Q (fnFe scope L cs (fd.qualname ++ ".<locals>.") a fd.code).env s1) :
    wpAny (model C.prog C.w) A (bindArgs fd ⟨vals, []⟩) (fun binds s₁ => wpAny (model C.prog C.w) A (newFunctionEnv fd.scope fd.globals fd.closure binds (fd.qualname ++ ".<locals>.") (some a) fd.code none fd.builtins) Q E s₁) E s := by
  obtain ⟨_, _, rfl, hgl, rfl, hbi, _⟩ := hi
  rw [bindArgs_pos hp vals (by rw [e2.length, List.length_map, List.length_map])]
  refine wpAny_pure ?_
  rw [hgl, hbi]
  refine wpAny_mono (new_env (around := none) hA hkd hc e2 S rfl hkind (fun x d e => ?_) fun L cs fz1 G1 F s1 l1 g1 hcs hF hd S1 => hQ L cs fz1 G1 F s1 l1 g1 hcs (hF.vars fun x => ?_) hd S1) (fun _ _ x => x) fun _ _ x => x.elim
  · have := List.all_eq_true.mp hfvs _ (mem_of_lookup e)
    simp only [Bool.and_eq_true, beq_iff_eq, Bool.not_eq_true', List.contains_eq_mem, decide_eq_false_iff_not] at this
    exact ⟨(by rw [this.1]; intro z; cases z), this.2⟩
  · rw [zip_self, bindv_lookup _ _ _ hp.nodup, List.lookup_append]
/-- a def's call -/
theorem CodeW.of {C : Cx} {Y led : Led} {k : Nat} {a : Addr} {fd : FuncData} {args : Arguments} {body : List Stmt} {scope : Scope} {cl : List (Str × Addr)} {ds : List D} {Q : D → Led → Prop} {R : List (Str × Addr) → Fl → Vars → Led → Prop} (hcall : Callable C Y led a fd) (hi : FnIs fd args (.stmts body) scope cl)
    {vs : Vars} (hok : argsOk' args (vs.map (·.1)) scope = true) (hds : ds = vs.map (·.2)) {fv : Vars} (hc : CloOk cl Y fv) (hfvs : (fv.all fun p => (scope.names.lookup p.1 == some .free) && !(cellNames scope).contains p.1) = true)
    (h : ∀ L cs, (∀ x, x ∉ cellNames scope → cs.lookup x = cl.lookup x) → WT C led (fnFe scope L cs (fd.qualname ++ ".<locals>.") a fd.code) (vs ++ fv) k (execs body (fnFe scope L cs (fd.qualname ++ ".<locals>.") a fd.code).env) (R cs))
    (fin : ∀ L cs F vs2 led2 fz2 G2 s2 fl, FOk (fnFe scope L cs (fd.qualname ++ ".<locals>.") a fd.code) vs2 F Y → Dj F Y → St C fz2 led2 (Un F Y) G2 s2 → R cs fl vs2 led2 → Back (fun d _ => ∃ led3, St C fz2 led3 Y G2 s2 ∧ Q d led3) fl vs2 led2) :
    CodeW C Y led (k + 1) (.ref a) ds Q := by
  intro A fz G s fv' vals hA S e1 e2
  induction e1 using Den.refE
  subst hds
  obtain ⟨o, ho, hod, hcr⟩ := hcall fz G s S
  have P := argsOkB.spec hok hi; have hp := P.1
  have hA0 : RoomY 0 A.in1 Y := (hA.mono (Nat.le_add_left 1 k)).in1
  refine codeAny_call_function (Nat.lt_of_le_of_lt (Nat.le_add_right _ _) hA.r.2.1) ho hod hp.co P.2.1 hp.body hcr (new_frame hi hp P.2.2.1 P.2.2.2 hc hfvs hA0 e2 S fun L cs fz1 G1 F s1 l1 g1 hcs hF hd S1 => ⟨S1.nolimit, codeAny_func ?_⟩)
  have hA1 : RoomF k (A.deeper (fnFe scope L cs (fd.qualname ++ ".<locals>.") a fd.code).env) (fnFe scope L cs (fd.qualname ++ ".<locals>.") a fd.code) Y := hA.deeper (hi.scope ▸ P.2.2.1) rfl
  have hfr : ∃ l, (A.deeper (fnFe scope L cs (fd.qualname ++ ".<locals>.") a fd.code).env).frames = some ((fnFe scope L cs (fd.qualname ++ ".<locals>.") a fd.code).env :: l) := by
    obtain ⟨l, e, _⟩ := hA.fr
    exact ⟨l, by show A.frames.map _ = _; rw [e]; rfl⟩
  refine chainF (h L cs hcs F Y hF hd _ fz1 G1 s1 hA1 hfr S1) fun f s2 fz2 G2 F2 vs2 led2 fl l2 g2 e3 hF2 hd2 S2 q => ?_
  have r := fin L cs F2 vs2 led2 fz2 G2 s2 fl hF2 hd2 S2 q
  induction e3 using FlDen.E with
  | ret v d e3 => obtain ⟨led3, S3, q3⟩ := r; exact ⟨fz2, G2, d, led3, l1.trans l2, g1.trans g2, e3, S3, q3⟩
  | next => obtain ⟨led3, S3, q3⟩ := r; exact ⟨fz2, G2, .none, led3, l1.trans l2, g1.trans g2, .none, S3, q3⟩
  | _ => exact r.elim
theorem Back.mono {Q Q' : D → Led → Prop} {led : Led} {vs : Vars} (i : ∀ d, Q d led → Q' d led) : ∀ {fl : Fl}, Back Q fl vs led → Back Q' fl vs led
  | .ret d, h => i d h
  | .next, h => i .none h
  | .brk, h => h
  | .cont, h => h
theorem CodeW.ofT {C : Cx} {Y led : Led} {k : Nat} {a : Addr} {fd : FuncData} {args : Arguments} {body : List Stmt} {scope : Scope} {cl : List (Str × Addr)} {ds : List D} {Q : D → Led → Prop} (hcall : Callable C Y led a fd) (hi : FnIs fd args (.stmts body) scope cl)
    {vs : Vars} (hok : argsOk' args (vs.map (·.1)) scope = true) (hds : ds = vs.map (·.2)) {fv : Vars} (hc : CloOk cl Y fv) (hfvs : (fv.all fun p => (scope.names.lookup p.1 == some .free) && !(cellNames scope).contains p.1) = true)
    (h : ∀ L cs, (∀ x, x ∉ cellNames scope → cs.lookup x = cl.lookup x) → WT C led (fnFe scope L cs (fd.qualname ++ ".<locals>.") a fd.code) (vs ++ fv) k (execs body (fnFe scope L cs (fd.qualname ++ ".<locals>.") a fd.code).env) (Back Q)) :
    CodeW C Y led (k + 1) (.ref a) ds Q :=
  CodeW.of (R := fun _ => Back Q) hcall hi hok hds hc hfvs h fun _ _ _ _ _ _ _ _ _ _ hd S q => q.mono fun _ q => ⟨_, S.drop hd, q⟩
end Sc

namespace Sc
set_option tactic.hygienic false

noncomputable abbrev KL2 (Q : List D → Led → Prop) (d : D) : List D → Led → Prop := fun ds led2 => Q (d :: ds) led2
noncomputable abbrev KL (C : Cx) (fe : Fe) (vs : Vars) (k : Nat) (pos : Pos) (rest : List Expr) (Q : List D → Led → Prop) : D → Led → Prop := fun d led1 => WL C led1 fe vs k (spliced (backTo pos (starEach rest fe.env))) (KL2 Q d)
structure KTup (Q : D → Led → Prop) (ds : List D) (led1 : Led) : Prop where
  l : ds.length ≤ 1000000
  q : Q (.tup ds) led1
structure KLst (Q : D → Led → Prop) (ds : List D) (led1 : Led) : Prop where
  l : ds.length ≤ 1000000
  q : Q (.lst ds) led1
structure KLstM (Q : D → Led → Prop) (ds : List D) (led1 : Led) : Prop where
  l : ds.length ≤ 1000000
  q : ∀ a, led1 a = none → Q (.ref a) (upd led1 a (.list ds))
section
variable {C : Cx} {led : Led} {fe : Fe} {vs : Vars} {k : Nat}

/-! arguments -/
theorem WL.nil {pos : Pos} {Q : List D → Led → Prop} (h : Q [] led) : WL C led fe vs k (spliced (backTo pos (starEach [] fe.env))) Q :=
  fun F X hF hd A fz G s hA S => wpAny_items_nil ⟨fz, G, [], led, .refl _, .refl _, .nil, S, h⟩
theorem WL.cons {pos : Pos} {e : Expr} {rest : List Expr} {Q : List D → Led → Prop}
    (h : WE C led fe vs k (eval e fe.env) (KL C fe vs k pos rest Q))
    (he : autoParam (starEach (e :: rest) fe.env = (false, eval e fe.env) :: starEach rest fe.env) rflA) : WL C led fe vs k (spliced (backTo pos (starEach (e :: rest) fe.env))) Q := by
  intro F X hF hd A fz G s hA S
  refine wpAny_items_cons (chain (h F X hF hd A fz G s hA S) fun v1 s1 fz1 G1 d1 led1 l1 g1 e1 S1 h1 => ?_) he
  exact chainL (h1 F X hF hd A fz1 G1 s1 hA S1) fun vs2 s2 fz2 G2 ds2 led2 l2 g2 e2 S2 h2 => ⟨fz2, G2, _, led2, l1.trans l2, g1.trans g2, .cons (e1.mono l2) e2, S2, h2⟩

/-! displays -/
theorem WE.tuple {elts : List Expr} {kk : Nat} {pos : Pos} {Q : D → Led → Prop}
    (h : WL C led fe vs k (spliced (backTo pos (starEach elts fe.env))) (KTup Q)) : WE C led fe vs k (eval (.Tuple elts kk pos) fe.env) Q := by
  intro F X hF hd A fz G s hA S
  refine wpAny_Tuple (chainL (h F X hF hd A fz G s hA S) fun vs1 s1 fz1 G1 ds led1 l1 g1 e1 S1 h1 => ⟨by rw [e1.length]; exact Nat.le_trans h1.1 (by decide), ?_⟩)
  have ha := get_size s1.heap (Nat.le_refl _)
  have hz := S1.rel.freshF ha
  exact ⟨_, G1, .tup ds, led1, l1.trans (fzPut_le hz), g1, .tup (n := 0) (fzPut_same ..) rfl rfl (e1.mono (fzPut_le hz)),
    ⟨S1.dj, S1.rel.allocF ha s1.toks (fun b o e => Heap.get?_push_of_some _ e) (Heap.get?_push_size _ rfl)⟩, h1.2⟩
/-- a list display that is never written -/
theorem WE.list {elts : List Expr} {pos : Pos} {Q : D → Led → Prop}
    (h : WL C led fe vs k (spliced (backTo pos (starEach elts fe.env))) (KLst Q)) : WE C led fe vs k (eval (.List elts pos) fe.env) Q := by
  intro F X hF hd A fz G s hA S
  refine wpAny_List (chainL (h F X hF hd A fz G s hA S) fun vs1 s1 fz1 G1 ds led1 l1 g1 e1 S1 h1 => ⟨by rw [e1.length]; exact Nat.le_trans h1.1 (by decide), ?_⟩)
  have ha := get_size s1.heap (Nat.le_refl _)
  have hz := S1.rel.freshF ha
  exact ⟨_, G1, .lst ds, led1, l1.trans (fzPut_le hz), g1, .lst (n := 0) (fzPut_same ..) (e1.mono (fzPut_le hz)),
    ⟨S1.dj, S1.rel.allocF ha s1.toks (fun b o e => Heap.get?_push_of_some _ e) (Heap.get?_push_size _ rfl)⟩, h1.2⟩
theorem St.newL {fz : Fz} {Y : Led} {G : Array GenState} {s : Shared} (S : St C fz led Y G s) {a : Addr} (ha : s.heap.get? a = none) {m : M} {h' : Heap} (t : Nat)
    (hk : ∀ b o, s.heap.get? b = some o → h'.get? b = some o) (hm : MAt fz h' a m) : St C fz (upd led a m) Y G { s with heap := h', toks := t } := by
  refine ⟨S.dj.upd m (S.fresh ha).2, ?_⟩
  rw [Un_upd]; exact S.rel.alloc ha t hk hm
/-- a list display that may be written -/
theorem WE.listM {elts : List Expr} {pos : Pos} {Q : D → Led → Prop}
    (h : WL C led fe vs k (spliced (backTo pos (starEach elts fe.env))) (KLstM Q)) : WE C led fe vs k (eval (.List elts pos) fe.env) Q := by
  intro F X hF hd A fz G s hA S
  refine wpAny_List (chainL (h F X hF hd A fz G s hA S) fun vs1 s1 fz1 G1 ds led1 l1 g1 e1 S1 h1 => ⟨by rw [e1.length]; exact Nat.le_trans h1.1 (by decide), ?_⟩)
  have ha := get_size s1.heap (Nat.le_refl _)
  exact ⟨fz1, G1, .ref _, _, l1, g1, .ref _, S1.newL ha (m := .list ds) s1.toks (fun b o e => Heap.get?_push_of_some _ e) ⟨vs1, 0, Heap.get?_push_size _ rfl, e1⟩, h1.2 _ (S1.fresh ha).1⟩

/-! calls -/
/-- the callee is looked at -/
noncomputable def KeepOk (C : Cx) (Y led : Led) (f : D) : Prop :=
  ∀ A fz G s v (Q : Keeper → Shared → Prop), St C fz led Y G s → Den fz v f → (∀ b, Q b s) → wpAny (model C.prog C.w) A (keeperOf v) Q No s
structure KCal (C : Cx) (Y led : Led) (k : Nat) (f : D) (ds : List D) (Q : D → Led → Prop) : Prop where
  keep : KeepOk C Y led f
  call : CallW C Y led k f ds Q
noncomputable abbrev KCall2 (C : Cx) (k : Nat) (Q : D → Led → Prop) (f : D) : List D → Led → Prop := fun ds led2 => ∀ Y, KCal C Y led2 k f ds Q
noncomputable abbrev KCall (C : Cx) (fe : Fe) (vs : Vars) (k : Nat) (pos : Pos) (args : List Expr) (Q : D → Led → Prop) : D → Led → Prop := fun f led1 => WL C led1 fe vs k (spliced (backTo pos (starEach args fe.env))) (KCall2 C k Q f)
theorem KeepOk.blt {Y : Led} (id : String) : KeepOk C Y led (.blt id) := fun A fz G s v Q S e q => by induction e using Den.bltE; exact wpAny_pure (q _)
theorem KeepOk.typ {Y : Led} (id : String) : KeepOk C Y led (.typ id) := fun A fz G s v Q S e q => by induction e using Den.typE; exact wpAny_pure (q _)
theorem KeepOk.fn {Y : Led} {a : Addr} {fd : FuncData} (h : Callable C Y led a fd) : KeepOk C Y led (.ref a) := fun A fz G s v Q S e q => by
  induction e using Den.refE
  obtain ⟨o, ho, hd, _⟩ := h fz G s S
  unfold keeperOf
  refine wpAny_bind (wpAny_load ho ?_)
  rw [hd]; exact wpAny_pure (q _)

theorem evalArgs_any {M : Model} {A : Around} {E : Value → Shared → Prop} {s : Shared} {f : Value} {args : List Expr} {env : Env} {pos : Pos} {Q : Args → Shared → Prop} (hp : (starEach args env).all (fun x => !x.1) = true)
    (h : wpAny M A (spliced (backTo pos (starEach args env))) (fun vs s' => Q ⟨vs, []⟩ s') E s) : wpAny M A (evalArgs f true (backTo pos (starEach args env)) []) Q E s := by
  generalize starEach args env = xs at *
  have tail : ∀ {t : Sem (List Value)}, wpAny M A t (fun vs s' => Q ⟨vs, []⟩ s') E s → wpAny M A (t >>= fun vs => (pure (vs, none) : Sem (List Value × Option Value)) >>= fun (pl : List Value × Option Value) => holding (pl.1 ++ pl.2.toList) (do
      let readLate (keep : List Value) : Sem (List Value) := do
        let some s := pl.2 | return pl.1
        if ← notIterableAtAll s then
          rule "call.star.not-iterable"
          raiseError "TypeError" s!"{← functionStr f} argument after * must be an iterable, not {← typeNameOf s}"
        holding keep (collect s)
      if ([] : List (Option Str × Sem Value)).all (·.1.isSome) then
        let kw := (([] : List (Option Str × Sem Value)).filterMap (·.1)).zip (← evalAll (([] : List (Option Str × Sem Value)).map (·.2)))
        return ⟨← readLate (kw.map (·.2)), kw⟩
      let d ← mergedKeywords f []
      let pos ← readLate [.ref d]
      return ⟨pos, ← holding (.ref d :: pos) (keywordsIn f d)⟩)) Q E s := by
    intro t ht
    refine wpAny_bind (wpAny_mono ht (fun vs s1 h1 => wpAny_bind (wpAny_pure (wpAny_holding ?_))) fun _ _ x => x)
    exact wpAny_bind (wpAny_pure (wpAny_bind (wpAny_pure (wpAny_pure h1))))
  cases xs with
  | nil => exact tail h
  | cons x r =>
    obtain ⟨b, t⟩ := x
    cases b with
    | false => exact Calls.evalArgs_plain h
    | true => simp at hp

/-- a callee and its first arguments, put to the rest -/
theorem call_with {fz : Fz} {F X : Led} {G : Array GenState} {A : Around} {s : Shared} {pos : Pos} {args : List Expr} {fv : Value} {f : D} {firstv : List Value} {first : List D} {Q : D → Led → Prop}
    (hF : FOk fe vs F X) (hd : Dj F X) (hA : RoomF k A fe X) (S : St C fz led (Un F X) G s) (e1 : Den fz fv f) (e2 : Dens fz firstv first)
    (h : WL C led fe vs k (spliced (backTo pos (starEach args fe.env))) fun ds led2 => ∀ F X, FOk fe vs F X → Dj F X → KeepOk C (Un F X) led2 f ∧ CallW C (Un F X) led2 k f (first ++ ds) Q)
    (hp : (starEach args fe.env).all (fun x => !x.1) = true) (hp2 : (backTo pos (starEach args fe.env)).any (·.1) = false) :
    wpAny (model C.prog C.w) A (callWith pos fv firstv (backTo pos (starEach args fe.env)) []) (Pst C fz (Un F X) G Q) No s := by
  unfold callWith
  refine wpAny_bind (wpAny_holding (evalArgs_any hp (chainL (h F X hF hd A fz G s hA S) fun vs1 s1 fz1 G1 ds led1 l1 g1 e3 S1 h1 => ?_)))
  refine wpAny_bind (wpAny_standAt ?_)
  obtain ⟨hk, hc⟩ := h1 F X hF hd
  simp only [hp2, List.any_nil, Bool.or_false]
  have tail : ∀ {t : Sem Value}, wpAny (model C.prog C.w) A t (Pst C fz1 (Un F X) G1 Q) No s1 → wpAny (model C.prog C.w) A (t >>= fun r => holding [r] point >>= fun _ => pure r) (Pst C fz (Un F X) G Q) No s1 :=
    fun ht => wpAny_bind (wpAny_mono ht (fun r s₂ hr => wpAny_bind (wpAny_holding (wpAny_point (wpAny_pure (hr.trans l1 g1))))) fun _ _ x => x)
  have call0 := hc A fz1 G1 s1 fv (firstv ++ vs1) (hA.y hF hd) S1 (e1.mono l1) (Dens.append e3 (e2.mono l1))
  refine wpAny_bind (hk A fz1 G1 s1 fv _ S1 (e1.mono l1) fun b => ?_)
  cases b with
  | frame =>
    simp only
    split
    · exact tail call0
    · exact tail (by unfold callMarked; exact Calls.wpAny_keep call0)
  | boundFrame =>
    simp only
    split
    · exact tail call0
    · exact tail (by unfold callMarked; exact Calls.wpAny_keep call0)
  | machine => exact tail call0
  | caller => exact tail (wpAny_operating call0)

/-- what the text of a call must be -/
structure CallOk (func : Expr) (args : List Expr) (pos : Pos) (fe : Fe) : Prop where
  e : eval (.Call func args [] pos) fe.env = (do callWith pos (← eval func fe.env) [] (backTo pos (starEach args fe.env)) (backToKw pos (keywordEach [] fe.env)))
  p : (starEach args fe.env).all (fun x => !x.1) = true
  p2 : (backTo pos (starEach args fe.env)).any (·.1) = false
structure MetOk (o : Expr) (name : Str) (args : List Expr) (apos pos : Pos) (pl : Sem Bool) (fe : Fe) : Prop where
  e : eval (.Call (.Attribute o name apos) args [] pos) fe.env = (do
      let ov ← eval o fe.env
      standAt apos.atName
      let (f, first) ← holding [ov] (getMethod ov name pl)
      callWith pos f first (backTo pos (starEach args fe.env)) [])
  p : (starEach args fe.env).all (fun x => !x.1) = true
  p2 : (backTo pos (starEach args fe.env)).any (·.1) = false
theorem WE.call {func : Expr} {args : List Expr} {pos : Pos} {Q : D → Led → Prop}
    (h : WE C led fe vs k (eval func fe.env) fun f led1 => WL C led1 fe vs k (spliced (backTo pos (starEach args fe.env))) fun ds led2 => ∀ F X, FOk fe vs F X → Dj F X → KeepOk C (Un F X) led2 f ∧ CallW C (Un F X) led2 k f ds Q)
    (ok : autoParam (CallOk func args pos fe) autA) :
    WE C led fe vs k (eval (.Call func args [] pos) fe.env) Q := by
  intro F X hF hd A fz G s hA S
  rw [ok.e]
  refine wpAny_bind (chain (h F X hF hd A fz G s hA S) fun v1 s1 fz1 G1 d1 led1 l1 g1 e1 S1 h1 => ?_)
  exact fin (call_with (first := []) hF hd hA S1 e1 .nil h1 ok.p ok.p2) l1 g1

/-- a method is sought -/
noncomputable def GetM (C : Cx) (Y led : Led) (d : D) (name : Str) (f : D) (first : List D) : Prop :=
  ∀ A fz G s v pl (Q : Value × List Value → Shared → Prop), Room 0 A → St C fz led Y G s → Den fz v d →
    (∀ fz' s' fv firstv, FzLe fz fz' → St C fz' led Y G s' → Den fz' fv f → Dens fz' firstv first → Q (fv, firstv) s') → wpAny (model C.prog C.w) A (getMethod v name pl) Q No s

theorem WE.mcall {o : Expr} {name : Str} {args : List Expr} {apos pos : Pos} {Q : D → Led → Prop} {pl : Sem Bool}
    (h : WE C led fe vs k (eval o fe.env) fun d led1 => ∃ f first, (∀ F X, FOk fe vs F X → Dj F X → GetM C (Un F X) led1 d name f first) ∧
      WL C led1 fe vs k (spliced (backTo pos (starEach args fe.env))) fun ds led2 => ∀ F X, FOk fe vs F X → Dj F X → KeepOk C (Un F X) led2 f ∧ CallW C (Un F X) led2 k f (first ++ ds) Q)
    (ok : MetOk o name args apos pos pl fe) :
    WE C led fe vs k (eval (.Call (.Attribute o name apos) args [] pos) fe.env) Q := by
  intro F X hF hd A fz G s hA S
  refine MethodCall_ (pl := pl) (chain (h F X hF hd A fz G s hA S) fun v1 s1 fz1 G1 d1 led1 l1 g1 e1 S1 h1 => ?_) ok.e
  obtain ⟨f, first, hm, hw⟩ := h1
  refine hm F X hF hd A fz1 G1 s1 v1 pl _ (hA.r.mono (Nat.zero_le _)) S1 e1 fun fz2 s2 fv firstv l2 S2 e2 e3 => ?_
  exact fin (call_with hF hd hA S2 e2 e3 hw ok.p ok.p2) (l1.trans l2) g1

/-- a method of a built-in type -/
theorem GetM.builtin {Y led : Led} {d : D} {name : Str} {T id : String} (hT : ∀ fz G s v, St C fz led Y G s → Den fz v d → s.TypeIs v T ∧ ∀ a, v = .ref a → ∃ o, s.heap.get? a = some o ∧ o.dict = none)
    (pa : PlainAttrs T) (slot : Slot T name id) (hty : typeOf (.builtin id) = pure (.type "method_descriptor")) : GetM C Y led d name (.blt id) [d] := by
  intro A fz G s v pl Q hA S e h
  obtain ⟨h1, h2⟩ := hT fz G s v S e
  exact getMethod_builtin h1 pa slot hty h2 (h fz s _ _ (.refl _) S (.blt id) (.cons e .nil))
theorem WL.mono {t : Sem (List Value)} {Q Q' : List D → Led → Prop} (h : WL C led fe vs k t Q) (i : ∀ ds led, Q ds led → Q' ds led) : WL C led fe vs k t Q' :=
  fun F X hF hd A fz G s hA S => wpAny_mono (h F X hF hd A fz G s hA S) (fun _ _ ⟨f, H, ds, l, a, b, c, e, q⟩ => ⟨f, H, ds, l, a, b, c, e, i _ _ q⟩) fun _ _ x => x
theorem WE.callY {func : Expr} {args : List Expr} {pos : Pos} {Q : D → Led → Prop}
    (h : WE C led fe vs k (eval func fe.env) (KCall C fe vs k pos args Q))
    (ok : autoParam (CallOk func args pos fe) autA) :
    WE C led fe vs k (eval (.Call func args [] pos) fe.env) Q :=
  WE.call (h.mono fun f led1 w => w.mono fun ds led2 q F X _ _ => ⟨(q (Un F X)).1, (q (Un F X)).2⟩) ok
theorem WE.mcallY {o : Expr} {name : Str} {args : List Expr} {apos pos : Pos} {Q : D → Led → Prop} {pl : Sem Bool}
    (h : WE C led fe vs k (eval o fe.env) fun d led1 => ∃ f first, (∀ Y, GetM C Y led1 d name f first) ∧
      WL C led1 fe vs k (spliced (backTo pos (starEach args fe.env))) fun ds led2 => ∀ Y, KeepOk C Y led2 f ∧ CallW C Y led2 k f (first ++ ds) Q)
    (ok : MetOk o name args apos pos pl fe) :
    WE C led fe vs k (eval (.Call (.Attribute o name apos) args [] pos) fe.env) Q :=
  WE.mcall (pl := pl) (h.mono fun d led1 ⟨f, first, g, w⟩ => ⟨f, first, fun F X _ _ => g (Un F X), w.mono fun ds led2 q F X _ _ => q (Un F X)⟩) ok
end
end Sc

namespace Sc
set_option tactic.hygienic false

theorem OldK.step_many {h₀ h h' : Heap} (K : OldK h₀ h) {p : Addr → Prop} (hp : ∀ b o, h₀.get? b = some o → ¬ p b) (hs : ∀ b o, ¬ p b → h.get? b = some o → h'.get? b = some o) : OldK h₀ h' := by
  refine ⟨fun b o e => ?_, fun b o e => let ⟨o', ho'⟩ := K.there b o e; ⟨o', hs b _ (hp b o e) ho'⟩⟩
  rcases K.old b o e with x | ⟨t, hc, vs, more, hv, x⟩ | ⟨rfl, hc, ⟨o', es, n, ho', r⟩, z⟩
  · exact .inl (hs b _ (hp b o e) x)
  · exact .inr (.inl ⟨t, hc, vs, more, hv, hs b _ (hp b o e) x⟩)
  · have e1 := hs _ _ (hp _ o e) ho'
    exact .inr (.inr ⟨rfl, hc, ⟨o', es, n, e1, r⟩, fun key => by rw [OldK.staticOf_congr (e1.trans ho'.symm) key]; exact z key⟩)

/-- several objects change -/
theorem Rel.many {C : Cx} {fz : Fz} {T T' : Led} {G : Array GenState} {s : Shared} (R : Rel C fz T G s) {h' : Heap} (t : Nat) (p : Addr → Prop) (hw : ∀ b, p b → ∃ m, T b = some m)
    (hk : ∀ b o, ¬ p b → s.heap.get? b = some o → h'.get? b = some o) (hT : ∀ b, ¬ p b → T' b = T b) (hm : ∀ b m, p b → T' b = some m → MAt fz h' b m) : Rel C fz T' G { s with heap := h', toks := t } where
  fzIn := fun b o e => hk b o (fun q => by obtain ⟨m, z⟩ := hw b q; rw [R.apart _ _ e] at z; cases z) (R.fzIn b o e)
  ledIn := fun b m e => by
    by_cases q : p b
    · exact hm b m q e
    · rw [hT b q] at e; exact (R.ledIn b m e).at fun o => hk b o q
  apart := fun b o e => by
    by_cases q : p b
    · obtain ⟨m, z⟩ := hw b q; rw [R.apart _ _ e] at z; cases z
    · rw [hT b q]; exact R.apart b o e
  fzt := R.fzt
  new := fun b m e => by
    by_cases q : p b
    · obtain ⟨m', z⟩ := hw b q; exact R.new _ _ z
    · rw [hT b q] at e; exact R.new b m e
  base := fun b o e n => hk b o (fun q => by obtain ⟨m, z⟩ := hw b q; rw [R.new _ _ z] at e; cases e) (R.base b o e n)
  tabs := fun c P e => by
    obtain ⟨ps, ⟨o, vs, e1, _⟩, e2⟩ := C.tabIs c P e
    obtain ⟨ps', x, y, z⟩ := R.tabs c P e
    have nc : ¬ p c := fun q => by obtain ⟨m, w⟩ := hw c q; rw [R.new _ _ w] at e1; cases e1
    have nP : ¬ p P := fun q => by obtain ⟨m, w⟩ := hw P q; rw [R.new _ _ w] at e2; cases e2
    refine ⟨ps', ?_, ?_, z⟩
    · obtain ⟨o, vs, file, tf, flags, tg, inF, text, tt, op, a1, a2, a3, a4, a5, a6, a7, a8, a9⟩ := x
      exact ⟨o, vs, file, tf, flags, tg, inF, text, tt, op, hk _ _ nc a1, a2, a3, a4, a5, a6, a7, hk _ _ nP a8, a9⟩
    · obtain ⟨⟨o, vs, a1, a2⟩, a3⟩ := y
      exact ⟨⟨o, vs, hk _ _ nc a1, a2⟩, hk _ _ nP a3⟩
  old := OldK.step_many R.old (p := p) (fun b o e q => by obtain ⟨m, z⟩ := hw b q; rw [R.new _ _ z] at e; cases e) hk
  os := R.os
  gens := R.gens

/-- the raw objects of an iterator -/
structure Raws (wr : List Addr) (R : Led) : Prop where
  here : ∀ b, b ∈ wr → ∃ o, R b = some (.raw o)
  not : ∀ b, b ∉ wr → R b = none

/-- an iterator over data -/
structure Itr (C : Cx) (fz : Fz) (I : Addr) (wr : List Addr) (items : List D) (St₀ : Nat → Heap → Prop) : Prop where
  walks : ∃ fp P, (∀ A, A.handled = none → Walks C.prog C.w A I fp wr items.length P St₀) ∧ (∀ i v d, P i v → items[i]? = some d → Den fz v d) ∧ (∀ b, b ∈ fp → b ∉ wr → ∃ o, fz b = some o)
  alive : ∀ i h b, St₀ i h → b ∈ wr → ∃ o, h.get? b = some o
theorem Itr.mono {C : Cx} {fz fz' : Fz} (l : FzLe fz fz') {I : Addr} {wr : List Addr} {items : List D} {St₀ : Nat → Heap → Prop} (x : Itr C fz I wr items St₀) : Itr C fz' I wr items St₀ :=
  ⟨let ⟨fp, P, a, b, c⟩ := x.walks; ⟨fp, P, a, fun i v d p q => (b i v d p q).mono l, fun y hy hn => let ⟨o, z⟩ := c y hy hn; ⟨o, l _ _ z⟩⟩, x.alive⟩

/-- the ledger without an iterator's own objects -/
noncomputable def dels (led : Led) : List Addr → Led
  | [] => led
  | a :: r => dels (del led a) r
noncomputable def itl (led : Led) : D → Led
  | .itr a more _ => dels led (a :: more)
  | _ => led
inductive ItRes (C : Cx) (fz : Fz) (Y : Led) (G : Array GenState) (led' : Led) (items : List D) (it : Value) (s' : Shared) : Prop
  | mk (fz' : Fz) (I : Addr) (wr : List Addr) (R : Led) (St₀ : Nat → Heap → Prop) : it = .ref I → FzLe fz fz' → Itr C fz' I wr items St₀ → Raws wr R → Dj R Y → St₀ 0 s'.heap → St C fz' led' (Un R Y) G s' → ItRes C fz Y G led' items it s'
/-- what iterating gives -/
noncomputable def IterOf (C : Cx) (Y led : Led) (d : D) (items : List D) : Prop :=
  ∀ A fz G s v, Room 0 A → St C fz led Y G s → Den fz v d → wpAny (model C.prog C.w) A (pyIter v) (ItRes C fz Y G (itl led d) items) No s

theorem raws_of (h : Heap) (wr : List Addr) (ha : ∀ b, b ∈ wr → ∃ o, h.get? b = some o) : ∃ R, Raws wr R ∧ ∀ b m, R b = some m → ∃ o, m = .raw o ∧ h.get? b = some o := by
  classical
  refine ⟨fun b => if b ∈ wr then (h.get? b).map M.raw else none, ⟨fun b hb => ?_, fun b hb => if_neg hb⟩, fun b m e => ?_⟩
  · obtain ⟨o, e⟩ := ha b hb; exact ⟨o, by simp only [if_pos hb, e]; rfl⟩
  · by_cases hb : b ∈ wr
    · obtain ⟨o, q⟩ := ha b hb; simp only [if_pos hb, q, Option.map_some] at e; cases e; exact ⟨o, rfl, q⟩
    · simp only [if_neg hb] at e; cases e

/-- the iterator gives one more item -/
theorem Itr.next {C : Cx} {fz : Fz} {I : Addr} {wr : List Addr} {items : List D} {St₀ : Nat → Heap → Prop} (x : Itr C fz I wr items St₀) {A : Around} (hA : A.handled = none) {led Y R : Led} {G : Array GenState} {s : Shared} {i : Nat}
    (hR : Raws wr R) (hd : Dj R Y) (S : St C fz led (Un R Y) G s) (hs : St₀ i s.heap) (hi : i ≤ items.length) {Q : Option Value → Shared → Prop} {E : Value → Shared → Prop}
    (h1 : ∀ v d R' s', items[i]? = some d → Den fz v d → Raws wr R' → Dj R' Y → St C fz led (Un R' Y) G s' → St₀ (i + 1) s'.heap → Q (some v) s')
    (h2 : ∀ s', i = items.length → St C fz led Y G s' → Q none s') : wpAny (model C.prog C.w) A (pyNext (.ref I)) Q E s := by
  obtain ⟨fp, P, hW, hP, hfp⟩ := x.walks
  have dom : ∀ R' : Led, Raws wr R' → Dj R' Y := fun R' hR' a => by
    by_cases ha : a ∈ wr
    · obtain ⟨o, e⟩ := hR.here a ha
      exact .inr (hd.of_some e)
    · exact .inl (hR'.not a ha)
  by_cases hlt : i < items.length
  · refine (hW A hA).item i s Q E hlt hs fun v h' tk p st' hk => ?_
    obtain ⟨R', hR', hr⟩ := raws_of h' wr (fun b hb => x.alive _ _ b st' hb)
    obtain ⟨d, e⟩ : ∃ d, items[i]? = some d := ⟨items[i], List.getElem?_eq_getElem hlt⟩
    refine h1 v d R' _ e (hP i v d p e) hR' (dom R' hR') ⟨fun a => ?_, ?_⟩ st'
    · rcases S.dj a with q | q
      · exact .inl q
      · by_cases ha : a ∈ wr
        · obtain ⟨o, z⟩ := hR.here a ha
          rw [Un_left z] at q; cases q
        · exact .inr (Un_none.mpr ⟨hR'.not a ha, (Un_none.mp q).2⟩)
    · refine S.rel.many tk (· ∈ wr) (fun b hb => ?_) hk (fun b hb => ?_) fun b m hb e => ?_
      · obtain ⟨o, z⟩ := hR.here b hb
        have hl : led b = none := (S.dj b).resolve_right (by rw [Un_left z]; exact Option.some_ne_none _)
        exact ⟨_, by rw [Un_right hl, Un_left z]⟩
      · cases hl : led b with
        | some m => rw [Un_left hl, Un_left hl]
        | none => rw [Un_right hl, Un_right hl, Un_right (hR'.not b hb), Un_right (hR.not b hb)]
      · obtain ⟨o, z⟩ := hR.here b hb
        have hl : led b = none := (S.dj b).resolve_right (by rw [Un_left z]; exact Option.some_ne_none _)
        obtain ⟨o', z'⟩ := hR'.here b hb
        rw [Un_right hl, Un_left z'] at e
        cases e
        obtain ⟨o'', q1, q2⟩ := hr b _ z'
        cases q1; exact q2
  · have hi' : i = items.length := by lia
    subst hi'
    refine (hW A hA).done s Q E hs fun h' tk hk => h2 _ rfl ⟨S.dj.right, ?_⟩
    have R0 : Rel C fz (Un led Y) G s := S.rel.forget fun a m e => by
      cases hl : led a with
      | some m' => rw [Un_left hl] at e ⊢; exact e
      | none =>
        rw [Un_right hl] at e ⊢
        rw [Un_right ((hd a).resolve_right (by rw [e]; exact Option.some_ne_none _))]; exact e
    -- the raw objects may have been written
    have key := S.rel.many (T' := Un led Y) (h' := h') tk (· ∈ wr) (fun b hb => ?_) hk (fun b hb => ?_) fun b m hb e => ?_
    · exact key
    · obtain ⟨o, z⟩ := hR.here b hb
      have hl : led b = none := (S.dj b).resolve_right (by rw [Un_left z]; exact Option.some_ne_none _)
      exact ⟨_, by rw [Un_right hl, Un_left z]⟩
    · cases hl : led b with
      | some m => rw [Un_left hl, Un_left hl]
      | none => rw [Un_right hl, Un_right hl, Un_right (hR.not b hb)]
    · obtain ⟨o, z⟩ := hR.here b hb
      have hl : led b = none := (S.dj b).resolve_right (by rw [Un_left z]; exact Option.some_ne_none _)
      rw [Un_right hl, hd.of_some z] at e; cases e

/-- what the iterator stands upon is kept -/
theorem Itr.keep {C : Cx} {fz fz' : Fz} {I : Addr} {wr : List Addr} {items : List D} {St₀ : Nat → Heap → Prop} (x : Itr C fz I wr items St₀) {led led' Y Y' R : Led} {G G' : Array GenState} {s s' : Shared} {i : Nat}
    (l : FzLe fz fz') (hR : Raws wr R) (hY : ∀ a m, R a = some m → Y a = some m) (hY' : ∀ a m, R a = some m → Y' a = some m) (S : St C fz led Y G s) (S' : St C fz' led' Y' G' s') (hs : St₀ i s.heap) : St₀ i s'.heap := by
  obtain ⟨fp, P, hW, hP, hfp⟩ := x.walks
  refine (hW {} rfl).frame i _ _ hs fun b hb o e => ?_
  by_cases hw : b ∈ wr
  · obtain ⟨o', z⟩ := hR.here b hw
    have a1 : s.heap.get? b = some o' := S.at (hY _ _ z)
    have a2 : s'.heap.get? b = some o' := S'.at (hY' _ _ z)
    rw [a1] at e; cases e; exact a2
  · obtain ⟨o', z⟩ := hfp b hb hw
    have a1 := S.rel.fzIn _ _ z
    have a2 := S'.rel.fzIn _ _ (l _ _ z)
    rw [a1] at e; cases e; exact a2

/-- an iterator that a target takes its items from: the tuple that it hands out may be let go -/
structure ItrT (C : Cx) (fz : Fz) (I : Addr) (wr : List Addr) (items : List D) (St₀ : Nat → Heap → Prop) (target : Expr) : Prop where
  next : ∀ {A : Around} {fz' : Fz} {led Y R : Led} {G : Array GenState} {s : Shared} {i : Nat}, A.handled = none → FzLe fz fz' → Raws wr R → Dj R Y → St C fz' led (Un R Y) G s → St₀ i s.heap → i ≤ items.length →
    ∀ {Q : Option Value → Shared → Prop} {E : Value → Shared → Prop},
    (∀ v d R' s' fz'', items[i]? = some d → FzLe fz' fz'' → Den fz'' v d → Raws wr R' → Dj R' Y → St C fz'' led (Un R' Y) G s' → St₀ (i + 1) s'.heap → Q (some v) s') →
    (∀ s', i = items.length → St C fz' led Y G s' → Q none s') →
    wpAny (model C.prog C.w) A (pyNext (.ref I)) (fun o s1 => match o with | none => Q none s1 | some v => wpAny (model C.prog C.w) A (letOwnedTupleGo target (.ref I) v) (fun _ s2 => Q (some v) s2) E s1) E s
  keep : ∀ {fz1 fz2 : Fz} {led led' Y Y' R : Led} {G G' : Array GenState} {s s' : Shared} {i : Nat}, FzLe fz fz1 → FzLe fz1 fz2 → Raws wr R → (∀ a m, R a = some m → Y a = some m) → (∀ a m, R a = some m → Y' a = some m) →
    St C fz1 led Y G s → St C fz2 led' Y' G' s' → St₀ i s.heap → St₀ i s'.heap
  self : ∀ {A : Around} {s : Shared} {i : Nat} {Q : Value → Shared → Prop} {E : Value → Shared → Prop}, A.handled = none → St₀ i s.heap → Q (.ref I) s → wpAny (model C.prog C.w) A (pyIter (.ref I)) Q E s
theorem ItrT.mono {C : Cx} {fz fz' : Fz} (l : FzLe fz fz') {I : Addr} {wr : List Addr} {items : List D} {St₀ : Nat → Heap → Prop} {target : Expr} (x : ItrT C fz I wr items St₀ target) : ItrT C fz' I wr items St₀ target where
  next := fun hA l' hR hd S hs hi _ _ h1 h2 => x.next hA (l.trans l') hR hd S hs hi h1 h2
  keep := fun l1 l2 hR hY hY' S S' hs => x.keep (l.trans l1) l2 hR hY hY' S S' hs
  self := x.self
theorem Itr.toT {C : Cx} {fz : Fz} {I : Addr} {wr : List Addr} {items : List D} {St₀ : Nat → Heap → Prop} {target : Expr} (x : Itr C fz I wr items St₀) (ht : ∀ it v, letOwnedTupleGo target it v = pure ()) : ItrT C fz I wr items St₀ target where
  next := fun hA l hR hd S hs hi _ _ h1 h2 => (x.mono l).next hA hR hd S hs hi (fun v d R' s' a b c e f g => wpAny_of_eq (ht _ _) (h1 v d R' s' _ a (.refl _) b c e f g)) h2
  keep := fun l1 l2 hR hY hY' S S' hs => (x.mono l1).keep l2 hR hY hY' S S' hs
  self := fun hA hs h => let ⟨fp, P, hW, _, _⟩ := x.walks; (hW _ hA).self _ _ _ _ hs h
inductive ItResT (C : Cx) (fz : Fz) (Y : Led) (G : Array GenState) (led' : Led) (items : List D) (target : Expr) (it : Value) (s' : Shared) : Prop
  | mk (fz' : Fz) (I : Addr) (wr : List Addr) (R : Led) (St₀ : Nat → Heap → Prop) : it = .ref I → FzLe fz fz' → ItrT C fz' I wr items St₀ target → Raws wr R → Dj R Y → St₀ 0 s'.heap → St C fz' led' (Un R Y) G s' → ItResT C fz Y G led' items target it s'
noncomputable def IterOfT (C : Cx) (Y led : Led) (target : Expr) (d : D) (items : List D) : Prop :=
  ∀ A fz G s v, Room 0 A → St C fz led Y G s → Den fz v d → wpAny (model C.prog C.w) A (pyIter v) (ItResT C fz Y G (itl led d) items target) No s
theorem IterOf.toT {C : Cx} {Y led : Led} {target : Expr} {d : D} {items : List D} (h : IterOf C Y led d items) (ht : ∀ it v, letOwnedTupleGo target it v = pure ()) : IterOfT C Y led target d items :=
  fun A fz G s v hA S e => wpAny_mono (h A fz G s v hA S e) (fun it s' ⟨fz', I, wr, R, St₀, a, b, c, e1, e2, e3, e4⟩ => ⟨fz', I, wr, R, St₀, a, b, c.toT ht, e1, e2, e3, e4⟩) fun _ _ x => x
end Sc

namespace Sc

noncomputable def rngItems (a b : Int) : List D := (List.range (b - a).toNat).map fun i => .int (a + (i : Nat))
theorem rngItems_length (a b : Int) : (rngItems a b).length = (b - a).toNat := by simp [rngItems]
theorem rngItems_get {a b : Int} {i : Nat} {d : D} (h : (rngItems a b)[i]? = some d) : d = .int (a + (i : Nat)) ∧ i < (b - a).toNat := by
  unfold rngItems at h
  rw [List.getElem?_map] at h
  by_cases hi : i < (b - a).toNat
  · rw [List.getElem?_range hi] at h; simp at h; exact ⟨h.symm, hi⟩
  · rw [List.getElem?_eq_none (by simpa using hi)] at h; cases h
theorem rngSize (a b : Int) : Builtin.Range.rangeSize a b 1 = ((b - a).toNat : Int) := by
  unfold Builtin.Range.rangeSize
  simp only [show (1 : Int) > 0 from by decide, if_true]
  split <;> first | lia | skip
theorem rngSmall {a b : Int} (h1 : -2 ^ 60 < a) (h2 : a < 2 ^ 60) (h3 : -2 ^ 60 < b) (h4 : b < 2 ^ 60) : Builtin.Range.small a b 1 = true := by
  have hs := rngSize a b
  have f1 : ∀ {c : Int}, -2 ^ 60 < c → -9223372036854775808 ≤ c := fun h => Int.le_trans (by decide) (Int.le_of_lt h)
  have f2 : ∀ {c : Int}, c < 2 ^ 60 → c < 9223372036854775808 := fun h => Int.lt_trans h (by decide)
  have hm : max (b - a) 0 < 9223372036854775808 := Int.lt_of_le_of_lt (Int.max_le.mpr ⟨(by lia : b - a ≤ 2 ^ 61), by decide⟩) (by decide : (2 : Int) ^ 61 < 9223372036854775808)
  unfold Builtin.Range.small Builtin.Range.rangeFitsLong
  rw [hs]
  simp
  exact ⟨⟨⟨⟨f1 h1, f2 h2⟩, f1 h3, f2 h4⟩, Int.le_trans (by decide) (Int.le_max_right _ _), hm⟩, .inr ⟨f1 h3, f2 h4⟩⟩

theorem one_raw {h : Heap} {I : Addr} {o : Obj} (e : h.get? I = some o) : Raws [I] (upd emp I (.raw o)) :=
  ⟨fun b hb => by simp at hb; subst hb; exact ⟨o, upd_same ..⟩, fun b hb => by simp at hb; rw [upd_ne _ _ hb]; rfl⟩

section
variable {C : Cx} {Y led : Led}

/-- a new iterator object on top of the heap -/
theorem St.newI {fz : Fz} {G : Array GenState} {s : Shared} (S : St C fz led Y G s) (o : Obj) (hf : o.isFreed = false) :
    Raws [s.heap.objs.size] (upd emp s.heap.objs.size (.raw o)) ∧ Dj (upd emp s.heap.objs.size (.raw o)) Y ∧ St C fz led (Un (upd emp s.heap.objs.size (.raw o)) Y) G { s with heap := s.heap.push o } := by
  have ha := get_size s.heap (Nat.le_refl _)
  have hg : (s.heap.push o).get? s.heap.objs.size = some o := Heap.get?_push_size _ hf
  obtain ⟨S', d⟩ := (show St C fz led (Un emp Y) G s from by rw [Un_emp]; exact S).newF (Dj.emp Y) ha (m := .raw o) (h' := s.heap.push o) s.toks (fun b o e => Heap.get?_push_of_some _ e) hg
  exact ⟨one_raw hg, d, S'⟩

theorem IterOf.lst {xs : List D} : IterOf C Y led (.lst xs) xs := by
  intro A fz G s v hA S e
  induction e using Den.lstE with
  | k a vs n e1 e2 =>
    have h1 : s.heap.get? a = some (lstObj vs.toArray n) := S.rel.fzIn _ _ e1
    have hl : s.heap.IsList a vs.toArray := ⟨_, h1, rfl, n, rfl⟩
    obtain ⟨r1, r2, r3⟩ := S.newI { cls := .type "list_iterator", data := .fields #[.ref a, .int 0 0] } rfl
    have hne : a ≠ s.heap.objs.size := Nat.ne_of_lt (Heap.lt_size h1)
    have hlen : xs.length = vs.toArray.size := by simp [e2.length]
    have W := fun (A : Around) (hA : A.handled = none) => Walks.list (prog := C.prog) (w := C.w) hA s.heap.objs.size a hne vs.toArray
    rw [← hlen] at W
    refine wpAny_pyIter_list hl ⟨fz, _, _, _, _, rfl, .refl _, ⟨⟨_, _, W, ?_, ?_⟩, ?_⟩, r1, r2, ?_, r3⟩
    · intro i v d p q
      obtain ⟨d', q1, q2⟩ := e2.get' (i := i) (v := v) (by simpa using p)
      rw [q] at q1; cases q1; exact q2
    · intro b hb hn
      simp at hb hn
      rcases hb with rfl | rfl
      · exact absurd rfl hn
      · exact ⟨_, e1⟩
    · intro i h b st hb
      simp at hb; subst hb
      obtain ⟨⟨o, ho, _⟩, _⟩ := st; exact ⟨o, ho⟩
    · exact ⟨⟨_, Heap.get?_push_size _ rfl, rfl, rfl⟩, ⟨_, Heap.get?_push_of_some _ h1, rfl, n, rfl⟩⟩
theorem IterOf.rng {a b : Int} (h1 : autoParam (-2 ^ 60 < a) autA) (h2 : autoParam (a < 2 ^ 60) autA) (h3 : autoParam (-2 ^ 60 < b) autA) (h4 : autoParam (b < 2 ^ 60) autA) : IterOf C Y led (.rng a b) (rngItems a b) := by
  intro A fz G s v hA S e
  induction e using Den.rngE with
  | k r t u v e1 =>
    have g1 : s.heap.get? r = some (rngObj a b t u v) := S.rel.fzIn _ _ e1
    obtain ⟨r1, r2, r3⟩ := S.newI { cls := .type "range_iterator", data := .fields #[rawInt a, rawInt (Builtin.Range.rangeSize a b 1), rawInt 1] } rfl
    have W := fun (A : Around) (hA : A.handled = none) => Walks.range (prog := C.prog) (w := C.w) hA s.heap.objs.size a 1 (b - a).toNat
    rw [← rngItems_length] at W
    refine wpAny_pyIter_range g1 (rngSmall h1 h2 h3 h4) ⟨fz, _, _, _, _, rfl, .refl _, ⟨⟨_, _, W, ?_, ?_⟩, ?_⟩, r1, r2, ?_, r3⟩
    · intro i v d p q
      obtain ⟨t, rfl⟩ := p
      obtain ⟨rfl, _⟩ := rngItems_get q
      rw [Int.mul_one]; exact .int _ _
    · intro b hb hn; exact absurd hb hn
    · intro i h b st hb
      simp at hb; subst hb; exact ⟨_, st⟩
    · have e0 : (s.heap.push { cls := .type "range_iterator", data := .fields #[rawInt a, rawInt (Builtin.Range.rangeSize a b 1), rawInt 1] }).get? s.heap.objs.size = some { cls := .type "range_iterator", dict := none, data := .fields #[rawInt a, rawInt (Builtin.Range.rangeSize a b 1), rawInt 1], slots := #[] } := Heap.get?_push_size _ rfl
      have x1 : a + ((0 : Nat) : Int) * 1 = a := by simp
      have x2 : ((rngItems a b).length : Int) - ((0 : Nat) : Int) = Builtin.Range.rangeSize a b 1 := by rw [rngItems_length, rngSize]; simp
      rw [x1, x2]; exact e0
noncomputable def strItems (x : Str) : List D := x.cps.toList.map fun c => .str ⟨#[c]⟩
theorem IterOf.str {x : Str} : IterOf C Y led (.str x) (strItems x) := by
  intro A fz G s v hA S e
  induction e using Den.strE with
  | k t =>
    have len : (strItems x).length = x.cps.size := by simp [strItems]
    have item : ∀ (i : Nat) (v : Value) (d : D), SignAt x i v → (strItems x)[i]? = some d → Den fz v d := by
      intro i v d ⟨c, u, hc, hv⟩ q
      subst hv
      unfold strItems at q
      rw [List.getElem?_map, Array.getElem?_toList, hc] at q
      cases q; exact .str _ _
    cases ha : x.cps.all (· < 128)
    · obtain ⟨r1, r2, r3⟩ := S.newI { cls := .type "str_iterator", data := .fields #[.str x t, .int 0 0] } rfl
      have W := fun (A : Around) (hA : A.handled = none) => Walks.strWide (prog := C.prog) (w := C.w) hA s.heap.objs.size x t
      rw [← len] at W
      refine wpAny_pyIter_wide ha ⟨fz, _, _, _, _, rfl, .refl _, ⟨⟨_, _, W, item, fun b hb hn => absurd hb hn⟩, ?_⟩, r1, r2, ⟨_, Heap.get?_push_size _ rfl, rfl, rfl⟩, r3⟩
      intro i h b st hb
      simp at hb; subst hb; obtain ⟨o, ho, _⟩ := st; exact ⟨o, ho⟩
    · obtain ⟨r1, r2, r3⟩ := S.newI { cls := .type "str_ascii_iterator", data := .fields #[.str x t, .int 0 0] } rfl
      have W := fun (A : Around) (hA : A.handled = none) => Walks.strAscii (prog := C.prog) (w := C.w) hA s.heap.objs.size x t
      rw [← len] at W
      refine wpAny_pyIter_ascii ha ⟨fz, _, _, _, _, rfl, .refl _, ⟨⟨_, _, W, item, fun b hb hn => absurd hb hn⟩, ?_⟩, r1, r2, ⟨_, Heap.get?_push_size _ rfl, rfl, rfl⟩, r3⟩
      intro i h b st hb
      simp at hb; subst hb; obtain ⟨o, ho, _⟩ := st; exact ⟨o, ho⟩
end

section
variable {C : Cx} {led : Led} {fe : Fe} {vs : Vars} {k : Nat}

theorem WU.name {x : Str} {px : Pos} {d : D} {Q : Vars → Led → Prop} (h : WU C led fe vs k (storeName fe.env x) d Q) : WU C led fe vs k (PySem.assign (.Name x px) fe.env) d Q := by
  intro F X hF hd A fz G s v hA S e
  show wpAny _ _ (standAt px >>= fun _ => bindName fe.env x v) _ _ s
  exact wpAny_bind (wpAny_standAt (wpAny_bindName (h F X hF hd A fz G s v hA S e)))

/-- behind a turn of a for -/
inductive KSome (I : Vars → Led → Prop) (vs : Vars) (led : Led) : Prop
  | mk (vs5 : Vars) : Sub vs5 vs → I vs5 led → KSome I vs led
noncomputable abbrev KFT (I : Vars → Led → Prop) (Q : Fl → Vars → Led → Prop) : Fl → Vars → Led → Prop := fun fl vs4 led4 => match fl with
          | .next | .cont => KSome I vs4 led4
          | .brk => Q .next vs4 led4
          | .ret d => Q (.ret d) vs4 led4
noncomputable abbrev KFB (C : Cx) (fe : Fe) (k : Nat) (body : List Stmt) (Q : Fl → Vars → Led → Prop) : Vars → Led → Prop := fun vs3 led3 => WS C led3 fe vs3 k (execs body fe.env) Q
inductive KFor (C : Cx) (fe : Fe) (vs : Vars) (k : Nat) (target : Expr) (body : List Stmt) (Q : Fl → Vars → Led → Prop) (d : D) (led1 : Led) : Prop
  | mk (items : List D) (I : Nat → Vars → Led → Prop) : (∀ Y, IterOf C Y led1 d items) → KSome (I 0) vs (itl led1 d) →
      (∀ i x vs2 led2, items[i]? = some x → I i vs2 led2 → WU C led2 fe vs2 k (PySem.assign target fe.env) x (KFB C fe k body (KFT (I (i + 1)) Q))) →
      (∀ vs2 led2, I items.length vs2 led2 → Q .next vs2 led2) → KFor C fe vs k target body Q d led1
structure KThis (vs : Vars) (led : Led) (vs4 : Vars) (led4 : Led) : Prop where
  s : Sub vs vs4
  e : led4 = led
noncomputable abbrev KFTI (vs : Vars) (led : Led) (Q : Fl → Vars → Led → Prop) : Fl → Vars → Led → Prop := fun fl vs4 led4 => match fl with
          | .next | .cont => KThis vs led vs4 led4
          | .brk => Q .next vs4 led4
          | .ret d => Q (.ret d) vs4 led4
theorem swap_of {R F X : Led} (h : Dj R F) : Un R (Un F X) = Un F (Un R X) := by
  funext b
  rcases h b with q | q
  · rw [Un_right q]
    cases hf : F b with
    | some m => rw [Un_left hf, Un_left hf]
    | none => rw [Un_right hf, Un_right hf, Un_right q]
  · rw [Un_right q]
    cases hr : R b with
    | some m => rw [Un_left hr, Un_left hr]
    | none => rw [Un_right hr, Un_right hr, Un_right q]
theorem keepX_of {R F X : Led} (h : Dj R (Un F X)) (a : Addr) (m : M) (e : X a = some m) : (Un R X) a = some m := by
  rw [Un_right ((h.right a).resolve_right (by rw [e]; exact Option.some_ne_none _))]; exact e
theorem Raws.backF {wr : List Addr} {R F X : Led} {fe : Fe} {vs : Vars} (hR : Raws wr R) (hF : FOk fe vs F (Un R X)) : FOk fe vs F X where
  fn := hF.fn
  glob := hF.glob
  blt := hF.blt
  loc := hF.loc
  own := hF.own
  inj := hF.inj
  cel := fun x d e q => by
    obtain ⟨c, a, b⟩ := hF.cel x d e q
    refine ⟨c, a, ?_⟩
    cases hf : F c with
    | some m => rw [Un_left hf] at b; rw [Un_left hf]; exact b
    | none =>
      rw [Un_right hf] at b; rw [Un_right hf]
      cases hr : R c with
      | none => rw [Un_right hr] at b; exact b
      | some m =>
        rw [Un_left hr] at b
        by_cases hw : c ∈ wr
        · obtain ⟨o, z⟩ := hR.here c hw; rw [hr] at z; cases z; cases b
        · rw [hR.not c hw] at hr; cases hr
inductive ForInv (C : Cx) (fe : Fe) (wr : List Addr) (items : List D) (St₀ : Nat → Heap → Prop) (I : Nat → Vars → Led → Prop) (X : Led) (fz : Fz) (G : Array GenState) (n : Nat) (s' : Shared) : Prop
  | mk (i : Nat) (fz' : Fz) (G' : Array GenState) (F' : Led) (vs' : Vars) (led' R' : Led) : n = items.length - i → i ≤ items.length → FzLe fz fz' → GExt G G' → FOk fe vs' F' X → Dj F' X → Raws wr R' → Dj R' (Un F' X) → St₀ i s'.heap →
      St C fz' led' (Un R' (Un F' X)) G' s' → I i vs' led' → ForInv C fe wr items St₀ I X fz G n s'
theorem for_turn {target : Expr} {body : List Stmt} {Q : Fl → Vars → Led → Prop} {Ia : Addr} {wr : List Addr} {items : List D} {St₀ : Nat → Heap → Prop} {I : Nat → Vars → Led → Prop} {i n : Nat} {d : D} {vs3 : Vars} {led3 : Led}
    (step : WU C led3 fe vs3 k (PySem.assign target fe.env) d (KFB C fe k body (KFT (I (i + 1)) Q))) {F3 X R4 : Led} {fz fz2 fz3 : Fz} {G G3 : Array GenState} {A : Around} {s4 : Shared} {v : Value} {EX EY : Value → Shared → Prop} {P : Flow → Shared → Prop}
    (hn : n = items.length - i) (hi : i < items.length) (hA : RoomF k A fe X) (itr : Itr C fz2 Ia wr items St₀) (hF3 : FOk fe vs3 F3 X) (hd3 : Dj F3 X) (hR4 : Raws wr R4) (l2 : FzLe fz fz2) (l3 : FzLe fz2 fz3) (g3 : GExt G G3) (e4 : Den fz3 v d) (hdR4 : Dj R4 (Un F3 X)) (hst4 : St₀ (i + 1) s4.heap)
    (S4 : St C fz3 led3 (Un R4 (Un F3 X)) G3 s4) (hnext : ∀ s, (∃ m, m < n ∧ ForInv C fe wr items St₀ I X fz2 G m s) → P .next s) (hcont : ∀ s, (∃ m, m < n ∧ ForInv C fe wr items St₀ I X fz2 G m s) → P .cont s)
    (hbrk : ∀ s, Psf C fz X fe G Q .next s → P .brk s) (hret : ∀ v s, Psf C fz X fe G Q (.ret v) s → P (.ret v) s) :
    wpAny (model C.prog C.w) A (PySem.assign target fe.env v) (fun _ s₂ => wpAny (model C.prog C.w) A (execs body fe.env) P EX s₂) EY s4 := by
  have sw3 := swap_of (X := X) hdR4.left
  have hA4 : RoomF k A fe (Un R4 X) := hA.upX fun a m e => keepX_of hdR4 a _ e
  have S4' := S4
  rw [sw3] at S4'
  refine chainU (step F3 (Un R4 X) (hF3.up fun a m e => keepX_of hdR4 a m e) (Dj.Un hdR4.left.symm hd3) A fz3 G3 s4 v hA4 S4' e4) fun s5 fz5 G5 F5 vs5 led5 l5 g5 hF5 hd5 S5 h5 => ?_
  refine chainF (h5 F5 (Un R4 X) hF5 hd5 A fz5 G5 s5 hA4 S5) fun f s6 fz6 G6 F6 vs6 led6 fl l6 g6 e6 hF6 hd6 S6 h6 => ?_
  have hdR6 : Dj R4 (Un F6 X) := Dj.Un hd6.left.symm hdR4.right
  have S6' : St C fz6 led6 (Un R4 (Un F6 X)) G6 s6 := by rw [swap_of hdR6.left]; exact S6
  have keep := itr.mono l3 |>.keep (i := i + 1) (l5.trans l6) hR4 (fun a m e => Un_left e) (fun a m e => Un_left e) S4 S6' hst4
  have back : FOk fe vs6 F6 X := hR4.backF hF6
  have go : KSome (I (i + 1)) vs6 led6 → ∃ m, m < n ∧ ForInv C fe wr items St₀ I X fz2 G m s6 := fun ⟨vs7, hs7, hI7⟩ =>
    ⟨items.length - (i + 1), hn ▸ Nat.sub_succ_lt_self _ _ hi, .mk (i + 1) fz6 G6 F6 vs7 led6 R4 rfl hi ((l3.trans l5).trans l6) ((g3.trans g5).trans g6) (back.sub hs7) hd6.right hR4 hdR6 keep S6' hI7⟩
  have en : ∀ f' fl', FlDen fz6 f' fl' → Q fl' vs6 led6 → Psf C fz X fe G Q f' s6 := fun f' fl' e q => ⟨fz6, G6, F6, vs6, led6, fl', (l2.trans l3).trans (l5.trans l6), (g3.trans g5).trans g6, e, back, hd6.right, S6'.drop hdR6, q⟩
  clear keep S6 S5 S4 S4' h5 step hst4
  induction e6 using FlDen.E with
  | next => exact hnext _ (go h6)
  | cont => exact hcont _ (go h6)
  | brk => exact hbrk _ (en .next .next trivial h6)
  | ret v d e6 => exact hret _ _ (en (.ret v) (.ret d) e6 h6)
theorem WS.for {target iter : Expr} {body : List Stmt} {pos : Pos} {Q : Fl → Vars → Led → Prop}
    (h : WE C led fe vs k (eval iter fe.env) (KFor C fe vs k target body Q))
    (ht : autoParam (∀ it v, letOwnedTupleGo target it v = pure ()) autA) (hs : autoParam (∀ x, foldedSetIterable iter fe.env x = pure x) autA) :
    WS C led fe vs k (exec (.For target iter body [] pos) fe.env) Q := by
  intro F X hF hd A fz G s hA S
  refine wpAny_For (chain (h F X hF hd A fz G s hA S) fun v1 s1 fz1 G1 d1 led1 l1 g1 e1 S1 h1 => ?_) hs
  obtain ⟨items, I, hit, ⟨vs0, hsub, hI0⟩, step, done⟩ := h1
  refine wpAny_mono (hit _ A fz1 G1 s1 v1 (hA.r.mono (Nat.zero_le _)) S1 e1) (fun it s2 p => ?_) fun _ _ x => x.elim
  obtain ⟨fz2, Ia, wr, R, St₀, rfl, l2, itr, hR, hdR, hst, S2⟩ := p
  refine codeAny_forLoop (fun n s' => ForInv C fe wr items St₀ I X fz2 G n s')
    (fun n s3 hI => ?_) items.length (.mk 0 fz2 G1 F vs0 (itl led1 d1) R (by lia) (Nat.zero_le _) (.refl _) g1 (hF.sub hsub) hd hR hdR hst S2 hI0) (ht _)
  obtain ⟨i, fz3, G3, F3, vs3, led3, R3, hn, hi, l3, g3, hF3, hd3, hR3, hdR3, hst3, S3, hI⟩ := hI
  refine (itr.mono l3).next hA.r.1 hR3 hdR3 S3 hst3 hi (fun v d R4 s4 hx e4 hR4 hdR4 S4 hst4 => ?_) fun s4 hi' S4 => ?_
  · exact for_turn (step i d vs3 led3 hx hI) hn (List.getElem?_eq_some_iff.mp hx).1 hA itr hF3 hd3 hR4 (l1.trans l2) l3 g3 e4 hdR4 hst4 S4 (fun _ h => h) (fun _ h => h) (fun _ h => h) fun _ _ h => h
  · subst hi'
    exact wpAny_execs_nil ⟨fz3, G3, F3, vs3, led3, .next, (l1.trans l2).trans l3, g3, trivial, hF3, hd3, S4, done _ _ hI⟩

/-- a for whose state is told turn by turn -/
theorem WS.forI {target iter : Expr} {body : List Stmt} {pos : Pos} {Q : Fl → Vars → Led → Prop} (V : Nat → Vars) (Ld : Nat → Led)
    (h : WE C led fe vs k (eval iter fe.env) fun d led1 => ∃ (items : List D), (∀ Y, IterOf C Y led1 d items) ∧ Sub (V 0) vs ∧ itl led1 d = Ld 0 ∧
      (∀ i x, items[i]? = some x → WU C (Ld i) fe (V i) k (PySem.assign target fe.env) x (KFB C fe k body (KFTI (V (i + 1)) (Ld (i + 1)) Q))) ∧
      Q .next (V items.length) (Ld items.length))
    (ht : autoParam (∀ it v, letOwnedTupleGo target it v = pure ()) autA) (hs : autoParam (∀ x, foldedSetIterable iter fe.env x = pure x) autA) :
    WS C led fe vs k (exec (.For target iter body [] pos) fe.env) Q := by
  refine WS.for (h.mono fun d led1 q => ?_) ht hs
  obtain ⟨items, a, b, c, e, f⟩ := q
  refine ⟨items, fun i vs led' => vs = V i ∧ led' = Ld i, a, ⟨_, b, rfl, c⟩, ?_, ?_⟩
  · rintro i x vs2 led2 hx ⟨rfl, rfl⟩
    refine (e i x hx).mono fun vs3 led3 w => w.mono fun fl vs4 led4 q => ?_
    cases fl with
    | next => exact ⟨_, q.1, rfl, q.2⟩
    | cont => exact ⟨_, q.1, rfl, q.2⟩
    | brk => exact q
    | ret d => exact q
  · rintro vs2 led2 ⟨rfl, rfl⟩; exact f
end
end Sc

namespace Sc
set_option tactic.hygienic false

noncomputable def emitT (elt : Expr) (acc : Value) (env : Env) : Sem Unit := do let _ ← call (.builtin "list.append") [acc, ← eval elt env]
noncomputable def nestT (e : Expr) (g : Comprehension) (depth : Nat) (acc : Value) (env : Env) : Sem Unit := do
  let x ← eval g.iter env
  standAt g.iter.pos
  let x ← foldedSetIterable g.iter env x
  let _ ← runOwn (.compStart e (depth + 1) (← holding [x] (pyIter x)) acc env) env
noncomputable def innerT (elt : Expr) (gens : List Comprehension) (scope : Scope) (pos : Pos) (depth : Nat) (acc : Value) (env : Env) : Sem Unit :=
  match gens[depth + 1]? with
  | some g => nestT (.ListComp elt gens scope pos) g depth acc env
  | none => emitT elt acc env
noncomputable def testsT (ifs : List Expr) (env : Env) : Sem Bool := forIn ifs true fun c r => if r = true then do let ok ← isTrue c env (eval c env); pure (ForInStep.yield ok) else pure (ForInStep.yield r)

theorem compTurn_at {elt target iter : Expr} {ifs : List Expr} {gens : List Comprehension} {scope : Scope} {pos : Pos} {depth : Nat} {it acc : Value} {env : Env}
    (hg : gens[depth]? = some ⟨target, iter, ifs, 0⟩) (hn : ∀ g, gens[depth + 1]? = some g → g.is_async = 0) :
    compTurn (.ListComp elt gens scope pos) depth it acc env = (do
      standAt iter.pos
      match ← pyNext it with
      | none => pure (.done .next)
      | some v =>
        letOwnedTupleGo target it v
        PySem.assign target env v
        let ok ← testsT ifs env
        if ok then innerT elt gens scope pos depth acc env
        again (.compLoop (.ListComp elt gens scope pos) depth it acc env)) := by
  unfold compTurn innerT nestT emitT testsT
  dsimp only
  rw [hg]
  cases h : gens[depth + 1]? with
  | none => rfl
  | some g =>
    obtain ⟨t, i, f, a⟩ := g
    have ha : a = 0 := hn _ h
    subst ha
    simp only [bind_assoc]
    rfl

theorem FOk.down {fe : Fe} {vs : Vars} {F X X' : Led} (h : FOk fe vs F X') (i : ∀ c d, X' c = some (.cell (some d)) → X c = some (.cell (some d))) : FOk fe vs F X where
  fn := h.fn
  glob := h.glob
  blt := h.blt
  loc := h.loc
  cel := fun x d e q => let ⟨c, a, b⟩ := h.cel x d e q; ⟨c, a, by
    cases hF : F c with
    | some m => rw [Un_left hF] at b; rw [Un_left hF]; exact b
    | none => rw [Un_right hF] at b; rw [Un_right hF]; exact i _ _ b⟩
  own := h.own
  inj := h.inj
theorem Un_swap {R F Z : Led} (h : Dj R F) : Un R (Un F Z) = Un F (Un R Z) := swap_of h
theorem Raws.cell {wr : List Addr} {R X : Led} (h : Raws wr R) {c : Addr} {d : Option D} (e : Un R X c = some (.cell d)) : X c = some (.cell d) := by
  cases hr : R c with
  | none => rw [Un_right hr] at e; exact e
  | some m =>
    rw [Un_left hr] at e
    by_cases hw : c ∈ wr
    · obtain ⟨o, z⟩ := h.here c hw; rw [hr] at z; cases z; cases e
    · rw [h.not c hw] at hr; cases hr

/-- an act within a comprehension: the list at Da grows -/
inductive Psc (C : Cx) (fz : Fz) (X : Led) (fe : Fe) (G : Array GenState) (Da : Addr) (Q : Vars → Led → List D → Prop) (s' : Shared) : Prop
  | mk (fz' : Fz) (G' : Array GenState) (F' : Led) (vs' : Vars) (led' : Led) (acc' : List D) : FzLe fz fz' → GExt G G' → FOk fe vs' F' X → Dj F' (upd X Da (.list acc')) → St C fz' led' (Un F' (upd X Da (.list acc'))) G' s' → Q vs' led' acc' → Psc C fz X fe G Da Q s'
noncomputable def WC (C : Cx) (led : Led) (fe : Fe) (vs : Vars) (k : Nat) (Da : Addr) (acc : List D) (t : Sem Unit) (Q : Vars → Led → List D → Prop) : Prop :=
  ∀ F X, FOk fe vs F X → X Da = none → Dj F (upd X Da (.list acc)) → ∀ A fz G s, RoomF k A fe X → St C fz led (Un F (upd X Da (.list acc))) G s →
    wpAny (model C.prog C.w) A t (fun _ s' => Psc C fz X fe G Da Q s') No s

theorem St.outer {C : Cx} {fz : Fz} {led F X : Led} {G : Array GenState} {s : Shared} (S : St C fz led (Un F X) G s) (hd : Dj F X) {a : Addr} {m₀ m : M} (ha : X a = some m₀) {h' : Heap} (t : Nat) (hk : Heap.ExtBut a s.heap h') (hm : MAt fz h' a m) :
    St C fz led (Un F (upd X a m)) G { s with heap := h', toks := t } ∧ Dj F (upd X a m) := by
  have hF : F a = none := (hd a).resolve_right (by rw [ha]; exact Option.some_ne_none _)
  have hl : led a = none := (S.dj a).resolve_right (by rw [Un_right hF, ha]; exact Option.some_ne_none _)
  refine ⟨⟨?_, ?_⟩, (hd.symm.upd m hF).symm⟩
  · rw [Un_upd_r _ _ _ _ hF]; exact (Dj.upd S.dj.symm m hl).symm
  · rw [Un_upd_r _ _ _ _ hF, Un_upd_r _ _ _ _ hl]
    exact S.rel.upd (m₀ := m₀) (by rw [Un_right hl, Un_right hF, ha]) t hk hm

section
variable {C : Cx} {led : Led} {fe : Fe} {vs : Vars} {k : Nat}

theorem WC.emit {elt : Expr} {Da : Addr} {acc : List D} {Q : Vars → Led → List D → Prop} (h : WE C led fe vs k (eval elt fe.env) fun d led' => acc.length ≤ 1000000 ∧ Q vs led' (acc ++ [d])) :
    WC C led fe vs k Da acc (emitT elt (.ref Da) fe.env) Q := by
  intro F X hF hD hd A fz G s hA S
  unfold emitT
  refine wpAny_bind (chain (h F (upd X Da (.list acc)) (hF.up fun a m e => by rw [upd_ne _ _ (fun z => by subst z; rw [hD] at e; cases e)]; exact e) hd A fz G s (hA.upX fun a m e => by rw [upd_ne _ _ (fun z => by subst z; rw [hD] at e; cases e)]; exact e) S) fun v1 s1 fz1 G1 d1 led1 l1 g1 e1 S1 h1 => ?_)
  have hY : (upd X Da (.list acc)) Da = some (.list acc) := upd_same ..
  have hFD : F Da = none := (hd Da).resolve_right (by rw [hY]; exact Option.some_ne_none _)
  obtain ⟨xs, n, hg, hds⟩ := S1.at (by rw [Un_right hFD]; exact hY)
  have hz : xs.toArray.size ≤ sizeLine := by rw [List.size_toArray, hds.length]; exact Nat.le_trans h1.1 (by decide)
  refine wpAny_bind (call_meets PySem.F.slot_list_append ⟨_, hg, rfl⟩ PySem.F.entry_list_append (PySem.F.args_list_append_2 _ _) (list_append Da xs.toArray n v1 hz) ⟨hg, wpAny_pure ?_⟩)
  have hu := IsL.update hg (fun x => x.push v1)
  obtain ⟨S2, hd2⟩ := S1.outer hd hY (m := .list (acc ++ [d1])) (h' := s1.heap.update Da (Obj.mapSeq fun x => x.push v1)) s1.toks (Heap.SameBut.update ..).extBut
    ⟨xs ++ [v1], n + 1, by rw [hu]; simp, hds.snoc e1⟩
  rw [upd_upd] at S2 hd2
  exact ⟨fz1, G1, F, vs, led1, _, l1, g1, hF, hd2, S2, h1.2⟩

/-- the ledgers in a turn of a comprehension -/
structure CompLed (F X R : Led) (Da : Addr) (acc : List D) : Prop where
  hRD : R Da = none
  eqY : Un R (Un F (upd X Da (.list acc))) = Un F (upd (Un R X) Da (.list acc))
  hdX : Dj R X
  hd2 : Dj F (upd (Un R X) Da (.list acc))
  upX : ∀ a m, X a = some m → (upd (Un R X) Da (.list acc)) a = some m
  upX2 : ∀ a m, X a = some m → (Un R X) a = some m
  downX : ∀ c d, (upd (Un R X) Da (.list acc)) c = some (.cell (some d)) → (Un R X) c = some (.cell (some d))
  hXD : (Un R X) Da = none
theorem CompLed.of {F X R : Led} {Da : Addr} {acc : List D} (hD : X Da = none) (hd1 : Dj F (upd X Da (.list acc))) (hdR2 : Dj R (Un F (upd X Da (.list acc)))) : CompLed F X R Da acc := by
  have hY : (upd X Da (.list acc)) Da = some (.list acc) := upd_same ..
  have hFD : F Da = none := (hd1 Da).resolve_right (by rw [hY]; exact Option.some_ne_none _)
  have hRD : R Da = none := (hdR2 Da).resolve_right (by rw [Un_right hFD, hY]; exact Option.some_ne_none _)
  have hdX : Dj R X := fun a => by
    by_cases ha : a = Da
    · subst ha; exact .inl hRD
    · exact (hdR2.right a).imp id fun q => by rwa [upd_ne _ _ ha] at q
  have upX2 : ∀ a m, X a = some m → (Un R X) a = some m := fun a m e => by
    rw [Un_right ((hdX a).resolve_right (by rw [e]; exact Option.some_ne_none _))]; exact e
  refine ⟨hRD, by rw [Un_swap hdR2.left, Un_upd_r _ _ _ _ hRD], hdX, by rw [← Un_upd_r _ _ _ _ hRD]; exact Dj.Un hdR2.left.symm hd1, fun a m e => ?_, upX2, fun c d e => ?_, Un_none.mpr ⟨hRD, hD⟩⟩
  · rw [upd_ne _ _ (fun z => by subst z; rw [hD] at e; cases e)]; exact upX2 a m e
  · by_cases hc : c = Da
    · subst hc; rw [upd_same] at e; cases e
    · rwa [upd_ne _ _ hc] at e
theorem CompLed.back {F X R : Led} {Da : Addr} {acc acc5 : List D} {F5 : Led} (L : CompLed F X R Da acc) (hd5 : Dj F5 (upd (Un R X) Da (.list acc5))) :
    Dj F5 (upd X Da (.list acc5)) ∧ Dj R (Un F5 (upd X Da (.list acc5))) ∧ Un R (Un F5 (upd X Da (.list acc5))) = Un F5 (upd (Un R X) Da (.list acc5)) := by
  have hd5' : Dj F5 (Un R (upd X Da (.list acc5))) := by rw [Un_upd_r _ _ _ _ L.hRD]; exact hd5
  have hdR5 : Dj R (Un F5 (upd X Da (.list acc5))) := Dj.Un hd5'.left.symm fun a => by
    by_cases ha : a = Da
    · subst ha; exact .inl L.hRD
    · rw [upd_ne _ _ ha]; exact L.hdX a
  exact ⟨hd5'.right, hdR5, by rw [Un_swap hdR5.left, Un_upd_r _ _ _ _ L.hRD]⟩
inductive CompInv (C : Cx) (fe : Fe) (Da : Addr) (wr : List Addr) (items : List D) (St₀ : Nat → Heap → Prop) (Iv : Nat → Vars → Led → List D → Prop) (X : Led) (fz : Fz) (G : Array GenState) (n : Nat) (s' : Shared) : Prop
  | mk (i : Nat) (fz' : Fz) (G' : Array GenState) (F' : Led) (vs' : Vars) (led' R' : Led) (acc' : List D) : n = items.length - i → i ≤ items.length → FzLe fz fz' → GExt G G' → FOk fe vs' F' X → Dj F' (upd X Da (.list acc')) → Raws wr R' →
      Dj R' (Un F' (upd X Da (.list acc'))) → St₀ i s'.heap → St C fz' led' (Un R' (Un F' (upd X Da (.list acc')))) G' s' → Iv i vs' led' acc' → CompInv C fe Da wr items St₀ Iv X fz G n s'
noncomputable abbrev CompEnd (I : Vars → Led → List D → Prop) : Vars → Led → List D → Prop := fun vs5 led5 acc5 => ∃ vs6, Sub vs6 vs5 ∧ I vs6 led5 acc5
/-- a turn -/
theorem comp_turn {ifs : List Expr} {target : Expr} {t : Sem Unit} {I Da : Addr} {wr : List Addr} {items : List D} {St₀ : Nat → Heap → Prop} {Iv : Nat → Vars → Led → List D → Prop} {i n : Nat} {d : D} {vs1 : Vars} {led1 : Led} {acc1 : List D}
    (step : WU C led1 fe vs1 k (PySem.assign target fe.env) d fun vs3 led3 => WB C led3 fe vs3 k (testsT ifs fe.env) fun ok led4 => (ok = true → WC C led4 fe vs3 k Da acc1 t (CompEnd (Iv (i + 1)))) ∧ (ok = false → ∃ vs6, Sub vs6 vs3 ∧ Iv (i + 1) vs6 led4 acc1))
    {F1 X R2 : Led} {fz fzn : Fz} {G G1 : Array GenState} {A : Around} {s2 : Shared} {v : Value} {c : Code} (hn1 : n = items.length - i) (hlt : i < items.length) (hA : RoomF k A fe X) (itr : ItrT C fz I wr items St₀ target) (hF1 : FOk fe vs1 F1 X) (hd1 : Dj F1 (upd X Da (.list acc1)))
    (hR2 : Raws wr R2) (l1 : FzLe fz fzn) (g1 : GExt G G1) (e2 : Den fzn v d) (hst2 : St₀ (i + 1) s2.heap) (S2 : St C fzn led1 (Un R2 (Un F1 (upd X Da (.list acc1)))) G1 s2) (L : CompLed F1 X R2 Da acc1) :
    wpAny (model C.prog C.w) A (do
          PySem.assign target fe.env v
          let ok ← testsT ifs fe.env
          if ok then t
          again c) (fun r s₁ => r = .again c ∧ ∃ m, m < n ∧ CompInv C fe Da wr items St₀ Iv X fz G m s₁) No s2 := by
  have S2' := S2
  rw [L.eqY] at S2'
  have hAX : RoomF k A fe (upd (Un R2 X) Da (.list acc1)) := hA.upX fun a m e => L.upX a _ e
  refine wpAny_bind ?_
  refine chainU (step F1 _ (hF1.up L.upX) L.hd2 A fzn G1 s2 v hAX S2' e2) fun s3 fz3 G3 F3 vs3 led3 l3 g3 hF3 hd3 S3 h3 => ?_
  refine wpAny_bind (chainB (h3 F3 _ hF3 hd3 A fz3 G3 s3 hAX S3) fun ok s4 fz4 G4 led4 l4 g4 S4 h4 => ?_)
  have hF3' : FOk fe vs3 F3 (Un R2 X) := hF3.down L.downX
  have close : ∀ (s5 : Shared) (fz5 : Fz) (G5 : Array GenState) (F5 : Led) (vs5 : Vars) (led5 : Led) (acc5 : List D) , FzLe fz4 fz5 → GExt G4 G5 → FOk fe vs5 F5 (Un R2 X) → Dj F5 (upd (Un R2 X) Da (.list acc5)) →
      St C fz5 led5 (Un F5 (upd (Un R2 X) Da (.list acc5))) G5 s5 → (∃ vs6, Sub vs6 vs5 ∧ Iv (i + 1) vs6 led5 acc5) → ∃ m, m < n ∧ CompInv C fe Da wr items St₀ Iv X fz G m s5 := by
    intro s5 fz5 G5 F5 vs5 led5 acc5 l5 g5 hF5 hd5 S5 ⟨vs6, hs6, hI6⟩
    have hx_3 := L.back hd5; have hd5' := hx_3.1; have hdR5 := hx_3.2.1; have eq5 := hx_3.2.2
    have S5' : St C fz5 led5 (Un R2 (Un F5 (upd X Da (.list acc5)))) G5 s5 := by rw [eq5]; exact S5
    refine ⟨items.length - (i + 1), hn1 ▸ Nat.sub_succ_lt_self _ _ hlt, .mk (i + 1) fz5 G5 F5 vs6 led5 R2 acc5 rfl (by lia) (((l1.trans l3).trans l4).trans l5) (((g1.trans g3).trans g4).trans g5) ((hF5.sub hs6).down fun c d e => hR2.cell e) hd5' hR2 hdR5 ?_ S5' hI6⟩
    exact itr.keep (i := i + 1) l1 ((l3.trans l4).trans l5) hR2 (fun a m e => Un_left e) (fun a m e => Un_left e) S2 S5' hst2
  clear step S2 S2' hst2 h3 S3
  cases ok with
  | false =>
    rw [if_neg Bool.false_ne_true]
    exact wpAny_pure ⟨rfl, close s4 fz4 G4 F3 vs3 led4 acc1 (.refl _) (.refl _) hF3' hd3 S4 (h4.2 rfl)⟩
  | true =>
    rw [if_pos rfl]
    refine wpAny_bind (wpAny_mono (h4.1 rfl F3 (Un R2 X) hF3' L.hXD hd3 A fz4 G4 s4 (hA.upX fun a m e => L.upX2 a _ e) S4) (fun _ s5 p => ?_) fun _ _ x => x.elim)
    obtain ⟨fz5, G5, F5, vs5, led5, acc5, l5, g5, hF5, hd5, S5, q⟩ := p
    exact wpAny_pure ⟨rfl, close s5 fz5 G5 F5 vs5 led5 acc5 l5 g5 hF5 hd5 S5 q⟩
theorem comp_loop {elt target iter : Expr} {ifs : List Expr} {gens : List Comprehension} {scope : Scope} {pos : Pos} {depth : Nat} {I Da : Addr} {wr : List Addr} {items : List D} {St₀ : Nat → Heap → Prop}
    (hg : gens[depth]? = some ⟨target, iter, ifs, 0⟩) (hn : ∀ g, gens[depth + 1]? = some g → g.is_async = 0)
    (Iv : Nat → Vars → Led → List D → Prop)
    (step : ∀ i x vs2 led2 acc2, items[i]? = some x → Iv i vs2 led2 acc2 → WU C led2 fe vs2 k (PySem.assign target fe.env) x fun vs3 led3 =>
      WB C led3 fe vs3 k (testsT ifs fe.env) fun ok led4 => (ok = true → WC C led4 fe vs3 k Da acc2 (innerT elt gens scope pos depth (.ref Da) fe.env) fun vs5 led5 acc5 => ∃ vs6, Sub vs6 vs5 ∧ Iv (i + 1) vs6 led5 acc5) ∧
        (ok = false → ∃ vs6, Sub vs6 vs3 ∧ Iv (i + 1) vs6 led4 acc2))
    {F X : Led} {fz : Fz} {G : Array GenState} {A : Around} {R : Led} {acc : List D} {s : Shared} (hA : RoomF k A fe X) (itr : ItrT C fz I wr items St₀ target) (hF : FOk fe vs F X) (hD : X Da = none) (hd : Dj F (upd X Da (.list acc)))
    (hR : Raws wr R) (hdR : Dj R (Un F (upd X Da (.list acc)))) (hst : St₀ 0 s.heap) (S : St C fz led (Un R (Un F (upd X Da (.list acc)))) G s) (h0 : Iv 0 vs led acc) {RR : Result → Shared → Prop}
    (hRR : ∀ s', Psc C fz X fe G Da (Iv items.length) s' → RR (.ok .next) s') :
    codeAny (model C.prog C.w) A (.compLoop (.ListComp elt gens scope pos) depth (.ref I) (.ref Da) fe.env) RR s := by
  refine codeAny_loop (n := items.length) (by rfl) (fun n s' => CompInv C fe Da wr items St₀ Iv X fz G n s')
    (fun n s1 hI => ?_) (.mk 0 fz G F vs led R acc (by lia) (Nat.zero_le _) (.refl _) (.refl _) hF hd hR hdR hst S h0)
  obtain ⟨i, fz1, G1, F1, vs1, led1, R1, acc1, hn1, hi, l1, g1, hF1, hd1, hR1, hdR1, hst1, S1, hI1⟩ := hI
  show wpAny _ A ((compTurn (.ListComp elt gens scope pos) depth (.ref I) (.ref Da) fe.env).onRaise (fun x => do noteFrame x fe.env; theTreesLotGoes x)) _ _ s1
  refine wpAny_noted ?_
  rw [compTurn_at hg hn]
  refine wpAny_bind (wpAny_standAt (wpAny_bind ?_))
  refine wpAny_mono (itr.next (Q := fun o s2 => match o with
      | none => wpAny (model C.prog C.w) A (pure (PySem.Fin.done Flow.next)) _ _ s2
      | some v => wpAny (model C.prog C.w) A (do
          PySem.assign target fe.env v
          let ok ← testsT ifs fe.env
          if ok then innerT elt gens scope pos depth (.ref Da) fe.env
          again (.compLoop (.ListComp elt gens scope pos) depth (.ref I) (.ref Da) fe.env)) _ _ s2) hA.r.1 l1 hR1 hdR1 S1 hst1 hi (fun v d R2 s2 fzn hx ln e2 hR2 hdR2 S2 hst2 => ?_) fun s2 hi2 S2 => ?_) (fun o s2 h => match o with
      | none => h
      | some v => wpAny_bind h) fun _ _ x => x
  · exact wpAny_mono (comp_turn (step i d vs1 led1 acc1 hx hI1) hn1 (List.getElem?_eq_some_iff.mp hx).1 hA itr hF1 hd1 hR2 (l1.trans ln) g1 e2 hst2 S2 (.of hD hd1 hdR2)) (fun r s3 h => by obtain ⟨rfl, h⟩ := h; exact ⟨rfl, h⟩) fun _ _ x => x.elim
  · subst hi2
    exact wpAny_pure (hRR _ ⟨fz1, G1, F1, vs1, led1, acc1, l1, g1, hF1, hd1, S2, hI1⟩)
end
end Sc

namespace Sc
set_option tactic.hygienic false

theorem lookup_relabel_inv {env : Env} : ∀ {names : List (Str × NameKind)} {x : Str},
    (names.map fun (n, k) => if (k == NameKind.free && env.scope.kind == .function && env.kindOf n == some .cell) then (n, NameKind.cell) else (n, k)).lookup x = some .local → names.lookup x = some .local
  | [], _, h => by simp at h
  | (n, k) :: r, x, h => by
    have ih := @lookup_relabel_inv env r x
    have h' : List.lookup x ((if (k == NameKind.free && env.scope.kind == .function && env.kindOf n == some .cell) = true then (n, NameKind.cell) else (n, k)) ::
      (r.map fun (n, k) => if (k == NameKind.free && env.scope.kind == .function && env.kindOf n == some .cell) then (n, NameKind.cell) else (n, k))) = some .local := h
    by_cases hc : (k == NameKind.free && env.scope.kind == .function && env.kindOf n == some .cell) = true
    · rw [if_pos hc] at h'
      rw [List.lookup_cons] at h' ⊢
      cases hx : x == n with
      | true => rw [hx] at h'; cases h'
      | false => rw [hx] at h'; exact ih h'
    · rw [if_neg hc] at h'
      rw [List.lookup_cons] at h' ⊢
      cases hx : x == n with
      | true => rw [hx] at h'; exact h'
      | false => rw [hx] at h'; exact ih h'
theorem FOk.relabel {env env₀ : Env} {ow : List Str} {vs : Vars} {F X : Led} (h : FOk ⟨env, ow⟩ vs F X) : FOk ⟨{ env with scope := PySem.relabel env.scope env₀ }, ow⟩ vs F X where
  fn := h.fn
  glob := h.glob
  blt := h.blt
  loc := let ⟨m, a, b⟩ := h.loc; ⟨m, a, fun x d e q => b x d e (lookup_relabel_inv q)⟩
  cel := fun x d e q => h.cel x d e fun z => q (lookup_relabel_local z)
  own := h.own
  inj := h.inj

/-- the outer frame's bindings of a comprehension's free names -/
noncomputable def fvOf (scope : Scope) (vs : Vars) : Vars := vs.filter fun p => scope.names.lookup p.1 == some .free
noncomputable def freeOk (scope : Scope) (vs : Vars) : Bool := scope.names.all fun p => p.2 != .free || vs.any (fun q => q.1 == p.1)
noncomputable def namesOk (scope : Scope) : Bool := scope.names.all fun p => scope.names.lookup p.1 == some p.2

theorem mem_lookup : ∀ {l : Vars} {x : Str}, (∃ q ∈ l, q.1 = x) → ∃ d, l.lookup x = some d
  | (y, e) :: r, x, ⟨q, hq, he⟩ => by
    rw [List.lookup_cons]
    cases hb : x == y with
    | true => exact ⟨e, rfl⟩
    | false =>
      rcases List.mem_cons.mp hq with rfl | hq
      · subst he; simp at hb
      · exact mem_lookup ⟨q, hq, he⟩
theorem fvOf_lookup {scope : Scope} : ∀ {vs : Vars} {x : Str} {d : D}, (fvOf scope vs).lookup x = some d → vs.lookup x = some d ∧ scope.names.lookup x = some .free
  | [], x, d, h => by cases h
  | (y, e) :: r, x, d, h => by
    unfold fvOf at h
    rw [List.filter_cons] at h
    split at h
    · rename_i hf
      rw [List.lookup_cons] at h ⊢
      cases hb : x == y with
      | true => rw [hb] at h; exact ⟨h, by rw [beq_iff_eq.mp hb]; exact beq_iff_eq.mp hf⟩
      | false => rw [hb] at h; exact fvOf_lookup h
    · rename_i hf
      obtain ⟨h1, h2⟩ := fvOf_lookup (scope := scope) h
      rw [List.lookup_cons]
      cases hb : x == y with
      | true => exact absurd (by rw [← beq_iff_eq.mp hb]; exact beq_iff_eq.mpr h2) hf
      | false => exact ⟨h1, h2⟩

theorem free_cell {scope : Scope} (hn : namesOk scope = true) {x : Str} (h : scope.names.lookup x = some .free) : x ∉ cellNames scope := fun q => by
  unfold cellNames at q
  obtain ⟨p, hp, rfl⟩ := List.mem_map.mp q
  obtain ⟨hp1, hp2⟩ := List.mem_filter.mp hp
  have := List.all_eq_true.mp hn p hp1
  rw [beq_iff_eq.mp this, beq_iff_eq.mp hp2] at h
  cases h

noncomputable def freeNames (sc : Scope) : List Str := (sc.names.filter (·.2 == .free)).map (·.1)
/-- the cells that a nested def takes along -/
noncomputable def closOf (sc : Scope) (cells : List (Str × Addr)) : List (Str × Addr) := (freeNames sc).reverse.map fun x => (x, (cells.lookup x).getD 0)

theorem closureFor_eq {sc : Scope} {env : Env} (h : ∀ x ∈ freeNames sc, ∃ c, env.cells.lookup x = some c) : closureFor sc env = pure (closOf sc env.cells) := by
  have key : ∀ (names : List (Str × NameKind)) (acc : List (Str × Addr)), (∀ x ∈ (names.filter (·.2 == .free)).map (·.1), ∃ c, env.cells.lookup x = some c) →
      (forIn names acc (fun (p : Str × NameKind) (cs : List (Str × Addr)) => if p.2 == .free then (do let a ← cellOf env p.1; pure (ForInStep.yield ((p.1, a) :: cs))) else pure (ForInStep.yield cs)) : Sem (List (Str × Addr))) =
        pure ((((names.filter (·.2 == .free)).map (·.1)).reverse.map fun x => (x, (env.cells.lookup x).getD 0)) ++ acc) := by
    intro names
    induction names with
    | nil => intro acc _; rfl
    | cons p r ih =>
      intro acc hh
      obtain ⟨x, k⟩ := p
      rw [List.forIn_cons]
      cases hk : k == NameKind.free with
      | true =>
        obtain ⟨c, hc⟩ := hh x (by simp [List.filter_cons, hk])
        have hco : cellOf env x = pure c := by unfold cellOf; rw [hc]
        simp only [hk, if_true, hco, pure_bind]
        rw [ih _ (fun y hy => hh y (by simp only [List.filter_cons, hk, if_true, List.map_cons]; exact List.mem_cons_of_mem _ hy))]
        simp [List.filter_cons, hk, hc]
      | false =>
        simp only [hk, Bool.false_eq_true, if_false, pure_bind]
        rw [ih _ (fun y hy => hh y (by simpa only [List.filter_cons, hk, Bool.false_eq_true, if_false] using hy))]
        simp [List.filter_cons, hk]
  have := key sc.names [] h
  unfold closureFor closOf freeNames
  rw [List.append_nil] at this
  rw [← this]
  exact bind_pure _

theorem closOf_lookup {sc : Scope} {cells : List (Str × Addr)} {x : Str} {c : Addr} (h : (closOf sc cells).lookup x = some c) : x ∈ freeNames sc ∧ c = (cells.lookup x).getD 0 := by
  unfold closOf at h
  have key : ∀ l : List Str, (l.map fun y => (y, (cells.lookup y).getD 0)).lookup x = some c → x ∈ l ∧ c = (cells.lookup x).getD 0 := by
    intro l
    induction l with
    | nil => intro e; cases e
    | cons y r ih =>
      intro e
      rw [List.map_cons, List.lookup_cons] at e
      by_cases hx : x = y
      · subst hx; simp at e; exact ⟨List.mem_cons_self, e.symm⟩
      · rw [beq_eq_false_iff_ne.mpr hx] at e
        exact ⟨List.mem_cons_of_mem _ (ih e).1, (ih e).2⟩
  exact ⟨List.mem_reverse.mp (key _ h).1, (key _ h).2⟩
theorem closOf_get {sc : Scope} {cells : List (Str × Addr)} {x : Str} (h : x ∈ freeNames sc) : (closOf sc cells).lookup x = some ((cells.lookup x).getD 0) := by
  unfold closOf
  have key : ∀ l : List Str, x ∈ l → (l.map fun y => (y, (cells.lookup y).getD 0)).lookup x = some ((cells.lookup x).getD 0) := by
    intro l
    induction l with
    | nil => intro e; cases e
    | cons y r ih =>
      intro e
      rw [List.map_cons, List.lookup_cons]
      by_cases hx : x = y
      · subst hx; simp
      · rw [beq_eq_false_iff_ne.mpr hx]
        exact ih ((List.mem_cons.mp e).resolve_left hx)
  exact key _ (List.mem_reverse.mpr h)
theorem closure_for {fe : Fe} {vs : Vars} {F X : Led} (hF : FOk fe vs F X) {scope : Scope} (hn : namesOk scope = true) (hfree : freeOk scope vs = true)
    (hk : ∀ p ∈ scope.names, p.2 = .free → fe.env.kindOf p.1 ≠ some .local) :
    ∃ cl, closureFor scope fe.env = pure cl ∧ (∀ x c, cl.lookup x = some c → fe.env.cells.lookup x = some c ∧ scope.names.lookup x = some .free) ∧ (∀ x, scope.names.lookup x = some .free → cl.lookup x = fe.env.cells.lookup x) := by
  have cell : ∀ p ∈ scope.names, p.2 = .free → ∃ c, fe.env.cells.lookup p.1 = some c := fun p hp hf => by
    have h1 := List.all_eq_true.mp hfree p hp
    rw [hf] at h1
    simp only [bne_self_eq_false, Bool.false_or, List.any_eq_true, beq_iff_eq] at h1
    obtain ⟨d, e⟩ := mem_lookup h1
    obtain ⟨c, q, _⟩ := hF.cel p.1 d e (hk p hp hf)
    exact ⟨c, q⟩
  have mem : ∀ x ∈ freeNames scope, (x, NameKind.free) ∈ scope.names := fun x hx => by
    obtain ⟨p, hp, rfl⟩ := List.mem_map.mp hx
    have h2 := List.mem_filter.mp hp
    rw [← beq_iff_eq.mp h2.2]; exact h2.1
  refine ⟨closOf scope fe.env.cells, closureFor_eq fun x hx => cell _ (mem x hx) rfl, fun x c q => ?_, fun x hx => ?_⟩
  · obtain ⟨hx, rfl⟩ := closOf_lookup q
    obtain ⟨c, hc⟩ := cell _ (mem x hx) rfl
    exact ⟨by rw [hc]; rfl, beq_iff_eq.mp (List.all_eq_true.mp hn _ (mem x hx))⟩
  · obtain ⟨c, hc⟩ := cell _ (mem_of_lookup hx) rfl
    rw [closOf_get (List.mem_map.mpr ⟨_, List.mem_filter.mpr ⟨mem_of_lookup hx, beq_self_eq_true _⟩, rfl⟩), hc]; rfl
end Sc

namespace Sc
set_option tactic.hygienic false

theorem compStart_code {prog : Program} {w : World} {A : Around} {R : Result → Shared → Prop} {s : Shared} {elt target iter : Expr} {ifs : List Expr} {gens : List Comprehension} {scope : Scope} {pos : Pos} {depth : Nat} {it acc : Value} {env : Env}
    (hg : gens[depth]? = some ⟨target, iter, ifs, 0⟩)
    (h0 : codeAny (model prog w) A (.compLoop (.ListComp elt gens scope pos) depth it acc env) R s)
    (h : wpAny (model prog w) A (pyIter it) (fun it' s' => codeAny (model prog w) A (.compLoop (.ListComp elt gens scope pos) depth it' acc env) R s') No s) :
    codeAny (model prog w) A (.compStart (.ListComp elt gens scope pos) depth it acc env) R s := by
  refine codeAny_of_tree ?_
  refine (?_ : wpAny _ _ ((compStart (.ListComp elt gens scope pos) depth it acc env).onRaise (fun x => do noteFrame x env; standAt theWindowsPlace)) _ _ s)
  refine wpAny_notedAt ?_
  unfold compStart
  have hc : (clausesOf (.ListComp elt gens scope pos))[depth]? = some ⟨target, iter, ifs, 0⟩ := hg
  simp only [hc]
  have he : (Option.elim (some (⟨target, iter, ifs, 0⟩ : Comprehension)) false fun x => x.is_async != 0) = false := rfl
  simp only [he, Bool.false_eq_true, if_false]
  refine wpAny_bind (wpAny_askSetting (wpAny_ite ?_))
  split
  · exact wpAny_pure ⟨rfl, h0⟩
  · refine wpAny_bind (wpAny_rule (wpAny_bind (wpAny_standAt (wpAny_bind (wpAny_mono h (fun it' s' h' => wpAny_pure ⟨rfl, h'⟩) fun _ _ x => x.elim)))))

section
variable {C : Cx} {led : Led} {fe : Fe} {vs : Vars} {k : Nat}

theorem comp_start {elt target iter : Expr} {ifs : List Expr} {gens : List Comprehension} {scope : Scope} {pos : Pos} {depth : Nat} {I Da : Addr} {wr : List Addr} {items : List D} {St₀ : Nat → Heap → Prop}
    (hg : gens[depth]? = some ⟨target, iter, ifs, 0⟩) (hn : ∀ g, gens[depth + 1]? = some g → g.is_async = 0)
    (Iv : Nat → Vars → Led → List D → Prop)
    (step : ∀ i x vs2 led2 acc2, items[i]? = some x → Iv i vs2 led2 acc2 → WU C led2 fe vs2 k (PySem.assign target fe.env) x fun vs3 led3 =>
      WB C led3 fe vs3 k (testsT ifs fe.env) fun ok led4 => (ok = true → WC C led4 fe vs3 k Da acc2 (innerT elt gens scope pos depth (.ref Da) fe.env) fun vs5 led5 acc5 => ∃ vs6, Sub vs6 vs5 ∧ Iv (i + 1) vs6 led5 acc5) ∧
        (ok = false → ∃ vs6, Sub vs6 vs3 ∧ Iv (i + 1) vs6 led4 acc2))
    {F X : Led} {fz : Fz} {G : Array GenState} {A : Around} {R : Led} {acc : List D} {s : Shared} (hA : RoomF k A fe X) (itr : ItrT C fz I wr items St₀ target) (hF : FOk fe vs F X) (hD : X Da = none) (hd : Dj F (upd X Da (.list acc)))
    (hR : Raws wr R) (hdR : Dj R (Un F (upd X Da (.list acc)))) (hst : St₀ 0 s.heap) (S : St C fz led (Un R (Un F (upd X Da (.list acc)))) G s) (h0 : Iv 0 vs led acc) {RR : Result → Shared → Prop}
    (hRR : ∀ s', Psc C fz X fe G Da (Iv items.length) s' → RR (.ok .next) s') :
    codeAny (model C.prog C.w) A (.compStart (.ListComp elt gens scope pos) depth (.ref I) (.ref Da) fe.env) RR s :=
  have L := comp_loop hg hn Iv step hA itr hF hD hd hR hdR hst S h0 hRR
  compStart_code hg L (itr.self hA.r.1 hst L)

/-- a clause within a comprehension -/
theorem WC.nest {elt target iter : Expr} {ifs : List Expr} {gens : List Comprehension} {scope : Scope} {pos : Pos} {depth : Nat} {Da : Addr} {acc : List D} {Q : Vars → Led → List D → Prop}
    (hg : gens[depth + 1]? = some ⟨target, iter, ifs, 0⟩)
    (h : WE C led fe vs k (eval iter fe.env) fun d led1 => ∃ (items : List D) (Iv : Nat → Vars → Led → List D → Prop), (∀ Y, IterOf C Y led1 d items) ∧ (∃ vs0, Sub vs0 vs ∧ Iv 0 vs0 (itl led1 d) acc) ∧
      (∀ i x vs2 led2 acc2, items[i]? = some x → Iv i vs2 led2 acc2 → WU C led2 fe vs2 k (PySem.assign target fe.env) x fun vs3 led3 =>
        WB C led3 fe vs3 k (testsT ifs fe.env) fun ok led4 => (ok = true → WC C led4 fe vs3 k Da acc2 (innerT elt gens scope pos (depth + 1) (.ref Da) fe.env) fun vs5 led5 acc5 => ∃ vs6, Sub vs6 vs5 ∧ Iv (i + 1) vs6 led5 acc5) ∧
          (ok = false → ∃ vs6, Sub vs6 vs3 ∧ Iv (i + 1) vs6 led4 acc2)) ∧
      (∀ vs2 led2 acc2, Iv items.length vs2 led2 acc2 → Q vs2 led2 acc2))
    (hn : ∀ g, gens[depth + 2]? = some g → g.is_async = 0) (ht : autoParam (∀ it v, letOwnedTupleGo target it v = pure ()) autA) (hs : autoParam (∀ x, foldedSetIterable iter fe.env x = pure x) autA) :
    WC C led fe vs k Da acc (innerT elt gens scope pos depth (.ref Da) fe.env) Q := by
  intro F X hF hD hd A fz G s hA S
  unfold innerT
  rw [hg]
  dsimp only
  unfold nestT
  have hFu : FOk fe vs F (upd X Da (.list acc)) := hF.up fun a m e => by rw [upd_ne _ _ (fun z => by subst z; rw [hD] at e; cases e)]; exact e
  refine wpAny_bind (chain (h F _ hFu hd A fz G s (hA.upX fun a m e => by rw [upd_ne _ _ (fun z => by subst z; rw [hD] at e; cases e)]; exact e) S) fun v1 s1 fz1 G1 d1 led1 l1 g1 e1 S1 h1 => ?_)
  obtain ⟨items, Iv, hit, ⟨vs0, hsub, hI0⟩, step, done⟩ := h1
  refine wpAny_bind (wpAny_standAt (wpAny_bind (wpAny_of_eq (hs _) (wpAny_bind (wpAny_holding ?_)))))
  refine wpAny_mono (hit _ A fz1 G1 s1 v1 (hA.r.mono (Nat.zero_le _)) S1 e1) (fun it s2 p => ?_) fun _ _ x => x.elim
  obtain ⟨fz2, Ia, wr, R, St₀, rfl, l2, itr, hR, hdR, hst, S2⟩ := p
  refine wpAny_bind (wpAny_runOwn (comp_start (Da := Da) hg hn Iv step hA (itr.toT ht) (hF.sub hsub) hD hd hR hdR hst S2 hI0 (RR := fun r s' => match r with | .ok f => wpAny (model C.prog C.w) A (pure ()) (fun _ s' => Psc C fz X fe G Da Q s') No s' | .error e => cameBackBy (model C.prog C.w) A fe.env No e s') fun s3 p => ?_))
  obtain ⟨fz3, G3, F3, vs3, led3, acc3, l3, g3, hF3, hd3, S3, q⟩ := p
  exact wpAny_pure ⟨fz3, G3, F3, vs3, led3, acc3, (l1.trans l2).trans l3, g1.trans g3, hF3, hd3, S3, done _ _ _ q⟩
theorem WC.last {elt : Expr} {gens : List Comprehension} {scope : Scope} {pos : Pos} {depth : Nat} {Da : Addr} {acc : List D} {Q : Vars → Led → List D → Prop} (hg : gens[depth + 1]? = none)
    (h : WE C led fe vs k (eval elt fe.env) fun d led' => acc.length ≤ 1000000 ∧ Q vs led' (acc ++ [d])) : WC C led fe vs k Da acc (innerT elt gens scope pos depth (.ref Da) fe.env) Q := by
  unfold innerT; rw [hg]; exact WC.emit h

theorem St.lose {C : Cx} {fz : Fz} {led F X : Led} {G : Array GenState} {s : Shared} (S : St C fz led (Un F X) G s) (hd : Dj F X) {L : Addr} {m : M} (hL : F L = some m) {h' : Heap} (hs : Heap.SameBut L s.heap h') : St C fz led X G { s with heap := h' } := by
  have hl : led L = none := (S.dj L).resolve_right (by rw [Un_left hL]; exact Option.some_ne_none _)
  refine ⟨S.dj.right, ?_⟩
  have R0 : Rel C fz (upd (Un led X) L m) G s := S.rel.forget fun a m' e => by
    by_cases ha : a = L
    · subst ha; rw [upd_same] at e; cases e; rw [Un_right hl, Un_left hL]
    · rw [upd_ne _ _ ha] at e
      cases hla : led a with
      | some m'' => rw [Un_left hla] at e ⊢; exact e
      | none =>
        rw [Un_right hla] at e ⊢
        rw [Un_right ((hd a).resolve_right (by rw [e]; exact Option.some_ne_none _))]; exact e
  have hn : Un led X L = none := Un_none.mpr ⟨hl, hd.of_some hL⟩
  exact R0.many (T' := Un led X) s.toks (· = L) (fun b hb => by subst hb; exact ⟨m, upd_same ..⟩) (fun b o hb e => hs.extBut b o hb e) (fun b hb => by rw [upd_ne _ _ hb]) (fun b m' hb e => by subst hb; rw [hn] at e; cases e)

/-- a list that is kept in the outer part is written no more -/
theorem St.freeze_out {C : Cx} {fz : Fz} {led X : Led} {G : Array GenState} {s : Shared} {Da : Addr} {xs : List D} (S : St C fz led (upd X Da (.list xs)) G s) (hX : X Da = none) : ∃ fz', FzLe fz fz' ∧ Den fz' (.ref Da) (.lst xs) ∧ St C fz' led X G s := by
  have hl : led Da = none := (S.dj Da).resolve_right (by rw [upd_same]; exact Option.some_ne_none _)
  obtain ⟨fz', a, b, c⟩ := S.rel.freeze (a := Da) (xs := xs) (by rw [Un_right hl, upd_same])
  refine ⟨fz', a, b, fun x => ?_, ?_⟩
  · rcases S.dj x with q | q
    · exact .inl q
    · by_cases hx : x = Da
      · subst hx; rw [upd_same] at q; cases q
      · rw [upd_ne _ _ hx] at q; exact .inr q
  · have : del (Un led (upd X Da (.list xs))) Da = Un led X := by
      rw [Un_upd_r _ _ _ _ hl]; exact del_upd _ _ _ (Un_none.mpr ⟨hl, hX⟩)
    rw [this] at c; exact c

noncomputable def compFe (scope : Scope) (L : Addr) (cs : List (Str × Addr)) (fe : Fe) : Fe := ⟨compEnvC scope cs L fe.env, cellNames scope⟩

theorem comp_top {elt target iter : Expr} {ifs : List Expr} {rest : List Comprehension} {scope : Scope} {pos pos2 : Pos} {use : Option (Value → Sem Unit)} {Qv : Value → Shared → Prop} {F X : Led} {A : Around} {fz : Fz} {G : Array GenState} {s : Shared}
    (hkind : scope.kind = .function) (hnames : namesOk scope = true) (hfree : freeOk scope vs = true) (hk : (scope.names.all fun p => p.2 != .free || fe.env.kindOf p.1 != some .local) = true)
    (hF : FOk fe vs F X) (hd : Dj F X) (hA : RoomF k A fe X) (S : St C fz led (Un F X) G s)
    (h : WE C led fe vs k (eval iter fe.env) fun d led1 => ∃ (items : List D) (Iv : Nat → Vars → Led → List D → Prop), (∀ Y, IterOfT C Y led1 target d items) ∧ (∃ vs0, Sub vs0 (fvOf scope vs) ∧ Iv 0 vs0 (itl led1 d) []) ∧
      (∀ L cs Da i x vs2 led2 acc2, items[i]? = some x → Iv i vs2 led2 acc2 → WU C led2 (compFe scope L cs fe) vs2 k (PySem.assign target (compFe scope L cs fe).env) x fun vs3 led3 =>
        WB C led3 (compFe scope L cs fe) vs3 k (testsT ifs (compFe scope L cs fe).env) fun ok led4 =>
          (ok = true → WC C led4 (compFe scope L cs fe) vs3 k Da acc2 (innerT elt (⟨target, iter, ifs, 0⟩ :: rest) scope pos 0 (.ref Da) (compFe scope L cs fe).env) fun vs5 led5 acc5 => ∃ vs6, Sub vs6 vs5 ∧ Iv (i + 1) vs6 led5 acc5) ∧
          (ok = false → ∃ vs6, Sub vs6 vs3 ∧ Iv (i + 1) vs6 led4 acc2)) ∧
      (∀ vs2 led2 acc2 L Fc Da fz2 G2 s2, Iv items.length vs2 led2 acc2 → FzLe fz fz2 → GExt G G2 → (∃ m, Fc L = some (.ns m)) → Dj Fc (Un F X) → Den fz2 (.ref Da) (.lst acc2) → St C fz2 led2 (Un Fc (Un F X)) G2 s2 →
        compPost (model C.prog C.w) A No use Qv (.ref Da) L (.ok .next) s2))
    (hn : ∀ g, rest[0]? = some g → g.is_async = 0) (hs : ∀ x, foldedSetIterable iter fe.env x = pure x) :
    wpAny (model C.prog C.w) A (comprehension (.ListComp elt (⟨target, iter, ifs, 0⟩ :: rest) scope pos) scope fe.env pos2 (newList []) false (eval iter fe.env) use) Qv No s := by
  have hk' : ∀ p ∈ scope.names, p.2 = .free → fe.env.kindOf p.1 ≠ some .local := fun p hp hf q => by
    have := List.all_eq_true.mp hk p hp
    rw [hf, q] at this; simp at this
  obtain ⟨cl, hcl, cl1, cl2⟩ := closure_for hF hnames hfree hk'
  refine wpAny_comprehension_free (use := use) rfl hs hcl hkind (fun x hx hl => by rw [← hl]; exact beq_iff_eq.mp (List.all_eq_true.mp hnames x hx)) ?_
  refine chain (h F X hF hd A fz G s hA S) fun v1 s1 fz1 G1 d1 led1 l1 g1 e1 S1 h1 => ?_
  obtain ⟨items, Iv, hit, ⟨vs0, hsub, hI0⟩, step, done⟩ := h1
  refine wpAny_mono (hit _ A fz1 G1 s1 v1 (hA.r.mono (Nat.zero_le _)) S1 e1) (fun it s2 p => ?_) fun _ _ x => x.elim
  obtain ⟨fz2, Ia, wr, R, St₀, rfl, l2, itr, hR, hdR, hst, S2⟩ := p
  refine wpAny_newList ?_ (by decide)
  have ha : s2.heap.get? s2.heap.objs.size = none := get_size _ (Nat.le_refl _)
  have hx_2 := S2.fresh ha; have hla := hx_2.1; have hYa := hx_2.2
  have hRD : R s2.heap.objs.size = none := (Un_none.mp hYa).1
  have hXD : (Un F X) s2.heap.objs.size = none := (Un_none.mp hYa).2
  have keep : ∀ b o, s2.heap.get? b = some o → (s2.heap.push { cls := .type "list", data := .seq ([] : List Value).toArray }).get? b = some o := fun b o e => Heap.get?_push_of_some _ e
  have S3 : St C fz2 (itl led1 d1) (upd (Un R (Un F X)) s2.heap.objs.size (.list [])) G1 { s2 with heap := s2.heap.push { cls := .type "list", data := .seq ([] : List Value).toArray } } := by
    obtain ⟨q, _⟩ := (show St C fz2 (itl led1 d1) (Un emp (Un R (Un F X))) G1 s2 from by rw [Un_emp]; exact S2).newF (Dj.emp _) (a := s2.heap.objs.size) ha (m := .list []) (h' := s2.heap.push { cls := .type "list", data := .seq ([] : List Value).toArray }) s2.toks keep
      ⟨[], 0, Heap.get?_push_size _ rfl, .nil⟩
    rw [Un_upd, Un_emp] at q; exact q
  rw [← Un_upd_r _ _ _ _ hRD] at S3
  have hdR3 : Dj R (upd (Un F X) s2.heap.objs.size (.list [])) := fun a => by
    by_cases hx : a = s2.heap.objs.size
    · subst hx; exact .inl hRD
    · rw [upd_ne _ _ hx]; exact hdR a
  have hYup : ∀ a m, (Un F X) a = some (.ns m) → (Un R (upd (Un F X) s2.heap.objs.size (.list []))) a = some (.ns m) := fun a m e => by
    rw [Un_right ((hdR a).resolve_right (by rw [e]; exact Option.some_ne_none _)), upd_ne _ _ (fun z => by subst z; rw [hXD] at e; cases e)]; exact e
  -- the frame
  have hclo : CloOk cl (Un R (upd (Un F X) s2.heap.objs.size (.list []))) (fvOf scope vs) := {
    al := fun x c e => by
      have hx_3 := cl1 x c e; have q1 := hx_3.1; have q2 := hx_3.2
      have h1 := List.all_eq_true.mp hfree (x, .free) (mem_of_lookup q2)
      simp only [bne_self_eq_false, Bool.false_or, List.any_eq_true, beq_iff_eq] at h1
      obtain ⟨d, e'⟩ := mem_lookup h1
      obtain ⟨c', w1, w2⟩ := hF.cel x d e' (hk' (x, .free) (mem_of_lookup q2) rfl)
      rw [q1] at w1; cases w1
      refine ⟨some d, ?_⟩
      rw [Un_right ((hdR c).resolve_right (by rw [w2]; exact Option.some_ne_none _)), upd_ne _ _ (fun z => by subst z; rw [hXD] at w2; cases w2)]; exact w2
    inj := fun x y c e1 e2 => hF.inj x y c (cl1 x c e1).1 (cl1 y c e2).1
    fv := fun x d e => by
      have hx_6 := fvOf_lookup e; have q1 := hx_6.1; have q2 := hx_6.2
      obtain ⟨c, w1, w2⟩ := hF.cel x d q1 (hk' (x, .free) (mem_of_lookup q2) rfl)
      refine ⟨c, by rw [cl2 x q2]; exact w1, ?_⟩
      rw [Un_right ((hdR c).resolve_right (by rw [w2]; exact Option.some_ne_none _)), upd_ne _ _ (fun z => by subst z; rw [hXD] at w2; cases w2)]; exact w2 }
  rw [hF.glob]
  refine wpAny_mono (new_env (ns := []) (vals := []) (ds := []) (bi := builtinsNs) (Q := fun cenv s₄ => codeAny (model C.prog C.w) A (.compStart (.ListComp elt (⟨target, iter, ifs, 0⟩ :: rest) scope pos) 0 (.ref Ia) (.ref s2.heap.objs.size) { cenv with scope := relabel scope fe.env })
      (compPost (model C.prog C.w) A No use Qv (.ref s2.heap.objs.size) cenv.locals) s₄) (((hA.y hF hd).mono (Nat.zero_le _)).upY hYup) hkind hclo .nil S3 hF.blt (fun x hx => absurd hx List.not_mem_nil) (fun x d e => ?_) fun L cs fz4 G4 Fc s4 l4 g4 hcs hFc hdc S4 => ?_) (fun _ _ x => x) fun _ _ x => x
  · have hx_8 := fvOf_lookup e; have q := hx_8.2
    exact ⟨(by rw [q]; intro z; cases z), free_cell hnames q⟩
  · have henv : ({ newEnv scope L mainGlobals cs fe.env.qual none .none (some fe.env) builtinsNs with scope := relabel scope fe.env } : Env) = (compFe scope L cs fe).env := by
      unfold compFe compEnvC; rw [hF.glob]; rfl
    have hFc' : FOk (compFe scope L cs fe) (fvOf scope vs) Fc (Un R (upd (Un F X) s2.heap.objs.size (.list []))) := by
      have := hFc.relabel (env₀ := fe.env)
      unfold compFe
      rw [show compEnvC scope cs L fe.env = ({ newEnv scope L mainGlobals cs fe.env.qual none .none (some fe.env) builtinsNs with scope := relabel scope fe.env } : Env) from henv.symm]
      exact this
    have hFc2 : FOk (compFe scope L cs fe) (fvOf scope vs) Fc (Un F X) := (hFc'.down fun c d e => hR.cell e).down fun c d e => by
      by_cases hx : c = s2.heap.objs.size
      · subst hx; rw [upd_same] at e; cases e
      · rw [upd_ne _ _ hx] at e; exact e
    refine (?_ : codeAny _ A (.compStart _ 0 (.ref Ia) (.ref s2.heap.objs.size) ({ newEnv scope L mainGlobals cs fe.env.qual none .none (some fe.env) builtinsNs with scope := relabel scope fe.env } : Env)) (compPost (model C.prog C.w) A No use Qv (.ref s2.heap.objs.size) L) s4)
    rw [henv]
    have hdc' : Dj Fc (upd (Un F X) s2.heap.objs.size (.list [])) := hdc.right
    have hdR4 : Dj R (Un Fc (upd (Un F X) s2.heap.objs.size (.list []))) := Dj.Un hdc.left.symm hdR3
    rw [← Un_swap hdc.left.symm] at S4
    have hst4 : St₀ 0 s4.heap := itr.keep (i := 0) (.refl _) l4 hR (fun a m e => Un_left e) (fun a m e => Un_left e) S2 S4 hst
    refine comp_start (Da := s2.heap.objs.size) (F := Fc) (X := Un F X) rfl (fun g hg => hn g hg) Iv (step L cs s2.heap.objs.size) ((hA.y hF hd).toF _) (itr.mono l4) (hFc2.sub hsub) hXD hdc' hR hdR4 hst4 S4 hI0 fun s5 p => ?_
    obtain ⟨fz5, G5, F5, vs5, led5, acc5, l5, g5, hF5, hd5, S5, q⟩ := p
    have hF5D : F5 s2.heap.objs.size = none := (hd5 s2.heap.objs.size).resolve_right (by rw [upd_same]; exact Option.some_ne_none _)
    rw [Un_upd_r _ _ _ _ hF5D] at S5
    obtain ⟨fz6, l6, e6, S6⟩ := S5.freeze_out (Un_none.mpr ⟨hF5D, hXD⟩)
    have hd5' : Dj F5 (Un F X) := fun a => by
      by_cases hx : a = s2.heap.objs.size
      · subst hx; exact .inl hF5D
      · rcases hd5 a with w | w
        · exact .inl w
        · rw [upd_ne _ _ hx] at w; exact .inr w
    obtain ⟨m, hm, _⟩ := hF5.loc
    exact done vs5 led5 acc5 L F5 s2.heap.objs.size fz6 G5 s5 q ((((l1.trans l2).trans l4).trans l5).trans l6) ((g1.trans g4).trans g5) ⟨m, hm⟩ hd5' e6 S6
end
end Sc

namespace Sc
set_option tactic.hygienic false

section
variable {C : Cx} {led : Led} {fe : Fe} {vs : Vars} {k : Nat}

structure CompOk (scope : Scope) (vs : Vars) (fe : Fe) (iter : Expr) : Prop where
  kind : scope.kind = .function
  names : namesOk scope = true
  free : freeOk scope vs = true
  hk : (scope.names.all fun p => p.2 != .free || fe.env.kindOf p.1 != some .local) = true
  hs : ∀ x, foldedSetIterable iter fe.env x = pure x
/-- the turns of a comprehension -/
noncomputable abbrev KCS2 (I : Vars → Led → List D → Prop) : Vars → Led → List D → Prop := fun vs5 led5 acc5 => ∃ vs6, Sub vs6 vs5 ∧ I vs6 led5 acc5
noncomputable abbrev KCS1 (C : Cx) (fe : Fe) (vs3 : Vars) (k : Nat) (t : Sem Unit) (Da : Addr) (acc2 : List D) (I : Vars → Led → List D → Prop) : Bool → Led → Prop := fun ok led4 => (ok = true → WC C led4 fe vs3 k Da acc2 t (KCS2 I)) ∧ (ok = false → ∃ vs6, Sub vs6 vs3 ∧ I vs6 led4 acc2)
noncomputable abbrev KCS (C : Cx) (fe : Fe) (k : Nat) (ifs : List Expr) (t : Sem Unit) (Da : Addr) (acc2 : List D) (I : Vars → Led → List D → Prop) : Vars → Led → Prop := fun vs3 led3 => WB C led3 fe vs3 k (testsT ifs fe.env) (KCS1 C fe vs3 k t Da acc2 I)
noncomputable def CompStep (C : Cx) (fe : Fe) (k : Nat) (elt target : Expr) (ifs : List Expr) (gens : List Comprehension) (scope : Scope) (pos : Pos) (items : List D) (Iv : Nat → Vars → Led → List D → Prop) : Prop :=
  ∀ L cs Da i x vs2 led2 acc2, items[i]? = some x → Iv i vs2 led2 acc2 → WU C led2 (compFe scope L cs fe) vs2 k (PySem.assign target (compFe scope L cs fe).env) x (KCS C (compFe scope L cs fe) k ifs (innerT elt gens scope pos 0 (.ref Da) (compFe scope L cs fe).env) Da acc2 (Iv (i + 1)))

noncomputable abbrev KLs (Q : D → Led → Prop) : List D → Led → Prop := fun ds led => Q (.lst ds) led
noncomputable abbrev KSt (vs : Vars) (x : Str) (Q : Fl → Vars → Led → Prop) : List D → Led → Prop := fun ds led => Q .next (vset vs x (.lst ds)) led
inductive KLCT (C : Cx) (fe : Fe) (vs : Vars) (k : Nat) (elt target : Expr) (ifs : List Expr) (gens : List Comprehension) (scope : Scope) (pos : Pos) (R : List D → Led → Prop) (d : D) (led1 : Led) : Prop
  | mk (items : List D) (Iv : Nat → Vars → Led → List D → Prop) : (∀ Y, IterOfT C Y led1 target d items) → (∃ vs0, Sub vs0 (fvOf scope vs) ∧ Iv 0 vs0 (itl led1 d) []) →
      CompStep C fe k elt target ifs gens scope pos items Iv → (∀ vs2 led2 acc2, Iv items.length vs2 led2 acc2 → R acc2 led2) → KLCT C fe vs k elt target ifs gens scope pos R d led1
inductive KLC (C : Cx) (fe : Fe) (vs : Vars) (k : Nat) (elt target : Expr) (ifs : List Expr) (gens : List Comprehension) (scope : Scope) (pos : Pos) (R : List D → Led → Prop) (d : D) (led1 : Led) : Prop
  | mk (items : List D) (Iv : Nat → Vars → Led → List D → Prop) : (∀ Y, IterOf C Y led1 d items) → (∃ vs0, Sub vs0 (fvOf scope vs) ∧ Iv 0 vs0 (itl led1 d) []) →
      CompStep C fe k elt target ifs gens scope pos items Iv → (∀ vs2 led2 acc2, Iv items.length vs2 led2 acc2 → R acc2 led2) → KLC C fe vs k elt target ifs gens scope pos R d led1
theorem WE.listcompT {elt target iter : Expr} {ifs : List Expr} {rest : List Comprehension} {scope : Scope} {pos : Pos} {Q : D → Led → Prop}
    (h : WE C led fe vs k (eval iter fe.env) (KLCT C fe vs k elt target ifs (⟨target, iter, ifs, 0⟩ :: rest) scope pos (KLs Q)))
    (ok : CompOk scope vs fe iter)
    (hn : ∀ g, rest[0]? = some g → g.is_async = 0) :
    WE C led fe vs k (eval (.ListComp elt (⟨target, iter, ifs, 0⟩ :: rest) scope pos) fe.env) Q := by
  intro F X hF hd A fz G s hA S
  rw [eval_ListComp]
  refine comp_top (vs := vs) (use := none) ok.kind ok.names ok.free ok.hk hF hd hA S (h.mono fun d led1 ⟨items, Iv, a, b, c, e⟩ => ⟨items, Iv, a, b, c, fun vs2 led2 acc2 L Fc Da fz2 G2 s2 q l2 g2 hm hdc den S2 => ?_⟩) hn ok.hs
  obtain ⟨m, hm⟩ := hm
  obtain ⟨mv, hns, _⟩ := S2.at (Un_left hm)
  refine ⟨mv, hns, fun h' hs' => ⟨fz2, G2, .lst acc2, led2, l2, g2, den, S2.lose hdc hm hs', e _ _ _ q⟩⟩

/-- a comprehension that is stored into a name at once -/
theorem WS.assign_compT {elt target iter : Expr} {ifs : List Expr} {rest : List Comprehension} {scope : Scope} {pos pos' pos2 : Pos} {x : Str} {Q : Fl → Vars → Led → Prop}
    (h : WE C led fe vs k (eval iter fe.env) (KLCT C fe vs k elt target ifs (⟨target, iter, ifs, 0⟩ :: rest) scope pos (KSt vs x Q)))
    (hx : fe.env.kindOf x = some .local ∨ (fe.env.kindOf x = some .cell ∧ x ∈ fe.ow))
    (hsw : swapsWith (.ListComp elt (⟨target, iter, ifs, 0⟩ :: rest) scope pos) (some (.Name x pos')) pos2.line fe.env = pure true)
    (ok : CompOk scope vs fe iter)
    (hn : ∀ g, rest[0]? = some g → g.is_async = 0) :
    WS C led fe vs k (exec (.Assign [.Name x pos'] (.ListComp elt (⟨target, iter, ifs, 0⟩ :: rest) scope pos) pos2) fe.env) Q := by
  intro F X hF hd A fz G s hA S
  rw [exec_Assign_Name_used _ _ _ _ hsw]
  refine wpAny_bind (wpAny_standAt (wpAny_bind ?_))
  refine (?_ : wpAny _ A (do let _ ← comprehension (.ListComp elt (⟨target, iter, ifs, 0⟩ :: rest) scope pos) scope fe.env _ (newList []) false (eval iter fe.env) (some (PySem.assign (.Name x pos') fe.env))) _ _ s)
  refine wpAny_bind (wpAny_mono (comp_top (vs := vs) (use := some (PySem.assign (.Name x pos') fe.env)) (Qv := fun _ s' => Psf C fz X fe G Q .next s') ok.kind ok.names ok.free ok.hk hF hd hA S
    (h.mono fun d led1 ⟨items, Iv, a, b, c, e⟩ => ⟨items, Iv, a, b, c, fun vs2 led2 acc2 L Fc Da fz2 G2 s2 q l2 g2 hm hdc den S2 => ?_⟩) hn ok.hs) (fun _ s' hq => wpAny_pure (wpAny_pure hq)) fun _ _ e => e)
  obtain ⟨m, hm⟩ := hm
  rw [Un_swap hdc.left] at S2
  have up : ∀ a m', X a = some m' → (Un Fc X) a = some m' := fun a m' e => by rw [Un_right ((hdc.right a).resolve_right (by rw [e]; exact Option.some_ne_none _))]; exact e
  have w : WU C led2 fe vs k (PySem.assign (.Name x pos') fe.env) (.lst acc2) fun vs' led' => vs' = vset vs x (.lst acc2) ∧ led' = led2 := WU.name (WU.store hx ⟨rfl, rfl⟩)
  refine (?_ : wpAny _ A (PySem.assign (.Name x pos') fe.env (.ref Da)) _ _ _)
  refine chainU (w F (Un Fc X) (hF.up up) (Dj.Un hdc.left.symm hd) A fz2 G2 s2 _ (hA.upX fun a m e => up a _ e) S2 den) fun s3 fz3 G3 F3 vs3 led3 l3 g3 hF3 hd3 S3 q3 => ?_
  obtain ⟨rfl, rfl⟩ := q3
  rw [← Un_swap hd3.left.symm] at S3
  obtain ⟨mv, hns, _⟩ := S3.at (Un_left hm)
  have hd3' : Dj Fc (Un F3 X) := Dj.Un hd3.left.symm hdc.right
  refine ⟨mv, hns, fun h' hs' => ⟨fz3, G3, F3, _, led3, .next, l2.trans l3, g2.trans g3, trivial, ?_, hd3.right, S3.lose hd3' hm hs', e _ _ _ q⟩⟩
  have noFc : ∀ y c d, (vset vs x (.lst acc2)).lookup y = some d → fe.env.kindOf y ≠ some .local → fe.env.cells.lookup y = some c → Fc c = none := by
    intro y c d hy hky hc
    by_cases hyx : y = x
    · subst hyx
      rcases hx with z | ⟨_, z⟩
      · exact absurd z hky
      · obtain ⟨c', dd, w1, w2⟩ := hF.own y z
        rw [hc] at w1; cases w1
        exact (hdc.left c).resolve_right (by rw [w2]; exact Option.some_ne_none _)
    · rw [vset_lookup, if_neg hyx] at hy
      obtain ⟨c', w1, w2⟩ := hF.cel y d hy hky
      rw [hc] at w1; cases w1
      exact (hdc c).resolve_right (by rw [w2]; exact Option.some_ne_none _)
  exact {
    fn := hF3.fn, glob := hF3.glob, blt := hF3.blt, loc := hF3.loc, own := hF3.own, inj := hF3.inj
    cel := fun y d hy hky => by
      obtain ⟨c, a1, a2⟩ := hF3.cel y d hy hky
      refine ⟨c, a1, ?_⟩
      cases hf : F3 c with
      | some m' => rw [Un_left hf] at a2; rw [Un_left hf]; exact a2
      | none => rw [Un_right hf, Un_right (noFc y c d hy hky a1)] at a2; rw [Un_right hf]; exact a2 }

theorem WE.listcomp {elt target iter : Expr} {ifs : List Expr} {rest : List Comprehension} {scope : Scope} {pos : Pos} {Q : D → Led → Prop}
    (h : WE C led fe vs k (eval iter fe.env) (KLC C fe vs k elt target ifs (⟨target, iter, ifs, 0⟩ :: rest) scope pos (KLs Q)))
    (ok : autoParam (CompOk scope vs fe iter) autA)
    (hn : autoParam (∀ g, rest[0]? = some g → g.is_async = 0) autA) (ht : autoParam (∀ it v, letOwnedTupleGo target it v = pure ()) autA) :
    WE C led fe vs k (eval (.ListComp elt (⟨target, iter, ifs, 0⟩ :: rest) scope pos) fe.env) Q :=
  WE.listcompT (h.mono fun d led1 ⟨items, Iv, a, b, c, e⟩ => ⟨items, Iv, fun Y => (a Y).toT ht, b, c, e⟩) ok hn
/-- a comprehension that is stored into a name at once -/
theorem WS.assign_comp {elt target iter : Expr} {ifs : List Expr} {rest : List Comprehension} {scope : Scope} {pos pos' pos2 : Pos} {x : Str} {Q : Fl → Vars → Led → Prop}
    (h : WE C led fe vs k (eval iter fe.env) (KLC C fe vs k elt target ifs (⟨target, iter, ifs, 0⟩ :: rest) scope pos (KSt vs x Q)))
    (hx : fe.env.kindOf x = some .local ∨ (fe.env.kindOf x = some .cell ∧ x ∈ fe.ow))
    (hsw : autoParam (swapsWith (.ListComp elt (⟨target, iter, ifs, 0⟩ :: rest) scope pos) (some (.Name x pos')) pos2.line fe.env = pure true) rflA)
    (ok : autoParam (CompOk scope vs fe iter) autA)
    (hn : autoParam (∀ g, rest[0]? = some g → g.is_async = 0) autA) (ht : autoParam (∀ it v, letOwnedTupleGo target it v = pure ()) autA) :
    WS C led fe vs k (exec (.Assign [.Name x pos'] (.ListComp elt (⟨target, iter, ifs, 0⟩ :: rest) scope pos) pos2) fe.env) Q :=
  WS.assign_compT (h.mono fun d led1 ⟨items, Iv, a, b, c, e⟩ => ⟨items, Iv, fun Y => (a Y).toT ht, b, c, e⟩) hx hsw ok hn
/-! tests of a clause -/
theorem WB.tests_nil {Q : Bool → Led → Prop} (h : Q true led) : WB C led fe vs k (testsT [] fe.env) Q :=
  fun F X hF hd A fz G s hA S => wpAny_tests_nil (Psb.leaf S h)
theorem WB.tests_one {c : Expr} {Q : Bool → Led → Prop} (h : WB C led fe vs k (isTrue c fe.env (eval c fe.env)) Q) : WB C led fe vs k (testsT [c] fe.env) Q :=
  fun F X hF hd A fz G s hA S => wpAny_tests_one (h F X hF hd A fz G s hA S)
end
end Sc

namespace Sc
set_option tactic.hygienic false

theorem noPyl {a b : Int} (h : b.natAbs < 2 ^ 64) : Builtin.divisionGoesByPylong a b = false := by
  refine PyProof.noPylong_of_log2 ?_
  have h1 := intBits_le h
  unfold Builtin.Int.intBits at h1
  by_cases hb : b = 0
  · subst hb; decide
  · have : (b == 0) = false := by simpa using hb
    rw [this] at h1
    simp at h1
    omega
noncomputable def isNone : D → Bool
  | .none => true
  | _ => false

section
variable {C : Cx} {Y led : Led} {k : Nat} {a b : Int} {Q : D → Led → Prop}

theorem Op2.int2 {f : Value → Value → Sem Value} (h : ∀ A fz G s t u, Room k A → St C fz led Y G s → wpAny (model C.prog C.w) A (f (.int a t) (.int b u)) (Pst C fz Y G Q) No s) : Op2 C Y led k f (.int a) (.int b) Q := fun A fz G s v u hA S e1 e2 =>
  by induction e1 using Den.intE; induction e2 using Den.intE; exact h _ _ _ _ _ _ hA S
theorem Op2.add (h : Q (.int (a + b)) led) : Op2 C Y led k (binaryOp .Add) (.int a) (.int b) Q := Op2.int2 fun A fz G s t u hA S => PyProof.Rows.add_int (Pst.leaf (S.tok _) (.int ..) h)
theorem Op2.sub (h : Q (.int (a - b)) led) : Op2 C Y led k (binaryOp .Sub) (.int a) (.int b) Q := Op2.int2 fun A fz G s t u hA S => PyProof.Rows.sub_int (Pst.leaf (S.tok _) (.int ..) h)
theorem Op2.mul (h : Q (.int (a * b)) led) (hs : a.natAbs < 2 ^ 64 ∨ b.natAbs < 2 ^ 64) : Op2 C Y led k (binaryOp .Mult) (.int a) (.int b) Q := Op2.int2 fun A fz G s t u hA S => PyProof.Rows.mul_int (Pst.leaf (S.tok _) (.int ..) h) (hs.elim (fun z => .of_left (intBits_le z)) fun z => .of_right (intBits_le z))
theorem Op2.fdiv (hb : b ≠ 0) (h : Q (.int (a.fdiv b)) led) (hs : b.natAbs < 2 ^ 64) : Op2 C Y led k (binaryOp .FloorDiv) (.int a) (.int b) Q := Op2.int2 fun A fz G s t u hA S => PyProof.Rows.floordiv_int hb (Pst.leaf (S.tok _) (.int ..) h) (Or.inl (noPyl hs))
theorem Op2.mod (hb : b ≠ 0) (h : Q (.int (a.fmod b)) led) : Op2 C Y led k (binaryOp .Mod) (.int a) (.int b) Q := Op2.int2 fun A fz G s t u hA S => PyProof.Rows.mod_int' hb (Pst.leaf (S.tok _) (.int ..) h)
theorem Op2.pow (hb : 0 ≤ b) (hb2 : b ≤ 1000000) (ha : a.natAbs < 2 ^ 64) (h : Q (.int (a ^ b.toNat)) led) : Op2 C Y led k (binaryOp .Pow) (.int a) (.int b) Q := Op2.int2 fun A fz G s t u hA S => PyProof.Rows.pow_int_small hb hb2 ha (Pst.leaf (S.tok _) (.int ..) h)
theorem Op2.shl (hb : 0 ≤ b) (hb2 : b ≤ 1000000) (ha : a.natAbs < 2 ^ 64) (h : Q (.int (a * 2 ^ b.toNat)) led) : Op2 C Y led k (binaryOp .LShift) (.int a) (.int b) Q := Op2.int2 fun A fz G s t u hA S => PyProof.Rows.lshift_int_small hb hb2 ha (Pst.leaf (S.tok _) (.int ..) h)
theorem Op2.shr (hb : 0 ≤ b) (h : Q (.int (a.fdiv (2 ^ b.toNat))) led) : Op2 C Y led k (binaryOp .RShift) (.int a) (.int b) Q := Op2.int2 fun A fz G s t u hA S => PyProof.Rows.rshift_int hb (Pst.leaf (S.tok _) (.int ..) h)
theorem Op2.or (h : Q (.int (Builtin.bitOr a b)) led) : Op2 C Y led k (binaryOp .BitOr) (.int a) (.int b) Q := Op2.int2 fun A fz G s t u hA S => PyProof.Rows.or_int (Pst.leaf (S.tok _) (.int ..) h)
theorem Op2.xor (h : Q (.int (Builtin.bitXor a b)) led) : Op2 C Y led k (binaryOp .BitXor) (.int a) (.int b) Q := Op2.int2 fun A fz G s t u hA S => PyProof.Rows.xor_int (Pst.leaf (S.tok _) (.int ..) h)
theorem Op1.neg (h : Q (.int (-a)) led) : Op1 C Y led k (unaryOp .USub) (.int a) Q := fun A fz G s v hA S e1 => by induction e1 using Den.intE; exact PyProof.Rows.neg_int (Pst.leaf (S.tok _) (.int ..) h)
theorem Op1.inv (h : Q (.int (-a - 1)) led) : Op1 C Y led k (unaryOp .Invert) (.int a) Q := fun A fz G s v hA S e1 => by induction e1 using Den.intE; exact PyProof.Rows.invert_int (Pst.leaf (S.tok _) (.int ..) h)
/-! in place -/
theorem Op2.iadd (h : Q (.int (a + b)) led) : Op2 C Y led k (inplaceOp .Add) (.int a) (.int b) Q := Op2.int2 fun A fz G s t u hA S => PyProof.Rows.iadd_int (Pst.leaf (S.tok _) (.int ..) h)
/-! comparisons -/
theorem Op2.lt (h : Q (.bool (decide (a < b))) led) : Op2 C Y led k (compareOp .Lt) (.int a) (.int b) Q := Op2.int2 fun A fz G s t u hA S => PyProof.Rows.lt_int (Pst.leaf S (.bool _) h)
theorem Op2.le (h : Q (.bool (decide (a ≤ b))) led) : Op2 C Y led k (compareOp .LtE) (.int a) (.int b) Q := Op2.int2 fun A fz G s t u hA S => PyProof.Rows.le_int (Pst.leaf S (.bool _) h)
theorem Op2.gt (h : Q (.bool (decide (b < a))) led) : Op2 C Y led k (compareOp .Gt) (.int a) (.int b) Q := Op2.int2 fun A fz G s t u hA S => PyProof.Rows.gt_int (Pst.leaf S (.bool _) h)
theorem Op2.ge (h : Q (.bool (decide (b ≤ a))) led) : Op2 C Y led k (compareOp .GtE) (.int a) (.int b) Q := Op2.int2 fun A fz G s t u hA S => PyProof.Rows.ge_int (Pst.leaf S (.bool _) h)
theorem Op2.eqi (h : Q (.bool (a == b)) led) : Op2 C Y led k (compareOp .Eq) (.int a) (.int b) Q := Op2.int2 fun A fz G s t u hA S => PyProof.Rows.eq_int (Pst.leaf S (.bool _) h)
theorem Op2.nei (h : Q (.bool (a != b)) led) : Op2 C Y led k (compareOp .NotEq) (.int a) (.int b) Q := Op2.int2 fun A fz G s t u hA S => PyProof.Rows.ne_int (Pst.leaf S (.bool _) h)
end
section
variable {C : Cx} {Y led : Led} {k : Nat} {x y : Str} {Q : D → Led → Prop}
theorem Op2.str2 {f : Value → Value → Sem Value} (h : ∀ A fz G s t u, Room k A → St C fz led Y G s → wpAny (model C.prog C.w) A (f (.str x t) (.str y u)) (Pst C fz Y G Q) No s) : Op2 C Y led k f (.str x) (.str y) Q := fun A fz G s v u hA S e1 e2 =>
  by induction e1 using Den.strE; induction e2 using Den.strE; exact h _ _ _ _ _ _ hA S
theorem Op2.eqs (h : Q (.bool (x == y)) led) : Op2 C Y led k (compareOp .Eq) (.str x) (.str y) Q := Op2.str2 fun A fz G s t u hA S => PyProof.Rows.eq_str (Pst.leaf S (.bool _) h)
theorem Op2.nes (h : Q (.bool (x != y)) led) : Op2 C Y led k (compareOp .NotEq) (.str x) (.str y) Q := Op2.str2 fun A fz G s t u hA S => PyProof.Rows.ne_str (Pst.leaf S (.bool _) h)
theorem Op2.adds (h : Q (.str (x ++ y)) led) (hs : x.length + y.length ≤ 10000000) : Op2 C Y led k (binaryOp .Add) (.str x) (.str y) Q := Op2.str2 fun A fz G s t u hA S => PyProof.Rows.add_str (fun t' tk => Pst.leaf (S.tok _) (.str ..) h) (Nat.le_trans hs (by decide))
theorem Op2.is_none {d : D} (h : Q (.bool (isNone d)) led) : Op2 C Y led k (compareOp .Is) d .none Q := fun A fz G s v u hA S e1 e2 => by
  induction e2 using Den.noneE
  refine PySem.is_none ?_
  have e : (v == Value.none) = isNone d := by cases e1 <;> rfl
  rw [e]; exact Pst.leaf S (.bool _) h
end
end Sc

namespace Sc
set_option tactic.hygienic false

theorem subscripted_ops (slice : Expr) (o i : Value) : ∃ ops, subscripted slice false o i = operate ops (getItem o i) := by
  cases slice with
  | Slice _ _ c _ => cases c <;> exact ⟨_, rfl⟩
  | _ => exact ⟨_, rfl⟩
theorem sub_tail {prog : Program} {w : World} {A : Around} {E : Value → Shared → Prop} {s : Shared} {value slice : Expr} {o i : Value} {T id : String} {Q : Value → Shared → Prop} (hT : s.TypeIs o T)
    (hl : typeLookup (.type T) "__getitem__" = pure (some (.builtin id))) (h : wpAny (model prog w) A (getItem o i) Q E s) : wpAny (model prog w) A (subscriptTail value slice o i) Q E s :=
  let ⟨ops, e⟩ := subscripted_ops slice o i; tail_any hT hl h e

/-- an item is read -/
noncomputable def SubW (C : Cx) (Y led : Led) (value slice : Expr) (d i : D) (Q : D → Led → Prop) : Prop :=
  ∀ A fz G s v u, Room 0 A → St C fz led Y G s → Den fz v d → Den fz u i → wpAny (model C.prog C.w) A (subscriptTail value slice v u) (Pst C fz Y G Q) No s
/-- a part of a slice -/
noncomputable def optD : Option Int → D
  | none => .none
  | some i => .int i
theorem Den.part {fz : Fz} {v : Value} {p : Option Int} (h : Den fz v (optD p)) : IsPart v p := by
  cases p with
  | none => induction h using Den.noneE; exact .none
  | some i => induction h using Den.intE; exact .int i _

noncomputable def pickD (xs : List D) (lo hi st : Option Int) : List D :=
  (sliceRange (sliceBounds lo hi st xs.length).1 (sliceBounds lo hi st xs.length).2.1 (sliceBounds lo hi st xs.length).2.2).filterMap (xs[·]?)
theorem Dens.places {f : Fz} {vs : List Value} {ds : List D} (h : Dens f vs ds) : ∀ l : List Nat, Dens f (l.filterMap (vs[·]?)) (l.filterMap (ds[·]?))
  | [] => .nil
  | i :: l => by
    rw [List.filterMap_cons, List.filterMap_cons]
    cases hv : vs[i]? with
    | none =>
      have : ds[i]? = none := by
        cases hd : ds[i]? with
        | none => rfl
        | some d => obtain ⟨v, e, _⟩ := h.get hd; rw [hv] at e; cases e
      rw [this]; exact h.places l
    | some v =>
      obtain ⟨d, e, x⟩ := h.get' hv
      rw [e]; exact .cons x (h.places l)
theorem Dens.pick {f : Fz} {vs : List Value} {ds : List D} (h : Dens f vs ds) (lo hi st : Option Int) : Dens f (slicePick vs.toArray lo hi st).toList (pickD ds lo hi st) := by
  have e : (slicePick vs.toArray lo hi st).toList = (sliceRange (sliceBounds lo hi st ds.length).1 (sliceBounds lo hi st ds.length).2.1 (sliceBounds lo hi st ds.length).2.2).filterMap (vs[·]?) := by
    simp [slicePick, h.length]
  rw [e]; exact h.places _

noncomputable abbrev KSub2 (C : Cx) (k : Nat) (value slice : Expr) (Q : D → Led → Prop) (d : D) : D → Led → Prop := fun i led2 => ∀ Y, SubW C Y led2 value slice d i Q
noncomputable abbrev KSub (C : Cx) (fe : Fe) (vs : Vars) (k : Nat) (value slice : Expr) (Q : D → Led → Prop) : D → Led → Prop := fun d led1 => WE C led1 fe vs k (eval slice fe.env) (KSub2 C k value slice Q d)
section
variable {C : Cx} {led : Led} {fe : Fe} {vs : Vars} {k : Nat}

theorem WE.sub_ {value slice : Expr} {pos : Pos} {Q : D → Led → Prop}
    (h : WE C led fe vs k (eval value fe.env) (KSub C fe vs k value slice Q)) : WE C led fe vs k (eval (.Subscript value slice pos) fe.env) Q := by
  intro F X hF hd A fz G s hA S
  refine PyProof.Rows.Subscript_ (chain (h F X hF hd A fz G s hA S) fun v1 s1 fz1 G1 d1 led1 l1 g1 e1 S1 h1 => ?_)
  refine chain (h1 F X hF hd A fz1 G1 s1 hA S1) fun v2 s2 fz2 G2 d2 led2 l2 g2 e2 S2 h2 => ?_
  exact fin (h2 _ A fz2 G2 s2 v1 v2 (hA.r.mono (Nat.zero_le _)) S2 (e1.mono l2) e2) (l1.trans l2) (g1.trans g2)

/-- a slice of a list -/
noncomputable def SliceW (C : Cx) (Y led : Led) (d : D) (lo hi st : Option Int) (Q : D → Led → Prop) : Prop :=
  ∀ A fz G s v sl vl vu vk, Room 0 A → St C fz led Y G s → Den fz v d → s.heap.IsSliceOf sl vl vu vk → IsPart vl lo → IsPart vu hi → IsPart vk st → ∀ value slice, wpAny (model C.prog C.w) A (subscriptTail value slice v (.ref sl)) (Pst C fz Y G Q) No s
/-- the part of a slice that is written or not -/
noncomputable def WP (C : Cx) (led : Led) (fe : Fe) (vs : Vars) (k : Nat) (o : Option Expr) (Q : Option Int → Led → Prop) : Prop :=
  WE C led fe vs k (evalPart o fe.env) fun d led1 => ∃ p, d = optD p ∧ Q p led1
inductive KPart (Q : Option Int → Led → Prop) (d : D) (led1 : Led) : Prop
  | mk (i : Int) : d = .int i → Q (Option.some i) led1 → KPart Q d led1
noncomputable abbrev KSl4 (C : Cx) (k : Nat) (Q : D → Led → Prop) (d : D) (l u : Option Int) : Option Int → Led → Prop := fun s led4 => ∀ Y, SliceW C Y led4 d l u s Q
noncomputable abbrev KSl3 (C : Cx) (fe : Fe) (vs : Vars) (k : Nat) (st : Option Expr) (Q : D → Led → Prop) (d : D) (l : Option Int) : Option Int → Led → Prop := fun u led3 => WP C led3 fe vs k st (KSl4 C k Q d l u)
noncomputable abbrev KSl2 (C : Cx) (fe : Fe) (vs : Vars) (k : Nat) (hi st : Option Expr) (Q : D → Led → Prop) (d : D) : Option Int → Led → Prop := fun l led2 => WP C led2 fe vs k hi (KSl3 C fe vs k st Q d l)
noncomputable abbrev KSl1 (C : Cx) (fe : Fe) (vs : Vars) (k : Nat) (lo hi st : Option Expr) (Q : D → Led → Prop) : D → Led → Prop := fun d led1 => WP C led1 fe vs k lo (KSl2 C fe vs k hi st Q d)
theorem WP.none {Q : Option Int → Led → Prop} (h : Q Option.none led) : WP C led fe vs k Option.none Q :=
  fun F X hF hd A fz G s hA S => wpAny_pure (Pst.leaf S .none ⟨_, rfl, h⟩)
theorem WP.some {e : Expr} {Q : Option Int → Led → Prop} (h : WE C led fe vs k (eval e fe.env) (KPart Q)) : WP C led fe vs k (Option.some e) Q :=
  WE.mono h fun d led ⟨i, e, q⟩ => ⟨Option.some i, e, q⟩
theorem WE.slice {value : Expr} {lo hi st : Option Expr} {p pos : Pos} {Q : D → Led → Prop}
    (h : WE C led fe vs k (eval value fe.env) (KSl1 C fe vs k lo hi st Q)) :
    WE C led fe vs k (eval (.Subscript value (.Slice lo hi st p) pos) fe.env) Q := by
  intro F X hF hd A fz G s hA S
  refine PyProof.Rows.Subscript_ (chain (h F X hF hd A fz G s hA S) fun v1 s1 fz1 G1 d1 led1 l1 g1 e1 S1 h1 => ?_)
  refine wpAny_Slice (chain (h1 F X hF hd A fz1 G1 s1 hA S1) fun v2 s2 fz2 G2 d2 led2 l2 g2 e2 S2 h2 => ?_)
  obtain ⟨pl, rfl, h2⟩ := h2
  refine chain (h2 F X hF hd A fz2 G2 s2 hA S2) fun v3 s3 fz3 G3 d3 led3 l3 g3 e3 S3 h3 => ?_
  obtain ⟨pu, rfl, h3⟩ := h3
  refine chain (h3 F X hF hd A fz3 G3 s3 hA S3) fun v4 s4 fz4 G4 d4 led4 l4 g4 e4 S4 h4 => ?_
  obtain ⟨pk, rfl, h4⟩ := h4
  have S5 := S4.ext s4.toks (h' := s4.heap.push { cls := .type "slice", data := .fields #[v2, v3, v4] }) (fun b o e => Heap.get?_push_of_some _ e)
  exact fin (h4 _ A fz4 G4 _ v1 _ v2 v3 v4 (hA.r.mono (Nat.zero_le _)) S5 (((e1.mono l2).mono l3).mono l4) (Heap.IsSliceOf.new ..) e2.part e3.part e4.part _ _) (((l1.trans l2).trans l3).trans l4) (((g1.trans g2).trans g3).trans g4)
end

section
variable {C : Cx} {Y led : Led} {value slice : Expr} {Q : D → Led → Prop}

theorem St.frozenList {fz : Fz} {G : Array GenState} {s : Shared} (S : St C fz led Y G s) {v : Value} {xs : List D} (e : Den fz v (.lst xs)) : ∃ a vs n, v = .ref a ∧ s.heap.get? a = some (lstObj vs.toArray n) ∧ Dens fz vs xs := by
  cases e with | lst e1 e2 => exact ⟨_, _, _, rfl, S.rel.fzIn _ _ e1, e2⟩
theorem St.frozenTup {fz : Fz} {G : Array GenState} {s : Shared} (S : St C fz led Y G s) {v : Value} {xs : List D} (e : Den fz v (.tup xs)) : ∃ a vs n o, v = .ref a ∧ s.heap.get? a = some o ∧ o.cls = .type "tuple" ∧ o.data = .seq (List.toArray vs) n ∧ Dens fz vs xs := by
  cases e with | tup e1 hc hd e2 => exact ⟨_, _, _, _, rfl, S.rel.fzIn _ _ e1, hc, hd, e2⟩

theorem SubW.lst {xs : List D} {i : Int} {d : D} (h0 : 0 ≤ i) (hi : i < 2 ^ 63) (hx : xs[i.toNat]? = some d) (h : Q d led) : SubW C Y led value slice (.lst xs) (.int i) Q := by
  intro A fz G s v u hA S e1 e2
  obtain ⟨a, vs, n, rfl, hg, hd⟩ := S.frozenList e1
  induction e2 using Den.intE
  obtain ⟨y, hy, ey⟩ := hd.get hx
  have hl : s.heap.IsList a vs.toArray := ⟨_, hg, rfl, n, rfl⟩
  exact sub_tail hl.typeIs list_getitem_lookup (wpAny_getItem_list hl h0 hi (by simpa using hy) (Pst.leaf S ey h))
theorem SubW.lst_neg {xs : List D} {i : Int} {d : D} (h0 : i < 0) (h1 : -(xs.length : Int) ≤ i) (hl' : xs.length < 2 ^ 62) (hx : xs[(i + xs.length).toNat]? = some d) (h : Q d led) : SubW C Y led value slice (.lst xs) (.int i) Q := by
  intro A fz G s v u hA S e1 e2
  obtain ⟨a, vs, n, rfl, hg, hd⟩ := S.frozenList e1
  induction e2 using Den.intE
  obtain ⟨y, hy, ey⟩ := hd.get hx
  have hl : s.heap.IsList a vs.toArray := ⟨_, hg, rfl, n, rfl⟩
  refine sub_tail hl.typeIs list_getitem_lookup (wpAny_getItem_list_neg hl h0 (by simpa [hd.length] using h1) (by lia) (x := y) ?_ (Pst.leaf S ey h))
  simp only [List.size_toArray, hd.length, List.getElem?_toArray]; exact hy
theorem SubW.ref_neg {a : Addr} {xs : List D} {i : Int} {d : D} (ha : led a = some (.list xs)) (h0 : i < 0) (h1 : -(xs.length : Int) ≤ i) (hl' : xs.length < 2 ^ 62) (hx : xs[(i + xs.length).toNat]? = some d) (h : Q d led) : SubW C Y led value slice (.ref a) (.int i) Q := by
  intro A fz G s v u hA S e1 e2
  induction e1 using Den.refE
  obtain ⟨vs, n, hg, hd⟩ := S.atL ha
  induction e2 using Den.intE
  obtain ⟨y, hy, ey⟩ := hd.get hx
  have hl : s.heap.IsList a vs.toArray := ⟨_, hg, rfl, n, rfl⟩
  refine sub_tail hl.typeIs list_getitem_lookup (wpAny_getItem_list_neg hl h0 (by simpa [hd.length] using h1) (by lia) (x := y) ?_ (Pst.leaf S ey h))
  simp only [List.size_toArray, hd.length, List.getElem?_toArray]; exact hy
theorem seqIdx {i : Int} {n : Nat} (h0 : 0 ≤ i) (h : i.toNat < n) : seqIndex? i n = some i.toNat := by
  have hn : ¬ i < 0 := by lia
  have h2 : i < (n : Int) := by lia
  simp [seqIndex?, hn, h0, h2]
theorem SubW.tup {xs : List D} {i : Int} {d : D} (h0 : 0 ≤ i) (hi : i < 2 ^ 63) (hx : xs[i.toNat]? = some d) (h : Q d led) : SubW C Y led value slice (.tup xs) (.int i) Q := by
  intro A fz G s v u hA S e1 e2
  obtain ⟨a, vs, n, o, rfl, hg, hgc, hgd, hd⟩ := S.frozenTup e1
  induction e2 using Den.intE
  obtain ⟨y, hy, ey⟩ := hd.get hx
  have ht : IsTup s.heap a vs.toArray := ⟨_, hg, hgc, n, hgd⟩
  exact sub_tail ht.typeIs slot_tuple_getitem.lookup (getItem_tuple ht (by lia) hi (seqIdx h0 (by simpa using (List.getElem?_eq_some_iff.mp hy).1)) (x := y) (by simpa using hy) (Pst.leaf S ey h))
theorem SubW.str {x : Str} {i : Int} {c : Nat} (h0 : 0 ≤ i) (hi : i < 2 ^ 63) (hx : x.cps[i.toNat]? = some c) (h : Q (.str ⟨#[c]⟩) led) : SubW C Y led value slice (.str x) (.int i) Q := by
  intro A fz G s v u hA S e1 e2
  induction e1 using Den.strE; induction e2 using Den.intE
  refine sub_tail (typeIs_str s x _) F.slot_str_getitem.lookup (P.getItem_str (c := c) ?_ ?_ (Pst.leaf (S.tok _) (.str ..) h))
  · simp; lia
  · rw [seqIdx (n := x.length) h0 (Array.getElem?_eq_some_iff.mp hx).1]; exact hx

/-! slices -/
theorem SliceW.lst {xs : List D} {lo hi st : Option Int} (hst : st ≠ some 0) (hl : xs.length ≤ 1000000) (h : Q (.lst (pickD xs lo hi st)) led) : SliceW C Y led (.lst xs) lo hi st Q := by
  intro A fz G s v sl vl vu vk hA S e1 hs pl pu pk value slice
  obtain ⟨a, vs, n, rfl, hg, hd⟩ := S.frozenList e1
  have hL : s.heap.IsList a vs.toArray := ⟨_, hg, rfl, n, rfl⟩
  have ha := get_size s.heap (Nat.le_refl _)
  have hz := S.rel.freshF ha
  have hle := hd.length
  have hp := hd.pick lo hi st
  refine sub_tail hL.typeIs list_getitem_lookup (wpAny_getItem_list_slice hL hs pl pu pk hst ?_ (by rw [List.size_toArray, hle]; exact Nat.le_trans hl (by decide)))
  refine ⟨_, G, .lst _, led, fzPut_le hz, .refl _, .lst (vs := (slicePick vs.toArray lo hi st).toList) (n := 0) (by rw [Array.toArray_toList]; exact fzPut_same ..) (hp.mono (fzPut_le hz)),
    ⟨S.dj, S.rel.allocF ha s.toks (fun b o e => Heap.get?_push_of_some _ e) (Heap.get?_push_size _ rfl)⟩, h⟩
theorem isPart_pair {v : Value} {p : Option Int} (h : IsPart v p) : ∃ q : Option (Int × Tok), q.map (·.1) = p ∧ partValue q = v := by
  cases h with
  | none => exact ⟨none, rfl, rfl⟩
  | int i t => exact ⟨some (i, t), rfl, rfl⟩
theorem SliceW.str {x : Str} {lo hi : Option Int} (hl : x.length ≤ 10000000) (h : Q (.str (Txt.slice x lo hi)) led) : SliceW C Y led (.str x) lo hi none Q := by
  intro A fz G s v sl vl vu vk hA S e1 hs pl pu pk value slice
  induction e1 using Den.strE
  obtain ⟨l, rfl, rfl⟩ := isPart_pair pl
  obtain ⟨u, rfl, rfl⟩ := isPart_pair pu
  cases pk
  refine sub_tail (typeIs_str s x _) F.slot_str_getitem.lookup (wpAny_getItem_str_slice (l := l) (u := u) (st := none) (a := sl) hs rfl (post_val_or_str ⟨Nat.le_trans (Txt.slice_le x _ _) (Nat.le_trans hl (by decide)), fun t' k => Pst.leaf (S.tok _) (.str ..) h⟩))
end
end Sc

namespace Sc
set_option tactic.hygienic false

theorem preSum_list (xs : List Int) : ∀ n, n ≤ xs.length → preSum (fun i => xs.getD i 0) n = (xs.take n).sum
  | 0, _ => by simp [preSum]
  | n + 1, h => by
    have e : xs.take (n + 1) = xs.take n ++ [xs[n]] := by rw [List.take_add_one, List.getElem?_eq_getElem (by lia)]; rfl
    have e2 : xs.getD n 0 = xs[n] := by rw [List.getD_eq_getElem?_getD, List.getElem?_eq_getElem (by lia)]; rfl
    rw [preSum, preSum_list xs n (by lia), e, List.sum_append]
    show _ + xs.getD n 0 = _
    rw [e2]; simp

section
variable {C : Cx} {Y led : Led} {k : Nat} {Q : D → Led → Prop}

theorem CallW.len_lst {xs : List D} (hl : xs.length < 2 ^ 62) (h : Q (.int xs.length) led) : CallW C Y led k (.blt "len") [.lst xs] Q := by
  intro A fz G s fv vs hA S e1 e2
  induction e1 using Den.bltE
  induction e2 using Dens.E1 with | k _ x =>
  obtain ⟨a, us, n, rfl, hg, hd⟩ := S.frozenList x
  have hsz : us.toArray.size = xs.length := by simp [hd.length]
  refine Calls.call_len_list (items := us.toArray) ⟨_, hg, rfl, n, rfl⟩ (by rw [hsz]; lia) ?_
  rw [hsz]; exact Pst.leaf (S.tok _) (.int ..) h
theorem CallW.len_ref {a : Addr} {xs : List D} (ha : led a = some (.list xs)) (hl : xs.length < 2 ^ 62) (h : Q (.int xs.length) led) : CallW C Y led k (.blt "len") [.ref a] Q := by
  intro A fz G s fv vs hA S e1 e2
  induction e1 using Den.bltE
  induction e2 using Dens.E1 with | k _ x =>
  induction x using Den.refE
  obtain ⟨us, n, hg, hd⟩ := S.atL ha
  have hsz : us.toArray.size = xs.length := by simp [hd.length]
  refine Calls.call_len_list (items := us.toArray) ⟨_, hg, rfl, n, rfl⟩ (by rw [hsz]; lia) ?_
  rw [hsz]; exact Pst.leaf (S.tok _) (.int ..) h
theorem CallW.range1 {n : Int} (h : Q (.rng 0 n) led) : CallW C Y led k (.typ "range") [.int n] Q := by
  intro A fz G s fv vs hA S e1 e2
  induction e1 using Den.typE
  induction e2 using Dens.E1 with | k _ x =>
  induction x using Den.intE
  have ha := get_size s.heap (Nat.le_refl _)
  have hz := S.rel.freshF ha
  exact call_range_1 ⟨_, G, .rng 0 n, led, fzPut_le hz, .refl _, .rng (fzPut_same ..), ⟨S.dj, S.rel.allocF ha _ (fun b o e => Heap.get?_push_of_some _ e) (Heap.get?_push_size _ rfl)⟩, h⟩
theorem CallW.divmod {a b : Int} (hb : b ≠ 0) (hs : b.natAbs < 2 ^ 64) (h : Q (.tup [.int (a.fdiv b), .int (a.fmod b)]) led) : CallW C Y led k (.blt "divmod") [.int a, .int b] Q := by
  intro A fz G s fv vs hA S e1 e2
  induction e1 using Den.bltE
  cases e2 with | cons x y => cases y with | cons x' y' => cases y' with | nil =>
  induction x using Den.intE; cases x'
  have ha := get_size s.heap (Nat.le_refl _)
  have hz := S.rel.freshF ha
  refine PyProof.Rows.divmod_int hb ?_ (Or.inl (noPyl hs))
  exact ⟨_, G, _, led, fzPut_le hz, .refl _, .tup (n := 0) (vs := [.int (a.fdiv b) s.toks, .int (a.fmod b) (s.toks + 1)]) (fzPut_same ..) rfl rfl (.cons (.int ..) (.cons (.int ..) .nil)),
    ⟨S.dj, S.rel.allocF ha _ (fun b o e => Heap.get?_push_of_some _ e) (Heap.get?_push_size _ rfl)⟩, h⟩
theorem ints_den {fz : Fz} {vs : List Value} {ns : List Int} (h : Dens fz vs (ns.map .int)) {i : Nat} {v : Value} (e : vs[i]? = some v) : ∃ t, v = .int (ns.getD i 0) t := by
  obtain ⟨d, q, x⟩ := h.get' e
  rw [List.getElem?_map] at q
  cases hn : ns[i]? with
  | none => rw [hn] at q; cases q
  | some z => rw [hn] at q; cases q; induction x using Den.intE; exact ⟨_, by rw [List.getD_eq_getElem?_getD, hn]; rfl⟩
/-- the sums stay small -/
noncomputable def SumOk (ns : List Int) : Prop := (∀ n ∈ ns, InLong n) ∧ ∀ j, j ≤ ns.length → InLong (ns.take j).sum
theorem CallW.sum {ns : List Int} (hs : SumOk ns) (h : Q (.int ns.sum) led) : CallW C Y led k (.blt "sum") [.lst (ns.map .int)] Q := by
  intro A fz G s fv vs hA S e1 e2
  induction e1 using Den.bltE
  induction e2 using Dens.E1 with | k _ x =>
  obtain ⟨a, us, n, rfl, hg, hd⟩ := S.frozenList x
  have hlen : us.length = ns.length := by rw [hd.length, List.length_map]
  have hL : s.heap.IsList a us.toArray := ⟨_, hg, rfl, n, rfl⟩
  have hne : a ≠ s.heap.objs.size := Nat.ne_of_lt (Heap.lt_size hg)
  refine call_sum_walk (wpAny_pyIter_list hL ⟨s.heap.objs.size, [s.heap.objs.size, a], [s.heap.objs.size], us.toArray.size, _, _, fun i => ns.getD i 0, rfl, Walks.list (A := A.in1) hA.r.1 s.heap.objs.size a hne us.toArray,
    ⟨⟨_, Heap.get?_push_size _ rfl, rfl, rfl⟩, hL.push _⟩, fun b hb => ?_, fun i v p => ?_, fun j hj => ?_, fun h' tk t' hk => ?_⟩)
  · show b < (s.heap.push _).objs.size
    rw [Heap.size_push]
    have h2 := Heap.lt_size hg
    rcases List.mem_cons.mp hb with rfl | hb
    · exact Nat.lt_succ_self _
    · rcases List.mem_cons.mp hb with rfl | hb
      · exact Nat.lt_succ_of_lt h2
      · cases hb
  · exact ints_den hd (by simpa using p)
  · rw [List.size_toArray, hlen] at hj
    refine ⟨hs.1 _ ?_, ?_⟩
    · show ns.getD j 0 ∈ ns
      rw [List.getD_eq_getElem?_getD, List.getElem?_eq_getElem hj]; exact List.getElem_mem hj
    · rw [preSum_list ns (j + 1) (by lia)]; exact hs.2 _ (by lia)
  · rw [List.size_toArray, hlen, preSum_list ns _ (Nat.le_refl _), List.take_length]
    refine Pst.leaf ?_ (.int ..) h
    exact S.ext tk fun b o e => hk b o (by have h2 := Heap.lt_size e; intro hm; rw [List.mem_singleton] at hm; rw [hm] at h2; exact Nat.lt_irrefl _ h2) (Heap.get?_push_of_some _ e)
end
end Sc

namespace Sc
set_option tactic.hygienic false

/-- a def of the top, as the head leaves it -/
noncomputable def GFnF (C : Cx) (a : Addr) (st : Stmt) (fd : FuncData) : Prop :=
  (∀ Y led, Callable C Y led a fd) ∧ ∃ name args body scope pos, st = .FunctionDef name args body [] none [] scope none name pos ∧ FnIs fd args (.stmts body) scope []
noncomputable def GFn (C : Cx) (a : Addr) (st : Stmt) : Prop := ∃ fd, GFnF C a st fd
theorem GFnF.is {C : Cx} {a : Addr} {st : Stmt} {fd : FuncData} {name name' : Str} {args : Arguments} {body : List Stmt} {scope : Scope} {pos : Pos} (h : GFnF C a st fd) (hst : st = .FunctionDef name args body [] none [] scope none name' pos) : FnIs fd args (.stmts body) scope [] := by
  obtain ⟨_, _, _, _, _, _, h1, h2⟩ := h
  rw [hst] at h1
  cases h1
  exact h2
theorem GFn.keep {C : Cx} {a : Addr} {st : Stmt} (h : GFn C a st) {Y led : Led} : KeepOk C Y led (.ref a) :=
  let ⟨_, h, _⟩ := h; KeepOk.fn (h Y led)
theorem CodeW.gfn {C : Cx} {Y led : Led} {k : Nat} {a : Addr} {st : Stmt} {name name' : Str} {args : Arguments} {body : List Stmt} {scope : Scope} {pos : Pos} {ds : List D} {Q : D → Led → Prop} (h : GFn C a st)
    (hst : st = .FunctionDef name args body [] none [] scope none name' pos) (vs : Vars) (hok : argsOk' args (vs.map (·.1)) scope = true) (hds : ds = vs.map (·.2))
    (hb : ∀ L cs q code, WS C led (fnFe scope L cs q a code) vs k (execs body (fnFe scope L cs q a code).env) (Back Q)) : CodeW C Y led (k + 1) (.ref a) ds Q :=
  let ⟨_, h⟩ := h; CodeW.ofT (h.1 Y led) (h.is hst) hok hds CloOk.nil rfl fun L cs _ F X hF => (hb L cs _ _).t F X hF.toNil

theorem CallW.gfn {C : Cx} {Y led : Led} {k : Nat} {a : Addr} {st : Stmt} {name name' : Str} {args : Arguments} {body : List Stmt} {scope : Scope} {pos : Pos} {ds : List D} {Q : D → Led → Prop} (h : GFn C a st)
    (hst : st = .FunctionDef name args body [] none [] scope none name' pos) (vs : Vars) (hok : argsOk' args (vs.map (·.1)) scope = true) (hds : ds = vs.map (·.2))
    (hb : ∀ L cs q code, WS C led (fnFe scope L cs q a code) vs k (execs body (fnFe scope L cs q a code).env) (Back Q)) : CallW C Y led (k + 1) (.ref a) ds Q :=
  (CodeW.gfn h hst vs hok hds hb).call

/-- the top of a name's use -/
theorem WE.nm {C : Cx} {led : Led} {fe : Fe} {vs : Vars} {k : Nat} {x : Str} {pos : Pos} {d : D} {Q : D → Led → Prop} (h : Q d led) (hx : autoParam (vs.lookup x = some d) rflA) (hk : autoParam ((fe.env.kindOf x == some .local || fe.env.kindOf x == some .cell || fe.env.kindOf x == some .free) = true) rflA)
    (hd : autoParam ((x == ("__debug__" : Str)) = false) rflA) (hc : autoParam ((x == ("__classdict__" : Str)) = false) rflA) : WE C led fe vs k (eval (.Name x pos) fe.env) Q := by
  refine WE.name_of ?_ hd
  simp only [Bool.or_eq_true, beq_iff_eq] at hk
  rcases hk with (hk | hk) | hk
  · exact WE.ld_local hx hk h
  · exact WE.ld_cell hx hk h
  · exact WE.ld_free hx hk h hc
theorem WE.ld {C : Cx} {led : Led} {fe : Fe} {vs : Vars} {k : Nat} {x : Str} {d : D} {Q : D → Led → Prop} (h : Q d led) (hx : autoParam (vs.lookup x = some d) rflA) (hk : autoParam ((fe.env.kindOf x == some .local || fe.env.kindOf x == some .cell) = true) rflA)
    : WE C led fe vs k (loadName fe.env x) Q := by
  simp only [Bool.or_eq_true, beq_iff_eq] at hk
  rcases hk with hk | hk
  · exact WE.ld_local hx hk h
  · exact WE.ld_cell hx hk h
theorem WU.st {C : Cx} {led : Led} {fe : Fe} {vs : Vars} {k : Nat} {x : Str} {d : D} {Q : Vars → Led → Prop} (h : Q (vset vs x d) led) (hk : autoParam ((fe.env.kindOf x == some .local || (fe.env.kindOf x == some .cell && fe.ow.contains x)) = true) rflA) : WU C led fe vs k (storeName fe.env x) d Q := by
  simp only [Bool.or_eq_true, Bool.and_eq_true, beq_iff_eq, List.contains_iff_mem] at hk
  exact WU.store hk h
end Sc

namespace Sc
set_option tactic.hygienic false
noncomputable def biNames : List Str := ["len", "range", "sum", "min", "iter", "reversed", "divmod", "list", "str", "dict", "zip", "enumerate"]
/-- the text binds none of the built-in names that it uses -/
noncomputable def NoG (C : Cx) : Prop := ∀ x ∈ biNames, C.mg x = none
section
variable {C : Cx} {led : Led} {fe : Fe} {vs : Vars} {k : Nat} {pos : Pos} {Q : D → Led → Prop}
noncomputable def biL : List (Str × Value) := [("len", .builtin "len"), ("range", .type "range"), ("sum", .builtin "sum"), ("min", .builtin "min"), ("iter", .builtin "iter"), ("reversed", .type "reversed"), ("divmod", .builtin "divmod"), ("list", .type "list"), ("str", .type "str"), ("dict", .type "dict"), ("zip", .type "zip"), ("enumerate", .type "enumerate")]
noncomputable abbrev bvD : Value → D
  | .builtin n => .blt n
  | .type n => .typ n
  | _ => .none
noncomputable def bvOk : Value → Bool
  | .builtin _ => true
  | .type _ => true
  | _ => false
theorem bvDen {fz : Fz} {v : Value} (h : bvOk v = true) : Den fz v (bvD v) := by
  cases v <;> first | exact .blt _ | exact .typ _ | cases h
theorem bi_ok : ∀ p ∈ biL, bootBuiltins p.1 = some p.2 ∧ p.1 ∈ biNames ∧ p.1 ≠ "__name__" ∧ (p.1 == ("__debug__" : Str)) = false ∧ bvOk p.2 = true := by decide +kernel
theorem WE.n_bi {x : Str} {d : D} (h : Q d led) (N : autoParam (NoG C) asmA) (hx : autoParam ((biL.lookup x).map bvD = some d) rflA) (hk : autoParam (fe.env.kindOf x = some .globalImplicit) rflA) : WE C led fe vs k (eval (.Name x pos) fe.env) Q := by
  cases hl : biL.lookup x with
  | none => rw [hl] at hx; cases hx
  | some v =>
    rw [hl] at hx; cases hx
    obtain ⟨h1, h2, h3, h4, h5⟩ := bi_ok (x, v) (mem_of_lookup hl)
    exact WE.name_blt (v := v) (N _ h2) h1 (fun fz => bvDen h5) h hk h3 h4
end
/-- a def of the top by its name -/
theorem WE.n_fn {C : Cx} {led : Led} {fe : Fe} {vs : Vars} {k : Nat} {pos : Pos} {Q : D → Led → Prop} {x : Str} {a : Addr} (h : Q (.ref a) led) (hx : autoParam (C.mg x = some (.ref a)) asmA) (hk : autoParam (fe.env.kindOf x = some .globalImplicit) rflA)
    (hd : autoParam ((x == ("__debug__" : Str)) = false) rflA) : WE C led fe vs k (eval (.Name x pos) fe.env) Q := WE.name_glob hx (fun _ => .ref a) h hk hd
theorem WE.n_int {C : Cx} {led : Led} {fe : Fe} {vs : Vars} {k : Nat} {pos : Pos} {Q : D → Led → Prop} {x : Str} {i : Int} {t : Tok} (h : Q (.int i) led) (hx : autoParam (C.mg x = some (.int i t)) asmA) (hk : autoParam (fe.env.kindOf x = some .globalImplicit) rflA)
    (hd : autoParam ((x == ("__debug__" : Str)) = false) rflA) : WE C led fe vs k (eval (.Name x pos) fe.env) Q := WE.name_glob hx (fun _ => .int i t) h hk hd
end Sc

namespace Sc
set_option tactic.hygienic false

theorem St.wr {C : Cx} {fz : Fz} {led Y : Led} {G : Array GenState} {s : Shared} (S : St C fz led Y G s) {a : Addr} {m₀ m : M} (ha : led a = some m₀) {h' : Heap} (t : Nat) (hk : Heap.ExtBut a s.heap h') (hm : MAt fz h' a m) : St C fz (upd led a m) Y G { s with heap := h', toks := t } := by
  refine ⟨S.dj.upd m (S.dj.of_some ha), ?_⟩
  rw [Un_upd]
  exact S.rel.upd (m₀ := m₀) (Un_left ha) t hk hm
theorem St.listAt {C : Cx} {fz : Fz} {led Y : Led} {G : Array GenState} {s : Shared} (S : St C fz led Y G s) {a : Addr} {xs : List D} (ha : led a = some (.list xs)) : ∃ vs n, IsL s.heap a vs.toArray n ∧ Dens fz vs xs :=
  let ⟨vs, n, e, d⟩ := S.atL ha; ⟨vs, n, e, d⟩
/-- a list in the ledger is changed -/
theorem St.setL {C : Cx} {fz : Fz} {led Y : Led} {G : Array GenState} {s : Shared} (S : St C fz led Y G s) {a : Addr} {xs ys : List D} (ha : led a = some (.list xs)) {vs ws : List Value} {n : Nat} (hl : IsL s.heap a vs.toArray n) {f : Array Value → Array Value}
    (hf : f vs.toArray = ws.toArray) (hd : Dens fz ws ys) (t : Nat) : St C fz (upd led a (.list ys)) Y G { s with heap := s.heap.update a (Obj.mapSeq f), toks := t } := by
  have hu := IsL.update hl f
  rw [hf] at hu
  exact S.wr ha (m := .list ys) t (Heap.SameBut.update ..).extBut ⟨ws, _, hu, hd⟩

theorem Dens.set {f : Fz} {v : Value} {d : D} (x : Den f v d) {vs : List Value} {ds : List D} (i : Nat) (h : Dens f vs ds) : Dens f (vs.set i v) (ds.set i d) := by
  induction ds generalizing vs i with
  | nil => obtain rfl := h.inv; exact .nil
  | cons d' ds ih =>
    obtain ⟨u, us, x1, y, rfl⟩ := h.inv
    cases i with
    | zero => exact .cons x y
    | succ i => exact .cons x1 (ih i y)
theorem Dens.erase {f : Fz} {vs : List Value} {ds : List D} (i : Nat) (h : Dens f vs ds) : Dens f (vs.eraseIdx i) (ds.eraseIdx i) := by
  induction ds generalizing vs i with
  | nil => obtain rfl := h.inv; exact .nil
  | cons d' ds ih =>
    obtain ⟨u, us, x1, y, rfl⟩ := h.inv
    cases i with
    | zero => exact y
    | succ i => exact .cons x1 (ih i y)
theorem Dens.repl {f : Fz} {vs : List Value} {ds : List D} (h : Dens f vs ds) : ∀ n : Nat, Dens f (List.replicate n vs).flatten (List.replicate n ds).flatten
  | 0 => .nil
  | n + 1 => by rw [List.replicate_succ, List.replicate_succ, List.flatten_cons, List.flatten_cons]; exact Dens.append (h.repl n) h

section
variable {C : Cx} {Y led : Led} {k : Nat} {Q : D → Led → Prop} {a : Addr} {xs : List D}

theorem GetM.listM {name : Str} {id : String} (ha : led a = some (.list xs)) (slot : Slot "list" name id) (hty : typeOf (.builtin id) = pure (.type "method_descriptor")) : GetM C Y led (.ref a) name (.blt id) [.ref a] :=
  GetM.builtin (T := "list") (fun fz G s v S e => by
    induction e using Den.refE
    obtain ⟨vs, n, hl, _⟩ := S.listAt ha
    exact ⟨⟨_, hl, rfl⟩, fun b hb => by cases hb; exact ⟨_, hl, rfl⟩⟩) F.plainAttrs_list slot hty
theorem GetM.append (ha : led a = some (.list xs)) : GetM C Y led (.ref a) "append" (.blt "list.append") [.ref a] := GetM.listM ha F.slot_list_append F.type_list_append
theorem GetM.pop (ha : led a = some (.list xs)) : GetM C Y led (.ref a) "pop" (.blt "list.pop") [.ref a] := GetM.listM ha F.slot_list_pop F.type_list_pop
theorem GetM.reverse (ha : led a = some (.list xs)) : GetM C Y led (.ref a) "reverse" (.blt "list.reverse") [.ref a] := GetM.listM ha F.slot_list_reverse F.type_list_reverse
theorem GetM.strs {x : Str} {name : Str} {id : String} (slot : Slot "str" name id) (hty : typeOf (.builtin id) = pure (.type "method_descriptor")) : GetM C Y led (.str x) name (.blt id) [.str x] :=
  GetM.builtin (T := "str") (fun fz G s v S e => by induction e using Den.strE; exact ⟨typeIs_str _ _ _, fun b hb => by cases hb⟩) F.plainAttrs_str slot hty
theorem GetM.join {x : Str} : GetM C Y led (.str x) "join" (.blt "str.join") [.str x] := GetM.strs F.slot_str_join F.type_str_join
theorem GetM.index {x : Str} : GetM C Y led (.str x) "index" (.blt "str.index") [.str x] := GetM.strs F.slot_str_index F.type_str_index
theorem GetM.count {x : Str} : GetM C Y led (.str x) "count" (.blt "str.count") [.str x] := GetM.strs F.slot_str_count F.type_str_count
theorem GetM.bitlen {i : Int} : GetM C Y led (.int i) "bit_length" (.blt "int.bit_length") [.int i] :=
  GetM.builtin (T := "int") (fun fz G s v S e => by induction e using Den.intE; exact ⟨typeIs_int _ _ _, fun b hb => by cases hb⟩) F.plainAttrs_int F.slot_int_bit_length F.type_int_bit_length

theorem CallW.append {d : D} (ha : led a = some (.list xs)) (hl : xs.length ≤ 1000000) (h : Q .none (upd led a (.list (xs ++ [d])))) : CallW C Y led k (.blt "list.append") [.ref a, d] Q := by
  intro A fz G s fv vs hA S e1 e2
  induction e1 using Den.bltE
  cases e2 with | cons x y => cases y with | cons x' y' => cases y' with | nil =>
  induction x using Den.refE
  obtain ⟨us, n, hL, hd⟩ := S.listAt ha
  have hz : us.toArray.size ≤ sizeLine := by rw [List.size_toArray, hd.length]; exact Nat.le_trans hl (by decide)
  refine call_meets F.slot_list_append ⟨_, hL, rfl⟩ F.entry_list_append (F.args_list_append_2 _ _) (list_append a us.toArray n _ hz) ⟨hL, ?_⟩
  exact Pst.leaf (S.setL ha hL (ws := us ++ [_]) (by simp) (hd.snoc x') s.toks) .none h
theorem CallW.reverse (ha : led a = some (.list xs)) (hl : xs.length ≤ 1000000) (h : Q .none (upd led a (.list xs.reverse))) : CallW C Y led k (.blt "list.reverse") [.ref a] Q := by
  intro A fz G s fv vs hA S e1 e2
  induction e1 using Den.bltE
  induction e2 using Dens.E1 with | k _ x =>
  induction x using Den.refE
  obtain ⟨us, n, hL, hd⟩ := S.listAt ha
  have hz : us.toArray.size ≤ sizeLine := by rw [List.size_toArray, hd.length]; exact Nat.le_trans hl (by decide)
  refine call_meets F.slot_list_reverse ⟨_, hL, rfl⟩ F.entry_list_reverse (F.args_list_reverse_1 _) (AutoSeq1.list_reverse_list_0 a us.toArray n hz) ⟨hL, ?_⟩
  exact Pst.leaf (S.setL ha hL (ws := us.reverse) (by simp) hd.reverse s.toks) .none h
theorem CallW.pop_at {i : Int} {d : D} (ha : led a = some (.list xs)) (hl : xs.length ≤ 1000000) (h0 : 0 ≤ i) (hx : xs[i.toNat]? = some d) (h : Q d (upd led a (.list (xs.eraseIdx i.toNat)))) : CallW C Y led k (.blt "list.pop") [.ref a, .int i] Q := by
  intro A fz G s fv vs hA S e1 e2
  induction e1 using Den.bltE
  cases e2 with | cons x y => cases y with | cons x' y' => cases y' with | nil =>
  induction x using Den.refE; cases x'
  obtain ⟨us, n, hL, hd⟩ := S.listAt ha
  obtain ⟨y, hy, ey⟩ := hd.get hx
  have hlt : i.toNat < us.length := (List.getElem?_eq_some_iff.mp hy).1
  have hz : us.toArray.size ≤ sizeLine := by rw [List.size_toArray, hd.length]; exact Nat.le_trans hl (by decide)
  have hi : i < 2 ^ 63 := by have := hd.length; lia
  refine call_meets F.slot_list_pop ⟨_, hL, rfl⟩ F.entry_list_pop (F.args_list_pop_2 _ _) (MeetsSeq.list_pop_at a us.toArray n i _ i.toNat y (by simp [Builtin.List.listFitsIndex]; lia) (seqIdx h0 (by simpa using hlt)) (by simpa using hy) hz) ⟨hL, ?_⟩
  exact Pst.leaf (S.setL ha hL (ws := us.eraseIdx i.toNat) (by simp [Array.eraseIdxIfInBounds, hlt]) (Dens.erase _ hd) s.toks) ey h
theorem CallW.bitlen {i : Int} (h : Q (.int (Builtin.Int.intBits i)) led) : CallW C Y led k (.blt "int.bit_length") [.int i] Q := by
  intro A fz G s fv vs hA S e1 e2
  induction e1 using Den.bltE
  induction e2 using Dens.E1 with | k _ x =>
  induction x using Den.intE
  exact PyProof.Rows.call_int_bit_length (Pst.leaf (S.tok _) (.int ..) h)
end
end Sc

namespace Sc

/-! data as the library writes them -/
mutual
noncomputable def D.py : D → PyData
  | .none => .none
  | .bool b => .bool b
  | .int i => .int i
  | .str x => .str x
  | .tup xs => .tuple (D.pys xs)
  | .lst xs => .list (D.pys xs)
  | _ => .none
noncomputable def D.pys : List D → List PyData
  | [] => []
  | x :: xs => x.py :: D.pys xs
end
mutual
noncomputable def D.pure : D → Bool
  | .none => true
  | .bool _ => true
  | .int _ => true
  | .str x => PyData.strOk x
  | .tup xs => D.pures xs
  | .lst xs => D.pures xs
  | _ => false
noncomputable def D.pures : List D → Bool
  | [] => true
  | x :: xs => x.pure && D.pures xs
end
mutual
theorem D.canLay : ∀ d : D, d.pure = true → d.py.canLay0 = true
  | .none, _ => rfl
  | .bool _, _ => rfl
  | .int _, _ => rfl
  | .str x, h => h
  | .tup xs, h => D.canLays xs h
  | .lst xs, h => D.canLays xs h
  | .ref _, h => by cases h
  | .blt _, h => by cases h
  | .typ _, h => by cases h
  | .rng _ _, h => by cases h
  | .dct _, h => by cases h
  | .meth _ _, h => by cases h
  | .itr _ _ _, h => by cases h
theorem D.canLays : ∀ ds : List D, D.pures ds = true → PyData.canLayAll0 (D.pys ds) = true
  | [], _ => rfl
  | x :: xs, h => by
    have h' : x.pure = true ∧ D.pures xs = true := by simpa [D.pures] using h
    show (x.py.canLay0 && PyData.canLayAll0 (D.pys xs)) = true
    rw [D.canLay x h'.1, D.canLays xs h'.2]; rfl
end
mutual
theorem D.reads {fz : Fz} {h : Heap} (hz : ∀ a o, fz a = some o → h.get? a = some o) : ∀ (d : D) (v : Value), d.pure = true → Den fz v d → ∃ as, Reads h v d.py as
  | .none, v, p, e => by induction e using Den.noneE; exact ⟨_, .none⟩
  | .bool _, v, p, e => by induction e using Den.boolE; exact ⟨_, .bool _⟩
  | .int _, v, p, e => by induction e using Den.intE; exact ⟨_, .int ..⟩
  | .str _, v, p, e => by induction e using Den.strE; exact ⟨_, .str ..⟩
  | .tup xs, v, p, e => by
    cases e with
    | tup e1 hc hd e2 => obtain ⟨as, r⟩ := D.readss hz xs _ p e2; exact ⟨_, .tuple (hz _ _ e1) hc hd r⟩
  | .lst xs, v, p, e => by
    cases e with
    | lst e1 e2 => obtain ⟨as, r⟩ := D.readss hz xs _ p e2; exact ⟨_, .list (hz _ _ e1) rfl rfl r⟩
  | .ref _, _, h, _ => by cases h
  | .blt _, _, h, _ => by cases h
  | .typ _, _, h, _ => by cases h
  | .rng _ _, _, h, _ => by cases h
  | .dct _, _, h, _ => by cases h
  | .meth _ _, _, h, _ => by cases h
  | .itr _ _ _, _, h, _ => by cases h
theorem D.readss {fz : Fz} {h : Heap} (hz : ∀ a o, fz a = some o → h.get? a = some o) : ∀ (ds : List D) (vs : List Value), D.pures ds = true → Dens fz vs ds → ∃ as, ReadsAll h vs (D.pys ds) as
  | [], vs, p, e => by induction e using Dens.E0; exact ⟨_, .nil⟩
  | x :: xs, vs, p, e => by
    have p' : x.pure = true ∧ D.pures xs = true := by simpa [D.pures] using p
    cases e with
    | cons e1 e2 =>
      obtain ⟨as, r⟩ := D.reads hz x _ p'.1 e1
      obtain ⟨bs, r'⟩ := D.readss hz xs _ p'.2 e2
      exact ⟨_, .cons r r'⟩
end
noncomputable def D.eqv (d e : D) : Bool := PyData.eqv d.py e.py

section
variable {C : Cx} {Y led : Led} {k : Nat} {Q : D → Led → Prop} {d e : D}
theorem St.hz {fz : Fz} {G : Array GenState} {s : Shared} (S : St C fz led Y G s) : ∀ a o, fz a = some o → s.heap.get? a = some o := S.rel.fzIn
theorem min20 {a b : Nat} (h : a ≤ 20 ∨ b ≤ 20) : min a b ≤ 20 := h.elim (Nat.le_trans (Nat.min_le_left ..)) (Nat.le_trans (Nat.min_le_right ..))
theorem room20 {u k m : Nat} (h : u + 20 * (k + 1) < 9900) (hm : m ≤ 20) : u + m < 9900 := Nat.lt_of_le_of_lt (Nat.add_le_add_left (Nat.le_trans hm (Nat.le_mul_of_pos_right 20 (Nat.succ_pos k))) u) h
theorem Op2.ned (hd : d.pure = true) (he : e.pure = true) (hn : d.py.depth ≤ 20 ∨ e.py.depth ≤ 20) (h : Q (.bool (!d.eqv e)) led) : Op2 C Y led (k + 1) (compareOp .NotEq) d e Q := fun A fz G s v u hA S e1 e2 => by
  obtain ⟨as, r⟩ := D.reads S.hz d v hd e1
  obtain ⟨bs, r'⟩ := D.reads S.hz e u he e2
  refine SeqAt.compareNe_reads r r' (D.canLay d hd) (D.canLay e he) ?_ (Pst.leaf S (.bool _) h)
  exact room20 hA.2.2 (min20 hn)
/-- a list in the ledger, compared -/
theorem Op2.ne_ref {a : Addr} {xs : List D} (ha : led a = some (.list xs)) (hd : D.pures xs = true) (he : e.pure = true) (hn : e.py.depth ≤ 20) (h : Q (.bool (!(D.lst xs).eqv e)) led) : Op2 C Y led (k + 1) (compareOp .NotEq) (.ref a) e Q := fun A fz G s v u hA S e1 e2 => by
  induction e1 using Den.refE
  obtain ⟨vs, n, hl, hv⟩ := S.listAt ha
  obtain ⟨as, r⟩ := D.readss S.hz xs vs hd hv
  obtain ⟨bs, r'⟩ := D.reads S.hz e u he e2
  refine SeqAt.compareNe_reads (da := .list (D.pys xs)) (.list hl rfl rfl r) r' (D.canLays xs hd) (D.canLay e he) ?_ (Pst.leaf S (.bool _) h)
  exact room20 hA.2.2 (min20 (.inr hn))
theorem Op2.ins {x y : Str} (h : Q (.bool (Txt.contains x y)) led) : Op2 C Y led k (compareOp .In) (.str y) (.str x) Q := fun A fz G s v u hA S e1 e2 => by
  induction e1 using Den.strE; induction e2 using Den.strE; exact SB.contains (Pst.leaf S (.bool _) h)
theorem Op2.nins {x y : Str} (h : Q (.bool (!Txt.contains x y)) led) : Op2 C Y led k (compareOp .NotIn) (.str y) (.str x) Q := fun A fz G s v u hA S e1 e2 => by
  induction e1 using Den.strE; induction e2 using Den.strE; exact P.notIn_str (Pst.leaf S (.bool _) h)

/-! truth -/
theorem Tru.int {i : Int} {Q : Bool → Led → Prop} (h : Q (i != 0) led) : Tru C Y led k (.int i) Q := fun A fz G s v hA S e => by
  induction e using Den.intE; exact PyProof.Rows.truthy_int (Psb.leaf S h)
theorem Tru.lst {xs : List D} {Q : Bool → Led → Prop} (hl : xs.length ≤ 10000000) (h : Q (!xs.isEmpty) led) : Tru C Y led k (.lst xs) Q := fun A fz G s v hA S e => by
  obtain ⟨a, vs, n, rfl, hg, hd⟩ := S.frozenList e
  have hlen := hd.length
  refine wpAny_truthy_list (items := vs.toArray) ⟨_, hg, rfl, n, rfl⟩ (by rw [List.size_toArray]; lia) ?_
  have e2 : vs.toArray.isEmpty = xs.isEmpty := by cases vs <;> cases xs <;> first | rfl | cases hlen
  rw [e2]; exact Psb.leaf (S.tok _) h
theorem Tru.ref {a : Addr} {xs : List D} {Q : Bool → Led → Prop} (ha : led a = some (.list xs)) (hl : xs.length ≤ 10000000) (h : Q (!xs.isEmpty) led) : Tru C Y led k (.ref a) Q := fun A fz G s v hA S e => by
  induction e using Den.refE
  obtain ⟨vs, n, hg, hd⟩ := S.listAt ha
  have hlen := hd.length
  refine wpAny_truthy_list (items := vs.toArray) ⟨_, hg, rfl, n, rfl⟩ (by rw [List.size_toArray]; lia) ?_
  have e2 : vs.toArray.isEmpty = xs.isEmpty := by cases vs <;> cases xs <;> first | rfl | cases hlen
  rw [e2]; exact Psb.leaf (S.tok _) h

/-! lists -/
theorem Op2.addl {xs ys : List D} (hl : xs.length + ys.length ≤ 1000000) (h : Q (.lst (xs ++ ys)) led) : Op2 C Y led k (binaryOp .Add) (.lst xs) (.lst ys) Q := fun A fz G s v u hA S e1 e2 => by
  obtain ⟨a, vs, n, rfl, hg, hd⟩ := S.frozenList e1
  obtain ⟨b, us, m, rfl, hg2, hd2⟩ := S.frozenList e2
  have h1 := hd.length
  have h2 := hd2.length
  have ha := get_size s.heap (Nat.le_refl _)
  have hz := S.rel.freshF ha
  refine P.add_list (items := vs.toArray) (items2 := us.toArray) hg hg2 ?_ (by rw [List.size_toArray, List.size_toArray, h1, h2]; exact Nat.le_trans hl (by decide))
  have e3 : vs.toArray ++ us.toArray = (vs ++ us).toArray := by simp
  rw [e3]
  exact ⟨_, G, .lst (xs ++ ys), led, fzPut_le hz, .refl _, .lst (n := 0) (fzPut_same ..) ((Dens.append hd2 hd).mono (fzPut_le hz)),
    ⟨S.dj, S.rel.allocF ha s.toks (fun b o e => Heap.get?_push_of_some _ e) (Heap.get?_push_size _ rfl)⟩, h⟩
theorem foldl_arr {α : Type} (x : Array α) : ∀ (l : List (Array α)), List.foldl (fun x1 x2 => x1 ++ x2) x l = x ++ (l.map Array.toList).flatten.toArray := by
  intro l
  induction l generalizing x with
  | nil => simp
  | cons y l ih => rw [List.foldl_cons, ih]; apply Array.toList_inj.mp; simp
/-- a list is said again and again: the new list may be written -/
theorem Op2.mull {xs : List D} {i : Int} (h0 : 0 ≤ i) (hl : xs.length * i.toNat ≤ 1000000) (hi : i ≤ 1000000) (hx : xs ≠ [])
    (h : ∀ a, led a = none → Q (.ref a) (upd led a (.list (List.replicate i.toNat xs).flatten))) : Op2 C Y led k (binaryOp .Mult) (.lst xs) (.int i) Q := fun A fz G s v u hA S e1 e2 => by
  obtain ⟨a, vs, n, rfl, hg, hd⟩ := S.frozenList e1
  induction e2 using Den.intE
  rename_i u
  have h1 := hd.length
  have ha := get_size s.heap (Nat.le_refl _)
  have hsz : vs.toArray.size * i.toNat ≤ 1000000 := by rw [List.size_toArray, h1]; exact hl
  refine wpAny_binaryOp_repeat_ref (T := "list") (U := "int") (by decide) ⟨_, hg, rfl⟩ (fun s' => typeIs_int s' i u) noFill_list_mul F.fills_int_mul F.slot_int_rmul repeat_list F.slot_int_index.lookup
    (call_meets F.slot_int_rmul (typeIs_int s i u) F.entry_int_rmul (F.args_int_rmul_2 _ _) (int___rmul___int_list i u a vs.toArray n)
      ⟨hg, rfl, ⟨_, hg, rfl⟩, call_meets F.slot_list_mul ⟨_, hg, rfl⟩ F.entry_list_mul (F.args_list_mul_2 _ _)
        (AutoListH.list___mul___list_int_3 a vs.toArray n i u (by simp [Builtin.List.listFitsIndex]; lia) (by lia) (by unfold Builtin.List.listTooLong sizeLine; simp only [decide_eq_true_eq]; lia))
        ⟨hg, ?_⟩⟩)
  have hne : vs.toArray.isEmpty = false := by cases vs <;> cases xs <;> first | exact absurd rfl hx | rfl | cases h1
  have e3 : List.foldl (fun x1 x2 => x1 ++ x2) #[] (List.replicate (if vs.toArray.isEmpty = true then 0 else i.toNat) vs.toArray) = ((List.replicate i.toNat vs).flatten).toArray := by
    rw [hne, foldl_arr]; simp
  rw [e3]
  refine ⟨fz, G, .ref _, _, .refl _, .refl _, .ref _, S.newL ha (m := .list _) s.toks (fun b o e => Heap.get?_push_of_some _ e) ⟨_, 0, Heap.get?_push_size _ rfl, hd.repl _⟩, h _ (S.fresh ha).1⟩

/-! texts -/
theorem CallW.index {x y : Str} {i : Nat} {rest : List Nat} (ho : Builtin.Str.occurrences x y 0 x.length 1 = i :: rest) (h : Q (.int i) led) : CallW C Y led k (.blt "str.index") [.str x, .str y] Q := by
  intro A fz G s fv vs hA S e1 e2
  induction e1 using Den.bltE
  cases e2 with | cons x y => cases y with | cons x' y' => cases y' with | nil =>
  induction x using Den.strE; cases x'
  exact SC.index ho (Pst.leaf (S.tok _) (.int ..) h)
theorem CallW.count {x y : Str} (h : Q (.int (Txt.count x y)) led) : CallW C Y led k (.blt "str.count") [.str x, .str y] Q := by
  intro A fz G s fv vs hA S e1 e2
  induction e1 using Den.bltE
  cases e2 with | cons x y => cases y with | cons x' y' => cases y' with | nil =>
  induction x using Den.strE; cases x'
  exact SC.count (Pst.leaf (S.tok _) (.int ..) h)
theorem strs_of {fz : Fz} : ∀ {vs : List Value} {xs : List Str}, Dens fz vs (xs.map .str) → ∃ l : List (Str × Tok), vs = strValues l ∧ l.map (·.1) = xs
  | _, [], h => by induction h using Dens.E0; exact ⟨[], rfl, rfl⟩
  | _, x :: xs, h => by
    cases h with
    | cons a b =>
      induction a using Den.strE
      obtain ⟨l, e1, e2⟩ := strs_of b
      exact ⟨(x, _) :: l, by rw [e1]; rfl, by rw [List.map_cons, e2]⟩
theorem CallW.join {x : Str} {xs : List Str} (hok : JoinOk x xs = true) (h : Q (.str (Txt.join x xs)) led) : CallW C Y led k (.blt "str.join") [.str x, .lst (xs.map .str)] Q := by
  intro A fz G s fv vs hA S e1 e2
  induction e1 using Den.bltE
  cases e2 with | cons x y => cases y with | cons x' y' => cases y' with | nil =>
  induction x using Den.strE
  obtain ⟨a, vs, n, rfl, hg, hd⟩ := S.frozenList x'
  obtain ⟨l, rfl, e3⟩ := strs_of hd
  exact SC.join (D := a) ⟨_, hg, rfl, n, rfl⟩ e3 hok fun t' k => Pst.leaf (S.tok _) (.str ..) h
theorem Op2.muls {x : Str} {i : Int} (hl : MulOk x i) (h : Q (.str (Txt.mul x i)) led) : Op2 C Y led k (binaryOp .Mult) (.str x) (.int i) Q := fun A fz G s v u hA S e1 e2 => by
  induction e1 using Den.strE; induction e2 using Den.intE; exact SB.mul hl fun t' k => Pst.leaf (S.tok _) (.str ..) h
theorem Op2.iadds {x y : Str} (h : Q (.str (x ++ y)) led) (hs : x.length + y.length ≤ 10000000) : Op2 C Y led k (inplaceOp .Add) (.str x) (.str y) Q := fun A fz G s v u hA S e1 e2 => by
  induction e1 using Den.strE; induction e2 using Den.strE; exact PyProof.Rows.iadd_str (fun t' tk => Pst.leaf (S.tok _) (.str ..) h) (Nat.le_trans hs (by decide))
theorem signs_of {fz : Fz} {x : Str} {acc : Array Value} (h : ItemsOf (SignAt x) acc x.cps.size) : Dens fz acc.toList (strItems x) := by
  have key : ∀ n : Nat, n ≤ x.cps.size → Dens fz (acc.toList.take n) ((strItems x).take n) := by
    intro n
    induction n with
    | zero => intro _; simpa using Dens.nil
    | succ n ih =>
      intro hn
      have hv : acc[n]? = some acc[n]! := by rw [getElem!_pos acc n (by rw [h.1]; lia)]; exact Array.getElem?_eq_getElem _
      obtain ⟨c, u, hc, hvv⟩ := h.2 n _ hv
      have hs : (strItems x)[n]? = some (.str ⟨#[c]⟩) := by
        unfold strItems
        rw [List.getElem?_map]
        have : x.cps.toList[n]? = some c := by simpa using hc
        rw [this]; rfl
      rw [List.take_add_one, List.take_add_one, hs]
      have hl : acc.toList[n]? = some (Value.str ⟨#[c]⟩ u) := by rw [Array.getElem?_toList, hv, hvv]
      rw [hl]
      exact (ih (by lia)).snoc (.str ..)
  have k2 := key x.cps.size (Nat.le_refl _)
  rwa [List.take_of_length_le (by simp [h.1]), List.take_of_length_le (by simp [strItems])] at k2
theorem CallW.list_str {x : Str} (hl : x.cps.size ≤ 1000000) (h : Q (.lst (strItems x)) led) : CallW C Y led k (.typ "list") [.str x] Q := by
  intro A fz G s fv vs hA S e1 e2
  induction e1 using Den.typE
  induction e2 using Dens.E1 with | k _ x =>
  induction x using Den.strE
  have ha := get_size s.heap (Nat.le_refl _)
  have hz := S.rel.freshF ha
  refine call_list_str hA.r.1 x _ (fun h' tk acc' c' hk hg hi => ?_) (Nat.le_trans hl (by decide))
  exact ⟨_, G, .lst (strItems x), led, fzPut_le hz, .refl _, .lst (vs := acc'.toList) (n := c') (by rw [Array.toArray_toList]; exact fzPut_same ..) (signs_of hi), ⟨S.dj, S.rel.allocF ha tk hk hg⟩, h⟩
theorem CallW.list_strM {x : Str} (hl : x.cps.size ≤ 1000000) (h : ∀ a, led a = none → Q (.ref a) (upd led a (.list (strItems x)))) : CallW C Y led k (.typ "list") [.str x] Q := by
  intro A fz G s fv vs hA S e1 e2
  induction e1 using Den.typE
  induction e2 using Dens.E1 with | k _ x =>
  induction x using Den.strE
  have ha := get_size s.heap (Nat.le_refl _)
  refine call_list_str hA.r.1 x _ (fun h' tk acc' c' hk hg hi => ?_) (Nat.le_trans hl (by decide))
  exact ⟨fz, G, .ref _, _, .refl _, .refl _, .ref _, S.newL ha (m := .list (strItems x)) tk hk ⟨acc'.toList, c', by rw [Array.toArray_toList]; exact hg, signs_of hi⟩, h _ (S.fresh ha).1⟩
end
end Sc

set_option maxRecDepth 100000
namespace Sc
set_option tactic.hygienic false
open Builtin Builtin.ObjectAttr
theorem store_function : StoreFacts "function" [.type "function", .type "object"] "object.__setattr__" "object" where
  mro := by kernel_rfl
  slot := .of (owner := "object") (n := "__setattr__") (by rw [typeLookup_type, builtinLookup_eq_fast]; kernel_rfl) (by decide +kernel) (by decide +kernel) (by decide +kernel)
    (by first | exact .inl (by decide +kernel) | exact .inr (by decide +kernel)) (by rw [isSubtype_type]; kernel_rfl)
  entry := PySem.F.entry_object_sa
  kind := by decide +kernel
  split := by decide +kernel
  hasOwner := by decide +kernel
  args := fun a b c => by unfold argsOk; kernel_rfl
  passes := fun self => by kernel_rfl

section
variable {prog : Program} {w : World} {A : Around} {E : Value → Shared → Prop} {h : Heap} {g : Array GenState} {d : Drawn} {t : Nat} {os : OsState} {x : Addr} {o : Obj} {name : Str} {v : Value}

theorem store_dict {s : Shared} {dx : Addr} {mA : Str → Option Value} {tk : Tok} {Q : Fin → Shared → Prop} {ns : List Str} (hns : s.heap.Ns1 dx mA) (hw : Within mA ns) (hsz : ns.length ≤ 1000)
    (hq : ∀ h' tk', h'.Ns1 dx (fun y => if y = name then some v else mA y) → Heap.SameBut dx s.heap h' → Q (.done (.ret .none)) { s with heap := h', toks := tk' }) :
    wpAny (model prog w) A (storeInDict dx (.str name tk) name v) Q E s := by
  unfold storeInDict newKeyGuard
  refine wpAny_bind (wpAny_pure (wpAny_bind (wpAny_nsSet1 hns fun h' hn' hs => ?_)))
  obtain ⟨oD, esD, epD, hoD, hdD, hcD⟩ := hn'.count (Within.cons name v hw)
  refine wpAny_bind (wpAny_lookBehind hoD (by rw [hdD]; exact pastItsLine_dict (Nat.le_trans hcD (by rw [List.length_cons, sizeLine_eq]; omega))) ?_)
  wp_walk
  exact hq h' _ hn' hs
noncomputable abbrev fnObj (dict : Option Addr) (fd : FuncData) : Obj := { cls := .type "function", dict := dict, data := .func fd }
set_option maxHeartbeats 4000000 in
theorem fn_store_entry {tk : Tok} {fd : FuncData} {Q : Fin → Shared → Prop} (hx : h.get? x = some (fnObj none fd)) (hB : typeLookup (.type "function") name = pure none)
    (hq : ∀ h' tk', h'.Ns1 h.objs.size (fun y => if y = name then some v else none) → h'.get? x = some (fnObj (some h.objs.size) fd) →
      (∀ b ob, b ≠ x → h.get? b = some ob → h'.get? b = some ob) → Q (.done (.ret .none)) ⟨h', g, d, tk', os⟩) :
    wpAny (model prog w) A (Builtin.«object.__setattr__» ⟨[.ref x, .str name tk, v], []⟩) Q E ⟨h, g, d, t, os⟩ := by
  have hpass := store_function.passes (.ref x)
  have hmro := store_function.mro
  have hT : (⟨h, g, d, t, os⟩ : Shared).TypeIs (.ref x) "function" := ⟨_, hx, rfl⟩
  have hx₁ : (h.push { cls := .type "dict", data := .dict #[] }).get? x = some (fnObj none fd) := Heap.get?_push_of_some _ hx
  have hxs : x ≠ h.objs.size := Nat.ne_of_lt (Heap.lt_size hx)
  have hgd : ((h.push { cls := .type "dict", data := .dict #[] }).update x fun o => { cls := o.cls, dict := some h.objs.size, data := o.data, slots := o.slots }).get? h.objs.size
      = some { cls := .type "dict", data := .dict #[] } := (Heap.get?_update_ne _ _ _ _ hxs.symm).trans (Heap.get?_push_at rfl rfl)
  have hnd : ((h.push { cls := .type "dict", data := .dict #[] }).update x fun o => { cls := o.cls, dict := some h.objs.size, data := o.data, slots := o.slots }).Ns h.objs.size (fun _ => none) :=
    ⟨_, #[], _, hgd, rfl, fun e he => absurd he (by simp), fun _ => rfl⟩
  unfold Builtin.«object.__setattr__»
  repeat (first | rw [refuse_eq] | rw [hpass] | (with_reducible refine wpAny_loadPart_at hx ?_) | (with_reducible refine store_dict (ns := []) (Heap.Ns1.of_empty hnd) Within.nil (Nat.zero_le _) fun h' tk' hn' hs' => ?_) | wp_step)
  refine hq h' _ hn' ((hs'.2 x hxs).trans (Heap.get?_update_self _ hx₁ rfl)) fun b ob hb e => ?_
  exact (hs'.2 b (Nat.ne_of_lt (Heap.lt_size e))).trans ((Heap.get?_update_ne _ _ _ _ hb).trans (Heap.get?_push_of_some _ e))
theorem fn_store {fd : FuncData} {Q : Unit → Shared → Prop} (hx : h.get? x = some (fnObj none fd)) (hB : typeLookup (.type "function") name = pure none)
    (hq : ∀ h' tk', h'.Ns1 h.objs.size (fun y => if y = name then some v else none) → h'.get? x = some (fnObj (some h.objs.size) fd) →
      (∀ b ob, b ≠ x → h.get? b = some ob → h'.get? b = some ob) → Q () ⟨h', g, d, tk', os⟩) :
    wpAny (model prog w) A (setAttr (.ref x) name v) Q E ⟨h, g, d, t, os⟩ := by
  have f3 := store_function.slot.bind (.ref x)
  have f4 := store_function.slot.lookup
  have hT : (⟨h, g, d, t, os⟩ : Shared).TypeIs (.ref x) "function" := ⟨_, hx, rfl⟩
  have hT' : ∀ t', (⟨h, g, d, t', os⟩ : Shared).TypeIs (.ref x) "function" := fun _ => ⟨_, hx, rfl⟩
  unfold setAttr callSpecial? specialOf
  repeat (any_goals (first | assumption | wp_step))
  refine codeAny_call_builtin store_function.slot.plain store_function.entry (store_function.slot.check _ _ _ _ _ _ _ _ (hT' _) (store_function.args _ _ _) (fn_store_entry hx hB fun h' tk' a b c => ?_))
  repeat (any_goals (first | assumption | wp_step))
  exact hq h' _ a b c
/-- a name that stands in a def's own names -/
theorem fn_load_entry {tk : Tok} {fd : FuncData} {dx : Addr} {mA : Str → Option Value} {Q : Fin → Shared → Prop} (hx : h.get? x = some (fnObj (some dx) fd)) (hB : typeLookup (.type "function") name = pure none) (hn : h.Ns1 dx mA) (hv : mA name = some v)
    (hq : Q (.done (.ret v)) ⟨h, g, d, t, os⟩) : wpAny (model prog w) A (Builtin.«object.__getattribute__» ⟨[.ref x, .str name tk], []⟩) Q E ⟨h, g, d, t, os⟩ := by
  have hT : (⟨h, g, d, t, os⟩ : Shared).TypeIs (.ref x) "function" := ⟨_, hx, rfl⟩
  unfold Builtin.«object.__getattribute__»
  repeat (first | (with_reducible refine wpAny_loadPart_at hx ?_) | (with_reducible refine wpAny_nsGet hn.ns ?_; rw [hv]) | wp_step)
  exact hq
theorem slot_fn_ga : Slot "function" "__getattribute__" "object.__getattribute__" := .of (owner := "object") (n := "__getattribute__") (by rw [typeLookup_type, builtinLookup_eq_fast]; kernel_rfl) (by decide +kernel) (by decide +kernel) (by decide +kernel)
    (by first | exact .inl (by decide +kernel) | exact .inr (by decide +kernel)) (by rw [isSubtype_type]; kernel_rfl)
theorem entry_fn_ga : entryFor table "object.__getattribute__" = some Builtin.«object.__getattribute__» := entryFor_of_tree (by kernel_rfl)
theorem args_fn_ga (a b : Value) : argsOk "object.__getattribute__" ⟨[a, b], []⟩ := by unfold argsOk; kernel_rfl
theorem plainAttrs_fn : typeLookup (.type "function") "__getattr__" = pure none := by rw [typeLookup_type, builtinLookup_eq_fast]; kernel_rfl
theorem canon_ga : (Manifest.canonical "object.__getattribute__" != "object.__getattribute__") = false := by decide +kernel
theorem fn_get_by {fd : FuncData} {tk : Tok} {dx : Addr} {mA : Str → Option Value} {Q : Value → Shared → Prop} (hx : h.get? x = some (fnObj (some dx) fd)) (hB : typeLookup (.type "function") name = pure none) (hn : h.Ns1 dx mA) (hv : mA name = some v)
    (hh : handedOut v = pure v) (hq : Q v ⟨h, g, d, t, os⟩) {fill ex : Bool} : wpAny (model prog w) A (getAttrBy (.ref x) (.str name tk) fill ex) Q E ⟨h, g, d, t, os⟩ := by
  have hT : (⟨h, g, d, t, os⟩ : Shared).TypeIs (.ref x) "function" := ⟨_, hx, rfl⟩
  have f2 := slot_fn_ga.lookup
  have f3 := slot_fn_ga.bind (.ref x)
  repeat (any_goals (first | assumption | wp_step))
  have e : (ex && onTheHeap (Value.builtin "object.__getattribute__")) = false := by cases ex <;> rfl
  rw [e, if_neg Bool.false_ne_true]
  unfold boundAndCalled
  repeat (any_goals (first | assumption | wp_step))
  refine codeAny_call_builtin slot_fn_ga.plain entry_fn_ga (slot_fn_ga.check _ _ _ _ _ _ _ _ hT (args_fn_ga _ _) (fn_load_entry hx hB hn hv ?_))
  repeat (any_goals (first | assumption | wp_step))
theorem fn_method {fd : FuncData} {dx : Addr} {mA : Str → Option Value} {pl : Sem Bool} {Q : Value × List Value → Shared → Prop} (hx : h.get? x = some (fnObj (some dx) fd)) (hB : typeLookup (.type "function") name = pure none) (hn : h.Ns1 dx mA) (hv : mA name = some v)
    (hh : handedOut v = pure v) (hq : Q (v, []) ⟨h, g, d, t + 1, os⟩) : wpAny (model prog w) A (getMethod (.ref x) name pl) Q E ⟨h, g, d, t, os⟩ := by
  have hT : (⟨h, g, d, t, os⟩ : Shared).TypeIs (.ref x) "function" := ⟨_, hx, rfl⟩
  have f2 := slot_fn_ga.lookup
  have f4 := plainAttrs_fn
  have f5 := canon_ga
  unfold getMethod
  refine wpAny_bind (wpAny_specialOf hT f2 ?_)
  refine (?_ : wpAny _ _ (if (Manifest.canonical "object.__getattribute__" != "object.__getattribute__") = true then _ else _) _ _ _)
  rw [f5, if_neg Bool.false_ne_true]
  refine wpAny_bind (wpAny_specialOf hT f4 ?_)
  refine wpAny_bind (wpAny_specialOf hT hB ?_)
  refine (?_ : wpAny _ _ (getAttr (.ref x) name >>= fun r => pure (r, [])) _ _ _)
  unfold getAttr
  refine wpAny_bind (wpAny_bind (wpAny_mkText ?_))
  exact fn_get_by hx hB hn hv hh (wpAny_pure hq)
end
end Sc

set_option maxRecDepth 100000
namespace Sc
set_option tactic.hygienic false
open Builtin Builtin.ObjectAttr

/-- a class of the top -/
structure GCls (C : Cx) (cl : Addr) (mN : Str → Option Value) : Prop where
  ex : ∃ N, ClsAt C.h₀ cl N mN ∧ ¬ C.tab cl ∧ ¬ C.tab N
  ga : mN "__getattribute__" = none
  gh : mN "__getattr__" = none
  sa : mN "__setattr__" = none
theorem GCls.at_ {C : Cx} {cl : Addr} {mN : Str → Option Value} (X : GCls C cl mN) {fz : Fz} {led Y : Led} {G : Array GenState} {s : Shared} (S : St C fz led Y G s) : ∃ N, ClsAt s.heap cl N mN := by
  obtain ⟨N, ⟨⟨nm, q, bs, sn, sub, col, dd, k0, k1, k2, k3, k5, e⟩, hn⟩, n1, n2⟩ := X.ex
  exact ⟨N, ⟨nm, q, bs, sn, sub, col, dd, k0, k1, k2, k3, k5, S.base _ _ e n1⟩, hn.at' fun o e => S.base _ o e n2⟩

noncomputable def aput (m : List (Str × D)) (x : Str) (d : D) : List (Str × D) :=
  match m with
  | [] => [(x, d)]
  | (y, e) :: r => if x = y then (x, d) :: r else (y, e) :: aput r x d
theorem aput_lookup (m : List (Str × D)) (x : Str) (d : D) (y : Str) : (aput m x d).lookup y = if y = x then some d else m.lookup y := by
  induction m with
  | nil =>
    unfold aput
    rw [List.lookup_cons]
    by_cases h : y = x
    · subst h; simp
    · rw [beq_eq_false_iff_ne.mpr h, if_neg h]
  | cons p r ih =>
    obtain ⟨z, e⟩ := p
    unfold aput
    by_cases hz : x = z
    · subst hz
      rw [if_pos rfl, List.lookup_cons, List.lookup_cons]
      by_cases h : y = x
      · subst h; simp
      · rw [beq_eq_false_iff_ne.mpr h, if_neg h]
    · rw [if_neg hz, List.lookup_cons, List.lookup_cons, ih]
      by_cases h : y = z
      · subst h; have hz' : ¬ y = x := fun q => hz q.symm; simp [hz']
      · rw [beq_eq_false_iff_ne.mpr h]
theorem within_of {fz : Fz} {mv : Str → Option Value} {m : List (Str × D)} (h : ∀ x, ODen fz (mv x) (m.lookup x)) : Within mv (m.map (·.1)) := by
  intro y hy
  cases hm : m.lookup y with
  | none =>
    have q := h y
    rw [hm] at q
    cases hv : mv y with
    | none => exact absurd hv hy
    | some v => rw [hv] at q; exact q.elim
  | some d => exact List.mem_map.mpr ⟨_, mem_of_lookup hm, rfl⟩
theorem handed_of {fz : Fz} {v : Value} {d : D} (e : Den fz v d) (h : ∀ id, d ≠ .blt id) : handedOut v = pure v := by
  cases e with
  | blt id => exact absurd rfl (h id)
  | _ => rfl

/-- a name is stored -/
noncomputable def SetA (C : Cx) (Y led : Led) (od : D) (name : Str) (d : D) (K : Led → Prop) : Prop :=
  ∀ A fz G s v u, Room 0 A → St C fz led Y G s → Den fz v od → Den fz u d → wpAny (model C.prog C.w) A (setAttr v name u) (fun _ s' => ∃ fz' G' led', FzLe fz fz' ∧ GExt G G' ∧ St C fz' led' Y G' s' ∧ K led') No s
/-- a name is read -/
noncomputable def GetA (C : Cx) (Y led : Led) (od : D) (name : Str) (Q : D → Led → Prop) : Prop :=
  ∀ A fz G s v ex, Room 0 A → St C fz led Y G s → Den fz v od → wpAny (model C.prog C.w) A (getAttr v name ex) (Pst C fz Y G Q) No s

section
variable {C : Cx} {Y led : Led} {cl x dx : Addr} {mN : Str → Option Value} {m : List (Str × D)} {name : Str} {d : D} {Q : D → Led → Prop} {K : Led → Prop}

theorem St.setA {fz : Fz} {G : Array GenState} {s : Shared} {u : Value} {mv : Str → Option Value} {h' : Heap} (S : St C fz led Y G s) (hx : led x = some (.obj cl dx)) (hd : led dx = some (.ns1 m)) (e2 : Den fz u d) (hm : ∀ y, ODen fz (mv y) (m.lookup y)) (tk' : Nat)
    (I' : h'.Inst x cl (fun y => if y = name then some u else mv y)) (hk : ∀ b o, b ≠ x → (∀ o₀ dx, s.heap.get? x = some o₀ → o₀.dict = some dx → b ≠ dx) → s.heap.get? b = some o → h'.get? b = some o)
    (hsame : ∀ o₀, s.heap.get? x = some o₀ → ∃ o₁, h'.get? x = some o₁ ∧ o₁.cls = o₀.cls ∧ o₁.data = o₀.data ∧ o₁.slots = o₀.slots ∧ ∀ dx, o₀.dict = some dx → o₁.dict = some dx) : St C fz (upd led dx (.ns1 (aput m name d))) Y G { s with heap := h', toks := tk' } := by
  obtain ⟨o, ho, hoc, hod, hoi, hne⟩ := S.atL hx
  obtain ⟨o₁, ho₁, hc₁, hd₁, _, hi₁⟩ := hsame o ho
  obtain ⟨o₂, ho₂, hc₂, _, hdd⟩ := I'
  rw [ho₁] at ho₂; cases ho₂
  have hdx := hi₁ dx hoi
  refine ⟨S.dj.upd _ (S.dj.of_some hd), ?_⟩
  rw [Un_upd]
  refine S.rel.many tk' (fun b => b = x ∨ b = dx) (fun b hb => ?_) (fun b ob hb e => hk b ob (fun z => hb (.inl z)) (fun o₀ dy e0 ed z => hb (.inr (by rw [ho] at e0; cases e0; rw [hoi] at ed; cases ed; exact z))) e) (fun b hb => upd_ne _ _ (fun z => hb (.inr z))) (fun b mm hb e => ?_)
  · rcases hb with rfl | rfl
    · exact ⟨_, Un_left hx⟩
    · exact ⟨_, Un_left hd⟩
  · rcases hb with rfl | rfl
    · rw [upd_ne _ _ hne.symm, Un_left hx] at e
      cases e
      exact ⟨o₁, ho₁, hc₂, fun c => by rw [hd₁]; exact hod c, hdx, hne⟩
    · rw [upd_same] at e
      cases e
      rcases hdd with ⟨hn, _⟩ | ⟨d', hd', hne', hns'⟩
      · rw [hdx] at hn; cases hn
      · rw [hdx] at hd'; cases hd'
        refine ⟨_, hns', fun y => ?_⟩
        rw [aput_lookup]
        by_cases hy : y = name
        · rw [if_pos hy, if_pos hy]; exact e2
        · rw [if_neg hy, if_neg hy]; exact hm y
theorem GCls.ne (X : GCls C cl mN) {fz : Fz} {G : Array GenState} {s : Shared} (S : St C fz led Y G s) (hx : led x = some (.obj cl dx)) : x ≠ cl := fun q => by
  obtain ⟨N, ⟨⟨_, _, _, _, _, _, _, _, _, _, _, _, e⟩, _⟩, _, _⟩ := X.ex
  have := S.rel.new x _ (Un_left hx)
  subst q; rw [this] at e; cases e
theorem SetA.inst (X : GCls C cl mN) (hx : led x = some (.obj cl dx)) (hd : led dx = some (.ns1 m)) (hna : mN name = none) (hB : typeLookup (.type "object") name = pure none) (hl : m.length ≤ 1000) (h : K (upd led dx (.ns1 (aput m name d)))) :
    SetA C Y led (.ref x) name d K := by
  intro A fz G s v u hA S e1 e2
  induction e1 using Den.refE
  obtain ⟨mv, hns, hm⟩ := S.atL hd
  have I : s.heap.Inst x cl mv := by
    obtain ⟨o, ho, hoc, hod, hoi, hne⟩ := S.atL hx
    exact ⟨o, ho, hoc, hod, .inr ⟨dx, hoi, hne, hns⟩⟩
  obtain ⟨N, ⟨nm, q, bs, sn, sub, col, dd, k0, k1, k2, k3, k5, hC⟩, hN⟩ := X.at_ S
  exact store_attr (ns := m.map (·.1)) PySem.F.store_object hC hN X.sa hna hB (X.ne S hx) I (fun h' tk' I' hk hsame => ⟨fz, G, _, .refl _, .refl _, S.setA hx hd e2 hm tk' I' hk hsame, h⟩) (within_of hm) (by rw [List.length_map]; exact Nat.le_trans hl (by decide))

theorem GetA.inst (X : GCls C cl mN) (hx : led x = some (.obj cl dx)) (hd : led dx = some (.ns1 m)) (hna : mN name = none) (hB : typeLookup (.type "object") name = pure none) (hm : m.lookup name = some d) (hb : ∀ id, d ≠ .blt id) (h : Q d led) :
    GetA C Y led (.ref x) name Q := by
  intro A fz G s v ex hA S e1
  induction e1 using Den.refE
  obtain ⟨N, ⟨nm, q, bs, sn, sub, col, dd, k0, k1, k2, k3, k5, hC⟩, hN⟩ := X.at_ S
  obtain ⟨o, ho, hoc, hod, hoi, hne⟩ := S.atL hx
  obtain ⟨mv, hns, hmv⟩ := S.atL hd
  have hq := hmv name
  rw [hm] at hq
  cases hv : mv name with
  | none => rw [hv] at hq; exact hq.elim
  | some v =>
    rw [hv] at hq
    exact load_attr hC hN X.ga hna hB ⟨o, ho, hoc, hod, .inr ⟨dx, hoi, hne, hns⟩⟩ hv (handed_of hq hb) (Pst.leaf (S.tok _) hq h)

theorem GetM.inst {f : Addr} {of : Obj} {y : Option Value} (X : GCls C cl mN) (hx : led x = some (.obj cl dx)) (hd : led dx = some (.ns1 m)) (hf : mN name = some (.ref f)) (hfo : C.h₀.get? f = some of) (hft : ¬ C.tab f) (hfc : of.cls = .type "function")
    (hB : typeLookup (.type "object") name = pure y) (hm : m.lookup name = none) : GetM C Y led (.ref x) name (.ref f) [.ref x] := by
  intro A fz G s v pl Q hA S e1 h
  induction e1 using Den.refE
  obtain ⟨N, ⟨nm, q, bs, sn, sub, col, dd, k0, k1, k2, k3, k5, hC⟩, hN⟩ := X.at_ S
  obtain ⟨o, ho, hoc, hod, hoi, hne⟩ := S.atL hx
  obtain ⟨mv, hns, hmv⟩ := S.atL hd
  have hq := hmv name
  rw [hm] at hq
  cases hv : mv name with
  | some v => rw [hv] at hq; exact hq.elim
  | none =>
    have S' := S
    obtain ⟨hh, g, dr, t, os⟩ := s
    exact method_of hC hN X.ga X.gh hf (S.base _ _ hfo hft) hfc hB ⟨o, ho, hoc, hod, .inr ⟨dx, hoi, hne, hns⟩⟩ hv (h fz _ _ _ (.refl _) S' (.ref f) (.cons (.ref x) .nil))

/-- a name of a def -/
theorem SetA.fn {fd : FuncData} (hx : led x = some (.fn none fd)) (hB : typeLookup (.type "function") name = pure none) (h : ∀ a, led a = none → K (upd (upd led x (.fn (some a) fd)) a (.ns1 [(name, d)]))) : SetA C Y led (.ref x) name d K := by
  intro A fz G s v u hA S e1 e2
  induction e1 using Den.refE
  obtain ⟨ho, hcd⟩ := S.atL hx
  have ha := get_size s.heap (Nat.le_refl _)
  have S' := S
  obtain ⟨hh, g, dr, t, os⟩ := s
  refine fn_store ho hB fun h' tk' hn hxx hk => ?_
  have hxs : x ≠ hh.objs.size := Nat.ne_of_lt (Heap.lt_size ho)
  have S1 : St C fz (upd led x (.fn (some hh.objs.size) fd)) Y G ⟨h', g, dr, tk', os⟩ := S'.wr hx (m := .fn (some hh.objs.size) fd) (h' := h') tk' (fun b o hb e => hk b o hb e) ⟨hxx, hcd⟩
  refine ⟨fz, G, _, .refl _, .refl _, ?_, h hh.objs.size (S'.fresh ha).1⟩
  refine ⟨S1.dj.upd _ (S'.fresh ha).2, ?_⟩
  rw [Un_upd]
  have fresh : Un (upd led x (.fn (some hh.objs.size) fd)) Y hh.objs.size = none := by
    rw [Un_upd, upd_ne _ _ hxs.symm]; exact S'.rel.freshT ha
  exact {
    fzIn := S1.rel.fzIn
    ledIn := fun b mm e => by
      by_cases hb : b = hh.objs.size
      · subst hb; rw [upd_same] at e; cases e
        refine ⟨_, hn, fun y => ?_⟩
        by_cases hy : y = name
        · subst hy; simp only [if_pos]; rw [List.lookup_cons_self]; exact e2
        · simp only [if_neg hy]; rw [List.lookup_cons, beq_eq_false_iff_ne.mpr hy]; exact trivial
      · rw [upd_ne _ _ hb] at e; exact S1.rel.ledIn b mm e
    apart := fun b o e => by
      by_cases hb : b = hh.objs.size
      · subst hb; rw [S'.rel.freshF ha] at e; cases e
      · rw [upd_ne _ _ hb]; exact S1.rel.apart b o e
    fzt := S1.rel.fzt
    new := fun b mm e => by
      by_cases hb : b = hh.objs.size
      · subst hb; exact S'.rel.freshB ha
      · rw [upd_ne _ _ hb] at e; exact S1.rel.new b mm e
    base := S1.rel.base
    tabs := S1.rel.tabs
    old := S1.rel.old
    os := S1.rel.os
    gens := S1.rel.gens }
theorem GetM.fnattr {fd : FuncData} {r : D} (hx : led x = some (.fn (some dx) fd)) (hd : led dx = some (.ns1 m)) (hB : typeLookup (.type "function") name = pure none) (hm : m.lookup name = some r) (hb : ∀ id, r ≠ .blt id) :
    GetM C Y led (.ref x) name r [] := by
  intro A fz G s v pl Q hA S e1 h
  induction e1 using Den.refE
  obtain ⟨ho, hcd⟩ := S.atL hx
  obtain ⟨mv, hns, hmv⟩ := S.atL hd
  have hq := hmv name
  rw [hm] at hq
  cases hv : mv name with
  | none => rw [hv] at hq; exact hq.elim
  | some v =>
    rw [hv] at hq
    have S' := S
    obtain ⟨hh, g, dr, t, os⟩ := s
    exact fn_method ho hB hns hv (handed_of hq hb) (h fz _ _ _ (.refl _) (S'.tok _) hq .nil)
end

section
variable {C : Cx} {led : Led} {fe : Fe} {vs : Vars} {k : Nat}
noncomputable abbrev KAttr (C : Cx) (k : Nat) (attr : Str) (Q : D → Led → Prop) : D → Led → Prop := fun d led1 => ∀ Y, GetA C Y led1 d attr Q
noncomputable abbrev KSA2 (C : Cx) (vs : Vars) (k : Nat) (attr : Str) (Q : Fl → Vars → Led → Prop) (d : D) : D → Led → Prop := fun od led2 => ∀ Y, SetA C Y led2 od attr d (Q .next vs)
noncomputable abbrev KSA1 (C : Cx) (fe : Fe) (vs : Vars) (k : Nat) (o : Expr) (attr : Str) (Q : Fl → Vars → Led → Prop) : D → Led → Prop := fun d led1 => WE C led1 fe vs k (eval o fe.env) (KSA2 C vs k attr Q d)
noncomputable abbrev KGA3 (C : Cx) (vs : Vars) (k : Nat) (attr : Str) (Q : Fl → Vars → Led → Prop) (od : D) : D → Led → Prop := fun d3 led4 => ∀ Y, SetA C Y led4 od attr d3 (Q .next vs)
noncomputable abbrev KGA2 (C : Cx) (fe : Fe) (vs : Vars) (k : Nat) (e : Expr) (f : Value → Value → Sem Value) (attr : Str) (Q : Fl → Vars → Led → Prop) (od : D) : D → Led → Prop := fun d led2 => WE C led2 fe vs k (eval e fe.env) (KOp2 C k f (KGA3 C vs k attr Q od) d)
noncomputable abbrev KGA1 (C : Cx) (fe : Fe) (vs : Vars) (k : Nat) (e : Expr) (f : Value → Value → Sem Value) (attr : Str) (Q : Fl → Vars → Led → Prop) : D → Led → Prop := fun od led1 => ∀ Y, GetA C Y led1 od attr (KGA2 C fe vs k e f attr Q od)
theorem WE.attr {value : Expr} {attr : Str} {pos : Pos} {Q : D → Led → Prop} (h : WE C led fe vs k (eval value fe.env) (KAttr C k attr Q))
    (he : autoParam (eval (.Attribute value attr pos) fe.env = (do
      let o ← eval value fe.env
      standAt pos.atName
      let r ← holding [o] (getAttr o attr true)
      letTemporaryGo value o r
      pure r)) rflA) : WE C led fe vs k (eval (.Attribute value attr pos) fe.env) Q := by
  intro F X hF hd A fz G s hA S
  refine Attribute_any_ (chain (h F X hF hd A fz G s hA S) fun v1 s1 fz1 G1 d1 led1 l1 g1 e1 S1 h1 => ?_) he
  exact fin (h1 _ A fz1 G1 s1 v1 true (hA.r.mono (Nat.zero_le _)) S1 e1) l1 g1
theorem WS.assign_attr {o e : Expr} {attr : Str} {px pos : Pos} {Q : Fl → Vars → Led → Prop} (h : WE C led fe vs k (eval e fe.env) (KSA1 C fe vs k o attr Q))
    (hs : autoParam (swapsWith e (some (.Attribute o attr px)) pos.line fe.env = pure false) rflA) : WS C led fe vs k (exec (.Assign [.Attribute o attr px] e pos) fe.env) Q := by
  intro F X hF hd A fz G s hA S
  refine plainObj_wpAny_Assign_Attribute (chain (h F X hF hd A fz G s hA S) fun v1 s1 fz1 G1 d1 led1 l1 g1 e1 S1 h1 => ?_) hs
  refine chain (h1 F X hF hd A fz1 G1 s1 hA S1) fun v2 s2 fz2 G2 d2 led2 l2 g2 e2 S2 h2 => ?_
  refine wpAny_mono (h2 _ A fz2 G2 s2 v2 v1 (hA.r.mono (Nat.zero_le _)) S2 e2 (e1.mono l2)) (fun _ s3 p => ?_) fun _ _ x => x.elim
  obtain ⟨fz3, G3, led3, l3, g3, S3, q⟩ := p
  exact ⟨fz3, G3, F, vs, led3, .next, (l1.trans l2).trans l3, (g1.trans g2).trans g3, trivial, hF, hd, S3, q⟩
theorem WS.aug_attr {o e : Expr} {op : Operator} {attr : Str} {px pos : Pos} {Q : Fl → Vars → Led → Prop}
    (h : WE C led fe vs k (eval o fe.env) (KGA1 C fe vs k e (inplaceOp op) attr Q)) :
    WS C led fe vs k (exec (.AugAssign (.Attribute o attr px) op e pos) fe.env) Q := by
  intro F X hF hd A fz G s hA S
  have hA0 := hA.r.mono (Nat.zero_le k)
  refine wpAny_AugAssign_AttributeAny (chain (h F X hF hd A fz G s hA S) fun v1 s1 fz1 G1 d1 led1 l1 g1 e1 S1 h1 => ?_)
  refine chain (h1 _ A fz1 G1 s1 v1 true hA0 S1 e1) fun v2 s2 fz2 G2 d2 led2 l2 g2 e2 S2 h2 => ?_
  refine chain (h2 F X hF hd A fz2 G2 s2 hA S2) fun v3 s3 fz3 G3 d3 led3 l3 g3 e3 S3 h3 => ?_
  refine chain (h3 _ A fz3 G3 s3 v2 v3 hA.r S3 (e2.mono l3) e3) fun v4 s4 fz4 G4 d4 led4 l4 g4 e4 S4 h4 => ?_
  refine wpAny_mono (h4 _ A fz4 G4 s4 v1 v4 hA0 S4 (((e1.mono l2).mono l3).mono l4) e4) (fun _ s5 p => ?_) fun _ _ x => x.elim
  obtain ⟨fz5, G5, led5, l5, g5, S5, q⟩ := p
  exact ⟨fz5, G5, F, vs, led5, .next, (((l1.trans l2).trans l3).trans l4).trans l5, (((g1.trans g2).trans g3).trans g4).trans g5, trivial, hF, hd, S5, q⟩
end
end Sc

set_option maxRecDepth 100000
namespace Sc
open Builtin Builtin.ObjectAttr

theorem fn_set_none : typeLookup (.type "function") "__set__" = pure none := by rw [typeLookup_type, builtinLookup_eq_fast]; kernel_rfl
theorem fn_delete_none : typeLookup (.type "function") "__delete__" = pure none := by rw [typeLookup_type, builtinLookup_eq_fast]; kernel_rfl

section
variable {prog : Program} {w : World} {A : Around} {E : Value → Shared → Prop} {h : Heap} {g : Array GenState} {d : Drawn} {t : Nat} {os : OsState}
variable {nm q : Str} {C N x : Addr} {bs : List Value} {sn : List Str} {sub : List Value} {ab : Bool} {col : Option Bool} {dd : Option Addr} {k0 k1 k2 k3 k5 : Option Value} {newId : String}
  {mN mA : Str → Option Value} {name : Str} {v : Value}

theorem fnGet {f : Addr} {of : Obj} {tp : Value} {s : Shared} {R : Result → Shared → Prop} (hfo : s.heap.get? f = some of) (hfc : of.cls = .type "function")
    (h : R (.ok (.ret (.ref s.heap.objs.size))) { s with heap := s.heap.push (methObj f x) }) : codeAny (model prog w) A (.call (.builtin "function.__get__") ⟨[.ref f, .ref x, tp], []⟩) R s :=
  PySem.W.fn_get (K := [(f, of)]) (fun b o e => by
    rw [List.lookup_cons] at e
    by_cases z : b = f
    · subst z; simp at e; subst e; exact hfo
    · rw [beq_eq_false_iff_ne.mpr z] at e; cases e) (by show Option.map _ (List.lookup f [(f, of)]) = _; rw [List.lookup_cons_self]; simp [hfc]) h

theorem bound_entry {tk : Tok} {f : Addr} {of : Obj} {Q : PySem.Fin → Shared → Prop}
    (hC : h.get? C = some (excClassObj nm q C N bs [.type "object"] true sn sub ab col dd k0 k1 k2 k3 k5 newId)) (hn : h.Ns N mN) (hf : mN name = some (.ref f)) (hfo : h.get? f = some of) (hfc : of.cls = .type "function")
    (hgh : mN "__getattr__" = none) {y : Option Value} (hB : typeLookup (.type "object") name = pure y) (I : ∃ o dx, h.get? x = some o ∧ o.cls = .ref C ∧ (∀ c, o.data ≠ .cls c) ∧ o.dict = some dx ∧ h.Ns1 dx mA) (hv : mA name = none) (hcp : (["__module__", "__name__", "__qualname__", "__doc__", "__annotations__"] : List Str).contains name = false)
    (hq : Q (.done (.ret (.ref h.objs.size))) ⟨h.push (methObj f x), g, d, t, os⟩) :
    wpAny (model prog w) A (Builtin.«proto.getattr_hooked» ⟨[.ref x, .str name tk], []⟩) Q E ⟨h, g, d, t, os⟩ := by
  obtain ⟨o, dx, hx, hc, hnc, hdx, hns⟩ := I
  have hT : (⟨h, g, d, t, os⟩ : Shared).TypeIs (.ref f) "function" := ⟨_, hfo, hfc⟩
  have f1 := PySem.W.KF.slot_fn.lookup
  have f2 := fn_set_none
  have f3 := fn_delete_none
  unfold Builtin.«proto.getattr_hooked»
  repeat (first | (with_reducible refine wpAny_loadPart_at hx ?_; rw [hc]) | (with_reducible refine wpAny_typeLookup_exc hC hn F.mro_object hB ?_; rw [hf]) | (with_reducible refine wpAny_typeLookup_exc hC hn F.mro_object F.lk_object_getattr ?_; rw [hgh]) | wp_step)
  split
  · rename_i c hcd
    exact absurd hcd (hnc c)
  unfold instanceDict
  repeat (first | (with_reducible refine wpAny_loadPart_at hx ?_; rw [hc]) | with_reducible refine wpAny_loadPart_at hC ?_ | wp_step)
  rw [hdx]
  have hcg : copiedAttributeGuard name (Value.ref x) = pure () := by unfold copiedAttributeGuard; rw [hcp]; rfl
  repeat (first | (with_reducible refine wpAny_nsGet hns.ns ?_; rw [hv]) | rw [hcg] | (with_reducible refine wpAny_typeLookup_exc hC hn F.mro_object F.lk_object_getattr ?_; rw [hgh]) | wp_step)
  refine fnGet (s := ⟨h, g, d, t, os⟩) hfo hfc ?_
  repeat (first | exact hq | wp_step)
theorem bound_attr {expr : Bool} {f : Addr} {of : Obj} {Q : Value → Shared → Prop}
    (hC : h.get? C = some (excClassObj nm q C N bs [.type "object"] true sn sub ab col dd k0 k1 k2 k3 k5 newId)) (hn : h.Ns N mN) (hf : mN name = some (.ref f)) (hfo : h.get? f = some of) (hfc : of.cls = .type "function") (hng : mN "__getattribute__" = none)
    (hgh : mN "__getattr__" = none) {y : Option Value} (hB : typeLookup (.type "object") name = pure y) (I : ∃ o dx, h.get? x = some o ∧ o.cls = .ref C ∧ (∀ c, o.data ≠ .cls c) ∧ o.dict = some dx ∧ h.Ns1 dx mA) (hv : mA name = none) (hcp : (["__module__", "__name__", "__qualname__", "__doc__", "__annotations__"] : List Str).contains name = false)
    (hq : Q (.ref h.objs.size) ⟨h.push (methObj f x), g, d, t + 1, os⟩) :
    wpAny (model prog w) A (getAttr (.ref x) name expr) Q E ⟨h, g, d, t, os⟩ := by
  obtain ⟨o, dx, hx, hc, _⟩ := id I
  unfold getAttr getAttrBy
  repeat (first | (with_reducible refine wpAny_loadPart_at hx ?_; rw [hc]) | (with_reducible refine wpAny_typeLookup_exc hC hn F.mro_object F.lk_object_ga ?_; rw [hng]) | wp_step)
  refine (?_ : wpAny _ _ ((runValue (.builtin "proto.getattr_hooked" ⟨[.ref x, .str name t], []⟩)).onRaise (noteIf true (.ref x) (.str name t))) _ _ _)
  refine wpAny_onRaise (wpAny_runValue (codeAny_builtin F.plainObj_entry_getattr_hooked (bound_entry hC hn hf hfo hfc hgh hB I hv hcp ?_)))
  exact wpAny_pure hq
end
section
variable {C : Cx} {Y led : Led} {cl x dx : Addr} {mN : Str → Option Value} {m : List (Str × D)} {name : Str} {d : D} {Q : D → Led → Prop} {K : Led → Prop} {k : Nat}
theorem GetA.bound {f : Addr} {of : Obj} {y : Option Value} (X : GCls C cl mN) (hx : led x = some (.obj cl dx)) (hd : led dx = some (.ns1 m)) (hf : mN name = some (.ref f)) (hfo : C.h₀.get? f = some of) (hft : ¬ C.tab f) (hfc : of.cls = .type "function")
    (hB : typeLookup (.type "object") name = pure y) (hm : m.lookup name = none) (hcp : (["__module__", "__name__", "__qualname__", "__doc__", "__annotations__"] : List Str).contains name = false) (h : Q (.meth f x) led) : GetA C Y led (.ref x) name Q := by
  intro A fz G s v ex hA S e1
  induction e1 using Den.refE
  obtain ⟨N, ⟨nm, q, bs, sn, sub, col, dd, k0, k1, k2, k3, k5, hC⟩, hN⟩ := X.at_ S
  obtain ⟨o, ho, hoc, hod, hoi, hne⟩ := S.atL hx
  obtain ⟨mv, hns, hmv⟩ := S.atL hd
  have hq := hmv name
  rw [hm] at hq
  cases hv : mv name with
  | some v => rw [hv] at hq; exact hq.elim
  | none =>
    have ha := get_size s.heap (Nat.le_refl _)
    have hz := S.rel.freshF ha
    have S' := S
    have hfo' := S.base _ _ hfo hft
    obtain ⟨hh, g, dr, t, os⟩ := s
    refine bound_attr hC hN hf hfo' hfc X.ga X.gh hB ⟨o, dx, ho, hoc, hod, hoi, hns⟩ hv hcp ?_
    exact ⟨_, G, .meth f x, led, fzPut_le hz, .refl _, .meth (fzPut_same ..), ⟨S'.dj, S'.rel.allocF ha _ (fun b o e => Heap.get?_push_of_some _ e) (Heap.get?_push_size _ rfl)⟩, h⟩
end
end Sc

set_option maxRecDepth 100000
namespace Sc
open Builtin

theorem CodeW.meth {C : Cx} {Y led : Led} {k : Nat} {f x : Addr} {ds : List D} {Q : D → Led → Prop} (h : CodeW C Y led k (.ref f) (.ref x :: ds) Q) : CodeW C Y led k (.meth f x) ds Q := by
  intro A fz G s fv vs hA S e1 e2
  cases e1 with
  | meth e =>
    exact PySem.W.method_call (S.rel.fzIn _ _ e) (h A fz G s _ _ hA S (.ref f) (.cons (.ref x) e2))

theorem slot_ci_next : Slot "callable_iterator" "__next__" "callable_iterator.__next__" := .of (owner := "callable_iterator") (n := "__next__") (by rw [typeLookup_type, builtinLookup_eq_fast]; kernel_rfl) (by decide +kernel) (by decide +kernel) (by decide +kernel)
    (by first | exact .inl (by decide +kernel) | exact .inr (by decide +kernel)) (by rw [isSubtype_type]; kernel_rfl)
theorem entry_ci_next : entryFor table "callable_iterator.__next__" = some Builtin.«callable_iterator.__next__» := entryFor_of_tree (by kernel_rfl)
theorem args_ci_next (a : Value) : argsOk "callable_iterator.__next__" ⟨[a], []⟩ := by unfold argsOk; kernel_rfl
theorem slot_ci_iter : Slot "callable_iterator" "__iter__" "callable_iterator.__iter__" := .of (owner := "callable_iterator") (n := "__iter__") (by rw [typeLookup_type, builtinLookup_eq_fast]; kernel_rfl) (by decide +kernel) (by decide +kernel) (by decide +kernel)
    (by first | exact .inl (by decide +kernel) | exact .inr (by decide +kernel)) (by rw [isSubtype_type]; kernel_rfl)
theorem entry_ci_iter : entryFor table "callable_iterator.__iter__" = some Builtin.«dict_keyiterator.__iter__» :=
  entryFor_alias (id' := "dict_keyiterator.__iter__") (by kernel_rfl) rfl (by decide +kernel) (by kernel_rfl)
theorem args_ci_iter (a : Value) : argsOk "callable_iterator.__iter__" ⟨[a], []⟩ := by unfold argsOk; kernel_rfl
theorem kind_iter : builtinKind "iter" = none := by decide +kernel
theorem plain_iter : plainId "iter" = true := by decide +kernel
theorem entry_iter : entryFor table "iter" = some Builtin.«iter» := entryFor_of_tree (by kernel_rfl)
theorem args_iter_2 (a b : Value) : argsOk "iter" ⟨[a, b], []⟩ := by unfold argsOk; kernel_rfl
theorem meth_call_slot : ∃ v, typeLookup (.type "method") "__call__" = pure (some v) := ⟨.builtin "method.__call__", by rw [typeLookup_type, builtinLookup_eq_fast]; kernel_rfl⟩

noncomputable abbrev ciDone : M := .flds "callable_iterator" [.none, .none, .bool true]
section
variable {C : Cx} {Y led : Led} {k : Nat}

theorem CallW.iter2 {f x : Addr} {e : D} {Q : D → Led → Prop} (h : ∀ a, led a = none → Q (.ref a) (upd led a (.flds "callable_iterator" [.meth f x, e, .bool false]))) : CallW C Y led k (.blt "iter") [.meth f x, e] Q := by
  intro A fz G s fv vs hA S e1 e2
  induction e1 using Den.bltE
  induction e2 using Dens.E2 with | k _ v x1 x2 =>
  cases x1 with
  | meth em =>
    rename_i r
    have ho := S.rel.fzIn _ _ em
    obtain ⟨cv, hcv⟩ := meth_call_slot
    refine Calls.call_function_entry kind_iter plain_iter entry_iter (args_iter_2 _ _) ?_
    refine (?_ : wpAny _ _ (specialOf (.ref r) "__call__" >>= fun b => if b.isNone then _ else _) _ _ s)
    refine wpAny_bind (wpAny_specialOf (T := "method") ⟨_, ho, rfl⟩ hcv ?_)
    refine (?_ : wpAny _ _ (rule "iter.sentinel" >>= fun _ => newFields "callable_iterator" [.ref r, v, .bool false] >>= fun v => ret v) _ _ s)
    refine wpAny_bind (wpAny_rule ?_)
    have ha := get_size s.heap (Nat.le_refl _)
    refine wpAny_bind (wpAny_newObj_type (wpAny_pure ⟨_, rfl, ?_⟩))
    exact ⟨fz, G, .ref _, _, .refl _, .refl _, .ref _, S.newL ha (m := .flds "callable_iterator" [.meth f x, e, .bool false]) s.toks (fun b o e => Heap.get?_push_of_some _ e) ⟨[.ref r, v, .bool false], Heap.get?_push_size _ rfl, .cons (.meth em) (.cons x2 (.cons (.bool _) .nil))⟩, h _ (S.fresh ha).1⟩

theorem pyIter_ci {prog : Program} {w : World} {A : Around} {E : Value → Shared → Prop} {s : Shared} {a : Addr} {vs : List Value} {Q : Value → Shared → Prop} (ho : s.heap.get? a = some { cls := .type "callable_iterator", data := .fields vs.toArray }) (h : Q (.ref a) s) :
    wpAny (model prog w) A (pyIter (.ref a)) Q E s := by
  have hT : s.TypeIs (.ref a) "callable_iterator" := ⟨_, ho, rfl⟩
  refine wpAny_pyIter_slot hT slot_ci_iter (wpAny_call_entry slot_ci_iter hT entry_ci_iter ?_ (args_ci_iter _))
  refine (?_ : wpAny _ _ (ret (.ref a)) _ _ s)
  exact wpAny_pure ⟨_, rfl, "callable_iterator", _, hT, slot_ci_next.lookup, h⟩

/-- behind a step of an iterator -/
inductive PsnN (C : Cx) (fz : Fz) (Y : Led) (G : Array GenState) (P : Option D → Led → Prop) (s' : Shared) : Prop
  | mk (fz' : Fz) (G' : Array GenState) (led' : Led) : FzLe fz fz' → GExt G G' → St C fz' led' Y G' s' → P none led' → PsnN C fz Y G P s'
inductive PsnS (C : Cx) (fz : Fz) (Y : Led) (G : Array GenState) (P : Option D → Led → Prop) (v : Value) (s' : Shared) : Prop
  | mk (fz' : Fz) (G' : Array GenState) (d : D) (led' : Led) : FzLe fz fz' → GExt G G' → Den fz' v d → St C fz' led' Y G' s' → P (some d) led' → PsnS C fz Y G P v s'
noncomputable def Psn (C : Cx) (fz : Fz) (Y : Led) (G : Array GenState) (P : Option D → Led → Prop) : Option Value → Shared → Prop := fun o s' =>
  match o with
  | none => PsnN C fz Y G P s'
  | some v => PsnS C fz Y G P v s'
/-- an iterator takes a step -/
noncomputable def NextW (C : Cx) (Y led : Led) (k : Nat) (a : Addr) (P : Option D → Led → Prop) : Prop :=
  ∀ A fz G s, RoomY k A Y → St C fz led Y G s → wpAny (model C.prog C.w) A (pyNext (.ref a)) (Psn C fz Y G P) No s

theorem wpAny_callBorrowed {M : Model} {A : Around} {E : Value → Shared → Prop} {s : Shared} {f : Value} {pos : List Value} {Q : Value → Shared → Prop}
    (hc : codeAny M A (.call f ⟨pos, []⟩) (fun r s' => match r with | .ok (.ret v) => Q v s' | .ok _ => False | .error e => E e s') s) : wpAny M A (callBorrowed f pos) Q E s := by
  intro Γ p hΓ
  unfold callBorrowed
  rw [Sem.wp_call]
  refine wpCode_mono (fun r s' q => ?_) (hc _ p rfl (hΓ.enter _ none p (by intro x; cases x)))
  match r, q with
  | .ok (.ret v), q => rw [Sem.wp_pure]; exact q
  | .error e, q => rw [Sem.wp_raise]; exact q

/-- StopIteration is raised -/
theorem stop_wp {prog : Program} {w : World} {A : Around} {α : Type} {Q : α → Shared → Prop} {E : Value → Shared → Prop} {s : Shared} (hA : A.handled = none)
    (h : ∀ e h', (∀ b o, s.heap.get? b = some o → h'.get? b = some o) → Shared.TypeIs { s with heap := h' } (.ref e) "StopIteration" → E (.ref e) { s with heap := h' }) : wpAny (model prog w) A (Builtin.SmallTypes.stopIteration : Sem α) Q E s := by
  unfold Builtin.SmallTypes.stopIteration
  refine wpAny_bind ?_
  simp only [newExc, newTuple]
  refine wpAny_bind (wpAny_newObj_type ?_ (by size_fits))
  refine wpAny_bind (m := firstArgMember _ _) (wpAny_of_eq (a := Value.none) (by first | rfl | (simp only [firstArgMember]; rfl)) ?_)
  refine wpAny_newObj_type ?_ (by size_fits)
  simp only [raiseNew]
  refine wpAny_bind (wpAny_handled ?_)
  rw [hA]
  exact wpAny_bind (wpAny_pure (wpAny_throw (h _ _ (fun b o e => Heap.get?_push_of_some _ (Heap.get?_push_of_some _ e)) ⟨_, Heap.get?_push_size _ rfl, rfl⟩)))
/-- what a callable_iterator's step comes to -/
noncomputable def CiPost (Q : Option Value → Shared → Prop) : PySem.Fin → Shared → Prop := fun fin s' => ∃ v, fin = .done (.ret v) ∧ Q (some v) s'
noncomputable def CiStop (Q : Option Value → Shared → Prop) : Value → Shared → Prop := fun x s' => ∃ e, x = .ref e ∧ s'.TypeIs (.ref e) "StopIteration" ∧ Q none s'
theorem pyNext_ci {prog : Program} {w : World} {A : Around} {Q : Option Value → Shared → Prop} {E : Value → Shared → Prop} {s : Shared} {a : Addr} {vs : Array Value} (ho : s.heap.get? a = some { cls := .type "callable_iterator", data := .fields vs })
    (h : wpAny (model prog w) A.in1 (Builtin.«callable_iterator.__next__» ⟨[.ref a], []⟩) (CiPost Q) (CiStop Q) s) : wpAny (model prog w) A (pyNext (.ref a)) Q E s := by
  have hT : s.TypeIs (.ref a) "callable_iterator" := ⟨_, ho, rfl⟩
  unfold pyNext
  refine wpAny_bind (wpAny_attempt (wpAny_callSpecial?_slot (name := Str.ofString "__next__") hT slot_ci_next (wpAny_call_entry slot_ci_next hT entry_ci_next (wpAny_mono h (fun fin s' q => ?_) fun x s' q => ?_) (args_ci_next _))))
  · obtain ⟨v, e, q⟩ := q
    exact ⟨v, e, wpAny_pure q⟩
  · obtain ⟨e, rfl, hs, q⟩ := q
    exact wpAny_bind (wpAny_isInstance (T := "StopIteration") (b := true) hs isSubtype_stop (wpAny_pure q))
theorem CiStop.of {C : Cx} {Y led : Led} {fz fz0 : Fz} {G G0 : Array GenState} {s : Shared} {P : Option D → Led → Prop} (l : FzLe fz0 fz) (g : GExt G0 G) (S : St C fz led Y G s) (h : P none led) : ∀ e h', (∀ b o, s.heap.get? b = some o → h'.get? b = some o) → Shared.TypeIs { s with heap := h' } (.ref e) "StopIteration" → CiStop (Psn C fz0 Y G0 P) (.ref e) { s with heap := h' } :=
  fun e h' hk ht => ⟨e, rfl, ht, fz, G, led, l, g, S.ext s.toks hk, h⟩
theorem St.ciAt {a f x : Addr} {e : D} {fz : Fz} {G : Array GenState} {s : Shared} (S : St C fz led Y G s) (ha : led a = some (.flds "callable_iterator" [.meth f x, e, .bool false])) :
    ∃ mb v, s.heap.get? a = some { cls := .type "callable_iterator", data := .fields #[.ref mb, v, .bool false] } ∧ fz mb = some (methObj f x) ∧ Den fz v e := by
  obtain ⟨vs, ho, hd⟩ := S.atL ha
  induction hd using Dens.E3 with | k v u w d0 d1 d2 =>
  induction d0 using Den.methE with | k r h =>
  induction d2 using Den.boolE with | k =>
  exact ⟨r, u, ho, h, d1⟩
/-- what is seen of the callee -/
theorem ci_looks {fz : Fz} {G : Array GenState} {s : Shared} {f x mb : Addr} {fd : FuncData} {A : Around} {Q : Bool → Shared → Prop} {E : Value → Shared → Prop} (S : St C fz led Y G s) (em : fz mb = some (methObj f x)) (hf : Callable C Y led f fd) (h : Q true s) :
    wpAny (model C.prog C.w) A (borrowsExactly (.ref mb)) Q E s := by
  obtain ⟨fo, hfo, hfd, _⟩ := hf fz G s S
  unfold borrowsExactly
  refine wpAny_bind (wpAny_load (S.rel.fzIn _ _ em) ?_)
  refine wpAny_bind (m := load f) (wpAny_load hfo ?_)
  rw [hfd]
  exact wpAny_pure h
theorem ci_ends {a : Addr} {fz : Fz} {G : Array GenState} {s : Shared} {f x mb : Addr} {u : Value} {e : D} {fd : FuncData} {A : Around} {Q : Unit → Shared → Prop} {E : Value → Shared → Prop} (S : St C fz led Y G s) (ha : led a = some (.flds "callable_iterator" [.meth f x, e, .bool false])) (hf : Callable C Y led f fd)
    (ho : s.heap.get? a = some { cls := .type "callable_iterator", data := .fields #[.ref mb, u, .bool false] }) (em : fz mb = some (methObj f x))
    (h : ∀ h', St C fz (upd led a ciDone) Y G { s with heap := h' } → Q () { s with heap := h' }) :
    wpAny (model C.prog C.w) A (slotLetsGo "callable_iterator.__next__" (.ref mb) (fun | .builtin "callable_iterator.__next__" x => x.pos.head? == some (.ref a) | _ => false) >>= fun _ => setField (.ref a) 0 .none >>= fun _ => setField (.ref a) 1 .none >>= fun _ => setField (.ref a) 2 (.bool true)) Q E s := by
  unfold slotLetsGo
  refine wpAny_bind (wpAny_bind (ci_looks S em hf (wpAny_pure ?_)))
  have o2 := Heap.get?_update_self (Obj.mapFields (·.setIfInBounds 0 .none)) ho rfl
  have o3 := Heap.get?_update_self (Obj.mapFields (·.setIfInBounds 1 .none)) o2 rfl
  have o4 := Heap.get?_update_self (Obj.mapFields (·.setIfInBounds 2 (.bool true))) o3 rfl
  refine wpAny_bind (wpAny_setField ho rfl (by simp) (wpAny_bind (wpAny_setField o2 rfl (by simp) (wpAny_setField o3 rfl (by simp) (h _ ?_)))))
  exact S.wr ha (m := ciDone) s.toks (fun b o hb ho => ((Heap.SameBut.update ..).2 b hb).trans (((Heap.SameBut.update ..).2 b hb).trans (((Heap.SameBut.update ..).2 b hb).trans ho))) ⟨[.none, .none, .bool true], o4, .cons .none (.cons .none (.cons (.bool _) .nil))⟩
/-- behind the call -/
theorem ci_behind {a f x : Addr} {e y : Str} {fd : FuncData} {P : Option D → Led → Prop} {fz fz0 : Fz} {G G0 : Array GenState} {s : Shared} {A : Around} {ty : Tok} (hA : A.handled = none) (S : St C fz led Y G s) (ha : led a = some (.flds "callable_iterator" [.meth f x, .str e, .bool false])) (hcal : Callable C Y led f fd)
    (l : FzLe fz0 fz) (g : GExt G0 G) (hend : y = e → P none (upd led a ciDone)) (hitem : y ≠ e → P (some (.str y)) led) :
    wpAny (model C.prog C.w) A (do
      if (← field (.ref a) 2) == .bool true then rule "callable_iterator.__next__.ended-meanwhile"; Builtin.SmallTypes.stopIteration
      if !(← holding [Value.str y ty] (eqBool (← field (.ref a) 1) (.str y ty))) then return ← ret (.str y ty)
      rule "callable_iterator.__next__.sentinel"; (do slotLetsGo "callable_iterator.__next__" (← field (.ref a) 0) (fun | .builtin "callable_iterator.__next__" x => x.pos.head? == some (.ref a) | _ => false); setField (.ref a) 0 .none; setField (.ref a) 1 .none; setField (.ref a) 2 (.bool true) : Sem Unit); Builtin.SmallTypes.stopIteration)
      (CiPost (Psn C fz0 Y G0 P)) (CiStop (Psn C fz0 Y G0 P)) s := by
  obtain ⟨mb, v, ho, em, dv⟩ := S.ciAt ha
  induction dv using Den.strE with | k te =>
  refine wpAny_bind (m := field (.ref a) 2) (wpAny_field ho rfl (x := .bool false) rfl ?_)
  refine wpAny_bind (m := field (.ref a) 1) (wpAny_field ho rfl (x := .str e _) rfl ?_)
  refine wpAny_bind (wpAny_holding (wpAny_eqBool_str ?_))
  by_cases hy : y = e
  · rw [decide_eq_true hy.symm]
    refine wpAny_bind (m := rule "callable_iterator.__next__.sentinel") (wpAny_rule ?_)
    refine wpAny_bind (wpAny_bind (m := field (.ref a) 0) (wpAny_field ho rfl (x := .ref mb) rfl (ci_ends S ha hcal ho em fun h' S2 => ?_)))
    exact stop_wp hA (CiStop.of l g S2 (hend hy))
  · rw [decide_eq_false (Ne.symm hy)]
    exact wpAny_pure ⟨_, rfl, fz, G, .str y, led, l, g, .str .., S, hitem hy⟩
theorem NextW.citer {a f x : Addr} {e : Str} {fd : FuncData} {P : Option D → Led → Prop} (ha : led a = some (.flds "callable_iterator" [.meth f x, .str e, .bool false])) (hf : Callable C Y led f fd)
    (h : CodeW C Y led k (.ref f) [.ref x] fun d led' => ∃ y, d = .str y ∧ led' a = led a ∧ Callable C Y led' f fd ∧ (y = e → P none (upd led' a ciDone)) ∧ (y ≠ e → P (some (.str y)) led')) : NextW C Y led (k + 1) a P := by
  intro A fz G s hA S
  obtain ⟨mb, v, ho, em, dv⟩ := S.ciAt ha
  refine pyNext_ci ho ?_
  refine wpAny_bind (m := field (.ref a) 2) (wpAny_field ho rfl (x := .bool false) rfl ?_)
  refine wpAny_bind (m := field (.ref a) 0) (wpAny_field ho rfl (x := .ref mb) rfl ?_)
  refine wpAny_bind (wpAny_attempt ?_)
  unfold callOutOfASlot
  refine wpAny_bind (ci_looks S em hf ?_)
  refine wpAny_callBorrowed (codeAny_mono (CodeW.meth h A.in1 fz G s _ [] hA.in1 S (.meth em) .nil) fun r s1 p => ?_)
  match r, p with
  | .ok (.ret v), p =>
    obtain ⟨fz1, G1, d1, led1, l1, g1, e1, S1, y, rfl, hkeep, hcal, hend, hitem⟩ := p
    induction e1 using Den.strE with | k ty =>
    exact ci_behind hA.r.1 S1 (hkeep.trans ha) hcal l1 g1 hend hitem
  | .error e, p => exact p.elim
theorem NextW.cidone {a : Addr} {P : Option D → Led → Prop} (ha : led a = some ciDone) (h : P none led) : NextW C Y led k a P := by
  intro A fz G s hA S
  obtain ⟨vs, ho, hd⟩ := S.atL ha
  induction hd using Dens.E3 with | k v0 v1 v2 d0 d1 d2 =>
  induction d2 using Den.boolE with | k =>
  refine pyNext_ci ho ?_
  refine wpAny_bind (m := field (.ref a) 2) (wpAny_field ho rfl (x := .bool true) rfl ?_)
  refine wpAny_bind (m := rule "callable_iterator.__next__.ended") (wpAny_rule (wpAny_bind ?_))
  exact stop_wp hA.r.1 (CiStop.of (.refl _) (.refl _) S h)
end
end Sc
namespace Sc
section
variable {C : Cx} {led : Led} {fe : Fe} {vs : Vars} {k : Nat}
theorem PsnChain {M : Model} {A : Around} {t : Sem (Option Value)} {C : Cx} {fz : Fz} {Y : Led} {G : Array GenState} {P : Option D → Led → Prop} {s : Shared} {R : Option Value → Shared → Prop} {E : Value → Shared → Prop}
    (h : wpAny M A t (Psn C fz Y G P) No s)
    (k1 : ∀ v s' fz' G' d led', FzLe fz fz' → GExt G G' → Den fz' v d → St C fz' led' Y G' s' → P (some d) led' → R (some v) s')
    (k2 : ∀ s' fz' G' led', FzLe fz fz' → GExt G G' → St C fz' led' Y G' s' → P none led' → R none s') : wpAny M A t R E s :=
  wpAny_mono h (fun o s' p => by
    cases o with
    | none => cases p with | mk fz' G' led' a b c q => exact k2 s' fz' G' led' a b c q
    | some v => cases p with | mk fz' G' d led' a b c e q => exact k1 v s' fz' G' d led' a b c e q) fun _ _ x => x.elim
noncomputable abbrev KNx (C : Cx) (fe : Fe) (vs2 : Vars) (k : Nat) (target : Expr) (body : List Stmt) (I : Nat → Vars → Led → Prop) (n : Nat) (Q : Fl → Vars → Led → Prop) : Option D → Led → Prop := fun o led3 => match o with
        | none => Q .next vs2 led3
        | some x => WU C led3 fe vs2 k (PySem.assign target fe.env) x (KFB C fe k body (KTurn I n Q))
structure KForN2 (C : Cx) (fe : Fe) (vs : Vars) (k : Nat) (target : Expr) (body : List Stmt) (I : Nat → Vars → Led → Prop) (n : Nat) (Q : Fl → Vars → Led → Prop) (a : Addr) (led1 : Led) : Prop where
  at_ : ∃ f x e b, led1 a = some (.flds "callable_iterator" [f, x, b]) ∧ e = ()
  s : KSome (I n) vs led1
  go : ∀ n vs2 led2, I n vs2 led2 → ∀ Y, NextW C Y led2 k a (KNx C fe vs2 k target body I n Q)
inductive KForN (C : Cx) (fe : Fe) (vs : Vars) (k : Nat) (target : Expr) (body : List Stmt) (I : Nat → Vars → Led → Prop) (n : Nat) (Q : Fl → Vars → Led → Prop) (d : D) (led1 : Led) : Prop
  | mk (a : Addr) : d = .ref a → KForN2 C fe vs k target body I n Q a led1 → KForN C fe vs k target body I n Q d led1
/-- a for over an iterator that is stepped by hand -/
theorem WS.forN {target iter : Expr} {body : List Stmt} {pos : Pos} {Q : Fl → Vars → Led → Prop} (I : Nat → Vars → Led → Prop) (n : Nat) 
    (h : WE C led fe vs k (eval iter fe.env) (KForN C fe vs k target body I n Q))
    (ht : autoParam (∀ it v, letOwnedTupleGo target it v = pure ()) autA) (hs : autoParam (∀ x, foldedSetIterable iter fe.env x = pure x) autA) :
    WS C led fe vs k (exec (.For target iter body [] pos) fe.env) Q := by
  intro F X hF hd A fz G s hA S
  refine wpAny_For (chain (h F X hF hd A fz G s hA S) fun v1 s1 fz1 G1 d1 led1 l1 g1 e1 S1 h1 => ?_) hs
  obtain ⟨a, rfl, ⟨f, x, e, b, hci, _⟩, ⟨vs0, hsub, hI0⟩, step⟩ := h1
  induction e1 using Den.refE
  obtain ⟨us, ho, _⟩ := S1.atL hci
  refine pyIter_ci ho ?_
  refine codeAny_forLoop (fun n s' => ∃ fz' G' F' vs' led', FzLe fz1 fz' ∧ GExt G1 G' ∧ FOk fe vs' F' X ∧ Dj F' X ∧ St C fz' led' (Un F' X) G' s' ∧ I n vs' led')
    (fun n s3 hI => ?_) n ⟨fz1, G1, F, vs0, led1, .refl _, .refl _, hF.sub hsub, hd, S1, hI0⟩ (ht _)
  obtain ⟨fz3, G3, F3, vs3, led3, l3, g3, hF3, hd3, S3, hI⟩ := hI
  refine PsnChain (step n vs3 led3 hI _ A fz3 G3 s3 (hA.y hF3 hd3) S3) (fun v s4 fz4 G4 d led4 l4 g4 e4 S4 h4 => ?_) fun s4 fz4 G4 led4 l4 g4 S4 h4 => ?_
  · refine chainU (h4 F3 X hF3 hd3 A fz4 G4 s4 v hA S4 e4) fun s5 fz5 G5 F5 vs5 led5 l5 g5 hF5 hd5 S5 h5 => ?_
    refine chainF (h5 F5 X hF5 hd5 A fz5 G5 s5 hA S5) fun f s6 fz6 G6 F6 vs6 led6 fl l6 g6 e6 hF6 hd6 S6 h6 => ?_
    have L : FzLe fz1 fz6 := ((l3.trans l4).trans l5).trans l6
    have GG : GExt G1 G6 := ((g3.trans g4).trans g5).trans g6
    induction e6 using FlDen.E with
    | next => obtain ⟨m, vs7, hm, hs7, hI7⟩ := h6; exact ⟨m, hm, fz6, G6, F6, vs7, led6, L, GG, hF6.sub hs7, hd6, S6, hI7⟩
    | cont => obtain ⟨m, vs7, hm, hs7, hI7⟩ := h6; exact ⟨m, hm, fz6, G6, F6, vs7, led6, L, GG, hF6.sub hs7, hd6, S6, hI7⟩
    | brk => exact ⟨fz6, G6, F6, vs6, led6, .next, l1.trans L, g1.trans GG, trivial, hF6, hd6, S6, h6⟩
    | ret v d e6 => exact ⟨fz6, G6, F6, vs6, led6, .ret d, l1.trans L, g1.trans GG, e6, hF6, hd6, S6, h6⟩
  · exact wpAny_execs_nil ⟨fz4, G4, F3, vs3, led4, .next, (l1.trans l3).trans l4, (g1.trans g3).trans g4, trivial, hF3, hd3, S4, h4⟩
end
end Sc

set_option maxRecDepth 100000
namespace Sc
set_option tactic.hygienic false
open PySem.W (CodeHd tabObj fnX kla_fn kla_obj fnMade)

theorem among_snoc {pos p : Pos} {c : Value} : ∀ (l : List Value), TriplesOk l → ∀ {v : Value}, codeAmong p (l ++ [rawInt pos.line, rawInt pos.col, c]) = some v → codeAmong p l = some v ∨ (p.line = pos.line ∧ p.col = pos.col ∧ v = c) := by
  intro l h
  fun_induction TriplesOk l with
  | case1 =>
    intro v e
    simp only [List.nil_append, codeAmong, rawInt] at e
    split at e
    · rename_i hc
      simp only [Bool.and_eq_true, beq_iff_eq] at hc
      cases e
      exact .inr ⟨by lia, by lia, rfl⟩
    · cases e
  | case2 a t b u x rest ih =>
    intro v e
    simp only [List.cons_append, codeAmong] at e ⊢
    split at e
    · rename_i hc; rw [if_pos hc]; exact .inl e
    · rename_i hc; rw [if_neg hc]; exact ih h e
  | case3 l h1 h2 => exact h.elim

section
variable {C : Cx} {fz : Fz} {led Y : Led} {G : Array GenState} {s : Shared}
theorem isCode_facts {h : Heap} {c P : Addr} {ps : Array Value} (x : h.IsCode c P ps) : c ≠ P ∧ TriplesOk ps.toList := by
  obtain ⟨_, _, _, _, _, _, _, _, _, _, _, _, _, _, _, _, _, _, _, x, y⟩ := x; exact ⟨y, x⟩
/-- a nested code is laid into its table -/
theorem St.table (S : St C fz led Y G s) {c P c' : Addr} {ps : Array Value} {pos : Pos} {h' : Heap} {oc : Obj} {vs : Array Value} {q : Str} {t : Tok} (tk : Nat) (hct : C.ct c P) (hic : s.heap.IsCode c P ps) (hta : s.heap.TableAt c P ps)
    (hfc : ∀ pos v, codeAmong pos ps.toList = some v → FCode fz v (C.dq c pos)) (hx : Heap.ExtBut P s.heap h') (hP : h'.get? P = some (tabObj (ps ++ #[rawInt pos.line, rawInt pos.col, .ref c'])))
    (hn : s.heap.objs.size ≤ c') (hoc : h'.get? c' = some oc) (hd : oc.data = .fields vs) (hq : vs[1]? = some (.str q t)) (hdq : C.dq c pos = q) : ∃ fz', FzLe fz fz' ∧ FCode fz' (.ref c') q ∧ St C fz' led Y G { s with heap := h', toks := tk } := by
  have hz := S.rel.freshF (get_size s.heap hn)
  have le : FzLe fz (fzPut fz c' oc) := fzPut_le hz
  obtain ⟨ps₀, hta₀⟩ := C.tabIs c P hct
  have hne : ∀ b o, fz b = some o → b ≠ P := fun b o e z => S.rel.fzt b o e ⟨c, z ▸ hct⟩
  have hneT : ∀ b m, Un led Y b = some m → b ≠ P := fun b m e z => by
    have := S.rel.new b m e
    rw [z] at this; rw [hta₀.2] at this; cases this
  obtain ⟨hcP, tri⟩ := isCode_facts hic
  have fc : FCode (fzPut fz c' oc) (.ref c') q := ⟨c', oc, vs, t, rfl, fzPut_same .., hd, hq⟩
  have hd2 : CodeHd s.heap c P := CodeHd.of hic hta
  have hd3 : CodeHd h' c P := by obtain ⟨o, vs, file, tf, flags, tg, inF, text, tt, e, r⟩ := hd2; exact ⟨o, vs, file, tf, flags, tg, inF, text, tt, hx c o hcP e, r⟩
  have tri' : TriplesOk (ps ++ #[rawInt pos.line, rawInt pos.col, .ref c']).toList := by
    have := TriplesOk_snoc pos.line pos.col (.ref c') ps.toList tri
    simpa using this
  refine ⟨_, le, fc, S.dj, ?_⟩
  exact {
    fzIn := fun b p e => by
      rcases fzPut_or e with ⟨rfl, rfl⟩ | e
      · exact hoc
      · exact hx b p (hne b p e) (S.rel.fzIn b p e)
    ledIn := fun b m e => ((S.rel.ledIn b m e).at fun o => hx b o (hneT b m e)).mono le
    apart := fun b p e => by
      rcases fzPut_or e with ⟨rfl, rfl⟩ | e
      · exact S.rel.freshT (get_size s.heap hn)
      · exact S.rel.apart b p e
    fzt := fun b p e => by
      rcases fzPut_or e with ⟨rfl, rfl⟩ | e
      · rintro ⟨c₁, hc₁⟩
        obtain ⟨ps, _, e2⟩ := C.tabIs c₁ _ hc₁
        rw [S.rel.freshB (get_size s.heap hn)] at e2; cases e2
      · exact S.rel.fzt b p e
    new := S.rel.new
    base := fun b o e n => hx b o (fun z => n ⟨c, z ▸ hct⟩) (S.rel.base b o e n)
    tabs := fun c₁ P₁ e => by
      by_cases hPP : P₁ = P
      · subst hPP
        have := C.uniq _ _ _ e hct
        subst this
        refine ⟨_, hd3.code hP tri', hd3.tab hP, fun p v hv => ?_⟩
        rw [show (ps ++ #[rawInt pos.line, rawInt pos.col, Value.ref c']).toList = ps.toList ++ [rawInt pos.line, rawInt pos.col, .ref c'] by simp] at hv
        rcases among_snoc _ tri hv with hv | ⟨p1, p2, rfl⟩
        · exact (hfc p v hv).mono le
        · rw [C.dqe c₁ p pos p1 p2, hdq]; exact fc
      · have hcP1 : c₁ ≠ P := fun z => C.tabNo c₁ P₁ c e (z ▸ hct)
        exact ((S.rel.tabs c₁ P₁ e).extBut hx hcP1 hPP).mono le
    old := OldK.step_table S.rel.old hta₀ hta (hd3.tab hP) hx (fun z => C.cs c (z ▸ hct))
    os := S.rel.os
    gens := S.rel.gens }
end

section
variable {C : Cx} {fz : Fz} {led Y : Led} {G : Array GenState} {s : Shared} {A : Around} {E : Value → Shared → Prop}
theorem St.builtinsAt (S : St C fz led Y G s) {c P : Addr} (hct : C.ct c P) : s.heap.BuiltinsAt C.mg P := by
  obtain ⟨bm, o, e, n1, n2, h, r1, r2, r3, r4⟩ := C.bat
  exact ⟨bm, o, e, n1, n2, fun z => r4 c (z ▸ hct), S.base _ _ h (fun ⟨c', hc'⟩ => r4 c' hc'), r1, r2, r3⟩
theorem St.gneP {c P : Addr} (hct : C.ct c P) : mainGlobals ≠ P := fun z => C.gt c (z ▸ hct)
theorem tri_of {h : Heap} {c P : Addr} {ps : Array Value} (hic : h.IsCode c P ps) : TriplesOk ps.toList := by obtain ⟨_, _, _, _, _, _, _, _, _, _, _, _, _, _, _, _, _, _, e, h, _⟩ := hic; exact h
theorem makeFn {prog : Program} {w : World} (S : St C fz led Y G s) {env : Env} {name qual : Str} {params : Arguments} {body : List Stmt} {scope : Scope} {pos : Pos} {fl : Nat} {c P : Addr} {clos : List (Str × Addr)} (hg : env.globals = mainGlobals) (hcode : env.code = .ref c) (hct : C.ct c P) (hdq : C.dq c pos = qual)
    (hcl : closureFor scope env = pure clos) {Q : Value → Shared → Prop}
    (h : ∀ fz' f fd s', FzLe fz fz' → FnIs fd params (.stmts body) scope clos → led f = none → St C fz' (upd led f (.fn none fd)) Y G s' → Q (.ref f) s') :
    wpAny (model prog w) A (makeFunction name qual params (.stmts body) scope env [] [] [] pos fl) Q E s := by
  obtain ⟨ps, hic, hta, hfc⟩ := S.rel.tabs c P hct
  cases hf : codeAmong pos ps.toList with
  | none =>
    refine PySem.W.makeFunction_K hcl hg S.glob hcode (CodeHd.of hic hta) hta.2 (tri_of hic) hf (St.gneP hct) (S.builtinsAt hct) fun c' ctv doc h' tk hx hge hlt hrec hP => ?_
    obtain ⟨c₂, oc, vs, t, e2, hoc, hd, hv⟩ := hrec
    cases e2
    obtain ⟨fz', le, fc, S'⟩ := S.table tk hct hic hta hfc hx hP hge hoc hd hv hdq
    have ha := get_size h' (Nat.le_refl _)
    exact h fz' _ _ _ le ⟨rfl, rfl, rfl, rfl, rfl, rfl, rfl⟩ (S'.fresh ha).1 (S'.newL ha (m := .fn none _) tk (fun b o e => Heap.get?_push_of_some _ e) ⟨Heap.get?_push_size _ rfl, fc⟩)
  | some cv =>
    refine PySem.W.makeFunction_hit hcl hg S.glob hcode (CodeHd.of hic hta) hta.2 (tri_of hic) hf (S.builtinsAt hct) fun ctv doc h' tk hk hsz => ?_
    have S' := S.ext tk hk
    have ha := get_size h' (Nat.le_refl _)
    exact h fz _ _ _ (.refl _) ⟨rfl, rfl, rfl, rfl, rfl, rfl, rfl⟩ (S'.fresh ha).1 (S'.newL ha (m := .fn none _) tk (fun b o e => Heap.get?_push_of_some _ e) ⟨Heap.get?_push_size _ rfl, by rw [← hdq]; exact hfc pos cv hf⟩)
theorem makeLam {prog : Program} {w : World} (S : St C fz led Y G s) {env : Env} {name qual : Str} {params : Arguments} {body : Expr} {scope : Scope} {pos : Pos} {fl : Nat} {c P : Addr} {clos : List (Str × Addr)} (hg : env.globals = mainGlobals) (hcode : env.code = .ref c) (hct : C.ct c P) (hdq : C.dq c pos = qual)
    (hcl : closureFor scope env = pure clos) {Q : Value → Shared → Prop}
    (h : ∀ fz' f fd s', FzLe fz fz' → FnIs fd params (.expr body) scope clos → led f = none → St C fz' (upd led f (.fn none fd)) Y G s' → Q (.ref f) s') :
    wpAny (model prog w) A (makeFunction name qual params (.expr body) scope env [] [] [] pos fl) Q E s := by
  obtain ⟨ps, hic, hta, hfc⟩ := S.rel.tabs c P hct
  cases hf : codeAmong pos ps.toList with
  | none =>
    refine PySem.W.kla_makeFunction hcl hg S.glob hcode (CodeHd.of hic hta) hta.2 (tri_of hic) hf (St.gneP hct) (S.builtinsAt hct) fun c' ctv h' tk hx hge hlt hrec hP => ?_
    obtain ⟨c₂, oc, vs, t, e2, hoc, hd, hv⟩ := hrec
    cases e2
    obtain ⟨fz', le, fc, S'⟩ := S.table tk hct hic hta hfc hx hP hge hoc hd hv hdq
    have ha := get_size h' (Nat.le_refl _)
    exact h fz' _ _ _ le ⟨rfl, rfl, rfl, rfl, rfl, rfl, rfl⟩ (S'.fresh ha).1 (S'.newL ha (m := .fn none _) tk (fun b o e => Heap.get?_push_of_some _ e) ⟨Heap.get?_push_size _ rfl, fc⟩)
  | some cv =>
    refine PySem.W.kla_makeFunctionHit hcl hg S.glob hcode (CodeHd.of hic hta) hta.2 (tri_of hic) hf (S.builtinsAt hct) fun ctv h' tk hk hsz => ?_
    have S' := S.ext tk hk
    have ha := get_size h' (Nat.le_refl _)
    exact h fz _ _ _ (.refl _) ⟨rfl, rfl, rfl, rfl, rfl, rfl, rfl⟩ (S'.fresh ha).1 (S'.newL ha (m := .fn none _) tk (fun b o e => Heap.get?_push_of_some _ e) ⟨Heap.get?_push_size _ rfl, by rw [← hdq]; exact hfc pos cv hf⟩)
end

section
variable {C : Cx} {led : Led} {fe : Fe} {vs : Vars} {k : Nat}
theorem WS.def_ {name : Str} {params : Arguments} {body : List Stmt} {scope : Scope} {pos : Pos} {c P : Addr} {Q : Fl → Vars → Led → Prop} (hcode : fe.env.code = .ref c) (hct : C.ct c P) (hdq : C.dq c pos = qualnameIn fe.env name name) 
    (h : ∀ f fd, FnIs fd params (.stmts body) scope (closOf scope fe.env.cells) → led f = none → WU C (upd led f (.fn none fd)) fe vs k (storeName fe.env name) (.ref f) fun vs' led' => Q .next vs' led')
    (hfree : autoParam ((freeNames scope).all fe.ow.contains = true) rflA) (hd0 : autoParam (params.defaults = []) rflA) (hk0 : autoParam (params.kw_defaults = []) rflA) (ha : autoParam (annTrees params none fe.env = []) rflA) :
    WS C led fe vs k (exec (.FunctionDef name params body [] none [] scope none name pos) fe.env) Q := by
  intro F X hF hd A fz G s hA S
  have hcl : closureFor scope fe.env = pure (closOf scope fe.env.cells) := closureFor_eq fun x hx => by
    obtain ⟨c, dd, e, _⟩ := hF.own x (List.contains_iff_mem.mp (List.all_eq_true.mp hfree x hx))
    exact ⟨c, e⟩
  refine PySem.W.nestDef_K hd0 hk0 ha (makeFn S hF.glob hcode hct hdq hcl fun fz1 f fd s1 l1 hi hf S1 => ?_)
  exact chainU (h f fd hi hf F X hF hd A fz1 G s1 (.ref f) hA S1 (.ref f)) fun s2 fz2 G2 F2 vs2 led2 l2 g2 hF2 hd2 S2 q => ⟨fz2, G2, F2, vs2, led2, .next, l1.trans l2, g2, trivial, hF2, hd2, S2, q⟩
theorem WE.lambda {params : Arguments} {body : Expr} {scope : Scope} {pos : Pos} {c P : Addr} {Q : D → Led → Prop} (hcode : fe.env.code = .ref c) (hct : C.ct c P) (hdq : C.dq c pos = fe.env.qual ++ "<lambda>") 
    (h : ∀ f fd, FnIs fd params (.expr body) scope (closOf scope fe.env.cells) → led f = none → Q (.ref f) (upd led f (.fn none fd)))
    (hfree : autoParam ((freeNames scope).all fe.ow.contains = true) rflA) (hdef : autoParam (defaultsOf params fe.env = ([], [])) rflA) :
    WE C led fe vs k (eval (.Lambda params body scope pos) fe.env) Q := by
  intro F X hF hd A fz G s hA S
  have hcl : closureFor scope fe.env = pure (closOf scope fe.env.cells) := closureFor_eq fun x hx => by
    obtain ⟨c, dd, e, _⟩ := hF.own x (List.contains_iff_mem.mp (List.all_eq_true.mp hfree x hx))
    exact ⟨c, e⟩
  refine PySem.W.kla_eval hdef (makeLam S hF.glob hcode hct hdq hcl fun fz1 f fd s1 l1 hi hf S1 => ?_)
  exact ⟨fz1, G, .ref f, _, l1, .refl _, .ref f, S1, h f fd hi hf⟩
end
end Sc

namespace Sc
set_option tactic.hygienic false
theorem St.keepCell {C : Cx} {fz : Fz} {led F X : Led} {G : Array GenState} {s : Shared} (S : St C fz led (Un F X) G s) (hd : Dj F X) {c : Addr} {m : M} (hc : F c = some m) : St C fz (upd led c m) X G s := by
  have hl : led c = none := (S.dj c).resolve_right (by rw [Un_left hc]; exact Option.some_ne_none _)
  refine ⟨(S.dj.right).upd m (hd.of_some hc), ?_⟩
  refine S.rel.forget fun a m' e => ?_
  rw [Un_upd] at e
  by_cases ha : a = c
  · subst ha; rw [upd_same] at e; cases e; rw [Un_right hl, Un_left hc]
  · rw [upd_ne _ _ ha] at e
    cases hl' : led a with
    | some m'' => rw [Un_left hl'] at e ⊢; exact e
    | none =>
      rw [Un_right hl'] at e ⊢
      rw [Un_right ((hd a).resolve_right (by rw [e]; exact Option.some_ne_none _))]; exact e
/-- behind a def whose cell lives on -/
noncomputable def BackK (cs : List (Str × Addr)) (x₀ : Str) (Q : D → Led → Prop) : Fl → Vars → Led → Prop := fun fl vs led' => match fl with
  | .ret d => ∃ dx, vs.lookup x₀ = some dx ∧ ∀ c, cs.lookup x₀ = some c → led' c = none → Q d (upd led' c (.cell (some dx)))
  | _ => False
/-- a def of the top whose code is known -/
noncomputable def GFnC (C : Cx) (a : Addr) (st : Stmt) (c : Addr) (q : Str) : Prop := ∃ fd, GFnF C a st fd ∧ fd.code = .ref c ∧ fd.qualname = q
theorem GFnC.fn {C : Cx} {a : Addr} {st : Stmt} {c : Addr} {q : Str} (h : GFnC C a st c q) : GFn C a st := let ⟨fd, h, _⟩ := h; ⟨fd, h⟩
theorem CodeW.gfnc {C : Cx} {Y led : Led} {k : Nat} {a : Addr} {st : Stmt} {name name' : Str} {args : Arguments} {body : List Stmt} {scope : Scope} {pos : Pos} {ds : List D} {Q : D → Led → Prop} {c : Addr} {q : Str} (h : GFnC C a st c q)
    (hst : st = .FunctionDef name args body [] none [] scope none name' pos) (vs : Vars) (hok : argsOk' args (vs.map (·.1)) scope = true) (hds : ds = vs.map (·.2))
    (hb : ∀ L cs, WS C led (fnFe scope L cs (q ++ ".<locals>.") a (.ref c)) vs k (execs body (fnFe scope L cs (q ++ ".<locals>.") a (.ref c)).env) (Back Q)) : CodeW C Y led (k + 1) (.ref a) ds Q :=
  let ⟨fd, h, e1, e2⟩ := h; CodeW.ofT (h.1 Y led) (h.is hst) hok hds CloOk.nil rfl fun L cs _ F X hF => by rw [e1, e2] at hF ⊢; exact (hb L cs).t F X hF.toNil
theorem CodeW.gfnK {C : Cx} {Y led : Led} {k : Nat} {a : Addr} {st : Stmt} {name name' : Str} {args : Arguments} {body : List Stmt} {scope : Scope} {pos : Pos} {ds : List D} {Q : D → Led → Prop} {c : Addr} {q : Str} (h : GFnC C a st c q)
    (hst : st = .FunctionDef name args body [] none [] scope none name' pos) (vs : Vars) (hok : argsOk' args (vs.map (·.1)) scope = true) (hds : ds = vs.map (·.2))
    (x₀ : Str) (hx₀ : ((cellNames scope).contains x₀ && (scope.names.lookup x₀ == some .cell)) = true) (hb : ∀ L cs, WS C led (fnFe scope L cs (q ++ ".<locals>.") a (.ref c)) vs k (execs body (fnFe scope L cs (q ++ ".<locals>.") a (.ref c)).env) (BackK cs x₀ Q)) : CodeW C Y led (k + 1) (.ref a) ds Q := by
  obtain ⟨fd, h, e1, e2⟩ := h
  simp only [Bool.and_eq_true, List.contains_iff_mem, beq_iff_eq] at hx₀
  refine CodeW.of (R := fun cs => BackK cs x₀ Q) (h.1 Y led) (h.is hst) hok hds CloOk.nil rfl (fun L cs _ F X hF => by rw [e1, e2] at hF ⊢; exact (hb L cs).t F X hF.toNil) fun L cs F vs2 led2 fz2 G2 s2 fl hF hd S q => ?_
  cases fl with
  | ret d =>
    obtain ⟨dx, hdx, hq⟩ := q
    obtain ⟨c, dd, hc1, hc2⟩ := hF.own x₀ hx₀.1
    obtain ⟨c', h1, h2⟩ := hF.cel x₀ dx hdx (show scope.names.lookup x₀ ≠ some .local by rw [hx₀.2]; intro z; cases z)
    rw [hc1] at h1; cases h1
    rw [Un_left hc2] at h2; cases h2
    exact ⟨_, S.keepCell hd hc2, hq c hc1 ((S.dj c).resolve_right (by rw [Un_left hc2]; exact Option.some_ne_none _))⟩
  | _ => exact q.elim
theorem CodeW.nest {C : Cx} {Y led : Led} {k : Nat} {a : Addr} {fd : FuncData} {dict : Option Addr} {cl : List (Str × Addr)} {args : Arguments} {body : List Stmt} {scope : Scope} {ds : List D} {Q : D → Led → Prop} (hl₀ : led a = some (.fn dict fd)) (hi : FnIs fd args (.stmts body) scope cl) (vs : Vars) (hok : argsOk' args (vs.map (·.1)) scope = true) (hds : ds = vs.map (·.2))
    (fv : Vars) (hc : CloOk cl Y fv) (hfvs : (fv.all fun p => (scope.names.lookup p.1 == some .free) && !(cellNames scope).contains p.1) = true)
    (hb : ∀ L cs q code, (∀ x, x ∉ cellNames scope → cs.lookup x = cl.lookup x) → WS C led (fnFe scope L cs q a code) (vs ++ fv) k (execs body (fnFe scope L cs q a code).env) (Back Q)) : CodeW C Y led (k + 1) (.ref a) ds Q :=
  CodeW.ofT (Callable.led hl₀) hi hok hds hc hfvs fun L cs i => (hb L cs _ _ i).t

/-- a nested def's cells, seen from the def around it -/
theorem FOk.clo {fe : Fe} {vs : Vars} {F X : Led} (hF : FOk fe vs F X) {sc : Scope} {fv : Vars} (hfree : (freeNames sc).all fe.ow.contains = true)
    (hfv : (fv.all fun p => (freeNames sc).contains p.1 && !(fe.env.kindOf p.1 == some .local)) = true) (hs : Sub fv vs) : CloOk (closOf sc fe.env.cells) (Un F X) fv where
  al := fun x c e => by
    obtain ⟨hx, rfl⟩ := closOf_lookup e
    obtain ⟨c, dd, e1, e2⟩ := hF.own x (List.contains_iff_mem.mp (List.all_eq_true.mp hfree x hx))
    exact ⟨dd, by rw [e1]; exact Un_left e2⟩
  inj := fun x y c ex ey => by
    obtain ⟨hx, rfl⟩ := closOf_lookup ex
    have hx_9 := closOf_lookup ey; have hy := hx_9.1; have e := hx_9.2
    obtain ⟨c1, dd, e1, _⟩ := hF.own x (List.contains_iff_mem.mp (List.all_eq_true.mp hfree x hx))
    obtain ⟨c2, dd2, e2, _⟩ := hF.own y (List.contains_iff_mem.mp (List.all_eq_true.mp hfree y hy))
    rw [e1, e2] at e
    exact hF.inj x y c1 e1 (by rw [e2]; exact congrArg some e.symm)
  fv := fun x d e => by
    have := List.all_eq_true.mp hfv _ (mem_of_lookup e)
    simp only [Bool.and_eq_true, List.contains_iff_mem, Bool.not_eq_true', beq_eq_false_iff_ne] at this
    obtain ⟨c, e1, e2⟩ := hF.cel x d (hs.spec x d e) this.2
    exact ⟨c, by rw [closOf_get this.1, e1]; rfl, e2⟩
/-- a nested def's cells, seen from its own frame -/
theorem FOk.clo' {fe : Fe} {vs : Vars} {F X : Led} (hF : FOk fe vs F X) {cl : List (Str × Addr)} {fv : Vars} (hcl : ∀ x c, cl.lookup x = some c → fe.env.cells.lookup x = some c ∧ x ∈ fv.map (·.1))
    (hfv : ∀ p ∈ fv, fe.env.kindOf p.1 ≠ some .local ∧ ∃ c, cl.lookup p.1 = some c) (hn : (fv.map (·.1)).Nodup) (hs : Sub fv vs) : CloOk cl (Un F X) fv where
  al := fun x c e => by
    have hx_13 := hcl x c e; have e1 := hx_13.1; have e2 := hx_13.2
    obtain ⟨p, hp, rfl⟩ := List.mem_map.mp e2
    have hd : ∃ d, fv.lookup p.1 = some d := by
      cases q : fv.lookup p.1 with
      | some d => exact ⟨d, rfl⟩
      | none => exact absurd hp (by
          intro hp
          have : ∀ l : Vars, p ∈ l → l.lookup p.1 ≠ none := by
            intro l
            induction l with
            | nil => intro h; cases h
            | cons r l ih =>
              intro h
              rw [List.lookup_cons]
              by_cases hr : p.1 = r.1
              · rw [hr]; simp
              · rw [beq_eq_false_iff_ne.mpr hr]; exact ih ((List.mem_cons.mp h).resolve_left (fun z => hr (by rw [z])))
          exact this fv hp q)
    obtain ⟨d, hd⟩ := hd
    obtain ⟨c', q1, q2⟩ := hF.cel p.1 d (hs.spec _ _ hd) (hfv p hp).1
    rw [e1] at q1; cases q1
    exact ⟨_, q2⟩
  inj := fun x y c ex ey => hF.inj x y c (hcl x c ex).1 (hcl y c ey).1
  fv := fun x d e => by
    have hm := mem_of_lookup e
    obtain ⟨k1, c, hc⟩ := hfv _ hm
    obtain ⟨c', q1, q2⟩ := hF.cel x d (hs.spec _ _ e) k1
    rw [(hcl x c hc).1] at q1; cases q1
    exact ⟨c, hc, q2⟩
/-- an object is lent to the frames' part -/
theorem CodeW.lend {C : Cx} {Y led : Led} {k : Nat} {f : D} {ds : List D} {Q Q0 : D → Led → Prop} {c : Addr} {m : M} (hl : led c = none) (h : CodeW C (upd Y c m) led k f ds Q0) (hq : ∀ d led', Q0 d led' → led' c = none → Q d (upd led' c m)) : CodeW C Y (upd led c m) k f ds Q := by
  intro A fz G s fv vs hA S e1 e2
  have hY : Y c = none := S.dj.of_some (upd_same ..)
  have S' : St C fz led (upd Y c m) G s := by
    refine ⟨fun a => ?_, ?_⟩
    · by_cases ha : a = c
      · subst ha; exact .inl hl
      · rw [upd_ne _ _ ha]
        have := S.dj a
        rwa [upd_ne _ _ ha] at this
    · rw [Un_upd_r _ _ _ _ hl, ← Un_upd]; exact S.rel
  refine codeAny_mono (h A fz G s fv vs (hA.upY fun a m e => by rw [upd_ne _ _ (fun z => by subst z; rw [hY] at e; cases e)]; exact e) S' e1 e2) fun r s' p => ?_
  match r, p with
  | .ok (.ret v), ⟨fz', G', d, led', a, b, e, S2, q⟩ =>
    have hl2 : led' c = none := (S2.dj c).resolve_right (by rw [upd_same]; exact Option.some_ne_none _)
    refine ⟨fz', G', d, _, a, b, e, ⟨fun x => ?_, ?_⟩, hq d led' q hl2⟩
    · by_cases hx : x = c
      · subst hx; exact .inr hY
      · rw [upd_ne _ _ hx]
        have := S2.dj x
        rwa [upd_ne _ _ hx] at this
    · rw [Un_upd, ← Un_upd_r _ _ _ _ hl2]; exact S2.rel
  | .error e, p => exact p.elim
end Sc

namespace Sc
set_option tactic.hygienic false

section
variable {C : Cx} {led : Led} {fe : Fe} {vs : Vars} {k : Nat}
/-- several stores -/
noncomputable def WUL (C : Cx) (led : Led) (fe : Fe) (vs : Vars) (k : Nat) (ts : List (Value → Sem Unit)) (ds : List D) (Q : Vars → Led → Prop) : Prop :=
  ∀ F X, FOk fe vs F X → Dj F X → ∀ A fz G s us, RoomF k A fe X → St C fz led (Un F X) G s → Dens fz us ds → wpAny (model C.prog C.w) A (assignInOrder ts us) (Psu C fz X fe G Q) No s
noncomputable abbrev KUL (C : Cx) (fe : Fe) (k : Nat) (ts : List (Value → Sem Unit)) (ds : List D) (Q : Vars → Led → Prop) : Vars → Led → Prop := fun vs' led' => WUL C led' fe vs' k ts ds Q
noncomputable abbrev KAT (C : Cx) (fe : Fe) (vs : Vars) (k : Nat) (e : Expr) (Q : Fl → Vars → Led → Prop) : D → Led → Prop := fun d led1 => WU C led1 fe vs k (PySem.assign e fe.env) d (Q .next)
theorem WUL.nil {Q : Vars → Led → Prop} (h : Q vs led) : WUL C led fe vs k [] [] Q := by
  intro F X hF hd A fz G s us hA S e
  exact wpAny_pure ⟨fz, G, F, vs, led, .refl _, .refl _, hF, hd, S, h⟩
theorem WUL.cons {t : Value → Sem Unit} {ts : List (Value → Sem Unit)} {d : D} {ds : List D} {Q : Vars → Led → Prop} (h : WU C led fe vs k t d (KUL C fe k ts ds Q)) : WUL C led fe vs k (t :: ts) (d :: ds) Q := by
  intro F X hF hd A fz G s us hA S e
  cases e with
  | cons e1 e2 =>
    show wpAny _ _ (holding _ (t _) >>= fun _ => assignInOrder ts _) _ _ s
    refine wpAny_bind (wpAny_holding (chainU (h F X hF hd A fz G s _ hA S e1) fun s1 fz1 G1 F1 vs1 led1 l1 g1 hF1 hd1 S1 q => ?_))
    exact finU (q F1 X hF1 hd1 A fz1 G1 s1 _ hA S1 (e2.mono l1)) l1 g1
theorem WU.tuple {elts : List Expr} {kk : Nat} {pos : Pos} {ds : List D} {Q : Vars → Led → Prop} (h : WUL C led fe vs k ((assignEach elts fe.env).map (·.2)) ds Q) (hn : autoParam ((assignEach elts fe.env).length = ds.length) rflA) (hs : autoParam ((assignEach elts fe.env).findIdx? (·.1) = none) rflA) :
    WU C led fe vs k (PySem.assign (.Tuple elts kk pos) fe.env) (.tup ds) Q := by
  intro F X hF hd A fz G s v hA S e
  obtain ⟨a, us, n, o, rfl, hg, hgc, hgd, hv⟩ := S.frozenTup e
  refine wpAny_assign_Tuple hA.r.1 (items := us.toArray) ⟨_, hg, hgc, n, hgd⟩ (by rw [hn, List.size_toArray, hv.length]) hs fun h' hx => ?_
  have S' := S.ext s.toks (h' := h') fun b o e => hx b o (Nat.ne_of_lt (Heap.lt_size e)) e
  exact h F X hF hd A fz G _ us hA S' hv
theorem WS.assign_tup {elts : List Expr} {kk : Nat} {tpos pos : Pos} {e : Expr} {Q : Fl → Vars → Led → Prop} (h : WE C led fe vs k (eval e fe.env) (KAT C fe vs k (.Tuple elts kk tpos) Q))
    (hs : autoParam (swapsWithSole [.Tuple elts kk tpos] e pos.line fe.env = pure false) rflA) (hw : autoParam (swappedStores [.Tuple elts kk tpos] e fe.env = pure none) rflA) :
    WS C led fe vs k (exec (.Assign [.Tuple elts kk tpos] e pos) fe.env) Q := by
  intro F X hF hd A fz G s hA S
  refine PyProof.Rows.Assign_Tuple (chain (h F X hF hd A fz G s hA S) fun v1 s1 fz1 G1 d1 led1 l1 g1 e1 S1 h1 => ?_) hs hw
  exact chainU (h1 F X hF hd A fz1 G1 s1 v1 hA S1 e1) fun s2 fz2 G2 F2 vs2 led2 l2 g2 hF2 hd2 S2 q => ⟨fz2, G2, F2, vs2, led2, .next, l1.trans l2, g1.trans g2, trivial, hF2, hd2, S2, q⟩
theorem WU.bind {x : Str} {d : D} {Q : Vars → Led → Prop} (h : WU C led fe vs k (storeName fe.env x) d Q) : WU C led fe vs k (bindName fe.env x) d Q :=
  fun F X hF hd A fz G s v hA S e => wpAny_bindName (h F X hF hd A fz G s v hA S e)
/-- two or three names get a display's items, the last one first -/
theorem WS.assign_swap {names : List Str} {elts : List Expr} {kk : Nat} {tpos pos : Pos} {e : Expr} {Q : Fl → Vars → Led → Prop} (h : WE C led fe vs k (eval e fe.env) fun d led1 => ∃ ds, d = .tup ds ∧ ds.length = names.length ∧ WUL C led1 fe vs k (names.reverse.map fun n => bindName fe.env n) ds.reverse fun vs' led2 => Q .next vs' led2)
    (hw : autoParam (swappedStores [.Tuple elts kk tpos] e fe.env = pure (some names)) rflA) (hs : autoParam (swapsWithSole [.Tuple elts kk tpos] e pos.line fe.env = pure false) rflA) :
    WS C led fe vs k (exec (.Assign [.Tuple elts kk tpos] e pos) fe.env) Q := by
  intro F X hF hd A fz G s hA S
  refine PyProof.Rows.Assign_Tuple_swapped (names := names) (chain (h F X hF hd A fz G s hA S) fun v1 s1 fz1 G1 d1 led1 l1 g1 e1 S1 h1 => ?_) hs hw
  obtain ⟨ds, rfl, hl, h1⟩ := h1
  obtain ⟨a, us, n, o, rfl, hg, hgc, hgd, hv⟩ := S1.frozenTup e1
  have hsz : names.length = us.toArray.size := by rw [List.size_toArray, hv.length, hl]
  rw [hsz]
  refine wpAny_unpackItems_tuple hA.r.1 (items := us.toArray) ⟨_, hg, hgc, n, hgd⟩ fun h' hx => ?_
  have S' := S1.ext s1.toks (h' := h') fun b o e => hx b o (Nat.ne_of_lt (Heap.lt_size e)) e
  exact chainU (h1 F X hF hd A fz1 G1 _ us.reverse hA S' hv.reverse) fun s2 fz2 G2 F2 vs2 led2 l2 g2 hF2 hd2 S2 q => ⟨fz2, G2, F2, vs2, led2, .next, l1.trans l2, g1.trans g2, trivial, hF2, hd2, S2, q⟩
end

section
variable {C : Cx} {Y led : Led} {k : Nat}
theorem CallW.new {cl fI : Addr} {mN : Str → Option Value} {oI : Obj} {ds : List D} {Q : D → Led → Prop} (X : GCls C cl mN) (hi : mN "__init__" = some (.ref fI)) (hfo : C.h₀.get? fI = some oI) (hft : ¬ C.tab fI) (hfc : oI.cls = .type "function")
    (h : ∀ x dx, led x = none → led dx = none → dx ≠ x → CallW C Y (upd (upd led x (.obj cl dx)) dx (.ns1 [])) k (.ref fI) (.ref x :: ds) fun d led' => d = .none ∧ Q (.ref x) led') : CallW C Y led (k + 1) (.ref cl) ds Q := by
  intro A fz G s fv vs hA S e1 e2
  induction e1 using Den.refE
  obtain ⟨N, ⟨nm, q, bs, sn, sub, col, dd, k0, k1, k2, k3, k5, hC⟩, hN⟩ := X.at_ S
  have hfo' := S.base _ _ hfo hft
  have S0 := S
  obtain ⟨hh, g, dr, t, os⟩ := s
  refine wpAny_call_obj_init PySem.F.objNew hC hN hi hfo' hfc fun h' x dx M => ?_
  obtain ⟨o, ho, hoc, hod, hdd⟩ := M.inst
  have hdict := M.dict o ho
  have hne : dx ≠ x ∧ h'.Ns1 dx fun _ => none := by
    rcases hdd with ⟨z, _⟩ | ⟨d, z, z1, z2⟩
    · rw [hdict] at z; cases z
    · rw [hdict] at z; cases z; exact ⟨z1, z2⟩
  have S1 : St C fz (upd led x (.obj cl dx)) Y G ⟨h', g, dr, t, os⟩ := S0.newL M.newX (m := .obj cl dx) t M.keeps ⟨o, ho, hoc, hod, hdict, hne.1⟩
  have hdx0 := S0.fresh M.newD
  have S2 : St C fz (upd (upd led x (.obj cl dx)) dx (.ns1 [])) Y G ⟨h', g, dr, t, os⟩ := by
    refine ⟨S1.dj.upd _ hdx0.2, ?_⟩
    rw [Un_upd]
    exact {
      fzIn := S1.rel.fzIn
      ledIn := fun b mm e => by
        by_cases hb : b = dx
        · subst hb; rw [upd_same] at e; cases e; exact ⟨_, hne.2, fun y => trivial⟩
        · rw [upd_ne _ _ hb] at e; exact S1.rel.ledIn b mm e
      apart := fun b o e => by
        by_cases hb : b = dx
        · subst hb; rw [S0.rel.freshF M.newD] at e; cases e
        · rw [upd_ne _ _ hb]; exact S1.rel.apart b o e
      fzt := S1.rel.fzt
      new := fun b mm e => by
        by_cases hb : b = dx
        · subst hb; exact S0.rel.freshB M.newD
        · rw [upd_ne _ _ hb] at e; exact S1.rel.new b mm e
      base := S1.rel.base
      tabs := S1.rel.tabs
      old := S1.rel.old
      os := S1.rel.os
      gens := S1.rel.gens }
  have hA1 : RoomY k (A.under (.builtin "type.__call__" ⟨.ref cl :: vs, []⟩)) Y := by
    refine ⟨⟨hA.r.1, ?_, ?_⟩, ?_⟩
    · show A.depth + 1 + k < 1000; have := hA.r.2.1; lia
    · have := hA.r.2.2
      show (A.under _).units + 20 * k < 9900
      have hu : (A.under (.builtin "type.__call__" ⟨.ref cl :: vs, []⟩)).units = A.units + (1 + 3 * 0) := by
        show A.units + (1 + 3 * Code.frames _) = _
        rw [show Code.frames (.builtin "type.__call__" ⟨.ref cl :: vs, []⟩) = 0 from rfl]
      lia
    · obtain ⟨l, e, q⟩ := hA.fr
      refine ⟨l, ?_, q⟩
      show pushEnvs (Code.builtin "type.__call__" ⟨.ref cl :: vs, []⟩).envs A.frames = some l
      rw [show (Code.builtin "type.__call__" ⟨.ref cl :: vs, []⟩).envs = [] from rfl]
      exact e
  refine wpAny_mono (h x dx (S0.fresh M.newX).1 hdx0.1 hne.1 _ fz G _ (.ref fI) (.ref x :: vs) hA1 S2 (.ref fI) (.cons (.ref x) e2)) (fun r s' p => ?_) fun _ _ z => z.elim
  obtain ⟨fz', G', d, led', l, g', e, S3, rfl, hq⟩ := p
  induction e using Den.noneE
  exact ⟨rfl, fz', G', .ref x, led', l, g', .ref x, S3, hq⟩
theorem KeepOk.cls {cl : Addr} {mN : Str → Option Value} (X : GCls C cl mN) : KeepOk C Y led (.ref cl) := by
  intro A fz G s v Q S e q
  induction e using Den.refE
  obtain ⟨N, ⟨nm, q', bs, sn, sub, col, dd, k0, k1, k2, k3, k5, hC⟩, hN⟩ := X.at_ S
  obtain ⟨hh, g, dr, t, os⟩ := s
  exact wpAny_keeperOf_exc hC (q _)
end
end Sc

namespace Sc

theorem St.move {C : Cx} {fz : Fz} {led Y : Led} {G : Array GenState} {s : Shared} (S : St C fz led Y G s) {I : Addr} {m m' : M} (hI : led I = some m) (hm : MAt fz s.heap I m') : St C fz (del led I) (Un (upd emp I m') Y) G s ∧ Dj (upd emp I m') Y := by
  have hY := S.dj.of_some hI
  have hdj : Dj (upd emp I m') Y := fun a => by
    by_cases h : a = I
    · subst h; exact .inr hY
    · rw [upd_ne _ _ h]; exact .inl rfl
  refine ⟨⟨fun a => ?_, ?_⟩, hdj⟩
  · by_cases h : a = I
    · subst h; left; unfold del; rw [if_pos rfl]
    · rcases S.dj a with q | q
      · left; unfold del; rw [if_neg h]; exact q
      · right; rw [Un_right (by rw [upd_ne _ _ h]; rfl)]; exact q
  · have R := S.rel.upd (a := I) (m₀ := m) (m := m') (Un_left hI) (h' := s.heap) s.toks (fun b o hb e => e) hm
    have e : Un (del led I) (Un (upd emp I m') Y) = upd (Un led Y) I m' := by
      funext a
      by_cases h : a = I
      · subst h
        rw [Un_right (by unfold del; rw [if_pos rfl]), Un_left (upd_same ..), upd_same]
      · rw [upd_ne _ _ h]
        cases hl : led a with
        | some x => rw [Un_left (show del led I a = some x by unfold del; rw [if_neg h]; exact hl), Un_left hl]
        | none => rw [Un_right (show del led I a = none by unfold del; rw [if_neg h]; exact hl), Un_right hl, Un_right (by rw [upd_ne _ _ h]; rfl)]
    rw [e]; exact R

section
variable {C : Cx} {Y led : Led} {k : Nat}
noncomputable abbrev revView (n : Nat) : Addr → Obj := fun l => revObj l ((n : Int) - 1)
theorem CallW.reversed {xs : List D} {Q : D → Led → Prop} (h : ∀ I, led I = none → Q (.itr I [] xs.reverse) (upd led I (.view (revView xs.length) xs))) : CallW C Y led k (.typ "reversed") [.lst xs] Q := by
  intro A fz G s fv vs hA S e1 e2
  induction e1 using Den.typE
  induction e2 using Dens.E1 with | k _ x =>
  cases x with
  | lst ez ed =>
    rename_i a us n
    have hg := S.rel.fzIn _ _ ez
    have ha := get_size s.heap (Nat.le_refl _)
    have hlen := ed.length
    refine call_reversed_list (items := us.toArray) ⟨_, hg, rfl, n, rfl⟩ ?_
    refine ⟨fz, G, .itr _ [] xs.reverse, _, .refl _, .refl _, .itr .., S.newL ha (m := .view (revView xs.length) xs) s.toks (fun b o e => Heap.get?_push_of_some _ e) ⟨a, us, n, ez, ed, ?_⟩, h _ (S.fresh ha).1⟩
    rw [List.size_toArray, hlen]
    exact Heap.get?_push_size _ rfl
theorem IterOf.rev {I : Addr} {xs : List D} (hI : led I = some (.view (revView xs.length) xs)) : IterOf C Y led (.itr I [] xs.reverse) xs.reverse := by
  intro A fz G s v hA S e
  induction e using Den.itrE
  obtain ⟨l, us, n, hz, hd, hg⟩ := S.atL hI
  have hlen := hd.length
  have hL : s.heap.IsList l us.toArray := ⟨_, S.rel.fzIn _ _ hz, rfl, n, rfl⟩
  have hne : l ≠ I := fun q => by subst q; have := S.rel.apart _ _ hz; rw [Un_left hI] at this; cases this
  have hrv : s.heap.IsRevIter I l ((us.toArray.size : Int) - 1 - ((0 : Nat) : Int)) := ⟨_, hg, rfl, by rw [List.size_toArray, hlen]; simp [revObj]⟩
  obtain ⟨S', hdj⟩ := S.move hI (m' := .raw (revView xs.length l)) hg
  refine wpAny_pyIter_revIter hrv ⟨fz, I, [I], upd emp I (.raw (revView xs.length l)), (fun i h => i ≤ us.toArray.size ∧ h.IsRevIter I l ((us.toArray.size : Int) - 1 - (i : Int)) ∧ h.IsList l us.toArray), rfl, .refl _, ⟨⟨[I, l], (fun i v => us.toArray[us.toArray.size - 1 - i]? = some v), fun A hA => ?_, fun i v d p q => ?_, fun b hb hn => ?_⟩, fun i h b st hb => ?_⟩, one_raw hg, hdj, ⟨Nat.zero_le _, hrv, hL⟩, S'⟩
  · have hn : xs.reverse.length = us.toArray.size := by rw [List.length_reverse, List.size_toArray, hlen]
    rw [hn]
    exact Walks.listRev (A := A) hA I l hne us.toArray
  · rw [List.size_toArray] at p
    have hi : i < xs.length := by
      have := (List.getElem?_eq_some_iff.mp q).1
      rwa [List.length_reverse] at this
    rw [List.getElem?_reverse hi] at q
    rw [hlen] at p
    obtain ⟨v', e1, e2⟩ := hd.get q
    rw [List.getElem?_toArray, e1] at p
    cases p; exact e2
  · rcases List.mem_cons.mp hb with rfl | hb
    · exact absurd (List.mem_singleton.mpr rfl) hn
    · rcases List.mem_cons.mp hb with rfl | hb
      · exact ⟨_, hz⟩
      · cases hb
  · rw [List.mem_singleton] at hb
    subst hb
    have st' : i ≤ us.toArray.size ∧ h.IsRevIter b l ((us.toArray.size : Int) - 1 - (i : Int)) ∧ h.IsList l us.toArray := st
    obtain ⟨_, ⟨o, ho, _⟩, _⟩ := st'
    exact ⟨o, ho⟩

/-- an item is written -/
noncomputable def SetIW (C : Cx) (Y led : Led) (od i d : D) (K : Led → Prop) : Prop :=
  ∀ A fz G s v iv u, Room 0 A → St C fz led Y G s → Den fz v od → Den fz iv i → Den fz u d → wpAny (model C.prog C.w) A (setItem v iv u) (fun _ s' => ∃ fz' G' led', FzLe fz fz' ∧ GExt G G' ∧ St C fz' led' Y G' s' ∧ K led') No s
theorem SetIW.ref {a : Addr} {xs : List D} {i : Int} {d : D} {K : Led → Prop} (ha : led a = some (.list xs)) (h0 : 0 ≤ i) (hi : i.toNat < xs.length) (hsz : xs.length ≤ 1000000) (h : K (upd led a (.list (xs.set i.toNat d)))) : SetIW C Y led (.ref a) (.int i) d K := by
  intro A fz G s v iv u hA S e1 e2 e3
  induction e1 using Den.refE; induction e2 using Den.intE
  obtain ⟨us, n, ho, hd⟩ := S.listAt ha
  have hlen := hd.length
  have hl : s.heap.IsList a us.toArray := ⟨_, ho, rfl, n, rfl⟩
  unfold setItem
  try with_reducible refine wpAny_holding ?_
  first | refine wpAny_bind (wpAny_pure ?_) | skip
  refine wpAny_bind (wpAny_sequenceKey hl.typeIs (by decide) ?_)
  refine wpAny_bind (wpAny_callSpecial?_slot (name := Str.ofString "__setitem__") hl.typeIs slot_list_setitem
    (wpAny_call_entry slot_list_setitem hl.typeIs entry_list_setitem ?_ (args_list_setitem _ _ _)))
  refine (?_ : wpAny _ _ (Builtin.List.listSubscript? (.int i _) >>= _) _ _ s)
  refine wpAny_bind (wpAny_listSubscript_int (fitsIndex_of h0 (by lia)) ?_)
  obtain ⟨j, rfl⟩ := Int.eq_ofNat_of_zero_le h0
  have hj : j < us.toArray.size := by rw [List.size_toArray, hlen]; exact hi
  have hx' : us.toArray[j]? = some us.toArray[j] := Array.getElem?_eq_getElem hj
  refine (?_ : wpAny _ _ ((seqItemAt a j >>= fun r => pure (r.map (j, ·))) >>= _) _ _ s)
  refine wpAny_bind (wpAny_bind (wpAny_seqItemAt ho rfl (wpAny_pure ?_)))
  rw [hx']
  refine (?_ : wpAny _ _ (setSeqItemAt a j u >>= _) _ _ s)
  have S' := S.setL ha ho (f := (·.setIfInBounds j u)) (ws := us.set j u) (ys := xs.set j d) (by simp) (Dens.set e3 j hd) s.toks
  refine wpAny_bind (wpAny_setSeqItemAt ho rfl ?_)
  have fin : ∃ fz' G' led', FzLe fz fz' ∧ GExt G G' ∧ St C fz' led' Y G' { s with heap := s.heap.update a (Obj.mapSeq (·.setIfInBounds j u)) } ∧ K led' := ⟨fz, G, _, .refl _, .refl _, S', h⟩
  first
    | exact wpAny_bind (wpAny_pure (wpAny_pure ⟨.none, rfl, wpAny_pure fin⟩))
    | exact wpAny_pure ⟨.none, rfl, wpAny_pure fin⟩
end
section
variable {C : Cx} {led : Led} {fe : Fe} {vs : Vars} {k : Nat}
noncomputable abbrev KSS3 (C : Cx) (vs : Vars) (k : Nat) (Q : Fl → Vars → Led → Prop) (d od : D) : D → Led → Prop := fun id led3 => ∀ Y, SetIW C Y led3 od id d (Q .next vs)
noncomputable abbrev KSS2 (C : Cx) (fe : Fe) (vs : Vars) (k : Nat) (i : Expr) (Q : Fl → Vars → Led → Prop) (d : D) : D → Led → Prop := fun od led2 => WE C led2 fe vs k (eval i fe.env) (KSS3 C vs k Q d od)
noncomputable abbrev KSS1 (C : Cx) (fe : Fe) (vs : Vars) (k : Nat) (o i : Expr) (Q : Fl → Vars → Led → Prop) : D → Led → Prop := fun d led1 => WE C led1 fe vs k (eval o fe.env) (KSS2 C fe vs k i Q d)
inductive KFrz (Q : D → Led → Prop) (d : D) (led1 : Led) : Prop
  | mk (a : Addr) (xs : List D) : d = .ref a → led1 a = some (.list xs) → Q (.lst xs) (del led1 a) → KFrz Q d led1
noncomputable abbrev KM12 (C : Cx) (k : Nat) (Q : D → Led → Prop) (f x : D) : List D → Led → Prop := fun ds led2 => ∀ Y, KCal C Y led2 k f (x :: ds) Q
inductive KM1 (C : Cx) (fe : Fe) (vs : Vars) (k : Nat) (pos : Pos) (name : Str) (args : List Expr) (Q : D → Led → Prop) (d : D) (led1 : Led) : Prop
  | mk (f x : D) : (∀ Y, GetM C Y led1 d name f [x]) → WL C led1 fe vs k (spliced (backTo pos (starEach args fe.env))) (KM12 C k Q f x) → KM1 C fe vs k pos name args Q d led1
inductive KM0 (C : Cx) (fe : Fe) (vs : Vars) (k : Nat) (pos : Pos) (name : Str) (args : List Expr) (Q : D → Led → Prop) (d : D) (led1 : Led) : Prop
  | mk (f : D) : (∀ Y, GetM C Y led1 d name f []) → WL C led1 fe vs k (spliced (backTo pos (starEach args fe.env))) (KCall2 C k Q f) → KM0 C fe vs k pos name args Q d led1
theorem WS.assign_sub {o i e : Expr} {px pos : Pos} {Q : Fl → Vars → Led → Prop} (h : WE C led fe vs k (eval e fe.env) (KSS1 C fe vs k o i Q))
    (hs : autoParam (swapsWith e (some (.Subscript o i px)) pos.line fe.env = pure false) rflA) : WS C led fe vs k (exec (.Assign [.Subscript o i px] e pos) fe.env) Q := by
  intro F X hF hd A fz G s hA S
  refine wpAny_Assign_Subscript (chain (h F X hF hd A fz G s hA S) fun v1 s1 fz1 G1 d1 led1 l1 g1 e1 S1 h1 => ?_) hs
  refine chain (h1 F X hF hd A fz1 G1 s1 hA S1) fun v2 s2 fz2 G2 d2 led2 l2 g2 e2 S2 h2 => ?_
  refine chain (h2 F X hF hd A fz2 G2 s2 hA S2) fun v3 s3 fz3 G3 d3 led3 l3 g3 e3 S3 h3 => ?_
  refine wpAny_mono (h3 _ A fz3 G3 s3 v2 v3 v1 (hA.r.mono (Nat.zero_le _)) S3 (e2.mono l3) e3 ((e1.mono l2).mono l3)) (fun _ s4 p => ?_) fun _ _ x => x.elim
  obtain ⟨fz4, G4, led4, l4, g4, S4, q⟩ := p
  exact ⟨fz4, G4, F, vs, led4, .next, ((l1.trans l2).trans l3).trans l4, ((g1.trans g2).trans g3).trans g4, trivial, hF, hd, S4, q⟩
theorem St.freezeL {fz : Fz} {Y : Led} {G : Array GenState} {s : Shared} (S : St C fz led Y G s) {a : Addr} {xs : List D} (ha : led a = some (.list xs)) : ∃ fz', FzLe fz fz' ∧ Den fz' (.ref a) (.lst xs) ∧ St C fz' (del led a) Y G s := by
  obtain ⟨fz', l, e, R⟩ := S.rel.freeze (Un_left ha)
  refine ⟨fz', l, e, S.dj.del a, ?_⟩
  rw [Un_del _ _ _ (S.dj.of_some ha)]; exact R
/-- a list is written no more -/
theorem WE.frz {t : Sem Value} {Q : D → Led → Prop} (h : WE C led fe vs k t (KFrz Q)) : WE C led fe vs k t Q := by
  intro F X hF hd A fz G s hA S
  refine chain (h F X hF hd A fz G s hA S) fun v1 s1 fz1 G1 d1 led1 l1 g1 e1 S1 h1 => ?_
  obtain ⟨a, xs, rfl, ha, q⟩ := h1
  induction e1 using Den.refE
  obtain ⟨fz', l, e, S'⟩ := S1.freezeL ha
  exact ⟨fz', G1, _, _, l1.trans l, g1, e, S', q⟩
theorem CallW.frz {Y : Led} {f : D} {ds : List D} {Q : D → Led → Prop} (h : CallW C Y led k f ds (KFrz Q)) : CallW C Y led k f ds Q := by
  intro A fz G s fv us hA S e1 e2
  refine chain (h A fz G s fv us hA S e1 e2) fun v1 s1 fz1 G1 d1 led1 l1 g1 e3 S1 h1 => ?_
  obtain ⟨a, xs, rfl, ha, q⟩ := h1
  induction e3 using Den.refE
  obtain ⟨fz', l, e, S'⟩ := S1.freezeL ha
  exact ⟨fz', G1, _, _, l1.trans l, g1, e, S', q⟩
theorem WE.m1 {o : Expr} {name : Str} {args : List Expr} {apos pos : Pos} {Q : D → Led → Prop} {pl : Sem Bool}
    (h : WE C led fe vs k (eval o fe.env) (KM1 C fe vs k pos name args Q))
    (ok : autoParam (MetOk o name args apos pos pl fe) autA) :
    WE C led fe vs k (eval (.Call (.Attribute o name apos) args [] pos) fe.env) Q :=
  WE.mcallY (pl := pl) (h.mono fun d led1 ⟨f, x, a, b⟩ => ⟨f, [x], a, b.mono fun _ _ q Y => ⟨(q Y).1, (q Y).2⟩⟩) ok
theorem WE.m0 {o : Expr} {name : Str} {args : List Expr} {apos pos : Pos} {Q : D → Led → Prop} {pl : Sem Bool}
    (h : WE C led fe vs k (eval o fe.env) (KM0 C fe vs k pos name args Q))
    (ok : autoParam (MetOk o name args apos pos pl fe) autA) :
    WE C led fe vs k (eval (.Call (.Attribute o name apos) args [] pos) fe.env) Q :=
  WE.mcallY (pl := pl) (h.mono fun d led1 ⟨f, a, b⟩ => ⟨f, [], a, b.mono fun _ _ q Y => ⟨(q Y).1, (q Y).2⟩⟩) ok
end
end Sc

namespace Sc
set_option tactic.hygienic false
section
variable {C : Cx} {led : Led} {fe : Fe} {vs : Vars} {k : Nat}
theorem Sub.refl' : ∀ {vs vs' : Vars}, (∀ x d, vs.lookup x = some d → vs'.lookup x = some d) → (vs.map (·.1)).Nodup → Sub vs vs'
  | [], _, _, _ => trivial
  | (x, d) :: r, vs', h, hn => by
    have hx_0 := List.nodup_cons.mp hn; have h1 := hx_0.1; have h2 := hx_0.2
    refine ⟨h x d (by rw [List.lookup_cons_self]), Sub.refl' (fun y e he => h y e ?_) h2⟩
    rw [List.lookup_cons]
    by_cases hy : y = x
    · subst hy; exact absurd (List.mem_map.mpr ⟨_, mem_of_lookup he, rfl⟩) h1
    · rw [beq_eq_false_iff_ne.mpr hy]; exact he
/-- a comprehension of one clause whose turns leave all as it is -/
structure KCV (outs : List (Option D)) (i : Nat) (led0 : Led) (e : D) (led5 : Led) : Prop where
  o : outs[i]? = some (some e)
  l : led5 = led0
structure KCN (outs : List (Option D)) (i : Nat) (led0 led4 : Led) : Prop where
  o : outs[i]? = some none
  l : led4 = led0
structure KCI (C : Cx) (fe : Fe) (vs : Vars) (k : Nat) (elt : Expr) (outs : List (Option D)) (i : Nat) (led0 : Led) (ok : Bool) (led4 : Led) : Prop where
  t : ok = true → WE C led4 fe vs k (eval elt fe.env) (KCV outs i led0)
  f : ok = false → KCN outs i led0 led4
structure KCT (C : Cx) (fe : Fe) (k : Nat) (elt : Expr) (ifs : List Expr) (vs0 : Vars) (outs : List (Option D)) (i : Nat) (led0 : Led) (vs3 : Vars) (led3 : Led) : Prop where
  s : Sub vs0 vs3
  w : WB C led3 fe vs3 k (testsT ifs fe.env) (KCI C fe vs3 k elt outs i led0)
noncomputable abbrev KCB (C : Cx) (fe : Fe) (k : Nat) (elt target : Expr) (ifs : List Expr) (scope : Scope) (vs0 : Vars) (items : List D) (outs : List (Option D)) (led0 : Led) : Prop :=
  ∀ (L : Addr) (cs : List (Str × Addr)) (i : Nat) (x : D), items[i]? = some x → WU C led0 (compFe scope L cs fe) vs0 k (PySem.assign target (compFe scope L cs fe).env) x (KCT C (compFe scope L cs fe) k elt ifs vs0 outs i led0)
inductive KComp (C : Cx) (fe : Fe) (k : Nat) (elt target : Expr) (ifs : List Expr) (scope : Scope) (vs0 : Vars) (R : List D → Led → Prop) (d : D) (led1 : Led) : Prop
  | mk (items : List D) (outs : List (Option D)) : (∀ Y, IterOf C Y led1 d items) → items.length ≤ 1000000 → outs.length = items.length → KCB C fe k elt target ifs scope vs0 items outs (itl led1 d) → R (outs.filterMap id) (itl led1 d) → KComp C fe k elt target ifs scope vs0 R d led1
inductive KCompT (C : Cx) (fe : Fe) (k : Nat) (elt target : Expr) (ifs : List Expr) (scope : Scope) (vs0 : Vars) (R : List D → Led → Prop) (d : D) (led1 : Led) : Prop
  | mk (items : List D) (outs : List (Option D)) : (∀ Y, IterOfT C Y led1 target d items) → items.length ≤ 1000000 → outs.length = items.length → KCB C fe k elt target ifs scope vs0 items outs (itl led1 d) → R (outs.filterMap id) (itl led1 d) → KCompT C fe k elt target ifs scope vs0 R d led1
structure CompV (scope : Scope) (vs vs0 : Vars) (fe : Fe) (iter : Expr) : Prop where
  v : fvOf scope vs = vs0
  vn : decide (vs0.map (·.1)).Nodup = true
  ok : CompOk scope vs fe iter
theorem KCompT.lc {elt target iter : Expr} {ifs : List Expr} {scope : Scope} {pos : Pos} {vs0 : Vars} {R : List D → Led → Prop} {d : D} {led1 : Led} (hv : fvOf scope vs = vs0) (hvn : decide (vs0.map (·.1)).Nodup = true) (h : KCompT C fe k elt target ifs scope vs0 R d led1) :
    KLCT C fe vs k elt target ifs [⟨target, iter, ifs, 0⟩] scope pos R d led1 := by
  obtain ⟨items, outs, a, hl, ho, b, c⟩ := h
  refine ⟨items, fun i vs' led' acc => vs' = vs0 ∧ led' = itl led1 d ∧ acc = (outs.take i).filterMap id ∧ i ≤ items.length, a, ⟨vs0, ?_, rfl, rfl, rfl, Nat.zero_le _⟩, ?_, ?_⟩
  · rw [hv]; exact Sub.refl' (fun _ _ e => e) (of_decide_eq_true hvn)
  · rintro L cs Da i x vs2 led2 acc2 hx ⟨rfl, rfl, rfl, hi⟩
    have hil : i < items.length := (List.getElem?_eq_some_iff.mp hx).1
    refine (b L cs i x hx).mono fun vs3 led3 ⟨hsub, w⟩ => w.mono fun ok led4 ⟨w1, w2⟩ => ⟨fun hok => ?_, fun hok => ?_⟩
    · refine WC.last rfl ((w1 hok).mono fun e led5 ⟨q1, q2⟩ => ⟨?_, vs2, hsub, rfl, q2, ?_, hil⟩)
      · exact Nat.le_trans (List.length_filterMap_le _ _) (by rw [List.length_take]; lia)
      · rw [List.take_add_one, q1, Option.toList_some, List.filterMap_append]; rfl
    · have hx_2 := w2 hok; have q1 := hx_2.1; have q2 := hx_2.2
      refine ⟨vs2, hsub, rfl, q2, ?_, hil⟩
      rw [List.take_add_one, q1, Option.toList_some, List.filterMap_append]; simp
  · rintro vs2 led2 acc2 ⟨rfl, rfl, rfl, _⟩
    rw [← ho, List.take_length]; exact c
theorem WE.compT {elt target iter : Expr} {ifs : List Expr} {scope : Scope} {pos : Pos} {Q : D → Led → Prop} (vs0 : Vars)
    (h : WE C led fe vs k (eval iter fe.env) (KCompT C fe k elt target ifs scope vs0 (KLs Q)))
    (ok : autoParam (CompV scope vs vs0 fe iter) autA) :
    WE C led fe vs k (eval (.ListComp elt [⟨target, iter, ifs, 0⟩] scope pos) fe.env) Q :=
  WE.listcompT (h.mono fun d led1 q => q.lc ok.v ok.vn) ok.ok (fun g hg => by cases hg)
/-- a comprehension of one clause whose turns leave all as it is -/
theorem WE.comp {elt target iter : Expr} {ifs : List Expr} {scope : Scope} {pos : Pos} {Q : D → Led → Prop} (vs0 : Vars)
    (h : WE C led fe vs k (eval iter fe.env) (KComp C fe k elt target ifs scope vs0 (KLs Q)))
    (ok : autoParam (CompV scope vs vs0 fe iter) autA)
    (ht : autoParam (∀ it v, letOwnedTupleGo target it v = pure ()) autA) :
    WE C led fe vs k (eval (.ListComp elt [⟨target, iter, ifs, 0⟩] scope pos) fe.env) Q :=
  WE.compT vs0 (h.mono fun d led1 ⟨items, outs, a, b, c, e, r⟩ => ⟨items, outs, fun Y => (a Y).toT ht, b, c, e, r⟩) ok
end
end Sc

namespace Sc
set_option tactic.hygienic false
/-- the end of a tuple -/
theorem SliceW.tup_from {C : Cx} {Y led : Led} {xs : List D} {a : Nat} {Q : D → Led → Prop} (h1 : 1 ≤ a) (ha : a ≤ xs.length) (hl : xs.length ≤ 1000000) (h : Q (.tup (xs.drop a)) led) : SliceW C Y led (.tup xs) (some (a : Int)) none none Q := by
  intro A fz G s v sl vl vu vk hA S e1 hs pl pu pk value slice
  obtain ⟨t, vs, n, o, rfl, hg, hgc, hgd, hd⟩ := S.frozenTup e1
  cases pl; cases pu; cases pk
  have hT : IsTup s.heap t vs.toArray := ⟨_, hg, hgc, n, hgd⟩
  have hle := hd.length
  have hz0 := get_size s.heap (Nat.le_refl _)
  have hz := S.rel.freshF hz0
  refine sub_tail hT.typeIs slot_tuple_getitem.lookup (getItem_tuple_from hT hs h1 (by rw [List.size_toArray, hle]; exact ha) ?_ (by rw [List.size_toArray, hle]; exact Nat.le_trans hl (by decide)))
  exact ⟨_, G, .tup (xs.drop a), led, fzPut_le hz, .refl _, .tup (n := 0) (fzPut_same ..) rfl rfl ((hd.drop a).mono (fzPut_le hz)),
    ⟨S.dj, S.rel.allocF hz0 s.toks (fun b o e => Heap.get?_push_of_some _ e) (Heap.get?_push_size _ rfl)⟩, h⟩
end Sc

namespace Sc
/-- what is there and known nowhere becomes frozen -/
theorem Rel.addF {C : Cx} {fz : Fz} {T : Led} {G : Array GenState} {s : Shared} (R : Rel C fz T G s) {a : Addr} {o : Obj} (hT : T a = none) (hz : fz a = none) (h0 : C.h₀.get? a = none) (ho : s.heap.get? a = some o) : Rel C (fzPut fz a o) T G s where
  fzIn := fun b p e => by
    unfold fzPut at e; split at e
    · rename_i q; subst q; cases e; exact ho
    · exact R.fzIn b p e
  ledIn := fun b m' e => (R.ledIn b m' e).mono (fzPut_le hz)
  apart := fun b p e => by
    unfold fzPut at e; split at e
    · rename_i q; subst q; exact hT
    · exact R.apart b p e
  fzt := fun b p e => by
    unfold fzPut at e; split at e
    · rename_i q; subst q; rintro ⟨c, hc⟩
      obtain ⟨ps, _, e2⟩ := C.tabIs c _ hc
      rw [h0] at e2; cases e2
    · exact R.fzt b p e
  new := R.new
  base := R.base
  tabs := fun c P e => (R.tabs c P e).mono (fzPut_le hz)
  old := R.old
  os := R.os
  gens := R.gens
/-- what is there and known nowhere comes into the ledger -/
theorem St.addL {C : Cx} {fz : Fz} {led Y : Led} {G : Array GenState} {s : Shared} (S : St C fz led Y G s) {a : Addr} {m : M} (hY : Y a = none) (hz : fz a = none) (h0 : C.h₀.get? a = none) (hm : MAt fz s.heap a m) : St C fz (upd led a m) Y G s := by
  refine ⟨S.dj.upd _ hY, ?_⟩
  rw [Un_upd]
  exact {
    fzIn := S.rel.fzIn
    ledIn := fun b mm e => by
      by_cases hb : b = a
      · subst hb; rw [upd_same] at e; cases e; exact hm
      · rw [upd_ne _ _ hb] at e; exact S.rel.ledIn b mm e
    apart := fun b o e => by
      by_cases hb : b = a
      · subst hb; rw [hz] at e; cases e
      · rw [upd_ne _ _ hb]; exact S.rel.apart b o e
    fzt := S.rel.fzt
    new := fun b mm e => by
      by_cases hb : b = a
      · subst hb; exact h0
      · rw [upd_ne _ _ hb] at e; exact S.rel.new b mm e
    base := S.rel.base
    tabs := S.rel.tabs
    old := S.rel.old
    os := S.rel.os
    gens := S.rel.gens }
noncomputable def enumItems (xs : List D) : List D := (List.range xs.length).map fun (i : Nat) => .tup [.int (i : Int), xs.getD i .none]
theorem enumItems_length (xs : List D) : (enumItems xs).length = xs.length := by simp [enumItems]
theorem enumItems_get {xs : List D} {i : Nat} {d : D} (h : xs[i]? = some d) : (enumItems xs)[i]? = some (.tup [.int (i : Int), d]) := by
  have hi := (List.getElem?_eq_some_iff.mp h).1
  unfold enumItems
  rw [List.getElem?_map, List.getElem?_range hi]
  simp only [Option.map_some]
  rw [List.getD_eq_getElem?_getD, h]; rfl
noncomputable abbrev enumObj (it : Addr) : Obj := { cls := .type "enumerate", data := .fields #[.none, .bool false, .ref it, rawInt 0, .none, .none] }
section
variable {C : Cx} {Y led : Led} {k : Nat}
theorem CallW.enumerate {xs : List D} {Q : D → Led → Prop} (h : ∀ e it, e ≠ it → led e = none → led it = none → Q (.itr e [it] (enumItems xs)) (upd (upd led it (.lit 0 xs)) e (.raw (enumObj it)))) : CallW C Y led k (.typ "enumerate") [.lst xs] Q := by
  intro A fz G s fv vs hA S e1 e2
  induction e1 using Den.typE
  induction e2 using Dens.E1 with | k _ x =>
  cases x with
  | lst ez ed =>
    rename_i a us n
    have hg := S.rel.fzIn _ _ ez
    have ha := get_size s.heap (Nat.le_refl _)
    have hb := get_size s.heap (Nat.le_succ s.heap.objs.size)
    refine call_enumerate_1 hg fun h' he hit hsz hk => ?_
    have S1 := S.newL ha (m := .lit 0 xs) (h' := h') s.toks hk ⟨a, us, n, ez, ed, hit⟩
    have hne : s.heap.objs.size + 1 ≠ s.heap.objs.size := Nat.succ_ne_self _
    have S2 := S1.addL (a := s.heap.objs.size + 1) (m := .raw (enumObj s.heap.objs.size)) (S.fresh hb).2 (S.rel.freshF hb) (S.rel.freshB hb) he
    exact ⟨fz, G, _, _, .refl _, .refl _, .itr _ _ _, S2, h _ _ hne (S.fresh hb).1 (S.fresh ha).1⟩
theorem IterOfT.enum {e it : Addr} {xs : List D} {elts : List Expr} {kk : Nat} {pos : Pos} (he : led e = some (.raw (enumObj it))) (hi : led it = some (.lit 0 xs)) (hne : e ≠ it) : IterOfT C Y led (.Tuple elts kk pos) (.itr e [it] (enumItems xs)) (enumItems xs) := by
  intro A fz G s v hA S ev
  induction ev using Den.itrE
  obtain ⟨l, us, n, hz, hd, oit, hit, hitc, hitd⟩ := S.atL hi
  have hen : s.heap.get? e = some (enumObj it) := S.atL he
  have hL : s.heap.IsList l us.toArray := ⟨_, S.rel.fzIn _ _ hz, rfl, n, rfl⟩
  have hlen : (enumItems xs).length = us.toArray.size := by rw [enumItems_length, List.size_toArray, hd.length]
  have hle : l ≠ e := fun q => by subst q; have := S.rel.apart _ _ hz; rw [Un_left he] at this; cases this
  have hli : l ≠ it := fun q => by subst q; have := S.rel.apart _ _ hz; rw [Un_left hi] at this; cases this
  refine wpAny_pyIter_enum (it := it) (i := 0) (old := .none) hen ?_
  obtain ⟨S1, d1⟩ := S.move he (m' := .raw (enumObj it)) hen
  have hi1 : del led e it = some (.lit 0 xs) := by unfold del; rw [if_neg (Ne.symm hne)]; exact hi
  obtain ⟨S2, d2⟩ := S1.move hi1 (m' := .raw (oit)) hit
  have hR : Un (upd emp it (.raw oit)) (Un (upd emp e (.raw (enumObj it))) Y) = Un (upd (upd emp e (.raw (enumObj it))) it (.raw oit)) Y := by
    rw [Un_upd, Un_emp, Un_upd (upd emp e _)]
  rw [hR] at S2
  have hraw : Raws [e, it] (upd (upd emp e (.raw (enumObj it))) it (.raw oit)) := by
    refine ⟨fun b hb => ?_, fun b hb => ?_⟩
    · rcases List.mem_cons.mp hb with rfl | hb
      · exact ⟨_, by rw [upd_ne _ _ hne, upd_same]⟩
      · rcases List.mem_cons.mp hb with rfl | hb
        · exact ⟨_, upd_same ..⟩
        · cases hb
    · simp only [List.mem_cons, List.not_mem_nil, or_false, not_or] at hb
      rw [upd_ne _ _ hb.2, upd_ne _ _ hb.1]; rfl
  have hdj : Dj (upd (upd emp e (.raw (enumObj it))) it (.raw oit)) Y := fun a => by
    by_cases h1 : a = it
    · subst h1; exact .inr (S.dj.of_some hi)
    · rw [upd_ne _ _ h1]; exact d1 a
  refine ⟨fz, e, [e, it], _, (fun i h => (∃ old, IsEnum h e it i old) ∧ h.IsListIter it l i ∧ h.IsList l us.toArray), rfl, .refl _, ⟨?_, ?_, ?_⟩, hraw, hdj, ⟨⟨.none, hen⟩, ⟨_, hit, hitc, hitd⟩, hL⟩, ?_⟩
  · -- a step
    intro A' fz' led' Y' R G' s' i hA' lz hR' hdR S' hst hi' Q E h1 h2
    have W := WalksT.enumerate (prog := C.prog) (w := C.w) hA' e it l hne hle hli us.toArray
    by_cases hlt : i < us.toArray.size
    · refine W.item i s' _ E hlt hst fun T vals h' tk hP hsz hT hm hk => ?_
      obtain ⟨t, x, hx, rfl⟩ := hP
      refine W.go elts kk pos i T _ _ E hm fun hh hst2 hk2 => ?_
      have hkk : ∀ b o, b ∉ [e, it] → s'.heap.get? b = some o → hh.get? b = some o := fun b o hb q => hk2 b o hb (hk b o hb q)
      have hTwr := W.apart i T h' hm
      obtain ⟨oT, hoT, hcT, nT, hdT⟩ := hT
      have hTh : hh.get? T = some oT := hk2 T oT hTwr hoT
      have hTs : s'.heap.get? T = none := get_size _ hsz
      obtain ⟨R', hR'2, hr⟩ := raws_of hh [e, it] (fun b hb => by
        obtain ⟨⟨old, q1⟩, ⟨o2, q2, _⟩, _⟩ := hst2
        rcases List.mem_cons.mp hb with rfl | hb
        · exact ⟨_, q1⟩
        · rcases List.mem_cons.mp hb with rfl | hb
          · exact ⟨_, q2⟩
          · cases hb)
      have dom : Dj R' Y' := fun a => by
        by_cases ha : a ∈ [e, it]
        · obtain ⟨o, q⟩ := hR'.here a ha; exact .inr (hdR.of_some q)
        · exact .inl (hR'2.not a ha)
      have Rm : Rel C fz' (Un led' (Un R' Y')) G' { s' with heap := hh, toks := tk } := by
        refine S'.rel.many tk (· ∈ [e, it]) (fun b hb => ?_) hkk (fun b hb => ?_) fun b m hb q => ?_
        · obtain ⟨o, z⟩ := hR'.here b hb
          have hl : led' b = none := (S'.dj b).resolve_right (by rw [Un_left z]; exact Option.some_ne_none _)
          exact ⟨_, by rw [Un_right hl, Un_left z]⟩
        · cases hl : led' b with
          | some m => rw [Un_left hl, Un_left hl]
          | none => rw [Un_right hl, Un_right hl, Un_right (hR'2.not b hb), Un_right (hR'.not b hb)]
        · obtain ⟨o, z⟩ := hR'.here b hb
          have hl : led' b = none := (S'.dj b).resolve_right (by rw [Un_left z]; exact Option.some_ne_none _)
          obtain ⟨o', z'⟩ := hR'2.here b hb
          rw [Un_right hl, Un_left z'] at q
          cases q
          obtain ⟨o'', q1, q2⟩ := hr b _ z'
          cases q1; exact q2
      have hTn := S'.rel.freshT hTs
      have hTn2 : Un led' (Un R' Y') T = none := by
        have hx_8 := Un_none.mp hTn; have a1 := hx_8.1; have a2 := hx_8.2
        exact Un_none.mpr ⟨a1, Un_none.mpr ⟨hR'2.not T hTwr, (Un_none.mp a2).2⟩⟩
      have hzT := S'.rel.freshF hTs
      obtain ⟨d, q1, q2⟩ := hd.get' (i := i) (v := x) (by simpa using hx)
      refine h1 (.ref T) (.tup [.int (i : Int), d]) R' _ (fzPut fz' T oT) (enumItems_get q1) (fzPut_le hzT) ?_ hR'2 dom ⟨fun a => ?_, Rm.addF hTn2 hzT (S'.rel.freshB hTs) hTh⟩ hst2
      · exact .tup (vs := [.int i t, x]) (n := nT) (fzPut_same ..) hcT (by rw [hdT]) (.cons (.int ..) (.cons ((q2.mono lz).mono (fzPut_le hzT)) .nil))
      · rcases S'.dj a with q | q
        · exact .inl q
        · by_cases ha : a ∈ [e, it]
          · obtain ⟨o, z⟩ := hR'.here a ha
            rw [Un_left z] at q; cases q
          · exact .inr (Un_none.mpr ⟨hR'2.not a ha, (Un_none.mp q).2⟩)
    · have hie : i = us.toArray.size := by rw [hlen] at hi'; lia
      subst hie
      refine W.done s' _ E hst fun h' tk hk => h2 _ hlen.symm ⟨S'.dj.right, ?_⟩
      refine S'.rel.many (T' := Un led' Y') (h' := h') tk (· ∈ [e, it]) (fun b hb => ?_) hk (fun b hb => ?_) fun b m hb q => ?_
      · obtain ⟨o, z⟩ := hR'.here b hb
        have hl : led' b = none := (S'.dj b).resolve_right (by rw [Un_left z]; exact Option.some_ne_none _)
        exact ⟨_, by rw [Un_right hl, Un_left z]⟩
      · cases hl : led' b with
        | some m => rw [Un_left hl, Un_left hl]
        | none => rw [Un_right hl, Un_right hl, Un_right (hR'.not b hb)]
      · obtain ⟨o, z⟩ := hR'.here b hb
        have hl : led' b = none := (S'.dj b).resolve_right (by rw [Un_left z]; exact Option.some_ne_none _)
        rw [Un_right hl, hdR.of_some z] at q; cases q
  · intro fz1 fz2 led' led'' Y1 Y2 R G1 G2 s1 s2 i l1 l2 hR' hY hY' S' S'' hst
    have W := WalksT.enumerate (prog := C.prog) (w := C.w) (A := {}) rfl e it l hne hle hli us.toArray
    refine W.frame i _ _ hst fun b hb o q => ?_
    by_cases hw : b ∈ [e, it]
    · obtain ⟨o', z⟩ := hR'.here b hw
      have a1 : s1.heap.get? b = some o' := S'.at (hY _ _ z)
      have a2 : s2.heap.get? b = some o' := S''.at (hY' _ _ z)
      rw [a1] at q; cases q; exact a2
    · have hbl : b = l := by simp at hb hw; rcases hb with h | h | h <;> first | exact h | exact absurd h hw.1 | exact absurd h hw.2
      subst hbl
      have a1 := S'.rel.fzIn _ _ (l1 _ _ hz)
      have a2 := S''.rel.fzIn _ _ (l2 _ _ (l1 _ _ hz))
      rw [a1] at q; cases q; exact a2
  · intro A' s' i Q E hA' hst hq
    obtain ⟨⟨old, hq1⟩, _⟩ := hst
    exact wpAny_pyIter_enum hq1 hq
  · exact S2
end
end Sc

namespace Sc
set_option tactic.hygienic false
section
variable {C : Cx} {led : Led} {fe : Fe} {vs : Vars} {k : Nat}
/-- a comprehension of one clause whose turns leave all as it is, stored at once -/
theorem WS.set_compT {elt target iter : Expr} {ifs : List Expr} {scope : Scope} {pos pos' pos2 : Pos} {x : Str} {Q : Fl → Vars → Led → Prop} (vs0 : Vars)
    (h : WE C led fe vs k (eval iter fe.env) (KCompT C fe k elt target ifs scope vs0 (KSt vs x Q)))
    (hx : autoParam ((fe.env.kindOf x == some .local || (fe.env.kindOf x == some .cell && fe.ow.contains x)) = true) rflA)
    (hsw : autoParam (swapsWith (.ListComp elt [⟨target, iter, ifs, 0⟩] scope pos) (some (.Name x pos')) pos2.line fe.env = pure true) rflA)
    (ok : autoParam (CompV scope vs vs0 fe iter) autA) :
    WS C led fe vs k (exec (.Assign [.Name x pos'] (.ListComp elt [⟨target, iter, ifs, 0⟩] scope pos) pos2) fe.env) Q :=
  WS.assign_compT (h.mono fun d led1 q => q.lc ok.v ok.vn)
    (by simpa only [Bool.or_eq_true, Bool.and_eq_true, beq_iff_eq, List.contains_iff_mem] using hx) hsw ok.ok (fun g hg => by cases hg)
theorem WS.set_comp {elt target iter : Expr} {ifs : List Expr} {scope : Scope} {pos pos' pos2 : Pos} {x : Str} {Q : Fl → Vars → Led → Prop} (vs0 : Vars)
    (h : WE C led fe vs k (eval iter fe.env) (KComp C fe k elt target ifs scope vs0 (KSt vs x Q)))
    (hx : autoParam ((fe.env.kindOf x == some .local || (fe.env.kindOf x == some .cell && fe.ow.contains x)) = true) rflA)
    (hsw : autoParam (swapsWith (.ListComp elt [⟨target, iter, ifs, 0⟩] scope pos) (some (.Name x pos')) pos2.line fe.env = pure true) rflA)
    (ok : autoParam (CompV scope vs vs0 fe iter) autA)
    (ht : autoParam (∀ it v, letOwnedTupleGo target it v = pure ()) autA) :
    WS C led fe vs k (exec (.Assign [.Name x pos'] (.ListComp elt [⟨target, iter, ifs, 0⟩] scope pos) pos2) fe.env) Q :=
  WS.set_compT vs0 (h.mono fun d led1 ⟨items, outs, a, b, c, e, r⟩ => ⟨items, outs, fun Y => (a Y).toT ht, b, c, e, r⟩) hx hsw ok
end
end Sc

namespace Sc
set_option tactic.hygienic false
/-! the same, whatever the frame -/
section
variable {C : Cx} {led : Led} {k : Nat} {a b : Int} {x y : Str} {Q : D → Led → Prop}
theorem OpY.add (h : Q (.int (a + b)) led) : ∀ Y, Op2 C Y led k (binaryOp .Add) (.int a) (.int b) Q := fun _ => Op2.add h
theorem OpY.sub (h : Q (.int (a - b)) led) : ∀ Y, Op2 C Y led k (binaryOp .Sub) (.int a) (.int b) Q := fun _ => Op2.sub h
theorem OpY.or (h : Q (.int (Builtin.bitOr a b)) led) : ∀ Y, Op2 C Y led k (binaryOp .BitOr) (.int a) (.int b) Q := fun _ => Op2.or h
theorem OpY.lt (h : Q (.bool (decide (a < b))) led) : ∀ Y, Op2 C Y led k (compareOp .Lt) (.int a) (.int b) Q := fun _ => Op2.lt h
theorem OpY.le (h : Q (.bool (decide (a ≤ b))) led) : ∀ Y, Op2 C Y led k (compareOp .LtE) (.int a) (.int b) Q := fun _ => Op2.le h
theorem OpY.gt (h : Q (.bool (decide (b < a))) led) : ∀ Y, Op2 C Y led k (compareOp .Gt) (.int a) (.int b) Q := fun _ => Op2.gt h
theorem OpY.ge (h : Q (.bool (decide (b ≤ a))) led) : ∀ Y, Op2 C Y led k (compareOp .GtE) (.int a) (.int b) Q := fun _ => Op2.ge h
theorem OpY.eqi (h : Q (.bool (a == b)) led) : ∀ Y, Op2 C Y led k (compareOp .Eq) (.int a) (.int b) Q := fun _ => Op2.eqi h
theorem OpY.nei (h : Q (.bool (a != b)) led) : ∀ Y, Op2 C Y led k (compareOp .NotEq) (.int a) (.int b) Q := fun _ => Op2.nei h
theorem OpY.iadd (h : Q (.int (a + b)) led) : ∀ Y, Op2 C Y led k (inplaceOp .Add) (.int a) (.int b) Q := fun _ => Op2.iadd h
theorem OpY.eqs (h : Q (.bool (x == y)) led) : ∀ Y, Op2 C Y led k (compareOp .Eq) (.str x) (.str y) Q := fun _ => Op2.eqs h
theorem OpY.nes (h : Q (.bool (x != y)) led) : ∀ Y, Op2 C Y led k (compareOp .NotEq) (.str x) (.str y) Q := fun _ => Op2.nes h
theorem OpY.neg (h : Q (.int (-a)) led) : ∀ Y, Op1 C Y led k (unaryOp .USub) (.int a) Q := fun _ => Op1.neg h
theorem OpY.inv (h : Q (.int (-a - 1)) led) : ∀ Y, Op1 C Y led k (unaryOp .Invert) (.int a) Q := fun _ => Op1.inv h
theorem TrY.int {Q : Bool → Led → Prop} (h : Q (a != 0) led) : ∀ Y, Tru C Y led k (.int a) Q := fun _ => Tru.int h
theorem TrY.bool {b : Bool} {Q : Bool → Led → Prop} (h : Q b led) : ∀ Y, Tru C Y led k (.bool b) Q := fun _ => Tru.bool h
theorem KpK.blt {Y : Led} {id : String} {ds : List D} (h : CallW C Y led k (.blt id) ds Q) : KCal C Y led k (.blt id) ds Q := ⟨KeepOk.blt id, h⟩
theorem KpK.typ {Y : Led} {id : String} {ds : List D} (h : CallW C Y led k (.typ id) ds Q) : KCal C Y led k (.typ id) ds Q := ⟨KeepOk.typ id, h⟩
theorem KcY.range1 (h : Q (.rng 0 a) led) : ∀ Y, KCal C Y led k (.typ "range") [.int a] Q := fun _ => ⟨KeepOk.typ _, CallW.range1 h⟩
end
end Sc

namespace Sc
set_option tactic.hygienic false
/-- a segment of a generator's body, up to its next yield or its end -/
noncomputable def Sgm (M : Model) (A : Around) (P : End → Shared → Prop) (c : Code) (t : Sem PySem.Fin) (fs : List Frame) (s : Shared) : Prop :=
  ∀ Γ p, Γ.code = c → Γ.Woken A → ∃ e s', Runs M Γ p t fs s e s' ∧ P e s'
section
variable {M : Model} {A : Around} {P : End → Shared → Prop} {c : Code} {fs : List Frame} {s : Shared} {env : Env}
  {K : Flow → Sem PySem.Fin} {H : Value → Sem PySem.Fin} {gd : Bool → Bool} {lv : List Value → List Value}
theorem sgm_wrap {α : Type} {m : Sem α} {K : α → Sem PySem.Fin} {H : Value → Sem PySem.Fin} {gd lv}
    (h : wpAny M (A.over c fs) m (fun a s' => Sgm M A P c (K a) fs s') (fun x s' => Sgm M A P c (H x) fs s') s) : Sgm M A P c (m.wrap K H gd lv) fs s := by
  rintro Γ p rfl hΓ
  exact runs_wrap_of_wp K H gd lv m (h (Γ.over fs) p (hΓ.over fs)) (fun a p' s' h' => h' Γ p' rfl hΓ) fun x p' s' h' => h' Γ p' rfl hΓ
theorem sgm_at {p' : Pos} {k : Unit → Sem PySem.Fin} (h : Sgm M A P c (k ()) fs s) : Sgm M A P c (.at p' k) fs s :=
  sgm_wrap (m := standAt p') (K := k) (H := .raise) (gd := id) (lv := id) (wpAny_standAt h)
theorem sgm_point {l : List Value} {k : Unit → Sem PySem.Fin} (h : Sgm M A P c (k ()) fs s) : Sgm M A P c (.point l k) fs s :=
  sgm_wrap (m := point) (K := k) (H := .raise) (gd := id) (lv := fun _ => l) (wpAny_point h)
theorem sgm_call {c' : Code} {h g l} {k : Result → Sem PySem.Fin} (hc : ∀ p, Sgm M A P c' (M.den c') (.ret k h g l c p [] :: fs) s) : Sgm M A P c (.call c' h g l k) fs s := by
  rintro Γ p rfl hΓ
  obtain ⟨e, s', hr, he⟩ := hc p (Γ.goto c') p rfl (hΓ.goto c')
  exact ⟨e, s', runs_call_seg hr, he⟩
theorem sgm_leaf {k h g l c₁ p₁ kp} (r : Result) (hk : Sgm M A P c₁ (k r) fs s) : Sgm M A P c (leafOf r) (.ret k h g l c₁ p₁ kp :: fs) s := by
  rintro Γ p rfl hΓ
  obtain ⟨e, s', hr, he⟩ := hk (Γ.goto c₁) p₁ rfl (hΓ.goto c₁)
  exact ⟨e, s', Runs.pop r hr, he⟩
theorem sgm_again {c' : Code} (hq : c'.quiet = true) (hc : Sgm M A P c' (M.den c') fs s) : Sgm M A P c (.pure (.again c')) fs s := by
  rintro Γ p rfl hΓ
  obtain ⟨e, s', hr, he⟩ := hc (Γ.goto c') p rfl (hΓ.goto c')
  exact ⟨e, s', Runs.head (c₁ := c') (fun _ _ x => .again hq x) hr, he⟩
theorem sgm_end (r : Result) (h : P (.ret r) s) : Sgm M A P c (leafOf r) [] s := by
  rintro Γ p rfl _
  exact ⟨.ret r, s, Runs.leaf r, h⟩
theorem sgm_yield {v g l} {k : Resume → Sem PySem.Fin} (hfs : splitAtGen fs = none) (h : ∀ p, P (.susp v g l k c p fs) s) : Sgm M A P c (.yield v g l k) fs s := by
  rintro Γ p rfl _
  exact ⟨_, s, Runs.yield' fs hfs, h p⟩
/-! statements -/
theorem sgm_execs_nil (h : Sgm M A P c (K .next) fs s) : Sgm M A P c ((execs [] env).wrap K H gd lv) fs s := h
theorem sgm_execs_cons {st : Stmt} {rest : List Stmt}
    (h : Sgm M A P c ((exec st env).wrap (fun f => match f with | .next => (execs rest env).wrap K H gd lv | f => K f) H gd lv) fs s) :
    Sgm M A P c ((execs (st :: rest) env).wrap K H gd lv) fs s := by rw [execs_cons_wrap]; exact h
theorem sgm_plain {st : Stmt} (h : wpAny M (A.over c fs) (exec st env) (fun f s' => Sgm M A P c (K f) fs s') (fun x s' => Sgm M A P c (H x) fs s') s) : Sgm M A P c ((exec st env).wrap K H gd lv) fs s := sgm_wrap h
theorem sgm_If {test : Expr} {body orelse : List Stmt} {pos : Pos}
    (h : wpAny M (A.over c fs) (isTrue test env (eval test env)) (fun b s' => (b = true → Sgm M A P c ((execs body env).wrap K H gd lv) fs s') ∧ (b = false → Sgm M A P c ((execs orelse env).wrap K H gd lv) fs s'))
      (fun x s' => Sgm M A P c (H x) fs s') s) : Sgm M A P c ((exec (.If test body orelse pos) env).wrap K H gd lv) fs s := by
  have e : exec (.If test body orelse pos) env = (do standAt pos; let b ← isTrue test env (eval test env); if b then execs body env else execs orelse env) := rfl
  rw [e]
  show Sgm M A P c (.at pos fun _ => ((isTrue test env (eval test env)) >>= fun b => if b then execs body env else execs orelse env).wrap K H gd lv) fs s
  refine sgm_at ?_
  rw [Sem.bind_eq_wrap', Sem.wrap_wrap]
  refine sgm_wrap (wpAny_mono h (fun b s' hb => ?_) fun _ _ x => x)
  cases b with
  | true => exact hb.1 rfl
  | false => exact hb.2 rfl
noncomputable abbrev ownH (env : Env) (r : Result) : Sem Flow := (match r with | .ok f => (.pure f : Sem Flow) | .error e => .raise e).onRaise fun (x : Value) => do
        if (← field x 1) == Value.none then unsupported "frame.own-activation:exception-without-traceback"
        setFlight x env.frame
theorem sgm_For {target iter : Expr} {body orelse : List Stmt} {pos : Pos}
    (h : wpAny M (A.over c fs) (eval iter env) (fun v s' => wpAny M (A.over c fs) (pyIter v) (fun it s'' => ∀ p, Sgm M A P (.forLoop target it body orelse env) (M.den (.forLoop target it body orelse env))
      (.ret (fun r => (ownH env r).wrap K H gd lv) none (gd false) (lv []) c p [] :: fs) s'') (fun x s' => Sgm M A P c (H x) fs s') s')
      (fun x s' => Sgm M A P c (H x) fs s') s) (hs : autoParam (∀ x, foldedSetIterable iter env x = pure x) autA) :
    Sgm M A P c ((exec (.For target iter body orelse pos) env).wrap K H gd lv) fs s := by
  rw [exec_For]
  show Sgm M A P c (.at pos fun _ => (eval iter env >>= fun x => foldedSetIterable iter env x >>= fun x => standAt iter.pos >>= fun _ => holding [x] (pyIter x) >>= fun it => runOwn (.forLoop target it body orelse env) env).wrap K H gd lv) fs s
  refine sgm_at ?_
  rw [Sem.bind_eq_wrap', Sem.wrap_wrap]
  refine sgm_wrap (wpAny_mono h (fun x s1 h1 => ?_) fun _ _ x => x)
  rw [hs x]
  show Sgm M A P c (.at iter.pos fun _ => (holding [x] (pyIter x) >>= fun it => runOwn (.forLoop target it body orelse env) env).wrap K H gd lv) fs s1
  refine sgm_at ?_
  rw [Sem.bind_eq_wrap', Sem.wrap_wrap]
  refine sgm_wrap (wpAny_holding (wpAny_mono h1 (fun it s2 h2 => ?_) fun _ _ x => x))
  exact sgm_call h2
theorem sgm_While {test : Expr} {body orelse : List Stmt} {pos : Pos}
    (h : ∀ p, Sgm M A P (.whileLoop test body orelse env) (M.den (.whileLoop test body orelse env)) (.ret (fun r => (ownH env r).wrap K H gd lv) none (gd false) (lv []) c p [] :: fs) s) :
    Sgm M A P c ((exec (.While test body orelse pos) env).wrap K H gd lv) fs s :=
  sgm_at (sgm_call h)
theorem sgm_Yield {e : Expr} {ypos pos : Pos} (hfs : splitAtGen fs = none)
    (h : wpAny M (A.over c fs) (eval e env) (fun v s' => ∀ (k : Resume → Sem PySem.Fin) l p, (∀ A' P' s'', Sgm M A' P' c (K .next) fs s'' → Sgm M A' P' c (k (.send .none)) fs s'') → P (.susp v (gd false) l k c p fs) s')
      (fun x s' => Sgm M A P c (H x) fs s') s) (hco : autoParam (env.scope.isCoroutine = false) rflA) (hi : autoParam (interactive env = false) rflA) :
    Sgm M A P c ((exec (.Expr (.Yield (some e) ypos) pos) env).wrap K H gd lv) fs s := by
  rw [exec_Expr env _ pos hi rfl]
  show Sgm M A P c (.at pos fun _ => ((eval e env >>= fun v => (standAt ypos >>= fun _ => yieldOut env v)) >>= fun x => dropValue (.Yield (some e) ypos) pos x).wrap K H gd lv) fs s
  have hy : ∀ v, yieldOut env v = yieldValue v := fun v => by simp only [yieldOut, hco, Bool.false_eq_true, if_false]
  simp only [hy]
  refine sgm_at ?_
  rw [Sem.bind_eq_wrap', Sem.bind_eq_wrap', Sem.wrap_wrap, Sem.wrap_wrap]
  refine sgm_wrap (wpAny_mono h (fun v s' h' => ?_) fun _ _ x => x)
  refine sgm_at (sgm_yield hfs fun p => h' _ _ _ fun A' P' s'' hx => hx)
end
section
variable {prog : Program} {w : World} {A : Around} {P : End → Shared → Prop} {fs : List Frame} {s : Shared} {env : Env}
noncomputable abbrev noteH (env : Env) : Value → Sem PySem.Fin := fun e => (do noteFrame e env; theTreesLotGoes e : Sem Unit).wrap (fun _ => .raise e) .raise id id
noncomputable abbrev leaveH (env : Env) : Value → Sem PySem.Fin := fun e => (leaving env e).wrap (fun _ => .raise e) .raise id id
noncomputable abbrev forK (target : Expr) (it : Value) (body orelse : List Stmt) (env : Env) : Flow → Sem PySem.Fin := fun f => match f with
  | .next | .cont => .pure (.again (.forLoop target it body orelse env))
  | .brk => .pure (.done .next)
  | .ret v => .pure (.done (.ret v))
noncomputable abbrev whileK (test : Expr) (body orelse : List Stmt) (env : Env) : Flow → Sem PySem.Fin := fun f => match f with
  | .next | .cont => .pure (.again (.whileLoop test body orelse env))
  | .brk => .pure (.done .next)
  | .ret v => .pure (.done (.ret v))
noncomputable abbrev funcK : Flow → Sem PySem.Fin := fun f => .pure (.done (.ret (match f with | .ret v => v | _ => .none)))
theorem sgm_forLoop {target : Expr} {it : Value} {body orelse : List Stmt}
    (h : wpAny (model prog w) (A.over (.forLoop target it body orelse env) fs) (pyNext it) (fun r s1 => match r with
        | none => Sgm (model prog w) A P (.forLoop target it body orelse env) (.pure (.again (.block orelse env))) fs s1
        | some v => wpAny (model prog w) (A.over (.forLoop target it body orelse env) fs) (PySem.assign target env v) (fun _ s2 =>
            Sgm (model prog w) A P (.forLoop target it body orelse env) ((execs body env).wrap (forK target it body orelse env) (noteH env) id id) fs s2) (fun x s' => Sgm (model prog w) A P (.forLoop target it body orelse env) (noteH env x) fs s') s1)
      (fun x s' => Sgm (model prog w) A P (.forLoop target it body orelse env) (noteH env x) fs s') s) (ht : autoParam (∀ v, letOwnedTupleGo target it v = pure ()) autA) :
    Sgm (model prog w) A P (.forLoop target it body orelse env) ((model prog w).den (.forLoop target it body orelse env)) fs s := by
  have conv : ∀ x, ((do noteFrame x env; theTreesLotGoes x : Sem Unit).bind fun _ => (.raise x : Sem PySem.Fin)) = noteH env x := fun x => Sem.bind_eq_wrap _ _
  show Sgm _ A P _ ((forTurn target it body orelse env).onRaise (fun x => do noteFrame x env; theTreesLotGoes x)) fs s
  unfold forTurn
  rw [Sem.onRaise_eq_wrap]
  show Sgm _ A P _ (.at target.pos fun _ => (((pyNext it).onRaise (fun _ => standAt { target.pos with line := 0 })) >>= _).wrap _ _ _ _) fs s
  refine sgm_at ?_
  rw [Sem.bind_eq_wrap', Sem.wrap_wrap]
  refine sgm_wrap (wpAny_onRaise (wpAny_mono h (fun r s1 h1 => ?_) fun x s1 h1 => wpAny_standAt (by show Sgm _ A P _ ((do noteFrame x env; theTreesLotGoes x : Sem Unit).bind fun _ => (.raise x : Sem PySem.Fin)) fs s1; rw [conv]; exact h1)))
  cases r with
  | none => exact h1
  | some v =>
    simp only [ht v]
    show Sgm _ A P _ ((PySem.assign target env v >>= fun _ => execs body env >>= _).wrap _ _ _ _) fs s1
    rw [Sem.bind_eq_wrap', Sem.wrap_wrap]
    refine sgm_wrap (wpAny_mono h1 (fun _ s2 h2 => ?_) fun x s2 h2 => by show Sgm _ A P _ ((do noteFrame x env; theTreesLotGoes x : Sem Unit).bind fun _ => (.raise x : Sem PySem.Fin)) fs s2; rw [conv]; exact h2)
    rw [Sem.bind_eq_wrap', Sem.wrap_wrap]
    refine (congrArg (fun t => Sgm (model prog w) A P (.forLoop target it body orelse env) t fs s2) (Sem.wrap_congr (execs body env) id id (K' := forK target it body orelse env) (H' := noteH env) (fun f => ?_) (fun e => ?_))).mpr h2
    · cases f <;> rfl
    · exact conv e
theorem sgm_whileLoop {test : Expr} {body orelse : List Stmt}
    (h : wpAny (model prog w) (A.over (.whileLoop test body orelse env) fs) (isTrue test env (eval test env)) (fun b s' =>
        (b = true → Sgm (model prog w) A P (.whileLoop test body orelse env) ((execs body env).wrap (whileK test body orelse env) (noteH env) id id) fs s') ∧
        (b = false → Sgm (model prog w) A P (.whileLoop test body orelse env) ((execs orelse env).wrap (fun f => .pure (.done f)) (noteH env) id id) fs s'))
      (fun x s' => Sgm (model prog w) A P (.whileLoop test body orelse env) (noteH env x) fs s') s) :
    Sgm (model prog w) A P (.whileLoop test body orelse env) ((model prog w).den (.whileLoop test body orelse env)) fs s := by
  have conv : ∀ x, ((do noteFrame x env; theTreesLotGoes x : Sem Unit).bind fun _ => (.raise x : Sem PySem.Fin)) = noteH env x := fun x => Sem.bind_eq_wrap _ _
  show Sgm _ A P _ ((whileTurn test body orelse env).onRaise (fun x => do noteFrame x env; theTreesLotGoes x)) fs s
  unfold whileTurn
  rw [Sem.onRaise_eq_wrap, Sem.bind_eq_wrap', Sem.wrap_wrap]
  refine sgm_wrap (wpAny_mono h (fun b s' hb => ?_) fun x s' hx => ?_)
  · cases b with
    | true =>
      show Sgm _ A P _ (Sem.wrap _ _ _ _ (if true = true then _ else _)) fs s'
      rw [if_pos rfl, Sem.bind_eq_wrap', Sem.wrap_wrap]
      refine (congrArg (fun t => Sgm (model prog w) A P (.whileLoop test body orelse env) t fs s') (Sem.wrap_congr (execs body env) id id (K' := whileK test body orelse env) (H' := noteH env) (fun f => ?_) (fun e => ?_))).mpr (hb.1 rfl)
      · cases f <;> rfl
      · exact conv e
    | false =>
      show Sgm _ A P _ (Sem.wrap _ _ _ _ (if false = true then _ else _)) fs s'
      rw [if_neg Bool.false_ne_true, Sem.bind_eq_wrap', Sem.wrap_wrap]
      refine (congrArg (fun t => Sgm (model prog w) A P (.whileLoop test body orelse env) t fs s') (Sem.wrap_congr (execs orelse env) id id (K' := fun f => (.pure (.done f) : Sem PySem.Fin)) (H' := noteH env) (fun f => ?_) (fun e => ?_))).mpr (hb.2 rfl)
      · rfl
      · exact conv e
  · show Sgm _ A P _ ((do noteFrame x env; theTreesLotGoes x : Sem Unit).bind fun _ => (.raise x : Sem PySem.Fin)) fs s'; rw [conv]; exact hx
theorem sgm_func {body : List Stmt} (h : Sgm (model prog w) A P (.func body env) ((execs body env).wrap funcK (leaveH env) id id) fs s) :
    Sgm (model prog w) A P (.func body env) ((model prog w).den (.func body env)) fs s := by
  show Sgm _ A P (.func body env) (.point [] fun _ => ((execs body env).onRaise (leaving env)) >>= _) fs s
  refine sgm_point ?_
  rw [Sem.onRaise_eq_wrap, Sem.bind_eq_wrap', Sem.wrap_wrap]
  refine (congrArg (fun t => Sgm (model prog w) A P (.func body env) t fs s) (Sem.wrap_congr (execs body env) id id (K' := funcK) (H' := leaveH env) (fun f => ?_) (fun e => ?_))).mpr h
  · cases f <;> rfl
  · rw [Sem.bind_eq_wrap, Sem.wrap_wrap]; rfl
theorem sgm_block_nil (h : Sgm (model prog w) A P (.block [] env) (.pure (.done .next)) fs s) : Sgm (model prog w) A P (.block [] env) ((model prog w).den (.block [] env)) fs s := h
end
end Sc

namespace Sc
theorem ve_stop : isSubtype (.type "ValueError") (.type "StopIteration") = pure false := by rw [isSubtype_type]; kernel_rfl
noncomputable def Gos (M : Model) (A : Around) (P : End → Shared → Prop) (gs : GenState) (r : Resume) (s : Shared) : Prop :=
  match gs with
  | .fresh c => r = .send .none ∧ Sgm M A P c (M.den c) [] s
  | .suspended k _ c _ fs _ => Sgm M A P c (k r) fs s
  | _ => False
theorem resumeS {M : Model} {A : Around} {P : End → Shared → Prop} {E : Value → Shared → Prop} {s : Shared} {g : Nat} {gs : GenState}
    {r : Resume} {l : List Value} {α : Type} {k : GenResult → Sem α} {Q : α → Shared → Prop} (hg : s.gens[g]? = some gs)
    (hgo : Gos M A P gs r (s.setGen g .running)) (hP : ∀ e s₁, P e s₁ → e.quiet = true ∧ wpAny M A (k e.result) Q E (s₁.setGen g e.genState)) :
    wpAny M A (.resume g r l k) Q E s := by
  intro Γ p hΓ
  rw [Sem.wp_resume]
  have hB : ∀ c, (Γ.wake c p).Woken A := fun c => hΓ.wake c p
  cases gs with
  | fresh c =>
    obtain ⟨rfl, hs⟩ := hgo
    obtain ⟨e₁, s₁, hr, he⟩ := hs (Γ.wake c p) p rfl (hB c)
    exact ⟨_, _, by unfold Wakes; rw [hg]; exact ⟨e₁, s₁, hr, (hP _ _ he).1, rfl, rfl⟩, (hP _ _ he).2 Γ p hΓ⟩
  | suspended k₀ l₀ c₀ p₀ fs₀ cl =>
    obtain ⟨e₁, s₁, hr, he⟩ := hgo (Γ.wake c₀ p) p₀ rfl (hB c₀)
    exact ⟨_, _, by unfold Wakes; rw [hg]; exact ⟨e₁, s₁, hr, (hP _ _ he).1, rfl, rfl⟩, (hP _ _ he).2 Γ p hΓ⟩
  | running => exact hgo.elim
  | finished => exact hgo.elim
section
variable {prog : Program} {w : World} {A : Around} {E : Value → Shared → Prop} {s : Shared}
/-- how a generator's step ends -/
inductive GenOut (a : Addr) (g : Nat) (Q : Option Value → Shared → Prop) (E : Value → Shared → Prop) : End → Shared → Prop where
  | done {s₁ : Shared} (h : ∀ h', (∀ b o, s₁.heap.get? b = some o → h'.get? b = some o) → Q none { s₁.setGen g .finished with heap := h' }) : GenOut a g Q E (.ret (.ok (.ret .none))) s₁
  | error {s₁ : Shared} {e : Addr} (hT : s₁.TypeIs (.ref e) "ValueError") (hg : s₁.heap.IsGen a g) (h : E (.ref e) (s₁.setGen g .finished)) : GenOut a g Q E (.ret (.error (.ref e))) s₁
  | yld {s₁ : Shared} {v : Value} {gd : Bool} {l : List Value} {k : Resume → Sem PySem.Fin} {c : Code} {p : Pos} {fs : List Frame} (hq : (gd || fs.any Frame.guarded) = false) (h : Q (some v) (s₁.setGen g (.suspended k l c p fs false))) : GenOut a g Q E (.susp v gd l k c p fs) s₁
/-- a step of a generator -/
theorem pyNext_genS {a : Addr} {g : Nat} {gs : GenState} {Q : Option Value → Shared → Prop} (hh : A.handled = none)
    (hl : s.heap.NoLimit) (hroom : A.depth < recursionLimit) (hg : s.heap.IsGen a g) (hgs : s.gens[g]? = some gs)
    (hgo : Gos (model prog w) A.in1 (GenOut a g Q E) gs (.send .none) (s.setGen g .running)) :
    wpAny (model prog w) A (pyNext (.ref a)) Q E s := by
  unfold pyNext
  refine wpAny_bind (wpAny_attempt (wpAny_callSpecial?_slot (name := Str.ofString "__next__") hg.typeIs slot_gen_next
    (wpAny_call_entry slot_gen_next hg.typeIs entry_gen_next ?_ (args_gen_next _))))
  show wpAny _ _ (Builtin.Generator.genWake (.ref a) (.send .none)) _ _ s
  unfold Builtin.Generator.genWake
  refine wpAny_bind (wpAny_holding (wpAny_genNumber hg (wpAny_bind (wpAny_genState hgs ?_))))
  cases gs with
  | running => exact hgo.elim
  | finished => exact hgo.elim
  | _ =>
    refine wpAny_bind (wpAny_roomToWake hl hroom ?_)
    show wpAny _ _ (.resume g (.send .none) [] _) _ _ s
    refine resumeS hgs hgo fun e₁ s₁ he => ?_
    cases he with
    | done hp =>
      refine ⟨rfl, ?_⟩
      refine wpAny_bind (m := (Builtin.SmallTypes.stopIteration : Sem _)) (stop_wp hh fun e h' hk ht => ?_)
      refine wpAny_bind (wpAny_isInstance (T := "StopIteration") (b := true) ht isSubtype_stop ?_)
      exact wpAny_pure (hp _ hk)
    | error hT hgen hp =>
      rename_i e
      refine ⟨rfl, ?_⟩
      obtain ⟨o, nm, qn, ho, hc, hd, hsl⟩ := hgen
      show wpAny _ _ (Builtin.Generator.genLeft (.ref a) (.ref e)) _ _ (s₁.setGen g .finished)
      unfold Builtin.Generator.genLeft Builtin.Generator.madeByALambda
      refine wpAny_bind (wpAny_bind (wpAny_load (s := s₁.setGen g .finished) ho (wpAny_pure ?_)))
      rw [hd]
      have hT' : (s₁.setGen g .finished).TypeIs (.ref e) "ValueError" := hT
      refine wpAny_bind (wpAny_isInstance hT' ve_stop ?_)
      rw [Bool.and_false, if_neg Bool.false_ne_true]
      show wpAny _ _ (Builtin.Generator.genEscaped (.ref e)) _ _ _
      unfold Builtin.Generator.genEscaped
      refine wpAny_bind (wpAny_isInstance hT' ve_stop ?_)
      show wpAny _ _ (throw (Value.ref e) >>= _) _ _ _
      refine wpAny_bind (wpAny_throw ?_)
      refine wpAny_bind (wpAny_isInstance hT' ve_stop ?_)
      exact wpAny_throw hp
    | yld hq hp =>
      rename_i v gd l k c p fs
      refine ⟨?_, ?_⟩
      · show (!(gd || fs.any Frame.guarded)) = true; rw [hq]; rfl
      · have e : (End.susp v gd l k c p fs).genState = .suspended k l c p fs false := by show GenState.suspended k l c p fs (gd || fs.any Frame.guarded) = _; rw [hq]
        rw [e]
        exact wpAny_pure ⟨v, rfl, wpAny_pure hp⟩
end
end Sc

namespace Sc
set_option tactic.hygienic false
theorem St.withGens {C : Cx} {fz : Fz} {led Y : Led} {G : Array GenState} {s : Shared} (S : St C fz led Y G s) (G' : Array GenState) : St C fz led Y G' { s with gens := G' } :=
  ⟨S.dj, { fzIn := S.rel.fzIn, ledIn := S.rel.ledIn, apart := S.rel.apart, fzt := S.rel.fzt, new := S.rel.new, base := S.rel.base, tabs := S.rel.tabs, old := S.rel.old, os := S.rel.os, gens := rfl }⟩
theorem mask_heap (h : Heap) (p : Addr → Prop) : ∃ b : Heap, (∀ a, p a → b.get? a = none) ∧ (∀ a, ¬ p a → b.get? a = h.get? a) := by
  classical
  refine ⟨⟨h.objs.mapIdx fun i o => if p i then { o with data := .freed } else o, h.life⟩, fun a ha => ?_, fun a ha => ?_⟩
  · unfold Heap.get?
    rw [Array.getElem?_mapIdx]
    cases h.objs[a]? with
    | none => rfl
    | some o => simp only [Option.map_some, if_pos ha]
  · unfold Heap.get?
    rw [Array.getElem?_mapIdx]
    cases h.objs[a]? with
    | none => rfl
    | some o => simp only [Option.map_some, if_neg ha]
theorem Rel.many2 {C : Cx} {fz : Fz} {T : Led} {G : Array GenState} {s : Shared} (R : Rel C fz T G s) {h' : Heap} (t : Nat) (p : Addr → Prop) (hz : ∀ b, p b → fz b = none) (h0 : ∀ b, p b → C.h₀.get? b = none)
    (hk : ∀ b o, ¬ p b → s.heap.get? b = some o → h'.get? b = some o) (hm : ∀ b m, p b → T b = some m → MAt fz h' b m) : Rel C fz T G { s with heap := h', toks := t } where
  fzIn := fun b o e => hk b o (fun q => by rw [hz b q] at e; cases e) (R.fzIn b o e)
  ledIn := fun b m e => by
    by_cases q : p b
    · exact hm b m q e
    · exact (R.ledIn b m e).at fun o => hk b o q
  apart := R.apart
  fzt := R.fzt
  new := R.new
  base := fun b o e n => hk b o (fun q => by rw [h0 b q] at e; cases e) (R.base b o e n)
  tabs := fun c P e => by
    obtain ⟨ps, ⟨o, vs, e1, _⟩, e2⟩ := C.tabIs c P e
    obtain ⟨ps', x, y, z⟩ := R.tabs c P e
    have nc : ¬ p c := fun q => by rw [h0 c q] at e1; cases e1
    have nP : ¬ p P := fun q => by rw [h0 P q] at e2; cases e2
    refine ⟨ps', ?_, ?_, z⟩
    · obtain ⟨o, vs, file, tf, flags, tg, inF, text, tt, op, a1, a2, a3, a4, a5, a6, a7, a8, a9⟩ := x
      exact ⟨o, vs, file, tf, flags, tg, inF, text, tt, op, hk _ _ nc a1, a2, a3, a4, a5, a6, a7, hk _ _ nP a8, a9⟩
    · obtain ⟨⟨o, vs, a1, a2⟩, a3⟩ := y
      exact ⟨⟨o, vs, hk _ _ nc a1, a2⟩, hk _ _ nP a3⟩
  old := OldK.step_many R.old (p := p) (fun b o e q => by rw [h0 b q] at e; cases e) hk
  os := R.os
  gens := R.gens
/-- what may not change while an exception flies -/
noncomputable def Firm (C : Cx) (fz : Fz) (T : Led) (b : Addr) : Prop := fz b ≠ none ∨ C.h₀.get? b ≠ none ∨ ∃ m, T b = some m ∧ ∀ m', m ≠ .ns m'
structure Cov (C : Cx) (fz : Fz) (T : Led) (base h : Heap) : Prop where
  cov : ∀ b, Firm C fz T b → base.get? b ≠ none
  stays : base.StaysIn h
theorem St.slots {C : Cx} {fz : Fz} {led Y : Led} {G : Array GenState} {s : Shared} (S : St C fz led Y G s) {base h' : Heap} (t : Nat) (hc : Cov C fz (Un led Y) base s.heap) (hs : base.StaysIn h')
    (hu : s.heap.UpToSlots h') : St C fz led Y G { s with heap := h', toks := t } ∧ Cov C fz (Un led Y) base h' := by
  refine ⟨⟨S.dj, S.rel.many2 t (fun b => ¬ Firm C fz (Un led Y) b) (fun b hb => ?_) (fun b hb => ?_) (fun b o hb e => ?_) fun b m hb e => ?_⟩, hc.cov, hs⟩
  · cases q : fz b with
    | none => rfl
    | some o => exact absurd (.inl (by rw [q]; exact Option.some_ne_none _)) hb
  · cases q : C.h₀.get? b with
    | none => rfl
    | some o => exact absurd (.inr (.inl (by rw [q]; exact Option.some_ne_none _))) hb
  · have hf := Classical.not_not.mp hb
    cases q : base.get? b with
    | none => exact absurd q (hc.cov b hf)
    | some o' => have e1 := hc.stays b o' q; rw [e] at e1; cases e1; exact hs b _ q
  · have hns : ∃ m', m = .ns m' := Classical.byContradiction fun q => hb (.inr (.inr ⟨m, e, fun m' z => q ⟨m', z⟩⟩))
    obtain ⟨m', rfl⟩ := hns
    obtain ⟨mv, hn, q⟩ := S.rel.ledIn b _ e
    exact ⟨mv, hu.ns hn, q⟩
theorem Cov.less {C : Cx} {fz : Fz} {T T' : Led} {base h : Heap} (x : Cov C fz T base h) (i : ∀ a m, T' a = some m → T a = some m) : Cov C fz T' base h :=
  ⟨fun b hb => x.cov b (hb.elim .inl fun q => .inr (q.elim .inl fun ⟨m, q, r⟩ => .inr ⟨m, i _ _ q, r⟩)), x.stays⟩
noncomputable def onStk (l : List Env) (b : Addr) : Prop := ∃ e ∈ l, e.frame = some b
theorem FrY.base {C : Cx} {fz : Fz} {led Y : Led} {G : Array GenState} {s : Shared} {l : List Env} (hl : ∀ e ∈ l, e.scope.kind = .function ∧ ∃ L m, e.frame = some L ∧ Y L = some (.ns m)) (S : St C fz led Y G s) :
    ∃ base, Cov C fz (Un led Y) base s.heap ∧ s.heap.FunFrames base l := by
  obtain ⟨base, b1, b2⟩ := mask_heap s.heap (onStk l)
  have hT : ∀ b, onStk l b → ∃ m, Un led Y b = some (.ns m) := fun b ⟨e, he, hf⟩ => by
    obtain ⟨_, L, m, h2, h3⟩ := hl e he
    rw [hf] at h2; cases h2
    exact ⟨m, by rw [Un_right ((S.dj b).resolve_right (by rw [h3]; exact Option.some_ne_none _))]; exact h3⟩
  refine ⟨base, ⟨fun b hb => ?_, fun b o e => ?_⟩, ?_⟩
  · have hno : ¬ onStk l b := fun q => by
      obtain ⟨m, e⟩ := hT b q
      rcases hb with z | z | ⟨m', z, r⟩
      · cases q2 : fz b with
        | none => exact z q2
        | some o => rw [S.rel.apart _ _ q2] at e; cases e
      · exact z (S.rel.new _ _ e)
      · rw [e] at z; cases z; exact r m rfl
    rw [b2 b hno]
    rcases hb with z | z | ⟨m', z, r⟩
    · cases q2 : fz b with
      | none => exact absurd q2 z
      | some o => rw [S.rel.fzIn _ _ q2]; exact Option.some_ne_none _
    · cases q2 : C.h₀.get? b with
      | none => exact absurd q2 z
      | some o => obtain ⟨o', q3⟩ := S.rel.old.there _ _ q2; rw [q3]; exact Option.some_ne_none _
    · obtain ⟨o, q3⟩ := (S.rel.ledIn _ _ z).there; rw [q3]; exact Option.some_ne_none _
  · by_cases hb : onStk l b
    · rw [b1 b hb] at e; cases e
    · rw [b2 b hb] at e; exact e
  · have key : ∀ l' : List Env, (∀ e ∈ l', e ∈ l) → s.heap.FunFrames base l' := by
      intro l'
      induction l' with
      | nil => intro _; trivial
      | cons env r ih =>
        intro hs
        obtain ⟨h1, L, m, h2, h3⟩ := hl env (hs env List.mem_cons_self)
        obtain ⟨mv, ⟨o, es, ep, ho, hd, _⟩, _⟩ := S.at h3
        exact ⟨(by rw [h1]; intro z; cases z), ⟨L, o, h2, b1 L ⟨env, hs env List.mem_cons_self, h2⟩, ho, fun vs q => (by rw [hd] at q; cases q)⟩, ih fun e he => hs e (List.mem_cons_of_mem _ he)⟩
    exact key l fun _ h => h
section
variable {M : Model} {A : Around} {E : Value → Shared → Prop} {s : Shared}
theorem note_new {base : Heap} {env : Env} {outer : List Env} {L e : Addr} {oe : Obj} {vs : Array Value} {a0 : Value} {Q : Unit → Shared → Prop}
    (hfr : A.frames = some (env :: outer)) (hl : s.heap.FunFrames base (env :: outer)) (hf : env.frame = some L)
    (he : s.heap.get? e = some oe) (hkb : base.StaysIn s.heap) (hen : base.get? e = none) (hd : oe.data = .fields vs) (h1 : vs[1]? = some .none) (h0 : vs[0]? = some a0)
    (h : ∀ h', Heap.HeldW base (env :: outer) e oe.cls a0 L h' → s.heap.UpToSlots h' → Q () { s with heap := h' }) : wpAny M A (noteFrame (.ref e) env) Q E s := by
  unfold noteFrame
  simp only [hf]
  refine wpAny_bind (wpAny_field he hd h1 ?_)
  rw [if_neg (by decide)]
  exact wpAny_entryW hfr hl hf he hkb hen hd (Array.getElem?_eq_some_iff.mp h1).1 h0 fun h' hN => let ⟨k1, k2, k3, k4⟩ := hN; h h' ⟨k1, hen, k2, k3⟩ k4
theorem own_held {base : Heap} {env : Env} {l : List Env} {L e : Addr} {cls a0 : Value} {Q : Unit → Shared → Prop} (hf : env.frame = some L) (hh : Heap.HeldW base l e cls a0 L s.heap)
    (hQ : ∀ h', Heap.HeldW base l e cls a0 L h' → s.heap.UpToSlots h' → Q () { s with heap := h' }) :
    wpAny M A (do
        if (← field (.ref e) 1) == Value.none then unsupported "frame.own-activation:exception-without-traceback"
        setFlight (.ref e) env.frame) Q E s := by
  obtain ⟨f1, f2, f3, oe, vs, T, oT, ts, he, hcls, hd, h1, hnT, hTe, hT, hdT, h3⟩ := hh
  have hsz3 : 3 < ts.size := (Array.getElem?_eq_some_iff.mp h3).1
  refine wpAny_bind (wpAny_field he hd h1 ?_)
  rw [if_neg (show ¬ ((Value.ref T == Value.none) = true) from by simp)]
  rw [hf]
  unfold setFlight
  refine wpAny_bind (wpAny_field he hd h1 ?_)
  rw [if_pos (show (Value.ref T != Value.none) = true from by simp)]
  have other : ∀ b, b ≠ T → (s.heap.update T (Obj.mapFields (·.setIfInBounds 3 ((some L : Option Addr).elim Value.none fun f => rawInt f)))).get? b = s.heap.get? b :=
    fun b hb => Heap.get?_update_other _ _ (Ne.symm hb)
  have noRecord : ∀ b o, s.heap.get? b = some o → (∀ vs, o.data ≠ .fields vs) → b ≠ T := fun b o hb hnf q => by
    rw [q, hT] at hb; injection hb with hb; subst hb; exact hnf ts hdT
  refine wpAny_setField hT hdT hsz3 (hQ _ ⟨fun b o hbo => (other b fun q => by rw [q, hnT] at hbo; cases hbo).trans (f1 b o hbo), f2,
    f3.of_keeps fun b o hb hnf => ⟨o, (other b (noRecord b o hb hnf)).trans hb, rfl⟩, ?_⟩ fun b o hb hnf => ⟨o.slots, (other b (noRecord b o hb hnf)).trans hb⟩)
  exact ⟨oe, vs, T, _, _, (other e (Ne.symm hTe)).trans he, hcls, hd, h1, hnT, hTe, Heap.get?_update_self _ hT (Obj.isFreed_of_fields (Obj.data_mapFields hdT _)), Obj.data_mapFields hdT _, by simp [hsz3]⟩
end
end Sc

namespace Sc
set_option tactic.hygienic false
theorem GExt.size {G G' : Array GenState} (h : GExt G G') : G.size ≤ G'.size := by
  rcases Nat.lt_or_ge G'.size G.size with hlt | hge
  · have e := h.keep G'.size _ (Array.getElem?_eq_getElem hlt)
    rw [Array.getElem?_eq_none (Nat.le_refl _)] at e; cases e
  · exact hge
theorem GExt.push (G : Array GenState) {x : GenState} (hx : x.bare = true) : GExt G (G.push x) :=
  ⟨fun i y e => by
    have := (Array.getElem?_eq_some_iff.mp e).1
    rw [Array.getElem?_push_lt this]; rw [Array.getElem?_eq_getElem this] at e; exact e, fun h => h.push hx⟩
theorem gens_set {G : Array GenState} {g : Nat} {x y : GenState} (h : G[g]? = some x) : (G.setIfInBounds g y)[g]? = some y := by
  have hlt := (Array.getElem?_eq_some_iff.mp h).1
  simp [hlt]
theorem AllBare.set {G : Array GenState} (h : AllBare G) {g : Nat} {x : GenState} (hx : x.bare = true) : AllBare (G.setIfInBounds g x) := by
  intro y hy
  rcases Array.mem_or_eq_of_mem_setIfInBounds hy with q | q
  · exact h y q
  · subst q; exact hx
theorem setGen_eq (s : Shared) (g : Nat) (x : GenState) : s.setGen g x = { s with gens := s.gens.setIfInBounds g x } := rfl

noncomputable def GenObj (fz : Fz) (a : Addr) (g : Nat) : Prop := ∃ o nm qn, fz a = some o ∧ o.cls = .type "generator" ∧ o.data = .fields #[.int g 0, nm, qn] ∧ o.slots = #[]
theorem GenObj.mono {f h : Fz} {a : Addr} {g : Nat} (x : GenObj f a g) (l : FzLe f h) : GenObj h a g := let ⟨o, nm, qn, e, r⟩ := x; ⟨o, nm, qn, l _ _ e, r⟩
theorem GenObj.at_ {C : Cx} {fz : Fz} {led Y : Led} {G : Array GenState} {s : Shared} {a : Addr} {g : Nat} (x : GenObj fz a g) (S : St C fz led Y G s) : s.heap.IsGen a g :=
  let ⟨o, nm, qn, e, r⟩ := x; ⟨o, nm, qn, S.rel.fzIn _ _ e, r⟩
/-- a generator has been made -/
noncomputable def GenMade (C : Cx) (fz : Fz) (led Y : Led) (G : Array GenState) (a : Addr) (scope : Scope) (body : List Stmt) (vs0 : Vars) : Value → Shared → Prop := fun v s' =>
  ∃ fz' G' F L cs q code ga g, v = .ref ga ∧ FzLe fz fz' ∧ GExt G G' ∧ G.size ≤ g ∧ FOk (fnFe scope L cs q a code) vs0 F Y ∧ Dj F Y ∧ St C fz' led (Un F Y) G' s' ∧
    G'[g]? = some (.fresh (.func body (fnFe scope L cs q a code).env)) ∧ GenObj fz' ga g
noncomputable abbrev argsOkG := argsOkB true
theorem gen_call {C : Cx} {Y led : Led} {k : Nat} {a : Addr} {st : Stmt} {name name' : Str} {args : Arguments} {body : List Stmt} {scope : Scope} {pos : Pos} {ds : List D} (h : GFn C a st)
    (hst : st = .FunctionDef name args body [] none [] scope none name' pos) (vs : Vars) (hok : argsOkG args (vs.map (·.1)) scope = true) (hds : ds = vs.map (·.2))
    {A : Around} {fz : Fz} {G : Array GenState} {s : Shared} {vals : List Value} (hA : RoomY (k + 1) A Y) (S : St C fz led Y G s) (e2 : Dens fz vals ds) :
    wpAny (model C.prog C.w) A (call (.ref a) vals) (GenMade C fz led Y G a scope body vs) No s := by
  obtain ⟨fd, h⟩ := h
  have hi := h.is hst
  subst hds
  have P := argsOkB.spec hok hi; have hp := P.1
  obtain ⟨o', ho, hod, hcr⟩ := h.1 Y led fz G s S
  have hA0 : RoomY 0 A.in1 Y := (hA.mono (Nat.le_add_left 1 k)).in1
  refine wpAny_call (codeAny_call_generator (Nat.lt_of_le_of_lt (Nat.le_add_right _ _) hA.r.2.1) ho hod hp.co P.2.1 hp.body hcr (new_frame hi hp P.2.2.1 P.2.2.2 CloOk.nil rfl hA0 e2 S fun L cs fz1 G1 F s1 l1 g1 hcs hF hd S1 => ⟨S1.nolimit, ?_⟩))
  have ha := get_size s1.heap (Nat.le_refl _)
  have hz1 := S1.rel.freshF ha
  refine ⟨_, _, F, L, cs, _, _, _, s1.gens.size, rfl, l1.trans (fzPut_le hz1), (g1.trans (GExt.push G1 (x := .fresh (.func body (fnFe scope L cs (fd.qualname ++ ".<locals>.") a fd.code).env)) rfl)), ?_, hF.toNil, hd, ?_, ?_, ⟨{ cls := .type "generator", data := .fields #[.int s1.gens.size 0, .str fd.name s1.toks, .str fd.qualname (s1.toks + 1)] }, .str fd.name s1.toks, .str fd.qualname (s1.toks + 1), fzPut_same .., rfl, rfl, rfl⟩⟩
  · rw [S1.rel.gens]; exact g1.size
  · have S2 : St C (fzPut fz1 s1.heap.objs.size { cls := .type "generator", data := .fields #[.int s1.gens.size 0, .str fd.name s1.toks, .str fd.qualname (s1.toks + 1)] }) led (Un F Y) G1 _ := ⟨S1.dj, S1.rel.allocF ha (s1.toks + 1 + 1) (fun b o e => Heap.get?_push_of_some _ e) (Heap.get?_push_size _ rfl)⟩
    have S3 := S2.withGens (G1.push (.fresh (.func body (fnFe scope L cs (fd.qualname ++ ".<locals>.") a fd.code).env)))
    have e := S1.rel.gens
    rw [← e] at S3
    rw [← e]
    exact S3
  · rw [S1.rel.gens]
    show (G1.push _)[G1.size]? = _
    rw [Array.getElem?_push_size]
end Sc

namespace Sc
section
variable {C : Cx} {Y led : Led} {k : Nat}
theorem St.gone {fz : Fz} {G : Array GenState} {s : Shared} (S : St C fz led Y G s) {a : Addr} {m : M} (ha : led a = some m) {h' : Heap} (hx : Heap.ExtBut a s.heap h') : St C fz (del led a) Y G { s with heap := h' } := by
  have hY := S.dj.of_some ha
  have S1 : St C fz (del led a) Y G s := ⟨S.dj.del a, by rw [Un_del _ _ _ hY]; exact S.rel.forget (fun b m' e => by
    unfold del at e
    split at e
    · cases e
    · exact e)⟩
  have hn : Un (del led a) Y a = none := Un_none.mpr ⟨by unfold del; rw [if_pos rfl], hY⟩
  refine ⟨S1.dj, S1.rel.many2 s.toks (· = a) (fun b hb => ?_) (fun b hb => ?_) (fun b o hb e => hx b o hb e) fun b m' hb e => by subst hb; rw [hn] at e; cases e⟩
  · subst hb
    cases q : fz b with
    | none => rfl
    | some o => have := S.rel.apart b o q; rw [Un_left ha] at this; cases this
  · subst hb; exact S.rel.new _ _ (Un_left ha)
theorem NextW.lit {a : Addr} {i : Nat} {xs : List D} {P : Option D → Led → Prop} (ha : led a = some (.lit i xs)) (h1 : ∀ d, xs[i]? = some d → P (some d) (upd led a (.lit (i + 1) xs))) (h2 : xs[i]? = none → P none (del led a)) : NextW C Y led k a P := by
  intro A fz G s hA S
  obtain ⟨l, us, n, hz, hd, hit⟩ := S.atL ha
  have hL : s.heap.IsList l us.toArray := ⟨_, S.rel.fzIn _ _ hz, rfl, n, rfl⟩
  cases hx : us[i]? with
  | some v =>
    obtain ⟨d, e1, e2⟩ := hd.get' hx
    refine wpAny_pyNext_list_item hit hL (by simpa using hx) fun h' hi hs => ?_
    exact ⟨fz, G, d, _, .refl _, .refl _, e2, S.wr ha (m := .lit (i + 1) xs) s.toks hs.extBut ⟨l, us, n, hz, hd, hi⟩, h1 d e1⟩
  | none =>
    have hn : xs[i]? = none := by
      cases q : xs[i]? with
      | none => rfl
      | some d => obtain ⟨v, e, _⟩ := hd.get q; rw [hx] at e; cases e
    refine wpAny_pyNext_list_end hA.r.1 hit hL (by simpa using hx) fun h' hs => ?_
    exact ⟨fz, G, _, .refl _, .refl _, S.gone ha hs, h2 hn⟩
/-- an iterator is asked for -/
noncomputable def IterN (C : Cx) (Y led : Led) (d : D) (K : Addr → Led → Prop) : Prop :=
  ∀ A fz G s v, Room 0 A → St C fz led Y G s → Den fz v d → wpAny (model C.prog C.w) A (pyIter v) (fun it s' => ∃ I fz' led', it = .ref I ∧ FzLe fz fz' ∧ St C fz' led' Y G s' ∧ K I led') No s
theorem IterN.lst {xs : List D} {K : Addr → Led → Prop} (h : ∀ I, led I = none → K I (upd led I (.lit 0 xs))) : IterN C Y led (.lst xs) K := by
  intro A fz G s v hA S e
  cases e with
  | lst e1 e2 =>
    rename_i a vs n
    have h1 : s.heap.get? a = some (lstObj vs.toArray n) := S.rel.fzIn _ _ e1
    have ha := get_size s.heap (Nat.le_refl _)
    refine wpAny_pyIter_list (items := vs.toArray) ⟨_, h1, rfl, n, rfl⟩ ⟨_, fz, _, rfl, .refl _, S.newL ha (m := .lit 0 xs) s.toks (fun b o e => Heap.get?_push_of_some _ e) ⟨a, vs, n, e1, e2, _, Heap.get?_push_size _ rfl, rfl, rfl⟩, h _ (S.fresh ha).1⟩
end
/-- an exception of the interpreter's own kind, on its way -/
noncomputable def Flying (C : Cx) (fz : Fz) (T : Led) (l : List Env) (e : Addr) (txt : Str) (h : Heap) : Prop :=
  ∃ base t tk, Cov C fz T base h ∧ Heap.FlyingW base l e (.type "ValueError") (.ref t) h ∧ h.TupAt t [.str txt tk]
noncomputable def Held (C : Cx) (fz : Fz) (T : Led) (l : List Env) (e : Addr) (L : Addr) (txt : Str) (h : Heap) : Prop :=
  ∃ base t tk, Cov C fz T base h ∧ Heap.HeldW base l e (.type "ValueError") (.ref t) L h ∧ h.TupAt t [.str txt tk]
section
variable {C : Cx} {fz : Fz} {led Y : Led} {G : Array GenState} {s : Shared} {M : Model} {A : Around} {E : Value → Shared → Prop} {l : List Env} {e L : Addr} {txt : Str} {env : Env}
theorem Flying.noted {Q : Unit → Shared → Prop} (S : St C fz led Y G s) (hfr : A.frames = some (env :: l)) (hf : env.frame = some L) (x : Flying C fz (Un led Y) (env :: l) e txt s.heap)
    (h : ∀ h', St C fz led Y G { s with heap := h' } → Held C fz (Un led Y) (env :: l) e L txt h' → Q () { s with heap := h' }) : wpAny M A (noteFrame (.ref e) env) Q E s := by
  obtain ⟨base, t, tk, hc, hw, ht⟩ := x
  refine wpAny_looks_onW hfr hf hw fun h' hh hu => ?_
  have hx_4 := S.slots s.toks hc hh.1 hu; have S' := hx_4.1; have hc' := hx_4.2
  exact h h' S' ⟨base, t, tk, hc', hh, ht.of_slots hu⟩
theorem Held.own {Q : Unit → Shared → Prop} (S : St C fz led Y G s) (hf : env.frame = some L) (x : Held C fz (Un led Y) l e L txt s.heap)
    (h : ∀ h', St C fz led Y G { s with heap := h' } → Held C fz (Un led Y) l e L txt h' → Q () { s with heap := h' }) : wpAny M A (do
        if (← field (.ref e) 1) == Value.none then unsupported "frame.own-activation:exception-without-traceback"
        setFlight (.ref e) env.frame) Q E s := by
  obtain ⟨base, t, tk, hc, hw, ht⟩ := x
  refine own_held hf hw fun h' hh hu => ?_
  have hx_6 := S.slots s.toks hc hh.1 hu; have S' := hx_6.1; have hc' := hx_6.2
  exact h h' S' ⟨base, t, tk, hc', hh, ht.of_slots hu⟩
theorem Held.again {Q : Unit → Shared → Prop} (hf : env.frame = some L) (x : Held C fz (Un led Y) l e L txt s.heap) (h : Q () s) : wpAny M A (noteFrame (.ref e) env) Q E s :=
  let ⟨base, t, tk, hc, hw, ht⟩ := x; wpAny_noteFrame_againW hf hw.2.2.2 h
theorem Held.lands {Q : Unit → Shared → Prop} (S : St C fz led Y G s) (x : Held C fz (Un led Y) l e L txt s.heap)
    (h : ∀ h', St C fz led Y G { s with heap := h' } → Flying C fz (Un led Y) l e txt h' → Q () { s with heap := h' }) : wpAny M A (setFlight (.ref e) none) Q E s := by
  obtain ⟨base, t, tk, hc, hw, ht⟩ := x
  refine wpAny_landsW hw fun h' hh hu => ?_
  have hx_8 := S.slots s.toks hc hh.1 hu; have S' := hx_8.1; have hc' := hx_8.2
  exact h h' S' ⟨base, t, tk, hc', hh, ht.of_slots hu⟩
theorem Held.leaves {Q : Unit → Shared → Prop} (S : St C fz led Y G s) (hf : env.frame = some L) (x : Held C fz (Un led Y) (env :: l) e L txt s.heap)
    (h : ∀ h', St C fz led Y G { s with heap := h' } → Flying C fz (Un led Y) l e txt h' → Q () { s with heap := h' }) : wpAny M A (leaving env (.ref e)) Q E s := by
  unfold leaving
  refine wpAny_bind (x.again hf (x.lands S fun h' S' hh => h h' S' ?_))
  obtain ⟨base, t, tk, hc, ⟨k1, k2, ⟨_, _, k3⟩, k4⟩, ht⟩ := hh
  exact ⟨base, t, tk, hc, ⟨k1, k2, k3, k4⟩, ht⟩
theorem Flying.less {T' : Led} (x : Flying C fz (Un led Y) l e txt s.heap) (i : ∀ a m, T' a = some m → Un led Y a = some m) : Flying C fz T' l e txt s.heap :=
  let ⟨base, t, tk, hc, r⟩ := x; ⟨base, t, tk, hc.less i, r⟩
/-- a new exception is noted -/
theorem made_noted {Q : Unit → Shared → Prop} {tk : Tok} (S : St C fz led Y G s) (hfr : A.frames = some (env :: l)) (hfY : FrY A Y) (hf : env.frame = some L) {h₁ : Heap} (hm : Heap.MadeExc s.heap h₁ e "ValueError" [.str txt tk])
    (h : ∀ h', St C fz led Y G { s with heap := h' } → Held C fz (Un led Y) (env :: l) e L txt h' → Q () { s with heap := h' }) : wpAny M A (noteFrame (.ref e) env) Q E { s with heap := h₁ } := by
  obtain ⟨l', el', hl'⟩ := hfY
  rw [hfr] at el'; cases el'
  obtain ⟨base, hc, hff⟩ := FrY.base hl' S
  obtain ⟨t, he, htn, ht⟩ := hm.there
  have st1 : base.StaysIn h₁ := fun b o hb => hm.keeps b o (hc.stays b o hb)
  have fresh : ∀ b, s.heap.get? b = none → base.get? b = none := fun b hb => by
    cases q : base.get? b with
    | none => rfl
    | some o => have := hc.stays b o q; rw [hb] at this; cases this
  have S1 := S.ext s.toks hm.keeps
  have hc1 : Cov C fz (Un led Y) base h₁ := ⟨hc.cov, st1⟩
  refine note_new (s := { s with heap := h₁ }) hfr (hff.of_keeps fun b o hb _ => ⟨o, hm.keeps b o hb, rfl⟩) hf he st1 (fresh _ hm.new) rfl rfl rfl fun h' hh hu => ?_
  have hx_12 := St.slots S1 s.toks hc1 hh.1 hu; have S' := hx_12.1; have hc' := hx_12.2
  exact h h' S' ⟨base, t, tk, hc', hh, Heap.TupAt.of_slots ⟨_, _, ht, rfl, rfl⟩ hu⟩
end
end Sc

namespace Sc
set_option tactic.hygienic false
section
variable {C : Cx} {led : Led} {fe : Fe} {vs : Vars} {k : Nat} {A : Around} {P : End → Shared → Prop} {c : Code} {fs : List Frame} {s : Shared} {fz : Fz} {F X : Led} {G : Array GenState}
  {K : Flow → Sem PySem.Fin} {H : Value → Sem PySem.Fin} {gd : Bool → Bool} {lv : List Value → List Value}
/-- a statement that yields nothing -/
theorem sgm_st {st : Stmt} {Q : Fl → Vars → Led → Prop} (hA : RoomF k (A.over c fs) fe X) (hF : FOk fe vs F X) (hd : Dj F X) (S : St C fz led (Un F X) G s) (h : WS C led fe vs k (exec st fe.env) Q)
    (cont : ∀ f s1 fz1 G1 F1 vs1 led1 fl, FzLe fz fz1 → GExt G G1 → FlDen fz1 f fl → FOk fe vs1 F1 X → Dj F1 X → St C fz1 led1 (Un F1 X) G1 s1 → Q fl vs1 led1 → Sgm (model C.prog C.w) A P c (K f) fs s1) :
    Sgm (model C.prog C.w) A P c ((exec st fe.env).wrap K H gd lv) fs s :=
  sgm_plain (chainF (h F X hF hd _ fz G s hA S) cont)
theorem sgm_if {test : Expr} {body orelse : List Stmt} {pos : Pos} {Q : Bool → Led → Prop} (hA : RoomF k (A.over c fs) fe X) (hF : FOk fe vs F X) (hd : Dj F X) (S : St C fz led (Un F X) G s) (h : WB C led fe vs k (isTrue test fe.env (eval test fe.env)) Q)
    (cont : ∀ b s1 fz1 G1 led1, FzLe fz fz1 → GExt G G1 → St C fz1 led1 (Un F X) G1 s1 → Q b led1 → (b = true → Sgm (model C.prog C.w) A P c ((execs body fe.env).wrap K H gd lv) fs s1) ∧ (b = false → Sgm (model C.prog C.w) A P c ((execs orelse fe.env).wrap K H gd lv) fs s1)) :
    Sgm (model C.prog C.w) A P c ((exec (.If test body orelse pos) fe.env).wrap K H gd lv) fs s :=
  sgm_If (chainB (h F X hF hd _ fz G s hA S) cont)
theorem sgm_yld {e : Expr} {ypos pos : Pos} {Q : D → Led → Prop} (hfs : splitAtGen fs = none) (hA : RoomF k (A.over c fs) fe X) (hF : FOk fe vs F X) (hd : Dj F X) (S : St C fz led (Un F X) G s) (h : WE C led fe vs k (eval e fe.env) Q)
    (cont : ∀ v s1 fz1 G1 d led1, FzLe fz fz1 → GExt G G1 → Den fz1 v d → St C fz1 led1 (Un F X) G1 s1 → Q d led1 →
      ∀ (k : Resume → Sem PySem.Fin) l p, (∀ A' P' s'', Sgm (model C.prog C.w) A' P' c (K .next) fs s'' → Sgm (model C.prog C.w) A' P' c (k (.send .none)) fs s'') → P (.susp v (gd false) l k c p fs) s1)
    (hco : autoParam (fe.env.scope.isCoroutine = false) rflA) (hi : autoParam (interactive fe.env = false) rflA) :
    Sgm (model C.prog C.w) A P c ((exec (.Expr (.Yield (some e) ypos) pos) fe.env).wrap K H gd lv) fs s :=
  sgm_Yield hfs (chain (h F X hF hd _ fz G s hA S) cont) hco hi
end
noncomputable abbrev behK (rest : List Stmt) (env : Env) (K : Flow → Sem PySem.Fin) (H : Value → Sem PySem.Fin) : Flow → Sem PySem.Fin := fun f => match f with | .next => (execs rest env).wrap K H id id | f => K f
/-- the place of a generator's loop in its def -/
noncomputable abbrev giFr (fe : Fe) (body : List Stmt) (p : Pos) : Frame :=
  .ret (fun r => (ownH fe.env r).wrap (behK [] fe.env funcK (leaveH fe.env)) (leaveH fe.env) id id) none false [] (.func body fe.env) p []
noncomputable abbrev giWr (fe : Fe) (tgt : Expr) (it : Value) (fb : List Stmt) (rest1 rest2 : List Stmt) (p : Pos) : Frame :=
  .ret (fun r => (ownH fe.env r).wrap (behK rest1 fe.env (behK rest2 fe.env (forK tgt it fb [] fe.env) (noteH fe.env)) (noteH fe.env)) (noteH fe.env) id id) none false [] (.forLoop tgt it fb [] fe.env) p []
theorem room_for {k : Nat} {A : Around} {fe : Fe} {X : Led} {body : List Stmt} {p : Pos} {c : Code} (hA : RoomY (k + 1) A X) (hk : fe.env.scope.kind = .function) (hf : fe.env.frame = some fe.env.locals) (hc : c.weight = 0) (hu : c.cUnits = 0) :
    RoomF k (A.over c [giFr fe body p]) fe X ∧ (A.over c [giFr fe body p]).frames = A.frames.map (fe.env :: ·) := by
  have hfr : (A.over c [giFr fe body p]).frames = A.frames.map (fe.env :: ·) := by
    refine (?_ : pushEnvs c.envs (pushEnvs (envsOf [(Code.func body fe.env, p)]) A.frames) = _)
    rw [Code.envs_of_weight hc]; rfl
  refine ⟨⟨⟨hA.r.1, ?_, ?_⟩, ?_⟩, hfr⟩
  · refine (?_ : A.depth + frameCount [(Code.func body fe.env, p)] + c.weight + k < 1000)
    rw [hc]
    have : frameCount [(Code.func body fe.env, p)] = 1 := rfl
    have := hA.r.2.1
    lia
  · refine (?_ : A.units + unitsOf [(Code.func body fe.env, p)] + c.cUnits + 20 * k < 9900)
    rw [hu]
    have : unitsOf [(Code.func body fe.env, p)] = 3 := rfl
    have := hA.r.2.2
    lia
  · obtain ⟨l, e, q⟩ := hA.fr
    refine ⟨fe.env :: l, by rw [hfr, e]; rfl, fun x hx => ?_⟩
    rcases List.mem_cons.mp hx with rfl | hx
    · exact ⟨hk, _, hf, .inl rfl⟩
    · obtain ⟨a, L, m, b, c⟩ := q x hx; exact ⟨a, L, b, .inr ⟨m, c⟩⟩
theorem room_while {k : Nat} {A : Around} {fe : Fe} {X : Led} {body : List Stmt} {p p2 : Pos} {c : Code} {tgt : Expr} {it : Value} {fb r1 r2 : List Stmt} (hA : RoomY (k + 1) A X) (hk : fe.env.scope.kind = .function) (hf : fe.env.frame = some fe.env.locals) (hc : c.weight = 0) (hu : c.cUnits = 0) :
    RoomF k (A.over c [giWr fe tgt it fb r1 r2 p2, giFr fe body p]) fe X := by
  have hfr : (A.over c [giWr fe tgt it fb r1 r2 p2, giFr fe body p]).frames = A.frames.map (fe.env :: ·) := by
    refine (?_ : pushEnvs c.envs (pushEnvs (envsOf [(Code.forLoop tgt it fb [] fe.env, p2), (Code.func body fe.env, p)]) A.frames) = _)
    rw [Code.envs_of_weight hc]; rfl
  refine ⟨⟨hA.r.1, ?_, ?_⟩, ?_⟩
  · refine (?_ : A.depth + frameCount [(Code.forLoop tgt it fb [] fe.env, p2), (Code.func body fe.env, p)] + c.weight + k < 1000)
    rw [hc]
    have : frameCount [(Code.forLoop tgt it fb [] fe.env, p2), (Code.func body fe.env, p)] = 1 := rfl
    have := hA.r.2.1
    lia
  · refine (?_ : A.units + unitsOf [(Code.forLoop tgt it fb [] fe.env, p2), (Code.func body fe.env, p)] + c.cUnits + 20 * k < 9900)
    rw [hu]
    have : unitsOf [(Code.forLoop tgt it fb [] fe.env, p2), (Code.func body fe.env, p)] = 3 := rfl
    have := hA.r.2.2
    lia
  · obtain ⟨l, e, q⟩ := hA.fr
    refine ⟨fe.env :: l, by rw [hfr, e]; rfl, fun x hx => ?_⟩
    rcases List.mem_cons.mp hx with rfl | hx
    · exact ⟨hk, _, hf, .inl rfl⟩
    · obtain ⟨a, L, m, b, c⟩ := q x hx; exact ⟨a, L, b, .inr ⟨m, c⟩⟩
theorem room_func {k : Nat} {A : Around} {fe : Fe} {X : Led} {body : List Stmt} (hA : RoomY (k + 1) A X) (hk : fe.env.scope.kind = .function) (hf : fe.env.frame = some fe.env.locals) : RoomF k (A.over (.func body fe.env) []) fe X := by
  refine ⟨⟨hA.r.1, ?_, ?_⟩, ?_⟩
  · refine (?_ : A.depth + 0 + 1 + k < 1000)
    have := hA.r.2.1
    lia
  · refine (?_ : A.units + 0 + 3 + 20 * k < 9900)
    have := hA.r.2.2
    lia
  · obtain ⟨l, e, q⟩ := hA.fr
    refine ⟨fe.env :: l, by show pushEnvs [fe.env] (pushEnvs [] A.frames) = _; rw [e]; rfl, fun x hx => ?_⟩
    rcases List.mem_cons.mp hx with rfl | hx
    · exact ⟨hk, _, hf, .inl rfl⟩
    · obtain ⟨a, L, m, b, c⟩ := q x hx; exact ⟨a, L, b, .inr ⟨m, c⟩⟩
end Sc

namespace Sc
set_option tactic.hygienic false
section
variable {C : Cx} {led : Led} {fe : Fe} {vs : Vars} {k : Nat} {Q : Fl → Vars → Led → Prop}
theorem WT.sub {vs' : Vars} {t : Sem Flow} (h : WT C led fe vs k t Q) (i : Sub vs vs') : WT C led fe vs' k t Q := fun F X hF hd => h F X (hF.sub i) hd
noncomputable abbrev AfterT (C : Cx) (fe : Fe) (k : Nat) (rest : List Stmt) (Q : Fl → Vars → Led → Prop) : Fl → Vars → Led → Prop := fun fl vs led =>
  match fl with
  | .next => WT C led fe vs k (execs rest fe.env) Q
  | fl => Q fl vs led
theorem WT.cons {st : Stmt} {rest : List Stmt} (h : WT C led fe vs k (exec st fe.env) (AfterT C fe k rest Q)) : WT C led fe vs k (execs (st :: rest) fe.env) Q := by
  intro F X hF hd A fz G s hA hfr S
  refine wpAny_execs_cons (chainF (h F X hF hd A fz G s hA hfr S) fun f s1 fz1 G1 F1 vs1 led1 fl l1 g1 e1 hF1 hd1 S1 h1 => ?_)
  induction e1 using FlDen.E with
  | next => exact finF (h1 F1 X hF1 hd1 A fz1 G1 s1 hA hfr S1) l1 g1
  | brk => exact ⟨fz1, G1, F1, vs1, led1, .brk, l1, g1, trivial, hF1, hd1, S1, h1⟩
  | cont => exact ⟨fz1, G1, F1, vs1, led1, .cont, l1, g1, trivial, hF1, hd1, S1, h1⟩
  | ret v d e1 => exact ⟨fz1, G1, F1, vs1, led1, .ret d, l1, g1, e1, hF1, hd1, S1, h1⟩
end
theorem CallW.gfnT {C : Cx} {Y led : Led} {k : Nat} {a : Addr} {st : Stmt} {name name' : Str} {args : Arguments} {body : List Stmt} {scope : Scope} {pos : Pos} {ds : List D} {Q : D → Led → Prop} (h : GFn C a st)
    (hst : st = .FunctionDef name args body [] none [] scope none name' pos) (vs : Vars) (hok : argsOk' args (vs.map (·.1)) scope = true) (hds : ds = vs.map (·.2))
    (hb : ∀ L cs q code, WT C led (fnFe scope L cs q a code) vs k (execs body (fnFe scope L cs q a code).env) (Back Q)) : CallW C Y led (k + 1) (.ref a) ds Q := by
  obtain ⟨fd, h⟩ := h
  exact (CodeW.ofT (h.1 Y led) (h.is hst) hok hds CloOk.nil rfl fun L cs _ F X hF => hb L cs _ _ F X hF.toNil).call
/-- the names are the frame's own -/
noncomputable def okNames (fe : Fe) (vs : Vars) : Bool := vs.all fun p => fe.env.kindOf p.1 == some .local || fe.ow.contains p.1
theorem FOk.back {fe : Fe} {vs : Vars} {F R X : Led} (h : FOk fe vs F (Un R X)) (hk : okNames fe vs = true) : FOk fe vs F X where
  fn := h.fn
  glob := h.glob
  blt := h.blt
  loc := h.loc
  cel := fun x d e q => by
    obtain ⟨c, a, b⟩ := h.cel x d e q
    refine ⟨c, a, ?_⟩
    have := List.all_eq_true.mp hk _ (mem_of_lookup e)
    simp only [Bool.or_eq_true, beq_iff_eq, List.contains_iff_mem] at this
    rcases this with z | z
    · exact absurd z q
    · obtain ⟨c', dd, e1, e2⟩ := h.own x z
      rw [a] at e1; cases e1
      rw [Un_left e2] at b ⊢; exact b
  own := h.own
  inj := h.inj
theorem FOk.front {fe : Fe} {vs : Vars} {F R X : Led} (h : FOk fe vs F X) (hd : Dj R X) : FOk fe vs F (Un R X) :=
  h.up fun a m e => by rw [Un_right ((hd a).resolve_right (by rw [e]; exact Option.some_ne_none _))]; exact e
theorem RoomF.front {k : Nat} {A : Around} {fe : Fe} {R X : Led} (h : RoomF k A fe X) (hd : Dj R X) : RoomF k A fe (Un R X) :=
  h.upX fun a m e => by rw [Un_right ((hd a).resolve_right (by rw [e]; exact Option.some_ne_none _))]; exact e
/-- a call whose end is told freely -/
theorem call_free {C : Cx} {led : Led} {fe : Fe} {vs : Vars} {k : Nat} {fz : Fz} {F X : Led} {G : Array GenState} {A : Around} {s : Shared} {func : Expr} {pos : Pos} {args : List Expr} {R : Value → Shared → Prop}
    (hF : FOk fe vs F X) (hd : Dj F X) (hA : RoomF k A fe X) (S : St C fz led (Un F X) G s)
    (h : WE C led fe vs k (eval func fe.env) fun f led1 => WL C led1 fe vs k (spliced (backTo pos (starEach args fe.env))) fun ds led2 => (∀ Y, KeepOk C Y led2 f) ∧
      ∀ fz2 G2 s2 fv vals, FzLe fz fz2 → GExt G G2 → St C fz2 led2 (Un F X) G2 s2 → Den fz2 fv f → Dens fz2 vals ds → wpAny (model C.prog C.w) A (call fv vals) R No s2)
    (he : autoParam (eval (.Call func args [] pos) fe.env = (do callWith pos (← eval func fe.env) [] (backTo pos (starEach args fe.env)) (backToKw pos (keywordEach [] fe.env)))) rflA)
    (hp : autoParam ((starEach args fe.env).all (fun x => !x.1) = true) rflA) (hp2 : autoParam ((backTo pos (starEach args fe.env)).any (·.1) = false) rflA) :
    wpAny (model C.prog C.w) A (eval (.Call func args [] pos) fe.env) R No s := by
  rw [he]
  refine wpAny_bind (chain (h F X hF hd A fz G s hA S) fun fv s0 fz0 G0 f led0 l0 g0 e1 S0 h0 => ?_)
  show wpAny _ _ (callWith pos fv [] (backTo pos (starEach args fe.env)) []) _ _ _
  unfold callWith
  refine wpAny_bind (wpAny_holding (evalArgs_any hp (chainL (h0 F X hF hd A fz0 G0 s0 hA S0) fun vs1 s1 fz1 G1 ds led1 l1 g1 e3 S1 h1 => ?_)))
  refine wpAny_bind (wpAny_standAt ?_)
  have hk := h1.1; have hc := h1.2
  simp only [hp2, List.any_nil, Bool.or_false]
  have tail : ∀ {t : Sem Value}, wpAny (model C.prog C.w) A t R No s1 → wpAny (model C.prog C.w) A (t >>= fun r => holding [r] point >>= fun _ => pure r) R No s1 :=
    fun ht => wpAny_bind (wpAny_mono ht (fun r s₂ hr => wpAny_bind (wpAny_holding (wpAny_point (wpAny_pure hr)))) fun _ _ x => x)
  have call0 := hc fz1 G1 s1 fv ([] ++ vs1) (l0.trans l1) (g0.trans g1) S1 (e1.mono l1) e3
  refine wpAny_bind (hk _ A fz1 G1 s1 fv _ S1 (e1.mono l1) fun b => ?_)
  cases b with
  | frame =>
    simp only
    split
    · exact tail call0
    · exact tail (by unfold callMarked; exact Calls.wpAny_keep call0)
  | boundFrame =>
    simp only
    split
    · exact tail call0
    · exact tail (by unfold callMarked; exact Calls.wpAny_keep call0)
  | machine => exact tail call0
  | caller => exact tail (wpAny_operating call0)
end Sc

namespace Sc
set_option tactic.hygienic false
theorem Flying.lands {C : Cx} {fz : Fz} {led Y : Led} {G : Array GenState} {s : Shared} {M : Model} {A : Around} {E : Value → Shared → Prop} {l : List Env} {e : Addr} {txt : Str} {Q : Unit → Shared → Prop} (S : St C fz led Y G s) (x : Flying C fz (Un led Y) l e txt s.heap)
    (h : ∀ h', St C fz led Y G { s with heap := h' } → Flying C fz (Un led Y) l e txt h' → Q () { s with heap := h' }) : wpAny M A (setFlight (.ref e) none) Q E s := by
  obtain ⟨base, t, tk, hc, ⟨k1, k2, k3, k4⟩, ht⟩ := x
  refine wpAny_setFlight_noneW k1 k3 k4.at fun h' a1 a2 a3 a4 => ?_
  have hu : s.heap.UpToSlots h' := fun b o hb hn => ⟨o.slots, a4 b o hb hn⟩
  have hx_0 := S.slots s.toks hc a1 hu; have S' := hx_0.1; have hc' := hx_0.2
  exact h h' S' ⟨base, t, tk, hc', ⟨a1, k2, a2, a3⟩, ht.of_slots hu⟩
/-- the words of an exception can be had -/
noncomputable def Says (C : Cx) (e : Addr) (txt : Str) (s : Shared) : Prop :=
  ∀ (A : Around) (Q : Value → Shared → Prop) (E : Value → Shared → Prop) (s' : Shared), (∀ b o, s.heap.get? b = some o → s'.heap.get? b = some o) → A.units + 2 < cLine → (∀ tk, Q (.str txt tk) s') → wpAny (model C.prog C.w) A (call (.type "str") [.ref e]) Q E s'
theorem says_of {C : Cx} {e t : Addr} {txt : Str} {tk : Tok} {s : Shared} (x : s.heap.ExcAt e "ValueError" (.ref t)) (ht : s.heap.TupAt t [.str txt tk]) : Says C e txt s := by
  intro A Q E s' hk hu hq
  obtain ⟨o, vs, ho, hc, hd, h0⟩ := x
  exact P.str_of_exc_one PySem.F.excStr_ValueError hu ⟨o, vs, hk _ _ ho, hc, hd, h0⟩ (ht.keeps hk) (hq tk)
theorem ve_base : isSubtype (.type "ValueError") (.type "BaseException") = pure true := by rw [isSubtype_type]; kernel_rfl
theorem ve_self : isSubtype (.type "ValueError") (.type "ValueError") = pure true := by rw [isSubtype_type]; kernel_rfl
theorem ve_notup : isSubtype (.type ((Manifest.find? "ValueError").elim "type" fun x => x.metatype)) (.type "tuple") = pure false := by
  have : ((Manifest.find? "ValueError").elim "type" fun x => x.metatype) = "type" := by decide +kernel
  rw [this, isSubtype_type]; kernel_rfl
theorem catch_ve {C : Cx} {fe : Fe} {vs : Vars} {k : Nat} {fz0 fz : Fz} {led F X : Led} {G0 G : Array GenState} {A : Around} {s : Shared} {l : List Env} {e L : Addr} {txt n : Str} {suite : Stmt} {np hp : Pos} {Qs : Fl → Vars → Led → Prop} {E : Value → Shared → Prop}
    (l0 : FzLe fz0 fz) (g0 : GExt G0 G) (hF : FOk fe vs F X) (hd : Dj F X) (S : St C fz led (Un F X) G s) (hloc : fe.env.kindOf n = some .local) (hL : fe.env.frame = some L) (hh : Held C fz (Un led (Un F X)) l e L txt s.heap)
    (hve : C.mg "ValueError" = none) (hkk : fe.env.kindOf "ValueError" = some .globalImplicit)
    (hsuite : ∀ A' s' F', A'.units = A.units → FOk fe (vset vs n (.ref e)) F' X → Dj F' X → St C fz led (Un F' X) G s' → Says C e txt s' →
      wpAny (model C.prog C.w) A' (execs [suite] fe.env) (fun f s4 => ∃ fz4 G4 d led4 v, f = .ret v ∧ FzLe fz fz4 ∧ GExt G G4 ∧ Den fz4 v d ∧ St C fz4 led4 (Un F' X) G4 s4 ∧ Qs (.ret d) [] led4) No s') :
    wpAny (model C.prog C.w) A (noteFrame (.ref e) fe.env) (fun _ s₂ => wpAny (model C.prog C.w) A (setFlight (.ref e) none) (fun _ s₃ => wpAny (model C.prog C.w) A (handleBy (.ref e) fe.env [.ExceptHandler (some (.Name "ValueError" np)) (some n) [suite] hp]) (Psf C fz0 X fe G0 Qs) E s₃) E s₂) E s := by
  refine hh.again hL (hh.lands S fun h1 S1 hf1 => ?_)
  refine wpAny_handleBy_builtin_as (X := "ValueError") (T := "ValueError") (b := true) ve_base ve_notup ve_self ?_
  have hbb : C.mb "ValueError" = some (.type "ValueError") := (C.bb "ValueError" (by decide)).trans (by decide +kernel)
  refine Calls.Name_function_global hF.fn hkk (Calls.loadGlobal_builtin (by rw [hF.glob]; exact S1.glob) hve (by rw [hF.blt]; exact S1.blt) hbb ?_) (by with_unfolding_all rfl)
  refine ⟨rfl, ?_, ?_⟩
  · obtain ⟨base, t, tk, hc, hw, ht⟩ := hf1
    obtain ⟨ob, ho1, ho2⟩ := hw.there
    exact ⟨ob, ho1, ho2⟩
  · rw [if_pos rfl]
    refine Flying.lands S1 hf1 fun h2 S2 hf2 => ?_
    obtain ⟨m, hm, hm2⟩ := hF.loc
    obtain ⟨mv, hn, ho⟩ := S2.at (Un_left hm)
    refine wpAny_storeName_local hloc hn (fun h' hn' hs' => ?_) (by rw [hF.fn]; rfl)
    obtain ⟨S3, d3⟩ := S2.frame hd hm (m := .ns (vset m n (.ref e))) (s.toks + 1) hs'.extBut ⟨_, hn', fun y => by
      rw [vset_lookup]
      by_cases q : y = n
      · rw [if_pos q, if_pos q]; intro e' he; cases he; exact ⟨_, rfl, .ref e⟩
      · rw [if_neg q, if_neg q]; exact ho y⟩
    have hF3 := hF.put_local (d := .ref e) hm hm2 hloc
    have hsays : Says C e txt { s with heap := h', toks := s.toks + 1 } := by
      obtain ⟨base, t, tk, hc, ⟨_, _, _, oe, vs', T, oT, ts, he, ⟨hcls, h0⟩, hdd, _⟩, ht⟩ := hf2
      obtain ⟨oL, es, ep, hoL, hdL, _⟩ := hn
      have ne1 : e ≠ fe.env.locals := fun q => by rw [q, hoL] at he; cases he; rw [hdL] at hdd; cases hdd
      obtain ⟨ot, nt, hot, hct, hdt⟩ := ht
      have ne2 : t ≠ fe.env.locals := fun q => by rw [q, hoL] at hot; cases hot; rw [hdL] at hdt; cases hdt
      refine says_of (t := t) (tk := tk) ⟨oe, vs', hs'.extBut _ _ ne1 he, hcls, hdd, h0⟩ ⟨ot, nt, hs'.extBut _ _ ne2 hot, hct, hdt⟩
    refine wpAny_mono (hsuite (A.mark (some (.ref e))) _ _ rfl hF3 d3 S3 hsays) (fun f s4 h4 => ?_) fun _ _ x => x.elim
    obtain ⟨fz4, G4, d, led4, v, rfl, l4, g4, e4, S4, q4⟩ := h4
    obtain ⟨mv4, hn4, _⟩ := S4.at (Un_left (upd_same F fe.env.locals (.ns (vset m n (.ref e)))))
    refine wpAny_nameGoes hloc hn4 (by rw [hF.fn]; rfl) fun h5 m5 hn5 hs5 => ?_
    obtain ⟨S5, d5⟩ := S4.frame d3 (upd_same F fe.env.locals (.ns (vset m n (.ref e)))) (m := .ns []) (s4.toks + 1) hs5.extBut ⟨_, hn5, fun y e' he => by cases he⟩
    refine ⟨fz4, G4, _, [], led4, .ret d, l0.trans l4, g0.trans g4, e4, ?_, d5, S5, q4⟩
    exact {
      fn := hF.fn, glob := hF.glob, blt := hF.blt, inj := hF.inj
      loc := ⟨[], upd_same .., fun x d h => by cases h⟩
      cel := fun x d h => by cases h
      own := fun y hy => by
        obtain ⟨c, dd, q1, q2⟩ := hF3.own y hy
        refine ⟨c, dd, q1, ?_⟩
        rw [upd_ne _ _ (fun z => ?_)]
        · exact q2
        · rw [z, upd_same] at q2; cases q2 }
end Sc

namespace Sc
theorem WUL.ec {C : Cx} {led : Led} {fe : Fe} {vs : Vars} {k : Nat} {e : Expr} {r : List Expr} {d : D} {ds : List D} {Q : Vars → Led → Prop} (h : WU C led fe vs k (PySem.assign e fe.env) d (KUL C fe k ((assignEach r fe.env).map (·.2)) ds Q))
    (he : autoParam (assignEach (e :: r) fe.env = (false, PySem.assign e fe.env) :: assignEach r fe.env) rflA) : WUL C led fe vs k ((assignEach (e :: r) fe.env).map (·.2)) (d :: ds) Q := by
  rw [he]; exact WUL.cons h
theorem WUL.en {C : Cx} {led : Led} {fe : Fe} {vs : Vars} {k : Nat} {Q : Vars → Led → Prop} (h : Q vs led) : WUL C led fe vs k ((assignEach [] fe.env).map (·.2)) [] Q := WUL.nil h
local macro_rules
  | `(tactic| walk_at "e") => do
    let xs := ("WE.nm WE.c_int WE.c_str WE.c_none WE.c_bool WE.binop WE.unop WE.cmp1 WE.ifexp WE.tuple WE.slice WE.sub_ WE.attr WL.nil WL.cons WP.none WP.some WB.cmp1 WB.boolop WB.and_cons WB.or_cons WB.and_nil WB.or_nil WB.tests_nil WB.tests_one WB.val TrY.int TrY.bool WS.cons WS.nil WS.ret WS.ret_none WS.if WS.assign WS.aug WS.brk WS.cont WS.expr WS.assign_tup WS.assign_attr WS.assign_sub WS.aug_attr WU.st WU.name WU.tuple WU.bind WUL.ec WUL.en WUL.cons WUL.nil WE.ld CallW.bitlen KcY.range1 OpY.add OpY.sub OpY.or OpY.xor OpY.lt OpY.le OpY.gt OpY.ge OpY.eqi OpY.nei OpY.neg OpY.inv OpY.iadd OpY.eqs OpY.nes WE.n_bi WE.n_int WE.n_fn KpI.blt KpI.typ KpK.blt KpK.typ".splitOn " ").toArray
    let ts ← xs.mapM fun x => `(tacticSeq| refine $(Lean.mkIdent ("Sc." ++ x).toName) ?_)
    `(tactic| with_reducible first
      | first $[| $ts]*
      | intro (_ : Led) | refine ⟨_, rfl, ?_⟩)
local macro_rules | `(tactic| walk_at "v") => `(tactic| repeat walk_at "e")
set_option maxRecDepth 100000
set_option tactic.hygienic true
/-- the n-th statement of the text -/
noncomputable def top2 (n : Nat) : Stmt := (PySem.Challenge.pw_sc0050_02.main.body.getD n (.Pass ⟨0, 0, 0, 0⟩))

theorem bits_le {a : Int} {n : Nat} (h : a.natAbs < 2 ^ n) : Builtin.Int.intBits a ≤ n := by
  unfold Builtin.Int.intBits
  by_cases ha : a = 0
  · subst ha; simp
  · have : (a == 0) = false := by simpa using ha
    rw [this]
    simp only [Bool.false_eq_true, if_false]
    have : a.natAbs ≠ 0 := by lia
    have := (Nat.log2_lt this).mpr h
    lia
theorem FOk.cloC {fe : Fe} {vs : Vars} {F X : Led} {sc : Scope} {cells : List (Str × Addr)} {fv : Vars} (hF : FOk fe vs F X) (hcs : ∀ x, x ∉ cellNames sc → fe.env.cells.lookup x = (closOf sc cells).lookup x)
    (hb : (freeNames sc).all (fun x => !(cellNames sc).contains x && (fv.map (·.1)).contains x) = true) (hb2 : fv.all (fun p => (freeNames sc).contains p.1 && !(fe.env.kindOf p.1 == some .local)) = true) (hn : decide (fv.map (·.1)).Nodup = true) (hs : Sub fv vs) : CloOk (closOf sc cells) (Un F X) fv := by
  refine FOk.clo' hF (fun x c e => ?_) (fun p hp => ?_) (of_decide_eq_true hn) hs
  · have hx_0 := closOf_lookup e; have hx := hx_0.1
    have := List.all_eq_true.mp hb x hx
    simp only [Bool.and_eq_true, Bool.not_eq_true', List.contains_eq_mem, decide_eq_false_iff_not, decide_eq_true_eq] at this
    exact ⟨by rw [hcs x this.1]; exact e, this.2⟩
  · have := List.all_eq_true.mp hb2 p hp
    simp only [Bool.and_eq_true, Bool.not_eq_true', List.contains_eq_mem, decide_eq_true_eq, beq_eq_false_iff_ne] at this
    exact ⟨this.2, _, closOf_get this.1⟩
/-- the division of a small number -/
theorem div2n1n_spec {C : Cx} {Y led : Led} {k : Nat} {f : Addr} {a b n : Int} {t : Tok} {Q : D → Led → Prop} (N : NoG C) (h : GFn C f (top2 4)) (hlim : C.mg "_DIV_LIMIT" = some (.int 4000 t))
    (hb : b ≠ 0) (hb2 : b.natAbs < 2 ^ 64) (ha : (Builtin.Int.intBits a : Int) - n ≤ 4000) (hq : Q (.tup [.int (a.fdiv b), .int (a.fmod b)]) led) : CallW C Y led (k + 1) (.ref f) [.int a, .int b, .int n] Q := by
  refine CallW.gfn h rfl [("a", .int a), ("b", .int b), ("n", .int n)] rfl rfl fun L cs q code => ?_
  repeat (first | walk_at "e" | (with_reducible refine WE.callY ?_))
  refine WE.m1 (pl := _) ?_
  repeat (first | walk_at "e" | (with_reducible refine WE.callY ?_))
  refine ⟨_, _, fun Y => GetM.bitlen, ?_⟩
  repeat (first | walk_at "e" | (with_reducible refine WE.callY ?_))
  refine ⟨fun _ => ?_, fun hc => absurd hc (by simpa using ha)⟩
  repeat (first | walk_at "e" | (with_reducible refine WE.callY ?_))
  exact CallW.divmod hb hb2 hq

theorem half_lt {k : Nat} (h : 1 < k) : k / 2 < k := Nat.div_lt_self (Nat.lt_trans Nat.zero_lt_one h) (by decide)
theorem half_pos {k : Nat} (h : 1 < k) : 0 < k / 2 := Nat.div_pos h (by decide)
theorem rest_lt {k : Nat} (h : 1 < k) : k - k / 2 < k := Nat.sub_lt (Nat.lt_trans Nat.zero_lt_one h) (half_pos h)
theorem rest_pos {k : Nat} (h : 1 < k) : 0 < k - k / 2 := Nat.sub_pos_of_lt (half_lt h)
theorem half_add (k : Nat) : k / 2 + (k - k / 2) = k := Nat.add_sub_cancel' (Nat.div_le_self k 2)
/-- the digits of a number, as _int2digits lays them: each time the lower half of the places first -/
noncomputable def digs (n : Nat) : Nat → Nat → List Int
  | x, k => if h : k ≤ 1 then [(x : Int)] else digs n (x % 2 ^ (n * (k / 2))) (k / 2) ++ digs n (x / 2 ^ (n * (k / 2))) (k - k / 2)
termination_by _ k => k
decreasing_by
  · exact half_lt (Nat.lt_of_not_le h)
  · exact rest_lt (Nat.lt_of_not_le h)
theorem digs_one (n x : Nat) : digs n x 1 = [(x : Int)] := by unfold digs; simp
theorem digs_split (n x k : Nat) (h : 1 < k) : digs n x k = digs n (x % 2 ^ (n * (k / 2))) (k / 2) ++ digs n (x / 2 ^ (n * (k / 2))) (k - k / 2) := by
  rw [digs]; rw [dif_neg (Nat.not_le_of_lt h)]
theorem digs_length (n : Nat) : ∀ k x : Nat, 0 < k → (digs n x k).length = k := by
  intro k
  induction k using Nat.strongRecOn with
  | _ k ih =>
    intro x hk
    by_cases h : k = 1
    · subst h; rw [digs_one]; rfl
    · have h1 : 1 < k := Nat.lt_of_le_of_ne hk (Ne.symm h)
      rw [digs_split n x k h1, List.length_append, ih (k / 2) (half_lt h1) _ (half_pos h1), ih (k - k / 2) (rest_lt h1) _ (rest_pos h1)]; exact half_add k
/-- the number of digits -/
noncomputable def valOf (n : Nat) : List Int → Int
  | [] => 0
  | d :: r => d + 2 ^ n * valOf n r
theorem valOf_append (n : Nat) (a b : List Int) : valOf n (a ++ b) = valOf n a + 2 ^ (n * a.length) * valOf n b := by
  induction a with
  | nil => simp [valOf]
  | cons d r ih =>
    rw [List.cons_append, valOf, valOf, ih, List.length_cons, Nat.mul_succ, Int.pow_add, Int.mul_add, ← Int.add_assoc, Int.mul_comm ((2 : Int) ^ (n * r.length)) (2 ^ n), Int.mul_assoc]

noncomputable section
/-- the parts of a statement -/
noncomputable def partsS : Stmt → List Stmt × Expr × Expr × Pos × Scope × Arguments
  | .FunctionDef _ a b _ _ _ s _ _ p => (b, .Constant .none 0 p, .Constant .none 0 p, p, s, a)
  | .ClassDef _ _ _ b _ _ s _ _ _ p => (b, .Constant .none 0 p, .Constant .none 0 p, p, default, default)
  | .If t b _ p => (b, t, t, p, default, default)
  | .For t i b _ p => (b, i, t, p, default, default)
  | .While t b _ p => (b, t, t, p, default, default)
  | .Try b _ _ _ p => (b, .Constant .none 0 p, .Constant .none 0 p, p, default, default)
  | .Assign _ e p => ([], e, e, p, default, default)
  | .Expr e p => ([], e, e, p, default, default)
  | _ => ([], .Constant .none 0 ⟨0, 0, 0, 0⟩, .Constant .none 0 ⟨0, 0, 0, 0⟩, ⟨0, 0, 0, 0⟩, default, default)
noncomputable def partsE : Expr → Expr × Pos
  | .Yield (some e) p => (e, p)
  | .Lambda _ e _ p => (e, p)
  | e => (e, ⟨0, 0, 0, 0⟩)
noncomputable def bodyS (s : Stmt) : List Stmt := (partsS s).1
noncomputable def testS (s : Stmt) : Expr := (partsS s).2.1
noncomputable def tgtS (s : Stmt) : Expr := (partsS s).2.2.1
noncomputable def posS (s : Stmt) : Pos := (partsS s).2.2.2.1
noncomputable def scopeS (s : Stmt) : Scope := (partsS s).2.2.2.2.1
noncomputable def argsS (s : Stmt) : Arguments := (partsS s).2.2.2.2.2
noncomputable def yeS (s : Stmt) : Expr := (partsE (tgtS s)).1
noncomputable def yposS (s : Stmt) : Pos := (partsE (tgtS s)).2
noncomputable def nthS (n : Nat) (l : List Stmt) : Stmt := l.getD n (.Pass ⟨0, 0, 0, 0⟩)
end
noncomputable def body6 : List Stmt := bodyS (top2 6)
noncomputable def inner6 : Stmt := body6.getD 1 (.Pass ⟨0, 0, 0, 0⟩)
theorem bitAnd_nat (a b : Nat) : Builtin.bitAnd (a : Int) (b : Int) = ((a &&& b : Nat) : Int) := by
  unfold Builtin.bitAnd
  rw [decide_eq_true (Int.natCast_nonneg a), decide_eq_true (Int.natCast_nonneg b)]
  rfl
theorem bitNot_eq (x : Int) : Builtin.bitNot x = -x - 1 := by
  unfold Builtin.bitNot; lia
theorem bitOr_nat (a b : Nat) : Builtin.bitOr (a : Int) (b : Int) = ((a ||| b : Nat) : Int) := by
  unfold Builtin.bitOr Builtin.bitAnd
  simp only [bitNot_eq]
  rw [decide_eq_false (by lia : ¬ (0 : Int) ≤ -(a : Int) - 1), decide_eq_false (by lia : ¬ (0 : Int) ≤ -(b : Int) - 1)]
  simp only
  rw [show (-(-(a : Int) - 1) - 1).toNat = a by lia, show (-(-(b : Int) - 1) - 1).toNat = b by lia]
  lia
theorem xor_low (x s : Nat) : Builtin.bitXor (x : Int) (((x / 2 ^ s : Nat) : Int) * 2 ^ s) = ((x % 2 ^ s : Nat) : Int) := by
  have e : (((x / 2 ^ s : Nat) : Int) * 2 ^ s) = ((2 ^ s * (x / 2 ^ s) : Nat) : Int) := by rw [Nat.mul_comm, Int.natCast_mul, Int.natCast_pow]; rfl
  rw [e]
  unfold Builtin.bitXor
  rw [bitOr_nat, bitAnd_nat]
  have h1 : x ||| (2 ^ s * (x / 2 ^ s)) = x := by
    apply Nat.eq_of_testBit_eq
    intro i
    rw [Nat.testBit_or, Nat.testBit_two_pow_mul, Nat.testBit_div_two_pow]
    by_cases h : s ≤ i
    · simp [h]
    · simp [h]
  have h2 : x &&& (2 ^ s * (x / 2 ^ s)) = 2 ^ s * (x / 2 ^ s) := by
    apply Nat.eq_of_testBit_eq
    intro i
    rw [Nat.testBit_and, Nat.testBit_two_pow_mul, Nat.testBit_div_two_pow]
    by_cases h : s ≤ i
    · simp [h]
    · simp [h]
  rw [h1, h2]
  have := Nat.div_add_mod x (2 ^ s)
  lia
theorem fdiv_pow (x s : Nat) : ((x : Int)).fdiv (2 ^ s) = ((x / 2 ^ s : Nat) : Int) := by
  rw [Int.fdiv_eq_ediv_of_nonneg _ (Int.le_of_lt (Int.pow_pos (by decide)))]
  rw [Int.natCast_ediv, Int.natCast_pow]; rfl
theorem inner6_spec {C : Cx} {fi ad : Addr} {fd : FuncData} {dict : Option Addr} {name name' : Str} {args : Arguments} {body : List Stmt} {scope : Scope} {pos : Pos} {cells : List (Str × Addr)} {n : Nat} (hin : inner6 = .FunctionDef name args body [] none [] scope none name' pos)
    (hi : FnIs fd args (.stmts body) scope (closOf scope cells)) (hn : 0 < n) (hn2 : n ≤ 64) (hne : ad ≠ fi) : ∀ (m x L : Nat) (xs : List D) (Y led : Led), 0 < m → m ≤ 64 → led fi = some (.fn dict fd) → CloOk (closOf scope cells) Y [("inner", .ref fi), ("a_digits", .ref ad), ("n", .int n)] →
      led ad = some (.list xs) → L + m ≤ xs.length → xs.length ≤ 64 → x < 2 ^ 62 →
      CodeW C Y led (m + 3) (.ref fi) [.int x, .int L, .int ((L + m : Nat) : Int)] (fun d led' => d = .none ∧ led' = upd led ad (.list (xs.take L ++ (digs n x m).map .int ++ xs.drop (L + m)))) := by
  have e : inner6 = inner6 := rfl
  unfold inner6 at hin
  have hin' : (body6.getD 1 (.Pass ⟨0, 0, 0, 0⟩)) = .FunctionDef name args body [] none [] scope none name' pos := hin
  cases hin'
  intro m
  induction m using Nat.strongRecOn with
  | _ m ih =>
    intro x L xs Y led hm hm2 hl hc ha hL hxs hx
    refine CodeW.nest hl hi [("x", .int x), ("L", .int L), ("R", .int ((L + m : Nat) : Int))] rfl rfl [("inner", .ref fi), ("a_digits", .ref ad), ("n", .int n)] hc rfl fun L' cs q code hcs => ?_
    repeat (first | walk_at "e" | (with_reducible refine WE.callY ?_))
    refine ⟨fun h1 => ?_, fun h1 => ?_⟩
    · have hm1 : m = 1 := by simp only [beq_iff_eq] at h1; lia
      subst hm1
      repeat (first | walk_at "e" | (with_reducible refine WE.callY ?_))
      refine SetIW.ref ha (by lia) (by lia) (by lia) ?_
      repeat (first | walk_at "e" | (with_reducible refine WE.callY ?_))
      refine ⟨rfl, ?_⟩
      rw [digs_one, Int.toNat_natCast, List.map_singleton, List.set_eq_take_append_cons_drop, if_pos (by lia)]
      simp
    · have hm1 : 1 < m := by simp only [beq_eq_false_iff_ne] at h1; lia
      have hmid : ((L : Int) + ((L + m : Nat) : Int)).fdiv (2 ^ Int.toNat 1) = ((L + m / 2 : Nat) : Int) := by
        rw [← Int.natCast_add, show (2 : Int) ^ Int.toNat 1 = 2 ^ 1 from rfl, fdiv_pow, ← Nat.add_assoc, ← Nat.two_mul, Nat.pow_one, Nat.mul_add_div (by decide)]
      have hsh : (((L + m / 2 : Nat) : Int) - (L : Int)) * (n : Int) = ((n * (m / 2) : Nat) : Int) := by
        rw [Int.natCast_mul, Int.natCast_add, Int.mul_comm]; congr 1; lia
      have hs2 : n * (m / 2) ≤ 1000000 := Nat.le_trans (Nat.mul_le_mul hn2 (Nat.le_trans (Nat.div_le_self m 2) hm2)) (by decide)
      have hsplit := digs_split n x m hm1
      obtain ⟨u, v, hu, hv, huv, hu0, hv0⟩ : ∃ u v, m / 2 = u ∧ m - m / 2 = v ∧ u + v = m ∧ 0 < u ∧ 0 < v := ⟨_, _, rfl, rfl, Nat.add_sub_cancel' (Nat.div_le_self ..), Nat.div_pos hm1 (by decide), Nat.sub_pos_of_lt (Nat.div_lt_self hm (by decide))⟩
      rw [hv] at hsplit
      rw [hu] at hmid hsh hs2 hsplit
      clear hu hv
      walk_at "v"
      refine Op2.shr (by lia) ?_
      rw [hmid]
      clear hmid h1
      walk_at "v"
      refine Op2.mul ?_ (.inr (by lia))
      rw [hsh]
      walk_at "v"
      refine Op2.shr (by lia) ?_
      rw [Int.toNat_natCast, fdiv_pow]
      walk_at "v"
      have hup : x / 2 ^ (n * u) ≤ x := Nat.div_le_self ..
      refine Op2.shl (by lia) (by lia) (by rw [Int.natAbs_natCast]; lia) ?_
      rw [Int.toNat_natCast]
      intro _
      refine Op2.xor ?_
      rw [xor_low]
      walk_at "v"
      refine WE.call ?_
      walk_at "v"
      rename_i F X
      intro hF hd
      have clo := FOk.cloC (fv := [("inner", .ref fi), ("a_digits", .ref ad), ("n", .int n)]) hF hcs rfl rfl rfl ⟨rfl, rfl, rfl, trivial⟩
      refine ⟨KeepOk.fn (Callable.led hl), ?_⟩
      have q1 : u < m := huv ▸ Nat.lt_add_of_pos_right hv0
      have q2 : v < m := huv ▸ Nat.lt_add_of_pos_left hu0
      have q3 : L + u ≤ xs.length := Nat.le_trans (Nat.add_le_add_left (Nat.le_of_lt q1) L) hL
      have q4 : L ≤ xs.length := Nat.le_trans (Nat.le_add_right L u) q3
      have lower := ih u q1 (x % 2 ^ (n * u)) L xs (Un F X) led hu0 (Nat.le_trans (Nat.le_of_lt q1) hm2) hl clo ha q3 hxs (Nat.lt_of_le_of_lt (Nat.mod_le ..) hx)
      refine (lower.call.up (by lia)).mono ?_
      rintro d led' ⟨rfl, rfl⟩
      refine ⟨rfl, ?_⟩
      walk_at "v"
      refine WE.call ?_
      walk_at "v"
      rename_i F X
      intro hF hd
      have clo := FOk.cloC (fv := [("inner", .ref fi), ("a_digits", .ref ad), ("n", .int n)]) hF hcs rfl rfl rfl ⟨rfl, rfl, rfl, trivial⟩
      have hl' : upd led ad (M.list (xs.take L ++ (digs n (x % 2 ^ (n * u)) u).map D.int ++ xs.drop (L + u))) fi = some (.fn dict fd) := by rw [upd_ne _ _ hne.symm]; exact hl
      refine ⟨KeepOk.fn (Callable.led hl'), ?_⟩
      have hlen : (xs.take L ++ (digs n (x % 2 ^ (n * u)) u).map D.int ++ xs.drop (L + u)).length = xs.length := by
        rw [List.length_append, List.length_append, List.length_take, List.length_map, digs_length _ _ _ hu0, List.length_drop, Nat.min_eq_left q4]; exact Nat.add_sub_cancel' q3
      have upper := ih v q2 (x / 2 ^ (n * u)) (L + u) _ (Un F X) _ hv0 (Nat.le_trans (Nat.le_of_lt q2) hm2) hl' clo (upd_same ..) (by rw [hlen, Nat.add_assoc, huv]; exact hL) (by rw [hlen]; exact hxs) (Nat.lt_of_le_of_lt hup hx)
      rw [show L + u + v = L + m by rw [Nat.add_assoc, huv]] at upper
      refine (upper.call.up (by lia)).mono ?_
      rintro d led' ⟨rfl, rfl⟩
      refine ⟨rfl, ?_⟩
      walk_at "v"
      refine ⟨rfl, ?_⟩
      rw [upd_upd, hsplit, List.map_append]
      congr 2
      have hl1 : (xs.take L ++ (digs n (x % 2 ^ (n * u)) u).map D.int).length = L + u := by
        rw [List.length_append, List.length_take, List.length_map, digs_length _ _ _ hu0, Nat.min_eq_left q4]
      rw [List.take_append_of_le_length (Nat.le_of_eq hl1.symm), List.take_of_length_le (Nat.le_of_eq hl1), List.drop_append, hl1, List.drop_eq_nil_of_le (by rw [hl1]; lia), List.nil_append, List.drop_drop]
      simp only [List.append_assoc]
      congr 4
      lia
set_option tactic.hygienic true
noncomputable section
noncomputable def giScope : Scope := scopeS (top2 12)
noncomputable def giS0 : Stmt := nthS 0 (bodyS (top2 12))
noncomputable def giFor0 : Stmt := nthS 1 (bodyS (top2 12))
noncomputable def giIf1 : Stmt := nthS 0 (bodyS giFor0)
noncomputable def giIf2 : Stmt := nthS 1 (bodyS giFor0)
noncomputable def giIf3 : Stmt := nthS 0 (bodyS giIf2)
noncomputable def giWh : Stmt := nthS 1 (bodyS giIf2)
noncomputable def giYl : Stmt := nthS 2 (bodyS giFor0)
noncomputable def giRst : Stmt := nthS 3 (bodyS giFor0)
noncomputable def giB1 : Stmt := nthS 0 (bodyS giIf1)
noncomputable def giB3 : Stmt := nthS 0 (bodyS giIf3)
noncomputable def giYw : Stmt := nthS 0 (bodyS giWh)
noncomputable def giTgt : Expr := tgtS giFor0
noncomputable def giIt : Expr := testS giFor0
noncomputable def giT1 : Expr := testS giIf1
noncomputable def giT2 : Expr := testS giIf2
noncomputable def giT3 : Expr := testS giIf3
noncomputable def giTest : Expr := testS giWh
noncomputable def giYe : Expr := yeS giYl
noncomputable def giYe2 : Expr := yeS giYw
end
noncomputable abbrev giWb : List Stmt := [.Expr (.Yield (some giYe2) (yposS giYw)) (posS giYw)]
noncomputable abbrev giFb1 : List Stmt := [.If giT3 [giB3] [] (posS giIf3), .While giTest giWb [] (posS giWh)]
noncomputable abbrev giFb2 : List Stmt := [.Expr (.Yield (some giYe) (yposS giYl)) (posS giYl), giRst]
noncomputable abbrev giFb : List Stmt := .If giT1 [giB1] [] (posS giIf1) :: .If giT2 giFb1 [] (posS giIf2) :: giFb2
noncomputable abbrev giB : List Stmt := [giS0, .For giTgt giIt giFb [] (posS giFor0)]
theorem gi_def : ∃ name name' pos0, top2 12 = .FunctionDef name (argsS (top2 12)) giB [] none [] giScope none name' pos0 := ⟨_, _, _, rfl⟩
theorem giKind : giScope.kind = .function := rfl
structure GiZ where
  L : Addr
  cs : List (Str × Addr)
  q : Str
  code : Value
noncomputable abbrev giFe (a : Addr) (z : GiZ) : Fe := fnFe giScope z.L z.cs z.q a z.code
noncomputable def optI : Option Int → D
  | none => .none
  | some i => .int i
noncomputable abbrev giV (d : D) (last : Option Int) : Vars := [("grouping", d), ("last_interval", optI last)]
noncomputable abbrev giV2 (d : D) (last : Option Int) (i : Int) : Vars := [("grouping", d), ("last_interval", optI last), ("interval", .int i)]
structure GiEnv (C : Cx) (a : Addr) : Prop where
  N : NoG C
  cm : ∃ t, C.mg "CHAR_MAX" = some (.int 127 t)
  ve : C.mg "ValueError" = none
  fn : GFn C a (top2 12)
theorem isNone_opt (o : Option Int) : isNone (optI o) = o.isNone := by cases o <;> rfl
noncomputable def refused : Str := "invalid grouping"
noncomputable abbrev giW (d : D) (i : Int) : Vars := [("grouping", d), ("interval", .int i)]
section
variable {C : Cx} {k : Nat} {a I : Addr} {z : GiZ} {d : D} {A : Around} {P : End → Shared → Prop} {fz : Fz} {G : Array GenState} {F X led : Led} {s : Shared} {p : Pos} {vs : Vars}
/-- a test, a value that change nothing -/
noncomputable def WBd (C : Cx) (led : Led) (fe : Fe) (vs : Vars) (k : Nat) (t : Expr) (b : Bool) : Prop := WB C led fe vs k (isTrue t fe.env (eval t fe.env)) (fun b' led' => b' = b ∧ led' = led)
noncomputable def WEd (C : Cx) (led : Led) (fe : Fe) (vs : Vars) (k : Nat) (t : Expr) (d : D) : Prop := WE C led fe vs k (eval t fe.env) (fun d' led' => d' = d ∧ led' = led)
section
variable {fe : Fe} {c : Code} {fs : List Frame} {K : Flow → Sem PySem.Fin} {H : Value → Sem PySem.Fin} {gd : Bool → Bool} {lv : List Value → List Value}
theorem sgm_ift {test : Expr} {body : List Stmt} {pos : Pos} {b : Bool} (hA : RoomF k (A.over c fs) fe X) (hF : FOk fe vs F X) (hd : Dj F X) (S : St C fz led (Un F X) G s) (h : WBd C led fe vs k test b)
    (cont : ∀ s1 fz1 G1, FzLe fz fz1 → GExt G G1 → St C fz1 led (Un F X) G1 s1 → Sgm (model C.prog C.w) A P c ((execs (if b then body else []) fe.env).wrap K H gd lv) fs s1) :
    Sgm (model C.prog C.w) A P c ((exec (.If test body [] pos) fe.env).wrap K H gd lv) fs s :=
  sgm_if hA hF hd S h fun b' s1 fz1 G1 led1 l g S1 q => by
    obtain ⟨rfl, rfl⟩ := q
    exact ⟨fun e => by subst e; exact cont _ _ _ l g S1, fun e => by subst e; exact cont _ _ _ l g S1⟩
theorem sgm_yldd {e : Expr} {ypos pos : Pos} {d : D} (hfs : splitAtGen fs = none) (hA : RoomF k (A.over c fs) fe X) (hF : FOk fe vs F X) (hd : Dj F X) (S : St C fz led (Un F X) G s) (h : WEd C led fe vs k e d)
    (cont : ∀ v s1 fz1 G1, FzLe fz fz1 → GExt G G1 → Den fz1 v d → St C fz1 led (Un F X) G1 s1 →
      ∀ (k : Resume → Sem PySem.Fin) l p, (∀ A' P' s'', Sgm (model C.prog C.w) A' P' c (K .next) fs s'' → Sgm (model C.prog C.w) A' P' c (k (.send .none)) fs s'') → P (.susp v (gd false) l k c p fs) s1)
    (hco : autoParam (fe.env.scope.isCoroutine = false) rflA) (hi : autoParam (interactive fe.env = false) rflA) :
    Sgm (model C.prog C.w) A P c ((exec (.Expr (.Yield (some e) ypos) pos) fe.env).wrap K H gd lv) fs s :=
  sgm_yld hfs hA hF hd S h (fun v s1 fz1 G1 d1 led1 l g e1 S1 q => by obtain ⟨rfl, rfl⟩ := q; exact cont v s1 fz1 G1 l g e1 S1) hco hi
end
/-- suspended in the loop -/
noncomputable def SusFor (C : Cx) (fe : Fe) (I : Addr) (gs : GenState) : Prop :=
  ∃ p, ∀ A' P' s'', Sgm (model C.prog C.w) A' P' (.forLoop giTgt (.ref I) giFb [] fe.env) ((execs [giRst] fe.env).wrap (forK giTgt (.ref I) giFb [] fe.env) (noteH fe.env) id id) [giFr fe giB p] s'' → Gos (model C.prog C.w) A' P' gs (.send .none) s''
/-- suspended in the endless loop -/
noncomputable def SusWh (C : Cx) (fe : Fe) (I : Addr) (gs : GenState) : Prop :=
  ∃ p p2, ∀ A' P' s'', Sgm (model C.prog C.w) A' P' (.whileLoop giTest giWb [] fe.env) ((execs [] fe.env).wrap (whileK giTest giWb [] fe.env) (noteH fe.env) id id) [giWr fe giTgt (.ref I) giFb [] giFb2 p2, giFr fe giB p] s'' → Gos (model C.prog C.w) A' P' gs (.send .none) s''
noncomputable abbrev giC (a : Addr) (z : GiZ) (I : Addr) : Code := .forLoop giTgt (.ref I) giFb [] (giFe a z).env
noncomputable abbrev giWC (a : Addr) (z : GiZ) : Code := .whileLoop giTest giWb [] (giFe a z).env
theorem gi_test {lst : Int} : WBd C led (giFe a z) (giV d (some lst)) k giTest true := by
  refine WB.val (e := giTest) ?_
  with_unfolding_all refine WE.c_bool ?_
  walk_at "v"
  exact ⟨rfl, rfl⟩
theorem gi_ye2 {lst : Int} : WEd C led (giFe a z) (giV d (some lst)) k giYe2 (.int lst) := by
  with_unfolding_all refine WE.nm ?_
  exact ⟨rfl, rfl⟩
theorem gi_ye {last : Option Int} {i : Int} : WEd C led (giFe a z) (giV2 d last i) k giYe (.int i) := by
  with_unfolding_all refine WE.nm ?_
  exact ⟨rfl, rfl⟩
theorem gi_it : WEd C led (giFe a z) (giV d none) k giIt d := by
  with_unfolding_all refine WE.nm ?_
  exact ⟨rfl, rfl⟩
theorem gi_t1 {last : Option Int} {i : Int} (E : GiEnv C a) : WBd C led (giFe a z) (giV2 d last i) k giT1 (i == 127) := by
  obtain ⟨N, ⟨tcm, hcm⟩, hve, _⟩ := E
  with_unfolding_all refine WB.cmp1 ?_
  walk_at "v"
  exact ⟨rfl, rfl⟩
theorem gi_t2 {last : Option Int} {i : Int} : WBd C led (giFe a z) (giV2 d last i) k giT2 (i == 0) := by
  with_unfolding_all refine WB.cmp1 ?_
  walk_at "v"
  exact ⟨rfl, rfl⟩
theorem gi_t3 {last : Option Int} {i : Int} : WBd C led (giFe a z) (giV2 d last i) k giT3 last.isNone := by
  with_unfolding_all refine WB.cmp1 ?_
  walk_at "v"
  refine Op2.is_none ?_
  rw [isNone_opt]
  exact ⟨_, rfl, rfl, rfl⟩
theorem gi_tgt {last : Option Int} {i : Int} : WU C led (giFe a z) (giV d last) k (PySem.assign giTgt (giFe a z).env) (.int i) (fun vs' led' => Sub (giV2 d last i) vs' ∧ led' = led) := by
  with_unfolding_all refine WU.name ?_
  walk_at "v"
  exact ⟨⟨rfl, rfl, rfl, trivial⟩, rfl⟩
theorem gi_b1 : WS C led (giFe a z) vs k (exec giB1 (giFe a z).env) (fun fl vs' led' => fl = .ret .none ∧ led' = led) := by
  with_unfolding_all refine WS.ret_none ?_
  exact ⟨rfl, rfl⟩
theorem gi_rst {i : Int} : WS C led (giFe a z) (giW d i) k (exec giRst (giFe a z).env) (fun fl vs' led' => fl = .next ∧ Sub (giV d (some i)) vs' ∧ led' = led) := by
  with_unfolding_all refine WS.assign ?_
  walk_at "v"
  exact ⟨rfl, ⟨rfl, rfl, trivial⟩, rfl⟩
theorem gi_s0 : WS C led (giFe a z) [("grouping", d)] k (exec giS0 (giFe a z).env) (fun fl vs' led' => fl = .next ∧ Sub (giV d none) vs' ∧ led' = led) := by
  with_unfolding_all refine WS.assign ?_
  walk_at "v"
  exact ⟨rfl, ⟨rfl, rfl, trivial⟩, rfl⟩
theorem gi_b3 {last : Option Int} (E : GiEnv C a) (hA : RoomF k A (giFe a z) X) (hF : FOk (giFe a z) (giV2 d last 0) F X) (hd : Dj F X) (S : St C fz led (Un F X) G s) :
    wpAny (model C.prog C.w) A (exec giB3 (giFe a z).env) (fun _ _ => False) (fun x s' => ∃ fz' G' e tk h₁ s₂, x = .ref e ∧ s' = { s₂ with heap := h₁ } ∧ FzLe fz fz' ∧ GExt G G' ∧ St C fz' led (Un F X) G' s₂ ∧ Heap.MadeExc s₂.heap h₁ e "ValueError" [.str refused tk]) s := by
  obtain ⟨N, _, hve, _⟩ := E
  with_unfolding_all refine wpAny_Raise_call PySem.F.excCall_ValueError PySem.F.excRaise_ValueError hA.r.1 (by with_unfolding_all rfl) ?_
  refine chain (P := fun d' led' => d' = .typ "ValueError" ∧ led' = led) ((?_ : WE C led _ (giV2 d last 0) k _ _) F X hF hd _ fz G s hA S) fun v6 s6 fz6 G6 d6 led6 l6 g6 e6 S6 q6 => ?_
  · exact WE.name_blt (v := .type "ValueError") hve (by decide +kernel) (fun _ => .typ _) ⟨rfl, rfl⟩ (by with_unfolding_all rfl)
  obtain ⟨rfl, rfl⟩ := q6
  cases e6
  refine ⟨rfl, ?_⟩
  refine evalArgs_any (by with_unfolding_all rfl) (chainL (P := fun ds led' => ds = [.str refused] ∧ led' = led6) ((?_ : WL C led6 _ (giV2 d last 0) k _ _) F X hF hd _ fz6 G6 s6 hA S6) fun vs7 s7 fz7 G7 ds7 led7 l7 g7 e7 S7 q7 => ?_)
  · walk_at "v"
    exact ⟨rfl, rfl⟩
  · obtain ⟨rfl, rfl⟩ := q7
    cases e7 with | cons x7 y7 => cases y7 with | nil =>
    cases x7
    rename_i tk
    exact ⟨rfl, by show 1 ≤ sizeLine; decide, fun h' e hm => ⟨fz7, G7, e, tk, h', s7, rfl, rfl, l6.trans l7, g6.trans g7, S7, hm⟩⟩
theorem gi_while {lst : Int} {pw : Pos}
    (hA : RoomY (k + 1) A X) (hF : FOk (giFe a z) (giV d (some lst)) F X) (hd : Dj F X) (S : St C fz led (Un F X) G s)
    (h3 : ∀ v fz' G' s' kk ll c pp fs, FzLe fz fz' → GExt G G' → Den fz' v (.int lst) → St C fz' led (Un F X) G' s' →
      SusWh C (giFe a z) I (.suspended kk ll c pp fs false) → fs.any Frame.guarded = false → P (.susp v false ll kk c pp fs) s') :
    Sgm (model C.prog C.w) A P (giWC a z) ((model C.prog C.w).den (giWC a z)) [giWr (giFe a z) giTgt (.ref I) giFb [] giFb2 pw, giFr (giFe a z) giB p] s := by
  have hAW := room_while (k := k) (fe := giFe a z) (body := giB) (p := p) (p2 := pw) (c := giWC a z) (tgt := giTgt) (it := .ref I) (fb := giFb) (r1 := []) (r2 := giFb2) hA giKind rfl rfl rfl
  refine sgm_whileLoop (chainB (gi_test F X hF hd _ fz G s hAW S) fun b s1 fz1 G1 led1 l1 g1 S1 q1 => ?_)
  obtain ⟨rfl, rfl⟩ := q1
  refine ⟨fun _ => ?_, fun hb => by cases hb⟩
  exact sgm_execs_cons (sgm_yldd rfl hAW hF hd S1 gi_ye2 fun v5 s5 fz5 G5 l5 g5 e5 S5 kk ll pp hres =>
    h3 v5 _ _ _ kk ll _ pp _ (l1.trans l5) (g1.trans g5) e5 S5 ⟨p, pw, fun A' P' s'' hx => hres A' P' s'' hx⟩ rfl)
theorem gi_raised {last : Option Int} {l : List Env} (E : GiEnv C a) (hA : RoomF k (A.over (giC a z I) [giFr (giFe a z) giB p]) (giFe a z) X) (hfr : A.frames = some l)
    (hF : FOk (giFe a z) (giV2 d last 0) F X) (hd : Dj F X) (S : St C fz led (Un F X) G s)
    (hfr2 : (A.over (giC a z I) [giFr (giFe a z) giB p]).frames = A.frames.map ((giFe a z).env :: ·))
    (h1 : ∀ fz' G' s' e l, FzLe fz fz' → GExt G G' → St C fz' led X G' s' → A.frames = some l → Flying C fz' (Un led X) l e refused s'.heap → P (.ret (.error (.ref e))) s') {rest : List Stmt} :
    Sgm (model C.prog C.w) A P (giC a z I) ((execs [giB3] (giFe a z).env).wrap (behK rest (giFe a z).env (behK giFb2 (giFe a z).env (forK giTgt (.ref I) giFb [] (giFe a z).env) (noteH (giFe a z).env)) (noteH (giFe a z).env)) (noteH (giFe a z).env) id id) [giFr (giFe a z) giB p] s := by
  rw [hfr] at hfr2
  refine sgm_execs_cons (sgm_plain ?_)
  refine wpAny_mono (gi_b3 E hA hF hd S) (fun _ _ x => x.elim) fun x s' hx => ?_
  obtain ⟨fz7, G7, e, tk, h₁, s7, rfl, rfl, l7, g7, S7, hm⟩ := hx
  refine sgm_wrap (wpAny_bind (made_noted S7 hfr2 (hA.y hF hd).fr rfl hm fun h8 S8 hh8 => wpAny_theTreesLotGoes ?_))
  refine sgm_leaf (.error (.ref e)) ?_
  show Sgm _ _ _ _ (Sem.wrap _ _ _ _ ((Sem.raise (Value.ref e)).onRaise _)) _ _
  rw [Sem.onRaise_eq_wrap, Sem.wrap_wrap]
  show Sgm _ _ _ _ (Sem.wrap _ _ _ _ (Sem.bind _ fun _ => Sem.raise (Value.ref e))) _ _
  rw [Sem.bind_eq_wrap, Sem.wrap_wrap]
  refine sgm_wrap (Held.own S8 rfl hh8 fun h9 S9 hh9 => ?_)
  show Sgm _ _ _ _ (Sem.wrap _ _ _ _ (leaving _ (.ref e))) _ _
  refine sgm_wrap (Held.leaves S9 rfl hh9 fun h10 S10 hf10 => ?_)
  refine sgm_end (.error (.ref e)) (h1 _ _ _ e l l7 g7 (S10.drop hd) hfr (hf10.less (s := { s7 with heap := h10 }) fun b m hb => ?_))
  cases hlb : led b with
  | some m' => rw [Un_left hlb] at hb ⊢; exact hb
  | none =>
    rw [Un_right hlb] at hb ⊢
    rw [Un_right ((hd b).resolve_right (by rw [hb]; exact Option.some_ne_none _))]; exact hb
/-- what a step of the loop comes to -/
structure GiLoop (C : Cx) (a : Addr) (z : GiZ) (d : D) (I : Addr) (last : Option Int) (PN : Option D → Led → Prop) (A : Around) (P : End → Shared → Prop) (fz : Fz) (G : Array GenState) (X : Led) : Prop where
  h0 : ∀ fz' G' F' led' s', FzLe fz fz' → GExt G G' → Dj F' X → St C fz' led' (Un F' X) G' s' → (PN none led' ∨ PN (some (.int 127)) led') → P (.ret (.ok (.ret .none))) s'
  h1 : last = none → ∀ fz' G' led' s' e l, FzLe fz fz' → GExt G G' → St C fz' led' X G' s' → A.frames = some l → PN (some (.int 0)) led' → Flying C fz' (Un led' X) l e refused s'.heap → P (.ret (.error (.ref e))) s'
  h2 : ∀ v i fz' G' F' led' s' kk ll c pp fs, i ≠ 127 → i ≠ 0 → FzLe fz fz' → GExt G G' → Den fz' v (.int i) → FOk (giFe a z) (giV2 d last i) F' X → Dj F' X → St C fz' led' (Un F' X) G' s' → PN (some (.int i)) led' →
      SusFor C (giFe a z) I (.suspended kk ll c pp fs false) → fs.any Frame.guarded = false → P (.susp v false ll kk c pp fs) s'
  h3 : ∀ v lst fz' G' F' led' s' kk ll c pp fs, last = some lst → FzLe fz fz' → GExt G G' → Den fz' v (.int lst) → FOk (giFe a z) (giV d last) F' X → Dj F' X → St C fz' led' (Un F' X) G' s' → PN (some (.int 0)) led' →
      SusWh C (giFe a z) I (.suspended kk ll c pp fs false) → fs.any Frame.guarded = false → P (.susp v false ll kk c pp fs) s'
theorem gi_turn {last : Option Int} {PN : Option D → Led → Prop} {i : Int} (E : GiEnv C a) (hA : RoomY (k + 1) A X) (hAF : RoomF k (A.over (giC a z I) [giFr (giFe a z) giB p]) (giFe a z) X)
    (hfr2 : (A.over (giC a z I) [giFr (giFe a z) giB p]).frames = A.frames.map ((giFe a z).env :: ·))
    (hF : FOk (giFe a z) (giV2 d last i) F X) (hd : Dj F X) (S : St C fz led (Un F X) G s) (hp : PN (some (.int i)) led)  (H : GiLoop C a z d I last PN A P fz G X) :
    Sgm (model C.prog C.w) A P (giC a z I) ((execs giFb (giFe a z).env).wrap (forK giTgt (.ref I) giFb [] (giFe a z).env) (noteH (giFe a z).env) id id) [giFr (giFe a z) giB p] s := by
  refine sgm_execs_cons (sgm_ift hAF hF hd S (gi_t1 E) fun s3 fz3 G3 l3 g3 S3 => ?_)
  by_cases hi : i = 127
  · subst hi
    refine sgm_execs_cons (sgm_st hAF hF hd S3 gi_b1 fun f s4 fz4 G4 F4 vs4 led4 fl l4 g4 e4 hF4 hd4 S4 q4 => ?_)
    obtain ⟨rfl, rfl⟩ := q4
    cases f with
    | ret v4 =>
      cases (show Den fz4 v4 .none from e4)
      refine sgm_leaf (.ok (.ret .none)) ?_
      exact sgm_end (.ok (.ret .none)) (H.h0 _ _ _ _ _ (l3.trans l4) (g3.trans g4) hd4 S4 (.inr hp))
    | _ => exact e4.elim
  rw [show (i == 127) = false from beq_eq_false_iff_ne.mpr hi]
  refine sgm_execs_nil (sgm_execs_cons (sgm_ift hAF hF hd S3 gi_t2 fun s4 fz4 G4 l4 g4 S4 => ?_))
  have l14 := l3.trans l4
  have g14 := g3.trans g4
  by_cases hi0 : i = 0
  · subst hi0
    refine sgm_execs_cons (sgm_ift hAF hF hd S4 gi_t3 fun s5 fz5 G5 l5 g5 S5 => ?_)
    have l15 := l14.trans l5
    have g15 := g14.trans g5
    cases last with
    | none => exact gi_raised E hAF (hA.fr.choose_spec.1) hF hd S5 hfr2 fun fz' G' s' e l la ga Sa hl hf => H.h1 rfl _ _ _ _ e l (l15.trans la) (g15.trans ga) Sa hl hp hf
    | some lst =>
      refine sgm_execs_nil (sgm_execs_cons (sgm_While fun pw => ?_))
      have hFw : FOk (giFe a z) (giV d (some lst)) F X := hF.sub ⟨rfl, rfl, trivial⟩
      exact gi_while hA hFw hd S5 fun v fz' G' s' kk ll c pp fs la ga ea Sa hs hg => H.h3 v lst _ _ _ _ _ kk ll c pp fs rfl (l15.trans la) (g15.trans ga) ea hFw hd Sa hp hs hg
  rw [show (i == 0) = false from beq_eq_false_iff_ne.mpr hi0]
  refine sgm_execs_nil (sgm_execs_cons (sgm_yldd rfl hAF hF hd S4 gi_ye fun v5 s5 fz5 G5 l5 g5 e5 S5 kk ll pp hres => ?_))
  exact H.h2 v5 i _ _ _ _ _ kk ll _ pp _ hi hi0 (l14.trans l5) (g14.trans g5) e5 hF hd S5 hp ⟨p, fun A' P' s'' hx => hres A' P' s'' hx⟩ rfl
theorem GiLoop.step {last : Option Int} {PN : Option D → Led → Prop} {fz' : Fz} {G' : Array GenState} (l : FzLe fz fz') (g : GExt G G') (H : GiLoop C a z d I last PN A P fz G X) : GiLoop C a z d I last PN A P fz' G' X where
  h0 := fun fz1 G1 F1 led1 s1 l1 g1 => H.h0 fz1 G1 F1 led1 s1 (l.trans l1) (g.trans g1)
  h1 := fun e fz1 G1 led1 s1 x y l1 g1 => H.h1 e fz1 G1 led1 s1 x y (l.trans l1) (g.trans g1)
  h2 := fun v i fz1 G1 F1 led1 s1 kk ll c pp fs x y l1 g1 => H.h2 v i fz1 G1 F1 led1 s1 kk ll c pp fs x y (l.trans l1) (g.trans g1)
  h3 := fun v i fz1 G1 F1 led1 s1 kk ll c pp fs x l1 g1 => H.h3 v i fz1 G1 F1 led1 s1 kk ll c pp fs x (l.trans l1) (g.trans g1)
theorem gi_loop {last : Option Int} {PN : Option D → Led → Prop} (E : GiEnv C a) (hA : RoomY (k + 1) A X) (hF : FOk (giFe a z) (giV d last) F X) (hd : Dj F X) (S : St C fz led (Un F X) G s)
    (hn : NextW C (Un F X) led k I PN) (hint : ∀ d led', PN (some d) led' → ∃ i, d = .int i) (H : GiLoop C a z d I last PN A P fz G X) :
    Sgm (model C.prog C.w) A P (giC a z I) ((model C.prog C.w).den (giC a z I)) [giFr (giFe a z) giB p] s := by
  obtain ⟨hAF, hAfr⟩ := room_for (k := k) (fe := giFe a z) (body := giB) (p := p) (c := giC a z I) hA giKind rfl rfl rfl
  refine sgm_forLoop ?_ (fun v => rfl)
  refine PsnChain (hn _ fz G s (hAF.y hF hd) S) (fun v s1 fz1 G1 d1 led1 l1 g1 e1 S1 hp1 => ?_) fun s1 fz1 G1 led1 l1 g1 S1 hp1 => ?_
  · obtain ⟨i, rfl⟩ := hint _ _ hp1
    refine chainU (gi_tgt F X hF hd _ fz1 G1 s1 v hAF S1 e1) fun s2 fz2 G2 F2 vs2 led2 l2 g2 hF2 hd2 S2 q2 => ?_
    obtain ⟨hsub, rfl⟩ := q2
    exact gi_turn E hA hAF hAfr (hF2.sub hsub) hd2 S2 hp1 (H.step (l1.trans l2) (g1.trans g2))
  · refine sgm_again rfl (sgm_block_nil (sgm_leaf (.ok .next) ?_))
    exact sgm_end (.ok (.ret .none)) (H.h0 _ _ _ _ _ l1 g1 hd S1 (.inl hp1))
end
set_option tactic.hygienic false
/-- only the generator's own entry has changed -/
structure GOwn (g : Nat) (G G' : Array GenState) : Prop where
  keep : ∀ i x, i ≠ g → G[i]? = some x → G'[i]? = some x
  bare : AllBare G → AllBare G'
theorem GOwn.of {g : Nat} {G G1 : Array GenState} {x y : GenState} (hx : x.bare = true) (hy : y.bare = true) (h : GExt (G.setIfInBounds g x) G1) : GOwn g G (G1.setIfInBounds g y) :=
  ⟨fun i z hi e => by
    rw [Array.getElem?_setIfInBounds_ne (Ne.symm hi)]
    exact h.keep i z (by rw [Array.getElem?_setIfInBounds_ne (Ne.symm hi)]; exact e), fun hb => AllBare.set (h.bare (AllBare.set hb hx)) hy⟩
theorem GExt.own {G0 G G' : Array GenState} {g : Nat} (h : GExt G0 G) (hg : G0.size ≤ g) (o : GOwn g G G') : GExt G0 G' :=
  ⟨fun i x e => o.keep i x (by have := (Array.getElem?_eq_some_iff.mp e).1; lia) (h.keep i x e), fun hb => o.bare (h.bare hb)⟩
section
variable {C : Cx} {k : Nat} {a ga I : Addr} {g : Nat} {gs : GenState} {z : GiZ} {d : D}
    {A : Around} {fz : Fz} {G : Array GenState} {F X led : Led} {s : Shared} {Q : Option Value → Shared → Prop} {E : Value → Shared → Prop}
theorem run_set (S : St C fz led (Un F X) G s) (hg : G[g]? = some gs) : St C fz led (Un F X) (G.setIfInBounds g .running) (s.setGen g .running) := by
  have := S.withGens (G.setIfInBounds g .running)
  rw [setGen_eq, S.rel.gens]; exact this
theorem set_own {Y : Led} {x : GenState} {G1 : Array GenState} {s1 : Shared} {fz1 : Fz} {led1 : Led} (S1 : St C fz1 led1 Y G1 s1) : St C fz1 led1 Y (G1.setIfInBounds g x) (s1.setGen g x) := by
  have := S1.withGens (G1.setIfInBounds g x)
  rw [setGen_eq, S1.rel.gens]; exact this
theorem set_at {x : GenState} {G1 : Array GenState} (hg : G[g]? = some gs) (h : GExt (G.setIfInBounds g .running) G1) : (G1.setIfInBounds g x)[g]? = some x :=
  gens_set (h.keep g _ (gens_set hg))
/-- what a step of the generator comes to -/
structure GiQ (C : Cx) (a : Addr) (z : GiZ) (d : D) (I : Addr) (last : Option Int) (PN : Option D → Led → Prop) (fz : Fz) (G : Array GenState) (g : Nat) (X : Led) (Q : Option Value → Shared → Prop) : Prop where
  h0 : ∀ fz' G' led' s', FzLe fz fz' → GOwn g G G' → St C fz' led' X G' s' → (PN none led' ∨ PN (some (.int 127)) led') → Q none s'
  h2 : ∀ v j fz' G' F' led' s' gs', j ≠ 127 → j ≠ 0 → FzLe fz fz' → GOwn g G G' → Den fz' v (.int j) → FOk (giFe a z) (giW d j) F' X → Dj F' X → St C fz' led' (Un F' X) G' s' → G'[g]? = some gs' → PN (some (.int j)) led' →
      SusFor C (giFe a z) I gs' → Q (some v) s'
  h3 : ∀ v i fz' G' F' led' s' gs', last = some i → FzLe fz fz' → GOwn g G G' → Den fz' v (.int i) → FOk (giFe a z) (giV d (some i)) F' X → Dj F' X → St C fz' led' (Un F' X) G' s' → G'[g]? = some gs' → PN (some (.int 0)) led' →
      SusWh C (giFe a z) I gs' → Q (some v) s'
theorem GiQ.loop {last : Option Int} {PN : Option D → Led → Prop} {fz1 : Fz} {G1 : Array GenState} (H : GiQ C a z d I last PN fz G g X Q) (hg : G[g]? = some gs) (l1 : FzLe fz fz1) (g1 : GExt (G.setIfInBounds g .running) G1)
    (h1 : last = none → ∀ fz' G' led' s' e l, FzLe fz1 fz' → GExt G1 G' → St C fz' led' X G' s' → A.frames = some l → PN (some (.int 0)) led' → Flying C fz' (Un led' X) l e refused s'.heap → GenOut ga g Q E (.ret (.error (.ref e))) s') :
    GiLoop C a z d I last PN A (GenOut ga g Q E) fz1 G1 X where
  h0 := fun fz' G' F' led' s' la ga' hda Sa hq =>
    .done fun h' hk => H.h0 _ _ _ _ (l1.trans la) (GOwn.of rfl rfl (g1.trans ga')) (((set_own (g := g) (x := .finished) Sa).ext s'.toks hk).drop hda) hq
  h1 := h1
  h2 := fun v j fz' G' F' led' s' kk ll c pp fs hj1 hj0 la ga' ea hFa hda Sa hpa hs hgd =>
    .yld (by rw [hgd]; rfl) (H.h2 v j _ _ _ _ _ _ hj1 hj0 (l1.trans la) (GOwn.of rfl rfl (g1.trans ga')) ea (hFa.sub ⟨rfl, rfl, trivial⟩) hda (set_own Sa) (set_at hg (g1.trans ga')) hpa hs)
  h3 := fun v lst fz' G' F' led' s' kk ll c pp fs hl la ga' ea hFa hda Sa hpa hs hgd =>
    .yld (by rw [hgd]; rfl) (H.h3 v lst _ _ _ _ _ _ hl (l1.trans la) (GOwn.of rfl rfl (g1.trans ga')) ea (hl ▸ hFa) hda (set_own Sa) (set_at hg (g1.trans ga')) hpa hs)
/-- a step behind a yield in the loop -/
theorem gi_step {i : Int} {PN : Option D → Led → Prop} (B0 : GiEnv C a)
    (hA : RoomY (k + 2) A X) (ho : GenObj fz ga g) (hg : G[g]? = some gs) (hsus : SusFor C (giFe a z) I gs) (hF : FOk (giFe a z) (giW d i) F X) (hd : Dj F X) (S : St C fz led (Un F X) G s)
    (hn : ∀ F', Dj F' X → NextW C (Un F' X) led k I PN) (hint : ∀ d led', PN (some d) led' → ∃ i, d = .int i)
    (H : GiQ C a z d I (some i) PN fz G g X Q) :
    wpAny (model C.prog C.w) A (pyNext (.ref ga)) Q E s := by
  refine pyNext_genS (g := g) (gs := gs) hA.r.1 S.nolimit (by have := hA.r.2.1; show A.depth < 1000; lia) (ho.at_ S) (by rw [S.rel.gens]; exact hg) ?_
  obtain ⟨p, hp⟩ := hsus
  refine hp _ _ _ ?_
  obtain ⟨hAF, hAfr⟩ := room_for (k := k) (fe := giFe a z) (body := giB) (p := p) (c := giC a z I) (hA.in1 : RoomY (k + 1) A.in1 X) giKind rfl rfl rfl
  refine sgm_execs_cons (sgm_st hAF hF hd (run_set S hg) gi_rst fun f s1 fz1 G1 F1 vs1 led1 fl l1 g1 e1 hF1 hd1 S1 q1 => ?_)
  obtain ⟨rfl, hsub, rfl⟩ := q1
  cases f with
  | next => exact sgm_execs_nil (sgm_again rfl (gi_loop B0 hA.in1 (hF1.sub hsub) hd1 S1 (hn F1 hd1) hint (H.loop hg l1 g1 fun hl => by cases hl)))
  | _ => exact e1.elim
/-- a step in the endless loop -/
theorem gi_rep {i : Int}
    (hA : RoomY (k + 2) A X) (ho : GenObj fz ga g) (hg : G[g]? = some gs) (hsus : SusWh C (giFe a z) I gs) (hF : FOk (giFe a z) (giV d (some i)) F X) (hd : Dj F X) (S : St C fz led (Un F X) G s)
    (h3 : ∀ v fz' G' F' s' gs', FzLe fz fz' → GOwn g G G' → Den fz' v (.int i) → FOk (giFe a z) (giV d (some i)) F' X → Dj F' X → St C fz' led (Un F' X) G' s' → G'[g]? = some gs' →
      SusWh C (giFe a z) I gs' → Q (some v) s') :
    wpAny (model C.prog C.w) A (pyNext (.ref ga)) Q E s := by
  refine pyNext_genS (g := g) (gs := gs) hA.r.1 S.nolimit (by have := hA.r.2.1; show A.depth < 1000; lia) (ho.at_ S) (by rw [S.rel.gens]; exact hg) ?_
  obtain ⟨p, p2, hp⟩ := hsus
  refine hp _ _ _ (sgm_execs_nil (sgm_again rfl (gi_while (hA.in1 : RoomY (k + 1) A.in1 X) hF hd (run_set S hg) fun v fz' G' s' kk ll c pp fs la ga' ea Sa hs hgd =>
    .yld (by rw [hgd]; rfl) (h3 v _ _ _ _ _ la (GOwn.of rfl rfl ga') ea hF hd (set_own Sa) (set_at hg ga') hs))))
/-- the first step -/
theorem gi_first {KI : Addr → Led → Prop} {PN : Addr → Option D → Led → Prop} (B0 : GiEnv C a)
    (hA : RoomY (k + 3) A X) (ho : GenObj fz ga g) (hg : G[g]? = some (.fresh (.func giB (giFe a z).env))) (hF : FOk (giFe a z) [("grouping", d)] F X) (hd : Dj F X) (S : St C fz led (Un F X) G s)
    (hit : ∀ Y, IterN C Y led d KI) (hn : ∀ I led', KI I led' → ∀ F', Dj F' X → NextW C (Un F' X) led' k I (PN I)) (hint : ∀ I d led', PN I (some d) led' → ∃ i, d = .int i)
    (h1 : ∀ I fz' G' led' s' e l, FzLe fz fz' → GOwn g G G' → St C fz' led' X G' s' → A.frames = some l → PN I (some (.int 0)) led' → Flying C fz' (Un led' X) l e refused s'.heap → E (.ref e) s')
    (H : ∀ I, GiQ C a z d I none (PN I) fz G g X Q) :
    wpAny (model C.prog C.w) A (pyNext (.ref ga)) Q E s := by
  refine pyNext_genS (g := g) hA.r.1 S.nolimit (by have := hA.r.2.1; show A.depth < 1000; lia) (ho.at_ S) (by rw [S.rel.gens]; exact hg) ?_
  refine ⟨rfl, ?_⟩
  have hAf := room_func (k := k + 1) (fe := giFe a z) (body := giB) (hA.in1 : RoomY (k + 2) A.in1 X) giKind rfl
  refine sgm_func (sgm_execs_cons (sgm_st hAf hF hd (run_set S hg) gi_s0 fun f s1 fz1 G1 F1 vs1 led1 fl l1 g1 e1 hF1 hd1 S1 q1 => ?_))
  obtain ⟨rfl, hsub, rfl⟩ := q1
  cases f with
  | next =>
    have hF1' := hF1.sub hsub
    refine sgm_execs_cons (sgm_For (chain (gi_it F1 X hF1' hd1 _ fz1 G1 s1 hAf S1) fun v2 s2 fz2 G2 d2 led2 l2 g2 e2 S2 q2 => ?_) (by intro _; with_unfolding_all rfl))
    obtain ⟨rfl, rfl⟩ := q2
    refine wpAny_mono (hit _ _ fz2 G2 s2 v2 (hAf.r.mono (Nat.zero_le _)) S2 e2) (fun itv s3 p3 => ?_) fun _ _ x => x.elim
    obtain ⟨I, fz3, led3, rfl, l3, S3, hK⟩ := p3
    intro pf
    have L3 := (l1.trans l2).trans l3
    have GG := g1.trans g2
    refine gi_loop B0 (hA.in1.mono (by lia) : RoomY (k + 1) A.in1 X) hF1' hd1 S3 (hn I led3 hK F1 hd1) (hint I) ((H I).loop hg L3 GG fun _ fz' G' led' s' e l la ga' Sa hl hpa hfl => ?_)
    obtain ⟨base, t, tk, hc, hw, ht⟩ := id hfl
    obtain ⟨ob, ho1, ho2⟩ := hw.there
    exact .error ⟨ob, ho1, ho2⟩ ((ho.mono (L3.trans la)).at_ Sa) (h1 I _ _ _ _ e l (L3.trans la) (GOwn.of rfl rfl (GG.trans ga')) (set_own Sa) hl hpa hfl)
  | _ => exact e1.elim
end
set_option tactic.hygienic false
theorem FOk.outer {fe : Fe} {vs : Vars} {F X X' : Led} (h : FOk fe vs F X) (hk : (vs.all fun p => fe.env.kindOf p.1 == some .local) = true) : FOk fe vs F X' where
  fn := h.fn
  glob := h.glob
  blt := h.blt
  loc := h.loc
  cel := fun x d e q => by
    have := List.all_eq_true.mp hk _ (mem_of_lookup e)
    rw [beq_iff_eq] at this
    exact absurd this q
  own := h.own
  inj := h.inj
/-- a turn of a loop over the generator -/
noncomputable def GiBody (C : Cx) (fe : Fe) (k : Nat) (target : Expr) (body : List Stmt) (Q : Fl → Vars → Led → Prop) (j : Int) (vs : Vars) (led : Led) (J : Vars → Led → Prop) : Prop :=
  WU C led fe vs k (PySem.assign target fe.env) (.int j) fun vs3 led3 => WS C led3 fe vs3 k (execs body fe.env) fun fl vs4 led4 => match fl with
    | .next | .cont => ∃ vs5, Sub vs5 vs4 ∧ okNames fe vs5 = true ∧ J vs5 led4
    | .brk => ∃ vs5, Sub vs5 vs4 ∧ okNames fe vs5 = true ∧ Q .next vs5 led4
    | .ret d => ∃ vs5, Sub vs5 vs4 ∧ okNames fe vs5 = true ∧ Q (.ret d) vs5 led4
inductive Gi where
  | run (i : Int) | rep (i : Int)
/-- how a turn of the loop ends -/
noncomputable abbrev TurnEnd (C : Cx) (fz : Fz) (X : Led) (fe : Fe) (G : Array GenState) (Q : Fl → Vars → Led → Prop) (RI : Shared → Prop) (f : Flow) (s₃ : Shared) : Prop := match f with
  | .next | .cont => RI s₃
  | .brk => Psf C fz X fe G Q .next s₃
  | .ret v => Psf C fz X fe G Q (.ret v) s₃
theorem gi_body {C : Cx} {led2 : Led} {fe : Fe} {vs2 : Vars} {k : Nat} {target : Expr} {body : List Stmt} {Q : Fl → Vars → Led → Prop} {EX EY : Value → Shared → Prop} {A : Around} {fz fz3 : Fz} {F2 Fg3 X : Led} {G G3 : Array GenState} {s3 : Shared} {v : Value} {j : Int} {JJ : Vars → Led → Prop} {RI : Shared → Prop}
    (hA : RoomF k A fe X) (L3 : FzLe fz fz3) (g3 : GExt G G3) (e3 : Den fz3 v (.int j)) (hF2 : FOk fe vs2 F2 X) (hd2 : Dj F2 X) (hdg3 : Dj Fg3 (Un F2 X)) (S3 : St C fz3 led2 (Un Fg3 (Un F2 X)) G3 s3) (hbody : GiBody C fe k target body Q j vs2 led2 JJ)
    (hRI : ∀ fz5 G5 F5 vs5 led5 s5, FzLe fz3 fz5 → GExt G3 G5 → FOk fe vs5 F5 X → Dj F5 X → Dj Fg3 (Un F5 X) → St C fz5 led5 (Un Fg3 (Un F5 X)) G5 s5 → JJ vs5 led5 → RI s5) :
    wpAny (model C.prog C.w) A (PySem.assign target fe.env v) (fun _ s₂ => wpAny (model C.prog C.w) A (execs body fe.env) (TurnEnd C fz X fe G Q RI) EX s₂) EY s3 := by
  have hAk : RoomF k A fe (Un Fg3 X) := hA.front hdg3.right
  have S3' : St C fz3 led2 (Un F2 (Un Fg3 X)) G3 s3 := by rw [← Un_swap hdg3.left]; exact S3
  have hd2' : Dj F2 (Un Fg3 X) := Dj.Un hdg3.left.symm hd2
  refine chainU (hbody F2 (Un Fg3 X) (hF2.front hdg3.right) hd2' A fz3 G3 s3 v hAk S3' e3) fun s4 fz4 G4 F4 vs4 led4 l4 g4 hF4 hd4 S4 h4 => ?_
  refine chainF (h4 F4 (Un Fg3 X) hF4 hd4 A fz4 G4 s4 hAk S4) fun f s5 fz5 G5 F5 vs5 led5 fl l5 g5 e5 hF5 hd5 S5 h5 => ?_
  have L35 : FzLe fz fz5 := L3.trans (l4.trans l5)
  have G35 : GExt G G5 := g3.trans (g4.trans g5)
  have hdg5 : Dj Fg3 (Un F5 X) := Dj.Un hd5.left.symm hdg3.right
  have S5' : St C fz5 led5 (Un Fg3 (Un F5 X)) G5 s5 := by rw [Un_swap hdg5.left]; exact S5
  have go : (∃ vs6, Sub vs6 vs5 ∧ okNames fe vs6 = true ∧ JJ vs6 led5) → RI s5 := fun ⟨vs6, hs6, hk6, q6⟩ => hRI _ _ _ _ _ _ (l4.trans l5) (g4.trans g5) ((hF5.sub hs6).back hk6) hd5.right hdg5 S5' q6
  have en : ∀ fl' f', FlDen fz5 f' fl' → (∃ vs6, Sub vs6 vs5 ∧ okNames fe vs6 = true ∧ Q fl' vs6 led5) → Psf C fz X fe G Q f' s5 := fun fl' f' e ⟨vs6, hs6, hk6, q6⟩ => ⟨fz5, G5, F5, vs6, led5, fl', L35, G35, e, (hF5.sub hs6).back hk6, hd5.right, S5'.drop hdg5, q6⟩
  clear hRI hbody S3 S3' h4 S4
  cases fl with
  | next => cases f with
    | next => exact go h5
    | _ => exact e5.elim
  | cont => cases f with
    | cont => exact go h5
    | _ => exact e5.elim
  | brk => cases f with
    | brk => exact en .next .next trivial h5
    | _ => exact e5.elim
  | ret dd => cases f with
    | ret vv => exact en (.ret dd) (.ret vv) e5 h5
    | _ => exact e5.elim
/-- what the argument of the generator comes to -/
noncomputable abbrev GiArg (C : Cx) (fe : Fe) (vs : Vars) (k N : Nat) (target : Expr) (body : List Stmt) (Q : Fl → Vars → Led → Prop) (EX : Value → Shared → Prop) (fz : Fz) (G : Array GenState) (Y : Led) (l : List Env) (J : Gi → Nat → Vars → Led → Addr → Prop) (d : D) (led1 : Led) : Prop :=
  ∃ KI, (∀ Y, IterN C Y led1 d KI) ∧ ∃ PN : Addr → Option D → Led → Prop, (∀ I led2, KI I led2 → ∀ F', Dj F' Y → NextW C (Un F' Y) led2 k I (PN I)) ∧ (∀ I d led', PN I (some d) led' → ∃ i, d = .int i) ∧
       (∀ I led', PN I none led' ∨ PN I (some (.int 127)) led' → Q .next vs led') ∧
       (∀ I led' fz' G' s' e, PN I (some (.int 0)) led' → FzLe fz fz' → GExt G G' → St C fz' led' Y G' s' → Held C fz' (Un led' Y) (fe.env :: l) e fe.env.locals refused s'.heap → EX (.ref e) s') ∧
       (∀ I j led', j ≠ 0 → j ≠ 127 → PN I (some (.int j)) led' → ∃ n, n < N ∧ GiBody C fe k target body Q j vs led' (fun vs5 led5 => J (.run j) n vs5 led5 I))
noncomputable abbrev GiStep (C : Cx) (fe : Fe) (k : Nat) (target : Expr) (body : List Stmt) (Q : Fl → Vars → Led → Prop) (J : Gi → Nat → Vars → Led → Addr → Prop) (X : Led) : Prop :=
  ∀ i n vs2 led2 I F2, FOk fe vs2 F2 X → Dj F2 X → J (.run i) n vs2 led2 I → ∃ PN : Option D → Led → Prop, (∀ F', Dj F' (Un F2 X) → NextW C (Un F' (Un F2 X)) led2 k I PN) ∧ (∀ d led', PN (some d) led' → ∃ i, d = .int i) ∧
       (∀ led', PN none led' ∨ PN (some (.int 127)) led' → Q .next vs2 led') ∧
       (∀ led', PN (some (.int 0)) led' → ∃ m, m < n ∧ GiBody C fe k target body Q i vs2 led' (fun vs5 led5 => J (.rep i) m vs5 led5 I)) ∧
       (∀ j led', j ≠ 0 → j ≠ 127 → PN (some (.int j)) led' → ∃ m, m < n ∧ GiBody C fe k target body Q j vs2 led' (fun vs5 led5 => J (.run j) m vs5 led5 I))
/-- where the generator stands -/
inductive GiAt (C : Cx) (a : Addr) (z : GiZ) (d : D) (J : Gi → Nat → Vars → Led → Addr → Prop) (Fg Y : Led) (n : Nat) (vs : Vars) (led : Led) (gs : GenState) (I : Addr) : Prop
  | run (i : Int) : J (.run i) n vs led I → FOk (giFe a z) (giW d i) Fg Y → SusFor C (giFe a z) I gs → GiAt C a z d J Fg Y n vs led gs I
  | rep (i : Int) : J (.rep i) n vs led I → FOk (giFe a z) (giV d (some i)) Fg Y → SusWh C (giFe a z) I gs → GiAt C a z d J Fg Y n vs led gs I
inductive GiInv (C : Cx) (a : Addr) (z : GiZ) (d : D) (J : Gi → Nat → Vars → Led → Addr → Prop) (fe : Fe) (X : Led) (g N : Nat) (fz2 : Fz) (G : Array GenState) (n : Nat) (s' : Shared) : Prop
  | mk {fz' G' F' Fg' vs' led' gs I} : n < N → FzLe fz2 fz' → GExt G G' → FOk fe vs' F' X → Dj F' X → Dj Fg' (Un F' X) → St C fz' led' (Un Fg' (Un F' X)) G' s' → G'[g]? = some gs → GiAt C a z d J Fg' (Un F' X) n vs' led' gs I → GiInv C a z d J fe X g N fz2 G n s'
section
variable {C : Cx} {fe : Fe} {k N : Nat} {a : Addr} {z : GiZ} {d : D} {target : Expr} {body : List Stmt} {Q : Fl → Vars → Led → Prop} {EX EY EZ : Value → Shared → Prop} {A : Around} {fz fz2 : Fz} {X : Led} {G : Array GenState} {J : Gi → Nat → Vars → Led → Addr → Prop} {ga : Addr} {g n : Nat}
theorem gi_l1 (i : Int) : ((giW d i).all fun p => (giFe a z).env.kindOf p.1 == some .local) = true := rfl
theorem gi_l2 (o : Option Int) : ((giV d o).all fun p => (giFe a z).env.kindOf p.1 == some .local) = true := rfl
/-- what a step of the generator and a turn come to -/
noncomputable abbrev GiTurn (C : Cx) (A : Around) (fz : Fz) (X : Led) (fe : Fe) (G : Array GenState) (Q : Fl → Vars → Led → Prop) (target : Expr) (body : List Stmt) (EX EY : Value → Shared → Prop) (RI : Shared → Prop) : Option Value → Shared → Prop := fun o s₁ => match o with
  | none => wpAny (model C.prog C.w) A (execs [] fe.env) (fun f s₂ => Psf C fz X fe G Q f s₂) EY s₁
  | some v => wpAny (model C.prog C.w) A (PySem.assign target fe.env v) (fun _ s₂ => wpAny (model C.prog C.w) A (execs body fe.env) (TurnEnd C fz X fe G Q RI) EX s₂) EX s₁
theorem GiInv.of {fz3 fz5 : Fz} {G3 G5 : Array GenState} {F5 Fg X : Led} {vs5 : Vars} {led5 : Led} {s5 : Shared} {gs : GenState} {I : Addr} (L : FzLe fz2 fz3) (g3 : GExt G G3) (hg : G3[g]? = some gs) (hn : n < N) (l5 : FzLe fz3 fz5) (g5 : GExt G3 G5) (hF : FOk fe vs5 F5 X) (hd : Dj F5 X) (hdg : Dj Fg (Un F5 X)) (S : St C fz5 led5 (Un Fg (Un F5 X)) G5 s5)
    (h : GiAt C a z d J Fg (Un F5 X) n vs5 led5 gs I) : GiInv C a z d J fe X g N fz2 G n s5 :=
  .mk hn (L.trans l5) (g3.trans g5) hF hd hdg S (g5.keep _ _ hg) h
theorem gi_inv {Fg3 F3 : Led} {fz3 : Fz} {G3 : Array GenState} {vs3 : Vars} {led3 : Led} {gs : GenState} {I : Addr} {s3 : Shared} (E0 : GiEnv C a) (hstep : GiStep C fe k target body Q J X)
    (hrep : ∀ i n vs2 led2 I, J (.rep i) n vs2 led2 I → ∃ m, m < n ∧ GiBody C fe k target body Q i vs2 led2 (fun vs5 led5 => J (.rep i) m vs5 led5 I))
    (hA : RoomF (k + 4) A fe X) (L2 : FzLe fz fz2) (hsize : G.size ≤ g) (hobj : GenObj fz2 ga g)
    (hnN : n < N) (l3 : FzLe fz2 fz3) (g3 : GExt G G3) (hF3 : FOk fe vs3 F3 X) (hd3 : Dj F3 X) (hdg3 : Dj Fg3 (Un F3 X)) (S3 : St C fz3 led3 (Un Fg3 (Un F3 X)) G3 s3) (hg3 : G3[g]? = some gs) (hc : GiAt C a z d J Fg3 (Un F3 X) n vs3 led3 gs I)
    {RI : Shared → Prop} (hRI : ∀ m s, m < n → GiInv C a z d J fe X g N fz2 G m s → RI s) :
    wpAny (model C.prog C.w) A (pyNext (.ref ga)) (GiTurn C A fz X fe G Q target body EX EY RI) EZ s3 := by
  have hAY3 := (hA.y hF3 hd3)
  have hobj3 := hobj.mono l3
  have hAk : RoomF k A fe X := hA.mono (by lia)
  cases hc with
  | run i hJ hFg3 hsus =>
    obtain ⟨PN3, hn3, hint3, hend3, hrep3, hgo3⟩ := hstep i n vs3 led3 I F3 hF3 hd3 hJ
    refine gi_step (k := k) (PN := PN3) E0 (hAY3.mono (by lia)) hobj3 hg3 hsus hFg3 hdg3 S3 hn3 hint3 ⟨?_, ?_, ?_⟩
    · intro fz' G' led' s' la ga' Sa hq
      exact wpAny_execs_nil ⟨fz', G', F3, vs3, led', .next, (L2.trans l3).trans la, g3.own hsize ga', trivial, hF3, hd3, Sa, hend3 led' hq⟩
    · intro v j fz' G' F' led' s' gs' hj1 hj0 la ga' ea hFa hda Sa hgs' hpa hsus'
      obtain ⟨m, hm1, hb⟩ := hgo3 j led' hj0 hj1 hpa
      have GG := g3.own hsize ga'
      exact gi_body hAk ((L2.trans l3).trans la) GG ea hF3 hd3 hda Sa hb fun fz5 G5 F5 vs5 led5 s5 l5 g5 hF5 hd5 hdg5 S5 hJ5 =>
        hRI m _ hm1 (.of (l3.trans la) GG hgs' (Nat.lt_trans hm1 hnN) l5 g5 hF5 hd5 hdg5 S5 (.run j hJ5 (hFa.outer (gi_l1 j)) hsus'))
    · intro v i' fz' G' F' led' s' gs' hi la ga' ea hFa hda Sa hgs' hpa hsus'
      cases hi
      obtain ⟨m, hm1, hb⟩ := hrep3 led' hpa
      have GG := g3.own hsize ga'
      exact gi_body hAk ((L2.trans l3).trans la) GG ea hF3 hd3 hda Sa hb fun fz5 G5 F5 vs5 led5 s5 l5 g5 hF5 hd5 hdg5 S5 hJ5 =>
        hRI m _ hm1 (.of (l3.trans la) GG hgs' (Nat.lt_trans hm1 hnN) l5 g5 hF5 hd5 hdg5 S5 (.rep i hJ5 (hFa.outer (gi_l2 (some i))) hsus'))
  | rep i hJ hFg3 hsus =>
    obtain ⟨m, hm1, hb⟩ := hrep i n vs3 led3 I hJ
    refine gi_rep (k := k) (hAY3.mono (by lia)) hobj3 hg3 hsus hFg3 hdg3 S3 ?_
    intro v fz' G' F' s' gs' la ga' ea hFa hda Sa hgs' hsus'
    have GG := g3.own hsize ga'
    exact gi_body hAk ((L2.trans l3).trans la) GG ea hF3 hd3 hda Sa hb fun fz5 G5 F5 vs5 led5 s5 l5 g5 hF5 hd5 hdg5 S5 hJ5 =>
      hRI m _ hm1 (.of (l3.trans la) GG hgs' (Nat.lt_trans hm1 hnN) l5 g5 hF5 hd5 hdg5 S5 (.rep i hJ5 (hFa.outer (gi_l2 (some i))) hsus'))
end
set_option maxHeartbeats 4000000 in
theorem for_gi {C : Cx} {led : Led} {fe : Fe} {vs : Vars} {k N : Nat} {a : Addr} {target arg : Expr} {body : List Stmt} {np cpos pos : Pos} {Q : Fl → Vars → Led → Prop} {EX : Value → Shared → Prop} {A : Around} {fz : Fz} {F X : Led} {G : Array GenState} {s : Shared} {l : List Env}
    (J : Gi → Nat → Vars → Led → Addr → Prop) (E0 : GiEnv C a) (hm : C.mg "_grouping_intervals" = some (.ref a)) (hkf : fe.env.frame = some fe.env.locals)
    (hF : FOk fe vs F X) (hd : Dj F X) (hA : RoomF (k + 4) A fe X) (hfr : A.frames = some (fe.env :: l)) (S : St C fz led (Un F X) G s)
    (harg : WE C led fe vs (k + 4) (eval arg fe.env) (GiArg C fe vs k N target body Q EX fz G (Un F X) l J))
    (hstep : GiStep C fe k target body Q J X)
    (hrep : ∀ i n vs2 led2 I, J (.rep i) n vs2 led2 I → ∃ m, m < n ∧ GiBody C fe k target body Q i vs2 led2 (fun vs5 led5 => J (.rep i) m vs5 led5 I))
    (hkk : fe.env.kindOf "_grouping_intervals" = some .globalImplicit) (ht : ∀ it v, letOwnedTupleGo target it v = pure ())
    (hs : ∀ x, foldedSetIterable (.Call (.Name "_grouping_intervals" np) [arg] [] cpos) fe.env x = pure x)
    (hst1 : starEach [arg] fe.env = (false, eval arg fe.env) :: starEach [] fe.env) :
    wpAny (model C.prog C.w) A (exec (.For target (.Call (.Name "_grouping_intervals" np) [arg] [] cpos) body [] pos) fe.env) (Psf C fz X fe G Q) EX s := by
  obtain ⟨name, name', pos0, hst⟩ := gi_def
  have hAY := hA.y hF hd
  refine wpAny_For (wpAny_mono (call_free (R := fun v s2 => ∃ fz1 led1 G1 d, FzLe fz fz1 ∧ GExt G G1 ∧ GenMade C fz1 led1 (Un F X) G1 a giScope giB [("grouping", d)] v s2 ∧ GiArg C fe vs k N target body Q EX fz G (Un F X) l J d led1) hF hd hA S ?_ (by first | rfl | with_unfolding_all rfl) (by rw [hst1]; with_unfolding_all rfl) (by rw [hst1]; with_unfolding_all rfl)) (fun gv s2 hp => ?_) fun _ _ x => x.elim) hs
  · refine WE.name_glob hm (fun _ => .ref a) ?_ hkk (by with_unfolding_all rfl)
    refine WL.cons (harg.mono fun d led1 hc => WL.nil ⟨fun Y => E0.fn.keep, fun fz2 G2 s2 fv vals l2 g2 S2 e1 e2 => ?_⟩) hst1
    cases e1
    exact wpAny_mono (gen_call (k := k) E0.fn hst [("grouping", d)] rfl rfl (hAY.mono (by lia)) S2 e2) (fun v s3 hg => ⟨fz2, led1, G2, d, l2, g2, hg, hc⟩) fun _ _ x => x
  · obtain ⟨fz1, led1, G1, d, l1, g1, ⟨fz2, G2, Fg, L, cs, q, code, ga, g, rfl, l2, g2, hgs, hFg, hdg, S2, hgg, hobj⟩, KI, hit, PN, hn, hint, hend, hexc, hfirst⟩ := hp
    refine wpAny_pyIter_gen (hobj.at_ S2) ?_
    have hsize : G.size ≤ g := Nat.le_trans g1.size hgs
    have L2 := l1.trans l2
    have G12 := g1.trans g2
    refine codeAny_forLoop (fun n s' => (n = N ∧ s' = s2) ∨ GiInv C a ⟨L, cs, q, code⟩ d J fe X g N fz2 G n s') (fun n s3 hI => ?_) N (.inl ⟨rfl, rfl⟩) (ht _)
    rcases hI with ⟨rfl, rfl⟩ | ⟨hnN, l3, g3, hF3, hd3, hdg3, S3, hg3, hcase⟩
    · refine gi_first (z := ⟨L, cs, q, code⟩) (k := k) (KI := KI) (PN := PN) E0 (hAY.mono (by lia)) hobj hgg hFg hdg S2 hit hn hint ?_ fun I => ⟨?_, ?_, ?_⟩
      · intro I fz' G' led' s' e l' la ga' Sa hl' hpa hfl
        rw [hfr] at hl'; cases hl'
        refine Flying.noted Sa hfr hkf hfl fun h4 S4 hh4 => ?_
        exact Held.own S4 hkf hh4 fun h5 S5 hh5 => hexc I led' fz' G' _ e hpa (L2.trans la) (G12.own hsize ga') S5 hh5
      · intro fz' G' led' s' la ga' Sa hq
        exact wpAny_execs_nil ⟨fz', G', F, vs, led', .next, L2.trans la, G12.own hsize ga', trivial, hF, hd, Sa, hend I led' hq⟩
      · intro v j fz' G' F' led' s' gs' hj1 hj0 la ga' ea hFa hda Sa hgs' hpa hsus
        obtain ⟨m, hm1, hb⟩ := hfirst I j led' hj0 hj1 hpa
        have GG := G12.own hsize ga'
        exact gi_body (hA.mono (by lia)) (L2.trans la) GG ea hF hd hda Sa hb fun fz5 G5 F5 vs5 led5 s5 l5 g5 hF5 hd5 hdg5 S5 hJ =>
          ⟨m, hm1, .inr (.of la GG hgs' hm1 l5 g5 hF5 hd5 hdg5 S5 (.run j hJ (hFa.outer (gi_l1 j)) hsus))⟩
      · intro v i' fz' G' F' led' s' gs' hi; cases hi
    · exact gi_inv (EX := _) (EY := _) E0 hstep hrep hA L2 hsize hobj hnN l3 g3 hF3 hd3 hdg3 S3 hg3 hcase fun m s hm h => ⟨m, hm, .inr h⟩
set_option tactic.hygienic true
noncomputable def Less (a b : Led) : Prop := ∀ x m, a x = some m → b x = some m
theorem Less.refl (a : Led) : Less a a := fun _ _ e => e
theorem Less.upd {a b : Led} (h : Less a b) {x : Addr} (hx : a x = none) (m : M) : Less a (upd b x m) := fun y m' e => by
  rw [upd_ne _ _ (fun z => by subst z; rw [hx] at e; cases e)]; exact h y m' e
theorem Less.delUpd {a b : Led} (h : Less a b) {x : Addr} (hx : a x = none) : Less a (Sc.del b x) := fun y m' e => by
  unfold Sc.del; rw [if_neg (fun z => by subst z; rw [hx] at e; cases e)]; exact h y m' e
theorem St.less {C : Cx} {fz : Fz} {led led' Y : Led} {G : Array GenState} {s : Shared} (S : St C fz led Y G s) (h : Less led' led) : St C fz led' Y G s := by
  refine ⟨fun a => ?_, S.rel.forget fun a m e => ?_⟩
  · rcases S.dj a with q | q
    · left
      cases hl : led' a with
      | none => rfl
      | some m => rw [h a m hl] at q; cases q
    · exact .inr q
  · cases hl : led' a with
    | some m' => rw [Un_left hl] at e; cases e; exact Un_left (h a _ hl)
    | none =>
      rw [Un_right hl] at e
      rw [Un_right ((S.dj a).resolve_right (by rw [e]; exact Option.some_ne_none _))]; exact e
theorem CallW.less {C : Cx} {Y led : Led} {k : Nat} {f : D} {ds : List D} {Q : D → Led → Prop} (h : CallW C Y led k f ds fun d led1 => ∃ led2, Less led2 led1 ∧ Q d led2) : CallW C Y led k f ds Q := by
  intro A fz G s fv us hA S e1 e2
  refine chain (h A fz G s fv us hA S e1 e2) fun v1 s1 fz1 G1 d1 led1 l1 g1 e3 S1 h1 => ?_
  obtain ⟨led2, hl, q⟩ := h1
  exact ⟨fz1, G1, _, _, l1, g1, e3, S1.less hl, q⟩

noncomputable def dig2 (n a : Nat) : List Int := if a = 0 then [] else digs n a ((Builtin.Int.intBits (a : Int) + n - 1) / n)
noncomputable def pos6 : Pos := posS inner6
theorem len6 {a n : Nat} (hn : 0 < n) (ha : a < 2 ^ 60) (h0 : a ≠ 0) : 0 < (Builtin.Int.intBits (a : Int) + n - 1) / n ∧ (Builtin.Int.intBits (a : Int) + n - 1) / n ≤ 60 := by
  have h1 : Builtin.Int.intBits (a : Int) ≤ 60 := bits_le (by rw [Int.natAbs_natCast]; exact ha)
  have h2 : 0 < Builtin.Int.intBits (a : Int) := by
    unfold Builtin.Int.intBits
    have : ((a : Int) == 0) = false := by simpa using h0
    rw [this]; simp
  refine ⟨Nat.div_pos (by lia) hn, ?_⟩
  rw [Nat.div_le_iff_le_mul_add_pred hn]
  have : n ≤ n * 1 := by lia
  have h3 : 60 * 1 ≤ 60 * n := Nat.mul_le_mul_left 60 hn
  rw [Nat.mul_comm n 60]
  lia
theorem int2digits_spec {C : Cx} {Y led : Led} {k : Nat} {f c P : Addr} {a n : Nat} {Q : D → Led → Prop} (N : NoG C) (h : GFnC C f (top2 6) c "_int2digits") (hct : C.ct c P) (hdq : C.dq c pos6 = "_int2digits.<locals>.inner")
    (hn : 0 < n) (hn2 : n ≤ 64) (ha : a < 2 ^ 60) (hq : Q (.lst ((dig2 n a).map .int)) led) : CallW C Y led (k + 70) (.ref f) [.int a, .int n] Q := by
  refine CallW.less (CallW.frz ?_)
  refine (CodeW.gfnc h rfl [("a", .int a), ("n", .int n)] rfl rfl fun L cs => ?_).call
  walk_at "v"
  refine WE.list ?_
  walk_at "v"
  refine ⟨by decide, ?_⟩
  walk_at "v"
  refine WE.m1 (pl := _) ?_
  walk_at "v"
  refine ⟨_, _, fun Y => GetM.bitlen, ?_⟩
  walk_at "v"
  refine Op2.fdiv (by lia) ?_ (by lia)
  have hd : ((Builtin.Int.intBits (a : Int) : Int) + (n : Int) - 1).fdiv (n : Int) = (((Builtin.Int.intBits (a : Int) + n - 1) / n : Nat) : Int) := by
    rw [Int.fdiv_eq_ediv_of_nonneg _ (by lia)]
    rw [Int.natCast_ediv]; congr 1; lia
  rw [hd]
  have hcnt : (Builtin.Int.intBits (a : Int) + n - 1) / n ≤ 60 := by
    by_cases h0 : a = 0
    · subst h0
      have : Builtin.Int.intBits ((0 : Nat) : Int) = 0 := rfl
      rw [this, Nat.zero_add, Nat.div_eq_of_lt (by lia)]; lia
    · exact (len6 hn ha h0).2
  generalize hcount : (Builtin.Int.intBits (a : Int) + n - 1) / n = cnt at *
  walk_at "v"
  refine Op2.mull (by lia) (by simp; lia) (by lia) (by simp) fun ad had => ?_
  rw [Int.toNat_natCast]
  walk_at "v"
  refine WS.def_ rfl hct (hdq.trans ?_) fun fi fd hi hfi => ?_
  · with_unfolding_all rfl
  walk_at "v"
  refine ⟨fun h0 => ?_, fun h0 => ?_⟩
  · have ha0 : a ≠ 0 := by simp only [bne_iff_ne, ne_eq] at h0; lia
    have hl := len6 hn ha ha0
    rw [hcount] at hl
    have hne : ad ≠ fi := fun z => by subst z; rw [upd_same] at hfi; cases hfi
    have had' : upd (upd led ad (M.list (List.replicate cnt [D.int 0]).flatten)) fi (M.fn none fd) ad = some (.list (List.replicate cnt [D.int 0]).flatten) := by rw [upd_ne _ _ hne, upd_same]
    have hrl : (List.replicate cnt [D.int 0]).flatten.length = cnt := by simp
    walk_at "v"
    refine WE.call ?_
    walk_at "v"
    refine WE.callY ?_
    walk_at "v"
    refine CallW.len_ref had' (by rw [hrl]; lia) ?_
    rw [hrl]
    walk_at "v"
    rename_i F X
    intro hF hd
    have clo := hF.clo (sc := scopeS inner6) (fv := [("inner", .ref fi), ("a_digits", .ref ad), ("n", .int n)]) rfl rfl ⟨rfl, rfl, rfl, trivial⟩
    refine ⟨KeepOk.fn (Callable.led (upd_same ..)), ?_⟩
    have w := inner6_spec (C := C) rfl hi hn hn2 hne cnt a 0 _ (Un F X) _ hl.1 (by lia) (upd_same ..) clo had' (by rw [hrl]; lia) (by rw [hrl]; lia) (by lia)
    rw [Nat.zero_add] at w
    refine (w.call.up (by lia)).mono ?_
    rintro d led' ⟨rfl, rfl⟩
    refine ⟨rfl, ?_⟩
    walk_at "v"
    refine ⟨ad, _, rfl, upd_same .., _, Less.delUpd ?_ had, ?_⟩
    · exact ((Less.refl led).upd had _ |>.upd (by rw [upd_ne _ _ hne.symm] at hfi; exact hfi) _).upd had _
    · have e : dig2 n a = digs n a cnt := by unfold dig2; rw [if_neg ha0, hcount]
      rw [e] at hq
      rw [List.take_zero, List.nil_append, List.drop_eq_nil_of_le (by rw [hrl]; lia), List.append_nil]
      exact hq
  · have ha0 : a = 0 := by simp only [bne_eq_false_iff_eq] at h0; lia
    have hne : ad ≠ fi := fun z => by subst z; rw [upd_same] at hfi; cases hfi
    have had' : upd (upd led ad (M.list (List.replicate cnt [D.int 0]).flatten)) fi (M.fn none fd) ad = some (.list (List.replicate cnt [D.int 0]).flatten) := by rw [upd_ne _ _ hne, upd_same]
    walk_at "v"
    refine ⟨ad, _, rfl, had', _, Less.delUpd ?_ had, ?_⟩
    · exact ((Less.refl led).upd had _ |>.upd (by rw [upd_ne _ _ hne.symm] at hfi; exact hfi) _)
    · subst ha0
      have hc0 : cnt = 0 := by
        have e0 : Builtin.Int.intBits ((0 : Nat) : Int) = 0 := rfl
        rw [e0, Nat.zero_add, Nat.div_eq_of_lt (by lia)] at hcount; exact hcount.symm
      subst hc0
      have e : dig2 n 0 = [] := by unfold dig2; rw [if_pos rfl]
      rw [e] at hq
      exact hq
set_option tactic.hygienic true
noncomputable def body7 : List Stmt := bodyS (top2 7)
noncomputable def inner7 : Stmt := body7.getD 0 (.Pass ⟨0, 0, 0, 0⟩)
noncomputable def pos7 : Pos := posS inner7
theorem valOf_bound (n : Nat) : ∀ ds : List Int, (∀ d ∈ ds, 0 ≤ d ∧ d < 2 ^ n) → 0 ≤ valOf n ds ∧ valOf n ds < 2 ^ (n * ds.length)
  | [], _ => by simp [valOf]
  | d :: r, h => by
    have h1 := h d List.mem_cons_self
    have h2 := valOf_bound n r fun x hx => h x (List.mem_cons_of_mem _ hx)
    rw [valOf, List.length_cons, Nat.mul_succ, Int.pow_add]
    have hp : (0 : Int) < 2 ^ n := Int.pow_pos (by decide)
    have hp2 : (0 : Int) ≤ 2 ^ n * valOf n r := Int.mul_nonneg (Int.le_of_lt hp) h2.1
    refine ⟨by lia, ?_⟩
    have h3 : 2 ^ n * (valOf n r + 1) ≤ 2 ^ n * 2 ^ (n * r.length) := Int.mul_le_mul_of_nonneg_left (by lia) (Int.le_of_lt hp)
    rw [Int.mul_add, Int.mul_one] at h3
    rw [Int.mul_comm ((2 : Int) ^ (n * r.length))]
    lia
theorem seg_split (ds : List Int) (L m : Nat) (hm : m / 2 ≤ m) : (ds.drop L).take m = (ds.drop L).take (m / 2) ++ (ds.drop (L + m / 2)).take (m - m / 2) := by
  have h := List.take_append_drop (m / 2) ((ds.drop L).take m)
  rw [← h, List.take_take, List.drop_take, List.drop_drop]
  congr 2
  lia
theorem inner7_spec {C : Cx} {fi : Addr} {fd : FuncData} {dict : Option Addr} {name name' : Str} {args : Arguments} {body : List Stmt} {scope : Scope} {pos : Pos} {cells : List (Str × Addr)} {n : Nat} {ds : List Int} (hin : inner7 = .FunctionDef name args body [] none [] scope none name' pos)
    (hi : FnIs fd args (.stmts body) scope (closOf scope cells)) (hn : 0 < n) (hn2 : n ≤ 64) (hds : ∀ d ∈ ds, 0 ≤ d ∧ d < 2 ^ n) (hsz : n * ds.length ≤ 62) : ∀ (m L : Nat) (Y led : Led), 0 < m → m ≤ 64 → led fi = some (.fn dict fd) →
      CloOk (closOf scope cells) Y [("inner", .ref fi), ("digits", .lst (ds.map .int)), ("n", .int n)] → L + m ≤ ds.length →
      CodeW C Y led (m + 3) (.ref fi) [.int L, .int ((L + m : Nat) : Int)] (fun d led' => d = .int (valOf n ((ds.drop L).take m)) ∧ led' = led) := by
  unfold inner7 at hin
  have hin' : (body7.getD 0 (.Pass ⟨0, 0, 0, 0⟩)) = .FunctionDef name args body [] none [] scope none name' pos := hin
  cases hin'
  intro m
  have hlen : ds.length ≤ 62 := Nat.le_trans (by have := Nat.mul_le_mul_right ds.length hn; lia) hsz
  induction m using Nat.strongRecOn with
  | _ m ih =>
    intro L Y led hm hm2 hl hc hL
    refine CodeW.nest hl hi [("L", .int L), ("R", .int ((L + m : Nat) : Int))] rfl rfl [("inner", .ref fi), ("digits", .lst (ds.map .int)), ("n", .int n)] hc rfl fun L' cs q code hcs => ?_
    walk_at "v"
    refine ⟨fun h1 => ?_, fun h1 => ?_⟩
    · have hm1 : m = 1 := by simp only [beq_iff_eq] at h1; lia
      subst hm1
      have hx : L < ds.length := by lia
      walk_at "v"
      refine SubW.lst (d := .int ds[L]) (by lia) (by lia) (by rw [Int.toNat_natCast, List.getElem?_map, List.getElem?_eq_getElem hx]; rfl) ?_
      refine ⟨?_, rfl⟩
      congr 1
      rw [List.drop_eq_getElem_cons hx, List.take_succ_cons, List.take_zero, valOf, valOf]; lia
    · have hm1 : 1 < m := by simp only [beq_eq_false_iff_ne] at h1; lia
      have hmid : ((L : Int) + ((L + m : Nat) : Int)).fdiv (2 ^ Int.toNat 1) = ((L + m / 2 : Nat) : Int) := by
        rw [← Int.natCast_add, show (2 : Int) ^ Int.toNat 1 = 2 ^ 1 from rfl, fdiv_pow, ← Nat.add_assoc, ← Nat.two_mul, Nat.pow_one, Nat.mul_add_div (by decide)]
      have hsh : (((L + m / 2 : Nat) : Int) - (L : Int)) * (n : Int) = ((n * (m / 2) : Nat) : Int) := by
        rw [Int.natCast_mul, Int.natCast_add, Int.mul_comm]; congr 1; lia
      have hs2 : n * (m / 2) ≤ 1000000 := Nat.le_trans (Nat.mul_le_mul hn2 (Nat.le_trans (Nat.div_le_self m 2) hm2)) (by decide)
      walk_at "v"
      refine Op2.shr (by lia) ?_
      rw [hmid]
      clear hmid h1
      walk_at "v"
      refine Op2.mul ?_ (.inr (by lia))
      rw [hsh]
      walk_at "v"
      refine WE.call ?_
      walk_at "v"
      rename_i F X
      intro hF hd
      have clo := FOk.cloC (fv := [("inner", .ref fi), ("digits", .lst (ds.map .int)), ("n", .int n)]) hF hcs rfl rfl rfl ⟨rfl, rfl, rfl, trivial⟩
      refine ⟨KeepOk.fn (Callable.led hl), ?_⟩
      have q1 : L + m / 2 + (m - m / 2) = L + m := by rw [Nat.add_assoc, half_add]
      have q2 : L + m / 2 ≤ ds.length := Nat.le_trans (Nat.add_le_add_left (Nat.div_le_self m 2) L) hL
      have upper := ih (m - m / 2) (rest_lt hm1) (L + m / 2) (Un F X) led (rest_pos hm1) (Nat.le_trans (Nat.sub_le ..) hm2) hl clo (q1 ▸ hL)
      rw [q1] at upper
      refine (upper.call.up (by lia)).mono ?_
      rintro d led2 ⟨rfl, hle⟩
      obtain rfl : led = led2 := hle.symm
      walk_at "v"
      have hmem : ∀ (j i : Nat), ∀ d ∈ (ds.drop j).take i, 0 ≤ d ∧ d < 2 ^ n := fun j i d hd => hds d (List.mem_of_mem_drop (List.mem_of_mem_take hd))
      have hb := valOf_bound n _ (hmem (L + m / 2) (m - m / 2))
      have hb2 : (2 : Int) ^ (n * ((ds.drop (L + m / 2)).take (m - m / 2)).length) ≤ 2 ^ 62 := by
        have h4 : n * ((ds.drop (L + m / 2)).take (m - m / 2)).length ≤ 62 := Nat.le_trans (Nat.mul_le_mul_left n (by rw [List.length_take, List.length_drop]; exact Nat.le_trans (Nat.min_le_right ..) (Nat.sub_le ..))) hsz
        have := Nat.pow_le_pow_right (n := 2) (by decide) h4
        exact_mod_cast this
      refine Op2.shl (by lia) (by lia) (by lia) ?_
      rw [Int.toNat_natCast]
      walk_at "v"
      refine WE.call ?_
      walk_at "v"
      rename_i F X
      intro hF hd
      have clo := FOk.cloC (fv := [("inner", .ref fi), ("digits", .lst (ds.map .int)), ("n", .int n)]) hF hcs rfl rfl rfl ⟨rfl, rfl, rfl, trivial⟩
      refine ⟨KeepOk.fn (Callable.led hl), ?_⟩
      have lower := ih (m / 2) (half_lt hm1) L (Un F X) led (half_pos hm1) (Nat.le_trans (Nat.div_le_self m 2) hm2) hl clo q2
      refine (lower.call.up (by lia)).mono ?_
      rintro d led2 ⟨rfl, hle⟩
      obtain rfl : led = led2 := hle.symm
      walk_at "v"
      refine ⟨?_, rfl⟩
      congr 1
      rw [seg_split ds L m (by lia), valOf_append]
      have : ((ds.drop L).take (m / 2)).length = m / 2 := by rw [List.length_take, List.length_drop, Nat.min_eq_left (Nat.le_sub_of_add_le (Nat.add_comm L _ ▸ q2))]
      rw [this, Int.mul_comm]; lia
theorem digits2int_spec {C : Cx} {Y led : Led} {k : Nat} {f c P : Addr} {n : Nat} {ds : List Int} {Q : D → Led → Prop} (N : NoG C) (h : GFnC C f (top2 7) c "_digits2int") (hct : C.ct c P) (hdq : C.dq c pos7 = "_digits2int.<locals>.inner")
    (hn : 0 < n) (hn2 : n ≤ 64) (hds : ∀ d ∈ ds, 0 ≤ d ∧ d < 2 ^ n) (hsz : n * ds.length ≤ 62) (hq : Q (.int (valOf n ds)) led) : CallW C Y led (k + 70) (.ref f) [.lst (ds.map .int), .int n] Q := by
  have hlen : ds.length ≤ 62 := Nat.le_trans (by have := Nat.mul_le_mul_right ds.length hn; lia) hsz
  refine CallW.less ?_
  refine (CodeW.gfnc h rfl [("digits", .lst (ds.map .int)), ("n", .int n)] rfl rfl fun L cs => ?_).call
  walk_at "v"
  refine WS.def_ rfl hct (hdq.trans ?_) fun fi fd hi hfi => ?_
  · with_unfolding_all rfl
  walk_at "v"
  refine Tru.lst (by simp; lia) ?_
  refine ⟨fun h0 => ?_, fun h0 => ?_⟩
  · have hne : 0 < ds.length := by cases ds with | nil => simp at h0 | cons => simp
    refine WE.call ?_
    walk_at "v"
    refine WE.callY ?_
    walk_at "v"
    refine CallW.len_lst (by simp; lia) ?_
    rw [List.length_map]
    walk_at "v"
    rename_i F X
    intro hF hd
    have clo := hF.clo (sc := scopeS inner7) (fv := [("inner", .ref fi), ("digits", .lst (ds.map .int)), ("n", .int n)]) rfl rfl ⟨rfl, rfl, rfl, trivial⟩
    refine ⟨KeepOk.fn (Callable.led (upd_same ..)), ?_⟩
    have w := inner7_spec (C := C) (dict := none) rfl hi hn hn2 hds hsz ds.length 0 (Un F X) (upd led fi (.fn none fd)) hne (by lia) (upd_same ..) clo (by lia)
    rw [Nat.zero_add] at w
    refine (w.call.up (by lia)).mono ?_
    rintro d led' ⟨rfl, rfl⟩
    refine ⟨led, (Less.refl led).upd hfi _, ?_⟩
    rw [List.drop_zero, List.take_length]; exact hq
  · have hne : ds = [] := by cases ds with | nil => rfl | cons => simp at h0
    subst hne
    walk_at "v"
    exact ⟨led, (Less.refl led).upd hfi _, hq⟩
set_option tactic.hygienic false
theorem digs_val (n : Nat) : ∀ k x : Nat, 0 < k → valOf n (digs n x k) = x := by
  intro k
  induction k using Nat.strongRecOn with
  | _ k ih =>
    intro x hk
    by_cases h : k = 1
    · subst h; rw [digs_one]; simp [valOf]
    · have h1 : 1 < k := Nat.lt_of_le_of_ne hk (Ne.symm h)
      rw [digs_split n x k h1, valOf_append, digs_length _ _ _ (half_pos h1), ih _ (half_lt h1) _ (half_pos h1), ih _ (rest_lt h1) _ (rest_pos h1)]
      have := Nat.mod_add_div x (2 ^ (n * (k / 2)))
      exact_mod_cast this
theorem digs_small (n : Nat) : ∀ k x : Nat, 0 < k → x < 2 ^ (n * k) → ∀ d ∈ digs n x k, 0 ≤ d ∧ d < 2 ^ n := by
  intro k
  induction k using Nat.strongRecOn with
  | _ k ih =>
    intro x hk hx d hd
    by_cases h : k = 1
    · subst h
      rw [digs_one, List.mem_singleton] at hd
      subst hd
      rw [Nat.mul_one] at hx
      refine ⟨by lia, ?_⟩
      exact_mod_cast hx
    · have h1 : 1 < k := Nat.lt_of_le_of_ne hk (Ne.symm h)
      rw [digs_split n x k h1, List.mem_append] at hd
      rcases hd with hd | hd
      · exact ih _ (half_lt h1) _ (half_pos h1) (Nat.mod_lt _ (Nat.pow_pos (by decide))) d hd
      · refine ih _ (rest_lt h1) _ (rest_pos h1) ?_ d hd
        rw [Nat.div_lt_iff_lt_mul (Nat.pow_pos (by decide)), ← Nat.pow_add, ← Nat.mul_add]
        rwa [Nat.add_comm, half_add]
noncomputable def dstep (b : Int) (n : Nat) (st : Int × List Int) (d : Int) : Int × List Int := ((st.1 * 2 ^ n + d).fmod b, st.2 ++ [(st.1 * 2 ^ n + d).fdiv b])
noncomputable def dst (b : Int) (n : Nat) (l : List Int) : Int × List Int := l.foldl (dstep b n) (0, [])
theorem dst_snoc (b : Int) (n : Nat) (l : List Int) (d : Int) : dst b n (l ++ [d]) = dstep b n (dst b n l) d := by unfold dst; rw [List.foldl_append]; rfl
theorem dst_inv (b : Int) (n : Nat) (hb : 0 < b) (l : List Int) : (∀ d ∈ l, 0 ≤ d ∧ d < 2 ^ n) →
    0 ≤ (dst b n l).1 ∧ (dst b n l).1 < b ∧ (dst b n l).2.length = l.length ∧ (∀ q ∈ (dst b n l).2, 0 ≤ q ∧ q < 2 ^ n) ∧ valOf n l.reverse = valOf n (dst b n l).2.reverse * b + (dst b n l).1 := by
  suffices h : ∀ k, ∀ l : List Int, l.length = k → (∀ d ∈ l, 0 ≤ d ∧ d < 2 ^ n) →
    0 ≤ (dst b n l).1 ∧ (dst b n l).1 < b ∧ (dst b n l).2.length = l.length ∧ (∀ q ∈ (dst b n l).2, 0 ≤ q ∧ q < 2 ^ n) ∧ valOf n l.reverse = valOf n (dst b n l).2.reverse * b + (dst b n l).1 from h _ l rfl
  intro k
  induction k with
  | zero =>
    intro l hl _
    have := List.length_eq_zero_iff.mp hl
    subst this
    simp [dst, valOf, hb]
  | succ k ih =>
    intro l hl hd
    have hne : l ≠ [] := by intro z; rw [z] at hl; cases hl
    obtain ⟨p, d, rfl⟩ : ∃ p d, l = p ++ [d] := ⟨l.dropLast, l.getLast hne, (List.dropLast_concat_getLast hne).symm⟩
    obtain ⟨i1, i2, i3, i4, i5⟩ := ih p (by simpa using hl) fun x hx => hd x (List.mem_append_left _ hx)
    have hdd := hd d (by simp)
    rw [dst_snoc]
    unfold dstep
    generalize dst b n p = st at *
    obtain ⟨r, qs⟩ := st
    simp only at *
    have hp : (0 : Int) < 2 ^ n := Int.pow_pos (by decide)
    have ht : 0 ≤ r * 2 ^ n + d := Int.add_nonneg (Int.mul_nonneg i1 (Int.le_of_lt hp)) hdd.1
    have ht2 : r * 2 ^ n + d < b * 2 ^ n := by
      have : (r + 1) * 2 ^ n ≤ b * 2 ^ n := Int.mul_le_mul_of_nonneg_right (by lia) (Int.le_of_lt hp)
      rw [Int.add_mul, Int.one_mul] at this; lia
    rw [Int.fdiv_eq_ediv_of_nonneg _ (Int.le_of_lt hb), Int.fmod_eq_emod_of_nonneg _ (Int.le_of_lt hb)]
    refine ⟨Int.emod_nonneg _ (by lia), Int.emod_lt_of_pos _ hb, by simp [i3], ?_, ?_⟩
    · intro q hq
      rcases List.mem_append.mp hq with hq | hq
      · exact i4 q hq
      · rw [List.mem_singleton] at hq
        subst hq
        exact ⟨Int.ediv_nonneg ht (Int.le_of_lt hb), Int.ediv_lt_of_lt_mul hb (by rw [Int.mul_comm ((2 : Int) ^ n) b]; exact ht2)⟩
    · rw [List.reverse_append, List.reverse_append]
      simp only [List.reverse_cons, List.reverse_nil, List.nil_append, List.singleton_append, List.cons_append, valOf]
      rw [i5]
      have e := Int.mul_ediv_add_emod (r * 2 ^ n + d) b
      rw [Int.add_mul, Int.mul_add]
      have e2 : 2 ^ n * (valOf n qs.reverse * b) = 2 ^ n * valOf n qs.reverse * b := (Int.mul_assoc ..).symm
      have e3 : b * ((r * 2 ^ n + d) / b) = (r * 2 ^ n + d) / b * b := Int.mul_comm ..
      have e4 : 2 ^ n * r = r * 2 ^ n := Int.mul_comm ..
      lia
/-- the facts of the small division -/
structure DivEnv (C : Cx) : Prop where
  N : NoG C
  lim : ∃ t, C.mg "_DIV_LIMIT" = some (.int 4000 t)
  div : ∃ f, C.mg "_div2n1n" = some (.ref f) ∧ GFn C f (top2 4)
  i2d : ∃ f c P, C.mg "_int2digits" = some (.ref f) ∧ GFnC C f (top2 6) c "_int2digits" ∧ C.ct c P ∧ C.dq c pos6 = "_int2digits.<locals>.inner"
  d2i : ∃ f c P, C.mg "_digits2int" = some (.ref f) ∧ GFnC C f (top2 7) c "_digits2int" ∧ C.ct c P ∧ C.dq c pos7 = "_digits2int.<locals>.inner"
  dmp : ∃ f, C.mg "_divmod_pos" = some (.ref f) ∧ GFn C f (top2 8)
  idm : ∃ f, C.mg "int_divmod" = some (.ref f) ∧ GFn C f (top2 9)

theorem divmod_pos_spec {C : Cx} {Y led : Led} {k : Nat} {f : Addr} {a b : Nat} {Q : D → Led → Prop} (V : DivEnv C) (h : GFn C f (top2 8)) (hb : 0 < b) (hb2 : b < 2 ^ 30) (ha : a < 2 ^ 30)
    (hq : Q (.tup [.int ((a / b : Nat) : Int), .int ((a % b : Nat) : Int)]) led) : CallW C Y led (k + 80) (.ref f) [.int a, .int b] Q := by
  have N := V.N
  obtain ⟨t, hlim⟩ := V.lim
  obtain ⟨f4, hm4, h4⟩ := V.div
  obtain ⟨f6, c6, P6, hm6, h6, ct6, dq6⟩ := V.i2d
  obtain ⟨f7, c7, P7, hm7, h7, ct7, dq7⟩ := V.d2i
  refine CallW.less ?_
  refine CallW.gfn h rfl [("a", .int a), ("b", .int b)] rfl rfl fun L cs q code => ?_
  walk_at "v"
  refine WE.m1 (pl := _) ?_
  walk_at "v"
  refine ⟨_, _, fun Y => GetM.bitlen, ?_⟩
  walk_at "v"
  have hn : 0 < Builtin.Int.intBits (b : Int) ∧ Builtin.Int.intBits (b : Int) ≤ 30 := by
    refine ⟨?_, bits_le (by rw [Int.natAbs_natCast]; exact hb2)⟩
    unfold Builtin.Int.intBits
    have : ((b : Int) == 0) = false := by simp; lia
    rw [this]; simp
  generalize hnn : Builtin.Int.intBits (b : Int) = n at *
  refine WE.callY ?_
  walk_at "v"
  refine ⟨h6.fn.keep, (int2digits_spec (k := k) N h6 ct6 dq6 hn.1 (by lia) (by lia) ?_).up (by lia)⟩
  walk_at "v"
  refine WE.listM ?_
  walk_at "v"
  refine ⟨by decide, fun qd hqd => ?_⟩
  walk_at "v"
  generalize hds : dig2 n a = ds
  have hdl : ds.length ≤ 60 ∧ n * ds.length ≤ 60 ∧ valOf n ds = a ∧ ∀ d ∈ ds, 0 ≤ d ∧ d < 2 ^ n := by
    subst hds
    unfold dig2
    by_cases h0 : a = 0
    · subst h0; simp [valOf]
    · rw [if_neg h0]
      have hl := len6 hn.1 (by lia : a < 2 ^ 60) h0
      have hia : Builtin.Int.intBits (a : Int) ≤ 30 := bits_le (by rw [Int.natAbs_natCast]; exact ha)
      generalize hcnt : (Builtin.Int.intBits (a : Int) + n - 1) / n = cnt at *
      have h1 : n * cnt ≤ Builtin.Int.intBits (a : Int) + n - 1 := by rw [← hcnt]; exact Nat.mul_div_le ..
      have h2 : Builtin.Int.intBits (a : Int) ≤ n * cnt := by
        have := Nat.lt_mul_div_succ (Builtin.Int.intBits (a : Int) + n - 1) hn.1
        rw [hcnt, Nat.mul_add, Nat.mul_one] at this; exact Nat.le_of_add_le_add_right (Nat.le_of_pred_lt this)
      have hlt : a < 2 ^ (n * cnt) := by
        have : a < 2 ^ Builtin.Int.intBits (a : Int) := by
          unfold Builtin.Int.intBits
          have hz : ((a : Int) == 0) = false := by simpa using h0
          rw [hz]
          simp only [Bool.false_eq_true, if_false, Int.natAbs_natCast]
          exact Nat.lt_log2_self
        exact Nat.lt_of_lt_of_le this (Nat.pow_le_pow_right (by decide) h2)
      rw [digs_length _ _ _ hl.1]
      exact ⟨hl.2, Nat.le_trans h1 (Nat.le_trans (Nat.sub_le _ 1) (Nat.add_le_add hia (Nat.le_trans hn.2 (by decide : 30 ≤ 30)))), digs_val _ _ _ hl.1, digs_small _ _ _ hl.1 hlt⟩
  refine WS.forI (fun i => [("a", .int a), ("b", .int b), ("n", .int n), ("r", .int (dst b n (ds.reverse.take i)).1), ("q_digits", .ref qd)]) (fun i => upd led qd (.list ((dst b n (ds.reverse.take i)).2.map .int))) ?_
  refine WE.callY ?_
  walk_at "v"
  refine CallW.reversed fun I hI => ?_
  refine ⟨_, fun Y => IterOf.rev (upd_same ..), ⟨rfl, rfl, rfl, rfl, rfl, trivial⟩, ?_, fun i x hx => ?_, ?_⟩
  · show del _ I = _
    rw [del_upd _ _ _ hI]; rfl
  · obtain ⟨d, hd, rfl⟩ : ∃ d, ds.reverse[i]? = some d ∧ x = .int d := by
      rw [← List.map_reverse, List.getElem?_map] at hx
      cases hg : ds.reverse[i]? with
      | none => rw [hg] at hx; cases hx
      | some d => rw [hg] at hx; cases hx; exact ⟨d, rfl, rfl⟩
    have hil : i < ds.length := by have := (List.getElem?_eq_some_iff.mp hd).1; rwa [List.length_reverse] at this
    have hsub : ∀ d ∈ ds.reverse.take i, 0 ≤ d ∧ d < 2 ^ n := fun d hd => hdl.2.2.2 d (List.mem_reverse.mp (List.mem_of_mem_take hd))
    have hd2 := hdl.2.2.2 d (List.mem_reverse.mp (List.mem_of_getElem? hd))
    have V := dst_inv b n (Int.natCast_pos.mpr hb) (ds.reverse.take i) hsub
    have hst : dst b n (ds.reverse.take (i + 1)) = dstep b n (dst b n (ds.reverse.take i)) d := by
      rw [List.take_add_one, hd]; exact dst_snoc ..
    rw [hst]
    unfold dstep
    generalize dst b n (ds.reverse.take i) = st at *
    obtain ⟨r, qs⟩ := st
    simp only at *
    have v1 := V.1; have v2 := V.2.1; have v3 := V.2.2.1
    have hp : (0 : Int) < 2 ^ n := Int.pow_pos (by decide)
    have hp2 : (2 : Int) ^ n ≤ 2 ^ 30 := by have := Nat.pow_le_pow_right (n := 2) (by decide) hn.2; exact_mod_cast this
    have ht : 0 ≤ r * 2 ^ n + d := Int.add_nonneg (Int.mul_nonneg v1 (Int.le_of_lt hp)) hd2.1
    have ht2 : r * 2 ^ n + d < 2 ^ 60 := by
      have h1 : (r + 1) * 2 ^ n ≤ (b : Int) * 2 ^ n := Int.mul_le_mul_of_nonneg_right (by lia) (Int.le_of_lt hp)
      have h2 : (b : Int) * 2 ^ n ≤ 2 ^ 30 * 2 ^ n := Int.mul_le_mul_of_nonneg_right (by lia) (Int.le_of_lt hp)
      have h3 : (2 : Int) ^ 30 * 2 ^ n ≤ 2 ^ 30 * 2 ^ 30 := Int.mul_le_mul_of_nonneg_left hp2 (by decide)
      rw [Int.add_mul, Int.one_mul] at h1
      exact Int.lt_of_lt_of_le (Int.add_lt_add_left hd2.2 _) (Int.le_trans h1 (Int.le_trans h2 (Int.le_trans h3 (by decide))))
    walk_at "v"
    refine WE.callY ?_
    walk_at "v"
    refine Op2.shl (by lia) (by lia) (by lia) ?_
    rw [Int.toNat_natCast]
    walk_at "v"
    refine ⟨h4.keep, (div2n1n_spec (k := k) N h4 hlim (by lia) (by lia) ?_ ?_).up (by lia)⟩
    · have : Builtin.Int.intBits (r * 2 ^ n + d) ≤ 60 := bits_le (by lia)
      lia
    walk_at "v"
    refine WE.m1 (pl := _) ?_
    walk_at "v"
    refine ⟨_, _, fun Y => GetM.append (upd_same ..), ?_⟩
    walk_at "v"
    refine CallW.append (upd_same ..) (by rw [List.length_map, v3, List.length_take, List.length_reverse]; exact Nat.le_trans (Nat.min_le_right ..) (Nat.le_trans hdl.1 (by decide))) ?_
    refine ⟨rfl, ?_⟩
    walk_at "v"
    refine ⟨⟨rfl, rfl, rfl, rfl, rfl, trivial⟩, ?_⟩
    rw [upd_upd, List.map_append]; rfl
  · have hlr : (ds.map D.int).reverse.length = ds.length := by simp
    rw [hlr]
    have hsub : ∀ d ∈ ds.reverse, 0 ≤ d ∧ d < 2 ^ n := fun d hd => hdl.2.2.2 d (List.mem_reverse.mp hd)
    have V := dst_inv b n (Int.natCast_pos.mpr hb) ds.reverse hsub
    have htk : ds.reverse.take ds.length = ds.reverse := List.take_of_length_le (by simp)
    rw [htk]
    generalize dst b n ds.reverse = st at *
    obtain ⟨r, qs⟩ := st
    simp only at *
    have v1 := V.1; have v2 := V.2.1; have v3 := V.2.2.1; have v4 := V.2.2.2.1; have v5 := V.2.2.2.2
    rw [List.reverse_reverse, hdl.2.2.1] at v5
    rw [List.length_reverse] at v3
    walk_at "v"
    refine WE.m1 (pl := _) ?_
    walk_at "v"
    refine ⟨_, _, fun Y => GetM.reverse (upd_same ..), ?_⟩
    walk_at "v"
    refine CallW.reverse (upd_same ..) (by rw [List.length_map, v3]; lia) ?_
    refine ⟨rfl, ?_⟩
    walk_at "v"
    refine WE.callY ?_
    refine WE.n_fn (hx := hm7) ?_
    refine WL.cons ?_
    refine WE.frz (WE.nm ?_)
    refine ⟨qd, _, rfl, upd_same .., ?_⟩
    walk_at "v"
    have hrev : (qs.map D.int).reverse = qs.reverse.map .int := by rw [List.map_reverse]
    rw [hrev]
    refine ⟨h7.fn.keep, (digits2int_spec (k := k) N h7 ct7 dq7 hn.1 (by lia) (fun d hd => v4 d (List.mem_reverse.mp hd)) (by rw [List.length_reverse, v3]; lia) ?_).up (by lia)⟩
    walk_at "v"
    refine ⟨by simp, led, Less.delUpd (((Less.refl led).upd hqd _).upd hqd _) hqd, ?_⟩
    have e1 : valOf n qs.reverse = ((a / b : Nat) : Int) ∧ r = ((a % b : Nat) : Int) := by
      have hbi : (0 : Int) < (b : Int) := by lia
      have hdm := Int.ediv_emod_unique (a := (a : Int)) (b := (b : Int)) (r := r) (q := valOf n qs.reverse) hbi
      have := hdm.mpr ⟨by rw [v5, Int.mul_comm]; lia, v1, v2⟩
      rw [Int.natCast_ediv, Int.natCast_emod]
      exact ⟨this.1.symm, this.2.symm⟩
    rw [e1.1, e1.2]
    exact hq
theorem neg_pred_abs {a : Int} (h : a < 0) : (-a - 1).natAbs ≤ a.natAbs := by
  cases a with
  | ofNat n => exact absurd h (Int.not_lt.mpr (Int.natCast_nonneg n))
  | negSucc n => show ((n : Int) + 1 - 1).natAbs ≤ n + 1; rw [Int.add_sub_cancel, Int.natAbs_natCast]; exact Nat.le_succ n
/-- int_divmod: the quotient and the rest of either sign -/
theorem int_divmod_spec {C : Cx} {f : Addr} (V : DivEnv C) (hm : C.mg "int_divmod" = some (.ref f)) (h : GFn C f (top2 9)) : ∀ (m : Nat) {Y led : Led} {k : Nat} {a b : Int} {Q : D → Led → Prop}, (if b < 0 then 2 else 0) + (if a < 0 then 1 else 0) < m →
    b ≠ 0 → b.natAbs < 2 ^ 29 → a.natAbs < 2 ^ 29 → Q (.tup [.int (a.fdiv b), .int (a.fmod b)]) led → CallW C Y led (k + 81 + m) (.ref f) [.int a, .int b] Q := by
  intro m
  obtain ⟨f8, hm8, h8⟩ := V.dmp
  have N := V.N
  induction m with
  | zero => intro Y led k a b Q hlt; lia
  | succ m ih =>
    intro Y led k a b Q hlt hb hb2 ha hq
    refine CallW.gfn h rfl [("a", .int a), ("b", .int b)] rfl rfl fun L cs q code => ?_
    walk_at "v"
    refine ⟨fun h0 => absurd (by simpa using h0) hb, fun _ => ?_⟩
    walk_at "v"
    refine ⟨fun h1 => ?_, fun h1 => ?_⟩
    · have hbn : b < 0 := by simpa using h1
      rw [if_pos hbn] at hlt
      walk_at "v"
      refine WE.callY ?_
      walk_at "v"
      refine ⟨h.keep, (ih (k := k) ?_ (Int.neg_ne_zero.mpr hb) (by rwa [Int.natAbs_neg]) (by rwa [Int.natAbs_neg]) ?_).up (Nat.le_refl (k + 81 + m))⟩
      · rw [if_neg (by lia)]; split <;> lia
      walk_at "v"
      refine ⟨by simp, ?_⟩
      have e1 : (-a).fdiv (-b) = a.fdiv b := Int.neg_fdiv_neg ..
      have e2 : -((-a).fmod (-b)) = a.fmod b := by rw [Int.neg_fmod_neg, Int.neg_neg]
      rw [e1, e2]; exact hq
    · have hbn : ¬ b < 0 := by simpa using h1
      walk_at "v"
      refine ⟨fun h2 => ?_, fun h2 => ?_⟩
      · have han : a < 0 := by simpa using h2
        walk_at "v"
        refine WE.callY ?_
        walk_at "v"
        refine ⟨h.keep, (ih (k := k) ?_ hb hb2 (Nat.lt_of_le_of_lt (neg_pred_abs han) ha) ?_).up (Nat.le_refl (k + 81 + m))⟩
        · rw [if_pos han] at hlt; rw [if_neg (by lia : ¬ (-a - 1 < 0))]; split <;> lia
        walk_at "v"
        refine ⟨by simp, ?_⟩
        have hbp : 0 < b := by lia
        have key : (-a - 1).fdiv b = -(a.fdiv b) - 1 ∧ (-a - 1).fmod b = b - 1 - a.fmod b := by
          rw [Int.fdiv_eq_ediv_of_nonneg _ (by lia), Int.fmod_eq_emod_of_nonneg _ (by lia), Int.fdiv_eq_ediv_of_nonneg _ (by lia), Int.fmod_eq_emod_of_nonneg _ (by lia)]
          have x1 := Int.mul_ediv_add_emod a b
          have x2 := Int.emod_nonneg a (by lia : b ≠ 0)
          have x3 := Int.emod_lt_of_pos a hbp
          refine (Int.ediv_emod_unique hbp).mpr ⟨?_, by lia, by lia⟩
          rw [Int.mul_sub, Int.mul_neg]; lia
        rw [key.1, key.2, show -(-(a.fdiv b) - 1) - 1 = a.fdiv b by lia, show b + (-(b - 1 - a.fmod b) - 1) = a.fmod b by lia]
        exact hq
      · have han : ¬ a < 0 := by simpa using h2
        walk_at "v"
        refine WE.callY ?_
        walk_at "v"
        obtain ⟨a', rfl⟩ := Int.eq_ofNat_of_zero_le (by lia : 0 ≤ a)
        obtain ⟨b', rfl⟩ := Int.eq_ofNat_of_zero_le (by lia : 0 ≤ b)
        refine ⟨h8.keep, (divmod_pos_spec (k := k) V h8 (by lia) (by lia) (by lia) ?_).up (show k + 80 ≤ k + 81 + m by lia)⟩
        have e1 : (a' : Int).fdiv (b' : Int) = ((a' / b' : Nat) : Int) := by rw [Int.fdiv_eq_ediv_of_nonneg _ (by lia), Int.natCast_ediv]
        have e2 : (a' : Int).fmod (b' : Int) = ((a' % b' : Nat) : Int) := by rw [Int.fmod_eq_emod_of_nonneg _ (by lia), Int.natCast_emod]
        rw [e1, e2] at hq
        exact hq
set_option tactic.hygienic false
theorem upd_del (led : Led) {c : Addr} {m : M} (h : led c = some m) : upd (del led c) c m = led := by
  funext a
  by_cases ha : a = c
  · subst ha; rw [upd_same, h]
  · rw [upd_ne _ _ ha]; unfold del; rw [if_neg ha]
noncomputable def body14 : List Stmt := bodyS (top2 14)
noncomputable def read14 : Stmt := body14.getD 0 (.Pass ⟨0, 0, 0, 0⟩)
noncomputable abbrev sgn (c : Nat) : D := .str ⟨#[c]⟩
theorem page_clo {Y : Led} {cells : List (Str × Addr)} {cp pg : Addr} {sc : Scope} (hc : cells.lookup ("page" : Str) = some cp) (hf : freeNames sc = [("page" : Str)]) : CloOk (closOf sc cells) (upd Y cp (.cell (some (.ref pg)))) [("page", .ref pg)] := by
  refine ⟨fun x c e => ?_, fun x y c ex ey => ?_, fun x d e => ?_⟩
  · obtain ⟨hx, rfl⟩ := closOf_lookup e
    rw [hf, List.mem_singleton] at hx; subst hx
    rw [hc]; exact ⟨_, upd_same ..⟩
  · have hx_0 := closOf_lookup ex; have hx := hx_0.1
    have hx_1 := closOf_lookup ey; have hy := hx_1.1
    rw [hf, List.mem_singleton] at hx hy; rw [hx, hy]
  · rw [List.lookup_cons] at e
    by_cases hx : x = "page"
    · subst hx; simp at e; subst e
      exact ⟨cp, by rw [closOf_get (by rw [hf]; exact List.mem_singleton.mpr rfl), hc]; rfl, upd_same ..⟩
    · rw [beq_eq_false_iff_ne.mpr hx] at e; cases e

theorem read_spec {C : Cx} {Y led : Led} {k : Nat} {rf cp pg : Addr} {fd : FuncData} {dict : Option Addr} {cells : List (Str × Addr)} {text : List Nat} {Q : D → Led → Prop} {name name' : Str} {args : Arguments} {body : List Stmt} {scope : Scope} {pos : Pos} (hin : read14 = .FunctionDef name args body [] none [] scope none name' pos)
    (hl : led rf = some (.fn dict fd)) (hi : FnIs fd args (.stmts body) scope (closOf scope cells)) (hc : cells.lookup ("page" : Str) = some cp) (hcp : led cp = some (.cell (some (.ref pg)))) (hpg : led pg = some (.list (text.map sgn)))
    (hok : ∀ c ∈ text, c < 0x110000) (hlen : text.length ≤ 100000)
    (h1 : ∀ c r, text = c :: r → Q (sgn c) (upd led pg (.list (r.map sgn)))) (h2 : text = [] → Q (.str "") led) : CodeW C Y led (k + 5) (.ref rf) [.int 1] Q := by
  have hin' : (body14.getD 0 (.Pass ⟨0, 0, 0, 0⟩)) = .FunctionDef name args body [] none [] scope none name' pos := hin
  cases hin'
  have hne : cp ≠ pg := fun z => by subst z; rw [hcp] at hpg; cases hpg
  have hne2 : rf ≠ cp := fun z => by subst z; rw [hcp] at hl; cases hl
  have e := upd_del led hcp
  rw [← e]
  have hd : ∀ {a m}, a ≠ cp → led a = m → del led cp a = m := fun ha hm => by unfold del; rw [if_neg ha]; exact hm
  refine CodeW.lend (by unfold del; rw [if_pos rfl]) (Q0 := fun d led' => led' cp = none → Q d (upd led' cp (.cell (some (.ref pg))))) ?_ fun d led' q hn => q hn
  have hpg' := hd hne.symm hpg
  refine CodeW.nest (hd hne2 hl) hi [("size", .int 1)] rfl rfl [("page", .ref pg)] (page_clo hc (by with_unfolding_all rfl)) rfl fun L' cs q code hcs => ?_
  walk_at "v"
  refine ⟨fun _ => ?_, fun hx => by cases hx⟩
  walk_at "v"
  refine WE.list ?_
  walk_at "v"
  refine ⟨by simp, ?_⟩
  walk_at "v"
  have hpure : ∀ t : List Nat, (∀ c ∈ t, c < 0x110000) → D.pures (t.map sgn) = true := by
    intro t
    induction t with
    | nil => intro _; rfl
    | cons c r ih =>
      intro h
      show ((sgn c).pure && D.pures (r.map sgn)) = true
      rw [ih fun x hx => h x (List.mem_cons_of_mem _ hx)]
      have := h c List.mem_cons_self
      simp [sgn, D.pure, PyData.strOk, this]
  refine Op2.ne_ref (k := k + 3) hpg' (hpure _ hok) rfl (by decide) ?_
  have hq : (!(D.lst (text.map sgn)).eqv (.lst [])) = !text.isEmpty := by cases text <;> rfl
  rw [hq]
  cases ht : text with
  | nil =>
    walk_at "v"
    refine ⟨fun hx => by simp at hx, fun _ => ?_⟩
    refine ⟨fun hx => (by cases hx), fun _ => ?_⟩
    walk_at "v"
    intro hn
    rw [e]; exact h2 ht
  | cons c r =>
    walk_at "v"
    refine ⟨fun _ => ?_, fun hx => by simp at hx⟩
    walk_at "v"
    refine ⟨fun _ => ?_, fun hx => by cases hx⟩
    refine WE.m1 (pl := _) ?_
    walk_at "v"
    refine ⟨_, _, fun Y => GetM.pop hpg', ?_⟩
    walk_at "v"
    refine CallW.pop_at hpg' (by simp; lia) (by lia) (d := sgn c) (by rw [ht]; rfl) ?_
    intro hn
    rw [ht]
    have := h1 c r ht
    rw [← e] at this
    rw [upd_comm _ _ _ hne] at this
    exact this
set_option tactic.hygienic false
structure LxA where
  x : Addr
  dx : Addr
  st : Addr
  sd : Addr
  rf : Addr
  cp : Addr
  pg : Addr
  pb : Addr
noncomputable def wsp : Str := "\n\t\r "
noncomputable def lexNs (A : LxA) (line : Int) : List (Str × D) := [("lineno", .int line), ("instream", .ref A.st), ("whitespace", .str wsp), ("pushback", .ref A.pb)]
/-- the ledger with a lexer in it -/
noncomputable def lexL (B : Led) (A : LxA) (line : Int) (text : List Nat) (pbk : List D) : Led := upd (upd (upd B A.dx (.ns1 (lexNs A line))) A.pg (.list (text.map sgn))) A.pb (.list pbk)
structure LexOk (B : Led) (A : LxA) (cl : Addr) : Prop where
  nd : [A.x, A.dx, A.st, A.sd, A.rf, A.cp, A.pg, A.pb].Nodup
  x : B A.x = some (.obj cl A.dx)
  st : ∃ fd, B A.st = some (.fn (some A.sd) fd)
  sd : B A.sd = some (.ns1 [("read", .ref A.rf)])
  rf : ∃ fd cells args body scope name name' pos, B A.rf = some (.fn none fd) ∧ read14 = .FunctionDef name args body [] none [] scope none name' pos ∧ FnIs fd args (.stmts body) scope (closOf scope cells) ∧ cells.lookup ("page" : Str) = some A.cp
  cp : B A.cp = some (.cell (some (.ref A.pg)))
section
variable {B : Led} {A : LxA} {cl : Addr} {line line' : Int} {text text' : List Nat} {pbk pbk' : List D}
theorem LexOk.far (h : LexOk B A cl) {a b : Addr} (i j : Nat) (hi : [A.x, A.dx, A.st, A.sd, A.rf, A.cp, A.pg, A.pb][i]? = some a) (hj : [A.x, A.dx, A.st, A.sd, A.rf, A.cp, A.pg, A.pb][j]? = some b) (hij : i ≠ j) : a ≠ b := fun e =>
  hij ((List.getElem?_inj (List.getElem?_eq_some_iff.mp hi).1 h.nd).mp (by rw [hi, hj, e]))
theorem lexL_at (h : LexOk B A cl) {a : Addr} (h1 : a ≠ A.dx) (h2 : a ≠ A.pg) (h3 : a ≠ A.pb) : lexL B A line text pbk a = B a := by
  unfold lexL; rw [upd_ne _ _ h3, upd_ne _ _ h2, upd_ne _ _ h1]
theorem lexL_other (h : LexOk B A cl) {a : Addr} (i : Nat) (hi : [A.x, A.dx, A.st, A.sd, A.rf, A.cp, A.pg, A.pb][i]? = some a) (n1 : i ≠ 1) (n2 : i ≠ 6) (n3 : i ≠ 7) : lexL B A line text pbk a = B a :=
  lexL_at h (h.far i 1 hi rfl n1) (h.far i 6 hi rfl n2) (h.far i 7 hi rfl n3)
theorem lexL_pb : lexL B A line text pbk A.pb = some (.list pbk) := upd_same ..
theorem lexL_pg (h : LexOk B A cl) : lexL B A line text pbk A.pg = some (.list (text.map sgn)) := by
  unfold lexL; rw [upd_ne _ _ (h.far 6 7 rfl rfl (by decide)), upd_same]
theorem lexL_dx (h : LexOk B A cl) : lexL B A line text pbk A.dx = some (.ns1 (lexNs A line)) := by
  unfold lexL; rw [upd_ne _ _ (h.far 1 7 rfl rfl (by decide)), upd_ne _ _ (h.far 1 6 rfl rfl (by decide)), upd_same]
theorem lexL_x (h : LexOk B A cl) : lexL B A line text pbk A.x = some (.obj cl A.dx) := by
  rw [lexL_other h 0 rfl (by decide) (by decide) (by decide)]; exact h.x
theorem lexL_set_pb : upd (lexL B A line text pbk) A.pb (.list pbk') = lexL B A line text pbk' := upd_upd ..
theorem lexL_set_pg (h : LexOk B A cl) : upd (lexL B A line text pbk) A.pg (.list (text'.map sgn)) = lexL B A line text' pbk := by
  unfold lexL; rw [upd_comm _ _ _ (h.far 7 6 rfl rfl (by decide)), upd_upd]
theorem lexL_set_dx (h : LexOk B A cl) : upd (lexL B A line text pbk) A.dx (.ns1 (lexNs A line')) = lexL B A line' text pbk := by
  unfold lexL; rw [upd_comm _ _ _ (h.far 7 1 rfl rfl (by decide)), upd_comm _ _ _ (h.far 6 1 rfl rfl (by decide)), upd_upd]
end
noncomputable def meth2 (n : Nat) : Stmt := nthS n (bodyS (top2 1))
structure Meth (C : Cx) (mN : Str → Option Value) (name : Str) (st : Stmt) (f : Addr) : Prop where
  at_ : mN name = some (.ref f)
  fn : GFn C f st
  obj : ∃ o, C.h₀.get? f = some o ∧ o.cls = .type "function" ∧ ¬ C.tab f
structure NetEnv (C : Cx) (cl : Addr) (mN : Str → Option Value) : Prop where
  cls : GCls C cl mN
  init : ∃ f, Meth C mN "__init__" (meth2 0) f
  rc : ∃ f, Meth C mN "_read_char" (meth2 1) f
  gt : ∃ f, Meth C mN "get_token" (meth2 2) f
  pt : ∃ f, Meth C mN "push_token" (meth2 3) f
  n1 : mN "lineno" = none
  n2 : mN "instream" = none
  n3 : mN "whitespace" = none
  n4 : mN "pushback" = none
theorem ol1 : typeLookup (.type "object") ("lineno" : Str) = pure none := by rw [typeLookup_type, builtinLookup_eq_fast]; kernel_rfl
theorem ol2 : typeLookup (.type "object") ("instream" : Str) = pure none := by rw [typeLookup_type, builtinLookup_eq_fast]; kernel_rfl
theorem ol3 : typeLookup (.type "object") ("whitespace" : Str) = pure none := by rw [typeLookup_type, builtinLookup_eq_fast]; kernel_rfl
theorem ol4 : typeLookup (.type "object") ("pushback" : Str) = pure none := by rw [typeLookup_type, builtinLookup_eq_fast]; kernel_rfl
theorem ol5 : typeLookup (.type "object") ("_read_char" : Str) = pure none := by rw [typeLookup_type, builtinLookup_eq_fast]; kernel_rfl
theorem ol6 : typeLookup (.type "object") ("get_token" : Str) = pure none := by rw [typeLookup_type, builtinLookup_eq_fast]; kernel_rfl
theorem ol7 : typeLookup (.type "object") ("push_token" : Str) = pure none := by rw [typeLookup_type, builtinLookup_eq_fast]; kernel_rfl
theorem fl1 : typeLookup (.type "function") ("read" : Str) = pure none := by rw [typeLookup_type, builtinLookup_eq_fast]; kernel_rfl
theorem sgn_nl (c : Nat) : ((⟨#[c]⟩ : Str) == ("\n" : Str)) = (c == 10) := by
  have e : ("\n" : Str) = ⟨#[10]⟩ := by decide +kernel
  rw [e]
  by_cases h : c = 10
  · subst h; rfl
  · have h1 : (c == 10) = false := beq_eq_false_iff_ne.mpr h
    rw [h1]
    exact beq_eq_false_iff_ne.mpr fun z => h (by injection z with z; simpa using z)
noncomputable def nextLine (line : Int) (c : Nat) : Int := if c == 10 then line + 1 else line
theorem nl_pos {line : Int} {c : Nat} (h : (c == 10) = true) : nextLine line c = line + 1 := if_pos h
theorem nl_neg {line : Int} {c : Nat} (h : (c == 10) = false) : nextLine line c = line := if_neg (by rw [h]; decide)
theorem read_char_spec {C : Cx} {Y B : Led} {k : Nat} {A : LxA} {cl f : Addr} {line : Int} {text : List Nat} {pbk : List D} {Q : D → Led → Prop} {mN : Str → Option Value} (E : NetEnv C cl mN) (hf : GFn C f (meth2 1)) (L : LexOk B A cl)
    (hok : ∀ c ∈ text, c < 0x110000) (hlen : text.length ≤ 100000)
    (h1 : ∀ c r, text = c :: r → Q (sgn c) (lexL B A (nextLine line c) r pbk)) (h2 : text = [] → Q (.str "") (lexL B A line text pbk)) : CodeW C Y (lexL B A line text pbk) (k + 6) (.ref f) [.ref A.x] Q := by
  obtain ⟨fds, hst⟩ := L.st
  obtain ⟨fdr, cells, args, body, scope, nm, nm', pos, hrf, hin, hi, hce⟩ := L.rf
  refine CodeW.gfn hf rfl [("self", .ref A.x)] rfl rfl fun L' cs q code => ?_
  refine WS.cons (WS.assign (WE.m0 (pl := _) ?_))
  walk_at "v"
  refine GetA.inst E.cls (lexL_x L) (lexL_dx L) E.n2 ol2 rfl (fun _ z => by cases z) ?_
  refine ⟨.ref A.rf, fun Y => GetM.fnattr (by rw [lexL_other L 2 rfl (by decide) (by decide) (by decide)]; exact hst) (by rw [lexL_other L 3 rfl (by decide) (by decide) (by decide)]; exact L.sd) fl1 rfl (fun _ z => by cases z), ?_⟩
  walk_at "v"
  refine ⟨KeepOk.fn (Callable.led (by rw [lexL_other L 4 rfl (by decide) (by decide) (by decide)]; exact hrf)), (read_spec (k := k) hin (by rw [lexL_other L 4 rfl (by decide) (by decide) (by decide)]; exact hrf) hi hce (by rw [lexL_other L 5 rfl (by decide) (by decide) (by decide)]; exact L.cp) (lexL_pg L) hok hlen ?_ ?_).call⟩
  · intro c r ht
    rw [lexL_set_pg L]
    walk_at "v"
    rw [sgn_nl]
    refine ⟨fun hc => ?_, fun hc => ?_⟩
    · walk_at "v"
      refine GetA.inst E.cls (lexL_x L) (lexL_dx L) E.n1 ol1 rfl (fun _ z => by cases z) ?_
      walk_at "v"
      refine SetA.inst E.cls (lexL_x L) (lexL_dx L) E.n1 ol1 (by simp [lexNs]) ?_
      rw [show aput (lexNs A line) "lineno" (.int (line + 1)) = lexNs A (line + 1) from rfl, lexL_set_dx L]
      walk_at "v"
      exact (congrArg (fun l => Q (sgn c) (lexL B A l r pbk)) (nl_pos hc)).mp (h1 c r ht)
    · walk_at "v"
      exact (congrArg (fun l => Q (sgn c) (lexL B A l r pbk)) (nl_neg hc)).mp (h1 c r ht)
  · intro ht
    subst ht
    walk_at "v"
    refine ⟨fun hc => absurd hc (by decide +kernel), fun hc => ?_⟩
    walk_at "v"
    exact h2 rfl
set_option tactic.hygienic false
theorem GFn.callable {C : Cx} {a : Addr} {st : Stmt} (h : GFn C a st) : ∃ fd, ∀ Y led, Callable C Y led a fd := by
  obtain ⟨fd, h, _⟩ := h
  exact ⟨fd, h⟩

noncomputable def alph : List Nat := [97, 34, 92, 32, 10, 35, 9, 13, 46]
noncomputable def isWs (c : Nat) : Bool := [10, 9, 13, 32].contains c
theorem ws_in : ∀ c ∈ alph, Txt.contains wsp ⟨#[c]⟩ = isWs c := by decide +kernel
theorem q_is : ∀ c ∈ alph, ((⟨#[c]⟩ : Str) == ("\"" : Str)) = (c == 34) := by decide +kernel
theorem b_is : ∀ c ∈ alph, ((⟨#[c]⟩ : Str) == ("\\" : Str)) = (c == 92) := by decide +kernel
noncomputable abbrev mk (l : List Nat) : Str := ⟨l.toArray⟩
/-- inside quotation marks -/
noncomputable def quoted : List Nat → Int → List Nat → List Nat × List Nat × Int
  | [], line, tok => (tok, [], line)
  | c :: r, line, tok =>
    if c == 34 then (tok, r, nextLine line c)
    else if c == 92 then
      match r with
      | [] => (tok, [], nextLine line c)
      | c2 :: r2 => quoted r2 (nextLine (nextLine line c) c2) (tok ++ [c2])
    else quoted r (nextLine line c) (tok ++ [c])
noncomputable def bare : List Nat → Int → List Nat → List Nat × List Nat × Int
  | [], line, tok => (tok, [], line)
  | c :: r, line, tok =>
    if isWs c then (tok, r, nextLine line c)
    else if c == 92 then
      match r with
      | [] => (tok, [], nextLine line c)
      | c2 :: r2 => bare r2 (nextLine (nextLine line c) c2) (tok ++ [c2])
    else bare r (nextLine line c) (tok ++ [c])
/-- the next word of a text -/
noncomputable def getTok : List Nat → Int → List Nat × List Nat × Int
  | [], line => ([], [], line)
  | c :: r, line =>
    if isWs c then getTok r (nextLine line c)
    else if c == 34 then quoted r (nextLine line c) []
    else if c == 92 then
      match r with
      | [] => ([], [], nextLine line c)
      | c2 :: r2 => bare r2 (nextLine (nextLine line c) c2) [c2]
    else bare r (nextLine line c) [c]
theorem quoted_cons (c : Nat) (r : List Nat) (line : Int) (tok : List Nat) : quoted (c :: r) line tok = if c == 34 then (tok, r, nextLine line c) else if c == 92 then
      match r with
      | [] => (tok, [], nextLine line c)
      | c2 :: r2 => quoted r2 (nextLine (nextLine line c) c2) (tok ++ [c2])
    else quoted r (nextLine line c) (tok ++ [c]) := by rw [quoted.eq_def]
theorem bare_cons (c : Nat) (r : List Nat) (line : Int) (tok : List Nat) : bare (c :: r) line tok = if isWs c then (tok, r, nextLine line c) else if c == 92 then
      match r with
      | [] => (tok, [], nextLine line c)
      | c2 :: r2 => bare r2 (nextLine (nextLine line c) c2) (tok ++ [c2])
    else bare r (nextLine line c) (tok ++ [c]) := by rw [bare.eq_def]
theorem getTok_cons (c : Nat) (r : List Nat) (line : Int) : getTok (c :: r) line = if isWs c then getTok r (nextLine line c)
    else if c == 34 then quoted r (nextLine line c) []
    else if c == 92 then
      match r with
      | [] => ([], [], nextLine line c)
      | c2 :: r2 => bare r2 (nextLine (nextLine line c) c2) [c2]
    else bare r (nextLine line c) [c] := by rw [getTok.eq_def]
noncomputable abbrev gtV (A : LxA) (I : Addr) (tok : List Nat) : Vars := [("self", D.ref A.x), ("token", D.str (mk tok)), ("fiter", D.ref I)]
noncomputable abbrev cIt (f x : Addr) : M := .flds "callable_iterator" [.meth f x, .str "", .bool false]
theorem LexOk.put {B : Led} {A : LxA} {cl : Addr} (L : LexOk B A cl) {I : Addr} (hI : B I = none) (m : M) : LexOk (upd B I m) A cl := by
  have k : ∀ {a m'}, B a = some m' → upd B I m a = some m' := fun {a m'} e => by rw [upd_ne _ _ (fun z => by subst z; rw [hI] at e; cases e)]; exact e
  obtain ⟨fd, h2⟩ := L.st
  obtain ⟨fdr, cells, args, body, scope, nm, nm', pos, hrf, hr⟩ := L.rf
  exact ⟨L.nd, k L.x, ⟨fd, k h2⟩, k L.sd, ⟨fdr, cells, args, body, scope, nm, nm', pos, k hrf, hr⟩, k L.cp⟩
theorem lexL_put {B : Led} {A : LxA} {line : Int} {text : List Nat} {pbk : List D} {I : Addr} (h1 : I ≠ A.dx) (h2 : I ≠ A.pg) (h3 : I ≠ A.pb) (m : M) : upd (lexL B A line text pbk) I m = lexL (upd B I m) A line text pbk := by
  unfold lexL; rw [upd_comm _ _ _ h3.symm, upd_comm _ _ _ h2.symm, upd_comm _ _ _ h1.symm]
theorem iadd_ok {tok : List Nat} (c : Nat) (h : tok.length ≤ 200000) : (mk tok).length + (⟨#[c]⟩ : Str).length ≤ 10000000 := by
  show tok.toArray.size + 1 ≤ _
  rw [List.size_toArray]; lia
theorem iadd_ok0 {tok : List Nat} (h : tok.length ≤ 200000) : (mk tok).length + ("" : Str).length ≤ 10000000 := by
  show tok.toArray.size + 0 ≤ _
  rw [List.size_toArray]; lia
theorem mk_snoc (tok : List Nat) (c : Nat) : mk tok ++ (⟨#[c]⟩ : Str) = mk (tok ++ [c]) := by
  show (⟨tok.toArray ++ #[c]⟩ : Str) = ⟨(tok ++ [c]).toArray⟩
  simp
theorem mk_nil (tok : List Nat) : mk tok ++ ("" : Str) = mk tok := by
  show (⟨tok.toArray ++ (Str.ofString "").cps⟩ : Str) = ⟨tok.toArray⟩
  have e : (Str.ofString "").cps = #[] := by decide +kernel
  rw [e, Array.append_empty]
theorem WS.mid {C : Cx} {led : Led} {fe : Fe} {vs : Vars} {k : Nat} {st : Stmt} {rest : List Stmt} {Q : Fl → Vars → Led → Prop} (Mid : Vars → Led → Prop) (h1 : WS C led fe vs k (exec st fe.env) fun fl vs led => fl = .next ∧ Mid vs led)
    (h2 : ∀ vs led, Mid vs led → WS C led fe vs k (execs rest fe.env) Q) : WS C led fe vs k (execs (st :: rest) fe.env) Q :=
  WS.cons (h1.mono fun fl vs led ⟨e, m⟩ => by subst e; exact h2 vs led m)
theorem next_char {C : Cx} {Y B : Led} {k : Nat} {A : LxA} {cl frc I : Addr} {l : Int} {t : List Nat} {mN : Str → Option Value} {P : Option D → Led → Prop} (E : NetEnv C cl mN) (hf : GFn C frc (meth2 1)) (L : LexOk B A cl)
    (hBI : B I = none) (i1 : I ≠ A.dx) (i2 : I ≠ A.pg) (i3 : I ≠ A.pb) (hok : ∀ c ∈ t, c < 0x110000) (hlen : t.length ≤ 100000)
    (h0 : t = [] → P none (lexL (upd B I ciDone) A l [] [])) (hc : ∀ c r, t = c :: r → P (some (sgn c)) (lexL (upd B I (cIt frc A.x)) A (nextLine l c) r [])) :
    NextW C Y (lexL (upd B I (cIt frc A.x)) A l t []) (k + 7) I P := by
  have L1 := L.put hBI (cIt frc A.x)
  obtain ⟨fd, hcal⟩ := hf.callable
  have hI : ∀ l t, lexL (upd B I (cIt frc A.x)) A l t [] I = some (cIt frc A.x) := fun l t => by rw [lexL_at L1 i1 i2 i3, upd_same]
  refine NextW.citer (hI _ _) (hcal _ _) (read_char_spec E hf L1 hok hlen (fun c r ht => ?_) fun ht => ?_)
  · exact ⟨⟨#[c]⟩, rfl, by rw [hI, hI], hcal _ _, fun z => absurd z (by intro z; cases z), fun _ => hc c r ht⟩
  · subst ht
    refine ⟨"", rfl, rfl, hcal _ _, fun _ => ?_, fun z => absurd rfl z⟩
    rw [lexL_put i1 i2 i3, upd_upd]; exact h0 rfl
/-- the loops of get_token -/
inductive GtI (text : List Nat) (line : Int) (A : LxA) (I : Addr) (B : Led) (frc : Addr) : Nat → Vars → Led → Prop
  | run (t : List Nat) (l : Int) : getTok t l = getTok text line → (∀ c ∈ t, c ∈ alph) → t.length ≤ text.length → GtI text line A I B frc (t.length + 1) (gtV A I []) (lexL (upd B I (cIt frc A.x)) A l t [])
  | fin (tok : List Nat) (l : Int) : getTok text line = (tok, [], l) → GtI text line A I B frc 0 (gtV A I tok) (lexL (upd B I ciDone) A l [] [])
inductive GtL (F : List Nat → Int → List Nat → List Nat × List Nat × Int) (text : List Nat) (line : Int) (A : LxA) (I : Addr) (B : Led) (frc : Addr) : Nat → Vars → Led → Prop
  | mk (tok t : List Nat) (l : Int) : F t l tok = getTok text line → (∀ c ∈ t, c ∈ alph) → t.length ≤ text.length → tok.length + t.length ≤ text.length → GtL F text line A I B frc (t.length + 1) (gtV A I tok) (lexL (upd B I (cIt frc A.x)) A l t [])
inductive GtM (text : List Nat) (line : Int) (A : LxA) (I : Addr) (B : Led) (frc : Addr) (vs : Vars) : Led → Prop
  | mk (s : Str) (tok t : List Nat) (l : Int) : Sub [("self", .ref A.x), ("token", .str (mk [])), ("fiter", .ref I), ("ch", .str s)] vs → mk [] ++ s = mk tok → (mk []).length + s.length ≤ 10000000 → bare t l tok = getTok text line → (∀ c ∈ t, c ∈ alph) → t.length ≤ text.length →
      tok.length + t.length ≤ text.length → GtM text line A I B frc vs (lexL (upd B I (cIt frc A.x)) A l t [])
set_option maxHeartbeats 4000000 in
theorem get_token_spec {C : Cx} {Y B : Led} {k : Nat} {A : LxA} {cl f : Addr} {line : Int} {text : List Nat} {pbk : List D} {Q : D → Led → Prop} {mN : Str → Option Value} (N : NoG C) (E : NetEnv C cl mN) (hf : GFn C f (meth2 2)) (L : LexOk B A cl)
    (hok : ∀ c ∈ text, c ∈ alph) (hlen : text.length ≤ 100000) (hpl : pbk.length ≤ 100000)
    (h1 : ∀ d r, pbk = d :: r → Q d (lexL B A line text r)) (h2 : pbk = [] → Q (.str (mk (getTok text line).1)) (lexL B A (getTok text line).2.2 (getTok text line).2.1 [])) : CallW C Y (lexL B A line text pbk) (k + 10) (.ref f) [.ref A.x] Q := by
  obtain ⟨frc, mrc⟩ := E.rc
  obtain ⟨orc, ho1, ho2, ho3⟩ := mrc.obj
  refine CallW.less ?_
  refine (CodeW.gfn hf rfl [("self", .ref A.x)] rfl rfl fun L' cs q code => ?_).call
  walk_at "v"
  refine GetA.inst E.cls (lexL_x L) (lexL_dx L) E.n4 ol4 rfl (fun _ z => by cases z) ?_
  intro Y
  refine Tru.ref lexL_pb (by lia) ?_
  refine ⟨fun hp => ?_, fun hp => ?_⟩
  · cases hpb : pbk with
    | nil => subst hpb; simp at hp
    | cons d r =>
      subst hpb
      walk_at "v"
      refine WE.m1 (pl := _) ?_
      walk_at "v"
      refine GetA.inst E.cls (lexL_x L) (lexL_dx L) E.n4 ol4 rfl (fun _ z => by cases z) ?_
      refine ⟨_, _, fun Y => GetM.pop lexL_pb, ?_⟩
      walk_at "v"
      refine CallW.pop_at lexL_pb (by lia) (by lia) rfl ?_
      rw [lexL_set_pb]
      exact ⟨_, Less.refl _, h1 d r rfl⟩
  · have hpb : pbk = [] := by cases pbk with | nil => rfl | cons => simp at hp
    subst hpb
    walk_at "v"
    refine WE.callY ?_
    walk_at "v"
    refine GetA.bound E.cls (lexL_x L) (lexL_dx L) mrc.at_ ho1 ho3 ho2 ol5 rfl (by decide +kernel) ?_
    walk_at "v"
    refine CallW.iter2 fun I hI => ?_
    have i1 : I ≠ A.dx := fun z => by subst z; rw [lexL_dx L] at hI; cases hI
    have i2 : I ≠ A.pg := fun z => by subst z; rw [lexL_pg L] at hI; cases hI
    have i3 : I ≠ A.pb := fun z => by subst z; rw [lexL_pb] at hI; cases hI
    have hBI : B I = none := by rw [lexL_at L i1 i2 i3] at hI; exact hI
    rw [lexL_put i1 i2 i3]
    walk_at "v"
    have alph_lt : ∀ c ∈ alph, c < 0x110000 := by decide
    refine WS.forN (GtI text line A I B frc) (text.length + 1) ?_
    walk_at "v"
    refine ⟨⟨_, _, (), _, by rw [lexL_at (L.put hBI _) i1 i2 i3, upd_same], rfl⟩, ⟨gtV A I [], ⟨rfl, rfl, rfl, trivial⟩, .run text line rfl hok (Nat.le_refl _)⟩, ?_⟩
    intro n vs2 led2 hI Y
    cases hI with
    | run t l hg hal htl =>
      refine (next_char (k := k + 2) E mrc.fn L hBI i1 i2 i3 (fun c hc => alph_lt c (hal c hc)) (by lia) ?_ ?_)
      · intro ht
        subst ht
        walk_at "v"
        have hg' : getTok text line = ([], [], l) := hg.symm
        rw [hg'] at h2
        exact ⟨_, (lexL_put i1 i2 i3 _ ▸ (Less.refl _).upd (by rw [lexL_at L i1 i2 i3]; exact hBI) _), h2 rfl⟩
      · intro c r ht
        subst ht
        have hca := hal c List.mem_cons_self
        have har : ∀ c ∈ r, c ∈ alph := fun x hx => hal x (List.mem_cons_of_mem _ hx)
        walk_at "v"
        refine GetA.inst E.cls (lexL_x (L.put hBI _)) (lexL_dx (L.put hBI _)) E.n3 ol3 rfl (fun _ z => by cases z) ?_
        walk_at "v"
        refine Op2.ins ?_
        rw [ws_in c hca]
        walk_at "v"
        refine ⟨fun hw => ?_, fun hw => ?_⟩
        · walk_at "v"
          refine ⟨r.length + 1, gtV A I [], by simp, ⟨rfl, rfl, rfl, trivial⟩, .run r (nextLine l c) ?_ har (by simp at htl; lia)⟩
          rw [← hg, getTok_cons, if_pos hw]
        · walk_at "v"
          rw [q_is c hca]
          refine ⟨fun hq => ?_, fun hq => ?_⟩
          · walk_at "v"
            rw [getTok_cons, if_neg (by rw [hw]; decide), if_pos hq] at hg
            refine WS.forN (GtL quoted text line A I B frc) (r.length + 1) ?_
            walk_at "v"
            refine ⟨⟨_, _, (), _, by rw [lexL_at (L.put hBI _) i1 i2 i3, upd_same], rfl⟩, ⟨gtV A I [], ⟨rfl, rfl, rfl, trivial⟩, .mk [] r (nextLine l c) hg har (by simp at htl; lia) (by simp at htl ⊢; lia)⟩, ?_⟩
            clear hg hal htl hca har hq hw
            intro n vs2 led2 hI Y
            cases hI with | mk tok t l hg hal htl htk =>
            refine (next_char (k := k + 2) E mrc.fn L hBI i1 i2 i3 (fun c hc => alph_lt c (hal c hc)) (by lia) ?_ ?_)
            · intro ht
              subst ht
              walk_at "v"
              exact ⟨0, gtV A I tok, by lia, ⟨rfl, rfl, rfl, trivial⟩, .fin tok l hg.symm⟩
            · intro c r ht
              subst ht
              have hca := hal c List.mem_cons_self
              have har : ∀ c ∈ r, c ∈ alph := fun x hx => hal x (List.mem_cons_of_mem _ hx)
              rw [quoted_cons] at hg
              walk_at "v"
              rw [q_is c hca]
              refine ⟨fun hq => ?_, fun hq => ?_⟩
              · rw [if_pos hq] at hg
                walk_at "v"
                rw [← hg] at h2
                exact ⟨_, (lexL_put i1 i2 i3 _ ▸ (Less.refl _).upd (by rw [lexL_at L i1 i2 i3]; exact hBI) _), h2 rfl⟩
              · rw [if_neg (by rw [hq]; decide)] at hg
                walk_at "v"
                rw [b_is c hca]
                refine ⟨fun hb => ?_, fun hb => ?_⟩
                · rw [if_pos hb] at hg
                  walk_at "v"
                  refine WE.m1 (pl := _) ?_
                  walk_at "v"
                  refine ⟨_, _, fun Y => GetM.inst E.cls (lexL_x (L.put hBI _)) (lexL_dx (L.put hBI _)) mrc.at_ ho1 ho3 ho2 ol5 rfl, ?_⟩
                  walk_at "v"
                  refine ⟨mrc.fn.keep, (read_char_spec (k := k + 3) E mrc.fn (L.put hBI _) (fun c hc => alph_lt c (har c hc)) (by simp at htl; lia) ?_ ?_).call⟩
                  · intro c2 r2 ht
                    subst ht
                    walk_at "v"
                    refine Op2.iadds ?_ (iadd_ok c2 (by simp at htk; lia))
                    rw [mk_snoc]
                    walk_at "v"
                    exact ⟨r2.length + 1, gtV A I (tok ++ [c2]), by simp, ⟨rfl, rfl, rfl, trivial⟩, .mk (tok ++ [c2]) r2 (nextLine (nextLine l c) c2) hg (fun x hx => har x (List.mem_cons_of_mem _ hx)) (by simp at htl; lia) (by simp at htk ⊢; lia)⟩
                  · intro ht
                    subst ht
                    walk_at "v"
                    refine Op2.iadds ?_ (iadd_ok0 (by simp at htk; lia))
                    rw [mk_nil]
                    walk_at "v"
                    exact ⟨1, gtV A I tok, by simp, ⟨rfl, rfl, rfl, trivial⟩, .mk tok [] (nextLine l c) hg (fun x hx => (by cases hx)) (by simp) (by simp at htk ⊢; lia)⟩
                · rw [if_neg (by rw [hb]; decide)] at hg
                  walk_at "v"
                  refine Op2.iadds ?_ (iadd_ok c (by simp at htk; lia))
                  rw [mk_snoc]
                  walk_at "v"
                  exact ⟨r.length + 1, gtV A I (tok ++ [c]), by simp, ⟨rfl, rfl, rfl, trivial⟩, .mk (tok ++ [c]) r (nextLine l c) hg har (by simp at htl; lia) (by simp at htk ⊢; lia)⟩
          · rw [getTok_cons, if_neg (by rw [hw]; decide), if_neg (by rw [hq]; decide)] at hg
            refine WS.mid (GtM text line A I B frc) ?_ ?_
            · walk_at "v"
              rw [b_is c hca]
              refine ⟨fun hb => ?_, fun hb => ?_⟩
              · rw [if_pos hb] at hg
                walk_at "v"
                refine WE.m1 (pl := _) ?_
                walk_at "v"
                refine ⟨_, _, fun Y => GetM.inst E.cls (lexL_x (L.put hBI _)) (lexL_dx (L.put hBI _)) mrc.at_ ho1 ho3 ho2 ol5 rfl, ?_⟩
                walk_at "v"
                refine ⟨mrc.fn.keep, (read_char_spec (k := k + 3) E mrc.fn (L.put hBI _) (fun c hc => alph_lt c (har c hc)) (by simp at htl; lia) ?_ ?_).call⟩
                · intro c2 r2 ht
                  subst ht
                  walk_at "v"
                  exact ⟨rfl, .mk ⟨#[c2]⟩ [c2] r2 (nextLine (nextLine l c) c2) ⟨rfl, rfl, rfl, rfl, trivial⟩ (mk_snoc [] c2) (iadd_ok c2 (by simp)) hg (fun x hx => har x (List.mem_cons_of_mem _ hx)) (by simp at htl; lia) (by simp at htl ⊢; lia)⟩
                · intro ht
                  subst ht
                  walk_at "v"
                  exact ⟨rfl, .mk "" [] [] (nextLine l c) ⟨rfl, rfl, rfl, rfl, trivial⟩ (mk_nil []) (iadd_ok0 (by simp)) hg (fun x hx => (by cases hx)) (by simp) (by simp)⟩
              · rw [if_neg (by rw [hb]; decide)] at hg
                walk_at "v"
                exact ⟨rfl, .mk ⟨#[c]⟩ [c] r (nextLine l c) ⟨rfl, rfl, rfl, rfl, trivial⟩ (mk_snoc [] c) (iadd_ok c (by simp)) hg har (by simp at htl; lia) (by simp at htl ⊢; lia)⟩
            · clear hg hal htl hca har hq hw
              intro vs2 led2 hM
              cases hM with | mk s tok t l hsub hs hsl hg hal htl htk =>
              refine WS.sub ?_ hsub
              walk_at "v"
              refine Op2.iadds ?_ hsl
              rw [hs]
              walk_at "v"
              refine WS.forN (GtL bare text line A I B frc) (t.length + 1) ?_
              walk_at "v"
              refine ⟨⟨_, _, (), _, by rw [lexL_at (L.put hBI _) i1 i2 i3, upd_same], rfl⟩, ⟨gtV A I tok, ⟨rfl, rfl, rfl, trivial⟩, .mk tok t l hg hal htl htk⟩, ?_⟩
              clear hg hal htl htk hs hsub hsl
              intro n vs2 led2 hI Y
              cases hI with | mk tok t l hg hal htl htk =>
              refine (next_char (k := k + 2) E mrc.fn L hBI i1 i2 i3 (fun c hc => alph_lt c (hal c hc)) (by lia) ?_ ?_)
              · intro ht
                subst ht
                walk_at "v"
                exact ⟨0, gtV A I tok, by lia, ⟨rfl, rfl, rfl, trivial⟩, .fin tok l hg.symm⟩
              · intro c r ht
                subst ht
                have hca := hal c List.mem_cons_self
                have har : ∀ c ∈ r, c ∈ alph := fun x hx => hal x (List.mem_cons_of_mem _ hx)
                rw [bare_cons] at hg
                walk_at "v"
                refine GetA.inst E.cls (lexL_x (L.put hBI _)) (lexL_dx (L.put hBI _)) E.n3 ol3 rfl (fun _ z => by cases z) ?_
                walk_at "v"
                refine Op2.ins ?_
                rw [ws_in c hca]
                walk_at "v"
                refine ⟨fun hq => ?_, fun hq => ?_⟩
                · rw [if_pos hq] at hg
                  walk_at "v"
                  rw [← hg] at h2
                  exact ⟨_, (lexL_put i1 i2 i3 _ ▸ (Less.refl _).upd (by rw [lexL_at L i1 i2 i3]; exact hBI) _), h2 rfl⟩
                · rw [if_neg (by rw [hq]; decide)] at hg
                  walk_at "v"
                  rw [b_is c hca]
                  refine ⟨fun hb => ?_, fun hb => ?_⟩
                  · rw [if_pos hb] at hg
                    walk_at "v"
                    refine WE.m1 (pl := _) ?_
                    walk_at "v"
                    refine ⟨_, _, fun Y => GetM.inst E.cls (lexL_x (L.put hBI _)) (lexL_dx (L.put hBI _)) mrc.at_ ho1 ho3 ho2 ol5 rfl, ?_⟩
                    walk_at "v"
                    refine ⟨mrc.fn.keep, (read_char_spec (k := k + 3) E mrc.fn (L.put hBI _) (fun c hc => alph_lt c (har c hc)) (by simp at htl; lia) ?_ ?_).call⟩
                    · intro c2 r2 ht
                      subst ht
                      walk_at "v"
                      refine Op2.iadds ?_ (iadd_ok c2 (by simp at htk; lia))
                      rw [mk_snoc]
                      walk_at "v"
                      exact ⟨r2.length + 1, gtV A I (tok ++ [c2]), by simp, ⟨rfl, rfl, rfl, trivial⟩, .mk (tok ++ [c2]) r2 (nextLine (nextLine l c) c2) hg (fun x hx => har x (List.mem_cons_of_mem _ hx)) (by simp at htl; lia) (by simp at htk ⊢; lia)⟩
                    · intro ht
                      subst ht
                      walk_at "v"
                      refine Op2.iadds ?_ (iadd_ok0 (by simp at htk; lia))
                      rw [mk_nil]
                      walk_at "v"
                      exact ⟨1, gtV A I tok, by simp, ⟨rfl, rfl, rfl, trivial⟩, .mk tok [] (nextLine l c) hg (fun x hx => (by cases hx)) (by simp) (by simp at htk ⊢; lia)⟩
                  · rw [if_neg (by rw [hb]; decide)] at hg
                    walk_at "v"
                    refine Op2.iadds ?_ (iadd_ok c (by simp at htk; lia))
                    rw [mk_snoc]
                    walk_at "v"
                    exact ⟨r.length + 1, gtV A I (tok ++ [c]), by simp, ⟨rfl, rfl, rfl, trivial⟩, .mk (tok ++ [c]) r (nextLine l c) hg har (by simp at htl; lia) (by simp at htk ⊢; lia)⟩
    | fin tok l hg =>
      refine NextW.cidone (by rw [lexL_at (L.put hBI _) i1 i2 i3, upd_same]) ?_
      walk_at "v"
      rw [hg] at h2
      exact ⟨_, (lexL_put i1 i2 i3 _ ▸ (Less.refl _).upd (by rw [lexL_at L i1 i2 i3]; exact hBI) _), h2 rfl⟩
set_option tactic.hygienic false
theorem push_token_spec {C : Cx} {Y B : Led} {k : Nat} {A : LxA} {cl f : Addr} {line : Int} {text : List Nat} {pbk : List D} {d : D} {Q : D → Led → Prop} {mN : Str → Option Value} (E : NetEnv C cl mN) (hf : GFn C f (meth2 3)) (L : LexOk B A cl) (hpl : pbk.length ≤ 100000)
    (h : Q .none (lexL B A line text (pbk ++ [d]))) : CallW C Y (lexL B A line text pbk) (k + 10) (.ref f) [.ref A.x, d] Q := by
  refine (CodeW.gfn hf rfl [("self", .ref A.x), ("token", d)] rfl rfl fun L' cs q code => ?_).call
  refine WS.cons (WS.expr (WE.m1 (pl := _) ?_))
  walk_at "v"
  refine GetA.inst E.cls (lexL_x L) (lexL_dx L) E.n4 ol4 rfl (fun _ z => by cases z) ?_
  refine ⟨_, _, fun Y => GetM.append lexL_pb, ?_⟩
  walk_at "v"
  refine CallW.append lexL_pb (by lia) ?_
  rw [lexL_set_pb]
  refine ⟨rfl, ?_⟩
  walk_at "v"
  exact h
theorem init_spec {C : Cx} {Y led : Led} {k : Nat} {cl f x dx : Addr} {fp : D} {Q : D → Led → Prop} {mN : Str → Option Value} (E : NetEnv C cl mN) (hf : GFn C f (meth2 0)) (hx : led x = some (.obj cl dx)) (hd : led dx = some (.ns1 [])) (hne : dx ≠ x)
    (h : ∀ pb, led pb = none → Q .none (upd (upd led pb (.list [])) dx (.ns1 [("lineno", .int 1), ("instream", fp), ("whitespace", .str wsp), ("pushback", .ref pb)]))) : CallW C Y led (k + 10) (.ref f) [.ref x, fp] Q := by
  refine (CodeW.gfn hf rfl [("self", .ref x), ("fp", fp)] rfl rfl fun L' cs q code => ?_).call
  have kx : ∀ {m : List (Str × D)} {l : Led}, l x = some (.obj cl dx) → upd l dx (.ns1 m) x = some (.obj cl dx) := fun e => by rw [upd_ne _ _ hne.symm]; exact e
  walk_at "v"
  refine SetA.inst E.cls hx hd E.n1 ol1 (by simp) ?_
  walk_at "v"
  refine SetA.inst E.cls (kx hx) (upd_same ..) E.n2 ol2 (Nat.le_of_ble_eq_true rfl) ?_
  rw [upd_upd]
  walk_at "v"
  refine SetA.inst E.cls (kx hx) (upd_same ..) E.n3 ol3 (Nat.le_of_ble_eq_true rfl) ?_
  rw [upd_upd]
  walk_at "v"
  refine WE.listM ?_
  walk_at "v"
  refine ⟨by simp, fun pb hpb => ?_⟩
  have h1 : pb ≠ dx := fun z => by subst z; rw [upd_same] at hpb; cases hpb
  have h2 : pb ≠ x := fun z => by subst z; rw [kx hx] at hpb; cases hpb
  rw [upd_ne _ _ h1] at hpb
  rw [upd_comm _ _ _ h1.symm]
  walk_at "v"
  refine SetA.inst E.cls (kx (by rw [upd_ne _ _ h2.symm]; exact hx)) (upd_same ..) E.n4 ol4 (Nat.le_of_ble_eq_true rfl) ?_
  rw [upd_upd]
  walk_at "v"
  exact h pb hpb

theorem upd_none {l : Led} {a b : Addr} {m : M} (h : upd l a m b = none) : b ≠ a ∧ l b = none := by
  by_cases e : b = a
  · subst e; rw [upd_same] at h; cases h
  · rw [upd_ne _ _ e] at h; exact ⟨e, h⟩
noncomputable def posR : Pos := posS read14
noncomputable def lam14 : Expr := testS (nthS 1 body14)
noncomputable def posL : Pos := (partsE lam14).2
structure LexEnv (C : Cx) (cl : Addr) (mN : Str → Option Value) : Prop where
  N : NoG C
  net : NetEnv C cl mN
  cls : C.mg "_netrclex" = some (.ref cl)
  mkl : ∃ f c P, C.mg "_law_lexer" = some (.ref f) ∧ GFnC C f (top2 14) c "_law_lexer" ∧ C.ct c P ∧ C.dq c posR = "_law_lexer.<locals>._law_read" ∧ C.dq c posL = "_law_lexer.<locals>.<lambda>"
set_option maxHeartbeats 4000000 in
theorem law_lexer_spec {C : Cx} {Y led : Led} {k : Nat} {cl f c P pg : Addr} {text : List Nat} {Q : D → Led → Prop} {mN : Str → Option Value} (E : NetEnv C cl mN) (hcl : C.mg "_netrclex" = some (.ref cl)) (h : GFnC C f (top2 14) c "_law_lexer") (hct : C.ct c P)
    (hd1 : C.dq c posR = "_law_lexer.<locals>._law_read") (hd2 : C.dq c posL = "_law_lexer.<locals>.<lambda>") (hpg : led pg = some (.list (text.map sgn)))
    (hq : ∀ A B, LexOk B A cl → A.pg = pg → Less led B → Q (.ref A.x) (lexL B A 1 text [])) : CallW C Y led (k + 20) (.ref f) [.ref pg] Q := by
  obtain ⟨fi, mi⟩ := E.init
  obtain ⟨oi, ho1, ho2, ho3⟩ := mi.obj
  refine (CodeW.gfnK h rfl [("page", .ref pg)] rfl rfl "page" rfl fun L cs => ?_).call
  walk_at "v"
  refine WS.def_ rfl hct (hd1.trans ?_) fun rf fdr hir hrf => ?_
  · with_unfolding_all rfl
  walk_at "v"
  refine WE.lambda rfl hct (hd2.trans ?_) fun st fds his hst => ?_
  · with_unfolding_all rfl
  walk_at "v"
  refine SetA.fn (upd_same ..) fl1 fun sd hsd => ?_
  walk_at "v"
  refine WE.callY ?_
  refine WE.n_fn (hx := hcl) ?_
  walk_at "v"
  refine ⟨KeepOk.cls E.cls, CallW.new (k := k + 18) E.cls mi.at_ ho1 ho3 ho2 fun x dx hx hdx hne => ?_⟩
  refine (init_spec (k := k + 8) E mi.fn (by rw [upd_ne _ _ hne.symm, upd_same]) (upd_same ..) hne fun pb hpb => ?_)
  refine ⟨rfl, ?_⟩
  refine ⟨.ref pg, rfl, fun cp hcp hn => ?_⟩
  rw [upd_upd] at hx hdx hpb hn ⊢
  have st1 := (upd_none hst).1; have st2 := (upd_none hst).2
  have sd1 := (upd_none hsd).1; have hsd := (upd_none hsd).2
  have sd2 := (upd_none hsd).1; have sd3 := (upd_none hsd).2
  have x1 := (upd_none hx).1; have hx := (upd_none hx).2
  have x2 := (upd_none hx).1; have hx := (upd_none hx).2
  have x3 := (upd_none hx).1; have x4 := (upd_none hx).2
  have dx1 := (upd_none hdx).1; have hdx := (upd_none hdx).2
  have dx2 := (upd_none hdx).1; have hdx := (upd_none hdx).2
  have dx3 := (upd_none hdx).1; have dx4 := (upd_none hdx).2
  have pb1 := (upd_none hpb).1; have hpb := (upd_none hpb).2
  have pb2 := (upd_none hpb).1; have hpb := (upd_none hpb).2
  have pb3 := (upd_none hpb).1; have hpb := (upd_none hpb).2
  have pb4 := (upd_none hpb).1; have hpb := (upd_none hpb).2
  have pb5 := (upd_none hpb).1; have pb6 := (upd_none hpb).2
  have cp1 := (upd_none hn).1; have hn := (upd_none hn).2
  have cp2 := (upd_none hn).1; have hn := (upd_none hn).2
  have cp2' := (upd_none hn).1; have hn := (upd_none hn).2
  have cp3 := (upd_none hn).1; have hn := (upd_none hn).2
  have cp4 := (upd_none hn).1; have hn := (upd_none hn).2
  have cp5 := (upd_none hn).1; have hn := (upd_none hn).2
  have cp6 := (upd_none hn).1; have cp7 := (upd_none hn).2
  have npg : ∀ {a}, led a = none → a ≠ pg := fun h z => by subst z; rw [hpg] at h; cases h
  have q1 := npg hrf
  have q2 := npg st2
  have q3 := npg sd3
  have q4 := npg x4
  have q5 := npg dx4
  have q6 := npg pb6
  have q7 := npg cp7
  have s0 := Ne.symm st1
  have s1 := Ne.symm sd1
  have s2 := Ne.symm sd2
  have s3 := Ne.symm x1
  have s4 := Ne.symm x2
  have s5 := Ne.symm x3
  have s6 := Ne.symm dx1
  have s7 := Ne.symm dx2
  have s8 := Ne.symm dx3
  have s9 := Ne.symm hne
  have s10 := Ne.symm pb1
  have s11 := Ne.symm pb2
  have s12 := Ne.symm pb3
  have s13 := Ne.symm pb4
  have s14 := Ne.symm pb5
  have s15 := Ne.symm cp1
  have s16 := Ne.symm cp2
  have s17 := Ne.symm cp2'
  have s18 := Ne.symm cp3
  have s19 := Ne.symm cp4
  have s20 := Ne.symm cp5
  have s21 := Ne.symm cp6
  have s22 := Ne.symm q1
  have s23 := Ne.symm q2
  have s24 := Ne.symm q3
  have s25 := Ne.symm q4
  have s26 := Ne.symm q5
  have s27 := Ne.symm q6
  have s28 := Ne.symm q7
  generalize hF : upd (upd (upd (upd (upd (upd (upd (upd led rf (M.fn none fdr)) st (M.fn (some sd) fds)) sd (M.ns1 [("read", D.ref rf)])) x (M.obj cl dx)) dx (M.ns1 [])) pb (M.list [])) dx (M.ns1 [("lineno", D.int 1), ("instream", D.ref st), ("whitespace", D.str wsp), ("pushback", D.ref pb)])) cp (M.cell (some (D.ref pg))) = F
  have f1 : F x = some (.obj cl dx) := by rw [← hF]; simp [upd, st1, sd1, sd2, x1, x2, x3, dx1, dx2, dx3, hne, pb1, pb2, pb3, pb4, pb5, cp1, cp2, cp2', cp3, cp4, cp5, cp6, q1, q2, q3, q4, q5, q6, q7, s0, s1, s2, s3, s4, s5, s6, s7, s8, s9, s10, s11, s12, s13, s14, s15, s16, s17, s18, s19, s20, s21, s22, s23, s24, s25, s26, s27, s28]
  have f2 : F st = some (.fn (some sd) fds) := by rw [← hF]; simp [upd, st1, sd1, sd2, x1, x2, x3, dx1, dx2, dx3, hne, pb1, pb2, pb3, pb4, pb5, cp1, cp2, cp2', cp3, cp4, cp5, cp6, q1, q2, q3, q4, q5, q6, q7, s0, s1, s2, s3, s4, s5, s6, s7, s8, s9, s10, s11, s12, s13, s14, s15, s16, s17, s18, s19, s20, s21, s22, s23, s24, s25, s26, s27, s28]
  have f3 : F sd = some (.ns1 [("read", .ref rf)]) := by rw [← hF]; simp [upd, st1, sd1, sd2, x1, x2, x3, dx1, dx2, dx3, hne, pb1, pb2, pb3, pb4, pb5, cp1, cp2, cp2', cp3, cp4, cp5, cp6, q1, q2, q3, q4, q5, q6, q7, s0, s1, s2, s3, s4, s5, s6, s7, s8, s9, s10, s11, s12, s13, s14, s15, s16, s17, s18, s19, s20, s21, s22, s23, s24, s25, s26, s27, s28]
  have f4 : F rf = some (.fn none fdr) := by rw [← hF]; simp [upd, st1, sd1, sd2, x1, x2, x3, dx1, dx2, dx3, hne, pb1, pb2, pb3, pb4, pb5, cp1, cp2, cp2', cp3, cp4, cp5, cp6, q1, q2, q3, q4, q5, q6, q7, s0, s1, s2, s3, s4, s5, s6, s7, s8, s9, s10, s11, s12, s13, s14, s15, s16, s17, s18, s19, s20, s21, s22, s23, s24, s25, s26, s27, s28]
  have f5 : F cp = some (.cell (some (.ref pg))) := by rw [← hF]; simp [upd, st1, sd1, sd2, x1, x2, x3, dx1, dx2, dx3, hne, pb1, pb2, pb3, pb4, pb5, cp1, cp2, cp2', cp3, cp4, cp5, cp6, q1, q2, q3, q4, q5, q6, q7, s0, s1, s2, s3, s4, s5, s6, s7, s8, s9, s10, s11, s12, s13, s14, s15, s16, s17, s18, s19, s20, s21, s22, s23, s24, s25, s26, s27, s28]
  have f6 : F dx = some (.ns1 [("lineno", .int 1), ("instream", .ref st), ("whitespace", .str wsp), ("pushback", .ref pb)]) := by rw [← hF]; simp [upd, st1, sd1, sd2, x1, x2, x3, dx1, dx2, dx3, hne, pb1, pb2, pb3, pb4, pb5, cp1, cp2, cp2', cp3, cp4, cp5, cp6, q1, q2, q3, q4, q5, q6, q7, s0, s1, s2, s3, s4, s5, s6, s7, s8, s9, s10, s11, s12, s13, s14, s15, s16, s17, s18, s19, s20, s21, s22, s23, s24, s25, s26, s27, s28]
  have f7 : F pb = some (.list []) := by rw [← hF]; simp [upd, st1, sd1, sd2, x1, x2, x3, dx1, dx2, dx3, hne, pb1, pb2, pb3, pb4, pb5, cp1, cp2, cp2', cp3, cp4, cp5, cp6, q1, q2, q3, q4, q5, q6, q7, s0, s1, s2, s3, s4, s5, s6, s7, s8, s9, s10, s11, s12, s13, s14, s15, s16, s17, s18, s19, s20, s21, s22, s23, s24, s25, s26, s27, s28]
  have f8 : F pg = some (.list (text.map sgn)) := by rw [← hF]; simp [upd, hpg, st1, sd1, sd2, x1, x2, x3, dx1, dx2, dx3, hne, pb1, pb2, pb3, pb4, pb5, cp1, cp2, cp2', cp3, cp4, cp5, cp6, q1, q2, q3, q4, q5, q6, q7, s0, s1, s2, s3, s4, s5, s6, s7, s8, s9, s10, s11, s12, s13, s14, s15, s16, s17, s18, s19, s20, s21, s22, s23, s24, s25, s26, s27, s28]
  have ok : LexOk F ⟨x, dx, st, sd, rf, cp, pg, pb⟩ cl := {
    nd := by simp [st1, sd1, sd2, x1, x2, x3, dx1, dx2, dx3, hne, pb1, pb2, pb3, pb4, pb5, cp1, cp2, cp2', cp3, cp4, cp5, cp6, q1, q2, q3, q4, q5, q6, q7, s0, s1, s2, s3, s4, s5, s6, s7, s8, s9, s10, s11, s12, s13, s14, s15, s16, s17, s18, s19, s20, s21, s22, s23, s24, s25, s26, s27, s28]
    x := f1
    st := ⟨fds, f2⟩
    sd := f3
    rf := ⟨fdr, _, _, _, _, _, _, _, f4, rfl, hir, hcp⟩
    cp := f5 }
  have less : Less led F := fun a m e => by
    have na : ∀ {b}, led b = none → a ≠ b := fun hb z => by subst z; rw [hb] at e; cases e
    rw [← hF]
    simp [upd, na hrf, na st2, na sd3, na x4, na dx4, na pb6, na cp7, e]
  have := hq ⟨x, dx, st, sd, rf, cp, pg, pb⟩ F ok rfl less
  unfold lexL lexNs at this
  rw [upd_id F _ _ f6, upd_id F _ _ f8, upd_id F _ _ f7] at this
  exact this
set_option tactic.hygienic false
/-- the rows that a mask picks, laid together -/
noncomputable def afterN (rows : List Nat) (some : Nat) (n : Nat) : Nat := (List.range n).foldl (fun acc k => if some / 2 ^ k % 2 == 1 then acc ||| rows.getD k 0 else acc) 0
theorem afterN_succ (rows : List Nat) (some n : Nat) : afterN rows some (n + 1) = if some / 2 ^ n % 2 == 1 then afterN rows some n ||| rows.getD n 0 else afterN rows some n := by
  unfold afterN; rw [List.range_succ, List.foldl_append]; rfl
noncomputable def after (rows : List Nat) (some : Nat) : Nat := afterN rows some rows.length
noncomputable abbrev natD (x : Nat) : D := .int (x : Int)
noncomputable abbrev nats (l : List Nat) : D := .lst (l.map natD)
theorem after_spec {C : Cx} (N : NoG C) {Y led : Led} {k : Nat} {a : Addr} {rows : List Nat} {some : Nat} {Q : D → Led → Prop} (h : GFn C a (top2 17)) (hr : rows.length < 60)
   (hq : Q (.int (after rows some : Nat)) led) : CallW C Y led (k + 2) (.ref a) [nats rows, .int some] Q := by
  refine CallW.gfn h rfl [("rows", nats rows), ("some", .int some)] rfl rfl fun L cs q code => ?_
  walk_at "v"
  refine WS.forI (fun i => [("rows", nats rows), ("some", D.int some), ("after", D.int (afterN rows some i : Nat))]) (fun _ => led) ?_
  refine WE.callY ?_
  walk_at "v"
  refine WE.callY ?_
  walk_at "v"
  refine CallW.len_lst (by simp; lia) ?_
  walk_at "v"
  refine ⟨_, fun Y => IterOf.rng (by lia) (by lia) (by simp; lia) (by simp; lia), ⟨rfl, rfl, rfl, trivial⟩, rfl, fun i x hx => ?_, ?_⟩
  · obtain ⟨rfl, hi⟩ := rngItems_get hx
    simp only [List.length_map, Int.sub_zero, Int.toNat_natCast] at hi
    simp only [Int.zero_add]
    walk_at "v"
    refine Op2.pow (by lia) (by lia) (by decide) ?_
    walk_at "v"
    rw [Int.toNat_natCast]
    have hp : (2 : Int) ^ i < 2 ^ 60 := by have := Nat.pow_lt_pow_right (a := 2) (by decide) (show i < 60 by lia); exact_mod_cast this
    have hp0 : (0 : Int) < 2 ^ i := Int.pow_pos (by decide)
    refine Op2.fdiv (by lia) ?_ (by lia)
    rw [fdiv_pow]
    walk_at "v"
    refine Op2.mod (by decide) ?_
    walk_at "v"
    have e : (((some / 2 ^ i : Nat) : Int).fmod 2 == 1) = (some / 2 ^ i % 2 == 1) := by
      rw [Int.fmod_eq_emod_of_nonneg _ (by decide)]
      rw [Bool.eq_iff_iff, beq_iff_eq, beq_iff_eq]; lia
    rw [e]
    refine ⟨fun hb => ?_, fun hb => ?_⟩
    · walk_at "v"
      refine SubW.lst (d := .int (rows.getD i 0 : Nat)) (by lia) (by lia) (by rw [Int.toNat_natCast, List.getElem?_map, List.getElem?_eq_getElem hi, List.getD_eq_getElem?_getD, List.getElem?_eq_getElem hi]; rfl) ?_
      walk_at "v"
      rw [bitOr_nat]
      walk_at "v"
      refine ⟨⟨rfl, rfl, ?_, trivial⟩, rfl⟩
      rw [afterN_succ, if_pos hb]; rfl
    · walk_at "v"
      refine ⟨⟨rfl, rfl, ?_, trivial⟩, rfl⟩
      rw [afterN_succ, if_neg (by rw [hb]; decide)]; rfl
  · simp only [rngItems_length, List.length_map, Int.sub_zero, Int.toNat_natCast]
    walk_at "v"
    exact hq
set_option tactic.hygienic false
noncomputable def itA (rows : List Nat) : Nat → Nat
  | 0 => 1
  | n + 1 => after rows (itA rows n)
noncomputable def roundsL (rows : List Nat) (n : Nat) : List Nat := (List.range (n + 1)).map (itA rows)
theorem roundsL_succ (rows : List Nat) (n : Nat) : roundsL rows (n + 1) = roundsL rows n ++ [after rows (itA rows n)] := by
  unfold roundsL; rw [List.range_succ, List.map_append]; rfl
theorem roundsL_last (rows : List Nat) (n : Nat) : (roundsL rows n)[n]? = some (itA rows n) := by
  unfold roundsL; rw [List.getElem?_map, List.getElem?_range (by lia)]; rfl
theorem roundsL_length (rows : List Nat) (n : Nat) : (roundsL rows n).length = n + 1 := by simp [roundsL]
theorem rounds_spec {C : Cx} (N : NoG C) {Y led : Led} {k : Nat} {a fa : Addr} {rows : List Nat} {n : Nat} {Q : D → Led → Prop} (h : GFn C a (top2 18)) (hm : C.mg "_law_after" = some (.ref fa)) (hf : GFn C fa (top2 17)) (hr : rows.length < 60) (hn : n < 10000)
   (hq : Q (nats (roundsL rows n)) led) : CallW C Y led (k + 10) (.ref a) [nats rows, .int n] Q := by
  refine CallW.less (CallW.frz ?_)
  refine CallW.gfn h rfl [("rows", nats rows), ("rounds", .int n)] rfl rfl fun L cs q code => ?_
  walk_at "v"
  refine WE.listM ?_
  walk_at "v"
  refine ⟨by simp, fun m hfm => ?_⟩
  walk_at "v"
  refine WS.forI (fun i => [("rows", nats rows), ("rounds", D.int n), ("masks", .ref m)]) (fun i => upd led m (.list ((roundsL rows i).map natD))) ?_
  refine WE.callY ?_
  walk_at "v"
  refine ⟨_, fun Y => IterOf.rng (by lia) (by lia) (by lia) (by lia), ⟨rfl, rfl, rfl, trivial⟩, rfl, fun i x hx => ?_, ?_⟩
  · obtain ⟨rfl, hi⟩ := rngItems_get hx
    simp only [Int.sub_zero, Int.toNat_natCast] at hi
    walk_at "v"
    refine WE.m1 (pl := _) ?_
    walk_at "v"
    refine ⟨_, _, fun Y => GetM.append (upd_same ..), ?_⟩
    walk_at "v"
    refine WE.callY ?_
    walk_at "v"
    have hl := roundsL_length rows i
    refine SubW.ref_neg (d := natD (itA rows i)) (upd_same ..) (by decide) (by rw [List.length_map, hl]; lia) (by rw [List.length_map, hl]; lia) (by
      rw [List.length_map, hl, show (-1 + ((i + 1 : Nat) : Int)).toNat = i by lia, List.getElem?_map, roundsL_last]; rfl) ?_
    walk_at "v"
    refine ⟨hf.keep, (after_spec (k := k) N hf hr ?_).up (by lia)⟩
    walk_at "v"
    refine CallW.append (upd_same ..) (by rw [List.length_map, hl]; lia) ?_
    refine ⟨rfl, ?_⟩
    walk_at "v"
    refine ⟨⟨rfl, rfl, rfl, trivial⟩, ?_⟩
    rw [upd_upd, roundsL_succ, List.map_append]; rfl
  · simp only [rngItems_length, Int.sub_zero, Int.toNat_natCast]
    walk_at "v"
    exact ⟨m, _, rfl, upd_same .., led, Less.delUpd ((Less.refl led).upd hfm _) hfm, hq⟩

theorem rest_spec {C : Cx} (V : DivEnv C) {Y led : Led} {k : Nat} {a asked : Addr} {x y : Int} {xs : List D} {Q : D → Led → Prop} (h : GFn C a (top2 20)) (ha : led asked = some (.list xs)) (hl : xs.length ≤ 900000)
    (hy : y ≠ 0) (hy2 : y.natAbs < 2 ^ 29) (hx : x.natAbs < 2 ^ 29) (hq : Q (.int (x.fmod y)) (upd led asked (.list (xs ++ [.tup [.int x, .int y, .int (x.fdiv y), .int (x.fmod y)]])))) :
    CallW C Y led (k + 90) (.ref a) [.ref asked, .int x, .int y] Q := by
  obtain ⟨fi, hm, hf⟩ := V.idm
  have N := V.N
  refine CallW.gfn h rfl [("asked", .ref asked), ("number", .int x), ("divisor", .int y)] rfl rfl fun L cs q code => ?_
  walk_at "v"
  refine WE.callY ?_
  walk_at "v"
  refine ⟨hf.keep, (int_divmod_spec (k := k) V hm hf 4 (by split <;> split <;> lia) hy hy2 hx ?_).up (by lia)⟩
  walk_at "v"
  refine WE.m1 (pl := _) ?_
  walk_at "v"
  refine ⟨_, _, fun Y => GetM.append ha, ?_⟩
  walk_at "v"
  refine ⟨by simp, ?_⟩
  walk_at "v"
  refine CallW.append ha (by lia) ?_
  refine ⟨rfl, ?_⟩
  walk_at "v"
  exact hq
set_option tactic.hygienic false
theorem fmod_pos_abs (a b : Int) (hb : 0 < b) : (a.fmod b).natAbs < b.natAbs := by
  have h3 := Int.fmod_nonneg_of_pos a hb
  have h4 := Int.fmod_lt_of_pos a hb
  exact Int.natAbs_lt_natAbs_of_nonneg_of_lt h3 h4
theorem fmod_abs (a b : Int) (h : b ≠ 0) : (a.fmod b).natAbs < b.natAbs := by
  rcases Int.lt_or_gt_of_ne h with hb | hb
  · have h1 := fmod_pos_abs (-a) (-b) (Int.neg_pos_of_neg hb)
    rwa [Int.neg_fmod_neg, Int.natAbs_neg, Int.natAbs_neg] at h1
  · exact fmod_pos_abs a b hb
/-- Euclid's run with Python's rest -/
noncomputable def eu (one other : Int) : Int := if h : other = 0 then one else eu other (one.fmod other)
termination_by other.natAbs
decreasing_by exact fmod_abs _ _ h
theorem eu_zero (one : Int) : eu one 0 = one := by rw [eu]; simp
theorem eu_step (one other : Int) (h : other ≠ 0) : eu one other = eu other (one.fmod other) := by rw [eu]; simp [h]
noncomputable def measureI (one : Int) (gains : List Int) : Int := gains.foldl eu one
noncomputable abbrev rowD (p : Int × Int) : D := .tup [.int p.1, .int p.2, .int (p.1.fdiv p.2), .int (p.1.fmod p.2)]
noncomputable def LogOk (l : List (Int × Int)) : Prop := ∀ p ∈ l, p.2 ≠ 0 ∧ p.1.natAbs < 2 ^ 29 ∧ p.2.natAbs < 2 ^ 29
noncomputable abbrev msV (asked : Addr) (o : Int) (gains : List Int) : Vars := [("asked", D.ref asked), ("one", D.int o), ("gains", D.lst (gains.map .int))]
noncomputable abbrev msW (asked : Addr) (o : Int) (gains : List Int) (g : Int) : Vars := [("asked", D.ref asked), ("one", D.int o), ("gains", D.lst (gains.map .int)), ("other", D.int g)]
theorem measure_spec {C : Cx} (V : DivEnv C) {Y led : Led} {k : Nat} {a fr asked : Addr} {one : Int} {gains : List Int} {Q : D → Led → Prop} (h : GFn C a (top2 21)) (hm : C.mg "_law_rest" = some (.ref fr)) (hr : GFn C fr (top2 20))
    (ha : led asked = some (.list [])) (hl : gains.length ≤ 1000) (hone : one.natAbs ≤ 100) (hg : ∀ g ∈ gains, g.natAbs ≤ 100)
    (hq : ∀ log, LogOk log → log.length ≤ 101000 → Q (.int (measureI one gains)) (upd led asked (.list (log.map rowD)))) : CallW C Y led (k + 100) (.ref a) [.ref asked, .int one, .lst (gains.map .int)] Q := by
  have N := V.N
  refine CallW.gfn h rfl [("asked", .ref asked), ("one", .int one), ("gains", .lst (gains.map .int))] rfl rfl fun L cs q code => ?_
  refine WS.cons (WS.for ?_)
  walk_at "v"
  refine ⟨_, fun i vs led' => ∃ (o : Int) (log : List (Int × Int)), vs = msV asked o gains ∧ led' = upd led asked (.list (log.map rowD)) ∧ LogOk log ∧ log.length ≤ 101 * i ∧ o.natAbs ≤ 100 ∧ o = measureI one (gains.take i),
    fun Y => IterOf.lst, ⟨msV asked one gains, ⟨rfl, rfl, rfl, trivial⟩, one, [], rfl, (upd_id _ _ _ ha).symm, fun p hp => (by cases hp), by simp, hone, rfl⟩, ?_, ?_⟩
  · rintro i x vs2 led2 hx ⟨o, log, rfl, rfl, hlog, hll, ho, hom⟩
    obtain ⟨g, hgi, rfl⟩ : ∃ g, gains[i]? = some g ∧ x = .int g := by
      rw [List.getElem?_map] at hx
      cases hgi : gains[i]? with
      | none => rw [hgi] at hx; cases hx
      | some g => rw [hgi] at hx; cases hx; exact ⟨g, rfl, rfl⟩
    have hga := hg g (List.mem_of_getElem? hgi)
    have hil : i < gains.length := (List.getElem?_eq_some_iff.mp hgi).1
    walk_at "v"
    refine WS.sub (vs := msW asked o gains g) ?_ ⟨rfl, rfl, rfl, rfl, trivial⟩
    refine WS.while (fun n vs led' => ∃ (o2 g2 : Int) (log2 : List (Int × Int)), vs = msW asked o2 gains g2 ∧ led' = upd led asked (.list (log2.map rowD)) ∧ LogOk log2 ∧ log2.length + n ≤ 101 * i + 100 ∧ n = g2.natAbs ∧ o2.natAbs ≤ 100 ∧ g2.natAbs ≤ 100 ∧ eu o2 g2 = eu o g) g.natAbs ?_ ?_
    · exact ⟨o, g, log, rfl, rfl, hlog, by lia, rfl, ho, hga, rfl⟩
    · rintro n vs3 led3 ⟨o2, g2, log2, rfl, rfl, hlog2, hll2, rfl, ho2, hg2, he⟩
      walk_at "v"
      refine ⟨fun hb => ?_, fun hb => ?_⟩
      · have hg0 : g2 ≠ 0 := by simpa using hb
        refine WS.cons (WS.assign_swap (names := ["one", "other"]) ?_)
        walk_at "v"
        refine WE.callY ?_
        walk_at "v"
        refine ⟨hr.keep, (rest_spec (k := k) V hr (upd_same ..) (by rw [List.length_map]; lia) hg0 (by lia) (by lia) ?_).up (by lia)⟩
        walk_at "v"
        refine ⟨by simp, _, rfl, rfl, ?_⟩
        show WUL C _ _ _ _ [bindName _ "other", bindName _ "one"] [_, _] _
        walk_at "v"
        have hab := fmod_abs o2 g2 hg0
        refine ⟨(o2.fmod g2).natAbs, msW asked g2 gains (o2.fmod g2), hab, ⟨rfl, rfl, rfl, rfl, trivial⟩, g2, o2.fmod g2, log2 ++ [(o2, g2)], rfl, by rw [upd_upd, List.map_append]; rfl, fun p hp => ?_, by simp; lia, rfl, hg2, by lia, by rw [← he, eu_step _ _ hg0]⟩
        rcases List.mem_append.mp hp with hp | hp
        · exact hlog2 p hp
        · rw [List.mem_singleton] at hp; subst hp; exact ⟨hg0, by simp only; lia, by simp only; lia⟩
      · have hg0 : g2 = 0 := by simpa using hb
        subst hg0
        walk_at "v"
        refine ⟨msV asked o2 gains, ⟨rfl, rfl, rfl, trivial⟩, o2, log2, rfl, rfl, hlog2, by lia, ho2, ?_⟩
        rw [eu_zero] at he
        unfold measureI at hom ⊢
        rw [List.take_add_one, hgi, Option.toList_some, List.foldl_append, ← hom, he]; rfl
  · rintro vs2 led2 ⟨o, log, rfl, rfl, hlog, hll, ho, hom⟩
    walk_at "v"
    rw [List.length_map, List.take_length] at hom
    rw [hom]
    exact hq log hlog (by rw [List.length_map] at hll; lia)
set_option tactic.hygienic false
noncomputable def gapAt (marks : List Int) (k : Nat) : Int := if 0 < k then marks.getD k 0 - marks.getD (k - 1) 0 else marks.getD 0 0
noncomputable def gapsL (marks : List Int) : List Int := (List.range marks.length).map (gapAt marks)
theorem getD_int {xs : List Int} {i : Nat} (h : i < xs.length) : (xs.map D.int)[i]? = some (.int (xs.getD i 0)) := by
  rw [List.getElem?_map, List.getElem?_eq_getElem h, List.getD_eq_getElem?_getD, List.getElem?_eq_getElem h]; rfl
theorem filterMap_some (xs : List D) : (xs.map some).filterMap id = xs := by induction xs with | nil => rfl | cons x r ih => simp [ih]
theorem gaps_spec {C : Cx} (N : NoG C) {Y led : Led} {k : Nat} {a : Addr} {marks : List Int} {Q : D → Led → Prop} (h : GFn C a (top2 23)) (hl : marks.length ≤ 100000)
    (hq : Q (.lst ((gapsL marks).map .int)) led) : CallW C Y led (k + 10) (.ref a) [.lst (marks.map .int)] Q := by
  refine CallW.gfn h rfl [("marks", .lst (marks.map .int))] rfl rfl fun L cs q code => ?_
  walk_at "v"
  refine WE.comp [("marks", .lst (marks.map .int))] ?_
  refine WE.callY ?_
  walk_at "v"
  refine WE.callY ?_
  walk_at "v"
  refine CallW.len_lst (by simp; lia) ?_
  rw [List.length_map]
  walk_at "v"
  refine ⟨_, ((gapsL marks).map .int).map some, fun Y => IterOf.rng (by lia) (by lia) (by lia) (by lia), ?_, ?_, fun L cs i x hx => ?_, ?_⟩
  · rw [rngItems_length]; lia
  · rw [rngItems_length, List.length_map, List.length_map]; simp [gapsL]
  · obtain ⟨rfl, hi⟩ := rngItems_get hx
    simp only [Int.sub_zero, Int.toNat_natCast] at hi
    simp only [Int.zero_add]
    have hout : (((gapsL marks).map D.int).map some)[i]? = some (some (.int (gapAt marks i))) := by
      unfold gapsL
      rw [List.getElem?_map, List.getElem?_map, List.getElem?_map, List.getElem?_range hi]; rfl
    walk_at "v"
    refine ⟨⟨rfl, trivial⟩, ?_⟩
    walk_at "v"
    refine ⟨fun _ => ?_, fun hc => by cases hc⟩
    walk_at "v"
    refine ⟨fun hb => ?_, fun hb => ?_⟩
    · have hi0 : 0 < i := by simp only [decide_eq_true_eq] at hb; lia
      walk_at "v"
      refine SubW.lst (by lia) (by lia) (by rw [Int.toNat_natCast]; exact getD_int hi) ?_
      walk_at "v"
      refine SubW.lst (by lia) (by lia) (by rw [show ((i : Int) - 1).toNat = i - 1 from Int.toNat_sub i 1]; exact getD_int (by lia)) ?_
      walk_at "v"
      refine ⟨?_, rfl⟩
      rw [hout]; unfold gapAt; rw [if_pos hi0]
    · have hi0 : i = 0 := by simp only [decide_eq_false_iff_not] at hb; lia
      subst hi0
      walk_at "v"
      refine SubW.lst (by lia) (by lia) (by exact getD_int hi) ?_
      refine ⟨?_, rfl⟩
      rw [hout]; rfl
  · rw [filterMap_some]; exact hq
/-- far along the roads -/
noncomputable def far (steps there : Nat) (power : List Nat) : Nat := if h : steps = 0 then there else far (steps / 2) (if steps % 2 = 1 then after power there else there) (power.map (after power))
termination_by steps
decreasing_by lia
theorem far_zero (t : Nat) (p : List Nat) : far 0 t p = t := by rw [far]; simp
theorem far_step {s : Nat} (h : s ≠ 0) (t : Nat) (p : List Nat) : far s t p = far (s / 2) (if s % 2 = 1 then after p t else t) (p.map (after p)) := by rw [far]; simp [h]
noncomputable abbrev farV (rows : List Nat) (s t : Nat) (p : List Nat) : Vars := [("rows", nats rows), ("steps", D.int s), ("there", D.int t), ("power", nats p)]
theorem far_spec {C : Cx} (N : NoG C) {Y led : Led} {k : Nat} {a fa : Addr} {rows : List Nat} {n : Nat} {Q : D → Led → Prop} (h : GFn C a (top2 19)) (hm : C.mg "_law_after" = some (.ref fa)) (hf : GFn C fa (top2 17)) (hr : rows.length < 60) (hn : n < 1000000)
   (hq : Q (.int (far n 1 rows : Nat)) led) : CallW C Y led (k + 10) (.ref a) [nats rows, .int n] Q := by
  refine CallW.gfn h rfl [("rows", nats rows), ("steps", .int n)] rfl rfl fun L cs q code => ?_
  walk_at "v"
  refine ⟨by simp, ?_⟩
  walk_at "v"
  refine WS.sub (vs := farV rows n 1 rows) ?_ ⟨rfl, rfl, rfl, rfl, trivial⟩
  refine WS.while (fun m vs led' => ∃ (t : Nat) (p : List Nat), vs = farV rows m t p ∧ led' = led ∧ p.length < 60 ∧ m ≤ n ∧ far m t p = far n 1 rows) n ⟨1, rows, rfl, rfl, hr, Nat.le_refl _, rfl⟩ ?_
  rintro m vs2 led2 ⟨t, p, rfl, rfl, hp, hmn, he⟩
  walk_at "v"
  refine ⟨fun hb => ?_, fun hb => ?_⟩
  · have hm0 : m ≠ 0 := by simp only [decide_eq_true_eq] at hb; lia
    rw [far_step hm0] at he
    have emod : (((m : Int)).fmod 2 == 1) = decide (m % 2 = 1) := by
      rw [Int.fmod_eq_emod_of_nonneg _ (by decide)]
      rw [Bool.eq_iff_iff, beq_iff_eq, decide_eq_true_eq]; lia
    refine WS.mid (fun vs led' => led' = led2 ∧ Sub (farV rows m (if m % 2 = 1 then after p t else t) p) vs) ?_ ?_
    · walk_at "v"
      refine Op2.mod (by decide) ?_
      walk_at "v"
      rw [emod]
      refine ⟨fun h1 => ?_, fun h1 => ?_⟩
      · rw [decide_eq_true_eq] at h1
        rw [if_pos h1]
        walk_at "v"
        refine WE.callY ?_
        walk_at "v"
        refine ⟨hf.keep, (after_spec (k := k) N hf hp ?_).up (by lia)⟩
        walk_at "v"
        exact ⟨rfl, rfl, rfl, rfl, rfl, rfl, trivial⟩
      · rw [decide_eq_false_iff_not] at h1
        rw [if_neg h1]
        walk_at "v"
        exact ⟨rfl, rfl, rfl, rfl, rfl, rfl, trivial⟩
    · rintro vs3 led3 ⟨rfl, hsub⟩
      refine WS.sub ?_ hsub
      generalize (if m % 2 = 1 then after p t else t) = t2 at he ⊢
      walk_at "v"
      refine WE.comp [("power", nats p)] ?_
      walk_at "v"
      refine ⟨_, ((p.map (after p)).map natD).map some, fun Y => IterOf.lst, by rw [List.length_map]; lia, by simp, fun L cs i x hx => ?_, ?_⟩
      · obtain ⟨y, hy, rfl⟩ : ∃ y, p[i]? = some y ∧ x = natD y := by
          rw [List.getElem?_map] at hx
          cases hg : p[i]? with
          | none => rw [hg] at hx; cases hx
          | some g => rw [hg] at hx; cases hx; exact ⟨g, rfl, rfl⟩
        walk_at "v"
        refine ⟨⟨rfl, trivial⟩, ?_⟩
        walk_at "v"
        refine ⟨fun _ => ?_, fun hc => by cases hc⟩
        refine WE.callY ?_
        walk_at "v"
        refine ⟨hf.keep, (after_spec (k := k) N hf hp ?_).up (by lia)⟩
        refine ⟨?_, rfl⟩
        rw [List.getElem?_map, List.getElem?_map, List.getElem?_map, hy]; rfl
      · rw [filterMap_some]
        walk_at "v"
        refine Op2.fdiv (by decide) ?_ (by decide)
        have e2 : ((m : Int)).fdiv 2 = ((m / 2 : Nat) : Int) := fdiv_pow m 1
        rw [e2]
        walk_at "v"
        refine ⟨by simp, ?_⟩
        walk_at "v"
        exact ⟨m / 2, farV rows (m / 2 : Nat) t2 (p.map (after p)), by lia, ⟨rfl, rfl, rfl, rfl, trivial⟩, t2, p.map (after p), rfl, rfl, by rw [List.length_map]; exact hp, by lia, he⟩
  · have hm0 : m = 0 := by simp only [decide_eq_false_iff_not] at hb; lia
    subst hm0
    rw [far_zero] at he
    subst he
    walk_at "v"
    exact hq
set_option tactic.hygienic false
theorem in_one (l : List Nat) (c : Nat) : Txt.contains (mk l) ⟨#[c]⟩ = decide (c ∈ l) := by
  have := PySem.StrLaws.found_one (mk l) c
  simpa [Txt.contains] using this
theorem idx_one {l : List Nat} (hn : l.Nodup) {i c : Nat} (h : l[i]? = some c) : ∃ rest, Builtin.Str.occurrences (mk l) ⟨#[c]⟩ 0 (mk l).length 1 = i :: rest := by
  have hf := PySem.StrLaws.found_one (mk l) c
  have hc : c ∈ l := List.mem_of_getElem? h
  cases ho : Builtin.Str.occurrences (mk l) ⟨#[c]⟩ 0 (mk l).length 1 with
  | nil => rw [ho] at hf; simp [hc] at hf
  | cons j rest =>
    refine ⟨rest, ?_⟩
    have hs := PySem.StrLaws.occ_spec (mk l) ⟨#[c]⟩ 0 (mk l).length 1 j (by rw [ho]; exact List.mem_cons_self)
    have h2 := (PySem.StrLaws.subAt_one (mk l) c j).mp hs
    simp only [List.toList_toArray] at h2
    have hij : i = j := by
      obtain ⟨h3, h4⟩ := List.getElem?_eq_some_iff.mp h
      obtain ⟨h5, h6⟩ := List.getElem?_eq_some_iff.mp h2
      rcases Nat.lt_trichotomy i j with hlt | he | hlt
      · exact absurd (h4.trans h6.symm) (List.pairwise_iff_getElem.mp hn i j h3 h5 hlt)
      · exact he
      · exact absurd (h6.trans h4.symm) (List.pairwise_iff_getElem.mp hn j i h5 h3 hlt)
    rw [hij]

/-- the new signs of a row, behind those that stand -/
noncomputable def addS (acc row : List Nat) : List Nat := row.foldl (fun a c => if c ∈ a then a else a ++ [c]) acc
/-- a round: each name pushes its road's signs -/
noncomputable def stepS (names : List Nat) (roads : List (List Nat)) (S : List Nat) : List Nat := S.foldl (fun a c => addS a (roads.getD (names.idxOf c) [])) []
noncomputable def itS (names : List Nat) (roads : List (List Nat)) : Nat → List Nat
  | 0 => names.take 1
  | n + 1 => stepS names roads (itS names roads n)
noncomputable abbrev strD (l : List Nat) : D := .str (mk l)
theorem addS_snoc (acc row : List Nat) (c : Nat) : addS acc (row ++ [c]) = if c ∈ addS acc row then addS acc row else addS acc row ++ [c] := by
  unfold addS; rw [List.foldl_append]; rfl
noncomputable def Good (names acc : List Nat) : Prop := acc.Nodup ∧ ∀ c ∈ acc, c ∈ names
theorem Good.len {names acc : List Nat} (h : Good names acc) (hn : names.length ≤ 60) : acc.length ≤ 60 := by
  suffices key : ∀ (l l' : List Nat), l.Nodup → (∀ a ∈ l, a ∈ l') → l.length ≤ l'.length from Nat.le_trans (key _ _ h.1 h.2) hn
  intro l
  induction l with
  | nil => intro _ _ _; exact Nat.zero_le _
  | cons a l ih =>
    intro l' hn hs
    have ha : a ∈ l' := hs a List.mem_cons_self
    have hn' := List.nodup_cons.mp hn
    have h1 := ih (l'.erase a) hn'.2 fun b hb => (List.mem_erase_of_ne (fun e => by subst e; exact hn'.1 hb)).mpr (hs b (List.mem_cons_of_mem _ hb))
    have h2 := List.length_erase_of_mem ha
    have h3 : 0 < l'.length := List.length_pos_of_mem ha
    rw [List.length_cons]; lia
theorem Good.add1 {names acc : List Nat} (h : Good names acc) {c : Nat} (hc : c ∈ names) (hn : c ∉ acc) : Good names (acc ++ [c]) := by
  refine ⟨?_, fun x hx => ?_⟩
  · rw [List.nodup_append]
    refine ⟨h.1, by simp, fun a ha b hb e => ?_⟩
    rw [List.mem_singleton] at hb; subst hb; subst e; exact hn ha
  · rcases List.mem_append.mp hx with hx | hx
    · exact h.2 x hx
    · rw [List.mem_singleton] at hx; subst hx; exact hc
theorem Good.addS {names : List Nat} : ∀ (row acc : List Nat), Good names acc → (∀ c ∈ row, c ∈ names) → Good names (addS acc row)
  | [], acc, h, _ => h
  | c :: r, acc, h, hr => by
    show Good names (Sc.addS (if c ∈ acc then acc else acc ++ [c]) r)
    refine Good.addS r _ ?_ fun x hx => hr x (List.mem_cons_of_mem _ hx)
    split
    · exact h
    · rename_i hc; exact h.add1 (hr c List.mem_cons_self) hc
noncomputable def rowOf (names : List Nat) (roads : List (List Nat)) (c : Nat) : List Nat := roads.getD (names.idxOf c) []
theorem rowOf_mem {names : List Nat} {roads : List (List Nat)} (hr : ∀ row ∈ roads, ∀ c ∈ row, c ∈ names) (c : Nat) : ∀ x ∈ rowOf names roads c, x ∈ names := by
  unfold rowOf
  rw [List.getD_eq_getElem?_getD]
  cases h : roads[names.idxOf c]? with
  | none => intro x hx; cases hx
  | some row => exact hr row (List.mem_of_getElem? h)
theorem Good.fold {names : List Nat} {roads : List (List Nat)} (hr : ∀ row ∈ roads, ∀ c ∈ row, c ∈ names) : ∀ (S acc : List Nat), Good names acc → Good names (S.foldl (fun a c => Sc.addS a (rowOf names roads c)) acc)
  | [], acc, h => h
  | c :: r, acc, h => Good.fold hr r _ (Good.addS _ _ h (rowOf_mem hr c))
theorem Good.it {names : List Nat} {roads : List (List Nat)} (hr : ∀ row ∈ roads, ∀ c ∈ row, c ∈ names) : ∀ i, Good names (itS names roads i)
  | 0 => ⟨by show (names.take 1).Nodup; cases names <;> simp, fun c hc => List.mem_of_mem_take hc⟩
  | i + 1 => Good.fold hr _ [] ⟨List.nodup_nil, fun c hc => (by cases hc)⟩
noncomputable abbrev walkW (A : LxA) (names : List Nat) (roads : List (List Nat)) (rounds : Nat) (met : Addr) (acc nm : List Nat) : Vars := [("lexer", .ref A.x), ("names", strD names), ("roads", .lst (roads.map strD)), ("rounds", .int rounds), ("met", .ref met), ("after", strD acc), ("name", strD nm)]
noncomputable abbrev walkV (A : LxA) (names : List Nat) (roads : List (List Nat)) (rounds : Nat) (met : Addr) : Vars := [("lexer", .ref A.x), ("names", strD names), ("roads", .lst (roads.map strD)), ("rounds", .int rounds), ("met", .ref met)]
theorem mk1_ne (c : Nat) : (mk [c] != ("" : Str)) = true := by
  rw [bne_iff_ne]; intro h
  have h2 : (mk [c]).cps.size = ("" : Str).cps.size := by rw [h]
  have h3 : ("" : Str).cps.size = 0 := by decide +kernel
  rw [h3] at h2; simp at h2
/-- the walk's inner loop -/
inductive WkI (names : List Nat) (roads : List (List Nat)) (rounds : Nat) (met : Addr) (line : Int) (text : List Nat) (A : LxA) (B : Led) (ms : List D) (F : List Nat) : Nat → Vars → Led → Prop
  | fin (acc : List Nat) : Good names acc → acc = F → WkI names roads rounds met line text A B ms F 0 (walkW A names roads rounds met acc []) (lexL (upd B met (.list ms)) A line text (acc.map sgn))
  | run (acc : List Nat) (c : Nat) (rest : List Nat) : Good names acc → (∀ x ∈ c :: rest, x ∈ names) → rest.length ≤ 60 → (c :: rest).foldl (fun a c => addS a (rowOf names roads c)) acc = F →
      WkI names roads rounds met line text A B ms F (rest.length + 1) (walkW A names roads rounds met acc [c]) (lexL (upd B met (.list ms)) A line text (rest.map sgn ++ (.str "" :: acc.map sgn)))
inductive WkM (I : Nat → Vars → Led → Prop) (vs : Vars) (led : Led) : Prop
  | mk (n : Nat) (vs0 : Vars) : Sub vs0 vs → I n vs0 led → WkM I vs led
set_option maxHeartbeats 4000000 in
theorem walk_spec {C : Cx} {Y B : Led} {k : Nat} {A : LxA} {cl f : Addr} {line : Int} {text : List Nat} {names : List Nat} {roads : List (List Nat)} {rounds : Nat} {Q : D → Led → Prop} {mN : Str → Option Value} (N : NoG C) (E : NetEnv C cl mN) (hf : GFn C f (top2 16)) (L : LexOk B A cl)
    (hal : ∀ c ∈ text, c ∈ alph) (htl : text.length ≤ 100000) (hnd : names.Nodup) (hn0 : 0 < names.length) (hn8 : names.length ≤ 60) (hrl : roads.length = names.length) (hr : ∀ row ∈ roads, ∀ c ∈ row, c ∈ names) (hrr : rounds ≤ 1000)
    (hq : Q (.lst ((List.range (rounds + 1)).map fun i => strD (itS names roads i))) (lexL B A line text ((itS names roads rounds).map sgn))) :
    CallW C Y (lexL B A line text []) (k + 30) (.ref f) [.ref A.x, strD names, .lst (roads.map strD), .int rounds] Q := by
  obtain ⟨fp, mp⟩ := E.pt
  obtain ⟨op, po1, po2, po3⟩ := mp.obj
  obtain ⟨fg, mg⟩ := E.gt
  obtain ⟨og, go1, go2, go3⟩ := mg.obj
  refine CallW.less (CallW.frz ?_)
  refine CallW.gfn hf rfl [("lexer", .ref A.x), ("names", strD names), ("roads", .lst (roads.map strD)), ("rounds", .int rounds)] rfl rfl fun L' cs q code => ?_
  walk_at "v"
  refine WE.listM ?_
  walk_at "v"
  refine SubW.str (c := names[0]) (by decide) (by decide) (by simp [List.getElem?_eq_getElem hn0]) ?_
  walk_at "v"
  refine ⟨by simp, fun met hmet => ?_⟩
  have i1 : met ≠ A.dx := fun z => by subst z; rw [lexL_dx L] at hmet; cases hmet
  have i2 : met ≠ A.pg := fun z => by subst z; rw [lexL_pg L] at hmet; cases hmet
  have i3 : met ≠ A.pb := fun z => by subst z; rw [lexL_pb] at hmet; cases hmet
  have hBm : B met = none := by rw [lexL_at L i1 i2 i3] at hmet; exact hmet
  have hm1 : ∀ ms, LexOk (upd B met (.list ms)) A cl := fun ms => L.put hBm _
  have hmat : ∀ ms pbk, lexL (upd B met (.list ms)) A line text pbk met = some (.list ms) := fun ms pbk => by rw [lexL_at (hm1 ms) i1 i2 i3, upd_same]
  rw [lexL_put i1 i2 i3]
  have pushW : ∀ (ms : List D) (pbk : List D) (d : D) (Q : D → Led → Prop) (Y : Led), pbk.length ≤ 100000 → Q .none (lexL (upd B met (.list ms)) A line text (pbk ++ [d])) → CallW C Y (lexL (upd B met (.list ms)) A line text pbk) (k + 20) (.ref fp) [.ref A.x, d] Q :=
    fun ms pbk d Q Y hl h => (push_token_spec (k := k) E mp.fn (hm1 ms) hl h).up (by lia)
  have getW : ∀ (ms : List D) (d : D) (r : List D) (Q : D → Led → Prop) (Y : Led), (d :: r).length ≤ 100000 → Q d (lexL (upd B met (.list ms)) A line text r) → CallW C Y (lexL (upd B met (.list ms)) A line text (d :: r)) (k + 20) (.ref fg) [.ref A.x] Q :=
    fun ms d r Q Y hl h => (get_token_spec (k := k) N E mg.fn (hm1 ms) hal htl hl (fun d' r' e => by cases e; exact h) (fun e => by cases e)).up (by lia)
  walk_at "v"
  refine WE.m1 (pl := _) ?_
  walk_at "v"
  refine ⟨_, _, fun Y => GetM.inst E.cls (lexL_x (hm1 _)) (lexL_dx (hm1 _)) mp.at_ po1 po3 po2 ol7 rfl, ?_⟩
  walk_at "v"
  refine SubW.str (c := names[0]) (by decide) (by decide) (by simp [List.getElem?_eq_getElem hn0]) ?_
  walk_at "v"
  refine ⟨mp.fn.keep, (pushW _ _ _ _ _ (by simp) ?_).up (by lia)⟩
  refine ⟨rfl, ?_⟩
  have hS0 : itS names roads 0 = [names[0]] := by
    show names.take 1 = _
    cases names with
    | nil => simp at hn0
    | cons a r => rfl
  have hSle : ∀ i, (itS names roads i).length ≤ 60 := fun i => (Good.it hr i).len hn8
  have hSmem : ∀ i, ∀ c ∈ itS names roads i, c ∈ names := fun i => (Good.it hr i).2
  have popW : ∀ (ms : List D) (S acc : List Nat) (Q : D → Led → Prop) (Y : Led), S.length ≤ 60 → acc.length ≤ 60 →
      (S = [] → Q (.str "") (lexL (upd B met (.list ms)) A line text (acc.map sgn))) → (∀ s r, S = s :: r → Q (sgn s) (lexL (upd B met (.list ms)) A line text (r.map sgn ++ (.str "" :: acc.map sgn)))) →
      CallW C Y (lexL (upd B met (.list ms)) A line text (S.map sgn ++ (.str "" :: acc.map sgn))) (k + 20) (.ref fg) [.ref A.x] Q := by
    intro ms S acc Q Y h1 h2 h3 h4
    cases S with
    | nil => exact getW ms _ _ Q Y (by simp; lia) (h3 rfl)
    | cons s r => exact getW ms _ _ Q Y (by simp at h1 ⊢; lia) (h4 s r rfl)
  walk_at "v"
  refine WS.forI (fun i => walkV A names roads rounds met) (fun i => lexL (upd B met (.list ((List.range (i + 1)).map fun j => strD (itS names roads j)))) A line text ((itS names roads i).map sgn)) ?_
  refine WE.callY ?_
  walk_at "v"
  refine ⟨_, fun Y => IterOf.rng (by lia) (by lia) (by lia) (by lia), ⟨rfl, rfl, rfl, rfl, rfl, trivial⟩, ?_, fun i x hx => ?_, ?_⟩
  · show lexL _ _ _ _ _ = _
    rw [hS0]
    have : ((List.range 1).map fun j => strD (itS names roads j)) = [strD [names[0]]] := by rw [← hS0]; rfl
    rw [this]; rfl
  · generalize hS : itS names roads i = S at *
    generalize hms : ((List.range (i + 1)).map fun j => strD (itS names roads j)) = ms
    have hSl : S.length ≤ 60 := by rw [← hS]; exact hSle i
    walk_at "v"
    refine WE.m1 (pl := _) ?_
    walk_at "v"
    refine ⟨_, _, fun Y => GetM.inst E.cls (lexL_x (hm1 _)) (lexL_dx (hm1 _)) mp.at_ po1 po3 po2 ol7 rfl, ?_⟩
    walk_at "v"
    refine ⟨mp.fn.keep, (pushW _ _ _ _ _ (by simp; lia) ?_).up (by lia)⟩
    refine ⟨rfl, ?_⟩
    have hSG : Good names S := by rw [← hS]; exact Good.it hr i
    have hstep : itS names roads (i + 1) = S.foldl (fun a c => addS a (rowOf names roads c)) [] := by rw [← hS]; rfl
    generalize hF : itS names roads (i + 1) = F at *
    refine WS.mid (WkM (WkI names roads rounds met line text A B ms F)) ?_ ?_
    · refine WS.assign_swap (names := ["after", "name"]) ?_
      walk_at "v"
      refine WE.m1 (pl := _) ?_
      walk_at "v"
      refine ⟨_, _, fun Y => GetM.inst E.cls (lexL_x (hm1 _)) (lexL_dx (hm1 _)) mg.at_ go1 go3 go2 ol6 rfl, ?_⟩
      walk_at "v"
      refine ⟨mg.fn.keep, (popW ms S [] _ _ hSl (by simp) ?_ ?_).up (by lia)⟩
      · intro hS0
        walk_at "v"
        refine ⟨by simp, _, rfl, rfl, ?_⟩
        show WUL C _ _ _ _ [bindName _ "name", bindName _ "after"] [_, _] _
        walk_at "v"
        refine ⟨rfl, .mk 0 (walkW A names roads rounds met [] []) ⟨rfl, rfl, rfl, rfl, rfl, rfl, rfl, trivial⟩ (.fin [] ⟨List.nodup_nil, fun c hc => (by cases hc)⟩ ?_)⟩
        rw [hstep, hS0]; rfl
      · intro s0 r0 hS0
        walk_at "v"
        refine ⟨by simp, _, rfl, rfl, ?_⟩
        show WUL C _ _ _ _ [bindName _ "name", bindName _ "after"] [_, _] _
        walk_at "v"
        refine ⟨rfl, .mk (r0.length + 1) (walkW A names roads rounds met [] [s0]) ⟨rfl, rfl, rfl, rfl, rfl, rfl, rfl, trivial⟩ (.run [] s0 r0 ⟨List.nodup_nil, fun c hc => (by cases hc)⟩ ?_ ?_ ?_)⟩
        · rw [← hS0]; exact hSG.2
        · rw [hS0] at hSl; simp at hSl; lia
        · rw [hstep, hS0]
    · intro vs2 led2 hM
      cases hM with | mk n0 vs0 hsub hI0 =>
      refine WS.sub ?_ hsub
      refine WS.cons (WS.while (WkI names roads rounds met line text A B ms F) n0 hI0 ?_)
      intro n vs3 led3 hI
      cases hI with
      | fin acc hG hacc =>
        subst hacc
        walk_at "v"
        refine ⟨fun h => absurd h (by decide +kernel), fun _ => ?_⟩
        walk_at "v"
        refine WE.m1 (pl := _) ?_
        walk_at "v"
        refine ⟨_, _, fun Y => GetM.append (hmat _ _), ?_⟩
        walk_at "v"
        have hi := (rngItems_get hx).2
        refine CallW.append (hmat _ _) (by rw [← hms]; simp at hi ⊢; lia) ?_
        refine ⟨rfl, ?_⟩
        walk_at "v"
        refine ⟨⟨rfl, rfl, rfl, rfl, rfl, trivial⟩, ?_⟩
        rw [lexL_put i1 i2 i3, upd_upd, List.range_succ, List.map_append, hms]
        simp only [List.map_cons, List.map_nil, hF]
      | run acc c rest hG hmem hrl2 hfold =>
        walk_at "v"
        refine ⟨fun _ => ?_, fun h => absurd (mk1_ne c) (by rw [h]; decide)⟩
        have hc := hmem c List.mem_cons_self
        obtain ⟨ix, hix, hget⟩ : ∃ ix, ix < names.length ∧ names[ix]? = some c ∧ names.idxOf c = ix := by
          refine ⟨names.idxOf c, List.idxOf_lt_length_iff.mpr hc, ?_, rfl⟩
          rw [List.getElem?_eq_getElem (List.idxOf_lt_length_iff.mpr hc), List.getElem_idxOf]
        obtain ⟨hget, hidx⟩ := hget
        obtain ⟨tail, hocc⟩ := idx_one hnd hget
        have hrow : roads[ix]? = some (rowOf names roads c) := by
          unfold rowOf
          rw [hidx, List.getD_eq_getElem?_getD, List.getElem?_eq_getElem (by lia)]; rfl
        have hrm := rowOf_mem hr c
        rw [List.foldl_cons] at hfold
        generalize rowOf names roads c = row at *
        refine WS.cons (WS.forI (fun j => walkW A names roads rounds met (addS acc (row.take j)) [c]) (fun j => lexL (upd B met (.list ms)) A line text (rest.map sgn ++ (.str "" :: (addS acc (row.take j)).map sgn))) ?_)
        walk_at "v"
        refine WE.m1 (pl := _) ?_
        walk_at "v"
        refine ⟨_, _, fun Y => GetM.index, ?_⟩
        walk_at "v"
        refine CallW.index hocc ?_
        walk_at "v"
        refine SubW.lst (d := strD row) (by lia) (by lia) (by rw [Int.toNat_natCast, List.getElem?_map, hrow]; rfl) ?_
        refine ⟨_, fun Y => IterOf.str, ⟨rfl, rfl, rfl, rfl, rfl, rfl, rfl, trivial⟩, rfl, fun j y hy => ?_, ?_⟩
        · obtain ⟨c2, hc2, rfl⟩ : ∃ c2, row[j]? = some c2 ∧ y = sgn c2 := by
            have hy2 : (row.map sgn)[j]? = some y := by simpa [strItems] using hy
            rw [List.getElem?_map] at hy2
            cases hg : row[j]? with
            | none => rw [hg] at hy2; cases hy2
            | some g => rw [hg] at hy2; cases hy2; exact ⟨g, rfl, rfl⟩
          have hc2n := hrm c2 (List.mem_of_getElem? hc2)
          have hG2 := Good.addS (row.take j) acc hG fun x hx => hrm x (List.mem_of_mem_take hx)
          have hnext : addS acc (row.take (j + 1)) = if c2 ∈ addS acc (row.take j) then addS acc (row.take j) else addS acc (row.take j) ++ [c2] := by
            rw [List.take_add_one, hc2, Option.toList_some, addS_snoc]
          rw [hnext]
          generalize addS acc (row.take j) = ac at *
          have hacl := hG2.len hn8
          walk_at "v"
          refine Op2.nins ?_
          rw [in_one]
          walk_at "v"
          refine ⟨fun hin => ?_, fun hin => ?_⟩
          · have hni : c2 ∉ ac := by simpa using hin
            rw [if_neg hni]
            walk_at "v"
            refine WE.m1 (pl := _) ?_
            walk_at "v"
            refine ⟨_, _, fun Y => GetM.inst E.cls (lexL_x (hm1 _)) (lexL_dx (hm1 _)) mp.at_ po1 po3 po2 ol7 rfl, ?_⟩
            walk_at "v"
            refine ⟨mp.fn.keep, (pushW _ _ _ _ _ (by simp; lia) ?_).up (by lia)⟩
            refine ⟨rfl, ?_⟩
            walk_at "v"
            refine Op2.iadds ?_ (iadd_ok c2 (by lia))
            rw [mk_snoc]
            walk_at "v"
            refine ⟨⟨rfl, rfl, rfl, rfl, rfl, rfl, rfl, trivial⟩, ?_⟩
            rw [List.map_append]
            simp
          · have hni : c2 ∈ ac := by simpa using hin
            rw [if_pos hni]
            walk_at "v"
            exact ⟨⟨rfl, rfl, rfl, rfl, rfl, rfl, rfl, trivial⟩, rfl⟩
        · have hlen : (strItems (mk row)).length = row.length := by simp [strItems]
          rw [hlen, List.take_length]
          have hG2 := Good.addS row acc hG hrm
          walk_at "v"
          refine WE.m1 (pl := _) ?_
          walk_at "v"
          refine ⟨_, _, fun Y => GetM.inst E.cls (lexL_x (hm1 _)) (lexL_dx (hm1 _)) mg.at_ go1 go3 go2 ol6 rfl, ?_⟩
          walk_at "v"
          refine ⟨mg.fn.keep, (popW ms rest (addS acc row) _ _ hrl2 (hG2.len hn8) ?_ ?_).up (by lia)⟩
          · intro hr0
            subst hr0
            walk_at "v"
            exact ⟨0, walkW A names roads rounds met (addS acc row) [], by lia, ⟨rfl, rfl, rfl, rfl, rfl, rfl, rfl, trivial⟩, .fin (addS acc row) hG2 hfold⟩
          · intro s1 r1 hr1
            subst hr1
            walk_at "v"
            exact ⟨r1.length + 1, walkW A names roads rounds met (addS acc row) [s1], by simp, ⟨rfl, rfl, rfl, rfl, rfl, rfl, rfl, trivial⟩, .run (addS acc row) s1 r1 hG2 (fun x hx => hmem x (List.mem_cons_of_mem _ hx)) (by simp at hrl2; lia) hfold⟩
  · rw [rngItems_length]
    simp only [Int.sub_zero, Int.toNat_natCast]
    walk_at "v"
    refine ⟨met, _, rfl, hmat _ _, _, ?_, hq⟩
    rw [← lexL_put i1 i2 i3]
    exact Less.delUpd ((Less.refl _).upd (by rw [lexL_at L i1 i2 i3]; exact hBm) _) (by rw [lexL_at L i1 i2 i3]; exact hBm)
set_option tactic.hygienic false
noncomputable def riskyOf (word : List Nat) (turn : Nat) : List Nat := if turn % 3 = 0 then [34, 92] else if turn % 3 = 1 then [34, 92, 10, 9, 13, 32] else word
noncomputable def escOf (risky : List Nat) (c : Nat) : List Nat := if c ∈ risky then [92, c] else [c]
noncomputable def blankOf (turn : Nat) : Nat := [10, 9, 13, 32].getD (turn % 4) 0
noncomputable def written (word : List Nat) (turn : Nat) : List Nat :=
  let text := (word.map (escOf (riskyOf word turn))).flatten
  if turn % 3 = 0 then [blankOf turn, 34] ++ text ++ [34] else text ++ [blankOf turn]
theorem join_mk : ∀ ls : List (List Nat), Txt.join "" (ls.map mk) = mk ls.flatten := by
  intro ls
  have e0 : ("" : Str).cps = #[] := by decide +kernel
  unfold Txt.join Builtin.Str.glued
  cases ls with
  | nil => simp [e0]; rfl
  | cons l r =>
    simp only [List.map_cons, List.drop_one, List.tail_cons, List.headD_cons, e0]
    have key : ∀ (r : List (List Nat)) (acc : Array Nat), (r.map mk).foldl (fun acc p => acc ++ #[] ++ p.cps) acc = acc ++ r.flatten.toArray := by
      intro r
      induction r with
      | nil => intro acc; simp
      | cons x r ih => intro acc; rw [List.map_cons, List.foldl_cons, ih]; simp
    rw [key]
    simp
theorem joinOk_mk (ls : List (List Nat)) (h : ls.flatten.length ≤ 100000) : JoinOk "" (ls.map mk) = true := by
  have e0 : ("" : Str).length = 0 := by decide +kernel
  have key : ∀ (ls : List (List Nat)) (a : Nat), (ls.map mk).foldl (fun n (x : Str) => n + x.length + ("" : Str).length) a = a + ls.flatten.length := by
    intro ls
    induction ls with
    | nil => intro a; rfl
    | cons x r ih =>
      intro a
      rw [List.map_cons, List.foldl_cons, ih, e0, List.flatten_cons, List.length_append]
      have : (mk x).length = x.length := by show x.toArray.size = _; simp
      rw [this]; lia
  unfold JoinOk
  have : (ls.map mk).toArray.foldl (fun (n : Nat) (x : Str) => n + x.length + ("" : Str).length) 0 = ls.flatten.length := by
    rw [List.foldl_toArray, key, Nat.zero_add]
  show (!Builtin.Str.tooLong ((ls.map mk).toArray.foldl (fun (n : Nat) (x : Str) => n + x.length + ("" : Str).length) 0)) = true
  rw [this]
  have h2 : Builtin.Str.tooLong ls.flatten.length = false := decide_eq_false (Nat.not_lt.mpr (Nat.le_trans h (by decide)))
  rw [h2]; rfl
theorem written_spec {C : Cx} (N : NoG C) {Y led : Led} {k : Nat} {f : Addr} {word : List Nat} {turn : Nat} {Q : D → Led → Prop} (h : GFn C f (top2 15)) (hw : word.length ≤ 1000) (ht : turn < 1000000)
    (hq : Q (strD (written word turn)) led) : CallW C Y led (k + 10) (.ref f) [strD word, .int turn] Q := by
  refine CallW.gfn h rfl [("word", strD word), ("turn", .int turn)] rfl rfl fun L cs q code => ?_
  have e3 : ((turn : Int)).fmod 3 = ((turn % 3 : Nat) : Int) := by rw [Int.fmod_eq_emod_of_nonneg _ (by decide)]; rfl
  have e4 : ((turn : Int)).fmod 4 = ((turn % 4 : Nat) : Int) := by rw [Int.fmod_eq_emod_of_nonneg _ (by decide)]; rfl
  have s1 : ("\"\\" : Str) = mk [34, 92] := by decide +kernel
  have s2 : ("\"\\\n\t\r " : Str) = mk [34, 92, 10, 9, 13, 32] := by decide +kernel
  walk_at "v"
  refine WE.list ?_
  walk_at "v"
  refine ⟨by simp, ?_⟩
  walk_at "v"
  refine Op2.mod (by decide) ?_
  rw [e3]
  intro Y
  refine SubW.lst (d := strD (riskyOf word turn)) (by lia) (by lia) ?_ ?_
  · rw [Int.toNat_natCast]
    unfold riskyOf
    have : turn % 3 < 3 := Nat.mod_lt _ (by decide)
    rcases (by lia : turn % 3 = 0 ∨ turn % 3 = 1 ∨ turn % 3 = 2) with e | e | e <;> rw [e]
    · simp [s1]
    · simp [s2]
    · simp
  walk_at "v"
  refine WE.m1 (pl := _) ?_
  walk_at "v"
  refine ⟨_, _, fun Y => GetM.join, ?_⟩
  refine WL.cons (WE.comp [("risky", strD (riskyOf word turn))] ?_)
  have hwr : written word turn = (let text := (word.map (escOf (riskyOf word turn))).flatten; if turn % 3 = 0 then [blankOf turn, 34] ++ text ++ [34] else text ++ [blankOf turn]) := rfl
  have hesc : ∀ c, (escOf (riskyOf word turn) c).length ≤ 2 := fun c => by unfold escOf; split <;> simp
  generalize riskyOf word turn = risky at *
  walk_at "v"
  have hsl : (strItems (mk word)) = word.map sgn := by simp [strItems]
  refine ⟨_, (word.map fun c => some (strD (escOf risky c))), fun Y => IterOf.str, ?_, ?_, fun L cs i x hx => ?_, ?_⟩
  · rw [hsl, List.length_map]; lia
  · rw [hsl, List.length_map, List.length_map]
  · rw [hsl] at hx
    obtain ⟨c, hc, rfl⟩ : ∃ c, word[i]? = some c ∧ x = sgn c := by
      rw [List.getElem?_map] at hx
      cases hg : word[i]? with
      | none => rw [hg] at hx; cases hx
      | some g => rw [hg] at hx; cases hx; exact ⟨g, rfl, rfl⟩
    have hout : (word.map fun c => some (strD (escOf risky c)))[i]? = some (some (strD (escOf risky c))) := by rw [List.getElem?_map, hc]; rfl
    walk_at "v"
    refine ⟨⟨rfl, trivial⟩, ?_⟩
    walk_at "v"
    refine ⟨fun _ => ?_, fun hx => by cases hx⟩
    walk_at "v"
    refine Op2.ins ?_
    rw [in_one]
    walk_at "v"
    refine ⟨fun hb => ?_, fun hb => ?_⟩
    · walk_at "v"
      have hbs : ("\\" : Str).length = 1 := by decide +kernel
      refine Op2.adds ?_ (by rw [hbs]; show 1 + 1 ≤ _; decide)
      refine ⟨?_, rfl⟩
      have hb' : c ∈ risky := by simpa using hb
      rw [hout]; unfold escOf; rw [if_pos hb']
      congr 3
    · walk_at "v"
      refine ⟨?_, rfl⟩
      have hb' : c ∉ risky := by simpa using hb
      rw [hout]; unfold escOf; rw [if_neg hb']
  · show WL C led _ _ _ _ _
    have hlist : (word.map fun c => some (strD (escOf risky c))) = ((((word.map (escOf risky)).map mk).map D.str).map some) := by simp [List.map_map, Function.comp_def]
    rw [hlist, filterMap_some]
    generalize htx : (word.map (escOf risky)) = ls at *
    have hlen : ls.flatten.length ≤ 2000 := by
      subst htx
      have : ∀ w : List Nat, (w.map (escOf risky)).flatten.length ≤ 2 * w.length := by
        intro w
        induction w with
        | nil => simp
        | cons c r ih => rw [List.map_cons, List.flatten_cons, List.length_append, List.length_cons]; have := hesc c; lia
      have := this word; lia
    walk_at "v"
    refine CallW.join (joinOk_mk ls (by lia)) ?_
    rw [join_mk]
    generalize ls.flatten = tx at *
    have mkl : ∀ l : List Nat, (mk l).length = l.length := fun l => by show l.toArray.size = _; simp
    have mka : ∀ a b : List Nat, mk a ++ mk b = mk (a ++ b) := fun a b => by show (⟨a.toArray ++ b.toArray⟩ : Str) = ⟨(a ++ b).toArray⟩; simp
    have hws : ("\n\t\r " : Str) = mk [10, 9, 13, 32] := by decide +kernel
    have hqt : ("\"" : Str) = mk [34] := by decide +kernel
    walk_at "v"
    refine Op2.mod (by decide) ?_
    rw [e4]
    intro Y
    rw [hws]
    refine SubW.str (c := blankOf turn) (by lia) (by lia) ?_ ?_
    · rw [Int.toNat_natCast]
      unfold blankOf
      rcases (by lia : turn % 4 = 0 ∨ turn % 4 = 1 ∨ turn % 4 = 2 ∨ turn % 4 = 3) with e | e | e | e <;> rw [e] <;> rfl
    show WU C _ _ _ _ _ (.str (mk [blankOf turn])) _
    walk_at "v"
    refine Op2.mod (by decide) ?_
    rw [e3]
    walk_at "v"
    refine ⟨fun hb => ?_, fun hb => ?_⟩
    · have h0 : turn % 3 = 0 := by simp only [beq_iff_eq] at hb; lia
      rw [hqt]
      walk_at "v"
      refine Op2.adds ?_ (by rw [mkl, mkl]; simp)
      rw [mka]
      walk_at "v"
      refine Op2.adds ?_ (by rw [mkl, mkl]; simp; lia)
      rw [mka]
      walk_at "v"
      refine Op2.adds ?_ (by rw [mkl, mkl]; simp; lia)
      rw [mka]
      rw [hwr] at hq
      simp only [h0, if_true] at hq
      exact hq
    · have h0 : ¬ turn % 3 = 0 := by simp only [beq_eq_false_iff_ne] at hb; lia
      walk_at "v"
      refine Op2.adds ?_ (by rw [mkl, mkl]; simp; lia)
      rw [mka]
      rw [hwr] at hq
      simp only [h0, if_false] at hq
      exact hq
set_option tactic.hygienic false
noncomputable def toldStop (rounds : Int) (at_ : Int) (n : Nat) : Bool := decide (rounds < at_) || decide (rounds < (n : Int))
/-- the last size told again and again -/
noncomputable def repT (rounds l : Int) : Nat → Int → List Int → List Int
  | 0, _, told => told
  | f + 1, at_, told => if toldStop rounds (at_ + l) (told.length + 1) then told ++ [l] else repT rounds l f (at_ + l) (told ++ [l])
/-- what _law_told tells; none: refused -/
noncomputable def goT (rounds : Int) : List Int → Option Int → Int → List Int → Option (List Int)
  | [], _, _, told => some told
  | x :: r, last, at_, told =>
    if x = 127 then some told
    else if x = 0 then match last with
      | none => none
      | some l => some (repT rounds l (rounds.toNat + 1 - told.length) at_ told)
    else if toldStop rounds (at_ + x) (told.length + 1) then some (told ++ [x]) else goT rounds r (some x) (at_ + x) (told ++ [x])
noncomputable def resT (o : Option (List Int)) : List D := match o with
  | some l => l.map .int
  | none => [.str refused]
noncomputable abbrev tV (row : List Int) (rounds : Int) (t : Addr) (at_ : Int) : Vars := [("row", .lst (row.map .int)), ("rounds", .int rounds), ("told", .ref t), ("at", .int at_)]
noncomputable def toldB : List Stmt := bodyS (top2 22)
noncomputable def toldFor : Stmt := nthS 0 (bodyS (nthS 1 toldB))
theorem told_body {C : Cx} {k : Nat} {led2 : Led} {row : List Int} {rounds at_ j : Int} {t f L : Addr} {told : List Int} {cs : List (Str × Addr)} {q : Str} {code : Value} {Qf : Fl → Vars → Led → Prop} {JJ : Vars → Led → Prop} {name name' : Str} {args : Arguments} {scope : Scope} {fbody body : List Stmt} {pos0 pos : Pos} {target iter : Expr}
    (N : NoG C) (hst : top2 22 = .FunctionDef name args fbody [] none [] scope none name' pos0) (hfor : toldFor = .For target iter body [] pos) (ht : led2 t = some (.list (told.map .int))) (hl : told.length ≤ 1000)
    (hstop : toldStop rounds (at_ + j) (told.length + 1) = true → Qf .next [("told", .ref t)] (upd led2 t (.list ((told ++ [j]).map .int))))
    (hgo : toldStop rounds (at_ + j) (told.length + 1) = false → JJ (tV row rounds t (at_ + j)) (upd led2 t (.list ((told ++ [j]).map .int)))) :
    GiBody C (fnFe scope L cs q f code) (k + 5) target body Qf j (tV row rounds t at_) led2 JJ := by
  have hfor' : (match toldB.getD 1 (.Pass ⟨0, 0, 0, 0⟩) with | .Try b _ _ _ _ => b | _ => []).getD 0 (.Pass ⟨0, 0, 0, 0⟩) = .For target iter body [] pos := hfor
  cases hst; cases hfor'
  unfold GiBody
  walk_at "v"
  refine WE.m1 (pl := _) ?_
  walk_at "v"
  refine ⟨_, _, fun Y => GetM.append ht, ?_⟩
  walk_at "v"
  refine CallW.append ht (by rw [List.length_map]; lia) ?_
  refine ⟨rfl, ?_⟩
  rw [show told.map D.int ++ [D.int j] = (told ++ [j]).map D.int by simp]
  have ht2 : upd led2 t (.list ((told ++ [j]).map .int)) t = some (.list ((told ++ [j]).map .int)) := upd_same ..
  generalize upd led2 t (.list ((told ++ [j]).map .int)) = led3 at *
  walk_at "v"
  unfold toldStop at hstop hgo
  refine ⟨fun hb => ?_, fun hb => ?_⟩
  · walk_at "v"
    refine WE.callY ?_
    walk_at "v"
    refine CallW.len_ref ht2 (by rw [List.length_map, List.length_append]; simp; lia) ?_
    rw [List.length_map, List.length_append, List.length_singleton]
    walk_at "v"
    refine ⟨fun hb2 => ?_, fun hb2 => ?_⟩
    · walk_at "v"
      refine ⟨fun hc => (by cases hc), fun _ => ?_⟩
      walk_at "v"
      exact ⟨tV row rounds t (at_ + j), ⟨rfl, rfl, rfl, rfl, trivial⟩, rfl, hgo (by rw [hb, hb2]; rfl)⟩
    · walk_at "v"
      refine ⟨fun _ => ?_, fun hc => by cases hc⟩
      walk_at "v"
      exact ⟨[("told", .ref t)], ⟨rfl, trivial⟩, rfl, hstop (by rw [hb2, Bool.or_true])⟩
  · walk_at "v"
    refine ⟨fun _ => ?_, fun hc => by cases hc⟩
    walk_at "v"
    exact ⟨[("told", .ref t)], ⟨rfl, trivial⟩, rfl, hstop (by rw [hb]; rfl)⟩
theorem suite_str {C : Cx} {fe : Fe} {vs : Vars} {fz : Fz} {led F X : Led} {G : Array GenState} {A' : Around} {s : Shared} {e : Addr} {n : Str} {np sp cp lp rp : Pos} {Qs : Fl → Vars → Led → Prop} (hN : C.mg "str" = none) (hks : fe.env.kindOf "str" = some .globalImplicit) (hkn : fe.env.kindOf n = some .local) (hdb : (n == ("__debug__" : Str)) = false)
    (hu : A'.units + 2 < cLine) (hF : FOk fe (vset vs n (.ref e)) F X) (S : St C fz led (Un F X) G s) (hsay : Says C e refused s) (hq : ∀ a, led a = none → Qs (.ret (.ref a)) [] (upd led a (.list [.str refused])))
    (he1 : starEach [.Call (.Name "str" sp) [.Name n np] [] cp] fe.env = (false, eval (.Call (.Name "str" sp) [.Name n np] [] cp) fe.env) :: starEach [] fe.env) (he2 : starEach [.Name n np] fe.env = (false, eval (.Name n np) fe.env) :: starEach [] fe.env) :
    wpAny (model C.prog C.w) A' (execs [.Return (some (.List [.Call (.Name "str" sp) [.Name n np] [] cp] lp)) rp] fe.env) (fun f s4 => ∃ fz4 G4 d led4 v, f = .ret v ∧ FzLe fz fz4 ∧ GExt G G4 ∧ Den fz4 v d ∧ St C fz4 led4 (Un F X) G4 s4 ∧ Qs (.ret d) [] led4) No s := by
  have hbb : C.mb "str" = some (.type "str") := (C.bb "str" (by decide)).trans (by decide +kernel)
  refine wpAny_execs_cons (wpAny_Return_some (wpAny_List (wpAny_items_cons ?_ he1)))
  refine wpAny_Call_ofName ?_
  refine Calls.Name_function_global hF.fn hks (Calls.loadGlobal_builtin (by rw [hF.glob]; exact S.glob) hN (by rw [hF.blt]; exact S.blt) hbb ?_) (by with_unfolding_all rfl)
  refine callWith_excType (by rw [he2]; with_unfolding_all rfl) (evalArgs_any (by rw [he2]; with_unfolding_all rfl) (wpAny_items_cons ?_ he2))
  obtain ⟨m, hm, hm2⟩ := hF.loc
  obtain ⟨mv, hn, ho⟩ := S.at (Un_left hm)
  obtain ⟨v, hv, hden⟩ := ho n _ (hm2 n (.ref e) (by rw [vset_lookup, if_pos rfl]) hkn)
  cases hden
  refine wpAny_Name (wpAny_loadName_local hF.fn hkn hn hv ?_) hdb
  refine wpAny_items_nil ?_
  refine hsay A' _ _ s (fun _ _ h => h) hu fun tk => wpAny_items_nil ⟨by show 1 ≤ sizeLine; decide, ?_⟩
  have ha := get_size s.heap (Nat.le_refl _)
  exact ⟨fz, G, .ref _, _, _, rfl, .refl _, .refl _, .ref _, S.newL ha (m := .list [.str refused]) s.toks (fun b o e => Heap.get?_push_of_some _ e) ⟨[.str refused tk], 0, Heap.get?_push_size _ rfl, .cons (.str ..) .nil⟩, hq _ (S.fresh ha).1⟩
noncomputable def PNf (H : Prop) (row : List Int) (led2 : Led) (I : Addr) (p : Nat) : Option D → Led → Prop := fun o led' => H ∧ match o with
  | some d => ∃ x, row[p]? = some x ∧ d = .int x ∧ led' = upd led2 I (.lit (p + 1) (row.map .int))
  | none => row[p]? = none ∧ led' = del led2 I
theorem PNf.next {C : Cx} {Y led2 : Led} {k : Nat} {H : Prop} {row : List Int} {I : Addr} {p : Nat} (hH : H) (h : led2 I = some (.lit p (row.map .int))) : NextW C Y led2 k I (PNf H row led2 I p) := by
  refine NextW.lit h (fun d hd => ⟨hH, ?_⟩) fun hn => ⟨hH, ?_⟩
  · rw [List.getElem?_map] at hd
    cases hx : row[p]? with
    | none => rw [hx] at hd; cases hd
    | some x => rw [hx] at hd; cases hd; exact ⟨x, (by first | exact hx | rfl), rfl, rfl⟩
  · rw [List.getElem?_map] at hn
    cases hx : row[p]? with
    | none => exact ⟨(by first | exact hx | rfl), rfl⟩
    | some x => rw [hx] at hn; cases hn
theorem drop_some {row : List Int} {p : Nat} {x : Int} (h : row[p]? = some x) : row.drop p = x :: row.drop (p + 1) := by
  obtain ⟨hp, e⟩ := List.getElem?_eq_some_iff.mp h
  rw [List.drop_eq_getElem_cons hp, e]
theorem drop_none {row : List Int} {p : Nat} (h : row[p]? = none) : row.drop p = [] := List.drop_of_length_le (List.getElem?_eq_none_iff.mp h)
theorem del_ne (T : Led) {a b : Addr} (h : b ≠ a) : del T a b = T b := by unfold del; rw [if_neg h]
/-- where _law_told stands -/
inductive TldJ (row : List Int) (rounds : Int) (t : Addr) (led : Led) (R : Option (List Int)) (n : Nat) (led2 : Led) (I : Addr) : Gi → Vars → Prop
  | run (i : Int) (p : Nat) (at_ : Int) (told : List Int) : Less led led2 → led2 t = some (.list (told.map .int)) → I ≠ t → led I = none → told.length + n = 2000 → (told.length : Int) ≤ rounds → led2 I = some (.lit p (row.map .int)) → goT rounds (row.drop p) (some i) at_ told = R →
      TldJ row rounds t led R n led2 I (.run i) (tV row rounds t at_)
  | rep (i : Int) (at_ : Int) (told : List Int) : Less led led2 → led2 t = some (.list (told.map .int)) → I ≠ t → led I = none → told.length + n = 2000 → (told.length : Int) ≤ rounds → some (repT rounds i (rounds.toNat + 1 - told.length) at_ told) = R →
      TldJ row rounds t led R n led2 I (.rep i) (tV row rounds t at_)
inductive TldQ (t : Addr) (led : Led) (R : Option (List Int)) (vs : Vars) (led2 : Led) : Fl → Prop
  | mk (T : List Int) : Sub [("told", .ref t)] vs → Less led led2 → R = some T → led2 t = some (.list (T.map .int)) → TldQ t led R vs led2 .next
theorem told_le {rounds x : Int} {told : List Int} {j : Int} (hs : toldStop rounds x (told.length + 1) = false) : ((told ++ [j]).length : Int) ≤ rounds := by
  unfold toldStop at hs; simp only [Bool.or_eq_false_iff, decide_eq_false_iff_not] at hs; have := hs.2; simp at this ⊢; lia
set_option maxHeartbeats 4000000 in
theorem told_spec {C : Cx} {Y led : Led} {k : Nat} {f a : Addr} {row : List Int} {rounds : Int} {Q : D → Led → Prop} (E0 : GiEnv C a) (hm : C.mg "_grouping_intervals" = some (.ref a)) (h : GFn C f (top2 22)) (hrow : row.length ≤ 1000) (hr0 : 0 ≤ rounds) (hr : rounds ≤ 900)
    (hq : Q (.lst (resT (goT rounds row none 0 []))) led) : CallW C Y led (k + 30) (.ref f) [.lst (row.map .int), .int rounds] Q := by
  have N := E0.N
  refine CallW.less (CallW.frz ?_)
  refine CallW.gfnT h rfl [("row", .lst (row.map .int)), ("rounds", .int rounds)] rfl rfl fun L cs q code => ?_
  refine WT.cons (WS.t ?_)
  refine WS.assign_swap (names := ["told", "at"]) ?_
  walk_at "v"
  refine WE.listM ?_
  walk_at "v"
  refine ⟨by simp, fun t ht => ?_⟩
  walk_at "v"
  refine ⟨by simp, _, rfl, rfl, ?_⟩
  show WUL C _ _ _ _ [bindName _ "at", bindName _ "told"] [_, _] _
  walk_at "v"
  show WT C _ _ _ _ _ _
  refine WT.sub (vs := tV row rounds t 0) ?_ ⟨rfl, rfl, rfl, rfl, trivial⟩
  refine WT.cons ?_
  intro F X hF hd A fz G s hA ⟨l, hfr⟩ S
  generalize hR : goT rounds row none 0 [] = R at hq
  refine wpAny_Try_except ?_
  refine wpAny_execs_cons (wpAny_mono (for_gi (k := k + 20) (N := 2001) (Q := fun fl vs led2 => TldQ t led R vs led2 fl) (fun st n vs led2 I => TldJ row rounds t led R n led2 I st vs) E0 hm rfl hF hd (hA.mono (by lia)) hfr S ?_ ?_ ?_ rfl (fun _ _ => by with_unfolding_all rfl) (fun _ => by with_unfolding_all rfl) (by with_unfolding_all rfl)) (fun f s1 h1 => ?_) fun _ _ x => x)
  · walk_at "v"
    refine ⟨fun I led2 => upd led t (.list []) I = none ∧ led2 = upd (upd led t (.list [])) I (.lit 0 (row.map .int)), fun Y => IterN.lst fun I hI => ⟨hI, rfl⟩, fun I => PNf (I ≠ t ∧ led I = none) row (upd (upd led t (.list [])) I (.lit 0 (row.map .int))) I 0, ?_, ?_, ?_, ?_, ?_⟩
    · rintro I led2 ⟨hI, rfl⟩ F' _
      exact PNf.next (upd_none hI) (upd_same ..)
    · rintro I d led' ⟨_, x, _, rfl, _⟩; exact ⟨x, rfl⟩
    · rintro I led' (⟨⟨n1, n2⟩, hn, rfl⟩ | ⟨⟨n1, n2⟩, x, hx, hxe, rfl⟩)
      · refine .mk [] ⟨rfl, trivial⟩ ?_ ?_ ?_
        · exact Less.delUpd (((Less.refl led).upd ht _).upd n2 _) n2
        · rw [← hR, ← List.drop_zero (l := row), drop_none hn]; rfl
        · rw [del_ne _ (Ne.symm n1), upd_ne _ _ (Ne.symm n1), upd_same]; rfl
      · cases hxe
        refine .mk [] ⟨rfl, trivial⟩ ?_ ?_ ?_
        · exact (((Less.refl led).upd ht _).upd n2 _).upd n2 _
        · rw [← hR, ← List.drop_zero (l := row), drop_some hx]; rfl
        · rw [upd_ne _ _ (Ne.symm n1), upd_ne _ _ (Ne.symm n1), upd_same]; rfl
    · rintro I led' fz' G' s' e ⟨⟨n1, n2⟩, x, hx, hxe, rfl⟩ l0 g0 S' hh
      cases hxe
      refine catch_ve (k := 0) l0 g0 hF hd S' rfl rfl hh E0.ve rfl fun A' s2 F2 hu hF2 hd2 S2 hsay => ?_
      refine suite_str (N "str" (by decide)) rfl rfl (by decide) ?_ hF2 S2 hsay (fun a ha => ?_) (by with_unfolding_all rfl) (by with_unfolding_all rfl)
      · rw [hu]; have := hA.r.2.2; unfold cLine; lia
      · refine ⟨a, _, rfl, upd_same .., led, ?_, ?_⟩
        · have ha2 := (upd_none (upd_none ha).2).2
          exact Less.delUpd (((((Less.refl led).upd ht _).upd n2 _).upd n2 _).upd (upd_none ha2).2 _) (upd_none ha2).2
        · have : goT rounds row none 0 [] = none := by rw [← List.drop_zero (l := row), drop_some hx]; rfl
          rw [← hR, this] at hq
          exact hq
    · rintro I j led' hj0 hj1 ⟨⟨n1, n2⟩, x, hx, hxe, rfl⟩
      cases hxe
      have hgo : goT rounds row none 0 [] = if toldStop rounds (0 + j) (([] : List Int).length + 1) then some ([] ++ [j]) else goT rounds (row.drop 1) (some j) (0 + j) ([] ++ [j]) := by
        rw [← List.drop_zero (l := row), drop_some hx, goT, if_neg hj1, if_neg hj0]; rfl
      refine ⟨1999, by lia, told_body (k := k + 15) (at_ := 0) (told := []) N rfl rfl (by rw [upd_ne _ _ (Ne.symm n1), upd_ne _ _ (Ne.symm n1), upd_same]; rfl) (by simp) (fun hs => ?_) fun hs => ?_⟩
      · refine .mk [j] ⟨rfl, trivial⟩ ?_ ?_ (upd_same ..)
        · exact ((((Less.refl led).upd ht _).upd n2 _).upd n2 _).upd ht _
        · rw [← hR, hgo, if_pos hs]; rfl
      · refine .run j 1 _ [j] (((((Less.refl led).upd ht _).upd n2 _).upd n2 _).upd ht _) (upd_same ..) n1 n2 rfl (told_le (told := []) hs) ?_ ?_
        · rw [upd_ne _ _ n1, upd_same]
        · rw [← hR, hgo, hs]; rfl
  · intro i n vs2 led2 I F2 hF2 hd2 hJ
    cases hJ with | run _ p at_ told hless htold n1 n2 hn hle hI hgoR =>
    refine ⟨PNf True row led2 I p, fun F' _ => PNf.next trivial hI, ?_, ?_, ?_, ?_⟩
    · rintro d led' ⟨_, x, _, rfl, _⟩; exact ⟨x, rfl⟩
    · rintro led' (⟨_, hn, rfl⟩ | ⟨_, x, hx, hxe, rfl⟩)
      · refine .mk told ⟨rfl, trivial⟩ (Less.delUpd hless n2) ?_ ?_
        · rw [← hgoR, drop_none hn]; rfl
        · rw [del_ne _ (Ne.symm n1)]; exact htold
      · cases hxe
        refine .mk told ⟨rfl, trivial⟩ (hless.upd n2 _) ?_ ?_
        · rw [← hgoR, drop_some hx]; rfl
        · rw [upd_ne _ _ (Ne.symm n1)]; exact htold
    · rintro led' ⟨_, x, hx, hxe, rfl⟩
      cases hxe
      have hfu : rounds.toNat + 1 - told.length = (rounds.toNat - told.length) + 1 := Nat.succ_sub (by lia)
      have hgo : R = some (if toldStop rounds (at_ + i) (told.length + 1) then told ++ [i] else repT rounds i (rounds.toNat - told.length) (at_ + i) (told ++ [i])) := by
        rw [← hgoR, drop_some hx, goT, if_neg (by decide), if_pos rfl, hfu, repT]
      refine ⟨n - 1, by lia, told_body (k := k + 15) N rfl rfl (by rw [upd_ne _ _ (Ne.symm n1)]; exact htold) (by lia) (fun hs => ?_) fun hs => ?_⟩
      · refine .mk (told ++ [i]) ⟨rfl, trivial⟩ ((hless.upd n2 _).upd ht _) ?_ (upd_same ..)
        rw [hgo, if_pos hs]
      · refine .rep i _ (told ++ [i]) ((hless.upd n2 _).upd ht _) (upd_same ..) n1 n2 (by simp; lia) (told_le hs) ?_
        rw [hgo, hs]
        show some (repT _ _ (rounds.toNat + 1 - (told ++ [i]).length) _ _) = _
        congr 2
        simp
    · rintro j led' hj0 hj1 ⟨_, x, hx, hxe, rfl⟩
      cases hxe
      have hgo : R = if toldStop rounds (at_ + j) (told.length + 1) then some (told ++ [j]) else goT rounds (row.drop (p + 1)) (some j) (at_ + j) (told ++ [j]) := by
        rw [← hgoR, drop_some hx, goT, if_neg hj1, if_neg hj0]
      refine ⟨n - 1, by lia, told_body (k := k + 15) N rfl rfl (by rw [upd_ne _ _ (Ne.symm n1)]; exact htold) (by lia) (fun hs => ?_) fun hs => ?_⟩
      · refine .mk (told ++ [j]) ⟨rfl, trivial⟩ ((hless.upd n2 _).upd ht _) ?_ (upd_same ..)
        rw [hgo, if_pos hs]
      · refine .run j (p + 1) _ (told ++ [j]) ((hless.upd n2 _).upd ht _) (upd_same ..) n1 n2 (by simp; lia) (told_le hs) ?_ ?_
        · rw [upd_ne _ _ n1, upd_same]
        · rw [hgo, hs]; rfl
  · intro i n vs2 led2 I hJ
    cases hJ with | rep _ at_ told hless htold n1 n2 hn hle hgoR =>
    have hfu : rounds.toNat + 1 - told.length = (rounds.toNat - told.length) + 1 := Nat.succ_sub (by lia)
    have hgo : R = some (if toldStop rounds (at_ + i) (told.length + 1) then told ++ [i] else repT rounds i (rounds.toNat - told.length) (at_ + i) (told ++ [i])) := by
      rw [← hgoR, hfu, repT]
    refine ⟨n - 1, by lia, told_body (k := k + 15) N rfl rfl htold (by lia) (fun hs => ?_) fun hs => ?_⟩
    · refine .mk (told ++ [i]) ⟨rfl, trivial⟩ (hless.upd ht _) ?_ (upd_same ..)
      rw [hgo, if_pos hs]
    · refine .rep i _ (told ++ [i]) (hless.upd ht _) (upd_same ..) n1 n2 (by simp; lia) (told_le hs) ?_
      rw [hgo, hs]
      show some (repT _ _ (rounds.toNat + 1 - (told ++ [i]).length) _ _) = _
      congr 2
      simp
  · obtain ⟨fz1, G1, F1, vs1, led1, fl, l1, g1, e1, hF1, hd1, S1, ⟨T, hsub, hless, hT, hled⟩⟩ := h1
    cases f with
    | next =>
      refine wpAny_execs_nil (wpAny_execs_nil ⟨fz1, G1, F1, vs1, led1, .next, l1, g1, trivial, hF1, hd1, S1, ?_⟩)
      refine WS.t (WS.sub (vs := [("told", .ref t)]) ?_ hsub)
      walk_at "v"
      refine ⟨t, _, rfl, hled, led, Less.delUpd hless ht, ?_⟩
      rw [hT] at hq; exact hq
    | _ => exact e1.elim
set_option tactic.hygienic false
theorem mk_len (l : List Nat) : (mk l).length = l.length := by show l.toArray.size = _; simp
theorem pick_ab (l : List Nat) (a b : Nat) (hb : b ≤ l.length) : ((sliceRange a b 1).filterMap (l.toArray[·]?)) = (l.drop a).take (b - a) := by
  rw [sliceRange_one, List.filterMap_map]
  have key : ∀ n a, a + n ≤ l.length → (List.range n).filterMap ((fun x => l.toArray[x]?) ∘ (a + ·)) = (l.drop a).take n := by
    intro n
    induction n with
    | zero => intro a _; simp
    | succ n ih =>
      intro a h
      rw [List.range_succ, List.filterMap_append, ih a (by lia), List.take_add_one]
      congr 1
      simp only [List.filterMap_cons, Function.comp_apply, List.getElem?_toArray, List.filterMap_nil, List.getElem?_drop]
      cases l[a + n]? <;> rfl
  by_cases h : a ≤ b
  · exact key _ _ (by lia)
  · have : b - a = 0 := by lia
    rw [this]; simp
theorem slice_ab {l : List Nat} {lo hi : Option Int} (a b : Nat) (hb : b ≤ l.length) (e : Builtin.Str.strSliceIndices lo hi 1 l.length = sliceRange a b 1) : Txt.slice (mk l) lo hi = mk ((l.drop a).take (b - a)) := by
  unfold Txt.slice
  rw [mk_len, e]
  have hp := pick_ab l a b hb
  have hl : (sliceRange a b 1).length = b - a := by rw [sliceRange_one]; simp
  split
  · rename_i h
    simp only [beq_self_eq_true, Bool.true_and, beq_iff_eq] at h
    rw [hl] at h
    have h1 : b - a = l.length := h
    by_cases hn : l.length = 0
    · have := List.length_eq_zero_iff.mp hn
      subst this; simp
    · have ha : a = 0 := by lia
      subst ha
      rw [h1, List.drop_zero, List.take_length]
  · show (⟨_⟩ : Str) = ⟨_⟩
    rw [show (mk l).cps = l.toArray from rfl, hp]
theorem slice_from (l : List Nat) (a : Nat) : Txt.slice (mk l) (some (a : Int)) none = mk (l.drop a) := by
  rw [slice_ab (min a l.length) l.length (Nat.le_refl _)]
  · by_cases h : a ≤ l.length
    · rw [Nat.min_eq_left h, List.take_of_length_le (by rw [List.length_drop]; lia)]
    · rw [Nat.min_eq_right (by lia), List.drop_length, List.drop_of_length_le (by lia)]; simp
  · unfold Builtin.Str.strSliceIndices
    simp only [show (1 : Int) > 0 by decide, if_true]
    congr 1
    rw [if_neg (by lia)]
    lia
theorem slice_upto (l : List Nat) (b : Nat) : Txt.slice (mk l) none (some (b : Int)) = mk (l.take b) := by
  rw [slice_ab 0 (min b l.length) (Nat.min_le_right ..)]
  · rw [List.drop_zero, Nat.sub_zero]
    by_cases h : b ≤ l.length
    · rw [Nat.min_eq_left h]
    · rw [Nat.min_eq_right (by lia), List.take_length, List.take_of_length_le (by lia)]
  · unfold Builtin.Str.strSliceIndices
    simp only [show (1 : Int) > 0 by decide, if_true]
    congr 1
    rw [if_neg (by lia)]
    lia
theorem slice_butlast (l : List Nat) : Txt.slice (mk l) none (some (-1)) = mk l.dropLast := by
  rw [slice_ab 0 (l.length - 1) (Nat.sub_le ..)]
  · rw [List.drop_zero, Nat.sub_zero, List.dropLast_eq_take]
  · unfold Builtin.Str.strSliceIndices
    simp only [show (1 : Int) > 0 by decide, if_true]
    congr 1
    rw [if_pos (by decide)]
    cases l with
    | nil => rfl
    | cons a r => rw [List.length_cons, show (-1 + ((r.length + 1 : Nat) : Int)) = (r.length : Int) by lia, Int.min_eq_left (by lia), Int.max_eq_right (Int.natCast_nonneg _)]; rfl
/-- what a slice of ints picks -/
noncomputable def pickI (ns : List Int) (lo hi st : Option Int) : List Int :=
  (sliceRange (sliceBounds lo hi st ns.length).1 (sliceBounds lo hi st ns.length).2.1 (sliceBounds lo hi st ns.length).2.2).filterMap (ns[·]?)
theorem pickD_int (ns : List Int) (lo hi st : Option Int) : pickD (ns.map .int) lo hi st = (pickI ns lo hi st).map .int := by
  unfold pickD pickI
  rw [List.length_map, List.map_filterMap]
  congr 1
  funext i
  rw [List.getElem?_map]
theorem pickI_len (ns : List Int) (k : Nat) : (pickI ns (some (k : Int)) none (some 4)).length ≤ ns.length := by
  refine Nat.le_trans (List.length_filterMap_le ..) (sliceRange_length_le _ _ _ _ (fun _ => ⟨?_, ?_⟩) fun h => absurd (show (4 : Int) > 0 by decide) h)
  · show 0 ≤ (sliceBounds _ _ _ _).1
    unfold sliceBounds
    simp only [Option.getD_some, show (4 : Int) > 0 by decide, if_true]
    rw [if_neg (by lia)]
    lia
  · show (sliceBounds _ _ _ _).2.1 ≤ _
    unfold sliceBounds
    simp only [Option.getD_some, show (4 : Int) > 0 by decide, if_true]
    lia
set_option tactic.hygienic false
noncomputable def lawB : List Stmt := bodyS (top2 24)
noncomputable def lawS (n : Nat) : Stmt := lawB.getD n (.Pass ⟨0, 0, 0, 0⟩)
noncomputable def lawScope : Scope := scopeS (top2 24)
noncomputable abbrev lawFe (f : Addr) (z : GiZ) : Fe := fnFe lawScope z.L z.cs z.q f z.code
theorem WS.stmt {C : Cx} {led : Led} {fe : Fe} {vs : Vars} {k : Nat} {Q : Fl → Vars → Led → Prop} {st st' : Stmt} (e : st = st') (h : WS C led fe vs k (exec st' fe.env) Q) : WS C led fe vs k (exec st fe.env) Q := by
  rw [e]; exact h
theorem sumOk_small {ns : List Int} (h : ∀ n ∈ ns, 0 ≤ n ∧ n ≤ 1000000) (hl : ns.length ≤ 100000) : SumOk ns := by
  have key : ∀ (l : List Int), (∀ n ∈ l, 0 ≤ n ∧ n ≤ 1000000) → 0 ≤ l.sum ∧ l.sum ≤ 1000000 * (l.length : Int) := by
    intro l
    induction l with
    | nil => intro _; simp
    | cons a l ih =>
      intro h
      have h1 := ih fun n hn => h n (List.mem_cons_of_mem _ hn)
      have h2 := h a List.mem_cons_self
      rw [List.sum_cons, List.length_cons]
      lia
  refine ⟨fun n hn => ?_, fun j hj => ?_⟩
  · have := h n hn; constructor <;> lia
  · have h1 := key (ns.take j) fun n hn => h n (List.mem_of_mem_take hn)
    have h2 : (ns.take j).length ≤ 100000 := by rw [List.length_take]; lia
    constructor <;> lia
noncomputable def starts : List Int := [4, 1265, 1, 701]
noncomputable def modsI (xs : List Int) (i : Nat) : List Int := (pickI xs (some (i : Int)) none (some 4)).map (fun x => x.fmod (10 ^ 6))
theorem modsI_ok (xs : List Int) (hx : xs.length ≤ 1000) (i : Nat) : SumOk (modsI xs i) ∧ 0 ≤ (modsI xs i).sum := by
  have h : ∀ n ∈ modsI xs i, 0 ≤ n ∧ n ≤ 1000000 := fun n hn => by
    obtain ⟨x, _, rfl⟩ := List.mem_map.mp hn
    have h1 := Int.fmod_nonneg_of_pos x (b := 10 ^ 6) (by decide)
    have h2 := Int.fmod_lt_of_pos x (b := 10 ^ 6) (by decide)
    constructor <;> lia
  refine ⟨sumOk_small h ?_, ?_⟩
  · unfold modsI; rw [List.length_map]; have := pickI_len xs i; lia
  · generalize modsI xs i = l at *
    induction l with
    | nil => simp
    | cons a l ih => rw [List.sum_cons]; have := h a List.mem_cons_self; have := ih fun n hn => h n (List.mem_cons_of_mem _ hn); lia
theorem law0 {C : Cx} {led : Led} {k : Nat} {xs : List Int} {f : Addr} {z : GiZ} {Q : Fl → Vars → Led → Prop}
    (N : NoG C) (hx : xs.length ≤ 1000)
    (hq : ∀ h0 h1 h2 h3 : Nat, Q .next [("heaps", nats [h0, h1, h2, h3]), ("script", .lst (xs.map .int))] led) :
    WS C led (lawFe f z) [("script", .lst (xs.map .int))] (k + 5) (exec (lawS 0) (lawFe f z).env) Q := by
  refine WS.stmt (st' := .Assign _ _ _) rfl ?_
  walk_at "v"
  refine WE.compT [("script", .lst (xs.map .int))] ?_
  refine WE.callY ?_
  walk_at "v"
  refine WE.list ?_
  walk_at "v"
  refine ⟨by simp, ?_⟩
  walk_at "v"
  refine CallW.enumerate fun e it hne he hit => ?_
  have hitems : enumItems [D.int 4, D.int 1265, D.int 1, D.int 701] = (List.range 4).map fun (i : Nat) => .tup [.int (i : Int), .int (starts.getD i 0)] := by rfl
  refine ⟨_, (List.range 4).map fun (i : Nat) => some (.int (starts.getD i 0 + (modsI xs i).sum)), fun Y => IterOfT.enum (upd_same ..) (by rw [upd_ne _ _ hne.symm, upd_same]) hne, by rw [hitems]; simp, by rw [hitems]; simp, fun L cs i x hx2 => ?_, ?_⟩
  · rw [hitems, List.getElem?_map] at hx2
    have hi : i < 4 := by
      rcases Nat.lt_or_ge i 4 with z | z
      · exact z
      · rw [List.getElem?_eq_none (by simpa using z)] at hx2; cases hx2
    rw [List.getElem?_range hi] at hx2
    cases hx2
    have hout : ((List.range 4).map fun (i : Nat) => some (D.int (starts.getD i 0 + (modsI xs i).sum)))[i]? = some (some (.int (starts.getD i 0 + (modsI xs i).sum))) := by rw [List.getElem?_map, List.getElem?_range hi]; rfl
    generalize itl (upd (upd led it (.lit 0 [D.int 4, D.int 1265, D.int 1, D.int 701])) e (.raw (enumObj it))) (.itr e [it] (enumItems [D.int 4, D.int 1265, D.int 1, D.int 701])) = led2
    walk_at "v"
    refine ⟨⟨rfl, trivial⟩, ?_⟩
    walk_at "v"
    refine ⟨fun _ => ?_, fun hc => by cases hc⟩
    walk_at "v"
    refine WE.callY ?_
    walk_at "v"
    refine WE.comp [] ?_
    walk_at "v"
    refine SliceW.lst (lo := some (i : Int)) (hi := none) (st := some 4) (by decide) (by rw [List.length_map]; lia) ?_
    rw [pickD_int]
    have hl := pickI_len xs i
    refine ⟨_, ((modsI xs i).map .int).map some, fun Y => IterOf.lst, ?_, ?_, fun L cs j x hx3 => ?_, ?_⟩
    · rw [List.length_map]; lia
    · rw [List.length_map, List.length_map, List.length_map]; unfold modsI; rw [List.length_map]
    · rw [List.getElem?_map] at hx3
      cases hg : (pickI xs (some (i : Int)) none (some 4))[j]? with
      | none => rw [hg] at hx3; cases hx3
      | some y =>
        rw [hg] at hx3; cases hx3
        walk_at "v"
        refine ⟨trivial, ?_⟩
        walk_at "v"
        refine ⟨fun _ => ?_, fun hc => by cases hc⟩
        walk_at "v"
        refine Op2.pow (by decide) (by decide) (by decide) ?_
        walk_at "v"
        refine Op2.mod (by decide) ?_
        refine ⟨?_, rfl⟩
        unfold modsI
        rw [List.getElem?_map, List.getElem?_map, List.getElem?_map, hg]; rfl
    · rw [filterMap_some]
      walk_at "v"
      refine CallW.sum (modsI_ok xs hx i).1 ?_
      walk_at "v"
      exact ⟨hout, rfl⟩
  · have hn : ∀ i, ∃ n : Nat, starts.getD i 0 + (modsI xs i).sum = (n : Int) := fun i => by
      have h1 := (modsI_ok xs hx i).2
      have h2 : 0 ≤ starts.getD i 0 := by
        unfold starts
        rcases i with _ | _ | _ | _ | i <;> simp
      exact ⟨_, (Int.toNat_of_nonneg (by lia)).symm⟩
    obtain ⟨h0, e0⟩ := hn 0
    obtain ⟨h1, e1⟩ := hn 1
    obtain ⟨h2, e2⟩ := hn 2
    obtain ⟨h3, e3⟩ := hn 3
    have hl : ((List.range 4).map fun (i : Nat) => some (D.int (starts.getD i 0 + (modsI xs i).sum))) = [some (natD h0), some (natD h1), some (natD h2), some (natD h3)] := by
      show [some (D.int _), some (D.int _), some (D.int _), some (D.int _)] = _
      rw [e0, e1, e2, e3]
    rw [hl]
    have hit2 : itl (upd (upd led it (.lit 0 [D.int 4, D.int 1265, D.int 1, D.int 701])) e (.raw (enumObj it))) (.itr e [it] (enumItems [D.int 4, D.int 1265, D.int 1, D.int 701])) = led := by
      show del (del (upd (upd led it _) e _) e) it = led
      rw [del_upd _ _ _ (by rw [upd_ne _ _ hne]; exact he), del_upd _ _ _ hit]
    rw [hit2]
    walk_at "v"
    exact hq h0 h1 h2 h3
set_option tactic.hygienic false
noncomputable def seqN {α : Type} (m : Nat) (f : Nat → α) : α := Nat.rec (f 0) (fun n _ => f (Nat.succ n)) m
theorem seqN_eq {α : Type} (m : Nat) (f : Nat → α) : seqN m f = f m := by cases m <;> rfl
noncomputable def aftL : List Nat → Nat → Nat
  | [], _ => 0
  | r :: rs, m => Nat.lor (Nat.mul (Nat.mod m 2) r) (aftL rs (Nat.div m 2))
noncomputable def runL (rows : List Nat) (k : Nat → Bool) : Nat → Nat → Bool
  | 0, m => k m
  | f + 1, m => seqN (aftL rows m) fun m' => runL rows k f m'
/-- the places that agree with n by d -/
noncomputable def clsM (n d : Nat) : Nat → Nat
  | 0 => 0
  | k + 1 => Nat.lor (clsM n d k) (bif Nat.beq (Nat.mod k d) (Nat.mod n d) then Nat.pow 2 k else 0)
noncomputable def allG (xs : List Nat) (ring n0 : Nat) : Nat → List Nat → Nat → Bool
  | 0, rows, d => seqN (clsM n0 d ring) fun c => runL rows (fun m => Nat.beq (Nat.land m c) c) n0 1
  | k + 1, rows, d => xs.all fun x => seqN (Nat.lor (Nat.pow 2 (Nat.mod (k + 1) ring)) (Nat.pow 2 x)) fun r => seqN (Nat.gcd d (x + ring - (k + 1))) fun d' => allG xs ring n0 k (r :: rows) d'
theorem chk3 : allG [0, 1, 2] 3 5 3 [] 3 = true := by decide +kernel
theorem chk4 : allG [0, 1, 2, 3] 4 10 4 [] 4 = true := by decide +kernel
theorem chk5 : allG [0, 1, 2, 3, 4] 5 17 5 [] 5 = true := by decide +kernel
set_option tactic.hygienic false
theorem bit_add (a m : Nat) (h : m.testBit a = false) (j : Nat) : (2 ^ a + m).testBit j = (decide (j = a) || m.testBit j) := by
  rcases Nat.lt_trichotomy j a with hj | hj | hj
  · rw [Nat.testBit_two_pow_add_gt hj, decide_eq_false (by lia), Bool.false_or]
  · subst hj
    rw [Nat.testBit_two_pow_add_eq, h]; simp
  · rw [decide_eq_false (by lia), Bool.false_or]
    have hr : m % 2 ^ (a + 1) < 2 ^ a := by
      rw [Nat.testBit_eq_decide_div_mod_eq] at h
      have h2 : m / 2 ^ a % 2 = 0 := by
        have := Nat.mod_two_eq_zero_or_one (m / 2 ^ a)
        rcases this with q | q
        · exact q
        · rw [q] at h; simp at h
      have e1 := Nat.mod_pow_succ (x := m) (b := 2) (k := a)
      rw [h2, Nat.mul_zero, Nat.add_zero] at e1
      rw [e1]; exact Nat.mod_lt _ (Nat.pow_pos (by decide))
    have em := Nat.div_add_mod m (2 ^ (a + 1))
    have hp : 2 ^ (a + 1) = 2 ^ a + 2 ^ a := by rw [Nat.pow_succ]; lia
    have e1 : 2 ^ a + m = 2 ^ (a + 1) * (m / 2 ^ (a + 1)) + (2 ^ a + m % 2 ^ (a + 1)) := by lia
    have t1 := Nat.testBit_two_pow_mul_add (m / 2 ^ (a + 1)) (b := 2 ^ a + m % 2 ^ (a + 1)) (i := a + 1) (by lia) j
    have t2 := Nat.testBit_two_pow_mul_add (m / 2 ^ (a + 1)) (b := m % 2 ^ (a + 1)) (i := a + 1) (by lia) j
    rw [← e1] at t1
    rw [em] at t2
    rw [t1, t2, if_neg (by lia), if_neg (by lia)]
noncomputable def maskN (l : List Nat) : Nat := (l.map (2 ^ ·)).sum
theorem maskN_bit : ∀ (l : List Nat), l.Nodup → ∀ j, (maskN l).testBit j = decide (j ∈ l)
  | [], _, j => by simp [maskN]
  | a :: l, h, j => by
    obtain ⟨h1, h2⟩ := List.nodup_cons.mp h
    have ih := maskN_bit l h2
    show (2 ^ a + maskN l).testBit j = _
    rw [bit_add a _ (by rw [ih a]; simp [h1]), ih j]
    simp [Bool.decide_or]
/-- a mask's step, by bits -/
theorem after_bit (rows : List Nat) (m j : Nat) : (after rows m).testBit j = true ↔ ∃ k, k < rows.length ∧ m.testBit k = true ∧ (rows.getD k 0).testBit j = true := by
  have key : ∀ n, n ≤ rows.length → ((afterN rows m n).testBit j = true ↔ ∃ k, k < n ∧ m.testBit k = true ∧ (rows.getD k 0).testBit j = true) := by
    intro n
    induction n with
    | zero => intro _; unfold afterN; simp
    | succ n ih =>
      intro hn
      have ih := ih (by lia)
      rw [afterN_succ]
      have hb : (m / 2 ^ n % 2 == 1) = m.testBit n := by rw [Nat.testBit_eq_decide_div_mod_eq]; by_cases q : m / 2 ^ n % 2 = 1 <;> simp [q]
      rw [hb]
      cases ht : m.testBit n with
      | true =>
        rw [if_pos rfl, Nat.testBit_or, Bool.or_eq_true, ih]
        constructor
        · rintro (⟨k, a, b, c⟩ | q)
          · exact ⟨k, by lia, b, c⟩
          · exact ⟨n, by lia, ht, q⟩
        · rintro ⟨k, a, b, c⟩
          by_cases hk : k = n
          · subst hk; exact .inr c
          · exact .inl ⟨k, by lia, b, c⟩
      | false =>
        rw [if_neg (by decide), ih]
        constructor
        · rintro ⟨k, a, b, c⟩; exact ⟨k, by lia, b, c⟩
        · rintro ⟨k, a, b, c⟩
          by_cases hk : k = n
          · subst hk; rw [ht] at b; cases b
          · exact ⟨k, by lia, b, c⟩
  exact key _ (Nat.le_refl _)
theorem after_comp (p : List Nat) (x : Nat) : after (p.map (after p)) x = after p (after p x) := by
  apply Nat.eq_of_testBit_eq
  intro j
  rw [Bool.eq_iff_iff, after_bit, after_bit]
  rw [List.length_map]
  constructor
  · rintro ⟨k, hk, hx, hb⟩
    rw [List.getD_eq_getElem?_getD, List.getElem?_map, List.getElem?_eq_getElem hk] at hb
    obtain ⟨i, hi, h1, h2⟩ := (after_bit p _ j).mp hb
    refine ⟨i, hi, (after_bit p x i).mpr ⟨k, hk, hx, ?_⟩, h2⟩
    rw [List.getD_eq_getElem?_getD, List.getElem?_eq_getElem hk]; exact h1
  · rintro ⟨i, hi, h1, h2⟩
    obtain ⟨k, hk, hx, h3⟩ := (after_bit p x i).mp h1
    refine ⟨k, hk, hx, ?_⟩
    rw [List.getD_eq_getElem?_getD, List.getElem?_map, List.getElem?_eq_getElem hk]
    rw [List.getD_eq_getElem?_getD, List.getElem?_eq_getElem hk] at h3
    exact (after_bit p _ j).mpr ⟨i, hi, h3, h2⟩
noncomputable def iterA (p : List Nat) : Nat → Nat → Nat
  | 0, t => t
  | n + 1, t => after p (iterA p n t)
theorem itA_iter (rows : List Nat) : ∀ n, itA rows n = iterA rows n 1
  | 0 => rfl
  | n + 1 => by show after rows (itA rows n) = after rows (iterA rows n 1); rw [itA_iter rows n]
theorem iterA_add (p : List Nat) (t : Nat) : ∀ a b, iterA p (a + b) t = iterA p a (iterA p b t)
  | 0, b => by rw [Nat.zero_add]; rfl
  | a + 1, b => by rw [Nat.succ_add]; show after p _ = after p _; rw [iterA_add p t a b]
theorem iterA_sq (p : List Nat) (t : Nat) : ∀ n, iterA (p.map (after p)) n t = iterA p (2 * n) t
  | 0 => rfl
  | n + 1 => by
    show after _ _ = _
    rw [iterA_sq p t n, after_comp]
    rfl
theorem far_iter : ∀ (n t : Nat) (p : List Nat), far n t p = iterA p n t := by
  intro n
  induction n using Nat.strongRecOn with
  | _ n ih =>
    intro t p
    by_cases h : n = 0
    · subst h; rw [far_zero]; rfl
    · rw [far_step h, ih _ (by lia), iterA_sq]
      by_cases h1 : n % 2 = 1
      · rw [if_pos h1]
        show iterA p _ (iterA p 1 t) = _
        rw [← iterA_add]; congr 1; lia
      · rw [if_neg h1]; congr 1; lia
set_option tactic.hygienic false
/-! the finite check, told by bits -/
theorem aftL_bit : ∀ (rows : List Nat) (m j : Nat), (aftL rows m).testBit j = true ↔ ∃ k, k < rows.length ∧ m.testBit k = true ∧ (rows.getD k 0).testBit j = true
  | [], m, j => by simp [aftL]
  | r :: rs, m, j => by
    have ih := aftL_bit rs (m / 2) j
    have e : (aftL (r :: rs) m) = (m % 2 * r) ||| aftL rs (m / 2) := rfl
    rw [e, Nat.testBit_or, Bool.or_eq_true, ih]
    have h0 : m.testBit 0 = decide (m % 2 = 1) := Nat.testBit_zero m
    constructor
    · rintro (h | ⟨k, a, b, c⟩)
      · rcases Nat.mod_two_eq_zero_or_one m with q | q
        · rw [q, Nat.zero_mul] at h; simp at h
        · rw [q, Nat.one_mul] at h
          exact ⟨0, by simp, by rw [h0, q]; rfl, h⟩
      · refine ⟨k + 1, by simp; lia, ?_, by simpa using c⟩
        rw [Nat.testBit_succ]; exact b
    · rintro ⟨k, a, b, c⟩
      cases k with
      | zero =>
        left
        rw [h0] at b
        have q : m % 2 = 1 := by simpa using b
        rw [q, Nat.one_mul]; simpa using c
      | succ k =>
        right
        refine ⟨k, by simp at a; lia, ?_, by simpa using c⟩
        rw [Nat.testBit_succ] at b; exact b
theorem aftL_eq (rows : List Nat) (m : Nat) : aftL rows m = after rows m := by
  apply Nat.eq_of_testBit_eq
  intro j
  rw [Bool.eq_iff_iff, aftL_bit, after_bit]
theorem runL_eq (rows : List Nat) (k : Nat → Bool) : ∀ f m, runL rows k f m = k (iterA rows f m)
  | 0, m => rfl
  | f + 1, m => by
    show seqN (aftL rows m) (fun m' => runL rows k f m') = _
    rw [seqN_eq, runL_eq rows k f, aftL_eq]
    have := iterA_add rows m f 1
    rw [show iterA rows 1 m = after rows m from rfl] at this
    rw [this]
theorem clsM_bit (n d : Nat) : ∀ r k, (clsM n d r).testBit k = (decide (k < r) && decide (k % d = n % d))
  | 0, k => by simp [clsM]
  | r + 1, k => by
    have e : clsM n d (r + 1) = clsM n d r ||| (bif Nat.beq (r % d) (n % d) then 2 ^ r else 0) := rfl
    rw [e, Nat.testBit_or, clsM_bit n d r k]
    by_cases hr : r % d = n % d
    · rw [show Nat.beq (r % d) (n % d) = true from by rw [hr]; exact Nat.beq_refl _]
      simp only [cond_true, Nat.testBit_two_pow]
      by_cases hk : r = k
      · subst hk; simp [hr]
      · have h1 : decide (k < r + 1) = decide (k < r) := by
          by_cases q : k < r
          · rw [decide_eq_true q, decide_eq_true (by lia)]
          · rw [decide_eq_false q, decide_eq_false (by lia)]
        rw [h1]; simp [hk]
    · have hb : Nat.beq (r % d) (n % d) = false := by
        cases q : Nat.beq (r % d) (n % d) with
        | false => rfl
        | true => exact absurd (Nat.eq_of_beq_eq_true q) hr
      rw [hb]
      simp only [cond_false, Nat.zero_testBit, Bool.or_false]
      by_cases hk : k = r
      · subst hk; simp [hr]
      · have h1 : decide (k < r + 1) = decide (k < r) := by
          by_cases q : k < r
          · rw [decide_eq_true q, decide_eq_true (by lia)]
          · rw [decide_eq_false q, decide_eq_false (by lia)]
        rw [h1]
noncomputable def dG (rg : Nat) (c : Nat → Nat) : Nat → Nat → Nat
  | 0, d => d
  | k + 1, d => dG rg c k (Nat.gcd d (c k + rg - (k + 1)))
noncomputable def rowG (rg : Nat) (c : Nat → Nat) (k : Nat) : Nat := 2 ^ ((k + 1) % rg) ||| 2 ^ c k
noncomputable def rowsG (rg : Nat) (c : Nat → Nat) : Nat → List Nat → List Nat
  | 0, rows => rows
  | k + 1, rows => rowsG rg c k (rowG rg c k :: rows)
theorem rowsG_eq (rg : Nat) (c : Nat → Nat) : ∀ k rows, rowsG rg c k rows = (List.range k).map (rowG rg c) ++ rows
  | 0, rows => by simp [rowsG]
  | k + 1, rows => by
    show rowsG rg c k (rowG rg c k :: rows) = _
    rw [rowsG_eq rg c k, List.range_succ, List.map_append]; simp
theorem dG_dvd (rg : Nat) (c : Nat → Nat) : ∀ k d, dG rg c k d ∣ d ∧ ∀ j, j < k → dG rg c k d ∣ (c j + rg - (j + 1))
  | 0, d => ⟨Nat.dvd_refl _, fun j h => absurd h (Nat.not_lt_zero _)⟩
  | k + 1, d => by
    obtain ⟨h1, h2⟩ := dG_dvd rg c k (Nat.gcd d (c k + rg - (k + 1)))
    refine ⟨Nat.dvd_trans h1 (Nat.gcd_dvd_left ..), fun j hj => ?_⟩
    by_cases e : j = k
    · subst e; exact Nat.dvd_trans h1 (Nat.gcd_dvd_right ..)
    · exact h2 j (by lia)
theorem dvd_dG (rg : Nat) (c : Nat → Nat) (e : Nat) : ∀ k d, e ∣ d → (∀ j, j < k → e ∣ (c j + rg - (j + 1))) → e ∣ dG rg c k d
  | 0, d, h, _ => h
  | k + 1, d, h, h2 => dvd_dG rg c e k _ (Nat.dvd_gcd h (h2 k (by lia))) fun j hj => h2 j (by lia)
theorem allG_ok (xs : List Nat) (rg n0 : Nat) (c : Nat → Nat) : ∀ k rows d, allG xs rg n0 k rows d = true → (∀ j, j < k → c j ∈ xs) →
    ∀ j, j < rg → j % (dG rg c k d) = n0 % (dG rg c k d) → (iterA (rowsG rg c k rows) n0 1).testBit j = true
  | 0, rows, d, h, _, j, hj, hm => by
    have h' : seqN (clsM n0 d rg) (fun c => runL rows (fun m => Nat.beq (Nat.land m c) c) n0 1) = true := h
    rw [seqN_eq, runL_eq] at h'
    have e := Nat.eq_of_beq_eq_true h'
    have e : (iterA rows n0 1 &&& clsM n0 d rg) = clsM n0 d rg := e
    have b := congrArg (fun m => m.testBit j) e
    simp only [Nat.testBit_and, clsM_bit] at b
    have hm' : j % d = n0 % d := hm
    rw [decide_eq_true hj, decide_eq_true hm'] at b
    show (iterA rows n0 1).testBit j = true
    simpa using b
  | k + 1, rows, d, h, hc, j, hj, hm => by
    have h' := List.all_eq_true.mp (show xs.all (fun x => seqN (Nat.lor (Nat.pow 2 (Nat.mod (k + 1) rg)) (Nat.pow 2 x)) fun r => seqN (Nat.gcd d (x + rg - (k + 1))) fun d' => allG xs rg n0 k (r :: rows) d') = true from h) (c k) (hc k (by lia))
    rw [seqN_eq, seqN_eq] at h'
    exact allG_ok xs rg n0 c k _ _ h' (fun i hi => hc i (by lia)) j hj hm
/-- the numbers of steps from which on all is regular -/
noncomputable def n0Of (rg : Nat) : Nat := (rg - 1) ^ 2 + 1
theorem wielandt (rg : Nat) (h1 : 3 ≤ rg) (h2 : rg ≤ 5) (c : Nat → Nat) (hc : ∀ j, c j < rg) (j : Nat) (hj : j < rg) (hm : j % (dG rg c rg rg) = n0Of rg % (dG rg c rg rg)) :
    (iterA ((List.range rg).map (rowG rg c)) (n0Of rg) 1).testBit j = true := by
  have e := rowsG_eq rg c rg []
  rw [List.append_nil] at e
  rw [← e]
  rcases (by lia : rg = 3 ∨ rg = 4 ∨ rg = 5) with q | q | q
  · subst q; exact allG_ok [0, 1, 2] 3 5 c 3 [] 3 chk3 (fun j hj => by have := hc j; simp; lia) j hj hm
  · subst q; exact allG_ok [0, 1, 2, 3] 4 10 c 4 [] 4 chk4 (fun j hj => by have := hc j; simp; lia) j hj hm
  · subst q; exact allG_ok [0, 1, 2, 3, 4] 5 17 c 5 [] 5 chk5 (fun j hj => by have := hc j; simp; lia) j hj hm
set_option tactic.hygienic false
/-- the roads of a ring's town -/
noncomputable def turnR (rg : Nat) (x : Nat → Nat) (k : Nat) : List Nat := (k + 1) % rg :: (if x k < rg ∧ x k ≠ (k + 1) % rg then [x k] else [])
noncomputable def cho (rg : Nat) (x : Nat → Nat) (k : Nat) : Nat := if x k < rg then x k else (k + 1) % rg
noncomputable def turnsN (rg : Nat) (x : Nat → Nat) : List (List Nat) := (List.range rg).map (turnR rg x)
noncomputable def rowsN (rg : Nat) (x : Nat → Nat) : List Nat := (turnsN rg x).map maskN
section
variable {rg : Nat} {x : Nat → Nat}
theorem turnR_mem (k j : Nat) : j ∈ turnR rg x k ↔ j = (k + 1) % rg ∨ j = cho rg x k := by
  unfold turnR cho
  by_cases h : x k < rg
  · by_cases h2 : x k = (k + 1) % rg
    · simp [h2]
    · simp [h, h2]
  · simp [h]
theorem turnR_nodup (k : Nat) : (turnR rg x k).Nodup := by
  unfold turnR
  split
  · rename_i h; simp; exact Ne.symm h.2
  · simp
theorem turnR_len (k : Nat) : (turnR rg x k).length ≤ 2 := by unfold turnR; split <;> simp
theorem turnR_ne (k : Nat) : turnR rg x k ≠ [] := by unfold turnR; simp
theorem cho_lt (h : 0 < rg) (k : Nat) : cho rg x k < rg := by
  unfold cho; split
  · assumption
  · exact Nat.mod_lt _ h
theorem turnR_lt (h : 0 < rg) {k j : Nat} (hj : j ∈ turnR rg x k) : j < rg := by
  rcases (turnR_mem k j).mp hj with rfl | rfl
  · exact Nat.mod_lt _ h
  · exact cho_lt h k
theorem maskN_turn (k : Nat) : maskN (turnR rg x k) = rowG rg (cho rg x) k := by
  apply Nat.eq_of_testBit_eq
  intro j
  rw [maskN_bit _ (turnR_nodup k), Bool.eq_iff_iff, decide_eq_true_eq, turnR_mem]
  unfold rowG
  rw [Nat.testBit_or, Bool.or_eq_true, Nat.testBit_two_pow, Nat.testBit_two_pow, decide_eq_true_eq, decide_eq_true_eq]
  constructor
  · rintro (h | h)
    · exact .inl h.symm
    · exact .inr h.symm
  · rintro (h | h)
    · exact .inl h.symm
    · exact .inr h.symm
theorem rowsN_eq : rowsN rg x = (List.range rg).map (rowG rg (cho rg x)) := by
  unfold rowsN turnsN
  rw [List.map_map]
  congr 1
  funext k
  exact maskN_turn k
theorem rowsN_len : (rowsN rg x).length = rg := by simp [rowsN, turnsN]
theorem rowsN_get {k : Nat} (h : k < rg) : (rowsN rg x).getD k 0 = maskN (turnR rg x k) := by
  unfold rowsN turnsN
  rw [List.getD_eq_getElem?_getD, List.getElem?_map, List.getElem?_map, List.getElem?_range h]; rfl
/-- a town of the ring is come to in just n steps -/
noncomputable def R (rg : Nat) (x : Nat → Nat) (n j : Nat) : Prop := (itA (rowsN rg x) n).testBit j = true
theorem R_zero (j : Nat) : R rg x 0 j ↔ j = 0 := by
  unfold R
  show (1 : Nat).testBit j = true ↔ _
  rw [show (1 : Nat) = 2 ^ 0 from rfl, Nat.testBit_two_pow, decide_eq_true_eq]
  exact eq_comm
theorem R_succ (n j : Nat) : R rg x (n + 1) j ↔ ∃ k, k < rg ∧ R rg x n k ∧ j ∈ turnR rg x k := by
  unfold R
  show (after _ _).testBit j = true ↔ _
  rw [after_bit, rowsN_len]
  constructor
  · rintro ⟨k, a, b, c⟩
    rw [rowsN_get a, maskN_bit _ (turnR_nodup k), decide_eq_true_eq] at c
    exact ⟨k, a, b, c⟩
  · rintro ⟨k, a, b, c⟩
    exact ⟨k, a, b, by rw [rowsN_get a, maskN_bit _ (turnR_nodup k), decide_eq_true_eq]; exact c⟩
/-- the ruler's step -/
noncomputable def dOf (rg : Nat) (x : Nat → Nat) : Nat := dG rg (cho rg x) rg rg
theorem dOf_rg : dOf rg x ∣ rg := (dG_dvd rg (cho rg x) rg rg).1
theorem dOf_pos (h : 0 < rg) : 0 < dOf rg x := Nat.pos_of_dvd_of_pos dOf_rg h
theorem dOf_le (h : 0 < rg) : dOf rg x ≤ rg := Nat.le_of_dvd h dOf_rg
theorem mod_of_dvd_diff {d a b : Nat} (h : a ≤ b) (hd : d ∣ b - a) : b % d = a % d := by
  obtain ⟨q, e⟩ := hd
  have : b = a + d * q := by lia
  rw [this, Nat.add_mul_mod_self_left]
theorem edge_cong (h : 0 < rg) {k j : Nat} (hk : k < rg) (hj : j ∈ turnR rg x k) : j % dOf rg x = (k + 1) % dOf rg x := by
  have hd := dOf_rg (rg := rg) (x := x)
  rcases (turnR_mem k j).mp hj with rfl | rfl
  · exact Nat.mod_mod_of_dvd _ hd
  · have h1 : dOf rg x ∣ (cho rg x k + rg - (k + 1)) := (dG_dvd rg (cho rg x) rg rg).2 k hk
    have h2 := mod_of_dvd_diff (show k + 1 ≤ cho rg x k + rg by lia) h1
    rw [← h2]
    exact (mod_of_dvd_diff (show cho rg x k ≤ cho rg x k + rg by lia) (by rw [Nat.add_sub_cancel_left]; exact hd)).symm
theorem R_cong (h : 0 < rg) : ∀ (n j : Nat), R rg x n j → j < rg ∧ j % dOf rg x = n % dOf rg x
  | 0, j, hr => by rw [R_zero] at hr; subst hr; exact ⟨h, rfl⟩
  | n + 1, j, hr => by
    obtain ⟨k, hk, hr', hj⟩ := (R_succ n j).mp hr
    obtain ⟨_, ih⟩ := R_cong h n k hr'
    refine ⟨turnR_lt h hj, ?_⟩
    rw [edge_cong h hk hj, Nat.add_mod, ih, ← Nat.add_mod]
theorem R_full (h1 : 3 ≤ rg) (h2 : rg ≤ 5) : ∀ (m j : Nat), j < rg → j % dOf rg x = (n0Of rg + m) % dOf rg x → R rg x (n0Of rg + m) j
  | 0, j, hj, hm => by
    unfold R
    rw [itA_iter, rowsN_eq]
    exact wielandt rg h1 h2 (cho rg x) (fun k => cho_lt (by lia) k) j hj hm
  | m + 1, j, hj, hm => by
    have hd := dOf_rg (rg := rg) (x := x)
    -- the town ahead of it on the ring
    obtain ⟨k, hk, hkj⟩ : ∃ k, k < rg ∧ (k + 1) % rg = j := by
      by_cases h0 : j = 0
      · exact ⟨rg - 1, by lia, by rw [show rg - 1 + 1 = rg by lia, Nat.mod_self, h0]⟩
      · exact ⟨j - 1, by lia, by rw [show j - 1 + 1 = j by lia, Nat.mod_eq_of_lt hj]⟩
    have hjk : j % dOf rg x = (k + 1) % dOf rg x := by rw [← hkj]; exact Nat.mod_mod_of_dvd _ hd
    have hk2 : k % dOf rg x = (n0Of rg + m) % dOf rg x := by
      have e : (k + 1) % dOf rg x = (n0Of rg + m + 1) % dOf rg x := by rw [← hjk]; exact hm
      have hp := dOf_pos (rg := rg) (x := x) (by lia)
      have a1 := Nat.add_mod k 1 (dOf rg x)
      have a2 := Nat.add_mod (n0Of rg + m) 1 (dOf rg x)
      have b1 := Nat.mod_lt k hp
      have b2 := Nat.mod_lt (n0Of rg + m) hp
      by_cases hd1 : dOf rg x = 1
      · rw [hd1, Nat.mod_one, Nat.mod_one]
      · have c1 : 1 % dOf rg x = 1 := Nat.mod_eq_of_lt (by lia)
        rw [c1] at a1 a2
        generalize k % dOf rg x = u at *
        generalize (n0Of rg + m) % dOf rg x = v at *
        rw [e, a2] at a1
        have f1 : ∀ w, w < dOf rg x → (w + 1) % dOf rg x = if w + 1 = dOf rg x then 0 else w + 1 := fun w hw => by
          split
          · rename_i q; rw [q, Nat.mod_self]
          · exact Nat.mod_eq_of_lt (by lia)
        rw [f1 u b1, f1 v b2] at a1
        split at a1 <;> split at a1 <;> lia
    exact (R_succ _ j).mpr ⟨k, hk, R_full h1 h2 m k hk hk2, (turnR_mem k j).mpr (.inl hkj.symm)⟩
theorem R_ge (h1 : 3 ≤ rg) (h2 : rg ≤ 5) {n j : Nat} (hn : n0Of rg ≤ n) (hj : j < rg) : R rg x n j ↔ j % dOf rg x = n % dOf rg x := by
  obtain ⟨m, rfl⟩ : ∃ m, n = n0Of rg + m := ⟨n - n0Of rg, by lia⟩
  exact ⟨fun hr => (R_cong (by lia) _ _ hr).2, R_full h1 h2 m j hj⟩
theorem R_ring (h : 0 < rg) : ∀ k, k < rg → R rg x k k
  | 0, _ => (R_zero 0).mpr rfl
  | k + 1, hk => (R_succ k (k + 1)).mpr ⟨k, by lia, R_ring h k (by lia), (turnR_mem k (k + 1)).mpr (.inl (Nat.mod_eq_of_lt hk).symm)⟩
end
set_option tactic.hygienic false
noncomputable def waysN (rg ln : Nat) (x : Nat → Nat) : List (List Nat) := (List.range ln).map (fun k => [k + 1]) ++ (turnsN rg x).map (·.map (ln + ·))
section
variable {rg ln : Nat} {x : Nat → Nat}
noncomputable def wayN (rg ln : Nat) (x : Nat → Nat) (k : Nat) : List Nat := if k < ln then [k + 1] else (turnR rg x (k - ln)).map (ln + ·)
theorem waysN_len : (waysN rg ln x).length = ln + rg := by simp [waysN, turnsN]
theorem waysN_get {k : Nat} (h : k < ln + rg) : (waysN rg ln x)[k]? = some (wayN rg ln x k) := by
  unfold waysN wayN
  by_cases hk : k < ln
  · rw [List.getElem?_append_left (by simpa using hk), List.getElem?_map, List.getElem?_range hk, if_pos hk]; rfl
  · rw [List.getElem?_append_right (by simpa using Nat.le_of_not_lt hk), if_neg hk]
    unfold turnsN
    rw [List.getElem?_map, List.getElem?_map, List.length_map, List.length_range, List.getElem?_range (by lia)]; rfl
theorem wayN_nodup (k : Nat) : (wayN rg ln x k).Nodup := by
  unfold wayN
  split
  · simp
  · rw [List.nodup_iff_pairwise_ne, List.pairwise_map]
    exact (List.nodup_iff_pairwise_ne.mp (turnR_nodup (k - ln))).imp fun h e => h (by lia)
theorem wayN_lt (h : 0 < rg) {k j : Nat} (hk : k < ln + rg) (hj : j ∈ wayN rg ln x k) : j < ln + rg := by
  unfold wayN at hj
  split at hj
  · simp at hj; lia
  · obtain ⟨i, hi, rfl⟩ := List.mem_map.mp hj
    have := turnR_lt h hi; lia
theorem wayN_ne (k : Nat) : wayN rg ln x k ≠ [] := by
  unfold wayN
  split
  · simp
  · simp [turnR_ne]
theorem wayN_len (k : Nat) : (wayN rg ln x k).length ≤ 2 := by
  unfold wayN
  split
  · simp
  · rw [List.length_map]; exact turnR_len _
noncomputable def wrowsN (rg ln : Nat) (x : Nat → Nat) : List Nat := (waysN rg ln x).map maskN
/-- a town is come to in just n steps -/
noncomputable def W (rg ln : Nat) (x : Nat → Nat) (n t : Nat) : Prop := (itA (wrowsN rg ln x) n).testBit t = true
theorem W_zero (t : Nat) : W rg ln x 0 t ↔ t = 0 := by
  unfold W
  show (1 : Nat).testBit t = true ↔ _
  rw [show (1 : Nat) = 2 ^ 0 from rfl, Nat.testBit_two_pow, decide_eq_true_eq]
  exact eq_comm
theorem W_succ (n t : Nat) : W rg ln x (n + 1) t ↔ ∃ k, k < ln + rg ∧ W rg ln x n k ∧ t ∈ wayN rg ln x k := by
  unfold W
  show (after _ _).testBit t = true ↔ _
  have hl : (wrowsN rg ln x).length = ln + rg := by unfold wrowsN; rw [List.length_map, waysN_len]
  have hg : ∀ {k}, k < ln + rg → (wrowsN rg ln x).getD k 0 = maskN (wayN rg ln x k) := fun h => by
    unfold wrowsN
    rw [List.getD_eq_getElem?_getD, List.getElem?_map, waysN_get h]; rfl
  rw [after_bit, hl]
  constructor
  · rintro ⟨k, a, b, c⟩
    rw [hg a, maskN_bit _ (wayN_nodup k), decide_eq_true_eq] at c
    exact ⟨k, a, b, c⟩
  · rintro ⟨k, a, b, c⟩
    exact ⟨k, a, b, by rw [hg a, maskN_bit _ (wayN_nodup k), decide_eq_true_eq]; exact c⟩
theorem W_iff (hl : 0 < ln) : ∀ (n t : Nat), W rg ln x n t ↔ (t < ln ∧ n = t) ∨ (∃ j, t = ln + j ∧ ln ≤ n ∧ R rg x (n - ln) j)
  | 0, t => by
    rw [W_zero]
    constructor
    · rintro rfl; exact .inl ⟨hl, rfl⟩
    · rintro (⟨_, h⟩ | ⟨j, _, h, _⟩)
      · exact h.symm
      · lia
  | n + 1, t => by
    rw [W_succ]
    have ih := W_iff hl n
    constructor
    · rintro ⟨k, hk, hw, ht⟩
      rcases (ih k).mp hw with ⟨h1, h2⟩ | ⟨i, h1, h2, h3⟩
      · unfold wayN at ht
        rw [if_pos h1] at ht
        have ht : t = k + 1 := by simpa using ht
        by_cases h4 : t < ln
        · exact .inl ⟨h4, by lia⟩
        · refine .inr ⟨0, by lia, by lia, ?_⟩
          rw [Nat.sub_eq_zero_of_le (show n + 1 ≤ ln by lia)]; exact (R_zero 0).mpr rfl
      · unfold wayN at ht
        rw [if_neg (by lia), show k - ln = i by rw [h1, Nat.add_sub_cancel_left]] at ht
        obtain ⟨j, hj, rfl⟩ := List.mem_map.mp ht
        refine .inr ⟨j, rfl, by lia, ?_⟩
        rw [Nat.succ_sub h2]
        exact (R_succ _ _).mpr ⟨i, by lia, h3, hj⟩
    · rintro (⟨h1, h2⟩ | ⟨j, rfl, h2, h3⟩)
      · refine ⟨n, by lia, (ih n).mpr (.inl ⟨by lia, rfl⟩), ?_⟩
        unfold wayN; rw [if_pos (by lia)]; simp; lia
      · by_cases h4 : n + 1 = ln
        · rw [h4, Nat.sub_self, R_zero] at h3
          subst h3
          refine ⟨n, by lia, (ih n).mpr (.inl ⟨by lia, rfl⟩), ?_⟩
          unfold wayN; rw [if_pos (by lia)]; simp; lia
        · rw [Nat.succ_sub (show ln ≤ n by lia)] at h3
          obtain ⟨i, hi, h5, h6⟩ := (R_succ _ _).mp h3
          refine ⟨ln + i, by lia, (ih (ln + i)).mpr (.inr ⟨i, rfl, by lia, h5⟩), ?_⟩
          unfold wayN
          rw [if_neg (by lia), Nat.add_sub_cancel_left]
          exact List.mem_map.mpr ⟨j, h6, rfl⟩
end
/-- the first that passes -/
theorem filter_first (p : Nat → Bool) : ∀ (N n : Nat), n < N → p n = true → ∃ h rest, (List.range N).filter p = h :: rest ∧ p h = true ∧ h ≤ n ∧ ∀ m, m < h → p m = false
  | 0, n, hn, _ => by lia
  | N + 1, n, hn, hp => by
    rw [List.range_succ, List.filter_append]
    by_cases hlt : ∃ m, m < N ∧ p m = true
    · obtain ⟨m, hm, hpm⟩ := hlt
      obtain ⟨h, rest, e, h1, h2, h3⟩ := filter_first p N m hm hpm
      refine ⟨h, rest ++ _, by rw [e]; rfl, h1, ?_, h3⟩
      by_cases hh : h ≤ n
      · exact hh
      · have := h3 n (by lia); rw [hp] at this; cases this
    · have hN : n = N := by
        rcases Nat.lt_or_ge n N with q | q
        · exact absurd ⟨n, q, hp⟩ hlt
        · lia
      subst hN
      have hno : ∀ m, m < n → p m = false := fun m hm => by
        cases q : p m with
        | false => rfl
        | true => exact absurd ⟨m, hm, q⟩ hlt
      have : (List.range n).filter p = [] := by
        rw [List.filter_eq_nil_iff]
        intro a ha
        rw [hno a (List.mem_range.mp ha)]; decide
      rw [this]
      refine ⟨n, [], ?_, hp, Nat.le_refl _, hno⟩
      simp [hp]
/-! Euclid's run -/
theorem eu_dvd (e : Int) : ∀ (n : Nat) (a b : Int), b.natAbs ≤ n → (e ∣ eu a b ↔ e ∣ a ∧ e ∣ b)
  | 0, a, b, h => by
    have : b = 0 := by lia
    subst this
    rw [eu_zero]; simp
  | n + 1, a, b, h => by
    by_cases hb : b = 0
    · subst hb; rw [eu_zero]; simp
    · rw [eu_step a b hb, eu_dvd e n b (a.fmod b) (by have := fmod_abs a b hb; lia)]
      have em := Int.mul_fdiv_add_fmod a b
      constructor
      · rintro ⟨h1, h2⟩
        refine ⟨?_, h1⟩
        rw [← em]; exact Int.dvd_add (Int.dvd_trans h1 (Int.dvd_mul_right ..)) h2
      · rintro ⟨h1, h2⟩
        refine ⟨h2, ?_⟩
        have : a.fmod b = a - b * a.fdiv b := by lia
        rw [this]; exact Int.dvd_sub h1 (Int.dvd_trans h2 (Int.dvd_mul_right ..))
theorem fmod_neg_range (a b : Int) (hb : b < 0) : b < a.fmod b ∧ a.fmod b ≤ 0 := by
  have h3 := Int.fmod_nonneg_of_pos (-a) (Int.neg_pos_of_neg hb)
  have h4 := Int.fmod_lt_of_pos (-a) (Int.neg_pos_of_neg hb)
  rw [Int.neg_fmod_neg] at h3 h4
  exact ⟨Int.lt_of_neg_lt_neg h4, Int.nonpos_of_neg_nonneg h3⟩
theorem eu_neg : ∀ (n : Nat) (a b : Int), b.natAbs ≤ n → b < 0 → eu a b < 0
  | 0, a, b, h, hb => by lia
  | n + 1, a, b, h, hb => by
    rw [eu_step a b (by lia)]
    obtain ⟨h1, h2⟩ := fmod_neg_range a b hb
    by_cases hz : a.fmod b = 0
    · rw [hz, eu_zero]; exact hb
    · exact eu_neg n b _ (by have := fmod_abs a b (by lia); lia) (by lia)
theorem measure_dvd (e : Int) : ∀ (gs : List Int) (one : Int), e ∣ measureI one gs ↔ e ∣ one ∧ ∀ g ∈ gs, e ∣ g
  | [], one => by unfold measureI; simp
  | g :: gs, one => by
    show e ∣ measureI (eu one g) gs ↔ _
    rw [measure_dvd e gs, eu_dvd e _ one g (Nat.le_refl _)]
    constructor
    · rintro ⟨⟨a, b⟩, c⟩
      exact ⟨a, fun g' hg => by rcases List.mem_cons.mp hg with rfl | h; exact b; exact c g' h⟩
    · rintro ⟨a, b⟩
      exact ⟨⟨a, b g List.mem_cons_self⟩, fun g' hg => b g' (List.mem_cons_of_mem _ hg)⟩
theorem measure_neg' : ∀ (gs : List Int) (one : Int), one < 0 → (∀ g ∈ gs, g ≤ 0) → measureI one gs < 0
  | [], one, h, _ => h
  | g :: gs, one, h, hg => by
    show measureI (eu one g) gs < 0
    refine measure_neg' gs _ ?_ fun g' h' => hg g' (List.mem_cons_of_mem _ h')
    by_cases hz : g = 0
    · subst hz; rw [eu_zero]; exact h
    · exact eu_neg _ one g (Nat.le_refl _) (by have := hg g List.mem_cons_self; lia)
theorem measure_neg : ∀ (gs : List Int) (one : Int), (∀ g ∈ gs, g ≤ 0) → (∃ g ∈ gs, g < 0) → measureI one gs < 0
  | [], one, _, h => by obtain ⟨g, hg, _⟩ := h; cases hg
  | g :: gs, one, hg, h => by
    show measureI (eu one g) gs < 0
    by_cases hz : g < 0
    · exact measure_neg' gs _ (eu_neg _ one g (Nat.le_refl _) hz) fun g' h' => hg g' (List.mem_cons_of_mem _ h')
    · refine measure_neg gs _ (fun g' h' => hg g' (List.mem_cons_of_mem _ h')) ?_
      obtain ⟨g', h1, h2⟩ := h
      rcases List.mem_cons.mp h1 with rfl | h1
      · exact absurd h2 hz
      · exact ⟨g', h1, h2⟩
set_option tactic.hygienic false
theorem fmod_nat (a b : Nat) : ((a : Int)).fmod b = ((a % b : Nat) : Int) := by rw [Int.fmod_eq_emod_of_nonneg _ (Int.natCast_nonneg b)]; rfl
theorem fdiv_nat (a b : Nat) : ((a : Int)).fdiv b = ((a / b : Nat) : Int) := by rw [Int.fdiv_eq_ediv_of_nonneg _ (Int.natCast_nonneg b)]; rfl
theorem Op2.modn {C : Cx} {Y led : Led} {k a : Nat} (b : Nat) {Q : D → Led → Prop} (h : Q (natD (a % b)) led) (hb : autoParam (b ≠ 0) autA) : Op2 C Y led k (binaryOp .Mod) (natD a) (natD b) Q := Op2.mod (by lia) (by rw [fmod_nat]; exact h)
theorem Op2.fdivn {C : Cx} {Y led : Led} {k a : Nat} (b : Nat) {Q : D → Led → Prop} (h : Q (natD (a / b)) led) (hb : autoParam (b ≠ 0) autA) (hb2 : autoParam (b < 2 ^ 64) autA) : Op2 C Y led k (binaryOp .FloorDiv) (natD a) (natD b) Q := Op2.fdiv (by lia) (by rw [fdiv_nat]; exact h) (by lia)
noncomputable def rgOf (h0 : Nat) : Nat := 3 + h0 % 3
noncomputable def lnOf (h0 : Nat) : Nat := 1 + h0 / 3 % 3
noncomputable def xOf (h1 k : Nat) : Nat := h1 / 6 ^ k % 6
section
variable {C : Cx} {led : Led} {k : Nat} {f : Addr} {z : GiZ} {Q : Fl → Vars → Led → Prop}
noncomputable abbrev V0 (sc : D) (h0 h1 h2 h3 : Nat) : Vars := [("heaps", nats [h0, h1, h2, h3]), ("script", sc)]
noncomputable abbrev V1 (sc : D) (h0 h1 h2 h3 rg ln : Nat) : Vars := ("lane", natD ln) :: ("ring", natD rg) :: V0 sc h0 h1 h2 h3
theorem law1 {sc : D} {h0 h1 h2 h3 : Nat} (N : NoG C)
    (hq : Q .next (V1 sc h0 h1 h2 h3 (rgOf h0) (lnOf h0)) led) :
    WS C led (lawFe f z) (V0 sc h0 h1 h2 h3) (k + 5) (exec (lawS 1) (lawFe f z).env) Q := by
  refine WS.stmt (st' := .Assign _ _ _) rfl ?_
  walk_at "v"
  refine SubW.lst (d := natD h0) (by decide) (by decide) rfl ?_
  walk_at "v"
  refine Op2.modn 3 ?_
  walk_at "v"
  refine SubW.lst (d := natD h0) (by decide) (by decide) rfl ?_
  walk_at "v"
  refine Op2.fdivn 3 ?_
  walk_at "v"
  refine Op2.modn 3 ?_
  walk_at "v"
  refine ⟨by simp, ?_⟩
  walk_at "v"
  exact hq
noncomputable abbrev V2 (sc : D) (h0 h1 h2 h3 rg ln : Nat) (x : Nat → Nat) : Vars := ("more", nats ((List.range rg).map x)) :: V1 sc h0 h1 h2 h3 rg ln
theorem law2 {sc : D} {h0 h1 h2 h3 rg ln : Nat} (N : NoG C) (hrg : rg ≤ 8)
    (hq : Q .next (V2 sc h0 h1 h2 h3 rg ln (xOf h1)) led) :
    WS C led (lawFe f z) (V1 sc h0 h1 h2 h3 rg ln) (k + 5) (exec (lawS 2) (lawFe f z).env) Q := by
  refine WS.stmt (st' := .Assign _ _ _) rfl ?_
  walk_at "v"
  refine WE.comp [("heaps", nats [h0, h1, h2, h3])] ?_
  refine WE.callY ?_
  walk_at "v"
  refine ⟨_, ((List.range rg).map fun i => some (natD (xOf h1 i))), fun Y => IterOf.rng (by lia) (by lia) (by lia) (by lia), ?_, ?_, fun L cs i x hx => ?_, ?_⟩
  · rw [rngItems_length]; lia
  · rw [rngItems_length]; simp
  · obtain ⟨rfl, hi⟩ := rngItems_get hx
    simp only [Int.sub_zero, Int.toNat_natCast] at hi
    simp only [Int.zero_add]
    walk_at "v"
    refine ⟨⟨rfl, trivial⟩, ?_⟩
    walk_at "v"
    refine ⟨fun _ => ?_, fun hc => by cases hc⟩
    walk_at "v"
    refine SubW.lst (d := natD h1) (by decide) (by decide) rfl ?_
    walk_at "v"
    refine Op2.pow (by lia) (by lia) (by decide) ?_
    rw [Int.toNat_natCast, show (6 : Int) ^ i = ((6 ^ i : Nat) : Int) by rw [Int.natCast_pow]; rfl]
    walk_at "v"
    have hp : 6 ^ i ≤ 6 ^ 8 := Nat.pow_le_pow_right (by decide) (by lia)
    have hp0 : 0 < 6 ^ i := Nat.pow_pos (by decide)
    refine Op2.fdivn _ ?_ (by lia) (by lia)
    walk_at "v"
    refine Op2.modn 6 ?_
    refine ⟨?_, rfl⟩
    rw [List.getElem?_map, List.getElem?_range hi]; rfl
  · rw [show ((List.range rg).map fun i => some (natD (xOf h1 i))) = ((List.range rg).map fun i => natD (xOf h1 i)).map some by simp, filterMap_some]
    walk_at "v"
    rw [show ((List.range rg).map fun i => natD (xOf h1 i)) = ((List.range rg).map (xOf h1)).map natD by simp]
    exact hq
theorem pickD_one {xs : List D} {i : Nat} {d : D} (h : xs[i]? = some d) : pickD xs (some (i : Int)) (some ((i : Int) + 1)) none = [d] := by
  have hi := (List.getElem?_eq_some_iff.mp h).1
  have e : sliceBounds (some (i : Int)) (some ((i : Int) + 1)) none xs.length = ((i : Int), (i : Int) + 1, 1) := by
    unfold sliceBounds
    simp only [Option.getD_none, show (1 : Int) > 0 by decide, if_true]
    rw [if_neg (by lia), if_neg (by lia)]
    congr 1
    · lia
    · congr 1; lia
  unfold pickD
  rw [e]
  show (sliceRange (i : Int) ((i : Int) + 1) 1).filterMap _ = _
  rw [show ((i : Int) + 1) = ((i + 1 : Nat) : Int) by lia, sliceRange_one]
  rw [show i + 1 - i = 1 by lia]
  show ((List.range 1).map (i + ·)).filterMap _ = _
  rw [show List.range 1 = [0] from rfl]
  simp only [List.map_cons, List.map_nil, Nat.add_zero, List.filterMap_cons, h, List.filterMap_nil]
noncomputable abbrev V3 (sc : D) (h0 h1 h2 h3 rg ln : Nat) (x : Nat → Nat) : Vars := ("turns", .lst ((turnsN rg x).map nats)) :: V2 sc h0 h1 h2 h3 rg ln x
theorem law3 {sc : D} {h0 h1 h2 h3 rg ln : Nat} {x : Nat → Nat} (N : NoG C) (hrg0 : 0 < rg) (hrg : rg ≤ 8)
    (hq : Q .next (V3 sc h0 h1 h2 h3 rg ln x) led) :
    WS C led (lawFe f z) (V2 sc h0 h1 h2 h3 rg ln x) (k + 5) (exec (lawS 3) (lawFe f z).env) Q := by
  refine WS.stmt (st' := .Assign _ _ _) rfl ?_
  refine WS.set_comp [("more", nats ((List.range rg).map x)), ("ring", natD rg)] ?_
  refine WE.callY ?_
  walk_at "v"
  refine ⟨_, ((List.range rg).map fun i => some (nats (turnR rg x i))), fun Y => IterOf.rng (by lia) (by lia) (by lia) (by lia), ?_, ?_, fun L cs i y hx => ?_, ?_⟩
  · rw [rngItems_length]; lia
  · rw [rngItems_length]; simp
  · obtain ⟨rfl, hi⟩ := rngItems_get hx
    simp only [Int.sub_zero, Int.toNat_natCast] at hi
    simp only [Int.zero_add]
    have hout : ((List.range rg).map fun i => some (nats (turnR rg x i)))[i]? = some (some (nats (turnR rg x i))) := by rw [List.getElem?_map, List.getElem?_range hi]; rfl
    have hnat : (i : Int) + 1 = ((i + 1 : Nat) : Int) := by lia
    walk_at "v"
    refine ⟨⟨rfl, rfl, trivial⟩, ?_⟩
    walk_at "v"
    refine ⟨fun _ => ?_, fun hc => by cases hc⟩
    walk_at "v"
    refine WE.list ?_
    walk_at "v"
    rw [hnat]
    refine Op2.modn _ ?_ (by lia)
    walk_at "v"
    refine ⟨by simp, ?_⟩
    walk_at "v"
    refine WE.comp [("k", natD i), ("ring", natD rg)] ?_
    walk_at "v"
    have hmi : (((List.range rg).map x).map natD)[i]? = some (natD (x i)) := by rw [List.getElem?_map, List.getElem?_map, List.getElem?_range hi]; rfl
    refine SliceW.lst (lo := some (i : Int)) (hi := some ((i : Int) + 1)) (st := none) (by decide) (by simp; lia) ?_
    rw [pickD_one hmi]
    refine ⟨_, [if x i < rg ∧ x i ≠ (i + 1) % rg then some (natD (x i)) else none], fun Y => IterOf.lst, by simp, by simp, fun L cs j y hy => ?_, ?_⟩
    · obtain ⟨rfl, rfl⟩ : j = 0 ∧ y = natD (x i) := by
        cases j with
        | zero => simp at hy; exact ⟨rfl, hy.symm⟩
        | succ j => simp at hy
      walk_at "v"
      refine ⟨⟨rfl, rfl, trivial⟩, ?_⟩
      walk_at "v"
      refine ⟨fun hb => ?_, fun hb => ?_⟩
      · have hlt : x i < rg := by simp only [decide_eq_true_eq] at hb; lia
        walk_at "v"
        rw [hnat]
        refine Op2.modn _ ?_ (by lia)
        walk_at "v"
        have e1 : ((x i : Int) != (((i + 1) % rg : Nat) : Int)) = (x i != (i + 1) % rg) := by rw [Bool.eq_iff_iff, bne_iff_ne, bne_iff_ne]; lia
        rw [e1]
        refine ⟨fun hb2 => ?_, fun hb2 => ?_⟩
        · walk_at "v"
          refine ⟨fun _ => ?_, fun hc => by cases hc⟩
          walk_at "v"
          refine ⟨?_, rfl⟩
          rw [if_pos ⟨hlt, by simpa using hb2⟩]; rfl
        · refine ⟨fun hc => (by cases hc), fun _ => ⟨?_, rfl⟩⟩
          rw [if_neg (fun z => z.2 (by simpa using hb2))]; rfl
      · refine ⟨fun hc => (by cases hc), fun _ => ⟨?_, rfl⟩⟩
        have hlt : ¬ x i < rg := by simp only [decide_eq_false_iff_not] at hb; lia
        rw [if_neg (fun z => hlt z.1)]; rfl
    · refine fun _ => Op2.addl ?_ ?_
      · have := List.length_filterMap_le id [if x i < rg ∧ x i ≠ (i + 1) % rg then some (natD (x i)) else none]
        simp only [List.length_cons, List.length_nil] at this ⊢; lia
      refine ⟨?_, rfl⟩
      rw [hout]
      unfold turnR
      congr 2
      split <;> rfl
  · rw [show ((List.range rg).map fun i => some (nats (turnR rg x i))) = ((turnsN rg x).map nats).map some by unfold turnsN; simp, filterMap_some]
    exact hq
noncomputable abbrev V4 (sc : D) (h0 h1 h2 h3 rg ln : Nat) (x : Nat → Nat) : Vars := ("ways", .lst ((waysN rg ln x).map nats)) :: V3 sc h0 h1 h2 h3 rg ln x
theorem law4 {sc : D} {h0 h1 h2 h3 rg ln : Nat} {x : Nat → Nat} (N : NoG C) (hrg : rg ≤ 8) (hln : ln ≤ 8)
    (hq : Q .next (V4 sc h0 h1 h2 h3 rg ln x) led) :
    WS C led (lawFe f z) (V3 sc h0 h1 h2 h3 rg ln x) (k + 5) (exec (lawS 4) (lawFe f z).env) Q := by
  refine WS.stmt (st' := .Assign _ _ _) rfl ?_
  walk_at "v"
  refine WE.comp [] ?_
  refine WE.callY ?_
  walk_at "v"
  refine ⟨_, ((List.range ln).map fun i => some (nats [i + 1])), fun Y => IterOf.rng (by lia) (by lia) (by lia) (by lia), ?_, ?_, fun L cs i y hx => ?_, ?_⟩
  · rw [rngItems_length]; lia
  · rw [rngItems_length]; simp
  · obtain ⟨rfl, hi⟩ := rngItems_get hx
    simp only [Int.sub_zero, Int.toNat_natCast] at hi
    simp only [Int.zero_add]
    walk_at "v"
    refine ⟨trivial, ?_⟩
    walk_at "v"
    refine ⟨fun _ => ?_, fun hc => by cases hc⟩
    refine WE.list ?_
    walk_at "v"
    refine ⟨by simp, ?_, rfl⟩
    rw [List.getElem?_map, List.getElem?_range hi]; rfl
  · rw [show ((List.range ln).map fun i => some (nats [i + 1])) = (((List.range ln).map (fun k => [k + 1])).map nats).map some by simp, filterMap_some]
    walk_at "v"
    refine WE.comp [("lane", natD ln)] ?_
    walk_at "v"
    have hlt : (turnsN rg x).length = rg := by simp [turnsN]
    refine ⟨_, (((turnsN rg x).map (·.map (ln + ·))).map nats).map some, fun Y => IterOf.lst, ?_, ?_, fun L cs i y hx => ?_, ?_⟩
    · rw [List.length_map, hlt]; lia
    · simp
    · rw [List.getElem?_map] at hx
      cases hg : (turnsN rg x)[i]? with
      | none => rw [hg] at hx; cases hx
      | some row =>
        rw [hg] at hx; cases hx
        have hrow : row.length ≤ 2 := by
          unfold turnsN at hg
          rw [List.getElem?_map] at hg
          cases hr : (List.range rg)[i]? with
          | none => rw [hr] at hg; cases hg
          | some j => rw [hr] at hg; cases hg; exact turnR_len j
        walk_at "v"
        refine ⟨⟨rfl, trivial⟩, ?_⟩
        walk_at "v"
        refine ⟨fun _ => ?_, fun hc => by cases hc⟩
        refine WE.comp [("lane", natD ln)] ?_
        walk_at "v"
        refine ⟨_, ((row.map (ln + ·)).map natD).map some, fun Y => IterOf.lst, ?_, ?_, fun L cs j y hy => ?_, ?_⟩
        · rw [List.length_map]; lia
        · simp
        · rw [List.getElem?_map] at hy
          cases hg2 : row[j]? with
          | none => rw [hg2] at hy; cases hy
          | some z =>
            rw [hg2] at hy; cases hy
            walk_at "v"
            refine ⟨⟨rfl, trivial⟩, ?_⟩
            walk_at "v"
            refine ⟨fun _ => ?_, fun hc => by cases hc⟩
            walk_at "v"
            refine ⟨?_, rfl⟩
            rw [List.getElem?_map, List.getElem?_map, List.getElem?_map, hg2]; rfl
        · rw [filterMap_some]
          refine ⟨?_, rfl⟩
          rw [List.getElem?_map, List.getElem?_map, List.getElem?_map, hg]; rfl
    · rw [filterMap_some]
      refine fun _ => Op2.addl ?_ ?_
      · simp [hlt]; lia
      rw [← List.map_append]
      walk_at "v"
      exact hq
noncomputable def al8 : List Nat := [97, 34, 92, 32, 10, 35, 9, 13]
noncomputable def nmOf (h2 n : Nat) : List Nat := ((al8 ++ al8).drop (h2 % 8)).take n
noncomputable abbrev V5 (sc : D) (h0 h1 h2 h3 rg ln : Nat) (x : Nat → Nat) (nm : List Nat) : Vars := ("names", strD nm) :: V4 sc h0 h1 h2 h3 rg ln x
theorem law5 {sc : D} {h0 h1 h2 h3 rg ln : Nat} {x : Nat → Nat} (N : NoG C)
    (hq : Q .next (V5 sc h0 h1 h2 h3 rg ln x (nmOf h2 (ln + rg))) led) :
    WS C led (lawFe f z) (V4 sc h0 h1 h2 h3 rg ln x) (k + 5) (exec (lawS 5) (lawFe f z).env) Q := by
  refine WS.stmt (st' := .Assign _ _ _) rfl ?_
  have hm1 : MulOk (mk al8) 2 := by unfold MulOk; decide +kernel
  have hm2 : Txt.mul (mk al8) 2 = mk (al8 ++ al8) := by decide +kernel
  have hs : ("a\"\\ \n#\t\r" : Str) = mk al8 := by decide +kernel
  walk_at "v"
  rw [hs]
  refine Op2.muls hm1 ?_
  rw [hm2]
  walk_at "v"
  refine SubW.lst (d := natD h2) (by decide) (by decide) rfl ?_
  walk_at "v"
  refine Op2.modn 8 ?_
  walk_at "v"
  refine SliceW.str (lo := some ((h2 % 8 : Nat) : Int)) (hi := none) (by rw [mk_len]; decide) ?_
  rw [slice_from]
  walk_at "v"
  refine SliceW.str (lo := none) (hi := some (((ln : Int)) + rg)) ?_ ?_
  · rw [mk_len, List.length_drop]; exact Nat.le_trans (Nat.sub_le _ _) (by decide)
  rw [show ((ln : Int)) + rg = ((ln + rg : Nat) : Int) by lia, slice_upto]
  walk_at "v"
  exact hq
theorem flat_one (g : Nat → Nat) : ∀ r : List Nat, (r.map fun z => [g z]).flatten = r.map g
  | [] => rfl
  | a :: r => by rw [List.map_cons, List.flatten_cons, flat_one g r]; rfl
noncomputable def wordOf (nm row : List Nat) : List Nat := row.map fun x => nm.getD x 0
noncomputable abbrev V6 (sc : D) (h0 h1 h2 h3 rg ln : Nat) (x : Nat → Nat) (nm : List Nat) (words : List (List Nat)) : Vars := ("words", .lst (words.map strD)) :: V5 sc h0 h1 h2 h3 rg ln x nm
theorem law6 {sc : D} {h0 h1 h2 h3 rg ln : Nat} {x : Nat → Nat} {nm : List Nat} (N : NoG C) (hrg0 : 0 < rg) (hrg : rg ≤ 8) (hln : ln ≤ 8) (hnm : nm.length = ln + rg)
    (hq : Q .next (V6 sc h0 h1 h2 h3 rg ln x nm ((waysN rg ln x).map (wordOf nm))) led) :
    WS C led (lawFe f z) (V5 sc h0 h1 h2 h3 rg ln x nm) (k + 5) (exec (lawS 6) (lawFe f z).env) Q := by
  refine WS.stmt (st' := .Assign _ _ _) rfl ?_
  refine WS.set_comp [("names", strD nm)] ?_
  walk_at "v"
  have hlw := waysN_len (rg := rg) (ln := ln) (x := x)
  refine ⟨_, (((waysN rg ln x).map (wordOf nm)).map strD).map some, fun Y => IterOf.lst, ?_, ?_, fun L cs i y hx => ?_, ?_⟩
  · rw [List.length_map, hlw]; lia
  · simp
  · rw [List.getElem?_map] at hx
    cases hg : (waysN rg ln x)[i]? with
    | none => rw [hg] at hx; cases hx
    | some row =>
      rw [hg] at hx; cases hx
      have hi : i < ln + rg := by rw [← hlw]; exact (List.getElem?_eq_some_iff.mp hg).1
      have hrow : row = wayN rg ln x i := by rw [waysN_get hi] at hg; cases hg; rfl
      have hlen : row.length ≤ 2 := by rw [hrow]; exact wayN_len i
      walk_at "v"
      refine ⟨⟨rfl, trivial⟩, ?_⟩
      walk_at "v"
      refine ⟨fun _ => ?_, fun hc => by cases hc⟩
      refine WE.m1 (pl := _) ?_
      walk_at "v"
      refine ⟨_, _, fun Y => GetM.join, ?_⟩
      refine WL.cons (WE.comp [("names", strD nm)] ?_)
      walk_at "v"
      refine ⟨_, ((row.map fun z => [nm.getD z 0]).map strD).map some, fun Y => IterOf.lst, ?_, ?_, fun L cs j y hy => ?_, ?_⟩
      · rw [List.length_map]; lia
      · simp
      · rw [List.getElem?_map] at hy
        cases hg2 : row[j]? with
        | none => rw [hg2] at hy; cases hy
        | some z =>
          rw [hg2] at hy; cases hy
          have hz : z < nm.length := by rw [hnm]; exact wayN_lt hrg0 hi (by rw [← hrow]; exact List.mem_of_getElem? hg2)
          walk_at "v"
          refine ⟨⟨rfl, trivial⟩, ?_⟩
          walk_at "v"
          refine ⟨fun _ => ?_, fun hc => by cases hc⟩
          walk_at "v"
          refine SubW.str (c := nm.getD z 0) (by lia) (by lia) (by rw [Int.toNat_natCast]; simp [List.getElem?_eq_getElem hz]) ?_
          refine ⟨?_, rfl⟩
          rw [List.getElem?_map, List.getElem?_map, List.getElem?_map, hg2]; rfl
      · rw [filterMap_some]
        rw [show ((row.map fun z => [nm.getD z 0]).map strD) = ((row.map fun z => [nm.getD z 0]).map mk).map D.str by simp]
        walk_at "v"
        refine CallW.join (joinOk_mk _ ?_) ?_
        · rw [flat_one, List.length_map]; lia
        · rw [join_mk, flat_one]
          refine ⟨?_, rfl⟩
          rw [List.getElem?_map, List.getElem?_map, List.getElem?_map, hg]; rfl
  · rw [filterMap_some]
    exact hq
end
set_option tactic.hygienic false
theorem nextLine_eq (line : Int) (c : Nat) : nextLine line c = line + ([c].count 10 : Nat) := by
  unfold nextLine
  by_cases h : c = 10
  · subst h; simp
  · have h1 : (c == 10) = false := beq_eq_false_iff_ne.mpr h
    have h2 : (10 == c) = false := beq_eq_false_iff_ne.mpr (Ne.symm h)
    simp [h1, h2, h]
theorem cnt_cons (c : Nat) (l : List Nat) : ((c :: l).count 10 : Nat) = [c].count 10 + l.count 10 := by
  rw [← List.count_append]; rfl
theorem quoted_esc (rest : List Nat) : ∀ (w : List Nat) (line : Int) (tok : List Nat), quoted ((w.map (escOf [34, 92])).flatten ++ 34 :: rest) line tok = (tok ++ w, rest, line + (((w.map (escOf [34, 92])).flatten).count 10 : Nat)) := by
  intro w
  induction w with
  | nil => intro line tok; rw [List.map_nil, List.flatten_nil, List.nil_append, quoted_cons]; simp [nextLine_eq]
  | cons c r ih =>
    intro line tok
    rw [List.map_cons, List.flatten_cons, List.append_assoc]
    by_cases hc : c ∈ ([34, 92] : List Nat)
    · have e : escOf [34, 92] c = [92, c] := by unfold escOf; rw [if_pos hc]
      rw [e]
      show quoted (92 :: c :: ((r.map (escOf [34, 92])).flatten ++ 34 :: rest)) line tok = _
      rw [quoted_cons]
      simp only [show ((92 : Nat) == 34) = false from rfl, Bool.false_eq_true, if_false, beq_self_eq_true, if_true]
      rw [ih, nextLine_eq, nextLine_eq]
      have e2 : (([92, c] ++ (r.map (escOf [34, 92])).flatten).count 10 : Nat) = [92].count 10 + ([c].count 10 + ((r.map (escOf [34, 92])).flatten).count 10) := by
        rw [← cnt_cons c, ← cnt_cons 92]; rfl
      rw [e2, List.append_assoc]
      refine congr (congrArg _ rfl) (congr (congrArg _ rfl) ?_)
      lia
    · have e : escOf [34, 92] c = [c] := by unfold escOf; rw [if_neg hc]
      rw [e]
      show quoted (c :: ((r.map (escOf [34, 92])).flatten ++ 34 :: rest)) line tok = _
      rw [quoted_cons]
      have h1 : (c == 34) = false := beq_eq_false_iff_ne.mpr fun z => hc (by subst z; simp)
      have h2 : (c == 92) = false := beq_eq_false_iff_ne.mpr fun z => hc (by subst z; simp)
      simp only [h1, h2, Bool.false_eq_true, if_false]
      rw [ih, nextLine_eq]
      have e2 : (([c] ++ (r.map (escOf [34, 92])).flatten).count 10 : Nat) = [c].count 10 + ((r.map (escOf [34, 92])).flatten).count 10 := by
        rw [← cnt_cons c]; rfl
      rw [e2, List.append_assoc]
      refine congr (congrArg _ rfl) (congr (congrArg _ rfl) ?_)
      lia
theorem bare_esc (R : List Nat) (last : List Nat) (res : List Nat → Int → List Nat × List Nat × Int) (hlast : ∀ line tok, bare last line tok = res tok line) : ∀ (w : List Nat), (∀ c ∈ w, c ∉ R → isWs c = false ∧ c ≠ 92) → ∀ (line : Int) (tok : List Nat),
    bare ((w.map (escOf R)).flatten ++ last) line tok = res (tok ++ w) (line + (((w.map (escOf R)).flatten).count 10 : Nat)) := by
  intro w
  induction w with
  | nil => intro _ line tok; rw [List.map_nil, List.flatten_nil, List.nil_append, hlast]; simp
  | cons c r ih =>
    intro hw line tok
    have ih := ih fun x hx => hw x (List.mem_cons_of_mem _ hx)
    rw [List.map_cons, List.flatten_cons, List.append_assoc]
    by_cases hc : c ∈ R
    · have e : escOf R c = [92, c] := by unfold escOf; rw [if_pos hc]
      rw [e]
      show bare (92 :: c :: ((r.map (escOf R)).flatten ++ last)) line tok = _
      rw [bare_cons]
      simp only [show isWs 92 = false from rfl, Bool.false_eq_true, if_false, beq_self_eq_true, if_true]
      rw [ih, nextLine_eq, nextLine_eq]
      have e2 : (([92, c] ++ (r.map (escOf R)).flatten).count 10 : Nat) = [92].count 10 + ([c].count 10 + ((r.map (escOf R)).flatten).count 10) := by
        rw [← cnt_cons c, ← cnt_cons 92]; rfl
      rw [e2, List.append_assoc]
      refine congr (congrArg _ rfl) ?_
      lia
    · have e : escOf R c = [c] := by unfold escOf; rw [if_neg hc]
      rw [e]
      show bare (c :: ((r.map (escOf R)).flatten ++ last)) line tok = _
      rw [bare_cons]
      obtain ⟨h1, h2⟩ := hw c List.mem_cons_self hc
      have h2 : (c == 92) = false := beq_eq_false_iff_ne.mpr h2
      simp only [h1, h2, Bool.false_eq_true, if_false]
      rw [ih, nextLine_eq]
      have e2 : (([c] ++ (r.map (escOf R)).flatten).count 10 : Nat) = [c].count 10 + ((r.map (escOf R)).flatten).count 10 := by
        rw [← cnt_cons c]; rfl
      rw [e2, List.append_assoc]
      refine congr (congrArg _ rfl) ?_
      lia
theorem blank_ws (turn : Nat) : isWs (blankOf turn) = true := by
  unfold blankOf
  rcases (by lia : turn % 4 = 0 ∨ turn % 4 = 1 ∨ turn % 4 = 2 ∨ turn % 4 = 3) with e | e | e | e <;> rw [e] <;> rfl
/-- the first sign of a word that stands bare -/
theorem getTok_bare (R last : List Nat) (res : List Nat → Int → List Nat × List Nat × Int) (hlast : ∀ line tok, bare last line tok = res tok line) (w : List Nat) (hne : w ≠ []) (hw : ∀ c ∈ w, c ∉ R → isWs c = false ∧ c ≠ 92 ∧ c ≠ 34) (line : Int) :
    getTok ((w.map (escOf R)).flatten ++ last) line = res w (line + (((w.map (escOf R)).flatten).count 10 : Nat)) := by
  cases w with
  | nil => exact absurd rfl hne
  | cons c r =>
    have hb := bare_esc R last res hlast r fun x hx hxR => let ⟨a, b, _⟩ := hw x (List.mem_cons_of_mem _ hx) hxR; ⟨a, b⟩
    rw [List.map_cons, List.flatten_cons, List.append_assoc]
    by_cases hc : c ∈ R
    · have e : escOf R c = [92, c] := by unfold escOf; rw [if_pos hc]
      rw [e]
      show getTok (92 :: c :: ((r.map (escOf R)).flatten ++ last)) line = _
      rw [getTok_cons]
      simp only [show isWs 92 = false from rfl, show ((92 : Nat) == 34) = false from rfl, Bool.false_eq_true, if_false, beq_self_eq_true, if_true]
      rw [hb, nextLine_eq, nextLine_eq]
      have e2 : (([92, c] ++ (r.map (escOf R)).flatten).count 10 : Nat) = [92].count 10 + ([c].count 10 + ((r.map (escOf R)).flatten).count 10) := by
        rw [← cnt_cons c, ← cnt_cons 92]; rfl
      rw [e2]
      refine congr (congrArg _ rfl) ?_
      lia
    · have e : escOf R c = [c] := by unfold escOf; rw [if_neg hc]
      rw [e]
      show getTok (c :: ((r.map (escOf R)).flatten ++ last)) line = _
      rw [getTok_cons]
      obtain ⟨h1, h2, h3⟩ := hw c List.mem_cons_self hc
      have h2 : (c == 92) = false := beq_eq_false_iff_ne.mpr h2
      have h3 : (c == 34) = false := beq_eq_false_iff_ne.mpr h3
      simp only [h1, h2, h3, Bool.false_eq_true, if_false]
      rw [hb, nextLine_eq]
      have e2 : (([c] ++ (r.map (escOf R)).flatten).count 10 : Nat) = [c].count 10 + ((r.map (escOf R)).flatten).count 10 := by
        rw [← cnt_cons c]; rfl
      rw [e2]
      refine congr (congrArg _ rfl) ?_
      lia
theorem risky_ok (word : List Nat) (turn : Nat) (h0 : turn % 3 ≠ 0) : ∀ c ∈ word, c ∉ riskyOf word turn → isWs c = false ∧ c ≠ 92 ∧ c ≠ 34 := by
  intro c hc hn
  unfold riskyOf at hn
  rw [if_neg h0] at hn
  split at hn
  · simp only [List.mem_cons, List.not_mem_nil, or_false, not_or] at hn
    obtain ⟨a, b, d, e, f, g⟩ := hn
    refine ⟨?_, b, a⟩
    unfold isWs
    simp [d, e, f, g]
  · exact absurd hc hn
/-- a word that was written is read -/
theorem read_written (word : List Nat) (hne : word ≠ []) (turn : Nat) (rest : List Nat) (line : Int) : getTok (written word turn ++ rest) line = (word, rest, line + ((written word turn).count 10 : Nat)) := by
  unfold written
  by_cases h0 : turn % 3 = 0
  · simp only [h0, if_true]
    have hr : riskyOf word turn = [34, 92] := by unfold riskyOf; rw [if_pos h0]
    rw [hr]
    show getTok (blankOf turn :: 34 :: (((word.map (escOf [34, 92])).flatten ++ [34]) ++ rest)) line = _
    rw [getTok_cons, if_pos (blank_ws turn), getTok_cons]
    simp only [show isWs 34 = false from rfl, Bool.false_eq_true, if_false, beq_self_eq_true, if_true]
    rw [List.append_assoc, List.singleton_append, quoted_esc, nextLine_eq, nextLine_eq]
    simp only [List.nil_append, Prod.mk.injEq, true_and]
    show _ = line + ((([blankOf turn, 34] ++ (word.map (escOf [34, 92])).flatten ++ [34]).count 10 : Nat) : Int)
    rw [List.count_append, List.count_append, cnt_cons (blankOf turn) [34]]
    have : ([34] : List Nat).count 10 = 0 := by decide
    lia
  · simp only [h0, if_false]
    rw [List.append_assoc, List.singleton_append]
    rw [getTok_bare (riskyOf word turn) (blankOf turn :: rest) (fun tok l => (tok, rest, nextLine l (blankOf turn))) (fun l tok => by rw [bare_cons, if_pos (blank_ws turn)]) word hne (risky_ok word turn h0)]
    rw [nextLine_eq, List.count_append]
    simp only [Prod.mk.injEq, true_and]
    lia
/-- the last word lacks its last sign -/
theorem read_last (turn : Nat) (line : Int) : getTok (written [46] turn).dropLast line = ([46], [], line + (((written [46] turn).dropLast).count 10 : Nat)) := by
  unfold written
  by_cases h0 : turn % 3 = 0
  · simp only [h0, if_true]
    have hr : riskyOf [46] turn = [34, 92] := by unfold riskyOf; rw [if_pos h0]
    rw [hr]
    show getTok [blankOf turn, 34, 46] line = ([46], [], line + (([blankOf turn, 34, 46] : List Nat).count 10 : Nat))
    rw [getTok_cons, if_pos (blank_ws turn), getTok_cons]
    simp only [show isWs 34 = false from rfl, Bool.false_eq_true, if_false, beq_self_eq_true, if_true]
    rw [quoted_cons]
    simp only [show ((46 : Nat) == 34) = false from rfl, show ((46 : Nat) == 92) = false from rfl, Bool.false_eq_true, if_false]
    show (([46] : List Nat), ([] : List Nat), _) = _
    have e2 : (([blankOf turn, 34, 46] : List Nat).count 10 : Nat) = [blankOf turn].count 10 := by
      rw [cnt_cons (blankOf turn)]; simp
    have e1 : ([34] : List Nat).count 10 = 0 := by decide
    have e3 : ([46] : List Nat).count 10 = 0 := by decide
    rw [nextLine_eq, nextLine_eq, nextLine_eq, e2, e1, e3]
    simp
  · simp only [h0, if_false]
    rw [List.dropLast_concat]
    have := getTok_bare (riskyOf [46] turn) [] (fun tok l => (tok, [], l)) (fun l tok => rfl) [46] (by simp) (risky_ok [46] turn h0) line
    rw [List.append_nil] at this
    exact this
/-- the text of a list of words -/
noncomputable def wtext (turn : Nat) : List (List Nat) → List Nat
  | [] => []
  | w :: r => written w turn ++ wtext (turn + 1) r
set_option tactic.hygienic false
theorem D.eqv_self (d : D) (h : d.pure = true) : d.eqv d = true := PySem.SeqAt.eqv_refl _ (D.canLay d h)
theorem pure_str {l : List Nat} (h : ∀ c ∈ l, c < 1000) : (strD l).pure = true := by
  show PyData.strOk (mk l) = true
  unfold PyData.strOk
  rw [Array.all_eq_true]
  intro i hi
  have hi' : i < l.length := by simpa using hi
  have := h _ (List.getElem_mem hi')
  simp only [List.getElem_toArray, decide_eq_true_eq]
  lia
theorem pures_strs : ∀ l : List (List Nat), (∀ w ∈ l, ∀ c ∈ w, c < 1000) → D.pures (l.map strD) = true
  | [], _ => rfl
  | a :: r, h => by
    have h1 := pures_strs r fun w hw => h w (List.mem_cons_of_mem _ hw)
    have h2 := pure_str (h a List.mem_cons_self)
    show ((strD a).pure && D.pures (r.map strD)) = true
    rw [h1, h2]; rfl
theorem depth_strs : ∀ l : List (List Nat), PyData.depthAll (D.pys (l.map strD)) ≤ 1
  | [] => by simp [D.pys, PyData.depthAll]
  | a :: r => by
    have := depth_strs r
    simp only [List.map_cons, D.pys, PyData.depthAll, D.py, PyData.depth]
    lia
theorem wtext_flat : ∀ (ws : List (List Nat)) (t : Nat), ((List.range ws.length).map fun i => written (ws.getD i []) (t + i)).flatten = wtext t ws
  | [], t => rfl
  | w :: r, t => by
    rw [List.length_cons, List.range_succ_eq_map, List.map_cons, List.map_map, List.flatten_cons]
    have e : ((fun i => written ((w :: r).getD i []) (t + i)) ∘ Nat.succ) = fun i => written (r.getD i []) (t + 1 + i) := by
      funext i
      show written ((w :: r).getD (i + 1) []) (t + (i + 1)) = _
      rw [show t + (i + 1) = t + 1 + i by lia]; rfl
    rw [e, wtext_flat r (t + 1)]; rfl
theorem written_len (w : List Nat) (t : Nat) : (written w t).length ≤ 2 * w.length + 3 := by
  have key : ∀ (R : List Nat) (w : List Nat), (w.map (escOf R)).flatten.length ≤ 2 * w.length := by
    intro R w
    induction w with
    | nil => simp
    | cons c r ih =>
      rw [List.map_cons, List.flatten_cons, List.length_append, List.length_cons]
      have : (escOf R c).length ≤ 2 := by unfold escOf; split <;> simp
      lia
  have := key (riskyOf w t) w
  unfold written
  split <;> simp <;> simp at this <;> lia
theorem wtext_len : ∀ (ws : List (List Nat)) (t : Nat), (∀ w ∈ ws, w.length ≤ 10) → (wtext t ws).length ≤ 23 * ws.length
  | [], t, _ => by simp [wtext]
  | w :: r, t, h => by
    show (written w t ++ wtext (t + 1) r).length ≤ _
    rw [List.length_append, List.length_cons]
    have h1 := written_len w t
    have h2 := h w List.mem_cons_self
    have h3 := wtext_len r (t + 1) fun x hx => h x (List.mem_cons_of_mem _ hx)
    lia
section
variable {C : Cx} {led : Led} {k : Nat} {f : Addr} {z : GiZ} {Q : Fl → Vars → Led → Prop}
noncomputable def txOf (h2 : Nat) (words : List (List Nat)) : List Nat := (wtext (h2 / 8 % 12) (words ++ [[46]])).dropLast
noncomputable abbrev V7 (sc : D) (h0 h1 h2 h3 rg ln : Nat) (x : Nat → Nat) (nm : List Nat) (words : List (List Nat)) (tx : List Nat) : Vars := ("text", strD tx) :: V6 sc h0 h1 h2 h3 rg ln x nm words
theorem law7 {sc : D} {h0 h1 h2 h3 rg ln : Nat} {x : Nat → Nat} {nm : List Nat} {words : List (List Nat)} {fw : Addr} (N : NoG C) (hm : C.mg "_law_written" = some (.ref fw)) (hf : GFn C fw (top2 15)) (hwl : words.length ≤ 100) (hw : ∀ w ∈ words, w.length ≤ 10)
   
    (hq : Q .next (V7 sc h0 h1 h2 h3 rg ln x nm words (txOf h2 words)) led) :
    WS C led (lawFe f z) (V6 sc h0 h1 h2 h3 rg ln x nm words) (k + 20) (exec (lawS 7) (lawFe f z).env) Q := by
  refine WS.stmt (st' := .Assign _ _ _) rfl ?_
  have hdot : ("." : Str) = mk [46] := by decide +kernel
  have he : ("" : Str) = mk [] := by decide +kernel
  walk_at "v"
  refine WE.m1 (pl := _) ?_
  walk_at "v"
  refine ⟨_, _, fun Y => GetM.join, ?_⟩
  refine WL.cons (WE.compT [("heaps", nats [h0, h1, h2, h3])] ?_)
  refine WE.callY ?_
  walk_at "v"
  refine WE.list ?_
  walk_at "v"
  refine ⟨by simp, fun _ => Op2.addl (by simp; lia) ?_⟩
  rw [hdot]
  have hds : words.map strD ++ [D.str (mk [46])] = (words ++ [[46]]).map strD := by rw [List.map_append]; rfl
  rw [hds]
  have hal : ∀ w ∈ words ++ [[46]], w.length ≤ 10 := fun w h => by
    rcases List.mem_append.mp h with h | h
    · exact hw w h
    · rw [List.mem_singleton] at h; subst h; decide
  have hall : (words ++ [[46]]).length ≤ 101 := by simp; lia
  have htx : txOf h2 words = (wtext (h2 / 8 % 12) (words ++ [[46]])).dropLast := rfl
  generalize words ++ [[46]] = ws at *
  walk_at "v"
  refine CallW.enumerate fun e it hne he hit => ?_
  have hl2 : itl (upd (upd led it (.lit 0 (ws.map strD))) e (.raw (enumObj it))) (.itr e [it] (enumItems (ws.map strD))) = led := by
    show del (del (upd (upd led it _) e _) e) it = led
    rw [del_upd _ _ _ (by rw [upd_ne _ _ hne]; exact he), del_upd _ _ _ hit]
  refine ⟨_, ((List.range ws.length).map fun i => some (strD (written (ws.getD i []) (h2 / 8 % 12 + i)))), fun Y => IterOfT.enum (upd_same ..) (by rw [upd_ne _ _ hne.symm, upd_same]) hne, ?_, ?_, fun L cs i y hx => ?_, ?_⟩
  · rw [enumItems_length, List.length_map]; lia
  · rw [enumItems_length, List.length_map]; simp
  · rw [hl2]
    have hi : i < ws.length := by have := (List.getElem?_eq_some_iff.mp hx).1; rwa [enumItems_length, List.length_map] at this
    have hi2 : (ws.map strD)[i]? = some (strD (ws.getD i [])) := by rw [List.getElem?_map, List.getElem?_eq_getElem hi, List.getD_eq_getElem?_getD, List.getElem?_eq_getElem hi]; rfl
    rw [enumItems_get hi2] at hx
    cases hx
    have hwi : (ws.getD i []).length ≤ 10 := by rw [List.getD_eq_getElem?_getD, List.getElem?_eq_getElem hi]; exact hal _ (List.getElem_mem hi)
    have hout : ((List.range ws.length).map fun i => some (strD (written (ws.getD i []) (h2 / 8 % 12 + i))))[i]? = some (some (strD (written (ws.getD i []) (h2 / 8 % 12 + i)))) := by rw [List.getElem?_map, List.getElem?_range hi]; rfl
    walk_at "v"
    refine ⟨⟨rfl, trivial⟩, ?_⟩
    walk_at "v"
    refine ⟨fun _ => ?_, fun hc => by cases hc⟩
    refine WE.callY ?_
    walk_at "v"
    refine SubW.lst (d := natD h2) (by decide) (by decide) rfl ?_
    walk_at "v"
    refine Op2.fdivn 8 ?_
    walk_at "v"
    refine Op2.modn 12 ?_
    walk_at "v"
    rw [show (((h2 / 8 % 12 : Nat) : Int)) + (i : Int) = ((h2 / 8 % 12 + i : Nat) : Int) by lia]
    refine ⟨hf.keep, (written_spec (k := k) N hf (by lia) (by lia) ?_).up (by lia)⟩
    exact ⟨hout, rfl⟩
  · rw [hl2]
    have hlist : ((List.range ws.length).map fun i => some (strD (written (ws.getD i []) (h2 / 8 % 12 + i)))) = ((((List.range ws.length).map fun i => written (ws.getD i []) (h2 / 8 % 12 + i)).map mk).map D.str).map some := by simp [List.map_map, Function.comp_def]
    rw [hlist, filterMap_some]
    have hlen := wtext_len ws (h2 / 8 % 12) hal
    walk_at "v"
    refine CallW.join (joinOk_mk _ (by rw [wtext_flat]; lia)) ?_
    rw [join_mk, wtext_flat]
    walk_at "v"
    refine SliceW.str (lo := none) (hi := some (-1)) (by rw [mk_len]; lia) ?_
    rw [slice_butlast, ← htx]
    walk_at "v"
    exact hq
end
set_option tactic.hygienic false
structure LP where
  sc : D
  h0 : Nat
  h1 : Nat
  h2 : Nat
  h3 : Nat
  rg : Nat
  ln : Nat
  x : Nat → Nat
  nm : List Nat
  words : List (List Nat)
  tx : List Nat
noncomputable abbrev W7 (p : LP) : Vars := V7 p.sc p.h0 p.h1 p.h2 p.h3 p.rg p.ln p.x p.nm p.words p.tx
noncomputable abbrev W8 (p : LP) (A : LxA) : Vars := ("lexer", .ref A.x) :: W7 p
noncomputable abbrev W9 (p : LP) (A : LxA) : Vars := ("read", .lst (p.words.map strD)) :: W8 p A
noncomputable abbrev W11 (p : LP) (A : LxA) (ed : Nat) : Vars := ("edge", natD ed) :: W9 p A
noncomputable abbrev W12 (p : LP) (A : LxA) (ed ro : Nat) : Vars := ("rounds", natD ro) :: W11 p A ed
noncomputable abbrev lxV (A : LxA) : Vars := [("lexer", .ref A.x)]
theorem items_sgn (l : List Nat) : strItems (mk l) = l.map sgn := by simp [strItems]
section
variable {C : Cx} {led : Led} {k : Nat} {f : Addr} {z : GiZ} {Q : Fl → Vars → Led → Prop}
theorem law8 {p : LP} {cl fl c P : Addr} {mN : Str → Option Value} (N : NoG C) (E : NetEnv C cl mN) (hcl : C.mg "_netrclex" = some (.ref cl)) (hm : C.mg "_law_lexer" = some (.ref fl)) (h : GFnC C fl (top2 14) c "_law_lexer") (hct : C.ct c P)
    (hd1 : C.dq c posR = "_law_lexer.<locals>._law_read") (hd2 : C.dq c posL = "_law_lexer.<locals>.<lambda>") (hl : p.tx.length ≤ 100000)
   
    (hq : ∀ A B, LexOk B A cl → Q .next (W8 p A) (lexL B A 1 p.tx [])) :
    WS C led (lawFe f z) (W7 p) (k + 40) (exec (lawS 8) (lawFe f z).env) Q := by
  refine WS.stmt (st' := .Assign _ _ _) rfl ?_
  walk_at "v"
  refine WE.callY ?_
  walk_at "v"
  refine WE.callY ?_
  walk_at "v"
  refine CallW.list_strM (by show p.tx.toArray.size ≤ _; simp; lia) fun pg hpg => ?_
  rw [items_sgn]
  walk_at "v"
  refine ⟨h.fn.keep, (law_lexer_spec (k := k) E hcl h hct hd1 hd2 (upd_same ..) fun A B L e _ => ?_).up (by lia)⟩
  walk_at "v"
  exact hq A B L
theorem law9 {p : LP} {A : LxA} {B : Led} {cl : Addr} {mN : Str → Option Value} {T : Nat → List Nat} {Ln : Nat → Int} (N : NoG C) (E : NetEnv C cl mN) (LX : LexOk B A cl) (hT0 : T 0 = p.tx) (hL0 : Ln 0 = 1) (hwl : p.words.length ≤ 100)
    (hal : ∀ i, i ≤ p.words.length → (∀ c ∈ T i, c ∈ alph) ∧ (T i).length ≤ 100000)
    (hT : ∀ i w, p.words[i]? = some w → getTok (T i) (Ln i) = (w, T (i + 1), Ln (i + 1)))
   
    (hq : Q .next (W9 p A) (lexL B A (Ln p.words.length) (T p.words.length) [])) :
    WS C (lexL B A 1 p.tx []) (lawFe f z) (W8 p A) (k + 40) (exec (lawS 9) (lawFe f z).env) Q := by
  obtain ⟨fg, mg⟩ := E.gt
  obtain ⟨og, go1, go2, go3⟩ := mg.obj
  refine WS.stmt (st' := .Assign _ _ _) rfl ?_
  walk_at "v"
  refine WE.listcomp ?_
  walk_at "v"
  refine ⟨p.words.map strD, fun i vs' led' acc => i ≤ p.words.length ∧ vs' = lxV A ∧ led' = lexL B A (Ln i) (T i) [] ∧ acc = (p.words.take i).map strD, fun Y => IterOf.lst, ⟨lxV A, ?_, Nat.zero_le _, rfl, ?_, ?_⟩, ?_, ?_⟩
  · exact ⟨rfl, trivial⟩
  · rw [hT0, hL0]; rfl
  · rfl
  · rintro L cs Da i x vs2 led2 acc2 hx ⟨hi, rfl, rfl, rfl⟩
    rw [List.getElem?_map] at hx
    cases hg : p.words[i]? with
    | none => rw [hg] at hx; cases hx
    | some w =>
      rw [hg] at hx; cases hx
      have hil := (List.getElem?_eq_some_iff.mp hg).1
      walk_at "v"
      refine ⟨fun _ => WC.last rfl ?_, fun hc => by cases hc⟩
      refine WE.m1 (pl := _) ?_
      walk_at "v"
      refine ⟨_, _, fun Y => GetM.inst E.cls (lexL_x LX) (lexL_dx LX) mg.at_ go1 go3 go2 ol6 rfl, ?_⟩
      walk_at "v"
      have ht := hT i w hg
      refine ⟨mg.fn.keep, (get_token_spec (k := k) N E mg.fn LX (hal i hi).1 (hal i hi).2 (by simp) (fun d r e => by cases e) fun _ => ?_).up (by lia)⟩
      rw [ht]
      refine ⟨by rw [List.length_map, List.length_take]; lia, lxV A, ⟨rfl, trivial⟩, hil, rfl, rfl, ?_⟩
      rw [List.take_add_one, hg, List.map_append]; rfl
  · rintro vs2 led2 acc2 ⟨hi, rfl, rfl, rfl⟩
    rw [List.length_map, List.take_length]
    walk_at "v"
    exact hq
theorem law10 {p : LP} {A : LxA} (N : NoG C) (hp : ∀ w ∈ p.words, ∀ c ∈ w, c < 1000)
   
    (hq : Q .next (W9 p A) led) :
    WS C led (lawFe f z) (W9 p A) (k + 40) (exec (lawS 10) (lawFe f z).env) Q := by
  refine WS.stmt (st' := .If _ _ _ _) rfl ?_
  walk_at "v"
  have hpu : (D.lst (p.words.map strD)).pure = true := pures_strs _ hp
  refine Op2.ned hpu hpu (.inl ?_) ?_
  · have := depth_strs p.words
    show (PyData.list (D.pys (p.words.map strD))).depth ≤ 20
    rw [PyData.depth]; lia
  rw [D.eqv_self _ hpu]
  walk_at "v"
  refine ⟨fun hc => (by cases hc), fun _ => ?_⟩
  walk_at "v"
  exact hq
theorem law11 {p : LP} {A : LxA} (N : NoG C) (hrg : 1 ≤ p.rg) (hrg2 : p.rg ≤ 8)
   
    (hq : Q .next (W11 p A (p.ln + n0Of p.rg)) led) :
    WS C led (lawFe f z) (W9 p A) (k + 40) (exec (lawS 11) (lawFe f z).env) Q := by
  refine WS.stmt (st' := .Assign _ _ _) rfl ?_
  walk_at "v"
  refine Op2.pow (by decide) (by decide) (by lia) ?_
  rw [show ((p.rg : Int) - 1) = ((p.rg - 1 : Nat) : Int) by lia, show ((p.rg - 1 : Nat) : Int) ^ (2 : Int).toNat = (((p.rg - 1) ^ 2 : Nat) : Int) by rw [Int.natCast_pow]; rfl]
  walk_at "v"
  rw [show (p.ln : Int) + (((p.rg - 1) ^ 2 : Nat) : Int) + 1 = ((p.ln + n0Of p.rg : Nat) : Int) by unfold n0Of; lia]
  exact hq
theorem law12 {p : LP} {A : LxA} {ed : Nat} (N : NoG C) (hrg2 : p.rg ≤ 8)
   
    (hq : Q .next (W12 p A ed (ed + 2 * p.rg)) led) :
    WS C led (lawFe f z) (W11 p A ed) (k + 40) (exec (lawS 12) (lawFe f z).env) Q := by
  refine WS.stmt (st' := .Assign _ _ _) rfl ?_
  walk_at "v"
  refine Op2.mul ?_ (.inl (by decide))
  walk_at "v"
  rw [show (ed : Int) + 2 * (p.rg : Int) = ((ed + 2 * p.rg : Nat) : Int) by lia]
  exact hq
end
set_option tactic.hygienic false
noncomputable abbrev metD (ro : Nat) (S : Nat → List Nat) : D := .lst ((List.range (ro + 1)).map fun i => strD (S i))
noncomputable abbrev W13 (p : LP) (A : LxA) (ed ro : Nat) (S : Nat → List Nat) : Vars := ("met", metD ro S) :: W12 p A ed ro
noncomputable abbrev restL (F : List Nat) : List D := F.map sgn ++ [strD [46], strD []]
noncomputable abbrev W14 (p : LP) (A : LxA) (ed ro : Nat) (S : Nat → List Nat) : Vars := ("rest", .lst (restL (S ro))) :: W13 p A ed ro S
theorem pures_sgn : ∀ l : List Nat, (∀ c ∈ l, c < 1000) → D.pures (l.map sgn) = true
  | [], _ => rfl
  | a :: r, h => by
    have h1 := pures_sgn r fun w hw => h w (List.mem_cons_of_mem _ hw)
    have h2 : (sgn a).pure = true := pure_str (l := [a]) fun c hc => by rw [List.mem_singleton] at hc; subst hc; exact h c List.mem_cons_self
    show ((sgn a).pure && D.pures (r.map sgn)) = true
    rw [h1, h2]; rfl
theorem pures_append : ∀ l m : List D, D.pures l = true → D.pures m = true → D.pures (l ++ m) = true
  | [], m, _, h => h
  | a :: r, m, h, h2 => by
    have h' : a.pure = true ∧ D.pures r = true := by simpa [D.pures] using h
    show (a.pure && D.pures (r ++ m)) = true
    rw [h'.1, pures_append r m h'.2 h2]; rfl
theorem depth_flat : ∀ l : List D, (∀ d ∈ l, d.py.depth ≤ 1) → PyData.depthAll (D.pys l) ≤ 1
  | [], _ => by simp [D.pys, PyData.depthAll]
  | a :: r, h => by
    have := depth_flat r fun d hd => h d (List.mem_cons_of_mem _ hd)
    have := h a List.mem_cons_self
    simp only [D.pys, PyData.depthAll]
    lia
theorem mk_app (a b : List Nat) : mk a ++ mk b = mk (a ++ b) := by show (⟨a.toArray ++ b.toArray⟩ : Str) = ⟨(a ++ b).toArray⟩; simp
section
variable {C : Cx} {led : Led} {k : Nat} {f : Addr} {z : GiZ} {Q : Fl → Vars → Led → Prop}
theorem law13 {p : LP} {A : LxA} {B : Led} {ed ro : Nat} {line : Int} {text : List Nat} {cl fw : Addr} {mN : Str → Option Value} (N : NoG C) (E : NetEnv C cl mN) (LX : LexOk B A cl) (hm : C.mg "_law_walk" = some (.ref fw)) (hf : GFn C fw (top2 16))
    (hal : ∀ c ∈ text, c ∈ alph) (htl : text.length ≤ 100000) (hnd : p.nm.Nodup) (hn0 : 0 < p.nm.length) (hn8 : p.nm.length ≤ 60) (hrl : p.words.length = p.nm.length) (hr : ∀ row ∈ p.words, ∀ c ∈ row, c ∈ p.nm) (hrr : ro ≤ 1000)
   
    (hq : Q .next (W13 p A ed ro (itS p.nm p.words)) (lexL B A line text ((itS p.nm p.words ro).map sgn))) :
    WS C (lexL B A line text []) (lawFe f z) (W12 p A ed ro) (k + 40) (exec (lawS 13) (lawFe f z).env) Q := by
  refine WS.stmt (st' := .Assign _ _ _) rfl ?_
  walk_at "v"
  refine WE.callY ?_
  walk_at "v"
  refine ⟨hf.keep, (walk_spec (k := k) N E hf LX hal htl hnd hn0 hn8 hrl hr hrr ?_).up (by lia)⟩
  walk_at "v"
  exact hq
theorem getTok_nil (line : Int) : getTok [] line = ([], [], line) := rfl
theorem law14 {p : LP} {A : LxA} {B : Led} {ed ro : Nat} {S : Nat → List Nat} {line line2 : Int} {text : List Nat} {cl : Addr} {mN : Str → Option Value} (N : NoG C) (E : NetEnv C cl mN) (LX : LexOk B A cl) (hro : ro ≤ 1000) (hS : (S ro).length ≤ 60)
    (hal : ∀ c ∈ text, c ∈ alph) (htl : text.length ≤ 100000) (hT : getTok text line = ([46], [], line2))
   
    (hq : Q .next (W14 p A ed ro S) (lexL B A line2 [] [])) :
    WS C (lexL B A line text ((S ro).map sgn)) (lawFe f z) (W13 p A ed ro S) (k + 40) (exec (lawS 14) (lawFe f z).env) Q := by
  obtain ⟨fg, mg⟩ := E.gt
  obtain ⟨og, go1, go2, go3⟩ := mg.obj
  refine WS.stmt (st' := .Assign _ _ _) rfl ?_
  have hdd : (".." : Str) = mk [46, 46] := by decide +kernel
  refine WS.assign_comp ?_ (.inl rfl)
  walk_at "v"
  refine SubW.lst_neg (d := strD (S ro)) (by decide) (by simp; lia) (by simp; lia) ?_ ?_
  · rw [List.length_map, List.length_range, show (-1 + ((ro + 1 : Nat) : Int)).toNat = ro by lia, List.getElem?_map, List.getElem?_range (by lia)]; rfl
  walk_at "v"
  rw [hdd]
  refine Op2.adds ?_ (by rw [mk_len, mk_len]; simp; lia)
  rw [mk_app]
  have hrl : (restL (S ro)).length = (S ro).length + 2 := by simp
  have hg1 : ∀ i c, (S ro)[i]? = some c → (restL (S ro))[i]? = some (sgn c) := fun i c h => by
    have hi := (List.getElem?_eq_some_iff.mp h).1
    rw [List.getElem?_append_left (by simpa using hi), List.getElem?_map, h]; rfl
  have hg2 : (restL (S ro))[(S ro).length]? = some (strD [46]) := by rw [List.getElem?_append_right (by simp)]; simp
  have hg3 : (restL (S ro))[(S ro).length + 1]? = some (strD []) := by rw [List.getElem?_append_right (by simp)]; simp
  have hq : Q .next (vset (W13 p A ed ro S) "rest" (.lst (restL (S ro)))) (lexL B A line2 [] []) := hq
  generalize hR : restL (S ro) = R at *
  generalize hF : S ro = F at *
  refine ⟨(F ++ [46, 46]).map sgn, fun i vs' led' acc => i ≤ F.length + 2 ∧ vs' = lxV A ∧ led' = (if i ≤ F.length then lexL B A line text ((F.drop i).map sgn) else lexL B A line2 [] []) ∧ acc = R.take i, fun Y => ?_, ⟨lxV A, ?_, Nat.zero_le _, rfl, ?_, ?_⟩, ?_, ?_⟩
  · rw [← items_sgn]; exact IterOf.str
  · exact ⟨rfl, trivial⟩
  · rw [if_pos (Nat.zero_le _)]; rfl
  · rfl
  · rintro L cs Da i x vs2 led2 acc2 hx ⟨hi, rfl, rfl, rfl⟩
    have hil : i < F.length + 2 := by have := (List.getElem?_eq_some_iff.mp hx).1; simpa using this
    have hacc : (R.take i).length ≤ 1000000 := by rw [List.length_take]; lia
    walk_at "v"
    refine ⟨fun _ => WC.last rfl ?_, fun hc => by cases hc⟩
    by_cases h1 : i < F.length
    · rw [if_pos (by lia)]
      have hd : F.drop i = F[i] :: F.drop (i + 1) := List.drop_eq_getElem_cons h1
      rw [hd]
      refine WE.m1 (pl := _) ?_
      walk_at "v"
      refine ⟨_, _, fun Y => GetM.inst E.cls (lexL_x LX) (lexL_dx LX) mg.at_ go1 go3 go2 ol6 rfl, ?_⟩
      walk_at "v"
      refine ⟨mg.fn.keep, (get_token_spec (k := k) N E mg.fn LX hal htl (by simp; lia) (fun d r e => ?_) fun e => by cases e).up (by lia)⟩
      cases e
      refine ⟨hacc, lxV A, ⟨rfl, trivial⟩, by lia, rfl, ?_, ?_⟩
      · rw [if_pos (by lia)]
      · rw [List.take_add_one, hg1 i F[i] (List.getElem?_eq_getElem h1)]; rfl
    · by_cases h2 : i = F.length
      · subst h2
        rw [if_pos (Nat.le_refl _), List.drop_length]
        refine WE.m1 (pl := _) ?_
        walk_at "v"
        refine ⟨_, _, fun Y => GetM.inst E.cls (lexL_x LX) (lexL_dx LX) mg.at_ go1 go3 go2 ol6 rfl, ?_⟩
        walk_at "v"
        refine ⟨mg.fn.keep, (get_token_spec (k := k) N E mg.fn LX hal htl (by simp) (fun d r e => by cases e) fun e => ?_).up (by lia)⟩
        rw [hT]
        refine ⟨hacc, lxV A, ⟨rfl, trivial⟩, by lia, rfl, ?_, ?_⟩
        · rw [if_neg (by lia)]
        · rw [List.take_add_one, hg2]; rfl
      · have h3 : i = F.length + 1 := by lia
        subst h3
        rw [if_neg (by lia)]
        refine WE.m1 (pl := _) ?_
        walk_at "v"
        refine ⟨_, _, fun Y => GetM.inst E.cls (lexL_x LX) (lexL_dx LX) mg.at_ go1 go3 go2 ol6 rfl, ?_⟩
        walk_at "v"
        refine ⟨mg.fn.keep, (get_token_spec (k := k) N E mg.fn LX (fun c hc => by cases hc) (by simp) (by simp) (fun d r e => by cases e) fun e => ?_).up (by lia)⟩
        rw [getTok_nil]
        refine ⟨hacc, lxV A, ⟨rfl, trivial⟩, by lia, rfl, ?_, ?_⟩
        · rw [if_neg (by lia)]
        · rw [List.take_add_one (i := F.length + 1), hg3]; rfl
  · rintro vs2 led2 acc2 ⟨hi, rfl, rfl, rfl⟩
    rw [List.length_map, List.length_append, if_neg (by simp), List.take_of_length_le (by simp; lia)]
    exact hq
theorem law15 {p : LP} {A : LxA} {B : Led} {ed ro : Nat} {S : Nat → List Nat} {line2 : Int} {cl : Addr} {mN : Str → Option Value} (N : NoG C) (E : NetEnv C cl mN) (LX : LexOk B A cl) (hro : ro ≤ 1000) (hS : (S ro).length ≤ 60) (hc : ∀ c ∈ S ro, c < 1000)
    (hcnt : line2 = 1 + Txt.count (mk p.tx) "\n")
   
    (hq : Q .next (W14 p A ed ro S) (lexL B A line2 [] [])) :
    WS C (lexL B A line2 [] []) (lawFe f z) (W14 p A ed ro S) (k + 40) (exec (lawS 15) (lawFe f z).env) Q := by
  refine WS.stmt (st' := .If _ _ _ _) rfl ?_
  have hdot : ("." : Str) = mk [46] := by decide +kernel
  have he : ("" : Str) = mk [] := by decide +kernel
  walk_at "v"
  refine WE.callY ?_
  walk_at "v"
  refine SubW.lst_neg (d := strD (S ro)) (by decide) (by simp; lia) (by simp; lia) ?_ ?_
  · rw [List.length_map, List.length_range, show (-1 + ((ro + 1 : Nat) : Int)).toNat = ro by lia, List.getElem?_map, List.getElem?_range (by lia)]; rfl
  walk_at "v"
  refine CallW.list_str (by show (S ro).toArray.size ≤ _; simp; lia) ?_
  rw [items_sgn]
  refine WE.list ?_
  walk_at "v"
  refine ⟨by simp, fun _ => Op2.addl (by simp; lia) ?_⟩
  rw [hdot, he]
  have hpu : (D.lst (restL (S ro))).pure = true := by
    refine pures_append _ _ (pures_sgn _ hc) ?_
    exact pures_strs [[46], []] (by intro w hw c hc; simp at hw; rcases hw with rfl | rfl <;> simp at hc; lia)
  refine fun _ => Op2.ned (d := .lst (restL (S ro))) hpu hpu (.inl ?_) ?_
  · have := depth_flat (restL (S ro)) fun d hd => by
      rcases List.mem_append.mp hd with h | h
      · obtain ⟨c, _, rfl⟩ := List.mem_map.mp h; show (PyData.str _).depth ≤ 1; simp [PyData.depth]
      · simp at h; rcases h with rfl | rfl <;> (show (PyData.str _).depth ≤ 1; simp [PyData.depth])
    show (PyData.list (D.pys (restL (S ro)))).depth ≤ 20
    rw [PyData.depth]; lia
  rw [show D.lst ((S ro).map sgn ++ [D.str (mk [46]), D.str (mk [])]) = D.lst (restL (S ro)) from rfl, D.eqv_self _ hpu]
  walk_at "v"
  refine ⟨fun _ => ?_, fun hc => by cases hc⟩
  walk_at "v"
  refine GetA.inst E.cls (lexL_x LX) (lexL_dx LX) E.n1 ol1 rfl (fun _ z => by cases z) ?_
  walk_at "v"
  refine WE.m1 (pl := _) ?_
  walk_at "v"
  refine ⟨_, _, fun Y => GetM.count, ?_⟩
  walk_at "v"
  refine CallW.count ?_
  walk_at "v"
  rw [show (line2 != 1 + Txt.count (mk p.tx) "\n") = false by rw [← hcnt]; simp]
  refine ⟨fun _ => ?_, fun hc => by cases hc⟩
  walk_at "v"
  refine ⟨fun hc => (by cases hc), fun _ => ?_⟩
  walk_at "v"
  exact hq
end
set_option tactic.hygienic false
theorem sum_natCast : ∀ (l : List Nat) (g : Nat → Nat), (l.map fun x => ((g x : Nat) : Int)).sum = (((l.map g).sum : Nat) : Int)
  | [], g => rfl
  | a :: r, g => by rw [List.map_cons, List.sum_cons, sum_natCast r g, List.map_cons, List.sum_cons]; lia
theorem pow2_le {i : Nat} (h : i < 19) : ((2 ^ i : Nat) : Int) ≤ 1000000 := by
  have : 2 ^ i ≤ 2 ^ 18 := Nat.pow_le_pow_right (by decide) (by lia)
  have : (2 : Nat) ^ 18 ≤ 1000000 := by decide
  lia
noncomputable def pows (row : List Nat) : List Int := row.map fun x => ((2 ^ x : Nat) : Int)
theorem pows_sum (row : List Nat) : (pows row).sum = ((maskN row : Nat) : Int) := sum_natCast row (2 ^ ·)
theorem pows_ok {row : List Nat} (h : ∀ x ∈ row, x < 19) (hl : row.length ≤ 1000) : SumOk (pows row) := by
  refine sumOk_small (fun n hn => ?_) (by unfold pows; rw [List.length_map]; lia)
  obtain ⟨x, hx, rfl⟩ := List.mem_map.mp hn
  exact ⟨Int.natCast_nonneg _, pow2_le (h x hx)⟩
theorem pow2_nat (i : Nat) : (2 : Int) ^ ((i : Int)).toNat = ((2 ^ i : Nat) : Int) := by rw [Int.toNat_natCast, Int.natCast_pow]; rfl
theorem pures_nats : ∀ l : List Nat, D.pures (l.map natD) = true
  | [] => rfl
  | a :: r => by have := pures_nats r; show (true && D.pures (r.map natD)) = true; rw [this]; rfl
noncomputable abbrev W16 (p : LP) (A : LxA) (ed ro : Nat) (S : Nat → List Nat) (ms : List Nat) : Vars := ("masks", nats ms) :: W14 p A ed ro S
noncomputable def lenOf (S : Nat → List Nat) (ro c : Nat) : List Nat := (List.range (ro + 1)).filter fun i => decide (c ∈ S i)
noncomputable abbrev W18 (p : LP) (A : LxA) (ed ro : Nat) (S : Nat → List Nat) (ms : List Nat) : Vars := ("lengths", .lst (p.nm.map fun c => nats (lenOf S ro c))) :: W16 p A ed ro S ms
theorem filterMap_if (P : Nat → Bool) (l : List Nat) : ((l.map fun i => if P i then some (natD i) else none).filterMap id) = (l.filter P).map natD := by
  induction l with
  | nil => rfl
  | cons a r ih =>
    rw [List.map_cons, List.filter_cons]
    cases h : P a
    · simp [ih]
    · simp [ih]
section
variable {C : Cx} {led : Led} {k : Nat} {f : Addr} {z : GiZ} {Q : Fl → Vars → Led → Prop}
theorem law16 {p : LP} {A : LxA} {ed ro : Nat} {S : Nat → List Nat} {fr fa : Addr} (N : NoG C) (hm : C.mg "_law_rounds" = some (.ref fr)) (hf : GFn C fr (top2 18)) (hma : C.mg "_law_after" = some (.ref fa)) (hfa : GFn C fa (top2 17))
    (hrg0 : 0 < p.rg) (hrg : p.rg ≤ 8) (hln : p.ln ≤ 8) (hro : ro ≤ 1000)
   
    (hq : Q .next (W16 p A ed ro S (roundsL (wrowsN p.rg p.ln p.x) ro)) led) :
    WS C led (lawFe f z) (W14 p A ed ro S) (k + 40) (exec (lawS 16) (lawFe f z).env) Q := by
  refine WS.stmt (st' := .Assign _ _ _) rfl ?_
  have hlw := waysN_len (rg := p.rg) (ln := p.ln) (x := p.x)
  walk_at "v"
  refine WE.callY ?_
  walk_at "v"
  refine WE.comp [] ?_
  walk_at "v"
  refine ⟨_, ((wrowsN p.rg p.ln p.x).map natD).map some, fun Y => IterOf.lst, ?_, ?_, fun L cs i y hx => ?_, ?_⟩
  · rw [List.length_map, hlw]; lia
  · simp [wrowsN]
  · rw [List.getElem?_map] at hx
    cases hg : (waysN p.rg p.ln p.x)[i]? with
    | none => rw [hg] at hx; cases hx
    | some row =>
      rw [hg] at hx; cases hx
      have hi : i < p.ln + p.rg := by rw [← hlw]; exact (List.getElem?_eq_some_iff.mp hg).1
      have hrow : row = wayN p.rg p.ln p.x i := by rw [waysN_get hi] at hg; cases hg; rfl
      have hlen : row.length ≤ 2 := by rw [hrow]; exact wayN_len i
      have hlt : ∀ z ∈ row, z < 19 := fun z hz => by have := wayN_lt hrg0 hi (by rw [← hrow]; exact hz); lia
      walk_at "v"
      refine ⟨trivial, ?_⟩
      walk_at "v"
      refine ⟨fun _ => ?_, fun hc => by cases hc⟩
      refine WE.callY ?_
      walk_at "v"
      refine WE.comp [] ?_
      walk_at "v"
      refine ⟨_, ((pows row).map .int).map some, fun Y => IterOf.lst, ?_, ?_, fun L cs j y hy => ?_, ?_⟩
      · rw [List.length_map]; lia
      · simp [pows]
      · rw [List.getElem?_map] at hy
        cases hg2 : row[j]? with
        | none => rw [hg2] at hy; cases hy
        | some z =>
          rw [hg2] at hy; cases hy
          have hz := hlt z (List.mem_of_getElem? hg2)
          walk_at "v"
          refine ⟨trivial, ?_⟩
          walk_at "v"
          refine ⟨fun _ => ?_, fun hc => by cases hc⟩
          walk_at "v"
          refine Op2.pow (by lia) (by lia) (by decide) ?_
          rw [pow2_nat]
          refine ⟨?_, rfl⟩
          unfold pows
          rw [List.getElem?_map, List.getElem?_map, List.getElem?_map, hg2]; rfl
      · rw [filterMap_some]
        walk_at "v"
        refine CallW.sum (pows_ok hlt (by lia)) ?_
        rw [pows_sum]
        refine ⟨?_, rfl⟩
        unfold wrowsN
        rw [List.getElem?_map, List.getElem?_map, List.getElem?_map, hg]; rfl
  · rw [filterMap_some]
    walk_at "v"
    refine ⟨hf.keep, (rounds_spec (k := k) N hf hma hfa (by simp [wrowsN, hlw]; lia) (by lia) ?_).up (by lia)⟩
    walk_at "v"
    exact hq
theorem law17 {p : LP} {A : LxA} {ed ro : Nat} {S : Nat → List Nat} {ms : List Nat} (N : NoG C) (hro : ro ≤ 1000) (hnd : p.nm.Nodup) (hn : p.nm.length ≤ 18) (hS : ∀ i, (S i).length ≤ 60) (hSm : ∀ i, ∀ c ∈ S i, c ∈ p.nm)
    (hms : (List.range (ro + 1)).map (fun i => maskN ((S i).map p.nm.idxOf)) = ms)
   
    (hq : Q .next (W16 p A ed ro S ms) led) :
    WS C led (lawFe f z) (W16 p A ed ro S ms) (k + 40) (exec (lawS 17) (lawFe f z).env) Q := by
  refine WS.stmt (st' := .If _ _ _ _) rfl ?_
  walk_at "v"
  refine WE.comp [("names", strD p.nm)] ?_
  walk_at "v"
  refine ⟨_, (((List.range (ro + 1)).map (fun i => maskN ((S i).map p.nm.idxOf))).map natD).map some, fun Y => IterOf.lst, ?_, ?_, fun L cs i y hx => ?_, ?_⟩
  · simp; lia
  · simp
  · have hi : i < ro + 1 := by have := (List.getElem?_eq_some_iff.mp hx).1; simpa using this
    rw [List.getElem?_map, List.getElem?_range hi] at hx
    cases hx
    have hSi := hS i
    have hSmi := hSm i
    have hout : ((((List.range (ro + 1)).map (fun i => maskN ((S i).map p.nm.idxOf))).map natD).map some)[i]? = some (some (natD (maskN ((S i).map p.nm.idxOf)))) := by
      rw [List.getElem?_map, List.getElem?_map, List.getElem?_map, List.getElem?_range hi]; rfl
    walk_at "v"
    refine ⟨⟨rfl, trivial⟩, ?_⟩
    walk_at "v"
    refine ⟨fun _ => ?_, fun hc => by cases hc⟩
    refine WE.callY ?_
    walk_at "v"
    refine WE.comp [("names", strD p.nm)] ?_
    walk_at "v"
    have hlt : ∀ z ∈ (S i).map p.nm.idxOf, z < 19 := fun z hz => by
      obtain ⟨c, hc, rfl⟩ := List.mem_map.mp hz
      have := List.idxOf_lt_length_iff.mpr (hSmi c hc); lia
    refine ⟨_, ((pows ((S i).map p.nm.idxOf)).map .int).map some, fun Y => IterOf.str, ?_, ?_, fun L cs j y hy => ?_, ?_⟩
    · rw [items_sgn, List.length_map]; lia
    · rw [items_sgn]; simp [pows]
    · rw [items_sgn, List.getElem?_map] at hy
      cases hg2 : (S i)[j]? with
      | none => rw [hg2] at hy; cases hy
      | some c =>
        rw [hg2] at hy; cases hy
        have hc := hSmi c (List.mem_of_getElem? hg2)
        have hil := List.idxOf_lt_length_iff.mpr hc
        have hget : p.nm[p.nm.idxOf c]? = some c := by rw [List.getElem?_eq_getElem hil, List.getElem_idxOf]
        obtain ⟨rest, hocc⟩ := idx_one hnd hget
        walk_at "v"
        refine ⟨⟨rfl, trivial⟩, ?_⟩
        walk_at "v"
        refine ⟨fun _ => ?_, fun hc => by cases hc⟩
        walk_at "v"
        refine WE.m1 (pl := _) ?_
        walk_at "v"
        refine ⟨_, _, fun Y => GetM.index, ?_⟩
        walk_at "v"
        refine CallW.index hocc ?_
        refine fun _ => Op2.pow (by lia) (by lia) (by decide) ?_
        rw [pow2_nat]
        refine ⟨?_, rfl⟩
        unfold pows
        rw [List.getElem?_map, List.getElem?_map, List.getElem?_map, List.getElem?_map, hg2]; rfl
    · rw [filterMap_some]
      walk_at "v"
      refine CallW.sum (pows_ok hlt (by rw [List.length_map]; lia)) ?_
      rw [pows_sum]
      exact ⟨hout, rfl⟩
  · rw [filterMap_some, hms]
    walk_at "v"
    have hpu : (D.lst (ms.map natD)).pure = true := pures_nats ms
    refine Op2.ned hpu hpu (.inl ?_) ?_
    · have := depth_flat (ms.map natD) fun d hd => by
        obtain ⟨c, _, rfl⟩ := List.mem_map.mp hd; show (PyData.int _).depth ≤ 1; simp [PyData.depth]
      show (PyData.list (D.pys (ms.map natD))).depth ≤ 20
      rw [PyData.depth]; lia
    rw [D.eqv_self _ hpu]
    walk_at "v"
    refine ⟨fun hc => (by cases hc), fun _ => ?_⟩
    walk_at "v"
    exact hq
theorem law18 {p : LP} {A : LxA} {ed ro : Nat} {S : Nat → List Nat} {ms : List Nat} (N : NoG C) (hro : ro ≤ 1000) (hn : p.nm.length ≤ 18)
   
    (hq : Q .next (W18 p A ed ro S ms) led) :
    WS C led (lawFe f z) (W16 p A ed ro S ms) (k + 40) (exec (lawS 18) (lawFe f z).env) Q := by
  refine WS.stmt (st' := .Assign _ _ _) rfl ?_
  walk_at "v"
  refine WE.comp [("met", metD ro S), ("rounds", natD ro)] ?_
  walk_at "v"
  refine ⟨_, (p.nm.map fun c => some (nats (lenOf S ro c))), fun Y => IterOf.str, ?_, ?_, fun L cs i y hx => ?_, ?_⟩
  · rw [items_sgn, List.length_map]; lia
  · rw [items_sgn]; simp
  · rw [items_sgn, List.getElem?_map] at hx
    cases hg : p.nm[i]? with
    | none => rw [hg] at hx; cases hx
    | some c =>
      rw [hg] at hx; cases hx
      walk_at "v"
      refine ⟨⟨rfl, rfl, trivial⟩, ?_⟩
      walk_at "v"
      refine ⟨fun _ => ?_, fun hc => by cases hc⟩
      refine WE.comp [("name", sgn c), ("met", metD ro S)] ?_
      refine WE.callY ?_
      walk_at "v"
      refine ⟨_, ((List.range (ro + 1)).map fun i => if decide (c ∈ S i) = true then some (natD i) else none), fun Y => IterOf.rng (by lia) (by lia) (by lia) (by lia), ?_, ?_, fun L cs j y hy => ?_, ?_⟩
      · rw [rngItems_length]; lia
      · rw [rngItems_length]; simp
      · obtain ⟨rfl, hj⟩ := rngItems_get hy
        have hj : j < ro + 1 := by lia
        simp only [Int.zero_add]
        have hout : ((List.range (ro + 1)).map fun i => if decide (c ∈ S i) = true then some (natD i) else none)[j]? = some (if decide (c ∈ S j) = true then some (natD j) else none) := by
          rw [List.getElem?_map, List.getElem?_range hj]; rfl
        walk_at "v"
        refine ⟨⟨rfl, rfl, trivial⟩, ?_⟩
        walk_at "v"
        refine SubW.lst (d := strD (S j)) (by lia) (by lia) (by rw [Int.toNat_natCast, List.getElem?_map, List.getElem?_range hj]; rfl) ?_
        refine fun _ => Op2.ins ?_
        rw [in_one]
        walk_at "v"
        refine ⟨fun hb => ?_, fun hb => ?_⟩
        · walk_at "v"
          refine ⟨?_, rfl⟩
          rw [hout, hb]; rfl
        · refine ⟨?_, rfl⟩
          rw [hout, hb]; rfl
      · rw [filterMap_if]
        refine ⟨?_, rfl⟩
        rw [List.getElem?_map, hg]; rfl
  · rw [show (p.nm.map fun c => some (nats (lenOf S ro c))) = (p.nm.map fun c => nats (lenOf S ro c)).map some by simp, filterMap_some]
    walk_at "v"
    exact hq
end
set_option tactic.hygienic false
/-- a list that a cell of the frame holds is written no more -/
theorem WS.freeze_cell {C : Cx} {led : Led} {fe : Fe} {vs : Vars} {k : Nat} {t : Sem Flow} {Q : Fl → Vars → Led → Prop} {x : Str} {a : Addr} {xs : List D} (h : WS C (del led a) fe (vset vs x (.lst xs)) k t Q) (hl : led a = some (.list xs))
    (hx : autoParam (vs.lookup x = some (.ref a)) rflA) (hk : autoParam ((fe.env.kindOf x == some .cell && fe.ow.contains x) = true) rflA) : WS C led fe vs k t Q := by
  intro F X hF hd A fz G s hA S
  simp only [Bool.and_eq_true, beq_iff_eq, List.contains_iff_mem] at hk
  obtain ⟨hk, hxo⟩ := hk
  obtain ⟨c, dd, hc, hFc⟩ := hF.own x hxo
  obtain ⟨c', hc', hcx⟩ := hF.cel x _ hx (by rw [hk]; decide)
  rw [hc] at hc'; cases hc'
  rw [Un_left hFc] at hcx
  cases hcx
  obtain ⟨fz', l, e, S'⟩ := S.freezeL hl
  obtain ⟨v₀, ho, hv⟩ := S'.at (Un_left hFc)
  have hv2 : v₀ = some (.ref a) := by
    cases v₀ with
    | none => exact hv.elim
    | some v => cases hv; rfl
  subst hv2
  obtain ⟨S2, d2⟩ := S'.frame hd hFc (m := .cell (some (.lst xs))) (h' := s.heap) s.toks (fun b o _ e => e) ⟨some (.ref a), ho, e⟩
  refine wpAny_mono (h _ X (hF.put_cell hd hk hc hFc) d2 A fz' G s hA S2) (fun f s1 p => ?_) fun _ _ e => e
  exact p.trans l (.refl _)
noncomputable def hdOf (S : Nat → List Nat) (ro c : Nat) : Nat := (lenOf S ro c).headD 0
noncomputable def gainK (S : Nat → List Nat) (ro : Nat) (nm : List Nat) (words : List (List Nat)) (k : Nat) : List Int := (words.getD k []).map fun c => (hdOf S ro c : Int) - hdOf S ro (nm.getD k 0) - 1
noncomputable def gainsOf (S : Nat → List Nat) (ro : Nat) (nm : List Nat) (words : List (List Nat)) (n : Nat) : List Int := ((List.range n).map (gainK S ro nm words)).flatten
theorem gainsOf_succ (S : Nat → List Nat) (ro : Nat) (nm : List Nat) (words : List (List Nat)) (n : Nat) : gainsOf S ro nm words (n + 1) = gainsOf S ro nm words n ++ gainK S ro nm words n := by
  unfold gainsOf; rw [List.range_succ, List.map_append, List.flatten_append]; simp
theorem gainsOf_len (S : Nat → List Nat) (ro : Nat) (nm : List Nat) (words : List (List Nat)) (hw : ∀ w ∈ words, w.length ≤ 10) : ∀ n, (gainsOf S ro nm words n).length ≤ 10 * n
  | 0 => by simp [gainsOf]
  | n + 1 => by
    rw [gainsOf_succ, List.length_append]
    have := gainsOf_len S ro nm words hw n
    have : (gainK S ro nm words n).length ≤ 10 := by
      unfold gainK
      rw [List.length_map, List.getD_eq_getElem?_getD]
      cases h : words[n]? with
      | none => simp
      | some w => exact hw w (List.mem_of_getElem? h)
    lia
noncomputable abbrev lensD (p : LP) (ro : Nat) (S : Nat → List Nat) : D := .lst (p.nm.map fun c => nats (lenOf S ro c))
noncomputable abbrev gvs (p : LP) (ro : Nat) (S : Nat → List Nat) : Vars := [("lengths", lensD p ro S), ("read", .lst (p.words.map strD)), ("names", strD p.nm)]
noncomputable abbrev gvk (p : LP) (ro : Nat) (S : Nat → List Nat) (i : Nat) : Vars := ("k", natD i) :: gvs p ro S
noncomputable abbrev W19 (p : LP) (A : LxA) (ed ro : Nat) (S : Nat → List Nat) (ms : List Nat) (gs : List Int) : Vars := ("gains", .lst (gs.map .int)) :: W18 p A ed ro S ms
noncomputable abbrev W20 (p : LP) (A : LxA) (ed ro : Nat) (S : Nat → List Nat) (ms : List Nat) (gs : List Int) (ask : Addr) : Vars := ("asked", .ref ask) :: W19 p A ed ro S ms gs
noncomputable abbrev W21 (p : LP) (A : LxA) (ed ro : Nat) (S : Nat → List Nat) (ms : List Nat) (gs : List Int) (ask : Addr) (st : Nat) : Vars := ("step", natD st) :: W20 p A ed ro S ms gs ask
noncomputable abbrev W22 (p : LP) (A : LxA) (ed ro : Nat) (S : Nat → List Nat) (ms : List Nat) (gs : List Int) (ask : Addr) (st fr : Nat) : Vars := ("far", natD fr) :: W21 p A ed ro S ms gs ask st
noncomputable abbrev W23 (p : LP) (A : LxA) (ed ro : Nat) (S : Nat → List Nat) (ms : List Nat) (gs : List Int) (ask : Addr) (st fr tu : Nat) : Vars := ("turned", natD tu) :: W22 p A ed ro S ms gs ask st fr
section
variable {C : Cx} {led : Led} {k : Nat} {f : Addr} {z : GiZ} {Q : Fl → Vars → Led → Prop}
theorem law19 {p : LP} {A : LxA} {ed ro : Nat} {S : Nat → List Nat} {ms : List Nat} (N : NoG C) (hrg : p.rg ≤ 8) (hln : p.ln ≤ 8) (hnd : p.nm.Nodup) (hn : p.nm.length = p.ln + p.rg) (hwl : p.words.length = p.ln + p.rg) (hw : ∀ w ∈ p.words, w.length ≤ 10) (hwm : ∀ w ∈ p.words, ∀ c ∈ w, c ∈ p.nm)
    (hne : ∀ c ∈ p.nm, lenOf S ro c ≠ [])
   
    (hq : Q .next (W19 p A ed ro S ms (gainsOf S ro p.nm p.words (p.ln + p.rg))) led) :
    WS C led (lawFe f z) (W18 p A ed ro S ms) (k + 40) (exec (lawS 19) (lawFe f z).env) Q := by
  refine WS.stmt (st' := .Assign _ _ _) rfl ?_
  have hhd : ∀ c ∈ p.nm, (((lenOf S ro c).map natD))[0]? = some (natD (hdOf S ro c)) := fun c hc => by
    have := hne c hc
    unfold hdOf
    cases h : lenOf S ro c with
    | nil => exact absurd h this
    | cons a r => rfl
  have hlidx : ∀ {i c}, p.nm[i]? = some c → (p.nm.map fun c => nats (lenOf S ro c))[i]? = some (nats (lenOf S ro c)) := fun h => by rw [List.getElem?_map, h]; rfl
  refine WS.assign_comp ?_ (.inl rfl)
  refine WE.callY ?_
  walk_at "v"
  rw [show (p.ln : Int) + (p.rg : Int) = ((p.ln + p.rg : Nat) : Int) by lia]
  refine ⟨_, fun i vs' led' acc => i ≤ p.ln + p.rg ∧ vs' = gvs p ro S ∧ led' = led ∧ acc = (gainsOf S ro p.nm p.words i).map .int, fun Y => IterOf.rng (by lia) (by lia) (by lia) (by lia), ⟨gvs p ro S, ?_, Nat.zero_le _, rfl, rfl, rfl⟩, ?_, ?_⟩
  · exact ⟨rfl, rfl, rfl, trivial⟩
  · rintro L cs Da i x vs2 led2 acc2 hx ⟨hi, rfl, rfl, rfl⟩
    obtain ⟨rfl, hi⟩ := rngItems_get hx
    simp only [Int.sub_zero, Int.toNat_natCast] at hi
    simp only [Int.zero_add]
    have hwi : p.words[i]? = some (p.words.getD i []) := by rw [List.getD_eq_getElem?_getD, List.getElem?_eq_getElem (by lia)]; rfl
    have hni : p.nm[i]? = some (p.nm.getD i 0) := by rw [List.getD_eq_getElem?_getD, List.getElem?_eq_getElem (by lia)]; rfl
    have hw1 := hw _ (List.mem_of_getElem? hwi)
    have hw2 := hwm _ (List.mem_of_getElem? hwi)
    have hgk : gainK S ro p.nm p.words i = (p.words.getD i []).map fun c => (hdOf S ro c : Int) - hdOf S ro (p.nm.getD i 0) - 1 := rfl
    have hgs := gainsOf_succ S ro p.nm p.words i
    have hgl := gainsOf_len S ro p.nm p.words hw i
    walk_at "v"
    refine ⟨fun _ => WC.nest rfl ?_ (fun g hg => by cases hg), fun hc => by cases hc⟩
    walk_at "v"
    refine SubW.lst (d := strD (p.words.getD i [])) (by lia) (by lia) (by rw [Int.toNat_natCast, List.getElem?_map, hwi]; rfl) ?_
    generalize p.words.getD i [] = w at *
    refine ⟨_, fun j vs' led' acc => j ≤ w.length ∧ vs' = gvk p ro S i ∧ led' = led2 ∧ acc = (gainsOf S ro p.nm p.words i).map .int ++ ((gainK S ro p.nm p.words i).take j).map .int, fun Y => IterOf.str, ⟨gvk p ro S i, ?_, Nat.zero_le _, rfl, rfl, by simp⟩, ?_, ?_⟩
    · exact ⟨rfl, rfl, rfl, rfl, trivial⟩
    · rintro j y vs3 led3 acc3 hy ⟨hj, rfl, rfl, rfl⟩
      rw [items_sgn, List.getElem?_map] at hy
      cases hg2 : w[j]? with
      | none => rw [hg2] at hy; cases hy
      | some c =>
        rw [hg2] at hy; cases hy
        have hc := hw2 c (List.mem_of_getElem? hg2)
        have hil := List.idxOf_lt_length_iff.mpr hc
        have hget : p.nm[p.nm.idxOf c]? = some c := by rw [List.getElem?_eq_getElem hil, List.getElem_idxOf]
        obtain ⟨rest, hocc⟩ := idx_one hnd hget
        have hjl := (List.getElem?_eq_some_iff.mp hg2).1
        walk_at "v"
        refine ⟨fun _ => WC.last rfl ?_, fun hc => by cases hc⟩
        walk_at "v"
        refine WE.m1 (pl := _) ?_
        walk_at "v"
        refine ⟨_, _, fun Y => GetM.index, ?_⟩
        walk_at "v"
        refine CallW.index hocc ?_
        refine fun _ => SubW.lst (d := nats (lenOf S ro c)) (by lia) (by lia) (by rw [Int.toNat_natCast]; exact hlidx hget) ?_
        walk_at "v"
        refine SubW.lst (d := natD (hdOf S ro c)) (by lia) (by lia) (hhd c hc) ?_
        walk_at "v"
        refine SubW.lst (d := nats (lenOf S ro (p.nm.getD i 0))) (by lia) (by lia) (by rw [Int.toNat_natCast]; exact hlidx hni) ?_
        walk_at "v"
        refine SubW.lst (d := natD (hdOf S ro (p.nm.getD i 0))) (by lia) (by lia) (hhd _ (List.mem_of_getElem? hni)) ?_
        walk_at "v"
        refine ⟨?_, gvk p ro S i, ⟨rfl, rfl, rfl, rfl, trivial⟩, hjl, rfl, rfl, ?_⟩
        · simp only [List.length_append, List.length_map, List.length_take]; lia
        · rw [List.take_add_one, List.append_assoc, List.map_append]
          congr 2
          rw [hgk, List.getElem?_map, hg2]; rfl
    · rintro vs3 led3 acc3 ⟨hj, rfl, rfl, rfl⟩
      refine ⟨gvs p ro S, ⟨rfl, rfl, rfl, trivial⟩, hi, rfl, rfl, ?_⟩
      rw [hgs, List.map_append, items_sgn, List.length_map, List.take_of_length_le (by rw [hgk, List.length_map]; lia)]
  · rintro vs2 led2 acc2 ⟨hi, rfl, rfl, rfl⟩
    rw [rngItems_length, Int.sub_zero, Int.toNat_natCast]
    exact hq
theorem law20 {p : LP} {A : LxA} {ed ro : Nat} {S : Nat → List Nat} {ms : List Nat} {gs : List Int}
   
    (hq : ∀ ask, led ask = none → Q .next (W20 p A ed ro S ms gs ask) (upd led ask (.list []))) :
    WS C led (lawFe f z) (W19 p A ed ro S ms gs) (k + 40) (exec (lawS 20) (lawFe f z).env) Q := by
  refine WS.stmt (st' := .Assign _ _ _) rfl ?_
  walk_at "v"
  refine WE.listM ?_
  walk_at "v"
  refine ⟨by simp, fun ask ha => ?_⟩
  walk_at "v"
  exact hq ask ha
theorem law21 {p : LP} {A : LxA} {ed ro : Nat} {S : Nat → List Nat} {ms : List Nat} {gs : List Int} {ask fm fr : Addr} {st : Nat} (V : DivEnv C) (hm : C.mg "_law_measure" = some (.ref fm)) (hf : GFn C fm (top2 21)) (hmr : C.mg "_law_rest" = some (.ref fr)) (hfr : GFn C fr (top2 20))
    (ha : led ask = some (.list [])) (hrg : p.rg ≤ 8) (hgl : gs.length ≤ 1000) (hgs : ∀ g ∈ gs, g.natAbs ≤ 100) (hstep : measureI p.rg gs = -(st : Int))
   
    (hq : ∀ log, LogOk log → log.length ≤ 101000 → Q .next (W21 p A ed ro S ms gs ask st) (upd led ask (.list (log.map rowD)))) :
    WS C led (lawFe f z) (W20 p A ed ro S ms gs ask) (k + 120) (exec (lawS 21) (lawFe f z).env) Q := by
  refine WS.stmt (st' := .Assign _ _ _) rfl ?_
  have N := V.N
  walk_at "v"
  refine WE.callY ?_
  walk_at "v"
  refine ⟨hf.keep, (measure_spec (k := k) V hf hmr hfr ha hgl (by lia) hgs fun log h1 h2 => ?_).up (by lia)⟩
  walk_at "v"
  rw [hstep, Int.neg_neg]
  exact hq log h1 h2
theorem law22 {p : LP} {A : LxA} {ed ro : Nat} {S : Nat → List Nat} {ms : List Nat} {gs : List Int} {ask : Addr} {st : Nat}
   
    (hq : Q .next (W22 p A ed ro S ms gs ask st (ro + p.h3 % 4000)) led) :
    WS C led (lawFe f z) (W21 p A ed ro S ms gs ask st) (k + 40) (exec (lawS 22) (lawFe f z).env) Q := by
  refine WS.stmt (st' := .Assign _ _ _) rfl ?_
  walk_at "v"
  refine SubW.lst (d := natD p.h3) (by decide) (by decide) rfl ?_
  walk_at "v"
  refine Op2.modn 4000 ?_
  walk_at "v"
  exact hq
theorem law23 {p : LP} {A : LxA} {ed ro : Nat} {S : Nat → List Nat} {ms : List Nat} {gs : List Int} {ask fr : Addr} {st fa tu : Nat} {log : List (Int × Int)} (V : DivEnv C) (hmr : C.mg "_law_rest" = some (.ref fr)) (hfr : GFn C fr (top2 20))
    (ha : led ask = some (.list (log.map rowD))) (hlog : LogOk log) (hll : log.length ≤ 200000) (hst0 : 0 < st) (hst1 : st ≤ 100) (hfa : fa ≤ 100000) (hln : p.ln ≤ 8) (htu : ((p.ln : Int) - fa).fmod st = (tu : Int))
   
    (hq : ∀ log', LogOk log' → log'.length ≤ log.length + 1 → Q .next (W23 p A ed ro S ms gs ask st fa tu) (upd led ask (.list (log'.map rowD)))) :
    WS C led (lawFe f z) (W22 p A ed ro S ms gs ask st fa) (k + 120) (exec (lawS 23) (lawFe f z).env) Q := by
  refine WS.stmt (st' := .Assign _ _ _) rfl ?_
  have N := V.N
  walk_at "v"
  refine WE.callY ?_
  walk_at "v"
  refine ⟨hfr.keep, (rest_spec (k := k) V hfr ha (by rw [List.length_map]; lia) (by lia) (by lia) (by lia) ?_).up (by lia)⟩
  have hlk : LogOk (log ++ [((p.ln : Int) - fa, (st : Int))]) := fun r hr => by
    rcases List.mem_append.mp hr with h | h
    · exact hlog r h
    · rw [List.mem_singleton] at h; subst h; exact ⟨by simp only; lia, by simp only; lia, by simp only; lia⟩
  have := hq _ hlk (by simp)
  rw [List.map_append] at this
  rw [htu]
  have h2 : rowD ((p.ln : Int) - fa, (st : Int)) = .tup [.int ((p.ln : Int) - fa), .int st, .int (((p.ln : Int) - fa).fdiv st), .int tu] := by unfold rowD; simp only; rw [htu]
  rw [List.map_cons, List.map_nil, h2] at this
  walk_at "v"
  exact this
end
set_option tactic.hygienic false
noncomputable def selK (S : Nat → List Nat) (ro : Nat) (nm : List Nat) (ln st tu k : Nat) : Bool := (((hdOf S ro (nm.getD (ln + k) 0) : Int) - ln + tu).fmod st) == 0
noncomputable abbrev W24 (p : LP) (A : LxA) (ed ro : Nat) (S : Nat → List Nat) (ms : List Nat) (gs : List Int) (ask : Addr) (st fr tu th : Nat) : Vars := ("there", natD th) :: W23 p A ed ro S ms gs ask st fr tu
noncomputable abbrev W25 (p : LP) (A : LxA) (ed ro : Nat) (S : Nat → List Nat) (ms : List Nat) (gs : List Int) (ask : Addr) (st fr tu th : Nat) (log : List (Int × Int)) : Vars := ("asked", .lst (log.map rowD)) :: W24 p A ed ro S ms gs ask st fr tu th
noncomputable abbrev tvs (p : LP) (ro : Nat) (S : Nat → List Nat) (ask : Addr) (st tu : Nat) : Vars := [("turned", natD tu), ("step", natD st), ("asked", .ref ask), ("lengths", lensD p ro S), ("lane", natD p.ln)]
section
variable {C : Cx} {led : Led} {k : Nat} {f : Addr} {z : GiZ} {Q : Fl → Vars → Led → Prop}
theorem law24 {p : LP} {A : LxA} {ed ro : Nat} {S : Nat → List Nat} {ms : List Nat} {gs : List Int} {ask fr : Addr} {st fa tu : Nat} {log : List (Int × Int)} (V : DivEnv C) (hmr : C.mg "_law_rest" = some (.ref fr)) (hfr : GFn C fr (top2 20))
    (ha : led ask = some (.list (log.map rowD))) (hlog : LogOk log) (hll : log.length ≤ 200000) (hst0 : 0 < st) (hst1 : st ≤ 100) (hln : p.ln ≤ 8) (hrg : p.rg ≤ 8) (hn : p.nm.length = p.ln + p.rg) (htu : tu ≤ 100) (hro : ro ≤ 1000)
    (hne : ∀ c ∈ p.nm, lenOf S ro c ≠ []) (hhl : ∀ c ∈ p.nm, hdOf S ro c ≤ 1000)
   
    (hq : ∀ log', LogOk log' → log'.length ≤ log.length + 100 → Q .next (W24 p A ed ro S ms gs ask st fa tu (maskN ((List.range p.rg).filter (selK S ro p.nm p.ln st tu)))) (upd led ask (.list (log'.map rowD)))) :
    WS C led (lawFe f z) (W23 p A ed ro S ms gs ask st fa tu) (k + 120) (exec (lawS 24) (lawFe f z).env) Q := by
  refine WS.stmt (st' := .Assign _ _ _) rfl ?_
  have N := V.N
  walk_at "v"
  refine WE.callY ?_
  walk_at "v"
  refine WE.listcomp ?_
  refine WE.callY ?_
  walk_at "v"
  refine ⟨_, fun i vs' led' acc => i ≤ p.rg ∧ vs' = tvs p ro S ask st tu ∧ (∃ log', LogOk log' ∧ log'.length ≤ log.length + i ∧ led' = upd led ask (.list (log'.map rowD))) ∧ acc = (pows ((List.range i).filter (selK S ro p.nm p.ln st tu))).map .int, fun Y => IterOf.rng (by lia) (by lia) (by lia) (by lia), ⟨tvs p ro S ask st tu, ?_, Nat.zero_le _, rfl, ⟨log, hlog, by lia, ?_⟩, rfl⟩, ?_, ?_⟩
  · exact ⟨rfl, rfl, rfl, rfl, rfl, trivial⟩
  · exact (upd_id _ _ _ ha).symm
  · rintro L cs Da i x vs2 led2 acc2 hx ⟨hi, rfl, ⟨log1, hl1, hl2, rfl⟩, rfl⟩
    obtain ⟨rfl, hi⟩ := rngItems_get hx
    simp only [Int.sub_zero, Int.toNat_natCast] at hi
    simp only [Int.zero_add]
    have hni : p.nm[p.ln + i]? = some (p.nm.getD (p.ln + i) 0) := by rw [List.getD_eq_getElem?_getD, List.getElem?_eq_getElem (by lia)]; rfl
    have hmem := List.mem_of_getElem? hni
    have hhd : (((lenOf S ro (p.nm.getD (p.ln + i) 0)).map natD))[0]? = some (natD (hdOf S ro (p.nm.getD (p.ln + i) 0))) := by
      have := hne _ hmem
      unfold hdOf
      cases h : lenOf S ro (p.nm.getD (p.ln + i) 0) with
      | nil => exact absurd h this
      | cons a r => rfl
    have hh1 := hhl _ hmem
    have hsel : selK S ro p.nm p.ln st tu i = ((((hdOf S ro (p.nm.getD (p.ln + i) 0) : Int) - p.ln + tu).fmod st) == 0) := rfl
    have hfil : (List.range (i + 1)).filter (selK S ro p.nm p.ln st tu) = (List.range i).filter (selK S ro p.nm p.ln st tu) ++ (if selK S ro p.nm p.ln st tu i then [i] else []) := by
      rw [List.range_succ, List.filter_append, List.filter_cons]; rfl
    have hfl : ((List.range i).filter (selK S ro p.nm p.ln st tu)).length ≤ i := by have := List.length_filter_le (selK S ro p.nm p.ln st tu) (List.range i); rw [List.length_range] at this; exact this
    generalize hdOf S ro (p.nm.getD (p.ln + i) 0) = h0 at *
    walk_at "v"
    refine WE.callY ?_
    walk_at "v"
    refine SubW.lst (d := nats (lenOf S ro (p.nm.getD (p.ln + i) 0))) (by lia) (by lia) (by rw [show ((p.ln : Int) + (i : Int)).toNat = p.ln + i by lia, List.getElem?_map, hni]; rfl) ?_
    walk_at "v"
    refine SubW.lst (d := natD h0) (by lia) (by lia) hhd ?_
    walk_at "v"
    refine ⟨hfr.keep, (rest_spec (k := k) V hfr (upd_same ..) (by rw [List.length_map]; lia) (by lia) (by lia) (by lia) ?_).up (by lia)⟩
    have hlk : LogOk (log1 ++ [((h0 : Int) - p.ln + tu, (st : Int))]) := fun r hr => by
      rcases List.mem_append.mp hr with h | h
      · exact hl1 r h
      · rw [List.mem_singleton] at h; subst h; exact ⟨by simp only; lia, by simp only; lia, by simp only; lia⟩
    rw [upd_upd, show log1.map rowD ++ [D.tup [.int ((h0 : Int) - p.ln + tu), .int (st : Int), .int (((h0 : Int) - p.ln + tu).fdiv st), .int (((h0 : Int) - p.ln + tu).fmod st)]] = (log1 ++ [((h0 : Int) - p.ln + tu, (st : Int))]).map rowD by rw [List.map_append]; rfl]
    walk_at "v"
    refine ⟨fun hb => WC.last rfl ?_, fun hb => ?_⟩
    · walk_at "v"
      refine Op2.pow (by lia) (by lia) (by decide) ?_
      rw [pow2_nat]
      refine ⟨?_, tvs p ro S ask st tu, ⟨rfl, rfl, rfl, rfl, rfl, trivial⟩, hi, rfl, ⟨_, hlk, by rw [List.length_append]; simp; lia, rfl⟩, ?_⟩
      · unfold pows; rw [List.length_map, List.length_map]; lia
      · rw [hfil, hsel, hb]; unfold pows; simp
    · refine ⟨tvs p ro S ask st tu, ⟨rfl, rfl, rfl, rfl, rfl, trivial⟩, hi, rfl, ⟨_, hlk, by rw [List.length_append]; simp; lia, rfl⟩, ?_⟩
      rw [hfil, hsel, hb]; simp
  · rintro vs2 led2 acc2 ⟨hi, rfl, ⟨log1, hl1, hl2, rfl⟩, rfl⟩
    rw [rngItems_length, Int.sub_zero, Int.toNat_natCast] at *
    walk_at "v"
    refine CallW.sum (pows_ok (fun z hz => ?_) ?_) ?_
    · have := List.mem_range.mp (List.mem_filter.mp hz).1; lia
    · have := List.length_filter_le (selK S ro p.nm p.ln st tu) (List.range p.rg); rw [List.length_range] at this; lia
    rw [pows_sum]
    walk_at "v"
    exact hq log1 hl1 (by lia)
theorem law25 {p : LP} {A : LxA} {ed ro : Nat} {S : Nat → List Nat} {ms : List Nat} {gs : List Int} {ask : Addr} {st fa tu th : Nat} {log : List (Int × Int)} 
    (ha : led ask = some (.list (log.map rowD))) (hlog : LogOk log) (hll : log.length ≤ 300000)
   
    (hq : Q .next (W25 p A ed ro S ms gs ask st fa tu th log) (del led ask)) :
    WS C led (lawFe f z) (W24 p A ed ro S ms gs ask st fa tu th) (k + 120) (exec (lawS 25) (lawFe f z).env) Q := by
  refine WS.stmt (st' := .If _ _ _ _) rfl ?_
  refine WS.freeze_cell (x := "asked") ?_ ha
  walk_at "v"
  refine WE.comp [] ?_
  walk_at "v"
  refine ⟨_, log.map fun _ => none, fun Y => IterOf.lst, ?_, ?_, fun L cs i y hx => ?_, ?_⟩
  · rw [List.length_map]; lia
  · simp
  · rw [List.getElem?_map] at hx
    cases hg : log[i]? with
    | none => rw [hg] at hx; cases hx
    | some r =>
      rw [hg] at hx; cases hx
      obtain ⟨h1, h2, h3⟩ := hlog r (List.mem_of_getElem? hg)
      obtain ⟨x, y⟩ := r
      have hy : y ≠ 0 := h1
      have hy2 : y.natAbs < 2 ^ 64 := by simp only at h3; lia
      walk_at "v"
      refine ⟨trivial, ?_⟩
      walk_at "v"
      refine SliceW.tup_from (a := 2) (by decide) (by simp) (by simp) ?_
      walk_at "v"
      refine SubW.tup (d := .int x) (by decide) (by decide) rfl ?_
      walk_at "v"
      refine SubW.tup (d := .int y) (by decide) (by decide) rfl ?_
      walk_at "v"
      refine Op2.fdiv hy ?_ hy2
      walk_at "v"
      refine SubW.tup (d := .int x) (by decide) (by decide) rfl ?_
      walk_at "v"
      refine SubW.tup (d := .int y) (by decide) (by decide) rfl ?_
      walk_at "v"
      refine Op2.mod hy ?_
      walk_at "v"
      refine ⟨by simp, ?_⟩
      have hpu : (D.tup [.int (x.fdiv y), .int (x.fmod y)]).pure = true := rfl
      refine fun _ => Op2.ned (d := .tup [.int (x.fdiv y), .int (x.fmod y)]) hpu hpu (.inl (by simp [D.py, D.pys, PyData.depth, PyData.depthAll])) ?_
      rw [D.eqv_self _ hpu]
      walk_at "v"
      refine ⟨fun hc => (by cases hc), fun _ => ⟨?_, rfl⟩⟩
      rw [List.getElem?_map, hg]; rfl
  · rw [show ((log.map fun _ => (none : Option D)).filterMap id) = [] by simp]
    refine WE.list ?_
    walk_at "v"
    refine ⟨by simp, ?_⟩
    refine fun _ => Op2.ned (d := .lst []) rfl rfl (.inl (by decide)) ?_
    walk_at "v"
    refine ⟨fun hc => absurd hc (by decide), fun _ => ?_⟩
    walk_at "v"
    exact hq
end
set_option tactic.hygienic false
noncomputable abbrev W26 (p : LP) (ed ro : Nat) (S : Nat → List Nat) (st fa th : Nat) : Vars := [("there", natD th), ("far", natD fa), ("step", natD st), ("lengths", lensD p ro S), ("rounds", natD ro), ("edge", natD ed), ("turns", .lst ((turnsN p.rg p.x).map nats)), ("lane", natD p.ln), ("ring", natD p.rg)]
noncomputable def intL (l : List Nat) : List Int := l.map fun (n : Nat) => (n : Int)
theorem intL_D (l : List Nat) : (intL l).map D.int = l.map natD := by unfold intL; rw [List.map_map]; rfl
theorem intL_len (l : List Nat) : (intL l).length = l.length := by unfold intL; rw [List.length_map]
theorem gapsL_len (l : List Int) : (gapsL l).length = l.length := by simp [gapsL]
noncomputable def kwnOf (S : Nat → List Nat) (ro lim c : Nat) : List Int := intL ((lenOf S ro c).filter fun n => decide (n < lim))
noncomputable def tailT (ln st t : Nat) : List Int := if ln ≤ t then [(st : Int), 0] else [127, 1]
noncomputable def tailD (ln st t : Nat) : List Int := if ln ≤ t then [(st : Int)] else []
noncomputable def dueT (S : Nat → List Nat) (ro c ln st t : Nat) : List Int := gapsL (intL (lenOf S ro c)) ++ tailD ln st t
theorem pures_ints : ∀ l : List Int, D.pures (l.map .int) = true
  | [] => rfl
  | a :: r => by have := pures_ints r; show (true && D.pures (r.map .int)) = true; rw [this]; rfl
theorem lenOf_len (S : Nat → List Nat) (ro c : Nat) : (lenOf S ro c).length ≤ ro + 1 := by
  have := List.length_filter_le (fun i => decide (c ∈ S i)) (List.range (ro + 1)); rw [List.length_range] at this; exact this
section
variable {C : Cx} {led : Led} {k : Nat} {f : Addr} {z : GiZ} {Q : Fl → Vars → Led → Prop}
theorem law26 {p : LP} {A : LxA} {ed ro : Nat} {S : Nat → List Nat} {ms : List Nat} {gs : List Int} {ask fg ft a : Addr} {st fa tu th : Nat} {log : List (Int × Int)} (E0 : GiEnv C a) (hmi : C.mg "_grouping_intervals" = some (.ref a))
    (hmg : C.mg "_law_gaps" = some (.ref fg)) (hfg : GFn C fg (top2 23)) (hmt : C.mg "_law_told" = some (.ref ft)) (hft : GFn C ft (top2 22))
    (hln : p.ln ≤ 8) (hln0 : 0 < p.ln) (hrg : p.rg ≤ 8) (hn : p.nm.length = p.ln + p.rg) (hro : ro ≤ 900)
    (hT : ∀ t, t < p.ln + p.rg → goT ro (gapsL (kwnOf S ro (ed + st) (p.nm.getD t 0)) ++ tailT p.ln st t) none 0 [] = if 0 < t then some (dueT S ro (p.nm.getD t 0) p.ln st t) else none)
   
    (hq : Q .next (W26 p ed ro S st fa th) led) :
    WS C led (lawFe f z) (W25 p A ed ro S ms gs ask st fa tu th log) (k + 120) (exec (lawS 26) (lawFe f z).env) Q := by
  refine WS.stmt (st' := .For _ _ _ [] _) rfl ?_
  have N := E0.N
  refine WS.forI (fun _ => W26 p ed ro S st fa th) (fun _ => led) ?_
  refine WE.callY ?_
  walk_at "v"
  rw [show (p.ln : Int) + (p.rg : Int) = ((p.ln + p.rg : Nat) : Int) by lia]
  refine ⟨_, fun Y => IterOf.rng (by lia) (by lia) (by lia) (by lia), ⟨rfl, rfl, rfl, rfl, rfl, rfl, rfl, rfl, rfl, trivial⟩, rfl, fun t x hx => ?_, ?_⟩
  · obtain ⟨rfl, ht⟩ := rngItems_get hx
    simp only [Int.sub_zero, Int.toNat_natCast] at ht
    simp only [Int.zero_add]
    have hni : p.nm[t]? = some (p.nm.getD t 0) := by rw [List.getD_eq_getElem?_getD, List.getElem?_eq_getElem (by lia)]; rfl
    have hlt : (p.nm.map fun c => nats (lenOf S ro c))[t]? = some (nats (lenOf S ro (p.nm.getD t 0))) := by rw [List.getElem?_map, hni]; rfl
    have hTt := hT t ht
    have hll := lenOf_len S ro (p.nm.getD t 0)
    have hkw : kwnOf S ro (ed + st) (p.nm.getD t 0) = intL ((lenOf S ro (p.nm.getD t 0)).filter fun n => decide (n < ed + st)) := rfl
    have hdu : dueT S ro (p.nm.getD t 0) p.ln st t = gapsL (intL (lenOf S ro (p.nm.getD t 0))) ++ tailD p.ln st t := rfl
    generalize kwnOf S ro (ed + st) (p.nm.getD t 0) = kw at *
    generalize dueT S ro (p.nm.getD t 0) p.ln st t = du at *
    have hkl : kw.length ≤ ro + 1 := by
      rw [hkw, intL_len]
      have := List.length_filter_le (fun n => decide (n < ed + st)) (lenOf S ro (p.nm.getD t 0)); lia
    walk_at "v"
    refine WE.callY ?_
    walk_at "v"
    refine WE.comp [("step", natD st), ("edge", natD ed)] ?_
    walk_at "v"
    refine SubW.lst (d := nats (lenOf S ro (p.nm.getD t 0))) (by lia) (by lia) (by rw [Int.toNat_natCast]; exact hlt) ?_
    refine ⟨_, (lenOf S ro (p.nm.getD t 0)).map (fun n => if decide (n < ed + st) = true then some (natD n) else none), fun Y => IterOf.lst, ?_, ?_, fun L cs j y hy => ?_, ?_⟩
    · rw [List.length_map]; lia
    · simp
    · rw [List.getElem?_map] at hy
      cases hg : (lenOf S ro (p.nm.getD t 0))[j]? with
      | none => rw [hg] at hy; cases hy
      | some n =>
        rw [hg] at hy; cases hy
        have hout : ((lenOf S ro (p.nm.getD t 0)).map (fun n => if decide (n < ed + st) = true then some (natD n) else none))[j]? = some (if decide (n < ed + st) = true then some (natD n) else none) := by rw [List.getElem?_map, hg]; rfl
        have hdec : decide ((n : Int) < (ed : Int) + (st : Int)) = decide (n < ed + st) := by rw [decide_eq_decide]; lia
        walk_at "v"
        refine ⟨⟨rfl, rfl, trivial⟩, ?_⟩
        walk_at "v"
        rw [hdec]
        refine ⟨fun hb => ?_, fun hb => ?_⟩
        · walk_at "v"
          refine ⟨?_, rfl⟩
          rw [hout, hb]; rfl
        · refine ⟨?_, rfl⟩
          rw [hout, hb]; rfl
    · rw [filterMap_if, ← intL_D, ← hkw]
      walk_at "v"
      refine ⟨hfg.keep, (gaps_spec (k := k) N hfg (by lia) ?_).up (by lia)⟩
      walk_at "v"
      refine WE.callY ?_
      repeat ((fail_if_success (with_reducible refine WE.ifexp ?_)); walk_at "e")
      refine WE.mono (Q := fun d led' => d = .lst ((tailT p.ln st t).map .int) ∧ led' = led) ?_ ?_
      · walk_at "v"
        have hdec : decide ((p.ln : Int) ≤ (t : Int)) = decide (p.ln ≤ t) := by rw [decide_eq_decide]; lia
        rw [hdec]
        refine ⟨fun hb => ?_, fun hb => ?_⟩
        · refine WE.list ?_
          walk_at "v"
          refine ⟨by simp, ?_, rfl⟩
          unfold tailT; rw [if_pos (of_decide_eq_true hb)]; rfl
        · refine WE.list ?_
          walk_at "v"
          refine ⟨by simp, ?_, rfl⟩
          unfold tailT; rw [if_neg (of_decide_eq_false hb)]; rfl
      · rintro d led' ⟨rfl, rfl⟩
        have htl : (tailT p.ln st t).length = 2 := by unfold tailT; split <;> rfl
        refine fun Y => Op2.addl (by rw [List.length_map, List.length_map, gapsL_len]; lia) ?_
        rw [← List.map_append]
        walk_at "v"
        refine ⟨hft.keep, (told_spec (k := k) E0 hmi hft (by rw [List.length_append, gapsL_len]; lia) (by lia) (by lia) ?_).up (by lia)⟩
        rw [hTt]
        repeat ((fail_if_success (with_reducible refine WE.ifexp ?_)); walk_at "e")
        refine WE.callY ?_
        repeat ((fail_if_success (with_reducible refine WE.ifexp ?_)); walk_at "e")
        refine SubW.lst (d := nats (lenOf S ro (p.nm.getD t 0))) (by lia) (by lia) (by rw [Int.toNat_natCast]; exact hlt) ?_
        rw [show nats (lenOf S ro (p.nm.getD t 0)) = .lst ((intL (lenOf S ro (p.nm.getD t 0))).map .int) by rw [intL_D]]
        repeat ((fail_if_success (with_reducible refine WE.ifexp ?_)); walk_at "e")
        refine ⟨hfg.keep, (gaps_spec (k := k) N hfg (by rw [intL_len]; lia) ?_).up (by lia)⟩
        refine WE.mono (Q := fun d l2 => d = .lst ((tailD p.ln st t).map .int) ∧ l2 = led') ?_ ?_
        · walk_at "v"
          have hdec : decide ((p.ln : Int) ≤ (t : Int)) = decide (p.ln ≤ t) := by rw [decide_eq_decide]; lia
          rw [hdec]
          refine ⟨fun hb => ?_, fun hb => ?_⟩
          · refine WE.list ?_
            walk_at "v"
            refine ⟨by simp, ?_, rfl⟩
            unfold tailD; rw [if_pos (of_decide_eq_true hb)]; rfl
          · refine WE.list ?_
            walk_at "v"
            refine ⟨by simp, ?_, rfl⟩
            unfold tailD; rw [if_neg (of_decide_eq_false hb)]; rfl
        · rintro d led2 ⟨rfl, rfl⟩
          have htl : (tailD p.ln st t).length ≤ 1 := by unfold tailD; split <;> simp
          refine fun Y => Op2.addl (by rw [List.length_map, List.length_map, gapsL_len, intL_len]; lia) ?_
          rw [← List.map_append, ← hdu]
          repeat ((fail_if_success (with_reducible refine WE.ifexp ?_)); walk_at "e")
          have hrf : ("invalid grouping" : Str) = refused := rfl
          refine WE.mono (Q := fun d l2 => d = .lst (resT (if 0 < t then some du else none)) ∧ l2 = led2) ?_ ?_
          · walk_at "v"
            refine ⟨fun hb => ?_, fun hb => ?_⟩
            · walk_at "v"
              refine ⟨?_, rfl⟩
              rw [if_pos (by simp only [decide_eq_true_eq] at hb; lia)]; rfl
            · refine WE.list ?_
              walk_at "v"
              refine ⟨by simp, ?_, rfl⟩
              rw [if_neg (by simp only [decide_eq_false_iff_not] at hb; lia)]; rfl
          · rintro d led3 ⟨rfl, rfl⟩
            have hpu : (D.lst (resT (if 0 < t then some du else none))).pure = true := by
              by_cases h0 : 0 < t
              · rw [if_pos h0]; exact pures_ints du
              · rw [if_neg h0]; decide +kernel
            refine fun Y => Op2.ned hpu hpu (.inl ?_) ?_
            · have : PyData.depthAll (D.pys (resT (if 0 < t then some du else none))) ≤ 1 := by
                by_cases h0 : 0 < t
                · rw [if_pos h0]
                  exact depth_flat _ fun d hd => by obtain ⟨c, _, rfl⟩ := List.mem_map.mp hd; show (PyData.int _).depth ≤ 1; simp [PyData.depth]
                · rw [if_neg h0]
                  exact depth_flat _ fun d hd => by rw [show resT none = [.str refused] from rfl, List.mem_singleton] at hd; subst hd; show (PyData.str _).depth ≤ 1; simp [PyData.depth]
              show (PyData.list (D.pys (resT (if 0 < t then some du else none)))).depth ≤ 20
              rw [PyData.depth]; lia
            rw [D.eqv_self _ hpu]
            walk_at "v"
            refine ⟨fun hc => (by cases hc), fun _ => ?_⟩
            walk_at "v"
            exact ⟨⟨rfl, rfl, rfl, rfl, rfl, rfl, rfl, rfl, rfl, trivial⟩, rfl⟩
  · exact hq
theorem law27 {p : LP} {ed ro : Nat} {S : Nat → List Nat} {st fa th : Nat} {ff fa' : Addr} (N : NoG C) (hmf : C.mg "_law_far" = some (.ref ff)) (hff : GFn C ff (top2 19)) (hma : C.mg "_law_after" = some (.ref fa')) (hfa : GFn C fa' (top2 17))
    (hrg : p.rg ≤ 8) (hfl : p.ln ≤ fa) (hfb : fa < 1000000) (hth : th = far (fa - p.ln) 1 (rowsN p.rg p.x)) (hrg0 : 0 < p.rg)
   
    (hq : Q (.ret (.bool true)) [] led) (hQ : ∀ d vs led, Q (.ret d) [] led → Q (.ret d) vs led) :
    WS C led (lawFe f z) (W26 p ed ro S st fa th) (k + 120) (exec (lawS 27) (lawFe f z).env) Q := by
  refine WS.stmt (st' := .Return (some _) _) rfl ?_
  have hlw : (turnsN p.rg p.x).length = p.rg := by simp [turnsN]
  walk_at "v"
  refine WE.callY ?_
  walk_at "v"
  refine WE.comp [] ?_
  walk_at "v"
  refine ⟨_, ((rowsN p.rg p.x).map natD).map some, fun Y => IterOf.lst, ?_, ?_, fun L cs i y hx => ?_, ?_⟩
  · rw [List.length_map, hlw]; lia
  · simp [rowsN]
  · rw [List.getElem?_map] at hx
    cases hg : (turnsN p.rg p.x)[i]? with
    | none => rw [hg] at hx; cases hx
    | some row =>
      rw [hg] at hx; cases hx
      have hi : i < p.rg := by rw [← hlw]; exact (List.getElem?_eq_some_iff.mp hg).1
      have hrow : row = turnR p.rg p.x i := by unfold turnsN at hg; rw [List.getElem?_map, List.getElem?_range hi] at hg; cases hg; rfl
      have hlen : row.length ≤ 2 := by rw [hrow]; exact turnR_len i
      have hlt : ∀ z ∈ row, z < 19 := fun z hz => by have := turnR_lt hrg0 (by rw [← hrow]; exact hz); lia
      walk_at "v"
      refine ⟨trivial, ?_⟩
      walk_at "v"
      refine ⟨fun _ => ?_, fun hc => by cases hc⟩
      refine WE.callY ?_
      walk_at "v"
      refine WE.comp [] ?_
      walk_at "v"
      refine ⟨_, ((pows row).map .int).map some, fun Y => IterOf.lst, ?_, ?_, fun L cs j y hy => ?_, ?_⟩
      · rw [List.length_map]; lia
      · simp [pows]
      · rw [List.getElem?_map] at hy
        cases hg2 : row[j]? with
        | none => rw [hg2] at hy; cases hy
        | some z =>
          rw [hg2] at hy; cases hy
          have hz := hlt z (List.mem_of_getElem? hg2)
          walk_at "v"
          refine ⟨trivial, ?_⟩
          walk_at "v"
          refine ⟨fun _ => ?_, fun hc => by cases hc⟩
          walk_at "v"
          refine Op2.pow (by lia) (by lia) (by decide) ?_
          rw [pow2_nat]
          refine ⟨?_, rfl⟩
          unfold pows
          rw [List.getElem?_map, List.getElem?_map, List.getElem?_map, hg2]; rfl
      · rw [filterMap_some]
        walk_at "v"
        refine CallW.sum (pows_ok hlt (by lia)) ?_
        rw [pows_sum]
        refine ⟨?_, rfl⟩
        unfold rowsN
        rw [List.getElem?_map, List.getElem?_map, List.getElem?_map, hg]; rfl
  · rw [filterMap_some]
    walk_at "v"
    rw [show (fa : Int) - (p.ln : Int) = ((fa - p.ln : Nat) : Int) by lia]
    refine ⟨hff.keep, (far_spec (k := k) N hff hma hfa (by simp [rowsN, hlw]; lia) (by lia) ?_).up (by lia)⟩
    walk_at "v"
    rw [← hth]
    rw [show ((th : Int) == (th : Int)) = true by simp]
    exact hQ _ _ _ hq
end
set_option tactic.hygienic false
theorem mem_addS : ∀ (row acc : List Nat) (c : Nat), c ∈ addS acc row ↔ c ∈ acc ∨ c ∈ row
  | [], acc, c => by unfold addS; simp
  | a :: r, acc, c => by
    show c ∈ addS (if a ∈ acc then acc else acc ++ [a]) r ↔ _
    rw [mem_addS r]
    split
    · rename_i h
      rw [List.mem_cons]
      constructor
      · rintro (z | z)
        · exact .inl z
        · exact .inr (.inr z)
      · rintro (z | rfl | z)
        · exact .inl z
        · exact .inl h
        · exact .inr z
    · rw [List.mem_append, List.mem_singleton, List.mem_cons, or_assoc]
theorem mem_fold (g : Nat → List Nat) : ∀ (S acc : List Nat) (c : Nat), c ∈ S.foldl (fun a c => addS a (g c)) acc ↔ c ∈ acc ∨ ∃ c' ∈ S, c ∈ g c'
  | [], acc, c => by simp
  | a :: r, acc, c => by
    rw [List.foldl_cons, mem_fold g r, mem_addS]
    simp only [List.mem_cons, exists_eq_or_imp, or_assoc]
section
variable {rg ln : Nat} {x : Nat → Nat} {nm : List Nat}
theorem nm_get (hn : nm.length = ln + rg) {t : Nat} (ht : t < ln + rg) : nm[t]? = some (nm.getD t 0) := by
  rw [List.getD_eq_getElem?_getD, List.getElem?_eq_getElem (by lia)]; rfl
theorem nm_inj (hnd : nm.Nodup) (hn : nm.length = ln + rg) {s t : Nat} (hs : s < ln + rg) (ht : t < ln + rg) (h : nm.getD s 0 = nm.getD t 0) : s = t := by
  have e1 := nm_get hn hs
  have e2 := nm_get hn ht
  rw [h] at e1
  obtain ⟨h1, h2⟩ := List.getElem?_eq_some_iff.mp e1
  obtain ⟨h3, h4⟩ := List.getElem?_eq_some_iff.mp e2
  rcases Nat.lt_trichotomy s t with q | q | q
  · exact absurd (h2.trans h4.symm) (List.pairwise_iff_getElem.mp hnd s t h1 h3 q)
  · exact q
  · exact absurd (h4.trans h2.symm) (List.pairwise_iff_getElem.mp hnd t s h3 h1 q)
theorem nm_idx (hnd : nm.Nodup) (hn : nm.length = ln + rg) {t : Nat} (ht : t < ln + rg) : nm.idxOf (nm.getD t 0) = t := by
  have hm : nm.getD t 0 ∈ nm := List.mem_of_getElem? (nm_get hn ht)
  have hl := List.idxOf_lt_length_iff.mpr hm
  have hg : nm.getD (nm.idxOf (nm.getD t 0)) 0 = nm.getD t 0 := by
    rw [List.getD_eq_getElem?_getD, List.getElem?_eq_getElem hl, List.getElem_idxOf]; rfl
  exact nm_inj hnd hn (by lia) ht hg
theorem nm_of (hn : nm.length = ln + rg) {c : Nat} (hc : c ∈ nm) : nm.idxOf c < ln + rg ∧ nm.getD (nm.idxOf c) 0 = c := by
  have hl := List.idxOf_lt_length_iff.mpr hc
  refine ⟨by lia, ?_⟩
  rw [List.getD_eq_getElem?_getD, List.getElem?_eq_getElem hl, List.getElem_idxOf]; rfl
noncomputable abbrev wrds (rg ln : Nat) (x : Nat → Nat) (nm : List Nat) : List (List Nat) := (waysN rg ln x).map (wordOf nm)
theorem wrds_len : (wrds rg ln x nm).length = ln + rg := by rw [List.length_map, waysN_len]
theorem wrds_get {k : Nat} (hk : k < ln + rg) : (wrds rg ln x nm).getD k [] = wordOf nm (wayN rg ln x k) := by
  rw [List.getD_eq_getElem?_getD, List.getElem?_map, waysN_get hk]; rfl
theorem wrds_mem (hr : 0 < rg) (hn : nm.length = ln + rg) : ∀ w ∈ wrds rg ln x nm, w.length ≤ 2 ∧ w ≠ [] ∧ ∀ c ∈ w, c ∈ nm := by
  intro w hw
  obtain ⟨k, hk, e⟩ := List.getElem_of_mem hw
  have hk' : k < ln + rg := by rwa [wrds_len] at hk
  have e2 := wrds_get (rg := rg) (ln := ln) (x := x) (nm := nm) hk'
  rw [List.getD_eq_getElem?_getD, List.getElem?_eq_getElem hk, e] at e2
  have e3 : w = wordOf nm (wayN rg ln x k) := e2
  subst e3
  unfold wordOf
  refine ⟨by rw [List.length_map]; exact wayN_len k, by simp [wayN_ne], fun c hc => ?_⟩
  obtain ⟨z, hz, rfl⟩ := List.mem_map.mp hc
  exact List.mem_of_getElem? (nm_get hn (wayN_lt hr hk' hz))
theorem mem_word (hr : 0 < rg) (hnd : nm.Nodup) (hn : nm.length = ln + rg) {k t : Nat} (hk : k < ln + rg) (ht : t < ln + rg) : nm.getD t 0 ∈ wordOf nm (wayN rg ln x k) ↔ t ∈ wayN rg ln x k := by
  unfold wordOf
  rw [List.mem_map]
  constructor
  · rintro ⟨z, hz, e⟩
    have := nm_inj hnd hn (wayN_lt hr hk hz) ht e
    subst this; exact hz
  · exact fun h => ⟨t, h, rfl⟩
theorem S_good (hr : 0 < rg) (hn : nm.length = ln + rg) (i : Nat) : Good nm (itS nm (wrds rg ln x nm) i) := Good.it (fun row hrow => (wrds_mem hr hn row hrow).2.2) i
theorem S_iff (hr : 0 < rg) (hl : 0 < ln) (hnd : nm.Nodup) (hn : nm.length = ln + rg) : ∀ (i t : Nat), t < ln + rg → (nm.getD t 0 ∈ itS nm (wrds rg ln x nm) i ↔ W rg ln x i t)
  | 0, t, ht => by
    rw [W_zero]
    have h0 : itS nm (wrds rg ln x nm) 0 = [nm.getD 0 0] := by
      show nm.take 1 = _
      cases nm with
      | nil => simp at hn; lia
      | cons a r => rfl
    rw [h0, List.mem_singleton]
    exact ⟨fun h => nm_inj hnd hn ht (by lia) h, fun h => by rw [h]⟩
  | i + 1, t, ht => by
    have ih := S_iff hr hl hnd hn i
    rw [W_succ]
    show nm.getD t 0 ∈ (itS nm (wrds rg ln x nm) i).foldl (fun a c => addS a ((wrds rg ln x nm).getD (nm.idxOf c) [])) [] ↔ _
    rw [mem_fold (fun c => (wrds rg ln x nm).getD (nm.idxOf c) [])]
    constructor
    · rintro (h | ⟨c, hc, h⟩)
      · cases h
      · obtain ⟨h1, h2⟩ := nm_of hn ((S_good hr hn i).2 c hc)
        rw [wrds_get h1] at h
        refine ⟨nm.idxOf c, h1, (ih _ h1).mp (by rw [h2]; exact hc), (mem_word hr hnd hn h1 ht).mp h⟩
    · rintro ⟨k, hk, hw, h⟩
      refine .inr ⟨nm.getD k 0, (ih k hk).mpr hw, ?_⟩
      rw [nm_idx hnd hn hk, wrds_get hk]
      exact (mem_word hr hnd hn hk ht).mpr h
theorem W_lt (hr : 0 < rg) (hl : 0 < ln) {i t : Nat} (h : W rg ln x i t) : t < ln + rg := by
  rcases (W_iff hl i t).mp h with ⟨h1, _⟩ | ⟨j, rfl, _, h2⟩
  · lia
  · have := (R_cong hr _ _ h2).1; lia
theorem S_mask (hr : 0 < rg) (hl : 0 < ln) (hnd : nm.Nodup) (hn : nm.length = ln + rg) (i : Nat) : maskN ((itS nm (wrds rg ln x nm) i).map nm.idxOf) = itA (wrowsN rg ln x) i := by
  obtain ⟨g1, g2⟩ := S_good (x := x) hr hn i
  have hnd2 : ((itS nm (wrds rg ln x nm) i).map nm.idxOf).Nodup := by
    rw [List.nodup_iff_pairwise_ne, List.pairwise_map]
    refine (List.nodup_iff_pairwise_ne.mp g1).imp_of_mem fun ha hb h e => h ?_
    rw [← (nm_of hn (g2 _ ha)).2, ← (nm_of hn (g2 _ hb)).2, e]
  apply Nat.eq_of_testBit_eq
  intro j
  rw [maskN_bit _ hnd2, Bool.eq_iff_iff, decide_eq_true_eq]
  show _ ↔ W rg ln x i j
  constructor
  · intro h
    obtain ⟨c, hc, rfl⟩ := List.mem_map.mp h
    obtain ⟨h1, h2⟩ := nm_of hn (g2 c hc)
    exact (S_iff hr hl hnd hn i _ h1).mp (by rw [h2]; exact hc)
  · intro h
    have hj := W_lt hr hl h
    exact List.mem_map.mpr ⟨_, (S_iff hr hl hnd hn i j hj).mpr h, nm_idx hnd hn hj⟩
theorem S_masks (hr : 0 < rg) (hl : 0 < ln) (hnd : nm.Nodup) (hn : nm.length = ln + rg) (ro : Nat) : (List.range (ro + 1)).map (fun i => maskN ((itS nm (wrds rg ln x nm) i).map nm.idxOf)) = roundsL (wrowsN rg ln x) ro := by
  unfold roundsL
  congr 1
  funext i
  exact S_mask hr hl hnd hn i
/-- the lengths of the roads to a town -/
noncomputable def LT (rg ln : Nat) (x : Nat → Nat) (ro t : Nat) : List Nat := (List.range (ro + 1)).filter fun i => (itA (wrowsN rg ln x) i).testBit t
theorem lenOf_LT (hr : 0 < rg) (hl : 0 < ln) (hnd : nm.Nodup) (hn : nm.length = ln + rg) {ro t : Nat} (ht : t < ln + rg) : lenOf (itS nm (wrds rg ln x nm)) ro (nm.getD t 0) = LT rg ln x ro t := by
  unfold lenOf LT
  congr 1
  funext i
  rw [Bool.eq_iff_iff, decide_eq_true_eq]
  exact S_iff hr hl hnd hn i t ht
end
set_option tactic.hygienic false
theorem filter_one (p : Nat → Bool) (t : Nat) (hp : ∀ i, p i = true ↔ i = t) : ∀ N, t < N → (List.range N).filter p = [t]
  | 0, h => by lia
  | N + 1, h => by
    rw [List.range_succ, List.filter_append]
    by_cases e : t = N
    · subst e
      have h1 : (List.range t).filter p = [] := by
        rw [List.filter_eq_nil_iff]
        intro a ha q
        have := (hp a).mp q
        have := List.mem_range.mp ha; lia
      rw [h1, List.filter_cons, if_pos ((hp t).mpr rfl)]; rfl
    · rw [filter_one p t hp N (by lia), List.filter_cons, if_neg (fun q => e ((hp N).mp q).symm)]; rfl
section
variable {rg ln : Nat} {x : Nat → Nat} {ro : Nat}
noncomputable def HT (rg ln : Nat) (x : Nat → Nat) (ro t : Nat) : Nat := (LT rg ln x ro t).headD 0
theorem LT_lane (hl : 0 < ln) {t : Nat} (ht : t < ln) (hro : t ≤ ro) : LT rg ln x ro t = [t] := by
  unfold LT
  refine filter_one _ t (fun i => ?_) _ (by lia)
  show W rg ln x i t ↔ _
  rw [W_iff hl]
  constructor
  · rintro (⟨_, h⟩ | ⟨j, h, _⟩)
    · exact h
    · lia
  · exact fun h => .inl ⟨ht, h⟩
theorem W_ring (hl : 0 < ln) (i j : Nat) : W rg ln x i (ln + j) ↔ ln ≤ i ∧ R rg x (i - ln) j := by
  rw [W_iff hl]
  constructor
  · rintro (⟨h, _⟩ | ⟨j', h, h1, h2⟩)
    · lia
    · have : j' = j := by lia
      subst this; exact ⟨h1, h2⟩
  · exact fun ⟨h1, h2⟩ => .inr ⟨j, rfl, h1, h2⟩
theorem LT_ring (hr : 0 < rg) (hl : 0 < ln) {j : Nat} (hj : j < rg) (hro : ln + rg ≤ ro) : ∃ f rest, LT rg ln x ro (ln + j) = (ln + f) :: rest ∧ f ≤ j ∧ R rg x f j ∧ ∀ m, R rg x m j → f ≤ m := by
  have hw : W rg ln x (ln + j) (ln + j) := (W_ring hl _ _).mpr ⟨by lia, by rw [Nat.add_sub_cancel_left]; exact R_ring hr j hj⟩
  obtain ⟨h, rest, e, h1, h2, h3⟩ := filter_first (fun i => (itA (wrowsN rg ln x) i).testBit (ln + j)) (ro + 1) (ln + j) (by lia) hw
  obtain ⟨h4, h5⟩ := (W_ring hl h j).mp h1
  refine ⟨h - ln, rest, ?_, by lia, h5, fun m hm => ?_⟩
  · rw [show ln + (h - ln) = h by lia]; exact e
  · rcases Nat.lt_or_ge m (h - ln) with q | q
    · have hwm : W rg ln x (ln + m) (ln + j) := (W_ring hl _ _).mpr ⟨by lia, by rw [Nat.add_sub_cancel_left]; exact hm⟩
      have := h3 (ln + m) (by lia)
      unfold W at hwm
      rw [hwm] at this; cases this
    · exact q
theorem HT_lane (hl : 0 < ln) {t : Nat} (ht : t < ln) (hro : t ≤ ro) : HT rg ln x ro t = t := by unfold HT; rw [LT_lane hl ht hro]; rfl
theorem HT_ring (hr : 0 < rg) (hl : 0 < ln) (hro : ln + rg ≤ ro) {j : Nat} (hj : j < rg) : ∃ f, HT rg ln x ro (ln + j) = ln + f ∧ f ≤ j ∧ R rg x f j ∧ ∀ m, R rg x m j → f ≤ m := by
  obtain ⟨f, rest, e, h⟩ := LT_ring (x := x) hr hl hj hro
  exact ⟨f, by unfold HT; rw [e]; rfl, h⟩
theorem HT_step (hr : 0 < rg) (hl : 0 < ln) (hro : ln + rg ≤ ro) {k t : Nat} (hk : k < ln + rg) (ht : t ∈ wayN rg ln x k) : HT rg ln x ro t ≤ HT rg ln x ro k + 1 ∧ ((dOf rg x : Nat) : Int) ∣ (HT rg ln x ro t : Int) - HT rg ln x ro k - 1 := by
  unfold wayN at ht
  by_cases h : k < ln
  · rw [if_pos h] at ht
    have ht : t = k + 1 := by simpa using ht
    subst ht
    have e1 := HT_lane (rg := rg) (x := x) (ro := ro) hl h (by lia)
    have e2 : HT rg ln x ro (k + 1) = k + 1 := by
      by_cases h2 : k + 1 < ln
      · exact HT_lane hl h2 (by lia)
      · obtain ⟨f, e, h3, _⟩ := HT_ring (x := x) hr hl hro (j := 0) hr
        rw [show k + 1 = ln + 0 by lia, e]; lia
    rw [e1, e2]
    refine ⟨by lia, ?_⟩
    rw [show ((k + 1 : Nat) : Int) - (k : Int) - 1 = 0 by lia]
    exact Int.dvd_zero _
  · rw [if_neg h] at ht
    obtain ⟨j, hj, rfl⟩ := List.mem_map.mp ht
    obtain ⟨i, rfl⟩ : ∃ i, k = ln + i := ⟨k - ln, by lia⟩
    rw [Nat.add_sub_cancel_left] at hj
    have hi : i < rg := by lia
    have hjr := turnR_lt hr hj
    obtain ⟨f, e1, h1, h2, h3⟩ := HT_ring (x := x) hr hl hro hi
    obtain ⟨g, e2, h4, h5, h6⟩ := HT_ring (x := x) hr hl hro hjr
    have h7 : R rg x (f + 1) j := (R_succ _ _).mpr ⟨i, hi, h2, hj⟩
    have h8 := h6 _ h7
    rw [e1, e2]
    refine ⟨by lia, ?_⟩
    obtain ⟨_, c1⟩ := R_cong hr _ _ h5
    obtain ⟨_, c2⟩ := R_cong hr _ _ h7
    have c3 : (f + 1) % dOf rg x = g % dOf rg x := c2.symm.trans c1
    have c4 : ((dOf rg x : Nat) : Int) ∣ (((f + 1 : Nat) : Int) - (g : Int)) := by
      refine Int.dvd_of_emod_eq_zero ?_
      rw [Int.sub_emod]
      have e : ((f + 1 : Nat) : Int) % ((dOf rg x : Nat) : Int) = ((g : Nat) : Int) % ((dOf rg x : Nat) : Int) := by rw [← Int.natCast_emod, ← Int.natCast_emod, c3]
      rw [e, Int.sub_self]; rfl
    rw [show (((ln + g : Nat) : Int)) - ((ln + f : Nat) : Int) - 1 = -((((f + 1 : Nat) : Int)) - (g : Int)) by lia]
    exact Int.dvd_neg.mpr c4
end
set_option tactic.hygienic false
section
variable {rg ln : Nat} {x : Nat → Nat} {ro : Nat} {nm : List Nat}
noncomputable def gT (rg ln : Nat) (x : Nat → Nat) (ro k : Nat) : List Int := (wayN rg ln x k).map fun t => (HT rg ln x ro t : Int) - HT rg ln x ro k - 1
noncomputable def gAll (rg ln : Nat) (x : Nat → Nat) (ro : Nat) : List Int := ((List.range (ln + rg)).map (gT rg ln x ro)).flatten
theorem hdOf_HT (hr : 0 < rg) (hl : 0 < ln) (hnd : nm.Nodup) (hn : nm.length = ln + rg) {t : Nat} (ht : t < ln + rg) : hdOf (itS nm (wrds rg ln x nm)) ro (nm.getD t 0) = HT rg ln x ro t := by
  unfold hdOf HT; rw [lenOf_LT hr hl hnd hn ht]
theorem gains_eq (hr : 0 < rg) (hl : 0 < ln) (hnd : nm.Nodup) (hn : nm.length = ln + rg) : gainsOf (itS nm (wrds rg ln x nm)) ro nm (wrds rg ln x nm) (ln + rg) = gAll rg ln x ro := by
  unfold gainsOf gAll
  congr 1
  refine List.map_congr_left fun k hk => ?_
  have hk := List.mem_range.mp hk
  unfold gainK gT
  rw [wrds_get hk]
  unfold wordOf
  rw [List.map_map]
  refine List.map_congr_left fun t ht => ?_
  have htl := wayN_lt hr hk ht
  simp only [Function.comp_apply]
  rw [hdOf_HT hr hl hnd hn htl, hdOf_HT hr hl hnd hn hk]
theorem mem_gAll {g : Int} : g ∈ gAll rg ln x ro ↔ ∃ k, k < ln + rg ∧ ∃ t, t ∈ wayN rg ln x k ∧ g = (HT rg ln x ro t : Int) - HT rg ln x ro k - 1 := by
  unfold gAll
  rw [List.mem_flatten]
  constructor
  · rintro ⟨l, hl, hg⟩
    obtain ⟨k, hk, rfl⟩ := List.mem_map.mp hl
    obtain ⟨t, ht, rfl⟩ := List.mem_map.mp hg
    exact ⟨k, List.mem_range.mp hk, t, ht, rfl⟩
  · rintro ⟨k, hk, t, ht, rfl⟩
    exact ⟨_, List.mem_map.mpr ⟨k, List.mem_range.mpr hk, rfl⟩, List.mem_map.mpr ⟨t, ht, rfl⟩⟩
theorem HT_le (hr : 0 < rg) (hl : 0 < ln) (hro : ln + rg ≤ ro) {k : Nat} (hk : k < ln + rg) : HT rg ln x ro k ≤ k := by
  by_cases h : k < ln
  · rw [HT_lane hl h (by lia)]; lia
  · obtain ⟨f, e, h1, _⟩ := HT_ring (x := x) hr hl hro (j := k - ln) (by lia)
    rw [show ln + (k - ln) = k by lia] at e
    lia
theorem gAll_ok (hr : 0 < rg) (hr2 : rg ≤ 8) (hl : 0 < ln) (hl2 : ln ≤ 8) (hro : ln + rg ≤ ro) {g : Int} (hg : g ∈ gAll rg ln x ro) : g ≤ 0 ∧ g.natAbs ≤ 100 ∧ ((dOf rg x : Nat) : Int) ∣ g := by
  obtain ⟨k, hk, t, ht, rfl⟩ := mem_gAll.mp hg
  obtain ⟨h1, h2⟩ := HT_step hr hl hro hk ht
  have h3 := HT_le (x := x) hr hl hro hk
  exact ⟨by lia, by lia, h2⟩
theorem ring_mem (hr : 0 < rg) {i j : Nat} (hi : i < rg) (hj : j ∈ turnR rg x i) : (HT rg ln x ro (ln + j) : Int) - HT rg ln x ro (ln + i) - 1 ∈ gAll rg ln x ro := by
  refine mem_gAll.mpr ⟨ln + i, by lia, ln + j, ?_, rfl⟩
  unfold wayN
  rw [if_neg (by lia), Nat.add_sub_cancel_left]
  exact List.mem_map.mpr ⟨j, hj, rfl⟩
theorem HT_zero (hr : 0 < rg) (hl : 0 < ln) (hro : ln + rg ≤ ro) : HT rg ln x ro (ln + 0) = ln := by
  obtain ⟨f, e, h1, _⟩ := HT_ring (x := x) hr hl hro (j := 0) hr
  lia
theorem gAll_neg (hr : 0 < rg) (hl : 0 < ln) (hro : ln + rg ≤ ro) : ∃ g ∈ gAll rg ln x ro, g < 0 := by
  refine ⟨_, ring_mem hr (i := rg - 1) (j := 0) (by lia) ((turnR_mem _ _).mpr (.inl ?_)), ?_⟩
  · rw [show rg - 1 + 1 = rg by lia, Nat.mod_self]
  · rw [HT_zero hr hl hro]
    obtain ⟨f, e, h1, _⟩ := HT_ring (x := x) hr hl hro (j := rg - 1) (by lia)
    rw [e]; lia
theorem measure_is (hr : 0 < rg) (hr2 : rg ≤ 8) (hl : 0 < ln) (hl2 : ln ≤ 8) (hro : ln + rg ≤ ro) : measureI rg (gAll rg ln x ro) = -((dOf rg x : Nat) : Int) := by
  have hneg := measure_neg (gAll rg ln x ro) rg (fun g hg => (gAll_ok hr hr2 hl hl2 hro hg).1) (gAll_neg hr hl hro)
  have h1 : ((dOf rg x : Nat) : Int) ∣ measureI rg (gAll rg ln x ro) := by
    rw [measure_dvd]
    exact ⟨Int.natCast_dvd_natCast.mpr dOf_rg, fun g hg => (gAll_ok hr hr2 hl hl2 hro hg).2.2⟩
  generalize hm : measureI rg (gAll rg ln x ro) = m at *
  have h2 : ((m.natAbs : Nat) : Int) ∣ m := Int.natAbs_dvd.mpr (Int.dvd_refl m)
  have h3 := h2
  rw [← hm, measure_dvd] at h3
  rw [hm] at h3
  obtain ⟨h4, h5⟩ := h3
  generalize he : m.natAbs = e at *
  have hphi : ∀ i, i < rg → ((e : Nat) : Int) ∣ (HT rg ln x ro (ln + i) : Int) - ln - i := by
    intro i
    induction i with
    | zero => intro _; rw [HT_zero hr hl hro, show (ln : Int) - (ln : Int) - ((0 : Nat) : Int) = 0 by lia]; exact Int.dvd_zero _
    | succ i ih =>
      intro hi
      have h6 := h5 _ (ring_mem (ln := ln) (ro := ro) (x := x) hr (i := i) (j := i + 1) (by lia) ((turnR_mem _ _).mpr (.inl (Nat.mod_eq_of_lt hi).symm)))
      have h7 := Int.dvd_add h6 (ih (by lia))
      rw [show (HT rg ln x ro (ln + (i + 1)) : Int) - ln - ((i + 1 : Nat) : Int) = ((HT rg ln x ro (ln + (i + 1)) : Int) - HT rg ln x ro (ln + i) - 1) + ((HT rg ln x ro (ln + i) : Int) - ln - i) by lia]
      exact h7
  have h8 : e ∣ dOf rg x := by
    refine dvd_dG rg (cho rg x) e rg rg (Int.natCast_dvd_natCast.mp h4) fun j hj => ?_
    have hc := cho_lt (x := x) hr j
    have h6 := h5 _ (ring_mem (ln := ln) (ro := ro) (x := x) hr (i := j) (j := cho rg x j) hj ((turnR_mem _ _).mpr (.inr rfl)))
    have h7 := hphi j hj
    have h9 := hphi _ hc
    have h10 := Int.dvd_add (Int.dvd_add (Int.dvd_sub h6 h9) h7) h4
    refine Int.natCast_dvd_natCast.mp ?_
    rw [show ((cho rg x j + rg - (j + 1) : Nat) : Int) = ((HT rg ln x ro (ln + cho rg x j) : Int) - HT rg ln x ro (ln + j) - 1) - ((HT rg ln x ro (ln + cho rg x j) : Int) - ln - (cho rg x j : Nat)) + ((HT rg ln x ro (ln + j) : Int) - ln - j) + rg by lia]
    exact h10
  have h11 : dOf rg x ∣ e := by rw [← he]; exact Int.natCast_dvd_natCast.mp (Int.dvd_natAbs.mpr h1)
  have h12 := Nat.dvd_antisymm h8 h11
  lia
end
set_option tactic.hygienic false
/-! gaps -/
theorem getD_append_left' (l m : List Int) {i : Nat} (h : i < l.length) : (l ++ m).getD i 0 = l.getD i 0 := by
  rw [List.getD_eq_getElem?_getD, List.getD_eq_getElem?_getD, List.getElem?_append_left h]
theorem getLastD_getD (l : List Int) (h : 0 < l.length) : l.getLastD 0 = l.getD (l.length - 1) 0 := by
  rw [List.getD_eq_getElem?_getD, ← List.getLast?_eq_getElem?, List.getLastD_eq_getLast?]
theorem gapsL_snoc (l : List Int) (a : Int) : gapsL (l ++ [a]) = gapsL l ++ [a - l.getLastD 0] := by
  unfold gapsL
  rw [List.length_append, List.length_singleton, List.range_succ, List.map_append]
  congr 1
  · refine List.map_congr_left fun k hk => ?_
    have hk := List.mem_range.mp hk
    unfold gapAt
    rw [getD_append_left' _ _ hk, getD_append_left' _ _ (show k - 1 < l.length by lia), getD_append_left' _ _ (show 0 < l.length by lia)]
  · show [gapAt (l ++ [a]) l.length] = _
    unfold gapAt
    have e1 : (l ++ [a]).getD l.length 0 = a := by rw [List.getD_eq_getElem?_getD, List.getElem?_append_right (Nat.le_refl _)]; simp
    by_cases h : 0 < l.length
    · rw [if_pos h, e1, getD_append_left' _ _ (show l.length - 1 < l.length by lia), getLastD_getD l h]
    · have : l = [] := List.length_eq_zero_iff.mp (by lia)
      subst this
      simp
theorem intL_app (a b : List Nat) : intL (a ++ b) = intL a ++ intL b := by unfold intL; rw [List.map_append]
theorem snoc_ind {P : List Nat → Prop} (h0 : P []) (h1 : ∀ l a, P l → P (l ++ [a])) (l : List Nat) : P l := by
  rw [← List.reverse_reverse l]
  induction l.reverse with
  | nil => exact h0
  | cons a r ih => rw [List.reverse_cons]; exact h1 _ _ ih
theorem last_int (l : List Nat) (a : Nat) : (intL (l ++ [a])).getLastD 0 = (a : Int) := by rw [intL_app]; show (intL l ++ [(a : Int)]).getLastD 0 = _; simp
/-- what the gaps of a growing list are -/
theorem gaps_facts (l : List Nat) : (∀ a ∈ l, 0 < a) → l.Pairwise (· < ·) → (∀ g ∈ gapsL (intL l), 0 < g ∧ g ≤ (intL l).getLastD 0) ∧ (gapsL (intL l)).sum = (intL l).getLastD 0 ∧ 0 ≤ (intL l).getLastD 0 := by
  induction l using snoc_ind with
  | h0 => intro _ _; exact ⟨fun g hg => (by cases hg), rfl, by decide⟩
  | h1 l a ih =>
    intro hp hs
    obtain ⟨s1, s2, s3⟩ := List.pairwise_append.mp hs
    obtain ⟨i1, i2, i3⟩ := ih (fun b hb => hp b (List.mem_append_left _ hb)) s1
    have ha := hp a (List.mem_append_right _ List.mem_cons_self)
    have hlast : (intL l).getLastD 0 < (a : Int) := by
      by_cases h : 0 < (intL l).length
      · rw [getLastD_getD _ h]
        have hm : (intL l).getD ((intL l).length - 1) 0 ∈ intL l := by
          rw [List.getD_eq_getElem?_getD, List.getElem?_eq_getElem (by lia)]
          exact List.getElem_mem _
        obtain ⟨b, hb, e⟩ := List.mem_map.mp hm
        rw [← e]
        have := s3 b hb a List.mem_cons_self
        lia
      · have : intL l = [] := List.length_eq_zero_iff.mp (by lia)
        rw [this]; show (0 : Int) < _; lia
    have e : gapsL (intL (l ++ [a])) = gapsL (intL l) ++ [(a : Int) - (intL l).getLastD 0] := by
      rw [intL_app]; exact gapsL_snoc (intL l) a
    rw [e, last_int]
    refine ⟨fun g hg => ?_, ?_, by lia⟩
    · rcases List.mem_append.mp hg with h | h
      · have := i1 g h; lia
      · rw [List.mem_singleton] at h; subst h; lia
    · rw [List.sum_append, i2]; simp; lia
/-- what follows in even steps -/
theorem gaps_even (M : List Nat) (b d : Nat) : ∀ m, gapsL (intL ((M ++ [b]) ++ (List.range m).map fun i => b + (i + 1) * d)) = gapsL (intL (M ++ [b])) ++ List.replicate m (d : Int) ∧ (intL ((M ++ [b]) ++ (List.range m).map fun i => b + (i + 1) * d)).getLastD 0 = ((b + m * d : Nat) : Int)
  | 0 => by
    refine ⟨by simp, ?_⟩
    rw [List.range_zero, List.map_nil, List.append_nil, last_int, Nat.zero_mul, Nat.add_zero]
  | m + 1 => by
    obtain ⟨h1, h2⟩ := gaps_even M b d m
    rw [List.range_succ, List.map_append, ← List.append_assoc, List.map_singleton]
    refine ⟨?_, last_int _ _⟩
    generalize (M ++ [b]) ++ (List.range m).map (fun i => b + (i + 1) * d) = l at *
    rw [intL_app]
    show gapsL (intL l ++ [((b + (m + 1) * d : Nat) : Int)]) = _
    rw [gapsL_snoc, h1, h2, List.append_assoc, List.replicate_succ']
    congr 2
    rw [Nat.add_mul]
    simp
    lia
/-! telling -/
theorem goT_cons (ro x : Int) (r : List Int) (last : Option Int) (at_ : Int) (told : List Int) : goT ro (x :: r) last at_ told = if x = 127 then some told else if x = 0 then (match last with
      | none => none
      | some l => some (repT ro l (ro.toNat + 1 - told.length) at_ told)) else if toldStop ro (at_ + x) (told.length + 1) then some (told ++ [x]) else goT ro r (some x) (at_ + x) (told ++ [x]) := by
  first | (rw [goT.eq_def]; done) | (rw [goT.eq_def]; cases last <;> rfl)
theorem goT_pass (ro : Int) (rest : List Int) : ∀ (gs : List Int) (last : Option Int) (at_ : Int) (told : List Int), (∀ g ∈ gs, 0 < g ∧ g < 127) → at_ + gs.sum ≤ ro → (told.length : Int) + gs.length ≤ ro →
    ∃ last', goT ro (gs ++ rest) last at_ told = goT ro rest last' (at_ + gs.sum) (told ++ gs)
  | [], last, at_, told, _, _, _ => ⟨last, by simp⟩
  | g :: gs, last, at_, told, h, h1, h2 => by
    obtain ⟨p1, p2⟩ := h g List.mem_cons_self
    have hs : 0 ≤ gs.sum := by
      have : ∀ l : List Int, (∀ g ∈ l, 0 < g ∧ g < 127) → 0 ≤ l.sum := by
        intro l
        induction l with
        | nil => intro _; simp
        | cons a l ih => intro h; rw [List.sum_cons]; have := h a List.mem_cons_self; have := ih fun b hb => h b (List.mem_cons_of_mem _ hb); lia
      exact this gs fun b hb => h b (List.mem_cons_of_mem _ hb)
    rw [List.sum_cons] at h1
    rw [List.length_cons] at h2
    obtain ⟨l', e⟩ := goT_pass ro rest gs (some g) (at_ + g) (told ++ [g]) (fun b hb => h b (List.mem_cons_of_mem _ hb)) (by lia) (by rw [List.length_append, List.length_singleton]; lia)
    refine ⟨l', ?_⟩
    rw [List.cons_append, goT_cons, if_neg (by lia), if_neg (by lia)]
    have hst : toldStop ro (at_ + g) (told.length + 1) = false := by
      unfold toldStop
      rw [decide_eq_false (by lia), decide_eq_false (by lia)]; rfl
    rw [hst, if_neg (by decide), e, List.sum_cons, List.append_assoc]
    congr 1
    lia
theorem repT_even (ro l : Int) (hl : 0 < l) : ∀ (q f : Nat) (at_ : Int) (told : List Int), q + 1 ≤ f → at_ + q * l ≤ ro → ro < at_ + (q + 1) * l → (told.length : Int) + q ≤ ro → repT ro l f at_ told = told ++ List.replicate (q + 1) l
  | 0, f, at_, told, hf, h1, h2, h3 => by
    obtain ⟨f', rfl⟩ : ∃ f', f = f' + 1 := ⟨f - 1, by lia⟩
    have hst : toldStop ro (at_ + l) (told.length + 1) = true := by
      unfold toldStop
      rw [decide_eq_true (by simp at h2; lia)]; rfl
    rw [repT, if_pos hst]; rfl
  | q + 1, f, at_, told, hf, h1, h2, h3 => by
    obtain ⟨f', rfl⟩ : ∃ f', f = f' + 1 := ⟨f - 1, by lia⟩
    have e1 : ((q + 1 : Nat) : Int) * l = q * l + l := by rw [Int.natCast_add, Int.add_mul]; simp
    have e2 : (((q + 1 : Nat) : Int) + 1) * l = (q + 1) * l + l := by rw [Int.natCast_add, Int.add_mul]; simp
    have hq : 0 ≤ (q : Int) * l := Int.mul_nonneg (by lia) (by lia)
    have hst : toldStop ro (at_ + l) (told.length + 1) = false := by
      unfold toldStop
      rw [decide_eq_false (by lia), decide_eq_false (by lia)]; rfl
    rw [repT, hst, if_neg (by decide), repT_even ro l hl q f' (at_ + l) (told ++ [l]) (by lia) (by lia) (by lia) (by rw [List.length_append, List.length_singleton]; lia)]
    rw [List.append_assoc]
    congr 1
theorem told_even (ro : Nat) (M : List Nat) (b d m : Nat) (hd : 0 < d) (hd2 : d < 127) (hb : b < 127) (hp : ∀ a ∈ M ++ [b], 0 < a) (hs : (M ++ [b]).Pairwise (· < ·)) (h1 : b + m * d ≤ ro) (h2 : ro < b + (m + 1) * d) (h3 : M.length + 1 + m ≤ ro) :
    goT ro (gapsL (intL (M ++ [b])) ++ [(d : Int), 0]) none 0 [] = some (gapsL (intL ((M ++ [b]) ++ (List.range m).map fun i => b + (i + 1) * d)) ++ [(d : Int)]) := by
  obtain ⟨g1, g2, _⟩ := gaps_facts _ hp hs
  have hlen : (gapsL (intL (M ++ [b]))).length = M.length + 1 := by rw [gapsL_len, intL_len, List.length_append]; rfl
  rw [last_int] at g1 g2
  rw [(gaps_even M b d m).1]
  generalize gapsL (intL (M ++ [b])) = gs at *
  obtain ⟨l', e⟩ := goT_pass ro [(d : Int), 0] gs none 0 [] (fun g hg => ⟨(g1 g hg).1, by have := (g1 g hg).2; lia⟩) (by rw [g2]; have : 0 ≤ m * d := Nat.zero_le _; lia) (by rw [hlen]; simp; lia)
  rw [e, g2, List.nil_append, Int.zero_add, goT_cons, if_neg (by lia), if_neg (by lia)]
  by_cases hm : m = 0
  · subst hm
    have hst : toldStop ro ((b : Int) + d) (gs.length + 1) = true := by
      unfold toldStop
      rw [decide_eq_true (by lia)]; rfl
    rw [if_pos hst]; simp
  · obtain ⟨q, rfl⟩ : ∃ q, m = q + 1 := ⟨m - 1, by lia⟩
    have e1 : (q + 1) * d = q * d + d := by rw [Nat.add_mul, Nat.one_mul]
    have e2 : (q + 1 + 1) * d = q * d + d + d := by rw [Nat.add_mul, Nat.add_mul, Nat.one_mul]
    have hst : toldStop ro ((b : Int) + d) (gs.length + 1) = false := by
      unfold toldStop
      rw [decide_eq_false (by lia), decide_eq_false (by rw [hlen]; lia)]; rfl
    rw [hst, if_neg (by decide), goT_cons, if_neg (by decide), if_pos rfl]
    show some (repT _ _ _ _ _) = _
    have e3 : ((q : Int)) * (d : Int) = ((q * d : Nat) : Int) := by rw [Int.natCast_mul]
    have e4 : ((q : Int) + 1) * (d : Int) = ((q * d + d : Nat) : Int) := by rw [Int.add_mul, e3]; lia
    rw [repT_even ro d (by lia) q _ _ _ (by rw [List.length_append, List.length_singleton, hlen]; lia) (by rw [e3]; lia) (by rw [e4]; lia) (by rw [List.length_append, List.length_singleton, hlen]; lia)]
    rw [List.append_assoc, List.append_assoc]
    congr 2
    rw [← List.replicate_succ']; rfl
set_option tactic.hygienic false
theorem ap_fin : ∀ rg ∈ [3, 4, 5], ∀ d ∈ [1, 2, 3, 4, 5], d ∣ rg → ∀ r < d, (List.range (2 * rg + 1)).filter (fun i => i % d == r) = r :: (List.range ((2 * rg - r) / d)).map (fun i => r + (i + 1) * d) ∧ r + ((2 * rg - r) / d) * d ≤ 2 * rg ∧ 2 * rg < r + ((2 * rg - r) / d + 1) * d := by decide +kernel
theorem range_add' (a b : Nat) : List.range (a + b) = List.range a ++ (List.range b).map (a + ·) := by
  induction b with
  | zero => simp
  | succ b ih => rw [← Nat.add_assoc, List.range_succ, ih, List.range_succ, List.map_append, List.append_assoc]; rfl
section
variable {rg ln : Nat} {x : Nat → Nat}
noncomputable def edOf (rg ln : Nat) : Nat := ln + n0Of rg
noncomputable def roOf (rg ln : Nat) : Nat := edOf rg ln + 2 * rg
theorem n0_le (h1 : 3 ≤ rg) (h2 : rg ≤ 5) : rg ≤ n0Of rg ∧ n0Of rg ≤ 17 := by
  rcases (by lia : rg = 3 ∨ rg = 4 ∨ rg = 5) with rfl | rfl | rfl <;> decide
theorem filter_len (p : Nat → Bool) (h0 : p 0 = false) (N : Nat) : ((List.range (N + 1)).filter p).length ≤ N := by
  rw [List.range_succ_eq_map, List.filter_cons, h0, if_neg (by decide)]
  refine Nat.le_trans (List.length_filter_le ..) ?_
  rw [List.length_map, List.length_range]; exact Nat.le_refl _
theorem W0_ring (hl : 0 < ln) (j : Nat) : (itA (wrowsN rg ln x) 0).testBit (ln + j) = false := by
  cases h : (itA (wrowsN rg ln x) 0).testBit (ln + j) with
  | false => rfl
  | true => have := (W_zero (rg := rg) (ln := ln) (x := x) (ln + j)).mp h; lia
theorem mod_dvd (a b d : Nat) : a % d = b % d ↔ (d : Int) ∣ (a : Int) - b := by
  rw [Int.dvd_iff_emod_eq_zero, ← Int.emod_eq_emod_iff_emod_sub_eq_zero]
  exact ⟨fun h => by exact_mod_cast h, fun h => by exact_mod_cast h⟩
theorem dvd_shift {d a b : Int} (c : Int) (e : a = b + d * c) : d ∣ a ↔ d ∣ b := by
  rw [e]; exact ⟨fun h => (Int.dvd_add_left (Int.dvd_mul_right d c)).mp h, fun h => (Int.dvd_add_left (Int.dvd_mul_right d c)).mpr h⟩
theorem mod_shift {d n i j : Nat} (hd : 0 < d) : j % d = (n + i) % d ↔ i % d = (j + d * n - n) % d := by
  have h1 : n ≤ d * n := Nat.le_mul_of_pos_left n hd
  have h2 : ((d * n : Nat) : Int) = (d : Int) * n := Int.natCast_mul d n
  rw [mod_dvd, mod_dvd, ← Int.dvd_neg]
  exact dvd_shift n (by rw [Int.natCast_sub (Nat.le_trans h1 (Nat.le_add_left ..)), Int.natCast_add, Int.natCast_add, h2]; lia)
theorem mod_turn {d f j ln fa tu : Nat} (h4 : j % d = f % d) (hle : ln ≤ fa) (htu : ((ln : Int) - fa) % (d : Int) = (tu : Int)) : (((ln + f : Nat) : Int) - ln + tu) % (d : Int) = 0 ↔ j % d = (fa - ln) % d := by
  rw [h4, mod_dvd, ← Int.dvd_iff_emod_eq_zero]
  obtain ⟨c, hc⟩ := Int.dvd_self_sub_of_emod_eq htu
  exact dvd_shift (-c) (by rw [Int.mul_neg, Int.natCast_sub hle, Int.natCast_add]; lia)
theorem LT_shape (h1 : 3 ≤ rg) (h2 : rg ≤ 5) (hl : 0 < ln) {j : Nat} (hj : j < rg) : ∃ (M : List Nat) (r m : Nat), r < dOf rg x ∧
    LT rg ln x (roOf rg ln) (ln + j) = (M ++ [edOf rg ln + r]) ++ (List.range m).map (fun i => edOf rg ln + r + (i + 1) * dOf rg x) ∧
    (LT rg ln x (roOf rg ln) (ln + j)).filter (fun n => decide (n < edOf rg ln + dOf rg x)) = M ++ [edOf rg ln + r] ∧
    edOf rg ln + r + m * dOf rg x ≤ roOf rg ln ∧ roOf rg ln < edOf rg ln + r + (m + 1) * dOf rg x := by
  have hd0 := dOf_pos (rg := rg) (x := x) (by lia)
  have hd1 := dOf_le (rg := rg) (x := x) (by lia)
  have hdv := dOf_rg (rg := rg) (x := x)
  have hge : ∀ i, (itA (wrowsN rg ln x) (edOf rg ln + i)).testBit (ln + j) = (i % dOf rg x == (j + dOf rg x * n0Of rg - n0Of rg) % dOf rg x) := by
    intro i
    rw [Bool.eq_iff_iff, beq_iff_eq]
    show W rg ln x (edOf rg ln + i) (ln + j) ↔ _
    rw [W_ring hl]
    have e : edOf rg ln + i - ln = n0Of rg + i := by unfold edOf; rw [Nat.add_assoc, Nat.add_sub_cancel_left]
    rw [e, R_ge h1 h2 (by lia) hj]
    have : ln ≤ edOf rg ln + i := by unfold edOf; lia
    rw [and_iff_right this]; exact mod_shift hd0
  have hr : (j + dOf rg x * n0Of rg - n0Of rg) % dOf rg x < dOf rg x := Nat.mod_lt _ hd0
  generalize (j + dOf rg x * n0Of rg - n0Of rg) % dOf rg x = r at *
  obtain ⟨a1, a2, a3⟩ := ap_fin rg (by simp; lia) (dOf rg x) (by simp; lia) hdv r hr
  generalize (2 * rg - r) / dOf rg x = m at *
  refine ⟨(List.range (edOf rg ln)).filter fun i => (itA (wrowsN rg ln x) i).testBit (ln + j), r, m, hr, ?_, ?_, by unfold roOf; lia, by unfold roOf; lia⟩
  · unfold LT roOf
    rw [Nat.add_assoc, range_add', List.filter_append, List.filter_map, List.append_assoc]
    congr 1
    have : ((fun i => (itA (wrowsN rg ln x) i).testBit (ln + j)) ∘ (edOf rg ln + ·)) = fun i => (i % dOf rg x == r) := by funext i; exact hge i
    rw [this, a1, List.map_cons, List.map_map]
    show _ :: _ = _ :: _
    congr 1
    refine List.map_congr_left fun i _ => ?_
    simp only [Function.comp_apply]; lia
  · have hle : edOf rg ln + dOf rg x ≤ roOf rg ln + 1 := by unfold roOf; lia
    unfold LT
    rw [List.filter_filter]
    have e : roOf rg ln + 1 = (edOf rg ln + dOf rg x) + (roOf rg ln + 1 - (edOf rg ln + dOf rg x)) := (Nat.add_sub_cancel' hle).symm
    rw [e, range_add' (edOf rg ln + dOf rg x), List.filter_append]
    have z : ((List.range (roOf rg ln + 1 - (edOf rg ln + dOf rg x))).map (edOf rg ln + dOf rg x + ·)).filter (fun a => decide (a < edOf rg ln + dOf rg x) && (itA (wrowsN rg ln x) a).testBit (ln + j)) = [] := by
      rw [List.filter_eq_nil_iff]
      intro a ha
      obtain ⟨i, _, rfl⟩ := List.mem_map.mp ha
      rw [decide_eq_false (by lia), Bool.false_and]; exact Bool.false_ne_true
    rw [z, List.append_nil]
    have y : (List.range (edOf rg ln + dOf rg x)).filter (fun a => decide (a < edOf rg ln + dOf rg x) && (itA (wrowsN rg ln x) a).testBit (ln + j)) = (List.range (edOf rg ln + dOf rg x)).filter fun a => (itA (wrowsN rg ln x) a).testBit (ln + j) := by
      refine List.filter_congr fun a ha => ?_
      rw [decide_eq_true (List.mem_range.mp ha), Bool.true_and]
    rw [y, range_add', List.filter_append]
    congr 1
    rw [List.filter_map]
    have : (List.range (dOf rg x)).filter ((fun a => (itA (wrowsN rg ln x) a).testBit (ln + j)) ∘ (edOf rg ln + ·)) = (List.range (dOf rg x)).filter (fun i => i == r) := by
      refine List.filter_congr fun i hi => ?_
      rw [Function.comp_apply, hge i, Nat.mod_eq_of_lt (List.mem_range.mp hi)]
    rw [this, filter_one (fun i => i == r) r (fun i => by simp) _ hr]; rfl
theorem LT_pos (hl : 0 < ln) {ro j a : Nat} (ha : a ∈ LT rg ln x ro (ln + j)) : 0 < a := by
  unfold LT at ha
  obtain ⟨_, h⟩ := List.mem_filter.mp ha
  rcases Nat.eq_zero_or_pos a with q | q
  · subst q; rw [W0_ring hl] at h; cases h
  · exact q
theorem told_ring (h1 : 3 ≤ rg) (h2 : rg ≤ 5) (hl : 0 < ln) (hl2 : ln ≤ 3) {j : Nat} (hj : j < rg) :
    goT (roOf rg ln) (gapsL (intL ((LT rg ln x (roOf rg ln) (ln + j)).filter fun n => decide (n < edOf rg ln + dOf rg x))) ++ [(dOf rg x : Int), 0]) none 0 [] = some (gapsL (intL (LT rg ln x (roOf rg ln) (ln + j))) ++ [(dOf rg x : Int)]) := by
  have hd0 := dOf_pos (rg := rg) (x := x) (by lia)
  have hd1 := dOf_le (rg := rg) (x := x) (by lia)
  obtain ⟨n1, n2⟩ := n0_le h1 h2
  obtain ⟨M, r, m, hr, e1, e2, e3, e4⟩ := LT_shape (x := x) h1 h2 hl hj
  have hlen : (LT rg ln x (roOf rg ln) (ln + j)).length ≤ roOf rg ln := filter_len (fun i => (itA (wrowsN rg ln x) i).testBit (ln + j)) (W0_ring hl j) _
  have hpw : (LT rg ln x (roOf rg ln) (ln + j)).Pairwise (· < ·) := List.pairwise_lt_range.filter _
  have hpos : ∀ a ∈ LT rg ln x (roOf rg ln) (ln + j), 0 < a := fun a ha => LT_pos hl ha
  rw [e2]
  rw [e1] at hlen hpw hpos ⊢
  refine told_even (roOf rg ln) M (edOf rg ln + r) (dOf rg x) m hd0 (by lia) (by unfold edOf; lia) (fun a ha => hpos a (List.mem_append_left _ ha)) (List.pairwise_append.mp hpw).1 e3 e4 ?_
  simp only [List.length_append, List.length_map, List.length_range, List.length_singleton] at hlen
  exact hlen
theorem told_lane (hl : 0 < ln) {t : Nat} (ht0 : 0 < t) (ht : t < 100) (ro : Nat) (hro : t ≤ ro) : goT ro (gapsL (intL [t]) ++ [127, 1]) none 0 [] = some (gapsL (intL [t])) := by
  have e : gapsL (intL [t]) = [(t : Int)] := by
    show [gapAt [(t : Int)] 0] = _
    unfold gapAt; simp
  rw [e]
  show goT ro ((t : Int) :: [127, 1]) none 0 [] = _
  rw [goT_cons, if_neg (by lia), if_neg (by lia)]
  have hst : toldStop ro (0 + (t : Int)) (([] : List Int).length + 1) = false := by
    unfold toldStop
    rw [decide_eq_false (by lia), decide_eq_false (by simp; lia)]; rfl
  rw [hst, if_neg (by decide), goT_cons, if_pos rfl]; rfl
theorem told_zero (ro : Nat) : goT ro (gapsL (intL [0]) ++ [127, 1]) none 0 [] = none := by
  have e : gapsL (intL [0]) = [0] := by
    show [gapAt [((0 : Nat) : Int)] 0] = _
    unfold gapAt; simp
  rw [e]
  show goT ro (0 :: [127, 1]) none 0 [] = _
  rw [goT_cons, if_neg (by decide), if_pos rfl]
/-- what is told of each town -/
theorem told_all (h1 : 3 ≤ rg) (h2 : rg ≤ 5) (hl : 0 < ln) (hl2 : ln ≤ 3) {nm : List Nat} (hnd : nm.Nodup) (hn : nm.length = ln + rg) {t : Nat} (ht : t < ln + rg) :
    goT (roOf rg ln) (gapsL (kwnOf (itS nm (wrds rg ln x nm)) (roOf rg ln) (edOf rg ln + dOf rg x) (nm.getD t 0)) ++ tailT ln (dOf rg x) t) none 0 [] =
      if 0 < t then some (dueT (itS nm (wrds rg ln x nm)) (roOf rg ln) (nm.getD t 0) ln (dOf rg x) t) else none := by
  unfold kwnOf dueT
  rw [lenOf_LT (by lia) hl hnd hn ht]
  by_cases h : ln ≤ t
  · obtain ⟨j, rfl⟩ : ∃ j, t = ln + j := ⟨t - ln, by lia⟩
    unfold tailT tailD
    rw [if_pos h, if_pos h, if_pos (by lia), told_ring h1 h2 hl hl2 (by lia)]
  · have hro : t ≤ roOf rg ln := by unfold roOf edOf; lia
    unfold tailT tailD
    rw [if_neg h, if_neg h, LT_lane hl (by lia) hro, List.filter_cons, if_pos (by simp; unfold edOf; lia), List.filter_nil, List.append_nil]
    by_cases h0 : 0 < t
    · rw [if_pos h0, told_lane hl h0 (by lia) _ hro]
    · have : t = 0 := by lia
      subst this
      rw [if_neg h0, told_zero]
end
set_option tactic.hygienic false
section
variable {rg ln : Nat} {x : Nat → Nat}
theorem there_is (h1 : 3 ≤ rg) (h2 : rg ≤ 5) (hl : 0 < ln) {nm : List Nat} (hnd : nm.Nodup) (hn : nm.length = ln + rg) {fa tu : Nat} (hfa : roOf rg ln ≤ fa) (htu : ((ln : Int) - fa).fmod (dOf rg x : Nat) = (tu : Int)) :
    maskN ((List.range rg).filter (selK (itS nm (wrds rg ln x nm)) (roOf rg ln) nm ln (dOf rg x) tu)) = far (fa - ln) 1 (rowsN rg x) := by
  have hd0 := dOf_pos (rg := rg) (x := x) (by lia)
  have hd1 := dOf_le (rg := rg) (x := x) (by lia)
  have hro : ln + rg ≤ roOf rg ln := by unfold roOf edOf; have := (n0_le h1 h2).1; lia
  have hn0 : n0Of rg ≤ fa - ln := by unfold roOf edOf at hfa; lia
  apply Nat.eq_of_testBit_eq
  intro j
  rw [maskN_bit _ (List.nodup_range.filter _), Bool.eq_iff_iff, decide_eq_true_eq, List.mem_filter, List.mem_range, far_iter, ← itA_iter]
  show _ ↔ R rg x (fa - ln) j
  have key : j < rg → (selK (itS nm (wrds rg ln x nm)) (roOf rg ln) nm ln (dOf rg x) tu j = true ↔ R rg x (fa - ln) j) := by
    intro hj
    rw [R_ge h1 h2 hn0 hj]
    unfold selK
    rw [hdOf_HT (by lia) hl hnd hn (show ln + j < ln + rg by lia), beq_iff_eq]
    obtain ⟨f, e, _, h3, _⟩ := HT_ring (x := x) (by lia) hl hro hj
    have h4 := (R_cong (by lia) _ _ h3).2
    rw [e]
    have hle : ln ≤ fa := by unfold roOf edOf at hfa; lia
    rw [Int.fmod_eq_emod_of_nonneg _ (by lia)] at htu ⊢
    exact mod_turn h4 hle htu
  constructor
  · rintro ⟨hj, hs⟩; exact (key hj).mp hs
  · intro hr
    have hj := (R_cong (by lia) _ _ hr).1
    exact ⟨hj, (key hj).mpr hr⟩
end
/-! the text -/
theorem dropLast_app (a b : List Nat) (h : b ≠ []) : (a ++ b).dropLast = a ++ b.dropLast := List.dropLast_append_of_ne_nil h
theorem wtext_ne (t : Nat) : ∀ (ws : List (List Nat)) (w : List Nat), wtext t (ws ++ [w]) ≠ [] := by
  intro ws w
  have hw : ∀ t, written w t ≠ [] := fun t => by unfold written; split <;> simp
  cases ws with
  | nil => show written w t ++ [] ≠ []; simp [hw]
  | cons a r =>
    have h2 : written a t ≠ [] := by unfold written; split <;> simp
    show written a t ++ wtext (t + 1) (r ++ [w]) ≠ []
    exact fun h => h2 (List.append_eq_nil_iff.mp h).1
/-- what is left of the text behind i words -/
noncomputable def leftT (t : Nat) (words : List (List Nat)) (i : Nat) : List Nat := (wtext (t + i) (words.drop i ++ [[46]])).dropLast
theorem left_step (t : Nat) (words : List (List Nat)) {i : Nat} {w : List Nat} (h : words[i]? = some w) : leftT t words i = written w (t + i) ++ leftT t words (i + 1) := by
  obtain ⟨hi, e⟩ := List.getElem?_eq_some_iff.mp h
  unfold leftT
  rw [List.drop_eq_getElem_cons hi, e]
  show (written w (t + i) ++ wtext (t + i + 1) (words.drop (i + 1) ++ [[46]])).dropLast = _
  rw [dropLast_app _ _ (wtext_ne _ _ _)]; rfl
theorem left_end (t : Nat) (words : List (List Nat)) : leftT t words words.length = (written [46] (t + words.length)).dropLast := by
  unfold leftT
  rw [List.drop_length]
  show (written [46] (t + words.length) ++ []).dropLast = _
  rw [List.append_nil]
/-- the lines that are told behind i words -/
noncomputable def lineT (t : Nat) (words : List (List Nat)) (i : Nat) : Int := 1 + ((leftT t words 0).count 10 : Nat) - ((leftT t words i).count 10 : Nat)
theorem read_step (t : Nat) (words : List (List Nat)) (hne : ∀ w ∈ words, w ≠ []) (i : Nat) (w : List Nat) (h : words[i]? = some w) :
    getTok (leftT t words i) (lineT t words i) = (w, leftT t words (i + 1), lineT t words (i + 1)) := by
  have e := left_step t words h
  have e2 : lineT t words (i + 1) = lineT t words i + ((written w (t + i)).count 10 : Nat) := by
    unfold lineT
    rw [e, List.count_append]; lia
  rw [e2]
  rw [e]
  exact read_written w (hne w (List.mem_of_getElem? h)) _ _ _
theorem read_end (t : Nat) (words : List (List Nat)) : getTok (leftT t words words.length) (lineT t words words.length) = ([46], [], (1 : Int) + ((leftT t words 0).count 10 : Nat)) := by
  have e := left_end t words
  have e2 : (1 : Int) + ((leftT t words 0).count 10 : Nat) = lineT t words words.length + (((written [46] (t + words.length)).dropLast).count 10 : Nat) := by
    unfold lineT; rw [e]; lia
  rw [e2]
  rw [e]
  exact read_last _ _
theorem written_al {w : List Nat} (h : ∀ c ∈ w, c ∈ alph) (t : Nat) : ∀ c ∈ written w t, c ∈ alph := by
  have hb : blankOf t ∈ alph := by
    unfold blankOf
    rcases (by lia : t % 4 = 0 ∨ t % 4 = 1 ∨ t % 4 = 2 ∨ t % 4 = 3) with e | e | e | e <;> rw [e] <;> decide
  have he : ∀ R : List Nat, ∀ c ∈ (w.map (escOf R)).flatten, c ∈ alph := by
    intro R c hc
    obtain ⟨l, hl, hc⟩ := List.mem_flatten.mp hc
    obtain ⟨d, hd, rfl⟩ := List.mem_map.mp hl
    unfold escOf at hc
    split at hc
    · simp only [List.mem_cons, List.not_mem_nil, or_false] at hc
      rcases hc with rfl | rfl
      · decide
      · exact h _ hd
    · rw [List.mem_singleton] at hc; subst hc; exact h _ hd
  intro c hc
  unfold written at hc
  simp only at hc
  split at hc
  · rcases List.mem_append.mp hc with q | q
    · rcases List.mem_append.mp q with q | q
      · simp only [List.mem_cons, List.not_mem_nil, or_false] at q
        rcases q with rfl | rfl
        · exact hb
        · decide
      · exact he _ c q
    · rw [List.mem_singleton] at q; subst q; decide
  · rcases List.mem_append.mp hc with q | q
    · exact he _ c q
    · rw [List.mem_singleton] at q; subst q; exact hb
theorem wtext_al : ∀ (ws : List (List Nat)) (t : Nat), (∀ w ∈ ws, ∀ c ∈ w, c ∈ alph) → ∀ c ∈ wtext t ws, c ∈ alph
  | [], t, _, c, hc => by cases hc
  | w :: r, t, h, c, hc => by
    rcases List.mem_append.mp (show c ∈ written w t ++ wtext (t + 1) r from hc) with q | q
    · exact written_al (h w List.mem_cons_self) t c q
    · exact wtext_al r (t + 1) (fun x hx => h x (List.mem_cons_of_mem _ hx)) c q
theorem left_al (t : Nat) (words : List (List Nat)) (h : ∀ w ∈ words, ∀ c ∈ w, c ∈ alph) (i : Nat) : ∀ c ∈ leftT t words i, c ∈ alph := by
  intro c hc
  refine wtext_al _ _ (fun w hw => ?_) c (List.dropLast_subset _ hc)
  rcases List.mem_append.mp hw with q | q
  · exact h w (List.mem_of_mem_drop q)
  · rw [List.mem_singleton] at q; subst q; intro c hc; rw [List.mem_singleton] at hc; subst hc; decide
theorem left_len (t : Nat) (words : List (List Nat)) (h : ∀ w ∈ words, w.length ≤ 10) (hl : words.length ≤ 100) (i : Nat) : (leftT t words i).length ≤ 100000 := by
  unfold leftT
  rw [List.length_dropLast]
  have := wtext_len (words.drop i ++ [[46]]) (t + i) (fun w hw => by
    rcases List.mem_append.mp hw with q | q
    · exact h w (List.mem_of_mem_drop q)
    · rw [List.mem_singleton] at q; subst q; decide)
  rw [List.length_append, List.length_drop, List.length_singleton] at this
  exact Nat.le_trans (Nat.sub_le ..) (Nat.le_trans this (Nat.le_trans (Nat.mul_le_mul_left 23 (Nat.succ_le_succ (Nat.le_trans (Nat.sub_le ..) hl))) (by decide)))
/-! the names -/
theorem names_fin : ∀ s < 8, ∀ n < 9, (((al8 ++ al8).drop s).take n).Nodup ∧ (((al8 ++ al8).drop s).take n).length = n ∧ ∀ c ∈ ((al8 ++ al8).drop s).take n, c ∈ alph := by decide +kernel
theorem nmOf_ok (h2 n : Nat) (hn : n ≤ 8) : (nmOf h2 n).Nodup ∧ (nmOf h2 n).length = n ∧ ∀ c ∈ nmOf h2 n, c ∈ alph := names_fin (h2 % 8) (Nat.mod_lt _ (by decide)) n (by lia)
theorem alph_lt : ∀ c ∈ alph, c < 1000 := by decide
set_option tactic.hygienic false
open PySem.StrLaws PySem.Builtin PySem.Builtin.Str in
theorem count_loop (x : Str) (c : Nat) : ∀ (n lo : Nat) (st : Array Nat × Nat), st.snd ≤ lo → st.fst.size ≤ lo → lo + n = x.length + 1 →
    (forIn (List.range' lo n) st (occBody x ⟨#[c]⟩ x.length (x.length + 1))).run.fst.size = st.fst.size + (x.cps.toList.drop lo).count c
  | 0, lo, st, _, _, h => by
    have : x.cps.toList.drop lo = [] := List.drop_of_length_le (by simp [Str.length] at h ⊢; lia)
    rw [this]; rfl
  | n + 1, lo, st, h1, h2, h3 => by
    have hone : (⟨#[c]⟩ : Str).length = 1 := rfl
    rw [List.range'_succ, List.forIn_cons]
    unfold occBody
    by_cases hc : x.cps.toList[lo]? = some c
    · have hs := (subAt_one x c lo).mpr hc
      rw [if_pos ⟨⟨⟨by lia, h1⟩, hs.1⟩, hs.2⟩]
      obtain ⟨hlt, e⟩ := List.getElem?_eq_some_iff.mp hc
      have ih := count_loop x c n (lo + 1) (st.fst.push lo, lo + (⟨#[c]⟩ : Str).length) (by rw [hone]; exact Nat.le_refl _) (by simp; lia) (by lia)
      show (forIn (List.range' (lo + 1) n) (st.fst.push lo, lo + (⟨#[c]⟩ : Str).length) (occBody x ⟨#[c]⟩ x.length (x.length + 1))).run.fst.size = _
      rw [ih, List.drop_eq_getElem_cons hlt, e]
      simp
      lia
    · have hs : ¬ (((st.fst.size < x.length + 1 ∧ st.snd ≤ lo) ∧ lo + (⟨#[c]⟩ : Str).length ≤ x.length) ∧ subAt x ⟨#[c]⟩ lo = true) := fun h => hc ((subAt_one x c lo).mp ⟨h.1.2, h.2⟩)
      rw [if_neg hs]
      have ih := count_loop x c n (lo + 1) (st.fst, st.snd) (by simp; lia) (by simp; lia) (by lia)
      show (forIn (List.range' (lo + 1) n) (st.fst, st.snd) (occBody x ⟨#[c]⟩ x.length (x.length + 1))).run.fst.size = _
      rw [ih]
      by_cases hlt : lo < x.cps.toList.length
      · rw [List.drop_eq_getElem_cons hlt, List.count_cons]
        have : x.cps.toList[lo] ≠ c := fun e => hc (by rw [List.getElem?_eq_getElem hlt, e])
        rw [beq_eq_false_iff_ne.mpr this]; simp
      · rw [List.drop_of_length_le (by lia), List.drop_of_length_le (by lia)]
open PySem.StrLaws PySem.Builtin PySem.Builtin.Str in
theorem count_one (l : List Nat) (c : Nat) : Txt.count (mk l) ⟨#[c]⟩ = ((l.count c : Nat) : Int) := by
  unfold Txt.count
  rw [occ_eq, Array.length_toList]
  have := count_loop (mk l) c ((mk l).length + 1 - 0) 0 (#[], 0) (Nat.le_refl _) (Nat.le_refl _) (by lia)
  rw [this]
  simp
theorem count_nl (l : List Nat) : Txt.count (mk l) "\n" = ((l.count 10 : Nat) : Int) := by
  rw [show ("\n" : Str) = ⟨#[10]⟩ by decide +kernel]
  exact count_one l 10
set_option tactic.hygienic false
structure LawEnv (C : Cx) : Prop where
  V : DivEnv C
  lex : ∃ cl mN, LexEnv C cl mN
  gi : ∃ a, GiEnv C a ∧ C.mg "_grouping_intervals" = some (.ref a)
  wr : ∃ f, C.mg "_law_written" = some (.ref f) ∧ GFn C f (top2 15)
  wk : ∃ f, C.mg "_law_walk" = some (.ref f) ∧ GFn C f (top2 16)
  af : ∃ f, C.mg "_law_after" = some (.ref f) ∧ GFn C f (top2 17)
  ro : ∃ f, C.mg "_law_rounds" = some (.ref f) ∧ GFn C f (top2 18)
  fa : ∃ f, C.mg "_law_far" = some (.ref f) ∧ GFn C f (top2 19)
  re : ∃ f, C.mg "_law_rest" = some (.ref f) ∧ GFn C f (top2 20)
  me : ∃ f, C.mg "_law_measure" = some (.ref f) ∧ GFn C f (top2 21)
  te : ∃ f, C.mg "_law_told" = some (.ref f) ∧ GFn C f (top2 22)
  ga : ∃ f, C.mg "_law_gaps" = some (.ref f) ∧ GFn C f (top2 23)
set_option maxHeartbeats 4000000 in
theorem law_spec {C : Cx} (E : LawEnv C) {Y led : Led} {k : Nat} {fl : Addr} {xs : List Int} {Q : D → Led → Prop} (h : GFn C fl (top2 24)) (hx : xs.length ≤ 1000) (hq : ∀ led', Q (.bool true) led') : CallW C Y led (k + 200) (.ref fl) [.lst (xs.map .int)] Q := by
  have V := E.V
  have N := V.N
  obtain ⟨cl, mN, X⟩ := E.lex
  have NE := X.net
  have hcl := X.cls
  obtain ⟨fm, c, P, hmk, hmf, hct, hd1, hd2⟩ := X.mkl
  obtain ⟨a, hgi, hmgi⟩ := E.gi
  obtain ⟨fwr, hmwr, hfwr⟩ := E.wr
  obtain ⟨fwk, hmwk, hfwk⟩ := E.wk
  obtain ⟨faf, hmaf, hfaf⟩ := E.af
  obtain ⟨fro, hmro, hfro⟩ := E.ro
  obtain ⟨ffa, hmfa, hffa⟩ := E.fa
  obtain ⟨fre, hmre, hfre⟩ := E.re
  obtain ⟨fme, hmme, hfme⟩ := E.me
  obtain ⟨fte, hmte, hfte⟩ := E.te
  obtain ⟨fga, hmga, hfga⟩ := E.ga
  refine CallW.gfn h rfl [("script", .lst (xs.map .int))] rfl rfl fun L cs q code => ?_
  suffices ∀ z : GiZ, WS C led (lawFe fl z) [("script", .lst (xs.map .int))] (k + 199) (execs lawB (lawFe fl z).env) (Back Q) from this ⟨L, cs, q, code⟩
  intro z
  refine WS.cons (law0 N hx fun h0 h1 h2 h3 => ?_)
  have hrg3 : 3 ≤ rgOf h0 := by unfold rgOf; lia
  have hrg5 : rgOf h0 ≤ 5 := by unfold rgOf; lia
  have hln1 : 0 < lnOf h0 := by unfold lnOf; lia
  have hln3 : lnOf h0 ≤ 3 := by unfold lnOf; lia
  refine WS.cons (law1 N ?_)
  generalize rgOf h0 = rg at *
  generalize lnOf h0 = ln at *
  have r8 : rg ≤ 8 := Nat.le_trans hrg5 (by decide)
  have l8 : ln ≤ 8 := Nat.le_trans hln3 (by decide)
  have r0 : 0 < rg := Nat.lt_of_lt_of_le (by decide) hrg3
  have lr : ln + rg ≤ 8 := Nat.add_le_add hln3 hrg5
  refine WS.cons (law2 N (by first | assumption | exact Nat.le_trans hln3 (by decide) | exact Nat.le_trans hrg5 (by decide) | exact Nat.le_trans lr (by decide) | exact Nat.le_trans hrob.2 (by decide) | lia) ?_)
  generalize xOf h1 = x at *
  refine WS.cons (law3 N (by first | assumption | exact Nat.le_trans hln3 (by decide) | exact Nat.le_trans hrg5 (by decide) | exact Nat.le_trans lr (by decide) | exact Nat.le_trans hrob.2 (by decide) | lia) (by first | assumption | exact Nat.le_trans hln3 (by decide) | exact Nat.le_trans hrg5 (by decide) | exact Nat.le_trans lr (by decide) | exact Nat.le_trans hrob.2 (by decide) | lia) ?_)
  refine WS.cons (law4 N (by first | assumption | exact Nat.le_trans hln3 (by decide) | exact Nat.le_trans hrg5 (by decide) | exact Nat.le_trans lr (by decide) | exact Nat.le_trans hrob.2 (by decide) | lia) (by first | assumption | exact Nat.le_trans hln3 (by decide) | exact Nat.le_trans hrg5 (by decide) | exact Nat.le_trans lr (by decide) | exact Nat.le_trans hrob.2 (by decide) | lia) ?_)
  refine WS.cons (law5 N ?_)
  obtain ⟨nm1, nm2, nm3⟩ := nmOf_ok h2 (ln + rg) (by first | assumption | exact Nat.le_trans hln3 (by decide) | exact Nat.le_trans hrg5 (by decide) | exact Nat.le_trans lr (by decide) | exact Nat.le_trans hrob.2 (by decide) | lia)
  generalize nmOf h2 (ln + rg) = nm at *
  have n18 : nm.length ≤ 18 := nm2 ▸ Nat.le_trans lr (by decide)
  have np : 0 < nm.length := nm2 ▸ Nat.add_pos_left hln1 rg
  refine WS.cons (law6 N (by first | assumption | exact Nat.le_trans hln3 (by decide) | exact Nat.le_trans hrg5 (by decide) | exact Nat.le_trans lr (by decide) | exact Nat.le_trans hrob.2 (by decide) | lia) (by first | assumption | exact Nat.le_trans hln3 (by decide) | exact Nat.le_trans hrg5 (by decide) | exact Nat.le_trans lr (by decide) | exact Nat.le_trans hrob.2 (by decide) | lia) (by first | assumption | exact Nat.le_trans hln3 (by decide) | exact Nat.le_trans hrg5 (by decide) | exact Nat.le_trans lr (by decide) | exact Nat.le_trans hrob.2 (by decide) | lia) nm2 ?_)
  have wm := wrds_mem (rg := rg) (ln := ln) (x := x) (nm := nm) (by first | assumption | exact Nat.le_trans hln3 (by decide) | exact Nat.le_trans hrg5 (by decide) | exact Nat.le_trans lr (by decide) | exact Nat.le_trans hrob.2 (by decide) | lia) nm2
  have wl := wrds_len (rg := rg) (ln := ln) (x := x) (nm := nm)
  have w10 : ∀ w ∈ wrds rg ln x nm, w.length ≤ 10 := fun w hw => by have := (wm w hw).1; lia
  have wal : ∀ w ∈ wrds rg ln x nm, ∀ c ∈ w, c ∈ alph := fun w hw c hc => nm3 c ((wm w hw).2.2 c hc)
  have sg := S_good (x := x) r0 nm2
  have sl : ∀ i, (itS nm (wrds rg ln x nm) i).length ≤ 60 := fun i => (sg i).len (by first | assumption | exact Nat.le_trans hln3 (by decide) | exact Nat.le_trans hrg5 (by decide) | exact Nat.le_trans lr (by decide) | exact Nat.le_trans hrob.2 (by decide) | lia)
  have s1000 : ∀ i, ∀ c ∈ itS nm (wrds rg ln x nm) i, c < 1000 := fun i c hc => alph_lt c (nm3 c ((sg i).2 c hc))
  refine WS.cons (law7 N hmwr hfwr (Nat.le_trans (Nat.le_of_eq wl) (by first | assumption | exact Nat.le_trans hln3 (by decide) | exact Nat.le_trans hrg5 (by decide) | exact Nat.le_trans lr (by decide) | exact Nat.le_trans hrob.2 (by decide) | lia)) w10 ?_)
  have htx : txOf h2 (wrds rg ln x nm) = leftT (h2 / 8 % 12) (wrds rg ln x nm) 0 := rfl
  have tal := left_al (h2 / 8 % 12) (wrds rg ln x nm) wal
  have tll := left_len (h2 / 8 % 12) (wrds rg ln x nm) w10 (by first | assumption | exact Nat.le_trans hln3 (by decide) | exact Nat.le_trans hrg5 (by decide) | exact Nat.le_trans lr (by decide) | exact Nat.le_trans hrob.2 (by decide) | lia)
  refine WS.cons (law8 (p := ⟨.lst (xs.map .int), h0, h1, h2, h3, rg, ln, x, nm, wrds rg ln x nm, txOf h2 (wrds rg ln x nm)⟩) N NE hcl hmk hmf hct hd1 hd2 (tll 0) fun A B LX => ?_)
  refine WS.cons (law9 (p := ⟨.lst (xs.map .int), h0, h1, h2, h3, rg, ln, x, nm, wrds rg ln x nm, txOf h2 (wrds rg ln x nm)⟩) (T := leftT (h2 / 8 % 12) (wrds rg ln x nm)) (Ln := lineT (h2 / 8 % 12) (wrds rg ln x nm)) N NE LX rfl (by unfold lineT; lia) (by show (wrds rg ln x nm).length ≤ 100; lia) (fun i _ => ⟨tal i, tll i⟩) (read_step _ _ fun w hw => (wm w hw).2.1) ?_)
  refine WS.cons (law10 (p := ⟨.lst (xs.map .int), h0, h1, h2, h3, rg, ln, x, nm, wrds rg ln x nm, txOf h2 (wrds rg ln x nm)⟩) N (fun w hw c hc => alph_lt c (wal w hw c hc)) ?_)
  refine WS.cons (law11 (p := ⟨.lst (xs.map .int), h0, h1, h2, h3, rg, ln, x, nm, wrds rg ln x nm, txOf h2 (wrds rg ln x nm)⟩) N r0 r8 ?_)
  refine WS.cons (law12 (p := ⟨.lst (xs.map .int), h0, h1, h2, h3, rg, ln, x, nm, wrds rg ln x nm, txOf h2 (wrds rg ln x nm)⟩) N r8 ?_)
  have hed : ln + n0Of rg = edOf rg ln := rfl
  have hroe : edOf rg ln + 2 * rg = roOf rg ln := rfl
  have hn0 := n0_le hrg3 hrg5
  have hedb : ln + rg ≤ edOf rg ln ∧ edOf rg ln ≤ 20 := by unfold edOf; lia
  have hrob : ln + rg ≤ roOf rg ln ∧ roOf rg ln ≤ 30 := by unfold roOf; lia
  rw [show (LP.mk (.lst (xs.map .int)) h0 h1 h2 h3 rg ln x nm (wrds rg ln x nm) (txOf h2 (wrds rg ln x nm))).ln + n0Of (LP.mk (.lst (xs.map .int)) h0 h1 h2 h3 rg ln x nm (wrds rg ln x nm) (txOf h2 (wrds rg ln x nm))).rg + 2 * (LP.mk (.lst (xs.map .int)) h0 h1 h2 h3 rg ln x nm (wrds rg ln x nm) (txOf h2 (wrds rg ln x nm))).rg = roOf rg ln from rfl]
  rw [show (LP.mk (.lst (xs.map .int)) h0 h1 h2 h3 rg ln x nm (wrds rg ln x nm) (txOf h2 (wrds rg ln x nm))).ln + n0Of (LP.mk (.lst (xs.map .int)) h0 h1 h2 h3 rg ln x nm (wrds rg ln x nm) (txOf h2 (wrds rg ln x nm))).rg = edOf rg ln from rfl]
  refine WS.cons (law13 (p := ⟨.lst (xs.map .int), h0, h1, h2, h3, rg, ln, x, nm, wrds rg ln x nm, txOf h2 (wrds rg ln x nm)⟩) N NE LX hmwk hfwk (tal _) (tll _) nm1 np (Nat.le_trans n18 (by decide)) (by show (wrds rg ln x nm).length = nm.length; lia) (fun w hw => (wm w hw).2.2) (by first | assumption | exact Nat.le_trans hln3 (by decide) | exact Nat.le_trans hrg5 (by decide) | exact Nat.le_trans lr (by decide) | exact Nat.le_trans hrob.2 (by decide) | lia) ?_)
  refine WS.cons (law14 (p := ⟨.lst (xs.map .int), h0, h1, h2, h3, rg, ln, x, nm, wrds rg ln x nm, txOf h2 (wrds rg ln x nm)⟩) N NE LX (by first | assumption | exact Nat.le_trans hln3 (by decide) | exact Nat.le_trans hrg5 (by decide) | exact Nat.le_trans lr (by decide) | exact Nat.le_trans hrob.2 (by decide) | lia) (sl _) (tal _) (tll _) (read_end _ _) ?_)
  refine WS.cons (law15 (p := ⟨.lst (xs.map .int), h0, h1, h2, h3, rg, ln, x, nm, wrds rg ln x nm, txOf h2 (wrds rg ln x nm)⟩) N NE LX (by first | assumption | exact Nat.le_trans hln3 (by decide) | exact Nat.le_trans hrg5 (by decide) | exact Nat.le_trans lr (by decide) | exact Nat.le_trans hrob.2 (by decide) | lia) (sl _) (s1000 _) (by rw [count_nl]; rfl) ?_)
  refine WS.cons (law16 (p := ⟨.lst (xs.map .int), h0, h1, h2, h3, rg, ln, x, nm, wrds rg ln x nm, txOf h2 (wrds rg ln x nm)⟩) N hmro hfro hmaf hfaf r0 r8 l8 (by first | assumption | exact Nat.le_trans hln3 (by decide) | exact Nat.le_trans hrg5 (by decide) | exact Nat.le_trans lr (by decide) | exact Nat.le_trans hrob.2 (by decide) | lia) ?_)
  refine WS.cons (law17 (p := ⟨.lst (xs.map .int), h0, h1, h2, h3, rg, ln, x, nm, wrds rg ln x nm, txOf h2 (wrds rg ln x nm)⟩) N (by first | assumption | exact Nat.le_trans hln3 (by decide) | exact Nat.le_trans hrg5 (by decide) | exact Nat.le_trans lr (by decide) | exact Nat.le_trans hrob.2 (by decide) | lia) nm1 n18 sl (fun i => (sg i).2) (S_masks (by first | assumption | exact Nat.le_trans hln3 (by decide) | exact Nat.le_trans hrg5 (by decide) | exact Nat.le_trans lr (by decide) | exact Nat.le_trans hrob.2 (by decide) | lia) hln1 nm1 nm2 _) ?_)
  refine WS.cons (law18 (p := ⟨.lst (xs.map .int), h0, h1, h2, h3, rg, ln, x, nm, wrds rg ln x nm, txOf h2 (wrds rg ln x nm)⟩) N (by first | assumption | exact Nat.le_trans hln3 (by decide) | exact Nat.le_trans hrg5 (by decide) | exact Nat.le_trans lr (by decide) | exact Nat.le_trans hrob.2 (by decide) | lia) n18 ?_)
  have hlt : ∀ c ∈ nm, ∃ t, t < ln + rg ∧ c = nm.getD t 0 := fun c hc => ⟨_, (nm_of nm2 hc).1, (nm_of nm2 hc).2.symm⟩
  have hhd : ∀ c ∈ nm, lenOf (itS nm (wrds rg ln x nm)) (roOf rg ln) c ≠ [] ∧ hdOf (itS nm (wrds rg ln x nm)) (roOf rg ln) c ≤ 1000 := fun c hc => by
    obtain ⟨t, ht, rfl⟩ := hlt c hc
    have hr0 := r0
    rw [lenOf_LT hr0 hln1 nm1 nm2 ht, hdOf_HT hr0 hln1 nm1 nm2 ht]
    refine ⟨?_, by have := HT_le (x := x) hr0 hln1 hrob.1 ht; lia⟩
    by_cases hq : t < ln
    · rw [LT_lane hln1 hq (by first | assumption | exact Nat.le_trans hln3 (by decide) | exact Nat.le_trans hrg5 (by decide) | exact Nat.le_trans lr (by decide) | exact Nat.le_trans hrob.2 (by decide) | lia)]; simp
    · obtain ⟨f, rest, e, _⟩ := LT_ring (x := x) hr0 hln1 (j := t - ln) (by first | assumption | exact Nat.le_trans hln3 (by decide) | exact Nat.le_trans hrg5 (by decide) | exact Nat.le_trans lr (by decide) | exact Nat.le_trans hrob.2 (by decide) | lia) hrob.1
      rw [show t = ln + (t - ln) by lia, e]; simp
  refine WS.cons (law19 (p := ⟨.lst (xs.map .int), h0, h1, h2, h3, rg, ln, x, nm, wrds rg ln x nm, txOf h2 (wrds rg ln x nm)⟩) N r8 l8 nm1 nm2 wl w10 (fun w hw => (wm w hw).2.2) (fun c hc => (hhd c hc).1) ?_)
  rw [show gainsOf (itS nm (wrds rg ln x nm)) (roOf rg ln) nm (wrds rg ln x nm) (ln + rg) = gAll rg ln x (roOf rg ln) from gains_eq (by first | assumption | exact Nat.le_trans hln3 (by decide) | exact Nat.le_trans hrg5 (by decide) | exact Nat.le_trans lr (by decide) | exact Nat.le_trans hrob.2 (by decide) | lia) hln1 nm1 nm2]
  have hg := fun g hg => gAll_ok (rg := rg) (ln := ln) (x := x) (ro := roOf rg ln) (by first | assumption | exact Nat.le_trans hln3 (by decide) | exact Nat.le_trans hrg5 (by decide) | exact Nat.le_trans lr (by decide) | exact Nat.le_trans hrob.2 (by decide) | lia) (by first | assumption | exact Nat.le_trans hln3 (by decide) | exact Nat.le_trans hrg5 (by decide) | exact Nat.le_trans lr (by decide) | exact Nat.le_trans hrob.2 (by decide) | lia) hln1 (by first | assumption | exact Nat.le_trans hln3 (by decide) | exact Nat.le_trans hrg5 (by decide) | exact Nat.le_trans lr (by decide) | exact Nat.le_trans hrob.2 (by decide) | lia) hrob.1 (g := g) hg
  have hgl : (gAll rg ln x (roOf rg ln)).length ≤ 1000 := by
    rw [← gains_eq (x := x) (ro := roOf rg ln) r0 hln1 nm1 nm2]
    have := gainsOf_len (itS nm (wrds rg ln x nm)) (roOf rg ln) nm (wrds rg ln x nm) w10 (ln + rg)
    lia
  have hd0 := dOf_pos (rg := rg) (x := x) (by first | assumption | exact Nat.le_trans hln3 (by decide) | exact Nat.le_trans hrg5 (by decide) | exact Nat.le_trans lr (by decide) | exact Nat.le_trans hrob.2 (by decide) | lia)
  have hd1' := dOf_le (rg := rg) (x := x) (by first | assumption | exact Nat.le_trans hln3 (by decide) | exact Nat.le_trans hrg5 (by decide) | exact Nat.le_trans lr (by decide) | exact Nat.le_trans hrob.2 (by decide) | lia)
  have hmeas := measure_is (rg := rg) (ln := ln) (x := x) (ro := roOf rg ln) (by first | assumption | exact Nat.le_trans hln3 (by decide) | exact Nat.le_trans hrg5 (by decide) | exact Nat.le_trans lr (by decide) | exact Nat.le_trans hrob.2 (by decide) | lia) (by first | assumption | exact Nat.le_trans hln3 (by decide) | exact Nat.le_trans hrg5 (by decide) | exact Nat.le_trans lr (by decide) | exact Nat.le_trans hrob.2 (by decide) | lia) hln1 (by first | assumption | exact Nat.le_trans hln3 (by decide) | exact Nat.le_trans hrg5 (by decide) | exact Nat.le_trans lr (by decide) | exact Nat.le_trans hrob.2 (by decide) | lia) hrob.1
  have hd100 : dOf rg x ≤ 100 := by lia
  refine WS.cons (law20 (p := ⟨.lst (xs.map .int), h0, h1, h2, h3, rg, ln, x, nm, wrds rg ln x nm, txOf h2 (wrds rg ln x nm)⟩) fun ask hask => ?_)
  refine WS.cons (law21 (p := ⟨.lst (xs.map .int), h0, h1, h2, h3, rg, ln, x, nm, wrds rg ln x nm, txOf h2 (wrds rg ln x nm)⟩) V hmme hfme hmre hfre (upd_same ..) r8 hgl (fun g h => (hg g h).2.1) hmeas fun log hl1 hl2 => ?_)
  rw [upd_upd]
  refine WS.cons (law22 (p := ⟨.lst (xs.map .int), h0, h1, h2, h3, rg, ln, x, nm, wrds rg ln x nm, txOf h2 (wrds rg ln x nm)⟩) ?_)
  have hfar : roOf rg ln + h3 % 4000 ≤ 100000 := by lia
  have hfar2 : roOf rg ln ≤ roOf rg ln + h3 % 4000 := by lia
  rw [show (LP.mk (.lst (xs.map .int)) h0 h1 h2 h3 rg ln x nm (wrds rg ln x nm) (txOf h2 (wrds rg ln x nm))).h3 = h3 from rfl]
  generalize roOf rg ln + h3 % 4000 = fa at *
  obtain ⟨tu, htu⟩ : ∃ tu : Nat, ((ln : Int) - fa).fmod (dOf rg x : Nat) = (tu : Int) := ⟨_, (Int.toNat_of_nonneg (Int.fmod_nonneg_of_pos _ (by first | assumption | exact Nat.le_trans hln3 (by decide) | exact Nat.le_trans hrg5 (by decide) | exact Nat.le_trans lr (by decide) | exact Nat.le_trans hrob.2 (by decide) | lia))).symm⟩
  have htul : tu ≤ 100 := by have := Int.fmod_lt_of_pos ((ln : Int) - fa) (b := (dOf rg x : Nat)) (by first | assumption | exact Nat.le_trans hln3 (by decide) | exact Nat.le_trans hrg5 (by decide) | exact Nat.le_trans lr (by decide) | exact Nat.le_trans hrob.2 (by decide) | lia); lia
  refine WS.cons (law23 (p := ⟨.lst (xs.map .int), h0, h1, h2, h3, rg, ln, x, nm, wrds rg ln x nm, txOf h2 (wrds rg ln x nm)⟩) V hmre hfre (upd_same ..) hl1 (by first | assumption | exact Nat.le_trans hln3 (by decide) | exact Nat.le_trans hrg5 (by decide) | exact Nat.le_trans lr (by decide) | exact Nat.le_trans hrob.2 (by decide) | lia) hd0 hd100 hfar l8 htu fun log2 hl3 hl4 => ?_)
  rw [upd_upd]
  refine WS.cons (law24 (p := ⟨.lst (xs.map .int), h0, h1, h2, h3, rg, ln, x, nm, wrds rg ln x nm, txOf h2 (wrds rg ln x nm)⟩) V hmre hfre (upd_same ..) hl3 (by first | assumption | exact Nat.le_trans hln3 (by decide) | exact Nat.le_trans hrg5 (by decide) | exact Nat.le_trans lr (by decide) | exact Nat.le_trans hrob.2 (by decide) | lia) hd0 hd100 l8 r8 nm2 htul (by first | assumption | exact Nat.le_trans hln3 (by decide) | exact Nat.le_trans hrg5 (by decide) | exact Nat.le_trans lr (by decide) | exact Nat.le_trans hrob.2 (by decide) | lia) (fun c hc => (hhd c hc).1) (fun c hc => (hhd c hc).2) fun log3 hl5 hl6 => ?_)
  rw [upd_upd]
  refine WS.cons (law25 (p := ⟨.lst (xs.map .int), h0, h1, h2, h3, rg, ln, x, nm, wrds rg ln x nm, txOf h2 (wrds rg ln x nm)⟩) (upd_same ..) hl5 (by first | assumption | exact Nat.le_trans hln3 (by decide) | exact Nat.le_trans hrg5 (by decide) | exact Nat.le_trans lr (by decide) | exact Nat.le_trans hrob.2 (by decide) | lia) ?_)
  refine WS.cons (law26 (p := ⟨.lst (xs.map .int), h0, h1, h2, h3, rg, ln, x, nm, wrds rg ln x nm, txOf h2 (wrds rg ln x nm)⟩) hgi hmgi hmga hfga hmte hfte l8 hln1 r8 nm2 (by first | assumption | exact Nat.le_trans hln3 (by decide) | exact Nat.le_trans hrg5 (by decide) | exact Nat.le_trans lr (by decide) | exact Nat.le_trans hrob.2 (by decide) | lia) (fun t ht => told_all hrg3 hrg5 hln1 hln3 nm1 nm2 ht) ?_)
  refine WS.cons (law27 (p := ⟨.lst (xs.map .int), h0, h1, h2, h3, rg, ln, x, nm, wrds rg ln x nm, txOf h2 (wrds rg ln x nm)⟩) N hmfa hffa hmaf hfaf r8 (by show ln ≤ fa; lia) (by first | assumption | exact Nat.le_trans hln3 (by decide) | exact Nat.le_trans hrg5 (by decide) | exact Nat.le_trans lr (by decide) | exact Nat.le_trans hrob.2 (by decide) | lia) (there_is hrg3 hrg5 hln1 nm1 nm2 hfar2 htu) r0 (hq _) fun d vs led q => q)
set_option tactic.hygienic false
structure TabNum (h : Heap) (mg : Str → Option Value) (x : Str) (a c P : Addr) : Prop where
  mgx : mg x = some (.ref a)
  oa : ∃ o fd, h.get? a = some o ∧ o.data = .func fd ∧ fd.code = .ref c
  oc : ∃ o vs, h.get? c = some o ∧ o.data = .fields vs ∧ vs.getD 11 .none = .ref P
noncomputable def recOf : Stmt → DefRec
  | .FunctionDef n a b _ _ _ s _ _ p => ⟨n, a, b, s, p⟩
  | _ => ⟨"", default, [], default, ⟨0, 0, 0, 0⟩⟩
theorem tab_of {p : Program} {loose : List Str} {mean : ExcName → Option Value} {mg mb : Str → Option Value} {h : Heap} (T : Top p loose mean mg mb h) {d : DefRec} (hd : d ∈ recsOf p) {a c P : Addr} (N : TabNum h mg d.name a c P) : h.IsCode c P #[] ∧ h.TableAt c P #[] := by
  obtain ⟨a', o, fd, c', P', h1, h2, h3, h4, h5, h6⟩ := T.tab d hd
  rw [N.mgx] at h1; cases h1
  obtain ⟨o2, fd2, k1, k2, k3⟩ := N.oa
  rw [k1] at h2; cases h2
  rw [k2] at h3; cases h3
  rw [k3] at h4; cases h4
  obtain ⟨o3, vs, m1, m2, m3⟩ := N.oc
  have h5' := h5
  obtain ⟨o4, vs4, _, _, _, _, _, _, _, _, n1, n2, n3, _⟩ := h5
  rw [m1] at n1; cases n1
  rw [m2] at n2; cases n2
  rw [m3] at n3; cases n3
  exact ⟨h5', h6⟩
/-- the code tables that grow -/
noncomputable def ct3 : List (Addr × Addr) := [(111, 107), (76, 72), (83, 79)]
theorem tabs_of {s : Shared} {p : Program} {loose : List Str} {mean : ExcName → Option Value} {mg mb : Str → Option Value} (T : Top p loose mean mg mb s.heap)
    (n1 : recOf (top2 14) ∈ recsOf p) (n2 : recOf (top2 6) ∈ recsOf p) (n3 : recOf (top2 7) ∈ recsOf p)
    (t1 : TabNum s.heap mg (recOf (top2 14)).name 112 111 107) (t2 : TabNum s.heap mg (recOf (top2 6)).name 77 76 72) (t3 : TabNum s.heap mg (recOf (top2 7)).name 84 83 79) : ∀ q ∈ ct3, s.heap.IsCode q.1 q.2 #[] ∧ s.heap.TableAt q.1 q.2 #[] :=
  List.forall_mem_cons.mpr ⟨tab_of T n1 t1, List.forall_mem_cons.mpr ⟨tab_of T n2 t2, List.forall_mem_cons.mpr ⟨tab_of T n3 t3, fun _ h => by cases h⟩⟩⟩
theorem ct3_ne : ∀ q ∈ ct3, q.2 ≠ mainGlobals ∧ q.2 ≠ builtinsNs ∧ q.2 ≠ cStatics := by decide
theorem ct3_no : ∀ q ∈ ct3, ∀ r ∈ ct3, r.2 ≠ q.1 ∧ (q.2 = r.2 → q.1 = r.1) := by decide
theorem Top.bmod {s : Shared} {p : Program} {loose : List Str} {mean : ExcName → Option Value} {mg mb : Str → Option Value} (T : Top p loose mean mg mb s.heap) :
    ∃ bm o, mg "__builtins__" = some (.ref bm) ∧ bm ≠ builtinsNs ∧ bm ≠ mainGlobals ∧ s.heap.get? bm = some o ∧ o.cls = .type "module" ∧ o.dict = some builtinsNs ∧ o.data = .plain := by
  obtain ⟨bm, ob, b1, b2, b3, b4, b5, b6⟩ := T.bmain
  refine ⟨bm, ob, b1, b2, fun e => ?_, b3, b4, b5, b6⟩
  subst e
  obtain ⟨o, es, ep, g1, g2, _⟩ := T.g
  rw [b3] at g1; cases g1
  rw [b6] at g2; cases g2
/-- the setting, from the head's facts -/
noncomputable def mkCx (prog : Program) (w : World) (s : Shared) {p : Program} {loose : List Str} {mean : ExcName → Option Value} {mg mb : Str → Option Value} (T : Top p loose mean mg mb s.heap)
    (n1 : recOf (top2 14) ∈ recsOf p) (n2 : recOf (top2 6) ∈ recsOf p) (n3 : recOf (top2 7) ∈ recsOf p)
    (t1 : TabNum s.heap mg (recOf (top2 14)).name 112 111 107) (t2 : TabNum s.heap mg (recOf (top2 6)).name 77 76 72) (t3 : TabNum s.heap mg (recOf (top2 7)).name 84 83 79) : Cx where
  prog := prog
  w := w
  h₀ := s.heap
  os := s.os
  mg := mg
  mb := mb
  ct := fun c P => (c, P) ∈ ct3
  dq := fun c pos => if c = 111 then (if pos.line = posR.line then "_law_lexer.<locals>._law_read" else "_law_lexer.<locals>.<lambda>") else if c = 76 then "_int2digits.<locals>.inner" else "_digits2int.<locals>.inner"
  g := T.g
  gt := fun c h => (ct3_ne _ h).1 rfl
  b := T.b
  bt := fun c h => (ct3_ne _ h).2.1 rfl
  nolimit := T.nolimit
  nodigits := T.nodigits
  cs := fun c h => (ct3_ne _ h).2.2 rfl
  bb := T.builtins
  bat := let ⟨bm, o, b1, b2, b3, b4, b5, b6, b7⟩ := Top.bmod T
    ⟨bm, o, b1, b2, b3, b4, b5, b6, b7, fun c h => by
      have k := (tabs_of T n1 n2 n3 t1 t2 t3 _ h).2.2
      rw [show s.heap.get? bm = some o from b4] at k; cases k; cases b5⟩
  tabIs := fun c P h => ⟨_, (tabs_of T n1 n2 n3 t1 t2 t3 _ h).2⟩
  tabNo := fun c P c' h h' => (ct3_no _ h _ h').1 rfl
  dqe := fun c p p' hl _ => by rw [hl]
  uniq := fun c c' P h h' => (ct3_no _ h _ h').2 rfl
set_option tactic.hygienic false
section
variable {prog : Program} {w : World} {s : Shared} {p : Program} {loose : List Str} {mean : ExcName → Option Value} {mg mb : Str → Option Value} {T : Top p loose mean mg mb s.heap}
    {n1 : recOf (top2 14) ∈ recsOf p} {n2 : recOf (top2 6) ∈ recsOf p} {n3 : recOf (top2 7) ∈ recsOf p}
    {t1 : TabNum s.heap mg (recOf (top2 14)).name 112 111 107} {t2 : TabNum s.heap mg (recOf (top2 6)).name 77 76 72} {t3 : TabNum s.heap mg (recOf (top2 7)).name 84 83 79}
theorem tab_obj {P : Addr} (h : (mkCx prog w s T n1 n2 n3 t1 t2 t3).tab P) : s.heap.get? P = some { cls := .none, data := .fields #[] } := by
  obtain ⟨c, h⟩ := h
  exact (tabs_of T n1 n2 n3 t1 t2 t3 _ h).2.2
theorem no_tab {a : Addr} {o : Obj} (h : s.heap.get? a = some o) (hd : o.data ≠ .fields #[]) : ¬ (mkCx prog w s T n1 n2 n3 t1 t2 t3).tab a := fun ht => by
  rw [tab_obj ht] at h; cases h; exact hd rfl
theorem no_tab_code {cd : Value} {q : Str} (h : s.heap.CodeRec cd q) : ∀ c, cd = .ref c → ¬ (mkCx prog w s T n1 n2 n3 t1 t2 t3).tab c := by
  obtain ⟨c, o, vs, t, rfl, h1, h2, h3⟩ := h
  rintro c' e
  cases e
  refine no_tab h1 fun z => ?_
  rw [h2] at z
  cases z
  cases h3
theorem gfn_of (d : DefRec) (hd : d ∈ recsOf p) : ∃ a, mg d.name = some (.ref a) ∧ GFn (mkCx prog w s T n1 n2 n3 t1 t2 t3) a d.stmt := by
  obtain ⟨a, o, pm, cd, doc, h1, h2, h3, h4⟩ := T.fn d hd
  exact ⟨a, h1, _, fun Y led => Callable.glob h2 h3 h4 (no_tab h2 (by rw [h3]; intro z; cases z)) (no_tab_code h4), d.name, d.params, d.body, d.scope, d.pos, rfl, ⟨rfl, rfl, rfl, rfl, rfl, rfl, rfl⟩⟩
theorem gfnc_of {a c P : Addr} (d : DefRec) (hd : d ∈ recsOf p) (N : TabNum s.heap mg d.name a c P) : mg d.name = some (.ref a) ∧ GFnC (mkCx prog w s T n1 n2 n3 t1 t2 t3) a d.stmt c d.name := by
  obtain ⟨a', o, pm, cd, doc, h1, h2, h3, h4⟩ := T.fn d hd
  rw [N.mgx] at h1; cases h1
  obtain ⟨o2, fd2, k1, k2, k3⟩ := N.oa
  rw [k1] at h2; cases h2
  have e := k2
  rw [h3] at e
  cases e
  have e2 : cd = .ref c := k3
  exact ⟨N.mgx, _, ⟨fun Y led => Callable.glob k1 h3 h4 (no_tab k1 (by rw [h3]; intro z; cases z)) (no_tab_code h4), d.name, d.params, d.body, d.scope, d.pos, rfl, ⟨rfl, rfl, rfl, rfl, rfl, rfl, rfl⟩⟩, e2, rfl⟩
theorem gfn_at (n : Nat) (hn : recOf (top2 n) ∈ recsOf p) (hs : (recOf (top2 n)).stmt = top2 n) : ∃ a, mg (recOf (top2 n)).name = some (.ref a) ∧ GFn (mkCx prog w s T n1 n2 n3 t1 t2 t3) a (top2 n) := by
  obtain ⟨a, h1, h2⟩ := gfn_of (prog := prog) (w := w) (T := T) (n1 := n1) (n2 := n2) (n3 := n3) (t1 := t1) (t2 := t2) (t3 := t3) _ hn
  exact ⟨a, h1, by rw [hs] at h2; exact h2⟩
/-- the top's names -/
structure Heads (p : Program) (loose : List Str) : Prop where
  recs : ∀ n ∈ [4, 6, 7, 8, 9, 12, 14, 15, 16, 17, 18, 19, 20, 21, 22, 23, 24], recOf (top2 n) ∈ recsOf p
  free : ∀ x ∈ (("ValueError" : Str) :: biNames), x ∉ startupNames ∧ x ∉ loose ∧ x ∉ (recsOf p).map (·.name) ∧ x ∉ (litsOf p).map (·.1) ∧ x ∉ (clssOf p loose).map (·.name)
  lim : PyProof.Rows.valOf p "_DIV_LIMIT" = some (.int 4000)
  cm : PyProof.Rows.valOf p "CHAR_MAX" = some (.int 127)
theorem const_int (T : Top p loose mean mg mb s.heap) {x : Str} {i : Int} (h : PyProof.Rows.valOf p x = some (.int i)) : ∃ t, mg x = some (.int i t) := by
  obtain ⟨v, h1, h2⟩ := T.const x _ h
  have := h2 s.heap
  cases this
  exact ⟨_, h1⟩
theorem noG_of (H : Heads p loose) : NoG (mkCx prog w s T n1 n2 n3 t1 t2 t3) := fun x hx => by
  obtain ⟨a, b, c, d, e⟩ := H.free x (List.mem_cons_of_mem _ hx)
  exact T.free x a b c d e
theorem rec_stmt : ∀ n ∈ [4, 6, 7, 8, 9, 12, 14, 15, 16, 17, 18, 19, 20, 21, 22, 23, 24], (recOf (top2 n)).stmt = top2 n := by
  intro n hn
  simp only [List.mem_cons, List.not_mem_nil, or_false] at hn
  rcases hn with rfl | rfl | rfl | rfl | rfl | rfl | rfl | rfl | rfl | rfl | rfl | rfl | rfl | rfl | rfl | rfl | rfl <;> rfl
theorem divEnv_of (H : Heads p loose) : DivEnv (mkCx prog w s T n1 n2 n3 t1 t2 t3) where
  N := noG_of H
  lim := const_int T H.lim
  div := gfn_at 4 (H.recs 4 (by decide)) (rec_stmt 4 (by decide))
  i2d := ⟨77, 76, 72, t2.mgx, by have := (gfnc_of (prog := prog) (w := w) (T := T) (n1 := n1) (n2 := n2) (n3 := n3) (t1 := t1) (t2 := t2) (t3 := t3) _ n2 t2).2; rw [rec_stmt 6 (by decide)] at this; exact this, show ((76, 72) : Addr × Addr) ∈ ct3 by decide, rfl⟩
  d2i := ⟨84, 83, 79, t3.mgx, by have := (gfnc_of (prog := prog) (w := w) (T := T) (n1 := n1) (n2 := n2) (n3 := n3) (t1 := t1) (t2 := t2) (t3 := t3) _ n3 t3).2; rw [rec_stmt 7 (by decide)] at this; exact this, show ((83, 79) : Addr × Addr) ∈ ct3 by decide, rfl⟩
  dmp := gfn_at 8 (H.recs 8 (by decide)) (rec_stmt 8 (by decide))
  idm := gfn_at 9 (H.recs 9 (by decide)) (rec_stmt 9 (by decide))
noncomputable def methOf (s : Stmt) : MethRec := ⟨(recOf s).name, (recOf s).params, (recOf s).body, (recOf s).scope⟩
structure HeadC (p : Program) (loose : List Str) : Prop where
  cls : ∃ c, c ∈ plainsOf p loose ∧ c.name = "_netrclex" ∧ (∀ n ∈ [0, 1, 2, 3], methOf (meth2 n) ∈ c.withCmp.meths) ∧ ∀ x ∈ ([("lineno" : Str), "instream", "whitespace", "pushback", "__getattribute__", "__getattr__", "__setattr__"] : List Str), x ∈ c.withCmp.quiet
theorem meth_of {c : ClsRec} {Ca Na : Addr} {mN : Str → Option Value} (P : PlainAt s.heap c Ca Na mN) (n : Nat) (hn : n ∈ [0, 1, 2, 3]) (hm : methOf (meth2 n) ∈ c.meths) : ∃ f, Meth (mkCx prog w s T n1 n2 n3 t1 t2 t3) mN (methOf (meth2 n)).name (meth2 n) f := by
  obtain ⟨f, o, pm, cd, doc, h1, h2, h3, h4, h5⟩ := P.meths _ hm
  refine ⟨f, h1, ?_, o, h2, h3, no_tab h2 (by rw [h4]; intro z; cases z)⟩
  have hs : (recOf (meth2 n)).stmt = meth2 n := by
    simp only [List.mem_cons, List.not_mem_nil, or_false] at hn
    rcases hn with rfl | rfl | rfl | rfl <;> rfl
  exact ⟨_, fun Y led => Callable.glob h2 h4 h5 (no_tab h2 (by rw [h4]; intro z; cases z)) (no_tab_code h5), _, _, _, _, _, hs.symm, ⟨rfl, rfl, rfl, rfl, rfl, rfl, rfl⟩⟩
theorem lexEnv_of (TE : TopE p loose mg s.heap) (H : Heads p loose) (K : HeadC p loose) : ∃ cl mN, LexEnv (mkCx prog w s T n1 n2 n3 t1 t2 t3) cl mN := by
  obtain ⟨c, hc, hname, hm, hqt⟩ := K.cls
  obtain ⟨Ca, Na, mN, h1, P⟩ := TE c hc
  rw [hname] at h1
  have q : ∀ x ∈ ([("lineno" : Str), "instream", "whitespace", "pushback", "__getattribute__", "__getattr__", "__setattr__"] : List Str), mN x = none := fun x hx => P.quiet x (hqt x hx)
  refine ⟨Ca, mN, noG_of H, ⟨⟨⟨Na, P.cls, ?_, ?_⟩, q _ (by simp), q _ (by simp), q _ (by simp)⟩, meth_of P 0 (by decide) (hm 0 (by decide)), meth_of P 1 (by decide) (hm 1 (by decide)), meth_of P 2 (by decide) (hm 2 (by decide)), meth_of P 3 (by decide) (hm 3 (by decide)), q _ (by simp), q _ (by simp), q _ (by simp), q _ (by simp)⟩, h1, ?_⟩
  · obtain ⟨nm, qq, bs, sn, sub, col, dd, k0, k1, k2, k3, k5, e⟩ := P.cls.obj
    exact no_tab e (fun z => by cases z)
  · obtain ⟨o, es, ep, e, e2, _⟩ := P.cls.ns
    exact no_tab e (fun z => by rw [e2] at z; cases z)
  · refine ⟨112, 111, 107, t1.mgx, ?_, show ((111, 107) : Addr × Addr) ∈ ct3 by decide, rfl, rfl⟩
    have := (gfnc_of (prog := prog) (w := w) (T := T) (n1 := n1) (n2 := n2) (n3 := n3) (t1 := t1) (t2 := t2) (t3 := t3) _ n1 t1).2
    rw [rec_stmt 14 (by decide)] at this
    exact this
theorem lawEnv_of (TE : TopE p loose mg s.heap) (H : Heads p loose) (K : HeadC p loose) : LawEnv (mkCx prog w s T n1 n2 n3 t1 t2 t3) where
  V := divEnv_of H
  lex := lexEnv_of TE H K
  gi := by
    obtain ⟨a, h1, h2⟩ := gfn_at (prog := prog) (w := w) (T := T) (n1 := n1) (n2 := n2) (n3 := n3) (t1 := t1) (t2 := t2) (t3 := t3) 12 (H.recs 12 (by decide)) (rec_stmt 12 (by decide))
    refine ⟨a, ⟨noG_of H, const_int T H.cm, ?_, h2⟩, h1⟩
    obtain ⟨a, b, c, d, e⟩ := H.free "ValueError" List.mem_cons_self
    exact T.free _ a b c d e
  wr := gfn_at 15 (H.recs 15 (by decide)) (rec_stmt 15 (by decide))
  wk := gfn_at 16 (H.recs 16 (by decide)) (rec_stmt 16 (by decide))
  af := gfn_at 17 (H.recs 17 (by decide)) (rec_stmt 17 (by decide))
  ro := gfn_at 18 (H.recs 18 (by decide)) (rec_stmt 18 (by decide))
  fa := gfn_at 19 (H.recs 19 (by decide)) (rec_stmt 19 (by decide))
  re := gfn_at 20 (H.recs 20 (by decide)) (rec_stmt 20 (by decide))
  me := gfn_at 21 (H.recs 21 (by decide)) (rec_stmt 21 (by decide))
  te := gfn_at 22 (H.recs 22 (by decide)) (rec_stmt 22 (by decide))
  ga := gfn_at 23 (H.recs 23 (by decide)) (rec_stmt 23 (by decide))
end
set_option tactic.hygienic false
theorem dens_ints {fz : Fz} {vs : List Value} {ns : List Int} (h : IntsAre vs ns) : Dens fz vs (ns.map .int) := by
  induction h with
  | nil => exact .nil
  | cons n t _ ih => exact .cons (.int n t) ih
section
variable {w : World} {s : Shared} {p : Program} {loose : List Str} {mean : ExcName → Option Value} {mg mb : Str → Option Value}
theorem law_runs {C : Cx} {ns : List Int} {fa a : Addr} {cl : Str → Option Addr} {mean' : ExcName → Option Value} {fz : Fz} (E : LawEnv C) (hfn : GFn C fa (top2 24)) (hlen : ns.length ≤ 1000) (hh : C.h₀ = s.heap) (ho : C.os = s.os)
    (S : St C fz emp emp #[] s) (hden : Den fz (.ref a) (.lst (ns.map .int))) :
    wpAny (model C.prog C.w) callerA (call (.ref fa) [.ref a])
      (fun v s' => W.GoodWG PySem.Challenge.rw_sc0050_02.row.claim cl mean' [W.ofPy (PyData.list (ns.map PyData.int))] s (.ok (.ret v)) s') (fun e s' => W.GoodWG PySem.Challenge.rw_sc0050_02.row.claim cl mean' [W.ofPy (PyData.list (ns.map PyData.int))] s (.error e) s') s := by
  have key := law_spec (k := 100) (Y := emp) (led := emp) (Q := fun d _ => d = .bool true) E hfn hlen fun _ => rfl
  refine wpAny_mono (key callerA fz #[] s (.ref fa) [.ref a] ⟨⟨rfl, by decide, by decide⟩, [], rfl, fun e he => by cases he⟩ S (.ref _) (.cons hden .nil)) (fun v s' q => ?_) fun e s' q => q.elim
  obtain ⟨fz', G', d, led', _, g, e, S', rfl⟩ := q
  induction e using Den.boolE
  refine ⟨.inl ⟨_, .bool true, [], rfl, fun _ => rfl, .bool _, (by first | rfl | wrow_post | with_unfolding_all rfl), fun _ => ⟨List.nodup_nil, fun a h => by cases h⟩⟩, by rw [← hh]; exact S'.rel.old, S'.rel.os.trans ho, ?_⟩
  rw [S'.rel.gens]
  exact g.bare (.of_eq rfl)
theorem law_goes (T : Top p loose mean mg mb s.heap) (TE : TopE p loose mg s.heap) (H : Heads p loose) (K : HeadC p loose)
    (t1 : TabNum s.heap mg (recOf (top2 14)).name 112 111 107) (t2 : TabNum s.heap mg (recOf (top2 6)).name 77 76 72) (t3 : TabNum s.heap mg (recOf (top2 7)).name 84 83 79)
    {ns : List Int} {vs : List Value} {fa a : Addr} {cl : Str → Option Addr} {mean' : ExcName → Option Value} (hg : s.gens = #[]) (hfa : mg "law" = some (.ref fa)) (hlen : ns.length ≤ 1000)
    (hobj : ∃ n, s.heap.get? a = some { cls := .type "list", data := .seq vs.toArray n }) (hI : IntsAre vs ns) :
    wpAny (model PySem.Challenge.rw_sc0050_02.row.prog w) callerA (call (.ref fa) [.ref a])
      (fun v s' => W.GoodWG PySem.Challenge.rw_sc0050_02.row.claim cl mean' [W.ofPy (PyData.list (ns.map PyData.int))] s (.ok (.ret v)) s') (fun e s' => W.GoodWG PySem.Challenge.rw_sc0050_02.row.claim cl mean' [W.ofPy (PyData.list (ns.map PyData.int))] s (.error e) s') s := by
  have n1 := H.recs 14 (by decide)
  have n2 := H.recs 6 (by decide)
  have n3 := H.recs 7 (by decide)
  obtain ⟨n, hobj⟩ := hobj
  obtain ⟨fa', hfa', hfn⟩ := gfn_at (prog := PySem.Challenge.rw_sc0050_02.row.prog) (w := w) (T := T) (n1 := n1) (n2 := n2) (n3 := n3) (t1 := t1) (t2 := t2) (t3 := t3) 24 (H.recs 24 (by decide)) (rec_stmt 24 (by decide))
  have hfe : fa' = fa := by
    have h2 : mg "law" = some (.ref fa') := hfa'
    rw [hfa] at h2; cases h2; rfl
  subst hfe
  have E := lawEnv_of (prog := PySem.Challenge.rw_sc0050_02.row.prog) (w := w) (T := T) (n1 := n1) (n2 := n2) (n3 := n3) (t1 := t1) (t2 := t2) (t3 := t3) TE H K
  have S0 : St (mkCx PySem.Challenge.rw_sc0050_02.row.prog w s T n1 n2 n3 t1 t2 t3) (fun b => if b = a then some { cls := .type "list", data := .seq vs.toArray n } else none) emp emp #[] s := by
    refine ⟨fun _ => .inl rfl, ?_⟩
    have hnt := no_tab (prog := PySem.Challenge.rw_sc0050_02.row.prog) (w := w) (T := T) (n1 := n1) (n2 := n2) (n3 := n3) (t1 := t1) (t2 := t2) (t3 := t3) hobj (fun z => by cases z)
    exact {
      fzIn := fun b o h => by
        by_cases e : b = a
        · subst e; rw [if_pos rfl] at h; cases h; exact hobj
        · rw [if_neg e] at h; cases h
      ledIn := fun b m h => by cases h
      apart := fun b o h => rfl
      fzt := fun b o h => by
        by_cases e : b = a
        · subst e; exact hnt
        · rw [if_neg e] at h; cases h
      new := fun b m h => by cases h
      base := fun b o h _ => h
      tabs := fun c P h => by
        exact ⟨#[], (tabs_of T n1 n2 n3 t1 t2 t3 _ h).1, (tabs_of T n1 n2 n3 t1 t2 t3 _ h).2, fun pos v e => by cases e⟩
      old := .refl _
      os := rfl
      gens := hg }
  exact law_runs E hfn hlen rfl rfl S0 (.lst (if_pos rfl) (dens_ints hI))
end
/-! what the program's end is seen to hold -/
theorem tabNum_of {h h' : Heap} {mg : Str → Option Value} {x : Str} {a c P : Addr} (hc : tabChk h x a c P = true) (k : ∀ b o, h.get? b = some o → h'.get? b = some o) (g : h'.Ns mainGlobals mg) : TabNum h' mg x a c P := by
  simp only [tabChk, Bool.and_eq_true, beq_iff_eq] at hc
  obtain ⟨⟨h1, h2⟩, h3⟩ := hc
  obtain ⟨o1, e1, f1⟩ := Option.bind_eq_some_iff.mp h1
  obtain ⟨o2, e2, f2⟩ := Option.bind_eq_some_iff.mp h2
  obtain ⟨o3, e3, f3⟩ := Option.bind_eq_some_iff.mp h3
  refine ⟨?_, ?_, ?_⟩
  · obtain ⟨o', es', ep', g1, g2, _, g3⟩ := g
    rw [k _ _ e1] at g1
    cases g1
    rw [g2] at f1
    obtain ⟨v, i1, i2⟩ := Option.bind_eq_some_iff.mp (show (nsFind es' x).bind refOf = some a from f1)
    rw [← g3, i1, refOf_eq i2]
  · cases hd : o2.data with
    | func fd => rw [hd] at f2; exact ⟨o2, fd, k _ _ e2, hd, refOf_eq f2⟩
    | _ => rw [hd] at f2; cases f2
  · cases hd : o3.data with
    | fields vs => rw [hd] at f3; exact ⟨o3, vs, k _ _ e3, hd, refOf_eq f3⟩
    | _ => rw [hd] at f3; cases f3
noncomputable def nums : List Nat := [4, 5, 6, 7, 8, 9, 12, 14, 15, 16, 17, 18, 19, 20, 21, 22, 23, 24]
theorem heads_of {p : Program} {loose : List Str} (e : recsOf p = nums.map fun n => recOf (top2 n)) (hf : ∀ x ∈ (("ValueError" : Str) :: biNames), x ∉ startupNames ∧ x ∉ loose ∧ x ∉ (recsOf p).map (·.name) ∧ x ∉ (litsOf p).map (·.1) ∧ x ∉ (clssOf p loose).map (·.name))
    (hl : PyProof.Rows.valOf p "_DIV_LIMIT" = some (.int 4000)) (hc : PyProof.Rows.valOf p "CHAR_MAX" = some (.int 127)) : Heads p loose := by
  refine ⟨fun n hn => ?_, hf, hl, hc⟩
  rw [e]
  refine List.mem_map.mpr ⟨n, ?_, rfl⟩
  revert n; decide
theorem net_some : (clsOf? PySem.Challenge.pw_sc0050_02 "_netrclex").isSome = true := by kernel_rfl
noncomputable def netRec : ClsRec := (clsOf? PySem.Challenge.pw_sc0050_02 "_netrclex").get net_some
theorem headC_of {p : Program} {loose : List Str} (e : plainsOf p loose = [netRec]) : HeadC p loose := by
  refine ⟨netRec, by rw [e]; exact List.mem_cons_self, by kernel_rfl, ?_, by decide +kernel⟩
  have e2 : netRec.withCmp.meths = [0, 1, 2, 3].map fun n => methOf (meth2 n) := by kernel_rfl
  intro n hn
  rw [e2]
  exact List.mem_map.mpr ⟨n, hn, rfl⟩
end Sc
open PySem PySem.W PyProof.Rows
set_option maxRecDepth 100000 in
set_option maxHeartbeats 0 in
theorem PySem.Challenge.cw_sc0050_02_holds : PySem.Challenge.rw_sc0050_02.Holds := by
  w_on
  refine holds_law (by kernel_rfl) fun said => ?_
  refine holds_openX (q := Sc.viewP) (loose := []) (Xt := fun s => xlAt Sc.viewP [] s && recOk (RowW.records (OpenRow.toRowW _)) s) (XP := XL Sc.viewP []) (Yf := Sc.seen) (Ya := fun _ => true) (N := 2036) ?hl (fun s e => xl_of s (Bool.and_eq_true_iff.mp e).1) XL.keeps (by rfl) (by rfl) (by rfl) (fun s e => recFacts_of (Bool.and_eq_true_iff.mp e).2) (by rfl) (by first | assumption | decide +kernel) (by decide +kernel) ⟨rfl, rfl, rfl, rfl, rfl, by decide +kernel⟩ ?hw ?hc
  case hl => exact Sc.left_w
  case hw => w_witness2
  case hc =>
    intro w s₀ s₁ mg mb G y fa o pm cd doc dV kV ho hd hcd hD hmg hg args vals as L hpre hlay hrd hwl hlo
    refine Ground.open G ?_
    intro T B D TE TW
    wrow_args hpre hlay hrd hwl hlo
    have hobj := PySem.W.X.script_obj L (by assumption)
    simp only [Sc.seen, Bool.and_eq_true] at y
    refine Sc.law_goes T TE ?H ?K (Sc.tabNum_of y.1 L.keeps T.g) (Sc.tabNum_of y.2.1 L.keeps T.g) (Sc.tabNum_of y.2.2 L.keeps T.g) hg hmg ?hlen ⟨_, hobj⟩ (by assumption)
    · exact Sc.heads_of (by kernel_rfl) (by decide +kernel) (by kernel_rfl) (by kernel_rfl)
    · exact Sc.headC_of (by kernel_rfl)
    · omega
