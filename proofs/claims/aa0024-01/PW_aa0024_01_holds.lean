import PyProof.Rows.All
import Wide.All
import OpenK.AllK
import Wide.FinOn
import Lean
import PySem.Challenge.RW_aa0024_01
open PySem PySem.W PyProof.Rows
set_option Elab.async false
set_option linter.unusedVariables false
namespace Mine

noncomputable abbrev pw := PySem.Challenge.pw_aa0024_01
/-- the code table of the one def that makes generators: the only old object that a call turns -/
noncomputable abbrev T0 : Addr := 73

/-- data: what a value is, up to identity -/
inductive SV where
  | unset | none
  | bool (b : Bool) | int (i : Int) | str (x : List Nat) | ty (n : String) | bi (id : String)
  | fn (a : Addr)
  | list (xs : List SV) | tup (xs : List SV)
  | objv
  | ml (k : Nat)
  | app (k : Nat)
  | sl (lo hi : Option Int)
  | rng (k : Nat)

noncomputable abbrev Frz := Addr → Option Obj
noncomputable abbrev lstO (l : List Value) (ep : Nat) : Obj := { cls := .type "list", data := .seq ⟨l⟩ ep }
noncomputable abbrev tupO (l : List Value) (ep : Nat) : Obj := { cls := .type "tuple", data := .seq ⟨l⟩ ep }
noncomputable abbrev appO (a : Addr) : Obj := { cls := .type "builtin_function_or_method", data := .fields #[.builtin "list.append", .ref a] }

mutual
noncomputable def SV.At (fz : Frz) (as : List Addr) : SV → Value → Prop
  | .unset, _ => False
  | .none, v => v = .none
  | .bool b, v => v = .bool b
  | .int i, v => ∃ t, v = .int i t
  | .str x, v => ∃ t, v = .str ⟨⟨x⟩⟩ t
  | .ty n, v => v = .type n
  | .bi n, v => v = .builtin n
  | .fn a, v => v = .ref a
  | .list xs, v => ∃ a l ep, v = .ref a ∧ fz a = some (lstO l ep) ∧ SV.AtL fz as xs l
  | .tup xs, v => ∃ a l ep, v = .ref a ∧ fz a = some (tupO l ep) ∧ SV.AtL fz as xs l
  | .objv, v => ∃ a o, v = .ref a ∧ fz a = some o ∧ o.cls = .type "object" ∧ o.data = .plain
  | .ml k, v => ∃ a, v = .ref a ∧ as[k]? = some a
  | .app k, v => ∃ a b, v = .ref b ∧ as[k]? = some a ∧ fz b = some (appO a)
  | .sl lo hi, v => ∃ a l u, v = .ref a ∧ l.map (·.1) = lo ∧ u.map (·.1) = hi ∧ fz a = some { cls := .type "slice", data := .fields #[partValue l, partValue u, .none] }
  | .rng k, v => ∃ a t u w, v = .ref a ∧ fz a = some { cls := .type "range", data := .fields #[.int 0 t, .int k u, .int 1 w] }
noncomputable def SV.AtL (fz : Frz) (as : List Addr) : List SV → List Value → Prop
  | [], l => l = []
  | x :: xs, l => ∃ v r, l = v :: r ∧ SV.At fz as x v ∧ SV.AtL fz as xs r
end

noncomputable def Frz.le (f g : Frz) : Prop := ∀ a o, f a = some o → g a = some o
theorem Frz.le.refl (f : Frz) : f.le f := fun _ _ e => e
theorem Frz.le.trans {f g h : Frz} (x : f.le g) (y : g.le h) : f.le h := fun a o e => y a o (x a o e)

/-- as le, but the contents of cells may change -/
noncomputable def Frz.lw (f g : Frz) : Prop := ∀ a o, f a = some o → (∀ v, o.data ≠ .cell v) → g a = some o
theorem Frz.le.lw {f g : Frz} (x : f.le g) : f.lw g := fun a o e _ => x a o e
theorem Frz.lw.refl (f : Frz) : f.lw f := fun _ _ e _ => e
theorem Frz.lw.trans {f g h : Frz} (x : f.lw g) (y : g.lw h) : f.lw h := fun a o e n => y a o (x a o e n) n

theorem getp {as as' : List Addr} (p : as <+: as') {k : Nat} {a : Addr} (e : as[k]? = some a) : as'[k]? = some a := by
  obtain ⟨r, rfl⟩ := p
  rw [List.getElem?_append_left (List.getElem?_eq_some_iff.mp e).1]; exact e

mutual
theorem SV.At.monoW {fz fz' : Frz} {as as' : List Addr} (h : fz.lw fz') (p : as <+: as') : ∀ (x : SV) {v : Value}, x.At fz as v → x.At fz' as' v
  | .unset, _, e => by simp only [SV.At] at e
  | .none, _, e => by simpa only [SV.At] using e
  | .bool b, _, e => by simpa only [SV.At] using e
  | .int i, _, e => by simpa only [SV.At] using e
  | .str x, _, e => by simpa only [SV.At] using e
  | .ty n, _, e => by simpa only [SV.At] using e
  | .bi n, _, e => by simpa only [SV.At] using e
  | .fn n, _, e => by simpa only [SV.At] using e
  | .list xs, _, e => by
    simp only [SV.At] at e ⊢
    obtain ⟨a, l, ep, e1, e2, e3⟩ := e
    exact ⟨a, l, ep, e1, h _ _ e2 (fun _ z => nomatch z), SV.AtL.monoW h p xs e3⟩
  | .tup xs, _, e => by
    simp only [SV.At] at e ⊢
    obtain ⟨a, l, ep, e1, e2, e3⟩ := e
    exact ⟨a, l, ep, e1, h _ _ e2 (fun _ z => nomatch z), SV.AtL.monoW h p xs e3⟩
  | .objv, _, e => by
    simp only [SV.At] at e ⊢
    obtain ⟨a, o, e1, e2, e3⟩ := e
    exact ⟨a, o, e1, h _ _ e2 (fun _ z => by rw [e3.2] at z; cases z), e3⟩
  | .ml k, _, e => by
    simp only [SV.At] at e ⊢
    obtain ⟨a, e1, e2⟩ := e
    exact ⟨a, e1, getp p e2⟩
  | .app k, _, e => by
    simp only [SV.At] at e ⊢
    obtain ⟨a, b, e1, e2, e3⟩ := e
    exact ⟨a, b, e1, getp p e2, h _ _ e3 (fun _ z => nomatch z)⟩
  | .sl lo hi, _, e => by
    simp only [SV.At] at e ⊢
    obtain ⟨a, l, u, e1, e2, e3, e4⟩ := e
    exact ⟨a, l, u, e1, e2, e3, h _ _ e4 (fun _ z => nomatch z)⟩
  | .rng k, _, e => by
    simp only [SV.At] at e ⊢
    obtain ⟨a, t, u, w, e1, e2⟩ := e
    exact ⟨a, t, u, w, e1, h _ _ e2 (fun _ z => nomatch z)⟩
theorem SV.AtL.monoW {fz fz' : Frz} {as as' : List Addr} (h : fz.lw fz') (p : as <+: as') : ∀ (xs : List SV) {l : List Value}, SV.AtL fz as xs l → SV.AtL fz' as' xs l
  | [], _, e => by simpa only [SV.AtL] using e
  | x :: xs, _, e => by
    simp only [SV.AtL] at e ⊢
    obtain ⟨v, r, e1, e2, e3⟩ := e
    exact ⟨v, r, e1, SV.At.monoW h p x e2, SV.AtL.monoW h p xs e3⟩
end

theorem SV.At.mono {fz fz' : Frz} {as as' : List Addr} (h : fz.le fz') (p : as <+: as') (x : SV) {v : Value} (a : x.At fz as v) : x.At fz' as' v := SV.At.monoW h.lw p x a
theorem SV.AtL.mono {fz fz' : Frz} {as as' : List Addr} (h : fz.le fz') (p : as <+: as') (xs : List SV) {l : List Value} (a : SV.AtL fz as xs l) : SV.AtL fz' as' xs l := SV.AtL.monoW h.lw p xs a

theorem SV.AtL.length {fz : Frz} {as : List Addr} : ∀ {xs : List SV} {l : List Value}, SV.AtL fz as xs l → l.length = xs.length
  | [], _, e => by simp only [SV.AtL] at e; subst e; rfl
  | x :: xs, _, e => by
    simp only [SV.AtL] at e
    obtain ⟨v, r, rfl, _, e3⟩ := e
    simp [SV.AtL.length e3]
theorem SV.AtL.append {fz : Frz} {as : List Addr} : ∀ {xs ys : List SV} {l r : List Value}, SV.AtL fz as xs l → SV.AtL fz as ys r → SV.AtL fz as (xs ++ ys) (l ++ r)
  | [], _, _, _, e, f => by simp only [SV.AtL] at e; subst e; simpa using f
  | x :: xs, _, _, _, e, f => by
    simp only [SV.AtL] at e
    obtain ⟨v, r, rfl, e2, e3⟩ := e
    simp only [List.cons_append, SV.AtL]
    exact ⟨v, _, rfl, e2, SV.AtL.append e3 f⟩
theorem SV.AtL.cons {fz : Frz} {as : List Addr} {x : SV} {xs : List SV} {v : Value} {l : List Value} (h : x.At fz as v) (hs : SV.AtL fz as xs l) : SV.AtL fz as (x :: xs) (v :: l) := by
  simp only [SV.AtL]; exact ⟨v, l, rfl, h, hs⟩
theorem SV.AtL.nil {fz : Frz} {as : List Addr} : SV.AtL fz as [] [] := by simp only [SV.AtL]
theorem SV.AtL.get {fz : Frz} {as : List Addr} : ∀ {xs : List SV} {l : List Value}, SV.AtL fz as xs l → ∀ {i : Nat} {x : SV}, xs[i]? = some x → ∃ v, l[i]? = some v ∧ x.At fz as v
  | [], _, _, i, x, hx => by simp at hx
  | y :: xs, _, e, i, x, hx => by
    simp only [SV.AtL] at e
    obtain ⟨v, r, rfl, e2, e3⟩ := e
    cases i with
    | zero => simp at hx; subst hx; exact ⟨v, rfl, e2⟩
    | succ i => simp at hx ⊢; exact SV.AtL.get e3 hx
theorem SV.AtL.getNone {fz : Frz} {as : List Addr} {xs : List SV} {l : List Value} (h : SV.AtL fz as xs l) {i : Nat} (hx : xs[i]? = Option.none) : l[i]? = Option.none := by
  have := h.length
  rw [List.getElem?_eq_none_iff] at hx ⊢; omega

/-- the top's statement number i -/
noncomputable def stm (i : Nat) : Stmt := (pw.main.body[i]?).getD (.Pass default)
noncomputable def stBody : Stmt → List Stmt
  | .FunctionDef _ _ b _ _ _ _ _ _ _ => b
  | _ => []
noncomputable def stArgs : Stmt → Arguments
  | .FunctionDef _ a _ _ _ _ _ _ _ _ => a
  | _ => default
noncomputable def stName : Stmt → Str
  | .FunctionDef n _ _ _ _ _ _ _ _ _ => n
  | _ => default
noncomputable def stScope : Stmt → Scope
  | .FunctionDef _ _ _ _ _ _ sc _ _ _ => sc
  | _ => default

/-- a def of the top: its address, its statement's number, its code's address, its module's name and that text's token, its defaults -/
structure FnE where
  a : Addr
  i : Nat
  c : Addr
  mod : Str
  tok : Nat
  dv : Value := .none
noncomputable def FnE.fd (e : FnE) : FuncData :=
  { name := stName (stm e.i), qualname := stName (stm e.i), params := stArgs (stm e.i), body := .stmts (stBody (stm e.i)), scope := stScope (stm e.i), globals := mainGlobals, closure := [], defaults := e.dv, kwdefaults := .none,
    pyModule := .str e.mod e.tok, code := .ref e.c, builtins := builtinsNs }
noncomputable def FnE.obj (e : FnE) : Obj := { cls := .type "function", data := .func e.fd }

noncomputable def e_shorten : FnE := ⟨45, 9, 44, "cpy313.unittest.util", 289, .none⟩
noncomputable def e_kind : FnE := ⟨52, 11, 51, "os.path", 317, .none⟩
noncomputable def e_fspath0 : FnE := ⟨59, 12, 58, "os.path", 317, .none⟩
noncomputable def e_prefix : FnE := ⟨66, 13, 65, "os.path", 317, .none⟩
noncomputable def e_commonprefix : FnE := ⟨71, 14, 70, "os.path", 317, .none⟩
noncomputable def e_csr : FnE := ⟨78, 16, 77, "cpy313.unittest.util", 354, .none⟩
noncomputable def e_safe_repr : FnE := ⟨86, 17, 85, "cpy313.unittest.util", 354, .ref 79⟩
noncomputable def e_translate : FnE := ⟨98, 20, 97, "cpy313.fnmatch", 376, .none⟩
noncomputable def e_escape : FnE := ⟨110, 23, 109, "re", 425, .none⟩
noncomputable def e_translate0 : FnE := ⟨117, 25, 116, "cpy313.fnmatch", 580, .none⟩
noncomputable def e_joinparts : FnE := ⟨124, 26, 123, "cpy313.fnmatch", 580, .none⟩
noncomputable def e_fspath : FnE := ⟨197, 35, 196, "os", 701, .none⟩
noncomputable def e_get_sep : FnE := ⟨211, 39, 210, "cpy313.posixpath", 726, .none⟩
noncomputable def e_join : FnE := ⟨218, 40, 217, "cpy313.posixpath", 726, .none⟩
noncomputable def e_splitroot : FnE := ⟨225, 41, 224, "cpy313.posixpath", 726, .none⟩
noncomputable def e_basename : FnE := ⟨232, 42, 231, "cpy313.posixpath", 726, .none⟩
noncomputable def e_normpath : FnE := ⟨239, 43, 238, "cpy313.posixpath", 726, .none⟩
noncomputable def e_law_rows : FnE := ⟨244, 45, 243, "law_aa0024_01", 779, .none⟩
noncomputable def e_law_path : FnE := ⟨251, 46, 250, "law_aa0024_01", 779, .none⟩
noncomputable def e_law_note : FnE := ⟨258, 47, 257, "law_aa0024_01", 779, .none⟩
noncomputable def e_law_due : FnE := ⟨263, 48, 262, "law_aa0024_01", 779, .none⟩
noncomputable def e_law_pattern : FnE := ⟨270, 49, 269, "law_aa0024_01", 779, .none⟩
noncomputable def e_law_shortens : FnE := ⟨275, 50, 274, "law_aa0024_01", 779, .none⟩
noncomputable def e_law : FnE := ⟨280, 51, 279, "law_aa0024_01", 779, .none⟩
noncomputable def FL : List FnE := [e_shorten, e_kind, e_fspath0, e_prefix, e_commonprefix, e_csr, e_safe_repr, e_translate, e_escape, e_translate0, e_joinparts, e_fspath, e_get_sep, e_join, e_splitroot, e_basename, e_normpath, e_law_rows, e_law_path, e_law_note, e_law_due, e_law_pattern, e_law_shortens, e_law]

/-- the globals that the call reads -/
noncomputable def GL : List (Str × Value) := [
  ("_MAX_LENGTH", .int 80 291), ("_PLACEHOLDER_LEN", .int 12 293), ("_MIN_BEGIN_LEN", .int 5 295), ("_MIN_END_LEN", .int 5 297), ("_MIN_COMMON_LEN", .int 5 299), ("_MIN_DIFF_LEN", .int 41 305),
  ("_shorten", .ref 45), ("_kind", .ref 52), ("_fspath", .ref 59), ("_prefix", .ref 66), ("commonprefix", .ref 71), ("_common_shorten_repr", .ref 78), ("safe_repr", .ref 86), ("translate", .ref 98), ("_special_chars_map", .ref 100), ("escape", .ref 110),
  ("_translate", .ref 117), ("_join_translated_parts", .ref 124), ("fspath", .ref 197), ("_get_sep", .ref 211), ("join", .ref 218), ("splitroot", .ref 225), ("basename", .ref 232), ("normpath", .ref 239),
  ("_law_rows", .ref 244), ("_law_path", .ref 251), ("_law_note", .ref 258), ("_law_due", .ref 263), ("_law_pattern", .ref 270), ("_law_shortens", .ref 275), ("__builtins__", .ref 4)]
/-- names of built-ins that the call reads -/
noncomputable def BL : List (Str × Value) := [
  ("len", .builtin "len"), ("str", .type "str"), ("int", .type "int"), ("tuple", .type "tuple"), ("list", .type "list"), ("map", .type "map"), ("max", .builtin "max"), ("min", .builtin "min"), ("repr", .builtin "repr"), ("type", .type "type"),
  ("enumerate", .type "enumerate"), ("isinstance", .builtin "isinstance"), ("issubclass", .builtin "issubclass"), ("bytes", .type "bytes"), ("bool", .type "bool"), ("float", .type "float"), ("dict", .type "dict"), ("set", .type "set"),
  ("object", .type "object"), ("range", .type "range"), ("sum", .builtin "sum"), ("TypeError", .type "TypeError"), ("AttributeError", .type "AttributeError"), ("BytesWarning", .type "BytesWarning"), ("Exception", .type "Exception")]

/-- the table of special signs: key, tokens 428 and on by six -/
noncomputable def scmL : List Nat := [40, 41, 91, 93, 123, 125, 63, 42, 43, 45, 124, 94, 36, 92, 46, 38, 126, 35, 32, 9, 10, 13, 11, 12]
noncomputable def scmE : List Nat → Nat → List DictEntry
  | [], _ => []
  | c :: r, t => { hash := (c : Int), key := .int (c : Int) t, val := .str ⟨#[92, c]⟩ (t + 4) } :: scmE r (t + 6)
noncomputable def scmO : Obj := { cls := .type "dict", data := .dict ⟨scmE scmL 428⟩ 24 }

structure Stat (h : Heap) : Prop where
  glob : ∃ mg, h.Ns mainGlobals mg ∧ (∀ p ∈ GL, mg p.1 = some p.2) ∧ ∀ p ∈ BL, mg p.1 = none
  blt : ∃ mb, h.Ns builtinsNs mb ∧ ∀ p ∈ BL, mb p.1 = some p.2
  nolim : h.NoLimit
  nodig : ∃ mc, h.Ns cStatics mc ∧ mc "sys.int_max_str_digits" = none
  fn : ∀ e ∈ FL, h.get? e.a = some e.obj ∧ h.CodeRec (.ref e.c) e.fd.qualname
  code : ∃ oc, h.get? 77 = some oc ∧ oc.cls = .type "code"
  bmod : ∃ o, h.get? 4 = some o ∧ o.cls = .type "module" ∧ o.dict = some builtinsNs ∧ o.data = .plain
  dflt : h.get? 79 = some (tupO [.bool false] 0)
  scm : h.get? 100 = some scmO

noncomputable def Grow (h h' : Heap) : Prop := ∀ a o, h.get? a = some o → a ≠ T0 → h'.get? a = some o
theorem Grow.refl (h : Heap) : Grow h h := fun _ _ e _ => e
theorem Grow.trans {h h' h'' : Heap} (x : Grow h h') (y : Grow h' h'') : Grow h h'' := fun a o e n => y a o (x a o e n) n
theorem Grow.push (h : Heap) (o : Obj) : Grow h (h.push o) := fun _ _ e _ => Heap.get?_push_of_some o e
theorem Grow.ns {h h' : Heap} (g : Grow h h') {a : Addr} {m : Str → Option Value} (n : h.Ns a m) (ha : a ≠ T0) : h'.Ns a m :=
  let ⟨o, es, ep, e, r⟩ := n; ⟨o, es, ep, g _ _ e ha, r⟩

theorem FL_ne : ∀ e ∈ FL, e.a ≠ T0 ∧ e.c ≠ T0 := by decide
theorem Stat.grow {h h' : Heap} (S : Stat h) (g : Grow h h') : Stat h' where
  glob := let ⟨mg, a, b⟩ := S.glob; ⟨mg, g.ns a (by decide), b⟩
  blt := let ⟨mb, a, b⟩ := S.blt; ⟨mb, g.ns a (by decide), b⟩
  nolim := let ⟨mc, a, b⟩ := S.nolim; ⟨mc, g.ns a (by decide), b⟩
  nodig := let ⟨mc, a, b⟩ := S.nodig; ⟨mc, g.ns a (by decide), b⟩
  fn := fun e he => ⟨g _ _ (S.fn e he).1 (FL_ne e he).1, by
    obtain ⟨c, o, vs, t, hc, ho, r⟩ := (S.fn e he).2
    cases hc
    exact ⟨_, o, vs, t, rfl, g _ _ ho (FL_ne e he).2, r⟩⟩
  code := let ⟨oc, e, r⟩ := S.code; ⟨oc, g _ _ e (by decide), r⟩
  bmod := let ⟨oc, e, r⟩ := S.bmod; ⟨oc, g _ _ e (by decide), r⟩
  dflt := g _ _ S.dflt (by decide)
  scm := g _ _ S.scm (by decide)

/-- the table of code objects -/
noncomputable def TabOk (h : Heap) : Prop := ∃ ps, h.IsCode 77 T0 ps ∧ h.get? T0 = some { cls := .none, data := .fields ps }
theorem TabOk.lt {h : Heap} (t : TabOk h) : T0 < h.objs.size := let ⟨_, _, e⟩ := t; Heap.lt_size e
theorem TabOk.keeps {h h' : Heap} (t : TabOk h) (k : ∀ b o, h.get? b = some o → h'.get? b = some o) : TabOk h' := let ⟨ps, a, e⟩ := t; ⟨ps, a.keeps k, k _ _ e⟩
theorem TabOk.push {h : Heap} (t : TabOk h) (o : Obj) : TabOk (h.push o) := t.keeps fun _ _ e => Heap.get?_push_of_some o e
theorem TabOk.same {h h' : Heap} {b : Addr} (t : TabOk h) (k : Heap.SameBut b h h') (hb : b ≠ T0) (hb' : b ≠ 77) : TabOk h' := by
  obtain ⟨ps, ⟨o, vs, file, tf, flags, tg, inF, text, tt, op, a, r1, r2, r3, r4, r5, r6, p, r⟩, e⟩ := t
  exact ⟨ps, ⟨o, vs, file, tf, flags, tg, inF, text, tt, op, (k.2 _ (Ne.symm hb')).trans a, r1, r2, r3, r4, r5, r6, (k.2 _ (Ne.symm hb)).trans p, r⟩, (k.2 _ (Ne.symm hb)).trans e⟩

/-- the same, and no longer than before at its front -/
structure TabAt (b h : Heap) : Prop where
  ok : TabOk h
  ex : ∀ ps, b.get? T0 = some { cls := .none, data := .fields ps } → ∃ more, h.get? T0 = some { cls := .none, data := .fields (ps ++ more) }
theorem TabAt.to {b h h' : Heap} (t : TabAt b h) (o : TabOk h') (k : ∀ o, h.get? T0 = some o → h'.get? T0 = some o) : TabAt b h' :=
  ⟨o, fun ps e => let ⟨more, e'⟩ := t.ex ps e; ⟨more, k _ e'⟩⟩
theorem TabAt.trans {b h h' : Heap} (t : TabAt b h) (u : TabAt h h') : TabAt b h' :=
  ⟨u.ok, fun ps e => let ⟨more, e'⟩ := t.ex ps e; let ⟨more', e''⟩ := u.ex _ e'; ⟨more ++ more', by rw [← Array.append_assoc]; exact e''⟩⟩
theorem TabAt.refl {h : Heap} (o : TabOk h) : TabAt h h := ⟨o, fun ps e => ⟨#[], by simpa using e⟩⟩
theorem TabAt.lt {b h : Heap} (t : TabAt b h) : T0 < h.objs.size := t.ok.lt
theorem TabAt.keeps {b h h' : Heap} (t : TabAt b h) (k : ∀ b o, h.get? b = some o → h'.get? b = some o) : TabAt b h' := t.to (t.ok.keeps k) fun o e => k _ o e
theorem TabAt.push {b h : Heap} (t : TabAt b h) (o : Obj) : TabAt b (h.push o) := t.keeps fun _ _ e => Heap.get?_push_of_some o e
theorem TabAt.same {b h h' : Heap} {a : Addr} (t : TabAt b h) (k : Heap.SameBut a h h') (hb : a ≠ T0) (hb' : a ≠ 77) : TabAt b h' := t.to (t.ok.same k hb hb') fun o e => (k.2 _ (Ne.symm hb)).trans e

/-- the rest of the state: the outer world, the drawn, the generators; q: neither generators nor the code table are touched -/
structure Ext where
  os : OsState
  dr : Drawn
  g0 : Array GenState
  q : Prop
structure Cx where
  w : World
  A : Around
  env : Env
  base : Heap
  fz0 : Frz
  os : Ext
noncomputable def OsOk (x : Cx) (s : Shared) : Prop := s.os = x.os.os ∧ s.drawn = x.os.dr ∧ (x.os.q → s.gens = x.os.g0 ∧ ∀ o, x.base.get? T0 = some o → s.heap.get? T0 = some o)
theorem OsOk.heap {x : Cx} {s : Shared} (h : OsOk x s) {h' : Heap} {t : Nat} (k : ∀ o, s.heap.get? T0 = some o → h'.get? T0 = some o) : OsOk x { s with heap := h', toks := t } :=
  ⟨h.1, h.2.1, fun q => ⟨(h.2.2 q).1, fun o e => k o ((h.2.2 q).2 o e)⟩⟩

noncomputable abbrev Loc := List (Str × SV)
noncomputable abbrev Mut := List (List SV)

/-- where a name's value stands: among the locals or in a cell -/
noncomputable def VarAt (env : Env) (fz : Frz) (mv : Str → Option Value) (y : Str) (v : Value) : Prop := match env.cells.lookup y with
  | none => mv y = some v
  | some c => ∃ o, fz c = some o ∧ o.data = .cell (some v)
theorem VarAt.mono {env : Env} {fz fz' : Frz} {mv : Str → Option Value} {y : Str} {v : Value} (h : VarAt env fz mv y v) (le : ∀ a o w, fz a = some o → o.data = .cell w → fz' a = some o) : VarAt env fz' mv y v := by
  unfold VarAt at h ⊢
  cases e : env.cells.lookup y with
  | none => rw [e] at h; exact h
  | some c => rw [e] at h; obtain ⟨o, h1, h2⟩ := h; exact ⟨o, le _ _ _ h1 h2, h2⟩
theorem VarAt.le {env : Env} {fz fz' : Frz} {mv : Str → Option Value} {y : Str} {v : Value} (h : VarAt env fz mv y v) (le : fz.le fz') : VarAt env fz' mv y v := h.mono fun a o _ e _ => le a o e

structure Iv (x : Cx) (m : Loc) (n : Mut) (fz : Frz) (as : List Addr) (s : Shared) : Prop where
  stat : Stat x.base
  tab : TabAt x.base s.heap
  grow : Grow x.base s.heap
  frz : ∀ a o, fz a = some o → s.heap.get? a = some o
  fzT : fz T0 = none
  frb : ∀ a o, fz a = some o → x.fz0 a = some o ∨ x.base.get? a = none
  loc : ∃ mv, s.heap.Ns x.env.locals mv ∧ ∀ p ∈ m, p.2 = .unset ∨ ∃ v, VarAt x.env fz mv p.1 v ∧ p.2.At fz as v
  keys : (m.map (·.1)).Nodup
  fzL : fz x.env.locals = none
  newL : x.base.get? x.env.locals = none
  LT : x.env.locals ≠ T0
  len : as.length = n.length
  nd : as.Nodup
  own : ∀ a ∈ as, fz a = none ∧ a ≠ x.env.locals ∧ a ≠ T0 ∧ x.base.get? a = none ∧ a < s.heap.objs.size
  mls : ∀ (k : Nat) (a : Addr) (xs : List SV), as[k]? = some a → n[k]? = some xs → ∃ l ep, s.heap.get? a = some (lstO l ep) ∧ SV.AtL fz as xs l
  os : OsOk x s
  bare : ¬ x.os.q → AllBare s.gens
  cel : ∀ y c, x.env.cells.lookup y = some c → (∃ o v, fz c = some o ∧ o.data = .cell v) ∧ x.base.get? c = none

/-- what a piece of code leaves: bigger frozen part, more lists -/
inductive Post (x : Cx) (m : Loc) (fz : Frz) (as : List Addr) (P : SV → Mut → Prop) (v : Value) (s' : Shared) : Prop
  | mk (sv : SV) (n' : Mut) (fz' : Frz) (as' : List Addr) (q : P sv n') (le : fz.le fz') (p : as <+: as') (I : Iv x m n' fz' as' s') (h : sv.At fz' as' v)
noncomputable abbrev noE : Value → Shared → Prop := fun _ _ => False

noncomputable abbrev Run (x : Cx) {α : Type} (t : Sem α) (Q : α → Shared → Prop) (s : Shared) : Prop := wpAny (model pw x.w) x.A t Q noE s
noncomputable def EV (x : Cx) (m : Loc) (n : Mut) (e : Expr) (P : SV → Mut → Prop) : Prop :=
  ∀ s fz as, Iv x m n fz as s → Run x (eval e x.env) (Post x m fz as P) s

section
variable {x : Cx} {m : Loc} {n : Mut} {fz : Frz} {as : List Addr} {s : Shared}

theorem Iv.toks (I : Iv x m n fz as s) (t : Nat) : Iv x m n fz as { s with toks := t } :=
  ⟨I.stat, I.tab, I.grow, I.frz, I.fzT, I.frb, I.loc, I.keys, I.fzL, I.newL, I.LT, I.len, I.nd, I.own, I.mls, I.os, I.bare, I.cel⟩
theorem Iv.hT (I : Iv x m n fz as s) : T0 < s.heap.objs.size := I.tab.lt
theorem Iv.L_lt (I : Iv x m n fz as s) : x.env.locals < s.heap.objs.size := let ⟨_, h, _⟩ := I.loc; h.lt
theorem Iv.st (I : Iv x m n fz as s) : Stat s.heap := I.stat.grow I.grow
theorem Iv.c77 (I : Iv x m n fz as s) {a : Addr} (h : x.base.get? a = none) : a ≠ 77 := fun e => by
  obtain ⟨oc, hc, _⟩ := I.stat.code
  rw [e, hc] at h; cases h

/-- an object is made that nobody needs -/
theorem Iv.push (I : Iv x m n fz as s) (o : Obj) : Iv x m n fz as { s with heap := s.heap.push o } where
  stat := I.stat
  tab := I.tab.push o
  grow := I.grow.trans (.push _ _)
  frz := fun a o' e => Heap.get?_push_of_some o (I.frz a o' e)
  fzT := I.fzT
  frb := I.frb
  loc := let ⟨mv, a, b⟩ := I.loc; ⟨mv, a.push o, b⟩
  keys := I.keys
  fzL := I.fzL
  newL := I.newL
  LT := I.LT
  len := I.len
  nd := I.nd
  own := fun a ha => let ⟨p, q, r, t, u⟩ := I.own a ha; ⟨p, q, r, t, by rw [Heap.size_push]; exact Nat.lt_succ_of_lt u⟩
  mls := fun k a xs p q => let ⟨l, ep, r, t⟩ := I.mls k a xs p q; ⟨l, ep, Heap.get?_push_of_some o r, t⟩
  os := I.os.heap fun o' e => Heap.get?_push_of_some o e
  bare := I.bare
  cel := I.cel

noncomputable def Frz.add (fz : Frz) (a : Addr) (o : Obj) : Frz := fun b => if b = a then some o else fz b
theorem Frz.add_self (fz : Frz) (a : Addr) (o : Obj) : fz.add a o a = some o := if_pos rfl
theorem Frz.le_add {fz : Frz} {a : Addr} (o : Obj) (h : fz a = none) : fz.le (fz.add a o) := fun b o' e => by
  unfold Frz.add
  rw [if_neg (fun q => by rw [q, h] at e; cases e)]; exact e

/-- an object is made and stays as it is -/
theorem Iv.freeze (I : Iv x m n fz as s) (o : Obj) (hf : o.isFreed = false) : Iv x m n (fz.add s.heap.objs.size o) as { s with heap := s.heap.push o } ∧ fz.le (fz.add s.heap.objs.size o) := by
  have hn : fz s.heap.objs.size = none := by
    cases q : fz s.heap.objs.size with
    | none => rfl
    | some o' => exact absurd (Heap.lt_size (I.frz _ _ q)) (Nat.lt_irrefl _)
  have le := Frz.le_add o hn
  have J := I.push o
  have ne {b : Addr} (hb : b < s.heap.objs.size) : fz.add s.heap.objs.size o b = fz b := if_neg (Nat.ne_of_lt hb)
  refine ⟨⟨J.stat, J.tab, J.grow, fun a o' e => ?_, (ne I.hT).trans I.fzT, fun a o' e => ?_, ?_, J.keys, (ne I.L_lt).trans I.fzL, J.newL, J.LT, J.len, J.nd, fun a ha => ?_, fun k a xs p q => ?_, J.os, J.bare, fun y c e => let ⟨⟨o, v, h1, h2⟩, h3⟩ := J.cel y c e; ⟨⟨o, v, le _ _ h1, h2⟩, h3⟩⟩, le⟩
  · unfold Frz.add at e
    split at e
    · rename_i q; subst q; cases e; exact Heap.get?_push_size _ hf
    · exact J.frz a o' e
  · unfold Frz.add at e
    split at e
    · rename_i q; subst q
      right
      cases q : x.base.get? s.heap.objs.size with
      | none => rfl
      | some o' => exact absurd (Heap.lt_size (I.grow _ _ q (Nat.ne_of_gt I.hT))) (Nat.lt_irrefl _)
    · exact I.frb a o' e
  · obtain ⟨mv, p, q⟩ := J.loc
    exact ⟨mv, p, fun y hy => (q y hy).imp id fun ⟨v, e1, e2⟩ => ⟨v, e1.le le, e2.mono le (List.prefix_refl _)⟩⟩
  · obtain ⟨p, q, r, t, u⟩ := I.own a ha
    obtain ⟨_, q', r', t', u'⟩ := J.own a ha
    exact ⟨(ne u).trans p, q', r', t', u'⟩
  · obtain ⟨l, ep, r, t⟩ := J.mls k a xs p q
    exact ⟨l, ep, r, t.mono le (List.prefix_refl _)⟩

/-- a list is made that will grow -/
theorem Iv.newMl (I : Iv x m n fz as s) {xs : List SV} {l : List Value} (h : SV.AtL fz as xs l) :
    Iv x m (n ++ [xs]) fz (as ++ [s.heap.objs.size]) { s with heap := s.heap.push (lstO l 0) } := by
  have J := I.push (lstO l 0)
  have pre : as <+: as ++ [s.heap.objs.size] := List.prefix_append _ _
  refine ⟨J.stat, J.tab, J.grow, J.frz, J.fzT, J.frb, ?_, J.keys, J.fzL, J.newL, J.LT, by simp [I.len], ?_, fun a ha => ?_, fun k a ys p q => ?_, J.os, J.bare, J.cel⟩
  · obtain ⟨mv, p, q⟩ := J.loc
    exact ⟨mv, p, fun y hy => (q y hy).imp id fun ⟨v, e1, e2⟩ => ⟨v, e1, e2.mono (.refl _) pre⟩⟩
  · rw [List.nodup_append]
    refine ⟨I.nd, by simp, fun a ha b hb => ?_⟩
    simp at hb; subst hb
    exact Nat.ne_of_lt (I.own a ha).2.2.2.2
  · rcases List.mem_append.mp ha with ha | ha
    · exact J.own a ha
    · simp at ha; subst ha
      refine ⟨?_, Nat.ne_of_gt I.L_lt, Nat.ne_of_gt I.hT, ?_, by simp⟩
      · cases q : fz s.heap.objs.size with
        | none => rfl
        | some o' => exact absurd (Heap.lt_size (I.frz _ _ q)) (Nat.lt_irrefl _)
      · cases q : x.base.get? s.heap.objs.size with
        | none => rfl
        | some o' => exact absurd (Heap.lt_size (I.grow _ _ q (Nat.ne_of_gt I.hT))) (Nat.lt_irrefl _)
  · by_cases hk : k < as.length
    · rw [List.getElem?_append_left hk] at p
      rw [List.getElem?_append_left (I.len ▸ hk)] at q
      obtain ⟨l', ep, r, t⟩ := J.mls k a ys p q
      exact ⟨l', ep, r, t.mono (.refl _) pre⟩
    · have hk' : k = as.length := by
        have := (List.getElem?_eq_some_iff.mp p).1
        simp at this; omega
      subst hk'
      rw [I.len] at q
      simp at p q
      subst p; subst q
      exact ⟨l, 0, Heap.get?_push_size _ rfl, h.mono (.refl _) pre⟩

theorem Iv.post {P : SV → Mut → Prop} {sv : SV} {v : Value} (I : Iv x m n fz as s) (h : sv.At fz as v) (p : P sv n) : Post x m fz as P v s :=
  ⟨sv, n, fz, as, p, .refl _, List.prefix_refl _, I, h⟩
theorem Post.weak {P : SV → Mut → Prop} {fz' : Frz} {as' : List Addr} {v : Value} (h : fz.le fz') (p : as <+: as') (q : Post x m fz' as' P v s) : Post x m fz as P v s := by
  obtain ⟨sv, n', f, a, q1, q2, q3, q4, q5⟩ := q
  exact ⟨sv, n', f, a, q1, h.trans q2, p.trans q3, q4, q5⟩
theorem Post.mono {P P' : SV → Mut → Prop} {v : Value} (h : ∀ sv n', P sv n' → P' sv n') (q : Post x m fz as P v s) : Post x m fz as P' v s := by
  obtain ⟨sv, n', f, a, q1, q2, q3, q4, q5⟩ := q
  exact ⟨sv, n', f, a, h _ _ q1, q2, q3, q4, q5⟩
end

/-! ### objects that are held and turned: iterators, frames -/
noncomputable def Odd (o : Obj) : Prop := (∃ v, o.data = .cell v) ∨ (∃ e n, o.data = .dict e n) ∨ ∃ vs T, o.data = .fields vs ∧ o.cls = .type T ∧ T ≠ "builtin_function_or_method" ∧ T ≠ "slice" ∧ T ≠ "range"
noncomputable def Frz.del (fz : Frz) (a : Addr) : Frz := fun b => if b = a then none else fz b
theorem Frz.del_self (fz : Frz) (a : Addr) : fz.del a a = none := if_pos rfl
theorem Frz.del_ne {fz : Frz} {a b : Addr} (h : b ≠ a) : fz.del a b = fz b := if_neg h
theorem Frz.add_ne {fz : Frz} {a b : Addr} {o : Obj} (h : b ≠ a) : fz.add a o b = fz b := if_neg h
theorem Frz.del_le {fz : Frz} {a : Addr} {b : Addr} {o : Obj} (e : fz.del a b = some o) : fz b = some o ∧ b ≠ a := by
  unfold Frz.del at e
  split at e
  · cases e
  · rename_i h; exact ⟨e, h⟩
/-- equal off one address, where an odd object lay -/
noncomputable def Off (a : Addr) (fz fz' : Frz) : Prop := (∀ b o, b ≠ a → fz b = some o → fz' b = some o) ∧ ∀ o, fz a = some o → Odd o
theorem Off.del {a : Addr} {fz : Frz} (h : ∀ o, fz a = some o → Odd o) : Off a fz (fz.del a) := ⟨fun b o hb e => (Frz.del_ne hb).trans e, h⟩
theorem Off.get {a : Addr} {fz fz' : Frz} (h : Off a fz fz') {b : Addr} {o : Obj} (e : fz b = some o) (ho : ¬ Odd o) : fz' b = some o :=
  h.1 b o (fun q => ho (h.2 o (q ▸ e))) e
theorem odd_lst (l : List Value) (ep : Nat) : ¬ Odd (lstO l ep) := by
  rintro (⟨_, h⟩ | ⟨_, _, h⟩ | ⟨_, _, h, _⟩) <;> cases h
theorem odd_tup (l : List Value) (ep : Nat) : ¬ Odd (tupO l ep) := by
  rintro (⟨_, h⟩ | ⟨_, _, h⟩ | ⟨_, _, h, _⟩) <;> cases h
theorem odd_app (a : Addr) : ¬ Odd (appO a) := by
  rintro (⟨_, h⟩ | ⟨_, _, h⟩ | ⟨_, T, h, h2, h3, _⟩) <;> first | cases h; done | skip
  exact h3 (by injection h2 with h2; exact h2.symm)
theorem odd_sl (vs : Array Value) : ¬ Odd { cls := .type "slice", data := .fields vs } := by
  rintro (⟨_, h⟩ | ⟨_, _, h⟩ | ⟨_, T, h, h2, _, h3⟩) <;> first | cases h; done | skip
  exact h3.1 (by injection h2 with h2; exact h2.symm)
theorem odd_rng (vs : Array Value) : ¬ Odd { cls := .type "range", data := .fields vs } := by
  rintro (⟨_, h⟩ | ⟨_, _, h⟩ | ⟨_, T, h, h2, _, _, h3⟩) <;> first | cases h; done | skip
  exact h3 (by injection h2 with h2; exact h2.symm)
theorem odd_plain {o : Obj} (h : o.data = .plain) : ¬ Odd o := by
  rintro (⟨_, h'⟩ | ⟨_, _, h'⟩ | ⟨_, _, h', _⟩) <;> rw [h] at h' <;> cases h'
mutual
theorem SV.At.off {fz fz' : Frz} {as : List Addr} {b : Addr} (h : Off b fz fz') : ∀ (x : SV) {v : Value}, x.At fz as v → x.At fz' as v
  | .unset, _, e => by simp only [SV.At] at e
  | .none, _, e => by simpa only [SV.At] using e
  | .bool b, _, e => by simpa only [SV.At] using e
  | .int i, _, e => by simpa only [SV.At] using e
  | .str x, _, e => by simpa only [SV.At] using e
  | .ty n, _, e => by simpa only [SV.At] using e
  | .bi n, _, e => by simpa only [SV.At] using e
  | .fn n, _, e => by simpa only [SV.At] using e
  | .list xs, _, e => by
    simp only [SV.At] at e ⊢
    obtain ⟨a, l, ep, e1, e2, e3⟩ := e
    exact ⟨a, l, ep, e1, h.get e2 (odd_lst _ _), SV.AtL.off h xs e3⟩
  | .tup xs, _, e => by
    simp only [SV.At] at e ⊢
    obtain ⟨a, l, ep, e1, e2, e3⟩ := e
    exact ⟨a, l, ep, e1, h.get e2 (odd_tup _ _), SV.AtL.off h xs e3⟩
  | .objv, _, e => by
    simp only [SV.At] at e ⊢
    obtain ⟨a, o, e1, e2, e3, e4⟩ := e
    exact ⟨a, o, e1, h.get e2 (odd_plain e4), e3, e4⟩
  | .ml k, _, e => by simpa only [SV.At] using e
  | .app k, _, e => by
    simp only [SV.At] at e ⊢
    obtain ⟨a, b, e1, e2, e3⟩ := e
    exact ⟨a, b, e1, e2, h.get e3 (odd_app _)⟩
  | .sl lo hi, _, e => by
    simp only [SV.At] at e ⊢
    obtain ⟨a, l, u, e1, e2, e3, e4⟩ := e
    exact ⟨a, l, u, e1, e2, e3, h.get e4 (odd_sl _)⟩
  | .rng k, _, e => by
    simp only [SV.At] at e ⊢
    obtain ⟨a, t, u, w, e1, e2⟩ := e
    exact ⟨a, t, u, w, e1, h.get e2 (odd_rng _)⟩
theorem SV.AtL.off {fz fz' : Frz} {as : List Addr} {b : Addr} (h : Off b fz fz') : ∀ (xs : List SV) {l : List Value}, SV.AtL fz as xs l → SV.AtL fz' as xs l
  | [], _, e => by simpa only [SV.AtL] using e
  | x :: xs, _, e => by
    simp only [SV.AtL] at e ⊢
    obtain ⟨v, r, e1, e2, e3⟩ := e
    exact ⟨v, r, e1, SV.At.off h x e2, SV.AtL.off h xs e3⟩
end

section
variable {x : Cx} {m : Loc} {n : Mut} {fz : Frz} {as : List Addr} {s : Shared}
theorem Iv.newB (I : Iv x m n fz as s) {a : Addr} (h : s.heap.objs.size ≤ a) : x.base.get? a = none := by
  cases q : x.base.get? a with
  | none => rfl
  | some o' =>
    have := Heap.lt_size (I.grow _ _ q (by have := I.hT; intro e; rw [e] at h; exact Nat.lt_irrefl _ (Nat.lt_of_lt_of_le this h)))
    exact absurd this (Nat.not_lt.mpr h)
theorem Iv.newF (I : Iv x m n fz as s) {a : Addr} (h : s.heap.objs.size ≤ a) : fz a = none := by
  cases q : fz a with
  | none => rfl
  | some o' => exact absurd (Heap.lt_size (I.frz _ _ q)) (Nat.not_lt.mpr h)

theorem TabOk.ext {h h' : Heap} {b : Addr} (t : TabOk h) (k : Heap.ExtBut b h h') (hb : b ≠ T0) (hb' : b ≠ 77) : TabOk h' := by
  obtain ⟨ps, a, e⟩ := t
  exact ⟨ps, a.extBut k (Ne.symm hb') (Ne.symm hb), k _ _ (Ne.symm hb) e⟩

theorem TabAt.ext {b h h' : Heap} {a : Addr} (t : TabAt b h) (k : Heap.ExtBut a h h') (hb : a ≠ T0) (hb' : a ≠ 77) : TabAt b h' := t.to (t.ok.ext k hb hb') fun o e => k _ o (Ne.symm hb) e
structure Loose (x : Cx) (as : List Addr) (it : Addr) : Prop where
  L : it ≠ x.env.locals
  T : it ≠ T0
  as : it ∉ as
  base : x.base.get? it = none

/-- an object that is held is turned: it is let go -/
theorem Iv.ext {it : Addr} {h' : Heap} (I : Iv x m n fz as s) (hs : Heap.ExtBut it s.heap h') (hit : ∀ o, fz it = some o → Odd o ∧ ∀ v, o.data ≠ .cell v) (hl : Loose x as it) (t : Nat) :
    Iv x m n (fz.del it) as { s with heap := h', toks := t } := by
  have off : Off it fz (fz.del it) := .del fun o e => (hit o e).1
  refine ⟨I.stat, I.tab.ext hs hl.T (I.c77 hl.base), fun a o e ha => hs a o (fun q => by rw [q, hl.base] at e; cases e) (I.grow a o e ha), fun a o e => ?_, ?_, fun a o e => I.frb a o (Frz.del_le e).1, ?_, I.keys, ?_, I.newL, I.LT, I.len, I.nd, fun a ha => ?_, fun k a xs p q => ?_, I.os.heap fun o e => hs _ o (Ne.symm hl.T) e, I.bare, fun y c e => ?_⟩
  · exact hs a o (Frz.del_le e).2 (I.frz a o (Frz.del_le e).1)
  · unfold Frz.del; split
    · rfl
    · exact I.fzT
  · obtain ⟨mv, p, q⟩ := I.loc
    refine ⟨mv, p.extBut hs (Ne.symm hl.L), fun y hy => (q y hy).imp id fun ⟨v, e1, e2⟩ => ⟨v, e1.mono fun a o w e1 e2 => ?_, SV.At.off off _ e2⟩⟩
    exact (Frz.del_ne fun z => by rw [z] at e1; exact (hit o e1).2 w e2).trans e1
  · unfold Frz.del; split
    · rfl
    · exact I.fzL
  · obtain ⟨p, q, r, t, u⟩ := I.own a ha
    refine ⟨?_, q, r, t, ?_⟩
    · unfold Frz.del; split
      · rfl
      · exact p
    · have hx : ∃ o, s.heap.get? a = some o := by
        obtain ⟨i, hi⟩ := List.getElem?_of_mem ha
        have hi' : i < n.length := by rw [← I.len]; exact (List.getElem?_eq_some_iff.mp hi).1
        obtain ⟨l, ep, e, _⟩ := I.mls i a n[i] hi (List.getElem?_eq_getElem hi')
        exact ⟨_, e⟩
      obtain ⟨o, e⟩ := hx
      exact Heap.lt_size (hs a o (fun z => hl.as (z ▸ ha)) e)
  · obtain ⟨l, ep, r, t⟩ := I.mls k a xs p q
    exact ⟨l, ep, hs a _ (fun z => hl.as (z ▸ List.mem_of_getElem? p)) r, SV.AtL.off off _ t⟩
  · obtain ⟨⟨o, v, h1, h2⟩, h3⟩ := I.cel y c e
    exact ⟨⟨o, v, (Frz.del_ne fun z => by rw [z] at h1; exact (hit o h1).2 v h2).trans h1, h2⟩, h3⟩

/-- an object is held -/
theorem Iv.hold {it : Addr} {o : Obj} (I : Iv x m n fz as s) (hn : fz it = none) (ho : s.heap.get? it = some o) (hl : Loose x as it) : Iv x m n (fz.add it o) as s := by
  have le := Frz.le_add o hn
  refine ⟨I.stat, I.tab, I.grow, fun a o' e => ?_, ?_, fun a o' e => ?_, ?_, I.keys, ?_, I.newL, I.LT, I.len, I.nd, fun a ha => ?_, fun k a xs p q => ?_, I.os, I.bare, fun y c e => let ⟨⟨o, v, h1, h2⟩, h3⟩ := I.cel y c e; ⟨⟨o, v, le _ _ h1, h2⟩, h3⟩⟩
  · unfold Frz.add at e
    split at e
    · rename_i q; subst q; cases e; exact ho
    · exact I.frz a o' e
  · exact (Frz.add_ne (Ne.symm hl.T)).trans I.fzT
  · unfold Frz.add at e
    split at e
    · rename_i q; subst q; exact .inr hl.base
    · exact I.frb a o' e
  · obtain ⟨mv, p, q⟩ := I.loc
    exact ⟨mv, p, fun y hy => (q y hy).imp id fun ⟨v, e1, e2⟩ => ⟨v, e1.le le, e2.mono le (List.prefix_refl _)⟩⟩
  · exact (Frz.add_ne (Ne.symm hl.L)).trans I.fzL
  · obtain ⟨p, q⟩ := I.own a ha
    exact ⟨(Frz.add_ne fun z => by rw [z] at ha; exact hl.as ha).trans p, q⟩
  · obtain ⟨l, ep, r, t⟩ := I.mls k a xs p q
    exact ⟨l, ep, r, t.mono le (List.prefix_refl _)⟩
end
end Mine

namespace Mine
noncomputable def mkT : List Obj → BT → Nat → Option (BT × Nat)
  | [], t, n => some (t, n)
  | o :: r, t, n => match ((t.ins n o).get n).isSome with
    | true => mkT r (t.ins n o) (n + 1)
    | false => none
theorem mkT_abs {life : Life} : ∀ {l : List Obj} {t t' : BT} {n n' : Nat}, mkT l t n = some (t', n') → (absHeap t' n' life).objs = (absHeap t n life).objs ++ l.toArray
  | [], t, t', n, n', h => by simp only [mkT, Option.some.injEq, Prod.mk.injEq] at h; obtain ⟨rfl, rfl⟩ := h; simp
  | o :: r, t, t', n, n', h => by
    unfold mkT at h
    cases g : ((t.ins n o).get n).isSome with
    | false => rw [g] at h; cases h
    | true =>
      rw [g] at h
      rw [mkT_abs h, absHeap_ins g]
      show ((absHeap t n life).objs.push o) ++ r.toArray = _
      apply Array.ext'
      simp
theorem mkT_heap {h : Heap} {T : BT} {n : Nat} (e : mkT h.objs.toList .nil 0 = some (T, n)) : absHeap T n h.life = h := by
  have := mkT_abs (life := h.life) e
  have e0 : (absHeap BT.nil 0 h.life).objs = #[] := by
    apply Array.eq_empty_of_size_eq_zero
    exact absHeap_size _ _ _
  rw [e0] at this
  have e1 : (absHeap T n h.life).objs = h.objs := by rw [this]; apply Array.ext'; simp
  show Heap.mk _ _ = _
  cases h
  simp only [Heap.mk.injEq, and_true]
  exact e1
section
variable (st : World → SharedT → Thread → Option (SharedT × Thread)) (ok : Nat → Option Value → Thread → Bool) (th : Thread → Bool)
noncomputable def topRunG (w : World) (n₀ : Nat) (ann : Option Value) : Nat → SharedT → Thread → Option SharedT
  | 0, _, _ => none
  | n + 1, s, t => match th t with
    | true => some s
    | false => match ok n₀ ann t with
      | false => none
      | true => match st w s t with
        | some (s', t') => topRunG w n₀ ann n s' t'
        | none => none
end
theorem topRunG_of {tb : String → Option Builtin} {p : Program} {w : World} {n₀ : Nat} {ann : Option Value} : ∀ {n : Nat} {s s' : SharedT} {t : Thread}, topRunG (fun w => stepT (denote tb) p w) stepOk through w n₀ ann n s t = some s' → topRun tb p w n₀ ann n s.abs t = some s'.abs
  | 0, _, _, _, h => by cases h
  | n + 1, s, s', t, h => by
    unfold topRunG at h
    unfold topRun
    cases he : through t with
    | true => rw [he] at h; cases h; rfl
    | false =>
      rw [he] at h
      cases hk : stepOk n₀ ann t with
      | false => rw [hk] at h; cases h
      | true =>
        rw [hk] at h
        cases hs : stepT (denote tb) p w s t with
        | none => dsimp only at h; rw [hs] at h; cases h
        | some r => obtain ⟨s₂, t₂⟩ := r; dsimp only at h; rw [hs] at h; rw [stepT_spec hs]; exact topRunG_of h
noncomputable def goAll {β : Type} (fo : World → Nat → Option Shared) (run : World → Nat → Option Value → Nat → SharedT → Thread → Option SharedT) (stub : Thread) (looks : Heap → Shared → Bool) (see : Shared → β) (N : Nat) (w : World) : Option β :=
  (fo w N).bind fun s₀ => match s₀.heap.isNs mainGlobals && s₀.gens.size == 0 with
    | true => (mkT s₀.heap.objs.toList .nil 0).bind fun x =>
      (run w s₀.heap.objs.size (s₀.heap.nsMap mainGlobals "__annotations__") N ⟨x.1, x.2, s₀.heap.life, s₀.gens, s₀.drawn, s₀.toks, s₀.os⟩ stub).bind fun sT => match looks s₀.heap sT.abs with
        | true => some (see sT.abs)
        | false => none
    | false => none
theorem goAll_left {β : Type} {tb : String → Option Builtin} {p : Program} {see : Shared → β} {N : Nat} {w : World} {r : β}
    (h : goAll (fencedOpening tb p) (topRunG (fun w => stepT (denote tb) p w) stepOk through) (topStub p) (fun h s => staticsOk (importedModules p.main.body) h s.heap && namesBound p s.heap && gensDone s && laidKept h s.heap) see N w = some r) :
    (openEnds tb p w N).map see = some r := by
  unfold goAll at h
  obtain ⟨s₀, h1, h2⟩ := Option.bind_eq_some_iff.mp h
  unfold openEnds
  rw [h1]
  show (topFrom tb p w N s₀).map see = _
  unfold topFrom
  cases hg : (s₀.heap.isNs mainGlobals && s₀.gens.size == 0) with
  | false => rw [hg] at h2; cases h2
  | true =>
    rw [hg] at h2
    obtain ⟨⟨T, n⟩, h3, h4⟩ := Option.bind_eq_some_iff.mp h2
    obtain ⟨sT, h5, h6⟩ := Option.bind_eq_some_iff.mp h4
    have e := topRunG_of h5
    have e0 : (⟨T, n, s₀.heap.life, s₀.gens, s₀.drawn, s₀.toks, s₀.os⟩ : SharedT).abs = s₀ := by
      unfold SharedT.abs
      rw [mkT_heap h3]
    rw [e0] at e
    dsimp only
    rw [e]
    show (match (staticsOk (importedModules p.main.body) s₀.heap sT.abs.heap && namesBound p sT.abs.heap && gensDone sT.abs && laidKept s₀.heap sT.abs.heap) with | true => some sT.abs | false => none).map see = _
    cases hl : (staticsOk (importedModules p.main.body) s₀.heap sT.abs.heap && namesBound p sT.abs.heap && gensDone sT.abs && laidKept s₀.heap sT.abs.heap) with
    | false => dsimp only at h6; rw [hl] at h6; cases h6
    | true => dsimp only at h6; rw [hl] at h6; exact h6
end Mine

namespace Mine
noncomputable def looseH : List Str := [Str.ofString "_sre", Str.ofString "_wall", Str.ofString "_MAX_LENGTH", Str.ofString "_PLACEHOLDER_LEN", Str.ofString "_MIN_BEGIN_LEN", Str.ofString "_MIN_END_LEN", Str.ofString "_MIN_COMMON_LEN", Str.ofString "_MIN_DIFF_LEN", Str.ofString "_shorten", Str.ofString "_kind", Str.ofString "_fspath", Str.ofString "_prefix", Str.ofString "commonprefix", Str.ofString "_common_shorten_repr", Str.ofString "safe_repr", Str.ofString "_twin_re_1", Str.ofString "translate", Str.ofString "_special_chars_map", Str.ofString "escape", Str.ofString "_translate", Str.ofString "_join_translated_parts", Str.ofString "_plain_name", Str.ofString "ABCMeta", Str.ofString "_ABCLike", Str.ofString "_abc_plain_meta", Str.ofString "fspath", Str.ofString "_check_arg_types", Str.ofString "_get_sep", Str.ofString "join", Str.ofString "splitroot", Str.ofString "basename", Str.ofString "normpath", Str.ofString "_law_rows", Str.ofString "_law_path", Str.ofString "_law_note", Str.ofString "_law_due", Str.ofString "_law_pattern", Str.ofString "_law_shortens"]
noncomputable def qH : Program := { pw with main := { pw.main with body := [stm 51] } }
noncomputable def nameAt (h : Heap) (c : Addr) : Option Value := match h.get? c with
  | some o => match o.data with
    | .fields vs => match vs[1]? with
      | some (Value.str n _) => some (Value.str n 0)
      | _ => none
    | _ => none
  | none => none
noncomputable def o77 : Obj := { cls := .type "code", data := .fields #[.str "_common_shorten_repr" 356, .str "_common_shorten_repr" 357, .str "/claim/cut.py" 358, .int 69 0, .int 0 0, .int 0 0, .int 0 0, .int 7 0, .ref 72, .bool true, .int 276 0, .ref 73, .none, .ref 74, .ref 75, .ref 76, .int 364 0, .int 69 0, .str "/claim/cut.py" 365] }
noncomputable def GL2 : List (Str × Value) := ("law", .ref 280) :: GL
noncomputable def YfH (s : Shared) := ((s.heap.isNs mainGlobals && s.heap.isNs builtinsNs && s.heap.isNs cStatics && (s.heap.nsMap cStatics "sys.recursionlimit").isNone && (s.heap.nsMap cStatics "sys.int_max_str_digits").isNone),
  GL2.map (fun p => s.heap.nsMap mainGlobals p.1), BL.map (fun p => s.heap.nsMap mainGlobals p.1), BL.map (fun p => s.heap.nsMap builtinsNs p.1), FL.map (fun e => s.heap.get? e.a), FL.map (fun e => nameAt s.heap e.c),
  ([77, 73, 4, 79, 100] : List Addr).map s.heap.get?)
noncomputable def YaH : Bool × List (Option Value) × List (Option Value) × List (Option Value) × List (Option Obj) × List (Option Value) × List (Option Obj) :=
  (true, GL2.map (fun p => some p.2), BL.map (fun _ => none), BL.map (fun p => some p.2), FL.map (fun e => some e.obj), FL.map (fun e => some (.str e.fd.qualname 0)),
  [some o77, some { cls := .none, data := .fields #[] }, some { cls := .type "module", dict := some builtinsNs }, some (tupO [.bool false] 0), some scmO])
noncomputable abbrev W4 (w : World) (b1 b2 : Bool) : World := (w.withFollow "comprehension-iter-twice" b1).withFollow "special-get-raises" b2
noncomputable abbrev allH (w : World) := goAll (fencedOpening treeTable pw) (topRunG (fun w => stepT (denote treeTable) pw w) stepOk through) (topStub pw)
  (fun h s => staticsOk (importedModules pw.main.body) h s.heap && namesBound pw s.heap && gensDone s && laidKept h s.heap) (fun s => (openSeen qH looseH (importedModules pw.main.body) (fun _ => true) true s, YfH s)) 4000 w
end Mine

set_option maxRecDepth 100000
namespace Mine
theorem way_tt (w : World) : allH (W4 w true true) = some (openGood qH looseH, YaH) := by
  unfold allH YfH
  rw [Fast.te14364793385576792824, Fast.te10156331382660048174, Fast.te11892475500146522536, Fast.te6613529449190102663, Fast.te5923862056798008813, Fast.te4187177175401517315, Fast.te8920871248978507458]
  kernel_rfl
theorem way_tf (w : World) : allH (W4 w true false) = some (openGood qH looseH, YaH) := by
  unfold allH YfH
  rw [Fast.te14364793385576792824, Fast.te10156331382660048174, Fast.te11892475500146522536, Fast.te6613529449190102663, Fast.te5923862056798008813, Fast.te4187177175401517315, Fast.te8920871248978507458]
  kernel_rfl
theorem way_ft (w : World) : allH (W4 w false true) = some (openGood qH looseH, YaH) := by
  unfold allH YfH
  rw [Fast.te14364793385576792824, Fast.te10156331382660048174, Fast.te11892475500146522536, Fast.te6613529449190102663, Fast.te5923862056798008813, Fast.te4187177175401517315, Fast.te8920871248978507458]
  kernel_rfl
theorem way_ff (w : World) : allH (W4 w false false) = some (openGood qH looseH, YaH) := by
  unfold allH YfH
  rw [Fast.te14364793385576792824, Fast.te10156331382660048174, Fast.te11892475500146522536, Fast.te6613529449190102663, Fast.te5923862056798008813, Fast.te4187177175401517315, Fast.te8920871248978507458]
  kernel_rfl
theorem headH (w : World) (b1 b2 : Bool) : allH (W4 w b1 b2) = some (openGood qH looseH, YaH) := by
  cases b1 <;> cases b2
  · exact way_ff w
  · exact way_ft w
  · exact way_tf w
  · exact way_tt w
theorem leftH : LeftO pw qH looseH (fun _ => true) YfH (fun _ => YaH) 4000 := fun w => by
  have h := headH w (w.params.followText "comprehension-iter-twice") ((w.withFollow "comprehension-iter-twice" (w.params.followText "comprehension-iter-twice")).params.followText "special-get-raises")
  unfold W4 at h
  rw [World.withFollow_self, World.withFollow_self] at h
  exact goAll_left h
end Mine

set_option maxRecDepth 100000
namespace Mine
theorem said : PySem.Challenge.rw_aa0024_01.wellSaid = true := by
  rw [Fast.te9446332074065402090]
  kernel_rfl
theorem name_rec {h : Heap} {c : Addr} {q : Str} (e : nameAt h c = some (.str q 0)) : h.CodeRec (.ref c) q := by
  unfold nameAt at e
  cases hc : h.get? c with
  | none => rw [hc] at e; cases e
  | some o =>
    rw [hc] at e
    dsimp only at e
    cases hd : o.data with
    | fields vs =>
      rw [hd] at e
      dsimp only at e
      cases hv : vs[1]? with
      | none => rw [hv] at e; cases e
      | some v =>
        rw [hv] at e
        cases v with
        | str n t => cases e; exact ⟨c, o, vs, t, rfl, hc, hd, hv⟩
        | _ => cases e
    | _ => rw [hd] at e; cases e
theorem stat_of {s : Shared} (h : YfH s = YaH) : Stat s.heap ∧ TabOk s.heap ∧ ∃ mg, s.heap.Ns mainGlobals mg ∧ mg "law" = some (.ref 280) := by
  unfold YfH YaH at h
  simp only [Prod.mk.injEq, Bool.and_eq_true, Option.isNone_iff_eq_none, List.map_inj_left, List.map_cons, List.map_nil, List.cons.injEq, and_true] at h
  obtain ⟨⟨⟨⟨⟨b1, b2⟩, b3⟩, b4⟩, b5⟩, g1, g2, g3, f1, f2, c1, c2, c3, c4, c5⟩ := h
  refine ⟨⟨⟨_, .of_isNs b1, fun p hp => g1 p (List.mem_cons_of_mem _ hp), g2⟩, ⟨_, .of_isNs b2, g3⟩, ⟨_, .of_isNs b3, b4⟩, ⟨_, .of_isNs b3, b5⟩, fun e he => ⟨f1 e he, name_rec (f2 e he)⟩, ⟨_, c1, rfl⟩, ⟨_, c3, rfl, rfl, rfl⟩, c4, c5⟩, ⟨#[], ⟨_, _, _, _, _, _, _, _, _, _, c1, rfl, rfl, rfl, rfl, rfl, rfl, c2, rfl, trivial, by decide⟩, c2⟩, ⟨_, .of_isNs b1, g1 ("law", .ref 280) List.mem_cons_self⟩⟩
end Mine

namespace Mine
open Calls

noncomputable def OP2 (x : Cx) (m : Loc) (n : Mut) (a b : SV) (t : Value → Value → Sem Value) (P : SV → Mut → Prop) : Prop :=
  ∀ s fz as va vb, Iv x m n fz as s → a.At fz as va → b.At fz as vb → Run x (t va vb) (Post x m fz as P) s
noncomputable def OP1 (x : Cx) (m : Loc) (n : Mut) (a : SV) (t : Value → Sem Value) (P : SV → Mut → Prop) : Prop :=
  ∀ s fz as va, Iv x m n fz as s → a.At fz as va → Run x (t va) (Post x m fz as P) s
/-- a call -/
noncomputable def CL (x : Cx) (m : Loc) (n : Mut) (f : SV) (args : List SV) (P : SV → Mut → Prop) : Prop :=
  ∀ s fz as vf vs, Iv x m n fz as s → f.At fz as vf → SV.AtL fz as args vs → Run x (call vf vs) (Post x m fz as P) s
inductive PostB (x : Cx) (m : Loc) (fz : Frz) (as : List Addr) (P : Bool → Mut → Prop) (b : Bool) (s' : Shared) : Prop
  | mk (n' : Mut) (fz' : Frz) (as' : List Addr) (q : P b n') (le : fz.le fz') (p : as <+: as') (I : Iv x m n' fz' as' s')
/-- truth of a value -/
noncomputable def TR (x : Cx) (m : Loc) (n : Mut) (a : SV) (P : Bool → Mut → Prop) : Prop :=
  ∀ s fz as va, Iv x m n fz as s → a.At fz as va → Run x (truthy va) (PostB x m fz as P) s
/-- a test -/
noncomputable def TS (x : Cx) (m : Loc) (n : Mut) (e : Expr) (P : Bool → Mut → Prop) : Prop :=
  ∀ s fz as, Iv x m n fz as s → Run x (isTrue e x.env (eval e x.env)) (PostB x m fz as P) s
inductive PostL (x : Cx) (m : Loc) (fz : Frz) (as : List Addr) (P : List SV → Mut → Prop) (vs : List Value) (s' : Shared) : Prop
  | mk (svs : List SV) (n' : Mut) (fz' : Frz) (as' : List Addr) (q : P svs n') (le : fz.le fz') (p : as <+: as') (I : Iv x m n' fz' as' s') (h : SV.AtL fz' as' svs vs)
/-- several expressions -/
noncomputable def EVs (x : Cx) (m : Loc) (n : Mut) (es : List Expr) (P : List SV → Mut → Prop) : Prop :=
  ∀ pos s fz as, Iv x m n fz as s → Run x (spliced (backTo pos (starEach es x.env))) (PostL x m fz as P) s

/-! what follows, each with a name: no new bound variables in the proofs -/
noncomputable abbrev K2R (x : Cx) (m : Loc) (t : Value → Value → Sem Value) (P : SV → Mut → Prop) (a : SV) (b : SV) (n2 : Mut) : Prop := OP2 x m n2 a b t P
noncomputable abbrev K2L (x : Cx) (m : Loc) (r : Expr) (t : Value → Value → Sem Value) (P : SV → Mut → Prop) (a : SV) (n1 : Mut) : Prop := EV x m n1 r (K2R x m t P a)
noncomputable abbrev K1 (x : Cx) (m : Loc) (t : Value → Sem Value) (P : SV → Mut → Prop) (a : SV) (n1 : Mut) : Prop := OP1 x m n1 a t P
noncomputable abbrev KT (x : Cx) (m : Loc) (P : Bool → Mut → Prop) (a : SV) (n1 : Mut) : Prop := TR x m n1 a P
noncomputable abbrev KIfE (x : Cx) (m : Loc) (b o : Expr) (P : SV → Mut → Prop) (c : Bool) (n1 : Mut) : Prop := match c with | true => EV x m n1 b P | false => EV x m n1 o P
noncomputable abbrev KL2 (P : List SV → Mut → Prop) (a : SV) (l : List SV) (n2 : Mut) : Prop := P (a :: l) n2
noncomputable abbrev KL (x : Cx) (m : Loc) (es : List Expr) (P : List SV → Mut → Prop) (a : SV) (n1 : Mut) : Prop := EVs x m n1 es (KL2 P a)
noncomputable abbrev KList (P : SV → Mut → Prop) (l : List SV) (n1 : Mut) : Prop := l.length ≤ 1000 ∧ P (.list l) n1
noncomputable abbrev KTup (P : SV → Mut → Prop) (l : List SV) (n1 : Mut) : Prop := l.length ≤ 1000 ∧ P (.tup l) n1

section
variable {x : Cx} {m : Loc} {n : Mut} {P : SV → Mut → Prop} {pos : Pos}

theorem no {Q : Value → Shared → Prop} {v : Value} {s : Shared} (h : noE v s) : Q v s := h.elim
theorem PostB.weak {s : Shared} {P : Bool → Mut → Prop} {fz fz' : Frz} {as as' : List Addr} {b : Bool} (h : fz.le fz') (p : as <+: as') (q : PostB x m fz' as' P b s) : PostB x m fz as P b s := by
  obtain ⟨n', f, a, q1, q2, q3, q4⟩ := q
  exact ⟨n', f, a, q1, h.trans q2, p.trans q3, q4⟩
theorem PostB.to {s : Shared} {P P' : Bool → Mut → Prop} {fz : Frz} {as : List Addr} {b b' : Bool} (q : PostB x m fz as P b s) (h : ∀ n, P b n → P' b' n) : PostB x m fz as P' b' s := by
  obtain ⟨n', f, a, q1, q2, q3, q4⟩ := q
  exact ⟨n', f, a, h _ q1, q2, q3, q4⟩
theorem PostL.weak {s : Shared} {P : List SV → Mut → Prop} {fz fz' : Frz} {as as' : List Addr} {b : List Value} (h : fz.le fz') (p : as <+: as') (q : PostL x m fz' as' P b s) : PostL x m fz as P b s := by
  obtain ⟨sv, n', f, a, q1, q2, q3, q4, q5⟩ := q
  exact ⟨sv, n', f, a, q1, h.trans q2, p.trans q3, q4, q5⟩

theorem EV.mono {e : Expr} {P P' : SV → Mut → Prop} (h : EV x m n e P) (hP : ∀ a n, P a n → P' a n) : EV x m n e P' :=
  fun s fz as I => wpAny_mono (h s fz as I) (fun _ _ q => q.mono hP) fun _ _ z => z
theorem CL.mono {f : SV} {as : List SV} {P P' : SV → Mut → Prop} (h : CL x m n f as P) (hP : ∀ a n, P a n → P' a n) : CL x m n f as P' :=
  fun s fz as vf vs I h1 h2 => wpAny_mono (h s fz as vf vs I h1 h2) (fun _ _ q => q.mono hP) fun _ _ z => z

theorem EV_str {y : Str} {k : Nat} (h : P (.str y.cps.toList) n) : EV x m n (.Constant (.str y) k pos) P := fun s fz as I =>
  Constant_str ((I.toks _).post (by simp only [SV.At]; exact ⟨_, rfl⟩) h)
theorem EV_int {i : Int} {k : Nat} (h : P (.int i) n) : EV x m n (.Constant (.int i) k pos) P := fun s fz as I =>
  wpAny_Constant_int ((I.toks _).post (by simp only [SV.At]; exact ⟨_, rfl⟩) h)
theorem EV_bool {b : Bool} {k : Nat} (h : P (.bool b) n) : EV x m n (.Constant (.bool b) k pos) P := fun s fz as I =>
  show Run x (pure (.bool b)) _ s from wpAny_pure (I.post (by simp only [SV.At]) h)
theorem EV_none {k : Nat} (h : P .none n) : EV x m n (.Constant .none k pos) P := fun s fz as I =>
  show Run x (pure .none) _ s from wpAny_pure (I.post (by simp only [SV.At]) h)

theorem EV_loc {y : Str} {sv : SV} (hy : (y, sv) ∈ m) (hu : sv ≠ .unset) (h : P sv n) (hk : x.env.scope.kind = .function) (hl : x.env.kindOf y = some .local) (hd : (y == ("__debug__" : Str)) = false) (hcl : x.env.cells.lookup y = none) :
    EV x m n (.Name y pos) P := fun s fz as I => by
  obtain ⟨mv, hn, hm⟩ := I.loc
  rcases hm _ hy with e | ⟨v, e, ha⟩
  · exact absurd e hu
  · unfold VarAt at e
    rw [hcl] at e
    exact wpAny_Name (wpAny_loadName_local hk hl hn e (I.post ha h)) hd

theorem EV_cell {y : Str} {sv : SV} {c : Addr} (hy : (y, sv) ∈ m) (hu : sv ≠ .unset) (h : P sv n) (hk : x.env.scope.kind = .function) (hl : x.env.kindOf y = some .cell ∨ (x.env.kindOf y = some .free ∧ (y == ("__classdict__" : Str)) = false)) (hd : (y == ("__debug__" : Str)) = false) (hcl : x.env.cells.lookup y = some c) :
    EV x m n (.Name y pos) P := fun s fz as I => by
  obtain ⟨mv, hn, hm⟩ := I.loc
  rcases hm _ hy with e | ⟨v, e, ha⟩
  · exact absurd e hu
  · unfold VarAt at e
    rw [hcl] at e
    obtain ⟨o, e1, e2⟩ := e
    have hc : s.heap.IsCell c (some v) := ⟨o, I.frz _ _ e1, e2⟩
    rcases hl with hl | ⟨hl, hl'⟩
    · exact wpAny_Name (wpAny_loadName_cell hk hl hcl hc (I.post ha h)) hd
    · exact wpAny_Name (wpAny_loadName_free hk hl hcl hc (I.post ha h) hl') hd

/-- a global's value as data -/
noncomputable def gv : Value → Option SV
  | .int i _ => some (.int i)
  | .ref a => some (.fn a)
  | .type t => some (.ty t)
  | .builtin t => some (.bi t)
  | _ => none
theorem gv_at {v : Value} {sv : SV} (h : gv v = some sv) (fz : Frz) (as : List Addr) : sv.At fz as v := by
  cases v <;> simp only [gv, Option.some.injEq, reduceCtorEq] at h <;> subst h <;> simp [SV.At]
theorem EV_glob {y : Str} {v : Value} {sv : SV} (hy : (y, v) ∈ GL) (hv : gv v = some sv) (h : P sv n) (hg : x.env.globals = mainGlobals) (hk : x.env.scope.kind = .function) (hl : x.env.kindOf y = some .globalImplicit) (hd : (y == ("__debug__" : Str)) = false) :
    EV x m n (.Name y pos) P := fun s fz as I => by
  obtain ⟨mg, a, b, _⟩ := I.st.glob
  exact Name_function_global hk hl (loadGlobal_global (hg ▸ a) (b _ hy) (I.post (gv_at hv _ _) h)) hd
theorem EV_blt {y : Str} {v : Value} {sv : SV} (hy : (y, v) ∈ BL) (hv : gv v = some sv) (h : P sv n) (hg : x.env.globals = mainGlobals) (hb : x.env.builtins = builtinsNs) (hk : x.env.scope.kind = .function) (hl : x.env.kindOf y = some .globalImplicit) (hd : (y == ("__debug__" : Str)) = false) :
    EV x m n (.Name y pos) P := fun s fz as I => by
  obtain ⟨mg, a, _, c⟩ := I.st.glob
  obtain ⟨mb, a', b'⟩ := I.st.blt
  exact Name_function_global hk hl (loadGlobal_builtin (hg ▸ a) (c _ hy) (hb ▸ a') (b' _ hy) (I.post (gv_at hv _ _) h)) hd

theorem EV_binop {l r : Expr} {op : Operator} (h : EV x m n l (K2L x m r (binaryOp op) P)) : EV x m n (.BinOp l op r pos) P := fun s fz as I => by
  refine wpAny_BinOp (wpAny_mono (h s fz as I) (fun va s1 q => ?_) fun _ _ z => no z)
  obtain ⟨a, n1, fz1, as1, h1, le1, p1, I1, at1⟩ := q
  refine wpAny_mono (h1 s1 fz1 as1 I1) (fun vb s2 q => ?_) fun _ _ z => no z
  obtain ⟨b, n2, fz2, as2, h2, le2, p2, I2, at2⟩ := q
  exact wpAny_mono (h2 s2 fz2 as2 va vb I2 (SV.At.mono le2 p2 a at1) at2) (fun _ _ z => z.weak (le1.trans le2) (p1.trans p2)) fun _ _ z => z
theorem EV_cmp {l r : Expr} {op : CmpOp} (h : EV x m n l (K2L x m r (compareOp op) P)) (hm : behindInMarks op r = false) : EV x m n (.Compare l [op] [r] pos) P := fun s fz as I => by
  refine wpAny_Compare1 (wpAny_mono (h s fz as I) (fun va s1 q => ?_) fun _ _ z => no z) hm
  obtain ⟨a, n1, fz1, as1, h1, le1, p1, I1, at1⟩ := q
  refine wpAny_mono (h1 s1 fz1 as1 I1) (fun vb s2 q => ?_) fun _ _ z => no z
  obtain ⟨b, n2, fz2, as2, h2, le2, p2, I2, at2⟩ := q
  exact wpAny_mono (h2 s2 fz2 as2 va vb I2 (SV.At.mono le2 p2 a at1) at2) (fun _ _ z => z.weak (le1.trans le2) (p1.trans p2)) fun _ _ z => z
theorem EV_un {l : Expr} {op : UnaryOp} (h : EV x m n l (K1 x m (unaryOp op) P)) : EV x m n (.UnaryOp op l pos) P := fun s fz as I => by
  refine wpAny_UnaryOp (wpAny_mono (h s fz as I) (fun va s1 q => ?_) fun _ _ z => no z)
  obtain ⟨a, n1, fz1, as1, h1, le1, p1, I1, at1⟩ := q
  exact wpAny_mono (h1 s1 fz1 as1 va I1 at1) (fun _ _ z => z.weak le1 p1) fun _ _ z => z

theorem TS_cmp {l r : Expr} {op : CmpOp} {P : Bool → Mut → Prop} (h : EV x m n l (K2L x m r (compareOp op) (KT x m P))) (hm : behindInMarks op r = false) :
    TS x m n (.Compare l [op] [r] pos) P := fun s fz as I => by
  refine wpAny_isTrue_Compare1 (wpAny_mono (h s fz as I) (fun va s1 q => ?_) fun _ _ z => no z) hm
  obtain ⟨a, n1, fz1, as1, h1, le1, p1, I1, at1⟩ := q
  refine wpAny_mono (h1 s1 fz1 as1 I1) (fun vb s2 q => ?_) fun _ _ z => no z
  obtain ⟨b, n2, fz2, as2, h2, le2, p2, I2, at2⟩ := q
  refine wpAny_mono (h2 s2 fz2 as2 va vb I2 (SV.At.mono le2 p2 a at1) at2) (fun vc s3 q => ?_) fun _ _ z => no z
  obtain ⟨c, n3, fz3, as3, h3, le3, p3, I3, at3⟩ := q
  exact wpAny_mono (h3 s3 fz3 as3 vc I3 at3) (fun _ _ z => z.weak ((le1.trans le2).trans le3) ((p1.trans p2).trans p3)) fun _ _ z => z
theorem TS_not {l : Expr} {P : Bool → Mut → Prop} (h : TS x m n l (fun b n1 => P (!b) n1)) : TS x m n (.UnaryOp .Not l pos) P := fun s fz as I => by
  show Run x (do return !(← isTrue l x.env (eval l x.env))) _ s
  exact wpAny_bind (wpAny_mono (h s fz as I) (fun b s1 q => wpAny_pure (q.to fun _ z => z)) fun _ _ z => no z)
/-- plain expressions in a test -/
noncomputable def plainTest : Expr → Bool
  | .Name .. | .Call .. | .BinOp .. | .Subscript .. | .Constant .. => true
  | _ => false
theorem TS_plain {e : Expr} {P : Bool → Mut → Prop} (he : plainTest e = true) (h : EV x m n e (KT x m P)) : TS x m n e P := fun s fz as I => by
  have : isTrue e x.env (eval e x.env) = (do let v ← eval e x.env; standAt e.pos; holding [v] (truthy v)) := by
    cases e <;> first | rfl | simp [plainTest] at he
  show wpAny _ _ (isTrue e x.env (eval e x.env)) _ _ s
  rw [this]
  refine wpAny_bind (wpAny_mono (h s fz as I) (fun va s1 q => wpAny_bind (wpAny_standAt (wpAny_holding ?_))) fun _ _ z => no z)
  obtain ⟨a, n1, fz1, as1, h1, le1, p1, I1, at1⟩ := q
  exact wpAny_mono (h1 s1 fz1 as1 va I1 at1) (fun _ _ z => z.weak le1 p1) fun _ _ z => z
theorem TS_or {a b : Expr} {P : Bool → Mut → Prop} (h : TS x m n a (fun t n1 => match t with | true => P true n1 | false => TS x m n1 b P)) : TS x m n (.BoolOp .Or [a, b] pos) P := fun s fz as I => by
  show Run x (do match (BoolOp.Or : BoolOp), ← isTrue a x.env (eval a x.env) with
    | .And, false => pure false
    | .Or, true => pure true
    | _, _ => allTrue .Or [b] x.env) _ s
  refine wpAny_bind (wpAny_mono (h s fz as I) (fun t s1 q => ?_) fun _ _ z => no z)
  obtain ⟨n1, fz1, as1, h1, le1, p1, I1⟩ := q
  cases t with
  | true => exact wpAny_pure ⟨n1, fz1, as1, h1, le1, p1, I1⟩
  | false =>
    show Run x (do match (BoolOp.Or : BoolOp), ← isTrue b x.env (eval b x.env) with
      | .And, false => pure false
      | .Or, true => pure true
      | _, _ => allTrue .Or [] x.env) _ s1
    refine wpAny_bind (wpAny_mono (h1 s1 fz1 as1 I1) (fun t s2 q => ?_) fun _ _ z => no z)
    cases t with
    | true => exact wpAny_pure (q.weak le1 p1)
    | false => exact wpAny_pure (q.weak le1 p1)
theorem TS_and {a b : Expr} {P : Bool → Mut → Prop} (h : TS x m n a (fun t n1 => match t with | true => TS x m n1 b P | false => P false n1)) : TS x m n (.BoolOp .And [a, b] pos) P := fun s fz as I => by
  show Run x (do match (BoolOp.And : BoolOp), ← isTrue a x.env (eval a x.env) with
    | .And, false => pure false
    | .Or, true => pure true
    | _, _ => allTrue .And [b] x.env) _ s
  refine wpAny_bind (wpAny_mono (h s fz as I) (fun t s1 q => ?_) fun _ _ z => no z)
  obtain ⟨n1, fz1, as1, h1, le1, p1, I1⟩ := q
  cases t with
  | false => exact wpAny_pure ⟨n1, fz1, as1, h1, le1, p1, I1⟩
  | true =>
    show Run x (do match (BoolOp.And : BoolOp), ← isTrue b x.env (eval b x.env) with
      | .And, false => pure false
      | .Or, true => pure true
      | _, _ => allTrue .And [] x.env) _ s1
    refine wpAny_bind (wpAny_mono (h1 s1 fz1 as1 I1) (fun t s2 q => ?_) fun _ _ z => no z)
    cases t with
    | true => exact wpAny_pure (q.weak le1 p1)
    | false => exact wpAny_pure (q.weak le1 p1)

theorem EV_ifexp {t b o : Expr} (h : TS x m n t (KIfE x m b o P)) : EV x m n (.IfExp t b o pos) P := fun s fz as I => by
  show Run x (do if ← isTrue t x.env (eval t x.env) then eval b x.env else eval o x.env) _ s
  refine wpAny_bind (wpAny_mono (h s fz as I) (fun c s1 q => ?_) fun _ _ z => no z)
  obtain ⟨n1, fz1, as1, h1, le1, p1, I1⟩ := q
  cases c with
  | true => exact wpAny_mono (h1 s1 fz1 as1 I1) (fun _ _ z => z.weak le1 p1) fun _ _ z => z
  | false => exact wpAny_mono (h1 s1 fz1 as1 I1) (fun _ _ z => z.weak le1 p1) fun _ _ z => z

theorem TR_bool {b : Bool} {P : Bool → Mut → Prop} (h : P b n) : TR x m n (.bool b) P := fun s fz as va I ha => by
  simp only [SV.At] at ha; subst ha
  exact wpAny_truthy_bool ⟨n, fz, as, h, .refl _, List.prefix_refl _, I⟩

noncomputable def isPlainArg : Expr → Bool
  | .Starred .. => false
  | _ => true
theorem EVs_nil {P : List SV → Mut → Prop} (h : P [] n) : EVs x m n [] P := fun pos s fz as I => spliced_nil ⟨[], n, fz, as, h, .refl _, List.prefix_refl _, I, .nil⟩
theorem EVs_cons {e : Expr} {es : List Expr} {P : List SV → Mut → Prop} (h : EV x m n e (KL x m es P)) (he : isPlainArg e = true) : EVs x m n (e :: es) P := fun pos s fz as I => by
  have : backTo pos (starEach (e :: es) x.env) = (false, eval e x.env) :: backTo pos (starEach es x.env) := by
    cases e <;> first | rfl | simp [isPlainArg] at he
  rw [this]
  refine spliced_cons (wpAny_mono (h s fz as I) (fun va s1 q => ?_) fun _ _ z => no z)
  obtain ⟨a, n1, fz1, as1, h1, le1, p1, I1, at1⟩ := q
  refine wpAny_mono (h1 pos s1 fz1 as1 I1) (fun vs s2 q => ?_) fun _ _ z => no z
  obtain ⟨l, n2, fz2, as2, h2, le2, p2, I2, at2⟩ := q
  exact ⟨_, n2, fz2, as2, h2, le1.trans le2, p1.trans p2, I2, .cons (SV.At.mono le2 p2 a at1) at2⟩

theorem EV_list {es : List Expr} (h : EVs x m n es (KList P)) : EV x m n (.List es pos) P := fun s fz as I => by
  refine wpAny_List_spliced (wpAny_mono (h pos s fz as I) (fun vs s1 q => ?_) fun _ _ z => no z)
  obtain ⟨l, n1, fz1, as1, ⟨hl, h1⟩, le1, p1, I1, at1⟩ := q
  obtain ⟨I2, le2⟩ := I1.freeze (lstO vs 0) rfl
  refine ⟨by rw [at1.length]; exact Nat.le_trans hl (by decide), _, n1, _, as1, h1, le1.trans le2, p1, I2, ?_⟩
  simp only [SV.At]
  exact ⟨_, vs, 0, rfl, Frz.add_self _ _ _, at1.mono le2 (List.prefix_refl _)⟩
theorem EV_tuple {es : List Expr} {k : Nat} (h : EVs x m n es (KTup P)) : EV x m n (.Tuple es k pos) P := fun s fz as I => by
  refine wpAny_Tuple_spliced (wpAny_mono (h pos s fz as I) (fun vs s1 q => ?_) fun _ _ z => no z)
  obtain ⟨l, n1, fz1, as1, ⟨hl, h1⟩, le1, p1, I1, at1⟩ := q
  obtain ⟨I2, le2⟩ := I1.freeze (tupO vs 0) rfl
  refine ⟨by rw [at1.length]; exact Nat.le_trans hl (by decide), _, n1, _, as1, h1, le1.trans le2, p1, I2, ?_⟩
  simp only [SV.At]
  exact ⟨_, vs, 0, rfl, Frz.add_self _ _ _, at1.mono le2 (List.prefix_refl _)⟩

/-- who may be called -/
noncomputable def callable : SV → Bool
  | .ty _ | .bi _ | .app _ => true
  | .fn a => FL.any (·.a == a)
  | _ => false
theorem callable_keeper {f : SV} (h : callable f = true) {fz : Frz} {as : List Addr} {s : Shared} {vf : Value} (I : Iv x m n fz as s) (ha : f.At fz as vf) :
    ∃ k, (k = Keeper.frame ∨ k = Keeper.machine) ∧ Looks (model pw x.w) s.heap (keeperOf vf) k := by
  cases f with
  | ty _ => simp only [SV.At] at ha; subst ha; exact ⟨.machine, .inr rfl, .now⟩
  | bi _ => simp only [SV.At] at ha; subst ha; exact ⟨.machine, .inr rfl, .now⟩
  | fn a =>
    simp only [SV.At] at ha; subst ha
    simp only [callable, List.any_eq_true, beq_iff_eq] at h
    obtain ⟨e, he, rfl⟩ := h
    exact ⟨.frame, .inl rfl, (Looks.ld (part := none) (I.st.fn e he).1).andThen .now⟩
  | app k =>
    simp only [SV.At] at ha
    obtain ⟨a, b, rfl, _, e⟩ := ha
    exact ⟨.machine, .inr rfl, (Looks.ld (part := none) (I.frz _ _ e)).andThen .now⟩
  | _ => simp [callable] at h

theorem callWith_k {es : List Expr} {s : Shared} {vf : Value} {Q : Value → Shared → Prop} (hl : es.all isPlainArg = true)
    (key : Run x (spliced (backTo pos (starEach es x.env))) (fun vs s1 => (∃ k, (k = Keeper.frame ∨ k = Keeper.machine) ∧ Looks (model pw x.w) s1.heap (keeperOf vf) k) ∧ Run x (call vf ([] ++ vs)) Q s1) s) : Run x (callWith pos vf [] (backTo pos (starEach es x.env)) []) Q s := by
  have plain : ∀ es : List Expr, es.all isPlainArg = true → (backTo pos (starEach es x.env)).any (·.1) = false := by
    intro es
    induction es with
    | nil => intro _; rfl
    | cons e r ih =>
      intro h
      simp only [List.all_cons, Bool.and_eq_true] at h
      have : backTo pos (starEach (e :: r) x.env) = (false, eval e x.env) :: backTo pos (starEach r x.env) := by
        cases e <;> first | rfl | simp [isPlainArg] at h
      rw [this, List.any_cons, ih h.2]; rfl
  have hp := plain es hl
  revert key hp
  unfold callWith
  intro key hp
  refine wpAny_bind (wpAny_holding ?_)
  have ev : wpAny (model pw x.w) x.A (evalArgs vf true (backTo pos (starEach es x.env)) []) (fun a s1 => (∃ k, (k = Keeper.frame ∨ k = Keeper.machine) ∧ Looks (model pw x.w) s1.heap (keeperOf vf) k) ∧ wpAny (model pw x.w) x.A (call vf ([] ++ a.pos) a.kw) Q noE s1) noE s := by
    cases hb : backTo pos (starEach es x.env) with
    | nil =>
      rw [hb] at key
      unfold evalArgs
      show wpAny _ _ (spliced [] >>= _) _ _ s
      refine wpAny_bind (wpAny_mono key (fun vs s' h' => ?_) fun _ _ z => z)
      refine wpAny_bind (wpAny_pure ?_)
      refine wpAny_holding ?_
      exact wpAny_bind (wpAny_pure (wpAny_bind (wpAny_pure (wpAny_pure h'))))
    | cons y r =>
      rw [hb] at key hp
      obtain ⟨b, t⟩ := y
      simp only [List.any_cons, Bool.or_eq_false_iff] at hp
      obtain ⟨rfl, _⟩ := hp
      exact evalArgs_plain key
  refine wpAny_mono ev (fun a s1 q => wpAny_bind (wpAny_standAt ?_)) fun _ _ z => no z
  obtain ⟨⟨k, hk, L⟩, hq⟩ := q
  simp only [hp, List.any_nil, Bool.or_false]
  refine wpAny_bind (L.here ?_)
  have tail : ∀ {t : Sem Value}, wpAny (model pw x.w) x.A t Q noE s1 → wpAny (model pw x.w) x.A (t >>= fun r => holding [r] point >>= fun _ => pure r) Q noE s1 :=
    fun ht => wpAny_bind (wpAny_mono ht (fun r s₂ hr => wpAny_bind (wpAny_holding (wpAny_point (wpAny_pure hr)))) fun _ _ x => x)
  have marked (mk : Value) : wpAny (model pw x.w) x.A (callMarked mk vf ([] ++ a.pos) a.kw) Q noE s1 := by unfold callMarked; exact Calls.wpAny_keep hq
  rcases hk with rfl | rfl <;> dsimp only <;> first | exact tail hq | (split <;> first | exact tail hq | exact tail (marked _))
theorem callWith_q {f : SV} {es : List Expr} {s : Shared} {vf : Value} {Q : Value → Shared → Prop} (hc : callable f = true) (hl : es.all isPlainArg = true)
    (key : Run x (spliced (backTo pos (starEach es x.env))) (fun vs s1 => (∃ fz1 as1 n1, Iv x m n1 fz1 as1 s1 ∧ f.At fz1 as1 vf) ∧ Run x (call vf ([] ++ vs)) Q s1) s) : Run x (callWith pos vf [] (backTo pos (starEach es x.env)) []) Q s :=
  callWith_k hl (wpAny_mono key (fun vs s1 ⟨⟨fz1, as1, n1, I1, ha1⟩, hq⟩ => ⟨callable_keeper hc I1 ha1, hq⟩) fun _ _ z => z)
theorem callWith_gen {f : SV} {es : List Expr} {s : Shared} {fz : Frz} {as : List Addr} {vf : Value} (hc : callable f = true) (I : Iv x m n fz as s) (ha : f.At fz as vf)
    (h : EVs x m n es (fun args n1 => CL x m n1 f args P)) (hl : es.all isPlainArg = true) : Run x (callWith pos vf [] (backTo pos (starEach es x.env)) []) (Post x m fz as P) s := by
  refine callWith_q (m := m) hc hl (wpAny_mono (h pos s fz as I) (fun vs s1 q => ?_) fun _ _ z => no z)
  obtain ⟨l, n1, fz1, as1, h1, le1, p1, I1, at1⟩ := q
  have ha1 := SV.At.mono le1 p1 f ha
  exact ⟨⟨fz1, as1, n1, I1, ha1⟩, wpAny_mono (h1 s1 fz1 as1 vf vs I1 ha1 at1) (fun _ _ z => z.weak le1 p1) fun _ _ z => z⟩

noncomputable abbrev KC2 (x : Cx) (m : Loc) (P : SV → Mut → Prop) (f : SV) (args : List SV) (n2 : Mut) : Prop := CL x m n2 f args P
noncomputable abbrev KC (x : Cx) (m : Loc) (es : List Expr) (P : SV → Mut → Prop) (f : SV) (n1 : Mut) : Prop := callable f = true ∧ EVs x m n1 es (KC2 x m P f)

theorem EV_call {id : Str} {np : Pos} {es : List Expr} (h : EV x m n (.Name id np) (KC x m es P)) (hl : es.all isPlainArg = true) :
    EV x m n (.Call (.Name id np) es [] pos) P := fun s fz as I => by
  refine wpAny_Call_NameR (wpAny_mono (h s fz as I) (fun vf s1 q => ?_) fun _ _ z => no z)
  obtain ⟨f, n1, fz1, as1, ⟨hc, h1⟩, le1, p1, I1, at1⟩ := q
  exact wpAny_mono (callWith_gen hc I1 at1 h1 hl) (fun _ _ z => z.weak le1 p1) fun _ _ z => z
end
end Mine

namespace Mine
open Calls

inductive Fw where
  | next | brk | cont | ret (v : SV)
noncomputable def Fw.At (fz : Frz) (as : List Addr) : Fw → Flow → Prop
  | .next, f => f = .next
  | .brk, f => f = .brk
  | .cont, f => f = .cont
  | .ret sv, f => ∃ v, f = .ret v ∧ sv.At fz as v

inductive PostS (x : Cx) (fz : Frz) (as : List Addr) (P : Fw → Loc → Mut → Prop) (f : Flow) (s' : Shared) : Prop
  | mk (fw : Fw) (m' : Loc) (n' : Mut) (fz' : Frz) (as' : List Addr) (q : P fw m' n') (le : fz.lw fz') (p : as <+: as') (I : Iv x m' n' fz' as' s') (h : fw.At fz' as' f)
noncomputable def EX (x : Cx) (m : Loc) (n : Mut) (ss : List Stmt) (P : Fw → Loc → Mut → Prop) : Prop :=
  ∀ s fz as, Iv x m n fz as s → Run x (execs ss x.env) (PostS x fz as P) s
noncomputable def ES (x : Cx) (m : Loc) (n : Mut) (st : Stmt) (P : Fw → Loc → Mut → Prop) : Prop :=
  ∀ s fz as, Iv x m n fz as s → Run x (exec st x.env) (PostS x fz as P) s

noncomputable abbrev KSeq (x : Cx) (rest : List Stmt) (P : Fw → Loc → Mut → Prop) (f : Fw) (m1 : Loc) (n1 : Mut) : Prop := match f with | .next => EX x m1 n1 rest P | f => P f m1 n1
noncomputable abbrev KIf (x : Cx) (m : Loc) (body orelse : List Stmt) (P : Fw → Loc → Mut → Prop) (b : Bool) (n1 : Mut) : Prop := match b with | true => EX x m n1 body P | false => EX x m n1 orelse P
noncomputable abbrev KRet (m : Loc) (P : Fw → Loc → Mut → Prop) (a : SV) (n1 : Mut) : Prop := P (.ret a) m n1
noncomputable abbrev KAssert (m : Loc) (P : Fw → Loc → Mut → Prop) (b : Bool) (n1 : Mut) : Prop := b = true ∧ P .next m n1

inductive Put (y : Str) (a : SV) : Loc → Loc → Prop
  | head {o : SV} {r : Loc} : Put y a ((y, o) :: r) ((y, a) :: r)
  | tail {p : Str × SV} {r r' : Loc} : Put y a r r' → Put y a (p :: r) (p :: r')

noncomputable abbrev KAs (y : Str) (m : Loc) (P : Fw → Loc → Mut → Prop) (a : SV) (n1 : Mut) : Prop := ∃ m', Put y a m m' ∧ P .next m' n1
theorem Put.keys {y : Str} {a : SV} {m m' : Loc} (h : Put y a m m') : m'.map (·.1) = m.map (·.1) := by
  induction h with
  | head => rfl
  | tail _ ih => simp [ih]
theorem Put.mem {y : Str} {a : SV} {m m' : Loc} (h : Put y a m m') (hn : (m.map (·.1)).Nodup) : ∀ p ∈ m', p = (y, a) ∨ (p ∈ m ∧ p.1 ≠ y) := by
  induction h with
  | head =>
    rename_i o r
    intro p hp
    simp only [List.map_cons, List.nodup_cons, List.mem_map, not_exists, not_and] at hn
    rcases List.mem_cons.mp hp with rfl | hp
    · exact .inl rfl
    · exact .inr ⟨.tail _ hp, fun e => hn.1 p hp e⟩
  | tail h ih =>
    rename_i q r r'
    intro p hp
    simp only [List.map_cons, List.nodup_cons, List.mem_map, not_exists, not_and] at hn
    rcases List.mem_cons.mp hp with rfl | hp
    · refine .inr ⟨.head _, fun e => ?_⟩
      have : y ∈ r.map (·.1) := by
        clear ih hn hp
        induction h with
        | head => simp
        | tail _ ih => simp at ih ⊢; exact .inr ih
      obtain ⟨z, hz, ez⟩ := List.mem_map.mp this
      exact hn.1 z hz (ez.trans e.symm)
    · rcases ih hn.2 p hp with h | ⟨h1, h2⟩
      · exact .inl h
      · exact .inr ⟨.tail _ h1, h2⟩

section
variable {x : Cx} {m : Loc} {n : Mut} {P : Fw → Loc → Mut → Prop} {pos : Pos}
theorem PostS.weak {s : Shared} {fz fz' : Frz} {as as' : List Addr} {f : Flow} (h : fz.lw fz') (p : as <+: as') (q : PostS x fz' as' P f s) : PostS x fz as P f s := by
  obtain ⟨fw, m', n', f, a, q1, q2, q3, q4, q5⟩ := q
  exact ⟨fw, m', n', f, a, q1, h.trans q2, p.trans q3, q4, q5⟩
theorem PostS.mono {s : Shared} {fz : Frz} {as : List Addr} {f : Flow} {P' : Fw → Loc → Mut → Prop} (h : ∀ f m n, P f m n → P' f m n) (q : PostS x fz as P f s) : PostS x fz as P' f s := by
  obtain ⟨fw, m', n', f, a, q1, q2, q3, q4, q5⟩ := q
  exact ⟨fw, m', n', f, a, h _ _ _ q1, q2, q3, q4, q5⟩
theorem EX.mono {ss : List Stmt} {P P' : Fw → Loc → Mut → Prop} (h : EX x m n ss P) (hP : ∀ f m n, P f m n → P' f m n) : EX x m n ss P' :=
  fun s fz as I => wpAny_mono (h s fz as I) (fun _ _ q => q.mono hP) fun _ _ z => z

/-- a name of the frame is stored -/
theorem Iv.store {fz : Frz} {as : List Addr} {s : Shared} {m' : Loc} {y : Str} {a : SV} {v : Value} {h' : Heap} {mv : Str → Option Value} (I : Iv x m n fz as s) (hp : Put y a m m') (ha : a.At fz as v)
    (hm : ∀ p ∈ m, p.2 = .unset ∨ ∃ v, VarAt x.env fz mv p.1 v ∧ p.2.At fz as v) (hcl : x.env.cells.lookup y = none)
    (hn : h'.Ns x.env.locals (fun z => if z = y then some v else mv z)) (hs : Heap.SameBut x.env.locals s.heap h') (t : Nat) : Iv x m' n fz as { s with heap := h', toks := t } where
  stat := I.stat
  tab := I.tab.same hs I.LT (I.c77 I.newL)
  grow := fun a o e ha => (hs.2 a fun q => by rw [q, I.newL] at e; cases e).trans (I.grow a o e ha)
  frz := fun a o e => (hs.2 a fun q => by rw [q, I.fzL] at e; cases e).trans (I.frz a o e)
  fzT := I.fzT
  frb := I.frb
  loc := by
    refine ⟨_, hn, fun p hp' => ?_⟩
    rcases hp.mem I.keys p hp' with rfl | ⟨h1, h2⟩
    · refine .inr ⟨v, ?_, ha⟩
      unfold VarAt
      rw [show x.env.cells.lookup (y, a).1 = none from hcl]
      exact if_pos rfl
    · refine (hm p h1).imp id fun ⟨u, e1, e2⟩ => ⟨u, ?_, e2⟩
      unfold VarAt at e1 ⊢
      cases q : x.env.cells.lookup p.1 with
      | none =>
        rw [q] at e1
        show (if p.1 = y then some v else mv p.1) = some u
        rw [if_neg h2]; exact e1
      | some c => rw [q] at e1; exact e1
  keys := by rw [hp.keys]; exact I.keys
  fzL := I.fzL
  newL := I.newL
  LT := I.LT
  len := I.len
  nd := I.nd
  own := fun a ha => let ⟨p, q, r, t, u⟩ := I.own a ha; ⟨p, q, r, t, by rw [show ({ s with heap := h', toks := _ } : Shared).heap.objs.size = s.heap.objs.size from hs.1]; exact u⟩
  mls := fun k a xs p q => by
    obtain ⟨l, ep, r, t⟩ := I.mls k a xs p q
    exact ⟨l, ep, (hs.2 a (I.own a (List.mem_of_getElem? p)).2.1).trans r, t⟩
  os := I.os.heap fun o e => (hs.2 _ (Ne.symm I.LT)).trans e
  bare := I.bare
  cel := I.cel

theorem storeName_iv {fz : Frz} {as : List Addr} {s : Shared} {m' : Loc} {y : Str} {a : SV} {v : Value} {Q : Unit → Shared → Prop} (I : Iv x m n fz as s) (hp : Put y a m m') (ha : a.At fz as v)
    (hk : x.env.scope.kind = .function) (hl : x.env.kindOf y = some .local) (hcl : x.env.cells.lookup y = none) (h : ∀ s', Iv x m' n fz as s' → Q () s') : Run x (storeName x.env y v) Q s := by
  obtain ⟨mv, hn, hm⟩ := I.loc
  exact wpAny_storeName_local hl hn (fun h' hn' hs => h _ (I.store hp ha hm hcl hn' hs _)) (by rw [hk]; rfl)

theorem EX_nil (h : P .next m n) : EX x m n [] P := fun s fz as I => wpAny_execs_nil ⟨.next, m, n, fz, as, h, .refl _, List.prefix_refl _, I, rfl⟩
theorem EX_cons {st : Stmt} {rest : List Stmt} (h : ES x m n st (KSeq x rest P)) : EX x m n (st :: rest) P := fun s fz as I => by
  refine wpAny_execs_cons (wpAny_mono (h s fz as I) (fun f s1 q => ?_) fun _ _ z => no z)
  obtain ⟨fw, m1, n1, fz1, as1, h1, le1, p1, I1, at1⟩ := q
  cases fw with
  | next => simp only [Fw.At] at at1; subst at1; exact wpAny_mono (h1 s1 fz1 as1 I1) (fun _ _ z => z.weak le1 p1) fun _ _ z => z
  | brk => simp only [Fw.At] at at1; subst at1; exact ⟨.brk, m1, n1, fz1, as1, h1, le1, p1, I1, rfl⟩
  | cont => simp only [Fw.At] at at1; subst at1; exact ⟨.cont, m1, n1, fz1, as1, h1, le1, p1, I1, rfl⟩
  | ret sv => simp only [Fw.At] at at1; obtain ⟨v, rfl, hv⟩ := at1; exact ⟨.ret sv, m1, n1, fz1, as1, h1, le1, p1, I1, v, rfl, hv⟩

/-- no list that may change -/
theorem ES_assign {y : Str} {p' : Pos} {value : Expr} (h : EV x m n value (KAs y m P)) (hk : x.env.scope.kind = .function) (hl : x.env.kindOf y = some .local)
    (hs : swapsWith value (some (.Name y p')) pos.line x.env = pure false) (hcl : x.env.cells.lookup y = none) : ES x m n (.Assign [.Name y p'] value pos) P := fun s fz as I => by
  refine wpAny_Assign_Name (wpAny_mono (h s fz as I) (fun v s1 q => ?_) fun _ _ z => no z) hs
  obtain ⟨a, n1, fz1, as1, ⟨m', hp, h1⟩, le1, p1, I1, at1⟩ := q
  exact storeName_iv I1 hp at1 hk hl hcl fun s' I' => ⟨.next, m', n1, fz1, as1, h1, le1.lw, p1, I', rfl⟩
theorem ES_if {test : Expr} {body orelse : List Stmt} (h : TS x m n test (KIf x m body orelse P)) : ES x m n (.If test body orelse pos) P := fun s fz as I => by
  refine wpAny_If (wpAny_mono (h s fz as I) (fun b s1 q => ?_) fun _ _ z => no z)
  obtain ⟨n1, fz1, as1, h1, le1, p1, I1⟩ := q
  cases b with
  | true => exact wpAny_mono (h1 s1 fz1 as1 I1) (fun _ _ z => z.weak le1.lw p1) fun _ _ z => z
  | false => exact wpAny_mono (h1 s1 fz1 as1 I1) (fun _ _ z => z.weak le1.lw p1) fun _ _ z => z
theorem ES_return {e : Expr} (h : EV x m n e (KRet m P)) : ES x m n (.Return (some e) pos) P := fun s fz as I => by
  refine wpAny_Return_some (wpAny_mono (h s fz as I) (fun v s1 q => ?_) fun _ _ z => no z)
  obtain ⟨a, n1, fz1, as1, h1, le1, p1, I1, at1⟩ := q
  exact ⟨.ret a, m, n1, fz1, as1, h1, le1.lw, p1, I1, v, rfl, at1⟩
theorem ES_pass (h : P .next m n) : ES x m n (.Pass pos) P := fun s fz as I => wpAny_Pass ⟨.next, m, n, fz, as, h, .refl _, List.prefix_refl _, I, rfl⟩
theorem ES_assert {test : Expr} {msg : Option Expr} (h : TS x m n test (KAssert m P)) : ES x m n (.Assert test msg pos) P := fun s fz as I => by
  refine wpAny_Assert_holds (wpAny_mono (h s fz as I) (fun b s1 q => ?_) fun _ _ z => no z)
  obtain ⟨n1, fz1, as1, ⟨hb, h1⟩, le1, p1, I1⟩ := q
  exact ⟨hb, .next, m, n1, fz1, as1, h1, le1.lw, p1, I1, rfl⟩
end

/-! ### contracts -/
noncomputable def Room (A : Around) (k : Nat) : Prop := A.handled = none ∧ A.depth + k < recursionLimit ∧ A.units + 8 * k < cLine
theorem Room.le {A : Around} {k k' : Nat} (h : Room A k) (hk : k' ≤ k) : Room A k' := ⟨h.1, by have := h.2.1; omega, by have := h.2.2; omega⟩

noncomputable def fzx (fz : Frz) (h h' : Heap) : Frz := fun a => match fz a with
  | some o => some o
  | none => match h.get? a with
    | none => h'.get? a
    | some _ => none
theorem fzx_le (fz : Frz) (h h' : Heap) : fz.le (fzx fz h h') := fun a o e => by unfold fzx; rw [e]

noncomputable def ConAt (q : Prop) (w : World) (A : Around) (s : Shared) (fz : Frz) (vf : Value) (vs : List Value) (r : SV) : Prop :=
  ∀ Q : Value → Shared → Prop, (∀ h' g' tk v, Grow s.heap h' → TabAt s.heap h' → (¬ q → AllBare g') → (q → g' = s.gens ∧ ∀ o, s.heap.get? T0 = some o → h'.get? T0 = some o) → r.At (fzx fz s.heap h') [] v → Q v ⟨h', g', s.drawn, tk, s.os⟩) → wpAny (model pw w) A (call vf vs) Q noE s
/-- f called with args gives r; k frames at most; q: it is quiet -/
noncomputable def ConQ (q : Prop) (f : SV) (args : List SV) (r : SV) (k : Nat) : Prop :=
  ∀ w A s fz vf vs, Stat s.heap → TabOk s.heap → Room A k → (∀ a o, fz a = some o → s.heap.get? a = some o) → fz T0 = none → (¬ q → AllBare s.gens) → f.At fz [] vf → SV.AtL fz [] args vs → ConAt q w A s fz vf vs r
noncomputable abbrev Con (f : SV) (args : List SV) (r : SV) (k : Nat) : Prop := ConQ True f args r k

mutual
noncomputable def SV.pure : SV → Bool
  | .list xs => SV.pureL xs
  | .tup xs => SV.pureL xs
  | .ml _ => false
  | .app _ => false
  | _ => true
noncomputable def SV.pureL : List SV → Bool
  | [] => true
  | x :: xs => x.pure && SV.pureL xs
end
mutual
theorem SV.At.pure {fz : Frz} {as as' : List Addr} : ∀ (x : SV) {v : Value}, x.pure = true → x.At fz as v → x.At fz as' v
  | .unset, _, _, e => by simp only [SV.At] at e
  | .none, _, _, e => by simpa only [SV.At] using e
  | .bool b, _, _, e => by simpa only [SV.At] using e
  | .int i, _, _, e => by simpa only [SV.At] using e
  | .str x, _, _, e => by simpa only [SV.At] using e
  | .ty n, _, _, e => by simpa only [SV.At] using e
  | .bi n, _, _, e => by simpa only [SV.At] using e
  | .fn n, _, _, e => by simpa only [SV.At] using e
  | .list xs, _, h, e => by
    simp only [SV.At] at e ⊢
    obtain ⟨a, l, ep, e1, e2, e3⟩ := e
    exact ⟨a, l, ep, e1, e2, SV.AtL.pure xs (by simpa only [SV.pure] using h) e3⟩
  | .tup xs, _, h, e => by
    simp only [SV.At] at e ⊢
    obtain ⟨a, l, ep, e1, e2, e3⟩ := e
    exact ⟨a, l, ep, e1, e2, SV.AtL.pure xs (by simpa only [SV.pure] using h) e3⟩
  | .objv, _, _, e => by simpa only [SV.At] using e
  | .ml k, _, h, e => by simp [SV.pure] at h
  | .app k, _, h, e => by simp [SV.pure] at h
  | .sl _ _, _, _, e => by simpa only [SV.At] using e
  | .rng _, _, _, e => by simpa only [SV.At] using e
theorem SV.AtL.pure {fz : Frz} {as as' : List Addr} : ∀ (xs : List SV) {l : List Value}, SV.pureL xs = true → SV.AtL fz as xs l → SV.AtL fz as' xs l
  | [], _, _, e => by simpa only [SV.AtL] using e
  | x :: xs, _, h, e => by
    simp only [SV.AtL] at e ⊢
    simp only [SV.pureL, Bool.and_eq_true] at h
    obtain ⟨v, r, e1, e2, e3⟩ := e
    exact ⟨v, r, e1, SV.At.pure x h.1 e2, SV.AtL.pure xs h.2 e3⟩
end
theorem pureL_str (l : List (List Nat)) : SV.pureL (l.map .str) = true := by
  induction l with
  | nil => rfl
  | cons a r ih => simp [SV.pureL, SV.pure, ih]

section
variable {x : Cx} {m : Loc} {n : Mut} {P : SV → Mut → Prop}
theorem CL_conQ {q : Prop} {f r : SV} {args : List SV} {k : Nat} (hc : ConQ q f args r k) (hq : q ∨ ¬ x.os.q) (hR : Room x.A k) (hp : SV.pureL args = true) (hf : f.pure = true) (h : P r n) : CL x m n f args P := fun s fz as vf vs I ha hs => by
  refine hc x.w x.A s fz vf vs I.st I.tab.ok hR I.frz I.fzT (fun nq => hq.elim (fun h => absurd h nq) I.bare) (SV.At.pure f hf ha) (SV.AtL.pure args hp hs) _ fun h' g' tk v hg ht hb hquiet hr => ?_
  have le := fzx_le fz s.heap h'
  have old {b : Addr} (hb : b < s.heap.objs.size) (hx : ∃ o, s.heap.get? b = some o) : fzx fz s.heap h' b = fz b := by
    obtain ⟨o, e⟩ := hx
    unfold fzx
    cases q : fz b with
    | some o' => rfl
    | none => dsimp only; rw [e]
  have hLx : ∃ o, s.heap.get? x.env.locals = some o := let ⟨_, ⟨o, _, _, e, _⟩, _⟩ := I.loc; ⟨o, e⟩
  have hTx : ∃ o, s.heap.get? T0 = some o := let ⟨_, _, e⟩ := I.tab.ok; ⟨_, e⟩
  refine ⟨r, n, fzx fz s.heap h', as, h, le, List.prefix_refl _, ⟨I.stat, I.tab.trans ht, I.grow.trans hg, fun a o e => ?_, (old I.hT hTx).trans I.fzT, fun a o e => ?_, ?_, I.keys, (old I.L_lt hLx).trans I.fzL, I.newL, I.LT, I.len, I.nd, fun a ha => ?_, fun k a xs p q => ?_, ⟨I.os.1, I.os.2.1, fun xq => ?_⟩, fun nxq => ?_, fun y c e => let ⟨⟨o, v, h1, h2⟩, h3⟩ := I.cel y c e; ⟨⟨o, v, le _ _ h1, h2⟩, h3⟩⟩, SV.At.mono (.refl _) (List.nil_prefix) r hr⟩
  · unfold fzx at e
    cases q : fz a with
    | some o' =>
      rw [q] at e
      dsimp only at e
      cases e
      exact hg a _ (I.frz a _ q) fun z => by rw [z, I.fzT] at q; cases q
    | none =>
      rw [q] at e
      dsimp only at e
      cases q' : s.heap.get? a with
      | some o' => rw [q'] at e; cases e
      | none => rw [q'] at e; exact e
  · unfold fzx at e
    cases q : fz a with
    | some o' =>
      rw [q] at e
      dsimp only at e
      cases e
      exact I.frb a _ q
    | none =>
      right
      rw [q] at e
      dsimp only at e
      cases q' : s.heap.get? a with
      | some o' => rw [q'] at e; cases e
      | none =>
        cases q'' : x.base.get? a with
        | none => rfl
        | some o' =>
          by_cases hz : a = T0
          · obtain ⟨o, ho⟩ := hTx
            rw [hz, ho] at q'; cases q'
          · rw [I.grow a _ q'' hz] at q'; cases q'
  · obtain ⟨mv, hn, hm⟩ := I.loc
    exact ⟨mv, hg.ns hn I.LT, fun p hp => (hm p hp).imp id fun ⟨v, e1, e2⟩ => ⟨v, e1.le le, SV.At.mono le (List.prefix_refl _) _ e2⟩⟩
  · obtain ⟨p, q, r, t, u⟩ := I.own a ha
    have hx : ∃ o, s.heap.get? a = some o := by
      obtain ⟨i, hi⟩ := List.getElem?_of_mem ha
      have hi' : i < n.length := by rw [← I.len]; exact (List.getElem?_eq_some_iff.mp hi).1
      obtain ⟨l, ep, e, _⟩ := I.mls i a n[i] hi (List.getElem?_eq_getElem hi')
      exact ⟨_, e⟩
    refine ⟨(old u hx).trans p, q, r, t, ?_⟩
    obtain ⟨o, e⟩ := hx
    exact Heap.lt_size (hg a o e r)
  · obtain ⟨l, ep, r, t⟩ := I.mls k a xs p q
    exact ⟨l, ep, hg a _ r (I.own a (List.mem_of_getElem? p)).2.2.1, SV.AtL.mono le (List.prefix_refl _) _ t⟩
  · have hq' : q := hq.elim (fun h => h) fun h => absurd xq h
    obtain ⟨e1, e2⟩ := hquiet hq'
    obtain ⟨e3, e4⟩ := I.os.2.2 xq
    exact ⟨e1.trans e3, fun o e => e2 o (e4 o e)⟩
  · rcases Classical.em q with hq' | hq'
    · rw [show (⟨h', g', s.drawn, tk, s.os⟩ : Shared).gens = s.gens from (hquiet hq').1]; exact I.bare nxq
    · exact hb hq'
theorem CL_con {f r : SV} {args : List SV} {k : Nat} (hc : Con f args r k) (hR : Room x.A k) (hp : SV.pureL args = true) (hf : f.pure = true) (h : P r n) : CL x m n f args P := CL_conQ hc (.inl trivial) hR hp hf h
end

/-- what a def hands back: a list that it built no longer changes -/
noncomputable def out (n : Mut) : SV → SV
  | .ml k => .list (n.getD k [])
  | v => v

theorem zip_lookup {fz : Frz} : ∀ {ps : List Str} {args : List SV} {vs : List Value}, ps.Nodup → SV.AtL fz [] args vs → ∀ p ∈ ps.zip args, ∃ v, (ps.zip vs).lookup p.1 = some v ∧ p.2.At fz [] v
  | [], _, _, _, _, p, hp => by simp at hp
  | _ :: _, [], _, _, _, p, hp => by simp at hp
  | y :: ps, a :: args, vs, hn, h, p, hp => by
    simp only [SV.AtL] at h
    obtain ⟨v, r, rfl, h1, h2⟩ := h
    simp only [List.nodup_cons] at hn
    simp only [List.zip_cons_cons, List.mem_cons] at hp
    rcases hp with rfl | hp
    · exact ⟨v, by simp, h1⟩
    · obtain ⟨u, e1, e2⟩ := zip_lookup hn.2 h2 p hp
      refine ⟨u, ?_, e2⟩
      have : (p.1 == y) = false := by
        simp only [beq_eq_false_iff_ne, ne_eq]
        rintro rfl
        exact hn.1 (List.of_mem_zip hp).1
      simp [List.lookup, this, e1]
theorem lookup_rev {α : Type} : ∀ {l : List (Str × α)} {y : Str} {v : α}, (l.map (·.1)).Nodup → l.lookup y = some v → l.reverse.lookup y = some v
  | [], _, _, _, h => by simp at h
  | (z, u) :: l, y, v, hn, h => by
    simp only [List.map_cons, List.nodup_cons] at hn
    rw [List.reverse_cons, List.lookup_append]
    by_cases e : y = z
    · subst e
      simp at h; subst h
      have : l.reverse.lookup y = none := by
        rw [List.lookup_eq_none_iff]
        intro p hp
        simp only [List.mem_reverse] at hp
        have q := hn.1
        by_cases z : (y == p.1) = true
        · have z' := eq_of_beq z
          subst z'
          exact absurd (List.mem_map_of_mem hp) q
        · simpa using z
      simp [this]
    · have e' : (y == z) = false := by simpa using e
      simp [List.lookup, e'] at h
      rw [lookup_rev hn.2 h]; rfl

end Mine

namespace Mine
open Calls

/-! ### cutting -/
noncomputable def clipN (n d : Nat) : Option Int → Nat
  | none => d
  | some i => (max 0 (min (if i < 0 then i + n else i) (n : Int))).toNat
noncomputable def cut {α : Type} (l : List α) (lo hi : Option Int) : List α := (l.drop (clipN l.length 0 lo)).take (clipN l.length l.length hi - clipN l.length 0 lo)
theorem clipN_le {n d : Nat} (hd : d ≤ n) (i : Option Int) : clipN n d i ≤ n := by
  cases i with
  | none => exact hd
  | some i => unfold clipN; dsimp only; split <;> omega
theorem indices_eq (lo hi : Option Int) (n : Nat) : Builtin.Str.strSliceIndices lo hi 1 n = (List.range (clipN n n hi - clipN n 0 lo)).map (fun k => clipN n 0 lo + k) := by
  have key : ∀ a b : Nat, sliceRange (a : Int) (b : Int) 1 = (List.range (b - a)).map (fun k => a + k) := by
    intro a b
    unfold sliceRange
    have e : (if (1 : Int) > 0 then (if (a : Int) < b then ((b : Int) - a + 1 - 1) / 1 else 0) else if (a : Int) > b then ((a : Int) - b - 1 - 1) / (-1) else 0).toNat = b - a := by
      rw [if_pos (by decide)]
      split <;> omega
    dsimp only
    rw [e]
    refine List.map_congr_left fun k _ => ?_
    omega
  have cl : ∀ (i : Option Int) (d : Nat), (match i with | none => ((d : Nat) : Int) | some i => if (1 : Int) > 0 then max 0 (min (if i < 0 then i + (n : Int) else i) (n : Int)) else max (-1) (min (if i < 0 then i + (n : Int) else i) ((n : Int) - 1))) = ((clipN n d i : Nat) : Int) := by
    intro i d
    cases i with
    | none => rfl
    | some i => unfold clipN; dsimp only; rw [if_pos (by decide)]; omega
  have c1 := cl lo 0
  have c2 := cl hi n
  unfold Builtin.Str.strSliceIndices
  rw [← key, ← c1, ← c2]
  cases lo <;> cases hi <;> rfl
theorem picked_eq (l : List Nat) (lo hi : Option Int) : (Builtin.Str.strSliceIndices lo hi 1 l.length).filterMap (l[·]?) = cut l lo hi := by
  rw [indices_eq]
  unfold cut
  have h1 := clipN_le (Nat.zero_le l.length) lo
  have h2 := clipN_le (Nat.le_refl l.length) hi
  exact StrLaws.picks l _ _ (by omega)

section
variable {x : Cx} {m : Loc} {n : Mut} {P : SV → Mut → Prop}

theorem app_eq (a b : List Nat) : (⟨⟨a⟩⟩ : Str) ++ ⟨⟨b⟩⟩ = ⟨⟨a ++ b⟩⟩ := congrArg Str.mk (by simp)
theorem at_str {l : List Nat} {fz : Frz} {as : List Addr} (t : Tok) : (SV.str l).At fz as (.str ⟨⟨l⟩⟩ t) := by simp only [SV.At]; exact ⟨t, rfl⟩
theorem at_int {i : Int} {fz : Frz} {as : List Addr} (t : Tok) : (SV.int i).At fz as (.int i t) := by simp only [SV.At]; exact ⟨t, rfl⟩
theorem at_bool {b : Bool} {fz : Frz} {as : List Addr} : (SV.bool b).At fz as (.bool b) := by simp only [SV.At]

theorem OP2_add_int {a b : Int} (h : P (.int (a + b)) n) : OP2 x m n (.int a) (.int b) (binaryOp .Add) P := fun s fz as va vb I ha hb => by
  simp only [SV.At] at ha hb; obtain ⟨t, rfl⟩ := ha; obtain ⟨u, rfl⟩ := hb
  exact PySem.P.add_int ((I.toks _).post (at_int _) h)
theorem OP2_sub_int {a b : Int} (h : P (.int (a - b)) n) : OP2 x m n (.int a) (.int b) (binaryOp .Sub) P := fun s fz as va vb I ha hb => by
  simp only [SV.At] at ha hb; obtain ⟨t, rfl⟩ := ha; obtain ⟨u, rfl⟩ := hb
  exact PySem.P.sub_int ((I.toks _).post (at_int _) h)
theorem OP2_mod_int {a b : Int} (hb0 : b ≠ 0) (h : P (.int (a.fmod b)) n) : OP2 x m n (.int a) (.int b) (binaryOp .Mod) P := fun s fz as va vb I ha hb => by
  simp only [SV.At] at ha hb; obtain ⟨t, rfl⟩ := ha; obtain ⟨u, rfl⟩ := hb
  exact mod_int' hb0 ((I.toks _).post (at_int _) h)
theorem OP2_div_int {a b : Int} (hb0 : b ≠ 0) (hp : Builtin.divisionGoesByPylong a b = false) (h : P (.int (a.fdiv b)) n) : OP2 x m n (.int a) (.int b) (binaryOp .FloorDiv) P := fun s fz as va vb I ha hb => by
  simp only [SV.At] at ha hb; obtain ⟨t, rfl⟩ := ha; obtain ⟨u, rfl⟩ := hb
  exact floordiv_int hb0 ((I.toks _).post (at_int _) h) (.inl hp)
theorem OP2_lt_int {a b : Int} (h : P (.bool (decide (a < b))) n) : OP2 x m n (.int a) (.int b) (compareOp .Lt) P := fun s fz as va vb I ha hb => by
  simp only [SV.At] at ha hb; obtain ⟨t, rfl⟩ := ha; obtain ⟨u, rfl⟩ := hb
  exact PySem.P.lt_int (I.post at_bool h)
theorem OP2_le_int {a b : Int} (h : P (.bool (decide (a ≤ b))) n) : OP2 x m n (.int a) (.int b) (compareOp .LtE) P := fun s fz as va vb I ha hb => by
  simp only [SV.At] at ha hb; obtain ⟨t, rfl⟩ := ha; obtain ⟨u, rfl⟩ := hb
  exact PySem.P.le_int (I.post at_bool h)
theorem OP2_gt_int {a b : Int} (h : P (.bool (decide (a > b))) n) : OP2 x m n (.int a) (.int b) (compareOp .Gt) P := fun s fz as va vb I ha hb => by
  simp only [SV.At] at ha hb; obtain ⟨t, rfl⟩ := ha; obtain ⟨u, rfl⟩ := hb
  exact PySem.P.gt_int (I.post at_bool h)
theorem OP2_ge_int {a b : Int} (h : P (.bool (decide (a ≥ b))) n) : OP2 x m n (.int a) (.int b) (compareOp .GtE) P := fun s fz as va vb I ha hb => by
  simp only [SV.At] at ha hb; obtain ⟨t, rfl⟩ := ha; obtain ⟨u, rfl⟩ := hb
  exact PySem.P.ge_int (I.post at_bool h)
theorem OP2_eq_int {a b : Int} (h : P (.bool (decide (a = b))) n) : OP2 x m n (.int a) (.int b) (compareOp .Eq) P := fun s fz as va vb I ha hb => by
  simp only [SV.At] at ha hb; obtain ⟨t, rfl⟩ := ha; obtain ⟨u, rfl⟩ := hb
  exact PySem.P.eq_int (I.post (show (SV.bool (decide (a = b))).At _ _ (.bool (a == b)) from at_bool) h)
theorem OP1_neg_int {a : Int} (h : P (.int (-a)) n) : OP1 x m n (.int a) (unaryOp .USub) P := fun s fz as va I ha => by
  simp only [SV.At] at ha; obtain ⟨t, rfl⟩ := ha
  exact PySem.P.neg_int ((I.toks _).post (at_int _) h)

theorem OP2_add_str {a b : List Nat} (h : P (.str (a ++ b)) n) (hs : a.length + b.length ≤ 1000000) : OP2 x m n (.str a) (.str b) (binaryOp .Add) P := fun s fz as va vb I ha hb => by
  simp only [SV.At] at ha hb; obtain ⟨t, rfl⟩ := ha; obtain ⟨u, rfl⟩ := hb
  exact SB.add (fun t' k => (I.toks _).post (sv := .str (a ++ b)) (by rw [app_eq]; exact at_str t') h) (Nat.le_trans hs (by decide))
theorem OP2_iadd_str {a b : List Nat} (h : P (.str (a ++ b)) n) (hs : a.length + b.length ≤ 1000000) : OP2 x m n (.str a) (.str b) (inplaceOp .Add) P := fun s fz as va vb I ha hb => by
  simp only [SV.At] at ha hb; obtain ⟨t, rfl⟩ := ha; obtain ⟨u, rfl⟩ := hb
  exact SB.iadd (fun t' k => (I.toks _).post (sv := .str (a ++ b)) (by rw [app_eq]; exact at_str t') h) (Nat.le_trans hs (by decide))
theorem OP2_eq_str {a b : List Nat} (h : P (.bool (decide (a = b))) n) : OP2 x m n (.str a) (.str b) (compareOp .Eq) P := fun s fz as va vb I ha hb => by
  simp only [SV.At] at ha hb; obtain ⟨t, rfl⟩ := ha; obtain ⟨u, rfl⟩ := hb
  refine PySem.P.eq_str (I.post (sv := .bool (decide (a = b))) ?_ h)
  have : (a == b) = decide (a = b) := by rw [Bool.eq_iff_iff]; simp
  show SV.At _ _ _ (.bool (a == b))
  rw [this]; exact at_bool
theorem OP2_ne_str {a b : List Nat} (h : P (.bool (!decide (a = b))) n) : OP2 x m n (.str a) (.str b) (compareOp .NotEq) P := fun s fz as va vb I ha hb => by
  simp only [SV.At] at ha hb; obtain ⟨t, rfl⟩ := ha; obtain ⟨u, rfl⟩ := hb
  refine PySem.P.ne_str (I.post (sv := .bool (!decide (a = b))) ?_ h)
  have : (a == b) = decide (a = b) := by rw [Bool.eq_iff_iff]; simp
  show SV.At _ _ _ (.bool (!(a == b)))
  rw [this]; exact at_bool

/-- a text repeated -/
noncomputable def rep (a : List Nat) (k : Nat) : List Nat := (List.replicate k a).flatten
theorem foldl_app (l : List (Array Nat)) : ∀ acc : Array Nat, (l.foldl (· ++ ·) acc).toList = acc.toList ++ (l.map Array.toList).flatten := by
  induction l with
  | nil => intro acc; simp
  | cons a r ih => intro acc; rw [List.foldl_cons, ih]; simp
theorem mul_eq (a : List Nat) (k : Int) (h : 0 ≤ k) : Txt.mul ⟨⟨a⟩⟩ k = ⟨⟨rep a k.toNat⟩⟩ := by
  unfold Txt.mul rep
  split
  · have : k = 0 := by omega
    subst this; rfl
  · split
    · rename_i hk
      simp only [Bool.or_eq_true, beq_iff_eq] at hk
      rcases hk with rfl | hk
      · simp
      · have : a = [] := by
          have : a.length = 0 := hk
          exact List.length_eq_zero_iff.mp this
        subst this; simp
    · congr 1
      apply Array.toList_inj.mp
      rw [foldl_app]; simp
theorem OP2_mul_str {a : List Nat} {k : Int} (h0 : 0 ≤ k) (hs : a.length * k.toNat ≤ 1000000) (hk : k ≤ 1000000) (h : P (.str (rep a k.toNat)) n) : OP2 x m n (.str a) (.int k) (binaryOp .Mult) P := fun s fz as va vb I ha hb => by
  simp only [SV.At] at ha hb; obtain ⟨t, rfl⟩ := ha; obtain ⟨u, rfl⟩ := hb
  refine SB.mul ⟨?_, fun h1 h2 => ?_, fun h1 h2 => ?_⟩ fun t' tk => ?_
  · have h1 : ¬ k < -(2 ^ 63 : Int) := by omega
    have h2 : ¬ k ≥ (2 ^ 63 : Int) := by omega
    rw [decide_eq_false h1, decide_eq_false h2]; rfl
  · show ¬ ((a.length : Int) > (2 ^ 63 - 1) / k)
    have hk0 : 0 < k := by omega
    have : (a.length : Int) * k ≤ 1000000 := by
      have e : (a.length : Int) * k = ((a.length * k.toNat : Nat) : Int) := by rw [Int.natCast_mul, Int.toNat_of_nonneg h0]
      rw [e]
      exact Int.ofNat_le.mpr hs
    have h3 : (a.length : Int) ≤ (2 ^ 63 - 1) / k := by
      rw [Int.le_ediv_iff_mul_le hk0]; omega
    omega
  · show Builtin.Str.tooLong (a.length * k.toNat) = false
    have h4 : (1000000 : Nat) ≤ sizeLine := by decide
    exact decide_eq_false (by show ¬ (a.length * k.toNat > sizeLine); exact Nat.not_lt.mpr (Nat.le_trans hs h4))
  · rw [mul_eq a k h0]
    exact (I.toks _).post (at_str t') h

theorem CL_len_str {a : List Nat} (hs : a.length ≤ 1000000) (h : P (.int a.length) n) : CL x m n (.bi "len") [.str a] P := fun s fz as vf vs I hf ha => by
  simp only [SV.At] at hf; subst hf
  simp only [SV.AtL] at ha; obtain ⟨v, r, rfl, hv, rfl⟩ := ha
  simp only [SV.At] at hv; obtain ⟨t, rfl⟩ := hv
  refine len_str (x := ⟨⟨a⟩⟩) (by show ¬ ((a.length : Int) ≥ 2 ^ 63); omega) ((I.toks _).post (sv := .int a.length) (at_int _) h)

noncomputable abbrev KPart (K : Option Int → Mut → Prop) (v : SV) (n1 : Mut) : Prop := ∃ i, v = SV.int i ∧ K (some i) n1
/-- a bound of a slice -/
noncomputable def Part (x : Cx) (m : Loc) (n : Mut) (e : Option Expr) (K : Option Int → Mut → Prop) : Prop := match e with
  | none => K none n
  | some e => EV x m n e (KPart K)
noncomputable abbrev KSl2 (P : SV → Mut → Prop) (l : Option Int) (u : Option Int) (n2 : Mut) : Prop := P (.sl l u) n2
noncomputable abbrev KSl (x : Cx) (m : Loc) (hi : Option Expr) (P : SV → Mut → Prop) (l : Option Int) (n1 : Mut) : Prop := Part x m n1 hi (KSl2 P l)
/-- an index that is a slice -/
theorem EV_slice {lo hi : Option Expr} {p : Pos} (h : Part x m n lo (KSl x m hi P)) : EV x m n (.Slice lo hi none p) P := fun s fz as I => by
  have part : ∀ (e : Option Expr) (n : Mut) (s : Shared) (fz : Frz) (as : List Addr) (K : Option Int → Mut → Prop), Iv x m n fz as s → Part x m n e K →
      Run x (evalPart e x.env) (fun v s' => ∃ o n' fz' as', v = partValue o ∧ K (o.map (·.1)) n' ∧ fz.le fz' ∧ as <+: as' ∧ Iv x m n' fz' as' s') s := by
    intro e n s fz as K I h
    cases e with
    | none => rw [evalPart_none]; exact wpAny_pure ⟨none, n, fz, as, rfl, h, .refl _, List.prefix_refl _, I⟩
    | some e =>
      rw [evalPart_some]
      refine wpAny_mono (h s fz as I) (fun v s1 q => ?_) fun _ _ z => z
      obtain ⟨sv, n1, fz1, as1, ⟨i, rfl, hK⟩, le1, p1, I1, at1⟩ := q
      simp only [SV.At] at at1
      obtain ⟨t, rfl⟩ := at1
      exact ⟨some (i, t), n1, fz1, as1, rfl, hK, le1, p1, I1⟩
  refine wpAny_Slice (wpAny_mono (part lo n s fz as _ I h) (fun vl s1 q => ?_) fun _ _ z => z)
  obtain ⟨l, n1, fz1, as1, rfl, h1, le1, p1, I1⟩ := q
  refine wpAny_mono (part hi n1 s1 fz1 as1 _ I1 h1) (fun vu s2 q => ?_) fun _ _ z => z
  obtain ⟨u, n2, fz2, as2, rfl, h2, le2, p2, I2⟩ := q
  rw [evalPart_none]
  refine wpAny_pure ?_
  obtain ⟨I3, le3⟩ := I2.freeze { cls := .type "slice", data := .fields #[partValue l, partValue u, .none] } rfl
  refine ⟨_, n2, _, as2, h2, (le1.trans le2).trans le3, p1.trans p2, I3, ?_⟩
  simp only [SV.At]
  exact ⟨_, l, u, rfl, rfl, rfl, Frz.add_self _ _ _⟩

theorem tail_gen {value slice : Expr} {o i : Value} {T id : String} {s : Shared} {Q : Value → Shared → Prop} (hT : s.TypeIs o T) (hl : typeLookup (.type T) "__getitem__" = pure (some (.builtin id))) (h : Run x (getItem o i) Q s) :
    Run x (subscriptTail value slice o i) Q s := by
  unfold subscriptTail
  refine wpAny_bind ?_
  rw [getitemInPython_of_ne hT.not_modules]
  refine wpAny_bind (wpAny_specialOf hT hl ?_)
  have fin : Run x (subscripted slice false o i) (fun r s₃ => wpAny (model pw x.w) x.A (letTemporaryGo value o r >>= fun _ => pure r) Q noE s₃) s := by
    have : subscripted slice false o i = operate [i, o] (getItem o i) ∨ subscripted slice false o i = operate [o, i] (getItem o i) := by
      unfold subscripted
      split <;> first | exact .inl rfl | exact .inr rfl | simp_all
    rcases this with e | e <;> rw [e] <;> exact wpAny_operating (wpAny_mono h (fun r s₃ h₃ => wpAny_bind (wpAny_letTemporaryGo (wpAny_pure h₃))) fun _ _ x => x)
  first
    | exact wpAny_pure (wpAny_bind fin)
    | exact wpAny_bind (wpAny_pure (wpAny_bind fin))
    | exact wpAny_bind fin
theorem EV_sub {value slice : Expr} {pos : Pos} (h : EV x m n value (K2L x m slice (subscriptTail value slice) P)) : EV x m n (.Subscript value slice pos) P := fun s fz as I => by
  refine Subscript_ (wpAny_mono (h s fz as I) (fun va s1 q => ?_) fun _ _ z => no z)
  obtain ⟨a, n1, fz1, as1, h1, le1, p1, I1, at1⟩ := q
  refine wpAny_mono (h1 s1 fz1 as1 I1) (fun vb s2 q => ?_) fun _ _ z => no z
  obtain ⟨b, n2, fz2, as2, h2, le2, p2, I2, at2⟩ := q
  exact wpAny_mono (h2 s2 fz2 as2 va vb I2 (SV.At.mono le2 p2 a at1) at2) (fun _ _ z => z.weak (le1.trans le2) (p1.trans p2)) fun _ _ z => z

theorem cut_str_raw {value slice : Expr} {a : List Nat} {t : Tok} {b : Addr} {l u : Option (Int × Tok)} {s : Shared} {Q : Value → Shared → Prop} (he : s.heap.get? b = some { cls := .type "slice", data := .fields #[partValue l, partValue u, .none] }) (hs : a.length ≤ 1000000)
    (h : ∀ t' tk, Q (.str ⟨⟨cut a (l.map (·.1)) (u.map (·.1))⟩⟩ t') { s with toks := tk }) : Run x (subscriptTail value slice (.str ⟨⟨a⟩⟩ t) (.ref b)) Q s := by
  refine tail_gen (typeIs_str _ _ _) F.slot_str_getitem.lookup (wpAny_getItem_str_slice (l := l) (u := u) (st := none) ⟨_, he, rfl, rfl⟩ rfl ?_)
  have key : (slicePicked ⟨⟨a⟩⟩ l u none).filterMap ((⟨⟨a⟩⟩ : Str).cps[·]?) = cut a (l.map (·.1)) (u.map (·.1)) := by
    have : (fun i : Nat => (⟨⟨a⟩⟩ : Str).cps[i]?) = fun i => a[i]? := by
      funext i
      show (a.toArray)[i]? = a[i]?
      simp
    rw [this]; exact picked_eq a _ _
  unfold sliceMade
  split
  · rename_i hc
    simp only [Bool.and_eq_true, beq_iff_eq] at hc
    have : cut a (l.map (·.1)) (u.map (·.1)) = a := by
      have hl : (slicePicked ⟨⟨a⟩⟩ l u none).length = a.length := hc.2
      have e2 : (slicePicked ⟨⟨a⟩⟩ l u none) = Builtin.Str.strSliceIndices (l.map (·.1)) (u.map (·.1)) 1 a.length := rfl
      rw [e2, indices_eq] at hl
      simp only [List.length_map, List.length_range] at hl
      unfold cut
      have h1 := clipN_le (Nat.zero_le a.length) (l.map (·.1))
      have h2 := clipN_le (Nat.le_refl a.length) (u.map (·.1))
      have h3 : clipN a.length 0 (l.map (·.1)) = 0 := by omega
      rw [hl, h3]; simp
    have h' := h t s.toks
    rw [this] at h'; exact h'
  · rw [key]
    refine ⟨?_, h _ _⟩
    refine Nat.le_trans (m := a.length) ?_ (Nat.le_trans hs (by decide))
    show (cut a (l.map (·.1)) (u.map (·.1))).toArray.size ≤ _
    simp only [List.size_toArray, cut, List.length_take, List.length_drop]; omega
theorem OP2_cut_str {value slice : Expr} {a : List Nat} {lo hi : Option Int} (hs : a.length ≤ 1000000) (h : P (.str (cut a lo hi)) n) : OP2 x m n (.str a) (.sl lo hi) (subscriptTail value slice) P := fun s fz as va vb I ha hb => by
  simp only [SV.At] at ha hb; obtain ⟨t, rfl⟩ := ha; obtain ⟨b, l, u, rfl, rfl, rfl, e⟩ := hb
  exact cut_str_raw (I.frz _ _ e) hs fun t' tk => (I.toks _).post (at_str _) h
theorem OP2_item_str {value slice : Expr} {a : List Nat} {i : Int} {c : Nat} (h0 : 0 ≤ i) (hc : a[i.toNat]? = some c) (hi : i ≤ 1000000) (h : P (.str [c]) n) : OP2 x m n (.str a) (.int i) (subscriptTail value slice) P := fun s fz as va vb I ha hb => by
  simp only [SV.At] at ha hb; obtain ⟨t, rfl⟩ := ha; obtain ⟨u, rfl⟩ := hb
  refine tail_gen (typeIs_str _ _ _) F.slot_str_getitem.lookup (getItem_str (x := ⟨⟨a⟩⟩) (c := c) ?_ ?_ ((I.toks _).post (at_str _) h))
  · have h1 : ¬ i < -(2 ^ 63 : Int) := by omega
    have h2 : ¬ i ≥ (2 ^ 63 : Int) := by omega
    rw [decide_eq_false h1, decide_eq_false h2]; rfl
  · have hlt := (List.getElem?_eq_some_iff.mp hc).1
    have : seqIndex? i (⟨⟨a⟩⟩ : Str).length = some i.toNat := by
      show seqIndex? i a.length = _
      unfold seqIndex?
      have e : (if i < 0 then i + (a.length : Int) else i) = i := if_neg (by omega)
      simp only [e]
      have c : (decide (0 ≤ i) && decide (i < (a.length : Int))) = true := by
        rw [decide_eq_true h0, decide_eq_true (by omega)]; rfl
      rw [if_pos c]
    rw [this]
    show (a.toArray)[i.toNat]? = some c
    simpa using hc
end
end Mine
namespace Mine
section
variable {x : Cx} {m : Loc} {n : Mut}
theorem put_intro {y : Str} {a : SV} {m m' : Loc} {Q : Loc → Prop} (hp : Put y a m m') (h : Q m') : ∃ m', Put y a m m' ∧ Q m' := ⟨m', hp, h⟩
theorem TR_dec {c : Prop} [Decidable c] {P : Bool → Mut → Prop} (h1 : c → P true n) (h2 : ¬ c → P false n) : TR x m n (.bool (decide c)) P := by
  by_cases hc : c
  · rw [decide_eq_true hc]; exact TR_bool (h1 hc)
  · rw [decide_eq_false hc]; exact TR_bool (h2 hc)
theorem TR_ndec {c : Prop} [Decidable c] {P : Bool → Mut → Prop} (h1 : c → P false n) (h2 : ¬ c → P true n) : TR x m n (.bool (!decide c)) P := by
  by_cases hc : c
  · rw [decide_eq_true hc]; exact TR_bool (h1 hc)
  · rw [decide_eq_false hc]; exact TR_bool (h2 hc)
end
end Mine

namespace Mine
open Calls Builtin

set_option maxRecDepth 100000 in
set_option maxHeartbeats 8000000 in
theorem pct_meets (a c : Str) (k : Int) (ta tk tc t : Tok) (b : Addr) (h0 : 0 ≤ k) (h1 : k < 10 ^ 10) (ha : a.length ≤ 100000) (hc : c.length ≤ 100000) :
    Meets («str.__mod__» ⟨[.str (Str.mk #[37, 115, 91, 37, 100, 32, 99, 104, 97, 114, 115, 93, 37, 115]) t, .ref b], []⟩)
      (fun _ R s => IsTup s.heap b #[.str a ta, .int k tk, .str c tc] ∧ ∀ t' k', R (.ok (.ret (.str (a ++ Str.ofString "[" ++ Str.ofString (toString k) ++ Str.ofString " chars]" ++ c) t'))) { s with toks := k' }) := by
  have ha' : a.length ≤ 1000000 := by omega
  have hc' : c.length ≤ 1000000 := by omega
  kpt_run

/-- a number's figures -/
noncomputable def decI (k : Int) : List Nat := (Str.ofString (toString k)).cps.toList
theorem decI_eq (k : Int) : Str.ofString (toString k) = ⟨⟨decI k⟩⟩ := rfl
theorem decI_len {k : Int} (h0 : 0 ≤ k) (h1 : k < 10 ^ 10) : (decI k).length ≤ 10 := by
  have := toString_length_le (k := 10) h0 (by decide) h1
  rw [show (decI k).length = (Str.ofString (toString k)).length from Array.length_toList]; exact this
noncomputable def tx (s : String) : List Nat := (Str.ofString s).cps.toList
theorem tx_eq (s : String) : Str.ofString s = ⟨⟨tx s⟩⟩ := rfl

theorem OP2_pct {x : Cx} {m : Loc} {n : Mut} {P : SV → Mut → Prop} {f a c : List Nat} {k : Int} (hf : f = tx "%s[%d chars]%s") (h0 : 0 ≤ k) (h1 : k < 10 ^ 10) (ha : a.length ≤ 100000) (hc : c.length ≤ 100000)
    (h : P (.str (a ++ tx "[" ++ decI k ++ tx " chars]" ++ c)) n) : OP2 x m n (.str f) (.tup [.str a, .int k, .str c]) (binaryOp .Mod) P := fun s fz as va vb I hva hvb => by
  simp only [SV.At] at hva hvb; obtain ⟨t, rfl⟩ := hva; obtain ⟨b, l, ep, rfl, e, hl⟩ := hvb
  simp only [SV.AtL, SV.At] at hl
  obtain ⟨_, _, rfl, ⟨ta, rfl⟩, _, _, rfl, ⟨tk, rfl⟩, _, _, rfl, ⟨tc, rfl⟩, rfl⟩ := hl
  have hX : (⟨⟨f⟩⟩ : Str) = Str.mk #[37, 115, 91, 37, 100, 32, 99, 104, 97, 114, 115, 93, 37, 115] := by
    rw [hf, ← tx_eq]; decide +kernel
  have ht : IsTup s.heap b #[.str ⟨⟨a⟩⟩ ta, .int k tk, .str ⟨⟨c⟩⟩ tc] := ⟨_, I.frz _ _ e, rfl, ep, rfl⟩
  have hT : s.TypeIs (.ref b) "tuple" := ⟨_, I.frz _ _ e, rfl⟩
  rw [hX]
  refine KPt.bin_left (T := "str") (U := "tuple") (op := .Mod) (by decide) (typeIs_str s _ t) hT F.fills_str_mod KPt.fills_tuple F.slot_str_mod
    (call_meets F.slot_str_mod (typeIs_str s _ t) F.entry_str_mod (F.args_str_mod_2 _ _) (pct_meets ⟨⟨a⟩⟩ ⟨⟨c⟩⟩ k ta tk tc t b h0 h1 ha hc) ⟨ht, fun t' k' => ⟨(fun e => nomatch e), ?_⟩⟩)
  refine (I.toks _).post (sv := .str (a ++ tx "[" ++ decI k ++ tx " chars]" ++ c)) ?_ h
  rw [decI_eq, tx_eq, tx_eq, app_eq, app_eq, app_eq, app_eq]
  exact at_str _
end Mine

namespace Mine
open Calls

section
variable {x : Cx} {m : Loc} {n : Mut} {P : SV → Mut → Prop} {pos : Pos}

theorem plain_backTo {x : Cx} {pos : Pos} : ∀ es : List Expr, es.all isPlainArg = true → (backTo pos (starEach es x.env)).any (·.1) = false := by
  intro es
  induction es with
  | nil => intro _; rfl
  | cons e r ih =>
    intro h
    simp only [List.all_cons, Bool.and_eq_true] at h
    have : backTo pos (starEach (e :: r) x.env) = (false, eval e x.env) :: backTo pos (starEach r x.env) := by
      cases e <;> first | rfl | simp [isPlainArg] at h
    rw [this, List.any_cons, ih h.2]; rfl

/-- a built-in method's call, its object ahead -/
theorem callWith_meth {id : String} {r : SV} {vr : Value} {es : List Expr} {s : Shared} {fz : Frz} {as : List Addr} (I : Iv x m n fz as s) (hr : r.At fz as vr)
    (h : EVs x m n es (fun args n1 => CL x m n1 (.bi id) (r :: args) P)) (hl : es.all isPlainArg = true) : Run x (callWith pos (.builtin id) [vr] (backTo pos (starEach es x.env)) []) (Post x m fz as P) s := by
  have key : wpAny (model pw x.w) x.A (spliced (backTo pos (starEach es x.env))) (fun vs s1 => wpAny (model pw x.w) x.A (call (.builtin id) ([vr] ++ vs)) (Post x m fz as P) noE s1) noE s := by
    refine wpAny_mono (h pos s fz as I) (fun vs s1 q => ?_) fun _ _ z => no z
    obtain ⟨l, n1, fz1, as1, h1, le1, p1, I1, at1⟩ := q
    exact wpAny_mono (h1 s1 fz1 as1 (.builtin id) (vr :: vs) I1 (by simp only [SV.At]) (.cons (SV.At.mono le1 p1 r hr) at1)) (fun _ _ z => z.weak le1 p1) fun _ _ z => z
  have hp := plain_backTo (x := x) (pos := pos) es hl
  revert key hp
  unfold callWith
  intro key hp
  refine wpAny_bind (wpAny_holding ?_)
  have ev : wpAny (model pw x.w) x.A (evalArgs (.builtin id) true (backTo pos (starEach es x.env)) []) (fun a s1 => wpAny (model pw x.w) x.A (call (.builtin id) ([vr] ++ a.pos) a.kw) (Post x m fz as P) noE s1) noE s := by
    cases hb : backTo pos (starEach es x.env) with
    | nil =>
      rw [hb] at key
      unfold evalArgs
      show wpAny _ _ (spliced [] >>= _) _ _ s
      refine wpAny_bind (wpAny_mono key (fun vs s' h' => ?_) fun _ _ z => z)
      refine wpAny_bind (wpAny_pure ?_)
      refine wpAny_holding ?_
      exact wpAny_bind (wpAny_pure (wpAny_bind (wpAny_pure (wpAny_pure h'))))
    | cons y r =>
      rw [hb] at key hp
      obtain ⟨b, t⟩ := y
      simp only [List.any_cons, Bool.or_eq_false_iff] at hp
      obtain ⟨rfl, _⟩ := hp
      exact evalArgs_plain key
  refine wpAny_mono ev (fun a s1 q => wpAny_bind (wpAny_standAt ?_)) fun _ _ z => no z
  have L : Looks (model pw x.w) s1.heap (keeperOf (.builtin id)) .machine := .now
  simp only [hp, List.any_nil, Bool.or_false]
  refine wpAny_bind (L.here ?_)
  have tail : ∀ {t : Sem Value}, wpAny (model pw x.w) x.A t (Post x m fz as P) noE s1 → wpAny (model pw x.w) x.A (t >>= fun r => holding [r] point >>= fun _ => pure r) (Post x m fz as P) noE s1 :=
    fun ht => wpAny_bind (wpAny_mono ht (fun r s₂ hr => wpAny_bind (wpAny_holding (wpAny_point (wpAny_pure hr)))) fun _ _ x => x)
  have marked (mk : Value) : wpAny (model pw x.w) x.A (callMarked mk (.builtin id) ([vr] ++ a.pos) a.kw) (Post x m fz as P) noE s1 := by unfold callMarked; exact Calls.wpAny_keep q
  dsimp only; first | exact tail q | (split <;> first | exact tail q | exact tail (marked _))

/-- an object's type, for its methods -/
noncomputable def SV.ty? : SV → Option String
  | .str _ => some "str"
  | .ml _ => some "list"
  | .list _ => some "list"
  | _ => Option.none
theorem at_ty {r : SV} {T : String} {fz : Frz} {as : List Addr} {s : Shared} {v : Value} (I : Iv x m n fz as s) (h : r.At fz as v) (e : r.ty? = some T) :
    s.TypeIs v T ∧ ∀ a, v = .ref a → ∃ ob, s.heap.get? a = some ob ∧ ob.dict = Option.none := by
  cases r <;> simp only [SV.ty?, Option.some.injEq, reduceCtorEq] at e <;> subst e
  · simp only [SV.At] at h; obtain ⟨t, rfl⟩ := h
    exact ⟨typeIs_str _ _ _, fun _ z => nomatch z⟩
  · simp only [SV.At] at h; obtain ⟨a, l, ep, rfl, ho, _⟩ := h
    have ho := I.frz _ _ ho
    refine ⟨⟨_, ho, rfl⟩, fun a' z => ?_⟩
    cases z; exact ⟨_, ho, rfl⟩
  · simp only [SV.At] at h; obtain ⟨a, rfl, hk⟩ := h
    rename_i k
    have hk' : k < n.length := by rw [← I.len]; exact (List.getElem?_eq_some_iff.mp hk).1
    obtain ⟨l, ep, ho, hl'⟩ := I.mls k a n[k] hk (List.getElem?_eq_getElem hk')
    refine ⟨⟨_, ho, rfl⟩, fun a' z => ?_⟩
    cases z; exact ⟨_, ho, rfl⟩

structure Meth (T : String) (name : Str) (id : String) : Prop where
  pa : PlainAttrs T
  slot : Slot T name id
  ty : typeOf (.builtin id) = pure (.type "method_descriptor")
theorem m_startswith : Meth "str" "startswith" "str.startswith" := ⟨F.plainAttrs_str, F.slot_str_startswith, F.type_str_startswith⟩
theorem m_endswith : Meth "str" "endswith" "str.endswith" := ⟨F.plainAttrs_str, F.slot_str_endswith, F.type_str_endswith⟩
theorem m_rfind : Meth "str" "rfind" "str.rfind" := ⟨F.plainAttrs_str, F.slot_str_rfind, F.type_str_rfind⟩

/-- the methods that are called -/
inductive MethOf : SV → Str → String → Prop
  | startswith {a : List Nat} : MethOf (.str a) "startswith" "str.startswith"
  | endswith {a : List Nat} : MethOf (.str a) "endswith" "str.endswith"
  | rfind {a : List Nat} : MethOf (.str a) "rfind" "str.rfind"
  | split {a : List Nat} : MethOf (.str a) "split" "str.split"
  | join {a : List Nat} : MethOf (.str a) "join" "str.join"
  | translate {a : List Nat} : MethOf (.str a) "translate" "str.translate"
  | append {k : Nat} : MethOf (.ml k) "append" "list.append"
  | pop {k : Nat} : MethOf (.ml k) "pop" "list.pop"
theorem MethOf.meth {r : SV} {name : Str} {id : String} (h : MethOf r name id) : ∃ T, r.ty? = some T ∧ Meth T name id := by
  cases h
  · exact ⟨_, rfl, m_startswith⟩
  · exact ⟨_, rfl, m_endswith⟩
  · exact ⟨_, rfl, m_rfind⟩
  · exact ⟨_, rfl, F.plainAttrs_str, F.slot_str_split, F.type_str_split⟩
  · exact ⟨_, rfl, F.plainAttrs_str, F.slot_str_join, F.type_str_join⟩
  · exact ⟨_, rfl, F.plainAttrs_str, F.slot_str_translate, F.type_str_translate⟩
  · exact ⟨_, rfl, F.plainAttrs_list, F.slot_list_append, F.type_list_append⟩
  · exact ⟨_, rfl, F.plainAttrs_list, F.slot_list_pop, F.type_list_pop⟩

noncomputable abbrev KM2 (x : Cx) (m : Loc) (id : String) (r : SV) (P : SV → Mut → Prop) (args : List SV) (n2 : Mut) : Prop := CL x m n2 (.bi id) (r :: args) P
noncomputable abbrev KM (x : Cx) (m : Loc) (name : Str) (es : List Expr) (P : SV → Mut → Prop) (r : SV) (n1 : Mut) : Prop := ∃ id, MethOf r name id ∧ EVs x m n1 es (KM2 x m id r P)
theorem EV_meth {o : Expr} {name : Str} {apos pos : Pos} {es : List Expr} (h : EV x m n o (KM x m name es P))
    (hbase : attributeBase o name x.env (eval o x.env) = eval o x.env) (hl : (es.all isPlainArg && decide (es.length < 28)) = true) (hline : (apos.endLine == pos.line) = true) :
    EV x m n (.Call (.Attribute o name apos) es [] pos) P := fun s fz as I => by
  simp only [Bool.and_eq_true, decide_eq_true_eq] at hl
  refine wpAny_Call_method_lateS hbase ?_ hline (wpAny_mono (h s fz as I) (fun ov s1 q => ?_) fun _ _ z => no z)
  · have hp := plain_backTo (x := x) (pos := pos) es hl.1
    have : (backTo pos (starEach es x.env)).all (fun x => !x.1) = true := by
      rw [List.all_eq_not_any_not]; simpa using hp
    simp only [this, Bool.true_and, Bool.and_eq_true, decide_eq_true_eq]
    exact ⟨rfl, by simp; omega⟩
  · obtain ⟨r, n1, fz1, as1, ⟨id, hm, h1⟩, le1, p1, I1, at1⟩ := q
    obtain ⟨T, hT, M⟩ := hm.meth
    obtain ⟨t1, t2⟩ := at_ty I1 at1 hT
    exact ⟨T, id, M.pa, M.slot, M.ty, t1, t2, wpAny_mono (callWith_meth I1 at1 h1 hl.1) (fun _ _ z => z.weak le1 p1) fun _ _ z => z⟩

end
end Mine

set_option maxRecDepth 100000
namespace Mine
/-- str is of str, asked inside issubclass -/
theorem issub_one {prog : Program} {w : World} {A : Around} {E : Value → Shared → Prop} {s : Shared} {c k : Value} {Q : Value → Shared → Prop} (hc : c = .type "str") (hk : ∃ i t, k = .int i t) (h : Q (.bool true) s) :
    wpAny (model prog w) A (call (.builtin "issubclass.nested") [.type "str", c, k]) Q E s := by
  obtain ⟨i, t, rfl⟩ := hk
  subst hc
  have z := F.isi_meta_str
  have z1 := F.sub_str_str
  refine call_function_meets (S := fun _ R s => R (.ok (.ret (.bool true))) s) (by decide +kernel) (by decide +kernel) F.entry_issubclass_nested (by unfold argsOk; kernel_rfl) (fun p w A R s h => ?_) h
  wp_walk
  exact h
/-- .. and so of a tuple whose first is str -/
theorem issub_first {b : Addr} {ep : Nat} {l : List Value} (t : Tok) : Meets (Builtin.«issubclass.nested» ⟨[.type "str", .ref b, .int 0 t], []⟩)
    (fun _ R s => s.heap.get? b = some (tupO (.type "str" :: l) ep) ∧ R (.ok (.ret (.bool true))) s) := fun p w A R s ⟨e, h⟩ => by
  have T : s.TypeIs (.ref b) "tuple" := ⟨_, e, rfl⟩
  have z := F.isi_sub_tuple
  wp_walk using wpAny_load e, issub_one
  · simp
  · exact ⟨_, _, rfl⟩
  · wp_walk
    exact h
end Mine

namespace Mine
open Calls
section
variable {x : Cx} {m : Loc} {n : Mut} {P : SV → Mut → Prop} {pos : Pos}

noncomputable def startsL (a b : List Nat) : Bool := a.take b.length == b
noncomputable def endsL (a b : List Nat) : Bool := decide (b.length ≤ a.length) && (a.drop (a.length - b.length) == b)
theorem starts_eq (a b : List Nat) : Txt.startswith ⟨⟨a⟩⟩ ⟨⟨b⟩⟩ = startsL a b := by
  unfold Txt.startswith startsL
  rw [StrLaws.subAt_eq]
  show (decide (0 + b.length ≤ a.length) && ((a.drop 0).take b.length == b)) = _
  rw [List.drop_zero]
  by_cases h : b.length ≤ a.length
  · simp [h]
  · simp only [Nat.zero_add, h, decide_false, Bool.false_and]
    symm
    rw [beq_eq_false_iff_ne]
    intro e
    have := congrArg List.length e
    simp at this; omega
theorem ends_eq (a b : List Nat) : Txt.endswith ⟨⟨a⟩⟩ ⟨⟨b⟩⟩ = endsL a b := by
  unfold Txt.endswith endsL
  rw [StrLaws.subAt_eq]
  show (decide (0 + b.length ≤ a.length) && ((a.drop (a.length - b.length)).take b.length == b)) = _
  by_cases h : b.length ≤ a.length
  · have : (a.drop (a.length - b.length)).take b.length = a.drop (a.length - b.length) := by
      rw [List.take_of_length_le]; simp; omega
    simp [h, this]
  · simp [h]
theorem CL_startswith {a b : List Nat} (h : P (.bool (startsL a b)) n) : CL x m n (.bi "str.startswith") [.str a, .str b] P := fun s fz as vf vs I hf ha => by
  simp only [SV.At] at hf; subst hf
  simp only [SV.AtL, SV.At] at ha; obtain ⟨_, _, rfl, ⟨t, rfl⟩, _, _, rfl, ⟨u, rfl⟩, rfl⟩ := ha
  refine SC.startswith (I.post (sv := .bool (startsL a b)) ?_ h)
  rw [starts_eq]; exact at_bool
theorem CL_endswith {a b : List Nat} (h : P (.bool (endsL a b)) n) : CL x m n (.bi "str.endswith") [.str a, .str b] P := fun s fz as vf vs I hf ha => by
  simp only [SV.At] at hf; subst hf
  simp only [SV.AtL, SV.At] at ha; obtain ⟨_, _, rfl, ⟨t, rfl⟩, _, _, rfl, ⟨u, rfl⟩, rfl⟩ := ha
  refine SC.endswith (I.post (sv := .bool (endsL a b)) ?_ h)
  rw [ends_eq]; exact at_bool
theorem at_one (l : List Nat) (c i : Nat) : StrLaws.At ⟨⟨l⟩⟩ ⟨#[c]⟩ l.length i ↔ l[i]? = some c := StrLaws.subAt_one ⟨⟨l⟩⟩ c i
theorem CL_rfind {a b : List Nat} {c : Nat} (hb : c ∉ b) (h : P (.int a.length) n) : CL x m n (.bi "str.rfind") [.str (a ++ c :: b), .str [c]] P := fun s fz as vf vs I hf ha => by
  simp only [SV.At] at hf; subst hf
  simp only [SV.AtL, SV.At] at ha; obtain ⟨_, _, rfl, ⟨t, rfl⟩, _, _, rfl, ⟨u, rfl⟩, rfl⟩ := ha
  refine SC.rfind ((I.toks _).post (sv := .int a.length) ?_ h)
  have hat : (a ++ c :: b)[a.length]? = some c := by simp
  have e : Builtin.Str.lastOccurrence ⟨⟨a ++ c :: b⟩⟩ ⟨⟨[c]⟩⟩ 0 (⟨⟨a ++ c :: b⟩⟩ : Str).length = some a.length := by
    rcases StrLaws.last_spec ⟨⟨a ++ c :: b⟩⟩ ⟨⟨[c]⟩⟩ with ⟨_, h2⟩ | ⟨i, h1, h2, h3⟩
    · exact absurd ((at_one _ c _).mpr hat) (h2 a.length)
    · rw [h1]
      have h2 := (at_one _ c _).mp h2
      have : ¬ i < a.length := fun hlt => h3 a.length hlt ((at_one _ c _).mpr hat)
      have : ¬ a.length < i := fun hlt => by
        rw [List.getElem?_append_right (by omega)] at h2
        obtain ⟨k, hk⟩ : ∃ k, i - a.length = k + 1 := ⟨i - a.length - 1, by omega⟩
        rw [hk, List.getElem?_cons_succ] at h2
        exact hb (List.mem_of_getElem? h2)
      have : i = a.length := by omega
      rw [this]
  unfold Txt.rfind
  rw [e]
  exact at_int _

theorem OP2_is_ty {a b : String} {r : Bool} (hr : (a == b) = r) (h : P (.bool r) n) : OP2 x m n (.ty a) (.ty b) (compareOp .Is) P := fun s fz as va vb I ha hb => by
  simp only [SV.At] at ha hb; subst ha; subst hb
  refine wpAny_is_plain rfl (I.post (sv := .bool r) ?_ h)
  have : (Value.type a == Value.type b) = (a == b) := by rw [Bool.eq_iff_iff]; simp
  rw [this, hr]; exact at_bool
theorem OP2_isnot_ty {a b : String} {r : Bool} (hr : (!(a == b)) = r) (h : P (.bool r) n) : OP2 x m n (.ty a) (.ty b) (compareOp .IsNot) P := fun s fz as va vb I ha hb => by
  simp only [SV.At] at ha hb; subst ha; subst hb
  refine wpAny_isNot_plain rfl (I.post (sv := .bool r) ?_ h)
  have : (Value.type a == Value.type b) = (a == b) := by rw [Bool.eq_iff_iff]; simp
  rw [this, hr]; exact at_bool
theorem OP2_is_none_str {a : List Nat} (h : P (.bool false) n) : OP2 x m n (.str a) .none (compareOp .Is) P := fun s fz as va vb I ha hb => by
  simp only [SV.At] at ha hb; obtain ⟨t, rfl⟩ := ha; subst hb
  exact wpAny_is_other rfl (fun e => nomatch e) (I.post (sv := .bool false) at_bool h)
theorem OP2_isnot_objv {a : List Nat} (h : P (.bool true) n) : OP2 x m n (.str a) .objv (compareOp .IsNot) P := fun s fz as va vb I ha hb => by
  simp only [SV.At] at ha hb; obtain ⟨t, rfl⟩ := ha; obtain ⟨b, o, rfl, _⟩ := hb
  exact wpAny_isNot_other rfl (fun e => nomatch e) (I.post (sv := .bool true) at_bool h)
theorem OP2_is_objv {a : List Nat} (h : P (.bool false) n) : OP2 x m n (.str a) .objv (compareOp .Is) P := fun s fz as va vb I ha hb => by
  simp only [SV.At] at ha hb; obtain ⟨t, rfl⟩ := ha; obtain ⟨b, o, rfl, _⟩ := hb
  exact wpAny_is_other rfl (fun e => nomatch e) (I.post (sv := .bool false) at_bool h)

theorem CL_type_str {a : List Nat} (h : P (.ty "str") n) : CL x m n (.ty "type") [.str a] P := fun s fz as vf vs I hf ha => by
  simp only [SV.At] at hf; subst hf
  simp only [SV.AtL, SV.At] at ha; obtain ⟨_, _, rfl, ⟨t, rfl⟩, rfl⟩ := ha
  exact call_type_of (typeIs_str _ _ _) (by decide) (I.post (by simp only [SV.At]) h)
theorem CL_type_tup {l : List SV} (h : P (.ty "tuple") n) : CL x m n (.ty "type") [.tup l] P := fun s fz as vf vs I hf ha => by
  simp only [SV.At] at hf; subst hf
  simp only [SV.AtL, SV.At] at ha; obtain ⟨_, _, rfl, ⟨a, l', ep, rfl, e, _⟩, rfl⟩ := ha
  exact call_type_of (Tx := "tuple") ⟨_, I.frz _ _ e, rfl⟩ (by decide) (I.post (by simp only [SV.At]) h)
theorem CL_isi_str {a : List Nat} (h : P (.bool true) n) : CL x m n (.bi "isinstance") [.str a, .ty "str"] P := fun s fz as vf vs I hf ha => by
  simp only [SV.At] at hf; subst hf
  simp only [SV.AtL, SV.At] at ha; obtain ⟨_, _, rfl, ⟨t, rfl⟩, _, _, rfl, rfl, rfl⟩ := ha
  exact call_isinstance (isinstance_true (Tx := "str") F.isi_meta_str F.sub_str_str) ⟨typeIs_str _ _ _, I.post (sv := .bool true) at_bool h⟩
theorem CL_isi_bytes {a : List Nat} (h : P (.bool false) n) : CL x m n (.bi "isinstance") [.str a, .ty "bytes"] P := fun s fz as vf vs I hf ha => by
  simp only [SV.At] at hf; subst hf
  simp only [SV.AtL, SV.At] at ha; obtain ⟨_, _, rfl, ⟨t, rfl⟩, _, _, rfl, rfl, rfl⟩ := ha
  exact call_isinstance (isinstance_false_str (by decide +kernel) F.isi_meta_bytes F.sub_str_bytes) ((I.toks _).post (sv := .bool false) at_bool h)
theorem CL_issub (h : P (.bool true) n) : CL x m n (.bi "issubclass") [.ty "str", .tup [.ty "str", .ty "bytes"]] P := fun s fz as vf vs I hf ha => by
  simp only [SV.At] at hf; subst hf
  simp only [SV.AtL, SV.At] at ha; obtain ⟨_, _, rfl, rfl, _, _, rfl, ⟨a, l, ep, rfl, e, _, _, rfl, rfl, _, _, rfl, rfl, rfl⟩, rfl⟩ := ha
  exact call_issubclass (fun p w A R s' hs => issubclass_outer (issub_first _ p w A R s' hs)) ⟨I.frz _ _ e, I.post (sv := .bool true) at_bool h⟩
theorem TR_len {l : Nat} (hl : l ≤ 1000000) : (((l : Nat) : Int) != 0) = !decide (l = 0) := by
  cases l <;> simp <;> omega
theorem TR_str {a : List Nat} {P : Bool → Mut → Prop} (hs : a.length ≤ 1000000) (h : P (!decide (a = [])) n) : TR x m n (.str a) P := fun s fz as va I ha => by
  simp only [SV.At] at ha; obtain ⟨t, rfl⟩ := ha
  refine PySem.P.truthy_str (x := ⟨⟨a⟩⟩) (by show ¬ ((a.length : Int) ≥ 2 ^ 63); omega) ?_
  show PostB x m fz as P ((a.length : Int) != 0) _
  have : decide (a.length = 0) = decide (a = []) := by simp
  rw [TR_len hs, this]
  exact ⟨n, fz, as, h, .refl _, List.prefix_refl _, I.toks _⟩
theorem TR_tup {a : List SV} {P : Bool → Mut → Prop} (hs : a.length ≤ 1000000) (h : P (!decide (a.length = 0)) n) : TR x m n (.tup a) P := fun s fz as va I ha => by
  simp only [SV.At] at ha; obtain ⟨b, l, ep, rfl, e, hl⟩ := ha
  have e := I.frz _ _ e
  have hl := hl.length
  refine truthy_tuple (items := ⟨l⟩) ⟨_, e, rfl, ep, rfl⟩ (by show ((l.length : Int)) < 2 ^ 63; omega) ?_
  first
    | (show PostB x m fz as P (!(⟨l⟩ : Array Value).isEmpty) _
       have : (!(⟨l⟩ : Array Value).isEmpty) = !decide (a.length = 0) := by rw [← hl]; cases l <;> simp
       rw [this]
       exact ⟨n, fz, as, h, .refl _, List.prefix_refl _, I.toks _⟩)
theorem TR_ml {k : Nat} {a : List SV} {P : Bool → Mut → Prop} (hk : n[k]? = some a) (hs : a.length ≤ 1000000) (h : P (!decide (a.length = 0)) n) : TR x m n (.ml k) P := fun s fz as va I ha => by
  simp only [SV.At] at ha; obtain ⟨b, rfl, e⟩ := ha
  obtain ⟨l, ep, ho, hl⟩ := I.mls k b a e hk
  have hl := hl.length
  refine wpAny_truthy_list (items := ⟨l⟩) ⟨_, ho, rfl, ep, rfl⟩ (by show ((l.length : Int)) < 2 ^ 63; omega) ?_
  show PostB x m fz as P (!(⟨l⟩ : Array Value).isEmpty) _
  have : (!(⟨l⟩ : Array Value).isEmpty) = !decide (a.length = 0) := by rw [← hl]; cases l <;> simp
  rw [this]
  exact ⟨n, fz, as, h, .refl _, List.prefix_refl _, I.toks _⟩
end
end Mine

namespace Mine
open Calls

/-! ### iterators -/
structure Src (x : Cx) (fz : Frz) (as : List Addr) (I : Addr) (fp : List Addr) (xs : List SV) (P : Nat → Value → Prop) (St : Nat → Heap → Prop) : Prop where
  walks : Walks pw x.w x.A I fp [I] xs.length P St
  odd : ∀ i h, St i h → ∃ o, h.get? I = some o ∧ Odd o ∧ ∀ v, o.data ≠ .cell v
  fp : ∀ b ∈ fp, b = I ∨ ∃ o, fz b = some o ∧ ∀ v, o.data ≠ .cell v
  val : ∀ i v, P i v → ∀ a, xs[i]? = some a → a.At fz as v
  rng : ∀ i v, P i v → i < xs.length

section
variable {x : Cx} {m : Loc} {n : Mut} {fz fz' : Frz} {as as' : List Addr} {s : Shared} {I : Addr} {fp : List Addr} {xs : List SV} {P : Nat → Value → Prop} {St : Nat → Heap → Prop}

theorem Src.lw (S : Src x fz as I fp xs P St) (h : fz.lw fz') (p : as <+: as') : Src x fz' as' I fp xs P St :=
  ⟨S.walks, S.odd, fun b hb => (S.fp b hb).imp id fun ⟨o, e, q⟩ => ⟨o, h _ _ e q, q⟩, fun i v hp a ha => SV.At.monoW h p a (S.val i v hp a ha), S.rng⟩
theorem Src.off (S : Src x fz as I fp xs P St) (h : Off I fz fz') : Src x fz' as I fp xs P St :=
  ⟨S.walks, S.odd, fun b hb => by
    by_cases e : b = I
    · exact .inl e
    · exact (S.fp b hb).imp id fun ⟨o, q, q'⟩ => ⟨o, h.1 b o e q, q'⟩, fun i v hp a ha => SV.At.off h a (S.val i v hp a ha), S.rng⟩

theorem Iv.loose {o : Obj} (J : Iv x m n fz as s) (ho : fz I = some o) (hb : x.base.get? I = none) : Loose x as I :=
  ⟨fun e => (by rw [e, J.fzL] at ho; cases ho), fun e => (by rw [e, J.fzT] at ho; cases ho), fun e => (by rw [(J.own I e).1] at ho; cases ho), hb⟩

theorem Src.isOdd (S : Src x fz as I fp xs P St) (J : Iv x m n fz as s) {i : Nat} (st : St i s.heap) : ∀ o, fz I = some o → Odd o ∧ ∀ v, o.data ≠ .cell v := fun o ho => by
  obtain ⟨o', e, h⟩ := S.odd i _ st
  rw [J.frz _ _ ho] at e; cases e; exact h

theorem Src.item (S : Src x fz as I fp xs P St) (J : Iv x m n fz as s) {o : Obj} (ho : fz I = some o) (hb : x.base.get? I = none) {i : Nat} (st : St i s.heap) {a : SV} (ha : xs[i]? = some a) {Q : Option Value → Shared → Prop}
    (h : ∀ v o' s', Iv x m n ((fz.del I).add I o') as s' → St (i + 1) s'.heap → Src x ((fz.del I).add I o') as I fp xs P St → a.At ((fz.del I).add I o') as v → Off I fz ((fz.del I).add I o') → Q (some v) s') {E : Value → Shared → Prop} : wpAny (model pw x.w) x.A (pyNext (.ref I)) Q E s := by
  have hi : i < xs.length := (List.getElem?_eq_some_iff.mp ha).1
  have hodd := S.isOdd J st
  have loose := J.loose ho hb
  refine S.walks.item i s _ _ hi st fun v h' tk hp hst hk => ?_
  have hx : Heap.ExtBut I s.heap h' := fun b o' hbne e => hk b o' (by simpa using hbne) e
  have J1 := J.ext hx hodd loose tk
  obtain ⟨o', ho', _⟩ := S.odd _ _ hst
  have J2 := J1.hold (Frz.del_self _ _) ho' loose
  have off : Off I fz ((fz.del I).add I o') := ⟨fun b o' hbne e => (Frz.add_ne hbne).trans ((Frz.del_ne hbne).trans e), fun o' e => (hodd o' e).1⟩
  exact h v o' _ J2 hst (S.off off) (SV.At.off off a (S.val i v hp a ha)) off

theorem Src.done (S : Src x fz as I fp xs P St) (J : Iv x m n fz as s) {o : Obj} (ho : fz I = some o) (hb : x.base.get? I = none) (st : St xs.length s.heap) {Q : Option Value → Shared → Prop}
    (h : ∀ s', Iv x m n (fz.del I) as s' → Q none s') {E : Value → Shared → Prop} : wpAny (model pw x.w) x.A (pyNext (.ref I)) Q E s := by
  refine S.walks.done s _ _ st fun h' tk hk => ?_
  exact h _ (J.ext (fun b o' hbne e => hk b o' (by simpa using hbne) e) (S.isOdd J st) (J.loose ho hb) tk)

theorem Src.st {m' : Loc} {n' : Mut} {s' : Shared} (S : Src x fz as I fp xs P St) (J : Iv x m n fz as s) (J' : Iv x m' n' fz' as' s') (le : fz.lw fz') {o : Obj} (ho : fz I = some o) {i : Nat} (st : St i s.heap) : St i s'.heap :=
  S.walks.frame i _ _ st fun b hb o' e => by
    have hx : ∃ o1, fz b = some o1 ∧ ∀ v, o1.data ≠ .cell v := by
      rcases S.fp b hb with rfl | h
      · exact ⟨_, ho, (S.isOdd J st _ ho).2⟩
      · exact h
    obtain ⟨o1, h1, h2⟩ := hx
    rw [J.frz _ _ h1] at e; cases e
    exact J'.frz _ _ (le _ _ h1 h2)

/-- data that may be walked -/
inductive IterOf : SV → List SV → Prop
  | list {xs : List SV} : IterOf (.list xs) xs
  | tup {xs : List SV} : IterOf (.tup xs) xs
  | str {l : List Nat} : l.all (· < 128) = true → IterOf (.str l) (l.map fun c => .str [c])
  | rng {k : Nat} : (k : Int) < 2 ^ 62 → IterOf (.rng k) ((List.range k).map fun (i : Nat) => .int i)

theorem odd_it {o : Obj} {T : String} {vs : Array Value} (hc : o.cls = .type T) (hd : o.data = .fields vs) (h1 : T ≠ "builtin_function_or_method") (h2 : T ≠ "slice") (h3 : T ≠ "range") : Odd o ∧ ∀ v, o.data ≠ .cell v :=
  ⟨.inr (.inr ⟨vs, T, hd, hc, h1, h2, h3⟩), fun v e => by rw [hd] at e; cases e⟩

theorem iter_ok {a : SV} {v : Value} (hA : x.A.handled = none) (J : Iv x m n fz as s) (ha : a.At fz as v) (hi : IterOf a xs) {Q : Value → Shared → Prop}
    (h : ∀ I o fp P St s', fz I = none → x.base.get? I = none → Iv x m n (fz.add I o) as s' → Src x (fz.add I o) as I fp xs P St → St 0 s'.heap → Q (.ref I) s') : Run x (pyIter v) Q s := by
  have fin : ∀ (o : Obj) (fp : List Addr) (P : Nat → Value → Prop) (St : Nat → Heap → Prop), o.isFreed = false → Walks pw x.w x.A s.heap.objs.size fp [s.heap.objs.size] xs.length P St → (∀ i h, St i h → ∃ o, h.get? s.heap.objs.size = some o ∧ Odd o ∧ ∀ v, o.data ≠ .cell v) →
      (∀ b ∈ fp, b = s.heap.objs.size ∨ ∃ o, fz b = some o ∧ ∀ v, o.data ≠ .cell v) → (∀ i v, P i v → ∀ a, xs[i]? = some a → a.At fz as v) → (∀ i v, P i v → i < xs.length) → St 0 (s.heap.push o) → Q (.ref s.heap.objs.size) { s with heap := s.heap.push o } := by
    intro o fp P St hf W odd hfp hv hr st
    obtain ⟨J1, le⟩ := J.freeze o hf
    exact h _ o fp P St _ (J.newF (Nat.le_refl _)) (J.newB (Nat.le_refl _)) J1 ⟨W, odd, fun b hb => (hfp b hb).imp id fun ⟨o, e, q⟩ => ⟨o, le _ _ e, q⟩, fun i v hp a ha => SV.At.mono le (List.prefix_refl _) a (hv i v hp a ha), hr⟩ st
  cases hi with
  | list =>
    simp only [SV.At] at ha
    obtain ⟨b, l, ep, rfl, e, hl⟩ := ha
    have he := J.frz _ _ e
    have hL : s.heap.IsList b ⟨l⟩ := ⟨_, he, rfl, ep, rfl⟩
    have hne : b ≠ s.heap.objs.size := Nat.ne_of_lt (Heap.lt_size he)
    have W := Walks.list (prog := pw) (w := x.w) hA s.heap.objs.size b hne ⟨l⟩
    have hlen : (⟨l⟩ : Array Value).size = xs.length := hl.length
    rw [hlen] at W
    refine wpAny_pyIter_list hL (fin _ _ _ _ rfl W ?_ ?_ ?_ (fun i v hp => by rw [← hlen]; exact (Array.getElem?_eq_some_iff.mp hp).1) ?_)
    · rintro i h ⟨⟨o, e1, e2, e3⟩, _⟩; exact ⟨o, e1, odd_it e2 e3 (by decide) (by decide) (by decide)⟩
    · intro c hc; simp at hc
      rcases hc with rfl | rfl
      · exact .inl rfl
      · exact .inr ⟨_, e, fun _ z => nomatch z⟩
    · intro i u hp a ha
      obtain ⟨w, h1, h2⟩ := hl.get ha
      have : l[i]? = some u := by simpa using hp
      rw [this] at h1; cases h1; exact h2
    · exact ⟨⟨_, Heap.get?_push_size _ rfl, rfl, rfl⟩, hL.push _⟩
  | tup =>
    simp only [SV.At] at ha
    obtain ⟨b, l, ep, rfl, e, hl⟩ := ha
    have he := J.frz _ _ e
    have hL : s.heap.IsTuple b ⟨l⟩ := ⟨_, he, rfl, ep, rfl⟩
    have hne : b ≠ s.heap.objs.size := Nat.ne_of_lt (Heap.lt_size he)
    have W := Walks.tuple (prog := pw) (w := x.w) hA s.heap.objs.size b hne ⟨l⟩
    have hlen : (⟨l⟩ : Array Value).size = xs.length := hl.length
    rw [hlen] at W
    refine wpAny_pyIter_tuple hL (fin _ _ _ _ rfl W ?_ ?_ ?_ (fun i v hp => by rw [← hlen]; exact (Array.getElem?_eq_some_iff.mp hp).1) ?_)
    · rintro i h ⟨⟨o, e1, e2, e3⟩, _⟩; exact ⟨o, e1, odd_it e2 e3 (by decide) (by decide) (by decide)⟩
    · intro c hc; simp at hc
      rcases hc with rfl | rfl
      · exact .inl rfl
      · exact .inr ⟨_, e, fun _ z => nomatch z⟩
    · intro i u hp a ha
      obtain ⟨w, h1, h2⟩ := hl.get ha
      have : l[i]? = some u := by simpa using hp
      rw [this] at h1; cases h1; exact h2
    · exact ⟨⟨_, Heap.get?_push_size _ rfl, rfl, rfl⟩, hL.push _⟩
  | str hasc =>
    rename_i l
    simp only [SV.At] at ha
    obtain ⟨t, rfl⟩ := ha
    have hasc' : (⟨⟨l⟩⟩ : Str).cps.all (· < 128) = true := by
      show (⟨l⟩ : Array Nat).all (· < 128) = true
      rw [List.all_eq_true] at hasc
      simpa using hasc
    have W := Walks.strAscii (prog := pw) (w := x.w) hA s.heap.objs.size ⟨⟨l⟩⟩ t
    have hlen : (⟨⟨l⟩⟩ : Str).cps.size = (l.map fun c => SV.str [c]).length := by simp
    rw [hlen] at W
    refine wpAny_pyIter_ascii hasc' (fin _ _ _ _ rfl W ?_ ?_ ?_ (fun i v hp => by obtain ⟨c, u, h1, _⟩ := hp; rw [← hlen]; exact (Array.getElem?_eq_some_iff.mp h1).1) ?_)
    · rintro i h ⟨o, e1, e2, e3⟩; exact ⟨o, e1, odd_it e2 e3 (by decide) (by decide) (by decide)⟩
    · intro c hc; simp at hc; exact .inl hc
    · rintro i u hp a ha
      obtain ⟨c, tk, h1, rfl⟩ := hp
      simp at ha
      obtain ⟨c', h2, rfl⟩ := ha
      have : l[i]? = some c := by simpa using h1
      rw [this] at h2; cases h2
      simp only [SV.At]; exact ⟨_, rfl⟩
    · exact ⟨_, Heap.get?_push_size _ rfl, rfl, rfl⟩
  | rng hk =>
    rename_i k
    simp only [SV.At] at ha
    obtain ⟨b, t, u, w, rfl, e⟩ := ha
    have he := J.frz _ _ e
    have W := Walks.range (prog := pw) (w := x.w) hA s.heap.objs.size 0 1 k
    have hlen : k = ((List.range k).map fun (i : Nat) => SV.int i).length := by simp
    rw [hlen] at W
    refine wpAny_pyIter_range he (small_one (by decide) (by decide) (by omega) (by omega)) (fin _ _ _ _ rfl W.bound ?_ ?_ ?_ (fun i v hp => hp.1) ?_)
    · rintro i h e1; exact ⟨_, e1, odd_it rfl rfl (by decide) (by decide) (by decide)⟩
    · intro c hc; simp at hc; exact .inl hc
    · rintro i u hp a ha
      obtain ⟨_, tk, rfl⟩ := hp
      simp at ha
      obtain ⟨j, h2, rfl⟩ := ha
      have h2 : i = j := by
        rw [List.getElem?_eq_some_iff] at h2
        obtain ⟨_, h2⟩ := h2
        simpa using h2
      subst h2
      simp only [SV.At]; exact ⟨tk, by simp⟩
    · have hsz : Builtin.Range.rangeSize 0 k 1 = (k : Int) := by rw [rangeSize_one]; split <;> omega
      show IsRangeIter _ _ _ _ _
      simp only [List.length_map, List.length_range, hsz]
      simpa using Heap.get?_push_size _ rfl
end

/-! ### weakening -/
inductive Wk : Loc → Loc → Prop
  | nil : Wk [] []
  | same {p : Str × SV} {r r' : Loc} : Wk r r' → Wk (p :: r) (p :: r')
  | drop {y : Str} {a : SV} {r r' : Loc} : Wk r r' → Wk ((y, a) :: r) ((y, .unset) :: r')
theorem Wk.keys {m m' : Loc} (h : Wk m m') : m'.map (·.1) = m.map (·.1) := by
  induction h with
  | nil => rfl
  | same _ ih => simp [ih]
  | drop _ ih => simp [ih]
theorem Wk.mem {m m' : Loc} (h : Wk m m') : ∀ p ∈ m', p.2 = .unset ∨ p ∈ m := by
  induction h with
  | nil => intro p hp; cases hp
  | same _ ih =>
    intro p hp
    rcases List.mem_cons.mp hp with rfl | hp
    · exact .inr (.head _)
    · exact (ih p hp).imp id (.tail _)
  | drop _ ih =>
    intro p hp
    rcases List.mem_cons.mp hp with rfl | hp
    · exact .inl rfl
    · exact (ih p hp).imp id (.tail _)
section
variable {x : Cx} {m m' : Loc} {n : Mut} {fz : Frz} {as : List Addr} {s : Shared}
theorem Iv.wk (I : Iv x m n fz as s) (h : Wk m m') : Iv x m' n fz as s :=
  ⟨I.stat, I.tab, I.grow, I.frz, I.fzT, I.frb, let ⟨mv, a, b⟩ := I.loc; ⟨mv, a, fun p hp => (h.mem p hp).elim .inl (b p)⟩, by rw [h.keys]; exact I.keys, I.fzL, I.newL, I.LT, I.len, I.nd, I.own, I.mls, I.os, I.bare, I.cel⟩
theorem EX_wk {ss : List Stmt} {P : Fw → Loc → Mut → Prop} (h : EX x m' n ss P) (w : Wk m m') : EX x m n ss P := fun s fz as I => h s fz as (I.wk w)
theorem EV_wk {e : Expr} {P : SV → Mut → Prop} (h : EV x m' n e P) (w : Wk m m') (back : ∀ fz as s n', Iv x m' n' fz as s → Iv x m n' fz as s) : EV x m n e P := fun s fz as I =>
  wpAny_mono (h s fz as (I.wk w)) (fun v s1 ⟨sv, n', fz', as', q1, q2, q3, q4, q5⟩ => ⟨sv, n', fz', as', q1, q2, q3, back _ _ _ _ q4, q5⟩) fun _ _ z => z
end

/-! ### statements -/
section
variable {x : Cx} {m : Loc} {n : Mut} {P : Fw → Loc → Mut → Prop} {pos : Pos}

inductive FInv (x : Cx) (xs : List SV) (J : Nat → Loc → Mut → Prop) (fz1 : Frz) (as1 : List Addr) (it : Addr) (fp : List Addr) (PP : Nat → Value → Prop) (St : Nat → Heap → Prop) (k : Nat) (s' : Shared) : Prop
  | mk (i : Nat) (m' : Loc) (n' : Mut) (fz' : Frz) (as' : List Addr) (o' : Obj) (e : k = xs.length - i) (hi : i ≤ xs.length) (Ji : J i m' n') (le : fz1.lw fz') (p : as1 <+: as') (I : Iv x m' n' fz' as' s') (S : Src x fz' as' it fp xs PP St) (st : St i s'.heap) (ho : fz' it = some o')
noncomputable abbrev KBody (J : Loc → Mut → Prop) (P : Fw → Loc → Mut → Prop) (f : Fw) (m3 : Loc) (n3 : Mut) : Prop := match f with
  | .next | .cont => ∃ m4, Wk m3 m4 ∧ J m4 n3
  | .brk => P .next m3 n3
  | .ret v => P (.ret v) m3 n3
noncomputable abbrev KWh (J : Nat → Loc → Mut → Prop) (k : Nat) (P : Fw → Loc → Mut → Prop) (f : Fw) (m3 : Loc) (n3 : Mut) : Prop := match f with
  | .next | .cont => ∃ k', k' < k ∧ ∃ m4, Wk m3 m4 ∧ J k' m4 n3
  | .brk => P .next m3 n3
  | .ret v => P (.ret v) m3 n3
theorem ES_for {y : Str} {py : Pos} {iter : Expr} {body orelse : List Stmt} (hA : x.A.handled = none) (hk : x.env.scope.kind = .function) (hl : x.env.kindOf y = some .local) (hcl : x.env.cells.lookup y = none)
    (h : EV x m n iter (fun a n1 => ∃ xs, IterOf a xs ∧ ∃ J : Nat → Loc → Mut → Prop, J 0 m n1 ∧
      (∀ i a, xs[i]? = some a → ∀ m1 n1, J i m1 n1 → ∃ m2, Put y a m1 m2 ∧ EX x m2 n1 body (KBody (J (i + 1)) P)) ∧
      ∀ m1 n1, J xs.length m1 n1 → EX x m1 n1 orelse P))
    (hs : ∀ v, foldedSetIterable iter x.env v = pure v := by intro _; rfl) (ht : ∀ it v, letOwnedTupleGo (.Name y py) it v = pure () := by intro _ _; rfl) : ES x m n (.For (.Name y py) iter body orelse pos) P := fun s fz as I => by
  refine wpAny_For (wpAny_mono (h s fz as I) (fun va s1 q => ?_) fun _ _ z => no z) hs
  obtain ⟨a, n1, fz1, as1, ⟨xs, hi, J, J0, hstep, hend⟩, le1, p1, I1, at1⟩ := q
  refine iter_ok hA I1 at1 hi fun it o fp PP St s2 hfn hbn I2 S2 st2 => ?_
  have le2 : fz1.le (fz1.add it o) := Frz.le_add o hfn
  refine codeAny_forLoop (FInv x xs J fz1 as1 it fp PP St) (fun k s' q => ?_) xs.length ⟨0, m, n1, _, as1, o, by simp, Nat.zero_le _, J0, le2.lw, List.prefix_refl _, I2, S2, st2, Frz.add_self _ _ _⟩ (ht _)
  obtain ⟨i, m', n', fz', as', o', rfl, hile, Ji, le', p', I', S', st', ho'⟩ := q
  cases ha : xs[i]? with
  | none =>
    have hi' : i = xs.length := by
      rw [List.getElem?_eq_none_iff] at ha; omega
    subst hi'
    refine S'.done I' ho' hbn st' fun s3 I3 => ?_
    refine wpAny_mono (hend m' n' Ji s3 _ as' I3) (fun f s4 q => ?_) fun _ _ z => z.elim
    exact q.weak (le1.lw.trans fun b o e nc => (by rw [Frz.del_ne (fun z => by rw [z, hfn] at e; cases e)]; exact le' b o e nc)) (p1.trans p')
  | some a =>
    have hlt : i < xs.length := (List.getElem?_eq_some_iff.mp ha).1
    refine S'.item I' ho' hbn st' ha fun v o3 s3 I3 st3 S3 at3 off3 => ?_
    obtain ⟨m2, hp, hx⟩ := hstep i a ha m' n' Ji
    have le3 : fz1.lw ((fz'.del it).add it o3) := fun b o e nc => off3.1 b o (fun z => by rw [z, hfn] at e; cases e) (le' b o e nc)
    refine wpAny_assign_Name (wpAny_mono (storeName_iv (Q := fun _ s' => Iv x m2 n' ((fz'.del it).add it o3) as' s') I3 hp at3 hk hl hcl fun s4 I4 => I4) (fun _ s4 I4 => ?_) fun _ _ z => z.elim)
    refine wpAny_mono (hx s4 _ as' I4) (fun f s5 q => ?_) fun _ _ z => z.elim
    obtain ⟨fw, m5, n5, fz5, as5, h5, le5, p5, I5, at5⟩ := q
    have S5 := S3.lw le5 p5
    have st5 := S3.st I3 I5 le5 (Frz.add_self _ _ _) st3
    have ho5 := le5 _ _ (Frz.add_self (fz'.del it) it o3) (S3.isOdd I3 st3 _ (Frz.add_self _ _ _)).2
    have go : (∃ m4, Wk m5 m4 ∧ J (i + 1) m4 n5) → ∃ k, k < xs.length - i ∧ FInv x xs J fz1 as1 it fp PP St k s5 := fun ⟨m4, w, J4⟩ =>
      ⟨xs.length - (i + 1), by omega, i + 1, m4, n5, fz5, as5, o3, rfl, hlt, J4, le3.trans le5, p'.trans p5, I5.wk w, S5, st5, ho5⟩
    cases fw with
    | next => simp only [Fw.At] at at5; subst at5; exact go h5
    | cont => simp only [Fw.At] at at5; subst at5; exact go h5
    | brk => simp only [Fw.At] at at5; subst at5; exact ⟨.next, m5, n5, fz5, as5, h5, le1.lw.trans (le3.trans le5), p1.trans (p'.trans p5), I5, rfl⟩
    | ret sv => obtain ⟨v, rfl, hv⟩ := at5; exact ⟨.ret sv, m5, n5, fz5, as5, h5, le1.lw.trans (le3.trans le5), p1.trans (p'.trans p5), I5, v, rfl, hv⟩

noncomputable abbrev KIf2 (x : Cx) (m : Loc) (body orelse : List Stmt) (P Q : Fw → Loc → Mut → Prop) (b : Bool) (n1 : Mut) : Prop := match b with | true => EX x m n1 body P | false => EX x m n1 orelse Q
theorem ES_while {test : Expr} {body orelse : List Stmt} (J : Nat → Loc → Mut → Prop) (k0 : Nat) (h0 : J k0 m n)
    (hstep : ∀ k m1 n1, J k m1 n1 → TS x m1 n1 test (KIf2 x m1 body orelse (KWh J k P) P)) : ES x m n (.While test body orelse pos) P := fun s fz as I => by
  refine wpAny_While (codeAny_whileLoop (fun k s' => ∃ m' n' fz' as', J k m' n' ∧ fz.lw fz' ∧ as <+: as' ∧ Iv x m' n' fz' as' s') (fun k s' q => ?_) k0 ⟨m, n, fz, as, h0, .refl _, List.prefix_refl _, I⟩)
  obtain ⟨m', n', fz', as', Jk, le', p', I'⟩ := q
  refine wpAny_mono (hstep k m' n' Jk s' fz' as' I') (fun b s2 q => ?_) fun _ _ z => z.elim
  obtain ⟨n2, fz2, as2, h2, le2, p2, I2⟩ := q
  cases b with
  | false =>
    simp only [Bool.false_eq_true, if_false]
    exact wpAny_mono (h2 s2 fz2 as2 I2) (fun f s4 q => q.weak (le'.trans le2.lw) (p'.trans p2)) fun _ _ z => z.elim
  | true =>
    simp only [if_true]
    refine wpAny_mono (h2 s2 fz2 as2 I2) (fun f s5 q => ?_) fun _ _ z => z.elim
    obtain ⟨fw, m5, n5, fz5, as5, h5, le5, p5, I5, at5⟩ := q
    have le := le'.trans (le2.lw.trans le5)
    have pp := p'.trans (p2.trans p5)
    have go : (∃ k', k' < k ∧ ∃ m4, Wk m5 m4 ∧ J k' m4 n5) → ∃ k', k' < k ∧ ∃ m' n' fz' as', J k' m' n' ∧ fz.lw fz' ∧ as <+: as' ∧ Iv x m' n' fz' as' s5 := fun ⟨k', hk, m4, w, J4⟩ => ⟨k', hk, m4, n5, fz5, as5, J4, le, pp, I5.wk w⟩
    cases fw with
    | next => simp only [Fw.At] at at5; subst at5; exact go h5
    | cont => simp only [Fw.At] at at5; subst at5; exact go h5
    | brk => simp only [Fw.At] at at5; subst at5; exact ⟨.next, m5, n5, fz5, as5, h5, le, pp, I5, rfl⟩
    | ret sv => obtain ⟨v, rfl, hv⟩ := at5; exact ⟨.ret sv, m5, n5, fz5, as5, h5, le, pp, I5, v, rfl, hv⟩

theorem ES_aug {y : Str} {py : Pos} {op : Operator} {value : Expr} {a : SV} (hy : (y, a) ∈ m) (hu : a ≠ .unset) (hk : x.env.scope.kind = .function) (hl : x.env.kindOf y = some .local) (hcl : x.env.cells.lookup y = none)
    (h : EV x m n value (K2R x m (inplaceOp op) (KAs y m P) a)) : ES x m n (.AugAssign (.Name y py) op value pos) P := fun s fz as I => by
  obtain ⟨mv, hn, hm⟩ := I.loc
  rcases hm _ hy with e | ⟨v, e, ha⟩
  · exact absurd e hu
  · unfold VarAt at e
    rw [hcl] at e
    refine wpAny_AugAssign_Name (wpAny_loadName_local hk hl hn e (wpAny_mono (h s fz as I) (fun vb s1 q => ?_) fun _ _ z => no z))
    obtain ⟨b, n1, fz1, as1, h1, le1, p1, I1, at1⟩ := q
    refine wpAny_mono (h1 s1 fz1 as1 v vb I1 (SV.At.mono le1 p1 a ha) at1) (fun vr s2 q => ?_) fun _ _ z => no z
    obtain ⟨r, n2, fz2, as2, ⟨m', hp, h2⟩, le2, p2, I2, at2⟩ := q
    exact storeName_iv I2 hp at2 hk hl hcl fun s' I' => ⟨.next, m', n2, fz2, as2, h2, (le1.trans le2).lw, p1.trans p2, I', rfl⟩

noncomputable abbrev KExp (m : Loc) (P : Fw → Loc → Mut → Prop) (_ : SV) (n1 : Mut) : Prop := P .next m n1
theorem ES_expr {e : Expr} (h : EV x m n e (KExp m P)) (hi : interactive x.env = false := by rfl) (hs : swapsWith e none pos.line x.env = pure false := by rfl) : ES x m n (.Expr e pos) P := fun s fz as I => by
  refine wpAny_Expr_any (wpAny_mono (h s fz as I) (fun v s1 q => ?_) fun _ _ z => no z) hi hs
  obtain ⟨a, n1, fz1, as1, h1, le1, p1, I1, at1⟩ := q
  exact ⟨.next, m, n1, fz1, as1, h1, le1.lw, p1, I1, rfl⟩
theorem ES_continue (h : P .cont m n) : ES x m n (.Continue pos) P := fun s fz as I => by
  exact wpAny_Continue ⟨.cont, m, n, fz, as, h, .refl _, List.prefix_refl _, I, rfl⟩
theorem ES_break (h : P .brk m n) : ES x m n (.Break pos) P := fun s fz as I => by
  exact wpAny_Break ⟨.brk, m, n, fz, as, h, .refl _, List.prefix_refl _, I, rfl⟩
theorem ES_try {body orelse : List Stmt} {h₀ : ExceptHandler} {hs : List ExceptHandler} (h : EX x m n body (KSeq x orelse P)) :
    ES x m n (.Try body (h₀ :: hs) orelse [] pos) P := fun s fz as I => by
  refine wpAny_Try_except (wpAny_mono (h s fz as I) (fun f s1 q => ?_) fun _ _ z => z.elim)
  obtain ⟨fw, m1, n1, fz1, as1, h1, le1, p1, I1, at1⟩ := q
  cases fw with
  | next => simp only [Fw.At] at at1; subst at1; exact wpAny_mono (h1 s1 fz1 as1 I1) (fun _ _ z => z.weak le1 p1) fun _ _ z => z
  | brk => simp only [Fw.At] at at1; subst at1; exact ⟨.brk, m1, n1, fz1, as1, h1, le1, p1, I1, rfl⟩
  | cont => simp only [Fw.At] at at1; subst at1; exact ⟨.cont, m1, n1, fz1, as1, h1, le1, p1, I1, rfl⟩
  | ret sv => obtain ⟨v, rfl, hv⟩ := at1; exact ⟨.ret sv, m1, n1, fz1, as1, h1, le1, p1, I1, v, rfl, hv⟩
end
end Mine

namespace Mine
open Calls

/-! ### own lists -/
section
variable {x : Cx} {m : Loc} {n : Mut} {fz : Frz} {as : List Addr} {s : Shared} {P : SV → Mut → Prop}

theorem Iv.mlAt (I : Iv x m n fz as s) {k : Nat} {a : Addr} {xs : List SV} (hk : as[k]? = some a) (hx : n[k]? = some xs) : ∃ l ep, s.heap.get? a = some (lstO l ep) ∧ SV.AtL fz as xs l := I.mls k a xs hk hx
theorem Iv.setMl (I : Iv x m n fz as s) {k : Nat} {a : Addr} {ys : List SV} {l : List Value} {ep : Nat} {h' : Heap} (hk : as[k]? = some a) (hs : Heap.SameBut a s.heap h') (ho : h'.get? a = some (lstO l ep)) (hl : SV.AtL fz as ys l) (t : Nat) :
    Iv x m (n.set k ys) fz as { s with heap := h', toks := t } := by
  have hmem := List.mem_of_getElem? hk
  obtain ⟨o1, o2, o3, o4, o5⟩ := I.own a hmem
  refine ⟨I.stat, I.tab.same hs o3 (I.c77 o4), fun b o e hb => (hs.2 b fun q => by rw [q, o4] at e; cases e).trans (I.grow b o e hb), fun b o e => (hs.2 b fun q => by rw [q, o1] at e; cases e).trans (I.frz b o e), I.fzT, I.frb, ?_, I.keys, I.fzL, I.newL, I.LT, by simp [I.len], I.nd, fun b hb => ?_, fun j b xs p q => ?_, I.os.heap fun o e => (hs.2 _ (Ne.symm o3)).trans e, I.bare, I.cel⟩
  · obtain ⟨mv, p, q⟩ := I.loc
    exact ⟨mv, p.sameBut hs (Ne.symm o2), q⟩
  · obtain ⟨p, q, r, t, u⟩ := I.own b hb
    exact ⟨p, q, r, t, by rw [show ({ s with heap := h', toks := _ } : Shared).heap.objs.size = s.heap.objs.size from hs.1]; exact u⟩
  · by_cases e : j = k
    · subst e
      rw [hk] at p; cases p
      have hlt : j < n.length := by rw [← I.len]; exact (List.getElem?_eq_some_iff.mp hk).1
      rw [List.getElem?_set_self hlt] at q; cases q
      exact ⟨l, ep, ho, hl⟩
    · rw [List.getElem?_set_ne (Ne.symm e)] at q
      obtain ⟨l', ep', r, u⟩ := I.mls j b xs p q
      refine ⟨l', ep', (hs.2 b fun z => ?_).trans r, u⟩
      subst z
      have h1 := List.getElem?_eq_some_iff.mp p
      have h2 := List.getElem?_eq_some_iff.mp hk
      exact e ((List.getElem_inj I.nd).mp (h1.2.trans h2.2.symm))

theorem EV_mlist {pos : Pos} (h : P (.ml n.length) (n ++ [[]])) : EV x m n (.List [] pos) P := fun s fz as I => by
  refine wpAny_List_spliced (spliced_nil ?_)
  refine ⟨by decide, .ml n.length, n ++ [[]], fz, as ++ [s.heap.objs.size], h, .refl _, List.prefix_append _ _, I.newMl SV.AtL.nil, ?_⟩
  simp only [SV.At]
  exact ⟨_, rfl, by rw [← I.len]; simp⟩

theorem CL_append {k : Nat} {a : SV} {xs : List SV} (hk : n[k]? = some xs) (hs : xs.length ≤ 1000000) (h : P .none (n.set k (xs ++ [a]))) : CL x m n (.bi "list.append") [.ml k, a] P := fun s fz as vf vs I hf ha => by
  simp only [SV.At] at hf; subst hf
  simp only [SV.AtL] at ha; obtain ⟨_, _, rfl, h1, va, _, rfl, h2, rfl⟩ := ha
  simp only [SV.At] at h1; obtain ⟨b, rfl, hb⟩ := h1
  obtain ⟨l, ep, ho, hl⟩ := I.mls k b xs hb hk
  have hsz : (⟨l⟩ : Array Value).size ≤ sizeLine := by
    show l.length ≤ _
    rw [hl.length]; exact Nat.le_trans hs (by decide)
  refine call_meets F.slot_list_append ⟨_, ho, rfl⟩ F.entry_list_append (F.args_list_append_2 _ _) (list_append b ⟨l⟩ ep va hsz) ⟨ho, ?_⟩
  obtain ⟨n', hd'⟩ := Obj.data_mapSeq (o := lstO l ep) (n := ep) (xs := ⟨l⟩) rfl (·.push va)
  have e : (lstO l ep).mapSeq (·.push va) = lstO (l ++ [va]) n' := by
    have h1 : ((lstO l ep).mapSeq (·.push va)).cls = .type "list" := rfl
    have h2 : ((lstO l ep).mapSeq (·.push va)).dict = none := rfl
    have h3 : ((lstO l ep).mapSeq (·.push va)).slots = #[] := rfl
    revert hd' h1 h2 h3
    cases (lstO l ep).mapSeq (·.push va) with
    | mk c d dt sl => rintro rfl rfl rfl rfl; simp
  have hg : (s.heap.update b (Obj.mapSeq (·.push va))).get? b = some (lstO (l ++ [va]) n') := by
    rw [← e]; exact Heap.get?_update_self _ ho (by rw [e]; rfl)
  exact (I.setMl hb (Heap.SameBut.update ..) hg (hl.append (.cons h2 .nil)) s.toks).post (by simp only [SV.At]) h

theorem CL_pop {k : Nat} {a : SV} {xs : List SV} (hk : n[k]? = some (xs ++ [a])) (hs : xs.length ≤ 1000000) (h : P a (n.set k xs)) : CL x m n (.bi "list.pop") [.ml k] P := fun s fz as vf vs I hf ha => by
  simp only [SV.At] at hf; subst hf
  simp only [SV.AtL] at ha; obtain ⟨_, _, rfl, h1, rfl⟩ := ha
  simp only [SV.At] at h1; obtain ⟨b, rfl, hb⟩ := h1
  obtain ⟨l, ep, ho, hl⟩ := I.mls k b _ hb hk
  obtain ⟨r, va, rfl, hr, hva⟩ : ∃ r va, l = r ++ [va] ∧ SV.AtL fz as xs r ∧ a.At fz as va := by
    clear hk ho h hs
    induction xs generalizing l with
    | nil =>
      simp only [List.nil_append, SV.AtL] at hl
      obtain ⟨v, _, rfl, h1, rfl⟩ := hl
      exact ⟨[], v, rfl, .nil, h1⟩
    | cons y ys ih =>
      simp only [List.cons_append, SV.AtL] at hl
      obtain ⟨v, q, rfl, h1, h2⟩ := hl
      obtain ⟨r, va, rfl, h3, h4⟩ := ih _ h2
      exact ⟨v :: r, va, rfl, .cons h1 h3, h4⟩
  have hsz : (⟨r ++ [va]⟩ : Array Value).size ≤ sizeLine := by
    show (r ++ [va]).length ≤ _
    have h1 := hr.length
    have h4 : (1000001 : Nat) ≤ sizeLine := by decide
    simp only [List.length_append, List.length_cons, List.length_nil]; omega
  refine call_meets F.slot_list_pop ⟨_, ho, rfl⟩ F.entry_list_pop (F.args_list_pop_1 _) (MeetsSeq.list_pop_last b ⟨r ++ [va]⟩ ep va (by simp) hsz) ⟨ho, ?_⟩
  obtain ⟨n', hd'⟩ := Obj.data_mapSeq (o := lstO (r ++ [va]) ep) (n := ep) (xs := ⟨r ++ [va]⟩) rfl (fun xs => xs.eraseIdxIfInBounds ((⟨r ++ [va]⟩ : Array Value).size - 1))
  have e : (lstO (r ++ [va]) ep).mapSeq (fun xs => xs.eraseIdxIfInBounds ((⟨r ++ [va]⟩ : Array Value).size - 1)) = lstO r n' := by
    have h1 : ((lstO (r ++ [va]) ep).mapSeq (fun xs => xs.eraseIdxIfInBounds ((⟨r ++ [va]⟩ : Array Value).size - 1))).cls = .type "list" := rfl
    have h2 : ((lstO (r ++ [va]) ep).mapSeq (fun xs => xs.eraseIdxIfInBounds ((⟨r ++ [va]⟩ : Array Value).size - 1))).dict = none := rfl
    have h3 : ((lstO (r ++ [va]) ep).mapSeq (fun xs => xs.eraseIdxIfInBounds ((⟨r ++ [va]⟩ : Array Value).size - 1))).slots = #[] := rfl
    revert hd' h1 h2 h3
    cases (lstO (r ++ [va]) ep).mapSeq (fun xs => xs.eraseIdxIfInBounds ((⟨r ++ [va]⟩ : Array Value).size - 1)) with
    | mk c d dt sl =>
      rintro rfl rfl rfl rfl
      have : (⟨r ++ [va]⟩ : Array Value).eraseIdxIfInBounds ((⟨r ++ [va]⟩ : Array Value).size - 1) = ⟨r⟩ := by
        apply Array.toList_inj.mp
        rw [Array.eraseIdxIfInBounds_eq]
        simp [List.eraseIdx_append_of_length_le]
      rw [this]
  have hg : (s.heap.update b (Obj.mapSeq (fun xs => xs.eraseIdxIfInBounds ((⟨r ++ [va]⟩ : Array Value).size - 1)))).get? b = some (lstO r n') := by
    rw [← e]; exact Heap.get?_update_self _ ho (by rw [e]; rfl)
  exact (I.setMl hb (Heap.SameBut.update ..) hg hr s.toks).post hva h
end
end Mine

/-! ### data compared -/
namespace Mine
open PySem.SeqAt
theorem allT (k : Nat) : (List.range k).all (fun _ => true) = true := List.all_eq_true.mpr fun _ _ => rfl
mutual
noncomputable def SV.cmp : SV → Bool
  | .str _ => true
  | .list xs => SV.cmpL xs
  | .tup xs => SV.cmpL xs
  | _ => false
noncomputable def SV.cmpL : List SV → Bool
  | [] => true
  | x :: xs => x.cmp && SV.cmpL xs
end
mutual
noncomputable def SV.dep : SV → Nat
  | .list xs => SV.depL xs + 1
  | .tup xs => SV.depL xs + 1
  | _ => 0
noncomputable def SV.depL : List SV → Nat
  | [] => 0
  | x :: xs => max x.dep (SV.depL xs)
end
mutual
theorem eqSame {fz : Frz} {as : List Addr} {s : Shared} (hf : ∀ a o, fz a = some o → s.heap.get? a = some o) : ∀ (a : SV) {A : Around} {v v' : Value}, a.cmp = true → A.units + a.dep < cLine → a.At fz as v → a.At fz as v' → EqAt A s v v' true
  | .str x, A, v, v', _, _, h, h' => by
    simp only [SV.At] at h h'
    obtain ⟨t, rfl⟩ := h; obtain ⟨u, rfl⟩ := h'
    have := EqAt.str_str (A := A) (s := s) ⟨⟨x⟩⟩ t ⟨⟨x⟩⟩ u
    rwa [beq_self_eq_true] at this
  | .list xs, A, v, v', hc, hu, h, h' => by
    simp only [SV.At] at h h'
    obtain ⟨a, l, ep, rfl, e, hl⟩ := h; obtain ⟨b, l', ep', rfl, e', hl'⟩ := h'
    by_cases hab : a = b
    · subst hab; exact EqAt.same _
    · refine EqAt.of_refs hab ?_
      simp only [SV.dep] at hu
      have n1 := hl.length
      have n2 := hl'.length
      have := RcAt.lists (A := A) (s := s) (l := a) (b := b) (items := ⟨l⟩) (items2 := ⟨l'⟩) (e := fun _ => true) ⟨_, hf _ _ e, rfl, ep, rfl⟩ ⟨_, hf _ _ e', rfl, ep', rfl⟩ (by show l.length = l'.length; omega) (by omega) (fun j h1 h2 =>
        eqSameL hf xs (by simpa only [SV.cmp] using hc) (by show A.units + 1 + SV.depL xs < cLine; omega) hl hl' j h1 h2)
      rwa [allT] at this
  | .tup xs, A, v, v', hc, hu, h, h' => by
    simp only [SV.At] at h h'
    obtain ⟨a, l, ep, rfl, e, hl⟩ := h; obtain ⟨b, l', ep', rfl, e', hl'⟩ := h'
    by_cases hab : a = b
    · subst hab; exact EqAt.same _
    · refine EqAt.of_refs hab ?_
      simp only [SV.dep] at hu
      have n1 := hl.length
      have n2 := hl'.length
      have := RcAt.tuples (A := A) (s := s) (l := a) (b := b) (items := ⟨l⟩) (items2 := ⟨l'⟩) (e := fun _ => true) ⟨_, hf _ _ e, rfl, ep, rfl⟩ ⟨_, hf _ _ e', rfl, ep', rfl⟩ (by omega) (fun j h1 h2 =>
        eqSameL hf xs (by simpa only [SV.cmp] using hc) (by show A.units + 1 + SV.depL xs < cLine; omega) hl hl' j h1 h2)
      have e3 : (((⟨l⟩ : Array Value).size) == ((⟨l'⟩ : Array Value).size)) = true := by
        show (l.length == l'.length) = true
        rw [n1, n2]; simp
      rw [e3, allT] at this
      exact this
  | .unset, _, _, _, h, _, _, _ => by simp [SV.cmp] at h
  | .none, _, _, _, h, _, _, _ => by simp [SV.cmp] at h
  | .bool _, _, _, _, h, _, _, _ => by simp [SV.cmp] at h
  | .int _, _, _, _, h, _, _, _ => by simp [SV.cmp] at h
  | .ty _, _, _, _, h, _, _, _ => by simp [SV.cmp] at h
  | .bi _, _, _, _, h, _, _, _ => by simp [SV.cmp] at h
  | .fn _, _, _, _, h, _, _, _ => by simp [SV.cmp] at h
  | .objv, _, _, _, h, _, _, _ => by simp [SV.cmp] at h
  | .ml _, _, _, _, h, _, _, _ => by simp [SV.cmp] at h
  | .app _, _, _, _, h, _, _, _ => by simp [SV.cmp] at h
  | .sl _ _, _, _, _, h, _, _, _ => by simp [SV.cmp] at h
  | .rng _, _, _, _, h, _, _, _ => by simp [SV.cmp] at h
theorem eqSameL {fz : Frz} {as : List Addr} {s : Shared} (hf : ∀ a o, fz a = some o → s.heap.get? a = some o) : ∀ (xs : List SV) {A : Around} {l l' : List Value}, SV.cmpL xs = true → A.units + SV.depL xs < cLine → SV.AtL fz as xs l → SV.AtL fz as xs l' →
    ∀ j (h1 : j < l.length) (h2 : j < l'.length), EqAt A s l[j] l'[j] true
  | [], _, l, _, _, _, h, _, j, h1, _ => by simp only [SV.AtL] at h; subst h; simp at h1
  | x :: xs, A, l, l', hc, hu, h, h', j, h1, h2 => by
    simp only [SV.cmpL, Bool.and_eq_true] at hc
    simp only [SV.depL] at hu
    simp only [SV.AtL] at h h'
    obtain ⟨v, r, rfl, hv, hr⟩ := h
    obtain ⟨v', r', rfl, hv', hr'⟩ := h'
    cases j with
    | zero => exact eqSame hf x hc.1 (by omega) hv hv'
    | succ j => exact eqSameL hf xs hc.2 (by omega) hr hr' j (by simpa using h1) (by simpa using h2)
end
section
variable {x : Cx} {m : Loc} {n : Mut} {P : SV → Mut → Prop}
theorem OP2_eq_list {xs : List SV} (hc : SV.cmpL xs = true) (hu : x.A.units + SV.depL xs + 1 < cLine) (h : P (.bool true) n) : OP2 x m n (.list xs) (.list xs) (compareOp .Eq) P := fun s fz as va vb I ha hb => by
  simp only [SV.At] at ha hb
  obtain ⟨a, l, ep, rfl, e, hl⟩ := ha; obtain ⟨b, l', ep', rfl, e', hl'⟩ := hb
  have n1 := hl.length
  have n2 := hl'.length
  refine RcAt.lists (A := x.A) (s := s) (l := a) (b := b) (items := ⟨l⟩) (items2 := ⟨l'⟩) (e := fun _ => true) ⟨_, I.frz _ _ e, rfl, ep, rfl⟩ ⟨_, I.frz _ _ e', rfl, ep', rfl⟩ (by show l.length = l'.length; omega) (by omega) (fun j h1 h2 =>
    eqSameL I.frz xs hc (by show x.A.units + 1 + SV.depL xs < cLine; omega) hl hl' j h1 h2) pw x.w noE _ ?_
  rw [allT]
  exact I.post (sv := .bool true) at_bool h
theorem OP2_ne_list {xs : List SV} (hc : SV.cmpL xs = true) (hu : x.A.units + SV.depL xs + 1 < cLine) (h : P (.bool false) n) : OP2 x m n (.list xs) (.list xs) (compareOp .NotEq) P := fun s fz as va vb I ha hb => by
  simp only [SV.At] at ha hb
  obtain ⟨a, l, ep, rfl, e, hl⟩ := ha; obtain ⟨b, l', ep', rfl, e', hl'⟩ := hb
  have n1 := hl.length
  have n2 := hl'.length
  refine RcNeAt.lists (A := x.A) (s := s) (l := a) (b := b) (items := ⟨l⟩) (items2 := ⟨l'⟩) (e := fun _ => true) ⟨_, I.frz _ _ e, rfl, ep, rfl⟩ ⟨_, I.frz _ _ e', rfl, ep', rfl⟩ (by show l.length = l'.length; omega) (by omega) (fun j h1 h2 =>
    eqSameL I.frz xs hc (by show x.A.units + 1 + SV.depL xs < cLine; omega) hl hl' j h1 h2) pw x.w noE _ ?_
  rw [allT]
  exact I.post (sv := .bool false) at_bool h
/-- a list against the empty list -/
theorem OP2_eq_nil {xs : List SV} (hu : x.A.units < cLine) (h : P (.bool (decide (xs = []))) n) : OP2 x m n (.list xs) (.list []) (compareOp .Eq) P := fun s fz as va vb I ha hb => by
  simp only [SV.At, SV.AtL] at ha hb
  obtain ⟨a, l, ep, rfl, e, hl⟩ := ha; obtain ⟨b, l', ep', rfl, e', rfl⟩ := hb
  have n1 := hl.length
  by_cases hx : xs = []
  · subst hx
    simp only [SV.AtL] at hl; subst hl
    refine RcAt.lists (A := x.A) (s := s) (l := a) (b := b) (items := ⟨[]⟩) (items2 := ⟨[]⟩) (e := fun _ => true) ⟨_, I.frz _ _ e, rfl, ep, rfl⟩ ⟨_, I.frz _ _ e', rfl, ep', rfl⟩ rfl hu (fun j h1 h2 => nomatch h1) pw x.w noE _ ?_
    simpa using I.post (sv := .bool true) at_bool (by simpa using h)
  · refine RcAt.lists_lengths (A := x.A) (s := s) (l := a) (b := b) (items := ⟨l⟩) (items2 := ⟨[]⟩) ⟨_, I.frz _ _ e, rfl, ep, rfl⟩ ⟨_, I.frz _ _ e', rfl, ep', rfl⟩ (by
      show (l.length != 0) = true
      have : xs.length ≠ 0 := fun z => hx (List.length_eq_zero_iff.mp z)
      simp; intro z; subst z; simp at n1; omega) hu pw x.w noE _ ?_
    exact I.post (sv := .bool false) at_bool (by simpa [hx] using h)
end
end Mine

namespace Mine
open Calls

section
variable {x : Cx} {m : Loc} {n : Mut} {P : SV → Mut → Prop} {pos : Pos}

/-! ### items and slices -/
theorem OP2_item_list {value slice : Expr} {xs : List SV} {i : Int} {a : SV} (h0 : 0 ≤ i) (hi : i ≤ 1000000) (ha : xs[i.toNat]? = some a) (h : P a n) : OP2 x m n (.list xs) (.int i) (subscriptTail value slice) P := fun s fz as va vb I hva hvb => by
  simp only [SV.At] at hva hvb; obtain ⟨b, l, ep, rfl, e, hl⟩ := hva; obtain ⟨t, rfl⟩ := hvb
  obtain ⟨v, h1, h2⟩ := hl.get ha
  exact tail_gen (T := "list") ⟨_, I.frz _ _ e, rfl⟩ slot_list_getitem.lookup (wpAny_getItem_list (items := ⟨l⟩) ⟨_, I.frz _ _ e, rfl, ep, rfl⟩ h0 (by omega) (by simpa using h1) (I.post h2 h))
theorem OP2_last_list {value slice : Expr} {xs : List SV} {a : SV} (hs : xs.length ≤ 1000000) (h : P a n) : OP2 x m n (.list (xs ++ [a])) (.int (-1)) (subscriptTail value slice) P := fun s fz as va vb I hva hvb => by
  simp only [SV.At] at hva hvb; obtain ⟨b, l, ep, rfl, e, hl⟩ := hva; obtain ⟨t, rfl⟩ := hvb
  have n1 := hl.length
  simp at n1
  obtain ⟨v, h1, h2⟩ := hl.get (i := xs.length) (x := a) (by simp)
  refine tail_gen (T := "list") ⟨_, I.frz _ _ e, rfl⟩ slot_list_getitem.lookup (wpAny_getItem_list_neg (items := ⟨l⟩) ⟨_, I.frz _ _ e, rfl, ep, rfl⟩ (by decide) (by show -((l.length : Nat) : Int) ≤ -1; omega) (by decide) ?_ (I.post h2 h))
  have : (-1 + (((⟨l⟩ : Array Value).size : Nat) : Int)).toNat = xs.length := by
    show (-1 + ((l.length : Nat) : Int)).toNat = _
    omega
  rw [this]; simpa using h1
theorem OP2_item_tup {value slice : Expr} {xs : List SV} {i : Nat} {a : SV} (hi : i ≤ 1000000) (hs : xs.length ≤ 1000000) (ha : xs[i]? = some a) (h : P a n) : OP2 x m n (.tup xs) (.int i) (subscriptTail value slice) P := fun s fz as va vb I hva hvb => by
  simp only [SV.At] at hva hvb; obtain ⟨b, l, ep, rfl, e, hl⟩ := hva; obtain ⟨t, rfl⟩ := hvb
  have n1 := hl.length
  obtain ⟨v, h1, h2⟩ := hl.get ha
  have hlt := (List.getElem?_eq_some_iff.mp ha).1
  refine tail_gen (T := "tuple") ⟨_, I.frz _ _ e, rfl⟩ F.slot_tuple_getitem.lookup (PySem.P.getItem_tuple (items := ⟨l⟩) (n := ep) (k := i) (y := v) (I.frz _ _ e) (by omega) (by omega) ?_ (by simpa using h1) (I.post h2 h))
  unfold seqIndex?
  have e1 : (if ((i : Nat) : Int) < 0 then ((i : Nat) : Int) + (((⟨l⟩ : Array Value).size : Nat) : Int) else ((i : Nat) : Int)) = (i : Int) := if_neg (by omega)
  simp only [e1]
  have c : (decide (0 ≤ ((i : Nat) : Int)) && decide (((i : Nat) : Int) < (((⟨l⟩ : Array Value).size : Nat) : Int))) = true := by
    show (decide (0 ≤ ((i : Nat) : Int)) && decide (((i : Nat) : Int) < ((l.length : Nat) : Int))) = true
    rw [decide_eq_true (by omega), decide_eq_true (by omega)]; rfl
  rw [if_pos c]; simp

theorem slicePick_cut (l : List Value) (lo hi : Option Int) : slicePick ⟨l⟩ lo hi none = ⟨cut l lo hi⟩ := by
  unfold slicePick
  apply Array.toList_inj.mp
  rw [List.toList_toArray]
  have e : sliceRange (sliceBounds lo hi none (⟨l⟩ : Array Value).size).1 (sliceBounds lo hi none (⟨l⟩ : Array Value).size).2.1 (sliceBounds lo hi none (⟨l⟩ : Array Value).size).2.2 = Builtin.Str.strSliceIndices lo hi 1 l.length := by
    cases lo <;> cases hi <;> (unfold Builtin.Str.strSliceIndices sliceBounds; rfl)
  rw [e, indices_eq]
  have h1 := clipN_le (Nat.zero_le l.length) lo
  have h2 := clipN_le (Nat.le_refl l.length) hi
  unfold cut
  have := StrLaws.picks l (clipN l.length l.length hi - clipN l.length 0 lo) (clipN l.length 0 lo) (by omega)
  simpa using this
theorem AtL_cut {fz : Frz} {as : List Addr} {xs : List SV} {l : List Value} (h : SV.AtL fz as xs l) (lo hi : Option Int) : SV.AtL fz as (cut xs lo hi) (cut l lo hi) := by
  have hn := h.length
  unfold cut
  rw [hn]
  generalize clipN xs.length xs.length hi - clipN xs.length 0 lo = k
  generalize clipN xs.length 0 lo = j
  have hd : ∀ (j : Nat) (xs : List SV) (l : List Value), SV.AtL fz as xs l → SV.AtL fz as (xs.drop j) (l.drop j) := by
    intro j
    induction j with
    | zero => intro xs l h; simpa using h
    | succ j ih =>
      intro xs l h
      cases xs with
      | nil => simp only [SV.AtL] at h; subst h; simp only [List.drop_nil, SV.AtL]
      | cons y ys =>
        simp only [SV.AtL] at h
        obtain ⟨v, r, rfl, _, h2⟩ := h
        simpa using ih _ _ h2
  have ht : ∀ (j : Nat) (xs : List SV) (l : List Value), SV.AtL fz as xs l → SV.AtL fz as (xs.take j) (l.take j) := by
    intro j
    induction j with
    | zero => intro xs l h; simp only [List.take_zero, SV.AtL]
    | succ j ih =>
      intro xs l h
      cases xs with
      | nil => simp only [SV.AtL] at h; subst h; simp only [List.take_nil, SV.AtL]
      | cons y ys =>
        simp only [SV.AtL] at h
        obtain ⟨v, r, rfl, h1, h2⟩ := h
        simp only [List.take_succ_cons]
        exact .cons h1 (ih _ _ h2)
  exact ht k _ _ (hd j _ _ h)
theorem isPart_partValue (l : Option (Int × Tok)) : IsPart (partValue l) (l.map (·.1)) := by
  cases l with
  | none => exact .none
  | some p => exact .int _ _
theorem OP2_cut_list {value slice : Expr} {xs : List SV} {lo hi : Option Int} (hs : xs.length ≤ 1000000) (h : P (.list (cut xs lo hi)) n) : OP2 x m n (.list xs) (.sl lo hi) (subscriptTail value slice) P := fun s fz as va vb I hva hvb => by
  simp only [SV.At] at hva hvb; obtain ⟨a, l, ep, rfl, e, hl⟩ := hva; obtain ⟨b, p, q, rfl, rfl, rfl, e'⟩ := hvb
  have hsz : (⟨l⟩ : Array Value).size ≤ sizeLine := by show l.length ≤ _; rw [hl.length]; exact Nat.le_trans hs (by decide)
  refine tail_gen (T := "list") ⟨_, I.frz _ _ e, rfl⟩ slot_list_getitem.lookup (wpAny_getItem_list_slice (items := ⟨l⟩) (st := none) ⟨_, I.frz _ _ e, rfl, ep, rfl⟩ ⟨_, I.frz _ _ e', rfl, rfl⟩ (isPart_partValue p) (isPart_partValue q) .none (fun z => nomatch z) ?_ hsz)
  rw [slicePick_cut]
  obtain ⟨I2, le⟩ := I.freeze (lstO (cut l (p.map (·.1)) (q.map (·.1))) 0) rfl
  refine ⟨_, n, _, as, h, le, List.prefix_refl _, I2, ?_⟩
  simp only [SV.At]
  exact ⟨_, _, 0, rfl, Frz.add_self _ _ _, (AtL_cut hl _ _).mono le (List.prefix_refl _)⟩
theorem OP2_add_list {xs ys : List SV} (hs : xs.length + ys.length ≤ 1000000) (h : P (.list (xs ++ ys)) n) : OP2 x m n (.list xs) (.list ys) (binaryOp .Add) P := fun s fz as va vb I hva hvb => by
  simp only [SV.At] at hva hvb; obtain ⟨a, l, ep, rfl, e, hl⟩ := hva; obtain ⟨b, l', ep', rfl, e', hl'⟩ := hvb
  have hsz : (⟨l⟩ : Array Value).size + (⟨l'⟩ : Array Value).size ≤ sizeLine := by show l.length + l'.length ≤ _; rw [hl.length, hl'.length]; exact Nat.le_trans hs (by decide)
  refine PySem.P.add_list (items := ⟨l⟩) (items2 := ⟨l'⟩) (I.frz _ _ e) (I.frz _ _ e') ?_ hsz
  have : (⟨l⟩ : Array Value) ++ ⟨l'⟩ = ⟨l ++ l'⟩ := by simp
  rw [this]
  obtain ⟨I2, le⟩ := I.freeze (lstO (l ++ l') 0) rfl
  refine ⟨_, n, _, as, h, le, List.prefix_refl _, I2, ?_⟩
  simp only [SV.At]
  exact ⟨_, _, 0, rfl, Frz.add_self _ _ _, (hl.append hl').mono le (List.prefix_refl _)⟩
theorem CL_len_list {xs : List SV} (hs : xs.length ≤ 1000000) (h : P (.int xs.length) n) : CL x m n (.bi "len") [.list xs] P := fun s fz as vf vs I hf ha => by
  simp only [SV.At] at hf; subst hf
  simp only [SV.AtL] at ha; obtain ⟨_, _, rfl, hv, rfl⟩ := ha
  simp only [SV.At] at hv; obtain ⟨b, l, ep, rfl, e, hl⟩ := hv
  have n1 := hl.length
  refine call_len_list (items := ⟨l⟩) ⟨_, I.frz _ _ e, rfl, ep, rfl⟩ (by show ((l.length : Nat) : Int) < 2 ^ 63; omega) ?_
  have : (((⟨l⟩ : Array Value).size : Nat) : Int) = xs.length := by show ((l.length : Nat) : Int) = _; rw [n1]
  rw [this]
  exact (I.toks _).post (sv := .int xs.length) (at_int _) h

/-! ### and, or as values -/
theorem EV_bo_one {op : BoolOp} {e : Expr} (h : EV x m n e P) : EV x m n (.BoolOp op [e] pos) P := fun s fz as I => BoolOp_one (h s fz as I)
noncomputable abbrev KEor2 (x : Cx) (m : Loc) (e : Expr) (P : SV → Mut → Prop) (a : SV) (c : Bool) (n2 : Mut) : Prop := match c with | true => P a n2 | false => EV x m n2 e P
noncomputable abbrev KEor (x : Cx) (m : Loc) (e : Expr) (P : SV → Mut → Prop) (a : SV) (n1 : Mut) : Prop := TR x m n1 a (KEor2 x m e P a)
noncomputable abbrev KOr (x : Cx) (m : Loc) (e : Expr) (P : Bool → Mut → Prop) (c : Bool) (n1 : Mut) : Prop := match c with | true => P true n1 | false => TS x m n1 e P
noncomputable abbrev KAnd (x : Cx) (m : Loc) (e : Expr) (P : Bool → Mut → Prop) (c : Bool) (n1 : Mut) : Prop := match c with | true => TS x m n1 e P | false => P false n1
theorem EV_or {e₁ e₂ : Expr} {rest : List Expr} (h : EV x m n e₁ (KEor x m (.BoolOp .Or (e₂ :: rest) pos) P)) : EV x m n (.BoolOp .Or (e₁ :: e₂ :: rest) pos) P := fun s fz as I => by
  refine BoolOp_or (wpAny_mono (h s fz as I) (fun v s1 q => ?_) fun _ _ z => no z)
  obtain ⟨a, n1, fz1, as1, h1, le1, p1, I1, at1⟩ := q
  refine wpAny_mono (h1 s1 fz1 as1 v I1 at1) (fun c s2 q => ?_) fun _ _ z => no z
  obtain ⟨n2, fz2, as2, h2, le2, p2, I2⟩ := q
  cases c with
  | true => exact ⟨a, n2, fz2, as2, h2, le1.trans le2, p1.trans p2, I2, SV.At.mono le2 p2 a at1⟩
  | false => exact wpAny_mono (h2 s2 fz2 as2 I2) (fun _ _ z => z.weak (le1.trans le2) (p1.trans p2)) fun _ _ z => z
theorem TS_or' {e : Expr} {rest : List Expr} {P : Bool → Mut → Prop} (h : TS x m n e (KOr x m (.BoolOp .Or rest pos) P)) : TS x m n (.BoolOp .Or (e :: rest) pos) P := fun s fz as I => by
  refine isTrue_or (wpAny_mono (h s fz as I) (fun c s1 q => ?_) fun _ _ z => no z)
  obtain ⟨n1, fz1, as1, h1, le1, p1, I1⟩ := q
  cases c with
  | true => exact ⟨n1, fz1, as1, h1, le1, p1, I1⟩
  | false => exact wpAny_mono (h1 s1 fz1 as1 I1) (fun _ _ z => z.weak le1 p1) fun _ _ z => z
theorem TS_and' {e : Expr} {rest : List Expr} {P : Bool → Mut → Prop} (h : TS x m n e (KAnd x m (.BoolOp .And rest pos) P)) : TS x m n (.BoolOp .And (e :: rest) pos) P := fun s fz as I => by
  refine isTrue_and (wpAny_mono (h s fz as I) (fun c s1 q => ?_) fun _ _ z => no z)
  obtain ⟨n1, fz1, as1, h1, le1, p1, I1⟩ := q
  cases c with
  | false => exact ⟨n1, fz1, as1, h1, le1, p1, I1⟩
  | true => exact wpAny_mono (h1 s1 fz1 as1 I1) (fun _ _ z => z.weak le1 p1) fun _ _ z => z
theorem TS_or_nil {P : Bool → Mut → Prop} (h : P false n) : TS x m n (.BoolOp .Or [] pos) P := fun s fz as I => isTrue_or_nil ⟨n, fz, as, h, .refl _, List.prefix_refl _, I⟩
theorem TS_and_nil {P : Bool → Mut → Prop} (h : P true n) : TS x m n (.BoolOp .And [] pos) P := fun s fz as I => isTrue_and_nil ⟨n, fz, as, h, .refl _, List.prefix_refl _, I⟩
end
end Mine

namespace Mine
open Calls

section
variable {x : Cx} {m : Loc} {n : Mut} {fz : Frz} {as : List Addr} {s : Shared} {pos : Pos}

/-- where a name may be stored -/
noncomputable def Storable (env : Env) (y : Str) : Prop := (env.kindOf y = some .local ∧ env.cells.lookup y = none) ∨ (env.kindOf y = some .cell ∧ ∃ c, env.cells.lookup y = some c ∧ ∀ z d, env.cells.lookup z = some d → d = c → z = y)

theorem store_varS {y : Str} {a : SV} {m' : Loc} {v : Value} {Q : Unit → Shared → Prop} (I : Iv x m n fz as s) (hp : Put y a m m') (ha : a.At fz as v) (hk : x.env.scope.kind = .function) (hs : Storable x.env y)
    (h : ∀ s' fz', fz.lw fz' → (∀ b o, fz b = some o → x.env.cells.lookup y ≠ some b → fz' b = some o) → Iv x m' n fz' as s' → Q () s') : Run x (storeName x.env y v) Q s := by
  rcases hs with ⟨hl, hcl⟩ | ⟨hl, c, hcl, huniq⟩
  · exact storeName_iv I hp ha hk hl hcl fun s' I' => h s' fz (.refl _) (fun _ _ e _ => e) I'
  · obtain ⟨⟨o, w, ho, hd⟩, hb⟩ := I.cel y c hcl
    refine wpAny_storeName_cell hk hl hcl ⟨o, I.frz _ _ ho, hd⟩ fun h' hc hsb => ?_
    obtain ⟨o', ho', hd'⟩ := hc
    have hodd : ∀ o1, fz c = some o1 → Odd o1 := fun o1 e => by rw [ho] at e; cases e; exact .inl ⟨_, hd⟩
    have cL : c ≠ x.env.locals := fun e => by rw [e, I.fzL] at ho; cases ho
    have cT : c ≠ T0 := fun e => by rw [e, I.fzT] at ho; cases ho
    have cas : c ∉ as := fun e => by rw [(I.own c e).1] at ho; cases ho
    have off : Off c fz (fz.add c o') := ⟨fun b o1 hbne e => (Frz.add_ne hbne).trans e, hodd⟩
    have lw : fz.lw (fz.add c o') := fun b o1 e nc => (Frz.add_ne fun z => by rw [z, ho] at e; cases e; exact nc _ hd).trans e
    have hL : x.env.locals ≠ c := Ne.symm cL
    refine h _ (fz.add c o') lw (fun b o1 e hb' => (Frz.add_ne fun z => hb' (by rw [hcl, z])).trans e) ⟨I.stat, I.tab.same hsb cT (I.c77 hb), fun b o1 e hbt => (hsb.2 b fun q => by rw [q, hb] at e; cases e).trans (I.grow b o1 e hbt), fun b o1 e => ?_, (Frz.add_ne (Ne.symm cT)).trans I.fzT, fun b o1 e => ?_, ?_, by rw [hp.keys]; exact I.keys, (Frz.add_ne hL).trans I.fzL, I.newL, I.LT, I.len, I.nd, fun b hb' => ?_, fun k b xs p q => ?_, I.os.heap fun o e => (hsb.2 _ (Ne.symm cT)).trans e, I.bare, fun z d e => ?_⟩
    · unfold Frz.add at e
      split at e
      · rename_i q; subst q; cases e; exact ho'
      · rename_i q; exact (hsb.2 b q).trans (I.frz b o1 e)
    · unfold Frz.add at e
      split at e
      · rename_i q; subst q; exact .inr hb
      · exact I.frb b o1 e
    · obtain ⟨mv, p, q⟩ := I.loc
      refine ⟨mv, p.sameBut hsb hL, fun u hu => ?_⟩
      rcases hp.mem I.keys u hu with rfl | ⟨h1, h2⟩
      · refine .inr ⟨v, ?_, SV.At.off off _ ha⟩
        unfold VarAt
        rw [show x.env.cells.lookup (y, a).1 = some c from hcl]
        exact ⟨o', Frz.add_self _ _ _, hd'⟩
      · refine (q u h1).imp id fun ⟨v1, e1, e2⟩ => ⟨v1, ?_, SV.At.off off _ e2⟩
        unfold VarAt at e1 ⊢
        cases w2 : x.env.cells.lookup u.1 with
        | none => rw [w2] at e1; exact e1
        | some d =>
          rw [w2] at e1
          obtain ⟨o1, h3, h4⟩ := e1
          exact ⟨o1, (Frz.add_ne fun z => h2 (huniq _ _ w2 z)).trans h3, h4⟩
    · obtain ⟨p, q, r, t, u⟩ := I.own b hb'
      exact ⟨(Frz.add_ne fun z => by rw [z] at hb'; exact cas hb').trans p, q, r, t, by rw [show ({ s with heap := h' } : Shared).heap.objs.size = s.heap.objs.size from hsb.1]; exact u⟩
    · obtain ⟨l, ep, r, t⟩ := I.mls k b xs p q
      exact ⟨l, ep, (hsb.2 b fun z => cas (z ▸ List.mem_of_getElem? p)).trans r, SV.AtL.off off _ t⟩
    · obtain ⟨⟨o1, v1, h1, h2⟩, h3⟩ := I.cel z d e
      by_cases hdc : d = c
      · subst hdc; exact ⟨⟨o', _, Frz.add_self _ _ _, hd'⟩, hb⟩
      · exact ⟨⟨o1, v1, (Frz.add_ne hdc).trans h1, h2⟩, h3⟩

theorem store_var {y : Str} {a : SV} {m' : Loc} {v : Value} {Q : Unit → Shared → Prop} (I : Iv x m n fz as s) (hp : Put y a m m') (ha : a.At fz as v) (hk : x.env.scope.kind = .function) (hs : Storable x.env y)
    (h : ∀ s' fz', fz.lw fz' → Iv x m' n fz' as s' → Q () s') : Run x (storeName x.env y v) Q s := store_varS I hp ha hk hs fun s' fz' lw _ I' => h s' fz' lw I'

/-! ### unpacking -/
theorem draw_ok {I : Addr} {fp : List Addr} {xs : List SV} {P : Nat → Value → Prop} {St : Nat → Heap → Prop} (hb : x.base.get? I = none) : ∀ (k i : Nat) (fz : Frz) (s : Shared), i + k ≤ xs.length → Iv x m n fz as s → (∃ o, fz I = some o) → Src x fz as I fp xs P St → St i s.heap →
    ∀ {Q : List Value → Shared → Prop}, (∀ vs fz' s', Iv x m n fz' as s' → (∃ o, fz' I = some o) → Src x fz' as I fp xs P St → St (i + k) s'.heap → Off I fz fz' → SV.AtL fz' as ((xs.drop i).take k) vs → Q vs s') → Run x (draw (.ref I) k) Q s
  | 0, i, fz, s, _, J, ⟨o, ho⟩, S, st, Q, h => by
    show Run x (pure []) Q s
    exact wpAny_pure (h [] fz s J ⟨o, ho⟩ S st ⟨fun _ _ _ e => e, fun o' e => (S.isOdd J st o' e).1⟩ (by simp only [List.take_zero, SV.AtL]))
  | k + 1, i, fz, s, hle, J, ⟨o, ho⟩, S, st, Q, h => by
    have hlt : i < xs.length := by omega
    show Run x (pyNext (.ref I) >>= _) Q s
    refine wpAny_bind (S.item J ho hb st (List.getElem?_eq_getElem hlt) fun v o' s1 J1 st1 S1 at1 off1 => ?_)
    refine wpAny_bind (wpAny_holding (draw_ok hb k (i + 1) _ s1 (by omega) J1 ⟨o', Frz.add_self _ _ _⟩ S1 st1 fun vs fz2 s2 J2 ho2 S2 st2 off2 at2 => wpAny_pure ?_))
    refine h _ fz2 s2 J2 ho2 S2 (by rw [show i + (k + 1) = i + 1 + k by omega]; exact st2) ⟨fun b o1 hbne e => off2.1 b o1 hbne (off1.1 b o1 hbne e), off1.2⟩ ?_
    rw [List.drop_eq_getElem_cons hlt, List.take_succ_cons]
    exact .cons (SV.At.off off2 _ at1) at2

inductive SeqOf : SV → List SV → Prop
  | list {xs : List SV} : SeqOf (.list xs) xs
  | tup {xs : List SV} : SeqOf (.tup xs) xs
theorem SeqOf.iter {a : SV} {xs : List SV} (h : SeqOf a xs) : IterOf a xs := by cases h <;> constructor

theorem unpackItems_ok {a : SV} {v : Value} {xs : List SV} {k : Nat} (hA : x.A.handled = none) (J : Iv x m n fz as s) (ha : a.At fz as v) (hi : SeqOf a xs) (hk : k = xs.length) {Q : List Value → Shared → Prop}
    (h : ∀ vs s' fz', fz.le fz' → Iv x m n fz' as s' → SV.AtL fz' as xs vs → Q vs s') : Run x (unpackItems v k none) Q s := by
  subst hk
  have notIter : ∀ {Q : Bool → Shared → Prop}, Q false s → Run x (notIterableAtAll v) Q s := by
    intro Q hq
    unfold notIterableAtAll
    cases hi with
    | list =>
      simp only [SV.At] at ha
      obtain ⟨b, l, ep, rfl, e, hl⟩ := ha
      refine wpAny_bind (wpAny_specialOf (T := "list") ⟨_, J.frz _ _ e, rfl⟩ slot_list_iter.lookup ?_)
      exact wpAny_pure hq
    | tup =>
      simp only [SV.At] at ha
      obtain ⟨b, l, ep, rfl, e, hl⟩ := ha
      refine wpAny_bind (wpAny_specialOf (T := "tuple") ⟨_, J.frz _ _ e, rfl⟩ F.slot_tuple_iter.lookup ?_)
      exact wpAny_pure hq
  unfold unpackItems
  refine wpAny_bind (notIter ?_)
  simp only [Bool.false_eq_true, if_false]
  refine wpAny_bind (wpAny_holding (iter_ok hA J ha hi.iter fun it o fp P St s1 hfn hbn J1 S1 st1 => ?_))
  refine wpAny_bind (wpAny_holding (draw_ok hbn xs.length 0 _ s1 (by omega) J1 ⟨o, Frz.add_self _ _ _⟩ S1 st1 fun vs fz2 s2 J2 ho2 S2 st2 off2 at2 => ?_))
  rw [List.drop_zero, List.take_length] at at2
  rw [if_neg (by rw [at2.length]; omega)]
  obtain ⟨o2, ho2⟩ := ho2
  rw [Nat.zero_add] at st2
  have hodd2 := S2.isOdd J2 st2
  refine wpAny_bind (wpAny_holding (S2.done J2 ho2 hbn st2 fun s3 J3 => ?_))
  simp only [Option.isSome_none, Bool.false_eq_true, if_false]
  refine wpAny_pure (h vs s3 _ (fun b o1 e => ?_) J3 (SV.AtL.off (.del fun o1 e => (hodd2 o1 e).1) _ at2))
  have hbi : b ≠ it := fun z => by rw [z, hfn] at e; cases e
  exact (Frz.del_ne hbi).trans (off2.1 b o1 hbi ((Frz.add_ne hbi).trans e))

inductive Puts : List Str → List SV → Loc → Loc → Prop
  | nil {m : Loc} : Puts [] [] m m
  | cons {y : Str} {a : SV} {ys : List Str} {as : List SV} {m m1 m' : Loc} : Put y a m m1 → Puts ys as m1 m' → Puts (y :: ys) (a :: as) m m'

theorem binds_ok (hk : x.env.scope.kind = .function) : ∀ (ys : List Str) (xs : List SV) (vs : List Value) (fz : Frz) (m m' : Loc) (s : Shared), Iv x m n fz as s → SV.AtL fz as xs vs → Puts ys xs m m' → (∀ y ∈ ys, Storable x.env y) →
    ∀ {Q : Unit → Shared → Prop}, (∀ s' fz', fz.lw fz' → Iv x m' n fz' as s' → Q () s') → Run x (assignInOrder (ys.map fun y => bindName x.env y) vs) Q s
  | [], xs, vs, fz, m, m', s, J, _, hp, _, Q, h => by
    cases hp
    unfold assignInOrder
    simp only [List.map_nil]
    exact wpAny_pure (h s fz (.refl _) J)
  | y :: ys, xs, vs, fz, m, m', s, J, hat, hp, hs, Q, h => by
    cases hp with
    | cons p1 p2 =>
      simp only [SV.AtL] at hat
      obtain ⟨v, r, rfl, hv, hr⟩ := hat
      show Run x (holding r (bindName x.env y v) >>= fun _ => assignInOrder (ys.map fun y => bindName x.env y) r) Q s
      refine wpAny_bind (wpAny_holding (wpAny_bindName (store_var J p1 hv hk (hs y (by simp)) fun s1 fz1 lw1 J1 => ?_)))
      exact binds_ok hk ys _ r fz1 _ m' s1 J1 (SV.AtL.monoW lw1 (List.prefix_refl _) _ hr) p2 (fun z hz => hs z (by simp [hz])) fun s2 fz2 lw2 J2 => h s2 fz2 (lw1.trans lw2) J2

inductive Targets : List Expr → List Str → Prop
  | nil : Targets [] []
  | cons {y : Str} {p : Pos} {es : List Expr} {ys : List Str} : Targets es ys → Targets (.Name y p :: es) (y :: ys)
theorem assigns_ok (hk : x.env.scope.kind = .function) {es : List Expr} {ys : List Str} (hn : Targets es ys) : ∀ (xs : List SV) (vs : List Value) (fz : Frz) (m m' : Loc) (s : Shared), Iv x m n fz as s → SV.AtL fz as xs vs → Puts ys xs m m' → (∀ y ∈ ys, Storable x.env y) →
    ∀ {Q : Unit → Shared → Prop}, (∀ s' fz', fz.lw fz' → Iv x m' n fz' as s' → Q () s') → Run x (assignInOrder ((assignEach es x.env).map (·.2)) vs) Q s := by
  induction hn with
  | nil =>
    intro xs vs fz m m' s J _ hp _ Q h
    cases hp
    show Run x (assignInOrder [] vs) Q s
    unfold assignInOrder
    exact wpAny_pure (h s fz (.refl _) J)
  | @cons y p es zs hz ih =>
    intro xs vs fz m m' s J hat hp hs Q h
    cases hp with
    | cons p1 p2 =>
      simp only [SV.AtL] at hat
      obtain ⟨v, r, rfl, hv, hr⟩ := hat
      show Run x (holding r (assign (.Name y p) x.env v) >>= fun _ => assignInOrder ((assignEach es x.env).map (·.2)) r) Q s
      refine wpAny_bind (wpAny_holding (wpAny_assign_Name (store_var J p1 hv hk (hs y (by simp)) fun s1 fz1 lw1 J1 => ?_)))
      exact ih _ r fz1 _ m' s1 J1 (SV.AtL.monoW lw1 (List.prefix_refl _) _ hr) p2 (fun z hz => hs z (by simp [hz])) fun s2 fz2 lw2 J2 => h s2 fz2 (lw1.trans lw2) J2

section
variable {P : Fw → Loc → Mut → Prop}
theorem ES_assign_var {y : Str} {p' : Pos} {value : Expr} (h : EV x m n value (KAs y m P)) (hk : x.env.scope.kind = .function) (hst : Storable x.env y)
    (hs : swapsWith value (some (.Name y p')) pos.line x.env = pure false) : ES x m n (.Assign [.Name y p'] value pos) P := fun s fz as I => by
  refine wpAny_Assign_Name (wpAny_mono (h s fz as I) (fun v s1 q => ?_) fun _ _ z => no z) hs
  obtain ⟨a, n1, fz1, as1, ⟨m', hp, h1⟩, le1, p1, I1, at1⟩ := q
  exact store_var I1 hp at1 hk hst fun s' fz' lw I' => ⟨.next, m', n1, fz', as1, h1, le1.lw.trans lw, p1, I', rfl⟩

theorem ES_tup {elts : List Expr} {k : Nat} {tpos : Pos} {value : Expr} {ys : List Str} (hA : x.A.handled = none) (hk : x.env.scope.kind = .function) (hys : Targets elts ys) (hlen : (assignEach elts x.env).length = ys.length) (hstar : (assignEach elts x.env).findIdx? (·.1) = none) (hst : ∀ y ∈ ys, Storable x.env y)
    (hs : swapsWithSole [.Tuple elts k tpos] value pos.line x.env = pure false) (hw : swappedStores [.Tuple elts k tpos] value x.env = pure none)
    (h : EV x m n value (fun a n1 => ∃ xs, SeqOf a xs ∧ xs.length = ys.length ∧ ∃ m', Puts ys xs m m' ∧ P .next m' n1)) : ES x m n (.Assign [.Tuple elts k tpos] value pos) P := fun s fz as I => by
  refine Assign_Tuple (wpAny_mono (h s fz as I) (fun v s1 q => ?_) fun _ _ z => no z) hs hw
  obtain ⟨a, n1, fz1, as1, ⟨xs, hi, hl, m', hp, h1⟩, le1, p1, I1, at1⟩ := q
  rw [arm_assign_Tuple]
  refine wpAny_bind (wpAny_standAt ?_)
  unfold unpack
  rw [hstar]
  refine wpAny_bind (wpAny_holding (unpackItems_ok hA I1 at1 hi (hlen.trans hl.symm) fun vs s2 fz2 le2 I2 at2 => ?_))
  exact assigns_ok hk hys xs vs fz2 m m' s2 I2 at2 hp hst fun s3 fz3 lw3 I3 => ⟨.next, m', n1, fz3, as1, h1, (le1.trans le2).lw.trans lw3, p1, I3, rfl⟩

theorem ES_tup_sw {elts : List Expr} {k : Nat} {tpos : Pos} {value : Expr} {ys : List Str} (hA : x.A.handled = none) (hk : x.env.scope.kind = .function) (hst : ∀ y ∈ ys, Storable x.env y)
    (hs : swapsWithSole [.Tuple elts k tpos] value pos.line x.env = pure false) (hw : swappedStores [.Tuple elts k tpos] value x.env = pure (some ys))
    (h : EV x m n value (fun a n1 => ∃ xs, SeqOf a xs ∧ xs.length = ys.length ∧ ∃ m', Puts ys.reverse xs.reverse m m' ∧ P .next m' n1)) : ES x m n (.Assign [.Tuple elts k tpos] value pos) P := fun s fz as I => by
  refine Assign_Tuple_swapped (wpAny_mono (h s fz as I) (fun v s1 q => ?_) fun _ _ z => no z) hs hw
  obtain ⟨a, n1, fz1, as1, ⟨xs, hi, hl, m', hp, h1⟩, le1, p1, I1, at1⟩ := q
  refine unpackItems_ok hA I1 at1 hi hl.symm fun vs s2 fz2 le2 I2 at2 => ?_
  have hrev : ∀ (xs : List SV) (vs : List Value), SV.AtL fz2 as1 xs vs → SV.AtL fz2 as1 xs.reverse vs.reverse := by
    intro xs
    induction xs with
    | nil => intro vs h; simp only [SV.AtL] at h; subst h; simp only [List.reverse_nil, SV.AtL]
    | cons a r ih =>
      intro vs h
      simp only [SV.AtL] at h
      obtain ⟨v, q, rfl, h1, h2⟩ := h
      rw [List.reverse_cons, List.reverse_cons]
      exact (ih _ h2).append (.cons h1 .nil)
  exact binds_ok hk ys.reverse xs.reverse vs.reverse fz2 m m' s2 I2 (hrev _ _ at2) hp (fun y hy => hst y (by simpa using hy)) fun s3 fz3 lw3 I3 => ⟨.next, m', n1, fz3, as1, h1, (le1.trans le2).lw.trans lw3, p1, I3, rfl⟩
end
end
end Mine

namespace Mine
open Calls

theorem newCompEnv {M : Model} {A : Around} {E : Value → Shared → Prop} {s : Shared} {scope : Scope} {globals : Addr} {cl : List (Str × Addr)} {qual : Str} {env : Env} {Q : Env → Shared → Prop}
    (h : Q { scope, locals := s.heap.objs.size, globals, cells := cellsFrom (s.heap.objs.size + 1) scope.names cl, qual, func := none, code := env.code, frame := env.frame, builtins := env.builtins } { s with heap := pushCells (s.heap.push { cls := .type "dict", data := .dict #[] }) scope.names }) :
    wpAny M A (newFunctionEnv scope globals cl [] qual none .none (some env)) Q E s := by
  simp only [newFunctionEnv, Option.isSome_some, if_true]
  refine wpAny_bind (wpAny_alloc ?_)
  refine wpAny_bind (wpAny_layCells _ (fun _ q _ => by cases q <;> rfl) _ _ _ _ ?_)
  rw [show ({ s with heap := s.heap.push { cls := .type "dict", data := .dict #[] } } : Shared).heap.objs.size = s.heap.objs.size + 1 from Heap.size_push ..]
  exact wpAny_bind (wpAny_pure (wpAny_pure h))

theorem cellsFrom_good {G : Addr → Prop} (lo : Nat) : ∀ (names : List (Str × NameKind)) (h : Heap) (acc : List (Str × Addr)), lo ≤ h.objs.size → (∀ y c, acc.lookup y = some c → G c ∨ (lo ≤ c ∧ h.IsCell c none)) →
    ∀ y c, (cellsFrom h.objs.size names acc).lookup y = some c → G c ∨ (lo ≤ c ∧ (pushCells h names).IsCell c none)
  | [], h, acc, hlo, ha, y, c, e => ha y c e
  | (name, kind) :: r, h, acc, hlo, ha, y, c, e => by
    unfold cellsFrom at e
    unfold pushCells
    split at e
    · rename_i hk
      rw [if_pos hk]
      have := cellsFrom_good (G := G) lo r (h.push { cls := .type "cell", data := .cell none }) ((name, h.objs.size) :: acc) (by rw [Heap.size_push]; omega) (fun z d q => by
        rw [List.lookup_cons] at q
        split at q
        · cases q; exact .inr ⟨hlo, _, Heap.get?_push_size _ rfl, rfl⟩
        · exact (ha z d q).imp id fun ⟨h1, h2⟩ => ⟨h1, h2.keeps fun b o e => Heap.get?_push_of_some _ e⟩) y c (by rw [Heap.size_push]; exact e)
      exact this
    · rename_i hk
      rw [if_neg hk]
      exact cellsFrom_good lo r h acc hlo ha y c e

noncomputable def cenv (x : Cx) (scope : Scope) (cl : List (Str × Addr)) (C : Addr) : Env := compEnvC scope (cellsFrom (C + 1) scope.names cl) C x.env
noncomputable def Cx.inn (x : Cx) (scope : Scope) (cl : List (Str × Addr)) (C : Addr) : Cx := { x with env := cenv x scope cl C }

/-- what the frame of a comprehension sees of the frame around -/
noncomputable def Sees (x : Cx) (m : Loc) (scope : Scope) (cl : List (Str × Addr)) (m0 : Loc) : Prop :=
  ∀ p ∈ m0, p.2 = .unset ∨ (p ∈ m ∧ ∃ c, x.env.cells.lookup p.1 = some c ∧ ∀ C, (cenv x scope cl C).cells.lookup p.1 = some c)

section
variable {x : Cx} {m : Loc} {n : Mut} {fz : Frz} {as : List Addr} {s : Shared}

theorem pushCells_size : ∀ (names : List (Str × NameKind)) (h : Heap), h.objs.size ≤ (pushCells h names).objs.size
  | [], h => Nat.le_refl _
  | (_, kind) :: r, h => by
    unfold pushCells
    split
    · exact Nat.le_trans (by rw [Heap.size_push]; omega) (pushCells_size r _)
    · exact pushCells_size r h

/-- the frame of a comprehension is made; the frame around is held as it is -/
theorem Iv.inn (I : Iv x m n fz as s) {scope : Scope} {cl : List (Str × Addr)} {m0 : Loc} (hcl : ∀ y c, cl.lookup y = some c → ∃ z, x.env.cells.lookup z = some c) (hs : Sees x m scope cl m0) (hk : (m0.map (·.1)).Nodup) :
    ∃ oL fz', s.heap.get? x.env.locals = some oL ∧ Odd oL ∧ (∀ v, oL.data ≠ .cell v) ∧ fz' x.env.locals = some oL ∧ fz.le fz' ∧ (∀ y c, (cenv x scope cl s.heap.objs.size).cells.lookup y = some c → (∃ z, x.env.cells.lookup z = some c) ∨ (fz c = none ∧ c ≠ x.env.locals)) ∧
      Iv (x.inn scope cl s.heap.objs.size) m0 n fz' as { s with heap := pushCells (s.heap.push { cls := .type "dict", data := .dict #[] }) scope.names } := by
  obtain ⟨mv, hns, hloc⟩ := I.loc
  obtain ⟨oL, es, ep, hoL, hdL, hnsr⟩ := id hns
  have keep1 : ∀ b o, (s.heap.push { cls := .type "dict", data := .dict #[] }).get? b = some o → (pushCells (s.heap.push { cls := .type "dict", data := .dict #[] }) scope.names).get? b = some o := pushCells_keeps _ _
  have keep : ∀ b o, s.heap.get? b = some o → (pushCells (s.heap.push { cls := .type "dict", data := .dict #[] }) scope.names).get? b = some o := fun b o e => keep1 b o (Heap.get?_push_of_some _ e)
  have hodd : Odd oL := .inr (.inl ⟨_, _, hdL⟩)
  have hnc : ∀ v, oL.data ≠ .cell v := fun v e => by rw [hdL] at e; cases e
  generalize hH : pushCells (s.heap.push { cls := .type "dict", data := .dict #[] }) scope.names = H at keep keep1
  have hsz : s.heap.objs.size + 1 ≤ H.objs.size := by
    rw [← hH]
    have := pushCells_size scope.names (s.heap.push { cls := .type "dict", data := .dict #[] })
    rw [Heap.size_push] at this; exact this
  have hC : H.Ns s.heap.objs.size (fun _ => none) := (Heap.Ns.new s.heap (.type "dict")).keeps keep1
  let fz' : Frz := fun b => if s.heap.objs.size < b then H.get? b else (fz.add x.env.locals oL) b
  have hlt : ∀ b, b < s.heap.objs.size → fz' b = (fz.add x.env.locals oL) b := fun b hb => if_neg (Nat.lt_asymm hb)
  have hge : ∀ b, s.heap.objs.size < b → fz' b = H.get? b := fun b hb => if_pos hb
  have hCn : fz' s.heap.objs.size = none := by
    show (if s.heap.objs.size < s.heap.objs.size then _ else (fz.add x.env.locals oL) s.heap.objs.size) = none
    rw [if_neg (Nat.lt_irrefl _), Frz.add_ne (Nat.ne_of_gt I.L_lt)]
    exact I.newF (Nat.le_refl _)
  have le : fz.le fz' := fun b o e => by
    have hb := Heap.lt_size (I.frz b o e)
    rw [hlt b hb, Frz.add_ne (fun z => by rw [z, I.fzL] at e; cases e)]; exact e
  have hget : ∀ b o, fz' b = some o → H.get? b = some o := fun b o e => by
    by_cases hb : s.heap.objs.size < b
    · rwa [hge b hb] at e
    · have e' : (fz.add x.env.locals oL) b = some o := by
        have : fz' b = (fz.add x.env.locals oL) b := if_neg hb
        rwa [this] at e
      unfold Frz.add at e'
      split at e'
      · rename_i q; subst q; cases e'; exact keep _ _ hoL
      · exact keep _ _ (I.frz b o e')
  have hLz : fz' x.env.locals = some oL := by rw [hlt _ I.L_lt]; exact Frz.add_self _ _ _
  have hcells := cellsFrom_good (G := fun c => ∃ z, x.env.cells.lookup z = some c) (s.heap.objs.size + 1) scope.names (s.heap.push { cls := .type "dict", data := .dict #[] }) cl (by rw [Heap.size_push]; exact Nat.le_refl _) (fun y c e => .inl (hcl y c e))
  rw [Heap.size_push, hH] at hcells
  refine ⟨oL, fz', hoL, hodd, hnc, hLz, le, fun y c e => ?_, ⟨I.stat, I.tab.keeps keep, fun a o e ha => keep a o (I.grow a o e ha), hget, ?_, fun a o e => ?_, ⟨_, hC, fun p hp => ?_⟩, hk, hCn, I.newB (Nat.le_refl _), Nat.ne_of_gt I.hT, I.len, I.nd, fun a ha => ?_, fun k a xs p q => ?_, I.os.heap fun o e => keep _ _ e, I.bare, fun y c e => ?_⟩⟩
  · refine (hcells y c e).imp id fun ⟨h1, _⟩ => ⟨I.newF (Nat.le_of_lt h1), Nat.ne_of_gt (Nat.lt_trans I.L_lt h1)⟩
  · rw [hlt _ I.hT, Frz.add_ne (Ne.symm I.LT)]; exact I.fzT
  · by_cases hb : s.heap.objs.size < a
    · exact .inr (I.newB (Nat.le_of_lt hb))
    · have e' : (fz.add x.env.locals oL) a = some o := by
        have : fz' a = (fz.add x.env.locals oL) a := if_neg hb
        rwa [this] at e
      unfold Frz.add at e'
      split at e'
      · rename_i q; subst q; exact .inr I.newL
      · exact I.frb a o e'
  · rcases hs p hp with h | ⟨h1, c, h2, h3⟩
    · exact .inl h
    · refine (hloc p h1).imp id fun ⟨v, e1, e2⟩ => ⟨v, ?_, e2.mono le (List.prefix_refl _)⟩
      unfold VarAt at e1 ⊢
      rw [h2] at e1
      rw [show (x.inn scope cl s.heap.objs.size).env.cells.lookup p.1 = some c from h3 _]
      obtain ⟨o, e3, e4⟩ := e1
      exact ⟨o, le _ _ e3, e4⟩
  · obtain ⟨p, q, r, t, u⟩ := I.own a ha
    refine ⟨?_, Nat.ne_of_lt u, r, t, Nat.lt_of_lt_of_le u (Nat.le_of_succ_le hsz)⟩
    rw [hlt _ u, Frz.add_ne q]; exact p
  · obtain ⟨l, ep, r, t⟩ := I.mls k a xs p q
    exact ⟨l, ep, keep _ _ r, t.mono le (List.prefix_refl _)⟩
  · rcases hcells y c e with ⟨z, hz⟩ | ⟨h1, o, h2, h3⟩
    · obtain ⟨⟨o, v, h4, h5⟩, h6⟩ := I.cel z c hz
      exact ⟨⟨o, v, le _ _ h4, h5⟩, h6⟩
    · exact ⟨⟨o, none, by rw [hge c h1]; exact h2, h3⟩, I.newB (Nat.le_of_lt h1)⟩

/-- the frame of a comprehension is left, its list is laid down -/
theorem Iv.out {scope : Scope} {cl : List (Str × Addr)} {C D : Addr} {m0 : Loc} {n2 : Mut} {ys : List SV} {fz2 : Frz} {s2 : Shared} {oL : Obj} {h' : Heap} (I : Iv x m n fz as s) (J : Iv (x.inn scope cl C) m0 (n2 ++ [ys]) fz2 (as ++ [D]) s2)
    (hn : n2 = n) (hoL : s.heap.get? x.env.locals = some oL) (hodd : Odd oL) (hnc : ∀ v, oL.data ≠ .cell v) (hL : fz2 x.env.locals = some oL) (le : fz.le fz2) (hs : Heap.SameBut C s2.heap h') (hpn : ∀ xs ∈ n, SV.pureL xs = true) (hpy : SV.pureL ys = true) :
    ∃ fz3, fz.le fz3 ∧ fz3 C = none ∧ Iv x m n fz3 as { s2 with heap := h' } ∧ (SV.list ys).At fz3 as (.ref D) := by
  subst hn
  obtain ⟨mv, hns, hloc⟩ := I.loc
  obtain ⟨oL', es, ep, hoL', hdL, hnsr⟩ := id hns
  rw [hoL] at hoL'; cases hoL'
  have hlen := I.len
  have hCL : (x.inn scope cl C).env.locals = C := rfl
  have fzC : fz2 C = none := J.fzL
  have off : Off x.env.locals fz2 (fz2.del x.env.locals) := .del fun o e => by rw [hL] at e; cases e; exact hodd
  have le3 : fz.le (fz2.del x.env.locals) := fun b o e => (Frz.del_ne fun z => by rw [z, I.fzL] at e; cases e).trans (le b o e)
  have hget : ∀ b o, fz2 b = some o → h'.get? b = some o := fun b o e => (hs.2 b fun z => by rw [z, fzC] at e; cases e).trans (J.frz b o e)
  have base : x.base.get? C = none := J.newL
  have nd := J.nd
  rw [List.nodup_append] at nd
  have K : Iv x m n2 (fz2.del x.env.locals) as { s2 with heap := h' } := by
    refine ⟨I.stat, J.tab.same hs J.LT (J.c77 base), fun a o e ha => (hs.2 a fun z => by rw [z, base] at e; cases e).trans (J.grow a o e ha), fun a o e => hget a o (Frz.del_le e).1, (Frz.del_ne (Ne.symm I.LT)).trans J.fzT, fun a o e => J.frb a o (Frz.del_le e).1, ⟨mv, ⟨oL, es, ep, hget _ _ hL, hdL, hnsr⟩, fun p hp => (hloc p hp).imp id fun ⟨v, e1, e2⟩ => ⟨v, e1.le le3, e2.mono le3 (List.prefix_refl _)⟩⟩, I.keys, Frz.del_self _ _, I.newL, I.LT, hlen, I.nd, fun a ha => ?_, fun k a xs p q => ?_, OsOk.heap (x := x) J.os fun o e => (hs.2 _ (Ne.symm J.LT)).trans e, J.bare, fun y c e => ?_⟩
    · obtain ⟨p, q, r, t, u⟩ := J.own a (List.mem_append_left _ ha)
      refine ⟨?_, (I.own a ha).2.1, r, t, by rw [show ({ s2 with heap := h' } : Shared).heap.objs.size = s2.heap.objs.size from hs.1]; exact u⟩
      unfold Frz.del; split
      · rfl
      · exact p
    · have hk : k < as.length := (List.getElem?_eq_some_iff.mp p).1
      obtain ⟨l, ep', r, t⟩ := J.mls k a xs (by rw [List.getElem?_append_left hk]; exact p) (by rw [List.getElem?_append_left (by omega)]; exact q)
      exact ⟨l, ep', (hs.2 a (J.own a (List.mem_append_left _ (List.mem_of_getElem? p))).2.1).trans r, SV.AtL.off (as := as) off _ (SV.AtL.pure xs (hpn xs (List.mem_of_getElem? q)) t)⟩
    · obtain ⟨⟨o, v, h1, h2⟩, h3⟩ := I.cel y c e
      exact ⟨⟨o, v, le3 _ _ h1, h2⟩, h3⟩
  have hD1 : (as ++ [D])[as.length]? = some D := by simp
  obtain ⟨l, ep', r, t⟩ := J.mls as.length D ys hD1 (by rw [hlen]; simp)
  obtain ⟨d1, d2, d3, d4, d5⟩ := J.own D (by simp)
  have hDL : D ≠ x.env.locals := fun z => by rw [z, hL] at d1; cases d1
  have hDas : D ∉ as := fun z => nd.2.2 D z D (by simp) rfl
  have hD2 : (fz2.del x.env.locals) D = none := (Frz.del_ne hDL).trans d1
  have leD := Frz.le_add (lstO l ep') hD2
  refine ⟨(fz2.del x.env.locals).add D (lstO l ep'), le3.trans leD, (Frz.add_ne (Ne.symm d2)).trans (by unfold Frz.del; split; rfl; exact fzC), K.hold hD2 ((hs.2 D d2).trans r) ⟨hDL, d3, hDas, d4⟩, ?_⟩
  simp only [SV.At]
  exact ⟨D, l, ep', rfl, Frz.add_self _ _ _, (SV.AtL.off off _ (SV.AtL.pure ys hpy t)).mono leD (List.prefix_refl _)⟩

theorem pureL_append : ∀ (a b : List SV), SV.pureL (a ++ b) = (SV.pureL a && SV.pureL b)
  | [], b => by simp [SV.pureL]
  | x :: r, b => by simp [SV.pureL, pureL_append r b, Bool.and_assoc]
/-- the tests of a comprehension -/
noncomputable def TSs (x : Cx) (m : Loc) (n : Mut) : List Expr → (Bool → Mut → Prop) → Prop
  | [], P => P true n
  | [c], P => TS x m n c P
  | _, _ => False

theorem take_filterMap {T U : Type} {ts : List T} {r : T → Option U} {i : Nat} {t : T} (ha : ts[i]? = some t) : (ts.take (i + 1)).filterMap r = (ts.take i).filterMap r ++ (r t).toList := by
  rw [List.take_add_one, ha, List.filterMap_append]
  have : List.filterMap r [t] = (r t).toList := by
    cases hrt : r t with
    | none => exact List.filterMap_cons_none hrt
    | some u => exact List.filterMap_cons_some hrt
  exact congrArg _ this
inductive CInv {T : Type} (x : Cx) (L : Addr) (oL : Obj) (r : T → Option SV) (ts : List T) (m0 : Loc) (n1 : Mut) (as : List Addr) (fz1 : Frz) (it : Addr) (fp : List Addr) (xs : List SV) (PP : Nat → Value → Prop) (St : Nat → Heap → Prop) (k : Nat) (s' : Shared) : Prop
  | mk (i : Nat) (fz' : Frz) (ys : List SV) (e : k = ts.length - i) (hi : i ≤ ts.length) (hys : (ts.take i).filterMap r = ys) (le : fz1.le fz') (hL : fz' L = some oL) (I : Iv x m0 (n1 ++ [ys]) fz' as s') (S : Src x fz' as it fp xs PP St) (st : St i s'.heap) (o' : Obj) (ho : fz' it = some o')
inductive CInv2 (x : Cx) (L : Addr) (oL : Obj) (m1 : Loc) (n1 : Mut) (as : List Addr) (fz1 : Frz) (it : Addr) (fp : List Addr) (xs : List SV) (PP : Nat → Value → Prop) (St : Nat → Heap → Prop) (i : Nat) (s' : Shared) : Prop
  | mk (fz' : Frz) (le : fz1.le fz') (hL : fz' L = some oL) (I : Iv x m1 n1 fz' as s') (S : Src x fz' as it fp xs PP St) (st : St i s'.heap) (o' : Obj) (ho : fz' it = some o')
/-- a comprehension, what follows in its frame left open -/
theorem comp_run {T : Type} {P : SV → Mut → Prop} {pos cpos : Pos} {use : Option (Value → Sem Unit)} {Q : Value → Shared → Prop} {elt iter : Expr} {y : Str} {py : Pos} {ifs : List Expr} {scope : Scope} {cl : List (Str × Addr)} (hA : x.A.handled = none) (hclos : closureFor scope x.env = pure cl) (hcl : ∀ y c, cl.lookup y = some c → ∃ z, x.env.cells.lookup z = some c)
    (hkind : scope.kind = .function) (hnames : ∀ z ∈ scope.names, z.2 = .local → scope.names.lookup z.1 = some .local) (hpn : ∀ xs ∈ n, SV.pureL xs = true)
    (h : EV x m n iter (fun a n1 => n1 = n ∧ ∃ (ts : List T) (g : T → SV) (r : T → Option SV) (m0 : Loc), IterOf a (ts.map g) ∧ ts.length ≤ 100000 ∧ (m0.map (·.1)).Nodup ∧ Sees x m scope cl m0 ∧ SV.pureL (ts.filterMap r) = true ∧
      (∀ t ∈ ts, ∀ C ys, (∀ z d, x.env.cells.lookup z = some d → d < C) → SV.pureL ys = true → Storable (cenv x scope cl C) y ∧ (∀ d, (cenv x scope cl C).cells.lookup y = some d → ∀ z, x.env.cells.lookup z ≠ some d) ∧ ∃ m1, Put y (g t) m0 m1 ∧ Wk m1 m0 ∧ TSs (x.inn scope cl C) m1 (n ++ [ys]) ifs (fun b n2 => n2 = n ++ [ys] ∧ match b with
        | true => EV (x.inn scope cl C) m1 (n ++ [ys]) elt (fun v n3 => n3 = n ++ [ys] ∧ r t = some v)
        | false => r t = none)) ∧ P (.list (ts.filterMap r)) n))
    (hsf : ∀ v, foldedSetIterable iter x.env v = pure v := by intro _; rfl) (ht : ∀ it v, letOwnedTupleGo (.Name y py) it v = pure () := by intro _ _; rfl) :
    ∀ s fz as, Iv x m n fz as s → (∀ l fz3 as3 s3 C D mvC, P (.list l) n → fz.le fz3 → as <+: as3 → Iv x m n fz3 as3 s3 → (SV.list l).At fz3 as3 (.ref D) → s3.heap.Ns C mvC → Loose x as3 C → fz3 C = none → compPost (model pw x.w) x.A noE use Q (.ref D) C (.ok .next) s3) →
      Run x (comprehension (.ListComp elt [⟨.Name y py, iter, ifs, 0⟩] scope pos) scope x.env cpos (newList []) false (eval iter x.env) use) Q s := fun s fz as I fin => by
  refine wpAny_comprehension_free rfl hsf hclos hkind hnames (wpAny_mono (h s fz as I) (fun va s1 q => ?_) fun _ _ z => no z)
  obtain ⟨a, n1, fz1, as1, ⟨rfl, ts, g, r, m0, hi, hsz, hk0, hsees, hpy, hstep, hP⟩, le1, p1, I1, at1⟩ := q
  refine iter_ok hA I1 at1 hi fun it o fp PP St s2 hfn hbn I2 S2 st2 => ?_
  have le2 : fz1.le (fz1.add it o) := Frz.le_add o hfn
  -- the list
  refine wpAny_newObj_type (newCompEnv ?_)
  have I3 := I2.newMl (xs := []) (l := []) SV.AtL.nil
  obtain ⟨oL, fz4, hoL, hodd, hnc, hL4, le4, hcells, I4⟩ := I3.inn hcl (m0 := m0) (fun p hp => hsees p hp) hk0
  have hI2 : Iv x m n1 fz1 as1 s2 := by
    have := I2.ext (it := it) (h' := s2.heap) (Heap.ExtBut.refl _ _) (S2.isOdd I2 st2) (I2.loose (Frz.add_self _ _ _) hbn) s2.toks
    have e : (fz1.add it o).del it = fz1 := by
      funext b
      unfold Frz.del Frz.add
      by_cases hb : b = it
      · rw [if_pos hb, hb, hfn]
      · rw [if_neg hb, if_neg hb]
    rwa [e] at this
  have hoL2 : s2.heap.get? x.env.locals = some oL := by
    obtain ⟨mv, ⟨o', _, _, ho', _⟩, _⟩ := hI2.loc
    have := Heap.get?_push_of_some (lstO [] 0) ho'
    have hoL' : (s2.heap.push (lstO [] 0)).get? x.env.locals = some oL := hoL
    rw [this] at hoL'
    rw [ho']; exact hoL'
  have hitL : it ≠ x.env.locals := (I2.loose (Frz.add_self _ _ _) hbn).L
  have leA : fz1.le fz4 := le2.trans le4
  have hgen : (s2.heap.push (lstO [] 0)).objs.size = s2.heap.objs.size + 1 := Heap.size_push ..
  generalize hC : (s2.heap.push (lstO [] 0)).objs.size = C at I4 hcells
  generalize hD : s2.heap.objs.size = D at I4 I3
  have S4 : Src (x.inn scope cl C) fz4 (as1 ++ [D]) it fp (ts.map g) PP St := by
    have := S2.lw le4.lw (List.prefix_append as1 [D])
    exact ⟨this.walks, this.odd, this.fp, this.val, this.rng⟩
  have st4 : St 0 (pushCells ((s2.heap.push (lstO [] 0)).push { cls := .type "dict", data := .dict #[] }) scope.names) := S2.walks.frame 0 _ _ st2 fun b hb o' e => pushCells_keeps _ _ b o' (Heap.get?_push_of_some _ (Heap.get?_push_of_some _ e))
  have hAi : (x.inn scope cl C).A.handled = none := hA
  have len1 := I1.len
  have asEq : ∀ {as' : List Addr} {n' : Mut} {m' : Loc} {fz' : Frz} {s' : Shared} {ys : List SV}, Iv (x.inn scope cl C) m' n' fz' as' s' → n' = n1 ++ [ys] → as1 ++ [D] <+: as' → as' = as1 ++ [D] := by
    intro as' n' m' fz' s' ys J e p
    have h1 := J.len
    rw [e] at h1
    simp at h1
    exact (p.eq_of_length (by simp; omega)).symm
  have loop : codeAny (model pw x.w) x.A (.compLoop (.ListComp elt [⟨.Name y py, iter, ifs, 0⟩] scope pos) 0 (.ref it) (.ref D) (cenv x scope cl C))
      (compPost (model pw x.w) x.A noE use Q (.ref D) C) { s2 with heap := pushCells ((s2.heap.push (lstO [] 0)).push { cls := .type "dict", data := .dict #[] }) scope.names } := by
    refine codeAny_compLoop_tests (CInv (x.inn scope cl C) x.env.locals oL r ts m0 n1 (as1 ++ [D]) fz1 it fp (ts.map g) PP St)
      (fun k s' q => ?_) ts.length ⟨0, fz4, [], by simp, Nat.zero_le _, by simp, leA, hL4, I4, S4, st4, o, le4 _ _ (Frz.add_self _ _ _)⟩ (ht _)
    obtain ⟨i, fz', ys, rfl, hile, hys, le', hL', I', S', st', o', ho'⟩ := q
    cases ha : ts[i]? with
    | none =>
      have hi' : i = (ts.map g).length := by
        rw [List.getElem?_eq_none_iff] at ha; simp; omega
      subst hi'
      refine S'.done I' ho' hbn st' fun s3 I3' => ?_
      obtain ⟨mv, hns, _⟩ := I3'.loc
      have hL3 : (fz'.del it) x.env.locals = some oL := (Frz.del_ne (Ne.symm hitL)).trans hL'
      have le3 : fz1.le (fz'.del it) := fun b o1 e => (Frz.del_ne fun z => by rw [z, hfn] at e; cases e).trans (le' b o1 e)
      have hys' : ys = ts.filterMap r := by
        rw [← hys, List.take_of_length_le (by simp)]
      rw [hys'] at I3'
      obtain ⟨fz3, le5, hC3, K, at3⟩ := Iv.out hI2 I3' rfl hoL2 hodd hnc hL3 le3 (Heap.SameBut.refl _ _) hpn hpy
      have hLC : C ≠ x.env.locals := fun e => by have := I3'.fzL; rw [show (x.inn scope cl C).env.locals = C from rfl, e, hL3] at this; cases this
      exact fin _ fz3 as1 s3 C D mv hP (le1.trans le5) p1 K at3 hns ⟨hLC, I3'.LT, fun e => (I3'.own C (List.mem_append_left _ e)).2.1 rfl, I3'.newL⟩ hC3
    | some t =>
      have hlt : i < ts.length := (List.getElem?_eq_some_iff.mp ha).1
      have hmem : t ∈ ts := List.mem_of_getElem? ha
      refine S'.item I' ho' hbn st' (a := g t) (by simp [ha]) fun v o3 s3 I3' st3 S3 at3 off3 => ?_
      have hcl1 : ∀ z d, x.env.cells.lookup z = some d → d < C := fun z d e => by
        obtain ⟨⟨o', v', h1, _⟩, _⟩ := I1.cel z d e
        have h2 := Heap.lt_size (hI2.frz _ _ h1)
        rw [← hC, hgen]; exact Nat.lt_succ_of_lt h2
      have hyp : SV.pureL ys = true := by
        rw [← hys]
        have e : ts.filterMap r = (ts.take i).filterMap r ++ (ts.drop i).filterMap r := by rw [← List.filterMap_append, List.take_append_drop]
        rw [e, pureL_append, Bool.and_eq_true] at hpy
        exact hpy.1
      obtain ⟨hsto, hown, m1, hput, hwk, htests⟩ := hstep t hmem C ys hcl1 hyp
      have le3 : fz1.le ((fz'.del it).add it o3) := fun b o1 e => off3.1 b o1 (fun z => by rw [z, hfn] at e; cases e) (le' b o1 e)
      have hL3 : ((fz'.del it).add it o3) x.env.locals = some oL := off3.1 _ _ (Ne.symm hitL) hL'
      refine wpAny_assign_Name (wpAny_mono (store_varS (x := x.inn scope cl C) (Q := fun _ s' => CInv2 (x.inn scope cl C) x.env.locals oL m1 (n1 ++ [ys]) (as1 ++ [D]) fz1 it fp (ts.map g) PP St (i + 1) s') I3' hput at3 hkind hsto fun s4 fz5 lw5 strict5 I5 => ?_) (fun _ s4 q => ?_) fun _ _ z => z.elim)
      · have notOwn : ∀ b, (∃ o1, fz1 b = some o1) ∨ b = x.env.locals → (x.inn scope cl C).env.cells.lookup y ≠ some b := fun b hb e => by
          rcases hcells y b e with ⟨z, hz⟩ | ⟨h1, h2⟩
          · exact hown b e z hz
          · rcases hb with ⟨o1, hb⟩ | hb
            · rw [Frz.add_ne (fun z => by rw [z, hfn] at hb; cases hb), hb] at h1; cases h1
            · exact h2 hb
        have ho5 := lw5 _ _ (Frz.add_self (fz'.del it) it o3) (S3.isOdd I3' st3 _ (Frz.add_self _ _ _)).2
        exact ⟨fz5, fun b o1 e => strict5 b o1 (le3 b o1 e) (notOwn b (.inl ⟨o1, e⟩)), strict5 _ _ hL3 (notOwn _ (.inr rfl)), I5, S3.lw lw5 (List.prefix_refl _), S3.st I3' I5 lw5 (Frz.add_self _ _ _) st3, _, ho5⟩
      obtain ⟨fz5, le5, hL5, I5, S5, st5, o5, ho5⟩ := q
      have tests : Run (x.inn scope cl C) (forIn ifs true fun c r => if r = true then do let ok ← isTrue c (cenv x scope cl C) (eval c (cenv x scope cl C)); pure (ForInStep.yield ok) else pure (ForInStep.yield r))
          (PostB (x.inn scope cl C) m1 fz5 (as1 ++ [D]) (fun b n2 => n2 = n1 ++ [ys] ∧ match b with
            | true => EV (x.inn scope cl C) m1 (n1 ++ [ys]) elt (fun v n3 => n3 = n1 ++ [ys] ∧ r t = some v)
            | false => r t = none)) s4 := by
        cases ifs with
        | nil => exact wpAny_tests_nil ⟨_, fz5, _, htests, .refl _, List.prefix_refl _, I5⟩
        | cons c cs =>
          cases cs with
          | nil => exact wpAny_tests_one (htests s4 fz5 _ I5)
          | cons d ds => exact htests.elim
      refine wpAny_mono tests (fun b s5 q => ?_) fun _ _ z => z.elim
      obtain ⟨n6, fz6, as6, ⟨hn6, hb6⟩, le6, p6, I6⟩ := q
      have has6 := asEq I6 hn6 p6
      subst hn6; subst has6
      have S6 := S5.lw le6.lw (List.prefix_refl _)
      have st6 := S5.st I5 I6 le6.lw ho5 st5
      have take1 : (ts.take (i + 1)).filterMap r = ys ++ (r t).toList := by
        rw [take_filterMap ha, hys]
      cases b with
      | false =>
        simp only [Bool.false_eq_true, if_false]
        have hr : r t = none := hb6
        exact ⟨ts.length - (i + 1), by omega, i + 1, fz6, ys, rfl, hlt, by rw [take1, hr]; simp, le5.trans le6, le6 _ _ hL5, I6.wk hwk, S6, st6, o5, le6 _ _ ho5⟩
      | true =>
        simp only [if_true]
        refine wpAny_mono (hb6 s5 fz6 _ I6) (fun v7 s7 q => ?_) fun _ _ z => z.elim
        obtain ⟨sv, n7, fz7, as7, ⟨hn7, hr⟩, le7, p7, I7, at7⟩ := q
        have has7 := asEq I7 hn7 p7
        subst hn7; subst has7
        have hlys : ys.length ≤ 1000000 := by
          rw [← hys]
          have h1 := List.length_filterMap_le r (ts.take i)
          have h2 : (ts.take i).length ≤ ts.length := by rw [List.length_take]; omega
          omega
        refine wpAny_mono (CL_append (x := x.inn scope cl C) (m := m1) (n := n1 ++ [ys]) (k := n1.length) (a := sv) (xs := ys) (P := fun _ n8 => n8 = n1 ++ [ys ++ [sv]]) (by simp) hlys (by simp) s7 fz7 (as1 ++ [D]) (.builtin "list.append") [.ref D, v7] I7 (by simp only [SV.At]) (.cons (by simp only [SV.At]; exact ⟨D, rfl, by rw [← len1]; simp⟩) (.cons at7 .nil))) (fun _ s8 q => ?_) fun _ _ z => z.elim
        obtain ⟨_, n8, fz8, as8, hn8, le8, p8, I8, _⟩ := q
        have has8 := asEq I8 hn8 p8
        subst hn8; subst has8
        have leX := le6.trans (le7.trans le8)
        exact ⟨ts.length - (i + 1), by omega, i + 1, fz8, ys ++ [sv], rfl, hlt, by rw [take1, hr]; rfl, le5.trans leX, leX _ _ hL5, I8.wk hwk, S5.lw leX.lw (List.prefix_refl _), S5.st I5 I8 leX.lw ho5 st5, o5, leX _ _ ho5⟩
  subst hD
  have := codeAny_compStart_list (h0 := loop) (h := S2.walks.self 0 _ _ _ st4 loop)
  exact this

theorem Iv.extN {h' : Heap} {C : Addr} (I : Iv x m n fz as s) (hC : fz C = none) (hl : Loose x as C) (hs : Heap.SameBut C s.heap h') : Iv x m n fz as { s with heap := h' } := by
  have := I.ext hs.extBut (fun o e => by rw [hC] at e; cases e) hl s.toks
  have e : fz.del C = fz := by
    funext b
    unfold Frz.del
    by_cases hb : b = C
    · rw [if_pos hb, hb, hC]
    · rw [if_neg hb]
  rwa [e] at this

/-- the premises of a comprehension -/
noncomputable def CompOk (T : Type) (x : Cx) (m : Loc) (n : Mut) (elt iter : Expr) (y : Str) (ifs : List Expr) (scope : Scope) (cl : List (Str × Addr)) (P : SV → Mut → Prop) : Prop :=
  EV x m n iter (fun a n1 => n1 = n ∧ ∃ (ts : List T) (g : T → SV) (r : T → Option SV) (m0 : Loc), IterOf a (ts.map g) ∧ ts.length ≤ 100000 ∧ (m0.map (·.1)).Nodup ∧ Sees x m scope cl m0 ∧ SV.pureL (ts.filterMap r) = true ∧
      (∀ t ∈ ts, ∀ C ys, (∀ z d, x.env.cells.lookup z = some d → d < C) → SV.pureL ys = true → Storable (cenv x scope cl C) y ∧ (∀ d, (cenv x scope cl C).cells.lookup y = some d → ∀ z, x.env.cells.lookup z ≠ some d) ∧ ∃ m1, Put y (g t) m0 m1 ∧ Wk m1 m0 ∧ TSs (x.inn scope cl C) m1 (n ++ [ys]) ifs (fun b n2 => n2 = n ++ [ys] ∧ match b with
        | true => EV (x.inn scope cl C) m1 (n ++ [ys]) elt (fun v n3 => n3 = n ++ [ys] ∧ r t = some v)
        | false => r t = none)) ∧ P (.list (ts.filterMap r)) n)

theorem EV_comp (T : Type) {P : SV → Mut → Prop} {pos : Pos} {elt iter : Expr} {y : Str} {py : Pos} {ifs : List Expr} {scope : Scope} {cl : List (Str × Addr)} (hA : x.A.handled = none) (hclos : closureFor scope x.env = pure cl) (hcl : ∀ y c, cl.lookup y = some c → ∃ z, x.env.cells.lookup z = some c)
    (hkind : scope.kind = .function) (hnames : ∀ z ∈ scope.names, z.2 = .local → scope.names.lookup z.1 = some .local) (hpn : ∀ xs ∈ n, SV.pureL xs = true) (h : CompOk T x m n elt iter y ifs scope cl P)
    (hsf : ∀ v, foldedSetIterable iter x.env v = pure v := by intro _; rfl) (ht : ∀ it v, letOwnedTupleGo (.Name y py) it v = pure () := by intro _ _; rfl) :
    EV x m n (.ListComp elt [⟨.Name y py, iter, ifs, 0⟩] scope pos) P := fun s fz as I => by
  rw [eval_ListComp]
  refine comp_run hA hclos hcl hkind hnames hpn h hsf ht s fz as I fun l fz3 as3 s3 C D mvC hP le3 p3 K at3 hns hl hC => ?_
  exact ⟨mvC, hns, fun h' hs' => ⟨_, n, fz3, as3, hP, le3, p3, K.extN hC hl hs', at3⟩⟩

theorem ES_assign_comp (T : Type) {P : Fw → Loc → Mut → Prop} {pos : Pos} {z : Str} {pz : Pos} {cpos : Pos} {elt iter : Expr} {y : Str} {py : Pos} {ifs : List Expr} {scope : Scope} {cl : List (Str × Addr)} (hA : x.A.handled = none) (hk : x.env.scope.kind = .function) (hst : Storable x.env z)
    (hsw : swapsWith (.ListComp elt [⟨.Name y py, iter, ifs, 0⟩] scope cpos) (some (.Name z pz)) pos.line x.env = pure true)
    (hclos : closureFor scope x.env = pure cl) (hcl : ∀ y c, cl.lookup y = some c → ∃ z, x.env.cells.lookup z = some c)
    (hkind : scope.kind = .function) (hnames : ∀ z ∈ scope.names, z.2 = .local → scope.names.lookup z.1 = some .local) (hpn : ∀ xs ∈ n, SV.pureL xs = true)
    (h : CompOk T x m n elt iter y ifs scope cl (fun a n1 => ∃ m', Put z a m m' ∧ P .next m' n1))
    (hsf : ∀ v, foldedSetIterable iter x.env v = pure v := by intro _; rfl) (ht : ∀ it v, letOwnedTupleGo (.Name y py) it v = pure () := by intro _ _; rfl) :
    ES x m n (.Assign [.Name z pz] (.ListComp elt [⟨.Name y py, iter, ifs, 0⟩] scope cpos) pos) P := fun s fz as I => by
  rw [exec_Assign_Name_used _ _ _ _ hsw]
  refine wpAny_bind (wpAny_standAt (wpAny_bind ?_))
  show wpAny _ x.A (do let _ ← comprehension (.ListComp elt [⟨.Name y py, iter, ifs, 0⟩] scope cpos) scope x.env _ (newList []) false (eval iter x.env) (some (assign (.Name z pz) x.env))) _ _ s
  refine wpAny_bind (wpAny_mono (comp_run (T := T) (x := x) (m := m) (P := fun a n1 => ∃ m', Put z a m m' ∧ P .next m' n1) (use := some (assign (.Name z pz) x.env)) (Q := fun _ s' => PostS x fz as P .next s') hA hclos hcl hkind hnames hpn h hsf ht s fz as I fun l fz3 as3 s3 C D mvC hP le3 p3 K at3 hns hl hC => ?_) (fun _ s' hq => wpAny_pure (wpAny_pure hq)) fun _ _ e => e)
  obtain ⟨m', hput, hP⟩ := hP
  obtain ⟨oC, es, ep, hoC, hdC, hr⟩ := id hns
  have K2 := K.hold hC hoC hl
  have leC := Frz.le_add oC hC
  have hodd : Odd oC := .inr (.inl ⟨_, _, hdC⟩)
  have hnc : ∀ v, oC.data ≠ .cell v := fun v e => by rw [hdC] at e; cases e
  show wpAny _ x.A (assign (.Name z pz) x.env (.ref D)) _ _ _
  refine wpAny_assign_Name (store_var K2 hput (SV.At.mono leC (List.prefix_refl _) _ at3) hk hst fun s4 fz4 lw4 K4 => ?_)
  have hC4 : fz4 C = some oC := lw4 _ _ (Frz.add_self _ _ _) hnc
  refine ⟨mvC, ⟨oC, es, ep, K4.frz _ _ hC4, hdC, hr⟩, fun h' hs' => ?_⟩
  have K5 := K4.ext (it := C) hs'.extBut (fun o e => by rw [hC4] at e; cases e; exact ⟨hodd, hnc⟩) hl s4.toks
  exact ⟨.next, m', n, _, as3, hP, fun b o e nc => (Frz.del_ne fun q => by rw [q] at e; have := le3 _ _ e; rw [hC] at this; cases this).trans (lw4 _ _ (leC _ _ (le3 _ _ e)) nc), p3, K5, rfl⟩
end
end Mine

namespace Mine
open Calls

noncomputable def Cx.ofC (w : World) (A : Around) (e : FnE) (L : Addr) (base : Heap) (fz : Frz) (os : Ext) : Cx := ⟨w, A, callEnvC e.fd L e.a, base, fz, os⟩

/-- all that is new, as it is -/
noncomputable def fzN (fz : Frz) (h h' : Heap) : Frz := fun b => match h.get? b with
  | some _ => fz b
  | none => h'.get? b

/-- how arguments come to parameters: the data of the parameters -/
noncomputable def BindsOk (e : FnE) (args : List SV) (ps : List Str) (args' : List SV) : Prop :=
  ∀ (w : World) (A : Around) (E : Value → Shared → Prop) (s : Shared) (vs : List Value) (Q : List (Str × Value) → Shared → Prop), vs.length = args.length → Stat s.heap →
    (∀ h1 (bs : List Value), (∀ b o, s.heap.get? b = some o → h1.get? b = some o) → s.heap.objs.size ≤ h1.objs.size → bs.length = ps.length →
      (∀ fz h2, SV.AtL fz [] args vs → (∀ b o, fz b = some o → s.heap.get? b = some o) → (∀ b o, h1.get? b = some o → h2.get? b = some o) → SV.AtL (fzN fz s.heap h2) [] args' bs) → Q (ps.zip bs) { s with heap := h1 }) →
    wpAny (model pw w) A (bindArgs e.fd ⟨vs, []⟩) Q E s

theorem fzN_le {fz : Frz} {h h2 : Heap} (hf : ∀ b o, fz b = some o → h.get? b = some o) : fz.le (fzN fz h h2) := fun b o e => by
  unfold fzN; rw [hf b o e]; exact e

theorem BindsOk.plain {e : FnE} {args : List SV} {ps : List Str} (hlen : ps.length = args.length) (hb : ∀ vs : List Value, vs.length = args.length → bindArgs e.fd ⟨vs, []⟩ = pure (ps.zip vs)) : BindsOk e args ps args :=
  fun w A E s vs Q hvs _ h => by
    rw [hb vs hvs]
    exact wpAny_pure (h s.heap vs (fun _ _ x => x) (Nat.le_refl _) (hvs.trans hlen.symm) fun fz h2 hat hf _ => hat.mono (fzN_le hf) (List.prefix_refl _))

/-- a starred parameter -/
theorem BindsOk.var {e : FnE} {args : List SV} {ps : List Str} {y : Str} {k : Nat} (hk : ps.length = k) (hka : k ≤ args.length) (hsz : args.length ≤ 1000) (hb : ∀ vs : List Value, vs.length = args.length → bindArgs e.fd ⟨vs, []⟩ = (newTuple (vs.drop k) >>= fun t => pure ((ps ++ [y]).zip (vs.take k ++ [t])))) :
    BindsOk e args (ps ++ [y]) (args.take k ++ [.tup (args.drop k)]) :=
  fun w A E s vs Q hvs _ h => by
    rw [hb vs hvs]
    refine wpAny_bind (wpAny_newTuple ?_ (by rw [List.length_drop]; exact Nat.le_trans (by omega : _ ≤ 1000) (by decide)))
    refine wpAny_pure (h _ _ (fun _ _ x => Heap.get?_push_of_some _ x) (by rw [Heap.size_push]; omega) (by simp; omega) fun fz h2 hat hf hk2 => ?_)
    have hn : s.heap.get? s.heap.objs.size = none := by
      cases q : s.heap.get? s.heap.objs.size with
      | none => rfl
      | some o => exact absurd (Heap.lt_size q) (Nat.lt_irrefl _)
    have hat' := hat.mono (fzN_le (h2 := h2) hf) (List.prefix_refl _)
    have split : ∀ (k : Nat) (xs : List SV) (vs : List Value), SV.AtL (fzN fz s.heap h2) [] xs vs → SV.AtL (fzN fz s.heap h2) [] (xs.take k) (vs.take k) ∧ SV.AtL (fzN fz s.heap h2) [] (xs.drop k) (vs.drop k) := by
      intro k
      induction k with
      | zero => intro xs vs h; exact ⟨by simp only [List.take_zero, SV.AtL], by simpa using h⟩
      | succ k ih =>
        intro xs vs h
        cases xs with
        | nil => simp only [SV.AtL] at h; subst h; exact ⟨by simp only [List.take_nil, SV.AtL], by simp only [List.drop_nil, SV.AtL]⟩
        | cons x xs =>
          simp only [SV.AtL] at h
          obtain ⟨v, r, rfl, h1, h2⟩ := h
          obtain ⟨h3, h4⟩ := ih _ _ h2
          exact ⟨.cons h1 h3, h4⟩
    obtain ⟨h3, h4⟩ := split k args vs hat'
    refine h3.append (.cons ?_ .nil)
    simp only [SV.At]
    refine ⟨_, vs.drop k, 0, rfl, ?_, h4⟩
    unfold fzN
    rw [hn]
    exact hk2 _ _ (Heap.get?_push_size _ rfl)

theorem bindL_other {kindOf : Str → Option NameKind} {y : Str} : ∀ (binds : List (Str × Value)) (m : Str → Option Value), y ∉ binds.map (·.1) → bindL kindOf binds m y = m y
  | [], m, _ => rfl
  | (z, v) :: r, m, h => by
    simp only [List.map_cons, List.mem_cons, not_or] at h
    unfold bindL
    rw [bindL_other r _ h.2]
    split
    · exact if_neg h.1
    · rfl
theorem bindL_get {kindOf : Str → Option NameKind} {y : Str} {v : Value} (hl : kindOf y = some .local) : ∀ (binds : List (Str × Value)) (m : Str → Option Value), (binds.map (·.1)).Nodup → (y, v) ∈ binds → bindL kindOf binds m y = some v
  | [], m, _, h => by simp at h
  | (z, u) :: r, m, hn, h => by
    simp only [List.map_cons, List.nodup_cons] at hn
    unfold bindL
    rcases List.mem_cons.mp h with e | h
    · cases e
      rw [bindL_other r _ hn.1, if_pos hl]
      exact if_pos rfl
    · exact bindL_get hl r _ hn.2 h

noncomputable abbrev KOut (r : SV) (f : Fw) (m : Loc) (n : Mut) : Prop := match f with | .ret v => out n v = r ∧ r.pure = true | .next => r = .none | _ => False
theorem con_fnQ (q : Prop) (e : FnE) (he : e ∈ FL) {args args' : List SV} {r : SV} {k : Nat} {body : List Stmt} (ps : List Str) (m0 : Loc)
    (hps : ps.Nodup) (hlen : ps.length = args'.length) (hB : BindsOk e args ps args')
    (hm : ∀ p ∈ m0, p.2 = .unset ∨ p ∈ ps.zip args') (hk0 : (m0.map (·.1)).Nodup)
    (hbody : e.fd.body = .stmts body) (hloc : ∀ y ∈ ps, e.fd.scope.names.lookup y = some .local) (hnc : ∀ y ∈ ps, ∀ L, (callEnvC e.fd L e.a).cells.lookup y = none)
    (hco : e.fd.scope.isCoroutine = false) (hgen : e.fd.scope.isGenerator = false) (hkd : e.fd.scope.kind = .function)
    (h : ∀ w A L base fz (os : Ext), os.q = q → Room A k → EX (.ofC w A e L base fz os) m0 [] body (KOut r)) : ConQ q (.fn e.a) args r (k + 1) := by
  intro w A s fz vf vs S Tb R hf hT hg ha hs Q hQ
  simp only [SV.At] at ha; subst ha
  have hl := hs.length
  refine wpAny_call (codeAny_call_function (by have := R.2.1; omega) (S.fn e he).1 rfl hco hgen hbody (S.fn e he).2 (hB w _ _ s vs _ hl S fun h1 bs keep1 hsz1 hbs hat => ?_))
  rw [show e.fd.closure = [] from rfl]
  have hkind : ∀ x ∈ ps.zip bs, e.fd.scope.names.lookup x.1 = some .local ∨ (e.fd.scope.names.lookup x.1 = some .cell ∧ ((cellsFrom (({ s with heap := h1 } : Shared).heap.objs.size + 1) e.fd.scope.names []).lookup x.1).isSome = true) := fun x hx => .inl (hloc _ (List.of_mem_zip hx).1)
  refine wpAny_newFunctionEnv_cells hkd hkind fun env henv s2 X => ?_
  subst henv
  refine ⟨(S.nolim.keeps keep1).keeps X.toInCall.keep, codeAny_func ?_⟩
  obtain ⟨⟨h2, tk, rfl⟩, hns, keep2, hfresh⟩ := X.toInCall
  have keep : ∀ b o, s.heap.get? b = some o → h2.get? b = some o := fun b o e => keep2 b o (keep1 b o e)
  generalize hLdef : h1.objs.size = L at hns hfresh
  have hLe : (newEnv e.fd.scope L e.fd.globals (cellsFrom (L + 1) e.fd.scope.names []) (e.fd.qualname ++ ".<locals>.") (some e.a) e.fd.code none e.fd.builtins) = callEnvC e.fd L e.a := rfl
  have hns' : h2.Ns L (bindL (callEnvC e.fd L e.a).kindOf (ps.zip bs) fun _ => none) := by subst hLdef; exact hns
  have hLs : s.heap.objs.size ≤ L := by rw [← hLdef]; exact hsz1
  have hLn : s.heap.get? L = none := by
    cases q : s.heap.get? L with
    | none => rfl
    | some o => exact absurd (Heap.lt_size q) (Nat.not_lt.mpr hLs)
  let fz0 : Frz := fzN fz s.heap h2
  let fz' : Frz := fun b => if b = L then none else fz0 b
  have hfz0 : ∀ b o, fz0 b = some o → h2.get? b = some o := fun b o e => by
    have e' : fzN fz s.heap h2 b = some o := e
    unfold fzN at e'
    cases q : s.heap.get? b with
    | some o' => rw [q] at e'; exact keep b o (hf b o e')
    | none => rw [q] at e'; exact e'
  have R' : Room (A.deeper (callEnvC e.fd L e.a)) k := ⟨R.1, by have := R.2.1; show A.depth + 1 + k < _; omega, by have := R.2.2; show A.units + 3 + 8 * k < _; omega⟩
  have off : Off L fz0 fz' := ⟨fun b o hb e => (if_neg hb).trans e, fun o e => by
    have := hfz0 L o e
    obtain ⟨o', es, ep, ho', hd, _⟩ := hns'
    rw [ho'] at this; cases this
    exact .inr (.inl ⟨_, _, hd⟩)⟩
  have hdat := hat fz h2 hs hf keep2
  have hTL : T0 ≠ L := fun e => by
    have h1 := Tb.lt
    exact absurd (Nat.lt_of_lt_of_le h1 hLs) (by rw [e]; exact Nat.lt_irrefl _)
  have I : Iv (.ofC w (A.deeper (callEnvC e.fd L e.a)) e L s.heap fz ⟨s.os, s.drawn, s.gens, q⟩) m0 [] fz' [] { s with heap := h2, toks := tk } := by
    refine ⟨S, (TabAt.refl Tb).keeps keep, fun a o e _ => keep a o e, fun a o e => ?_, ?_, fun a o e => ?_, ⟨_, hns', fun p hp => ?_⟩, hk0, if_pos rfl, hLn, Ne.symm hTL, rfl, List.nodup_nil, fun _ h => (by simp at h), fun _ _ _ h => (by simp at h), ⟨rfl, rfl, fun _ => ⟨rfl, fun o e => keep _ _ e⟩⟩, hg, fun y c e => ?_⟩
    · by_cases hb : a = L
      · rw [show fz' a = none from if_pos hb] at e; cases e
      · rw [show fz' a = fz0 a from if_neg hb] at e; exact hfz0 a o e
    · rw [show fz' T0 = fz0 T0 from if_neg hTL]
      show fzN fz s.heap h2 T0 = none
      unfold fzN
      obtain ⟨_, _, e⟩ := Tb
      rw [e]; exact hT
    · by_cases hb : a = L
      · rw [show fz' a = none from if_pos hb] at e; cases e
      · rw [show fz' a = fzN fz s.heap h2 a from if_neg hb] at e
        unfold fzN at e
        cases q : s.heap.get? a with
        | some o' => rw [q] at e; exact .inl e
        | none => exact .inr q
    · refine (hm p hp).imp id fun hz => ?_
      have hy := (List.of_mem_zip hz).1
      have key : ∀ (ps : List Str) (args' : List SV) (bs : List Value), SV.AtL fz0 [] args' bs → ∀ p ∈ ps.zip args', ∃ v, (p.1, v) ∈ ps.zip bs ∧ p.2.At fz0 [] v := by
        intro ps
        induction ps with
        | nil => intro _ _ _ p hp; simp at hp
        | cons y ys ih =>
          intro args' bs h p hp
          cases args' with
          | nil => simp at hp
          | cons a r =>
            simp only [SV.AtL] at h
            obtain ⟨v, q, rfl, h1, h2⟩ := h
            simp only [List.zip_cons_cons, List.mem_cons] at hp ⊢
            rcases hp with rfl | hp
            · exact ⟨v, .inl rfl, h1⟩
            · obtain ⟨u, e1, e2⟩ := ih _ _ h2 p hp
              exact ⟨u, .inr e1, e2⟩
      obtain ⟨v, e1, e2⟩ := key ps args' bs hdat p hz
      refine ⟨v, ?_, SV.At.off off _ e2⟩
      unfold VarAt
      rw [show (Cx.ofC w (A.deeper (callEnvC e.fd L e.a)) e L s.heap fz ⟨s.os, s.drawn, s.gens, q⟩).env.cells.lookup p.1 = none from hnc _ hy L]
      exact bindL_get (hloc _ hy) _ _ (by rw [List.map_fst_zip (by omega)]; exact hps) e1
    · have hc := X.cell y c (by subst hLdef; exact e)
      have hab := X.above y c (mem_of_lookup (by subst hLdef; exact e))
      have hab' : L < c := by subst hLdef; exact hab
      obtain ⟨o, ho, hd⟩ := hc
      have hcn : s.heap.get? c = none := by
        cases q : s.heap.get? c with
        | none => rfl
        | some o' => exact absurd (Heap.lt_size q) (Nat.not_lt.mpr (by omega))
      refine ⟨⟨o, _, ?_, hd⟩, hcn⟩
      rw [show fz' c = fz0 c from if_neg (Nat.ne_of_gt hab')]
      show fzN fz s.heap h2 c = some o
      unfold fzN
      rw [hcn]; exact ho
  have run := h w _ _ _ _ ⟨s.os, s.drawn, s.gens, q⟩ rfl R' _ _ _ I
  subst hLdef
  refine wpAny_mono run (fun f s1 q => ?_) fun _ _ z => z.elim
  obtain ⟨fw, m1, n1, fz1, as1, h1, le1, p1, I1, at1⟩ := q
  have fin : ∀ (v : Value) (r' : SV) (fz2 : Frz), fz1.le fz2 → (∀ a o, fz2 a = some o → s1.heap.get? a = some o) → (∀ a o, fz2 a = some o → fz a = some o ∨ s.heap.get? a = none) → r'.pure = true → r'.At fz2 as1 v → r' = r → Q v s1 := by
    intro v r' fz2 le2 hz2 hn2 hpu hat hr
    subst hr
    obtain ⟨hh, gg, dd, tt, oo⟩ := s1
    have eos : oo = s.os := I1.os.1
    have edr : dd = s.drawn := I1.os.2.1
    subst eos; subst edr
    refine hQ hh gg tt v I1.grow I1.tab I1.bare I1.os.2.2 (SV.At.mono (fun a o e => ?_) (List.prefix_refl _) r' (SV.At.pure r' hpu hat))
    unfold fzx
    rcases hn2 a o e with q | q
    · rw [q]
    · cases q' : fz a with
      | some o' => rw [hf a o' q'] at q; cases q
      | none => dsimp only; rw [q]; exact hz2 a o e
  cases fw with
  | next => simp only [Fw.At] at at1; subst at1; replace h1 : r = .none := h1; subst h1; exact fin .none .none fz1 (.refl _) I1.frz I1.frb rfl (by simp only [SV.At]) rfl
  | brk => exact h1.elim
  | cont => exact h1.elim
  | ret sv =>
    obtain ⟨v, rfl, hv⟩ := at1
    obtain ⟨e1, e2⟩ := h1
    dsimp only
    by_cases hml : ∃ k, sv = .ml k
    · obtain ⟨k, rfl⟩ := hml
      simp only [SV.At] at hv
      obtain ⟨a, rfl, hk⟩ := hv
      have hk' : k < n1.length := by rw [← I1.len]; exact (List.getElem?_eq_some_iff.mp hk).1
      obtain ⟨l, ep, ho, hl'⟩ := I1.mls k a n1[k] hk (List.getElem?_eq_getElem hk')
      have own := I1.own a (List.mem_of_getElem? hk)
      have hout : out n1 (.ml k) = .list n1[k] := by simp [out, List.getD, List.getElem?_eq_getElem hk']
      have le2 := Frz.le_add (lstO l ep) own.1
      refine fin (.ref a) (.list n1[k]) (fz1.add a (lstO l ep)) le2 (fun b o e => ?_) (fun b o e => ?_) (by rw [hout] at e1; rw [e1]; exact e2) ?_ (by rw [← hout]; exact e1)
      · unfold Frz.add at e
        split at e
        · rename_i z; subst z; cases e; exact ho
        · exact I1.frz b o e
      · unfold Frz.add at e
        split at e
        · rename_i z; subst z; exact .inr own.2.2.2.1
        · exact I1.frb b o e
      · simp only [SV.At]
        exact ⟨a, l, ep, rfl, Frz.add_self _ _ _, SV.AtL.mono le2 (List.prefix_refl _) _ hl'⟩
    · have hout : out n1 sv = sv := by cases sv <;> first | rfl | exact absurd ⟨_, rfl⟩ hml
      rw [hout] at e1
      subst e1
      exact fin v sv fz1 (.refl _) I1.frz I1.frb e2 hv rfl

theorem con_fnX (e : FnE) (he : e ∈ FL) {args args' : List SV} {r : SV} {k : Nat} {body : List Stmt} (ps : List Str) (m0 : Loc)
    (hps : ps.Nodup) (hlen : ps.length = args'.length) (hB : BindsOk e args ps args')
    (hm : ∀ p ∈ m0, p.2 = .unset ∨ p ∈ ps.zip args') (hk0 : (m0.map (·.1)).Nodup)
    (hbody : e.fd.body = .stmts body) (hloc : ∀ y ∈ ps, e.fd.scope.names.lookup y = some .local) (hnc : ∀ y ∈ ps, ∀ L, (callEnvC e.fd L e.a).cells.lookup y = none)
    (hco : e.fd.scope.isCoroutine = false) (hgen : e.fd.scope.isGenerator = false) (hkd : e.fd.scope.kind = .function)
    (h : ∀ w A L base fz os, Room A k → EX (.ofC w A e L base fz os) m0 [] body (KOut r)) : Con (.fn e.a) args r (k + 1) :=
  con_fnQ True e he ps m0 hps hlen hB hm hk0 hbody hloc hnc hco hgen hkd fun w A L base fz os _ R => h w A L base fz os R
theorem meth_intro {r : SV} {name : Str} {id : String} {K : String → Prop} (h : MethOf r name id) (k : K id) : ∃ id, MethOf r name id ∧ K id := ⟨id, h, k⟩
theorem TR_strD {x : Cx} {m : Loc} {n : Mut} {a : List Nat} {P : Bool → Mut → Prop} (hs : a.length ≤ 1000000) (h1 : a ≠ [] → P true n) (h2 : a = [] → P false n) : TR x m n (.str a) P := by
  refine TR_str hs ?_
  by_cases h : a = []
  · rw [decide_eq_true h]; exact h2 h
  · rw [decide_eq_false h]; exact h1 h
theorem TR_mlD {x : Cx} {m : Loc} {n : Mut} {k : Nat} {a : List SV} {P : Bool → Mut → Prop} (hk : n[k]? = some a) (hs : a.length ≤ 1000000) (h1 : a ≠ [] → P true n) (h2 : a = [] → P false n) : TR x m n (.ml k) P := by
  refine TR_ml hk hs ?_
  by_cases h : a = []
  · subst h; exact h2 rfl
  · rw [decide_eq_false (fun e => h (List.length_eq_zero_iff.mp e))]; exact h1 h
theorem storable_local {env : Env} {y : Str} (h : env.kindOf y = some .local) (hc : env.cells.lookup y = none) : Storable env y := .inl ⟨h, hc⟩
end Mine

namespace Mine
theorem clipN_nn {n d : Nat} {i : Int} (h : 0 ≤ i) : clipN n d (some i) = min i.toNat n := by
  unfold clipN; dsimp only
  rw [if_neg (Int.not_lt.mpr h)]
  obtain ⟨k, rfl⟩ := Int.eq_ofNat_of_zero_le h
  have e : min (k : Int) (n : Int) = ((min k n : Nat) : Int) := by
    rcases Nat.le_total k n with h | h
    · rw [Nat.min_eq_left h, Int.min_eq_left (Int.ofNat_le.mpr h)]
    · rw [Nat.min_eq_right h, Int.min_eq_right (Int.ofNat_le.mpr h)]
  rw [e, Int.max_eq_right (Int.natCast_nonneg _), Int.toNat_natCast, Int.toNat_natCast]
theorem cut_to {α : Type} (l : List α) {i : Int} (h : 0 ≤ i) : cut l none (some i) = l.take i.toNat := by
  unfold cut
  rw [clipN_nn h]
  simp only [clipN, List.drop_zero, Nat.sub_zero]
  rw [List.take_eq_take_iff]; omega
theorem cut_from {α : Type} (l : List α) {i : Int} (h : 0 ≤ i) : cut l (some i) none = l.drop i.toNat := by
  unfold cut
  rw [clipN_nn h]
  simp only [clipN]
  rw [List.take_of_length_le (by simp)]
  by_cases h' : i.toNat ≤ l.length
  · rw [Nat.min_eq_left h']
  · rw [Nat.min_eq_right (by omega), List.drop_length, List.drop_of_length_le (by omega)]
theorem cut_mid {α : Type} (l : List α) {i j : Int} (h : 0 ≤ i) (h' : 0 ≤ j) : cut l (some i) (some j) = (l.drop i.toNat).take (j.toNat - i.toNat) := by
  unfold cut
  rw [clipN_nn h, clipN_nn h']
  by_cases hi : i.toNat ≤ l.length
  · rw [Nat.min_eq_left hi, List.take_eq_take_iff, List.length_drop, Nat.sub_min_sub_right, Nat.sub_min_sub_right, Nat.min_assoc, Nat.min_self]
  · rw [Nat.min_eq_right (by omega : l.length ≤ i.toNat), List.drop_length, List.drop_of_length_le (by omega : l.length ≤ i.toNat)]; simp
/-- the last so many -/
theorem cut_end {α : Type} (l : List α) {i : Int} (h : i < 0) : cut l (some i) none = l.drop (l.length - (-i).toNat) := by
  unfold cut clipN
  simp only
  rw [if_pos h, List.take_of_length_le (by simp)]
  rw [Int.min_eq_left (by omega)]
  congr 1; omega
section
variable {x : Cx} {m : Loc} {n : Mut} {P : Bool → Mut → Prop}
theorem TR_true (h : P true n) : TR x m n (.bool true) P := TR_bool h
theorem TR_false (h : P false n) : TR x m n (.bool false) P := TR_bool h
theorem TR_boolD {b : Bool} (h1 : b = true → P true n) (h2 : b = false → P false n) : TR x m n (.bool b) P := by
  cases b with
  | true => exact TR_bool (h1 rfl)
  | false => exact TR_bool (h2 rfl)
end
noncomputable abbrev KNot (P : Bool → Mut → Prop) (b : Bool) (n1 : Mut) : Prop := P (match b with | true => false | false => true) n1
theorem TS_not' {x : Cx} {m : Loc} {n : Mut} {pos : Pos} {l : Expr} {P : Bool → Mut → Prop} (h : TS x m n l (KNot P)) : TS x m n (.UnaryOp .Not l pos) P := TS_not fun s fz as I => wpAny_mono (h s fz as I) (fun b s1 q => by cases b <;> exact q) fun _ _ z => z
theorem EV_list1 {x : Cx} {m : Loc} {n : Mut} {pos : Pos} {e : Expr} {es : List Expr} {P : SV → Mut → Prop} (h : EVs x m n (e :: es) (KList P)) : EV x m n (.List (e :: es) pos) P := EV_list h
theorem EV_nil {x : Cx} {m : Loc} {n : Mut} {pos : Pos} {P : SV → Mut → Prop} (h : P (.list []) n) : EV x m n (.List [] pos) P := EV_list (EVs_nil ⟨by decide, h⟩)
theorem EV_strL {x : Cx} {m : Loc} {n : Mut} {pos : Pos} {P : SV → Mut → Prop} {y : Str} {k : Nat} (hl : Nat.ble y.cps.toList.length 60 = true) (h : y.cps.toList.length ≤ 60 → P (.str y.cps.toList) n) : EV x m n (.Constant (.str y) k pos) P := EV_str (h (Nat.le_of_ble_eq_true hl))
theorem take_succ_get {α : Type} {l : List α} {i : Nat} {a : α} (h : l[i]? = some a) : l.take (i + 1) = l.take i ++ [a] := by
  rw [List.take_add_one, h]; rfl
end Mine

namespace Mine
open Calls Builtin Builtin.Str

noncomputable abbrev st (l : List Nat) : Str := ⟨⟨l⟩⟩
theorem st_toList (x : Str) : st x.cps.toList = x := by cases x; simp [st]
noncomputable def splitL (a b : List Nat) : List (List Nat) := (Txt.split (st a) (st b)).map (·.cps.toList)
noncomputable def joinS (sep : List Nat) : List (List Nat) → List Nat
  | [] => []
  | [x] => x
  | x :: y :: r => x ++ sep ++ joinS sep (y :: r)
theorem joinS_eq (sep : List Nat) : ∀ l : List (List Nat), Str.join (st sep) (l.map st) = st (joinS sep l)
  | [] => rfl
  | [x] => rfl
  | x :: y :: r => by
    have := joinS_eq sep (y :: r)
    show st x ++ st sep ++ Str.join (st sep) ((y :: r).map st) = _
    rw [this, app_eq, app_eq]; rfl
theorem joinS_cons (sep x : List Nat) (r : List (List Nat)) (h : r ≠ []) : joinS sep (x :: r) = x ++ sep ++ joinS sep r := by
  cases r with
  | nil => exact absurd rfl h
  | cons y r => rfl
theorem joinS_split (a b : List Nat) : joinS b (splitL a b) = a := by
  have := StrLaws.join_split (st a) (st b)
  have e : (splitL a b).map st = Txt.split (st a) (st b) := by
    unfold splitL
    rw [List.map_map]
    have : (st ∘ fun x : Str => x.cps.toList) = _root_.id := by funext x; exact st_toList x
    rw [this, List.map_id]
  rw [← e, joinS_eq] at this
  exact congrArg (fun x : Str => x.cps.toList) this
theorem split_ne (a b : List Nat) : splitL a b ≠ [] := by
  unfold splitL Txt.split
  intro h
  rw [List.map_eq_nil_iff] at h
  split at h
  · cases h
  · split at h
    · cases h
    · rw [StrLaws.partsBetween_eq] at h
      obtain ⟨p, r, e⟩ := StrLaws.partsFrom_ne (st a) (st b).length 0 (occurrences (st a) (st b) 0 (st a).length ((st a).length + 1))
      rw [e] at h; cases h
/-- texts that are free of a sign are told by what they are joined to -/
theorem joinS_inj {c : Nat} : ∀ {l l' : List (List Nat)}, l ≠ [] → l' ≠ [] → (∀ x ∈ l, c ∉ x) → (∀ x ∈ l', c ∉ x) → joinS [c] l = joinS [c] l' → l = l'
  | [], _, h, _, _, _, _ => absurd rfl h
  | _, [], _, h, _, _, _ => absurd rfl h
  | [x], [y], _, _, _, _, e => by simpa [joinS] using e
  | [x], y :: z :: r, _, _, hx, _, e => by
    exfalso
    have : c ∈ x := by
      have e' : x = y ++ [c] ++ joinS [c] (z :: r) := e
      rw [e']; simp
    exact hx x (by simp) this
  | y :: z :: r, [x], _, _, _, hx, e => by
    exfalso
    have : c ∈ x := by
      have e' : y ++ [c] ++ joinS [c] (z :: r) = x := e
      rw [← e']; simp
    exact hx x (by simp) this
  | x :: y :: r, x' :: y' :: r', _, _, h, h', e => by
    have e' : x ++ (c :: joinS [c] (y :: r)) = x' ++ (c :: joinS [c] (y' :: r')) := by simpa [joinS] using e
    have key : ∀ (x x' : List Nat) (t t' : List Nat), c ∉ x → c ∉ x' → x ++ c :: t = x' ++ c :: t' → x = x' ∧ t = t' := by
      intro x
      induction x with
      | nil =>
        intro x' t t' _ h2 e
        cases x' with
        | nil => simpa using e
        | cons a r => simp at e; exact absurd (by simp [e.1]) h2
      | cons a r ih =>
        intro x' t t' h1 h2 e
        cases x' with
        | nil => simp at e; exact absurd (by simp [e.1]) h1
        | cons a' r' =>
          simp only [List.cons_append, List.cons.injEq] at e
          obtain ⟨h3, h4⟩ := ih r' t t' (by simp at h1; exact h1.2) (by simp at h2; exact h2.2) e.2
          exact ⟨by rw [e.1, h3], h4⟩
    obtain ⟨h1, h2⟩ := key x x' _ _ (h x (by simp)) (h' x' (by simp)) e'
    rw [h1, joinS_inj (by simp) (by simp) (fun z hz => h z (by simp [hz])) (fun z hz => h' z (by simp [hz])) h2]
theorem split_one {c : Nat} {l : List (List Nat)} (hl : l ≠ []) (h : ∀ x ∈ l, c ∉ x) : splitL (joinS [c] l) [c] = l :=
  joinS_inj (split_ne _ _) hl (fun x hx => by
    simp only [splitL, List.mem_map] at hx
    obtain ⟨p, hp, rfl⟩ := hx
    exact StrLaws.split_free _ c p hp) h (joinS_split _ _)

section
variable {x : Cx} {m : Loc} {n : Mut} {P : SV → Mut → Prop}
theorem atL_strs {fz : Frz} {as : List Addr} : ∀ l : List (Str × Tok), SV.AtL fz as ((l.map (·.1)).map fun s => SV.str s.cps.toList) (strValues l)
  | [] => .nil
  | (s, t) :: r => .cons (by simp only [SV.At]; exact ⟨t, by rw [show (⟨⟨s.cps.toList⟩⟩ : Str) = s from st_toList s]⟩) (atL_strs r)
theorem CL_split {a b : List Nat} (hb : b ≠ []) (hs : a.length ≤ 1000000) (h : P (.list ((splitL a b).map .str)) n) : CL x m n (.bi "str.split") [.str a, .str b] P := fun s fz as vf vs I hf ha => by
  simp only [SV.At] at hf; subst hf
  simp only [SV.AtL, SV.At] at ha; obtain ⟨_, _, rfl, ⟨t, rfl⟩, _, _, rfl, ⟨u, rfl⟩, rfl⟩ := ha
  have hy : ((st b).length == 0) = false := by
    show (b.length == 0) = false
    cases b with
    | nil => exact absurd rfl hb
    | cons _ _ => rfl
  have hx : (st a).length ≤ sizeLine := Nat.le_trans (show a.length ≤ _ from hs) (by decide)
  have fin : ∀ (l : List (Str × Tok)) (tk : Nat), l.map (·.1) = Txt.split (st a) (st b) → Post x m fz as P (.ref s.heap.objs.size) { s with heap := s.heap.push { cls := .type "list", data := .seq (strValues l).toArray }, toks := tk } := by
    intro l tk e
    obtain ⟨I2, le⟩ := I.freeze (lstO (strValues l) 0) rfl
    refine ⟨_, n, _, as, h, le, List.prefix_refl _, I2.toks tk, ?_⟩
    simp only [SV.At]
    refine ⟨_, strValues l, 0, rfl, Frz.add_self _ _ _, ?_⟩
    have : (splitL a b).map SV.str = (l.map (·.1)).map fun s => SV.str s.cps.toList := by rw [e]; simp [splitL]
    rw [this]; exact atL_strs l
  have hn : (partsBetween (st a) (occurrences (st a) (st b) 0 (st a).length ((st a).length + 1)) (st b).length).length ≤ sizeLine := by
    rw [len_partsBetween]
    have := StrLaws.occ_length_le_len (st a) (st b) 0 (st a).length ((st a).length + 1)
    have h1 : (st a).length = a.length := rfl
    have h2 : (1000002 : Nat) ≤ sizeLine := by decide
    omega
  cases h1 : (decide ((st a).length < (st b).length) || decide (strKind (st a) < strKind (st b)))
  · cases hf : (occurrences (st a) (st b) 0 (st a).length ((st a).length + 1)).isEmpty
    · refine call_meets F.slot_str_split (typeIs_str _ _ _) F.entry_str_split (F.args_str_split_2 _ _) (meets_str_split_sep (st a) (st b) t u h1 hy hf hx hn) ?_
      show Post x m fz as P _ { s with toks := _, heap := s.heap.push { cls := .type "list", data := .seq (strsFrom s.toks (partsBetween (st a) (occurrences (st a) (st b) 0 (st a).length ((st a).length + 1)) (st b).length)).toArray } }
      rw [strsFrom_eq]
      exact fin (numbered s.toks _) _ ((numbered_texts _ _).trans ((if_neg (ne_true_of_eq_false h1)).trans (if_neg (ne_true_of_eq_false hf))).symm)
    · exact call_meets F.slot_str_split (typeIs_str _ _ _) F.entry_str_split (F.args_str_split_2 _ _) (meets_str_split_not_found (st a) (st b) t u h1 hy hf) (fin [(st a, t)] s.toks ((if_neg (ne_true_of_eq_false h1)).trans (if_pos hf)).symm)
  · exact call_meets F.slot_str_split (typeIs_str _ _ _) F.entry_str_split (F.args_str_split_2 _ _) (meets_str_split_cannot_occur (st a) (st b) t u h1) (fin [(st a, t)] s.toks (if_pos h1).symm)

theorem strs_of_atL {fz : Frz} {as : List Addr} : ∀ (l : List (List Nat)) (vs : List Value), SV.AtL fz as (l.map .str) vs → ∃ p : List (Str × Tok), vs = strValues p ∧ p.map (·.1) = l.map st
  | [], vs, h => by simp only [List.map_nil, SV.AtL] at h; subst h; exact ⟨[], rfl, rfl⟩
  | x :: r, vs, h => by
    simp only [List.map_cons, SV.AtL, SV.At] at h
    obtain ⟨_, q, rfl, ⟨t, rfl⟩, h2⟩ := h
    obtain ⟨p, rfl, e⟩ := strs_of_atL r q h2
    exact ⟨(st x, t) :: p, rfl, by simp [e]⟩
theorem join_fits {sep : Str} : ∀ (l : List Str) (k : Nat), l.foldl (fun acc s => acc + s.length + sep.length) k = k + (l.map fun s => s.length + sep.length).sum
  | [], k => by simp
  | a :: r, k => by rw [List.foldl_cons, join_fits r]; simp only [List.map_cons, List.sum_cons]; omega
theorem join_vals {sep : List Nat} {u : Tok} {l : List (List Nat)} {p : List (Str × Tok)} {s : Shared} {fz : Frz} {as : List Addr} (I : Iv x m n fz as s) (hp : p.map (·.1) = l.map st) (h : P (.str (joinS sep l)) n)
    (hs : (l.map fun s => s.length + sep.length).sum ≤ 1000000) : tooLong ((p.map (·.1)).toArray.foldl (· + ·.length + (st sep).length) 0) = false ∧ (joinMade (st sep) p).post (fun v s' => Post x m fz as P v s') s := by
  have hsum : ((l.map st).map fun s : Str => s.length + (st sep).length).sum = (l.map fun s => s.length + sep.length).sum := by rw [List.map_map]; rfl
  constructor
  · rw [hp]
    have : (l.map st).toArray.foldl (· + ·.length + (st sep).length) 0 = (l.map st).foldl (fun acc s => acc + s.length + (st sep).length) 0 := by simp
    rw [this, join_fits, hsum]
    have h4 : (1000000 : Nat) ≤ sizeLine := by decide
    exact decide_eq_false (Nat.not_lt.mpr (by omega))
  · have lenle : ∀ l : List (List Nat), (joinS sep l).length ≤ (l.map fun s => s.length + sep.length).sum := by
      intro l
      induction l with
      | nil => simp [joinS]
      | cons a r ih =>
        cases r with
        | nil => simp [joinS]
        | cons b r => simp only [joinS, List.length_append, List.map_cons, List.sum_cons] at ih ⊢; omega
    have fin : glued (st sep) (p.map (·.1)) = st (joinS sep l) := by rw [StrLaws.glued_eq_join, hp, joinS_eq]
    have len1 := lenle l
    have h4 : (1000000 : Nat) ≤ sizeLine := by decide
    have gen : (Made.str (glued (st sep) (p.map (·.1)))).post (fun v s' => Post x m fz as P v s') s := by
      rw [fin]
      exact ⟨by show (joinS sep l).length ≤ _; omega, (I.toks _).post (sv := .str (joinS sep l)) (at_str _) h⟩
    cases p with
    | nil => exact gen
    | cons q r =>
      cases r with
      | cons q' r' => exact gen
      | nil =>
        obtain ⟨a, t⟩ := q
        have : l.map st = [a] := by rw [← hp]; rfl
        cases l with
        | nil => cases this
        | cons b r =>
          cases r with
          | cons _ _ => cases this
          | nil =>
            simp at this
            subst this
            exact I.post (sv := .str b) (at_str t) h
theorem CL_join {sep : List Nat} {l : List (List Nat)} (hs : (l.map fun s => s.length + sep.length).sum ≤ 1000000) (h : P (.str (joinS sep l)) n) : CL x m n (.bi "str.join") [.str sep, .list (l.map .str)] P := fun s fz as vf vs I hf ha => by
  simp only [SV.At] at hf; subst hf
  simp only [SV.AtL, SV.At] at ha; obtain ⟨_, _, rfl, ⟨t, rfl⟩, _, _, rfl, ⟨b, vl, ep, rfl, e, hl⟩, rfl⟩ := ha
  obtain ⟨p, rfl, hp⟩ := strs_of_atL l vl hl
  obtain ⟨h1, h2⟩ := join_vals (sep := sep) (u := t) I hp h hs
  exact call_meets F.slot_str_join (typeIs_str _ _ _) F.entry_str_join (F.args_str_join_2 _ _) (meets_str_join_list (st sep) t b p h1) ⟨⟨_, I.frz _ _ e, rfl, ep, rfl⟩, h2⟩
theorem CL_join_ml {sep : List Nat} {l : List (List Nat)} {k : Nat} (hk : n[k]? = some (l.map .str)) (hs : (l.map fun s => s.length + sep.length).sum ≤ 1000000) (h : P (.str (joinS sep l)) n) : CL x m n (.bi "str.join") [.str sep, .ml k] P := fun s fz as vf vs I hf ha => by
  simp only [SV.At] at hf; subst hf
  simp only [SV.AtL, SV.At] at ha; obtain ⟨_, _, rfl, ⟨t, rfl⟩, _, _, rfl, ⟨b, rfl, e⟩, rfl⟩ := ha
  obtain ⟨vl, ep, ho, hl⟩ := I.mls k b _ e hk
  obtain ⟨p, rfl, hp⟩ := strs_of_atL l vl hl
  obtain ⟨h1, h2⟩ := join_vals (sep := sep) (u := t) I hp h hs
  exact call_meets F.slot_str_join (typeIs_str _ _ _) F.entry_str_join (F.args_str_join_2 _ _) (meets_str_join_list (st sep) t b p h1) ⟨⟨_, ho, rfl, ep, rfl⟩, h2⟩
end
section
variable {x : Cx} {m : Loc} {n : Mut} {P : SV → Mut → Prop}
theorem OP2_last_ml {value slice : Expr} {k : Nat} {xs : List SV} {a : SV} (hk : n[k]? = some (xs ++ [a])) (hs : xs.length ≤ 1000000) (h : P a n) : OP2 x m n (.ml k) (.int (-1)) (subscriptTail value slice) P := fun s fz as va vb I hva hvb => by
  simp only [SV.At] at hva hvb; obtain ⟨b, rfl, hb⟩ := hva; obtain ⟨t, rfl⟩ := hvb
  obtain ⟨l, ep, ho, hl⟩ := I.mls k b _ hb hk
  have n1 := hl.length
  simp at n1
  obtain ⟨v, h1, h2⟩ := hl.get (i := xs.length) (x := a) (by simp)
  refine tail_gen (T := "list") ⟨_, ho, rfl⟩ slot_list_getitem.lookup (wpAny_getItem_list_neg (items := ⟨l⟩) ⟨_, ho, rfl, ep, rfl⟩ (by decide) (by show -((l.length : Nat) : Int) ≤ -1; omega) (by decide) ?_ (I.post h2 h))
  have : (-1 + (((⟨l⟩ : Array Value).size : Nat) : Int)).toNat = xs.length := by
    show (-1 + ((l.length : Nat) : Int)).toNat = _
    omega
  rw [this]; simpa using h1
end
section
variable {x : Cx} {m : Loc} {n : Mut} {P : SV → Mut → Prop}
theorem decI_neg (m : Nat) : decI (Int.negSucc m) = 45 :: decI ((m + 1 : Nat) : Int) := by
  unfold decI
  have e : toString (Int.negSucc m) = "-" ++ toString ((m + 1 : Nat) : Int) := rfl
  rw [e, Str.ofString_eq_toList, Str.ofString_eq_toList]
  simp
theorem decI_len2 {k : Int} (h : k.natAbs < 10 ^ 10) : (decI k).length ≤ 11 := by
  cases k with
  | ofNat a =>
    have := decI_len (k := Int.ofNat a) (Int.natCast_nonneg a) (by have : a < 10 ^ 10 := h; show (a : Int) < _; omega)
    omega
  | negSucc a =>
    rw [decI_neg]
    have := decI_len (k := ((a + 1 : Nat) : Int)) (by omega) (by have : a + 1 < 10 ^ 10 := h; omega)
    simp only [List.length_cons]; omega
theorem log2_small {k : Int} (h0 : k.natAbs < 10 ^ 10) : k.natAbs.log2 < 1920 := by
  have h : k.natAbs < 2 ^ 64 := by omega
  rcases Nat.eq_zero_or_pos k.natAbs with e | e
  · rw [e]; decide
  · have := (Nat.log2_lt (by omega)).mpr h
    omega
theorem CL_str_int {k : Int} (h0 : k.natAbs < 10 ^ 10) (h : P (.str (decI k)) n) : CL x m n (.ty "str") [.int k] P := fun s fz as vf vs I hf ha => by
  simp only [SV.At] at hf; subst hf
  simp only [SV.AtL, SV.At] at ha; obtain ⟨_, _, rfl, ⟨t, rfl⟩, rfl⟩ := ha
  exact PySem.P.str_of_int (log2_small h0) ((I.toks _).post (sv := .str (decI k)) (by rw [decI_eq]; exact at_str _) h)
theorem CL_int_num {k : Int} (h0 : 0 ≤ k) (h1 : k < 10 ^ 10) (h : P (.int k) n) : CL x m n (.ty "int") [.str (decI k)] P := fun s fz as vf vs I hf ha => by
  simp only [SV.At] at hf; subst hf
  simp only [SV.AtL, SV.At] at ha; obtain ⟨_, _, rfl, ⟨t, rfl⟩, rfl⟩ := ha
  have := PySem.W.KIN.call_num (prog := pw) (w := x.w) (A := x.A) (E := noE) (s := s) (t := t) (Q := Post x m fz as P) h0 h1 ((I.toks _).post (sv := .int k) (at_int _) h)
  rw [decI_eq] at this; exact this
end
end Mine

namespace Mine
open Calls
section
variable {x : Cx} {m : Loc} {n : Mut}
theorem filterMap_some {T U : Type} (q : T → U) (ts : List T) : ts.filterMap (fun t => some (q t)) = ts.map q := by
  induction ts with
  | nil => rfl
  | cons a r ih => simp
/-- one element for each, nothing seen of the frame around -/
noncomputable def MapOk (T : Type) (x : Cx) (m : Loc) (n : Mut) (elt iter : Expr) (y : Str) (scope : Scope) (P : SV → Mut → Prop) : Prop :=
  EV x m n iter (fun a n1 => n1 = n ∧ ∃ (ts : List T) (g q : T → SV), IterOf a (ts.map g) ∧ ts.length ≤ 100000 ∧ SV.pureL (ts.map q) = true ∧
    (∀ t ∈ ts, ∀ C ys, SV.pureL ys = true → EV (x.inn scope [] C) [(y, g t)] (n ++ [ys]) elt (fun v n3 => n3 = n ++ [ys] ∧ v = q t)) ∧ P (.list (ts.map q)) n)
theorem MapOk.comp {T : Type} {elt iter : Expr} {y : Str} {scope : Scope} {P : SV → Mut → Prop} (hl : ∀ C, (cenv x scope [] C).kindOf y = some .local) (hc : ∀ C, (cenv x scope [] C).cells.lookup y = none) (h : MapOk T x m n elt iter y scope P) : CompOk T x m n elt iter y [] scope [] P := by
  intro s fz as I
  refine wpAny_mono (h s fz as I) (fun v s1 q => ?_) fun _ _ z => z
  obtain ⟨sv, n', f, a, ⟨e, ts, g, q, h1, h2, h3, h4, h5⟩, r1, r2, r3, r4⟩ := q
  refine ⟨sv, n', f, a, ⟨e, ts, g, fun t => some (q t), [(y, .unset)], h1, h2, by simp, fun p hp => .inl (by simp at hp; rw [hp]), by rw [filterMap_some]; exact h3, fun t ht C ys _ hyp => ⟨.inl ⟨hl C, hc C⟩, fun d e => (by rw [hc C] at e; cases e), [(y, g t)], .head, .drop .nil, rfl, ?_⟩, by rw [filterMap_some]; exact h5⟩, r1, r2, r3, r4⟩
  exact (h4 t ht C ys hyp).mono fun v n3 ⟨e1, e2⟩ => ⟨e1, by rw [e2]⟩

theorem EV_map (T : Type) {P : SV → Mut → Prop} {pos : Pos} {elt iter : Expr} {y : Str} {py : Pos} {scope : Scope} (hA : x.A.handled = none) (hfree : ∀ z ∈ scope.names, z.2 ≠ .free)
    (hkind : scope.kind = .function) (hnames : ∀ z ∈ scope.names, z.2 = .local → scope.names.lookup z.1 = some .local) (hpn : ∀ xs ∈ n, SV.pureL xs = true) (hl : ∀ C, (cenv x scope [] C).kindOf y = some .local) (hc : ∀ C, (cenv x scope [] C).cells.lookup y = none)
    (hsf : ∀ v, foldedSetIterable iter x.env v = pure v) (ht : ∀ it v, letOwnedTupleGo (.Name y py) it v = pure ()) (h : MapOk T x m n elt iter y scope P) :
    EV x m n (.ListComp elt [⟨.Name y py, iter, [], 0⟩] scope pos) P :=
  EV_comp T hA (closureFor_none hfree) (fun y c e => nomatch e) hkind hnames hpn (h.comp hl hc) hsf ht
theorem ES_assign_map (T : Type) {P : Fw → Loc → Mut → Prop} {pos : Pos} {z : Str} {pz : Pos} {cpos : Pos} {elt iter : Expr} {y : Str} {py : Pos} {scope : Scope} (hA : x.A.handled = none) (hk : x.env.scope.kind = .function) (hst : Storable x.env z)
    (hsw : swapsWith (.ListComp elt [⟨.Name y py, iter, [], 0⟩] scope cpos) (some (.Name z pz)) pos.line x.env = pure true) (hfree : ∀ z ∈ scope.names, z.2 ≠ .free)
    (hkind : scope.kind = .function) (hnames : ∀ z ∈ scope.names, z.2 = .local → scope.names.lookup z.1 = some .local) (hpn : ∀ xs ∈ n, SV.pureL xs = true) (hl : ∀ C, (cenv x scope [] C).kindOf y = some .local) (hc : ∀ C, (cenv x scope [] C).cells.lookup y = none)
    (hsf : ∀ v, foldedSetIterable iter x.env v = pure v) (ht : ∀ it v, letOwnedTupleGo (.Name y py) it v = pure ()) (h : MapOk T x m n elt iter y scope (fun a n1 => ∃ m', Put z a m m' ∧ P .next m' n1)) :
    ES x m n (.Assign [.Name z pz] (.ListComp elt [⟨.Name y py, iter, [], 0⟩] scope cpos) pos) P :=
  ES_assign_comp T hA hk hst hsw (closureFor_none hfree) (fun y c e => nomatch e) hkind hnames hpn (h.comp hl hc) hsf ht
end
theorem OP2_mul_lit {x : Cx} {m : Loc} {n : Mut} {P : SV → Mut → Prop} {a : List Nat} {k : Int} (hl : Nat.ble a.length 1 = true) (h0 : 0 ≤ k) (hk : k ≤ 1000000) (h : P (.str (rep a k.toNat)) n) : OP2 x m n (.str a) (.int k) (binaryOp .Mult) P := by
  have h1 : a.length ≤ 1 := Nat.le_of_ble_eq_true hl
  refine OP2_mul_str h0 ?_ hk h
  exact Nat.le_trans (Nat.mul_le_mul_right _ h1) (by omega)
end Mine

namespace Mine
open Builtin.Str
theorem once {c : Nat} : ∀ {P A B T : List Nat}, c ∉ P → c ∉ T → A ++ c :: B = P ++ c :: T → A = P ∧ B = T
  | [], [], B, T, _, _, e => by simpa using e
  | [], a :: A, B, T, _, h2, e => by
    simp at e
    exact absurd (by rw [← e.2]; simp) h2
  | p :: P, [], B, T, h1, _, e => by
    simp at e
    exact absurd (by simp [e.1]) h1
  | p :: P, a :: A, B, T, h1, h2, e => by
    simp only [List.cons_append, List.cons.injEq] at e
    simp at h1
    obtain ⟨h3, h4⟩ := once h1.2 h2 e.2
    exact ⟨by rw [e.1, h3], h4⟩
theorem at_mid (p sep t : List Nat) : StrLaws.At (st (p ++ sep ++ t)) (st sep) (st (p ++ sep ++ t)).length p.length := by
  refine ⟨?_, ?_⟩
  · show p.length + sep.length ≤ (p ++ sep ++ t).length
    simp
  · rw [StrLaws.subAt_eq]
    show (((p ++ sep ++ t).drop p.length).take sep.length == sep) = true
    simp
theorem split_two {a b : List Nat} (i : Nat) (h : StrLaws.At (st a) (st b) (st a).length i) (hk : strKind (st b) ≤ strKind (st a)) : ∃ x y r, splitL a b = x :: y :: r := by
  have hlen : ¬ (st a).length < (st b).length := by have := h.1; omega
  unfold splitL Txt.split
  have h1 : (decide ((st a).length < (st b).length) || decide (strKind (st a) < strKind (st b))) = false := by
    rw [decide_eq_false hlen, decide_eq_false (by omega)]; rfl
  rw [h1]
  simp only [Bool.false_eq_true, if_false]
  rcases StrLaws.occ_head (st a) (st b) ((st a).length + 1) (by omega) with ⟨_, h2⟩ | ⟨j, r, h2, _⟩
  · exact absurd h (h2 i)
  · rw [h2]
    simp only [List.isEmpty_cons, Bool.false_eq_true, if_false]
    have hl := PyProof.Rows.len_partsBetween (st a) (j :: r) (st b).length
    cases hp : partsBetween (st a) (j :: r) (st b).length with
    | nil => rw [hp] at hl; simp at hl
    | cons x q =>
      cases q with
      | nil => rw [hp] at hl; simp at hl
      | cons y q => exact ⟨x.cps.toList, y.cps.toList, q.map (·.cps.toList), by simp⟩
theorem split_pair {c : Nat} {s0 p t : List Nat} (h0 : c ∉ s0) (hp : c ∉ p) (ht : c ∉ t) : splitL (p ++ (s0 ++ [c]) ++ t) (s0 ++ [c]) = [p, t] := by
  obtain ⟨x, y, r, e⟩ := split_two p.length (at_mid p (s0 ++ [c]) t) (PySem.W.kind_le _ _ (at_mid p (s0 ++ [c]) t).2)
  have j := joinS_split (p ++ (s0 ++ [c]) ++ t) (s0 ++ [c])
  rw [e] at j ⊢
  have j' : (x ++ s0) ++ c :: joinS (s0 ++ [c]) (y :: r) = (p ++ s0) ++ c :: t := by
    have : joinS (s0 ++ [c]) (x :: y :: r) = x ++ (s0 ++ [c]) ++ joinS (s0 ++ [c]) (y :: r) := rfl
    rw [this] at j
    simpa using j
  obtain ⟨h1, h2⟩ := once (by simp [hp, h0]) ht j'
  have hx : x = p := List.append_cancel_right h1
  cases r with
  | nil =>
    have : y = t := h2
    rw [hx, this]
  | cons z r =>
    exfalso
    have : joinS (s0 ++ [c]) (y :: z :: r) = y ++ (s0 ++ [c]) ++ joinS (s0 ++ [c]) (z :: r) := rfl
    rw [this] at h2
    exact ht (by rw [← h2]; simp)
theorem decI_digit {k : Int} (h0 : 0 ≤ k) : ∀ c ∈ decI k, 48 ≤ c ∧ c ≤ 57 := by
  obtain ⟨m, rfl⟩ := Int.eq_ofNat_of_zero_le h0
  have e : decI (m : Int) = (Nat.toDigits 10 m).map Char.toNat := PySem.W.KIN.signs_num m
  rw [e]
  intro c hc
  simp only [List.mem_map] at hc
  obtain ⟨d, hd, rfl⟩ := hc
  have := Nat.isDigit_of_mem_toDigits (b := 10) (by decide) (by decide) hd
  simp only [Char.isDigit, Bool.and_eq_true, decide_eq_true_eq] at this
  exact ⟨by have := this.1; exact this, by have := this.2; exact this⟩
end Mine
namespace Mine
theorem tx_chars : tx " chars]" = [32, 99, 104, 97, 114, 115] ++ [93] := by decide +kernel
theorem tx_br : tx "[" = [91] := by decide +kernel
/-- a text with notes: what is ahead, and each note's number with what is behind it -/
noncomputable def noted (t0 : List Nat) (ps : List (Int × List Nat)) : List Nat := t0 ++ ps.flatMap fun p => tx "[" ++ decI p.1 ++ tx " chars]" ++ p.2
noncomputable def patL (t0 : List Nat) (ps : List (Int × List Nat)) : List Nat := t0 ++ ps.flatMap fun p => rep [63] p.1.toNat ++ p.2
noncomputable def pieceL (p : Int × List Nat) : List Nat := decI p.1 ++ tx " chars]" ++ p.2
theorem noted_join : ∀ (t0 : List Nat) (ps : List (Int × List Nat)), noted t0 ps = joinS [91] (t0 :: ps.map pieceL)
  | t0, [] => by simp [noted, joinS]
  | t0, p :: ps => by
    have := noted_join (pieceL p) ps
    have h2 : joinS [91] (t0 :: (p :: ps).map pieceL) = t0 ++ [91] ++ joinS [91] (pieceL p :: ps.map pieceL) := rfl
    rw [h2, ← this]
    simp [noted, pieceL, tx_br]
theorem noted_split {t0 : List Nat} {ps : List (Int × List Nat)} (h0 : 91 ∉ t0) (h : ∀ p ∈ ps, 0 ≤ p.1 ∧ 91 ∉ p.2) : splitL (noted t0 ps) [91] = t0 :: ps.map pieceL := by
  rw [noted_join]
  refine split_one (by simp) fun x hx => ?_
  simp only [List.mem_cons, List.mem_map] at hx
  rcases hx with rfl | ⟨p, hp, rfl⟩
  · exact h0
  · obtain ⟨h1, h2⟩ := h p hp
    unfold pieceL
    rw [tx_chars]
    simp only [List.mem_append, not_or]
    exact ⟨⟨fun hc => by have := decI_digit h1 _ hc; omega, by decide, by decide⟩, h2⟩
theorem piece_split {p : Int × List Nat} (h0 : 0 ≤ p.1) (h : 93 ∉ p.2) : splitL (pieceL p) (tx " chars]") = [decI p.1, p.2] := by
  unfold pieceL
  rw [tx_chars]
  exact split_pair (by decide) (fun hc => by have := decI_digit h0 _ hc; omega) h
end Mine
namespace Mine
theorem rep_len (a : List Nat) (k : Nat) : (rep a k).length = a.length * k := by
  unfold rep
  rw [List.length_flatten, List.map_replicate, List.sum_replicate_nat, Nat.mul_comm]
theorem flatMap_len {T : Type} {f : T → List Nat} {K : Nat} : ∀ (l : List T), (∀ t ∈ l, (f t).length ≤ K) → (l.flatMap f).length ≤ l.length * K
  | [], _ => by simp
  | a :: r, h => by
    have h1 := h a (by simp)
    have h2 := flatMap_len r fun t ht => h t (by simp [ht])
    rw [List.flatMap_cons, List.length_append, List.length_cons, Nat.succ_mul]; omega
theorem noted_len {t0 : List Nat} {ps : List (Int × List Nat)} (h : ∀ p ∈ ps, 0 ≤ p.1 ∧ p.1 ≤ 1000 ∧ p.2.length ≤ 1000) (hl : ps.length ≤ 10) (hs : t0.length ≤ 1000) : (noted t0 ps).length ≤ 20000 := by
  unfold noted
  rw [List.length_append]
  have := flatMap_len (K := 1100) (f := fun p : Int × List Nat => tx "[" ++ decI p.1 ++ tx " chars]" ++ p.2) ps (fun p hp => by
    have h1 := h p hp
    have h2 := decI_len h1.1 (by omega)
    rw [tx_chars, tx_br]
    simp only [List.length_append, List.length_cons, List.length_nil]; omega)
  have : ps.length * 1100 ≤ 11000 := by omega
  omega
theorem patL_len {t0 : List Nat} {ps : List (Int × List Nat)} (h : ∀ p ∈ ps, 0 ≤ p.1 ∧ p.1 ≤ 1000 ∧ p.2.length ≤ 1000) (hl : ps.length ≤ 10) (hs : t0.length ≤ 1000) : (patL t0 ps).length ≤ 30000 := by
  unfold patL
  rw [List.length_append]
  have := flatMap_len (K := 2000) (f := fun p : Int × List Nat => rep [63] p.1.toNat ++ p.2) ps (fun p hp => by
    have h1 := h p hp
    rw [List.length_append, rep_len]
    simp only [List.length_cons, List.length_nil]; omega)
  have : ps.length * 2000 ≤ 20000 := by omega
  omega
end Mine

namespace Mine
open Calls

theorem best_gt {T : Type} {gt : T → T → Prop} [∀ a b, Decidable (gt a b)] (irr : ∀ a, ¬ gt a a) (tr : ∀ a b c, gt a b → gt b c → gt a c) (val : Nat → T) : ∀ k, argBest (fun i j => decide (gt (val i) (val j))) k ≤ k ∧ ∀ j, j ≤ k → ¬ gt (val j) (val (argBest (fun i j => decide (gt (val i) (val j))) k))
  | 0 => ⟨Nat.le_refl _, fun j hj => by
    have e : j = 0 := by omega
    subst e
    exact irr _⟩
  | k + 1 => by
    obtain ⟨h1, h2⟩ := best_gt irr tr val k
    unfold argBest
    by_cases hb : gt (val (k + 1)) (val (argBest (fun i j => decide (gt (val i) (val j))) k))
    · rw [decide_eq_true hb]
      simp only [if_true]
      refine ⟨Nat.le_refl _, fun j hj hg => ?_⟩
      rcases Nat.lt_or_ge k j with hk | hk
      · obtain rfl : j = k + 1 := by omega
        exact irr _ hg
      · exact h2 j hk (tr _ _ _ hg hb)
    · rw [decide_eq_false hb]
      simp only [Bool.false_eq_true, if_false]
      refine ⟨by omega, fun j hj hg => ?_⟩
      rcases Nat.lt_or_ge k j with hk | hk
      · obtain rfl : j = k + 1 := by omega
        exact hb hg
      · exact h2 j hk hg

noncomputable def maxN (l : List Nat) : Nat := l.foldl max 0
theorem foldl_max : ∀ (l : List Nat) (a : Nat), l.foldl max a = max a (maxN l)
  | [], a => by simp [maxN]
  | b :: r, a => by
    simp only [maxN, List.foldl_cons]
    rw [foldl_max r, foldl_max r (max 0 b), Nat.zero_max, Nat.max_assoc]
theorem maxN_eq {l : List Nat} {M : Nat} (h : M ∈ l) (hm : ∀ a ∈ l, a ≤ M) : maxN l = M := by
  have ge : ∀ (l : List Nat) a, a ∈ l → a ≤ maxN l := by
    intro l
    induction l with
    | nil => intro a ha; simp at ha
    | cons b r ih =>
      intro a ha
      have e : maxN (b :: r) = max b (maxN r) := by simp only [maxN, List.foldl_cons]; rw [foldl_max]; simp [maxN]
      rw [e]
      rcases List.mem_cons.mp ha with rfl | ha
      · omega
      · have := ih a ha; omega
  have le : ∀ (l : List Nat), (∀ a ∈ l, a ≤ M) → maxN l ≤ M := by
    intro l
    induction l with
    | nil => intro _; simp [maxN]
    | cons b r ih =>
      intro hb
      have e : maxN (b :: r) = max b (maxN r) := by simp only [maxN, List.foldl_cons]; rw [foldl_max]; simp [maxN]
      rw [e]
      have h1 := hb b (by simp)
      have h2 := ih fun a ha => hb a (by simp [ha])
      omega
  exact Nat.le_antisymm (le l hm) (ge l M h)

section
variable {x : Cx} {m : Loc} {n : Mut} {fz : Frz} {as : List Addr} {s : Shared}
theorem Iv.inA (I : Iv x m n fz as s) (A' : Around) : Iv { x with A := A' } m n fz as s :=
  ⟨I.stat, I.tab, I.grow, I.frz, I.fzT, I.frb, I.loc, I.keys, I.fzL, I.newL, I.LT, I.len, I.nd, I.own, I.mls, I.os, I.bare, I.cel⟩
theorem Iv.outA {A' : Around} (I : Iv { x with A := A' } m n fz as s) : Iv x m n fz as s :=
  ⟨I.stat, I.tab, I.grow, I.frz, I.fzT, I.frb, I.loc, I.keys, I.fzL, I.newL, I.LT, I.len, I.nd, I.own, I.mls, I.os, I.bare, I.cel⟩
end
section
variable {x : Cx} {m : Loc} {n : Mut} {fz : Frz} {as : List Addr} {s : Shared}
/-- only new objects -/
theorem Iv.extK {h' : Heap} (I : Iv x m n fz as s) (hk : ∀ b o, s.heap.get? b = some o → h'.get? b = some o) (t : Nat) : Iv x m n fz as { s with heap := h', toks := t } := by
  have hn : fz s.heap.objs.size = none := I.newF (Nat.le_refl _)
  have := I.ext (it := s.heap.objs.size) (h' := h') (fun b o _ e => hk b o e) (fun o e => by rw [hn] at e; cases e) ⟨Nat.ne_of_gt I.L_lt, Nat.ne_of_gt I.hT, fun e => Nat.lt_irrefl _ (I.own _ e).2.2.2.2, I.newB (Nat.le_refl _)⟩ t
  have e : fz.del s.heap.objs.size = fz := by
    funext b
    unfold Frz.del
    by_cases hb : b = s.heap.objs.size
    · rw [if_pos hb, hb, hn]
    · rw [if_neg hb]
  rwa [e] at this
end
section
variable {x : Cx} {m : Loc} {n : Mut} {P : SV → Mut → Prop}

/-- the best of some data, by a builtin that walks them -/
theorem CL_best {id : String} {op : CmpOp} {T : Type} {gt : T → T → Prop} [∀ a b, Decidable (gt a b)] (irr : ∀ a, ¬ gt a a) (tr : ∀ a b c, gt a b → gt b c → gt a c)
    (hid : ∀ {s : Shared} {v : Value} {Q : Value → Shared → Prop}, wpAny (model pw x.w) x.A.in1 (pyIter v) (fun it s₂ => ∃ I fp wr n P St bt, it = .ref I ∧ Walks pw x.w x.A.in1 I fp wr n P St ∧ St 0 s₂.heap ∧ (∀ b ∈ fp, b < s₂.heap.objs.size) ∧ 0 < n ∧ CmpOf pw x.w x.A.in1 op P bt ∧
      ∀ v h' tk, P (argBest bt (n - 1)) v → (∀ b o, b ∉ wr → s₂.heap.get? b = some o → h'.get? b = some o) → Q v { s₂ with heap := h', toks := tk }) noE s → wpAny (model pw x.w) x.A (call (.builtin id) [v]) Q noE s)
    (ts : List T) (g : T → SV) (hne : ts ≠ []) (hA : x.A.handled = none)
    (hcmp : ∀ (a b : T) (va vb : Value) (fz : Frz) (as : List Addr) (s : Shared) (Q : Value → Shared → Prop) (E : Value → Shared → Prop), (g a).At fz as va → (g b).At fz as vb → Q (.bool (decide (gt a b))) s → wpAny (model pw x.w) x.A.in1 (richCompare op va vb) Q E s)
    {a : SV} (hi : IterOf a (ts.map g)) (h : ∀ M ∈ ts, (∀ t ∈ ts, ¬ gt t M) → P (g M) n) : CL x m n (.bi id) [a] P := fun s fz as vf vs I hf ha => by
  simp only [SV.At] at hf; subst hf
  simp only [SV.AtL] at ha; obtain ⟨v, _, rfl, hv, rfl⟩ := ha
  refine hid ?_
  refine iter_ok (x := { x with A := x.A.in1 }) hA (I.inA x.A.in1) hv hi fun it o fp PP St s2 hfn hbn I2 S2 st2 => ?_
  obtain ⟨t0, rest, rfl⟩ : ∃ t0 r, ts = t0 :: r := by
    cases ts with
    | nil => exact absurd rfl hne
    | cons a r => exact ⟨a, r, rfl⟩
  let val : Nat → T := fun i => ((t0 :: rest)[i]?).getD t0
  have hval : ∀ i, i < (t0 :: rest).length → (t0 :: rest)[i]? = some (val i) := fun i hi => by
    show _ = some (((t0 :: rest)[i]?).getD t0)
    rw [List.getElem?_eq_getElem hi]; rfl
  have hat : ∀ i v, PP i v → (g (val i)).At (fz.add it o) as v ∧ i < (t0 :: rest).length := fun i v hp => by
    have hr := S2.rng i v hp
    have hr' : i < (t0 :: rest).length := by simpa using hr
    exact ⟨S2.val i v hp _ (by rw [List.getElem?_map, hval i hr']; rfl), hr'⟩
  have fpl : ∀ b ∈ fp, b < s2.heap.objs.size := fun b hb => by
    rcases S2.fp b hb with rfl | ⟨o1, h1, _⟩
    · exact Heap.lt_size (I2.frz _ _ (Frz.add_self _ _ _))
    · exact Heap.lt_size (I2.frz _ _ h1)
  refine ⟨it, fp, [it], _, PP, St, fun i j => decide (gt (val i) (val j)), rfl, S2.walks, st2, fpl, by simp, fun i j vi vj s Q E hi hj hq => hcmp _ _ _ _ _ _ s Q E (hat i vi hi).1 (hat j vj hj).1 hq, fun v h' tk hp hk => ?_⟩
  have hodd := S2.isOdd I2 st2
  have J := (I2.ext (h' := h') (fun b o' hbne e => hk b o' (by simpa using hbne) e) hodd (I2.loose (Frz.add_self _ _ _) hbn) tk).outA
  obtain ⟨hb1, hb2⟩ := best_gt irr tr val (((t0 :: rest).map g).length - 1)
  obtain ⟨at1, hlt⟩ := hat _ v hp
  have off : Off it (fz.add it o) ((fz.add it o).del it) := .del fun o' e => (hodd o' e).1
  refine ⟨_, n, _, as, h (val (argBest (fun i j => decide (gt (val i) (val j))) (((t0 :: rest).map g).length - 1))) (List.mem_of_getElem? (hval _ hlt)) (fun t ht => ?_), fun b o' e => ?_, List.prefix_refl _, J, SV.At.off off _ at1⟩
  · obtain ⟨i, hi'⟩ := List.getElem?_of_mem ht
    have hil := (List.getElem?_eq_some_iff.mp hi').1
    have : val i = t := by
      have := hval i hil
      rw [hi'] at this; exact (Option.some.inj this).symm
    rw [← this]
    exact hb2 i (by simp at hil ⊢; omega)
  · have hne : b ≠ it := fun z => by rw [z, hfn] at e; cases e
    exact (Frz.del_ne hne).trans ((Frz.add_ne hne).trans e)

theorem CL_max_ints {ls : List Nat} {a : SV} (hA : x.A.handled = none) (hi : IterOf a (ls.map fun (k : Nat) => SV.int k)) (hne : ls ≠ []) (h : P (.int (maxN ls)) n) : CL x m n (.bi "max") [a] P := by
  refine CL_best (gt := fun a b : Nat => a > b) (op := .Gt) (fun a => Nat.lt_irrefl a) (fun a b c h1 h2 => Nat.lt_trans h2 h1) (fun h => call_max_walk h) ls _ hne hA (fun a b va vb fz as s Q E ha hb hq => ?_) hi fun M hM hm => ?_
  · simp only [SV.At] at ha hb
    obtain ⟨t, rfl⟩ := ha; obtain ⟨u, rfl⟩ := hb
    refine richCompare_gives (op := .Gt) (typeIs_int s _ t) (typeIs_int s _ u) F.slot_int_gt F.entry_int_gt (F.args_int_gt_2 _ _) (gives_int_gt _ _ t u) (fun x => nomatch x) ?_
    have : decide ((a : Int) > (b : Int)) = decide (a > b) := by simp
    exact this ▸ hq
  · rw [maxN_eq hM fun a ha => Nat.not_lt.mp (hm a ha)] at h; exact h
theorem CL_max_strs {l : List (List Nat)} {a : SV} (hA : x.A.handled = none) (hi : IterOf a (l.map .str)) (hne : l ≠ []) (h : ∀ M ∈ l, (∀ t ∈ l, ¬ M < t) → P (.str M) n) : CL x m n (.bi "max") [a] P := by
  refine CL_best (gt := fun a b : List Nat => b < a) (op := .Gt) (fun a => List.lt_irrefl a) (fun a b c h1 h2 => List.lt_trans h2 h1) (fun h => call_max_walk h) l _ hne hA (fun a b va vb fz as s Q E ha hb hq => ?_) hi fun M hM hm => h M hM hm
  simp only [SV.At] at ha hb
  obtain ⟨t, rfl⟩ := ha; obtain ⟨u, rfl⟩ := hb
  show wpAny _ _ (compareOp .Gt _ _) _ _ _
  refine PySem.P.gt_str ?_
  exact hq
theorem CL_min_strs {l : List (List Nat)} {a : SV} (hA : x.A.handled = none) (hi : IterOf a (l.map .str)) (hne : l ≠ []) (h : ∀ M ∈ l, (∀ t ∈ l, ¬ t < M) → P (.str M) n) : CL x m n (.bi "min") [a] P := by
  refine CL_best (gt := fun a b : List Nat => a < b) (op := .Lt) (fun a => List.lt_irrefl a) (fun a b c h1 h2 => List.lt_trans h1 h2) (fun h => call_min_walk h) l _ hne hA (fun a b va vb fz as s Q E ha hb hq => ?_) hi fun M hM hm => h M hM hm
  simp only [SV.At] at ha hb
  obtain ⟨t, rfl⟩ := ha; obtain ⟨u, rfl⟩ := hb
  show wpAny _ _ (compareOp .Lt _ _) _ _ _
  refine PySem.P.lt_str ?_
  exact hq
theorem CL_range {k : Int} (h0 : 0 ≤ k) (h : P (.rng k.toNat) n) : CL x m n (.ty "range") [.int k] P := fun s fz as vf vs I hf ha => by
  simp only [SV.At] at hf; subst hf
  simp only [SV.AtL, SV.At] at ha; obtain ⟨_, _, rfl, ⟨t, rfl⟩, rfl⟩ := ha
  refine call_range_1 ?_
  obtain ⟨I2, le⟩ := I.freeze { cls := .type "range", data := .fields #[.int 0 s.toks, .int k t, .int 1 (s.toks + 1)] } rfl
  refine ⟨_, n, _, as, h, le, List.prefix_refl _, I2.toks _, ?_⟩
  simp only [SV.At]
  refine ⟨_, s.toks, t, s.toks + 1, rfl, ?_⟩
  rw [Int.toNat_of_nonneg h0]
  exact Frz.add_self _ _ _
theorem CL_tuple_list {xs : List SV} (hs : xs.length ≤ 1000000) (h : P (.tup xs) n) : CL x m n (.ty "tuple") [.list xs] P := fun s fz as vf vs I hf ha => by
  simp only [SV.At] at hf; subst hf
  simp only [SV.AtL] at ha; obtain ⟨_, _, rfl, hv, rfl⟩ := ha
  simp only [SV.At] at hv; obtain ⟨b, l, ep, rfl, e, hl⟩ := hv
  have hsz : (⟨l⟩ : Array Value).size ≤ sizeLine := by show l.length ≤ _; rw [hl.length]; exact Nat.le_trans hs (by decide)
  refine call_tuple_list (items := ⟨l⟩) ⟨_, I.frz _ _ e, rfl, ep, rfl⟩ (fun h' hk => ?_) hsz
  have J := I.extK (h' := h') hk s.toks
  obtain ⟨I2, le⟩ := J.freeze (tupO l 0) rfl
  refine ⟨_, n, _, as, h, le, List.prefix_refl _, I2, ?_⟩
  simp only [SV.At]
  exact ⟨_, l, 0, rfl, Frz.add_self _ _ _, hl.mono le (List.prefix_refl _)⟩
theorem CL_tuple_ml {k : Nat} {xs : List SV} (hk : n[k]? = some xs) (hs : xs.length ≤ 1000000) (h : P (.tup xs) n) : CL x m n (.ty "tuple") [.ml k] P := fun s fz as vf vs I hf ha => by
  simp only [SV.At] at hf; subst hf
  simp only [SV.AtL] at ha; obtain ⟨_, _, rfl, hv, rfl⟩ := ha
  simp only [SV.At] at hv; obtain ⟨b, rfl, e⟩ := hv
  obtain ⟨l, ep, ho, hl⟩ := I.mls k b xs e hk
  have hsz : (⟨l⟩ : Array Value).size ≤ sizeLine := by show l.length ≤ _; rw [hl.length]; exact Nat.le_trans hs (by decide)
  refine call_tuple_list (items := ⟨l⟩) ⟨_, ho, rfl, ep, rfl⟩ (fun h' hk => ?_) hsz
  have J := I.extK (h' := h') hk s.toks
  obtain ⟨I2, le⟩ := J.freeze (tupO l 0) rfl
  refine ⟨_, n, _, as, h, le, List.prefix_refl _, I2, ?_⟩
  simp only [SV.At]
  exact ⟨_, l, 0, rfl, Frz.add_self _ _ _, hl.mono le (List.prefix_refl _)⟩
end
end Mine

namespace Mine
noncomputable def noteL (k : Int) : List Nat := tx "[" ++ decI k ++ tx " chars]"
theorem cut_len {α : Type} (l : List α) (lo hi : Option Int) : (cut l lo hi).length ≤ l.length := by
  unfold cut; simp; omega
theorem add_bnd {a b : List Nat} {p q : Nat} (h1 : a.length ≤ p) (h2 : b.length ≤ q) (h : p + q ≤ 1000000) : a.length + b.length ≤ 1000000 := by omega
theorem app_bnd {a b : List Nat} {p q : Nat} (h1 : a.length ≤ p) (h2 : b.length ≤ q) : (a ++ b).length ≤ p + q := by rw [List.length_append]; omega
theorem noteL_len {k : Int} (h : k.natAbs < 10 ^ 10) : (noteL k).length ≤ 30 := by
  have := decI_len2 h
  unfold noteL
  rw [tx_chars, tx_br]
  simp only [List.length_append, List.length_cons, List.length_nil]; omega
theorem EV_cutv {x : Cx} {m : Loc} {n : Mut} {P : SV → Mut → Prop} {e : Expr} (v : SV) (h : EV x m n e (fun a n1 => a = v ∧ n1 = n)) (k : P v n) : EV x m n e P := h.mono fun a n1 ⟨e1, e2⟩ => by rw [e1, e2]; exact k
end Mine

namespace Mine
open Calls
noncomputable def Frz.delL (fz : Frz) (wr : List Addr) : Frz := fun b => if b ∈ wr then none else fz b
theorem Frz.delL_le {fz : Frz} {wr : List Addr} {b : Addr} {o : Obj} (e : fz.delL wr b = some o) : fz b = some o ∧ b ∉ wr := by
  unfold Frz.delL at e
  split at e
  · cases e
  · rename_i h; exact ⟨e, h⟩
theorem Frz.delL_ne {fz : Frz} {wr : List Addr} {b : Addr} (h : b ∉ wr) : fz.delL wr b = fz b := if_neg h
theorem At_delL {fz : Frz} {as : List Addr} : ∀ (wr : List Addr), (∀ a ∈ wr, ∀ o, fz a = some o → Odd o) → ∀ (x : SV) {v : Value}, x.At fz as v → x.At (fz.delL wr) as v := by
  intro wr
  induction wr with
  | nil =>
    intro _ x v h
    have : fz.delL [] = fz := by funext b; exact if_neg (by simp)
    rw [this]; exact h
  | cons a r ih =>
    intro ho x v h
    have h1 := ih (fun b hb => ho b (List.mem_cons_of_mem _ hb)) x h
    refine SV.At.off (b := a) ⟨fun b o hb e => ?_, fun o e => ho a (by simp) o (Frz.delL_le e).1⟩ x h1
    obtain ⟨e1, e2⟩ := Frz.delL_le e
    exact (Frz.delL_ne (by simp only [List.mem_cons, not_or]; exact ⟨hb, e2⟩)).trans e1
theorem AtL_delL {fz : Frz} {as : List Addr} {wr : List Addr} (ho : ∀ a ∈ wr, ∀ o, fz a = some o → Odd o) : ∀ (xs : List SV) {l : List Value}, SV.AtL fz as xs l → SV.AtL (fz.delL wr) as xs l
  | [], _, h => by simpa only [SV.AtL] using h
  | x :: xs, _, h => by
    simp only [SV.AtL] at h ⊢
    obtain ⟨v, r, e1, e2, e3⟩ := h
    exact ⟨v, r, e1, At_delL wr ho x e2, AtL_delL ho xs e3⟩

section
variable {x : Cx} {m : Loc} {n : Mut} {fz : Frz} {as : List Addr} {s : Shared}
theorem TabOk.extL {h h' : Heap} {wr : List Addr} (t : TabOk h) (k : ∀ b o, b ∉ wr → h.get? b = some o → h'.get? b = some o) (hb : T0 ∉ wr) (hb' : 77 ∉ wr) : TabOk h' := by
  obtain ⟨ps, ⟨o, vs, file, tf, flags, tg, inF, text, tt, op, a, r1, r2, r3, r4, r5, r6, p, r⟩, e⟩ := t
  exact ⟨ps, ⟨o, vs, file, tf, flags, tg, inF, text, tt, op, k _ _ hb' a, r1, r2, r3, r4, r5, r6, k _ _ hb p, r⟩, k _ _ hb e⟩
/-- objects that are held are turned: they are let go -/
theorem TabAt.extL {b h h' : Heap} {wr : List Addr} (t : TabAt b h) (k : ∀ b o, b ∉ wr → h.get? b = some o → h'.get? b = some o) (hb : T0 ∉ wr) (hb' : 77 ∉ wr) : TabAt b h' := t.to (t.ok.extL k hb hb') fun o e => k _ o hb e
theorem Iv.extL {wr : List Addr} {h' : Heap} (I : Iv x m n fz as s) (hs : ∀ b o, b ∉ wr → s.heap.get? b = some o → h'.get? b = some o) (hit : ∀ a ∈ wr, ∀ o, fz a = some o → Odd o ∧ ∀ v, o.data ≠ .cell v) (hl : ∀ a ∈ wr, Loose x as a) (t : Nat) :
    Iv x m n (fz.delL wr) as { s with heap := h', toks := t } := by
  have odd : ∀ a ∈ wr, ∀ o, fz a = some o → Odd o := fun a ha o e => (hit a ha o e).1
  have hT : T0 ∉ wr := fun h => (hl _ h).T rfl
  have hLn : x.env.locals ∉ wr := fun h => (hl _ h).L rfl
  have h77 : 77 ∉ wr := fun h => I.c77 (hl _ h).base rfl
  refine ⟨I.stat, I.tab.extL hs hT h77, fun a o e ha => hs a o (fun q => by rw [(hl _ q).base] at e; cases e) (I.grow a o e ha), fun a o e => ?_, ?_, fun a o e => I.frb a o (Frz.delL_le e).1, ?_, I.keys, ?_, I.newL, I.LT, I.len, I.nd, fun a ha => ?_, fun k a xs p q => ?_, I.os.heap fun o e => hs _ o hT e, I.bare, fun y c e => ?_⟩
  · exact hs a o (Frz.delL_le e).2 (I.frz a o (Frz.delL_le e).1)
  · rw [Frz.delL_ne hT]; exact I.fzT
  · obtain ⟨mv, p, q⟩ := I.loc
    refine ⟨mv, ?_, fun y hy => (q y hy).imp id fun ⟨v, e1, e2⟩ => ⟨v, e1.mono fun a o w e1 e2 => ?_, At_delL wr odd _ e2⟩⟩
    · obtain ⟨o, es, ep, e, r⟩ := p
      exact ⟨o, es, ep, hs _ _ hLn e, r⟩
    · exact (Frz.delL_ne fun z => (hit _ z o e1).2 w e2).trans e1
  · rw [Frz.delL_ne hLn]; exact I.fzL
  · obtain ⟨p, q, r, t, u⟩ := I.own a ha
    refine ⟨?_, q, r, t, ?_⟩
    · unfold Frz.delL; split
      · rfl
      · exact p
    · obtain ⟨i, hi⟩ := List.getElem?_of_mem ha
      have hi' : i < n.length := by rw [← I.len]; exact (List.getElem?_eq_some_iff.mp hi).1
      obtain ⟨l, ep, e, _⟩ := I.mls i a n[i] hi (List.getElem?_eq_getElem hi')
      exact Heap.lt_size (hs a _ (fun z => (hl _ z).as ha) e)
  · obtain ⟨l, ep, r, t⟩ := I.mls k a xs p q
    exact ⟨l, ep, hs a _ (fun z => (hl _ z).as (List.mem_of_getElem? p)) r, AtL_delL odd _ t⟩
  · obtain ⟨⟨o, v, h1, h2⟩, h3⟩ := I.cel y c e
    exact ⟨⟨o, v, (Frz.delL_ne fun z => (hit _ z o h1).2 v h2).trans h1, h2⟩, h3⟩
end

section
variable {x : Cx} {m : Loc} {n : Mut} {P : Fw → Loc → Mut → Prop} {pos : Pos}
inductive EInv (x : Cx) (l : List Nat) (J : Nat → Loc → Mut → Prop) (fz : Frz) (as : List Addr) (it t : Addr) (kk : Nat) (s' : Shared) : Prop
  | mk (i : Nat) (m' : Loc) (n' : Mut) (fz' : Frz) (as' : List Addr) (e : kk = l.length - i) (hi : i ≤ l.length) (Ji : J i m' n') (le : fz.lw fz') (p : as <+: as') (I : Iv x m' n' fz' as' s') (st : (∃ old, IsEnum s'.heap (it + 1) it i old) ∧ s'.heap.IsStrIter it "str_ascii_iterator" ⟨⟨l⟩⟩ t i) (hold : ∀ c ∈ [it + 1, it], ∃ o, fz' c = some o)
theorem ES_for_enum {yi yc y : Str} {pi pc pt rp rpos yp : Pos} {k : Nat} {l : List Nat} {body orelse : List Stmt} (hA : x.A.handled = none) (hk : x.env.scope.kind = .function) (hsi : Storable x.env yi) (hsc : Storable x.env yc)
    (hg : x.env.globals = mainGlobals) (hb : x.env.builtins = builtinsNs) (hke : x.env.kindOf "enumerate" = some .globalImplicit)
    (hy : (y, SV.str l) ∈ m) (hl : x.env.kindOf y = some .local) (hd : (y == ("__debug__" : Str)) = false) (hcl : x.env.cells.lookup y = none) (hasc : l.all (· < 128) = true)
    (J : Nat → Loc → Mut → Prop) (h0 : J 0 m n)
    (hstep : ∀ (i c : Nat), l[i]? = some c → ∀ m1 n1, J i m1 n1 → ∃ m2 m2', Put yi (.int i) m1 m2 ∧ Put yc (.str [c]) m2 m2' ∧ EX x m2' n1 body (KBody (J (i + 1)) P))
    (hend : ∀ m1 n1, J l.length m1 n1 → EX x m1 n1 orelse P) (hs : ∀ v, foldedSetIterable (.Call (.Name "enumerate" rp) [.Name y yp] [] rpos) x.env v = pure v) :
    ES x m n (.For (.Tuple [.Name yi pi, .Name yc pc] k pt) (.Call (.Name "enumerate" rp) [.Name y yp] [] rpos) body orelse pos) P := fun s fz as I => by
  refine wpAny_For ?_ hs
  obtain ⟨mg, a, _, cc⟩ := I.st.glob
  obtain ⟨mb, a', b'⟩ := I.st.blt
  refine wpAny_Call_NameR (Name_function_global hk hke (loadGlobal_builtin (hg ▸ a) (cc ("enumerate", .type "enumerate") (by simp [BL])) (hb ▸ a') (b' ("enumerate", .type "enumerate") (by simp [BL])) ?_))
  obtain ⟨mv, hn, hm⟩ := I.loc
  obtain ⟨v, e, ha⟩ : ∃ v, mv y = some v ∧ (SV.str l).At fz as v := by
    rcases hm _ hy with e | ⟨v, e, ha⟩
    · cases e
    · unfold VarAt at e
      rw [hcl] at e
      exact ⟨v, e, ha⟩
  simp only [SV.At] at ha
  obtain ⟨t, rfl⟩ := ha
  show wpAny _ _ (callWith rpos (.type "enumerate") [] [(false, eval (.Name y yp) x.env)] []) _ _ s
  refine PySem.callWith_type rfl (evalArgs_plain (spliced_cons (wpAny_Name (wpAny_loadName_local hk hl hn e (spliced_nil ?_)) hd)))
  refine call_enumerate_str fun h' he hit hsz keep => ?_
  have hasc' : (⟨⟨l⟩⟩ : Str).cps.all (· < 128) = true := by
    show (⟨l⟩ : Array Nat).all (· < 128) = true
    rw [List.all_eq_true] at hasc
    simpa using hasc
  have hty : strIterType ⟨⟨l⟩⟩ = "str_ascii_iterator" := by unfold strIterType; rw [if_pos hasc']
  rw [hty] at hit
  generalize hit0 : s.heap.objs.size = it at he hit hsz
  have I1 := I.extK (h' := h') keep s.toks
  have hne : it + 1 ≠ it := Nat.succ_ne_self it
  have W := WalksT.enumerateD (Draws.strAscii (prog := pw) (w := x.w) (A := x.A.in1) hA it ⟨⟨l⟩⟩ t) (it + 1) hne (by simp) (by simp)
  refine W.self 0 _ _ _ ⟨⟨_, he⟩, hit⟩ ?_
  have nB : ∀ c, it ≤ c → x.base.get? c = none := fun c hc => I.newB (by rw [hit0]; exact hc)
  have nF : ∀ c, it ≤ c → fz c = none := fun c hc => I.newF (by rw [hit0]; exact hc)
  have lo1 : ∀ (c : Addr) (as' : List Addr) (m' : Loc) (n' : Mut) (fz' : Frz) (s' : Shared), Iv x m' n' fz' as' s' → it ≤ c → (∃ o, fz' c = some o) → Loose x as' c := fun c as' m' n' fz' s' K hc ⟨o, ho⟩ => K.loose ho (nB c hc)
  obtain ⟨oi, hoi, hci, hdi⟩ := id hit
  have J0 : Iv x m n ((fz.add (it + 1) { cls := .type "enumerate", dict := none, data := .fields #[.none, .bool false, .ref it, rawInt 0, .none, .none], slots := #[] }).add it oi) as { s with heap := h' } := by
    have as1 : ∀ c, it ≤ c → c ∉ as := fun c hc h => Nat.lt_irrefl _ (Nat.lt_of_lt_of_le (I.own c h).2.2.2.2 (by rw [hit0]; exact hc))
    have L1 : ∀ c, it ≤ c → c ≠ x.env.locals := fun c hc => Nat.ne_of_gt (Nat.lt_of_lt_of_le I.L_lt (by rw [hit0]; exact hc))
    have T1 : ∀ c, it ≤ c → c ≠ T0 := fun c hc => Nat.ne_of_gt (Nat.lt_of_lt_of_le I.hT (by rw [hit0]; exact hc))
    have K1 := I1.hold (nF (it + 1) (Nat.le_succ _)) he ⟨L1 _ (Nat.le_succ _), T1 _ (Nat.le_succ _), as1 _ (Nat.le_succ _), nB _ (Nat.le_succ _)⟩
    exact K1.hold ((Frz.add_ne (Ne.symm hne)).trans (nF it (Nat.le_refl _))) hoi ⟨L1 _ (Nat.le_refl _), T1 _ (Nat.le_refl _), as1 _ (Nat.le_refl _), nB _ (Nat.le_refl _)⟩
  have le0 : fz.lw ((fz.add (it + 1) { cls := .type "enumerate", dict := none, data := .fields #[.none, .bool false, .ref it, rawInt 0, .none, .none], slots := #[] }).add it oi) := fun b o e _ => by
    have hb := Heap.lt_size (I.frz b o e)
    rw [hit0] at hb
    exact (Frz.add_ne (Nat.ne_of_lt hb)).trans ((Frz.add_ne (Nat.ne_of_lt (Nat.lt_succ_of_lt hb))).trans e)
  have oddE : ∀ {i : Nat} {h : Heap}, ((∃ old, IsEnum h (it + 1) it i old) ∧ h.IsStrIter it "str_ascii_iterator" ⟨⟨l⟩⟩ t i) → ∀ c ∈ [it + 1, it], ∃ o, h.get? c = some o ∧ Odd o ∧ ∀ v, o.data ≠ .cell v := fun {i h} st c hc => by
    simp only [List.mem_cons, List.not_mem_nil, or_false] at hc
    rcases hc with rfl | rfl
    · obtain ⟨old, e⟩ := st.1
      exact ⟨_, e, odd_it rfl rfl (by decide) (by decide) (by decide)⟩
    · obtain ⟨o, e1, e2, e3⟩ := st.2
      exact ⟨o, e1, odd_it e2 e3 (by decide) (by decide) (by decide)⟩
  refine codeAny_forLoop_any (EInv x l J fz as it t) (fun kk s' q => ?_) l.length
    ⟨0, m, n, _, as, by simp, Nat.zero_le _, h0, le0, List.prefix_refl _, J0, ⟨⟨_, he⟩, hit⟩, fun c hc => ?_⟩
  rotate_left
  · simp only [List.mem_cons, List.not_mem_nil, or_false] at hc
    rcases hc with rfl | rfl
    · exact ⟨_, (Frz.add_ne hne).trans (Frz.add_self _ _ _)⟩
    · exact ⟨_, Frz.add_self _ _ _⟩
  obtain ⟨i, m', n', fz', as', rfl, hile, Ji, le', p', I', st', hold'⟩ := q
  have hod : ∀ a ∈ [it + 1, it], ∀ o, fz' a = some o → Odd o ∧ ∀ v, o.data ≠ .cell v := fun a ha o e => by
    obtain ⟨o', e', r⟩ := oddE st' a ha
    rw [I'.frz _ _ e] at e'; cases e'; exact r
  have hlo : ∀ a ∈ [it + 1, it], Loose x as' a := fun a ha => lo1 a as' _ _ _ _ I' (by
    simp only [List.mem_cons, List.not_mem_nil, or_false] at ha
    rcases ha with rfl | rfl
    · exact Nat.le_succ _
    · exact Nat.le_refl _) (hold' a ha)
  have oldP : ∀ b o, fz b = some o → b ∉ [it + 1, it] := fun b o e hb => by
    have h1 := Heap.lt_size (I.frz b o e)
    rw [hit0] at h1
    simp only [List.mem_cons, List.not_mem_nil, or_false] at hb
    rcases hb with rfl | rfl
    · exact absurd h1 (Nat.not_lt.mpr (Nat.le_succ _))
    · exact Nat.lt_irrefl _ h1
  cases hc : l[i]? with
  | none =>
    have hi' : i = (⟨⟨l⟩⟩ : Str).cps.size := by
      rw [List.getElem?_eq_none_iff] at hc
      show i = l.length
      omega
    subst hi'
    refine W.done s' _ _ st' fun h2 tk2 hk2 => ?_
    have K := I'.extL (h' := h2) hk2 hod hlo tk2
    refine wpAny_mono (hend m' n' Ji _ _ as' K) (fun f s4 q => ?_) fun _ _ z => z.elim
    exact q.weak (fun b o e nc => (Frz.delL_ne (oldP b o e)).trans (le' b o e nc)) p'
  | some c =>
    have hlt : i < l.length := (List.getElem?_eq_some_iff.mp hc).1
    refine W.item i s' _ _ hlt st' fun T vals h2 tk2 hP hT htup hMid hk2 => ?_
    have hTw := W.apart i T h2 hMid
    refine W.go _ _ _ i T _ _ _ hMid fun h3 st3 hk3 => ?_
    obtain ⟨m2, m2', hp1, hp2, hbody⟩ := hstep i c hc m' n' Ji
    have K := I'.extL (h' := h3) (fun b o hb e => hk3 b o hb (hk2 b o hb e)) hod hlo tk2
    obtain ⟨oe, hoe, hoddE, hncE⟩ := oddE st3 (it + 1) (by simp)
    obtain ⟨oi3, hoi3, hoddI, hncI⟩ := oddE st3 it (by simp)
    have lE := hlo (it + 1) (by simp)
    have lI := hlo it (by simp)
    have K2 := K.hold (it := it + 1) (if_pos (by simp)) hoe lE
    have K3 := K2.hold (it := it) ((Frz.add_ne (Ne.symm hne)).trans (if_pos (by simp))) hoi3 lI
    have le3 : fz.lw (((fz'.delL [it + 1, it]).add (it + 1) oe).add it oi3) := fun b o e nc => by
      have hb := oldP b o e
      simp only [List.mem_cons, List.not_mem_nil, or_false, not_or] at hb
      exact (Frz.add_ne hb.2).trans ((Frz.add_ne hb.1).trans ((Frz.delL_ne (oldP b o e)).trans (le' b o e nc)))
    have htup3 : h3.IsTuple T vals := by
      obtain ⟨o, e, r⟩ := htup
      exact ⟨o, hk3 T o hTw e, r⟩
    obtain ⟨ti, xv, ⟨c', u, hc', rfl⟩, rfl⟩ := hP
    have hcc : c' = c := by
      have : l[i]? = some c' := by simpa using hc'
      rw [this] at hc; exact Option.some.inj hc
    subst hcc
    refine wpAny_assign_Tuple hA htup3 rfl rfl fun h4 hx4 => ?_
    have K4 := K3.extK (h' := h4) (fun b o e => hx4 b o (Nat.ne_of_lt (Heap.lt_size e)) e) tk2
    refine wpAny_mono (assigns_ok (Q := fun _ s' => ∃ fz5, (((fz'.delL [it + 1, it]).add (it + 1) oe).add it oi3).lw fz5 ∧ Iv x m2' n' fz5 as' s') hk (.cons (.cons .nil)) [.int i, .str [c']] _ _ m' m2' _ K4 (.cons (at_int _) (.cons (at_str _) .nil)) (.cons hp1 (.cons hp2 .nil)) (fun z hz => by
      simp at hz
      rcases hz with rfl | rfl
      · exact hsi
      · exact hsc) fun s5 fz5 lw5 I5 => ⟨fz5, lw5, I5⟩) (fun _ s5 q => ?_) fun _ _ z => z.elim
    obtain ⟨fz5, lw5, I5⟩ := q
    refine wpAny_mono (hbody s5 fz5 _ I5) (fun f s6 q => ?_) fun _ _ z => z.elim
    obtain ⟨fw, m6, n6, fz6, as6, h6, le6, p6, I6, at6⟩ := q
    have toE : ∀ {fz7 : Frz}, (((fz'.delL [it + 1, it]).add (it + 1) oe).add it oi3).lw fz7 → fz7 (it + 1) = some oe ∧ fz7 it = some oi3 := fun lw => ⟨lw _ _ ((Frz.add_ne hne).trans (Frz.add_self _ _ _)) hncE, lw _ _ (Frz.add_self _ _ _) hncI⟩
    obtain ⟨e6, i6⟩ := toE (lw5.trans le6)
    have st6 := W.frame (i + 1) h3 s6.heap st3 fun b hb o e => by
      simp only [List.mem_cons, List.not_mem_nil, or_false] at hb
      rcases hb with rfl | rfl
      · rw [hoe] at e; cases e; exact I6.frz _ _ e6
      · rw [hoi3] at e; cases e; exact I6.frz _ _ i6
    have leX := le3.trans (lw5.trans le6)
    have hold6 : ∀ c ∈ [it + 1, it], ∃ o, fz6 c = some o := fun c hc => by
      simp only [List.mem_cons, List.not_mem_nil, or_false] at hc
      rcases hc with rfl | rfl
      · exact ⟨_, e6⟩
      · exact ⟨_, i6⟩
    have go : (∃ m4, Wk m6 m4 ∧ J (i + 1) m4 n6) → ∃ kk, kk < l.length - i ∧ EInv x l J fz as it t kk s6 := fun ⟨m4, w, J4⟩ =>
      ⟨l.length - (i + 1), by omega, i + 1, m4, n6, fz6, as6, rfl, hlt, J4, leX, p'.trans p6, I6.wk w, st6, hold6⟩
    cases fw with
    | next => simp only [Fw.At] at at6; subst at6; exact go h6
    | cont => simp only [Fw.At] at at6; subst at6; exact go h6
    | brk => simp only [Fw.At] at at6; subst at6; exact ⟨.next, m6, n6, fz6, as6, h6, leX, p'.trans p6, I6, rfl⟩
    | ret sv => obtain ⟨v, rfl, hv⟩ := at6; exact ⟨.ret sv, m6, n6, fz6, as6, h6, leX, p'.trans p6, I6, v, rfl, hv⟩
end
end Mine

set_option maxRecDepth 100000
namespace Mine
open Calls
open Sem (wp)
namespace MF
open PySem.F
theorem owner_map : Manifest.owners.lookup (String.ofList ['p', 'a', 'm'].reverse) = some Manifest.sig_map := by kernel_rfl
theorem slot_map_iter : Slot "map" "__iter__" "map.__iter__" :=
  .of (owner := "map") (n := "__iter__") (by rw [typeLookup_type, builtinLookup_eq_fast]; kernel_rfl) (by decide +kernel) (by decide +kernel) (by decide +kernel)
    (by first | exact .inl (by decide +kernel) | exact .inr (by decide +kernel)) (by rw [isSubtype_type]; kernel_rfl)
theorem args_map_iter_1 (a : Value) : argsOk "map.__iter__" ⟨[a], []⟩ := by
  unfold argsOk; rw [signature?_of (id := "map.__iter__") (n := ['_', '_', 'r', 'e', 't', 'i', '_', '_']) (o := ['p', 'a', 'm']) (by kernel_rfl) owner_map]; kernel_rfl
theorem entry_map_iter : entryFor table "map.__iter__" = some Builtin.«dict_keyiterator.__iter__» :=
  entryFor_alias (id' := "dict_keyiterator.__iter__") (by kernel_rfl) (by first | rfl | decide +kernel | (unfold String.splitOn; simp +decide [String.splitOnAux])) (by decide +kernel) (by kernel_rfl)
theorem slot_map_next : Slot "map" "__next__" "map.__next__" :=
  .of (owner := "map") (n := "__next__") (by rw [typeLookup_type, builtinLookup_eq_fast]; kernel_rfl) (by decide +kernel) (by decide +kernel) (by decide +kernel)
    (by first | exact .inl (by decide +kernel) | exact .inr (by decide +kernel)) (by rw [isSubtype_type]; kernel_rfl)
theorem entry_map_next : entryFor table "map.__next__" = some Builtin.«map.__next__» := entryFor_of_tree (by kernel_rfl)
theorem args_map_next_1 (a : Value) : argsOk "map.__next__" ⟨[a], []⟩ := by
  unfold argsOk; rw [signature?_of (id := "map.__next__") (n := ['_', '_', 't', 'x', 'e', 'n', '_', '_']) (o := ['p', 'a', 'm']) (by kernel_rfl) owner_map]; kernel_rfl
theorem slot_map_init : Slot "map" "__init__" "object.__init__" :=
  .of (owner := "object") (n := "__init__") (by rw [typeLookup_type, builtinLookup_eq_fast]; kernel_rfl) (by decide +kernel) (by decide +kernel) (by decide +kernel)
    (by first | exact .inl (by decide +kernel) | exact .inr (by decide +kernel)) (by rw [isSubtype_type]; kernel_rfl)
theorem mro_map : mroOf (.type "map") = pure [.type "map", .type "object"] := by rw [mroOf_type]; kernel_rfl
theorem lookup_map_new : typeLookup (.type "map") "__new__" = pure (some (.builtin "map.__new__")) := by rw [typeLookup_type, builtinLookup_eq_fast]; kernel_rfl
theorem called_map : TypeCalled "map" "map.__new__" "object.__init__" :=
  ⟨by decide +kernel, by decide +kernel, ⟨_, _, mro_map⟩, madeBy_type mro_map lookup_map_new (by decide +kernel), by decide +kernel, by rw [isSubtype_type]; kernel_rfl, slot_map_init⟩
theorem typeCall_map_2 (a b : Value) : checkTypeCall "map" ⟨[a, b], []⟩ = pure () := by kernel_rfl
theorem newCall_map_2 (a b : Value) : checkBuiltinCall "map.__new__" ⟨[.type "map", a, b], []⟩ = pure () := by kernel_rfl
theorem entry_map_new : entryFor table "map.__new__" = some Builtin.«map.__new__» := entryFor_of_tree (by kernel_rfl)
theorem map_no_len : typeLookup (.type "map") "__len__" = pure none := by rw [typeLookup_type, builtinLookup_eq_fast]; kernel_rfl
theorem map_no_hint : typeLookup (.type "map") "__length_hint__" = pure none := by rw [typeLookup_type, builtinLookup_eq_fast]; kernel_rfl
end MF
theorem sub_map : isSubtype (.type "map") (.type "map") = pure true := by rw [isSubtype_type]; kernel_rfl

noncomputable abbrev mapO (T : Addr) (f : Value) : Obj := { cls := .type "map", data := .fields #[.ref T, f] }
noncomputable abbrev mapH1 (h : Heap) (b : Addr) : Heap := h.push { cls := .type "tuple_iterator", data := .fields #[.ref b, .int 0 0] }
noncomputable abbrev mapH2 (h : Heap) (b : Addr) : Heap := (mapH1 h b).push { cls := .type "tuple", data := .seq #[.ref h.objs.size] }
noncomputable abbrev mapH3 (h : Heap) (b : Addr) (f : Value) : Heap := (mapH2 h b).push (mapO (mapH1 h b).objs.size f)
theorem meets_map_new (f : Value) (b : Addr) (items : Array Value) :
    Meets (Builtin.«map.__new__» ⟨[.type "map", f, .ref b], []⟩) (fun _ R s => s.heap.IsTuple b items ∧ R (.ok (.ret (.ref (mapH2 s.heap b).objs.size))) { s with heap := mapH3 s.heap b f }) :=
  .of_wp fun prog w A R s h => by
    obtain ⟨hp, g, d, tk, os⟩ := s; obtain ⟨hl, h⟩ := h
    have hsub := sub_map
    have hL1 : Heap.IsTuple (Shared.heap ⟨hp, g, d, tk, os⟩) b items := hl
    wp_walk using wpAny_pyIter_tuple hL1
    exact ⟨_, rfl, h⟩

/-! ### Stat from finitely many objects -/
noncomputable def statA : List Addr := [mainGlobals, builtinsNs, cStatics, 77, 79, 100, 4, T0] ++ FL.map (·.a) ++ FL.map (·.c)
theorem Stat.at {h h' : Heap} (S : Stat h) (k : ∀ b ∈ statA, ∀ o, h.get? b = some o → h'.get? b = some o) : Stat h' where
  glob := let ⟨mg, ⟨o, es, ep, e, r⟩, b⟩ := S.glob; ⟨mg, ⟨o, es, ep, k _ (by simp [statA]) _ e, r⟩, b⟩
  blt := let ⟨mg, ⟨o, es, ep, e, r⟩, b⟩ := S.blt; ⟨mg, ⟨o, es, ep, k _ (by simp [statA]) _ e, r⟩, b⟩
  nolim := let ⟨mg, ⟨o, es, ep, e, r⟩, b⟩ := S.nolim; ⟨mg, ⟨o, es, ep, k _ (by simp [statA]) _ e, r⟩, b⟩
  nodig := let ⟨mg, ⟨o, es, ep, e, r⟩, b⟩ := S.nodig; ⟨mg, ⟨o, es, ep, k _ (by simp [statA]) _ e, r⟩, b⟩
  fn := fun e he => ⟨k _ (List.mem_append_left _ (List.mem_append_right _ (List.mem_map_of_mem he))) _ (S.fn e he).1, by
    obtain ⟨c, o, vs, t, hc, ho, r⟩ := (S.fn e he).2
    cases hc
    exact ⟨_, o, vs, t, rfl, k _ (List.mem_append_right _ (List.mem_map_of_mem he)) _ ho, r⟩⟩
  code := let ⟨oc, e, r⟩ := S.code; ⟨oc, k _ (by simp [statA]) _ e, r⟩
  bmod := let ⟨oc, e, r⟩ := S.bmod; ⟨oc, k _ (by simp [statA]) _ e, r⟩
  dflt := k _ (by simp [statA]) _ S.dflt
  scm := k _ (by simp [statA]) _ S.scm
theorem TabOk.at {h h' : Heap} (t : TabOk h) (k : ∀ b ∈ statA, ∀ o, h.get? b = some o → h'.get? b = some o) : TabOk h' := by
  obtain ⟨ps, ⟨o, vs, file, tf, flags, tg, inF, text, tt, op, a, r1, r2, r3, r4, r5, r6, p, r⟩, e⟩ := t
  exact ⟨ps, ⟨o, vs, file, tf, flags, tg, inF, text, tt, op, k _ (by simp [statA]) _ a, r1, r2, r3, r4, r5, r6, k _ (by simp [statA]) _ p, r⟩, k _ (by simp [statA]) _ e⟩
theorem Stat.live {h : Heap} (S : Stat h) (t : TabOk h) : ∀ b ∈ statA, ∃ o, h.get? b = some o := by
  intro b hb
  simp only [statA, List.mem_append, List.mem_cons, List.not_mem_nil, or_false, List.mem_map] at hb
  rcases hb with ((rfl | rfl | rfl | rfl | rfl | rfl | rfl | rfl) | ⟨e, he, rfl⟩) | ⟨e, he, rfl⟩
  · obtain ⟨mg, ⟨o, es, ep, e, r⟩, b⟩ := S.glob; exact ⟨_, e⟩
  · obtain ⟨mg, ⟨o, es, ep, e, r⟩, b⟩ := S.blt; exact ⟨_, e⟩
  · obtain ⟨mg, ⟨o, es, ep, e, r⟩, b⟩ := S.nolim; exact ⟨_, e⟩
  · obtain ⟨oc, e, _⟩ := S.code; exact ⟨oc, e⟩
  · exact ⟨_, S.dflt⟩
  · exact ⟨_, S.scm⟩
  · obtain ⟨oc, e, _⟩ := S.bmod; exact ⟨oc, e⟩
  · obtain ⟨ps, _, e⟩ := t; exact ⟨_, e⟩
  · exact ⟨_, (S.fn e he).1⟩
  · obtain ⟨c, o, vs, t, hc, ho, r⟩ := (S.fn e he).2
    cases hc
    exact ⟨_, ho⟩

section
variable {w : World} {A : Around} {E : Value → Shared → Prop} {s : Shared}
/-- what ends an iterator: a new StopIteration behind all that was -/
theorem ended {h₀ : Heap} {it : Addr} {T : Type} {Q : T → Shared → Prop} (hA : A.handled = none) (k : Heap.ExtBut it h₀ s.heap)
    (no : ∀ e h', (∃ o, h'.get? e = some o ∧ o.cls = .type "StopIteration") → Heap.ExtBut it h₀ h' → E (.ref e) { s with heap := h' }) : wpAny (model pw w) A (Builtin.SmallTypes.stopIteration (α := T)) Q E s := by
  unfold Builtin.SmallTypes.stopIteration newExc newTuple raiseNew
  have e0 : firstArgMember (.type "StopIteration") ([] : List Value) = pure .none := rfl
  wp_walk using wpAny_newObj_type
  · exact no _ _ ⟨_, Heap.get?_push_size _ rfl, rfl⟩ fun b o hb e => Heap.get?_push_of_some _ (Heap.get?_push_of_some _ (k b o hb e))
  all_goals size_fits
/-- one step of a tuple's iterator: the item at its place, or the end -/
theorem tupNext {it t : Addr} {i : Nat} {l : Array Value} {Q : Value → Shared → Prop} (hA : A.handled = none) (J : s.heap.IsTupleIter it t i) (K : s.heap.IsTuple t l)
    (yes : ∀ v h', l[i]? = some v → h'.IsTupleIter it t (i + 1) → Heap.SameBut it s.heap h' → Q v { s with heap := h' })
    (no : ∀ e h', l[i]? = none → (∃ o, h'.get? e = some o ∧ o.cls = .type "StopIteration") → Heap.ExtBut it s.heap h' → E (.ref e) { s with heap := h' }) :
    wpAny (model pw w) A (Builtin.SmallTypes.nextOf (.ref it)) Q E s := by
  have T := J.typeIs
  obtain ⟨o, e1, e2, e3⟩ := J
  obtain ⟨⟨k1, k2, k3, k4⟩, f1, f2, c, rfl⟩ := K
  have put : ∀ (j : Nat) (v : Value), (s.heap.update it (Obj.mapFields (·.setIfInBounds j v))).get? it = some _ := fun j v => Heap.get?_update_self _ e1 (Obj.isFreed_of_fields (Obj.data_mapFields e3 _))
  refine wpAny_bind (wpAny_callSpecial?_slot (name := "__next__") T F.slot_tuple_iterator_next (wpAny_call_entry F.slot_tuple_iterator_next T F.entry_tuple_iterator_next ?_ (F.args_tuple_iterator_next_1 _)))
  wp_walk using wpAny_field e1 e3 rfl, wpAny_load f1
  simp only [Int.toNat_natCast]
  cases hl : l[i]? with
  | some v =>
    wp_walk using wpAny_setField e1 e3
    · exact .refl
    · exact wpAny_pure ⟨_, rfl, wpAny_pure (yes _ _ hl ⟨_, put .., (Obj.cls_mapFields ..).trans e2, Obj.data_mapFields e3 _⟩ (Heap.SameBut.update ..))⟩
  | none =>
    wp_walk using wpAny_setField e1 e3
    · exact Nat.le.step .refl
    · exact ended hA (Heap.SameBut.update ..).extBut fun e h' q x => no e h' hl q x
end

/-- a map over one tuple, at place i -/
structure MapSt (M T it b : Addr) (f : Value) (items : Array Value) (i : Nat) (h : Heap) : Prop where
  m : h.get? M = some (mapO T f)
  t : h.get? T = some { cls := .type "tuple", data := .seq #[.ref it] }
  it : h.IsTupleIter it b i
  b : h.IsTuple b items
  st : Stat h
  tab : TabOk h
theorem MapSt.at {M T it b : Addr} {f : Value} {items : Array Value} {i : Nat} {h h' : Heap} (S : MapSt M T it b f items i h) (k : ∀ c ∈ M :: T :: it :: b :: statA, ∀ o, h.get? c = some o → h'.get? c = some o) : MapSt M T it b f items i h' :=
  ⟨k _ (by simp) _ S.m, k _ (by simp) _ S.t, let ⟨o, e, r⟩ := S.it; ⟨o, k _ (by simp) _ e, r⟩, let ⟨o, e, r⟩ := S.b; ⟨o, k _ (by simp) _ e, r⟩, S.st.at fun c hc => k c (by simp [hc]), S.tab.at fun c hc => k c (by simp [hc])⟩

noncomputable def CallsOk (w : World) (A : Around) (f : Value) (items : Array Value) (rel : Nat → Value → Prop) : Prop :=
  ∀ i x (s : Shared) (Q : Value → Shared → Prop) (E : Value → Shared → Prop), items[i]? = some x → Stat s.heap → TabOk s.heap →
    (∀ v h' tk, rel i v → (∀ b o, s.heap.get? b = some o → h'.get? b = some o) → Q v { s with heap := h', toks := tk }) → wpAny (model pw w) A (call f [x]) Q E s

theorem map_pyIter {w : World} {A : Around} {E : Value → Shared → Prop} {s : Shared} {M T : Addr} {f : Value} {Q : Value → Shared → Prop} (hm : s.heap.get? M = some (mapO T f)) (h : Q (.ref M) s) : wpAny (model pw w) A (pyIter (.ref M)) Q E s := by
  have hT : s.TypeIs (.ref M) "map" := ⟨_, hm, rfl⟩
  refine wpAny_pyIter_slot hT MF.slot_map_iter (wpAny_call_entry MF.slot_map_iter hT MF.entry_map_iter ?_ (MF.args_map_iter_1 _))
  show wpAny _ _ (ret (.ref M)) _ _ s
  exact wpAny_pure ⟨_, rfl, "map", _, hT, MF.slot_map_next.lookup, h⟩

theorem Walks.map {w : World} {A : Around} (hh : A.handled = none) {M T it b : Addr} {f : Value} {items : Array Value} {rel : Nat → Value → Prop} (hne : it ≠ M ∧ it ≠ T ∧ it ≠ b ∧ it ∉ statA) (hc : CallsOk w A.in1 f items rel) :
    Walks pw w A M (M :: T :: it :: b :: statA) [it] items.size rel (MapSt M T it b f items) where
  sub := fun c hc => by simp at hc; subst hc; simp
  frame := fun i h h' st k => st.at k
  self := fun i s Q E st h => map_pyIter st.m h
  item := fun i s Q E hi st hQ => by
    have hT : s.TypeIs (.ref M) "map" := ⟨_, st.m, rfl⟩
    unfold pyNext
    refine wpAny_bind (wpAny_attempt (wpAny_callSpecial?_slot (name := Str.ofString "__next__") hT MF.slot_map_next (wpAny_call_entry MF.slot_map_next hT MF.entry_map_next ?_ (MF.args_map_next_1 _))))
    show wpAny _ _ (field (.ref M) 0 >>= _) _ _ _
    refine wpAny_bind (wpAny_field st.m rfl (x := .ref T) rfl ?_)
    refine wpAny_bind (wpAny_seqItems st.t rfl ?_)
    refine wpAny_bind ?_
    refine wpAny_arrayLoop ?_
    simp only [List.forIn_cons, List.forIn_nil]
    refine wpAny_bind (wpAny_bind (wpAny_holding ?_))
    refine tupNext hh st.it st.b (fun x h1 hx it1 s1 => ?_) fun _ _ hx => absurd hx (by simp [hi])
    obtain rfl : items[i] = x := by simpa [hi] using hx
    refine wpAny_pure (wpAny_pure ?_)
    have k1 : ∀ c, c ≠ it → ∀ o, s.heap.get? c = some o → h1.get? c = some o := fun c hc o e => (s1.2 c hc).trans e
    have m1 := k1 _ (Ne.symm hne.1) _ st.m
    show wpAny _ _ (field (.ref M) 1 >>= _) _ _ _
    refine wpAny_bind (wpAny_field m1 rfl (x := f) rfl ?_)
    refine wpAny_bind (wpAny_holding ?_)
    have S1 : Stat h1 := st.st.at fun c hc o e => k1 c (fun z => hne.2.2.2 (z ▸ hc)) o e
    have T1 : TabOk h1 := st.tab.at fun c hc o e => k1 c (fun z => hne.2.2.2 (z ▸ hc)) o e
    refine hc i items[i] _ _ _ (by simp [hi]) S1 T1 fun v h2 tk hr k2 => ?_
    refine wpAny_bind (wpAny_letGo (wpAny_pure ⟨_, rfl, ?_⟩))
    refine wpAny_pure (hQ v h2 tk hr ⟨k2 _ _ m1, k2 _ _ (k1 _ (Ne.symm hne.2.1) _ st.t), let ⟨o, e, r⟩ := it1; ⟨o, k2 _ _ e, r⟩, let ⟨o, e, r⟩ := st.b; ⟨o, k2 _ _ (k1 _ (Ne.symm hne.2.2.1) _ e), r⟩, S1.at fun c _ o e => k2 c o e, T1.at fun c _ o e => k2 c o e⟩ fun c o hc e => k2 _ _ (k1 c (by simpa using hc) o e))
  done := fun s Q E st hQ => by
    have hT : s.TypeIs (.ref M) "map" := ⟨_, st.m, rfl⟩
    unfold pyNext
    refine wpAny_bind (wpAny_attempt (wpAny_callSpecial?_slot (name := Str.ofString "__next__") hT MF.slot_map_next (wpAny_call_entry MF.slot_map_next hT MF.entry_map_next ?_ (MF.args_map_next_1 _))))
    show wpAny _ _ (field (.ref M) 0 >>= _) _ _ _
    refine wpAny_bind (wpAny_field st.m rfl (x := .ref T) rfl ?_)
    refine wpAny_bind (wpAny_seqItems st.t rfl ?_)
    refine wpAny_bind ?_
    refine wpAny_arrayLoop ?_
    simp only [List.forIn_cons, List.forIn_nil]
    refine wpAny_bind (wpAny_bind (wpAny_holding ?_))
    refine tupNext hh st.it st.b (fun _ _ hx => absurd hx (by simp)) fun e h' _ hx he => ?_
    obtain ⟨o, ho, hc⟩ := hx
    refine wpAny_bind (wpAny_isInstance (T := "StopIteration") (b := true) ⟨o, ho, hc⟩ isSubtype_stop ?_)
    exact wpAny_pure (hQ _ s.toks fun c o hc e => he c o (by simpa using hc) e)
end Mine

set_option maxRecDepth 100000
namespace Mine
open Calls
open Sem (wp)
theorem Room.in1 {A : Around} {k : Nat} (h : Room A (k + 1)) : Room A.in1.in1.in1.in1 k := ⟨h.1, by have := h.2.1; show A.depth + k < _; omega, by have := h.2.2; show A.units + 1 + 1 + 1 + 1 + 8 * k < _; omega⟩
theorem Room.in2 {A : Around} {k : Nat} (h : Room A (k + 1)) : Room A.in1.in1 k := ⟨h.1, by have := h.2.1; show A.depth + k < _; omega, by have := h.2.2; show A.units + 1 + 1 + 8 * k < _; omega⟩

section
variable {w : World} {A : Around} {E : Value → Shared → Prop} {s : Shared}
/-- an empty list of our own -/
noncomputable abbrev nilO (n : Nat) : Obj := { cls := .type "list", data := .seq (#[] : Array Value) n }
/-- list.extend touches its list: it is as empty as it was, and nothing else has changed -/
theorem touched {S : Addr} {n : Nat} {Q : Unit → Shared → Prop} (e : s.heap.get? S = some (nilO n))
    (h : ∀ h' n', h'.get? S = some (nilO n') → h'.objs.size = s.heap.objs.size → Heap.SameBut S s.heap h' → Q () { s with heap := h' }) : wpAny (model pw w) A (Builtin.List.listTouch (.ref S)) Q E s := by
  have e1 := Heap.get?_update_self (Obj.mapSeq (·.push Value.none)) e rfl
  exact wpAny_bind (wpAny_updateSeq e rfl (wpAny_updateSeq e1 rfl (h _ _ (Heap.get?_update_self _ e1 rfl) (by simp) ((Heap.SameBut.update ..).trans (Heap.SameBut.update ..)))))
/-- a map tells no length ahead -/
theorem map_hint {I : Addr} {Q : Bool → Shared → Prop} (T : s.TypeIs (.ref I) "map") (h : Q true s) : wpAny (model pw w) A (Builtin.List.listLengthHint (.ref I)) Q E s := by
  have z1 := MF.map_no_len
  have z2 := MF.map_no_hint
  wp_walk
  exact h
variable {I : Addr} {fp wr : List Addr} {n : Nat} {P : Nat → Value → Prop} {St : Nat → Heap → Prop}
/-- an empty list is extended by what a map gives -/
theorem extended {S : Addr} {k : Nat} {R : Result → Shared → Prop} (W : Walks pw w A.in1 I fp wr n P St) (T : ∀ i (s : Shared), St i s.heap → s.TypeIs (.ref I) "map") (h0 : St 0 s.heap) (hS : S ∉ I :: fp) (hn : n ≤ sizeLine) (e : s.heap.get? S = some (nilO k))
    (h : ∀ s' l c, Moved (S :: wr) (fun a b => b = a) s s' → s'.heap.get? S = some { cls := .type "list", dict := none, data := .seq l c, slots := #[] } → ItemsOf P l n → R (.ok (.ret (.ref S))) s') :
    codeAny (model pw w) A (.builtin "list.__iadd__" ⟨[.ref S, .ref I], []⟩) R s := by
  refine codeAny_builtin F.entry_list_iadd ?_
  rw [Around.under_plainId F.plain_list_iadd _]
  have T0 := T 0 s h0
  have z : Builtin.List.listSameRef (.ref S) (.ref I) = false := decide_eq_false fun c => hS (c ▸ List.mem_cons_self)
  wp_walk using W.self 0 s _ _ h0, map_hint T0, touched e
  intro h1 n1 e1 _ k1
  have out : ∀ b o, b ∉ S :: wr → s.heap.get? b = some o → h1.get? b = some o := fun b o hb e => (k1.2 b fun c => hb (c ▸ List.mem_cons_self)).trans e
  refine wpAny_pure ⟨plainId_quiet F.plain_extend_loop _, codeAny_extend_loopS W.toS hn S (fun c => hS (List.mem_cons_of_mem _ c)) _ n 0 _ #[] n1 rfl (Nat.zero_le _) ?_ e1 (ItemsOf.nil P) fun s' l c q => h s' l c ?_⟩
  · exact W.frame 0 _ _ h0 fun b hb o e => (k1.2 b fun c => hS (c ▸ List.mem_cons_of_mem _ hb)).trans e
  · exact ⟨fun b o hb e => q.heap b o hb (out b o hb e), q.gens, q.drawn, q.os, q.toks⟩
/-- all that a map gives, in order -/
theorem collect_map {Q : List Value → Shared → Prop} (W : Walks pw w A.in1 I fp wr n P St) (T : ∀ i (s : Shared), St i s.heap → s.TypeIs (.ref I) "map") (h0 : St 0 s.heap) (hfp : ∀ b ∈ I :: fp, b < s.heap.objs.size) (hn : n ≤ sizeLine)
    (h : ∀ s' l, Moved wr (fun a b => b = a) s s' → ItemsOf P l n → Q l.toList s') : wpAny (model pw w) A (collect (.ref I)) Q E s := by
  refine wpAny_bind (wpAny_runValue (codeAny_builtin F.entry_proto_collect ?_))
  rw [Around.under_plainId F.plain_proto_collect _]
  wp_walk using wpAny_newObj_type
  · refine ⟨plainId_quiet F.plain_list_iadd _, extended W T (W.frame 0 _ _ h0 fun b _ o e => Heap.get?_push_of_some _ e) (fun c => Nat.lt_irrefl _ (hfp _ c)) hn (Heap.get?_push_size _ rfl) fun s' l c q e r => ?_⟩
    exact wpAny_bind (wpAny_load e (wpAny_pure (h s' l (Moved.drop_new (tk := s.toks) q (Nat.le_refl _)) r)))
  · size_fits
/-- tuple() of a map -/
theorem call_tuple_map {Q : Value → Shared → Prop} (W : Walks pw w A.in1.in1.in1 I fp wr n P St) (T : ∀ i (s : Shared), St i s.heap → s.TypeIs (.ref I) "map") (h0 : St 0 s.heap) (hfp : ∀ b ∈ I :: fp, b < s.heap.objs.size) (hn : n ≤ sizeLine)
    (h : ∀ s' l, Moved wr (fun a b => b = a) s s' → ItemsOf P l n → Q (.ref s'.heap.objs.size) { s' with heap := s'.heap.push { cls := .type "tuple", data := .seq l } }) : wpAny (model pw w) A (call (.type "tuple") [.ref I]) Q E s := by
  refine callType_codes (Q₁ := fun v s1 => s1.TypeIs v "tuple" ∧ Q v s1) F.called_tuple (F.typeCall_tuple_1 _) F.entry_object_init ?_ fun v s1 q =>
    ⟨q.1, F.args_object_init_2 v _, object_init_meets F.called_tuple.init.lookup F.called_tuple.made (by decide) pw w A.in1 _ s1 ⟨q.1, rfl, q.2⟩⟩
  have T0 := T 0 s h0
  have c0 := F.newCall_tuple_1 (.ref I)
  have z1 := sub_tuple_self
  have z2 := init_tuple_lookup
  have z3 := madeHere_tuple
  refine codeAny_of_tree ?_
  wp_walk
  refine ⟨plainId_quiet F.plain_tuple_new _, codeAny_builtin F.entry_tuple_new ?_⟩
  rw [Around.under_plainId F.plain_tuple_new _]
  wp_walk using collect_map W T h0 hfp hn
  intro s' l q r
  have e : l.toList.toArray = l := by simp
  wp_walk using wpAny_newObj_type
  · rw [e]; exact ⟨⟨_, Heap.get?_push_size _ rfl, rfl⟩, h s' l q r⟩
  · rw [e]; exact Nat.le_trans (Nat.le_of_eq r.1) hn
end
end Mine

set_option maxRecDepth 100000
namespace Mine
open Calls
section
variable {x : Cx} {m : Loc} {n : Mut} {P : SV → Mut → Prop} {pos : Pos}
/-- a call with one argument whose value is no data -/
theorem callWith_one {f : SV} {e : Expr} {s : Shared} {vf : Value} {Q : Value → Shared → Prop} (hc : callable f = true) (hl : isPlainArg e = true)
    (h : Run x (eval e x.env) (fun v s1 => (∃ fz1 as1 n1, Iv x m n1 fz1 as1 s1 ∧ f.At fz1 as1 vf) ∧ Run x (call vf [v]) Q s1) s) : Run x (callWith pos vf [] (backTo pos (starEach [e] x.env)) []) Q s := by
  refine callWith_q (m := m) hc (by simp [hl]) ?_
  have : backTo pos (starEach [e] x.env) = [(false, eval e x.env)] := by
    cases e <;> first | rfl | simp [isPlainArg] at hl
  rw [this]
  exact spliced_cons (wpAny_mono h (fun v s1 q => spliced_nil q) fun _ _ z => no z)

/-- what a walk over a map leaves -/
theorem map_ok {s : Shared} {fz : Frz} {as : List Addr} {vf : Value} {b : Addr} {l : List Value} {ep : Nat} {Q : Value → Shared → Prop} (I : Iv x m n fz as s) (hb : fz b = some (tupO l ep))
    (h : ∀ M T it h', M < h'.objs.size → it = s.heap.objs.size → it ∉ statA → (it ≠ M ∧ it ≠ T ∧ it ≠ b) → (∀ c o, s.heap.get? c = some o → h'.get? c = some o) → MapSt M T it b vf ⟨l⟩ 0 h' → Q (.ref M) { s with heap := h' }) : Run x (call (.type "map") [vf, .ref b]) Q s := by
  refine callType_new MF.called_map (by decide) (MF.typeCall_map_2 _ _) (MF.newCall_map_2 _ _) (fun obj => F.args_object_init_3 obj _ _) MF.entry_map_new (meets_map_new vf b ⟨l⟩) ?_
  have hb' := I.frz _ _ hb
  have hT : s.heap.IsTuple b ⟨l⟩ := ⟨_, hb', rfl, ep, rfl⟩
  have z1 : (mapH1 s.heap b).objs.size = s.heap.objs.size + 1 := Heap.size_push ..
  have z2 : (mapH2 s.heap b).objs.size = s.heap.objs.size + 2 := by rw [Heap.size_push, z1]
  have z3 : (mapH3 s.heap b vf).objs.size = s.heap.objs.size + 3 := by rw [Heap.size_push, z2]
  have keep : ∀ c o, s.heap.get? c = some o → (mapH3 s.heap b vf).get? c = some o := fun c o e => Heap.get?_push_of_some _ (Heap.get?_push_of_some _ (Heap.get?_push_of_some _ e))
  have g3 : (mapH3 s.heap b vf).get? (mapH2 s.heap b).objs.size = some (mapO (mapH1 s.heap b).objs.size vf) := Heap.get?_push_size _ rfl
  have g2 : (mapH3 s.heap b vf).get? (mapH1 s.heap b).objs.size = some _ := Heap.get?_push_of_some _ (Heap.get?_push_size _ rfl)
  have g1 : (mapH3 s.heap b vf).get? s.heap.objs.size = some _ := Heap.get?_push_of_some _ (Heap.get?_push_of_some _ (Heap.get?_push_size _ rfl))
  have hbl : b < s.heap.objs.size := Heap.lt_size hb'
  refine ⟨hT, ⟨_, g3, rfl⟩, h _ (mapH1 s.heap b).objs.size s.heap.objs.size _ (by rw [z3, z2]; omega) rfl (fun hm => ?_) ⟨by rw [z2]; omega, by rw [z1]; omega, Nat.ne_of_gt hbl⟩ keep ⟨g3, g2, ⟨_, g1, rfl, rfl⟩, ⟨_, keep _ _ hb', rfl, ep, rfl⟩, I.st.at fun c _ o e => keep c o e, I.tab.ok.at fun c _ o e => keep c o e⟩⟩
  obtain ⟨o, e⟩ := I.st.live I.tab.ok _ hm
  exact absurd (Heap.lt_size e) (Nat.lt_irrefl _)

/-- the arguments of a call of map: a callable and a tuple -/
theorem EV_tuple_map {tn mn : Str} {tp mp cp : Pos} {fe ae : Expr}
    (ht : EV x m n (.Name tn tp) (fun f n1 => f = .ty "tuple" ∧ EV x m n1 (.Name mn mp) (fun g n2 => g = .ty "map" ∧ EVs x m n2 [fe, ae] (fun l n3 => ∃ f xs, l = [f, .tup xs] ∧ xs.length ≤ 1000 ∧
      (∃ rs rel, (∀ fz as vf (l : List Value), f.At fz as vf → SV.AtL fz as xs l → CallsOk x.w x.A.in1.in1.in1.in1 vf ⟨l⟩ rel) ∧ rs.length = xs.length ∧ (∀ i v, rel i v → ∃ r : SV, rs[i]? = some r ∧ ∀ fz as, r.At fz as v) ∧ P (.tup rs) n3)))))
    (hA : x.A.handled = none) (hl : isPlainArg fe = true ∧ isPlainArg ae = true) : EV x m n (.Call (.Name tn tp) [.Call (.Name mn mp) [fe, ae] [] cp] [] pos) P := fun s fz as I => by
  refine wpAny_Call_NameR (wpAny_mono (ht s fz as I) (fun vt s1 q => ?_) fun _ _ z => no z)
  obtain ⟨_, n1, fz1, as1, ⟨rfl, hm⟩, le1, p1, I1, at1⟩ := q
  refine callWith_one (f := .ty "tuple") (m := m) rfl rfl ?_
  refine wpAny_Call_NameR (wpAny_mono (hm s1 fz1 as1 I1) (fun vm s2 q => ?_) fun _ _ z => no z)
  obtain ⟨_, n2, fz2, as2, ⟨rfl, hs⟩, le2, p2, I2, at2⟩ := q
  refine callWith_q (f := .ty "map") (m := m) rfl (by simp [hl]) (wpAny_mono (hs _ s2 fz2 as2 I2) (fun vs s3 q => ?_) fun _ _ z => no z)
  obtain ⟨_, n3, fz3, as3, ⟨f, xs, rfl, hlen, rs, rel, hcalls, hrl, hrel, hP⟩, le3, p3, I3, at3⟩ := q
  have at2' := SV.At.mono le3 p3 _ at2
  refine ⟨⟨fz3, as3, n3, I3, at2'⟩, ?_⟩
  simp only [SV.AtL] at at3
  obtain ⟨vf, _, rfl, hvf, va, _, rfl, hva, rfl⟩ := at3
  simp only [SV.At] at hva
  obtain ⟨b, l, ep, rfl, hb, hl'⟩ := hva
  simp only [SV.At] at at1 at2'
  subst at1; subst at2'
  refine map_ok I3 hb fun M T it h' hM hit hst hne keep S => ?_
  have J := I3.extK (h' := h') keep s3.toks
  refine ⟨⟨fz3, as3, n3, J, by simp only [SV.At]⟩, ?_⟩
  have hll : l.length = xs.length := hl'.length
  have W := Walks.map (w := x.w) (A := x.A.in1.in1.in1) hA (M := M) (T := T) (it := it) (b := b) (f := vf) (items := ⟨l⟩) (rel := rel) ⟨hne.1, hne.2.1, hne.2.2, hst⟩ (hcalls _ _ _ _ hvf hl')
  refine call_tuple_map W (fun i s S => ⟨_, S.m, rfl⟩) S (fun c hc => ?_) (by show l.length ≤ 16777216; omega) fun s' acc hm hacc => ?_
  · simp only [List.mem_cons] at hc
    rcases hc with rfl | rfl | rfl | rfl | rfl | hc
    · exact Heap.lt_size S.m
    · exact Heap.lt_size S.m
    · exact Heap.lt_size S.t
    · obtain ⟨o, e, _⟩ := S.it; exact Heap.lt_size e
    · obtain ⟨o, e, _⟩ := S.b; exact Heap.lt_size e
    · obtain ⟨o, e⟩ := S.st.live S.tab _ hc; exact Heap.lt_size e
  · obtain ⟨hh, gg, dd, tt, oo⟩ := s'
    obtain ⟨k1, k2, k3, k4, k5⟩ := hm
    simp only at k2 k3 k4
    subst k2; subst k3; subst k4
    have J2 := I3.extK (h' := hh) (fun c o e => k1 c o (by simp only [List.mem_singleton]; rintro rfl; rw [hit] at e; exact absurd (Heap.lt_size e) (Nat.lt_irrefl _)) (keep c o e)) tt
    obtain ⟨J3, le4⟩ := J2.freeze (tupO acc.toList 0) rfl
    have e : (tupO acc.toList 0) = { cls := .type "tuple", data := .seq acc } := by simp [tupO]
    have hsz : acc.size = l.length := hacc.1
    have hat : ∀ (k : Nat) (rs' : List SV) (vs' : List Value), rs'.length = vs'.length → (∀ (i : Nat) (v : Value), vs'[i]? = some v → ∃ r : SV, rs'[i]? = some r ∧ ∀ fz as, r.At fz as v) → ∀ fz as, SV.AtL fz as rs' vs' := by
      intro _ rs'
      induction rs' with
      | nil => intro vs' h1 _ fz as; cases vs' with
        | nil => exact .nil
        | cons _ _ => simp at h1
      | cons r rr ih =>
        intro vs' h1 h2 fz as
        cases vs' with
        | nil => simp at h1
        | cons v vr =>
          refine .cons ?_ (ih vr (by simpa using h1) (fun i v hv => h2 (i + 1) v (by simpa using hv)) fz as)
          obtain ⟨r', e1, e2⟩ := h2 0 v (by simp)
          simp at e1; subst e1; exact e2 fz as
    refine ⟨.tup rs, n3, _, as3, hP, (le1.trans le2).trans (le3.trans le4), (p1.trans p2).trans p3, by rw [← e]; exact J3, ?_⟩
    simp only [SV.At]
    refine ⟨_, acc.toList, 0, rfl, Frz.add_self _ _ _, hat 0 _ _ (by rw [hrl, ← hll, Array.length_toList]; exact hsz.symm) (fun i v hv => ?_) _ _⟩
    exact hrel i v (hacc.2 i v (by simpa using hv))
end
end Mine

set_option maxRecDepth 100000
namespace Mine
open Calls
section
variable {x : Cx} {m : Loc} {n : Mut} {P : SV → Mut → Prop} {pos : Pos}
theorem EV_max_map {tn mn : Str} {tp mp cp : Pos} {fe ae : Expr}
    (ht : EV x m n (.Name tn tp) (fun f n1 => f = .bi "max" ∧ EV x m n1 (.Name mn mp) (fun g n2 => g = .ty "map" ∧ EVs x m n2 [fe, ae] (fun l n3 => ∃ f xs, l = [f, .tup xs] ∧
      (∃ ls rel, (∀ fz as vf (l : List Value), f.At fz as vf → SV.AtL fz as xs l → CallsOk x.w x.A.in1.in1 vf ⟨l⟩ rel) ∧ ls.length = xs.length ∧ ls ≠ [] ∧ (∀ i v, rel i v → ∃ (r : Nat) (t : Tok), ls[i]? = some r ∧ v = .int r t) ∧ P (.int (maxN ls)) n3)))))
    (hA : x.A.handled = none) (hl : isPlainArg fe = true ∧ isPlainArg ae = true) : EV x m n (.Call (.Name tn tp) [.Call (.Name mn mp) [fe, ae] [] cp] [] pos) P := fun s fz as I => by
  refine wpAny_Call_NameR (wpAny_mono (ht s fz as I) (fun vt s1 q => ?_) fun _ _ z => no z)
  obtain ⟨_, n1, fz1, as1, ⟨rfl, hm⟩, le1, p1, I1, at1⟩ := q
  refine callWith_one (f := .bi "max") (m := m) rfl rfl ?_
  refine wpAny_Call_NameR (wpAny_mono (hm s1 fz1 as1 I1) (fun vm s2 q => ?_) fun _ _ z => no z)
  obtain ⟨_, n2, fz2, as2, ⟨rfl, hs⟩, le2, p2, I2, at2⟩ := q
  refine callWith_q (f := .ty "map") (m := m) rfl (by simp [hl]) (wpAny_mono (hs _ s2 fz2 as2 I2) (fun vs s3 q => ?_) fun _ _ z => no z)
  obtain ⟨_, n3, fz3, as3, ⟨f, xs, rfl, ls, rel, hcalls, hrl, hne0, hrel, hP⟩, le3, p3, I3, at3⟩ := q
  have at2' := SV.At.mono le3 p3 _ at2
  refine ⟨⟨fz3, as3, n3, I3, at2'⟩, ?_⟩
  simp only [SV.AtL] at at3
  obtain ⟨vf, _, rfl, hvf, va, _, rfl, hva, rfl⟩ := at3
  simp only [SV.At] at hva
  obtain ⟨b, l, ep, rfl, hb, hl'⟩ := hva
  simp only [SV.At] at at1 at2'
  subst at1; subst at2'
  refine map_ok I3 hb fun M T it h' hM hit hst hne keep S => ?_
  have J := I3.extK (h' := h') keep s3.toks
  refine ⟨⟨fz3, as3, n3, J, by simp only [SV.At]⟩, ?_⟩
  have hll : l.length = xs.length := hl'.length
  have hpos : 0 < ls.length := by cases ls with
    | nil => exact absurd rfl hne0
    | cons _ _ => simp
  have W := Walks.map (w := x.w) (A := x.A.in1) hA (M := M) (T := T) (it := it) (b := b) (f := vf) (items := ⟨l⟩) (rel := rel) ⟨hne.1, hne.2.1, hne.2.2, hst⟩ (hcalls _ _ _ _ hvf hl')
  let val : Nat → Nat := fun i => (ls[i]?).getD 0
  have hv : ∀ i v, rel i v → i < ls.length ∧ ∃ t, v = .int (val i : Nat) t := fun i v hr => by
    obtain ⟨r, t, e1, rfl⟩ := hrel i v hr
    have hval : val i = r := by show (ls[i]?).getD 0 = r; rw [e1]; rfl
    exact ⟨(List.getElem?_eq_some_iff.mp e1).1, t, by rw [hval]⟩
  refine call_max_walk (map_pyIter S.m ⟨M, _, [it], _, rel, _, fun i j => decide (val i > val j), rfl, W, S, fun c hc => ?_, by show 0 < l.length; omega, fun i j vi vj s Q E hi hj hq => ?_, fun v h2 tk hp hk => ?_⟩)
  · simp only [List.mem_cons] at hc
    rcases hc with rfl | rfl | rfl | rfl | hc
    · exact Heap.lt_size S.m
    · exact Heap.lt_size S.t
    · obtain ⟨o, e, _⟩ := S.it; exact Heap.lt_size e
    · obtain ⟨o, e, _⟩ := S.b; exact Heap.lt_size e
    · obtain ⟨o, e⟩ := S.st.live S.tab _ hc; exact Heap.lt_size e
  · obtain ⟨_, t, rfl⟩ := hv i vi hi
    obtain ⟨_, u, rfl⟩ := hv j vj hj
    refine richCompare_gives (op := .Gt) (typeIs_int s _ t) (typeIs_int s _ u) F.slot_int_gt F.entry_int_gt (F.args_int_gt_2 _ _) (gives_int_gt _ _ t u) (fun x => nomatch x) ?_
    have : decide ((val i : Int) > (val j : Int)) = decide (val i > val j) := by simp
    exact this ▸ hq
  · have J2 := I3.extK (h' := h2) (fun c o e => hk c o (by simp only [List.mem_singleton]; rintro rfl; rw [hit] at e; exact absurd (Heap.lt_size e) (Nat.lt_irrefl _)) (keep c o e)) tk
    obtain ⟨hlt, t, rfl⟩ := hv _ v hp
    obtain ⟨hb1, hb2⟩ := best_gt (gt := fun a b : Nat => a > b) (fun a => Nat.lt_irrefl a) (fun a b c h1 h2 => Nat.lt_trans h2 h1) val (l.length - 1)
    have hsz : (⟨l⟩ : Array Value).size = l.length := rfl
    rw [hsz] at hlt ⊢
    have hmem : val (argBest (fun i j => decide (val i > val j)) (l.length - 1)) ∈ ls := by
      refine List.mem_of_getElem? (i := argBest (fun i j => decide (val i > val j)) (l.length - 1)) ?_
      show _ = some ((ls[_]?).getD 0)
      rw [List.getElem?_eq_getElem hlt]; rfl
    have hmax := maxN_eq hmem fun a ha => by
      obtain ⟨i, hi'⟩ := List.getElem?_of_mem ha
      have hil := (List.getElem?_eq_some_iff.mp hi').1
      have : val i = a := by show (ls[i]?).getD 0 = a; rw [hi']; rfl
      rw [← this]
      exact Nat.not_lt.mp (hb2 i (by omega))
    rw [← hmax]
    exact ⟨.int (maxN ls), n3, fz3, as3, hP, (le1.trans le2).trans le3, (p1.trans p2).trans p3, J2, by simp only [SV.At]; exact ⟨_, rfl⟩⟩

/-- calls of a contract by a map -/
theorem CallsOk.con {w : World} {A : Around} {a : Addr} {ss rs : List (List Nat)} {k : Nat} {l : List Value} {fz : Frz} {as : List Addr} (hR : Room A k) (hl : SV.AtL fz as (ss.map .str) l)
    (hc : ∀ (i : Nat) (s : List Nat), ss[i]? = some s → ∃ r, rs[i]? = some r ∧ Con (.fn a) [.str s] (.str r) k) : CallsOk w A (.ref a) ⟨l⟩ (fun i v => ∃ (r : List Nat) (t : Tok), rs[i]? = some r ∧ v = .str ⟨⟨r⟩⟩ t) := fun i v s Q E hi S T hQ => by
  obtain ⟨sv, hsv⟩ : ∃ sv, ss[i]? = some sv := by
    have h1 : i < l.length := (List.getElem?_eq_some_iff.mp (by simpa using hi)).1
    rw [hl.length, List.length_map] at h1
    exact ⟨_, List.getElem?_eq_getElem h1⟩
  obtain ⟨v', h1, h2⟩ := hl.get (i := i) (x := .str sv) (by rw [List.getElem?_map, hsv]; rfl)
  have : l[i]? = some v := by simpa using hi
  rw [this] at h1; cases h1
  obtain ⟨r, hr, hcon⟩ := hc i sv hsv
  simp only [SV.At] at h2
  obtain ⟨t, rfl⟩ := h2
  refine wpAny_mono (hcon w A s (fun _ => none) (.ref a) [.str ⟨⟨sv⟩⟩ t] S T hR (fun _ _ e => nomatch e) rfl (fun h => absurd trivial h) (by simp only [SV.At]) (by simp only [SV.AtL, SV.At]; exact ⟨_, _, rfl, ⟨t, rfl⟩, rfl⟩) Q fun h' g' tk v hg ht _ hq hv => ?_) (fun _ _ z => z) fun _ _ z => z.elim
  obtain ⟨eg, ht⟩ := hq trivial
  subst eg
  simp only [SV.At] at hv
  obtain ⟨u, rfl⟩ := hv
  refine hQ _ h' tk ⟨r, u, hr, rfl⟩ fun b o e => ?_
  by_cases hb : b = T0
  · rw [hb] at e ⊢; exact ht _ e
  · exact hg b o e hb
theorem CallsOk.len {w : World} {A : Around} {ss : List (List Nat)} {l : List Value} {fz : Frz} {as : List Addr} (hs : ∀ s ∈ ss, s.length ≤ 1000000) (hl : SV.AtL fz as (ss.map .str) l) :
    CallsOk w A (.builtin "len") ⟨l⟩ (fun i v => ∃ (r : Nat) (t : Tok), (ss.map (·.length))[i]? = some r ∧ v = .int r t) := fun i v s Q E hi S T hQ => by
  obtain ⟨sv, hsv⟩ : ∃ sv, ss[i]? = some sv := by
    have h1 : i < l.length := (List.getElem?_eq_some_iff.mp (by simpa using hi)).1
    rw [hl.length, List.length_map] at h1
    exact ⟨_, List.getElem?_eq_getElem h1⟩
  obtain ⟨v', h1, h2⟩ := hl.get (i := i) (x := .str sv) (by rw [List.getElem?_map, hsv]; rfl)
  have : l[i]? = some v := by simpa using hi
  rw [this] at h1; cases h1
  simp only [SV.At] at h2
  obtain ⟨t, rfl⟩ := h2
  have hb := hs sv (List.mem_of_getElem? hsv)
  refine len_str (x := ⟨⟨sv⟩⟩) (by show ¬ ((sv.length : Int) ≥ 2 ^ 63); omega) ?_
  exact hQ _ s.heap _ ⟨sv.length, _, by rw [List.getElem?_map, hsv]; rfl, rfl⟩ fun _ _ e => e
end
end Mine

set_option maxRecDepth 100000
namespace Mine
open Calls
/-! ### an expression in the frame of a generator: nothing that stands is changed -/
noncomputable def KV (x : Cx) (H : Heap) (e : Expr) (R : Value → Prop) : Prop := ∀ s : Shared, (∀ b o, H.get? b = some o → s.heap.get? b = some o) → Run x (eval e x.env) (fun v s' => R v ∧ Keeps s s') s
theorem keepsRefl (s : Shared) : Keeps s s := ⟨s.heap, s.toks, rfl, fun _ _ e => e⟩
theorem keepsTrans {s s' s'' : Shared} (h : Keeps s s') (k : Keeps s' s'') : Keeps s s'' := by
  obtain ⟨h1, t1, rfl, k1⟩ := h
  obtain ⟨h2, t2, rfl, k2⟩ := k
  exact ⟨h2, t2, rfl, fun b o e => k2 b o (k1 b o e)⟩
theorem kup {s s' : Shared} {H : Heap} (h : Keeps s s') (k : ∀ b o, H.get? b = some o → s.heap.get? b = some o) : ∀ b o, H.get? b = some o → s'.heap.get? b = some o := by
  obtain ⟨h1, t1, rfl, k1⟩ := h
  exact fun b o e => k1 b o (k b o e)
noncomputable abbrev isStr (a : List Nat) : Value → Prop := fun v => ∃ t, v = .str ⟨⟨a⟩⟩ t
noncomputable abbrev isInt (i : Int) : Value → Prop := fun v => ∃ t, v = .int i t
section
variable {x : Cx} {H : Heap} {pos : Pos}
theorem KV_free {y : Str} {c : Addr} {o : Obj} {v : Value} {R : Value → Prop} (hc : H.get? c = some o) (hd : o.data = .cell (some v)) (hR : R v) (hk : x.env.scope.kind = .function) (hl : x.env.kindOf y = some .free) (hl' : (y == ("__classdict__" : Str)) = false) (hd' : (y == ("__debug__" : Str)) = false)
    (hcl : x.env.cells.lookup y = some c) : KV x H (.Name y pos) R := fun s k => wpAny_Name (wpAny_loadName_free hk hl hcl ⟨o, k _ _ hc, hd⟩ ⟨hR, keepsRefl _⟩ hl') hd'
theorem KV_loc {y : Str} {m : Str → Option Value} {v : Value} {R : Value → Prop} (hn : H.Ns x.env.locals m) (hm : m y = some v) (hR : R v) (hk : x.env.scope.kind = .function) (hl : x.env.kindOf y = some .local) (hd' : (y == ("__debug__" : Str)) = false) : KV x H (.Name y pos) R := fun s k =>
  wpAny_Name (wpAny_loadName_local hk hl (hn.keeps k) hm ⟨hR, keepsRefl _⟩) hd'
theorem KV_glob {y : Str} {v : Value} {R : Value → Prop} (S : Stat H) (hy : (y, v) ∈ GL) (hR : R v) (hg : x.env.globals = mainGlobals) (hk : x.env.scope.kind = .function) (hl : x.env.kindOf y = some .globalImplicit) (hd : (y == ("__debug__" : Str)) = false) : KV x H (.Name y pos) R := fun s k => by
  obtain ⟨mg, a, b, _⟩ := (S.at fun c _ o e => k c o e).glob
  exact Name_function_global hk hl (loadGlobal_global (hg ▸ a) (b _ hy) ⟨hR, keepsRefl _⟩) hd
theorem KV_add {l r : Expr} {a b : List Nat} (hl : KV x H l (isStr a)) (hr : KV x H r (isStr b)) (hs : a.length + b.length ≤ 1000000) : KV x H (.BinOp l .Add r pos) (isStr (a ++ b)) := fun s k => by
  refine wpAny_BinOp (wpAny_mono (hl s k) (fun va s1 q => ?_) fun _ _ z => no z)
  obtain ⟨⟨t, rfl⟩, k1⟩ := q
  refine wpAny_mono (hr s1 (kup k1 k)) (fun vb s2 q => ?_) fun _ _ z => no z
  obtain ⟨⟨u, rfl⟩, k2⟩ := q
  exact SB.add (fun t' tk => ⟨⟨t', by rw [app_eq]⟩, keepsTrans (keepsTrans k1 k2) ⟨_, tk, rfl, fun _ _ e => e⟩⟩) (Nat.le_trans hs (by decide))
theorem KV_cut {value lo : Expr} {a : List Nat} {i : Int} {p : Pos} (hv : KV x H value (isStr a)) (hl : KV x H lo (isInt i)) (hs : a.length ≤ 1000000) : KV x H (.Subscript value (.Slice (some lo) none none p) pos) (isStr (cut a (some i) none)) := fun s k => by
  refine Subscript_ (wpAny_mono (hv s k) (fun va s1 q => ?_) fun _ _ z => no z)
  obtain ⟨⟨t, rfl⟩, k1⟩ := q
  refine wpAny_Slice ?_
  rw [evalPart_some]
  refine wpAny_mono (hl s1 (kup k1 k)) (fun vl s2 q => ?_) fun _ _ z => no z
  obtain ⟨⟨u, rfl⟩, k2⟩ := q
  rw [evalPart_none]
  refine wpAny_pure ?_
  refine wpAny_pure ?_
  refine cut_str_raw (l := some (i, u)) (u := none) (Heap.get?_push_size _ rfl) hs fun t' tk => ⟨⟨t', rfl⟩, keepsTrans (keepsTrans k1 k2) ⟨_, tk, rfl, fun b o e => Heap.get?_push_of_some _ e⟩⟩
/-- a def called with three arguments -/
theorem KV_call3 {fname : Str} {np : Pos} {e : FnE} {a b c : Expr} {A B C : SV} {k : Nat} {RA RB RC : Value → Prop} {r : List Nat} (S : Stat H) (T : TabOk H) (he : e ∈ FL) (hf : KV x H (.Name fname np) (fun v => v = .ref e.a)) (ha : KV x H a RA) (hb : KV x H b RB) (hc : KV x H c RC)
    (hRA : ∀ v, RA v → A.At (fun _ => none) [] v) (hRB : ∀ v, RB v → B.At (fun _ => none) [] v) (hRC : ∀ v, RC v → C.At (fun _ => none) [] v) (hcon : Con (.fn e.a) [A, B, C] (.str r) k) (hR : Room x.A k) (hl : [a, b, c].all isPlainArg = true) :
    KV x H (.Call (.Name fname np) [a, b, c] [] pos) (isStr r) := fun s k => by
  refine wpAny_Call_NameR (wpAny_mono (hf s k) (fun vf s1 q => ?_) fun _ _ z => no z)
  obtain ⟨rfl, k1⟩ := q
  refine callWith_k hl ?_
  simp only [List.all_cons, List.all_nil, Bool.and_true, Bool.and_eq_true] at hl
  have e3 : backTo pos (starEach [a, b, c] x.env) = [(false, eval a x.env), (false, eval b x.env), (false, eval c x.env)] := by
    have one : ∀ (e : Expr) (es : List Expr), isPlainArg e = true → backTo pos (starEach (e :: es) x.env) = (false, eval e x.env) :: backTo pos (starEach es x.env) := by
      intro e es h
      cases e <;> first | rfl | simp [isPlainArg] at h
    rw [one a _ hl.1, one b _ hl.2.1, one c _ hl.2.2]; rfl
  rw [e3]
  refine spliced_cons (wpAny_mono (ha s1 (kup k1 k)) (fun va s2 q => ?_) fun _ _ z => no z)
  obtain ⟨ra, k2⟩ := q
  refine spliced_cons (wpAny_mono (hb s2 (kup k2 (kup k1 k))) (fun vb s3 q => ?_) fun _ _ z => no z)
  obtain ⟨rb, k3⟩ := q
  refine spliced_cons (wpAny_mono (hc s3 (kup k3 (kup k2 (kup k1 k)))) (fun vc s4 q => ?_) fun _ _ z => no z)
  obtain ⟨rc, k4⟩ := q
  have up := kup k4 (kup k3 (kup k2 (kup k1 k)))
  refine spliced_nil ?_
  have S4 : Stat s4.heap := S.at fun c _ o e => up c o e
  have T4 : TabOk s4.heap := T.at fun c _ o e => up c o e
  refine ⟨⟨.frame, .inl rfl, (Looks.ld (part := none) (S4.fn e he).1).andThen .now⟩, ?_⟩
  refine hcon x.w x.A s4 (fun _ => none) (.ref e.a) [va, vb, vc] S4 T4 hR (fun _ _ e => nomatch e) rfl (fun h => absurd trivial h) (by simp only [SV.At]) (.cons (hRA _ ra) (.cons (hRB _ rb) (.cons (hRC _ rc) .nil))) _ fun h' g' tk v hg ht _ hq hv => ?_
  obtain ⟨eg, hT⟩ := hq trivial
  subst eg
  simp only [SV.At] at hv
  refine ⟨hv, keepsTrans (keepsTrans (keepsTrans (keepsTrans k1 k2) k3) k4) ⟨h', tk, rfl, fun b o e => ?_⟩⟩
  by_cases hb : b = T0
  · rw [hb] at e ⊢; exact hT _ e
  · exact hg b o e hb
end
end Mine

set_option maxRecDepth 100000
namespace Mine
open Calls
section
variable {x : Cx} {m : Loc} {n : Mut} {P : SV → Mut → Prop} {pos : Pos}
theorem Iv.ltF {fz : Frz} {as : List Addr} {s : Shared} (I : Iv x m n fz as s) {b : Addr} {o : Obj} (e : fz b = some o) : b < s.heap.objs.size := Heap.lt_size (I.frz _ _ e)
theorem Iv.neF {fz : Frz} {as : List Addr} {s : Shared} (I : Iv x m n fz as s) {b : Addr} {o : Obj} (e : fz b = some o) : b ≠ T0 := fun z => by rw [z, I.fzT] at e; cases e
/-- all but the code table is as it was; generators were made -/
theorem Iv.wild {fz : Frz} {as : List Addr} {s : Shared} (I : Iv x m n fz as s) (hq : ¬ x.os.q) {h' : Heap} {g' : Array GenState} (t : Nat) (k : ∀ b o, b ≠ T0 → s.heap.get? b = some o → h'.get? b = some o) (T : TabAt x.base h') (hb : AllBare g') :
    Iv x m n fz as { s with heap := h', gens := g', toks := t } where
  stat := I.stat
  tab := T
  grow := I.grow.trans fun a o e ha => k a o ha e
  frz := fun a o e => k a o (I.neF e) (I.frz a o e)
  fzT := I.fzT
  frb := I.frb
  loc := let ⟨mv, ⟨o, es, ep, e, r⟩, b⟩ := I.loc; ⟨mv, ⟨o, es, ep, k _ _ I.LT e, r⟩, b⟩
  keys := I.keys
  fzL := I.fzL
  newL := I.newL
  LT := I.LT
  len := I.len
  nd := I.nd
  own := fun a ha => let ⟨p, q, r, t, u⟩ := I.own a ha; ⟨p, q, r, t, by
    obtain ⟨i, hi⟩ := List.getElem?_of_mem ha
    have hi' : i < n.length := by rw [← I.len]; exact (List.getElem?_eq_some_iff.mp hi).1
    obtain ⟨l, ep, e, _⟩ := I.mls i a n[i] hi (List.getElem?_eq_getElem hi')
    exact Heap.lt_size (k _ _ r e)⟩
  mls := fun j a xs p q => let ⟨l, ep, r, t⟩ := I.mls j a xs p q; ⟨l, ep, k _ _ (I.own a (List.mem_of_getElem? p)).2.2.1 r, t⟩
  os := ⟨I.os.1, I.os.2.1, fun q => absurd q hq⟩
  bare := fun _ => hb
  cel := I.cel

/-- the code object of a generator expression -/
theorem genCode {env : Env} {s : Shared} {Q : Value → Shared → Prop} {qn : Str} {scope : Scope} (hc : env.code = .ref 77) (S : Stat s.heap) (T : TabOk s.heap)
    (hQ : ∀ c h' tk, Heap.ExtBut T0 s.heap h' → s.heap.objs.size ≤ h'.objs.size → TabAt s.heap h' → Q c { s with heap := h', toks := tk }) : Run x (genexprCode env pos qn scope) Q s := by
  obtain ⟨ps, hok, ht⟩ := T
  cases hca : codeAmong pos ps.toList with
  | some c' => exact wpAny_genexprCode_hit hc hok hca (hQ c' s.heap s.toks (fun _ _ _ e => e) (Nat.le_refl _) (.refl ⟨ps, hok, ht⟩))
  | none =>
    obtain ⟨oc, e1, e2⟩ := S.code
    obtain ⟨o, vs, file, tf, flags, tg, inF, text, tt, op, a, r1, r2, r⟩ := id hok
    rw [e1] at a; cases a
    have h11 : vs[11]? = some (.ref T0) := by
      have : vs.getD 11 .none = .ref T0 := r2
      rw [Array.getD_eq_getD_getElem?] at this
      cases h : vs[11]? with
      | none => rw [h] at this; cases this
      | some w => rw [h] at this; simp at this; rw [this]
    exact wpAny_genexprCodeX hc hok ⟨⟨oc, vs, e1, e2, r1, h11⟩, ht⟩ hca fun c' h' tk k hle hlt hcode _ htab _ => hQ _ h' tk k (Nat.le_trans hle (Nat.le_of_lt hlt)) ⟨⟨_, hcode, htab.2⟩, fun ps' e => by rw [ht] at e; cases e; exact ⟨_, htab.2⟩⟩

/-- tuple of a generator expression over a tuple of texts -/
theorem EV_tuple_gen {tn y : Str} {tp yp gp : Pos} {elt iter : Expr} {scope : Scope} {cl : List (Str × Addr)} (hA : x.A.handled = none) (hroom : x.A.depth < recursionLimit) (hnq : ¬ x.os.q) (hcode : x.env.code = .ref 77) (hgl : x.env.globals = mainGlobals)
    (hco : scope.isCoroutine = false) (hclos : closureFor scope x.env = pure cl) (hcell : ∀ y ∈ scope.names, y.2 ≠ .cell) (h0 : scope.names.lookup (".0" : Str) = some NameKind.local)
    (hx : scope.names.lookup y = some .local) (hkind : scope.kind = .function) (hs : ∀ v, genFold iter x.env v = pure v)
    (ht : EV x m n (.Name tn tp) (fun f n1 => f = .ty "tuple" ∧ EV x m n1 iter (fun a n2 => ∃ xs rs : List (List Nat), a = .tup (xs.map .str) ∧ xs.length ≤ 1000 ∧ rs.length = xs.length ∧ P (.tup (rs.map .str)) n2 ∧
      ∀ (A' : Around) (H : Heap) (C : Addr) (code : Value) (mC : Str → Option Value) (i : Nat) (xi ri : List Nat), A'.handled = none → A'.depth ≤ x.A.depth + 1 → A'.units ≤ x.A.units + 8 → Stat H → TabOk H → xs[i]? = some xi → rs[i]? = some ri → H.Ns C mC → (∃ t, mC y = some (.str ⟨⟨xi⟩⟩ t)) →
        (∀ z c sv, x.env.cells.lookup z = some c → (z, sv) ∈ m → sv ≠ .unset → ∃ o v fz as, H.get? c = some o ∧ o.data = .cell (some v) ∧ sv.At fz as v) →
        KV { x with A := A', env := genEnv scope cl C code builtinsNs x.env } H elt (isStr ri)))) :
    EV x m n (.Call (.Name tn tp) [.GeneratorExp elt [⟨.Name y yp, iter, [], 0⟩] scope gp] [] pos) P := fun s fz as I => by
  refine wpAny_Call_NameR (wpAny_mono (ht s fz as I) (fun vt s1 q => ?_) fun _ _ z => no z)
  obtain ⟨_, n1, fz1, as1, ⟨rfl, hm⟩, le1, p1, I1, at1⟩ := q
  refine callWith_one (f := .ty "tuple") (m := m) rfl rfl ?_
  simp only [SV.At] at at1; subst at1
  refine wpAny_GeneratorExp_walksQD hA hco hclos hcell h0 hx hkind hroom (wpAny_mono (hm s1 fz1 as1 I1) (fun va s2 q => ?_) fun _ _ z => no z) hs
  obtain ⟨_, n2, fz2, as2, ⟨xs, rs, rfl, hlen, hrl, hP, hE⟩, le2, p2, I2, at2⟩ := q
  simp only [SV.At] at at2
  obtain ⟨b, l, ep, rfl, hb, hl⟩ := at2
  have hb' := I2.frz _ _ hb
  have hT : s2.heap.IsTuple b ⟨l⟩ := ⟨_, hb', rfl, ep, rfl⟩
  have hll : l.length = xs.length := by rw [hl.length, List.length_map]
  refine wpAny_pyIter_tuple hT ?_
  have I3 := I2.push { cls := .type "tuple_iterator", data := .fields #[.ref b, .int 0 0] }
  have hit : (s2.heap.push { cls := .type "tuple_iterator", data := .fields #[.ref b, .int 0 0] }).get? s2.heap.objs.size = some _ := Heap.get?_push_size _ rfl
  have hbit : b < s2.heap.objs.size := Heap.lt_size hb'
  have hgen : ∀ c ∈ statA, c < s2.heap.objs.size := fun c hc => let ⟨o, e⟩ := I2.st.live I2.tab.ok c hc; Heap.lt_size e
  refine ⟨I3.st.nolim, genCode hcode I3.st I3.tab.ok fun code h4 tk4 k4 le4 T4' => ?_⟩
  have T4 := I3.tab.trans T4'
  have k4' : ∀ b o, b ≠ T0 → s2.heap.get? b = some o → h4.get? b = some o := fun b o hbT e => k4 b o hbT (Heap.get?_push_of_some _ e)
  have S4 : Stat h4 := I2.st.grow fun a o e ha => k4' a o ha e
  have sz4 : s2.heap.objs.size < h4.objs.size := Nat.lt_of_lt_of_le (by rw [Heap.size_push]; exact Nat.lt_succ_self _) le4
  obtain ⟨mg, g1, g2, _⟩ := S4.glob
  obtain ⟨om, b1, b2, b3, b4⟩ := S4.bmod
  refine wpAny_builtinsFor (hgl ▸ g1) (g2 ("__builtins__", .ref 4) (by simp [GL])) (by decide) b1 b2 b3 b4 ?_
  have hitT : s2.heap.objs.size ≠ T0 := Nat.ne_of_gt I2.hT
  have hbT : b ≠ T0 := I2.neF hb
  refine ⟨s2.heap.objs.size, _, [s2.heap.objs.size], _, _, _, fun _ => true, fun i v => ∃ r, rs[i]? = some r ∧ isStr r v, rfl, (fun A' hA' => Walks.tuple hA' _ b (Nat.ne_of_lt hbit) ⟨l⟩), ?_, ?_, S4.nolim, ?_, ?_, ?_⟩
  · exact ⟨⟨_, k4 _ _ hitT hit, rfl, rfl⟩, ⟨_, k4' _ _ hbT hb', rfl, ep, rfl⟩⟩
  · intro c hc
    simp only [List.mem_cons, List.not_mem_nil, or_false] at hc
    rcases hc with rfl | rfl
    · exact sz4
    · exact Nat.lt_trans hbit sz4
  · intro hm
    simp only [List.mem_singleton] at hm
    exact absurd (hgen cStatics (by simp [statA])) (by rw [hm]; exact Nat.lt_irrefl _)
  · intro href hhref
    refine ⟨fun A' E' i v t m2 _ _ _ _ _ _ _ => ?_, fun A' E' i v t m2 hA' hD hU hi _ hn hmv hk => ?_⟩
    · show wpAny _ _ (forIn [] true _) _ _ _
      rw [List.forIn_nil]
      exact wpAny_pure ⟨rfl, keepsRefl _⟩
    · have kt : ∀ c o, c ≠ T0 → s2.heap.get? c = some o → t.heap.get? c = some o := fun c o hc e => hk c (List.mem_range.mpr (Nat.lt_trans (Heap.lt_size e) sz4)) (by
        simp only [List.mem_singleton]; rintro rfl; exact Nat.lt_irrefl _ (Heap.lt_size e)) o (hhref _ _ (k4' _ _ hc e))
      have kA : ∀ c ∈ statA, ∀ o, h4.get? c = some o → t.heap.get? c = some o := fun c hc o e => hk c (List.mem_range.mpr (Heap.lt_size e)) (by
        simp only [List.mem_singleton]; rintro rfl; exact Nat.lt_irrefl _ (hgen _ hc)) o (hhref _ _ e)
      have hi2 : i < xs.length := by
        have : l[i]? = some v := by simpa using hi
        rw [← hll]; exact (List.getElem?_eq_some_iff.mp this).1
      obtain ⟨v', hv1, hv2⟩ := hl.get (i := i) (x := .str xs[i]) (by rw [List.getElem?_map, List.getElem?_eq_getElem hi2]; rfl)
      have : l[i]? = some v := by simpa using hi
      rw [this] at hv1; cases hv1
      simp only [SV.At] at hv2
      obtain ⟨tv, rfl⟩ := hv2
      have hri : rs[i]? = some rs[i] := List.getElem?_eq_getElem (by omega)
      have := hE A' t.heap h4.objs.size code m2 i xs[i] rs[i] hA' hD hU (S4.at kA) (T4.ok.at kA) (List.getElem?_eq_getElem hi2) hri hn ⟨tv, hmv⟩ (fun z c sv hz hm hu => by
        obtain ⟨mv, hn, hmm⟩ := I2.loc
        rcases hmm _ hm with e | ⟨v, e, ha⟩
        · exact absurd e hu
        · unfold VarAt at e
          rw [hz] at e
          obtain ⟨o, e1, e2⟩ := e
          exact ⟨o, v, fz2, as2, kt c o (I2.neF e1) (I2.frz _ _ e1), e2, ha⟩)
      refine wpAny_mono (this t fun _ _ e => e) (fun w s3 q => ?_) fun _ _ z => z.elim
      exact ⟨⟨_, hri, q.1⟩, q.2⟩
  · intro a h5 tk5 gs hgs hlt hsz k5 W G0
    have k5' : ∀ c o, c ≠ T0 → s2.heap.get? c = some o → h5.get? c = some o := fun c o hc e => k5 c o (k4' c o hc e)
    have T5 := T4.keeps k5
    have I5 := I2.wild hnq tk5 k5' T5 ((I2.bare hnq).push hgs)
    refine ⟨⟨fz2, as2, n2, I5, by simp only [SV.At]⟩, ?_⟩
    have hpass : (passing (fun _ => true) (⟨l⟩ : Array Value).size 0) = List.range l.length := by
      unfold passing; simp
    refine call_tuple_gen (hsz := by rw [hpass, List.length_range]; show l.length ≤ 16777216; omega) W.in4_3 (fun i s' st => st.1.typeIs) G0 (fun c hc => ?_) List.mem_cons_self fun s' acc hmv hacc => ?_
    · show c < h5.objs.size
      rw [hsz]
      simp only [List.mem_cons, List.mem_range] at hc
      rcases hc with rfl | rfl | hc
      · exact Nat.lt_succ_self _
      · exact Nat.lt_succ_of_lt hlt
      · exact Nat.lt_succ_of_lt (Nat.lt_trans hc hlt)
    · obtain ⟨hh, gg, dd, tt, oo⟩ := s'
      obtain ⟨m1, m2, m3, m4, m5⟩ := hmv
      simp only at m1 m2 m3 m4
      subst m3; subst m4
      have bare5 : AllBare gg := m2.bare ((I2.bare hnq).push hgs)
      have up : ∀ c o, c < h4.objs.size → c ≠ s2.heap.objs.size → h5.get? c = some o → hh.get? c = some o := fun c o h1 h2 e => m1 c o (by
        simp only [List.mem_cons, List.not_mem_nil, or_false, not_or]; exact ⟨Nat.ne_of_lt h1, h2⟩) e
      have T6 := T5.to (T5.ok.at fun c hc o e => up c o (Nat.lt_trans (hgen c hc) sz4) (Nat.ne_of_lt (hgen c hc)) e) fun o e => up T0 o (Nat.lt_trans (hgen T0 (by simp [statA])) sz4) (Nat.ne_of_lt (hgen T0 (by simp [statA]))) e
      have I6 := I2.wild hnq tt (h' := hh) (g' := gg) (fun c o hc e => up c o (Nat.lt_trans (Heap.lt_size e) sz4) (Nat.ne_of_lt (Heap.lt_size e)) (k5' c o hc e)) T6 bare5
      obtain ⟨J, le5⟩ := I6.freeze (tupO acc.toList 0) rfl
      have e : (tupO acc.toList 0) = { cls := .type "tuple", data := .seq acc } := by simp [tupO]
      have hsz' : acc.size = xs.length := by rw [hacc.1, hpass, List.length_range, hll]
      have hat : ∀ (rs' : List (List Nat)) (vs' : List Value), rs'.length = vs'.length → (∀ (i : Nat) (v : Value), vs'[i]? = some v → ∃ r, rs'[i]? = some r ∧ isStr r v) → ∀ fz as, SV.AtL fz as (rs'.map .str) vs' := by
        intro rs'
        induction rs' with
        | nil => intro vs' h1 _ fz as; cases vs' with
          | nil => exact .nil
          | cons _ _ => simp at h1
        | cons r rr ih =>
          intro vs' h1 h2 fz as
          cases vs' with
          | nil => simp at h1
          | cons v vr =>
            refine .cons ?_ (ih vr (by simpa using h1) (fun i v hv => h2 (i + 1) v (by simpa using hv)) fz as)
            obtain ⟨r', e1, e2⟩ := h2 0 v (by simp)
            simp at e1; subst e1; simp only [SV.At]; exact e2
      refine ⟨.tup (rs.map .str), n2, _, as2, hP, (le1.trans le2).trans le5, p1.trans p2, by rw [← e]; exact J, ?_⟩
      simp only [SV.At]
      refine ⟨_, acc.toList, 0, rfl, Frz.add_self _ _ _, hat _ _ (hrl.trans (hsz'.symm.trans Array.length_toList.symm)) (fun i v hv => ?_) _ _⟩
      obtain ⟨j, hj, r, hr, hv'⟩ := hacc.2 i v (by simpa using hv)
      rw [hpass] at hj
      have hj2 : j = i := by
        have := (List.getElem?_eq_some_iff.mp hj)
        obtain ⟨h1, h2⟩ := this
        simpa using h2.symm
      subst hj2
      exact ⟨r, hr, hv'⟩
end
end Mine

set_option maxRecDepth 100000
namespace Mine
open Calls
open Sem (wp)
namespace AF
open PySem.F
theorem lk_list_append : typeLookup (.type "list") "append" = pure (some (.builtin "list.append")) := by rw [typeLookup_type, builtinLookup_eq_fast]; kernel_rfl
theorem owner_md : Manifest.owners.lookup (String.ofList ['r', 'o', 't', 'p', 'i', 'r', 'c', 's', 'e', 'd', '_', 'd', 'o', 'h', 't', 'e', 'm'].reverse) = some Manifest.sig_method_descriptor := by kernel_rfl
theorem slot_md_get : Slot "method_descriptor" "__get__" "method_descriptor.__get__" :=
  .of (owner := "method_descriptor") (n := "__get__") (by rw [typeLookup_type, builtinLookup_eq_fast]; kernel_rfl) (by decide +kernel) (by decide +kernel) (by decide +kernel)
    (by first | exact .inl (by decide +kernel) | exact .inr (by decide +kernel)) (by rw [isSubtype_type]; kernel_rfl)
theorem md_no_set : typeLookup (.type "method_descriptor") "__set__" = pure none := by rw [typeLookup_type, builtinLookup_eq_fast]; kernel_rfl
theorem md_no_delete : typeLookup (.type "method_descriptor") "__delete__" = pure none := by rw [typeLookup_type, builtinLookup_eq_fast]; kernel_rfl
theorem entry_md_get : entryFor table "method_descriptor.__get__" = some Builtin.«method_descriptor.__get__» := entryFor_of_tree (by kernel_rfl)
theorem args_md_get (a b c : Value) : argsOk "method_descriptor.__get__" ⟨[a, b, c], []⟩ := by unfold argsOk; kernel_rfl
theorem owner_list_append : (".".intercalate ("list.append".cutAt '.').dropLast) = "list" := by
  have e0 : "list.append".cutAt '.' = ["list", "append"] := by first | rfl | decide +kernel
  rw [e0]; decide +kernel
theorem sub_list_append : isSubtype (.type "list") (.type (".".intercalate ("list.append".cutAt '.').dropLast)) = pure true := by
  rw [owner_list_append, isSubtype_type]; kernel_rfl
end AF
section
variable {prog : Program} {w : World} {A : Around} {E : Value → Shared → Prop} {s : Shared} {a : Addr} {l : List Value} {ep : Nat}
/-- the method that a list's append is bound to -/
theorem md_get_append {h : Heap} {g : Array GenState} {d : Drawn} {t : Nat} {os : OsState} {Q : Value → Shared → Prop} (e : h.get? a = some (lstO l ep)) (hq : Q (.ref h.objs.size) ⟨h.push (appO a), g, d, t, os⟩) :
    wpAny (model prog w) A (call (.builtin "method_descriptor.__get__") [.builtin "list.append", .ref a, .type "list"]) Q E ⟨h, g, d, t, os⟩ := by
  have T : Shared.TypeIs ⟨h, g, d, t, os⟩ (.ref a) "list" := ⟨_, e, rfl⟩
  have U : Shared.TypeIs ⟨h, g, d, t, os⟩ (.builtin "list.append") "method_descriptor" := F.type_list_append
  have z := AF.sub_list_append
  refine wpAny_call_entry AF.slot_md_get U AF.entry_md_get ?_ (AF.args_md_get _ _ _)
  wp_walk
  exact ⟨_, rfl, hq⟩
theorem ga_append {h : Heap} {g : Array GenState} {d : Drawn} {t : Nat} {os : OsState} {u : Tok} {Q : Fin → Shared → Prop} (e : h.get? a = some (lstO l ep)) (hq : Q (.done (.ret (.ref h.objs.size))) ⟨h.push (appO a), g, d, t, os⟩) :
    wpAny (model prog w) A (Builtin.«object.__getattribute__» ⟨[.ref a, .str "append" u], []⟩) Q E ⟨h, g, d, t, os⟩ := by
  have T : Shared.TypeIs ⟨h, g, d, t, os⟩ (.ref a) "list" := ⟨_, e, rfl⟩
  have U : Shared.TypeIs ⟨h, g, d, t, os⟩ (.builtin "list.append") "method_descriptor" := F.type_list_append
  have z0 := AF.lk_list_append
  have z1 := F.type_list_append
  have z2 := AF.slot_md_get.lookup
  have z3 := AF.md_no_set
  have z4 := AF.md_no_delete
  have z5 : (["__module__", "__name__", "__qualname__", "__doc__", "__annotations__"] : List Str).contains "append" = false := by decide +kernel
  unfold Builtin.«object.__getattribute__»
  wp_walk using md_get_append e
  assumption
theorem ga_call {h : Heap} {g : Array GenState} {d : Drawn} {t : Nat} {os : OsState} {u : Tok} {Q : Value → Shared → Prop} (e : h.get? a = some (lstO l ep)) (hq : Q (.ref h.objs.size) ⟨h.push (appO a), g, d, t, os⟩) :
    wpAny (model prog w) A (call (.builtin "list.__getattribute__") ([.ref a] ++ [.str "append" u])) Q E ⟨h, g, d, t, os⟩ :=
  wpAny_call_entry F.slot_list_getattribute (self := .ref a) ⟨_, e, rfl⟩ F.entry_list_ga (ga_append e ⟨_, rfl, hq⟩) (F.args_list_getattribute_2 _ _)
theorem getAttr_append {Q : Value → Shared → Prop} (e : s.heap.get? a = some (lstO l ep)) (hq : ∀ tk, Q (.ref s.heap.objs.size) { s with heap := s.heap.push (appO a), toks := tk }) :
    wpAny (model prog w) A (getAttr (.ref a) "append" true) Q E s := by
  obtain ⟨hp, g, d, tk, os⟩ := s
  have T : Shared.TypeIs ⟨hp, g, d, tk, os⟩ (.ref a) "list" := ⟨_, e, rfl⟩
  have z0 := F.slot_list_getattribute.lookup
  have z1 := F.slot_list_getattribute.bind (.ref a)
  have z2 := am_list_getattr_none
  unfold getAttr getAttrBy
  wp_walk using ga_call e
  exact hq _
end
theorem sig_append : Manifest.signature? "list.append" = some ⟨.oneArg, "list.append", "append", .self, [⟨"object", .posOnly, true⟩]⟩ := by
  rw [signature?_of (id := "list.append") (n := ['d', 'n', 'e', 'p', 'p', 'a']) (o := ['t', 's', 'i', 'l']) (by kernel_rfl) F.owner_list]; kernel_rfl
theorem last_append : Bind.lastOf "list.append" = "append" := by decide +kernel
theorem last_list : Bind.lastOf "list" = "list" := by decide +kernel
theorem kind_append : builtinKind "list.append" = some .method := by kernel_rfl
theorem checkArgs_append (a v : Value) : Bind.checkArgs "list.append" ⟨.oneArg, toString (Bind.lastOf "list") ++ toString "." ++ toString "append", "append", .self, [⟨"object", .posOnly, true⟩]⟩ ⟨[a, v], []⟩ = pure () := by
  have e : toString (Bind.lastOf "list") ++ toString "." ++ toString "append" = "list.append" := by decide +kernel
  rw [e]
  have := F.args_list_append_2 a v
  unfold argsOk at this
  rw [sig_append] at this
  exact this
section
variable {M : Model} {A : Around} {E : Value → Shared → Prop} {s : Shared} {a : Addr} {l : List Value} {ep : Nat}
theorem checkBound_append {v : Value} {Q : Unit → Shared → Prop} (hx : s.heap.get? a = some (lstO l ep)) (hq : Q () s) : wpAny M A (checkBoundCall "list.append" ⟨[.ref a, v], []⟩) Q E s := by
  have hT : s.TypeIs (.ref a) "list" := ⟨_, hx, rfl⟩
  unfold checkBoundCall
  rw [sig_append, kind_append]
  simp only [last_append]
  have g1 : isSubtype (.type "list") (.type "module") = pure false := by rw [isSubtype_type]; kernel_rfl
  have g2 : isSubtype (.type "list") (.type "type") = pure false := by rw [isSubtype_type]; kernel_rfl
  have g3 : Manifest.varargsMethods.contains "list.append" = false := by decide +kernel
  have ha := checkArgs_append (.ref a) v
  rw [g3, if_neg (by decide)]
  repeat (any_goals (first | assumption | wp_step))
end
end Mine

set_option maxRecDepth 100000
namespace Mine
open Calls
theorem plain_append : plainId "list.append" = true := by decide +kernel
section
variable {x : Cx} {m : Loc} {n : Mut} {P : SV → Mut → Prop}
theorem EV_attr_append {y : Str} {np pos : Pos} (h : EV x m n (.Name y np) (fun r n1 => ∃ k, r = .ml k ∧ k < n1.length ∧ P (.app k) n1)) : EV x m n (.Attribute (.Name y np) "append" pos) P := fun s fz as I => by
  refine Attribute_Name_ (wpAny_mono (h s fz as I) (fun v s1 q => ?_) fun _ _ z => no z)
  obtain ⟨_, n1, fz1, as1, ⟨k, rfl, hk, hP⟩, le1, p1, I1, at1⟩ := q
  simp only [SV.At] at at1
  obtain ⟨a, rfl, ha⟩ := at1
  obtain ⟨l, ep, ho, hl⟩ := I1.mls k a n1[k] ha (List.getElem?_eq_getElem hk)
  refine getAttr_append ho fun tk => ?_
  obtain ⟨J, le2⟩ := (I1.toks tk).freeze (appO a) rfl
  refine ⟨.app k, n1, _, as1, hP, le1.trans le2, p1, J, ?_⟩
  simp only [SV.At]
  exact ⟨a, _, rfl, ha, Frz.add_self _ _ _⟩
theorem CL_app {k : Nat} {a : SV} {xs : List SV} (hk : n[k]? = some xs) (hs : xs.length ≤ 1000000) (h : P .none (n.set k (xs ++ [a]))) : CL x m n (.app k) [a] P := fun s fz as vf vs I hf ha => by
  simp only [SV.At] at hf
  obtain ⟨b, c, rfl, hb, hc⟩ := hf
  simp only [SV.AtL] at ha; obtain ⟨va, _, rfl, h2, rfl⟩ := ha
  obtain ⟨l, ep, ho, hl⟩ := I.mls k b xs hb hk
  have hsz : (⟨l⟩ : Array Value).size ≤ sizeLine := by
    show l.length ≤ _
    rw [hl.length]; exact Nat.le_trans hs (by decide)
  refine wpAny_call (codeAny_of_tree ?_)
  show wpAny _ x.A.in1 (callAny (.ref c) ⟨[va], []⟩) _ _ s
  simp only [callAny]
  refine wpAny_bind (wpAny_load (I.frz _ _ hc) ?_)
  show wpAny _ x.A.in1 (checkBoundCall "list.append" ⟨[.ref b, va], []⟩ >>= fun _ => again (.builtin "list.append" ⟨[.ref b, va], []⟩)) _ _ s
  refine wpAny_bind (checkBound_append ho (wpAny_pure ⟨plainId_quiet plain_append _, codeAny_builtin F.entry_list_append ?_⟩))
  rw [Around.under_plainId plain_append _]
  refine list_append b ⟨l⟩ ep va hsz pw x.w x.A (wants (Post x m fz as P) noE) s ⟨ho, ?_⟩
  obtain ⟨n', hd'⟩ := Obj.data_mapSeq (o := lstO l ep) (n := ep) (xs := ⟨l⟩) rfl (·.push va)
  have e : (lstO l ep).mapSeq (·.push va) = lstO (l ++ [va]) n' := by
    have h1 : ((lstO l ep).mapSeq (·.push va)).cls = .type "list" := rfl
    have h2 : ((lstO l ep).mapSeq (·.push va)).dict = none := rfl
    have h3 : ((lstO l ep).mapSeq (·.push va)).slots = #[] := rfl
    revert hd' h1 h2 h3
    cases (lstO l ep).mapSeq (·.push va) with
    | mk c d dt sl => rintro rfl rfl rfl rfl; simp
  have hg : (s.heap.update b (Obj.mapSeq (·.push va))).get? b = some (lstO (l ++ [va]) n') := by
    rw [← e]; exact Heap.get?_update_self _ ho (by rw [e]; rfl)
  exact (I.setMl hb (Heap.SameBut.update ..) hg (hl.append (.cons h2 .nil)) s.toks).post (by simp only [SV.At]) h
end
end Mine

set_option maxRecDepth 100000
namespace Mine
open Calls
open Sem (wp)
theorem scmE_mem : ∀ (l : List Nat) (t : Nat) (e : DictEntry), e ∈ scmE l t → ∃ c ∈ l, e.hash = (c : Int) ∧ ∃ u, e.key = .int (c : Int) u
  | [], _, _, h => by simp [scmE] at h
  | c :: r, t, e, h => by
    simp only [scmE, List.mem_cons] at h
    rcases h with rfl | h
    · exact ⟨c, by simp, rfl, t, rfl⟩
    · obtain ⟨c', h1, h2⟩ := scmE_mem r _ e h
      exact ⟨c', by simp [h1], h2⟩
theorem scm_hash : ∀ c ∈ scmL, hashInt (c : Int) = (c : Int) := by decide +kernel
noncomputable def scmF (k : Int) : Option Value := findBy Value.isInt ⟨scmE scmL 428⟩ k
theorem scm_map {prog : Program} {w : World} {h : Heap} (hs : h.get? 100 = some scmO) : h.MapOf (intKind prog w) 100 scmF :=
  ⟨scmO, ⟨scmE scmL 428⟩, 24, hs, ⟨rfl, rfl, rfl⟩, rfl, fun e he => by
    obtain ⟨c, h1, h2, u, h3⟩ := scmE_mem _ _ e (by simpa using he)
    exact ⟨c, by rw [h3]; simp [intKind, Value.isInt], by rw [h2]; exact (scm_hash c h1).symm⟩, fun k => rfl⟩
noncomputable def specC (c : Nat) : Bool := c == 43 || c == 45
theorem scmF_hit : ∀ c ∈ ([43, 45] : List Nat), ∃ t, scmF (c : Int) = some (.str ⟨#[92, c]⟩ t) := by
  intro c hc
  simp only [List.mem_cons, List.not_mem_nil, or_false] at hc
  rcases hc with rfl | rfl
  · exact ⟨_, by unfold scmF; rfl⟩
  · exact ⟨_, by unfold scmF; rfl⟩
theorem scmF_miss : ∀ c ∈ ([39, 47, 97, 100, 101] : List Nat), scmF (c : Int) = none := by
  intro c hc
  simp only [List.mem_cons, List.not_mem_nil, or_false] at hc
  rcases hc with rfl | rfl | rfl | rfl | rfl <;> rfl
theorem sub_key_lookup : isSubtype (.type "KeyError") (.type "LookupError") = pure true := by rw [isSubtype_type]; kernel_rfl
section
variable {prog : Program} {w : World} {A : Around} {E : Value → Shared → Prop} {s : Shared}
theorem tl_hit {c : Nat} {Q : Builtin.Str.Mapped → Shared → Prop} (hc : c ∈ ([43, 45] : List Nat)) (hs : s.heap.get? 100 = some scmO) (hq : ∀ tk, Q (.text ⟨#[92, c]⟩) { s with toks := tk }) :
    wpAny (model prog w) A (Builtin.Str.tableLookup (.ref 100) c) Q E s := by
  obtain ⟨t, ht⟩ := scmF_hit c hc
  unfold Builtin.Str.tableLookup
  refine wpAny_bind (wpAny_attempt (wpAny_bind (wpAny_mkInt ?_)))
  refine wpAny_getItem_of (knd := intKind prog w) (k := (c : Int)) (by simp [intKind, Value.isInt]) (scm_map hs) ht ?_
  show wpAny _ _ (asInt? (.str ⟨#[92, c]⟩ t) >>= _) _ _ _
  refine wpAny_bind (wpAny_of_eq (a := none) rfl ?_)
  show wpAny _ _ (asStr? (.str ⟨#[92, c]⟩ t) >>= _) _ _ _
  refine wpAny_bind (wpAny_of_eq (a := some ⟨#[92, c]⟩) rfl ?_)
  exact wpAny_pure (hq _)
theorem tl_miss {c : Nat} {Q : Builtin.Str.Mapped → Shared → Prop} (hA : A.handled = none) (hc : c ∈ ([39, 47, 97, 100, 101] : List Nat)) (hs : s.heap.get? 100 = some scmO)
    (hq : ∀ h' tk, (∀ b o, s.heap.get? b = some o → h'.get? b = some o) → Q .keep { s with heap := h', toks := tk }) : wpAny (model prog w) A (Builtin.Str.tableLookup (.ref 100) c) Q E s := by
  have ht := scmF_miss c hc
  unfold Builtin.Str.tableLookup
  refine wpAny_bind (wpAny_attempt (wpAny_bind (wpAny_mkInt ?_)))
  refine wpAny_getItem_missing_of (knd := intKind prog w) (k := (c : Int)) (by simp [intKind, Value.isInt]) (by decide) hA (scm_map hs) ht fun h' e X => ?_
  obtain ⟨ob, t', h1, h2, _⟩ := X.there
  show wpAny _ _ (isInstance (.ref e) (.type "LookupError") >>= _) _ _ _
  refine wpAny_bind (wpAny_isInstance (T := "KeyError") (b := true) ⟨ob, h1, h2⟩ sub_key_lookup ?_)
  show wpAny _ _ (rule "str.translate.not-in-table" >>= fun _ => pure Builtin.Str.Mapped.keep) _ _ _
  exact wpAny_bind (wpAny_rule (wpAny_pure (hq _ _ X.keeps)))
theorem str_translate_hit {c : Nat} {t : Tok} {Q : Fin → Shared → Prop} (hc : c ∈ ([43, 45] : List Nat)) (hs : s.heap.get? 100 = some scmO) (hq : ∀ tk u, Q (.done (.ret (.str ⟨#[92, c]⟩ u))) { s with toks := tk }) :
    wpAny (model prog w) A (Builtin.«str.translate» ⟨[.str ⟨#[c]⟩ t, .ref 100], []⟩) Q E s := by
  have hall : (#[c].all fun x => decide (x < 128)) = true := by
    simp only [List.mem_cons, List.not_mem_nil, or_false] at hc
    rcases hc with rfl | rfl <;> decide +kernel
  have e1 : ((⟨#[92, c]⟩ : Str).length == 1 && (⟨#[92, c]⟩ : Str).cps.all fun x => decide (x < 128)) = false := by
    simp [Str.length]
  unfold Builtin.«str.translate»
  show wpAny _ _ (Builtin.Str.strOneArg "translate" ⟨[.str ⟨#[c]⟩ t, .ref 100], []⟩ >>= _) _ _ _
  refine wpAny_bind (wpAny_of_eq (a := (.str ⟨#[c]⟩ t, ⟨#[c]⟩, .ref 100)) rfl ?_)
  dsimp only
  rw [hall]
  show wpAny _ _ (forIn #[c] (([], 0, true, [], false) : List Str × Nat × Bool × List (Nat × Option Nat) × Bool) _ >>= _) _ _ _
  rw [← Array.forIn_toList]
  simp only [List.forIn_cons, List.forIn_nil]
  refine wpAny_bind ?_
  show wpAny _ _ ((Builtin.Str.tableLookup (.ref 100) c >>= _) >>= _) _ _ _
  refine wpAny_bind (wpAny_bind (tl_hit hc hs fun tk => ?_))
  simp only [e1, Bool.false_eq_true, if_false]
  refine wpAny_bind (wpAny_pure ?_)
  refine wpAny_bind (wpAny_rule ?_)
  refine wpAny_bind (tl_hit hc hs fun tk => ?_)
  refine wpAny_pure (wpAny_pure ?_)
  dsimp only
  rw [if_neg (by simp [Str.length, Builtin.Str.tooLong, sizeLine])]
  have e2 : (⟨List.foldl (fun acc (p : Str) => acc ++ p.cps) #[] [(⟨#[92, c]⟩ : Str)].reverse⟩ : Str) = ⟨#[92, c]⟩ := by simp
  rw [e2]
  exact wpAny_bind (wpAny_mkStr (wpAny_pure (hq _ _)) (by simp [Str.length, sizeLine]))
theorem str_translate_miss {c : Nat} {t : Tok} {Q : Fin → Shared → Prop} (hA : A.handled = none) (hc : c ∈ ([39, 47, 97, 100, 101] : List Nat)) (hs : s.heap.get? 100 = some scmO)
    (hq : ∀ h' tk u, (∀ b o, s.heap.get? b = some o → h'.get? b = some o) → Q (.done (.ret (.str ⟨#[c]⟩ u))) { s with heap := h', toks := tk }) :
    wpAny (model prog w) A (Builtin.«str.translate» ⟨[.str ⟨#[c]⟩ t, .ref 100], []⟩) Q E s := by
  have hall : (#[c].all fun x => decide (x < 128)) = true := by
    simp only [List.mem_cons, List.not_mem_nil, or_false] at hc
    rcases hc with rfl | rfl | rfl | rfl | rfl <;> decide +kernel
  unfold Builtin.«str.translate»
  show wpAny _ _ (Builtin.Str.strOneArg "translate" ⟨[.str ⟨#[c]⟩ t, .ref 100], []⟩ >>= _) _ _ _
  refine wpAny_bind (wpAny_of_eq (a := (.str ⟨#[c]⟩ t, ⟨#[c]⟩, .ref 100)) rfl ?_)
  dsimp only
  rw [hall]
  show wpAny _ _ (forIn #[c] (([], 0, true, [], false) : List Str × Nat × Bool × List (Nat × Option Nat) × Bool) _ >>= _) _ _ _
  rw [← Array.forIn_toList]
  simp only [List.forIn_cons, List.forIn_nil]
  refine wpAny_bind ?_
  show wpAny _ _ ((Builtin.Str.tableLookup (.ref 100) c >>= _) >>= _) _ _ _
  refine wpAny_bind (wpAny_bind (tl_miss hA hc hs fun h' tk k => ?_))
  dsimp only
  refine wpAny_bind (wpAny_pure ?_)
  refine wpAny_pure (wpAny_pure ?_)
  dsimp only
  rw [if_neg (by simp [Str.length, Builtin.Str.tooLong, sizeLine])]
  have e2 : (⟨List.foldl (fun acc (p : Str) => acc ++ p.cps) #[] [(⟨#[c]⟩ : Str)].reverse⟩ : Str) = ⟨#[c]⟩ := by simp
  rw [e2]
  exact wpAny_bind (wpAny_mkStr (wpAny_pure (hq _ _ _ k)) (by simp [Str.length, sizeLine]))
end
end Mine

set_option maxRecDepth 100000
namespace Mine
open Calls
open Sem (wp)
namespace OF
open PySem.F
theorem lookup_object_new : typeLookup (.type "object") "__new__" = pure (some (.builtin "object.__new__")) := by rw [typeLookup_type, builtinLookup_eq_fast]; kernel_rfl
theorem called_object : TypeCalled "object" "object.__new__" "object.__init__" :=
  ⟨by decide +kernel, by decide +kernel, ⟨_, _, mro_object⟩, madeBy_type mro_object lookup_object_new (by decide +kernel), by decide +kernel, by rw [isSubtype_type]; kernel_rfl, slot_object_init⟩
theorem typeCall_object_0 : checkTypeCall "object" ⟨[], []⟩ = pure () := by kernel_rfl
theorem newCall_object_0 : checkBuiltinCall "object.__new__" ⟨[.type "object"], []⟩ = pure () := by kernel_rfl
theorem madeHere_object : Bind.madeHere "object.__new__" (.type "object") = pure () := by
  have := called_object.made
  unfold Bind.madeHere
  kernel_rfl
end OF
noncomputable abbrev objO : Obj := { cls := .type "object", data := .plain }
theorem meets_object_new : Meets (Builtin.«object.__new__» ⟨[.type "object"], []⟩) (fun _ R s => R (.ok (.ret (.ref s.heap.objs.size))) { s with heap := s.heap.push objO }) :=
  .of_wp fun prog w A R s h => by
    obtain ⟨hp, g, d, tk, os⟩ := s
    have h1 := OF.madeHere_object
    have h2 : ((Manifest.find? "object").elim false (·.mro.any fun t => (Manifest.find? t).elim false (·.noNew))) = false := by decide +kernel
    have h3 : typeHasDict (.type "object") = false := by decide +kernel
    unfold Builtin.«object.__new__»
    dsimp only
    wp_walk using wpAny_pure rfl
    exact ⟨_, rfl, h⟩
section
variable {x : Cx} {m : Loc} {n : Mut} {P : SV → Mut → Prop} {pos : Pos}
theorem CL_object (h : P .objv n) : CL x m n (.ty "object") [] P := fun s fz as vf vs I hf ha => by
  simp only [SV.At] at hf; subst hf
  simp only [SV.AtL] at ha; subst ha
  refine callType_meets (Q₁ := fun obj s₁ => s₁.TypeIs obj "object" ∧ Post x m fz as P obj s₁) OF.called_object OF.typeCall_object_0 OF.newCall_object_0 F.entry_object_new F.entry_object_init meets_object_new ?_ fun obj s1 h1 =>
    ⟨h1.1, F.args_object_init_1 obj, fun _ R s => R (.ok (.ret .none)) s, .of_wp fun prog w A R s h => wpAny_pure ⟨_, rfl, h⟩, rfl, h1.2⟩
  obtain ⟨J, le⟩ := I.freeze objO rfl
  refine ⟨⟨_, Heap.get?_push_size _ rfl, rfl⟩, .objv, n, _, as, h, le, List.prefix_refl _, J, ?_⟩
  simp only [SV.At]
  exact ⟨_, objO, rfl, Frz.add_self _ _ _, rfl, rfl⟩
theorem OP2_iadd_int {a b : Int} (h : P (.int (a + b)) n) : OP2 x m n (.int a) (.int b) (inplaceOp .Add) P := fun s fz as va vb I ha hb => by
  simp only [SV.At] at ha hb; obtain ⟨t, rfl⟩ := ha; obtain ⟨u, rfl⟩ := hb
  exact PySem.P.iadd_int ((I.toks _).post (at_int _) h)
noncomputable def escL (c : Nat) : List Nat := if c ∈ ([43, 45] : List Nat) then [92, c] else [c]
noncomputable def patC : List Nat := [43, 45, 39, 47, 97, 100, 101]
theorem CL_translate {c : Nat} (hA : x.A.handled = none) (hc : c ∈ patC) (h : P (.str (escL c)) n) : CL x m n (.bi "str.translate") [.str [c], .fn 100] P := fun s fz as vf vs I hf ha => by
  simp only [SV.At] at hf; subst hf
  simp only [SV.AtL, SV.At] at ha; obtain ⟨_, _, rfl, ⟨t, rfl⟩, _, _, rfl, rfl, rfl⟩ := ha
  refine wpAny_call_entry F.slot_str_translate (typeIs_str _ _ _) F.entry_str_translate ?_ (F.args_str_translate_2 _ _)
  have hs := I.st.scm
  by_cases hk : c ∈ ([43, 45] : List Nat)
  · rw [escL, if_pos hk] at h
    exact str_translate_hit hk hs fun tk u => ⟨_, rfl, (I.toks tk).post (sv := .str [92, c]) (by simp only [SV.At]; exact ⟨u, rfl⟩) h⟩
  · rw [escL, if_neg hk] at h
    refine str_translate_miss (A := x.A.in1) hA ((by decide : ∀ c ∈ patC, c ∉ ([43, 45] : List Nat) → c ∈ ([39, 47, 97, 100, 101] : List Nat)) c hc hk) hs fun h' tk u k => ⟨_, rfl, (I.extK k tk).post (sv := .str [c]) (by simp only [SV.At]; exact ⟨u, rfl⟩) h⟩
theorem str_app {a b : List Nat} : (⟨⟨a⟩⟩ : Str) ++ (⟨⟨b⟩⟩ : Str) = ⟨⟨a ++ b⟩⟩ := by rw [app_eq]
theorem EV_fstr {y a b : Str} {p1 p2 p3 np : Pos} {k k' : Nat} (h : EV x m n (.Name y np) (fun r n1 => ∃ s, r = .str s ∧ s.length ≤ 100000 ∧ P (.str (a.cps.toList ++ s ++ b.cps.toList)) n1)) (hl : (Nat.ble a.cps.toList.length 60 && Nat.ble b.cps.toList.length 60) = true) :
    EV x m n (.JoinedStr [.Constant (.str a) k p1, .FormattedValue (.Name y np) (-1) none p2, .Constant (.str b) k' p3] pos) P := fun s fz as I => by
  simp only [Bool.and_eq_true, Nat.ble_eq] at hl
  have hz : ∀ l : List Nat, l.length ≤ 1000000 → (⟨⟨l⟩⟩ : Str).length ≤ sizeLine := fun l hl => Nat.le_trans (show l.length ≤ 1000000 from hl) (by decide)
  have ea : a = ⟨⟨a.cps.toList⟩⟩ := rfl
  have eb : b = ⟨⟨b.cps.toList⟩⟩ := rfl
  generalize a.cps.toList = la at ea h hl
  generalize b.cps.toList = lb at eb h hl
  subst ea; subst eb
  have e0 : Str.empty ++ (⟨⟨la⟩⟩ : Str) = ⟨⟨la⟩⟩ := by rw [show Str.empty = (⟨⟨[]⟩⟩ : Str) from rfl, str_app]; rfl
  refine JoinedStr_many (joinParts_cons (Constant_str ?_))
  dsimp only
  rw [e0]
  refine ⟨hz _ (by omega), joinParts_cons (FormattedValue_plain (wpAny_mono (h _ fz as (I.toks _)) (fun v s1 q => ?_) fun _ _ z => no z))⟩
  obtain ⟨_, n1, fz1, as1, ⟨r, rfl, hr, hP⟩, le1, p1, I1, at1⟩ := q
  simp only [SV.At] at at1
  obtain ⟨t, rfl⟩ := at1
  refine formatField_str (fun t' tk => ?_) (hz _ (by omega))
  dsimp only
  rw [str_app]
  refine ⟨hz _ (by rw [List.length_append]; omega), joinParts_cons (Constant_str ?_)⟩
  dsimp only
  rw [str_app]
  refine ⟨hz _ (by simp only [List.length_append]; omega), joinParts_nil ?_ (hz _ (by simp only [List.length_append]; omega))⟩
  exact ⟨_, n1, fz1, as1, hP, le1, p1, ((I1.toks _).toks _).toks _, at_str _⟩
end
end Mine

namespace Mine
open Calls
theorem ints_at {fz : Frz} {as : List Addr} : ∀ {xs : List Int} {l : List Value}, SV.AtL fz as (xs.map .int) l → ∃ ts : List (Int × Tok), ts.map (·.1) = xs ∧ l = ts.map fun p => .int p.1 p.2
  | [], l, h => by simp only [List.map_nil, SV.AtL] at h; subst h; exact ⟨[], rfl, rfl⟩
  | x :: xs, l, h => by
    simp only [List.map_cons, SV.AtL, SV.At] at h
    obtain ⟨v, r, rfl, ⟨t, rfl⟩, h⟩ := h
    obtain ⟨ts, h1, h2⟩ := ints_at h
    exact ⟨(x, t) :: ts, by simp [h1], by simp [h2]⟩
section
variable {x : Cx} {m : Loc} {n : Mut} {P : SV → Mut → Prop}
theorem CL_sum {xs : List Int} (hA : x.A.handled = none) (h : P (.int xs.sum) n) : CL x m n (.bi "sum") [.list (xs.map .int)] P := fun s fz as vf vs I hf ha => by
  simp only [SV.At] at hf; subst hf
  simp only [SV.AtL, SV.At] at ha; obtain ⟨_, _, rfl, ⟨a, l, ep, rfl, e, hl⟩, rfl⟩ := ha
  obtain ⟨ts, rfl, rfl⟩ := ints_at hl
  have hL : s.heap.IsList a (intItems ⟨ts⟩) := ⟨_, I.frz _ _ e, rfl, ep, by simp [intItems]⟩
  refine sum_intListG hA hL fun h' tk t' k => ?_
  have e2 : preSum (numAt ⟨ts⟩) (⟨ts⟩ : Array (Int × Tok)).size = (ts.map (·.1)).sum := by
    rw [preSum_eq, List.take_of_length_le (by simp)]
  rw [e2]
  exact (I.extK k tk).post (at_int _) h
theorem OP2_in_str {a b : List Nat} (h : P (.bool !(Builtin.Str.occurrences ⟨⟨b⟩⟩ ⟨⟨a⟩⟩ 0 b.length 1).isEmpty) n) : OP2 x m n (.str a) (.str b) (compareOp .In) P := fun s fz as va vb I ha hb => by
  simp only [SV.At] at ha hb; obtain ⟨t, rfl⟩ := ha; obtain ⟨u, rfl⟩ := hb
  exact in_str (x := ⟨⟨b⟩⟩) (y := ⟨⟨a⟩⟩) (I.post at_bool h)
theorem OP2_inE {a b : List Nat} {t : Bool} (he : (!(Builtin.Str.occurrences ⟨⟨b⟩⟩ ⟨⟨a⟩⟩ 0 b.length 1).isEmpty) = t) (h : P (.bool t) n) : OP2 x m n (.str a) (.str b) (compareOp .In) P := OP2_in_str (by rw [he]; exact h)
end
end Mine

open Mine
local macro_rules | `(tactic| walk_at "b") => `(tactic| repeat (first | with_reducible exact cut_len _ _ _ | with_reducible exact noteL_len (by omega) | with_reducible refine' app_bnd ?_ ?_ | exact Nat.le_refl _))
local macro_rules | `(tactic| walk_at "e") => `(tactic| repeat (first | with_reducible exact List.mem_cons_self | with_reducible refine List.mem_cons_of_mem _ ?_))
local macro_rules | `(tactic| walk_at "o") => `(tactic| first | omega | (simp only [List.length_append, List.length_cons, List.length_nil, List.length_map] at *; omega) | decide)
local macro_rules | `(tactic| walk_at "m") => `(tactic| first
  | with_reducible (first | refine EX_cons ?_ | refine EX_nil ?_ | refine ES_if ?_ | refine ES_return ?_ | refine ES_assert ?_ | refine TS_not' ?_ | refine TS_or' ?_ | refine TS_and' ?_ | refine TS_or_nil ?_ | refine TS_and_nil ?_ | refine EV_or ?_ | refine EV_bo_one ?_ | refine ES_continue ?_ | refine ES_break ?_ | refine ES_pass ?_ | refine ES_try ?_ | refine EV_int ?_ | refine EV_bool ?_ | refine EV_none ?_ | refine EV_binop ?_ | refine EV_un ?_ | refine EV_sub ?_ | refine EV_slice ?_ | refine EV_list1 ?_ | refine EV_tuple ?_ | refine OP2_add_int ?_ | refine OP2_sub_int ?_ | refine OP2_lt_int ?_ | refine OP2_le_int ?_ | refine OP2_gt_int ?_ | refine OP2_ge_int ?_ | refine OP2_eq_int ?_ | refine OP1_neg_int ?_ | refine OP2_eq_str ?_ | refine OP2_is_none_str ?_ | refine OP2_isnot_objv ?_ | refine OP2_is_objv ?_ | refine CL_type_str ?_ | refine CL_type_tup ?_ | refine CL_isi_str ?_ | refine CL_isi_bytes ?_ | refine CL_issub ?_ | refine CL_startswith ?_ | refine CL_endswith ?_ | refine OP2_ne_str ?_ | refine EVs_nil ?_)
  | ((with_reducible (first | refine' TS_cmp ?h ?r | refine' TS_plain ?r ?h | refine' EV_cmp ?h ?r | refine' EV_call ?h ?r | refine' EVs_cons ?h ?r)); (case r => rfl))
  | ((with_reducible refine' ES_assign ?h ?r ?r2 ?r3 ?r4); (case r | r2 | r3 | r4 => rfl))
  | ((with_reducible refine' ES_aug ?hm ?hu ?r ?r2 ?r3 ?h); (case hm => walk_at "e"); (case hu => exact fun e => nomatch e); (case r | r2 | r3 => rfl))
  | ((with_reducible refine' ES_expr ?h ?r ?r2); (case r | r2 => rfl))
  | ((with_reducible refine' EV_meth ?h ?r ?r2 ?r3); (case r | r2 | r3 => rfl))
  | ((with_reducible refine' meth_intro ?hm ?h); (case hm => constructor))
  | ((with_reducible refine' EV_loc ?hm ?hu ?h ?r ?r2 ?hd ?r3); (case hm => walk_at "e"); (case hu => exact fun e => nomatch e); (case hd => decide); (case r | r2 | r3 => rfl))
  | ((with_reducible refine' EV_cell ?hm ?hu ?h ?r ?hl ?hd ?r2); (case hm => walk_at "e"); (case hu => exact fun e => nomatch e); (case hl => (first | exact .inl rfl | exact .inr ⟨rfl, rfl⟩)); (case hd => decide); (case r | r2 => rfl))
  | ((with_reducible refine' EV_glob ?hm ?r ?h ?r2 ?r3 ?r4 ?hd); (case hm => (show _ ∈ GL); unfold GL; walk_at "e"); (case hd => decide); (case r | r2 | r3 | r4 => rfl))
  | ((with_reducible refine' EV_blt ?hm ?r ?h ?r2 ?r3 ?r4 ?r5 ?hd); (case hm => (show _ ∈ BL); unfold BL; walk_at "e"); (case hd => decide); (case r | r2 | r3 | r4 | r5 => rfl))
  | ((with_reducible refine' EV_strL ?r ?h); (case r => rfl); (case' h => intro _))
  | ((with_reducible refine' OP2_div_int ?hb ?hp ?h); (case hb => decide); (case hp => rfl))
  | ((with_reducible refine' OP2_mod_int ?hb ?h); (case hb => decide))
  | ((with_reducible refine' OP2_mul_lit ?r ?h0 ?hk ?h); (case r => rfl); (case h0 | hk => omega))
  | ((with_reducible (first | refine' OP2_add_list ?hs ?h | refine' OP2_iadd_str ?h ?hs | refine' OP2_cut_str ?hs ?h | refine' CL_len_str ?hs ?h)); (case hs => walk_at "o"))
  | ((with_reducible refine' OP2_add_str ?h ?hs); (case hs => (first | walk_at "o" | (refine' add_bnd ?hp ?hq ?hpq; (case hp | hq => walk_at "b"); (case hpq => omega)))))
  | ((with_reducible refine' OP2_is_ty (r := true) ?hr ?h); (case hr => decide))
  | ((with_reducible refine' OP2_is_ty (r := false) ?hr ?h); (case hr => decide))
  | ((with_reducible refine' OP2_isnot_ty (r := true) ?hr ?h); (case hr => decide))
  | ((with_reducible refine' OP2_isnot_ty (r := false) ?hr ?h); (case hr => decide))
  | ((with_reducible refine' CL_split ?hb ?hs ?h); (case hb => (intro e; cases e)); (case hs => walk_at "o"))
  | ((with_reducible refine' TR_mlD ?r ?hs ?h1 ?h2); (case r => rfl); (case hs => walk_at "o"); (case' h1 | h2 => intro _); (all_goals try contradiction))
  | ((with_reducible refine' CL_append ?r ?hs ?h); (case r => rfl); (case hs => walk_at "o"))
  | ((with_reducible (first | refine TR_dec ?_ ?_ | refine TR_ndec ?_ ?_)) <;> intro _)
  | with_reducible (first | refine TR_true ?_ | refine TR_false ?_)
  | ((with_reducible refine TR_boolD ?_ ?_) <;> intro _)
  | ((with_reducible refine' TR_strD ?hs ?h1 ?h2); (case hs => walk_at "o"); (case' h1 | h2 => intro _); (all_goals try contradiction))
  | ((with_reducible refine' put_intro ?hp ?h); (case hp => (repeat (first | with_reducible exact Put.head | with_reducible apply Put.tail))))
  | (refine ⟨rfl, ?_⟩)
  | (with_reducible refine ⟨Nat.le_of_ble_eq_true rfl, ?_⟩)
  | ((show Part _ _ _ none _); dsimp only [Part])
  | ((show Part _ _ _ (some _) _); dsimp only [Part])
  | (refine ⟨_, rfl, ?_⟩)
  | dsimp only [KSeq, KBody])

namespace Mine
open Calls
theorem con_fspath (s : List Nat) : Con (.fn 197) [.str s] (.str s) 1 := by
  refine con_fnX e_fspath (by simp [FL]) ["path"] [("path", .str s), ("kind", .unset)] (by decide) rfl (.plain rfl (fun vs h => match vs, h with | [a], _ => rfl)) ?_ (by simp only [List.map]; decide) rfl (by decide +kernel) (fun y hy L => by rfl) rfl rfl rfl ?_
  · intro y hy; simp at hy ⊢; rcases hy with rfl | rfl <;> simp
  · intro w A L base fz os R
    refine EX_cons ?_
    repeat' walk_at "m"
    exact rfl
theorem con_get_sep (s : List Nat) : Con (.fn 211) [.str s] (.str [47]) 1 := by
  refine con_fnX e_get_sep (by simp [FL]) ["path"] [("path", .str s)] (by decide) rfl (.plain rfl (fun vs h => match vs, h with | [a], _ => rfl)) ?_ (by simp only [List.map]; decide) rfl (by decide +kernel) (fun y hy L => by rfl) rfl rfl rfl ?_
  · intro y hy; simp at hy ⊢; rcases hy with rfl; simp
  · intro w A L base fz os R
    refine EX_cons ?_
    repeat' walk_at "m"
    exact rfl
/-- what is behind the last slash -/
theorem con_basename (a b : List Nat) (hb : 47 ∉ b) (hs : a.length + b.length ≤ 100000) : Con (.fn 232) [.str (a ++ 47 :: b)] (.str b) 2 := by
  refine con_fnX e_basename (by simp [FL]) ["p"] [("p", .str (a ++ 47 :: b)), ("sep", .unset), ("i", .unset)] (by decide) rfl (.plain rfl (fun vs h => match vs, h with | [a], _ => rfl)) ?_ (by simp only [List.map]; decide) rfl (by decide +kernel) (fun y hy L => by rfl) rfl rfl rfl ?_
  · intro y hy; simp at hy ⊢; rcases hy with rfl | rfl | rfl <;> simp
  · intro w A L base fz os R
    refine EX_cons ?_
    repeat' walk_at "m"
    refine CL_con (con_fspath _) R rfl rfl ?_
    repeat' walk_at "m"
    refine CL_con (con_get_sep _) R rfl rfl ?_
    repeat' walk_at "m"
    refine CL_rfind hb ?_
    repeat' walk_at "m"
    refine ⟨?_, rfl⟩
    rw [cut_from _ (by omega)]
    have : ((a.length : Int) + 1).toNat = a.length + 1 := by omega
    rw [this]
    simp [out]
theorem con_splitroot (r : List Nat) (h2 : r.head? ≠ some 47) (hs : r.length ≤ 100000) : Con (.fn 225) [.str (47 :: r)] (.tup [.str [], .str [47], .str r]) 2 := by
  refine con_fnX e_splitroot (by simp [FL]) ["p"] [("p", .str (47 :: r)), ("sep", .unset), ("empty", .unset)] (by decide) rfl (.plain rfl (fun vs h => match vs, h with | [a], _ => rfl)) ?_ (by simp only [List.map]; decide) rfl (by decide +kernel) (fun y hy L => by rfl) rfl rfl rfl ?_
  · intro y hy; simp at hy ⊢; rcases hy with rfl | rfl | rfl <;> simp
  · intro w A L base fz os R
    refine EX_cons ?_
    repeat' walk_at "m"
    refine CL_con (con_fspath _) R rfl rfl ?_
    repeat' walk_at "m"
    all_goals simp only [cut_to _ (show (0:Int) ≤ 1 by decide), cut_from _ (show (0:Int) ≤ 1 by decide), cut_mid _ (show (0:Int) ≤ 1 by decide) (show (0:Int) ≤ 2 by decide), cut_mid _ (show (0:Int) ≤ 2 by decide) (show (0:Int) ≤ 3 by decide)] at *
    all_goals have e47 : (Str.ofString "/").cps.toList = [47] := rfl
    all_goals have t1 : Int.toNat 1 = 1 := rfl
    all_goals have t2 : Int.toNat 2 = 2 := rfl
    all_goals simp only [e47, t1, t2] at *
    all_goals first
      | exact ⟨rfl, rfl⟩
      | (exfalso; revert h2; cases r <;> simp_all)
noncomputable def joinL (p q : List Nat) : List Nat := if startsL q [47] || decide (p = []) then q else if endsL p [47] then p ++ q else p ++ ([47] ++ q)
theorem joinL_len (p q : List Nat) : (joinL p q).length ≤ p.length + (q.length + 1) := by
  unfold joinL; split
  · omega
  · split <;> simp <;> omega
theorem fold_len (qs : List (List Nat)) : ∀ p : List Nat, (qs.foldl joinL p).length ≤ p.length + (qs.map (·.length + 1)).sum := by
  induction qs with
  | nil => intro p; simp
  | cons q r ih =>
    intro p
    have h1 := ih (joinL p q)
    have h2 := joinL_len p q
    simp only [List.foldl_cons, List.map_cons, List.sum_cons]; omega
theorem fold_bound {qs : List (List Nat)} {p q : List Nat} {i : Nat} (h : qs[i]? = some q) : (List.foldl joinL p (qs.take i)).length + (q.length + 1) ≤ p.length + (qs.map (·.length + 1)).sum := by
  have h1 := fold_len (qs.take i) p
  have h2 : (qs.map (·.length + 1)).sum = ((qs.take (i + 1)).map (·.length + 1)).sum + ((qs.drop (i + 1)).map (·.length + 1)).sum := by rw [← List.sum_append, ← List.map_append, List.take_append_drop]
  rw [take_succ_get h, List.map_append, List.sum_append] at h2
  simp only [List.map_cons, List.map_nil, List.sum_cons, List.sum_nil] at h2; omega
theorem con_join (p : List Nat) (qs : List (List Nat)) (hq : qs.length = 3) (hs : p.length + (qs.map (·.length + 1)).sum ≤ 100000) : Con (.fn 218) (.str p :: qs.map .str) (.str (qs.foldl joinL p)) 2 := by
  refine con_fnX e_join (by simp [FL]) (([("a" : Str)] : List Str) ++ [("p" : Str)]) [("a", .str p), ("p", .tup (qs.map .str)), ("sep", .unset), ("path", .unset), ("b", .unset)] (by decide) rfl
    (.var (k := 1) rfl (by simp) (by simp; omega) (fun vs h => match vs, (show vs.length = 4 by simpa [hq] using h) with | [a, b, c, d], _ => rfl)) ?_ (by simp only [List.map]; decide) rfl (by decide +kernel) (fun y hy L => by rfl) rfl rfl rfl ?_
  · intro y hy; simp at hy ⊢; rcases hy with rfl | rfl | rfl | rfl | rfl <;> simp
  · intro w A L base fz os R
    have hA : A.handled = none := R.1
    refine EX_cons ?_
    repeat' walk_at "m"
    refine CL_con (con_fspath _) R rfl rfl ?_
    repeat' walk_at "m"
    refine CL_con (con_get_sep _) R rfl rfl ?_
    repeat' walk_at "m"
    refine ES_for hA rfl rfl rfl ?_
    repeat' walk_at "m"
    refine ⟨_, .tup, fun (i : Nat) (m : Loc) (n : Mut) => n = [] ∧ m = ([("a", .str p), ("p", .tup (qs.map .str)), ("sep", .str [47]), ("path", .str ((qs.take i).foldl joinL p)), ("b", .unset)] : Loc), ⟨rfl, rfl⟩, ?_, ?_⟩
    · rintro i a ha m n ⟨rfl, rfl⟩
      simp only [List.getElem?_map, Option.map_eq_some_iff] at ha
      obtain ⟨q, hqi, rfl⟩ := ha
      have hfb := fold_bound (p := p) hqi
      refine put_intro (by repeat (first | exact Put.head | apply Put.tail)) ?_
      refine EX_cons ?_
      repeat' walk_at "m"
      refine CL_con (con_fspath _) R rfl rfl ?_
      repeat' walk_at "m"
      all_goals
        have E : List.foldl joinL p (qs.take (i + 1)) = joinL (List.foldl joinL p (qs.take i)) q := by rw [take_succ_get hqi, List.foldl_append]; rfl
        rw [E]
        refine ⟨_, ?_, rfl, rfl⟩
        simp only [joinL, *, Bool.true_or, Bool.false_or, if_true, decide_true, decide_false, Bool.false_eq_true, if_false]
        repeat (first | exact Wk.nil | apply Wk.same | apply Wk.drop)
    · rintro m n ⟨rfl, rfl⟩
      repeat' walk_at "m"
      refine ⟨?_, rfl⟩
      simp [out]
end Mine

namespace Mine
open Calls
noncomputable def normStep (acc : List (List Nat)) (c : List Nat) : List (List Nat) :=
  if c = [] ∨ c = [46] then acc else if c ≠ [46, 46] ∨ acc.getLast? = some [46, 46] then acc ++ [c] else acc.dropLast
theorem normStep_len (acc : List (List Nat)) (c : List Nat) : (normStep acc c).length ≤ acc.length + 1 := by
  unfold normStep; split
  · omega
  · split <;> simp <;> omega
theorem normFold_len (cs : List (List Nat)) : ∀ acc, (cs.foldl normStep acc).length ≤ acc.length + cs.length := by
  induction cs with
  | nil => intro acc; simp
  | cons c r ih => intro acc; have h1 := ih (normStep acc c); have h2 := normStep_len acc c; simp only [List.foldl_cons, List.length_cons]; omega
theorem normStep_sum (acc : List (List Nat)) (c : List Nat) : ((normStep acc c).map (·.length + 1)).sum ≤ (acc.map (·.length + 1)).sum + (c.length + 1) := by
  unfold normStep; split
  · omega
  · split
    · simp
    · rcases List.eq_nil_or_concat acc with rfl | ⟨ys, z, rfl⟩ <;> simp <;> omega
theorem normFold_sum (cs : List (List Nat)) : ∀ acc, ((cs.foldl normStep acc).map (·.length + 1)).sum ≤ (acc.map (·.length + 1)).sum + (cs.map (·.length + 1)).sum := by
  induction cs with
  | nil => intro acc; simp
  | cons c r ih => intro acc; have h1 := ih (normStep acc c); have h2 := normStep_sum acc c; simp only [List.foldl_cons, List.map_cons, List.sum_cons]; omega

theorem sum_mem {qs : List (List Nat)} {q : List Nat} {i : Nat} (h : qs[i]? = some q) : q.length + 1 ≤ (qs.map (·.length + 1)).sum := by
  have h2 : (qs.map (·.length + 1)).sum = ((qs.take (i + 1)).map (·.length + 1)).sum + ((qs.drop (i + 1)).map (·.length + 1)).sum := by rw [← List.sum_append, ← List.map_append, List.take_append_drop]
  rw [take_succ_get h, List.map_append, List.sum_append] at h2
  simp only [List.map_cons, List.map_nil, List.sum_cons, List.sum_nil] at h2; omega

theorem joinS_len (c : Nat) : ∀ l : List (List Nat), (joinS [c] l).length ≤ (l.map (·.length + 1)).sum
  | [] => by simp [joinS]
  | [x] => by simp [joinS]
  | x :: y :: r => by
    have := joinS_len c (y :: r)
    simp only [joinS, List.length_append, List.map_cons, List.sum_cons, List.length_cons, List.length_nil] at this ⊢; omega
theorem con_normpath (cs : List (List Nat)) (hne : cs ≠ []) (hc : ∀ c ∈ cs, 47 ∉ c) (h1 : (joinS [47] cs).head? ≠ some 47) (hl : cs.length ≤ 1000) (hs : (joinS [47] cs).length ≤ 90000) (hsum : (cs.map (·.length + 1)).sum ≤ 90000) :
    Con (.fn 239) [.str (47 :: joinS [47] cs)] (.str (47 :: joinS [47] (cs.foldl normStep []))) 3 := by
  refine con_fnX e_normpath (by simp [FL]) ["path"] [("path", .str (47 :: joinS [47] cs)), ("sep", .unset), ("dot", .unset), ("dotdot", .unset), ("_", .unset), ("initial_slashes", .unset), ("comps", .unset), ("new_comps", .unset), ("comp", .unset)] (by decide) rfl (.plain rfl (fun vs h => match vs, h with | [a], _ => rfl)) ?_ (by simp only [List.map]; decide) rfl (by decide +kernel) (fun y hy L => by rfl) rfl rfl rfl ?_
  · intro y hy; simp at hy ⊢; rcases hy with rfl | rfl | rfl | rfl | rfl | rfl | rfl | rfl | rfl <;> simp
  · intro w A L base fz os R
    have hA : A.handled = none := R.1
    refine EX_cons ?_
    repeat' walk_at "m"
    refine CL_con (con_fspath _) (R.le (by decide)) rfl rfl ?_
    repeat' walk_at "m"
    refine ES_tup (ys := ["_", "initial_slashes", "path"]) hA rfl (by repeat constructor) rfl rfl (fun y hy => by simp at hy; rcases hy with rfl | rfl | rfl <;> exact .inl ⟨rfl, rfl⟩) rfl rfl ?_
    repeat' walk_at "m"
    refine CL_con (con_splitroot _ h1 (by omega)) (R.le (by decide)) rfl rfl ?_
    refine ⟨_, .tup, rfl, _, .cons (by repeat (first | exact Put.head | apply Put.tail)) (.cons (by repeat (first | exact Put.head | apply Put.tail)) (.cons (by repeat (first | exact Put.head | apply Put.tail)) .nil)), ?_⟩
    repeat' walk_at "m"
    refine EV_mlist ?_
    repeat' walk_at "m"
    refine ES_for hA rfl rfl rfl ?_
    repeat' walk_at "m"
    rw [show splitL (joinS [47] cs) (Str.ofString "/").cps.toList = cs from split_one hne hc]
    refine ⟨_, .list, fun (i : Nat) (m : Loc) (n : Mut) => n = [((cs.take i).foldl normStep []).map .str] ∧ (m : Loc) = ([("path", .str (joinS [47] cs)), ("sep", .str [47]), ("dot", .str [46]), ("dotdot", .str [46, 46]), ("_", .str []), ("initial_slashes", .str [47]), ("comps", .list (cs.map .str)), ("new_comps", .ml 0), ("comp", .unset)] : Loc), ⟨rfl, rfl⟩, ?_, ?_⟩
    · rintro i a ha m n ⟨rfl, rfl⟩
      simp only [List.getElem?_map, Option.map_eq_some_iff] at ha
      obtain ⟨q, hqi, rfl⟩ := ha
      have hq1 : q.length ≤ 100000 := by have := sum_mem hqi; omega
      have hlen : ((cs.take i).foldl normStep []).length ≤ 1000 := by
        have := normFold_len (cs.take i) []
        simp at this; omega
      have E : (cs.take (i + 1)).foldl normStep [] = normStep ((cs.take i).foldl normStep []) q := by rw [take_succ_get hqi, List.foldl_append]; rfl
      try dsimp only
      rw [E]
      generalize (cs.take i).foldl normStep [] = acc at hlen ⊢
      refine put_intro (by repeat (first | exact Put.head | apply Put.tail)) ?_
      refine EX_cons ?_
      have hdd : (Str.ofString "..").cps.toList = [46, 46] := rfl
      rcases List.eq_nil_or_concat acc with rfl | ⟨ys, z, rfl⟩
      · repeat' walk_at "m"
        all_goals
          refine ⟨_, ?_, ?_, rfl⟩
          · repeat (first | exact Wk.nil | apply Wk.same | apply Wk.drop)
          · simp [normStep, *]
      · simp only [List.concat_eq_append, List.map_append, List.map_cons, List.map_nil, List.length_append, List.length_cons, List.length_nil] at hlen ⊢
        repeat' walk_at "m"
        all_goals try (refine OP2_last_ml rfl (by simp only [List.length_map]; omega) ?_; repeat' walk_at "m")
        all_goals try (refine CL_pop (xs := ys.map .str) (a := .str z) rfl (by simp only [List.length_map]; omega) ?_; repeat' walk_at "m")
        all_goals try (simp at *; done)
        all_goals
          refine ⟨_, ?_, ?_, rfl⟩
          · repeat (first | exact Wk.nil | apply Wk.same | apply Wk.drop)
          · simp [normStep, *]
    · rintro m n ⟨rfl, rfl⟩
      repeat' walk_at "m"
      have hsum2 := normFold_sum cs []
      have hnl := normFold_len cs []
      simp only [List.length_map, List.take_length]
      refine CL_join_ml rfl (by simp at hsum2 ⊢; omega) ?_
      have hj := joinS_len 47 (List.foldl normStep [] cs)
      have hj2 : (joinS [47] (List.foldl normStep [] cs)).length ≤ 90000 := by simp at hsum2; omega
      repeat' walk_at "m"
      exact rfl
end Mine

namespace Mine
theorem joinS_snoc (s : List Nat) : ∀ (cs : List (List Nat)) (x : List Nat), cs ≠ [] → joinS s (cs ++ [x]) = joinS s cs ++ s ++ x
  | [], _, h => absurd rfl h
  | [a], x, _ => rfl
  | a :: b :: r, x, _ => by
    have := joinS_snoc s (b :: r) x (by simp)
    show a ++ s ++ joinS s ((b :: r) ++ [x]) = (a ++ s ++ joinS s (b :: r)) ++ s ++ x
    rw [this]; simp
theorem joinS_last {cs : List (List Nat)} (h : cs ≠ []) (hc : ∀ c ∈ cs, c ≠ [] ∧ 47 ∉ c) : ∃ p y, joinS [47] cs = p ++ [y] ∧ y ≠ 47 := by
  rcases List.eq_nil_or_concat cs with rfl | ⟨ys, z, rfl⟩
  · exact absurd rfl h
  · rw [List.concat_eq_append] at *
    obtain ⟨h1, h2⟩ := hc z (by simp)
    rcases List.eq_nil_or_concat z with rfl | ⟨q, y, rfl⟩
    · exact absurd rfl h1
    · rw [List.concat_eq_append] at *
      have hy : y ≠ 47 := fun e => h2 (by simp [e])
      by_cases hys : ys = []
      · subst hys; exact ⟨q, y, rfl, hy⟩
      · rw [joinS_snoc _ _ _ hys]; exact ⟨joinS [47] ys ++ [47] ++ q, y, by simp, hy⟩
theorem joinL_app {cs : List (List Nat)} {x : List Nat} (hc : ∀ c ∈ cs, c ≠ [] ∧ 47 ∉ c) (hx : x ≠ [] ∧ 47 ∉ x) : joinL (47 :: joinS [47] cs) x = 47 :: joinS [47] (cs ++ [x]) := by
  unfold joinL
  have h1 : startsL x [47] = false := by
    obtain ⟨h1, h2⟩ := hx
    cases x with
    | nil => exact absurd rfl h1
    | cons a r =>
      unfold startsL
      simp only [List.length_cons, List.length_nil, List.take_succ_cons, List.take_zero]
      simp at h2 ⊢
      exact fun e => h2.1 e.symm
  rw [h1]
  simp only [Bool.false_or, List.cons_ne_nil, decide_false, Bool.false_eq_true, if_false]
  by_cases hcs : cs = []
  · subst hcs
    have : endsL (47 :: joinS [47] []) [47] = true := rfl
    rw [this]; rfl
  · obtain ⟨p, y, e, hy⟩ := joinS_last hcs hc
    have : endsL (47 :: joinS [47] cs) [47] = false := by
      rw [e]; unfold endsL
      simp only [List.length_cons, List.length_append, List.length_nil]
      have : (47 :: (p ++ [y])).drop (p.length + (0 + 1) + 1 - (0 + 1)) = [y] := by
        have e2 : p.length + (0 + 1) + 1 - (0 + 1) = p.length + 1 := by omega
        rw [e2]; simp
      rw [this]
      simp [hy]
    rw [this]
    simp only [Bool.false_eq_true, if_false]
    rw [joinS_snoc _ _ _ hcs]; simp
noncomputable def tri (n : List Nat) : List (List Nat) := [[120], [46, 46], n]
theorem tri_ok {ns : List (List Nat)} (hn : ∀ n ∈ ns, n ≠ [] ∧ 47 ∉ n ∧ n ≠ [46] ∧ n ≠ [46, 46]) : ∀ c ∈ ns.flatMap tri, c ≠ [] ∧ 47 ∉ c := by
  intro c hc
  simp only [List.mem_flatMap] at hc
  obtain ⟨n, h1, h2⟩ := hc
  simp only [tri, List.mem_cons, List.not_mem_nil, or_false] at h2
  rcases h2 with rfl | rfl | rfl
  · exact ⟨by decide, by decide⟩
  · exact ⟨by decide, by decide⟩
  · exact ⟨(hn _ h1).1, (hn _ h1).2.1⟩
theorem path_step {cs : List (List Nat)} {q : List Nat} (hc : ∀ c ∈ cs, c ≠ [] ∧ 47 ∉ c) (hq : q ≠ [] ∧ 47 ∉ q) :
    [[120], [46, 46], q].foldl joinL (47 :: joinS [47] cs) = 47 :: joinS [47] (cs ++ tri q) := by
  simp only [List.foldl_cons, List.foldl_nil]
  rw [joinL_app hc ⟨by decide, by decide⟩, joinL_app (fun c h => ?_) ⟨by decide, by decide⟩, joinL_app (fun c h => ?_) hq]
  · simp [tri]
  · simp only [List.mem_append, List.mem_singleton] at h
    rcases h with (h | rfl) | rfl
    · exact hc c h
    · exact ⟨by decide, by decide⟩
    · exact ⟨by decide, by decide⟩
  · simp only [List.mem_append, List.mem_singleton] at h
    rcases h with h | rfl
    · exact hc c h
    · exact ⟨by decide, by decide⟩
theorem norm_tri : ∀ (ns acc : List (List Nat)), (∀ n ∈ ns, n ≠ [] ∧ 47 ∉ n ∧ n ≠ [46] ∧ n ≠ [46, 46]) → (∀ n ∈ acc, n ≠ [46, 46]) → (ns.flatMap tri).foldl normStep acc = acc ++ ns
  | [], acc, _, _ => by simp
  | n :: r, acc, h, ha => by
    have hn := h n (by simp)
    rw [List.flatMap_cons, List.foldl_append]
    have e1 : normStep acc [120] = acc ++ [[120]] := by simp [normStep]
    have e2 : normStep (acc ++ [[120]]) [46, 46] = acc := by simp [normStep]
    have e3 : normStep acc n = acc ++ [n] := by simp [normStep, hn]
    have : (tri n).foldl normStep acc = acc ++ [n] := by
      simp only [tri, List.foldl_cons, List.foldl_nil]
      rw [e1, e2, e3]
    rw [this, norm_tri r (acc ++ [n]) (fun z hz => h z (by simp [hz])) (fun z hz => by
      simp only [List.mem_append, List.mem_singleton] at hz
      rcases hz with hz | rfl
      · exact ha z hz
      · exact hn.2.2.2)]
    simp
theorem tri_sum (ns : List (List Nat)) : ((ns.flatMap tri).map (·.length + 1)).sum = 5 * ns.length + (ns.map (·.length + 1)).sum := by
  induction ns with
  | nil => rfl
  | cons n r ih =>
    rw [List.flatMap_cons, List.map_append, List.sum_append, ih]
    simp [tri]; omega
theorem tri_len (ns : List (List Nat)) : (ns.flatMap tri).length = 3 * ns.length := by
  induction ns with
  | nil => rfl
  | cons n r ih =>
    rw [List.flatMap_cons, List.length_append, ih]
    simp [tri]; omega
end Mine

namespace Mine
open Calls
theorem con_law_note (k : Int) (h0 : k.natAbs < 10 ^ 10) : Con (.fn 258) [.int k] (.str (noteL k)) 1 := by
  refine con_fnX e_law_note (by simp [FL]) ["many"] [("many", .int k)] (by decide) rfl (.plain rfl (fun vs h => match vs, h with | [a], _ => rfl)) ?_ (by simp only [List.map]; decide) rfl (by decide +kernel) (fun y hy L => by rfl) rfl rfl rfl ?_
  · intro y hy; simp at hy ⊢; rcases hy with rfl; simp
  · intro w A L base fz os R
    have hk := decI_len2 h0
    refine EX_cons ?_
    repeat' walk_at "m"
    refine CL_str_int h0 ?_
    repeat' walk_at "m"
    exact rfl
theorem con_law_path (ns : List (List Nat)) (hn : ∀ n ∈ ns, n ≠ [] ∧ 47 ∉ n ∧ n ≠ [46] ∧ n ≠ [46, 46]) (hne : ns ≠ []) (hl : ns.length ≤ 100) (hs : (ns.map (·.length + 1)).sum ≤ 10000) : Con (.fn 251) [.list (ns.map .str)] (.str (47 :: joinS [47] ns)) 4 := by
  refine con_fnX e_law_path (by simp [FL]) ["names"] [("names", .list (ns.map .str)), ("path", .unset), ("name", .unset)] (by decide) rfl (.plain rfl (fun vs h => match vs, h with | [a], _ => rfl)) ?_ (by simp only [List.map]; decide) rfl (by decide +kernel) (fun y hy L => by rfl) rfl rfl rfl ?_
  · intro y hy; simp at hy ⊢; rcases hy with rfl | rfl | rfl <;> simp
  · intro w A L base fz os R
    have hA : A.handled = none := R.1
    refine EX_cons ?_
    repeat' walk_at "m"
    refine ES_for hA rfl rfl rfl ?_
    repeat' walk_at "m"
    refine ⟨_, .list, fun (i : Nat) (m : Loc) (n : Mut) => n = [] ∧ (m : Loc) = ([("names", .list (ns.map .str)), ("path", .str (47 :: joinS [47] ((ns.take i).flatMap tri))), ("name", .unset)] : Loc), ⟨rfl, rfl⟩, ?_, ?_⟩
    · rintro i a ha m n ⟨rfl, rfl⟩
      simp only [List.getElem?_map, Option.map_eq_some_iff] at ha
      obtain ⟨q, hqi, rfl⟩ := ha
      have hqm := hn q (List.mem_of_getElem? hqi)
      have hq1 := sum_mem hqi
      have hts : ((ns.take i).flatMap tri).map (·.length + 1) = ((ns.take i).flatMap tri).map (·.length + 1) := rfl
      have hsub : ((ns.take i).map (·.length + 1)).sum ≤ (ns.map (·.length + 1)).sum := by
        have h2 : (ns.map (·.length + 1)).sum = ((ns.take i).map (·.length + 1)).sum + ((ns.drop i).map (·.length + 1)).sum := by rw [← List.sum_append, ← List.map_append, List.take_append_drop]
        omega
      have hjl := joinS_len 47 ((ns.take i).flatMap tri)
      rw [tri_sum] at hjl
      have htl : (ns.take i).length ≤ 100 := by rw [List.length_take]; omega
      have E := path_step (cs := (ns.take i).flatMap tri) (q := q) (tri_ok fun n h => hn n (List.mem_of_mem_take h)) ⟨hqm.1, hqm.2.1⟩
      have E2 : (ns.take (i + 1)).flatMap tri = (ns.take i).flatMap tri ++ tri q := by rw [take_succ_get hqi, List.flatMap_append]; simp
      try dsimp only
      rw [E2]
      refine put_intro (by repeat (first | exact Put.head | apply Put.tail)) ?_
      refine EX_cons ?_
      repeat' walk_at "m"
      refine CL_con (con_join _ [[120], [46, 46], q] rfl (by simp only [List.length_cons, List.map_cons, List.map_nil, List.sum_cons, List.sum_nil, List.length_nil]; omega)) (R.le (by decide)) rfl rfl ?_
      rw [E]
      repeat' walk_at "m"
      refine ⟨_, ?_, rfl, rfl⟩
      repeat (first | exact Wk.nil | apply Wk.same | apply Wk.drop)
    · rintro m n ⟨rfl, rfl⟩
      repeat' walk_at "m"
      simp only [List.length_map, List.take_length]
      have hts := tri_sum ns
      have hj := joinS_len 47 (ns.flatMap tri)
      have hno := norm_tri ns [] hn (by simp)
      have hcs := tri_ok hn
      have hne2 : ns.flatMap tri ≠ [] := by
        cases ns with
        | nil => exact absurd rfl hne
        | cons a r => simp [tri]
      refine CL_con (con_normpath (ns.flatMap tri) hne2 (fun c h => (hcs c h).2) ?_ (by rw [tri_len]; omega) (by omega) (by omega)) (R.le (by decide)) rfl rfl ?_
      · cases ns with
        | nil => exact absurd rfl hne
        | cons a r => simp [tri, joinS]
      · rw [hno]; exact ⟨rfl, rfl⟩
end Mine

namespace Mine
open Calls
noncomputable def chr3 (i : Int) : Nat := if i = 0 then 97 else if i = 1 then 45 else 43
noncomputable def nm (x : Int) : List Nat := rep [chr3 (x.fmod 3)] (1 + (x.fdiv 3).fmod 30).toNat
noncomputable def manyL (total : Int) : Nat := (4 + (total.fdiv 3).fmod 57).toNat
noncomputable def lastL (total : Int) : List Nat := if total.fmod 3 = 0 then rep [100] (manyL total + 1) else if total.fmod 3 = 1 then rep [101] (manyL total) else rep [100] (manyL total)
noncomputable def row1 (numbers : List Int) (total : Int) : List (List Nat) := numbers.map nm ++ [rep [100] (manyL total)]
noncomputable def row2 (numbers : List Int) (total : Int) : List (List Nat) := numbers.map nm ++ [lastL total]
theorem fmod_lt {a b : Int} (h : 0 < b) : 0 ≤ a.fmod b ∧ a.fmod b < b := ⟨Int.fmod_nonneg_of_pos a h, Int.fmod_lt_of_pos a h⟩
theorem con_law_rows (numbers : List Int) (total : Int) (hl : numbers.length ≤ 1000) : Con (.fn 244) [.list (numbers.map .int), .int total] (.list [.list ((row1 numbers total).map .str), .list ((row2 numbers total).map .str)]) 1 := by
  refine con_fnX e_law_rows (by simp [FL]) ["numbers", "total"] [("numbers", .list (numbers.map .int)), ("total", .int total), ("many", .unset), ("folder", .unset)] (by decide) rfl (.plain rfl (fun vs h => match vs, h with | [a, b], _ => rfl)) ?_ (by simp only [List.map]; decide) rfl (by decide +kernel) (fun y hy L => by rfl) rfl rfl rfl ?_
  · intro y hy; simp at hy ⊢; rcases hy with rfl | rfl | rfl | rfl <;> simp
  · intro w A L base fz os R
    have hA : A.handled = none := R.1
    refine EX_cons ?_
    repeat' walk_at "m"
    refine ES_assign_map Int hA rfl (.inl ⟨rfl, rfl⟩) rfl (by decide) rfl (by decide) (by simp) (fun C => rfl) (fun C => rfl) (fun _ => rfl) (fun _ _ => rfl) ?_
    unfold MapOk
    repeat' walk_at "m"
    refine ⟨numbers, .int, fun t => .str (nm t), .list, by omega, ?_, ?_, ?_⟩
    · have := pureL_str (numbers.map nm); rwa [List.map_map] at this
    · intro t ht C ys _
      have h3 := fmod_lt (a := t) (b := 3) (by decide)
      have h30 := fmod_lt (a := t.fdiv 3) (b := 30) (by decide)
      repeat' walk_at "m"
      refine OP2_item_str (c := chr3 (t.fmod 3)) h3.1 ?_ (by omega) ?_
      · have : t.fmod 3 = 0 ∨ t.fmod 3 = 1 ∨ t.fmod 3 = 2 := by omega
        rcases this with e | e | e <;> rw [e] <;> rfl
      repeat' walk_at "m"
      exact rfl
    · have hm := fmod_lt (a := total.fdiv 3) (b := 57) (by decide)
      have h3 := fmod_lt (a := total) (b := 3) (by decide)
      repeat' walk_at "m"
      refine OP2_item_list (a := .str (lastL total)) h3.1 (by omega) ?_ ?_
      · have hmt : (4 + (total.fdiv 3).fmod 57 + 1).toNat = manyL total + 1 := by unfold manyL; omega
        have : total.fmod 3 = 0 ∨ total.fmod 3 = 1 ∨ total.fmod 3 = 2 := by omega
        rcases this with e | e | e <;> simp only [lastL, e, manyL, hmt] <;> rfl
      repeat' walk_at "m"
      refine ⟨?_, ?_⟩
      · simp only [out, row1, row2, List.map_append, List.map_map, Function.comp_def, manyL, List.map_cons, List.map_nil]; rfl
      · simp only [SV.pure, SV.pureL, pureL_str, Bool.and_self]
end Mine

namespace Mine
open Calls
theorem con_law_pattern (t0 : List Nat) (ps : List (Int × List Nat)) (h0 : 91 ∉ t0) (h : ∀ p ∈ ps, 0 ≤ p.1 ∧ p.1 ≤ 1000 ∧ 91 ∉ p.2 ∧ 93 ∉ p.2 ∧ p.2.length ≤ 1000) (hl : ps.length ≤ 10) (hs : t0.length ≤ 1000) : Con (.fn 270) [.str (noted t0 ps)] (.str (patL t0 ps)) 1 := by
  refine con_fnX e_law_pattern (by simp [FL]) ["short"] [("short", .str (noted t0 ps)), ("pieces", .unset), ("pattern", .unset), ("piece", .unset), ("count", .unset), ("rest", .unset)] (by decide) rfl (.plain rfl (fun vs h => match vs, h with | [a], _ => rfl)) ?_ (by simp only [List.map]; decide) rfl (by decide +kernel) (fun y hy L => by rfl) rfl rfl rfl ?_
  · intro y hy; simp at hy ⊢; rcases hy with rfl | rfl | rfl | rfl | rfl | rfl <;> simp
  · intro w A L base fz os R
    have hA : A.handled = none := R.1
    have hlen : (noted t0 ps).length ≤ 20000 := noted_len (fun p hp => ⟨(h p hp).1, (h p hp).2.1, (h p hp).2.2.2.2⟩) hl hs
    refine EX_cons ?_
    repeat' walk_at "m"
    rw [show splitL (noted t0 ps) (Str.ofString "[").cps.toList = t0 :: ps.map pieceL from noted_split h0 fun p hp => ⟨(h p hp).1, (h p hp).2.2.1⟩]
    repeat' walk_at "m"
    refine OP2_item_list (a := .str t0) (by decide) (by decide) rfl ?_
    repeat' walk_at "m"
    refine ES_for hA rfl rfl rfl ?_
    repeat' walk_at "m"
    refine OP2_cut_list (by simp; omega) ?_
    rw [cut_from _ (by decide)]
    refine ⟨(ps.map pieceL).map .str, .list, fun (i : Nat) (m : Loc) (n : Mut) => n = [] ∧ (m : Loc) = ([("short", .str (noted t0 ps)), ("pieces", .list ((t0 :: ps.map pieceL).map .str)), ("pattern", .str (patL t0 (ps.take i))), ("piece", .unset), ("count", .unset), ("rest", .unset)] : Loc), ⟨rfl, ?_⟩, ?_, ?_⟩
    · simp [patL]
    · rintro i a ha m n ⟨rfl, rfl⟩
      simp only [List.getElem?_map, Option.map_eq_some_iff] at ha
      obtain ⟨_, ⟨p, hpi, rfl⟩, rfl⟩ := ha
      have hp := h p (List.mem_of_getElem? hpi)
      have E : patL t0 (ps.take (i + 1)) = patL t0 (ps.take i) ++ rep [63] p.1.toNat ++ p.2 := by
        rw [take_succ_get hpi]; simp [patL]
      have hpl : (patL t0 (ps.take i)).length ≤ 30000 := patL_len (fun p hp => let q := h p (List.mem_of_mem_take hp); ⟨q.1, q.2.1, q.2.2.2.2⟩) (by rw [List.length_take]; omega) hs
      have hd := decI_len hp.1 (by omega)
      have hpiece : (pieceL p).length ≤ 2000 := by unfold pieceL; rw [tx_chars]; simp only [List.length_append, List.length_cons, List.length_nil]; omega
      have hrl : (rep (Str.ofString "?").cps.toList p.1.toNat).length ≤ 1000 := by rw [rep_len]; show 1 * _ ≤ _; omega
      try dsimp only
      rw [E]
      refine put_intro (by repeat (first | exact Put.head | apply Put.tail)) ?_
      refine EX_cons ?_
      refine ES_tup (ys := ["count", "rest"]) hA rfl (by repeat constructor) rfl rfl (fun y hy => by simp at hy; rcases hy with rfl | rfl <;> exact .inl ⟨rfl, rfl⟩) rfl rfl ?_
      repeat' walk_at "m"
      rw [show splitL (pieceL p) (Str.ofString " chars]").cps.toList = [decI p.1, p.2] from piece_split hp.1 hp.2.2.2.1]
      refine ⟨_, .list, rfl, _, .cons (by repeat (first | exact Put.head | apply Put.tail)) (.cons (by repeat (first | exact Put.head | apply Put.tail)) .nil), ?_⟩
      repeat' walk_at "m"
      refine CL_int_num hp.1 (by omega) ?_
      repeat' walk_at "m"
      refine ⟨_, ?_, rfl, rfl⟩
      repeat (first | exact Wk.nil | apply Wk.same | apply Wk.drop)
    · rintro m n ⟨rfl, rfl⟩
      repeat' walk_at "m"
      refine ⟨?_, rfl⟩
      simp [out, patL]
end Mine

namespace Mine
open Calls
noncomputable def shortenL (s : List Nat) (p q : Int) : List Nat :=
  if (s.length : Int) - p - q > 12 then cut s none (some p) ++ tx "[" ++ decI (s.length - p - q) ++ tx " chars]" ++ cut s (some (s.length - q)) none else s

theorem con_shorten (s : List Nat) (p q : Int) (hs : s.length ≤ 1000) (hp : 0 ≤ p) (hq : 0 ≤ q) (hp' : p ≤ 1000) (hq' : q ≤ 1000) : Con (.fn 45) [.str s, .int p, .int q] (.str (shortenL s p q)) 1 := by
  refine con_fnX e_shorten (by simp [FL]) ["s", "prefixlen", "suffixlen"] [("s", .str s), ("prefixlen", .int p), ("suffixlen", .int q), ("skip", .unset)] (by decide) rfl (.plain rfl (fun vs h => match vs, h with | [a, b, c], _ => rfl)) ?_ (by simp only [List.map]; decide) rfl (by decide +kernel) (fun y hy L => by rfl) rfl rfl rfl ?_
  · intro y hy; simp at hy ⊢; rcases hy with rfl | rfl | rfl | rfl <;> simp
  · intro w A L base fz os R
    refine EX_cons ?_
    repeat' walk_at "m"
    · refine OP2_pct rfl (by omega) (by omega) (by simp [cut]; omega) (by simp [cut]; omega) ?_
      repeat' walk_at "m"
      exact ⟨by simp [out, shortenL, *], rfl⟩
    · exact ⟨by simp [out, shortenL, *], rfl⟩
end Mine

namespace Mine
noncomputable def quoteL (t : List Nat) : List Nat := [39] ++ t ++ [39]
/-- a thing that does not go along for k signs -/
noncomputable def badK (t0 : List Nat) (k : Nat) (t : List Nat) : Bool := !decide (t.take k = t0.take k) || decide (t.length < k)
noncomputable def okK (things : List (List Nat)) (k : Nat) : Bool := things.all fun t => !badK (things.headD []) k t
noncomputable def longN (things : List (List Nat)) : Nat := maxN (things.map (·.length))
noncomputable def commonN (things : List (List Nat)) : Nat := (((List.range (longN things + 1)).filter (okK things)).getLast?).getD 0
noncomputable def restL (c : Int) (t : List Nat) : List Nat := if (t.length : Int) - c < 59 then cut t (some c) none else cut t (some c) (some (c + 41)) ++ noteL ((t.length : Int) - c - 46) ++ cut t (some (-5)) none
noncomputable def frontL (c : Int) (t : List Nat) : List Nat := if c < 23 then cut t none (some c) else cut t none (some 5) ++ noteL (c - 10) ++ cut t (some (c - 5)) (some c)
noncomputable def cuttL (l : Int) (t : List Nat) : List Nat := cut t none (some 5) ++ noteL (l - 68) ++ cut t (some (l - 63)) none
noncomputable def dueOne (l c : Int) (t : List Nat) : List Nat := if l < 81 then t else if l - c < 58 then cuttL l t else frontL c t ++ restL c t
noncomputable def dueL (texts : List (List Nat)) : List (List Nat) := let things := texts.map quoteL; things.map (dueOne (longN things) (commonN things))
theorem ok_zero (things : List (List Nat)) : okK things 0 = true := by simp [okK, badK]
theorem common_last {things : List (List Nat)} : ∃ pre, (List.range (longN things + 1)).filter (okK things) = pre ++ [commonN things] := by
  have hne : (List.range (longN things + 1)).filter (okK things) ≠ [] := by
    intro h
    have : (0 : Nat) ∈ (List.range (longN things + 1)).filter (okK things) := List.mem_filter.mpr ⟨by simp, ok_zero things⟩
    rw [h] at this; simp at this
  rcases List.eq_nil_or_concat ((List.range (longN things + 1)).filter (okK things)) with h | ⟨pre, c, h⟩
  · exact absurd h hne
  · rw [List.concat_eq_append] at h
    refine ⟨pre, ?_⟩
    unfold commonN
    rw [h]; simp
theorem common_spec {things : List (List Nat)} : okK things (commonN things) = true ∧ commonN things ≤ longN things ∧ ∀ k, okK things k = true → k ≤ longN things → k ≤ commonN things := by
  obtain ⟨pre, h⟩ := common_last (things := things)
  have hmem : commonN things ∈ (List.range (longN things + 1)).filter (okK things) := by rw [h]; simp
  rw [List.mem_filter, List.mem_range] at hmem
  refine ⟨hmem.2, by omega, fun k hk hl => ?_⟩
  have hk' : k ∈ (List.range (longN things + 1)).filter (okK things) := List.mem_filter.mpr ⟨List.mem_range.mpr (by omega), hk⟩
  have hs : ((List.range (longN things + 1)).filter (okK things)).Pairwise (· < ·) := List.Pairwise.filter _ List.pairwise_lt_range
  rw [h] at hk' hs
  rw [List.pairwise_append] at hs
  simp only [List.mem_append, List.mem_singleton] at hk'
  rcases hk' with hk' | rfl
  · exact Nat.le_of_lt (hs.2.2 k hk' _ (by simp))
  · exact Nat.le_refl _
theorem common_le {things : List (List Nat)} {t : List Nat} (h : t ∈ things) : commonN things ≤ t.length := by
  have := (common_spec (things := things)).1
  unfold okK at this
  rw [List.all_eq_true] at this
  have := this t h
  simp [badK] at this
  exact this.2
theorem le_maxN : ∀ {l : List Nat} {a : Nat}, a ∈ l → a ≤ maxN l
  | b :: r, a, h => by
    have e : maxN (b :: r) = max b (maxN r) := by simp only [maxN, List.foldl_cons]; rw [foldl_max]; simp [maxN]
    rw [e]
    rcases List.mem_cons.mp h with rfl | h
    · omega
    · have := le_maxN h; omega
theorem maxN_le {l : List Nat} {K : Nat} (h : ∀ a ∈ l, a ≤ K) : maxN l ≤ K := by
  induction l with
  | nil => simp [maxN]
  | cons b r ih =>
    have e : maxN (b :: r) = max b (maxN r) := by simp only [maxN, List.foldl_cons]; rw [foldl_max]; simp [maxN]
    rw [e]
    have h1 := h b (by simp)
    have h2 := ih fun a ha => h a (by simp [ha])
    omega
theorem lookup_one {α : Type} {y z : Str} {c d : α} (h : [(y, c)].lookup z = some d) : z = y ∧ d = c := by
  simp only [List.lookup_cons, List.lookup_nil] at h
  split at h
  · rename_i e; cases h; exact ⟨eq_of_beq e, rfl⟩
  · cases h
theorem lookup_two {α : Type} {y y' z : Str} {c c' d : α} (h : [(y, c), (y', c')].lookup z = some d) : (z = y ∧ d = c) ∨ (z = y' ∧ d = c') := by
  simp only [List.lookup_cons, List.lookup_nil] at h
  split at h
  · rename_i e; cases h; exact .inl ⟨eq_of_beq e, rfl⟩
  · split at h
    · rename_i e; cases h; exact .inr ⟨eq_of_beq e, rfl⟩
    · cases h
theorem quote_len (t : List Nat) : (quoteL t).length = t.length + 2 := by simp [quoteL]
theorem long_le {texts : List (List Nat)} (h : ∀ t ∈ texts, t.length ≤ 1000) : longN (texts.map quoteL) ≤ 1002 := maxN_le fun a ha => by
  simp only [List.mem_map] at ha
  obtain ⟨q, ⟨t, ht, rfl⟩, rfl⟩ := ha
  have := h t ht
  rw [quote_len]; omega
theorem none_bad {things : List (List Nat)} {k : Nat} : (things.filterMap fun u => if badK (things.headD []) k u then some (SV.str u) else none) = [] ↔ okK things k = true := by
  unfold okK
  generalize things.headD [] = t0
  induction things with
  | nil => simp
  | cons a r ih =>
    rw [List.all_cons, Bool.and_eq_true, ← ih]
    cases h : badK t0 k a
    · rw [List.filterMap_cons_none (by simp [h])]; simp
    · rw [List.filterMap_cons_some (b := SV.str a) (by simp [h])]; simp
theorem pure_bad {things : List (List Nat)} {p : List Nat → Bool} : SV.pureL (things.filterMap fun u => if p u then some (SV.str u) else none) = true := by
  induction things with
  | nil => rfl
  | cons a r ih =>
    cases h : p a
    · rw [List.filterMap_cons_none (by simp [h])]; exact ih
    · rw [List.filterMap_cons_some (b := SV.str a) (by simp [h])]; simp [SV.pureL, SV.pure, ih]
theorem pure_ints {l : List Nat} {p : Nat → Bool} : SV.pureL (l.filterMap fun (k : Nat) => if p k then some (SV.int k) else none) = true := by
  induction l with
  | nil => rfl
  | cons a r ih =>
    cases h : p a
    · rw [List.filterMap_cons_none (by simp [h])]; exact ih
    · rw [List.filterMap_cons_some (b := SV.int a) (by simp [h])]; simp [SV.pureL, SV.pure, ih]
theorem ints_filter {l : List Nat} {p : Nat → Bool} : (l.filterMap fun (k : Nat) => if p k then some (SV.int k) else none) = (l.filter p).map fun (k : Nat) => SV.int k := by
  induction l with
  | nil => rfl
  | cons a r ih =>
    cases h : p a
    · rw [List.filterMap_cons_none (by simp [h]), List.filter_cons_of_neg (by simp [h])]; exact ih
    · rw [List.filterMap_cons_some (b := SV.int a) (by simp [h]), List.filter_cons_of_pos (by simp [h]), List.map_cons, ih]
theorem restL_len {c : Nat} {q : List Nat} (h1 : q.length ≤ 1002) (h2 : c ≤ 1002) : (restL c q).length ≤ 3000 := by
  unfold restL
  split
  · have := cut_len q (some (c : Int)) none; omega
  · have a1 := cut_len q (some (c : Int)) (some ((c : Int) + 41))
    have a2 := cut_len q (some (-5)) none
    have a3 := noteL_len (k := (q.length : Int) - c - 46) (by omega)
    simp only [List.length_append]; omega
theorem frontL_len {c : Nat} {q : List Nat} (h1 : q.length ≤ 1002) (h2 : c ≤ 1002) : (frontL c q).length ≤ 3000 := by
  unfold frontL
  split
  · have := cut_len q none (some (c : Int)); omega
  · have a1 := cut_len q none (some 5)
    have a2 := cut_len q (some ((c : Int) - 5)) (some (c : Int))
    have a3 := noteL_len (k := (c : Int) - 10) (by omega)
    simp only [List.length_append]; omega
end Mine

namespace Mine
open Calls
theorem con_law_due (texts : List (List Nat)) (hne : texts ≠ []) (hl : texts.length ≤ 100) (ht : ∀ t ∈ texts, t.length ≤ 1000) : Con (.fn 263) [.list (texts.map .str)] (.tup ((dueL texts).map .str)) 2 := by
  refine con_fnX e_law_due (by simp [FL]) ["texts"] [("texts", .list (texts.map .str)), ("things", .unset), ("shorts", .unset), ("thing", .unset), ("longest", .unset), ("common", .unset), ("rest", .unset), ("front", .unset), ("cut", .unset)] (by decide) rfl (.plain rfl (fun vs h => match vs, h with | [a], _ => rfl)) ?_ (by simp only [List.map]; decide) rfl (by decide +kernel) (fun y hy L => by simp at hy; subst hy; rfl) rfl rfl rfl ?_
  · intro y hy; simp at hy ⊢; rcases hy with rfl | rfl | rfl | rfl | rfl | rfl | rfl | rfl | rfl <;> simp
  · intro w A L base fz os R
    have hA : A.handled = none := R.1
    refine EX_cons ?_
    refine ES_tup (ys := ["things", "shorts"]) hA rfl (by repeat constructor) rfl rfl (fun y hy => by
      simp at hy
      rcases hy with rfl | rfl
      · exact .inr ⟨rfl, L + 1, rfl, fun z d h e => (lookup_one h).1⟩
      · exact .inl ⟨rfl, rfl⟩) rfl rfl ?_
    repeat' walk_at "m"
    refine EV_map (List Nat) hA (by decide) rfl (by decide) (by simp) (fun C => rfl) (fun C => rfl) (fun _ => rfl) (fun _ _ => rfl) ?_
    unfold MapOk
    repeat' walk_at "m"
    refine ⟨texts, .str, fun t => .str (quoteL t), .list, by omega, ?_, ?_, ?_⟩
    · have := pureL_str (texts.map quoteL); rwa [List.map_map] at this
    · intro t htm C ys _
      have htl := ht t htm
      repeat' walk_at "m"
      exact rfl
    rw [show (texts.map fun t => SV.str (quoteL t)) = (texts.map quoteL).map SV.str by rw [List.map_map]; rfl]
    have hlong := long_le ht
    have hth : ∀ t ∈ texts.map quoteL, t.length ≤ 1002 := fun t h => by
      simp only [List.mem_map] at h
      obtain ⟨q, hq, rfl⟩ := h
      have := ht q hq
      rw [quote_len]; omega
    have hne2 : texts.map quoteL ≠ [] := by simpa using hne
    have hl2 : (texts.map quoteL).length ≤ 100 := by simpa using hl
    unfold dueL
    try dsimp only
    generalize texts.map quoteL = things at hlong hth hne2 hl2 ⊢
    repeat' walk_at "m"
    refine EV_mlist ?_
    repeat' walk_at "m"
    refine ⟨_, .tup, rfl, _, .cons (by repeat (first | exact Put.head | apply Put.tail)) (.cons (by repeat (first | exact Put.head | apply Put.tail)) .nil), ?_⟩
    repeat' walk_at "m"
    refine EV_map (List Nat) hA (by decide) rfl (by decide) (by simp [SV.pureL]) (fun C => rfl) (fun C => rfl) (fun _ => rfl) (fun _ _ => rfl) ?_
    unfold MapOk
    repeat' walk_at "m"
    refine ⟨things, .str, fun t => .int t.length, .list, by omega, ?_, ?_, ?_⟩
    · clear hne2 hl2 hth hlong
      induction things with
      | nil => rfl
      | cons a r ih => simp [SV.pureL, SV.pure] at ih ⊢; exact ih
    · intro t htm C ys _
      have htl := hth t htm
      repeat' walk_at "m"
    repeat' walk_at "m"
    refine CL_max_ints (ls := things.map (·.length)) hA (by rw [List.map_map]; exact .list) (by simpa using hne2) ?_
    repeat' walk_at "m"
    refine EV_comp Nat (cl := [("things", L + 1)]) hA rfl (fun y c e => ⟨"things", by rw [(lookup_one e).2]; rfl⟩) rfl (by decide) (by simp [SV.pureL]) ?_ (fun _ => rfl) (fun _ _ => rfl)
    unfold CompOk
    repeat' walk_at "m"
    refine CL_range (by omega) ?_
    repeat' walk_at "m"
    have hkn : ((maxN (things.map (·.length)) : Int) + 1).toNat = longN things + 1 := by unfold longN; omega
    rw [hkn]
    refine ⟨List.range (longN things + 1), fun (i : Nat) => .int i, fun (k : Nat) => if okK things k then some (.int k) else none, [("k", .unset), ("things", .list (things.map .str))], .rng (by omega), by rw [List.length_range]; omega, (by simp only [List.map]; decide), ?_, ?_, ?_, ?_⟩
    · intro p hp
      simp only [List.mem_cons, List.not_mem_nil, or_false] at hp
      rcases hp with rfl | rfl
      · exact .inl rfl
      · exact .inr ⟨by simp, L + 1, rfl, fun C => rfl⟩
    · exact pure_ints
    · intro t htm C ys hC hys
      refine ⟨.inr ⟨rfl, C + 1, rfl, fun z d h e => ?_⟩, fun d e z => ?_, _, .head, .drop (.same .nil), ?_⟩
      · rcases lookup_two h with ⟨h1, _⟩ | ⟨_, h2⟩
        · exact h1
        · have := hC "things" (L + 1) rfl
          exact absurd this (by rw [show L + 1 = C + 1 from h2 ▸ e]; exact Nat.not_lt.mpr (Nat.le_succ C))
      · rcases lookup_two e with ⟨_, h1⟩ | ⟨h2, _⟩
        · intro h
          have := hC _ _ h
          rw [h1] at this; exact absurd this (Nat.not_lt.mpr (Nat.le_succ C))
        · exact absurd h2 (by decide)
      · show TS _ _ _ _ _
        repeat' walk_at "m"
        refine EV_comp (List Nat) (cl := [("things", L + 1), ("k", C + 1)]) hA rfl (fun y c e => ?_) rfl (by decide) ?_ ?_ (fun _ => rfl) (fun _ _ => rfl)
        · rcases lookup_two e with ⟨_, h1⟩ | ⟨_, h1⟩
          · exact ⟨"things", by rw [h1]; rfl⟩
          · exact ⟨"k", by rw [h1]; rfl⟩
        · intro xs hxs
          simp only [List.nil_append, List.cons_append, List.mem_cons, List.not_mem_nil, or_false] at hxs
          rcases hxs with rfl | rfl
          · rfl
          · exact hys
        unfold CompOk
        repeat' walk_at "m"
        refine ⟨things, .str, fun u => if badK (things.headD []) t u then some (.str u) else none, [("thing", .unset), ("k", .int t), ("things", .list (things.map .str))], .list, by omega, (by simp only [List.map]; decide), ?_, pure_bad, ?_, ?_⟩
        · intro p hp
          simp only [List.mem_cons, List.not_mem_nil, or_false] at hp
          rcases hp with rfl | rfl | rfl
          · exact .inl rfl
          · exact .inr ⟨by simp, C + 1, rfl, fun C => rfl⟩
          · exact .inr ⟨by simp, L + 1, rfl, fun C => rfl⟩
        · intro u hum C2 ys2 hC2 hys2
          have hul := hth u hum
          obtain ⟨t0, tr, htr⟩ : ∃ t0 tr, things = t0 :: tr := by
            cases things with
            | nil => exact absurd rfl hne2
            | cons a r => exact ⟨a, r, rfl⟩
          have ht0 : t0.length ≤ 1002 := hth t0 (by rw [htr]; simp)
          refine ⟨.inl ⟨rfl, rfl⟩, fun d e => (by rcases lookup_two e with ⟨h, _⟩ | ⟨h, _⟩ <;> exact absurd h (by decide)), _, .head, .drop (.same (.same .nil)), ?_⟩
          show TS _ _ _ _ _
          repeat' walk_at "m"
          refine OP2_item_list (a := .str t0) (by decide) (by decide) (by rw [htr]; rfl) ?_
          repeat' walk_at "m"
          all_goals
            simp only [cut_to _ (Int.natCast_nonneg t), Int.toNat_natCast] at *
            simp [badK, htr, *]
            try omega
        · repeat' walk_at "m"
          refine EV_nil ?_
          repeat' walk_at "m"
          refine OP2_eq_nil (by have := R.2.2; show A.units < cLine; omega) ?_
          repeat' walk_at "m"
          · rename_i hb
            rw [if_pos (none_bad.mp hb)]
          · rename_i hb
            rw [if_neg (fun h => hb (none_bad.mpr h))]
    · rw [ints_filter]
      obtain ⟨pre, hpre⟩ := common_last (things := things)
      rw [hpre, List.map_append, List.map_cons, List.map_nil]
      repeat' walk_at "m"
      have hprel : pre.length ≤ 1003 := by
        have h1 := congrArg List.length hpre
        have h2 := List.length_filter_le (okK things) (List.range (longN things + 1))
        rw [List.length_range] at h2
        simp at h1; omega
      refine OP2_last_list (by rw [List.length_map]; omega) ?_
      have hcs := common_spec (things := things)
      have hcle : ∀ t ∈ things, commonN things ≤ t.length := fun t h => common_le h
      have hmx : maxN (things.map (·.length)) = longN things := rfl
      rw [hmx]
      generalize hcn : commonN things = c at hcle hcs ⊢
      generalize hln : longN things = l at hlong hcs ⊢
      repeat' walk_at "m"
      refine ES_for hA rfl rfl rfl ?_
      repeat' walk_at "m"
      refine ⟨_, .list, fun (i : Nat) (m : Loc) (n : Mut) => n = [((things.take i).map (dueOne l c)).map .str] ∧ (m : Loc) = ([("texts", .list (texts.map .str)), ("things", .list (things.map .str)), ("shorts", .ml 0), ("thing", .unset), ("longest", .int l), ("common", .int c), ("rest", .unset), ("front", .unset), ("cut", .unset)] : Loc), ⟨rfl, rfl⟩, ?_, ?_⟩
      · rintro i a ha m n ⟨rfl, rfl⟩
        simp only [List.getElem?_map, Option.map_eq_some_iff] at ha
        obtain ⟨q, hqi, rfl⟩ := ha
        have hqm := List.mem_of_getElem? hqi
        have hql := hth q hqm
        have hqc := hcle q hqm
        have hil : (things.take i).length ≤ 100 := by rw [List.length_take]; omega
        have E : (things.take (i + 1)).map (dueOne l c) = (things.take i).map (dueOne l c) ++ [dueOne l c q] := by rw [take_succ_get hqi, List.map_append]; rfl
        try dsimp only
        rw [E, List.map_append]
        refine put_intro (by repeat (first | exact Put.head | apply Put.tail)) ?_
        refine EX_cons ?_
        repeat' walk_at "m"
        have hrl := restL_len (c := c) (q := q) hql (by omega)
        have hfl := frontL_len (c := c) (q := q) hql (by omega)
        have a1 := cut_len q (some (c : Int)) (some ((c : Int) + 41))
        have a2 := cut_len q (some (-5)) none
        have a3 := noteL_len (k := (q.length : Int) - c - 46) (by omega)
        have b1 := cut_len q none (some 5)
        have b2 := cut_len q (some ((c : Int) - 5)) (some (c : Int))
        have b3 := noteL_len (k := (c : Int) - 10) (by omega)
        have c1 := noteL_len (k := (l : Int) - 68) (by omega)
        have c2 := cut_len q (some ((l : Int) - 63)) none
        refine EV_cutv (.str (restL c q)) ?_ ?_
        · refine EV_ifexp ?_
          repeat' walk_at "m"
          · rename_i h
            rw [restL, if_pos h]; exact ⟨rfl, rfl⟩
          · rename_i h
            refine CL_con (con_law_note _ (by omega)) R rfl rfl ?_
            repeat' walk_at "m"
            rw [restL, if_neg h]; exact ⟨rfl, rfl⟩
        repeat' walk_at "m"
        refine EV_cutv (.str (frontL c q)) ?_ ?_
        · refine EV_ifexp ?_
          repeat' walk_at "m"
          · rename_i h
            rw [frontL, if_pos h]; exact ⟨rfl, rfl⟩
          · rename_i h
            refine CL_con (con_law_note _ (by omega)) R rfl rfl ?_
            repeat' walk_at "m"
            rw [frontL, if_neg h]; exact ⟨rfl, rfl⟩
        repeat' walk_at "m"
        refine CL_con (con_law_note _ (by omega)) R rfl rfl ?_
        repeat' walk_at "m"
        refine EV_cutv (.str (dueOne l c q)) ?_ ?_
        · refine EV_ifexp ?_
          repeat' walk_at "m"
          · rename_i h
            rw [dueOne, if_pos h]; exact ⟨rfl, rfl⟩
          · rename_i h
            refine EV_ifexp ?_
            repeat' walk_at "m"
            · rename_i h2
              rw [dueOne, if_neg h, if_pos h2]; exact ⟨rfl, rfl⟩
            · rename_i h2
              rw [dueOne, if_neg h, if_neg h2]; exact ⟨rfl, rfl⟩
        repeat' walk_at "m"
        refine ⟨_, ?_, rfl, rfl⟩
        repeat (first | exact Wk.nil | apply Wk.same | apply Wk.drop)
      · rintro m n ⟨rfl, rfl⟩
        repeat' walk_at "m"
        refine CL_tuple_ml rfl (by simp; omega) ?_
        refine ⟨?_, by rw [SV.pure]; exact pureL_str _⟩
        rw [List.length_map, List.take_length]; rfl
end Mine

namespace Mine
theorem lex_mid : ∀ (i : Nat) (s1 s2 t : List Nat), s1.take i = s2.take i → i ≤ s1.length → i ≤ s2.length → ¬ t < s1 → ¬ s2 < t → t.take i = s1.take i ∧ i ≤ t.length
  | 0, _, _, _, _, _, _, _, _ => by simp
  | i + 1, [], _, _, _, h, _, _, _ => by simp at h
  | i + 1, _ :: _, [], _, _, _, h, _, _ => by simp at h
  | i + 1, a :: r1, b :: r2, [], e, h1, h2, h3, h4 => absurd (by simp) h3
  | i + 1, a :: r1, b :: r2, d :: q, e, h1, h2, h3, h4 => by
    simp only [List.take_succ_cons, List.cons.injEq] at e
    obtain ⟨rfl, e⟩ := e
    rw [List.cons_lt_cons_iff, not_or] at h3 h4
    have hd : d = a := by omega
    subst hd
    obtain ⟨h5, h6⟩ := lex_mid i r1 r2 q e (by simpa using h1) (by simpa using h2) (fun h => h3.2 ⟨rfl, h⟩) (fun h => h4.2 ⟨rfl, h⟩)
    simp only [List.take_succ_cons, List.length_cons]
    exact ⟨by rw [h5], by omega⟩
theorem lex_len : ∀ (i : Nat) (s1 s2 : List Nat), s1.take i = s2.take i → i < s1.length → ¬ s2 < s1 → i < s2.length
  | 0, [], _, _, h, _ => by simp at h
  | 0, a :: r, [], _, _, h => absurd (by simp) h
  | 0, a :: r, b :: q, _, _, _ => by simp
  | i + 1, [], _, _, h, _ => by simp at h
  | i + 1, a :: r, [], e, _, _ => by simp at e
  | i + 1, a :: r, b :: q, e, h1, h2 => by
    simp only [List.take_succ_cons, List.cons.injEq] at e
    obtain ⟨rfl, e⟩ := e
    rw [List.cons_lt_cons_iff, not_or] at h2
    have := lex_len i r q e (by simpa using h1) (fun h => h2.2 ⟨rfl, h⟩)
    simp; omega
theorem pref_eq {things : List (List Nat)} {s1 s2 : List Nat} {i : Nat} (m1 : s1 ∈ things) (m2 : s2 ∈ things) (hmin : ∀ t ∈ things, ¬ t < s1) (hmax : ∀ t ∈ things, ¬ s2 < t) (h : s1.take i = s2.take i) (h1 : i ≤ s1.length) (h2 : i ≤ s2.length)
    (stop : i = s1.length ∨ s1[i]? ≠ s2[i]?) : s1.take i = (things.headD []).take (commonN things) := by
  obtain ⟨hok, hle, hbig⟩ := common_spec (things := things)
  have hmid : ∀ t ∈ things, t.take i = s1.take i ∧ i ≤ t.length := fun t ht => lex_mid i s1 s2 t h h1 h2 (hmin t ht) (hmax t ht)
  have hne : things ≠ [] := fun e => by rw [e] at m1; simp at m1
  have hhead : things.headD [] ∈ things := by
    cases things with
    | nil => exact absurd rfl hne
    | cons a r => simp
  have hlen1 : s1.length ≤ longN things := le_maxN (List.mem_map_of_mem m1)
  have hi : i ≤ commonN things := by
    refine hbig i ?_ (by omega)
    unfold okK
    rw [List.all_eq_true]
    intro t ht
    have a1 := hmid t ht
    have a2 := hmid _ hhead
    simp only [badK, a1.1, a2.1, decide_true, Bool.not_true, Bool.false_or, Bool.not_eq_true', decide_eq_false_iff_not]
    omega
  have share : ∀ t ∈ things, t.take (commonN things) = (things.headD []).take (commonN things) ∧ commonN things ≤ t.length := fun t ht => by
    unfold okK at hok
    rw [List.all_eq_true] at hok
    have := hok t ht
    simp only [badK, Bool.not_eq_true', Bool.or_eq_false_iff, Bool.not_eq_false', decide_eq_true_eq, decide_eq_false_iff_not] at this
    exact ⟨this.1, Nat.not_lt.mp this.2⟩
  have hi2 : commonN things ≤ i := by
    rcases Nat.lt_or_ge i (commonN things) with hlt | hge
    · exfalso
      obtain ⟨e1, l1⟩ := share s1 m1
      obtain ⟨e2, l2⟩ := share s2 m2
      rcases stop with hs | hs
      · omega
      · apply hs
        have g1 : (s1.take (commonN things))[i]? = s1[i]? := by rw [List.getElem?_take]; simp [hlt]
        have g2 : (s2.take (commonN things))[i]? = s2[i]? := by rw [List.getElem?_take]; simp [hlt]
        rw [← g1, ← g2, e1, e2]
    · exact hge
  have : i = commonN things := by omega
  rw [this]
  exact (share s1 m1).1
end Mine

namespace Mine
open Calls
theorem con_kind (nm s : List Nat) : Con (.fn 52) [.str nm, .str s] (.str []) 1 := by
  refine con_fnX e_kind (by simp [FL]) ["name", "x"] [("name", .str nm), ("x", .str s), ("t", .unset)] (by decide) rfl (.plain rfl (fun vs h => match vs, h with | [a, b], _ => rfl)) ?_ (by simp only [List.map]; decide) rfl (by decide +kernel) (fun y hy L => by rfl) rfl rfl rfl ?_
  · intro y hy; simp at hy ⊢; rcases hy with rfl | rfl | rfl <;> simp
  · intro w A L base fz os R
    refine EX_cons ?_
    repeat' walk_at "m"
    exact rfl
theorem con_fspath0 (nm s : List Nat) : Con (.fn 59) [.str nm, .str s] (.str s) 2 := by
  refine con_fnX e_fspath0 (by simp [FL]) ["name", "x"] [("name", .str nm), ("x", .str s), ("k", .unset)] (by decide) rfl (.plain rfl (fun vs h => match vs, h with | [a, b], _ => rfl)) ?_ (by simp only [List.map]; decide) rfl (by decide +kernel) (fun y hy L => by rfl) rfl rfl rfl ?_
  · intro y hy; simp at hy ⊢; rcases hy with rfl | rfl | rfl <;> simp
  · intro w A L base fz os R
    refine EX_cons ?_
    repeat' walk_at "m"
    refine CL_con (con_kind _ _) R rfl rfl ?_
    repeat' walk_at "m"
    exact rfl
theorem con_prefix (things : List (List Nat)) (hne : things ≠ []) (hasc : ∀ t ∈ things, t.all (· < 128) = true) (hlen : ∀ t ∈ things, t.length ≤ 2000) : Con (.fn 66) [.tup (things.map .str)] (.str ((things.headD []).take (commonN things))) 1 := by
  refine con_fnX e_prefix (by simp [FL]) ["m"] [("m", .tup (things.map .str)), ("s1", .unset), ("s2", .unset), ("i", .unset), ("c", .unset)] (by decide) rfl (.plain rfl (fun vs h => match vs, h with | [a], _ => rfl)) ?_ (by simp only [List.map]; decide) rfl (by decide +kernel) (fun y hy L => by rfl) rfl rfl rfl ?_
  · intro y hy; simp at hy ⊢; rcases hy with rfl | rfl | rfl | rfl | rfl <;> simp
  · intro w A L base fz os R
    have hA : A.handled = none := R.1
    refine EX_cons ?_
    repeat' walk_at "m"
    refine CL_min_strs hA .tup hne fun s1 hs1 hmin => ?_
    repeat' walk_at "m"
    refine CL_max_strs hA .tup hne fun s2 hs2 hmax => ?_
    repeat' walk_at "m"
    have hl1 := hlen s1 hs1
    have hl2 := hlen s2 hs2
    refine ES_for_enum (l := s1) hA rfl (.inl ⟨rfl, rfl⟩) (.inl ⟨rfl, rfl⟩) rfl rfl rfl (by simp) rfl (by decide) rfl (hasc s1 hs1) (fun (i : Nat) (m : Loc) (n : Mut) => n = [] ∧ s1.take i = s2.take i ∧ i ≤ s2.length ∧ (m : Loc) = ([("m", .tup (things.map .str)), ("s1", .str s1), ("s2", .str s2), ("i", .unset), ("c", .unset)] : Loc)) ⟨rfl, rfl, Nat.zero_le _, rfl⟩ ?_ ?_ (fun _ => rfl)
    · rintro i c hc m n ⟨rfl, htk, hi2, rfl⟩
      have hi1 : i < s1.length := (List.getElem?_eq_some_iff.mp hc).1
      have hlt2 := lex_len i s1 s2 htk hi1 (hmax s1 hs1)
      refine ⟨_, _, (by repeat (first | exact Put.head | apply Put.tail)), (by repeat (first | exact Put.head | apply Put.tail)), ?_⟩
      refine EX_cons ?_
      repeat' walk_at "m"
      refine OP2_item_str (c := s2[i]) (by omega) (by simp [hlt2]) (by omega) ?_
      have hg2 : s2[i]? = some s2[i] := List.getElem?_eq_getElem hlt2
      repeat' walk_at "m"
      · rename_i h
        simp only [List.cons.injEq, and_true] at h
        refine ⟨_, ?_, rfl, ?_, hlt2, rfl⟩
        · repeat (first | exact Wk.nil | apply Wk.same | apply Wk.drop)
        · rw [take_succ_get hc, take_succ_get hg2, htk, h]
      · rename_i h
        refine ⟨?_, rfl⟩
        rw [cut_to _ (Int.natCast_nonneg i), Int.toNat_natCast]
        have := pref_eq hs1 hs2 hmin hmax htk (Nat.le_of_lt hi1) hi2 (.inr fun e => h (by rw [hc, hg2] at e; rw [Option.some.inj e]))
        rw [this]; rfl
    · rintro m n ⟨rfl, htk, hi2, rfl⟩
      repeat' walk_at "m"
      refine ⟨?_, rfl⟩
      have := pref_eq hs1 hs2 hmin hmax htk (Nat.le_refl _) hi2 (.inl rfl)
      rw [List.take_length] at this
      rw [← this]; rfl
theorem con_commonprefix (things : List (List Nat)) (hne : things ≠ []) (hl : things.length ≤ 100) (hasc : ∀ t ∈ things, t.all (· < 128) = true) (hlen : ∀ t ∈ things, t.length ≤ 2000) : Con (.fn 71) [.tup (things.map .str)] (.str ((things.headD []).take (commonN things))) 3 := by
  refine con_fnX e_commonprefix (by simp [FL]) ["m"] [("m", .tup (things.map .str)), ("t", .unset), ("x", .unset), ("y", .unset)] (by decide) rfl (.plain rfl (fun vs h => match vs, h with | [a], _ => rfl)) ?_ (by simp only [List.map]; decide) rfl (by decide +kernel) (fun y hy L => by rfl) rfl rfl rfl ?_
  · intro y hy; simp at hy ⊢; rcases hy with rfl | rfl | rfl | rfl <;> simp
  · intro w A L base fz os R
    have hA : A.handled = none := R.1
    obtain ⟨t0, tr, htr⟩ : ∃ t0 tr, things = t0 :: tr := by
      cases things with
      | nil => exact absurd rfl hne
      | cons a r => exact ⟨a, r, rfl⟩
    refine EX_cons ?_
    repeat' walk_at "m"
    refine TR_tup (by rw [List.length_map]; omega) ?_
    rw [show (!decide ((things.map SV.str).length = 0)) = true by rw [htr]; rfl]
    repeat' walk_at "m"
    refine OP2_item_tup (i := 0) (a := .str t0) (by decide) (by rw [List.length_map]; omega) (by rw [htr]; rfl) ?_
    repeat' walk_at "m"
    refine ES_for hA rfl rfl rfl ?_
    repeat' walk_at "m"
    refine ⟨_, .tup, fun (i : Nat) (m : Loc) (n : Mut) => n = [] ∧ (m : Loc) = ([("m", .tup (things.map .str)), ("t", .ty "str"), ("x", .unset), ("y", .unset)] : Loc), ⟨rfl, rfl⟩, ?_, ?_⟩
    · rintro i a ha m n ⟨rfl, rfl⟩
      simp only [List.getElem?_map, Option.map_eq_some_iff] at ha
      obtain ⟨q, hqi, rfl⟩ := ha
      refine put_intro (by repeat (first | exact Put.head | apply Put.tail)) ?_
      refine EX_cons ?_
      repeat' walk_at "m"
      refine CL_con (con_kind _ _) (R.le (by decide)) rfl rfl ?_
      repeat' walk_at "m"
      refine ⟨_, ?_, rfl, rfl⟩
      repeat (first | exact Wk.nil | apply Wk.same | apply Wk.drop)
    · rintro m n ⟨rfl, rfl⟩
      repeat' walk_at "m"
      refine EV_map (List Nat) hA (by decide) rfl (by decide) (by simp) (fun C => rfl) (fun C => rfl) (fun _ => rfl) (fun _ _ => rfl) ?_
      unfold MapOk
      repeat' walk_at "m"
      refine ⟨things, .str, .str, .tup, by omega, pureL_str _, ?_, ?_⟩
      · intro t ht C ys _
        repeat' walk_at "m"
        refine CL_con (con_fspath0 _ _) R rfl rfl ?_
        exact ⟨rfl, rfl⟩
      repeat' walk_at "m"
      refine CL_tuple_list (by rw [List.length_map]; omega) ?_
      repeat' walk_at "m"
      refine CL_con (con_prefix things hne hasc hlen) (R.le (by decide)) (by rw [SV.pureL, SV.pure, pureL_str]; rfl) rfl ?_
      exact ⟨rfl, rfl⟩
end Mine

namespace Mine
open Calls
/-- one default is filled in -/
theorem BindsOk.dflt {e : FnE} {args : List SV} {ps : List Str} {d : Value} {D : SV} {T : Addr} (hd : e.fd.defaults = .ref T) (hS : ∀ h, Stat h → h.get? T = some (tupO [d] 0)) (hlen : ps.length = args.length + 1) (hD : ∀ fz, D.At fz [] d)
    (hb : ∀ vs : List Value, vs.length = args.length → ∃ k, bindArgs e.fd ⟨vs, []⟩ = seqItems? e.fd.defaults >>= k ∧ k (some #[d]) = pure (ps.zip (vs ++ [d]))) : BindsOk e args ps (args ++ [D]) :=
  fun w A E s vs Q hvs S h => by
    obtain ⟨k, h1, h2⟩ := hb vs hvs
    refine BindsTo.of_defaults (s := s) hd (hS _ S) rfl h1 h2 _ _ _ _ ?_
    exact h s.heap (vs ++ [d]) (fun _ _ x => x) (Nat.le_refl _) (by simp [hvs, hlen]) fun fz h2 hat hf _ => (hat.mono (fzN_le hf) (List.prefix_refl _)).append (.cons (hD _) .nil)

/-- the signs of the texts that the law makes -/
noncomputable def lawC : List Nat := [43, 45, 47, 97, 100, 101]
theorem reprChar_law : ∀ c ∈ lawC, Builtin.Str.reprChar 39 c = [c] := by decide +kernel
theorem reprText_law {s : List Nat} (h : ∀ c ∈ s, c ∈ lawC) : reprText ⟨⟨s⟩⟩ = ⟨⟨quoteL s⟩⟩ := by
  have hq : reprQuote ⟨⟨s⟩⟩ = 39 := by
    have : (39 : Nat) ∉ s := fun m => by have := h _ m; revert this; decide
    unfold reprQuote
    simp [this]
  unfold reprText
  rw [hq]
  have key : ∀ (l : List Nat) (acc : Array Nat), (∀ c ∈ l, c ∈ lawC) → l.foldl (fun out c => out ++ (Builtin.Str.reprChar 39 c).toArray) acc = acc ++ l.toArray := by
    intro l
    induction l with
    | nil => intro acc _; simp
    | cons c r ih =>
      intro acc hc
      rw [List.foldl_cons, reprChar_law c (hc c (by simp)), ih _ (fun d hd => hc d (by simp [hd]))]
      apply Array.ext'
      simp
  congr 1
  show Array.push (Array.foldl _ _ ⟨s⟩) 39 = _
  rw [← Array.foldl_toList, key s _ h]
  apply Array.ext'
  simp [quoteL]
theorem CL_repr {x : Cx} {m : Loc} {n : Mut} {P : SV → Mut → Prop} {s : List Nat} (h : ∀ c ∈ s, c ∈ lawC) (hs : s.length ≤ 1000000) (hP : P (.str (quoteL s)) n) : CL x m n (.bi "repr") [.str s] P := fun st fz as vf vs I hf ha => by
  simp only [SV.At] at hf; subst hf
  simp only [SV.AtL, SV.At] at ha; obtain ⟨_, _, rfl, ⟨t, rfl⟩, rfl⟩ := ha
  refine PySem.P.repr_of_str (x := ⟨⟨s⟩⟩) ?_ ?_
  · rw [reprText_law h]
    exact (I.toks _).post (sv := .str (quoteL s)) (at_str _) hP
  · rw [reprText_law h]
    show (quoteL s).length ≤ 16777216
    simp [quoteL]; omega
theorem con_safe_repr (s : List Nat) (h : ∀ c ∈ s, c ∈ lawC) (hs : s.length ≤ 100000) : Con (.fn 86) [.str s] (.str (quoteL s)) 1 := by
  refine con_fnX e_safe_repr (by simp [FL]) ["obj", "short"] [("obj", .str s), ("short", .bool false), ("result", .unset)] (by decide) rfl (.dflt (d := .bool false) (D := .bool false) (T := 79) (args := [.str s]) rfl (fun _ S => S.dflt) rfl (fun fz => by simp only [SV.At]) (fun vs h => match vs, h with | [a], _ => ⟨_, rfl, rfl⟩)) ?_ (by simp only [List.map]; decide) rfl (by decide +kernel) (fun y hy L => by rfl) rfl rfl rfl ?_
  · intro y hy; simp at hy ⊢; rcases hy with rfl | rfl | rfl <;> simp
  · intro w A L base fz os R
    refine EX_cons ?_
    repeat' walk_at "m"
    · refine CL_repr h (by omega) ?_
      repeat' walk_at "m"
      rfl
end Mine

namespace Mine
noncomputable def csrOne (l c : Nat) (p s : List Nat) : List Nat :=
  if (l : Int) ≤ 80 then s else if 80 - ((l : Int) - c + 5 + 12) > 5 then shortenL p 5 (80 - ((l : Int) - c + 5 + 12)) ++ cut s (some (c : Int)) none
  else shortenL p 5 5 ++ shortenL (cut s (some (c : Int)) none) 41 5
theorem shorten_len {s : List Nat} {p q : Int} (hs : s.length ≤ 1000) (hp : p ≤ 1000) (hq : 0 ≤ p + q ∧ p + q ≤ 2000) : (shortenL s p q).length ≤ 3000 := by
  unfold shortenL
  split
  · have a1 := cut_len s none (some p)
    have a2 := cut_len s (some (s.length - q)) none
    have a3 := noteL_len (k := (s.length : Int) - p - q) (by omega)
    unfold noteL at a3
    simp only [List.length_append] at a3 ⊢
    omega
  · omega
theorem take_drop_join {α : Type} (s : List α) {k c : Nat} (h : k ≤ c) : (s.take c).drop k ++ s.drop c = s.drop k := by
  have h2 : (s.take c).drop k = (s.drop k).take (c - k) := by rw [List.drop_take]
  have h3 : s.drop c = (s.drop k).drop (c - k) := by rw [List.drop_drop]; congr 1; omega
  rw [h2, h3, List.take_append_drop]
theorem due_csr {l c : Nat} {p s : List Nat} (hp : p = s.take c) (hc : c ≤ s.length) (hl : s.length ≤ l) : csrOne l c p s = dueOne l c s := by
  have hpl : p.length = c := by rw [hp, List.length_take]; omega
  unfold csrOne dueOne
  by_cases h1 : (l : Int) ≤ 80
  · rw [if_pos h1, if_pos (by omega)]
  rw [if_neg h1, if_neg (show ¬ (l : Int) < 81 by omega)]
  by_cases h2 : 80 - ((l : Int) - c + 5 + 12) > 5
  · rw [if_pos h2, if_pos (show (l : Int) - c < 58 by omega)]
    unfold shortenL cuttL noteL
    rw [hpl, if_pos (by omega)]
    have e1 : ((c : Int) - 5 - (80 - ((l : Int) - c + 5 + 12))) = (l : Int) - 68 := by omega
    have e2 : ((c : Int) - (80 - ((l : Int) - c + 5 + 12))) = (l : Int) - 63 := by omega
    rw [e1, e2, cut_to _ (by decide), cut_to _ (by decide), cut_from _ (by omega), cut_from _ (by omega), cut_from _ (by omega), hp]
    rw [List.take_take, show min (5 : Int).toNat c = (5 : Int).toNat by have : (5 : Int).toNat = 5 := rfl; omega]
    simp only [List.append_assoc]
    rw [show ((c : Int).toNat) = c from Int.toNat_natCast c, take_drop_join s (show ((l : Int) - 63).toNat ≤ c by omega)]
  · rw [if_neg h2, if_neg (show ¬ (l : Int) - c < 58 by omega)]
    congr 1
    · unfold shortenL frontL noteL
      rw [hpl]
      by_cases h3 : (c : Int) < 23
      · rw [if_neg (by omega), if_pos h3, cut_to _ (by omega), hp, Int.toNat_natCast]
      · rw [if_pos (by omega), if_neg h3, cut_to _ (by decide), cut_to _ (by decide), cut_from _ (by omega), cut_mid _ (by omega) (by omega), hp]
        rw [List.take_take, show min (5 : Int).toNat c = (5 : Int).toNat by have : (5 : Int).toNat = 5 := rfl; omega, List.drop_take, Int.toNat_natCast, show (c : Int) - 5 - 5 = (c : Int) - 10 by omega]
        simp only [List.append_assoc]
    · have hd : cut s (some (c : Int)) none = s.drop c := by rw [cut_from _ (Int.natCast_nonneg c), Int.toNat_natCast]
      unfold shortenL restL noteL
      rw [hd]
      have hdl : ((s.drop c).length : Int) = (s.length : Int) - c := by rw [List.length_drop]; omega
      rw [hdl]
      by_cases h3 : (s.length : Int) - c < 59
      · rw [if_neg (by omega), if_pos h3]
      · rw [if_pos (by omega), if_neg h3, show (s.length : Int) - c - 41 - 5 = (s.length : Int) - c - 46 by omega, cut_to _ (by decide), cut_mid _ (by omega) (by omega), cut_from _ (by omega), cut_end _ (by decide)]
        have e5 : (-(-5 : Int)).toNat = 5 := rfl
        have e41 : (41 : Int).toNat = 41 := rfl
        rw [List.drop_drop, Int.toNat_natCast, e5, e41, show ((c : Int) + 41).toNat - c = 41 by omega, show c + ((s.length : Int) - c - 5).toNat = s.length - 5 by omega]
        simp only [List.append_assoc]
end Mine

namespace Mine
open Calls
theorem con_csr (texts : List (List Nat)) (hne : texts ≠ []) (hl : texts.length ≤ 100) (ht : ∀ t ∈ texts, t.length ≤ 900) (hc : ∀ t ∈ texts, ∀ c ∈ t, c ∈ lawC) : ConQ False (.fn 78) (texts.map .str) (.tup ((dueL texts).map .str)) 4 := by
  refine con_fnQ False e_csr (by simp [FL]) (args := texts.map .str) (args' := [.tup (texts.map .str)]) ["args"] [("args", .tup (texts.map .str)), ("maxlen", .unset), ("common_len", .unset), ("prefix", .unset), ("prefixlen", .unset)] (by decide) rfl
    (.var (ps := []) (y := "args") (k := 0) rfl (Nat.zero_le _) (by simp; omega) (fun vs h => match vs with | [] => rfl | v :: r => rfl)) ?_ (by simp only [List.map]; decide) rfl (by decide +kernel) (fun y hy L => by simp at hy; subst hy; rfl) rfl rfl rfl ?_
  · intro y hy; simp at hy ⊢; rcases hy with rfl | rfl | rfl | rfl | rfl <;> simp
  · intro w A L base fz os hos R
    have hA : A.handled = none := R.1
    have hnq : ¬ (Cx.ofC w A e_csr L base fz os).os.q := by show ¬ os.q; rw [hos]; exact fun h => h
    refine EX_cons ?_
    refine ES_assign ?_ rfl rfl rfl rfl
    refine EV_tuple_map ?_ hA ⟨rfl, rfl⟩
    repeat' walk_at "m"
    refine ⟨.fn 86, texts.map .str, rfl, by simp; omega, (texts.map quoteL).map .str, fun i v => ∃ (r : List Nat) (t : Tok), (texts.map quoteL)[i]? = some r ∧ v = .str ⟨⟨r⟩⟩ t, fun fz as vf l hf hl => ?_, by simp, ?_, ?_⟩
    · simp only [SV.At] at hf
      subst hf
      refine CallsOk.con (k := 1) (Room.in1 (R.le (by decide))) hl fun i s hs => ⟨quoteL s, by rw [List.getElem?_map, hs]; rfl, con_safe_repr s (hc s (List.mem_of_getElem? hs)) (by have := ht s (List.mem_of_getElem? hs); omega)⟩
    · rintro i v ⟨r, t, h1, rfl⟩
      exact ⟨.str r, by rw [List.getElem?_map, h1]; rfl, fun fz as => by simp only [SV.At]; exact ⟨t, rfl⟩⟩
    have hth : ∀ t ∈ texts.map quoteL, t.length ≤ 902 := fun t h => by
      simp only [List.mem_map] at h
      obtain ⟨q, hq, rfl⟩ := h
      have := ht q hq
      rw [quote_len]; omega
    have hasc : ∀ t ∈ texts.map quoteL, t.all (· < 128) = true := fun t h => by
      simp only [List.mem_map] at h
      obtain ⟨q, hq, rfl⟩ := h
      have h2 := hc q hq
      simp only [quoteL, List.all_append, List.all_cons, List.all_nil, Bool.and_true, Bool.and_eq_true, List.all_eq_true, decide_eq_true_eq]
      refine ⟨⟨by decide, fun c hcm => ?_⟩, by decide⟩
      have h3 : ∀ c ∈ lawC, c < 128 := by decide
      exact h3 c (h2 c hcm)
    have hne2 : texts.map quoteL ≠ [] := by simpa using hne
    have hl2 : (texts.map quoteL).length ≤ 100 := by simpa using hl
    have hlong : longN (texts.map quoteL) ≤ 902 := maxN_le fun a ha => by
      simp only [List.mem_map] at ha
      obtain ⟨q, ⟨t, htm, rfl⟩, rfl⟩ := ha
      have := ht t htm
      rw [quote_len]; omega
    unfold dueL
    try dsimp only
    generalize texts.map quoteL = things at hth hasc hne2 hl2 hlong ⊢
    refine put_intro (by repeat (first | exact Put.head | apply Put.tail)) ?_
    refine EX_cons ?_
    refine ES_assign ?_ rfl rfl rfl rfl
    refine EV_max_map ?_ hA ⟨rfl, rfl⟩
    repeat' walk_at "m"
    refine ⟨.bi "len", things.map .str, rfl, things.map (·.length), fun i v => ∃ (r : Nat) (t : Tok), (things.map (·.length))[i]? = some r ∧ v = .int r t, fun fz as vf l hf hl => ?_, by simp, by simpa using hne2, fun i v h => h, ?_⟩
    · simp only [SV.At] at hf
      subst hf
      exact CallsOk.len (fun s hs => by have := hth s hs; omega) hl
    have hcs := common_spec (things := things)
    have hcle : ∀ t ∈ things, commonN things ≤ t.length := fun t h => common_le h
    have hmx : maxN (things.map (·.length)) = longN things := rfl
    have hok := hcs.1
    have hpre : ∀ t ∈ things, (things.headD []).take (commonN things) = t.take (commonN things) := fun t htm => by
      unfold okK at hok
      rw [List.all_eq_true] at hok
      have := hok t htm
      simp only [badK, Bool.not_eq_true', Bool.or_eq_false_iff, Bool.not_eq_false', decide_eq_true_eq, decide_eq_false_iff_not] at this
      exact this.1.symm
    have hlt : ∀ t ∈ things, t.length ≤ longN things := fun t h => le_maxN (List.mem_map_of_mem h)
    have hpl : ((things.headD []).take (commonN things)).length = commonN things := by
      have hm : things.headD [] ∈ things := by
        cases things with
        | nil => exact absurd rfl hne2
        | cons a r => simp
      have := hcle _ hm
      rw [List.length_take]; omega
    have hdue : things.map (dueOne (longN things) (commonN things)) = things.map (csrOne (longN things) (commonN things) ((things.headD []).take (commonN things))) := List.map_congr_left fun t htm => (due_csr (hpre t htm) (hcle t htm) (hlt t htm)).symm
    rw [hmx, hdue]
    repeat' walk_at "m"
    · rename_i h
      have : things.map (csrOne (longN things) (commonN things) ((things.headD []).take (commonN things))) = things := by
        conv => rhs; rw [← List.map_id things]
        exact List.map_congr_left fun t _ => by rw [csrOne, if_pos h]; rfl
      rw [this]
      exact ⟨rfl, by rw [SV.pure]; exact pureL_str _⟩
    rename_i h1
    clear hdue hmx
    have hcc : commonN things ≤ 902 := by omega
    refine ES_assign_var ?_ rfl (.inr ⟨rfl, L + 1, rfl, fun z d h e => ?_⟩) rfl
    rotate_left
    · rcases lookup_two h with ⟨_, h2⟩ | ⟨h1, _⟩
      · exact absurd (h2.symm.trans e) (Nat.succ_ne_self _)
      · exact h1
    repeat' walk_at "m"
    refine CL_con (con_commonprefix things hne2 hl2 hasc (fun t h => by have := hth t h; omega)) R (by rw [SV.pureL, SV.pure, pureL_str]; rfl) rfl ?_
    generalize hp0 : (things.headD []).take (commonN things) = p0 at hpl hpre ⊢
    generalize hc0 : commonN things = c0 at hpl hpre hcle hcs hcc ⊢
    generalize hl0 : longN things = l0 at hcs hlong hlt h1 ⊢
    repeat' walk_at "m"
    refine ES_assign_var ?_ rfl (.inr ⟨rfl, L + 2, rfl, fun z d h e => ?_⟩) rfl
    rotate_left
    · rcases lookup_two h with ⟨h1, _⟩ | ⟨_, h2⟩
      · exact h1
      · exact absurd (h2.symm.trans e) (Nat.ne_of_lt (Nat.lt_succ_self _))
    repeat' walk_at "m"
    · rename_i hi1 hi2
      refine ES_assign_var ?_ rfl (.inr ⟨rfl, L + 1, rfl, fun z d h e => ?_⟩) rfl
      rotate_left
      · rcases lookup_two h with ⟨_, h2⟩ | ⟨h1, _⟩
        · exact absurd (h2.symm.trans e) (Nat.succ_ne_self _)
        · exact h1
      repeat' walk_at "m"
      have hsk : 80 - ((l0 : Int) - p0.length + 5 + 12) ≤ 1000 := by omega
      refine CL_con (con_shorten p0 5 _ (by omega) (by decide) (by omega) (by decide) hsk) (R.le (by decide)) rfl rfl ?_
      refine put_intro (by repeat (first | exact Put.head | apply Put.tail)) ?_
      refine EX_cons ?_
      refine ES_return ?_
      refine EV_tuple_gen (cl := [("prefixlen", L + 2), ("prefix", L + 1)]) hA (by have := R.2.1; show A.depth < _; omega) hnq rfl rfl rfl rfl (by decide) rfl rfl rfl (fun _ => rfl) ?_
      repeat' walk_at "m"
      refine ⟨things, things.map (csrOne l0 c0 p0), rfl, by omega, by simp, ?_, ?_⟩
      · exact ⟨rfl, by rw [SV.pure]; exact pureL_str _⟩
      intro A' H C code mC i xi ri hA' hD hU S T hxi hri hC hs hcell
      obtain ⟨o1, v1, fz1, as1, q1, q2, q3⟩ := hcell "prefix" (L + 1) (.str _) rfl (by repeat (first | exact List.mem_cons_self | refine List.mem_cons_of_mem _ ?_)) (fun e => nomatch e)
      obtain ⟨o2, v2, fz2, as2, r1, r2, r3⟩ := hcell "prefixlen" (L + 2) (.int _) rfl (by repeat (first | exact List.mem_cons_self | refine List.mem_cons_of_mem _ ?_)) (fun e => nomatch e)
      simp only [SV.At] at q3 r3
      obtain ⟨t, hst⟩ := hs
      have hxm := List.mem_of_getElem? hxi
      have hxl := hth xi hxm
      have hri' : ri = csrOne l0 c0 p0 xi := by
        rw [List.getElem?_map, hxi] at hri
        exact (Option.some.inj hri).symm
      rw [csrOne, if_neg h1, if_pos (by omega), ← hpl] at hri'
      rw [hri']
      have a1 := shorten_len (p := 5) (q := 80 - ((l0 : Int) - p0.length + 5 + 12)) (s := p0) (by omega) (by omega) (by omega)
      have a2 := cut_len xi (some (p0.length : Int)) none
      refine KV_add (KV_free q1 q2 q3 rfl rfl rfl rfl rfl) (KV_cut (KV_loc hC hst ⟨t, rfl⟩ rfl rfl rfl) (KV_free r1 r2 r3 rfl rfl rfl rfl rfl) (by omega)) (by omega)
    · exfalso; omega
    · rename_i hi2
      refine ES_assign_var ?_ rfl (.inr ⟨rfl, L + 1, rfl, fun z d h e => ?_⟩) rfl
      rotate_left
      · rcases lookup_two h with ⟨_, h2⟩ | ⟨h1, _⟩
        · exact absurd (h2.symm.trans e) (Nat.succ_ne_self _)
        · exact h1
      repeat' walk_at "m"
      refine CL_con (con_shorten p0 5 5 (by omega) (by decide) (by omega) (by decide) (by decide)) (R.le (by decide)) rfl rfl ?_
      refine put_intro (by repeat (first | exact Put.head | apply Put.tail)) ?_
      refine EX_cons ?_
      refine ES_return ?_
      refine EV_tuple_gen (cl := [("prefixlen", L + 2), ("prefix", L + 1)]) hA (by have := R.2.1; show A.depth < _; omega) hnq rfl rfl rfl rfl (by decide) rfl rfl rfl (fun _ => rfl) ?_
      repeat' walk_at "m"
      refine ⟨things, things.map (csrOne l0 c0 p0), rfl, by omega, by simp, ?_, ?_⟩
      · exact ⟨rfl, by rw [SV.pure]; exact pureL_str _⟩
      intro A' H C code mC i xi ri hA' hD hU S T hxi hri hC hs hcell
      obtain ⟨o1, v1, fz1, as1, q1, q2, q3⟩ := hcell "prefix" (L + 1) (.str _) rfl (by repeat (first | exact List.mem_cons_self | refine List.mem_cons_of_mem _ ?_)) (fun e => nomatch e)
      obtain ⟨o2, v2, fz2, as2, r1, r2, r3⟩ := hcell "prefixlen" (L + 2) (.int _) rfl (by repeat (first | exact List.mem_cons_self | refine List.mem_cons_of_mem _ ?_)) (fun e => nomatch e)
      simp only [SV.At] at q3 r3
      obtain ⟨t, hst⟩ := hs
      have hxm := List.mem_of_getElem? hxi
      have hxl := hth xi hxm
      have hri' : ri = csrOne l0 c0 p0 xi := by
        rw [List.getElem?_map, hxi] at hri
        exact (Option.some.inj hri).symm
      rw [csrOne, if_neg h1, if_neg (by omega), ← hpl] at hri'
      rw [hri']
      have a1 := shorten_len (p := 5) (q := 5) (s := p0) (by omega) (by omega) (by omega)
      have a2 := cut_len xi (some (p0.length : Int)) none
      have a3 := shorten_len (p := 41) (q := 5) (s := cut xi (some (p0.length : Int)) none) (by omega) (by omega) (by omega)
      refine KV_add (KV_free q1 q2 q3 rfl rfl rfl rfl rfl) (KV_call3 (e := e_shorten) (k := 1) (A := .str (cut xi (some (p0.length : Int)) none)) (B := .int 41) (C := .int 5) S T (by simp [FL]) (KV_glob S (v := .ref 45) ?_ rfl rfl rfl rfl rfl) (KV_cut (KV_loc hC hst ⟨t, rfl⟩ rfl rfl rfl) (KV_free r1 r2 r3 rfl rfl rfl rfl rfl) (by omega)) (KV_glob S (v := .int 41 305) (R := isInt 41) ?_ ⟨_, rfl⟩ rfl rfl rfl rfl)
        (KV_glob S (v := .int 5 297) (R := isInt 5) ?_ ⟨_, rfl⟩ rfl rfl rfl rfl) (fun v h => by simpa only [SV.At] using h) (fun v h => by simpa only [SV.At] using h) (fun v h => by simpa only [SV.At] using h) (con_shorten _ 41 5 (by omega) (by decide) (by decide) (by decide) (by decide)) ?_ rfl) (by omega)
      · show _ ∈ GL; unfold GL; repeat (first | exact List.mem_cons_self | refine List.mem_cons_of_mem _ ?_)
      · show _ ∈ GL; unfold GL; repeat (first | exact List.mem_cons_self | refine List.mem_cons_of_mem _ ?_)
      · show _ ∈ GL; unfold GL; repeat (first | exact List.mem_cons_self | refine List.mem_cons_of_mem _ ?_)
      · have R1 := R.2.1
        have R2 := R.2.2
        have hD' : A'.depth ≤ A.depth + 1 := hD
        have hU' : A'.units ≤ A.units + 8 := hU
        show Room A' 1
        exact ⟨hA', by omega, by omega⟩
end Mine

namespace Mine
open Calls
theorem con_escape (c : Nat) (hc : c ∈ patC) : Con (.fn 110) [.str [c]] (.str (escL c)) 1 := by
  refine con_fnX e_escape (by simp [FL]) ["pattern"] [("pattern", .str [c])] (by decide) rfl (.plain rfl (fun vs h => match vs, h with | [a], _ => rfl)) ?_ (by simp only [List.map]; decide) rfl (by decide +kernel) (fun y hy L => by rfl) rfl rfl rfl ?_
  · intro y hy; simp at hy ⊢; rcases hy with rfl; simp
  · intro w A L base fz os R
    have hA : A.handled = none := R.1
    refine EX_cons ?_
    repeat' walk_at "m"
    refine CL_translate hA hc ?_
    exact ⟨rfl, rfl⟩
noncomputable def partL (c : Nat) : List Nat := if c = 63 then [46] else escL c
theorem con_translate0 (pat : List Nat) (hp : ∀ c ∈ pat, c ∈ patC ∨ c = 63) (hl : pat.length ≤ 2000) : Con (.fn 117) [.str pat, .objv, .str [46]] (.list (pat.map fun c => .str (partL c))) 2 := by
  refine con_fnX e_translate0 (by simp [FL]) ["pat", "STAR", "QUESTION_MARK"] [("pat", .str pat), ("STAR", .objv), ("QUESTION_MARK", .str [46]), ("res", .unset), ("add", .unset), ("i", .unset), ("n", .unset), ("c", .unset)] (by decide) rfl (.plain rfl (fun vs h => match vs, h with | [a, b, c], _ => rfl)) ?_ (by simp only [List.map]; decide) rfl (by decide +kernel) (fun y hy L => by rfl) rfl rfl rfl ?_
  · intro y hy; simp at hy ⊢; rcases hy with rfl | rfl | rfl | rfl | rfl | rfl | rfl | rfl <;> simp
  · intro w A L base fz os R
    have hA : A.handled = none := R.1
    refine EX_cons ?_
    refine ES_assign ?_ rfl rfl rfl rfl
    refine EV_mlist ?_
    refine put_intro (by repeat (first | exact Put.head | apply Put.tail)) ?_
    refine EX_cons ?_
    refine ES_assign ?_ rfl rfl rfl rfl
    refine EV_attr_append ?_
    repeat' walk_at "m"
    refine ES_tup_sw (ys := ["i", "n"]) hA rfl (fun y hy => by
      simp at hy
      rcases hy with rfl | rfl <;> exact .inl ⟨rfl, rfl⟩) rfl rfl ?_
    repeat' walk_at "m"
    refine ⟨_, .tup, rfl, _, .cons (by repeat (first | exact Put.head | apply Put.tail)) (.cons (by repeat (first | exact Put.head | apply Put.tail)) .nil), ?_⟩
    refine EX_cons ?_
    refine ES_while (fun (k : Nat) (m : Loc) (n : Mut) => ∃ i : Nat, k = pat.length - i ∧ i ≤ pat.length ∧ n = [(pat.take i).map fun c => .str (partL c)] ∧ m = ([("pat", .str pat), ("STAR", .objv), ("QUESTION_MARK", .str [46]), ("res", .ml 0), ("add", .app 0), ("i", .int i), ("n", .int pat.length), ("c", .unset)] : Loc)) pat.length ⟨0, by omega, by omega, rfl, rfl⟩ ?_
    rintro k m n ⟨i, rfl, hi, rfl, rfl⟩
    have htl : (pat.take i).length ≤ 2000 := by rw [List.length_take]; omega
    repeat' walk_at "m"
    · rename_i hlt
      obtain ⟨q, hq⟩ : ∃ q, pat[i]? = some q := ⟨_, List.getElem?_eq_getElem (by omega)⟩
      have hqm := hp q (List.mem_of_getElem? hq)
      have E : (pat.take (i + 1)).map (fun c => SV.str (partL c)) = (pat.take i).map (fun c => SV.str (partL c)) ++ [.str (partL q)] := by rw [take_succ_get hq, List.map_append]; rfl
      have n1 : ¬ [q] = (Str.ofString "*").cps.toList := fun h => by
        have h2 : [q] = [42] := h
        simp only [List.cons.injEq, and_true] at h2
        subst h2
        revert hqm; decide
      have n2 : ¬ [q] = (Str.ofString "[").cps.toList := fun h => by
        have h2 : [q] = [91] := h
        simp only [List.cons.injEq, and_true] at h2
        subst h2
        revert hqm; decide
      refine OP2_item_str (c := q) (by omega) (by rw [Int.toNat_natCast]; exact hq) (by omega) ?_
      repeat' walk_at "m"
      all_goals try (exfalso; contradiction)
      · rename_i h1 h2 h3 h4
        have hq63 : q = 63 := by
          have h5 : [q] = [63] := h4
          simpa using h5
        have hpq : partL q = [46] := by rw [partL, if_pos hq63]
        rw [hpq] at E
        refine CL_app rfl (by rw [List.length_map]; omega) ?_
        repeat (refine EX_nil ?_)
        refine ⟨pat.length - (i + 1), by omega, _, ?_, i + 1, rfl, by omega, ?_, rfl⟩
        · repeat (first | exact Wk.nil | apply Wk.same | apply Wk.drop)
        · rw [E]; rfl
      · rename_i h1 h2 h3 h4 h5 h6
        have hq63 : q ≠ 63 := fun e => h4 (by rw [e]; rfl)
        have hpq : partL q = escL q := by rw [partL, if_neg hq63]
        rw [hpq] at E
        refine CL_con (con_escape q (hqm.resolve_right hq63)) R rfl rfl ?_
        repeat' walk_at "m"
        refine CL_app rfl (by rw [List.length_map]; omega) ?_
        repeat (refine EX_nil ?_)
        refine ⟨pat.length - (i + 1), by omega, _, ?_, i + 1, rfl, by omega, ?_, rfl⟩
        · repeat (first | exact Wk.nil | apply Wk.same | apply Wk.drop)
        · rw [E]; rfl
    · rename_i h1 h2
      have : i = pat.length := by omega
      subst this
      rw [List.take_length]
      refine ⟨rfl, ?_⟩
      have := pureL_str (pat.map partL)
      rw [List.map_map] at this
      rw [SV.pure]; exact this
    · rename_i h1 h2
      exact absurd (show (i : Int) = pat.length by omega) h2
end Mine

namespace Mine
open Calls
theorem joinS_nil : ∀ l : List (List Nat), joinS [] l = l.flatten
  | [] => rfl
  | [a] => by simp [joinS]
  | a :: b :: r => by
    have := joinS_nil (b :: r)
    simp [joinS] at this ⊢
    exact this
noncomputable def fnmL (s : List Nat) : List Nat := tx "(?s:" ++ s ++ tx ")\\Z"
theorem con_joinparts (parts : List (List Nat)) (hl : parts.length ≤ 2000) (hs : (parts.map (·.length)).sum ≤ 100000) : Con (.fn 124) [.list (parts.map .str), .objv] (.str (fnmL parts.flatten)) 1 := by
  refine con_fnX e_joinparts (by simp [FL]) ["inp", "STAR"] [("inp", .list (parts.map .str)), ("STAR", .objv), ("res", .unset), ("add", .unset), ("i", .unset), ("n", .unset)] (by decide) rfl (.plain rfl (fun vs h => match vs, h with | [a, b], _ => rfl)) ?_ (by simp only [List.map]; decide) rfl (by decide +kernel) (fun y hy L => by rfl) rfl rfl rfl ?_
  · intro y hy; simp at hy ⊢; rcases hy with rfl | rfl | rfl | rfl | rfl | rfl <;> simp
  · intro w A L base fz os R
    have hA : A.handled = none := R.1
    refine EX_cons ?_
    refine ES_assign ?_ rfl rfl rfl rfl
    refine EV_mlist ?_
    refine put_intro (by repeat (first | exact Put.head | apply Put.tail)) ?_
    refine EX_cons ?_
    refine ES_assign ?_ rfl rfl rfl rfl
    refine EV_attr_append ?_
    repeat' walk_at "m"
    refine ES_tup_sw (ys := ["i", "n"]) hA rfl (fun y hy => by
      simp at hy
      rcases hy with rfl | rfl <;> exact .inl ⟨rfl, rfl⟩) rfl rfl ?_
    repeat' walk_at "m"
    refine CL_len_list (by rw [List.length_map]; omega) ?_
    rw [List.length_map]
    repeat' walk_at "m"
    refine ⟨_, .tup, rfl, _, .cons (by repeat (first | exact Put.head | apply Put.tail)) (.cons (by repeat (first | exact Put.head | apply Put.tail)) .nil), ?_⟩
    refine EX_cons ?_
    refine ES_while (fun (k : Nat) (m : Loc) (n : Mut) => ∃ i : Nat, k = parts.length - i ∧ i ≤ parts.length ∧ n = [(parts.take i).map .str] ∧ m = ([("inp", .list (parts.map .str)), ("STAR", .objv), ("res", .ml 0), ("add", .app 0), ("i", .int i), ("n", .int parts.length)] : Loc)) parts.length ⟨0, by omega, by omega, rfl, rfl⟩ ?_
    rintro k m n ⟨i, rfl, hi, rfl, rfl⟩
    have htl : (parts.take i).length ≤ 2000 := by rw [List.length_take]; omega
    repeat' walk_at "m"
    · rename_i hlt
      obtain ⟨q, hq⟩ : ∃ q, parts[i]? = some q := ⟨_, List.getElem?_eq_getElem (by omega)⟩
      have E : (parts.take (i + 1)).map SV.str = (parts.take i).map SV.str ++ [.str q] := by rw [take_succ_get hq, List.map_append]; rfl
      have hq' : (parts.map SV.str)[(i : Int).toNat]? = some (.str q) := by rw [Int.toNat_natCast, List.getElem?_map, hq]; rfl
      refine OP2_item_list (a := .str q) (by omega) (by omega) hq' ?_
      repeat' walk_at "m"
      refine OP2_item_list (a := .str q) (by omega) (by omega) hq' ?_
      repeat' walk_at "m"
      refine CL_app rfl (by rw [List.length_map]; omega) ?_
      repeat' walk_at "m"
      refine OP2_iadd_int ?_
      repeat' walk_at "m"
      refine ⟨parts.length - (i + 1), by omega, _, ?_, i + 1, rfl, by omega, ?_, rfl⟩
      · repeat (first | exact Wk.nil | apply Wk.same | apply Wk.drop)
      · rw [E]; rfl
    · rename_i hge
      have : i = parts.length := by omega
      subst this
      rw [List.take_length]
      refine ES_while (fun (k : Nat) (m : Loc) (n : Mut) => n = [parts.map .str] ∧ m = ([("inp", .list (parts.map .str)), ("STAR", .objv), ("res", .ml 0), ("add", .app 0), ("i", .int parts.length), ("n", .int parts.length)] : Loc)) 0 ⟨rfl, rfl⟩ ?_
      rintro k m n ⟨rfl, rfl⟩
      repeat' walk_at "m"
      · rename_i h
        exact absurd h (by omega)
      · refine CL_join_ml (l := parts) rfl ?_ ?_
        · show (parts.map fun s => s.length + 0).sum ≤ 1000000
          exact Nat.le_trans hs (by decide)
        · show ∃ m', Put "res" (.str (joinS [] parts)) _ m' ∧ _
          rw [joinS_nil]
          have hf : parts.flatten.length ≤ 100000 := by rw [List.length_flatten]; exact hs
          refine put_intro (by repeat (first | exact Put.head | apply Put.tail)) ?_
          refine EX_cons ?_
          refine ES_return ?_
          refine EV_fstr ?_ rfl
          repeat' walk_at "m"
          refine ⟨hf, ?_⟩
          exact ⟨rfl, rfl⟩
      · rename_i h
        exact absurd rfl h
theorem pat_sum {pat : List Nat} (hl : pat.length ≤ 2000) : ((pat.map partL).map (·.length)).sum ≤ 100000 := by
  have : ∀ l : List Nat, ((l.map partL).map (·.length)).sum ≤ 2 * l.length := by
    intro l
    induction l with
    | nil => simp
    | cons a r ih =>
      have h1 : (partL a).length ≤ 2 := by
        unfold partL escL
        split
        · simp
        · split <;> simp
      simp only [List.map_cons, List.sum_cons, List.length_cons]
      omega
  have := this pat
  omega
/-- what fnmatch's translate makes -/
noncomputable def transL (pat : List Nat) : List Nat := fnmL (pat.map partL).flatten
theorem con_translate (pat : List Nat) (hp : ∀ c ∈ pat, c ∈ patC ∨ c = 63) (hl : pat.length ≤ 2000) : Con (.fn 98) [.str pat] (.str (transL pat)) 3 := by
  refine con_fnX e_translate (by simp [FL]) ["pat"] [("pat", .str pat), ("STAR", .unset), ("parts", .unset)] (by decide) rfl (.plain rfl (fun vs h => match vs, h with | [a], _ => rfl)) ?_ (by simp only [List.map]; decide) rfl (by decide +kernel) (fun y hy L => by rfl) rfl rfl rfl ?_
  · intro y hy; simp at hy ⊢; rcases hy with rfl | rfl | rfl <;> simp
  · intro w A L base fz os R
    have hA : A.handled = none := R.1
    refine EX_cons ?_
    repeat' walk_at "m"
    refine CL_object ?_
    repeat' walk_at "m"
    refine CL_con (con_translate0 pat hp hl) R rfl rfl ?_
    rw [show (pat.map fun c => SV.str (partL c)) = (pat.map partL).map SV.str by rw [List.map_map]; rfl]
    repeat' walk_at "m"
    refine CL_con (con_joinparts (pat.map partL) (by rw [List.length_map]; omega) (pat_sum hl)) (R.le (by decide)) (by rw [SV.pureL, SV.pure, pureL_str]; rfl) rfl ?_
    exact ⟨rfl, rfl⟩
end Mine

namespace Mine
open Calls
theorem OP2_eq_listE {x : Cx} {m : Loc} {n : Mut} {P : SV → Mut → Prop} {xs ys : List SV} (he : xs = ys) (hc : SV.cmpL ys = true) (hu : x.A.units + SV.depL ys + 1 < cLine) (h : P (.bool true) n) : OP2 x m n (.list xs) (.list ys) (compareOp .Eq) P := by
  subst he
  exact OP2_eq_list hc hu h
theorem con_law_shortens : Con (.fn 275) [] (.bool true) 2 := by
  refine con_fnX e_law_shortens (by simp [FL]) [] [("texts", .unset), ("told", .unset), ("first", .unset), ("second", .unset)] (by decide) rfl (.plain rfl (fun vs h => match vs, h with | [], _ => rfl)) ?_ (by simp only [List.map]; decide) rfl (by decide +kernel) (fun y hy L => by rfl) rfl rfl rfl ?_
  · intro y hy; simp at hy ⊢; rcases hy with rfl | rfl | rfl | rfl <;> simp
  · intro w A L base fz os R
    have hA : A.handled = none := R.1
    refine EX_cons ?_
    repeat' walk_at "m"
    refine OP2_mul_str (by decide) (by decide) (by decide) ?_
    repeat' walk_at "m"
    generalize hT1 : rep (Str.ofString "abcdefgh").cps.toList (Int.toNat 5) = T1
    generalize hT2 : (Str.ofString "abcdefghijabcdefghijklm").cps.toList = T2
    generalize hT3 : (Str.ofString "abcdefghijklmnopqrstuv").cps.toList = T3
    generalize hT4 : (Str.ofString "abc").cps.toList = T4
    have l1 : T1.length ≤ 60 := by rw [← hT1]; decide
    have l2 : T2.length ≤ 60 := by rw [← hT2]; decide
    have l3 : T3.length ≤ 60 := by rw [← hT3]; decide
    have l4 : T4.length ≤ 60 := by rw [← hT4]; decide
    refine ES_assign_map (List Nat) hA rfl (.inl ⟨rfl, rfl⟩) rfl (by decide) rfl (by decide) (by simp) (fun C => rfl) (fun C => rfl) (fun _ => rfl) (fun _ _ => rfl) ?_
    unfold MapOk
    repeat' walk_at "m"
    refine ⟨[T1, T2, T3, T4], .str, fun t => .list [.str (shortenL t 4 6), .str (shortenL t 5 0)], .list, by simp, rfl, ?_, ?_⟩
    · intro t ht C ys _
      have hl : t.length ≤ 60 := by
        simp only [List.mem_cons, List.not_mem_nil, or_false] at ht
        rcases ht with rfl | rfl | rfl | rfl <;> assumption
      repeat' walk_at "m"
      refine CL_con (con_shorten t 4 6 (by omega) (by decide) (by decide) (by decide) (by decide)) R rfl rfl ?_
      repeat' walk_at "m"
      refine CL_con (con_shorten t 5 0 (by omega) (by decide) (by decide) (by decide) (by decide)) R rfl rfl ?_
      repeat' walk_at "m"
    have a1 := cut_len T1 none (some 4)
    have a2 := cut_len T1 (some (-6)) none
    have a3 := cut_len T1 none (some 5)
    have b1 := cut_len T2 none (some 4)
    have b2 := cut_len T2 (some (-6)) none
    have b3 := cut_len T2 none (some 5)
    have c1 := cut_len T3 none (some 5)
    repeat' walk_at "m"
    repeat
      first
        | refine OP2_item_list (i := 0) (a := .str T1) (by decide) (by decide) rfl ?_
        | refine OP2_item_list (i := 1) (a := .str T2) (by decide) (by decide) rfl ?_
        | refine OP2_item_list (i := 2) (a := .str T3) (by decide) (by decide) rfl ?_
      repeat' walk_at "m"
    refine OP2_eq_listE ?_ rfl ?_ ?_
    · subst hT1 hT2 hT3 hT4
      kernel_rfl
    · have := R.2.2
      simp only [SV.depL, SV.dep]
      have hu : (Cx.ofC w A e_law_shortens L base fz os).A.units = A.units := rfl
      omega
    · exact ⟨rfl, rfl⟩
end Mine

namespace Mine
noncomputable def numsL (xs : List Int) : List Int := xs.take 2 ++ [88, 74, 44]
noncomputable def totL (xs : List Int) : Int := (xs.take 2).sum
noncomputable def nameC : List Nat := [43, 45, 97, 100, 101]
theorem mem_rep {a k c : Nat} (h : c ∈ rep [a] k) : c = a := by
  unfold rep at h
  simp only [List.mem_flatten, List.mem_replicate] at h
  obtain ⟨l, ⟨_, rfl⟩, h⟩ := h
  simpa using h
theorem chr3_mem (i : Int) : chr3 i ∈ nameC := by
  unfold chr3
  split
  · decide
  · split <;> decide
noncomputable def NameOk (n : List Nat) : Prop := n ≠ [] ∧ ∀ c ∈ n, c ∈ nameC
theorem rep_ok {a k : Nat} (ha : a ∈ nameC) (hk : 0 < k) : NameOk (rep [a] k) := by
  refine ⟨fun e => ?_, fun c hc => by rw [mem_rep hc]; exact ha⟩
  have := congrArg List.length e
  rw [rep_len] at this
  simp at this; omega
theorem nm_ok (x : Int) : NameOk (nm x) ∧ (nm x).length ≤ 30 := by
  have h := fmod_lt (a := x.fdiv 3) (b := 30) (by decide)
  refine ⟨rep_ok (chr3_mem _) (by omega), ?_⟩
  unfold nm
  rw [rep_len]
  simp; omega
theorem many_ok (t : Int) : 4 ≤ manyL t ∧ manyL t ≤ 60 := by
  have h := fmod_lt (a := t.fdiv 3) (b := 57) (by decide)
  unfold manyL; omega
theorem last_ok (t : Int) : NameOk (lastL t) ∧ (lastL t).length ≤ 61 := by
  have h := many_ok t
  unfold lastL
  split
  · exact ⟨rep_ok (by decide) (by omega), by rw [rep_len]; simp; omega⟩
  · split
    · exact ⟨rep_ok (by decide) (by omega), by rw [rep_len]; simp; omega⟩
    · exact ⟨rep_ok (by decide) (by omega), by rw [rep_len]; simp; omega⟩
structure RowOk (r : List (List Nat)) : Prop where
  names : ∀ n ∈ r, NameOk n
  sum : (r.map (·.length + 1)).sum ≤ 217
  len : r.length ≤ 6
  last : ∃ i z, r = i ++ [z] ∧ i ≠ []
theorem row_ok {nums : List Int} {z : List Nat} (hn : nums.length ≤ 5) (hne : nums ≠ []) (hz : NameOk z ∧ z.length ≤ 61) : RowOk (nums.map nm ++ [z]) := by
  refine ⟨fun n h => ?_, ?_, by simp; omega, _, _, rfl, by simpa using hne⟩
  · simp only [List.mem_append, List.mem_map, List.mem_singleton] at h
    rcases h with ⟨x, _, rfl⟩ | rfl
    · exact (nm_ok x).1
    · exact hz.1
  · have : ∀ l : List Int, ((l.map nm).map (·.length + 1)).sum ≤ 31 * l.length := by
      intro l
      induction l with
      | nil => simp
      | cons a r ih =>
        have := (nm_ok a).2
        simp only [List.map_cons, List.sum_cons, List.length_cons]; omega
    have := this nums
    rw [List.map_append, List.sum_append]
    simp only [List.map_cons, List.map_nil, List.sum_cons, List.sum_nil]
    omega
theorem nums_len (xs : List Int) : (numsL xs).length ≤ 5 ∧ numsL xs ≠ [] := by
  unfold numsL
  refine ⟨by rw [List.length_append, List.length_take]; simp; omega, by simp⟩
theorem row1_ok (xs : List Int) : RowOk (row1 (numsL xs) (totL xs)) := row_ok (nums_len xs).1 (nums_len xs).2 ⟨rep_ok (by decide) (by have := many_ok (totL xs); omega), by
  have := many_ok (totL xs)
  rw [rep_len]; simp; omega⟩
theorem row2_ok (xs : List Int) : RowOk (row2 (numsL xs) (totL xs)) := row_ok (nums_len xs).1 (nums_len xs).2 (last_ok _)
theorem NameOk.path {n : List Nat} (h : NameOk n) : n ≠ [] ∧ 47 ∉ n ∧ n ≠ [46] ∧ n ≠ [46, 46] :=
  ⟨h.1, fun m => absurd (h.2 _ m) (by decide), fun e => absurd (h.2 46 (by rw [e]; simp)) (by decide), fun e => absurd (h.2 46 (by rw [e]; simp)) (by decide)⟩
noncomputable def pathL (r : List (List Nat)) : List Nat := 47 :: joinS [47] r
noncomputable def lastN (r : List (List Nat)) : List Nat := (r.getLast?).getD []
theorem lastN_snoc (i : List (List Nat)) (z : List Nat) : lastN (i ++ [z]) = z := by simp [lastN]
theorem joinS_mem {s : List Nat} : ∀ {l : List (List Nat)} {c : Nat}, c ∈ joinS s l → c ∈ s ∨ ∃ x ∈ l, c ∈ x
  | [], c, h => by simp [joinS] at h
  | [a], c, h => .inr ⟨a, by simp, h⟩
  | a :: b :: r, c, h => by
    have h : c ∈ a ++ s ++ joinS s (b :: r) := h
    simp only [List.mem_append] at h
    rcases h with (h | h) | h
    · exact .inr ⟨a, by simp, h⟩
    · exact .inl h
    · rcases joinS_mem h with h | ⟨x, h1, h2⟩
      · exact .inl h
      · exact .inr ⟨x, by simp at h1 ⊢; exact .inr h1, h2⟩
theorem path_mem {r : List (List Nat)} (h : RowOk r) : ∀ c ∈ pathL r, c ∈ lawC := by
  intro c hc
  unfold pathL at hc
  rcases List.mem_cons.mp hc with rfl | hc
  · decide
  · rcases joinS_mem hc with h1 | ⟨x, h1, h2⟩
    · simp at h1; subst h1; decide
    · have := (h.names x h1).2 c h2
      exact (by decide : ∀ x ∈ nameC, x ∈ lawC) c this
theorem path_len {r : List (List Nat)} (h : RowOk r) : (pathL r).length ≤ 218 := by
  have h1 := joinS_len 47 r
  have h2 := h.sum
  unfold pathL
  simp only [List.length_cons]; omega
theorem path_base {i : List (List Nat)} {z : List Nat} (h : i ≠ []) : pathL (i ++ [z]) = (47 :: joinS [47] i) ++ 47 :: z := by
  unfold pathL
  rw [joinS_snoc _ _ _ h]; simp
theorem cut_mem {l : List Nat} {a b : Option Int} {x : Nat} (h : x ∈ cut l a b) : x ∈ l := by
  unfold cut at h
  exact List.mem_of_mem_drop (List.mem_of_mem_take h)
/-- what one of the shorts is: a text with notes -/
structure Noted (t t0 : List Nat) (ps : List (Int × List Nat)) : Prop where
  eq : t = noted t0 ps
  front : ∀ x ∈ t0, x ∈ patC
  len : t0.length ≤ 500
  behind : ∀ p ∈ ps, 0 ≤ p.1 ∧ p.1 ≤ 250 ∧ (∀ x ∈ p.2, x ∈ patC) ∧ p.2.length ≤ 500
  two : ps.length ≤ 2
theorem noted_nil (t0 : List Nat) : noted t0 [] = t0 := by simp [noted]
theorem noted_one (t0 : List Nat) (k : Int) (s : List Nat) : noted t0 [(k, s)] = t0 ++ noteL k ++ s := by simp [noted, noteL]
theorem noted_two (t0 : List Nat) (k k' : Int) (s s' : List Nat) : noted t0 [(k, s), (k', s')] = t0 ++ noteL k ++ s ++ noteL k' ++ s' := by simp [noted, noteL]
theorem due_noted {l c : Nat} {t : List Nat} (hl : l ≤ 250) (hc : c ≤ t.length) (ht : t.length ≤ l) (hch : ∀ x ∈ t, x ∈ patC) : ∃ t0 ps, Noted (dueOne l c t) t0 ps := by
  have cm : ∀ a b, ∀ x ∈ cut t a b, x ∈ patC := fun a b x h => hch x (cut_mem h)
  have cl : ∀ a b, (cut t a b).length ≤ 250 := fun a b => by have := cut_len t a b; omega
  unfold dueOne
  by_cases h1 : (l : Int) < 81
  · rw [if_pos h1]
    exact ⟨t, [], (noted_nil t).symm, hch, by omega, by simp, by simp⟩
  rw [if_neg h1]
  by_cases h2 : (l : Int) - c < 58
  · rw [if_pos h2]
    refine ⟨cut t none (some 5), [((l : Int) - 68, cut t (some ((l : Int) - 63)) none)], ?_, cm _ _, by have := cl none (some 5); omega, ?_, by simp⟩
    · rw [noted_one]; rfl
    · intro p hp
      simp at hp; subst hp
      exact ⟨by show 0 ≤ (l : Int) - 68; omega, by show (l : Int) - 68 ≤ 250; omega, cm _ _, by have := cl (some ((l : Int) - 63)) none; show List.length (cut t _ _) ≤ 500; omega⟩
  rw [if_neg h2]
  unfold frontL restL
  have app : ∀ a b a' b', (∀ x ∈ cut t a b ++ cut t a' b', x ∈ patC) ∧ (cut t a b ++ cut t a' b').length ≤ 500 := fun a b a' b' => ⟨fun x h => by
    rcases List.mem_append.mp h with h | h
    · exact cm _ _ x h
    · exact cm _ _ x h, by rw [List.length_append]; have := cl a b; have := cl a' b'; omega⟩
  by_cases h3 : (c : Int) < 23
  · rw [if_pos h3]
    by_cases h4 : (t.length : Int) - c < 59
    · rw [if_pos h4]
      exact ⟨_, [], (noted_nil _).symm, (app _ _ _ _).1, (app _ _ _ _).2, by simp, by simp⟩
    · rw [if_neg h4]
      refine ⟨cut t none (some (c : Int)) ++ cut t (some (c : Int)) (some ((c : Int) + 41)), [((t.length : Int) - c - 46, cut t (some (-5)) none)], ?_, (app _ _ _ _).1, (app _ _ _ _).2, ?_, by simp⟩
      · rw [noted_one]; simp only [List.append_assoc]
      · intro p hp
        simp at hp; subst hp
        exact ⟨by show 0 ≤ (t.length : Int) - c - 46; omega, by show (t.length : Int) - c - 46 ≤ 250; omega, cm _ _, by have := cl (some (-5)) none; show List.length (cut t _ _) ≤ 500; omega⟩
  · rw [if_neg h3]
    by_cases h4 : (t.length : Int) - c < 59
    · rw [if_pos h4]
      refine ⟨cut t none (some 5), [((c : Int) - 10, cut t (some ((c : Int) - 5)) (some (c : Int)) ++ cut t (some (c : Int)) none)], ?_, cm _ _, by have := cl none (some 5); omega, ?_, by simp⟩
      · rw [noted_one]; simp only [List.append_assoc]
      · intro p hp
        simp at hp; subst hp
        exact ⟨by show 0 ≤ (c : Int) - 10; omega, by show (c : Int) - 10 ≤ 250; omega, (app _ _ _ _).1, (app _ _ _ _).2⟩
    · rw [if_neg h4]
      refine ⟨cut t none (some 5), [((c : Int) - 10, cut t (some ((c : Int) - 5)) (some (c : Int)) ++ cut t (some (c : Int)) (some ((c : Int) + 41))), ((t.length : Int) - c - 46, cut t (some (-5)) none)], ?_, cm _ _, by have := cl none (some 5); omega, ?_, by simp⟩
      · rw [noted_two]; simp only [List.append_assoc]
      · intro p hp
        simp at hp
        rcases hp with rfl | rfl
        · exact ⟨by show 0 ≤ (c : Int) - 10; omega, by show (c : Int) - 10 ≤ 250; omega, (app _ _ _ _).1, (app _ _ _ _).2⟩
        · exact ⟨by show 0 ≤ (t.length : Int) - c - 46; omega, by show (t.length : Int) - c - 46 ≤ 250; omega, cm _ _, by have := cl (some (-5)) none; show List.length (cut t _ _) ≤ 500; omega⟩
theorem dueL_noted {texts : List (List Nat)} (ht : ∀ t ∈ texts, t.length ≤ 218 ∧ ∀ c ∈ t, c ∈ lawC) : ∃ f : List Nat → List Nat × List (Int × List Nat), ∀ s ∈ dueL texts, Noted s (f s).1 (f s).2 := by
  have key : ∀ s, ∃ p : List Nat × List (Int × List Nat), s ∈ dueL texts → Noted s p.1 p.2 := by
    intro s
    by_cases hs : s ∈ dueL texts
    · unfold dueL at hs
      simp only [List.mem_map] at hs
      obtain ⟨q, hq, rfl⟩ := hs
      obtain ⟨t, htm, rfl⟩ := hq
      have hlong : longN (texts.map quoteL) ≤ 250 := maxN_le fun a ha => by
        simp only [List.mem_map] at ha
        obtain ⟨q, ⟨t, ht', rfl⟩, rfl⟩ := ha
        have := (ht t ht').1
        rw [quote_len]; omega
      have hm : quoteL t ∈ texts.map quoteL := List.mem_map_of_mem htm
      obtain ⟨t0, ps, h⟩ := due_noted (t := quoteL t) hlong (common_le hm) (le_maxN (List.mem_map_of_mem hm)) (fun x hx => by
        simp only [quoteL, List.mem_append, List.mem_singleton] at hx
        rcases hx with (rfl | hx) | rfl
        · decide
        · have := (ht t htm).2 x hx
          exact (by decide : ∀ x ∈ lawC, x ∈ patC) x this
        · decide)
      exact ⟨(t0, ps), fun _ => h⟩
    · exact ⟨([], []), fun h => absurd h hs⟩
  exact ⟨fun s => Classical.choose (key s), fun s hs => Classical.choose_spec (key s) hs⟩
/-- the pattern of a text with notes -/
theorem pat_ok {t t0 : List Nat} {ps : List (Int × List Nat)} (h : Noted t t0 ps) : (∀ c ∈ patL t0 ps, c ∈ patC ∨ c = 63) ∧ (patL t0 ps).length ≤ 2000 := by
  unfold patL
  refine ⟨fun c hc => ?_, ?_⟩
  · simp only [List.mem_append, List.mem_flatMap] at hc
    rcases hc with hc | ⟨p, hp, hc | hc⟩
    · exact .inl (h.front c hc)
    · exact .inr (mem_rep hc)
    · exact .inl ((h.behind p hp).2.2.1 c hc)
  · have := flatMap_len (K := 750) (f := fun p : Int × List Nat => rep [63] p.1.toNat ++ p.2) ps (fun p hp => by
      have h1 := h.behind p hp
      rw [List.length_append, rep_len]
      simp only [List.length_cons, List.length_nil]
      omega)
    have h2 := h.two
    have h3 := h.len
    have h4 : ps.length * 750 ≤ 2 * 750 := Nat.mul_le_mul_right _ h2
    rw [List.length_append]; omega
noncomputable def sgnL (c : Nat) : List Nat := if [c] = [63] then [46] else if c = 45 ∨ c = 43 then [92] ++ [c] else [c]
theorem sgn_part {c : Nat} (h : c ∈ patC ∨ c = 63) : sgnL c = partL c := by
  unfold sgnL partL escL
  by_cases h1 : c = 63
  · subst h1; rfl
  · rw [if_neg (by simpa using h1), if_neg h1]
    by_cases h2 : c = 45 ∨ c = 43
    · rw [if_pos h2, if_pos (by rcases h2 with rfl | rfl <;> decide)]; rfl
    · rw [if_neg h2, if_neg (by simp; omega)]
theorem occ_sgn : ∀ c ∈ patC, (!(Builtin.Str.occurrences (Str.ofString "-+") ⟨⟨[c]⟩⟩ 0 2 1).isEmpty) = decide (c = 45 ∨ c = 43) := by decide +kernel
theorem sgn_flat {pat : List Nat} (h : ∀ c ∈ pat, c ∈ patC ∨ c = 63) : transL pat = fnmL (pat.map sgnL).flatten := by
  unfold transL
  rw [List.map_congr_left fun c hc => (sgn_part (h c hc)).symm]
theorem sgn_len {pat : List Nat} (hl : pat.length ≤ 2000) : ((pat.map sgnL).map (·.length)).sum ≤ 4000 := by
  have : ∀ l : List Nat, ((l.map sgnL).map (·.length)).sum ≤ 2 * l.length := by
    intro l
    induction l with
    | nil => simp
    | cons a r ih =>
      have h1 : (sgnL a).length ≤ 2 := by
        unfold sgnL
        split
        · simp
        · split <;> simp
      simp only [List.map_cons, List.sum_cons, List.length_cons]
      omega
  have := this pat
  omega
theorem cmpL_str (l : List (List Nat)) : SV.cmpL (l.map .str) = true := by
  induction l with
  | nil => rfl
  | cons a r ih => simp [SV.cmpL, SV.cmp, ih]
theorem depL_str (l : List (List Nat)) : SV.depL (l.map .str) = 0 := by
  induction l with
  | nil => rfl
  | cons a r ih => simp [SV.depL, SV.dep, ih]
theorem last_mem {r : List (List Nat)} (h : RowOk r) : lastN r ∈ r ∧ (lastN r).length ≤ 218 ∧ ∀ c ∈ lastN r, c ∈ lawC := by
  obtain ⟨i, z, e, _⟩ := h.last
  have hz : lastN r = z := by rw [e, lastN_snoc]
  have hm : z ∈ r := by rw [e]; simp
  rw [hz]
  refine ⟨hm, ?_, fun c hc => ?_⟩
  · have hs := h.sum
    have : ∀ l : List (List Nat), z ∈ l → z.length + 1 ≤ (l.map (·.length + 1)).sum := by
      intro l
      induction l with
      | nil => intro h; simp at h
      | cons a q ih =>
        intro h
        simp only [List.map_cons, List.sum_cons]
        rcases List.mem_cons.mp h with rfl | h
        · omega
        · have := ih h; omega
    have := this r hm
    omega
  · have := (h.names z hm).2 c hc
    exact (by decide : ∀ x ∈ nameC, x ∈ lawC) c this
theorem dueL_len (t : List (List Nat)) : (dueL t).length = t.length := by simp [dueL]
end Mine

namespace Mine
open Calls
theorem pureL_int (l : List Int) : SV.pureL (l.map .int) = true := by
  induction l with
  | nil => rfl
  | cons a r ih => simp [SV.pureL, SV.pure, ih]
set_option maxHeartbeats 4000000 in
theorem con_law (xs : List Int) (hl : xs.length ≤ 63) : ConQ False (.fn 280) [.list (xs.map .int)] (.bool true) 5 := by
  refine con_fnQ False e_law (by simp [FL]) ["script"] [("script", .list (xs.map .int)), ("rows", .unset), ("paths", .unset), ("due", .unset), ("one", .unset), ("two", .unset), ("shorts", .unset), ("told", .unset), ("patterns", .unset), ("texts", .unset)] (by decide) rfl (.plain rfl (fun vs h => match vs, h with | [a], _ => rfl)) ?_ (by simp only [List.map]; decide) rfl (by decide +kernel) (fun y hy L => by rfl) rfl rfl rfl ?_
  · intro y hy; simp at hy ⊢; rcases hy with rfl | rfl | rfl | rfl | rfl | rfl | rfl | rfl | rfl | rfl <;> simp
  · intro w A L base fz os hos R
    have hA : A.handled = none := R.1
    have hnq : ¬ (Cx.ofC w A e_law L base fz os).os.q := by show ¬ os.q; rw [hos]; exact fun h => h
    refine EX_cons ?_
    repeat' walk_at "m"
    refine OP2_cut_list (by rw [List.length_map]; omega) ?_
    rw [cut_to _ (by decide), ← List.map_take]
    have h2 : (xs.take (2 : Int).toNat).length ≤ 2 := by rw [List.length_take]; show min 2 _ ≤ 2; omega
    repeat' walk_at "m"
    refine OP2_cut_list (by rw [List.length_map]; omega) ?_
    rw [cut_to _ (by decide), ← List.map_take]
    repeat' walk_at "m"
    refine CL_sum hA ?_
    repeat' walk_at "m"
    have e1 : (xs.take (2 : Int).toNat).map SV.int ++ [.int 88, .int 74, .int 44] = (numsL xs).map .int := by rw [numsL, List.map_append]; rfl
    rw [show (xs.take (2 : Int).toNat).sum = totL xs from rfl, e1]
    have hn5 := nums_len xs
    refine CL_con (con_law_rows (numsL xs) (totL xs) (by omega)) (R.le (by decide)) (by rw [SV.pureL, SV.pure, pureL_int]; rfl) rfl ?_
    have k1 := row1_ok xs
    have k2 := row2_ok xs
    generalize row1 (numsL xs) (totL xs) = r1 at k1 ⊢
    generalize row2 (numsL xs) (totL xs) = r2 at k2 ⊢
    clear e1 hn5 h2
    refine put_intro (by repeat (first | exact Put.head | apply Put.tail)) ?_
    refine EX_cons ?_
    refine ES_tup_sw (ys := ["paths", "due"]) hA rfl (fun y hy => by
      simp at hy
      rcases hy with rfl | rfl <;> exact .inl ⟨rfl, rfl⟩) rfl rfl ?_
    repeat' walk_at "m"
    have hpure : ∀ r : List (List Nat), SV.pureL (r.map .str) = true := pureL_str
    have hrow : ∀ r ∈ [r1, r2], RowOk r := fun r h => by
      simp only [List.mem_cons, List.not_mem_nil, or_false] at h
      rcases h with rfl | rfl <;> assumption
    refine EV_map (List (List Nat)) hA (by decide) rfl (by decide) (by simp) (fun C => rfl) (fun C => rfl) (fun _ => rfl) (fun _ _ => rfl) ?_
    unfold MapOk
    repeat' walk_at "m"
    refine ⟨[r1, r2], fun r => .list (r.map .str), fun r => .str (pathL r), .list, by simp, rfl, ?_, ?_⟩
    · intro r hr C ys _
      have hk := hrow r hr
      repeat' walk_at "m"
      refine CL_con (con_law_path r (fun n hn => (hk.names n hn).path) (fun e => by obtain ⟨i, z, e2, _⟩ := hk.last; rw [e] at e2; simp at e2) (by have := hk.len; omega) (by have := hk.sum; omega)) R (by rw [SV.pureL, SV.pure, pureL_str]; rfl) rfl ?_
      exact ⟨rfl, rfl⟩
    repeat' walk_at "m"
    refine EV_map (List (List Nat)) hA (by decide) rfl (by decide) (by simp) (fun C => rfl) (fun C => rfl) (fun _ => rfl) (fun _ _ => rfl) ?_
    unfold MapOk
    repeat' walk_at "m"
    refine ⟨[r1, r2], fun r => .list (r.map .str), fun r => .str (pathL r), .list, by simp, rfl, ?_, ?_⟩
    · intro r hr C ys _
      have hk := hrow r hr
      have hs := hk.sum
      have hj : (joinS (Str.ofString "/").cps.toList r).length ≤ 217 := Nat.le_trans (joinS_len 47 r) hs
      repeat' walk_at "m"
      refine CL_join (l := r) (Nat.le_trans hs (by decide)) ?_
      repeat' walk_at "m"
      exact rfl
    repeat' walk_at "m"
    refine ⟨_, .tup, rfl, _, .cons (by repeat (first | exact Put.head | apply Put.tail)) (.cons (by repeat (first | exact Put.head | apply Put.tail)) .nil), ?_⟩
    have hU : (Cx.ofC w A e_law L base fz os).A.units + 32 < cLine := by have := R.2.2; show A.units + 32 < cLine; omega
    repeat' walk_at "m"
    refine OP2_ne_list rfl (by simp only [List.map_cons, List.map_nil, SV.depL, SV.dep]; omega) ?_
    repeat' walk_at "m"
    refine EV_map (List (List Nat)) hA (by decide) rfl (by decide) (by simp) (fun C => rfl) (fun C => rfl) (fun _ => rfl) (fun _ _ => rfl) ?_
    unfold MapOk
    repeat' walk_at "m"
    refine ⟨[r1, r2], fun r => .str (pathL r), fun r => .str (lastN r), .list, by simp, rfl, ?_, ?_⟩
    · intro r hr C ys _
      have hk := hrow r hr
      have hpl := path_len hk
      have hnm := hk.names
      obtain ⟨i, z, e2, hi⟩ := hk.last
      rw [e2] at hpl hnm ⊢
      try dsimp only
      rw [path_base hi] at hpl ⊢
      rw [lastN_snoc]
      repeat' walk_at "m"
      refine CL_con (con_basename _ z (hnm z (by simp)).path.2.1 (by simp only [List.length_append, List.length_cons] at hpl ⊢; omega)) (R.le (by decide)) rfl rfl ?_
      exact ⟨rfl, rfl⟩
    repeat' walk_at "m"
    refine EV_map (List (List Nat)) hA (by decide) rfl (by decide) (by simp) (fun C => rfl) (fun C => rfl) (fun _ => rfl) (fun _ _ => rfl) ?_
    unfold MapOk
    repeat' walk_at "m"
    refine ⟨[r1, r2], fun r => .list (r.map .str), fun r => .str (lastN r), .list, by simp, rfl, ?_, ?_⟩
    · intro r hr C ys _
      have hk := hrow r hr
      obtain ⟨i, z, e2, hi⟩ := hk.last
      have hkl := hk.len
      rw [e2] at hkl ⊢
      try dsimp only
      rw [lastN_snoc, List.map_append, List.map_cons, List.map_nil]
      repeat' walk_at "m"
      refine OP2_last_list (by rw [List.length_map]; simp only [List.length_append, List.length_cons] at hkl; omega) ?_
      exact ⟨rfl, rfl⟩
    repeat' walk_at "m"
    refine OP2_ne_list rfl (by simp only [List.map_cons, List.map_nil, SV.depL, SV.dep]; omega) ?_
    repeat' walk_at "m"
    refine CL_con con_law_shortens (R.le (by decide)) rfl rfl ?_
    repeat' walk_at "m"
    have m1 := path_mem k1
    have m2 := path_mem k2
    have l1 := path_len k1
    have l2 := path_len k2
    have T2 : ∀ t ∈ [pathL r1, pathL r2], t.length ≤ 218 ∧ ∀ c ∈ t, c ∈ lawC := fun t h => by
      simp only [List.mem_cons, List.not_mem_nil, or_false] at h
      rcases h with rfl | rfl
      · exact ⟨l1, m1⟩
      · exact ⟨l2, m2⟩
    first
      | refine ES_tup_sw (ys := ["one", "two", "shorts"]) hA rfl (fun y hy => by
          simp at hy
          rcases hy with rfl | rfl | rfl <;> exact .inl ⟨rfl, rfl⟩) rfl rfl ?_
      | refine ES_tup (ys := ["one", "two", "shorts"]) hA rfl (by repeat constructor) rfl rfl (fun y hy => by
          simp at hy
          rcases hy with rfl | rfl | rfl <;> exact .inl ⟨rfl, rfl⟩) rfl rfl ?_
    repeat' walk_at "m"
    refine OP2_item_list (i := 0) (a := .str (pathL r1)) (by decide) (by decide) rfl ?_
    repeat' walk_at "m"
    refine OP2_item_list (i := 1) (a := .str (pathL r2)) (by decide) (by decide) rfl ?_
    repeat' walk_at "m"
    refine OP2_item_list (i := 0) (a := .str (pathL r1)) (by decide) (by decide) rfl ?_
    repeat' walk_at "m"
    refine OP2_item_list (i := 1) (a := .str (pathL r2)) (by decide) (by decide) rfl ?_
    repeat' walk_at "m"
    refine CL_conQ (con_csr [pathL r1, pathL r2] (by simp) (by simp) (fun t h => by have := (T2 t h).1; omega) (fun t h => (T2 t h).2)) (.inr hnq) R rfl rfl ?_
    repeat' walk_at "m"
    refine ⟨_, .tup, rfl, _, .cons (by repeat (first | exact Put.head | apply Put.tail)) (.cons (by repeat (first | exact Put.head | apply Put.tail)) (.cons (by repeat (first | exact Put.head | apply Put.tail)) .nil)), ?_⟩
    have n1 := last_mem k1
    have n2 := last_mem k2
    have T1 : ∀ t ∈ [pathL r1], t.length ≤ 218 ∧ ∀ c ∈ t, c ∈ lawC := fun t h => by
      simp only [List.mem_cons, List.not_mem_nil, or_false] at h
      subst h
      exact ⟨l1, m1⟩
    have T3 : ∀ t ∈ [pathL r1, pathL r2, (Str.ofString "/a/d").cps.toList], t.length ≤ 218 ∧ ∀ c ∈ t, c ∈ lawC := fun t h => by
      simp only [List.mem_cons, List.not_mem_nil, or_false] at h
      rcases h with rfl | rfl | rfl
      · exact ⟨l1, m1⟩
      · exact ⟨l2, m2⟩
      · exact ⟨by decide, by decide⟩
    have T4 : ∀ t ∈ [lastN r1, lastN r2], t.length ≤ 218 ∧ ∀ c ∈ t, c ∈ lawC := fun t h => by
      simp only [List.mem_cons, List.not_mem_nil, or_false] at h
      rcases h with rfl | rfl
      · exact n1.2
      · exact n2.2
    have LA : ∀ r, RowOk r → ∃ i : List SV, r.map SV.str = i ++ [.str (lastN r)] ∧ i.length ≤ 100 := fun r hk => by
      obtain ⟨i, z, e2, hi⟩ := hk.last
      have hkl := hk.len
      refine ⟨i.map .str, ?_, ?_⟩
      · rw [e2, lastN_snoc, List.map_append]; rfl
      · rw [e2] at hkl; simp only [List.length_append, List.length_cons] at hkl; rw [List.length_map]; omega
    obtain ⟨i1, hi1, hl1⟩ := LA r1 k1
    obtain ⟨i2, hi2, hl2⟩ := LA r2 k2
    repeat' walk_at "m"
    refine CL_conQ (con_csr [pathL r1] (by simp) (by simp) (fun t h => by have := (T1 t h).1; omega) (fun t h => (T1 t h).2)) (.inr hnq) R rfl rfl ?_
    repeat' walk_at "m"
    refine CL_conQ (con_csr [pathL r1, pathL r2, (Str.ofString "/a/d").cps.toList] (by simp) (by simp) (fun t h => by have := (T3 t h).1; omega) (fun t h => (T3 t h).2)) (.inr hnq) R rfl rfl ?_
    repeat' walk_at "m"
    refine OP2_item_list (i := 0) (a := .list (r1.map .str)) (by decide) (by decide) rfl ?_
    repeat' walk_at "m"
    rw [hi1]
    refine OP2_last_list (by omega) ?_
    rw [← hi1]
    repeat' walk_at "m"
    refine OP2_item_list (i := 1) (a := .list (r2.map .str)) (by decide) (by decide) rfl ?_
    repeat' walk_at "m"
    rw [hi2]
    refine OP2_last_list (by omega) ?_
    rw [← hi2]
    repeat' walk_at "m"
    refine CL_conQ (con_csr [lastN r1, lastN r2] (by simp) (by simp) (fun t h => by have := (T4 t h).1; omega) (fun t h => (T4 t h).2)) (.inr hnq) R rfl rfl ?_
    repeat' walk_at "m"
    refine CL_con (con_law_due [pathL r1, pathL r2] (by simp) (by simp) (fun t h => by have := (T2 t h).1; omega)) (R.le (by decide)) rfl rfl ?_
    repeat' walk_at "m"
    refine CL_con (con_law_due [pathL r1] (by simp) (by simp) (fun t h => by have := (T1 t h).1; omega)) (R.le (by decide)) rfl rfl ?_
    repeat' walk_at "m"
    refine CL_con (con_law_due [pathL r1, pathL r2, (Str.ofString "/a/d").cps.toList] (by simp) (by simp) (fun t h => by have := (T3 t h).1; omega)) (R.le (by decide)) rfl rfl ?_
    repeat' walk_at "m"
    refine OP2_item_list (i := 0) (a := .list (r1.map .str)) (by decide) (by decide) rfl ?_
    repeat' walk_at "m"
    rw [hi1]
    refine OP2_last_list (by omega) ?_
    rw [← hi1]
    repeat' walk_at "m"
    refine OP2_item_list (i := 1) (a := .list (r2.map .str)) (by decide) (by decide) rfl ?_
    repeat' walk_at "m"
    rw [hi2]
    refine OP2_last_list (by omega) ?_
    rw [← hi2]
    repeat' walk_at "m"
    refine CL_con (con_law_due [lastN r1, lastN r2] (by simp) (by simp) (fun t h => by have := (T4 t h).1; omega)) (R.le (by decide)) rfl rfl ?_
    repeat' walk_at "m"
    refine OP2_ne_list (by simp only [SV.cmpL, SV.cmp, cmpL_str]; rfl) (by simp only [SV.depL, SV.dep, depL_str]; omega) ?_
    repeat' walk_at "m"
    have T5 : ∀ k ∈ ([78, 79] : List Int), (k = 78 ∨ k = 79) ∧ ∀ t ∈ [rep (Str.ofString "d").cps.toList k.toNat, (Str.ofString "e").cps.toList], t.length ≤ 218 ∧ ∀ c ∈ t, c ∈ lawC := fun k hk => by
      have hk' : k = 78 ∨ k = 79 := by simpa using hk
      refine ⟨hk', fun t h => ?_⟩
      simp only [List.mem_cons, List.not_mem_nil, or_false] at h
      rcases h with rfl | rfl
      · refine ⟨?_, fun c hc => ?_⟩
        · rw [rep_len]; show 1 * _ ≤ _; omega
        · have := mem_rep (a := 100) hc
          rw [this]; decide
      · exact ⟨by decide, by decide⟩
    refine EV_map Int hA (by decide) rfl (by decide) (by simp) (fun C => rfl) (fun C => rfl) (fun _ => rfl) (fun _ _ => rfl) ?_
    unfold MapOk
    repeat' walk_at "m"
    refine ⟨[78, 79], .int, fun k => .tup ((dueL [rep (Str.ofString "d").cps.toList k.toNat, (Str.ofString "e").cps.toList]).map .str), .list, by simp, (by simp only [List.map_cons, List.map_nil, SV.pureL, SV.pure, pureL_str]; rfl), ?_, ?_⟩
    · intro k hk C ys _
      obtain ⟨hk', hT⟩ := T5 k hk
      repeat' walk_at "m"
      refine CL_conQ (con_csr [rep (Str.ofString "d").cps.toList k.toNat, (Str.ofString "e").cps.toList] (by simp) (by simp) (fun t h => by have := (hT t h).1; omega) (fun t h => (hT t h).2)) (.inr hnq) R rfl rfl ?_
      exact ⟨rfl, rfl⟩
    repeat' walk_at "m"
    refine EV_map Int hA (by decide) rfl (by decide) (by simp) (fun C => rfl) (fun C => rfl) (fun _ => rfl) (fun _ _ => rfl) ?_
    unfold MapOk
    repeat' walk_at "m"
    refine ⟨[78, 79], .int, fun k => .tup ((dueL [rep (Str.ofString "d").cps.toList k.toNat, (Str.ofString "e").cps.toList]).map .str), .list, by simp, (by simp only [List.map_cons, List.map_nil, SV.pureL, SV.pure, pureL_str]; rfl), ?_, ?_⟩
    · intro k hk C ys _
      obtain ⟨hk', hT⟩ := T5 k hk
      repeat' walk_at "m"
      refine CL_con (con_law_due [rep (Str.ofString "d").cps.toList k.toNat, (Str.ofString "e").cps.toList] (by simp) (by simp) (fun t h => by have := (hT t h).1; omega)) (R.le (by decide)) rfl rfl ?_
      exact ⟨rfl, rfl⟩
    repeat' walk_at "m"
    refine OP2_ne_list (by simp only [List.map_cons, List.map_nil, SV.cmpL, SV.cmp, cmpL_str]; rfl) (by simp only [List.map_cons, List.map_nil, SV.depL, SV.dep, depL_str]; omega) ?_
    repeat' walk_at "m"
    obtain ⟨f, hf⟩ := dueL_noted T2
    have hdl : (dueL [pathL r1, pathL r2]).length = 2 := dueL_len _
    generalize dueL [pathL r1, pathL r2] = D at hf hdl ⊢
    refine ES_assign_map (List Nat) hA rfl (.inl ⟨rfl, rfl⟩) rfl (by decide) rfl (by decide) (by simp) (fun C => rfl) (fun C => rfl) (fun _ => rfl) (fun _ _ => rfl) ?_
    unfold MapOk
    repeat' walk_at "m"
    refine ⟨D, .str, fun s => .str (patL (f s).1 (f s).2), .tup, by omega, ?_, ?_, ?_⟩
    · have := pureL_str (D.map fun s => patL (f s).1 (f s).2)
      rwa [List.map_map] at this
    · intro s hs C ys _
      have hN := hf s hs
      clear hs
      try dsimp only
      generalize f s = q at hN ⊢
      obtain ⟨t0, ps⟩ := q
      have h91 : ∀ l : List Nat, (∀ x ∈ l, x ∈ patC) → 91 ∉ l ∧ 93 ∉ l := fun l h => ⟨fun m => absurd (h _ m) (by decide), fun m => absurd (h _ m) (by decide)⟩
      have e := hN.eq
      dsimp only at e hN ⊢
      rw [e]
      repeat' walk_at "m"
      have hlen := hN.len
      have htwo := hN.two
      refine CL_con (con_law_pattern t0 ps (h91 _ hN.front).1 (fun p hp => ?_) (by omega) (by omega)) (R.le (by decide)) rfl rfl ?_
      · have b := hN.behind p hp
        exact ⟨b.1, by omega, (h91 _ b.2.2.1).1, (h91 _ b.2.2.1).2, by omega⟩
      · exact ⟨rfl, rfl⟩
    have hpats : ∀ p ∈ D.map (fun s => patL (f s).1 (f s).2), (∀ c ∈ p, c ∈ patC ∨ c = 63) ∧ p.length ≤ 2000 := fun p hp => by
      simp only [List.mem_map] at hp
      obtain ⟨s, hs, rfl⟩ := hp
      exact pat_ok (hf s hs)
    have hpl : (D.map (fun s => patL (f s).1 (f s).2)).length = 2 := by rw [List.length_map]; exact hdl
    rw [show D.map (fun s => SV.str (patL (f s).1 (f s).2)) = (D.map (fun s => patL (f s).1 (f s).2)).map .str by rw [List.map_map]; rfl]
    generalize D.map (fun s => patL (f s).1 (f s).2) = pats at hpats hpl ⊢
    repeat' walk_at "m"
    refine ES_assign_map (List Nat) hA rfl (.inl ⟨rfl, rfl⟩) rfl (by decide) rfl (by decide) (by simp) (fun C => rfl) (fun C => rfl) (fun _ => rfl) (fun _ _ => rfl) ?_
    unfold MapOk
    repeat' walk_at "m"
    refine ⟨pats, .str, fun p => .str (p.map sgnL).flatten, .list, by omega, ?_, ?_, ?_⟩
    · have := pureL_str (pats.map fun p => (p.map sgnL).flatten)
      rwa [List.map_map] at this
    · intro p hp C ys hys
      obtain ⟨hpc, hpl'⟩ := hpats p hp
      repeat' walk_at "m"
      refine EV_map Nat hA (by decide) rfl (by decide) (by simpa using hys) (fun C => rfl) (fun C => rfl) (fun _ => rfl) (fun _ _ => rfl) ?_
      unfold MapOk
      repeat' walk_at "m"
      refine ⟨p, fun c => .str [c], fun c => .str (sgnL c), .str ?_, by omega, ?_, ?_, ?_⟩
      · rw [List.all_eq_true]
        intro c hc
        have := hpc c hc
        revert this
        simp only [patC, List.mem_cons, List.not_mem_nil, or_false, decide_eq_true_eq]
        omega
      · have := pureL_str (p.map sgnL)
        rwa [List.map_map] at this
      · intro c hc C2 ys2 _
        have hcc := hpc c hc
        refine EV_ifexp ?_
        repeat' walk_at "m"
        · have h2 : [c] = [63] := by assumption
          show SV.str _ = SV.str (sgnL c)
          rw [sgnL, if_pos h2]; rfl
        · rename_i h1 h2
          have hne : ¬ [c] = [63] := h2
          have hcp : c ∈ patC := hcc.resolve_right fun e => hne (by rw [e])
          refine EV_ifexp ?_
          repeat' walk_at "m"
          refine OP2_inE (t := decide (c = 45 ∨ c = 43)) (occ_sgn c hcp) ?_
          repeat' walk_at "m"
          · have h3 : c = 45 ∨ c = 43 := by assumption
            show SV.str _ = SV.str (sgnL c)
            rw [sgnL, if_neg hne, if_pos h3]; rfl
          · have h3 : ¬ (c = 45 ∨ c = 43) := by assumption
            show SV.str _ = SV.str (sgnL c)
            rw [sgnL, if_neg hne, if_neg h3]
      · rw [show p.map (fun c => SV.str (sgnL c)) = (p.map sgnL).map .str by rw [List.map_map]; rfl]
        repeat' walk_at "m"
        refine CL_join (l := p.map sgnL) ?_ ?_
        · show ((p.map sgnL).map fun s => s.length + 0).sum ≤ 1000000
          exact Nat.le_trans (sgn_len hpl') (by decide)
        · exact ⟨rfl, congrArg SV.str (joinS_nil _)⟩
    repeat' walk_at "m"
    refine EV_map (List Nat) hA (by decide) rfl (by decide) (by simp) (fun C => rfl) (fun C => rfl) (fun _ => rfl) (fun _ _ => rfl) ?_
    unfold MapOk
    repeat' walk_at "m"
    refine ⟨pats, .str, fun p => .str (transL p), .list, by omega, ?_, ?_, ?_⟩
    · have := pureL_str (pats.map transL)
      rwa [List.map_map] at this
    · intro p hp C ys _
      obtain ⟨hpc, hpl'⟩ := hpats p hp
      repeat' walk_at "m"
      refine CL_con (con_translate p hpc hpl') (R.le (by decide)) rfl rfl ?_
      exact ⟨rfl, rfl⟩
    repeat' walk_at "m"
    refine EV_map (List Nat) hA (by decide) rfl (by decide) (by simp) (fun C => rfl) (fun C => rfl) (fun _ => rfl) (fun _ _ => rfl) ?_
    unfold MapOk
    repeat' walk_at "m"
    refine ⟨pats, fun p => .str (p.map sgnL).flatten, fun p => .str (fnmL (p.map sgnL).flatten), .list, by omega, ?_, ?_, ?_⟩
    · have := pureL_str (pats.map fun p => fnmL (p.map sgnL).flatten)
      rwa [List.map_map] at this
    · intro p hp C ys _
      obtain ⟨hpc, hpl'⟩ := hpats p hp
      have hfl : ((p.map sgnL).flatten).length ≤ 4000 := by rw [List.length_flatten]; exact sgn_len hpl'
      repeat' walk_at "m"
      exact rfl
    repeat' walk_at "m"
    refine OP2_eq_listE (List.map_congr_left fun p hp => by rw [sgn_flat (hpats p hp).1]) ?_ ?_ ?_
    · have := cmpL_str (pats.map fun p => fnmL (p.map sgnL).flatten)
      rwa [List.map_map] at this
    · have := depL_str (pats.map fun p => fnmL (p.map sgnL).flatten)
      rw [List.map_map] at this
      have e : SV.depL (pats.map fun p => SV.str (fnmL (p.map sgnL).flatten)) = 0 := this
      rw [e]
      omega
    · exact ⟨rfl, rfl⟩
end Mine

set_option maxRecDepth 100000
namespace Mine
theorem lay_ints {R : WRecords} {cl : Str → Option Addr} {P : Params} {ord : List DictEntry → List DictEntry} : ∀ (xs : List Int) (s : Shared) (r : List Value × Shared), layAllW R cl P ord (xs.map .int) s = some r →
    (∀ fz as, SV.AtL fz as (xs.map .int) r.1) ∧ ∃ tk, r.2 = { s with toks := tk }
  | [], s, r, h => by
    simp only [List.map_nil, layAllW, Option.some.injEq] at h
    subst h
    exact ⟨fun _ _ => .nil, s.toks, rfl⟩
  | x :: xs, s, r, h => by
    obtain ⟨a, q, h1, h2, rfl⟩ := layAllW_cons h
    have h3 : some (Value.int x s.toks, ({ s with toks := s.toks + 1 } : Shared)) = some a := h1
    cases h3
    obtain ⟨h4, tk, h5⟩ := lay_ints xs _ _ h2
    refine ⟨fun fz as => .cons (at_int _) (h4 fz as), tk, ?_⟩
    rw [h5]
theorem lay_law {R : WRecords} {cl : Str → Option Addr} {P : Params} {ord : List DictEntry → List DictEntry} {xs : List Int} {s s1 : Shared} {vs : List Value} (h : layAllW R cl P ord [.list (xs.map .int)] s = some (vs, s1)) :
    ∃ l tk, vs = [.ref s.heap.objs.size] ∧ s1 = { s with heap := s.heap.push (lstO l 0), toks := tk } ∧ ∀ fz as, SV.AtL fz as (xs.map .int) l := by
  obtain ⟨a, q, h1, h2, e⟩ := layAllW_cons h
  obtain ⟨q', h3, rfl⟩ := layW_list h1
  obtain ⟨h4, tk, h5⟩ := lay_ints xs _ _ h3
  simp only [layAllW, Option.some.injEq] at h2
  subst h2
  simp only [Prod.mk.injEq] at e
  obtain ⟨rfl, rfl⟩ := e
  obtain ⟨l, s2⟩ := q'
  dsimp only at h5
  subst h5
  exact ⟨l, tk, rfl, rfl, h4⟩
theorem has_ints : ∀ {ds : List WData}, WShape.hasItems [] ds .int = true → ∃ xs : List Int, ds = xs.map .int
  | [], _ => ⟨[], rfl⟩
  | d :: r, h => by
    simp only [WShape.hasItems, Bool.and_eq_true] at h
    obtain ⟨xs, rfl⟩ := has_ints h.2
    cases d with
    | int i => exact ⟨i :: xs, rfl⟩
    | _ => exact absurd h.1 (by simp [WShape.has, WShape.arms])
theorem pre_law {args : List WData} (h : PySem.Challenge.rw_aa0024_01.row.toRowW.claim.pre args = true) : ∃ xs : List Int, args = [.list (xs.map .int)] ∧ xs.length ≤ 63 := by
  obtain ⟨h1, h2⟩ := pre_splitW h
  obtain ⟨d, r, rfl, h3, h4⟩ := hasAllW_cons (show WShape.hasAll [] args (.list .int :: []) = true from h1)
  have h5 := hasAllW_nil h4
  subst h5
  cases d with
  | list ds =>
    have h6 : WShape.hasItems [] ds .int = true := by simpa [WShape.has, WShape.arms] using h3
    obtain ⟨xs, rfl⟩ := has_ints h6
    refine ⟨xs, rfl, ?_⟩
    have h7 : WTm.holds [] (.and (.not (.lt (.lit (.int 63)) (.len (.arg 0)))) (.lit (.bool true))) { args := [.list (xs.map .int)] } = true := h2
    by_cases hl : xs.length ≤ 63
    · exact hl
    · exfalso
      have hlt : ((63 : Int) < (xs.length : Int)) := by omega
      simp only [WTm.holds, WTm.value, List.getElem?_cons_zero, List.length_map] at h7
      have e : PySem.W.less? (.int 63) (.int (xs.length : Int)) = some (decide ((63 : Int) < (xs.length : Int))) := rfl
      rw [e, decide_eq_true hlt] at h7
      simp at h7
  | _ => exact absurd h3 (by simp [WShape.has, WShape.arms])
end Mine

set_option maxRecDepth 100000
namespace Mine
theorem roomC : Room callerA 5 := ⟨rfl, by decide, by decide⟩
theorem post_law (xs : List WData) : PySem.Challenge.rw_aa0024_01.row.toRowW.claim.post xs (.bool true) xs = true := by
  show (WShape.has [] (.bool true) .bool && WTm.holds [] (.eq .res (.lit (.bool true))) { args := xs, res := some (.bool true), after := xs }) = true
  simp [WTm.holds, WTm.value, PySem.W.same, WShape.has, WShape.arms]
theorem walkH {d : DefRec} {kwd : List (Str × Expr)} (hd : defOf qH "law" = some (d, kwd)) : WalkX qH looseH (fun _ _ => True) YfH (fun _ => YaH) PySem.Challenge.rw_aa0024_01.row.toRowW d kwd fun f vs => PySem.call f vs := by
  intro w s₀ s₁ mg mb G Y a o pm cd doc dV kV ho hod hcd hD hmg hg args vals as L hpre hlay hrd hwl hlo
  obtain ⟨S0, Tb0, mg', hn', hlaw⟩ := stat_of Y
  have S1 : Stat s₁.heap := S0.grow fun b o e _ => L.keeps b o e
  have Tb1 : TabOk s₁.heap := Tb0.keeps L.keeps
  have hname : d.name = "law" := defOf_name hd
  have ha : a = 280 := by
    have h1 := Heap.Ns.agree G.T.g (hn'.keeps L.keeps) "law"
    rw [hname] at hmg
    rw [hmg, hlaw] at h1
    cases h1; rfl
  subst ha
  obtain ⟨xs, rfl, hxl⟩ := pre_law hpre
  obtain ⟨ord, _, hlaid⟩ := L.laid
  obtain ⟨l, tk, rfl, rfl, hl⟩ := lay_law hlaid
  have hsz : (s₀.heap.push (lstO l 0)).get? s₀.heap.objs.size = some (lstO l 0) := Heap.get?_push_size _ rfl
  have hT0 := Tb0.lt
  let fz : Frz := fun b => if b = s₀.heap.objs.size then some (lstO l 0) else none
  have h77 : s₀.heap.get? 77 = some o77 := by
    unfold YfH YaH at Y
    simp only [Prod.mk.injEq, List.map_cons, List.map_nil, List.cons.injEq, and_true] at Y
    exact Y.2.2.2.2.2.2.1
  refine wpAny_mono (con_law xs hxl w callerA _ fz (.ref 280) [.ref s₀.heap.objs.size] S1 Tb1 roomC (fun b o e => ?_) (if_neg (Nat.ne_of_lt hT0)) (fun _ => by rw [hg]; intro y hy; simp at hy) (by simp only [SV.At]) (.cons ?_ .nil)
    (fun v s' => GoodWG PySem.Challenge.rw_aa0024_01.row.toRowW.claim (classAt s₀.heap) (ExcName.means s₀.heap) [.list (xs.map .int)] { s₀ with heap := s₀.heap.push (lstO l 0), toks := tk } (.ok (.ret v)) s') fun h' g' tk' v hgr ht hb _ hv => ?_) (fun _ _ z => z) fun _ _ z => z.elim
  · by_cases hb : b = s₀.heap.objs.size
    · subst hb
      rw [show fz s₀.heap.objs.size = some (lstO l 0) from if_pos rfl] at e
      cases e; exact hsz
    · rw [show fz b = none from if_neg hb] at e; cases e
  · simp only [SV.At]
    exact ⟨_, l, 0, rfl, if_pos rfl, hl _ _⟩
  · simp only [SV.At] at hv
    subst hv
    have h77' : (s₀.heap.push (lstO l 0)).get? 77 = some o77 := Heap.get?_push_of_some _ h77
    refine ⟨.inl ⟨_, .bool true, [], rfl, fun cls => rfl, .bool true, post_law _, fun _ => ⟨List.nodup_nil, fun _ h => (by simp at h)⟩⟩, ⟨fun b o e => ?_, fun b o e => ?_⟩, rfl, hb fun h => h⟩
    · by_cases hbT : b = T0
      · subst hbT
        obtain ⟨ps, _, ep⟩ := Tb1
        rw [show (s₀.heap.push (lstO l 0)).get? T0 = some o from e] at ep
        cases ep
        obtain ⟨more, em⟩ := ht.ex ps e
        exact .inr (.inl ⟨⟨77, o77, _, h77', rfl, rfl, rfl⟩, rfl, ps, more, rfl, em⟩)
      · exact .inl (hgr b o e hbT)
    · by_cases hbT : b = T0
      · subst hbT
        obtain ⟨ps, _, ep⟩ := ht.ok
        exact ⟨_, ep⟩
      · exact ⟨o, hgr b o e hbT⟩
end Mine
theorem PySem.Challenge.cw_aa0024_01_holds : PySem.Challenge.rw_aa0024_01.Holds := by
  refine holds_law Mine.said fun said => ?_
  refine holds_openX (q := Mine.qH) (loose := Mine.looseH) (Xt := fun _ => true) (XP := fun _ _ => True) (Yf := Mine.YfH) (Ya := fun _ => Mine.YaH) (N := 4000) Mine.leftH (fun _ _ => trivial) (fun _ _ _ _ _ => trivial) (by rfl) (by rfl) (by rfl) (fun s _ => ?_) (by rfl) said (by decide +kernel) ⟨rfl, rfl, rfl, rfl, rfl, by decide +kernel⟩ ⟨[.list []], by decide +kernel, by decide +kernel⟩ (Mine.walkH (by rfl))
  exact recFacts_of (R := []) (by rfl)

