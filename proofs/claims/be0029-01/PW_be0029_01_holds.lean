import PyProof.Rows.All
import Wide.All
import OpenK.AllK
import Wide.FinOn
import Lean
import PySem.Challenge.RW_be0029_01
open PySem PySem.W PySem.Calls PyProof.Rows
set_option Elab.async false
set_option maxRecDepth 100000
set_option linter.unusedVariables false
set_option compiler.extract_closed false
set_option maxHeartbeats 8000000
namespace Mine
noncomputable def ktab : Obj := { cls := .none, data := .fields #[] }
noncomputable def tp (i : Nat) : Option Stmt := PySem.Challenge.pw_be0029_01.main.body[i]?
noncomputable def me (i : Nat) : Option Stmt := match tp 2 with
  | some (.ClassDef _ _ _ b _ _ _ _ _ _ _) => b[i]?
  | _ => none
noncomputable def fobj (st : Option Stmt) (qual : Str) (g : Addr) (cl : List (Str × Addr)) (dV kV doc pm : Value) (an : Option Addr) (code ct : Value) (bt : Addr) : Obj := match st with
  | some (.FunctionDef name params body _ _ _ scope _ _ _) => ⟨.type "function", none, .func ⟨name, qual, params, .stmts body, scope, g, cl, dV, kV, doc, pm, an, code, ct, bt⟩, #[]⟩
  | _ => ktab
noncomputable def ko2 (P : Params) : Obj :=
  PySem.Obj.mk PySem.Value.none Option.none (PySem.Data.dict #[]) #[]
noncomputable def ko3 (P : Params) : Obj :=
  PySem.Obj.mk (PySem.Value.type "dict") Option.none
    (PySem.Data.dict
      #[PySem.DictEntry.mk (PySem.PyData.keyHash P (PySem.Str.ofString "__name__"))
          (PySem.Value.str (PySem.Str.ofString "__name__") 165)
          (PySem.Value.str (PySem.Str.ofString "law_be0029_01") 378),
        PySem.DictEntry.mk (PySem.PyData.keyHash P (PySem.Str.ofString "__doc__"))
          (PySem.Value.str (PySem.Str.ofString "__doc__") 166) PySem.Value.none,
        PySem.DictEntry.mk (PySem.PyData.keyHash P (PySem.Str.ofString "__package__"))
          (PySem.Value.str (PySem.Str.ofString "__package__") 167) PySem.Value.none,
        PySem.DictEntry.mk (PySem.PyData.keyHash P (PySem.Str.ofString "__loader__"))
          (PySem.Value.str (PySem.Str.ofString "__loader__") 168) (PySem.Value.builtin "__main__.__loader__#opaque"),
        PySem.DictEntry.mk (PySem.PyData.keyHash P (PySem.Str.ofString "__spec__"))
          (PySem.Value.str (PySem.Str.ofString "__spec__") 169) PySem.Value.none,
        PySem.DictEntry.mk (PySem.PyData.keyHash P (PySem.Str.ofString "__annotations__"))
          (PySem.Value.str (PySem.Str.ofString "__annotations__") 170) (PySem.Value.ref 6),
        PySem.DictEntry.mk (PySem.PyData.keyHash P (PySem.Str.ofString "__builtins__"))
          (PySem.Value.str (PySem.Str.ofString "__builtins__") 171) (PySem.Value.ref 4),
        PySem.DictEntry.mk (PySem.PyData.keyHash P (PySem.Str.ofString "__file__"))
          (PySem.Value.str (PySem.Str.ofString "__file__") 173)
          (PySem.Value.str (PySem.Str.ofString "/claim/cut.py") 172),
        PySem.DictEntry.mk (PySem.PyData.keyHash P (PySem.Str.ofString "__cached__"))
          (PySem.Value.str (PySem.Str.ofString "__cached__") 174) PySem.Value.none,
        PySem.DictEntry.mk (PySem.PyData.keyHash P (PySem.Str.ofString "_wall"))
          (PySem.Value.str (PySem.Str.ofString "_wall") 193) (PySem.Value.ref 21),
        PySem.DictEntry.mk (PySem.PyData.keyHash P (PySem.Str.ofString "Tree"))
          (PySem.Value.str (PySem.Str.ofString "Tree") 348) (PySem.Value.ref 145),
        PySem.DictEntry.mk (PySem.PyData.keyHash P (PySem.Str.ofString "_same"))
          (PySem.Value.str (PySem.Str.ofString "_same") 356) (PySem.Value.ref 156),
        PySem.DictEntry.mk (PySem.PyData.keyHash P (PySem.Str.ofString "chomsky_normal_form"))
          (PySem.Value.str (PySem.Str.ofString "chomsky_normal_form") 368) (PySem.Value.ref 162),
        PySem.DictEntry.mk (PySem.PyData.keyHash P (PySem.Str.ofString "un_chomsky_normal_form"))
          (PySem.Value.str (PySem.Str.ofString "un_chomsky_normal_form") 377) (PySem.Value.ref 168),
        PySem.DictEntry.mk (PySem.PyData.keyHash P (PySem.Str.ofString "_law_next"))
          (PySem.Value.str (PySem.Str.ofString "_law_next") 390) (PySem.Value.ref 175),
        PySem.DictEntry.mk (PySem.PyData.keyHash P (PySem.Str.ofString "_law_drawn"))
          (PySem.Value.str (PySem.Str.ofString "_law_drawn") 396) (PySem.Value.ref 180),
        PySem.DictEntry.mk (PySem.PyData.keyHash P (PySem.Str.ofString "_law_tree"))
          (PySem.Value.str (PySem.Str.ofString "_law_tree") 402) (PySem.Value.ref 185),
        PySem.DictEntry.mk (PySem.PyData.keyHash P (PySem.Str.ofString "_law_plain"))
          (PySem.Value.str (PySem.Str.ofString "_law_plain") 408) (PySem.Value.ref 190),
        PySem.DictEntry.mk (PySem.PyData.keyHash P (PySem.Str.ofString "_law_told"))
          (PySem.Value.str (PySem.Str.ofString "_law_told") 415) (PySem.Value.ref 197),
        PySem.DictEntry.mk (PySem.PyData.keyHash P (PySem.Str.ofString "_law_marked"))
          (PySem.Value.str (PySem.Str.ofString "_law_marked") 421) (PySem.Value.ref 202),
        PySem.DictEntry.mk (PySem.PyData.keyHash P (PySem.Str.ofString "law"))
          (PySem.Value.str (PySem.Str.ofString "law") 437) (PySem.Value.ref 209)]
      21)
    #[]
noncomputable def ko15 (P : Params) : Obj :=
  PySem.Obj.mk (PySem.Value.type "tuple") Option.none (PySem.Data.seq #[]) #[]
noncomputable def ko17 (P : Params) : Obj :=
  PySem.Obj.mk (PySem.Value.type "tuple") Option.none (PySem.Data.seq #[PySem.Value.str (PySem.Str.ofString "k") 190]) #[]
noncomputable def ko18 (P : Params) : Obj :=
  PySem.Obj.mk (PySem.Value.type "tuple") Option.none (PySem.Data.seq #[]) #[]
noncomputable def ko20 (P : Params) : Obj :=
  PySem.Obj.mk (PySem.Value.type "code") Option.none
    (PySem.Data.fields
      #[PySem.Value.str (PySem.Str.ofString "_wall") 187, PySem.Value.str (PySem.Str.ofString "_wall") 188,
        PySem.Value.str (PySem.Str.ofString "/claim/cut.py") 189, PySem.Value.int 1 0, PySem.Value.int 1 0,
        PySem.Value.int 0 0, PySem.Value.int 0 0, PySem.Value.int 3 0, PySem.Value.ref 15, PySem.Value.bool Bool.true,
        PySem.Value.int 181 0, PySem.Value.ref 16, PySem.Value.none, PySem.Value.ref 17, PySem.Value.ref 18,
        PySem.Value.ref 19, PySem.Value.int 191 0, PySem.Value.int 1 0,
        PySem.Value.str (PySem.Str.ofString "/claim/cut.py") 192])
    #[]
noncomputable def ko21 (P : Params) : Obj :=
  fobj (tp 0) (PySem.Str.ofString "_wall") 3 [] PySem.Value.none PySem.Value.none PySem.Value.none (PySem.Value.str (PySem.Str.ofString "__main__") 164) Option.none (PySem.Value.ref 20) PySem.Value.none 0
noncomputable def ko29 (P : Params) : Obj :=
  PySem.Obj.mk (PySem.Value.type "tuple") Option.none (PySem.Data.seq #[PySem.Value.none]) #[]
noncomputable def ko30 (P : Params) : Obj :=
  PySem.Obj.mk (PySem.Value.type "tuple") Option.none (PySem.Data.seq #[]) #[]
noncomputable def ko32 (P : Params) : Obj :=
  PySem.Obj.mk (PySem.Value.type "tuple") Option.none
    (PySem.Data.seq
      #[PySem.Value.str (PySem.Str.ofString "self") 211, PySem.Value.str (PySem.Str.ofString "node") 212,
        PySem.Value.str (PySem.Str.ofString "children") 213])
    #[]
noncomputable def ko33 (P : Params) : Obj :=
  PySem.Obj.mk (PySem.Value.type "tuple") Option.none (PySem.Data.seq #[]) #[]
noncomputable def ko35 (P : Params) : Obj :=
  PySem.Obj.mk (PySem.Value.type "code") Option.none
    (PySem.Data.fields
      #[PySem.Value.str (PySem.Str.ofString "__init__") 208, PySem.Value.str (PySem.Str.ofString "Tree.__init__") 209,
        PySem.Value.str (PySem.Str.ofString "/claim/cut.py") 210, PySem.Value.int 7 0, PySem.Value.int 3 0,
        PySem.Value.int 0 0, PySem.Value.int 0 0, PySem.Value.int 3 0, PySem.Value.ref 30, PySem.Value.bool Bool.true,
        PySem.Value.int 181 0, PySem.Value.ref 31, PySem.Value.none, PySem.Value.ref 32, PySem.Value.ref 33,
        PySem.Value.ref 34, PySem.Value.int 214 0, PySem.Value.int 7 0,
        PySem.Value.str (PySem.Str.ofString "/claim/cut.py") 215])
    #[]
noncomputable def ko36 (P : Params) : Obj :=
  fobj (me 0) (PySem.Str.ofString "Tree.__init__") 3 [] (PySem.Value.ref 29) PySem.Value.none PySem.Value.none (PySem.Value.str (PySem.Str.ofString "nltk.tree.tree") 194) Option.none (PySem.Value.ref 35) PySem.Value.none 0
noncomputable def ko37 (P : Params) : Obj :=
  PySem.Obj.mk (PySem.Value.type "tuple") Option.none (PySem.Data.seq #[]) #[]
noncomputable def ko39 (P : Params) : Obj :=
  PySem.Obj.mk (PySem.Value.type "tuple") Option.none
    (PySem.Data.seq #[PySem.Value.str (PySem.Str.ofString "self") 220, PySem.Value.str (PySem.Str.ofString "other") 221])
    #[]
noncomputable def ko40 (P : Params) : Obj :=
  PySem.Obj.mk (PySem.Value.type "tuple") Option.none (PySem.Data.seq #[]) #[]
noncomputable def ko42 (P : Params) : Obj :=
  PySem.Obj.mk (PySem.Value.type "code") Option.none
    (PySem.Data.fields
      #[PySem.Value.str (PySem.Str.ofString "__eq__") 217, PySem.Value.str (PySem.Str.ofString "Tree.__eq__") 218,
        PySem.Value.str (PySem.Str.ofString "/claim/cut.py") 219, PySem.Value.int 16 0, PySem.Value.int 2 0,
        PySem.Value.int 0 0, PySem.Value.int 0 0, PySem.Value.int 3 0, PySem.Value.ref 37, PySem.Value.bool Bool.true,
        PySem.Value.int 181 0, PySem.Value.ref 38, PySem.Value.none, PySem.Value.ref 39, PySem.Value.ref 40,
        PySem.Value.ref 41, PySem.Value.int 222 0, PySem.Value.int 16 0,
        PySem.Value.str (PySem.Str.ofString "/claim/cut.py") 223])
    #[]
noncomputable def ko43 (P : Params) : Obj :=
  fobj (me 1) (PySem.Str.ofString "Tree.__eq__") 3 [] PySem.Value.none PySem.Value.none PySem.Value.none (PySem.Value.str (PySem.Str.ofString "nltk.tree.tree") 194) Option.none (PySem.Value.ref 42) PySem.Value.none 0
noncomputable def ko44 (P : Params) : Obj :=
  PySem.Obj.mk (PySem.Value.type "tuple") Option.none (PySem.Data.seq #[]) #[]
noncomputable def ko46 (P : Params) : Obj :=
  PySem.Obj.mk (PySem.Value.type "tuple") Option.none (PySem.Data.seq #[PySem.Value.str (PySem.Str.ofString "self") 228])
    #[]
noncomputable def ko47 (P : Params) : Obj :=
  PySem.Obj.mk (PySem.Value.type "tuple") Option.none (PySem.Data.seq #[]) #[]
noncomputable def ko49 (P : Params) : Obj :=
  PySem.Obj.mk (PySem.Value.type "code") Option.none
    (PySem.Data.fields
      #[PySem.Value.str (PySem.Str.ofString "__len__") 225, PySem.Value.str (PySem.Str.ofString "Tree.__len__") 226,
        PySem.Value.str (PySem.Str.ofString "/claim/cut.py") 227, PySem.Value.int 19 0, PySem.Value.int 1 0,
        PySem.Value.int 0 0, PySem.Value.int 0 0, PySem.Value.int 3 0, PySem.Value.ref 44, PySem.Value.bool Bool.true,
        PySem.Value.int 181 0, PySem.Value.ref 45, PySem.Value.none, PySem.Value.ref 46, PySem.Value.ref 47,
        PySem.Value.ref 48, PySem.Value.int 229 0, PySem.Value.int 19 0,
        PySem.Value.str (PySem.Str.ofString "/claim/cut.py") 230])
    #[]
noncomputable def ko50 (P : Params) : Obj :=
  fobj (me 2) (PySem.Str.ofString "Tree.__len__") 3 [] PySem.Value.none PySem.Value.none PySem.Value.none (PySem.Value.str (PySem.Str.ofString "nltk.tree.tree") 194) Option.none (PySem.Value.ref 49) PySem.Value.none 0
noncomputable def ko51 (P : Params) : Obj :=
  PySem.Obj.mk (PySem.Value.type "tuple") Option.none (PySem.Data.seq #[]) #[]
noncomputable def ko53 (P : Params) : Obj :=
  PySem.Obj.mk (PySem.Value.type "tuple") Option.none
    (PySem.Data.seq #[PySem.Value.str (PySem.Str.ofString "self") 235, PySem.Value.str (PySem.Str.ofString "index") 236])
    #[]
noncomputable def ko54 (P : Params) : Obj :=
  PySem.Obj.mk (PySem.Value.type "tuple") Option.none (PySem.Data.seq #[]) #[]
noncomputable def ko56 (P : Params) : Obj :=
  PySem.Obj.mk (PySem.Value.type "code") Option.none
    (PySem.Data.fields
      #[PySem.Value.str (PySem.Str.ofString "__getitem__") 232,
        PySem.Value.str (PySem.Str.ofString "Tree.__getitem__") 233,
        PySem.Value.str (PySem.Str.ofString "/claim/cut.py") 234, PySem.Value.int 22 0, PySem.Value.int 2 0,
        PySem.Value.int 0 0, PySem.Value.int 0 0, PySem.Value.int 3 0, PySem.Value.ref 51, PySem.Value.bool Bool.true,
        PySem.Value.int 181 0, PySem.Value.ref 52, PySem.Value.none, PySem.Value.ref 53, PySem.Value.ref 54,
        PySem.Value.ref 55, PySem.Value.int 237 0, PySem.Value.int 22 0,
        PySem.Value.str (PySem.Str.ofString "/claim/cut.py") 238])
    #[]
noncomputable def ko57 (P : Params) : Obj :=
  fobj (me 3) (PySem.Str.ofString "Tree.__getitem__") 3 [] PySem.Value.none PySem.Value.none PySem.Value.none (PySem.Value.str (PySem.Str.ofString "nltk.tree.tree") 194) Option.none (PySem.Value.ref 56) PySem.Value.none 0
noncomputable def ko58 (P : Params) : Obj :=
  PySem.Obj.mk (PySem.Value.type "tuple") Option.none (PySem.Data.seq #[]) #[]
noncomputable def ko60 (P : Params) : Obj :=
  PySem.Obj.mk (PySem.Value.type "tuple") Option.none
    (PySem.Data.seq
      #[PySem.Value.str (PySem.Str.ofString "self") 243, PySem.Value.str (PySem.Str.ofString "index") 244,
        PySem.Value.str (PySem.Str.ofString "value") 245])
    #[]
noncomputable def ko61 (P : Params) : Obj :=
  PySem.Obj.mk (PySem.Value.type "tuple") Option.none (PySem.Data.seq #[]) #[]
noncomputable def ko63 (P : Params) : Obj :=
  PySem.Obj.mk (PySem.Value.type "code") Option.none
    (PySem.Data.fields
      #[PySem.Value.str (PySem.Str.ofString "__setitem__") 240,
        PySem.Value.str (PySem.Str.ofString "Tree.__setitem__") 241,
        PySem.Value.str (PySem.Str.ofString "/claim/cut.py") 242, PySem.Value.int 35 0, PySem.Value.int 3 0,
        PySem.Value.int 0 0, PySem.Value.int 0 0, PySem.Value.int 3 0, PySem.Value.ref 58, PySem.Value.bool Bool.true,
        PySem.Value.int 181 0, PySem.Value.ref 59, PySem.Value.none, PySem.Value.ref 60, PySem.Value.ref 61,
        PySem.Value.ref 62, PySem.Value.int 246 0, PySem.Value.int 35 0,
        PySem.Value.str (PySem.Str.ofString "/claim/cut.py") 247])
    #[]
noncomputable def ko64 (P : Params) : Obj :=
  fobj (me 4) (PySem.Str.ofString "Tree.__setitem__") 3 [] PySem.Value.none PySem.Value.none PySem.Value.none (PySem.Value.str (PySem.Str.ofString "nltk.tree.tree") 194) Option.none (PySem.Value.ref 63) PySem.Value.none 0
noncomputable def ko65 (P : Params) : Obj :=
  PySem.Obj.mk (PySem.Value.type "tuple") Option.none (PySem.Data.seq #[]) #[]
noncomputable def ko67 (P : Params) : Obj :=
  PySem.Obj.mk (PySem.Value.type "tuple") Option.none (PySem.Data.seq #[PySem.Value.str (PySem.Str.ofString "self") 252])
    #[]
noncomputable def ko68 (P : Params) : Obj :=
  PySem.Obj.mk (PySem.Value.type "tuple") Option.none (PySem.Data.seq #[]) #[]
noncomputable def ko70 (P : Params) : Obj :=
  PySem.Obj.mk (PySem.Value.type "code") Option.none
    (PySem.Data.fields
      #[PySem.Value.str (PySem.Str.ofString "label") 249, PySem.Value.str (PySem.Str.ofString "Tree.label") 250,
        PySem.Value.str (PySem.Str.ofString "/claim/cut.py") 251, PySem.Value.int 48 0, PySem.Value.int 1 0,
        PySem.Value.int 0 0, PySem.Value.int 0 0, PySem.Value.int 3 0, PySem.Value.ref 65, PySem.Value.bool Bool.true,
        PySem.Value.int 181 0, PySem.Value.ref 66, PySem.Value.none, PySem.Value.ref 67, PySem.Value.ref 68,
        PySem.Value.ref 69, PySem.Value.int 253 0, PySem.Value.int 48 0,
        PySem.Value.str (PySem.Str.ofString "/claim/cut.py") 254])
    #[]
noncomputable def ko71 (P : Params) : Obj :=
  fobj (me 5) (PySem.Str.ofString "Tree.label") 3 [] PySem.Value.none PySem.Value.none PySem.Value.none (PySem.Value.str (PySem.Str.ofString "nltk.tree.tree") 194) Option.none (PySem.Value.ref 70) PySem.Value.none 0
noncomputable def ko72 (P : Params) : Obj :=
  PySem.Obj.mk (PySem.Value.type "tuple") Option.none (PySem.Data.seq #[]) #[]
noncomputable def ko74 (P : Params) : Obj :=
  PySem.Obj.mk (PySem.Value.type "tuple") Option.none
    (PySem.Data.seq #[PySem.Value.str (PySem.Str.ofString "self") 259, PySem.Value.str (PySem.Str.ofString "label") 260])
    #[]
noncomputable def ko75 (P : Params) : Obj :=
  PySem.Obj.mk (PySem.Value.type "tuple") Option.none (PySem.Data.seq #[]) #[]
noncomputable def ko77 (P : Params) : Obj :=
  PySem.Obj.mk (PySem.Value.type "code") Option.none
    (PySem.Data.fields
      #[PySem.Value.str (PySem.Str.ofString "set_label") 256, PySem.Value.str (PySem.Str.ofString "Tree.set_label") 257,
        PySem.Value.str (PySem.Str.ofString "/claim/cut.py") 258, PySem.Value.int 51 0, PySem.Value.int 2 0,
        PySem.Value.int 0 0, PySem.Value.int 0 0, PySem.Value.int 3 0, PySem.Value.ref 72, PySem.Value.bool Bool.true,
        PySem.Value.int 181 0, PySem.Value.ref 73, PySem.Value.none, PySem.Value.ref 74, PySem.Value.ref 75,
        PySem.Value.ref 76, PySem.Value.int 261 0, PySem.Value.int 51 0,
        PySem.Value.str (PySem.Str.ofString "/claim/cut.py") 262])
    #[]
noncomputable def ko78 (P : Params) : Obj :=
  fobj (me 6) (PySem.Str.ofString "Tree.set_label") 3 [] PySem.Value.none PySem.Value.none PySem.Value.none (PySem.Value.str (PySem.Str.ofString "nltk.tree.tree") 194) Option.none (PySem.Value.ref 77) PySem.Value.none 0
noncomputable def ko79 (P : Params) : Obj :=
  PySem.Obj.mk (PySem.Value.type "tuple") Option.none (PySem.Data.seq #[]) #[]
noncomputable def ko81 (P : Params) : Obj :=
  PySem.Obj.mk (PySem.Value.type "tuple") Option.none
    (PySem.Data.seq
      #[PySem.Value.str (PySem.Str.ofString "self") 267, PySem.Value.str (PySem.Str.ofString "leaves") 268,
        PySem.Value.str (PySem.Str.ofString "child") 269])
    #[]
noncomputable def ko82 (P : Params) : Obj :=
  PySem.Obj.mk (PySem.Value.type "tuple") Option.none (PySem.Data.seq #[]) #[]
noncomputable def ko84 (P : Params) : Obj :=
  PySem.Obj.mk (PySem.Value.type "code") Option.none
    (PySem.Data.fields
      #[PySem.Value.str (PySem.Str.ofString "leaves") 264, PySem.Value.str (PySem.Str.ofString "Tree.leaves") 265,
        PySem.Value.str (PySem.Str.ofString "/claim/cut.py") 266, PySem.Value.int 54 0, PySem.Value.int 1 0,
        PySem.Value.int 0 0, PySem.Value.int 0 0, PySem.Value.int 3 0, PySem.Value.ref 79, PySem.Value.bool Bool.true,
        PySem.Value.int 181 0, PySem.Value.ref 80, PySem.Value.none, PySem.Value.ref 81, PySem.Value.ref 82,
        PySem.Value.ref 83, PySem.Value.int 270 0, PySem.Value.int 54 0,
        PySem.Value.str (PySem.Str.ofString "/claim/cut.py") 271])
    #[]
noncomputable def ko85 (P : Params) : Obj :=
  fobj (me 7) (PySem.Str.ofString "Tree.leaves") 3 [] PySem.Value.none PySem.Value.none PySem.Value.none (PySem.Value.str (PySem.Str.ofString "nltk.tree.tree") 194) Option.none (PySem.Value.ref 84) PySem.Value.none 0
noncomputable def ko86 (P : Params) : Obj :=
  PySem.Obj.mk (PySem.Value.type "tuple") Option.none (PySem.Data.seq #[]) #[]
noncomputable def ko88 (P : Params) : Obj :=
  PySem.Obj.mk (PySem.Value.type "tuple") Option.none (PySem.Data.seq #[PySem.Value.str (PySem.Str.ofString "self") 276])
    #[]
noncomputable def ko89 (P : Params) : Obj :=
  PySem.Obj.mk (PySem.Value.type "tuple") Option.none (PySem.Data.seq #[]) #[]
noncomputable def ko91 (P : Params) : Obj :=
  PySem.Obj.mk (PySem.Value.type "code") Option.none
    (PySem.Data.fields
      #[PySem.Value.str (PySem.Str.ofString "flatten") 273, PySem.Value.str (PySem.Str.ofString "Tree.flatten") 274,
        PySem.Value.str (PySem.Str.ofString "/claim/cut.py") 275, PySem.Value.int 63 0, PySem.Value.int 1 0,
        PySem.Value.int 0 0, PySem.Value.int 0 0, PySem.Value.int 3 0, PySem.Value.ref 86, PySem.Value.bool Bool.true,
        PySem.Value.int 181 0, PySem.Value.ref 87, PySem.Value.none, PySem.Value.ref 88, PySem.Value.ref 89,
        PySem.Value.ref 90, PySem.Value.int 277 0, PySem.Value.int 63 0,
        PySem.Value.str (PySem.Str.ofString "/claim/cut.py") 278])
    #[]
noncomputable def ko92 (P : Params) : Obj :=
  fobj (me 8) (PySem.Str.ofString "Tree.flatten") 3 [] PySem.Value.none PySem.Value.none PySem.Value.none (PySem.Value.str (PySem.Str.ofString "nltk.tree.tree") 194) Option.none (PySem.Value.ref 91) PySem.Value.none 0
noncomputable def ko93 (P : Params) : Obj :=
  PySem.Obj.mk (PySem.Value.type "tuple") Option.none (PySem.Data.seq #[]) #[]
noncomputable def ko95 (P : Params) : Obj :=
  PySem.Obj.mk (PySem.Value.type "tuple") Option.none
    (PySem.Data.seq
      #[PySem.Value.str (PySem.Str.ofString "self") 283, PySem.Value.str (PySem.Str.ofString "max_child_height") 284,
        PySem.Value.str (PySem.Str.ofString "child") 285])
    #[]
noncomputable def ko96 (P : Params) : Obj :=
  PySem.Obj.mk (PySem.Value.type "tuple") Option.none (PySem.Data.seq #[]) #[]
noncomputable def ko98 (P : Params) : Obj :=
  PySem.Obj.mk (PySem.Value.type "code") Option.none
    (PySem.Data.fields
      #[PySem.Value.str (PySem.Str.ofString "height") 280, PySem.Value.str (PySem.Str.ofString "Tree.height") 281,
        PySem.Value.str (PySem.Str.ofString "/claim/cut.py") 282, PySem.Value.int 66 0, PySem.Value.int 1 0,
        PySem.Value.int 0 0, PySem.Value.int 0 0, PySem.Value.int 3 0, PySem.Value.ref 93, PySem.Value.bool Bool.true,
        PySem.Value.int 181 0, PySem.Value.ref 94, PySem.Value.none, PySem.Value.ref 95, PySem.Value.ref 96,
        PySem.Value.ref 97, PySem.Value.int 286 0, PySem.Value.int 66 0,
        PySem.Value.str (PySem.Str.ofString "/claim/cut.py") 287])
    #[]
noncomputable def ko99 (P : Params) : Obj :=
  fobj (me 9) (PySem.Str.ofString "Tree.height") 3 [] PySem.Value.none PySem.Value.none PySem.Value.none (PySem.Value.str (PySem.Str.ofString "nltk.tree.tree") 194) Option.none (PySem.Value.ref 98) PySem.Value.none 0
noncomputable def ko100 (P : Params) : Obj :=
  PySem.Obj.mk (PySem.Value.type "tuple") Option.none
    (PySem.Data.seq #[PySem.Value.str (PySem.Str.ofString "preorder") 289]) #[]
noncomputable def ko101 (P : Params) : Obj :=
  PySem.Obj.mk (PySem.Value.type "tuple") Option.none (PySem.Data.seq #[]) #[]
noncomputable def ko103 (P : Params) : Obj :=
  PySem.Obj.mk (PySem.Value.type "tuple") Option.none
    (PySem.Data.seq #[PySem.Value.str (PySem.Str.ofString "self") 293, PySem.Value.str (PySem.Str.ofString "order") 294])
    #[]
noncomputable def ko104 (P : Params) : Obj :=
  PySem.Obj.mk (PySem.Value.type "tuple") Option.none (PySem.Data.seq #[]) #[]
noncomputable def ko106 (P : Params) : Obj :=
  PySem.Obj.mk (PySem.Value.type "code") Option.none
    (PySem.Data.fields
      #[PySem.Value.str (PySem.Str.ofString "treepositions") 290,
        PySem.Value.str (PySem.Str.ofString "Tree.treepositions") 291,
        PySem.Value.str (PySem.Str.ofString "/claim/cut.py") 292, PySem.Value.int 75 0, PySem.Value.int 2 0,
        PySem.Value.int 0 0, PySem.Value.int 0 0, PySem.Value.int 3 0, PySem.Value.ref 101, PySem.Value.bool Bool.true,
        PySem.Value.int 181 0, PySem.Value.ref 102, PySem.Value.none, PySem.Value.ref 103, PySem.Value.ref 104,
        PySem.Value.ref 105, PySem.Value.int 295 0, PySem.Value.int 75 0,
        PySem.Value.str (PySem.Str.ofString "/claim/cut.py") 296])
    #[]
noncomputable def ko107 (P : Params) : Obj :=
  fobj (me 10) (PySem.Str.ofString "Tree.treepositions") 3 [] (PySem.Value.ref 100) PySem.Value.none PySem.Value.none (PySem.Value.str (PySem.Str.ofString "nltk.tree.tree") 194) Option.none (PySem.Value.ref 106) PySem.Value.none 0
noncomputable def ko108 (P : Params) : Obj :=
  PySem.Obj.mk (PySem.Value.type "tuple") Option.none (PySem.Data.seq #[]) #[]
noncomputable def ko110 (P : Params) : Obj :=
  PySem.Obj.mk (PySem.Value.type "tuple") Option.none
    (PySem.Data.seq
      #[PySem.Value.str (PySem.Str.ofString "self") 301, PySem.Value.str (PySem.Str.ofString "child") 302,
        PySem.Value.str (PySem.Str.ofString "subtree") 303])
    #[]
noncomputable def ko111 (P : Params) : Obj :=
  PySem.Obj.mk (PySem.Value.type "tuple") Option.none (PySem.Data.seq #[]) #[]
noncomputable def ko113 (P : Params) : Obj :=
  PySem.Obj.mk (PySem.Value.type "code") Option.none
    (PySem.Data.fields
      #[PySem.Value.str (PySem.Str.ofString "subtrees") 298, PySem.Value.str (PySem.Str.ofString "Tree.subtrees") 299,
        PySem.Value.str (PySem.Str.ofString "/claim/cut.py") 300, PySem.Value.int 78 0, PySem.Value.int 1 0,
        PySem.Value.int 0 0, PySem.Value.int 0 0, PySem.Value.int 35 0, PySem.Value.ref 108, PySem.Value.bool Bool.true,
        PySem.Value.int 181 0, PySem.Value.ref 109, PySem.Value.none, PySem.Value.ref 110, PySem.Value.ref 111,
        PySem.Value.ref 112, PySem.Value.int 304 0, PySem.Value.int 78 0,
        PySem.Value.str (PySem.Str.ofString "/claim/cut.py") 305])
    #[]
noncomputable def ko114 (P : Params) : Obj :=
  fobj (me 11) (PySem.Str.ofString "Tree.subtrees") 3 [] PySem.Value.none PySem.Value.none PySem.Value.none (PySem.Value.str (PySem.Str.ofString "nltk.tree.tree") 194) Option.none (PySem.Value.ref 113) PySem.Value.none 0
noncomputable def ko115 (P : Params) : Obj :=
  PySem.Obj.mk (PySem.Value.type "tuple") Option.none (PySem.Data.seq #[]) #[]
noncomputable def ko117 (P : Params) : Obj :=
  PySem.Obj.mk (PySem.Value.type "tuple") Option.none (PySem.Data.seq #[PySem.Value.str (PySem.Str.ofString "self") 310])
    #[]
noncomputable def ko118 (P : Params) : Obj :=
  PySem.Obj.mk (PySem.Value.type "tuple") Option.none (PySem.Data.seq #[]) #[]
noncomputable def ko120 (P : Params) : Obj :=
  PySem.Obj.mk (PySem.Value.type "code") Option.none
    (PySem.Data.fields
      #[PySem.Value.str (PySem.Str.ofString "productions") 307,
        PySem.Value.str (PySem.Str.ofString "Tree.productions") 308,
        PySem.Value.str (PySem.Str.ofString "/claim/cut.py") 309, PySem.Value.int 85 0, PySem.Value.int 1 0,
        PySem.Value.int 0 0, PySem.Value.int 0 0, PySem.Value.int 3 0, PySem.Value.ref 115, PySem.Value.bool Bool.true,
        PySem.Value.int 181 0, PySem.Value.ref 116, PySem.Value.none, PySem.Value.ref 117, PySem.Value.ref 118,
        PySem.Value.ref 119, PySem.Value.int 311 0, PySem.Value.int 85 0,
        PySem.Value.str (PySem.Str.ofString "/claim/cut.py") 312])
    #[]
noncomputable def ko121 (P : Params) : Obj :=
  fobj (me 12) (PySem.Str.ofString "Tree.productions") 3 [] PySem.Value.none PySem.Value.none PySem.Value.none (PySem.Value.str (PySem.Str.ofString "nltk.tree.tree") 194) Option.none (PySem.Value.ref 120) PySem.Value.none 0
noncomputable def ko122 (P : Params) : Obj :=
  PySem.Obj.mk (PySem.Value.type "tuple") Option.none (PySem.Data.seq #[]) #[]
noncomputable def ko124 (P : Params) : Obj :=
  PySem.Obj.mk (PySem.Value.type "tuple") Option.none (PySem.Data.seq #[PySem.Value.str (PySem.Str.ofString "self") 317])
    #[]
noncomputable def ko125 (P : Params) : Obj :=
  PySem.Obj.mk (PySem.Value.type "tuple") Option.none (PySem.Data.seq #[]) #[]
noncomputable def ko127 (P : Params) : Obj :=
  PySem.Obj.mk (PySem.Value.type "code") Option.none
    (PySem.Data.fields
      #[PySem.Value.str (PySem.Str.ofString "pos") 314, PySem.Value.str (PySem.Str.ofString "Tree.pos") 315,
        PySem.Value.str (PySem.Str.ofString "/claim/cut.py") 316, PySem.Value.int 88 0, PySem.Value.int 1 0,
        PySem.Value.int 0 0, PySem.Value.int 0 0, PySem.Value.int 3 0, PySem.Value.ref 122, PySem.Value.bool Bool.true,
        PySem.Value.int 181 0, PySem.Value.ref 123, PySem.Value.none, PySem.Value.ref 124, PySem.Value.ref 125,
        PySem.Value.ref 126, PySem.Value.int 318 0, PySem.Value.int 88 0,
        PySem.Value.str (PySem.Str.ofString "/claim/cut.py") 319])
    #[]
noncomputable def ko128 (P : Params) : Obj :=
  fobj (me 13) (PySem.Str.ofString "Tree.pos") 3 [] PySem.Value.none PySem.Value.none PySem.Value.none (PySem.Value.str (PySem.Str.ofString "nltk.tree.tree") 194) Option.none (PySem.Value.ref 127) PySem.Value.none 0
noncomputable def ko129 (P : Params) : Obj :=
  PySem.Obj.mk (PySem.Value.type "tuple") Option.none (PySem.Data.seq #[]) #[]
noncomputable def ko131 (P : Params) : Obj :=
  PySem.Obj.mk (PySem.Value.type "tuple") Option.none
    (PySem.Data.seq #[PySem.Value.str (PySem.Str.ofString "self") 324, PySem.Value.str (PySem.Str.ofString "index") 325])
    #[]
noncomputable def ko132 (P : Params) : Obj :=
  PySem.Obj.mk (PySem.Value.type "tuple") Option.none (PySem.Data.seq #[]) #[]
noncomputable def ko134 (P : Params) : Obj :=
  PySem.Obj.mk (PySem.Value.type "code") Option.none
    (PySem.Data.fields
      #[PySem.Value.str (PySem.Str.ofString "leaf_treeposition") 321,
        PySem.Value.str (PySem.Str.ofString "Tree.leaf_treeposition") 322,
        PySem.Value.str (PySem.Str.ofString "/claim/cut.py") 323, PySem.Value.int 91 0, PySem.Value.int 2 0,
        PySem.Value.int 0 0, PySem.Value.int 0 0, PySem.Value.int 3 0, PySem.Value.ref 129, PySem.Value.bool Bool.true,
        PySem.Value.int 181 0, PySem.Value.ref 130, PySem.Value.none, PySem.Value.ref 131, PySem.Value.ref 132,
        PySem.Value.ref 133, PySem.Value.int 326 0, PySem.Value.int 91 0,
        PySem.Value.str (PySem.Str.ofString "/claim/cut.py") 327])
    #[]
noncomputable def ko135 (P : Params) : Obj :=
  fobj (me 14) (PySem.Str.ofString "Tree.leaf_treeposition") 3 [] PySem.Value.none PySem.Value.none PySem.Value.none (PySem.Value.str (PySem.Str.ofString "nltk.tree.tree") 194) Option.none (PySem.Value.ref 134) PySem.Value.none 0
noncomputable def ko136 (P : Params) : Obj :=
  PySem.Obj.mk (PySem.Value.type "tuple") Option.none (PySem.Data.seq #[]) #[]
noncomputable def ko138 (P : Params) : Obj :=
  PySem.Obj.mk (PySem.Value.type "tuple") Option.none
    (PySem.Data.seq
      #[PySem.Value.str (PySem.Str.ofString "self") 332, PySem.Value.str (PySem.Str.ofString "start") 333,
        PySem.Value.str (PySem.Str.ofString "end") 334])
    #[]
noncomputable def ko139 (P : Params) : Obj :=
  PySem.Obj.mk (PySem.Value.type "tuple") Option.none (PySem.Data.seq #[]) #[]
noncomputable def ko141 (P : Params) : Obj :=
  PySem.Obj.mk (PySem.Value.type "code") Option.none
    (PySem.Data.fields
      #[PySem.Value.str (PySem.Str.ofString "treeposition_spanning_leaves") 329,
        PySem.Value.str (PySem.Str.ofString "Tree.treeposition_spanning_leaves") 330,
        PySem.Value.str (PySem.Str.ofString "/claim/cut.py") 331, PySem.Value.int 94 0, PySem.Value.int 3 0,
        PySem.Value.int 0 0, PySem.Value.int 0 0, PySem.Value.int 3 0, PySem.Value.ref 136, PySem.Value.bool Bool.true,
        PySem.Value.int 181 0, PySem.Value.ref 137, PySem.Value.none, PySem.Value.ref 138, PySem.Value.ref 139,
        PySem.Value.ref 140, PySem.Value.int 335 0, PySem.Value.int 94 0,
        PySem.Value.str (PySem.Str.ofString "/claim/cut.py") 336])
    #[]
noncomputable def ko142 (P : Params) : Obj :=
  fobj (me 15) (PySem.Str.ofString "Tree.treeposition_spanning_leaves") 3 [] PySem.Value.none PySem.Value.none PySem.Value.none (PySem.Value.str (PySem.Str.ofString "nltk.tree.tree") 194) Option.none (PySem.Value.ref 141) PySem.Value.none 0
noncomputable def ko143 (P : Params) : Obj :=
  PySem.Obj.mk (PySem.Value.type "tuple") Option.none
    (PySem.Data.seq
      #[PySem.Value.str (PySem.Str.ofString "_children") 338, PySem.Value.str (PySem.Str.ofString "_label") 339])
    #[]
noncomputable def ko144 (P : Params) : Obj :=
  PySem.Obj.mk (PySem.Value.type "dict") Option.none
    (PySem.Data.dict
      #[PySem.DictEntry.mk (PySem.PyData.keyHash P (PySem.Str.ofString "__module__"))
          (PySem.Value.str (PySem.Str.ofString "__module__") 203)
          (PySem.Value.str (PySem.Str.ofString "nltk.tree.tree") 194),
        PySem.DictEntry.mk (PySem.PyData.keyHash P (PySem.Str.ofString "__firstlineno__"))
          (PySem.Value.str (PySem.Str.ofString "__firstlineno__") 207) (PySem.Value.int 5 206),
        PySem.DictEntry.mk (PySem.PyData.keyHash P (PySem.Str.ofString "__init__"))
          (PySem.Value.str (PySem.Str.ofString "__init__") 216) (PySem.Value.ref 36),
        PySem.DictEntry.mk (PySem.PyData.keyHash P (PySem.Str.ofString "__eq__"))
          (PySem.Value.str (PySem.Str.ofString "__eq__") 224) (PySem.Value.ref 43),
        PySem.DictEntry.mk (PySem.PyData.keyHash P (PySem.Str.ofString "__len__"))
          (PySem.Value.str (PySem.Str.ofString "__len__") 231) (PySem.Value.ref 50),
        PySem.DictEntry.mk (PySem.PyData.keyHash P (PySem.Str.ofString "__getitem__"))
          (PySem.Value.str (PySem.Str.ofString "__getitem__") 239) (PySem.Value.ref 57),
        PySem.DictEntry.mk (PySem.PyData.keyHash P (PySem.Str.ofString "__setitem__"))
          (PySem.Value.str (PySem.Str.ofString "__setitem__") 248) (PySem.Value.ref 64),
        PySem.DictEntry.mk (PySem.PyData.keyHash P (PySem.Str.ofString "label"))
          (PySem.Value.str (PySem.Str.ofString "label") 255) (PySem.Value.ref 71),
        PySem.DictEntry.mk (PySem.PyData.keyHash P (PySem.Str.ofString "set_label"))
          (PySem.Value.str (PySem.Str.ofString "set_label") 263) (PySem.Value.ref 78),
        PySem.DictEntry.mk (PySem.PyData.keyHash P (PySem.Str.ofString "leaves"))
          (PySem.Value.str (PySem.Str.ofString "leaves") 272) (PySem.Value.ref 85),
        PySem.DictEntry.mk (PySem.PyData.keyHash P (PySem.Str.ofString "flatten"))
          (PySem.Value.str (PySem.Str.ofString "flatten") 279) (PySem.Value.ref 92),
        PySem.DictEntry.mk (PySem.PyData.keyHash P (PySem.Str.ofString "height"))
          (PySem.Value.str (PySem.Str.ofString "height") 288) (PySem.Value.ref 99),
        PySem.DictEntry.mk (PySem.PyData.keyHash P (PySem.Str.ofString "treepositions"))
          (PySem.Value.str (PySem.Str.ofString "treepositions") 297) (PySem.Value.ref 107),
        PySem.DictEntry.mk (PySem.PyData.keyHash P (PySem.Str.ofString "subtrees"))
          (PySem.Value.str (PySem.Str.ofString "subtrees") 306) (PySem.Value.ref 114),
        PySem.DictEntry.mk (PySem.PyData.keyHash P (PySem.Str.ofString "productions"))
          (PySem.Value.str (PySem.Str.ofString "productions") 313) (PySem.Value.ref 121),
        PySem.DictEntry.mk (PySem.PyData.keyHash P (PySem.Str.ofString "pos"))
          (PySem.Value.str (PySem.Str.ofString "pos") 320) (PySem.Value.ref 128),
        PySem.DictEntry.mk (PySem.PyData.keyHash P (PySem.Str.ofString "leaf_treeposition"))
          (PySem.Value.str (PySem.Str.ofString "leaf_treeposition") 328) (PySem.Value.ref 135),
        PySem.DictEntry.mk (PySem.PyData.keyHash P (PySem.Str.ofString "treeposition_spanning_leaves"))
          (PySem.Value.str (PySem.Str.ofString "treeposition_spanning_leaves") 337) (PySem.Value.ref 142),
        PySem.DictEntry.mk (PySem.PyData.keyHash P (PySem.Str.ofString "__static_attributes__"))
          (PySem.Value.str (PySem.Str.ofString "__static_attributes__") 340) (PySem.Value.ref 143),
        PySem.DictEntry.mk (PySem.PyData.keyHash P (PySem.Str.ofString "__dict__"))
          (PySem.Value.str (PySem.Str.ofString "__dict__") 342) (PySem.Value.ref 146),
        PySem.DictEntry.mk (PySem.PyData.keyHash P (PySem.Str.ofString "__weakref__"))
          (PySem.Value.str (PySem.Str.ofString "__weakref__") 344) (PySem.Value.ref 147),
        PySem.DictEntry.mk (PySem.PyData.keyHash P (PySem.Str.ofString "__doc__"))
          (PySem.Value.str (PySem.Str.ofString "__doc__") 345) PySem.Value.none,
        PySem.DictEntry.mk (PySem.PyData.keyHash P (PySem.Str.ofString "__hash__"))
          (PySem.Value.str (PySem.Str.ofString "__hash__") 346) PySem.Value.none]
      5)
    #[]
noncomputable def ko145 (P : Params) : Obj :=
  PySem.Obj.mk (PySem.Value.type "type") Option.none
    (PySem.Data.cls
      (PySem.ClassData.mk (PySem.Str.ofString "Tree") [PySem.Value.type "object"]
        [PySem.Value.ref 145, PySem.Value.type "object"] 144 (PySem.Str.ofString "Tree") Bool.true [] [] Bool.false
        Option.none Bool.false))
    #[Option.none, Option.none, Option.some (PySem.Value.str (PySem.Str.ofString "Tree") 196),
      Option.some (PySem.Value.str (PySem.Str.ofString "Tree") 204), Option.some (PySem.Value.builtin "object.__new__"),
      Option.some (PySem.Value.bool Bool.true)]
noncomputable def ko146 (P : Params) : Obj :=
  PySem.Obj.mk (PySem.Value.type "getset_descriptor") Option.none
    (PySem.Data.fields
      #[PySem.Value.str (PySem.Str.ofString "__dict__") 341, PySem.Value.ref 145, PySem.Value.builtin "function.__dict__",
        PySem.Value.builtin "function.__dict__#set"])
    #[]
noncomputable def ko147 (P : Params) : Obj :=
  PySem.Obj.mk (PySem.Value.type "getset_descriptor") Option.none
    (PySem.Data.fields
      #[PySem.Value.str (PySem.Str.ofString "__weakref__") 343, PySem.Value.ref 145,
        PySem.Value.builtin "ExceptionGroup.__weakref__", PySem.Value.none])
    #[]
noncomputable def ko150 (P : Params) : Obj :=
  PySem.Obj.mk (PySem.Value.type "tuple") Option.none (PySem.Data.seq #[]) #[]
noncomputable def ko152 (P : Params) : Obj :=
  PySem.Obj.mk (PySem.Value.type "tuple") Option.none
    (PySem.Data.seq #[PySem.Value.str (PySem.Str.ofString "a") 352, PySem.Value.str (PySem.Str.ofString "b") 353]) #[]
noncomputable def ko153 (P : Params) : Obj :=
  PySem.Obj.mk (PySem.Value.type "tuple") Option.none (PySem.Data.seq #[]) #[]
noncomputable def ko155 (P : Params) : Obj :=
  PySem.Obj.mk (PySem.Value.type "code") Option.none
    (PySem.Data.fields
      #[PySem.Value.str (PySem.Str.ofString "_same") 349, PySem.Value.str (PySem.Str.ofString "_same") 350,
        PySem.Value.str (PySem.Str.ofString "/claim/cut.py") 351, PySem.Value.int 96 0, PySem.Value.int 2 0,
        PySem.Value.int 0 0, PySem.Value.int 0 0, PySem.Value.int 3 0, PySem.Value.ref 150, PySem.Value.bool Bool.true,
        PySem.Value.int 181 0, PySem.Value.ref 151, PySem.Value.none, PySem.Value.ref 152, PySem.Value.ref 153,
        PySem.Value.ref 154, PySem.Value.int 354 0, PySem.Value.int 96 0,
        PySem.Value.str (PySem.Str.ofString "/claim/cut.py") 355])
    #[]
noncomputable def ko156 (P : Params) : Obj :=
  fobj (tp 3) (PySem.Str.ofString "_same") 3 [] PySem.Value.none PySem.Value.none PySem.Value.none (PySem.Value.str (PySem.Str.ofString "nltk.tree.tree") 194) Option.none (PySem.Value.ref 155) PySem.Value.none 0
noncomputable def ko157 (P : Params) : Obj :=
  PySem.Obj.mk (PySem.Value.type "tuple") Option.none
    (PySem.Data.seq
      #[PySem.Value.str (PySem.Str.ofString "right") 359, PySem.Value.none, PySem.Value.int 0 360,
        PySem.Value.str (PySem.Str.ofString "|") 361, PySem.Value.str (PySem.Str.ofString "^") 362])
    #[]
noncomputable def ko158 (P : Params) : Obj :=
  PySem.Obj.mk (PySem.Value.type "tuple") Option.none (PySem.Data.seq #[]) #[]
noncomputable def ko161 (P : Params) : Obj :=
  PySem.Obj.mk (PySem.Value.type "code") Option.none
    (PySem.Data.fields
      #[PySem.Value.str (PySem.Str.ofString "chomsky_normal_form") 363,
        PySem.Value.str (PySem.Str.ofString "chomsky_normal_form") 364,
        PySem.Value.str (PySem.Str.ofString "/claim/cut.py") 365, PySem.Value.int 101 0, PySem.Value.int 6 0,
        PySem.Value.int 0 0, PySem.Value.int 0 0, PySem.Value.int 3 0, PySem.Value.ref 158, PySem.Value.bool Bool.true,
        PySem.Value.int 181 0, PySem.Value.ref 159, PySem.Value.none, PySem.Value.none, PySem.Value.none,
        PySem.Value.ref 160, PySem.Value.int 366 0, PySem.Value.int 101 0,
        PySem.Value.str (PySem.Str.ofString "/claim/cut.py") 367])
    #[]
noncomputable def ko162 (P : Params) : Obj :=
  fobj (tp 5) (PySem.Str.ofString "chomsky_normal_form") 3 [] (PySem.Value.ref 157) PySem.Value.none PySem.Value.none (PySem.Value.str (PySem.Str.ofString "nltk.tree.transforms") 357) Option.none (PySem.Value.ref 161) PySem.Value.none 0
noncomputable def ko163 (P : Params) : Obj :=
  PySem.Obj.mk (PySem.Value.type "tuple") Option.none
    (PySem.Data.seq
      #[PySem.Value.bool Bool.true, PySem.Value.str (PySem.Str.ofString "|") 369,
        PySem.Value.str (PySem.Str.ofString "^") 370, PySem.Value.str (PySem.Str.ofString "+") 371])
    #[]
noncomputable def ko164 (P : Params) : Obj :=
  PySem.Obj.mk (PySem.Value.type "tuple") Option.none (PySem.Data.seq #[]) #[]
noncomputable def ko167 (P : Params) : Obj :=
  PySem.Obj.mk (PySem.Value.type "code") Option.none
    (PySem.Data.fields
      #[PySem.Value.str (PySem.Str.ofString "un_chomsky_normal_form") 372,
        PySem.Value.str (PySem.Str.ofString "un_chomsky_normal_form") 373,
        PySem.Value.str (PySem.Str.ofString "/claim/cut.py") 374, PySem.Value.int 133 0, PySem.Value.int 5 0,
        PySem.Value.int 0 0, PySem.Value.int 0 0, PySem.Value.int 3 0, PySem.Value.ref 164, PySem.Value.bool Bool.true,
        PySem.Value.int 181 0, PySem.Value.ref 165, PySem.Value.none, PySem.Value.none, PySem.Value.none,
        PySem.Value.ref 166, PySem.Value.int 375 0, PySem.Value.int 133 0,
        PySem.Value.str (PySem.Str.ofString "/claim/cut.py") 376])
    #[]
noncomputable def ko168 (P : Params) : Obj :=
  fobj (tp 6) (PySem.Str.ofString "un_chomsky_normal_form") 3 [] (PySem.Value.ref 163) PySem.Value.none PySem.Value.none (PySem.Value.str (PySem.Str.ofString "nltk.tree.transforms") 357) Option.none (PySem.Value.ref 167) PySem.Value.none 0
noncomputable def ko169 (P : Params) : Obj :=
  PySem.Obj.mk (PySem.Value.type "tuple") Option.none (PySem.Data.seq #[]) #[]
noncomputable def ko171 (P : Params) : Obj :=
  PySem.Obj.mk (PySem.Value.type "tuple") Option.none
    (PySem.Data.seq
      #[PySem.Value.str (PySem.Str.ofString "hand") 383, PySem.Value.str (PySem.Str.ofString "many") 384,
        PySem.Value.str (PySem.Str.ofString "script") 385, PySem.Value.str (PySem.Str.ofString "k") 386,
        PySem.Value.str (PySem.Str.ofString "n") 387])
    #[]
noncomputable def ko172 (P : Params) : Obj :=
  PySem.Obj.mk (PySem.Value.type "tuple") Option.none (PySem.Data.seq #[]) #[]
noncomputable def ko174 (P : Params) : Obj :=
  PySem.Obj.mk (PySem.Value.type "code") Option.none
    (PySem.Data.fields
      #[PySem.Value.str (PySem.Str.ofString "_law_next") 380, PySem.Value.str (PySem.Str.ofString "_law_next") 381,
        PySem.Value.str (PySem.Str.ofString "/claim/cut.py") 382, PySem.Value.int 160 0, PySem.Value.int 2 0,
        PySem.Value.int 0 0, PySem.Value.int 0 0, PySem.Value.int 3 0, PySem.Value.ref 169, PySem.Value.bool Bool.true,
        PySem.Value.int 181 0, PySem.Value.ref 170, PySem.Value.none, PySem.Value.ref 171, PySem.Value.ref 172,
        PySem.Value.ref 173, PySem.Value.int 388 0, PySem.Value.int 160 0,
        PySem.Value.str (PySem.Str.ofString "/claim/cut.py") 389])
    #[]
noncomputable def ko175 (P : Params) : Obj :=
  fobj (tp 8) (PySem.Str.ofString "_law_next") 3 [] PySem.Value.none PySem.Value.none PySem.Value.none (PySem.Value.str (PySem.Str.ofString "law_be0029_01") 378) Option.none (PySem.Value.ref 174) PySem.Value.none 0
noncomputable def ko176 (P : Params) : Obj :=
  PySem.Obj.mk (PySem.Value.type "tuple") Option.none (PySem.Data.seq #[]) #[]
noncomputable def ko179 (P : Params) : Obj :=
  PySem.Obj.mk (PySem.Value.type "code") Option.none
    (PySem.Data.fields
      #[PySem.Value.str (PySem.Str.ofString "_law_drawn") 391, PySem.Value.str (PySem.Str.ofString "_law_drawn") 392,
        PySem.Value.str (PySem.Str.ofString "/claim/cut.py") 393, PySem.Value.int 167 0, PySem.Value.int 2 0,
        PySem.Value.int 0 0, PySem.Value.int 0 0, PySem.Value.int 3 0, PySem.Value.ref 176, PySem.Value.bool Bool.true,
        PySem.Value.int 181 0, PySem.Value.ref 177, PySem.Value.none, PySem.Value.none, PySem.Value.none,
        PySem.Value.ref 178, PySem.Value.int 394 0, PySem.Value.int 167 0,
        PySem.Value.str (PySem.Str.ofString "/claim/cut.py") 395])
    #[]
noncomputable def ko180 (P : Params) : Obj :=
  fobj (tp 9) (PySem.Str.ofString "_law_drawn") 3 [] PySem.Value.none PySem.Value.none PySem.Value.none (PySem.Value.str (PySem.Str.ofString "law_be0029_01") 378) Option.none (PySem.Value.ref 179) PySem.Value.none 0
noncomputable def ko181 (P : Params) : Obj :=
  PySem.Obj.mk (PySem.Value.type "tuple") Option.none (PySem.Data.seq #[]) #[]
noncomputable def ko184 (P : Params) : Obj :=
  PySem.Obj.mk (PySem.Value.type "code") Option.none
    (PySem.Data.fields
      #[PySem.Value.str (PySem.Str.ofString "_law_tree") 397, PySem.Value.str (PySem.Str.ofString "_law_tree") 398,
        PySem.Value.str (PySem.Str.ofString "/claim/cut.py") 399, PySem.Value.int 174 0, PySem.Value.int 1 0,
        PySem.Value.int 0 0, PySem.Value.int 0 0, PySem.Value.int 3 0, PySem.Value.ref 181, PySem.Value.bool Bool.true,
        PySem.Value.int 181 0, PySem.Value.ref 182, PySem.Value.none, PySem.Value.none, PySem.Value.none,
        PySem.Value.ref 183, PySem.Value.int 400 0, PySem.Value.int 174 0,
        PySem.Value.str (PySem.Str.ofString "/claim/cut.py") 401])
    #[]
noncomputable def ko185 (P : Params) : Obj :=
  fobj (tp 10) (PySem.Str.ofString "_law_tree") 3 [] PySem.Value.none PySem.Value.none PySem.Value.none (PySem.Value.str (PySem.Str.ofString "law_be0029_01") 378) Option.none (PySem.Value.ref 184) PySem.Value.none 0
noncomputable def ko186 (P : Params) : Obj :=
  PySem.Obj.mk (PySem.Value.type "tuple") Option.none (PySem.Data.seq #[]) #[]
noncomputable def ko189 (P : Params) : Obj :=
  PySem.Obj.mk (PySem.Value.type "code") Option.none
    (PySem.Data.fields
      #[PySem.Value.str (PySem.Str.ofString "_law_plain") 403, PySem.Value.str (PySem.Str.ofString "_law_plain") 404,
        PySem.Value.str (PySem.Str.ofString "/claim/cut.py") 405, PySem.Value.int 178 0, PySem.Value.int 1 0,
        PySem.Value.int 0 0, PySem.Value.int 0 0, PySem.Value.int 3 0, PySem.Value.ref 186, PySem.Value.bool Bool.true,
        PySem.Value.int 181 0, PySem.Value.ref 187, PySem.Value.none, PySem.Value.none, PySem.Value.none,
        PySem.Value.ref 188, PySem.Value.int 406 0, PySem.Value.int 178 0,
        PySem.Value.str (PySem.Str.ofString "/claim/cut.py") 407])
    #[]
noncomputable def ko190 (P : Params) : Obj :=
  fobj (tp 11) (PySem.Str.ofString "_law_plain") 3 [] PySem.Value.none PySem.Value.none PySem.Value.none (PySem.Value.str (PySem.Str.ofString "law_be0029_01") 378) Option.none (PySem.Value.ref 189) PySem.Value.none 0
noncomputable def ko191 (P : Params) : Obj :=
  PySem.Obj.mk (PySem.Value.type "tuple") Option.none (PySem.Data.seq #[]) #[]
noncomputable def ko193 (P : Params) : Obj :=
  PySem.Obj.mk (PySem.Value.type "tuple") Option.none (PySem.Data.seq #[PySem.Value.str (PySem.Str.ofString "names") 412])
    #[]
noncomputable def ko194 (P : Params) : Obj :=
  PySem.Obj.mk (PySem.Value.type "tuple") Option.none (PySem.Data.seq #[]) #[]
noncomputable def ko196 (P : Params) : Obj :=
  PySem.Obj.mk (PySem.Value.type "code") Option.none
    (PySem.Data.fields
      #[PySem.Value.str (PySem.Str.ofString "_law_told") 409, PySem.Value.str (PySem.Str.ofString "_law_told") 410,
        PySem.Value.str (PySem.Str.ofString "/claim/cut.py") 411, PySem.Value.int 182 0, PySem.Value.int 1 0,
        PySem.Value.int 0 0, PySem.Value.int 0 0, PySem.Value.int 3 0, PySem.Value.ref 191, PySem.Value.bool Bool.true,
        PySem.Value.int 181 0, PySem.Value.ref 192, PySem.Value.none, PySem.Value.ref 193, PySem.Value.ref 194,
        PySem.Value.ref 195, PySem.Value.int 413 0, PySem.Value.int 182 0,
        PySem.Value.str (PySem.Str.ofString "/claim/cut.py") 414])
    #[]
noncomputable def ko197 (P : Params) : Obj :=
  fobj (tp 12) (PySem.Str.ofString "_law_told") 3 [] PySem.Value.none PySem.Value.none PySem.Value.none (PySem.Value.str (PySem.Str.ofString "law_be0029_01") 378) Option.none (PySem.Value.ref 196) PySem.Value.none 0
noncomputable def ko198 (P : Params) : Obj :=
  PySem.Obj.mk (PySem.Value.type "tuple") Option.none (PySem.Data.seq #[]) #[]
noncomputable def ko201 (P : Params) : Obj :=
  PySem.Obj.mk (PySem.Value.type "code") Option.none
    (PySem.Data.fields
      #[PySem.Value.str (PySem.Str.ofString "_law_marked") 416, PySem.Value.str (PySem.Str.ofString "_law_marked") 417,
        PySem.Value.str (PySem.Str.ofString "/claim/cut.py") 418, PySem.Value.int 184 0, PySem.Value.int 4 0,
        PySem.Value.int 0 0, PySem.Value.int 0 0, PySem.Value.int 3 0, PySem.Value.ref 198, PySem.Value.bool Bool.true,
        PySem.Value.int 181 0, PySem.Value.ref 199, PySem.Value.none, PySem.Value.none, PySem.Value.none,
        PySem.Value.ref 200, PySem.Value.int 419 0, PySem.Value.int 184 0,
        PySem.Value.str (PySem.Str.ofString "/claim/cut.py") 420])
    #[]
noncomputable def ko202 (P : Params) : Obj :=
  fobj (tp 13) (PySem.Str.ofString "_law_marked") 3 [] PySem.Value.none PySem.Value.none PySem.Value.none (PySem.Value.str (PySem.Str.ofString "law_be0029_01") 378) Option.none (PySem.Value.ref 201) PySem.Value.none 0
noncomputable def ko203 (P : Params) : Obj :=
  PySem.Obj.mk (PySem.Value.type "tuple") Option.none (PySem.Data.seq #[]) #[]
noncomputable def ko205 (P : Params) : Obj :=
  PySem.Obj.mk (PySem.Value.type "tuple") Option.none
    (PySem.Data.seq
      #[PySem.Value.str (PySem.Str.ofString "script") 425, PySem.Value.str (PySem.Str.ofString "hand") 426,
        PySem.Value.str (PySem.Str.ofString "drawn") 427, PySem.Value.str (PySem.Str.ofString "k") 428,
        PySem.Value.str (PySem.Str.ofString "side") 429, PySem.Value.str (PySem.Str.ofString "up") 430,
        PySem.Value.str (PySem.Str.ofString "sign") 431, PySem.Value.str (PySem.Str.ofString "mark") 432,
        PySem.Value.str (PySem.Str.ofString "factor") 433, PySem.Value.str (PySem.Str.ofString "tree") 434])
    #[]
noncomputable def ko206 (P : Params) : Obj :=
  PySem.Obj.mk (PySem.Value.type "tuple") Option.none (PySem.Data.seq #[]) #[]
noncomputable def ko208 (P : Params) : Obj :=
  PySem.Obj.mk (PySem.Value.type "code") Option.none
    (PySem.Data.fields
      #[PySem.Value.str (PySem.Str.ofString "law") 422, PySem.Value.str (PySem.Str.ofString "law") 423,
        PySem.Value.str (PySem.Str.ofString "/claim/cut.py") 424, PySem.Value.int 218 0, PySem.Value.int 1 0,
        PySem.Value.int 0 0, PySem.Value.int 0 0, PySem.Value.int 3 0, PySem.Value.ref 203, PySem.Value.bool Bool.true,
        PySem.Value.int 181 0, PySem.Value.ref 204, PySem.Value.none, PySem.Value.ref 205, PySem.Value.ref 206,
        PySem.Value.ref 207, PySem.Value.int 435 0, PySem.Value.int 218 0,
        PySem.Value.str (PySem.Str.ofString "/claim/cut.py") 436])
    #[]
noncomputable def ko209 (P : Params) : Obj :=
  fobj (tp 14) (PySem.Str.ofString "law") 3 [] PySem.Value.none PySem.Value.none PySem.Value.none (PySem.Value.str (PySem.Str.ofString "law_be0029_01") 378) Option.none (PySem.Value.ref 208) PySem.Value.none 0
noncomputable def KB (P : Params) : Frag := [(2, ko2 P), (3, ko3 P), (15, ko15 P), (17, ko17 P), (18, ko18 P), (20, ko20 P), (21, ko21 P), (29, ko29 P), (30, ko30 P), (32, ko32 P), (33, ko33 P), (35, ko35 P), (36, ko36 P), (37, ko37 P), (39, ko39 P), (40, ko40 P), (42, ko42 P), (43, ko43 P), (44, ko44 P), (46, ko46 P), (47, ko47 P), (49, ko49 P), (50, ko50 P), (51, ko51 P), (53, ko53 P), (54, ko54 P), (56, ko56 P), (57, ko57 P), (58, ko58 P), (60, ko60 P), (61, ko61 P), (63, ko63 P), (64, ko64 P), (65, ko65 P), (67, ko67 P), (68, ko68 P), (70, ko70 P), (71, ko71 P), (72, ko72 P), (74, ko74 P), (75, ko75 P), (77, ko77 P), (78, ko78 P), (79, ko79 P), (81, ko81 P), (82, ko82 P), (84, ko84 P), (85, ko85 P), (86, ko86 P), (88, ko88 P), (89, ko89 P), (91, ko91 P), (92, ko92 P), (93, ko93 P), (95, ko95 P), (96, ko96 P), (98, ko98 P), (99, ko99 P), (100, ko100 P), (101, ko101 P), (103, ko103 P), (104, ko104 P), (106, ko106 P), (107, ko107 P), (108, ko108 P), (110, ko110 P), (111, ko111 P), (113, ko113 P), (114, ko114 P), (115, ko115 P), (117, ko117 P), (118, ko118 P), (120, ko120 P), (121, ko121 P), (122, ko122 P), (124, ko124 P), (125, ko125 P), (127, ko127 P), (128, ko128 P), (129, ko129 P), (131, ko131 P), (132, ko132 P), (134, ko134 P), (135, ko135 P), (136, ko136 P), (138, ko138 P), (139, ko139 P), (141, ko141 P), (142, ko142 P), (143, ko143 P), (144, ko144 P), (145, ko145 P), (146, ko146 P), (147, ko147 P), (150, ko150 P), (152, ko152 P), (153, ko153 P), (155, ko155 P), (156, ko156 P), (157, ko157 P), (158, ko158 P), (161, ko161 P), (162, ko162 P), (163, ko163 P), (164, ko164 P), (167, ko167 P), (168, ko168 P), (169, ko169 P), (171, ko171 P), (172, ko172 P), (174, ko174 P), (175, ko175 P), (176, ko176 P), (179, ko179 P), (180, ko180 P), (181, ko181 P), (184, ko184 P), (185, ko185 P), (186, ko186 P), (189, ko189 P), (190, ko190 P), (191, ko191 P), (193, ko193 P), (194, ko194 P), (196, ko196 P), (197, ko197 P), (198, ko198 P), (201, ko201 P), (202, ko202 P), (203, ko203 P), (205, ko205 P), (206, ko206 P), (208, ko208 P), (209, ko209 P)]
noncomputable def KK (P : Params) : Frag := (38, ktab) :: (165, ktab) :: KB P
noncomputable def KKa : List Addr := [38, 165, 2, 3, 15, 17, 18, 20, 21, 29, 30, 32, 33, 35, 36, 37, 39, 40, 42, 43, 44, 46, 47, 49, 50, 51, 53, 54, 56, 57, 58, 60, 61, 63, 64, 65, 67, 68, 70, 71, 72, 74, 75, 77, 78, 79, 81, 82, 84, 85, 86, 88, 89, 91, 92, 93, 95, 96, 98, 99, 100, 101, 103, 104, 106, 107, 108, 110, 111, 113, 114, 115, 117, 118, 120, 121, 122, 124, 125, 127, 128, 129, 131, 132, 134, 135, 136, 138, 139, 141, 142, 143, 144, 145, 146, 147, 150, 152, 153, 155, 156, 157, 158, 161, 162, 163, 164, 167, 168, 169, 171, 172, 174, 175, 176, 179, 180, 181, 184, 185, 186, 189, 190, 191, 193, 194, 196, 197, 198, 201, 202, 203, 205, 206, 208, 209]

set_option maxHeartbeats 200000

abbrev pw : Program := PySem.Challenge.pw_be0029_01
noncomputable abbrev KF (w : World) : Frag := KB w.params
abbrev MM (w : World) : Model := model pw w
abbrev Loc := Str → Option Value

/-- what stands at an address, as far as the proof speaks of it -/
inductive AO where
  | tup (vs : List Value)
  | lst (vs : List Value)
  | mls (vs : List Value)
  | cel (v : Option Value)
  | ns (m : Loc)
  | raw (o : Obj)
  | tre (l : Str) (c : Addr)
  | lit (l : Addr) (i : Nat)
  | acc (vs : List Value)
  | dct (o : Obj)
  | pls (vs : List Value)

def AO.tag : AO → Nat
  | .tup _ => 0
  | .lst _ => 1
  | .mls _ => 2
  | .cel _ => 3
  | .ns _ => 4
  | .raw _ => 5
  | .tre _ _ => 6
  | .lit _ _ => 7
  | .acc _ => 8
  | .dct _ => 9
  | .pls _ => 10
/-- what a user of the rules speaks of -/
def AO.kp : AO → Bool
  | .tup _ => true
  | .lst _ => true
  | .mls _ => true
  | .cel _ => true
  | .tre _ _ => true
  | .dct _ => true
  | .pls _ => true
  | _ => false
def AO.fz : AO → Bool
  | .mls _ => false
  | .tre _ _ => false
  | .dct _ => false
  | .pls _ => false
  | _ => true

abbrev Sto := Addr → Option AO
def Sto.put (σ : Sto) (a : Addr) (o : AO) : Sto := fun b => if b = a then some o else σ b

theorem put_self {σ : Sto} {a : Addr} {o : AO} : σ.put a o a = some o := by simp [Sto.put]
theorem put_ne {σ : Sto} {a b : Addr} {o : AO} (h : b ≠ a) : σ.put a o b = σ b := by simp [Sto.put, h]
theorem put_get {σ : Sto} {a b : Addr} {o : AO} {x : Option AO} (h : b ≠ a) (e : σ b = x) : σ.put a o b = x := by rw [put_ne h, e]
theorem ne_of_none {σ : Sto} {a b : Addr} {o : AO} (hn : σ a = none) (e : σ b = some o) : b ≠ a := by
  rintro rfl; rw [hn] at e; cases e
theorem put_old {σ : Sto} {a b : Addr} {o o' : AO} (hn : σ a = none) (e : σ b = some o') : σ.put a o b = some o' := put_get (ne_of_none hn e) e

/-- a tree's own dict -/
def TreeDict (o : Obj) (l : Str) (c : Addr) : Prop :=
  ∃ h1 t1 h2 t2 tk n, o = dictOf [⟨h1, .str (Str.ofString "_children") t1, .ref c⟩, ⟨h2, .str (Str.ofString "_label") t2, .str l tk⟩] n

def RealAt (h : Heap) (d : Addr → Addr) (a : Addr) : AO → Prop
  | .tup vs => h.IsTuple a vs.toArray
  | .lst vs => h.IsList a vs.toArray
  | .mls vs => h.IsList a vs.toArray
  | .cel v => h.IsCell a v
  | .ns m => h.Ns a m
  | .raw o => h.get? a = some o
  | .lit l i => h.IsListIter a l i
  | .acc vs => h.IsList a vs.toArray
  | .dct o => h.get? a = some o
  | .pls vs => ∃ n, h.get? a = some { cls := .type "list", data := .seq vs.toArray n }
  | .tre l c => h.get? a = some (instObj 145 (d a)) ∧ ∃ o, h.get? (d a) = some o ∧ TreeDict o l c

structure Real (lo : Nat) (σ : Sto) (h : Heap) : Prop where
  ex : ∃ d : Addr → Addr, (∀ a o, σ a = some o → lo ≤ a ∧ RealAt h d a o) ∧
    (∀ a l c, σ a = some (.tre l c) → lo ≤ d a ∧ σ (d a) = none) ∧
    (∀ a b l c l' c', σ a = some (.tre l c) → σ b = some (.tre l' c') → d a = d b → a = b)

theorem RealAt.congr {h h' : Heap} {d d' : Addr → Addr} {a : Addr} {o : AO} (x : RealAt h d a o) (hd : d' a = d a) (k : ∀ ob, h.get? a = some ob → h'.get? a = some ob)
    (kd : ∀ l c, o = .tre l c → ∀ ob, h.get? (d a) = some ob → h'.get? (d a) = some ob) : RealAt h' d' a o := by
  cases o with
  | tup vs => obtain ⟨o, e, r⟩ := x; exact ⟨o, k _ e, r⟩
  | lst vs => obtain ⟨o, e, r⟩ := x; exact ⟨o, k _ e, r⟩
  | mls vs => obtain ⟨o, e, r⟩ := x; exact ⟨o, k _ e, r⟩
  | cel v => obtain ⟨o, e, r⟩ := x; exact ⟨o, k _ e, r⟩
  | ns m => obtain ⟨o, es, ep, e, r⟩ := x; exact ⟨o, es, ep, k _ e, r⟩
  | raw o => exact k _ x
  | dct o => exact k _ x
  | pls vs => obtain ⟨n, e⟩ := x; exact ⟨n, k _ e⟩
  | lit l i => obtain ⟨o, e, r⟩ := x; exact ⟨o, k _ e, r⟩
  | acc vs => obtain ⟨o, e, r⟩ := x; exact ⟨o, k _ e, r⟩
  | tre l c =>
    obtain ⟨e1, o, e2, r⟩ := x
    refine ⟨?_, o, ?_, r⟩
    · rw [hd]; exact k _ e1
    · rw [hd]; exact kd l c rfl _ e2

theorem RealAt.there {h : Heap} {d : Addr → Addr} {a : Addr} {o : AO} (x : RealAt h d a o) : ∃ ob, h.get? a = some ob := by
  cases o with
  | tup vs => obtain ⟨o, e, r⟩ := x; exact ⟨o, e⟩
  | lst vs => obtain ⟨o, e, r⟩ := x; exact ⟨o, e⟩
  | mls vs => obtain ⟨o, e, r⟩ := x; exact ⟨o, e⟩
  | cel v => obtain ⟨o, e, r⟩ := x; exact ⟨o, e⟩
  | ns m => obtain ⟨o, es, ep, e, r⟩ := x; exact ⟨o, e⟩
  | raw o => exact ⟨o, x⟩
  | dct o => exact ⟨o, x⟩
  | pls vs => obtain ⟨n, e⟩ := x; exact ⟨_, e⟩
  | lit l i => obtain ⟨o, e, r⟩ := x; exact ⟨o, e⟩
  | acc vs => obtain ⟨o, e, r⟩ := x; exact ⟨o, e⟩
  | tre l c => exact ⟨_, x.1⟩

theorem Real.lt {lo : Nat} {σ : Sto} {h : Heap} (R : Real lo σ h) {a : Addr} {o : AO} (e : σ a = some o) : a < h.objs.size := by
  obtain ⟨d, r, _⟩ := R.ex
  obtain ⟨ob, q⟩ := (r a o e).2.there
  exact Heap.lt_size q
theorem Real.fresh {lo : Nat} {σ : Sto} {h : Heap} (R : Real lo σ h) {a : Addr} (ha : h.objs.size ≤ a) : σ a = none := by
  cases q : σ a with
  | none => rfl
  | some o => exact absurd (R.lt q) (Nat.not_lt.mpr ha)

/-- everything is kept -/
theorem Real.keeps {lo : Nat} {σ : Sto} {h h' : Heap} (R : Real lo σ h) (k : ∀ b o, h.get? b = some o → h'.get? b = some o) : Real lo σ h' := by
  obtain ⟨d, r, s, t⟩ := R.ex
  exact ⟨d, fun a o e => ⟨(r a o e).1, (r a o e).2.congr rfl (k a) fun _ _ _ => k _⟩, s, t⟩

/-- one address of the store's own is turned (no tree) -/
theorem Real.turn {lo : Nat} {σ : Sto} {h h' : Heap} (R : Real lo σ h) {a : Addr} {o o' : AO} (e : σ a = some o) (hn : ∀ l c, o' ≠ .tre l c)
    (k : ∀ b ob, b ≠ a → h.get? b = some ob → h'.get? b = some ob) (n : RealAt h' id a o') : Real lo (σ.put a o') h' := by
  obtain ⟨d, r, s, t⟩ := R.ex
  have nt : ∀ b l c, σ.put a o' b = some (.tre l c) → b ≠ a ∧ σ b = some (.tre l c) := fun b l c q => by
    by_cases hb : b = a
    · subst hb; rw [put_self] at q; exact absurd (Option.some.inj q) (hn l c)
    · rw [put_ne hb] at q; exact ⟨hb, q⟩
  refine ⟨d, fun b ob q => ?_, fun b l c q => ?_, fun b b' l c l' c' q q' hd => ?_⟩
  · by_cases hb : b = a
    · subst hb
      rw [put_self] at q; cases q
      refine ⟨(r _ _ e).1, ?_⟩
      cases o' with
      | tre l c => exact absurd rfl (hn l c)
      | _ => exact n
    · rw [put_ne hb] at q
      refine ⟨(r _ _ q).1, (r _ _ q).2.congr rfl (fun ob => k b ob hb) fun l c hl ob => k _ ob fun z => ?_⟩
      subst hl
      have := (s b l c q).2
      rw [z, e] at this; cases this
  · obtain ⟨hb, q⟩ := nt b l c q
    refine ⟨(s b l c q).1, ?_⟩
    rw [put_ne (fun z => by have := (s b l c q).2; rw [z, e] at this; cases this)]
    exact (s b l c q).2
  · exact t b b' l c l' c' (nt b l c q).2 (nt b' l' c' q').2 hd

/-- a new object, no tree -/
theorem Real.add {lo : Nat} {σ : Sto} {h h' : Heap} (R : Real lo σ h) {a : Addr} {o' : AO} (hlo : lo ≤ a) (ha : h.objs.size ≤ a) (hn : ∀ l c, o' ≠ .tre l c)
    (k : ∀ b ob, h.get? b = some ob → h'.get? b = some ob) (n : RealAt h' id a o') : Real lo (σ.put a o') h' := by
  obtain ⟨d, r, s, t⟩ := R.ex
  have fr := R.fresh ha
  have nt : ∀ b l c, σ.put a o' b = some (.tre l c) → b ≠ a ∧ σ b = some (.tre l c) := fun b l c q => by
    by_cases hb : b = a
    · subst hb; rw [put_self] at q; exact absurd (Option.some.inj q) (hn l c)
    · rw [put_ne hb] at q; exact ⟨hb, q⟩
  refine ⟨d, fun b ob q => ?_, fun b l c q => ?_, fun b b' l c l' c' q q' hd => ?_⟩
  · by_cases hb : b = a
    · subst hb
      rw [put_self] at q; cases q
      refine ⟨hlo, ?_⟩
      cases o' with
      | tre l c => exact absurd rfl (hn l c)
      | _ => exact n
    · rw [put_ne hb] at q
      exact ⟨(r _ _ q).1, (r _ _ q).2.congr rfl (k b) fun l c hl ob => k _ ob⟩
  · obtain ⟨hb, q⟩ := nt b l c q
    refine ⟨(s b l c q).1, ?_⟩
    obtain ⟨e1, ob, e2, _⟩ := (r _ _ q).2
    rw [put_ne (fun z => by rw [z] at e2; exact absurd (Heap.lt_size e2) (Nat.not_lt.mpr ha))]
    exact (s b l c q).2
  · exact t b b' l c l' c' (nt b l c q).2 (nt b' l' c' q').2 hd

/-- a new tree: its object and its dict -/
theorem Real.addTree {lo : Nat} {σ : Sto} {h h' : Heap} (R : Real lo σ h) {a dx : Addr} {l : Str} {c : Addr} {o : Obj} (hlo : lo ≤ a) (hlo' : lo ≤ dx) (ha : h.objs.size ≤ a) (hdx : h.objs.size ≤ dx) (hne : dx ≠ a)
    (k : ∀ b ob, h.get? b = some ob → h'.get? b = some ob) (n1 : h'.get? a = some (instObj 145 dx)) (n2 : h'.get? dx = some o) (n3 : TreeDict o l c) : Real lo (σ.put a (.tre l c)) h' := by
  obtain ⟨d, r, s, t⟩ := R.ex
  have fr := R.fresh ha
  have frd := R.fresh hdx
  have dlt : ∀ b l c, σ b = some (.tre l c) → d b < h.objs.size := fun b l c q => by
    obtain ⟨e1, ob, e2, _⟩ := (r _ _ q).2
    exact Heap.lt_size e2
  refine ⟨fun b => if b = a then dx else d b, fun b ob q => ?_, fun b l' c' q => ?_, fun b b' l' c' l'' c'' q q' hd => ?_⟩
  · by_cases hb : b = a
    · subst hb
      rw [put_self] at q; cases q
      exact ⟨hlo, by simpa [RealAt] using ⟨n1, o, n2, n3⟩⟩
    · rw [put_ne hb] at q
      exact ⟨(r _ _ q).1, (r _ _ q).2.congr (by simp [hb]) (k b) fun l c hl ob => k _ ob⟩
  · by_cases hb : b = a
    · subst hb
      simp only [if_true]
      exact ⟨hlo', by rw [put_ne hne]; exact frd⟩
    · rw [put_ne hb] at q
      simp only [if_neg hb]
      refine ⟨(s b _ _ q).1, ?_⟩
      rw [put_ne (fun z => by have := dlt b _ _ q; rw [z] at this; exact absurd this (Nat.not_lt.mpr ha))]
      exact (s b _ _ q).2
  · by_cases hb : b = a
    · by_cases hb' : b' = a
      · rw [hb, hb']
      · rw [put_ne hb'] at q'
        simp only [if_pos hb, if_neg hb'] at hd
        have := dlt b' _ _ q'
        rw [← hd] at this
        exact absurd this (Nat.not_lt.mpr hdx)
    · rw [put_ne hb] at q
      by_cases hb' : b' = a
      · simp only [if_neg hb, if_pos hb'] at hd
        have := dlt b _ _ q
        rw [hd] at this
        exact absurd this (Nat.not_lt.mpr hdx)
      · rw [put_ne hb'] at q'
        simp only [if_neg hb, if_neg hb'] at hd
        exact t b b' _ _ _ _ q q' hd

/-- a tree's dict is turned -/
theorem Real.setTree {lo : Nat} {σ : Sto} {h : Heap} (R : Real lo σ h) {a : Addr} {l : Str} {c : Addr} (e : σ a = some (.tre l c)) :
    ∃ dx o, h.get? a = some (instObj 145 dx) ∧ h.get? dx = some o ∧ TreeDict o l c ∧ lo ≤ dx ∧ σ dx = none ∧
      ∀ h' o' l' c', (∀ b ob, b ≠ dx → h.get? b = some ob → h'.get? b = some ob) → h'.get? dx = some o' → TreeDict o' l' c' → Real lo (σ.put a (.tre l' c')) h' := by
  obtain ⟨d, r, s, t⟩ := R.ex
  obtain ⟨e1, o, e2, e3⟩ := (r _ _ e).2
  have sd := s _ _ _ e
  refine ⟨d a, o, e1, e2, e3, sd.1, sd.2, fun h' o' l' c' k n1 n2 => ⟨d, fun b ob q => ?_, fun b l₁ c₁ q => ?_, fun b b' l₁ c₁ l₂ c₂ q q' hd => ?_⟩⟩
  · by_cases hb : b = a
    · subst hb
      rw [put_self] at q; cases q
      exact ⟨(r _ _ e).1, k _ _ (fun z => by have := sd.2; rw [← z, e] at this; cases this) e1, o', n1, n2⟩
    · rw [put_ne hb] at q
      refine ⟨(r _ _ q).1, (r _ _ q).2.congr rfl (fun ob => k b ob fun z => ?_) fun l₁ c₁ hl ob => k _ ob fun z => hb ?_⟩
      · have := sd.2; rw [← z, q] at this; cases this
      · subst hl; exact t _ _ _ _ _ _ q e z
  · by_cases hb : b = a
    · subst hb
      refine ⟨sd.1, ?_⟩
      rw [put_ne (fun z => by have := sd.2; rw [z, e] at this; cases this)]
      exact sd.2
    · rw [put_ne hb] at q
      refine ⟨(s _ _ _ q).1, ?_⟩
      rw [put_ne (fun z => by have := (s _ _ _ q).2; rw [z, e] at this; cases this)]
      exact (s _ _ _ q).2
  · have un : ∀ b l c, σ.put a (.tre l' c') b = some (.tre l c) → ∃ l c, σ b = some (.tre l c) := fun b l₁ c₁ q => by
      by_cases hb : b = a
      · subst hb; exact ⟨_, _, e⟩
      · rw [put_ne hb] at q; exact ⟨_, _, q⟩
    obtain ⟨_, _, q⟩ := un _ _ _ q
    obtain ⟨_, _, q'⟩ := un _ _ _ q'
    exact t _ _ _ _ _ _ q q' hd

/-- an entry is forgotten -/
theorem Real.forget {lo : Nat} {σ σ' : Sto} {h : Heap} (R : Real lo σ h) (k : ∀ a o, σ' a = some o → σ a = some o) : Real lo σ' h := by
  obtain ⟨d, r, s, t⟩ := R.ex
  refine ⟨d, fun a o e => r a o (k a o e), fun a l c e => ⟨(s a l c (k _ _ e)).1, ?_⟩, fun a b l c l' c' e e' => t a b l c l' c' (k _ _ e) (k _ _ e')⟩
  cases q : σ' (d a) with
  | none => rfl
  | some o => have := (s a l c (k _ _ e)).2; rw [k _ _ q] at this; cases this
/-- an entry is turned or forgotten: all else is kept -/
theorem Real.drop {lo : Nat} {σ : Sto} {h h' : Heap} (R : Real lo σ h) {a : Addr} {o : AO} (e : σ a = some o) (k : ∀ b ob, b ≠ a → h.get? b = some ob → h'.get? b = some ob) :
    Real lo (fun b => if b = a then none else σ b) h' := by
  obtain ⟨d, r, s, t⟩ := R.ex
  have un : ∀ b ob, (if b = a then none else σ b) = some ob → b ≠ a ∧ σ b = some ob := fun b ob q => by
    by_cases hb : b = a
    · rw [if_pos hb] at q; cases q
    · rw [if_neg hb] at q; exact ⟨hb, q⟩
  refine ⟨d, fun b ob q => ?_, fun b l c q => ?_, fun b b' l c l' c' q q' hd => t b b' _ _ _ _ (un _ _ q).2 (un _ _ q').2 hd⟩
  · obtain ⟨hb, q⟩ := un _ _ q
    refine ⟨(r _ _ q).1, (r _ _ q).2.congr rfl (fun ob => k b ob hb) fun l c hl ob => k _ ob fun z => ?_⟩
    subst hl
    have := (s b l c q).2
    rw [z, e] at this; cases this
  · obtain ⟨hb, q⟩ := un _ _ q
    refine ⟨(s b l c q).1, ?_⟩
    split
    · rfl
    · exact (s b l c q).2
/-- a list's name is turned, nothing else -/
theorem Real.relabel {lo : Nat} {σ : Sto} {h : Heap} (R : Real lo σ h) {a : Addr} {o o' : AO} (e : σ a = some o) (hn : ∀ l c, o' ≠ .tre l c) (n : RealAt h id a o') : Real lo (σ.put a o') h :=
  R.turn e hn (fun _ _ _ e => e) n


structure Cx where
  w : World
  h0 : Heap
  os0 : OsState
  gs0 : Array GenState

abbrev tabO (ps : Array Value) : Obj := { cls := .none, data := .fields ps }
def Tabs (h : Heap) : Prop := (∃ ps, h.get? 38 = some (tabO ps) ∧ TriplesOk ps.toList) ∧ (∃ ps, h.get? 165 = some (tabO ps) ∧ TriplesOk ps.toList)
theorem Tabs.keeps {h h' : Heap} (x : Tabs h) (k : ∀ b o, h.get? b = some o → h'.get? b = some o) : Tabs h' :=
  let ⟨⟨p, a, b⟩, ⟨q, c, d⟩⟩ := x; ⟨⟨p, k _ _ a, b⟩, ⟨q, k _ _ c, d⟩⟩
theorem Tabs.keepsBut {h h' : Heap} {a : Addr} (x : Tabs h) (ha : 210 ≤ a) (k : ∀ b o, b ≠ a → h.get? b = some o → h'.get? b = some o) : Tabs h' :=
  let ⟨⟨p, a', b⟩, ⟨q, c, d⟩⟩ := x; ⟨⟨p, k _ _ (fun z => by subst z; exact absurd ha (by decide)) a', b⟩, ⟨q, k _ _ (fun z => by subst z; exact absurd ha (by decide)) c, d⟩⟩

structure Gd (Γ : Cx) : Prop where
  X : (KB Γ.w.params).In Γ.h0
  T : ∃ p loose mg mb, TopRead p loose mg mb Γ.h0
  n38 : Γ.h0.get? 38 = none
  n165 : Γ.h0.get? 165 = none
  big : 210 ≤ Γ.h0.objs.size
  B : ∃ mg bm ob, BMod Γ.h0 mainGlobals mg bm ob

structure St (Γ : Cx) (L : Addr) (m : Loc) (σ : Sto) (s : Shared) : Prop where
  G : Gd Γ
  keep : ∀ b o, Γ.h0.get? b = some o → s.heap.get? b = some o
  ab : Γ.h0.objs.size ≤ L
  off : σ L = none
  real : Real Γ.h0.objs.size (σ.put L (.ns m)) s.heap
  tabs : Tabs s.heap
  bare : AllBare s.gens
  os : s.os = Γ.os0
  gen : ∀ (i : Nat) (gs : GenState), Γ.gs0[i]? = some gs → s.gens[i]? = some gs

/-- a step: what stood stands, but for the named trees and lists -/
def Stp (X : Addr → Prop) (σ σ' : Sto) : Prop := ∀ a o, σ a = some o → (o.fz = true ∨ ¬ X a) → σ' a = some o
abbrev No : Addr → Prop := fun _ => False

theorem Stp.refl {X : Addr → Prop} {σ : Sto} : Stp X σ σ := fun _ _ e _ => e
theorem Stp.trans {X : Addr → Prop} {σ σ' σ'' : Sto} (x : Stp X σ σ') (y : Stp X σ' σ'') : Stp X σ σ'' := fun a o e c => y a o (x a o e c) c
theorem Stp.weak {X Y : Addr → Prop} {σ σ' : Sto} (x : Stp X σ σ') (h : ∀ a, X a → Y a) : Stp Y σ σ' := fun a o e c => x a o e (c.imp id fun z y => z (h a y))
theorem Stp.no {X : Addr → Prop} {σ σ' : Sto} (x : Stp No σ σ') : Stp X σ σ' := x.weak fun _ h => h.elim
theorem Stp.get {X : Addr → Prop} {σ σ' : Sto} {a : Addr} {o : AO} (x : Stp X σ σ') (e : σ a = some o) (c : o.fz = true ∨ ¬ X a) : σ' a = some o := x a o e c
theorem Stp.transW {X Y Z : Addr → Prop} {σ σ' σ'' : Sto} (x : Stp X σ σ') (y : Stp Y σ' σ'') (h1 : ∀ a, X a → Z a) (h2 : ∀ a o, σ a = some o → Y a → Z a ∨ o.fz = true) : Stp Z σ σ'' := by
  intro a o e c
  have e1 := x a o e (c.imp id fun z y => z (h1 a y))
  refine y a o e1 ?_
  rcases c with c | c
  · exact .inl c
  · by_cases hy : Y a
    · rcases h2 a o e hy with z | z
      · exact absurd z c
      · exact .inl z
    · exact .inr hy

def Sto.del (σ : Sto) (L : Addr) : Sto := fun b => if b = L then none else σ b
theorem del_self {σ : Sto} {L : Addr} : σ.del L L = none := by simp [Sto.del]
theorem del_ne {σ : Sto} {L b : Addr} (h : b ≠ L) : σ.del L b = σ b := by simp [Sto.del, h]
theorem del_put {σ : Sto} {L : Addr} {o : AO} (e : σ L = some o) : (σ.del L).put L o = σ := by
  funext b
  by_cases hb : b = L
  · subst hb; rw [put_self, e]
  · rw [put_ne hb, del_ne hb]

/-- room: frames and C units -/
structure Ok (A : Around) (n : Nat) : Prop where
  h : A.handled = none
  d : A.depth + n < recursionLimit
  u : A.units + 20 * n < cLine
theorem Ok.mono {A : Around} {n k : Nat} (x : Ok A n) (h : k ≤ n) : Ok A k := ⟨x.h, Nat.lt_of_le_of_lt (Nat.add_le_add_left h _) x.d, Nat.lt_of_le_of_lt (Nat.add_le_add_left (Nat.mul_le_mul_left _ h) _) x.u⟩
theorem Ok.deeper {A : Around} {n : Nat} {env : Env} (x : Ok A (n + 1)) : Ok (A.deeper env) n :=
  ⟨x.h, by have := x.d; show A.depth + 1 + n < _; omega, by have := x.u; show A.units + 3 + 20 * n < _; omega⟩
theorem Ok.in1 {A : Around} {n : Nat} (x : Ok A (n + 1)) : Ok A.in1 n :=
  ⟨x.h, by have := x.d; show A.depth + n < _; omega, by have := x.u; show A.units + 1 + 20 * n < _; omega⟩
theorem Ok.room {A : Around} {n : Nat} (x : Ok A n) : A.depth < recursionLimit := Nat.lt_of_le_of_lt (Nat.le_add_right _ _) x.d
theorem Ok.units {A : Around} {n : Nat} (x : Ok A n) : A.units < cLine := Nat.lt_of_le_of_lt (Nat.le_add_right _ _) x.u

section
variable {Γ : Cx} {L : Addr} {m : Loc} {σ : Sto} {s : Shared}

theorem St.K (S : St Γ L m σ s) : (KB Γ.w.params).In s.heap := S.G.X.keeps S.keep
theorem St.nolimit (S : St Γ L m σ s) : s.heap.NoLimit := let ⟨_, _, _, _, T⟩ := S.G.T; T.nolimit.keeps S.keep
theorem St.ns (S : St Γ L m σ s) : s.heap.Ns L m := by
  obtain ⟨d, r, _⟩ := S.real.ex
  exact (r L _ put_self).2
theorem St.at (S : St Γ L m σ s) {a : Addr} {o : AO} (e : σ a = some o) : ∃ d, RealAt s.heap d a o := by
  obtain ⟨d, r, _⟩ := S.real.ex
  exact ⟨d, (r a o (put_old S.off e)).2⟩
theorem St.ne (S : St Γ L m σ s) {a : Addr} {o : AO} (e : σ a = some o) : a ≠ L := ne_of_none S.off e
theorem St.fr (S : St Γ L m σ s) : Fr Γ.h0 L s.heap m := ⟨S.ns, S.keep, S.ab⟩
theorem St.lt (S : St Γ L m σ s) {a : Addr} {o : AO} (e : σ a = some o) : a < s.heap.objs.size := S.real.lt (put_old S.off e)
theorem St.Llt (S : St Γ L m σ s) : L < s.heap.objs.size := S.ns.lt
theorem St.tup (S : St Γ L m σ s) {a : Addr} {vs : List Value} (e : σ a = some (.tup vs)) : s.heap.IsTuple a vs.toArray := let ⟨_, r⟩ := S.at e; r
theorem St.lst (S : St Γ L m σ s) {a : Addr} {vs : List Value} (e : σ a = some (.lst vs)) : s.heap.IsList a vs.toArray := let ⟨_, r⟩ := S.at e; r
theorem St.mls (S : St Γ L m σ s) {a : Addr} {vs : List Value} (e : σ a = some (.mls vs)) : s.heap.IsList a vs.toArray := let ⟨_, r⟩ := S.at e; r
theorem St.cel (S : St Γ L m σ s) {a : Addr} {v : Option Value} (e : σ a = some (.cel v)) : s.heap.IsCell a v := let ⟨_, r⟩ := S.at e; r
theorem St.raw (S : St Γ L m σ s) {a : Addr} {o : Obj} (e : σ a = some (.raw o)) : s.heap.get? a = some o := let ⟨_, r⟩ := S.at e; r
theorem St.lo (S : St Γ L m σ s) {a : Addr} {o : AO} (e : σ a = some o) : Γ.h0.objs.size ≤ a := by
  obtain ⟨d, r, _⟩ := S.real.ex
  exact (r a o (put_old S.off e)).1

/-- tokens turn -/
theorem St.tok (S : St Γ L m σ s) (t : Nat) : St Γ L m σ { s with toks := t } := ⟨S.G, S.keep, S.ab, S.off, S.real, S.tabs, S.bare, S.os, S.gen⟩
/-- the heap grows -/
theorem St.grow (S : St Γ L m σ s) {h' : Heap} {t : Nat} (k : ∀ b o, s.heap.get? b = some o → h'.get? b = some o) : St Γ L m σ { s with heap := h', toks := t } :=
  ⟨S.G, fun b o e => k _ _ (S.keep b o e), S.ab, S.off, S.real.keeps k, S.tabs.keeps k, S.bare, S.os, S.gen⟩
/-- a local is stored -/
theorem St.setL (S : St Γ L m σ s) {m' : Loc} {h' : Heap} {t : Nat} (hn : h'.Ns L m') (hs : Heap.SameBut L s.heap h') : St Γ L m' σ { s with heap := h', toks := t } := by
  have ne : ∀ b o, b ≠ L → s.heap.get? b = some o → h'.get? b = some o := fun b o hb e => (hs.2 b hb).trans e
  refine ⟨S.G, fun b o e => ne b o (Nat.ne_of_lt (Nat.lt_of_lt_of_le (Heap.lt_size e) S.ab)) (S.keep b o e), S.ab, S.off, ?_, S.tabs.keepsBut (Nat.le_trans S.G.big S.ab) ne, S.bare, S.os, S.gen⟩
  have := S.real.turn (o' := .ns m') put_self (by nofun) ne hn
  have e : (σ.put L (.ns m)).put L (.ns m') = σ.put L (.ns m') := by funext b; simp only [Sto.put]; split <;> rfl
  rwa [e] at this
theorem put_comm {a b : Addr} {o o' : AO} (h : a ≠ b) : (σ.put a o).put b o' = (σ.put b o').put a o := by
  funext c; simp only [Sto.put]; split <;> split <;> simp_all
/-- an address of the store is turned -/
theorem St.turn (S : St Γ L m σ s) {a : Addr} {o o' : AO} (e : σ a = some o) (hn : ∀ l c, o' ≠ .tre l c) {h' : Heap} {t : Nat}
    (k : ∀ b ob, b ≠ a → s.heap.get? b = some ob → h'.get? b = some ob) (n : RealAt h' id a o') : St Γ L m (σ.put a o') { s with heap := h', toks := t } := by
  have hl := S.ne e
  refine ⟨S.G, fun b o q => k b o (Nat.ne_of_lt (Nat.lt_of_lt_of_le (Heap.lt_size q) (S.lo e))) (S.keep b o q), S.ab, by rw [put_ne (Ne.symm hl)]; exact S.off, ?_,
    S.tabs.keepsBut (Nat.le_trans S.G.big (S.lo e)) k, S.bare, S.os, S.gen⟩
  rw [put_comm hl]
  exact S.real.turn (put_old S.off e) hn k n
/-- a new object -/
theorem St.add (S : St Γ L m σ s) {a : Addr} {o' : AO} (ha : s.heap.objs.size ≤ a) (hn : ∀ l c, o' ≠ .tre l c) {h' : Heap} {t : Nat}
    (k : ∀ b ob, s.heap.get? b = some ob → h'.get? b = some ob) (n : RealAt h' id a o') : St Γ L m (σ.put a o') { s with heap := h', toks := t } ∧ Stp No σ (σ.put a o') ∧ σ a = none := by
  have hL : L < s.heap.objs.size := S.Llt
  have hl : a ≠ L := fun z => absurd (z ▸ hL) (Nat.not_lt.mpr ha)
  have hlo : Γ.h0.objs.size ≤ a := Nat.le_trans S.ab (Nat.le_of_lt (Nat.lt_of_lt_of_le hL ha))
  have fr : σ a = none := by have := S.real.fresh ha; rwa [put_ne hl] at this
  refine ⟨⟨S.G, fun b o q => k b o (S.keep b o q), S.ab, by rw [put_ne (Ne.symm hl)]; exact S.off, ?_, S.tabs.keeps k, S.bare, S.os, S.gen⟩, fun b o e _ => put_old fr e, fr⟩
  rw [put_comm hl]
  exact S.real.add hlo ha hn k n
/-- an entry is forgotten, its object turned -/
theorem St.drop (S : St Γ L m σ s) {a : Addr} {o : AO} (e : σ a = some o) {h' : Heap} {t : Nat} (k : ∀ b ob, b ≠ a → s.heap.get? b = some ob → h'.get? b = some ob) : St Γ L m (σ.del a) { s with heap := h', toks := t } := by
  have hl := S.ne e
  refine ⟨S.G, fun b o q => k b o (Nat.ne_of_lt (Nat.lt_of_lt_of_le (Heap.lt_size q) (S.lo e))) (S.keep b o q), S.ab, by rw [del_ne (Ne.symm hl)]; exact S.off, ?_,
    S.tabs.keepsBut (Nat.le_trans S.G.big (S.lo e)) k, S.bare, S.os, S.gen⟩
  have := S.real.drop (put_old S.off e) k
  have q : (fun b => if b = a then none else (σ.put L (.ns m)) b) = (σ.del a).put L (.ns m) := by
    funext b; simp only [Sto.put, Sto.del]; split <;> split <;> simp_all
  rwa [q] at this
theorem St.lit (S : St Γ L m σ s) {a l : Addr} {i : Nat} (e : σ a = some (.lit l i)) : s.heap.IsListIter a l i := let ⟨_, r⟩ := S.at e; r
theorem St.acc (S : St Γ L m σ s) {a : Addr} {vs : List Value} (e : σ a = some (.acc vs)) : s.heap.IsList a vs.toArray := let ⟨_, r⟩ := S.at e; r
theorem St.relabel (S : St Γ L m σ s) {a : Addr} {o o' : AO} (e : σ a = some o) (hn : ∀ l c, o' ≠ .tre l c) (n : RealAt s.heap id a o') : St Γ L m (σ.put a o') s :=
  S.turn (h' := s.heap) (t := s.toks) e hn (fun _ _ _ e => e) n
/-- an address of the store, as a step -/
theorem Stp.turn {a : Addr} {o o' : AO} (e : σ a = some o) (hf : o.fz = false) : Stp (· = a) σ (σ.put a o') := fun b ob q c => by
  by_cases hb : b = a
  · subst hb
    rw [e] at q; cases q
    rcases c with c | c
    · rw [hf] at c; cases c
    · exact absurd rfl c
  · rw [put_ne hb]; exact q
end


/-- the derived logic: over the locals and the store alone; nothing raises -/
structure W (Γ : Cx) (A : Around) (L : Addr) {α : Type} (t : Sem α) (Q : α → Loc → Sto → Prop) (m : Loc) (σ : Sto) : Prop where
  run : ∀ s, St Γ L m σ s → wpAny (MM Γ.w) A t (fun v s' => ∃ m' σ', St Γ L m' σ' s' ∧ Q v m' σ') (fun _ _ => False) s
/-- the same of a piece of code -/
structure WC (Γ : Cx) (A : Around) (L : Addr) (c : Code) (Q : Flow → Loc → Sto → Prop) (m : Loc) (σ : Sto) : Prop where
  run : ∀ s, St Γ L m σ s → codeAny (MM Γ.w) A c (fun r s' => match r with | .ok f => ∃ m' σ', St Γ L m' σ' s' ∧ Q f m' σ' | .error _ => False) s

section
variable {Γ : Cx} {A : Around} {L : Addr} {α β : Type} {m : Loc} {σ : Sto} {env : Env}

theorem W.mono {t : Sem α} {Q Q' : α → Loc → Sto → Prop} (h : W Γ A L t Q m σ) (k : ∀ v m' σ', Q v m' σ' → Q' v m' σ') : W Γ A L t Q' m σ := ⟨fun s S => wpAny_mono (h.run s S) (fun v s' ⟨m', σ', S', q⟩ => ⟨m', σ', S', k v m' σ' q⟩) fun _ _ e => e⟩
theorem W.pure {v : α} {Q : α → Loc → Sto → Prop} (h : Q v m σ) : W Γ A L (Pure.pure v : Sem α) Q m σ := ⟨fun _ S => wpAny_pure ⟨m, σ, S, h⟩⟩
theorem W.bind {t : Sem α} {f : α → Sem β} {Q : β → Loc → Sto → Prop} (h : W Γ A L t (fun v m' σ' => W Γ A L (f v) Q m' σ') m σ) : W Γ A L (t >>= f) Q m σ := ⟨fun s S => wpAny_bind (wpAny_mono (h.run s S) (fun _ s' ⟨_, _, S', q⟩ => q.run s' S') fun _ _ e => e)⟩
/-- a rule of the library, of one premise -/
theorem W.via {t : Sem α} {u : Sem β} {R : α → Loc → Sto → Prop} {Q : β → Loc → Sto → Prop} (h : W Γ A L t R m σ)
    (k : ∀ s, wpAny (MM Γ.w) A t (fun v s' => ∃ m' σ', St Γ L m' σ' s' ∧ R v m' σ') (fun _ _ => False) s →
      wpAny (MM Γ.w) A u (fun v s' => ∃ m' σ', St Γ L m' σ' s' ∧ Q v m' σ') (fun _ _ => False) s) : W Γ A L u Q m σ := ⟨fun s S => k s (h.run s S)⟩
theorem mono1 {M : Model} {t : Sem α} {P P' : α → Shared → Prop} {s : Shared} (h : wpAny M A t P (fun _ _ => False) s) (k : ∀ v s', P v s' → P' v s') : wpAny M A t P' (fun _ _ => False) s :=
  wpAny_mono h k fun _ _ e => e

theorem wk {t : Sem α} {Q : α → Loc → Sto → Prop} {P : α → Shared → Prop} {s : Shared} (h : W Γ A L t Q m σ) (S : St Γ L m σ s) (k : ∀ v s' m' σ', St Γ L m' σ' s' → Q v m' σ' → P v s') : wpAny (MM Γ.w) A t P (fun _ _ => False) s := mono1 (h.run s S) fun v s' ⟨m', σ', S', q⟩ => k v s' m' σ' S' q
-- statements
theorem x_nil {Q : Flow → Loc → Sto → Prop} (h : Q .next m σ) : W Γ A L (execs [] env) Q m σ := ⟨fun s S => wpAny_execs_nil ⟨m, σ, S, h⟩⟩
/-- what comes behind a statement -/
abbrev Seq (Γ : Cx) (A : Around) (L : Addr) (rest : List Stmt) (env : Env) (Q : Flow → Loc → Sto → Prop) (f : Flow) (m' : Loc) (σ' : Sto) : Prop := match f with | .next => W Γ A L (execs rest env) Q m' σ' | f => Q f m' σ'
theorem x_cons {st : Stmt} {rest : List Stmt} {Q : Flow → Loc → Sto → Prop}
    (h : W Γ A L (exec st env) (Seq Γ A L rest env Q) m σ) : W Γ A L (execs (st :: rest) env) Q m σ := ⟨fun s S => wpAny_execs_cons (wk h S fun f s' m' σ' S' q => by
    cases f with
    | next => exact q.run s' S'
    | brk => exact ⟨_, _, S', q⟩
    | cont => exact ⟨_, _, S', q⟩
    | ret v => exact ⟨_, _, S', q⟩)⟩
theorem x_ret {e : Expr} {pos : Pos} {Q : Flow → Loc → Sto → Prop} (h : W Γ A L (eval e env) (fun v => Q (.ret v)) m σ) : W Γ A L (exec (.Return (some e) pos) env) Q m σ := ⟨fun s S => wpAny_Return_some (h.run s S)⟩
theorem x_if {test : Expr} {body orelse : List Stmt} {pos : Pos} {Q : Flow → Loc → Sto → Prop}
    (h : W Γ A L (isTrue test env (eval test env)) (fun b m' σ' => if b = true then W Γ A L (execs body env) Q m' σ' else W Γ A L (execs orelse env) Q m' σ') m σ) : W Γ A L (exec (.If test body orelse pos) env) Q m σ := ⟨fun s S => wpAny_If (wk h S fun b s' _ _ S' q => by
    cases b with
    | true => simp only [if_true] at q ⊢; exact q.run s' S'
    | false => simp only [Bool.false_eq_true, if_false] at q ⊢; exact q.run s' S')⟩
theorem x_expr {e : Expr} {pos : Pos} {Q : Flow → Loc → Sto → Prop} (h : W Γ A L (eval e env) (fun _ => Q .next) m σ) (hi : interactive env = false := by rfl)
    (hs : swapsWith e none pos.line env = Pure.pure false := by with_unfolding_all rfl) : W Γ A L (exec (.Expr e pos) env) Q m σ := ⟨fun s S => wpAny_Expr_any (h.run s S) hi hs⟩
theorem x_asg {x : Str} {pos' : Pos} {value : Expr} {pos : Pos} {Q : Flow → Loc → Sto → Prop}
    (h : W Γ A L (eval value env) (fun v m' σ' => W Γ A L (storeName env x v) (fun _ => Q .next) m' σ') m σ)
    (hs : swapsWith value (some (.Name x pos')) pos.line env = Pure.pure false := by with_unfolding_all rfl) : W Γ A L (exec (.Assign [.Name x pos'] value pos) env) Q m σ := ⟨fun s S => wpAny_Assign_Name (wk h S fun _ s' _ _ S' q => q.run s' S') hs⟩
theorem x_asgA {o : Expr} {attr : Str} {pos' : Pos} {value : Expr} {pos : Pos} {Q : Flow → Loc → Sto → Prop}
    (h : W Γ A L (eval value env) (fun v m' σ' => W Γ A L (eval o env) (fun ov m'' σ'' => W Γ A L (setAttr ov attr v) (fun _ => Q .next) m'' σ'') m' σ') m σ)
    (hs : swapsWith value (some (.Attribute o attr pos')) pos.line env = Pure.pure false := by with_unfolding_all rfl) : W Γ A L (exec (.Assign [.Attribute o attr pos'] value pos) env) Q m σ := ⟨fun s S => plainObj_wpAny_Assign_Attribute (wk h S fun _ s' _ _ S' q => wk q S' fun _ s'' _ _ S'' q => q.run s'' S'') hs⟩
theorem x_asgS {o i : Expr} {pos' : Pos} {value : Expr} {pos : Pos} {Q : Flow → Loc → Sto → Prop}
    (h : W Γ A L (eval value env) (fun v m' σ' => W Γ A L (eval o env) (fun ov m'' σ'' => W Γ A L (eval i env) (fun iv m₃ σ₃ => W Γ A L (setItem ov iv v) (fun _ => Q .next) m₃ σ₃) m'' σ'') m' σ') m σ)
    (hs : swapsWith value (some (.Subscript o i pos')) pos.line env = Pure.pure false := by with_unfolding_all rfl) : W Γ A L (exec (.Assign [.Subscript o i pos'] value pos) env) Q m σ := ⟨fun s S => wpAny_Assign_Subscript (wk h S fun _ s' _ _ S' q => wk q S' fun _ s'' _ _ S'' q => wk q S'' fun _ s₃ _ _ S₃ q => q.run s₃ S₃) hs⟩
theorem x_asgT {elts : List Expr} {k : Nat} {tpos : Pos} {value : Expr} {pos : Pos} {Q : Flow → Loc → Sto → Prop}
    (h : W Γ A L (eval value env) (fun v m' σ' => W Γ A L (assign (.Tuple elts k tpos) env v) (fun _ => Q .next) m' σ') m σ)
    (h1 : swapsWithSole [.Tuple elts k tpos] value pos.line env = Pure.pure false := by with_unfolding_all rfl) (h2 : swappedStores [.Tuple elts k tpos] value env = Pure.pure none := by with_unfolding_all rfl) :
    W Γ A L (exec (.Assign [.Tuple elts k tpos] value pos) env) Q m σ := ⟨fun s S => Assign_Tuple (wk h S fun _ s' _ _ S' q => q.run s' S') h1 h2⟩
theorem x_asgW {elts : List Expr} {k : Nat} {tpos : Pos} {value : Expr} {pos : Pos} {names : List Str} {Q : Flow → Loc → Sto → Prop}
    (h : W Γ A L (eval value env) (fun v m' σ' => W Γ A L (unpackItems v names.length none) (fun items m'' σ'' => W Γ A L (assignInOrder (names.reverse.map fun n => bindName env n) items.reverse) (fun _ => Q .next) m'' σ'') m' σ') m σ)
    (h1 : swapsWithSole [.Tuple elts k tpos] value pos.line env = Pure.pure false := by with_unfolding_all rfl) (h2 : swappedStores [.Tuple elts k tpos] value env = Pure.pure (some names) := by with_unfolding_all rfl) :
    W Γ A L (exec (.Assign [.Tuple elts k tpos] value pos) env) Q m σ := ⟨fun s S => Assign_Tuple_swapped (wk h S fun _ s' _ _ S' q => wk q S' fun _ s'' _ _ S'' q => q.run s'' S'') h1 h2⟩
theorem x_while {test : Expr} {body orelse : List Stmt} {pos : Pos} {Q : Flow → Loc → Sto → Prop} (h : WC Γ A L (.whileLoop test body orelse env) Q m σ) : W Γ A L (exec (.While test body orelse pos) env) Q m σ := ⟨fun s S => wpAny_While (codeAny_mono (h.run s S) fun r s' q => by cases r with | ok f => exact q | error e => exact q.elim)⟩
theorem x_for {target iter : Expr} {body orelse : List Stmt} {pos : Pos} {Q : Flow → Loc → Sto → Prop}
    (h : W Γ A L (eval iter env) (fun x m' σ' => W Γ A L (pyIter x) (fun it m'' σ'' => WC Γ A L (.forLoop target it body orelse env) Q m'' σ'') m' σ') m σ)
    (hf : ∀ x, foldedSetIterable iter env x = Pure.pure x := by intro _; with_unfolding_all rfl) : W Γ A L (exec (.For target iter body orelse pos) env) Q m σ := ⟨fun s S => wpAny_For (wk h S fun _ s' _ _ S' q => wk q S' fun _ s'' _ _ S'' q => codeAny_mono (q.run s'' S'') fun r s' q => by cases r with | ok f => exact q | error e => exact q.elim) hf⟩

/-- what comes behind a turn -/
abbrev Turn (Γ : Cx) (A : Around) (L : Addr) (c : Code) (Q : Flow → Loc → Sto → Prop) (f : Flow) (m'' : Loc) (σ'' : Sto) : Prop := match f with
        | .next => WC Γ A L c Q m'' σ''
        | .cont => WC Γ A L c Q m'' σ''
        | .brk => Q .next m'' σ''
        | .ret v => Q (.ret v) m'' σ''
/-- one turn of a while -/
theorem c_while {test : Expr} {body orelse : List Stmt} {Q : Flow → Loc → Sto → Prop}
    (h : W Γ A L (isTrue test env (eval test env)) (fun b m' σ' => if b = true then W Γ A L (execs body env) (Turn Γ A L (.whileLoop test body orelse env) Q) m' σ' else W Γ A L (execs orelse env) Q m' σ') m σ) : WC Γ A L (.whileLoop test body orelse env) Q m σ := by
  refine ⟨fun s S => ?_⟩
  refine codeAny_of_tree ?_
  show wpAny _ A ((whileTurn test body orelse env).onRaise (fun x => do noteFrame x env; theTreesLotGoes x)) _ _ s
  refine wpAny_noted (wpAny_noRaise ?_)
  simp only [whileTurn]
  refine wpAny_bind (wk h S fun b s₂ m₂ σ₂ S₂ h₂ => ?_)
  cases b with
  | false =>
    simp only [Bool.false_eq_true, if_false] at h₂ ⊢
    exact wpAny_bind (mono1 (h₂.run s₂ S₂) fun f s₃ h₃ => wpAny_pure h₃)
  | true =>
    simp only [if_true] at h₂ ⊢
    refine wpAny_bind (wk h₂ S₂ fun f s₃ m₃ σ₃ S₃ h₃ => ?_)
    cases f with
    | next => exact wpAny_pure ⟨rfl, h₃.run s₃ S₃⟩
    | cont => exact wpAny_pure ⟨rfl, h₃.run s₃ S₃⟩
    | brk => exact wpAny_pure ⟨_, _, S₃, h₃⟩
    | ret v => exact wpAny_pure ⟨_, _, S₃, h₃⟩
/-- one turn of a for -/
theorem c_for {target : Expr} {it : Value} {body orelse : List Stmt} {Q : Flow → Loc → Sto → Prop}
    (h : W Γ A L (pyNext it) (fun r m' σ' => match r with
      | none => W Γ A L (execs orelse env) Q m' σ'
      | some v => W Γ A L (assign target env v) (fun _ m'' σ'' => W Γ A L (execs body env) (Turn Γ A L (.forLoop target it body orelse env) Q) m'' σ'') m' σ') m σ) (ht : ∀ v, letOwnedTupleGo target it v = Pure.pure () := by intro _; rfl) : WC Γ A L (.forLoop target it body orelse env) Q m σ := by
  refine ⟨fun s S => ?_⟩
  refine codeAny_of_tree ?_
  show wpAny _ A ((forTurn target it body orelse env).onRaise (fun x => do noteFrame x env; theTreesLotGoes x)) _ _ s
  refine wpAny_noted (wpAny_noRaise ?_)
  simp only [forTurn]
  refine wpAny_bind (wpAny_standAt (wpAny_bind (wpAny_onRaise (wpAny_mono (h.run s S) (fun r s₁ ⟨m₁, σ₁, S₁, h₁⟩ => ?_) fun _ _ e => e.elim))))
  cases r with
  | none => exact wpAny_pure ⟨rfl, codeAny_block (wpAny_mono (h₁.run s₁ S₁) (fun f s₃ h₃ => h₃) fun _ _ e => e.elim)⟩
  | some v =>
    refine wpAny_bind (wpAny_of_eq (ht v) ?_)
    refine wpAny_bind (wk h₁ S₁ fun _ s₂ m₂ σ₂ S₂ h₂ => wpAny_bind (wk h₂ S₂ fun f s₃ m₃ σ₃ S₃ h₃ => ?_))
    cases f with
    | next => exact wpAny_pure ⟨rfl, h₃.run s₃ S₃⟩
    | cont => exact wpAny_pure ⟨rfl, h₃.run s₃ S₃⟩
    | brk => exact wpAny_pure ⟨_, _, S₃, h₃⟩
    | ret v => exact wpAny_pure ⟨_, _, S₃, h₃⟩

-- expressions
theorem e_bin {l r : Expr} {op : Operator} {pos : Pos} {Q : Value → Loc → Sto → Prop}
    (h : W Γ A L (eval l env) (fun a m' σ' => W Γ A L (eval r env) (fun b m'' σ'' => W Γ A L (binaryOp op a b) Q m'' σ'') m' σ') m σ) : W Γ A L (eval (.BinOp l op r pos) env) Q m σ := ⟨fun s S => wpAny_BinOp (wk h S fun _ s' _ _ S' q => wk q S' fun _ s'' _ _ S'' q => q.run s'' S'')⟩
theorem e_cmp {l r : Expr} {op : CmpOp} {pos : Pos} {Q : Value → Loc → Sto → Prop}
    (h : W Γ A L (eval l env) (fun a m' σ' => W Γ A L (eval r env) (fun b m'' σ'' => W Γ A L (compareOp op a b) Q m'' σ'') m' σ') m σ) (hm : behindInMarks op r = false := by with_unfolding_all rfl) : W Γ A L (eval (.Compare l [op] [r] pos) env) Q m σ := ⟨fun s S => wpAny_Compare1 (wk h S fun _ s' _ _ S' q => wk q S' fun _ s'' _ _ S'' q => q.run s'' S'') hm⟩
theorem t_cmp {l r : Expr} {op : CmpOp} {pos : Pos} {whole : Sem Value} {Q : Bool → Loc → Sto → Prop}
    (h : W Γ A L (eval l env) (fun a m' σ' => W Γ A L (eval r env) (fun b m'' σ'' => W Γ A L (compareOp op a b) (fun v m₃ σ₃ => W Γ A L (truthy v) Q m₃ σ₃) m'' σ'') m' σ') m σ) (hm : behindInMarks op r = false := by with_unfolding_all rfl) :
    W Γ A L (isTrue (.Compare l [op] [r] pos) env whole) Q m σ := ⟨fun s S => wpAny_isTrue_Compare1 (wk h S fun _ s' _ _ S' q => wk q S' fun _ s'' _ _ S'' q => wk q S'' fun _ s₃ _ _ S₃ q => q.run s₃ S₃) hm⟩
theorem t_not {x : Expr} {pos : Pos} {whole : Sem Value} {Q : Bool → Loc → Sto → Prop} (h : W Γ A L (isTrue x env (eval x env)) (fun b => Q (!b)) m σ) : W Γ A L (isTrue (.UnaryOp .Not x pos) env whole) Q m σ := ⟨fun s S => wpAny_isTrue_Not (h.run s S)⟩
theorem t_bool {op : BoolOp} {values : List Expr} {pos : Pos} {whole : Sem Value} {Q : Bool → Loc → Sto → Prop} (h : W Γ A L (allTrue op values env) Q m σ) : W Γ A L (isTrue (.BoolOp op values pos) env whole) Q m σ := ⟨fun s S => wpAny_isTrue_BoolOp (h.run s S)⟩
theorem t_and0 {Q : Bool → Loc → Sto → Prop} (h : Q true m σ) : W Γ A L (allTrue .And [] env) Q m σ := ⟨fun s S => wpAny_allTrue_And_nil ⟨m, σ, S, h⟩⟩
theorem t_or0 {Q : Bool → Loc → Sto → Prop} (h : Q false m σ) : W Γ A L (allTrue .Or [] env) Q m σ := ⟨fun s S => wpAny_allTrue_Or_nil ⟨m, σ, S, h⟩⟩
theorem t_and {x : Expr} {rest : List Expr} {Q : Bool → Loc → Sto → Prop} (h : W Γ A L (isTrue x env (eval x env)) (fun b m' σ' => if b = true then W Γ A L (allTrue .And rest env) Q m' σ' else Q false m' σ') m σ) : W Γ A L (allTrue .And (x :: rest) env) Q m σ := ⟨fun s S => wpAny_allTrue_And_cons (wk h S fun b s' _ _ S' q => by
    cases b with
    | true => simp only [if_true] at q ⊢; exact q.run s' S'
    | false => simp only [Bool.false_eq_true, if_false] at q ⊢; exact ⟨_, _, S', q⟩)⟩
theorem t_or {x : Expr} {rest : List Expr} {Q : Bool → Loc → Sto → Prop} (h : W Γ A L (isTrue x env (eval x env)) (fun b m' σ' => if b = true then Q true m' σ' else W Γ A L (allTrue .Or rest env) Q m' σ') m σ) : W Γ A L (allTrue .Or (x :: rest) env) Q m σ := ⟨fun s S => wpAny_allTrue_Or_cons (wk h S fun b s' _ _ S' q => by
    cases b with
    | true => simp only [if_true] at q ⊢; exact ⟨_, _, S', q⟩
    | false => simp only [Bool.false_eq_true, if_false] at q ⊢; exact q.run s' S')⟩
theorem t_val {e : Expr} {whole : Sem Value} {Q : Bool → Loc → Sto → Prop} (h : W Γ A L whole (fun v m' σ' => W Γ A L (truthy v) Q m' σ') m σ)
    (he : isTrue e env whole = (do let v ← whole; standAt e.pos; holding [v] (truthy v)) := by rfl) : W Γ A L (isTrue e env whole) Q m σ := ⟨fun s S => wpAny_isTrue_value (wk h S fun _ s' _ _ S' q => q.run s' S') he⟩
theorem e_if {test body orelse : Expr} {pos : Pos} {Q : Value → Loc → Sto → Prop}
    (h : W Γ A L (isTrue test env (eval test env)) (fun b m' σ' => if b = true then W Γ A L (eval body env) Q m' σ' else W Γ A L (eval orelse env) Q m' σ') m σ) : W Γ A L (eval (.IfExp test body orelse pos) env) Q m σ := ⟨fun s S => wpAny_IfExp (wk h S fun b s' _ _ S' q => by
    cases b with
    | true => simp only [if_true] at q ⊢; exact q.run s' S'
    | false => simp only [Bool.false_eq_true, if_false] at q ⊢; exact q.run s' S')⟩
theorem e_un {op : UnaryOp} {x : Expr} {pos : Pos} {Q : Value → Loc → Sto → Prop} (h : W Γ A L (eval x env) (fun v m' σ' => W Γ A L (unaryOp op v) Q m' σ') m σ) : W Γ A L (eval (.UnaryOp op x pos) env) Q m σ := ⟨fun s S => wpAny_UnaryOp (wk h S fun _ s' _ _ S' q => q.run s' S')⟩
theorem e_int {i : Int} {k : Nat} {pos : Pos} {Q : Value → Loc → Sto → Prop} (h : ∀ t, Q (.int i t) m σ) : W Γ A L (eval (.Constant (.int i) k pos) env) Q m σ := ⟨fun _ S => wpAny_Constant_int ⟨m, σ, S.tok _, h _⟩⟩
theorem e_str {x : Str} {k : Nat} {pos : Pos} {Q : Value → Loc → Sto → Prop} (h : ∀ t, Q (.str x t) m σ) : W Γ A L (eval (.Constant (.str x) k pos) env) Q m σ := ⟨fun _ S => wpAny_Constant_str ⟨m, σ, S.tok _, h _⟩⟩
theorem e_bool {b : Bool} {k : Nat} {pos : Pos} {Q : Value → Loc → Sto → Prop} (h : Q (.bool b) m σ) : W Γ A L (eval (.Constant (.bool b) k pos) env) Q m σ := ⟨fun _ S => wpAny_Constant_bool ⟨m, σ, S, h⟩⟩
theorem e_none {k : Nat} {pos : Pos} {Q : Value → Loc → Sto → Prop} (h : Q .none m σ) : W Γ A L (eval (.Constant .none k pos) env) Q m σ := ⟨fun _ S => wpAny_Constant_none ⟨m, σ, S, h⟩⟩
theorem b_bool {b : Bool} {Q : Bool → Loc → Sto → Prop} (h : Q b m σ) : W Γ A L (truthy (.bool b)) Q m σ := ⟨fun _ S => wpAny_truthy_bool ⟨m, σ, S, h⟩⟩
theorem e_call {func : Expr} {args : List Expr} {pos : Pos} {Q : Value → Loc → Sto → Prop}
    (h : W Γ A L (eval func env) (fun f m' σ' => W Γ A L (callWith pos f [] (backTo pos (starEach args env)) []) Q m' σ') m σ)
    (he : eval (.Call func args [] pos) env = (do callWith pos (← eval func env) [] (backTo pos (starEach args env)) (backToKw pos (keywordEach [] env))) := by rfl) : W Γ A L (eval (.Call func args [] pos) env) Q m σ := ⟨fun s S => Call_ (wk h S fun _ s' _ _ S' q => q.run s' S') he⟩
theorem e_meth {o : Expr} {name : Str} {apos pos : Pos} {args : List Expr} {pl : Sem Bool} {Q : Value → Loc → Sto → Prop}
    (h : W Γ A L (eval o env) (fun ov m' σ' => W Γ A L (getMethod ov name pl) (fun fx m'' σ'' => W Γ A L (callWith pos fx.1 fx.2 (backTo pos (starEach args env)) []) Q m'' σ'') m' σ') m σ)
    (he : eval (.Call (.Attribute o name apos) args [] pos) env = (do
      let ov ← eval o env
      standAt apos.atName
      let (f, first) ← holding [ov] (getMethod ov name pl)
      callWith pos f first (backTo pos (starEach args env)) []) := by rfl) : W Γ A L (eval (.Call (.Attribute o name apos) args [] pos) env) Q m σ := ⟨fun s S => MethodCall_ (wk h S fun _ s' _ _ S' q => wk q S' fun _ s'' _ _ S'' q => q.run s'' S'') he⟩
theorem e_attr {value : Expr} {attr : Str} {pos : Pos} {Q : Value → Loc → Sto → Prop} (h : W Γ A L (eval value env) (fun o m' σ' => W Γ A L (getAttr o attr true) Q m' σ') m σ)
    (he : eval (.Attribute value attr pos) env = (do
      let o ← eval value env
      standAt pos.atName
      let r ← holding [o] (getAttr o attr true)
      letTemporaryGo value o r
      Pure.pure r) := by rfl) : W Γ A L (eval (.Attribute value attr pos) env) Q m σ := ⟨fun s S => Attribute_any_ (wk h S fun _ s' _ _ S' q => q.run s' S') he⟩
theorem e_sub {value slice : Expr} {pos : Pos} {Q : Value → Loc → Sto → Prop}
    (h : W Γ A L (eval value env) (fun o m' σ' => W Γ A L (eval slice env) (fun i m'' σ'' => W Γ A L (subscriptTail value slice o i) Q m'' σ'') m' σ') m σ) : W Γ A L (eval (.Subscript value slice pos) env) Q m σ := ⟨fun s S => Subscript_ (wk h S fun _ s' _ _ S' q => wk q S' fun _ s'' _ _ S'' q => q.run s'' S'')⟩
theorem e_list {elts : List Expr} {pos : Pos} {Q : Value → Loc → Sto → Prop} (h : W Γ A L (spliced (backTo pos (starEach elts env))) (fun vs m' σ' => W Γ A L (newList vs) Q m' σ') m σ) : W Γ A L (eval (.List elts pos) env) Q m σ := ⟨fun s S => List_ (wk h S fun _ s' _ _ S' q => q.run s' S')⟩
theorem e_tup {elts : List Expr} {k : Nat} {pos : Pos} {Q : Value → Loc → Sto → Prop} (h : W Γ A L (spliced (backTo pos (starEach elts env))) (fun vs m' σ' => W Γ A L (newTuple vs) Q m' σ') m σ) : W Γ A L (eval (.Tuple elts k pos) env) Q m σ := ⟨fun s S => Tuple_ (wk h S fun _ s' _ _ S' q => q.run s' S')⟩
theorem s_nil {pos : Pos} {Q : List Value → Loc → Sto → Prop} (h : Q [] m σ) : W Γ A L (spliced (backTo pos (starEach [] env))) Q m σ := ⟨fun s S => spliced_none ⟨m, σ, S, h⟩⟩
theorem s_cons {e : Expr} {rest : List Expr} {pos : Pos} {Q : List Value → Loc → Sto → Prop}
    (h : W Γ A L (eval e env) (fun v m' σ' => W Γ A L (spliced (backTo pos (starEach rest env))) (fun vs => Q (v :: vs)) m' σ') m σ) (he : starEach (e :: rest) env = (false, eval e env) :: starEach rest env := by rfl) :
    W Γ A L (spliced (backTo pos (starEach (e :: rest) env))) Q m σ := ⟨fun s S => spliced_more (wk h S fun _ s' _ _ S' q => q.run s' S') he⟩
end


def Loc.put (m : Loc) (x : Str) (v : Value) : Loc := fun y => if y = x then some v else m y
/-- a step at one address -/
def Stp1 (c : Addr) (σ σ' : Sto) : Prop := ∀ a o, σ a = some o → a ≠ c → σ' a = some o
theorem Stp1.get {c a : Addr} {σ σ' : Sto} {o : AO} (x : Stp1 c σ σ') (e : σ a = some o) (h : a ≠ c) : σ' a = some o := x a o e h
theorem Stp1.put {c : Addr} {σ : Sto} {o : AO} : Stp1 c σ (σ.put c o) := fun _ _ e h => put_get h e

section
variable {Γ : Cx} {A : Around} {L : Addr} {α β : Type} {m : Loc} {σ : Sto} {env : Env}

-- names
theorem n_loc {x : Str} {pos : Pos} {v : Value} {Q : Value → Loc → Sto → Prop} (hv : m x = some v) (h : Q v m σ) (hL : env.locals = L := by rfl) (hk : env.scope.kind = .function := by rfl) (hl : env.kindOf x = some .local := by rfl)
    (hd : (x == ("__debug__" : Str)) = false := by decide) : W Γ A L (eval (.Name x pos) env) Q m σ := ⟨fun s S => wpAny_Name (wpAny_loadName_local hk hl (hL ▸ S.ns) hv ⟨m, σ, S, h⟩) hd⟩
theorem n_cel {x : Str} {pos : Pos} {v : Value} {c : Addr} {Q : Value → Loc → Sto → Prop} (hv : σ c = some (.cel (some v))) (h : Q v m σ) (hc : env.cells.lookup x = some c := by rfl) (hk : env.scope.kind = .function := by rfl) (hl : env.kindOf x = some .cell := by rfl)
    (hd : (x == ("__debug__" : Str)) = false := by decide) : W Γ A L (eval (.Name x pos) env) Q m σ := ⟨fun s S => wpAny_Name (wpAny_loadName_cell hk hl hc (S.cel hv) ⟨m, σ, S, h⟩) hd⟩
theorem n_free {x : Str} {pos : Pos} {v : Value} {c : Addr} {Q : Value → Loc → Sto → Prop} (hv : σ c = some (.cel (some v))) (h : Q v m σ) (hc : env.cells.lookup x = some c := by rfl) (hk : env.scope.kind = .function := by rfl) (hl : env.kindOf x = some .free := by rfl)
    (hd : (x == ("__debug__" : Str)) = false := by decide) (hn : (x == ("__classdict__" : Str)) = false := by decide) : W Γ A L (eval (.Name x pos) env) Q m σ := ⟨fun s S => wpAny_Name (wpAny_loadName_free hk hl hc (S.cel hv) ⟨m, σ, S, h⟩ hn) hd⟩
theorem n_glob {x : Str} {pos : Pos} {v : Value} {Q : Value → Loc → Sto → Prop} (e : ∀ P, nsIn (KB P) mainGlobals x = some (some v)) (h : Q v m σ) (hg : env.globals = mainGlobals := by rfl) (hk : env.scope.kind = .function := by rfl)
    (hx : env.kindOf x = some .globalImplicit := by rfl) (hd : (x == ("__debug__" : Str)) = false := by decide) : W Γ A L (eval (.Name x pos) env) Q m σ := ⟨fun s S => by
  obtain ⟨_, _, mg, _, T⟩ := S.G.T
  exact Name_function_global hk hx (loadGlobal_global (by rw [hg]; exact T.g.keeps S.keep) (mg_of S.G.X T.g (e _)) ⟨m, σ, S, h⟩) hd⟩
theorem n_blt {x : Str} {pos : Pos} {v : Value} {Q : Value → Loc → Sto → Prop} (e : ∀ P, nsIn (KB P) mainGlobals x = some none) (hv : bootBuiltins x = some v) (h : Q v m σ) (hn : x ≠ "__name__" := by decide) (hg : env.globals = mainGlobals := by rfl) (hb : env.builtins = builtinsNs := by rfl)
    (hk : env.scope.kind = .function := by rfl) (hx : env.kindOf x = some .globalImplicit := by rfl) (hd : (x == ("__debug__" : Str)) = false := by decide) : W Γ A L (eval (.Name x pos) env) Q m σ := ⟨fun s S => by
  obtain ⟨_, _, mg, _, T⟩ := S.G.T
  exact Name_function_global hk hx (loadGlobal_builtin (by rw [hg]; exact T.g.keeps S.keep) (mg_none_of S.G.X T.g (e _)) (by rw [hb]; exact T.b.keeps S.keep) ((T.builtins x hn).trans hv) ⟨m, σ, S, h⟩) hd⟩

-- stores
theorem st_loc {x : Str} {v : Value} {Q : Unit → Loc → Sto → Prop} (h : Q () (m.put x v) σ) (hL : env.locals = L := by rfl) (hl : env.kindOf x = some .local := by rfl)
    (hp : (env.scope.kind == .class || (env.scope.kind == .module && env.locals != env.globals)) = false := by rfl) : W Γ A L (storeName env x v) Q m σ := ⟨fun s S => by
  subst hL
  exact wpAny_storeName_local hl S.ns (fun h' hn hs => ⟨_, _, S.setL hn hs, h⟩) hp⟩
theorem st_cel {x : Str} {v : Value} {c : Addr} {v₀ : Option Value} {Q : Unit → Loc → Sto → Prop} (hv : σ c = some (.cel v₀)) (h : ∀ σ', Stp1 c σ σ' → σ' c = some (.cel (some v)) → Q () m σ') (hc : env.cells.lookup x = some c := by rfl)
    (hk : env.scope.kind = .function := by rfl) (hl : env.kindOf x = some .cell := by rfl) : W Γ A L (storeName env x v) Q m σ := ⟨fun s S =>
  wpAny_storeName_cell hk hl hc (S.cel hv) fun h' hn hs => ⟨_, _, S.turn (o' := .cel (some v)) (t := s.toks) hv nofun (fun b ob hb e => (hs.2 b hb).trans e) hn, h _ Stp1.put put_self⟩⟩
theorem bindN {x : Str} {v : Value} {Q : Unit → Loc → Sto → Prop} (h : W Γ A L (storeName env x v) Q m σ) : W Γ A L (bindName env x v) Q m σ := ⟨fun s S => wpAny_bindName (h.run s S)⟩
theorem a_name {x : Str} {pos : Pos} {v : Value} {Q : Unit → Loc → Sto → Prop} (h : W Γ A L (storeName env x v) Q m σ) : W Γ A L (assign (.Name x pos) env v) Q m σ := ⟨fun s S => wpAny_assign_Name (h.run s S)⟩
theorem a_nil {xs : List Value} {Q : Unit → Loc → Sto → Prop} (h : Q () m σ) : W Γ A L (assignInOrder [] xs) Q m σ := ⟨fun s S => wpAny_pure ⟨m, σ, S, h⟩⟩
theorem a_cons {t : Value → Sem Unit} {ts : List (Value → Sem Unit)} {x : Value} {xs : List Value} {Q : Unit → Loc → Sto → Prop} (h : W Γ A L (t x) (fun _ m' σ' => W Γ A L (assignInOrder ts xs) Q m' σ') m σ) : W Γ A L (assignInOrder (t :: ts) (x :: xs)) Q m σ := ⟨fun s S => wpAny_bind (wpAny_holding (wk h S fun _ s' _ _ S' q => q.run s' S'))⟩
theorem a_tup {elts : List Expr} {k : Nat} {pos : Pos} {t : Addr} {vs : List Value} {n : Nat} {Q : Unit → Loc → Sto → Prop} (hA : Ok A n) (ht : σ t = some (.tup vs)) (hl : (assignEach elts env).length = vs.length) (hn : (assignEach elts env).findIdx? (·.1) = none)
    (h : W Γ A L (assignInOrder ((assignEach elts env).map (·.2)) vs) Q m σ) : W Γ A L (assign (.Tuple elts k pos) env (.ref t)) Q m σ := ⟨fun s S =>
  wpAny_assign_Tuple hA.h (S.tup ht) (by rw [hl, List.size_toArray]) hn fun h' hx => by
    have := h.run _ (S.grow (t := s.toks) fun b o e => hx b o (Nat.ne_of_lt (Heap.lt_size e)) e)
    exact this⟩
theorem u_tup {t : Addr} {vs : List Value} {k n : Nat} {Q : List Value → Loc → Sto → Prop} (hA : Ok A n) (ht : σ t = some (.tup vs)) (hk : vs.length = k) (h : Q vs m σ) : W Γ A L (unpackItems (.ref t) k none) Q m σ := ⟨fun s S => by
  subst hk
  have := wpAny_unpackItems_tuple (prog := pw) (w := Γ.w) (E := fun _ _ => False) hA.h (S.tup ht) (Q := fun v s' => ∃ m' σ', St Γ L m' σ' s' ∧ Q v m' σ')
    fun h' hx => ⟨m, σ, S.grow (t := s.toks) fun b o e => hx b o (Nat.ne_of_lt (Heap.lt_size e)) e, h⟩
  rwa [List.size_toArray] at this⟩

-- new lists and tuples
theorem newL {vs : List Value} {Q : Value → Loc → Sto → Prop} (h : ∀ a σ', Stp No σ σ' → σ a = none → σ' a = some (.lst vs) → Q (.ref a) m σ') (hz : vs.length ≤ sizeLine := by size_fits) : W Γ A L (newList vs) Q m σ := ⟨fun s S =>
  wpAny_newList (by
    obtain ⟨S', st, fr⟩ := S.add (a := s.heap.objs.size) (o' := .lst vs) (t := s.toks) (Nat.le_refl _) nofun (fun b o e => Heap.get?_push_of_some _ e) ⟨{ cls := .type "list", data := .seq vs.toArray }, Heap.get?_push_size _ rfl, rfl, 0, rfl⟩
    exact ⟨_, _, S', h _ _ st fr put_self⟩) hz⟩
theorem newM {vs : List Value} {Q : Value → Loc → Sto → Prop} (h : ∀ a σ', Stp No σ σ' → σ a = none → σ' a = some (.mls vs) → Q (.ref a) m σ') (hz : vs.length ≤ sizeLine := by size_fits) : W Γ A L (newList vs) Q m σ := ⟨fun s S =>
  wpAny_newList (by
    obtain ⟨S', st, fr⟩ := S.add (a := s.heap.objs.size) (o' := .mls vs) (t := s.toks) (Nat.le_refl _) nofun (fun b o e => Heap.get?_push_of_some _ e) ⟨{ cls := .type "list", data := .seq vs.toArray }, Heap.get?_push_size _ rfl, rfl, 0, rfl⟩
    exact ⟨_, _, S', h _ _ st fr put_self⟩) hz⟩
theorem newT {vs : List Value} {Q : Value → Loc → Sto → Prop} (h : ∀ a σ', Stp No σ σ' → σ a = none → σ' a = some (.tup vs) → Q (.ref a) m σ') (hz : vs.length ≤ sizeLine := by size_fits) : W Γ A L (newTuple vs) Q m σ := ⟨fun s S =>
  wpAny_newTuple (by
    obtain ⟨S', st, fr⟩ := S.add (a := s.heap.objs.size) (o' := .tup vs) (t := s.toks) (Nat.le_refl _) nofun (fun b o e => Heap.get?_push_of_some _ e) ⟨{ cls := .type "tuple", data := .seq vs.toArray }, Heap.get?_push_size _ rfl, rfl, 0, rfl⟩
    exact ⟨_, _, S', h _ _ st fr put_self⟩) hz⟩

-- items
theorem i_lst {value slice : Expr} {l : Addr} {vs : List Value} {k : Int} {t : Tok} {x : Value} {Q : Value → Loc → Sto → Prop} (hl : σ l = some (.lst vs) ∨ σ l = some (.mls vs)) (h0 : 0 ≤ k) (hk : k < 2 ^ 63) (hx : vs[k.toNat]? = some x) (h : Q x m σ)
    (hs : subscripted slice false (.ref l) (.int k t) = operate [.ref l, .int k t] (getItem (.ref l) (.int k t)) := by with_unfolding_all rfl) : W Γ A L (subscriptTail value slice (.ref l) (.int k t)) Q m σ := ⟨fun s S => by
  have hL : s.heap.IsList l vs.toArray := hl.elim S.lst S.mls
  exact tail_any hL.typeIs slot_list_getitem.lookup (wpAny_getItem_list hL h0 hk (by simpa using hx) ⟨m, σ, S, h⟩) hs⟩
theorem i_tup {value slice : Expr} {l : Addr} {vs : List Value} {k : Int} {t : Tok} {j : Nat} {x : Value} {Q : Value → Loc → Sto → Prop} (hl : σ l = some (.tup vs)) (hj : seqIndex? k vs.length = some j) (hx : vs[j]? = some x) (h : Q x m σ) (h0 : -(2 ^ 63) ≤ k := by decide) (hk : k < 2 ^ 63 := by decide)
    (hs : subscripted slice false (.ref l) (.int k t) = operate [.ref l, .int k t] (getItem (.ref l) (.int k t)) := by with_unfolding_all rfl) : W Γ A L (subscriptTail value slice (.ref l) (.int k t)) Q m σ := ⟨fun s S =>
  item_tupleT (S.tup hl) h0 hk hj hx ⟨m, σ, S, h⟩ hs⟩
theorem set_mls {l : Addr} {vs : List Value} {k : Int} {t : Tok} {v : Value} {Q : Unit → Loc → Sto → Prop} (hl : σ l = some (.mls vs)) (h0 : 0 ≤ k) (hk : k < 2 ^ 63) (hn : k < vs.length) (h : ∀ σ', Stp (· = l) σ σ' → σ' l = some (.mls (vs.set k.toNat v)) → Q () m σ') : W Γ A L (setItem (.ref l) (.int k t) v) Q m σ := ⟨fun s S =>
  wpAny_setItem_list (S.mls hl) h0 hk (by rw [List.size_toArray]; exact hn) fun h' hl' hs => ⟨_, _, S.turn (o' := .mls (vs.set k.toNat v)) (t := s.toks) hl nofun (fun b ob hb e => (hs.2 b hb).trans e) (by have q := hl'; simp at q; exact q), h _ (Stp.turn hl rfl) put_self⟩⟩
theorem app_mls {l : Addr} {vs : List Value} {v : Value} {Q : Value → Loc → Sto → Prop} (hl : σ l = some (.mls vs)) (h : ∀ σ', Stp (· = l) σ σ' → σ' l = some (.mls (vs ++ [v])) → Q .none m σ') (hz : vs.length ≤ sizeLine := by size_fits) : W Γ A L (call (.builtin "list.append") [.ref l, v]) Q m σ := ⟨fun s S =>
  wpAny_list_append (S.mls hl) (fun h' hl' hs => ⟨_, _, S.turn (o' := .mls (vs ++ [v])) (t := s.toks) hl nofun (fun b ob hb e => (hs.2 b hb).trans e) (by have q := hl'; simp at q; exact q), h _ (Stp.turn hl rfl) put_self⟩) (by rw [List.size_toArray]; exact hz)⟩

-- calls: whom
theorem k_b {id : String} {e : Expr} {rest : List Expr} {pos : Pos} {Q : Value → Loc → Sto → Prop} (h : W Γ A L (spliced (backTo pos (starEach (e :: rest) env))) (fun vs m' σ' => W Γ A L (call (.builtin id) vs) Q m' σ') m σ)
    (h1 : starEach (e :: rest) env = (false, eval e env) :: starEach rest env := by rfl) (h2 : (backTo pos (starEach rest env)).any (·.1) = false := by rfl) : W Γ A L (callWith pos (.builtin id) [] (backTo pos (starEach (e :: rest) env)) []) Q m σ :=
  ⟨fun s S => callWith_method1 (wk h S fun _ s' _ _ S' q => q.run s' S') h1 h2⟩
theorem k_b1 {id : String} {a : Value} {e : Expr} {rest : List Expr} {pos : Pos} {Q : Value → Loc → Sto → Prop} (h : W Γ A L (spliced (backTo pos (starEach (e :: rest) env))) (fun vs m' σ' => W Γ A L (call (.builtin id) (a :: vs)) Q m' σ') m σ)
    (h1 : starEach (e :: rest) env = (false, eval e env) :: starEach rest env := by rfl) (h2 : (backTo pos (starEach rest env)).any (·.1) = false := by rfl) : W Γ A L (callWith pos (.builtin id) [a] (backTo pos (starEach (e :: rest) env)) []) Q m σ :=
  ⟨fun s S => callWith_method1 (wk h S fun _ s' _ _ S' q => q.run s' S') h1 h2⟩
theorem k_b0 {id : String} {first : List Value} {pos : Pos} {Q : Value → Loc → Sto → Prop} (h : W Γ A L (call (.builtin id) first) Q m σ) : W Γ A L (callWith pos (.builtin id) first (backTo pos (starEach [] env)) []) Q m σ := ⟨fun s S => callWith_method0 (h.run s S)⟩
theorem k_K {f : Value} {e : Expr} {rest : List Expr} {pos : Pos} {Q : Value → Loc → Sto → Prop} (hk : ∀ P, keepIn (KB P) f = true) (h : W Γ A L (spliced (backTo pos (starEach (e :: rest) env))) (fun vs m' σ' => W Γ A L (call f vs) Q m' σ') m σ)
    (h1 : starEach (e :: rest) env = (false, eval e env) :: starEach rest env := by rfl) (h2 : (backTo pos (starEach rest env)).any (·.1) = false := by rfl) : W Γ A L (callWith pos f [] (backTo pos (starEach (e :: rest) env)) []) Q m σ :=
  ⟨fun s S => callWith_K S.G.X (hk _) (wk h S fun _ s' _ _ S' q => ⟨S'.K, q.run s' S'⟩) h1 h2⟩
theorem k_K1 {f a : Value} {e : Expr} {rest : List Expr} {pos : Pos} {Q : Value → Loc → Sto → Prop} (hk : ∀ P, keepIn (KB P) f = true) (h : W Γ A L (spliced (backTo pos (starEach (e :: rest) env))) (fun vs m' σ' => W Γ A L (call f (a :: vs)) Q m' σ') m σ)
    (h1 : starEach (e :: rest) env = (false, eval e env) :: starEach rest env := by rfl) (h2 : (backTo pos (starEach rest env)).any (·.1) = false := by rfl) : W Γ A L (callWith pos f [a] (backTo pos (starEach (e :: rest) env)) []) Q m σ :=
  ⟨fun s S => callWith_K S.G.X (hk _) (wk h S fun _ s' _ _ S' q => ⟨S'.K, q.run s' S'⟩) h1 h2⟩
theorem k_K0 {f : Value} {first : List Value} {pos : Pos} {Q : Value → Loc → Sto → Prop} (hk : ∀ P, keepIn (KB P) f = true) (h : W Γ A L (call f first) Q m σ) : W Γ A L (callWith pos f first (backTo pos (starEach [] env)) []) Q m σ := ⟨fun s S => callWith_K0 S.K (hk _) (by rw [List.append_nil]; exact h.run s S)⟩

/-- the end of a called def: back to the caller's frame -/
theorem back {L' : Addr} {m' : Loc} {σ₀ σ' : Sto} {s' : Shared} {X : Addr → Prop} (S' : St Γ L' m' σ' s') (h0 : σ₀ L = none) (hb : Γ.h0.objs.size ≤ L) (hne : L ≠ L') (st : Stp X (σ₀.put L (.ns m)) σ') :
    ∃ σ'', St Γ L m σ'' s' ∧ Stp X σ₀ σ'' ∧ ∀ a o, σ' a = some o → (∀ m, o ≠ .ns m) → σ'' a = some o := by
  have hL : σ' L = some (.ns m) := st _ _ put_self (.inl rfl)
  refine ⟨σ'.del L, ⟨S'.G, S'.keep, hb, del_self, ?_, S'.tabs, S'.bare, S'.os, S'.gen⟩, fun a o e c => ?_, fun a o e n => ?_⟩
  · rw [del_put hL]
    refine S'.real.forget fun a o e => ?_
    rw [put_ne (S'.ne e)]; exact e
  · have ha := ne_of_none h0 e
    rw [del_ne ha]
    exact st _ _ (put_get ha e) c
  · rw [del_ne (fun z => ?_)]
    · exact e
    · rw [z, hL] at e; cases e; exact n _ rfl

end


def Keep (σ σ' : Sto) : Prop := ∀ a o, σ a = some o → o.kp = true → σ' a = some o
theorem Keep.of {σ σ' : Sto} (h : ∀ a o, σ a = some o → (∀ m, o ≠ .ns m) → σ' a = some o) : Keep σ σ' := fun a o e k => h a o e fun m z => by subst z; cases k
def retv : Flow → Value
  | .ret v => v
  | _ => .none
/-- how a body ends -/
def Ret (m : Loc) (σ σ0 : Sto) (Q : Value → Loc → Sto → Prop) (fl : Flow) (_ : Loc) (σ' : Sto) : Prop :=
  ∃ X, Stp X σ0 σ' ∧ ∀ σ₃, Stp X σ σ₃ → Keep σ' σ₃ → Q (retv fl) m σ₃

def Sto.puts (σ : Sto) (l : List (Addr × AO)) : Sto := fun b => match l.lookup b with | some o => some o | none => σ b

theorem lookup_mem {l : List (Addr × AO)} {b : Addr} {o : AO} (e : l.lookup b = some o) : (b, o) ∈ l := by
  induction l with
  | nil => cases e
  | cons p r ih =>
    obtain ⟨a, x⟩ := p
    simp only [List.lookup] at e
    split at e
    · rename_i q; cases e; rw [beq_iff_eq.mp q]; exact .head _
    · exact .tail _ (ih e)

theorem Real.adds {lo : Nat} {σ : Sto} {h h' : Heap} (R : Real lo σ h) {l : List (Addr × AO)} (hl : ∀ p ∈ l, lo ≤ p.1 ∧ h.objs.size ≤ p.1 ∧ (∀ x c, p.2 ≠ .tre x c) ∧ RealAt h' id p.1 p.2)
    (k : ∀ b ob, h.get? b = some ob → h'.get? b = some ob) : Real lo (σ.puts l) h' := by
  obtain ⟨d, r, s, t⟩ := R.ex
  have cs : ∀ b o, σ.puts l b = some o → (b, o) ∈ l ∨ (l.lookup b = none ∧ σ b = some o) := fun b o q => by
    unfold Sto.puts at q
    split at q
    · rename_i o' e; cases q; exact .inl (lookup_mem e)
    · rename_i e; exact .inr ⟨e, q⟩
  have nt : ∀ b x c, σ.puts l b = some (.tre x c) → σ b = some (.tre x c) := fun b x c q => by
    rcases cs b _ q with q | q
    · exact absurd rfl ((hl _ q).2.2.1 x c)
    · exact q.2
  refine ⟨d, fun b ob q => ?_, fun b x c q => ?_, fun b b' x c x' c' q q' hd => t b b' _ _ _ _ (nt _ _ _ q) (nt _ _ _ q') hd⟩
  · rcases cs b ob q with q | ⟨_, q⟩
    · obtain ⟨h1, h2, h3, h4⟩ := hl _ q
      refine ⟨h1, ?_⟩
      cases ob with
      | tre x c => exact absurd rfl (h3 x c)
      | _ => exact h4
    · exact ⟨(r _ _ q).1, (r _ _ q).2.congr rfl (k b) fun l c hl ob => k _ ob⟩
  · have q := nt _ _ _ q
    refine ⟨(s b x c q).1, ?_⟩
    obtain ⟨_, ob, e2, _⟩ := (r _ _ q).2
    cases z : σ.puts l (d b) with
    | none => rfl
    | some o =>
      rcases cs _ _ z with z | z
      · exact absurd (Heap.lt_size e2) (Nat.not_lt.mpr (hl _ z).2.1)
      · have := (s b x c q).2; rw [z.2] at this; cases this

section
variable {Γ : Cx} {A : Around} {L : Addr} {m : Loc} {σ : Sto}
  {name qual : Str} {params : Arguments} {body : List Stmt} {scope : Scope} {dV kV doc pm cdv ct oc : Value} {an od : Option Addr} {osl : Array (Option Value)} {f : Addr} {vals : List Value} {binds : List (Str × Value)} {n : Nat} {Q : Value → Loc → Sto → Prop}

theorem put_stp (h : σ L = none) : Stp No σ (σ.put L (.ns m)) := fun a o e _ => put_old h e

/-- a call of a def of the text, without cells -/
theorem call_fn (hA : Ok A (n + 1)) (ho : ∀ P, (KB P).lookup f = some ⟨oc, od, .func (fnOf name qual params body scope dV kV doc pm an cdv ct), osl⟩) (hcd : ∀ P, codeIn (KB P) cdv qual = true)
    (hbind : ∀ s, St Γ L m σ s → BindsTo s (fnOf name qual params body scope dV kV doc pm an cdv ct) ⟨vals, []⟩ binds) (hloc : ∀ y ∈ binds, scope.names.lookup y.1 = some .local)
    (h : ∀ L' σ0, Stp No σ σ0 → Ok (A.deeper (envOf qual scope L' f cdv)) n → W Γ (A.deeper (envOf qual scope L' f cdv)) L' (execs body (envOf qual scope L' f cdv)) (Ret m σ σ0 Q) (fun x => binds.reverse.lookup x) σ0)
    (hcell : ∀ x ∈ scope.names, x.2 ≠ .cell := by decide) (hco : scope.isCoroutine = false := by rfl) (hgen : scope.isGenerator = false := by rfl) (hk : scope.kind = .function := by rfl) :
    W Γ A L (call (.ref f) vals) Q m σ := by
  refine ⟨fun s S => ?_⟩
  refine wpAny_call (codeAny_call_def (fd := fnOf name qual params body scope dV kV doc pm an cdv ct) (body := body) (binds := binds) hA.room (S.K _ _ (ho _)) rfl S.nolimit (codeRec_of S.K (hcd _)) rfl (hbind s S) hcell hloc (fun h₁ hns hk₁ => ?_) hco hgen hk)
  have fr := S.real.fresh (Nat.le_refl s.heap.objs.size)
  have hne : L ≠ s.heap.objs.size := Nat.ne_of_lt S.Llt
  have S₀ : St Γ s.heap.objs.size (fun x => binds.reverse.lookup x) (σ.put L (.ns m)) { s with heap := h₁, toks := s.toks + binds.length } :=
    ⟨S.G, fun b o e => hk₁ b o (S.keep b o e), Nat.le_trans S.ab (Nat.le_of_lt S.Llt), fr, S.real.add (Nat.le_trans S.ab (Nat.le_of_lt S.Llt)) (Nat.le_refl _) nofun hk₁ hns, S.tabs.keeps hk₁, S.bare, S.os, S.gen⟩
  refine wpAny_mono ((h s.heap.objs.size _ (put_stp S.off) hA.deeper).run _ S₀) (fun fl s' ⟨m', σ', S', X, st, q⟩ => ?_) fun _ _ e => e.elim
  obtain ⟨σ₃, S₃, st₃, kp⟩ := back S' S.off S.ab hne st
  have z := q σ₃ st₃ (.of kp)
  exact ⟨m, σ₃, S₃, by cases fl <;> exact z⟩

/-- a call of a def of the text, with cells that it turns -/
theorem call_fnD (hA : Ok A (n + 1)) (ho : ∀ P, (KB P).lookup f = some ⟨oc, od, .func (fnOf name qual params body scope dV kV doc pm an cdv ct), osl⟩) (hcd : ∀ P, codeIn (KB P) cdv qual = true)
    (hbind : ∀ s, St Γ L m σ s → BindsTo s (fnOf name qual params body scope dV kV doc pm an cdv ct) ⟨vals, []⟩ binds)
    (hkind : (binds.all fun y => scope.names.lookup y.1 == some .local || scope.names.lookup y.1 == some .cell) = true)
    (h : ∀ L' σ0 σ1, Stp No σ σ1 → Stp No σ1 σ0 → Ok (A.deeper (envOfC qual scope L' f cdv)) n → (∀ x c, (cellsFrom (L' + 1) scope.names []).lookup x = some c → σ0 c = some (.cel (bindC (envOfC qual scope L' f cdv).kindOf binds (fun _ => none) x)) ∧ σ1 c = none) →
      W Γ (A.deeper (envOfC qual scope L' f cdv)) L' (execs body (envOfC qual scope L' f cdv)) (Ret m σ σ1 Q) (bindL (envOfC qual scope L' f cdv).kindOf binds fun _ => none) σ0)
    (hnd : ((cellsFrom 0 scope.names []).map (·.1)).Nodup := by decide) (hco : scope.isCoroutine = false := by rfl) (hgen : scope.isGenerator = false := by rfl) (hk : scope.kind = .function := by rfl) :
    W Γ A L (call (.ref f) vals) Q m σ := by
  refine ⟨fun s S => ?_⟩
  refine wpAny_call (codeAny_call_function (fd := fnOf name qual params body scope dV kV doc pm an cdv ct) (body := body) hA.room (S.K _ _ (ho _)) rfl hco hgen rfl (codeRec_of S.K (hcd _)) (hbind s S _ _ _ _ ?_))
  refine wpAny_newFunctionEnv_cells hk (kindsX hkind _) fun env' he s' x => ?_
  subst he
  refine ⟨S.nolimit.keeps x.toInCall.keep, codeAny_func ?_⟩
  obtain ⟨h₁, tk, rfl, _⟩ := x.done
  have hk₁ := x.toInCall.keep
  have fr := S.real.fresh (Nat.le_refl s.heap.objs.size)
  have hne : L ≠ s.heap.objs.size := Nat.ne_of_lt S.Llt
  have hlo : Γ.h0.objs.size ≤ s.heap.objs.size := Nat.le_trans S.ab (Nat.le_of_lt S.Llt)
  have hnd' : ((cellsFrom (s.heap.objs.size + 1) scope.names []).map (·.1)).Nodup := cellsFrom_names scope.names 0 (s.heap.objs.size + 1) [] [] rfl ▸ hnd
  let cl := cellsFrom (s.heap.objs.size + 1) scope.names []
  let ce : List (Addr × AO) := cl.map fun p => (p.2, AO.cel (bindC (envOfC qual scope s.heap.objs.size f cdv).kindOf binds (fun _ => none) p.1))
  have hce : ∀ p ∈ ce, s.heap.objs.size < p.1 ∧ ∃ y, (y, p.1) ∈ cl ∧ p.2 = AO.cel (bindC (envOfC qual scope s.heap.objs.size f cdv).kindOf binds (fun _ => none) y) := fun p hp => by
    obtain ⟨q, hq, rfl⟩ := List.mem_map.mp hp
    exact ⟨x.above q.1 q.2 hq, q.1, hq, rfl⟩
  have R := S.real.adds (h' := h₁) (l := (s.heap.objs.size, .ns (bindL (envOfC qual scope s.heap.objs.size f cdv).kindOf binds fun _ => none)) :: ce) (fun p hp => by
    rcases List.mem_cons.mp hp with rfl | hp
    · exact ⟨hlo, Nat.le_refl _, nofun, x.toInCall.ns⟩
    · obtain ⟨h1, y, h2, h3⟩ := hce p hp
      refine ⟨Nat.le_trans hlo (Nat.le_of_lt h1), Nat.le_of_lt h1, by rw [h3]; nofun, ?_⟩
      rw [h3]
      exact x.cell y p.1 (lookup_of_mem_nodup hnd' h2)) hk₁
  have eS : (σ.put L (.ns m)).puts ((s.heap.objs.size, .ns (bindL (envOfC qual scope s.heap.objs.size f cdv).kindOf binds fun _ => none)) :: ce) =
      ((σ.put L (.ns m)).puts ce).put s.heap.objs.size (.ns (bindL (envOfC qual scope s.heap.objs.size f cdv).kindOf binds fun _ => none)) := by
    funext b
    unfold Sto.puts Sto.put
    by_cases hb : b = s.heap.objs.size
    · subst hb; simp
    · have : (b == s.heap.objs.size) = false := by simpa using hb
      simp [List.lookup, this, hb]
  rw [eS] at R
  have off : ((σ.put L (.ns m)).puts ce) s.heap.objs.size = none := by
    unfold Sto.puts
    cases z : ce.lookup s.heap.objs.size with
    | none => exact fr
    | some o => exact absurd (hce _ (lookup_mem z)).1 (Nat.lt_irrefl _)
  have hst : Stp No (σ.put L (.ns m)) ((σ.put L (.ns m)).puts ce) := fun a o e _ => by
    unfold Sto.puts
    cases z : ce.lookup a with
    | none => exact e
    | some o' =>
      have h1 := (hce _ (lookup_mem z)).1
      have := S.real.fresh (Nat.le_of_lt h1)
      rw [e] at this; cases this
  have S₀ : St Γ s.heap.objs.size (bindL (envOfC qual scope s.heap.objs.size f cdv).kindOf binds fun _ => none) ((σ.put L (.ns m)).puts ce) { s with heap := h₁, toks := tk } :=
    ⟨S.G, fun b o e => hk₁ b o (S.keep b o e), hlo, off, R, S.tabs.keeps hk₁, S.bare, S.os, S.gen⟩
  have hap : cl.Pairwise fun x y => x.2 ≠ y.2 := x.apart
  refine wpAny_mono ((h s.heap.objs.size _ (σ.put L (.ns m)) (put_stp S.off) hst hA.deeper (fun y c hc => ⟨?_, ?_⟩)).run _ S₀) (fun fl s' ⟨m', σ', S', X, st, q⟩ => ?_) fun _ _ e => e.elim
  · have hm : (y, c) ∈ cl := mem_of_lookup hc
    unfold Sto.puts
    cases z : ce.lookup c with
    | none =>
      exfalso
      have : (c, AO.cel (bindC (envOfC qual scope s.heap.objs.size f cdv).kindOf binds (fun _ => none) y)) ∈ ce := List.mem_map.mpr ⟨_, hm, rfl⟩
      exact absurd z (by
        intro z
        have := List.lookup_eq_none_iff.mp z _ this
        simp at this)
    | some o =>
      obtain ⟨_, y', h2, h3⟩ := hce _ (lookup_mem z)
      have h3' : o = _ := h3
      have h2' : (y', c) ∈ cl := h2
      obtain rfl : y = y' := name_of_addr hap hm h2'
      rw [h3']
  · have h1 := x.above y c (mem_of_lookup hc)
    exact S.real.fresh (Nat.le_of_lt h1)
  · obtain ⟨σ₃, S₃, st₃, kp⟩ := back S' S.off S.ab hne st
    have z := q σ₃ st₃ (.of kp)
    exact ⟨m, σ₃, S₃, by cases fl <;> exact z⟩
/-- a call of a def of the text, with cells -/
theorem call_fnC (hA : Ok A (n + 1)) (ho : ∀ P, (KB P).lookup f = some ⟨oc, od, .func (fnOf name qual params body scope dV kV doc pm an cdv ct), osl⟩) (hcd : ∀ P, codeIn (KB P) cdv qual = true)
    (hbind : ∀ s, St Γ L m σ s → BindsTo s (fnOf name qual params body scope dV kV doc pm an cdv ct) ⟨vals, []⟩ binds)
    (hkind : (binds.all fun y => scope.names.lookup y.1 == some .local || scope.names.lookup y.1 == some .cell) = true)
    (h : ∀ L' σ0, Stp No σ σ0 → Ok (A.deeper (envOfC qual scope L' f cdv)) n → (∀ x c, (cellsFrom (L' + 1) scope.names []).lookup x = some c → σ0 c = some (.cel (bindC (envOfC qual scope L' f cdv).kindOf binds (fun _ => none) x)) ∧ σ c = none) →
      W Γ (A.deeper (envOfC qual scope L' f cdv)) L' (execs body (envOfC qual scope L' f cdv)) (Ret m σ σ0 Q) (bindL (envOfC qual scope L' f cdv).kindOf binds fun _ => none) σ0)
    (hnd : ((cellsFrom 0 scope.names []).map (·.1)).Nodup := by decide) (hco : scope.isCoroutine = false := by rfl) (hgen : scope.isGenerator = false := by rfl) (hk : scope.kind = .function := by rfl) :
    W Γ A L (call (.ref f) vals) Q m σ := call_fnD hA ho hcd hbind hkind (fun L' σ0 σ1 s1 s0 hA' hc => (h L' σ0 (s1.trans s0) hA' (fun x c e => ⟨(hc x c e).1, by
    cases q : σ c with
    | none => rfl
    | some o => have := s1 _ _ q (.inr id); rw [(hc x c e).2] at this; cases this⟩)).mono fun fl m' σ' q => let ⟨X, st, k⟩ := q; ⟨X, fun a o e c => st a o (s0 a o e (.inr id)) c, k⟩) hnd hco hgen hk
end

theorem Stp.step {X Y : Addr → Prop} {σ σ' σ'' : Sto} (y : Stp Y σ' σ'') (x : Stp X σ σ') (h : ∀ a, Y a → X a) : Stp X σ σ'' := x.trans (y.weak h)
theorem Stp1.step {X : Addr → Prop} {c : Addr} {σ σ' σ'' : Sto} (y : Stp1 c σ' σ'') (x : Stp X σ σ') (h : σ c = none) : Stp X σ σ'' := fun a o e k => y a o (x a o e k) (ne_of_none h e)
section
variable {Γ : Cx} {A : Around} {L : Addr} {m : Loc} {σ : Sto} {env : Env}

theorem i_add {a b : Int} {t u : Tok} {Q : Value → Loc → Sto → Prop} (h : ∀ t, Q (.int (a + b) t) m σ) : W Γ A L (binaryOp .Add (.int a t) (.int b u)) Q m σ := ⟨fun s S => add_int ⟨m, σ, S.tok _, h _⟩⟩
theorem i_sub {a b : Int} {t u : Tok} {Q : Value → Loc → Sto → Prop} (h : ∀ t, Q (.int (a - b) t) m σ) : W Γ A L (binaryOp .Sub (.int a t) (.int b u)) Q m σ := ⟨fun s S => sub_int ⟨m, σ, S.tok _, h _⟩⟩
theorem i_mul {a b : Int} {t u : Tok} {Q : Value → Loc → Sto → Prop} (hz : -(2 ^ 64) < a ∧ a < 2 ^ 64 ∨ -(2 ^ 64) < b ∧ b < 2 ^ 64) (h : ∀ t, Q (.int (a * b) t) m σ) : W Γ A L (binaryOp .Mult (.int a t) (.int b u)) Q m σ := ⟨fun s S =>
  mul_int ⟨m, σ, S.tok _, h _⟩ (hz.elim (fun z => .of_left (intBits_le_64 z.1 z.2)) fun z => .of_right (intBits_le_64 z.1 z.2))⟩
theorem i_div {a b : Int} {t u : Tok} {Q : Value → Loc → Sto → Prop} (hb : b ≠ 0) (hp : Builtin.divisionGoesByPylong a b = false) (h : ∀ t, Q (.int (a.fdiv b) t) m σ) : W Γ A L (binaryOp .FloorDiv (.int a t) (.int b u)) Q m σ := ⟨fun s S =>
  floordiv_int hb ⟨m, σ, S.tok _, h _⟩ (.inl hp)⟩
theorem i_mod {a b : Int} {t u : Tok} {Q : Value → Loc → Sto → Prop} (hb : b ≠ 0) (h : ∀ t, Q (.int (a.fmod b) t) m σ) : W Γ A L (binaryOp .Mod (.int a t) (.int b u)) Q m σ := ⟨fun s S => mod_int hb ⟨m, σ, S.tok _, h _⟩⟩
theorem i_eq {a b : Int} {t u : Tok} {Q : Value → Loc → Sto → Prop} (h : Q (.bool (a == b)) m σ) : W Γ A L (compareOp .Eq (.int a t) (.int b u)) Q m σ := ⟨fun s S => eq_int ⟨m, σ, S, h⟩⟩
theorem i_ne {a b : Int} {t u : Tok} {Q : Value → Loc → Sto → Prop} (h : Q (.bool (a != b)) m σ) : W Γ A L (compareOp .NotEq (.int a t) (.int b u)) Q m σ := ⟨fun s S => ne_int ⟨m, σ, S, h⟩⟩
theorem i_gt {a b : Int} {t u : Tok} {Q : Value → Loc → Sto → Prop} (h : Q (.bool (decide (b < a))) m σ) : W Γ A L (compareOp .Gt (.int a t) (.int b u)) Q m σ := ⟨fun s S => gt_int ⟨m, σ, S, h⟩⟩
theorem i_lt {a b : Int} {t u : Tok} {Q : Value → Loc → Sto → Prop} (h : Q (.bool (decide (a < b))) m σ) : W Γ A L (compareOp .Lt (.int a t) (.int b u)) Q m σ := ⟨fun s S => lt_int ⟨m, σ, S, h⟩⟩
theorem i_neg {a : Int} {t : Tok} {Q : Value → Loc → Sto → Prop} (h : ∀ t, Q (.int (-a) t) m σ) : W Γ A L (unaryOp .USub (.int a t)) Q m σ := ⟨fun s S => neg_int ⟨m, σ, S.tok _, h _⟩⟩
theorem i_int {n : Int} {u : Tok} {Q : Value → Loc → Sto → Prop} (h : Q (.int n u) m σ) : W Γ A L (call (.type "int") [.int n u]) Q m σ := ⟨fun s S => call_int_int ⟨m, σ, S, h⟩⟩
theorem s_eq {x y : Str} {t u : Tok} {Q : Value → Loc → Sto → Prop} (h : Q (.bool (x == y)) m σ) : W Γ A L (compareOp .Eq (.str x t) (.str y u)) Q m σ := ⟨fun s S => eq_str ⟨m, σ, S, h⟩⟩
theorem s_ne {x y : Str} {t u : Tok} {Q : Value → Loc → Sto → Prop} (h : Q (.bool (x != y)) m σ) : W Γ A L (compareOp .NotEq (.str x t) (.str y u)) Q m σ := ⟨fun s S => ne_str ⟨m, σ, S, h⟩⟩
theorem s_add {x y : Str} {t u : Tok} {Q : Value → Loc → Sto → Prop} (hz : x.length + y.length ≤ sizeLine) (h : ∀ t, Q (.str (x ++ y) t) m σ) : W Γ A L (binaryOp .Add (.str x t) (.str y u)) Q m σ := ⟨fun s S => add_str (fun t tk => ⟨m, σ, S.tok _, h t⟩) hz⟩
theorem len_lst {l : Addr} {vs : List Value} {Q : Value → Loc → Sto → Prop} (hl : σ l = some (.lst vs) ∨ σ l = some (.mls vs)) (hz : vs.length < 2 ^ 62) (h : ∀ t, Q (.int vs.length t) m σ) : W Γ A L (call (.builtin "len") [.ref l]) Q m σ := ⟨fun s S =>
  len_list (hl.elim S.lst S.mls) (by rw [List.size_toArray]; omega) (by rw [List.size_toArray]; exact ⟨m, σ, S.tok _, h _⟩)⟩
theorem k_ty {T : String} {e : Expr} {rest : List Expr} {pos : Pos} {Q : Value → Loc → Sto → Prop} (h : W Γ A L (spliced (backTo pos (starEach (e :: rest) env))) (fun vs m' σ' => W Γ A L (call (.type T) vs) Q m' σ') m σ)
    (h1 : starEach (e :: rest) env = (false, eval e env) :: starEach rest env := by rfl) (h2 : (backTo pos (starEach rest env)).any (·.1) = false := by rfl) : W Γ A L (callWith pos (.type T) [] (backTo pos (starEach (e :: rest) env)) []) Q m σ := ⟨fun s S => Pv.callWith_type1 (wk h S fun _ s' _ _ S' q => q.run s' S') h1 h2⟩
end

theorem g_len : ∀ P, nsIn (KB P) mainGlobals (Str.ofString "len") = some none := fun P => by kernel_rfl
theorem g_int : ∀ P, nsIn (KB P) mainGlobals (Str.ofString "int") = some none := fun P => by kernel_rfl


theorem ne_tag {σ : Sto} {a b : Addr} {o o' : AO} (e : σ a = some o) (e' : σ b = some o') (h : (o.tag == o'.tag) = false := by rfl) : a ≠ b := by
  rintro rfl; rw [e] at e'; cases e'; simp at h
theorem Stp1.getK {c a : Addr} {σ σ' : Sto} {o oc : AO} (x : Stp1 c σ σ') (hc : σ c = some oc) (e : σ a = some o) (h : (o.tag == oc.tag) = false := by rfl) : σ' a = some o := x a o e (ne_tag e hc h)

abbrev Items := List (Value → Prop)
abbrev ritO (x left : Int) : Obj := { cls := .type "range_iterator", dict := none, data := .fields #[rawInt x, rawInt left, rawInt 1], slots := #[] }
def rangeItems (x : Int) : Nat → Items
  | 0 => []
  | n + 1 => (fun v => ∃ t, v = .int x t) :: rangeItems (x + 1) n
/-- what an iterator has yet to give -/
inductive ItR (σ : Sto) (I : Addr) : Items → Prop where
  | lst {l : Addr} {i : Nat} {vs : List Value} : σ I = some (.lit l i) → σ l = some (.lst vs) → ItR σ I ((vs.drop i).map fun v => (· = v))
  | rng {x : Int} {n : Nat} : σ I = some (.raw (ritO x n)) → ItR σ I (rangeItems x n)

theorem ItR.stp {X : Addr → Prop} {σ σ' : Sto} {I : Addr} {ps : Items} (h : ItR σ I ps) (st : Stp X σ σ') : ItR σ' I ps := by
  cases h with
  | lst e1 e2 => exact .lst (st _ _ e1 (.inl rfl)) (st _ _ e2 (.inl rfl))
  | rng e => exact .rng (st _ _ e (.inl rfl))
theorem ItR.stp1 {c : Addr} {σ σ' : Sto} {I : Addr} {ps : Items} {o : AO} (h : ItR σ I ps) (st : Stp1 c σ σ') (hc : σ c = some o) (h1 : (o.tag == 7) = false := by rfl) (h2 : (o.tag == 1) = false := by rfl) (h3 : (o.tag == 5) = false := by rfl) : ItR σ' I ps := by
  cases h with
  | lst e1 e2 => exact .lst (st _ _ e1 (fun z => by (first | rw [z, hc] at e1 | rw [← z, hc] at e1); cases e1; cases h1)) (st _ _ e2 (fun z => by (first | rw [z, hc] at e2 | rw [← z, hc] at e2); cases e2; cases h2))
  | rng e => exact .rng (st _ _ e (fun z => by (first | rw [z, hc] at e | rw [← z, hc] at e); cases e; cases h3))
theorem ItR.at {σ : Sto} {I : Addr} {ps : Items} (h : ItR σ I ps) : ∃ o, σ I = some o ∧ o.fz = true ∧ o.kp = false ∧ (o.tag = 7 ∨ o.tag = 5) := by
  cases h with
  | lst e1 e2 => exact ⟨_, e1, rfl, rfl, .inl rfl⟩
  | rng e => exact ⟨_, e, rfl, rfl, .inr rfl⟩

section
variable {Γ : Cx} {A : Around} {L : Addr} {m : Loc} {σ : Sto} {env : Env} {n : Nat}

theorem it_lst {l : Addr} {vs : List Value} {Q : Value → Loc → Sto → Prop} (hl : σ l = some (.lst vs)) (h : ∀ I σ', Stp No σ σ' → σ I = none → ItR σ' I (vs.map fun v => (· = v)) → Q (.ref I) m σ') : W Γ A L (pyIter (.ref l)) Q m σ := ⟨fun s S =>
  wpAny_pyIter_list (S.lst hl) (by
    obtain ⟨S', st, fr⟩ := S.add (a := s.heap.objs.size) (o' := .lit l 0) (t := s.toks) (Nat.le_refl _) nofun (fun b o e => Heap.get?_push_of_some _ e) ⟨{ cls := .type "list_iterator", data := .fields #[.ref l, .int 0 0] }, Heap.get?_push_size _ rfl, rfl, rfl⟩
    exact ⟨m, _, S', h _ _ st fr (ItR.lst (vs := vs) (i := 0) put_self (st _ _ hl (.inl rfl)))⟩)⟩
theorem range_one {k : Int} {t : Tok} {Q : Value → Loc → Sto → Prop} (h : ∀ r σ' t₁ t₂ t₃, Stp No σ σ' → σ r = none → σ' r = some (.raw { cls := .type "range", dict := none, data := .fields #[.int 0 t₁, .int k t₂, .int 1 t₃], slots := #[] }) → Q (.ref r) m σ') :
    W Γ A L (call (.type "range") [.int k t]) Q m σ := ⟨fun s S =>
  range1_rows S.fr News.nil fun h' tk t₁ u₁ v₁ hr _ _ k' => by
    obtain ⟨S', st, fr⟩ := S.add (a := s.heap.objs.size) (t := tk) (Nat.le_refl _) nofun k' (o' := .raw _) hr
    exact ⟨m, _, S', h _ _ _ _ _ st fr put_self⟩⟩
theorem range_two {a k : Int} {t u : Tok} {Q : Value → Loc → Sto → Prop} (h : ∀ r σ' t₁ t₂ t₃, Stp No σ σ' → σ r = none → σ' r = some (.raw { cls := .type "range", dict := none, data := .fields #[.int a t₁, .int k t₂, .int 1 t₃], slots := #[] }) → Q (.ref r) m σ') :
    W Γ A L (call (.type "range") [.int a t, .int k u]) Q m σ := ⟨fun s S =>
  range2_rows S.fr News.nil fun h' tk t₁ u₁ v₁ hr _ _ k' => by
    obtain ⟨S', st, fr⟩ := S.add (a := s.heap.objs.size) (t := tk) (Nat.le_refl _) nofun k' (o' := .raw _) hr
    exact ⟨m, _, S', h _ _ _ _ _ st fr put_self⟩⟩
theorem it_rng {r : Addr} {a k : Int} {t₁ t₂ t₃ : Tok} {j : Nat} {Q : Value → Loc → Sto → Prop} (hr : σ r = some (.raw { cls := .type "range", dict := none, data := .fields #[.int a t₁, .int k t₂, .int 1 t₃], slots := #[] }))
    (ha : -1000 ≤ a ∧ a ≤ 1000) (hk : -1000 ≤ k ∧ k ≤ 1000) (hj : j = (k - a).toNat) (h : ∀ I σ', Stp No σ σ' → σ I = none → ItR σ' I (rangeItems a j) → Q (.ref I) m σ') : W Γ A L (pyIter (.ref r)) Q m σ := ⟨fun s S => by
  have hz : Builtin.Range.rangeSize a k 1 = (j : Int) := by
    unfold Builtin.Range.rangeSize
    rw [if_pos (by decide)]
    split
    · rw [Int.ediv_one]; omega
    · omega
  refine wpAny_pyIter_range (S.raw hr) (small_one (by omega) (by omega) (by omega) (by omega)) ?_
  obtain ⟨S', st, fr⟩ := S.add (a := s.heap.objs.size) (o' := .raw (ritO a j)) (t := s.toks) (Nat.le_refl _) nofun (fun b o e => Heap.get?_push_of_some _ e) (Heap.get?_push_size _ rfl)
  rw [hz]
  exact ⟨m, _, S', h _ _ st fr (ItR.rng put_self)⟩⟩
theorem it_self {I : Addr} {ps : Items} {Q : Value → Loc → Sto → Prop} (hi : ItR σ I ps) (h : Q (.ref I) m σ) : W Γ A L (pyIter (.ref I)) Q m σ := ⟨fun s S => by
  cases hi with
  | lst e1 e2 => exact wpAny_pyIter_listiter (S.lit e1) ⟨m, σ, S, h⟩
  | rng e => exact wpAny_pyIter_rangeiter (S.raw e) ⟨m, σ, S, h⟩⟩

theorem next_some {I : Addr} {p : Value → Prop} {r : Items} {Q : Option Value → Loc → Sto → Prop} (hi : ItR σ I (p :: r)) (h : ∀ v σ', p v → Stp1 I σ σ' → ItR σ' I r → Q (some v) m σ') : W Γ A L (pyNext (.ref I)) Q m σ := ⟨fun s S => by
  generalize hps : p :: r = ps at hi
  cases hi with
  | lst e1 e2 =>
    rename_i l i vs
    obtain ⟨x, hx⟩ : ∃ x, vs[i]? = some x := by
      cases hx : vs[i]? with
      | some x => exact ⟨x, rfl⟩
      | none =>
        have : vs.length ≤ i := by simpa using hx
        rw [List.drop_eq_nil_of_le this] at hps
        cases hps
    have hd : vs.drop i = x :: vs.drop (i + 1) := by
      obtain ⟨hlt, rfl⟩ := List.getElem?_eq_some_iff.mp hx
      exact List.drop_eq_getElem_cons hlt
    rw [hd, List.map_cons] at hps
    obtain ⟨rfl, rfl⟩ := List.cons.inj hps
    refine wpAny_pyNext_list_item (S.lit e1) (S.lst e2) (by simpa using hx) fun h' hit hs => ?_
    have S' := S.turn (o' := .lit l (i + 1)) (t := s.toks) e1 nofun (fun b ob hb e => (hs.2 b hb).trans e) hit
    exact ⟨m, _, S', h _ _ rfl Stp1.put (ItR.lst put_self (put_get (ne_tag e2 e1) e2))⟩
  | rng e =>
    rename_i x k
    cases k with
    | zero => cases hps
    | succ k =>
      obtain ⟨rfl, rfl⟩ := List.cons.inj hps
      refine wpAny_pyNext_range_item (S.raw e) (by omega) fun h' hit hs => ?_
      have e9 : ((k + 1 : Nat) : Int) - 1 = (k : Int) := by omega
      rw [e9] at hit
      have S' := S.turn (o' := .raw (ritO (x + 1) k)) (t := s.toks + 1) e nofun (fun b ob hb e => (hs.2 b hb).trans e) hit
      exact ⟨m, _, S', h _ _ ⟨_, rfl⟩ Stp1.put (ItR.rng put_self)⟩⟩
theorem del_stp1 {c : Addr} : Stp1 c σ (σ.del c) := fun a o e h => by rw [del_ne h]; exact e
theorem next_none {I : Addr} {Q : Option Value → Loc → Sto → Prop} (hA : Ok A n) (hi : ItR σ I []) (h : ∀ σ', Stp1 I σ σ' → Q none m σ') : W Γ A L (pyNext (.ref I)) Q m σ := ⟨fun s S => by
  generalize hps : ([] : Items) = ps at hi
  cases hi with
  | lst e1 e2 =>
    rename_i l i vs
    have : vs.length ≤ i := by
      cases hx : vs.drop i with
      | nil => simpa using hx
      | cons a b => rw [hx] at hps; cases hps
    refine wpAny_pyNext_list_end hA.h (S.lit e1) (S.lst e2) (by simpa using this) fun h' hx => ?_
    exact ⟨m, _, S.drop (t := s.toks) e1 (fun b ob hb e => hx b ob hb e), h _ del_stp1⟩
  | rng e =>
    rename_i x k
    cases k with
    | succ k => cases hps
    | zero =>
      refine wpAny_pyNext_range_end hA.h (S.raw e) (by simp) fun h' hx => ?_
      exact ⟨m, _, S.drop (t := s.toks) e (fun b ob hb e => hx b ob hb e), h _ del_stp1⟩⟩

/-- a for over what an iterator gives -/
theorem for_rule {target : Expr} {I : Addr} {body orelse : List Stmt} {Q : Flow → Loc → Sto → Prop} (hA : Ok A n) (Inv : Items → Loc → Sto → Prop)
    (step : ∀ p r m σ v σ1, Inv (p :: r) m σ → p v → Stp1 I σ σ1 → ItR σ1 I r → W Γ A L (assign target env v) (fun _ m2 σ2 => W Γ A L (execs body env) (fun f m3 σ3 => match f with
        | .next => Inv r m3 σ3 ∧ ItR σ3 I r
        | .cont => Inv r m3 σ3 ∧ ItR σ3 I r
        | .brk => Q .next m3 σ3
        | .ret v => Q (.ret v) m3 σ3) m2 σ2) m σ1)
    (done : ∀ m σ σ1, Inv [] m σ → Stp1 I σ σ1 → W Γ A L (execs orelse env) Q m σ1) (ht : ∀ v, letOwnedTupleGo target (.ref I) v = Pure.pure () := by intro _; rfl) :
    ∀ ps m σ, Inv ps m σ → ItR σ I ps → WC Γ A L (.forLoop target (.ref I) body orelse env) Q m σ := by
  intro ps
  induction ps with
  | nil => exact fun m σ hi it => c_for (next_none hA it fun σ' st => done _ _ _ hi st) ht
  | cons p r ih =>
    refine fun m σ hi it => c_for (next_some it fun v σ' hp st it' => ?_) ht
    refine W.mono (step p r m σ v σ' hi hp st it') fun _ m2 σ2 h2 => W.mono h2 fun f m3 σ3 h3 => ?_
    cases f with
    | next => exact ih _ _ h3.1 h3.2
    | cont => exact ih _ _ h3.1 h3.2
    | brk => exact h3
    | ret v => exact h3
end


theorem Keep.refl {σ : Sto} : Keep σ σ := fun _ _ e _ => e
theorem Keep.trans {σ σ' σ'' : Sto} (x : Keep σ σ') (y : Keep σ' σ'') : Keep σ σ'' := fun a o e k => y a o (x a o e k) k
theorem Keep.get {σ σ' : Sto} {a : Addr} {o : AO} (x : Keep σ σ') (e : σ a = some o) (k : o.kp = true := by rfl) : σ' a = some o := x a o e k

section
variable {Γ : Cx} {A : Around} {L : Addr} {m : Loc} {σ : Sto} {env : Env} {n : Nat}

/-- one turn of a comprehension -/
theorem c_comp {elt target iter : Expr} {scope : Scope} {pos : Pos} {it acc : Value} {Q : Flow → Loc → Sto → Prop}
    (h : W Γ A L (pyNext it) (fun r m' σ' => match r with
      | none => Q .next m' σ'
      | some v => W Γ A L (assign target env v) (fun _ m'' σ'' => W Γ A L (eval elt env) (fun y m₃ σ₃ => W Γ A L (call (.builtin "list.append") [acc, y]) (fun _ m₄ σ₄ => WC Γ A L (.compLoop (.ListComp elt [⟨target, iter, [], 0⟩] scope pos) 0 it acc env) Q m₄ σ₄) m₃ σ₃) m'' σ'') m' σ') m σ)
    (ht : ∀ v, letOwnedTupleGo target it v = Pure.pure () := by intro _; rfl) : WC Γ A L (.compLoop (.ListComp elt [⟨target, iter, [], 0⟩] scope pos) 0 it acc env) Q m σ := by
  refine ⟨fun s S => ?_⟩
  refine codeAny_of_tree ?_
  show wpAny _ _ ((compTurn (.ListComp elt [⟨target, iter, [], 0⟩] scope pos) 0 it acc env).onRaise (fun x => do noteFrame x env; theTreesLotGoes x)) _ _ s
  refine wpAny_noted (wpAny_noRaise ?_)
  rw [compTurn_list1]
  refine wpAny_bind (wpAny_standAt (wpAny_bind (wk h S fun r s₁ m₁ σ₁ S₁ h₁ => ?_)))
  cases r with
  | none => exact wpAny_pure ⟨_, _, S₁, h₁⟩
  | some v =>
    refine wpAny_bind (wpAny_of_eq (ht v) (wpAny_bind (wk h₁ S₁ fun _ s₂ m₂ σ₂ S₂ h₂ => wpAny_bind (wpAny_bind (wk h₂ S₂ fun y s₃ m₃ σ₃ S₃ h₃ => wpAny_bind (wk h₃ S₃ fun _ s₄ m₄ σ₄ S₄ h₄ => ?_))))))
    exact wpAny_pure (wpAny_pure ⟨rfl, h₄.run s₄ S₄⟩)

theorem app_acc {l : Addr} {vs : List Value} {v : Value} {Q : Value → Loc → Sto → Prop} (hl : σ l = some (.acc vs)) (h : ∀ σ', Stp1 l σ σ' → σ' l = some (.acc (vs ++ [v])) → Q .none m σ') (hz : vs.length ≤ sizeLine) : W Γ A L (call (.builtin "list.append") [.ref l, v]) Q m σ := ⟨fun s S =>
  wpAny_list_append (S.acc hl) (fun h' hl' hs => ⟨m, _, S.turn (o' := .acc (vs ++ [v])) (t := s.toks) hl nofun (fun b ob hb e => (hs.2 b hb).trans e) (by have q := hl'; simp at q; exact q), h _ Stp1.put put_self⟩) (by rw [List.size_toArray]; exact hz)⟩

/-- what a comprehension is to keep, turn by turn -/
structure CompP (Γ : Cx) (A : Around) (env : Env) (elt : Expr) (x : Str) (scope : Scope) (cl : List (Str × Addr)) (Q : Value → Sto → Prop) (σ1 : Sto) (ps : Items) (σ2 : Sto) : Prop where
  ex : ∃ (X : Addr → Prop) (Inv : Items → List Value → Sto → Prop), Inv ps [] σ2 ∧
    (∀ p r ys C mm v σ σ', Inv (p :: r) ys σ → p v → Keep σ σ' → Stp X σ1 σ' → mm x = some v → W Γ A C (eval elt (compEnvC scope cl C env)) (fun y _ σ'' => Stp X σ' σ'' ∧ Inv r (ys ++ [y]) σ'') mm σ') ∧
    (∀ ys σ a σ5, Inv [] ys σ → Stp X σ1 σ5 → Keep σ σ5 → σ5 a = some (.lst ys) → Q (.ref a) σ5)

/-- the loop of a comprehension -/
theorem comp_loop {elt iter : Expr} {x : Str} {px : Pos} {scope : Scope} {pos : Pos} {cl : List (Str × Addr)} {C D I : Addr} {X : Addr → Prop} {Inv : Items → List Value → Sto → Prop} {σ1 : Sto} {m0 : Loc} (hA : Ok A n)
    (hx : (compEnvC scope cl C env).kindOf x = some .local) (hkind : scope.kind = .function)
    (turn : ∀ p r ys C mm v σ σ', Inv (p :: r) ys σ → p v → Keep σ σ' → Stp X σ1 σ' → mm x = some v → W Γ A C (eval elt (compEnvC scope cl C env)) (fun y _ σ'' => Stp X σ' σ'' ∧ Inv r (ys ++ [y]) σ'') mm σ')
    (hI : σ1 I = none) (hD : σ1 D = none) : ∀ (ps : Items) (ys : List Value) (mm : Loc) (σu σ : Sto), ys.length + ps.length ≤ 1000 → Inv ps ys σu → Keep σu σ → σ L = some (.ns m0) → σ D = some (.acc ys) → ItR σ I ps →
      (∀ a o, σ1 a = some o → (o.fz = true ∨ ¬ X a) → σ a = some o) →
      WC Γ A C (.compLoop (.ListComp elt [⟨.Name x px, iter, [], 0⟩] scope pos) 0 (.ref I) (.ref D) (compEnvC scope cl C env)) (fun _ _ σ' => ∃ ys σu, Inv [] ys σu ∧ Keep σu σ' ∧ σ' L = some (.ns m0) ∧ σ' D = some (.acc ys) ∧ ∀ a o, σ1 a = some o → (o.fz = true ∨ ¬ X a) → σ' a = some o) mm σ := by
  intro ps
  induction ps with
  | nil =>
    intro ys mm σu σ hz hi hk hL hDa it rel
    refine c_comp (next_none hA it fun σ' st => ?_)
    obtain ⟨oI, eI, fI, kI, tagI⟩ := it.at
    have neI : ∀ a o, σ a = some o → o.kp = true → a ≠ I := fun a o e k z => by (first | rw [z, eI] at e | rw [← z, eI] at e); cases e; rw [k] at kI; cases kI
    have hIL : L ≠ I := fun z => by (first | rw [z, hL] at eI | rw [← z, hL] at eI); cases eI; simp [AO.tag] at tagI
    have hID : D ≠ I := fun z => by (first | rw [z, hDa] at eI | rw [← z, hDa] at eI); cases eI; simp [AO.tag] at tagI
    exact ⟨ys, σu, hi, fun a o e k => st a o (hk a o e k) (neI a o (hk a o e k) k), st _ _ hL hIL, st _ _ hDa hID, fun a o e c => st a o (rel a o e c) (fun z => by (first | rw [z, hI] at e | rw [← z, hI] at e); cases e)⟩
  | cons p r ih =>
    intro ys mm σu σ hz hi hk hL hDa it rel
    obtain ⟨oI, eI, fI, kI, tagI⟩ := it.at
    have neI : ∀ a o, σ a = some o → o.kp = true → a ≠ I := fun a o e k z => by (first | rw [z, eI] at e | rw [← z, eI] at e); cases e; rw [k] at kI; cases kI
    have hIL : L ≠ I := fun z => by (first | rw [z, hL] at eI | rw [← z, hL] at eI); cases eI; simp [AO.tag] at tagI
    have hID : D ≠ I := fun z => by (first | rw [z, hDa] at eI | rw [← z, hDa] at eI); cases eI; simp [AO.tag] at tagI
    refine c_comp (next_some it fun v σ' hp st it' => ?_)
    refine a_name (st_loc ?_ rfl hx (by show (scope.kind == .class || (scope.kind == .module && _)) = false; rw [hkind]; rfl))
    refine W.mono (turn p r ys C (mm.put x v) v σu σ' hi hp (fun a o e k => st a o (hk a o e k) (neI a o (hk a o e k) k)) (fun a o e c => st a o (rel a o e c) (fun z => by (first | rw [z, hI] at e | rw [← z, hI] at e); cases e)) (by simp [Loc.put])) fun y m3 σ3 h3 => ?_
    obtain ⟨s3, i3⟩ := h3
    have hD3 : σ3 D = some (.acc ys) := s3 _ _ (st _ _ hDa hID) (.inl rfl)
    have hL3 : σ3 L = some (.ns m0) := s3 _ _ (st _ _ hL hIL) (.inl rfl)
    refine app_acc hD3 (fun σ4 s4 hD4 => ?_) (Nat.le_trans (Nat.le_trans (Nat.le_add_right _ _) hz) (by decide))
    refine ih (ys ++ [y]) _ σ3 σ4 (by simp only [List.length_append, List.length_cons, List.length_nil] at hz ⊢; omega) i3 (fun a o e k => s4 a o e fun z => ?_) (s4 _ _ hL3 (ne_tag hL3 hD3)) hD4 ((it'.stp s3).stp1 s4 hD3) fun a o e c => ?_
    · (first | rw [z, hD3] at e | rw [← z, hD3] at e); cases e; cases k
    · refine s4 a o (s3 a o (st a o (rel a o e c) fun z => ?_) c) fun z => ?_
      · (first | rw [z, hI] at e | rw [← z, hI] at e); cases e
      · (first | rw [z, hD] at e | rw [← z, hD] at e); cases e
end


/-- the frame of a comprehension is left for its function's -/
theorem swapF {Γ : Cx} {C L : Addr} {m mm : Loc} {σ : Sto} {s : Shared} (S : St Γ C mm σ s) (hL : σ L = some (.ns m)) (hb : Γ.h0.objs.size ≤ L) : St Γ L m ((σ.put C (.ns mm)).del L) s := by
  have hne : L ≠ C := S.ne hL
  refine ⟨S.G, S.keep, hb, del_self, ?_, S.tabs, S.bare, S.os, S.gen⟩
  rw [del_put (put_get hne hL)]
  exact S.real

section
variable {Γ : Cx} {A : Around} {L : Addr} {m : Loc} {σ : Sto} {env : Env} {n : Nat}

theorem comp_core {elt iter : Expr} {x : Str} {px : Pos} {scope : Scope} {pos : Pos} {cl : List (Str × Addr)} {I : Addr} {ps : Items} {σ1 : Sto} {use : Option (Value → Sem Unit)} {QQ : Value → Shared → Prop} {s : Shared} {Q : Value → Sto → Prop} (hA : Ok A n)
    (hx : scope.names.lookup x = some .local) (hkind : scope.kind = .function) (hcell : ∀ y ∈ scope.names, y.2 ≠ .cell) (hz : ps.length ≤ 1000)
    (S : St Γ L m σ s) (h1 : σ1 I = none) (h12 : Stp No σ1 σ) (hi : ItR σ I ps) (P : CompP Γ A env elt x scope cl Q σ1 ps σ)
    (fin : ∀ D C s' (mC : Loc) σ5, s'.heap.Ns C mC → St Γ L m σ5 s' → σ5 C = some (.ns mC) → (∀ σ6, Stp1 C σ5 σ6 → Q (.ref D) σ6) →
      compPost (MM Γ.w) A (fun _ _ => False) use QQ (.ref D) C (.ok .next) s') :
    wpAny (MM Γ.w) A (newList []) (fun acc s₃ => wpAny (MM Γ.w) A (newFunctionEnv scope env.globals cl [] env.qual none .none (some env)) (fun cenv s₄ =>
        codeAny (MM Γ.w) A (.compStart (.ListComp elt [⟨.Name x px, iter, [], 0⟩] scope pos) 0 (.ref I) acc { cenv with scope := relabel scope env }) (compPost (MM Γ.w) A (fun _ _ => False) use QQ acc cenv.locals) s₄) (fun _ _ => False) s₃) (fun _ _ => False) s := by
  obtain ⟨X, Inv, i0, turn, done⟩ := P.ex
  refine wpAny_newList ?_ (Nat.zero_le _)
  obtain ⟨S₁, st₁, fr₁⟩ := S.add (a := s.heap.objs.size) (o' := .acc []) (t := s.toks) (Nat.le_refl _) nofun (fun b o e => Heap.get?_push_of_some _ e) ⟨{ cls := .type "list", data := .seq ([] : List Value).toArray }, Heap.get?_push_size _ rfl, rfl, 0, rfl⟩
  generalize hD : s.heap.objs.size = D at S₁ st₁ fr₁
  generalize hs1 : ({ s with heap := s.heap.push { cls := .type "list", data := .seq ([] : List Value).toArray }, toks := s.toks } : Shared) = s₁ at S₁
  show wpAny _ _ _ _ _ s₁
  refine wpAny_newFunctionEnv hcell nofun (fun h' hns hsb => ?_) hkind
  have hk : ∀ b o, s₁.heap.get? b = some o → h'.get? b = some o := fun b o e => hsb.extBut b o (Nat.ne_of_lt (Heap.lt_size e)) (Heap.get?_push_of_some _ e)
  generalize hC : s₁.heap.objs.size = C at hns ⊢
  have hLC : L ≠ C := hC ▸ Nat.ne_of_lt S₁.Llt
  have hlo : Γ.h0.objs.size ≤ C := hC ▸ Nat.le_trans S₁.ab (Nat.le_of_lt S₁.Llt)
  have frC := S₁.real.fresh (Nat.le_of_eq hC)
  have S₂ : St Γ C (fun x => ([] : List (Str × Value)).reverse.lookup x) ((σ.put D (.acc [])).put L (.ns m)) { s₁ with heap := h', toks := s₁.toks + 0 } :=
    ⟨S₁.G, fun b o e => hk b o (S₁.keep b o e), hlo, frC, S₁.real.add hlo (Nat.le_of_eq hC) nofun hk hns, S₁.tabs.keeps hk, S₁.bare, S₁.os, S₁.gen⟩
  have hDn : σ1 D = none := by
    cases z : σ1 D with
    | none => rfl
    | some o => rw [h12 _ _ z (.inr id)] at fr₁; cases fr₁
  have kp2 : Keep σ ((σ.put D (.acc [])).put L (.ns m)) := fun a o e k => put_get (S.ne e) (put_old fr₁ e)
  have hL2 : ((σ.put D (.acc [])).put L (.ns m)) L = some (.ns m) := put_self
  have hDL : D ≠ L := S₁.ne put_self
  have hD2 : ((σ.put D (.acc [])).put L (.ns m)) D = some (.acc []) := put_get hDL put_self
  have it2 : ItR ((σ.put D (.acc [])).put L (.ns m)) I ps := (hi.stp st₁).stp (put_stp S₁.off)
  have rel2 : ∀ a o, σ1 a = some o → (o.fz = true ∨ ¬ X a) → ((σ.put D (.acc [])).put L (.ns m)) a = some o := fun a o e c => by
    have e2 := h12 _ _ e (.inr id)
    exact put_get (S.ne e2) (put_old fr₁ e2)
  have loop : WC Γ A C (.compLoop (.ListComp elt [⟨.Name x px, iter, [], 0⟩] scope pos) 0 (.ref I) (.ref D) (compEnvC scope cl C env)) _ (fun x => ([] : List (Str × Value)).reverse.lookup x) ((σ.put D (.acc [])).put L (.ns m)) :=
    comp_loop (px := px) (iter := iter) (pos := pos) (L := L) (m0 := m) hA (lookup_relabel_local hx) hkind turn h1 hDn ps [] _ σ _ (by simpa using hz) i0 kp2 hL2 hD2 it2 rel2
  have fin' : ∀ s₃ : Shared, codeAny (MM Γ.w) A (.compLoop (.ListComp elt [⟨.Name x px, iter, [], 0⟩] scope pos) 0 (.ref I) (.ref D) (compEnvC scope cl C env)) (fun r s' => match r with
      | .ok _ => ∃ m' σ', St Γ C m' σ' s' ∧ ∃ ys σu, Inv [] ys σu ∧ Keep σu σ' ∧ σ' L = some (.ns m) ∧ σ' D = some (.acc ys) ∧ ∀ a o, σ1 a = some o → (o.fz = true ∨ ¬ X a) → σ' a = some o
      | .error _ => False) s₃ → codeAny (MM Γ.w) A (.compLoop (.ListComp elt [⟨.Name x px, iter, [], 0⟩] scope pos) 0 (.ref I) (.ref D) (compEnvC scope cl C env)) (compPost (MM Γ.w) A (fun _ _ => False) use QQ (.ref D) C) s₃ := fun s₃ hc =>
    codeAny_mono hc fun r s' q => by
      cases r with
      | error e => exact q.elim
      | ok f =>
        obtain ⟨mC, σ', S', ys, σu, iu, ku, eL, eD, rel⟩ := q
        have S5 := swapF S' eL S.ab
        have eD5 : ((σ'.put C (.ns mC)).del L) D = some (.acc ys) := by rw [del_ne hDL]; exact put_get (S'.ne eD) eD
        have S6 := S5.relabel (o' := .lst ys) eD5 nofun (S5.acc eD5)
        have eC6 : (((σ'.put C (.ns mC)).del L).put D (.lst ys)) C = some (.ns mC) := put_get (fun z => by subst z; rw [S'.off] at eD; cases eD) (by rw [del_ne (Ne.symm hLC)]; exact put_self)
        have := fin D C s' mC _ S'.ns S6 eC6 fun σ6 st6 => done ys σu D σ6 iu (fun a o e c => ?_) (fun a o e k => ?_) (st6 _ _ put_self fun z => by subst z; rw [S'.off] at eD; cases eD)
        · cases use with
          | none => exact this
          | some u => exact this
        · have e' := rel a o e c
          refine st6 a o ?_ (S'.ne e')
          rw [put_ne (fun z => by (first | rw [z, hDn] at e | rw [← z, hDn] at e); cases e), del_ne (fun z => by subst z; exact absurd (h12 _ _ e (.inr id)) (by rw [S.off]; exact nofun)), put_ne (S'.ne e')]
          exact e'
        · have e' := ku a o e k
          refine st6 a o ?_ (S'.ne e')
          rw [put_ne (fun z => by subst z; rw [eD] at e'; cases e'; cases k), del_ne (fun z => by subst z; rw [eL] at e'; cases e'; cases k), put_ne (S'.ne e')]
          exact e'
  refine codeAny_compStart_list (fin' _ (loop.run _ S₂)) ?_
  have sf := (it_self (Γ := Γ) (A := A) (L := C) (m := fun x => ([] : List (Str × Value)).reverse.lookup x) (Q := fun v m' σ' => v = .ref I ∧ m' = (fun x => ([] : List (Str × Value)).reverse.lookup x) ∧ σ' = ((σ.put D (.acc [])).put L (.ns m))) it2 ⟨rfl, rfl, rfl⟩).run _ S₂
  refine wpAny_mono sf (fun v s' ⟨m', σ', S', q1, q2, q3⟩ => ?_) fun _ _ e => e.elim
  subst q1 q2 q3
  exact fin' _ (loop.run _ S')

/-- a comprehension over one source, without tests -/
theorem e_comp {elt iter : Expr} {x : Str} {px : Pos} {scope : Scope} {pos : Pos} {cl : List (Str × Addr)} {Q : Value → Loc → Sto → Prop} (hA : Ok A n)
    (hclos : closureFor scope env = Pure.pure cl) (hx : scope.names.lookup x = some .local) (hkind : scope.kind = .function) (hcell : ∀ y ∈ scope.names, y.2 ≠ .cell) (hnames : ∀ y ∈ scope.names, y.2 = .local → scope.names.lookup y.1 = some .local)
    (h : W Γ A L (eval iter env) (fun xv m1 σ1 => W Γ A L (pyIter xv) (fun it m2 σ2 => ∃ I ps, it = .ref I ∧ ps.length ≤ 1000 ∧ σ1 I = none ∧ Stp No σ1 σ2 ∧ ItR σ2 I ps ∧ CompP Γ A env elt x scope cl (fun v => Q v m2) σ1 ps σ2) m1 σ1) m σ)
    (hs : ∀ x, foldedSetIterable iter env x = Pure.pure x := by intro _; with_unfolding_all rfl) : W Γ A L (eval (.ListComp elt [⟨.Name x px, iter, [], 0⟩] scope pos) env) Q m σ := ⟨fun s S => by
  show wpAny _ A (comprehension (.ListComp elt [⟨.Name x px, iter, [], 0⟩] scope pos) scope env _ (newList []) false (eval iter env)) _ _ s
  refine wpAny_comprehension_free (use := none) rfl hs hclos hkind hnames (wk h S fun xv s₁ m1 σ1 S₁ h₁ => mono1 (h₁.run s₁ S₁) fun it s₂ ⟨m2, σ2, S₂, I, ps, e, hz, e1, e2, hi, P⟩ => ?_)
  subst e
  refine comp_core hA hx hkind hcell hz S₂ e1 e2 hi P fun D C s' mC σ5 hn S5 eC hQ => ⟨mC, hn, fun h' hs' => ?_⟩
  exact ⟨m2, _, S5.drop (t := s'.toks) eC fun b ob hb e => (hs'.2 b hb).trans e, hQ _ del_stp1⟩⟩

/-- a comprehension assigned to a local -/
theorem x_asgC {elt iter : Expr} {x y : Str} {px py : Pos} {scope : Scope} {pos spos : Pos} {cl : List (Str × Addr)} {Q : Flow → Loc → Sto → Prop} (hA : Ok A n)
    (hsw : swapsWith (.ListComp elt [⟨.Name x px, iter, [], 0⟩] scope pos) (some (.Name y py)) spos.line env = Pure.pure true)
    (hclos : closureFor scope env = Pure.pure cl) (hx : scope.names.lookup x = some .local) (hkind : scope.kind = .function) (hcell : ∀ y ∈ scope.names, y.2 ≠ .cell) (hnames : ∀ y ∈ scope.names, y.2 = .local → scope.names.lookup y.1 = some .local)
    (hL : env.locals = L) (hy : env.kindOf y = some .local) (hp : (env.scope.kind == .class || (env.scope.kind == .module && env.locals != env.globals)) = false)
    (h : W Γ A L (eval iter env) (fun xv m1 σ1 => W Γ A L (pyIter xv) (fun it m2 σ2 => ∃ I ps, it = .ref I ∧ ps.length ≤ 1000 ∧ σ1 I = none ∧ Stp No σ1 σ2 ∧ ItR σ2 I ps ∧ CompP Γ A env elt x scope cl (fun v => Q .next (m2.put y v)) σ1 ps σ2) m1 σ1) m σ)
    (hs : ∀ x, foldedSetIterable iter env x = Pure.pure x := by intro _; with_unfolding_all rfl) : W Γ A L (exec (.Assign [.Name y py] (.ListComp elt [⟨.Name x px, iter, [], 0⟩] scope pos) spos) env) Q m σ := ⟨fun s S => by
  subst hL
  rw [exec_Assign_Name_used _ _ _ _ hsw]
  refine wpAny_bind (wpAny_standAt (wpAny_bind ?_))
  show wpAny _ A (do let _ ← comprehension (.ListComp elt [⟨.Name x px, iter, [], 0⟩] scope pos) scope env _ (newList []) false (eval iter env) (some (assign (.Name y py) env))) _ _ s
  refine wpAny_bind (mono1 (wpAny_comprehension_free (use := some (assign (.Name y py) env)) (Q := fun _ s' => ∃ m' σ', St Γ env.locals m' σ' s' ∧ Q .next m' σ') rfl hs hclos hkind hnames (wk h S fun xv s₁ m1 σ1 S₁ h₁ => mono1 (h₁.run s₁ S₁) fun it s₂ ⟨m2, σ2, S₂, I, ps, e, hz, e1, e2, hi, P⟩ => ?_))
    fun _ s' hq => wpAny_pure (wpAny_pure hq))
  subst e
  refine comp_core hA hx hkind hcell hz S₂ e1 e2 hi P fun D C s' mC σ5 hn S5 eC hQ => ?_
  show wpAny _ A (assign (.Name y py) env (.ref D)) _ _ s'
  refine wpAny_assign_Name (wpAny_storeName_local hy S5.ns (fun h₂ hn₂ hs₂ => ?_) hp)
  have S6 := S5.setL (t := s'.toks + 1) (m' := m2.put y (.ref D)) hn₂ hs₂
  obtain ⟨d, r⟩ := S6.at eC
  refine ⟨mC, r, fun h' hs' => ?_⟩
  exact ⟨_, _, S6.drop (t := s'.toks + 1) eC fun b ob hb e => (hs'.2 b hb).trans e, hQ _ del_stp1⟩⟩
end

section
variable {Γ : Cx} {A : Around} {L : Addr} {m : Loc} {σ : Sto} {env : Env} {n : Nat} {α : Type}
/-- a cut, the locals kept -/
theorem W.cut {t : Sem α} {Q : α → Loc → Sto → Prop} (R : α → Sto → Prop) (h : W Γ A L t (fun v m' σ' => m' = m ∧ R v σ') m σ) (k : ∀ v σ', R v σ' → Q v m σ') : W Γ A L t Q m σ :=
  h.mono fun v m' σ' ⟨e, r⟩ => by subst e; exact k v σ' r
end


/-- a tree's dict is turned; the frame's namespace may be another object of the same names -/
theorem Real.setTree2 {lo : Nat} {σ : Sto} {h : Heap} (R : Real lo σ h) {a L : Addr} {l : Str} {c : Addr} {m : Loc} (e : σ a = some (.tre l c)) (eL : σ L = some (.ns m)) :
    ∃ dx o, h.get? a = some (instObj 145 dx) ∧ h.get? dx = some o ∧ TreeDict o l c ∧ lo ≤ dx ∧ σ dx = none ∧
      ∀ h' o' l' c', (∀ b ob, b ≠ dx → b ≠ L → h.get? b = some ob → h'.get? b = some ob) → h'.Ns L m → h'.get? dx = some o' → TreeDict o' l' c' → Real lo (σ.put a (.tre l' c')) h' := by
  obtain ⟨d, r, s, t⟩ := R.ex
  obtain ⟨e1, o, e2, e3⟩ := (r _ _ e).2
  have sd := s _ _ _ e
  have haL : a ≠ L := ne_tag e eL
  have hdL : ∀ b l c, σ b = some (.tre l c) → d b ≠ L := fun b l c q z => by have := (s b l c q).2; rw [z, eL] at this; cases this
  refine ⟨d a, o, e1, e2, e3, sd.1, sd.2, fun h' o' l' c' k nL n1 n2 => ⟨d, fun b ob q => ?_, fun b l₁ c₁ q => ?_, fun b b' l₁ c₁ l₂ c₂ q q' hd => ?_⟩⟩
  · by_cases hb : b = a
    · subst hb
      rw [put_self] at q; cases q
      exact ⟨(r _ _ e).1, k _ _ (fun z => by have := sd.2; rw [← z, e] at this; cases this) haL e1, o', n1, n2⟩
    · rw [put_ne hb] at q
      by_cases hbL : b = L
      · subst hbL
        rw [eL] at q; cases q
        exact ⟨(r _ _ eL).1, nL⟩
      refine ⟨(r _ _ q).1, (r _ _ q).2.congr rfl (fun ob => k b ob (fun z => ?_) hbL) fun l₁ c₁ hl ob => k _ ob (fun z => hb ?_) ?_⟩
      · have := sd.2; rw [← z, q] at this; cases this
      · subst hl; exact t _ _ _ _ _ _ q e z
      · subst hl; exact hdL _ _ _ q
  · by_cases hb : b = a
    · subst hb
      refine ⟨sd.1, ?_⟩
      rw [put_ne (fun z => by have := sd.2; rw [z, e] at this; cases this)]
      exact sd.2
    · rw [put_ne hb] at q
      refine ⟨(s _ _ _ q).1, ?_⟩
      rw [put_ne (fun z => by have := (s _ _ _ q).2; rw [z, e] at this; cases this)]
      exact (s _ _ _ q).2
  · have un : ∀ b l c, σ.put a (.tre l' c') b = some (.tre l c) → ∃ l c, σ b = some (.tre l c) := fun b l₁ c₁ q => by
      by_cases hb : b = a
      · subst hb; exact ⟨_, _, e⟩
      · rw [put_ne hb] at q; exact ⟨_, _, q⟩
    obtain ⟨_, _, q⟩ := un _ _ _ q
    obtain ⟨_, _, q'⟩ := un _ _ _ q'
    exact t _ _ _ _ _ _ q q' hd

theorem Tabs.keeps2 {h h' : Heap} {a c : Addr} (x : Tabs h) (ha : 210 ≤ a) (hc : 210 ≤ c) (k : ∀ b o, b ≠ a → b ≠ c → h.get? b = some o → h'.get? b = some o) : Tabs h' :=
  let ⟨⟨p, a', b⟩, ⟨q, c', d⟩⟩ := x; ⟨⟨p, k _ _ (fun z => by subst z; exact absurd ha (by decide)) (fun z => by subst z; exact absurd hc (by decide)) a', b⟩, ⟨q, k _ _ (fun z => by subst z; exact absurd ha (by decide)) (fun z => by subst z; exact absurd hc (by decide)) c', d⟩⟩

/-- all that stands beyond the first heap, but for two addresses -/
def others (h0 h : Heap) (L dx : Addr) : List (Addr × Obj) := (List.range h.objs.size).filterMap fun b => if b = L ∨ b = dx ∨ (h0.get? b).isSome = true then none else (h.get? b).map fun o => (b, o)
theorem others_mem {h0 h : Heap} {L dx b : Addr} {o : Obj} : (b, o) ∈ others h0 h L dx ↔ h.get? b = some o ∧ b ≠ L ∧ b ≠ dx ∧ h0.get? b = none := by
  unfold others
  rw [List.mem_filterMap]
  constructor
  · rintro ⟨b', hb, q⟩
    split at q
    · cases q
    · rename_i hn
      obtain ⟨o', e, z⟩ := Option.map_eq_some_iff.mp q
      cases z
      refine ⟨e, fun z => hn (.inl z), fun z => hn (.inr (.inl z)), ?_⟩
      cases e9 : h0.get? b with
      | none => rfl
      | some o9 => exact absurd (.inr (.inr (by rw [e9]; rfl))) hn
  · rintro ⟨e, h1, h2, h3⟩
    refine ⟨b, List.mem_range.mpr (Heap.lt_size e), ?_⟩
    rw [if_neg (by rintro (z | z | z); exact h1 z; exact h2 z; rw [h3] at z; cases z), e]
    rfl

theorem k_setattr : ∀ P, findIn (KB P) (.ref 145) "__setattr__" = some (some (.builtin "object.__setattr__")) := fun P => by kernel_rfl
theorem k_over : ∀ P, plainOver (KB P) 145 = true := fun P => by kernel_rfl
theorem k_takeL : ∀ P, takerIn (KB P) 145 "_label" = some none := fun P => by kernel_rfl
theorem k_takeC : ∀ P, takerIn (KB P) 145 "_children" = some none := fun P => by kernel_rfl
theorem k_dict : ∀ P, hasDictIn (KB P) 145 = true := fun P => by kernel_rfl
theorem k_get : ∀ P, plainGet (KB P) 145 "" = true := fun P => by kernel_rfl
theorem k_findL : ∀ P, findIn (KB P) (.ref 145) "_label" = some none := fun P => by kernel_rfl
theorem k_findC : ∀ P, findIn (KB P) (.ref 145) "_children" = some none := fun P => by kernel_rfl
theorem k_label : ∀ P, findIn (KB P) (.ref 145) "label" = some (some (.ref 71)) := fun P => by kernel_rfl
theorem k_setlabel : ∀ P, findIn (KB P) (.ref 145) "set_label" = some (some (.ref 78)) := fun P => by kernel_rfl

section
variable {Γ : Cx} {A : Around} {L : Addr} {m : Loc} {σ : Sto} {s : Shared} {E : Value → Shared → Prop}

/-- an attribute of a Tree is stored: heaps -/
theorem set_attr {x dx : Addr} {es es' : List DictEntry} {n n' : Nat} {name : Str} {v : Value} {Q : Unit → Shared → Prop} (S : St Γ L m σ s) (hx : s.heap.get? x = some (instObj 145 dx)) (hdx : s.heap.get? dx = some (dictOf es n)) (h0 : Γ.h0.get? dx = none) (hL : dx ≠ L)
    (ht : ∀ P, takerIn (KB P) 145 name = some none) (hl : (getL name es).isSome = true) (e1 : putL name (PyData.keyHash Γ.w.params name) (.str name (s.toks + 1)) v es = es') (e2 : putN name es n = n') (hz : es'.length ≤ 1000)
    (h : ∀ h', Fr Γ.h0 L h' m → (∀ b ob, b ≠ dx → b ≠ L → s.heap.get? b = some ob → h'.get? b = some ob) → h'.get? dx = some (dictOf es' n') → Q () { s with heap := h', toks := s.toks + 2 }) :
    wpAny (MM Γ.w) A (setAttr (.ref x) name v) Q E s := by
  have I : InstAt s.heap x (instObj 145 dx) 145 (some (dictOf es n)) := ⟨hx, rfl, rfl, hdx⟩
  have N : News Γ.h0 L s.heap (others Γ.h0 s.heap L dx ++ (dx, dictOf es n) :: []) := fun p hp => by
    rcases List.mem_append.mp hp with hp | hp
    · obtain ⟨b, o⟩ := p
      obtain ⟨q1, q2, q3, q4⟩ := others_mem.mp hp
      exact ⟨q1, q2, q4⟩
    · cases List.mem_singleton.mp hp; exact ⟨hdx, hL, h0⟩
  refine set_plain S.K I (k_setattr _) (osa_dict (s := { s with toks := s.toks + 1 }) (pre := others Γ.h0 s.heap L dx) (post := []) S.fr N S.K I rfl (k_over _) (ht _) (k_dict _) hl (fun p hp => (others_mem.mp hp).2.2.1) (fun p hp => nomatch hp) (by rw [putName_dict, e1, e2]) rfl hz fun h' F' N' => h h' F' (fun b ob hb hbL q => ?_) (N' (dx, _) (by simp)).1)
  cases q0 : Γ.h0.get? b with
  | some o0 =>
    have := S.keep b o0 q0
    rw [q] at this; cases this
    exact F'.keep b ob q0
  | none => exact (N' (b, ob) (List.mem_append_left _ (others_mem.mpr ⟨q, hbL, hb, q0⟩))).1

theorem get_none_of {lo : Addr} (S : St Γ L m σ s) (h : Γ.h0.objs.size ≤ lo) : Γ.h0.get? lo = none := by
  cases q : Γ.h0.get? lo with
  | none => rfl
  | some o => exact absurd (Heap.lt_size q) (Nat.not_lt.mpr h)

theorem set_label {a : Addr} {l l' : Str} {c : Addr} {t : Tok} {Q : Unit → Loc → Sto → Prop} (ha : σ a = some (.tre l c)) (h : ∀ σ', Stp (· = a) σ σ' → σ' a = some (.tre l' c) → Q () m σ') : W Γ A L (setAttr (.ref a) "_label" (.str l' t)) Q m σ := ⟨fun s S => by
  obtain ⟨dx, o, q1, q2, ⟨h1, t1, h2, t2, tk, n, rfl⟩, q4, q5, q6⟩ := S.real.setTree2 (put_old S.off ha) put_self
  refine set_attr S q1 q2 (get_none_of S q4) (fun z => by (first | rw [z, put_self] at q5 | rw [← z, put_self] at q5); cases q5) k_takeL rfl rfl rfl (show 2 ≤ 1000 by decide) fun h' F' k n1 => ?_
  have R' := q6 h' _ l' c k F'.ns n1 ⟨h1, t1, h2, t2, t, _, rfl⟩
  rw [put_comm (S.ne ha).symm] at R'
  refine ⟨m, σ.put a (.tre l' c), ⟨S.G, F'.keep, S.ab, by rw [put_ne (S.ne ha).symm]; exact S.off, R', S.tabs.keeps2 (Nat.le_trans S.G.big q4) (Nat.le_trans S.G.big S.ab) k, S.bare, S.os, S.gen⟩, h _ (Stp.turn ha rfl) put_self⟩⟩
theorem set_kids {a : Addr} {l : Str} {c c' : Addr} {Q : Unit → Loc → Sto → Prop} (ha : σ a = some (.tre l c)) (h : ∀ σ', Stp (· = a) σ σ' → σ' a = some (.tre l c') → Q () m σ') : W Γ A L (setAttr (.ref a) "_children" (.ref c')) Q m σ := ⟨fun s S => by
  obtain ⟨dx, o, q1, q2, ⟨h1, t1, h2, t2, tk, n, rfl⟩, q4, q5, q6⟩ := S.real.setTree2 (put_old S.off ha) put_self
  refine set_attr S q1 q2 (get_none_of S q4) (fun z => by (first | rw [z, put_self] at q5 | rw [← z, put_self] at q5); cases q5) k_takeC rfl rfl rfl (show 2 ≤ 1000 by decide) fun h' F' k n1 => ?_
  have R' := q6 h' _ l c' k F'.ns n1 ⟨h1, t1, h2, t2, tk, _, rfl⟩
  rw [put_comm (S.ne ha).symm] at R'
  refine ⟨m, σ.put a (.tre l c'), ⟨S.G, F'.keep, S.ab, by rw [put_ne (S.ne ha).symm]; exact S.off, R', S.tabs.keeps2 (Nat.le_trans S.G.big q4) (Nat.le_trans S.G.big S.ab) k, S.bare, S.os, S.gen⟩, h _ (Stp.turn ha rfl) put_self⟩⟩

theorem St.tre (S : St Γ L m σ s) {a : Addr} {l : Str} {c : Addr} (ha : σ a = some (.tre l c)) : ∃ dx es n, InstAt s.heap a (instObj 145 dx) 145 (some (dictOf es n)) ∧ (∃ tk, getL "_label" es = some (some (.str l tk))) ∧ getL "_children" es = some (some (.ref c)) ∧ ∀ name, name ≠ Str.ofString "_label" → name ≠ Str.ofString "_children" → getL name es = some none := by
  obtain ⟨d, e1, o, e2, ⟨h1, t1, h2, t2, tk, n, rfl⟩⟩ := S.at ha
  refine ⟨d a, _, n, ⟨e1, rfl, rfl, e2⟩, ⟨tk, rfl⟩, rfl, fun name n1 n2 => ?_⟩
  have b1 : (Value.str (Str.ofString "_children") t1).isStr name = false := by
    show (_ == _) = false
    exact beq_eq_false_iff_ne.mpr (Ne.symm n2)
  have b2 : (Value.str (Str.ofString "_label") t2).isStr name = false := by
    show (_ == _) = false
    exact beq_eq_false_iff_ne.mpr (Ne.symm n1)
  unfold getL
  simp only [List.find?_cons, List.find?_nil, b1, b2]
  rfl
theorem get_label {a : Addr} {l : Str} {c : Addr} {expr : Bool} {Q : Value → Loc → Sto → Prop} (ha : σ a = some (.tre l c)) (h : ∀ t, Q (.str l t) m σ) : W Γ A L (getAttr (.ref a) "_label" expr) Q m σ := ⟨fun s S => by
  obtain ⟨dx, es, n, I, ⟨tk, g1⟩, g2, g3⟩ := S.tre ha
  exact get_own S.fr S.G.X I (k_get _) (k_dict _) (k_findL _) rfl g1 rfl ⟨m, σ, S.tok _, h _⟩⟩
theorem get_kids {a : Addr} {l : Str} {c : Addr} {expr : Bool} {Q : Value → Loc → Sto → Prop} (ha : σ a = some (.tre l c)) (h : Q (.ref c) m σ) : W Γ A L (getAttr (.ref a) "_children" expr) Q m σ := ⟨fun s S => by
  obtain ⟨dx, es, n, I, ⟨tk, g1⟩, g2, g3⟩ := S.tre ha
  exact get_own S.fr S.G.X I (k_get _) (k_dict _) (k_findC _) rfl g2 rfl ⟨m, σ, S.tok _, h⟩⟩
theorem m_label {a : Addr} {l : Str} {c : Addr} {pl : Sem Bool} {Q : Value × List Value → Loc → Sto → Prop} (ha : σ a = some (.tre l c)) (h : Q (.ref 71, [.ref a]) m σ) : W Γ A L (getMethod (.ref a) "label" pl) Q m σ := ⟨fun s S => by
  obtain ⟨dx, es, n, I, ⟨tk, g1⟩, g2, g3⟩ := S.tre ha
  exact method_inst S.fr S.G.X I (k_get _) (k_label _) (by kernel_rfl) (g3 _ (by decide) (by decide)) ⟨m, σ, S, h⟩⟩
theorem m_setlabel {a : Addr} {l : Str} {c : Addr} {pl : Sem Bool} {Q : Value × List Value → Loc → Sto → Prop} (ha : σ a = some (.tre l c)) (h : Q (.ref 78, [.ref a]) m σ) : W Γ A L (getMethod (.ref a) "set_label" pl) Q m σ := ⟨fun s S => by
  obtain ⟨dx, es, n, I, ⟨tk, g1⟩, g2, g3⟩ := S.tre ha
  exact method_inst S.fr S.G.X I (k_get _) (k_setlabel _) (by kernel_rfl) (g3 _ (by decide) (by decide)) ⟨m, σ, S, h⟩⟩
end


/-- an address is turned; the frame's namespace may be another object of the same names -/
theorem Real.turn2 {lo : Nat} {σ : Sto} {h h' : Heap} (R : Real lo σ h) {a L : Addr} {o o' : AO} {m : Loc} (e : σ a = some o) (eL : σ L = some (.ns m)) (ha : a ≠ L) (hn : ∀ l c, o' ≠ .tre l c)
    (k : ∀ b ob, b ≠ a → b ≠ L → h.get? b = some ob → h'.get? b = some ob) (nL : h'.Ns L m) (n : RealAt h' id a o') : Real lo (σ.put a o') h' := by
  obtain ⟨d, r, s, t⟩ := R.ex
  have nt : ∀ b l c, σ.put a o' b = some (.tre l c) → b ≠ a ∧ σ b = some (.tre l c) := fun b l c q => by
    by_cases hb : b = a
    · subst hb; rw [put_self] at q; exact absurd (Option.some.inj q) (hn l c)
    · rw [put_ne hb] at q; exact ⟨hb, q⟩
  refine ⟨d, fun b ob q => ?_, fun b l c q => ?_, fun b b' l c l' c' q q' hd => ?_⟩
  · by_cases hb : b = a
    · subst hb
      rw [put_self] at q; cases q
      refine ⟨(r _ _ e).1, ?_⟩
      cases o' with
      | tre l c => exact absurd rfl (hn l c)
      | _ => exact n
    · rw [put_ne hb] at q
      by_cases hbL : b = L
      · subst hbL; rw [eL] at q; cases q; exact ⟨(r _ _ eL).1, nL⟩
      refine ⟨(r _ _ q).1, (r _ _ q).2.congr rfl (fun ob => k b ob hb hbL) fun l c hl ob => k _ ob (fun z => ?_) fun z => ?_⟩
      · subst hl
        have := (s b l c q).2
        rw [z, e] at this; cases this
      · subst hl
        have := (s b l c q).2
        rw [z, eL] at this; cases this
  · obtain ⟨hb, q⟩ := nt b l c q
    refine ⟨(s b l c q).1, ?_⟩
    rw [put_ne (fun z => by have := (s b l c q).2; rw [z, e] at this; cases this)]
    exact (s b l c q).2
  · exact t b b' l c l' c' (nt b l c q).2 (nt b' l' c' q').2 hd

/-- an object and its dict become a tree -/
theorem Real.mkTree {lo : Nat} {σ : Sto} {h : Heap} (R : Real lo σ h) {x dx : Addr} {o : Obj} {l : Str} {c : Addr} (ex : σ x = some (.raw (instObj 145 dx))) (ed : σ dx = some (.dct o)) (ht : TreeDict o l c) : Real lo ((σ.del dx).put x (.tre l c)) h := by
  obtain ⟨d, r, s, t⟩ := R.ex
  have hne : dx ≠ x := fun z => by
    (first | rw [z, ex] at ed | rw [← z, ex] at ed); cases ed
  have un : ∀ b ob, b ≠ x → ((σ.del dx).put x (.tre l c)) b = some ob → b ≠ dx ∧ σ b = some ob := fun b ob hb q => by
    rw [put_ne hb] at q
    by_cases hd : b = dx
    · subst hd; rw [del_self] at q; cases q
    · rw [del_ne hd] at q; exact ⟨hd, q⟩
  have ndx : ((σ.del dx).put x (.tre l c)) dx = none := by rw [put_ne hne, del_self]
  refine ⟨fun b => if b = x then dx else d b, fun b ob q => ?_, fun b l' c' q => ?_, fun b b' l' c' l'' c'' q q' hd => ?_⟩
  · by_cases hb : b = x
    · subst hb
      rw [put_self] at q; cases q
      exact ⟨(r _ _ ex).1, by simpa [RealAt] using ⟨(r _ _ ex).2, o, (r _ _ ed).2, ht⟩⟩
    · obtain ⟨_, q⟩ := un _ _ hb q
      exact ⟨(r _ _ q).1, (r _ _ q).2.congr (by simp [hb]) (fun _ e => e) fun _ _ _ _ e => e⟩
  · by_cases hb : b = x
    · subst hb
      simp only [if_true]
      exact ⟨(r _ _ ed).1, ndx⟩
    · obtain ⟨_, q⟩ := un _ _ hb q
      simp only [if_neg hb]
      have sn := s _ _ _ q
      refine ⟨sn.1, ?_⟩
      rw [put_ne (fun z => by have := sn.2; rw [z, ex] at this; cases this), del_ne (fun z => by have := sn.2; rw [z, ed] at this; cases this)]
      exact sn.2
  · have cr : ∀ b l' c', b ≠ x → ((σ.del dx).put x (.tre l c)) b = some (.tre l' c') → d b ≠ dx := fun b l' c' hb q z => by
      obtain ⟨_, q⟩ := un _ _ hb q
      have := (s _ _ _ q).2; rw [z, ed] at this; cases this
    by_cases hb : b = x
    · by_cases hb' : b' = x
      · rw [hb, hb']
      · simp only [if_pos hb, if_neg hb'] at hd
        exact absurd hd.symm (cr _ _ _ hb' q')
    · by_cases hb' : b' = x
      · simp only [if_neg hb, if_pos hb'] at hd
        exact absurd hd (cr _ _ _ hb q)
      · simp only [if_neg hb, if_neg hb'] at hd
        exact t b b' _ _ _ _ (un _ _ hb q).2 (un _ _ hb' q').2 hd

theorem k_make : ∀ P, makesIn (KB P) 145 = true := fun P => by kernel_rfl
theorem k_init : ∀ P, findIn (KB P) (.ref 145) "__init__" = some (some (.ref 36)) := fun P => by kernel_rfl
theorem k_fn36 : ∀ P, typeIn (KB P) (.ref 36) = some (.type "function") := fun P => by kernel_rfl
theorem k_notStr : ∀ P, isNotIn (KB P) "str" 145 = true := fun P => by kernel_rfl
theorem k_isTree : ∀ P, isIn (KB P) (.ref 145) 145 = true := fun P => by kernel_rfl
theorem k_notT : ∀ P, kin_notT (KB P) 145 "str" = true := fun P => by kernel_rfl
theorem k_cl1 : ∀ P, findIn (KB P) (.ref 145) "__class__" = some (some (.builtin "object.__class__")) := fun P => by kernel_rfl
theorem k_cl2 : ∀ P, specialIn (KB P) (.builtin "object.__class__") "__get__" = some (some (.builtin "getset_descriptor.__get__")) := fun P => by kernel_rfl
theorem k_cl3 : ∀ P, takesIn (KB P) (.builtin "object.__class__") = some true := fun P => by kernel_rfl
theorem k_mro : ∀ P, mroIn (KB P) 145 (.type "object") = some true := fun P => by kernel_rfl

section
variable {Γ : Cx} {A : Around} {L : Addr} {m : Loc} {σ : Sto} {n : Nat}

theorem isi_ss {x : Str} {t : Tok} {Q : Value → Loc → Sto → Prop} (h : Q (.bool true) m σ) : W Γ A L (call (.builtin "isinstance") [.str x t, .type "str"]) Q m σ := ⟨fun s S => IsiPair.str_str ⟨m, σ, S, h⟩⟩
theorem isi_ii {x : Int} {t : Tok} {Q : Value → Loc → Sto → Prop} (h : Q (.bool true) m σ) : W Γ A L (call (.builtin "isinstance") [.int x t, .type "int"]) Q m σ := ⟨fun s S => call_isinstance_yes rfl rfl (by rw [isSubtype_type]; kernel_rfl) ⟨m, σ, S, h⟩⟩
theorem isi_sT {x : Str} {t : Tok} {Q : Value → Loc → Sto → Prop} (h : Q (.bool false) m σ) : W Γ A L (call (.builtin "isinstance") [.str x t, .ref 145]) Q m σ := ⟨fun s S => isn_call (P := fun _ => True) S.K (fun M => Looks.of_pure rfl) (k_notStr _) nofun trivial str_cls ⟨m, σ, S.tok _, h⟩⟩
theorem isi_TT {a : Addr} {l : Str} {c : Addr} {Q : Value → Loc → Sto → Prop} (ha : σ a = some (.tre l c)) (h : Q (.bool true) m σ) : W Γ A L (call (.builtin "isinstance") [.ref a, .ref 145]) Q m σ := ⟨fun s S => by
  obtain ⟨dx, es, n, I, _⟩ := S.tre ha
  exact isi_call S.K (fun M => I.type) (k_isTree _) nofun ⟨m, σ, S, h⟩⟩
theorem isi_Ts {a : Addr} {l : Str} {c : Addr} {Q : Value → Loc → Sto → Prop} (ha : σ a = some (.tre l c)) (h : Q (.bool false) m σ) : W Γ A L (call (.builtin "isinstance") [.ref a, .type "str"]) Q m σ := ⟨fun s S => by
  obtain ⟨dx, es, n, I, _⟩ := S.tre ha
  exact kin_callT S.K I (k_notT _) (by kernel_rfl) (k_get _) (k_dict _) (k_cl1 _) (k_cl2 _) (k_cl3 _) (k_mro _) ⟨m, σ, S.tok _, h⟩⟩
theorem isi_ls {a : Addr} {vs : List Value} {Q : Value → Loc → Sto → Prop} (ha : σ a = some (.lst vs)) (h : Q (.bool false) m σ) : W Γ A L (call (.builtin "isinstance") [.ref a, .type "str"]) Q m σ := ⟨fun s S =>
  let ⟨o, h1, h2, _⟩ := S.lst ha; IsiPair.list_str h1 h2 ⟨m, σ, S.tok _, h⟩⟩
theorem isi_us {a : Addr} {vs : List Value} {Q : Value → Loc → Sto → Prop} (ha : σ a = some (.tup vs)) (h : Q (.bool false) m σ) : W Γ A L (call (.builtin "isinstance") [.ref a, .type "str"]) Q m σ := ⟨fun s S =>
  let ⟨o, h1, h2, _⟩ := S.tup ha; IsiPair.tuple_str h1 h2 ⟨m, σ, S.tok _, h⟩⟩
theorem is_rn {a : Addr} {Q : Value → Loc → Sto → Prop} (h : Q (.bool false) m σ) : W Γ A L (compareOp .Is (.ref a) .none) Q m σ := ⟨fun s S => is_ref_none ⟨m, σ, S, h⟩⟩
theorem is_in {a : Int} {t : Tok} {Q : Value → Loc → Sto → Prop} (h : Q (.bool false) m σ) : W Γ A L (compareOp .Is (.int a t) .none) Q m σ := ⟨fun s S => is_int_none ⟨m, σ, S, h⟩⟩
theorem is_nn {Q : Value → Loc → Sto → Prop} (h : Q (.bool true) m σ) : W Γ A L (compareOp .Is .none .none) Q m σ := ⟨fun s S => is_none_none ⟨m, σ, S, h⟩⟩
theorem lst_copy {l : Addr} {vs : List Value} {Q : Value → Loc → Sto → Prop} (hl : σ l = some (.lst vs) ∨ σ l = some (.mls vs)) (hz : vs.length ≤ sizeLine) (h : ∀ a σ', Stp No σ σ' → σ a = none → σ' a = some (.lst vs) → Q (.ref a) m σ') : W Γ A L (call (.type "list") [.ref l]) Q m σ := ⟨fun s S =>
  list_copyL S.fr (hl.elim S.lst S.mls) (fun h' F' k _ n => by
    obtain ⟨S', st, fr⟩ := S.add (a := s.heap.objs.size) (o' := .lst vs) (t := s.toks) (Nat.le_refl _) nofun k n
    exact ⟨m, _, S', h _ _ st fr put_self⟩) (by rw [List.size_toArray]; exact hz)⟩
theorem lst_copyM {l : Addr} {vs : List Value} {Q : Value → Loc → Sto → Prop} (hl : σ l = some (.lst vs) ∨ σ l = some (.mls vs)) (hz : vs.length ≤ sizeLine) (h : ∀ a σ', Stp No σ σ' → σ a = none → σ' a = some (.mls vs) → Q (.ref a) m σ') : W Γ A L (call (.type "list") [.ref l]) Q m σ := ⟨fun s S =>
  list_copyL S.fr (hl.elim S.lst S.mls) (fun h' F' k _ n => by
    obtain ⟨S', st, fr⟩ := S.add (a := s.heap.objs.size) (o' := .mls vs) (t := s.toks) (Nat.le_refl _) nofun k n
    exact ⟨m, _, S', h _ _ st fr put_self⟩) (by rw [List.size_toArray]; exact hz)⟩

/-- an attribute of a raw object is stored -/
theorem set_raw {x dx : Addr} {es : List DictEntry} {n : Nat} {name : Str} {v : Value} {Q : Unit → Loc → Sto → Prop} (hx : σ x = some (.raw (instObj 145 dx))) (hdx : σ dx = some (.dct (dictOf es n)))
    (ht : ∀ P, takerIn (KB P) 145 name = some none) (hl : (getL name es).isSome = true) (e1 : ∀ hs t, (putL name hs (.str name t) v es).length ≤ 1000)
    (h : ∀ σ' hs t, Stp (· = dx) σ σ' → σ' dx = some (.dct (dictOf (putL name hs (.str name t) v es) (putN name es n))) → Q () m σ') : W Γ A L (setAttr (.ref x) name v) Q m σ := ⟨fun s S => by
  have hdL := S.ne hdx
  refine set_attr S (S.raw hx) (let ⟨_, r⟩ := S.at hdx; r) (get_none_of S (S.lo hdx)) hdL ht hl rfl rfl (e1 _ _) fun h' F' k n1 => ?_
  have R' := S.real.turn2 (o' := .dct _) (put_old S.off hdx) put_self hdL nofun k F'.ns n1
  rw [put_comm hdL.symm] at R'
  exact ⟨m, _, ⟨S.G, F'.keep, S.ab, by rw [put_ne hdL.symm]; exact S.off, R', S.tabs.keeps2 (Nat.le_trans S.G.big (S.lo hdx)) (Nat.le_trans S.G.big S.ab) k, S.bare, S.os, S.gen⟩, h _ _ _ (Stp.turn hdx rfl) put_self⟩⟩

variable {name qual : Str} {params : Arguments} {body : List Stmt} {scope : Scope} {dV kV doc pm cdv ct oc : Value} {an od : Option Addr} {osl : Array (Option Value)} {f : Addr} {vals : List Value} {binds : List (Str × Value)} {Q : Value → Loc → Sto → Prop} {s : Shared} {R : Result → Shared → Prop}
/-- the same as call_fn, of code -/
theorem code_fn (hA : Ok A (n + 1)) (S : St Γ L m σ s) (ho : ∀ P, (KB P).lookup f = some ⟨oc, od, .func (fnOf name qual params body scope dV kV doc pm an cdv ct), osl⟩) (hcd : ∀ P, codeIn (KB P) cdv qual = true)
    (hbind : ∀ s, St Γ L m σ s → BindsTo s (fnOf name qual params body scope dV kV doc pm an cdv ct) ⟨vals, []⟩ binds) (hloc : ∀ y ∈ binds, scope.names.lookup y.1 = some .local)
    (hR : ∀ v m' σ' s', St Γ L m' σ' s' → Q v m' σ' → R (.ok (.ret v)) s')
    (h : ∀ L' σ0, Stp No σ σ0 → Ok (A.deeper (envOf qual scope L' f cdv)) n → W Γ (A.deeper (envOf qual scope L' f cdv)) L' (execs body (envOf qual scope L' f cdv)) (Ret m σ σ0 Q) (fun x => binds.reverse.lookup x) σ0)
    (hcell : ∀ x ∈ scope.names, x.2 ≠ .cell := by decide) (hco : scope.isCoroutine = false := by rfl) (hgen : scope.isGenerator = false := by rfl) (hk : scope.kind = .function := by rfl) :
    codeAny (MM Γ.w) A (.call (.ref f) ⟨vals, []⟩) R s := by
  refine codeAny_call_def (fd := fnOf name qual params body scope dV kV doc pm an cdv ct) (body := body) (binds := binds) hA.room (S.K _ _ (ho _)) rfl S.nolimit (codeRec_of S.K (hcd _)) rfl (hbind s S) hcell hloc (fun h₁ hns hk₁ => ?_) hco hgen hk
  have fr := S.real.fresh (Nat.le_refl s.heap.objs.size)
  have hne : L ≠ s.heap.objs.size := Nat.ne_of_lt S.Llt
  have S₀ : St Γ s.heap.objs.size (fun x => binds.reverse.lookup x) (σ.put L (.ns m)) { s with heap := h₁, toks := s.toks + binds.length } :=
    ⟨S.G, fun b o e => hk₁ b o (S.keep b o e), Nat.le_trans S.ab (Nat.le_of_lt S.Llt), fr, S.real.add (Nat.le_trans S.ab (Nat.le_of_lt S.Llt)) (Nat.le_refl _) nofun hk₁ hns, S.tabs.keeps hk₁, S.bare, S.os, S.gen⟩
  refine wpAny_mono ((h s.heap.objs.size _ (put_stp S.off) hA.deeper).run _ S₀) (fun fl s' ⟨m', σ', S', X, st, q⟩ => ?_) fun _ _ e => e.elim
  obtain ⟨σ₃, S₃, st₃, kp⟩ := back S' S.off S.ab hne st
  have z := q σ₃ st₃ (.of kp)
  have e := hR _ _ _ _ S₃ z
  cases fl <;> exact e
end

theorem g_range : ∀ P, nsIn (KB P) mainGlobals (Str.ofString "range") = some none := fun P => by kernel_rfl
theorem g_drawn : ∀ P, nsIn (KB P) mainGlobals (Str.ofString "_law_drawn") = some (some (.ref 180)) := fun P => by kernel_rfl
theorem g_isi : ∀ P, nsIn (KB P) mainGlobals (Str.ofString "isinstance") = some none := fun P => by kernel_rfl
theorem g_str : ∀ P, nsIn (KB P) mainGlobals (Str.ofString "str") = some none := fun P => by kernel_rfl
theorem g_list : ∀ P, nsIn (KB P) mainGlobals (Str.ofString "list") = some none := fun P => by kernel_rfl
theorem g_Tree : ∀ P, nsIn (KB P) mainGlobals (Str.ofString "Tree") = some (some (.ref 145)) := fun P => by kernel_rfl
theorem g_tree : ∀ P, nsIn (KB P) mainGlobals (Str.ofString "_law_tree") = some (some (.ref 185)) := fun P => by kernel_rfl
theorem g_plain : ∀ P, nsIn (KB P) mainGlobals (Str.ofString "_law_plain") = some (some (.ref 190)) := fun P => by kernel_rfl
theorem g_told : ∀ P, nsIn (KB P) mainGlobals (Str.ofString "_law_told") = some (some (.ref 197)) := fun P => by kernel_rfl
theorem g_marked : ∀ P, nsIn (KB P) mainGlobals (Str.ofString "_law_marked") = some (some (.ref 202)) := fun P => by kernel_rfl
theorem g_next : ∀ P, nsIn (KB P) mainGlobals (Str.ofString "_law_next") = some (some (.ref 175)) := fun P => by kernel_rfl
theorem g_cnf : ∀ P, nsIn (KB P) mainGlobals (Str.ofString "chomsky_normal_form") = some (some (.ref 162)) := fun P => by kernel_rfl
theorem g_un : ∀ P, nsIn (KB P) mainGlobals (Str.ofString "un_chomsky_normal_form") = some (some (.ref 168)) := fun P => by kernel_rfl
theorem g_same : ∀ P, nsIn (KB P) mainGlobals (Str.ofString "_same") = some (some (.ref 156)) := fun P => by kernel_rfl
theorem g_all : ∀ P, nsIn (KB P) mainGlobals (Str.ofString "all") = some none := fun P => by kernel_rfl
theorem g_any : ∀ P, nsIn (KB P) mainGlobals (Str.ofString "any") = some none := fun P => by kernel_rfl
theorem g_zip : ∀ P, nsIn (KB P) mainGlobals (Str.ofString "zip") = some none := fun P => by kernel_rfl
theorem g_min : ∀ P, nsIn (KB P) mainGlobals (Str.ofString "min") = some none := fun P => by kernel_rfl
theorem g_max : ∀ P, nsIn (KB P) mainGlobals (Str.ofString "max") = some none := fun P => by kernel_rfl
theorem g_reversed : ∀ P, nsIn (KB P) mainGlobals (Str.ofString "reversed") = some none := fun P => by kernel_rfl
theorem g_tuple : ∀ P, nsIn (KB P) mainGlobals (Str.ofString "tuple") = some none := fun P => by kernel_rfl
theorem b_range : bootBuiltins "range" = some (.type "range") := by boot_fast
theorem b_int : bootBuiltins "int" = some (.type "int") := by boot_fast
theorem b_str : bootBuiltins "str" = some (.type "str") := by boot_fast
theorem b_list : bootBuiltins "list" = some (.type "list") := by boot_fast
theorem b_all : bootBuiltins "all" = some (.builtin "all") := by boot_fast
theorem b_any : bootBuiltins "any" = some (.builtin "any") := by boot_fast
theorem b_min : bootBuiltins "min" = some (.builtin "min") := by boot_fast
theorem b_max : bootBuiltins "max" = some (.builtin "max") := by boot_fast
theorem b_zip : bootBuiltins "zip" = some (.type "zip") := by boot_fast
theorem b_reversed : bootBuiltins "reversed" = some (.type "reversed") := by boot_fast

section
variable {Γ : Cx} {A : Around} {L : Addr} {m : Loc} {σ : Sto} {env : Env} {pos : Pos} {Q : Value → Loc → Sto → Prop}
theorem nr_range (h : Q (.type "range") m σ) (hg : env.globals = mainGlobals := by with_unfolding_all rfl) (hb : env.builtins = builtinsNs := by with_unfolding_all rfl) (hk : env.scope.kind = .function := by with_unfolding_all rfl) (hx : env.kindOf (Str.ofString "range") = some .globalImplicit := by with_unfolding_all rfl) : W Γ A L (eval (.Name (Str.ofString "range") pos) env) Q m σ := n_blt g_range b_range h (by decide) hg hb hk hx (by decide)
theorem nr_isinstance (h : Q (.builtin "isinstance") m σ) (hg : env.globals = mainGlobals := by with_unfolding_all rfl) (hb : env.builtins = builtinsNs := by with_unfolding_all rfl) (hk : env.scope.kind = .function := by with_unfolding_all rfl) (hx : env.kindOf (Str.ofString "isinstance") = some .globalImplicit := by with_unfolding_all rfl) : W Γ A L (eval (.Name (Str.ofString "isinstance") pos) env) Q m σ := n_blt g_isi PyProof.Rows.boot_isinstance h (by decide) hg hb hk hx (by decide)
theorem nr_str (h : Q (.type "str") m σ) (hg : env.globals = mainGlobals := by with_unfolding_all rfl) (hb : env.builtins = builtinsNs := by with_unfolding_all rfl) (hk : env.scope.kind = .function := by with_unfolding_all rfl) (hx : env.kindOf (Str.ofString "str") = some .globalImplicit := by with_unfolding_all rfl) : W Γ A L (eval (.Name (Str.ofString "str") pos) env) Q m σ := n_blt g_str b_str h (by decide) hg hb hk hx (by decide)
theorem nr_list (h : Q (.type "list") m σ) (hg : env.globals = mainGlobals := by with_unfolding_all rfl) (hb : env.builtins = builtinsNs := by with_unfolding_all rfl) (hk : env.scope.kind = .function := by with_unfolding_all rfl) (hx : env.kindOf (Str.ofString "list") = some .globalImplicit := by with_unfolding_all rfl) : W Γ A L (eval (.Name (Str.ofString "list") pos) env) Q m σ := n_blt g_list b_list h (by decide) hg hb hk hx (by decide)
theorem nr_len (h : Q (.builtin "len") m σ) (hg : env.globals = mainGlobals := by with_unfolding_all rfl) (hb : env.builtins = builtinsNs := by with_unfolding_all rfl) (hk : env.scope.kind = .function := by with_unfolding_all rfl) (hx : env.kindOf (Str.ofString "len") = some .globalImplicit := by with_unfolding_all rfl) : W Γ A L (eval (.Name (Str.ofString "len") pos) env) Q m σ := n_blt g_len boot_len h (by decide) hg hb hk hx (by decide)
theorem nr_int (h : Q (.type "int") m σ) (hg : env.globals = mainGlobals := by with_unfolding_all rfl) (hb : env.builtins = builtinsNs := by with_unfolding_all rfl) (hk : env.scope.kind = .function := by with_unfolding_all rfl) (hx : env.kindOf (Str.ofString "int") = some .globalImplicit := by with_unfolding_all rfl) : W Γ A L (eval (.Name (Str.ofString "int") pos) env) Q m σ := n_blt g_int b_int h (by decide) hg hb hk hx (by decide)
theorem nr_all (h : Q (.builtin "all") m σ) (hg : env.globals = mainGlobals := by with_unfolding_all rfl) (hb : env.builtins = builtinsNs := by with_unfolding_all rfl) (hk : env.scope.kind = .function := by with_unfolding_all rfl) (hx : env.kindOf (Str.ofString "all") = some .globalImplicit := by with_unfolding_all rfl) : W Γ A L (eval (.Name (Str.ofString "all") pos) env) Q m σ := n_blt g_all b_all h (by decide) hg hb hk hx (by decide)
theorem nr_any (h : Q (.builtin "any") m σ) (hg : env.globals = mainGlobals := by with_unfolding_all rfl) (hb : env.builtins = builtinsNs := by with_unfolding_all rfl) (hk : env.scope.kind = .function := by with_unfolding_all rfl) (hx : env.kindOf (Str.ofString "any") = some .globalImplicit := by with_unfolding_all rfl) : W Γ A L (eval (.Name (Str.ofString "any") pos) env) Q m σ := n_blt g_any b_any h (by decide) hg hb hk hx (by decide)
theorem nr_zip (h : Q (.type "zip") m σ) (hg : env.globals = mainGlobals := by with_unfolding_all rfl) (hb : env.builtins = builtinsNs := by with_unfolding_all rfl) (hk : env.scope.kind = .function := by with_unfolding_all rfl) (hx : env.kindOf (Str.ofString "zip") = some .globalImplicit := by with_unfolding_all rfl) : W Γ A L (eval (.Name (Str.ofString "zip") pos) env) Q m σ := n_blt g_zip b_zip h (by decide) hg hb hk hx (by decide)
theorem nr_min (h : Q (.builtin "min") m σ) (hg : env.globals = mainGlobals := by with_unfolding_all rfl) (hb : env.builtins = builtinsNs := by with_unfolding_all rfl) (hk : env.scope.kind = .function := by with_unfolding_all rfl) (hx : env.kindOf (Str.ofString "min") = some .globalImplicit := by with_unfolding_all rfl) : W Γ A L (eval (.Name (Str.ofString "min") pos) env) Q m σ := n_blt g_min b_min h (by decide) hg hb hk hx (by decide)
theorem nr_max (h : Q (.builtin "max") m σ) (hg : env.globals = mainGlobals := by with_unfolding_all rfl) (hb : env.builtins = builtinsNs := by with_unfolding_all rfl) (hk : env.scope.kind = .function := by with_unfolding_all rfl) (hx : env.kindOf (Str.ofString "max") = some .globalImplicit := by with_unfolding_all rfl) : W Γ A L (eval (.Name (Str.ofString "max") pos) env) Q m σ := n_blt g_max b_max h (by decide) hg hb hk hx (by decide)
theorem nr_reversed (h : Q (.type "reversed") m σ) (hg : env.globals = mainGlobals := by with_unfolding_all rfl) (hb : env.builtins = builtinsNs := by with_unfolding_all rfl) (hk : env.scope.kind = .function := by with_unfolding_all rfl) (hx : env.kindOf (Str.ofString "reversed") = some .globalImplicit := by with_unfolding_all rfl) : W Γ A L (eval (.Name (Str.ofString "reversed") pos) env) Q m σ := n_blt g_reversed b_reversed h (by decide) hg hb hk hx (by decide)
theorem nr_law_drawn (h : Q (.ref 180) m σ) (hg : env.globals = mainGlobals := by with_unfolding_all rfl) (hk : env.scope.kind = .function := by with_unfolding_all rfl) (hx : env.kindOf (Str.ofString "_law_drawn") = some .globalImplicit := by with_unfolding_all rfl) : W Γ A L (eval (.Name (Str.ofString "_law_drawn") pos) env) Q m σ := n_glob g_drawn h hg hk hx (by decide)
theorem nr_law_tree (h : Q (.ref 185) m σ) (hg : env.globals = mainGlobals := by with_unfolding_all rfl) (hk : env.scope.kind = .function := by with_unfolding_all rfl) (hx : env.kindOf (Str.ofString "_law_tree") = some .globalImplicit := by with_unfolding_all rfl) : W Γ A L (eval (.Name (Str.ofString "_law_tree") pos) env) Q m σ := n_glob g_tree h hg hk hx (by decide)
theorem nr_law_plain (h : Q (.ref 190) m σ) (hg : env.globals = mainGlobals := by with_unfolding_all rfl) (hk : env.scope.kind = .function := by with_unfolding_all rfl) (hx : env.kindOf (Str.ofString "_law_plain") = some .globalImplicit := by with_unfolding_all rfl) : W Γ A L (eval (.Name (Str.ofString "_law_plain") pos) env) Q m σ := n_glob g_plain h hg hk hx (by decide)
theorem nr_law_told (h : Q (.ref 197) m σ) (hg : env.globals = mainGlobals := by with_unfolding_all rfl) (hk : env.scope.kind = .function := by with_unfolding_all rfl) (hx : env.kindOf (Str.ofString "_law_told") = some .globalImplicit := by with_unfolding_all rfl) : W Γ A L (eval (.Name (Str.ofString "_law_told") pos) env) Q m σ := n_glob g_told h hg hk hx (by decide)
theorem nr_law_marked (h : Q (.ref 202) m σ) (hg : env.globals = mainGlobals := by with_unfolding_all rfl) (hk : env.scope.kind = .function := by with_unfolding_all rfl) (hx : env.kindOf (Str.ofString "_law_marked") = some .globalImplicit := by with_unfolding_all rfl) : W Γ A L (eval (.Name (Str.ofString "_law_marked") pos) env) Q m σ := n_glob g_marked h hg hk hx (by decide)
theorem nr_law_next (h : Q (.ref 175) m σ) (hg : env.globals = mainGlobals := by with_unfolding_all rfl) (hk : env.scope.kind = .function := by with_unfolding_all rfl) (hx : env.kindOf (Str.ofString "_law_next") = some .globalImplicit := by with_unfolding_all rfl) : W Γ A L (eval (.Name (Str.ofString "_law_next") pos) env) Q m σ := n_glob g_next h hg hk hx (by decide)
theorem nr_chomsky_normal_form (h : Q (.ref 162) m σ) (hg : env.globals = mainGlobals := by with_unfolding_all rfl) (hk : env.scope.kind = .function := by with_unfolding_all rfl) (hx : env.kindOf (Str.ofString "chomsky_normal_form") = some .globalImplicit := by with_unfolding_all rfl) : W Γ A L (eval (.Name (Str.ofString "chomsky_normal_form") pos) env) Q m σ := n_glob g_cnf h hg hk hx (by decide)
theorem nr_un_chomsky_normal_form (h : Q (.ref 168) m σ) (hg : env.globals = mainGlobals := by with_unfolding_all rfl) (hk : env.scope.kind = .function := by with_unfolding_all rfl) (hx : env.kindOf (Str.ofString "un_chomsky_normal_form") = some .globalImplicit := by with_unfolding_all rfl) : W Γ A L (eval (.Name (Str.ofString "un_chomsky_normal_form") pos) env) Q m σ := n_glob g_un h hg hk hx (by decide)
theorem nr_same (h : Q (.ref 156) m σ) (hg : env.globals = mainGlobals := by with_unfolding_all rfl) (hk : env.scope.kind = .function := by with_unfolding_all rfl) (hx : env.kindOf (Str.ofString "_same") = some .globalImplicit := by with_unfolding_all rfl) : W Γ A L (eval (.Name (Str.ofString "_same") pos) env) Q m σ := n_glob g_same h hg hk hx (by decide)
theorem nr_Tree (h : Q (.ref 145) m σ) (hg : env.globals = mainGlobals := by with_unfolding_all rfl) (hk : env.scope.kind = .function := by with_unfolding_all rfl) (hx : env.kindOf (Str.ofString "Tree") = some .globalImplicit := by with_unfolding_all rfl) : W Γ A L (eval (.Name (Str.ofString "Tree") pos) env) Q m σ := n_glob g_Tree h hg hk hx (by decide)
end


def Cx.g (Γ : Cx) (G : Array GenState) : Cx := { Γ with gs0 := G }
theorem Gd.g {Γ : Cx} (x : Gd Γ) (G : Array GenState) : Gd (Γ.g G) := ⟨x.X, x.T, x.n38, x.n165, x.big, x.B⟩
theorem Gd.ofG {Γ : Cx} {G : Array GenState} (x : Gd (Γ.g G)) : Gd Γ := ⟨x.X, x.T, x.n38, x.n165, x.big, x.B⟩
theorem St.reG {Γ : Cx} {L : Addr} {m : Loc} {σ : Sto} {s s' : Shared} (S : St Γ L m σ s) {Γ' : Cx} (e1 : Γ'.w = Γ.w) (e2 : Γ'.h0 = Γ.h0) (e3 : Γ'.os0 = Γ.os0) (h1 : s'.heap = s.heap) (h2 : s'.os = s.os) (b : AllBare s'.gens)
    (k : ∀ (i : Nat) (gs : GenState), Γ'.gs0[i]? = some gs → s'.gens[i]? = some gs) : St Γ' L m σ s' := by
  obtain ⟨w, h0, os0, gs0⟩ := Γ
  obtain ⟨w', h0', os0', gs0'⟩ := Γ'
  cases e1; cases e2; cases e3
  exact ⟨⟨S.G.X, S.G.T, S.G.n38, S.G.n165, S.G.big, S.G.B⟩, by rw [h1]; exact S.keep, S.ab, S.off, by rw [h1]; exact S.real, by rw [h1]; exact S.tabs, b, by rw [h2]; exact S.os, k⟩

theorem Ok.over {A : Around} {n : Nat} {c : Code} (x : Ok A (n + 1)) (hw : c.weight = 1) (hu : c.cUnits = 3) : Ok (A.over c []) n := by
  refine ⟨x.h, ?_, ?_⟩
  · have := x.d
    show A.depth + frameCount (([] : List Frame).map Frame.where_) + c.weight + n < _
    have e : frameCount (([] : List Frame).map Frame.where_) = 0 := rfl
    rw [e, hw]; omega
  · have := x.u
    show A.units + unitsOf (([] : List Frame).map Frame.where_) + c.cUnits + 20 * n < _
    have e : unitsOf (([] : List Frame).map Frame.where_) = 0 := rfl
    rw [e, hu]; omega

/-- what a generator expression keeps, turn by turn -/
structure GenP (Γ : Cx) (L : Addr) (m2 : Loc) (cenv : Env) (C a : Addr) (go : Obj) (target elt : Expr) (it : Value) (N : Nat) (val : Nat → Bool) (n : Nat) (Inv : Nat → Loc → Sto → Prop) (InvE : Sto → Prop) : Prop where
  own : ∀ i mm σ, Inv i mm σ → σ L = some (.ns m2) ∧ σ a = some (.raw go)
  ownE : ∀ σ, InvE σ → σ L = some (.ns m2) ∧ σ a = some (.raw go)
  self : ∀ G A' mm σ, Ok A' n → Inv 0 mm σ → W (Γ.g G) A' C (pyIter it) (fun r mm' σ' => r = it ∧ Inv 0 mm' σ') mm σ
  turn : ∀ i, i < N → ∀ G A' mm σ, Ok A' n → Inv i mm σ → W (Γ.g G) A' C (pyNext it) (fun r m3 σ3 => ∃ v, r = some v ∧ W (Γ.g G) A' C (letOwnedTupleGo target it v) (fun _ m4 σ4 => W (Γ.g G) A' C (assign target cenv v) (fun _ m5 σ5 => W (Γ.g G) A' C (eval elt cenv) (fun y mm' σ' => y = .bool (val i) ∧ Inv (i + 1) mm' σ') m5 σ5) m4 σ4) m3 σ3) mm σ
  last : ∀ G A' mm σ, Ok A' n → Inv N mm σ → W (Γ.g G) A' C (pyNext it) (fun r _ σ3 => r = none ∧ InvE σ3) mm σ

section
variable {Γ : Cx} {A : Around} {L C a : Addr} {m2 : Loc} {cenv : Env} {go : Obj} {target elt iter : Expr} {it : Value} {scope : Scope} {pos : Pos} {N n : Nat} {val : Nat → Bool} {Inv : Nat → Loc → Sto → Prop} {InvE : Sto → Prop}

def InC (Γ : Cx) (C : Addr) (Inv : Nat → Loc → Sto → Prop) (i : Nat) (s : Shared) : Prop := ∃ mm σ, St Γ C mm σ s ∧ Inv i mm σ
def gproto (Γ : Cx) (C : Addr) (Inv : Nat → Loc → Sto → Prop) (N : Nat) (val : Nat → Bool) : Protocol := fun r _ v s₁ κ => ∃ i, i + r + 1 = N ∧ v = .bool (val i) ∧ InC Γ C Inv (i + 1) s₁ ∧ ∀ s'', InC Γ C Inv (i + 1) s'' → κ (.send .none) s''
def gend (Γ : Cx) (C : Addr) (InvE : Sto → Prop) (n : Nat) (_ s₁ : Shared) : Prop := n = 0 ∧ ∃ mm σ, St Γ C mm σ s₁ ∧ InvE σ

theorem loop_weight {elt : Expr} {gs : List Comprehension} {scope : Scope} {pos : Pos} {x y : Value} {env : Env} : (Code.compLoop (.GeneratorExp elt gs scope pos) 0 x y env).weight = 1 := rfl
theorem loop_units {elt : Expr} {gs : List Comprehension} {scope : Scope} {pos : Pos} {x y : Value} {env : Env} : (Code.compLoop (.GeneratorExp elt gs scope pos) 0 x y env).cUnits = 3 := rfl
theorem start_weight {elt : Expr} {gs : List Comprehension} {scope : Scope} {pos : Pos} {x y : Value} {env : Env} : (Code.compStart (.GeneratorExp elt gs scope pos) 0 x y env).weight = 1 := rfl
theorem start_units {elt : Expr} {gs : List Comprehension} {scope : Scope} {pos : Pos} {x y : Value} {env : Env} : (Code.compStart (.GeneratorExp elt gs scope pos) 0 x y env).cUnits = 3 := rfl

theorem seg_loop {G : Array GenState} (hA : Ok A (n + 1)) (hco : cenv.scope.isCoroutine = false) (P : GenP Γ L m2 cenv C a go target elt it N val n Inv InvE) :
    ∀ (k i : Nat) (s₀ s : Shared), N - i = k → i ≤ N → InC (Γ.g G) C Inv i s →
      Seg (MM Γ.w) A (fun n s₀ r s₁ => r = .ok .next ∧ gend (Γ.g G) C InvE n s₀ s₁) (gproto (Γ.g G) C Inv N val) k s₀
        (.compLoop (.GeneratorExp elt [⟨target, iter, [], 0⟩] scope pos) 0 it .none cenv) ((MM Γ.w).den (.compLoop (.GeneratorExp elt [⟨target, iter, [], 0⟩] scope pos) 0 it .none cenv)) [] s := by
  have hO : Ok (A.over (.compLoop (.GeneratorExp elt [⟨target, iter, [], 0⟩] scope pos) 0 it .none cenv) []) n := hA.over loop_weight loop_units
  intro k
  induction k with
  | zero =>
    intro i s₀ s hk hi ⟨mm, σ, S, hI⟩
    obtain rfl : i = N := by omega
    show Seg _ A _ _ _ s₀ _ ((compTurn (.GeneratorExp elt [⟨target, iter, [], 0⟩] scope pos) 0 it .none cenv).onRaise (leaving cenv)) [] s
    rw [compTurn_gen, Sem.onRaise_eq_wrap]
    refine seg_bind_wrap (wpAny_standAt ?_)
    refine seg_bind_wrap (wpAny_mono ((P.last G _ mm σ hO hI).run s S) (fun r s' ⟨m', σ', S', e, q⟩ => ?_) fun _ _ e => e.elim)
    subst e
    exact seg_end (.ok .next) ⟨rfl, rfl, _, _, S', q⟩
  | succ k ih =>
    intro i s₀ s hk hi ⟨mm, σ, S, hI⟩
    have hlt : i < N := by omega
    show Seg _ A _ _ _ s₀ _ ((compTurn (.GeneratorExp elt [⟨target, iter, [], 0⟩] scope pos) 0 it .none cenv).onRaise (leaving cenv)) [] s
    rw [compTurn_gen, Sem.onRaise_eq_wrap]
    refine seg_bind_wrap (wpAny_standAt ?_)
    refine seg_bind_wrap (wpAny_mono ((P.turn i hlt G _ mm σ hO hI).run s S) (fun r s3 ⟨m3, σ3, S3, v, e, q⟩ => ?_) fun _ _ e => e.elim)
    subst e
    refine seg_bind_wrap (wpAny_mono (q.run s3 S3) (fun _ s4 ⟨m4, σ4, S4, q⟩ => ?_) fun _ _ e => e.elim)
    refine seg_bind_wrap (wpAny_mono (q.run s4 S4) (fun _ s5 ⟨m5, σ5, S5, q⟩ => ?_) fun _ _ e => e.elim)
    refine seg_bind_wrap (m := (forIn [] true fun c r => _ : Sem Bool)) (wpAny_pure ?_)
    simp only [if_true]
    have hy : ∀ v, yieldOut cenv v = yieldValue v := fun v => by simp only [yieldOut, hco, Bool.false_eq_true, if_false]
    simp only [hy]
    rw [Sem.bind_eq_wrap', Sem.bind_eq_wrap', Sem.wrap_wrap, Sem.wrap_wrap]
    refine seg_wrap (wpAny_mono (q.run s5 S5) (fun y s6 ⟨m6, σ6, S6, e, q⟩ => ?_) fun _ _ e => e.elim)
    refine seg_at (seg_yield rfl rfl rfl ⟨i, by omega, e, ⟨m6, σ6, S6, q⟩, fun s'' h'' => ?_⟩)
    exact seg_again rfl (ih (i + 1) s'' s'' (by omega) hlt h'')
theorem seg_start {G : Array GenState} (hA : Ok A (n + 1)) (hco : cenv.scope.isCoroutine = false) (P : GenP Γ L m2 cenv C a go target elt it N val n Inv InvE) (s₀ s : Shared) (h : InC (Γ.g G) C Inv 0 s) :
      Seg (MM Γ.w) A (fun n s₀ r s₁ => r = .ok .next ∧ gend (Γ.g G) C InvE n s₀ s₁) (gproto (Γ.g G) C Inv N val) N s₀
        (.compStart (.GeneratorExp elt [⟨target, iter, [], 0⟩] scope pos) 0 it .none cenv) ((MM Γ.w).den (.compStart (.GeneratorExp elt [⟨target, iter, [], 0⟩] scope pos) 0 it .none cenv)) [] s := by
  have hO : Ok (A.over (.compStart (.GeneratorExp elt [⟨target, iter, [], 0⟩] scope pos) 0 it .none cenv) []) n := hA.over start_weight start_units
  have loop := fun s h => seg_loop (iter := iter) (scope := scope) (pos := pos) (G := G) hA hco P N 0 s₀ s (Nat.sub_zero _) (Nat.zero_le _) h
  obtain ⟨mm, σ, S, hI⟩ := h
  have self : wpAny (MM Γ.w) (A.over (.compStart (.GeneratorExp elt [⟨target, iter, [], 0⟩] scope pos) 0 it .none cenv) []) (pyIter it) (fun r s' => r = it ∧ InC (Γ.g G) C Inv 0 s') (fun _ _ => False) s :=
    mono1 ((P.self G _ mm σ hO hI).run s S) fun r s' ⟨m', σ', S', e, q⟩ => ⟨e, _, _, S', q⟩
  show Seg _ A _ _ _ s₀ _ ((compStart (.GeneratorExp elt [⟨target, iter, [], 0⟩] scope pos) 0 it .none cenv).onRaise (leaving cenv)) [] s
  unfold compStart
  rw [Sem.onRaise_eq_wrap]
  show Seg _ A _ _ _ s₀ _ ((ask >>= _).wrap _ _ _ _) [] s
  refine seg_bind_wrap (wpAny_askSetting ?_)
  split
  · exact seg_again rfl (loop s ⟨_, _, S, hI⟩)
  · first
      | exact seg_bind_wrap (wpAny_rule (seg_bind_wrap (wpAny_standAt (seg_bind_wrap (wpAny_mono self (fun r s' ⟨e, q⟩ => by subst e; exact seg_again rfl (loop s' q)) fun _ _ e => e.elim)))))
      | (refine seg_bind_wrap (wpAny_rule ?_); show Seg _ A _ _ _ s₀ _ ((standAt iter.pos >>= _).wrap _ _ _ _) [] s; exact seg_bind_wrap (wpAny_standAt (seg_bind_wrap (wpAny_mono self (fun r s' ⟨e, q⟩ => by subst e; exact seg_again rfl (loop s' q)) fun _ _ e => e.elim))))
end

theorem bare_set {gens : Array GenState} {g : Nat} {x : GenState} (h : AllBare gens) (hx : x.bare = true) : AllBare (gens.setIfInBounds g x) := fun y hy => by
  obtain ⟨i, hi, rfl⟩ := Array.mem_iff_getElem.mp hy
  have hi' : i < gens.size := by simpa using hi
  rw [Array.getElem_setIfInBounds hi']
  split
  · exact hx
  · exact h _ (Array.getElem_mem hi')
theorem gens_lt {G gens : Array GenState} {x : GenState} (k : ∀ (i : Nat) (gs : GenState), G[i]? = some gs → gens[i]? = some gs) : ∀ (i : Nat) (gs : GenState), G[i]? = some gs → (gens.setIfInBounds G.size x)[i]? = some gs := fun i gs e => by
  have hi : i < G.size := by
    rcases Nat.lt_or_ge i G.size with h | h
    · exact h
    · rw [Array.getElem?_eq_none h] at e; cases e
  rw [Array.getElem?_setIfInBounds_ne (Nat.ne_of_gt hi)]
  exact k i gs e
theorem push_get {G : Array GenState} {x : GenState} {i : Nat} {gs : GenState} (e : G[i]? = some gs) : (G.push x)[i]? = some gs := by
  rw [Array.getElem?_push]
  split
  · rename_i h; subst h; rw [Array.getElem?_eq_none (Nat.le_refl _)] at e; cases e
  · exact e
theorem Ok.in2 {A : Around} {n : Nat} (x : Ok A (n + 2)) : Ok A.in1.in1 (n + 1) := ⟨x.h, by have := x.d; show A.depth + (n + 1) < _; omega, by have := x.u; show A.units + 1 + 1 + 20 * (n + 1) < _; omega⟩

def rest (C : Addr) (mm : Loc) (L : Addr) (σ : Sto) : Sto := (σ.put C (.ns mm)).del L
theorem rest_back {C L : Addr} {mm m2 : Loc} {σ : Sto} (hC : σ C = none) (hL : σ L = some (.ns m2)) : ((rest C mm L σ).put L (.ns m2)).del C = σ := by
  have hne : L ≠ C := fun z => by (first | rw [z, hL] at hC | rw [← z, hL] at hC); cases hC
  funext b
  unfold rest Sto.put Sto.del
  by_cases h1 : b = C
  · subst h1; simp [hC]
  · by_cases h2 : b = L
    · subst h2; simp [h1, hL]
    · simp [h1, h2]
theorem rest_get {C L b : Addr} {mm : Loc} {σ : Sto} {o : AO} (hC : σ C = none) (e : σ b = some o) (hb : b ≠ L) : rest C mm L σ b = some o := by
  unfold rest
  rw [del_ne hb, put_ne (fun z => by (first | rw [z, hC] at e | rw [← z, hC] at e); cases e)]
  exact e

section
variable {Γ : Cx} {A : Around} {L C a : Addr} {m2 : Loc} {cenv : Env} {go : Obj} {target elt iter : Expr} {it : Value} {scope : Scope} {pos : Pos} {N n : Nat} {val : Nat → Bool} {Inv : Nat → Loc → Sto → Prop} {InvE : Sto → Prop} {R : Result → Shared → Prop}

/-- a generator at rest, i items given -/
def AtR (Γ : Cx) (A : Around) (G : Array GenState) (L C : Addr) (m2 : Loc) (Inv : Nat → Loc → Sto → Prop) (InvE : Sto → Prop) (N : Nat) (val : Nat → Bool) (i : Nat) (s : Shared) : Prop :=
  ∃ mm σ gs, Inv i mm σ ∧ σ C = none ∧ Γ.h0.objs.size ≤ C ∧ St (Γ.g G) L m2 (rest C mm L σ) s ∧ s.gens[G.size]? = some gs ∧
    ∀ s'', InC (Γ.g (G.push .running)) C Inv i s'' → gs.Goes (MM Γ.w) A (fun n s₀ r s₁ => r = .ok .next ∧ gend (Γ.g (G.push .running)) C InvE n s₀ s₁) (gproto (Γ.g (G.push .running)) C Inv N val) (N - i) (.send .none) s''
/-- what is left of a generator -/
def Left (L : Addr) (Inv : Nat → Loc → Sto → Prop) (InvE : Sto → Prop) (ρ : Sto) : Prop := ∃ σ, ((∃ i mm, Inv i mm σ) ∨ InvE σ) ∧ ∀ b o, σ b = some o → b ≠ L → ρ b = some o

theorem next_gen {G : Array GenState} {i : Nat} {s : Shared} {Q : Option Value → Shared → Prop} {E : Value → Shared → Prop} (hA : Ok A 0) (hgo : ∃ nm qn, go = { cls := .type "generator", data := .fields #[.int G.size 0, nm, qn] }) (hi : i ≤ N)
    (P : GenP Γ L m2 cenv C a go target elt it N val n Inv InvE) (h : AtR Γ A.in1 G L C m2 Inv InvE N val i s)
    (k1 : i < N → ∀ s', AtR Γ A.in1 G L C m2 Inv InvE N val (i + 1) s' → Q (some (.bool (val i))) s')
    (k2 : i = N → ∀ s' ρ, St (Γ.g G) L m2 ρ s' → Left L Inv InvE ρ → Q none s') : wpAny (MM Γ.w) A (pyNext (.ref a)) Q E s := by
  obtain ⟨mm, σ, gs, hI, hC, hb, S, hgs, go9⟩ := h
  obtain ⟨hL, ha⟩ := P.own _ _ _ hI
  have haL : a ≠ L := ne_tag ha hL
  have hne : L ≠ C := fun z => by (first | rw [z, hL] at hC | rw [← z, hL] at hC); cases hC
  have ra : rest C mm L σ a = some (.raw go) := rest_get hC ha haL
  have rC : rest C mm L σ C = some (.ns mm) := by unfold rest; rw [del_ne (Ne.symm hne), put_self]
  have hg : s.heap.IsGen a G.size := by
    obtain ⟨nm, qn, rfl⟩ := hgo
    exact ⟨_, nm, qn, S.raw ra, rfl, rfl, rfl⟩
  have S1 : St (Γ.g (G.push .running)) C mm σ (s.setGen G.size .running) := by
    have := swapF S rC hb
    rw [rest_back hC hL] at this
    refine this.reG rfl rfl rfl rfl rfl (bare_set S.bare rfl) fun j gs' e9 => ?_
    show (s.gens.setIfInBounds G.size .running)[j]? = _
    have e : (G.push .running)[j]? = some gs' := e9
    clear e9
    rw [Array.getElem?_push] at e
    split at e
    · rename_i hj; rw [← Option.some.inj e, hj]; exact setGen_self (x := .running) hgs
    · exact gens_lt S.gen j gs' e
  have S9 : ∀ {mm' : Loc} {σ' : Sto} {s₁ : Shared} {x : GenState}, St (Γ.g (G.push .running)) C mm' σ' s₁ → σ' L = some (.ns m2) → x.bare = true → St (Γ.g G) L m2 (rest C mm' L σ') (s₁.setGen G.size x) := fun {mm' σ' s₁ x} S' hL' hx => by
    have := swapF S' hL' S.ab
    exact this.reG rfl rfl rfl rfl rfl (bare_set S'.bare hx) (gens_lt fun j gs' e => S'.gen j gs' (push_get e))
  have hgr : ∀ {mm' : Loc} {σ' : Sto} {s₁ : Shared}, St (Γ.g (G.push .running)) C mm' σ' s₁ → s₁.gens[G.size]? = some .running := fun S' => S'.gen _ _ (Array.getElem?_push_size ..)
  have hgo' := go9 _ ⟨mm, σ, S1, hI⟩
  refine wpAny_pyNext_genexpQ (P := fun n s₀ s₁ => gend (Γ.g (G.push .running)) C InvE n s₀ s₁) hA.h S.nolimit hA.room hg hgs hgo' (fun v s₁ gs' hbare hY => ?_) (fun s₁ hp h' hk => ?_)
  · obtain ⟨i', e, rfl, ⟨mm', σ', S', hI'⟩, hkap⟩ := hY
    have hNi : N - i ≠ 0 := by
      intro z
      rw [z] at hkap
      exact hkap s₁ ⟨mm', σ', S', hI'⟩
    obtain rfl : i' = i := by omega
    refine k1 (by omega) _ ⟨mm', σ', gs', hI', S'.off, hb, S9 S' (P.own _ _ _ hI').1 hbare, setGen_self (hgr S'), fun s'' h'' => ?_⟩
    have := hkap s'' h''
    obtain ⟨k, hk⟩ : ∃ k, N - i' = k + 1 := ⟨N - i' - 1, by omega⟩
    rw [hk] at this
    have e2 : N - (i' + 1) = k := by omega
    rw [e2]
    exact this
  · obtain ⟨e0, mm', σ', S', hE⟩ := hp
    have S9' := (S9 S' (P.ownE _ hE).1 (x := .finished) rfl).grow (h' := h') (t := s₁.toks) hk
    exact k2 (by omega) _ _ S9' ⟨σ', .inr hE, fun b o e hbL => rest_get S'.off e hbL⟩

theorem all_loop {G : Array GenState} (hA : Ok A 1) (hgo : ∃ nm qn, go = { cls := .type "generator", data := .fields #[.int G.size 0, nm, qn] }) (P : GenP Γ L m2 cenv C a go target elt it N val n Inv InvE) :
    ∀ (k i : Nat) (s : Shared), N - i = k → i ≤ N → AtR Γ A.in1.in1 G L C m2 Inv InvE N val i s →
      (∀ s' ρ, St (Γ.g G) L m2 ρ s' → Left L Inv InvE ρ → R (.ok (.ret (.bool (((List.range N).drop i).all val)))) s') → codeAny (MM Γ.w) A (.builtin "all.loop" ⟨[.ref a], []⟩) R s := by
  intro k
  induction k with
  | zero =>
    intro i s hk hi h hR
    obtain rfl : i = N := by omega
    refine codeAny_builtin PySem.F.entry_all_loop ?_
    rw [Around.under_plainId PySem.F.plain_all_loop _]
    show wpAny _ A.in1 (pyNext (.ref a) >>= _) _ _ s
    refine wpAny_bind (next_gen hA.in1 hgo hi P h (fun z => absurd z (Nat.lt_irrefl _)) fun _ s' ρ S' l => ?_)
    refine wpAny_bind (wpAny_rule (wpAny_pure ?_))
    have := hR s' ρ S' l
    rw [List.drop_of_length_le (by simp)] at this
    exact this
  | succ k ih =>
    intro i s hk hi h hR
    have hlt : i < N := by omega
    have hd : (List.range N).drop i = i :: (List.range N).drop (i + 1) := by
      rw [List.drop_eq_getElem_cons (by simpa using hlt)]; simp
    refine codeAny_builtin PySem.F.entry_all_loop ?_
    rw [Around.under_plainId PySem.F.plain_all_loop _]
    show wpAny _ A.in1 (pyNext (.ref a) >>= _) _ _ s
    refine wpAny_bind (next_gen hA.in1 hgo hi P h (fun _ s' h' => ?_) fun z => by omega)
    refine wpAny_bind (wpAny_holding (wpAny_truthy_bool ?_))
    refine wpAny_bind (wpAny_letGo ?_)
    cases hb : val i with
    | true =>
      simp only [if_true]
      refine wpAny_pure ⟨plainId_quiet PySem.F.plain_all_loop _, ih (i + 1) _ (by omega) hlt h' fun s'' ρ S'' l => ?_⟩
      have := hR s'' ρ S'' l
      rw [hd, List.all_cons, hb, Bool.true_and] at this
      exact this
    | false =>
      simp only [Bool.false_eq_true, if_false]
      refine wpAny_bind (wpAny_rule (wpAny_pure ?_))
      obtain ⟨mm, σ, gs, hI, hC, hb', S', _⟩ := h'
      have := hR _ _ S' ⟨σ, .inl ⟨_, _, hI⟩, fun b o e hbL => rest_get hC e hbL⟩
      rw [hd, List.all_cons, hb, Bool.false_and] at this
      exact this
theorem any_loop {G : Array GenState} (hA : Ok A 1) (hgo : ∃ nm qn, go = { cls := .type "generator", data := .fields #[.int G.size 0, nm, qn] }) (P : GenP Γ L m2 cenv C a go target elt it N val n Inv InvE) :
    ∀ (k i : Nat) (s : Shared), N - i = k → i ≤ N → AtR Γ A.in1.in1 G L C m2 Inv InvE N val i s →
      (∀ s' ρ, St (Γ.g G) L m2 ρ s' → Left L Inv InvE ρ → R (.ok (.ret (.bool (((List.range N).drop i).any val)))) s') → codeAny (MM Γ.w) A (.builtin "any.loop" ⟨[.ref a], []⟩) R s := by
  intro k
  induction k with
  | zero =>
    intro i s hk hi h hR
    obtain rfl : i = N := by omega
    refine codeAny_builtin PySem.F.entry_any_loop ?_
    rw [Around.under_plainId PySem.F.plain_any_loop _]
    show wpAny _ A.in1 (pyNext (.ref a) >>= _) _ _ s
    refine wpAny_bind (next_gen hA.in1 hgo hi P h (fun z => absurd z (Nat.lt_irrefl _)) fun _ s' ρ S' l => ?_)
    refine wpAny_bind (wpAny_rule (wpAny_pure ?_))
    have := hR s' ρ S' l
    rw [List.drop_of_length_le (by simp)] at this
    exact this
  | succ k ih =>
    intro i s hk hi h hR
    have hlt : i < N := by omega
    have hd : (List.range N).drop i = i :: (List.range N).drop (i + 1) := by
      rw [List.drop_eq_getElem_cons (by simpa using hlt)]; simp
    refine codeAny_builtin PySem.F.entry_any_loop ?_
    rw [Around.under_plainId PySem.F.plain_any_loop _]
    show wpAny _ A.in1 (pyNext (.ref a) >>= _) _ _ s
    refine wpAny_bind (next_gen hA.in1 hgo hi P h (fun _ s' h' => ?_) fun z => by omega)
    refine wpAny_bind (wpAny_holding (wpAny_truthy_bool ?_))
    refine wpAny_bind (wpAny_letGo ?_)
    cases hb : val i with
    | false =>
      simp only [Bool.false_eq_true, if_false]
      refine wpAny_pure ⟨plainId_quiet PySem.F.plain_any_loop _, ih (i + 1) _ (by omega) hlt h' fun s'' ρ S'' l => ?_⟩
      have := hR s'' ρ S'' l
      rw [hd, List.any_cons, hb, Bool.false_or] at this
      exact this
    | true =>
      simp only [if_true]
      refine wpAny_bind (wpAny_rule (wpAny_pure ?_))
      obtain ⟨mm, σ, gs, hI, hC, hb', S', _⟩ := h'
      have := hR _ _ S' ⟨σ, .inl ⟨_, _, hI⟩, fun b o e hbL => rest_get hC e hbL⟩
      rw [hd, List.any_cons, hb, Bool.true_or] at this
      exact this
end

section
variable {Γ : Cx} {A : Around} {L : Addr} {m : Loc} {σ : Sto} {s : Shared} {E : Value → Shared → Prop}

/-- the two code objects with tables, and their tables -/
def CodeT (c P : Addr) : Prop := (c = 42 ∧ P = 38) ∨ (c = 167 ∧ P = 165)
theorem St.code (S : St Γ L m σ s) {c P : Addr} (h : CodeT c P) : ∃ ps, s.heap.IsCode c P ps ∧ s.heap.TableAt c P ps := by
  obtain ⟨⟨ps, e1, e2⟩, ⟨ps', e3, e4⟩⟩ := S.tabs
  rcases h with ⟨rfl, rfl⟩ | ⟨rfl, rfl⟩
  · have hk := S.K 42 _ rfl
    exact ⟨ps, ⟨_, _, _, _, _, _, _, _, _, _, hk, rfl, rfl, rfl, rfl, rfl, rfl, e1, rfl, e2, by decide⟩, ⟨_, _, hk, rfl, rfl, rfl⟩, e1⟩
  · have hk := S.K 167 _ rfl
    exact ⟨ps', ⟨_, _, _, _, _, _, _, _, _, _, hk, rfl, rfl, rfl, rfl, rfl, rfl, e3, rfl, e4, by decide⟩, ⟨_, _, hk, rfl, rfl, rfl⟩, e3⟩
theorem IsCode.trip {h : Heap} {c P : Addr} {ps : Array Value} (x : h.IsCode c P ps) : TriplesOk ps.toList := let ⟨_, _, _, _, _, _, _, _, _, _, _, _, _, _, _, _, _, _, _, t, _⟩ := x; t

theorem gcode {env : Env} {c P : Addr} {pos : Pos} {q : Str} {scope : Scope} {K : Value → Shared → Prop} (S : St Γ L m σ s) (hT : CodeT c P) (hc : env.code = .ref c)
    (h : ∀ code s', St Γ L m σ s' → s'.gens = s.gens → K code s') : wpAny (MM Γ.w) A (genexprCode env pos q scope) K E s := by
  obtain ⟨ps, h1, h2⟩ := S.code hT
  cases hf : codeAmong pos ps.toList with
  | some c' => exact wpAny_genexprCode_hit hc h1 hf (h _ _ S rfl)
  | none =>
    refine wpAny_genexprCodeX hc h1 h2 hf fun c' h' tk hx _ _ hC _ hT' _ => h _ _ ?_ rfl
    have hP : P < 210 ∧ Γ.h0.get? P = none := by
      rcases hT with ⟨_, rfl⟩ | ⟨_, rfl⟩
      · exact ⟨by decide, S.G.n38⟩
      · exact ⟨by decide, S.G.n165⟩
    have nP : ∀ b, Γ.h0.objs.size ≤ b → b ≠ P := fun b hb z => by subst z; exact absurd (Nat.le_trans S.G.big hb) (Nat.not_le.mpr hP.1)
    refine ⟨S.G, fun b o e => hx b o (fun z => by subst z; rw [hP.2] at e; cases e) (S.keep b o e), S.ab, S.off, ?_, ?_, S.bare, S.os, S.gen⟩
    · obtain ⟨d, r, q1, q2⟩ := S.real.ex
      exact ⟨d, fun a o e => ⟨(r a o e).1, (r a o e).2.congr rfl (fun ob => hx a ob (nP a (r a o e).1)) fun l c hl ob => hx _ ob (nP _ (q1 a l c (hl ▸ e)).1)⟩, q1, q2⟩
    · obtain ⟨⟨p1, e1, e2⟩, ⟨p2, e3, e4⟩⟩ := S.tabs
      rcases hT with ⟨rfl, rfl⟩ | ⟨rfl, rfl⟩
      · exact ⟨⟨_, hT'.2, IsCode.trip hC⟩, ⟨p2, hx _ _ (by decide) e3, e4⟩⟩
      · exact ⟨⟨p1, hx _ _ (by decide) e1, e2⟩, ⟨_, hT'.2, IsCode.trip hC⟩⟩

variable {env : Env} {elt target iter : Expr} {scope : Scope} {pos pos2 : Pos} {cl : List (Str × Addr)} {c P : Addr} {n : Nat} {Q : Value → Loc → Sto → Prop}

/-- what the rule of a generator expression asks -/
def GenAsk (Γ : Cx) (env : Env) (elt target : Expr) (scope : Scope) (cl : List (Str × Addr)) (L : Addr) (n : Nat) (fold : Nat → (Nat → Bool) → Bool) (Q : Value → Loc → Sto → Prop) (it : Value) (m2 : Loc) (σ2 : Sto) : Prop :=
  ∀ code C a go σ3, σ3 C = none → L ≠ C → σ2 L = none → (∀ b o, σ2 b = some o → σ3 b = some o) → σ2 C = none → σ2 a = none → σ3 L = some (.ns m2) → σ3 a = some (.raw go) →
    ∃ N val Inv InvE, Inv 0 (fun y => if y = ".0" then some it else none) σ3 ∧ GenP Γ L m2 (genEnv scope cl C code builtinsNs env) C a go target elt it N val n Inv InvE ∧
      ∀ ρ, Left L Inv InvE ρ → Q (.bool (fold N val)) m2 ρ

theorem gen_make (hA : Ok A (n + 2)) (hT : CodeT c P) (hc : env.code = .ref c) (hgl : env.globals = mainGlobals) (hbl : env.builtins = builtinsNs)
    (hco : scope.isCoroutine = false) (hclos : closureFor scope env = Pure.pure cl) (hcell : ∀ y ∈ scope.names, y.2 ≠ .cell) (h0 : scope.names.lookup (".0" : Str) = some NameKind.local) (hkind : scope.kind = .function)
    (hs : ∀ x, genFold iter env x = Pure.pure x) {fold : Nat → (Nat → Bool) → Bool} {K : Value → Shared → Prop}
    (S : St Γ L m σ s)
    (h : W Γ A L (eval iter env) (fun xv m1 σ1 => W Γ A L (pyIter xv) (fun it m2 σ2 => GenAsk Γ env elt target scope cl L n fold Q it m2 σ2) m1 σ1) m σ)
    (k : ∀ a s' G C m2 cenv go it N val Inv InvE, (∃ nm qn, go = { cls := .type "generator", data := .fields #[.int G.size 0, nm, qn] }) → s'.heap.IsGen a G.size → GenP Γ L m2 cenv C a go target elt it N val n Inv InvE →
      AtR Γ A.in1.in1 G L C m2 Inv InvE N val 0 s' → (∀ (i : Nat) (gs : GenState), Γ.gs0[i]? = some gs → G[i]? = some gs) → (∀ ρ, Left L Inv InvE ρ → Q (.bool (fold N val)) m2 ρ) → K (.ref a) s') :
    wpAny (MM Γ.w) A (eval (.GeneratorExp elt [⟨target, iter, [], 0⟩] scope pos) env) K (fun _ _ => False) s := by
  refine wpAny_GeneratorExp_make hco hclos hcell h0 hkind hA.room (wk h S fun xv s₁ m1 σ1 S₁ h₁ => wk h₁ S₁ fun it s₂ m2 σ2 S₂ h₂ => ⟨S₂.nolimit, gcode S₂ hT hc fun code s₃ S₃ _ => ?_⟩) hs
  obtain ⟨mg, bm, ob, M⟩ := S₃.G.B
  have M' := M.keeps S₃.keep
  refine wpAny_builtinsFor (by rw [hgl]; exact M'.ns) M'.name M'.ne M'.obj M'.cls M'.dict M'.data fun h' hn hsb => ?_
  have hk : ∀ b o, s₃.heap.get? b = some o → h'.get? b = some o := fun b o e => hsb.extBut b o (Nat.ne_of_lt (Heap.lt_size e)) (Heap.get?_push_of_some _ e)
  have hsz : h'.objs.size = s₃.heap.objs.size + 1 := by rw [hsb.1, Heap.size_push]
  obtain ⟨S4, st4, fr4⟩ := S₃.add (a := s₃.heap.objs.size) (o' := .ns (fun y => if y = ".0" then some it else none)) (t := s₃.toks) (Nat.le_refl _) nofun hk hn
  generalize hgo : ({ cls := .type "generator", data := .fields #[.int s₃.gens.size 0, .str "<genexpr>" (s₃.toks + 1), .str (env.qual ++ "<genexpr>") (s₃.toks + 1 + 1)] } : Obj) = go
  obtain ⟨S5, st5, fr5⟩ := S4.add (a := h'.objs.size) (o' := .raw go) (t := s₃.toks + 1 + 1 + 1) (Nat.le_refl _) nofun (fun b o e => Heap.get?_push_of_some _ e) (h' := h'.push go) (Heap.get?_push_size _ (by rw [← hgo]; rfl))
  have fra : σ2 h'.objs.size = none := by
    cases q : σ2 h'.objs.size with
    | none => rfl
    | some o => rw [st4 _ _ q (.inr id)] at fr5; cases fr5
  have hLC : L ≠ s₃.heap.objs.size := Nat.ne_of_lt S₃.Llt
  have hCa : s₃.heap.objs.size ≠ h'.objs.size := Nat.ne_of_lt (by rw [hsz]; exact Nat.lt_succ_self _)
  have hLa : L ≠ h'.objs.size := Nat.ne_of_lt (by rw [hsz]; exact Nat.lt_succ_of_lt S₃.Llt)
  have hCb : Γ.h0.objs.size ≤ s₃.heap.objs.size := Nat.le_trans S₃.ab (Nat.le_of_lt S₃.Llt)
  generalize hC : s₃.heap.objs.size = C at *
  generalize ha : h'.objs.size = a at *
  have gC : s₃.gens = s₃.gens := rfl
  let σ3 : Sto := (((σ2.put C (.ns (fun y => if y = ".0" then some it else none))).put a (.raw go)).put L (.ns m2)).del C
  have e3C : σ3 C = none := del_self
  have e3L : σ3 L = some (.ns m2) := by show Sto.del _ _ _ = _; rw [del_ne hLC, put_self]
  have e3a : σ3 a = some (.raw go) := by show Sto.del _ _ _ = _; rw [del_ne hCa.symm, put_ne hLa.symm, put_self]
  have e3 : ∀ b o, σ2 b = some o → σ3 b = some o := fun b o e => by
    have n1 : b ≠ C := fun z => by (first | rw [z, fr4] at e | rw [← z, fr4] at e); cases e
    have n2 : b ≠ L := fun z => by subst z; rw [S₃.off] at e; cases e
    have n3 : b ≠ a := fun z => by (first | rw [z, fra] at e | rw [← z, fra] at e); cases e
    show Sto.del _ _ _ = _
    rw [del_ne n1, put_ne n2, put_ne n3, put_ne n1]; exact e
  obtain ⟨N, val, Inv, InvE, i0, P, fin⟩ := h₂ code C a go σ3 e3C hLC S₃.off e3 fr4 fra e3L e3a
  have er : rest C (fun y => if y = ".0" then some it else none) L σ3 = ((σ2.put C (.ns (fun y => if y = ".0" then some it else none))).put a (.raw go)) := by
    funext b
    show (if b = L then none else if b = C then _ else if b = C then none else if b = L then some (AO.ns m2) else if b = a then _ else if b = C then _ else σ2 b) = if b = a then _ else if b = C then _ else σ2 b
    by_cases h1 : b = L
    · subst h1; simp [hLC, hLa, S₃.off]
    · by_cases h2 : b = C
      · subst h2; simp [h1, hCa]
      · simp [h1, h2]
  have hgo' : ∃ nm qn, go = { cls := .type "generator", data := .fields #[.int s₃.gens.size 0, nm, qn] } := ⟨_, _, hgo.symm⟩
  refine k a _ s₃.gens C m2 _ go it N val Inv InvE hgo' ?_ P ⟨_, σ3, _, i0, e3C, hCb, ?_, Array.getElem?_push_size .., fun s'' h'' => ⟨rfl, seg_start (hA.in2) hco P s'' s'' h''⟩⟩ S₃.gen fin
  · obtain ⟨nm, qn, e⟩ := hgo'
    refine ⟨go, nm, qn, ?_, by rw [e], by rw [e], by rw [e]⟩
    show (h'.push _).get? a = _
    rw [← ha]; exact Heap.get?_push_size _ (by rw [e]; rfl)
  · rw [er]
    refine S5.reG rfl rfl rfl rfl rfl (S₃.bare.push rfl) fun i gs e => push_get e

theorem e_all (hA : Ok A (n + 2)) (hT : CodeT c P) (hc : env.code = .ref c) (hgl : env.globals = mainGlobals) (hbl : env.builtins = builtinsNs)
    (hco : scope.isCoroutine = false) (hclos : closureFor scope env = Pure.pure cl) (hcell : ∀ y ∈ scope.names, y.2 ≠ .cell) (h0 : scope.names.lookup (".0" : Str) = some NameKind.local) (hkind : scope.kind = .function)
    (hs : ∀ x, genFold iter env x = Pure.pure x)
    (h : W Γ A L (eval iter env) (fun xv m1 σ1 => W Γ A L (pyIter xv) (fun it m2 σ2 => GenAsk Γ env elt target scope cl L n (fun N val => (List.range N).all val) Q it m2 σ2) m1 σ1) m σ) :
    W Γ A L (callWith pos2 (.builtin "all") [] (backTo pos2 (starEach [.GeneratorExp elt [⟨target, iter, [], 0⟩] scope pos] env)) []) Q m σ := ⟨fun s S =>
  callWith_method1 (spliced_more (gen_make (Q := Q) hA hT hc hgl hbl hco hclos hcell h0 hkind hs S h fun a s' G C m2 cenv go it N val Inv InvE hgo hg P hR hG fin => spliced_none (by
    refine call_function_tree PySem.F.kind_all PySem.F.plain_all PySem.F.entry_all (PySem.F.args_all1 _) ?_
    unfold Builtin.«all»
    refine wpAny_bind (m := oneArg "all" _) (wpAny_pure ?_)
    refine wpAny_bind (wpAny_pyIter_gen hg ?_)
    refine wpAny_pure ⟨plainId_quiet PySem.F.plain_all_loop _, all_loop (hA.mono (by omega)) hgo P N 0 s' rfl (Nat.zero_le _) hR fun s'' ρ S'' l => ?_⟩
    exact ⟨m2, ρ, S''.reG rfl rfl rfl rfl rfl S''.bare fun i gs e => S''.gen i gs (hG i gs e), by simpa using fin ρ l⟩)) rfl) rfl rfl⟩
theorem e_any (hA : Ok A (n + 2)) (hT : CodeT c P) (hc : env.code = .ref c) (hgl : env.globals = mainGlobals) (hbl : env.builtins = builtinsNs)
    (hco : scope.isCoroutine = false) (hclos : closureFor scope env = Pure.pure cl) (hcell : ∀ y ∈ scope.names, y.2 ≠ .cell) (h0 : scope.names.lookup (".0" : Str) = some NameKind.local) (hkind : scope.kind = .function)
    (hs : ∀ x, genFold iter env x = Pure.pure x)
    (h : W Γ A L (eval iter env) (fun xv m1 σ1 => W Γ A L (pyIter xv) (fun it m2 σ2 => GenAsk Γ env elt target scope cl L n (fun N val => (List.range N).any val) Q it m2 σ2) m1 σ1) m σ) :
    W Γ A L (callWith pos2 (.builtin "any") [] (backTo pos2 (starEach [.GeneratorExp elt [⟨target, iter, [], 0⟩] scope pos] env)) []) Q m σ := ⟨fun s S =>
  callWith_method1 (spliced_more (gen_make (Q := Q) hA hT hc hgl hbl hco hclos hcell h0 hkind hs S h fun a s' G C m2 cenv go it N val Inv InvE hgo hg P hR hG fin => spliced_none (by
    refine call_function_tree PySem.F.kind_any PySem.F.plain_any PySem.F.entry_any (PySem.F.args_any1 _) ?_
    unfold Builtin.«any»
    refine wpAny_bind (m := oneArg "any" _) (wpAny_pure ?_)
    refine wpAny_bind (wpAny_pyIter_gen hg ?_)
    refine wpAny_pure ⟨plainId_quiet PySem.F.plain_any_loop _, any_loop (hA.mono (by omega)) hgo P N 0 s' rfl (Nat.zero_le _) hR fun s'' ρ S'' l => ?_⟩
    exact ⟨m2, ρ, S''.reG rfl rfl rfl rfl rfl S''.bare fun i gs e => S''.gen i gs (hG i gs e), by simpa using fin ρ l⟩)) rfl) rfl rfl⟩
end

theorem k_eqf : ∀ P, findIn (KB P) (.ref 145) (cmpInfo .Eq).2.1 = some (some (.ref 43)) := fun P => by kernel_rfl
theorem k_fn43 : ∀ P, isFn (KB P) (.ref 43) = true := fun P => by kernel_rfl
theorem k_nf : ∀ P, notFirst (KB P) 145 (.ref 145) = true := fun P => by kernel_rfl

/-- several addresses are turned or new -/
theorem St.multi {Γ : Cx} {L : Addr} {m : Loc} {σ σ' : Sto} {s : Shared} (S : St Γ L m σ s) (X : Addr → Prop) {h' : Heap} {t : Nat} (hX : ∀ b, X b → (∃ o, σ b = some o) ∨ s.heap.objs.size ≤ b)
    (k : ∀ b ob, ¬ X b → s.heap.get? b = some ob → h'.get? b = some ob) (e1 : ∀ b, ¬ X b → σ' b = σ b) (e2 : ∀ b o, X b → σ' b = some o → (∀ x c, o ≠ .tre x c) ∧ RealAt h' id b o) : St Γ L m σ' { s with heap := h', toks := t } := by
  have lo : ∀ b, X b → Γ.h0.objs.size ≤ b := fun b hb => by
    rcases hX b hb with ⟨o, e⟩ | h
    · exact S.lo e
    · exact Nat.le_trans S.ab (Nat.le_of_lt (Nat.lt_of_lt_of_le S.Llt h))
  have hL : ¬ X L := fun hl => by
    rcases hX L hl with ⟨o, e⟩ | h
    · rw [S.off] at e; cases e
    · exact absurd S.Llt (Nat.not_lt.mpr h)
  have k0 : ∀ b o, Γ.h0.get? b = some o → ¬ X b := fun b o e hb => absurd (Heap.lt_size e) (Nat.not_lt.mpr (lo b hb))
  have kt : ∀ b, b < 210 → ¬ X b := fun b hb hx => absurd (Nat.le_trans S.G.big (lo b hx)) (Nat.not_le.mpr hb)
  obtain ⟨⟨p, x1, x2⟩, ⟨p', y1, y2⟩⟩ := S.tabs
  refine ⟨S.G, fun b o e => k b o (k0 b o e) (S.keep b o e), S.ab, by rw [e1 L hL]; exact S.off, ?_, ⟨⟨p, k _ _ (kt _ (by decide)) x1, x2⟩, ⟨p', k _ _ (kt _ (by decide)) y1, y2⟩⟩, S.bare, S.os, S.gen⟩
  obtain ⟨d, r, q1, q2⟩ := S.real.ex
  have old : ∀ b, ¬ X b → σ'.put L (.ns m) b = σ.put L (.ns m) b := fun b hb => by
    unfold Sto.put
    split
    · rfl
    · exact e1 b hb
  have nt : ∀ b x c, σ'.put L (.ns m) b = some (.tre x c) → ¬ X b ∧ σ.put L (.ns m) b = some (.tre x c) := fun b x c q => by
    by_cases hb : X b
    · rw [put_ne (fun z => by subst z; exact hL hb)] at q
      exact absurd rfl ((e2 b _ hb q).1 x c)
    · exact ⟨hb, (old b hb).symm.trans q⟩
  have dX : ∀ b x c, σ.put L (.ns m) b = some (.tre x c) → ¬ X (d b) := fun b x c q hx => by
    have z := (q1 b x c q).2
    rcases hX _ hx with ⟨o, e⟩ | h
    · rw [put_ne (fun z => by rw [z, S.off] at e; cases e), e] at z; cases z
    · obtain ⟨_, ob, e2, _⟩ := (r _ _ q).2
      exact absurd (Heap.lt_size e2) (Nat.not_lt.mpr h)
  refine ⟨d, fun b o q => ?_, fun b x c q => ?_, fun b b' x c x' c' q q' => q2 b b' _ _ _ _ (nt _ _ _ q).2 (nt _ _ _ q').2⟩
  · by_cases hb : X b
    · rw [put_ne (fun z => by subst z; exact hL hb)] at q
      obtain ⟨n1, n2⟩ := e2 b o hb q
      refine ⟨lo b hb, ?_⟩
      cases o with
      | tre x c => exact absurd rfl (n1 x c)
      | _ => exact n2
    · rw [old b hb] at q
      exact ⟨(r _ _ q).1, (r _ _ q).2.congr rfl (fun ob => k b ob hb) fun l c hl ob => k _ ob (dX b l c (hl ▸ q))⟩
  · obtain ⟨hb, q⟩ := nt b x c q
    exact ⟨(q1 b x c q).1, (old _ (dX b x c q)).trans (q1 b x c q).2⟩

structure Zp where
  z : Addr
  TI : Addr
  TO : Addr
  i1 : Addr
  i2 : Addr
  l1 : Addr
  l2 : Addr
def Zp.mv (Z : Zp) (b : Addr) : Prop := b = Z.z ∨ b = Z.TO ∨ b = Z.i1 ∨ b = Z.i2
def zipO (Z : Zp) (v : Value) : Obj := { cls := .type "zip", dict := none, data := .fields #[v, .bool false, .bool false, .ref Z.TI, .ref Z.TO], slots := #[] }
def pairO (a b : Value) : Obj := { cls := .type "tuple", data := .seq #[a, b] }
/-- a zip of two lists, j pairs given; v tells the tuple handed out -/
structure ItZ (σ : Sto) (Z : Zp) (xs ys : List Value) (j : Nat) (v : Value) : Prop where
  z : σ Z.z = some (.raw (zipO Z v))
  TI : σ Z.TI = some (.raw (pairO (.ref Z.i1) (.ref Z.i2)))
  TO : ∃ p q, σ Z.TO = some (.raw (pairO p q))
  i1 : σ Z.i1 = some (.lit Z.l1 j)
  i2 : σ Z.i2 = some (.lit Z.l2 j)
  l1 : σ Z.l1 = some (.lst xs)
  l2 : σ Z.l2 = some (.lst ys)
  TIz : Z.TI ≠ Z.z
  TOz : Z.TO ≠ Z.z
  TITO : Z.TI ≠ Z.TO
  i12 : Z.i1 ≠ Z.i2
theorem ItZ.apart {σ : Sto} {Z : Zp} {xs ys : List Value} {j : Nat} {v : Value} (x : ItZ σ Z xs ys j v) : ZipApart Z.z Z.TI Z.TO Z.i1 Z.i2 Z.l1 Z.l2 := by
  obtain ⟨p, q, hTO⟩ := x.TO
  exact ⟨x.TIz, x.TOz, ne_tag x.i1 x.z, ne_tag x.i2 x.z, x.TITO, ne_tag x.TI x.i1, ne_tag x.TI x.i2, ne_tag hTO x.i1, ne_tag hTO x.i2, x.i12,
    ne_tag x.l1 x.z, ne_tag x.l1 hTO, ne_tag x.l1 x.i1, ne_tag x.l1 x.i2, ne_tag x.l2 x.z, ne_tag x.l2 hTO, ne_tag x.l2 x.i1, ne_tag x.l2 x.i2⟩
theorem ItZ.keep {σ σ' : Sto} {Z : Zp} {xs ys : List Value} {j : Nat} {v : Value} (x : ItZ σ Z xs ys j v) (k : ∀ b o, σ b = some o → (o.tag = 5 ∨ o.tag = 7 ∨ o.tag = 1) → σ' b = some o) : ItZ σ' Z xs ys j v := by
  obtain ⟨p, q, hTO⟩ := x.TO
  exact ⟨k _ _ x.z (.inl rfl), k _ _ x.TI (.inl rfl), ⟨p, q, k _ _ hTO (.inl rfl)⟩, k _ _ x.i1 (.inr (.inl rfl)), k _ _ x.i2 (.inr (.inl rfl)), k _ _ x.l1 (.inr (.inr rfl)), k _ _ x.l2 (.inr (.inr rfl)), x.TIz, x.TOz, x.TITO, x.i12⟩

section
variable {Γ : Cx} {A : Around} {L : Addr} {m : Loc} {σ : Sto} {n : Nat} {Z : Zp} {xs ys : List Value} {j : Nat}

theorem zip_new {l1 l2 : Addr} {Q : Value → Loc → Sto → Prop} (h1 : σ l1 = some (.lst xs)) (h2 : σ l2 = some (.lst ys)) (h : ∀ (Z : Zp) σ', Stp No σ σ' → (∀ b, Z.mv b → σ b = none) → ItZ σ' Z xs ys 0 .none → Q (.ref Z.z) m σ') : W Γ A L (call (.type "zip") [.ref l1, .ref l2]) Q m σ := ⟨fun s S => by
  have a1 := S.lt h1
  have a2 := S.lt h2
  refine call_zip_2 (S.lst h1) (S.lst h2) fun h' hz hTI hTO hi1 hi2 hsz hk => ?_
  have fr : ∀ k, σ (s.heap.objs.size + k) = none := fun k => by
    have := S.real.fresh (Nat.le_add_right s.heap.objs.size k)
    rwa [put_ne (fun z => by have := S.Llt; rw [← z] at this; exact absurd this (Nat.not_lt.mpr (Nat.le_add_right _ _)))] at this
  generalize hn : s.heap.objs.size = n at *
  let Z : Zp := ⟨n + 4, n + 2, n + 3, n, n + 1, l1, l2⟩
  let σ' : Sto := fun (b : Nat) => if b = n + 4 then some (.raw (zipO Z .none)) else if b = n + 2 then some (.raw (pairO (.ref n) (.ref (n + 1)))) else if b = n + 3 then some (.raw (pairO .none .none)) else if b = n then some (.lit l1 0) else if b = n + 1 then some (.lit l2 0) else σ b
  have out : ∀ b o, σ b = some o → σ' b = some o := fun (b : Nat) o e => by
    have hb : b < n := hn ▸ S.lt e
    show (if b = n + 4 then _ else if b = n + 2 then _ else if b = n + 3 then _ else if b = n then _ else if b = n + 1 then _ else σ b) = _
    rw [if_neg (by omega), if_neg (by omega), if_neg (by omega), if_neg (by omega), if_neg (by omega)]; exact e
  have S' : St Γ L m σ' { s with heap := h', toks := s.toks } := S.multi (fun (b : Nat) => n ≤ b ∧ b ≤ n + 4) (fun b hb => .inr (hn ▸ hb.1)) (fun b ob _ e => hk b ob e)
    (fun (b : Nat) hb => by
      show (if b = n + 4 then _ else if b = n + 2 then _ else if b = n + 3 then _ else if b = n then _ else if b = n + 1 then _ else σ b) = _
      rw [if_neg (by omega), if_neg (by omega), if_neg (by omega), if_neg (by omega), if_neg (by omega)])
    (fun (b : Nat) o hb e0 => by
      have e : (if b = n + 4 then some (AO.raw (zipO Z .none)) else if b = n + 2 then some (.raw (pairO (.ref n) (.ref (n + 1)))) else if b = n + 3 then some (.raw (pairO .none .none)) else if b = n then some (.lit l1 0) else if b = n + 1 then some (.lit l2 0) else σ b) = some o := e0
      clear e0
      split at e
      · rename_i hb'; subst hb'; cases e; exact ⟨nofun, hz⟩
      split at e
      · rename_i hb'; subst hb'; cases e; exact ⟨nofun, hTI⟩
      split at e
      · rename_i hb'; subst hb'; cases e; exact ⟨nofun, hTO⟩
      split at e
      · rename_i hb'; subst hb'; cases e; exact ⟨nofun, hi1⟩
      split at e
      · rename_i hb'; subst hb'; cases e; exact ⟨nofun, hi2⟩
      · omega)
  refine ⟨m, σ', S', h Z σ' (fun a o e _ => out a o e) (fun b hb => ?_) ⟨if_pos rfl, ?_, ⟨.none, .none, ?_⟩, ?_, ?_, out _ _ h1, out _ _ h2, ?_, ?_, ?_, ?_⟩⟩
  · rcases hb with rfl | rfl | rfl | rfl
    · exact fr 4
    · exact fr 3
    · exact fr 0
    · exact fr 1
  · show σ' (n + 2) = _
    simp [σ', Z]
  · show σ' (n + 3) = _
    simp [σ', Z]
  · show σ' n = _
    simp [σ', Z]
  · show σ' (n + 1) = _
    simp [σ', Z]
  · exact Nat.ne_of_lt (Nat.add_lt_add_left (by decide) n)
  · exact Nat.ne_of_lt (Nat.add_lt_add_left (by decide) n)
  · exact Nat.ne_of_lt (Nat.add_lt_add_left (by decide) n)
  · exact Nat.ne_of_lt (Nat.lt_succ_self n)⟩
theorem zip_item {x y : Value} {Q : Option Value → Loc → Sto → Prop} (hz : ItZ σ Z xs ys j .none) (hx : xs[j]? = some x) (hy : ys[j]? = some y)
    (h : ∀ T σ', (∀ b o, σ b = some o → ¬ Z.mv b → σ' b = some o) → σ T = none → σ' T = some (.tup [x, y]) → ItZ σ' Z xs ys (j + 1) (rawInt T) → Q (some (.ref T)) m σ') : W Γ A L (pyNext (.ref Z.z)) Q m σ := ⟨fun s S => by
  have D := hz.apart
  obtain ⟨p, q, hTO⟩ := hz.TO
  refine wpAny_pyNext_zip_item D (S.raw hz.z) (S.raw hz.TI) (S.raw hTO) (S.lit hz.i1) (S.lit hz.i2) (S.lst hz.l1) (S.lst hz.l2) (by simpa using hx) (by simpa using hy) fun h' a1 a2 a3 a4 a5 a6 hk => ?_
  have hT : σ s.heap.objs.size = none := by
    have := S.real.fresh (Nat.le_refl s.heap.objs.size)
    rwa [put_ne (fun z => by have := S.Llt; rw [← z] at this; exact absurd this (Nat.lt_irrefl _))] at this
  generalize hTe : s.heap.objs.size = T at *
  have nT : ∀ {b o}, σ b = some o → b ≠ T := fun e z => by (first | rw [z, hT] at e | rw [← z, hT] at e); cases e
  let σ' : Sto := ((((σ.put Z.i2 (.lit Z.l2 (j + 1))).put Z.i1 (.lit Z.l1 (j + 1))).put Z.TO (.raw (pairO x y))).put Z.z (.raw (zipO Z (rawInt T)))).put T (.tup [x, y])
  have g1 : σ' T = some (.tup [x, y]) := put_self
  have g2 : σ' Z.z = some (.raw (zipO Z (rawInt T))) := by show Sto.put _ _ _ _ = _; rw [put_ne (nT hz.z), put_self]
  have g3 : σ' Z.TO = some (.raw (pairO x y)) := by show Sto.put _ _ _ _ = _; rw [put_ne (nT hTO), put_ne D.TOz, put_self]
  have g4 : σ' Z.i1 = some (.lit Z.l1 (j + 1)) := by show Sto.put _ _ _ _ = _; rw [put_ne (nT hz.i1), put_ne D.i1z, put_ne D.TOi1.symm, put_self]
  have g5 : σ' Z.i2 = some (.lit Z.l2 (j + 1)) := by show Sto.put _ _ _ _ = _; rw [put_ne (nT hz.i2), put_ne D.i2z, put_ne D.TOi2.symm, put_ne D.i12.symm, put_self]
  have g6 : ∀ b, ¬ (Z.mv b ∨ b = T) → σ' b = σ b := fun b hb => by
    show Sto.put _ _ _ _ = _
    rw [put_ne (fun z => hb (.inr z)), put_ne (fun z => hb (.inl (.inl z))), put_ne (fun z => hb (.inl (.inr (.inl z)))), put_ne (fun z => hb (.inl (.inr (.inr (.inl z))))), put_ne (fun z => hb (.inl (.inr (.inr (.inr z)))))]
  have out : ∀ b o, σ b = some o → ¬ Z.mv b → σ' b = some o := fun b o e hb => by rw [g6 b (fun z => z.elim hb (nT e))]; exact e
  clear_value σ'
  have S' : St Γ L m σ' { s with heap := h', toks := s.toks } := S.multi (fun b => Z.mv b ∨ b = T)
    (fun b hb => by
      rcases hb with (rfl | rfl | rfl | rfl) | rfl
      · exact .inl ⟨_, hz.z⟩
      · exact .inl ⟨_, hTO⟩
      · exact .inl ⟨_, hz.i1⟩
      · exact .inl ⟨_, hz.i2⟩
      · exact .inr (Nat.le_of_eq hTe))
    (fun b ob hb e => hk b ob (fun z => hb (.inl (.inl z))) (fun z => hb (.inl (.inr (.inl z)))) (fun z => hb (.inl (.inr (.inr (.inl z))))) (fun z => hb (.inl (.inr (.inr (.inr z))))) e) g6
    (fun b o hb e => by
      rcases hb with (rfl | rfl | rfl | rfl) | rfl
      · rw [g2] at e; cases e; exact ⟨nofun, a1⟩
      · rw [g3] at e; cases e; exact ⟨nofun, a2⟩
      · rw [g4] at e; cases e; exact ⟨nofun, a3⟩
      · rw [g5] at e; cases e; exact ⟨nofun, a4⟩
      · rw [g1] at e; cases e; exact ⟨nofun, ⟨_, a5, rfl, _, rfl⟩⟩)
  exact ⟨m, σ', S', h T σ' out hT g1 ⟨g2, out _ _ hz.TI (fun z => by rcases z with z | z | z | z; exact D.TIz z; exact D.TITO z; exact D.TIi1 z; exact D.TIi2 z), ⟨x, y, g3⟩, g4, g5,
    out _ _ hz.l1 (fun z => by rcases z with z | z | z | z; exact D.l1z z; exact D.l1TO z; exact D.l1i1 z; exact D.l1i2 z),
    out _ _ hz.l2 (fun z => by rcases z with z | z | z | z; exact D.l2z z; exact D.l2TO z; exact D.l2i1 z; exact D.l2i2 z), hz.TIz, hz.TOz, hz.TITO, hz.i12⟩⟩⟩
theorem zip_go {elts : List Expr} {k : Nat} {pos : Pos} {T : Addr} {Q : Unit → Loc → Sto → Prop} (hz : ItZ σ Z xs ys j (rawInt T)) (h : ∀ σ', (∀ b o, σ b = some o → ¬ Z.mv b → σ' b = some o) → ItZ σ' Z xs ys j .none → Q () m σ') :
    W Γ A L (letOwnedTupleGo (.Tuple elts k pos) (.ref Z.z) (.ref T)) Q m σ := ⟨fun s S => by
  refine wpAny_letOwnedTupleGo_zip (S.raw hz.z) fun h' hz' hs' => ?_
  have S' := S.turn (o' := .raw (zipO Z .none)) (t := s.toks) hz.z nofun (fun b ob hb e => (hs'.2 b hb).trans e) hz'
  obtain ⟨p, q, hTO⟩ := hz.TO
  have D := hz.apart
  exact ⟨m, _, S', h _ (fun b o e hb => put_get (fun z => hb (.inl z)) e) ⟨put_self, put_get hz.TIz hz.TI, ⟨p, q, put_get hz.TOz hTO⟩, put_get D.i1z hz.i1, put_get D.i2z hz.i2, put_get D.l1z hz.l1, put_get D.l2z hz.l2, hz.TIz, hz.TOz, hz.TITO, hz.i12⟩⟩⟩
theorem zip_self {Q : Value → Loc → Sto → Prop} {v : Value} (hz : ItZ σ Z xs ys j v) (h : Q (.ref Z.z) m σ) : W Γ A L (pyIter (.ref Z.z)) Q m σ := ⟨fun s S => wpAny_pyIter_zip (S.raw hz.z) ⟨m, σ, S, h⟩⟩
theorem zip_end {Q : Option Value → Loc → Sto → Prop} (hA : Ok A n) (hz : ItZ σ Z xs ys j .none) (he : xs[j]? = none ∨ ys[j]? = none) (h : ∀ σ', (∀ b o, σ b = some o → ¬ Z.mv b → σ' b = some o) → Q none m σ') : W Γ A L (pyNext (.ref Z.z)) Q m σ := ⟨fun s S => by
  have D := hz.apart
  obtain ⟨p, q, hTO⟩ := hz.TO
  refine wpAny_pyNext_zip_end hA.h D (S.raw hz.z) (S.raw hz.TI) (S.raw hTO) (S.lit hz.i1) (S.lit hz.i2) (S.lst hz.l1) (S.lst hz.l2) (by simpa using he) fun h' hk => ?_
  let σ' : Sto := (((σ.del Z.i2).del Z.i1).del Z.TO).del Z.z
  have g6 : ∀ b, ¬ Z.mv b → σ' b = σ b := fun b hb => by
    show Sto.del _ _ _ = _
    rw [del_ne (fun z => hb (.inl z)), del_ne (fun z => hb (.inr (.inl z))), del_ne (fun z => hb (.inr (.inr (.inl z)))), del_ne (fun z => hb (.inr (.inr (.inr z))))]
  have g7 : ∀ b, Z.mv b → σ' b = none := fun b hb => by
    show Sto.del _ _ _ = _
    unfold Sto.del
    rcases hb with rfl | rfl | rfl | rfl <;> simp
  clear_value σ'
  have S' : St Γ L m σ' { s with heap := h', toks := s.toks } := S.multi Z.mv
    (fun b hb => by
      rcases hb with rfl | rfl | rfl | rfl
      · exact .inl ⟨_, hz.z⟩
      · exact .inl ⟨_, hTO⟩
      · exact .inl ⟨_, hz.i1⟩
      · exact .inl ⟨_, hz.i2⟩)
    (fun b ob hb e => hk b ob (fun z => hb (.inl z)) (fun z => hb (.inr (.inl z))) (fun z => hb (.inr (.inr (.inl z)))) (fun z => hb (.inr (.inr (.inr z)))) e) g6
    (fun b o hb e => by rw [g7 b hb] at e; cases e)
  exact ⟨m, σ', S', h σ' fun b o e hb => (g6 b hb).trans e⟩⟩
theorem e_and {e₁ e₂ : Expr} {rest : List Expr} {pos : Pos} {env : Env} {Q : Value → Loc → Sto → Prop} (h : W Γ A L (eval e₁ env) (fun v m' σ' => W Γ A L (truthy v) (fun c m'' σ'' => if c = true then W Γ A L (eval (.BoolOp .And (e₂ :: rest) pos) env) Q m'' σ'' else Q v m'' σ'') m' σ') m σ) :
    W Γ A L (eval (.BoolOp .And (e₁ :: e₂ :: rest) pos) env) Q m σ := ⟨fun s S => BoolOp_and (wk h S fun v s' _ _ S' q => wk q S' fun c s'' _ _ S'' q => by
    cases c with
    | true => simp only [if_true] at q ⊢; exact q.run s'' S''
    | false => simp only [Bool.false_eq_true, if_false] at q ⊢; exact ⟨_, _, S'', q⟩)⟩
theorem e_or {e₁ e₂ : Expr} {rest : List Expr} {pos : Pos} {env : Env} {Q : Value → Loc → Sto → Prop} (h : W Γ A L (eval e₁ env) (fun v m' σ' => W Γ A L (truthy v) (fun c m'' σ'' => if c = true then Q v m'' σ'' else W Γ A L (eval (.BoolOp .Or (e₂ :: rest) pos) env) Q m'' σ'') m' σ') m σ) :
    W Γ A L (eval (.BoolOp .Or (e₁ :: e₂ :: rest) pos) env) Q m σ := ⟨fun s S => BoolOp_or (wk h S fun v s' _ _ S' q => wk q S' fun c s'' _ _ S'' q => by
    cases c with
    | false => simp only [Bool.false_eq_true, if_false] at q ⊢; exact q.run s'' S''
    | true => simp only [if_true] at q ⊢; exact ⟨_, _, S'', q⟩)⟩
theorem e_bone {op : BoolOp} {e : Expr} {pos : Pos} {env : Env} {Q : Value → Loc → Sto → Prop} (h : W Γ A L (eval e env) Q m σ) : W Γ A L (eval (.BoolOp op [e] pos) env) Q m σ := ⟨fun s S => BoolOp_one (h.run s S)⟩
/-- == of two trees calls Tree.__eq__ -/
theorem cmp_tre {a b c d : Addr} {l l' : Str} {Q : Value → Loc → Sto → Prop} (hA : Ok A n) (ha : σ a = some (.tre l c)) (hb : σ b = some (.tre l' d)) (h : W Γ A L (call (.ref 43) [.ref a, .ref b]) (fun v m' σ' => ∃ x, v = .bool x ∧ Q (.bool x) m' σ') m σ) :
    W Γ A L (compareOp .Eq (.ref a) (.ref b)) Q m σ := ⟨fun s S => by
  obtain ⟨dx, es, k, I, _⟩ := S.tre ha
  obtain ⟨dx', es', k', I', _⟩ := S.tre hb
  refine cmp_ofEq (cmp_K hA.units S.fr S.G.X I I'.type (k_nf _) (k_eqf _) (k_fn43 _) (mono1 (h.run s S) fun v s' ⟨m', σ', S', x, e, q⟩ => ?_))
  subst e
  exact ⟨m', σ', S', q⟩⟩
end

theorem erase_mid (p q : List Value) (y : Value) : ((p ++ y :: q).toArray).eraseIdxIfInBounds p.length = (p ++ q).toArray := PySem.W.kl_erase p q y
section
variable {Γ : Cx} {A : Around} {L : Addr} {m : Loc} {σ : Sto} {s : Shared} {n : Nat} {l : Addr} {vs : List Value}
theorem St.pls (S : St Γ L m σ s) (e : σ l = some (.pls vs)) : ∃ n, s.heap.get? l = some { cls := .type "list", data := .seq vs.toArray n } := let ⟨_, r⟩ := S.at e; r
theorem newP {Q : Value → Loc → Sto → Prop} (h : ∀ a σ', Stp No σ σ' → σ a = none → σ' a = some (.pls vs) → Q (.ref a) m σ') (hz : vs.length ≤ sizeLine := by size_fits) : W Γ A L (newList vs) Q m σ := ⟨fun s S =>
  wpAny_newList (by
    obtain ⟨S', st, fr⟩ := S.add (a := s.heap.objs.size) (o' := .pls vs) (t := s.toks) (Nat.le_refl _) nofun (fun b o e => Heap.get?_push_of_some _ e) ⟨0, Heap.get?_push_size _ rfl⟩
    exact ⟨_, _, S', h _ _ st fr put_self⟩) hz⟩
theorem copyP {l : Addr} {vs : List Value} {Q : Value → Loc → Sto → Prop} (hl : σ l = some (.lst vs)) (hz : vs.length ≤ sizeLine) (h : ∀ a σ', Stp No σ σ' → σ a = none → σ' a = some (.pls vs) → Q (.ref a) m σ') : W Γ A L (call (.type "list") [.ref l]) Q m σ := ⟨fun s S => by
  obtain ⟨o, ho, hc, n, hd⟩ := S.lst hl
  exact call_list_seq (hsz := by rw [List.size_toArray]; exact hz) l (.inl rfl) ho hc hd fun h' c' hk hD => by
    obtain ⟨S', st, fr⟩ := S.add (a := s.heap.objs.size) (o' := .pls vs) (t := s.toks) (Nat.le_refl _) nofun hk ⟨_, hD⟩
    exact ⟨m, _, S', h _ _ st fr put_self⟩⟩
theorem m_pls {name : Str} {id : String} {pl : Sem Bool} {Q : Value × List Value → Loc → Sto → Prop} (hl : σ l = some (.pls vs)) (slot : Slot "list" name id) (hty : typeOf (.builtin id) = Pure.pure (.type "method_descriptor")) (h : Q (.builtin id, [.ref l]) m σ) : W Γ A L (getMethod (.ref l) name pl) Q m σ := ⟨fun s S => by
  obtain ⟨n, e⟩ := S.pls hl
  exact getMethod_builtin ⟨_, e, rfl⟩ PySem.F.plainAttrs_list slot hty (fun a q => by cases q; exact ⟨_, e, rfl⟩) ⟨m, σ, S, h⟩⟩
theorem m_append {pl : Sem Bool} {Q : Value × List Value → Loc → Sto → Prop} (hl : σ l = some (.pls vs)) (h : Q (.builtin "list.append", [.ref l]) m σ) : W Γ A L (getMethod (.ref l) "append" pl) Q m σ := ⟨fun s S => by
  obtain ⟨n, e⟩ := S.pls hl
  exact Calls.getMethod_list_append e rfl rfl ⟨m, σ, S, h⟩⟩
theorem m_pop {pl : Sem Bool} {Q : Value × List Value → Loc → Sto → Prop} (hl : σ l = some (.pls vs)) (h : Q (.builtin "list.pop", [.ref l]) m σ) : W Γ A L (getMethod (.ref l) "pop" pl) Q m σ := m_pls hl PySem.F.slot_list_pop PySem.F.type_list_pop h
theorem app_pls {v : Value} {Q : Value → Loc → Sto → Prop} (hl : σ l = some (.pls vs)) (hz : vs.length ≤ sizeLine) (h : ∀ σ', Stp (· = l) σ σ' → σ' l = some (.pls (vs ++ [v])) → Q .none m σ') : W Γ A L (call (.builtin "list.append") [.ref l, v]) Q m σ := ⟨fun s S =>
  wpAny_list_append_plain (S.pls hl) (fun h' hl' hs => ⟨_, _, S.turn (o' := .pls (vs ++ [v])) (t := s.toks) hl nofun (fun b ob hb e => (hs.2 b hb).trans e) (by obtain ⟨n, e⟩ := hl'; exact ⟨n, by simpa using e⟩), h _ (Stp.turn hl rfl) put_self⟩) (by rw [List.size_toArray]; exact hz)⟩
theorem pop_pls {y : Value} {Q : Value → Loc → Sto → Prop} (hl : σ l = some (.pls (vs ++ [y]))) (hz : vs.length < sizeLine) (h : ∀ σ', Stp (· = l) σ σ' → σ' l = some (.pls vs) → Q y m σ') : W Γ A L (call (.builtin "list.pop") [.ref l]) Q m σ := ⟨fun s S => by
  obtain ⟨n, ho⟩ := S.pls hl
  have hk : (vs ++ [y]).toArray.size - 1 = vs.length := by rw [List.size_toArray, List.length_append]; rfl
  refine call_meets PySem.F.slot_list_pop ⟨_, ho, rfl⟩ PySem.F.entry_list_pop (PySem.F.args_list_pop_1 _) (PySem.MeetsSeq.list_pop_last l _ n y (by rw [hk]; simp) (by rw [List.size_toArray, List.length_append]; exact hz)) ⟨ho, ?_⟩
  have q : ∃ n', (s.heap.update l (Obj.mapSeq fun xs => xs.eraseIdxIfInBounds ((vs ++ [y]).toArray.size - 1))).get? l = some { cls := .type "list", data := .seq vs.toArray n' } := by
    have q := PySem.IsL.update ho (fun xs => xs.eraseIdxIfInBounds ((vs ++ [y]).toArray.size - 1))
    rw [hk, erase_mid, List.append_nil] at q
    rw [hk]
    exact ⟨_, q⟩
  exact ⟨m, _, S.turn (o' := .pls vs) (t := s.toks) hl nofun (fun b ob hb e => ((Heap.SameBut.update ..).2 b hb).trans e) q, h _ (Stp.turn hl rfl) put_self⟩⟩
theorem pop0_pls {y : Value} {t : Tok} {Q : Value → Loc → Sto → Prop} (hl : σ l = some (.pls (y :: vs))) (hz : vs.length < sizeLine) (h : ∀ σ', Stp (· = l) σ σ' → σ' l = some (.pls vs) → Q y m σ') : W Γ A L (call (.builtin "list.pop") [.ref l, .int 0 t]) Q m σ := ⟨fun s S => by
  obtain ⟨n, ho⟩ := S.pls hl
  refine call_meets PySem.F.slot_list_pop ⟨_, ho, rfl⟩ PySem.F.entry_list_pop (PySem.F.args_list_pop_2 _ _) (PySem.MeetsSeq.list_pop_at l _ n 0 t 0 y (by decide) (by simp [seqIndex?]) (by simp) (by rw [List.size_toArray]; exact hz)) ⟨ho, ?_⟩
  have q := PySem.IsL.update ho (fun xs => xs.eraseIdxIfInBounds 0)
  have q' := erase_mid [] vs y
  simp only [List.nil_append, List.length_nil] at q'
  rw [q'] at q
  exact ⟨m, _, S.turn (o' := .pls vs) (t := s.toks) hl nofun (fun b ob hb e => ((Heap.SameBut.update ..).2 b hb).trans e) ⟨_, q⟩, h _ (Stp.turn hl rfl) put_self⟩⟩
/-- a list is no more turned -/
theorem frz_pls {α : Type} {t : Sem α} {Q : α → Loc → Sto → Prop} (hl : σ l = some (.pls vs)) (h : ∀ σ', Stp (· = l) σ σ' → σ' l = some (.lst vs) → W Γ A L t Q m σ') : W Γ A L t Q m σ := ⟨fun s S => by
  obtain ⟨n, e⟩ := S.pls hl
  exact (h _ (Stp.turn hl rfl) put_self).run s (S.relabel (o' := .lst vs) hl nofun ⟨_, e, rfl, n, rfl⟩)⟩
theorem len_pls {Q : Value → Loc → Sto → Prop} (hl : σ l = some (.pls vs)) (hz : vs.length < 2 ^ 62) (h : ∀ t, Q (.int vs.length t) m σ) : W Γ A L (call (.builtin "len") [.ref l]) Q m σ := ⟨fun s S => by
  obtain ⟨n, e⟩ := S.pls hl
  exact len_list (Heap.PlainList.isList ⟨n, e⟩) (by rw [List.size_toArray]; omega) (by rw [List.size_toArray]; exact ⟨m, σ, S.tok _, h _⟩)⟩
end

def cut (vs : List Value) (lo hi : Option Int) : List Value := (vs.drop (lo.elim 0 (clipAt vs.length))).take (hi.elim vs.length (clipAt vs.length) - lo.elim 0 (clipAt vs.length))
def sliceO (l u : Value) : Obj := { cls := .type "slice", data := .fields #[l, u, .none] }
section
variable {Γ : Cx} {A : Around} {L : Addr} {m : Loc} {σ : Sto} {s : Shared} {n : Nat} {l b : Addr} {vs ws : List Value} {env : Env}
theorem ne_empty {Q : Value → Loc → Sto → Prop} (hA : Ok A n) (hl : σ l = some (.pls vs)) (hb : σ b = some (.lst [])) (h : Q (.bool (!vs.isEmpty)) m σ) : W Γ A L (compareOp .NotEq (.ref l) (.ref b)) Q m σ := ⟨fun s S => by
  obtain ⟨k, e⟩ := S.pls hl
  have hl' : s.heap.IsList l vs.toArray := Heap.PlainList.isList ⟨k, e⟩
  cases vs with
  | nil => exact cmp_ofNotEq (SeqAt.RcNeAt.lists (e := fun _ => true) hl' (S.lst hb) rfl hA.units (fun j h1 => absurd h1 (Nat.not_lt_zero _)) _ _ _ _ ⟨m, σ, S, h⟩)
  | cons v r => exact cmp_ofNotEq (SeqAt.RcNeAt.lists_lengths hl' (S.lst hb) (by simp) hA.units _ _ _ _ ⟨m, σ, S, h⟩)⟩
theorem m_join {x : Str} {t : Tok} {pl : Sem Bool} {Q : Value × List Value → Loc → Sto → Prop} (h : Q (.builtin "str.join", [.str x t]) m σ) : W Γ A L (getMethod (.str x t) "join" pl) Q m σ := ⟨fun s S => GM.join ⟨m, σ, S, h⟩⟩
theorem join_lst {x : Str} {t : Tok} {ys : List Str} {Q : Value → Loc → Sto → Prop} (hl : σ l = some (.lst vs)) (hi : StrsAre vs ys) (hok : (ys.map (·.length)).sum + ys.length * x.length ≤ 16777216) (h : ∀ t', Q (.str (Txt.join x ys) t') m σ) : W Γ A L (call (.builtin "str.join") [.str x t, .ref l]) Q m σ := ⟨fun s S =>
  PyProof.Rows.join_list (S.lst hl) hi hok fun t' k => ⟨m, σ, S.tok _, h _⟩⟩
theorem e_slice {lo hi : Option Expr} {p : Pos} {Q : Value → Loc → Sto → Prop} (h : W Γ A L (evalPart lo env) (fun lv m1 σ1 => W Γ A L (evalPart hi env) (fun hv m2 σ2 => ∀ a σ3, Stp No σ2 σ3 → σ2 a = none → σ3 a = some (.raw (sliceO lv hv)) → Q (.ref a) m2 σ3) m1 σ1) m σ) : W Γ A L (eval (.Slice lo hi none p) env) Q m σ := ⟨fun s S =>
  wpAny_Slice (wk h S fun lv s1 m1 σ1 S1 q => wk q S1 fun hv s2 m2 σ2 S2 q => wpAny_pure (by
    obtain ⟨S', st, fr⟩ := S2.add (a := s2.heap.objs.size) (o' := .raw (sliceO lv hv)) (t := s2.toks) (Nat.le_refl _) nofun (fun b o e => Heap.get?_push_of_some _ e) (Heap.get?_push_size _ rfl)
    exact ⟨m2, _, S', q _ _ st fr put_self⟩))⟩
theorem p_none {Q : Value → Loc → Sto → Prop} (h : Q .none m σ) : W Γ A L (evalPart none env) Q m σ := ⟨fun s S => wpAny_pure ⟨m, σ, S, h⟩⟩
theorem p_some {e : Expr} {Q : Value → Loc → Sto → Prop} (h : W Γ A L (eval e env) Q m σ) : W Γ A L (evalPart (some e) env) Q m σ := ⟨fun s S => h.run s S⟩
theorem sub_slice {value slice : Expr} {a : Addr} {lv hv : Value} {lo hi : Option Int} {Q : Value → Loc → Sto → Prop} (hl : σ l = some (.lst vs)) (ha : σ a = some (.raw (sliceO lv hv))) (hlo : IsPart lv lo) (hhi : IsPart hv hi) (hz : vs.length ≤ sizeLine)
    (h : ∀ c σ', Stp No σ σ' → σ c = none → σ' c = some (.lst (cut vs lo hi)) → Q (.ref c) m σ')
    (hs : subscripted slice false (.ref l) (.ref a) = operate [.ref a, .ref l] (getItem (.ref l) (.ref a)) := by with_unfolding_all rfl)
    (ht : ∀ r, letTemporaryGo value (.ref l) r = Pure.pure () := by intro _; with_unfolding_all rfl) : W Γ A L (subscriptTail value slice (.ref l) (.ref a)) Q m σ := ⟨fun s S => by
  have hL := S.lst hl
  refine subscriptTail_ops hL.typeIs list_getitem_lookup (wpAny_getItem_list_slice hL ⟨_, S.raw ha, rfl, rfl⟩ hlo hhi .none (by simp) ?_ (by rw [List.size_toArray]; exact hz)) hs ht
  have e : slicePick vs.toArray lo hi none = (cut vs lo hi).toArray := by rw [slicePick_plain]; rfl
  rw [e]
  obtain ⟨S', st, fr⟩ := S.add (a := s.heap.objs.size) (o' := .lst (cut vs lo hi)) (t := s.toks) (Nat.le_refl _) nofun (fun b o e => Heap.get?_push_of_some _ e) ⟨{ cls := .type "list", data := .seq (cut vs lo hi).toArray }, Heap.get?_push_size _ rfl, rfl, 0, rfl⟩
  exact ⟨m, _, S', h _ _ st fr put_self⟩⟩
theorem add_lst {Q : Value → Loc → Sto → Prop} (hl : σ l = some (.lst vs)) (hb : σ b = some (.lst ws)) (hz : vs.length + ws.length ≤ sizeLine) (h : ∀ c σ', Stp No σ σ' → σ c = none → σ' c = some (.lst (vs ++ ws)) → Q (.ref c) m σ') : W Γ A L (binaryOp .Add (.ref l) (.ref b)) Q m σ := ⟨fun s S => by
  obtain ⟨⟨cls, dd, data, sl⟩, ho, hc, n, hd⟩ := id (S.lst hl)
  obtain ⟨⟨cls2, dd2, data2, sl2⟩, ho2, hc2, n2, hd2⟩ := id (S.lst hb)
  simp only at hc hd hc2 hd2
  subst hc hd hc2 hd2
  have e : vs.toArray ++ ws.toArray = (vs ++ ws).toArray := by simp
  refine concat_meets ⟨_, ho, rfl⟩ ⟨_, ho2, rfl⟩ noFill_list_add seq_list_add PySem.F.slot_list_add PySem.F.entry_list_add (PySem.F.args_list_add_2 _ _) (list_addW l b vs.toArray ws.toArray n n2 dd dd2 sl sl2 (by simpa using hz)) ⟨ho, ho2, ?_⟩
  rw [e]
  obtain ⟨S', st, fr⟩ := S.add (a := s.heap.objs.size) (o' := .lst (vs ++ ws)) (t := s.toks) (Nat.le_refl _) nofun (fun b o e => Heap.get?_push_of_some _ e) ⟨{ cls := .type "list", data := .seq (vs ++ ws).toArray }, Heap.get?_push_size _ rfl, rfl, 0, rfl⟩
  exact ⟨m, _, S', h _ _ st fr put_self⟩⟩
theorem min_l2 {x y : Int} {t u : Tok} {Q : Value → Loc → Sto → Prop} (hA : Ok A n) (hl : σ l = some (.lst [.int x t, .int y u])) (h : ∀ t, Q (.int (min x y) t) m σ) : W Γ A L (call (.builtin "min") [.ref l]) Q m σ := ⟨fun s S => by
  have hL : s.heap.IsList l (intItems #[(x, t), (y, u)]) := by have := S.lst hl; simpa [intItems] using this
  refine min_intList (xs := #[(x, t), (y, u)]) hA.h hL (by simp) fun v h' tk hv hk => ?_
  obtain ⟨t', rfl⟩ := intItems_at hv
  obtain ⟨h1, h2⟩ := argBest_lt (numAt #[(x, t), (y, u)]) 1
  have a0 := h2 0 (by omega)
  have a1 := h2 1 (by omega)
  change _ at hv
  have e : numAt #[(x, t), (y, u)] (argBest (fun i j => decide (numAt #[(x, t), (y, u)] i < numAt #[(x, t), (y, u)] j)) 1) = min x y := by
    have e0 : numAt #[(x, t), (y, u)] 0 = x := rfl
    have e1 : numAt #[(x, t), (y, u)] 1 = y := rfl
    rw [e0] at a0
    rw [e1] at a1
    rcases (show argBest (fun i j => decide (numAt #[(x, t), (y, u)] i < numAt #[(x, t), (y, u)] j)) 1 = 0 ∨ argBest (fun i j => decide (numAt #[(x, t), (y, u)] i < numAt #[(x, t), (y, u)] j)) 1 = 1 by omega) with q | q
    · rw [q, e0] at a1 ⊢; omega
    · rw [q, e1] at a0 ⊢; omega
  exact ⟨m, σ, S.grow hk, by have := h t'; rw [← e] at this; exact this⟩⟩
theorem max_l2 {x y : Int} {t u : Tok} {Q : Value → Loc → Sto → Prop} (hA : Ok A n) (hl : σ l = some (.lst [.int x t, .int y u])) (h : ∀ t, Q (.int (max x y) t) m σ) : W Γ A L (call (.builtin "max") [.ref l]) Q m σ := ⟨fun s S => by
  have hL : s.heap.IsList l (intItems #[(x, t), (y, u)]) := by have := S.lst hl; simpa [intItems] using this
  refine max_intList (xs := #[(x, t), (y, u)]) hA.h hL (by simp) fun v h' tk hv hk => ?_
  obtain ⟨t', rfl⟩ := intItems_at hv
  obtain ⟨h1, h2⟩ := argBest_gt (numAt #[(x, t), (y, u)]) 1
  have a0 := h2 0 (by omega)
  have a1 := h2 1 (by omega)
  change _ at hv
  have e : numAt #[(x, t), (y, u)] (argBest (fun i j => decide (numAt #[(x, t), (y, u)] i > numAt #[(x, t), (y, u)] j)) 1) = max x y := by
    have e0 : numAt #[(x, t), (y, u)] 0 = x := rfl
    have e1 : numAt #[(x, t), (y, u)] 1 = y := rfl
    rw [e0] at a0
    rw [e1] at a1
    rcases (show argBest (fun i j => decide (numAt #[(x, t), (y, u)] i > numAt #[(x, t), (y, u)] j)) 1 = 0 ∨ argBest (fun i j => decide (numAt #[(x, t), (y, u)] i > numAt #[(x, t), (y, u)] j)) 1 = 1 by omega) with q | q
    · rw [q, e0] at a1 ⊢; omega
    · rw [q, e1] at a0 ⊢; omega
  exact ⟨m, σ, S.grow hk, by have := h t'; rw [← e] at this; exact this⟩⟩
end

inductive T where
  | w (s : Str)
  | n (l : Str) (ks : List T)
mutual
def DrAt (σ : Sto) : T → Value → Prop
  | .w s, v => ∃ t, v = .str s t
  | .n l ks, v => ∃ a t c vs, v = .ref a ∧ σ a = some (.tup [.str l t, .ref c]) ∧ σ c = some (.lst vs) ∧ DrAll σ ks vs
def DrAll (σ : Sto) : List T → List Value → Prop
  | [], vs => vs = []
  | k :: r, vs => ∃ v r', vs = v :: r' ∧ DrAt σ k v ∧ DrAll σ r r'
end
/-- what never turns is kept -/
def Frz (σ σ' : Sto) : Prop := ∀ a o, σ a = some o → o.fz = true → o.kp = true → σ' a = some o
theorem Keep.frz {σ σ' : Sto} (h : Keep σ σ') : Frz σ σ' := fun a o e _ k => h a o e k
theorem Stp.frz {X : Addr → Prop} {σ σ' : Sto} (h : Stp X σ σ') : Frz σ σ' := fun a o e f _ => h a o e (.inl f)
mutual
theorem DrAt.keep {σ σ' : Sto} (h : Frz σ σ') : ∀ {t : T} {v : Value}, DrAt σ t v → DrAt σ' t v
  | .w s, v, x => x
  | .n l ks, v, ⟨a, t, c, vs, e, e1, e2, e3⟩ => ⟨a, t, c, vs, e, h _ _ e1 rfl rfl, h _ _ e2 rfl rfl, DrAll.keep h e3⟩
theorem DrAll.keep {σ σ' : Sto} (h : Frz σ σ') : ∀ {ks : List T} {vs : List Value}, DrAll σ ks vs → DrAll σ' ks vs
  | [], vs, x => x
  | k :: r, vs, ⟨v, r', e, e1, e2⟩ => ⟨v, r', e, DrAt.keep h e1, DrAll.keep h e2⟩
end
theorem DrAt.word {σ : Sto} {s : Str} {t : Tok} : DrAt σ (.w s) (.str s t) := ⟨t, rfl⟩

/-- the four labels of the draw, the two words -/
def Lab (l : Str) : Prop := l ∈ [Str.ofString "S", Str.ofString "A", Str.ofString "B", Str.ofString "C"]
def Wrd (l : Str) : Prop := l ∈ [Str.ofString "x", Str.ofString "y"]
def isW : T → Prop
  | .w s => Wrd s
  | .n _ _ => False
/-- a drawn tree, d levels below its top at most -/
inductive Good : Nat → T → Prop where
  | leaf {d : Nat} {l : Str} {ks : List T} : Lab l → 1 ≤ ks.length → ks.length ≤ 4 → (∀ k ∈ ks, isW k) → Good d (.n l ks)
  | node {d : Nat} {l : Str} {ks : List T} : Lab l → 1 ≤ ks.length → ks.length ≤ 4 → (∀ k ∈ ks, Good d k) → Good (d + 1) (.n l ks)
theorem sabc {v : Int} (h0 : 0 ≤ v) (h1 : v < 4) : ∃ c : Nat, (Str.ofString "SABC").cps[v.toNat]? = some c ∧ Lab ⟨#[c]⟩ := by
  have : v = 0 ∨ v = 1 ∨ v = 2 ∨ v = 3 := by omega
  rcases this with rfl | rfl | rfl | rfl
  · exact ⟨83, by decide +kernel, by unfold Lab; decide +kernel⟩
  · exact ⟨65, by decide +kernel, by unfold Lab; decide +kernel⟩
  · exact ⟨66, by decide +kernel, by unfold Lab; decide +kernel⟩
  · exact ⟨67, by decide +kernel, by unfold Lab; decide +kernel⟩
theorem xy {v : Int} (h0 : 0 ≤ v) (h1 : v < 2) : ∃ c : Nat, (Str.ofString "xy").cps[v.toNat]? = some c ∧ Wrd ⟨#[c]⟩ := by
  have : v = 0 ∨ v = 1 := by omega
  rcases this with rfl | rfl
  · exact ⟨120, by decide +kernel, by unfold Wrd; decide +kernel⟩
  · exact ⟨121, by decide +kernel, by unfold Wrd; decide +kernel⟩
theorem sz4 {v : Int} {a b c d : Tok} (h0 : 0 ≤ v) (h1 : v < 4) : ∃ z t, [Value.int 1 a, Value.int 3 b, Value.int 2 c, Value.int 4 d][v.toNat]? = some (Value.int z t) ∧ 1 ≤ z ∧ z ≤ 4 := by
  have : v = 0 ∨ v = 1 ∨ v = 2 ∨ v = 3 := by omega
  rcases this with rfl | rfl | rfl | rfl
  · exact ⟨1, a, rfl, by decide, by decide⟩
  · exact ⟨3, b, rfl, by decide, by decide⟩
  · exact ⟨2, c, rfl, by decide, by decide⟩
  · exact ⟨4, d, rfl, by decide, by decide⟩
theorem DrAll.snoc {σ : Sto} {t : T} {v : Value} (h : DrAt σ t v) : ∀ {ks : List T} {vs : List Value}, DrAll σ ks vs → DrAll σ (ks ++ [t]) (vs ++ [v])
  | [], vs, x => by cases x; exact ⟨v, [], rfl, h, rfl⟩
  | k :: r, vs, ⟨v', r', e, e1, e2⟩ => by subst e; exact ⟨v', r' ++ [v], rfl, e1, DrAll.snoc h e2⟩
theorem DrAll.length {σ : Sto} : ∀ {ks : List T} {vs : List Value}, DrAll σ ks vs → ks.length = vs.length
  | [], vs, x => by cases x; rfl
  | k :: r, vs, ⟨v', r', e, e1, e2⟩ => by subst e; simp [DrAll.length e2]
theorem rangeItems_length (x : Int) (n : Nat) : (rangeItems x n).length = n := by
  induction n generalizing x with
  | zero => rfl
  | succ n ih => simp [rangeItems, ih]
section
variable {Γ : Cx} {A : Around} {L : Addr} {m : Loc} {σ : Sto} {env : Env}
theorem i_str {value slice : Expr} {x : Str} {t u : Tok} {k : Int} {y : Str} {Q : Value → Loc → Sto → Prop} (h0 : 0 ≤ k) (h1 : k < x.length) (hk : k < 2 ^ 62) (hy : Txt.item x k = y) (h : ∀ t, Q (.str y t) m σ)
    (hs : subscripted slice false (.str x t) (.int k u) = operate [.str x t, .int k u] (getItem (.str x t) (.int k u)) := by with_unfolding_all rfl)
    (ht : ∀ r, letTemporaryGo value (.str x t) r = pure () := by intro _; with_unfolding_all rfl) : W Γ A L (subscriptTail value slice (.str x t) (.int k u)) Q m σ := ⟨fun s S => by
  subst hy
  have hr : fitsSsize k = true := by simp [fitsSsize]; omega
  exact item_str hr (by omega) h1 (fun _ => ⟨m, σ, S.tok _, h _⟩) hs ht⟩
theorem sabc' {v : Int} (h0 : 0 ≤ v) (h1 : v < 4) : ∃ y, Txt.item (Str.ofString "SABC") v = y ∧ Lab y := let ⟨_, a, b⟩ := sabc h0 h1; ⟨_, item_meets h0 a, b⟩
theorem xy' {v : Int} (h0 : 0 ≤ v) (h1 : v < 2) : ∃ y, Txt.item (Str.ofString "xy") v = y ∧ Wrd y := let ⟨_, a, b⟩ := xy h0 h1; ⟨_, item_meets h0 a, b⟩
end

mutual
/-- a tree of the heap, and the objects it is made of -/
def TrAt (σ : Sto) : T → Value → List Addr → Prop
  | .w s, v, fs => (∃ t, v = .str s t) ∧ fs = []
  | .n l ks, v, fs => ∃ a c vs f, v = .ref a ∧ fs = a :: f ∧ σ a = some (.tre l c) ∧ σ c = some (.lst vs) ∧ TrAll σ ks vs f
def TrAll (σ : Sto) : List T → List Value → List Addr → Prop
  | [], vs, fs => vs = [] ∧ fs = []
  | k :: r, vs, fs => ∃ v r' f g, vs = v :: r' ∧ fs = f ++ g ∧ TrAt σ k v f ∧ TrAll σ r r' g
end
mutual
theorem TrAt.frm {σ σ' : Sto} (h : Frz σ σ') : ∀ {t : T} {v : Value} {fs : List Addr}, (∀ a ∈ fs, ∀ l c, σ a = some (.tre l c) → σ' a = some (.tre l c)) → TrAt σ t v fs → TrAt σ' t v fs
  | .w s, v, fs, _, x => x
  | .n l ks, v, fs, k, ⟨a, c, vs, f, e, e0, e1, e2, e3⟩ => by
    subst e0
    exact ⟨a, c, vs, f, e, rfl, k a (.head _) _ _ e1, h _ _ e2 rfl rfl, TrAll.frm h (fun b hb => k b (.tail _ hb)) e3⟩
theorem TrAll.frm {σ σ' : Sto} (h : Frz σ σ') : ∀ {ks : List T} {vs : List Value} {fs : List Addr}, (∀ a ∈ fs, ∀ l c, σ a = some (.tre l c) → σ' a = some (.tre l c)) → TrAll σ ks vs fs → TrAll σ' ks vs fs
  | [], vs, fs, _, x => x
  | t :: r, vs, fs, k, ⟨v, r', f, g, e, e0, e1, e2⟩ => by
    subst e0
    exact ⟨v, r', f, g, e, rfl, TrAt.frm h (fun b hb => k b (List.mem_append_left _ hb)) e1, TrAll.frm h (fun b hb => k b (List.mem_append_right _ hb)) e2⟩
end
theorem TrAt.keep {σ σ' : Sto} {t : T} {v : Value} {fs : List Addr} (x : TrAt σ t v fs) (h : Keep σ σ') : TrAt σ' t v fs := x.frm h.frz fun a _ l c e => h.get e
theorem TrAll.keep {σ σ' : Sto} {t : List T} {v : List Value} {fs : List Addr} (x : TrAll σ t v fs) (h : Keep σ σ') : TrAll σ' t v fs := x.frm h.frz fun a _ l c e => h.get e
theorem TrAt.stp {X : Addr → Prop} {σ σ' : Sto} {t : T} {v : Value} {fs : List Addr} (x : TrAt σ t v fs) (h : Stp X σ σ') (d : ∀ a ∈ fs, ¬ X a) : TrAt σ' t v fs := x.frm h.frz fun a ha l c e => h _ _ e (.inr (d a ha))
theorem TrAll.stp {X : Addr → Prop} {σ σ' : Sto} {t : List T} {v : List Value} {fs : List Addr} (x : TrAll σ t v fs) (h : Stp X σ σ') (d : ∀ a ∈ fs, ¬ X a) : TrAll σ' t v fs := x.frm h.frz fun a ha l c e => h _ _ e (.inr (d a ha))
theorem TrAt.no {σ σ' : Sto} {t : T} {v : Value} {fs : List Addr} (x : TrAt σ t v fs) (h : Stp No σ σ') : TrAt σ' t v fs := x.stp h fun _ _ z => z
theorem TrAll.no {σ σ' : Sto} {t : List T} {v : List Value} {fs : List Addr} (x : TrAll σ t v fs) (h : Stp No σ σ') : TrAll σ' t v fs := x.stp h fun _ _ z => z
theorem TrAll.length {σ : Sto} : ∀ {ks : List T} {vs : List Value} {fs : List Addr}, TrAll σ ks vs fs → ks.length = vs.length
  | [], vs, _, x => by rw [x.1]; rfl
  | k :: r, vs, _, ⟨v, r', f, g, e, e0, e1, e2⟩ => by subst e; simp [TrAll.length e2]
theorem TrAll.snoc {σ : Sto} {t : T} {v : Value} {f : List Addr} (h : TrAt σ t v f) : ∀ {ks : List T} {vs : List Value} {fs : List Addr}, TrAll σ ks vs fs → TrAll σ (ks ++ [t]) (vs ++ [v]) (fs ++ f)
  | [], vs, fs, ⟨a, b⟩ => by subst a b; exact ⟨v, [], f, [], rfl, by simp, h, rfl, rfl⟩
  | k :: r, vs, fs, ⟨v', r', f', g, e, e0, e1, e2⟩ => by subst e e0; exact ⟨v', r' ++ [v], f', g ++ f, rfl, by simp, e1, TrAll.snoc h e2⟩
theorem TrAll.append {σ : Sto} {ks' : List T} {vs' : List Value} {fs' : List Addr} (h : TrAll σ ks' vs' fs') : ∀ {ks : List T} {vs : List Value} {fs : List Addr}, TrAll σ ks vs fs → TrAll σ (ks ++ ks') (vs ++ vs') (fs ++ fs')
  | [], vs, fs, ⟨a, b⟩ => by subst a b; exact h
  | k :: r, vs, fs, ⟨v', r', f', g, e, e0, e1, e2⟩ => by subst e e0; exact ⟨v', r' ++ vs', f', g ++ fs', rfl, by simp, e1, TrAll.append h e2⟩
theorem TrAll.split {σ : Sto} {ks' : List T} : ∀ {ks : List T} {vs : List Value} {fs : List Addr}, TrAll σ (ks ++ ks') vs fs → ∃ v1 v2 f1 f2, vs = v1 ++ v2 ∧ fs = f1 ++ f2 ∧ TrAll σ ks v1 f1 ∧ TrAll σ ks' v2 f2
  | [], vs, fs, h => ⟨[], vs, [], fs, rfl, rfl, ⟨rfl, rfl⟩, h⟩
  | k :: r, vs, fs, ⟨v', r', f', g, e, e0, e1, e2⟩ => by
    obtain ⟨v1, v2, f1, f2, q1, q2, q3, q4⟩ := TrAll.split e2
    subst e e0 q1 q2
    exact ⟨v' :: v1, v2, f' ++ f1, f2, rfl, by simp, ⟨v', v1, f', f1, rfl, rfl, e1, q3⟩, q4⟩
mutual
/-- what lies in a tree's footprint is there -/
theorem TrAt.there {σ : Sto} : ∀ {t : T} {v : Value} {fs : List Addr}, TrAt σ t v fs → ∀ a ∈ fs, ∃ l c, σ a = some (.tre l c)
  | .w s, v, fs, x, a, ha => by rw [x.2] at ha; cases ha
  | .n l ks, v, fs, ⟨a, c, vs, f, e, e0, e1, e2, e3⟩, b, hb => by
    subst e0
    rcases List.mem_cons.mp hb with rfl | hb
    · exact ⟨_, _, e1⟩
    · exact TrAll.there e3 b hb
theorem TrAll.there {σ : Sto} : ∀ {ks : List T} {vs : List Value} {fs : List Addr}, TrAll σ ks vs fs → ∀ a ∈ fs, ∃ l c, σ a = some (.tre l c)
  | [], vs, fs, x, a, ha => by rw [x.2] at ha; cases ha
  | t :: r, vs, fs, ⟨v, r', f, g, e, e0, e1, e2⟩, b, hb => by
    subst e0
    rcases List.mem_append.mp hb with hb | hb
    · exact TrAt.there e1 b hb
    · exact TrAll.there e2 b hb
end
theorem TrAll.get {σ : Sto} : ∀ {ks : List T} {vs : List Value} {fs : List Addr}, TrAll σ ks vs fs → ∀ {i : Nat} {t : T}, ks[i]? = some t → ∃ v f, vs[i]? = some v ∧ TrAt σ t v f ∧ ∀ a ∈ f, a ∈ fs
  | [], vs, fs, x, i, t, h => by simp at h
  | k :: r, vs, fs, ⟨v, r', f, g, e, e0, e1, e2⟩, i, t, h => by
    subst e e0
    cases i with
    | zero => simp at h; subst h; exact ⟨v, f, rfl, e1, fun a ha => List.mem_append_left _ ha⟩
    | succ i =>
      obtain ⟨v', f', q1, q2, q3⟩ := TrAll.get e2 (i := i) (by simpa using h)
      exact ⟨v', f', by simpa using q1, q2, fun a ha => List.mem_append_right _ (q3 a ha)⟩

/-- a tree of n levels at most, four children at most -/
inductive Wid : Nat → T → Prop where
  | w {n : Nat} {s : Str} : Wid n (.w s)
  | n {n : Nat} {l : Str} {ks : List T} : ks.length ≤ 4 → (∀ k ∈ ks, Wid n k) → Wid (n + 1) (.n l ks)
theorem Wid.mono {n m : Nat} {t : T} (h : Wid n t) : n ≤ m → Wid m t := by
  induction h generalizing m with
  | w => exact fun _ => .w
  | n h1 h2 ih =>
    intro hm
    obtain ⟨m', rfl⟩ : ∃ m', m = m' + 1 := ⟨m - 1, by omega⟩
    exact .n h1 fun k hk => ih k hk (by omega)
theorem Good.wid {d : Nat} {t : T} (h : Good d t) : Wid (d + 1) t := by
  induction h with
  | leaf h1 h2 h3 h4 => exact .n h3 fun k hk => by have := h4 k hk; cases k with | w s => exact .w | n l ks => exact this.elim
  | node h1 h2 h3 h4 ih => exact .n h3 fun k hk => ih k hk

theorem str_app_empty (x : Str) : x ++ Str.ofString "" = x := by
  obtain ⟨c⟩ := x
  show (⟨c ++ #[]⟩ : Str) = ⟨c⟩
  simp
structure Way where
  right : Bool
  h : Nat
  up : Nat
  sign : Str
  mark : Str
def ang (x : Str) (ys : List Str) : Str := x ++ Str.ofString "<" ++ Txt.join (Str.ofString "-") ys ++ Str.ofString ">"
def nm : T → Str
  | .w s => s
  | .n l _ => l
def fstT : List T → Bool
  | .n _ _ :: _ => true
  | _ => false
def shown (W : Way) (ns : List Str) : List Str := if W.right then ns.take W.h else ns.drop (ns.length - W.h)
def binK (right : Bool) (hdr : List Str → Str) : Nat → List Str → List T → List T
  | 0, _, us => us
  | k + 1, ns, us => if right then us.take 1 ++ [.n (hdr (ns.drop 1)) (binK right hdr k (ns.drop 1) (us.drop 1))] else .n (hdr (ns.take (k + 2))) (binK right hdr k (ns.take (k + 2)) (us.take (k + 2))) :: us.drop (k + 2)
def bin (right : Bool) (lab : Str) (hdr : List Str → Str) (ns : List Str) (us : List T) : T := .n lab (binK right hdr (us.length - 2) ns us)
def marks (W : Way) (root : Bool) (ks : List T) : Bool := W.up != 0 && !root && fstT ks
mutual
def cnf (W : Way) (root : Bool) (par : List Str) : T → T
  | .w s => .w s
  | .n l ks => bin W.right (l ++ (if marks W root ks then ang W.mark par else Str.ofString ""))
      (fun ns => ang (l ++ W.sign) (shown W ns) ++ (if marks W root ks then ang W.mark par else Str.ofString "")) (ks.map nm)
      (cnfs W (if marks W root ks then l :: par.take (W.up - 1) else par) ks)
def cnfs (W : Way) (par : List Str) : List T → List T
  | [] => []
  | k :: r => cnf W false par k :: cnfs W par r
end
theorem cnfs_append (W : Way) (par : List Str) : ∀ a b, cnfs W par (a ++ b) = cnfs W par a ++ cnfs W par b
  | [], b => rfl
  | k :: r, b => by simp [cnfs, cnfs_append W par r b]
theorem cnfs_length (W : Way) (par : List Str) : ∀ a, (cnfs W par a).length = a.length
  | [] => rfl
  | k :: r => by simp [cnfs, cnfs_length W par r]
mutual
def tsz : T → Nat
  | .w _ => 1
  | .n _ ks => 1 + tszs ks
def tszs : List T → Nat
  | [] => 0
  | k :: r => tsz k + tszs r
end
theorem tszs_mem : ∀ {ks : List T} {k : T}, k ∈ ks → tsz k ≤ tszs ks
  | k' :: r, k, h => by
    rcases List.mem_cons.mp h with rfl | h
    · simp [tszs]
    · have := tszs_mem h; simp only [tszs]; omega
inductive Bn (right : Bool) (hdr : List Str → Str) : List Str → List T → List T → Prop where
  | small {ns : List Str} {us : List T} : ns.length ≤ 2 → ns.length = us.length → Bn right hdr ns us us
  | rt {n : Str} {ns : List Str} {u : T} {us ks : List T} : right = true → 2 ≤ ns.length → Bn right hdr ns us ks → Bn right hdr (n :: ns) (u :: us) [u, .n (hdr ns) ks]
  | lf {n : Str} {ns : List Str} {u : T} {us ks : List T} : right = false → 2 ≤ ns.length → Bn right hdr ns us ks → Bn right hdr (ns ++ [n]) (us ++ [u]) [.n (hdr ns) ks, u]
theorem last_of {α : Type} {l : List α} {k : Nat} (h : l.length = k + 1) : ∃ x, l.drop k = [x] ∧ l.take k ++ [x] = l := by
  obtain ⟨x, e⟩ := List.length_eq_one_iff.mp (show (l.drop k).length = 1 by rw [List.length_drop, h, Nat.add_sub_cancel_left])
  exact ⟨x, e, by rw [← e]; exact List.take_append_drop k l⟩
theorem binK_bn {right : Bool} {hdr : List Str → Str} : ∀ (k : Nat) (ns : List Str) (us : List T), ns.length = us.length → us.length ≤ k + 2 → (k ≠ 0 → us.length = k + 2) → Bn right hdr ns us (binK right hdr k ns us)
  | 0, ns, us, h, h2, _ => .small (Nat.le_trans (Nat.le_of_eq h) h2) h
  | k + 1, ns, us, h, _, h3 => by
    have h4 := h3 (Nat.succ_ne_zero k)
    cases right with
    | true =>
      cases ns with
      | nil => rw [h4] at h; cases h
      | cons n ns =>
      cases us with
      | nil => cases h4
      | cons u us =>
      have e := Nat.succ.inj h
      have e4 := Nat.succ.inj h4
      exact .rt rfl (by rw [e, e4]; exact Nat.le_add_left _ _) (binK_bn k ns us e (Nat.le_of_eq e4) fun _ => e4)
    | false =>
      obtain ⟨x, x1, x2⟩ := last_of h4
      obtain ⟨y, _, y2⟩ := last_of (h.trans h4)
      have ex : (us.take (k + 2)).length = k + 2 := by rw [List.length_take, h4]; exact Nat.min_eq_left (Nat.le_succ _)
      have ey : (ns.take (k + 2)).length = k + 2 := by rw [List.length_take, h, h4]; exact Nat.min_eq_left (Nat.le_succ _)
      have := Bn.lf (n := y) (u := x) rfl (Nat.le_trans (Nat.le_add_left _ _) (Nat.le_of_eq ey.symm)) (binK_bn (right := false) (hdr := hdr) k _ _ (ey.trans ex.symm) (Nat.le_of_eq ex) fun _ => ex)
      rw [x2, y2] at this
      unfold binK
      rw [x1]
      exact this
theorem bin_bn {right : Bool} {lab : Str} {hdr : List Str → Str} {ns : List Str} {us : List T} (h : ns.length = us.length) : ∃ ks, bin right lab hdr ns us = .n lab ks ∧ Bn right hdr ns us ks :=
  ⟨_, rfl, binK_bn _ _ _ h (by omega) (by omega)⟩
theorem Bn.len {right : Bool} {hdr : List Str → Str} {ns : List Str} {us ks : List T} (h : Bn right hdr ns us ks) : ns.length = us.length := by
  induction h with
  | small _ h => exact h
  | rt _ _ _ ih => rw [List.length_cons, List.length_cons, ih]
  | lf _ _ _ ih => rw [List.length_append, List.length_append, ih]; rfl
theorem Bn.sz {right : Bool} {hdr : List Str → Str} {ns : List Str} {us ks : List T} (h : Bn right hdr ns us ks) : ∀ k ∈ us, tsz k ≤ tszs ks := by
  induction h with
  | small _ _ => exact fun k hk => tszs_mem hk
  | rt _ _ _ ih =>
    intro k hk
    simp only [tsz, tszs]
    rcases List.mem_cons.mp hk with rfl | hk
    · omega
    · have := ih k hk; omega
  | lf _ _ _ ih =>
    intro k hk
    simp only [tsz, tszs]
    rcases List.mem_append.mp hk with hk | hk
    · have := ih k hk; omega
    · cases List.mem_singleton.mp hk; omega
theorem bin_sz {right : Bool} {lab : Str} {hdr : List Str → Str} {ns : List Str} {us : List T} (h : ns.length = us.length) : ∀ k ∈ us, tsz k < tsz (bin right lab hdr ns us) := fun k hk => by
  obtain ⟨ks, e, b⟩ := bin_bn (right := right) (lab := lab) (hdr := hdr) h
  have := b.sz k hk
  rw [e]; simp only [tsz]; omega

/-- small trees: four children, labels of one sign -/
inductive Sm : Nat → T → Prop where
  | w {n : Nat} {s : Str} : s.length ≤ 1 → Sm n (.w s)
  | n {n : Nat} {l : Str} {ks : List T} : l.length ≤ 1 → 1 ≤ ks.length → ks.length ≤ 4 → (∀ k ∈ ks, Sm n k) → Sm (n + 1) (.n l ks)
theorem Sm.wid {n : Nat} {t : T} (h : Sm n t) : Wid n t := by
  induction h with
  | w _ => exact .w
  | n _ _ h2 _ ih => exact .n h2 ih
theorem loc_old {m : Loc} {x y : Str} {v : Value} {w : Option Value} (h : y ≠ x) (e : m y = w) : (m.put x v) y = w := by simp [Loc.put, h, e]
structure PreC (m : Loc) (r : Addr) (W : Way) : Prop where
  tree : m (Str.ofString "tree") = some (.ref r)
  factor : ∃ t, m (Str.ofString "factor") = some (.str (Str.ofString (if W.right then "right" else "left")) t)
  horz : ∃ t, m (Str.ofString "horzMarkov") = some (.int W.h t)
  vert : ∃ t, m (Str.ofString "vertMarkov") = some (.int W.up t)
  child : ∃ t, m (Str.ofString "childChar") = some (.str W.sign t)
  parent : ∃ t, m (Str.ofString "parentChar") = some (.str W.mark t)
structure FixC (m : Loc) (nl r : Addr) (W : Way) : Prop where
  pre : PreC m r W
  list : m (Str.ofString "nodeList") = some (.ref nl)
theorem FixC.put {m : Loc} {nl r : Addr} {W : Way} {x : Str} {v : Value} (h : FixC m nl r W) (hx : Str.ofString "tree" ≠ x ∧ Str.ofString "nodeList" ≠ x ∧ Str.ofString "factor" ≠ x ∧ Str.ofString "horzMarkov" ≠ x ∧ Str.ofString "vertMarkov" ≠ x ∧ Str.ofString "childChar" ≠ x ∧ Str.ofString "parentChar" ≠ x) : FixC (m.put x v) nl r W :=
  ⟨⟨loc_old hx.1 h.pre.tree, h.pre.factor.imp fun _ e => loc_old hx.2.2.1 e, h.pre.horz.imp fun _ e => loc_old hx.2.2.2.1 e, h.pre.vert.imp fun _ e => loc_old hx.2.2.2.2.1 e, h.pre.child.imp fun _ e => loc_old hx.2.2.2.2.2.1 e, h.pre.parent.imp fun _ e => loc_old hx.2.2.2.2.2.2 e⟩, loc_old hx.2.1 h.list⟩
structure LocN (m : Loc) (nl r : Addr) (W : Way) (a q : Addr) (l ps : Str) : Prop where
  fix : FixC m nl r W
  node : m (Str.ofString "node") = some (.ref a)
  orig : ∃ t, m (Str.ofString "originalNode") = some (.str l t)
  pstr : ∃ t, m (Str.ofString "parentString") = some (.str ps t)
  par : m (Str.ofString "parent") = some (.ref q)
theorem LocN.put {m : Loc} {nl r : Addr} {W : Way} {a q : Addr} {l ps : Str} {x : Str} {v : Value} (h : LocN m nl r W a q l ps)
    (hx : Str.ofString "tree" ≠ x ∧ Str.ofString "nodeList" ≠ x ∧ Str.ofString "factor" ≠ x ∧ Str.ofString "horzMarkov" ≠ x ∧ Str.ofString "vertMarkov" ≠ x ∧ Str.ofString "childChar" ≠ x ∧ Str.ofString "parentChar" ≠ x)
    (hy : Str.ofString "node" ≠ x ∧ Str.ofString "originalNode" ≠ x ∧ Str.ofString "parentString" ≠ x ∧ Str.ofString "parent" ≠ x) : LocN (m.put x v) nl r W a q l ps :=
  ⟨h.fix.put hx, loc_old hy.1 h.node, h.orig.imp fun _ e => loc_old hy.2.1 e, h.pstr.imp fun _ e => loc_old hy.2.2.1 e, loc_old hy.2.2.2 h.par⟩
inductive EntAll (σ : Sto) (q : Addr) : List Value → List Value → Prop where
  | nil : EntAll σ q [] []
  | cons {v : Value} {p : Addr} {vs es : List Value} : σ p = some (.tup [v, .ref q]) → EntAll σ q vs es → EntAll σ q (v :: vs) (.ref p :: es)
theorem EntAll.frz {σ σ' : Sto} {q : Addr} {vs es : List Value} (h : EntAll σ q vs es) (k : Frz σ σ') : EntAll σ' q vs es := by
  induction h with
  | nil => exact .nil
  | cons h _ ih => exact .cons (k _ _ h rfl rfl) ih
theorem EntAll.length {σ : Sto} {q : Addr} : ∀ {vs es : List Value}, EntAll σ q vs es → vs.length = es.length
  | _, _, .nil => rfl
  | _, _, .cons _ h => by simp [EntAll.length h]
theorem EntAll.snoc {σ : Sto} {q : Addr} {v : Value} {p : Addr} (h : σ p = some (.tup [v, .ref q])) : ∀ {vs es : List Value}, EntAll σ q vs es → EntAll σ q (vs ++ [v]) (es ++ [.ref p])
  | _, _, .nil => .cons h .nil
  | _, _, .cons h1 h2 => .cons h1 (EntAll.snoc h h2)
theorem EntAll.last {σ : Sto} {q : Addr} {v : Value} : ∀ {vs es : List Value}, EntAll σ q (vs ++ [v]) es → ∃ es' p, es = es' ++ [.ref p] ∧ σ p = some (.tup [v, .ref q]) ∧ EntAll σ q vs es'
  | [], _, .cons h .nil => ⟨[], _, rfl, h, .nil⟩
  | _ :: _, _, .cons h1 h2 => let ⟨es', p, e1, e2, e3⟩ := EntAll.last h2; ⟨_ :: es', p, by rw [e1]; rfl, e2, .cons h1 e3⟩
section
variable (Γ : Cx) (A : Around) (L : Addr) (code : Code) (Q : Flow → Loc → Sto → Prop) (nl r : Addr) (W : Way)
def CNode (n : Nat) : Prop := ∀ {t : T} {v : Value} {fs : List Addr} {st : List Value} {p q : Addr} {pv : List Value} {par : List Str} {m : Loc} {σ : Sto} {root : Bool}, Sm n t → FixC m nl r W → σ nl = some (.pls (st ++ [.ref p])) → st.length + 8 * n ≤ 40 →
  σ p = some (.tup [v, .ref q]) → σ q = some (.lst pv) → StrsAre pv par → par.length ≤ 8 → (∀ x ∈ par, x.length ≤ 1) → TrAt σ t v fs → fs.Nodup → (root = true → v = .ref r) →
  (∀ σ' t' f', Stp (fun b => b ∈ fs ∨ b = nl) σ σ' → TrAt σ' t' v f' → Wid (3 * n) t' → ∃ big F, TrAt σ' big (.ref r) F ∧ Wid 12 big ∧ (root = false ∧ tsz t' < tsz big ∨ root = true ∧ big = t')) →
  (∀ m' σ' fs', FixC m' nl r W → Stp (fun b => b ∈ fs ∨ b = nl) σ σ' → σ' nl = some (.pls st) → TrAt σ' (cnf W root par t) v fs' → fs'.Nodup → (∀ x ∈ fs', x ∈ fs ∨ σ x = none) → WC Γ A L code Q m' σ') → WC Γ A L code Q m σ
def CKids (n : Nat) : Prop := ∀ (pre : List T) {D : List T} {vpre vD es : List Value} {fpre fD : List Addr} {st : List Value} {q : Addr} {pv : List Value} {par : List Str} {m : Loc} {σ : Sto}, (∀ k ∈ pre, Sm n k) → (∀ k ∈ D, Wid (3 * n) k) → FixC m nl r W → σ nl = some (.pls (st ++ es)) → st.length + pre.length + 8 * n ≤ 40 →
  EntAll σ q vpre es → σ q = some (.lst pv) → StrsAre pv par → par.length ≤ 8 → (∀ x ∈ par, x.length ≤ 1) → TrAll σ pre vpre fpre → TrAll σ D vD fD → (fpre ++ fD).Nodup →
  (∀ σ' us g, Stp (fun b => b ∈ fpre ++ fD ∨ b = nl) σ σ' → TrAll σ' us (vpre ++ vD) g → (∀ u ∈ us, Wid (3 * n) u) → ∃ big F, TrAt σ' big (.ref r) F ∧ Wid 12 big ∧ ∀ u ∈ us, tsz u < tsz big) →
  (∀ m' σ' g', FixC m' nl r W → Stp (fun b => b ∈ fpre ∨ b = nl) σ σ' → σ' nl = some (.pls st) → TrAll σ' (cnfs W par pre ++ D) (vpre ++ vD) g' → g'.Nodup → (∀ x ∈ g', x ∈ fpre ++ fD ∨ σ x = none) → WC Γ A L code Q m' σ') → WC Γ A L code Q m σ
end
theorem Bn.wid {k : Nat} {right : Bool} {hdr : List Str → Str} {lab : Str} {ns : List Str} {us ks : List T} (h : Bn right hdr ns us ks) (hk : ∀ u ∈ us, Wid k u) : ks.length ≤ 2 ∧ ∀ u ∈ ks, Wid (k + (us.length - 2)) u := by
  have two : ∀ {a b : T} {j : Nat}, Wid j a → Wid j b → ([a, b] : List T).length ≤ 2 ∧ ∀ u ∈ [a, b], Wid j u := fun ha hb => ⟨Nat.le_refl 2, fun u hu => by
    rcases List.mem_cons.mp hu with rfl | hu
    · exact ha
    · cases List.mem_singleton.mp hu; exact hb⟩
  induction h with
  | small h1 h2 => exact ⟨by omega, fun u hu => (hk u hu).mono (Nat.le_add_right _ _)⟩
  | rt _ h2 b ih =>
    have hl := b.len
    obtain ⟨i1, i2⟩ := ih fun u hu => hk u (.tail _ hu)
    exact two ((hk _ (.head _)).mono (Nat.le_add_right _ _)) ((Wid.n (Nat.le_trans i1 (by decide)) i2).mono (by rw [List.length_cons]; omega))
  | lf _ h2 b ih =>
    have hl := b.len
    obtain ⟨i1, i2⟩ := ih fun u hu => hk u (List.mem_append_left _ hu)
    exact two ((Wid.n (Nat.le_trans i1 (by decide)) i2).mono (by rw [List.length_append, List.length_singleton]; omega)) ((hk _ (by simp)).mono (Nat.le_add_right _ _))
theorem bin_wid {k : Nat} {right : Bool} {lab : Str} {hdr : List Str → Str} {ns : List Str} {us : List T} (h : ns.length = us.length) (hl : us.length ≤ 4) (hk : ∀ u ∈ us, Wid k u) : Wid (k + 2 + 1) (bin right lab hdr ns us) := by
  obtain ⟨ks, e, b⟩ := bin_bn (right := right) (lab := lab) (hdr := hdr) h
  obtain ⟨i1, i2⟩ := b.wid (lab := lab) hk
  rw [e]
  exact .n (Nat.le_trans i1 (by decide)) fun u hu => (i2 u hu).mono (by omega)
theorem cnf_wid (W : Way) : ∀ {n : Nat} {t : T}, Sm n t → ∀ (root : Bool) (par : List Str), Wid (3 * n) (cnf W root par t) := by
  intro n t h
  induction h with
  | w _ => intro root par; exact .w
  | @n n l ks h1 h0 h2 h3 ih =>
    intro root par
    have hk : ∀ par, ∀ k ∈ cnfs W par ks, Wid (3 * n) k := by
      intro par
      clear h1 h0 h2 h3
      induction ks with
      | nil => intro k hk; cases hk
      | cons a b ih2 =>
        intro k hk
        rcases List.mem_cons.mp hk with rfl | hk
        · exact ih a (.head _) false par
        · exact ih2 (fun k h => ih k (.tail _ h)) k hk
    unfold cnf
    exact bin_wid (by rw [cnfs_length, List.length_map]) (by rw [cnfs_length]; exact h2) fun u hu => hk _ u hu

theorem kids_of {Γ : Cx} {A : Around} {L : Addr} {code : Code} {Q : Flow → Loc → Sto → Prop} {nl r : Addr} {W : Way} {n : Nat} (hN : CNode Γ A L code Q nl r W n) : CKids Γ A L code Q nl r W n := by
  intro pre
  induction h : pre.length generalizing pre with
  | zero =>
    intro D vpre vD es fpre fD st q pv par m σ h1 h2 hm hs hz he hq hp hp8 hp1 ht hD hnd hw hc
    obtain rfl := List.eq_nil_of_length_eq_zero h
    obtain ⟨rfl, rfl⟩ := ht
    cases he
    rw [List.append_nil] at hs
    exact hc m σ fD hm Stp.refl hs hD hnd fun x hx => .inl hx
  | succ k ih =>
    intro D vpre vD es fpre fD st q pv par m σ h1 h2 hm hs hz he hq hp hp8 hp1 ht hD hnd hw hc
    obtain ⟨pre', t, rfl⟩ : ∃ pre' t, pre = pre' ++ [t] := ⟨pre.dropLast, pre.getLast (by intro z; rw [z] at h; cases h), (List.dropLast_concat_getLast _).symm⟩
    have hk : pre'.length = k := by simpa using h
    obtain ⟨v1, v2, f1, f2, rfl, rfl, t1, t2⟩ := ht.split
    obtain ⟨v, _, f2', f0, e1, e2, t2, e3⟩ := t2
    obtain ⟨e4, e5⟩ := e3
    subst e4 e1 e5
    rw [List.append_nil] at e2
    subst e2
    obtain ⟨es', p, rfl, hpv, he'⟩ := he.last
    have hst : Sm n t := h1 t (by simp)
    have nlf : ∀ x, x ∈ f1 ++ f2 ∨ x ∈ fD → x ≠ nl := fun x hx z => by
      subst z
      have : ∃ l c, σ x = some (.tre l c) := by
        rcases hx with hx | hx
        · rcases List.mem_append.mp hx with hx | hx
          · exact t1.there x hx
          · exact t2.there x hx
        · exact hD.there x hx
      obtain ⟨l, c, e⟩ := this
      rw [hs] at e; cases e
    simp only [List.nodup_append, List.mem_append] at hnd
    have d12 : ∀ x ∈ f1, x ∉ f2 := fun x a b => hnd.1.2.2 x a x b rfl
    have d2D : ∀ x ∈ f2, x ∉ fD := fun x a b => hnd.2.2 x (.inr a) x b rfl
    have d1D : ∀ x ∈ f1, x ∉ fD := fun x a b => hnd.2.2 x (.inl a) x b rfl
    rw [← List.append_assoc] at hs
    refine hN (root := false) hst hm hs ?_ hpv hq hp hp8 hp1 t2 hnd.1.2.1 nofun (fun σ' t' f' st' ht' hw' => ?_) fun m' σ' f' hm' st' hs' ht' hnd' hsub => ?_
    · have : es'.length = pre'.length := by
        have a := t1.length
        have b := he'.length
        omega
      simp at hz ⊢; omega
    · have q1 : TrAll σ' pre' v1 f1 := t1.stp st' fun x hx z => z.elim (d12 x hx) (nlf x (.inl (List.mem_append_left _ hx)))
      have q2 : TrAll σ' D vD fD := hD.stp st' fun x hx z => z.elim (fun z => d2D x z hx) (nlf x (.inr hx))
      obtain ⟨big, F, b1, b2, b3⟩ := hw σ' (pre' ++ [t'] ++ D) _ (st'.weak fun x hx => hx.imp (fun h => List.mem_append_left _ (List.mem_append_right _ h)) id) (q2.append (q1.snoc ht')) (fun u hu => by
        simp only [List.mem_append, List.mem_singleton] at hu
        rcases hu with (hu | rfl) | hu
        · exact (h1 u (by simp [hu])).wid.mono (by omega)
        · exact hw'
        · exact h2 u hu)
      exact ⟨big, F, b1, b2, .inl ⟨rfl, b3 t' (by simp)⟩⟩
    · have q1 : TrAll σ' pre' v1 f1 := t1.stp st' fun x hx z => z.elim (d12 x hx) (nlf x (.inl (List.mem_append_left _ hx)))
      have q2 : TrAll σ' D vD fD := hD.stp st' fun x hx z => z.elim (fun z => d2D x z hx) (nlf x (.inr hx))
      have qD : TrAll σ' (cnf W false par t :: D) (v :: vD) (f' ++ fD) := ⟨v, vD, f', fD, rfl, rfl, ht', q2⟩
      have fr : ∀ x, x ∈ f' → x ∈ f2 ∨ σ x = none := hsub
      have old1 : ∀ x ∈ f1, ∃ o, σ x = some o := fun x hx => let ⟨_, _, e⟩ := t1.there x hx; ⟨_, e⟩
      have oldD : ∀ x ∈ fD, ∃ o, σ x = some o := fun x hx => let ⟨_, _, e⟩ := hD.there x hx; ⟨_, e⟩
      refine ih pre' hk (fun k hk => h1 k (by simp [hk])) (D := cnf W false par t :: D) (fun k hk => ?_) hm' hs' (by omega) (he'.frz st'.frz) (st' _ _ hq (.inl rfl)) hp hp8 hp1 q1 qD ?_ ?_ ?_
      · rcases List.mem_cons.mp hk with rfl | hk
        · exact cnf_wid W hst _ _
        · exact h2 k hk
      · simp only [List.nodup_append, List.mem_append]
        refine ⟨hnd.1.1, ⟨hnd', hnd.2.1, fun a ha b hb hab => ?_⟩, fun a ha b hb hab => ?_⟩
        · subst hab
          rcases fr a ha with z | z
          · exact d2D a z hb
          · obtain ⟨o, e⟩ := oldD a hb; rw [z] at e; cases e
        · subst hab
          rcases hb with hb | hb
          · rcases fr a hb with z | z
            · exact d12 a ha z
            · obtain ⟨o, e⟩ := old1 a ha; rw [z] at e; cases e
          · exact d1D a ha hb
      · intro σ'' us g st'' tu wu
        refine hw σ'' us g (st'.transW st'' (fun x hx => hx.imp (fun h => List.mem_append_left _ (List.mem_append_right _ h)) id) fun x o e hx => .inl ?_) (by simpa using tu) wu
        rcases hx with hx | hx
        · simp only [List.mem_append] at hx ⊢
          rcases hx with hx | hx | hx
          · exact .inl (.inl (.inl hx))
          · rcases fr x hx with z | z
            · exact .inl (.inl (.inr z))
            · rw [z] at e; cases e
          · exact .inl (.inr hx)
        · exact .inr hx
      · intro m'' σ'' g' hm'' st'' hs'' tg hnd'' hsub''
        refine hc m'' σ'' g' hm'' (st'.transW st'' (fun x hx => hx.imp (fun h => List.mem_append_right _ h) id) fun x o e hx => .inl (hx.imp (fun h => List.mem_append_left _ h) id)) hs'' ?_ hnd'' fun x hx => ?_
        · rw [cnfs_append]
          simpa [cnfs] using tg
        · rcases hsub'' x hx with z | z
          · simp only [List.mem_append] at z ⊢
            rcases z with z | z | z
            · exact .inl (.inl (.inl z))
            · rcases fr x z with y | y
              · exact .inl (.inl (.inr y))
              · exact .inr y
            · exact .inl (.inr z)
          · cases q : σ x with
            | none => exact .inr rfl
            | some o =>
              refine .inl ?_
              by_cases hx2 : x ∈ f2
              · simp [hx2]
              · by_cases hxn : x = nl
                · subst hxn; rw [hs'] at z; cases z
                · have := st' x o q (.inr fun y => y.elim hx2 hxn)
                  rw [z] at this; cases this
theorem bin_small {right : Bool} {lab : Str} {hdr : List Str → Str} {ns : List Str} {us : List T} (h : us.length ≤ 2) : bin right lab hdr ns us = .n lab us := by
  unfold bin
  rw [Nat.sub_eq_zero_of_le h]
  rfl

theorem len_app (x y : Str) : (x ++ y).length = x.length + y.length := by
  obtain ⟨x⟩ := x; obtain ⟨y⟩ := y
  show (x ++ y).size = x.size + y.size
  simp
theorem len_lt1 : (Str.ofString "<").length = 1 := rfl
theorem len_gt1 : (Str.ofString ">").length = 1 := rfl
theorem len_mi1 : (Str.ofString "-").length = 1 := rfl
theorem len_em : (Str.ofString "").length = 0 := rfl
theorem sl24 : sizeLine = 16777216 := rfl
theorem str_assoc (x y z : Str) : x ++ y ++ z = x ++ (y ++ z) := by
  obtain ⟨x⟩ := x; obtain ⟨y⟩ := y; obtain ⟨z⟩ := z
  show (⟨(x ++ y) ++ z⟩ : Str) = ⟨x ++ (y ++ z)⟩
  rw [Array.append_assoc]
theorem sjoin_len (sep : Str) : ∀ ys : List Str, (Str.join sep ys).length ≤ (ys.map (·.length)).sum + ys.length * sep.length
  | [] => Nat.zero_le _
  | [y] => by
    show y.length ≤ _
    simp
  | y :: z :: r => by
    have := sjoin_len sep (z :: r)
    show (y ++ sep ++ Str.join sep (z :: r)).length ≤ _
    rw [len_app, len_app]
    simp only [List.map_cons, List.sum_cons, List.length_cons, Nat.add_mul, Nat.one_mul] at *
    omega
theorem join_len (sep : Str) (ys : List Str) : (Txt.join sep ys).length ≤ (ys.map (·.length)).sum + ys.length * sep.length := by
  have e : Txt.join sep ys = Str.join sep ys := StrLaws.glued_eq_join sep ys
  rw [e]; exact sjoin_len sep ys
theorem sum_le1 : ∀ {ys : List Str}, (∀ y ∈ ys, y.length ≤ 1) → (ys.map (·.length)).sum ≤ ys.length
  | [], _ => Nat.le_refl _
  | y :: r, h => by
    have h1 := h y (.head _)
    have h2 := sum_le1 fun z hz => h z (.tail _ hz)
    simp only [List.map_cons, List.sum_cons, List.length_cons]; omega
theorem clip_pos {n : Nat} (k : Nat) : clipAt n (k : Int) = min k n := by
  have e := clipAt_cast n k
  rw [if_neg (by omega)] at e
  omega
theorem clip_neg {n k : Nat} (h : 0 < k) (h2 : k ≤ n) : clipAt n (-(k : Int)) = n - k := by
  have e := clipAt_cast n (-(k : Int))
  rw [if_pos (by omega)] at e
  omega
theorem take_min (vs : List Value) (k : Nat) : vs.take (min k vs.length) = vs.take k := by
  rcases Nat.le_total k vs.length with h | h
  · rw [Nat.min_eq_left h]
  · rw [Nat.min_eq_right h, List.take_of_length_le (Nat.le_refl _), List.take_of_length_le h]
theorem cut_upto {vs : List Value} {k : Int} (h : 0 ≤ k) : cut vs none (some k) = vs.take k.toNat := by
  obtain ⟨k, rfl⟩ := Int.eq_ofNat_of_zero_le h
  unfold cut
  simp only [Option.elim, List.drop_zero, Nat.sub_zero, clip_pos, Int.toNat_natCast]
  exact take_min vs k
theorem cut_run {vs : List Value} {i k : Int} (h0 : 0 ≤ i) (h : i ≤ k) (hl : i ≤ vs.length) : cut vs (some i) (some k) = (vs.drop i.toNat).take (k - i).toNat := by
  obtain ⟨i, rfl⟩ := Int.eq_ofNat_of_zero_le h0
  obtain ⟨k, rfl⟩ := Int.eq_ofNat_of_zero_le (Int.le_trans h0 h)
  have hl : i ≤ vs.length := Int.ofNat_le.mp hl
  unfold cut
  simp only [Option.elim, clip_pos, Int.toNat_natCast, Nat.min_eq_left hl]
  have e : min k vs.length - i = min (k - i) (vs.drop i).length := by rw [List.length_drop]; omega
  rw [Int.toNat_sub, e]
  exact take_min _ _
theorem cut_neg {vs : List Value} {i k : Int} (h0 : 0 ≤ i) (hk : 0 < k) (hk2 : k ≤ vs.length) : cut vs (some i) (some (-k)) = (vs.take (vs.length - k.toNat)).drop i.toNat := by
  obtain ⟨i, rfl⟩ := Int.eq_ofNat_of_zero_le h0
  obtain ⟨k, rfl⟩ := Int.eq_ofNat_of_zero_le (Int.le_of_lt hk)
  have hk : 0 < k := Int.ofNat_lt.mp hk
  have hk2 : k ≤ vs.length := Int.ofNat_le.mp hk2
  unfold cut
  simp only [Option.elim, clip_pos, clip_neg hk hk2, Int.toNat_natCast]
  rw [List.drop_take]
  rcases Nat.le_total i vs.length with q | q
  · rw [Nat.min_eq_left q]
  · rw [Nat.min_eq_right q, List.drop_eq_nil_of_le q, List.drop_eq_nil_of_le (Nat.le_refl _), List.take_nil, List.take_nil]
theorem Strs.take : ∀ {vs : List Value} {ys : List Str}, StrsAre vs ys → ∀ k : Nat, StrsAre (vs.take k) (ys.take k)
  | _, _, _, 0 => .nil
  | _, _, .nil, _ + 1 => .nil
  | _, _, .cons n t h, k + 1 => .cons n t (Strs.take h k)
theorem Strs.drop : ∀ {vs : List Value} {ys : List Str}, StrsAre vs ys → ∀ k : Nat, StrsAre (vs.drop k) (ys.drop k)
  | _, _, h, 0 => h
  | _, _, .nil, _ + 1 => .nil
  | _, _, .cons _ _ h, k + 1 => Strs.drop h k
theorem Strs.app : ∀ {vs ws : List Value} {ys zs : List Str}, StrsAre vs ys → StrsAre ws zs → StrsAre (vs ++ ws) (ys ++ zs)
  | _, _, _, _, .nil, h => h
  | _, _, _, _, .cons n t r, h => .cons n t (Strs.app r h)
theorem Strs.len : ∀ {vs : List Value} {ys : List Str}, StrsAre vs ys → vs.length = ys.length
  | _, _, .nil => rfl
  | _, _, .cons _ _ h => by simp [Strs.len h]
theorem sl_right {vs : List Value} {ys : List Str} (h : StrsAre vs ys) {i : Int} {k n : Nat} {x : Int} (h0 : 0 ≤ i) (hi : i ≤ ys.length) (hn : n = ys.length) (hx : x = min (i + (k : Int)) (n : Int)) : StrsAre (cut vs (some i) (some x)) ((ys.drop i.toNat).take k) := by
  have hl := Strs.len h
  rw [cut_run h0 (by omega) (by omega)]
  have := Strs.take (Strs.drop h i.toNat) (x - i).toNat
  have e : (ys.drop i.toNat).take (x - i).toNat = (ys.drop i.toNat).take k := by
    rcases Nat.le_total k (ys.length - i.toNat) with q | q
    · congr 1; omega
    · rw [List.take_of_length_le (by rw [List.length_drop]; omega), List.take_of_length_le (by rw [List.length_drop]; omega)]
  rwa [e] at this
theorem sl_left {vs : List Value} {ys : List Str} (h : StrsAre vs ys) {i : Int} {k n : Nat} {x : Int} (h0 : 0 < i) (hi : i ≤ ys.length) (hn : n = ys.length) (hx : x = max ((n : Int) - i - (k : Int)) 0) : StrsAre (cut vs (some x) (some (-i))) ((ys.take (ys.length - i.toNat)).drop (ys.length - i.toNat - k)) := by
  have hl := Strs.len h
  rw [cut_neg (by omega) h0 (by omega)]
  have := Strs.drop (Strs.take h (vs.length - i.toNat)) x.toNat
  have e : x.toNat = ys.length - i.toNat - k := by omega
  rw [e, hl] at this ⊢
  exact this
theorem len_mem1 {ys : List Str} (h : ∀ y ∈ ys, y.length ≤ 1) {zs : List Str} (hz : ∀ z ∈ zs, z ∈ ys) : (zs.map (·.length)).sum ≤ zs.length := sum_le1 fun z q => h z (hz z q)
theorem len3 {α : Type} : ∀ {l : List α}, l.length = 3 → ∃ a b c, l = [a, b, c]
  | [a, b, c], _ => ⟨a, b, c, rfl⟩
theorem len4 {α : Type} : ∀ {l : List α}, l.length = 4 → ∃ a b c d, l = [a, b, c, d]
  | [a, b, c, d], _ => ⟨a, b, c, d, rfl⟩
theorem WC.mono {Γ : Cx} {A : Around} {L : Addr} {c : Code} {Q Q' : Flow → Loc → Sto → Prop} {m : Loc} {σ : Sto} (h : WC Γ A L c Q m σ) (k : ∀ f m' σ', Q f m' σ' → Q' f m' σ') : WC Γ A L c Q' m σ := ⟨fun s S => codeAny_mono (h.run s S) fun r s' q => by
  cases r with
  | ok f => obtain ⟨m', σ', S', q⟩ := q; exact ⟨m', σ', S', k _ _ _ q⟩
  | error e => exact q⟩

def one (c : Nat) : Str := ⟨#[c]⟩
def NoC (c : Nat) (x : Str) : Prop := c ∉ x.cps.toList
theorem NoC.app {c : Nat} {x y : Str} (h1 : NoC c x) (h2 : NoC c y) : NoC c (x ++ y) := by
  obtain ⟨x⟩ := x; obtain ⟨y⟩ := y
  show c ∉ (x ++ y).toList
  simp only [Array.toList_append, List.mem_append]
  exact fun h => h.elim h1 h2
theorem NoC.join {c : Nat} {sep : Str} {ys : List Str} (h1 : NoC c sep) (h2 : ∀ y ∈ ys, NoC c y) : NoC c (Txt.join sep ys) := by
  have e : Txt.join sep ys = Str.join sep ys := StrLaws.glued_eq_join sep ys
  rw [e]
  intro h
  rcases (mem_join sep c ys).mp h with ⟨t, ht, h⟩ | ⟨_, h⟩
  · exact h2 t ht h
  · exact h1 h
theorem find_not {x : Str} {c : Nat} (h : NoC c x) : Txt.find x (one c) = -1 := by
  rcases find_whole x (one c) with ⟨e, _⟩ | ⟨i, _, hi, _⟩
  · exact e
  · exact absurd (List.mem_of_getElem? ((StrLaws.subAt_one x c i).mp hi)) h
theorem cps_app (x y : Str) : (x ++ y).cps.toList = x.cps.toList ++ y.cps.toList := by
  obtain ⟨x⟩ := x; obtain ⟨y⟩ := y
  show (x ++ y).toList = _
  simp
theorem find_first {a b : Str} {c : Nat} (h : NoC c a) : Txt.find (a ++ one c ++ b) (one c) = a.length := by
  have hc : (a ++ one c ++ b).cps.toList[a.length]? = some c := by
    rw [cps_app, cps_app]
    have : a.length = a.cps.toList.length := by simp [Str.length]
    rw [this]
    simp [one]
  rcases find_whole (a ++ one c ++ b) (one c) with ⟨_, e⟩ | ⟨i, e, hi, hk⟩
  · exact absurd ((StrLaws.subAt_one _ c _).mpr hc) (e a.length)
  · rw [e]
    have h1 : ¬ a.length < i := fun z => hk _ z ((StrLaws.subAt_one _ c _).mpr hc)
    have h2 : ¬ i < a.length := fun z => by
      have := (StrLaws.subAt_one _ c i).mp hi
      rw [cps_app, cps_app] at this
      have ha : a.length = a.cps.toList.length := by simp [Str.length]
      rw [List.getElem?_append_left (by rw [List.length_append]; omega), List.getElem?_append_left (by omega)] at this
      exact h (List.mem_of_getElem? this)
    omega

section
variable {Γ : Cx} {A : Around} {L : Addr} {m : Loc} {σ : Sto} {s : Shared} {n : Nat} {l b : Addr} {vs ws : List Value}
theorem b_pls {Q : Bool → Loc → Sto → Prop} (hl : σ l = some (.pls vs)) (hz : vs.length ≤ 1000) (h : Q (!vs.isEmpty) m σ) : W Γ A L (truthy (.ref l)) Q m σ := ⟨fun s S => by
  obtain ⟨k, e⟩ := S.pls hl
  exact wpAny_truthy_list (Heap.PlainList.isList ⟨k, e⟩) (by rw [List.size_toArray]; omega) (by
    have : (vs.toArray).isEmpty = vs.isEmpty := by cases vs <;> rfl
    rw [this]; exact ⟨m, σ, S.tok _, h⟩)⟩
theorem m_find {x : Str} {t : Tok} {pl : Sem Bool} {Q : Value × List Value → Loc → Sto → Prop} (h : Q (.builtin "str.find", [.str x t]) m σ) : W Γ A L (getMethod (.str x t) "find" pl) Q m σ := ⟨fun s S => GM.find ⟨m, σ, S, h⟩⟩
theorem c_find {x y : Str} {t u : Tok} {Q : Value → Loc → Sto → Prop} (h : ∀ t, Q (.int (Txt.find x y) t) m σ) : W Γ A L (call (.builtin "str.find") [.str x t, .str y u]) Q m σ := ⟨fun s S => SC.find ⟨m, σ, S.tok _, h _⟩⟩
theorem m_extend {pl : Sem Bool} {Q : Value × List Value → Loc → Sto → Prop} (hl : σ l = some (.pls vs)) (h : Q (.builtin "list.extend", [.ref l]) m σ) : W Γ A L (getMethod (.ref l) "extend" pl) Q m σ := m_pls hl PySem.F.slot_list_extend PySem.F.type_list_extend h
theorem ext_pls {Q : Value → Loc → Sto → Prop} (hl : σ l = some (.pls vs)) (hb : σ b = some (.pls ws)) (hne : l ≠ b) (hz : vs.length + ws.length ≤ 1000) (h : ∀ σ', Stp (· = l) σ σ' → σ' l = some (.pls (vs ++ ws)) → Q .none m σ') : W Γ A L (call (.builtin "list.extend") [.ref l, .ref b]) Q m σ := ⟨fun s S => by
  obtain ⟨k, e⟩ := S.pls hl
  obtain ⟨k2, e2⟩ := S.pls hb
  have q := PySem.IsL.update e (fun xs => xs ++ ws.toArray)
  have ea : vs.toArray ++ ws.toArray = (vs ++ ws).toArray := by simp
  rw [ea] at q
  have hd : ¬(!vs.toArray.isEmpty && Builtin.List.listTooLong (vs.toArray.size + ws.toArray.size)) = true := by
    have : Builtin.List.listTooLong (vs.toArray.size + ws.toArray.size) = false := by
      unfold Builtin.List.listTooLong
      simp
      have := sl24
      omega
    rw [this]; simp
  exact call_meets PySem.F.slot_list_extend ⟨_, e, rfl⟩ PySem.F.entry_list_extend (PySem.F.args_list_extend_2 _ _) (PySem.AutoSeq1.list_extend_list_list_0 l _ k b _ k2 hd (by rw [List.size_toArray, sl24]; omega) (by rw [List.size_toArray, List.size_toArray, sl24]; omega)) ⟨e, e2, ⟨m, _, S.turn (o' := .pls (vs ++ ws)) (t := s.toks) hl nofun (fun c ob hc e => ((Heap.SameBut.update ..).2 c hc).trans e) ⟨_, q⟩, h _ (Stp.turn hl rfl) put_self⟩⟩⟩
theorem sub_upto {value slice : Expr} {x : Str} {t uj : Tok} {a : Addr} {j : Int} {Q : Value → Loc → Sto → Prop} (ha : σ a = some (.raw (sliceO .none (.int j uj)))) (hz : x.length ≤ sizeLine) (h : ∀ t, Q (.str (Txt.slice x none (some j)) t) m σ)
    (hs : subscripted slice false (.str x t) (.ref a) = operate [.ref a, .str x t] (getItem (.str x t) (.ref a)) := by with_unfolding_all rfl)
    (ht : ∀ r, letTemporaryGo value (.str x t) r = Pure.pure () := by intro _; with_unfolding_all rfl) : W Γ A L (subscriptTail value slice (.str x t) (.ref a)) Q m σ := ⟨fun s S =>
  tail_of_ItemOn ⟨"str", _, PySem.F.slot_str_getitem.lookup, typeIs_str _ _ _, wpAny_getItem_str_slice (l := none) (u := some (j, uj)) (st := none) ⟨_, S.raw ha, rfl, rfl⟩ rfl
    (post_val_or_str ⟨Nat.le_trans (Txt.slice_le x _ _) hz, fun t' k => ⟨m, σ, S.tok _, h _⟩⟩)⟩ hs ht⟩
end

theorem nolen_lri : typeLookup (.type "list_reverseiterator") "__len__" = Pure.pure none := by rw [typeLookup_type, builtinLookup_eq_fast]; kernel_rfl
theorem hint_lri : typeLookup (.type "list_reverseiterator") "__length_hint__" = Pure.pure (some (.builtin "list_reverseiterator.__length_hint__")) := by rw [typeLookup_type, builtinLookup_eq_fast]; kernel_rfl
theorem slot_lri_hint : Slot "list_reverseiterator" "__length_hint__" "list_reverseiterator.__length_hint__" :=
  .of (owner := "list_reverseiterator") (n := "__length_hint__") (by rw [typeLookup_type, builtinLookup_eq_fast]; kernel_rfl) (by decide +kernel) (by decide +kernel) (by decide +kernel)
    (by first | exact .inl (by decide +kernel) | exact .inr (by decide +kernel)) (by rw [isSubtype_type]; kernel_rfl)
theorem entry_lri_hint : entryFor table "list_reverseiterator.__length_hint__" = some Builtin.«list_reverseiterator.__length_hint__» := entryFor_of_tree (by kernel_rfl)
theorem args_lri_hint (a : Value) : argsOk "list_reverseiterator.__length_hint__" ⟨[a], []⟩ := by
  unfold argsOk; rw [signature?_of (id := "list_reverseiterator.__length_hint__") (n := ['_', '_', 't', 'n', 'i', 'h', '_', 'h', 't', 'g', 'n', 'e', 'l', '_', '_']) (o := ['r', 'o', 't', 'a', 'r', 'e', 't', 'i', 'e', 's', 'r', 'e', 'v', 'e', 'r', '_', 't', 's', 'i', 'l']) (by kernel_rfl) PySem.F.owner_lri]; kernel_rfl
section
variable {prog : Program} {w : World} {A : Around} {E : Value → Shared → Prop} {s : Shared}
theorem hint_call {I l : Addr} {vs : List Value} {Q : Value → Shared → Prop} (hI : s.heap.get? I = some (revObj l ((vs.length : Int) - 1))) (hl : s.heap.IsList l vs.toArray) (h : ∀ tk t, Q (.int vs.length t) { s with toks := tk }) :
    wpAny (model prog w) A (call (.builtin "list_reverseiterator.__length_hint__") [.ref I]) Q E s := by
  obtain ⟨o, ho, hc, n, hd⟩ := hl
  refine wpAny_call_entry slot_lri_hint ⟨_, hI, rfl⟩ entry_lri_hint ?_ (args_lri_hint _)
  show wpAny _ _ (field (.ref I) 0 >>= _) _ _ s
  refine wpAny_bind (wpAny_field hI rfl (x := .ref l) rfl ?_)
  rw [if_neg (by simp)]
  refine wpAny_bind (wpAny_seqItems ho hd ?_)
  refine wpAny_bind (wpAny_field hI rfl (x := rawInt ((vs.length : Int) - 1)) rfl ?_)
  show wpAny _ _ (if ((vs.toArray.size : Int) < (vs.length : Int) - 1 + 1) then _ else _) _ _ s
  rw [if_neg (by rw [List.size_toArray]; omega)]
  have e : (vs.length : Int) - 1 + 1 = vs.length := by omega
  rw [e]
  exact wpAny_bind (wpAny_mkInt (wpAny_pure ⟨_, rfl, h _ _⟩))
theorem list_rev {I l : Addr} {vs : List Value} {Q : Value → Shared → Prop} (hh : A.handled = none) (hI : s.heap.get? I = some (revObj l ((vs.length : Int) - 1))) (hl : s.heap.IsList l vs.toArray) (hz : vs.length ≤ 1000)
    (h : ∀ h' tk, (∀ b o, b ≠ I → s.heap.get? b = some o → h'.get? b = some o) → (∃ n, h'.get? s.heap.objs.size = some { cls := .type "list", data := .seq vs.reverse.toArray n }) → Q (.ref s.heap.objs.size) { s with heap := h', toks := tk }) :
    wpAny (model prog w) A (call (.type "list") [.ref I]) Q E s := by
  have hlI : l ≠ I := fun z => by
    subst z
    obtain ⟨o, ho, hc, _⟩ := hl
    rw [hI] at ho; cases ho; simp [revObj] at hc
  have lI := Heap.lt_size hI
  have ll : l < s.heap.objs.size := let ⟨o, ho, _⟩ := hl; Heap.lt_size ho
  have hSI : s.heap.objs.size ≠ I := Nat.ne_of_gt lI
  have hSl : s.heap.objs.size ≠ l := Nat.ne_of_gt ll
  have nS : ∀ b o, s.heap.get? b = some o → b ≠ s.heap.objs.size := fun b o e => Nat.ne_of_lt (Heap.lt_size e)
  refine callType_codes (Q₁ := fun obj s₁ => obj = .ref s.heap.objs.size ∧ s₁ = { s with heap := s.heap.push { cls := .type "list", data := .seq #[] } }) PySem.F.called_list (PySem.F.typeCall_list_1 _) PySem.F.entry_list_init (code_list_new _ ⟨rfl, rfl⟩) fun obj s₁ h₁ => ?_
  obtain ⟨rfl, rfl⟩ := h₁
  have hS : (s.heap.push { cls := .type "list", data := .seq #[] }).get? s.heap.objs.size = some { cls := .type "list", data := .seq #[] } := Heap.get?_push_size _ rfl
  refine ⟨⟨_, hS, rfl⟩, PySem.F.args_list_init_2 _ _, ?_⟩
  have k0 : ∀ b o, s.heap.get? b = some o → (s.heap.push { cls := .type "list", data := .seq #[] }).get? b = some o := fun b o e => Heap.get?_push_of_some _ e
  generalize s.heap.push { cls := .type "list", data := .seq #[] } = h0 at *
  generalize s.heap.objs.size = S at *
  show wpAny _ A.in1.in1 (do let old ← Builtin.List.listItems (.ref S); Builtin.List.listUpdate (.ref S) (fun _ => #[]); letGo old.toList.reverse; Builtin.List.listExtendWith (.ref S) (.ref I) .none) _ _ _
  refine wpAny_bind ?_
  unfold Builtin.List.listItems
  refine wpAny_bind (wpAny_seqItems hS rfl (wpAny_pure ?_))
  show wpAny _ _ (updateSeq S (fun _ => #[]) >>= fun _ => letGo (#[] : Array Value).toList.reverse >>= fun _ => Builtin.List.listExtendWith (.ref S) (.ref I) .none) _ _ _
  refine wpAny_bind (wpAny_updateSeq hS rfl ?_)
  have hS2 := Heap.get?_update_self (Obj.mapSeq (fun _ => (#[] : Array Value))) hS rfl
  have k1 : ∀ b o, b ≠ S → s.heap.get? b = some o → (h0.update S (Obj.mapSeq (fun _ => (#[] : Array Value)))).get? b = some o := fun b o hb e => (Heap.get?_update_other _ _ (Ne.symm hb)).trans (k0 b o e)
  generalize h0.update S (Obj.mapSeq (fun _ => (#[] : Array Value))) = h1 at *
  refine wpAny_bind (wpAny_letGo ?_)
  unfold Builtin.List.listExtendWith
  have hI1 := k1 _ _ (Ne.symm hSI) hI
  have hl1 : h1.IsList l vs.toArray := hl.at fun o e => k1 _ _ (Ne.symm hSl) e
  refine wpAny_bind (wpAny_typeOf ⟨_, hI1, rfl⟩ ?_)
  have q1 : Builtin.List.listSameRef (.ref S) (.ref I) = false := by simp [Builtin.List.listSameRef, hSI]
  rw [if_neg (by rw [q1]; decide)]
  refine wpAny_bind (wpAny_pyIter_revIter (i := (vs.length : Int) - 1) ⟨_, hI1, rfl, rfl⟩ ?_)
  refine wpAny_bind (wpAny_holding ?_)
  unfold Builtin.List.listLengthHint
  refine wpAny_bind (wpAny_specialOf ⟨_, hI1, rfl⟩ nolen_lri ?_)
  show wpAny _ _ (specialOf (Value.ref I) (Str.ofString "__length_hint__") >>= _) _ _ _
  refine wpAny_bind (wpAny_specialOf ⟨_, hI1, rfl⟩ hint_lri ?_)
  (generalize hid : ("list_reverseiterator.__length_hint__" : String) = id0; (fail_if_success (clear hid id0)); wp_delta; rw [show splitId id0 = some ("list_reverseiterator", "__length_hint__") from by subst hid; decide +kernel]; subst hid)
  refine wpAny_bind (wpAny_isInstance (b := true) ⟨_, hI1, rfl⟩ (by rw [isSubtype_type]; kernel_rfl) ?_)
  refine wpAny_pure ?_
  rw [if_neg (by decide)]
  have W := (Walks.listRev (prog := prog) (w := w) (A := A.in1.in1) hh I l hlI vs.toArray).toS
  refine wpAny_pure ⟨plainId_quiet PySem.F.plain_extend_loop _, codeAny_extend_loopS W (by rw [List.size_toArray, sl24]; omega) S (by simp [hSI, hSl]) _ vs.toArray.size 0 _ _ _ rfl (Nat.zero_le _) ⟨Nat.zero_le _, ⟨_, hI1, rfl, by simp; rfl⟩, hl1⟩ hS2 (ItemsOf.nil _) fun s' acc' c' hm hS' hacc => ?_⟩
  have ea : acc' = vs.reverse.toArray := by
    apply Array.toList_inj.mp
    show acc'.toList = vs.reverse
    have hsz : acc'.toList.length = vs.length := by rw [Array.length_toList, hacc.1, List.size_toArray]
    refine List.ext_getElem? fun j => ?_
    rcases Nat.lt_or_ge j vs.length with hj | hj
    · obtain ⟨v, hv⟩ : ∃ v, acc'[j]? = some v := ⟨_, Array.getElem?_eq_getElem (by rw [← Array.length_toList, hsz]; exact hj)⟩
      have := hacc.2 j v hv
      rw [List.getElem?_reverse hj, Array.getElem?_toList, hv]
      simpa using this.symm
    · rw [List.getElem?_eq_none (by omega), List.getElem?_eq_none (by rw [List.length_reverse]; omega)]
  subst ea
  obtain ⟨hp, g, d, t, os⟩ := s'
  obtain ⟨m1, m2, m3, m4, m5⟩ := hm
  cases m2; cases m3; cases m4
  exact ⟨rfl, h hp t (fun b o hb e => m1 b o (by simp [hb, nS b o e]) (k1 b o (nS b o e) e)) ⟨c', hS'⟩⟩
end
section
variable {Γ : Cx} {A : Around} {L : Addr} {m : Loc} {σ : Sto} {n : Nat} {l I : Addr} {vs : List Value}
theorem rev_new {Q : Value → Loc → Sto → Prop} (hl : σ l = some (.lst vs)) (h : ∀ I σ', Stp No σ σ' → σ I = none → σ' I = some (.raw (revObj l ((vs.length : Int) - 1))) → Q (.ref I) m σ') : W Γ A L (call (.type "reversed") [.ref l]) Q m σ := ⟨fun s S => by
  refine call_reversed_list (S.lst hl) ?_
  rw [List.size_toArray]
  obtain ⟨S', st, fr⟩ := S.add (a := s.heap.objs.size) (o' := .raw (revObj l ((vs.length : Int) - 1))) (t := s.toks) (Nat.le_refl _) nofun (fun b o e => Heap.get?_push_of_some _ e) (Heap.get?_push_size _ rfl)
  exact ⟨m, _, S', h _ _ st fr put_self⟩⟩
theorem rev_list {Q : Value → Loc → Sto → Prop} (hA : Ok A n) (hI : σ I = some (.raw (revObj l ((vs.length : Int) - 1)))) (hl : σ l = some (.lst vs)) (hz : vs.length ≤ 1000) (h : ∀ c σ', Stp1 I σ σ' → σ c = none → σ' c = some (.pls vs.reverse) → Q (.ref c) m σ') : W Γ A L (call (.type "list") [.ref I]) Q m σ := ⟨fun s S => by
  refine list_rev hA.h (S.raw hI) (S.lst hl) hz fun h' tk k hn => ?_
  have fr : σ s.heap.objs.size = none := by
    have := S.real.fresh (Nat.le_refl s.heap.objs.size)
    rwa [put_ne (fun z => by have := S.Llt; rw [← z] at this; exact absurd this (Nat.lt_irrefl _))] at this
  have hI2 : s.heap.objs.size ≠ I := fun z => by rw [z, hI] at fr; cases fr
  have S' : St Γ L m ((σ.del I).put s.heap.objs.size (.pls vs.reverse)) { s with heap := h', toks := tk } := S.multi (fun b => b = I ∨ b = s.heap.objs.size) (fun b hb => hb.imp (fun z => ⟨_, z ▸ hI⟩) fun z => Nat.le_of_eq z.symm) (fun b ob hb e => k b ob (fun z => hb (.inl z)) e)
    (fun b hb => by rw [put_ne (fun z => hb (.inr z)), del_ne (fun z => hb (.inl z))])
    (fun b o hb e => by
      rcases hb with rfl | rfl
      · rw [put_ne (Ne.symm hI2), del_self] at e; cases e
      · rw [put_self] at e; cases e; exact ⟨nofun, hn⟩)
  exact ⟨m, _, S', h _ _ (fun b o e hb => by rw [put_ne (fun z => by (first | rw [z, fr] at e | rw [← z, fr] at e); cases e), del_ne hb]; exact e) fr put_self⟩⟩
end

/-- a node made by the binarizing: its label holds the sign -/
def isH (c : Nat) : T → Bool
  | .w _ => false
  | .n l _ => decide (c ∈ l.cps.toList)
inductive Fl (c : Nat) : List T → List T → Prop where
  | nil : Fl c [] []
  | keep {k : T} {r out : List T} : isH c k = false → Fl c r out → Fl c (k :: r) (k :: out)
  | opn {l : Str} {hs r out : List T} : c ∈ l.cps.toList → (hs ++ r).length ≤ 8 → Fl c (hs ++ r) out → Fl c (.n l hs :: r) out
theorem Fl.self {c : Nat} : ∀ {us : List T}, (∀ u ∈ us, isH c u = false) → Fl c us us
  | [], _ => .nil
  | u :: r, h => .keep (h u (.head _)) (Fl.self fun v hv => h v (.tail _ hv))
theorem Fl.eq {c : Nat} {cs us : List T} (h : Fl c cs us) : cs.any (isH c) = false → cs = us := by
  induction h with
  | nil => intro _; rfl
  | keep h1 _ ih => intro h; rw [List.any_cons, h1, Bool.false_or] at h; rw [ih h]
  | opn h1 _ _ _ => intro h; simp [isH, h1] at h
theorem Fl.app {c : Nat} {r out : List T} (hf : Fl c r out) : ∀ {us : List T}, (∀ u ∈ us, isH c u = false) → Fl c (us ++ r) (us ++ out)
  | [], _ => hf
  | u :: r, h => .keep (h u (.head _)) (hf.app fun v hv => h v (.tail _ hv))
theorem Bn.fl {c : Nat} {right : Bool} {hdr : List Str → Str} (hh : ∀ x, c ∈ (hdr x).cps.toList) {ns : List Str} {us ks : List T} (h : Bn right hdr ns us ks) (hu : ∀ u ∈ us, isH c u = false) : ks.length ≤ 2 ∧ ∀ r out, r.length + us.length ≤ 6 → Fl c r out → Fl c (ks ++ r) (us ++ out) := by
  induction h with
  | small h1 h2 => exact ⟨by omega, fun r out _ hf => hf.app hu⟩
  | @rt n ns u us ks _ _ _ ih =>
    obtain ⟨i1, i2⟩ := ih fun u h => hu u (.tail _ h)
    refine ⟨Nat.le_refl 2, fun r out hl hf => ?_⟩
    rw [List.length_cons] at hl
    show Fl c (u :: T.n (hdr ns) ks :: r) (u :: (us ++ out))
    exact .keep (hu _ (.head _)) (.opn (hh _) (by rw [List.length_append]; omega) (i2 r out (by omega) hf))
  | @lf n ns u us ks _ _ _ ih =>
    obtain ⟨i1, i2⟩ := ih fun u h => hu u (List.mem_append_left _ h)
    refine ⟨Nat.le_refl 2, fun r out hl hf => ?_⟩
    rw [List.length_append, List.length_singleton] at hl
    rw [List.append_assoc]
    show Fl c (T.n (hdr ns) ks :: u :: r) (us ++ u :: out)
    exact .opn (hh _) (by rw [List.length_append, List.length_cons]; omega) (i2 _ _ (by rw [List.length_cons]; omega) (.keep (hu _ (List.mem_append_right _ (.head _))) hf))
theorem bin_fl {c : Nat} {right : Bool} {lab : Str} {hdr : List Str → Str} (hh : ∀ x, c ∈ (hdr x).cps.toList) {ns : List Str} {us : List T} (h : ns.length = us.length) (h4 : us.length ≤ 4) (hu : ∀ u ∈ us, isH c u = false) : ∃ cs, bin right lab hdr ns us = .n lab cs ∧ Fl c cs us ∧ cs.length ≤ 4 := by
  obtain ⟨ks, e, b⟩ := bin_bn (right := right) (lab := lab) (hdr := hdr) h
  obtain ⟨i1, i2⟩ := b.fl hh hu
  have := i2 [] [] (by simp only [List.length_nil]; omega) .nil
  rw [List.append_nil, List.append_nil] at this
  exact ⟨ks, e, this, Nat.le_trans i1 (by decide)⟩
/-- how many turns the flattening takes -/
def tot : List T → Nat
  | [] => 0
  | k :: r => tsz k + tot r
theorem tot_app : ∀ a b, tot (a ++ b) = tot a + tot b
  | [], b => by simp [tot]
  | k :: r, b => by simp [tot, tot_app r b]; omega
theorem tot_tszs : ∀ a, tot a = tszs a
  | [] => rfl
  | k :: r => by simp [tot, tszs, tot_tszs r]

structure FixU (m : Loc) (nl : Addr) (V : Way) : Prop where
  list : m (Str.ofString "nodeList") = some (.ref nl)
  exp : m (Str.ofString "expandUnary") = some (.bool true)
  parent : ∃ t, m (Str.ofString "parentChar") = some (.str V.mark t)
  unary : ∃ t, m (Str.ofString "unaryChar") = some (.str (Str.ofString "+") t)
theorem FixU.put {m : Loc} {nl : Addr} {W : Way} {x : Str} {v : Value} (h : FixU m nl W) (hx : Str.ofString "nodeList" ≠ x ∧ Str.ofString "expandUnary" ≠ x ∧ Str.ofString "parentChar" ≠ x ∧ Str.ofString "unaryChar" ≠ x) : FixU (m.put x v) nl W :=
  ⟨loc_old hx.1 h.list, loc_old hx.2.1 h.exp, h.parent.imp fun _ e => loc_old hx.2.2.1 e, h.unary.imp fun _ e => loc_old hx.2.2.2 e⟩
/-- a label of one sign, none of the three marks -/
def Ok1 (cs cm : Nat) (l : Str) : Prop := l.length = 1 ∧ NoC cs l ∧ NoC cm l ∧ NoC 43 l
inductive Cl (cs cm : Nat) : Nat → T → Prop where
  | w {n : Nat} {s : Str} : Cl cs cm n (.w s)
  | n {n : Nat} {l : Str} {ks : List T} : Ok1 cs cm l → ks.length ≤ 4 → (∀ k ∈ ks, Cl cs cm n k) → Cl cs cm (n + 1) (.n l ks)
section
variable (Γ : Cx) (A : Around) (L : Addr) (code : Code) (Q : Flow → Loc → Sto → Prop) (nl : Addr) (W : Way) (cs cm : Nat) (cc : Addr) (cv : Value)
def UNode (n : Nat) : Prop := ∀ {t : T} {v : Value} {fs : List Addr} {st : List Value} {par : List Str} {m : Loc} {σ : Sto} {root : Bool}, Cl cs cm n t → (∀ x ∈ par, Ok1 cs cm x) → par.length ≤ 8 → FixU m nl W → σ cc = some (.cel (some cv)) → σ nl = some (.pls (st ++ [v])) → st.length + 8 * n ≤ 40 → TrAt σ (cnf W root par t) v fs → fs.Nodup →
  (∀ m' σ' fs', FixU m' nl W → Stp (fun b => b ∈ fs ∨ b = nl) σ σ' → σ' nl = some (.pls st) → TrAt σ' t v fs' → fs'.Nodup → (∀ x ∈ fs', x ∈ fs ∨ σ x = none) → WC Γ A L code Q m' σ') → WC Γ A L code Q m σ
def UKids (n : Nat) : Prop := ∀ (pre : List T) {D : List T} {vpre vD : List Value} {fpre fD : List Addr} {st : List Value} {par : List Str} {m : Loc} {σ : Sto}, (∀ k ∈ pre, Cl cs cm n k) → (∀ x ∈ par, Ok1 cs cm x) → par.length ≤ 8 → FixU m nl W → σ cc = some (.cel (some cv)) → σ nl = some (.pls (st ++ vpre)) → st.length + pre.length + 8 * n ≤ 40 →
  TrAll σ (cnfs W par pre) vpre fpre → TrAll σ D vD fD → (fpre ++ fD).Nodup →
  (∀ m' σ' g', FixU m' nl W → Stp (fun b => b ∈ fpre ∨ b = nl) σ σ' → σ' nl = some (.pls st) → TrAll σ' (pre ++ D) (vpre ++ vD) g' → g'.Nodup → (∀ x ∈ g', x ∈ fpre ++ fD ∨ σ x = none) → WC Γ A L code Q m' σ') → WC Γ A L code Q m σ
end
theorem ukids_of {Γ : Cx} {A : Around} {L : Addr} {code : Code} {Q : Flow → Loc → Sto → Prop} {nl : Addr} {W : Way} {cs cm : Nat} {cc : Addr} {cv : Value} {n : Nat} (hN : UNode Γ A L code Q nl W cs cm cc cv n) : UKids Γ A L code Q nl W cs cm cc cv n := by
  intro pre
  induction h : pre.length generalizing pre with
  | zero =>
    intro D vpre vD fpre fD st par m σ h1 hp hp8 hm hcc hs hz ht hD hnd hc
    obtain rfl := List.eq_nil_of_length_eq_zero h
    obtain ⟨rfl, rfl⟩ := ht
    rw [List.append_nil] at hs
    exact hc m σ fD hm Stp.refl hs hD hnd fun x hx => .inl hx
  | succ k ih =>
    intro D vpre vD fpre fD st par m σ h1 hp hp8 hm hcc hs hz ht hD hnd hc
    obtain ⟨pre', t, rfl⟩ : ∃ pre' t, pre = pre' ++ [t] := ⟨pre.dropLast, pre.getLast (by intro z; rw [z] at h; cases h), (List.dropLast_concat_getLast _).symm⟩
    have hk : pre'.length = k := by simpa using h
    rw [cnfs_append] at ht
    obtain ⟨v1, v2, f1, f2, rfl, rfl, t1, t2⟩ := ht.split
    obtain ⟨v, _, f2', f0, e1, e2, t2, e3⟩ := t2
    obtain ⟨e4, e5⟩ := e3
    subst e4 e1 e5
    rw [List.append_nil] at e2
    subst e2
    have hst : Cl cs cm n t := h1 t (by simp)
    have nlf : ∀ x, x ∈ f1 ++ f2 ∨ x ∈ fD → x ≠ nl := fun x hx z => by
      subst z
      have : ∃ l c, σ x = some (.tre l c) := by
        rcases hx with hx | hx
        · rcases List.mem_append.mp hx with hx | hx
          · exact t1.there x hx
          · exact t2.there x hx
        · exact hD.there x hx
      obtain ⟨l, c, e⟩ := this
      rw [hs] at e; cases e
    simp only [List.nodup_append, List.mem_append] at hnd
    have d12 : ∀ x ∈ f1, x ∉ f2 := fun x a b => hnd.1.2.2 x a x b rfl
    have d2D : ∀ x ∈ f2, x ∉ fD := fun x a b => hnd.2.2 x (.inr a) x b rfl
    have d1D : ∀ x ∈ f1, x ∉ fD := fun x a b => hnd.2.2 x (.inl a) x b rfl
    rw [← List.append_assoc] at hs
    have hv1 : v1.length = pre'.length := by rw [← t1.length, cnfs_length]
    refine hN hst hp hp8 hm hcc hs (by simp; omega) t2 hnd.1.2.1 fun m' σ' f' hm' st' hs' ht' hnd' hsub => ?_
    have q1 : TrAll σ' (cnfs W par pre') v1 f1 := t1.stp st' fun x hx z => z.elim (d12 x hx) (nlf x (.inl (List.mem_append_left _ hx)))
    have q2 : TrAll σ' D vD fD := hD.stp st' fun x hx z => z.elim (fun z => d2D x z hx) (nlf x (.inr hx))
    have qD : TrAll σ' (t :: D) (v :: vD) (f' ++ fD) := ⟨v, vD, f', fD, rfl, rfl, ht', q2⟩
    have fr : ∀ x, x ∈ f' → x ∈ f2 ∨ σ x = none := hsub
    have old1 : ∀ x ∈ f1, ∃ o, σ x = some o := fun x hx => let ⟨_, _, e⟩ := t1.there x hx; ⟨_, e⟩
    have oldD : ∀ x ∈ fD, ∃ o, σ x = some o := fun x hx => let ⟨_, _, e⟩ := hD.there x hx; ⟨_, e⟩
    refine ih pre' hk (fun k hk => h1 k (by simp [hk])) (D := t :: D) hp hp8 hm' (st' _ _ hcc (.inl rfl)) hs' (by omega) q1 qD ?_ ?_
    · simp only [List.nodup_append, List.mem_append]
      refine ⟨hnd.1.1, ⟨hnd', hnd.2.1, fun a ha b hb hab => ?_⟩, fun a ha b hb hab => ?_⟩
      · subst hab
        rcases fr a ha with z | z
        · exact d2D a z hb
        · obtain ⟨o, e⟩ := oldD a hb; rw [z] at e; cases e
      · subst hab
        rcases hb with hb | hb
        · rcases fr a hb with z | z
          · exact d12 a ha z
          · obtain ⟨o, e⟩ := old1 a ha; rw [z] at e; cases e
        · exact d1D a ha hb
    · intro m'' σ'' g' hm'' st'' hs'' tg hnd'' hsub''
      refine hc m'' σ'' g' hm'' (st'.transW st'' (fun x hx => hx.imp (fun h => List.mem_append_right _ h) id) fun x o e hx => .inl (hx.imp (fun h => List.mem_append_left _ h) id)) hs'' (by simpa using tg) hnd'' fun x hx => ?_
      rcases hsub'' x hx with z | z
      · simp only [List.mem_append] at z ⊢
        rcases z with z | z | z
        · exact .inl (.inl (.inl z))
        · rcases fr x z with y | y
          · exact .inl (.inl (.inr y))
          · exact .inr y
        · exact .inl (.inr z)
      · cases q : σ x with
        | none => exact .inr rfl
        | some o =>
          refine .inl ?_
          by_cases hx2 : x ∈ f2
          · simp [hx2]
          · by_cases hxn : x = nl
            · subst hxn; rw [hs'] at z; cases z
            · have := st' x o q (.inr fun y => y.elim hx2 hxn)
              rw [z] at this; cases this

/-- the two signs are no others -/
structure Sgn (V : Way) (cs cm : Nat) : Prop where
  s : V.sign = one cs
  m : V.mark = one cm
  ne : cs ≠ cm
  cs : cs = 124 ∨ cs = 61
  cm : cm = 94 ∨ cm = 64
  up : V.up ≤ 8
theorem noc_one {c d : Nat} (h : c ≠ d) : NoC c (one d) := by
  show c ∉ [d]
  simp [h]
theorem noc_lt {c : Nat} (h : c ≠ 60) : NoC c (Str.ofString "<") := by
  show c ∉ (Str.ofString "<").cps.toList
  have : (Str.ofString "<").cps.toList = [60] := by decide +kernel
  rw [this]; simp [h]
theorem noc_gt {c : Nat} (h : c ≠ 62) : NoC c (Str.ofString ">") := by
  show c ∉ (Str.ofString ">").cps.toList
  have : (Str.ofString ">").cps.toList = [62] := by decide +kernel
  rw [this]; simp [h]
theorem noc_mi {c : Nat} (h : c ≠ 45) : NoC c (Str.ofString "-") := by
  show c ∉ (Str.ofString "-").cps.toList
  have : (Str.ofString "-").cps.toList = [45] := by decide +kernel
  rw [this]; simp [h]
theorem noc_em {c : Nat} : NoC c (Str.ofString "") := by
  show c ∉ (Str.ofString "").cps.toList
  have : (Str.ofString "").cps.toList = [] := by decide +kernel
  rw [this]; simp
theorem noc_ang {c : Nat} {x : Str} {ys : List Str} (h1 : c ≠ 60) (h2 : c ≠ 62) (h3 : c ≠ 45) (hx : NoC c x) (hy : ∀ y ∈ ys, NoC c y) : NoC c (ang x ys) :=
  ((hx.app (noc_lt h1)).app (NoC.join (noc_mi h3) hy)).app (noc_gt h2)
theorem has_ang {c : Nat} {x : Str} {ys : List Str} (hx : c ∈ x.cps.toList) : c ∈ (ang x ys).cps.toList := by
  unfold ang
  rw [cps_app, cps_app, cps_app]
  simp [hx]
def psOf (V : Way) (root : Bool) (par : List Str) (ks : List T) : Str := if marks V root ks then ang V.mark par else Str.ofString ""
def parOf (V : Way) (root : Bool) (par : List Str) (l : Str) (ks : List T) : List Str := if marks V root ks then l :: par.take (V.up - 1) else par
section
variable {V : Way} {cs cm : Nat} {root : Bool} {par : List Str} {l : Str} {ks : List T}
theorem ps_noc (S : Sgn V cs cm) {c : Nat} (hc : c = cs ∨ c = 43) (hp : ∀ x ∈ par, Ok1 cs cm x) : NoC c (psOf V root par ks) := by
  have h1 := S.cs
  have h2 := S.cm
  have h3 := S.ne
  unfold psOf
  split
  · refine noc_ang (by omega) (by omega) (by omega) (by rw [S.m]; exact noc_one (by omega)) fun y hy => ?_
    rcases hc with rfl | rfl
    · exact (hp y hy).2.1
    · exact (hp y hy).2.2.2
  · exact noc_em
theorem par_ok (hl : Ok1 cs cm l) (hp : ∀ x ∈ par, Ok1 cs cm x) : ∀ x ∈ parOf V root par l ks, Ok1 cs cm x := by
  unfold parOf
  split
  · intro x hx
    rcases List.mem_cons.mp hx with rfl | hx
    · exact hl
    · exact hp x (List.mem_of_mem_take hx)
  · exact hp
theorem par_len (S : Sgn V cs cm) (hp : par.length ≤ 8) : (parOf V root par l ks).length ≤ 8 := by
  have h := S.up
  unfold parOf
  split
  · rename_i hm
    have : V.up ≠ 0 := by unfold marks at hm; intro z; rw [z] at hm; simp at hm
    simp; omega
  · exact hp
theorem ps_len (S : Sgn V cs cm) (hp : ∀ x ∈ par, Ok1 cs cm x) (hp8 : par.length ≤ 8) : (psOf V root par ks).length ≤ 24 := by
  have hjl := join_len (Str.ofString "-") par
  have hjs := sum_le1 (fun x hx => Nat.le_of_eq (hp x hx).1)
  rw [len_mi1] at hjl
  have hm : V.mark.length = 1 := by rw [S.m]; rfl
  unfold psOf
  split
  · unfold ang
    simp only [len_app, len_lt1, len_gt1]; omega
  · exact Nat.zero_le _
theorem bin_lab {right : Bool} {lab : Str} {hdr : List Str → Str} {ns : List Str} {us : List T} : ∃ kids, bin right lab hdr ns us = .n lab kids := ⟨_, rfl⟩
theorem cnf_eq : cnf V root par (.n l ks) = bin V.right (l ++ psOf V root par ks) (fun ns => ang (l ++ V.sign) (shown V ns) ++ psOf V root par ks) (ks.map nm) (cnfs V (parOf V root par l ks) ks) := by unfold cnf psOf parOf; rfl
theorem cnf_notH (S : Sgn V cs cm) {n : Nat} {t : T} (hc : Cl cs cm n t) (hp : ∀ x ∈ par, Ok1 cs cm x) : isH cs (cnf V root par t) = false := by
  cases hc with
  | w => rfl
  | n h1 _ _ =>
    rw [cnf_eq]
    obtain ⟨kids, e⟩ := bin_lab (right := V.right)
    rw [e]
    exact decide_eq_false (h1.2.1.app (ps_noc S (.inl rfl) hp))
theorem cnfs_notH (S : Sgn V cs cm) {n : Nat} (hp : ∀ x ∈ par, Ok1 cs cm x) : ∀ {ks : List T}, (∀ k ∈ ks, Cl cs cm n k) → ∀ u ∈ cnfs V par ks, isH cs u = false
  | [], _, u, hu => by cases hu
  | k :: r, h, u, hu => by
    rcases List.mem_cons.mp hu with rfl | hu
    · exact cnf_notH S (h k (.head _)) hp
    · exact cnfs_notH S hp (fun k hk => h k (.tail _ hk)) u hu
/-- a node of the bound form: its children, flattened, are the bound children -/
theorem cnf_shape (S : Sgn V cs cm) {n : Nat} (hc : Cl cs cm (n + 1) (.n l ks)) (hp : ∀ x ∈ par, Ok1 cs cm x) : ∃ kids, cnf V root par (.n l ks) = .n (l ++ psOf V root par ks) kids ∧ Fl cs kids (cnfs V (parOf V root par l ks) ks) ∧ kids.length ≤ 4 := by
  cases hc with
  | n h1 h2 h3 =>
    rw [cnf_eq]
    have hu := cnfs_notH S (par_ok (V := V) (root := root) (ks := ks) h1 hp) h3
    exact bin_fl (c := cs) (right := V.right) (lab := l ++ psOf V root par ks) (hdr := fun ns => ang (l ++ V.sign) (shown V ns) ++ psOf V root par ks) (fun x => by
      rw [cps_app]
      exact List.mem_append_left _ (has_ang (by rw [cps_app, S.s]; simp [one]))) (ns := ks.map nm) (by rw [cnfs_length, List.length_map]) (by rw [cnfs_length]; omega) hu
/-- where the mark stands -/
theorem find_mark (S : Sgn V cs cm) (hl : Ok1 cs cm l) : (psOf V root par ks = Str.ofString "" ∧ Txt.find (l ++ psOf V root par ks) V.mark = -1) ∨ Txt.find (l ++ psOf V root par ks) V.mark = 1 := by
  unfold psOf
  split
  · right
    rw [S.m]
    have e : l ++ ang (one cm) par = l ++ one cm ++ (Str.ofString "<" ++ Txt.join (Str.ofString "-") par ++ Str.ofString ">") := by
      unfold ang
      simp only [str_assoc]
    rw [e, find_first hl.2.2.1, hl.1]
    rfl
  · left
    refine ⟨rfl, ?_⟩
    rw [str_app_empty, S.m]
    exact find_not hl.2.2.1
end

theorem find_has {x : Str} {c : Nat} : (Txt.find x (one c) != -1) = decide (c ∈ x.cps.toList) := by
  by_cases h : c ∈ x.cps.toList
  · rw [decide_eq_true h]
    rcases find_whole x (one c) with ⟨_, e⟩ | ⟨i, e, _, _⟩
    · obtain ⟨i, hi⟩ := List.mem_iff_getElem?.mp h
      exact absurd ((StrLaws.subAt_one x c i).mpr hi) (e i)
    · rw [e]; simp
  · rw [decide_eq_false h, find_not h]; rfl
theorem any_range {f : T → Bool} {kids : List T} {n : Nat} (h : kids.length = n) : (List.range n).any (fun i => (kids[i]?.map f).getD false) = kids.any f := by
  subst h
  rw [Bool.eq_iff_iff]
  simp only [List.any_eq_true, List.mem_range]
  constructor
  · rintro ⟨i, hi, h⟩
    rw [List.getElem?_eq_getElem hi] at h
    exact ⟨_, List.getElem_mem hi, h⟩
  · rintro ⟨k, hk, h⟩
    obtain ⟨i, hi⟩ := List.mem_iff_getElem?.mp hk
    refine ⟨i, ?_, by rw [hi]; exact h⟩
    exact (List.getElem?_eq_some_iff.mp hi).1
theorem slice_one {l y : Str} (h : l.length = 1) : Txt.slice (l ++ y) none (some 1) = l := by
  have e := slice_closes_toL (x := l ++ y) (j := 1) (by omega) (by rw [len_app]; omega)
  have e := eq_of_beq e
  rw [e, cps_app]
  have hl : l.cps.toList.length = 1 := by simpa [Str.length] using h
  show (⟨((l.cps.toList ++ y.cps.toList).take 1).toArray⟩ : Str) = l
  rw [List.take_append_of_le_length (by omega), List.take_of_length_le (by omega)]

section
variable {Γ : Cx} {A : Around} {L : Addr} {m : Loc} {σ : Sto} {n : Nat} {l b : Addr} {vs : List Value}
theorem all_true {Q : Value → Loc → Sto → Prop} (hA : Ok A n) (hl : σ l = some (.lst vs)) (hv : ∀ v ∈ vs, v = .bool true) (h : Q (.bool true) m σ) : W Γ A L (call (.builtin "all") [.ref l]) Q m σ := ⟨fun s S => by
  have hL := S.lst hl
  have hlt := S.lt hl
  refine call_all_walk (wpAny_pyIter_list hL ?_)
  refine ⟨s.heap.objs.size, [s.heap.objs.size, l], [s.heap.objs.size], vs.toArray.size, _, _, fun _ => true, rfl, Walks.list (A := A.in1) hA.h _ l (Nat.ne_of_lt hlt) vs.toArray,
    ⟨⟨_, Heap.get?_push_size _ rfl, rfl, rfl⟩, hL.push _⟩, fun i v s' Q' E' hP hQ => ?_, fun h' tk hk => ?_⟩
  · obtain rfl : v = .bool true := hv v (by
      have : vs[i]? = some v := by simpa using hP
      exact List.mem_of_getElem? this)
    exact wpAny_truthy_bool hQ
  · have e : ((List.range vs.toArray.size).all fun _ => true) = true := by simp
    rw [e]
    exact ⟨m, σ, S.grow fun b o e => hk b o (fun hm => by rw [List.mem_singleton.mp hm] at e; exact Nat.lt_irrefl _ (Heap.lt_size e)) (Heap.get?_push_of_some _ e), h⟩⟩
theorem max_two {x y : Int} {t u : Tok} {Q : Value → Loc → Sto → Prop} (hA : Ok A n) (h : ∀ t, Q (.int (max x y) t) m σ) : W Γ A L (call (.builtin "max") [.int x t, .int y u]) Q m σ := ⟨fun s S => by
  refine max_two_ints hA.h fun h' tk hk => ?_
  refine ⟨m, σ, S.grow hk, ?_⟩
  by_cases hyx : y > x
  · rw [if_pos hyx]
    have := h u
    rwa [Int.max_eq_right (Int.le_of_lt hyx)] at this
  · rw [if_neg hyx]
    have := h t
    rwa [Int.max_eq_left (by omega)] at this⟩
theorem ne_emptyL {Q : Value → Loc → Sto → Prop} (hA : Ok A n) (hl : σ l = some (.lst vs)) (hb : σ b = some (.lst [])) (h : Q (.bool (!vs.isEmpty)) m σ) : W Γ A L (compareOp .NotEq (.ref l) (.ref b)) Q m σ := ⟨fun s S => by
  have hl' := S.lst hl
  cases vs with
  | nil => exact cmp_ofNotEq (SeqAt.RcNeAt.lists (e := fun _ => true) hl' (S.lst hb) rfl hA.units (fun j h1 => absurd h1 (Nat.not_lt_zero _)) _ _ _ _ ⟨m, σ, S, h⟩)
  | cons v r => exact cmp_ofNotEq (SeqAt.RcNeAt.lists_lengths hl' (S.lst hb) (by simp) hA.units _ _ _ _ ⟨m, σ, S, h⟩)⟩
end


def told (ys : List Str) : Str := Str.ofString "<" ++ Txt.join (Str.ofString "-") ys ++ Str.ofString ">"
theorem ang_told (x : Str) (ys : List Str) : ang x ys = x ++ told ys := by
  unfold ang told
  simp only [str_assoc]
theorem told_len {ys : List Str} (h1 : ∀ y ∈ ys, y.length ≤ 1) (h8 : ys.length ≤ 8) : (told ys).length ≤ 20 := by
  have hjl := join_len (Str.ofString "-") ys
  have hjs := sum_le1 h1
  rw [len_mi1] at hjl
  unfold told
  simp only [len_app, len_lt1, len_gt1]; omega
inductive Mk : Nat → T → Prop where
  | w {n : Nat} {s : Str} : s.length ≤ 1 → Mk n (.w s)
  | n {n : Nat} {l : Str} {ks : List T} : l.length ≤ 1 → 1 ≤ ks.length → ks.length ≤ 4 → (∀ k ∈ ks, Mk n k) → (fstT ks = false → ∀ k ∈ ks, isW k) → Mk (n + 1) (.n l ks)
theorem Mk.nm {n : Nat} {t : T} (h : Mk n t) : (nm t).length ≤ 1 := by
  cases h with
  | w h => exact h
  | n h _ _ _ _ => exact h
/-- the way's parents and the law's row of labels above -/
def Abv (V : Way) (root : Bool) (par ab : List Str) : T → Prop
  | .w _ => True
  | .n l _ => (root = true ∧ ab = [] ∧ par = [l]) ∨ (root = false ∧ ab ≠ [] ∧ (V.up ≠ 0 → par = ab.take V.up))
theorem abv_kid {V : Way} {root : Bool} {par ab : List Str} {l : Str} {ks : List T} (h : Abv V root par ab (.n l ks)) (hw : fstT ks = false → ∀ k ∈ ks, isW k) : ∀ k ∈ ks, Abv V false (parOf V root par l ks) (l :: ab) k := by
  intro k hk
  cases k with
  | w s => trivial
  | n l2 ks2 =>
    have hf : fstT ks = true := by
      cases q : fstT ks with
      | true => rfl
      | false => exact (hw q _ hk).elim
    refine .inr ⟨rfl, by simp, fun hu => ?_⟩
    have e : V.up = (V.up - 1) + 1 := by omega
    unfold parOf marks
    rcases h with ⟨rfl, rfl, rfl⟩ | ⟨rfl, h1, h2⟩
    · rw [if_neg (by simp), e, List.take_succ_cons]; simp
    · rw [if_pos (by simp [hu, hf]), h2 hu]
      conv => rhs; rw [e, List.take_succ_cons]
      rw [List.take_take]
      congr 2; omega
/-- what the mark is, as the law tells it -/
theorem abv_ps {V : Way} {root : Bool} {par ab : List Str} {l : Str} {ks : List T} (h : Abv V root par ab (.n l ks)) : psOf V root par ks = if (V.up != 0 && !ab.isEmpty && fstT ks) = true then V.mark ++ told (ab.take V.up) else Str.ofString "" := by
  unfold psOf marks
  rcases h with ⟨rfl, rfl, rfl⟩ | ⟨rfl, h1, h2⟩
  · simp
  · have : ab.isEmpty = false := by
      cases ab with
      | nil => exact absurd rfl h1
      | cons _ _ => rfl
    rw [this]
    cases hu : (V.up != 0) with
    | false => simp
    | true =>
      cases hf : fstT ks with
      | false => simp
      | true =>
        simp
        rw [ang_told, h2 (by simpa using hu)]
def Frt (σ σ' : Sto) : Prop := ∀ a o, σ a = some o → o.tag ≤ 1 → σ' a = some o
theorem Frt.trans {σ σ' σ'' : Sto} (x : Frt σ σ') (y : Frt σ' σ'') : Frt σ σ'' := fun a o e k => y a o (x a o e k) k
theorem Stp.frt {X : Addr → Prop} {σ σ' : Sto} (h : Stp X σ σ') : Frt σ σ' := fun a o e k => h a o e (.inl (by cases o <;> first | rfl | (exfalso; revert k; simp [AO.tag])))
theorem Stp1.frt {c : Addr} {σ σ' : Sto} {v : Option Value} (h : Stp1 c σ σ') (e : σ c = some (.cel v)) : Frt σ σ' := fun a o e' k => h a o e' fun z => by
  subst z; rw [e] at e'; cases e'; revert k; simp [AO.tag]
mutual
theorem DrAt.kt {σ σ' : Sto} (h : Frt σ σ') : ∀ {t : T} {v : Value}, DrAt σ t v → DrAt σ' t v
  | .w s, v, ⟨t, e⟩ => ⟨t, e⟩
  | .n l ks, v, ⟨a, t, c, vs, e1, e2, e3, e4⟩ => ⟨a, t, c, vs, e1, h _ _ e2 (by simp [AO.tag]), h _ _ e3 (by simp [AO.tag]), DrAll.kt h e4⟩
theorem DrAll.kt {σ σ' : Sto} (h : Frt σ σ') : ∀ {ks : List T} {vs : List Value}, DrAll σ ks vs → DrAll σ' ks vs
  | [], _, e => e
  | k :: r, _, ⟨v, r', e, e1, e2⟩ => ⟨v, r', e, DrAt.kt h e1, DrAll.kt h e2⟩
end
theorem DrAll.get {σ : Sto} : ∀ {ks : List T} {vs : List Value} {i : Nat} {k : T}, DrAll σ ks vs → ks[i]? = some k → ∃ v, vs[i]? = some v ∧ DrAt σ k v
  | [], _, _, _, _, h => by simp at h
  | _ :: _, _, 0, _, ⟨v, r, e, e1, _⟩, h => by
    subst e
    simp only [List.getElem?_cons_zero, Option.some.injEq] at h
    subst h
    exact ⟨v, rfl, e1⟩
  | _ :: _, _, i + 1, _, ⟨v, r, e, _, e2⟩, h => by
    subst e
    simp only [List.getElem?_cons_succ] at h ⊢
    exact DrAll.get e2 h
theorem cnfs_get (W : Way) (par : List Str) : ∀ {ks : List T} {i : Nat} {k : T}, ks[i]? = some k → (cnfs W par ks)[i]? = some (cnf W false par k)
  | [], _, _, h => by simp at h
  | _ :: _, 0, _, h => by
    simp only [List.getElem?_cons_zero, Option.some.injEq] at h
    subst h; rfl
  | _ :: r, i + 1, _, h => by
    simp only [List.getElem?_cons_succ] at h
    exact cnfs_get W par (ks := r) h
theorem cel_ne {L : Addr} {i j : Nat} (h : i ≠ j) : L + i ≠ L + j := fun e => h (Nat.add_left_cancel e)
theorem cut_from {vs : List Value} {k : Int} (h : 0 ≤ k) : cut vs (some k) none = vs.drop k.toNat := by
  obtain ⟨k, rfl⟩ := Int.eq_ofNat_of_zero_le h
  unfold cut
  simp only [Option.elim, clip_pos, Int.toNat_natCast]
  rcases Nat.le_total k vs.length with q | q
  · rw [Nat.min_eq_left q, List.take_of_length_le (by rw [List.length_drop]; exact Nat.le_refl _)]
  · rw [Nat.min_eq_right q, List.drop_eq_nil_of_le q, List.drop_eq_nil_of_le (Nat.le_refl _), List.take_nil]
theorem cut_last {vs : List Value} (h : 0 < vs.length) : cut vs none (some (-1)) = vs.take (vs.length - 1) := by
  unfold cut
  have e : clipAt vs.length (-1) = vs.length - 1 := clip_neg (k := 1) (by decide) h
  simp only [Option.elim, List.drop_zero, Nat.sub_zero, e]

section
variable {Γ : Cx} {L : Addr} {m : Loc} {σ : Sto} {s : Shared}
theorem all_t (n : Nat) : ((List.range n).all fun _ => true) = true := by simp
theorem dr_items {A : Around} {ks : List T} (hE : ∀ k ∈ ks, ∀ {v v' : Value}, DrAt σ k v → DrAt σ k v' → SeqAt.EqAt A s v v' true) {vs vs' : List Value} (d : DrAll σ ks vs) (d' : DrAll σ ks vs') :
    ∀ j (h1 : j < vs.toArray.size) (h2 : j < vs'.toArray.size), SeqAt.EqAt A s vs.toArray[j] vs'.toArray[j] true := by
  intro j h1 h2
  rw [List.size_toArray] at h1 h2
  obtain ⟨k, hk⟩ : ∃ k, ks[j]? = some k := ⟨_, List.getElem?_eq_getElem (by rw [d.length]; exact h1)⟩
  obtain ⟨v, hv, dv⟩ := d.get hk
  obtain ⟨v', hv', dv'⟩ := d'.get hk
  obtain ⟨_, rfl⟩ := List.getElem?_eq_some_iff.mp hv
  obtain ⟨_, rfl⟩ := List.getElem?_eq_some_iff.mp hv'
  exact hE k (List.mem_of_getElem? hk) dv dv'
theorem dr_parts {A : Around} {l : Str} {t t' : Tok} {c c' : Addr} {ks : List T} {vs vs' : List Value} (S : St Γ L m σ s) (hu : A.units < cLine) (hE : ∀ k ∈ ks, ∀ {v v' : Value}, DrAt σ k v → DrAt σ k v' → SeqAt.EqAt A.in1 s v v' true)
    (e1 : σ c = some (.lst vs)) (e1' : σ c' = some (.lst vs')) (d : DrAll σ ks vs) (d' : DrAll σ ks vs') :
    ∀ j (h1 : j < [Value.str l t, .ref c].toArray.size) (h2 : j < [Value.str l t', .ref c'].toArray.size), SeqAt.EqAt A s [Value.str l t, .ref c].toArray[j] [Value.str l t', .ref c'].toArray[j] true := by
  intro j h1 h2
  match j, h1, h2 with
  | 0, _, _ =>
    have := SeqAt.EqAt.str_str (A := A) (s := s) l t l t'
    rwa [beq_self_eq_true] at this
  | 1, _, _ =>
    show SeqAt.EqAt A s (.ref c) (.ref c') true
    by_cases hc : c = c'
    · subst hc
      exact SeqAt.EqAt.same _
    · refine SeqAt.EqAt.of_refs hc ?_
      have := SeqAt.RcAt.lists (e := fun _ => true) (S.lst e1) (S.lst e1') (by rw [List.size_toArray, List.size_toArray, ← d.length, d'.length]) hu (dr_items hE d d')
      rwa [all_t] at this
theorem dr_eq (S : St Γ L m σ s) : ∀ (n : Nat) {t : T} {v v' : Value} {A : Around}, Wid n t → Ok A (2 * n + 1) → DrAt σ t v → DrAt σ t v' → SeqAt.EqAt A s v v' true := by
  intro n
  induction n with
  | zero =>
    intro t v v' A hw hA d d'
    cases hw with
    | w =>
      rename_i x
      obtain ⟨t1, rfl⟩ := d
      obtain ⟨t2, rfl⟩ := d'
      have := SeqAt.EqAt.str_str (A := A) (s := s) x t1 x t2
      rwa [beq_self_eq_true] at this
  | succ n ih =>
    intro t v v' A hw hA d d'
    cases hw with
    | w =>
      rename_i x
      obtain ⟨t1, rfl⟩ := d
      obtain ⟨t2, rfl⟩ := d'
      have := SeqAt.EqAt.str_str (A := A) (s := s) x t1 x t2
      rwa [beq_self_eq_true] at this
    | n hk4 hks =>
      obtain ⟨a, t1, c, vs, rfl, e1, e2, e3⟩ := d
      obtain ⟨a', t2, c', vs', rfl, e1', e2', e3'⟩ := d'
      by_cases ha : a = a'
      · subst ha
        exact SeqAt.EqAt.same _
      · refine SeqAt.EqAt.of_refs ha ?_
        have h1 : Ok A.in1 (2 * n + 2) := Ok.in1 hA
        have h2 : Ok A.in1.in1 (2 * n + 1) := Ok.in1 h1
        have := SeqAt.RcAt.tuples (e := fun _ => true) (S.tup e1) (S.tup e1') hA.units (dr_parts S h1.units (fun k hk v v' dv dv' => ih (hks k hk) h2 dv dv') e2 e2' e3 e3')
        rwa [all_t] at this
theorem ne_dr {A : Around} {n : Nat} {l : Str} {ks : List T} {v v' : Value} {Q : Value → Loc → Sto → Prop} (hA : Ok A (2 * n + 3)) (hw : Wid (n + 1) (.n l ks)) (d : DrAt σ (.n l ks) v) (d' : DrAt σ (.n l ks) v') (h : Q (.bool false) m σ) : W Γ A L (compareOp .NotEq v v') Q m σ := ⟨fun s S => by
  cases hw with
  | n hk4 hks =>
  obtain ⟨a, t1, c, vs, rfl, e1, e2, e3⟩ := d
  obtain ⟨a', t2, c', vs', rfl, e1', e2', e3'⟩ := d'
  have h1 : Ok A.in1 (2 * n + 2) := Ok.in1 hA
  have h2 : Ok A.in1.in1 (2 * n + 1) := Ok.in1 h1
  refine cmp_ofNotEq (SeqAt.RcNeAt.tuples (e := fun _ => true) (S.tup e1) (S.tup e1') hA.units (dr_parts S h1.units (fun k hk v v' dv dv' => dr_eq S n (hks k hk) h2 dv dv') e2 e2' e3 e3') _ _ _ _ ?_)
  rw [all_t]
  exact ⟨m, σ, S, h⟩⟩
end
section
variable {Γ : Cx} {A : Around} {L : Addr} {m : Loc} {σ : Sto} {l : Addr} {vs : List Value}
theorem sub_slice0 {value slice : Expr} {a : Addr} {lv hv : Value} {lo hi : Option Int} {Q : Value → Loc → Sto → Prop} (hl : Γ.h0.IsList l vs.toArray) (ha : σ a = some (.raw (sliceO lv hv))) (hlo : IsPart lv lo) (hhi : IsPart hv hi) (hz : vs.length ≤ sizeLine)
    (h : ∀ c σ', Stp No σ σ' → σ c = none → σ' c = some (.lst (cut vs lo hi)) → Q (.ref c) m σ')
    (hs : subscripted slice false (.ref l) (.ref a) = operate [.ref a, .ref l] (getItem (.ref l) (.ref a)) := by with_unfolding_all rfl)
    (ht : ∀ r, letTemporaryGo value (.ref l) r = Pure.pure () := by intro _; with_unfolding_all rfl) : W Γ A L (subscriptTail value slice (.ref l) (.ref a)) Q m σ := ⟨fun s S => by
  have hL := hl.at fun o e => S.keep l o e
  refine subscriptTail_ops hL.typeIs list_getitem_lookup (wpAny_getItem_list_slice hL ⟨_, S.raw ha, rfl, rfl⟩ hlo hhi .none (by simp) ?_ (by rw [List.size_toArray]; exact hz)) hs ht
  have e : slicePick vs.toArray lo hi none = (cut vs lo hi).toArray := by rw [slicePick_plain]; rfl
  rw [e]
  obtain ⟨S', st, fr⟩ := S.add (a := s.heap.objs.size) (o' := .lst (cut vs lo hi)) (t := s.toks) (Nat.le_refl _) nofun (fun b o e => Heap.get?_push_of_some _ e) ⟨{ cls := .type "list", data := .seq (cut vs lo hi).toArray }, Heap.get?_push_size _ rfl, rfl, 0, rfl⟩
  exact ⟨m, _, S', h _ _ st fr put_self⟩⟩
end

theorem lab_one {l : Str} (h : Lab l) : ∃ c, l = one c ∧ (c = 83 ∨ c = 65 ∨ c = 66 ∨ c = 67) := by
  have hS : Str.ofString "S" = one 83 := by decide +kernel
  have hA : Str.ofString "A" = one 65 := by decide +kernel
  have hB : Str.ofString "B" = one 66 := by decide +kernel
  have hC : Str.ofString "C" = one 67 := by decide +kernel
  unfold Lab at h
  rw [hS, hA, hB, hC] at h
  simp only [List.mem_cons, List.not_mem_nil, or_false] at h
  rcases h with rfl | rfl | rfl | rfl
  · exact ⟨_, rfl, .inl rfl⟩
  · exact ⟨_, rfl, .inr (.inl rfl)⟩
  · exact ⟨_, rfl, .inr (.inr (.inl rfl))⟩
  · exact ⟨_, rfl, .inr (.inr (.inr rfl))⟩
theorem wrd_one {l : Str} (h : Wrd l) : l.length = 1 := by
  have hx : Str.ofString "x" = one 120 := by decide +kernel
  have hy : Str.ofString "y" = one 121 := by decide +kernel
  unfold Wrd at h
  rw [hx, hy] at h
  simp only [List.mem_cons, List.not_mem_nil, or_false] at h
  rcases h with rfl | rfl <;> rfl
theorem lab_len {l : Str} (h : Lab l) : l.length = 1 := by
  obtain ⟨c, rfl, _⟩ := lab_one h
  rfl
theorem lab_ok {l : Str} {cs cm : Nat} (h : Lab l) (h1 : cs = 124 ∨ cs = 61) (h2 : cm = 94 ∨ cm = 64) : Ok1 cs cm l := by
  obtain ⟨c, rfl, hc⟩ := lab_one h
  exact ⟨rfl, noc_one (by omega), noc_one (by omega), noc_one (by omega)⟩
theorem w_of {k : T} (h : isW k) : ∃ s, k = .w s ∧ s.length = 1 := by
  cases k with
  | w s => exact ⟨s, rfl, wrd_one h⟩
  | n _ _ => exact h.elim
theorem Good.sm {d : Nat} {t : T} (h : Good d t) : Sm (d + 1) t := by
  induction h with
  | leaf hl h1 h4 hw =>
    refine .n (Nat.le_of_eq (lab_len hl)) h1 h4 fun k hk => ?_
    obtain ⟨s, rfl, e⟩ := w_of (hw k hk)
    exact .w (Nat.le_of_eq e)
  | node hl h1 h4 _ ih => exact .n (Nat.le_of_eq (lab_len hl)) h1 h4 ih
theorem Good.cl {d : Nat} {t : T} {cs cm : Nat} (h1 : cs = 124 ∨ cs = 61) (h2 : cm = 94 ∨ cm = 64) (h : Good d t) : Cl cs cm (d + 1) t := by
  induction h with
  | leaf hl _ h4 hw =>
    refine .n (lab_ok hl h1 h2) h4 fun k hk => ?_
    obtain ⟨s, rfl, e⟩ := w_of (hw k hk)
    exact .w
  | node hl _ h4 _ ih => exact .n (lab_ok hl h1 h2) h4 ih
theorem Good.nd {d : Nat} {t : T} (h : Good d t) : ∃ l ks, t = .n l ks := by
  cases h <;> exact ⟨_, _, rfl⟩
theorem Good.mk {d : Nat} {t : T} (h : Good d t) : Mk (d + 1) t := by
  induction h with
  | leaf hl h1 h4 hw =>
    refine .n (Nat.le_of_eq (lab_len hl)) h1 h4 (fun k hk => ?_) fun _ => hw
    obtain ⟨s, rfl, e⟩ := w_of (hw k hk)
    exact .w (Nat.le_of_eq e)
  | node hl h1 h4 hg ih =>
    refine .n (Nat.le_of_eq (lab_len hl)) h1 h4 ih fun hf => ?_
    rename_i ks
    cases ks with
    | nil => simp at h1
    | cons k0 r =>
      obtain ⟨_, _, rfl⟩ := (hg k0 (.head _)).nd
      simp [fstT] at hf

def noSto : Sto := fun _ => none
theorem real_one {lo L : Addr} {m : Loc} {h : Heap} (hlo : lo ≤ L) (hn : h.Ns L m) : Real lo (noSto.put L (.ns m)) h := by
  have e : ∀ a o, noSto.put L (.ns m) a = some o → a = L ∧ o = .ns m := fun a o q => by
    unfold Sto.put at q
    split at q
    · rename_i h
      cases q; exact ⟨h, rfl⟩
    · cases q
  refine ⟨id, fun a o q => ?_, fun a l c q => ?_, fun a b l c l' c' q => ?_⟩
  · obtain ⟨rfl, rfl⟩ := e a o q
    exact ⟨hlo, hn⟩
  · cases (e a _ q).2
  · cases (e a _ q).2
section
variable {Γ : Cx} {A : Around} {s : Shared}
  {name qual : Str} {params : Arguments} {body : List Stmt} {scope : Scope} {dV kV doc pm cdv ct oc : Value} {an od : Option Addr} {osl : Array (Option Value)} {f : Addr} {vals : List Value} {binds : List (Str × Value)} {n : Nat} {R : Except Value Flow → Shared → Prop}
theorem top_fn (hA : Ok A (n + 1)) (G : Gd Γ) (keep : ∀ b o, Γ.h0.get? b = some o → s.heap.get? b = some o) (hsz : Γ.h0.objs.size ≤ s.heap.objs.size) (tabs : Tabs s.heap) (bare : AllBare s.gens) (os : s.os = Γ.os0) (gen : Γ.gs0 = #[])
    (ho : ∀ P, (KB P).lookup f = some ⟨oc, od, .func (fnOf name qual params body scope dV kV doc pm an cdv ct), osl⟩) (hcd : ∀ P, codeIn (KB P) cdv qual = true)
    (hbind : BindsTo s (fnOf name qual params body scope dV kV doc pm an cdv ct) ⟨vals, []⟩ binds) (hloc : ∀ y ∈ binds, scope.names.lookup y.1 = some .local)
    (hR : ∀ L' m' σ' s', St Γ L' m' σ' s' → R (.ok (.ret (.bool true))) s')
    (h : ∀ L', Ok (A.deeper (envOf qual scope L' f cdv)) n → W Γ (A.deeper (envOf qual scope L' f cdv)) L' (execs body (envOf qual scope L' f cdv)) (fun fl _ _ => fl = .ret (.bool true)) (fun x => binds.reverse.lookup x) noSto)
    (hcell : ∀ x ∈ scope.names, x.2 ≠ .cell := by decide) (hco : scope.isCoroutine = false := by rfl) (hgen : scope.isGenerator = false := by rfl) (hk : scope.kind = .function := by rfl) :
    codeAny (MM Γ.w) A (.call (.ref f) ⟨vals, []⟩) R s := by
  have K : (KB Γ.w.params).In s.heap := G.X.keeps keep
  have nl : s.heap.NoLimit := let ⟨_, _, _, _, T⟩ := G.T; T.nolimit.keeps keep
  refine codeAny_call_def (fd := fnOf name qual params body scope dV kV doc pm an cdv ct) (body := body) (binds := binds) hA.room (K _ _ (ho _)) rfl nl (codeRec_of K (hcd _)) rfl hbind hcell hloc (fun h₁ hns hk₁ => ?_) hco hgen hk
  have S₀ : St Γ s.heap.objs.size (fun x => binds.reverse.lookup x) noSto { s with heap := h₁, toks := s.toks + binds.length } :=
    ⟨G, fun b o e => hk₁ b o (keep b o e), hsz, rfl, real_one hsz hns, tabs.keeps hk₁, bare, os, fun i gs e => by rw [gen] at e; simp at e⟩
  refine wpAny_mono ((h s.heap.objs.size hA.deeper).run _ S₀) (fun fl s' ⟨m', σ', S', q⟩ => ?_) fun _ _ e => e.elim
  subst q
  exact hR _ _ _ _ S'
end

local macro_rules | `(tactic| kbo_bools) => `(tactic| first | rfl | assumption | (refine loc_old (by decide) ?_; first | kbo_bools | fail "loc"))
local macro_rules | `(tactic| tb_start) => `(tactic| first
  | assumption
  | (refine Stp.get (by with_reducible assumption) ?_ ?_; (first | tb_start | fail "lk"); (first | exact Or.inl rfl | exact Or.inr id | (refine Or.inr ?_; first | assumption | exact Ne.symm (by assumption))))
  | (refine Stp1.get (by with_reducible assumption) ?_ ?_; (first | tb_start | fail "lk"); (first | assumption | exact Ne.symm (by assumption) | omega)))

local macro_rules | `(tactic| top_name) => `(tactic| first
  | exact Stp.refl
  | (refine Stp.step (by with_reducible assumption) ?_ ?_; (first | top_name | fail "stp"); (first | exact fun _ h => h | exact fun _ h => h.elim | exact fun _ h => Or.inl h | exact fun _ h => Or.inr h | assumption))
  | (refine Stp1.step (by with_reducible assumption) ?_ ?_; (first | top_name | fail "stp"); assumption))

local macro_rules | `(tactic| tb_rel) => do
  let ts ← [`Mine.e_bin, `Mine.e_sub, `Mine.e_tup, `Mine.e_list, `Mine.e_cmp, `Mine.x_asgS, `Mine.x_asgA, `Mine.x_ret, `Mine.bindN, `Mine.i_eq, `Mine.i_gt, `Mine.i_lt, `Mine.i_ne, `Mine.s_eq, `Mine.s_ne, `Mine.b_bool, `Mine.t_cmp, `Mine.t_not, `Mine.t_bool, `Mine.i_int, `Mine.isi_ss, `Mine.isi_ii, `Mine.isi_sT, `Mine.e_none, `Mine.is_rn, `Mine.e_and, `Mine.e_or, `Mine.e_bone, `Mine.is_nn, `Mine.is_in, `Mine.x_while, `Mine.x_for, `Mine.e_if, `Mine.e_un, `Mine.m_join, `Mine.e_slice, `Mine.p_none, `Mine.p_some, `Mine.m_find, `Mine.e_bool].mapM fun n => `(Lean.Parser.Tactic.tacticSeq| refine $(Lean.mkIdent n) ?_)
  `(tactic| with_reducible first $[| $(ts.toArray)]*)
local macro_rules | `(tactic| tb_rel) => `(tactic| first
  | ((with_reducible show W _ _ _ (eval _ _) _ _ _); first
    | ((with_reducible refine e_int ?_); refine ?_; intro _)
    | ((with_reducible refine e_str ?_); refine ?_; intro _)
    | ((with_reducible show W _ _ _ (eval (Expr.Call (Expr.Name _ _) _ _ _) _) _ _ _); refine e_call ?_)
    | ((with_reducible show W _ _ _ (eval (Expr.Call (Expr.Attribute _ _ _) _ _ _) _) _ _ _); refine e_meth ?_))
  | ((with_reducible show W _ _ _ (spliced _) _ _ _); first | refine s_cons ?_ | refine s_nil ?_)
  | ((with_reducible show W _ _ _ (execs _ _) _ _ _); first | refine x_cons ?_ | refine x_nil ?_)
  | ((with_reducible show W _ _ _ (exec (Stmt.Assign [Expr.Name _ _] _ _) _) _ _ _); refine x_asg ?_)
  | ((with_reducible show W _ _ _ (exec (Stmt.If (Expr.Compare _ _ _ _) _ _ _) _) _ _ _); refine x_if ?_)
  | ((with_reducible show W _ _ _ (exec (Stmt.If (Expr.Call _ _ _ _) _ _ _) _) _ _ _); refine x_if ?_)
  | ((with_reducible show W _ _ _ (exec (Stmt.If (Expr.Name _ _) _ _ _) _) _ _ _); refine x_if ?_)
  | ((with_reducible show W _ _ _ (exec (Stmt.If (Expr.UnaryOp _ _ _) _ _ _) _) _ _ _); refine x_if ?_)
  | ((with_reducible show W _ _ _ (exec (Stmt.Expr _ _) _) _ _ _); refine x_expr ?_)
  | ((with_reducible show W _ _ _ (storeName _ _ _) _ _ _); refine st_loc ?_)
  | ((with_reducible show W _ _ _ (binaryOp _ (Value.int _ _) (Value.int _ _)) _ _ _); first
    | ((with_reducible refine i_add ?_); refine ?_; intro _)
    | ((with_reducible refine i_sub ?_); refine ?_; intro _)
    | ((with_reducible refine' i_mul ?hz ?_); (case hz => omega); refine ?_; intro _)
    | ((with_reducible refine' i_mod ?hz ?_); (case hz => omega); refine ?_; intro _)
    | ((with_reducible refine' i_div ?hz ?hp ?_); (case hz => omega); (case hp => exact PyProof.noPylong_small (by omega)); refine ?_; intro _))
  | ((with_reducible show W _ _ _ (callWith _ (Value.builtin _) _ _ _) _ _ _); first | refine k_b ?_ | refine k_b1 ?_ | refine k_b0 ?_)
  | ((with_reducible show W _ _ _ (callWith _ (Value.type _) _ _ _) _ _ _); refine k_ty ?_)
  | ((with_reducible show W _ _ _ (assignInOrder _ _) _ _ _); first | refine a_cons ?_ | refine a_nil ?_)
  | ((with_reducible show W _ _ _ (newTuple _) _ _ _); refine newT ?_; refine ?_; intro _ _ _ _ _)
  | ((with_reducible show W _ _ _ (subscriptTail _ _ (Value.ref _) (Value.int _ _)) _ _ _); first
    | (refine' i_lst (Or.inr ?hl) ?h0 ?hk ?hx ?_; (case hl => tb_start); (case h0 => first | decide | omega); (case hk => first | decide | omega); (case hx => first | rfl | assumption))
    | (refine' i_lst (Or.inl ?hl) ?h0 ?hk ?hx ?_; (case hl => tb_start); (case h0 => first | decide | omega); (case hk => first | decide | omega); (case hx => first | rfl | assumption))
    | (refine' i_tup ?hl ?hj ?hx ?_; (case hl => tb_start); (case hj => rfl); (case hx => rfl)))
  | (((with_reducible refine' u_tup ?hA ?hl ?hk ?_); (case hA => assumption); (case hl => tb_start); (case hk => rfl)))
  | (((with_reducible refine' set_mls ?hl ?h0 ?hk ?hn ?_); (case hl => tb_start); (case h0 => decide); (case hk => decide); (case hn => first | (simp; done) | omega); refine ?_; intro _ _ _))
  | ((with_reducible show W _ _ _ (call (Value.builtin "len") [Value.ref _]) _ _ _); first
    | (refine' len_lst (Or.inl ?hl) ?hz ?_; (case hl => tb_start); (case hz => omega); refine ?_; intro _)
    | (refine' len_pls ?hl ?hz ?_; (case hl => tb_start); (case hz => (try simp only [List.length_append, List.length_cons, List.length_nil]); omega); refine ?_; intro _)
    | (refine' len_lst (Or.inr ?hl) ?hz ?_; (case hl => tb_start); (case hz => omega); refine ?_; intro _)))


local macro_rules | `(tactic| tb_rel) => `(tactic| ((with_reducible show W _ _ _ (callWith _ (Value.ref _) _ _ _) _ _ _); first | refine k_K (fun P => by kernel_rfl) ?_ | refine k_K1 (fun P => by kernel_rfl) ?_ | refine k_K0 (fun P => by kernel_rfl) ?_))
local macro_rules | `(tactic| tb_rel) => `(tactic| ((with_reducible show W _ _ _ (newList _) _ _ _); refine newL ?_; refine ?_; intro _ _ _ _ _))
local macro_rules | `(tactic| tb_rel) => `(tactic| first
  | ((with_reducible refine' isi_TT ?ha ?_); (case ha => tb_start))
  | ((with_reducible show W _ _ _ (call (Value.builtin "isinstance") [Value.ref _, Value.type "str"]) _ _ _); first
    | (refine' isi_ls ?ha ?_; (case ha => tb_start))
    | (refine' isi_us ?ha ?_; (case ha => tb_start))
    | (refine' isi_Ts ?ha ?_; (case ha => tb_start)))
  | ((with_reducible show W _ _ _ (isTrue (Expr.Call _ _ _ _) _ _) _ _ _); refine t_val ?_)
  | ((with_reducible show W _ _ _ (eval (Expr.Attribute _ _ _) _) _ _ _); refine e_attr ?_)
  | ((with_reducible refine' get_label ?ha ?_); (case ha => tb_start); refine ?_; intro _)
  | ((with_reducible refine' get_kids ?ha ?_); (case ha => tb_start))
  | ((with_reducible refine' m_label ?ha ?_); (case ha => tb_start))
  | ((with_reducible refine' m_setlabel ?ha ?_); (case ha => tb_start))
  | ((with_reducible refine' set_label ?ha ?_); (case ha => tb_start); refine ?_; intro _ _ _)
  | ((with_reducible refine' set_kids ?ha ?_); (case ha => tb_start); refine ?_; intro _ _ _))
local macro_rules | `(tactic| tb_rel) => `(tactic| first
  | ((with_reducible show W _ _ _ (callWith _ (Value.builtin "all") [] (backTo _ (starEach [Expr.GeneratorExp _ _ _ _] _)) []) _ _ _); refine' e_all ?hA (Or.inl ⟨rfl, rfl⟩) (by rfl) (by rfl) (by rfl) (by rfl) (by rfl) (by decide) (by rfl) (by rfl) (by intro _; with_unfolding_all rfl) ?_; (case hA => assumption))
  | ((with_reducible show W _ _ _ (callWith _ (Value.builtin "any") [] (backTo _ (starEach [Expr.GeneratorExp _ _ _ _] _)) []) _ _ _); refine' e_any ?hA (Or.inr ⟨rfl, rfl⟩) (by rfl) (by rfl) (by rfl) (by rfl) (by rfl) (by decide) (by rfl) (by rfl) (by intro _; with_unfolding_all rfl) ?_; (case hA => assumption)))
local macro_rules | `(tactic| tb_rel) => `(tactic| first
  | ((with_reducible show W _ _ _ (assign (Expr.Name _ _) _ _) _ _ _); refine a_name ?_)
  | ((with_reducible refine i_neg ?_); refine ?_; intro _))
local macro_rules | `(tactic| tb_rel) => `(tactic| first
  | ((with_reducible show W _ _ _ (newList [Value.ref _]) _ _ _); refine newP ?_; refine ?_; intro _ _ _ _ _)
  | ((with_reducible refine' ne_empty ?hA ?hl ?hb ?_); (case hA => assumption); (case hl => tb_start); (case hb => tb_start))
  | ((with_reducible refine' m_pop ?hl ?_); (case hl => tb_start))
  | ((with_reducible refine' m_append ?hl ?_); (case hl => tb_start))
  | ((with_reducible refine' pop_pls ?hl ?hz ?_); (case hl => tb_start); (case hz => have szl : sizeLine = 16777216 := rfl; (try simp only [List.length_append, List.length_cons, List.length_nil]); omega); refine ?_; intro _ _ _)
  | ((with_reducible refine' pop0_pls ?hl ?hz ?_); (case hl => tb_start); (case hz => have szl : sizeLine = 16777216 := rfl; (try simp only [List.length_append, List.length_cons, List.length_nil]); omega); refine ?_; intro _ _ _)
  | ((with_reducible refine' app_pls ?hl ?hz ?_); (case hl => tb_start); (case hz => have szl : sizeLine = 16777216 := rfl; (try simp only [List.length_append, List.length_cons, List.length_nil]); omega); refine ?_; intro _ _ _)
  | ((with_reducible show W _ _ _ (exec (Stmt.Assign [Expr.Tuple _ _ _] _ _) _) _ _ _); refine x_asgT ?_)
  | (((with_reducible refine' a_tup ?hA ?ht ?h1 ?h2 ?_)); (case hA => assumption); (case ht => tb_start); (case h1 => rfl); (case h2 => rfl); (show W _ _ _ (assignInOrder [assign _ _, assign _ _] _) _ _ _)))
local macro_rules | `(tactic| tb_rel) => `(tactic| first
  | ((with_reducible refine' s_add ?hz ?_); (case hz => simp only [len_app, len_lt1, len_gt1, len_mi1, len_em, sl24]; omega); refine ?_; intro _)
  | ((with_reducible refine' sub_slice ?hl ?ha ?hlo ?hhi ?hz ?_); (case hl => tb_start); (case ha => tb_start); (case hlo => first | exact .none | exact .int _ _); (case hhi => first | exact .none | exact .int _ _); (case hz => simp only [sl24]; omega); refine ?_; intro _ _ _ _ _)
  | ((with_reducible refine' add_lst ?hl ?hb ?hz ?_); (case hl => tb_start); (case hb => tb_start); (case hz => (try simp only [List.length_append, List.length_cons, List.length_nil, List.length_take, List.length_drop, sl24]); omega); refine ?_; intro _ _ _ _ _)
  | ((with_reducible refine' min_l2 ?hA ?hl ?_); (case hA => assumption); (case hl => tb_start); refine ?_; intro _)
  | ((with_reducible refine' max_l2 ?hA ?hl ?_); (case hA => assumption); (case hl => tb_start); refine ?_; intro _))
local macro_rules | `(tactic| tb_rel) => `(tactic| ((with_reducible show ∀ (a9 : Addr) (σ9 : Sto), Stp No _ σ9 → _ = none → _ = _ → W _ _ _ _ _ _ _); refine ?_; intro _ _ _ _ _))
local macro_rules | `(tactic| tb_rel) => `(tactic| first
  | ((with_reducible show W _ _ _ (isTrue (Expr.Name _ _) _ _) _ _ _); refine t_val ?_)
  | ((with_reducible refine' b_pls ?hl ?hz ?_); (case hl => tb_start); (case hz => (try simp only [List.length_append, List.length_cons, List.length_nil]); omega))
  | ((with_reducible refine c_find ?_); refine ?_; intro _)
  | ((with_reducible refine' m_extend ?hl ?_); (case hl => tb_start)))
local macro_rules | `(tactic| tb_rel) => do
  let ts ← [`Mine.nr_range, `Mine.nr_isinstance, `Mine.nr_str, `Mine.nr_list, `Mine.nr_len, `Mine.nr_int, `Mine.nr_all, `Mine.nr_any, `Mine.nr_zip, `Mine.nr_min, `Mine.nr_max, `Mine.nr_reversed, `Mine.nr_law_drawn, `Mine.nr_law_tree, `Mine.nr_law_plain, `Mine.nr_law_told, `Mine.nr_law_marked, `Mine.nr_law_next, `Mine.nr_chomsky_normal_form, `Mine.nr_un_chomsky_normal_form, `Mine.nr_same, `Mine.nr_Tree].mapM fun n => `(Lean.Parser.Tactic.tacticSeq| refine $(Lean.mkIdent n) ?_)
  `(tactic| ((with_reducible show W _ _ _ (eval (Expr.Name _ _) _) _ _ _); first
    | ((refine' n_loc ?hv9 ?_); (case hv9 => first | rfl | assumption | kbo_bools))
    | ((refine' n_cel ?hv9 ?_); (case hv9 => tb_start))
    | ((refine' n_free ?hv9 ?_); (case hv9 => tb_start))
    | (with_reducible first $[| $(ts.toArray)]*)))

set_option maxHeartbeats 4000000
def Ints (vs : List Value) : Prop := ∀ v ∈ vs, ∃ i t, v = Value.int i t
section
variable {Γ : Cx} {A : Around} {L : Addr} {m : Loc} {σ : Sto}
theorem next_spec {hnd sc : Addr} {vs : List Value} {k b many : Int} {t1 t2 tm : Tok} {Q : Value → Loc → Sto → Prop} (hA : Ok A 1)
    (hh : σ hnd = some (.mls [.ref sc, .int k t1, .int b t2])) (hs : σ sc = some (.lst vs)) (hi : Ints vs) (hk : 0 ≤ k ∧ k < 2 ^ 40) (hlen : vs.length ≤ 63) (hm : 1 ≤ many)
    (h : ∀ v t t' σ', Stp (· = hnd) σ σ' → σ' hnd = some (.mls [.ref sc, .int (k + 1) t', .int b t2]) → 0 ≤ v → v < many → Q (.int v t) m σ') : W Γ A L (call (.ref 175) [.ref hnd, .int many tm]) Q m σ := by
  refine call_fn (binds := [(Str.ofString "hand", .ref hnd), (Str.ofString "many", .int many tm)]) hA (fun P => by exact rfl) (fun P => by kernel_rfl) (fun s S => BindsTo.of_eq rfl) (locs rfl) (fun L' σ0 st0 hA' => ?_)
  generalize A.deeper _ = A' at hA' ⊢
  refine x_cons (x_asgW (names := [Str.ofString "script", Str.ofString "k"]) ?_)
  repeat' tb_rel
  split
  · repeat' tb_rel
    exact ⟨(· = hnd), by top_name, fun σ₃ st₃ kp => h _ _ _ σ₃ st₃ (kp _ _ (by assumption) rfl) (Int.fmod_nonneg_of_pos _ (by omega)) (Int.fmod_lt_of_pos _ (by omega))⟩
  · rename_i hne
    have hpos : 0 < vs.length := by
      cases vs with
      | nil => exact absurd rfl hne
      | cons _ _ => exact Nat.succ_pos _
    have h1 := Int.fmod_nonneg_of_pos k (b := (vs.length : Int)) (by omega)
    have h2 := Int.fmod_lt_of_pos k (b := (vs.length : Int)) (by omega)
    obtain ⟨x, hx⟩ : ∃ x, vs[(k.fmod (vs.length : Int)).toNat]? = some x := ⟨_, List.getElem?_eq_getElem (by omega)⟩
    obtain ⟨i, t, rfl⟩ := hi x (List.mem_of_getElem? hx)
    repeat' tb_rel
    exact ⟨(· = hnd), by top_name, fun σ₃ st₃ kp => h _ _ _ σ₃ st₃ (kp _ _ (by assumption) rfl) (Int.fmod_nonneg_of_pos _ (by omega)) (Int.fmod_lt_of_pos _ (by omega))⟩
end

local macro_rules | `(tactic| tb_rel) => `(tactic| (((with_reducible refine' next_spec ?hA ?hh ?hs ?hi ?hk ?hl ?hm ?_); (case hA => exact Ok.mono (by assumption) (by first | decide | omega)); (case hh => tb_start); (case hs => tb_start); (case hi => assumption); (case hk => omega); (case hl => assumption); (case hm => decide); refine ?_; intro _ _ _ _ _ _ _ _)))

def BB : Nat → Int
  | 0 => 7
  | d + 1 => 7 + 4 * BB d
theorem BB_pos : ∀ d, 7 ≤ BB d
  | 0 => by decide
  | d + 1 => by have := BB_pos d; simp only [BB]; omega
def HandAt (σ : Sto) (hnd sc : Addr) (k : Int) : Prop := ∃ b t1 t2, σ hnd = some (.mls [.ref sc, .int k t1, .int b t2])

section
def DrawnSpec (Γ : Cx) (d : Nat) : Prop := ∀ {A : Around} {L : Addr} {m : Loc} {σ : Sto} {hnd sc : Addr} {vs : List Value} {k : Int} {td : Tok} {Q : Value → Loc → Sto → Prop}, Ok A (d + 2) → HandAt σ hnd sc k → σ sc = some (.lst vs) → Ints vs → 0 ≤ k → k + BB d < 2 ^ 40 → vs.length ≤ 63 →
    (∀ t v k' σ', Stp (· = hnd) σ σ' → HandAt σ' hnd sc k' → k ≤ k' → k' ≤ k + BB d → Good d t → DrAt σ' t v → Q v m σ') → W Γ A L (call (.ref 180) [.ref hnd, .int d td]) Q m σ
variable {Γ : Cx} {A : Around} {L : Addr} {m : Loc} {σ : Sto}
theorem drawn_step (d : Nat) (ih : ∀ d', d = d' + 1 → DrawnSpec Γ d') : DrawnSpec Γ d := by
  intro A L m σ hnd sc vs k td Q hA hh hs hi hk hk2 hlen h
  refine call_fnC (binds := [(Str.ofString "hand", .ref hnd), (Str.ofString "deep", .int d td)]) hA (fun P => by exact rfl) (fun P => by kernel_rfl) (fun s S => BindsTo.of_eq rfl) (by rfl) (fun L' σ0 st0 hA' hcell => ?_)
  generalize A.deeper _ = A' at hA' ⊢
  have c1 : σ0 (L' + 1) = some (.cel (some (.ref hnd))) := (hcell (Str.ofString "hand") _ rfl).1
  have c2 : σ0 (L' + 1 + 1) = some (.cel (some (.int d td))) := (hcell (Str.ofString "deep") _ rfl).1
  clear hcell
  obtain ⟨b, t1, t2, hh⟩ := hh
  have hBB := BB_pos d
  repeat' tb_rel
  rename_i tS v1 t3 t4 σ1 st1 hh1 h01 h11
  obtain ⟨y, hy, hlab⟩ := sabc' h01 h11
  refine i_str h01 h11 (by omega) hy ?_
  intro ty
  repeat' tb_rel
  rename_i tA tB tC tD lz σ2 st2 fr2 hl2 tE v2 t5 t6 σ3 st3 hh3 h03 h13
  obtain ⟨z, tz, hz, hz1, hz2⟩ := sz4 (a := tA) (b := tB) (c := tC) (d := tD) h03 h13
  repeat' tb_rel
  refine x_if (t_bool ?_)
  refine W.cut (fun b σ' => Stp (· = hnd) σ0 σ' ∧ ∃ k5, HandAt σ' hnd sc k5 ∧ k + 2 ≤ k5 ∧ k5 ≤ k + 3 ∧ (b = false → d ≠ 0)) ?_ ?_
  · refine t_or ?_
    repeat' tb_rel
    split
    · exact ⟨rfl, by top_name, _, ⟨_, _, _, hh3⟩, by omega, by omega, nofun⟩
    rename_i hd0
    have hd0 : d ≠ 0 := by simpa using hd0
    refine t_or ?_
    repeat' tb_rel
    split
    · exact ⟨rfl, by top_name, _, ⟨_, _, _, hh3⟩, by omega, by omega, nofun⟩
    refine t_or ?_
    repeat' tb_rel
    split
    · exact ⟨rfl, by top_name, _, ⟨_, _, _, by assumption⟩, by omega, by omega, nofun⟩
    refine t_or0 ?_
    exact ⟨rfl, by top_name, _, ⟨_, _, _, by assumption⟩, by omega, by omega, fun _ => hd0⟩
  rintro b1 σ5 ⟨st5, k5, ⟨b5, t8, t9, hh5⟩, hk5, hk5', hd0⟩
  split
  · repeat' tb_rel
    refine e_comp hA' (by rfl) (by rfl) (by rfl) (by decide) (by decide) ?_
    repeat' tb_rel
    refine range_one ?_
    intro r σ6 ta tb tc st6 fr6 hr6
    refine it_rng hr6 (by omega) (by omega) rfl ?_
    intro I σ7 st7 fr7 it7
    refine ⟨I, _, rfl, by rw [rangeItems_length]; omega, fr7, st7, it7, ⟨⟨(· = hnd), fun ps ys σ => σ (L' + 1) = some (.cel (some (.ref hnd))) ∧ σ sc = some (.lst vs) ∧ ∃ k6 ks, HandAt σ hnd sc k6 ∧ k5 ≤ k6 ∧ k6 + ps.length ≤ k5 + z ∧ DrAll σ ks ys ∧ (∀ t ∈ ks, isW t) ∧ (ks.length : Int) + ps.length = z, ?_, ?_, ?_⟩⟩⟩
    · refine ⟨by tb_start, by tb_start, k5, [], ⟨b5, t8, t9, by tb_start⟩, by omega, ?_, rfl, nofun, ?_⟩ <;> rw [rangeItems_length] <;> simp <;> omega
    · rintro p r ys C mm v σ8 σ9 ⟨i1, i2, k6, ks, ⟨b6, t10, t11, i3⟩, i4, i5, i6, i7, i8⟩ hpv kp stX9 hmm
      have i1 := kp.get i1
      have i2 := kp.get i2
      have i3 := kp.get i3
      have i6 := DrAll.keep kp.frz i6
      simp only [List.length_cons] at i5 i8
      repeat' tb_rel
      rename_i tX vX tX2 tX3 σX stX hhX h0X h1X
      obtain ⟨y2, hy2, hw2⟩ := xy' h0X h1X
      refine i_str h0X h1X (by omega) hy2 ?_
      intro t12
      refine ⟨stX, by tb_start, by tb_start, _, ks ++ [.w y2], ⟨_, _, _, hhX⟩, by omega, by omega, DrAll.snoc .word (i6.keep stX.frz), ?_, by simp; omega⟩
      intro t ht
      rcases List.mem_append.mp ht with ht | ht
      · exact i7 t ht
      · cases List.mem_singleton.mp ht; exact hw2
    · rintro ys σ8 a σ10 ⟨i1, i2, k6, ks, ⟨b6, t10, t11, i3⟩, i4, i5, i6, i7, i8⟩ st10 kp10 ha
      have i3 := kp10.get i3
      have i6 := DrAll.keep kp10.frz i6
      simp only [List.length_nil] at i5 i8
      repeat' tb_rel
      rename_i pA σ11 st11 fr11 hp11
      refine ⟨(· = hnd), by top_name, fun σ₃ st₃ kp => h (.n y ks) _ k6 σ₃ st₃ ⟨_, _, _, kp _ _ (by tb_start) rfl⟩ (by omega) (by omega) (.leaf hlab (by omega) (by omega) i7) ⟨_, _, _, _, rfl, kp _ _ hp11 rfl, kp _ _ (by tb_start) rfl, DrAll.keep kp.frz (i6.keep st11.frz)⟩⟩
  · obtain ⟨d', rfl⟩ : ∃ d', d = d' + 1 := ⟨d - 1, by have := hd0 (by simpa using ‹¬ b1 = true›); omega⟩
    have hBB' := BB_pos d'
    have hz4 : z * BB d' ≤ 4 * BB d' := Int.mul_le_mul_of_nonneg_right hz2 (by omega)
    simp only [BB] at hk2 h
    repeat' tb_rel
    refine e_comp hA' (by rfl) (by rfl) (by rfl) (by decide) (by decide) ?_
    repeat' tb_rel
    refine range_one ?_
    intro r σ6 ta tb tc st6 fr6 hr6
    refine it_rng hr6 (by omega) (by omega) rfl ?_
    intro I σ7 st7 fr7 it7
    refine ⟨I, _, rfl, by rw [rangeItems_length]; omega, fr7, st7, it7, ⟨⟨(· = hnd), fun ps ys σ => σ (L' + 1) = some (.cel (some (.ref hnd))) ∧ σ (L' + 1 + 1) = some (.cel (some (.int (d' + 1 : Nat) td))) ∧ σ sc = some (.lst vs) ∧ ∃ k6 ks, HandAt σ hnd sc k6 ∧ k5 ≤ k6 ∧ k6 + ps.length * BB d' ≤ k5 + z * BB d' ∧ DrAll σ ks ys ∧ (∀ t ∈ ks, Good d' t) ∧ (ks.length : Int) + ps.length = z, ?_, ?_, ?_⟩⟩⟩
    · have ez : ((z - 0).toNat : Int) = z := by omega
      refine ⟨by tb_start, by tb_start, by tb_start, k5, [], ⟨_, _, _, by tb_start⟩, by omega, ?_, rfl, nofun, ?_⟩ <;> rw [rangeItems_length] <;> simp only [ez, List.length_nil] <;> omega
    · rintro p r ys C mm v σ8 σ9 ⟨i1, i0, i2, k6, ks, ⟨b6, t10, t11, i3⟩, i4, i5, i6, i7, i8⟩ hpv kp stX9 hmm
      have i1 := kp.get i1
      have i0 := kp.get i0
      have i2 := kp.get i2
      have i3 := kp.get i3
      have i6 := DrAll.keep kp.frz i6
      have e1 : ((r.length + 1 : Nat) : Int) * BB d' = r.length * BB d' + BB d' := by rw [Int.natCast_add, Int.add_mul]; simp
      have e2 : 0 ≤ (r.length : Int) * BB d' := Int.mul_nonneg (by omega) (by omega)
      simp only [List.length_cons] at i5 i8
      rw [e1] at i5
      repeat' tb_rel
      rename_i tX1 tX2
      have e3 : ((d' + 1 : Nat) : Int) - 1 = (d' : Int) := by omega
      rw [e3]
      refine ih d' rfl hA' ⟨_, _, _, i3⟩ i2 hi (by omega) (by omega) hlen (fun t v k7 σ10 st10 hh10 hk7 hk7' hg hdr => ?_)
      refine ⟨st10, by tb_start, by tb_start, by tb_start, _, ks ++ [t], hh10, by omega, by omega, DrAll.snoc hdr (i6.keep st10.frz), ?_, by simp; omega⟩
      intro t ht
      rcases List.mem_append.mp ht with ht | ht
      · exact i7 t ht
      · cases List.mem_singleton.mp ht; exact hg
    · rintro ys σ8 a σ10 ⟨i1, i0, i2, k6, ks, ⟨b6, t10, t11, i3⟩, i4, i5, i6, i7, i8⟩ st10 kp10 ha
      have i3 := kp10.get i3
      have i6 := DrAll.keep kp10.frz i6
      simp only [List.length_nil, Int.natCast_zero, Int.zero_mul, Int.add_zero] at i5 i8
      repeat' tb_rel
      rename_i pA σ11 st11 fr11 hp11
      refine ⟨(· = hnd), by top_name, fun σ₃ st₃ kp => h (.n y ks) _ k6 σ₃ st₃ ⟨_, _, _, kp _ _ (by tb_start) rfl⟩ (by omega) (by omega) (.node hlab (by omega) (by omega) i7) ⟨_, _, _, _, rfl, kp _ _ hp11 rfl, kp _ _ (by tb_start) rfl, DrAll.keep kp.frz (i6.keep st11.frz)⟩⟩
theorem drawn_spec (d : Nat) : DrawnSpec Γ d := by
  induction d with
  | zero => exact drawn_step 0 nofun
  | succ d ih => exact drawn_step _ fun d' e => by cases e; exact ih
end

section
variable {Γ : Cx} {A : Around} {L : Addr} {m : Loc} {σ : Sto} {n : Nat}
theorem make_weight {a : Addr} {rest : List Value} {kw : List (Str × Value)} : (Code.builtin "type.__call__" ⟨.ref a :: rest, kw⟩).weight = 1 := by
  have hf : (Code.builtin "type.__call__" ⟨.ref a :: rest, kw⟩).frames = 0 := by
    unfold Code.frames
    split <;> first | rfl | simp_all [Code.isFrame]
  have hg : (Code.builtin "type.__call__" ⟨.ref a :: rest, kw⟩).isGuard = false := by
    show guardIds.contains "type.__call__" = false
    decide +kernel
  have hk : (Code.builtin "type.__call__" ⟨.ref a :: rest, kw⟩).isCaller = false := by
    unfold Code.isCaller
    split <;> first | rfl | simp_all
  simp [Code.weight, hf, hg, hk, Code.isCreation]
theorem make_units {a : Addr} {rest : List Value} {kw : List (Str × Value)} : (Code.builtin "type.__call__" ⟨.ref a :: rest, kw⟩).cUnits = 1 := by
  have hf : (Code.builtin "type.__call__" ⟨.ref a :: rest, kw⟩).frames = 0 := by
    unfold Code.frames
    split <;> first | rfl | simp_all [Code.isFrame]
  simp [Code.cUnits, hf]
theorem Ok.make {a : Addr} {rest : List Value} {kw : List (Str × Value)} (x : Ok A (n + 1)) : Ok (A.under (.builtin "type.__call__" ⟨.ref a :: rest, kw⟩)) n := by
  have h1 := make_weight (a := a) (rest := rest) (kw := kw)
  have h2 := make_units (a := a) (rest := rest) (kw := kw)
  refine ⟨x.h, ?_, ?_⟩
  · have := x.d
    show A.depth + Code.weight _ + n < _
    rw [h1]; omega
  · have := x.u
    show A.units + Code.cUnits _ + 20 * n < _
    rw [h2]; omega
theorem tree_new {c : Addr} {vs : List Value} {l : Str} {t : Tok} {Q : Value → Loc → Sto → Prop} (hA : Ok A (n + 2)) (hc : σ c = some (.lst vs)) (hz : vs.length ≤ sizeLine)
    (h : ∀ x c' σ', Stp No σ σ' → σ x = none → σ c' = none → σ' x = some (.tre l c') → σ' c' = some (.lst vs) → Q (.ref x) m σ') : W Γ A L (call (.ref 145) [.str l t, .ref c]) Q m σ := by
  refine ⟨fun s S => wpAny_call ?_⟩
  obtain ⟨hh, g, d, tk, os⟩ := s
  refine make_core (makes_of S.K (k_make _)) (looks_findIn S.K (k_init _)) (fun self => bind_fn S.K self (k_fn36 _)) (.inl rfl) ?_
  have hA1 := hA.make (a := 145) (rest := [.str l t, .ref c]) (kw := [])
  generalize A.under _ = A1 at hA1 ⊢
  obtain ⟨S1, st1, fr1⟩ := S.add (a := hh.objs.size) (o' := .dct (dictOf [] 0)) (t := tk) (Nat.le_refl _) nofun (fun b o e => Heap.get?_push_of_some _ e) (h' := hh.push emptyDict) (Heap.get?_push_size _ rfl)
  have hsz : (hh.push emptyDict).objs.size = hh.objs.size + 1 := Heap.size_push _ _
  obtain ⟨S2, st2, fr2⟩ := S1.add (a := hh.objs.size + 1) (o' := .raw (instObj 145 hh.objs.size)) (t := tk) (Nat.le_of_eq hsz) nofun (fun b o e => Heap.get?_push_of_some _ e) (h' := (hh.push emptyDict).push (instObj 145 hh.objs.size)) (by
    show Heap.get? _ _ = _
    rw [← hsz]; exact Heap.get?_push_size _ rfl)
  have ed : ((σ.put hh.objs.size (.dct (dictOf [] 0))).put (hh.objs.size + 1) (.raw (instObj 145 hh.objs.size))) hh.objs.size = some (.dct (dictOf [] 0)) := st2 _ _ put_self (.inr id)
  have ex : ((σ.put hh.objs.size (.dct (dictOf [] 0))).put (hh.objs.size + 1) (.raw (instObj 145 hh.objs.size))) (hh.objs.size + 1) = some (.raw (instObj 145 hh.objs.size)) := put_self
  have st := st1.trans st2
  have frx : σ (hh.objs.size + 1) = none := by
    cases q : σ (hh.objs.size + 1) with
    | none => rfl
    | some o => rw [st1 _ _ q (.inr id)] at fr2; cases fr2
  generalize ((σ.put hh.objs.size (.dct (dictOf [] 0))).put (hh.objs.size + 1) (.raw (instObj 145 hh.objs.size))) = σ2 at S2 st2 ed ex st
  clear S1 st1 st2 fr2
  clear hsz
  generalize hh.objs.size + 1 = x at *
  generalize hh.objs.size = dx at *
  have hcs := st _ _ hc (.inr id)
  refine code_fn (Q := fun v m' σ' => v = .none ∧ m' = m ∧ ∃ c' o, σ' x = some (.raw (instObj 145 dx)) ∧ σ' dx = some (.dct o) ∧ TreeDict o l c' ∧ σ' c' = some (.lst vs) ∧ σ2 c' = none ∧ Stp (· = dx) σ2 σ') (n := n) (binds := [(Str.ofString "self", .ref x), (Str.ofString "node", .str l t), (Str.ofString "children", .ref c)]) hA1 S2 (fun P => by exact rfl) (fun P => by kernel_rfl) (fun s S => BindsTo.of_defaults rfl (S.K 29 _ rfl) rfl rfl rfl) (locs rfl) ?_ (fun L' σ0 st0 hA' => ?_)
  · rintro v m' σ' s' S' ⟨rfl, rfl, c', o, e1, e2, e3, e4, e5, e6⟩
    refine ⟨rfl, ?_⟩
    have hne : c' ≠ dx := ne_tag e4 e2
    have hnx : c' ≠ x := ne_tag e4 e1
    have nxL := S'.ne e1
    have ndL := S'.ne e2
    have S9 : St Γ L m' ((σ'.del dx).put x (.tre l c')) s' := ⟨S'.G, S'.keep, S'.ab, by rw [put_ne nxL.symm, del_ne ndL.symm]; exact S'.off, by
      have := S'.real.mkTree (put_old S'.off e1) (put_old S'.off e2) e3
      have q : (((σ'.put L (.ns m')).del dx).put x (.tre l c')) = ((σ'.del dx).put x (.tre l c')).put L (.ns m') := by
        funext b; simp only [Sto.put, Sto.del]; split <;> split <;> (try split) <;> simp_all
      rwa [q] at this, S'.tabs, S'.bare, S'.os, S'.gen⟩
    have sf : ∀ a o, σ a = some o → ((σ'.del dx).put x (.tre l c')) a = some o := fun a o e => by
      have n1 : a ≠ x := fun z => by (first | rw [z, frx] at e | rw [← z, frx] at e); cases e
      have n2 : a ≠ dx := fun z => by (first | rw [z, fr1] at e | rw [← z, fr1] at e); cases e
      rw [put_ne n1, del_ne n2]
      exact e6 _ _ (st _ _ e (.inr id)) (.inr n2)
    refine ⟨_, _, S9, h x c' _ (fun a o e _ => sf a o e) frx ?_ put_self (by rw [put_ne hnx, del_ne hne]; exact e4)⟩
    cases q : σ c' with
    | none => rfl
    | some o => rw [st _ _ q (.inr id)] at e5; cases e5
  · generalize A1.deeper _ = A' at hA' ⊢
    repeat' tb_rel
    rw [if_neg (by decide)]
    repeat' tb_rel
    rw [if_neg (by decide)]
    repeat' tb_rel
    refine lst_copy (.inl (by tb_start)) hz ?_
    intro c' σ3 st3 fr3 hc3
    repeat' tb_rel
    refine set_raw (dx := dx) (es := []) (n := 0) (by tb_start) (by tb_start) k_takeC rfl (fun _ _ => show 1 ≤ 1000 by decide) ?_
    intro σ4 hs4 t4 st4 hd4
    have hd4 : σ4 dx = some (.dct (dictOf [⟨hs4, .str (Str.ofString "_children") t4, .ref c'⟩] 1)) := hd4
    repeat' tb_rel
    have hx4 : σ4 x = some (.raw (instObj 145 dx)) := by tb_start
    refine set_raw (dx := dx) (n := 1) hx4 hd4 k_takeL rfl (fun _ _ => show 2 ≤ 1000 by decide) ?_
    intro σ5 hs5 t5 st5 hd5
    have hd5 : σ5 dx = some (.dct (dictOf [⟨hs4, .str (Str.ofString "_children") t4, .ref c'⟩, ⟨hs5, .str (Str.ofString "_label") t5, .str l t⟩] 2)) := hd5
    repeat' tb_rel
    refine ⟨(· = dx), by top_name, fun σ₃ st₃ kp => ⟨rfl, rfl, c', _, st₃ _ _ ex (.inl rfl), kp _ _ hd5 rfl, ⟨_, _, _, _, _, _, rfl⟩, kp _ _ (by tb_start) rfl, ?_, st₃⟩⟩
    cases q : σ2 c' with
    | none => rfl
    | some o => rw [st0 _ _ q (.inr id)] at fr3; cases fr3
end

local macro_rules | `(tactic| tb_rel) => `(tactic| ((with_reducible refine' tree_new (n := 0) ?hA ?hc ?hz ?_); (case hA => exact Ok.mono (by assumption) (by first | decide | omega)); (case hc => tb_start); (case hz => (try simp only [List.length_append, List.length_cons, List.length_nil, sl24]); omega); refine ?_; intro _ _ _ _ _ _ _ _))
theorem k_len9 : ∀ P, findIn (KB P) (.ref 145) "__len__" = some (some (.ref 50)) := fun P => by kernel_rfl
theorem k_fn50 : ∀ P, isFn (KB P) (.ref 50) = true := fun P => by kernel_rfl
theorem k_item : ∀ P, findIn (KB P) (.ref 145) "__getitem__" = some (some (.ref 57)) := fun P => by kernel_rfl
theorem k_fn57 : ∀ P, isFn (KB P) (.ref 57) = true := fun P => by kernel_rfl
theorem k_fnIn57 : ∀ P, fnIn (KB P) 57 = true := fun P => by kernel_rfl
section
variable {Γ : Cx} {A : Around} {L : Addr} {m : Loc} {σ : Sto} {n : Nat}
theorem label_spec {a c : Addr} {l : Str} {Q : Value → Loc → Sto → Prop} (hA : Ok A 1) (ha : σ a = some (.tre l c)) (h : ∀ t σ', Stp No σ σ' → Q (.str l t) m σ') : W Γ A L (call (.ref 71) [.ref a]) Q m σ := by
  refine call_fn (binds := [(Str.ofString "self", .ref a)]) hA (fun P => by exact rfl) (fun P => by kernel_rfl) (fun s S => BindsTo.of_eq rfl) (locs rfl) (fun L' σ0 st0 hA' => ?_)
  generalize A.deeper _ = A' at hA' ⊢
  repeat' tb_rel
  exact ⟨No, by top_name, fun σ₃ st₃ kp => h _ σ₃ st₃⟩
theorem setlabel_spec {a c : Addr} {l l' : Str} {t : Tok} {Q : Value → Loc → Sto → Prop} (hA : Ok A 1) (ha : σ a = some (.tre l c)) (h : ∀ σ', Stp (· = a) σ σ' → σ' a = some (.tre l' c) → Q .none m σ') : W Γ A L (call (.ref 78) [.ref a, .str l' t]) Q m σ := by
  refine call_fn (binds := [(Str.ofString "self", .ref a), (Str.ofString "label", .str l' t)]) hA (fun P => by exact rfl) (fun P => by kernel_rfl) (fun s S => BindsTo.of_eq rfl) (locs rfl) (fun L' σ0 st0 hA' => ?_)
  generalize A.deeper _ = A' at hA' ⊢
  repeat' tb_rel
  exact ⟨(· = a), by top_name, fun σ₃ st₃ kp => h σ₃ st₃ (kp _ _ (by assumption) rfl)⟩
theorem len_spec {a c : Addr} {l : Str} {vs : List Value} {Q : Value → Loc → Sto → Prop} (hA : Ok A 2) (ha : σ a = some (.tre l c)) (hc : σ c = some (.lst vs)) (hz : vs.length ≤ 1000) (h : ∀ t σ', Stp No σ σ' → Q (.int vs.length t) m σ') : W Γ A L (call (.builtin "len") [.ref a]) Q m σ := by
  have z : W Γ A.in1 L (call (.ref 50) [.ref a]) (fun v m' σ' => ∃ t, v = .int vs.length t ∧ m' = m ∧ Stp No σ σ') m σ := by
    refine call_fn (n := 0) (binds := [(Str.ofString "self", .ref a)]) hA.in1 (fun P => by exact rfl) (fun P => by kernel_rfl) (fun s S => BindsTo.of_eq rfl) (locs rfl) (fun L' σ0 st0 hA' => ?_)
    generalize A.in1.deeper _ = A' at hA' ⊢
    repeat' tb_rel
    exact ⟨No, by top_name, fun σ₃ st₃ kp => ⟨_, rfl, rfl, st₃⟩⟩
  refine ⟨fun s S => ?_⟩
  obtain ⟨dx, es, n, I, _⟩ := S.tre ha
  refine len_K S.fr S.G.X I (k_len9 _) (k_fn50 _) (mono1 (z.run s S) fun v s' ⟨m', σ', S', t, e1, e2, e3⟩ => ?_)
  subst e1 e2
  exact ⟨⟨by omega, by omega⟩, _, _, S'.tok _, h _ _ e3⟩
theorem item_spec {value slice : Expr} {a c : Addr} {l : Str} {vs : List Value} {k : Int} {t : Tok} {x : Value} {Q : Value → Loc → Sto → Prop} (hA : Ok A 2) (ha : σ a = some (.tre l c)) (hc : σ c = some (.lst vs)) (h0 : 0 ≤ k) (hk : k < 2 ^ 63) (hx : vs[k.toNat]? = some x) (h : ∀ σ', Stp No σ σ' → Q x m σ')
    (hsl : subscripted slice true (.ref a) (.int k t) = runValue (.builtin "lifetime.subscript" ⟨[.ref a, .int k t], []⟩) := by with_unfolding_all rfl) : W Γ A L (subscriptTail value slice (.ref a) (.int k t)) Q m σ := by
  have z : W Γ A.in1 L (call (.ref 57) [.ref a, .int k t]) (fun v m' σ' => v = x ∧ m' = m ∧ Stp No σ σ') m σ := by
    refine call_fn (n := 0) (binds := [(Str.ofString "self", .ref a), (Str.ofString "index", .int k t)]) hA.in1 (fun P => by exact rfl) (fun P => by kernel_rfl) (fun s S => BindsTo.of_eq rfl) (locs rfl) (fun L' σ0 st0 hA' => ?_)
    generalize A.in1.deeper _ = A' at hA' ⊢
    repeat' tb_rel
    rw [if_pos rfl]
    repeat' tb_rel
    exact ⟨No, by top_name, fun σ₃ st₃ kp => ⟨rfl, rfl, st₃⟩⟩
  refine ⟨fun s S => ?_⟩
  obtain ⟨dx, es, n, I, _⟩ := S.tre ha
  refine sub_K S.fr S.G.X I (k_item _) (k_fnIn57 _) (k_fn57 _) (mono1 (z.run s S) fun v s' ⟨m', σ', S', e1, e2, e3⟩ => ?_) hsl
  subst e1 e2
  exact ⟨_, _, S', h _ e3⟩
end

local macro_rules | `(tactic| tb_rel) => `(tactic| ((with_reducible refine' label_spec ?hA ?ha ?_); (case hA => exact Ok.mono (by assumption) (by first | decide | omega)); (case ha => tb_start); refine ?_; intro _ _ _))
local macro_rules | `(tactic| tb_rel) => `(tactic| ((with_reducible refine' setlabel_spec ?hA ?ha ?_); (case hA => exact Ok.mono (by assumption) (by first | decide | omega)); (case ha => tb_start); refine ?_; intro _ _ _))
local macro_rules | `(tactic| tb_rel) => `(tactic| ((with_reducible refine' len_spec ?hA ?ha ?hc ?hz ?_); (case hA => exact Ok.mono (by assumption) (by first | decide | omega)); (case ha => tb_start); (case hc => tb_start); (case hz => omega); refine ?_; intro _ _ _))
section
def TreeSpec (Γ : Cx) (n : Nat) : Prop := ∀ {t : T} {A : Around} {L : Addr} {m : Loc} {σ : Sto} {v : Value} {Q : Value → Loc → Sto → Prop}, Wid n t → Ok A (n + 3) → DrAt σ t v →
    (∀ v' fs σ', Stp No σ σ' → TrAt σ' t v' fs → fs.Nodup → (∀ a ∈ fs, σ a = none) → Q v' m σ') → W Γ A L (call (.ref 185) [v]) Q m σ
variable {Γ : Cx} {A : Around} {L : Addr} {m : Loc} {σ : Sto}
theorem tree_step (n : Nat) (ih : ∀ n', n = n' + 1 → TreeSpec Γ n') : TreeSpec Γ n := by
  intro t A L m σ v Q hw hA hd h
  refine call_fn (n := n + 2) (binds := [(Str.ofString "drawn", v)]) hA (fun P => by exact rfl) (fun P => by kernel_rfl) (fun s S => BindsTo.of_eq rfl) (locs rfl) (fun L' σ0 st0 hA' => ?_)
  generalize A.deeper _ = A' at hA' ⊢
  cases hw with
  | w =>
    rename_i s
    obtain ⟨t, rfl⟩ := hd
    repeat' tb_rel
    rw [if_pos rfl]
    repeat' tb_rel
    exact ⟨No, by top_name, fun σ₃ st₃ kp => h _ [] σ₃ st₃ ⟨⟨t, rfl⟩, rfl⟩ .nil nofun⟩
  | n hk4 hks =>
    rename_i n l ks
    obtain ⟨a, t, c, vs, rfl, e1, e2, e3⟩ := hd
    have hlen := DrAll.length e3
    repeat' tb_rel
    rw [if_neg (by decide)]
    repeat' tb_rel
    refine e_comp hA' (by rfl) (by rfl) (by rfl) (by decide) (by decide) ?_
    repeat' tb_rel
    refine it_lst (by tb_start) ?_
    intro I σ7 st7 fr7 it7
    refine ⟨I, _, rfl, by rw [List.length_map]; omega, fr7, st7, it7, ⟨⟨No, fun ps ys τ => ∃ k1 k2 v2 fs, ks = k1 ++ k2 ∧ ps = v2.map (fun v => (· = v)) ∧ DrAll τ k2 v2 ∧ TrAll τ k1 ys fs ∧ fs.Nodup ∧ (∀ a ∈ fs, σ0 a = none), ?_, ?_, ?_⟩⟩⟩
    · exact ⟨[], ks, vs, [], rfl, rfl, (e3.keep st0.frz).keep st7.frz, ⟨rfl, rfl⟩, .nil, nofun⟩
    · rintro p r ys C mm v σ8 σ9 ⟨k1, k2, v2, fs, q1, q2, q3, q4, q5, q6⟩ hpv kp st9 hmm
      cases v2 with
      | nil => cases q2
      | cons v2 r2 =>
        obtain ⟨rfl, rfl⟩ := List.cons.inj q2
        cases hpv
        cases k2 with
        | nil => cases q3
        | cons k k2 =>
          obtain ⟨_, _, e, d1, d2⟩ := q3
          cases e
          have hk9 : Wid n k := hks k (by rw [q1]; simp)
          repeat' tb_rel
          refine ih n rfl hk9 hA' (d1.keep kp.frz) (fun v' f' σ10 st10 t10 n10 fr10 => ?_)
          refine ⟨st10, k1 ++ [k], k2, r2, fs ++ f', by rw [q1]; simp, rfl, (d2.keep kp.frz).keep st10.frz, TrAll.snoc t10 ((q4.keep kp).no st10), ?_, fun a ha => ?_⟩
          · refine List.nodup_append.mpr ⟨q5, n10, fun a ha b hb hab => ?_⟩
            subst hab
            obtain ⟨l, c, q⟩ := (q4.keep kp).there a ha
            rw [fr10 a hb] at q; cases q
          · rcases List.mem_append.mp ha with ha | ha
            · exact q6 a ha
            · cases q : σ0 a with
              | none => rfl
              | some o => have := fr10 a ha; rw [st9 _ _ q (.inr id)] at this; cases this
    · rintro ys σ8 a σ10 ⟨k1, k2, v2, fs, q1, q2, q3, q4, q5, q6⟩ st10 kp10 ha
      cases v2 with
      | cons _ _ => cases q2
      | nil =>
      cases k2 with
      | cons _ _ => obtain ⟨_, _, e, _⟩ := q3; cases e
      | nil =>
      rw [List.append_nil] at q1
      subst q1
      have ht := q4.keep kp10
      have hl := ht.length
      have hsz : sizeLine = 2 ^ 24 := rfl
      have hys : ys.length ≤ 4 := by omega
      repeat' tb_rel
      rename_i x c' σ11 st11 frx frc hx hc
      have htx := ht.no st11
      have xn : x ∉ fs := fun z => by obtain ⟨l, c, q⟩ := ht.there x z; rw [frx] at q; cases q
      refine ⟨No, by top_name, fun σ₃ st₃ kp => h _ (x :: fs) σ₃ st₃ ⟨x, c', ys, fs, rfl, rfl, kp _ _ hx rfl, kp _ _ hc rfl, htx.keep kp⟩ (List.nodup_cons.mpr ⟨xn, q5⟩) fun a ha => ?_⟩
      rcases List.mem_cons.mp ha with rfl | ha
      · cases q : σ a with
        | none => rfl
        | some o => rw [(show Stp No σ σ10 by top_name) _ _ q (.inr id)] at frx; cases frx
      · cases q : σ a with
        | none => rfl
        | some o => have := q6 a ha; rw [st0 _ _ q (.inr id)] at this; cases this
theorem tree_spec (n : Nat) : TreeSpec Γ n := by
  induction n with
  | zero => exact tree_step 0 nofun
  | succ n ih => exact tree_step _ fun d' e => by cases e; exact ih
end

section
def PlainSpec (Γ : Cx) (n : Nat) : Prop := ∀ {t : T} {A : Around} {L : Addr} {m : Loc} {σ : Sto} {v : Value} {fs : List Addr} {Q : Value → Loc → Sto → Prop}, Wid n t → Ok A (n + 3) → TrAt σ t v fs →
    (∀ v' σ', Stp No σ σ' → DrAt σ' t v' → Q v' m σ') → W Γ A L (call (.ref 190) [v]) Q m σ
variable {Γ : Cx} {A : Around} {L : Addr} {m : Loc} {σ : Sto}
theorem plain_step (n : Nat) (ih : ∀ n', n = n' + 1 → PlainSpec Γ n') : PlainSpec Γ n := by
  intro t A L m σ v fs Q hw hA ht h
  refine call_fnC (n := n + 2) (binds := [(Str.ofString "part", v)]) hA (fun P => by exact rfl) (fun P => by kernel_rfl) (fun s S => BindsTo.of_eq rfl) (by rfl) (fun L' σ0 st0 hA' hcell => ?_)
  generalize A.deeper _ = A' at hA' ⊢
  have c1 : σ0 (L' + 1) = some (.cel (some v)) := (hcell (Str.ofString "part") _ rfl).1
  clear hcell
  cases hw with
  | w =>
    rename_i s
    obtain ⟨⟨t, rfl⟩, rfl⟩ := ht
    repeat' tb_rel
    rw [if_pos rfl]
    repeat' tb_rel
    exact ⟨No, by top_name, fun σ₃ st₃ kp => h _ σ₃ st₃ ⟨t, rfl⟩⟩
  | n hk4 hks =>
    rename_i n l ks
    have ht0 := ht.no st0
    obtain ⟨a, c, vs, f, rfl, rfl, e1, e2, e3⟩ := ht0
    have hlen := e3.length
    repeat' tb_rel
    rw [if_neg (by decide)]
    repeat' tb_rel
    refine e_comp hA' (by rfl) (by rfl) (by rfl) (by decide) (by decide) ?_
    repeat' tb_rel
    refine range_one ?_
    intro r σ6 ta tb tc st6 fr6 hr6
    refine it_rng (j := ks.length) hr6 (by omega) (by omega) (by omega) ?_
    intro I σ7 st7 fr7 it7
    refine ⟨I, _, rfl, by rw [rangeItems_length]; omega, fr7, st7, it7, ⟨⟨No, fun ps ys τ => τ (L' + 1) = some (.cel (some (.ref a))) ∧ τ a = some (.tre l c) ∧ τ c = some (.lst vs) ∧ TrAll τ ks vs f ∧ ∃ i j, ps = rangeItems (i : Nat) j ∧ i + j = ks.length ∧ DrAll τ (ks.take i) ys, ?_, ?_, ?_⟩⟩⟩
    · have e7 : TrAll σ7 ks vs f := e3.no (show Stp No σ0 σ7 by top_name)
      exact ⟨by tb_start, by tb_start, by tb_start, e7, 0, ks.length, rfl, by omega, rfl⟩
    · rintro p r ys C mm v σ8 σ9 ⟨i1, i2, i3, i4, i, j, i5, i6, i7⟩ hpv kp st9 hmm
      cases j with
      | zero => cases i5
      | succ j =>
        obtain ⟨rfl, rfl⟩ := List.cons.inj i5
        obtain ⟨tv, rfl⟩ := hpv
        have i1 := kp.get i1
        have i2 := kp.get i2
        have i3 := kp.get i3
        have i4 := i4.keep kp
        have i7 := i7.keep kp.frz
        obtain ⟨k, hk⟩ : ∃ k, ks[i]? = some k := ⟨_, List.getElem?_eq_getElem (by omega)⟩
        obtain ⟨vk, fk, hvk, htk, -⟩ := i4.get hk
        have hk9 : Wid n k := hks k (List.mem_of_getElem? hk)
        repeat' tb_rel
        refine item_spec (Ok.mono hA' (by first | decide | omega)) i2 i3 (by omega) (by omega) (by simpa using hvk) (fun σ10 st10 => ?_)
        repeat' tb_rel
        refine ih n rfl hk9 hA' (htk.no st10) (fun v' σ11 st11 hd => ?_)
        refine ⟨by top_name, by tb_start, by tb_start, by tb_start, (i4.no st10).no st11, i + 1, j, rfl, by omega, ?_⟩
        rw [List.take_succ, hk]
        exact DrAll.snoc hd ((i7.keep st10.frz).keep st11.frz)
    · rintro ys σ8 q σ10 ⟨i1, i2, i3, i4, i, j, i5, i6, i7⟩ st10 kp10 hq
      cases j with
      | succ j => cases i5
      | zero =>
        obtain rfl : i = ks.length := by omega
        rw [List.take_length] at i7
        have i7 := i7.keep kp10.frz
        repeat' tb_rel
        rename_i pA σ11 st11 fr11 hp11
        refine ⟨No, by top_name, fun σ₃ st₃ kp => h _ σ₃ st₃ ⟨_, _, _, _, rfl, kp _ _ hp11 rfl, kp _ _ (by tb_start) rfl, (i7.keep st11.frz).keep kp.frz⟩⟩
theorem plain_spec (n : Nat) : PlainSpec Γ n := by
  induction n with
  | zero => exact plain_step 0 nofun
  | succ n ih => exact plain_step _ fun d' e => by cases e; exact ih
end

open Classical in
noncomputable def eqb (t u : T) : Bool := decide (t = u)
theorem eqb_w {s u : Str} : eqb (.w s) (.w u) = (s == u) := by
  unfold eqb
  by_cases h : s = u
  · subst h; simp
  · simp [h]
theorem eqb_wn {s l : Str} {ks : List T} : eqb (.w s) (.n l ks) = false := by unfold eqb; simp
theorem eqb_nw {s l : Str} {ks : List T} : eqb (.n l ks) (.w s) = false := by unfold eqb; simp
theorem TrAt.word {σ : Sto} {t : T} {v : Value} {fs : List Addr} (h : TrAt σ t v fs) : (∃ s u, t = .w s ∧ v = .str s u) ∨ (∃ l ks a, t = .n l ks ∧ v = .ref a) := by
  cases t with
  | w s => obtain ⟨⟨u, e⟩, _⟩ := h; exact .inl ⟨s, u, rfl, e⟩
  | n l ks => obtain ⟨a, _, _, _, e, _⟩ := h; exact .inr ⟨l, ks, a, rfl, e⟩
section
def EqSpec (n : Nat) : Prop := ∀ {Γ : Cx} {t u : T} {A : Around} {L : Addr} {m : Loc} {σ : Sto} {v w : Value} {fs gs : List Addr} {Q : Value → Loc → Sto → Prop}, Wid n t → Wid n u → Ok A (4 * n + 3) → TrAt σ t v fs → TrAt σ u w gs →
    (∀ σ', Stp No σ σ' → Q (.bool (eqb t u)) m σ') → W Γ A L (call (.ref 156) [v, w]) Q m σ
def EqTre (n : Nat) : Prop := ∀ {Γ : Cx} {l l' : Str} {ks ks' : List T} {A : Around} {L : Addr} {m : Loc} {σ : Sto} {a b : Addr} {fs gs : List Addr} {Q : Value → Loc → Sto → Prop}, Wid n (.n l ks) → Wid n (.n l' ks') → Ok A (4 * n + 2) → TrAt σ (.n l ks) (.ref a) fs → TrAt σ (.n l' ks') (.ref b) gs →
    (∀ σ', Stp No σ σ' → Q (.bool (eqb (.n l ks) (.n l' ks'))) m σ') → W Γ A L (compareOp .Eq (.ref a) (.ref b)) Q m σ
theorem same_of (n : Nat) (ih : EqTre n) : EqSpec n := by
  intro Γ t u A L m σ v w fs gs Q h1 h2 hA ht hu h
  refine call_fn (n := 4 * n + 2) (binds := [(Str.ofString "a", v), (Str.ofString "b", w)]) hA (fun P => by exact rfl) (fun P => by kernel_rfl) (fun s S => BindsTo.of_eq rfl) (locs rfl) (fun L' σ0 st0 hA' => ?_)
  generalize A.deeper _ = A' at hA' ⊢
  have ht0 := ht.no st0
  have hu0 := hu.no st0
  rcases ht.word with ⟨s, x, rfl, rfl⟩ | ⟨l, ks, a, rfl, rfl⟩ <;> rcases hu.word with ⟨s', x', rfl, rfl⟩ | ⟨l', ks', a', rfl, rfl⟩
  · refine x_cons (x_if ?_)
    refine t_bool (t_or ?_)
    repeat' tb_rel
    rw [if_neg (by decide)]
    refine t_or ?_
    repeat' tb_rel
    rw [if_neg (by decide)]
    refine t_or0 ?_
    rw [if_neg (by decide)]
    repeat' tb_rel
    exact ⟨No, by top_name, fun σ₃ st₃ kp => by rw [← eqb_w]; exact h σ₃ st₃⟩
  · obtain ⟨b, d, vs', g, eb, eg, u1, u2, u3⟩ := hu0
    cases eb
    refine x_cons (x_if ?_)
    refine t_bool (t_or ?_)
    repeat' tb_rel
    rw [if_neg (by decide)]
    refine t_or ?_
    repeat' tb_rel
    rw [if_pos rfl, if_pos rfl]
    repeat' tb_rel
    rw [if_neg (by decide)]
    exact ⟨No, by top_name, fun σ₃ st₃ kp => by rw [← eqb_wn]; exact h σ₃ st₃⟩
  · obtain ⟨b, d, vs', g, eb, eg, u1, u2, u3⟩ := ht0
    cases eb
    refine x_cons (x_if ?_)
    refine t_bool (t_or ?_)
    repeat' tb_rel
    rw [if_pos rfl, if_pos rfl]
    repeat' tb_rel
    rw [if_pos rfl]
    repeat' tb_rel
    rw [if_neg (by decide)]
    exact ⟨No, by top_name, fun σ₃ st₃ kp => by rw [← eqb_nw]; exact h σ₃ st₃⟩
  · have hu9 := hu0
    have ht9 := ht0
    obtain ⟨b, d, vs', g, eb, eg, u1, u2, u3⟩ := hu0
    cases eb
    obtain ⟨b', d', vs'', g', eb, eg', u1', u2', u3'⟩ := ht0
    cases eb
    refine x_cons (x_if ?_)
    refine t_bool (t_or ?_)
    repeat' tb_rel
    rw [if_pos rfl, if_pos rfl]
    repeat' tb_rel
    rw [if_pos rfl]
    repeat' tb_rel
    rw [if_pos rfl]
    repeat' tb_rel
    refine ih h1 h2 hA' ht9 hu9 fun σ1 st1 => ?_
    exact ⟨No, by top_name, fun σ₃ st₃ kp => h σ₃ st₃⟩
theorem eq_step (n : Nat) (ih : EqSpec n) : EqTre (n + 1) := by
  intro Γ l l' ks ks' A L m σ a b fs gs Q h1 h2 hA ht hu h
  have ht9 := ht
  have hu9 := hu
  obtain ⟨b', d', vs, g', eb, eg', u1', u2', u3'⟩ := ht
  cases eb
  obtain ⟨b', d, ws, g, eb, eg, u1, u2, u3⟩ := hu
  cases eb
  refine cmp_tre hA u1' u1 ?_
  refine call_fn (n := 4 * n + 5) (binds := [(Str.ofString "self", .ref a), (Str.ofString "other", .ref b)]) hA (fun P => by exact rfl) (fun P => by kernel_rfl) (fun s S => BindsTo.of_eq rfl) (locs rfl) (fun L' σ0 st0 hA' => ?_)
  generalize A.deeper _ = A' at hA' ⊢
  have hl1 := u3'.length
  have hl2 := u3.length
  cases h1 with
  | n k1 h1 =>
  cases h2 with
  | n k2 h2 =>
  repeat' tb_rel
  rw [if_pos rfl]
  repeat' tb_rel
  split
  rotate_left
  · rename_i hne
    exact ⟨No, by top_name, fun σ₃ st₃ kp => ⟨_, rfl, by
      have : eqb (.n l ks) (.n l' ks') = (l == l') := by unfold eqb; simp at hne; simp [hne]
      rw [← this]; exact h σ₃ st₃⟩⟩
  rename_i hll
  have hll : l = l' := by simpa using hll
  subst hll
  repeat' tb_rel
  split
  rotate_left
  · rename_i hne
    exact ⟨No, by top_name, fun σ₃ st₃ kp => ⟨_, rfl, by
      have : eqb (.n l ks) (.n l ks') = ((vs.length : Int) == (ws.length : Int)) := by
        have hne' : vs.length ≠ ws.length := fun z => hne (by rw [z]; simp)
        have : ks ≠ ks' := fun z => hne' (by rw [← hl1, ← hl2, z])
        unfold eqb; simp [this]; omega
      rw [← this]; exact h σ₃ st₃⟩⟩
  rename_i hlen
  have hlen : vs.length = ws.length := by have := beq_iff_eq.mp hlen; omega
  repeat' tb_rel
  refine zip_new (xs := vs) (ys := ws) (by tb_start) (by tb_start) ?_
  intro Z σ2 st2 fr2 hz2
  refine zip_self hz2 ?_
  intro code C a9 go σ3 e3C hLC e2L e3 e2C e2a e3L e3a
  have hz3 : ItZ σ3 Z vs ws 0 .none := hz2.keep fun b o e _ => e3 b o e
  have nL : ¬ Z.mv L' := fun z => by
    obtain ⟨p, q, hTO⟩ := hz3.TO
    rcases z with z | z | z | z
    · rw [z, hz3.z] at e3L; cases e3L
    · rw [z, hTO] at e3L; cases e3L
    · rw [z, hz3.i1] at e3L; cases e3L
    · rw [z, hz3.i2] at e3L; cases e3L
  have na : ¬ Z.mv a9 := fun z => by
    obtain ⟨p, q, hTO⟩ := hz2.TO
    rcases z with z | z | z | z
    · rw [z, hz2.z] at e2a; cases e2a
    · rw [z, hTO] at e2a; cases e2a
    · rw [z, hz2.i1] at e2a; cases e2a
    · rw [z, hz2.i2] at e2a; cases e2a
  have i3 : TrAll σ3 ks vs g' := (u3'.no (show Stp No σ σ2 by top_name)).no fun b o e _ => e3 b o e
  have i3' : TrAll σ3 ks' ws g := (u3.no (show Stp No σ σ2 by top_name)).no fun b o e _ => e3 b o e
  refine ⟨vs.length, fun i => @decide (ks[i]? = ks'[i]?) (Classical.propDecidable _), fun i mm τ => (∀ b o, σ3 b = some o → ¬ Z.mv b → τ b = some o) ∧ ItZ τ Z vs ws i .none, fun τ => (∀ b o, σ3 b = some o → ¬ Z.mv b → τ b = some o), ⟨fun b o e _ => e, hz3⟩, ⟨?_, ?_, ?_, ?_, ?_⟩, ?_⟩
  · exact fun i mm τ ⟨h1, _⟩ => ⟨h1 _ _ e3L nL, h1 _ _ e3a na⟩
  · exact fun τ h1 => ⟨h1 _ _ e3L nL, h1 _ _ e3a na⟩
  · exact fun G A'' mm τ hA'' ⟨h1, h2⟩ => zip_self h2 ⟨rfl, h1, h2⟩
  · rintro i hi G A'' mm τ hA'' ⟨h1', h2'⟩
    have nmv : ∀ {σ : Sto} {b : Addr} {o : AO}, ItZ σ Z vs ws i .none → σ b = some o → (o.tag == 5) = false → (o.tag == 7) = false → ¬ Z.mv b := fun hz e n5 n7 z => by
      obtain ⟨p, q, hTO⟩ := hz.TO
      rcases z with z | z | z | z
      · rw [z, hz.z] at e; cases e; cases n5
      · rw [z, hTO] at e; cases e; cases n5
      · rw [z, hz.i1] at e; cases e; cases n7
      · rw [z, hz.i2] at e; cases e; cases n7
    obtain ⟨k, hk⟩ : ∃ k, ks[i]? = some k := ⟨_, List.getElem?_eq_getElem (by omega)⟩
    obtain ⟨k', hk'⟩ : ∃ k', ks'[i]? = some k' := ⟨_, List.getElem?_eq_getElem (by omega)⟩
    obtain ⟨x, fx, hx, tx, -⟩ := i3.get hk
    obtain ⟨y, fy, hy, ty, -⟩ := i3'.get hk'
    have wk : Wid n k := h1 k (List.mem_of_getElem? hk)
    have wk' : Wid n k' := h2 k' (List.mem_of_getElem? hk')
    have mvt : ∀ (τ : Sto), (∀ b o, σ3 b = some o → ¬ Z.mv b → τ b = some o) → ∀ {t : T} {v : Value} {fs : List Addr}, TrAt σ3 t v fs → TrAt τ t v fs := fun τ hτ t v fs ht => ht.frm (fun b o e _ kp => hτ b o e fun z => by
        obtain ⟨p, q, hTO⟩ := hz3.TO
        rcases z with z | z | z | z
        · rw [z, hz3.z] at e; cases e; cases kp
        · rw [z, hTO] at e; cases e; cases kp
        · rw [z, hz3.i1] at e; cases e; cases kp
        · rw [z, hz3.i2] at e; cases e; cases kp) fun b _ l c e => hτ b _ e fun z => by
        obtain ⟨p, q, hTO⟩ := hz3.TO
        rcases z with z | z | z | z
        · rw [z, hz3.z] at e; cases e
        · rw [z, hTO] at e; cases e
        · rw [z, hz3.i1] at e; cases e
        · rw [z, hz3.i2] at e; cases e
    refine zip_item h2' hx hy fun T τ1 k1 frT hT hz1 => ⟨_, rfl, ?_⟩
    refine zip_go hz1 fun τ2 k2 hz2' => ?_
    have nT : ¬ Z.mv T := fun z => by
      obtain ⟨p, q, hTO⟩ := h2'.TO
      rcases z with z | z | z | z
      · rw [z, h2'.z] at frT; cases frT
      · rw [z, hTO] at frT; cases frT
      · rw [z, h2'.i1] at frT; cases frT
      · rw [z, h2'.i2] at frT; cases frT
    refine a_tup (n := _) hA'' (k2 _ _ hT nT) (by rfl) (by rfl) ?_
    have rel2 : ∀ b o, σ3 b = some o → ¬ Z.mv b → τ2 b = some o := fun b o e hb => k2 b o (k1 b o (h1' b o e hb) hb) hb
    show W _ _ _ (assignInOrder [assign _ _, assign _ _] _) _ _ _
    refine a_cons (a_name ?_)
    repeat' tb_rel
    repeat' tb_rel
    refine ih wk wk' hA'' (mvt τ2 rel2 tx) (mvt τ2 rel2 ty) fun τ3 st3 => ⟨?_, fun b o e hb => st3 b o (rel2 b o e hb) (.inr id), hz2'.keep fun b o e _ => st3 b o e (.inr id)⟩
    unfold eqb
    rw [hk, hk']
    simp
  · rintro G A'' mm τ hA'' ⟨h1', h2'⟩
    exact zip_end hA'' h2' (.inl (List.getElem?_eq_none (Nat.le_refl _))) fun τ' k => ⟨rfl, fun b o e hb => k b o (h1' b o e hb) hb⟩
  · rintro ρ ⟨τ, hτ, hρ⟩
    have hτ : ∀ b o, σ3 b = some o → ¬ Z.mv b → τ b = some o := hτ.elim (fun ⟨_, _, h, _⟩ => h) id
    have hS : Stp No σ0 ρ := fun b o e _ => by
      have h2 : σ2 b = some o := (show Stp No σ0 σ2 by top_name) b o e (.inr id)
      refine hρ b o (hτ b o (e3 b o h2) fun z => ?_) fun z => by (first | rw [z, e2L] at h2 | rw [← z, e2L] at h2); cases h2
      have key : ∀ σx : Sto, (∀ b, Z.mv b → σx b = none) → Stp No σ0 σx → False := fun σx f s => by
        have := f b z
        rw [s b o e (.inr id)] at this; cases this
      exact key _ fr2 (by top_name)
    have hv : (List.range vs.length).all (fun i => @decide (ks[i]? = ks'[i]?) (Classical.propDecidable _)) = eqb (.n l ks) (.n l ks') := by
      by_cases hk : ks = ks'
      · subst hk; unfold eqb; simp
      · have : eqb (T.n l ks) (T.n l ks') = false := by unfold eqb; simp [hk]
        rw [this, List.all_eq_false]
        obtain ⟨i, hi⟩ : ∃ i, ks[i]? ≠ ks'[i]? := by
          apply Classical.byContradiction
          intro hn
          exact hk (List.ext_getElem? fun i => Classical.byContradiction fun z => hn ⟨i, z⟩)
        refine ⟨i, List.mem_range.mpr ?_, by simp [hi]⟩
        apply Classical.byContradiction
        intro hge
        exact hi (by rw [List.getElem?_eq_none (by omega), List.getElem?_eq_none (by omega)])
    show Ret _ _ _ _ _ _ _
    exact ⟨No, hS, fun σ₃ st₃ kp => ⟨_, rfl, by have := h σ₃ st₃; rw [← hv] at this; exact this⟩⟩
theorem eq_tre (n : Nat) : EqTre n := by
  induction n with
  | zero => intro Γ l l' ks ks' A L m σ a b fs gs Q h1; cases h1
  | succ n ih => exact eq_step n (same_of n ih)
end

theorem eqb_ne {t u : T} (h : t ≠ u) : eqb t u = false := by unfold eqb; simp [h]
theorem eqb_self {t : T} : eqb t t = true := by unfold eqb; simp
section
theorem cnf_spec {Γ : Cx} {A : Around} {L : Addr} {m : Loc} {σ : Sto} {V : Way} {t : T} {l : Str} {ks : List T} {r : Addr} {fs : List Addr} {hv : Value} {tf tu ts tm : Tok} {Q : Value → Loc → Sto → Prop} (hA : Ok A 70) (hs : Sm 4 (.n l ks)) (ht : TrAt σ (.n l ks) (.ref r) fs) (hnd : fs.Nodup)
    (hh : (hv = .none ∧ V.h = 999) ∨ ∃ th, hv = .int V.h th) (hup : V.up ≤ 3) (hsg : V.sign.length ≤ 1) (hmk : V.mark.length ≤ 1) (h : ∀ σ' fs', Stp (fun b => b ∈ fs) σ σ' → TrAt σ' (cnf V true [l] (.n l ks)) (.ref r) fs' → fs'.Nodup → (∀ x ∈ fs', x ∈ fs ∨ σ x = none) → Q .none m σ') :
    W Γ A L (call (.ref 162) [.ref r, .str (Str.ofString (if V.right then "right" else "left")) tf, hv, .int V.up tu, .str V.sign ts, .str V.mark tm]) Q m σ := by
  refine call_fn (n := 69) (binds := [(Str.ofString "tree", .ref r), (Str.ofString "factor", .str (Str.ofString (if V.right then "right" else "left")) tf), (Str.ofString "horzMarkov", hv), (Str.ofString "vertMarkov", .int V.up tu), (Str.ofString "childChar", .str V.sign ts), (Str.ofString "parentChar", .str V.mark tm)]) hA (fun P => by exact rfl) (fun P => by kernel_rfl) (fun s S => BindsTo.of_defaults rfl (S.K 157 _ rfl) rfl rfl rfl) (locs rfl) (fun L' σ0 st0 hA' => ?_)
  generalize A.deeper _ = A' at hA' ⊢
  refine x_cons (W.mono (Q := fun f m' τ => f = .next ∧ τ = σ0 ∧ PreC m' r V) ?_ ?_)
  · refine x_if ?_
    rcases hh with ⟨rfl, h9⟩ | ⟨th, rfl⟩
    · repeat' tb_rel
      rw [if_pos rfl]
      repeat' tb_rel
      exact ⟨rfl, rfl, rfl, ⟨tf, rfl⟩, ⟨_, by rw [h9]; rfl⟩, ⟨tu, rfl⟩, ⟨ts, rfl⟩, ⟨tm, rfl⟩⟩
    · repeat' tb_rel
      rw [if_neg (by decide)]
      repeat' tb_rel
      exact ⟨rfl, rfl, rfl, ⟨tf, rfl⟩, ⟨th, rfl⟩, ⟨tu, rfl⟩, ⟨ts, rfl⟩, ⟨tm, rfl⟩⟩
  rintro _ m1 τ0 ⟨rfl, rfl, hm1⟩
  show W _ _ _ (execs _ _) _ _ _
  have g1 := hm1.tree
  have ht0 := ht.no st0
  obtain ⟨a, c, vs, f0, eb, eg, u1, u2, u3⟩ := ht0
  cases eb
  repeat' tb_rel
  rename_i tl1 lst1 σ1 st1 fr1 hl1 tp1 σ2 st2 fr2 hp1 nl σ3 st3 fr3 hnl
  generalize hcode : Code.whileLoop _ _ _ _ = code
  have key : ∀ Q n, CNode Γ A' L' code Q nl r V n := by
    intro Q n
    have step : ∀ n, (∀ n', n = n' + 1 → CNode Γ A' L' code Q nl r V n') → CNode Γ A' L' code Q nl r V n := by
      intro n ih t v fs st p q pv par m σ root hsm hm hnl hz hp hq hpar hp8 hp1 ht hnd hroot hw hc
      have m1 := hm.pre.tree
      have m2 := hm.list
      obtain ⟨m3, t3⟩ := hm.pre.factor
      obtain ⟨m4, t4⟩ := hm.pre.horz
      obtain ⟨m5, t5⟩ := hm.pre.vert
      obtain ⟨m6, t6⟩ := hm.pre.child
      obtain ⟨m7, t7⟩ := hm.pre.parent
      rw [← hcode]
      refine c_while ?_
      rw [hcode]
      exact by
       repeat' tb_rel
       rw [if_pos (by simp)]
       exact by
        repeat' tb_rel
        cases hsm with
        | w hs1 =>
          obtain ⟨⟨tw, rfl⟩, rfl⟩ := ht
          exact by
           repeat' tb_rel
           rw [if_neg (by decide)]
           exact by
            repeat' tb_rel
            refine hc _ _ [] ((hm.put (by decide)).put (by decide)) ?_ (by assumption) ⟨⟨tw, rfl⟩, rfl⟩ .nil nofun
            top_name
        | n hl1 hk1 hk4 hks =>
          rename_i n l ks
          have hsm0 : Sm (n + 1) (.n l ks) := .n hl1 hk1 hk4 hks
          have htt := ht
          obtain ⟨a, c, vs, f, rfl, rfl, e1, e2, e3⟩ := ht
          have hlen := e3.length
          have hanl : a ≠ nl := ne_tag e1 hnl
          exact by
           repeat' tb_rel
           rw [if_pos rfl]
           exact by
            repeat' tb_rel
            refine (W.mono (Q := fun fl m' τ => fl = .next ∧ ∃ q' pv', LocN m' nl r V a q' l (if marks V root ks then ang V.mark par else Str.ofString "") ∧ τ q' = some (.lst pv') ∧ StrsAre pv' (if marks V root ks then l :: par.take (V.up - 1) else par) ∧
              Stp (fun b => b = a ∨ b = nl) σ τ ∧ τ a = some (.tre (l ++ (if marks V root ks then ang V.mark par else Str.ofString "")) c) ∧ τ nl = some (.pls st)) ?_ ?_)
            · refine x_if (t_bool ?_)
              rename_i tO tE σX stX
              have hnX : σX nl = some (.pls st) := by tb_start
              have haX : σX a = some (.tre l c) := by tb_start
              have hcX : σX c = some (.lst vs) := by tb_start
              have hqX : σX q = some (.lst pv) := by tb_start
              have hX : Stp (fun x => x = nl) σ σX := by top_name
              refine W.cut (fun b τ => Stp No σX τ ∧ b = marks V root ks) ?_ ?_
              · refine t_and ?_
                exact by
                 repeat' tb_rel
                 split
                 rotate_left
                 · rename_i hu
                   refine ⟨rfl, by top_name, ?_⟩
                   unfold marks
                   have : V.up = 0 := by simpa using hu
                   simp [this]
                 rename_i hu
                 have hu : V.up ≠ 0 := by simpa using hu
                 refine t_and ?_
                 exact by
                  repeat' tb_rel
                  have htX : TrAt σX (.n l ks) (.ref a) (a :: f) := htt.stp hX fun x hx z => by
                    obtain ⟨l, c, e⟩ := htt.there x hx
                    rw [z, hnl] at e; cases e
                  obtain ⟨big, F, hb1, hb2, hb3⟩ := hw σX (.n l ks) (a :: f) (hX.weak fun x hx => .inr hx) htX (hsm0.wid.mono (by omega))
                  cases big with
                  | w s2 => obtain ⟨⟨_, e⟩, _⟩ := hb1; cases e
                  | n l2 ks2 =>
                  refine eq_tre 12 (hsm0.wid.mono (by omega)) hb2 (Ok.mono hA' (by first | decide | omega)) htX hb1 fun σY stY => ?_
                  exact by
                   repeat' tb_rel
                   have hroot9 : eqb (.n l ks) (.n l2 ks2) = root := by
                     rcases hb3 with ⟨r1, r2⟩ | ⟨r1, r2⟩
                     · rw [r1]
                       exact eqb_ne fun z => by rw [z] at r2; omega
                     · rw [r1, r2, eqb_self]
                   rw [hroot9]
                   cases root with
                   | true =>
                     rw [if_neg (by decide)]
                     exact ⟨rfl, by top_name, by unfold marks; simp⟩
                   | false =>
                     rw [if_pos (by decide)]
                     refine t_and ?_
                     obtain ⟨k0, ks', rfl⟩ : ∃ k0 ks', ks = k0 :: ks' := by
                       cases ks with
                       | nil => simp at hk1
                       | cons k0 ks' => exact ⟨_, _, rfl⟩
                     obtain ⟨x0, vs', f0, f0', rfl, rfl, k1, k2⟩ := e3
                     exact by
                      repeat' tb_rel
                      refine item_spec (Ok.mono hA' (by first | decide | omega)) (c := c) (by tb_start) (by tb_start) (by decide) (by decide) rfl fun σZ stZ => ?_
                      cases k0 with
                      | w s0 =>
                        obtain ⟨⟨t0, rfl⟩, -⟩ := k1
                        exact by
                         repeat' tb_rel
                         rw [if_neg (by decide)]
                         exact ⟨rfl, by top_name, by unfold marks fstT; simp⟩
                      | n l0 ks0 =>
                        have k1Z := (k1.stp hX fun x hx z => by
                          obtain ⟨l, c, e⟩ := k1.there x hx
                          rw [z, hnl] at e; cases e).no ((stY).trans stZ)
                        obtain ⟨a0, c0, vs0, g0, rfl, rfl, y1, y2, y3⟩ := k1Z
                        exact by
                         repeat' tb_rel
                         rw [if_pos rfl]
                         refine t_and0 ?_
                         exact ⟨rfl, by top_name, by unfold marks fstT; simp [hu]⟩
              · rintro b τ ⟨stτ, hbm⟩
                cases hmk9 : marks V root ks with
                | false =>
                  rw [hbm, hmk9, if_neg (by decide)]
                  exact by
                   repeat' tb_rel
                   simp only [Bool.false_eq_true, if_false, str_app_empty]
                   exact ⟨trivial, q, pv, ⟨(((hm.put (by decide)).put (by decide)).put (by decide)).put (by decide), by kbo_bools, ⟨_, by kbo_bools⟩, ⟨_, by kbo_bools⟩, by kbo_bools⟩, by tb_start, hpar, (hX.weak fun x hx => .inr hx).trans (stτ.no), by tb_start, by tb_start⟩
                | true =>
                  rw [hbm, hmk9, if_pos rfl]
                  have hjl := join_len (Str.ofString "-") par
                  have hjs := sum_le1 hp1
                  rw [len_mi1] at hjl
                  have hpl := Strs.len hpar
                  exact by
                   repeat' tb_rel
                   refine join_lst (by tb_start) hpar (by rw [len_mi1]; omega) ?_
                   intro tj
                   exact by
                    repeat' tb_rel
                    rename_i cx σC stC frC hcC
                    have hu : V.up ≠ 0 := by unfold marks at hmk9; intro z; rw [z] at hmk9; simp at hmk9
                    have ecut : cut pv none (some ((V.up : Int) - 1)) = pv.take (V.up - 1) := by
                      rw [cut_upto (by omega)]
                      congr 1; omega
                    rw [ecut] at hcC
                    have hpl8 : pv.length ≤ 8 := by omega
                    exact by
                     repeat' tb_rel
                     rename_i ca σD stD frD hcD
                     simp only [if_true]
                     refine ⟨trivial, ca, _, ⟨((((((hm.put (by decide)).put (by decide)).put (by decide)).put (by decide)).put (by decide)).put (by decide)), by kbo_bools, ⟨_, by kbo_bools⟩, ⟨_, by kbo_bools⟩, by kbo_bools⟩, hcD, ?_, ?_, ?_, ?_⟩
                     · exact .cons _ _ (Strs.take hpar _)
                     · have q1 : Stp (fun b => b = a) σX σD := by top_name
                       exact (hX.weak fun x hx => .inr hx).trans (q1.weak fun x hx => .inl hx)
                     · tb_start
                     · have nla : nl ≠ a := Ne.symm hanl
                       tb_start
            · rintro _ m8 τ ⟨rfl, q', pv', hloc, hq', hpar', hst, haτ, hnτ⟩
              show W _ _ _ (execs _ _) _ _ _
              have ecnf : cnf V root par (.n l ks) = bin V.right (l ++ (if marks V root ks = true then ang V.mark par else Str.ofString "")) (fun ns => ang (l ++ V.sign) (shown V ns) ++ (if marks V root ks = true then ang V.mark par else Str.ofString "")) (ks.map nm) (cnfs V (if marks V root ks = true then l :: par.take (V.up - 1) else par) ks) := by unfold cnf; rfl
              have hps5 : (if marks V root ks = true then ang V.mark par else Str.ofString "").length ≤ 24 := by
                have hjl := join_len (Str.ofString "-") par
                have hjs := sum_le1 hp1
                rw [len_mi1] at hjl
                split
                · unfold ang
                  simp only [len_app, len_lt1, len_gt1]; omega
                · exact Nat.zero_le _
              have hp8' : (if marks V root ks = true then l :: par.take (V.up - 1) else par).length ≤ 8 ∧ ∀ x ∈ (if marks V root ks = true then l :: par.take (V.up - 1) else par), x.length ≤ 1 := by
                split
                · refine ⟨by simp; omega, fun x hx => ?_⟩
                  rcases List.mem_cons.mp hx with rfl | hx
                  · exact hl1
                  · exact hp1 x (List.mem_of_mem_take hx)
                · exact ⟨hp8, hp1⟩
              generalize (if marks V root ks = true then ang V.mark par else Str.ofString "") = ps at *
              generalize (if marks V root ks = true then l :: par.take (V.up - 1) else par) = par' at *
              have w1 := hloc.node
              have w2 := hloc.par
              have hcτ : τ c = some (.lst vs) := hst _ _ e2 (.inl rfl)
              refine x_cons ?_
              exact by
               repeat' tb_rel
               refine it_lst hcτ fun I τ1 stI frI it1 => ?_
               refine for_rule hA' (fun ps9 m9 τ9 => ∃ v1 v2 es, vs = v1 ++ v2 ∧ ps9 = v2.map (fun v => (· = v)) ∧ LocN m9 nl r V a q' l ps ∧ τ9 nl = some (.pls (st ++ es)) ∧ EntAll τ9 q' v1 es ∧ Stp (fun b => b = nl) τ τ9 ∧ ∃ o, τ9 I = some o ∧ o.kp = false) ?_ ?_ ?_ _ _ _ ?_ it1
               · rintro p9 r9 m9 τ9 v9 τ10 ⟨v1, v2, es, q1, q2, q3, q4, q5, q6, oI, q7, q8⟩ hv9 st9 it9
                 cases v2 with
                 | nil => cases q2
                 | cons v2 r2 =>
                 obtain ⟨rfl, rfl⟩ := List.cons.inj q2
                 cases hv9
                 have kI : ∀ b o, τ9 b = some o → o.kp = true → τ10 b = some o := fun b o e k => st9 b o e fun z => by (first | rw [z, q7] at e | rw [← z, q7] at e); cases e; rw [k] at q8; cases q8
                 have q4' := kI _ _ q4 rfl
                 have q5' : EntAll τ10 q' v1 es := q5.frz fun b o e _ k => kI b o e k
                 have q6' : Stp (fun b => b = nl) τ τ10 := fun b o e k => st9 b o (q6 b o e k) fun z => by (first | rw [z, frI] at e | rw [← z, frI] at e); cases e
                 have w3 := q3.fix.list
                 have w4 := q3.par
                 have hes : es.length ≤ 4 := by
                   have := q5.length
                   have := congrArg List.length q1
                   simp at this; omega
                 obtain ⟨o9, i1, i2, i3, i4⟩ := it9.at
                 exact by
                  repeat' tb_rel
                  rename_i tp σt stt frt htp σa sta hsa
                  refine ⟨⟨v1 ++ [v9], r2, es ++ [.ref tp], by rw [q1]; simp, rfl, q3.put (by decide) (by decide), by rw [← List.append_assoc]; exact hsa, .snoc (sta _ _ htp (.inl rfl)) ((q5'.frz stt.frz).frz sta.frz), q6'.trans ((stt.no).trans sta), o9, sta _ _ (stt _ _ i1 (.inl i2)) (.inl i2), i3⟩, (it9.stp stt).stp sta⟩
               · rintro m9 τ9 τ10 ⟨v1, v2, es, q1, q2, q3, q4, q5, q6, oI, q7, q8⟩ st9
                 cases v2 with
                 | cons _ _ => cases q2
                 | nil =>
                 rw [List.append_nil] at q1
                 subst q1
                 have kI : ∀ b o, τ9 b = some o → o.kp = true → τ10 b = some o := fun b o e k => st9 b o e fun z => by (first | rw [z, q7] at e | rw [← z, q7] at e); cases e; rw [k] at q8; cases q8
                 have q4 := kI _ _ q4 rfl
                 have q5 : EntAll τ10 q' vs es := q5.frz fun b o e _ k => kI b o e k
                 have q6 : Stp (fun b => b = nl) τ τ10 := fun b o e k => st9 b o (q6 b o e k) fun z => by (first | rw [z, frI] at e | rw [← z, frI] at e); cases e
                 clear kI q7 q8 st9 q2 it1 stI frI
                 have q7 : Stp (fun b => b = a ∨ b = nl) σ τ10 := hst.trans (q6.weak fun x hx => .inr hx)
                 have q8 : τ10 a = some (.tre (l ++ ps) c) := q6 _ _ haτ (.inr hanl)
                 have q9 : τ10 c = some (.lst vs) := q6 _ _ hcτ (.inl rfl)
                 have q10 : τ10 q' = some (.lst pv') := q6 _ _ hq' (.inl rfl)
                 clear hst haτ hcτ hq' q6 hnτ hloc w1 w2
                 have w1 := q3.node
                 have w2 := q3.par
                 have w3 := q3.fix.list
                 obtain ⟨w4, w4'⟩ := q3.orig
                 obtain ⟨w5, w5'⟩ := q3.pstr
                 refine x_nil ?_
                 show W _ _ _ (execs _ _) _ _ _
                 have haf : a ∉ f ∧ f.Nodup := List.nodup_cons.mp hnd
                 have nlf : ∀ x ∈ f, x ≠ nl := fun x hx z => by
                   obtain ⟨l, c, e⟩ := e3.there x hx
                   rw [z, hnl] at e; cases e
                 have fin : ∀ (m5 : Loc) (σ5 : Sto) (news : List Addr), FixC m5 nl r V → σ5 nl = some (.pls (st ++ es)) → Stp (fun b => b = a ∨ b = nl) τ10 σ5 → (∃ l c, σ5 a = some (.tre l c)) → (∀ x ∈ news, σ x = none ∧ ∃ l c, σ5 x = some (.tre l c)) → news.Nodup →
                     (∀ σ' us g, us.length = ks.length → TrAll σ' us vs g → Stp (fun b => b ∈ f ∨ b = nl) σ5 σ' → ∃ fs', TrAt σ' (bin V.right (l ++ ps) (fun ns => ang (l ++ V.sign) (shown V ns) ++ ps) (ks.map nm) us) (.ref a) fs' ∧ fs'.Perm (a :: (news ++ g))) → WC Γ A' L' code Q m5 σ5 := by
                   intro m5 σ5 news z1 z2 z3 z4 z5 z6 z7
                   have z8 : Stp (fun b => b = a ∨ b = nl) σ σ5 := q7.trans z3
                   have z9 : TrAll σ5 ks vs f := e3.stp z8 fun x hx y => y.elim (fun y => haf.1 (y ▸ hx)) (nlf x hx)
                   have tail : ∀ {σ'}, Stp (fun b => b ∈ f ++ [] ∨ b = nl) σ5 σ' → Stp (fun b => b ∈ f ∨ b = nl) σ5 σ' := fun h => h.weak fun x hx => by simpa using hx
                   have all : ∀ {σ'}, Stp (fun b => b ∈ f ∨ b = nl) σ5 σ' → Stp (fun b => b ∈ a :: f ∨ b = nl) σ σ' := fun h => (z8.weak fun x hx => hx.imp (fun y => by simp [y]) id).trans (h.weak fun x hx => hx.imp (fun y => by simp [y]) id)
                   refine kids_of (ih n rfl) ks (D := []) (vD := []) (fD := []) hks nofun z1 z2 (by omega) (q5.frz z3.frz) (z3 _ _ q10 (.inl rfl)) hpar' hp8'.1 hp8'.2 z9 ⟨rfl, rfl⟩ (by simpa using haf.2) (fun σ' us g s1 s2 s3 => ?_) (fun m' σ' g' s1 s2 s3 s4 s5 s6 => ?_)
                   · rw [List.append_nil] at s2
                     have hul : us.length = ks.length := by rw [s2.length, hlen]
                     obtain ⟨fs', y1, y2⟩ := z7 σ' us g hul s2 (tail s1)
                     have hb : Wid (3 * (n + 1)) (bin V.right (l ++ ps) (fun ns => ang (l ++ V.sign) (shown V ns) ++ ps) (ks.map nm) us) := bin_wid (by rw [List.length_map, hul]) (by omega) s3
                     obtain ⟨big, F, b1, b2, b3⟩ := hw σ' _ fs' (all (tail s1)) y1 hb
                     refine ⟨big, F, b1, b2, fun u hu => ?_⟩
                     have := bin_sz (right := V.right) (lab := l ++ ps) (hdr := fun ns => ang (l ++ V.sign) (shown V ns) ++ ps) (ns := ks.map nm) (by rw [List.length_map, hul]) u hu
                     rcases b3 with ⟨_, b3⟩ | ⟨_, b3⟩
                     · omega
                     · rw [b3]; exact this
                   · simp only [List.append_nil] at s4 s6
                     have hul : (cnfs V par' ks).length = ks.length := cnfs_length _ _ _
                     obtain ⟨fs', y1, y2⟩ := z7 σ' _ g' hul s4 s2
                     have ng : ∀ x ∈ g', x ≠ a ∧ x ∉ news := fun x hx => by
                       rcases s6 x hx with w | w
                       · refine ⟨fun y => haf.1 (y ▸ w), fun y => ?_⟩
                         obtain ⟨l, c, e⟩ := e3.there x w
                         rw [(z5 x y).1] at e; cases e
                       · refine ⟨fun y => ?_, fun y => ?_⟩
                         · obtain ⟨l, c, e⟩ := z4; rw [← y, w] at e; cases e
                         · obtain ⟨l, c, e⟩ := (z5 x y).2; rw [w] at e; cases e
                     have na : a ∉ news := fun y => by have := (z5 a y).1; rw [e1] at this; cases this
                     refine hc m' σ' fs' s1 (all s2) s3 (by rw [ecnf]; exact y1) (y2.nodup_iff.mpr ?_) fun x hx => ?_
                     · refine List.nodup_cons.mpr ⟨fun y => ?_, List.nodup_append.mpr ⟨z6, s5, fun u hu v hv huv => (ng v hv).2 (huv ▸ hu)⟩⟩
                       rcases List.mem_append.mp y with y | y
                       · exact na y
                       · exact (ng a y).1 rfl
                     · rcases List.mem_cons.mp (y2.mem_iff.mp hx) with rfl | y
                       · exact .inl (.head _)
                       · rcases List.mem_append.mp y with y | y
                         · exact .inr (z5 x y).1
                         · rcases s6 x y with w | w
                           · exact .inl (.tail _ w)
                           · cases q : σ x with
                             | none => exact .inr rfl
                             | some o =>
                               by_cases hxa : x = a
                               · subst hxa; exact .inl (.head _)
                               · by_cases hxn : x = nl
                                 · subst hxn; rw [z2] at w; cases w
                                 · rw [z8 x o q (.inr fun y => y.elim hxa hxn)] at w; cases w
                 refine x_cons (x_if ?_)
                 exact by
                  repeat' tb_rel
                  split
                  rotate_left
                  · rename_i hle
                    have hle : ks.length ≤ 2 := by simp at hle; omega
                    exact by
                     repeat' tb_rel
                     refine fin _ _ [] q3.fix (by tb_start) (by top_name) ⟨_, _, by tb_start⟩ nofun .nil fun σ' us g y1 y2 y3 => ⟨a :: g, ?_, .refl _⟩
                     rw [bin_small (by rw [y1]; exact hle)]
                     exact ⟨a, c, vs, g, rfl, rfl, y3 _ _ (by tb_start) (.inr fun y => y.elim haf.1 hanl), y3 _ _ (by tb_start) (.inl rfl), y2⟩
                  · rename_i hgt
                    have hgt : 3 ≤ ks.length := by simp at hgt; omega
                    have hnm : ∀ x ∈ ks.map nm, x.length ≤ 1 := fun x hx => by
                      obtain ⟨k, hk, rfl⟩ := List.mem_map.mp hx
                      have := hks k hk
                      cases this <;> assumption
                    have z9 : TrAll τ10 ks vs f := e3.stp q7 fun x hx y => y.elim (fun y => haf.1 (y ▸ hx)) (nlf x hx)
                    refine x_cons (x_asgC hA' (by with_unfolding_all rfl) (by rfl) (by rfl) (by rfl) (by decide) (by decide) (by rfl) (by rfl) (by rfl) ?_)
                    exact by
                     repeat' tb_rel
                     refine it_lst (by tb_start) fun I τ11 stI frI it1 => ?_
                     refine ⟨I, _, rfl, by rw [List.length_map]; omega, frI, stI, it1, ⟨⟨No, fun ps ys τ => ∃ k1 k2 v2 g, ks = k1 ++ k2 ∧ ps = v2.map (fun v => (· = v)) ∧ TrAll τ k2 v2 g ∧ StrsAre ys (k1.map nm), ?_, ?_, ?_⟩⟩⟩
                     · exact ⟨[], ks, vs, f, rfl, rfl, (z9.no (by top_name)), .nil⟩
                     · rintro p9 r9 ys C mm v σ8 σ9 ⟨k1, k2, v2, g, y1, y2, y3, y4⟩ hpv kp st9 hmm
                       cases v2 with
                       | nil => cases y2
                       | cons v2 r2 =>
                       obtain ⟨rfl, rfl⟩ := List.cons.inj y2
                       cases hpv
                       cases k2 with
                       | nil => cases y3.1
                       | cons k k2 =>
                       obtain ⟨_, _, g1, g2, ee, _, d1, d2⟩ := y3
                       cases ee
                       have d1 := d1.keep kp
                       have d2 := d2.keep kp
                       refine e_if ?_
                       rcases d1.word with ⟨s9, t9, rfl, rfl⟩ | ⟨l9, ks9, a9, rfl, rfl⟩
                       · repeat' tb_rel
                         rw [if_neg (by decide)]
                         exact by
                          repeat' tb_rel
                          exact ⟨by top_name, k1 ++ [.w s9], k2, r2, g2, by rw [y1]; simp, rfl, d2.no (by top_name), by rw [List.map_append]; exact Strs.app y4 (.cons _ _ .nil)⟩
                       · obtain ⟨_, c9, vs9, h9, ee, _, d3, d4, d5⟩ := d1
                         cases ee
                         exact by
                          repeat' tb_rel
                          rw [if_pos rfl]
                          exact by
                           repeat' tb_rel
                           exact ⟨by top_name, k1 ++ [.n l9 ks9], k2, r2, g2, by rw [y1]; simp, rfl, d2.no (by top_name), by rw [List.map_append]; exact Strs.app y4 (.cons _ _ .nil)⟩
                     · rintro ys σ8 cn τ12 ⟨k1, k2, v2, g, y1, y2, y3, y4⟩ st12 kp12 hcn
                       cases v2 with
                       | cons _ _ => cases y2
                       | nil =>
                       cases k2 with
                       | cons _ _ => obtain ⟨_, _, _, _, ee, _⟩ := y3; cases ee
                       | nil =>
                       rw [List.append_nil] at y1
                       subst y1
                       clear y2 y3 kp12 it1 stI frI
                       have st12 : Stp No τ10 τ12 := by top_name
                       have yl := Strs.len y4
                       rw [List.length_map] at yl
                       show W _ _ _ (execs _ _) _ _ _
                       exact by
                        repeat' tb_rel
                        refine copyP (by tb_start) (by rw [sl24]; omega) fun nc τ13 st13 fr13 hnc => ?_
                        have haτ : τ13 a = some (.tre (l ++ ps) c) := by tb_start
                        have hnca : nc ≠ a := ne_tag hnc haτ
                        have hnlτ : τ12 nl = some (.pls (st ++ es)) := by tb_start
                        have hncn : nc ≠ nl := fun z => by (first | rw [z, hnlτ] at fr13 | rw [← z, hnlτ] at fr13); cases fr13
                        have hnla : nl ≠ a := Ne.symm hanl
                        have frn : σ nc = none := by
                          cases q : σ nc with
                          | none => rfl
                          | some o => rw [(show Stp No τ10 τ12 from st12) _ _ (q7 _ _ q (.inr fun y => y.elim hnca hncn)) (.inr id)] at fr13; cases fr13
                        exact by
                         repeat' tb_rel
                         refine range_two fun rg τ14 ta tb tc st14 fr14 hrg => ?_
                         refine it_rng (j := ks.length - 2) hrg (by omega) (by omega) (by omega) fun I2 τ15 stb15 fr15 it2 => ?_
                         generalize hfl : Code.forLoop _ _ _ _ _ = fl
                         have iterR : V.right = true → ∀ {POST : Flow → Loc → Sto → Prop} {i : Nat} {r9 : Items} {mm : Loc} {τ : Sto} {cu : Addr} {lc : Str} {cc : Addr} {v : Value} {rest : List Value}, LocN mm nl r V a q' l ps → mm (Str.ofString "curNode") = some (.ref cu) → mm (Str.ofString "nodeCopy") = some (.ref nc) → mm (Str.ofString "childNodes") = some (.ref cn) →
                             (∃ t, mm (Str.ofString "numChildren") = some (.int vs.length t)) → 1 ≤ i → i ≤ ks.length → τ cu = some (.tre lc cc) → τ nc = some (.pls (v :: rest)) → rest.length ≤ 4 → τ cn = some (.lst ys) → ItR τ I2 ((fun v => ∃ t, v = .int (i : Int) t) :: r9) →
                             (∀ mm' τ' N cA cN, LocN mm' nl r V a q' l ps → mm' (Str.ofString "curNode") = some (.ref N) → mm' (Str.ofString "nodeCopy") = some (.ref nc) → mm' (Str.ofString "childNodes") = some (.ref cn) → (∃ t, mm' (Str.ofString "numChildren") = some (.int vs.length t)) →
                               (∀ b o, τ b = some o → b ≠ cu → b ≠ nc → b ≠ I2 → τ' b = some o) → τ N = none → τ' cu = some (.tre lc cA) → τ' cA = some (.lst [v, .ref N]) → τ' N = some (.tre (ang (l ++ V.sign) (shown V ((ks.map nm).drop i)) ++ ps) cN) → τ' cN = some (.lst []) → τ' nc = some (.pls rest) → ItR τ' I2 r9 → WC Γ A' L' fl POST mm' τ') → WC Γ A' L' fl POST mm τ := by
                           -- <<A
                           rintro hR POST i r9 mm τ cu lc cc v rest k1 k2 k3 k4 ⟨k5, k5'⟩ k6 k7 k8 k9 k10 k11 hit hk
                           obtain ⟨oI, i1, i2, i3, i4⟩ := hit.at
                           have nI : ∀ {b o}, τ b = some o → o.kp = true → b ≠ I2 := fun e k z => by (first | rw [z, i1] at e | rw [← z, i1] at e); cases e; rw [k] at i3; cases i3
                           rw [← hfl]
                           refine c_for (next_some hit fun iv τa hiv sta ita => ?_) (fun v => by rfl)
                           rw [hfl]
                           obtain ⟨ti, rfl⟩ := hiv
                           show W _ _ _ (assign _ _ _) _ _ _
                           have j1 := sta _ _ k8 (nI k8 rfl)
                           have j2 := sta _ _ k9 (nI k9 rfl)
                           have j3 := sta _ _ k11 (nI k11 rfl)
                           have j4 : cu ≠ nc := ne_tag k8 k9
                           have j4' : nc ≠ cu := Ne.symm j4
                           obtain ⟨x1, x1'⟩ := k1.fix.pre.factor
                           obtain ⟨x2, x2'⟩ := k1.fix.pre.horz
                           obtain ⟨x3, x3'⟩ := k1.fix.pre.child
                           obtain ⟨x4, x4'⟩ := k1.orig
                           obtain ⟨x5, x5'⟩ := k1.pstr
                           rw [hR] at x1'
                           simp only [if_true] at x1'
                           exact by
                            repeat' tb_rel
                            rw [if_pos (by decide)]
                            exact by
                             repeat' tb_rel
                             have hj := sl_right y4 (i := (i : Int)) (k := V.h) (n := vs.length) (by omega) (by rw [List.length_map]; omega) (by rw [List.length_map]; omega) rfl
                             rw [Int.toNat_natCast] at hj
                             have ezs : shown V ((ks.map nm).drop i) = ((ks.map nm).drop i).take V.h := by unfold shown; rw [if_pos hR]
                             have hz1 := len_mem1 hnm (zs := ((ks.map nm).drop i).take V.h) fun z hz => List.mem_of_mem_drop (List.mem_of_mem_take hz)
                             have hz2 : (((ks.map nm).drop i).take V.h).length ≤ 4 := by simp; omega
                             generalize ((ks.map nm).drop i).take V.h = zs at *
                             have hjl := join_len (Str.ofString "-") zs
                             rw [len_mi1] at hjl
                             refine join_lst (by assumption) hj (by rw [len_mi1]; omega) fun tj => ?_
                             exact by
                              repeat' tb_rel
                              rename_i N cN σn stn frN frcN hN hcN _ σp stp hp2 cA σq stq frA hcA σr str hcu2
                              have nN1 : N ≠ nc := ne_tag hN (show σn nc = some (.pls (v :: rest)) by tb_start)
                              have key : ∀ σx : Sto, σx N = none → σx cu = some (.tre lc cc) → N ≠ cu := fun σx h1 h2 z => by (first | rw [z, h1] at h2 | rw [← z, h1] at h2); cases h2
                              have nN2 : N ≠ cu := key _ frN (by tb_start)
                              have key2 : ∀ σx : Sto, σx N = none → Stp No τa σx → τ N = none := fun σx h1 h2 => by
                                cases q : τ N with
                                | none => rfl
                                | some o =>
                                  by_cases hn : N = I2
                                  · obtain ⟨oI', y1, y2, _⟩ := ita.at
                                    rw [hn] at h1
                                    rw [h2 _ _ y1 (.inr id)] at h1; cases h1
                                  · rw [h2 _ _ (sta _ _ q hn) (.inr id)] at h1; cases h1
                              have z1 := key2 _ frN (by top_name)
                              have z2 : σr cA = some (.lst [v, .ref N]) := by tb_start
                              have z3 : σr N = some (.tre (ang (l ++ V.sign) zs ++ ps) cN) := by tb_start
                              have z4 : σr cN = some (.lst []) := by tb_start
                              have z5 : σr nc = some (.pls rest) := by tb_start
                              have rel : Stp (fun b => b = cu ∨ b = nc) τa σr := by top_name
                              rw [ezs] at hk
                              show WC Γ A' L' fl POST _ _
                              exact hk _ _ N cA cN ((((k1.put (by decide) (by decide)).put (by decide) (by decide)).put (by decide) (by decide)).put (by decide) (by decide)) (by kbo_bools) (by kbo_bools) (by kbo_bools) ⟨k5, by kbo_bools⟩
                                (fun b o e n1 n2 n3 => rel b o (sta b o e n3) (.inr fun z => z.elim n1 n2)) z1 hcu2 z2 z3 z4 z5 (ita.stp rel)
                              -- A>>
                         have iterL : V.right = false → ∀ {POST : Flow → Loc → Sto → Prop} {i : Nat} {r9 : Items} {mm : Loc} {τ : Sto} {cu : Addr} {lc : Str} {cc : Addr} {v : Value} {rest : List Value}, LocN mm nl r V a q' l ps → mm (Str.ofString "curNode") = some (.ref cu) → mm (Str.ofString "nodeCopy") = some (.ref nc) → mm (Str.ofString "childNodes") = some (.ref cn) →
                             (∃ t, mm (Str.ofString "numChildren") = some (.int vs.length t)) → 1 ≤ i → i < ks.length → τ cu = some (.tre lc cc) → τ nc = some (.pls (rest ++ [v])) → rest.length ≤ 4 → τ cn = some (.lst ys) → ItR τ I2 ((fun v => ∃ t, v = .int (i : Int) t) :: r9) →
                             (∀ mm' τ' N cA cN, LocN mm' nl r V a q' l ps → mm' (Str.ofString "curNode") = some (.ref N) → mm' (Str.ofString "nodeCopy") = some (.ref nc) → mm' (Str.ofString "childNodes") = some (.ref cn) → (∃ t, mm' (Str.ofString "numChildren") = some (.int vs.length t)) →
                               (∀ b o, τ b = some o → b ≠ cu → b ≠ nc → b ≠ I2 → τ' b = some o) → τ N = none → τ' cu = some (.tre lc cA) → τ' cA = some (.lst [.ref N, v]) → τ' N = some (.tre (ang (l ++ V.sign) (shown V ((ks.map nm).take (ks.length - i))) ++ ps) cN) → τ' cN = some (.lst []) → τ' nc = some (.pls rest) → ItR τ' I2 r9 → WC Γ A' L' fl POST mm' τ') → WC Γ A' L' fl POST mm τ := by
                           -- <<B
                           rintro hR POST i r9 mm τ cu lc cc v rest k1 k2 k3 k4 ⟨k5, k5'⟩ k6 k7 k8 k9 k10 k11 hit hk
                           obtain ⟨oI, i1, i2, i3, i4⟩ := hit.at
                           have nI : ∀ {b o}, τ b = some o → o.kp = true → b ≠ I2 := fun e k z => by (first | rw [z, i1] at e | rw [← z, i1] at e); cases e; rw [k] at i3; cases i3
                           rw [← hfl]
                           refine c_for (next_some hit fun iv τa hiv sta ita => ?_) (fun v => by rfl)
                           rw [hfl]
                           obtain ⟨ti, rfl⟩ := hiv
                           show W _ _ _ (assign _ _ _) _ _ _
                           have j1 := sta _ _ k8 (nI k8 rfl)
                           have j2 := sta _ _ k9 (nI k9 rfl)
                           have j3 := sta _ _ k11 (nI k11 rfl)
                           have j4 : cu ≠ nc := ne_tag k8 k9
                           have j4' : nc ≠ cu := Ne.symm j4
                           obtain ⟨x1, x1'⟩ := k1.fix.pre.factor
                           obtain ⟨x2, x2'⟩ := k1.fix.pre.horz
                           obtain ⟨x3, x3'⟩ := k1.fix.pre.child
                           obtain ⟨x4, x4'⟩ := k1.orig
                           obtain ⟨x5, x5'⟩ := k1.pstr
                           rw [hR] at x1'
                           simp only [Bool.false_eq_true, if_false] at x1'
                           exact by
                            repeat' tb_rel
                            rw [if_neg (by decide)]
                            exact by
                             repeat' tb_rel
                             have hj := sl_left y4 (i := (i : Int)) (k := V.h) (n := vs.length) (by omega) (by rw [List.length_map]; omega) (by rw [List.length_map]; omega) rfl
                             rw [Int.toNat_natCast, List.length_map] at hj
                             have ezs : shown V ((ks.map nm).take (ks.length - i)) = ((ks.map nm).take (ks.length - i)).drop (ks.length - i - V.h) := by
                               unfold shown
                               rw [if_neg (by rw [hR]; decide), List.length_take, List.length_map, Nat.min_eq_left (by omega)]
                             have hz1 := len_mem1 hnm (zs := ((ks.map nm).take (ks.length - i)).drop (ks.length - i - V.h)) fun z hz => List.mem_of_mem_take (List.mem_of_mem_drop hz)
                             have hz2 : (((ks.map nm).take (ks.length - i)).drop (ks.length - i - V.h)).length ≤ 4 := by simp; omega
                             generalize ((ks.map nm).take (ks.length - i)).drop (ks.length - i - V.h) = zs at *
                             have hjl := join_len (Str.ofString "-") zs
                             rw [len_mi1] at hjl
                             refine join_lst (by assumption) hj (by rw [len_mi1]; omega) fun tj => ?_
                             exact by
                              repeat' tb_rel
                              rename_i N cN σn stn frN frcN hN hcN σp stp hp2 cA σq stq frA hcA σr str hcu2
                              have nN1 : N ≠ nc := ne_tag hN (show σn nc = some (.pls (rest ++ [v])) by tb_start)
                              have key : ∀ σx : Sto, σx N = none → σx cu = some (.tre lc cc) → N ≠ cu := fun σx h1 h2 z => by (first | rw [z, h1] at h2 | rw [← z, h1] at h2); cases h2
                              have nN2 : N ≠ cu := key _ frN (by tb_start)
                              have key2 : ∀ σx : Sto, σx N = none → Stp No τa σx → τ N = none := fun σx h1 h2 => by
                                cases q : τ N with
                                | none => rfl
                                | some o =>
                                  by_cases hn : N = I2
                                  · obtain ⟨oI', y1, y2, _⟩ := ita.at
                                    rw [hn] at h1
                                    rw [h2 _ _ y1 (.inr id)] at h1; cases h1
                                  · rw [h2 _ _ (sta _ _ q hn) (.inr id)] at h1; cases h1
                              have z1 := key2 _ frN (by top_name)
                              have z2 : σr cA = some (.lst [.ref N, v]) := by tb_start
                              have z3 : σr N = some (.tre (ang (l ++ V.sign) zs ++ ps) cN) := by tb_start
                              have z4 : σr cN = some (.lst []) := by tb_start
                              have z5 : σr nc = some (.pls rest) := by tb_start
                              have rel : Stp (fun b => b = cu ∨ b = nc) τa σr := by top_name
                              rw [ezs] at hk
                              show WC Γ A' L' fl POST _ _
                              exact hk _ _ N cA cN ((((k1.put (by decide) (by decide)).put (by decide) (by decide)).put (by decide) (by decide)).put (by decide) (by decide)) (by kbo_bools) (by kbo_bools) (by kbo_bools) ⟨k5, by kbo_bools⟩
                                (fun b o e n1 n2 n3 => rel b o (sta b o e n3) (.inr fun z => z.elim n1 n2)) z1 hcu2 z2 z3 z4 z5 (ita.stp rel)
                              -- B>>
                         have endL : ∀ {POST : Flow → Loc → Sto → Prop} {mm : Loc} {τ : Sto}, ItR τ I2 [] → (∀ τe, Stp1 I2 τ τe → POST .next mm τe) → WC Γ A' L' fl POST mm τ := fun {POST mm τ} hit hk => by
                           rw [← hfl]
                           refine c_for (next_none hA' hit fun τe ste => ?_) (fun v => by rfl)
                           exact x_nil (hk τe ste)
                         refine WC.mono (Q := fun fl9 m' τ' => fl9 = .next ∧ ∃ cu lc cc W0, LocN m' nl r V a q' l ps ∧ m' (Str.ofString "curNode") = some (.ref cu) ∧ m' (Str.ofString "nodeCopy") = some (.ref nc) ∧ τ' cu = some (.tre lc cc) ∧ τ' nc = some (.pls W0) ∧ W0.length ≤ 4 ∧
                           (∀ m5 σ5 cF, FixC m5 nl r V → (∀ b o, τ' b = some o → b ≠ cu → b ≠ nc → σ5 b = some o) → σ5 cu = some (.tre lc cF) → σ5 cF = some (.lst W0) → WC Γ A' L' code Q m5 σ5)) ?_ ?_
                         rotate_left
                         · rintro fl9 m' τ' ⟨rfl, cu, lc, cc, W0, l1, l2, l3, l4, l5, l6, l7⟩
                           -- <<C
                           show W _ _ _ (execs _ _) _ _ _
                           have hcu : cu ≠ nc := ne_tag l4 l5
                           have hcu' : nc ≠ cu := Ne.symm hcu
                           refine x_cons (x_asgA ?_)
                           refine frz_pls l5 fun τa sta l5' => ?_
                           refine e_comp hA' (by rfl) (by rfl) (by rfl) (by decide) (by decide) ?_
                           exact by
                            repeat' tb_rel
                            refine it_lst l5' fun I3 τb stb frb it4 => ?_
                            refine ⟨I3, _, rfl, by rw [List.length_map]; omega, frb, stb, it4, ⟨⟨No, fun ps ys τ => ∃ v2, ps = v2.map (fun v => (· = v)) ∧ ys ++ v2 = W0, ⟨W0, rfl, rfl⟩, ?_, ?_⟩⟩⟩
                            · rintro p9 r9 ys C mm v σ8 σ9 ⟨v2, y1, y2⟩ hpv kp st9 hmm
                              cases v2 with
                              | nil => cases y1
                              | cons v2 r2 =>
                              obtain ⟨rfl, rfl⟩ := List.cons.inj y1
                              cases hpv
                              exact by
                               repeat' tb_rel
                               exact ⟨.refl, r2, rfl, by rw [← y2]; simp⟩
                            · rintro ys σ8 cF τc ⟨v2, y1, y2⟩ stc kpc hcF
                              cases v2 with
                              | cons _ _ => cases y1
                              | nil =>
                              rw [List.append_nil] at y2
                              subst y2
                              exact by
                               repeat' tb_rel
                               rename_i σz stz hz9
                               have rel : Stp (fun b => b = cu ∨ b = nc) τ' σz := by top_name
                               exact l7 _ _ cF l1.fix (fun b o e n1 n2 => rel b o e (.inr fun z => z.elim n1 n2)) hz9 (stz _ _ hcF (.inl rfl))
                            -- C>>
                         · have haT : ∃ c0, τ15 a = some (.tre (l ++ ps) c0) := ⟨_, by tb_start⟩
                           obtain ⟨c0, haT⟩ := haT
                           have hncT : τ15 nc = some (.pls vs) := by tb_start
                           have hcnT : τ15 cn = some (.lst ys) := by tb_start
                           have hnlT : τ15 nl = some (.pls (st ++ es)) := by tb_start
                           obtain ⟨c1, ha14⟩ : ∃ c1, τ14 a = some (.tre (l ++ ps) c1) := ⟨_, by tb_start⟩
                           have hnc14 : τ14 nc = some (.pls vs) := by tb_start
                           have hnl14 : τ14 nl = some (.pls (st ++ es)) := by tb_start
                           have aI : a ≠ I2 := ne_of_none fr15 ha14
                           have ncI : nc ≠ I2 := ne_of_none fr15 hnc14
                           have nlI : nl ≠ I2 := ne_of_none fr15 hnl14
                           have ch14 : Stp (fun b => b = a) τ10 τ14 := by top_name
                           have ch0 : Stp (fun b => b = a) τ10 τ15 := ch14.trans stb15.no
                           have fr10 : ∀ x, τ15 x = none → τ10 x = none := fun x hx => by
                             cases q : τ10 x with
                             | none => rfl
                             | some o =>
                               by_cases hxa : x = a
                               · subst hxa; rw [hx] at haT; cases haT
                               · rw [ch0 x o q (.inr hxa)] at hx; cases hx
                           have frS : ∀ x, τ15 x = none → σ x = none := fun x hx => by
                             cases q : σ x with
                             | none => rfl
                             | some o =>
                               have h10 := fr10 x hx
                               by_cases hxa : x = a
                               · subst hxa; rw [hx] at haT; cases haT
                               · by_cases hxn : x = nl
                                 · subst hxn; rw [hx] at hnlT; cases hnlT
                                 · rw [q7 x o q (.inr fun y => y.elim hxa hxn)] at h10; cases h10
                           have nc10 : τ10 nc = none := by
                             cases q : τ10 nc with
                             | none => rfl
                             | some o => rw [st12 _ _ q (.inr id)] at fr13; cases fr13
                           have I10 : τ10 I2 = none := by
                             cases q : τ10 I2 with
                             | none => rfl
                             | some o =>
                               by_cases hx : I2 = a
                               · exact absurd hx.symm aI
                               · rw [ch14 _ _ q (.inr hx)] at fr15; cases fr15
                           have ch : ∀ {τ' τe σ5 : Sto} {cu : Addr}, (∀ b o, τ15 b = some o → b ≠ a → b ≠ nc → b ≠ I2 → τ' b = some o) → Stp1 I2 τ' τe → (∀ b o, τe b = some o → b ≠ cu → b ≠ nc → σ5 b = some o) → τ15 cu = none → ∀ b o, τ15 b = some o → b ≠ a → b ≠ nc → b ≠ I2 → σ5 b = some o :=
                             fun r1 s r2 hc b o e n1 n2 n3 => r2 b o (s b o (r1 b o e n1 n2 n3) n3) (fun z => by (first | rw [z, hc] at e | rw [← z, hc] at e); cases e) n2
                           have chS : ∀ {σ5 : Sto}, (∀ b o, τ15 b = some o → b ≠ a → b ≠ nc → b ≠ I2 → σ5 b = some o) → Stp (fun b => b = a ∨ b = nl) τ10 σ5 := fun r b o e k => by
                             by_cases hb : b = a
                             · subst hb
                               rw [q8] at e; cases e
                               rcases k with k | k
                               · cases k
                               · exact absurd (.inl rfl) k
                             · exact r b o (ch0 b o e (.inr hb)) hb (ne_of_none nc10 e) (ne_of_none I10 e)
                           have hk34 : ks.length = 3 ∨ ks.length = 4 := by omega
                           rcases hk34 with hk3 | hk3
                           · obtain ⟨ka, kb, kc, va, vb, vc, fa, fb, fc, hk9, hv9, hf9⟩ : ∃ ka kb kc va vb vc fa fb fc, ks = [ka, kb, kc] ∧ vs = [va, vb, vc] ∧ f = fa ++ (fb ++ (fc ++ [])) := by
                               clear iterR iterL endL fin ch chS
                               obtain ⟨ka, kb, kc, h0⟩ := len3 hk3
                               rw [h0] at e3
                               obtain ⟨va, _, fa, _, h1, h2, _, vb, _, fb, _, h3, h4, _, vc, _, fc, _, h5, h6, _, h7, h8⟩ := e3
                               exact ⟨ka, kb, kc, va, vb, vc, fa, fb, fc, h0, by rw [h1, h3, h5, h7], by rw [h2, h4, h6, h8]⟩
                             clear hc hw ih
                             subst hk9 hv9 hf9
                             cases hR : V.right with
                             | true =>
                               -- <<D
                               refine iterR hR (i := 1) (r9 := []) (rest := [vb, vc]) ((((q3.put (by decide) (by decide)).put (by decide) (by decide)).put (by decide) (by decide)).put (by decide) (by decide)) (by kbo_bools) (by kbo_bools) (by kbo_bools) ⟨_, by kbo_bools⟩ (by omega) (by simp) haT hncT (by simp) hcnT it2 ?_
                               intro m6 τ6 N cA cN x1 x2 x3 x4 x5 x6 x7 x8 x9 x10 x11 x12 x13
                               have nI6 : ∀ {b o}, τ6 b = some o → o.kp = true → b ≠ I2 := fun e k z => by
                                 obtain ⟨o, e2, _, e3, _⟩ := x13.at
                                 (first | rw [z, e] at e2 | rw [← z, e] at e2); cases e2; rw [k] at e3; cases e3
                               have Nf : N ∉ fa ++ (fb ++ (fc ++ [])) := fun h => by
                                 obtain ⟨_, _, e⟩ := z9.there N h
                                 rw [fr10 N x7] at e; cases e
                               have Nnl : N ≠ nl := fun z => by rw [z, hnlT] at x7; cases x7
                               have Na : a ≠ N := fun z => by rw [← z, haT] at x7; cases x7
                               refine endL x13 fun τe ste => ⟨rfl, N, _, cN, [vb, vc], x1, x2, x3, ste _ _ x10 (nI6 x10 rfl), ste _ _ x12 ncI, by simp, fun m5 σ5 cF y1 y2 y3 y4 => ?_⟩
                               · have cc := ch x6 ste y2 x7
                                 refine fin m5 σ5 [N] y1 (cc _ _ hnlT hnla (Ne.symm hncn) nlI) (chS cc) ⟨_, _, y2 _ _ (ste _ _ x8 aI) (fun z => by (first | rw [z, x7] at haT | rw [← z, x7] at haT); cases haT) (Ne.symm hnca)⟩ (fun x hx => by
                                   cases List.mem_singleton.mp hx; exact ⟨frS _ x7, _, _, y3⟩) (by simp) fun σ' us g y5 y6 y7 => ?_
                                 obtain ⟨ua, ub, uc, rfl⟩ := len3 y5
                                 obtain ⟨_, _, ga, _, ee, rfl, wa, _, _, gb, _, ee2, rfl, wb, _, _, gc, _, ee3, rfl, wc, ee4, rfl⟩ := y6
                                 cases ee; cases ee2; cases ee3
                                 have ea := ste _ _ x8 aI
                                 have eA := ste _ _ x9 (nI6 x9 rfl)
                                 have eN := ste _ _ x10 (nI6 x10 rfl)
                                 have enc := ste _ _ x12 ncI
                                 have k_a := y7 _ _ (y2 _ _ ea Na (Ne.symm hnca)) (.inr fun z => z.elim haf.1 hanl)
                                 have k_A := y7 _ _ (y2 _ _ eA (ne_tag eA eN) (ne_tag eA enc)) (.inl rfl)
                                 have k_N := y7 _ _ y3 (.inr fun z => z.elim Nf Nnl)
                                 have k_F := y7 _ _ y4 (.inl rfl)
                                 refine ⟨a :: (ga ++ ((N :: (gb ++ (gc ++ []))) ++ [])), ?_, ?_⟩
                                 · rw [hR]
                                   exact ⟨a, cA, [va, .ref N], _, rfl, rfl, k_a, k_A, va, _, ga, _, rfl, rfl, wa, .ref N, [], N :: (gb ++ (gc ++ [])), [], rfl, rfl, ⟨N, cF, [vb, vc], _, rfl, rfl, k_N, k_F, vb, _, gb, _, rfl, rfl, wb, vc, _, gc, _, rfl, rfl, wc, rfl, rfl⟩, rfl, rfl⟩
                                 · refine List.perm_iff_count.mpr fun x => ?_
                                   simp only [List.count_append, List.count_cons, List.count_nil]
                                   omega
                               -- D>>
                             | false =>
                               -- <<E
                               refine iterL hR (i := 1) (r9 := []) (v := vc) (rest := [va, vb]) ((((q3.put (by decide) (by decide)).put (by decide) (by decide)).put (by decide) (by decide)).put (by decide) (by decide)) (by kbo_bools) (by kbo_bools) (by kbo_bools) ⟨_, by kbo_bools⟩ (by omega) (by simp) haT hncT (by simp) hcnT it2 ?_
                               intro m6 τ6 N cA cN x1 x2 x3 x4 x5 x6 x7 x8 x9 x10 x11 x12 x13
                               have nI6 : ∀ {b o}, τ6 b = some o → o.kp = true → b ≠ I2 := fun e k z => by
                                 obtain ⟨o, e2, _, e3, _⟩ := x13.at
                                 (first | rw [z, e] at e2 | rw [← z, e] at e2); cases e2; rw [k] at e3; cases e3
                               have Nf : N ∉ fa ++ (fb ++ (fc ++ [])) := fun h => by
                                 obtain ⟨_, _, e⟩ := z9.there N h
                                 rw [fr10 N x7] at e; cases e
                               have Nnl : N ≠ nl := fun z => by rw [z, hnlT] at x7; cases x7
                               have Na : a ≠ N := fun z => by rw [← z, haT] at x7; cases x7
                               refine endL x13 fun τe ste => ⟨rfl, N, _, cN, [va, vb], x1, x2, x3, ste _ _ x10 (nI6 x10 rfl), ste _ _ x12 ncI, by simp, fun m5 σ5 cF y1 y2 y3 y4 => ?_⟩
                               · have cc := ch x6 ste y2 x7
                                 refine fin m5 σ5 [N] y1 (cc _ _ hnlT hnla (Ne.symm hncn) nlI) (chS cc) ⟨_, _, y2 _ _ (ste _ _ x8 aI) (fun z => by (first | rw [z, x7] at haT | rw [← z, x7] at haT); cases haT) (Ne.symm hnca)⟩ (fun x hx => by
                                   cases List.mem_singleton.mp hx; exact ⟨frS _ x7, _, _, y3⟩) (by simp) fun σ' us g y5 y6 y7 => ?_
                                 obtain ⟨ua, ub, uc, rfl⟩ := len3 y5
                                 obtain ⟨_, _, ga, _, ee, rfl, wa, _, _, gb, _, ee2, rfl, wb, _, _, gc, _, ee3, rfl, wc, ee4, rfl⟩ := y6
                                 cases ee; cases ee2; cases ee3
                                 have ea := ste _ _ x8 aI
                                 have eA := ste _ _ x9 (nI6 x9 rfl)
                                 have eN := ste _ _ x10 (nI6 x10 rfl)
                                 have enc := ste _ _ x12 ncI
                                 have k_a := y7 _ _ (y2 _ _ ea Na (Ne.symm hnca)) (.inr fun z => z.elim haf.1 hanl)
                                 have k_A := y7 _ _ (y2 _ _ eA (ne_tag eA eN) (ne_tag eA enc)) (.inl rfl)
                                 have k_N := y7 _ _ y3 (.inr fun z => z.elim Nf Nnl)
                                 have k_F := y7 _ _ y4 (.inl rfl)
                                 refine ⟨a :: ((N :: (ga ++ (gb ++ []))) ++ (gc ++ [])), ?_, ?_⟩
                                 · rw [hR]
                                   exact ⟨a, cA, [.ref N, vc], _, rfl, rfl, k_a, k_A, .ref N, [vc], N :: (ga ++ (gb ++ [])), gc ++ [], rfl, rfl, ⟨N, cF, [va, vb], _, rfl, rfl, k_N, k_F, va, _, ga, _, rfl, rfl, wa, vb, _, gb, _, rfl, rfl, wb, rfl, rfl⟩, vc, _, gc, _, rfl, rfl, wc, rfl, rfl⟩
                                 · refine List.perm_iff_count.mpr fun x => ?_
                                   simp only [List.count_append, List.count_cons, List.count_nil]
                                   omega
                               -- E>>
                           · obtain ⟨ka, kb, kc, kd, va, vb, vc, vd, fa, fb, fc, fd, hk9, hv9, hf9⟩ : ∃ ka kb kc kd va vb vc vd fa fb fc fd, ks = [ka, kb, kc, kd] ∧ vs = [va, vb, vc, vd] ∧ f = fa ++ (fb ++ (fc ++ (fd ++ []))) := by
                               clear iterR iterL endL fin ch chS
                               obtain ⟨ka, kb, kc, kd, h0⟩ := len4 hk3
                               rw [h0] at e3
                               obtain ⟨va, _, fa, _, h1, h2, _, vb, _, fb, _, h3, h4, _, vc, _, fc, _, h5, h6, _, vd, _, fd, _, h7, h8, _, h9, h10⟩ := e3
                               exact ⟨ka, kb, kc, kd, va, vb, vc, vd, fa, fb, fc, fd, h0, by rw [h1, h3, h5, h7, h9], by rw [h2, h4, h6, h8, h10]⟩
                             clear hc hw ih
                             subst hk9 hv9 hf9
                             cases hR : V.right with
                             | true =>
                               -- <<F
                               refine iterR hR (i := 1) (r9 := [fun v => ∃ t, v = .int (2 : Nat) t]) (v := va) (rest := [vb, vc, vd]) ((((q3.put (by decide) (by decide)).put (by decide) (by decide)).put (by decide) (by decide)).put (by decide) (by decide)) (by kbo_bools) (by kbo_bools) (by kbo_bools) ⟨_, by kbo_bools⟩ (by omega) (by simp) haT hncT (by simp) hcnT it2 ?_
                               intro m6 τ6 N1 cA1 cN1 x1 x2 x3 x4 x5 x6 x7 x8 x9 x10 x11 x12 x13
                               have nI6 : ∀ {b o}, τ6 b = some o → o.kp = true → b ≠ I2 := fun e k z => by
                                 obtain ⟨o, e2, _, e3, _⟩ := x13.at
                                 (first | rw [z, e] at e2 | rw [← z, e] at e2); cases e2; rw [k] at e3; cases e3
                               have nI5 : ∀ {b o}, τ15 b = some o → o.kp = true → b ≠ I2 := fun e k z => by
                                 obtain ⟨o, e2, _, e3, _⟩ := it2.at
                                 (first | rw [z, e] at e2 | rw [← z, e] at e2); cases e2; rw [k] at e3; cases e3
                               have cn6 := x6 _ _ hcnT (ne_tag hcnT haT) (ne_tag hcnT hncT) (nI5 hcnT rfl)
                               refine iterR hR (i := 2) (r9 := []) (v := vb) (rest := [vc, vd]) x1 x2 x3 x4 x5 (by omega) (by simp) x10 x12 (by simp) cn6 x13 ?_
                               intro m7 τ7 N2 cA2 cN2 v1 v2 v3 v4 v5 v6 v7 v8 v9 v10 v11 v12 v13
                               have nI7 : ∀ {b o}, τ7 b = some o → o.kp = true → b ≠ I2 := fun e k z => by
                                 obtain ⟨o, e2, _, e3, _⟩ := v13.at
                                 (first | rw [z, e] at e2 | rw [← z, e] at e2); cases e2; rw [k] at e3; cases e3
                               have N2T : τ15 N2 = none := by
                                 cases q : τ15 N2 with
                                 | none => rfl
                                 | some o =>
                                   by_cases h1 : N2 = a
                                   · rw [h1, x8] at v7; cases v7
                                   · by_cases h2 : N2 = nc
                                     · rw [h2, x12] at v7; cases v7
                                     · by_cases h3 : N2 = I2
                                       · obtain ⟨o, e2, _⟩ := x13.at
                                         rw [h3, e2] at v7; cases v7
                                       · rw [x6 _ _ q h1 h2 h3] at v7; cases v7
                               have r7 : ∀ b o, τ15 b = some o → b ≠ a → b ≠ nc → b ≠ I2 → τ7 b = some o := fun b o e n1 n2 n3 => v6 b o (x6 b o e n1 n2 n3) (ne_of_none x7 e) n2 n3
                               have N1f : N1 ∉ fa ++ (fb ++ (fc ++ (fd ++ []))) := fun h => by
                                 obtain ⟨_, _, e⟩ := z9.there N1 h
                                 rw [fr10 N1 x7] at e; cases e
                               have N2f : N2 ∉ fa ++ (fb ++ (fc ++ (fd ++ []))) := fun h => by
                                 obtain ⟨_, _, e⟩ := z9.there N2 h
                                 rw [fr10 N2 N2T] at e; cases e
                               have N1nl : N1 ≠ nl := fun z => by rw [z, hnlT] at x7; cases x7
                               have N2nl : N2 ≠ nl := fun z => by rw [z, hnlT] at N2T; cases N2T
                               have N1a : a ≠ N1 := fun z => by rw [← z, haT] at x7; cases x7
                               have N2a : a ≠ N2 := fun z => by rw [← z, haT] at N2T; cases N2T
                               have N12 : N1 ≠ N2 := fun z => by rw [← z, x10] at v7; cases v7
                               have a7 := v6 _ _ x8 N1a (Ne.symm hnca) aI
                               have A7 := v6 _ _ x9 (ne_tag x9 x10) (ne_tag x9 x12) (nI6 x9 rfl)
                               refine endL v13 fun τe ste => ⟨rfl, N2, _, cN2, [vc, vd], v1, v2, v3, ste _ _ v10 (nI7 v10 rfl), ste _ _ v12 ncI, by simp, fun m5 σ5 cF y1 y2 y3 y4 => ?_⟩
                               have cc := ch r7 ste y2 N2T
                               have ea := ste _ _ a7 aI
                               have eA1 := ste _ _ A7 (nI7 A7 rfl)
                               have eN1 := ste _ _ v8 (nI7 v8 rfl)
                               have eA2 := ste _ _ v9 (nI7 v9 rfl)
                               have eN2 := ste _ _ v10 (nI7 v10 rfl)
                               have enc := ste _ _ v12 ncI
                               have fa5 := y2 _ _ ea N2a (Ne.symm hnca)
                               have fA1 := y2 _ _ eA1 (ne_tag eA1 eN2) (ne_tag eA1 enc)
                               have fN1 := y2 _ _ eN1 N12 (ne_tag eN1 enc)
                               have fA2 := y2 _ _ eA2 (ne_tag eA2 eN2) (ne_tag eA2 enc)
                               refine fin m5 σ5 [N1, N2] y1 (cc _ _ hnlT hnla (Ne.symm hncn) nlI) (chS cc) ⟨_, _, fa5⟩ (fun x hx => by
                                 simp at hx
                                 rcases hx with rfl | rfl
                                 · exact ⟨frS _ x7, _, _, fN1⟩
                                 · exact ⟨frS _ N2T, _, _, y3⟩) (by simp [N12]) fun σ' us g y5 y6 y7 => ?_
                               obtain ⟨ua, ub, uc, ud, rfl⟩ := len4 y5
                               obtain ⟨_, _, ga, _, ee, rfl, wa, _, _, gb, _, ee2, rfl, wb, _, _, gc, _, ee3, rfl, wc, _, _, gd, _, ee4, rfl, wd, ee5, rfl⟩ := y6
                               cases ee; cases ee2; cases ee3; cases ee4
                               have k_a := y7 _ _ fa5 (.inr fun z => z.elim haf.1 hanl)
                               have k_A1 := y7 _ _ fA1 (.inl rfl)
                               have k_N1 := y7 _ _ fN1 (.inr fun z => z.elim N1f N1nl)
                               have k_A2 := y7 _ _ fA2 (.inl rfl)
                               have k_N2 := y7 _ _ y3 (.inr fun z => z.elim N2f N2nl)
                               have k_F := y7 _ _ y4 (.inl rfl)
                               refine ⟨a :: (ga ++ ((N1 :: (gb ++ ((N2 :: (gc ++ (gd ++ []))) ++ []))) ++ [])), ?_, ?_⟩
                               · rw [hR]
                                 exact ⟨a, cA1, [va, .ref N1], _, rfl, rfl, k_a, k_A1, va, _, ga, _, rfl, rfl, wa, .ref N1, [], N1 :: (gb ++ ((N2 :: (gc ++ (gd ++ []))) ++ [])), [], rfl, rfl, ⟨N1, cA2, [vb, .ref N2], _, rfl, rfl, k_N1, k_A2, vb, _, gb, _, rfl, rfl, wb, .ref N2, [], N2 :: (gc ++ (gd ++ [])), [], rfl, rfl, ⟨N2, cF, [vc, vd], _, rfl, rfl, k_N2, k_F, vc, _, gc, _, rfl, rfl, wc, vd, _, gd, _, rfl, rfl, wd, rfl, rfl⟩, rfl, rfl⟩, rfl, rfl⟩
                               · refine List.perm_iff_count.mpr fun x => ?_
                                 simp only [List.count_append, List.count_cons, List.count_nil]
                                 omega
                               -- F>>
                             | false =>
                               -- <<G
                               refine iterL hR (i := 1) (r9 := [fun v => ∃ t, v = .int (2 : Nat) t]) (v := vd) (rest := [va, vb, vc]) ((((q3.put (by decide) (by decide)).put (by decide) (by decide)).put (by decide) (by decide)).put (by decide) (by decide)) (by kbo_bools) (by kbo_bools) (by kbo_bools) ⟨_, by kbo_bools⟩ (by omega) (by simp) haT hncT (by simp) hcnT it2 ?_
                               intro m6 τ6 N1 cA1 cN1 x1 x2 x3 x4 x5 x6 x7 x8 x9 x10 x11 x12 x13
                               have nI6 : ∀ {b o}, τ6 b = some o → o.kp = true → b ≠ I2 := fun e k z => by
                                 obtain ⟨o, e2, _, e3, _⟩ := x13.at
                                 (first | rw [z, e] at e2 | rw [← z, e] at e2); cases e2; rw [k] at e3; cases e3
                               have nI5 : ∀ {b o}, τ15 b = some o → o.kp = true → b ≠ I2 := fun e k z => by
                                 obtain ⟨o, e2, _, e3, _⟩ := it2.at
                                 (first | rw [z, e] at e2 | rw [← z, e] at e2); cases e2; rw [k] at e3; cases e3
                               have cn6 := x6 _ _ hcnT (ne_tag hcnT haT) (ne_tag hcnT hncT) (nI5 hcnT rfl)
                               refine iterL hR (i := 2) (r9 := []) (v := vc) (rest := [va, vb]) x1 x2 x3 x4 x5 (by omega) (by simp) x10 x12 (by simp) cn6 x13 ?_
                               intro m7 τ7 N2 cA2 cN2 v1 v2 v3 v4 v5 v6 v7 v8 v9 v10 v11 v12 v13
                               have nI7 : ∀ {b o}, τ7 b = some o → o.kp = true → b ≠ I2 := fun e k z => by
                                 obtain ⟨o, e2, _, e3, _⟩ := v13.at
                                 (first | rw [z, e] at e2 | rw [← z, e] at e2); cases e2; rw [k] at e3; cases e3
                               have N2T : τ15 N2 = none := by
                                 cases q : τ15 N2 with
                                 | none => rfl
                                 | some o =>
                                   by_cases h1 : N2 = a
                                   · rw [h1, x8] at v7; cases v7
                                   · by_cases h2 : N2 = nc
                                     · rw [h2, x12] at v7; cases v7
                                     · by_cases h3 : N2 = I2
                                       · obtain ⟨o, e2, _⟩ := x13.at
                                         rw [h3, e2] at v7; cases v7
                                       · rw [x6 _ _ q h1 h2 h3] at v7; cases v7
                               have r7 : ∀ b o, τ15 b = some o → b ≠ a → b ≠ nc → b ≠ I2 → τ7 b = some o := fun b o e n1 n2 n3 => v6 b o (x6 b o e n1 n2 n3) (ne_of_none x7 e) n2 n3
                               have N1f : N1 ∉ fa ++ (fb ++ (fc ++ (fd ++ []))) := fun h => by
                                 obtain ⟨_, _, e⟩ := z9.there N1 h
                                 rw [fr10 N1 x7] at e; cases e
                               have N2f : N2 ∉ fa ++ (fb ++ (fc ++ (fd ++ []))) := fun h => by
                                 obtain ⟨_, _, e⟩ := z9.there N2 h
                                 rw [fr10 N2 N2T] at e; cases e
                               have N1nl : N1 ≠ nl := fun z => by rw [z, hnlT] at x7; cases x7
                               have N2nl : N2 ≠ nl := fun z => by rw [z, hnlT] at N2T; cases N2T
                               have N1a : a ≠ N1 := fun z => by rw [← z, haT] at x7; cases x7
                               have N2a : a ≠ N2 := fun z => by rw [← z, haT] at N2T; cases N2T
                               have N12 : N1 ≠ N2 := fun z => by rw [← z, x10] at v7; cases v7
                               have a7 := v6 _ _ x8 N1a (Ne.symm hnca) aI
                               have A7 := v6 _ _ x9 (ne_tag x9 x10) (ne_tag x9 x12) (nI6 x9 rfl)
                               refine endL v13 fun τe ste => ⟨rfl, N2, _, cN2, [va, vb], v1, v2, v3, ste _ _ v10 (nI7 v10 rfl), ste _ _ v12 ncI, by simp, fun m5 σ5 cF y1 y2 y3 y4 => ?_⟩
                               have cc := ch r7 ste y2 N2T
                               have ea := ste _ _ a7 aI
                               have eA1 := ste _ _ A7 (nI7 A7 rfl)
                               have eN1 := ste _ _ v8 (nI7 v8 rfl)
                               have eA2 := ste _ _ v9 (nI7 v9 rfl)
                               have eN2 := ste _ _ v10 (nI7 v10 rfl)
                               have enc := ste _ _ v12 ncI
                               have fa5 := y2 _ _ ea N2a (Ne.symm hnca)
                               have fA1 := y2 _ _ eA1 (ne_tag eA1 eN2) (ne_tag eA1 enc)
                               have fN1 := y2 _ _ eN1 N12 (ne_tag eN1 enc)
                               have fA2 := y2 _ _ eA2 (ne_tag eA2 eN2) (ne_tag eA2 enc)
                               refine fin m5 σ5 [N1, N2] y1 (cc _ _ hnlT hnla (Ne.symm hncn) nlI) (chS cc) ⟨_, _, fa5⟩ (fun x hx => by
                                 simp at hx
                                 rcases hx with rfl | rfl
                                 · exact ⟨frS _ x7, _, _, fN1⟩
                                 · exact ⟨frS _ N2T, _, _, y3⟩) (by simp [N12]) fun σ' us g y5 y6 y7 => ?_
                               obtain ⟨ua, ub, uc, ud, rfl⟩ := len4 y5
                               obtain ⟨_, _, ga, _, ee, rfl, wa, _, _, gb, _, ee2, rfl, wb, _, _, gc, _, ee3, rfl, wc, _, _, gd, _, ee4, rfl, wd, ee5, rfl⟩ := y6
                               cases ee; cases ee2; cases ee3; cases ee4
                               have k_a := y7 _ _ fa5 (.inr fun z => z.elim haf.1 hanl)
                               have k_A1 := y7 _ _ fA1 (.inl rfl)
                               have k_N1 := y7 _ _ fN1 (.inr fun z => z.elim N1f N1nl)
                               have k_A2 := y7 _ _ fA2 (.inl rfl)
                               have k_N2 := y7 _ _ y3 (.inr fun z => z.elim N2f N2nl)
                               have k_F := y7 _ _ y4 (.inl rfl)
                               refine ⟨a :: ((N1 :: ((N2 :: (ga ++ (gb ++ []))) ++ (gc ++ []))) ++ (gd ++ [])), ?_, ?_⟩
                               · rw [hR]
                                 exact ⟨a, cA1, [.ref N1, vd], _, rfl, rfl, k_a, k_A1, .ref N1, [vd], N1 :: ((N2 :: (ga ++ (gb ++ []))) ++ (gc ++ [])), gd ++ [], rfl, rfl, ⟨N1, cA2, [.ref N2, vc], _, rfl, rfl, k_N1, k_A2, .ref N2, [vc], N2 :: (ga ++ (gb ++ [])), gc ++ [], rfl, rfl, ⟨N2, cF, [va, vb], _, rfl, rfl, k_N2, k_F, va, _, ga, _, rfl, rfl, wa, vb, _, gb, _, rfl, rfl, wb, rfl, rfl⟩, vc, _, gc, _, rfl, rfl, wc, rfl, rfl⟩, vd, _, gd, _, rfl, rfl, wd, rfl, rfl⟩
                               · refine List.perm_iff_count.mpr fun x => ?_
                                 simp only [List.count_append, List.count_cons, List.count_nil]
                                 omega
                               -- G>>
               · exact fun v => by rfl
               · exact ⟨[], vs, [], rfl, rfl, hloc, by rw [List.append_nil]; exact stI _ _ hnτ (.inr id), .nil, stI.no, (let ⟨o, a1, a2, a3, a4⟩ := it1.at; ⟨o, a1, a3⟩)⟩
    induction n with
    | zero => exact step 0 nofun
    | succ n ih => exact step _ fun n' e => by cases e; exact ih
  have fx : FixC (m1.put (Str.ofString "nodeList") (.ref nl)) nl r V := ⟨⟨loc_old (by decide) hm1.tree, hm1.factor.imp fun _ e => loc_old (by decide) e, hm1.horz.imp fun _ e => loc_old (by decide) e, hm1.vert.imp fun _ e => loc_old (by decide) e, hm1.child.imp fun _ e => loc_old (by decide) e, hm1.parent.imp fun _ e => loc_old (by decide) e⟩, rfl⟩
  have hp3 : σ3 tp1 = some (.tup [.ref r, .ref lst1]) := by tb_start
  obtain ⟨tx, hq3⟩ : ∃ tx, σ3 lst1 = some (.lst [.str l tx]) := ⟨_, by tb_start⟩
  have key4 : Stp No τ0 σ2 := by top_name
  have stT0 : Stp No τ0 σ3 := by top_name
  have stT : Stp No σ σ3 := st0.trans stT0
  have htT : TrAt σ3 (.n l ks) (.ref r) fs := ht.no stT
  refine key _ 4 (st := []) (par := [l]) (root := true) hs fx hnl (by simp) hp3 hq3 (.cons _ _ .nil) (by simp) (fun x hx => by cases List.mem_singleton.mp hx; cases hs; assumption) htT hnd (fun _ => rfl) (fun σ' t' f' _ h1 h2 => ⟨t', f', h1, h2, .inr ⟨rfl, rfl⟩⟩) fun m' σ' fs' w1 w2 w3 w4 w5 w6 => ?_
  have w7 := w1.list
  rw [← hcode]
  refine c_while ?_
  rw [hcode]
  exact by
   repeat' tb_rel
   rw [if_neg (by decide)]
   exact by
    repeat' tb_rel
    rename_i lx σx stx _ _
    refine ⟨fun b => b ∈ fs, fun b o e c => stx b o (w2 b o (stT0 b o e (.inr id)) ?_) (.inr id), fun σ₃ st₃ kp => h σ₃ fs' st₃ ((w4.no stx).keep kp) w5 fun x hx => ?_⟩
    · rcases c with c | c
      · exact .inl c
      · refine .inr fun z => z.elim c fun z => ?_
        subst z
        have key3 : ∀ σy : Sto, σy b = none → Stp No τ0 σy → False := fun σy h1 h2 => by rw [h2 _ _ e (.inr id)] at h1; cases h1
        exact key3 _ fr3 key4
    · rcases w6 x hx with y | y
      · exact .inl y
      · cases q : σ x with
        | none => exact .inr rfl
        | some o => rw [stT _ _ q (.inr id)] at y; cases y
end

section
theorem un_spec {Γ : Cx} {A : Around} {L : Addr} {m : Loc} {σ : Sto} {V : Way} {cs cm : Nat} {l : Str} {ks : List T} {r : Addr} {fs : List Addr} {ts tm : Tok} {Q : Value → Loc → Sto → Prop} (hA : Ok A 70) (S : Sgn V cs cm) (hcl : Cl cs cm 4 (.n l ks)) (ht : TrAt σ (cnf V true [l] (.n l ks)) (.ref r) fs) (hnd : fs.Nodup)
    (h : ∀ σ' fs', Stp (fun b => b ∈ fs) σ σ' → TrAt σ' (.n l ks) (.ref r) fs' → fs'.Nodup → (∀ x ∈ fs', x ∈ fs ∨ σ x = none) → Q .none m σ') :
    W Γ A L (call (.ref 168) [.ref r, .bool true, .str V.sign ts, .str V.mark tm]) Q m σ := by
  refine call_fnC (n := 69) (binds := [(Str.ofString "tree", .ref r), (Str.ofString "expandUnary", .bool true), (Str.ofString "childChar", .str V.sign ts), (Str.ofString "parentChar", .str V.mark tm), (Str.ofString "unaryChar", _)]) hA (fun P => by exact rfl) (fun P => by kernel_rfl) (fun s S => BindsTo.of_defaults rfl (S.K 163 _ rfl) rfl rfl rfl) (by rfl) (fun L' σ0 st0 hA' hcell => ?_)
  generalize A.deeper _ = A' at hA' ⊢
  have c1 : σ0 (L' + 1) = some (.cel (some (.str V.sign ts))) := (hcell (Str.ofString "childChar") _ rfl).1
  exact by
   repeat' tb_rel
   rename_i nl σ1 st1 fr1 hnl
   generalize hcode : Code.whileLoop _ _ _ _ = code
   have c1' : σ1 (L' + 1) = some (.cel (some (.str V.sign ts))) := by tb_start
   have key : ∀ Q n, UNode Γ A' L' code Q nl V cs cm (L' + 1) (.str V.sign ts) n := by
     intro Q n
     have step : ∀ n, (∀ n', n = n' + 1 → UNode Γ A' L' code Q nl V cs cm (L' + 1) (.str V.sign ts) n') → UNode Γ A' L' code Q nl V cs cm (L' + 1) (.str V.sign ts) n := by
       intro n ih t v fs st par m σ root hcl hpar hp8 hm hcc hnl hz ht hnd hc
       have m1 := hm.list
       have m2 := hm.exp
       obtain ⟨m3, t3⟩ := hm.parent
       obtain ⟨m4, t4⟩ := hm.unary
       rw [← hcode]
       refine c_while ?_
       rw [hcode]
       exact by
        repeat' tb_rel
        rw [if_pos (by simp)]
        exact by
         repeat' tb_rel
         cases hcl with
         | w =>
           obtain ⟨⟨tw, rfl⟩, rfl⟩ := ht
           exact by
            repeat' tb_rel
            rw [if_neg (by decide)]
            exact by
             repeat' tb_rel
             refine hc _ _ [] (hm.put (by decide)) ?_ (by assumption) ⟨⟨tw, rfl⟩, rfl⟩ .nil nofun
             top_name
         | n hl1 hk4 hks =>
           rename_i n l ks
           obtain ⟨kids, ec, hfl, hk⟩ := cnf_shape (root := root) S (.n hl1 hk4 hks) hpar
           rw [ec] at ht
           obtain ⟨a, c, vs, f, rfl, rfl, e1, e2, e3⟩ := ht
           have hanl : a ≠ nl := ne_tag e1 hnl
           have hlen := e3.length
           exact by
            repeat' tb_rel
            rw [if_pos rfl]
            have hm' : FixU (m.put (Str.ofString "node") (.ref a)) nl V := hm.put (by decide)
            refine x_cons (W.mono (Q := fun fl m' σ' => fl = Flow.next ∧ FixU m' nl V ∧ m' (Str.ofString "node") = some (.ref a) ∧ σ' nl = some (.pls st) ∧ σ' (L' + 1) = some (.cel (some (.str V.sign ts))) ∧ ∃ c9 vs9 f9, σ' a = some (.tre (l ++ psOf V root par ks) c9) ∧ σ' c9 = some (.lst vs9) ∧ TrAll σ' (cnfs V (parOf V root par l ks) ks) vs9 f9 ∧ (a :: f9).Nodup ∧ (∀ x ∈ f9, x ∈ f) ∧ Stp (fun b => b ∈ a :: f ∨ b = nl) σ σ') ?_ ?_)
            · repeat' tb_rel
              refine it_lst (by tb_start) fun I σ7 st7 fr7 it7 => ?_
              intro code9 C a9 go σ3 e3C hLC e2L e3' e2C e2a e3L e3a
              obtain ⟨oI, i1, i2, i3, i4⟩ := it7.at
              have nL : L' ≠ I := fun z => by rw [z, i1] at e2L; cases e2L
              have na : a9 ≠ I := fun z => by rw [z, i1] at e2a; cases e2a
              have t3 : TrAll σ3 kids vs f := (e3.stp (show Stp (fun x => x = nl) σ σ7 by top_name) fun x hx z => by
                obtain ⟨l, c, e⟩ := e3.there x hx
                rw [z, hnl] at e; cases e).no fun b o e _ => e3' b o e
              have c3 : σ3 (L' + 1) = some (.cel (some (.str V.sign ts))) := e3' _ _ (by tb_start)
              have it3 : ItR σ3 I (vs.map fun v => (· = v)) := it7.stp (X := No) fun b o e _ => e3' b o e
              refine ⟨vs.length, fun i => (kids[i]?.map (isH cs)).getD false, fun i mm τ => (∀ b o, σ3 b = some o → b ≠ I → τ b = some o) ∧ ItR τ I ((vs.drop i).map fun v => (· = v)), fun τ => (∀ b o, σ3 b = some o → b ≠ I → τ b = some o), ⟨fun b o e _ => e, it3⟩, ⟨?_, ?_, ?_, ?_, ?_⟩, ?_⟩
              · exact fun i mm τ ⟨h1, _⟩ => ⟨h1 _ _ e3L nL, h1 _ _ e3a na⟩
              · exact fun τ h1 => ⟨h1 _ _ e3L nL, h1 _ _ e3a na⟩
              · exact fun G A'' mm τ hA'' ⟨h1, h2⟩ => it_self h2 ⟨rfl, h1, h2⟩
              · rintro i hi G A'' mm τ hA'' ⟨h1', h2'⟩
                obtain ⟨k, hk9⟩ : ∃ k, kids[i]? = some k := ⟨_, List.getElem?_eq_getElem (by omega)⟩
                obtain ⟨x, fx, hx, tx, -⟩ := t3.get hk9
                have hd : vs.drop i = x :: vs.drop (i + 1) := by
                  obtain ⟨hlt, rfl⟩ := List.getElem?_eq_some_iff.mp hx
                  exact List.drop_eq_getElem_cons hlt
                rw [hd, List.map_cons] at h2'
                refine next_some h2' fun v τ1 hv s1 it1 => ⟨v, rfl, ?_⟩
                subst hv
                have k1 : ∀ b o, σ3 b = some o → b ≠ I → τ1 b = some o := fun b o e hb => s1 b o (h1' b o e hb) hb
                have i3' : σ3 I = some oI := e3' _ _ i1
                have kI : ∀ {b o}, σ3 b = some o → o.kp = true → b ≠ I := fun e k z => by subst z; rw [i3'] at e; cases e; rw [k] at i3; cases i3
                have tx1 : TrAt τ1 k v fx := tx.frm (fun b o e _ k => k1 b o e (kI e k)) fun b _ l c e => k1 b _ e (kI e rfl)
                have c4 : τ1 (L' + 1) = some (.cel (some (.str V.sign ts))) := k1 _ _ c3 (kI c3 rfl)
                refine W.pure (v := ()) ?_
                refine a_name ?_
                exact by
                 repeat' tb_rel
                 rw [hk9]
                 rcases tx1.word with ⟨s9, t9, rfl, rfl⟩ | ⟨l9, ks9, b9, rfl, rfl⟩
                 · repeat' tb_rel
                   rw [if_neg (by decide)]
                   exact ⟨rfl, k1, it1⟩
                 · obtain ⟨_, c9, vs9, h9, ee, _, d3, d4, d5⟩ := tx1
                   cases ee
                   exact by
                    repeat' tb_rel
                    rw [if_pos rfl]
                    exact by
                     repeat' tb_rel
                     rename_i τ2 st9 t9 t8 t7
                     have k2 : ∀ b o, σ3 b = some o → b ≠ I → τ2 b = some o := fun b o e hb => st9 b o (k1 b o e hb) (.inr id)
                     have c5 : τ2 (L' + 1) = some (.cel (some (.str V.sign ts))) := k2 _ _ c3 (kI c3 rfl)
                     refine ⟨?_, k2, it1.stp st9⟩
                     rw [S.s]
                     exact congrArg Value.bool find_has
              · rintro G A'' mm τ hA'' ⟨h1', h2'⟩
                rw [List.drop_length] at h2'
                exact next_none hA'' h2' fun τ' k => ⟨rfl, fun b o e hb => k b o (h1' b o e hb) hb⟩
              · rintro ρ ⟨τ, hτ, hρ⟩
                have hτ : ∀ b o, σ3 b = some o → b ≠ I → τ b = some o := hτ.elim (fun ⟨_, _, h, _⟩ => h) id
                have stρ : Stp No _ ρ := fun b o e _ => hρ b o (hτ b o (e3' b o (st7 b o e (.inr id))) fun z => by (first | rw [z, e] at fr7 | rw [← z, e] at fr7); cases fr7) fun z => by subst z; have e := st7 _ _ e (.inr id); rw [e2L] at e; cases e
                have hv := any_range (f := isH cs) hlen
                refine b_bool ?_
                simp only [hv]
                have nlρ : ρ nl = some (.pls st) := by tb_start
                have ccρ : ρ (L' + 1) = some (.cel (some (.str V.sign ts))) := by tb_start
                have stA : Stp (fun x => x = nl) σ ρ := by top_name
                have aρ : ρ a = some (.tre (l ++ psOf V root par ks) c) := stA _ _ e1 (.inr hanl)
                have cρ : ρ c = some (.lst vs) := stA _ _ e2 (.inl rfl)
                have tρ : TrAll ρ kids vs f := e3.stp stA fun x hx z => by
                  obtain ⟨l, c, e⟩ := e3.there x hx
                  rw [z, hnl] at e; cases e
                cases hany : kids.any (isH cs) with
                | false =>
                  rw [if_neg (by decide)]
                  refine x_nil ?_
                  exact ⟨rfl, hm', by kbo_bools, nlρ, ccρ, c, vs, f, aρ, cρ, hfl.eq hany ▸ tρ, hnd, fun x hx => hx, stA.weak fun x hx => .inr hx⟩
                | true =>
                  rw [if_pos rfl]
                  clear hv stρ hτ hρ go e3C hLC e2L e3' e2C e2a e3L e3a it7 i1 i2 i3 i4 it3 t3 c3
                  refine x_cons ?_
                  refine x_asg ?_
                  refine e_list ?_
                  tb_rel
                  refine newP (vs := []) ?_
                  intro nc σa sta fra hnc
                  have ncσ : σ nc = none := by
                    cases q : σ nc with
                    | none => rfl
                    | some o =>
                      by_cases hz : nc = nl
                      · subst hz; rw [nlρ] at fra; cases fra
                      · rw [stA _ _ q (.inr hz)] at fra; cases fra
                  exact by
                   repeat' tb_rel
                   refine rev_new (by tb_start) fun I0 σb stb frb hI0 => ?_
                   exact by
                    repeat' tb_rel
                    refine rev_list hA' (by tb_start) (by tb_start) (by omega) fun sk σc stc frc hsk => ?_
                    have kk : Stp No ρ σc := fun b o e _ => stc b o (stb _ _ (sta _ _ e (.inr id)) (.inr id)) (fun z => by subst z; rw [sta _ _ e (.inr id)] at frb; cases frb)
                    have hncc : σc nc = some (.pls []) := stc _ _ (stb _ _ hnc (.inr id)) (fun z => by (first | rw [z, hnc] at frb | rw [← z, hnc] at frb); cases frb)
                    have nsk : sk ≠ nc := fun z => by subst z; rw [stb _ _ hnc (.inr id)] at frc; cases frc
                    have skσ : σ sk = none := by
                      cases q : σ sk with
                      | none => rfl
                      | some o =>
                        by_cases hz : sk = nl
                        · subst hz; rw [stb _ _ (sta _ _ nlρ (.inr id)) (.inr id)] at frc; cases frc
                        · rw [stb _ _ (sta _ _ (stA _ _ q (.inr hz)) (.inr id)) (.inr id)] at frc; cases frc
                    have tc : TrAll σc kids vs f := tρ.no kk
                    have ac := kk _ _ aρ (.inr id)
                    have nlc := kk _ _ nlρ (.inr id)
                    have ccc := kk _ _ ccρ (.inr id)
                    clear stb sta hI0 fra frb stc frc hnc
                    exact by
                     repeat' tb_rel
                     generalize hcode2 : Code.whileLoop _ _ _ _ = code2
                     have fl : ∀ work out, Fl cs work out → ∀ {QQ : Flow → Loc → Sto → Prop} (vw vd : List Value) (fw : List Addr) (m : Loc) (τ : Sto), FixU m nl V → m (Str.ofString "node") = some (.ref a) → m (Str.ofString "stack") = some (.ref sk) → m (Str.ofString "newChildren") = some (.ref nc) → τ sk = some (.pls vw.reverse) → τ nc = some (.pls vd) → work.length ≤ 8 → vd.length + out.length ≤ 8 → TrAll τ work vw fw → τ (L' + 1) = some (.cel (some (.str V.sign ts))) →
                         (∀ m' τ' vo fo, FixU m' nl V → m' (Str.ofString "node") = some (.ref a) → m' (Str.ofString "newChildren") = some (.ref nc) → TrAll τ' out vo fo → fo.Sublist fw → τ' nc = some (.pls (vd ++ vo)) → Stp (fun b => b = sk ∨ b = nc) τ τ' → QQ .next m' τ') → WC Γ A' L' code2 QQ m τ := by
                       intro work out h
                       induction h with
                       | nil =>
                         intro QQ vw vd fw m τ g1 g2 g3 g4 h1 h2 h3 h4 h5 h6 hq
                         obtain ⟨rfl, rfl⟩ := h5
                         rw [← hcode2]
                         refine c_while ?_
                         rw [hcode2]
                         exact by
                          repeat' tb_rel
                          refine b_pls h1 (by simp) ?_
                          rw [if_neg (by simp)]
                          refine x_nil ?_
                          exact hq m τ [] [] g1 g2 g4 ⟨rfl, rfl⟩ (List.Sublist.refl _) (by rw [List.append_nil]; exact h2) Stp.refl
                       | keep hk hfl2 ih =>
                         rename_i k r out
                         intro QQ vw vd fw m τ g1 g2 g3 g4 h1 h2 h3 h4 h5 h6 hq
                         obtain ⟨v, vr, fk, fr, rfl, rfl, tk, tr⟩ := h5
                         have hlr := tr.length
                         simp only [List.length_cons] at h3 h4
                         rw [List.reverse_cons] at h1
                         have nf : ∀ x ∈ fk ++ fr, x ≠ sk ∧ x ≠ nc := fun x hx => by
                           obtain ⟨l9, c9, e⟩ : ∃ l c, τ x = some (.tre l c) := (List.mem_append.mp hx).elim (tk.there x) (tr.there x)
                           exact ⟨ne_tag e h1, ne_tag e h2⟩
                         have go : ∀ m3 τ3, FixU m3 nl V → m3 (Str.ofString "node") = some (.ref a) → m3 (Str.ofString "stack") = some (.ref sk) → m3 (Str.ofString "newChildren") = some (.ref nc) → τ3 sk = some (.pls vr.reverse) → τ3 nc = some (.pls (vd ++ [v])) → Stp (fun b => b = sk ∨ b = nc) τ τ3 → WC Γ A' L' code2 QQ m3 τ3 := by
                           intro m3 τ3 j1 j2 j3 j4 j5 j6 j7
                           refine ih vr (vd ++ [v]) fr m3 τ3 j1 j2 j3 j4 j5 j6 (by omega) (by simp; omega) (tr.stp j7 fun x hx z => z.elim (nf x (List.mem_append_right _ hx)).1 (nf x (List.mem_append_right _ hx)).2) (j7 _ _ h6 (.inl rfl)) fun m' τ' vo fo w1 w2 w3 w4 w5 w6 w7 => ?_
                           have w8 := j7.trans w7
                           exact hq m' τ' (v :: vo) (fk ++ fo) w1 w2 w3 ⟨v, vo, fk, fo, rfl, rfl, tk.stp w8 fun x hx z => z.elim (nf x (List.mem_append_left _ hx)).1 (nf x (List.mem_append_left _ hx)).2, w4⟩ (List.Sublist.append (List.Sublist.refl _) w5) (by rw [w6, List.append_assoc]; rfl) w8
                         rw [← hcode2]
                         refine c_while ?_
                         rw [hcode2]
                         exact by
                          repeat' tb_rel
                          refine b_pls h1 (by simp; omega) ?_
                          rw [if_pos (by simp)]
                          exact by
                           repeat' tb_rel
                           refine pop_pls h1 (by rw [List.length_reverse, sl24]; omega) fun τ1 s1 g5 => ?_
                           have tk1 : TrAt τ1 k v fk := tk.stp s1 fun x hx z => (nf x (List.mem_append_left _ hx)).1 z
                           have h21 := s1 _ _ h2 (.inr (Ne.symm nsk))
                           have h61 := s1 _ _ h6 (.inl rfl)
                           exact by
                            repeat' tb_rel
                            rcases tk1.word with ⟨s9, t9, rfl, rfl⟩ | ⟨l9, ks9, b9, rfl, rfl⟩
                            · refine x_if ?_
                              refine t_bool ?_
                              refine t_and ?_
                              exact by
                               repeat' tb_rel
                               rw [if_neg (by decide), if_neg (by decide)]
                               exact by
                                repeat' tb_rel
                                rename_i τ2 s2 g6
                                have nsk' : sk ≠ nc := nsk
                                refine go _ τ2 (g1.put (by decide)) (by kbo_bools) (by kbo_bools) (by kbo_bools) (by tb_start) g6 ((s1.weak fun x hx => .inl hx).trans (s2.weak fun x hx => .inr hx))
                            · obtain ⟨_, c9, vs9, f9, ee, _, d1, d2, d3⟩ := tk1
                              cases ee
                              refine x_if ?_
                              refine t_bool ?_
                              refine t_and ?_
                              exact by
                               repeat' tb_rel
                               rw [if_pos rfl]
                               refine t_and ?_
                               exact by
                                repeat' tb_rel
                                rw [S.s, find_has, show decide (cs ∈ l9.cps.toList) = false from hk, if_neg (by decide), if_neg (by decide)]
                                exact by
                                 repeat' tb_rel
                                 rename_i τ3 s3 g6
                                 have s2 : Stp (fun b => b = nc) τ1 τ3 := by top_name
                                 refine go _ τ3 (g1.put (by decide)) (by kbo_bools) (by kbo_bools) (by kbo_bools) (s2 _ _ g5 (.inr nsk)) g6 ((s1.weak fun x hx => .inl hx).trans (s2.weak fun x hx => .inr hx))
                       | opn hk h8 hfl2 ih =>
                         rename_i l9 hs r out
                         intro QQ vw vd fw m τ g1 g2 g3 g4 h1 h2 h3 h4 h5 h6 hq
                         obtain ⟨v, vr, fk, fr, rfl, rfl, tk, tr⟩ := h5
                         obtain ⟨b9, c9, vs9, f9, rfl, rfl, d1, d2, d3⟩ := tk
                         have hlr := tr.length
                         have hl9 := d3.length
                         rw [List.length_append] at h8
                         rw [List.reverse_cons] at h1
                         have nf : ∀ x ∈ f9 ++ fr, x ≠ sk ∧ x ≠ nc := fun x hx => by
                           obtain ⟨l9, c9, e⟩ : ∃ l c, τ x = some (.tre l c) := (List.mem_append.mp hx).elim (d3.there x) (tr.there x)
                           exact ⟨ne_tag e h1, ne_tag e h2⟩
                         have nb : b9 ≠ sk := ne_tag d1 h1
                         have nnc : nc ≠ sk := Ne.symm nsk
                         rw [← hcode2]
                         refine c_while ?_
                         rw [hcode2]
                         exact by
                          repeat' tb_rel
                          refine b_pls h1 (by simp; omega) ?_
                          rw [if_pos (by simp)]
                          exact by
                           repeat' tb_rel
                           refine pop_pls h1 (by rw [List.length_reverse, sl24]; omega) fun τ1 s1 g5 => ?_
                           have h21 := s1 _ _ h2 (.inr (Ne.symm nsk))
                           have h61 := s1 _ _ h6 (.inl rfl)
                           have d11 := s1 _ _ d1 (.inr nb)
                           have d21 := s1 _ _ d2 (.inl rfl)
                           exact by
                            repeat' tb_rel
                            refine x_if ?_
                            refine t_bool ?_
                            refine t_and ?_
                            exact by
                             repeat' tb_rel
                             rw [if_pos rfl]
                             refine t_and ?_
                             exact by
                              repeat' tb_rel
                              rw [S.s, find_has, show decide (cs ∈ l9.cps.toList) = true from decide_eq_true hk, if_pos rfl]
                              refine t_and0 ?_
                              rw [if_pos rfl]
                              exact by
                               repeat' tb_rel
                               refine rev_new (by tb_start) fun I1 τ2 s2 fr2 hI1 => ?_
                               exact by
                                repeat' tb_rel
                                refine rev_list hA' (by tb_start) (by tb_start) (by omega) fun l2 τ3 s3 fr3 hl2 => ?_
                                have fr1 : τ1 I1 = none := by
                                  cases q : τ1 I1 with
                                  | none => rfl
                                  | some o => 
                                    have k9 : ∀ τx : Sto, Stp No τ1 τx → τx I1 = none → False := fun τx h1 h2 => by rw [h1 _ _ q (.inr id)] at h2; cases h2
                                    exact (k9 _ (by assumption) fr2).elim
                                have s12 : Stp No τ1 τ2 := by top_name
                                have s13 : Stp No τ1 τ3 := fun b o e k => s3 b o (s12 b o e k) fun z => by (first | rw [z, fr1] at e | rw [← z, fr1] at e); cases e
                                have g53 := s13 _ _ g5 (.inr id)
                                have skl : sk ≠ l2 := fun z => by rw [← z, s12 _ _ g5 (.inr id)] at fr3; cases fr3
                                exact by
                                 repeat' tb_rel
                                 refine ext_pls g53 hl2 skl (by rw [List.length_reverse, List.length_reverse]; omega) fun τ4 s4 g54 => ?_
                                 have s14 : Stp (fun b => b = sk ∨ b = nc) τ τ4 := ((s1.weak fun x hx => .inl hx).trans s13.no).trans (s4.weak fun x hx => .inl hx)
                                 have g64 : τ4 nc = some (.pls vd) := s4 _ _ (s13 _ _ h21 (.inr id)) (.inr nnc)
                                 exact by
                                  repeat' tb_rel
                                  show WC _ _ _ _ _ _ _
                                  refine ih (vs9 ++ vr) vd (f9 ++ fr) _ τ4 (g1.put (by decide)) (by kbo_bools) (by kbo_bools) (by kbo_bools) (by rw [List.reverse_append]; exact g54) g64 (by rw [List.length_append]; exact h8) h4 ?_ (s14 _ _ h6 (.inl rfl)) fun m' τ' vo fo w1 w2 w3 w4 w5 w6 w7 => ?_
                                  · exact (TrAll.append tr d3).stp s14 fun x hx z => z.elim (nf x hx).1 (nf x hx).2
                                  · exact hq m' τ' vo fo w1 w2 w3 w4 (w5.trans (List.Sublist.append (List.sublist_cons_self _ _) (List.Sublist.refl _))) w6 (s14.trans w7)
                     refine fl kids _ hfl vs [] f _ σc ((hm'.put (by decide)).put (by decide)) (by kbo_bools) (by kbo_bools) (by kbo_bools) hsk hncc (by omega) (by simp only [List.length_nil, cnfs_length]; omega) tc ccc fun m' τ' vo fo w1 w2 w3 w4 w5 w6 w7 => ?_
                     show W _ _ _ (execs _ _) _ _ _
                     have hac := w7 _ _ ac (.inr fun z => z.elim (ne_tag ac hsk) (ne_tag ac hncc))
                     have hnlc := w7 _ _ nlc (.inr fun z => z.elim (fun z => by rw [← z, hnl] at skσ; cases skσ) (fun z => by rw [← z, hnl] at ncσ; cases ncσ))
                     have hccc := w7 _ _ ccc (.inl rfl)
                     rw [List.nil_append] at w6
                     have hanc : a ≠ nc := ne_tag ac hncc
                     have hnlnc : nl ≠ nc := fun z => by rw [← z, hnl] at ncσ; cases ncσ
                     refine frz_pls w6 fun σf stf hf => ?_
                     exact by
                      repeat' tb_rel
                      rename_i σg stg hg
                      obtain ⟨ha1, ha2⟩ := List.nodup_cons.mp hnd
                      refine ⟨rfl, w1, w2, by tb_start, by tb_start, nc, vo, fo, hg, by tb_start, (w4.stp stf fun x hx z => ?_).stp stg fun x hx z => ?_, List.nodup_cons.mpr ⟨fun h => ha1 (w5.subset h), ha2.sublist w5⟩, fun x hx => w5.subset hx, fun b o e k => ?_⟩
                      · obtain ⟨_, _, e⟩ := w4.there x hx
                        rw [z, w6] at e; cases e
                      · subst z
                        exact ha1 (w5.subset hx)
                      · exact stg b o (stf b o (w7 b o (kk b o (stA b o e (k.imp id fun z q => z (.inr q))) (.inr id)) (.inr fun z => z.elim (fun z => by (first | rw [z, skσ] at e | rw [← z, skσ] at e); cases e) fun z => by (first | rw [z, ncσ] at e | rw [← z, ncσ] at e); cases e)) (.inr fun z => by (first | rw [z, ncσ] at e | rw [← z, ncσ] at e); cases e)) (k.imp id fun z q => z (.inl (by rw [q]; exact .head _)))
            · rintro _ m5 τ ⟨rfl, f5, n5, nl5, cc5, c9, vs9, f9, a5, c5, t5, nd5, sub5, st5⟩
              show W _ _ _ (execs _ _) _ _ _
              obtain ⟨p1, p2⟩ := f5.parent
              obtain ⟨p3, p4⟩ := f5.unary
              have p5 := f5.exp
              have p6 := f5.list
              have hps := ps_len (root := root) (ks := ks) S hpar hp8
              have hll : (l ++ psOf V root par ks).length ≤ 100 := by rw [len_app, hl1.1]; omega
              have hcnt : vs9.length ≤ 4 := by have := t5.length; rw [cnfs_length] at this; omega
              refine x_cons (W.mono (Q := fun fl m' σ' => fl = Flow.next ∧ (∃ t, m' = m5.put (Str.ofString "parentIndex") (.int (Txt.find (l ++ psOf V root par ks) V.mark) t)) ∧ Stp No τ σ') ?_ ?_)
              · repeat' tb_rel
                exact ⟨rfl, ⟨_, rfl⟩, by top_name⟩
              rintro _ m6 τ6 ⟨rfl, ⟨t6, rfl⟩, st6⟩
              show W _ _ _ (execs _ _) _ _ _
              have a6 := st6 _ _ a5 (.inr id)
              have nl6 := st6 _ _ nl5 (.inr id)
              refine x_cons (W.mono (Q := fun fl m' σ' => fl = Flow.next ∧ (∃ t, m' = m5.put (Str.ofString "parentIndex") (.int (Txt.find (l ++ psOf V root par ks) V.mark) t)) ∧ σ' a = some (.tre l c9) ∧ Stp (fun b => b = a) τ6 σ') ?_ ?_)
              · repeat' tb_rel
                rcases find_mark (V := V) (root := root) (par := par) (ks := ks) S hl1 with ⟨hp, hf⟩ | hf
                · rw [hf, if_neg (by decide)]
                  exact by
                   repeat' tb_rel
                   rw [hp, str_app_empty] at a6
                   exact ⟨rfl, ⟨_, rfl⟩, by tb_start, by top_name⟩
                · rw [hf, if_pos (by decide)]
                  exact by
                   repeat' tb_rel
                   refine sub_upto (by tb_start) (by rw [sl24]; omega) ?_
                   intro t7
                   rw [slice_one hl1.1]
                   exact by
                    repeat' tb_rel
                    exact ⟨rfl, ⟨_, rfl⟩, by tb_start, by top_name⟩
              rintro _ m7 τ7 ⟨rfl, ⟨t7, rfl⟩, a7, st7⟩
              show W _ _ _ (execs _ _) _ _ _
              have hplus : Txt.find l (Str.ofString "+") = -1 := by
                rw [show Str.ofString "+" = one 43 by decide +kernel]
                exact find_not hl1.2.2.2
              have nl7 := st7 _ _ nl6 (.inr (Ne.symm hanl))
              have c7 : τ7 c9 = some (.lst vs9) := st7 _ _ (st6 _ _ c5 (.inr id)) (.inl rfl)
              exact by
               repeat' tb_rel
               rw [if_pos rfl]
               exact by
                repeat' tb_rel
                rw [hplus, if_neg (by decide)]
                exact by
                 repeat' tb_rel
                 refine it_lst (by tb_start) fun I τ8 stI frI it1 => ?_
                 have key7 : ∀ τx : Sto, Stp No τ7 τx → τx I = none → τ7 I = none := fun τx h1 h2 => by
                   cases q : τ7 I with
                   | none => rfl
                   | some o => rw [h1 _ _ q (.inr id)] at h2; cases h2
                 have frI7 : τ7 I = none := key7 _ (by top_name) frI
                 have nl8 : τ8 nl = some (.pls st) := by tb_start
                 have st78 : Stp (fun b => b = nl) τ7 τ8 := by top_name
                 refine for_rule hA' (fun ps9 m9 τ9 => ∃ v1 v2, vs9 = v1 ++ v2 ∧ ps9 = v2.map (fun v => (· = v)) ∧ FixU m9 nl V ∧ τ9 nl = some (.pls (st ++ v1)) ∧ Stp (fun b => b = nl) τ7 τ9 ∧ ∃ o, τ9 I = some o ∧ o.kp = false) ?_ ?_ ?_ _ _ _ ?_ it1
                 · rintro p9 r9 m9 τ9 v9 τ10 ⟨v1, v2, q1, q2, q3, q4, q5, oI, q7, q8⟩ hv9 st9 it9
                   cases v2 with
                   | nil => cases q2
                   | cons v2 r2 =>
                   obtain ⟨rfl, rfl⟩ := List.cons.inj q2
                   cases hv9
                   have nlI : nl ≠ I := fun z => by rw [← z, q4] at q7; cases q7; cases q8
                   have q4' := st9 _ _ q4 nlI
                   have q5' : Stp (fun b => b = nl) τ7 τ10 := fun b o e k => st9 b o (q5 b o e k) fun z => by (first | rw [z, frI7] at e | rw [← z, frI7] at e); cases e
                   have w3 := q3.list
                   have hv1 : v1.length ≤ 4 := by
                     have := congrArg List.length q1
                     simp at this; omega
                   obtain ⟨o9, i1, i2, i3, i4⟩ := it9.at
                   exact by
                    repeat' tb_rel
                    rename_i σa sta hsa
                    refine ⟨⟨v1 ++ [v9], r2, by rw [q1]; simp, rfl, q3.put (by decide), by rw [← List.append_assoc]; exact hsa, q5'.trans sta, o9, sta _ _ i1 (.inl i2), i3⟩, it9.stp sta⟩
                 · rintro m9 τ9 τ10 ⟨v1, v2, q1, q2, q3, q4, q5, oI, q7, q8⟩ st9
                   cases v2 with
                   | cons _ _ => cases q2
                   | nil =>
                   rw [List.append_nil] at q1
                   subst q1
                   have nlI : nl ≠ I := fun z => by rw [← z, q4] at q7; cases q7; cases q8
                   have q4' := st9 _ _ q4 nlI
                   have q5' : Stp (fun b => b = nl) τ7 τ10 := fun b o e k => st9 b o (q5 b o e k) fun z => by (first | rw [z, frI7] at e | rw [← z, frI7] at e); cases e
                   obtain ⟨ha1, ha2⟩ := List.nodup_cons.mp nd5
                   have S7 : Stp (fun b => b = a ∨ b = nl) τ τ10 := ((st6.no).trans (st7.weak fun x hx => .inl hx)).trans (q5'.weak fun x hx => .inr hx)
                   have S0 : Stp (fun b => b ∈ a :: f ∨ b = nl) σ τ10 := st5.trans (S7.weak fun x hx => hx.imp (fun z => by rw [z]; exact .head _) id)
                   have a10 := q5' _ _ a7 (.inr hanl)
                   have c10 := q5' _ _ c7 (.inl rfl)
                   have t10 : TrAll τ10 (cnfs V (parOf V root par l ks) ks) vs9 f9 := t5.stp S7 fun x hx z => z.elim (fun z => ha1 (z ▸ hx)) fun z => by
                     obtain ⟨_, _, e⟩ := t5.there x hx
                     rw [z, nl5] at e; cases e
                   refine x_nil ?_
                   refine x_nil ?_
                   refine x_nil ?_
                   show WC _ _ _ _ _ _ _
                   refine ukids_of (ih n rfl) ks hks (D := []) (vD := []) (fD := []) (par_ok hl1 hpar) (par_len S hp8) q3 (S0 _ _ hcc (.inl rfl)) q4' (by omega) t10 ⟨rfl, rfl⟩ (by rw [List.append_nil]; exact ha2) fun m' σ' g' r1 r2 r3 r4 r5 r6 => ?_
                   rw [List.append_nil] at r6
                   rw [List.append_nil, List.append_nil] at r4
                   have af : ¬ (a ∈ f9 ∨ a = nl) := fun z => z.elim ha1 hanl
                   refine hc m' σ' (a :: g') r1 (S0.trans (r2.weak fun x hx => hx.imp (fun h => .tail _ (sub5 x h)) id)) r3 ⟨a, c9, vs9, g', rfl, rfl, r2 _ _ a10 (.inr af), r2 _ _ c10 (.inl rfl), r4⟩ (List.nodup_cons.mpr ⟨fun h => ?_, r5⟩) fun x hx => ?_
                   · rcases r6 a h with z | z
                     · exact ha1 z
                     · rw [a10] at z; cases z
                   · rcases List.mem_cons.mp hx with rfl | hx
                     · exact .inl (.head _)
                     · rcases r6 x hx with z | z
                       · exact .inl (.tail _ (sub5 x z))
                       · cases q : σ x with
                         | none => exact .inr rfl
                         | some o =>
                           refine .inl ?_
                           by_cases hxf : x ∈ a :: f
                           · exact hxf
                           · by_cases hxn : x = nl
                             · subst hxn; rw [q4'] at z; cases z
                             · have := S0 x o q (.inr fun y => y.elim hxf hxn)
                               rw [z] at this; cases this
                 · exact fun v => by rfl
                 · exact ⟨[], vs9, rfl, rfl, ((f5.put (by decide)).put (by decide)), by rw [List.append_nil]; exact nl8, st78, (let ⟨o, a1, a2, a3, a4⟩ := it1.at; ⟨o, a1, a3⟩)⟩
     induction n with
     | zero => exact step 0 nofun
     | succ n ih => exact step _ fun n' e => by cases e; exact ih
   have stT : Stp No σ σ1 := by top_name
   have htT : TrAt σ1 (cnf V true [l] (.n l ks)) (.ref r) fs := ht.no stT
   have hl1 : Ok1 cs cm l := by cases hcl; assumption
   refine key _ 4 (st := []) (par := [l]) (root := true) hcl (fun x hx => by cases List.mem_singleton.mp hx; exact hl1) (by simp) ⟨by kbo_bools, by kbo_bools, ⟨_, by kbo_bools⟩, ⟨_, by kbo_bools⟩⟩ c1' hnl (by simp) htT hnd fun m' σ' fs' w1 w2 w3 w4 w5 w6 => ?_
   have w7 := w1.list
   rw [← hcode]
   refine c_while ?_
   rw [hcode]
   exact by
    repeat' tb_rel
    rw [if_neg (by simp)]
    exact by
     repeat' tb_rel
     refine ⟨fun b => b ∈ fs, fun b o e c => w2 b o (st1 b o e (.inr id)) ?_, fun σ₃ st₃ kp => h σ₃ fs' st₃ (w4.keep kp) w5 fun x hx => ?_⟩
     · rcases c with c | c
       · exact .inl c
       · exact .inr fun z => z.elim c fun z => by rw [z, fr1] at e; cases e
     · rcases w6 x hx with y | y
       · exact .inl y
       · cases q : σ x with
         | none => exact .inr rfl
         | some o => rw [stT _ _ q (.inr id)] at y; cases y
end

section
variable {Γ : Cx} {A : Around} {L : Addr} {m : Loc} {σ : Sto} {n : Nat}
theorem told_spec {c : Addr} {vs : List Value} {ys : List Str} {Q : Value → Loc → Sto → Prop} (hA : Ok A 2) (hc : σ c = some (.lst vs)) (hs : StrsAre vs ys) (h8 : ys.length ≤ 8) (h1 : ∀ y ∈ ys, y.length ≤ 1) (h : ∀ t σ', Stp No σ σ' → Q (.str (told ys) t) m σ') : W Γ A L (call (.ref 197) [.ref c]) Q m σ := by
  refine call_fn (n := 1) (binds := [(Str.ofString "names", .ref c)]) hA (fun P => by exact rfl) (fun P => by kernel_rfl) (fun s S => BindsTo.of_eq rfl) (locs rfl) (fun L' σ0 st0 hA' => ?_)
  generalize A.deeper _ = A' at hA' ⊢
  have hjl := join_len (Str.ofString "-") ys
  have hjs := sum_le1 h1
  rw [len_mi1] at hjl
  repeat' tb_rel
  refine join_lst (by tb_start) hs (by rw [len_mi1]; omega) ?_
  intro tj
  repeat' tb_rel
  exact ⟨No, by top_name, fun σ₃ st₃ kp => h _ σ₃ st₃⟩
end

local macro_rules | `(tactic| tb_rel) => `(tactic| first
  | ((with_reducible show W _ _ _ (call (Value.ref 197) [Value.ref _]) _ _ _); refine' told_spec ?hA ?hc ?hs ?h8 ?h1 ?_; (case hA => exact Ok.mono (by assumption) (by omega)); (case hc => tb_start); (case hs => assumption); (case h8 => omega); (case h1 => assumption); intro _ _ _)
  | ((with_reducible show W _ _ _ (compareOp CmpOp.NotEq (Value.ref _) (Value.ref _)) _ _ _); refine' ne_emptyL ?hA ?hl ?hb ?_; (case hA => assumption); (case hl => tb_start); (case hb => tb_start))
  | ((with_reducible show W _ _ _ (allTrue BoolOp.And (_ :: _) _) _ _ _); refine t_and ?_)
  | ((with_reducible show W _ _ _ (allTrue BoolOp.And [] _) _ _ _); refine t_and0 ?_)
  | ((with_reducible show W _ _ _ (allTrue BoolOp.Or (_ :: _) _) _ _ _); refine t_or ?_)
  | ((with_reducible show W _ _ _ (allTrue BoolOp.Or [] _) _ _ _); refine t_or0 ?_)
  | ((with_reducible show W _ _ _ (call (Value.builtin "max") [Value.int _ _, Value.int _ _]) _ _ _); refine' max_two ?hA ?_; (case hA => assumption); intro _)
  | ((with_reducible show W _ _ _ (assign (Expr.Tuple [_, _, _, _, _] _ _) _ (Value.ref _)) _ _ _); (refine' a_tup ?hA ?ht ?h1 ?h2 ?_); (case hA => assumption); (case ht => tb_start); (case h1 => rfl); (case h2 => rfl); (show W _ _ _ (assignInOrder [assign _ _, assign _ _, assign _ _, assign _ _, assign _ _] _) _ _ _))
  | ((with_reducible show W _ _ _ (compareOp CmpOp.NotEq (Value.str _ _) (Value.str _ _)) _ _ _); refine s_ne ?_))
section
structure WayAt (V : Way) (σ : Sto) (w : Addr) : Prop where
  ex : ∃ fac sd tf t1 t2 t3 t4, σ w = some (.tup [.str fac tf, .int sd t1, .int V.up t2, .str V.sign t3, .str V.mark t4]) ∧ (fac = Str.ofString "right" ∧ V.right = true ∨ fac = Str.ofString "left" ∧ V.right = false) ∧ 0 ≤ sd ∧ (sd = V.h ∨ (sd = 99 ∧ V.h = 999))
structure LocM (m : Loc) (vn : Value) (fac : Str) (sd : Int) (V : Way) (ps : Str) : Prop where
  new : m (Str.ofString "new") = some vn
  fac : ∃ t, m (Str.ofString "factor") = some (.str fac t)
  side : ∃ t, m (Str.ofString "side") = some (.int sd t)
  sign : ∃ t, m (Str.ofString "sign") = some (.str V.sign t)
  pars : ∃ t, m (Str.ofString "parents") = some (.str ps t)
theorem LocM.put {m : Loc} {vn v : Value} {fac ps x : Str} {sd : Int} {V : Way} (h : LocM m vn fac sd V ps) (hx : Str.ofString "new" ≠ x ∧ Str.ofString "factor" ≠ x ∧ Str.ofString "side" ≠ x ∧ Str.ofString "sign" ≠ x ∧ Str.ofString "parents" ≠ x) : LocM (m.put x v) vn fac sd V ps :=
  ⟨loc_old hx.1 h.new, h.fac.imp fun _ e => loc_old hx.2.1 e, h.side.imp fun _ e => loc_old hx.2.2.1 e, h.sign.imp fun _ e => loc_old hx.2.2.2.1 e, h.pars.imp fun _ e => loc_old hx.2.2.2.2 e⟩
def MarkedSpec (Γ : Cx) (n : Nat) : Prop := ∀ {t : T} {V : Way} {root : Bool} {par ab : List Str} {A : Around} {L : Addr} {m : Loc} {σ : Sto} {vn vo : Value} {c w : Addr} {vs : List Value} {Q : Value → Loc → Sto → Prop},
    Mk n t → V.up ≤ 8 → V.sign.length = 1 → V.mark.length = 1 → Ok A (n + 4) → DrAt σ (cnf V root par t) vn → DrAt σ t vo → σ c = some (.lst vs) → StrsAre vs ab → (∀ y ∈ ab, y.length ≤ 1) → ab.length + n ≤ 8 → Abv V root par ab t → WayAt V σ w →
    (∀ σ', Stp No σ σ' → Q (.bool true) m σ') → W Γ A L (call (.ref 202) [vn, vo, .ref c, .ref w]) Q m σ
variable {Γ : Cx} {A : Around} {L : Addr} {m : Loc} {σ : Sto}
theorem marked_step (n : Nat) (ih : ∀ n', n = n' + 1 → MarkedSpec Γ n') : MarkedSpec Γ n := by
  intro t V root par ab A L m σ vn vo c w vs Q hw hup hsg hmk hA hdn hdo hc hs h1 h8 hab hway h
  refine call_fnD (n := n + 3) (binds := [(Str.ofString "new", vn), (Str.ofString "old", vo), (Str.ofString "above", .ref c), (Str.ofString "way", .ref w)]) hA (fun P => by exact rfl) (fun P => by kernel_rfl) (fun s S => BindsTo.of_eq rfl) (by rfl) (fun L' σ0 σ1 stA st0 hA' hcell => ?_)
  generalize A.deeper _ = A' at hA' ⊢
  have c1 : σ0 (L' + 1) = some (.cel (some (.ref c))) := (hcell (Str.ofString "above") _ rfl).1
  have c2 : σ0 (L' + 2) = some (.cel (some (.ref w))) := (hcell (Str.ofString "way") _ rfl).1
  obtain ⟨c3, f3⟩ : σ0 (L' + 3) = some (.cel none) ∧ σ1 (L' + 3) = none := hcell (Str.ofString "label") _ rfl
  obtain ⟨c4, f4⟩ : σ0 (L' + 4) = some (.cel none) ∧ σ1 (L' + 4) = none := hcell (Str.ofString "parts") _ rfl
  obtain ⟨c5, f5⟩ : σ0 (L' + 5) = some (.cel none) ∧ σ1 (L' + 5) = none := hcell (Str.ofString "row") _ rfl
  clear hcell
  have hdn0 := (hdn.keep stA.frz).keep st0.frz
  have hdo0 := (hdo.keep stA.frz).keep st0.frz
  cases hw with
  | w hs1 =>
    rename_i s
    obtain ⟨t1, rfl⟩ := hdn0
    obtain ⟨t2, rfl⟩ := hdo0
    repeat' tb_rel
    refine x_if (t_bool ?_)
    repeat' tb_rel
    rw [if_pos rfl, if_pos rfl]
    repeat' tb_rel
    refine ⟨No, by top_name, fun σ₃ st₃ kp => ?_⟩
    have := h σ₃ st₃
    simpa [retv] using this
  | n hl1 hk1 hk4 hks hwd =>
    rename_i n l ks
    obtain ⟨kn, e9, hbn⟩ : ∃ kn, cnf V root par (.n l ks) = .n (l ++ psOf V root par ks) kn ∧ Bn V.right (fun ns => ang (l ++ V.sign) (shown V ns) ++ psOf V root par ks) (ks.map nm) (cnfs V (parOf V root par l ks) ks) kn := by
      rw [cnf_eq]
      exact bin_bn (by rw [cnfs_length, List.length_map])
    rw [e9] at hdn0
    obtain ⟨an, tn, bn, vn', rfl, d1, d2, d3⟩ := hdn0
    obtain ⟨ao, to, bo, vo', rfl, d4, d5, d6⟩ := hdo0
    obtain ⟨fac, sd, tf, t1, t2, t3, t4, hw9, hfac, hsd, hside⟩ := hway.ex
    have hw0 : σ0 w = _ := st0 _ _ (stA _ _ hw9 (.inr id)) (.inr id)
    have hc0 : σ0 c = _ := st0 _ _ (stA _ _ hc (.inr id)) (.inr id)
    repeat' tb_rel
    refine x_if (t_bool ?_)
    repeat' tb_rel
    rw [if_neg (by decide)]
    repeat' tb_rel
    rw [if_neg (by decide)]
    repeat' tb_rel
    rw [if_neg (by decide)]
    refine x_nil ?_
    refine x_cons ?_
    repeat' tb_rel
    refine st_cel c3 fun τ1 s1 g3 => ?_
    repeat' tb_rel
    have h34 : L' + 4 ≠ L' + 3 := cel_ne (by decide)
    refine st_cel (s1 _ _ c4 h34) fun τ2 s2 g4 => ?_
    have stE : Stp No σ1 τ2 := fun b o e k => s2 b o (s1 b o (st0 b o e k) (fun z => by rw [z, f3] at e; cases e)) fun z => by rw [z, f4] at e; cases e
    have fr : Frt σ0 τ2 := (s1.frt c3).trans (s2.frt (s1 _ _ c4 h34))
    have g1 : τ2 (L' + 1) = some (.cel (some (.ref c))) := s2 _ _ (s1 _ _ c1 (cel_ne (by decide))) (cel_ne (by decide))
    have g2 : τ2 (L' + 2) = some (.cel (some (.ref w))) := s2 _ _ (s1 _ _ c2 (cel_ne (by decide))) (cel_ne (by decide))
    have g3 : τ2 (L' + 3) = some (.cel (some (.str l to))) := s2 _ _ g3 (cel_ne (by decide))
    have g5 : τ2 (L' + 5) = some (.cel none) := s2 _ _ (s1 _ _ c5 (cel_ne (by decide))) (cel_ne (by decide))
    have hc2 := fr _ _ hc0 (by simp [AO.tag])
    have hw2 := fr _ _ hw0 (by simp [AO.tag])
    have d1 := fr _ _ d1 (by simp [AO.tag])
    have d2 := fr _ _ d2 (by simp [AO.tag])
    have d3 := d3.kt fr
    have d4 := fr _ _ d4 (by simp [AO.tag])
    have d5 := fr _ _ d5 (by simp [AO.tag])
    have d6 := d6.kt fr
    clear s1 s2 c1 c2 c3 c4 c5 hdn hdo hway hc0 hw0 fr
    have hvl := Strs.len hs
    obtain ⟨k0, ks', rfl⟩ : ∃ k0 ks', ks = k0 :: ks' := by
      cases ks with
      | nil => simp at hk1
      | cons k0 ks' => exact ⟨_, _, rfl⟩
    have d6x := d6
    obtain ⟨x0, vo', rfl, k1, k2⟩ := d6x
    have hlen : (k0 :: ks').length = (x0 :: vo').length := d6.length
    have hmk9 := abv_ps (V := V) hab
    have hps : (psOf V root par (k0 :: ks')).length ≤ 24 := by
      have e1 : (told (ab.take V.up)).length ≤ 20 := told_len (fun y hy => h1 y (List.mem_of_mem_take hy)) (by rw [List.length_take]; omega)
      rw [hmk9]
      split
      · rw [len_app, hmk]; omega
      · exact Nat.zero_le _
    generalize psOf V root par (k0 :: ks') = ps at *
    repeat' tb_rel
    refine W.mono (Q := fun fl m' τ => fl = Flow.next ∧ LocM m' (.ref an) fac sd V ps ∧ Stp No τ2 τ) ?_ ?_
    · refine x_if (t_bool ?_)
      refine W.cut (fun b τ => Stp No τ2 τ ∧ b = (V.up != 0 && !ab.isEmpty && fstT (k0 :: ks'))) ?_ ?_
      · refine t_and ?_
        exact by
         repeat' tb_rel
         by_cases hu : V.up = 0
         · rw [hu, if_neg (by decide)]
           exact ⟨rfl, by top_name, by simp⟩
         have hu' : (V.up != 0) = true := by simpa using hu
         rw [if_pos (by simp; omega)]
         refine t_and ?_
         exact by
          repeat' tb_rel
          cases hs with
          | nil =>
            rw [if_neg (by decide)]
            exact ⟨rfl, by top_name, by simp⟩
          | cons _ _ _ =>
          rw [if_pos (by rfl)]
          refine t_and ?_
          exact by
           repeat' tb_rel
           cases k0 with
           | w s0 =>
             obtain ⟨ty, rfl⟩ := k1
             exact by
              repeat' tb_rel
              rw [if_neg (by decide)]
              exact ⟨rfl, by top_name, by simp [fstT]⟩
           | n l0 q0 =>
             obtain ⟨a0, t0, c0, v0, rfl, e1, -, -⟩ := k1
             exact by
              repeat' tb_rel
              rw [if_pos (by rfl)]
              exact by
               repeat' tb_rel
               exact ⟨rfl, by top_name, by simp [fstT, hu']⟩
      · rintro b τ ⟨sB, rfl⟩
        rw [hmk9]
        cases hb : (V.up != 0 && !ab.isEmpty && fstT (k0 :: ks')) with
        | false =>
          rw [if_neg (by decide), if_neg (by decide)]
          exact by
           repeat' tb_rel
           exact ⟨rfl, ⟨by kbo_bools, ⟨_, by kbo_bools⟩, ⟨_, by kbo_bools⟩, ⟨_, by kbo_bools⟩, ⟨_, by kbo_bools⟩⟩, by top_name⟩
        | true =>
          rw [if_pos rfl, if_pos rfl]
          have hcut : StrsAre (cut vs none (some (V.up : Int))) (ab.take V.up) := by
            rw [cut_upto (by omega)]
            exact Strs.take hs _
          have h1' : ∀ y ∈ ab.take V.up, y.length ≤ 1 := fun y hy => h1 y (List.mem_of_mem_take hy)
          have h8' : (ab.take V.up).length ≤ 8 := by rw [List.length_take]; omega
          have htl := told_len h1' h8'
          exact by
           repeat' tb_rel
           exact ⟨rfl, ⟨by kbo_bools, ⟨_, by kbo_bools⟩, ⟨_, by kbo_bools⟩, ⟨_, by kbo_bools⟩, ⟨_, by kbo_bools⟩⟩, by top_name⟩
    · rintro _ m3 τ3 ⟨rfl, loc, s3⟩
      show W _ _ _ (execs _ _) _ _ _
      have w1 := loc.new
      obtain ⟨ty5, w5⟩ := loc.pars
      have d13 := s3 _ _ d1 (.inl rfl)
      have d23 := s3 _ _ d2 (.inl rfl)
      have d33 := d3.kt s3.frt
      have d53 := s3 _ _ d5 (.inl rfl)
      have d63 := d6.kt s3.frt
      have g33 := s3 _ _ g3 (.inl rfl)
      have g43 := s3 _ _ g4 (.inl rfl)
      exact by
       repeat' tb_rel
       rw [if_neg (by simp)]
       refine x_nil ?_
       show W _ _ _ (execs _ _) _ _ _
       refine x_cons (x_asgC hA' (by with_unfolding_all rfl) (by rfl) (by rfl) (by rfl) (by decide) (by decide) (by rfl) (by rfl) (by rfl) ?_)
       exact by
        repeat' tb_rel
        refine it_lst d53 fun I τ4 s4 fr4 it4 => ?_
        refine ⟨I, _, rfl, by rw [List.length_map]; omega, fr4, s4, it4, ⟨⟨No, fun ps ys τ => ∃ q1 q2 v2, k0 :: ks' = q1 ++ q2 ∧ ps = v2.map (fun v => (· = v)) ∧ DrAll τ q2 v2 ∧ StrsAre ys (q1.map nm), ?_, ?_, ?_⟩⟩⟩
        · exact ⟨[], _, _, rfl, rfl, d63.kt s4.frt, .nil⟩
        · rintro p9 r9 ys C mm v σ8 σ9 ⟨q1, q2, v2, y1, y2, y3, y4⟩ hpv kp st9 hmm
          cases v2 with
          | nil => cases y2
          | cons v2 r2 =>
          obtain ⟨rfl, rfl⟩ := List.cons.inj y2
          cases hpv
          cases q2 with
          | nil => cases y3
          | cons k q2 =>
          obtain ⟨_, _, ee, z1, z2⟩ := y3
          cases ee
          have z1 := z1.keep kp.frz
          have z2 := z2.keep kp.frz
          refine e_if ?_
          cases k with
          | w s9 =>
            obtain ⟨t9, rfl⟩ := z1
            exact by
             repeat' tb_rel
             rw [if_pos rfl]
             exact by
              repeat' tb_rel
              exact ⟨by top_name, q1 ++ [.w s9], q2, r2, by rw [y1]; simp, rfl, z2, by rw [List.map_append]; exact Strs.app y4 (.cons _ _ .nil)⟩
          | n l9 q9 =>
            obtain ⟨a9, t9, c9, v9, rfl, e1, -, -⟩ := z1
            exact by
             repeat' tb_rel
             rw [if_neg (by decide)]
             exact by
              repeat' tb_rel
              exact ⟨by top_name, q1 ++ [.n l9 q9], q2, r2, by rw [y1]; simp, rfl, z2, by rw [List.map_append]; exact Strs.app y4 (.cons _ _ .nil)⟩
        · rintro ys σ8 cn τ5 ⟨q1, q2, v2, y1, y2, y3, y4⟩ s5 kp5 hcn
          cases v2 with
          | cons _ _ => cases y2
          | nil =>
          cases q2 with
          | cons _ _ => obtain ⟨_, _, ee, _⟩ := y3; cases ee
          | nil =>
          rw [List.append_nil] at y1
          rw [← y1] at y4
          clear y2 y3 kp5 it4 y1
          have s35 : Stp No τ3 τ5 := by top_name
          have yl := Strs.len y4
          rw [List.length_map] at yl
          have hn5 : (ys.length : Int) = (k0 :: ks').length := by omega
          show W _ _ _ (execs _ _) _ _ _
          have w1 := loc.new
          exact by
           repeat' tb_rel
           generalize hcode : Code.whileLoop _ _ _ _ = code
           rename_i la σl sl frl hla ra σr sr frr hra t9
           have loop : ∀ {ns : List Str} {us kn : List T}, Bn V.right (fun ns => ang (l ++ V.sign) (shown V ns) ++ ps) ns us kn → ∀ {QQ : Flow → Loc → Sto → Prop} (nv lv rv hv : List Value) (na la ra ha : Addr) (m : Loc) (τ : Sto), LocM m (.ref an) fac sd V ps → m (Str.ofString "names") = some (.ref na) → m (Str.ofString "left") = some (.ref la) → m (Str.ofString "right") = some (.ref ra) → m (Str.ofString "held") = some (.ref ha) → τ na = some (.lst nv) → StrsAre nv ns → τ la = some (.lst lv) → τ ra = some (.lst rv) → τ ha = some (.lst hv) → DrAll τ kn hv → (∀ y ∈ ns, y.length ≤ 1) → ns.length ≤ 4 → lv.length + rv.length + ns.length ≤ 8 → τ (L' + 3) = some (.cel (some (.str l to))) →
               (∀ m' τ' la' ra' ha' lv' rv' hv' uv, m' (Str.ofString "left") = some (.ref la') → m' (Str.ofString "right") = some (.ref ra') → m' (Str.ofString "held") = some (.ref ha') → Stp No τ τ' → τ' la' = some (.lst lv') → τ' ra' = some (.lst rv') → τ' ha' = some (.lst hv') → lv' ++ hv' ++ rv' = lv ++ uv ++ rv → DrAll τ' us uv → QQ .next m' τ') → WC Γ A' L' code QQ m τ := by
             -- <<A
             intro ns us kn hb
             induction hb with
             | small hn hnu =>
               intro QQ nv lv rv hv na la ra ha m τ loc p1 p2 p3 p4 u1 u2 u3 u4 u5 u6 u7 u8 u9 u10 hq
               have hln := Strs.len u2
               rw [← hcode]
               refine c_while ?_
               rw [hcode]
               exact by
                repeat' tb_rel
                rw [if_neg (by simp; omega)]
                refine x_nil ?_
                exact hq m τ la ra ha lv rv hv hv p2 p3 p4 Stp.refl u3 u4 u5 rfl u6
             | rt hR hn2 hb2 ihb =>
               rename_i n0 ns u us ks9
               intro QQ nv lv rv hv na la ra ha m τ loc p1 p2 p3 p4 u1 u2 u3 u4 u5 u6 u7 u8 u9 u10 hq
               have hln := Strs.len u2
               obtain ⟨v0, _, rfl, z0, v1, _, rfl, z1, rfl⟩ := u6
               obtain ⟨a9, t9, c9, v9, rfl, y1, y2, y3⟩ := z1
               simp only [List.length_cons] at u8 u9 hln
               obtain rfl : fac = Str.ofString "right" := by
                 rcases hfac with ⟨e, _⟩ | ⟨_, e⟩
                 · exact e
                 · rw [hR] at e; cases e
               have hnv : StrsAre (cut nv (some 1) none) ns := by
                 rw [cut_from (by decide)]
                 exact Strs.drop u2 1
               have hsh : StrsAre (cut (cut nv (some 1) none) none (some sd)) (shown V ns) := by
                 rw [cut_upto hsd]
                 unfold shown
                 rw [hR, if_pos rfl]
                 have := Strs.take hnv sd.toNat
                 rcases hside with e | ⟨e, e'⟩
                 · rw [e] at this ⊢; exact this
                 · rw [List.take_of_length_le (by omega : ns.length ≤ sd.toNat)] at this
                   rw [List.take_of_length_le (by omega : ns.length ≤ V.h)]
                   exact this
               have hs8 : (shown V ns).length ≤ 8 := by
                 unfold shown
                 rw [hR, if_pos rfl, List.length_take]; omega
               have hs1 : ∀ y ∈ shown V ns, y.length ≤ 1 := fun y hy => by
                 unfold shown at hy
                 rw [hR, if_pos rfl] at hy
                 exact u7 y (.tail _ (List.mem_of_mem_take hy))
               have htl := told_len hs1 hs8
               have hlc : (cut nv (some 1) none).length ≤ 8 := by
                 have := Strs.len hnv
                 omega
               simp only [ang_told] at y1
               have w1 := loc.new
               obtain ⟨_, w2⟩ := loc.fac
               obtain ⟨_, w3⟩ := loc.side
               obtain ⟨_, w4⟩ := loc.sign
               obtain ⟨_, w5⟩ := loc.pars
               rw [← hcode]
               refine c_while ?_
               rw [hcode]
               exact by
                repeat' tb_rel
                rw [if_pos (by simp; omega)]
                exact by
                 repeat' tb_rel
                 refine len_lst (Or.inl u5) (by simp only [List.length_cons, List.length_nil]; omega) fun tz => ?_
                 exact by
                  repeat' tb_rel
                  rw [if_neg (by simp)]
                  exact by
                   repeat' tb_rel
                   rw [if_pos (by decide)]
                   exact by
                    repeat' tb_rel
                    rename_i lf1 σf sf frf hlf tq1 tq2 sl1 σs1 ss1 frs1 hs1' nm1 σn sn frn hnm sl2 σs2 ss2 frs2 hs2' sh σh sh1 frh hsh1
                    refine x_if (t_bool ?_)
                    exact by
                     repeat' tb_rel
                     rw [if_neg (by decide)]
                     exact by
                      repeat' tb_rel
                      rw [if_neg (by simp)]
                      exact by
                       repeat' tb_rel
                       rw [if_neg (by decide)]
                       exact by
                        repeat' tb_rel
                        refine ihb (cut nv (some 1) none) (lv ++ [v0]) rv v9 nm1 lf1 ra c9 _ _ (((((loc.put (by decide)).put (by decide)).put (by decide)).put (by decide)).put (by decide)) (by kbo_bools) (by kbo_bools) (by kbo_bools) (by kbo_bools) (by tb_start) hnv (by tb_start) (by tb_start) (by tb_start) (y3.kt (Stp.frt (X := No) (by top_name))) (fun y hy => u7 y (.tail _ hy)) (by omega) (by simp; omega) (by tb_start) fun m' τ' la' ra' ha' lv' rv' hv' uv q1 q2 q3 q4 q5 q6 q7 q8 q9 => ?_
                        have q10 : Stp No τ τ' := by top_name
                        exact hq m' τ' la' ra' ha' lv' rv' hv' (v0 :: uv) q1 q2 q3 q10 q5 q6 q7 (by rw [q8]; simp) ⟨v0, uv, rfl, z0.kt q10.frt, q9⟩
             | lf hR hn2 hb2 ihb =>
               rename_i n0 ns u us ks9
               intro QQ nv lv rv hv na la ra ha m τ loc p1 p2 p3 p4 u1 u2 u3 u4 u5 u6 u7 u8 u9 u10 hq
               have hln := Strs.len u2
               obtain ⟨_, _, rfl, z1, v0, _, rfl, z0, rfl⟩ := u6
               obtain ⟨a9, t9, c9, v9, rfl, y1, y2, y3⟩ := z1
               simp only [List.length_append, List.length_cons, List.length_nil] at u8 u9 hln
               obtain rfl : fac = Str.ofString "left" := by
                 rcases hfac with ⟨_, e⟩ | ⟨e, _⟩
                 · rw [hR] at e; cases e
                 · exact e
               have hnv : StrsAre (cut nv none (some (-1))) ns := by
                 rw [cut_last (by omega)]
                 have := Strs.take u2 (nv.length - 1)
                 rw [List.take_append_of_le_length (show nv.length - 1 ≤ ns.length by omega), List.take_of_length_le (show ns.length ≤ nv.length - 1 by omega)] at this
                 exact this
               have hlc := Strs.len hnv
               have hsh : StrsAre (cut (cut nv none (some (-1))) (some (max 0 (((cut nv none (some (-1))).length : Int) - sd))) none) (shown V ns) := by
                 rw [cut_from (by omega)]
                 unfold shown
                 rw [hR, if_neg (by decide)]
                 have := Strs.drop hnv (max 0 (((cut nv none (some (-1))).length : Int) - sd)).toNat
                 have e : (max 0 (((cut nv none (some (-1))).length : Int) - sd)).toNat = ns.length - V.h := by omega
                 rw [e] at this ⊢
                 exact this
               have hs8 : (shown V ns).length ≤ 8 := by
                 unfold shown
                 rw [hR, if_neg (by decide), List.length_drop]; omega
               have hs1 : ∀ y ∈ shown V ns, y.length ≤ 1 := fun y hy => by
                 unfold shown at hy
                 rw [hR, if_neg (by decide)] at hy
                 exact u7 y (List.mem_append_left _ (List.mem_of_mem_drop hy))
               have htl := told_len hs1 hs8
               simp only [ang_told] at y1
               have w1 := loc.new
               obtain ⟨_, w2⟩ := loc.fac
               obtain ⟨_, w3⟩ := loc.side
               obtain ⟨_, w4⟩ := loc.sign
               obtain ⟨_, w5⟩ := loc.pars
               rw [← hcode]
               refine c_while ?_
               rw [hcode]
               exact by
                repeat' tb_rel
                rw [if_pos (by simp; omega)]
                exact by
                 repeat' tb_rel
                 refine len_lst (Or.inl u5) (by simp only [List.length_cons, List.length_nil]; omega) fun tz => ?_
                 exact by
                  repeat' tb_rel
                  rw [if_neg (by simp)]
                  exact by
                   repeat' tb_rel
                   rw [if_neg (by decide)]
                   exact by
                    repeat' tb_rel
                    rename_i lf1 σf sf frf hlf tq0 tq1 tq2 sl1 σs1 ss1 frs1 hs1' nm1 σn sn frn hnm tq3 tq4 tq5 tq6 sl2 σs2 ss2 frs2 hs2' sh σh sh1 frh hsh1
                    refine x_if (t_bool ?_)
                    exact by
                     repeat' tb_rel
                     rw [if_neg (by decide)]
                     exact by
                      repeat' tb_rel
                      rw [if_neg (by simp)]
                      exact by
                       repeat' tb_rel
                       rw [if_neg (by decide)]
                       exact by
                        repeat' tb_rel
                        refine ihb (cut nv none (some (-1))) lv ([v0] ++ rv) v9 nm1 la lf1 c9 _ _ (((((loc.put (by decide)).put (by decide)).put (by decide)).put (by decide)).put (by decide)) (by kbo_bools) (by kbo_bools) (by kbo_bools) (by kbo_bools) (by tb_start) hnv (by tb_start) (by tb_start) (by tb_start) (y3.kt (Stp.frt (X := No) (by top_name))) (fun y hy => u7 y (List.mem_append_left _ hy)) (by omega) (by simp; omega) (by tb_start) fun m' τ' la' ra' ha' lv' rv' hv' uv q1 q2 q3 q4 q5 q6 q7 q8 q9 => ?_
                        have q10 : Stp No τ τ' := by top_name
                        exact hq m' τ' la' ra' ha' lv' rv' hv' (uv ++ [v0]) q1 q2 q3 q10 q5 q6 q7 (by rw [q8]; simp) (DrAll.snoc (z0.kt q10.frt) q9)
             -- A>>
           have g5r : σr (L' + 5) = some (.cel none) := by tb_start
           have g1r : σr (L' + 1) = some (.cel (some (.ref c))) := by tb_start
           have g2r : σr (L' + 2) = some (.cel (some (.ref w))) := by tb_start
           have g4r : σr (L' + 4) = some (.cel (some (.ref bo))) := by tb_start
           have hcr : σr c = some (.lst vs) := by tb_start
           have hwr : σr w = some (.tup [.str fac tf, .int sd t1, .int V.up t2, .str V.sign t3, .str V.mark t4]) := by tb_start
           have hbr : σr bo = some (.lst (x0 :: vo')) := by tb_start
           have hcnr : σr cn = some (.lst ys) := by tb_start
           have hlar : σr la = some (.lst []) := by tb_start
           have hbnr : σr bn = some (.lst vn') := by tb_start
           have g3r : σr (L' + 3) = some (.cel (some (.str l to))) := by tb_start
           have stR : Stp No τ3 σr := by top_name
           have st1r : Stp No σ1 σr := (stE.trans s3).trans stR
           have d6r := d63.kt stR.frt
           have d3r := d33.kt stR.frt
           refine loop hbn ys [] [] vn' cn la ra bn _ σr ((((loc.put (by decide)).put (by decide)).put (by decide)).put (by decide)) (by kbo_bools) (by kbo_bools) (by kbo_bools) (by kbo_bools) hcnr y4 hlar hra hbnr d3r (fun y hy => by
             obtain ⟨k, hk, rfl⟩ := List.mem_map.mp hy
             exact (hks k hk).nm) (by rw [List.length_map]; exact hk4) (by rw [List.length_map]; simp only [List.length_nil]; omega) g3r fun m6 τ6 la' ra' ha' lv' rv' hv' uv q1 q2 q3 q4 q5 q6 q7 q8 q9 => ?_
           have q8 : lv' ++ hv' ++ rv' = uv := by rw [q8]; simp
           clear loop hcode
           have hul : uv.length = (k0 :: ks').length := by
             have := q9.length
             rw [cnfs_length] at this
             exact this.symm
           have hl8 : lv'.length + hv'.length + rv'.length = uv.length := by
             have := congrArg List.length q8
             simp only [List.length_append] at this
             exact this
           show W _ _ _ (execs _ _) _ _ _
           have g56 := q4 _ _ g5r (.inl rfl)
           have g16 := q4 _ _ g1r (.inl rfl)
           have g26 := q4 _ _ g2r (.inl rfl)
           have g36 := q4 _ _ g3r (.inl rfl)
           have g46 := q4 _ _ g4r (.inl rfl)
           have hc6 := q4 _ _ hcr (.inl rfl)
           have hw6 := q4 _ _ hwr (.inl rfl)
           have hb6 := q4 _ _ hbr (.inl rfl)
           have d66 := d6r.kt q4.frt
           have st16 := st1r.trans q4
           refine x_cons ?_
           exact by
            repeat' tb_rel
            rename_i l7 σ7 s7 fr7 hl7 l8 σ8 s8 fr8 hl8'
            have s68 : Stp No τ6 σ8 := s7.trans s8
            have g58 := s68 _ _ g56 (.inr id)
            refine st_cel g58 fun σR sR g5R => ?_
            have frR : Frt τ6 σR := s68.frt.trans (sR.frt g58)
            have g1R := sR _ _ (s68 _ _ g16 (.inr id)) (cel_ne (by decide))
            have g2R := sR _ _ (s68 _ _ g26 (.inr id)) (cel_ne (by decide))
            have g3R := sR _ _ (s68 _ _ g36 (.inr id)) (cel_ne (by decide))
            have g4R := sR _ _ (s68 _ _ g46 (.inr id)) (cel_ne (by decide))
            have hcR := frR _ _ hc6 (by simp [AO.tag])
            have hwR := frR _ _ hw6 (by simp [AO.tag])
            have hbR := frR _ _ hb6 (by simp [AO.tag])
            have dkR := d66.kt frR
            have duR := q9.kt frR
            have hlR : σR l8 = some (.lst uv) := by
              rw [← q8]
              exact sR.frt g58 _ _ hl8' (by simp [AO.tag])
            have stR : Stp No σ1 σR := sR.step (st16.trans s68) f5
            clear q4 sR s7 s8 frR st16 s68 g58 g56 g16 g26 g36 g46 hc6 hw6 hb6 d66 g5r g1r g2r g3r g4r hcr hwr hbr d6r d3r q5 q6 q7 hl7 hl8' sr sl s35 s5 s4 s3 stE g1 g2 g3 g4 g5
            show W _ _ _ (execs _ _) _ _ _
            have hkl : (x0 :: vo').length = (k0 :: ks').length := hlen.symm
            refine x_cons ?_
            exact by
             repeat' tb_rel
             rw [if_neg (by rw [hul, hkl]; simp)]
             refine x_nil ?_
             show W _ _ _ (execs _ _) _ _ _
             refine x_cons ?_
             exact by
              repeat' tb_rel
              refine e_comp hA' (by rfl) (by rfl) (by rfl) (by decide) (by decide) ?_
              exact by
               repeat' tb_rel
               refine range_one ?_
               intro rr σ10 ta tb tc st10 fr10 hr10
               refine it_rng (j := (k0 :: ks').length) hr10 (by omega) (by omega) (by omega) ?_
               intro I σ11 st11 fr11 it11
               refine ⟨I, _, rfl, by rw [rangeItems_length]; omega, fr11, st11, it11, ⟨⟨No, fun ps ys τ => Frz σR τ ∧ (∀ y ∈ ys, y = Value.bool true) ∧ ∃ i j, ps = rangeItems (i : Nat) j ∧ i + j = (k0 :: ks').length, ?_, ?_, ?_⟩⟩⟩
               · have stq : Stp No σR σ11 := by top_name
                 exact ⟨stq.frz, nofun, 0, _, rfl, by omega⟩
               · rintro p r ys9 C mm v σ12 σ13 ⟨i1, i2, i, j, i5, i6⟩ hpv kp st13 hmm
                 cases j with
                 | zero => cases i5
                 | succ j =>
                   obtain ⟨rfl, rfl⟩ := List.cons.inj i5
                   obtain ⟨tv, rfl⟩ := hpv
                   have fz : Frz σR σ13 := fun b o e f k => kp b o (i1 b o e f k) k
                   have g1 := fz _ _ g1R rfl rfl
                   have g2 := fz _ _ g2R rfl rfl
                   have g3 := fz _ _ g3R rfl rfl
                   have g4 := fz _ _ g4R rfl rfl
                   have g5 := fz _ _ g5R rfl rfl
                   have hc3 := fz _ _ hcR rfl rfl
                   have hw3 := fz _ _ hwR rfl rfl
                   have hb3 := fz _ _ hbR rfl rfl
                   have hl3 := fz _ _ hlR rfl rfl
                   obtain ⟨k, hk⟩ : ∃ k, (k0 :: ks')[i]? = some k := ⟨_, List.getElem?_eq_getElem (by omega)⟩
                   obtain ⟨vk, hvk, hdk⟩ := dkR.get hk
                   obtain ⟨vu, hvu, hdu⟩ := duR.get (cnfs_get V _ hk)
                   have hkm := List.mem_of_getElem? hk
                   have hvk' : (x0 :: vo')[((i : Nat) : Int).toNat]? = some vk := by simpa using hvk
                   have hvu' : uv[((i : Nat) : Int).toNat]? = some vu := by simpa using hvu
                   exact by
                    repeat' tb_rel
                    rename_i l1 σa sa fra hla1 ab1 σb sb frb hab1
                    have sab : Stp No σ13 σb := sa.trans sb
                    have fzb : Frz σR σb := fun b o e f k => sab b o (fz b o e f k) (.inr id)
                    refine ih n rfl (hks k hkm) hup hsg hmk (Ok.mono hA' (by first | decide | omega)) (hdu.keep fzb) (hdk.keep fzb) hab1 (.cons _ _ hs) (fun y hy => ?_) (by simp; omega) (abv_kid hab hwd k hkm) ⟨fac, sd, tf, t1, t2, t3, t4, fzb _ _ hwR rfl rfl, hfac, hsd, hside⟩ fun σc stc => ?_
                    · rcases List.mem_cons.mp hy with rfl | hy
                      · exact hl1
                      · exact h1 y hy
                    · refine ⟨sab.trans stc, fun b o e f k => stc b o (fzb b o e f k) (.inr id), fun y hy => ?_, i + 1, j, rfl, by omega⟩
                      rcases List.mem_append.mp hy with hy | hy
                      · exact i2 y hy
                      · exact List.mem_singleton.mp hy
               · rintro ys9 σ14 q σ15 ⟨i1, i2, i, j, i5, i6⟩ st15 kp15 hq
                 exact by
                  repeat' tb_rel
                  refine all_true hA' hq i2 ?_
                  exact by
                   repeat' tb_rel
                   refine ⟨No, by top_name, fun σ₃ st₃ kp => h σ₃ st₃⟩
theorem marked_spec (n : Nat) : MarkedSpec Γ n := by
  induction n with
  | zero => exact marked_step 0 nofun
  | succ n ih => exact marked_step _ fun d' e => by cases e; exact ih
end

local macro_rules | `(tactic| tb_rel) => `(tactic| first
  | ((with_reducible show W _ _ _ (newList [Value.ref _, Value.int _ _, Value.int _ _]) _ _ _); refine newM ?_; intro _ _ _ _ _)
  | ((with_reducible show W _ _ _ (newList [Value.ref _, Value.ref _]) _ _ _); refine newL ?_; intro _ _ _ _ _))
section
theorem way_tab {σ : Sto} {v : Int} {a b : Addr} {t1 t2 t3 t4 : Tok} (h0 : 0 ≤ v) (h1 : v < 2) (ha : σ a = some (.tup [.str (Str.ofString "|") t1, .str (Str.ofString "^") t2])) (hb : σ b = some (.tup [.str (Str.ofString "=") t3, .str (Str.ofString "@") t4])) :
    ∃ x, [Value.ref a, Value.ref b][v.toNat]? = some x ∧ ∃ p sg mk t t', x = .ref p ∧ σ p = some (.tup [.str sg t, .str mk t']) ∧ ((sg = Str.ofString "|" ∧ mk = Str.ofString "^") ∨ (sg = Str.ofString "=" ∧ mk = Str.ofString "@")) := by
  rcases (show v = 0 ∨ v = 1 by omega) with rfl | rfl
  · exact ⟨_, rfl, _, _, _, _, _, rfl, ha, .inl ⟨rfl, rfl⟩⟩
  · exact ⟨_, rfl, _, _, _, _, _, rfl, hb, .inr ⟨rfl, rfl⟩⟩
theorem side_tab {v : Int} {a b c d e : Tok} (h0 : 0 ≤ v) (h1 : v < 5) : ∃ x, [Value.int 99 a, .int 1 b, .int 0 c, .int 2 d, .int 3 e][v.toNat]? = some x ∧ ∃ (sd : Nat) (t : Tok), x = .int (sd : Int) t ∧ sd ≤ 99 := by
  rcases (show v = 0 ∨ v = 1 ∨ v = 2 ∨ v = 3 ∨ v = 4 by omega) with rfl | rfl | rfl | rfl | rfl
  · exact ⟨_, rfl, 99, _, rfl, by decide⟩
  · exact ⟨_, rfl, 1, _, rfl, by decide⟩
  · exact ⟨_, rfl, 0, _, rfl, by decide⟩
  · exact ⟨_, rfl, 2, _, rfl, by decide⟩
  · exact ⟨_, rfl, 3, _, rfl, by decide⟩
theorem sgn_tab {sg mk : Str} {b : Bool} {h up : Nat} (hu : up ≤ 8) (hs : (sg = Str.ofString "|" ∧ mk = Str.ofString "^") ∨ (sg = Str.ofString "=" ∧ mk = Str.ofString "@")) : ∃ cs cm, Sgn ⟨b, h, up, sg, mk⟩ cs cm := by
  have e1 : Str.ofString "|" = one 124 := by decide +kernel
  have e2 : Str.ofString "^" = one 94 := by decide +kernel
  have e3 : Str.ofString "=" = one 61 := by decide +kernel
  have e4 : Str.ofString "@" = one 64 := by decide +kernel
  rcases hs with ⟨rfl, rfl⟩ | ⟨rfl, rfl⟩
  · exact ⟨124, 94, e1, e2, by decide, .inl rfl, .inl rfl, hu⟩
  · exact ⟨61, 64, e3, e4, by decide, .inr rfl, .inr rfl, hu⟩
variable {Γ : Cx} {A : Around} {L : Addr} {m : Loc} {σ : Sto}
theorem i_pick {P : Value → Prop} {value slice : Expr} {l : Addr} {vs : List Value} {k : Int} {t : Tok} {Q : Value → Loc → Sto → Prop} (hl : σ l = some (.lst vs)) (h0 : 0 ≤ k) (hk : k < 2 ^ 63) (hx : ∃ x, vs[k.toNat]? = some x ∧ P x) (h : ∀ x, P x → Q x m σ)
    (hs : subscripted slice false (.ref l) (.int k t) = operate [.ref l, .int k t] (getItem (.ref l) (.int k t)) := by with_unfolding_all rfl) : W Γ A L (subscriptTail value slice (.ref l) (.int k t)) Q m σ := by
  obtain ⟨x, e, p⟩ := hx
  exact i_lst (.inl hl) h0 hk e (h x p) hs
theorem pick_none {sd : Nat} {t : Tok} {env : Env} {k : Nat} {p1 p2 : Pos} {x : Str} {Q : Value → Loc → Sto → Prop} (hv : m x = some (.int (sd : Int) t)) (h : Q (if sd = 99 then .none else .int (sd : Int) t) m σ) (hL : env.locals = L := by rfl) (hk : env.scope.kind = .function := by rfl) (hl : env.kindOf x = some .local := by rfl) (hd : (x == ("__debug__" : Str)) = false := by decide) :
    (if ((sd : Int) == 99) = true then W Γ A L (eval (.Constant .none k p1) env) Q m σ else W Γ A L (eval (.Name x p2) env) Q m σ) := by
  by_cases h9 : sd = 99
  · rw [if_pos (by simp [h9])]
    rw [if_pos h9] at h
    exact e_none h
  · rw [if_neg (by simp; omega)]
    rw [if_neg h9] at h
    exact n_loc hv h hL hk hl hd
structure LawM (m : Loc) (dv : Value) (sd up : Nat) (sg mk : Str) : Prop where
  drawn : m (Str.ofString "drawn") = some dv
  side : ∃ t, m (Str.ofString "side") = some (.int (sd : Int) t)
  up : ∃ t, m (Str.ofString "up") = some (.int (up : Int) t)
  sign : ∃ t, m (Str.ofString "sign") = some (.str sg t)
  mark : ∃ t, m (Str.ofString "mark") = some (.str mk t)
theorem LawM.put {m : Loc} {dv v : Value} {sd up : Nat} {sg mk x : Str} (h : LawM m dv sd up sg mk) (hx : Str.ofString "drawn" ≠ x ∧ Str.ofString "side" ≠ x ∧ Str.ofString "up" ≠ x ∧ Str.ofString "sign" ≠ x ∧ Str.ofString "mark" ≠ x) : LawM (m.put x v) dv sd up sg mk :=
  ⟨loc_old hx.1 h.drawn, h.side.imp fun _ e => loc_old hx.2.1 e, h.up.imp fun _ e => loc_old hx.2.2.1 e, h.sign.imp fun _ e => loc_old hx.2.2.2.1 e, h.mark.imp fun _ e => loc_old hx.2.2.2.2 e⟩
theorem law_spec {s : Shared} {sc : Addr} {vs : List Value} {R : Except Value Flow → Shared → Prop} (hA : Ok A 80) (G : Gd Γ) (keep : ∀ b o, Γ.h0.get? b = some o → s.heap.get? b = some o) (hsz : Γ.h0.objs.size ≤ s.heap.objs.size) (tabs : Tabs s.heap) (bare : AllBare s.gens) (os : s.os = Γ.os0) (gen : Γ.gs0 = #[])
    (hsc : Γ.h0.IsList sc vs.toArray) (hi : Ints vs) (hz : vs.length ≤ 1000) (hR : ∀ L' m' σ' s', St Γ L' m' σ' s' → R (.ok (.ret (.bool true))) s') : codeAny (MM Γ.w) A (.call (.ref 209) ⟨[.ref sc], []⟩) R s := by
  refine top_fn (n := 79) (binds := [(Str.ofString "script", .ref sc)]) hA G keep hsz tabs bare os gen (fun P => by exact rfl) (fun P => by kernel_rfl) (BindsTo.of_eq rfl) (locs rfl) hR (fun L' hA' => ?_)
  generalize A.deeper _ = A' at hA' ⊢
  generalize noSto = σ0
  have hcut : Ints (cut vs none (some 50)) := by
    rw [cut_upto (by decide)]
    exact fun v hv => hi v (List.mem_of_mem_take hv)
  have hcl : (cut vs none (some 50)).length ≤ 63 := by
    rw [cut_upto (by decide), List.length_take]
    have : (50 : Int).toNat = 50 := rfl
    omega
  repeat' tb_rel
  refine sub_slice0 hsc (by tb_start) .none (.int _ _) (by rw [sl24]; omega) ?_
  intro _ _ _ _ _
  repeat' tb_rel
  rename_i a9 σ9 st9 fr9 h9 cs σ1 s1 fr1 hs1 t0 t7 hnd σ2 s2 fr2 hh2 t3
  have hc2 : σ2 cs = some (.lst (cut vs none (some 50))) := s2 _ _ hs1 (.inr id)
  generalize cut vs none (some 50) = ws at *
  have hBB : BB 3 = 595 := by decide
  refine drawn_spec 3 (Ok.mono hA' (by first | decide | omega)) ⟨_, _, _, hh2⟩ hc2 hcut (by decide) (by decide) hcl fun t v k σ3 s3 hh3 hk0 hk1 hgood hd3 => ?_
  obtain ⟨l, ks, rfl⟩ := hgood.nd
  have hsm := hgood.sm
  have hwd := hsm.wid
  have hc3 := s3 _ _ hc2 (.inl rfl)
  repeat' tb_rel
  refine range_one ?_
  intro rr σ4 ta tb tc s4 fr4 hr4
  refine it_rng (j := 2) hr4 (by omega) (by omega) (by omega) ?_
  intro I σ5 s5 fr5 it5
  have hh5 : ∃ b t1 t2, σ5 hnd = some (.mls [.ref cs, .int k t1, .int b t2]) := by
    obtain ⟨b, t1, t2, e⟩ := hh3
    exact ⟨b, t1, t2, s5 _ _ (s4 _ _ e (.inr id)) (.inr id)⟩
  have hc5 := s5 _ _ (s4 _ _ hc3 (.inr id)) (.inr id)
  have hd5 := (hd3.keep s4.frz).keep s5.frz
  have frI : σ3 I = none := by
    cases q : σ3 I with
    | none => rfl
    | some o => rw [s4 _ _ q (.inr id)] at fr5; cases fr5
  refine for_rule hA' (fun ps m τ => ∃ (i j : Nat) (k9 : Int), ps = rangeItems (i : Nat) j ∧ i + j = 2 ∧ m (Str.ofString "hand") = some (.ref hnd) ∧ m (Str.ofString "drawn") = some v ∧ HandAt τ hnd cs k9 ∧ 0 ≤ k9 ∧ k9 ≤ 600 + 3 * i ∧ Stp (fun b => b = hnd) σ3 τ ∧ ∃ o, τ I = some o ∧ o.kp = false) ?_ ?_ ?_ _ _ _ ?_ it5
  · rintro p9 r9 m9 τ9 v9 τ10 ⟨i, j, k9, q1, q2, q3, q4, q5, q6, q7, q8, oI, q9, q10⟩ hv9 st9 it9
    cases j with
    | zero => cases q1
    | succ j =>
    obtain ⟨rfl, rfl⟩ := List.cons.inj q1
    obtain ⟨bh, th1, th2, hh9⟩ := q5
    have nI : ∀ {b o}, τ9 b = some o → o.kp = true → b ≠ I := fun e k z => by (first | rw [z, q9] at e | rw [← z, q9] at e); cases e; rw [k] at q10; cases q10
    have hh10 := st9 _ _ hh9 (nI hh9 rfl)
    have s10 : Stp (fun b => b = hnd) σ3 τ10 := fun b o e c => st9 b o (q8 b o e c) fun z => by (first | rw [z, frI] at e | rw [← z, frI] at e); cases e
    have hc10 := s10 _ _ hc3 (.inl rfl)
    have hd10 := hd3.keep s10.frz
    obtain ⟨o9, i1, i2, i3, i4⟩ := it9.at
    have key : ∀ τx, Stp (fun b => b = hnd) τ10 τx → ItR τx I (rangeItems ((i : Int) + 1) j) := fun τx sx => it9.stp sx
    clear hh9 hh5 hc5 hd5 it5 nI
    repeat' tb_rel
    rename_i sl τ11 s11 fr11 hsl t5 v5 tk5 tk5' τ12 s12 hh12 hv0 hv1
    refine i_pick (s12 _ _ hsl (.inl rfl)) hv0 (by omega) (side_tab hv0 hv1) ?_
    rintro _ ⟨sd, tsd, rfl, hsd⟩
    repeat' tb_rel
    rename_i t4 v4 tk4 tk4' τ13 s13 hh13 hu0 hu1 tq1 tq2 pa τ14 s14 fr14 hpa tq3 tq4 pb τ15 s15 fr15 hpb pl τ16 s16 fr16 hpl tq5 v2 tk2 tk2' τ17 s17 hh17 hw0 hw1
    obtain ⟨up, rfl⟩ : ∃ up : Nat, v4 = (up : Int) := ⟨v4.toNat, by omega⟩
    have pa17 := s17 _ _ (s16 _ _ (s15 _ _ hpa (.inr id)) (.inr id)) (.inl rfl)
    have pb17 := s17 _ _ (s16 _ _ hpb (.inr id)) (.inl rfl)
    refine i_pick (s17 _ _ hpl (.inl rfl)) hw0 (by omega) (way_tab hw0 hw1 pa17 pb17) ?_
    rintro _ ⟨pw9, sg, mk, tsg, tmk, rfl, hpw, hsm9⟩
    have s17' : Stp (fun b => b = hnd) τ10 τ17 := by top_name
    clear s11 s12 s13 s14 s15 s16 s17 hh12 hh13 hpa hpb hpl pa17 pb17 hsl fr11 fr14 fr15 fr16
    have k17 := key _ s17'
    have d17 := hd10.keep s17'.frz
    have s317 := s10.trans s17'
    repeat' tb_rel
    rename_i tr tl fl σf sf frf hfl
    refine it_lst (by tb_start) fun J σ8 s8 fr8 it8 => ?_
    have s78 : Stp No τ17 σ8 := sf.trans s8
    have frJ : τ17 J = none := by
      cases q : τ17 J with
      | none => rfl
      | some o => rw [sf _ _ q (.inr id)] at fr8; cases fr8
    refine for_rule hA' (fun ps m τ => ∃ v2 : List Value, ps = v2.map (fun v => (· = v)) ∧ (∀ x ∈ v2, ∃ (b : Bool) (t : Tok), x = .str (Str.ofString (if b then "right" else "left")) t) ∧ m (Str.ofString "hand") = some (.ref hnd) ∧ LawM m v sd up sg mk ∧ Stp No τ17 τ ∧ ∃ o, τ J = some o ∧ o.kp = false) ?_ ?_ ?_ _ _ _ ?_ it8
    · rintro p8 r8 m8 τa x8 τb ⟨v2, e1, e2, e3, e4, e5, oJ, e6, e7⟩ hx8 sb itb
      cases v2 with
      | nil => cases e1
      | cons x v2 =>
      obtain ⟨rfl, rfl⟩ := List.cons.inj e1
      cases hx8
      obtain ⟨b, tb, rfl⟩ := e2 _ (.head _)
      have s7b : Stp No τ17 τb := fun b o e c => sb b o (e5 b o e c) fun z => by (first | rw [z, frJ] at e | rw [← z, frJ] at e); cases e
      have db := d17.keep s7b.frz
      have w1 := e4.drawn
      obtain ⟨_, w2⟩ := e4.side
      obtain ⟨_, w3⟩ := e4.up
      obtain ⟨_, w4⟩ := e4.sign
      obtain ⟨_, w5⟩ := e4.mark
      obtain ⟨csn, cmn, hS⟩ := sgn_tab (b := b) (h := if sd = 99 then 999 else sd) (show up ≤ 8 by omega) hsm9
      have hsgl : sg.length = 1 := by rw [show sg = one csn from hS.s]; rfl
      have hmkl : mk.length = 1 := by rw [show mk = one cmn from hS.m]; rfl
      repeat' tb_rel
      refine tree_spec 4 hwd (Ok.mono hA' (by first | decide | omega)) db fun tv fs σa sa hta hna hfa => ?_
      obtain ⟨r, rfl⟩ : ∃ r, tv = .ref r := by obtain ⟨a, c, vs, f, rfl, _⟩ := hta; exact ⟨_, rfl⟩
      repeat' tb_rel
      refine pick_none (by kbo_bools) ?_
      repeat' tb_rel
      refine cnf_spec (t := .n l ks) (V := ⟨b, if sd = 99 then 999 else sd, up, sg, mk⟩) (Ok.mono hA' (by first | decide | omega)) hsm hta hna ?_ (by show up ≤ 3; omega) (Nat.le_of_eq hsgl) (Nat.le_of_eq hmkl) fun σc fs' sc' htc hnc hfc => ?_
      · by_cases h9 : sd = 99
        · exact .inl ⟨by rw [if_pos h9], by show (if sd = 99 then 999 else sd) = 999; rw [if_pos h9]⟩
        · exact .inr ⟨_, by rw [if_neg h9]; show _ = Value.int ((if sd = 99 then 999 else sd : Nat) : Int) _; rw [if_neg h9]⟩
      have nfs : ∀ {x : Addr} {o : AO}, τb x = some o → x ∉ fs := fun e hx => by rw [hfa _ hx] at e; cases e
      have nfs' : ∀ {x : Addr} {o : AO}, τb x = some o → x ∉ fs' := fun e hx => by
        rcases hfc _ hx with y | y
        · exact nfs e y
        · rw [sa _ _ e (.inr id)] at y; cases y
      have sbc : Stp No τb σc := fun x o e c => sc' x o (sa x o e c) (.inr (nfs e))
      have dc := db.keep sbc.frz
      repeat' tb_rel
      refine plain_spec 12 (cnf_wid _ hsm _ _) (Ok.mono hA' (by first | decide | omega)) htc fun v1 σp sp hd1 => ?_
      have dp := dc.keep sp.frz
      have htp := htc.no sp
      repeat' tb_rel
      rename_i el σe se fre hel we σw sw frw hwe
      have hel' := sw _ _ hel (.inr id)
      have sew : Stp No σp σw := se.trans sw
      refine marked_spec 4 (V := ⟨b, if sd = 99 then 999 else sd, up, sg, mk⟩) (t := .n l ks) (root := true) (par := [l]) (ab := []) hgood.mk (by show up ≤ 8; omega) hsgl hmkl (Ok.mono hA' (by first | decide | omega)) (hd1.keep sew.frz) (dp.keep sew.frz) hel' .nil nofun (by simp) (.inl ⟨rfl, rfl, rfl⟩) ⟨_, _, _, _, _, _, _, hwe, ?_, Int.natCast_nonneg _, ?_⟩ fun σm sm => ?_
      · cases b with
        | true => exact .inl ⟨rfl, rfl⟩
        | false => exact .inr ⟨rfl, rfl⟩
      · by_cases h9 : sd = 99
        · exact .inr ⟨by rw [h9]; rfl, by show (if sd = 99 then 999 else sd) = 999; rw [if_pos h9]⟩
        · exact .inl (by show (sd : Int) = ((if sd = 99 then 999 else sd : Nat) : Int); rw [if_neg h9])
      have htm := (htp.no sew).no sm
      have dm := (dp.keep sew.frz).keep sm.frz
      have sbm : Stp No τb σm := ((sbc.trans sp).trans sew).trans sm
      repeat' tb_rel
      rw [if_neg (by decide)]
      repeat' tb_rel
      refine un_spec (V := ⟨b, if sd = 99 then 999 else sd, up, sg, mk⟩) (Ok.mono hA' (by first | decide | omega)) hS (hgood.cl hS.cs hS.cm) htm hnc fun σu fs'' su htu hnu hfu => ?_
      have sbu : Stp No τb σu := fun x o e c => su x o (sbm x o e (.inr id)) (.inr (nfs' e))
      have du := dm.keep su.frz
      repeat' tb_rel
      refine plain_spec 4 hwd (Ok.mono hA' (by first | decide | omega)) htu fun v3 σq sq hd3' => ?_
      have dq := du.keep sq.frz
      have sbq : Stp No τb σq := sbu.trans sq
      repeat' tb_rel
      refine ne_dr (n := 3) (Ok.mono hA' (by first | decide | omega)) hwd hd3' dq ?_
      repeat' tb_rel
      rw [if_neg (by decide)]
      repeat' tb_rel
      obtain ⟨o8, j1, j2, j3, j4⟩ := itb.at
      exact ⟨⟨v2, rfl, fun x hx => e2 x (.tail _ hx), by kbo_bools, (e4.put (by decide)).put (by decide), s7b.trans sbq, o8, sbq _ _ j1 (.inr id), j3⟩, itb.stp sbq⟩
    · rintro m8 τa τb ⟨v2, e1, e2, e3, e4, e5, oJ, e6, e7⟩ sb
      have s7b : Stp No τ17 τb := fun b o e c => sb b o (e5 b o e c) fun z => by (first | rw [z, frJ] at e | rw [← z, frJ] at e); cases e
      have hhb := s7b _ _ hh17 (.inr id)
      refine x_nil ?_
      refine x_nil ?_
      exact ⟨⟨i + 1, j, _, rfl, by omega, e3, e4.drawn, ⟨_, _, _, hhb⟩, by omega, by push_cast; omega, s317.trans s7b.no, o9, s7b _ _ (s17' _ _ i1 (.inl i2)) (.inr id), i3⟩, k17.stp s7b⟩
    · exact fun v => by rfl
    · exact ⟨_, rfl, fun x hx => by
        rcases List.mem_cons.mp hx with rfl | hx
        · exact ⟨true, _, rfl⟩
        · cases List.mem_singleton.mp hx; exact ⟨false, _, rfl⟩, by kbo_bools, ⟨by kbo_bools, ⟨_, by kbo_bools⟩, ⟨_, by kbo_bools⟩, ⟨_, by kbo_bools⟩, ⟨_, by kbo_bools⟩⟩, s78, (let ⟨o, a1, a2, a3, a4⟩ := it8.at; ⟨o, a1, a3⟩)⟩
  · rintro m9 τ9 τ10 ⟨i, j, k9, q1, q2, q3, q4, q5, q6, q7, q8, oI, q9, q10⟩ st9
    have s10 : Stp (fun b => b = hnd) σ3 τ10 := fun b o e c => st9 b o (q8 b o e c) fun z => by (first | rw [z, frI] at e | rw [← z, frI] at e); cases e
    refine x_nil ?_
    show W _ _ _ (execs _ _) _ _ _
    repeat' tb_rel
    rfl
  · exact fun v => by rfl
  · exact ⟨0, 2, k, rfl, rfl, by kbo_bools, by kbo_bools, hh5, by omega, by omega, fun b o e c => s5 b o (s4 b o e (.inr id)) (.inr id), (let ⟨o, a1, a2, a3, a4⟩ := it5.at; ⟨o, a1, a3⟩)⟩
end

set_option maxHeartbeats 8000000
noncomputable def vw : Program := view PySem.Challenge.pw_be0029_01 [0, 2, 3, 8, 9, 10, 11, 12, 13, 14]
noncomputable def HK : Hook := kHook KK KKa (fun _ => by exact rfl)
theorem kk38 (P : Params) : (KK P).lookup 38 = some ktab := rfl
theorem kk165 (P : Params) : (KK P).lookup 165 = some ktab := rfl
theorem law_at : ∀ P, nsIn (KB P) mainGlobals (Str.ofString "law") = some (some (.ref 209)) := fun P => by kernel_rfl
theorem kk_of {P : Params} {a : Addr} {o : Obj} (h : (KB P).lookup a = some o) : (KK P).lookup a = some o := by
  show List.lookup a ((38, ktab) :: (165, ktab) :: KB P) = some o
  have n1 : (a == 38) = false := by
    cases q : a == 38 with
    | false => rfl
    | true => rw [eq_of_beq q] at h; exact absurd h (by rw [show (KB P).lookup 38 = none from rfl]; nofun)
  have n2 : (a == 165) = false := by
    cases q : a == 165 with
    | false => rfl
    | true => rw [eq_of_beq q] at h; exact absurd h (by rw [show (KB P).lookup 165 = none from rfl]; nofun)
  rw [List.lookup_cons, n1, List.lookup_cons, n2]
  exact h
theorem tab42 {P : Params} {h : Heap} {ps : Array Value} (X : (KB P).In h) (e : h.get? 38 = some (tabO ps)) : h.TableAt 42 38 ps := ⟨⟨_, _, X 42 _ rfl, rfl, rfl, rfl⟩, e⟩
theorem tab167 {P : Params} {h : Heap} {ps : Array Value} (X : (KB P).In h) (e : h.get? 165 = some (tabO ps)) : h.TableAt 167 165 ps := ⟨⟨_, _, X 167 _ rfl, rfl, rfl, rfl⟩, e⟩
theorem ints_of {vs : List Value} {ns : List Int} (h : IntsAre vs ns) : Ints vs ∧ vs.length = ns.length := by
  induction h with
  | nil => exact ⟨nofun, rfl⟩
  | cons n t h ih =>
    refine ⟨fun v hv => ?_, by simp [ih.2]⟩
    rcases List.mem_cons.mp hv with rfl | hv
    · exact ⟨n, t, rfl⟩
    · exact ih.1 v hv
theorem law_end {w : World} {s₁ : Shared} {p : Program} {loose : List Str} {mg mb : Str → Option Value} {bm sc : Addr} {ob : Obj} {vs : List Value} {R : Except Value Flow → Shared → Prop} (KX : (KK w.params).In s₁.heap) (T : TopRead p loose mg mb s₁.heap) (M : BMod s₁.heap mainGlobals mg bm ob) (hg : s₁.gens = #[])
    (hsc : s₁.heap.IsList sc vs.toArray) (hi : Ints vs) (hz : vs.length ≤ 1000) (hR : ∀ s', OldK s₁.heap s'.heap → s'.os = s₁.os → AllBare s'.gens → R (.ok (.ret (.bool true))) s') : codeAny (MM w) callerA (.call (.ref 209) ⟨[.ref sc], []⟩) R s₁ := by
  have t38 : s₁.heap.get? 38 = some ktab := KX 38 _ (kk38 _)
  have t165 : s₁.heap.get? 165 = some ktab := KX 165 _ (kk165 _)
  have gh : ∀ {b o}, s₁.heap.get? b = some o → o ≠ ktab → (hideAll s₁.heap [38, 165]).get? b = some o := fun {b o} e hn => hideAll_get _ e fun hm => by
    rcases List.mem_cons.mp hm with rfl | hm
    · rw [t38] at e; exact hn (Option.some.inj e).symm
    · obtain rfl := List.mem_singleton.mp hm
      rw [t165] at e; exact hn (Option.some.inj e).symm
  have gns : ∀ {a : Addr} {mm : Str → Option Value}, s₁.heap.Ns a mm → (hideAll s₁.heap [38, 165]).Ns a mm := fun ⟨o, es, ep, e, hd, r⟩ => ⟨o, es, ep, gh e (fun q => by rw [q] at hd; cases hd), hd, r⟩
  have XB : (KB w.params).In s₁.heap := fun a o e => KX a o (kk_of e)
  have XH : (KB w.params).In (hideAll s₁.heap [38, 165]) := fun a o e => hideAll_get _ (XB a o e) fun hm => by
    rcases List.mem_cons.mp hm with rfl | hm
    · exact absurd e (by rw [show (KB w.params).lookup 38 = none from rfl]; nofun)
    · obtain rfl := List.mem_singleton.mp hm
      exact absurd e (by rw [show (KB w.params).lookup 165 = none from rfl]; nofun)
  have big : 210 ≤ s₁.heap.objs.size := Heap.lt_size (XB 209 _ rfl)
  let Γ : Cx := ⟨w, hideAll s₁.heap [38, 165], s₁.os, #[]⟩
  have G : Gd Γ := ⟨XH, ⟨p, loose, mg, mb, gns T.g, gns T.b, (let ⟨mc, a, r⟩ := T.nolimit; ⟨mc, gns a, r⟩), T.builtins, T.free⟩, hideAll_none _ (.head _), hideAll_none _ (.tail _ (.head _)), Nat.le_trans big (Nat.le_of_eq (hideAll_size _ _).symm),
    ⟨mg, bm, ob, gns M.ns, M.name, M.ne, gh M.obj (fun q => by have := M.cls; rw [q] at this; cases this), M.cls, M.dict, M.data⟩⟩
  refine law_spec (Γ := Γ) ⟨rfl, by decide, by decide⟩ G (fun b o e => of_hideAll _ e) (Nat.le_of_eq (hideAll_size _ _)) ⟨⟨#[], t38, trivial⟩, ⟨#[], t165, trivial⟩⟩ (.of_eq hg) rfl rfl (let ⟨o, e, hc, r⟩ := hsc; ⟨o, gh e (fun q => by rw [q] at hc; cases hc), hc, r⟩) hi hz fun L' m' σ' s' S' => ?_
  have K' := S'.K
  obtain ⟨⟨p1, u1, _⟩, ⟨p2, u2, _⟩⟩ := S'.tabs
  have key : ∀ b o, s₁.heap.get? b = some o → (b = 38 ∧ o = ktab) ∨ (b = 165 ∧ o = ktab) ∨ s'.heap.get? b = some o := fun b o e => by
    by_cases h1 : b = 38
    · subst h1; rw [t38] at e; exact .inl ⟨rfl, (Option.some.inj e).symm⟩
    · by_cases h2 : b = 165
      · subst h2; rw [t165] at e; exact .inr (.inl ⟨rfl, (Option.some.inj e).symm⟩)
      · exact .inr (.inr (S'.keep _ _ (hideAll_get _ e (by simp [h1, h2]))))
  refine hR s' ⟨fun b o e => ?_, fun b o e => ?_⟩ S'.os S'.bare
  · rcases key b o e with ⟨rfl, rfl⟩ | ⟨rfl, rfl⟩ | q
    · exact .inr (.inl ⟨(tab42 XB t38).isCodeTable, rfl, #[], p1, rfl, by rw [u1]; simp [tabO, ktab]⟩)
    · exact .inr (.inl ⟨(tab167 XB t165).isCodeTable, rfl, #[], p2, rfl, by rw [u2]; simp [tabO, ktab]⟩)
    · exact .inl q
  · rcases key b o e with ⟨rfl, rfl⟩ | ⟨rfl, rfl⟩ | q
    · exact ⟨_, u1⟩
    · exact ⟨_, u2⟩
    · exact ⟨_, q⟩
theorem law_said : OpenLaw.wellSaid PySem.Challenge.rw_be0029_01 = true := (congrFun PySem.W.Fast.te9446332074065402090 _).trans (by kernel_rfl)
end Mine
open Mine in
theorem PySem.Challenge.cw_be0029_01_holds : PySem.Challenge.rw_be0029_01.Holds := by
  w_on
  refine holds_law law_said fun said => ?_
  refine holds_open (q := vw) (loose := [Str.ofString "chomsky_normal_form", Str.ofString "un_chomsky_normal_form"]) (Xt := fun s => xlAt vw [] s && recOk (RowW.records PySem.Challenge.rw_be0029_01.row.toRowW) s) (XP := XL vw []) (Yf := Hook.obs HK) (Ya := Hook.val HK) (YP := Hook.says HK) (N := 2254) ?hl (Hook.of HK) (Hook.keeps HK) (fun s e => xl_of s (Bool.and_eq_true_iff.mp e).1) XL.keeps (by rfl) (by rfl) (by rfl) (fun s e => recFacts_of (Bool.and_eq_true_iff.mp e).2) (by rfl) (by first | assumption | decide +kernel) (by decide +kernel) ⟨rfl, rfl, rfl, rfl, rfl, by decide +kernel⟩ ?hw ?hc
  case hl =>
    intro w
    kernel_rfl
  case hw => w_witness2
  case hc =>
    intro w s₀ s₁ mg mb G Y fa o pm cd doc dV kV ho hd hcd hD hmg hg args vals as hpre hlay hrd hwl hlo
    have KX := kIn_of Y
    refine Ground.open G ?_
    intro T B D TE TW
    obtain ⟨_, _, M⟩ := bmod_of_top T
    wrow_args hpre hlay hrd hwl hlo
    all_goals (
      first | refine callC_kw (enter_call ?_) | refine enter_call ?_ | refine callC_kw (enter_callW ?_) | refine enter_callW ?_ | w_how
      w_top on)
    have e209 : fa = 209 := by
      have e := mg_of (K := KB w.params) (fun a o e => KX a o (kk_of e)) T.g (law_at _)
      have e2 : mg (Str.ofString "law") = some (.ref fa) := hmg
      rw [e] at e2
      cases e2; rfl
    subst e209
    rename_i xs _ _ _ _ _ _ _ sc vs _ hLs _ _ _ hIs _ hc63 _
    refine law_end KX (topRead_of T) M hg hLs ?_ ?_ ?_
    · exact (ints_of hIs).1
    · have := (ints_of hIs).2
      omega
    · intro s' h1 h2 h3
      exact ⟨.inl ⟨.bool true, .bool true, [], rfl, fun cls => by rfl, .bool _, by kernel_rfl, fun _ => ⟨.nil, nofun⟩⟩, h1, h2, h3⟩
